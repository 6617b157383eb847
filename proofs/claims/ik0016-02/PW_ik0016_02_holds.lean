import PyProof.Rows.All
import Wide.All
import OpenK.AllK
import Wide.FinOn
import PySem.Challenge.RW_ik0016_02
set_option Elab.async false
section
open PySem PySem.W PyProof.Rows
set_option maxRecDepth 100000
set_option maxHeartbeats 8000000
namespace Mine
open_top hd2 for PySem.Challenge.rw_ik0016_02
end Mine
end
section
open PySem PySem.W PyProof.Rows
namespace Mine

abbrev Ct (prog : Program) (w : World) (K : Frag) (p : Program) (loose : List Str) (mean : ExcName → Option Value) (mg mb : Str → Option Value) (k : Nat) (f : Addr) (news : List (Addr × Obj)) (vs : List Value) (R : Tok → Value) : Prop :=
  ∀ (dp un : Nat) (gd : Option (List Code)) (cn : Str) (cs : Scope) (a : Addr) (ccd : Value) (cl : List (Str × Addr)) (outer : List Env) (A₀ : Around) (base h₀ : Heap) (L : Addr) (m : Str → Option Value) (s : Shared) (Q E : Value → Shared → Prop),
    Below A₀ base outer h₀ → Fr h₀ L s.heap m → K.In h₀ → News h₀ L s.heap news → Top p loose mean mg mb h₀ → cs.kind = .function →
    dp + k < recursionLimit → un + 16 * k < cLine → CbRet h₀ L m news s Q R →
      wpAny (model prog w) (ktrTop dp un gd cn cs L a ccd cl outer) (call (.ref f) vs) Q E s

theorem ct_use {prog : Program} {w : World} {K : Frag} {p : Program} {loose : List Str} {mean : ExcName → Option Value} {mg mb : Str → Option Value} {k : Nat} {f : Addr} {news : List (Addr × Obj)} {vs : List Value} {R : Tok → Value} (C : Ct prog w K p loose mean mg mb k f news vs R)
    {dp un : Nat} {gd : Option (List Code)} {cn : Str} {cs : Scope} {a : Addr} {ccd : Value} {cl : List (Str × Addr)} {outer : List Env} {A₀ : Around} {base h₀ : Heap} {L : Addr} {m : Str → Option Value} {s : Shared} {Q E : Value → Shared → Prop}
    (B : Below A₀ base outer h₀) (F : Fr h₀ L s.heap m) (X : K.In h₀) (N : News h₀ L s.heap news) (T : Top p loose mean mg mb h₀) (hk : cs.kind = .function) (hd : dp + k < recursionLimit) (hu : un + 16 * k < cLine) (ret : CbRet h₀ L m news s Q R) :
    wpAny (model prog w) (ktrTop dp un gd cn cs L a ccd cl outer) (call (.ref f) vs) Q E s := C _ _ _ _ _ _ _ _ _ _ _ _ _ _ _ _ _ B F X N T hk hd hu ret

/-- the words of Int2AP -/
def ap (n : Nat) : List UInt8 := if h : n = 0 then [] else ap (n / 16) ++ [UInt8.ofNat (65 + n % 16)]
termination_by n
decreasing_by omega

theorem ap_zero : ap 0 = [] := by rw [ap]; simp
theorem ap_pos {n : Nat} (h : n ≠ 0) : ap n = ap (n / 16) ++ [UInt8.ofNat (65 + n % 16)] := by
  rw [ap]; simp [h]

theorem ap_start (n : Int) (u : Int) (hu : u = if n < 0 then -n else n) : 0 ≤ u ∧ ap u.toNat ++ (#[] : Array UInt8).toList = ap n.natAbs := by
  have e : u = (n.natAbs : Int) := by rw [hu]; split <;> omega
  subst e
  refine ⟨by omega, ?_⟩
  simp

theorem ap_turn {x : Int} {v : Array UInt8} {W : List UInt8} (h0 : 0 ≤ x) (h1 : ap x.toNat ++ v.toList = W) (h2 : x ≠ 0) :
    0 ≤ x.fdiv 16 ∧ ap (x.fdiv 16).toNat ++ (#[UInt8.ofNat (65 + (x.fmod 16).toNat)] ++ v).toList = W := by
  have e1 : x.fdiv 16 = x / 16 := Int.fdiv_eq_ediv_of_nonneg _ (by decide)
  have e2 : x.fmod 16 = x % 16 := Int.fmod_eq_emod_of_nonneg _ (by decide)
  rw [e1, e2]
  refine ⟨by omega, ?_⟩
  rw [ap_pos (n := x.toNat) (by omega)] at h1
  have e3 : (x / 16).toNat = x.toNat / 16 := by omega
  have e4 : (x % 16).toNat = x.toNat % 16 := by omega
  rw [e3, e4, ← h1]
  simp

theorem ap_len {n : Nat} : ∀ k, n < 16 ^ k → (ap n).length ≤ k := by
  intro k
  induction k generalizing n with
  | zero => intro h; have : n = 0 := by simpa using h
            subst this; simp [ap_zero]
  | succ k ih =>
    intro h
    by_cases h0 : n = 0
    · subst h0; simp [ap_zero]
    · rw [ap_pos h0, List.length_append]
      have := ih (n := n / 16) (by rw [Nat.pow_succ] at h; omega)
      simp only [List.length_cons, List.length_nil]; omega

theorem ap_less {x : Int} (h0 : 0 ≤ x) (h2 : x ≠ 0) : (x.fdiv 16).toNat < x.toNat := by
  have e1 : x.fdiv 16 = x / 16 := Int.fdiv_eq_ediv_of_nonneg _ (by decide)
  rw [e1]; omega

theorem ap_size {x : Int} {v : Array UInt8} {W : List UInt8} (h1 : ap x.toNat ++ v.toList = W) (hW : W.length ≤ 1000) : v.size ≤ 1000 := by
  have := congrArg List.length h1
  rw [List.length_append] at this
  have e : v.toList.length = v.size := Array.length_toList
  omega

theorem ap_fits {x : Int} {v : Array UInt8} {W : List UInt8} {b : UInt8} (h1 : ap x.toNat ++ v.toList = W) (hW : W.length ≤ 1000) : (#[b] : Array UInt8).size + v.size ≤ 16777216 := by
  have := ap_size h1 hW
  have e : (#[b] : Array UInt8).size = 1 := rfl
  omega

theorem ap_end {x : Int} {v : Array UInt8} {W : List UInt8} (h0 : x = 0) (h1 : ap x.toNat ++ v.toList = W) : v = W.toArray := by
  subst h0
  rw [Int.toNat_zero, ap_zero, List.nil_append] at h1
  rw [← h1]

theorem cb_retBy {h₀ h' : Heap} {L : Addr} {m : Str → Option Value} {news : List (Addr × Obj)} {s : Shared} {Q : Value → Shared → Prop} {t : Tok} {tk' : Nat} {x y : Array UInt8} (hret : ∀ (t : Tok) (h' : Heap) (tk' : Nat), Fr h₀ L h' m → News h₀ L h' news → Q (.bytes x t) { s with heap := h', toks := tk' }) (e : y = x) (F : Fr h₀ L h' m) (N : News h₀ L h' news) : Q (.bytes y t) { s with heap := h', toks := tk' } := by
  subst e
  exact hret t h' tk' F N

theorem fmod16 (x : Int) : 0 ≤ x.fmod 16 ∧ x.fmod 16 < 16 := by
  have e2 : x.fmod 16 = x % 16 := Int.fmod_eq_emod_of_nonneg _ (by decide)
  rw [e2]; omega

theorem ap_picked (m : Int) (h0 : 0 ≤ m) (h1 : m < 16) : KBy.picked #[65, 66, 67, 68, 69, 70, 71, 72, 73, 74, 75, 76, 77, 78, 79, 80] (some m) (some (m + 1)) = #[UInt8.ofNat (65 + m.toNat)] := by
  have : m = 0 ∨ m = 1 ∨ m = 2 ∨ m = 3 ∨ m = 4 ∨ m = 5 ∨ m = 6 ∨ m = 7 ∨ m = 8 ∨ m = 9 ∨ m = 10 ∨ m = 11 ∨ m = 12 ∨ m = 13 ∨ m = 14 ∨ m = 15 := by omega
  rcases this with h | h | h | h | h | h | h | h | h | h | h | h | h | h | h | h <;> subst h <;> decide +kernel

section
variable {prog : Program} {w : World} {A : Around} {E : Value → Shared → Prop} {s : Shared} {value slice : PySem.Expr} {t t1 t2 : Tok} {h₀ : Heap} {L : Addr} {m : PySem.Str → Option Value} {news : List (Addr × Obj)} {x : Int} {Q : Value → Shared → Prop}
theorem slice_ap (hF : Fr h₀ L s.heap m) (hN : News h₀ L s.heap news)
    (h : ∀ h' t' k, Fr h₀ L h' m → News h₀ L h' news → Q (.bytes #[UInt8.ofNat (65 + (x.fmod 16).toNat)] t') { s with heap := h', toks := k })
    (hs : subscripted slice false (.bytes #[65, 66, 67, 68, 69, 70, 71, 72, 73, 74, 75, 76, 77, 78, 79, 80] t) (.ref s.heap.objs.size) = operate [.ref s.heap.objs.size, .bytes #[65, 66, 67, 68, 69, 70, 71, 72, 73, 74, 75, 76, 77, 78, 79, 80] t] (getItem (.bytes #[65, 66, 67, 68, 69, 70, 71, 72, 73, 74, 75, 76, 77, 78, 79, 80] t) (.ref s.heap.objs.size)))
    (ht : ∀ r, letTemporaryGo value (.bytes #[65, 66, 67, 68, 69, 70, 71, 72, 73, 74, 75, 76, 77, 78, 79, 80] t) r = pure ()) :
    wpAny (model prog w) A (subscriptTail value slice (.bytes #[65, 66, 67, 68, 69, 70, 71, 72, 73, 74, 75, 76, 77, 78, 79, 80] t) (.ref s.heap.objs.size)) Q E { s with heap := s.heap.push { cls := .type "slice", data := .fields #[.int (x.fmod 16) t1, .int (x.fmod 16 + 1) t2, .none] } } := by
  refine KBc.slice_K hF hN rfl (.int _ _) (.int _ _) (by rw [KBw.ints_length]; decide) ?_ hs ht
  intro h' t' k F' N' _
  rw [ap_picked _ (fmod16 x).1 (fmod16 x).2]
  exact h h' t' k F' N'
end


end Mine
end
section
open PySem PySem.W PySem.Calls PyProof.Rows PyProof.V PySem.Spec
set_option maxRecDepth 100000
namespace Mine

/-- one entry of a dict of texts, its tokens told -/
structure Ent where
  k : Str
  tk : Tok
  v : Str
  tv : Tok

def Ent.at (w : World) (p : Ent) : DictEntry := ⟨hashStr w p.k, .str p.k p.tk, .str p.v p.tv⟩
def Ent.kv (p : Ent) : Str × Value := (p.k, .str p.v p.tv)
abbrev entObj (w : World) (P : List Ent) (n : Nat) : Obj := { cls := .type "dict", data := .dict (P.map (Ent.at w)).toArray n }

section
variable {prog : Program} {w : World} {A : Around} {E : Value → Shared → Prop} {s : Shared}

theorem ent_keys (P : List Ent) : KeysOf (strKind prog w) (P.map (Ent.at w)).toArray := by
  intro e he
  simp only [List.mem_toArray, List.mem_map] at he
  obtain ⟨p, _, rfl⟩ := he
  exact ⟨p.k, strKind_is prog w _ _, rfl⟩

theorem ent_pairs : ∀ P : List Ent, Pairs (strKind prog w) (P.map (Ent.at w)) (P.map Ent.kv)
  | [] => .nil
  | p :: P => .cons (e := p.at w) (kv := p.kv) (strKind_is prog w _ _) rfl (ent_pairs P)

theorem ent_dictAt {h : Heap} {d : Addr} {P : List Ent} {n : Nat} (hd : h.get? d = some (entObj w P n)) (hn : (P.map Ent.k).Nodup) : h.DictAt (strKind prog w) d (P.map Ent.kv) n :=
  ⟨_, _, hd, ⟨rfl, rfl, rfl⟩, rfl, ent_keys P, by rw [List.toList_toArray]; exact ent_pairs P, by rw [List.map_map]; exact hn⟩

/-- the next pair of a dict's items: its key's token is told -/
theorem next_ent {it d : Addr} {i ep : Nat} {P : List Ent} {p : Ent} {ok ov : Value} {Q : Option Value → Shared → Prop} (hit : IsItemIter s.heap it d i P.length ep ok ov)
    (hd : s.heap.get? d = some (entObj w P ep)) (hx : P[i]? = some p)
    (hQ : ∀ h', IsItemIterOut h' it d (i + 1) P.length ep (.str p.k p.tk) (.str p.v p.tv) s.heap.objs.size →
      h'.get? s.heap.objs.size = some { cls := .type "tuple", data := .seq #[.str p.k p.tk, .str p.v p.tv] } →
      (∀ b o, b ≠ it → s.heap.get? b = some o → h'.get? b = some o) → Q (some (.ref s.heap.objs.size)) { s with heap := h' }) :
    wpAny (model prog w) A (pyNext (.ref it)) Q E s := by
  obtain ⟨hp, g, dr, tk, os⟩ := s
  have hT : ∀ h₁ : Heap, (∃ o : Obj, h₁.get? it = some o ∧ o.cls = .type "dict_itemiterator") → Shared.TypeIs ⟨h₁, g, dr, tk, os⟩ (.ref it) "dict_itemiterator" := fun _ ⟨o, a, b⟩ => ⟨o, a, b⟩
  have hT0 := hT hp ⟨_, hit, rfl⟩
  have hil : it < hp.objs.size := Heap.lt_size hit
  have hlt : i < P.length := (List.getElem?_eq_some_iff.mp hx).1
  have hes : (P.map (Ent.at w)).toArray.size = P.length := by simp
  have hlt' : i < (P.map (Ent.at w)).toArray.size := by rw [hes]; exact hlt
  have hei : (P.map (Ent.at w)).toArray[i] = p.at w := by
    have e := (List.getElem?_eq_some_iff.mp hx).2
    simp [e]
  have hown : Builtin.Dict_items.ownsTuple "dict_itemiterator" = true := by decide
  unfold pyNext
  refine wpAny_bind (wpAny_attempt (wpAny_callSpecial?_slot (name := Str.ofString "__next__") hT0 F.slot_dict_itemiterator_next
    (wpAny_call_entry F.slot_dict_itemiterator_next hT0 F.entry_dict_itemiterator_next ?_ (F.args_dict_itemiterator_next_1 _))))
  refine wpAny_bind (wpAny_pure ?_)
  refine wpAny_bind ?_
  refine wpAny_bind ?_
  first | refine wpAny_bind (wpAny_typeNameOfWhole_itemiter hT0 (wpAny_pure ?_)) | refine wpAny_bind (wpAny_typeNameOf_itemiter hT0 (wpAny_pure ?_))
  refine wpAny_bind (wpAny_fieldsOf hit rfl ?_)
  simp only [hown, if_true]
  show wpAny _ _ (if (Value.ref d == Value.none) = true then _ else _) _ _ _
  rw [if_neg (show ¬ ((Value.ref d == Value.none) = true) from Bool.false_ne_true)]
  refine wpAny_bind (wpAny_pure ?_)
  refine wpAny_bind (wpAny_dictEntries hd rfl ?_)
  rw [if_neg (by rw [hes]; simp)]
  refine wpAny_bind (wpAny_pure ?_)
  refine wpAny_bind (wpAny_dictEpoch hd rfl ?_)
  rw [if_neg (by simp)]
  refine wpAny_pure ?_
  simp only [show ¬ ((i : Int) < 0) from by omega, if_false, Int.toNat_natCast, Array.getElem?_eq_getElem hlt', hei]
  refine wpAny_bind ?_
  first | refine wpAny_bind (wpAny_typeNameOfWhole_itemiter hT0 (wpAny_pure ?_)) | refine wpAny_bind (wpAny_typeNameOf_itemiter hT0 (wpAny_pure ?_))
  refine wpAny_bind (wpAny_isOneOf_itemiter hT0 ?_)
  show wpAny _ _ (setField (.ref it) 3 (rawInt ((i : Int) + 1)) >>= _) _ _ ⟨hp, g, dr, tk, os⟩
  refine wpAny_bind (wpAny_setField_rec hit (by simp) fun h₁ he₁ hs₁ => ?_)
  have hx₁ : IsItemIter h₁ it d (i + 1) P.length ep ok ov := by
    have e : ((i + 1 : Nat) : Int) = (i : Int) + 1 := by omega
    unfold IsItemIter; rw [e]; simpa [rawInt] using he₁
  have hb₁ : ∀ b o, b ≠ it → hp.get? b = some o → h₁.get? b = some o := fun b o hb e => Heap.SameBut.extBut hs₁ b o hb e
  have hz₁ : h₁.objs.size = hp.objs.size := hs₁.1
  clear he₁ hs₁
  have hT1 := hT h₁ ⟨_, hx₁, rfl⟩
  refine wpAny_bind (wpAny_holding ?_)
  refine wpAny_bind (wpAny_isOneOf_itemiter hT1 ?_)
  refine wpAny_bind (wpAny_isOneOf_itemiter hT1 ?_)
  show wpAny _ _ (Builtin.Dict_items.pairFromOwner (.ref it) 6 (.str p.k p.tk) (.str p.v p.tv)) _ _ ⟨h₁, g, dr, tk, os⟩
  unfold Builtin.Dict_items.pairFromOwner
  refine wpAny_bind (wpAny_newTuple ?_)
  have hx₂ : IsItemIter (h₁.push { cls := .type "tuple", data := .seq #[.str p.k p.tk, .str p.v p.tv] }) it d (i + 1) P.length ep ok ov := Heap.get?_push_of_some _ hx₁
  have ht₂ : (h₁.push { cls := .type "tuple", data := .seq #[.str p.k p.tk, .str p.v p.tv] }).get? hp.objs.size = some { cls := .type "tuple", data := .seq #[.str p.k p.tk, .str p.v p.tv] } := by rw [← hz₁]; exact Heap.get?_push_size _ rfl
  have hb₂ : ∀ b o, b ≠ it → hp.get? b = some o → (h₁.push { cls := .type "tuple", data := .seq #[.str p.k p.tk, .str p.v p.tv] }).get? b = some o := fun b o hb e => Heap.get?_push_of_some _ (hb₁ b o hb e)
  show wpAny _ _ (Builtin.Dict_items.ownedTupleIsFree (.ref it) >>= _) _ _ ⟨h₁.push { cls := .type "tuple", data := .seq #[.str p.k p.tk, .str p.v p.tv] }, g, dr, tk, os⟩
  rw [hz₁]
  generalize h₁.push { cls := .type "tuple", data := .seq #[.str p.k p.tk, .str p.v p.tv] } = h₂ at hx₂ ht₂ hb₂
  clear hx₁ hb₁ hT1 hz₁ h₁
  refine wpAny_bind ?_
  unfold Builtin.Dict_items.ownedTupleIsFree
  refine wpAny_bind (wpAny_field hx₂ rfl (x := .none) rfl (wpAny_pure ?_))
  simp only [if_true]
  refine wpAny_bind (wpAny_field hx₂ rfl (x := ok) rfl ?_)
  refine wpAny_bind (wpAny_field hx₂ rfl (x := ov) rfl ?_)
  refine wpAny_bind (wpAny_setField_rec hx₂ (by simp) fun h₃ he₃ hs₃ => ?_)
  have hx₃ : IsItemIter h₃ it d (i + 1) P.length ep (.str p.k p.tk) ov := he₃
  refine wpAny_bind (wpAny_setField_rec hx₃ (by simp) fun h₄ he₄ hs₄ => ?_)
  have hx₄ : IsItemIter h₄ it d (i + 1) P.length ep (.str p.k p.tk) (.str p.v p.tv) := he₄
  refine wpAny_bind (wpAny_setField_rec hx₄ (by simp) fun h₅ he₅ hs₅ => ?_)
  have hx₅ : IsItemIterOut h₅ it d (i + 1) P.length ep (.str p.k p.tk) (.str p.v p.tv) hp.objs.size := he₅
  refine wpAny_bind (wpAny_setField_rec hx₅ (by simp) fun h₆ he₆ hs₆ => ?_)
  have hx₆ : IsItemIterOut h₆ it d (i + 1) P.length ep (.str p.k p.tk) (.str p.v p.tv) hp.objs.size := he₆
  have hb : ∀ b o, b ≠ it → h₂.get? b = some o → h₆.get? b = some o := fun b o hb e =>
    Heap.SameBut.extBut hs₆ b o hb (Heap.SameBut.extBut hs₅ b o hb (Heap.SameBut.extBut hs₄ b o hb (Heap.SameBut.extBut hs₃ b o hb e)))
  exact wpAny_bind (wpAny_letGo (wpAny_pure (wpAny_pure ⟨_, rfl, wpAny_pure (hQ h₆ hx₆ (hb _ _ (Nat.ne_of_gt hil) ht₂) fun b o hne e => hb b o hne (hb₂ b o hne e))⟩)))

end
section
variable {prog : Program} {w : World} {A : Around} {E : Value → Shared → Prop} {s : Shared} {env : Env} {h₀ : Heap} {body : List Stmt} {Q : Flow → Shared → Prop}

theorem ent_turns {elts : List Expr} {kk : Nat} {pos : Pos} (hh : A.handled = none) (I d : Addr) (hne : d ≠ I) (P : List Ent) (hn : (P.map Ent.k).Nodup) (ep : Nat) :
    KTurns prog w A (.Tuple elts kk pos) I [I, d] [I] P.length
      (fun i v h => ∃ T p, v = .ref T ∧ P[i]? = some p ∧ IsTup h T #[.str p.k p.tk, .str p.v p.tv])
      (fun i v h => ∃ T p, v = .ref T ∧ P[i]? = some p ∧ IsTup h T #[.str p.k p.tk, .str p.v p.tv] ∧ IsItemIterOut h I d (i + 1) P.length ep (.str p.k p.tk) (.str p.v p.tv) T ∧ h.get? d = some (entObj w P ep) ∧ T ≠ I)
      (fun i h => (∃ ok ov, IsItemIter h I d i P.length ep ok ov) ∧ h.get? d = some (entObj w P ep)) where
  sub := fun b hb => by simp at hb; simp [hb]
  frame := fun i h h' st hk => by
    obtain ⟨⟨ok, ov, he⟩, hm⟩ := st
    exact ⟨⟨ok, ov, hk I (by simp) _ he⟩, hk d (by simp) _ hm⟩
  item := fun i s Q E hi st hQ => by
    obtain ⟨⟨ok, ov, he⟩, hm⟩ := st
    have hx : P[i]? = some P[i] := List.getElem?_eq_getElem hi
    refine next_ent he hm hx fun h' ho hT hk => ?_
    exact hQ (.ref s.heap.objs.size) h' s.toks ⟨s.heap.objs.size, P[i], rfl, hx, ⟨_, hT, rfl, _, rfl⟩, ho, hk d _ hne hm, Nat.ne_of_gt (Heap.lt_size he)⟩ fun b o hb e => hk b o (fun h => hb (by simp [h])) e
  go := fun i v s Q E hm hQ => by
    obtain ⟨T, p, rfl, hx, hT, ho, hd, hTI⟩ := hm
    refine wpAny_letOwnedTupleGo_items ho fun h' he hs => ?_
    have keep : ∀ b o, b ≠ I → s.heap.get? b = some o → h'.get? b = some o := fun b o hb e => Heap.SameBut.extBut hs b o hb e
    have hT' : IsTup h' T #[.str p.k p.tk, .str p.v p.tv] := by
      obtain ⟨o, g, r⟩ := hT
      exact ⟨o, keep T o hTI g, r⟩
    exact hQ h' ⟨T, p, rfl, hx, hT'⟩ ⟨⟨_, _, he⟩, keep d _ hne hd⟩ fun b o hb e => keep b o (fun h => hb (by simp [h])) e
  done := fun s Q E st hQ => by
    obtain ⟨⟨ok, ov, he⟩, hm⟩ := st
    have hlen : (P.map Ent.kv).length = P.length := List.length_map _
    have he' : IsItemIter s.heap I d P.length (P.map Ent.kv).length ep ok ov := by rw [hlen]; exact he
    exact wpAny_pyNext_items_end (knd := strKind prog w) hh he' (ent_dictAt hm hn) (by rw [List.getElem?_map]; simp) fun h' hx => hQ h' s.toks fun b o hb e => hx b o (fun h => hb (by simp [h])) e

def entItm (p : Ent) : Itm := .pair (fun _ => .str p.k p.tk) (.str p.v p.tv)

theorem ent_items {elts : List Expr} {kk : Nat} {pos : Pos} {d vw : Addr} {P : List Ent} {ep : Nat} {m₀ : Str → Option Value} {news : List (Addr × Obj)}
    (hh : A.handled = none) (F : Fr h₀ env.locals s.heap m₀) (N : News h₀ env.locals s.heap news) (hvw : s.heap.IsItemsView vw d) (hm : (d, entObj w P ep) ∈ news) (hn : (P.map Ent.k).Nodup)
    (rest₀ : ∀ I : Addr, (∀ p ∈ news, p.1 < I) → ItemsRest prog w A E h₀ env (.Tuple elts kk pos) body Q s [(I, "dict_itemiterator")] [(d, entObj w P ep)] (P.map entItm) m₀ news) :
    wpAny (model prog w) A (pyIter (.ref vw)) (fun it s₂ => TurnsAt prog w A h₀ env (.Tuple elts kk pos) body Q E it s₂) E s := by
  have hax := N _ hm
  have hat := ent_dictAt (prog := prog) hax.1 hn
  have hlt := Heap.lt_size hax.1
  have hne : d ≠ s.heap.objs.size := Nat.ne_of_lt hlt
  have hlen : (P.map Ent.kv).length = P.length := List.length_map _
  refine wpAny_pyIter_items hvw hat ?_
  rw [hlen]
  refine ktu_core (tk0 := s.toks) (keep := [(d, entObj w P ep)]) (ent_turns hh s.heap.objs.size d hne P hn ep) (by rw [List.length_map]) ?_ ?_ ?_ ?_ ?_ ?_ ?_ ?_ (F.push _) (fun p hp => ⟨Heap.get?_push_of_some _ (N p hp).1, (N p hp).2⟩) (And.intro hm trivial) (rest₀ _ fun p hp => Heap.lt_size (N p hp).1)
  · rintro i v h ⟨T, p, rfl, hx, hT⟩
    exact ⟨entItm p, by rw [List.getElem?_map, hx]; rfl, T, 0, rfl, hT⟩
  · rintro i h ⟨⟨ok, ov, he⟩, _⟩
    have e1 : ∃ o : Obj, h.get? s.heap.objs.size = some o ∧ o.cls = .type "dict_itemiterator" := ⟨_, he, rfl⟩
    obtain ⟨oi, g, c⟩ := e1
    exact ⟨[(s.heap.objs.size, oi)], ⟨⟨rfl, c⟩, trivial⟩, fun p hp => by rw [List.mem_singleton.mp hp]; exact g⟩
  · intro b hb
    have hb' : b = s.heap.objs.size := by simpa using hb
    rw [hb']
    exact ⟨List.mem_cons_self .., next_is_new F⟩
  · intro b hb
    simpa using hb
  · intro b hb
    have hb' : b = s.heap.objs.size ∨ b = d := by simpa using hb
    rcases hb' with e | e
    · exact .inl (by simp [e])
    · exact .inr ⟨_, by rw [e]; exact List.mem_singleton.mpr rfl⟩
  · intro hI
    have hb' : env.locals = s.heap.objs.size ∨ env.locals = d := by simpa using hI
    rcases hb' with e | e
    · exact absurd F.ns.lt (e ▸ Nat.lt_irrefl _)
    · exact hax.2.1 e.symm
  · intro p hp hI
    exact absurd (Heap.lt_size (N p hp).1) ((List.mem_singleton.mp hI) ▸ Nat.lt_irrefl _)
  · exact ⟨⟨.none, .none, Heap.get?_push_size _ rfl⟩, Heap.get?_push_of_some _ hax.1⟩

end
end Mine
namespace Mine
def repAll (x : Str) (P : List Ent) : Str := P.foldl (fun y p => Txt.replace y p.k p.v) x
def EntOk (p : Ent) : Prop := p.tk ≠ 0 ∧ p.tv ≠ 0 ∧ p.tk ≠ p.tv ∧ (p.k == p.v) = false ∧ p.v.length ≤ 255
def RepFits : Str → List Ent → Prop
  | _, [] => True
  | x, p :: P => x.length ≤ 65535 ∧ RepFits (Txt.replace x p.k p.v) P

theorem ent_tabAt {prog : Program} {w : World} {h : Heap} {d : Addr} {P : List Ent} {n : Nat} (hs : (d == sysModules) = false) (hd : h.get? d = some (entObj w P n)) (hn : (P.map Ent.k).Nodup) : TabAt (strKind prog w) PyData.str h d (P.map fun p => (.str p.k, .str p.v)) := by
  refine ⟨hs, P.map Ent.kv, ?_, ?_⟩
  · exact ⟨_, _, _, hd, ⟨rfl, rfl, rfl⟩, rfl, ent_keys P, by rw [List.toList_toArray]; exact ent_pairs P, by rw [List.map_map]; exact hn⟩
  · clear hd hn
    induction P with
    | nil => exact .nil
    | cons p P ih => exact .cons (Flat.str _ _) ih
end Mine
namespace Mine
section
variable {prog : Program} {w : World} {A : Around} {E : Value → Shared → Prop} {s : Shared} {env : Env} {h₀ : Heap} {target : Expr} {body : List Stmt} {Q : Flow → Shared → Prop}

def setM (sN : Str) (v : Value) (u : Str → Option Value) : Str → Option Value := fun y => if y = sN then some v else u y
theorem setM_self {sN : Str} {v : Value} {m : Str → Option Value} (h : m sN = some v) : setM sN v m = m := by
  funext y
  unfold setM
  split
  · rename_i e; rw [e, h]
  · rfl

/-- one turn of «for key, value in d.items(): s = s.replace(key, value)» -/
def RepTurn (prog : Program) (w : World) (A : Around) (E : Value → Shared → Prop) (h₀ : Heap) (env : Env) (target : Expr) (body : List Stmt) (s : Shared) (sN : Str) (I : Addr) (news : List (Addr × Obj)) (p : Ent) : Prop :=
  ∀ (x : Str) (t : Tok) (u : Str → Option Value) (T : Addr) (h : Heap) (tk : Nat) (oi : Obj) (Q' : Flow → Shared → Prop),
    EntOk p → x.length ≤ 65535 → IsTup h T #[.str p.k p.tk, .str p.v p.tv] → Fr h₀ env.locals h (fun y => if y = sN then some (.str x t) else u y) → oi.cls = .type "dict_itemiterator" → News h₀ env.locals h ((I, oi) :: news) →
    (∀ (t' : Tok) (u' : Str → Option Value) (h' : Heap) (tk' : Nat), u' sN = some (.str (Txt.replace x p.k p.v) t') → Fr h₀ env.locals h' u' → News h₀ env.locals h' ((I, oi) :: news) → Q' .next { s with heap := h', toks := tk' }) →
    wpAny (model prog w) A (assign target env (.ref T)) (fun _ s₂ => wpAny (model prog w) A (execs body env) Q' E s₂) E { s with heap := h, toks := tk }

theorem rep_rest {sN : Str} {I : Addr} {keep news : List (Addr × Obj)} (hk : SubL keep news) (hI : ∀ p ∈ news, p.1 < I) :
    ∀ (P : List Ent) (x : Str) (t : Tok) (u : Str → Option Value), (∀ p ∈ P, EntOk p) → RepFits x P → (∀ p ∈ P, RepTurn prog w A E h₀ env target body s sN I news p) →
    (∀ (t' : Tok) (u' : Str → Option Value) (h : Heap) (tk : Nat), Fr h₀ env.locals h (fun y => if y = sN then some (.str (repAll x P) t') else u' y) → News h₀ env.locals h news → Q .next { s with heap := h, toks := tk }) →
    ItemsRest prog w A E h₀ env target body Q s [(I, "dict_itemiterator")] keep (P.map entItm) (fun y => if y = sN then some (.str x t) else u y) news
  | [], x, t, u, _, _, _, fin => fun h tk F N => fin t u h tk F N
  | p :: P, x, t, u, hP, hx, turn, fin => by
    intro v h tk hv F
    obtain ⟨T, _, rfl, hT⟩ := hv
    refine AllObj.cons fun oi ho => AllObj.nil ?_
    intro N
    refine turn p (List.mem_cons_self ..) x t u T h tk oi _ (hP p (List.mem_cons_self ..)) hx.1 hT F ho N ?_
    intro t' u' h' tk' hu F' N'
    refine ⟨h', tk', u', news, rfl, F', N', fun q hq r hr => ?_, hk, ?_⟩
    · rw [List.mem_singleton.mp hr]
      exact Nat.ne_of_lt (hI q hq)
    · have e : u' = fun y => if y = sN then some (.str (Txt.replace x p.k p.v) t') else u' y := (setM_self hu).symm
      rw [e]
      exact rep_rest hk hI P _ _ _ (fun q hq => hP q (List.mem_cons_of_mem _ hq)) hx.2 (fun q hq => turn q (List.mem_cons_of_mem _ hq)) fin

theorem rep_rest0 {sN : Str} {I : Addr} {keep news : List (Addr × Obj)} {P : List Ent} {x : Str} {t : Tok} {m : Str → Option Value} (hm : m sN = some (.str x t)) (hk : SubL keep news) (hI : ∀ p ∈ news, p.1 < I)
    (hP : ∀ p ∈ P, EntOk p) (hx : RepFits x P) (turn : ∀ p ∈ P, RepTurn prog w A E h₀ env target body s sN I news p)
    (fin : ∀ (t' : Tok) (u' : Str → Option Value) (h : Heap) (tk : Nat), Fr h₀ env.locals h (fun y => if y = sN then some (.str (repAll x P) t') else u' y) → News h₀ env.locals h news → Q .next { s with heap := h, toks := tk }) :
    ItemsRest prog w A E h₀ env target body Q s [(I, "dict_itemiterator")] keep (P.map entItm) m news := by
  rw [← setM_self hm]
  exact rep_rest hk hI P x t m hP hx turn fin

theorem rep_call {x : Str} {t : Tok} {Q : Value → Shared → Prop} (p : Ent) (hp : EntOk p) (hx : x.length ≤ 65535)
    (hq : ∀ t' k, Q (.str (Txt.replace x p.k p.v) t') { s with toks := k }) : wpAny (model prog w) A (call (.builtin "str.replace") [.str x t, .str p.k p.tk, .str p.v p.tv]) Q E s := by
  obtain ⟨a, b, c, d, e⟩ := hp
  refine SC.replace a b c d ?_ hq
  have h1 : (x.length + 1) * p.v.length ≤ 65536 * 255 := Nat.mul_le_mul (by omega) e
  omega
end
end Mine
namespace Mine
theorem gen_toks {α : Type} {M : Model} {A : Around} {t : Sem α} {Q : α → Shared → Prop} {E : Value → Shared → Prop} {hp : Heap} {g : Array GenState} {d : Drawn} {o : OsState} {X : Nat} (hX : 1 ≤ X) (h : ∀ tk : Nat, 1 ≤ tk → wpAny M A t Q E ⟨hp, g, d, tk, o⟩) : wpAny M A t Q E ⟨hp, g, d, X, o⟩ := h X hX
end Mine
namespace Mine
theorem one_le2 {X a : Nat} (e : X = a + 2) : 1 ≤ X := by omega
theorem one_le1 {X a : Nat} (e : X = a + 1) : 1 ≤ X := by omega
theorem one_le3 {X a : Nat} (e : X = a + 3) : 1 ≤ X := by omega
theorem one_le4 {X a : Nat} (e : X = a + 4) : 1 ≤ X := by omega
end Mine
namespace Mine
theorem ent_truthy {prog : Program} {w : World} {A : Around} {E : Value → Shared → Prop} {s : Shared} {d : Addr} {P : List Ent} {n : Nat} {h₀ : Heap} {L : Addr} {news : List (Addr × Obj)} {Q : Bool → Shared → Prop} (N : News h₀ L s.heap news) (hm : (d, entObj w P n) ∈ news) (hs : (d == sysModules) = false) (hn : (P.map Ent.k).Nodup)
    (hne : 0 < P.length) (hl : P.length ≤ 100) (h : Q true { s with toks := s.toks + 1 + 1 }) : wpAny (model prog w) A (truthy (.ref d)) Q E s := by
  refine truthy_tab (ent_tabAt (prog := prog) hs (N _ hm).1 hn) (by rw [List.length_map]; omega) ?_
  have e : (!(P.map fun p => (PyData.str p.k, PyData.str p.v)).isEmpty) = true := by
    cases P with
    | nil => exact absurd hne (Nat.lt_irrefl _)
    | cons p P => rfl
  rw [e]
  exact h
end Mine
namespace Mine
theorem ent_falsy {prog : Program} {w : World} {A : Around} {E : Value → Shared → Prop} {s : Shared} {a : Addr} {K : Frag} {h₀ : Heap} {L : Addr} {m : Str → Option Value} {Q : Bool → Shared → Prop} (F : Fr h₀ L s.heap m) (X : K.In h₀)
    (hl : K.lookup a = some ⟨.type "dict", none, .dict #[] 0, #[]⟩) (hs : (a == sysModules) = false) (h : Q false { s with toks := s.toks + 1 + 1 }) : wpAny (model prog w) A (truthy (.ref a)) Q E s :=
  truthy_tab (knd := PySem.strKind prog w) (enc := PyData.str) (D := []) (ent_tabAt (P := []) (n := 0) hs ((X.keeps F.keep) _ _ hl) .nil) (by decide) h
end Mine
namespace Mine
end Mine
namespace Mine
def pick3 (a0 a1 a2 : Str) (j : Int) : Str := if j = 0 then a0 else if j = 1 then a1 else a2
section
variable {prog : Program} {w : World} {A : Around} {E : Value → Shared → Prop} {s : Shared} {value slice : PySem.Expr} {h₀ : Heap} {L : Addr} {m : PySem.Str → Option Value} {news : List (Addr × Obj)} {Q : Value → Shared → Prop}
end
end Mine
namespace Mine
theorem sum_le_of {l : List Nat} {B : Nat} (h : ∀ x ∈ l, x ≤ B) : l.sum ≤ B * l.length := by
  induction l with
  | nil => simp
  | cons a l ih =>
    have h1 := h a (List.mem_cons_self ..)
    have h2 := ih fun x hx => h x (List.mem_cons_of_mem _ hx)
    rw [List.sum_cons, List.length_cons, Nat.mul_add]; omega
end Mine
namespace Mine
end Mine
end
section
open PySem PySem.W PySem.Calls PyProof.Rows PyProof.V PySem.Spec
set_option maxRecDepth 100000
namespace Mine
section
variable {prog : Program} {w : World} {A : Around} {E : Value → Shared → Prop} {s : Shared}

theorem ent_find {P : List Ent} {k : Str} (hk : k ∉ P.map Ent.k) : ((P.map (Ent.at w)).toArray.findIdx? fun e => (PySem.strKind prog w).is k e.key) = none := by
  rw [Array.findIdx?_eq_none_iff]
  intro e he
  simp only [List.mem_toArray, List.mem_map] at he
  obtain ⟨p, hp, rfl⟩ := he
  cases hq : (PySem.strKind prog w).is k (p.at w).key with
  | false => rfl
  | true =>
    exfalso
    apply hk
    have e := (PySem.strKind prog w).inj _ _ _ hq (strKind_is prog w p.k p.tk)
    rw [e]
    exact List.mem_map.mpr ⟨p, hp, rfl⟩

theorem ent_set {d : Addr} {P : List Ent} {n : Nat} {k v : Str} {tk tv : Tok} {Q : Unit → Shared → Prop} (hd : s.heap.get? d = some (entObj w P n)) (hk : k ∉ P.map Ent.k) (hsz : P.length ≤ 1000)
    (hQ : ∀ h', h'.get? d = some (entObj w (P ++ [⟨k, tk, v, tv⟩]) (n + 1)) → Heap.SameBut d s.heap h' → Q () { s with heap := h', toks := s.toks + 1 }) :
    wpAny (model prog w) A (dictSet d (.str k tk) (.str v tv)) Q E s := by
  have hes : (P.map (Ent.at w)).toArray.size ≤ sizeLine := by rw [sizeLine_eq]; simp; omega
  unfold dictSet
  try with_reducible refine wpAny_holding ?_
  refine wpAny_bind ((PySem.strKind prog w).pyHash (strKind_is prog w k tk) ?_)
  unfold dictSetHashed
  try with_reducible refine wpAny_holding ?_
  refine wpAny_bind (wpAny_dictFind_of (knd := PySem.strKind prog w) (s := { s with toks := s.toks + 1 }) (strKind_is prog w k tk) hd rfl (ent_keys P) ?_)
  rw [ent_find hk]
  refine wpAny_bind (wpAny_rule (wpAny_updateDictKeys (hz := hes) (s := { s with toks := s.toks + 1 }) hd rfl (hQ _ ?_ (Heap.SameBut.update ..))))
  have hup := Heap.get?_update_self (h := s.heap) (fun o => o.mapDictKeys (·.push ⟨(PySem.strKind prog w).hash k, .str k tk, .str v tv⟩)) hd (by rfl)
  refine hup.trans ?_
  have e : ((P ++ [⟨k, tk, v, tv⟩] : List Ent).map (Ent.at w)).toArray = ((P.map (Ent.at w)).toArray).push ⟨(PySem.strKind prog w).hash k, .str k tk, .str v tv⟩ := by
    rw [List.map_append, List.push_toArray]; rfl
  show some _ = some (entObj w (P ++ [⟨k, tk, v, tv⟩]) (n + 1))
  unfold entObj
  rw [e]
  rfl
end
end Mine
end
section
open PySem PySem.W PySem.Calls PyProof.Rows PyProof.V PySem.Spec
set_option maxRecDepth 100000
namespace Mine
/-- what a turn of a dict's comprehension hands on: key and value are texts, their tokens told -/
def DEnd (h₀ : Heap) (L : Addr) (m : Str → Option Value) (s₁ : Shared) (led : List (Addr × Obj)) (k v : Str) (kv vv : Value) (s₂ : Shared) : Prop :=
  ∃ h' tk t u, s₂ = { s₁ with heap := h', toks := tk } ∧ kv = .str k t ∧ vv = .str v u ∧ EntOk ⟨k, t, v, u⟩ ∧ Fr h₀ L h' m ∧ News h₀ L h' led

def DTurn (prog : Program) (w : World) (A : Around) (h₀ : Heap) (L : Addr) (m : Str → Option Value) (env : Env) (kx vx : Expr) (x : Str) (scope : Scope) (cl : List (Str × Addr)) (s : Shared) (news : List (Addr × Obj)) (kf vf : Int → Str) (j : Int) : Prop :=
  ∀ (t : Tok) (I : Addr) (oI : Obj) (C : Addr) (oC : Obj) (D : Addr) (oD : Obj) (m₂ : Str → Option Value) (h : Heap) (tk : Nat) (E' : Value → Shared → Prop), 1 ≤ tk → LCg.NsObj oC m₂ → m₂ x = some (.int j t) → Fr h₀ L h m → News h₀ L h ((I, oI) :: (C, oC) :: (D, oD) :: news) →
    wpAny (model prog w) A (eval kx (compEnvC scope cl C env)) (fun kv s₄ => wpAny (model prog w) A (eval vx (compEnvC scope cl C env)) (fun vv s₅ =>
      DEnd h₀ L m { s with heap := h, toks := tk } ((I, oI) :: (C, oC) :: (D, oD) :: news) (kf j) (vf j) kv vv s₅) E' s₄) E' { s with heap := h, toks := tk }

def specD (kf vf : Int → Str) (a c : Int) (n : Nat) : List (Str × Str) := (List.range n).map fun (i : Nat) => (kf (a + (i : Int) * c), vf (a + (i : Int) * c))
def Ent.two (p : Ent) : Str × Str := (p.k, p.v)
theorem specD_succ (kf vf : Int → Str) (a c : Int) (n : Nat) : specD kf vf a c (n + 1) = specD kf vf a c n ++ [(kf (a + (n : Int) * c), vf (a + (n : Int) * c))] := by
  unfold specD; rw [List.range_succ, List.map_append]; rfl
theorem two_keys (P : List Ent) : P.map Ent.k = (P.map Ent.two).map (·.1) := by rw [List.map_map]; rfl

section
variable {prog : Program} {w : World} {A : Around} {E : Value → Shared → Prop} {s : Shared} {h₀ : Heap} {L : Addr} {m : Str → Option Value} {env : Env} {news : List (Addr × Obj)}

theorem block_D {kx vx iter : Expr} {x : Str} {px : Pos} {scope : Scope} {cl : List (Str × Addr)} {pos : Pos} {s₂ : Shared} {I : Addr} {a c : Int} {n : Nat} {kf vf : Int → Str} {RR : Value → Addr → Result → Shared → Prop}
    (hh : A.handled = none) (hn1 : n ≤ 1000) (hcell : ∀ y ∈ scope.names, y.2 ≠ .cell) (hkind : scope.kind = .function) (hx : scope.names.lookup x = some .local)
    (hst : IsRangeIter s₂.heap I a (n : Int) c) (F : Fr h₀ L s₂.heap m) (N : News h₀ L s₂.heap news) (hIL : L ≠ I) (hI₀ : h₀.get? I = none) (off : ∀ p ∈ news, p.1 ≠ I) (hbig : sysModules < h₀.objs.size)
    (hnd : ((specD kf vf a c n).map (·.1)).Nodup) (turn : ∀ i : Nat, i < n → DTurn prog w A h₀ L m env kx vx x scope cl s₂ news kf vf (a + (i : Int) * c))
    (hRR : ∀ D C h tk m' P, Fr h₀ L h m → News h₀ L h ((D, entObj w P P.length) :: news) → h.Ns C m' → h₀.get? C = none → C ≠ L → D ≠ L → C ≠ D → (∀ p ∈ news, p.1 ≠ C) → (∀ p ∈ news, p.1 < D) → (D == sysModules) = false →
      P.map Ent.two = specD kf vf a c n → (∀ p ∈ P, EntOk p) → RR (.ref D) C (.ok .next) { s₂ with heap := h, toks := tk }) :
    wpAny (model prog w) A newDict (fun acc s₃ => wpAny (model prog w) A (newFunctionEnv scope env.globals cl [] env.qual none .none (some env)) (fun cenv s₄ =>
      codeAny (model prog w) A (.compStart (.DictComp kx vx [⟨.Name x px, iter, [], 0⟩] scope pos) 0 (.ref I) acc { cenv with scope := relabel scope env }) (RR acc cenv.locals) s₄) E s₃) E s₂ := by
  have W := Walks.range (prog := prog) (w := w) hh I a c n
  refine wpAny_newObj_type (wpAny_newFunctionEnv hcell (by intro y hy; simp at hy) (fun h₁ hns₁ hsb₁ => ?_) hkind)
  dsimp only at hns₁ hsb₁ ⊢
  generalize hH2 : s₂.heap.push { cls := .type "dict", dict := none, data := .dict #[] } = H2 at hns₁ hsb₁ ⊢
  have hC : H2.objs.size = s₂.heap.objs.size + 1 := by rw [← hH2, Heap.size_push]
  generalize hDe : s₂.heap.objs.size = D at hC ⊢
  generalize hCe : H2.objs.size = C at hC hns₁ hsb₁ ⊢
  have hC : @Eq Nat C (D + 1) := hC
  have lt : ∀ b o, s₂.heap.get? b = some o → @LT.lt Nat _ b D := fun b o e => hDe ▸ Heap.lt_size e
  have hIlt : @LT.lt Nat _ I D := lt _ _ hst
  have hLlt : @LT.lt Nat _ L D := hDe ▸ F.ns.lt
  have old : ∀ b o, s₂.heap.get? b = some o → h₁.get? b = some o := fun b o e => hsb₁.extBut b o (by have := lt b o e; show @Ne Nat b C; omega) (Heap.get?_push_of_some _ (hH2 ▸ Heap.get?_push_of_some _ e))
  have hacc : h₁.get? D = some (entObj w [] 0) := hsb₁.extBut _ _ (by show @Ne Nat D C; omega) (Heap.get?_push_of_some _ (hH2 ▸ hDe ▸ Heap.get?_push_size _ rfl))
  have fresh₀ : ∀ b, D ≤ b → h₀.get? b = none := fun b hb => by
    cases e : h₀.get? b with
    | none => rfl
    | some o' => exact absurd (lt _ _ (F.keep b o' e)) (Nat.not_lt.mpr hb)
  have hD₀ : h₀.get? D = none := fresh₀ _ (Nat.le_refl _)
  have hC₀ : h₀.get? C = none := fresh₀ _ (by omega)
  have hDm : (D == sysModules) = false := hDe ▸ F.notModules hbig
  have nlt : ∀ p ∈ news, @LT.lt Nat _ p.1 D := fun p hp => lt _ _ (N p hp).1
  have loop : ∀ s₃ : Shared, s₃ = { s₂ with heap := h₁, toks := s₂.toks + ([] : List (Str × Value)).length } →
      codeAny (model prog w) A (.compLoop (.DictComp kx vx [⟨.Name x px, iter, [], 0⟩] scope pos) 0 (.ref I) (.ref D) (compEnvC scope cl C env)) (RR (.ref D) C) s₃ := by
    rintro s₃ rfl
    refine codeAny_compLoop_testsD
      (fun k s' => ∃ h' tk i P m', s' = { s₂ with heap := h', toks := tk } ∧ i ≤ n ∧ k = n + 1 - i ∧ P.map Ent.two = specD kf vf a c i ∧ (∀ p ∈ P, EntOk p) ∧ IsRangeIter h' I (a + (i : Nat) * c) ((n : Int) - (i : Nat)) c ∧ Fr h₀ L h' m ∧ h'.Ns C m' ∧
        News h₀ L h' ((D, entObj w P P.length) :: news)) ?_ (n + 1)
      ⟨h₁, _, 0, [], _, rfl, Nat.zero_le _, rfl, rfl, (fun _ hp => nomatch hp), ?_, F.keeps old, hns₁, fun p hp => ?_⟩
    · rintro k s' ⟨h', tk, i, P, m', rfl, hi, rfl, hPs, hPo, hst', F', hn', N'⟩
      have hPl : P.length = i := by have := congrArg List.length hPs; simpa [specD] using this
      by_cases hlt : i < n
      · refine W.item i _ _ _ hlt hst' fun v h₂ tk₂ hPv hst₂ hk₂ => ?_
        obtain ⟨t, rfl⟩ := hPv
        have up₂ : ∀ b o, b ≠ I → h'.get? b = some o → h₂.get? b = some o := fun b o hb e => hk₂ b o (by simpa using hb) e
        refine wpAny_assign_Name (wpAny_storeName_local (lookup_relabel_local hx) (hn'.at' fun o e => up₂ _ o (by show @Ne Nat C I; omega) e) (fun h₃ hn₃ hs₃ => ?_) (by simp [compEnvC, relabel, hkind]))
        refine wpAny_tests_nil ?_
        simp only [if_true]
        have up₃ : ∀ b o, b ≠ C → h₂.get? b = some o → h₃.get? b = some o := fun b o hb e => hs₃.extBut b o hb e
        have hst₃ : IsRangeIter h₃ I (a + ((i + 1 : Nat) : Int) * c) ((n : Int) - ((i + 1 : Nat) : Int)) c := up₃ _ _ (by show @Ne Nat I C; omega) hst₂
        obtain ⟨oC, heC, hoC⟩ := LCg.ns_obj hn₃
        have F₂ : Fr h₀ L h₂ m := LCg.fr_but F' hk₂ hIL hI₀
        have F₃ : Fr h₀ L h₃ m := F₂.change hs₃ (by show @Ne Nat C L; omega) hC₀
        have N₃ : News h₀ L h₃ ((I, _) :: (C, oC) :: (D, entObj w P P.length) :: news) := fun p hp => by
          rcases List.mem_cons.mp hp with rfl | hp
          · exact ⟨hst₃, Ne.symm hIL, hI₀⟩
          · rcases List.mem_cons.mp hp with rfl | hp
            · exact ⟨heC, (by show @Ne Nat C L; omega), hC₀⟩
            · have z := N' p hp
              have h1 : @LE.le Nat _ p.1 D := by
                rcases List.mem_cons.mp hp with rfl | hp
                · exact Nat.le_refl _
                · exact Nat.le_of_lt (nlt p hp)
              have h2 : p.1 ≠ I := by
                rcases List.mem_cons.mp hp with rfl | hp
                · show @Ne Nat D I; omega
                · exact off p hp
              exact ⟨up₃ _ _ (by show @Ne Nat p.1 C; omega) (up₂ _ _ h2 z.1), z.2⟩
        refine wpAny_mono (turn i hlt t I _ C oC D _ _ h₃ _ _ (Nat.le_add_left 1 _) hoC (by simp) F₃ N₃) (fun kv s₄ h₄ => wpAny_mono h₄ (fun vv s₅ h₅ => ?_) fun _ _ e => e) fun _ _ e => e
        obtain ⟨h₅, tk₅, t5, u5, rfl, rfl, rfl, hok, F₅, N₅⟩ := h₅
        have zI := (N₅ _ List.mem_cons_self).1
        have zC := (N₅ _ (List.mem_cons_of_mem _ List.mem_cons_self)).1
        have zD := (N₅ _ (List.mem_cons_of_mem _ (List.mem_cons_of_mem _ List.mem_cons_self))).1
        have hsub : List.Sublist (specD kf vf a c (i + 1)) (specD kf vf a c n) := by
          unfold specD
          exact (List.range_sublist.mpr hlt).map _
        have hknew : kf (a + (i : Int) * c) ∉ P.map Ent.k := by
          have h1 := (hsub.map (·.1)).nodup hnd
          rw [specD_succ, List.map_append, List.nodup_append] at h1
          rw [two_keys, hPs]
          intro hmem
          exact h1.2.2 _ hmem _ (by simp) rfl
        refine ent_set zD hknew (by omega) fun h₆ hd₆ hs₆ => ?_
        have hNs := (hoC.ns zC).sameBut hs₆ (by show @Ne Nat C D; omega)
        refine ⟨n + 1 - (i + 1), by omega, h₆, _, i + 1, P ++ [⟨_, t5, _, u5⟩], _, rfl, hlt, rfl, by rw [List.map_append, hPs, specD_succ]; rfl, ?_, ?_, ?_, hNs, ?_⟩
        · intro p hp
          rcases List.mem_append.mp hp with hp | hp
          · exact hPo p hp
          · rw [List.mem_singleton.mp hp]; exact hok
        · exact hs₆.extBut _ _ (by show @Ne Nat I D; omega) zI
        · exact F₅.change hs₆ (by show @Ne Nat D L; omega) hD₀
        · intro p hp
          rcases List.mem_cons.mp hp with rfl | hp
          · refine ⟨?_, (by show @Ne Nat D L; omega), hD₀⟩
            rw [List.length_append, List.length_singleton]
            exact hd₆
          · have z := N₅ p (List.mem_cons_of_mem _ (List.mem_cons_of_mem _ (List.mem_cons_of_mem _ hp)))
            exact ⟨hs₆.extBut _ _ (by have := nlt p hp; show @Ne Nat p.1 D; omega) z.1, z.2⟩
      · obtain rfl : i = n := Nat.le_antisymm hi (Nat.not_lt.mp hlt)
        refine W.done _ _ _ hst' fun h₂ tk₂ hk₂ => ?_
        have up₂ : ∀ b o, b ≠ I → h'.get? b = some o → h₂.get? b = some o := fun b o hb e => hk₂ b o (by simpa using hb) e
        refine hRR D C h₂ tk₂ _ P (LCg.fr_but F' hk₂ hIL hI₀) (fun p hp => ?_) (hn'.at' fun o e => up₂ _ o (by show @Ne Nat C I; omega) e) hC₀ (by show @Ne Nat C L; omega) (by show @Ne Nat D L; omega) (by show @Ne Nat C D; omega)
          (fun p hp => by have := nlt p hp; show @Ne Nat p.1 C; omega) nlt hDm hPs hPo
        have z := N' p hp
        refine ⟨up₂ _ _ ?_ z.1, z.2⟩
        rcases List.mem_cons.mp hp with rfl | hp
        · show @Ne Nat D I; omega
        · exact off p hp
    · have h0 : IsRangeIter h₁ I a (n : Int) c := old _ _ hst
      have e1 : a + ((0 : Nat) : Int) * c = a := by simp
      have e2 : (n : Int) - ((0 : Nat) : Int) = n := by simp
      rw [e1, e2]; exact h0
    · rcases List.mem_cons.mp hp with rfl | hp
      · exact ⟨hacc, (by show @Ne Nat D L; omega), hD₀⟩
      · exact ⟨old _ _ (N p hp).1, (N p hp).2⟩
  have h0 : IsRangeIter h₁ I (a + ((0 : Nat) : Int) * c) ((n : Int) - ((0 : Nat) : Int)) c := by
    have e1 : a + ((0 : Nat) : Int) * c = a := by simp
    have e2 : (n : Int) - ((0 : Nat) : Int) = n := by simp
    rw [e1, e2]; exact old _ _ hst
  exact codeAny_compStart_dict (loop _ rfl) (W.self 0 _ _ _ h0 (loop _ rfl))
end
end Mine
end
section
open PySem PySem.W PySem.Calls PyProof.Rows PyProof.V PySem.Spec
set_option maxRecDepth 100000
namespace Mine
section
variable {prog : Program} {w : World} {A : Around} {E : Value → Shared → Prop} {s : Shared} {h₀ : Heap} {L : Addr} {m : Str → Option Value} {env : Env}

/-- where a dict's comprehension over a range goes on -/
def DSrc (prog : Program) (w : World) (A : Around) (h₀ : Heap) (L : Addr) (m : Str → Option Value) (env : Env) (kx vx : Expr) (x : Str) (scope : Scope) (cl : List (Str × Addr)) (mo : Addr → Str → Option Value) (Q : Value → Shared → Prop) (xv : Value) (s₁ : Shared) : Prop :=
  ∃ r a b c t u v n news kf vf, xv = .ref r ∧ A.handled = none ∧ Fr h₀ L s₁.heap m ∧ News h₀ L s₁.heap news ∧ IsRange s₁.heap r a b c t u v ∧ Builtin.Range.small a b c = true ∧ Builtin.Range.rangeSize a b c = ((n : Nat) : Int) ∧ n ≤ 1000 ∧ sysModules < h₀.objs.size ∧
    ((specD kf vf a c n).map (·.1)).Nodup ∧ (∀ i : Nat, i < n → DTurn prog w A h₀ L m env kx vx x scope cl s₁ news kf vf (a + (i : Int) * c)) ∧
    ∀ D h tk P, Fr h₀ L h (mo D) → News h₀ L h ((D, entObj w P P.length) :: news) → (∀ p ∈ news, p.1 < D) → (D == sysModules) = false → P.map Ent.two = specD kf vf a c n → (∀ p ∈ P, EntOk p) → Q (.ref D) { s₁ with heap := h, toks := tk }

theorem DSrc.intro {kx vx : Expr} {x : Str} {scope : Scope} {cl : List (Str × Addr)} {mo : Addr → Str → Option Value} {Q : Value → Shared → Prop} {r : Addr} {a b c : Int} {t u v : Tok} {n : Nat} {news : List (Addr × Obj)} {s₁ : Shared} (kf vf : Int → Str)
    (hh : A.handled = none) (F : Fr h₀ L s₁.heap m) (N : News h₀ L s₁.heap news) (hr : IsRange s₁.heap r a b c t u v) (hsm : Builtin.Range.small a b c = true) (hn : Builtin.Range.rangeSize a b c = ((n : Nat) : Int)) (hn1 : n ≤ 1000) (hlim : h₀.NoLimit)
    (hnd : ((specD kf vf a c n).map (·.1)).Nodup) (turn : ∀ i : Nat, i < n → DTurn prog w A h₀ L m env kx vx x scope cl s₁ news kf vf (a + (i : Int) * c))
    (fin : ∀ D h tk P, Fr h₀ L h (mo D) → News h₀ L h ((D, entObj w P P.length) :: news) → (∀ p ∈ news, p.1 < D) → (D == sysModules) = false → P.map Ent.two = specD kf vf a c n → (∀ p ∈ P, EntOk p) → Q (.ref D) { s₁ with heap := h, toks := tk }) :
    DSrc prog w A h₀ L m env kx vx x scope cl mo Q (.ref r) s₁ := ⟨r, a, b, c, t, u, v, n, news, kf, vf, rfl, hh, F, N, hr, hsm, hn, hn1, modules_low hlim, hnd, turn, fin⟩

theorem DictComp_T {kx vx iter : Expr} {x : Str} {px : Pos} {scope : Scope} {cl : List (Str × Addr)} {pos : Pos} {Q : Value → Shared → Prop} (F₀ : Fr h₀ L s.heap m)
    (hclos : closureFor scope env = pure cl) (hcell : ∀ y ∈ scope.names, y.2 ≠ .cell) (hkind : scope.kind = .function)
    (hnames : ∀ y ∈ scope.names, y.2 = .local → scope.names.lookup y.1 = some .local) (hx : scope.names.lookup x = some .local)
    (h : wpAny (model prog w) A (eval iter env) (DSrc prog w A h₀ L m env kx vx x scope cl (fun _ => m) Q) E s)
    (hs : ∀ x, foldedSetIterable iter env x = pure x := by intro _; rfl) :
    wpAny (model prog w) A (eval (.DictComp kx vx [⟨.Name x px, iter, [], 0⟩] scope pos) env) Q E s := by
  rw [arm_eval_DictComp]
  refine wpAny_comprehension_free (use := none) rfl hs hclos hkind hnames (wpAny_mono h (fun xv s₁ h₁ => ?_) fun _ _ e => e)
  obtain ⟨r, a, b, c, t, u, v, n, news, kf, vf, rfl, hh, F, N, hr, hsm, hn, hn1, hbig, hnd, turn, fin⟩ := h₁
  refine wpAny_pyIter_range hr hsm ?_
  refine block_D (kf := kf) (vf := vf) (news := news) hh hn1 hcell hkind hx (by show IsRangeIter _ _ _ _ _; rw [hn]; exact Heap.get?_push_size _ rfl) (F.keeps fun _ _ e => Heap.get?_push_of_some _ e) (N.grown fun _ _ e => Heap.get?_push_of_some _ e) (Nat.ne_of_lt F.ns.lt) (next_is_new F)
    (fun p hp => Nat.ne_of_lt (Heap.lt_size (N p hp).1)) hbig hnd turn ?_
  intro D C h tk m' P F' N' hnC hC₀ hCL hDL hCD offC hlt hDm hPs hPo
  refine ⟨m', hnC, fun h'' hs'' => fin D h'' tk P (F'.change hs'' hCL hC₀) (fun p hp => ?_) hlt hDm hPs hPo⟩
  refine ⟨hs''.extBut _ _ ?_ (N' p hp).1, (N' p hp).2⟩
  rcases List.mem_cons.mp hp with rfl | hp
  · exact Ne.symm hCD
  · exact offC p hp

end
end Mine
end
section
open PySem PySem.W PySem.Calls PyProof.Rows PyProof.V PySem.Spec
set_option maxRecDepth 100000
namespace Mine
section
variable {prog : Program} {w : World} {A : Around} {E : Value → Shared → Prop} {s : Shared}

theorem ent_put {d : Addr} {P : List Ent} {n : Nat} {p : Ent} {Q : Unit → Shared → Prop} (hd : s.heap.get? d = some (entObj w P n)) (hk : p.k ∉ P.map Ent.k) (hsz : P.length ≤ 1000)
    (hQ : ∀ h', h'.get? d = some (entObj w (P ++ [p]) (n + 1)) → Heap.SameBut d s.heap h' → Q () { s with heap := h' }) :
    wpAny (model prog w) A (dictPut d (p.at w).hash (p.at w).key (p.at w).val) Q E s := by
  have hes : (P.map (Ent.at w)).toArray.size ≤ sizeLine := by rw [sizeLine_eq]; simp; omega
  unfold dictPut
  refine wpAny_bind (wpAny_dictFind_of (knd := PySem.strKind prog w) (k := p.k) (strKind_is prog w p.k p.tk) hd rfl (ent_keys P) ?_)
  rw [ent_find hk]
  refine wpAny_updateDictKeys (hz := hes) hd rfl (hQ _ ?_ (Heap.SameBut.update ..))
  have hup := Heap.get?_update_self (h := s.heap) (fun o => o.mapDictKeys (·.push (p.at w))) hd (by rfl)
  refine hup.trans ?_
  have e : ((P ++ [p]).map (Ent.at w)).toArray = ((P.map (Ent.at w)).toArray).push (p.at w) := by
    rw [List.map_append, List.push_toArray]; rfl
  show some _ = some (entObj w (P ++ [p]) (n + 1))
  unfold entObj
  rw [e]
  rfl

theorem ent_mergeLoop {d a : Addr} (hda : a ≠ d) {P : List Ent} {n₂ : Nat} (body : Nat → PUnit → Sem (ForInStep PUnit))
    (hb : ∀ i u, body i u = (do
      let some e := (← dictEntries a)[i]? | unsupported "dict.changed-during-merge"
      holding [e.key, e.val] do
        if false then
          if (← dictFind d e.key e.hash).isSome then rule "dict.merge.duplicate-key"; raiseNew (← newExc (.type "KeyError") [e.key])
        dictPut d e.hash e.key e.val
      if (← dictEpoch a) != n₂ then unsupported "dict.changed-during-merge"
      pure (ForInStep.yield PUnit.unit))) :
    ∀ (j i : Nat) (R : List Ent) (n : Nat) (s : Shared) (Q : PUnit → Shared → Prop), i + j = P.length → s.heap.get? a = some (entObj w P n₂) → s.heap.get? d = some (entObj w (R ++ P.take i) (n + i)) → ((R ++ P).map Ent.k).Nodup → R.length + P.length ≤ 1000 →
      (∀ h', h'.get? d = some (entObj w (R ++ P) (n + P.length)) → Heap.SameBut d s.heap h' → Q PUnit.unit { s with heap := h' }) →
      wpAny (model prog w) A (forIn (List.range' i j) PUnit.unit body) Q E s := by
  intro j
  induction j with
  | zero =>
    intro i R n s Q hij _ hd _ _ hQ
    have hi : i = P.length := by omega
    subst hi
    rw [List.take_length] at hd
    rw [List.range'_zero, List.forIn_nil]
    exact wpAny_pure (hQ s.heap hd (Heap.SameBut.refl _ _))
  | succ j ih =>
    intro i R n s Q hij ha hd hn hsz hQ
    have hlt : i < P.length := by omega
    have hlt' : i < (P.map (Ent.at w)).toArray.size := by simp; exact hlt
    have hei : (P.map (Ent.at w)).toArray[i] = (P[i]).at w := by simp
    have htake : P.take (i + 1) = P.take i ++ [P[i]] := by rw [List.take_add_one, List.getElem?_eq_getElem hlt]; rfl
    have hnew : (P[i]).k ∉ (R ++ P.take i).map Ent.k := by
      have hsub : List.Sublist (R ++ (P.take i ++ [P[i]])) (R ++ P) := by
        rw [← htake]; exact List.Sublist.append_left (List.take_sublist _ _) _
      have h1 := (hsub.map Ent.k).nodup hn
      rw [← List.append_assoc, List.map_append, List.nodup_append] at h1
      intro hmem
      exact h1.2.2 _ hmem _ (by simp) rfl
    rw [List.range'_succ, List.forIn_cons]
    refine wpAny_bind ?_
    rw [hb]
    refine wpAny_bind (wpAny_dictEntries ha rfl ?_)
    rw [Array.getElem?_eq_getElem hlt', hei]
    refine wpAny_bind (wpAny_holding ?_)
    simp only [Bool.false_eq_true, if_false]
    first | refine wpAny_bind (wpAny_pure ?_) | skip
    refine ent_put hd hnew (by have := List.length_take_le i P; rw [List.length_append]; omega) fun h' hd' hs' => ?_
    have ha' : h'.get? a = some (entObj w P n₂) := (hs'.2 a hda).trans ha
    refine wpAny_bind (wpAny_dictEpoch ha' rfl ?_)
    rw [if_neg (by simp)]
    first | refine wpAny_bind (wpAny_pure ?_) | skip
    refine wpAny_pure ?_
    refine ih (i + 1) R n _ Q (by omega) ha' ?_ hn hsz fun h'' hd'' hs'' => hQ h'' hd'' (hs'.trans hs'')
    rw [htake, ← List.append_assoc]
    exact hd'

theorem ent_typeIs {d : Addr} {P : List Ent} {n : Nat} (hd : s.heap.get? d = some (entObj w P n)) : s.TypeIs (.ref d) "dict" := ⟨_, hd, rfl⟩

theorem ent_noRefs {Q : PUnit → Shared → Prop} (body : DictEntry → PUnit → Sem (ForInStep PUnit)) (hb : ∀ (p : Ent) u, body (p.at w) u = pure (ForInStep.yield PUnit.unit)) (h : Q PUnit.unit s) :
    ∀ P : List Ent, wpAny (model prog w) A (forIn (P.map (Ent.at w)).toArray PUnit.unit body) Q E s := by
  intro P
  rw [← Array.forIn_toList, List.toList_toArray]
  induction P with
  | nil => rw [List.map_nil, List.forIn_nil]; exact wpAny_pure h
  | cons p P ih =>
    rw [List.map_cons, List.forIn_cons, hb]
    exact wpAny_bind (wpAny_pure ih)

theorem ent_merge {d a : Addr} (hda : a ≠ d) (hs : (a == sysModules) = false) {R P : List Ent} {n n₂ : Nat} {Q : Unit → Shared → Prop} (ha : s.heap.get? a = some (entObj w P n₂)) (hd : s.heap.get? d = some (entObj w R n)) (hn : ((R ++ P).map Ent.k).Nodup) (hsz : R.length + P.length ≤ 1000)
    (hQ : ∀ h', h'.get? d = some (entObj w (R ++ P) (n + P.length)) → Heap.SameBut d s.heap h' → Q () { s with heap := h' }) :
    wpAny (model prog w) A (mergeMapping d (.ref a) false) Q E s := by
  unfold mergeMapping
  refine wpAny_bind (wpAny_isInstance (ent_typeIs ha) isSubtype_dict_dict ?_)
  simp only [if_true]
  refine wpAny_bind (wpAny_specialOf (ent_typeIs ha) F.slot_dict_iter.lookup ?_)
  refine wpAny_bind (wpAny_pure ?_)
  simp only [beq_self_eq_true]
  rw [if_neg (by rw [hs]; exact Bool.false_ne_true)]
  have loop : wpAny (model prog w) A (do
      let size := (← dictEntries a).size
      let epoch ← dictEpoch a
      for i in List.range size do
        let some e := (← dictEntries a)[i]? | unsupported "dict.changed-during-merge"
        holding [e.key, e.val] do
          if false then
            if (← dictFind d e.key e.hash).isSome then rule "dict.merge.duplicate-key"; raiseNew (← newExc (.type "KeyError") [e.key])
          dictPut d e.hash e.key e.val
        if (← dictEpoch a) != epoch then unsupported "dict.changed-during-merge") Q E s := by
    refine wpAny_bind (wpAny_dictEntries ha rfl ?_)
    refine wpAny_bind (wpAny_dictEpoch ha rfl ?_)
    have hes : (P.map (Ent.at w)).toArray.size = P.length := by simp
    rw [hes, List.range_eq_range']
    refine wpAny_bind (ent_mergeLoop (n₂ := n₂) hda _ (fun i u => rfl) P.length 0 R n s _ (by omega) ha (by simpa using hd) hn hsz fun h' h1 h2 => wpAny_pure (hQ h' h1 h2))
  refine wpAny_bind (wpAny_dictEntries hd rfl ?_)
  refine wpAny_ite ?_
  split
  · refine wpAny_bind (wpAny_dictEntries ha rfl ?_)
    refine wpAny_bind (ent_noRefs _ (fun p u => rfl) ?_ P)
    exact loop
  · exact loop
end
end Mine
end
section
open PySem PySem.W PySem.Calls PyProof.Rows PyProof.V PySem.Spec
set_option maxRecDepth 100000
namespace Mine
section
variable {prog : Program} {w : World} {A : Around} {E : Value → Shared → Prop} {s : Shared}

theorem display2 {m1 k2 v2 : Sem Value} {Q : Value → Shared → Prop} {D : Addr} (hD : s.heap.objs.size = D)
    (h : wpAny (model prog w) A m1 (fun mv s₁ => ∃ a P n₂, mv = .ref a ∧ (a == sysModules) = false ∧ a ≠ D ∧ s₁.heap.get? a = some (entObj w P n₂) ∧ s₁.heap.get? D = some (entObj w [] 0) ∧ (P.map Ent.k).Nodup ∧ P.length ≤ 900 ∧
      ∀ h₂ : Heap, h₂.get? D = some (entObj w P P.length) → Heap.SameBut D s₁.heap h₂ →
        wpAny (model prog w) A k2 (fun kv s₃ => wpAny (model prog w) A v2 (fun vv s₄ => ∃ k t v u, kv = .str k t ∧ vv = .str v u ∧ k ∉ P.map Ent.k ∧ D ≠ h₂.objs.size ∧ (h₂.objs.size == sysModules) = false ∧
          s₄.heap.get? h₂.objs.size = some (entObj w [] 0) ∧ s₄.heap.get? D = some (entObj w P P.length) ∧
          ∀ h₆ : Heap, h₆.get? D = some (entObj w (P ++ [⟨k, t, v, u⟩]) (P ++ [⟨k, t, v, u⟩] : List Ent).length) → (∀ b o, b ≠ D → b ≠ h₂.objs.size → s₄.heap.get? b = some o → h₆.get? b = some o) → Q (.ref D) { s₄ with heap := h₆, toks := s₄.toks + 1 }) E s₃) E
          { s₁ with heap := h₂.push { cls := .type "dict", data := .dict #[] } }) E { s with heap := s.heap.push { cls := .type "dict", data := .dict #[] } }) :
    wpAny (model prog w) A (dictDisplay [(none, m1), (some k2, v2)]) Q E s := by
  subst hD
  unfold dictDisplay
  dsimp only
  simp only [List.forIn_cons, List.forIn_nil]
  refine wpAny_bind ?_
  refine wpAny_bind ?_
  refine wpAny_bind ?_
  simp only [List.isEmpty_nil, if_true]
  refine wpAny_pure ?_
  dsimp only
  refine wpAny_bind (wpAny_alloc ?_)
  refine wpAny_bind (wpAny_holding (wpAny_mono h (fun mv s₁ h₁ => ?_) (fun _ _ e => e)))
  obtain ⟨a, P, n₂, rfl, has, haD, ha, hD, hn, hl, hgo⟩ := h₁
  refine wpAny_bind (wpAny_onRaise (wpAny_tryCatch (wpAny_onRaise (wpAny_holding (ent_merge haD has ha hD (by simpa using hn) (by simp; omega) fun h₂ hd₂ hs₂ => ?_)))))
  refine wpAny_pure ?_
  dsimp only
  simp only [List.nil_append, List.length_singleton]
  refine wpAny_bind ?_
  rw [if_neg (by decide)]
  refine wpAny_pure ?_
  dsimp only
  refine wpAny_pure ?_
  dsimp only
  refine wpAny_bind ?_
  simp only [List.isEmpty_cons, Bool.false_eq_true, if_false]
  have hd₂' : h₂.get? s.heap.objs.size = some (entObj w P P.length) := by simpa using hd₂
  refine wpAny_bind (wpAny_holding ?_)
  unfold subDict
  refine wpAny_bind (wpAny_alloc ?_)
  refine wpAny_bind (wpAny_holding ?_)
  rw [if_pos (by simp)]
  refine wpAny_bind ?_
  refine evalPairs_cons (wpAny_mono (hgo h₂ hd₂' hs₂) (fun kv s₃ h₃ => wpAny_mono h₃ (fun vv s₄ h₄ => evalPairs_nil ?_) fun _ _ e => e) fun _ _ e => e)
  obtain ⟨k, t, v, u, rfl, rfl, hk, hDne, hD2s, hD2, hDD, hfin⟩ := h₄
  refine wpAny_holding ?_
  refine wpAny_bind ?_
  rw [List.forIn_cons]
  refine wpAny_bind (wpAny_bind (ent_set hD2 (by simp) (by simp) fun h₅ hd₅ hs₅ => wpAny_pure ?_))
  dsimp only
  rw [List.forIn_nil]
  refine wpAny_pure ?_
  refine wpAny_pure ?_
  refine wpAny_pure ?_
  have hDD5 : h₅.get? s.heap.objs.size = some (entObj w P P.length) := (hs₅.2 _ hDne).trans hDD
  have hd₅' : h₅.get? h₂.objs.size = some (entObj w [⟨k, t, v, u⟩] 1) := hd₅
  refine wpAny_bind (wpAny_onRaise (wpAny_holding (ent_merge (Ne.symm hDne) hD2s hd₅' hDD5 ?_ (by simp; omega) fun h₆ hd₆ hs₆ => ?_)))
  · rw [List.map_append, List.nodup_append]
    refine ⟨hn, by simp, ?_⟩
    intro x hx y hy e
    have e2 : y = k := by simpa using hy
    rw [e, e2] at hx
    exact hk hx
  · refine wpAny_pure ?_
    dsimp only
    refine wpAny_pure ?_
    refine hfin h₆ (by rw [List.length_append]; exact hd₆) fun b o h1 h2 e => ?_
    exact (hs₆.2 b h1).trans ((hs₅.2 b h2).trans e)
end
end Mine
end
section
open PySem PySem.W PySem.Calls PyProof.Rows PyProof.V PySem.Spec
set_option maxRecDepth 100000
namespace Mine
section
variable {prog : Program} {w : World} {A : Around} {E : Value → Shared → Prop} {s : Shared} {h₀ : Heap} {L : Addr} {m : Str → Option Value} {news : List (Addr × Obj)}

def StarEnd (w : World) (h₀ : Heap) (L : Addr) (m : Str → Option Value) (Q : Value → Shared → Prop) (D D2 : Addr) (P : List Ent) (news₁ : List (Addr × Obj)) (s₁ : Shared) (kv vv : Value) (s₄ : Shared) : Prop :=
  ∃ k t v u h₄ tk, kv = .str k t ∧ vv = .str v u ∧ k ∉ P.map Ent.k ∧ s₄ = { s₁ with heap := h₄, toks := tk } ∧ Fr h₀ L h₄ m ∧ News h₀ L h₄ ((D2, entObj w [] 0) :: (D, entObj w P P.length) :: news₁) ∧
    ∀ h₆ tk', Fr h₀ L h₆ m → News h₀ L h₆ ((D, entObj w (P ++ [⟨k, t, v, u⟩]) (P ++ [⟨k, t, v, u⟩] : List Ent).length) :: news₁) → Q (.ref D) { s₁ with heap := h₆, toks := tk' }

def StarSrc (prog : Program) (w : World) (A : Around) (E : Value → Shared → Prop) (h₀ : Heap) (L : Addr) (m : Str → Option Value) (env : Env) (kx vx : Expr) (Q : Value → Shared → Prop) (D : Addr) (mv : Value) (s₁ : Shared) : Prop :=
  ∃ a P n₂ news₁, mv = .ref a ∧ (a == sysModules) = false ∧ (a, entObj w P n₂) ∈ news₁ ∧ Fr h₀ L s₁.heap m ∧ News h₀ L s₁.heap ((D, entObj w [] 0) :: news₁) ∧ (∀ p ∈ news₁, p.1 ≠ D) ∧ (P.map Ent.k).Nodup ∧ P.length ≤ 900 ∧
    ∀ D2 h₂ tk₂, tk₂ = s₁.toks → Fr h₀ L h₂ m → News h₀ L h₂ ((D2, entObj w [] 0) :: (D, entObj w P P.length) :: news₁) → (∀ p ∈ news₁, p.1 < D2) → D < D2 →
      wpAny (model prog w) A (eval kx env) (fun kv s₃ => wpAny (model prog w) A (eval vx env) (fun vv s₄ => StarEnd w h₀ L m Q D D2 P news₁ s₁ kv vv s₄) E s₃) E { s₁ with heap := h₂, toks := tk₂ }

theorem StarSrc.intro {env : Env} {kx vx : Expr} {Q : Value → Shared → Prop} {D : Addr} {s₁ : Shared} {a : Addr} {P : List Ent} {n₂ : Nat} {news₁ : List (Addr × Obj)} (has : (a == sysModules) = false) (hm : (a, entObj w P n₂) ∈ news₁) (F : Fr h₀ L s₁.heap m) (N : News h₀ L s₁.heap ((D, entObj w [] 0) :: news₁))
    (off : ∀ p ∈ news₁, p.1 ≠ D) (hn : (P.map Ent.k).Nodup) (hl : P.length ≤ 900)
    (h : ∀ D2 h₂ tk₂, tk₂ = s₁.toks → Fr h₀ L h₂ m → News h₀ L h₂ ((D2, entObj w [] 0) :: (D, entObj w P P.length) :: news₁) → (∀ p ∈ news₁, p.1 < D2) → D < D2 →
      wpAny (model prog w) A (eval kx env) (fun kv s₃ => wpAny (model prog w) A (eval vx env) (fun vv s₄ => StarEnd w h₀ L m Q D D2 P news₁ s₁ kv vv s₄) E s₃) E { s₁ with heap := h₂, toks := tk₂ }) :
    StarSrc prog w A E h₀ L m env kx vx Q D (.ref a) s₁ := ⟨a, P, n₂, news₁, rfl, has, hm, F, N, off, hn, hl, h⟩

theorem Dict_star {env : Env} {mx kx vx : Expr} {pos : Pos} {Q : Value → Shared → Prop} (F : Fr h₀ L s.heap m) (N : News h₀ L s.heap news) (hlim : h₀.NoLimit)
    (h : ∀ D h', Fr h₀ L h' m → News h₀ L h' ((D, entObj w [] 0) :: news) → (∀ p ∈ news, p.1 < D) → (D == sysModules) = false →
      wpAny (model prog w) A (eval mx env) (StarSrc prog w A E h₀ L m env kx vx Q D) E { s with heap := h' }) :
    wpAny (model prog w) A (eval (.Dict [none, some kx] [mx, vx] pos) env) Q E s := by
  have hbig := modules_low hlim
  rw [arm_eval_Dict]
  refine wpAny_bind (wpAny_standAt ?_)
  show wpAny (model prog w) A (dictDisplay [(none, do let x ← eval mx env; standAt pos; pure x), (some (eval kx env), do let x ← eval vx env; standAt pos; pure x)]) Q E s
  refine display2 (D := s.heap.objs.size) rfl ?_
  have hh := h s.heap.objs.size _ (F.push { cls := .type "dict", data := .dict #[] }) (News.push F N _) (fun p hp => Heap.lt_size (N p hp).1) (F.notModules hbig)
  refine wpAny_bind (wpAny_mono hh (fun mv s₁ h₁ => wpAny_bind (wpAny_standAt (wpAny_pure ?_))) fun _ _ e => e)
  obtain ⟨a, P, n₂, news₁, rfl, has, hm, F₁, N₁, off, hn, hl, hgo⟩ := h₁
  have zD := N₁ _ (List.mem_cons_self)
  refine ⟨a, P, n₂, rfl, has, off _ hm, (N₁ _ (List.mem_cons_of_mem _ hm)).1, zD.1, hn, hl, fun h₂ hd₂ hs₂ => ?_⟩
  have F₂ : Fr h₀ L h₂ m := F₁.change hs₂ zD.2.1 zD.2.2
  have N₂ : News h₀ L h₂ ((s.heap.objs.size, entObj w P P.length) :: news₁) := fun p hp => by
    rcases List.mem_cons.mp hp with rfl | hp
    · exact ⟨hd₂, zD.2⟩
    · have z := N₁ p (List.mem_cons_of_mem _ hp)
      exact ⟨(hs₂.2 _ (off p hp)).trans z.1, z.2⟩
  have hDlt : @LT.lt Nat _ s.heap.objs.size h₂.objs.size := Heap.lt_size hd₂
  have hg := hgo h₂.objs.size _ s₁.toks rfl (F₂.push { cls := .type "dict", data := .dict #[] }) (News.push F₂ N₂ _) (fun p hp => Heap.lt_size (N₂ p (List.mem_cons_of_mem _ hp)).1) hDlt
  refine wpAny_mono hg (fun kv s₃ h₃ => wpAny_bind (wpAny_mono h₃ (fun vv s₄ h₄ => wpAny_bind (wpAny_standAt (wpAny_pure ?_))) fun _ _ e => e)) fun _ _ e => e
  obtain ⟨k, t, v, u, h₄', tk, rfl, rfl, hk, rfl, F₄, N₄, hfin⟩ := h₄
  have z2 := N₄ _ (List.mem_cons_self)
  have z1 := N₄ _ (List.mem_cons_of_mem _ List.mem_cons_self)
  refine ⟨k, t, v, u, rfl, rfl, hk, (by show @Ne Nat s.heap.objs.size h₂.objs.size; omega), F₂.notModules hbig, z2.1, z1.1, fun h₆ hd₆ hk₆ => ?_⟩
  have hne : ∀ b o, h₀.get? b = some o → b ≠ s.heap.objs.size ∧ b ≠ h₂.objs.size := by
    intro b o e
    constructor
    · intro q
      have z := z1.2.2
      rw [q] at e
      exact nomatch (z.symm.trans e)
    · intro q
      have z := z2.2.2
      rw [q] at e
      exact nomatch (z.symm.trans e)
  refine hfin h₆ _ ⟨F₄.ns.at' fun o e => hk₆ _ o (Ne.symm z1.2.1) (Ne.symm z2.2.1) e, fun b o e => hk₆ b o (hne b o e).1 (hne b o e).2 (F₄.keep b o e), F₄.above⟩ fun p hp => ?_
  rcases List.mem_cons.mp hp with rfl | hp
  · exact ⟨hd₆, z1.2⟩
  · have z := N₄ p (List.mem_cons_of_mem _ (List.mem_cons_of_mem _ hp))
    have hlt2 : @LT.lt Nat _ p.1 h₂.objs.size := Heap.lt_size (N₂ p (List.mem_cons_of_mem _ hp)).1
    exact ⟨hk₆ _ _ (off p hp) (by show @Ne Nat p.1 h₂.objs.size; omega) z.1, z.2⟩
end
end Mine
end
section
open PySem PySem.W PySem.Calls PyProof.Rows PyProof.V PySem.Spec
set_option maxRecDepth 100000
namespace Mine
section
variable {prog : Program} {w : World} {A : Around} {E : Value → Shared → Prop} {s : Shared} {h₀ : Heap} {L : Addr} {m : Str → Option Value} {env : Env}

/-- a list's comprehension over bytes -/
def BSrc (prog : Program) (w : World) (A : Around) (h₀ : Heap) (L : Addr) (m : Str → Option Value) (env : Env) (elt : Expr) (x : Str) (scope : Scope) (cl : List (Str × Addr)) (Fin : Shared → List Value → List (Addr × Obj) → Prop) (xv : Value) (s₁ : Shared) : Prop :=
  ∃ b t news, xv = .bytes b t ∧ A.handled = none ∧ Fr h₀ L s₁.heap m ∧ News h₀ L s₁.heap news ∧ b.size ≤ sizeLine ∧
    ∀ s₂ : Shared, (∃ h, s₂ = { s₁ with heap := h }) → LCg.CompRest prog w A h₀ L m env elt x scope cl s₂ (fun _ => True) (fun i v => ∃ c u, b[i]? = some c ∧ v = .int (c.toNat : Int) u) (Fin s₂) b.size 0 [] news

theorem BSrc.intro {elt : Expr} {x : Str} {scope : Scope} {cl : List (Str × Addr)} {Fin : Shared → List Value → List (Addr × Obj) → Prop} {b : Array UInt8} {t : Tok} {news : List (Addr × Obj)} {s₁ : Shared} (hh : A.handled = none) (F : Fr h₀ L s₁.heap m) (N : News h₀ L s₁.heap news) (hsz : b.size ≤ sizeLine)
    (h : ∀ g, LCg.CompRest prog w A h₀ L m env elt x scope cl { s₁ with heap := g } (fun _ => True) (fun i v => ∃ c u, b[i]? = some c ∧ v = .int (c.toNat : Int) u) (Fin { s₁ with heap := g }) b.size 0 [] news) :
    BSrc prog w A h₀ L m env elt x scope cl Fin (.bytes b t) s₁ := ⟨b, t, news, rfl, hh, F, N, hsz, fun _ ⟨g, e⟩ => e ▸ h g⟩

theorem ListComp_B {elt iter : Expr} {x : Str} {px : Pos} {scope : Scope} {cl : List (Str × Addr)} {pos : Pos} {Q : Value → Shared → Prop} (F₀ : Fr h₀ L s.heap m)
    (hclos : closureFor scope env = pure cl) (hcell : ∀ y ∈ scope.names, y.2 ≠ .cell) (hkind : scope.kind = .function)
    (hnames : ∀ y ∈ scope.names, y.2 = .local → scope.names.lookup y.1 = some .local) (hx : scope.names.lookup x = some .local)
    (h : wpAny (model prog w) A (eval iter env) (BSrc prog w A h₀ L m env elt x scope cl (fun s₂ => LCg.FinE h₀ L m s₂ Q)) E s)
    (hs : ∀ x, foldedSetIterable iter env x = pure x := by intro _; rfl) :
    wpAny (model prog w) A (eval (.ListComp elt [⟨.Name x px, iter, [], 0⟩] scope pos) env) Q E s := by
  rw [eval_ListComp]
  refine wpAny_comprehension_free (use := none) rfl hs hclos hkind hnames (wpAny_mono h (fun xv s₁ h₁ => ?_) fun _ _ e => e)
  obtain ⟨b, t, news, rfl, hh, F, N, hsz, R⟩ := h₁
  refine KBw.pyIter_bytes ?_
  refine LCg.block_U (KBw.walks hh s₁.heap.objs.size b t) hsz (fun i h st => by obtain ⟨o, e, _⟩ := st; exact ⟨o, e⟩) ?_ hcell hkind hx ⟨_, Heap.get?_push_size _ rfl, rfl, rfl⟩ (fun c hc => ?_)
    (F.keeps fun _ _ e => Heap.get?_push_of_some _ e) (N.grown fun _ _ e => Heap.get?_push_of_some _ e) (Nat.ne_of_lt F.ns.lt) (next_is_new F) (fun p hp => Nat.ne_of_lt (Heap.lt_size (N p hp).1)) trivial (R _ ⟨_, rfl⟩) ?_
  · intro i h h' o nw st e e' _ _ _
    obtain ⟨o', a, c, d⟩ := st
    rw [e] at a
    cases a
    exact ⟨_, e', c, d⟩
  · rw [List.mem_singleton.mp hc]
    show s₁.heap.objs.size < (s₁.heap.push _).objs.size
    rw [Heap.size_push]; exact Nat.lt_succ_self _
  · intro D C h tk m' ys news' F' N' o1 hn hC₀ hD₀ hCL hDL hCD offC fin
    refine ⟨m', hn, fun h'' hs'' => fin D h'' tk (F'.change hs'' hCL hC₀) (fun p hp => ?_) o1⟩
    refine ⟨hs''.extBut _ _ ?_ (N' p hp).1, (N' p hp).2⟩
    rcases List.mem_cons.mp hp with rfl | hp
    · exact Ne.symm hCD
    · exact offC p hp

theorem kct_bytes {elt : Expr} {x : Str} {scope : Scope} {cl : List (Str × Addr)} {S : List (Addr × Obj) → Prop} {Fin : List Value → List (Addr × Obj) → Prop} {news : List (Addr × Obj)} {b : Array UInt8} (g : Int → PySem.Str)
    (turn : ∀ k t I oI C oC D m₂ ys h tk (E' : Value → Shared → Prop), 0 ≤ k → k < 256 → LCg.NsObj oC m₂ → m₂ x = some (.int k t) → Fr h₀ L h m → News h₀ L h ((I, oI) :: (C, oC) :: (D, LCg.lst ys) :: news) → LCg.Off3 I C D news → ((@Ne Nat I C) ∧ (@Ne Nat I D) ∧ (@Ne Nat C D)) → KPfMark →
      wpAny (model prog w) A (eval elt (compEnvC scope cl C env)) (LCg.CompEnd h₀ L m { s with heap := h, toks := tk } I oI C oC D (LCg.lst ys) S (fun y news' => KCtEl news (g k) y news')) E' { s with heap := h, toks := tk })
    (fin : KPfDone (∀ ys, CarriedAll ys ((KBw.bInts b).map fun k => PyData.str (g k)) → (KBw.bInts b).length = b.size → Fin ys news)) : LCg.CompRest prog w A h₀ L m env elt x scope cl s S (fun i v => ∃ c u, b[i]? = some c ∧ v = .int (c.toNat : Int) u) Fin b.size 0 [] news :=
  kct_rest (ks := KBw.bInts b) g (KBw.ints_length b) (fun i v _ hv => by
    obtain ⟨c, u, hc, rfl⟩ := hv
    exact ⟨_, u, KBw.ints_get hc, rfl⟩)
    (fun k t I oI C oC D m₂ ys h tk E' hk hC hx F N off ne mk => turn k t I oI C oC D m₂ ys h tk E' (KBw.ints_in hk).1 (KBw.ints_in hk).2 hC hx F N off ne mk) fin

def chrS (k : Int) : Str := ⟨#[k.toNat]⟩
/-- the letters of Int2AP's word -/
def wordL (b : List UInt8) : Str := ⟨(b.map fun c => c.toNat).toArray⟩
theorem join_chr (b : Array UInt8) : Txt.join (Str.ofString "") ((KBw.bInts b).map chrS) = wordL b.toList := by
  have e0 : Str.ofString "" = (⟨#[]⟩ : Str) := by decide
  show Builtin.Str.glued (Str.ofString "") _ = _
  rw [StrLaws.glued_eq_join, e0]
  have e : (KBw.bInts b).map chrS = (b.toList.map fun c => c.toNat).map fun k => (⟨#[k]⟩ : Str) := by
    unfold KBw.bInts
    rw [List.map_map, List.map_map]
    apply List.map_congr_left
    intro c _
    simp [chrS]
  rw [e]
  exact PyProof.Rows.join_ones _
theorem wordL_len (b : List UInt8) : (wordL b).length = b.length := by
  simp [wordL, Str.length]
end
end Mine
end
section
open PySem PySem.W PySem.Calls PyProof.Rows PyProof.V PySem.Spec
set_option maxRecDepth 100000
namespace Mine
theorem ct_use2 {prog : Program} {w : World} {K : Frag} {p : Program} {loose : List Str} {mean : ExcName → Option Value} {mg mb : Str → Option Value} {k : Nat} {f : Addr} {news : List (Addr × Obj)} {vs : List Value} {R : Tok → Value} (C : Ct prog w K p loose mean mg mb k f news vs R)
    {dp un : Nat} {gd : Option (List Code)} {cn : Str} {cs : Scope} {a : Addr} {ccd : Value} {cl : List (Str × Addr)} {outer : List Env} {A₀ : Around} {base h₀ : Heap} {L : Addr} {m : Str → Option Value} {s : Shared} {Q E : Value → Shared → Prop}
    (B : Below A₀ base outer h₀) (F : Fr h₀ L s.heap m) (X : K.In h₀) (N : News h₀ L s.heap news) (T : Top p loose mean mg mb h₀) (hk : cs.kind = .function) (hd : dp + k < recursionLimit) (hu : un + 16 * k < cLine)
    (ret : ∀ (t : Tok) (h' : Heap) (tk' : Nat), @LE.le Nat _ s.toks tk' → Fr h₀ L h' m → News h₀ L h' news → Q (R t) { s with heap := h', toks := tk' }) :
    wpAny (model prog w) (ktrTop dp un gd cn cs L a ccd cl outer) (call (.ref f) vs) Q E s :=
  wpAny_with_toks (n := s.toks) (Nat.le_refl _) (C _ _ _ _ _ _ _ _ _ _ _ _ _ _ _ _ _ B F X N T hk hd hu fun t h' tk' F' N' hle => ret t h' tk' hle F' N')
end Mine
namespace Mine
/-- the numbers' text: a mark and the word's letters, in turn -/
def piece (nums : List Int) (k : Nat) : Str := pick3 (Str.ofString "<") (Str.ofString ">") (Str.ofString "&") ((k : Int).fmod 3) ++ wordL (ap (nums.getD k 0).natAbs)
def mtext (nums : List Int) : Nat → Str
  | 0 => Str.ofString ""
  | k + 1 => mtext nums k ++ piece nums k
end Mine
namespace Mine
theorem ap_len10 {n : Int} (h1 : -1099511627776 < n) (h2 : n < 1099511627776) : (ap n.natAbs).length ≤ 10 := ap_len 10 (by omega)
theorem ap_sz {n : Int} (h1 : -1099511627776 < n) (h2 : n < 1099511627776) : (ap n.natAbs).toArray.size ≤ sizeLine := by
  rw [List.size_toArray, sizeLine_eq]
  have := ap_len10 h1 h2
  omega

section
variable {prog : Program} {w : World} {A : Around} {E : Value → Shared → Prop} {s : Shared} {t : Tok} {Q : Value → Shared → Prop}
theorem join_bytes {D : Addr} {ys : List Value} {b : Array UInt8} (hl : s.heap.IsList D ys.toArray) (hc : CarriedAll ys ((KBw.bInts b).map fun k => PyData.str (chrS k))) (hsz : b.size ≤ 1000)
    (h : ∀ t' k, Q (.str (wordL b.toList) t') { s with toks := k }) : wpAny (model prog w) A (call (.builtin "str.join") [.str (Str.ofString "") t, .ref D]) Q E s := by
  refine join_list hl (CarriedAll.strsOf hc) ?_ ?_
  · have e : (Str.ofString "").length = 0 := by decide +kernel
    rw [e, Nat.mul_zero, Nat.add_zero]
    refine Nat.le_trans (sum_le_of (B := 1) fun x hx => ?_) ?_
    · obtain ⟨y, hy, rfl⟩ := List.mem_map.mp hx
      obtain ⟨k, _, rfl⟩ := List.mem_map.mp hy
      exact Nat.le_refl _
    · rw [List.length_map, List.length_map, KBw.ints_length]
      omega
  · rw [join_chr]; exact h
end
end Mine
namespace Mine
end Mine
namespace Mine
end Mine
end
section
open PySem PySem.W PySem.Calls PyProof.Rows PyProof.V PySem.Spec
set_option maxRecDepth 100000
namespace Mine
abbrev numsOf (ns : List Int) : List Int := (ns.take 3).map (fun (k' : Int) => k'.fmod 4096) ++ [1999, 240]
/-- the text of the numbers -/
def TextIs (T : Str) (ns : List Int) : Prop := T = mtext (numsOf ns) (numsOf ns).length
theorem TextIs.of {T : Str} {ns : List Int} (h : T = mtext (numsOf ns) (rangeKs 0 (((((ns.take 3).map (fun (k' : Int) => k'.fmod 4096)).length + (1 + 1) : Nat) : Int) - 0).toNat).length) : TextIs T ns := by
  unfold TextIs
  rw [h, rangeKs_length]
  congr 1
  rw [List.length_append]
  simp only [List.length_cons, List.length_nil]
  omega

def kfL (j : Int) : Str := Txt.item (Str.ofString "ABCDEFGHIJKLMNOP") j
theorem kfL_eq {j : Int} (h0 : 0 ≤ j) (h1 : j < 16) : kfL j = ⟨#[65 + j.toNat]⟩ := by
  have : j = 0 ∨ j = 1 ∨ j = 2 ∨ j = 3 ∨ j = 4 ∨ j = 5 ∨ j = 6 ∨ j = 7 ∨ j = 8 ∨ j = 9 ∨ j = 10 ∨ j = 11 ∨ j = 12 ∨ j = 13 ∨ j = 14 ∨ j = 15 := by omega
  rcases this with h | h | h | h | h | h | h | h | h | h | h | h | h | h | h | h <;> subst h <;> decide +kernel
section
variable {prog : Program} {w : World} {A : Around} {E : Value → Shared → Prop} {s : Shared} {x y : Str} {t u : Tok} {Q : Value → Shared → Prop}
/-- a text taken n times: its token is the text's, or new -/
theorem mulT {n : Int} (hok : MulOk x n) (h : ∀ t' k, (@Eq Nat t' t ∧ @Eq Nat k s.toks) ∨ (@Eq Nat t' s.toks ∧ @Eq Nat k (s.toks + 1)) → Q (.str (Txt.mul x n) t') { s with toks := k }) : wpAny (model prog w) A (binaryOp .Mult (.str x t) (.int n u)) Q E s := by
  refine P.mul_str hok.1 hok.2.1 hok.2.2 ?_
  unfold Txt.mul at h
  by_cases h1 : n < 1
  · rw [if_pos h1]
    have h' := h s.toks (s.toks + 1) (.inr ⟨rfl, rfl⟩)
    rw [if_pos h1] at h'
    exact ⟨by decide, h'⟩
  · rw [if_neg h1]
    cases hc : (n == 1 || x.length == 0)
    · simp only [Bool.false_eq_true, if_false]
      have h' := h s.toks (s.toks + 1) (.inr ⟨rfl, rfl⟩)
      rw [if_neg h1, hc] at h'
      simp only [Bool.false_eq_true, if_false] at h'
      exact ⟨fits_reps (hok.2.2 h1 hc), h'⟩
    · simp only [if_true]
      have h' := h t s.toks (.inl ⟨rfl, rfl⟩)
      rw [if_neg h1, hc] at h'
      simp only [if_true] at h'
      exact h'
theorem ne_same (h : x = y) (hq : Q (.bool false) s) : wpAny (model prog w) A (compareOp .NotEq (.str x t) (.str y u)) Q E s := by
  subst h
  refine ne_str ?_
  simpa using hq
end
end Mine
namespace Mine
end Mine
end
section
open PySem PySem.W PySem.Calls PyProof.Rows PyProof.V PySem.Spec
set_option maxRecDepth 100000
namespace Mine
section
variable {prog : Program} {w : World} {A : Around} {E : Value → Shared → Prop} {s : Shared} {env : Env} {h₀ : Heap} {target : Expr} {body : List Stmt} {Q : Flow → Shared → Prop}

/-- the turns of a loop over a list, with the token counter's bound kept -/
def RestB (prog : Program) (w : World) (A : Around) (E : Value → Shared → Prop) (h₀ : Heap) (env : Env) (target : Expr) (body : List Stmt) (Q : Flow → Shared → Prop) (s : Shared) (I : Addr) (keep : Addr × Obj) : List Value → (Str → Option Value) → List (Addr × Obj) → Prop
  | [], m, news => ∀ h (tk : Nat), 1 ≤ tk → Fr h₀ env.locals h m → News h₀ env.locals h news → Q .next { s with heap := h, toks := tk }
  | v :: r, m, news => ∀ h (tk : Nat) (o : Obj), 1 ≤ tk → o.cls = .type "list_iterator" → Fr h₀ env.locals h m → News h₀ env.locals h ((I, o) :: news) →
      wpAny (model prog w) A (assign target env v) (fun _ s₂ => wpAny (model prog w) A (execs body env) (UnrPostW h₀ env.locals { s with heap := h, toks := tk } [(I, o)] (fun m' n' => SubL [keep] n' ∧ RestB prog w A E h₀ env target body Q s I keep r m' n') Q) E s₂) E { s with heap := h, toks := tk }
theorem RestB.val {I : Addr} {keep : Addr × Obj} {v : Value} {r : List Value} {m : Str → Option Value} {news : List (Addr × Obj)}
    (h : ∀ h (tk : Nat) (o : Obj), 1 ≤ tk → o.cls = .type "list_iterator" → Fr h₀ env.locals h m → News h₀ env.locals h ((I, o) :: news) →
      wpAny (model prog w) A (assign target env v) (fun _ s₂ => wpAny (model prog w) A (execs body env) (UnrPostW h₀ env.locals { s with heap := h, toks := tk } [(I, o)] (fun m' n' => SubL [keep] n' ∧ RestB prog w A E h₀ env target body Q s I keep r m' n') Q) E s₂) E { s with heap := h, toks := tk }) :
    RestB prog w A E h₀ env target body Q s I keep (v :: r) m news := h
theorem RestB.zero {I : Addr} {keep : Addr × Obj} {m : Str → Option Value} {news : List (Addr × Obj)}
    (h : ∀ h (tk : Nat), 1 ≤ tk → Fr h₀ env.locals h m → News h₀ env.locals h news → Q .next { s with heap := h, toks := tk }) :
    RestB prog w A E h₀ env target body Q s I keep [] m news := h

def ListAtB (prog : Program) (w : World) (A : Around) (h₀ : Heap) (env : Env) (target : Expr) (body : List Stmt) (Q : Flow → Shared → Prop) (E : Value → Shared → Prop) (xv : Value) (s₁ : Shared) : Prop :=
  ∃ ax lo vs n m news, xv = .ref ax ∧ A.handled = none ∧ Fr h₀ env.locals s₁.heap m ∧ News h₀ env.locals s₁.heap news ∧ (ax, lo) ∈ news ∧ lo.cls = .type "list" ∧ lo.data = .seq (vs : List Value).toArray n ∧ @LE.le Nat _ 1 s₁.toks ∧
    ∀ I : Addr, (∀ p ∈ news, p.1 < I) → RestB prog w A E h₀ env target body Q s₁ I (ax, lo) vs m news
theorem ListAtB.intro {s₁ : Shared} {ax : Addr} {lo : Obj} {vs : List Value} {n : Nat} {m : Str → Option Value} {news : List (Addr × Obj)} (hh : A.handled = none) (F : Fr h₀ env.locals s₁.heap m) (N : News h₀ env.locals s₁.heap news) (hm : (ax, lo) ∈ news) (hc : lo.cls = .type "list") (hd : lo.data = .seq vs.toArray n)
    (h1 : @LE.le Nat _ 1 s₁.toks) (rest : ∀ I : Addr, (∀ p ∈ news, p.1 < I) → RestB prog w A E h₀ env target body Q s₁ I (ax, lo) vs m news) : ListAtB prog w A h₀ env target body Q E (.ref ax) s₁ :=
  ⟨ax, lo, vs, n, m, news, rfl, hh, F, N, hm, hc, hd, h1, rest⟩

theorem For_listB {iter : Expr} {pos : Pos} {m : Str → Option Value} (_F : Fr h₀ env.locals s.heap m)
    (h : wpAny (model prog w) A (eval iter env) (fun xv s₁ => ListAtB prog w A h₀ env target body Q E xv s₁) E s)
    (hs : ∀ x, foldedSetIterable iter env x = pure x := by intro _; rfl)
    (hE : PassesOwn (model prog w) A env E := by passes_own) :
    wpAny (model prog w) A (exec (.For target iter body [] pos) env) Q E s := by
  refine wpAny_For (wpAny_mono h (fun xv s₁ h₁ => ?_) fun _ _ e => e) hs
  obtain ⟨ax, lo, vs, n, m, news, rfl, hh, F, N, hm, hc, hd, h1, rest₀⟩ := h₁
  have hax := N _ hm
  have hl : s₁.heap.IsList ax vs.toArray := ⟨lo, hax.1, hc, n, hd⟩
  have hlt : ax < s₁.heap.objs.size := Heap.lt_size hax.1
  have hne : ax ≠ s₁.heap.objs.size := Nat.ne_of_lt hlt
  have hLlt : env.locals < s₁.heap.objs.size := F.ns.lt
  have rest := rest₀ s₁.heap.objs.size fun p hp => Heap.lt_size (N p hp).1
  have hnI : h₀.get? s₁.heap.objs.size = none := next_is_new F
  have apart : ∀ p ∈ news, p.1 ≠ s₁.heap.objs.size := fun p hp => Nat.ne_of_lt (Heap.lt_size (N p hp).1)
  have old : ∀ b o, h₀.get? b = some o → b ≠ s₁.heap.objs.size := fun b o e hb => by rw [hb, hnI] at e; cases e
  clear rest₀
  generalize hI : s₁.heap.objs.size = I at *
  refine wpAny_pyIter_list hl ?_
  rw [hI]
  refine codeAny_forLoop_any (R := fun r s' => match r with | .ok f => Q f s' | .error e => cameBackBy (model prog w) A env E e s')
    (fun k s' => ∃ h' tk m' news' r, s' = { s₁ with heap := h', toks := tk } ∧ 1 ≤ tk ∧ h'.IsListIter I ax (vs.length - r.length) ∧ r.length ≤ vs.length ∧ vs.drop (vs.length - r.length) = r ∧ h'.IsList ax vs.toArray ∧ Fr h₀ env.locals h' m' ∧ News h₀ env.locals h' news' ∧ (∀ p ∈ news', p.1 ≠ I) ∧ SubL [(ax, lo)] news' ∧
      RestB prog w A E h₀ env target body Q s₁ I (ax, lo) r m' news' ∧ k = r.length) ?_ vs.length
    ⟨_, s₁.toks, m, news, vs, rfl, h1, ?_, Nat.le_refl _, by simp, ?_, F.push _, fun p hp => ⟨Heap.get?_push_of_some _ (N p hp).1, (N p hp).2⟩, apart, And.intro hm trivial, rest, rfl⟩
  rotate_left
  · rw [Nat.sub_self]
    exact ⟨_, hI ▸ Heap.get?_push_size _ rfl, rfl, rfl⟩
  · exact hl.at fun o e => Heap.get?_push_of_some _ e
  rintro k s' ⟨h', tk, m', news', r, rfl, htk, hit, hrl, hdr, hl', F', N', hnw, hsub, hR, rfl⟩
  have next : ∀ h₂ : Heap, (∀ b o, b ≠ I → h'.get? b = some o → h₂.get? b = some o) → Fr h₀ env.locals h₂ m' ∧ News h₀ env.locals h₂ news' := fun h₂ hk =>
    ⟨⟨F'.ns.at' fun o e => hk _ o (Nat.ne_of_lt hLlt) e, fun b o e => hk b o (old b o e) (F'.keep b o e), F'.above⟩, fun p hp => ⟨hk _ _ (hnw p hp) (N' p hp).1, (N' p hp).2⟩⟩
  cases r with
  | nil =>
    refine wpAny_pyNext_list_end hh hit hl' (by simp) fun h₂ hk => wpAny_execs_nil ?_
    obtain ⟨F₂, N₂⟩ := next h₂ fun b o hb e => hk b o hb e
    exact hR h₂ tk htk F₂ N₂
  | cons v r =>
    have hlen : r.length + 1 ≤ vs.length := hrl
    have hv : vs.toArray[vs.length - (r.length + 1)]? = some v := by
      have e : vs.drop (vs.length - (r.length + 1)) = v :: r := hdr
      have e2 := congrArg (fun l : List Value => l[0]?) e
      simpa using e2
    refine wpAny_pyNext_list_item hit hl' hv fun h₂ hit₂ hs₂ => ?_
    refine letGo_listiter hit₂ ?_
    obtain ⟨F₂, N₂⟩ := next h₂ fun b o hb e => hs₂.extBut b o hb e
    obtain ⟨oI, hoI, hcI, hdI⟩ := id hit₂
    have NI : News h₀ env.locals h₂ ((I, oI) :: news') := fun p hp => by
      rcases List.mem_cons.mp hp with rfl | hp
      · exact ⟨hoI, (Nat.ne_of_lt hLlt).symm, hnI⟩
      · exact N₂ p hp
    refine wpAny_mono (wpAny_toks_of (n := 1) htk (hR h₂ tk oI htk hcI F₂ NI)) (fun _ s₂ h₂' => wpAny_passesOwn hE (wpAny_mono (wpAny_toks_of (n := 1) h₂'.1 h₂'.2) (fun f s₃ p => ?_) fun _ _ e => e.2)) (fun e s' x => hE e s' x.2)
    have fin : ∀ s₃ : Shared, 1 ≤ s₃.toks → UnrEndW h₀ env.locals { s₁ with heap := h₂, toks := tk } [(I, oI)] (fun m' n' => SubL [(ax, lo)] n' ∧ RestB prog w A E h₀ env target body Q s₁ I (ax, lo) r m' n') s₃ →
        ∃ k, k < (v :: r).length ∧ ∃ h' tk m' news' r, s₃ = { s₁ with heap := h', toks := tk } ∧ 1 ≤ tk ∧ h'.IsListIter I ax (vs.length - r.length) ∧ r.length ≤ vs.length ∧ vs.drop (vs.length - r.length) = r ∧ h'.IsList ax vs.toArray ∧ Fr h₀ env.locals h' m' ∧ News h₀ env.locals h' news' ∧ (∀ p ∈ news', p.1 ≠ I) ∧ SubL [(ax, lo)] news' ∧
          RestB prog w A E h₀ env target body Q s₁ I (ax, lo) r m' news' ∧ k = r.length := by
      rintro s₃ ht ⟨h₃, tk₃, m₃, news₃, rfl, F₃, N₃, ho, hk, hR₃⟩
      refine ⟨r.length, by simp, h₃, tk₃, m₃, news₃, r, rfl, ht, ?_, by omega, ?_, ?_, F₃, fun p hp => N₃ p (List.mem_append_right _ hp), fun p hp => ho p hp _ (List.mem_singleton_self _), hk, hR₃, rfl⟩
      · refine ⟨oI, (N₃ (I, oI) (List.mem_append_left _ (List.mem_singleton_self _))).1, hcI, ?_⟩
        rw [hdI]
        have e : vs.length - (v :: r).length + 1 = vs.length - r.length := by rw [List.length_cons]; omega
        rw [e]
      · have e : vs.drop (vs.length - (r.length + 1)) = v :: r := hdr
        have e2 : vs.length - r.length = (vs.length - (r.length + 1)) + 1 := by omega
        rw [e2, ← List.drop_drop, e]
        rfl
      · exact ⟨lo, (N₃ _ (List.mem_append_right _ (hk.mem _ (List.mem_singleton_self _)))).1, hc, n, hd⟩
    obtain ⟨ht, p⟩ := p
    cases f with
    | ret v => exact p
    | brk => exact p
    | cont => exact fin _ ht p
    | next => exact fin _ ht p
end
end Mine
end
section
open PySem PySem.W PySem.Calls PyProof.Rows
namespace Mine
def esc3 (x : Str) : Str := Txt.replace (Txt.replace (Txt.replace x (Str.ofString "&") (Str.ofString "&amp;")) (Str.ofString ">") (Str.ofString "&gt;")) (Str.ofString "<") (Str.ofString "&lt;")
def une2 (x : Str) : Str := Txt.replace (Txt.replace x (Str.ofString "&lt;") (Str.ofString "<")) (Str.ofString "&gt;") (Str.ofString ">")
end Mine
end
section
open PySem PySem.W PyProof.Rows
namespace Mine
local macro_rules | `(tactic| walk_at "subscriptTail Name Slice bytes ref") => `(tactic| (k_here; (with_reducible rename Fr _ _ _ _ => F'); (with_reducible rename News _ _ _ _ => N'); (with_unfolding_all refine' slice_ap (s := ⟨_, _, _, _, _⟩) F' N' ?k1 ?k2 ?k3); (case k2 => with_unfolding_all rfl); (case k3 => (intro _; with_unfolding_all rfl)); clear F' N'; intro h' t' k' F' N'; (try dsimp only)))
local macro_rules | `(tactic| walk_at "binaryOp Add bytes bytes") => `(tactic| (k_here; (with_unfolding_all refine' KBy.add_bytes ?k1 ?k2); (case k1 => exact ap_fits (by assumption) (by assumption)); intro t' k'))
set_option maxRecDepth 100000 in
set_option maxHeartbeats 8000000 in
theorem ct2_ap {w : World} {mean : ExcName → Option Value} {mg mb : Str → Option Value} (news : List (Addr × Obj)) (n : Int) (t : Tok) (hlo : -1099511627776 < n) (hhi : n < 1099511627776) :
   Ct PySem.Challenge.rw_ik0016_02.row.prog w (hd2.heap_39 w.params) hd2.view_39 (looseW hd2.view_39 [Str.ofString "escape", Str.ofString "unescape"]) mean mg mb 1 46 news [.int n t] (fun t => .bytes (ap n.natAbs).toArray t) := by
  w_top off
  k_fill
  intro dp un gd cn cs a ccd cl outer A₀ base h₀ L m s Q E B F X N T hk hd hu hret
  have hW : (ap n.natAbs).length ≤ 1000 := Nat.le_trans (ap_len 10 (by omega)) (by decide)
  k_with_none
  k_with "state" => first | exact ap_start _ _ rfl | exact ap_turn (by assumption) (by assumption) (by assumption)
  k_with "measure" => exact ap_less (by assumption) (by assumption)
  k_with "exec While Name cons nil" => k_while (fun _ (num : Int) (val : Array UInt8) => 0 ≤ num ∧ ap num.toNat ++ val.toList = ap n.natAbs) (fun _ num _ => num.toNat) "num" "val"
  refine wpAny_call ?_
  k_dflt cell_enter
  k_steps
  all_goals exact cb_retBy hret (ap_end (by assumption) (by assumption)) (by assumption) (by assumption)
  k_with_none
end Mine
end
section
open PySem PySem.W PySem.Calls PyProof.Rows
namespace Mine
local macro_rules | `(tactic| walk_at "call builtin:str.replace") => `(tactic| (k_here; (with_reducible rename EntOk _ => hE'); (with_reducible refine rep_call _ hE' (by assumption) ?_); intro _ _))
set_option maxRecDepth 100000 in
set_option maxHeartbeats 8000000 in
theorem ct2_rep {w : World} {mean : ExcName → Option Value} {mg mb : Str → Option Value} (news : List (Addr × Obj)) (d : Addr) (P : List Ent) (n : Nat) (x : Str) (t : Tok)
   (hm : (d, entObj w P n) ∈ news) (hs : (d == sysModules) = false) (hn : (P.map Ent.k).Nodup) (hP : ∀ p ∈ P, EntOk p) (hx : RepFits x P) :
   Ct PySem.Challenge.rw_ik0016_02.row.prog w (hd2.heap_39 w.params) hd2.view_39 (looseW hd2.view_39 [Str.ofString "escape", Str.ofString "unescape"]) mean mg mb 1 21 news [.str x t, .ref d] (fun t => .str (repAll x P) t) := by
  w_top off
  k_fill
  intro dp un gd cn cs a ccd cl outer A₀ base h₀ L m s Q E B F X N T hk hd hu hret
  refine wpAny_call ?_
  k_dflt cell_enter
  iterate 2 (first | walk1 | (dsimp only; walk1))
  rename Fr _ _ _ _ => lF'
  rename News _ _ _ _ => lN'
  have hT' := ent_tabAt (prog := PySem.Challenge.rw_ik0016_02.row.prog) hs (lN' _ hm).1 hn
  with_unfolding_all refine' For_turns lF' ?_
  k_whole
  with_unfolding_all refine MethodCall_ ?_
  with_unfolding_all refine ld lF' (by rfl) ?_
  with_unfolding_all refine getMethod_tab (knd := PySem.strKind _ _) (enc := PyData.str) PySem.F.slot_dict_items PySem.F.type_dict_items hT' ?_
  with_unfolding_all refine callWith_method0 ?_
  with_unfolding_all refine call_items_tab (knd := PySem.strKind _ _) (enc := PyData.str) hT' lF' lN' ?_
  intro h' o' hv' F' N'
  replace N' := kti_tail N'
  with_unfolding_all refine ent_items (by rfl) F' N' hv' hm hn ?_
  clear lF' lN' hT'
  intro I hI
  with_unfolding_all refine rep_rest0 (sN := Str.ofString "s") (x := x) (t := t) (by rfl) (And.intro hm trivial) hI hP hx ?_ ?_
  · intro p hp
    unfold RepTurn
    intro x' t' u' T h tk' oi Q' hok hlen hT hF ho hN hQ
    k_steps
    refine' hQ _ _ _ _ ?k1 ?k2 ?k3
    (case k2 => assumption)
    (case k3 => assumption)
    (case k1 => rfl)
  · intro t' u' h tk' hF hN
    k_steps
    all_goals exact cb_retS hret rfl (by assumption) (by assumption)
end Mine
end
section
open PySem PySem.W PySem.Calls PyProof.Rows
namespace Mine
local macro_rules | `(tactic| cell_enter) => `(tactic| (refine' code_def ?k1 ?k2 ?k3 ?k4 ?k5 ?kA ?kF ?kK ?k6 ?k7 ?k8 ?k9 ?kB ?_ ?c2 ?c3 ?c4 ?c5; (case kA => exact rfl); (case kF => exact rfl); (case kK => assumption); (case k1 => k_asm); (case k2 => k_asm); (case k3 => k_asm); (case k4 => k_asm); (case k5 => k_asm); (case k6 => k_is); (case k7 => k_is); (case k8 => ktr_room); (case k9 => exact binds_K (by k_in) rfl (by k_is) rfl rfl rfl); (case c5 => decide); (case kB => exact locs rfl); (case c2 => exact rfl); (case c3 => exact rfl); (case c4 => exact rfl); k_whole; intro g' L' h' FG' F' N' B' X' T'; (try dsimp only); (try k_lift B'); (try k_fold)))
local macro_rules | `(tactic| walk_at "call builtin:str.replace") => `(tactic| (k_here; (refine SC.replaceW (by ((show @Ne Nat _ _); omega)) (by ((show @Ne Nat _ _); omega)) (by ((show @Ne Nat _ _); omega)) (by decide +kernel) (by omega) (by decide +kernel) ?_); intro _ _))
local macro_rules | `(tactic| walk_at "truthy ref") => `(tactic| (k_here; (with_unfolding_all refine' ent_falsy ?k1 ?k2 ?k3 ?k4 ?_); (case k1 => k_asm); (case k2 => k_asm); (case k3 => k_is); (case k4 => rfl)))
local macro_rules | `(tactic| walk_at "truthy ref") => `(tactic| (k_here; (with_reducible rename News _ _ _ _ => N'); (with_unfolding_all refine' ent_truthy N' ?k1 ?k2 ?k3 ?k4 ?k5 ?_); (case k1 => assumption); (case k2 => assumption); (case k3 => assumption); (case k4 => assumption); (case k5 => assumption)))
local macro_rules | `(tactic| walk_at "execs nil") => `(tactic| (k_here; (refine' gen_toks ?k1 ?_); (case k1 => first | omega | (dsimp only; omega) | with_unfolding_all exact one_le2 rfl | with_unfolding_all exact one_le1 rfl | with_unfolding_all exact one_le3 rfl | with_unfolding_all exact one_le4 rfl); intro tk9 htk9; refine wpAny_execs_nil ?_))
local macro_rules | `(tactic| walk_at "execs cons") => `(tactic| (k_here; (refine' gen_toks ?k1 ?_); (case k1 => first | omega | (dsimp only; omega) | with_unfolding_all exact one_le2 rfl | with_unfolding_all exact one_le1 rfl | with_unfolding_all exact one_le3 rfl | with_unfolding_all exact one_le4 rfl); intro tk9 htk9; refine wpAny_execs_cons ?_))
local macro_rules | `(tactic| walk_at "call ref") => `(tactic| (k_here; k_dflt (refine' ct_use (ct2_rep _ _ _ _ _ _ ?h1 ?h2 ?h3 ?h4 ?h5) ?k1 ?k2 ?k3 ?k4 ?k5 ?kK ?kd ?ku ?kR; (case h1 => assumption); (case h2 => assumption); (case h3 => assumption); (case h4 => assumption); (case k1 => k_asm); (case k2 => k_asm); (case k3 => k_asm); (case k4 => k_asm); (case k5 => k_asm); (case kK => first | exact rfl | assumption); (case kd => ktr_room); (case ku => ktr_units); (case h5 => assumption)); intro t9 h9 tk9 F9 N9; (try dsimp only); (try k_fold)))
set_option maxRecDepth 100000 in
set_option maxHeartbeats 8000000 in
theorem ct2_une {w : World} {mean : ExcName → Option Value} {mg mb : Str → Option Value} (news : List (Addr × Obj)) (d : Addr) (P : List Ent) (n : Nat) (x : Str) (t : Tok)
   (hm : (d, entObj w P n) ∈ news) (hs : (d == sysModules) = false) (hn : (P.map Ent.k).Nodup) (hP : ∀ p ∈ P, EntOk p) (hne : 0 < P.length) (hl : P.length ≤ 100) (h0 : x.length ≤ 65535) (h1 : (Txt.replace x (Str.ofString "&lt;") (Str.ofString "<")).length ≤ 65535)
   (hx : RepFits (une2 x) P) (h2 : (repAll (une2 x) P).length ≤ 65535) :
   Ct PySem.Challenge.rw_ik0016_02.row.prog w (hd2.heap_39 w.params) hd2.view_39 (looseW hd2.view_39 [Str.ofString "escape", Str.ofString "unescape"]) mean mg mb 2 39 news [.str x t, .ref d] (fun t => .str (Txt.replace (repAll (une2 x) P) (Str.ofString "&amp;") (Str.ofString "&")) t) := by
  w_top off
  k_fill
  intro dp un gd cn cs a ccd cl outer A₀ base h₀ L m s Q E B F X N T hk hd hu hret
  (try dsimp only [une2, esc3] at *)
  refine wpAny_call ?_
  k_dflt cell_enter
  k_steps
  all_goals exact cb_retS hret rfl (by assumption) (by assumption)
set_option maxRecDepth 100000 in
set_option maxHeartbeats 8000000 in
theorem ct2_esc0 {w : World} {mean : ExcName → Option Value} {mg mb : Str → Option Value} (news : List (Addr × Obj)) (x : Str) (t : Tok)
   (h0 : x.length ≤ 65535) (h1 : (Txt.replace x (Str.ofString "&") (Str.ofString "&amp;")).length ≤ 65535) (h2 : (Txt.replace (Txt.replace x (Str.ofString "&") (Str.ofString "&amp;")) (Str.ofString ">") (Str.ofString "&gt;")).length ≤ 65535) :
   Ct PySem.Challenge.rw_ik0016_02.row.prog w (hd2.heap_39 w.params) hd2.view_39 (looseW hd2.view_39 [Str.ofString "escape", Str.ofString "unescape"]) mean mg mb 2 30 news [.str x t] (fun t => .str (esc3 x) t) := by
  w_top off
  k_fill
  intro dp un gd cn cs a ccd cl outer A₀ base h₀ L m s Q E B F X N T hk hd hu hret
  (try dsimp only [une2, esc3] at *)
  refine wpAny_call ?_
  k_dflt cell_enter
  k_steps
  all_goals exact cb_retS hret rfl (by assumption) (by assumption)
end Mine
end
section
open PySem PySem.W PySem.Calls PyProof.Rows
namespace Mine
/-- a number's word, with As ahead -/
def wordS (n s : Int) : Str := Txt.mul (Str.ofString "A") (s - ((wordL (ap n.natAbs)).length : Int)) ++ wordL (ap n.natAbs)
theorem wl_len10 {n : Int} (h1 : -1099511627776 < n) (h2 : n < 1099511627776) : (wordL (ap n.natAbs)).length ≤ 10 := by
  rw [wordL_len]; exact ap_len10 h1 h2
theorem mulA_ok {k : Int} (h : k ≤ 100) (h2 : -100 ≤ k) : MulOk (Str.ofString "A") k := mulOk_of 1 4096 (by decide +kernel) (by omega) (by omega) (by decide) (by decide)
theorem mulA_len {k : Int} (h : k ≤ 100) : (Txt.mul (Str.ofString "A") k).length ≤ 100 := by
  have e1 : (Str.ofString "A").length = 1 := by decide +kernel
  unfold Txt.mul
  split
  · exact Nat.zero_le _
  · split
    · rw [e1]; decide
    · have e : ∀ (n : Nat) (acc : Array Nat), ((List.replicate n (Str.ofString "A").cps).foldl (· ++ ·) acc).size = acc.size + n := by
        intro n
        induction n with
        | zero => intro acc; rfl
        | succ n ih =>
          intro acc
          rw [List.replicate_succ, List.foldl_cons, ih]
          have e1 : (Str.ofString "A").cps.size = 1 := by decide +kernel
          rw [Array.size_append, e1]; omega
      show ((List.replicate k.toNat (Str.ofString "A").cps).foldl (· ++ ·) #[]).size ≤ 100
      rw [e]
      simp only [List.size_toArray, List.length_nil]
      omega
theorem word_sz {n s : Int} (h1 : -1099511627776 < n) (h2 : n < 1099511627776) (hs : s ≤ 50) : (Txt.mul (Str.ofString "A") (s - ((wordL (ap n.natAbs)).length : Int))).length + (wordL (ap n.natAbs)).length ≤ sizeLine := by
  have e1 := mulA_len (k := s - ((wordL (ap n.natAbs)).length : Int)) (by omega)
  have e2 := wl_len10 h1 h2
  rw [sizeLine_eq]; omega
theorem word_lenOk {n : Int} (h1 : -1099511627776 < n) (h2 : n < 1099511627776) : ¬ ((wordL (ap n.natAbs)).length : Int) ≥ 2 ^ 63 := by
  have := wl_len10 h1 h2
  omega
theorem word_lo {n s : Int} (h1 : -1099511627776 < n) (h2 : n < 1099511627776) (hs : 0 ≤ s) : -100 ≤ s - ((wordL (ap n.natAbs)).length : Int) := by
  have := wl_len10 h1 h2
  omega
local macro_rules | `(tactic| walk_at "call ref") => `(tactic| (k_here; k_dflt (refine' ct_use2 (ct2_ap _ _ _ ?h1 ?h2) ?k1 ?k2 ?k3 ?k4 ?k5 ?kK ?kd ?ku ?_; (case h1 => assumption); (case h2 => assumption); (case k1 => k_asm); (case k2 => k_asm); (case k3 => k_asm); (case k4 => k_asm); (case k5 => k_asm); (case kK => first | exact rfl | assumption); (case kd => ktr_room); (case ku => ktr_units)); intro t9 h9 tk9 hle9 F9 N9; (try dsimp only at hle9); (try dsimp only); (try k_fold)))
local macro_rules | `(tactic| walk_at "eval ListComp") => `(tactic| (k_here; (with_reducible show wpAny _ _ (eval (PySem.Expr.ListComp _ [⟨PySem.Expr.Name (PySem.Str.ofString "c") _, _, _, _⟩] _ _) _) _ _ _); k_dflt (refine ListComp_B (F₀ := by k_asm) (by with_unfolding_all rfl) (by decide) (by rfl) (by decide) (by rfl) ?_)))
local macro_rules | `(tactic| walk_at "BSrc") => `(tactic| (k_here; k_dflt (refine BSrc.intro (by rfl) (by k_asm) (by k_asm) (by first | exact ap_sz (by assumption) (by assumption)) ?_; intro g'; (refine' kct_bytes chrS (fun k' t' I' oI' C' oC' D' m' ys' h' tk' E' hlo' hhi' hC' hx' F' N' off' ne' hM' => ?_) ?_); kcf_last)))
local macro_rules | `(tactic| walk_at "CompEnd") => `(tactic| (refine LCg.CompEnd.intro (by assumption) (by assumption) _ (fun p hp => hp) (by assumption) True.intro ?_))
local macro_rules | `(tactic| walk_at "KCtEl") => `(tactic| exact kct_el (by rfl) (by rfl) (by rfl))
local macro_rules | `(tactic| walk_at "call builtin:len") => `(tactic| (k_here; (with_reducible show wpAny _ _ (call (Value.builtin "len") [Value.str _ _]) _ _ _); k_dflt (refine P.len_str (word_lenOk (by assumption) (by assumption)) ?_)))
local macro_rules | `(tactic| walk_at "call builtin:str.join") => `(tactic| ((with_reducible rename CarriedAll _ (List.map _ _) => ktC); (with_unfolding_all refine' join_bytes (by first | assumption | is_list | exact News.isList (by k_asm) (by k_mem)) ktC ?k1 ?_); (case k1 => exact Nat.le_trans (ap_len10 (by assumption) (by assumption)) (by decide)); intro _ _))
local macro_rules | `(tactic| walk_at "binaryOp Mult str int") => `(tactic| (k_here; k_dflt (refine mulT (mulA_ok (by omega) (word_lo (by assumption) (by assumption) (by assumption))) ?_; intro t9 k9 ht9; clear ht9)))
local macro_rules | `(tactic| walk_at "binaryOp Add str str") => `(tactic| (k_here; k_dflt ((with_unfolding_all refine' SB.add ?_ ?kz); (case kz => exact word_sz (by assumption) (by assumption) (by omega)); intro _ _)))
set_option maxRecDepth 100000 in
set_option maxHeartbeats 8000000 in
theorem ct2_word {w : World} {mean : ExcName → Option Value} {mg mb : Str → Option Value} (news : List (Addr × Obj)) (n s : Int) (t u : Tok) (hlo : -1099511627776 < n) (hhi : n < 1099511627776) (hs0 : 0 ≤ s) (hs : s ≤ 50) :
   Ct PySem.Challenge.rw_ik0016_02.row.prog w (hd2.heap_39 w.params) hd2.view_39 (looseW hd2.view_39 [Str.ofString "escape", Str.ofString "unescape"]) mean mg mb 2 51 news [.int n t, .int s u] (fun t => .str (wordS n s) t) := by
  w_top off
  k_fill
  intro dp un gd cn cs a ccd cl outer A₀ base h₀ L m s' Q E B F X N T hk hd hu hret
  k_with_none
  refine wpAny_call ?_
  k_dflt cell_enter
  k_steps
  all_goals (first | exact cb_retS hret rfl (by assumption) (by assumption) | exact cb_retS hret rfl (by assumption) (cb_drop (by assumption) (by intro p hp; repeat (first | exact hp | refine List.mem_cons_of_mem _ ?_))))
end Mine
end
section
open PySem PySem.W PySem.Calls PyProof.Rows
namespace Mine
/-- what the columns below ask for -/
def mnI (c r : Int) : Int := if r < c then r else c
def brw (o t c r : Int) : Int := if (o.fdiv (16 ^ (c - mnI c r).toNat)).fmod (16 ^ (mnI c r).toNat) < (t.fdiv (16 ^ (c - mnI c r).toNat)).fmod (16 ^ (mnI c r).toNat) then 1 else 0
theorem brw_1 {o t c r : Int} (h : (o.fdiv (16 ^ (c - if r < c then r else c).toNat)).fmod (16 ^ (if r < c then r else c).toNat) < (t.fdiv (16 ^ (c - if r < c then r else c).toNat)).fmod (16 ^ (if r < c then r else c).toNat)) : brw o t c r = 1 := if_pos h
theorem brw_0 {o t c r : Int} (h : ¬ (o.fdiv (16 ^ (c - if r < c then r else c).toNat)).fmod (16 ^ (if r < c then r else c).toNat) < (t.fdiv (16 ^ (c - if r < c then r else c).toNat)).fmod (16 ^ (if r < c then r else c).toNat)) : brw o t c r = 0 := if_neg h
theorem pow16_ne (k : Nat) : (16 : Int) ^ k ≠ 0 := by
  have : (0 : Int) < 16 ^ k := Int.pow_pos (by decide)
  omega
theorem pow16_lt {k : Nat} (h : k ≤ 7) : ((16 : Int) ^ k).natAbs < 1073741824 := by
  have : k = 0 ∨ k = 1 ∨ k = 2 ∨ k = 3 ∨ k = 4 ∨ k = 5 ∨ k = 6 ∨ k = 7 := by omega
  rcases this with h | h | h | h | h | h | h | h <;> subst h <;> decide
theorem brw_room {c r : Int} (h0 : 0 ≤ c) (h : c ≤ 7) (hr : 0 ≤ r) : ((16 : Int) ^ (c - if r < c then r else c).toNat).natAbs < 1073741824 := pow16_lt (by split <;> omega)
local macro_rules | `(tactic| walk_at "binaryOp FloorDiv int int") => `(tactic| (k_here; (with_reducible refine floordiv_int (pow16_ne _) ?_ (Or.inl (PyProof.noPylong_small ?kp))); (case kp => exact brw_room (by assumption) (by assumption) (by assumption))))
local macro_rules | `(tactic| walk_at "binaryOp Mod int int") => `(tactic| (k_here; (with_reducible refine mod_int' (pow16_ne _) ?_)))
set_option maxRecDepth 100000 in
set_option maxHeartbeats 8000000 in
theorem ct2_brw {w : World} {mean : ExcName → Option Value} {mg mb : Str → Option Value} (news : List (Addr × Obj)) (o t c r : Int) (t1 t2 t3 t4 : Tok) (ho0 : 0 ≤ o) (ho : o < 1099511627776) (ht0 : 0 ≤ t) (ht : t < 1099511627776) (hc0 : 0 ≤ c) (hc : c ≤ 7) (hr0 : 0 ≤ r) (hr : r ≤ 20) :
   Ct PySem.Challenge.rw_ik0016_02.row.prog w (hd2.heap_39 w.params) hd2.view_39 (looseW hd2.view_39 [Str.ofString "escape", Str.ofString "unescape"]) mean mg mb 1 58 news [.int o t1, .int t t2, .int c t3, .int r t4] (fun u => .int (brw o t c r) u) := by
  w_top off
  k_fill
  intro dp un gd cn cs a ccd cl outer A₀ base h₀ L m s' Q E B F X N T hk hd hu hret
  k_with_none
  refine wpAny_call ?_
  k_dflt cell_enter
  k_steps
  all_goals (first | exact cb_retI hret (brw_1 (by assumption)).symm (by assumption) (by assumption) | exact cb_retI hret (brw_0 (by assumption)).symm (by assumption) (by assumption))
end Mine
end
section
open PySem PySem.W PySem.Calls PyProof.Rows
namespace Mine
def ltS (n : Int) : Str := Txt.mul (Str.ofString "<") n
def overI (o t c : Int) : Int := (o.fdiv (16 ^ c.toNat)).fmod 16 - (t.fdiv (16 ^ c.toNat)).fmod 16
def colS (o t call c : Int) : Str := if call = 1 ∧ overI o t c < 0 then Str.ofString "P" ++ ltS (brw o t c call - brw o t c (call - 1) - overI o t c - 1) else kfL ((overI o t c - brw o t c (call - 1)).fmod 16) ++ ltS (brw o t c call - brw o t c (call - 1))
def dueR (o t size call : Int) : Nat → Str
  | 0 => Str.ofString "." ++ ltS (brw o t size call)
  | k + 1 => dueR o t size call k ++ colS o t call (size - 1 - (k : Int))
theorem brw_bd (o t c r : Int) : 0 ≤ brw o t c r ∧ brw o t c r ≤ 1 := by unfold brw; split <;> omega
theorem fm16 (x : Int) : 0 ≤ x.fmod 16 ∧ x.fmod 16 < 16 := fmod16 x
theorem over_bd (o t c : Int) : -15 ≤ overI o t c ∧ overI o t c ≤ 15 := by
  unfold overI
  have h1 := fm16 (o.fdiv (16 ^ c.toNat))
  have h2 := fm16 (t.fdiv (16 ^ c.toNat))
  omega
theorem mul1_len {x : Str} {k : Int} {B : Nat} (hx : x.length = 1) (h : k ≤ (B : Int)) : (Txt.mul x k).length ≤ B := by
  unfold Txt.mul
  split
  · exact Nat.zero_le _
  · split
    · rename_i h1 h2
      simp only [Bool.or_eq_true, beq_iff_eq] at h2
      rw [hx] at h2 ⊢
      omega
    · have e : ∀ (n : Nat) (acc : Array Nat), ((List.replicate n x.cps).foldl (· ++ ·) acc).size = acc.size + n := by
        intro n
        induction n with
        | zero => intro acc; rfl
        | succ n ih =>
          intro acc
          rw [List.replicate_succ, List.foldl_cons, ih]
          have e1 : x.cps.size = 1 := hx
          rw [Array.size_append, e1]; omega
      show ((List.replicate k.toNat x.cps).foldl (· ++ ·) #[]).size ≤ B
      rw [e]
      simp only [List.size_toArray, List.length_nil]
      omega
theorem lt_len {k : Int} {B : Nat} (h : k ≤ (B : Int)) : (ltS k).length ≤ B := mul1_len (by decide +kernel) h
theorem lt_ok {k : Int} (h : k ≤ 4000) (h2 : -4000 ≤ k) : MulOk (Str.ofString "<") k := mulOk_of 1 4096 (by decide +kernel) (by omega) (by omega) (by decide) (by decide)
theorem kfL_len {j : Int} (h : 0 ≤ j ∧ j < 16) : (kfL j).length = 1 := by rw [kfL_eq h.1 h.2]; rfl
theorem colS_len (o t call c : Int) : (colS o t call c).length ≤ 20 := by
  have b1 := brw_bd o t c call
  have b2 := brw_bd o t c (call - 1)
  have b3 := over_bd o t c
  unfold colS
  split
  · rw [Str.length_append]
    have h1 : (Str.ofString "P").length = 1 := by decide +kernel
    have h2 := lt_len (k := brw o t c call - brw o t c (call - 1) - overI o t c - 1) (B := 16) (by omega)
    omega
  · rw [Str.length_append]
    have h1 := kfL_len (fm16 (overI o t c - brw o t c (call - 1)))
    have h2 := lt_len (k := brw o t c call - brw o t c (call - 1)) (B := 16) (by omega)
    omega
theorem dueR_len (o t size call : Int) : ∀ k, (dueR o t size call k).length ≤ 20 + 20 * k
  | 0 => by
    show (Str.ofString "." ++ ltS (brw o t size call)).length ≤ 20
    rw [Str.length_append]
    have h1 : (Str.ofString ".").length = 1 := by decide +kernel
    have b1 := brw_bd o t size call
    have h2 := lt_len (k := brw o t size call) (B := 16) (by omega)
    omega
  | k + 1 => by
    show (dueR o t size call k ++ colS o t call (size - 1 - (k : Int))).length ≤ _
    rw [Str.length_append]
    have h1 := dueR_len o t size call k
    have h2 := colS_len o t call (size - 1 - (k : Int))
    omega
local macro_rules | `(tactic| walk_at "call ref") => `(tactic| (k_here; k_dflt (refine' ct_use2 (ct2_brw _ _ _ _ _ _ _ _ _ ?h1 ?h2 ?h3 ?h4 ?h5 ?h6 ?h7 ?h8) ?k1 ?k2 ?k3 ?k4 ?k5 ?kK ?kd ?ku ?_; (case h1 => assumption); (case h2 => assumption); (case h3 => assumption); (case h4 => assumption); (case h5 => omega); (case h6 => omega); (case h7 => omega); (case h8 => omega); (case k1 => k_asm); (case k2 => k_asm); (case k3 => k_asm); (case k4 => k_asm); (case k5 => k_asm); (case kK => first | exact rfl | assumption); (case kd => ktr_room); (case ku => ktr_units)); intro t9 h9 tk9 hle9 F9 N9; (try dsimp only at hle9); (try dsimp only); (try k_fold)))
theorem lt_ok1 (o t c r : Int) : MulOk (Str.ofString "<") (brw o t c r) := by
  have b1 := brw_bd o t c r
  exact lt_ok (by omega) (by omega)
theorem lt_ok2 (o t c r q : Int) : MulOk (Str.ofString "<") (brw o t c r - brw o t c q) := by
  have b1 := brw_bd o t c r
  have b2 := brw_bd o t c q
  exact lt_ok (by omega) (by omega)
theorem lt_ok3 (o t c r q : Int) : MulOk (Str.ofString "<") (brw o t c r - brw o t c q - ((o.fdiv (16 ^ c.toNat)).fmod 16 - (t.fdiv (16 ^ c.toNat)).fmod 16) - 1) := by
  have b1 := brw_bd o t c r
  have b2 := brw_bd o t c q
  have b3 := over_bd o t c
  unfold overI at b3
  exact lt_ok (by omega) (by omega)
theorem it_len (j : Int) : (Txt.item (Str.ofString "ABCDEFGHIJKLMNOP") (j.fmod 16)).length ≤ 4000 := by
  have h1 : (Txt.item (Str.ofString "ABCDEFGHIJKLMNOP") (j.fmod 16)).length = 1 := kfL_len (fm16 j)
  omega
theorem sz_mul {x : Str} {k : Int} (h : MulOk (Str.ofString "<") k) (hk : k ≤ 4000) (hx : x.length ≤ 4000) : x.length + (Txt.mul (Str.ofString "<") k).length ≤ sizeLine := by
  have := mul1_len (x := Str.ofString "<") (k := k) (B := 4000) (by decide +kernel) hk
  rw [sizeLine_eq]; omega
theorem lt_le1 (o t c r : Int) : brw o t c r ≤ 4000 := by have b1 := brw_bd o t c r; omega
theorem lt_le2 (o t c r q : Int) : brw o t c r - brw o t c q ≤ 4000 := by
  have b1 := brw_bd o t c r
  have b2 := brw_bd o t c q
  omega
theorem lt_le3 (o t c r q : Int) : brw o t c r - brw o t c q - ((o.fdiv (16 ^ c.toNat)).fmod 16 - (t.fdiv (16 ^ c.toNat)).fmod 16) - 1 ≤ 4000 := by
  have b1 := brw_bd o t c r
  have b2 := brw_bd o t c q
  have b3 := over_bd o t c
  unfold overI at b3
  omega
theorem y_le1 (o t c r q : Int) : (Str.ofString "P" ++ Txt.mul (Str.ofString "<") (brw o t c r - brw o t c q - ((o.fdiv (16 ^ c.toNat)).fmod 16 - (t.fdiv (16 ^ c.toNat)).fmod 16) - 1)).length ≤ 9000 := by
  rw [Str.length_append]
  have h1 : (Str.ofString "P").length = 1 := by decide +kernel
  have := mul1_len (x := Str.ofString "<") (B := 4000) (by decide +kernel) (lt_le3 o t c r q)
  omega
theorem y_le2 (o t c r q j : Int) : (Txt.item (Str.ofString "ABCDEFGHIJKLMNOP") (j.fmod 16) ++ Txt.mul (Str.ofString "<") (brw o t c r - brw o t c q)).length ≤ 9000 := by
  rw [Str.length_append]
  have h1 : (Txt.item (Str.ofString "ABCDEFGHIJKLMNOP") (j.fmod 16)).length = 1 := kfL_len (fm16 j)
  have := mul1_len (x := Str.ofString "<") (B := 4000) (by decide +kernel) (lt_le2 o t c r q)
  omega
theorem row_sz {row y : Str} {o t z call : Int} {p : List Int} (h : row = dueR o t z call p.length) (hp : p.length < (z - 1 - -1).toNat) (hz : z ≤ 7) (hy : y.length ≤ 9000) : row.length + y.length ≤ sizeLine := by
  have := dueR_len o t z call p.length
  rw [h, sizeLine_eq]
  omega
theorem due_t0 (o t z call : Int) : Str.ofString "." ++ Txt.mul (Str.ofString "<") (brw o t z call) = dueR o t z call ([] : List Int).length := rfl
theorem due_end {row : Str} {o t z call : Int} (h : row = dueR o t z call (downKs (z - 1) (z - 1 - -1).toNat).length) : row = dueR o t z call z.toNat := by
  have e : (downKs (z - 1) (z - 1 - -1).toNat).length = z.toNat := by
    simp only [downKs, List.length_map, List.length_range]
    omega
  rw [h, e]
theorem due_t1 {row : Str} {o t z call c : Int} {p : List Int} (h : row = dueR o t z call p.length) (hk : c = z - 1 - (p.length : Int)) (h1 : call = 1 ∧ (o.fdiv (16 ^ c.toNat)).fmod 16 - (t.fdiv (16 ^ c.toNat)).fmod 16 < 0) :
    row ++ (Str.ofString "P" ++ Txt.mul (Str.ofString "<") (brw o t c call - brw o t c (call - 1) - ((o.fdiv (16 ^ c.toNat)).fmod 16 - (t.fdiv (16 ^ c.toNat)).fmod 16) - 1)) = dueR o t z call (p ++ [c]).length := by
  rw [List.length_append, List.length_singleton]
  show _ = dueR o t z call p.length ++ colS o t call (z - 1 - (p.length : Int))
  rw [← h, ← hk]
  unfold colS
  rw [if_pos (show call = 1 ∧ overI o t c < 0 from h1)]
  rfl
theorem due_t2 {row : Str} {o t z call c : Int} {p : List Int} (h : row = dueR o t z call p.length) (hk : c = z - 1 - (p.length : Int)) (h1 : ¬ (call = 1 ∧ (o.fdiv (16 ^ c.toNat)).fmod 16 - (t.fdiv (16 ^ c.toNat)).fmod 16 < 0)) :
    row ++ (Txt.item (Str.ofString "ABCDEFGHIJKLMNOP") (((o.fdiv (16 ^ c.toNat)).fmod 16 - (t.fdiv (16 ^ c.toNat)).fmod 16 - brw o t c (call - 1)).fmod 16) ++ Txt.mul (Str.ofString "<") (brw o t c call - brw o t c (call - 1))) = dueR o t z call (p ++ [c]).length := by
  rw [List.length_append, List.length_singleton]
  show _ = dueR o t z call p.length ++ colS o t call (z - 1 - (p.length : Int))
  rw [← h, ← hk]
  unfold colS
  rw [if_neg (show ¬ (call = 1 ∧ overI o t c < 0) from h1)]
  rfl
local macro_rules | `(tactic| walk_at "InvEndN") => `(tactic| k_dflt kst_close)
local macro_rules | `(tactic| walk_at "pyIter ref") => `(tactic| k_dflt (k_extra "pyIter ref"))
local macro_rules | `(tactic| walk_at "inplaceOp Add str str") => `(tactic| (k_here; k_dflt ((with_unfolding_all refine' SB.iadd ?_ ?kz); (case kz => with_reducible first | exact row_sz (by assumption) (by assumption) (by assumption) (y_le1 _ _ _ _ _) | exact row_sz (by assumption) (by assumption) (by assumption) (y_le2 _ _ _ _ _ _)); intro _ _)))
local macro_rules | `(tactic| walk_at "binaryOp FloorDiv int int") => `(tactic| (k_here; (with_reducible refine floordiv_int (pow16_ne _) ?_ (Or.inl (PyProof.noPylong_small ?kp))); (case kp => exact pow16_lt (by omega))))
local macro_rules | `(tactic| walk_at "binaryOp Mult str int") => `(tactic| (k_here; k_dflt (refine mulT ?zok ?_; (case zok => with_reducible first | exact lt_ok1 _ _ _ _ | exact lt_ok2 _ _ _ _ _ | exact lt_ok3 _ _ _ _ _)); intro t9 k9 ht9; clear ht9))
local macro_rules | `(tactic| walk_at "binaryOp Add str str") => `(tactic| (k_here; k_dflt ((with_unfolding_all refine' SB.add ?_ ?kz); (case kz => with_reducible first | exact sz_mul (lt_ok1 _ _ _ _) (lt_le1 _ _ _ _) (by decide +kernel) | exact sz_mul (lt_ok3 _ _ _ _ _) (lt_le3 _ _ _ _ _) (by decide +kernel) | exact sz_mul (lt_ok2 _ _ _ _ _) (lt_le2 _ _ _ _ _) (it_len _)); intro _ _)))
set_option maxRecDepth 100000 in
set_option maxHeartbeats 1000000 in
theorem ct2_due {w : World} {mean : ExcName → Option Value} {mg mb : Str → Option Value} (news : List (Addr × Obj)) (oV tV zV cV : Int) (t1 t2 t3 t4 : Tok) (ho0 : 0 ≤ oV) (ho : oV < 1099511627776) (ht0 : 0 ≤ tV) (ht : tV < 1099511627776) (hz0 : 0 ≤ zV) (hz : zV ≤ 7) (hc0 : 1 ≤ cV) (hc : cV ≤ 20) :
   Ct PySem.Challenge.rw_ik0016_02.row.prog w (hd2.heap_39 w.params) hd2.view_39 (looseW hd2.view_39 [Str.ofString "escape", Str.ofString "unescape"]) mean mg mb 2 65 news [.int oV t1, .int tV t2, .int zV t3, .int cV t4] (fun u => .str (dueR oV tV zV cV zV.toNat) u) := by
  w_top off
  k_fill
  intro dp un gd cn cs a ccd cl outer A₀ base h₀ L m s' Q E B F X N T hk hd hu hret
  k_with_none
  k_with "state" => (with_reducible first | exact due_t0 _ _ _ _ | (refine due_t1 (by assumption) (by assumption) ?_; (first | exact ⟨by assumption, by assumption⟩ | omega)) | (refine due_t2 (by assumption) (by assumption) ?_; omega))
  k_with "pyIter ref" => k_state (fun pre row => row = dueR oV tV zV cV pre.length) "row"
  refine wpAny_call ?_
  k_dflt cell_enter
  k_steps
  all_goals (first | exact cb_retS hret (due_end (by assumption)) (by assumption) (by assumption))
end Mine
end
section
open PySem PySem.W PySem.Calls PyProof.Rows PyProof.V PySem.Spec
namespace Mine
open PySem.Builtin PySem.Builtin.Str PySem.StrLaws
/-- str.replace over code points: a scan from the left; the number is how many signs are still to be passed over -/
def repS (y z : List Nat) : Nat → List Nat → List Nat
  | _, [] => []
  | k + 1, _ :: l => repS y z k l
  | 0, a :: l => if y.isPrefixOf (a :: l) then z ++ repS y z (y.length - 1) l else a :: repS y z 0 l
def rep (y z l : List Nat) : List Nat := repS y z 0 l
theorem repS_drop (y z : List Nat) : ∀ (k : Nat) (l : List Nat), repS y z k l = repS y z 0 (l.drop k)
  | 0, l => by simp
  | k + 1, [] => by simp [repS]
  | k + 1, a :: l => by
    show repS y z k l = _
    rw [repS_drop y z k l]; rfl
theorem rep_nil (y z : List Nat) : rep y z [] = [] := rfl
theorem rep_hit {y z l : List Nat} (hy : y ≠ []) (h : y.isPrefixOf l = true) : rep y z l = z ++ rep y z (l.drop y.length) := by
  cases l with
  | nil => cases y with
    | nil => exact absurd rfl hy
    | cons => exact nomatch h
  | cons a l =>
    show repS y z 0 (a :: l) = _
    unfold repS
    rw [if_pos h, repS_drop]
    obtain ⟨b, y', rfl⟩ := List.exists_cons_of_ne_nil hy
    rfl
theorem rep_miss {y z l : List Nat} {a : Nat} (h : y.isPrefixOf (a :: l) = false) : rep y z (a :: l) = a :: rep y z l := by
  show repS y z 0 (a :: l) = _
  unfold repS
  rw [if_neg (by rw [h]; exact Bool.false_ne_true)]; rfl
theorem rep_app {y z l : List Nat} (hy : y ≠ []) : rep y z (y ++ l) = z ++ rep y z l := by
  rw [rep_hit hy (by rw [List.isPrefixOf_iff_prefix]; exact List.prefix_append _ _)]
  simp
theorem at_iff (x y : Str) (i : Nat) : At x y x.length i ↔ i + y.length ≤ x.length ∧ y.cps.toList.isPrefixOf (x.cps.toList.drop i) = true := by
  unfold At
  refine and_congr_right fun hb => ?_
  rw [subAt_eq]
  have hy : y.cps.toList.length = y.length := by simp [Str.length]
  constructor
  · intro h
    have e := eq_of_beq h
    rw [List.isPrefixOf_iff_prefix, List.prefix_iff_eq_take, hy]
    exact e.symm
  · intro h
    rw [List.isPrefixOf_iff_prefix, List.prefix_iff_eq_take, hy] at h
    exact beq_iff_eq.mpr h.symm
theorem rep_over (x y : Str) (z : List Nat) (hy : y.cps.toList ≠ []) : ∀ (n a : Nat), a + n ≤ x.length → (∀ k, a ≤ k → k < a + n → ¬ At x y x.length k) → rep y.cps.toList z (x.cps.toList.drop a) = (x.cps.toList.drop a).take n ++ rep y.cps.toList z (x.cps.toList.drop (a + n))
  | 0, a, _, _ => by simp
  | n + 1, a, hn, h => by
    have hx : x.cps.toList.length = x.length := by simp [Str.length]
    have hlt : a < x.cps.toList.length := by omega
    have h0 : y.cps.toList.isPrefixOf (x.cps.toList.drop a) = false := by
      cases hq : y.cps.toList.isPrefixOf (x.cps.toList.drop a) with
      | false => rfl
      | true =>
        exfalso
        refine h a (Nat.le_refl _) (by omega) ((at_iff x y a).mpr ⟨?_, hq⟩)
        have h1 := (List.isPrefixOf_iff_prefix.mp hq).length_le
        have h2 : y.cps.toList.length = y.length := by simp [Str.length]
        rw [List.length_drop] at h1
        omega
    have ih := rep_over x y z hy n (a + 1) (by omega) fun k h1 h2 => h k (by omega) (by omega)
    have e : x.cps.toList.drop a = x.cps.toList[a] :: x.cps.toList.drop (a + 1) := List.drop_eq_getElem_cons hlt
    have e2 : a + (n + 1) = a + 1 + n := by omega
    rw [e2]
    rw [e] at h0 ⊢
    rw [rep_miss h0, ih]
    rfl
theorem rep_free (x y : Str) (z : List Nat) (hy : y.cps.toList ≠ []) {a : Nat} (ha : a ≤ x.length) (h : ∀ k, a ≤ k → ¬ At x y x.length k) : rep y.cps.toList z (x.cps.toList.drop a) = x.cps.toList.drop a := by
  have hx : x.cps.toList.length = x.length := by simp [Str.length]
  rw [rep_over x y z hy (x.length - a) a (by omega) fun k h1 _ => h k h1]
  rw [List.drop_eq_nil_of_le (i := a + (x.length - a)) (by omega), rep_nil, List.append_nil]
  exact List.take_of_length_le (by rw [List.length_drop]; omega)
theorem rep_join (x y z : Str) (hy : y.cps.toList ≠ []) : ∀ (cuts : List Nat) (a f : Nat), a ≤ x.length → ChainG x y x.length a cuts f → (∀ k, f ≤ k → ¬ At x y x.length k) → (Str.join z (partsFrom x y.length a cuts)).cps.toList = rep y.cps.toList z.cps.toList (x.cps.toList.drop a)
  | [], a, f, ha, h, hn => by
    have e : f = a := h
    subst e
    have hx : x.cps.toList.length = x.length := by simp [Str.length]
    show (strSub x f x.length).cps.toList = _
    rw [rep_free x y _ hy ha hn, strSub_toList]
    exact List.take_of_length_le (by rw [List.length_drop]; omega)
  | c :: r, a, f, ha, h, hn => by
    obtain ⟨h1, h2, h3, h4⟩ := h
    obtain ⟨p, q, e⟩ := partsFrom_ne x y.length (c + y.length) r
    have hb := (at_iff x y c).mp h2
    have ih := rep_join x y z hy r (c + y.length) f hb.1 h4 hn
    have hyl : y.cps.toList.length = y.length := by simp [Str.length]
    show (Str.join z (strSub x a c :: partsFrom x y.length (c + y.length) r)).cps.toList = _
    rw [e] at ih ⊢
    show (strSub x a c ++ z ++ Str.join z (p :: q)).cps.toList = _
    rw [Str.cps_append, Array.toList_append, ih, Str.cps_append, Array.toList_append, strSub_toList]
    rw [rep_over x y z.cps.toList hy (c - a) a (by omega) fun k e1 e2 => h3 k e1 (by omega)]
    have e3 : a + (c - a) = c := by omega
    rw [e3, rep_hit hy hb.2, hyl, List.drop_drop, List.append_assoc]
theorem replace_rep (x y z : Str) (hy : y.cps.toList ≠ []) : (Txt.replace x y z).cps.toList = rep y.cps.toList z.cps.toList x.cps.toList := by
  have hyl : y.cps.toList.length = y.length := by simp [Str.length]
  have hw : 1 ≤ y.length := by
    rw [← hyl]
    exact List.length_pos_iff.mpr hy
  have h10 : (y.length == 0) = false := by
    rw [beq_eq_false_iff_ne]; omega
  obtain ⟨f, hG, hn⟩ := occ_tight x y hw
  unfold Txt.replace
  rw [h10, Bool.false_and, Bool.or_false]
  cases he : (occurrences x y 0 x.length (x.length + 1)).isEmpty
  · rw [if_neg Bool.false_ne_true, glued_eq_join, partsBetween_eq, rep_join x y z hy _ 0 f (Nat.zero_le _) hG hn, List.drop_zero]
  · rw [if_pos rfl]
    rw [List.isEmpty_iff.mp he] at hG
    have e : f = 0 := hG
    subst e
    have := rep_free x y z.cps.toList hy (Nat.zero_le _) hn
    rw [List.drop_zero] at this
    exact this.symm

/-- one sign replaced -/
def one (c : Nat) (z : List Nat) (a : Nat) : List Nat := if a = c then z else [a]
theorem rep_one (c : Nat) (z : List Nat) : ∀ l : List Nat, rep [c] z l = l.flatMap (one c z)
  | [] => rfl
  | a :: l => by
    rw [List.flatMap_cons]
    unfold one
    by_cases h : a = c
    · subst h
      rw [if_pos rfl]
      have := rep_app (y := [a]) (z := z) (l := l) (by simp)
      rw [List.singleton_append] at this
      rw [this, rep_one]
      rfl
    · rw [if_neg h, rep_miss, rep_one]
      · rfl
      · show (c == a && _) = false
        have : (c == a) = false := by rw [beq_eq_false_iff_ne]; exact fun e => h e.symm
        rw [this]; rfl
end Mine
end
section
open PySem PySem.W PySem.Calls PyProof.Rows PyProof.V PySem.Spec
set_option maxRecDepth 100000
set_option linter.unusedVariables false
namespace Mine
section
variable {prog : Program} {w : World} {A : Around} {E : Value → Shared → Prop} {s : Shared} {env : Env} {h₀ : Heap} {target : Expr} {body : List Stmt} {Q : Flow → Shared → Prop}
theorem For_listC2 {iter : Expr} {pos : Pos}
    (h : wpAny (model prog w) A (eval iter env) (fun xv s₁ => ListAtB prog w A h₀ env target body Q E xv s₁) E s)
    (hs : ∀ x, foldedSetIterable iter env x = pure x := by intro _; rfl)
    (hE : PassesOwn (model prog w) A env E := by passes_own) (m : Str → Option Value) (F : Fr h₀ env.locals s.heap m) :
    wpAny (model prog w) A (exec (.For target iter body [] pos) env) Q E s := For_listB F h hs hE
end
abbrev tup2 (a : Int) (t : Tok) (b : Int) (u : Tok) : Obj := { cls := .type "tuple", data := .seq #[.int a t, .int b u] }
/-- the list of pairs, by its figures -/
structure PairsOk (tups : List (Addr × Obj)) (vs : List Value) (as bs : List Int) : Prop where
  la : as.length = vs.length
  lb : bs.length = vs.length
  ba : ∀ a ∈ as, 0 ≤ a ∧ a < 16
  bb : ∀ a ∈ bs, 0 ≤ a ∧ a < 16
  at_ : ∀ i, i < vs.length → ∃ T t u, vs[i]? = some (.ref T) ∧ (T, tup2 (as.getD i 0) t (bs.getD i 0) u) ∈ tups
theorem PairsOk.snoc {tups : List (Addr × Obj)} {vs : List Value} {as bs : List Int} (h : PairsOk tups vs as bs) {T : Addr} {a b : Int} {t u : Tok} (ha : 0 ≤ a ∧ a < 16) (hb : 0 ≤ b ∧ b < 16) :
    PairsOk ((T, tup2 a t b u) :: tups) (vs ++ [Value.ref T] : List Value) (as ++ [a]) (bs ++ [b]) where
  la := by rw [List.length_append, List.length_append, h.la]; rfl
  lb := by rw [List.length_append, List.length_append, h.lb]; rfl
  ba := fun x hx => by
    rcases List.mem_append.mp hx with hx | hx
    · exact h.ba x hx
    · rw [List.mem_singleton.mp hx]; exact ha
  bb := fun x hx => by
    rcases List.mem_append.mp hx with hx | hx
    · exact h.bb x hx
    · rw [List.mem_singleton.mp hx]; exact hb
  at_ := fun i hi => by
    rw [List.length_append, List.length_singleton] at hi
    by_cases hlt : i < vs.length
    · obtain ⟨T', t', u', e, hm⟩ := h.at_ i hlt
      refine ⟨T', t', u', ?_, ?_⟩
      · rw [List.getElem?_append_left hlt]; exact e
      · have e1 : (as ++ [a]).getD i 0 = as.getD i 0 := by
          rw [List.getD_eq_getElem?_getD, List.getD_eq_getElem?_getD, List.getElem?_append_left (by rw [h.la]; exact hlt)]
        have e2 : (bs ++ [b]).getD i 0 = bs.getD i 0 := by
          rw [List.getD_eq_getElem?_getD, List.getD_eq_getElem?_getD, List.getElem?_append_left (by rw [h.lb]; exact hlt)]
        rw [e1, e2]
        exact List.mem_cons_of_mem _ hm
    · have hi' : i = vs.length := by omega
      subst hi'
      refine ⟨T, t, u, ?_, ?_⟩
      · rw [List.getElem?_append_right (Nat.le_refl _)]; simp
      · have e1 : (as ++ [a]).getD vs.length 0 = a := by
          rw [List.getD_eq_getElem?_getD, List.getElem?_append_right (by rw [h.la]; exact Nat.le_refl _), h.la]; simp
        have e2 : (bs ++ [b]).getD vs.length 0 = b := by
          rw [List.getD_eq_getElem?_getD, List.getElem?_append_right (by rw [h.lb]; exact Nat.le_refl _), h.lb]; simp
        rw [e1, e2]
        exact List.mem_cons_self
theorem PairsOk.one {T : Addr} {a b : Int} {t u : Tok} (ha : 0 ≤ a ∧ a < 16) (hb : 0 ≤ b ∧ b < 16) : PairsOk [(T, tup2 a t b u)] [.ref T] [a] [b] where
  la := rfl
  lb := rfl
  ba := fun x hx => by rw [List.mem_singleton.mp hx]; exact ha
  bb := fun x hx => by rw [List.mem_singleton.mp hx]; exact hb
  at_ := fun i hi => by
    have : i = 0 := by simpa using hi
    subst this
    exact ⟨T, t, u, rfl, List.mem_cons_self⟩

/-- the end of a turn that has added a pair -/
def EndQ (h₀ : Heap) (L : Addr) (s₁ : Shared) (I : Addr) (o : Obj) (l : Addr) (vs : List Value) (tl : List (Addr × Obj)) (s₂ : Shared) : Prop :=
  ∃ h' tk m' n T a t b u, s₂ = { s₁ with heap := h', toks := tk } ∧ Fr h₀ L h' m' ∧ News h₀ L h' ((T, tup2 a t b u) :: (I, o) :: (l, W.listOf (vs ++ [Value.ref T] : List Value).toArray n) :: tl) ∧ (0 ≤ a ∧ a < 16) ∧ (0 ≤ b ∧ b < 16) ∧ T ≠ l ∧ T ≠ I
def PostQ (h₀ : Heap) (L : Addr) (s₁ : Shared) (I : Addr) (o : Obj) (l : Addr) (vs : List Value) (tl : List (Addr × Obj)) (Q : Flow → Shared → Prop) (f : Flow) (s₂ : Shared) : Prop :=
  match f with
  | .ret v => Q (.ret v) s₂
  | .brk => Q .next s₂
  | _ => EndQ h₀ L s₁ I o l vs tl s₂
theorem EndQ.intro {h₀ : Heap} {L : Addr} {s₁ : Shared} {I : Addr} {o : Obj} {l : Addr} {vs : List Value} {tl : List (Addr × Obj)} {h' : Heap} {tk : Nat} {m' : Str → Option Value} {n : Nat} {T : Addr} {a : Int} {t : Tok} {b : Int} {u : Tok} {all : List (Addr × Obj)}
    (F : Fr h₀ L h' m') (N : News h₀ L h' all) (m1 : (T, tup2 a t b u) ∈ all) (m2 : (I, o) ∈ all) (m3 : (l, W.listOf (vs.toArray.push (Value.ref T)) n) ∈ all) (m4 : ∀ p ∈ tl, p ∈ all) (ha : 0 ≤ a ∧ a < 16) (hb : 0 ≤ b ∧ b < 16) (e1 : @Ne Nat T l) (e2 : @Ne Nat T I) :
    EndQ h₀ L s₁ I o l vs tl { s₁ with heap := h', toks := tk } :=
  ⟨h', tk, m', n, T, a, t, b, u, rfl, F, fun p hp => by
    rcases List.mem_cons.mp hp with rfl | hp
    · exact N _ m1
    · rcases List.mem_cons.mp hp with rfl | hp
      · exact N _ m2
      · rcases List.mem_cons.mp hp with rfl | hp
        · have e : (vs ++ [Value.ref T] : List Value).toArray = vs.toArray.push (Value.ref T) := by simp
          rw [e]
          exact N _ m3
        · exact N _ (m4 p hp), ha, hb, e1, e2⟩
section
variable {prog : Program} {w : World} {A : Around} {E : Value → Shared → Prop} {s : Shared} {env : Env} {h₀ : Heap} {target : Expr} {body : List Stmt} {Q : Flow → Shared → Prop}
/-- «for v in ints: ..; pairs.append((a, b))»: one turn for all; the pairs lie behind the ledger's written part -/
theorem RestB.pairs {I : Addr} {keep : Addr × Obj} {vs₀ ws : List Value} {m : Str → Option Value} {l : Addr} {n₀ : Nat} {led tups₀ : List (Addr × Obj)} {as₀ bs₀ : List Int} {news₀ : List (Addr × Obj)}
    (hnews : SubL ((l, W.listOf vs₀.toArray n₀) :: (led ++ tups₀)) news₀) (hI : ∀ p ∈ news₀, p.1 < I) (hk : SubL [keep] led) (P₀ : PairsOk tups₀ vs₀ as₀ bs₀) (hoff : ∀ p ∈ tups₀, @Ne Nat p.1 l) (hv : ∀ v ∈ ws, ∃ k t, v = .int k t) (hlen : vs₀.length + ws.length ≤ 100)
    (turn : ∀ (k : Int) (t : Tok) (u : Str → Option Value) (vs : List Value) (n : Nat) (tups : List (Addr × Obj)) (h : Heap) (tk : Nat) (o : Obj), (∀ p ∈ tups, @Ne Nat p.1 l) → vs.length ≤ 100 → 1 ≤ tk → o.cls = .type "list_iterator" → Fr h₀ env.locals h u → News h₀ env.locals h ((I, o) :: (l, W.listOf vs.toArray n) :: (led ++ tups)) →
        wpAny (model prog w) A (assign target env (.int k t)) (fun _ s₂ => wpAny (model prog w) A (execs body env) (PostQ h₀ env.locals { s with heap := h, toks := tk } I o l vs (led ++ tups) Q) E s₂) E { s with heap := h, toks := tk })
    (fin : ∀ (u : Str → Option Value) (vs : List Value) (n : Nat) (tups : List (Addr × Obj)) (as bs : List Int) (h : Heap) (tk : Nat), PairsOk tups vs as bs → vs.length = vs₀.length + ws.length → 1 ≤ tk → Fr h₀ env.locals h u → News h₀ env.locals h ((l, W.listOf vs.toArray n) :: (led ++ tups)) → Q .next { s with heap := h, toks := tk }) :
    RestB prog w A E h₀ env target body Q s I keep ws m news₀ := by
  have key : ∀ (ws : List Value), (∀ v ∈ ws, ∃ k t, v = .int k t) → ∀ (u : Str → Option Value) (vs : List Value) (n : Nat) (tups : List (Addr × Obj)) (as bs : List Int), PairsOk tups vs as bs → vs.length + ws.length ≤ 100 → (∀ p ∈ tups, @Ne Nat p.1 l) → (∀ p ∈ tups, p.1 ≠ I) →
      (∀ (u : Str → Option Value) (vs' : List Value) (n : Nat) (tups : List (Addr × Obj)) (as bs : List Int) (h : Heap) (tk : Nat), PairsOk tups vs' as bs → vs'.length = vs.length + ws.length → 1 ≤ tk → Fr h₀ env.locals h u → News h₀ env.locals h ((l, W.listOf vs'.toArray n) :: (led ++ tups)) → Q .next { s with heap := h, toks := tk }) →
      ∀ news, (∀ p ∈ ((l, W.listOf vs.toArray n) :: (led ++ tups)), p ∈ news) → RestB prog w A E h₀ env target body Q s I keep ws u news := by
    intro ws
    induction ws with
    | nil =>
      intro _ u vs n tups as bs P _ _ _ fin news hsub h tk htk F N
      exact fin u vs n tups as bs h tk P rfl htk F fun p hp => N p (hsub p hp)
    | cons v r ih =>
      intro hv u vs n tups as bs P hlen hoff hoffI fin news hsub h tk o htk ho F N
      obtain ⟨k, t, rfl⟩ := hv v (List.mem_cons_self ..)
      have N2 : News h₀ env.locals h ((I, o) :: (l, W.listOf vs.toArray n) :: (led ++ tups)) := fun p hp => by
        rcases List.mem_cons.mp hp with rfl | hp
        · exact N _ List.mem_cons_self
        · exact N _ (List.mem_cons_of_mem _ (hsub p hp))
      refine wpAny_mono (turn k t u vs n tups h tk o hoff (by omega) htk ho F N2) (fun _ s₂ h₂ => wpAny_mono h₂ (fun f s₃ h₃ => ?_) fun _ _ e => e) fun _ _ e => e
      have go : ∀ s₃, EndQ h₀ env.locals { s with heap := h, toks := tk } I o l vs (led ++ tups) s₃ →
          UnrEndW h₀ env.locals { s with heap := h, toks := tk } [(I, o)] (fun m' n' => SubL [keep] n' ∧ RestB prog w A E h₀ env target body Q s I keep r m' n') s₃ := by
        rintro s₃ ⟨h', tk', m', n', T, a, t', b, u', rfl, F', N', ha, hb, e1, e2⟩
        refine ⟨h', tk', m', (l, W.listOf (vs ++ [Value.ref T] : List Value).toArray n') :: (led ++ ((T, tup2 a t' b u') :: tups)), rfl, F', ?_, ?_, ?_, ?_⟩
        · intro p hp
          rcases List.mem_append.mp hp with hp | hp
          · rw [List.mem_singleton.mp hp]
            exact N' _ (List.mem_cons_of_mem _ List.mem_cons_self)
          · rcases List.mem_cons.mp hp with rfl | hp
            · exact N' _ (List.mem_cons_of_mem _ (List.mem_cons_of_mem _ List.mem_cons_self))
            · rcases List.mem_append.mp hp with hp | hp
              · exact N' _ (List.mem_cons_of_mem _ (List.mem_cons_of_mem _ (List.mem_cons_of_mem _ (List.mem_append.mpr (.inl hp)))))
              · rcases List.mem_cons.mp hp with rfl | hp
                · exact N' _ List.mem_cons_self
                · exact N' _ (List.mem_cons_of_mem _ (List.mem_cons_of_mem _ (List.mem_cons_of_mem _ (List.mem_append.mpr (.inr hp)))))
        · intro p hp q hq
          rw [List.mem_singleton.mp hq]
          have old : ∀ x : Addr × Obj, x ∈ news₀ → x.1 ≠ I := fun x hx => Nat.ne_of_lt (hI x hx)
          rcases List.mem_cons.mp hp with rfl | hp
          · exact old (l, W.listOf vs₀.toArray n₀) (hnews.mem _ List.mem_cons_self)
          · rcases List.mem_append.mp hp with hp | hp
            · exact old p (hnews.mem _ (List.mem_cons_of_mem _ (List.mem_append.mpr (.inl hp))))
            · rcases List.mem_cons.mp hp with rfl | hp
              · exact e2
              · exact hoffI p hp
        · exact ⟨List.mem_cons_of_mem _ (List.mem_append.mpr (.inl (hk.mem _ (List.mem_singleton_self _)))), trivial⟩
        · refine ih (fun v hv' => hv v (List.mem_cons_of_mem _ hv')) m' _ n' _ _ _ (P.snoc ha hb) ?_ ?_ ?_ ?_ _ fun p hp => hp
          · simp only [List.length_append, List.length_cons, List.length_nil] at hlen ⊢; omega
          · intro p hp
            rcases List.mem_cons.mp hp with rfl | hp
            · exact e1
            · exact hoff p hp
          · intro p hp
            rcases List.mem_cons.mp hp with rfl | hp
            · exact e2
            · exact hoffI p hp
          · intro u vs' n tups as bs h tk P' hl
            refine fin u vs' n tups as bs h tk P' ?_
            rw [hl]; simp only [List.length_append, List.length_cons, List.length_nil]; omega
      cases f with
      | ret v => exact h₃
      | brk => exact h₃
      | cont => exact go _ h₃
      | next => exact go _ h₃
  refine key ws hv m vs₀ n₀ tups₀ as₀ bs₀ P₀ hlen hoff ?_ fin news₀ fun p hp => hnews.mem p hp
  intro p hp
  exact Nat.ne_of_lt (hI p (hnews.mem _ (List.mem_cons_of_mem _ (List.mem_append.mpr (.inr hp)))))
end
end Mine
end
section
open PySem PySem.W PySem.Calls PyProof.Rows PyProof.V PySem.Spec
set_option maxRecDepth 100000
set_option linter.unusedVariables false
namespace Mine
theorem ints_all {vs : List Value} {ns : List Int} (h : IntsAre vs ns) : ∀ v ∈ vs, ∃ k t, v = .int k t := by
  intro v hv
  obtain ⟨i, hi⟩ := List.getElem?_of_mem hv
  obtain ⟨n, t, e, _⟩ := h.at i v hi
  exact ⟨n, t, e⟩
section
variable {prog : Program} {w : World} {A : Around} {E : Value → Shared → Prop} {s : Shared} {env : Env} {h₀ : Heap} {target : Expr} {body : List Stmt} {Q : Flow → Shared → Prop}
theorem RestB.pairs7 {I : Addr} {e c4 c3 c2 c1 : Addr × Obj} {ws : List Value} {ns : List Int} {m : Str → Option Value} {l T : Addr} {n₀ : Nat} {a b : Int} {t u : Tok}
    (hi : IntsAre ws ns) (hlen : ns.length ≤ 50) (hI : ∀ p ∈ [e, (l, W.listOf #[.ref T] n₀), (T, tup2 a t b u), c4, c3, c2, c1], p.1 < I) (hT : @Ne Nat T l) (ha : 0 ≤ a ∧ a < 16) (hb : 0 ≤ b ∧ b < 16)
    (turn : ∀ (k : Int) (t : Tok) (u : Str → Option Value) (vs : List Value) (n : Nat) (tups : List (Addr × Obj)) (h : Heap) (tk : Nat) (o : Obj), (∀ p ∈ tups, @Ne Nat p.1 l) → vs.length ≤ 100 → 1 ≤ tk → o.cls = .type "list_iterator" → Fr h₀ env.locals h u → News h₀ env.locals h ((I, o) :: (l, W.listOf vs.toArray n) :: e :: c4 :: c3 :: c2 :: c1 :: tups) →
        wpAny (model prog w) A (assign target env (.int k t)) (fun _ s₂ => wpAny (model prog w) A (execs body env) (PostQ h₀ env.locals { s with heap := h, toks := tk } I o l vs (e :: c4 :: c3 :: c2 :: c1 :: tups) Q) E s₂) E { s with heap := h, toks := tk })
    (fin : ∀ (u : Str → Option Value) (vs : List Value) (n : Nat) (tups : List (Addr × Obj)) (as bs : List Int) (h : Heap) (tk : Nat), PairsOk tups vs as bs → vs.length = 1 + ns.length → 1 ≤ tk → Fr h₀ env.locals h u → News h₀ env.locals h ((l, W.listOf vs.toArray n) :: e :: c4 :: c3 :: c2 :: c1 :: tups) → Q .next { s with heap := h, toks := tk }) :
    RestB prog w A E h₀ env target body Q s I e ws m [e, (l, W.listOf #[.ref T] n₀), (T, tup2 a t b u), c4, c3, c2, c1] :=
  RestB.pairs (led := [e, c4, c3, c2, c1]) (tups₀ := [(T, tup2 a t b u)]) (vs₀ := [.ref T]) (n₀ := n₀) ⟨by simp, by simp, by simp, by simp, by simp, by simp, by simp, trivial⟩ hI ⟨by simp, trivial⟩ (PairsOk.one ha hb) (fun p hp => by rw [List.mem_singleton.mp hp]; exact hT) (ints_all hi) (by rw [hi.length]; simp only [List.length_cons, List.length_nil]; omega) turn
    (fun u vs n tups as bs h tk P hl htk F N => fin u vs n tups as bs h tk P (by rw [hl, hi.length]; rfl) htk F N)
end
theorem f16 (x : Int) : 0 ≤ x.fmod 16 ∧ x.fmod 16 < 16 := fmod16 x
end Mine
end
section
open PySem PySem.W PySem.Calls PyProof.Rows PyProof.V PySem.Spec
set_option maxRecDepth 100000
set_option linter.unusedVariables false
namespace Mine
section
variable {prog : Program} {w : World} {A : Around} {E : Value → Shared → Prop} {s : Shared} {value slice : PySem.Expr} {h₀ : Heap} {L : Addr} {news : List (Addr × Obj)} {Q : Value → Shared → Prop}
theorem pair_item {l : Addr} {vs : List Value} {n : Nat} {tups : List (Addr × Obj)} {as bs : List Int} {k : Int} {u : Tok} (P : PairsOk tups vs as bs) (N : News h₀ L s.heap news) (hm : (l, W.listOf vs.toArray n) ∈ news) (h0 : 0 ≤ k) (h1 : k < (vs.length : Int)) (h2 : vs.length ≤ 100)
    (h : ∀ T t u, (T, tup2 (as.getD k.toNat 0) t (bs.getD k.toNat 0) u) ∈ tups → Q (.ref T) s)
    (hs : subscripted slice false (.ref l) (.int k u) = operate [.ref l, .int k u] (getItem (.ref l) (.int k u)) := by with_unfolding_all rfl) :
    wpAny (model prog w) A (subscriptTail value slice (.ref l) (.int k u)) Q E s := by
  have hl : s.heap.IsList l vs.toArray := News.isList N hm
  obtain ⟨T, t, u', e, hT⟩ := P.at_ k.toNat (by omega)
  exact tail_any hl.typeIs slot_list_getitem.lookup (wpAny_getItem_list hl h0 (by omega) (by simpa using e) (h T t u' hT)) hs
theorem tup_item0 {tups : List (Addr × Obj)} {T : Addr} {a b : Int} {t u v : Tok} (hm : (T, tup2 a t b u) ∈ tups) (N : News h₀ L s.heap news) (hsub : ∀ p ∈ tups, p ∈ news) (h : Q (.int a t) s)
    (hs : subscripted slice false (.ref T) (.int 0 v) = operate [.ref T, .int 0 v] (getItem (.ref T) (.int 0 v)) := by with_unfolding_all rfl) :
    wpAny (model prog w) A (subscriptTail value slice (.ref T) (.int 0 v)) Q E s := by
  have ht : IsTup s.heap T #[.int a t, .int b u] := News.isTup N (hsub _ hm)
  exact tail_any ht.typeIs slot_tuple_getitem.lookup (getItem_tuple ht (by decide) (by decide) (j := 0) (by rfl) (by rfl) h) hs
theorem tup_item1 {tups : List (Addr × Obj)} {T : Addr} {a b : Int} {t u v : Tok} (hm : (T, tup2 a t b u) ∈ tups) (N : News h₀ L s.heap news) (hsub : ∀ p ∈ tups, p ∈ news) (h : Q (.int b u) s)
    (hs : subscripted slice false (.ref T) (.int 1 v) = operate [.ref T, .int 1 v] (getItem (.ref T) (.int 1 v)) := by with_unfolding_all rfl) :
    wpAny (model prog w) A (subscriptTail value slice (.ref T) (.int 1 v)) Q E s := by
  have ht : IsTup s.heap T #[.int a t, .int b u] := News.isTup N (hsub _ hm)
  exact tail_any ht.typeIs slot_tuple_getitem.lookup (getItem_tuple ht (by decide) (by decide) (j := 1) (by rfl) (by rfl) h) hs
theorem len_pairs {l : Addr} {vs : List Value} {n : Nat} (N : News h₀ L s.heap news) (hm : (l, W.listOf vs.toArray n) ∈ news) (h2 : vs.length ≤ 100)
    (h : ∀ t k, Q (.int (vs.length : Int) t) { s with toks := k }) : wpAny (model prog w) A (call (.builtin "len") [.ref l]) Q E s := by
  have hl : s.heap.IsList l vs.toArray := News.isList N hm
  refine len_list hl (by rw [List.size_toArray]; omega) ?_
  rw [List.size_toArray]
  exact h _ _
end
theorem mul16_ok {a b : Int} (h : 0 ≤ a ∧ a < 16) : IntMulOk a b := by
  refine IntMulOk.of_left ?_
  have : a = 0 ∨ a = 1 ∨ a = 2 ∨ a = 3 ∨ a = 4 ∨ a = 5 ∨ a = 6 ∨ a = 7 ∨ a = 8 ∨ a = 9 ∨ a = 10 ∨ a = 11 ∨ a = 12 ∨ a = 13 ∨ a = 14 ∨ a = 15 := by omega
  rcases this with h | h | h | h | h | h | h | h | h | h | h | h | h | h | h | h <;> subst h <;> decide +kernel
theorem PairsOk.a16 {tups : List (Addr × Obj)} {vs : List Value} {as bs : List Int} (P : PairsOk tups vs as bs) (i : Nat) : 0 ≤ as.getD i 0 ∧ as.getD i 0 < 16 := by
  rw [List.getD_eq_getElem?_getD]
  cases h : as[i]? with
  | none => simp
  | some c => exact P.ba c (List.mem_of_getElem? h)
theorem PairsOk.b16 {tups : List (Addr × Obj)} {vs : List Value} {as bs : List Int} (P : PairsOk tups vs as bs) (i : Nat) : 0 ≤ bs.getD i 0 ∧ bs.getD i 0 < 16 := by
  rw [List.getD_eq_getElem?_getD]
  cases h : bs[i]? with
  | none => simp
  | some c => exact P.bb c (List.mem_of_getElem? h)
/-- a number by its figures -/
theorem figs_bd {f : Int → Int} (hf : ∀ k, 0 ≤ f k ∧ f k < 16) : ∀ n : Nat, 0 ≤ ((rangeKs 0 n).map fun (k : Int) => f k * 16 ^ k.toNat).sum ∧ ((rangeKs 0 n).map fun (k : Int) => f k * 16 ^ k.toNat).sum < 16 ^ n
  | 0 => by simp [rangeKs]
  | n + 1 => by
    have ih := figs_bd hf n
    unfold rangeKs at ih ⊢
    rw [List.range_succ, List.map_append, List.map_append, List.sum_append]
    have e : ((0 : Int) + (n : Int)).toNat = n := by omega
    simp only [List.map_cons, List.map_nil, List.sum_cons, List.sum_nil, e]
    have hp : (0 : Int) < 16 ^ n := Int.pow_pos (by decide)
    have h1 := hf (0 + (n : Int))
    have h2 : f (0 + (n : Int)) * 16 ^ n ≤ 15 * 16 ^ n := Int.mul_le_mul_of_nonneg_right (by omega) (Int.le_of_lt hp)
    have h3 : 0 ≤ f (0 + (n : Int)) * 16 ^ n := Int.mul_nonneg h1.1 (Int.le_of_lt hp)
    rw [Int.pow_succ]
    omega
end Mine
end
section
open PySem PySem.W PySem.Calls PyProof.Rows PyProof.V PySem.Spec
set_option maxRecDepth 100000
set_option linter.unusedVariables false
namespace Mine
section
variable {prog : Program} {w : World} {A : Around} {E : Value → Shared → Prop} {s : Shared} {x y : Str} {t u : Tok} {Q : Value → Shared → Prop}
/-- two texts, neither empty, glued: the token is new -/
theorem addT (hx : 1 ≤ x.length) (hy : 1 ≤ y.length) (hsz : x.length + y.length ≤ 1000) (h : Q (.str (x ++ y) s.toks) { s with toks := s.toks + 1 }) : wpAny (model prog w) A (binaryOp .Add (.str x t) (.str y u)) Q E s := by
  refine P.add_str ?_
  have e1 : ¬ ((x.length == 0) = true) := by simp; omega
  have e2 : ¬ ((y.length == 0) = true) := by simp; omega
  rw [if_neg e1, if_neg e2]
  refine ⟨?_, h⟩
  have : (x ++ y).length = x.length + y.length := Str.length_append x y
  show (x ++ y).length ≤ sizeLine
  rw [this, sizeLine_eq]; omega
theorem lenB {l : List UInt8} (hl : l.length ≤ 1000) (h : ∀ t' k, Q (.int (l.length : Int) t') { s with toks := k }) : wpAny (model prog w) A (call (.builtin "len") [.bytes l.toArray t]) Q E s := by
  have e : (KBw.bInts l.toArray).length = l.length := by rw [KBw.ints_length]; simp
  refine KBw.len_K rfl (by rw [e]; omega) ?_
  rw [e]
  exact h _ _
def ordI (x : Str) : Int := ((x.cps.getD 0 0 : Nat) : Int)
theorem ordT (h1 : x.length = 1) (h : ∀ t' k, Q (.int (ordI x) t') { s with toks := k }) : wpAny (model prog w) A (call (.builtin "ord") [.str x t]) Q E s := ord_of_one h1 (h _ _)
end
theorem drop8 {h₀ h : Heap} {L : Addr} {a b c d c4 c3 c2 c1 : Addr × Obj} {tups : List (Addr × Obj)} {vs : List Value} {as bs : List Int} (P : PairsOk tups vs as bs) (N : News h₀ L h (a :: b :: c :: d :: c4 :: c3 :: c2 :: c1 :: tups)) : News h₀ L h [c4, c3, c2, c1] := fun p hp => N p (by
  simp only [List.mem_cons, List.not_mem_nil, or_false] at hp
  rcases hp with rfl | rfl | rfl | rfl <;> simp)
theorem news_swap {h₀ h : Heap} {L : Addr} {p q : Addr × Obj} {r : List (Addr × Obj)} (N : News h₀ L h (p :: q :: r)) : News h₀ L h (q :: p :: r) := fun x hx => N x (by
  rcases List.mem_cons.mp hx with rfl | hx
  · exact List.mem_cons_of_mem _ List.mem_cons_self
  · rcases List.mem_cons.mp hx with rfl | hx
    · exact List.mem_cons_self
    · exact List.mem_cons_of_mem _ (List.mem_cons_of_mem _ hx))
def kf2 (j : Int) : Str := kfL j ++ Str.ofString "<"
def vf2 (j : Int) : Str := kfL (j - 1)
theorem two_cls {j : Int} (h0 : 1 ≤ j) (h1 : j ≤ 15) : (kf2 j).cps.toList = [65 + j.toNat, 60] ∧ (vf2 j).cps.toList = [64 + j.toNat] := by
  have : j = 1 ∨ j = 2 ∨ j = 3 ∨ j = 4 ∨ j = 5 ∨ j = 6 ∨ j = 7 ∨ j = 8 ∨ j = 9 ∨ j = 10 ∨ j = 11 ∨ j = 12 ∨ j = 13 ∨ j = 14 ∨ j = 15 := by omega
  rcases this with h | h | h | h | h | h | h | h | h | h | h | h | h | h | h <;> subst h <;> decide +kernel
theorem str_ne' {x y : Str} (h : x.cps.toList ≠ y.cps.toList) : (x == y) = false := by
  rw [beq_eq_false_iff_ne]
  intro e; rw [e] at h; exact h rfl
theorem entok3 {j : Int} {t u : Tok} (h0 : 1 ≤ j) (h1 : j ≤ 15) (ht : @LE.le Nat _ 1 t) (hu : @LT.lt Nat _ t u) : EntOk ⟨kf2 j, t, vf2 j, u⟩ := by
  have e := two_cls h0 h1
  refine ⟨by show @Ne Nat t 0; omega, by show @Ne Nat u 0; omega, by show @Ne Nat t u; omega, ?_, ?_⟩
  · refine str_ne' ?_
    show (kf2 j).cps.toList ≠ (vf2 j).cps.toList
    rw [e.1, e.2]; simp
  · show (vf2 j).length ≤ 255
    have : (vf2 j).length = (vf2 j).cps.toList.length := by simp [Str.length]
    rw [this, e.2]; simp
theorem keys_nodup2 : ((specD kf2 vf2 15 (-1) 15).map (·.1)).Nodup := by decide +kernel
theorem lastkey_new {P : List Ent} (hP : P.map Ent.two = specD kf2 vf2 15 (-1) 15) : Str.ofString "A<" ∉ P.map Ent.k := by
  rw [two_keys, hP]
  decide +kernel
theorem entok4 {t u : Tok} (ht : @LE.le Nat _ 1 t) (hu : @LT.lt Nat _ t u) : EntOk ⟨Str.ofString "A<", t, Str.ofString "<P", u⟩ := by
  refine ⟨by show @Ne Nat t 0; omega, by show @Ne Nat u 0; omega, by show @Ne Nat t u; omega, ?_, ?_⟩
  · show (Str.ofString "A<" == Str.ofString "<P") = false
    decide +kernel
  · show (Str.ofString "<P").length ≤ 255
    decide +kernel
theorem tab_nd {P : List Ent} (hP : P.map Ent.two = specD kf2 vf2 15 (-1) 15) : (P.map Ent.k).Nodup := by
  rw [two_keys, hP]; exact keys_nodup2
theorem tab_ln {P : List Ent} (hP : P.map Ent.two = specD kf2 vf2 15 (-1) 15) : P.length = 15 := by
  have := congrArg List.length hP
  simpa [specD] using this
/-- the whole table -/
def TabIs (P : List Ent) : Prop := P.map Ent.two = specD kf2 vf2 15 (-1) 15 ++ [(Str.ofString "A<", Str.ofString "<P")]
theorem tab_whole {P : List Ent} {t u : Tok} (hP : P.map Ent.two = specD kf2 vf2 15 (-1) 15) : TabIs (P ++ [⟨Str.ofString "A<", t, Str.ofString "<P", u⟩]) := by
  unfold TabIs
  rw [List.map_append, hP]; rfl
theorem TabIs.nd {P : List Ent} (hP : TabIs P) : (P.map Ent.k).Nodup := by
  rw [two_keys, hP]; decide +kernel
theorem TabIs.ln {P : List Ent} (hP : TabIs P) : P.length = 16 := by
  have := congrArg List.length hP
  simpa [specD] using this
theorem StarEnd.last {w : World} {h₀ : Heap} {L : Addr} {m : Str → Option Value} {Q : Value → Shared → Prop} {D D2 : Addr} {P : List Ent} {news₁ : List (Addr × Obj)} {s₁ : Shared} {t u : Tok} {h₄ : Heap} {tk : Nat}
    (hP : P.map Ent.two = specD kf2 vf2 15 (-1) 15) (hE : ∀ p ∈ P, EntOk p) (ht : @LE.le Nat _ 1 t) (hu : @LT.lt Nat _ t u) (F : Fr h₀ L h₄ m) (N : News h₀ L h₄ ((D2, entObj w [] 0) :: (D, entObj w P P.length) :: news₁))
    (fin : ∀ h₆ tk' P', TabIs P' → (∀ p ∈ P', EntOk p) → Fr h₀ L h₆ m → News h₀ L h₆ ((D, entObj w P' P'.length) :: news₁) → Q (.ref D) { s₁ with heap := h₆, toks := tk' }) :
    StarEnd w h₀ L m Q D D2 P news₁ s₁ (.str (Str.ofString "A<") t) (.str (Str.ofString "<P") u) { s₁ with heap := h₄, toks := tk } :=
  ⟨_, _, _, _, _, _, rfl, rfl, lastkey_new hP, rfl, F, N, fun h₆ tk' F₆ N₆ => fin h₆ tk' _ (tab_whole hP) (by
    intro p hp
    rcases List.mem_append.mp hp with hp | hp
    · exact hE p hp
    · rw [List.mem_singleton.mp hp]; exact entok4 ht hu) F₆ N₆⟩
def InB (z x : Int) : Prop := 0 ≤ x ∧ x < 16 ^ z.toNat
/-- the two numbers and their columns -/
structure BZ (z o t : Int) : Prop where
  lo : 0 ≤ z
  hi : z ≤ 6
  o : InB z o
  t : InB z t

def StarSrc2 (prog : Program) (w : World) (A : Around) (E : Value → Shared → Prop) (h₀ : Heap) (L : Addr) (m : Str → Option Value) (env : Env) (kx vx : Expr) (Q : Value → Shared → Prop) (D : Addr) (mv : Value) (s₁ : Shared) : Prop :=
  1 ≤ s₁.toks → StarSrc prog w A E h₀ L m env kx vx Q D mv s₁
theorem Dict_star2 {prog : Program} {w : World} {A : Around} {E : Value → Shared → Prop} {s : Shared} {h₀ : Heap} {L : Addr} {m : Str → Option Value} {news : List (Addr × Obj)} {env : Env} {mx kx vx : Expr} {pos : Pos} {Q : Value → Shared → Prop} (htk : 1 ≤ s.toks) (F : Fr h₀ L s.heap m) (N : News h₀ L s.heap news) (hlim : h₀.NoLimit)
    (h : ∀ D h', Fr h₀ L h' m → News h₀ L h' ((D, entObj w [] 0) :: news) → (∀ p ∈ news, p.1 < D) → (D == sysModules) = false →
      wpAny (model prog w) A (eval mx env) (StarSrc2 prog w A E h₀ L m env kx vx Q D) E { s with heap := h' }) :
    wpAny (model prog w) A (eval (.Dict [none, some kx] [mx, vx] pos) env) Q E s :=
  Dict_star F N hlim fun D h' F' N' l lo => wpAny_mono (wpAny_toks_of (n := 1) htk (h D h' F' N' l lo)) (fun _ _ hv => hv.2 hv.1) fun _ _ he => he.2
/-- the end of a turn of the outer loop -/
def EndE (h₀ : Heap) (L : Addr) (s₁ : Shared) (I : Addr) (o : Obj) (zV dV : Value) (cl cu : Addr) (G : Obj → Obj → List (Addr × Obj)) (s₂ : Shared) : Prop :=
  ∃ h' tk m' a b xa xb, s₂ = { s₁ with heap := h', toks := tk } ∧ Fr h₀ L h' m' ∧ News h₀ L h' ((I, o) :: G a b) ∧ a.data = .cell xa ∧ b.data = .cell xb ∧ m' (Str.ofString "size") = some zV ∧ m' (Str.ofString "table") = some dV
def PostE (h₀ : Heap) (L : Addr) (s₁ : Shared) (I : Addr) (o : Obj) (zV dV : Value) (cl cu : Addr) (G : Obj → Obj → List (Addr × Obj)) (Q : Flow → Shared → Prop) (f : Flow) (s₂ : Shared) : Prop :=
  match f with
  | .ret v => Q (.ret v) s₂
  | .brk => Q .next s₂
  | _ => EndE h₀ L s₁ I o zV dV cl cu G s₂
theorem EndE.intro {h₀ : Heap} {L : Addr} {s₁ : Shared} {I : Addr} {o : Obj} {zV dV : Value} {cl cu : Addr} {G : Obj → Obj → List (Addr × Obj)} {h' : Heap} {tk : Nat} {m' : Str → Option Value} {all : List (Addr × Obj)} {a b : Obj} {xa xb : Option Value}
    (F : Fr h₀ L h' m') (N : News h₀ L h' all) (ha : (cl, a) ∈ all) (hb : (cu, b) ∈ all) (da : a.data = .cell xa) (db : b.data = .cell xb) (sub : SubL ((I, o) :: G a b) all)
    (h1 : m' (Str.ofString "size") = some zV) (h2 : m' (Str.ofString "table") = some dV) : EndE h₀ L s₁ I o zV dV cl cu G { s₁ with heap := h', toks := tk } :=
  ⟨h', tk, m', a, b, xa, xb, rfl, F, fun p hp => N p (sub.mem p hp), da, db, h1, h2⟩
theorem lookup2 {m : Str → Option Value} {n1 n2 : Str} {v1 v2 : Value} (h1 : m n1 = some v1) (h2 : m n2 = some v2) : m = fun y => if y = n1 then some v1 else if y = n2 then some v2 else m y := by
  funext y
  by_cases e1 : y = n1
  · rw [if_pos e1, e1, h1]
  · rw [if_neg e1]
    by_cases e2 : y = n2
    · rw [if_pos e2, e2, h2]
    · rw [if_neg e2]
section
variable {prog : Program} {w : World} {A : Around} {E : Value → Shared → Prop} {s : Shared} {env : Env} {h₀ : Heap} {target : Expr} {body : List Stmt} {Q : Flow → Shared → Prop}
abbrev endG (w : World) (T1 T2 D cl cu : Addr) (x1 x2 y1 y2 : Int) (t1 t2 u1 u2 : Tok) (P : List Ent) (n : Nat) (keep : Addr × Obj) (a b : Obj) : List (Addr × Obj) :=
  [(T1, tup2 x1 t1 y1 u1), (T2, tup2 x2 t2 y2 u2), (D, entObj w P n), (cl, a), (cu, b), keep]
theorem RestB.ends {I : Addr} {keep : Addr × Obj} {m : Str → Option Value} {news : List (Addr × Obj)} {T1 T2 D cl cu : Addr} {x1 x2 y1 y2 : Int} {t1 t2 u1 u2 : Tok} {P : List Ent} {n : Nat} {o1 o2 : Obj} {xa xb : Option Value} {z : Int} {tz : Tok}
    (hcl : env.cells.lookup (Str.ofString "lower") = some cl) (hcu : env.cells.lookup (Str.ofString "upper") = some cu) (hI : ∀ p ∈ news, p.1 < I) (mk : keep ∈ news) (m1 : (T1, tup2 x1 t1 y1 u1) ∈ news) (m2 : (T2, tup2 x2 t2 y2 u2) ∈ news) (mD : (D, entObj w P n) ∈ news) (ml : (cl, o1) ∈ news) (mu : (cu, o2) ∈ news) (d1 : o1.data = .cell xa) (d2 : o2.data = .cell xb)
    (hs : m (Str.ofString "size") = some (.int z tz)) (ht : m (Str.ofString "table") = some (.ref D)) (hz0 : 0 ≤ z) (hz : z ≤ 6) (b1 : InB z x1 ∧ InB z y1) (b2 : InB z x2 ∧ InB z y2)
    (l1 : (@LT.lt Nat _ cu T1 ∧ @LT.lt Nat _ cl T1)) (l2 : (@LT.lt Nat _ cu T2 ∧ @LT.lt Nat _ cl T2))
    (turn : ∀ (z : Int) (tz : Tok), 0 ≤ z → z ≤ 6 → ∀ (T : Addr) (x y : Int) (t u : Tok), (@LT.lt Nat _ cu T ∧ @LT.lt Nat _ cl T) → BZ z x y → ∀ (uM : Str → Option Value) (a b : Obj) (xa xb : Option Value) (h : Heap) (tk : Nat) (o : Obj), a.data = .cell xa → b.data = .cell xb → 1 ≤ tk → o.cls = .type "list_iterator" →
        Fr h₀ env.locals h (fun q => if q = Str.ofString "size" then some (.int z tz) else if q = Str.ofString "table" then some (.ref D) else uM q) → News h₀ env.locals h ((I, o) :: (T, tup2 x t y u) :: endG w T1 T2 D cl cu x1 x2 y1 y2 t1 t2 u1 u2 P n keep a b) →
        wpAny (model prog w) A (assign target env (.ref T)) (fun _ s₂ => wpAny (model prog w) A (execs body env) (PostE h₀ env.locals { s with heap := h, toks := tk } I o (.int z tz) (.ref D) cl cu (endG w T1 T2 D cl cu x1 x2 y1 y2 t1 t2 u1 u2 P n keep) Q) E s₂) E { s with heap := h, toks := tk })
    (fin : ∀ (u : Str → Option Value) (h : Heap) (tk : Nat) (a b : Obj), 1 ≤ tk → Fr h₀ env.locals h u → News h₀ env.locals h (endG w T1 T2 D cl cu x1 x2 y1 y2 t1 t2 u1 u2 P n keep a b) → Q .next { s with heap := h, toks := tk }) :
    RestB prog w A E h₀ env target body Q s I keep [.ref T1, .ref T2] m news := by
  have off : ∀ a b, ∀ p ∈ endG w T1 T2 D cl cu x1 x2 y1 y2 t1 t2 u1 u2 P n keep a b, p.1 ≠ I := by
    intro a b p hp
    have hlt : p.1 < I := by
      simp only [List.mem_cons, List.not_mem_nil, or_false] at hp
      rcases hp with rfl | rfl | rfl | rfl | rfl | rfl
      · exact hI _ m1
      · exact hI _ m2
      · exact hI _ mD
      · exact hI (cl, o1) ml
      · exact hI (cu, o2) mu
      · exact hI _ mk
    exact Nat.ne_of_lt hlt
  have hk : ∀ a b, SubL [keep] (endG w T1 T2 D cl cu x1 x2 y1 y2 t1 t2 u1 u2 P n keep a b) := fun a b => ⟨by simp, trivial⟩
  have one : ∀ (vs : List Value), (∀ v ∈ vs, ∃ T x y t u, v = .ref T ∧ (@LT.lt Nat _ cu T ∧ @LT.lt Nat _ cl T) ∧ InB z x ∧ InB z y ∧ ∀ a b, (T, tup2 x t y u) ∈ endG w T1 T2 D cl cu x1 x2 y1 y2 t1 t2 u1 u2 P n keep a b) →
      ∀ (m : Str → Option Value) (a b : Obj) (xa xb : Option Value), a.data = .cell xa → b.data = .cell xb → m (Str.ofString "size") = some (.int z tz) → m (Str.ofString "table") = some (.ref D) → ∀ news, (∀ p ∈ endG w T1 T2 D cl cu x1 x2 y1 y2 t1 t2 u1 u2 P n keep a b, p ∈ news) →
      RestB prog w A E h₀ env target body Q s I keep vs m news := by
    intro vs
    induction vs with
    | nil =>
      intro _ m a b xa xb da db e1 e2 news hsub h tk htk F N
      exact fin m h tk a b htk F fun p hp => N p (hsub p hp)
    | cons v r ih =>
      intro hv m a b xa xb da db e1 e2 news hsub h tk o htk ho F N
      obtain ⟨T, x, y, t, u, rfl, hl, hx, hy, hT⟩ := hv v (List.mem_cons_self ..)
      rw [lookup2 e1 e2] at F
      refine wpAny_mono (turn z tz hz0 hz T x y t u hl ⟨hz0, hz, hx, hy⟩ m a b xa xb h tk o da db htk ho F ?_) (fun _ s₂ h₂ => wpAny_mono h₂ (fun f s₃ h₃ => ?_) fun _ _ e => e) fun _ _ e => e
      · intro p hp
        rcases List.mem_cons.mp hp with rfl | hp
        · exact N _ List.mem_cons_self
        · rcases List.mem_cons.mp hp with rfl | hp
          · exact N _ (List.mem_cons_of_mem _ (hsub _ (hT a b)))
          · exact N _ (List.mem_cons_of_mem _ (hsub p hp))
      · have go : ∀ s₃, EndE h₀ env.locals { s with heap := h, toks := tk } I o (.int z tz) (.ref D) cl cu (endG w T1 T2 D cl cu x1 x2 y1 y2 t1 t2 u1 u2 P n keep) s₃ →
            UnrEndW h₀ env.locals { s with heap := h, toks := tk } [(I, o)] (fun m' n' => SubL [keep] n' ∧ RestB prog w A E h₀ env target body Q s I keep r m' n') s₃ := by
          rintro s₃ ⟨h', tk', m', a', b', ya, yb, rfl, F', N', da', db', q1, q2⟩
          refine ⟨h', tk', m', endG w T1 T2 D cl cu x1 x2 y1 y2 t1 t2 u1 u2 P n keep a' b', rfl, F', N', fun p hp q hq => ?_, hk _ _, ih (fun v hv' => hv v (List.mem_cons_of_mem _ hv')) m' a' b' ya yb da' db' q1 q2 _ fun p hp => hp⟩
          rw [List.mem_singleton.mp hq]
          exact off a' b' p hp
        cases f with
        | ret v => exact h₃
        | brk => exact h₃
        | cont => exact go _ h₃
        | next => exact go _ h₃
  refine one _ ?_ m o1 o2 xa xb d1 d2 hs ht news ?_
  · intro v hv
    simp only [List.mem_cons, List.not_mem_nil, or_false] at hv
    rcases hv with rfl | rfl
    · exact ⟨T1, x1, y1, t1, u1, rfl, l1, b1.1, b1.2, fun a b => by simp⟩
    · exact ⟨T2, x2, y2, t2, u2, rfl, l2, b2.1, b2.2, fun a b => by simp⟩
  · intro p hp
    simp only [List.mem_cons, List.not_mem_nil, or_false] at hp
    rcases hp with rfl | rfl | rfl | rfl | rfl | rfl
    · exact m1
    · exact m2
    · exact mD
    · exact ml
    · exact mu
    · exact mk
end
end Mine
end
section
open PySem PySem.W PySem.Calls PyProof.Rows PyProof.V PySem.Spec
set_option maxRecDepth 100000
set_option linter.unusedVariables false
namespace Mine
def elG (o t z : Int) (k : Int) : Str := Txt.item (wordS o z) k ++ Txt.mul (Str.ofString "<") (ordI (Txt.item (wordS (-t) z) k) - 65)
abbrev elOf {z o t : Int} (h : BZ z o t) : Int → Str := elG o t z
def initS (o t z : Int) : Str := Str.ofString "." ++ Txt.join (Str.ofString "") ((rangeKs 0 (z - 0).toNat).map (elG o t z))
def afterS (o t z : Int) : Nat → Str
  | 0 => initS o t z
  | k + 1 => dueR o t z ((k : Int) + 1) z.toNat
theorem pq_s0 (o t z : Int) : Str.ofString "." ++ Txt.join (Str.ofString "") ((rangeKs 0 (z - 0).toNat).map (elG o t z)) = afterS o t z ([] : List Int).length := rfl
theorem pw16 {z : Int} (h0 : 0 ≤ z) (h : z ≤ 6) : (1 : Int) ≤ 16 ^ z.toNat ∧ (16 : Int) ^ z.toNat ≤ 16777216 := by
  have : z = 0 ∨ z = 1 ∨ z = 2 ∨ z = 3 ∨ z = 4 ∨ z = 5 ∨ z = 6 := by omega
  rcases this with h | h | h | h | h | h | h <;> subst h <;> decide
theorem bz_o {z o t : Int} (h : BZ z o t) : 0 ≤ o ∧ o < 16777216 := by
  have h1 := h.o
  have h2 := pw16 h.lo h.hi
  unfold InB at h1; omega
theorem bz_t {z o t : Int} (h : BZ z o t) : 0 ≤ t ∧ t < 16777216 := by
  have h1 := h.t
  have h2 := pw16 h.lo h.hi
  unfold InB at h1; omega
theorem bz_o0 {z o t : Int} (h : BZ z o t) : 0 ≤ o := (bz_o h).1
theorem bz_o1 {z o t : Int} (h : BZ z o t) : -1099511627776 < o := by have := bz_o h; omega
theorem bz_o2 {z o t : Int} (h : BZ z o t) : o < 1099511627776 := by have := bz_o h; omega
theorem bz_t0 {z o t : Int} (h : BZ z o t) : 0 ≤ t := (bz_t h).1
theorem bz_t2 {z o t : Int} (h : BZ z o t) : t < 1099511627776 := by have := bz_t h; omega
theorem bz_n1 {z o t : Int} (h : BZ z o t) : -1099511627776 < -t := by have := bz_t h; omega
theorem bz_n2 {z o t : Int} (h : BZ z o t) : -t < 1099511627776 := by have := bz_t h; omega
theorem bz_a1 {z o t : Int} (h : BZ z o t) : -1099511627776 < o - t := by have := bz_t h; have := bz_o h; omega
theorem bz_a2 {z o t : Int} (h : BZ z o t) : o - t < 1099511627776 := by have := bz_t h; have := bz_o h; omega
theorem bz_b1 {z o t : Int} (h : BZ z o t) : -1099511627776 < t - o := by have := bz_t h; have := bz_o h; omega
theorem bz_b2 {z o t : Int} (h : BZ z o t) : t - o < 1099511627776 := by have := bz_t h; have := bz_o h; omega
theorem bz_c1 {z o t : Int} (h : BZ z o t) : -1099511627776 < 16 ^ z.toNat + o - t := by have := bz_t h; have := bz_o h; have := pw16 h.lo h.hi; omega
theorem bz_c2 {z o t : Int} (h : BZ z o t) : 16 ^ z.toNat + o - t < 1099511627776 := by have := bz_t h; have := bz_o h; have := pw16 h.lo h.hi; omega

theorem figA_bd {tups : List (Addr × Obj)} {vs : List Value} {as bs : List Int} (P : PairsOk tups vs as bs) (h : vs.length ≤ 6) : 0 ≤ ((rangeKs 0 ((vs.length : Int) - 0).toNat).map fun k' => as.getD k'.toNat 0 * 16 ^ k'.toNat).sum ∧ ((rangeKs 0 ((vs.length : Int) - 0).toNat).map fun k' => as.getD k'.toNat 0 * 16 ^ k'.toNat).sum < 16777216 := by
  have b := figs_bd (f := fun k => as.getD k.toNat 0) (fun k => P.a16 k.toNat) ((vs.length : Int) - 0).toNat
  refine ⟨b.1, Int.lt_of_lt_of_le b.2 ?_⟩
  have e : ((vs.length : Int) - 0).toNat = vs.length := by omega
  rw [e]
  have := (pw16 (z := (vs.length : Int)) (by omega) (by omega)).2
  simpa using this
theorem figB_bd {tups : List (Addr × Obj)} {vs : List Value} {as bs : List Int} (P : PairsOk tups vs as bs) (h : vs.length ≤ 6) : 0 ≤ ((rangeKs 0 ((vs.length : Int) - 0).toNat).map fun k' => bs.getD k'.toNat 0 * 16 ^ k'.toNat).sum ∧ ((rangeKs 0 ((vs.length : Int) - 0).toNat).map fun k' => bs.getD k'.toNat 0 * 16 ^ k'.toNat).sum < 16777216 := by
  have b := figs_bd (f := fun k => bs.getD k.toNat 0) (fun k => P.b16 k.toNat) ((vs.length : Int) - 0).toNat
  refine ⟨b.1, Int.lt_of_lt_of_le b.2 ?_⟩
  have e : ((vs.length : Int) - 0).toNat = vs.length := by omega
  rw [e]
  have := (pw16 (z := (vs.length : Int)) (by omega) (by omega)).2
  simpa using this
theorem figA_lo {tups : List (Addr × Obj)} {vs : List Value} {as bs : List Int} (P : PairsOk tups vs as bs) (h : vs.length ≤ 6) : -1099511627776 < ((rangeKs 0 ((vs.length : Int) - 0).toNat).map fun k' => as.getD k'.toNat 0 * 16 ^ k'.toNat).sum := by have := figA_bd P h; omega
theorem figA_hi {tups : List (Addr × Obj)} {vs : List Value} {as bs : List Int} (P : PairsOk tups vs as bs) (h : vs.length ≤ 6) : ((rangeKs 0 ((vs.length : Int) - 0).toNat).map fun k' => as.getD k'.toNat 0 * 16 ^ k'.toNat).sum < 1099511627776 := by have := figA_bd P h; omega
theorem figB_lo {tups : List (Addr × Obj)} {vs : List Value} {as bs : List Int} (P : PairsOk tups vs as bs) (h : vs.length ≤ 6) : -1099511627776 < ((rangeKs 0 ((vs.length : Int) - 0).toNat).map fun k' => bs.getD k'.toNat 0 * 16 ^ k'.toNat).sum := by have := figB_bd P h; omega
theorem figB_hi {tups : List (Addr × Obj)} {vs : List Value} {as bs : List Int} (P : PairsOk tups vs as bs) (h : vs.length ≤ 6) : ((rangeKs 0 ((vs.length : Int) - 0).toNat).map fun k' => bs.getD k'.toNat 0 * 16 ^ k'.toNat).sum < 1099511627776 := by have := figB_bd P h; omega
/-- the columns of two numbers -/
theorem ap_room (n : Nat) : n < 16 ^ (ap n).length := by
  induction n using Nat.strongRecOn with
  | _ n ih =>
    by_cases h : n = 0
    · subst h; exact Nat.pow_pos (by decide)
    · rw [ap_pos h, List.length_append, List.length_singleton, Nat.pow_succ]
      have := ih (n / 16) (by omega)
      omega
theorem sz_lo (n m : Int) : 0 ≤ (if ((ap m.natAbs).length : Int) > ((ap n.natAbs).length : Int) then ((ap m.natAbs).length : Int) else ((ap n.natAbs).length : Int)) := by split <;> omega
theorem sz_hi {n m : Int} (hn : 0 ≤ n ∧ n < 16777216) (hm : 0 ≤ m ∧ m < 16777216) : (if ((ap m.natAbs).length : Int) > ((ap n.natAbs).length : Int) then ((ap m.natAbs).length : Int) else ((ap n.natAbs).length : Int)) ≤ 6 := by
  have h1 := ap_len (n := n.natAbs) 6 (by omega)
  have h2 := ap_len (n := m.natAbs) 6 (by omega)
  split <;> omega
theorem room_of {n : Int} {k : Nat} (hn : 0 ≤ n) (h : (ap n.natAbs).length ≤ k) : InB (k : Int) n := by
  refine ⟨hn, ?_⟩
  have h1 := ap_room n.natAbs
  have h2 : 16 ^ (ap n.natAbs).length ≤ 16 ^ k := Nat.pow_le_pow_right (by decide) h
  have h3 : ((16 ^ k : Nat) : Int) = (16 : Int) ^ k := by simp
  rw [Int.toNat_natCast, ← h3]
  omega
theorem sz_n {n m : Int} (hn : 0 ≤ n ∧ n < 16777216) : InB (if ((ap m.natAbs).length : Int) > ((ap n.natAbs).length : Int) then ((ap m.natAbs).length : Int) else ((ap n.natAbs).length : Int)) n := by
  split
  · exact room_of hn.1 (by omega)
  · exact room_of hn.1 (Nat.le_refl _)
theorem sz_m {n m : Int} (hm : 0 ≤ m ∧ m < 16777216) : InB (if ((ap m.natAbs).length : Int) > ((ap n.natAbs).length : Int) then ((ap m.natAbs).length : Int) else ((ap n.natAbs).length : Int)) m := by
  split
  · exact room_of hm.1 (Nat.le_refl _)
  · exact room_of hm.1 (by omega)
end Mine
end
section
open PySem PySem.W PySem.Calls PyProof.Rows PyProof.V PySem.Spec
set_option linter.unusedVariables false
namespace Mine
theorem cl_app (x y : Str) : (x ++ y).cps.toList = x.cps.toList ++ y.cps.toList := by rw [Str.cps_append, Array.toList_append]
theorem cl_len (x : Str) : x.cps.toList.length = x.length := by simp [Str.length]
theorem cl_ext {x y : Str} (h : x.cps.toList = y.cps.toList) : x = y := Str.ext' (Array.toList_inj.mp h)
theorem cl_join : ∀ l : List Str, (PySem.Str.join ⟨#[]⟩ l).cps.toList = l.flatMap fun x => x.cps.toList
  | [] => rfl
  | [p] => by show p.cps.toList = _; simp
  | p :: q :: r => by
    have ih := cl_join (q :: r)
    show (p ++ ⟨#[]⟩ ++ PySem.Str.join ⟨#[]⟩ (q :: r)).cps.toList = _
    rw [cl_app, ih, cl_app, List.flatMap_cons]
    simp
theorem cl_txtjoin (l : List Str) : (Txt.join (Str.ofString "") l).cps.toList = l.flatMap fun x => x.cps.toList := by
  have e0 : Str.ofString "" = (⟨#[]⟩ : Str) := by decide
  have e : Txt.join (Str.ofString "") l = PySem.Str.join (Str.ofString "") l := by
    show Builtin.Str.glued (Str.ofString "") _ = _
    rw [StrLaws.glued_eq_join]
  rw [e, e0, cl_join]
theorem mul_cps {x : Str} {c : Nat} (hx : x.cps = #[c]) (n : Int) : (Txt.mul x n).cps.toList = List.replicate n.toNat c := by
  have e : ∀ (k : Nat) (acc : Array Nat), ((List.replicate k (#[c] : Array Nat)).foldl (· ++ ·) acc).toList = acc.toList ++ List.replicate k c := by
    intro k
    induction k with
    | zero => intro acc; simp
    | succ k ih =>
      intro acc
      rw [List.replicate_succ, List.foldl_cons, ih, List.replicate_succ]
      simp
  have hl : x.length = 1 := by unfold Str.length; rw [hx]; rfl
  unfold Txt.mul
  by_cases h1 : n < 1
  · rw [if_pos h1]
    have : n.toNat = 0 := by omega
    rw [this]; rfl
  · rw [if_neg h1]
    split
    · rename_i h2
      simp only [Bool.or_eq_true, beq_iff_eq] at h2
      rw [hl] at h2
      have : n = 1 := by omega
      subst this
      rw [hx]; rfl
    · rw [hx]
      simpa using e n.toNat #[]
/-- columns, the highest first -/
def cols (f : Nat → Nat) : Nat → List Nat
  | 0 => []
  | k + 1 => f k :: cols f k
theorem cols_len (f : Nat → Nat) : ∀ k, (cols f k).length = k
  | 0 => rfl
  | k + 1 => by show (cols f k).length + 1 = k + 1; rw [cols_len f k]
theorem cols_snoc (f : Nat → Nat) : ∀ k, cols f (k + 1) = cols (fun j => f (j + 1)) k ++ [f 0]
  | 0 => rfl
  | k + 1 => by
    show f (k + 1) :: cols f (k + 1) = _
    rw [cols_snoc f k]; rfl
theorem cols_get (f : Nat → Nat) : ∀ k i, i < k → (cols f k)[i]? = some (f (k - 1 - i))
  | k + 1, 0, _ => rfl
  | k + 1, i + 1, h => by
    show (cols f k)[i]? = _
    rw [cols_get f k i (by omega)]
    congr 2; omega
def dig (n j : Nat) : Nat := n / 16 ^ j % 16
theorem dig_lt (n j : Nat) : dig n j < 16 := Nat.mod_lt _ (by decide)
theorem dig_succ (n j : Nat) : dig (n / 16) j = dig n (j + 1) := by
  unfold dig
  rw [Nat.div_div_eq_div_mul, Nat.pow_succ, Nat.mul_comm (16 ^ j) 16]
def wl (n : Nat) : List Nat := (ap n).map fun c => c.toNat
theorem wl_zero : wl 0 = [] := by unfold wl; rw [ap_zero]; rfl
theorem wl_pos {n : Nat} (h : n ≠ 0) : wl n = wl (n / 16) ++ [65 + n % 16] := by
  unfold wl
  rw [ap_pos h, List.map_append]
  congr 1
  have : (UInt8.ofNat (65 + n % 16)).toNat = 65 + n % 16 := by
    rw [UInt8.toNat_ofNat']
    omega
  rw [List.map_cons, this]; rfl
theorem wl_cols : ∀ (k n : Nat), n < 16 ^ k → List.replicate (k - (wl n).length) 65 ++ wl n = cols (fun j => 65 + dig n j) k
  | 0, n, h => by
    have : n = 0 := by simpa using h
    subst this
    rw [wl_zero]; rfl
  | k + 1, n, h => by
    rw [cols_snoc]
    have e : (fun j => 65 + dig n (j + 1)) = fun j => 65 + dig (n / 16) j := by
      funext j; rw [dig_succ]
    rw [e, ← wl_cols k (n / 16) (by rw [Nat.pow_succ] at h; omega)]
    have e0 : 65 + dig n 0 = 65 + n % 16 := by unfold dig; simp
    rw [e0]
    by_cases h0 : n = 0
    · subst h0
      have : (0 : Nat) / 16 = 0 := by decide
      rw [this, wl_zero]
      simp only [List.length_nil, Nat.sub_zero, List.append_nil]
      rw [← List.replicate_succ']
    · rw [wl_pos h0, List.length_append, List.length_singleton, Nat.add_sub_add_right, List.append_assoc]
/-- a text of columns: a letter and its signs -/
def TT (f : Nat → Nat × Nat) : Nat → List Nat
  | 0 => []
  | k + 1 => (65 + (f k).1) :: (List.replicate (f k).2 60 ++ TT f k)
theorem TT_congr {f g : Nat → Nat × Nat} : ∀ k, (∀ j, j < k → f j = g j) → TT f k = TT g k
  | 0, _ => rfl
  | k + 1, h => by
    show (65 + (f k).1) :: (List.replicate (f k).2 60 ++ TT f k) = (65 + (g k).1) :: (List.replicate (g k).2 60 ++ TT g k)
    rw [h k (by omega), TT_congr k fun j hj => h j (by omega)]
theorem TT_head (f : Nat → Nat × Nat) (k : Nat) : (TT f k).head? ≠ some 60 := by
  cases k with
  | zero => exact fun e => nomatch e
  | succ k =>
    intro e
    have e' : some (65 + (f k).1) = some 60 := e
    simp only [Option.some.injEq] at e'
    omega
theorem TT_mem {f : Nat → Nat × Nat} (hf : ∀ j, (f j).1 < 16) : ∀ k c, c ∈ TT f k → c = 60 ∨ (65 ≤ c ∧ c < 81)
  | k + 1, c, h => by
    rcases List.mem_cons.mp h with rfl | h
    · have := hf k; omega
    · rcases List.mem_append.mp h with h | h
      · exact .inl (List.mem_replicate.mp h).2
      · exact TT_mem hf k c h
theorem TT_len {f : Nat → Nat × Nat} {B : Nat} : ∀ k, (∀ j, j < k → (f j).2 ≤ B) → (TT f k).length ≤ (B + 1) * k
  | 0, _ => by show 0 ≤ _; exact Nat.zero_le _
  | k + 1, h => by
    have h1 := TT_len k fun j hj => h j (by omega)
    have h2 := h k (by omega)
    show (List.replicate (f k).2 60 ++ TT f k).length + 1 ≤ _
    rw [List.length_append, List.length_replicate, Nat.mul_add]
    omega
theorem TT_plain {f : Nat → Nat × Nat} {g : Nat → Nat} : ∀ k, (∀ j, j < k → f j = (g j, 0)) → TT f k = cols (fun j => 65 + g j) k
  | 0, _ => rfl
  | k + 1, h => by
    show (65 + (f k).1) :: (List.replicate (f k).2 60 ++ TT f k) = (65 + g k) :: cols _ k
    rw [TT_plain k fun j hj => h j (by omega), h k (by omega)]; rfl
/-- from the index of a sign to its column -/
theorem TT_range {f : Nat → Nat × Nat} {e : Nat → List Nat} : ∀ k, (∀ i, i < k → e i = (65 + (f (k - 1 - i)).1) :: List.replicate (f (k - 1 - i)).2 60) → (List.range k).flatMap e = TT f k
  | 0, _ => rfl
  | k + 1, h => by
    rw [List.range_succ_eq_map, List.flatMap_cons, List.flatMap_map, TT_range (e := fun i => e (i + 1)) k fun i hi => ?_]
    · rw [h 0 (by omega)]
      rfl
    · rw [h (i + 1) (by omega)]
      have : k + 1 - 1 - (i + 1) = k - 1 - i := by omega
      rw [this]
/-- one pass of the table: the letter u with a sign -/
def passF (u : Nat) (p : Nat × Nat) : Nat × Nat := if p.1 = u ∧ 1 ≤ p.2 then (p.1 - 1, p.2 - 1) else p
theorem rep_signs {y z r : List Nat} {c : Nat} {y' : List Nat} (hy : y = c :: y') (hc : c ≠ 60) (n : Nat) : rep y z (List.replicate n 60 ++ r) = List.replicate n 60 ++ rep y z r := by
  induction n with
  | zero => rfl
  | succ n ih =>
    rw [List.replicate_succ, List.cons_append, rep_miss, ih]
    · rfl
    · subst hy
      show (c == 60 && _) = false
      have : (c == 60) = false := by rw [beq_eq_false_iff_ne]; exact hc
      rw [this]; rfl
theorem pre2_no {a c : Nat} {r : List Nat} (h : c ≠ a ∨ r.head? ≠ some 60) : ([c, 60] : List Nat).isPrefixOf (a :: r) = false := by
  rcases h with h | h
  · show (c == a && _) = false
    have : (c == a) = false := by rw [beq_eq_false_iff_ne]; exact h
    rw [this]; rfl
  · cases r with
    | nil => show (c == a && false) = false; rw [Bool.and_false]
    | cons b r =>
      have hb : (60 == b) = false := by
        rw [beq_eq_false_iff_ne]
        intro e; exact h (by rw [← e]; rfl)
      show (c == a && (60 == b && _)) = false
      rw [hb]; simp
theorem pass_TT {u : Nat} (hu : 1 ≤ u) (f : Nat → Nat × Nat) : ∀ k, rep [65 + u, 60] [64 + u] (TT f k) = TT (fun j => passF u (f j)) k
  | 0 => rfl
  | k + 1 => by
    have ih := pass_TT hu f k
    have hs : ∀ n, rep [65 + u, 60] [64 + u] (List.replicate n 60 ++ TT f k) = List.replicate n 60 ++ rep [65 + u, 60] [64 + u] (TT f k) := fun n => rep_signs rfl (by omega) n
    show rep _ _ ((65 + (f k).1) :: (List.replicate (f k).2 60 ++ TT f k)) = (65 + (passF u (f k)).1) :: (List.replicate (passF u (f k)).2 60 ++ TT (fun j => passF u (f j)) k)
    unfold passF
    by_cases h : (f k).1 = u ∧ 1 ≤ (f k).2
    · rw [if_pos h]
      obtain ⟨s, hs'⟩ : ∃ s, (f k).2 = s + 1 := ⟨(f k).2 - 1, by omega⟩
      rw [hs', h.1, List.replicate_succ, List.cons_append]
      have := rep_app (y := [65 + u, 60]) (z := [64 + u]) (l := List.replicate s 60 ++ TT f k) (by simp)
      rw [show (65 + u) :: 60 :: (List.replicate s 60 ++ TT f k) = [65 + u, 60] ++ (List.replicate s 60 ++ TT f k) from rfl, this, hs, ih]
      show (64 + u) :: _ = (65 + (u - 1)) :: _
      have e : 64 + u = 65 + (u - 1) := by omega
      rw [e]; rfl
    · rw [if_neg h, rep_miss, hs, ih]
      · rfl
      · refine pre2_no ?_
        by_cases h1 : (f k).1 = u
        · have h2 : (f k).2 = 0 := by omega
          rw [h2]
          exact .inr (TT_head f k)
        · exact .inl (by omega)
/-- the last pass: A with a sign -/
def TA (f : Nat → Nat × Nat) : Nat → List Nat
  | 0 => []
  | k + 1 => (if (f k).1 = 0 ∧ 1 ≤ (f k).2 then 60 :: 80 :: List.replicate ((f k).2 - 1) 60 else (65 + (f k).1) :: List.replicate (f k).2 60) ++ TA f k
theorem passA (f : Nat → Nat × Nat) : ∀ k, rep [65, 60] [60, 80] (TT f k) = TA f k
  | 0 => rfl
  | k + 1 => by
    have ih := passA f k
    have hs : ∀ n, rep [65, 60] [60, 80] (List.replicate n 60 ++ TT f k) = List.replicate n 60 ++ rep [65, 60] [60, 80] (TT f k) := fun n => rep_signs rfl (by decide) n
    show rep _ _ ((65 + (f k).1) :: (List.replicate (f k).2 60 ++ TT f k)) = (if _ then _ else _) ++ TA f k
    by_cases h : (f k).1 = 0 ∧ 1 ≤ (f k).2
    · rw [if_pos h]
      obtain ⟨s, hs'⟩ : ∃ s, (f k).2 = s + 1 := ⟨(f k).2 - 1, by omega⟩
      rw [hs', h.1, List.replicate_succ, List.cons_append]
      have := rep_app (y := [65, 60]) (z := [60, 80]) (l := List.replicate s 60 ++ TT f k) (by simp)
      rw [show (65 + 0) :: 60 :: (List.replicate s 60 ++ TT f k) = [65, 60] ++ (List.replicate s 60 ++ TT f k) from rfl, this, hs, ih]
      rfl
    · rw [if_neg h, rep_miss, hs, ih]
      · rfl
      · refine pre2_no ?_
        by_cases h1 : (f k).1 = 0
        · have h2 : (f k).2 = 0 := by omega
          rw [h2]
          exact .inr (TT_head f k)
        · exact .inl (by omega)
def eo (f : Nat → Nat × Nat) : Nat → Nat
  | 0 => 0
  | k + 1 => if (f k).1 = 0 ∧ 1 ≤ (f k).2 then 1 else 0
def afterA (f : Nat → Nat × Nat) (j : Nat) : Nat × Nat := if (f j).1 = 0 ∧ 1 ≤ (f j).2 then (15, (f j).2 - 1 + eo f j) else ((f j).1, (f j).2 + eo f j)
theorem TA_TT (f : Nat → Nat × Nat) : ∀ k, TA f k = List.replicate (eo f k) 60 ++ TT (afterA f) k
  | 0 => rfl
  | k + 1 => by
    have ih := TA_TT f k
    show (if _ then _ else _) ++ TA f k = List.replicate (if _ then _ else _) 60 ++ ((65 + (afterA f k).1) :: (List.replicate (afterA f k).2 60 ++ TT (afterA f) k))
    rw [ih]
    unfold afterA
    by_cases h : (f k).1 = 0 ∧ 1 ≤ (f k).2
    · rw [if_pos h, if_pos h, if_pos h]
      simp [← List.append_assoc, ← List.replicate_append_replicate]
    · rw [if_neg h, if_neg h, if_neg h]
      simp [← List.append_assoc, ← List.replicate_append_replicate]
/-- what the passes from P down to u + 1 make of a column -/
def low (u : Nat) (p : Nat × Nat) : Nat × Nat := if p.1 < u then p else (p.1 - min p.2 (p.1 - u + 1), p.2 - min p.2 (p.1 - u + 1))
theorem low_16 {p : Nat × Nat} (h : p.1 < 16) : low 16 p = p := by unfold low; rw [if_pos h]
theorem low_step {u : Nat} (hu : 1 ≤ u) (p : Nat × Nat) : passF u (low (u + 1) p) = low u p := by
  obtain ⟨d, s⟩ := p
  unfold passF low
  simp only
  by_cases h1 : d < u + 1
  · rw [if_pos h1]
    by_cases h2 : d < u
    · rw [if_pos h2, if_neg (by simp only; omega)]
    · rw [if_neg h2]
      have hd : d = u := by omega
      subst hd
      by_cases h3 : 1 ≤ s
      · rw [if_pos ⟨rfl, h3⟩]
        have : min s (d - d + 1) = 1 := by omega
        rw [this]
      · rw [if_neg (by simp only; omega)]
        have : min s (d - d + 1) = 0 := by omega
        rw [this]; rfl
  · rw [if_neg h1, if_neg (by omega : ¬ d < u)]
    by_cases h3 : d - (u + 1) + 1 < s
    · have e1 : min s (d - (u + 1) + 1) = d - (u + 1) + 1 := by omega
      have e2 : min s (d - u + 1) = d - u + 1 := by omega
      rw [e1, e2, if_pos (by simp only; omega)]
      simp only [Prod.mk.injEq]; omega
    · have e1 : min s (d - (u + 1) + 1) = s := by omega
      have e2 : min s (d - u + 1) = s := by omega
      rw [e1, e2, if_neg (by simp only; omega)]
theorem low_1 {p : Nat × Nat} : low 1 p = (p.1 - min p.1 p.2, p.2 - min p.1 p.2) := by
  obtain ⟨d, s⟩ := p
  unfold low
  simp only
  by_cases h : d < 1
  · rw [if_pos h]
    have : min d s = 0 := by omega
    rw [this]; rfl
  · rw [if_neg h]
    have : min s (d - 1 + 1) = min d s := by omega
    rw [this]
/-- the sign that a column hands up -/
def Eb (f : Nat → Nat × Nat) : Nat → Nat
  | 0 => 0
  | k + 1 => if (f k).1 < (f k).2 then 1 else 0
def nextF (f : Nat → Nat × Nat) (j : Nat) : Nat × Nat := if (f j).1 < (f j).2 then (15, (f j).2 - (f j).1 - 1 + Eb f j) else ((f j).1 - (f j).2, Eb f j)
theorem eo_low (f : Nat → Nat × Nat) (k : Nat) : eo (fun j => low 1 (f j)) k = Eb f k := by
  cases k with
  | zero => rfl
  | succ k =>
    show (if _ then 1 else 0) = if _ then 1 else 0
    simp only [low_1]
    by_cases h : (f k).1 < (f k).2
    · rw [if_pos h, if_pos (by omega)]
    · rw [if_neg h, if_neg (by omega)]
theorem afterA_low (f : Nat → Nat × Nat) (j : Nat) : afterA (fun j => low 1 (f j)) j = nextF f j := by
  unfold afterA nextF
  rw [eo_low]
  simp only [low_1]
  by_cases h : (f j).1 < (f j).2
  · rw [if_pos h, if_pos (by omega)]
    simp only [Prod.mk.injEq, true_and]; omega
  · rw [if_neg h, if_neg (by omega)]
    simp only [Prod.mk.injEq]; omega
/-- a whole text: a full stop, signs, columns -/
def XX (L : Nat) (f : Nat → Nat × Nat) (k : Nat) : List Nat := 46 :: (List.replicate L 60 ++ TT f k)
theorem rep_XX {y z : List Nat} {c : Nat} {y' : List Nat} (hy : y = c :: y') (hc : c ≠ 60) (hc2 : c ≠ 46) {L k : Nat} {f : Nat → Nat × Nat} {r : List Nat} (h : rep y z (TT f k) = r) : rep y z (XX L f k) = 46 :: (List.replicate L 60 ++ r) := by
  unfold XX
  rw [rep_miss, rep_signs hy hc, h]
  subst hy
  show (c == 46 && _) = false
  have : (c == 46) = false := by rw [beq_eq_false_iff_ne]; exact hc2
  rw [this]; rfl
/-- all the passes -/
def passes (l : List Nat) : Nat → List Nat
  | 0 => l
  | n + 1 => rep [65 + (15 - n), 60] [64 + (15 - n)] (passes l n)
theorem passes_XX {L k : Nat} {f : Nat → Nat × Nat} (hf : ∀ j, (f j).1 < 16) : ∀ n, n ≤ 15 → passes (XX L f k) n = XX L (fun j => low (16 - n) (f j)) k
  | 0, _ => by
    show XX L f k = _
    congr 1
    funext j
    exact (low_16 (hf j)).symm
  | n + 1, h => by
    show rep _ _ (passes (XX L f k) n) = _
    rw [passes_XX hf n (by omega)]
    rw [rep_XX rfl (by omega) (by omega) (pass_TT (by omega) _ k)]
    unfold XX
    congr 3
    funext j
    have e : 16 - n = (15 - n) + 1 := by omega
    have e2 : 16 - (n + 1) = 15 - n := by omega
    rw [e, e2]
    exact low_step (by omega) _
theorem call_XX {L k : Nat} {f : Nat → Nat × Nat} (hf : ∀ j, (f j).1 < 16) : rep [65, 60] [60, 80] (passes (XX L f k) 15) = XX (L + Eb f k) (nextF f) k := by
  rw [passes_XX hf 15 (Nat.le_refl _), rep_XX rfl (by decide) (by decide) (passA _ k), TA_TT, eo_low]
  unfold XX
  rw [← List.append_assoc, List.replicate_append_replicate]
  congr 2
  congr 1
  funext j
  exact afterA_low f j
theorem XX_mem {L k : Nat} {f : Nat → Nat × Nat} (hf : ∀ j, (f j).1 < 16) (c : Nat) (h : c ∈ XX L f k) : c = 46 ∨ c = 60 ∨ (65 ≤ c ∧ c < 81) := by
  rcases List.mem_cons.mp h with rfl | h
  · exact .inl rfl
  · rcases List.mem_append.mp h with h | h
    · exact .inr (.inl (List.mem_replicate.mp h).2)
    · exact .inr (TT_mem hf k c h)
theorem XX_len {L k B : Nat} {f : Nat → Nat × Nat} (hf : ∀ j, j < k → (f j).2 ≤ B) : (XX L f k).length ≤ 1 + L + (B + 1) * k := by
  have := TT_len k hf
  show (List.replicate L 60 ++ TT f k).length + 1 ≤ _
  rw [List.length_append, List.length_replicate]
  omega
end Mine
end
section
open PySem PySem.W PySem.Calls PyProof.Rows PyProof.V PySem.Spec
set_option linter.unusedVariables false
namespace Mine
/-- the borrow that the columns below ask for -/
def bb (O T j c : Nat) : Nat := if O / 16 ^ (j - min j c) % 16 ^ (min j c) < T / 16 ^ (j - min j c) % 16 ^ (min j c) then 1 else 0
theorem bb_le (O T j c : Nat) : bb O T j c ≤ 1 := by unfold bb; split <;> omega
theorem bb_j0 (O T c : Nat) : bb O T 0 c = 0 := by
  unfold bb
  have : min 0 c = 0 := by omega
  rw [this]
  simp [Nat.mod_one]
theorem bb_c0 (O T j : Nat) : bb O T j 0 = 0 := by
  unfold bb
  have : min j 0 = 0 := by omega
  rw [this]
  simp [Nat.mod_one]
theorem split_mod (O j w : Nat) (h : w ≤ j) : O / 16 ^ (j - w) % 16 ^ (w + 1) = O / 16 ^ (j - w) % 16 ^ w + 16 ^ w * dig O j := by
  rw [Nat.pow_succ, Nat.mod_mul]
  congr 2
  rw [Nat.div_div_eq_div_mul, ← Nat.pow_add]
  unfold dig
  congr 3
  omega
theorem lex {m x y p q : Nat} (hx : x < m) (hy : y < m) : (x + m * p < y + m * q) ↔ (p < q ∨ (p = q ∧ x < y)) := by
  constructor
  · intro h
    by_cases h1 : p < q
    · exact .inl h1
    · refine .inr ?_
      by_cases h2 : q < p
      · exfalso
        have : m * (q + 1) ≤ m * p := Nat.mul_le_mul_left m h2
        rw [Nat.mul_succ] at this
        omega
      · have : p = q := by omega
        subst this
        exact ⟨rfl, by omega⟩
  · rintro (h | ⟨rfl, h⟩)
    · have : m * (p + 1) ≤ m * q := Nat.mul_le_mul_left m h
      rw [Nat.mul_succ] at this
      omega
    · omega
theorem bb_succ (O T j c : Nat) : bb O T (j + 1) (c + 1) = if dig O j < dig T j then 1 else if dig O j = dig T j then bb O T j c else 0 := by
  have hw : min (j + 1) (c + 1) = min j c + 1 := by omega
  have e : j + 1 - (min j c + 1) = j - min j c := by omega
  have hp : 0 < 16 ^ (min j c) := Nat.pow_pos (by decide)
  have hx := Nat.mod_lt (O / 16 ^ (j - min j c)) hp
  have hy := Nat.mod_lt (T / 16 ^ (j - min j c)) hp
  have key := lex (p := dig O j) (q := dig T j) hx hy
  unfold bb
  rw [hw, e, split_mod O j _ (by omega), split_mod T j _ (by omega)]
  by_cases h1 : dig O j < dig T j
  · rw [if_pos h1, if_pos (key.mpr (.inl h1))]
  · rw [if_neg h1]
    by_cases h2 : dig O j = dig T j
    · rw [if_pos h2]
      by_cases h3 : O / 16 ^ (j - min j c) % 16 ^ (min j c) < T / 16 ^ (j - min j c) % 16 ^ (min j c)
      · rw [if_pos h3, if_pos (key.mpr (.inr ⟨h2, h3⟩))]
      · rw [if_neg h3, if_neg (fun h => (key.mp h).elim h1 fun h => h3 h.2)]
    · rw [if_neg h2, if_neg (fun h => (key.mp h).elim h1 fun h => h2 h.1)]
theorem bb_mono (O T : Nat) : ∀ j c, bb O T j c ≤ bb O T j (c + 1)
  | 0, c => by rw [bb_j0]; exact Nat.zero_le _
  | j + 1, 0 => by rw [bb_c0]; exact Nat.zero_le _
  | j + 1, c + 1 => by
    rw [bb_succ, bb_succ]
    have := bb_mono O T j c
    split
    · exact Nat.le_refl _
    · split
      · exact this
      · exact Nat.le_refl _
/-- the columns behind the c-th call -/
def fD (O T c j : Nat) : Nat × Nat :=
  if c = 0 then (dig O j, dig T j) else
  if c = 1 ∧ dig O j < dig T j then (15, bb O T j 1 + (dig T j - dig O j) - 1)
  else ((((dig O j : Int) - (dig T j : Int) - (bb O T j (c - 1) : Int)) % 16).toNat, bb O T j c - bb O T j (c - 1))
theorem fD_lt (O T c j : Nat) : (fD O T c j).1 < 16 := by
  unfold fD
  have := dig_lt O j
  split
  · exact this
  · split
    · show (15 : Nat) < 16
      decide
    · show Int.toNat _ < 16
      omega
theorem fD_one {O T c j : Nat} (h0 : c = 0) (h : dig O j < dig T j) : fD O T (c + 1) j = (15, bb O T j (c + 1) + (dig T j - dig O j) - 1) := by
  unfold fD
  rw [if_neg (by omega), if_pos ⟨by omega, h⟩]
  subst h0
  rfl
theorem fD_gen {O T c j : Nat} (h : ¬ (c = 0 ∧ dig O j < dig T j)) : fD O T (c + 1) j = ((((dig O j : Int) - (dig T j : Int) - (bb O T j c : Int)) % 16).toNat, bb O T j (c + 1) - bb O T j c) := by
  unfold fD
  rw [if_neg (by omega), if_neg (fun h' => h ⟨by omega, h'.2⟩)]
  rfl
theorem Eb_0 (O T : Nat) : ∀ j, Eb (fD O T 0) j = bb O T j 1
  | 0 => by rw [bb_j0]; rfl
  | j + 1 => by
    show (if (fD O T 0 j).1 < (fD O T 0 j).2 then 1 else 0) = _
    rw [bb_succ, bb_c0]
    show (if dig O j < dig T j then 1 else 0) = _
    split
    · rfl
    · split <;> rfl
theorem Eb_c (O T : Nat) : ∀ c j, Eb (fD O T (c + 1)) j + bb O T j (c + 1) = bb O T j (c + 2)
  | c, 0 => by rw [bb_j0, bb_j0]; rfl
  | c, j + 1 => by
    have hO := dig_lt O j
    have hT := dig_lt T j
    show (if (fD O T (c + 1) j).1 < (fD O T (c + 1) j).2 then 1 else 0) + _ = _
    rw [bb_succ, bb_succ]
    have b0 := bb_le O T j c
    have b1 := bb_le O T j (c + 1)
    have m0 := bb_mono O T j c
    by_cases h1 : dig O j < dig T j
    · rw [if_pos h1, if_pos h1]
      by_cases h2 : c = 0
      · rw [fD_one h2 h1]
        simp only
        rw [if_neg (by omega)]
      · rw [fD_gen (fun h => h2 h.1)]
        simp only
        rw [if_neg (by omega)]
    · rw [if_neg h1, if_neg h1, fD_gen (fun h => h1 h.2)]
      simp only
      by_cases h2 : dig O j = dig T j
      · rw [if_pos h2, if_pos h2]
        by_cases h3 : bb O T j c < bb O T j (c + 1)
        · rw [if_pos (by omega)]; omega
        · rw [if_neg (by omega)]; omega
      · rw [if_neg h2, if_neg h2, if_neg (by omega)]
theorem next_0 (O T j : Nat) : nextF (fD O T 0) j = fD O T 1 j := by
  have hO := dig_lt O j
  have hT := dig_lt T j
  unfold nextF
  rw [Eb_0]
  show (if dig O j < dig T j then (15, dig T j - dig O j - 1 + bb O T j 1) else (dig O j - dig T j, bb O T j 1)) = _
  unfold fD
  rw [if_neg (by decide : ¬ (1 : Nat) = 0)]
  by_cases h : dig O j < dig T j
  · rw [if_pos h, if_pos ⟨rfl, h⟩]
    simp only [Prod.mk.injEq, true_and]; omega
  · rw [if_neg h, if_neg (fun h' => h h'.2)]
    have e : (1 : Nat) - 1 = 0 := by decide
    rw [e, bb_c0]
    simp only [Prod.mk.injEq]; omega
theorem next_c (O T c j : Nat) : nextF (fD O T (c + 1)) j = fD O T (c + 2) j := by
  have hO := dig_lt O j
  have hT := dig_lt T j
  have hE := Eb_c O T c j
  have b0 := bb_le O T j c
  have b1 := bb_le O T j (c + 1)
  have b2 := bb_le O T j (c + 2)
  have m0 := bb_mono O T j c
  have m1 : bb O T j (c + 1) ≤ bb O T j (c + 2) := bb_mono O T j (c + 1)
  unfold nextF
  generalize Eb (fD O T (c + 1)) j = e at hE
  have e2 : fD O T (c + 2) j = ((((dig O j : Int) - (dig T j : Int) - (bb O T j (c + 1) : Int)) % 16).toNat, bb O T j (c + 2) - bb O T j (c + 1)) :=
    fD_gen (c := c + 1) (fun h => absurd h.1 (by omega))
  rw [e2]
  by_cases h1 : c = 0 ∧ dig O j < dig T j
  · rw [fD_one h1.1 h1.2]
    have h2 := h1.2
    have h3 : bb O T j c = 0 := by rw [h1.1, bb_c0]
    simp only
    rw [if_neg (by omega)]
    simp only [Prod.mk.injEq]
    omega
  · rw [fD_gen h1]
    simp only
    split
    · simp only [Prod.mk.injEq]; omega
    · simp only [Prod.mk.injEq]; omega
/-- the whole text behind the c-th call -/
def dueX (O T z c : Nat) : List Nat := XX (bb O T z c) (fD O T c) z
theorem step_X (O T z : Nat) : ∀ c, rep [65, 60] [60, 80] (passes (dueX O T z c) 15) = dueX O T z (c + 1)
  | 0 => by
    unfold dueX
    rw [call_XX (fD_lt O T 0), Eb_0, bb_c0, Nat.zero_add]
    unfold XX
    rw [TT_congr z fun j _ => next_0 O T j]
  | c + 1 => by
    unfold dueX
    rw [call_XX (fD_lt O T (c + 1))]
    have := Eb_c O T c z
    have e : bb O T z (c + 1) + Eb (fD O T (c + 1)) z = bb O T z (c + 2) := by omega
    rw [e]
    unfold XX
    rw [TT_congr z fun j _ => next_c O T c j]
theorem dueX_len (O T z c : Nat) : (dueX O T z c).length ≤ 2 + 18 * z := by
  have h := XX_len (L := bb O T z c) (f := fD O T c) (B := 17) (k := z) fun j _ => by
    have b1 := bb_le O T j 1
    have b2 := bb_le O T j c
    have hT := dig_lt T j
    unfold fD
    split
    · show dig T j ≤ 17; omega
    · split
      · show bb O T j 1 + (dig T j - dig O j) - 1 ≤ 17; omega
      · show bb O T j c - bb O T j (c - 1) ≤ 17; omega
  have := bb_le O T z c
  unfold dueX
  omega
end Mine
end
section
open PySem PySem.W PySem.Calls PyProof.Rows PyProof.V PySem.Spec
set_option maxRecDepth 100000
set_option linter.unusedVariables false
namespace Mine
theorem fdn (a b : Nat) : (a : Int).fdiv (b : Int) = ((a / b : Nat) : Int) := by
  rw [Int.fdiv_eq_ediv_of_nonneg _ (Int.natCast_nonneg b)]; rfl
theorem fmn (a b : Nat) : (a : Int).fmod (b : Int) = ((a % b : Nat) : Int) := by
  rw [Int.fmod_eq_emod_of_nonneg _ (Int.natCast_nonneg b)]; rfl
theorem p16 (k : Nat) : (16 : Int) ^ k = ((16 ^ k : Nat) : Int) := by simp
theorem over_n (O T j : Nat) : overI (O : Int) (T : Int) (j : Int) = (dig O j : Int) - (dig T j : Int) := by
  unfold overI dig
  have e : ((j : Int)).toNat = j := by omega
  have e16 : (16 : Int) = ((16 : Nat) : Int) := rfl
  rw [e, p16, fdn, fdn, e16, fmn, fmn]
theorem brw_n (O T j c : Nat) : brw (O : Int) (T : Int) (j : Int) (c : Int) = (bb O T j c : Int) := by
  have em : mnI (j : Int) (c : Int) = ((min j c : Nat) : Int) := by
    unfold mnI; split <;> omega
  unfold brw bb
  rw [em]
  have e1 : ((j : Int) - ((min j c : Nat) : Int)).toNat = j - min j c := by omega
  have e2 : (((min j c : Nat) : Int)).toNat = min j c := by omega
  rw [e1, e2, p16, p16, fdn, fdn, fmn, fmn]
  by_cases h : O / 16 ^ (j - min j c) % 16 ^ (min j c) < T / 16 ^ (j - min j c) % 16 ^ (min j c)
  · rw [if_pos (by omega), if_pos h]; rfl
  · rw [if_neg (by omega), if_neg h]; rfl
theorem lt_cl (n : Int) : (ltS n).cps.toList = List.replicate n.toNat 60 := mul_cps (by decide +kernel) n
theorem kfL_cl {m : Int} (h0 : 0 ≤ m) (h1 : m < 16) : (kfL m).cps.toList = [65 + m.toNat] := by rw [kfL_eq h0 h1]
theorem colS_cl (O T j c : Nat) (hc : 1 ≤ c) : (colS (O : Int) (T : Int) (c : Int) (j : Int)).cps.toList = (65 + (fD O T c j).1) :: List.replicate (fD O T c j).2 60 := by
  have hO := dig_lt O j
  have hT := dig_lt T j
  obtain ⟨c, rfl⟩ : ∃ k, c = k + 1 := ⟨c - 1, by omega⟩
  have ec : (((c + 1 : Nat) : Int) - 1) = (c : Int) := by omega
  have b0 := bb_le O T j c
  have b1 := bb_le O T j (c + 1)
  have m0 := bb_mono O T j c
  unfold colS
  rw [over_n, ec, brw_n, brw_n]
  by_cases h : c = 0 ∧ dig O j < dig T j
  · rw [if_pos ⟨by omega, by omega⟩, fD_one h.1 h.2, cl_app, lt_cl]
    have e : (Str.ofString "P").cps.toList = [80] := by decide +kernel
    have h3 : bb O T j c = 0 := by rw [h.1, bb_c0]
    have e5 : ((bb O T j (c + 1) : Int) - (bb O T j c : Int) - ((dig O j : Int) - (dig T j : Int)) - 1).toNat = bb O T j (c + 1) + (dig T j - dig O j) - 1 := by omega
    rw [e, e5]; rfl
  · have e3 : ((dig O j : Int) - (dig T j : Int) - (bb O T j c : Int)).fmod 16 = ((dig O j : Int) - (dig T j : Int) - (bb O T j c : Int)) % 16 := Int.fmod_eq_emod_of_nonneg _ (by decide)
    have e7 : (kfL (((dig O j : Int) - (dig T j : Int) - (bb O T j c : Int)).fmod 16)).cps.toList = [65 + (((dig O j : Int) - (dig T j : Int) - (bb O T j c : Int)) % 16).toNat] := by
      rw [e3]; exact kfL_cl (by omega) (by omega)
    have e6 : ((bb O T j (c + 1) : Int) - (bb O T j c : Int)).toNat = bb O T j (c + 1) - bb O T j c := by omega
    rw [if_neg (fun h' => h ⟨by omega, by omega⟩), fD_gen h, cl_app, lt_cl, e7, e6]; rfl
theorem dueR_cl (O T Z c : Nat) (hc : 1 ≤ c) : ∀ k, k ≤ Z → (dueR (O : Int) (T : Int) (Z : Int) (c : Int) k).cps.toList = 46 :: (List.replicate (bb O T Z c) 60 ++ (List.range k).flatMap fun i => (65 + (fD O T c (Z - 1 - i)).1) :: List.replicate (fD O T c (Z - 1 - i)).2 60)
  | 0, _ => by
    show (Str.ofString "." ++ ltS (brw (O : Int) (T : Int) (Z : Int) (c : Int))).cps.toList = _
    have e : (Str.ofString ".").cps.toList = [46] := by decide +kernel
    rw [cl_app, e, lt_cl, brw_n]
    simp
  | k + 1, h => by
    show (dueR (O : Int) (T : Int) (Z : Int) (c : Int) k ++ colS (O : Int) (T : Int) (c : Int) ((Z : Int) - 1 - (k : Int))).cps.toList = _
    have e : (Z : Int) - 1 - (k : Int) = ((Z - 1 - k : Nat) : Int) := by omega
    rw [cl_app, dueR_cl O T Z c hc k (by omega), e, colS_cl _ _ _ _ hc, List.range_succ, List.flatMap_append]
    simp
theorem dueX_cl (O T Z c : Nat) (hc : 1 ≤ c) : (dueR (O : Int) (T : Int) (Z : Int) (c : Int) Z).cps.toList = dueX O T Z c := by
  rw [dueR_cl O T Z c hc Z (Nat.le_refl _), TT_range (f := fD O T c) Z fun i _ => rfl]; rfl
/-- words -/
theorem ws_cl (N Z : Nat) (n : Int) (hn : n.natAbs = N) (h : N < 16 ^ Z) : (wordS n (Z : Int)).cps.toList = cols (fun j => 65 + dig N j) Z := by
  subst hn
  unfold wordS
  have e1 : (wordL (ap n.natAbs)).cps.toList = wl n.natAbs := by simp [wordL, wl]
  have e2 : (wordL (ap n.natAbs)).length = (wl n.natAbs).length := by rw [← cl_len, e1]
  have hA : (Str.ofString "A").cps = #[65] := by decide +kernel
  rw [cl_app, mul_cps hA, e1, e2, ← wl_cols Z _ h]
  congr 2
  omega
theorem nat_of {z o t : Int} (h : BZ z o t) : ∃ Z O T : Nat, z = (Z : Int) ∧ o = (O : Int) ∧ t = (T : Int) ∧ Z ≤ 6 ∧ O < 16 ^ Z ∧ T < 16 ^ Z := by
  obtain ⟨Z, rfl⟩ := Int.eq_ofNat_of_zero_le h.lo
  obtain ⟨O, rfl⟩ := Int.eq_ofNat_of_zero_le h.o.1
  obtain ⟨T, rfl⟩ := Int.eq_ofNat_of_zero_le h.t.1
  have h1 := h.o.2
  have h2 := h.t.2
  have h3 := h.hi
  have e : ((Z : Int)).toNat = Z := by omega
  rw [e, p16] at h1 h2
  exact ⟨Z, O, T, rfl, rfl, rfl, by omega, by omega, by omega⟩
theorem ws_len {z o t : Int} (h : BZ z o t) : (wordS o z).length = z.toNat := by
  obtain ⟨Z, O, T, rfl, rfl, rfl, hZ, hO, hT⟩ := nat_of h
  rw [← cl_len, ws_cl O Z _ (by omega) hO, cols_len]; omega
theorem ws_lenN {z o t : Int} (h : BZ z o t) : (wordS (-t) z).length = z.toNat := by
  obtain ⟨Z, O, T, rfl, rfl, rfl, hZ, hO, hT⟩ := nat_of h
  rw [← cl_len, ws_cl T Z _ (by omega) hT, cols_len]; omega
theorem item_len (x : Str) (i : Int) : (Txt.item x i).length = 1 := rfl
theorem item_cl {x : Str} {i : Nat} {c : Nat} (h : x.cps.toList[i]? = some c) : (Txt.item x (i : Int)).cps.toList = [c] := by
  have hl : i < x.length := by
    have := (List.getElem?_eq_some_iff.mp h).1
    rwa [cl_len] at this
  have e := eq_of_beq (item_closes (x := x) (i := (i : Int)) ⟨by omega, by omega⟩)
  rw [e]
  have e2 : ((i : Int)).toNat = i := by omega
  rw [e2]
  show [x.cps.getD i 0] = [c]
  have : x.cps[i]? = some c := by rw [← Array.getElem?_toList]; exact h
  simp [Array.getD_eq_getD_getElem?, this]
theorem item_ord {x : Str} {i : Nat} {c : Nat} (h : x.cps.toList[i]? = some c) : ordI (Txt.item x (i : Int)) = (c : Int) := by
  have e := item_cl h
  unfold ordI
  have : (Txt.item x (i : Int)).cps = #[c] := by
    apply Array.toList_inj.mp; rw [e]
  rw [this]; rfl
theorem ws_item {N Z i : Nat} {n : Int} (hn : n.natAbs = N) (h : N < 16 ^ Z) (hi : i < Z) : (wordS n (Z : Int)).cps.toList[i]? = some (65 + dig N (Z - 1 - i)) := by
  rw [ws_cl N Z n hn h, cols_get _ _ _ hi]
theorem init_cl (O T Z : Nat) (hO : O < 16 ^ Z) (hT : T < 16 ^ Z) : (initS (O : Int) (T : Int) (Z : Int)).cps.toList = dueX O T Z 0 := by
  unfold initS
  have e : (Str.ofString ".").cps.toList = [46] := by decide +kernel
  have ez : ((Z : Int) - 0).toNat = Z := by omega
  rw [cl_app, e, cl_txtjoin, List.flatMap_map, ez]
  unfold rangeKs
  rw [List.flatMap_map]
  unfold dueX XX
  rw [bb_c0, ← TT_range (f := fD O T 0) (e := fun i => (65 + (fD O T 0 (Z - 1 - i)).1) :: List.replicate (fD O T 0 (Z - 1 - i)).2 60) Z fun i _ => rfl]
  rw [List.singleton_append]
  congr 1
  rw [List.replicate_zero, List.nil_append, List.flatMap_def, List.flatMap_def]
  congr 1
  apply List.map_congr_left
  intro i hi
  have hi' : i < Z := List.mem_range.mp hi
  have e0 : (0 : Int) + (i : Int) = (i : Int) := by omega
  simp only [e0]
  unfold elG
  have hS : (Str.ofString "<").cps = #[60] := by decide +kernel
  rw [cl_app, item_cl (ws_item (N := O) (by omega) hO hi'), item_ord (ws_item (N := T) (by omega) hT hi'), mul_cps hS]
  have e1 : (((65 + dig T (Z - 1 - i) : Nat) : Int) - 65).toNat = dig T (Z - 1 - i) := by omega
  rw [e1]
  rfl
theorem after_cl {O T Z : Nat} (hO : O < 16 ^ Z) (hT : T < 16 ^ Z) : ∀ k, (afterS (O : Int) (T : Int) (Z : Int) k).cps.toList = dueX O T Z k
  | 0 => init_cl O T Z hO hT
  | k + 1 => by
    show (dueR (O : Int) (T : Int) (Z : Int) ((k : Int) + 1) ((Z : Int)).toNat).cps.toList = _
    have e : ((Z : Int)).toNat = Z := by omega
    have e2 : (k : Int) + 1 = ((k + 1 : Nat) : Int) := by omega
    rw [e, e2, dueX_cl _ _ _ _ (by omega)]
/-- signs that no step of escape but the last touches -/
def Cl (l : List Nat) : Prop := ∀ c ∈ l, c ≠ 38 ∧ c ≠ 62
theorem dueX_ok (O T Z c : Nat) : Cl (dueX O T Z c) := fun a h => by
  have := XX_mem (fD_lt O T c) a h
  omega
theorem rep_id {y z : List Nat} {c : Nat} {y' : List Nat} (hy : y = c :: y') : ∀ l : List Nat, (∀ a ∈ l, a ≠ c) → rep y z l = l
  | [], _ => rfl
  | a :: l, h => by
    rw [rep_miss, rep_id hy l fun x hx => h x (List.mem_cons_of_mem _ hx)]
    subst hy
    have h1 := h a (List.mem_cons_self ..)
    show (c == a && _) = false
    have : (c == a) = false := by rw [beq_eq_false_iff_ne]; exact fun e => h1 e.symm
    rw [this]; rfl
theorem rep_back : ∀ l : List Nat, (∀ a ∈ l, a ≠ 38) → rep [38, 108, 116, 59] [60] (l.flatMap (one 60 [38, 108, 116, 59])) = l
  | [], _ => rfl
  | a :: l, h => by
    have ih := rep_back l fun x hx => h x (List.mem_cons_of_mem _ hx)
    have h1 := h a (List.mem_cons_self ..)
    rw [List.flatMap_cons]
    unfold one
    by_cases h2 : a = 60
    · rw [if_pos h2]
      have e := rep_app (y := [38, 108, 116, 59]) (z := [60]) (l := l.flatMap (one 60 [38, 108, 116, 59])) (by simp)
      rw [show l.flatMap (one 60 [38, 108, 116, 59]) = l.flatMap (fun a => if a = 60 then [38, 108, 116, 59] else [a]) from rfl] at e ih
      rw [e, ih, h2]; rfl
    · rw [if_neg h2]
      rw [show l.flatMap (one 60 [38, 108, 116, 59]) = l.flatMap (fun a => if a = 60 then [38, 108, 116, 59] else [a]) from rfl] at ih
      rw [List.singleton_append, rep_miss, ih]
      show ((38 : Nat) == a && _) = false
      have : ((38 : Nat) == a) = false := by rw [beq_eq_false_iff_ne]; exact fun e => h1 e.symm
      rw [this]; rfl
theorem amp_id {x : Str} (h : Cl x.cps.toList) : Txt.replace x (Str.ofString "&") (Str.ofString "&amp;") = x := by
  have e1 : (Str.ofString "&").cps.toList = [38] := by decide +kernel
  apply cl_ext
  rw [replace_rep _ _ _ (by rw [e1]; simp), e1]
  exact rep_id rfl _ fun a ha => (h a ha).1
theorem gt_id {x : Str} (h : Cl x.cps.toList) : Txt.replace x (Str.ofString ">") (Str.ofString "&gt;") = x := by
  have e1 : (Str.ofString ">").cps.toList = [62] := by decide +kernel
  apply cl_ext
  rw [replace_rep _ _ _ (by rw [e1]; simp), e1]
  exact rep_id rfl _ fun a ha => (h a ha).2
theorem ungt_id {x : Str} (h : Cl x.cps.toList) : Txt.replace x (Str.ofString "&gt;") (Str.ofString ">") = x := by
  have e1 : (Str.ofString "&gt;").cps.toList = [38, 103, 116, 59] := by decide +kernel
  apply cl_ext
  rw [replace_rep _ _ _ (by rw [e1]; simp), e1]
  exact rep_id rfl _ fun a ha => (h a ha).1
theorem unamp_id {x : Str} (h : Cl x.cps.toList) : Txt.replace x (Str.ofString "&amp;") (Str.ofString "&") = x := by
  have e1 : (Str.ofString "&amp;").cps.toList = [38, 97, 109, 112, 59] := by decide +kernel
  apply cl_ext
  rw [replace_rep _ _ _ (by rw [e1]; simp), e1]
  exact rep_id rfl _ fun a ha => (h a ha).1
theorem esc3_is {x : Str} (h : Cl x.cps.toList) : (esc3 x).cps.toList = x.cps.toList.flatMap (one 60 [38, 108, 116, 59]) := by
  have e1 : (Str.ofString "<").cps.toList = [60] := by decide +kernel
  have e2 : (Str.ofString "&lt;").cps.toList = [38, 108, 116, 59] := by decide +kernel
  unfold esc3
  rw [amp_id h, gt_id h, replace_rep _ _ _ (by rw [e1]; simp), e1, e2, rep_one]
theorem unlt_is {x : Str} (h : Cl x.cps.toList) : Txt.replace (esc3 x) (Str.ofString "&lt;") (Str.ofString "<") = x := by
  have e1 : (Str.ofString "<").cps.toList = [60] := by decide +kernel
  have e2 : (Str.ofString "&lt;").cps.toList = [38, 108, 116, 59] := by decide +kernel
  apply cl_ext
  rw [replace_rep _ _ _ (by rw [e2]; simp), e1, e2, esc3_is h]
  exact rep_back _ fun a ha => (h a ha).1
theorem une_esc {x : Str} (h : Cl x.cps.toList) : une2 (esc3 x) = x := by
  unfold une2
  rw [unlt_is h, ungt_id h]
def stepL (l : List Nat) (q : Str × Str) : List Nat := rep q.1.cps.toList q.2.cps.toList l
theorem stepL_eq (l : List Nat) (a b : Str) : stepL l (a, b) = rep a.cps.toList b.cps.toList l := rfl
theorem repAll_two : ∀ (P : List Ent) (x : Str), (∀ p ∈ P, p.k.cps.toList ≠ []) → (repAll x P).cps.toList = (P.map Ent.two).foldl stepL x.cps.toList
  | [], _, _ => rfl
  | p :: P, x, h => by
    show (repAll (Txt.replace x p.k p.v) P).cps.toList = _
    rw [repAll_two P _ fun q hq => h q (List.mem_cons_of_mem _ hq), replace_rep _ _ _ (h p (List.mem_cons_self ..))]
    rfl
theorem fold_passes (l : List Nat) : ∀ n, n ≤ 15 → (specD kf2 vf2 15 (-1) n).foldl stepL l = passes l n
  | 0, _ => rfl
  | n + 1, h => by
    rw [specD_succ, List.foldl_append, fold_passes l n (by omega)]
    have e := two_cls (j := 15 + (n : Int) * (-1)) (by omega) (by omega)
    have e2 : (15 + (n : Int) * (-1)).toNat = 15 - n := by omega
    rw [List.foldl_cons, List.foldl_nil, stepL_eq, e.1, e.2, e2]; rfl
theorem tab_props : ∀ q ∈ specD kf2 vf2 15 (-1) 15 ++ [(Str.ofString "A<", Str.ofString "<P")], q.1.cps.toList ≠ [] ∧ q.2.cps.toList.length ≤ q.1.cps.toList.length := by decide +kernel
theorem TabIs.prop {P : List Ent} (hP : TabIs P) : ∀ p ∈ P, p.k.cps.toList ≠ [] ∧ p.v.cps.toList.length ≤ p.k.cps.toList.length := by
  intro p hp
  have : p.two ∈ P.map Ent.two := List.mem_map.mpr ⟨p, hp, rfl⟩
  rw [hP] at this
  exact tab_props _ this
theorem repAll_tab {P : List Ent} (hP : TabIs P) (x : Str) : (repAll x P).cps.toList = rep [65, 60] [60, 80] (passes x.cps.toList 15) := by
  rw [repAll_two P x fun p hp => (hP.prop p hp).1, hP, List.foldl_append, fold_passes _ 15 (Nat.le_refl _)]
  have e1 : (Str.ofString "A<").cps.toList = [65, 60] := by decide +kernel
  have e2 : (Str.ofString "<P").cps.toList = [60, 80] := by decide +kernel
  rw [List.foldl_cons, List.foldl_nil, stepL_eq, e1, e2]
theorem pq_step {o t z c : Int} {P : List Ent} {x : Str} {p : List Int} (h : BZ z o t) (hP : TabIs P) (hx : x = afterS o t z p.length) (hc : c = 1 + (p.length : Int)) :
    Txt.replace (repAll (une2 (esc3 x)) P) (Str.ofString "&amp;") (Str.ofString "&") = dueR o t z c z.toNat := by
  obtain ⟨Z, O, T, rfl, rfl, rfl, hZ, hO, hT⟩ := nat_of h
  have e := after_cl hO hT p.length
  rw [← hx] at e
  have hcl : Cl x.cps.toList := by rw [e]; exact dueX_ok O T Z p.length
  have er : (repAll (une2 (esc3 x)) P).cps.toList = dueX O T Z (p.length + 1) := by
    rw [une_esc hcl, repAll_tab hP, e, step_X]
  rw [unamp_id (by rw [er]; exact dueX_ok _ _ _ _)]
  apply cl_ext
  have ez : ((Z : Int)).toNat = Z := by omega
  have ec : c = ((p.length + 1 : Nat) : Int) := by omega
  rw [er, ez, ec, dueX_cl _ _ _ _ (by omega)]
theorem pq_s1 {o t z c : Int} {P : List Ent} {x : Str} {p : List Int} (h : BZ z o t) (hP : TabIs P) (hx : x = afterS o t z p.length) (hc : c = 1 + (p.length : Int)) :
    Txt.replace (repAll (une2 (esc3 x)) P) (Str.ofString "&amp;") (Str.ofString "&") = afterS o t z (p ++ [c]).length := by
  rw [pq_step h hP hx hc, List.length_append, List.length_singleton]
  show _ = dueR o t z ((p.length : Int) + 1) z.toNat
  rw [hc, Int.add_comm]
theorem x_facts {o t z : Int} {x : Str} {k : Nat} (h : BZ z o t) (hx : x = afterS o t z k) : Cl x.cps.toList ∧ x.length ≤ 200 := by
  obtain ⟨Z, O, T, rfl, rfl, rfl, hZ, hO, hT⟩ := nat_of h
  have e := after_cl hO hT k
  rw [← hx] at e
  refine ⟨by rw [e]; exact dueX_ok O T Z k, ?_⟩
  rw [← cl_len, e]
  have := dueX_len O T Z k
  omega
theorem pq_e0 {o t z : Int} {x : Str} {k : Nat} (h : BZ z o t) (hx : x = afterS o t z k) : x.length ≤ 65535 := by have := (x_facts h hx).2; omega
theorem pq_e1 {o t z : Int} {x : Str} {k : Nat} (h : BZ z o t) (hx : x = afterS o t z k) : (Txt.replace x (Str.ofString "&") (Str.ofString "&amp;")).length ≤ 65535 := by
  rw [amp_id (x_facts h hx).1]; exact pq_e0 h hx
theorem pq_e2 {o t z : Int} {x : Str} {k : Nat} (h : BZ z o t) (hx : x = afterS o t z k) : (Txt.replace (Txt.replace x (Str.ofString "&") (Str.ofString "&amp;")) (Str.ofString ">") (Str.ofString "&gt;")).length ≤ 65535 := by
  rw [amp_id (x_facts h hx).1, gt_id (x_facts h hx).1]; exact pq_e0 h hx
theorem flat_len {α : Type} {f : α → List Nat} {B : Nat} : ∀ l : List α, (∀ a ∈ l, (f a).length ≤ B) → (l.flatMap f).length ≤ B * l.length
  | [], _ => by simp
  | a :: l, h => by
    rw [List.flatMap_cons, List.length_append, List.length_cons, Nat.mul_add]
    have h1 := h a (List.mem_cons_self ..)
    have h2 := flat_len l fun x hx => h x (List.mem_cons_of_mem _ hx)
    omega
theorem pq_u0 {o t z : Int} {x : Str} {k : Nat} (h : BZ z o t) (hx : x = afterS o t z k) : (esc3 x).length ≤ 65535 := by
  obtain ⟨h1, h2⟩ := x_facts h hx
  rw [← cl_len, esc3_is h1]
  have := flat_len (f := one 60 [38, 108, 116, 59]) (B := 4) x.cps.toList fun a _ => by
    unfold one; split
    · decide
    · exact Nat.succ_le_succ (Nat.zero_le _)
  rw [cl_len] at this
  omega
theorem pq_u1 {o t z : Int} {x : Str} {k : Nat} (h : BZ z o t) (hx : x = afterS o t z k) : (Txt.replace (esc3 x) (Str.ofString "&lt;") (Str.ofString "<")).length ≤ 65535 := by
  rw [unlt_is (x_facts h hx).1]; exact pq_e0 h hx
theorem repS_len {y z : List Nat} (hy : y ≠ []) (hz : z.length ≤ y.length) : ∀ (l : List Nat) (k : Nat), k ≤ l.length → (repS y z k l).length ≤ l.length - k
  | [], k, _ => by cases k <;> exact Nat.zero_le _
  | a :: l, k + 1, h => by
    have := repS_len hy hz l k (by simpa using h)
    show (repS y z k l).length ≤ _
    simp only [List.length_cons]; omega
  | a :: l, 0, _ => by
    show (repS y z 0 (a :: l)).length ≤ _
    unfold repS
    have hy1 : 1 ≤ y.length := List.length_pos_iff.mpr hy
    split
    · rename_i hp
      have hl := (List.isPrefixOf_iff_prefix.mp hp).length_le
      rw [List.length_cons] at hl
      have := repS_len hy hz l (y.length - 1) (by omega)
      rw [List.length_append, List.length_cons]; omega
    · have := repS_len hy hz l 0 (Nat.zero_le _)
      simp only [List.length_cons]; omega
theorem replace_len {x y z : Str} (hy : y.cps.toList ≠ []) (hz : z.cps.toList.length ≤ y.cps.toList.length) : (Txt.replace x y z).length ≤ x.length := by
  rw [← cl_len, ← cl_len x, replace_rep _ _ _ hy]
  have := repS_len hy hz x.cps.toList 0 (Nat.zero_le _)
  show (repS y.cps.toList z.cps.toList 0 x.cps.toList).length ≤ _
  omega
theorem fits_all : ∀ (P : List Ent) (x : Str), (∀ p ∈ P, p.k.cps.toList ≠ [] ∧ p.v.cps.toList.length ≤ p.k.cps.toList.length) → x.length ≤ 65535 → RepFits x P ∧ (repAll x P).length ≤ 65535
  | [], x, _, h => ⟨trivial, h⟩
  | p :: P, x, hP, h => by
    have hp := hP p (List.mem_cons_self ..)
    have := replace_len (x := x) hp.1 hp.2
    have ih := fits_all P (Txt.replace x p.k p.v) (fun q hq => hP q (List.mem_cons_of_mem _ hq)) (by omega)
    exact ⟨⟨h, ih.1⟩, ih.2⟩
theorem pq_u2 {o t z : Int} {P : List Ent} {x : Str} {k : Nat} (h : BZ z o t) (hP : TabIs P) (hx : x = afterS o t z k) : RepFits (une2 (esc3 x)) P := by
  rw [une_esc (x_facts h hx).1]
  exact (fits_all P x hP.prop (pq_e0 h hx)).1
theorem pq_u3 {o t z : Int} {P : List Ent} {x : Str} {k : Nat} (h : BZ z o t) (hP : TabIs P) (hx : x = afterS o t z k) : (repAll (une2 (esc3 x)) P).length ≤ 65535 := by
  rw [une_esc (x_facts h hx).1]
  exact (fits_all P x hP.prop (pq_e0 h hx)).2
end Mine
end
section
open PySem PySem.W PySem.Calls PyProof.Rows PyProof.V PySem.Spec
set_option maxRecDepth 100000
set_option linter.unusedVariables false
namespace Mine
theorem wl_mem {n c : Nat} : c ∈ wl n → 65 ≤ c ∧ c < 81 := by
  induction n using Nat.strongRecOn with
  | _ n ih =>
    by_cases h : n = 0
    · subst h; rw [wl_zero]; intro h; exact nomatch h
    · rw [wl_pos h]
      intro hc
      rcases List.mem_append.mp hc with hc | hc
      · exact ih (n / 16) (by omega) hc
      · have := List.mem_singleton.mp hc
        omega
theorem ws_mem {n z : Int} {c : Nat} (h : c ∈ (wordS n z).cps.toList) : 65 ≤ c ∧ c < 81 := by
  have hA : (Str.ofString "A").cps = #[65] := by decide +kernel
  have e1 : (wordL (ap n.natAbs)).cps.toList = wl n.natAbs := by simp [wordL, wl]
  unfold wordS at h
  rw [cl_app, mul_cps hA, e1] at h
  rcases List.mem_append.mp h with h | h
  · have := (List.mem_replicate.mp h).2; omega
  · exact wl_mem h
theorem ord_bd {x : Str} (h : ∀ c ∈ x.cps.toList, c < 81) (i : Int) : 0 ≤ ordI (Txt.item x i) ∧ ordI (Txt.item x i) ≤ 80 := by
  have e : ordI (Txt.item x i) = (((Txt.charAt x i).getD 0 : Nat) : Int) := rfl
  rw [e]
  cases hc : Txt.charAt x i with
  | none => simp
  | some c =>
    have : c ∈ x.cps.toList := by
      unfold Txt.charAt at hc
      obtain ⟨j, _, hj⟩ := Option.bind_eq_some_iff.mp hc
      rw [← Array.getElem?_toList] at hj
      exact List.mem_of_getElem? hj
    have := h c this
    simp only [Option.getD_some]
    omega
theorem ws_ordb (t z k : Int) : 0 ≤ ordI (Txt.item (wordS (-t) z) k) ∧ ordI (Txt.item (wordS (-t) z) k) ≤ 80 := ord_bd (fun c hc => (ws_mem hc).2) k
theorem ws_ord (t z k : Int) : MulOk (Str.ofString "<") (ordI (Txt.item (wordS (-t) z) k) - 65) := by
  have := ws_ordb t z k
  exact lt_ok (by omega) (by omega)
theorem el_mul (t z k : Int) : (Txt.mul (Str.ofString "<") (ordI (Txt.item (wordS (-t) z) k) - 65)).length ≤ 15 := by
  have := ws_ordb t z k
  exact mul1_len (by decide +kernel) (by omega)
theorem el_sz (o t z k : Int) : (Txt.item (wordS o z) k).length + (Txt.mul (Str.ofString "<") (ordI (Txt.item (wordS (-t) z) k) - 65)).length ≤ sizeLine := by
  have h1 := el_mul t z k
  have h2 := item_len (wordS o z) k
  rw [sizeLine_eq]; omega
theorem el_fits {o t z : Int} (h : BZ z o t) : ((((rangeKs 0 (z - 0).toNat).map (elG o t z))).map (·.length)).sum + ((rangeKs 0 (z - 0).toNat).map (elG o t z)).length * (Str.ofString "").length ≤ 16777216 := by
  have e : (Str.ofString "").length = 0 := by decide +kernel
  have hz := h.hi
  rw [e, Nat.mul_zero, Nat.add_zero]
  refine Nat.le_trans (sum_le_of (B := 16) fun x hx => ?_) ?_
  · obtain ⟨y, hy, rfl⟩ := List.mem_map.mp hx
    obtain ⟨k, _, rfl⟩ := List.mem_map.mp hy
    show (Txt.item (wordS o z) k ++ Txt.mul (Str.ofString "<") (ordI (Txt.item (wordS (-t) z) k) - 65)).length ≤ 16
    rw [Str.length_append]
    have h1 := el_mul t z k
    have h2 := item_len (wordS o z) k
    omega
  · rw [List.length_map, List.length_map, rangeKs_length]
    omega
theorem init_sz {o t z : Int} (h : BZ z o t) : (Str.ofString ".").length + (Txt.join (Str.ofString "") ((rangeKs 0 (z - 0).toNat).map (elG o t z))).length ≤ sizeLine := by
  have := (x_facts (k := 0) h rfl).2
  have e : (afterS o t z 0).length = (Str.ofString ".").length + (Txt.join (Str.ofString "") ((rangeKs 0 (z - 0).toNat).map (elG o t z))).length := Str.length_append _ _
  rw [e] at this
  rw [sizeLine_eq]; omega
theorem wd_len {n z : Int} (hz : z ≤ 6) (hn : -1099511627776 < n) (hn2 : n < 1099511627776) : (wordS n z).length ≤ 110 := by
  unfold wordS
  rw [Str.length_append]
  have h1 := wl_len10 hn hn2
  have h2 := mulA_len (k := z - ((wordL (ap n.natAbs)).length : Int)) (by omega)
  omega
theorem wd_sz1 {n z : Int} (hz : z ≤ 6) (hn : -1099511627776 < n) (hn2 : n < 1099511627776) : (Str.ofString ".").length + (wordS n z).length ≤ sizeLine := by
  have h1 := wd_len hz hn hn2
  have e : (Str.ofString ".").length = 1 := by decide +kernel
  rw [sizeLine_eq]; omega
theorem wd_sz2 {n z : Int} (hz : z ≤ 6) (hn : -1099511627776 < n) (hn2 : n < 1099511627776) : (Str.ofString ".<").length + (wordS n z).length ≤ sizeLine := by
  have h1 := wd_len hz hn hn2
  have e : (Str.ofString ".<").length = 2 := by decide +kernel
  rw [sizeLine_eq]; omega
theorem bb_full (O T j c : Nat) (h : j ≤ c) : bb O T j c = if O % 16 ^ j < T % 16 ^ j then 1 else 0 := by
  unfold bb
  have e : min j c = j := by omega
  rw [e, Nat.sub_self, Nat.pow_zero, Nat.div_one, Nat.div_one]
/-- the figures of a difference -/
theorem dig_diff {R O T Z j e : Nat} (hj : j < Z) (hR : R + T = O + e * 16 ^ Z) :
    dig R j = (((dig O j : Int) - (dig T j : Int) - ((if O % 16 ^ j < T % 16 ^ j then 1 else 0 : Nat) : Int)) % 16).toNat := by
  have hm : 0 < 16 ^ j := Nat.pow_pos (by decide)
  have hZ : 16 ^ Z = 16 ^ j * (16 * 16 ^ (Z - j - 1)) := by
    rw [← Nat.mul_assoc, ← Nat.pow_succ, ← Nat.pow_add]
    congr 1; omega
  have eR := Nat.mod_add_div R (16 ^ j)
  have eO := Nat.mod_add_div O (16 ^ j)
  have eT := Nat.mod_add_div T (16 ^ j)
  have rR := Nat.mod_lt R hm
  have rO := Nat.mod_lt O hm
  have rT := Nat.mod_lt T hm
  unfold dig
  generalize 16 ^ (Z - j - 1) = K at hZ
  rw [hZ] at hR
  clear hZ
  generalize 16 ^ j = m at *
  generalize R / m = q at *
  generalize O / m = q1 at *
  generalize T / m = q2 at *
  generalize R % m = r at *
  generalize O % m = r1 at *
  generalize T % m = r2 at *
  have key : m * (q + q2) + (r + r2) = m * (q1 + 16 * (e * K)) + r1 := by
    have h1 : e * (m * (16 * K)) = m * (16 * (e * K)) := by
      rw [Nat.mul_left_comm, Nat.mul_left_comm e 16 K]
    rw [Nat.mul_add, Nat.mul_add, ← h1]
    omega
  generalize e * K = Y at *
  have fact : q + q2 + (if r1 < r2 then 1 else 0) = q1 + 16 * Y := by
    by_cases h : r + r2 < m
    · have h2 : (m * (q + q2) + (r + r2)) % m = (m * (q1 + 16 * Y) + r1) % m := by rw [key]
      rw [Nat.mul_add_mod, Nat.mul_add_mod, Nat.mod_eq_of_lt h, Nat.mod_eq_of_lt rO] at h2
      rw [if_neg (by omega)]
      have h3 : m * (q + q2) = m * (q1 + 16 * Y) := by omega
      have := Nat.eq_of_mul_eq_mul_left hm h3
      omega
    · have e1 : m * (q + q2) + (r + r2) = m * (q + q2 + 1) + (r + r2 - m) := by rw [Nat.mul_succ]; omega
      have h2 : (m * (q + q2 + 1) + (r + r2 - m)) % m = (m * (q1 + 16 * Y) + r1) % m := by rw [← e1, key]
      rw [Nat.mul_add_mod, Nat.mul_add_mod, Nat.mod_eq_of_lt (by omega), Nat.mod_eq_of_lt rO] at h2
      rw [if_pos (by omega)]
      have h3 : m * (q + q2 + 1) = m * (q1 + 16 * Y) := by omega
      have := Nat.eq_of_mul_eq_mul_left hm h3
      omega
  by_cases h : r1 < r2
  · rw [if_pos h] at fact ⊢; omega
  · rw [if_neg h] at fact ⊢; omega
theorem end_TT {R O T Z e : Nat} (hR : R + T = O + e * 16 ^ Z) : TT (fD O T (Z + 1)) Z = cols (fun j => 65 + dig R j) Z := by
  refine TT_plain (g := dig R) Z fun j hj => ?_
  rw [fD_gen (c := Z) (fun h => by omega), bb_full O T j Z (by omega), bb_full O T j (Z + 1) (by omega), dig_diff hj hR, Nat.sub_self]
theorem range_len {z : Int} (hz : 0 ≤ z) : (rangeKs 1 (z + 2 - 1).toNat).length = z.toNat + 1 := by
  rw [rangeKs_length]; omega
theorem pq_end1 {o t z : Int} {x : Str} (h : BZ z o t) (hx : x = afterS o t z (rangeKs 1 (z + 2 - 1).toNat).length) (hlt : o < t) : x = Str.ofString ".<" ++ wordS (16 ^ z.toNat + o - t) z := by
  rw [range_len h.lo] at hx
  obtain ⟨Z, O, T, rfl, rfl, rfl, hZ, hO, hT⟩ := nat_of h
  have ez : ((Z : Int)).toNat = Z := by omega
  rw [ez] at hx ⊢
  have e0 : (Str.ofString ".<").cps.toList = [46, 60] := by decide +kernel
  have hp := p16 Z
  apply cl_ext
  rw [hx, after_cl hO hT, cl_app, e0, ws_cl (16 ^ Z + O - T) Z _ (by rw [hp]; omega) (by omega)]
  unfold dueX XX
  rw [end_TT (R := 16 ^ Z + O - T) (e := 1) (by omega), bb_full O T Z _ (by omega), Nat.mod_eq_of_lt hO, Nat.mod_eq_of_lt hT, if_pos (by omega)]
  rfl
theorem pq_end2 {o t z : Int} {x : Str} (h : BZ z o t) (hx : x = afterS o t z (rangeKs 1 (z + 2 - 1).toNat).length) (hlt : ¬ o < t) : x = Str.ofString "." ++ wordS (o - t) z := by
  rw [range_len h.lo] at hx
  obtain ⟨Z, O, T, rfl, rfl, rfl, hZ, hO, hT⟩ := nat_of h
  have ez : ((Z : Int)).toNat = Z := by omega
  rw [ez] at hx
  have e0 : (Str.ofString ".").cps.toList = [46] := by decide +kernel
  apply cl_ext
  rw [hx, after_cl hO hT, cl_app, e0, ws_cl (O - T) Z _ (by omega) (by omega)]
  unfold dueX XX
  rw [end_TT (R := O - T) (e := 0) (by omega), bb_full O T Z _ (by omega), Nat.mod_eq_of_lt hO, Nat.mod_eq_of_lt hT, if_neg (by omega)]
  rfl
theorem pq_end3 {o t z : Int} {x : Str} (h : BZ z o t) (hx : x = afterS o t z (rangeKs 1 (z + 2 - 1).toNat).length) (hlt : ¬ o < t) : x = Str.ofString "." ++ wordS (t - o) z := by
  have e : wordS (t - o) z = wordS (o - t) z := by
    unfold wordS
    have : (t - o).natAbs = (o - t).natAbs := by omega
    rw [this]
  rw [e]
  exact pq_end2 h hx hlt
end Mine
end
open PySem PySem.W PySem.Calls PyProof.Rows Mine
local macro_rules | `(tactic| k_all) => `(tactic| (with_reducible assumption))
local macro_rules | `(tactic| walk_at "exec For Name Subscript cons nil") => `(tactic| k_extra "w1")
local macro_rules | `(tactic| walk_at "exec For Tuple List cons nil") => `(tactic| k_extra "w2")
local macro_rules | `(tactic| walk_at "ListAtB") => `(tactic| k_extra "w3")
local macro_rules | `(tactic| walk_at "execs cons") => `(tactic| k_extra "w4")
local macro_rules | `(tactic| walk_at "pyIter ref") => `(tactic| k_dflt ((k_extra "pyIter ref")))
local macro_rules | `(tactic| walk_at "RestB") => `(tactic| k_extra "w5")
local macro_rules | `(tactic| walk_at "PostQ") => `(tactic| dsimp only [PostQ])
local macro_rules | `(tactic| walk_at "EndQ") => `(tactic| k_dflt ((k_extra "EndQ")))
local macro_rules | `(tactic| k_mem) => `(tactic| (with_reducible assumption))
local macro_rules | `(tactic| walk_at "call builtin:list.append") => `(tactic| k_extra "w6")
local macro_rules | `(tactic| walk_at "call builtin:len") => `(tactic| k_extra "w7")
local macro_rules | `(tactic| walk_at "subscriptTail Subscript Name Name Constant ref int") => `(tactic| k_extra "w8")
local macro_rules | `(tactic| walk_at "subscriptTail Subscript Name Name Constant ref int") => `(tactic| k_extra "w9")
local macro_rules | `(tactic| walk_at "subscriptTail Name Name ref int") => `(tactic| k_extra "w10")
local macro_rules | `(tactic| walk_at "binaryOp Mult int int") => `(tactic| k_extra "w11")
local macro_rules | `(tactic| walk_at "call ref") => `(tactic| k_extra "w12")
local macro_rules | `(tactic| walk_at "call builtin:len") => `(tactic| k_extra "w13")
local macro_rules | `(tactic| walk_at "binaryOp Pow int int") => `(tactic| k_extra "w14")
local macro_rules | `(tactic| walk_at "storeName str") => `(tactic| k_extra "w15")
local macro_rules | `(tactic| walk_at "subscriptTail Name Name str int") => `(tactic| k_extra "w16")
local macro_rules | `(tactic| walk_at "subscriptTail Name BinOp str int") => `(tactic| k_extra "w17")
local macro_rules | `(tactic| walk_at "eval Dict") => `(tactic| k_extra "w18")
local macro_rules | `(tactic| walk_at "eval DictComp") => `(tactic| k_extra "w19")
local macro_rules | `(tactic| walk_at "StarSrc2") => `(tactic| (intro htk8; (try dsimp only at htk8)))
local macro_rules | `(tactic| walk_at "StarSrc") => `(tactic| k_dflt ((k_extra "StarSrc")))
local macro_rules | `(tactic| walk_at "StarEnd") => `(tactic| k_dflt ((k_extra "StarEnd")))
local macro_rules | `(tactic| walk_at "DSrc") => `(tactic| k_dflt ((k_extra "DSrc")))
local macro_rules | `(tactic| walk_at "DEnd") => `(tactic| k_dflt ((k_extra "DEnd")))
local macro_rules | `(tactic| walk_at "binaryOp Add str str") => `(tactic| k_extra "w20")
local macro_rules | `(tactic| walk_at "call ref") => `(tactic| k_extra "w21")
local macro_rules | `(tactic| walk_at "call ref") => `(tactic| k_extra "w22")
local macro_rules | `(tactic| walk_at "call ref") => `(tactic| k_extra "w23")
local macro_rules | `(tactic| walk_at "call ref") => `(tactic| k_extra "w24")
local macro_rules | `(tactic| walk_at "subscriptTail Name Name str int") => `(tactic| k_extra "w25")
local macro_rules | `(tactic| walk_at "call builtin:ord") => `(tactic| k_extra "w26")
local macro_rules | `(tactic| walk_at "binaryOp Mult str int") => `(tactic| k_extra "w27")
local macro_rules | `(tactic| walk_at "CompSrc") => `(tactic| k_dflt ((k_extra "CompSrc")))
local macro_rules | `(tactic| walk_at "CompEnd") => `(tactic| k_extra "w28")
local macro_rules | `(tactic| walk_at "KCtEl") => `(tactic| exact kct_el (by rfl) (by rfl) (by rfl))
local macro_rules | `(tactic| walk_at "call builtin:str.join") => `(tactic| k_extra "w29")
local macro_rules | `(tactic| walk_at "binaryOp Add str str") => `(tactic| k_extra "w30")
local macro_rules | `(tactic| walk_at "InvEndN") => `(tactic| k_dflt kst_close)
local macro_rules | `(tactic| walk_at "compareOp NotEq str str") => `(tactic| k_extra "w31")
local macro_rules | `(tactic| walk_at "PostE") => `(tactic| dsimp only [PostE])
local macro_rules | `(tactic| walk_at "EndE") => `(tactic| k_extra "w32")
local macro_rules | `(tactic| walk_at "pyIter ref") => `(tactic| k_dflt ((k_extra "pyIter ref")))
set_option maxRecDepth 100000 in
set_option maxHeartbeats 0 in
theorem PySem.Challenge.cw_ik0016_02_holds : PySem.Challenge.rw_ik0016_02.Holds := by
  exact hd2 (by
  k_with_none
  k_with "RestB pairs" => ((with_reducible rename IntsAre _ _ => hI9); refine' RestB.pairs7 hI9 ?zl ?zI ?zT ?za ?zb ?_ ?_; (case zI => with_reducible assumption); (case zl => omega); (case zT => omega); (case za => decide); (case zb => decide); (focus (intro k' t' u' vs' n' tups' h' tk' o' hoff' hlen' htk' ho' F' N')); rotate_left; (focus (intro u' vs' n' tups' as' bs' h' tk' hP' hl' htk' F' N'; have hlen' : vs'.length ≤ 100 := (by omega); have hlen6 : vs'.length ≤ 6 := (by omega))); rotate_left)
  k_with "EndQ" => (refine' EndQ.intro ?zF ?zN ?z1 ?z2 ?z3 ?z4 ?za ?zb ?ze ?zf; (case zF => k_asm); (case zN => k_asm); (case z2 => k_mem); (case z3 => k_mem); (case z1 => k_mem); (case z4 => ((try dsimp only); intro p hp; repeat (first | exact hp | refine List.mem_cons_of_mem _ ?_))); (case za => exact f16 _); (case zb => exact f16 _); (case ze => (show @Ne Nat _ _; omega)); (case zf => (show @Ne Nat _ _; omega)))
  k_with "RestB ends" => (refine' RestB.ends ?zcl ?zcu ?zI ?zmk ?zm1 ?zm2 ?zmD ?zml ?zmu ?zd1 ?zd2 ?zhs ?zht ?zz0 ?zz ?zb1 ?zb2 ?zl1 ?zl2 ?_ ?_; (case zcl => rfl); (case zcu => rfl); (case zhs => rfl); (case zht => rfl); (case zI => with_reducible assumption); (case zmk => k_mem); (case zm1 => k_mem); (case zm2 => k_mem); (case zmD => k_mem); (case zml => k_mem); (case zmu => k_mem); (case zd1 => with_reducible assumption); (case zd2 => with_reducible assumption); (case zz0 => exact sz_lo _ _); (case zz => exact sz_hi (figA_bd (by assumption) (by assumption)) (figB_bd (by assumption) (by assumption))); (case zb1 => exact ⟨sz_n (figA_bd (by assumption) (by assumption)), sz_m (figB_bd (by assumption) (by assumption))⟩); (case zb2 => exact ⟨sz_m (figB_bd (by assumption) (by assumption)), sz_n (figA_bd (by assumption) (by assumption))⟩); (case zl1 => exact ⟨by omega, by omega⟩); (case zl2 => exact ⟨by omega, by omega⟩); (focus (intro z' tz' hz0' hz6' T' x' y' t' u' hlt' hB' uM' a' b' xa' xb' h' tk' o' da' db' htk' ho' F' N'; (try dsimp only at N'))); rotate_left; (focus (intro u' h' tk' a' b' htk' F' N'; (try dsimp only at N'))); rotate_left)
  k_with "CompSrc" => ((with_reducible rename BZ _ _ _ => hB9); k_dflt (refine LCg.CompSrc.range (by rfl) (by k_asm) (by k_asm) (by assumption) (by first | decide | exact small_one (by l_bnd) (by l_bnd) (by l_bnd) (by l_bnd)) (by first | exact rangeSize_nat _ _ | rfl) (by first | exact Nat.le_of_ble_eq_true rfl | (rw [PySem.sizeLine_eq]; omega)) ?_; intro g'; (refine' kct_range (elOf hB9) (fun k' t' I' oI' C' oC' D' m' ys' h' tk' E' hlo' hhi' hC' hx' F' N' off' ne' hM' => ?_) ?_); kcf_last))
  k_with "pyIter ref" => (k_of "call" => k_state_given ["one", "two", "size"] (fun one two size pre text => text = afterS one two size pre.length) "text")
  k_with "state" => with_reducible first | exact pq_s0 _ _ _ | exact pq_s1 (by assumption) (by assumption) (by assumption) (by assumption)
  k_with "DSrc" => ((refine DSrc.intro kf2 vf2 (by rfl) (by k_asm) (by k_asm) (by assumption) (by decide) (by rfl) (by decide) (TopRead.nolimit (by k_asm)) keys_nodup2 ?_ ?_); (focus (intro i9 hi9; unfold DTurn; have hj0 : 1 ≤ 15 + (i9 : Int) * (-1) := (by omega); have hj1 : 15 + (i9 : Int) * (-1) ≤ 15 := (by omega); generalize 15 + (i9 : Int) * (-1) = j9 at hj0 hj1 ⊢; intro t' I' oI' C' oC' D' oD' m' h' tk' E' htk' hC' hx' F' N'; (try k_fold))); rotate_left; (focus (intro D' h' tk' P' F' N' l1 lo' hPs' hPo'; (try k_lt l1); (try dsimp only); (try k_fold))); rotate_left)
  k_with "DEnd" => exact ⟨_, _, _, _, rfl, rfl, rfl, entok3 (by omega) (by omega) (by omega) (by omega), by assumption, by assumption⟩
  k_with "StarSrc" => ((refine' StarSrc.intro ?k1 ?k2 ?k3 ?k4 ?k5 ?k6 ?k7 ?_); (case k3 => (k_asm)); (case k4 => (with_reducible rename News _ _ _ _ => N8); exact news_swap N8); (case k2 => (k_mem)); (case k1 => (assumption)); (case k5 => (k_all)); (case k6 => (exact tab_nd (by assumption))); (case k7 => ((rw [tab_ln (by assumption)]; decide))); intro D2' h2' tk2' htk2' F' N' l1 l2'; (try k_lt l1); (try dsimp only at htk2'); (try dsimp only); (try k_fold))
  k_with "StarEnd" => ((refine' StarEnd.last ?k1 ?k2 ?k3 ?k4 ?k7 ?k8 ?_); (case k1 => (assumption)); (case k7 => (k_asm)); (case k8 => (k_asm)); (case k2 => (assumption)); (case k3 => (omega)); (case k4 => (omega)); intro h6' tk6' P6' hT6 hE6 F' N'; (try dsimp only); (try k_fold))
  k_with "w1" => ((k_here; (with_reducible rename Fr _ _ _ _ => lF'); (with_unfolding_all refine' For_listC2 ?_ (m := _) (F := ?zF)); (case zF => first | with_reducible exact lF' | exact lF' | with_unfolding_all exact lF'); k_whole))
  k_with "w2" => ((k_here; (with_reducible rename Fr _ _ _ _ => lF'); (with_unfolding_all refine' For_listC2 ?_ (m := _) (F := ?zF)); (case zF => first | with_reducible exact lF' | exact lF' | with_unfolding_all exact lF'); k_whole))
  k_with "w3" => ((k_dflt (refine' ListAtB.intro ?k1 ?k2 ?k3 ?k4 ?k5 ?k6 ?k7 ?_; (case k2 => k_asm); (case k3 => k_asm); (case k4 => k_mem); (case k1 => exact rfl); (case k5 => exact rfl); (case k6 => exact rfl); (case k7 => first | omega | (dsimp only; omega))); intro i' l1; have hI' := l1; (try k_lt l1)))
  k_with "w4" => ((k_here; (refine' gen_toks ?k1 ?_); (case k1 => first | omega | (dsimp only; omega)); intro tk9 htk9; refine wpAny_execs_cons ?_))
  k_with "w5" => (k_dflt (first | k_extra "RestB pairs" | (k_extra "RestB ends")))
  k_with "w6" => ((k_here; (with_reducible show wpAny _ _ (call (Value.builtin _) [Value.ref _, _]) _ _ _); k_dflt (refine' append_K ?k1 ?k2 ?k3 ?_ ?z; (case k1 => k_asm); (case k2 => k_asm); (case k3 => k_upd); (case z => (rw [List.size_toArray, PySem.sizeLine_eq]; omega)); k_whole); intro h' F' N'; (try k_sweep)))
  k_with "w7" => ((k_here; (with_reducible show wpAny _ _ (call (Value.builtin "len") [Value.ref _]) _ _ _); k_dflt (refine' len_pairs ?k1 ?k2 ?k3 ?_; (case k1 => k_asm); (case k2 => k_mem); (case k3 => assumption)); intro _ _))
  k_with "w8" => ((k_here; (with_reducible show wpAny _ _ (subscriptTail _ _ (Value.ref _) (Value.int 0 _)) _ _ _); (with_reducible rename (_ ∈ _) => hT9); k_dflt (refine' tup_item0 hT9 ?k1 ?k2 ?_ ?k3; (case k1 => k_asm); (case k2 => (intro p hp; repeat (first | exact hp | refine List.mem_cons_of_mem _ ?_))); (case k3 => with_unfolding_all rfl))))
  k_with "w9" => ((k_here; (with_reducible show wpAny _ _ (subscriptTail _ _ (Value.ref _) (Value.int 1 _)) _ _ _); (with_reducible rename (_ ∈ _) => hT9); k_dflt (refine' tup_item1 hT9 ?k1 ?k2 ?_ ?k3; (case k1 => k_asm); (case k2 => (intro p hp; repeat (first | exact hp | refine List.mem_cons_of_mem _ ?_))); (case k3 => with_unfolding_all rfl))))
  k_with "w10" => ((k_here; (with_reducible show wpAny _ _ (subscriptTail _ _ (Value.ref _) (Value.int _ _)) _ _ _); (with_reducible rename PairsOk _ _ _ _ => hP9); k_dflt (refine' pair_item hP9 ?k1 ?k2 ?k4 ?k5 ?k6 ?_ ?k3; (case k1 => k_asm); (case k2 => k_mem); (case k3 => with_unfolding_all rfl); (case k4 => first | with_reducible assumption | omega); (case k5 => first | with_reducible assumption | omega); (case k6 => with_reducible assumption)); intro T' t' u' hT'))
  k_with "w11" => ((k_here; (with_reducible rename PairsOk _ _ _ _ => hP9); k_dflt (refine mul_int ?_ ?zm; (case zm => first | exact mul16_ok (hP9.a16 _) | exact mul16_ok (hP9.b16 _)))))
  k_with "w12" => ((k_here; k_dflt (refine' ct_use2 (ct2_ap _ _ _ ?h1 ?h2) ?k1 ?k2 ?k3 ?k4 ?k5 ?kK ?kd ?ku ?_; (case h1 => with_reducible first | exact figA_lo (by assumption) (by assumption) | exact figB_lo (by assumption) (by assumption)); (case h2 => with_reducible first | exact figA_hi (by assumption) (by assumption) | exact figB_hi (by assumption) (by assumption)); (case k1 => k_asm); (case k2 => k_asm); (case k3 => k_asm); (case k4 => k_asm); (case k5 => k_asm); (case kK => first | exact rfl | assumption); (case kd => ktr_room); (case ku => ktr_units)); intro t9 h9 tk9 hle9 F9 N9; (try dsimp only at hle9); (try dsimp only); (try k_fold)))
  k_with "w13" => ((k_here; (with_reducible show wpAny _ _ (call (Value.builtin "len") [Value.bytes _ _]) _ _ _); k_dflt (refine lenB ?zl ?_; (case zl => with_reducible first | exact Nat.le_trans (ap_len10 (figA_lo (by assumption) (by assumption)) (figA_hi (by assumption) (by assumption))) (by decide) | exact Nat.le_trans (ap_len10 (figB_lo (by assumption) (by assumption)) (figB_hi (by assumption) (by assumption))) (by decide))); intro _ _))
  k_with "w14" => ((k_here; (with_reducible refine pow_int_small ?kb1 ?kb2 ?kb3 ?_); (case kb1 => first | with_reducible assumption | omega); (case kb2 => omega); (case kb3 => decide)))
  k_with "w15" => ((k_here; (with_reducible rename PairsOk _ _ _ _ => hP9); (with_reducible rename News _ _ _ _ => N8); (k_dflt (replace N8 := drop8 hP9 N8))))
  k_with "w16" => ((k_here; k_dflt (refine KXi.item (n := 16) ?za ?zb ?zc ?zd ?_; (case za => decide +kernel); (case zb => omega); (case zc => omega); (case zd => decide)); intro kxiE))
  k_with "w17" => ((k_here; k_dflt (refine KXi.item (n := 16) ?za ?zb ?zc ?zd ?_; (case za => decide +kernel); (case zb => omega); (case zc => omega); (case zd => decide)); intro kxiE))
  k_with "w18" => ((k_here; k_dflt (refine Dict_star2 ?zt (by k_asm) (by k_asm) (TopRead.nolimit (by k_asm)) ?_; (case zt => first | omega | (dsimp only; omega))); intro D' h' F' N' l1 lo'; (try k_lt l1)))
  k_with "w19" => ((k_here; k_dflt (refine DictComp_T (F₀ := by k_asm) (by with_unfolding_all rfl) (by decide) (by rfl) (by decide) (by rfl) ?_)))
  k_with "w20" => ((k_here; k_dflt (refine addT ?z1 ?z2 ?z3 ?_; (case z1 => exact Nat.le_of_eq (kfL_len ⟨by omega, by omega⟩).symm); (case z2 => decide +kernel); (case z3 => exact Nat.le_trans (Nat.add_le_add (Nat.le_of_eq (kfL_len ⟨by omega, by omega⟩)) (show (Str.ofString "<").length ≤ 1 from by decide +kernel)) (by decide)))))
  k_with "w21" => ((k_here; (with_reducible rename BZ _ _ _ => hB9); k_dflt (refine' ct_use2 (ct2_word _ _ _ _ _ ?h1 ?h2 ?h3 ?h4) ?k1 ?k2 ?k3 ?k4 ?k5 ?kK ?kd ?ku ?_; (case h1 => with_reducible first | exact bz_o1 hB9 | exact bz_n1 hB9 | exact bz_c1 hB9 | exact bz_a1 hB9 | exact bz_b1 hB9); (case h2 => with_reducible first | exact bz_o2 hB9 | exact bz_n2 hB9 | exact bz_c2 hB9 | exact bz_a2 hB9 | exact bz_b2 hB9); (case h3 => exact hB9.lo); (case h4 => exact Int.le_trans hB9.hi (by decide)); (case k1 => k_asm); (case k2 => k_asm); (case k3 => k_asm); (case k4 => k_asm); (case k5 => k_asm); (case kK => first | exact rfl | assumption); (case kd => ktr_room); (case ku => ktr_units)); intro t9 h9 tk9 hle9 F9 N9; (try dsimp only at hle9); (try dsimp only); (try k_fold)))
  k_with "w22" => ((k_here; (with_reducible rename BZ _ _ _ => hB9); k_dflt (refine' ct_use2 (ct2_esc0 _ _ _ ?h1 ?h2 ?h3) ?k1 ?k2 ?k3 ?k4 ?k5 ?kK ?kd ?ku ?_; (case h1 => with_reducible exact pq_e0 hB9 (by assumption)); (case h2 => with_reducible exact pq_e1 hB9 (by assumption)); (case h3 => with_reducible exact pq_e2 hB9 (by assumption)); (case k1 => k_asm); (case k2 => k_asm); (case k3 => k_asm); (case k4 => k_asm); (case k5 => k_asm); (case kK => first | exact rfl | assumption); (case kd => ktr_room); (case ku => ktr_units)); intro t9 h9 tk9 hle9 F9 N9; (try dsimp only at hle9); (try dsimp only); (try k_fold)))
  k_with "w23" => ((k_here; (with_reducible rename BZ _ _ _ => hB9); k_dflt (refine' ct_use2 (ct2_une _ _ _ _ _ _ ?h1 ?h2 ?h3 ?h4 ?h5 ?h6 ?h7 ?h8 ?h9 ?hz) ?k1 ?k2 ?k3 ?k4 ?k5 ?kK ?kd ?ku ?_; (case k1 => k_asm); (case k2 => k_asm); (case k3 => k_asm); (case k4 => k_asm); (case k5 => k_asm); (case kK => first | exact rfl | assumption); (case kd => ktr_room); (case ku => ktr_units); (case h1 => k_mem); (case h2 => with_reducible assumption); (case h3 => with_reducible exact TabIs.nd (by assumption)); (case h4 => with_reducible assumption); (case h5 => (rw [TabIs.ln (by with_reducible assumption)]; decide)); (case h6 => (rw [TabIs.ln (by with_reducible assumption)]; decide)); (case h7 => with_reducible exact pq_u0 hB9 (by assumption)); (case h8 => with_reducible exact pq_u1 hB9 (by assumption)); (case h9 => with_reducible exact pq_u2 hB9 (by assumption) (by assumption)); (case hz => with_reducible exact pq_u3 hB9 (by assumption) (by assumption))); intro t9 h9 tk9 hle9 F9 N9; (try dsimp only at hle9); (try dsimp only); (try k_fold)))
  k_with "w24" => ((k_here; (with_reducible rename BZ _ _ _ => hB9); k_dflt (refine' ct_use2 (ct2_due _ _ _ _ _ _ _ _ _ ?h1 ?h2 ?h3 ?h4 ?h5 ?h6 ?h7 ?h8) ?k1 ?k2 ?k3 ?k4 ?k5 ?kK ?kd ?ku ?_; (case h1 => with_reducible exact bz_o0 hB9); (case h2 => with_reducible exact bz_o2 hB9); (case h3 => with_reducible exact bz_t0 hB9); (case h4 => with_reducible exact bz_t2 hB9); (case h5 => exact hB9.lo); (case h6 => exact Int.le_trans hB9.hi (by decide)); (case h7 => omega); (case h8 => (have h9 := hB9.hi; omega)); (case k1 => k_asm); (case k2 => k_asm); (case k3 => k_asm); (case k4 => k_asm); (case k5 => k_asm); (case kK => first | exact rfl | assumption); (case kd => ktr_room); (case ku => ktr_units)); intro t9 h9 tk9 hle9 F9 N9; (try dsimp only at hle9); (try dsimp only); (try k_fold)))
  k_with "w25" => ((k_here; (with_reducible rename BZ _ _ _ => hB9); (with_reducible show wpAny _ _ (subscriptTail _ _ (Value.str (wordS _ _) _) _) _ _ _); k_dflt (refine KXi.item (n := ?zn) ?za ?zb ?zc ?zd ?_; (case za => with_reducible first | exact ws_len hB9 | exact ws_lenN hB9); (case zb => omega); (case zc => omega); (case zd => (have h9 := hB9.hi; omega))); intro kxiE))
  k_with "w26" => ((k_here; k_dflt (refine ordT ?za ?_; (case za => with_reducible assumption)); intro _ _))
  k_with "w27" => ((k_here; k_dflt (refine SB.mul ?za ?_; (case za => with_reducible exact ws_ord _ _ _)); intro _ _))
  k_with "w28" => (((with_reducible rename BZ _ _ _ => hB9); (refine LCg.CompEnd.intro (by assumption) (by assumption) _ (fun p hp => hp) (by assumption) True.intro ?_)))
  k_with "w29" => (((with_reducible rename BZ _ _ _ => hB9); (with_reducible rename CarriedAll _ (List.map _ _) => ktC); (refine join_list (by first | assumption | is_list | exact News.isList (by k_asm) (by k_mem)) (CarriedAll.strsOf ktC) (el_fits hB9) ?_); intro _ _))
  k_with "w30" => ((k_here; (with_reducible rename BZ _ _ _ => hB9); k_dflt (refine SB.add ?_ ?kz; rotate_left; (case kz => with_reducible first | exact el_sz _ _ _ _ | exact init_sz hB9 | exact wd_sz2 hB9.hi (bz_c1 hB9) (bz_c2 hB9) | exact wd_sz1 hB9.hi (bz_a1 hB9) (bz_a2 hB9) | exact wd_sz1 hB9.hi (bz_b1 hB9) (bz_b2 hB9)); intro _ _)))
  k_with "w31" => ((k_here; (with_reducible rename BZ _ _ _ => hB9); k_dflt (refine ne_same ?k1 ?_; (case k1 => with_reducible first | exact pq_step hB9 (by assumption) (by assumption) (by assumption) | exact pq_end1 hB9 (by assumption) (by assumption) | exact pq_end2 hB9 (by assumption) (by assumption) | exact pq_end3 hB9 (by assumption) (by assumption)))))
  k_with "w32" => (k_dflt (refine' EndE.intro ?zF ?zN ?za ?zb ?zda ?zdb ?zsub ?zh1 ?zh2; (case zF => k_asm); (case zN => k_asm); (case za => k_mem); (case zb => k_mem); (case zda => with_reducible assumption); (case zdb => with_reducible assumption); (case zsub => ((try dsimp only); k_subL)); (case zh1 => rfl); (case zh2 => rfl)))
  w_strict (k_go0; (all_goals try k_fold); k_steps))
