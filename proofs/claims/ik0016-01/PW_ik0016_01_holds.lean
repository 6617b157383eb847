import PyProof.Rows.All
import Wide.All
import OpenK.AllK
import Wide.FinOn
import PySem.Challenge.RW_ik0016_01
set_option Elab.async false
section
open PySem PySem.W PyProof.Rows
set_option maxRecDepth 100000
set_option maxHeartbeats 8000000
namespace Mine
open_top hd1 for PySem.Challenge.rw_ik0016_01
end Mine
end
section
open PySem PySem.W PyProof.Rows
namespace Mine

abbrev Ct (prog : Program) (w : World) (K : Frag) (p : Program) (loose : List Str) (mean : ExcName → Option Value) (mg mb : Str → Option Value) (k : Nat) (f : Addr) (news : List (Addr × Obj)) (vs : List Value) (R : Tok → Value) : Prop :=
  ∀ (dp un : Nat) (gd : Option (List Code)) (cn : Str) (cs : Scope) (a : Addr) (ccd : Value) (cl : List (Str × Addr)) (outer : List Env) (A₀ : Around) (base h₀ : Heap) (L : Addr) (m : Str → Option Value) (s : Shared) (Q E : Value → Shared → Prop),
    Below A₀ base outer h₀ → Fr h₀ L s.heap m → K.In h₀ → News h₀ L s.heap news → Top p loose mean mg mb h₀ → cs.kind = .function →
    dp + k < recursionLimit → un + 16 * k < cLine → CbRet h₀ L m news s Q R →
      wpAny (model prog w) (ktrTop dp un gd cn cs L a ccd cl outer) (call (.ref f) vs) Q E s

theorem ct_use {prog : Program} {w : World} {K : Frag} {p : Program} {loose : List Str} {mean : ExcName → Option Value} {mg mb : Str → Option Value} {k : Nat} {f : Addr} {news : List (Addr × Obj)} {vs : List Value} {R : Tok → Value} (C : Ct prog w K p loose mean mg mb k f news vs R)
    {dp un : Nat} {gd : Option (List Code)} {cn : Str} {cs : Scope} {a : Addr} {ccd : Value} {cl : List (Str × Addr)} {outer : List Env} {A₀ : Around} {base h₀ : Heap} {L : Addr} {m : Str → Option Value} {s : Shared} {Q E : Value → Shared → Prop}
    (B : Below A₀ base outer h₀) (F : Fr h₀ L s.heap m) (X : K.In h₀) (N : News h₀ L s.heap news) (T : Top p loose mean mg mb h₀) (hk : cs.kind = .function) (hd : dp + k < recursionLimit) (hu : un + 16 * k < cLine) (ret : CbRet h₀ L m news s Q R) :
    wpAny (model prog w) (ktrTop dp un gd cn cs L a ccd cl outer) (call (.ref f) vs) Q E s := C _ _ _ _ _ _ _ _ _ _ _ _ _ _ _ _ _ B F X N T hk hd hu ret

/-- the words of Int2AP -/
def ap (n : Nat) : List UInt8 := if h : n = 0 then [] else ap (n / 16) ++ [UInt8.ofNat (65 + n % 16)]
termination_by n
decreasing_by omega

theorem ap_zero : ap 0 = [] := by rw [ap]; simp
theorem ap_pos {n : Nat} (h : n ≠ 0) : ap n = ap (n / 16) ++ [UInt8.ofNat (65 + n % 16)] := by
  rw [ap]; simp [h]

theorem ap_start (n : Int) (u : Int) (hu : u = if n < 0 then -n else n) : 0 ≤ u ∧ ap u.toNat ++ (#[] : Array UInt8).toList = ap n.natAbs := by
  have e : u = (n.natAbs : Int) := by rw [hu]; split <;> omega
  subst e
  refine ⟨by omega, ?_⟩
  simp

theorem ap_turn {x : Int} {v : Array UInt8} {W : List UInt8} (h0 : 0 ≤ x) (h1 : ap x.toNat ++ v.toList = W) (h2 : x ≠ 0) :
    0 ≤ x.fdiv 16 ∧ ap (x.fdiv 16).toNat ++ (#[UInt8.ofNat (65 + (x.fmod 16).toNat)] ++ v).toList = W := by
  have e1 : x.fdiv 16 = x / 16 := Int.fdiv_eq_ediv_of_nonneg _ (by decide)
  have e2 : x.fmod 16 = x % 16 := Int.fmod_eq_emod_of_nonneg _ (by decide)
  rw [e1, e2]
  refine ⟨by omega, ?_⟩
  rw [ap_pos (n := x.toNat) (by omega)] at h1
  have e3 : (x / 16).toNat = x.toNat / 16 := by omega
  have e4 : (x % 16).toNat = x.toNat % 16 := by omega
  rw [e3, e4, ← h1]
  simp

theorem ap_len {n : Nat} : ∀ k, n < 16 ^ k → (ap n).length ≤ k := by
  intro k
  induction k generalizing n with
  | zero => intro h; have : n = 0 := by simpa using h
            subst this; simp [ap_zero]
  | succ k ih =>
    intro h
    by_cases h0 : n = 0
    · subst h0; simp [ap_zero]
    · rw [ap_pos h0, List.length_append]
      have := ih (n := n / 16) (by rw [Nat.pow_succ] at h; omega)
      simp only [List.length_cons, List.length_nil]; omega

theorem ap_less {x : Int} (h0 : 0 ≤ x) (h2 : x ≠ 0) : (x.fdiv 16).toNat < x.toNat := by
  have e1 : x.fdiv 16 = x / 16 := Int.fdiv_eq_ediv_of_nonneg _ (by decide)
  rw [e1]; omega

theorem ap_size {x : Int} {v : Array UInt8} {W : List UInt8} (h1 : ap x.toNat ++ v.toList = W) (hW : W.length ≤ 1000) : v.size ≤ 1000 := by
  have := congrArg List.length h1
  rw [List.length_append] at this
  have e : v.toList.length = v.size := Array.length_toList
  omega

theorem ap_fits {x : Int} {v : Array UInt8} {W : List UInt8} {b : UInt8} (h1 : ap x.toNat ++ v.toList = W) (hW : W.length ≤ 1000) : (#[b] : Array UInt8).size + v.size ≤ 16777216 := by
  have := ap_size h1 hW
  have e : (#[b] : Array UInt8).size = 1 := rfl
  omega

theorem ap_end {x : Int} {v : Array UInt8} {W : List UInt8} (h0 : x = 0) (h1 : ap x.toNat ++ v.toList = W) : v = W.toArray := by
  subst h0
  rw [Int.toNat_zero, ap_zero, List.nil_append] at h1
  rw [← h1]

theorem cb_retBy {h₀ h' : Heap} {L : Addr} {m : Str → Option Value} {news : List (Addr × Obj)} {s : Shared} {Q : Value → Shared → Prop} {t : Tok} {tk' : Nat} {x y : Array UInt8} (hret : ∀ (t : Tok) (h' : Heap) (tk' : Nat), Fr h₀ L h' m → News h₀ L h' news → Q (.bytes x t) { s with heap := h', toks := tk' }) (e : y = x) (F : Fr h₀ L h' m) (N : News h₀ L h' news) : Q (.bytes y t) { s with heap := h', toks := tk' } := by
  subst e
  exact hret t h' tk' F N

theorem fmod16 (x : Int) : 0 ≤ x.fmod 16 ∧ x.fmod 16 < 16 := by
  have e2 : x.fmod 16 = x % 16 := Int.fmod_eq_emod_of_nonneg _ (by decide)
  rw [e2]; omega

theorem ap_picked (m : Int) (h0 : 0 ≤ m) (h1 : m < 16) : KBy.picked #[65, 66, 67, 68, 69, 70, 71, 72, 73, 74, 75, 76, 77, 78, 79, 80] (some m) (some (m + 1)) = #[UInt8.ofNat (65 + m.toNat)] := by
  have : m = 0 ∨ m = 1 ∨ m = 2 ∨ m = 3 ∨ m = 4 ∨ m = 5 ∨ m = 6 ∨ m = 7 ∨ m = 8 ∨ m = 9 ∨ m = 10 ∨ m = 11 ∨ m = 12 ∨ m = 13 ∨ m = 14 ∨ m = 15 := by omega
  rcases this with h | h | h | h | h | h | h | h | h | h | h | h | h | h | h | h <;> subst h <;> decide +kernel

section
variable {prog : Program} {w : World} {A : Around} {E : Value → Shared → Prop} {s : Shared} {value slice : PySem.Expr} {t t1 t2 : Tok} {h₀ : Heap} {L : Addr} {m : PySem.Str → Option Value} {news : List (Addr × Obj)} {x : Int} {Q : Value → Shared → Prop}
theorem slice_ap (hF : Fr h₀ L s.heap m) (hN : News h₀ L s.heap news)
    (h : ∀ h' t' k, Fr h₀ L h' m → News h₀ L h' news → Q (.bytes #[UInt8.ofNat (65 + (x.fmod 16).toNat)] t') { s with heap := h', toks := k })
    (hs : subscripted slice false (.bytes #[65, 66, 67, 68, 69, 70, 71, 72, 73, 74, 75, 76, 77, 78, 79, 80] t) (.ref s.heap.objs.size) = operate [.ref s.heap.objs.size, .bytes #[65, 66, 67, 68, 69, 70, 71, 72, 73, 74, 75, 76, 77, 78, 79, 80] t] (getItem (.bytes #[65, 66, 67, 68, 69, 70, 71, 72, 73, 74, 75, 76, 77, 78, 79, 80] t) (.ref s.heap.objs.size)))
    (ht : ∀ r, letTemporaryGo value (.bytes #[65, 66, 67, 68, 69, 70, 71, 72, 73, 74, 75, 76, 77, 78, 79, 80] t) r = pure ()) :
    wpAny (model prog w) A (subscriptTail value slice (.bytes #[65, 66, 67, 68, 69, 70, 71, 72, 73, 74, 75, 76, 77, 78, 79, 80] t) (.ref s.heap.objs.size)) Q E { s with heap := s.heap.push { cls := .type "slice", data := .fields #[.int (x.fmod 16) t1, .int (x.fmod 16 + 1) t2, .none] } } := by
  refine KBc.slice_K hF hN rfl (.int _ _) (.int _ _) (by rw [KBw.ints_length]; decide) ?_ hs ht
  intro h' t' k F' N' _
  rw [ap_picked _ (fmod16 x).1 (fmod16 x).2]
  exact h h' t' k F' N'
end


/-- the figures' sum -/
def ds (b n : Nat) : Nat := if n = 0 ∨ b < 2 then 0 else n % b + ds b (n / b)
termination_by n
decreasing_by
  rename_i h
  have h0 : n ≠ 0 := fun e => h (.inl e)
  have h1 : ¬ b < 2 := fun e => h (.inr e)
  exact Nat.div_lt_self (by omega) (by omega)

theorem ds_zero (b : Nat) : ds b 0 = 0 := by rw [ds]; simp
theorem ds_pos {b n : Nat} (hb : 2 ≤ b) (h : n ≠ 0) : ds b n = n % b + ds b (n / b) := by
  rw [ds]; simp [h]; omega
theorem ds_step {b n : Nat} (hb : 2 ≤ b) : ds b n = n % b + ds b (n / b) := by
  by_cases h : n = 0
  · subst h; simp [ds_zero]
  · exact ds_pos hb h
def dsI (b n : Int) : Int := (ds b.toNat n.toNat : Nat)
theorem dsI_step {b n : Int} (hb : 2 ≤ b) (hn : 0 ≤ n) : dsI b n = n.fmod b + dsI b (n.fdiv b) := by
  have e1 : n.fdiv b = n / b := Int.fdiv_eq_ediv_of_nonneg _ (by omega)
  have e2 : n.fmod b = n % b := Int.fmod_eq_emod_of_nonneg _ (by omega)
  rw [e1, e2]
  unfold dsI
  obtain ⟨b', rfl⟩ := Int.eq_ofNat_of_zero_le (show 0 ≤ b by omega)
  obtain ⟨n', rfl⟩ := Int.eq_ofNat_of_zero_le hn
  have h := ds_step (b := b') (n := n') (by omega)
  have e3 : ((n' : Int) / (b' : Int)).toNat = n' / b' := by rw [← Int.natCast_ediv]; rfl
  have e4 : ((n' : Int) % (b' : Int)) = ((n' % b' : Nat) : Int) := by rw [Int.natCast_emod]
  rw [e3, e4]
  simp only [Int.toNat_natCast]
  omega
theorem dsI_zero (b : Int) : dsI b 0 = 0 := by unfold dsI; simp [ds_zero]
theorem fdiv_facts {b n : Int} (hb : 2 ≤ b) (hn : 0 ≤ n) : 0 ≤ n.fdiv b ∧ (n ≠ 0 → (n.fdiv b).toNat < n.toNat) := by
  have e1 : n.fdiv b = n / b := Int.fdiv_eq_ediv_of_nonneg _ (by omega)
  rw [e1]
  have h0 : 0 ≤ n / b := Int.ediv_nonneg hn (by omega)
  refine ⟨h0, fun h => ?_⟩
  have : n / b < n := by
    apply Int.ediv_lt_of_lt_mul (by omega)
    have : n * 2 ≤ n * b := Int.mul_le_mul_of_nonneg_left hb hn
    omega
  omega
theorem added_turn {b n c t : Int} (hb : 2 ≤ b) (h : 0 ≤ c ∧ c ≤ n ∧ t + dsI b c = dsI b n) : 0 ≤ c.fdiv b ∧ c.fdiv b ≤ n ∧ (t + c.fmod b) + dsI b (c.fdiv b) = dsI b n := by
  have e := fdiv_facts hb h.1
  refine ⟨e.1, ?_, ?_⟩
  · by_cases h0 : c = 0
    · subst h0
      have : (0 : Int).fdiv b = 0 := by simp
      omega
    · have := e.2 h0; omega
  have := dsI_step hb h.1
  omega
theorem added_end {b n c t : Int} (h : 0 ≤ c ∧ c ≤ n ∧ t + dsI b c = dsI b n) (h0 : c = 0) : t = dsI b n := by
  subst h0
  have := dsI_zero b
  omega

theorem left_start {b n : Int} (hb : 2 ≤ b) (hn : 0 ≤ n) : 0 ≤ n.fdiv b ∧ n.fdiv b ≤ n ∧ n + dsI b (n.fdiv b) = dsI b n + b * n.fdiv b := by
  have e := fdiv_facts hb hn
  have h := dsI_step hb hn
  have e3 : b * n.fdiv b + n.fmod b = n := Int.mul_fdiv_add_fmod n b
  refine ⟨e.1, ?_, by omega⟩
  by_cases h0 : n = 0
  · subst h0
    have : (0 : Int).fdiv b = 0 := by simp
    omega
  · have := e.2 h0; omega
theorem left_turn {b n q l : Int} (hb : 2 ≤ b) (h : 0 ≤ q ∧ q ≤ n ∧ l + dsI b q = dsI b n + b * q) : 0 ≤ q.fdiv b ∧ q.fdiv b ≤ n ∧ (l - (b - 1) * q) + dsI b (q.fdiv b) = dsI b n + b * q.fdiv b := by
  have h1 := left_start hb h.1
  refine ⟨h1.1, by omega, ?_⟩
  have h2 := h1.2.2
  have e : (b - 1) * q = b * q - q := by rw [Int.sub_mul, Int.one_mul]
  omega
theorem left_end {b n q l : Int} (h : 0 ≤ q ∧ q ≤ n ∧ l + dsI b q = dsI b n + b * q) (h0 : q = 0) : l = dsI b n := by
  subst h0
  have := dsI_zero b
  have e : b * (0 : Int) = 0 := Int.mul_zero b
  omega

end Mine
end
section
open PySem PySem.W PySem.Calls PyProof.Rows PyProof.V PySem.Spec
set_option maxRecDepth 100000
namespace Mine

/-- one entry of a dict of texts, its tokens told -/
structure Ent where
  k : Str
  tk : Tok
  v : Str
  tv : Tok

def Ent.at (w : World) (p : Ent) : DictEntry := ⟨hashStr w p.k, .str p.k p.tk, .str p.v p.tv⟩
def Ent.kv (p : Ent) : Str × Value := (p.k, .str p.v p.tv)
abbrev entObj (w : World) (P : List Ent) (n : Nat) : Obj := { cls := .type "dict", data := .dict (P.map (Ent.at w)).toArray n }

section
variable {prog : Program} {w : World} {A : Around} {E : Value → Shared → Prop} {s : Shared}

theorem ent_keys (P : List Ent) : KeysOf (strKind prog w) (P.map (Ent.at w)).toArray := by
  intro e he
  simp only [List.mem_toArray, List.mem_map] at he
  obtain ⟨p, _, rfl⟩ := he
  exact ⟨p.k, strKind_is prog w _ _, rfl⟩

theorem ent_pairs : ∀ P : List Ent, Pairs (strKind prog w) (P.map (Ent.at w)) (P.map Ent.kv)
  | [] => .nil
  | p :: P => .cons (e := p.at w) (kv := p.kv) (strKind_is prog w _ _) rfl (ent_pairs P)

theorem ent_dictAt {h : Heap} {d : Addr} {P : List Ent} {n : Nat} (hd : h.get? d = some (entObj w P n)) (hn : (P.map Ent.k).Nodup) : h.DictAt (strKind prog w) d (P.map Ent.kv) n :=
  ⟨_, _, hd, ⟨rfl, rfl, rfl⟩, rfl, ent_keys P, by rw [List.toList_toArray]; exact ent_pairs P, by rw [List.map_map]; exact hn⟩

/-- the next pair of a dict's items: its key's token is told -/
theorem next_ent {it d : Addr} {i ep : Nat} {P : List Ent} {p : Ent} {ok ov : Value} {Q : Option Value → Shared → Prop} (hit : IsItemIter s.heap it d i P.length ep ok ov)
    (hd : s.heap.get? d = some (entObj w P ep)) (hx : P[i]? = some p)
    (hQ : ∀ h', IsItemIterOut h' it d (i + 1) P.length ep (.str p.k p.tk) (.str p.v p.tv) s.heap.objs.size →
      h'.get? s.heap.objs.size = some { cls := .type "tuple", data := .seq #[.str p.k p.tk, .str p.v p.tv] } →
      (∀ b o, b ≠ it → s.heap.get? b = some o → h'.get? b = some o) → Q (some (.ref s.heap.objs.size)) { s with heap := h' }) :
    wpAny (model prog w) A (pyNext (.ref it)) Q E s := by
  obtain ⟨hp, g, dr, tk, os⟩ := s
  have hT : ∀ h₁ : Heap, (∃ o : Obj, h₁.get? it = some o ∧ o.cls = .type "dict_itemiterator") → Shared.TypeIs ⟨h₁, g, dr, tk, os⟩ (.ref it) "dict_itemiterator" := fun _ ⟨o, a, b⟩ => ⟨o, a, b⟩
  have hT0 := hT hp ⟨_, hit, rfl⟩
  have hil : it < hp.objs.size := Heap.lt_size hit
  have hlt : i < P.length := (List.getElem?_eq_some_iff.mp hx).1
  have hes : (P.map (Ent.at w)).toArray.size = P.length := by simp
  have hlt' : i < (P.map (Ent.at w)).toArray.size := by rw [hes]; exact hlt
  have hei : (P.map (Ent.at w)).toArray[i] = p.at w := by
    have e := (List.getElem?_eq_some_iff.mp hx).2
    simp [e]
  have hown : Builtin.Dict_items.ownsTuple "dict_itemiterator" = true := by decide
  unfold pyNext
  refine wpAny_bind (wpAny_attempt (wpAny_callSpecial?_slot (name := Str.ofString "__next__") hT0 F.slot_dict_itemiterator_next
    (wpAny_call_entry F.slot_dict_itemiterator_next hT0 F.entry_dict_itemiterator_next ?_ (F.args_dict_itemiterator_next_1 _))))
  refine wpAny_bind (wpAny_pure ?_)
  refine wpAny_bind ?_
  refine wpAny_bind ?_
  first | refine wpAny_bind (wpAny_typeNameOfWhole_itemiter hT0 (wpAny_pure ?_)) | refine wpAny_bind (wpAny_typeNameOf_itemiter hT0 (wpAny_pure ?_))
  refine wpAny_bind (wpAny_fieldsOf hit rfl ?_)
  simp only [hown, if_true]
  show wpAny _ _ (if (Value.ref d == Value.none) = true then _ else _) _ _ _
  rw [if_neg (show ¬ ((Value.ref d == Value.none) = true) from Bool.false_ne_true)]
  refine wpAny_bind (wpAny_pure ?_)
  refine wpAny_bind (wpAny_dictEntries hd rfl ?_)
  rw [if_neg (by rw [hes]; simp)]
  refine wpAny_bind (wpAny_pure ?_)
  refine wpAny_bind (wpAny_dictEpoch hd rfl ?_)
  rw [if_neg (by simp)]
  refine wpAny_pure ?_
  simp only [show ¬ ((i : Int) < 0) from by omega, if_false, Int.toNat_natCast, Array.getElem?_eq_getElem hlt', hei]
  refine wpAny_bind ?_
  first | refine wpAny_bind (wpAny_typeNameOfWhole_itemiter hT0 (wpAny_pure ?_)) | refine wpAny_bind (wpAny_typeNameOf_itemiter hT0 (wpAny_pure ?_))
  refine wpAny_bind (wpAny_isOneOf_itemiter hT0 ?_)
  show wpAny _ _ (setField (.ref it) 3 (rawInt ((i : Int) + 1)) >>= _) _ _ ⟨hp, g, dr, tk, os⟩
  refine wpAny_bind (wpAny_setField_rec hit (by simp) fun h₁ he₁ hs₁ => ?_)
  have hx₁ : IsItemIter h₁ it d (i + 1) P.length ep ok ov := by
    have e : ((i + 1 : Nat) : Int) = (i : Int) + 1 := by omega
    unfold IsItemIter; rw [e]; simpa [rawInt] using he₁
  have hb₁ : ∀ b o, b ≠ it → hp.get? b = some o → h₁.get? b = some o := fun b o hb e => Heap.SameBut.extBut hs₁ b o hb e
  have hz₁ : h₁.objs.size = hp.objs.size := hs₁.1
  clear he₁ hs₁
  have hT1 := hT h₁ ⟨_, hx₁, rfl⟩
  refine wpAny_bind (wpAny_holding ?_)
  refine wpAny_bind (wpAny_isOneOf_itemiter hT1 ?_)
  refine wpAny_bind (wpAny_isOneOf_itemiter hT1 ?_)
  show wpAny _ _ (Builtin.Dict_items.pairFromOwner (.ref it) 6 (.str p.k p.tk) (.str p.v p.tv)) _ _ ⟨h₁, g, dr, tk, os⟩
  unfold Builtin.Dict_items.pairFromOwner
  refine wpAny_bind (wpAny_newTuple ?_)
  have hx₂ : IsItemIter (h₁.push { cls := .type "tuple", data := .seq #[.str p.k p.tk, .str p.v p.tv] }) it d (i + 1) P.length ep ok ov := Heap.get?_push_of_some _ hx₁
  have ht₂ : (h₁.push { cls := .type "tuple", data := .seq #[.str p.k p.tk, .str p.v p.tv] }).get? hp.objs.size = some { cls := .type "tuple", data := .seq #[.str p.k p.tk, .str p.v p.tv] } := by rw [← hz₁]; exact Heap.get?_push_size _ rfl
  have hb₂ : ∀ b o, b ≠ it → hp.get? b = some o → (h₁.push { cls := .type "tuple", data := .seq #[.str p.k p.tk, .str p.v p.tv] }).get? b = some o := fun b o hb e => Heap.get?_push_of_some _ (hb₁ b o hb e)
  show wpAny _ _ (Builtin.Dict_items.ownedTupleIsFree (.ref it) >>= _) _ _ ⟨h₁.push { cls := .type "tuple", data := .seq #[.str p.k p.tk, .str p.v p.tv] }, g, dr, tk, os⟩
  rw [hz₁]
  generalize h₁.push { cls := .type "tuple", data := .seq #[.str p.k p.tk, .str p.v p.tv] } = h₂ at hx₂ ht₂ hb₂
  clear hx₁ hb₁ hT1 hz₁ h₁
  refine wpAny_bind ?_
  unfold Builtin.Dict_items.ownedTupleIsFree
  refine wpAny_bind (wpAny_field hx₂ rfl (x := .none) rfl (wpAny_pure ?_))
  simp only [if_true]
  refine wpAny_bind (wpAny_field hx₂ rfl (x := ok) rfl ?_)
  refine wpAny_bind (wpAny_field hx₂ rfl (x := ov) rfl ?_)
  refine wpAny_bind (wpAny_setField_rec hx₂ (by simp) fun h₃ he₃ hs₃ => ?_)
  have hx₃ : IsItemIter h₃ it d (i + 1) P.length ep (.str p.k p.tk) ov := he₃
  refine wpAny_bind (wpAny_setField_rec hx₃ (by simp) fun h₄ he₄ hs₄ => ?_)
  have hx₄ : IsItemIter h₄ it d (i + 1) P.length ep (.str p.k p.tk) (.str p.v p.tv) := he₄
  refine wpAny_bind (wpAny_setField_rec hx₄ (by simp) fun h₅ he₅ hs₅ => ?_)
  have hx₅ : IsItemIterOut h₅ it d (i + 1) P.length ep (.str p.k p.tk) (.str p.v p.tv) hp.objs.size := he₅
  refine wpAny_bind (wpAny_setField_rec hx₅ (by simp) fun h₆ he₆ hs₆ => ?_)
  have hx₆ : IsItemIterOut h₆ it d (i + 1) P.length ep (.str p.k p.tk) (.str p.v p.tv) hp.objs.size := he₆
  have hb : ∀ b o, b ≠ it → h₂.get? b = some o → h₆.get? b = some o := fun b o hb e =>
    Heap.SameBut.extBut hs₆ b o hb (Heap.SameBut.extBut hs₅ b o hb (Heap.SameBut.extBut hs₄ b o hb (Heap.SameBut.extBut hs₃ b o hb e)))
  exact wpAny_bind (wpAny_letGo (wpAny_pure (wpAny_pure ⟨_, rfl, wpAny_pure (hQ h₆ hx₆ (hb _ _ (Nat.ne_of_gt hil) ht₂) fun b o hne e => hb b o hne (hb₂ b o hne e))⟩)))

end
section
variable {prog : Program} {w : World} {A : Around} {E : Value → Shared → Prop} {s : Shared} {env : Env} {h₀ : Heap} {body : List Stmt} {Q : Flow → Shared → Prop}

theorem ent_get {P : List Ent} {i : Nat} {p : Ent} (h : P[i]? = some p) : (P.map Ent.kv)[i]? = some (p.k, .str p.v p.tv) := by
  rw [List.getElem?_map, h]; rfl

theorem ent_turns {elts : List Expr} {kk : Nat} {pos : Pos} (hh : A.handled = none) (I d : Addr) (hne : d ≠ I) (P : List Ent) (hn : (P.map Ent.k).Nodup) (ep : Nat) :
    KTurns prog w A (.Tuple elts kk pos) I [I, d] [I] P.length
      (fun i v h => ∃ T p, v = .ref T ∧ P[i]? = some p ∧ IsTup h T #[.str p.k p.tk, .str p.v p.tv])
      (fun i v h => ∃ T p, v = .ref T ∧ P[i]? = some p ∧ IsTup h T #[.str p.k p.tk, .str p.v p.tv] ∧ IsItemIterOut h I d (i + 1) P.length ep (.str p.k p.tk) (.str p.v p.tv) T ∧ h.get? d = some (entObj w P ep) ∧ T ≠ I)
      (fun i h => (∃ ok ov, IsItemIter h I d i P.length ep ok ov) ∧ h.get? d = some (entObj w P ep)) where
  sub := fun b hb => by simp at hb; simp [hb]
  frame := fun i h h' st hk => by
    obtain ⟨⟨ok, ov, he⟩, hm⟩ := st
    exact ⟨⟨ok, ov, hk I (by simp) _ he⟩, hk d (by simp) _ hm⟩
  item := fun i s Q E hi st hQ => by
    obtain ⟨⟨ok, ov, he⟩, hm⟩ := st
    have hx : P[i]? = some P[i] := List.getElem?_eq_getElem hi
    refine next_ent he hm hx fun h' ho hT hk => ?_
    exact hQ (.ref s.heap.objs.size) h' s.toks ⟨s.heap.objs.size, P[i], rfl, hx, ⟨_, hT, rfl, _, rfl⟩, ho, hk d _ hne hm, Nat.ne_of_gt (Heap.lt_size he)⟩ fun b o hb e => hk b o (fun h => hb (by simp [h])) e
  go := fun i v s Q E hm hQ => by
    obtain ⟨T, p, rfl, hx, hT, ho, hd, hTI⟩ := hm
    refine wpAny_letOwnedTupleGo_items ho fun h' he hs => ?_
    have keep : ∀ b o, b ≠ I → s.heap.get? b = some o → h'.get? b = some o := fun b o hb e => Heap.SameBut.extBut hs b o hb e
    have hT' : IsTup h' T #[.str p.k p.tk, .str p.v p.tv] := by
      obtain ⟨o, g, r⟩ := hT
      exact ⟨o, keep T o hTI g, r⟩
    exact hQ h' ⟨T, p, rfl, hx, hT'⟩ ⟨⟨_, _, he⟩, keep d _ hne hd⟩ fun b o hb e => keep b o (fun h => hb (by simp [h])) e
  done := fun s Q E st hQ => by
    obtain ⟨⟨ok, ov, he⟩, hm⟩ := st
    have hlen : (P.map Ent.kv).length = P.length := List.length_map _
    have he' : IsItemIter s.heap I d P.length (P.map Ent.kv).length ep ok ov := by rw [hlen]; exact he
    exact wpAny_pyNext_items_end (knd := strKind prog w) hh he' (ent_dictAt hm hn) (by rw [List.getElem?_map]; simp) fun h' hx => hQ h' s.toks fun b o hb e => hx b o (fun h => hb (by simp [h])) e

def entItm (p : Ent) : Itm := .pair (fun _ => .str p.k p.tk) (.str p.v p.tv)

theorem ent_items {elts : List Expr} {kk : Nat} {pos : Pos} {d vw : Addr} {P : List Ent} {ep : Nat} {m₀ : Str → Option Value} {news : List (Addr × Obj)}
    (hh : A.handled = none) (F : Fr h₀ env.locals s.heap m₀) (N : News h₀ env.locals s.heap news) (hvw : s.heap.IsItemsView vw d) (hm : (d, entObj w P ep) ∈ news) (hn : (P.map Ent.k).Nodup)
    (rest₀ : ∀ I : Addr, (∀ p ∈ news, p.1 < I) → ItemsRest prog w A E h₀ env (.Tuple elts kk pos) body Q s [(I, "dict_itemiterator")] [(d, entObj w P ep)] (P.map entItm) m₀ news) :
    wpAny (model prog w) A (pyIter (.ref vw)) (fun it s₂ => TurnsAt prog w A h₀ env (.Tuple elts kk pos) body Q E it s₂) E s := by
  have hax := N _ hm
  have hat := ent_dictAt (prog := prog) hax.1 hn
  have hlt := Heap.lt_size hax.1
  have hne : d ≠ s.heap.objs.size := Nat.ne_of_lt hlt
  have hlen : (P.map Ent.kv).length = P.length := List.length_map _
  refine wpAny_pyIter_items hvw hat ?_
  rw [hlen]
  refine ktu_core (tk0 := s.toks) (keep := [(d, entObj w P ep)]) (ent_turns hh s.heap.objs.size d hne P hn ep) (by rw [List.length_map]) ?_ ?_ ?_ ?_ ?_ ?_ ?_ ?_ (F.push _) (fun p hp => ⟨Heap.get?_push_of_some _ (N p hp).1, (N p hp).2⟩) (And.intro hm trivial) (rest₀ _ fun p hp => Heap.lt_size (N p hp).1)
  · rintro i v h ⟨T, p, rfl, hx, hT⟩
    exact ⟨entItm p, by rw [List.getElem?_map, hx]; rfl, T, 0, rfl, hT⟩
  · rintro i h ⟨⟨ok, ov, he⟩, _⟩
    have e1 : ∃ o : Obj, h.get? s.heap.objs.size = some o ∧ o.cls = .type "dict_itemiterator" := ⟨_, he, rfl⟩
    obtain ⟨oi, g, c⟩ := e1
    exact ⟨[(s.heap.objs.size, oi)], ⟨⟨rfl, c⟩, trivial⟩, fun p hp => by rw [List.mem_singleton.mp hp]; exact g⟩
  · intro b hb
    have hb' : b = s.heap.objs.size := by simpa using hb
    rw [hb']
    exact ⟨List.mem_cons_self .., next_is_new F⟩
  · intro b hb
    simpa using hb
  · intro b hb
    have hb' : b = s.heap.objs.size ∨ b = d := by simpa using hb
    rcases hb' with e | e
    · exact .inl (by simp [e])
    · exact .inr ⟨_, by rw [e]; exact List.mem_singleton.mpr rfl⟩
  · intro hI
    have hb' : env.locals = s.heap.objs.size ∨ env.locals = d := by simpa using hI
    rcases hb' with e | e
    · exact absurd F.ns.lt (e ▸ Nat.lt_irrefl _)
    · exact hax.2.1 e.symm
  · intro p hp hI
    exact absurd (Heap.lt_size (N p hp).1) ((List.mem_singleton.mp hI) ▸ Nat.lt_irrefl _)
  · exact ⟨⟨.none, .none, Heap.get?_push_size _ rfl⟩, Heap.get?_push_of_some _ hax.1⟩

end
end Mine
namespace Mine
def repAll (x : Str) (P : List Ent) : Str := P.foldl (fun y p => Txt.replace y p.k p.v) x
theorem repAll_cons (x : Str) (p : Ent) (P : List Ent) : repAll x (p :: P) = repAll (Txt.replace x p.k p.v) P := rfl
def EntOk (p : Ent) : Prop := p.tk ≠ 0 ∧ p.tv ≠ 0 ∧ p.tk ≠ p.tv ∧ (p.k == p.v) = false ∧ p.v.length ≤ 255
def RepFits : Str → List Ent → Prop
  | _, [] => True
  | x, p :: P => x.length ≤ 65535 ∧ RepFits (Txt.replace x p.k p.v) P

theorem ent_tabAt {prog : Program} {w : World} {h : Heap} {d : Addr} {P : List Ent} {n : Nat} (hs : (d == sysModules) = false) (hd : h.get? d = some (entObj w P n)) (hn : (P.map Ent.k).Nodup) : TabAt (strKind prog w) PyData.str h d (P.map fun p => (.str p.k, .str p.v)) := by
  refine ⟨hs, P.map Ent.kv, ?_, ?_⟩
  · exact ⟨_, _, _, hd, ⟨rfl, rfl, rfl⟩, rfl, ent_keys P, by rw [List.toList_toArray]; exact ent_pairs P, by rw [List.map_map]; exact hn⟩
  · clear hd hn
    induction P with
    | nil => exact .nil
    | cons p P ih => exact .cons (Flat.str _ _) ih
end Mine
namespace Mine
section
variable {prog : Program} {w : World} {A : Around} {E : Value → Shared → Prop} {s : Shared} {env : Env} {h₀ : Heap} {target : Expr} {body : List Stmt} {Q : Flow → Shared → Prop}

def setM (sN : Str) (v : Value) (u : Str → Option Value) : Str → Option Value := fun y => if y = sN then some v else u y
theorem setM_self {sN : Str} {v : Value} {m : Str → Option Value} (h : m sN = some v) : setM sN v m = m := by
  funext y
  unfold setM
  split
  · rename_i e; rw [e, h]
  · rfl

/-- one turn of «for key, value in d.items(): s = s.replace(key, value)» -/
def RepTurn (prog : Program) (w : World) (A : Around) (E : Value → Shared → Prop) (h₀ : Heap) (env : Env) (target : Expr) (body : List Stmt) (s : Shared) (sN : Str) (I : Addr) (news : List (Addr × Obj)) (p : Ent) : Prop :=
  ∀ (x : Str) (t : Tok) (u : Str → Option Value) (T : Addr) (h : Heap) (tk : Nat) (oi : Obj) (Q' : Flow → Shared → Prop),
    EntOk p → x.length ≤ 65535 → IsTup h T #[.str p.k p.tk, .str p.v p.tv] → Fr h₀ env.locals h (fun y => if y = sN then some (.str x t) else u y) → oi.cls = .type "dict_itemiterator" → News h₀ env.locals h ((I, oi) :: news) →
    (∀ (t' : Tok) (u' : Str → Option Value) (h' : Heap) (tk' : Nat), u' sN = some (.str (Txt.replace x p.k p.v) t') → Fr h₀ env.locals h' u' → News h₀ env.locals h' ((I, oi) :: news) → Q' .next { s with heap := h', toks := tk' }) →
    wpAny (model prog w) A (assign target env (.ref T)) (fun _ s₂ => wpAny (model prog w) A (execs body env) Q' E s₂) E { s with heap := h, toks := tk }

theorem rep_rest {sN : Str} {I : Addr} {keep news : List (Addr × Obj)} (hk : SubL keep news) (hI : ∀ p ∈ news, p.1 < I) :
    ∀ (P : List Ent) (x : Str) (t : Tok) (u : Str → Option Value), (∀ p ∈ P, EntOk p) → RepFits x P → (∀ p ∈ P, RepTurn prog w A E h₀ env target body s sN I news p) →
    (∀ (t' : Tok) (u' : Str → Option Value) (h : Heap) (tk : Nat), Fr h₀ env.locals h (fun y => if y = sN then some (.str (repAll x P) t') else u' y) → News h₀ env.locals h news → Q .next { s with heap := h, toks := tk }) →
    ItemsRest prog w A E h₀ env target body Q s [(I, "dict_itemiterator")] keep (P.map entItm) (fun y => if y = sN then some (.str x t) else u y) news
  | [], x, t, u, _, _, _, fin => fun h tk F N => fin t u h tk F N
  | p :: P, x, t, u, hP, hx, turn, fin => by
    intro v h tk hv F
    obtain ⟨T, _, rfl, hT⟩ := hv
    refine AllObj.cons fun oi ho => AllObj.nil ?_
    intro N
    refine turn p (List.mem_cons_self ..) x t u T h tk oi _ (hP p (List.mem_cons_self ..)) hx.1 hT F ho N ?_
    intro t' u' h' tk' hu F' N'
    refine ⟨h', tk', u', news, rfl, F', N', fun q hq r hr => ?_, hk, ?_⟩
    · rw [List.mem_singleton.mp hr]
      exact Nat.ne_of_lt (hI q hq)
    · have e : u' = fun y => if y = sN then some (.str (Txt.replace x p.k p.v) t') else u' y := (setM_self hu).symm
      rw [e]
      exact rep_rest hk hI P _ _ _ (fun q hq => hP q (List.mem_cons_of_mem _ hq)) hx.2 (fun q hq => turn q (List.mem_cons_of_mem _ hq)) fin

theorem rep_rest0 {sN : Str} {I : Addr} {keep news : List (Addr × Obj)} {P : List Ent} {x : Str} {t : Tok} {m : Str → Option Value} (hm : m sN = some (.str x t)) (hk : SubL keep news) (hI : ∀ p ∈ news, p.1 < I)
    (hP : ∀ p ∈ P, EntOk p) (hx : RepFits x P) (turn : ∀ p ∈ P, RepTurn prog w A E h₀ env target body s sN I news p)
    (fin : ∀ (t' : Tok) (u' : Str → Option Value) (h : Heap) (tk : Nat), Fr h₀ env.locals h (fun y => if y = sN then some (.str (repAll x P) t') else u' y) → News h₀ env.locals h news → Q .next { s with heap := h, toks := tk }) :
    ItemsRest prog w A E h₀ env target body Q s [(I, "dict_itemiterator")] keep (P.map entItm) m news := by
  rw [← setM_self hm]
  exact rep_rest hk hI P x t m hP hx turn fin

theorem rep_call {x : Str} {t : Tok} {Q : Value → Shared → Prop} (p : Ent) (hp : EntOk p) (hx : x.length ≤ 65535)
    (hq : ∀ t' k, Q (.str (Txt.replace x p.k p.v) t') { s with toks := k }) : wpAny (model prog w) A (call (.builtin "str.replace") [.str x t, .str p.k p.tk, .str p.v p.tv]) Q E s := by
  obtain ⟨a, b, c, d, e⟩ := hp
  refine SC.replace a b c d ?_ hq
  have h1 : (x.length + 1) * p.v.length ≤ 65536 * 255 := Nat.mul_le_mul (by omega) e
  omega
end
end Mine
namespace Mine
theorem gen_toks {α : Type} {M : Model} {A : Around} {t : Sem α} {Q : α → Shared → Prop} {E : Value → Shared → Prop} {hp : Heap} {g : Array GenState} {d : Drawn} {o : OsState} {X : Nat} (hX : 1 ≤ X) (h : ∀ tk : Nat, 1 ≤ tk → wpAny M A t Q E ⟨hp, g, d, tk, o⟩) : wpAny M A t Q E ⟨hp, g, d, X, o⟩ := h X hX
end Mine
namespace Mine
theorem one_le2 {X a : Nat} (e : X = a + 2) : 1 ≤ X := by omega
theorem one_le1 {X a : Nat} (e : X = a + 1) : 1 ≤ X := by omega
theorem one_le3 {X a : Nat} (e : X = a + 3) : 1 ≤ X := by omega
theorem one_le4 {X a : Nat} (e : X = a + 4) : 1 ≤ X := by omega
end Mine
namespace Mine
theorem ent_truthy {prog : Program} {w : World} {A : Around} {E : Value → Shared → Prop} {s : Shared} {d : Addr} {P : List Ent} {n : Nat} {h₀ : Heap} {L : Addr} {news : List (Addr × Obj)} {Q : Bool → Shared → Prop} (N : News h₀ L s.heap news) (hm : (d, entObj w P n) ∈ news) (hs : (d == sysModules) = false) (hn : (P.map Ent.k).Nodup)
    (hne : 0 < P.length) (hl : P.length ≤ 100) (h : Q true { s with toks := s.toks + 1 + 1 }) : wpAny (model prog w) A (truthy (.ref d)) Q E s := by
  refine truthy_tab (ent_tabAt (prog := prog) hs (N _ hm).1 hn) (by rw [List.length_map]; omega) ?_
  have e : (!(P.map fun p => (PyData.str p.k, PyData.str p.v)).isEmpty) = true := by
    cases P with
    | nil => exact absurd hne (Nat.lt_irrefl _)
    | cons p P => rfl
  rw [e]
  exact h
end Mine
namespace Mine
theorem ent_falsy {prog : Program} {w : World} {A : Around} {E : Value → Shared → Prop} {s : Shared} {a : Addr} {K : Frag} {h₀ : Heap} {L : Addr} {m : Str → Option Value} {Q : Bool → Shared → Prop} (F : Fr h₀ L s.heap m) (X : K.In h₀)
    (hl : K.lookup a = some ⟨.type "dict", none, .dict #[] 0, #[]⟩) (hs : (a == sysModules) = false) (h : Q false { s with toks := s.toks + 1 + 1 }) : wpAny (model prog w) A (truthy (.ref a)) Q E s :=
  truthy_tab (knd := PySem.strKind prog w) (enc := PyData.str) (D := []) (ent_tabAt (P := []) (n := 0) hs ((X.keeps F.keep) _ _ hl) .nil) (by decide) h
end Mine
namespace Mine
theorem news_put {h₀ h : Heap} {L : Addr} {news : List (Addr × Obj)} {p : Addr × Obj} (hp : p ∈ news) (N : News h₀ L h news) : News h₀ L h (p :: news) := fun q hq => by
  rcases List.mem_cons.mp hq with rfl | hq
  · exact N _ hp
  · exact N _ hq
theorem news_two {h₀ h : Heap} {L : Addr} {news : List (Addr × Obj)} {p q : Addr × Obj} (N : News h₀ L h (p :: q :: news)) : News h₀ L h news := fun r hr => N r (List.mem_cons_of_mem _ (List.mem_cons_of_mem _ hr))
theorem news_one {h₀ h : Heap} {L : Addr} {news : List (Addr × Obj)} {p : Addr × Obj} (N : News h₀ L h (p :: news)) : News h₀ L h news := fun r hr => N r (List.mem_cons_of_mem _ hr)
end Mine
namespace Mine
def plus (n : Int) : Str := Txt.mul (Str.ofString "+") n
def pick3 (a0 a1 a2 : Str) (j : Int) : Str := if j = 0 then a0 else if j = 1 then a1 else a2
def elF (a0 a1 a2 : Str) (cs : List Int) (k : Int) : Str := pick3 a0 a1 a2 (k.fmod 3) ++ plus (cs.getD k.toNat 0)
theorem fmod3 (x : Int) : 0 ≤ x.fmod 3 ∧ x.fmod 3 < 3 := by
  have e2 : x.fmod 3 = x % 3 := Int.fmod_eq_emod_of_nonneg _ (by decide)
  rw [e2]; omega
section
variable {prog : Program} {w : World} {A : Around} {E : Value → Shared → Prop} {s : Shared} {value slice : PySem.Expr} {h₀ : Heap} {L : Addr} {m : PySem.Str → Option Value} {news : List (Addr × Obj)} {Q : Value → Shared → Prop}
theorem pick3_item {l : Addr} {a0 a1 a2 : Str} {t0 t1 t2 u : Tok} {n : Nat} {j : Int} (N : News h₀ L s.heap news) (hm : (l, W.listOf #[.str a0 t0, .str a1 t1, .str a2 t2] n) ∈ news) (hj : 0 ≤ j ∧ j < 3) (h : ∀ t, Q (.str (pick3 a0 a1 a2 j) t) s)
    (hs : subscripted slice false (.ref l) (.int j u) = operate [.ref l, .int j u] (getItem (.ref l) (.int j u)) := by with_unfolding_all rfl) :
    wpAny (model prog w) A (subscriptTail value slice (.ref l) (.int j u)) Q E s := by
  have hl : s.heap.IsList l #[.str a0 t0, .str a1 t1, .str a2 t2] := News.isList N hm
  have hj' : j = 0 ∨ j = 1 ∨ j = 2 := by omega
  have hx : ∃ t, (#[.str a0 t0, .str a1 t1, .str a2 t2] : Array Value)[j.toNat]? = some (.str (pick3 a0 a1 a2 j) t) := by
    rcases hj' with e | e | e <;> subst e
    · exact ⟨t0, rfl⟩
    · exact ⟨t1, rfl⟩
    · exact ⟨t2, rfl⟩
  obtain ⟨t, hx⟩ := hx
  exact tail_any hl.typeIs slot_list_getitem.lookup (wpAny_getItem_list hl hj.1 (by omega) hx (h t)) hs
end
theorem plus_len {n : Int} {B : Nat} (h : n ≤ (B : Int)) : (plus n).length ≤ B := by
  unfold plus Txt.mul
  split
  · exact Nat.zero_le _
  · split
    · rename_i h1 h2
      simp only [Bool.or_eq_true, beq_iff_eq] at h2
      have e : (Str.ofString "+").length = 1 := by decide +kernel
      rw [e] at h2 ⊢
      omega
    · have e : ∀ (n : Nat) (acc : Array Nat), ((List.replicate n (Str.ofString "+").cps).foldl (· ++ ·) acc).size = acc.size + n := by
        intro n
        induction n with
        | zero => intro acc; rfl
        | succ n ih =>
          intro acc
          rw [List.replicate_succ, List.foldl_cons, ih]
          have e1 : (Str.ofString "+").cps.size = 1 := by decide +kernel
          rw [Array.size_append, e1]; omega
      show ((List.replicate n.toNat (Str.ofString "+").cps).foldl (· ++ ·) #[]).size ≤ B
      rw [e]
      simp only [List.size_toArray, List.length_nil]
      omega
theorem pick3_len {a0 a1 a2 : Str} {j : Int} {B : Nat} (h0 : a0.length ≤ B) (h1 : a1.length ≤ B) (h2 : a2.length ≤ B) : (pick3 a0 a1 a2 j).length ≤ B := by
  unfold pick3; split
  · exact h0
  · split
    · exact h1
    · exact h2
theorem elF_len {a0 a1 a2 : Str} {cs : List Int} {k : Int} {B C : Nat} (h0 : a0.length ≤ B) (h1 : a1.length ≤ B) (h2 : a2.length ≤ B) (hc : ∀ c ∈ cs, 0 ≤ c ∧ c ≤ (C : Int)) : (elF a0 a1 a2 cs k).length ≤ B + C := by
  unfold elF
  rw [Str.length_append]
  have e1 := pick3_len (j := k.fmod 3) h0 h1 h2
  have e2 : (plus (cs.getD k.toNat 0)).length ≤ C := by
    apply plus_len
    rw [List.getD_eq_getElem?_getD]
    cases h : cs[k.toNat]? with
    | none => simp
    | some c => simp only [Option.getD_some]; exact (hc c (List.mem_of_getElem? h)).2
  omega
end Mine
namespace Mine
theorem getD_bounds {cs : List Int} {B : Nat} (h : ∀ c ∈ cs, 0 ≤ c ∧ c ≤ (B : Int)) (i : Nat) : 0 ≤ cs.getD i 0 ∧ cs.getD i 0 ≤ (B : Int) := by
  rw [List.getD_eq_getElem?_getD]
  cases h' : cs[i]? with
  | none => simp
  | some c => simp only [Option.getD_some]; exact h c (List.mem_of_getElem? h')
theorem plus_ok {cs : List Int} (h : ∀ c ∈ cs, 0 ≤ c ∧ c ≤ ((4096 : Nat) : Int)) (i : Nat) : MulOk (Str.ofString "+") (cs.getD i 0) :=
  mulOk_of 1 4096 (by decide +kernel) (getD_bounds h i).2 (by have := (getD_bounds h i).1; omega) (by decide) (by decide)
theorem sum_le_of {l : List Nat} {B : Nat} (h : ∀ x ∈ l, x ≤ B) : l.sum ≤ B * l.length := by
  induction l with
  | nil => simp
  | cons a l ih =>
    have h1 := h a (List.mem_cons_self ..)
    have h2 := ih fun x hx => h x (List.mem_cons_of_mem _ hx)
    rw [List.sum_cons, List.length_cons, Nat.mul_add]; omega
theorem textF_fits {a0 a1 a2 : Str} {cs : List Int} (h0 : a0.length ≤ 10) (h1 : a1.length ≤ 10) (h2 : a2.length ≤ 10) (hc : ∀ c ∈ cs, 0 ≤ c ∧ c ≤ ((4096 : Nat) : Int)) (hl : cs.length ≤ 5) :
    ((((rangeKs 0 cs.length).map (elF a0 a1 a2 cs))).map (·.length)).sum + ((rangeKs 0 cs.length).map (elF a0 a1 a2 cs)).length * (Str.ofString "").length ≤ 16777216 := by
  have e : (Str.ofString "").length = 0 := by decide +kernel
  rw [e, Nat.mul_zero, Nat.add_zero]
  refine Nat.le_trans (sum_le_of (B := 10 + 4096) fun x hx => ?_) ?_
  · obtain ⟨y, hy, rfl⟩ := List.mem_map.mp hx
    obtain ⟨k, _, rfl⟩ := List.mem_map.mp hy
    exact elF_len h0 h1 h2 hc
  · rw [List.length_map, List.length_map, rangeKs_length]
    omega
end Mine
namespace Mine
theorem elF_sz {a0 a1 a2 : Str} {cs : List Int} {j : Int} {i : Nat} (h0 : a0.length ≤ 10) (h1 : a1.length ≤ 10) (h2 : a2.length ≤ 10) (hc : ∀ c ∈ cs, 0 ≤ c ∧ c ≤ ((4096 : Nat) : Int)) :
    (pick3 a0 a1 a2 j).length + (Txt.mul (Str.ofString "+") (cs.getD i 0)).length ≤ sizeLine := by
  have e1 := pick3_len (j := j) h0 h1 h2
  have e2 : (Txt.mul (Str.ofString "+") (cs.getD i 0)).length ≤ 4096 := plus_len (getD_bounds hc i).2
  rw [sizeLine_eq]; omega
end Mine
end
section
open PySem PySem.W PySem.Calls PyProof.Rows PyProof.V PySem.Spec
set_option maxRecDepth 100000
namespace Mine
section
variable {prog : Program} {w : World} {A : Around} {E : Value → Shared → Prop} {s : Shared}

theorem ent_find {P : List Ent} {k : Str} (hk : k ∉ P.map Ent.k) : ((P.map (Ent.at w)).toArray.findIdx? fun e => (PySem.strKind prog w).is k e.key) = none := by
  rw [Array.findIdx?_eq_none_iff]
  intro e he
  simp only [List.mem_toArray, List.mem_map] at he
  obtain ⟨p, hp, rfl⟩ := he
  cases hq : (PySem.strKind prog w).is k (p.at w).key with
  | false => rfl
  | true =>
    exfalso
    apply hk
    have e := (PySem.strKind prog w).inj _ _ _ hq (strKind_is prog w p.k p.tk)
    rw [e]
    exact List.mem_map.mpr ⟨p, hp, rfl⟩

theorem ent_set {d : Addr} {P : List Ent} {n : Nat} {k v : Str} {tk tv : Tok} {Q : Unit → Shared → Prop} (hd : s.heap.get? d = some (entObj w P n)) (hk : k ∉ P.map Ent.k) (hsz : P.length ≤ 1000)
    (hQ : ∀ h', h'.get? d = some (entObj w (P ++ [⟨k, tk, v, tv⟩]) (n + 1)) → Heap.SameBut d s.heap h' → Q () { s with heap := h', toks := s.toks + 1 }) :
    wpAny (model prog w) A (dictSet d (.str k tk) (.str v tv)) Q E s := by
  have hes : (P.map (Ent.at w)).toArray.size ≤ sizeLine := by rw [sizeLine_eq]; simp; omega
  unfold dictSet
  try with_reducible refine wpAny_holding ?_
  refine wpAny_bind ((PySem.strKind prog w).pyHash (strKind_is prog w k tk) ?_)
  unfold dictSetHashed
  try with_reducible refine wpAny_holding ?_
  refine wpAny_bind (wpAny_dictFind_of (knd := PySem.strKind prog w) (s := { s with toks := s.toks + 1 }) (strKind_is prog w k tk) hd rfl (ent_keys P) ?_)
  rw [ent_find hk]
  refine wpAny_bind (wpAny_rule (wpAny_updateDictKeys (hz := hes) (s := { s with toks := s.toks + 1 }) hd rfl (hQ _ ?_ (Heap.SameBut.update ..))))
  have hup := Heap.get?_update_self (h := s.heap) (fun o => o.mapDictKeys (·.push ⟨(PySem.strKind prog w).hash k, .str k tk, .str v tv⟩)) hd (by rfl)
  refine hup.trans ?_
  have e : ((P ++ [⟨k, tk, v, tv⟩] : List Ent).map (Ent.at w)).toArray = ((P.map (Ent.at w)).toArray).push ⟨(PySem.strKind prog w).hash k, .str k tk, .str v tv⟩ := by
    rw [List.map_append, List.push_toArray]; rfl
  show some _ = some (entObj w (P ++ [⟨k, tk, v, tv⟩]) (n + 1))
  unfold entObj
  rw [e]
  rfl
end
end Mine
end
section
open PySem PySem.W PySem.Calls PyProof.Rows PyProof.V PySem.Spec
set_option maxRecDepth 100000
namespace Mine
/-- what a turn of a dict's comprehension hands on: key and value are texts, their tokens told -/
def DEnd (h₀ : Heap) (L : Addr) (m : Str → Option Value) (s₁ : Shared) (led : List (Addr × Obj)) (k v : Str) (kv vv : Value) (s₂ : Shared) : Prop :=
  ∃ h' tk t u, s₂ = { s₁ with heap := h', toks := tk } ∧ kv = .str k t ∧ vv = .str v u ∧ EntOk ⟨k, t, v, u⟩ ∧ Fr h₀ L h' m ∧ News h₀ L h' led

def DTurn (prog : Program) (w : World) (A : Around) (h₀ : Heap) (L : Addr) (m : Str → Option Value) (env : Env) (kx vx : Expr) (x : Str) (scope : Scope) (cl : List (Str × Addr)) (s : Shared) (news : List (Addr × Obj)) (kf vf : Int → Str) (j : Int) : Prop :=
  ∀ (t : Tok) (I : Addr) (oI : Obj) (C : Addr) (oC : Obj) (D : Addr) (oD : Obj) (m₂ : Str → Option Value) (h : Heap) (tk : Nat) (E' : Value → Shared → Prop), 1 ≤ tk → LCg.NsObj oC m₂ → m₂ x = some (.int j t) → Fr h₀ L h m → News h₀ L h ((I, oI) :: (C, oC) :: (D, oD) :: news) →
    wpAny (model prog w) A (eval kx (compEnvC scope cl C env)) (fun kv s₄ => wpAny (model prog w) A (eval vx (compEnvC scope cl C env)) (fun vv s₅ =>
      DEnd h₀ L m { s with heap := h, toks := tk } ((I, oI) :: (C, oC) :: (D, oD) :: news) (kf j) (vf j) kv vv s₅) E' s₄) E' { s with heap := h, toks := tk }

def specD (kf vf : Int → Str) (a c : Int) (n : Nat) : List (Str × Str) := (List.range n).map fun (i : Nat) => (kf (a + (i : Int) * c), vf (a + (i : Int) * c))
def Ent.two (p : Ent) : Str × Str := (p.k, p.v)
theorem specD_succ (kf vf : Int → Str) (a c : Int) (n : Nat) : specD kf vf a c (n + 1) = specD kf vf a c n ++ [(kf (a + (n : Int) * c), vf (a + (n : Int) * c))] := by
  unfold specD; rw [List.range_succ, List.map_append]; rfl
theorem two_keys (P : List Ent) : P.map Ent.k = (P.map Ent.two).map (·.1) := by rw [List.map_map]; rfl

section
variable {prog : Program} {w : World} {A : Around} {E : Value → Shared → Prop} {s : Shared} {h₀ : Heap} {L : Addr} {m : Str → Option Value} {env : Env} {news : List (Addr × Obj)}

theorem block_D {kx vx iter : Expr} {x : Str} {px : Pos} {scope : Scope} {cl : List (Str × Addr)} {pos : Pos} {s₂ : Shared} {I : Addr} {a c : Int} {n : Nat} {kf vf : Int → Str} {RR : Value → Addr → Result → Shared → Prop}
    (hh : A.handled = none) (hn1 : n ≤ 1000) (hcell : ∀ y ∈ scope.names, y.2 ≠ .cell) (hkind : scope.kind = .function) (hx : scope.names.lookup x = some .local)
    (hst : IsRangeIter s₂.heap I a (n : Int) c) (F : Fr h₀ L s₂.heap m) (N : News h₀ L s₂.heap news) (hIL : L ≠ I) (hI₀ : h₀.get? I = none) (off : ∀ p ∈ news, p.1 ≠ I) (hbig : sysModules < h₀.objs.size)
    (hnd : ((specD kf vf a c n).map (·.1)).Nodup) (turn : ∀ i : Nat, i < n → DTurn prog w A h₀ L m env kx vx x scope cl s₂ news kf vf (a + (i : Int) * c))
    (hRR : ∀ D C h tk m' P, Fr h₀ L h m → News h₀ L h ((D, entObj w P P.length) :: news) → h.Ns C m' → h₀.get? C = none → C ≠ L → D ≠ L → C ≠ D → (∀ p ∈ news, p.1 ≠ C) → (∀ p ∈ news, p.1 < D) → (D == sysModules) = false →
      P.map Ent.two = specD kf vf a c n → (∀ p ∈ P, EntOk p) → RR (.ref D) C (.ok .next) { s₂ with heap := h, toks := tk }) :
    wpAny (model prog w) A newDict (fun acc s₃ => wpAny (model prog w) A (newFunctionEnv scope env.globals cl [] env.qual none .none (some env)) (fun cenv s₄ =>
      codeAny (model prog w) A (.compStart (.DictComp kx vx [⟨.Name x px, iter, [], 0⟩] scope pos) 0 (.ref I) acc { cenv with scope := relabel scope env }) (RR acc cenv.locals) s₄) E s₃) E s₂ := by
  have W := Walks.range (prog := prog) (w := w) hh I a c n
  refine wpAny_newObj_type (wpAny_newFunctionEnv hcell (by intro y hy; simp at hy) (fun h₁ hns₁ hsb₁ => ?_) hkind)
  dsimp only at hns₁ hsb₁ ⊢
  generalize hH2 : s₂.heap.push { cls := .type "dict", dict := none, data := .dict #[] } = H2 at hns₁ hsb₁ ⊢
  have hC : H2.objs.size = s₂.heap.objs.size + 1 := by rw [← hH2, Heap.size_push]
  generalize hDe : s₂.heap.objs.size = D at hC ⊢
  generalize hCe : H2.objs.size = C at hC hns₁ hsb₁ ⊢
  have hC : @Eq Nat C (D + 1) := hC
  have lt : ∀ b o, s₂.heap.get? b = some o → @LT.lt Nat _ b D := fun b o e => hDe ▸ Heap.lt_size e
  have hIlt : @LT.lt Nat _ I D := lt _ _ hst
  have hLlt : @LT.lt Nat _ L D := hDe ▸ F.ns.lt
  have old : ∀ b o, s₂.heap.get? b = some o → h₁.get? b = some o := fun b o e => hsb₁.extBut b o (by have := lt b o e; show @Ne Nat b C; omega) (Heap.get?_push_of_some _ (hH2 ▸ Heap.get?_push_of_some _ e))
  have hacc : h₁.get? D = some (entObj w [] 0) := hsb₁.extBut _ _ (by show @Ne Nat D C; omega) (Heap.get?_push_of_some _ (hH2 ▸ hDe ▸ Heap.get?_push_size _ rfl))
  have fresh₀ : ∀ b, D ≤ b → h₀.get? b = none := fun b hb => by
    cases e : h₀.get? b with
    | none => rfl
    | some o' => exact absurd (lt _ _ (F.keep b o' e)) (Nat.not_lt.mpr hb)
  have hD₀ : h₀.get? D = none := fresh₀ _ (Nat.le_refl _)
  have hC₀ : h₀.get? C = none := fresh₀ _ (by omega)
  have hDm : (D == sysModules) = false := hDe ▸ F.notModules hbig
  have nlt : ∀ p ∈ news, @LT.lt Nat _ p.1 D := fun p hp => lt _ _ (N p hp).1
  have loop : ∀ s₃ : Shared, s₃ = { s₂ with heap := h₁, toks := s₂.toks + ([] : List (Str × Value)).length } →
      codeAny (model prog w) A (.compLoop (.DictComp kx vx [⟨.Name x px, iter, [], 0⟩] scope pos) 0 (.ref I) (.ref D) (compEnvC scope cl C env)) (RR (.ref D) C) s₃ := by
    rintro s₃ rfl
    refine codeAny_compLoop_testsD
      (fun k s' => ∃ h' tk i P m', s' = { s₂ with heap := h', toks := tk } ∧ i ≤ n ∧ k = n + 1 - i ∧ P.map Ent.two = specD kf vf a c i ∧ (∀ p ∈ P, EntOk p) ∧ IsRangeIter h' I (a + (i : Nat) * c) ((n : Int) - (i : Nat)) c ∧ Fr h₀ L h' m ∧ h'.Ns C m' ∧
        News h₀ L h' ((D, entObj w P P.length) :: news)) ?_ (n + 1)
      ⟨h₁, _, 0, [], _, rfl, Nat.zero_le _, rfl, rfl, (fun _ hp => nomatch hp), ?_, F.keeps old, hns₁, fun p hp => ?_⟩
    · rintro k s' ⟨h', tk, i, P, m', rfl, hi, rfl, hPs, hPo, hst', F', hn', N'⟩
      have hPl : P.length = i := by have := congrArg List.length hPs; simpa [specD] using this
      by_cases hlt : i < n
      · refine W.item i _ _ _ hlt hst' fun v h₂ tk₂ hPv hst₂ hk₂ => ?_
        obtain ⟨t, rfl⟩ := hPv
        have up₂ : ∀ b o, b ≠ I → h'.get? b = some o → h₂.get? b = some o := fun b o hb e => hk₂ b o (by simpa using hb) e
        refine wpAny_assign_Name (wpAny_storeName_local (lookup_relabel_local hx) (hn'.at' fun o e => up₂ _ o (by show @Ne Nat C I; omega) e) (fun h₃ hn₃ hs₃ => ?_) (by simp [compEnvC, relabel, hkind]))
        refine wpAny_tests_nil ?_
        simp only [if_true]
        have up₃ : ∀ b o, b ≠ C → h₂.get? b = some o → h₃.get? b = some o := fun b o hb e => hs₃.extBut b o hb e
        have hst₃ : IsRangeIter h₃ I (a + ((i + 1 : Nat) : Int) * c) ((n : Int) - ((i + 1 : Nat) : Int)) c := up₃ _ _ (by show @Ne Nat I C; omega) hst₂
        obtain ⟨oC, heC, hoC⟩ := LCg.ns_obj hn₃
        have F₂ : Fr h₀ L h₂ m := LCg.fr_but F' hk₂ hIL hI₀
        have F₃ : Fr h₀ L h₃ m := F₂.change hs₃ (by show @Ne Nat C L; omega) hC₀
        have N₃ : News h₀ L h₃ ((I, _) :: (C, oC) :: (D, entObj w P P.length) :: news) := fun p hp => by
          rcases List.mem_cons.mp hp with rfl | hp
          · exact ⟨hst₃, Ne.symm hIL, hI₀⟩
          · rcases List.mem_cons.mp hp with rfl | hp
            · exact ⟨heC, (by show @Ne Nat C L; omega), hC₀⟩
            · have z := N' p hp
              have h1 : @LE.le Nat _ p.1 D := by
                rcases List.mem_cons.mp hp with rfl | hp
                · exact Nat.le_refl _
                · exact Nat.le_of_lt (nlt p hp)
              have h2 : p.1 ≠ I := by
                rcases List.mem_cons.mp hp with rfl | hp
                · show @Ne Nat D I; omega
                · exact off p hp
              exact ⟨up₃ _ _ (by show @Ne Nat p.1 C; omega) (up₂ _ _ h2 z.1), z.2⟩
        refine wpAny_mono (turn i hlt t I _ C oC D _ _ h₃ _ _ (Nat.le_add_left 1 _) hoC (by simp) F₃ N₃) (fun kv s₄ h₄ => wpAny_mono h₄ (fun vv s₅ h₅ => ?_) fun _ _ e => e) fun _ _ e => e
        obtain ⟨h₅, tk₅, t5, u5, rfl, rfl, rfl, hok, F₅, N₅⟩ := h₅
        have zI := (N₅ _ List.mem_cons_self).1
        have zC := (N₅ _ (List.mem_cons_of_mem _ List.mem_cons_self)).1
        have zD := (N₅ _ (List.mem_cons_of_mem _ (List.mem_cons_of_mem _ List.mem_cons_self))).1
        have hsub : List.Sublist (specD kf vf a c (i + 1)) (specD kf vf a c n) := by
          unfold specD
          exact (List.range_sublist.mpr hlt).map _
        have hknew : kf (a + (i : Int) * c) ∉ P.map Ent.k := by
          have h1 := (hsub.map (·.1)).nodup hnd
          rw [specD_succ, List.map_append, List.nodup_append] at h1
          rw [two_keys, hPs]
          intro hmem
          exact h1.2.2 _ hmem _ (by simp) rfl
        refine ent_set zD hknew (by omega) fun h₆ hd₆ hs₆ => ?_
        have hNs := (hoC.ns zC).sameBut hs₆ (by show @Ne Nat C D; omega)
        refine ⟨n + 1 - (i + 1), by omega, h₆, _, i + 1, P ++ [⟨_, t5, _, u5⟩], _, rfl, hlt, rfl, by rw [List.map_append, hPs, specD_succ]; rfl, ?_, ?_, ?_, hNs, ?_⟩
        · intro p hp
          rcases List.mem_append.mp hp with hp | hp
          · exact hPo p hp
          · rw [List.mem_singleton.mp hp]; exact hok
        · exact hs₆.extBut _ _ (by show @Ne Nat I D; omega) zI
        · exact F₅.change hs₆ (by show @Ne Nat D L; omega) hD₀
        · intro p hp
          rcases List.mem_cons.mp hp with rfl | hp
          · refine ⟨?_, (by show @Ne Nat D L; omega), hD₀⟩
            rw [List.length_append, List.length_singleton]
            exact hd₆
          · have z := N₅ p (List.mem_cons_of_mem _ (List.mem_cons_of_mem _ (List.mem_cons_of_mem _ hp)))
            exact ⟨hs₆.extBut _ _ (by have := nlt p hp; show @Ne Nat p.1 D; omega) z.1, z.2⟩
      · obtain rfl : i = n := Nat.le_antisymm hi (Nat.not_lt.mp hlt)
        refine W.done _ _ _ hst' fun h₂ tk₂ hk₂ => ?_
        have up₂ : ∀ b o, b ≠ I → h'.get? b = some o → h₂.get? b = some o := fun b o hb e => hk₂ b o (by simpa using hb) e
        refine hRR D C h₂ tk₂ _ P (LCg.fr_but F' hk₂ hIL hI₀) (fun p hp => ?_) (hn'.at' fun o e => up₂ _ o (by show @Ne Nat C I; omega) e) hC₀ (by show @Ne Nat C L; omega) (by show @Ne Nat D L; omega) (by show @Ne Nat C D; omega)
          (fun p hp => by have := nlt p hp; show @Ne Nat p.1 C; omega) nlt hDm hPs hPo
        have z := N' p hp
        refine ⟨up₂ _ _ ?_ z.1, z.2⟩
        rcases List.mem_cons.mp hp with rfl | hp
        · show @Ne Nat D I; omega
        · exact off p hp
    · have h0 : IsRangeIter h₁ I a (n : Int) c := old _ _ hst
      have e1 : a + ((0 : Nat) : Int) * c = a := by simp
      have e2 : (n : Int) - ((0 : Nat) : Int) = n := by simp
      rw [e1, e2]; exact h0
    · rcases List.mem_cons.mp hp with rfl | hp
      · exact ⟨hacc, (by show @Ne Nat D L; omega), hD₀⟩
      · exact ⟨old _ _ (N p hp).1, (N p hp).2⟩
  have h0 : IsRangeIter h₁ I (a + ((0 : Nat) : Int) * c) ((n : Int) - ((0 : Nat) : Int)) c := by
    have e1 : a + ((0 : Nat) : Int) * c = a := by simp
    have e2 : (n : Int) - ((0 : Nat) : Int) = n := by simp
    rw [e1, e2]; exact old _ _ hst
  exact codeAny_compStart_dict (loop _ rfl) (W.self 0 _ _ _ h0 (loop _ rfl))
end
end Mine
end
section
open PySem PySem.W PySem.Calls PyProof.Rows PyProof.V PySem.Spec
set_option maxRecDepth 100000
namespace Mine
section
variable {prog : Program} {w : World} {A : Around} {E : Value → Shared → Prop} {s : Shared} {h₀ : Heap} {L : Addr} {m : Str → Option Value} {env : Env}

/-- where a dict's comprehension over a range goes on -/
def DSrc (prog : Program) (w : World) (A : Around) (h₀ : Heap) (L : Addr) (m : Str → Option Value) (env : Env) (kx vx : Expr) (x : Str) (scope : Scope) (cl : List (Str × Addr)) (mo : Addr → Str → Option Value) (Q : Value → Shared → Prop) (xv : Value) (s₁ : Shared) : Prop :=
  ∃ r a b c t u v n news kf vf, xv = .ref r ∧ A.handled = none ∧ Fr h₀ L s₁.heap m ∧ News h₀ L s₁.heap news ∧ IsRange s₁.heap r a b c t u v ∧ Builtin.Range.small a b c = true ∧ Builtin.Range.rangeSize a b c = ((n : Nat) : Int) ∧ n ≤ 1000 ∧ sysModules < h₀.objs.size ∧
    ((specD kf vf a c n).map (·.1)).Nodup ∧ (∀ i : Nat, i < n → DTurn prog w A h₀ L m env kx vx x scope cl s₁ news kf vf (a + (i : Int) * c)) ∧
    ∀ D h tk P, Fr h₀ L h (mo D) → News h₀ L h ((D, entObj w P P.length) :: news) → (∀ p ∈ news, p.1 < D) → (D == sysModules) = false → P.map Ent.two = specD kf vf a c n → (∀ p ∈ P, EntOk p) → Q (.ref D) { s₁ with heap := h, toks := tk }

theorem DSrc.intro {kx vx : Expr} {x : Str} {scope : Scope} {cl : List (Str × Addr)} {mo : Addr → Str → Option Value} {Q : Value → Shared → Prop} {r : Addr} {a b c : Int} {t u v : Tok} {n : Nat} {news : List (Addr × Obj)} {s₁ : Shared} (kf vf : Int → Str)
    (hh : A.handled = none) (F : Fr h₀ L s₁.heap m) (N : News h₀ L s₁.heap news) (hr : IsRange s₁.heap r a b c t u v) (hsm : Builtin.Range.small a b c = true) (hn : Builtin.Range.rangeSize a b c = ((n : Nat) : Int)) (hn1 : n ≤ 1000) (hlim : h₀.NoLimit)
    (hnd : ((specD kf vf a c n).map (·.1)).Nodup) (turn : ∀ i : Nat, i < n → DTurn prog w A h₀ L m env kx vx x scope cl s₁ news kf vf (a + (i : Int) * c))
    (fin : ∀ D h tk P, Fr h₀ L h (mo D) → News h₀ L h ((D, entObj w P P.length) :: news) → (∀ p ∈ news, p.1 < D) → (D == sysModules) = false → P.map Ent.two = specD kf vf a c n → (∀ p ∈ P, EntOk p) → Q (.ref D) { s₁ with heap := h, toks := tk }) :
    DSrc prog w A h₀ L m env kx vx x scope cl mo Q (.ref r) s₁ := ⟨r, a, b, c, t, u, v, n, news, kf, vf, rfl, hh, F, N, hr, hsm, hn, hn1, modules_low hlim, hnd, turn, fin⟩

theorem DictComp_T {kx vx iter : Expr} {x : Str} {px : Pos} {scope : Scope} {cl : List (Str × Addr)} {pos : Pos} {Q : Value → Shared → Prop} (F₀ : Fr h₀ L s.heap m)
    (hclos : closureFor scope env = pure cl) (hcell : ∀ y ∈ scope.names, y.2 ≠ .cell) (hkind : scope.kind = .function)
    (hnames : ∀ y ∈ scope.names, y.2 = .local → scope.names.lookup y.1 = some .local) (hx : scope.names.lookup x = some .local)
    (h : wpAny (model prog w) A (eval iter env) (DSrc prog w A h₀ L m env kx vx x scope cl (fun _ => m) Q) E s)
    (hs : ∀ x, foldedSetIterable iter env x = pure x := by intro _; rfl) :
    wpAny (model prog w) A (eval (.DictComp kx vx [⟨.Name x px, iter, [], 0⟩] scope pos) env) Q E s := by
  rw [arm_eval_DictComp]
  refine wpAny_comprehension_free (use := none) rfl hs hclos hkind hnames (wpAny_mono h (fun xv s₁ h₁ => ?_) fun _ _ e => e)
  obtain ⟨r, a, b, c, t, u, v, n, news, kf, vf, rfl, hh, F, N, hr, hsm, hn, hn1, hbig, hnd, turn, fin⟩ := h₁
  refine wpAny_pyIter_range hr hsm ?_
  refine block_D (kf := kf) (vf := vf) (news := news) hh hn1 hcell hkind hx (by show IsRangeIter _ _ _ _ _; rw [hn]; exact Heap.get?_push_size _ rfl) (F.keeps fun _ _ e => Heap.get?_push_of_some _ e) (N.grown fun _ _ e => Heap.get?_push_of_some _ e) (Nat.ne_of_lt F.ns.lt) (next_is_new F)
    (fun p hp => Nat.ne_of_lt (Heap.lt_size (N p hp).1)) hbig hnd turn ?_
  intro D C h tk m' P F' N' hnC hC₀ hCL hDL hCD offC hlt hDm hPs hPo
  refine ⟨m', hnC, fun h'' hs'' => fin D h'' tk P (F'.change hs'' hCL hC₀) (fun p hp => ?_) hlt hDm hPs hPo⟩
  refine ⟨hs''.extBut _ _ ?_ (N' p hp).1, (N' p hp).2⟩
  rcases List.mem_cons.mp hp with rfl | hp
  · exact Ne.symm hCD
  · exact offC p hp

theorem Assign_DictComp_T {kx vx iter : Expr} {x y : Str} {px py : Pos} {scope : Scope} {cl : List (Str × Addr)} {pos spos : Pos} {Q : Flow → Shared → Prop} (F₀ : Fr h₀ L s.heap m) (hLe : env.locals = L)
    (hsw : swapsWith (.DictComp kx vx [⟨.Name x px, iter, [], 0⟩] scope pos) (some (.Name y py)) spos.line env = pure true)
    (hclos : closureFor scope env = pure cl) (hcell : ∀ z ∈ scope.names, z.2 ≠ .cell) (hkind : scope.kind = .function)
    (hnames : ∀ z ∈ scope.names, z.2 = .local → scope.names.lookup z.1 = some .local) (hx : scope.names.lookup x = some .local)
    (hy : env.kindOf y = some .local) (hp : (env.scope.kind == .class || (env.scope.kind == .module && env.locals != env.globals)) = false)
    (h : wpAny (model prog w) A (eval iter env) (DSrc prog w A h₀ L m env kx vx x scope cl (fun D z => if z = y then some (.ref D) else m z) (fun _ s' => Q .next s')) E s)
    (hs : ∀ x, foldedSetIterable iter env x = pure x := by intro _; rfl) :
    wpAny (model prog w) A (exec (.Assign [.Name y py] (.DictComp kx vx [⟨.Name x px, iter, [], 0⟩] scope pos) spos) env) Q E s := by
  subst hLe
  rw [exec_Assign_Name_used _ _ _ _ hsw]
  refine wpAny_bind (wpAny_standAt (wpAny_bind ?_))
  show wpAny _ A (do let _ ← comprehension (.DictComp kx vx [⟨.Name x px, iter, [], 0⟩] scope pos) scope env _ newDict false (eval iter env) (some (assign (.Name y py) env))) _ _ s
  refine wpAny_bind (wpAny_mono (wpAny_comprehension_free (use := some (assign (.Name y py) env)) (Q := fun _ s' => Q .next s') rfl hs hclos hkind hnames
    (wpAny_mono h (fun xv s₁ h₁ => ?_) fun _ _ e => e)) (fun _ s' hq => wpAny_pure (wpAny_pure hq)) fun _ _ e => e)
  obtain ⟨r, a, b, c, t, u, v, n, news, kf, vf, rfl, hh, F, N, hr, hsm, hn, hn1, hbig, hnd, turn, fin⟩ := h₁
  refine wpAny_pyIter_range hr hsm ?_
  refine block_D (kf := kf) (vf := vf) (news := news) hh hn1 hcell hkind hx (by show IsRangeIter _ _ _ _ _; rw [hn]; exact Heap.get?_push_size _ rfl) (F.keeps fun _ _ e => Heap.get?_push_of_some _ e) (N.grown fun _ _ e => Heap.get?_push_of_some _ e) (Nat.ne_of_lt F.ns.lt) (next_is_new F)
    (fun p hp => Nat.ne_of_lt (Heap.lt_size (N p hp).1)) hbig hnd turn ?_
  intro D C h tk m' P F' N' hnC hC₀ hCL hDL hCD offC hlt hDm hPs hPo
  show wpAny _ A (assign (.Name y py) env (.ref D)) _ _ _
  refine wpAny_assign_Name (wpAny_storeName_local hy F'.ns (fun h₂ hn₂ hs₂ => ?_) hp)
  have hL₀ : h₀.get? env.locals = none := Heap.get?_none_of_le F'.above
  have F₂ : Fr h₀ env.locals h₂ (fun z => if z = y then some (.ref D) else m z) := ⟨hn₂, fun b o e => hs₂.extBut b o (fun q => by rw [q, hL₀] at e; cases e) (F'.keep b o e), F'.above⟩
  refine ⟨m', hnC.sameBut hs₂ hCL, fun h'' hs'' => fin D h'' _ P (F₂.change hs'' hCL hC₀) (fun p hp => ?_) hlt hDm hPs hPo⟩
  have z : h₂.get? p.1 = some p.2 := hs₂.extBut _ _ (N' p hp).2.1 (N' p hp).1
  refine ⟨hs''.extBut _ _ ?_ z, (N' p hp).2⟩
  rcases List.mem_cons.mp hp with rfl | hp
  · exact Ne.symm hCD
  · exact offC p hp
end
end Mine
end
section
open PySem PySem.W PySem.Calls PyProof.Rows PyProof.V PySem.Spec
set_option maxRecDepth 100000
namespace Mine
section
variable {prog : Program} {w : World} {A : Around} {E : Value → Shared → Prop} {s : Shared}

theorem ent_put {d : Addr} {P : List Ent} {n : Nat} {p : Ent} {Q : Unit → Shared → Prop} (hd : s.heap.get? d = some (entObj w P n)) (hk : p.k ∉ P.map Ent.k) (hsz : P.length ≤ 1000)
    (hQ : ∀ h', h'.get? d = some (entObj w (P ++ [p]) (n + 1)) → Heap.SameBut d s.heap h' → Q () { s with heap := h' }) :
    wpAny (model prog w) A (dictPut d (p.at w).hash (p.at w).key (p.at w).val) Q E s := by
  have hes : (P.map (Ent.at w)).toArray.size ≤ sizeLine := by rw [sizeLine_eq]; simp; omega
  unfold dictPut
  refine wpAny_bind (wpAny_dictFind_of (knd := PySem.strKind prog w) (k := p.k) (strKind_is prog w p.k p.tk) hd rfl (ent_keys P) ?_)
  rw [ent_find hk]
  refine wpAny_updateDictKeys (hz := hes) hd rfl (hQ _ ?_ (Heap.SameBut.update ..))
  have hup := Heap.get?_update_self (h := s.heap) (fun o => o.mapDictKeys (·.push (p.at w))) hd (by rfl)
  refine hup.trans ?_
  have e : ((P ++ [p]).map (Ent.at w)).toArray = ((P.map (Ent.at w)).toArray).push (p.at w) := by
    rw [List.map_append, List.push_toArray]; rfl
  show some _ = some (entObj w (P ++ [p]) (n + 1))
  unfold entObj
  rw [e]
  rfl

theorem ent_mergeLoop {d a : Addr} (hda : a ≠ d) {P : List Ent} {n₂ : Nat} (body : Nat → PUnit → Sem (ForInStep PUnit))
    (hb : ∀ i u, body i u = (do
      let some e := (← dictEntries a)[i]? | unsupported "dict.changed-during-merge"
      holding [e.key, e.val] do
        if false then
          if (← dictFind d e.key e.hash).isSome then rule "dict.merge.duplicate-key"; raiseNew (← newExc (.type "KeyError") [e.key])
        dictPut d e.hash e.key e.val
      if (← dictEpoch a) != n₂ then unsupported "dict.changed-during-merge"
      pure (ForInStep.yield PUnit.unit))) :
    ∀ (j i : Nat) (R : List Ent) (n : Nat) (s : Shared) (Q : PUnit → Shared → Prop), i + j = P.length → s.heap.get? a = some (entObj w P n₂) → s.heap.get? d = some (entObj w (R ++ P.take i) (n + i)) → ((R ++ P).map Ent.k).Nodup → R.length + P.length ≤ 1000 →
      (∀ h', h'.get? d = some (entObj w (R ++ P) (n + P.length)) → Heap.SameBut d s.heap h' → Q PUnit.unit { s with heap := h' }) →
      wpAny (model prog w) A (forIn (List.range' i j) PUnit.unit body) Q E s := by
  intro j
  induction j with
  | zero =>
    intro i R n s Q hij _ hd _ _ hQ
    have hi : i = P.length := by omega
    subst hi
    rw [List.take_length] at hd
    rw [List.range'_zero, List.forIn_nil]
    exact wpAny_pure (hQ s.heap hd (Heap.SameBut.refl _ _))
  | succ j ih =>
    intro i R n s Q hij ha hd hn hsz hQ
    have hlt : i < P.length := by omega
    have hlt' : i < (P.map (Ent.at w)).toArray.size := by simp; exact hlt
    have hei : (P.map (Ent.at w)).toArray[i] = (P[i]).at w := by simp
    have htake : P.take (i + 1) = P.take i ++ [P[i]] := by rw [List.take_add_one, List.getElem?_eq_getElem hlt]; rfl
    have hnew : (P[i]).k ∉ (R ++ P.take i).map Ent.k := by
      have hsub : List.Sublist (R ++ (P.take i ++ [P[i]])) (R ++ P) := by
        rw [← htake]; exact List.Sublist.append_left (List.take_sublist _ _) _
      have h1 := (hsub.map Ent.k).nodup hn
      rw [← List.append_assoc, List.map_append, List.nodup_append] at h1
      intro hmem
      exact h1.2.2 _ hmem _ (by simp) rfl
    rw [List.range'_succ, List.forIn_cons]
    refine wpAny_bind ?_
    rw [hb]
    refine wpAny_bind (wpAny_dictEntries ha rfl ?_)
    rw [Array.getElem?_eq_getElem hlt', hei]
    refine wpAny_bind (wpAny_holding ?_)
    simp only [Bool.false_eq_true, if_false]
    first | refine wpAny_bind (wpAny_pure ?_) | skip
    refine ent_put hd hnew (by have := List.length_take_le i P; rw [List.length_append]; omega) fun h' hd' hs' => ?_
    have ha' : h'.get? a = some (entObj w P n₂) := (hs'.2 a hda).trans ha
    refine wpAny_bind (wpAny_dictEpoch ha' rfl ?_)
    rw [if_neg (by simp)]
    first | refine wpAny_bind (wpAny_pure ?_) | skip
    refine wpAny_pure ?_
    refine ih (i + 1) R n _ Q (by omega) ha' ?_ hn hsz fun h'' hd'' hs'' => hQ h'' hd'' (hs'.trans hs'')
    rw [htake, ← List.append_assoc]
    exact hd'

theorem ent_typeIs {d : Addr} {P : List Ent} {n : Nat} (hd : s.heap.get? d = some (entObj w P n)) : s.TypeIs (.ref d) "dict" := ⟨_, hd, rfl⟩

theorem ent_noRefs {Q : PUnit → Shared → Prop} (body : DictEntry → PUnit → Sem (ForInStep PUnit)) (hb : ∀ (p : Ent) u, body (p.at w) u = pure (ForInStep.yield PUnit.unit)) (h : Q PUnit.unit s) :
    ∀ P : List Ent, wpAny (model prog w) A (forIn (P.map (Ent.at w)).toArray PUnit.unit body) Q E s := by
  intro P
  rw [← Array.forIn_toList, List.toList_toArray]
  induction P with
  | nil => rw [List.map_nil, List.forIn_nil]; exact wpAny_pure h
  | cons p P ih =>
    rw [List.map_cons, List.forIn_cons, hb]
    exact wpAny_bind (wpAny_pure ih)

theorem ent_merge {d a : Addr} (hda : a ≠ d) (hs : (a == sysModules) = false) {R P : List Ent} {n n₂ : Nat} {Q : Unit → Shared → Prop} (ha : s.heap.get? a = some (entObj w P n₂)) (hd : s.heap.get? d = some (entObj w R n)) (hn : ((R ++ P).map Ent.k).Nodup) (hsz : R.length + P.length ≤ 1000)
    (hQ : ∀ h', h'.get? d = some (entObj w (R ++ P) (n + P.length)) → Heap.SameBut d s.heap h' → Q () { s with heap := h' }) :
    wpAny (model prog w) A (mergeMapping d (.ref a) false) Q E s := by
  unfold mergeMapping
  refine wpAny_bind (wpAny_isInstance (ent_typeIs ha) isSubtype_dict_dict ?_)
  simp only [if_true]
  refine wpAny_bind (wpAny_specialOf (ent_typeIs ha) F.slot_dict_iter.lookup ?_)
  refine wpAny_bind (wpAny_pure ?_)
  simp only [beq_self_eq_true]
  rw [if_neg (by rw [hs]; exact Bool.false_ne_true)]
  have loop : wpAny (model prog w) A (do
      let size := (← dictEntries a).size
      let epoch ← dictEpoch a
      for i in List.range size do
        let some e := (← dictEntries a)[i]? | unsupported "dict.changed-during-merge"
        holding [e.key, e.val] do
          if false then
            if (← dictFind d e.key e.hash).isSome then rule "dict.merge.duplicate-key"; raiseNew (← newExc (.type "KeyError") [e.key])
          dictPut d e.hash e.key e.val
        if (← dictEpoch a) != epoch then unsupported "dict.changed-during-merge") Q E s := by
    refine wpAny_bind (wpAny_dictEntries ha rfl ?_)
    refine wpAny_bind (wpAny_dictEpoch ha rfl ?_)
    have hes : (P.map (Ent.at w)).toArray.size = P.length := by simp
    rw [hes, List.range_eq_range']
    refine wpAny_bind (ent_mergeLoop (n₂ := n₂) hda _ (fun i u => rfl) P.length 0 R n s _ (by omega) ha (by simpa using hd) hn hsz fun h' h1 h2 => wpAny_pure (hQ h' h1 h2))
  refine wpAny_bind (wpAny_dictEntries hd rfl ?_)
  refine wpAny_ite ?_
  split
  · refine wpAny_bind (wpAny_dictEntries ha rfl ?_)
    refine wpAny_bind (ent_noRefs _ (fun p u => rfl) ?_ P)
    exact loop
  · exact loop
end
end Mine
end
section
open PySem PySem.W PySem.Calls PyProof.Rows PyProof.V PySem.Spec
set_option maxRecDepth 100000
namespace Mine
section
variable {prog : Program} {w : World} {A : Around} {E : Value → Shared → Prop} {s : Shared}

theorem display2 {m1 k2 v2 : Sem Value} {Q : Value → Shared → Prop} {D : Addr} (hD : s.heap.objs.size = D)
    (h : wpAny (model prog w) A m1 (fun mv s₁ => ∃ a P n₂, mv = .ref a ∧ (a == sysModules) = false ∧ a ≠ D ∧ s₁.heap.get? a = some (entObj w P n₂) ∧ s₁.heap.get? D = some (entObj w [] 0) ∧ (P.map Ent.k).Nodup ∧ P.length ≤ 900 ∧
      ∀ h₂ : Heap, h₂.get? D = some (entObj w P P.length) → Heap.SameBut D s₁.heap h₂ →
        wpAny (model prog w) A k2 (fun kv s₃ => wpAny (model prog w) A v2 (fun vv s₄ => ∃ k t v u, kv = .str k t ∧ vv = .str v u ∧ k ∉ P.map Ent.k ∧ D ≠ h₂.objs.size ∧ (h₂.objs.size == sysModules) = false ∧
          s₄.heap.get? h₂.objs.size = some (entObj w [] 0) ∧ s₄.heap.get? D = some (entObj w P P.length) ∧
          ∀ h₆ : Heap, h₆.get? D = some (entObj w (P ++ [⟨k, t, v, u⟩]) (P ++ [⟨k, t, v, u⟩] : List Ent).length) → (∀ b o, b ≠ D → b ≠ h₂.objs.size → s₄.heap.get? b = some o → h₆.get? b = some o) → Q (.ref D) { s₄ with heap := h₆, toks := s₄.toks + 1 }) E s₃) E
          { s₁ with heap := h₂.push { cls := .type "dict", data := .dict #[] } }) E { s with heap := s.heap.push { cls := .type "dict", data := .dict #[] } }) :
    wpAny (model prog w) A (dictDisplay [(none, m1), (some k2, v2)]) Q E s := by
  subst hD
  unfold dictDisplay
  dsimp only
  simp only [List.forIn_cons, List.forIn_nil]
  refine wpAny_bind ?_
  refine wpAny_bind ?_
  refine wpAny_bind ?_
  simp only [List.isEmpty_nil, if_true]
  refine wpAny_pure ?_
  dsimp only
  refine wpAny_bind (wpAny_alloc ?_)
  refine wpAny_bind (wpAny_holding (wpAny_mono h (fun mv s₁ h₁ => ?_) (fun _ _ e => e)))
  obtain ⟨a, P, n₂, rfl, has, haD, ha, hD, hn, hl, hgo⟩ := h₁
  refine wpAny_bind (wpAny_onRaise (wpAny_tryCatch (wpAny_onRaise (wpAny_holding (ent_merge haD has ha hD (by simpa using hn) (by simp; omega) fun h₂ hd₂ hs₂ => ?_)))))
  refine wpAny_pure ?_
  dsimp only
  simp only [List.nil_append, List.length_singleton]
  refine wpAny_bind ?_
  rw [if_neg (by decide)]
  refine wpAny_pure ?_
  dsimp only
  refine wpAny_pure ?_
  dsimp only
  refine wpAny_bind ?_
  simp only [List.isEmpty_cons, Bool.false_eq_true, if_false]
  have hd₂' : h₂.get? s.heap.objs.size = some (entObj w P P.length) := by simpa using hd₂
  refine wpAny_bind (wpAny_holding ?_)
  unfold subDict
  refine wpAny_bind (wpAny_alloc ?_)
  refine wpAny_bind (wpAny_holding ?_)
  rw [if_pos (by simp)]
  refine wpAny_bind ?_
  refine evalPairs_cons (wpAny_mono (hgo h₂ hd₂' hs₂) (fun kv s₃ h₃ => wpAny_mono h₃ (fun vv s₄ h₄ => evalPairs_nil ?_) fun _ _ e => e) fun _ _ e => e)
  obtain ⟨k, t, v, u, rfl, rfl, hk, hDne, hD2s, hD2, hDD, hfin⟩ := h₄
  refine wpAny_holding ?_
  refine wpAny_bind ?_
  rw [List.forIn_cons]
  refine wpAny_bind (wpAny_bind (ent_set hD2 (by simp) (by simp) fun h₅ hd₅ hs₅ => wpAny_pure ?_))
  dsimp only
  rw [List.forIn_nil]
  refine wpAny_pure ?_
  refine wpAny_pure ?_
  refine wpAny_pure ?_
  have hDD5 : h₅.get? s.heap.objs.size = some (entObj w P P.length) := (hs₅.2 _ hDne).trans hDD
  have hd₅' : h₅.get? h₂.objs.size = some (entObj w [⟨k, t, v, u⟩] 1) := hd₅
  refine wpAny_bind (wpAny_onRaise (wpAny_holding (ent_merge (Ne.symm hDne) hD2s hd₅' hDD5 ?_ (by simp; omega) fun h₆ hd₆ hs₆ => ?_)))
  · rw [List.map_append, List.nodup_append]
    refine ⟨hn, by simp, ?_⟩
    intro x hx y hy e
    have e2 : y = k := by simpa using hy
    rw [e, e2] at hx
    exact hk hx
  · refine wpAny_pure ?_
    dsimp only
    refine wpAny_pure ?_
    refine hfin h₆ (by rw [List.length_append]; exact hd₆) fun b o h1 h2 e => ?_
    exact (hs₆.2 b h1).trans ((hs₅.2 b h2).trans e)
end
end Mine
end
section
open PySem PySem.W PySem.Calls PyProof.Rows PyProof.V PySem.Spec
set_option maxRecDepth 100000
namespace Mine
section
variable {prog : Program} {w : World} {A : Around} {E : Value → Shared → Prop} {s : Shared} {h₀ : Heap} {L : Addr} {m : Str → Option Value} {news : List (Addr × Obj)}

def StarEnd (w : World) (h₀ : Heap) (L : Addr) (m : Str → Option Value) (Q : Value → Shared → Prop) (D D2 : Addr) (P : List Ent) (news₁ : List (Addr × Obj)) (s₁ : Shared) (kv vv : Value) (s₄ : Shared) : Prop :=
  ∃ k t v u h₄ tk, kv = .str k t ∧ vv = .str v u ∧ k ∉ P.map Ent.k ∧ s₄ = { s₁ with heap := h₄, toks := tk } ∧ Fr h₀ L h₄ m ∧ News h₀ L h₄ ((D2, entObj w [] 0) :: (D, entObj w P P.length) :: news₁) ∧
    ∀ h₆ tk', Fr h₀ L h₆ m → News h₀ L h₆ ((D, entObj w (P ++ [⟨k, t, v, u⟩]) (P ++ [⟨k, t, v, u⟩] : List Ent).length) :: news₁) → Q (.ref D) { s₁ with heap := h₆, toks := tk' }

def StarSrc (prog : Program) (w : World) (A : Around) (E : Value → Shared → Prop) (h₀ : Heap) (L : Addr) (m : Str → Option Value) (env : Env) (kx vx : Expr) (Q : Value → Shared → Prop) (D : Addr) (mv : Value) (s₁ : Shared) : Prop :=
  ∃ a P n₂ news₁, mv = .ref a ∧ (a == sysModules) = false ∧ (a, entObj w P n₂) ∈ news₁ ∧ Fr h₀ L s₁.heap m ∧ News h₀ L s₁.heap ((D, entObj w [] 0) :: news₁) ∧ (∀ p ∈ news₁, p.1 ≠ D) ∧ (P.map Ent.k).Nodup ∧ P.length ≤ 900 ∧
    ∀ D2 h₂ tk₂, tk₂ = s₁.toks → Fr h₀ L h₂ m → News h₀ L h₂ ((D2, entObj w [] 0) :: (D, entObj w P P.length) :: news₁) → (∀ p ∈ news₁, p.1 < D2) → D < D2 →
      wpAny (model prog w) A (eval kx env) (fun kv s₃ => wpAny (model prog w) A (eval vx env) (fun vv s₄ => StarEnd w h₀ L m Q D D2 P news₁ s₁ kv vv s₄) E s₃) E { s₁ with heap := h₂, toks := tk₂ }

theorem StarSrc.intro {env : Env} {kx vx : Expr} {Q : Value → Shared → Prop} {D : Addr} {s₁ : Shared} {a : Addr} {P : List Ent} {n₂ : Nat} {news₁ : List (Addr × Obj)} (has : (a == sysModules) = false) (hm : (a, entObj w P n₂) ∈ news₁) (F : Fr h₀ L s₁.heap m) (N : News h₀ L s₁.heap ((D, entObj w [] 0) :: news₁))
    (off : ∀ p ∈ news₁, p.1 ≠ D) (hn : (P.map Ent.k).Nodup) (hl : P.length ≤ 900)
    (h : ∀ D2 h₂ tk₂, tk₂ = s₁.toks → Fr h₀ L h₂ m → News h₀ L h₂ ((D2, entObj w [] 0) :: (D, entObj w P P.length) :: news₁) → (∀ p ∈ news₁, p.1 < D2) → D < D2 →
      wpAny (model prog w) A (eval kx env) (fun kv s₃ => wpAny (model prog w) A (eval vx env) (fun vv s₄ => StarEnd w h₀ L m Q D D2 P news₁ s₁ kv vv s₄) E s₃) E { s₁ with heap := h₂, toks := tk₂ }) :
    StarSrc prog w A E h₀ L m env kx vx Q D (.ref a) s₁ := ⟨a, P, n₂, news₁, rfl, has, hm, F, N, off, hn, hl, h⟩

theorem Dict_star {env : Env} {mx kx vx : Expr} {pos : Pos} {Q : Value → Shared → Prop} (F : Fr h₀ L s.heap m) (N : News h₀ L s.heap news) (hlim : h₀.NoLimit)
    (h : ∀ D h', Fr h₀ L h' m → News h₀ L h' ((D, entObj w [] 0) :: news) → (∀ p ∈ news, p.1 < D) → (D == sysModules) = false →
      wpAny (model prog w) A (eval mx env) (StarSrc prog w A E h₀ L m env kx vx Q D) E { s with heap := h' }) :
    wpAny (model prog w) A (eval (.Dict [none, some kx] [mx, vx] pos) env) Q E s := by
  have hbig := modules_low hlim
  rw [arm_eval_Dict]
  refine wpAny_bind (wpAny_standAt ?_)
  show wpAny (model prog w) A (dictDisplay [(none, do let x ← eval mx env; standAt pos; pure x), (some (eval kx env), do let x ← eval vx env; standAt pos; pure x)]) Q E s
  refine display2 (D := s.heap.objs.size) rfl ?_
  have hh := h s.heap.objs.size _ (F.push { cls := .type "dict", data := .dict #[] }) (News.push F N _) (fun p hp => Heap.lt_size (N p hp).1) (F.notModules hbig)
  refine wpAny_bind (wpAny_mono hh (fun mv s₁ h₁ => wpAny_bind (wpAny_standAt (wpAny_pure ?_))) fun _ _ e => e)
  obtain ⟨a, P, n₂, news₁, rfl, has, hm, F₁, N₁, off, hn, hl, hgo⟩ := h₁
  have zD := N₁ _ (List.mem_cons_self)
  refine ⟨a, P, n₂, rfl, has, off _ hm, (N₁ _ (List.mem_cons_of_mem _ hm)).1, zD.1, hn, hl, fun h₂ hd₂ hs₂ => ?_⟩
  have F₂ : Fr h₀ L h₂ m := F₁.change hs₂ zD.2.1 zD.2.2
  have N₂ : News h₀ L h₂ ((s.heap.objs.size, entObj w P P.length) :: news₁) := fun p hp => by
    rcases List.mem_cons.mp hp with rfl | hp
    · exact ⟨hd₂, zD.2⟩
    · have z := N₁ p (List.mem_cons_of_mem _ hp)
      exact ⟨(hs₂.2 _ (off p hp)).trans z.1, z.2⟩
  have hDlt : @LT.lt Nat _ s.heap.objs.size h₂.objs.size := Heap.lt_size hd₂
  have hg := hgo h₂.objs.size _ s₁.toks rfl (F₂.push { cls := .type "dict", data := .dict #[] }) (News.push F₂ N₂ _) (fun p hp => Heap.lt_size (N₂ p (List.mem_cons_of_mem _ hp)).1) hDlt
  refine wpAny_mono hg (fun kv s₃ h₃ => wpAny_bind (wpAny_mono h₃ (fun vv s₄ h₄ => wpAny_bind (wpAny_standAt (wpAny_pure ?_))) fun _ _ e => e)) fun _ _ e => e
  obtain ⟨k, t, v, u, h₄', tk, rfl, rfl, hk, rfl, F₄, N₄, hfin⟩ := h₄
  have z2 := N₄ _ (List.mem_cons_self)
  have z1 := N₄ _ (List.mem_cons_of_mem _ List.mem_cons_self)
  refine ⟨k, t, v, u, rfl, rfl, hk, (by show @Ne Nat s.heap.objs.size h₂.objs.size; omega), F₂.notModules hbig, z2.1, z1.1, fun h₆ hd₆ hk₆ => ?_⟩
  have hne : ∀ b o, h₀.get? b = some o → b ≠ s.heap.objs.size ∧ b ≠ h₂.objs.size := by
    intro b o e
    constructor
    · intro q
      have z := z1.2.2
      rw [q] at e
      exact nomatch (z.symm.trans e)
    · intro q
      have z := z2.2.2
      rw [q] at e
      exact nomatch (z.symm.trans e)
  refine hfin h₆ _ ⟨F₄.ns.at' fun o e => hk₆ _ o (Ne.symm z1.2.1) (Ne.symm z2.2.1) e, fun b o e => hk₆ b o (hne b o e).1 (hne b o e).2 (F₄.keep b o e), F₄.above⟩ fun p hp => ?_
  rcases List.mem_cons.mp hp with rfl | hp
  · exact ⟨hd₆, z1.2⟩
  · have z := N₄ p (List.mem_cons_of_mem _ (List.mem_cons_of_mem _ hp))
    have hlt2 : @LT.lt Nat _ p.1 h₂.objs.size := Heap.lt_size (N₂ p (List.mem_cons_of_mem _ hp)).1
    exact ⟨hk₆ _ _ (off p hp) (by show @Ne Nat p.1 h₂.objs.size; omega) z.1, z.2⟩
end
end Mine
end
section
open PySem PySem.W PySem.Calls PyProof.Rows PyProof.V PySem.Spec
set_option maxRecDepth 100000
namespace Mine
section
variable {prog : Program} {w : World} {A : Around} {E : Value → Shared → Prop} {s : Shared} {h₀ : Heap} {L : Addr} {m : Str → Option Value} {env : Env}

/-- a list's comprehension over bytes -/
def BSrc (prog : Program) (w : World) (A : Around) (h₀ : Heap) (L : Addr) (m : Str → Option Value) (env : Env) (elt : Expr) (x : Str) (scope : Scope) (cl : List (Str × Addr)) (Fin : Shared → List Value → List (Addr × Obj) → Prop) (xv : Value) (s₁ : Shared) : Prop :=
  ∃ b t news, xv = .bytes b t ∧ A.handled = none ∧ Fr h₀ L s₁.heap m ∧ News h₀ L s₁.heap news ∧ b.size ≤ sizeLine ∧
    ∀ s₂ : Shared, (∃ h, s₂ = { s₁ with heap := h }) → LCg.CompRest prog w A h₀ L m env elt x scope cl s₂ (fun _ => True) (fun i v => ∃ c u, b[i]? = some c ∧ v = .int (c.toNat : Int) u) (Fin s₂) b.size 0 [] news

theorem BSrc.intro {elt : Expr} {x : Str} {scope : Scope} {cl : List (Str × Addr)} {Fin : Shared → List Value → List (Addr × Obj) → Prop} {b : Array UInt8} {t : Tok} {news : List (Addr × Obj)} {s₁ : Shared} (hh : A.handled = none) (F : Fr h₀ L s₁.heap m) (N : News h₀ L s₁.heap news) (hsz : b.size ≤ sizeLine)
    (h : ∀ g, LCg.CompRest prog w A h₀ L m env elt x scope cl { s₁ with heap := g } (fun _ => True) (fun i v => ∃ c u, b[i]? = some c ∧ v = .int (c.toNat : Int) u) (Fin { s₁ with heap := g }) b.size 0 [] news) :
    BSrc prog w A h₀ L m env elt x scope cl Fin (.bytes b t) s₁ := ⟨b, t, news, rfl, hh, F, N, hsz, fun _ ⟨g, e⟩ => e ▸ h g⟩

theorem ListComp_B {elt iter : Expr} {x : Str} {px : Pos} {scope : Scope} {cl : List (Str × Addr)} {pos : Pos} {Q : Value → Shared → Prop} (F₀ : Fr h₀ L s.heap m)
    (hclos : closureFor scope env = pure cl) (hcell : ∀ y ∈ scope.names, y.2 ≠ .cell) (hkind : scope.kind = .function)
    (hnames : ∀ y ∈ scope.names, y.2 = .local → scope.names.lookup y.1 = some .local) (hx : scope.names.lookup x = some .local)
    (h : wpAny (model prog w) A (eval iter env) (BSrc prog w A h₀ L m env elt x scope cl (fun s₂ => LCg.FinE h₀ L m s₂ Q)) E s)
    (hs : ∀ x, foldedSetIterable iter env x = pure x := by intro _; rfl) :
    wpAny (model prog w) A (eval (.ListComp elt [⟨.Name x px, iter, [], 0⟩] scope pos) env) Q E s := by
  rw [eval_ListComp]
  refine wpAny_comprehension_free (use := none) rfl hs hclos hkind hnames (wpAny_mono h (fun xv s₁ h₁ => ?_) fun _ _ e => e)
  obtain ⟨b, t, news, rfl, hh, F, N, hsz, R⟩ := h₁
  refine KBw.pyIter_bytes ?_
  refine LCg.block_U (KBw.walks hh s₁.heap.objs.size b t) hsz (fun i h st => by obtain ⟨o, e, _⟩ := st; exact ⟨o, e⟩) ?_ hcell hkind hx ⟨_, Heap.get?_push_size _ rfl, rfl, rfl⟩ (fun c hc => ?_)
    (F.keeps fun _ _ e => Heap.get?_push_of_some _ e) (N.grown fun _ _ e => Heap.get?_push_of_some _ e) (Nat.ne_of_lt F.ns.lt) (next_is_new F) (fun p hp => Nat.ne_of_lt (Heap.lt_size (N p hp).1)) trivial (R _ ⟨_, rfl⟩) ?_
  · intro i h h' o nw st e e' _ _ _
    obtain ⟨o', a, c, d⟩ := st
    rw [e] at a
    cases a
    exact ⟨_, e', c, d⟩
  · rw [List.mem_singleton.mp hc]
    show s₁.heap.objs.size < (s₁.heap.push _).objs.size
    rw [Heap.size_push]; exact Nat.lt_succ_self _
  · intro D C h tk m' ys news' F' N' o1 hn hC₀ hD₀ hCL hDL hCD offC fin
    refine ⟨m', hn, fun h'' hs'' => fin D h'' tk (F'.change hs'' hCL hC₀) (fun p hp => ?_) o1⟩
    refine ⟨hs''.extBut _ _ ?_ (N' p hp).1, (N' p hp).2⟩
    rcases List.mem_cons.mp hp with rfl | hp
    · exact Ne.symm hCD
    · exact offC p hp

theorem kct_bytes {elt : Expr} {x : Str} {scope : Scope} {cl : List (Str × Addr)} {S : List (Addr × Obj) → Prop} {Fin : List Value → List (Addr × Obj) → Prop} {news : List (Addr × Obj)} {b : Array UInt8} (g : Int → PySem.Str)
    (turn : ∀ k t I oI C oC D m₂ ys h tk (E' : Value → Shared → Prop), 0 ≤ k → k < 256 → LCg.NsObj oC m₂ → m₂ x = some (.int k t) → Fr h₀ L h m → News h₀ L h ((I, oI) :: (C, oC) :: (D, LCg.lst ys) :: news) → LCg.Off3 I C D news → ((@Ne Nat I C) ∧ (@Ne Nat I D) ∧ (@Ne Nat C D)) → KPfMark →
      wpAny (model prog w) A (eval elt (compEnvC scope cl C env)) (LCg.CompEnd h₀ L m { s with heap := h, toks := tk } I oI C oC D (LCg.lst ys) S (fun y news' => KCtEl news (g k) y news')) E' { s with heap := h, toks := tk })
    (fin : KPfDone (∀ ys, CarriedAll ys ((KBw.bInts b).map fun k => PyData.str (g k)) → (KBw.bInts b).length = b.size → Fin ys news)) : LCg.CompRest prog w A h₀ L m env elt x scope cl s S (fun i v => ∃ c u, b[i]? = some c ∧ v = .int (c.toNat : Int) u) Fin b.size 0 [] news :=
  kct_rest (ks := KBw.bInts b) g (KBw.ints_length b) (fun i v _ hv => by
    obtain ⟨c, u, hc, rfl⟩ := hv
    exact ⟨_, u, KBw.ints_get hc, rfl⟩)
    (fun k t I oI C oC D m₂ ys h tk E' hk hC hx F N off ne mk => turn k t I oI C oC D m₂ ys h tk E' (KBw.ints_in hk).1 (KBw.ints_in hk).2 hC hx F N off ne mk) fin

def chrS (k : Int) : Str := ⟨#[k.toNat]⟩
/-- the letters of Int2AP's word -/
def wordL (b : List UInt8) : Str := ⟨(b.map fun c => c.toNat).toArray⟩
theorem join_chr (b : Array UInt8) : Txt.join (Str.ofString "") ((KBw.bInts b).map chrS) = wordL b.toList := by
  have e0 : Str.ofString "" = (⟨#[]⟩ : Str) := by decide
  show Builtin.Str.glued (Str.ofString "") _ = _
  rw [StrLaws.glued_eq_join, e0]
  have e : (KBw.bInts b).map chrS = (b.toList.map fun c => c.toNat).map fun k => (⟨#[k]⟩ : Str) := by
    unfold KBw.bInts
    rw [List.map_map, List.map_map]
    apply List.map_congr_left
    intro c _
    simp [chrS]
  rw [e]
  exact PyProof.Rows.join_ones _
theorem wordL_len (b : List UInt8) : (wordL b).length = b.length := by
  simp [wordL, Str.length]
end
end Mine
end
section
open PySem PySem.W PySem.Calls PyProof.Rows PyProof.V PySem.Spec
set_option maxRecDepth 100000
namespace Mine
theorem ct_use2 {prog : Program} {w : World} {K : Frag} {p : Program} {loose : List Str} {mean : ExcName → Option Value} {mg mb : Str → Option Value} {k : Nat} {f : Addr} {news : List (Addr × Obj)} {vs : List Value} {R : Tok → Value} (C : Ct prog w K p loose mean mg mb k f news vs R)
    {dp un : Nat} {gd : Option (List Code)} {cn : Str} {cs : Scope} {a : Addr} {ccd : Value} {cl : List (Str × Addr)} {outer : List Env} {A₀ : Around} {base h₀ : Heap} {L : Addr} {m : Str → Option Value} {s : Shared} {Q E : Value → Shared → Prop}
    (B : Below A₀ base outer h₀) (F : Fr h₀ L s.heap m) (X : K.In h₀) (N : News h₀ L s.heap news) (T : Top p loose mean mg mb h₀) (hk : cs.kind = .function) (hd : dp + k < recursionLimit) (hu : un + 16 * k < cLine)
    (ret : ∀ (t : Tok) (h' : Heap) (tk' : Nat), @LE.le Nat _ s.toks tk' → Fr h₀ L h' m → News h₀ L h' news → Q (R t) { s with heap := h', toks := tk' }) :
    wpAny (model prog w) (ktrTop dp un gd cn cs L a ccd cl outer) (call (.ref f) vs) Q E s :=
  wpAny_with_toks (n := s.toks) (Nat.le_refl _) (C _ _ _ _ _ _ _ _ _ _ _ _ _ _ _ _ _ B F X N T hk hd hu fun t h' tk' F' N' hle => ret t h' tk' hle F' N')
end Mine
namespace Mine
/-- the numbers' text: a mark and the word's letters, in turn -/
def piece (nums : List Int) (k : Nat) : Str := pick3 (Str.ofString "<") (Str.ofString ">") (Str.ofString "&") ((k : Int).fmod 3) ++ wordL (ap (nums.getD k 0).natAbs)
def mtext (nums : List Int) : Nat → Str
  | 0 => Str.ofString ""
  | k + 1 => mtext nums k ++ piece nums k
end Mine
namespace Mine
theorem nums_bd (ns : List Int) (i : Nat) : 0 ≤ ((ns.take 3).map (fun (k' : Int) => k'.fmod 4096) ++ [1999, 240]).getD i 0 ∧ ((ns.take 3).map (fun (k' : Int) => k'.fmod 4096) ++ [1999, 240]).getD i 0 < 4096 := by
  have h : ∀ c ∈ (ns.take 3).map (fun (k' : Int) => k'.fmod 4096) ++ [1999, 240], 0 ≤ c ∧ c ≤ ((4095 : Nat) : Int) := by
    intro c hc
    rcases List.mem_append.mp hc with hc | hc
    · obtain ⟨k, _, rfl⟩ := List.mem_map.mp hc
      have e2 : k.fmod 4096 = k % 4096 := Int.fmod_eq_emod_of_nonneg _ (by decide)
      rw [e2]; omega
    · simp only [List.mem_cons, List.not_mem_nil, or_false] at hc
      omega
  have := getD_bounds h i
  omega
theorem nums_1 (ns : List Int) (i : Nat) : -1099511627776 < ((ns.take 3).map (fun (k' : Int) => k'.fmod 4096) ++ [1999, 240]).getD i 0 := by have := nums_bd ns i; omega
theorem nums_2 (ns : List Int) (i : Nat) : ((ns.take 3).map (fun (k' : Int) => k'.fmod 4096) ++ [1999, 240]).getD i 0 < 1099511627776 := by have := nums_bd ns i; omega
theorem nums_3 (ns : List Int) (i : Nat) : -1099511627776 < -((ns.take 3).map (fun (k' : Int) => k'.fmod 4096) ++ [1999, 240]).getD i 0 := by have := nums_bd ns i; omega
theorem nums_4 (ns : List Int) (i : Nat) : -((ns.take 3).map (fun (k' : Int) => k'.fmod 4096) ++ [1999, 240]).getD i 0 < 1099511627776 := by have := nums_bd ns i; omega
theorem ap_len10 {n : Int} (h1 : -1099511627776 < n) (h2 : n < 1099511627776) : (ap n.natAbs).length ≤ 10 := ap_len 10 (by omega)
theorem ap_sz {n : Int} (h1 : -1099511627776 < n) (h2 : n < 1099511627776) : (ap n.natAbs).toArray.size ≤ sizeLine := by
  rw [List.size_toArray, sizeLine_eq]
  have := ap_len10 h1 h2
  omega

section
variable {prog : Program} {w : World} {A : Around} {E : Value → Shared → Prop} {s : Shared} {t : Tok} {Q : Value → Shared → Prop}
theorem join_bytes {D : Addr} {ys : List Value} {b : Array UInt8} (hl : s.heap.IsList D ys.toArray) (hc : CarriedAll ys ((KBw.bInts b).map fun k => PyData.str (chrS k))) (hsz : b.size ≤ 1000)
    (h : ∀ t' k, Q (.str (wordL b.toList) t') { s with toks := k }) : wpAny (model prog w) A (call (.builtin "str.join") [.str (Str.ofString "") t, .ref D]) Q E s := by
  refine join_list hl (CarriedAll.strsOf hc) ?_ ?_
  · have e : (Str.ofString "").length = 0 := by decide +kernel
    rw [e, Nat.mul_zero, Nat.add_zero]
    refine Nat.le_trans (sum_le_of (B := 1) fun x hx => ?_) ?_
    · obtain ⟨y, hy, rfl⟩ := List.mem_map.mp hx
      obtain ⟨k, _, rfl⟩ := List.mem_map.mp hy
      exact Nat.le_refl _
    · rw [List.length_map, List.length_map, KBw.ints_length]
      omega
  · rw [join_chr]; exact h
end
theorem piece_len {nums : List Int} {k : Nat} (h : 0 ≤ nums.getD k 0 ∧ nums.getD k 0 < 4096) : (piece nums k).length ≤ 20 := by
  unfold piece
  rw [Str.length_append, wordL_len]
  have h1 : (pick3 (Str.ofString "<") (Str.ofString ">") (Str.ofString "&") ((k : Int).fmod 3)).length ≤ 1 := pick3_len (by decide +kernel) (by decide +kernel) (by decide +kernel)
  have h2 : (ap (nums.getD k 0).natAbs).length ≤ 10 := ap_len10 (by omega) (by omega)
  omega
theorem mtext_len {nums : List Int} (h : ∀ i, 0 ≤ nums.getD i 0 ∧ nums.getD i 0 < 4096) : ∀ k, (mtext nums k).length ≤ 20 * k
  | 0 => by show (Str.ofString "").length ≤ 0; decide +kernel
  | k + 1 => by
    show (mtext nums k ++ piece nums k).length ≤ _
    rw [Str.length_append]
    have h1 := mtext_len h k
    have h2 := piece_len (h k)
    omega
theorem mt_turn {nums : List Int} {p : List Int} {k : Int} {t : Str} {x : Int} (h : t = mtext nums p.length) (hk : k = 0 + (p.length : Int)) (hx : x.natAbs = (nums.getD k.toNat 0).natAbs) :
    t ++ (pick3 (Str.ofString "<") (Str.ofString ">") (Str.ofString "&") (k.fmod 3) ++ wordL (ap x.natAbs).toArray.toList) = mtext nums (p ++ [k]).length := by
  rw [List.length_append, List.length_singleton]
  show _ = mtext nums p.length ++ piece nums p.length
  have e : k = (p.length : Int) := by omega
  rw [← h, hx]
  subst e
  rw [List.toList_toArray]
  unfold piece
  rfl
theorem mt_sz1 {a0 a1 a2 : Str} {j : Int} {x : Int} (h0 : a0.length ≤ 10) (h1 : a1.length ≤ 10) (h2 : a2.length ≤ 10) (hx : -1099511627776 < x) (hx2 : x < 1099511627776) : (pick3 a0 a1 a2 j).length + (wordL (ap x.natAbs).toArray.toList).length ≤ sizeLine := by
  have e1 := pick3_len (j := j) h0 h1 h2
  have e2 := ap_len10 hx hx2
  rw [wordL_len, List.toList_toArray, sizeLine_eq]; omega
theorem mt_sz2 {nums : List Int} (h : ∀ i, 0 ≤ nums.getD i 0 ∧ nums.getD i 0 < 4096) {p : List Int} {t : Str} (ht : t = mtext nums p.length) (hp : p.length ≤ 100) {a0 a1 a2 : Str} {j : Int} {x : Int} (h0 : a0.length ≤ 10) (h1 : a1.length ≤ 10) (h2 : a2.length ≤ 10) (hx : -1099511627776 < x) (hx2 : x < 1099511627776) :
    t.length + (pick3 a0 a1 a2 j ++ wordL (ap x.natAbs).toArray.toList).length ≤ sizeLine := by
  have e1 := pick3_len (j := j) h0 h1 h2
  have e2 := ap_len10 hx hx2
  have e3 := mtext_len h p.length
  rw [ht, Str.length_append, wordL_len, List.toList_toArray, sizeLine_eq]; omega
end Mine
namespace Mine
theorem nums_len (ns : List Int) : ((ns.take 3).map (fun (k' : Int) => k'.fmod 4096) ++ [1999, 240]).length ≤ 5 := by
  rw [List.length_append, List.length_map, List.length_take]
  simp only [List.length_cons, List.length_nil]
  omega
theorem nums_len' (ns : List Int) {p : List Int} (h : p.length < ((((ns.take 3).map (fun (k' : Int) => k'.fmod 4096) ++ [1999, 240]).length : Int) - 0).toNat) : p.length ≤ 100 := by
  have := nums_len ns
  omega
end Mine
namespace Mine
theorem nums_len2 (ns : List Int) {p : List Int} (h : p.length < (((((ns.take 3).map (fun (k' : Int) => k'.fmod 4096)).length + (1 + 1) : Nat) : Int) - 0).toNat) : p.length ≤ 100 := by
  rw [List.length_map, List.length_take] at h
  omega
end Mine
end
section
open PySem PySem.W PySem.Calls PyProof.Rows PyProof.V PySem.Spec
set_option maxRecDepth 100000
namespace Mine
abbrev numsOf (ns : List Int) : List Int := (ns.take 3).map (fun (k' : Int) => k'.fmod 4096) ++ [1999, 240]
/-- the text of the numbers -/
def TextIs (T : Str) (ns : List Int) : Prop := T = mtext (numsOf ns) (numsOf ns).length
theorem TextIs.of {T : Str} {ns : List Int} (h : T = mtext (numsOf ns) (rangeKs 0 (((((ns.take 3).map (fun (k' : Int) => k'.fmod 4096)).length + (1 + 1) : Nat) : Int) - 0).toNat).length) : TextIs T ns := by
  unfold TextIs
  rw [h, rangeKs_length]
  congr 1
  rw [List.length_append]
  simp only [List.length_cons, List.length_nil]
  omega

theorem plus_cps (n : Int) : (Txt.mul (Str.ofString "+") n).cps.toList = List.replicate n.toNat 43 := by
  have e1 : (Str.ofString "+").cps = #[43] := by decide +kernel
  have e : ∀ (k : Nat) (acc : Array Nat), ((List.replicate k (#[43] : Array Nat)).foldl (· ++ ·) acc).toList = acc.toList ++ List.replicate k 43 := by
    intro k
    induction k with
    | zero => intro acc; simp
    | succ k ih =>
      intro acc
      rw [List.replicate_succ, List.foldl_cons, ih, List.replicate_succ]
      simp
  unfold Txt.mul
  by_cases h1 : n < 1
  · rw [if_pos h1]
    have : n.toNat = 0 := by omega
    rw [this]; rfl
  · rw [if_neg h1]
    split
    · rename_i h2
      simp only [Bool.or_eq_true, beq_iff_eq] at h2
      have e2 : (Str.ofString "+").length = 1 := by decide +kernel
      rw [e2] at h2
      have : n = 1 := by omega
      subst this
      rw [e1]; rfl
    · rw [e1]
      simpa using e n.toNat #[]

def kfL (j : Int) : Str := Txt.item (Str.ofString "ABCDEFGHIJKLMNOP") j
def vfL (b : Int) (j : Int) : Str := Txt.mul (Str.ofString "+") (dsI b j)
theorem kfL_eq {j : Int} (h0 : 0 ≤ j) (h1 : j < 16) : kfL j = ⟨#[65 + j.toNat]⟩ := by
  have : j = 0 ∨ j = 1 ∨ j = 2 ∨ j = 3 ∨ j = 4 ∨ j = 5 ∨ j = 6 ∨ j = 7 ∨ j = 8 ∨ j = 9 ∨ j = 10 ∨ j = 11 ∨ j = 12 ∨ j = 13 ∨ j = 14 ∨ j = 15 := by omega
  rcases this with h | h | h | h | h | h | h | h | h | h | h | h | h | h | h | h <;> subst h <;> decide +kernel
theorem ds_le (b : Nat) : ∀ n : Nat, ds b n ≤ n := by
  intro n
  induction n using Nat.strongRecOn with
  | _ n ih =>
    by_cases h : n = 0 ∨ b < 2
    · rw [ds, if_pos h]; exact Nat.zero_le _
    · rw [ds, if_neg h]
      have hn : n ≠ 0 := fun e => h (.inl e)
      have hb : ¬ b < 2 := fun e => h (.inr e)
      have h1 := ih (n / b) (Nat.div_lt_self (by omega) (by omega))
      have h2 : n % b + b * (n / b) = n := Nat.mod_add_div n b
      have h3 : 2 * (n / b) ≤ b * (n / b) := Nat.mul_le_mul_right _ (by omega)
      omega
theorem dsI_bd {b j : Int} (h0 : 0 ≤ j) : 0 ≤ dsI b j ∧ dsI b j ≤ j := by
  unfold dsI
  have := ds_le b.toNat j.toNat
  omega
theorem vfL_ok {b j : Int} (h0 : 0 ≤ j) (h1 : j < 16) : MulOk (Str.ofString "+") (dsI b j) := by
  have := dsI_bd (b := b) h0
  exact mulOk_of 1 4096 (by decide +kernel) (by omega) (by omega) (by decide) (by decide)
theorem str_ne {x y : Str} (h : x.cps.toList ≠ y.cps.toList) : (x == y) = false := by
  rw [beq_eq_false_iff_ne]
  intro e; rw [e] at h; exact h rfl
theorem entok1 {b j : Int} {t u : Tok} (h0 : 0 ≤ j) (h1 : j < 16) (ht : @LE.le Nat _ 1 t) (hu : @LT.lt Nat _ t u) : EntOk ⟨kfL j, t, vfL b j, u⟩ := by
  refine ⟨by show @Ne Nat t 0; omega, by show @Ne Nat u 0; omega, by show @Ne Nat t u; omega, ?_, ?_⟩
  · refine str_ne ?_
    show (kfL j).cps.toList ≠ (Txt.mul (Str.ofString "+") (dsI b j)).cps.toList
    rw [plus_cps, kfL_eq h0 h1]
    cases h : (dsI b j).toNat with
    | zero => simp
    | succ n =>
      rw [List.replicate_succ]
      intro e
      simp only [List.cons.injEq] at e
      omega
  · have := dsI_bd (b := b) h0
    exact plus_len (by omega)
theorem keys_nodup (b : Int) : ((specD kfL (vfL b) 0 1 16).map (·.1)).Nodup := by
  have e : (specD kfL (vfL b) 0 1 16).map (·.1) = (List.range 16).map fun (i : Nat) => (⟨#[65 + i]⟩ : Str) := by
    unfold specD
    rw [List.map_map]
    apply List.map_congr_left
    intro i hi
    have : i < 16 := List.mem_range.mp hi
    show kfL (0 + (i : Int) * 1) = _
    rw [kfL_eq (by omega) (by omega)]
    congr 3
    omega
  rw [e]
  decide +kernel

section
variable {prog : Program} {w : World} {A : Around} {E : Value → Shared → Prop} {s : Shared} {x y : Str} {t u : Tok} {Q : Value → Shared → Prop}
/-- a text taken n times: its token is the text's, or new -/
theorem mulT {n : Int} (hok : MulOk x n) (h : ∀ t' k, (@Eq Nat t' t ∧ @Eq Nat k s.toks) ∨ (@Eq Nat t' s.toks ∧ @Eq Nat k (s.toks + 1)) → Q (.str (Txt.mul x n) t') { s with toks := k }) : wpAny (model prog w) A (binaryOp .Mult (.str x t) (.int n u)) Q E s := by
  refine P.mul_str hok.1 hok.2.1 hok.2.2 ?_
  unfold Txt.mul at h
  by_cases h1 : n < 1
  · rw [if_pos h1]
    have h' := h s.toks (s.toks + 1) (.inr ⟨rfl, rfl⟩)
    rw [if_pos h1] at h'
    exact ⟨by decide, h'⟩
  · rw [if_neg h1]
    cases hc : (n == 1 || x.length == 0)
    · simp only [Bool.false_eq_true, if_false]
      have h' := h s.toks (s.toks + 1) (.inr ⟨rfl, rfl⟩)
      rw [if_neg h1, hc] at h'
      simp only [Bool.false_eq_true, if_false] at h'
      exact ⟨fits_reps (hok.2.2 h1 hc), h'⟩
    · simp only [if_true]
      have h' := h t s.toks (.inl ⟨rfl, rfl⟩)
      rw [if_neg h1, hc] at h'
      simp only [if_true] at h'
      exact h'
theorem ne_same (h : x = y) (hq : Q (.bool false) s) : wpAny (model prog w) A (compareOp .NotEq (.str x t) (.str y u)) Q E s := by
  subst h
  refine ne_str ?_
  simpa using hq
end
end Mine
namespace Mine
theorem nums_mem {ns : List Int} {c : Int} (hc : c ∈ numsOf ns) : 0 ≤ c ∧ c < 4096 := by
  rcases List.mem_append.mp hc with hc | hc
  · obtain ⟨k, _, rfl⟩ := List.mem_map.mp hc
    have e2 : k.fmod 4096 = k % 4096 := Int.fmod_eq_emod_of_nonneg _ (by decide)
    rw [e2]; omega
  · simp only [List.mem_cons, List.not_mem_nil, or_false] at hc
    omega
theorem nums_lo {ns : List Int} {c : Int} (hc : c ∈ numsOf ns) : 0 ≤ c := (nums_mem hc).1
theorem nums_hi {ns : List Int} {c : Int} (hc : c ∈ numsOf ns) : c < 1099511627776 := by have := (nums_mem hc).2; omega
theorem cs_bd1 {ns : List Int} {b : Int} : ∀ c ∈ (numsOf ns).map (fun k' => dsI b k'), 0 ≤ c ∧ c ≤ ((4096 : Nat) : Int) := by
  intro c hc
  obtain ⟨k, hk, rfl⟩ := List.mem_map.mp hc
  have h1 := nums_mem hk
  have h2 := dsI_bd (b := b) h1.1
  omega
theorem cs_bd2 {ns : List Int} {m : Int} (hm : 1 ≤ m ∧ m ≤ 100) : ∀ c ∈ (numsOf ns).map (fun k' => k'.fmod m), 0 ≤ c ∧ c ≤ ((4096 : Nat) : Int) := by
  intro c hc
  obtain ⟨k, hk, rfl⟩ := List.mem_map.mp hc
  have e2 : k.fmod m = k % m := Int.fmod_eq_emod_of_nonneg _ (by omega)
  rw [e2]
  have h1 := Int.emod_nonneg k (show m ≠ 0 by omega)
  have h2 := Int.emod_lt_of_pos k (show 0 < m by omega)
  omega
theorem cs_len {ns : List Int} {f : Int → Int} : ((numsOf ns).map f).length ≤ 5 := by rw [List.length_map]; exact nums_len ns
theorem ents_snoc {P : List Ent} {e : Ent} (hP : ∀ p ∈ P, EntOk p) (he : EntOk e) : ∀ p ∈ P ++ [e], EntOk p := by
  intro p hp
  rcases List.mem_append.mp hp with hp | hp
  · exact hP p hp
  · rw [List.mem_singleton.mp hp]; exact he
end Mine
end
section
open PySem PySem.W PySem.Calls PyProof.Rows PyProof.V PySem.Spec
set_option maxRecDepth 100000
namespace Mine
section
variable {prog : Program} {w : World} {A : Around} {E : Value → Shared → Prop} {s : Shared} {env : Env} {h₀ : Heap} {target : Expr} {body : List Stmt} {Q : Flow → Shared → Prop}

/-- the turns of a loop over a list, with the token counter's bound kept -/
def RestB (prog : Program) (w : World) (A : Around) (E : Value → Shared → Prop) (h₀ : Heap) (env : Env) (target : Expr) (body : List Stmt) (Q : Flow → Shared → Prop) (s : Shared) (I : Addr) (keep : Addr × Obj) : List Value → (Str → Option Value) → List (Addr × Obj) → Prop
  | [], m, news => ∀ h (tk : Nat), 1 ≤ tk → Fr h₀ env.locals h m → News h₀ env.locals h news → Q .next { s with heap := h, toks := tk }
  | v :: r, m, news => ∀ h (tk : Nat) (o : Obj), 1 ≤ tk → o.cls = .type "list_iterator" → Fr h₀ env.locals h m → News h₀ env.locals h ((I, o) :: news) →
      wpAny (model prog w) A (assign target env v) (fun _ s₂ => wpAny (model prog w) A (execs body env) (UnrPostW h₀ env.locals { s with heap := h, toks := tk } [(I, o)] (fun m' n' => SubL [keep] n' ∧ RestB prog w A E h₀ env target body Q s I keep r m' n') Q) E s₂) E { s with heap := h, toks := tk }
theorem RestB.val {I : Addr} {keep : Addr × Obj} {v : Value} {r : List Value} {m : Str → Option Value} {news : List (Addr × Obj)}
    (h : ∀ h (tk : Nat) (o : Obj), 1 ≤ tk → o.cls = .type "list_iterator" → Fr h₀ env.locals h m → News h₀ env.locals h ((I, o) :: news) →
      wpAny (model prog w) A (assign target env v) (fun _ s₂ => wpAny (model prog w) A (execs body env) (UnrPostW h₀ env.locals { s with heap := h, toks := tk } [(I, o)] (fun m' n' => SubL [keep] n' ∧ RestB prog w A E h₀ env target body Q s I keep r m' n') Q) E s₂) E { s with heap := h, toks := tk }) :
    RestB prog w A E h₀ env target body Q s I keep (v :: r) m news := h
theorem RestB.zero {I : Addr} {keep : Addr × Obj} {m : Str → Option Value} {news : List (Addr × Obj)}
    (h : ∀ h (tk : Nat), 1 ≤ tk → Fr h₀ env.locals h m → News h₀ env.locals h news → Q .next { s with heap := h, toks := tk }) :
    RestB prog w A E h₀ env target body Q s I keep [] m news := h

def ListAtB (prog : Program) (w : World) (A : Around) (h₀ : Heap) (env : Env) (target : Expr) (body : List Stmt) (Q : Flow → Shared → Prop) (E : Value → Shared → Prop) (xv : Value) (s₁ : Shared) : Prop :=
  ∃ ax lo vs n m news, xv = .ref ax ∧ A.handled = none ∧ Fr h₀ env.locals s₁.heap m ∧ News h₀ env.locals s₁.heap news ∧ (ax, lo) ∈ news ∧ lo.cls = .type "list" ∧ lo.data = .seq (vs : List Value).toArray n ∧ @LE.le Nat _ 1 s₁.toks ∧
    ∀ I : Addr, (∀ p ∈ news, p.1 < I) → RestB prog w A E h₀ env target body Q s₁ I (ax, lo) vs m news
theorem ListAtB.intro {s₁ : Shared} {ax : Addr} {lo : Obj} {vs : List Value} {n : Nat} {m : Str → Option Value} {news : List (Addr × Obj)} (hh : A.handled = none) (F : Fr h₀ env.locals s₁.heap m) (N : News h₀ env.locals s₁.heap news) (hm : (ax, lo) ∈ news) (hc : lo.cls = .type "list") (hd : lo.data = .seq vs.toArray n)
    (h1 : @LE.le Nat _ 1 s₁.toks) (rest : ∀ I : Addr, (∀ p ∈ news, p.1 < I) → RestB prog w A E h₀ env target body Q s₁ I (ax, lo) vs m news) : ListAtB prog w A h₀ env target body Q E (.ref ax) s₁ :=
  ⟨ax, lo, vs, n, m, news, rfl, hh, F, N, hm, hc, hd, h1, rest⟩

theorem For_listB {iter : Expr} {pos : Pos} {m : Str → Option Value} (_F : Fr h₀ env.locals s.heap m)
    (h : wpAny (model prog w) A (eval iter env) (fun xv s₁ => ListAtB prog w A h₀ env target body Q E xv s₁) E s)
    (hs : ∀ x, foldedSetIterable iter env x = pure x := by intro _; rfl)
    (hE : PassesOwn (model prog w) A env E := by passes_own) :
    wpAny (model prog w) A (exec (.For target iter body [] pos) env) Q E s := by
  refine wpAny_For (wpAny_mono h (fun xv s₁ h₁ => ?_) fun _ _ e => e) hs
  obtain ⟨ax, lo, vs, n, m, news, rfl, hh, F, N, hm, hc, hd, h1, rest₀⟩ := h₁
  have hax := N _ hm
  have hl : s₁.heap.IsList ax vs.toArray := ⟨lo, hax.1, hc, n, hd⟩
  have hlt : ax < s₁.heap.objs.size := Heap.lt_size hax.1
  have hne : ax ≠ s₁.heap.objs.size := Nat.ne_of_lt hlt
  have hLlt : env.locals < s₁.heap.objs.size := F.ns.lt
  have rest := rest₀ s₁.heap.objs.size fun p hp => Heap.lt_size (N p hp).1
  have hnI : h₀.get? s₁.heap.objs.size = none := next_is_new F
  have apart : ∀ p ∈ news, p.1 ≠ s₁.heap.objs.size := fun p hp => Nat.ne_of_lt (Heap.lt_size (N p hp).1)
  have old : ∀ b o, h₀.get? b = some o → b ≠ s₁.heap.objs.size := fun b o e hb => by rw [hb, hnI] at e; cases e
  clear rest₀
  generalize hI : s₁.heap.objs.size = I at *
  refine wpAny_pyIter_list hl ?_
  rw [hI]
  refine codeAny_forLoop_any (R := fun r s' => match r with | .ok f => Q f s' | .error e => cameBackBy (model prog w) A env E e s')
    (fun k s' => ∃ h' tk m' news' r, s' = { s₁ with heap := h', toks := tk } ∧ 1 ≤ tk ∧ h'.IsListIter I ax (vs.length - r.length) ∧ r.length ≤ vs.length ∧ vs.drop (vs.length - r.length) = r ∧ h'.IsList ax vs.toArray ∧ Fr h₀ env.locals h' m' ∧ News h₀ env.locals h' news' ∧ (∀ p ∈ news', p.1 ≠ I) ∧ SubL [(ax, lo)] news' ∧
      RestB prog w A E h₀ env target body Q s₁ I (ax, lo) r m' news' ∧ k = r.length) ?_ vs.length
    ⟨_, s₁.toks, m, news, vs, rfl, h1, ?_, Nat.le_refl _, by simp, ?_, F.push _, fun p hp => ⟨Heap.get?_push_of_some _ (N p hp).1, (N p hp).2⟩, apart, And.intro hm trivial, rest, rfl⟩
  rotate_left
  · rw [Nat.sub_self]
    exact ⟨_, hI ▸ Heap.get?_push_size _ rfl, rfl, rfl⟩
  · exact hl.at fun o e => Heap.get?_push_of_some _ e
  rintro k s' ⟨h', tk, m', news', r, rfl, htk, hit, hrl, hdr, hl', F', N', hnw, hsub, hR, rfl⟩
  have next : ∀ h₂ : Heap, (∀ b o, b ≠ I → h'.get? b = some o → h₂.get? b = some o) → Fr h₀ env.locals h₂ m' ∧ News h₀ env.locals h₂ news' := fun h₂ hk =>
    ⟨⟨F'.ns.at' fun o e => hk _ o (Nat.ne_of_lt hLlt) e, fun b o e => hk b o (old b o e) (F'.keep b o e), F'.above⟩, fun p hp => ⟨hk _ _ (hnw p hp) (N' p hp).1, (N' p hp).2⟩⟩
  cases r with
  | nil =>
    refine wpAny_pyNext_list_end hh hit hl' (by simp) fun h₂ hk => wpAny_execs_nil ?_
    obtain ⟨F₂, N₂⟩ := next h₂ fun b o hb e => hk b o hb e
    exact hR h₂ tk htk F₂ N₂
  | cons v r =>
    have hlen : r.length + 1 ≤ vs.length := hrl
    have hv : vs.toArray[vs.length - (r.length + 1)]? = some v := by
      have e : vs.drop (vs.length - (r.length + 1)) = v :: r := hdr
      have e2 := congrArg (fun l : List Value => l[0]?) e
      simpa using e2
    refine wpAny_pyNext_list_item hit hl' hv fun h₂ hit₂ hs₂ => ?_
    refine letGo_listiter hit₂ ?_
    obtain ⟨F₂, N₂⟩ := next h₂ fun b o hb e => hs₂.extBut b o hb e
    obtain ⟨oI, hoI, hcI, hdI⟩ := id hit₂
    have NI : News h₀ env.locals h₂ ((I, oI) :: news') := fun p hp => by
      rcases List.mem_cons.mp hp with rfl | hp
      · exact ⟨hoI, (Nat.ne_of_lt hLlt).symm, hnI⟩
      · exact N₂ p hp
    refine wpAny_mono (wpAny_toks_of (n := 1) htk (hR h₂ tk oI htk hcI F₂ NI)) (fun _ s₂ h₂' => wpAny_passesOwn hE (wpAny_mono (wpAny_toks_of (n := 1) h₂'.1 h₂'.2) (fun f s₃ p => ?_) fun _ _ e => e.2)) (fun e s' x => hE e s' x.2)
    have fin : ∀ s₃ : Shared, 1 ≤ s₃.toks → UnrEndW h₀ env.locals { s₁ with heap := h₂, toks := tk } [(I, oI)] (fun m' n' => SubL [(ax, lo)] n' ∧ RestB prog w A E h₀ env target body Q s₁ I (ax, lo) r m' n') s₃ →
        ∃ k, k < (v :: r).length ∧ ∃ h' tk m' news' r, s₃ = { s₁ with heap := h', toks := tk } ∧ 1 ≤ tk ∧ h'.IsListIter I ax (vs.length - r.length) ∧ r.length ≤ vs.length ∧ vs.drop (vs.length - r.length) = r ∧ h'.IsList ax vs.toArray ∧ Fr h₀ env.locals h' m' ∧ News h₀ env.locals h' news' ∧ (∀ p ∈ news', p.1 ≠ I) ∧ SubL [(ax, lo)] news' ∧
          RestB prog w A E h₀ env target body Q s₁ I (ax, lo) r m' news' ∧ k = r.length := by
      rintro s₃ ht ⟨h₃, tk₃, m₃, news₃, rfl, F₃, N₃, ho, hk, hR₃⟩
      refine ⟨r.length, by simp, h₃, tk₃, m₃, news₃, r, rfl, ht, ?_, by omega, ?_, ?_, F₃, fun p hp => N₃ p (List.mem_append_right _ hp), fun p hp => ho p hp _ (List.mem_singleton_self _), hk, hR₃, rfl⟩
      · refine ⟨oI, (N₃ (I, oI) (List.mem_append_left _ (List.mem_singleton_self _))).1, hcI, ?_⟩
        rw [hdI]
        have e : vs.length - (v :: r).length + 1 = vs.length - r.length := by rw [List.length_cons]; omega
        rw [e]
      · have e : vs.drop (vs.length - (r.length + 1)) = v :: r := hdr
        have e2 : vs.length - r.length = (vs.length - (r.length + 1)) + 1 := by omega
        rw [e2, ← List.drop_drop, e]
        rfl
      · exact ⟨lo, (N₃ _ (List.mem_append_right _ (hk.mem _ (List.mem_singleton_self _)))).1, hc, n, hd⟩
    obtain ⟨ht, p⟩ := p
    cases f with
    | ret v => exact p
    | brk => exact p
    | cont => exact fin _ ht p
    | next => exact fin _ ht p
end
end Mine
end
section
open PySem PySem.W PyProof.Rows
namespace Mine
local macro_rules | `(tactic| walk_at "subscriptTail Name Slice bytes ref") => `(tactic| (k_here; (with_reducible rename Fr _ _ _ _ => F'); (with_reducible rename News _ _ _ _ => N'); (with_unfolding_all refine' slice_ap (s := ⟨_, _, _, _, _⟩) F' N' ?k1 ?k2 ?k3); (case k2 => with_unfolding_all rfl); (case k3 => (intro _; with_unfolding_all rfl)); clear F' N'; intro h' t' k' F' N'; (try dsimp only)))
local macro_rules | `(tactic| walk_at "binaryOp Add bytes bytes") => `(tactic| (k_here; (with_unfolding_all refine' KBy.add_bytes ?k1 ?k2); (case k1 => exact ap_fits (by assumption) (by assumption)); intro t' k'))
set_option maxRecDepth 100000 in
set_option maxHeartbeats 8000000 in
theorem ct1_ap {w : World} {mean : ExcName → Option Value} {mg mb : Str → Option Value} (news : List (Addr × Obj)) (n : Int) (t : Tok) (hlo : -1099511627776 < n) (hhi : n < 1099511627776) :
   Ct PySem.Challenge.rw_ik0016_01.row.prog w (hd1.heap_39 w.params) hd1.view_39 (looseW hd1.view_39 [Str.ofString "escape", Str.ofString "unescape"]) mean mg mb 1 46 news [.int n t] (fun t => .bytes (ap n.natAbs).toArray t) := by
  w_top off
  k_fill
  intro dp un gd cn cs a ccd cl outer A₀ base h₀ L m s Q E B F X N T hk hd hu hret
  k_with "exec While Name cons nil" => k_while (fun _ (num : Int) (val : Array UInt8) => 0 ≤ num ∧ ap num.toNat ++ val.toList = ap n.natAbs) (fun _ num _ => num.toNat) "num" "val"
  refine wpAny_call ?_
  k_dflt cell_enter
  iterate 27 (first | walk1 | (dsimp only; walk1))
  k_with "state" => first | exact ap_start _ _ rfl | exact ap_turn (by assumption) (by assumption) (by assumption)
  k_with "measure" => exact ap_less (by assumption) (by assumption)
  have hW : (ap n.natAbs).length ≤ 1000 := Nat.le_trans (ap_len 10 (by omega)) (by decide)
  k_while (fun _ (num : Int) (val : Array UInt8) => 0 ≤ num ∧ ap num.toNat ++ val.toList = ap n.natAbs) (fun _ num _ => num.toNat) "num" "val"
  k_steps
  all_goals exact cb_retBy hret (ap_end (by assumption) (by assumption)) (by assumption) (by assumption)
  k_with_none
end Mine
end
section
open PySem PySem.W PySem.Calls PyProof.Rows
namespace Mine
local macro_rules | `(tactic| walk_at "call builtin:str.replace") => `(tactic| (k_here; (with_reducible rename EntOk _ => hE'); (with_reducible refine rep_call _ hE' (by assumption) ?_); intro _ _))
set_option maxRecDepth 100000 in
set_option maxHeartbeats 8000000 in
theorem ct1_rep {w : World} {mean : ExcName → Option Value} {mg mb : Str → Option Value} (news : List (Addr × Obj)) (d : Addr) (P : List Ent) (n : Nat) (x : Str) (t : Tok)
   (hm : (d, entObj w P n) ∈ news) (hs : (d == sysModules) = false) (hn : (P.map Ent.k).Nodup) (hP : ∀ p ∈ P, EntOk p) (hx : RepFits x P) :
   Ct PySem.Challenge.rw_ik0016_01.row.prog w (hd1.heap_39 w.params) hd1.view_39 (looseW hd1.view_39 [Str.ofString "escape", Str.ofString "unescape"]) mean mg mb 1 21 news [.str x t, .ref d] (fun t => .str (repAll x P) t) := by
  w_top off
  k_fill
  intro dp un gd cn cs a ccd cl outer A₀ base h₀ L m s Q E B F X N T hk hd hu hret
  refine wpAny_call ?_
  k_dflt cell_enter
  iterate 2 (first | walk1 | (dsimp only; walk1))
  rename Fr _ _ _ _ => lF'
  rename News _ _ _ _ => lN'
  have hT' := ent_tabAt (prog := PySem.Challenge.rw_ik0016_01.row.prog) hs (lN' _ hm).1 hn
  with_unfolding_all refine' For_turns lF' ?_
  k_whole
  with_unfolding_all refine MethodCall_ ?_
  with_unfolding_all refine ld lF' (by rfl) ?_
  with_unfolding_all refine getMethod_tab (knd := PySem.strKind _ _) (enc := PyData.str) PySem.F.slot_dict_items PySem.F.type_dict_items hT' ?_
  with_unfolding_all refine callWith_method0 ?_
  with_unfolding_all refine call_items_tab (knd := PySem.strKind _ _) (enc := PyData.str) hT' lF' lN' ?_
  intro h' o' hv' F' N'
  replace N' := kti_tail N'
  with_unfolding_all refine ent_items (by rfl) F' N' hv' hm hn ?_
  clear lF' lN' hT'
  intro I hI
  with_unfolding_all refine rep_rest0 (sN := Str.ofString "s") (x := x) (t := t) (by rfl) (And.intro hm trivial) hI hP hx ?_ ?_
  · intro p hp
    unfold RepTurn
    intro x' t' u' T h tk' oi Q' hok hlen hT hF ho hN hQ
    k_steps
    refine' hQ _ _ _ _ ?k1 ?k2 ?k3
    (case k2 => assumption)
    (case k3 => assumption)
    (case k1 => rfl)
  · intro t' u' h tk' hF hN
    k_steps
    all_goals exact cb_retS hret rfl (by assumption) (by assumption)
end Mine
end
section
open PySem PySem.W PySem.Calls PyProof.Rows
namespace Mine
def esc3 (x : Str) : Str := Txt.replace (Txt.replace (Txt.replace x (Str.ofString "&") (Str.ofString "&amp;")) (Str.ofString ">") (Str.ofString "&gt;")) (Str.ofString "<") (Str.ofString "&lt;")
def une2 (x : Str) : Str := Txt.replace (Txt.replace x (Str.ofString "&lt;") (Str.ofString "<")) (Str.ofString "&gt;") (Str.ofString ">")
local macro_rules | `(tactic| cell_enter) => `(tactic| (refine' code_def ?k1 ?k2 ?k3 ?k4 ?k5 ?kA ?kF ?kK ?k6 ?k7 ?k8 ?k9 ?kB ?_ ?c2 ?c3 ?c4 ?c5; (case kA => exact rfl); (case kF => exact rfl); (case kK => assumption); (case k1 => k_asm); (case k2 => k_asm); (case k3 => k_asm); (case k4 => k_asm); (case k5 => k_asm); (case k6 => k_is); (case k7 => k_is); (case k8 => ktr_room); (case k9 => exact binds_K (by k_in) rfl (by k_is) rfl rfl rfl); (case c5 => decide); (case kB => exact locs rfl); (case c2 => exact rfl); (case c3 => exact rfl); (case c4 => exact rfl); k_whole; intro g' L' h' FG' F' N' B' X' T'; (try dsimp only); (try k_lift B'); (try k_fold)))
local macro_rules | `(tactic| walk_at "call builtin:str.replace") => `(tactic| (k_here; (refine SC.replaceW (by ((show @Ne Nat _ _); omega)) (by ((show @Ne Nat _ _); omega)) (by ((show @Ne Nat _ _); omega)) (by decide +kernel) (by omega) (by decide +kernel) ?_); intro _ _))
local macro_rules | `(tactic| walk_at "truthy ref") => `(tactic| (k_here; (with_unfolding_all refine' ent_falsy ?k1 ?k2 ?k3 ?k4 ?_); (case k1 => k_asm); (case k2 => k_asm); (case k3 => k_is); (case k4 => rfl)))
local macro_rules | `(tactic| walk_at "truthy ref") => `(tactic| (k_here; (with_reducible rename News _ _ _ _ => N'); (with_unfolding_all refine' ent_truthy N' ?k1 ?k2 ?k3 ?k4 ?k5 ?_); (case k1 => assumption); (case k2 => assumption); (case k3 => assumption); (case k4 => assumption); (case k5 => assumption)))
local macro_rules | `(tactic| walk_at "execs nil") => `(tactic| (k_here; (refine' gen_toks ?k1 ?_); (case k1 => first | omega | (dsimp only; omega) | with_unfolding_all exact one_le2 rfl | with_unfolding_all exact one_le1 rfl | with_unfolding_all exact one_le3 rfl | with_unfolding_all exact one_le4 rfl); intro tk9 htk9; refine wpAny_execs_nil ?_))
local macro_rules | `(tactic| walk_at "execs cons") => `(tactic| (k_here; (refine' gen_toks ?k1 ?_); (case k1 => first | omega | (dsimp only; omega) | with_unfolding_all exact one_le2 rfl | with_unfolding_all exact one_le1 rfl | with_unfolding_all exact one_le3 rfl | with_unfolding_all exact one_le4 rfl); intro tk9 htk9; refine wpAny_execs_cons ?_))
local macro_rules | `(tactic| walk_at "call ref") => `(tactic| (k_here; k_dflt (refine' ct_use (ct1_rep _ _ _ _ _ _ ?h1 ?h2 ?h3 ?h4 ?h5) ?k1 ?k2 ?k3 ?k4 ?k5 ?kK ?kd ?ku ?kR; (case h1 => assumption); (case h2 => assumption); (case h3 => assumption); (case h4 => assumption); (case k1 => k_asm); (case k2 => k_asm); (case k3 => k_asm); (case k4 => k_asm); (case k5 => k_asm); (case kK => first | exact rfl | assumption); (case kd => ktr_room); (case ku => ktr_units); (case h5 => assumption)); intro t9 h9 tk9 F9 N9; (try dsimp only); (try k_fold)))
set_option maxRecDepth 100000 in
set_option maxHeartbeats 8000000 in
theorem ct1_esc {w : World} {mean : ExcName → Option Value} {mg mb : Str → Option Value} (news : List (Addr × Obj)) (d : Addr) (P : List Ent) (n : Nat) (x : Str) (t : Tok)
   (hm : (d, entObj w P n) ∈ news) (hs : (d == sysModules) = false) (hn : (P.map Ent.k).Nodup) (hP : ∀ p ∈ P, EntOk p) (hne : 0 < P.length) (hl : P.length ≤ 100) (h0 : x.length ≤ 65535) (h1 : (Txt.replace x (Str.ofString "&") (Str.ofString "&amp;")).length ≤ 65535)
   (h2 : (Txt.replace (Txt.replace x (Str.ofString "&") (Str.ofString "&amp;")) (Str.ofString ">") (Str.ofString "&gt;")).length ≤ 65535) (hx : RepFits (esc3 x) P) :
   Ct PySem.Challenge.rw_ik0016_01.row.prog w (hd1.heap_39 w.params) hd1.view_39 (looseW hd1.view_39 [Str.ofString "escape", Str.ofString "unescape"]) mean mg mb 2 30 news [.str x t, .ref d] (fun t => .str (repAll (esc3 x) P) t) := by
  w_top off
  k_fill
  intro dp un gd cn cs a ccd cl outer A₀ base h₀ L m s Q E B F X N T hk hd hu hret
  (try dsimp only [une2, esc3] at *)
  refine wpAny_call ?_
  k_dflt cell_enter
  k_steps
  all_goals exact cb_retS hret rfl (by assumption) (by assumption)
set_option maxRecDepth 100000 in
set_option maxHeartbeats 8000000 in
theorem ct1_une {w : World} {mean : ExcName → Option Value} {mg mb : Str → Option Value} (news : List (Addr × Obj)) (d : Addr) (P : List Ent) (n : Nat) (x : Str) (t : Tok)
   (hm : (d, entObj w P n) ∈ news) (hs : (d == sysModules) = false) (hn : (P.map Ent.k).Nodup) (hP : ∀ p ∈ P, EntOk p) (hne : 0 < P.length) (hl : P.length ≤ 100) (h0 : x.length ≤ 65535) (h1 : (Txt.replace x (Str.ofString "&lt;") (Str.ofString "<")).length ≤ 65535)
   (hx : RepFits (une2 x) P) (h2 : (repAll (une2 x) P).length ≤ 65535) :
   Ct PySem.Challenge.rw_ik0016_01.row.prog w (hd1.heap_39 w.params) hd1.view_39 (looseW hd1.view_39 [Str.ofString "escape", Str.ofString "unescape"]) mean mg mb 2 39 news [.str x t, .ref d] (fun t => .str (Txt.replace (repAll (une2 x) P) (Str.ofString "&amp;") (Str.ofString "&")) t) := by
  w_top off
  k_fill
  intro dp un gd cn cs a ccd cl outer A₀ base h₀ L m s Q E B F X N T hk hd hu hret
  (try dsimp only [une2, esc3] at *)
  refine wpAny_call ?_
  k_dflt cell_enter
  k_steps
  all_goals exact cb_retS hret rfl (by assumption) (by assumption)
set_option maxRecDepth 100000 in
set_option maxHeartbeats 8000000 in
theorem ct1_une0 {w : World} {mean : ExcName → Option Value} {mg mb : Str → Option Value} (news : List (Addr × Obj)) (x : Str) (t : Tok)
   (h0 : x.length ≤ 65535) (h1 : (Txt.replace x (Str.ofString "&lt;") (Str.ofString "<")).length ≤ 65535) (h2 : (une2 x).length ≤ 65535) :
   Ct PySem.Challenge.rw_ik0016_01.row.prog w (hd1.heap_39 w.params) hd1.view_39 (looseW hd1.view_39 [Str.ofString "escape", Str.ofString "unescape"]) mean mg mb 2 39 news [.str x t] (fun t => .str (Txt.replace (une2 x) (Str.ofString "&amp;") (Str.ofString "&")) t) := by
  w_top off
  k_fill
  intro dp un gd cn cs a ccd cl outer A₀ base h₀ L m s Q E B F X N T hk hd hu hret
  (try dsimp only [une2, esc3] at *)
  refine wpAny_call ?_
  k_dflt cell_enter
  k_steps
  all_goals exact cb_retS hret rfl (by assumption) (by assumption)
end Mine
end
section
open PySem PySem.W PySem.Calls PyProof.Rows
namespace Mine
set_option maxRecDepth 100000 in
set_option maxHeartbeats 8000000 in
theorem ct1_added {w : World} {mean : ExcName → Option Value} {mg mb : Str → Option Value} (news : List (Addr × Obj)) (n b : Int) (t u : Tok) (hn : 0 ≤ n) (hn2 : n < 1099511627776) (hb : 2 ≤ b) (hb2 : b ≤ 16) :
   Ct PySem.Challenge.rw_ik0016_01.row.prog w (hd1.heap_39 w.params) hd1.view_39 (looseW hd1.view_39 [Str.ofString "escape", Str.ofString "unescape"]) mean mg mb 1 53 news [.int n t, .int b u] (fun t => .int (dsI b n) t) := by
  w_top off
  k_fill
  intro dp un gd cn cs a ccd cl outer A₀ base h₀ L m s Q E B F X N T hk hd hu hret
  k_with "state" => first | exact ⟨hn, Int.le_refl _, Int.zero_add _⟩ | exact added_turn hb ⟨by assumption, by assumption, by assumption⟩
  k_with "measure" => exact (fdiv_facts hb (by assumption)).2 (by assumption)
  k_with "exec While Name cons nil" => k_while (fun _ (count total : Int) => 0 ≤ count ∧ count ≤ n ∧ total + dsI b count = dsI b n) (fun _ count _ => count.toNat) "count" "total"
  refine wpAny_call ?_
  k_dflt cell_enter
  k_steps
  all_goals (first | exact cb_retI hret (added_end ⟨by assumption, by assumption, by assumption⟩ (by assumption)) (by assumption) (by assumption))
end Mine
end
section
open PySem PySem.W PySem.Calls PyProof.Rows
namespace Mine
set_option maxRecDepth 100000 in
set_option maxHeartbeats 8000000 in
theorem ct1_left16 {w : World} {mean : ExcName → Option Value} {mg mb : Str → Option Value} (news : List (Addr × Obj)) (n : Int) (t u : Tok) (hn : 0 ≤ n) (hn2 : n < 1099511627776) :
   Ct PySem.Challenge.rw_ik0016_01.row.prog w (hd1.heap_39 w.params) hd1.view_39 (looseW hd1.view_39 [Str.ofString "escape", Str.ofString "unescape"]) mean mg mb 1 60 news [.int n t, .int 16 u] (fun t => .int (dsI 16 n) t) := by
  w_top off
  k_fill
  intro dp un gd cn cs a ccd cl outer A₀ base h₀ L m s Q E B F X N T hk hd hu hret
  k_with_none
  k_with "state" => first | exact left_start (by decide) hn | exact left_turn (by decide) ⟨by assumption, by assumption, by assumption⟩
  k_with "measure" => exact (fdiv_facts (by decide) (by assumption)).2 (by assumption)
  k_with "exec While Name cons nil" => k_while (fun _ (quotient left : Int) => 0 ≤ quotient ∧ quotient ≤ n ∧ left + dsI 16 quotient = dsI 16 n + 16 * quotient) (fun _ quotient _ => quotient.toNat) "quotient" "left"
  refine wpAny_call ?_
  k_dflt cell_enter
  k_steps
  all_goals (first | exact cb_retI hret (left_end ⟨by assumption, by assumption, by assumption⟩ (by assumption)) (by assumption) (by assumption))
set_option maxRecDepth 100000 in
set_option maxHeartbeats 8000000 in
theorem ct1_left4 {w : World} {mean : ExcName → Option Value} {mg mb : Str → Option Value} (news : List (Addr × Obj)) (n : Int) (t u : Tok) (hn : 0 ≤ n) (hn2 : n < 1099511627776) :
   Ct PySem.Challenge.rw_ik0016_01.row.prog w (hd1.heap_39 w.params) hd1.view_39 (looseW hd1.view_39 [Str.ofString "escape", Str.ofString "unescape"]) mean mg mb 1 60 news [.int n t, .int 4 u] (fun t => .int (dsI 4 n) t) := by
  w_top off
  k_fill
  intro dp un gd cn cs a ccd cl outer A₀ base h₀ L m s Q E B F X N T hk hd hu hret
  k_with_none
  k_with "state" => first | exact left_start (by decide) hn | exact left_turn (by decide) ⟨by assumption, by assumption, by assumption⟩
  k_with "measure" => exact (fdiv_facts (by decide) (by assumption)).2 (by assumption)
  k_with "exec While Name cons nil" => k_while (fun _ (quotient left : Int) => 0 ≤ quotient ∧ quotient ≤ n ∧ left + dsI 4 quotient = dsI 4 n + 4 * quotient) (fun _ quotient _ => quotient.toNat) "quotient" "left"
  refine wpAny_call ?_
  k_dflt cell_enter
  k_steps
  all_goals (first | exact cb_retI hret (left_end ⟨by assumption, by assumption, by assumption⟩ (by assumption)) (by assumption) (by assumption))
set_option maxRecDepth 100000 in
set_option maxHeartbeats 8000000 in
theorem ct1_left2 {w : World} {mean : ExcName → Option Value} {mg mb : Str → Option Value} (news : List (Addr × Obj)) (n : Int) (t u : Tok) (hn : 0 ≤ n) (hn2 : n < 1099511627776) :
   Ct PySem.Challenge.rw_ik0016_01.row.prog w (hd1.heap_39 w.params) hd1.view_39 (looseW hd1.view_39 [Str.ofString "escape", Str.ofString "unescape"]) mean mg mb 1 60 news [.int n t, .int 2 u] (fun t => .int (dsI 2 n) t) := by
  w_top off
  k_fill
  intro dp un gd cn cs a ccd cl outer A₀ base h₀ L m s Q E B F X N T hk hd hu hret
  k_with_none
  k_with "state" => first | exact left_start (by decide) hn | exact left_turn (by decide) ⟨by assumption, by assumption, by assumption⟩
  k_with "measure" => exact (fdiv_facts (by decide) (by assumption)).2 (by assumption)
  k_with "exec While Name cons nil" => k_while (fun _ (quotient left : Int) => 0 ≤ quotient ∧ quotient ≤ n ∧ left + dsI 2 quotient = dsI 2 n + 2 * quotient) (fun _ quotient _ => quotient.toNat) "quotient" "left"
  refine wpAny_call ?_
  k_dflt cell_enter
  k_steps
  all_goals (first | exact cb_retI hret (left_end ⟨by assumption, by assumption, by assumption⟩ (by assumption)) (by assumption) (by assumption))
end Mine
end
section
open PySem PySem.W PySem.Calls PyProof.Rows
namespace Mine
def textF (a0 a1 a2 : Str) (cs : List Int) : Str := Txt.join (Str.ofString "") ((rangeKs 0 cs.length).map (elF a0 a1 a2 cs))
theorem textF_eq (a0 a1 a2 : Str) (cs : List Int) : Txt.join (Str.ofString "") ((rangeKs 0 ((cs.length : Int) - 0).toNat).map (elF a0 a1 a2 cs)) = textF a0 a1 a2 cs := by
  have e : ((cs.length : Int) - 0).toNat = cs.length := by omega
  rw [e]; rfl
local macro_rules | `(tactic| cell_enter) => `(tactic| (refine' code_defC ?k1 ?k2 ?k3 ?k4 ?k5 ?kA ?kF ?kK ?k6 ?k7 ?k8 ?k9 ?kB ?kD ?_ ?c2 ?c3 ?c4; (case kA => exact rfl); (case kF => exact rfl); (case kK => assumption); (case k1 => k_asm); (case k2 => k_asm); (case k3 => k_asm); (case k4 => k_asm); (case k5 => k_asm); (case k6 => k_is); (case k7 => k_is); (case k8 => ktr_room); (case k9 => exact BindsTo.of_eq rfl); (case kB => exact rfl); (case kD => decide +kernel); (case c2 => exact rfl); (case c3 => exact rfl); (case c4 => exact rfl); k_whole; intro g' L' h' tk' cells' FG' F' N' Y' B' X' T' l1; (try k_lt l1); k_cells Y'; (try simp only [List.cons_append, List.nil_append] at N'); (try dsimp only); (try k_lift B'); (try k_fold)))
local macro_rules | `(tactic| walk_at "CompSrc") => `(tactic| k_extra "CompSrc")
local macro_rules | `(tactic| walk_at "CompEnd") => `(tactic| k_extra "CompEnd")
local macro_rules | `(tactic| walk_at "KCtEl") => `(tactic| k_extra "KCtEl")
local macro_rules | `(tactic| walk_at "call builtin:str.join") => `(tactic| k_extra "call builtin:str.join")
local macro_rules | `(tactic| walk_at "binaryOp Mult str int") => `(tactic| k_extra "binaryOp Mult str int")
local macro_rules | `(tactic| walk_at "binaryOp Add str str") => `(tactic| k_extra "binaryOp Add str str")
local macro_rules | `(tactic| walk_at "subscriptTail") => `(tactic| (k_here; (with_reducible rename News _ _ _ _ => N'); (with_unfolding_all refine' pick3_item N' ?k1 ?k2 ?_ ?k3); (case k1 => k_mem); (case k2 => exact fmod3 _); (case k3 => with_unfolding_all rfl); intro _))
set_option maxRecDepth 100000 in
set_option maxHeartbeats 8000000 in
theorem ct1_text {w : World} {mean : ExcName → Option Value} {mg mb : Str → Option Value} (news : List (Addr × Obj)) (al ll : Addr) (a0 a1 a2 : Str) (t0 t1 t2 : Tok) (na nc : Nat) (vs : List Value) (cs : List Int)
   (hal : (al, listOf #[.str a0 t0, .str a1 t1, .str a2 t2] na) ∈ news) (hcl : (ll, listOf vs.toArray nc) ∈ news) (hi : IntsAre vs cs) (hlen : cs.length ≤ 5) (hb : ∀ c ∈ cs, 0 ≤ c ∧ c ≤ ((4096 : Nat) : Int)) (h0 : a0.length ≤ 10) (h1 : a1.length ≤ 10) (h2 : a2.length ≤ 10) :
   Ct PySem.Challenge.rw_ik0016_01.row.prog w (hd1.heap_39 w.params) hd1.view_39 (looseW hd1.view_39 [Str.ofString "escape", Str.ofString "unescape"]) mean mg mb 1 65 news [.ref al, .ref ll] (fun t => .str (textF a0 a1 a2 cs) t) := by
  w_top off
  k_fill
  intro dp un gd cn cs' a ccd cl outer A₀ base h₀ L m s Q E B F X N T hk hd hu hret
  replace N := news_put (List.mem_cons_of_mem _ hal) (news_put hcl N)
  k_with_none
  k_with "CompSrc" => (k_dflt (refine LCg.CompSrc.range (by rfl) (by k_asm) (by k_asm) (by assumption) (by first | decide | exact small_one (by l_bnd) (by l_bnd) (by l_bnd) (by l_bnd)) (by first | exact rangeSize_nat _ _ | rfl) (by first | exact Nat.le_of_ble_eq_true rfl | (rw [PySem.sizeLine_eq]; omega)) ?_; intro g'; (refine' kct_range (elF a0 a1 a2 cs) (fun k' t' I' oI' C' oC' D' m' ys' h' tk' E' hlo' hhi' hC' hx' F' N' off' ne' hM' => ?_) ?_); kcf_last))
  k_with "CompEnd" => (refine LCg.CompEnd.intro (by assumption) (by assumption) _ (fun p hp => hp) (by assumption) True.intro ?_)
  k_with "binaryOp Mult str int" => (refine SB.mul (plus_ok hb _) ?_; intro _ _)
  k_with "binaryOp Add str str" => ((with_unfolding_all refine' SB.add ?_ ?kz); (case kz => exact elF_sz h0 h1 h2 hb); intro _ _)
  k_with "KCtEl" => exact kct_el (by rfl) (by rfl) (by rfl)
  k_with "call builtin:str.join" => ((with_reducible rename CarriedAll _ (List.map _ _) => ktC); (refine join_list (by first | assumption | is_list | exact News.isList (by k_asm) (by k_mem)) (CarriedAll.strsOf ktC) (textF_fits h0 h1 h2 hb hlen) ?_); intro _ _)
  refine wpAny_call ?_
  k_dflt cell_enter
  k_steps
  all_goals (rename News h₀ _ _ _ => kN; exact cb_retS hret (textF_eq _ _ _ _) (by assumption) (cb_drop kN (by intro p hp; repeat (first | exact hp | refine List.mem_cons_of_mem _ ?_))))
end Mine
end
section
open PySem PySem.W PySem.Calls PyProof.Rows PyProof.V PySem.Spec
namespace Mine
open PySem.Builtin PySem.Builtin.Str PySem.StrLaws
/-- str.replace over code points: a scan from the left; the number is how many signs are still to be passed over -/
def repS (y z : List Nat) : Nat → List Nat → List Nat
  | _, [] => []
  | k + 1, _ :: l => repS y z k l
  | 0, a :: l => if y.isPrefixOf (a :: l) then z ++ repS y z (y.length - 1) l else a :: repS y z 0 l
def rep (y z l : List Nat) : List Nat := repS y z 0 l
theorem repS_drop (y z : List Nat) : ∀ (k : Nat) (l : List Nat), repS y z k l = repS y z 0 (l.drop k)
  | 0, l => by simp
  | k + 1, [] => by simp [repS]
  | k + 1, a :: l => by
    show repS y z k l = _
    rw [repS_drop y z k l]; rfl
theorem rep_nil (y z : List Nat) : rep y z [] = [] := rfl
theorem rep_hit {y z l : List Nat} (hy : y ≠ []) (h : y.isPrefixOf l = true) : rep y z l = z ++ rep y z (l.drop y.length) := by
  cases l with
  | nil => cases y with
    | nil => exact absurd rfl hy
    | cons => exact nomatch h
  | cons a l =>
    show repS y z 0 (a :: l) = _
    unfold repS
    rw [if_pos h, repS_drop]
    obtain ⟨b, y', rfl⟩ := List.exists_cons_of_ne_nil hy
    rfl
theorem rep_miss {y z l : List Nat} {a : Nat} (h : y.isPrefixOf (a :: l) = false) : rep y z (a :: l) = a :: rep y z l := by
  show repS y z 0 (a :: l) = _
  unfold repS
  rw [if_neg (by rw [h]; exact Bool.false_ne_true)]; rfl
theorem rep_app {y z l : List Nat} (hy : y ≠ []) : rep y z (y ++ l) = z ++ rep y z l := by
  rw [rep_hit hy (by rw [List.isPrefixOf_iff_prefix]; exact List.prefix_append _ _)]
  simp
theorem at_iff (x y : Str) (i : Nat) : At x y x.length i ↔ i + y.length ≤ x.length ∧ y.cps.toList.isPrefixOf (x.cps.toList.drop i) = true := by
  unfold At
  refine and_congr_right fun hb => ?_
  rw [subAt_eq]
  have hy : y.cps.toList.length = y.length := by simp [Str.length]
  constructor
  · intro h
    have e := eq_of_beq h
    rw [List.isPrefixOf_iff_prefix, List.prefix_iff_eq_take, hy]
    exact e.symm
  · intro h
    rw [List.isPrefixOf_iff_prefix, List.prefix_iff_eq_take, hy] at h
    exact beq_iff_eq.mpr h.symm
theorem rep_over (x y : Str) (z : List Nat) (hy : y.cps.toList ≠ []) : ∀ (n a : Nat), a + n ≤ x.length → (∀ k, a ≤ k → k < a + n → ¬ At x y x.length k) → rep y.cps.toList z (x.cps.toList.drop a) = (x.cps.toList.drop a).take n ++ rep y.cps.toList z (x.cps.toList.drop (a + n))
  | 0, a, _, _ => by simp
  | n + 1, a, hn, h => by
    have hx : x.cps.toList.length = x.length := by simp [Str.length]
    have hlt : a < x.cps.toList.length := by omega
    have h0 : y.cps.toList.isPrefixOf (x.cps.toList.drop a) = false := by
      cases hq : y.cps.toList.isPrefixOf (x.cps.toList.drop a) with
      | false => rfl
      | true =>
        exfalso
        refine h a (Nat.le_refl _) (by omega) ((at_iff x y a).mpr ⟨?_, hq⟩)
        have h1 := (List.isPrefixOf_iff_prefix.mp hq).length_le
        have h2 : y.cps.toList.length = y.length := by simp [Str.length]
        rw [List.length_drop] at h1
        omega
    have ih := rep_over x y z hy n (a + 1) (by omega) fun k h1 h2 => h k (by omega) (by omega)
    have e : x.cps.toList.drop a = x.cps.toList[a] :: x.cps.toList.drop (a + 1) := List.drop_eq_getElem_cons hlt
    have e2 : a + (n + 1) = a + 1 + n := by omega
    rw [e2]
    rw [e] at h0 ⊢
    rw [rep_miss h0, ih]
    rfl
theorem rep_free (x y : Str) (z : List Nat) (hy : y.cps.toList ≠ []) {a : Nat} (ha : a ≤ x.length) (h : ∀ k, a ≤ k → ¬ At x y x.length k) : rep y.cps.toList z (x.cps.toList.drop a) = x.cps.toList.drop a := by
  have hx : x.cps.toList.length = x.length := by simp [Str.length]
  rw [rep_over x y z hy (x.length - a) a (by omega) fun k h1 _ => h k h1]
  rw [List.drop_eq_nil_of_le (i := a + (x.length - a)) (by omega), rep_nil, List.append_nil]
  exact List.take_of_length_le (by rw [List.length_drop]; omega)
theorem rep_join (x y z : Str) (hy : y.cps.toList ≠ []) : ∀ (cuts : List Nat) (a f : Nat), a ≤ x.length → ChainG x y x.length a cuts f → (∀ k, f ≤ k → ¬ At x y x.length k) → (Str.join z (partsFrom x y.length a cuts)).cps.toList = rep y.cps.toList z.cps.toList (x.cps.toList.drop a)
  | [], a, f, ha, h, hn => by
    have e : f = a := h
    subst e
    have hx : x.cps.toList.length = x.length := by simp [Str.length]
    show (strSub x f x.length).cps.toList = _
    rw [rep_free x y _ hy ha hn, strSub_toList]
    exact List.take_of_length_le (by rw [List.length_drop]; omega)
  | c :: r, a, f, ha, h, hn => by
    obtain ⟨h1, h2, h3, h4⟩ := h
    obtain ⟨p, q, e⟩ := partsFrom_ne x y.length (c + y.length) r
    have hb := (at_iff x y c).mp h2
    have ih := rep_join x y z hy r (c + y.length) f hb.1 h4 hn
    have hyl : y.cps.toList.length = y.length := by simp [Str.length]
    show (Str.join z (strSub x a c :: partsFrom x y.length (c + y.length) r)).cps.toList = _
    rw [e] at ih ⊢
    show (strSub x a c ++ z ++ Str.join z (p :: q)).cps.toList = _
    rw [Str.cps_append, Array.toList_append, ih, Str.cps_append, Array.toList_append, strSub_toList]
    rw [rep_over x y z.cps.toList hy (c - a) a (by omega) fun k e1 e2 => h3 k e1 (by omega)]
    have e3 : a + (c - a) = c := by omega
    rw [e3, rep_hit hy hb.2, hyl, List.drop_drop, List.append_assoc]
theorem replace_rep (x y z : Str) (hy : y.cps.toList ≠ []) : (Txt.replace x y z).cps.toList = rep y.cps.toList z.cps.toList x.cps.toList := by
  have hyl : y.cps.toList.length = y.length := by simp [Str.length]
  have hw : 1 ≤ y.length := by
    rw [← hyl]
    exact List.length_pos_iff.mpr hy
  have h10 : (y.length == 0) = false := by
    rw [beq_eq_false_iff_ne]; omega
  obtain ⟨f, hG, hn⟩ := occ_tight x y hw
  unfold Txt.replace
  rw [h10, Bool.false_and, Bool.or_false]
  cases he : (occurrences x y 0 x.length (x.length + 1)).isEmpty
  · rw [if_neg Bool.false_ne_true, glued_eq_join, partsBetween_eq, rep_join x y z hy _ 0 f (Nat.zero_le _) hG hn, List.drop_zero]
  · rw [if_pos rfl]
    rw [List.isEmpty_iff.mp he] at hG
    have e : f = 0 := hG
    subst e
    have := rep_free x y z.cps.toList hy (Nat.zero_le _) hn
    rw [List.drop_zero] at this
    exact this.symm

/-- one sign replaced -/
def one (c : Nat) (z : List Nat) (a : Nat) : List Nat := if a = c then z else [a]
theorem rep_one (c : Nat) (z : List Nat) : ∀ l : List Nat, rep [c] z l = l.flatMap (one c z)
  | [] => rfl
  | a :: l => by
    rw [List.flatMap_cons]
    unfold one
    by_cases h : a = c
    · subst h
      rw [if_pos rfl]
      have := rep_app (y := [a]) (z := z) (l := l) (by simp)
      rw [List.singleton_append] at this
      rw [this, rep_one]
      rfl
    · rw [if_neg h, rep_miss, rep_one]
      · rfl
      · show (c == a && _) = false
        have : (c == a) = false := by rw [beq_eq_false_iff_ne]; exact fun e => h e.symm
        rw [this]; rfl
end Mine
end
section
open PySem PySem.W PySem.Calls PyProof.Rows PyProof.V PySem.Spec
namespace Mine
theorem cl_app (x y : Str) : (x ++ y).cps.toList = x.cps.toList ++ y.cps.toList := by rw [Str.cps_append, Array.toList_append]
theorem cl_len (x : Str) : x.cps.toList.length = x.length := by simp [Str.length]
theorem cl_ext {x y : Str} (h : x.cps.toList = y.cps.toList) : x = y := Str.ext' (Array.toList_inj.mp h)
theorem cl_join : ∀ l : List Str, (PySem.Str.join ⟨#[]⟩ l).cps.toList = l.flatMap fun x => x.cps.toList
  | [] => rfl
  | [p] => by show p.cps.toList = _; simp
  | p :: q :: r => by
    have ih := cl_join (q :: r)
    show (p ++ ⟨#[]⟩ ++ PySem.Str.join ⟨#[]⟩ (q :: r)).cps.toList = _
    rw [cl_app, ih, cl_app, List.flatMap_cons]
    simp
theorem cl_txtjoin (l : List Str) : (Txt.join (Str.ofString "") l).cps.toList = l.flatMap fun x => x.cps.toList := by
  have e0 : Str.ofString "" = (⟨#[]⟩ : Str) := by decide
  have e : Txt.join (Str.ofString "") l = PySem.Str.join (Str.ofString "") l := by
    show Builtin.Str.glued (Str.ofString "") _ = _
    rw [StrLaws.glued_eq_join]
  rw [e, e0, cl_join]

def segs (nums : List Int) (n : Nat) : List (Nat × Int) := (List.range n).map fun k => (k, nums.getD k 0)
def mk3 (a b c : List Nat) (k : Nat) : List Nat := if k % 3 = 0 then a else if k % 3 = 1 then b else c
theorem pick3_cl {a0 a1 a2 : Str} {k : Nat} : (pick3 a0 a1 a2 ((k : Int).fmod 3)).cps.toList = mk3 a0.cps.toList a1.cps.toList a2.cps.toList k := by
  have e2 : (k : Int).fmod 3 = ((k % 3 : Nat) : Int) := by rw [Int.fmod_eq_emod_of_nonneg _ (by decide)]; omega
  rw [e2]
  unfold pick3 mk3
  by_cases h0 : k % 3 = 0
  · rw [if_pos h0, if_pos (by omega)]
  · rw [if_neg h0, if_neg (by omega)]
    by_cases h1 : k % 3 = 1
    · rw [if_pos h1, if_pos (by omega)]
    · rw [if_neg h1, if_neg (by omega)]
def wl (n : Nat) : List Nat := (ap n).map fun c => c.toNat
theorem mtext_cl (nums : List Int) : ∀ n, (mtext nums n).cps.toList = (segs nums n).flatMap fun p => mk3 [60] [62] [38] p.1 ++ wl p.2.natAbs
  | 0 => by show (Str.ofString "").cps.toList = []; decide
  | n + 1 => by
    show (mtext nums n ++ piece nums n).cps.toList = _
    have e1 : (Str.ofString "<").cps.toList = [60] := by decide +kernel
    have e2 : (Str.ofString ">").cps.toList = [62] := by decide +kernel
    have e3 : (Str.ofString "&").cps.toList = [38] := by decide +kernel
    rw [cl_app, mtext_cl nums n]
    unfold segs
    rw [List.range_succ, List.map_append, List.flatMap_append]
    congr 1
    unfold piece
    rw [cl_app, pick3_cl, e1, e2, e3]
    simp [wordL, wl]
theorem textF_cl {a0 a1 a2 : Str} {nums : List Int} {f : Int → Int} : (textF a0 a1 a2 (nums.map f)).cps.toList = (segs nums nums.length).flatMap fun p => mk3 a0.cps.toList a1.cps.toList a2.cps.toList p.1 ++ List.replicate (f p.2).toNat 43 := by
  unfold textF
  rw [cl_txtjoin, List.length_map, List.flatMap_map]
  unfold segs rangeKs
  rw [List.flatMap_map, List.flatMap_map]
  rw [List.flatMap_def, List.flatMap_def]
  congr 1
  apply List.map_congr_left
  intro i hi
  have hi' : i < nums.length := List.mem_range.mp hi
  have e0 : (0 : Int) + (i : Int) = (i : Int) := by omega
  simp only [e0]
  unfold elF plus
  rw [cl_app, pick3_cl, plus_cps]
  congr 3
  simp [List.getD_eq_getElem?_getD, hi']

theorem fm_fm (l : List Nat) (f g : Nat → List Nat) : (l.flatMap f).flatMap g = l.flatMap fun a => (f a).flatMap g := List.flatMap_assoc
theorem replace_one (x y z : Str) (c : Nat) (hy : y.cps.toList = [c]) : (Txt.replace x y z).cps.toList = x.cps.toList.flatMap (one c z.cps.toList) := by
  rw [replace_rep x y z (by rw [hy]; simp), hy, rep_one]

/-- one letter's answer when the table's first i letters are through -/
def tabF (b : Int) (i : Nat) (a : Nat) : List Nat := if 65 ≤ a ∧ a < 65 + i then List.replicate (dsI b ((a - 65 : Nat) : Int)).toNat 43 else [a]
theorem tabF_succ (b : Int) (i a : Nat) : (tabF b i a).flatMap (one (65 + i) (List.replicate (dsI b (i : Int)).toNat 43)) = tabF b (i + 1) a := by
  unfold tabF
  by_cases h : 65 ≤ a ∧ a < 65 + i
  · rw [if_pos h, if_pos (by omega)]
    generalize (dsI b ((a - 65 : Nat) : Int)).toNat = n
    induction n with
    | zero => rfl
    | succ n ih =>
      rw [List.replicate_succ, List.flatMap_cons, ih]
      unfold one
      rw [if_neg (by omega)]; rfl
  · rw [if_neg h]
    by_cases h2 : a = 65 + i
    · rw [if_pos (by omega)]
      subst h2
      simp [one]
    · rw [if_neg (by omega)]
      simp [one, h2]
theorem repAll_app (x : Str) (P R : List Ent) : repAll x (P ++ R) = repAll (repAll x P) R := by unfold repAll; rw [List.foldl_append]
theorem two_split {b : Int} {n : Nat} {P : List Ent} (hP : P.map Ent.two = specD kfL (vfL b) 0 1 (n + 1)) : ∃ R e, P = R ++ [e] ∧ R.map Ent.two = specD kfL (vfL b) 0 1 n ∧ e.k = kfL (n : Int) ∧ e.v = vfL b (n : Int) := by
  have hl : P.length = n + 1 := by have := congrArg List.length hP; simpa [specD] using this
  have hne : P ≠ [] := by intro e; rw [e] at hl; exact absurd hl (by simp)
  rw [specD_succ] at hP
  rw [← List.dropLast_concat_getLast hne] at hP ⊢
  rw [List.map_append] at hP
  have h2 := List.append_inj hP (by simp [specD, hl])
  have h3 := h2.2
  simp only [List.map_cons, List.map_nil, List.cons.injEq, and_true] at h3
  have e0 : (0 : Int) + (n : Int) * 1 = (n : Int) := by omega
  rw [e0] at h3
  unfold Ent.two at h3
  simp only [Prod.mk.injEq] at h3
  exact ⟨P.dropLast, P.getLast hne, rfl, h2.1, h3.1, h3.2⟩
theorem tab_cl {b : Int} {x : Str} : ∀ (n : Nat) (P : List Ent), n ≤ 16 → P.map Ent.two = specD kfL (vfL b) 0 1 n → (repAll x P).cps.toList = x.cps.toList.flatMap (tabF b n)
  | 0, P, _, hP => by
    have : P = [] := by
      have := congrArg List.length hP
      exact List.eq_nil_of_length_eq_zero (by simpa [specD] using this)
    subst this
    show x.cps.toList = _
    have e : tabF b 0 = fun a => [a] := by
      funext a; unfold tabF; rw [if_neg (by omega)]
    rw [e]; simp
  | n + 1, P, hn, hP => by
    obtain ⟨R, e, rfl, hR, hk, hv⟩ := two_split hP
    rw [repAll_app]
    show (Txt.replace (repAll x R) e.k e.v).cps.toList = _
    have e1 : e.k.cps.toList = [65 + n] := by rw [hk, kfL_eq (by omega) (by omega)]; simp
    rw [replace_one _ _ _ _ e1, tab_cl n R (by omega) hR, fm_fm]
    have e2 : e.v.cps.toList = List.replicate (dsI b (n : Int)).toNat 43 := by rw [hv]; exact plus_cps _
    rw [e2]
    congr 1
    funext a
    exact tabF_succ b n a
def escF (a : Nat) : List Nat := if a = 38 then [38, 97, 109, 112, 59] else if a = 62 then [38, 103, 116, 59] else if a = 60 then [38, 108, 116, 59] else [a]
theorem esc_cl1 (x : Str) : (Txt.replace x (Str.ofString "&") (Str.ofString "&amp;")).cps.toList = x.cps.toList.flatMap (one 38 [38, 97, 109, 112, 59]) := by
  have e1 : (Str.ofString "&").cps.toList = [38] := by decide +kernel
  have e2 : (Str.ofString "&amp;").cps.toList = [38, 97, 109, 112, 59] := by decide +kernel
  rw [replace_one _ _ _ _ e1, e2]
theorem esc_cl2 (x : Str) : (Txt.replace x (Str.ofString ">") (Str.ofString "&gt;")).cps.toList = x.cps.toList.flatMap (one 62 [38, 103, 116, 59]) := by
  have e1 : (Str.ofString ">").cps.toList = [62] := by decide +kernel
  have e2 : (Str.ofString "&gt;").cps.toList = [38, 103, 116, 59] := by decide +kernel
  rw [replace_one _ _ _ _ e1, e2]
theorem esc_cl3 (x : Str) : (Txt.replace x (Str.ofString "<") (Str.ofString "&lt;")).cps.toList = x.cps.toList.flatMap (one 60 [38, 108, 116, 59]) := by
  have e1 : (Str.ofString "<").cps.toList = [60] := by decide +kernel
  have e2 : (Str.ofString "&lt;").cps.toList = [38, 108, 116, 59] := by decide +kernel
  rw [replace_one _ _ _ _ e1, e2]
theorem esc3_cl (x : Str) : (esc3 x).cps.toList = x.cps.toList.flatMap escF := by
  unfold esc3
  rw [esc_cl3, esc_cl2, esc_cl1, fm_fm, fm_fm]
  congr 1
  funext a
  unfold escF one
  by_cases h1 : a = 38
  · subst h1; decide
  · by_cases h2 : a = 62
    · subst h2; decide
    · by_cases h3 : a = 60
      · subst h3; decide
      · simp [h1, h2, h3]
theorem wl_mem {n c : Nat} : c ∈ wl n → 65 ≤ c ∧ c < 81 := by
  induction n using Nat.strongRecOn with
  | _ n ih =>
    unfold wl
    by_cases h : n = 0
    · subst h; rw [ap_zero]; intro h; exact nomatch h
    · rw [ap_pos h, List.map_append]
      intro hc
      rcases List.mem_append.mp hc with hc | hc
      · exact ih (n / 16) (by omega) hc
      · simp only [List.map_cons, List.map_nil, List.mem_singleton] at hc
        have : (UInt8.ofNat (65 + n % 16)).toNat = 65 + n % 16 := by
          rw [UInt8.toNat_ofNat']
          omega
        omega
theorem wl_esc (n : Nat) : (wl n).flatMap escF = wl n := by
  have h : ∀ l : List Nat, (∀ c ∈ l, 65 ≤ c ∧ c < 81) → l.flatMap escF = l := by
    intro l
    induction l with
    | nil => intro _; rfl
    | cons a l ih =>
      intro h
      have ha := h a (List.mem_cons_self ..)
      rw [List.flatMap_cons, ih fun c hc => h c (List.mem_cons_of_mem _ hc)]
      unfold escF
      rw [if_neg (by omega), if_neg (by omega), if_neg (by omega)]; rfl
  exact h _ fun c hc => wl_mem hc
theorem wl_pos {n : Nat} (h : n ≠ 0) : wl n = wl (n / 16) ++ [65 + n % 16] := by
  unfold wl
  rw [ap_pos h, List.map_append]
  congr 1
  have : (UInt8.ofNat (65 + n % 16)).toNat = 65 + n % 16 := by
    rw [UInt8.toNat_ofNat']
    omega
  rw [List.map_cons, this]; rfl
theorem ds_small {b n : Nat} (hb : 2 ≤ b) (h : n < b) : ds b n = n := by
  rw [ds_step hb, Nat.div_eq_of_lt h, ds_zero, Nat.mod_eq_of_lt h]; rfl
theorem ds_hex {b : Nat} (hb : b = 16 ∨ b = 4 ∨ b = 2) (n : Nat) : ds b n = ds b (n % 16) + ds b (n / 16) := by
  rcases hb with rfl | rfl | rfl
  · rw [ds_step (b := 16) (n := n) (by decide), ds_small (n := n % 16) (by decide) (by omega)]
  · have s := fun m => ds_step (b := 4) (n := m) (by decide)
    have h3 : n / 4 / 4 = n / 16 := by omega
    have h5 : n % 16 / 4 / 4 = 0 := by omega
    rw [s n, s (n / 4), s (n % 16), s (n % 16 / 4), h3, h5, ds_zero]; omega
  · have s := fun m => ds_step (b := 2) (n := m) (by decide)
    have h3 : n / 2 / 2 / 2 / 2 = n / 16 := by omega
    have h5 : n % 16 / 2 / 2 / 2 / 2 = 0 := by omega
    rw [s n, s (n / 2), s (n / 2 / 2), s (n / 2 / 2 / 2), s (n % 16), s (n % 16 / 2), s (n % 16 / 2 / 2), s (n % 16 / 2 / 2 / 2), h3, h5, ds_zero]; omega
theorem ds_mod {b c : Nat} (h : (b = 16 ∧ (c = 15 ∨ c = 5 ∨ c = 3)) ∨ (b = 4 ∧ c = 3) ∨ (b = 2 ∧ c = 1)) (n : Nat) : ds b n % c = n % c := by
  induction n using Nat.strongRecOn with
  | _ n ih =>
    have hb : 2 ≤ b := by omega
    by_cases h0 : n = 0
    · subst h0; rw [ds_zero]
    · have i := ih (n / b) (Nat.div_lt_self (by omega) (by omega))
      rw [ds_pos hb h0]
      rcases h with ⟨rfl, rfl | rfl | rfl⟩ | ⟨rfl, rfl⟩ | ⟨rfl, rfl⟩ <;> omega
theorem wl_tab {b : Int} (hb : b = 16 ∨ b = 4 ∨ b = 2) (n : Nat) : (wl n).flatMap (tabF b 16) = List.replicate (dsI b (n : Int)).toNat 43 := by
  induction n using Nat.strongRecOn with
  | _ n ih =>
    by_cases h : n = 0
    · subst h
      have : wl 0 = [] := by unfold wl; rw [ap_zero]; rfl
      rw [this]
      show [] = List.replicate (dsI b 0).toNat 43
      rw [dsI_zero]; rfl
    · rw [wl_pos h, List.flatMap_append, ih (n / 16) (by omega), List.flatMap_cons, List.flatMap_nil, List.append_nil]
      unfold tabF
      rw [if_pos (by omega), List.replicate_append_replicate]
      congr 1
      have e : 65 + n % 16 - 65 = n % 16 := by omega
      rw [e]
      unfold dsI
      simp only [Int.toNat_natCast]
      have := ds_hex (b := b.toNat) (by omega) n
      omega
theorem mk_esc (k : Nat) : (mk3 [60] [62] [38] k).flatMap escF = mk3 [38, 108, 116, 59] [38, 103, 116, 59] [38, 97, 109, 112, 59] k := by
  unfold mk3
  split
  · decide
  · split <;> decide
theorem mk_tab (b : Int) (k : Nat) : (mk3 [38, 108, 116, 59] [38, 103, 116, 59] [38, 97, 109, 112, 59] k).flatMap (tabF b 16) = mk3 [38, 108, 116, 59] [38, 103, 116, 59] [38, 97, 109, 112, 59] k := by
  unfold mk3
  split
  · simp [tabF]
  · split <;> simp [tabF]
theorem segs_lo {ns : List Int} {n : Nat} {p : Nat × Int} (h : p ∈ segs (numsOf ns) n) : 0 ≤ p.2 := by
  unfold segs at h
  obtain ⟨k, _, rfl⟩ := List.mem_map.mp h
  exact (nums_bd ns k).1
abbrev wr3 (k : Nat) : List Nat := mk3 [38, 108, 116, 59] [38, 103, 116, 59] [38, 97, 109, 112, 59] k
theorem esc_cl {T : Str} {ns : List Int} (hT : TextIs T ns) : (esc3 T).cps.toList = (segs (numsOf ns) (numsOf ns).length).flatMap fun p => wr3 p.1 ++ wl p.2.natAbs := by
  rw [esc3_cl]
  unfold TextIs at hT
  rw [hT, mtext_cl, List.flatMap_assoc, List.flatMap_def, List.flatMap_def]
  congr 1
  apply List.map_congr_left
  intro p hp
  rw [List.flatMap_append, mk_esc, wl_esc]
theorem given_cl {b : Int} {P : List Ent} {T : Str} {ns : List Int} (hb : b = 16 ∨ b = 4 ∨ b = 2) (hP : P.map Ent.two = specD kfL (vfL b) 0 1 16) (hT : TextIs T ns) :
    (repAll (esc3 T) P).cps.toList = (segs (numsOf ns) (numsOf ns).length).flatMap fun p => wr3 p.1 ++ List.replicate (dsI b p.2).toNat 43 := by
  rw [tab_cl 16 P (Nat.le_refl _) hP, esc_cl hT, List.flatMap_assoc, List.flatMap_def, List.flatMap_def]
  congr 1
  apply List.map_congr_left
  intro p hp
  have h0 := segs_lo hp
  rw [List.flatMap_append, mk_tab, wl_tab hb]
  have e : ((p.2.natAbs : Nat) : Int) = p.2 := by omega
  rw [e]
theorem pl_given {b : Int} {P : List Ent} {T : Str} {ns : List Int} (hb : b = 16 ∨ b = 4 ∨ b = 2) (hP : P.map Ent.two = specD kfL (vfL b) 0 1 16) (hT : TextIs T ns) :
    repAll (esc3 T) P = textF (Str.ofString "&lt;") (Str.ofString "&gt;") (Str.ofString "&amp;") ((numsOf ns).map fun k' => dsI b k') := by
  have e1 : (Str.ofString "&lt;").cps.toList = [38, 108, 116, 59] := by decide +kernel
  have e2 : (Str.ofString "&gt;").cps.toList = [38, 103, 116, 59] := by decide +kernel
  have e3 : (Str.ofString "&amp;").cps.toList = [38, 97, 109, 112, 59] := by decide +kernel
  apply cl_ext
  rw [textF_cl, given_cl hb hP hT, e1, e2, e3]

theorem rep_plus {y z r : List Nat} {c : Nat} {y' : List Nat} (hy : y = c :: y') (hc : c ≠ 43) (n : Nat) : rep y z (List.replicate n 43 ++ r) = List.replicate n 43 ++ rep y z r := by
  induction n with
  | zero => rfl
  | succ n ih =>
    rw [List.replicate_succ, List.cons_append, rep_miss, ih]
    · rfl
    · subst hy
      show (c == 43 && _) = false
      have : (c == 43) = false := by rw [beq_eq_false_iff_ne]; exact hc
      rw [this]; rfl
theorem une_1 (k : Nat) (r : List Nat) : rep [38, 108, 116, 59] [60] (wr3 k ++ r) = mk3 [60] [38, 103, 116, 59] [38, 97, 109, 112, 59] k ++ rep [38, 108, 116, 59] [60] r := by
  unfold wr3 mk3
  split
  · exact rep_app (by simp)
  · split
    · show rep _ _ (38 :: 103 :: 116 :: 59 :: r) = _
      rw [rep_miss rfl, rep_miss rfl, rep_miss rfl, rep_miss rfl]; rfl
    · show rep _ _ (38 :: 97 :: 109 :: 112 :: 59 :: r) = _
      rw [rep_miss rfl, rep_miss rfl, rep_miss rfl, rep_miss rfl, rep_miss rfl]; rfl
theorem une_2 (k : Nat) (r : List Nat) : rep [38, 103, 116, 59] [62] (mk3 [60] [38, 103, 116, 59] [38, 97, 109, 112, 59] k ++ r) = mk3 [60] [62] [38, 97, 109, 112, 59] k ++ rep [38, 103, 116, 59] [62] r := by
  unfold mk3
  split
  · show rep _ _ (60 :: r) = _
    rw [rep_miss rfl]; rfl
  · split
    · exact rep_app (by simp)
    · show rep _ _ (38 :: 97 :: 109 :: 112 :: 59 :: r) = _
      rw [rep_miss rfl, rep_miss rfl, rep_miss rfl, rep_miss rfl, rep_miss rfl]; rfl
theorem une_3 (k : Nat) (r : List Nat) : rep [38, 97, 109, 112, 59] [38] (mk3 [60] [62] [38, 97, 109, 112, 59] k ++ r) = mk3 [60] [62] [38] k ++ rep [38, 97, 109, 112, 59] [38] r := by
  unfold mk3
  split
  · show rep _ _ (60 :: r) = _
    rw [rep_miss rfl]; rfl
  · split
    · show rep _ _ (62 :: r) = _
      rw [rep_miss rfl]; rfl
    · exact rep_app (by simp)
theorem rep_segs {y z : List Nat} {c : Nat} {y' : List Nat} (hy : y = c :: y') (hc : c ≠ 43) {f g : Nat → List Nat} (hf : ∀ k r, rep y z (f k ++ r) = g k ++ rep y z r) (q : Int → Nat) : ∀ l : List (Nat × Int),
    rep y z (l.flatMap fun p => f p.1 ++ List.replicate (q p.2) 43) = l.flatMap fun p => g p.1 ++ List.replicate (q p.2) 43
  | [] => rfl
  | p :: l => by
    rw [List.flatMap_cons, List.flatMap_cons, List.append_assoc, hf, rep_plus hy hc, rep_segs hy hc hf q l, List.append_assoc]
theorem une_cl1 {b : Int} {P : List Ent} {T : Str} {ns : List Int} (hb : b = 16 ∨ b = 4 ∨ b = 2) (hP : P.map Ent.two = specD kfL (vfL b) 0 1 16) (hT : TextIs T ns) :
    (Txt.replace (repAll (esc3 T) P) (Str.ofString "&lt;") (Str.ofString "<")).cps.toList = (segs (numsOf ns) (numsOf ns).length).flatMap fun p => mk3 [60] [38, 103, 116, 59] [38, 97, 109, 112, 59] p.1 ++ List.replicate (dsI b p.2).toNat 43 := by
  have e1 : (Str.ofString "&lt;").cps.toList = [38, 108, 116, 59] := by decide +kernel
  have e2 : (Str.ofString "<").cps.toList = [60] := by decide +kernel
  rw [replace_rep _ _ _ (by rw [e1]; simp), e1, e2, given_cl hb hP hT]
  exact rep_segs rfl (by decide) une_1 (fun n => (dsI b n).toNat) _
theorem une_cl2 {b : Int} {P : List Ent} {T : Str} {ns : List Int} (hb : b = 16 ∨ b = 4 ∨ b = 2) (hP : P.map Ent.two = specD kfL (vfL b) 0 1 16) (hT : TextIs T ns) :
    (une2 (repAll (esc3 T) P)).cps.toList = (segs (numsOf ns) (numsOf ns).length).flatMap fun p => mk3 [60] [62] [38, 97, 109, 112, 59] p.1 ++ List.replicate (dsI b p.2).toNat 43 := by
  have e1 : (Str.ofString "&gt;").cps.toList = [38, 103, 116, 59] := by decide +kernel
  have e2 : (Str.ofString ">").cps.toList = [62] := by decide +kernel
  unfold une2
  rw [replace_rep _ _ _ (by rw [e1]; simp), e1, e2, une_cl1 hb hP hT]
  exact rep_segs rfl (by decide) une_2 (fun n => (dsI b n).toNat) _
theorem pl_une {b : Int} {P : List Ent} {T : Str} {ns : List Int} (hb : b = 16 ∨ b = 4 ∨ b = 2) (hP : P.map Ent.two = specD kfL (vfL b) 0 1 16) (hT : TextIs T ns) :
    Txt.replace (une2 (repAll (esc3 T) P)) (Str.ofString "&amp;") (Str.ofString "&") = textF (Str.ofString "<") (Str.ofString ">") (Str.ofString "&") ((numsOf ns).map fun k' => dsI b k') := by
  have e1 : (Str.ofString "<").cps.toList = [60] := by decide +kernel
  have e2 : (Str.ofString ">").cps.toList = [62] := by decide +kernel
  have e3 : (Str.ofString "&").cps.toList = [38] := by decide +kernel
  have e4 : (Str.ofString "&amp;").cps.toList = [38, 97, 109, 112, 59] := by decide +kernel
  apply cl_ext
  rw [textF_cl, e1, e2, e3, replace_rep _ _ _ (by rw [e4]; simp), e4, e3, une_cl2 hb hP hT]
  exact rep_segs rfl (by decide) une_3 (fun n => (dsI b n).toNat) _
end Mine
end
section
open PySem PySem.W PySem.Calls PyProof.Rows PyProof.V PySem.Spec
namespace Mine
theorem fm_len {α : Type} {f : α → List Nat} {B : Nat} : ∀ l : List α, (∀ a ∈ l, (f a).length ≤ B) → (l.flatMap f).length ≤ B * l.length
  | [], _ => by simp
  | a :: l, h => by
    rw [List.flatMap_cons, List.length_append, List.length_cons, Nat.mul_add]
    have h1 := h a (List.mem_cons_self ..)
    have h2 := fm_len l fun x hx => h x (List.mem_cons_of_mem _ hx)
    omega
theorem one_len {c : Nat} {z : List Nat} {B : Nat} (h : z.length ≤ B) (h1 : 1 ≤ B) (a : Nat) : (one c z a).length ≤ B := by
  unfold one; split
  · exact h
  · exact h1
theorem t_len {T : Str} {ns : List Int} (hT : TextIs T ns) : T.length ≤ 100 := by
  unfold TextIs at hT
  rw [hT]
  have h := mtext_len (nums := numsOf ns) (nums_bd ns) (numsOf ns).length
  have h2 : (numsOf ns).length ≤ 5 := nums_len ns
  omega
theorem pl_s0 {T : Str} {ns : List Int} (hT : TextIs T ns) : T.length ≤ 65535 := by have := t_len hT; omega
theorem s1_len {T : Str} {ns : List Int} (hT : TextIs T ns) : (Txt.replace T (Str.ofString "&") (Str.ofString "&amp;")).length ≤ 500 := by
  rw [← cl_len, esc_cl1]
  have h := fm_len (f := one 38 [38, 97, 109, 112, 59]) (B := 5) T.cps.toList fun a _ => one_len (by decide) (by decide) a
  rw [cl_len] at h
  have := t_len hT
  omega
theorem pl_s1 {T : Str} {ns : List Int} (hT : TextIs T ns) : (Txt.replace T (Str.ofString "&") (Str.ofString "&amp;")).length ≤ 65535 := by have := s1_len hT; omega
theorem pl_s2 {T : Str} {ns : List Int} (hT : TextIs T ns) : (Txt.replace (Txt.replace T (Str.ofString "&") (Str.ofString "&amp;")) (Str.ofString ">") (Str.ofString "&gt;")).length ≤ 65535 := by
  rw [← cl_len, esc_cl2]
  have h := fm_len (f := one 62 [38, 103, 116, 59]) (B := 5) (Txt.replace T (Str.ofString "&") (Str.ofString "&amp;")).cps.toList fun a _ => one_len (by decide) (by decide) a
  rw [cl_len] at h
  have := s1_len hT
  omega
theorem esc3_len {T : Str} {ns : List Int} (hT : TextIs T ns) : (esc3 T).length ≤ 500 := by
  rw [← cl_len, esc3_cl]
  have h := fm_len (f := escF) (B := 5) T.cps.toList fun a _ => by
    unfold escF; split
    · decide
    · split
      · decide
      · split
        · decide
        · exact Nat.succ_le_succ (Nat.zero_le _)
  rw [cl_len] at h
  have := t_len hT
  omega
theorem repFits_snoc {e : Ent} : ∀ {P : List Ent} {x : Str}, RepFits x P → (repAll x P).length ≤ 65535 → RepFits x (P ++ [e])
  | [], _, _, h => ⟨h, trivial⟩
  | _ :: _, _, hP, h => ⟨hP.1, repFits_snoc hP.2 h⟩
theorem tab_len {b : Int} {x : Str} {n : Nat} {P : List Ent} (hn : n ≤ 16) (hP : P.map Ent.two = specD kfL (vfL b) 0 1 n) (hx : x.length ≤ 500) : (repAll x P).length ≤ 8000 := by
  rw [← cl_len, tab_cl n P hn hP]
  have h := fm_len (f := tabF b n) (B := 16) x.cps.toList fun a _ => by
    unfold tabF; split
    · rw [List.length_replicate]
      have := dsI_bd (b := b) (j := ((a - 65 : Nat) : Int)) (by omega)
      omega
    · exact Nat.succ_le_succ (Nat.zero_le _)
  rw [cl_len] at h
  omega
theorem fits_tab {b : Int} {x : Str} (hx : x.length ≤ 500) : ∀ (n : Nat) (P : List Ent), n ≤ 16 → P.map Ent.two = specD kfL (vfL b) 0 1 n → RepFits x P
  | 0, P, _, hP => by
    have : P = [] := by
      have := congrArg List.length hP
      exact List.eq_nil_of_length_eq_zero (by simpa [specD] using this)
    subst this
    trivial
  | n + 1, P, hn, hP => by
    obtain ⟨R, e, rfl, hR, _, _⟩ := two_split hP
    exact repFits_snoc (fits_tab hx n R (by omega) hR) (by have := tab_len (x := x) (by omega) hR hx; omega)
theorem pl_fits {b : Int} {P : List Ent} {T : Str} {ns : List Int} (hb : b = 16 ∨ b = 4 ∨ b = 2) (hP : P.map Ent.two = specD kfL (vfL b) 0 1 16) (hT : TextIs T ns) : RepFits (esc3 T) P :=
  fits_tab (esc3_len hT) 16 P (Nat.le_refl _) hP
theorem pl_u0 {b : Int} {P : List Ent} {T : Str} {ns : List Int} (hb : b = 16 ∨ b = 4 ∨ b = 2) (hP : P.map Ent.two = specD kfL (vfL b) 0 1 16) (hT : TextIs T ns) : (repAll (esc3 T) P).length ≤ 65535 := by
  have := tab_len (x := esc3 T) (Nat.le_refl _) hP (esc3_len hT); omega
theorem segs_len (ns : List Int) {f : Nat → List Nat} {q : Int → Int} (hf : ∀ k, (f k).length ≤ 5) (hq : ∀ n, 0 ≤ n → n < 4096 → q n ≤ 4096) : ((segs (numsOf ns) (numsOf ns).length).flatMap fun p => f p.1 ++ List.replicate (q p.2).toNat 43).length ≤ 65535 := by
  have h := fm_len (f := fun (p : Nat × Int) => f p.1 ++ List.replicate (q p.2).toNat 43) (B := 4101) (segs (numsOf ns) (numsOf ns).length) fun p hp => by
    rw [List.length_append, List.length_replicate]
    have h1 := hf p.1
    unfold segs at hp
    obtain ⟨k, _, rfl⟩ := List.mem_map.mp hp
    have h2 : q ((numsOf ns).getD k 0) ≤ 4096 := hq _ (nums_bd ns k).1 (nums_bd ns k).2
    show (f k).length + (q ((numsOf ns).getD k 0)).toNat ≤ 4101
    have h1' : (f k).length ≤ 5 := h1
    generalize (f k).length = x at h1' ⊢
    generalize q ((numsOf ns).getD k 0) = y at h2 ⊢
    omega
  have h2 : (segs (numsOf ns) (numsOf ns).length).length = (numsOf ns).length := by simp [segs]
  have h3 := nums_len ns
  rw [h2] at h
  have : 4101 * (numsOf ns).length ≤ 4101 * 5 := Nat.mul_le_mul_left _ h3
  omega
theorem mk3_len {a b c : List Nat} (ha : a.length ≤ 5) (hb : b.length ≤ 5) (hc : c.length ≤ 5) (k : Nat) : (mk3 a b c k).length ≤ 5 := by
  unfold mk3; split
  · exact ha
  · split
    · exact hb
    · exact hc
theorem dsI_le4 {b n : Int} (h0 : 0 ≤ n) (h : n < 4096) : dsI b n ≤ 4096 := by have := dsI_bd (b := b) h0; omega
theorem pl_u1 {b : Int} {P : List Ent} {T : Str} {ns : List Int} (hb : b = 16 ∨ b = 4 ∨ b = 2) (hP : P.map Ent.two = specD kfL (vfL b) 0 1 16) (hT : TextIs T ns) : (Txt.replace (repAll (esc3 T) P) (Str.ofString "&lt;") (Str.ofString "<")).length ≤ 65535 := by
  rw [← cl_len, une_cl1 hb hP hT]
  exact segs_len ns (q := fun n => dsI b n) (mk3_len (by decide) (by decide) (by decide)) fun n h0 h => dsI_le4 h0 h
theorem pl_u2 {b : Int} {P : List Ent} {T : Str} {ns : List Int} (hb : b = 16 ∨ b = 4 ∨ b = 2) (hP : P.map Ent.two = specD kfL (vfL b) 0 1 16) (hT : TextIs T ns) : (une2 (repAll (esc3 T) P)).length ≤ 65535 := by
  rw [← cl_len, une_cl2 hb hP hT]
  exact segs_len ns (q := fun n => dsI b n) (mk3_len (by decide) (by decide) (by decide)) fun n h0 h => dsI_le4 h0 h

theorem pre_no {r : List Nat} (hr : r.head? ≠ some 43) : ∀ (n c : Nat), n < c → (List.replicate c 43).isPrefixOf (List.replicate n 43 ++ r) = false
  | 0, c + 1, _ => by
    cases r with
    | nil => rfl
    | cons a r =>
      have : a ≠ 43 := fun e => hr (by rw [e]; rfl)
      show ((43 : Nat) == a && _) = false
      have : ((43 : Nat) == a) = false := by rw [beq_eq_false_iff_ne]; exact fun e => this e.symm
      rw [this]; rfl
  | n + 1, c + 1, h => by
    rw [List.replicate_succ, List.replicate_succ, List.cons_append]
    show ((43 : Nat) == 43 && (List.replicate c 43).isPrefixOf (List.replicate n 43 ++ r)) = false
    rw [pre_no hr n c (by omega), Bool.and_false]
theorem strike_lt {r : List Nat} (hr : r.head? ≠ some 43) {c : Nat} : ∀ n : Nat, n < c → rep (List.replicate c 43) [] (List.replicate n 43 ++ r) = List.replicate n 43 ++ rep (List.replicate c 43) [] r
  | 0, _ => rfl
  | n + 1, h => by
    have h0 := pre_no hr (n + 1) c h
    rw [List.replicate_succ, List.cons_append] at h0 ⊢
    rw [rep_miss h0, strike_lt hr n (by omega)]
    rfl
theorem strike {r : List Nat} (hr : r.head? ≠ some 43) {c : Nat} (hc : 1 ≤ c) (n : Nat) : rep (List.replicate c 43) [] (List.replicate n 43 ++ r) = List.replicate (n % c) 43 ++ rep (List.replicate c 43) [] r := by
  induction n using Nat.strongRecOn with
  | _ n ih =>
    by_cases h : n < c
    · rw [strike_lt hr n h, Nat.mod_eq_of_lt h]
    · have e : List.replicate n 43 ++ r = List.replicate c 43 ++ (List.replicate (n - c) 43 ++ r) := by
        rw [← List.append_assoc, List.replicate_append_replicate]
        congr 2; omega
      rw [e, rep_app (by intro e2; have := congrArg List.length e2; rw [List.length_replicate] at this; exact absurd this (by simp; omega)), ih (n - c) (by omega), List.nil_append]
      have : n % c = (n - c) % c := Nat.mod_eq_sub_mod (by omega)
      rw [this]
theorem strike_over {r : List Nat} {c : Nat} (hc : 1 ≤ c) : ∀ u : List Nat, (∀ a ∈ u, a ≠ 43) → rep (List.replicate c 43) [] (u ++ r) = u ++ rep (List.replicate c 43) [] r
  | [], _ => rfl
  | a :: u, h => by
    have ha := h a (List.mem_cons_self ..)
    rw [List.cons_append, rep_miss, strike_over hc u fun x hx => h x (List.mem_cons_of_mem _ hx)]
    · rfl
    · obtain ⟨m, rfl⟩ : ∃ m, c = m + 1 := ⟨c - 1, by omega⟩
      rw [List.replicate_succ]
      show ((43 : Nat) == a && _) = false
      have : ((43 : Nat) == a) = false := by rw [beq_eq_false_iff_ne]; exact fun e => ha e.symm
      rw [this]; rfl
theorem strike_segs {f : Nat → List Nat} (hf : ∀ k a, a ∈ f k → a ≠ 43) (hf0 : ∀ k, f k ≠ []) {c : Nat} (hc : 1 ≤ c) (q : Int → Nat) : ∀ l : List (Nat × Int),
    rep (List.replicate c 43) [] (l.flatMap fun p => f p.1 ++ List.replicate (q p.2) 43) = l.flatMap fun p => f p.1 ++ List.replicate (q p.2 % c) 43
  | [] => rfl
  | p :: l => by
    rw [List.flatMap_cons, List.flatMap_cons, List.append_assoc, strike_over hc _ (hf p.1), strike ?_ hc, strike_segs hf hf0 hc q l, List.append_assoc]
    cases l with
    | nil => exact fun e => nomatch e
    | cons p2 l =>
      rw [List.flatMap_cons]
      obtain ⟨a, u, e⟩ := List.exists_cons_of_ne_nil (hf0 p2.1)
      rw [e]
      have := hf p2.1 a (by rw [e]; exact List.mem_cons_self ..)
      intro e2
      simp only [List.cons_append, List.head?_cons, Option.some.injEq] at e2
      exact this e2
theorem wr3_ok (k a : Nat) (h : a ∈ wr3 k) : a ≠ 43 := by
  unfold wr3 mk3 at h
  split at h
  · revert h; revert a; decide
  · split at h
    · revert h; revert a; decide
    · revert h; revert a; decide
theorem wr3_ne (k : Nat) : wr3 k ≠ [] := by
  unfold wr3 mk3; split
  · decide
  · split <;> decide
def PartOk (b c : Int) : Prop := (b = 16 ∧ (c = 15 ∨ c = 5 ∨ c = 3)) ∨ (b = 4 ∧ c = 3) ∨ (b = 2 ∧ c = 1)
theorem partOk_b {b c : Int} (h : PartOk b c) : b = 16 ∨ b = 4 ∨ b = 2 := by unfold PartOk at h; omega
theorem partOk_c {b c : Int} (h : PartOk b c) : 1 ≤ c := by unfold PartOk at h; omega
theorem pl_pfits {b c : Int} {P : List Ent} {e : Ent} {T : Str} {ns : List Int} (hb : PartOk b c) (hP : P.map Ent.two = specD kfL (vfL b) 0 1 16) (he : e.k = Txt.mul (Str.ofString "+") c) (he2 : e.v = Str.ofString "") (hT : TextIs T ns) : RepFits (esc3 T) (P ++ [e]) :=
  repFits_snoc (pl_fits (partOk_b hb) hP hT) (pl_u0 (partOk_b hb) hP hT)
theorem dsI_mod {b c n : Int} (hb : PartOk b c) (h0 : 0 ≤ n) : (dsI b n).toNat % c.toNat = (n.fmod c).toNat := by
  have e2 : n.fmod c = n % c := Int.fmod_eq_emod_of_nonneg _ (by have := partOk_c hb; omega)
  have h := ds_mod (b := b.toNat) (c := c.toNat) (by unfold PartOk at hb; omega) n.toNat
  rw [e2]
  unfold dsI
  rw [Int.toNat_natCast, h]
  obtain ⟨n', rfl⟩ := Int.eq_ofNat_of_zero_le h0
  obtain ⟨c', rfl⟩ := Int.eq_ofNat_of_zero_le (show 0 ≤ c by have := partOk_c hb; omega)
  rw [← Int.natCast_emod]; rfl
theorem pl_part {b c : Int} {P : List Ent} {e : Ent} {T : Str} {ns : List Int} (hb : PartOk b c) (hP : P.map Ent.two = specD kfL (vfL b) 0 1 16) (he : e.k = Txt.mul (Str.ofString "+") c) (he2 : e.v = Str.ofString "") (hT : TextIs T ns) :
    repAll (esc3 T) (P ++ [e]) = textF (Str.ofString "&lt;") (Str.ofString "&gt;") (Str.ofString "&amp;") ((numsOf ns).map fun k' => k'.fmod c) := by
  have e1 : (Str.ofString "&lt;").cps.toList = [38, 108, 116, 59] := by decide +kernel
  have e3 : (Str.ofString "&gt;").cps.toList = [38, 103, 116, 59] := by decide +kernel
  have e4 : (Str.ofString "&amp;").cps.toList = [38, 97, 109, 112, 59] := by decide +kernel
  have e5 : (Str.ofString "").cps.toList = [] := by decide +kernel
  have hc := partOk_c hb
  have hk : e.k.cps.toList = List.replicate c.toNat 43 := by rw [he]; exact plus_cps c
  apply cl_ext
  rw [repAll_app]
  show (Txt.replace (repAll (esc3 T) P) e.k e.v).cps.toList = _
  have hne : List.replicate c.toNat 43 ≠ ([] : List Nat) := by
    intro e2; have := congrArg List.length e2; rw [List.length_replicate] at this; exact absurd this (by simp; omega)
  rw [replace_rep _ _ _ (by rw [hk]; exact hne), hk, he2, e5, given_cl (partOk_b hb) hP hT, textF_cl, e1, e3, e4]
  rw [strike_segs wr3_ok wr3_ne (by omega) (fun n => (dsI b n).toNat), List.flatMap_def, List.flatMap_def]
  congr 1
  apply List.map_congr_left
  intro p hp
  rw [dsI_mod hb (segs_lo hp)]
end Mine
end
section
open PySem PySem.W PySem.Calls PyProof.Rows PyProof.V PySem.Spec
namespace Mine
theorem pl_nd {b : Int} {P : List Ent} (hP : P.map Ent.two = specD kfL (vfL b) 0 1 16) : (P.map Ent.k).Nodup := by
  rw [two_keys, hP]; exact keys_nodup b
theorem pl_ln {b : Int} {P : List Ent} (hP : P.map Ent.two = specD kfL (vfL b) 0 1 16) : P.length = 16 := by
  have := congrArg List.length hP
  simpa [specD] using this
theorem plus_new {b c : Int} {P : List Ent} (hc : 1 ≤ c) (hP : P.map Ent.two = specD kfL (vfL b) 0 1 16) : Txt.mul (Str.ofString "+") c ∉ P.map Ent.k := by
  rw [two_keys, hP]
  intro h
  unfold specD at h
  rw [List.map_map] at h
  obtain ⟨i, hi, e⟩ := List.mem_map.mp h
  have hi' : i < 16 := List.mem_range.mp hi
  have e2 : kfL (0 + (i : Int) * 1) = Txt.mul (Str.ofString "+") c := e
  have e3 : (kfL (0 + (i : Int) * 1)).cps.toList = (Txt.mul (Str.ofString "+") c).cps.toList := by rw [e2]
  rw [plus_cps, kfL_eq (by omega) (by omega)] at e3
  obtain ⟨m, hm⟩ : ∃ m, c.toNat = m + 1 := ⟨c.toNat - 1, by omega⟩
  rw [hm, List.replicate_succ] at e3
  simp only [List.cons.injEq] at e3
  omega
theorem pl_nd2 {b c : Int} {P : List Ent} {e : Ent} (hc : 1 ≤ c) (hP : P.map Ent.two = specD kfL (vfL b) 0 1 16) (he : e.k = Txt.mul (Str.ofString "+") c) : ((P ++ [e]).map Ent.k).Nodup := by
  rw [List.map_append, List.nodup_append]
  refine ⟨pl_nd hP, by simp, ?_⟩
  intro x hx y hy hxy
  have : y = e.k := by simpa using hy
  rw [hxy, this, he] at hx
  exact plus_new hc hP hx
theorem entok2 {c : Int} {t u : Tok} (hc : 1 ≤ c) (ht : @LE.le Nat _ 1 t) (hu : @LT.lt Nat _ 0 u) (htu : @Ne Nat t u) : EntOk ⟨Txt.mul (Str.ofString "+") c, t, Str.ofString "", u⟩ := by
  refine ⟨by show @Ne Nat t 0; omega, by show @Ne Nat u 0; omega, htu, ?_, ?_⟩
  rotate_left
  · show (Str.ofString "").length ≤ 255
    decide +kernel
  refine str_ne ?_
  show (Txt.mul (Str.ofString "+") c).cps.toList ≠ (Str.ofString "").cps.toList
  rw [plus_cps]
  obtain ⟨m, hm⟩ : ∃ m, c.toNat = m + 1 := ⟨c.toNat - 1, by omega⟩
  rw [hm, List.replicate_succ]
  intro e
  have : (Str.ofString "").cps.toList = [] := by decide +kernel
  rw [this] at e
  exact nomatch e
end Mine
namespace Mine
theorem StarEnd.plus {w : World} {h₀ : Heap} {L : Addr} {m : Str → Option Value} {Q : Value → Shared → Prop} {D D2 : Addr} {P : List Ent} {news₁ : List (Addr × Obj)} {s₁ : Shared} {b c : Int} {t u : Tok} {h₄ : Heap} {tk : Nat}
    (hP : P.map Ent.two = specD kfL (vfL b) 0 1 16) (hE : ∀ p ∈ P, EntOk p) (hc : 1 ≤ c) (ht : @LE.le Nat _ 1 t) (hu : @LT.lt Nat _ 0 u) (htu : @Ne Nat t u) (F : Fr h₀ L h₄ m) (N : News h₀ L h₄ ((D2, entObj w [] 0) :: (D, entObj w P P.length) :: news₁))
    (fin : ∀ h₆ tk', (∀ p ∈ P ++ [⟨Txt.mul (Str.ofString "+") c, t, Str.ofString "", u⟩], EntOk p) → Fr h₀ L h₆ m → News h₀ L h₆ ((D, entObj w (P ++ [⟨Txt.mul (Str.ofString "+") c, t, Str.ofString "", u⟩]) (P ++ [⟨Txt.mul (Str.ofString "+") c, t, Str.ofString "", u⟩] : List Ent).length) :: news₁) → Q (.ref D) { s₁ with heap := h₆, toks := tk' }) :
    StarEnd w h₀ L m Q D D2 P news₁ s₁ (.str (Txt.mul (Str.ofString "+") c) t) (.str (Str.ofString "") u) { s₁ with heap := h₄, toks := tk } :=
  ⟨_, _, _, _, _, _, rfl, rfl, plus_new hc hP, rfl, F, N, fun h₆ tk' F₆ N₆ => fin h₆ tk' (ents_snoc hE (entok2 hc ht hu htu)) F₆ N₆⟩
end Mine
namespace Mine
theorem pl_ln2 {b : Int} {P : List Ent} {e : Ent} (hP : P.map Ent.two = specD kfL (vfL b) 0 1 16) : (P ++ [e]).length = 17 := by
  rw [List.length_append, pl_ln hP]; rfl
end Mine
namespace Mine
theorem pl_nd3 {b c : Int} {P : List Ent} {t u : Tok} (hc : 1 ≤ c) (hP : P.map Ent.two = specD kfL (vfL b) 0 1 16) : ((P ++ [(⟨Txt.mul (Str.ofString "+") c, t, Str.ofString "", u⟩ : Ent)]).map Ent.k).Nodup := pl_nd2 hc hP rfl
theorem pl_pfits3 {b c : Int} {P : List Ent} {t u : Tok} {T : Str} {ns : List Int} (hb : PartOk b c) (hP : P.map Ent.two = specD kfL (vfL b) 0 1 16) (hT : TextIs T ns) : RepFits (esc3 T) (P ++ [⟨Txt.mul (Str.ofString "+") c, t, Str.ofString "", u⟩]) := pl_pfits hb hP rfl rfl hT
theorem pl_part3 {b c : Int} {P : List Ent} {t u : Tok} {T : Str} {ns : List Int} (hb : PartOk b c) (hP : P.map Ent.two = specD kfL (vfL b) 0 1 16) (hT : TextIs T ns) :
    repAll (esc3 T) (P ++ [⟨Txt.mul (Str.ofString "+") c, t, Str.ofString "", u⟩]) = textF (Str.ofString "&lt;") (Str.ofString "&gt;") (Str.ofString "&amp;") ((numsOf ns).map fun k' => k'.fmod c) := pl_part hb hP rfl rfl hT
end Mine
end
section
open PySem PySem.W PySem.Calls PyProof.Rows PyProof.V PySem.Spec
set_option maxRecDepth 100000
set_option linter.unusedVariables false
namespace Mine
/-- a ledger with the place of two objects left open -/
inductive Two (c1 c2 : Addr) (o1 o2 : Obj) : List (Addr × Obj) → (Obj → Obj → List (Addr × Obj)) → Prop
  | nil : Two c1 c2 o1 o2 [] (fun _ _ => [])
  | one {l g} : Two c1 c2 o1 o2 l g → Two c1 c2 o1 o2 ((c1, o1) :: l) (fun a b => (c1, a) :: g a b)
  | two {l g} : Two c1 c2 o1 o2 l g → Two c1 c2 o1 o2 ((c2, o2) :: l) (fun a b => (c2, b) :: g a b)
  | skip {p l g} : Two c1 c2 o1 o2 l g → Two c1 c2 o1 o2 (p :: l) (fun a b => p :: g a b)
theorem Two.at {c1 c2 : Addr} {o1 o2 : Obj} {l : List (Addr × Obj)} {g : Obj → Obj → List (Addr × Obj)} (h : Two c1 c2 o1 o2 l g) : g o1 o2 = l := by
  induction h with
  | nil => rfl
  | one _ ih => show (c1, o1) :: _ = _; rw [ih]
  | two _ ih => show (c2, o2) :: _ = _; rw [ih]
  | skip _ ih => show _ :: _ = _; rw [ih]
theorem Two.ads {c1 c2 : Addr} {o1 o2 : Obj} {l : List (Addr × Obj)} {g : Obj → Obj → List (Addr × Obj)} (h : Two c1 c2 o1 o2 l g) (a b : Obj) : ∀ p ∈ g a b, ∃ q ∈ l, q.1 = p.1 := by
  induction h with
  | nil => intro p hp; exact nomatch hp
  | one _ ih =>
    intro p hp
    rcases List.mem_cons.mp hp with rfl | hp
    · exact ⟨_, List.mem_cons_self, rfl⟩
    · obtain ⟨q, hq, e⟩ := ih p hp; exact ⟨q, List.mem_cons_of_mem _ hq, e⟩
  | two _ ih =>
    intro p hp
    rcases List.mem_cons.mp hp with rfl | hp
    · exact ⟨_, List.mem_cons_self, rfl⟩
    · obtain ⟨q, hq, e⟩ := ih p hp; exact ⟨q, List.mem_cons_of_mem _ hq, e⟩
  | skip _ ih =>
    intro p hp
    rcases List.mem_cons.mp hp with rfl | hp
    · exact ⟨_, List.mem_cons_self, rfl⟩
    · obtain ⟨q, hq, e⟩ := ih p hp; exact ⟨q, List.mem_cons_of_mem _ hq, e⟩

theorem lookup4 {m : Str → Option Value} {n1 n2 n3 n4 : Str} {v1 v2 v3 v4 : Value} (h1 : m n1 = some v1) (h2 : m n2 = some v2) (h3 : m n3 = some v3) (h4 : m n4 = some v4) :
    m = fun y => if y = n1 then some v1 else if y = n2 then some v2 else if y = n3 then some v3 else if y = n4 then some v4 else m y := by
  funext y
  by_cases e1 : y = n1
  · rw [if_pos e1, e1, h1]
  · rw [if_neg e1]
    by_cases e2 : y = n2
    · rw [if_pos e2, e2, h2]
    · rw [if_neg e2]
      by_cases e3 : y = n3
      · rw [if_pos e3, e3, h3]
      · rw [if_neg e3]
        by_cases e4 : y = n4
        · rw [if_pos e4, e4, h4]
        · rw [if_neg e4]

section
variable {prog : Program} {w : World} {A : Around} {E : Value → Shared → Prop} {s : Shared} {env : Env} {h₀ : Heap} {target : Expr} {body : List Stmt} {Q : Flow → Shared → Prop}

theorem For_listC {iter : Expr} {pos : Pos}
    (h : wpAny (model prog w) A (eval iter env) (fun xv s₁ => ListAtB prog w A h₀ env target body Q E xv s₁) E s)
    (hs : ∀ x, foldedSetIterable iter env x = pure x := by intro _; rfl)
    (hE : PassesOwn (model prog w) A env E := by passes_own) (m : Str → Option Value) (F : Fr h₀ env.locals s.heap m) :
    wpAny (model prog w) A (exec (.For target iter body [] pos) env) Q E s := For_listB F h hs hE

/-- the end of a turn: what the turn may have made is let go -/
def EndC (h₀ : Heap) (L : Addr) (s₁ : Shared) (I : Addr) (o : Obj) (n1 n2 n3 n4 : Str) (v1 v2 v3 v4 : Value) (c1 c2 : Addr) (g : Obj → Obj → List (Addr × Obj)) (s₂ : Shared) : Prop :=
  ∃ h' tk m' a b xa xb, s₂ = { s₁ with heap := h', toks := tk } ∧ Fr h₀ L h' m' ∧ News h₀ L h' ((I, o) :: g a b) ∧ a.data = .cell xa ∧ b.data = .cell xb ∧ m' n1 = some v1 ∧ m' n2 = some v2 ∧ m' n3 = some v3 ∧ m' n4 = some v4
def PostC (h₀ : Heap) (L : Addr) (s₁ : Shared) (I : Addr) (o : Obj) (n1 n2 n3 n4 : Str) (v1 v2 v3 v4 : Value) (c1 c2 : Addr) (g : Obj → Obj → List (Addr × Obj)) (Q : Flow → Shared → Prop) (f : Flow) (s₂ : Shared) : Prop :=
  match f with
  | .ret v => Q (.ret v) s₂
  | .brk => Q .next s₂
  | _ => EndC h₀ L s₁ I o n1 n2 n3 n4 v1 v2 v3 v4 c1 c2 g s₂
theorem EndC.intro {L : Addr} {s₁ : Shared} {I : Addr} {o : Obj} {n1 n2 n3 n4 : Str} {v1 v2 v3 v4 : Value} {c1 c2 : Addr} {g : Obj → Obj → List (Addr × Obj)} {h' : Heap} {tk : Nat} {m' : Str → Option Value} {all : List (Addr × Obj)} {a b : Obj} {xa xb : Option Value}
    (F : Fr h₀ L h' m') (N : News h₀ L h' all) (ha : (c1, a) ∈ all) (hb : (c2, b) ∈ all) (da : a.data = .cell xa) (db : b.data = .cell xb) (sub : SubL ((I, o) :: g a b) all)
    (h1 : m' n1 = some v1) (h2 : m' n2 = some v2) (h3 : m' n3 = some v3) (h4 : m' n4 = some v4) : EndC h₀ L s₁ I o n1 n2 n3 n4 v1 v2 v3 v4 c1 c2 g { s₁ with heap := h', toks := tk } :=
  ⟨h', tk, m', a, b, xa, xb, rfl, F, fun p hp => N p (sub.mem p hp), da, db, h1, h2, h3, h4⟩

abbrev tupO (b : Int) (t : Tok) (l : Addr) : Obj := { cls := .type "tuple", data := .seq #[.int b t, .ref l] }
/-- what the outer loop's tuples are -/
def PartsAt (c1 c2 : Addr) (led : List (Addr × Obj)) (T : Addr) (b : Int) (t : Tok) (l : Addr) (ps : List Value) (n : Nat) : Prop :=
  (T, tupO b t l) ∈ led ∧ (l, W.listOf ps.toArray n) ∈ led ∧ (@LT.lt Nat _ c1 l ∧ @LT.lt Nat _ c2 l ∧ @LT.lt Nat _ c1 T ∧ @LT.lt Nat _ c2 T) ∧ (b = 16 ∨ b = 4 ∨ b = 2) ∧ ∀ p ∈ ps, ∃ c t, p = .int c t ∧ PartOk b c

theorem RestB.outer {I : Addr} {keep : Addr × Obj} {vs : List Value} {m : Str → Option Value} {news : List (Addr × Obj)} {n1 n2 n3 n4 : Str} {v1 v2 v3 v4 : Value} {c1 c2 : Addr} {o1 o2 : Obj} {x1 x2 : Option Value} {g : Obj → Obj → List (Addr × Obj)}
    (U : Two c1 c2 o1 o2 news g) (hI : ∀ p ∈ news, p.1 < I) (hd1 : o1.data = .cell x1) (hd2 : o2.data = .cell x2) (hk : ∀ a b, SubL [keep] (g a b))
    (h1 : m n1 = some v1) (h2 : m n2 = some v2) (h3 : m n3 = some v3) (h4 : m n4 = some v4)
    (hv : ∀ v ∈ vs, ∃ T b t l ps n, v = .ref T ∧ ∀ x y, PartsAt c1 c2 (g x y) T b t l ps n)
    (turn : ∀ (T : Addr) (b : Int) (t : Tok) (l : Addr) (ps : List Value) (n : Nat), (@LT.lt Nat _ c1 l ∧ @LT.lt Nat _ c2 l ∧ @LT.lt Nat _ c1 T ∧ @LT.lt Nat _ c2 T) → (b = 16 ∨ b = 4 ∨ b = 2) → (∀ p ∈ ps, ∃ c t, p = .int c t ∧ PartOk b c) →
      ∀ (u : Str → Option Value) (a a' : Obj) (x x' : Option Value) (h : Heap) (tk : Nat) (o : Obj), a.data = .cell x → a'.data = .cell x' → 1 ≤ tk → o.cls = .type "list_iterator" →
        Fr h₀ env.locals h (fun y => if y = n1 then some v1 else if y = n2 then some v2 else if y = n3 then some v3 else if y = n4 then some v4 else u y) → News h₀ env.locals h ((I, o) :: (T, tupO b t l) :: (l, W.listOf ps.toArray n) :: g a a') →
        wpAny (model prog w) A (assign target env (.ref T)) (fun _ s₂ => wpAny (model prog w) A (execs body env) (PostC h₀ env.locals { s with heap := h, toks := tk } I o n1 n2 n3 n4 v1 v2 v3 v4 c1 c2 g Q) E s₂) E { s with heap := h, toks := tk })
    (fin : ∀ (u : Str → Option Value) (a a' : Obj) (x x' : Option Value) (h : Heap) (tk : Nat), a.data = .cell x → a'.data = .cell x' → 1 ≤ tk → Fr h₀ env.locals h (fun y => if y = n1 then some v1 else if y = n2 then some v2 else if y = n3 then some v3 else if y = n4 then some v4 else u y) → News h₀ env.locals h (g a a') → Q .next { s with heap := h, toks := tk }) :
    RestB prog w A E h₀ env target body Q s I keep vs m news := by
  have key : ∀ (vs : List Value), (∀ v ∈ vs, ∃ T b t l ps n, v = .ref T ∧ ∀ x y, PartsAt c1 c2 (g x y) T b t l ps n) → ∀ (m : Str → Option Value) (a a' : Obj) (x x' : Option Value), a.data = .cell x → a'.data = .cell x' → m n1 = some v1 → m n2 = some v2 → m n3 = some v3 → m n4 = some v4 →
      RestB prog w A E h₀ env target body Q s I keep vs m (g a a') := by
    intro vs
    induction vs with
    | nil =>
      intro _ m a a' x x' da da' e1 e2 e3 e4 h tk htk F N
      rw [lookup4 e1 e2 e3 e4] at F
      exact fin _ a a' x x' h tk da da' htk F N
    | cons v r ih =>
      intro hv m a a' x x' da da' e1 e2 e3 e4 h tk o htk ho F N
      obtain ⟨T, b, t, l, ps, n, rfl, hp⟩ := hv v (List.mem_cons_self ..)
      obtain ⟨p1, p2, p3, p4, p5⟩ := hp a a'
      rw [lookup4 e1 e2 e3 e4] at F
      refine wpAny_mono (turn T b t l ps n p3 p4 p5 _ a a' x x' h tk o da da' htk ho F ?_) (fun _ s₂ h₂ => wpAny_mono h₂ (fun f s₃ h₃ => ?_) fun _ _ e => e) fun _ _ e => e
      · intro p hp
        rcases List.mem_cons.mp hp with rfl | hp
        · exact N _ List.mem_cons_self
        · rcases List.mem_cons.mp hp with rfl | hp
          · exact N _ (List.mem_cons_of_mem _ p1)
          · rcases List.mem_cons.mp hp with rfl | hp
            · exact N _ (List.mem_cons_of_mem _ p2)
            · exact N _ (List.mem_cons_of_mem _ hp)
      · have go : ∀ s₃, EndC h₀ env.locals { s with heap := h, toks := tk } I o n1 n2 n3 n4 v1 v2 v3 v4 c1 c2 g s₃ →
            UnrEndW h₀ env.locals { s with heap := h, toks := tk } [(I, o)] (fun m' n' => SubL [keep] n' ∧ RestB prog w A E h₀ env target body Q s I keep r m' n') s₃ := by
          rintro s₃ ⟨h', tk', m', b1, b2, y1, y2, rfl, F', N', d1, d2, q1, q2, q3, q4⟩
          refine ⟨h', tk', m', g b1 b2, rfl, F', N', fun p hp q hq => ?_, hk _ _, ih (fun v hv' => hv v (List.mem_cons_of_mem _ hv')) m' b1 b2 y1 y2 d1 d2 q1 q2 q3 q4⟩
          obtain ⟨z, hz, e⟩ := U.ads b1 b2 p hp
          rw [List.mem_singleton.mp hq, ← e]
          exact Nat.ne_of_lt (hI z hz)
        cases f with
        | ret v => exact h₃
        | brk => exact h₃
        | cont => exact go _ h₃
        | next => exact go _ h₃
  have := key vs hv m o1 o2 x1 x2 hd1 hd2 h1 h2 h3 h4
  rwa [U.at] at this

/-- the same for one object, the frame's map as it was -/
def EndO (h₀ : Heap) (L : Addr) (s₁ : Shared) (I : Addr) (o : Obj) (m : Str → Option Value) (c : Addr) (g : Obj → Obj → List (Addr × Obj)) (s₂ : Shared) : Prop :=
  ∃ h' tk a xa, s₂ = { s₁ with heap := h', toks := tk } ∧ Fr h₀ L h' m ∧ News h₀ L h' ((I, o) :: g a a) ∧ a.data = .cell xa
def PostO (h₀ : Heap) (L : Addr) (s₁ : Shared) (I : Addr) (o : Obj) (m : Str → Option Value) (c : Addr) (g : Obj → Obj → List (Addr × Obj)) (Q : Flow → Shared → Prop) (f : Flow) (s₂ : Shared) : Prop :=
  match f with
  | .ret v => Q (.ret v) s₂
  | .brk => Q .next s₂
  | _ => EndO h₀ L s₁ I o m c g s₂
theorem EndO.intro {L : Addr} {s₁ : Shared} {I : Addr} {o : Obj} {m : Str → Option Value} {c : Addr} {g : Obj → Obj → List (Addr × Obj)} {h' : Heap} {tk : Nat} {all : List (Addr × Obj)} {a : Obj} {xa : Option Value}
    (F : Fr h₀ L h' m) (N : News h₀ L h' all) (ha : (c, a) ∈ all) (da : a.data = .cell xa) (sub : SubL ((I, o) :: g a a) all) : EndO h₀ L s₁ I o m c g { s₁ with heap := h', toks := tk } :=
  ⟨h', tk, a, xa, rfl, F, fun p hp => N p (sub.mem p hp), da⟩
theorem RestB.inner {I : Addr} {keep : Addr × Obj} {ps : List Value} {m : Str → Option Value} {news : List (Addr × Obj)} {c1 : Addr} {o1 : Obj} {x1 : Option Value} {g : Obj → Obj → List (Addr × Obj)} {b : Int}
    (hv : ∀ p ∈ ps, ∃ c t, p = .int c t ∧ PartOk b c) (U : Two c1 c1 o1 o1 news g) (hI : ∀ p ∈ news, p.1 < I) (hd1 : o1.data = .cell x1) (hk : ∀ a b, SubL [keep] (g a b))
    (turn : ∀ (c : Int) (t : Tok), PartOk b c → ∀ (a : Obj) (x : Option Value) (h : Heap) (tk : Nat) (o : Obj), a.data = .cell x → 1 ≤ tk → o.cls = .type "list_iterator" → Fr h₀ env.locals h m → News h₀ env.locals h ((I, o) :: g a a) →
        wpAny (model prog w) A (assign target env (.int c t)) (fun _ s₂ => wpAny (model prog w) A (execs body env) (PostO h₀ env.locals { s with heap := h, toks := tk } I o m c1 g Q) E s₂) E { s with heap := h, toks := tk })
    (fin : ∀ (a : Obj) (x : Option Value) (h : Heap) (tk : Nat), a.data = .cell x → 1 ≤ tk → Fr h₀ env.locals h m → News h₀ env.locals h (g a a) → Q .next { s with heap := h, toks := tk }) :
    RestB prog w A E h₀ env target body Q s I keep ps m news := by
  have key : ∀ (ps : List Value), (∀ p ∈ ps, ∃ c t, p = .int c t ∧ PartOk b c) → ∀ (a : Obj) (x : Option Value), a.data = .cell x → RestB prog w A E h₀ env target body Q s I keep ps m (g a a) := by
    intro ps
    induction ps with
    | nil =>
      intro _ a x da h tk htk F N
      exact fin a x h tk da htk F N
    | cons v r ih =>
      intro hv a x da h tk o htk ho F N
      obtain ⟨c, t, rfl, hp⟩ := hv v (List.mem_cons_self ..)
      refine wpAny_mono (turn c t hp a x h tk o da htk ho F N) (fun _ s₂ h₂ => wpAny_mono h₂ (fun f s₃ h₃ => ?_) fun _ _ e => e) fun _ _ e => e
      have go : ∀ s₃, EndO h₀ env.locals { s with heap := h, toks := tk } I o m c1 g s₃ →
          UnrEndW h₀ env.locals { s with heap := h, toks := tk } [(I, o)] (fun m' n' => SubL [keep] n' ∧ RestB prog w A E h₀ env target body Q s I keep r m' n') s₃ := by
        rintro s₃ ⟨h', tk', b1, y1, rfl, F', N', d1⟩
        refine ⟨h', tk', m, g b1 b1, rfl, F', N', fun p hp q hq => ?_, hk _ _, ih (fun v hv' => hv v (List.mem_cons_of_mem _ hv')) b1 y1 d1⟩
        obtain ⟨z, hz, e⟩ := U.ads b1 b1 p hp
        rw [List.mem_singleton.mp hq, ← e]
        exact Nat.ne_of_lt (hI z hz)
      cases f with
      | ret v => exact h₃
      | brk => exact h₃
      | cont => exact go _ h₃
      | next => exact go _ h₃
  have := key ps hv o1 x1 hd1
  rwa [U.at] at this
end
end Mine
end
section
open PySem PySem.W PySem.Calls PyProof.Rows PyProof.V PySem.Spec
set_option linter.unusedVariables false
namespace Mine
theorem ct1_left {w : World} {mean : ExcName → Option Value} {mg mb : Str → Option Value} (news : List (Addr × Obj)) (n b : Int) (t u : Tok) (hb : b = 16 ∨ b = 4 ∨ b = 2) (hn : 0 ≤ n) (hn2 : n < 1099511627776) :
   Ct PySem.Challenge.rw_ik0016_01.row.prog w (hd1.heap_39 w.params) hd1.view_39 (looseW hd1.view_39 [Str.ofString "escape", Str.ofString "unescape"]) mean mg mb 1 60 news [.int n t, .int b u] (fun t => .int (dsI b n) t) := by
  rcases hb with rfl | rfl | rfl
  · exact ct1_left16 news n t u hn hn2
  · exact ct1_left4 news n t u hn hn2
  · exact ct1_left2 news n t u hn hn2
theorem Two.last {c1 c2 : Addr} {o1 o2 : Obj} : Two c1 c2 o1 o2 [(c2, o2), (c1, o1)] (fun a b => [(c2, b), (c1, a)]) := .two (.one .nil)
theorem Two.last1 {c : Addr} {o : Obj} {q : Addr × Obj} : Two c c o o [(c, o), q] (fun _ b => [(c, b), q]) := .two (.skip .nil)
theorem parts_nil {b : Int} : ∀ p ∈ ([] : List Value), ∃ c t, p = .int c t ∧ PartOk b c := fun _ h => nomatch h
theorem parts_cons {b c : Int} {t : Tok} {ps : List Value} (h : PartOk b c) (r : ∀ p ∈ ps, ∃ c t, p = .int c t ∧ PartOk b c) : ∀ p ∈ (.int c t :: ps : List Value), ∃ c t, p = .int c t ∧ PartOk b c := fun p hp => by
  rcases List.mem_cons.mp hp with rfl | hp
  · exact ⟨c, t, rfl, h⟩
  · exact r p hp
theorem parts_at {c1 c2 : Addr} {g : Obj → Obj → List (Addr × Obj)} {T : Addr} {b : Int} {t : Tok} {l : Addr} {ps : List Value} {n : Nat} (m1 : ∀ x y, (T, tupO b t l) ∈ g x y) (m2 : ∀ x y, (l, W.listOf ps.toArray n) ∈ g x y)
    (q1 : @LT.lt Nat _ c1 l) (q2 : @LT.lt Nat _ c2 l) (q3 : @LT.lt Nat _ c1 T) (q4 : @LT.lt Nat _ c2 T) (hb : b = 16 ∨ b = 4 ∨ b = 2) (hp : ∀ p ∈ ps, ∃ c t, p = .int c t ∧ PartOk b c) :
    ∃ T' b t l ps n, (Value.ref T) = .ref T' ∧ ∀ x y, PartsAt c1 c2 (g x y) T' b t l ps n := ⟨T, b, t, l, ps, n, rfl, fun x y => ⟨m1 x y, m2 x y, ⟨q1, q2, q3, q4⟩, hb, hp⟩⟩
theorem outs_nil {c1 c2 : Addr} {g : Obj → Obj → List (Addr × Obj)} : ∀ v ∈ ([] : List Value), ∃ T b t l ps n, v = .ref T ∧ ∀ x y, PartsAt c1 c2 (g x y) T b t l ps n := fun _ h => nomatch h
theorem outs_cons {c1 c2 : Addr} {g : Obj → Obj → List (Addr × Obj)} {v : Value} {vs : List Value} (h : ∃ T b t l ps n, v = .ref T ∧ ∀ x y, PartsAt c1 c2 (g x y) T b t l ps n) (r : ∀ v ∈ vs, ∃ T b t l ps n, v = .ref T ∧ ∀ x y, PartsAt c1 c2 (g x y) T b t l ps n) : ∀ z ∈ v :: vs, ∃ T b t l ps n, z = .ref T ∧ ∀ x y, PartsAt c1 c2 (g x y) T b t l ps n := fun p hp => by
  rcases List.mem_cons.mp hp with rfl | hp
  · exact h
  · exact r p hp
theorem partOk_bd {b c : Int} (h : PartOk b c) : 1 ≤ c ∧ c ≤ 15 := by unfold PartOk at h; omega
section
variable {prog : Program} {w : World} {A : Around} {h₀ : Heap} {L : Addr} {m : Str → Option Value} {env : Env}
theorem DSrc.introB {kx vx : Expr} {x : Str} {scope : Scope} {cl : List (Str × Addr)} {mo : Addr → Str → Option Value} {Q : Value → Shared → Prop} {r : Addr} {a b c : Int} {t u v : Tok} {n : Nat} {news : List (Addr × Obj)} {s₁ : Shared} {B : Int} {oB : Obj} {tB : Tok} (hB : oB.data = .cell (some (.int B tB)))
    (hh : A.handled = none) (F : Fr h₀ L s₁.heap m) (N : News h₀ L s₁.heap news) (hr : IsRange s₁.heap r a b c t u v) (hsm : Builtin.Range.small a b c = true) (hn : Builtin.Range.rangeSize a b c = ((n : Nat) : Int)) (hn1 : n ≤ 1000) (hlim : h₀.NoLimit)
    (hnd : ((specD kfL (vfL B) a c n).map (·.1)).Nodup) (turn : ∀ i : Nat, i < n → DTurn prog w A h₀ L m env kx vx x scope cl s₁ news kfL (vfL B) (a + (i : Int) * c))
    (fin : ∀ D h tk P, Fr h₀ L h (mo D) → News h₀ L h ((D, entObj w P P.length) :: news) → (∀ p ∈ news, p.1 < D) → (D == sysModules) = false → P.map Ent.two = specD kfL (vfL B) a c n → (∀ p ∈ P, EntOk p) → Q (.ref D) { s₁ with heap := h, toks := tk }) :
    DSrc prog w A h₀ L m env kx vx x scope cl mo Q (.ref r) s₁ := DSrc.intro kfL (vfL B) hh F N hr hsm hn hn1 hlim hnd turn fin
end
end Mine
end
open PySem PySem.W PySem.Calls PyProof.Rows Mine
local macro_rules | `(tactic| walk_at "pyIter ref") => `(tactic| k_dflt (k_extra "pyIter ref"))
local macro_rules | `(tactic| walk_at "exec For Tuple List cons nil") => `(tactic| (k_here; (with_reducible rename (_ = mtext _ _) => hT'); (k_dflt (replace hT' := TextIs.of hT')); (with_reducible rename Fr _ _ _ _ => lF'); (with_unfolding_all refine' For_listC ?_ (m := _) (F := ?zF)); (case zF => first | with_reducible exact lF' | exact lF' | with_unfolding_all exact lF'); k_whole))
local macro_rules | `(tactic| walk_at "exec For Name Name cons nil") => `(tactic| (k_here; (with_reducible rename Fr _ _ _ _ => lF'); (with_unfolding_all refine' For_listC ?_ (m := _) (F := ?zF)); (case zF => first | with_reducible exact lF' | exact lF' | with_unfolding_all exact lF'); k_whole))
local macro_rules | `(tactic| walk_at "ListAtB") => `(tactic| (k_dflt (refine' ListAtB.intro ?k1 ?k2 ?k3 ?k4 ?k5 ?k6 ?k7 ?_; (case k2 => k_asm); (case k3 => k_asm); (case k4 => k_mem); (case k1 => exact rfl); (case k5 => exact rfl); (case k6 => exact rfl); (case k7 => first | omega | (dsimp only; omega))); intro i' l1; have hI' := l1; (try k_lt l1)))
local macro_rules | `(tactic| walk_at "RestB") => `(tactic| k_dflt (first | k_extra "RestB inner" | k_extra "RestB outer"))
local macro_rules | `(tactic| walk_at "PostC") => `(tactic| dsimp only [PostC])
local macro_rules | `(tactic| walk_at "PostO") => `(tactic| dsimp only [PostO])
local macro_rules | `(tactic| walk_at "EndC") => `(tactic| k_dflt (refine' EndC.intro ?zF ?zN ?za ?zb ?zda ?zdb ?zsub ?zh1 ?zh2 ?zh3 ?zh4; (case zF => k_asm); (case zN => k_asm); (case za => k_mem); (case zb => k_mem); (case zda => assumption); (case zdb => assumption); (case zsub => ((try dsimp only); k_subL)); (case zh1 => rfl); (case zh2 => rfl); (case zh3 => rfl); (case zh4 => rfl)))
local macro_rules | `(tactic| walk_at "EndO") => `(tactic| k_dflt (refine' EndO.intro ?zF ?zN ?za ?zda ?zsub; (case zF => k_asm); (case zN => k_asm); (case za => k_mem); (case zda => assumption); (case zsub => ((try dsimp only); k_subL))))
local macro_rules | `(tactic| walk_at "exec Assign cons DictComp") => `(tactic| (k_here; k_dflt (refine Assign_DictComp_T (F₀ := by k_asm) (by rfl) (by with_unfolding_all rfl) (by with_unfolding_all rfl) (by decide) (by rfl) (by decide) (by rfl) (by rfl) (by rfl) ?_)))
local macro_rules | `(tactic| walk_at "execs nil") => `(tactic| (k_here; (refine' gen_toks ?k1 ?_); (case k1 => first | omega | (dsimp only; omega)); intro tk9 htk9; refine wpAny_execs_nil ?_))
local macro_rules | `(tactic| walk_at "execs cons") => `(tactic| (k_here; (refine' gen_toks ?k1 ?_); (case k1 => first | omega | (dsimp only; omega)); intro tk9 htk9; refine wpAny_execs_cons ?_))
local macro_rules | `(tactic| walk_at "DSrc") => `(tactic| k_dflt (k_extra "DSrc"))
local macro_rules | `(tactic| walk_at "call ref") => `(tactic| (k_here; k_dflt (refine' ct_use2 (ct1_ap _ _ _ ?h1 ?h2) ?k1 ?k2 ?k3 ?k4 ?k5 ?kK ?kd ?ku ?_; (case h1 => first | exact nums_1 _ _ | exact nums_3 _ _); (case h2 => first | exact nums_2 _ _ | exact nums_4 _ _); (case k1 => k_asm); (case k2 => k_asm); (case k3 => k_asm); (case k4 => k_asm); (case k5 => k_asm); (case kK => first | exact rfl | assumption); (case kd => ktr_room); (case ku => ktr_units)); intro t9 h9 tk9 hle9 F9 N9; (try dsimp only at hle9); (try dsimp only); (try k_fold)))
local macro_rules | `(tactic| walk_at "eval ListComp") => `(tactic| (k_here; (with_reducible show wpAny _ _ (eval (PySem.Expr.ListComp _ [⟨PySem.Expr.Name (PySem.Str.ofString "c") _, _, _, _⟩] _ _) _) _ _ _); k_dflt (refine ListComp_B (F₀ := by k_asm) (by with_unfolding_all rfl) (by decide) (by rfl) (by decide) (by rfl) ?_)))
local macro_rules | `(tactic| walk_at "BSrc") => `(tactic| (k_here; k_dflt (refine BSrc.intro (by rfl) (by k_asm) (by k_asm) (by first | exact ap_sz (nums_1 _ _) (nums_2 _ _) | exact ap_sz (nums_3 _ _) (nums_4 _ _)) ?_; intro g'; (refine' kct_bytes chrS (fun k' t' I' oI' C' oC' D' m' ys' h' tk' E' hlo' hhi' hC' hx' F' N' off' ne' hM' => ?_) ?_); kcf_last)))
local macro_rules | `(tactic| walk_at "CompEnd") => `(tactic| (refine LCg.CompEnd.intro (by assumption) (by assumption) _ (fun p hp => hp) (by assumption) True.intro ?_))
local macro_rules | `(tactic| walk_at "KCtEl") => `(tactic| exact kct_el (by rfl) (by rfl) (by rfl))
local macro_rules | `(tactic| walk_at "call builtin:str.join") => `(tactic| ((with_reducible rename CarriedAll _ (List.map _ _) => ktC); (with_unfolding_all refine' join_bytes (by first | assumption | is_list | exact News.isList (by k_asm) (by k_mem)) ktC ?k1 ?_); (case k1 => first | exact Nat.le_trans (ap_len10 (nums_1 _ _) (nums_2 _ _)) (by decide) | exact Nat.le_trans (ap_len10 (nums_3 _ _) (nums_4 _ _)) (by decide)); intro _ _))
local macro_rules | `(tactic| walk_at "subscriptTail") => `(tactic| (k_here; k_dflt ((with_reducible rename News _ _ _ _ => N'); (with_unfolding_all refine' pick3_item N' ?k1 ?k2 ?_ ?k3); (case k1 => k_mem); (case k2 => exact fmod3 _); (case k3 => with_unfolding_all rfl); intro _)))
local macro_rules | `(tactic| walk_at "binaryOp Add str str") => `(tactic| (k_here; k_dflt ((with_unfolding_all refine' SB.add ?_ ?kz); (case kz => first | exact mt_sz1 (by decide) (by decide) (by decide) (nums_1 _ _) (nums_2 _ _) | exact mt_sz1 (by decide) (by decide) (by decide) (nums_3 _ _) (nums_4 _ _)); intro _ _)))
local macro_rules | `(tactic| walk_at "inplaceOp Add str str") => `(tactic| (k_here; k_dflt ((with_unfolding_all refine' SB.iadd ?_ ?kz); (case kz => first | exact mt_sz2 (nums_bd _) (by assumption) (nums_len2 _ (by assumption)) (by decide) (by decide) (by decide) (nums_1 _ _) (nums_2 _ _) | exact mt_sz2 (nums_bd _) (by assumption) (nums_len2 _ (by assumption)) (by decide) (by decide) (by decide) (nums_3 _ _) (nums_4 _ _)); intro _ _)))
local macro_rules | `(tactic| walk_at "call ref") => `(tactic| (k_here; k_dflt (refine' ct_use2 (ct1_added _ _ _ _ _ ?h1 ?h2 ?h3 ?h4) ?k1 ?k2 ?k3 ?k4 ?k5 ?kK ?kd ?ku ?_; (case h1 => omega); (case h2 => omega); (case h3 => omega); (case h4 => omega); (case k1 => k_asm); (case k2 => k_asm); (case k3 => k_asm); (case k4 => k_asm); (case k5 => k_asm); (case kK => first | exact rfl | assumption); (case kd => ktr_room); (case ku => ktr_units)); intro t9 h9 tk9 hle9 F9 N9; (try dsimp only at hle9); (try dsimp only); (try k_fold)))
local macro_rules | `(tactic| walk_at "call ref") => `(tactic| (k_here; k_dflt (refine' ct_use2 (ct1_left _ _ _ _ _ ?hb ?h1 ?h2) ?k1 ?k2 ?k3 ?k4 ?k5 ?kK ?kd ?ku ?_; (case k1 => k_asm); (case k2 => k_asm); (case k3 => k_asm); (case k4 => k_asm); (case k5 => k_asm); (case kK => first | exact rfl | assumption); (case kd => ktr_room); (case ku => ktr_units); (case hb => assumption); (case h1 => exact nums_lo (by assumption)); (case h2 => exact nums_hi (by assumption))); intro t9 h9 tk9 hle9 F9 N9; (try dsimp only at hle9); (try dsimp only); (try k_fold)))
local macro_rules | `(tactic| walk_at "call ref") => `(tactic| (k_here; k_dflt (refine' ct_use2 (ct1_esc _ _ _ _ _ _ ?h1 ?h2 ?h3 ?h4 ?h5 ?h6 ?h7 ?h8 ?h9 ?h10) ?k1 ?k2 ?k3 ?k4 ?k5 ?kK ?kd ?ku ?_; (case k1 => k_asm); (case k2 => k_asm); (case k3 => k_asm); (case k4 => k_asm); (case k5 => k_asm); (case kK => first | exact rfl | assumption); (case kd => ktr_room); (case ku => ktr_units); (case h1 => k_mem); (case h2 => assumption); (case h3 => first | exact pl_nd (by assumption) | (exact pl_nd3 (partOk_c (by assumption)) (by assumption))); (case h4 => assumption); (case h5 => first | (rw [pl_ln (by assumption)]; decide) | (rw [pl_ln2 (by assumption)]; decide)); (case h6 => first | (rw [pl_ln (by assumption)]; decide) | (rw [pl_ln2 (by assumption)]; decide)); (case h7 => exact pl_s0 (by assumption)); (case h8 => exact pl_s1 (by assumption)); (case h9 => exact pl_s2 (by assumption)); (case h10 => first | (exact pl_fits (by assumption) (by assumption) (by assumption)) | (exact pl_pfits3 (by assumption) (by assumption) (by assumption)))); intro t9 h9 tk9 hle9 F9 N9; (try dsimp only at hle9); (try dsimp only); (try k_fold)))
local macro_rules | `(tactic| walk_at "call ref") => `(tactic| (k_here; k_dflt (refine' ct_use2 (ct1_une0 _ _ _ ?h1 ?h2 ?h3) ?k1 ?k2 ?k3 ?k4 ?k5 ?kK ?kd ?ku ?_; (case k1 => k_asm); (case k2 => k_asm); (case k3 => k_asm); (case k4 => k_asm); (case k5 => k_asm); (case kK => first | exact rfl | assumption); (case kd => ktr_room); (case ku => ktr_units); (case h1 => (exact pl_u0 (by assumption) (by assumption) (by assumption))); (case h2 => (exact pl_u1 (by assumption) (by assumption) (by assumption))); (case h3 => (exact pl_u2 (by assumption) (by assumption) (by assumption)))); intro t9 h9 tk9 hle9 F9 N9; (try dsimp only at hle9); (try dsimp only); (try k_fold)))
local macro_rules | `(tactic| walk_at "call ref") => `(tactic| (k_here; k_dflt (refine' ct_use2 (ct1_text _ _ _ _ _ _ _ _ _ _ _ _ _ ?h1 ?h2 ?h3 ?h4 ?h5 ?h6 ?h7 ?h8) ?k1 ?k2 ?k3 ?k4 ?k5 ?kK ?kd ?ku ?_; (case k1 => k_asm); (case k2 => k_asm); (case k3 => k_asm); (case k4 => k_asm); (case k5 => k_asm); (case kK => first | exact rfl | assumption); (case kd => ktr_room); (case ku => ktr_units); (case h1 => k_mem); (case h2 => k_mem); (case h3 => assumption); (case h4 => exact cs_len); (case h5 => first | exact cs_bd1 | exact cs_bd2 (by omega)); (case h6 => decide); (case h7 => decide); (case h8 => decide)); intro t9 h9 tk9 hle9 F9 N9; (try dsimp only at hle9); (try dsimp only); (try k_fold)))
local macro_rules | `(tactic| walk_at "compareOp NotEq str str") => `(tactic| (k_here; k_dflt (refine ne_same ?k1 ?_; (case k1 => first | (with_reducible exact pl_part3 (by assumption) (by assumption) (by assumption)) | (with_reducible exact pl_given (by assumption) (by assumption) (by assumption)) | (with_reducible exact pl_une (by assumption) (by assumption) (by assumption)) | (exact pl_part3 (by assumption) (by assumption) (by assumption)) | (exact pl_given (by assumption) (by assumption) (by assumption)) | (exact pl_une (by assumption) (by assumption) (by assumption))))))
local macro_rules | `(tactic| walk_at "eval Dict") => `(tactic| (k_here; k_dflt (refine Dict_star (by k_asm) (by k_asm) (TopRead.nolimit (by k_asm)) ?_); intro D' h' F' N' l1 lo'; (try k_lt l1)))
local macro_rules | `(tactic| walk_at "StarSrc") => `(tactic| k_dflt (k_extra "StarSrc"))
local macro_rules | `(tactic| walk_at "StarEnd") => `(tactic| k_dflt (k_extra "StarEnd"))
local macro_rules | `(tactic| walk_at "binaryOp Mult str int") => `(tactic| (k_here; k_dflt (first | refine mulT (vfL_ok (by omega) (by omega)) ?_ | refine mulT (mulOk_of 1 4096 (by decide +kernel) (by omega) (by omega) (by decide) (by decide)) ?_); intro t9 k9 ht9; (try dsimp only at ht9)))
local macro_rules | `(tactic| walk_at "DEnd") => `(tactic| k_dflt (k_extra "DEnd"))
set_option maxRecDepth 100000 in
set_option maxHeartbeats 0 in
theorem PySem.Challenge.cw_ik0016_01_holds : PySem.Challenge.rw_ik0016_01.Holds := by
  exact hd1 (by
  k_with_none
  k_with "state" => first | exact mt_turn (by assumption) (by assumption) rfl | exact mt_turn (by assumption) (by assumption) (Int.natAbs_neg _) | rfl
  k_with "pyIter ref" => (k_of "k" => k_state_given ["numbers"] (fun nums pre text => text = mtext nums pre.length) "text")
  k_with "RestB outer" => (refine' RestB.outer (n1 := Str.ofString "text") (n2 := Str.ofString "numbers") (n3 := Str.ofString "written") (n4 := Str.ofString "marks") ?zU ?zhI ?zd1 ?zd2 ?zk ?zh1 ?zh2 ?zh3 ?zh4 ?zhv ?_ ?_; (case zU => repeat (first | exact Two.last | apply Two.skip)); (case zhI => with_reducible assumption); (case zd1 => with_reducible assumption); (case zd2 => with_reducible assumption); (case zk => (intro _ _; (try dsimp only); exact And.intro (by k_mem) trivial)); (case zh1 => rfl); (case zh2 => rfl); (case zh3 => rfl); (case zh4 => rfl); (case zhv => (repeat (first | exact outs_nil | (refine' outs_cons ?zy ?_; case zy => (refine' parts_at ?zm1 ?zm2 ?zq1 ?zq2 ?zq3 ?zq4 ?zb ?zp; (case zm1 => (intro _ _; (try dsimp only); k_mem)); (case zm2 => (intro _ _; (try dsimp only); k_mem)); (case zq1 => omega); (case zq2 => omega); (case zq3 => omega); (case zq4 => omega); (case zb => decide); (case zp => repeat (first | exact parts_nil | (refine' parts_cons ?zx ?_; (case zx => (unfold PartOk; decide)))))))))); (focus (intro T' b' t' l' ps' n' hlt' hb' hps' u' a' b2' x' y' h' tk' o' da' db' htk' ho' F' N'; (try dsimp only at N'))); rotate_left; (focus (intro u' a' b2' x' y' h' tk' da' db' htk' F' N'; (try dsimp only at N'))); rotate_left)
  k_with "RestB inner" => ((with_reducible rename (∀ p ∈ _, ∃ c t, p = Value.int c t ∧ PartOk _ c) => hps9); refine' RestB.inner hps9 ?zU ?zhI ?zd1 ?zk ?_ ?_; (case zU => repeat (first | exact Two.last1 | apply Two.skip)); (case zhI => with_reducible assumption); (case zd1 => with_reducible assumption); (case zk => (intro _ _; (try dsimp only); exact And.intro (by k_mem) trivial)); (focus (intro c' t' hc' a' x' h' tk' o' da' htk' ho' F' N'; have hc2 := partOk_bd hc'; (try dsimp only at N'))); rotate_left; (focus (intro a' x' h' tk' da' htk' F' N'; (try dsimp only at N'))); rotate_left)
  k_with "DSrc" => ((with_reducible rename (_ = Data.cell (some (Value.int _ _))) => hB9); (refine DSrc.introB hB9 (by rfl) (by k_asm) (by k_asm) (by assumption) (by decide) (by rfl) (by decide) (TopRead.nolimit (by k_asm)) (keys_nodup _) ?_ ?_); (focus (intro i9 hi9; unfold DTurn; have hj0 : 0 ≤ 0 + (i9 : Int) * 1 := (by omega); have hj1 : 0 + (i9 : Int) * 1 < 16 := (by omega); generalize 0 + (i9 : Int) * 1 = j9 at hj0 hj1 ⊢; intro t' I' oI' C' oC' D' oD' m' h' tk' E' htk' hC' hx' F' N'; (try k_fold))); rotate_left; (focus (intro D' h' tk' P' F' N' l1 lo' hPs' hPo'; (try k_lt l1); (try dsimp only); (try k_fold))); rotate_left)
  k_with "DEnd" => ((with_reducible rename (_ ∧ _ ∨ _ ∧ _) => hu9); exact ⟨_, _, _, _, rfl, rfl, rfl, entok1 (by omega) (by omega) (by omega) (by omega), by assumption, by assumption⟩)
  k_with "StarSrc" => ((refine' StarSrc.intro ?k1 ?k2 ?k3 ?k4 ?k5 ?k6 ?k7 ?_); (case k3 => k_asm); (case k4 => k_asm); (case k2 => k_mem); (case k1 => assumption); (case k5 => k_all); (case k6 => exact pl_nd (by assumption)); (case k7 => (rw [pl_ln (by assumption)]; decide)); intro D2' h2' tk2' htk2' F' N' l1 l2'; (try k_lt l1); (try dsimp only at htk2'); (try dsimp only); (try k_fold))
  k_with "StarEnd" => ((with_reducible rename (_ ∧ _ ∨ _ ∧ _) => hu9); (refine' StarEnd.plus ?k1 ?k2 ?k3 ?k4 ?k5 ?k6 ?k7 ?k8 ?_); (case k1 => assumption); (case k7 => k_asm); (case k8 => k_asm); (case k2 => assumption); (case k3 => omega); (case k4 => omega); (case k5 => omega); (case k6 => omega); intro h6' tk6' hE9 F' N'; (try dsimp only); (try k_fold))
  w_strict (k_go0; (all_goals try k_fold); k_steps))
