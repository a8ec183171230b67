import PyProof.Rows.All
import Wide.All
import OpenK.AllK
import Wide.FinOn
import PySem.Challenge.RW_xg0068_01
set_option Elab.async false

section
open PySem PySem.W PyProof.Rows
namespace Mine
set_option maxRecDepth 100000 in
set_option maxHeartbeats 8000000 in
open_top hd for PySem.Challenge.rw_xg0068_01
end Mine
end

section
open PySem PySem.Spec PySem.Calls PySem.W PyProof.Rows
namespace Mine
def sp (n : Nat) : Str := ⟨(List.replicate n 32).toArray⟩
def pad (p q : Nat) : Str := ⟨(List.replicate p 32 ++ 120 :: List.replicate q 32).toArray⟩
theorem pad_len (p q : Nat) : (pad p q).length = p + q + 1 := by
  simp [pad, Str.length]; omega
theorem pad_cps (p q k : Nat) : (pad p q).cps[k]? = if k < p then some 32 else if k = p then some 120 else if k ≤ p + q then some 32 else none := by
  simp only [pad, List.getElem?_toArray]
  by_cases h1 : k < p
  · rw [if_pos h1, List.getElem?_append_left (by simpa using h1)]
    simp [h1]
  · rw [if_neg h1, List.getElem?_append_right (by simpa using Nat.le_of_not_lt h1), List.length_replicate]
    by_cases h2 : k = p
    · subst h2; simp
    · rw [if_neg h2]
      obtain ⟨j, hj⟩ : ∃ j, k - p = j + 1 := ⟨k - p - 1, by omega⟩
      rw [hj, List.getElem?_cons_succ]
      by_cases h3 : k ≤ p + q
      · rw [if_pos h3, List.getElem?_replicate, if_pos (by omega)]
      · rw [if_neg h3, List.getElem?_replicate, if_neg (by omega)]
theorem pad_item {p q : Nat} {l : Int} (h0 : 0 ≤ l) (h1 : l ≤ p + q) : Txt.item (pad p q) l = if l = p then ⟨#[120]⟩ else ⟨#[32]⟩ := by
  obtain ⟨k, rfl⟩ := Int.eq_ofNat_of_zero_le h0
  unfold Txt.item Txt.charAt
  have e : seqIndex? (k : Int) (pad p q).length = some k := by
    unfold seqIndex?
    have : ¬ ((k : Int) < 0) := by omega
    simp only [this, if_false, pad_len]
    rw [if_pos (by simp; omega)]
    simp
  rw [e]
  show (⟨#[((pad p q).cps[k]?).getD 0]⟩ : Str) = _
  rw [pad_cps]
  by_cases h2 : k < p
  · rw [if_pos h2, if_neg (by omega)]; rfl
  · rw [if_neg h2]
    by_cases h3 : k = p
    · rw [if_pos h3, if_pos (by omega)]; rfl
    · rw [if_neg h3, if_pos (show k ≤ p + q by omega), if_neg (show ¬ ((k : Int) = p) by omega)]; rfl
theorem pad_item_blank {p q : Nat} {l : Int} (h0 : 0 ≤ l) (h1 : l ≤ p + q) : (Txt.item (pad p q) l == Str.ofString " ") = decide (l ≠ p) := by
  rw [pad_item h0 h1, show Str.ofString " " = (⟨#[32]⟩ : Str) from by decide +kernel]
  by_cases h : l = p
  · simp [h]
  · simp [h]
theorem pad_item_x {p q : Nat} {l : Int} (h0 : 0 ≤ l) (h1 : l ≤ p + q) : (Txt.item (pad p q) l == Str.ofString "x") = decide (l = p) := by
  rw [pad_item h0 h1, show Str.ofString "x" = (⟨#[120]⟩ : Str) from by decide +kernel]
  by_cases h : l = p
  · simp [h]
  · simp [h]
theorem sliceT_nat (x : Str) {a b : Nat} (hab : a ≤ b) (hb : b ≤ x.length) : Txt.slice x (some (a : Int)) (some (b : Int)) = ⟨((x.cps.toList.drop a).take (b - a)).toArray⟩ := by
  unfold Txt.slice
  have e := StrLaws.sliced_plain x hab hb
  split
  · rename_i h
    simp only [beq_self_eq_true, Bool.true_and, beq_iff_eq] at h
    rw [StrLaws.strSliceIndices_plain hab hb] at h
    simp only [List.length_map, List.length_range] at h
    have ha : a = 0 := by omega
    have hb' : b = x.length := by omega
    subst ha; subst hb'
    refine Str.ext' (Array.toList_inj.mp ?_)
    show x.cps.toList = List.take (x.cps.size - 0) (List.drop 0 x.cps.toList)
    rw [List.drop_zero, Nat.sub_zero, ← Array.length_toList, List.take_length]
  · rw [e]
theorem pad_slice {p q : Nat} {l r : Int} (h0 : 0 ≤ l) (h1 : l ≤ p) (h2 : p ≤ r) (h3 : r ≤ p + q) :
    Txt.slice (pad p q) (some l) (some (r + 1)) = pad (p - l.toNat) (r.toNat - p) := by
  obtain ⟨k, rfl⟩ := Int.eq_ofNat_of_zero_le h0
  obtain ⟨j, rfl⟩ := Int.eq_ofNat_of_zero_le (show 0 ≤ r by omega)
  have e : ((j : Int) + 1) = ((j + 1 : Nat) : Int) := by omega
  rw [e, sliceT_nat _ (by omega) (by rw [pad_len]; omega)]
  unfold pad
  simp only [Int.toNat_natCast, List.drop_append, List.length_replicate]
  rw [show k - p = 0 by omega, List.drop_zero, List.drop_replicate, List.take_append, List.length_replicate, List.take_of_length_le (by simp; omega),
    show j + 1 - k - (p - k) = (j - p) + 1 by omega, List.take_succ_cons, List.take_replicate, Nat.min_eq_left (by omega)]
end Mine
namespace Mine
theorem blank_ne {p q : Nat} {l : Int} (h : (Txt.item (pad p q) l == Str.ofString " ") = true) (h0 : 0 ≤ l) (h1 : l ≤ p + q) : l ≠ p := by
  rw [pad_item_blank h0 h1] at h; exact of_decide_eq_true h
theorem blank_eq {p q : Nat} {l : Int} (h : (Txt.item (pad p q) l == Str.ofString " ") = false) (h0 : 0 ≤ l) (h1 : l ≤ p + q) : l = p := by
  rw [pad_item_blank h0 h1] at h; exact Decidable.not_not.mp (of_decide_eq_false h)
theorem pad_sub {p q p' q' : Nat} (h1 : p = p') (h2 : q = q') : pad p q = pad p' q' := by rw [h1, h2]
end Mine
namespace Mine
theorem pad_ascii (p q : Nat) : (pad p q).cps.all (· < 128) = true := by
  simp [pad, List.all_append]
theorem pad_get {p q i c : Nat} (h : (pad p q).cps[i]? = some c) (hi : i ≤ p) : c = if i = p then 120 else 32 := by
  rw [pad_cps] at h
  by_cases h1 : i < p
  · rw [if_pos h1] at h; rw [if_neg (by omega)]; exact (Option.some.inj h).symm
  · rw [if_neg h1, if_pos (by omega)] at h; rw [if_pos (by omega)]; exact (Option.some.inj h).symm
end Mine
namespace Mine
theorem one_x {c i p : Nat} (h : (⟨#[c]⟩ : Str) = Str.ofString "x") (hc : c = if i = p then 120 else 32) : i = p := by
  rw [show Str.ofString "x" = (⟨#[120]⟩ : Str) from by decide +kernel] at h
  have : c = 120 := by injection h with h; simpa using h
  by_cases e : i = p
  · exact e
  · rw [if_neg e] at hc; omega
theorem not_x {c i p : Nat} (h : ((⟨#[c]⟩ : Str) == Str.ofString "x") = false) (hc : c = if i = p then 120 else 32) : i ≠ p := by
  intro e
  rw [if_pos e] at hc
  subst hc
  rw [show Str.ofString "x" = (⟨#[120]⟩ : Str) from by decide +kernel] at h
  simp at h
end Mine
namespace Mine
theorem beq_no {a b : Str} {C : Prop} (h : a = b) (h' : (a == b) = false) : C := by
  rw [h, beq_self_eq_true] at h'; cases h'
theorem beq_no' {a b : Str} {C : Prop} (h : a ≠ b) (h' : (a == b) = true) : C := absurd (eq_of_beq h') h
end Mine
end

section
open PySem PySem.Spec PySem.Calls PySem.W PyProof.Rows
namespace Mine
theorem runs_toks {M : Model} {Γ : PySem.Ctx} {p : Pos} {t : Sem Fin} {fs : List Frame} {s s' : Shared} {e : End} (h : Runs M Γ p t fs s e s') : s.toks ≤ s'.toks := by
  induction h <;> first | exact Nat.le_refl _ | assumption | ((try dsimp only [Shared.setGen] at *); omega)
theorem wakes_toks {M : Model} {Γ : PySem.Ctx} {p : Pos} {g : Nat} {r : Resume} {s s' : Shared} {res : GenResult} (h : Wakes M Γ p g r s res s') : s.toks ≤ s'.toks := by
  unfold Wakes at h
  split at h
  · exact h.elim
  · split at h
    · obtain ⟨e₁, s₁, hr, _, _, rfl⟩ := h
      have := runs_toks hr
      simpa [Shared.setGen] using this
    · obtain ⟨_, rfl⟩ := h; exact Nat.le_refl _
    · obtain ⟨_, rfl⟩ := h; exact Nat.le_refl _
  · obtain ⟨e₁, s₁, hr, _, _, rfl⟩ := h
    have := runs_toks hr
    simpa [Shared.setGen] using this
  · obtain ⟨_, rfl⟩ := h; exact Nat.le_refl _
  · obtain ⟨_, rfl⟩ := h; exact Nat.le_refl _
theorem wp_toks {α : Type} {M : Model} {Γ : PySem.Ctx} : ∀ (t : Sem α) {Q : α → Pos → Shared → Prop} {E : Value → Pos → Shared → Prop} {p : Pos} {s : Shared} (k : Nat), k ≤ s.toks →
    Sem.wp M Γ t (fun a p s' => k ≤ s'.toks → Q a p s') (fun e p s' => k ≤ s'.toks → E e p s') p s → Sem.wp M Γ t Q E p s := by
  intro t
  induction t with
  | pure a => intro Q E p s k hk h; exact h hk
  | raise e => intro Q E p s k hk h; exact h hk
  | unsupported _ => intro Q E p s k hk h; exact h.elim
  | finish _ => intro Q E p s k hk h; exact h.elim
  | rule _ _ ih => intro Q E p s k hk h; exact ih _ k hk h
  | «at» _ _ ih => intro Q E p s k hk h; exact ih _ k hk h
  | load _ _ _ ih => intro Q E p s k hk h; obtain ⟨o, ho, h⟩ := h; exact ⟨o, ho, ih _ k hk h⟩
  | update _ _ _ _ ih => intro Q E p s k hk h; exact ⟨h.1, ih _ k hk h.2⟩
  | loadIfAlive _ _ ih => intro Q E p s k hk h; exact ih _ k hk h
  | point _ _ ih => intro Q E p s k hk h; exact ih _ k hk h
  | register _ _ _ => intro Q E p s k hk h; exact h.elim
  | alloc _ _ ih => intro Q E p s k hk h; exact ih _ k hk h
  | fresh _ ih => intro Q E p s k hk h; exact ih _ k (Nat.le_succ_of_le hk) h
  | ask _ ih => intro Q E p s k hk h; exact ih _ k hk h
  | choose _ _ _ ih => intro Q E p s k hk h; exact ⟨h.1, ih _ k hk h.2⟩
  | os _ _ _ ih => intro Q E p s k hk h; exact ih _ k hk h
  | call _ _ _ _ _ ih =>
    intro Q E p s k hk h
    obtain ⟨r, s₁, hr, h⟩ := h
    exact ⟨r, s₁, hr, ih _ k (Nat.le_trans hk (runs_toks hr)) h⟩
  | handled _ _ ih => intro Q E p s k hk h; exact ih _ k hk h
  | genState _ _ ih => intro Q E p s k hk h; obtain ⟨st, h1, h⟩ := h; exact ⟨st, h1, ih _ k hk h⟩
  | newGen _ _ ih => intro Q E p s k hk h; exact ih _ k hk h
  | resume _ _ _ _ ih =>
    intro Q E p s k hk h
    obtain ⟨res, s₁, hr, h⟩ := h
    exact ⟨res, s₁, hr, ih _ k (Nat.le_trans hk (wakes_toks hr)) h⟩
  | yield _ _ _ _ _ => intro Q E p s k hk h; exact h.elim
  | stack _ ih => intro Q E p s k hk h; exact ih _ k hk h
  | fork _ _ _ => intro Q E p s k hk h; exact h.elim
  | thread _ ih => intro Q E p s k hk h; exact ih _ k hk h
  | await _ _ _ _ _ _ => intro Q E p s k hk h; exact h.elim
/-- the tokens' counter never falls -/
theorem wpAny_toks {α : Type} {M : Model} {A : Around} {t : Sem α} {Q : α → Shared → Prop} {E : Value → Shared → Prop} {s : Shared} (k : Nat) (hk : k ≤ s.toks)
    (h : wpAny M A t (fun a s' => k ≤ s'.toks → Q a s') (fun e s' => k ≤ s'.toks → E e s') s) : wpAny M A t Q E s :=
  fun Γ p hΓ => wp_toks t k hk (h Γ p hΓ)
end Mine
end

section
open PySem PySem.Spec PySem.Calls PySem.W PyProof.Rows
namespace Mine
section
variable {prog : Program} {w : World} {A : Around} {E : Value → Shared → Prop} {s : Shared}
/-- one item of enumerate over an ascii text, its signs' tokens said -/
theorem enum_next_tok {e it : Addr} {x : Str} {t : Tok} {i c : Nat} {old : Value} {Q : Option Value → Shared → Prop}
    (he : IsEnum s.heap e it i old) (hit : s.heap.IsStrIter it "str_ascii_iterator" x t i) (hx : x.cps[i]? = some c) (hne : e ≠ it)
    (hQ : ∀ h' T, IsEnumOut h' e it ((i : Int) + 1) (.str ⟨#[c]⟩ s.toks) T → h'.IsStrIter it "str_ascii_iterator" x t (i + 1) → h'.IsTuple T #[.int i (s.toks + 1), .str ⟨#[c]⟩ s.toks] →
      s.heap.objs.size ≤ T → (∀ b o, b ≠ e → b ≠ it → s.heap.get? b = some o → h'.get? b = some o) → Q (some (.ref T)) { s with heap := h', toks := s.toks + 2 }) :
    wpAny (model prog w) A (pyNext (.ref e)) Q E s := by
  have hT : s.TypeIs (.ref e) "enumerate" := ⟨_, he, rfl⟩
  obtain ⟨hp, gn, dr, tk, os⟩ := s
  unfold pyNext
  refine wpAny_bind (wpAny_attempt (wpAny_callSpecial?_slot (name := Str.ofString "__next__") hT F.slot_enumerate_next
    (wpAny_call_entry F.slot_enumerate_next hT F.entry_enumerate_next ?_ (F.args_enumerate_next_1 _))))
  show wpAny _ _ (field (.ref e) 2 >>= _) _ _ _
  refine wpAny_bind (wpAny_field he rfl (x := .ref it) rfl ?_)
  refine wpAny_bind (wpAny_nextOf_ascii_item hit hx fun h₁ hit₁ hs₁ => ?_)
  replace hs₁ : Heap.SameBut it hp h₁ := hs₁
  have he₁ : IsEnum h₁ e it i old := (hs₁.2 e hne).trans he
  show wpAny _ _ (field (.ref e) 3 >>= _) _ _ ⟨h₁, gn, dr, tk + 1, os⟩
  refine wpAny_bind (wpAny_field he₁ rfl (x := rawInt i) rfl ?_)
  show wpAny _ _ (field (.ref e) 4 >>= _) _ _ ⟨h₁, gn, dr, tk + 1, os⟩
  refine wpAny_bind (wpAny_field he₁ rfl (x := .none) rfl ?_)
  show wpAny _ _ (mkInt i >>= _) _ _ ⟨h₁, gn, dr, tk + 1, os⟩
  refine wpAny_bind (wpAny_mkInt ?_)
  show wpAny _ _ (setField (.ref e) 3 (rawInt ((i : Int) + 1)) >>= _) _ _ ⟨h₁, gn, dr, tk + 2, os⟩
  refine wpAny_bind (wpAny_setField_rec he₁ (by simp) fun h₂ he₂ hs₂ => ?_)
  replace hs₂ : Heap.SameBut e h₁ h₂ := hs₂
  replace he₂ : IsEnum h₂ e it ((i : Int) + 1) old := he₂
  show wpAny _ _ (setField (.ref e) 4 .none >>= _) _ _ ⟨h₂, gn, dr, tk + 2, os⟩
  refine wpAny_bind (wpAny_setField_rec he₂ (by simp) fun h₃ he₃ hs₃ => ?_)
  replace hs₃ : Heap.SameBut e h₂ h₃ := hs₃
  replace he₃ : IsEnum h₃ e it ((i : Int) + 1) old := he₃
  show wpAny _ _ (newTuple [.int i (tk + 1), .str ⟨#[c]⟩ tk] >>= _) _ _ ⟨h₃, gn, dr, tk + 2, os⟩
  refine wpAny_bind (wpAny_newTuple ?_)
  have hz : h₃.objs.size = hp.objs.size := by rw [hs₃.1, hs₂.1, hs₁.1]
  have hel : e < hp.objs.size := Heap.lt_size he
  have hil : it < hp.objs.size := by obtain ⟨o, ho, _⟩ := hit; exact Heap.lt_size ho
  -- the heap with the new tuple
  obtain ⟨h₄, hh₄⟩ : ∃ h₄, h₄ = h₃.push { cls := .type "tuple", data := .seq #[.int i (tk + 1), .str ⟨#[c]⟩ tk] } := ⟨_, rfl⟩
  have he₄ : IsEnum h₄ e it ((i : Int) + 1) old := by rw [hh₄]; exact Heap.get?_push_of_some _ he₃
  have ht₄ : h₄.get? hp.objs.size = some { cls := .type "tuple", data := .seq #[.int i (tk + 1), .str ⟨#[c]⟩ tk] } := by rw [hh₄, ← hz]; exact Heap.get?_push_size _ rfl
  have hk₄ : ∀ b o, b ≠ e → h₁.get? b = some o → h₄.get? b = some o := fun b o hb ho => by
    rw [hh₄]; exact Heap.get?_push_of_some _ (hs₃.extBut b o hb (hs₂.extBut b o hb ho))
  rw [hz]
  show wpAny _ _ (Builtin.SmallTypes.ownedTupleIsFree (.ref e) >>= _) _ _ ⟨h₃.push _, gn, dr, tk + 2, os⟩
  rw [← hh₄]
  clear hh₄ he₃ hs₃ he₂ hs₂ he₁ hz
  refine wpAny_bind ?_
  unfold Builtin.SmallTypes.ownedTupleIsFree
  refine wpAny_bind (wpAny_field he₄ rfl (x := .none) rfl (wpAny_pure ?_))
  simp only [if_true]
  refine wpAny_bind (wpAny_rule ?_)
  refine wpAny_bind (wpAny_field he₄ rfl (x := old) rfl ?_)
  refine wpAny_bind (wpAny_setField_rec he₄ (by simp) fun h₅ he₅ hs₅ => ?_)
  replace hs₅ : Heap.SameBut e h₄ h₅ := hs₅
  replace he₅ : IsEnum h₅ e it ((i : Int) + 1) (.str ⟨#[c]⟩ tk) := he₅
  show wpAny _ _ (Builtin.SmallTypes.ownedTupleHandOut (.ref e) (.ref hp.objs.size) >>= _) _ _ ⟨h₅, gn, dr, tk + 2, os⟩
  refine wpAny_bind ?_
  unfold Builtin.SmallTypes.ownedTupleHandOut
  refine wpAny_bind (wpAny_setField_rec he₅ (by simp) fun h₆ he₆ hs₆ => ?_)
  replace hs₆ : Heap.SameBut e h₅ h₆ := hs₆
  replace he₆ : IsEnumOut h₆ e it ((i : Int) + 1) (.str ⟨#[c]⟩ tk) hp.objs.size := he₆
  refine wpAny_setField_rec he₆ (by simp) fun h₇ he₇ hs₇ => ?_
  replace hs₇ : Heap.SameBut e h₆ h₇ := hs₇
  replace he₇ : IsEnumOut h₇ e it ((i : Int) + 1) (.str ⟨#[c]⟩ tk) hp.objs.size := he₇
  have up : ∀ b o, b ≠ e → h₄.get? b = some o → h₇.get? b = some o := fun b o hb ho => hs₇.extBut b o hb (hs₆.extBut b o hb (hs₅.extBut b o hb ho))
  refine wpAny_bind (wpAny_letGo (wpAny_pure ⟨_, rfl, wpAny_pure (hQ h₇ hp.objs.size he₇ ?_ ⟨_, up _ _ (Nat.ne_of_gt hel) ht₄, rfl, _, rfl⟩ (Nat.le_refl _) ?_)⟩))
  · obtain ⟨o, ho, r⟩ := hit₁
    exact ⟨o, up it o (fun q => hne q.symm) (hk₄ it o (fun q => hne q.symm) ho), r⟩
  · exact fun b o hbe hbi hb => up b o hbe (hk₄ b o hbe (hs₁.extBut b o hbi hb))
end
end Mine
end

section
open PySem PySem.Spec PySem.Calls PySem.W PyProof.Rows
namespace Mine
section
variable {prog : Program} {w : World} {A : Around} {s : Shared} {env : Env} {h₀ : Heap}
/-- «for i, c in enumerate(text): .. else: ..» over an ascii text: the body returns at place n at the latest, touches no heap before; the tokens of the signs are k0 or above -/
theorem for_enum_str {Q : Flow → Shared → Prop} {E : Value → Shared → Prop} {xi xc : Str} {pk pv pt pos : Pos} {x1 : Nat} {iter : Expr} {body orelse : List Stmt} {x : Str} {t : Tok} {m : Str → Option Value} {news : List (Addr × Obj)} {n k0 : Nat}
    (hh : A.handled = none) (hxi : env.kindOf xi = some .local) (hxc : env.kindOf xc = some .local)
    (hp : (env.scope.kind == .class || (env.scope.kind == .module && env.locals != env.globals)) = false)
    (hs : ∀ x, foldedSetIterable iter env x = pure x)
    (hn : n < x.cps.size)
    (hiter : wpAny (model prog w) A (eval iter env) (fun v s₁ => v = .ref (s.heap.objs.size + 1) ∧ ∃ H tk, s₁ = { s with heap := H, toks := tk } ∧ k0 ≤ tk ∧ IsEnum H (s.heap.objs.size + 1) s.heap.objs.size 0 .none ∧
        H.IsStrIter s.heap.objs.size "str_ascii_iterator" x t 0 ∧ Fr h₀ env.locals H m ∧ News h₀ env.locals H news) (fun _ _ => False) s)
    (hlow : env.locals < s.heap.objs.size) (hnews : ∀ p ∈ news, p.1 < s.heap.objs.size) (hold : h₀.objs.size ≤ s.heap.objs.size)
    (turn : ∀ i c u k H tk, x.cps[i]? = some c → i ≤ n → k0 ≤ u → k0 ≤ tk →
      Fr h₀ env.locals H (fun y => if y = xc then some (.str ⟨#[c]⟩ u) else if y = xi then some (.int (i : Int) k) else m y) → News h₀ env.locals H news →
      wpAny (model prog w) A (execs body env) (fun f s' => match f with
        | .ret v => Q (.ret v) s'
        | .next => i < n ∧ ∃ tk', k0 ≤ tk' ∧ s' = { s with heap := H, toks := tk' }
        | _ => False) (fun _ _ => False) { s with heap := H, toks := tk }) :
    wpAny (model prog w) A (exec (.For (.Tuple [.Name xi pk, .Name xc pv] x1 pt) iter body orelse pos) env) Q E s := by
  refine wpAny_noRaise (wpAny_For (wpAny_mono hiter (fun v s₁ h₁ => ?_) fun _ _ e => e) hs)
  obtain ⟨rfl, H₀, tk₀, rfl, hk₀, he₀, hi₀, F₀, N₀⟩ := h₁
  refine wpAny_pyIter_enum he₀ ?_
  have hLe : env.locals ≠ s.heap.objs.size + 1 := Nat.ne_of_lt (Nat.lt_succ_of_lt hlow)
  have hLi : env.locals ≠ s.heap.objs.size := Nat.ne_of_lt hlow
  refine codeAny_forLoop_any (fun k s' => ∃ i H tk vi vc old, k = n + 1 - i ∧ i ≤ n ∧ s' = { s with heap := H, toks := tk } ∧ k0 ≤ tk ∧ IsEnum H (s.heap.objs.size + 1) s.heap.objs.size i old ∧
      H.IsStrIter s.heap.objs.size "str_ascii_iterator" x t i ∧ Fr h₀ env.locals H (fun y => if y = xc then vc else if y = xi then vi else m y) ∧ News h₀ env.locals H news) ?_ (n + 1)
    ⟨0, H₀, tk₀, m xi, m xc, .none, rfl, Nat.zero_le _, rfl, hk₀, he₀, hi₀, ?_, N₀⟩
  · rintro k s' ⟨i, H, tk, vi, vc, old, rfl, hi, rfl, hk, he, hit, F, N⟩
    have hsz : i < x.cps.size := Nat.lt_of_le_of_lt hi hn
    refine enum_next_tok (x := x) (t := t) he hit (Array.getElem?_eq_getElem hsz) (Nat.succ_ne_self _) fun H₁ T ho₁ hit₁ hT₁ hTs hk₁ => ?_
    replace hTs : H.objs.size ≤ T := hTs
    replace hk₁ : ∀ b o, b ≠ s.heap.objs.size + 1 → b ≠ s.heap.objs.size → H.get? b = some o → H₁.get? b = some o := hk₁
    have hel : s.heap.objs.size + 1 < H.objs.size := Heap.lt_size he
    refine wpAny_letOwnedTupleGo_enum ho₁ fun H₂ he₂ hs₂ => ?_
    replace hs₂ : Heap.SameBut (s.heap.objs.size + 1) H₁ H₂ := hs₂
    have hT₂ : H₂.IsTuple T #[.int i (tk + 1), .str ⟨#[x.cps[i]]⟩ tk] := hT₁.at fun o e => hs₂.extBut T o (Nat.ne_of_gt (Nat.lt_of_lt_of_le hel hTs)) e
    refine wpAny_assign_Tuple hh hT₂ rfl rfl fun H₃ hx₃ => ?_
    replace hx₃ : Heap.ExtBut H₂.objs.size H₂ H₃ := hx₃
    have up : ∀ b o, H₂.get? b = some o → H₃.get? b = some o := fun b o y => hx₃ b o (Nat.ne_of_lt (Heap.lt_size y)) y
    have up₀ : ∀ b o, b ≠ s.heap.objs.size + 1 → b ≠ s.heap.objs.size → H.get? b = some o → H₃.get? b = some o := fun b o h1 h2 y => up b o (hs₂.extBut b o h1 (hk₁ b o h1 h2 y))
    have ho0 : ∀ b o, h₀.get? b = some o → b < s.heap.objs.size := fun b o y => Nat.lt_of_lt_of_le (Heap.lt_size y) hold
    have F₃ : Fr h₀ env.locals H₃ (fun y => if y = xc then vc else if y = xi then vi else m y) :=
      ⟨F.ns.at' fun o y => up₀ _ o hLe hLi y, fun b o y => up₀ b o (Nat.ne_of_lt (Nat.lt_succ_of_lt (ho0 b o y))) (Nat.ne_of_lt (ho0 b o y)) (F.keep b o y), F.above⟩
    have N₃ : News h₀ env.locals H₃ news := fun p hp => ⟨up₀ _ _ (Nat.ne_of_lt (Nat.lt_succ_of_lt (hnews p hp))) (Nat.ne_of_lt (hnews p hp)) (N p hp).1, (N p hp).2⟩
    show wpAny _ A (do holding [.str ⟨#[x.cps[i]]⟩ tk] (assign (.Name xi pk) env (.int i (tk + 1))); do holding [] (assign (.Name xc pv) env (.str ⟨#[x.cps[i]]⟩ tk)); pure ()) _ _ _
    refine wpAny_bind (wpAny_holding (wpAny_assign_Name (wpAny_storeName_local hxi F₃.ns (fun H₄ hn₄ hs₄ => ?_) hp)))
    replace hs₄ : Heap.SameBut env.locals H₃ H₄ := hs₄
    have F₄ := F₃.set hn₄ hs₄
    refine wpAny_bind (wpAny_holding (wpAny_assign_Name (wpAny_storeName_local hxc F₄.ns (fun H₅ hn₅ hs₅ => wpAny_pure ?_) hp)))
    replace hs₅ : Heap.SameBut env.locals H₄ H₅ := hs₅
    have F₅ := F₄.set hn₅ hs₅
    have e : (fun y => if y = xc then some (Value.str ⟨#[x.cps[i]]⟩ tk) else if y = xi then some (Value.int (i : Int) (tk + 1)) else if y = xc then vc else if y = xi then vi else m y)
        = fun y => if y = xc then some (Value.str ⟨#[x.cps[i]]⟩ tk) else if y = xi then some (Value.int (i : Int) (tk + 1)) else m y := by
      funext y
      by_cases h1 : y = xc
      · simp [h1]
      · by_cases h2 : y = xi
        · simp [h2]
        · simp [h1, h2]
    have F₆ := e ▸ F₅
    have N₅ : News h₀ env.locals H₅ news := (N₃.set hs₄).set hs₅
    have he₅ : IsEnum H₅ (s.heap.objs.size + 1) s.heap.objs.size ((i : Int) + 1) (.str ⟨#[x.cps[i]]⟩ tk) :=
      hs₅.extBut _ _ (fun q => hLe q.symm) (hs₄.extBut _ _ (fun q => hLe q.symm) (up _ _ he₂))
    have hit₅ : H₅.IsStrIter s.heap.objs.size "str_ascii_iterator" x t (i + 1) := by
      obtain ⟨o, ho, r⟩ := hit₁
      exact ⟨o, hs₅.extBut _ _ (fun q => hLi q.symm) (hs₄.extBut _ _ (fun q => hLi q.symm) (up _ _ (hs₂.extBut _ _ (fun q => Nat.succ_ne_self _ q.symm) ho))), r⟩
    refine wpAny_mono (turn i x.cps[i] tk (tk + 1) H₅ _ (Array.getElem?_eq_getElem hsz) hi hk (show k0 ≤ tk + 2 + 1 + 1 by omega) ?_ N₅) (fun f s₃ h₆ => ?_) (fun _ _ e => e.elim)
    · exact F₆
    · cases f with
      | ret v => exact h₆
      | brk => exact (show False from h₆).elim
      | cont => exact (show False from h₆).elim
      | next =>
        obtain ⟨hlt, tk', hk', rfl⟩ := h₆
        refine ⟨n + 1 - (i + 1), by omega, i + 1, H₅, tk', some (.int i (tk + 1)), some (.str ⟨#[x.cps[i]]⟩ tk), _, rfl, hlt, rfl, hk', by simpa using he₅, hit₅, ?_, N₅⟩
        exact F₆
  · have e : (fun y => if y = xc then m xc else if y = xi then m xi else m y) = m := by
      funext y
      by_cases h1 : y = xc
      · simp [h1]
      · by_cases h2 : y = xi
        · subst h2; simp [h1]
        · simp [h1, h2]
    show Fr h₀ env.locals H₀ (fun y => if y = xc then m xc else if y = xi then m xi else m y)
    rw [e]; exact F₀
end
end Mine
end

section
open PySem PySem.Spec PySem.Calls PySem.W PyProof.Rows
namespace Mine
set_option maxRecDepth 100000 in
theorem no_sharing_key (P : Params) : nsIn (Mine.hd.heap_39 P) cStatics sharingNotToldKey = some none := by kernel_rfl
section
variable {prog : Program} {w : World} {A : Around} {E : Value → Shared → Prop} {s : Shared}
theorem sharing_none {t : Tok} {Q : Bool → Shared → Prop} (X : (Mine.hd.heap_39 w.params).In s.heap) (h : Q false s) : wpAny (model prog w) A (sharingNotTold t) Q E s := by
  unfold sharingNotTold
  exact wpAny_bind ((looks_nsIn (M := model prog w) X (no_sharing_key w.params)) A _ E s (fun _ _ e => e) (wpAny_pure h))
theorem ask_rule {Q : Setting → Shared → Prop} (h : Q ⟨prog, w.params⟩ s) : wpAny (model prog w) A ask Q E s := fun _ _ _ => h
/-- «is» of two texts with other tokens: some truth, and only of like texts -/
theorem is_str_rule {x y : Str} {t u : Tok} {Q : Value → Shared → Prop} (X : (Mine.hd.heap_39 w.params).In s.heap) (ht : t ≠ 0) (hu : u ≠ 0) (htu : t ≠ u)
    (h : ∀ b : Bool, (b = true → x = y) → Q (.bool b) s) : wpAny (model prog w) A (compareOp .Is (.str x t) (.str y u)) Q E s := by
  show wpAny (model prog w) A (do return .bool (← isSame (.str x t) (.str y u))) Q E s
  refine wpAny_bind ?_
  show wpAny (model prog w) A (isSame.created (x == y) t u) _ E s
  unfold isSame.created
  have h1 : (t == 0 || u == 0) = false := by simp [ht, hu]
  have h2 : (t == u) = false := by simp [htu]
  by_cases hxy : x = y
  · subst hxy
    simp only [h1, h2, beq_self_eq_true, Bool.not_true, Bool.false_eq_true, if_false]
    refine wpAny_bind (sharing_none X ?_)
    simp only [Bool.false_eq_true, if_false]
    refine wpAny_bind (sharing_none X ?_)
    simp only [Bool.false_eq_true, if_false]
    refine wpAny_bind (wpAny_rule ?_)
    refine wpAny_bind (ask_rule ?_)
    exact wpAny_pure (wpAny_pure (h _ fun _ => rfl))
  · have h3 : (x == y) = false := by simp [hxy]
    simp only [h1, h2, h3, Bool.not_false, Bool.false_eq_true, if_false, if_true]
    exact wpAny_pure (wpAny_pure (h false fun q => by cases q))
end
end Mine
end

section
open PySem PySem.Spec PySem.Calls PySem.W PyProof.Rows
namespace Mine
/-- a def's contract: called in any frame; it touches of the caller's objects those of the ledger T alone, hands back what Ret says and leaves the ledger that Ret says -/
def Cl (w : World) (loose : List Str) (mean : ExcName → Option Value) (mg mb : Str → Option Value) (k : Nat) (f : Addr) (vs : List Value) (kw : List (Str × Value)) (T : List (Addr × Obj)) (pre : Shared → Prop) (Ret : Value → List (Addr × Obj) → Prop) : Prop :=
  ∀ (dp un : Nat) (gd : Option (List Code)) (cn : Str) (cs : Scope) (a : Addr) (ccd : Value) (cl : List (Str × Addr)) (outer : List Env) (A₀ : Around) (base h₀ : Heap) (L : Addr) (m : Str → Option Value) (s : Shared) (Q E : Value → Shared → Prop),
    Below A₀ base outer h₀ → Fr h₀ L s.heap m → (Mine.hd.heap_39 w.params).In h₀ → News h₀ L s.heap T → Top Mine.hd.view_39 loose mean mg mb h₀ → cs.kind = .function → pre s → dp + k < recursionLimit → un + 16 * k < cLine →
    (∀ v T' h' tk', Ret v T' → s.toks ≤ tk' → Fr h₀ L h' m → News h₀ L h' T' → (∀ b o, s.heap.get? b = some o → b ∉ T.map (·.1) → h'.get? b = some o) → (∀ p ∈ T', p.1 ∈ T.map (·.1) ∨ s.heap.get? p.1 = none) → Q v { s with heap := h', toks := tk' }) →
      wpAny (model PySem.Challenge.rw_xg0068_01.row.prog w) (ktrTop dp un gd cn cs L a ccd cl outer) (call (.ref f) vs kw) Q E s
theorem new_of {s : Shared} {g h' : Heap} {L' : Addr} {T T' : List (Addr × Obj)} (hr : ∀ b o, s.heap.get? b = some o → b ∉ T.map (·.1) → g.get? b = some o) (N : News g L' h' T') : ∀ p ∈ T', p.1 ∈ T.map (·.1) ∨ s.heap.get? p.1 = none := by
  intro p hp
  by_cases hb : p.1 ∈ T.map (·.1)
  · exact .inl hb
  · right
    cases q : s.heap.get? p.1 with
    | none => rfl
    | some o => have := hr _ o q hb; rw [(N p hp).2.2] at this; cases this
section
variable {w : World} {loose : List Str} {mean : ExcName → Option Value} {mg mb : Str → Option Value}
/-- from a walk that forgets the counter -/
theorem Cl.of {k : Nat} {f : Addr} {vs : List Value} {kw : List (Str × Value)} {T : List (Addr × Obj)} {pre : Shared → Prop} {Ret : Value → List (Addr × Obj) → Prop}
    (h : ∀ (dp un : Nat) (gd : Option (List Code)) (cn : Str) (cs : Scope) (a : Addr) (ccd : Value) (cl : List (Str × Addr)) (outer : List Env) (A₀ : Around) (base h₀ : Heap) (L : Addr) (m : Str → Option Value) (s : Shared) (Q E : Value → Shared → Prop),
      Below A₀ base outer h₀ → Fr h₀ L s.heap m → (Mine.hd.heap_39 w.params).In h₀ → News h₀ L s.heap T → Top Mine.hd.view_39 loose mean mg mb h₀ → cs.kind = .function → pre s → dp + k < recursionLimit → un + 16 * k < cLine →
      (∀ v T' h' tk', Ret v T' → Fr h₀ L h' m → News h₀ L h' T' → (∀ b o, s.heap.get? b = some o → b ∉ T.map (·.1) → h'.get? b = some o) → (∀ p ∈ T', p.1 ∈ T.map (·.1) ∨ s.heap.get? p.1 = none) → Q v { s with heap := h', toks := tk' }) →
        wpAny (model PySem.Challenge.rw_xg0068_01.row.prog w) (ktrTop dp un gd cn cs L a ccd cl outer) (call (.ref f) vs kw) Q E s) : Cl w loose mean mg mb k f vs kw T pre Ret := by
  intro dp un gd cn cs a ccd cl outer A₀ base h₀ L m s Q E B F X N T hk hp hd hu hQ
  exact wpAny_toks s.toks (Nat.le_refl _) (h dp un gd cn cs a ccd cl outer A₀ base h₀ L m s _ _ B F X N T hk hp hd hu fun v n' h' tk' r F' N' k' q' ht => hQ v n' h' tk' r ht F' N' k' q')
/-- a pure def's contract at a call: the caller's ledger stays as it is -/
theorem Cl.use0 {k dp un : Nat} {gd : Option (List Code)} {cn : Str} {cs : Scope} {a : Addr} {ccd : Value} {cl : List (Str × Addr)} {outer : List Env} {A₀ : Around} {base h₀ : Heap} {L : Addr} {m : Str → Option Value} {s : Shared} {Q E : Value → Shared → Prop}
    {f : Addr} {vs : List Value} {kw : List (Str × Value)} {pre : Shared → Prop} {R : Value → Prop} {news : List (Addr × Obj)} (C : Cl w loose mean mg mb k f vs kw [] pre (fun v T' => T' = [] ∧ R v))
    (B : Below A₀ base outer h₀) (F : Fr h₀ L s.heap m) (X : (Mine.hd.heap_39 w.params).In h₀) (N : News h₀ L s.heap news) (T : Top Mine.hd.view_39 loose mean mg mb h₀) (hk : cs.kind = .function) (hp : pre s) (hd : dp + k < recursionLimit) (hu : un + 16 * k < cLine)
    (h : ∀ v h' tk', R v → s.toks ≤ tk' → Fr h₀ L h' m → News h₀ L h' news → Q v { s with heap := h', toks := tk' }) :
    wpAny (model PySem.Challenge.rw_xg0068_01.row.prog w) (ktrTop dp un gd cn cs L a ccd cl outer) (call (.ref f) vs kw) Q E s :=
  C dp un gd cn cs a ccd cl outer A₀ base h₀ L m s Q E B F X (fun _ hp => nomatch hp) T hk hp hd hu fun v T' h' tk' hr ht F' _ keep _ => h v h' tk' hr.2 ht F' fun p hp => ⟨keep _ _ (N p hp).1 (fun q => nomatch q), (N p hp).2⟩
/-- a contract over a part T of the caller's ledger; the rest stays -/
theorem Cl.use {k dp un : Nat} {gd : Option (List Code)} {cn : Str} {cs : Scope} {a : Addr} {ccd : Value} {cl : List (Str × Addr)} {outer : List Env} {A₀ : Around} {base h₀ : Heap} {L : Addr} {m : Str → Option Value} {s : Shared} {Q E : Value → Shared → Prop}
    {f : Addr} {vs : List Value} {kw : List (Str × Value)} {pre : Shared → Prop} {T : List (Addr × Obj)} {Ret : Value → List (Addr × Obj) → Prop} {news : List (Addr × Obj)} (rest : List (Addr × Obj)) (C : Cl w loose mean mg mb k f vs kw T pre Ret)
    (B : Below A₀ base outer h₀) (F : Fr h₀ L s.heap m) (X : (Mine.hd.heap_39 w.params).In h₀) (N : News h₀ L s.heap news) (hT : ∀ p ∈ T, p ∈ news) (hR : ∀ p ∈ rest, p ∈ news) (hoff : ∀ p ∈ rest, ∀ q ∈ T, p.1 ≠ q.1)
    (TT : Top Mine.hd.view_39 loose mean mg mb h₀) (hk : cs.kind = .function) (hp : pre s) (hd : dp + k < recursionLimit) (hu : un + 16 * k < cLine)
    (h : ∀ v T' h' tk', Ret v T' → s.toks ≤ tk' → Fr h₀ L h' m → News h₀ L h' (T' ++ rest) → (∀ p ∈ T', p.1 ∈ T.map (·.1) ∨ ∀ q ∈ rest, p.1 ≠ q.1) → Q v { s with heap := h', toks := tk' }) :
    wpAny (model PySem.Challenge.rw_xg0068_01.row.prog w) (ktrTop dp un gd cn cs L a ccd cl outer) (call (.ref f) vs kw) Q E s :=
  C dp un gd cn cs a ccd cl outer A₀ base h₀ L m s Q E B F X (fun p hp => N p (hT p hp)) TT hk hp hd hu fun v T' h' tk' hr ht F' N' keep new => h v T' h' tk' hr ht F'
    (fun p hp => (List.mem_append.mp hp).elim (N' p) fun hp => ⟨keep _ _ (N p (hR p hp)).1 (fun q => by
      obtain ⟨q, hq, e⟩ := List.mem_map.mp q
      exact hoff p hp q hq e.symm), (N p (hR p hp)).2⟩)
    fun p hp => (new p hp).imp id fun hn q hq e => by have := (N q (hR q hq)).1; rw [← e, hn] at this; cases this
end
section
variable {prog : Program} {w : World} {A A₀ : Around} {s : Shared} {K : Frag} {L : Addr} {h₀ base : Heap} {m mg mb : Str → Option Value} {news : List (Addr × Obj)} {p : Program} {loose : List Str} {mean : ExcName → Option Value}
/-- a plain def is entered: its frame by the names written here; the counter is a letter; what is not of the ledger stays as it is -/
theorem enter_def {env : Env} {outer : List Env} {R : Result → Shared → Prop} {name qual : Str} {params : Arguments} {body : List Stmt} {scope : Scope} {dV kV doc pm cdv ct oc : Value} {an od : Option Addr} {osl : Array (Option Value)} {f : Addr} {args : Args} (binds : List (Str × Value))
    (B : Below A₀ base outer h₀) (F : Fr h₀ L s.heap m) (X₀ : K.In h₀) (N : News h₀ L s.heap news) (T : Top p loose mean mg mb h₀) (hA : A.frames = some (env :: outer)) (hf : env.frame = some L) (hke : env.scope.kind = .function)
    (ho : K.lookup f = some ⟨oc, od, .func (fnOf name qual params body scope dV kV doc pm an cdv ct), osl⟩) (hcd : codeIn K cdv qual = true) (hroom : A.depth < recursionLimit)
    (hbind : BindsTo s (fnOf name qual params body scope dV kV doc pm an cdv ct) args binds) (hloc : ∀ y ∈ binds, scope.names.lookup y.1 = some .local)
    (h : ∀ g L' h₁ tk, s.toks ≤ tk → (∀ b o, s.heap.get? b = some o → b ∉ news.map (·.1) → g.get? b = some o) → Fr h₀ L g m → Fr g L' h₁ (fun y => binds.reverse.lookup y) → News g L' h₁ news → Below A base (env :: outer) g → K.In g → Top p loose mean mg mb g →
      wpAny (model prog w) (A.deeper (envOf qual scope L' f cdv)) (execs body (envOf qual scope L' f cdv))
        (fun fl s' => LeaveK h₀ L m g R (match fl with | .ret v => v | _ => .none) s')
        (fun e s' => wpAny (model prog w) (A.deeper (envOf qual scope L' f cdv)) (leaving (envOf qual scope L' f cdv) e) (fun _ s'' => R (.error e) s'') (fun e' s'' => R (.error e') s'') s')
        { s with heap := h₁, toks := tk })
    (hco : scope.isCoroutine = false) (hgen : scope.isGenerator = false) (hk : scope.kind = .function)
    (hcell : ∀ x ∈ scope.names, x.2 ≠ .cell) : codeAny (model prog w) A (.call (.ref f) args) R s := by
  obtain ⟨FG, BG, st, lv⟩ := groundX (R := R) B F N hA hf hke
  refine codeAny_call_def (fd := fnOf name qual params body scope dV kV doc pm an cdv ct) (body := body) (binds := binds) hroom ((X₀.keeps F.keep) _ _ ho) rfl (T.nolimit.keeps F.keep) (codeRec_of (X₀.keeps F.keep) hcd) rfl hbind hcell hloc (fun h₁ hns hk₁ => ?_) hco hgen hk
  refine wpAny_mono (h _ s.heap.objs.size h₁ (s.toks + binds.length) (Nat.le_add_right _ _) (fun b o e hb => hideAll_get _ e hb) FG ⟨hns, fun b o e => hk₁ b o (of_hideAll _ e), Nat.le_of_eq (hideAll_size _ _)⟩
    (fun p hp => ⟨hk₁ _ _ (N p hp).1, Nat.ne_of_lt (Heap.lt_size (N p hp).1), hideAll_none _ (List.mem_map_of_mem hp)⟩) BG (X₀.keeps st) (T.keeps st)) (fun fl s' hl => lv _ _ hl) fun _ _ y => y
end
end Mine
end

section
open PySem PySem.Spec PySem.Calls PySem.W PyProof.Rows
namespace Mine
section
variable {prog : Program} {w : World} {A A₀ : Around} {s : Shared} {K : Frag} {L : Addr} {h₀ base : Heap} {m mg mb : Str → Option Value} {news : List (Addr × Obj)} {p : Program} {loose : List Str} {mean : ExcName → Option Value}
/-- a def with cells is entered: as enter_def -/
theorem enter_defC {env : Env} {outer : List Env} {R : Result → Shared → Prop} {name qual : Str} {params : Arguments} {body : List Stmt} {scope : Scope} {dV kV doc pm cdv ct oc : Value} {an od : Option Addr} {osl : Array (Option Value)} {f : Addr} {args : Args} (binds : List (Str × Value))
    (B : Below A₀ base outer h₀) (F : Fr h₀ L s.heap m) (X₀ : K.In h₀) (N : News h₀ L s.heap news) (T : Top p loose mean mg mb h₀) (hA : A.frames = some (env :: outer)) (hf : env.frame = some L) (hke : env.scope.kind = .function)
    (ho : K.lookup f = some ⟨oc, od, .func (fnOf name qual params body scope dV kV doc pm an cdv ct), osl⟩) (hcd : codeIn K cdv qual = true) (hroom : A.depth < recursionLimit)
    (hbind : BindsTo s (fnOf name qual params body scope dV kV doc pm an cdv ct) args binds) (hkind : (binds.all fun y => scope.names.lookup y.1 == some .local || scope.names.lookup y.1 == some .cell) = true)
    (hnd : ((cellsFrom 0 scope.names []).map (·.1)).Nodup)
    (h : ∀ g L' h₁ tk cells, (∀ b o, s.heap.get? b = some o → b ∉ news.map (·.1) → g.get? b = some o) → Fr h₀ L g m → Fr g L' h₁ (bindL (envOfC qual scope L' f cdv).kindOf binds fun _ => none) → News g L' h₁ (cells ++ news) →
      CellsAre (bindC (envOfC qual scope L' f cdv).kindOf binds fun _ => none) (cellsFrom (L' + 1) scope.names []) cells → Below A base (env :: outer) g → K.In g → Top p loose mean mg mb g → (∀ p ∈ news, p.1 < L') →
      wpAny (model prog w) (A.deeper (envOfC qual scope L' f cdv)) (execs body (envOfC qual scope L' f cdv))
        (fun fl s' => LeaveK h₀ L m g R (match fl with | .ret v => v | _ => .none) s')
        (fun e s' => wpAny (model prog w) (A.deeper (envOfC qual scope L' f cdv)) (leaving (envOfC qual scope L' f cdv) e) (fun _ s'' => R (.error e) s'') (fun e' s'' => R (.error e') s'') s')
        { s with heap := h₁, toks := tk })
    (hco : scope.isCoroutine = false) (hgen : scope.isGenerator = false) (hk : scope.kind = .function) : codeAny (model prog w) A (.call (.ref f) args) R s := by
  obtain ⟨FG, BG, st, lv⟩ := groundX (R := R) B F N hA hf hke
  refine codeAny_call_function hroom ((X₀.keeps F.keep) _ _ ho) (fd := fnX name qual params body scope [] dV kV doc pm an cdv ct) rfl hco hgen rfl (codeRec_of (X₀.keeps F.keep) hcd) (hbind _ _ _ _ ?_)
  refine wpAny_newFunctionEnv_cells hk (kindsX hkind _) fun env' he s' x => ?_
  subst he
  refine ⟨(T.nolimit.keeps F.keep).keeps x.toInCall.keep, codeAny_func ?_⟩
  obtain ⟨h₁, tk, rfl, _⟩ := x.done
  have hk₁ := x.toInCall.keep
  obtain ⟨cells, NC, Y⟩ := PyProof.Rows.Cl.news (h₀ := s.heap) (Nat.le_refl _) fun n c hm => ⟨x.cell n c (lookup_of_mem_nodup (cellsFrom_names scope.names 0 (s.heap.objs.size + 1) [] [] rfl ▸ hnd) hm), x.above n c hm⟩
  refine wpAny_mono (h _ s.heap.objs.size h₁ tk cells (fun b o e hb => hideAll_get _ e hb) FG ⟨x.toInCall.ns, fun b o e => hk₁ b o (of_hideAll _ e), Nat.le_of_eq (hideAll_size _ _)⟩ (fun p hp => ?_) Y BG (X₀.keeps st) (T.keeps st) (fun p hp => Heap.lt_size (N p hp).1)) (fun fl s' hl => lv _ _ hl) fun _ _ y => y
  rcases List.mem_append.mp hp with hp | hp
  · refine ⟨(NC p hp).1, (NC p hp).2.1, ?_⟩
    cases q : (hideAll s.heap (news.map (·.1))).get? p.1 with
    | none => rfl
    | some o => have := of_hideAll _ q; rw [(NC p hp).2.2] at this; cases this
  · exact ⟨hk₁ _ _ (N p hp).1, Nat.ne_of_lt (Heap.lt_size (N p hp).1), hideAll_none _ (List.mem_map_of_mem hp)⟩
end
end Mine
end

section
open PySem PySem.Spec PySem.Calls PySem.W PyProof.Rows
namespace Mine
/-- a def's contract at its code: as Cl, but of the call's code alone (for an __init__) -/
def ClA (w : World) (loose : List Str) (mean : ExcName → Option Value) (mg mb : Str → Option Value) (k : Nat) (f : Addr) (vs : List Value) (kw : List (Str × Value)) (T : List (Addr × Obj)) (Ret : Value → List (Addr × Obj) → Prop) : Prop :=
  ∀ (dp un : Nat) (gd : Option (List Code)) (cn : Str) (cs : Scope) (a : Addr) (ccd : Value) (cl : List (Str × Addr)) (outer : List Env) (A₀ : Around) (base h₀ : Heap) (L : Addr) (m : Str → Option Value) (s : Shared) (Q : Result → Shared → Prop),
    Below A₀ base outer h₀ → Fr h₀ L s.heap m → (Mine.hd.heap_39 w.params).In h₀ → News h₀ L s.heap T → Top Mine.hd.view_39 loose mean mg mb h₀ → cs.kind = .function → dp + k < recursionLimit → un + 16 * k < cLine →
    (∀ v T' h' tk', Ret v T' → Fr h₀ L h' m → News h₀ L h' T' → (∀ b o, s.heap.get? b = some o → b ∉ T.map (·.1) → h'.get? b = some o) → (∀ p ∈ T', p.1 ∈ T.map (·.1) ∨ s.heap.get? p.1 = none) → Q (.ok (.ret v)) { s with heap := h', toks := tk' }) →
      codeAny (model PySem.Challenge.rw_xg0068_01.row.prog w) (ktrTop dp un gd cn cs L a ccd cl outer) (.call (.ref f) ⟨vs, kw⟩) Q s
section
variable {w : World} {loose : List Str} {mean : ExcName → Option Value} {mg mb : Str → Option Value}
theorem ClA.use {k dp un : Nat} {gd : Option (List Code)} {cn : Str} {cs : Scope} {a : Addr} {ccd : Value} {cl : List (Str × Addr)} {outer : List Env} {A₀ : Around} {base h₀ : Heap} {L : Addr} {m : Str → Option Value} {s : Shared} {Q : Result → Shared → Prop}
    {f : Addr} {vs : List Value} {kw : List (Str × Value)} {T : List (Addr × Obj)} {Ret : Value → List (Addr × Obj) → Prop} {news : List (Addr × Obj)} (rest : List (Addr × Obj)) (C : ClA w loose mean mg mb k f vs kw T Ret)
    (B : Below A₀ base outer h₀) (F : Fr h₀ L s.heap m) (X : (Mine.hd.heap_39 w.params).In h₀) (N : News h₀ L s.heap news) (hT : ∀ p ∈ T, p ∈ news) (hR : ∀ p ∈ rest, p ∈ news) (hoff : ∀ p ∈ rest, ∀ q ∈ T, p.1 ≠ q.1)
    (TT : Top Mine.hd.view_39 loose mean mg mb h₀) (hk : cs.kind = .function) (hd : dp + k < recursionLimit) (hu : un + 16 * k < cLine)
    (h : ∀ v T' h' tk', Ret v T' → Fr h₀ L h' m → News h₀ L h' (T' ++ rest) → (∀ p ∈ T', p.1 ∈ T.map (·.1) ∨ ∀ q ∈ rest, p.1 ≠ q.1) → Q (.ok (.ret v)) { s with heap := h', toks := tk' }) :
    codeAny (model PySem.Challenge.rw_xg0068_01.row.prog w) (ktrTop dp un gd cn cs L a ccd cl outer) (.call (.ref f) ⟨vs, kw⟩) Q s :=
  C dp un gd cn cs a ccd cl outer A₀ base h₀ L m s Q B F X (fun p hp => N p (hT p hp)) TT hk hd hu fun v T' h' tk' hr F' N' keep new => h v T' h' tk' hr F'
    (fun p hp => (List.mem_append.mp hp).elim (N' p) fun hp => ⟨keep _ _ (N p (hR p hp)).1 (fun q => by
      obtain ⟨q, hq, e⟩ := List.mem_map.mp q
      exact hoff p hp q hq e.symm), (N p (hR p hp)).2⟩)
    fun p hp => (new p hp).imp id fun hn q hq e => by have := (N q (hR q hq)).1; rw [← e, hn] at this; cases this
/-- what stays off a ledger's part stays off what a call makes of it -/
theorem off_next {T T' rest : List (Addr × Obj)} (h : ∀ p ∈ rest, ∀ q ∈ T, p.1 ≠ q.1) (n : ∀ p ∈ T', p.1 ∈ T.map (·.1) ∨ ∀ q ∈ rest, p.1 ≠ q.1) : ∀ p ∈ rest, ∀ q ∈ T', p.1 ≠ q.1 := by
  intro p hp q hq
  rcases n q hq with e | e
  · obtain ⟨r, hr, e⟩ := List.mem_map.mp e
    rw [← e]
    exact h p hp r hr
  · exact Ne.symm (e p hp)
end
end Mine
end

section
open PySem PySem.Spec PySem.Calls PySem.W PyProof.Rows
namespace Mine
/-- the end of a turn of loop_ints -/
def IntsEnd (h₀ : Heap) (L D : Addr) (x : Str) (k : Int) (m₀ : Str → Option Value) (tail own : List (Addr × Obj)) (len : Nat) (s : Shared) (f : Flow) (s' : Shared) : Prop :=
  f = .next ∧ ∃ h' tk' t' vals' c' ds', s' = { s with heap := h', toks := tk' } ∧ Fr h₀ L h' (fun y => if y = x then some (.int k t') else m₀ y) ∧ News h₀ L h' ((D, listOf vals'.toArray c') :: (tail ++ own)) ∧ IntsAre vals' ds' ∧ ds'.length = len
theorem IntsEnd.intro {h₀ h' : Heap} {L D : Addr} {x : Str} {k : Int} {m₀ : Str → Option Value} {tail own : List (Addr × Obj)} {len c' tk' : Nat} {s : Shared} {t' : Tok} {vals' : List Value} {ds' : List Int}
    (F : Fr h₀ L h' (fun y => if y = x then some (.int k t') else m₀ y)) (N : News h₀ L h' ((D, listOf vals'.toArray c') :: (tail ++ own))) (I : IntsAre vals' ds') (l : ds'.length = len) : IntsEnd h₀ L D x k m₀ tail own len s .next { s with heap := h', toks := tk' } :=
  ⟨rfl, h', tk', t', vals', c', ds', rfl, F, N, I, l⟩
section
variable {prog : Program} {w : World} {A : Around} {E : Value → Shared → Prop} {s : Shared} {env : Env} {h₀ : Heap} {x : Str} {body : List Stmt} {Q : Flow → Shared → Prop}
/-- a loop over a range whose turns change one list of ints, of fixed length -/
theorem loop_ints {r D : Addr} {a₀ b₀ : Int} {t₀ u₀ v₀ : Tok} {n len c₀ : Nat} {m₀ : Str → Option Value} {tail : List (Addr × Obj)} {vals₀ : List Value} {ds₀ : List Int}
    (hh : A.handled = none) (hr : IsRange s.heap r a₀ b₀ 1 t₀ u₀ v₀) (hsmall : Builtin.Range.small a₀ b₀ 1 = true) (hn : Builtin.Range.rangeSize a₀ b₀ 1 = (n : Int)) (F : Fr h₀ env.locals s.heap m₀) (N : News h₀ env.locals s.heap ((D, listOf vals₀.toArray c₀) :: tail)) (hI : IntsAre vals₀ ds₀) (hlen : ds₀.length = len)
    (turn : ∀ k t vals c ds h tk own, a₀ ≤ k → k < a₀ + n → OwnOff own (D :: tail.map (·.1)) → IntsAre vals ds → ds.length = len → Fr h₀ env.locals h (fun y => if y = x then some (.int k t) else m₀ y) → News h₀ env.locals h ((D, listOf vals.toArray c) :: (tail ++ own)) →
      wpAny (model prog w) A (execs body env) (IntsEnd h₀ env.locals D x k m₀ tail own len s) E { s with heap := h, toks := tk })
    (done : ∀ (m₁ : Str → Option Value) vals c ds h tk, IntsAre vals ds → ds.length = len → Fr h₀ env.locals h (fun z => if z = x then m₁ z else m₀ z) → News h₀ env.locals h ((D, listOf vals.toArray c) :: tail) → Q .next { s with heap := h, toks := tk }) :
    wpAny (model prog w) A (pyIter (.ref r)) (fun it s₂ => LoopAtV prog w A h₀ env x body Q E it s₂) E s := by
  refine iter_rangeS (fun (_ : Unit) m₁ nx => (∃ vals c ds, nx = (D, listOf vals.toArray c) :: tail ∧ IntsAre vals ds ∧ ds.length = len) ∧ ∀ z, z ≠ x → m₁ z = m₀ z) (fun a _ => a) () hh hr hsmall hn F N ⟨⟨vals₀, c₀, ds₀, rfl, hI, hlen⟩, fun _ _ => rfl⟩ ?_ ?_
  · rintro k t _ m₁ nx h tk own hk ho ⟨⟨vals, c, ds, rfl, hI', hl'⟩, hm⟩ F₁ N₁
    rw [map_none hm] at F₁
    have hk' := mem_rangeKs hk
    refine wpAny_mono (turn k t vals c ds h tk own hk'.1 hk'.2 (by simpa using ho) hI' hl' F₁ (by simpa using N₁)) ?_ fun _ _ e => e
    rintro f s' ⟨rfl, h', tk', t', vals', c', ds', rfl, F', N', I', l'⟩
    show InvEndN _ _ _ _ _ _ _
    exact InvEndN.intro (s₁ := { s with heap := h, toks := tk }) F' N' ⟨⟨vals', c', ds', rfl, I', l'⟩, fun z hz => if_neg hz⟩ (by simp) (fun p hp => by
      rcases List.mem_cons.mp hp with rfl | hp
      · exact .head _
      · exact .tail _ (List.mem_append.mpr (.inl hp))) (fun p hp => .tail _ (List.mem_append.mpr (.inr hp)))
  · rintro m₁ nx h tk ⟨⟨vals, c, ds, rfl, hI', hl'⟩, hm⟩ F₁ N₁
    refine done m₁ vals c ds h tk hI' hl' ?_ N₁
    rw [done_none hm]; exact F₁
end
end Mine
end

section
open PySem PySem.Spec PySem.Calls PySem.W PyProof.Rows
namespace Mine
section
variable {w : World} {loose : List Str} {mean : ExcName → Option Value} {mg mb : Str → Option Value}
theorem mul_sp (n : Int) : Txt.mul (Str.ofString " ") n = sp n.toNat := by
  refine Str.ext' (Array.toList_inj.mp ?_)
  rw [show Str.ofString " " = (⟨#[32]⟩ : Str) from by decide +kernel, mul_one_list]
  simp [sp]
set_option maxRecDepth 100000 in
set_option maxHeartbeats 4000000 in
theorem c_mul (t u : Tok) (n : Int) (h0 : 0 ≤ n) (h1 : n ≤ 1000) :
    Cl w loose mean mg mb 2 52 [Value.str (Str.ofString " ") t, Value.int n u] [] [] (fun _ => True) (fun v T' => T' = [] ∧ ∃ t', v = Value.str (sp n.toNat) t') := by
  refine Cl.of ?_
  w_top off
  k_fill
  intro dp un gd cn cs a ccd cl outer A₀ base h₀ L m s Q E B F X N T hk hpre hdp hun hret
  refine wpAny_call ?_
  (k_dflt (refine' Mine.enter_def [(Str.ofString "a", Value.str (Str.ofString " ") t), (Str.ofString "b", Value.int n u)] ?k1 ?k2 ?k3 ?k4 ?k5 ?kA ?kF ?kK ?k6 ?k7 ?k8 ?k9 ?kB ?_ ?c2 ?c3 ?c4 ?c5; (case kA => exact rfl); (case kF => exact rfl); (case kK => assumption); (case k1 => k_asm); (case k2 => k_asm); (case k3 => k_asm); (case k4 => k_asm); (case k5 => k_asm); (case k6 => k_is); (case k7 => k_is); (case k8 => ktr_room); (case k9 => first | exact BindsTo.of_eq rfl | exact binds_K (by k_in) rfl (by k_is) rfl rfl rfl); (case c5 => decide); (case kB => exact locs rfl); (case c2 => exact rfl); (case c3 => exact rfl); (case c4 => exact rfl); k_whole; intro g' L' h' tk' htk' hrest' FG' F' N' B' X' T'; (try dsimp only); (try k_fold)))
  k_steps
  rw [mul_sp]
  exact hret _ _ _ _ (⟨rfl, _, rfl⟩) (by k_asm) (by first | k_asm | (refine' cb_drop ?cbN ?cbS; (case cbN => assumption); (case cbS => kcj_all))) (fun b o e hb => Fr.keep (h₀ := g') (L := L') (by assumption) b o (hrest' b o e hb)) (new_of (g := g') (L' := L') hrest' (by first | assumption | (refine' cb_drop ?cbN ?cbS; (case cbN => assumption); (case cbS => kcj_all))))
set_option maxRecDepth 100000 in
set_option maxHeartbeats 4000000 in
theorem c_iadd (x y : Str) (t u : Tok) (h0 : x.length ≤ 1000) (h1 : y.length ≤ 1000) :
    Cl w loose mean mg mb 2 80 [Value.str x t, Value.str y u] [] [] (fun _ => True) (fun v T' => T' = [] ∧ ∃ t', v = Value.str (x ++ y) t') := by
  refine Cl.of ?_
  w_top off
  k_fill
  intro dp un gd cn cs a ccd cl outer A₀ base h₀ L m s Q E B F X N T hk hpre hdp hun hret
  refine wpAny_call ?_
  (k_dflt (refine' Mine.enter_def [(Str.ofString "a", Value.str x t), (Str.ofString "b", Value.str y u)] ?k1 ?k2 ?k3 ?k4 ?k5 ?kA ?kF ?kK ?k6 ?k7 ?k8 ?k9 ?kB ?_ ?c2 ?c3 ?c4 ?c5; (case kA => exact rfl); (case kF => exact rfl); (case kK => assumption); (case k1 => k_asm); (case k2 => k_asm); (case k3 => k_asm); (case k4 => k_asm); (case k5 => k_asm); (case k6 => k_is); (case k7 => k_is); (case k8 => ktr_room); (case k9 => first | exact BindsTo.of_eq rfl | exact binds_K (by k_in) rfl (by k_is) rfl rfl rfl); (case c5 => decide); (case kB => exact locs rfl); (case c2 => exact rfl); (case c3 => exact rfl); (case c4 => exact rfl); k_whole; intro g' L' h' tk' htk' hrest' FG' F' N' B' X' T'; (try dsimp only); (try k_fold)))
  k_steps
  exact hret _ _ _ _ (⟨rfl, _, rfl⟩) (by k_asm) (by first | k_asm | (refine' cb_drop ?cbN ?cbS; (case cbN => assumption); (case cbS => kcj_all))) (fun b o e hb => Fr.keep (h₀ := g') (L := L') (by assumption) b o (hrest' b o e hb)) (new_of (g := g') (L' := L') hrest' (by first | assumption | (refine' cb_drop ?cbN ?cbS; (case cbN => assumption); (case cbS => kcj_all))))
set_option maxRecDepth 100000 in
set_option maxHeartbeats 4000000 in
theorem c_isub (x y : Int) (t u : Tok) :
    Cl w loose mean mg mb 2 87 [Value.int x t, Value.int y u] [] [] (fun _ => True) (fun v T' => T' = [] ∧ ∃ t', v = Value.int (x - y) t') := by
  refine Cl.of ?_
  w_top off
  k_fill
  intro dp un gd cn cs a ccd cl outer A₀ base h₀ L m s Q E B F X N T hk hpre hdp hun hret
  refine wpAny_call ?_
  (k_dflt (refine' Mine.enter_def [(Str.ofString "a", Value.int x t), (Str.ofString "b", Value.int y u)] ?k1 ?k2 ?k3 ?k4 ?k5 ?kA ?kF ?kK ?k6 ?k7 ?k8 ?k9 ?kB ?_ ?c2 ?c3 ?c4 ?c5; (case kA => exact rfl); (case kF => exact rfl); (case kK => assumption); (case k1 => k_asm); (case k2 => k_asm); (case k3 => k_asm); (case k4 => k_asm); (case k5 => k_asm); (case k6 => k_is); (case k7 => k_is); (case k8 => ktr_room); (case k9 => first | exact BindsTo.of_eq rfl | exact binds_K (by k_in) rfl (by k_is) rfl rfl rfl); (case c5 => decide); (case kB => exact locs rfl); (case c2 => exact rfl); (case c3 => exact rfl); (case c4 => exact rfl); k_whole; intro g' L' h' tk' htk' hrest' FG' F' N' B' X' T'; (try dsimp only); (try k_fold)))
  k_steps
  exact hret _ _ _ _ (⟨rfl, _, rfl⟩) (by k_asm) (by first | k_asm | (refine' cb_drop ?cbN ?cbS; (case cbN => assumption); (case cbS => kcj_all))) (fun b o e hb => Fr.keep (h₀ := g') (L := L') (by assumption) b o (hrest' b o e hb)) (new_of (g := g') (L' := L') hrest' (by first | assumption | (refine' cb_drop ?cbN ?cbS; (case cbN => assumption); (case cbS => kcj_all))))
theorem strip_nat {p q m l a r b : Nat} (e : l + a = m) (h1 : l ≤ p) (h3 : a = 0 ∨ l = p) (e2 : r + m = p + q + min m p + b) (h4 : p ≤ r) (h7 : b = 0 ∨ r = p) :
    p - l = p - m ∧ r - p = q - (m - p) := by
  rcases h3 with rfl | rfl
  · subst e
    rw [Nat.add_zero, Nat.min_eq_left h1] at *
    have : r = p + q := by rcases h7 with rfl | rfl <;> omega
    exact ⟨rfl, by rw [this, Nat.sub_eq_zero_of_le h1]; exact Nat.add_sub_cancel_left ..⟩
  · subst e
    rw [Nat.min_eq_right (Nat.le_add_right l a)] at e2
    refine ⟨(Nat.sub_self l).trans (Nat.sub_eq_zero_of_le (Nat.le_add_right l a)).symm, ?_⟩
    rw [Nat.add_sub_cancel_left]
    rcases h7 with rfl | rfl <;> omega
theorem strip_end {p q : Nat} {n l a r b : Int} (e : l + a = n) (h0 : 0 ≤ l) (h1 : l ≤ p) (h2 : 0 ≤ a) (h3 : a = 0 ∨ l = p) (e2 : r - b = p + q - (n - min n p)) (h4 : p ≤ r) (h5 : r ≤ p + q) (h6 : 0 ≤ b) (h7 : b = 0 ∨ r = p) :
    Txt.slice (pad p q) (some l) (some (r + 1)) = pad (p - n.toNat) (q - (n.toNat - p)) := by
  have hn := Int.add_nonneg h0 h2
  rw [e] at hn
  have hr := Int.le_trans (Int.natCast_nonneg p) h4
  obtain ⟨m, rfl⟩ := Int.eq_ofNat_of_zero_le hn
  obtain ⟨l, rfl⟩ := Int.eq_ofNat_of_zero_le h0
  obtain ⟨a, rfl⟩ := Int.eq_ofNat_of_zero_le h2
  obtain ⟨r, rfl⟩ := Int.eq_ofNat_of_zero_le hr
  obtain ⟨b, rfl⟩ := Int.eq_ofNat_of_zero_le h6
  have hm : min (m : Int) (p : Int) = ((min m p : Nat) : Int) := by omega
  rw [hm] at e2
  generalize hw : min m p = w at e2
  have z := strip_nat (p := p) (q := q) (m := m) (l := l) (a := a) (r := r) (b := b) (Int.ofNat_inj.mp e) (Int.ofNat_le.mp h1) (h3.imp Int.ofNat_inj.mp Int.ofNat_inj.mp) (by rw [hw]; clear h0 h1 h2 h3 h4 h5 h6 h7 e hn hr hm hw; omega) (Int.ofNat_le.mp h4) (h7.imp Int.ofNat_inj.mp Int.ofNat_inj.mp)
  exact (pad_slice h0 h1 h4 h5).trans (pad_sub z.1 z.2)
set_option maxRecDepth 100000 in
set_option maxHeartbeats 4000000 in
theorem c_strip (p q : Nat) (t u : Tok) (n : Int) (hp : p ≤ 100) (hq : q ≤ 100) (hn0 : 0 ≤ n) (hn1 : n ≤ 1000) :
    Cl w loose mean mg mb 2 45 [Value.str (pad p q) t, Value.int n u] [] [] (fun _ => True) (fun v T' => T' = [] ∧ ∃ t', v = Value.str (pad (p - n.toNat) (q - (n.toNat - p))) t') := by
  refine Cl.of ?_
  w_top off
  k_fill
  intro dp un gd cn cs a ccd cl outer A₀ base h₀ L m s Q E B F X N T hk hpre hdp hun hret
  have hlen := pad_len p q
  refine wpAny_call ?_
  (k_dflt (refine' Mine.enter_def [(Str.ofString "s", Value.str (pad p q) t), (Str.ofString "amount", Value.int n u)] ?k1 ?k2 ?k3 ?k4 ?k5 ?kA ?kF ?kK ?k6 ?k7 ?k8 ?k9 ?kB ?_ ?c2 ?c3 ?c4 ?c5; (case kA => exact rfl); (case kF => exact rfl); (case kK => assumption); (case k1 => k_asm); (case k2 => k_asm); (case k3 => k_asm); (case k4 => k_asm); (case k5 => k_asm); (case k6 => k_is); (case k7 => k_is); (case k8 => ktr_room); (case k9 => first | exact BindsTo.of_eq rfl | exact binds_K (by k_in) rfl (by k_is) rfl rfl rfl); (case c5 => decide); (case kB => exact locs rfl); (case c2 => exact rfl); (case c3 => exact rfl); (case c4 => exact rfl); k_whole; intro g' L' h' tk' htk' hrest' FG' F' N' B' X' T'; (try dsimp only); (try k_fold)))
  (k_with "state" => ((have h9 := blank_ne (by assumption) (by omega) (by omega)); (refine ⟨?_, ?_, ?_, ?_⟩ <;> omega)))
  (repeat' (first | (k_unfold; (try dsimp only)) | ((fail_if_success (with_reducible show wpAny _ _ (exec (Stmt.While _ _ _ _) _) _ _ _)); walk1)))
  (k_while (fun _ l a => l + a = n ∧ 0 ≤ l ∧ l ≤ p ∧ 0 ≤ a) (fun _ _ a => a.toNat) "lpos" "amount")
  (repeat' (first | (k_unfold; (try dsimp only)) | ((fail_if_success (with_reducible show wpAny _ _ (exec (Stmt.While _ _ _ _) _) _ _ _)); walk1)))
  all_goals (try (have h9 := blank_eq (by assumption) (by omega) (by omega)))
  all_goals (k_while (fun _ r a => r - a = p + q - (n - min n p) ∧ p ≤ r ∧ r ≤ p + q ∧ 0 ≤ a) (fun _ _ a => a.toNat) "rpos" "amount")
  (repeat' (first | (k_unfold; (try dsimp only)) | ((fail_if_success (with_reducible show wpAny _ _ (exec (Stmt.While _ _ _ _) _) _ _ _)); walk1)))
  all_goals (try (have h8 := blank_eq (by assumption) (by omega) (by omega)))
  all_goals (exact hret _ _ _ _ (⟨rfl, _, congrArg (fun x => Value.str x _) (strip_end (by assumption) (by first | assumption | omega) (by first | assumption | omega) (by first | assumption | omega) (by first | exact .inl (by assumption) | exact .inr (by assumption)) (by assumption) (by first | assumption | omega) (by first | assumption | omega) (by first | assumption | omega) (by first | exact .inl (by assumption) | exact .inr (by assumption)))⟩) (by k_asm) (by first | k_asm | (refine' cb_drop ?cbN ?cbS; (case cbN => assumption); (case cbS => kcj_all))) (fun b o e hb => Fr.keep (h₀ := g') (L := L') (by assumption) b o (hrest' b o e hb)) (new_of (g := g') (L' := L') hrest' (by first | assumption | (refine' cb_drop ?cbN ?cbS; (case cbN => assumption); (case cbS => kcj_all)))))
end
end Mine
end

section
open PySem PySem.Spec PySem.Calls PySem.W PyProof.Rows
namespace Mine
section
variable {w : World} {loose : List Str} {mean : ExcName → Option Value} {mg mb : Str → Option Value}

set_option maxRecDepth 100000 in
set_option maxHeartbeats 4000000 in
theorem c_indexOf (p q : Nat) (t u : Tok) (hp : p ≤ 100) (hq : q ≤ 100) :
    Cl w loose mean mg mb 2 66 [Value.str (pad p q) t, Value.str (Str.ofString "x") u] [] [] (fun s => u ≠ 0 ∧ u < s.toks) (fun v T' => T' = [] ∧ ∃ t', v = Value.int p t') := by
  refine Cl.of ?_
  w_top off
  k_fill
  intro dp un gd cn cs a ccd cl outer A₀ base h₀ L m s Q E B F X N T hk hpre hdp hun hret
  obtain ⟨hu0, hus⟩ := hpre
  have hlen := pad_len p q
  refine wpAny_call ?_
  (k_dflt (refine' Mine.enter_def [(Str.ofString "a", Value.str (pad p q) t), (Str.ofString "b", Value.str (Str.ofString "x") u)] ?k1 ?k2 ?k3 ?k4 ?k5 ?kA ?kF ?kK ?k6 ?k7 ?k8 ?k9 ?kB ?_ ?c2 ?c3 ?c4 ?c5; (case kA => exact rfl); (case kF => exact rfl); (case kK => assumption); (case k1 => k_asm); (case k2 => k_asm); (case k3 => k_asm); (case k4 => k_asm); (case k5 => k_asm); (case k6 => k_is); (case k7 => k_is); (case k8 => ktr_room); (case k9 => first | exact BindsTo.of_eq rfl | exact binds_K (by k_in) rfl (by k_is) rfl rfl rfl); (case c5 => decide); (case kB => exact locs rfl); (case c2 => exact rfl); (case c3 => exact rfl); (case c4 => exact rfl); k_whole; intro g' L' h' tk0 htk0 hrest' FG' F' N' B' X' T'; (try dsimp only); (try k_fold)))
  (repeat' (first | (k_unfold; (try dsimp only)) | ((fail_if_success (with_reducible show wpAny _ _ (exec (Stmt.For _ _ _ _ _) _) _ _ _)); walk1)))
  refine for_enum_str (h₀ := g') (x := pad p q) (t := t) (n := p) (k0 := u + 1) (news := []) (m := fun y => List.lookup y [(Str.ofString "b", Value.str (Str.ofString "x") u), (Str.ofString "a", Value.str (pad p q) t)]) rfl rfl rfl rfl (fun _ => rfl) ?_ ?_ ?_ ?_ ?_ ?_
  · have := pad_len p q
    simp only [Str.length] at this
    omega
  · (repeat' (first | (k_unfold; (try dsimp only)) | ((fail_if_success (with_reducible show wpAny _ _ (call (Value.type _) _) _ _ _)); walk1)))
    refine call_enumerate_str fun h1 e1 i1 z1 k1 => ⟨rfl, h1, _, rfl, ?_, e1, ?_, ⟨F'.ns.keeps k1, fun b o e => k1 b o (F'.keep b o e), F'.above⟩, fun p hp => ⟨k1 _ _ (N' p hp).1, (N' p hp).2⟩⟩
    · exact Nat.le_trans hus htk0
    · simpa [strIterType, pad_ascii] using i1
  · exact F'.ns.lt
  · exact fun p hp => Heap.lt_size (N' p hp).1
  · exact Nat.le_trans F'.above (Nat.le_of_lt F'.ns.lt)
  · intro i c uj k H tk hc hi huj htk F2 N2
    have hcc := pad_get hc hi
    clear N F N' F'
    (repeat' (first | (k_unfold; (try dsimp only)) | ((fail_if_success (with_reducible show wpAny _ _ (compareOp CmpOp.Is _ _) _ _ _)); walk1)))
    refine is_str_rule (X'.keeps F2.keep) (Nat.ne_of_gt (Nat.lt_of_lt_of_le (Nat.succ_pos _) huj)) hu0 (Nat.ne_of_gt huj) fun b hb => ?_
    k_steps
    · have h9 := one_x (hb (by assumption)) hcc
      subst h9
      exact hret _ _ _ _ (⟨rfl, _, rfl⟩) (by k_asm) (by k_asm) (fun b o e hb => Fr.keep (h₀ := g') (L := L') (by assumption) b o (hrest' b o e hb)) (new_of (g := g') (L' := L') hrest' (by assumption))
    · have h9 := one_x (eq_of_beq (by assumption)) hcc
      subst h9
      exact hret _ _ _ _ (⟨rfl, _, rfl⟩) (by k_asm) (by k_asm) (fun b o e hb => Fr.keep (h₀ := g') (L := L') (by assumption) b o (hrest' b o e hb)) (new_of (g := g') (L' := L') hrest' (by assumption))
    · exact Nat.lt_of_le_of_ne hi (not_x (by assumption) hcc)
    · exact htk
end
end Mine
end

section
open PySem PySem.Spec PySem.Calls PySem.W PyProof.Rows
set_option maxRecDepth 100000
namespace Mine
theorem pa_pattern : PlainAttrs "re.Pattern" :=
  ⟨⟨"object.__getattribute__", by rw [typeLookup_type, builtinLookup_eq_fast]; kernel_rfl, by decide +kernel⟩, by rw [typeLookup_type, builtinLookup_eq_fast]; kernel_rfl⟩
theorem slot_search : Slot "re.Pattern" "search" "re.Pattern.search" :=
  .of (owner := "re.Pattern") (n := "search") (by rw [typeLookup_type, builtinLookup_eq_fast]; kernel_rfl) (by decide +kernel) (by decide +kernel) (by decide +kernel)
    (by first | exact .inl (by decide +kernel) | exact .inr (by decide +kernel)) (by rw [isSubtype_type]; kernel_rfl)
theorem entry_search : entryFor table "re.Pattern.search" = some Builtin.«re.Pattern.search» := entryFor_of_tree (by kernel_rfl)
theorem args_search (a b : Value) : argsOk "re.Pattern.search" ⟨[a, b], []⟩ := by unfold argsOk; kernel_rfl
theorem type_search : typeOf (.builtin "re.Pattern.search") = pure (.type "method_descriptor") := by
  show builtinType _ = _; rw [builtinType_eq_fast]; kernel_rfl
def nameCode : Array Nat := #[14, 10, 4, 1, 1, 22, 0, 31, 16, 127, 0, 13, 7, 22, 0, 31, 16, 127, 0, 1]
def valueCode : Array Nat := #[14, 14, 4, 1, 1, 9, 4294966783, 0, 0, 2147483648, 0, 0, 0, 0, 0, 13, 11, 9, 4294966783, 0, 0, 2147483648, 0, 0, 0, 0, 0, 1]
theorem set_name {c : Nat} (seen : Sre.Seen) (h0 : 32 ≤ c) (h1 : c < 127) : ∃ seen', Sre.inSet nameCode c nameCode.size 5 true seen = .ok (false, seen') := by
  show ∃ seen', Sre.inSet nameCode c (17 + 3) 5 true seen = .ok (false, seen')
  have a1 : nameCode.getD 5 0 = 22 := rfl
  have a2 : nameCode.getD 6 0 = 0 := rfl
  have a3 : nameCode.getD 7 0 = 31 := rfl
  have a4 : nameCode.getD 8 0 = 16 := rfl
  have a5 : nameCode.getD 9 0 = 127 := rfl
  have a6 : nameCode.getD 10 0 = 0 := rfl
  have o1 : Sre.ops[22]? = some .RANGE := rfl
  have o2 : Sre.ops[16]? = some .LITERAL := rfl
  have o3 : Sre.ops[0]? = some .FAILURE := rfl
  have c1 : ¬ c ≤ 31 := by omega
  have c2 : ¬ c = 127 := by omega
  simp [Sre.inSet, a1, a2, a3, a4, a5, a6, o1, o2, o3, c1, c2]
theorem bits_value : ∀ c, c < 127 → 32 ≤ c → (valueCode[5 + (1 + c / 32)]?.getD 0).testBit (c % 32) = false := by decide +kernel
theorem set_value {c : Nat} (seen : Sre.Seen) (h0 : 32 ≤ c) (h1 : c < 127) : ∃ seen', Sre.inSet valueCode c valueCode.size 5 true seen = .ok (false, seen') := by
  show ∃ seen', Sre.inSet valueCode c (26 + 2) 5 true seen = .ok (false, seen')
  have a1 : valueCode.getD 5 0 = 9 := rfl
  have a6 : valueCode.getD 14 0 = 0 := rfl
  have o1 : Sre.ops[9]? = some .CHARSET := rfl
  have o3 : Sre.ops[0]? = some .FAILURE := rfl
  have hb := bits_value c h1 h0
  simp [Sre.inSet, a1, a6, o1, o3, hb]
theorem admitted_none {m : Sre.M} (hs : ∀ c seen, 32 ≤ c → c < 127 → ∃ seen', Sre.inSet m.code c m.code.size 5 true seen = .ok (false, seen'))
    (ht : ∀ c ∈ m.text.toList, 32 ≤ c ∧ c < 127) (hl : m.lim ≤ m.text.size) : ∀ (fuel s : Nat) (seen : Sre.Seen), ∃ seen', m.admitted fuel s seen = .ok (none, seen')
  | 0, _, seen => ⟨seen, rfl⟩
  | fuel + 1, s, seen => by
    unfold Sre.M.admitted
    by_cases h : s ≥ m.lim
    · rw [if_pos h]; exact ⟨seen, rfl⟩
    · rw [if_neg h]
      have hsz : s < m.text.size := by omega
      have e : m.text.getD s 0 = m.text[s] := by simp [Array.getD, hsz]
      have hc := ht m.text[s] (by simp)
      obtain ⟨seen', hq⟩ := hs _ seen hc.1 hc.2
      rw [e, hq]
      exact admitted_none hs ht hl fuel (s + 1) seen'

theorem runFor_stays {m : Sre.M} (h : m.outcome.isSome = true) : ∀ n, m.runFor n = m
  | 0 => rfl
  | n + 1 => by unfold Sre.M.runFor; rw [if_pos h]
theorem attemptFrom_none {m : Sre.M} (hf : m.hasFirstSet = true) (ha : ∀ fuel s seen, ∃ seen', m.admitted fuel s seen = .ok (none, seen')) (hr : m.frames = []) (ho : m.outcome = none) :
    (m.attemptFrom 0 true).answer = some false ∧ (m.attemptFrom 0 true).frames = [] ∧ (m.attemptFrom 0 true).outcome = none := by
  unfold Sre.M.attemptFrom
  rw [hf]
  obtain ⟨seen', e⟩ := ha (m.lim + 1 - 0) 0 m.seen
  rw [e]
  exact ⟨rfl, hr, ho⟩
theorem forSearch_says {code text : Array Nat} {lim : Nat} (hs : ∀ c seen, 32 ≤ c → c < 127 → ∃ seen', Sre.inSet code c code.size 5 true seen = .ok (false, seen'))
    (hi : ((match Sre.ops[code.getD 0 0]? with | some .INFO => true | _ => false) && code.getD 2 0 == 4) = true)
    (ht : ∀ c ∈ text.toList, 32 ≤ c ∧ c < 127) (hl : lim ≤ text.size) :
    (Sre.forSearch code text 0 0 lim false).answer = some false ∧ (Sre.forSearch code text 0 0 lim false).frames = [] ∧ (Sre.forSearch code text 0 0 lim false).outcome = none := by
  unfold Sre.forSearch
  dsimp only
  split
  · exact ⟨rfl, rfl, rfl⟩
  · exact attemptFrom_none hi (admitted_none hs ht hl) rfl rfl
theorem runFor_none {m : Sre.M} (ha : m.answer = some false) (hf : m.frames = []) (ho : m.outcome = none) : (m.runFor 4).outcome = some .failed := by
  have e1 : m.runFor 4 = m.step.runFor 3 := by
    conv => lhs; unfold Sre.M.runFor
    rw [if_neg (by rw [ho]; simp)]
  have e2 : m.step.outcome = some .failed := by
    unfold Sre.M.step
    rw [if_neg (by rw [ho]; simp), ha, hf]
    rfl
  rw [e1, runFor_stays (by rw [e2]; rfl), e2]
section
variable {M : Model} {A : Around} {E : Value → Shared → Prop} {s : Shared}
theorem rules_pass {c : Nat → Bool} {tag : Nat → String} {Q : PUnit → Shared → Prop} (h : Q ⟨⟩ s) : ∀ l : List Nat, wpAny M A (forIn l PUnit.unit fun i _ => do
      if c i = true then rule (tag i)
      pure (ForInStep.yield PUnit.unit)) Q E s
  | [] => wpAny_pure h
  | i :: l => by
    rw [List.forIn_cons]
    refine wpAny_bind ?_
    by_cases hc : c i = true
    · rw [if_pos hc]
      exact wpAny_bind (wpAny_rule (wpAny_pure (rules_pass h l)))
    · rw [if_neg hc]
      exact wpAny_pure (rules_pass h l)
theorem drive_none {m : Sre.M} {Q : Option Sre.M → Shared → Prop} (ha : m.answer = some false) (hf : m.frames = []) (ho : m.outcome = none) (h : Q none s) :
    wpAny M A (Builtin.Re.reRunToEnd m) Q E s := by
  unfold Builtin.Re.reRunToEnd
  have e := runFor_none ha hf ho
  refine wpAny_bind ?_
  show wpAny M A (Builtin.Re.reDrive ((2 ^ 64 - 1) + 1) m) _ E s
  unfold Builtin.Re.reDrive
  show wpAny M A (if (m.runFor 4).outcome.isSome then pure (m.runFor 4) else _) _ E s
  rw [if_pos (by rw [e]; rfl)]
  refine wpAny_pure ?_
  refine wpAny_bind (rules_pass ?_ _)
  rw [e]
  exact wpAny_pure h
end
end Mine
end

section
open PySem PySem.Spec PySem.Calls PySem.W PyProof.Rows
set_option maxRecDepth 100000
namespace Mine
section
open Builtin.Re
variable {prog : Program} {w : World} {A : Around} {E : Value → Shared → Prop} {s : Shared}
theorem target_rule {a ca : Addr} {o oc : Obj} {vs its : Array Value} {n : Nat} {x : Str} {t g k : Tok} {Q : ReTarget → Shared → Prop}
    (ho : s.heap.get? a = some o) (hd : o.data = .fields vs) (h6 : vs.getD 6 .none = .int 0 k) (h2 : vs.getD 2 .none = .int 0 g) (h5 : vs.getD 5 .none = .ref ca)
    (hoc : s.heap.get? ca = some oc) (hcd : oc.data = .seq its n)
    (h : Q { pattern := .ref a, string := .str x t, code := (its.map reRawOf).map (·.toNat), text := x.cps, kind := 0, groups := 0, pos := min (0 : Int).toNat x.cps.size, lim := min (2 ^ 63 - 1 : Int).toNat x.cps.size } s) :
    wpAny (model prog w) A (reTarget "re.Pattern.search" "search" ⟨[.ref a, .str x t], []⟩) Q E s := by
  have e : reNamed "re.Pattern.search" "search" ["string", "pos", "endpos"] 1 [.str x t] [] = pure [some (.str x t), none, none] := by rfl
  unfold reTarget
  dsimp only
  rw [e]
  refine wpAny_bind (wpAny_pure ?_)
  refine wpAny_bind (wpAny_pure ?_)
  refine wpAny_bind (wpAny_pure ?_)
  refine wpAny_bind (wpAny_fieldsOf ho hd ?_)
  rw [h6, h2, h5]
  have e2 : reTextOf (.str x t) = pure (x.cps, 0) := by rfl
  rw [e2]
  refine wpAny_bind (wpAny_pure ?_)
  show wpAny (model prog w) A (do
      reNoCollectionInside (Value.str x t) 0
      let __do_lift ← reRawItems (Value.ref ca)
      pure { pattern := Value.ref a, string := Value.str x t, code := Array.map (fun x => x.toNat) __do_lift, text := x.cps, kind := 0, groups := 0, pos := min (Int.toNat 0) x.cps.size, lim := min (2 ^ 63 - 1 : Int).toNat x.cps.size }) Q E s
  have e3 : reNoCollectionInside (.str x t) 0 = pure () := by rfl
  rw [e3]
  refine wpAny_bind (wpAny_pure ?_)
  unfold reRawItems
  refine wpAny_bind (wpAny_bind (wpAny_seqItems hoc hcd (wpAny_pure ?_)))
  exact wpAny_pure h
/-- a search of control signs in a plain text finds none -/
theorem search_rule {a ca : Addr} {o oc : Obj} {vs its : Array Value} {n : Nat} {x : Str} {t g k : Tok} {code : Array Nat} {Q : Value → Shared → Prop}
    (ho : s.heap.get? a = some o) (hc : o.cls = .type "re.Pattern") (hd : o.data = .fields vs) (h6 : vs.getD 6 .none = .int 0 k) (h2 : vs.getD 2 .none = .int 0 g) (h5 : vs.getD 5 .none = .ref ca)
    (hoc : s.heap.get? ca = some oc) (hcd : oc.data = .seq its n) (hcode : (its.map reRawOf).map (·.toNat) = code)
    (hs : ∀ c seen, 32 ≤ c → c < 127 → ∃ seen', Sre.inSet code c code.size 5 true seen = .ok (false, seen'))
    (hi : ((match Sre.ops[code.getD 0 0]? with | some .INFO => true | _ => false) && code.getD 2 0 == 4) = true)
    (ht : ∀ c ∈ x.cps.toList, 32 ≤ c ∧ c < 127) (h : Q .none s) :
    wpAny (model prog w) A (call (.builtin "re.Pattern.search") [.ref a, .str x t]) Q E s := by
  refine wpAny_call_entry slot_search ⟨o, ho, hc⟩ entry_search ?_ (args_search _ _)
  unfold Builtin.«re.Pattern.search»
  refine wpAny_bind (target_rule ho hd h6 h2 h5 hoc hcd ?_)
  dsimp only
  rw [hcode]
  have hq := forSearch_says (code := code) (text := x.cps) (lim := min (2 ^ 63 - 1 : Int).toNat x.cps.size) hs hi ht (Nat.min_le_right _ _)
  unfold reAnswer
  refine wpAny_bind ?_
  have e0 : min (Int.toNat 0) x.cps.size = 0 := by simp
  rw [e0]
  refine drive_none hq.1 hq.2.1 hq.2.2 ?_
  exact wpAny_pure ⟨_, rfl, h⟩
end
end Mine
end

section
open PySem PySem.Spec PySem.Calls PySem.W PyProof.Rows
namespace Mine
def Plain (x : Str) : Prop := ∀ c ∈ x.cps.toList, 32 ≤ c ∧ c < 127
def PatAt (h : Heap) (a : Addr) (code : Array Nat) : Prop :=
  ∃ (o oc : Obj) (vs its : Array Value) (n : Nat) (ca : Addr) (k g : Tok), h.get? a = some o ∧ o.cls = .type "re.Pattern" ∧ o.dict = none ∧ o.data = .fields vs ∧ vs.getD 6 .none = .int 0 k ∧ vs.getD 2 .none = .int 0 g ∧ vs.getD 5 .none = .ref ca ∧
    h.get? ca = some oc ∧ oc.data = .seq its n ∧ (its.map Builtin.Re.reRawOf).map (·.toNat) = code
section
variable {w : World} {h : Heap}
set_option maxRecDepth 100000 in
theorem pat_name (X : (Mine.hd.heap_39 w.params).In h) : PatAt h 92 nameCode := by
  obtain ⟨o, ho, hr⟩ : ∃ o, (Mine.hd.heap_39 w.params).lookup 92 = some o ∧ ∃ vs, o.cls = .type "re.Pattern" ∧ o.dict = none ∧ o.data = .fields vs ∧ vs.getD 6 .none = .int 0 0 ∧ vs.getD 2 .none = .int 0 0 ∧ vs.getD 5 .none = .ref 91 :=
    ⟨_, rfl, _, rfl, rfl, rfl, rfl, rfl, rfl⟩
  obtain ⟨oc, hoc, its, n, hcd, hcode⟩ : ∃ oc, (Mine.hd.heap_39 w.params).lookup 91 = some oc ∧ ∃ its n, oc.data = .seq its n ∧ (its.map Builtin.Re.reRawOf).map (·.toNat) = nameCode :=
    ⟨_, rfl, _, _, rfl, by decide +kernel⟩
  obtain ⟨vs, h1, h2, h3, h4, h5, h6⟩ := hr
  exact ⟨o, oc, vs, its, n, 91, 0, 0, X _ _ ho, h1, h2, h3, h4, h5, h6, X _ _ hoc, hcd, hcode⟩
set_option maxRecDepth 100000 in
theorem pat_value (X : (Mine.hd.heap_39 w.params).In h) : PatAt h 97 valueCode := by
  obtain ⟨o, ho, hr⟩ : ∃ o, (Mine.hd.heap_39 w.params).lookup 97 = some o ∧ ∃ vs, o.cls = .type "re.Pattern" ∧ o.dict = none ∧ o.data = .fields vs ∧ vs.getD 6 .none = .int 0 0 ∧ vs.getD 2 .none = .int 0 0 ∧ vs.getD 5 .none = .ref 96 :=
    ⟨_, rfl, _, rfl, rfl, rfl, rfl, rfl, rfl⟩
  obtain ⟨oc, hoc, its, n, hcd, hcode⟩ : ∃ oc, (Mine.hd.heap_39 w.params).lookup 96 = some oc ∧ ∃ its n, oc.data = .seq its n ∧ (its.map Builtin.Re.reRawOf).map (·.toNat) = valueCode :=
    ⟨_, rfl, _, _, rfl, by decide +kernel⟩
  obtain ⟨vs, h1, h2, h3, h4, h5, h6⟩ := hr
  exact ⟨o, oc, vs, its, n, 96, 0, 0, X _ _ ho, h1, h2, h3, h4, h5, h6, X _ _ hoc, hcd, hcode⟩
end
section
variable {prog : Program} {w : World} {A : Around} {E : Value → Shared → Prop} {s : Shared}
theorem pat_method {a : Addr} {code : Array Nat} {pl : Sem Bool} {Q : Value × List Value → Shared → Prop} (P : PatAt s.heap a code) (h : Q (.builtin "re.Pattern.search", [.ref a]) s) :
    wpAny (model prog w) A (getMethod (.ref a) (Str.ofString "search") pl) Q E s := by
  obtain ⟨o, oc, vs, its, n, ca, k, g, ho, hc, hdn, _⟩ := P
  exact getMethod_builtin ⟨o, ho, hc⟩ pa_pattern slot_search type_search (fun b e => by cases e; exact ⟨o, ho, hdn⟩) h
theorem pat_search_name {a : Addr} {x : Str} {t : Tok} {Q : Value → Shared → Prop} (P : PatAt s.heap a nameCode) (hx : Plain x) (h : Q .none s) :
    wpAny (model prog w) A (call (.builtin "re.Pattern.search") [.ref a, .str x t]) Q E s := by
  obtain ⟨o, oc, vs, its, n, ca, k, g, ho, hc, hdn, hd, h6, h2, h5, hoc, hcd, hcode⟩ := P
  exact search_rule ho hc hd h6 h2 h5 hoc hcd hcode (fun _ seen h0 h1 => set_name seen h0 h1) rfl hx h
theorem pat_search_value {a : Addr} {x : Str} {t : Tok} {Q : Value → Shared → Prop} (P : PatAt s.heap a valueCode) (hx : Plain x) (h : Q .none s) :
    wpAny (model prog w) A (call (.builtin "re.Pattern.search") [.ref a, .str x t]) Q E s := by
  obtain ⟨o, oc, vs, its, n, ca, k, g, ho, hc, hdn, hd, h6, h2, h5, hoc, hcd, hcode⟩ := P
  exact search_rule ho hc hd h6 h2 h5 hoc hcd hcode (fun _ seen h0 h1 => set_value seen h0 h1) rfl hx h
end
section
variable {w : World} {loose : List Str} {mean : ExcName → Option Value} {mg mb : Str → Option Value}
set_option maxRecDepth 100000 in
set_option maxHeartbeats 4000000 in
theorem c_conv (x : Str) (t : Tok) (self : Value) (b : Bool) (hx : Plain x) :
    Cl w loose mean mg mb 2 119 [self, Value.str x t] [(Str.ofString "name", Value.bool b)] [] (fun _ => True) (fun v T' => T' = [] ∧ v = Value.str x t) := by
  refine Cl.of ?_
  w_top off
  k_fill
  intro dp un gd cn cs a ccd cl outer A₀ base h₀ L m s Q E B F X N T hk hpre hdp hun hret
  refine wpAny_call ?_
  (k_dflt (refine' Mine.enter_def [(Str.ofString "self", self), (Str.ofString "value", Value.str x t), (Str.ofString "name", Value.bool b)] ?k1 ?k2 ?k3 ?k4 ?k5 ?kA ?kF ?kK ?k6 ?k7 ?k8 ?k9 ?kB ?_ ?c2 ?c3 ?c4 ?c5; (case kA => exact rfl); (case kF => exact rfl); (case kK => assumption); (case k1 => k_asm); (case k2 => k_asm); (case k3 => k_asm); (case k4 => k_asm); (case k5 => k_asm); (case k6 => k_is); (case k7 => k_is); (case k8 => ktr_room); (case k9 => first | exact BindsTo.of_eq rfl | exact binds_K (by k_in) rfl (by k_is) rfl rfl rfl); (case c5 => decide); (case kB => exact locs rfl); (case c2 => exact rfl); (case c3 => exact rfl); (case c4 => exact rfl); k_whole; intro g' L' h' tk' htk' hrest' FG' F' N' B' X' T'; (try dsimp only); (try k_fold)))
  (repeat' (first | (k_unfold; (try dsimp only)) | ((fail_if_success (with_reducible show wpAny _ _ (getMethod (Value.ref _) _ _) _ _ _)); walk1)))
  · rename Fr _ _ _ _ => F9
    refine pat_method (pat_name (X'.keeps F9.keep)) ?_
    (repeat' (first | (k_unfold; (try dsimp only)) | ((fail_if_success (with_reducible show wpAny _ _ (call (Value.builtin _) _) _ _ _)); walk1)))
    refine pat_search_name (pat_name (X'.keeps F9.keep)) hx ?_
    k_steps
    exact hret _ _ _ _ (⟨rfl, rfl⟩) (by k_asm) (by k_asm) (fun b o e hb => Fr.keep (h₀ := g') (L := L') (by assumption) b o (hrest' b o e hb)) (new_of (g := g') (L' := L') hrest' (by assumption))
  · rename Fr _ _ _ _ => F9
    refine pat_method (pat_value (X'.keeps F9.keep)) ?_
    (repeat' (first | (k_unfold; (try dsimp only)) | ((fail_if_success (with_reducible show wpAny _ _ (call (Value.builtin _) _) _ _ _)); walk1)))
    refine pat_search_value (pat_value (X'.keeps F9.keep)) hx ?_
    k_steps
    exact hret _ _ _ _ (⟨rfl, rfl⟩) (by k_asm) (by k_asm) (fun b o e hb => Fr.keep (h₀ := g') (L := L') (by assumption) b o (hrest' b o e hb)) (new_of (g := g') (L' := L') hrest' (by assumption))
end
end Mine
end

section
open PySem PySem.Spec PySem.Calls PySem.W PyProof.Rows
namespace Mine
section
variable {w : World} {loose : List Str} {mean : ExcName → Option Value} {mg mb : Str → Option Value}
set_option maxRecDepth 100000 in
set_option maxHeartbeats 4000000 in
theorem c_init (x dx l t1 t2 t3 : Addr) (k1 v1 k2 v2 k3 v3 : Str) (a1 b1 a2 b2 a3 b3 : Tok) (n1 n2 n3 nl : Nat)
    (h1 : Plain k1) (h2 : Plain v1) (h3 : Plain k2) (h4 : Plain v2) (h5 : Plain k3) (h6 : Plain v3) (hd1 : x ≠ dx) (hd2 : l ≠ dx) (hd3 : t1 ≠ dx) (hd4 : t2 ≠ dx) (hd5 : t3 ≠ dx) :
    ClA w loose mean mg mb 4 112 [Value.ref x, Value.ref l] []
      [(x, instObj 220 dx), (dx, dictOf [] 0), (l, listOf #[Value.ref t1, Value.ref t2, Value.ref t3] nl), (t1, { cls := .type "tuple", data := .seq #[.str k1 a1, .str v1 b1] n1 }), (t2, { cls := .type "tuple", data := .seq #[.str k2 a2, .str v2 b2] n2 }), (t3, { cls := .type "tuple", data := .seq #[.str k3 a3, .str v3 b3] n3 })]
      (fun v T' => v = Value.none ∧ ∃ t n, T' = [(x, instObj 220 dx), (dx, dictOf [{ hash := PyData.keyHash w.params (Str.ofString "_headers"), key := .str (Str.ofString "_headers") t, val := .ref l }] n), (l, listOf #[Value.ref t1, Value.ref t2, Value.ref t3] nl), (t1, { cls := .type "tuple", data := .seq #[.str k1 a1, .str v1 b1] n1 }), (t2, { cls := .type "tuple", data := .seq #[.str k2 a2, .str v2 b2] n2 }), (t3, { cls := .type "tuple", data := .seq #[.str k3 a3, .str v3 b3] n3 })]) := by
  unfold ClA
  w_top off
  k_fill
  intro dp un gd cn cs a ccd cl outer A₀ base h₀ L m s Q B F X N T hk hdp hun hret
  (k_dflt (refine' Mine.enter_def [(Str.ofString "self", Value.ref x), (Str.ofString "headers", Value.ref l)] ?k1 ?k2 ?k3 ?k4 ?k5 ?kA ?kF ?kK ?k6 ?k7 ?k8 ?k9 ?kB ?_ ?c2 ?c3 ?c4 ?c5; (case kA => exact rfl); (case kF => exact rfl); (case kK => assumption); (case k1 => k_asm); (case k2 => k_asm); (case k3 => k_asm); (case k4 => k_asm); (case k5 => k_asm); (case k6 => k_is); (case k7 => k_is); (case k8 => ktr_room); (case k9 => first | exact BindsTo.of_eq rfl | exact binds_K (by k_in) rfl (by k_is) rfl rfl rfl); (case c5 => decide); (case kB => exact locs rfl); (case c2 => exact rfl); (case c3 => exact rfl); (case c4 => exact rfl); k_whole; intro g' L' h' tk' htk' hrest' FG' F' N' B' X' T'; (try dsimp only); (try k_fold)))
  (repeat' (first | (k_unfold; (try dsimp only)) | (k_end; wrow_close) | (first | ((with_reducible show wpAny _ _ (call _ _ _) _ _ _); (k_here; k_dflt ((show wpAny _ _ (call (Value.ref 119) [_, Value.str _ _] [(_, Value.bool _)]) _ _ _); (refine' Cl.use0 (c_conv _ _ _ _ ?clpx) ?clB ?clF ?clX ?clN ?clT ?clk ?clp ?cld ?clu ?_); (case clB => k_asm); (case clF => k_asm); (case clX => k_asm); (case clN => k_asm); (case clT => k_asm); (case clk => first | exact rfl | assumption); (case clp => trivial); (case cld => ktr_room); (case clu => ktr_units); (case clpx => (first | assumption | decide)); intro v9 h9 tk9 hv9 ht9 F9 N9; (first | subst hv9 | (obtain ⟨t9, e9⟩ := hv9; subst e9)); (try dsimp only); (try k_fold)))) | walk1) | (dsimp only; (first | ((with_reducible show wpAny _ _ (call _ _ _) _ _ _); (k_here; k_dflt ((show wpAny _ _ (call (Value.ref 119) [_, Value.str _ _] [(_, Value.bool _)]) _ _ _); (refine' Cl.use0 (c_conv _ _ _ _ ?clpx) ?clB ?clF ?clX ?clN ?clT ?clk ?clp ?cld ?clu ?_); (case clB => k_asm); (case clF => k_asm); (case clX => k_asm); (case clN => k_asm); (case clT => k_asm); (case clk => first | exact rfl | assumption); (case clp => trivial); (case cld => ktr_room); (case clu => ktr_units); (case clpx => (first | assumption | decide)); intro v9 h9 tk9 hv9 ht9 F9 N9; (first | subst hv9 | (obtain ⟨t9, e9⟩ := hv9; subst e9)); (try dsimp only); (try k_fold)))) | walk1)) | (leave1; walk_say "STEP leave1"; try dsimp only) | fail "no step"))
  exact hret _ _ _ _ (⟨rfl, _, _, rfl⟩) (by k_asm) (by first | k_asm | (refine' cb_drop ?cbN ?cbS; (case cbN => assumption); (case cbS => kcj_all))) (fun b o e hb => Fr.keep (h₀ := g') (L := L') (by assumption) b o (hrest' b o e hb)) (new_of (g := g') (L' := L') hrest' (by first | assumption | (refine' cb_drop ?cbN ?cbS; (case cbN => assumption); (case cbS => kcj_all))))
end
end Mine
end

section
open PySem PySem.Spec PySem.Calls PySem.W PyProof.Rows
namespace Mine
/-- the Headers' part of the ledger: three lines -/
abbrev Tab (w : World) (x dx l t1 t2 t3 : Addr) (ht : Tok) (hn nl : Nat) (k1 v1 k2 v2 k3 v3 : Str) (a1 b1 a2 b2 a3 b3 : Tok) (n1 n2 n3 : Nat) : List (Addr × Obj) :=
  [(x, instObj 220 dx), (dx, dictOf [{ hash := PyData.keyHash w.params (Str.ofString "_headers"), key := .str (Str.ofString "_headers") ht, val := .ref l }] hn), (l, listOf #[Value.ref t1, Value.ref t2, Value.ref t3] nl), (t1, { cls := .type "tuple", data := .seq #[.str k1 a1, .str v1 b1] n1 }), (t2, { cls := .type "tuple", data := .seq #[.str k2 a2, .str v2 b2] n2 }), (t3, { cls := .type "tuple", data := .seq #[.str k3 a3, .str v3 b3] n3 })]
section
variable {w : World} {loose : List Str} {mean : ExcName → Option Value} {mg mb : Str → Option Value}
set_option maxRecDepth 100000 in
set_option maxHeartbeats 4000000 in
theorem c_get (x dx l t1 t2 t3 : Addr) (ht : Tok) (hn nl : Nat) (k1 v1 k2 v2 k3 v3 : Str) (a1 b1 a2 b2 a3 b3 : Tok) (n1 n2 n3 : Nat) (nm : Str) (u : Tok)
    (hkn : Txt.lower k1 = Txt.lower nm) (hp : Plain (Txt.lower nm)) (hz : nm.length ≤ 100) (hz1 : k1.length ≤ 100) :
    Cl w loose mean mg mb 4 167 [Value.ref x, Value.str nm u] [] (Tab w x dx l t1 t2 t3 ht hn nl k1 v1 k2 v2 k3 v3 a1 b1 a2 b2 a3 b3 n1 n2 n3) (fun _ => True)
      (fun v T' => v = Value.str v1 b1 ∧ T' = Tab w x dx l t1 t2 t3 ht hn nl k1 v1 k2 v2 k3 v3 a1 b1 a2 b2 a3 b3 n1 n2 n3) := by
  unfold Tab
  refine Cl.of ?_
  w_top off
  k_fill
  intro dp un gd cn cs a ccd cl outer A₀ base h₀ L m s Q E B F X N T hk hpre hdp hun hret
  refine wpAny_call ?_
  (k_dflt (refine' Mine.enter_def [(Str.ofString "self", Value.ref x), (Str.ofString "name", Value.str nm u), (Str.ofString "default", Value.none)] ?k1 ?k2 ?k3 ?k4 ?k5 ?kA ?kF ?kK ?k6 ?k7 ?k8 ?k9 ?kB ?_ ?c2 ?c3 ?c4 ?c5; (case kA => exact rfl); (case kF => exact rfl); (case kK => assumption); (case k1 => k_asm); (case k2 => k_asm); (case k3 => k_asm); (case k4 => k_asm); (case k5 => k_asm); (case k6 => k_is); (case k7 => k_is); (case k8 => ktr_room); (case k9 => first | exact BindsTo.of_eq rfl | exact binds_K (by k_in) rfl (by k_is) rfl rfl rfl); (case c5 => decide); (case kB => exact locs rfl); (case c2 => exact rfl); (case c3 => exact rfl); (case c4 => exact rfl); k_whole; intro g' L' h' tk' htk' hrest' FG' F' N' B' X' T'; (try dsimp only); (try k_fold)))
  (repeat' (first | (k_unfold; (try dsimp only)) | (k_end; wrow_close) | (first | ((with_reducible show wpAny _ _ (call _ _ _) _ _ _); (k_here; k_dflt ((show wpAny _ _ (call (Value.ref 119) [_, Value.str _ _] [(_, Value.bool _)]) _ _ _); (refine' Cl.use0 (c_conv _ _ _ _ ?clpx) ?clB ?clF ?clX ?clN ?clT ?clk ?clp ?cld ?clu ?_); (case clB => k_asm); (case clF => k_asm); (case clX => k_asm); (case clN => k_asm); (case clT => k_asm); (case clk => first | exact rfl | assumption); (case clp => trivial); (case cld => ktr_room); (case clu => ktr_units); (case clpx => (first | assumption | decide)); intro v9 h9 tk9 hv9 ht9 F9 N9; (first | subst hv9 | (obtain ⟨t9, e9⟩ := hv9; subst e9)); (try dsimp only); (try k_fold)))) | ((with_reducible show wpAny _ _ (exec (Stmt.For _ _ _ _ _) _) _ _ _); (k_here; (rename Fr _ _ _ _ => lF'); (with_unfolding_all refine' For_turns lF' ?_; k_whole))) | walk1) | (dsimp only; (first | ((with_reducible show wpAny _ _ (call _ _ _) _ _ _); (k_here; k_dflt ((show wpAny _ _ (call (Value.ref 119) [_, Value.str _ _] [(_, Value.bool _)]) _ _ _); (refine' Cl.use0 (c_conv _ _ _ _ ?clpx) ?clB ?clF ?clX ?clN ?clT ?clk ?clp ?cld ?clu ?_); (case clB => k_asm); (case clF => k_asm); (case clX => k_asm); (case clN => k_asm); (case clT => k_asm); (case clk => first | exact rfl | assumption); (case clp => trivial); (case cld => ktr_room); (case clu => ktr_units); (case clpx => (first | assumption | decide)); intro v9 h9 tk9 hv9 ht9 F9 N9; (first | subst hv9 | (obtain ⟨t9, e9⟩ := hv9; subst e9)); (try dsimp only); (try k_fold)))) | ((with_reducible show wpAny _ _ (exec (Stmt.For _ _ _ _ _) _) _ _ _); (k_here; (rename Fr _ _ _ _ => lF'); (with_unfolding_all refine' For_turns lF' ?_; k_whole))) | walk1)) | (leave1; walk_say "STEP leave1"; try dsimp only) | fail "no step"))
  · exact hret _ _ _ _ (⟨rfl, rfl⟩) (by k_asm) (by first | k_asm | (refine' cb_drop ?cbN ?cbS; (case cbN => assumption); (case cbS => kcj_all))) (fun b o e hb => Fr.keep (h₀ := g') (L := L') (by assumption) b o (hrest' b o e hb)) (new_of (g := g') (L' := L') hrest' (by first | assumption | (refine' cb_drop ?cbN ?cbS; (case cbN => assumption); (case cbS => kcj_all))))
  · exact beq_no hkn (by assumption)
end
end Mine
end

section
open PySem PySem.Spec PySem.Calls PySem.W PyProof.Rows
namespace Mine
section
variable {w : World} {loose : List Str} {mean : ExcName → Option Value} {mg mb : Str → Option Value}
set_option maxRecDepth 100000 in
set_option maxHeartbeats 4000000 in
theorem c_getitem (x dx l t1 t2 t3 : Addr) (ht : Tok) (hn nl : Nat) (k1 v1 k2 v2 k3 v3 : Str) (a1 b1 a2 b2 a3 b3 : Tok) (n1 n2 n3 : Nat) (nm : Str) (u : Tok)
    (hkn : Txt.lower k1 = Txt.lower nm) (hp : Plain (Txt.lower nm)) (hz : nm.length ≤ 100) (hz1 : k1.length ≤ 100) :
    Cl w loose mean mg mb 8 59 [Value.ref x, Value.str nm u] [] (Tab w x dx l t1 t2 t3 ht hn nl k1 v1 k2 v2 k3 v3 a1 b1 a2 b2 a3 b3 n1 n2 n3) (fun _ => True)
      (fun v T' => v = Value.str v1 b1 ∧ T' = Tab w x dx l t1 t2 t3 ht hn nl k1 v1 k2 v2 k3 v3 a1 b1 a2 b2 a3 b3 n1 n2 n3) := by
  unfold Tab
  refine Cl.of ?_
  w_top off
  k_fill
  intro dp un gd cn cs a ccd cl outer A₀ base h₀ L m s Q E B F X N T hk hpre hdp hun hret
  refine wpAny_call ?_
  (k_dflt (refine' Mine.enter_def [(Str.ofString "a", Value.ref x), (Str.ofString "b", Value.str nm u)] ?k1 ?k2 ?k3 ?k4 ?k5 ?kA ?kF ?kK ?k6 ?k7 ?k8 ?k9 ?kB ?_ ?c2 ?c3 ?c4 ?c5; (case kA => exact rfl); (case kF => exact rfl); (case kK => assumption); (case k1 => k_asm); (case k2 => k_asm); (case k3 => k_asm); (case k4 => k_asm); (case k5 => k_asm); (case k6 => k_is); (case k7 => k_is); (case k8 => ktr_room); (case k9 => first | exact BindsTo.of_eq rfl | exact binds_K (by k_in) rfl (by k_is) rfl rfl rfl); (case c5 => decide); (case kB => exact locs rfl); (case c2 => exact rfl); (case c3 => exact rfl); (case c4 => exact rfl); k_whole; intro g' L' h' tk' htk' hrest' FG' F' N' B' X' T'; (try dsimp only); (try k_fold)))
  (repeat' (first | (k_unfold; (try dsimp only)) | ((fail_if_success (with_reducible show wpAny _ _ (call (Value.ref 167) _ _) _ _ _)); (first | ((with_reducible show wpAny _ _ (call (Value.ref _) _ _) _ _ _); (k_here; (refine wpAny_call ?_); k_dflt (first | (refine' code_def ?k1 ?k2 ?k3 ?k4 ?k5 ?kA ?kF ?kK ?k6 ?k7 ?k8 ?k9 ?kB ?_ ?c2 ?c3 ?c4 ?c5; (case kA => exact rfl); (case kF => exact rfl); (case kK => first | exact rfl | assumption); (case k1 => k_asm); (case k2 => k_asm); (case k3 => k_asm); (case k4 => k_asm); (case k5 => k_asm); (case k6 => k_is); (case k7 => k_is); (case k8 => ktr_room); (case k9 => first | exact BindsTo.of_eq rfl | exact binds_K (by k_in) rfl (by k_is) rfl rfl rfl); (case c5 => decide); (case kB => exact locs rfl); (case c2 => exact rfl); (case c3 => exact rfl); (case c4 => exact rfl); k_whole; intro g9 L9 h9 FG9 F9 N9 B9 X9 T9; (try dsimp only); (try k_fold)) | (refine' code_defC ?k1 ?k2 ?k3 ?k4 ?k5 ?kA ?kF ?kK ?k6 ?k7 ?k8 ?k9 ?kB ?kD ?_ ?c2 ?c3 ?c4; (case kA => exact rfl); (case kF => exact rfl); (case kK => first | exact rfl | assumption); (case k1 => k_asm); (case k2 => k_asm); (case k3 => k_asm); (case k4 => k_asm); (case k5 => k_asm); (case k6 => k_is); (case k7 => k_is); (case k8 => ktr_room); (case k9 => first | exact BindsTo.of_eq rfl | exact binds_K (by k_in) rfl (by k_is) rfl rfl rfl); (case kB => exact rfl); (case kD => decide +kernel); (case c2 => exact rfl); (case c3 => exact rfl); (case c4 => exact rfl); k_whole; intro g9 L9 h9 tk9 cells9 FG9 F9 N9 Y9 B9 X9 T9 l9; (try k_lt l9); k_cells Y9; (try dsimp only [List.cons_append, List.nil_append] at N9); (try dsimp only); (try k_fold))))) | walk1))))
  (refine' Cl.use [] (c_get x dx l t1 t2 t3 ht hn nl k1 v1 k2 v2 k3 v3 a1 b1 a2 b2 a3 b3 n1 n2 n3 nm u hkn hp hz hz1) ?clB ?clF ?clX ?clN ?clhT ?clhR ?clho ?clT ?clk ?clp ?cld ?clu ?_; (case clB => k_asm); (case clF => k_asm); (case clX => k_asm); (case clN => k_asm); (case clhT => kcj_all); (case clhR => kcj_all); (case clho => exact (fun _ hp => nomatch hp)); (case clT => k_asm); (case clk => first | exact rfl | assumption); (case clp => trivial); (case cld => ktr_room); (case clu => ktr_units))
  rintro v9 T9 h9 tk9 ⟨rfl, rfl⟩ ht9 F9 N9 _
  (dsimp only [Tab, List.cons_append, List.nil_append] at N9)
  (try dsimp only)
  (repeat' (first | (k_unfold; (try dsimp only)) | (k_end; wrow_close) | (first | ((with_reducible show wpAny _ _ (call (Value.ref _) _ _) _ _ _); (k_here; (refine wpAny_call ?_); k_dflt (first | (refine' code_def ?k1 ?k2 ?k3 ?k4 ?k5 ?kA ?kF ?kK ?k6 ?k7 ?k8 ?k9 ?kB ?_ ?c2 ?c3 ?c4 ?c5; (case kA => exact rfl); (case kF => exact rfl); (case kK => first | exact rfl | assumption); (case k1 => k_asm); (case k2 => k_asm); (case k3 => k_asm); (case k4 => k_asm); (case k5 => k_asm); (case k6 => k_is); (case k7 => k_is); (case k8 => ktr_room); (case k9 => first | exact BindsTo.of_eq rfl | exact binds_K (by k_in) rfl (by k_is) rfl rfl rfl); (case c5 => decide); (case kB => exact locs rfl); (case c2 => exact rfl); (case c3 => exact rfl); (case c4 => exact rfl); k_whole; intro g9 L9 h9 FG9 F9 N9 B9 X9 T9; (try dsimp only); (try k_fold)) | (refine' code_defC ?k1 ?k2 ?k3 ?k4 ?k5 ?kA ?kF ?kK ?k6 ?k7 ?k8 ?k9 ?kB ?kD ?_ ?c2 ?c3 ?c4; (case kA => exact rfl); (case kF => exact rfl); (case kK => first | exact rfl | assumption); (case k1 => k_asm); (case k2 => k_asm); (case k3 => k_asm); (case k4 => k_asm); (case k5 => k_asm); (case k6 => k_is); (case k7 => k_is); (case k8 => ktr_room); (case k9 => first | exact BindsTo.of_eq rfl | exact binds_K (by k_in) rfl (by k_is) rfl rfl rfl); (case kB => exact rfl); (case kD => decide +kernel); (case c2 => exact rfl); (case c3 => exact rfl); (case c4 => exact rfl); k_whole; intro g9 L9 h9 tk9 cells9 FG9 F9 N9 Y9 B9 X9 T9 l9; (try k_lt l9); k_cells Y9; (try dsimp only [List.cons_append, List.nil_append] at N9); (try dsimp only); (try k_fold))))) | walk1) | (dsimp only; (first | ((with_reducible show wpAny _ _ (call (Value.ref _) _ _) _ _ _); (k_here; (refine wpAny_call ?_); k_dflt (first | (refine' code_def ?k1 ?k2 ?k3 ?k4 ?k5 ?kA ?kF ?kK ?k6 ?k7 ?k8 ?k9 ?kB ?_ ?c2 ?c3 ?c4 ?c5; (case kA => exact rfl); (case kF => exact rfl); (case kK => first | exact rfl | assumption); (case k1 => k_asm); (case k2 => k_asm); (case k3 => k_asm); (case k4 => k_asm); (case k5 => k_asm); (case k6 => k_is); (case k7 => k_is); (case k8 => ktr_room); (case k9 => first | exact BindsTo.of_eq rfl | exact binds_K (by k_in) rfl (by k_is) rfl rfl rfl); (case c5 => decide); (case kB => exact locs rfl); (case c2 => exact rfl); (case c3 => exact rfl); (case c4 => exact rfl); k_whole; intro g9 L9 h9 FG9 F9 N9 B9 X9 T9; (try dsimp only); (try k_fold)) | (refine' code_defC ?k1 ?k2 ?k3 ?k4 ?k5 ?kA ?kF ?kK ?k6 ?k7 ?k8 ?k9 ?kB ?kD ?_ ?c2 ?c3 ?c4; (case kA => exact rfl); (case kF => exact rfl); (case kK => first | exact rfl | assumption); (case k1 => k_asm); (case k2 => k_asm); (case k3 => k_asm); (case k4 => k_asm); (case k5 => k_asm); (case k6 => k_is); (case k7 => k_is); (case k8 => ktr_room); (case k9 => first | exact BindsTo.of_eq rfl | exact binds_K (by k_in) rfl (by k_is) rfl rfl rfl); (case kB => exact rfl); (case kD => decide +kernel); (case c2 => exact rfl); (case c3 => exact rfl); (case c4 => exact rfl); k_whole; intro g9 L9 h9 tk9 cells9 FG9 F9 N9 Y9 B9 X9 T9 l9; (try k_lt l9); k_cells Y9; (try dsimp only [List.cons_append, List.nil_append] at N9); (try dsimp only); (try k_fold))))) | walk1)) | (leave1; walk_say "STEP leave1"; try dsimp only) | fail "no step"))
  exact hret _ _ _ _ (⟨rfl, rfl⟩) (by k_asm) (by first | k_asm | (refine' cb_drop ?cbN ?cbS; (case cbN => assumption); (case cbS => kcj_all))) (fun b o e hb => Fr.keep (h₀ := g') (L := L') (by assumption) b o (hrest' b o e hb)) (new_of (g := g') (L' := L') hrest' (by first | assumption | (refine' cb_drop ?cbN ?cbS; (case cbN => assumption); (case cbS => kcj_all))))
end
end Mine
end

section
open PySem PySem.Spec PySem.Calls PySem.W PyProof.Rows
namespace Mine
section
variable {prog : Program} {w : World} {A : Around} {E : Value → Shared → Prop} {s : Shared} {h₀ g : Heap} {L l D : Addr} {m : Str → Option Value} {news news' : List (Addr × Obj)} {its its2 : Array Value} {n n2 : Nat}
/-- `l[:] = D`: the list's objects become those of D -/
theorem setSlice_all {Q : Unit → Shared → Prop} (F : Fr h₀ L g m) (N : News h₀ L g news) (hg : s.heap = g.push { cls := .type "slice", data := .fields #[.none, .none, .none] })
    (hD : (D, listOf its2 n2) ∈ news) (hne : l ≠ D) (U : Upd l (listOf its n) (listOf its2 (n + 1)) news news') (hsz : its2.size ≠ its.size) (hz : its.size ≤ 1000) (hz2 : its2.size ≤ 1000)
    (h : ∀ h', Fr h₀ L h' m → News h₀ L h' news' → Q () { s with heap := h' }) : wpAny (model prog w) A (setItem (.ref l) (.ref g.objs.size) (.ref D)) Q E s := by
  obtain ⟨pre, post, rfl, rfl, a, c⟩ := U.split
  have F' : Fr h₀ L s.heap m := hg ▸ F.push _
  have N' : News h₀ L s.heap (pre ++ (l, listOf its n) :: post) := hg ▸ News.pushKeep N _
  have z := N' (l, listOf its n) (List.mem_append.mpr (.inr (.head _)))
  have zD := N' (D, listOf its2 n2) hD
  obtain ⟨os, hos, hcs, hds⟩ : s.heap.IsSliceOf g.objs.size .none .none .none := hg ▸ Heap.IsSliceOf.new ..
  have hl : s.heap.IsList l its := PySem.IsL.isList (n := n) z.1
  have hTs : s.TypeIs (.ref g.objs.size) "slice" := ⟨os, hos, hcs⟩
  have hfin : Q () { s with heap := s.heap.update l (Obj.mapSeq fun xs => xs.extract 0 0 ++ its2 ++ xs.extract its.size xs.size) } := by
    refine h _ (F'.change (Heap.SameBut.update ..) z.2.1 z.2.2) (news_set N' a c (Heap.SameBut.update ..) ?_)
    have q := PySem.IsL.update z.1 (fun xs : Array Value => xs.extract 0 0 ++ its2 ++ xs.extract its.size xs.size)
    have e : its.extract 0 0 ++ its2 ++ its.extract its.size its.size = its2 := by simp
    rw [e, if_neg (by simpa using hsz)] at q
    exact q
  unfold setItem
  try with_reducible refine wpAny_holding ?_
  first | refine wpAny_bind (wpAny_pure ?_) | skip
  refine wpAny_bind (wpAny_sequenceKey hl.typeIs (by decide) ?_)
  refine wpAny_bind (wpAny_callSpecial?_slot (name := Str.ofString "__setitem__") hl.typeIs slot_list_setitem
    (wpAny_call_entry slot_list_setitem hl.typeIs entry_list_setitem ?_ (args_list_setitem _ _ _)))
  show wpAny _ _ (Builtin.List.listSubscript? (.ref g.objs.size) >>= _) _ _ s
  refine wpAny_bind ?_
  unfold Builtin.List.listSubscript?
  refine wpAny_bind (wpAny_specialOf hTs slice_no_index ?_)
  simp only [Option.isNone_none, if_true]
  refine wpAny_pure ?_
  show wpAny _ _ (typeOf (.ref g.objs.size) >>= _) _ _ s
  refine wpAny_bind (wpAny_typeOf hTs ?_)
  rw [if_neg (by decide)]
  rw [listSliceParts_eq]
  refine wpAny_bind (wpAny_bind (wpAny_field hos hds (x := .none) rfl (wpAny_bind (wpAny_listPart .none ?_))))
  rw [if_neg (show ¬ ((rawPart none == rawInt 0) = true) from Bool.false_ne_true)]
  refine wpAny_bind (wpAny_field hos hds (x := .none) rfl (wpAny_bind (wpAny_listPart .none ?_)))
  refine wpAny_bind (wpAny_field hos hds (x := .none) rfl (wpAny_bind (wpAny_listPart .none (wpAny_pure ?_))))
  rw [show Builtin.List.listSameRef (.ref l) (.ref D) = false from beq_false_of_ne hne]
  simp only [Bool.false_eq_true, if_false]
  refine wpAny_bind (m := Builtin.List.listAllItems (.ref D) _) ?_
  · unfold Builtin.List.listAllItems
    refine wpAny_bind (wpAny_typeOf (PySem.IsL.isList (n := n2) zD.1).typeIs ?_)
    rw [if_pos (by decide)]
    refine wpAny_bind (wpAny_seqItems zD.1 rfl (wpAny_pure ?_))
    refine wpAny_bind (PySem.wpAny_listItems z.1 rfl ?_)
    refine wpAny_bind (wpAny_of_eq (sliceIndices_raw none none none its.size (by simp)) ?_)
    have hb : sliceBounds none none none its.size = (0, (its.size : Int), 1) := by simp [sliceBounds]
    rw [hb]
    dsimp only
    rw [if_pos (show ((1 : Int) == 1) = true from rfl)]
    refine wpAny_bind (wpAny_rule ?_)
    rw [if_neg (show ¬ (Builtin.List.listTooLong (its.size + its2.size) = true) from by
      unfold Builtin.List.listTooLong; rw [sizeLine_eq]; simp; omega)]
    have em : (max (0 : Int) (its.size : Int)).toNat = its.size := by omega
    rw [em]
    refine wpAny_bind (listUpdate_at z.1 rfl ?_ (by rw [sizeLine_eq]; omega) (by rw [sizeLine_eq]; simp; omega))
    exact wpAny_bind (wpAny_letGo (wpAny_bind (wpAny_pure (wpAny_pure ⟨.none, rfl, wpAny_pure hfin⟩))))
end
end Mine
end

section
open PySem PySem.Spec PySem.Calls PySem.W PyProof.Rows
namespace Mine
theorem news_ne {h₀ h : Heap} {L a b : Addr} {news : List (Addr × Obj)} {o o' : Obj} (N : News h₀ L h news) (hp : (a, o) ∈ news) (hq : (b, o') ∈ news) (h : o ≠ o') : @Ne Nat a b := News.twoPlaces N hp hq h
theorem Tab.apart {w : World} {h₀ h : Heap} {L x dx l t1 t2 t3 : Addr} {ht : Tok} {hn nl : Nat} {k1 v1 k2 v2 k3 v3 : Str} {a1 b1 a2 b2 a3 b3 : Tok} {n1 n2 n3 : Nat} (N : News h₀ L h (Tab w x dx l t1 t2 t3 ht hn nl k1 v1 k2 v2 k3 v3 a1 b1 a2 b2 a3 b3 n1 n2 n3)) :
    @Ne Nat x l ∧ @Ne Nat dx l ∧ @Ne Nat t1 l ∧ @Ne Nat t2 l ∧ @Ne Nat t3 l :=
  ⟨news_ne N (by unfold Tab; k_mem) (by unfold Tab; k_mem) (by intro q; injection q with q; first | exact absurd q (by decide) | (injection q with q; exact absurd q (by decide)) | cases q), news_ne N (by unfold Tab; k_mem) (by unfold Tab; k_mem) (by intro q; injection q with q; first | exact absurd q (by decide) | (injection q with q; exact absurd q (by decide)) | cases q), news_ne N (by unfold Tab; k_mem) (by unfold Tab; k_mem) (by intro q; injection q with q; first | exact absurd q (by decide) | (injection q with q; exact absurd q (by decide)) | cases q), news_ne N (by unfold Tab; k_mem) (by unfold Tab; k_mem) (by intro q; injection q with q; first | exact absurd q (by decide) | (injection q with q; exact absurd q (by decide)) | cases q), news_ne N (by unfold Tab; k_mem) (by unfold Tab; k_mem) (by intro q; injection q with q; first | exact absurd q (by decide) | (injection q with q; exact absurd q (by decide)) | cases q)⟩
section
variable {M : Model} {A : Around} {E : Value → Shared → Prop} {s : Shared} {K : Frag} {x C L f : Addr} {h₀ : Heap} {m : Str → Option Value} {ox : Obj} {od : Option Obj} {i : Value}
theorem delItem_own {Q : Unit → Shared → Prop} (F : Fr h₀ L s.heap m) (X₀ : K.In h₀) (I : InstAt s.heap x ox C od) (hq : noSeq K C = true) (hs : findIn K (.ref C) "__delitem__" = some (some (.ref f))) (hf : isFn K (.ref f) = true)
    (h : wpAny M A (call (.ref f) [.ref x, i]) (fun _ s' => Q () s') E s) : wpAny M A (delItem (.ref x) i) Q E s := by
  have X := X₀.keeps F.keep
  unfold delItem sequenceKey
  refine wpAny_holding (wpAny_bind (wpAny_bind (I.type.here ?_)))
  refine wpAny_bind ((anyM_none X hq).here ?_)
  rw [if_pos (show (!false) = true from rfl)]
  exact wpAny_pure (wpAny_bind (special_fn X I hs (beq_iff_eq.mp hf) (wpAny_mono h (fun _ _ z => wpAny_pure z) fun _ _ z => z)))
end
section
variable {prog : Program} {w : World} {A : Around} {E : Value → Shared → Prop} {s : Shared} {x y : Str} {t u : Tok} {Q : Value → Shared → Prop}
theorem ne_same (e : x = y) (h : Q (.bool false) s) : wpAny (model prog w) A (compareOp .NotEq (.str x t) (.str y u)) Q E s :=
  PyProof.Rows.ne_str (by rw [e, bne_self_eq_false]; exact h)
theorem ne_other (e : x ≠ y) (h : Q (.bool true) s) : wpAny (model prog w) A (compareOp .NotEq (.str x t) (.str y u)) Q E s :=
  PyProof.Rows.ne_str (by rw [bne_iff_ne.mpr e]; exact h)
end
section
variable {w : World} {loose : List Str} {mean : ExcName → Option Value} {mg mb : Str → Option Value}
set_option maxRecDepth 100000 in
set_option maxHeartbeats 4000000 in
theorem c_setitem (x dx l t1 t2 t3 : Addr) (ht : Tok) (hn nl : Nat) (k1 v1 k2 v2 k3 v3 : Str) (a1 b1 a2 b2 a3 b3 : Tok) (n1 n2 n3 : Nat) (nm val : Str) (u uv : Tok)
    (hk1 : Txt.lower k1 = Txt.lower nm) (hk2 : Txt.lower k2 ≠ Txt.lower nm) (hk3 : Txt.lower k3 ≠ Txt.lower nm) (hp : Plain (Txt.lower nm)) (hpn : Plain nm) (hpv : Plain val) (hz : nm.length ≤ 100) (hz1 : k1.length ≤ 100) (hz2 : k2.length ≤ 100) (hz3 : k3.length ≤ 100) :
    Cl w loose mean mg mb 8 73 [Value.ref x, Value.str nm u, Value.str val uv] [] (Tab w x dx l t1 t2 t3 ht hn nl k1 v1 k2 v2 k3 v3 a1 b1 a2 b2 a3 b3 n1 n2 n3) (fun _ => True)
      (fun v T' => v = Value.none ∧ ∃ t4 nl' n4, T' = Tab w x dx l t2 t3 t4 ht hn nl' k2 v2 k3 v3 nm val a2 b2 a3 b3 u uv n2 n3 n4) := by
  unfold Tab
  refine Cl.of ?_
  w_top off
  k_fill
  intro dp un gd cn cs a ccd cl outer A₀ base h₀ L m s Q E B F X N T hk hpre hdp hun hret
  have ap := Tab.apart N
  refine wpAny_call ?_
  (k_dflt (refine' Mine.enter_def [(Str.ofString "a", Value.ref x), (Str.ofString "b", Value.str nm u), (Str.ofString "c", Value.str val uv)] ?k1 ?k2 ?k3 ?k4 ?k5 ?kA ?kF ?kK ?k6 ?k7 ?k8 ?k9 ?kB ?_ ?c2 ?c3 ?c4 ?c5; (case kA => exact rfl); (case kF => exact rfl); (case kK => assumption); (case k1 => k_asm); (case k2 => k_asm); (case k3 => k_asm); (case k4 => k_asm); (case k5 => k_asm); (case k6 => k_is); (case k7 => k_is); (case k8 => ktr_room); (case k9 => first | exact BindsTo.of_eq rfl | exact binds_K (by k_in) rfl (by k_is) rfl rfl rfl); (case c5 => decide); (case kB => exact locs rfl); (case c2 => exact rfl); (case c3 => exact rfl); (case c4 => exact rfl); k_whole; intro g' L' h' tk' htk' hrest' FG' F' N' B' X' T'; (try dsimp only); (try k_fold)))
  (repeat' (first | (k_unfold; (try dsimp only)) | (k_end; wrow_close) | (first | ((with_reducible show wpAny _ _ (call _ _ _) _ _ _); (k_here; k_dflt ((show wpAny _ _ (call (Value.ref 119) [_, Value.str _ _] [(_, Value.bool _)]) _ _ _); (refine' Cl.use0 (c_conv _ _ _ _ ?clpx) ?clB ?clF ?clX ?clN ?clT ?clk ?clp ?cld ?clu ?_); (case clB => k_asm); (case clF => k_asm); (case clX => k_asm); (case clN => k_asm); (case clT => k_asm); (case clk => first | exact rfl | assumption); (case clp => trivial); (case cld => ktr_room); (case clu => ktr_units); (case clpx => (first | assumption | decide)); intro v9 h9 tk9 hv9 ht9 F9 N9; (first | subst hv9 | (obtain ⟨t9, e9⟩ := hv9; subst e9)); (try dsimp only); (try k_fold)))) | ((with_reducible show wpAny _ _ (call (Value.ref _) _ _) _ _ _); (k_here; (refine wpAny_call ?_); k_dflt (first | (refine' code_def ?k1 ?k2 ?k3 ?k4 ?k5 ?kA ?kF ?kK ?k6 ?k7 ?k8 ?k9 ?kB ?_ ?c2 ?c3 ?c4 ?c5; (case kA => exact rfl); (case kF => exact rfl); (case kK => first | exact rfl | assumption); (case k1 => k_asm); (case k2 => k_asm); (case k3 => k_asm); (case k4 => k_asm); (case k5 => k_asm); (case k6 => k_is); (case k7 => k_is); (case k8 => ktr_room); (case k9 => first | exact BindsTo.of_eq rfl | exact binds_K (by k_in) rfl (by k_is) rfl rfl rfl); (case c5 => decide); (case kB => exact locs rfl); (case c2 => exact rfl); (case c3 => exact rfl); (case c4 => exact rfl); k_whole; intro g9 L9 h9 FG9 F9 N9 B9 X9 T9; (try dsimp only); (try k_fold)) | (refine' code_defC ?k1 ?k2 ?k3 ?k4 ?k5 ?kA ?kF ?kK ?k6 ?k7 ?k8 ?k9 ?kB ?kD ?_ ?c2 ?c3 ?c4; (case kA => exact rfl); (case kF => exact rfl); (case kK => first | exact rfl | assumption); (case k1 => k_asm); (case k2 => k_asm); (case k3 => k_asm); (case k4 => k_asm); (case k5 => k_asm); (case k6 => k_is); (case k7 => k_is); (case k8 => ktr_room); (case k9 => first | exact BindsTo.of_eq rfl | exact binds_K (by k_in) rfl (by k_is) rfl rfl rfl); (case kB => exact rfl); (case kD => decide +kernel); (case c2 => exact rfl); (case c3 => exact rfl); (case c4 => exact rfl); k_whole; intro g9 L9 h9 tk9 cells9 FG9 F9 N9 Y9 B9 X9 T9 l9; (try k_lt l9); k_cells Y9; (try simp only [List.cons_append, List.nil_append] at N9); (try dsimp only); (try k_fold))))) | ((with_reducible show wpAny _ _ (compareOp CmpOp.NotEq (Value.str _ _) (Value.str _ _)) _ _ _); (first | (refine ne_same (by assumption) ?_) | (refine ne_other (by assumption) ?_))) | ((with_reducible show LCg.CompEnd _ _ _ _ _ _ _ _ _ _ _ _ _ _); (refine LCg.CompEnd.intro (by assumption) (by assumption) _ (fun _ hp => hp) (by (simp only [LCg.Off3, and_true]; assumption)) (by lcg_src) ?_)) | (k_here; (with_reducible show wpAny _ _ (delItem (Value.ref _) _) _ _ _); k_dflt (refine' delItem_own ?F ?X ?I ?hQ ?hS ?hF ?_; (case F => k_asm); (case X => k_asm); (case I => k_inst); (case hS => k_is); (case hF => k_is); (case hQ => k_is); k_whole)) | (k_here; (with_reducible show wpAny _ _ (setItem (Value.ref _) (Value.ref _) (Value.ref _)) _ _ _); (try dsimp only); (repeat (rename ((_ ∧ _ ∧ _) ∧ _) => zz; clear zz)); (repeat (rename (_ ≠ _ ∧ _ ≠ _ ∧ _ ≠ _) => zz; clear zz)); k_dflt (refine' setSlice_all ?F ?N ?hg ?hD ?hne ?U ?hs ?hz ?hzz ?_; (case F => k_asm); (case N => k_asm); (case hg => exact rfl); (case hD => k_mem); (case U => k_upd); (case hne => k_ne); (case hs => simp); (case hz => simp); (case hzz => simp); k_whole); intro h' F' N'; (try dsimp only at N')) | walk1) | (dsimp only; (first | ((with_reducible show wpAny _ _ (call _ _ _) _ _ _); (k_here; k_dflt ((show wpAny _ _ (call (Value.ref 119) [_, Value.str _ _] [(_, Value.bool _)]) _ _ _); (refine' Cl.use0 (c_conv _ _ _ _ ?clpx) ?clB ?clF ?clX ?clN ?clT ?clk ?clp ?cld ?clu ?_); (case clB => k_asm); (case clF => k_asm); (case clX => k_asm); (case clN => k_asm); (case clT => k_asm); (case clk => first | exact rfl | assumption); (case clp => trivial); (case cld => ktr_room); (case clu => ktr_units); (case clpx => (first | assumption | decide)); intro v9 h9 tk9 hv9 ht9 F9 N9; (first | subst hv9 | (obtain ⟨t9, e9⟩ := hv9; subst e9)); (try dsimp only); (try k_fold)))) | ((with_reducible show wpAny _ _ (call (Value.ref _) _ _) _ _ _); (k_here; (refine wpAny_call ?_); k_dflt (first | (refine' code_def ?k1 ?k2 ?k3 ?k4 ?k5 ?kA ?kF ?kK ?k6 ?k7 ?k8 ?k9 ?kB ?_ ?c2 ?c3 ?c4 ?c5; (case kA => exact rfl); (case kF => exact rfl); (case kK => first | exact rfl | assumption); (case k1 => k_asm); (case k2 => k_asm); (case k3 => k_asm); (case k4 => k_asm); (case k5 => k_asm); (case k6 => k_is); (case k7 => k_is); (case k8 => ktr_room); (case k9 => first | exact BindsTo.of_eq rfl | exact binds_K (by k_in) rfl (by k_is) rfl rfl rfl); (case c5 => decide); (case kB => exact locs rfl); (case c2 => exact rfl); (case c3 => exact rfl); (case c4 => exact rfl); k_whole; intro g9 L9 h9 FG9 F9 N9 B9 X9 T9; (try dsimp only); (try k_fold)) | (refine' code_defC ?k1 ?k2 ?k3 ?k4 ?k5 ?kA ?kF ?kK ?k6 ?k7 ?k8 ?k9 ?kB ?kD ?_ ?c2 ?c3 ?c4; (case kA => exact rfl); (case kF => exact rfl); (case kK => first | exact rfl | assumption); (case k1 => k_asm); (case k2 => k_asm); (case k3 => k_asm); (case k4 => k_asm); (case k5 => k_asm); (case k6 => k_is); (case k7 => k_is); (case k8 => ktr_room); (case k9 => first | exact BindsTo.of_eq rfl | exact binds_K (by k_in) rfl (by k_is) rfl rfl rfl); (case kB => exact rfl); (case kD => decide +kernel); (case c2 => exact rfl); (case c3 => exact rfl); (case c4 => exact rfl); k_whole; intro g9 L9 h9 tk9 cells9 FG9 F9 N9 Y9 B9 X9 T9 l9; (try k_lt l9); k_cells Y9; (try simp only [List.cons_append, List.nil_append] at N9); (try dsimp only); (try k_fold))))) | ((with_reducible show wpAny _ _ (compareOp CmpOp.NotEq (Value.str _ _) (Value.str _ _)) _ _ _); (first | (refine ne_same (by assumption) ?_) | (refine ne_other (by assumption) ?_))) | ((with_reducible show LCg.CompEnd _ _ _ _ _ _ _ _ _ _ _ _ _ _); (refine LCg.CompEnd.intro (by assumption) (by assumption) _ (fun _ hp => hp) (by (simp only [LCg.Off3, and_true]; assumption)) (by lcg_src) ?_)) | (k_here; (with_reducible show wpAny _ _ (delItem (Value.ref _) _) _ _ _); k_dflt (refine' delItem_own ?F ?X ?I ?hQ ?hS ?hF ?_; (case F => k_asm); (case X => k_asm); (case I => k_inst); (case hS => k_is); (case hF => k_is); (case hQ => k_is); k_whole)) | (k_here; (with_reducible show wpAny _ _ (setItem (Value.ref _) (Value.ref _) (Value.ref _)) _ _ _); (try dsimp only); (repeat (rename ((_ ∧ _ ∧ _) ∧ _) => zz; clear zz)); (repeat (rename (_ ≠ _ ∧ _ ≠ _ ∧ _ ≠ _) => zz; clear zz)); k_dflt (refine' setSlice_all ?F ?N ?hg ?hD ?hne ?U ?hs ?hz ?hzz ?_; (case F => k_asm); (case N => k_asm); (case hg => exact rfl); (case hD => k_mem); (case U => k_upd); (case hne => k_ne); (case hs => simp); (case hz => simp); (case hzz => simp); k_whole); intro h' F' N'; (try dsimp only at N')) | walk1)) | (leave1; walk_say "STEP leave1"; try dsimp only) | fail "no step"))
  exact hret _ _ _ _ (⟨rfl, _, _, _, rfl⟩) (by k_asm) (by first | k_asm | (refine' cb_drop ?cbN ?cbS; (case cbN => assumption); (case cbS => kcj_all))) (fun b o e hb => Fr.keep (h₀ := g') (L := L') (by assumption) b o (hrest' b o e hb)) (new_of (g := g') (L' := L') hrest' (by first | assumption | (refine' cb_drop ?cbN ?cbS; (case cbN => assumption); (case cbS => kcj_all))))
end
end Mine
end

section
open PySem PySem.Spec PySem.Calls PySem.W PyProof.Rows
namespace Mine
section
variable {w : World} {loose : List Str} {mean : ExcName → Option Value} {mg mb : Str → Option Value}
set_option maxRecDepth 100000 in
set_option maxHeartbeats 4000000 in
theorem c_items (x dx l t1 t2 t3 : Addr) (ht : Tok) (hn nl : Nat) (k1 v1 k2 v2 k3 v3 : Str) (a1 b1 a2 b2 a3 b3 : Tok) (n1 n2 n3 : Nat) :
    Cl w loose mean mg mb 2 184 [Value.ref x] [] (Tab w x dx l t1 t2 t3 ht hn nl k1 v1 k2 v2 k3 v3 a1 b1 a2 b2 a3 b3 n1 n2 n3) (fun _ => True)
      (fun v T' => ∃ l2 c, v = Value.ref l2 ∧ T' = (l2, listOf #[Value.ref t1, Value.ref t2, Value.ref t3] c) :: Tab w x dx l t1 t2 t3 ht hn nl k1 v1 k2 v2 k3 v3 a1 b1 a2 b2 a3 b3 n1 n2 n3) := by
  unfold Tab
  refine Cl.of ?_
  w_top off
  k_fill
  intro dp un gd cn cs a ccd cl outer A₀ base h₀ L m s Q E B F X N T hk hpre hdp hun hret
  refine wpAny_call ?_
  (k_dflt (refine' Mine.enter_def [(Str.ofString "self", Value.ref x)] ?k1 ?k2 ?k3 ?k4 ?k5 ?kA ?kF ?kK ?k6 ?k7 ?k8 ?k9 ?kB ?_ ?c2 ?c3 ?c4 ?c5; (case kA => exact rfl); (case kF => exact rfl); (case kK => assumption); (case k1 => k_asm); (case k2 => k_asm); (case k3 => k_asm); (case k4 => k_asm); (case k5 => k_asm); (case k6 => k_is); (case k7 => k_is); (case k8 => ktr_room); (case k9 => first | exact BindsTo.of_eq rfl | exact binds_K (by k_in) rfl (by k_is) rfl rfl rfl); (case c5 => decide); (case kB => exact locs rfl); (case c2 => exact rfl); (case c3 => exact rfl); (case c4 => exact rfl); k_whole; intro g' L' h' tk' htk' hrest' FG' F' N' B' X' T'; (try dsimp only); (try k_fold)))
  k_steps
  exact hret _ _ _ _ (⟨_, _, rfl, rfl⟩) (by k_asm) (by first | k_asm | (refine' cb_drop ?cbN ?cbS; (case cbN => assumption); (case cbS => kcj_all))) (fun b o e hb => Fr.keep (h₀ := g') (L := L') (by assumption) b o (hrest' b o e hb)) (new_of (g := g') (L' := L') hrest' (by first | assumption | (refine' cb_drop ?cbN ?cbS; (case cbN => assumption); (case cbS => kcj_all))))
end
end Mine
end

section
open PySem PySem.Spec PySem.Calls PySem.W PyProof.Rows PyProof.Rows.LCg
namespace Mine
def cellObj : Obj := { cls := .type "cell", data := .cell none }
noncomputable def addCells : Nat → Heap → Heap
  | 0, h => h
  | k + 1, h => addCells k (h.push cellObj)
noncomputable def cellLedger : Nat → Nat → List (Addr × Obj)
  | _, 0 => []
  | n, k + 1 => (n, cellObj) :: cellLedger (n + 1) k
theorem addCells_keeps : ∀ (k : Nat) (h : Heap) (b : Addr) (o : Obj), h.get? b = some o → (addCells k h).get? b = some o
  | 0, _, _, _, e => e
  | k + 1, h, b, o, e => addCells_keeps k _ b o (Heap.get?_push_of_some _ e)
theorem addCells_news {h₀ : Heap} {C : Addr} : ∀ (k : Nat) (h : Heap), C < h.objs.size → (∀ a, h.objs.size ≤ a → h₀.get? a = none) → ∀ p ∈ cellLedger h.objs.size k, (addCells k h).get? p.1 = some p.2 ∧ p.1 ≠ C ∧ h₀.get? p.1 = none ∧ h.objs.size ≤ p.1
  | 0, _, _, _, _, hp => nomatch hp
  | k + 1, h, hC, h0, p, hp => by
    rcases List.mem_cons.mp hp with rfl | hp
    · exact ⟨addCells_keeps k _ _ _ (Heap.get?_push_size _ rfl), Ne.symm (Nat.ne_of_lt hC), h0 _ (Nat.le_refl _), Nat.le_refl _⟩
    · have hs : (h.push cellObj).objs.size = h.objs.size + 1 := Heap.size_push ..
      have := addCells_news k (h.push cellObj) (by rw [hs]; exact Nat.lt_succ_of_lt hC) (fun a ha => h0 a (by rw [hs] at ha; exact Nat.le_of_succ_le ha)) p (by rw [hs]; exact hp)
      exact ⟨this.1, this.2.1, this.2.2.1, Nat.le_of_succ_le (by have z := this.2.2.2; rw [hs] at z; exact z)⟩
section
variable {M : Model} {A : Around} {E : Value → Shared → Prop} {s : Shared}
def compEnvK (scope : Scope) (cl : List (Str × Addr)) (C : Addr) (env : Env) : Env :=
  { scope := relabel scope env, locals := C, globals := env.globals, cells := cellsFrom (C + 1) scope.names cl, qual := env.qual, func := none, code := env.code, frame := env.frame, builtins := env.builtins }
theorem newEnv_comp {scope : Scope} {cl : List (Str × Addr)} {env : Env} {Q : Env → Shared → Prop}
    (hQ : Q { scope := scope, locals := s.heap.objs.size, globals := env.globals, cells := cellsFrom (s.heap.objs.size + 1) scope.names cl, qual := env.qual, func := none, code := env.code, frame := env.frame, builtins := env.builtins } { s with heap := pushCells (s.heap.push { cls := .type "dict", data := .dict #[] }) scope.names }) :
    wpAny M A (newFunctionEnv scope env.globals cl [] env.qual none .none (some env)) Q E s := by
  simp only [newFunctionEnv, Option.isSome_some, if_true]
  refine wpAny_bind (wpAny_alloc ?_)
  refine wpAny_bind (wpAny_layCells _ (fun name kind cells => by cases hkc : kind == NameKind.cell <;> simp [hkc]) _ _ _ _ ?_)
  rw [show ({ s with heap := s.heap.push { cls := .type "dict", data := .dict #[] } } : Shared).heap.objs.size = s.heap.objs.size + 1 from Heap.size_push ..]
  simp only [List.forIn_nil]
  exact wpAny_bind (wpAny_pure (wpAny_pure hQ))
end
section
variable {prog : Program} {w : World} {A : Around} {s : Shared} {h₀ : Heap}
/-- the turns of a list comprehension's clause: the frame is the comprehension's own; the ledger may change as J says -/
theorem comp_loopA {elt target iter : Expr} {gens : List Comprehension} {scope : Scope} {pos : Pos} {depth : Nat} {acc : Value} {cenv : Env} {GA : Sem Fin} {I C : Addr} {fp : List Addr} {n : Nat} {P : Nat → Value → Prop} {St : Nat → Heap → Prop} {R : Result → Shared → Prop}
    (J : Nat → (Str → Option Value) → List (Addr × Obj) → Prop)
    (hG : compTurn (.ListComp elt gens scope pos) depth (.ref I) acc cenv = (standAt iter.pos >>= fun _ => pyNext (.ref I) >>= fun r => match r with
      | none => pure (.done .next)
      | some v => letOwnedTupleGo target (.ref I) v >>= fun _ => assign target cenv v >>= fun _ => GA))
    (W : Walks prog w A I fp [I] n P St) (hIo : ∀ i h, St i h → ∃ o, h.get? I = some o)
    (hSt : ∀ i h h' o mc nw, St i h → h.get? I = some o → h'.get? I = some o → (∀ b o, h₀.get? b = some o → h'.get? b = some o) → News h₀ C h' nw → J i mc nw → St i h')
    (hgo : ∀ i v h tk (Q : Unit → Shared → Prop) (E' : Value → Shared → Prop), P i v → St (i + 1) h → Q () { s with heap := h, toks := tk } → wpAny (model prog w) A (letOwnedTupleGo target (.ref I) v) Q E' { s with heap := h, toks := tk })
    {mc : Str → Option Value} {nw : List (Addr × Obj)} (F : Fr h₀ C s.heap mc) (N : News h₀ C s.heap nw) (off : ∀ p ∈ nw, p.1 ≠ I) (hIC : C ≠ I) (hI₀ : h₀.get? I = none) (hst : St 0 s.heap) (hJ : J 0 mc nw)
    (turn : ∀ i v nw mc h tk oI (E' : Value → Shared → Prop), i < n → P i v → J i mc nw → Fr h₀ C h mc → News h₀ C h ((I, oI) :: nw) → (∀ p ∈ nw, p.1 ≠ I) →
      wpAny (model prog w) A (assign target cenv v) (fun _ s₂ => wpAny (model prog w) A GA (fun fin s₃ => fin = .again (.compLoop (.ListComp elt gens scope pos) depth (.ref I) acc cenv) ∧ ∃ h' tk' mc' nw', s₃ = { s with heap := h', toks := tk' } ∧ Fr h₀ C h' mc' ∧ News h₀ C h' ((I, oI) :: nw') ∧ (∀ p ∈ nw', p.1 ≠ I) ∧ J (i + 1) mc' nw') E' s₂) E' { s with heap := h, toks := tk })
    (done : ∀ h tk mc nw, J n mc nw → Fr h₀ C h mc → News h₀ C h nw → (∀ p ∈ nw, p.1 ≠ I) → R (.ok .next) { s with heap := h, toks := tk }) :
    codeAny (model prog w) A (.compLoop (.ListComp elt gens scope pos) depth (.ref I) acc cenv) R s := by
  refine codeAny_loop rfl (fun k s' => ∃ h' tk i mc nw, s' = { s with heap := h', toks := tk } ∧ i ≤ n ∧ k = n + 1 - i ∧ St i h' ∧ Fr h₀ C h' mc ∧ News h₀ C h' nw ∧ (∀ p ∈ nw, p.1 ≠ I) ∧ J i mc nw) ?_ (n + 1)
    ⟨s.heap, s.toks, 0, mc, nw, rfl, Nat.zero_le _, rfl, hst, F, N, off, hJ⟩
  rintro k s' ⟨h', tk, i, mc, nw, rfl, hi, rfl, hst', F', N', off', J'⟩
  show wpAny _ A ((compTurn (.ListComp elt gens scope pos) depth (.ref I) acc cenv).onRaise (fun x => do noteFrame x cenv; theTreesLotGoes x)) _ _ _
  refine wpAny_noted ?_
  rw [hG]
  refine wpAny_bind (wpAny_standAt (wpAny_bind ?_))
  by_cases hlt : i < n
  · refine W.item i _ _ _ hlt hst' fun v h₂ tk₂ hPv hst₂ hk₂ => ?_
    obtain ⟨oI, heI⟩ := hIo _ _ hst₂
    have F₂ : Fr h₀ C h₂ mc := fr_but F' hk₂ hIC hI₀
    have N₂ : News h₀ C h₂ ((I, oI) :: nw) := fun p hp => by
      rcases List.mem_cons.mp hp with rfl | hp
      · exact ⟨heI, Ne.symm hIC, hI₀⟩
      · exact news_but N' hk₂ off' p hp
    refine wpAny_bind (hgo i v h₂ tk₂ _ _ hPv hst₂ ?_)
    refine wpAny_bind (wpAny_mono (turn i v nw mc h₂ tk₂ oI _ hlt hPv J' F₂ N₂ off') (fun _ s₂ h2 => wpAny_mono h2 (fun fin s₃ h3 => ?_) fun _ _ e => e) fun _ _ e => e)
    obtain ⟨rfl, h₄, tk₄, mc₄, nw₄, rfl, F₄, N₄, off₄, J₄⟩ := h3
    have N₄' : News h₀ C h₄ nw₄ := fun p hp => N₄ p (.tail _ hp)
    exact ⟨rfl, n + 1 - (i + 1), by omega, h₄, tk₄, i + 1, mc₄, nw₄, rfl, hlt, rfl, hSt _ _ _ _ _ _ hst₂ heI (N₄ (I, oI) (.head _)).1 F₄.keep N₄' J₄, F₄, N₄', off₄, J₄⟩
  · obtain rfl : i = n := Nat.le_antisymm hi (Nat.not_lt.mp hlt)
    refine W.done _ _ _ hst' fun h₂ tk₂ hk₂ => wpAny_pure ?_
    exact done h₂ tk₂ mc nw J' (fr_but F' hk₂ hIC hI₀) (news_but N' hk₂ off') off'
/-- the end of a list comprehension -/
def CompDone (h₀ : Heap) (L : Addr) (m : Str → Option Value) (C D : Addr) (oL : Obj) (Q : Value → Shared → Prop) (s : Shared) (r : Result) (s' : Shared) : Prop :=
  r = .ok .next ∧ ∃ h' tk' mc nw, s' = { s with heap := h', toks := tk' } ∧ Fr h₀ C h' mc ∧ News h₀ C h' ((L, oL) :: nw) ∧ (∀ p ∈ nw, p.1 ≠ L) ∧ ∀ h tk, Fr h₀ L h m → News h₀ L h nw → Q (.ref D) { s with heap := h, toks := tk }
theorem comp_setup {env : Env} {elt target iter : Expr} {rest : List Comprehension} {scope : Scope} {cl : List (Str × Addr)} {pos : Pos} {L : Addr} {m : Str → Option Value} {Q : Value → Shared → Prop} {E : Value → Shared → Prop} (kc : Nat)
    (hclos : closureFor scope env = pure cl) (hpc : ∀ h, pushCells h scope.names = addCells kc h) (hkind : scope.kind = .function) (hnames : ∀ y ∈ scope.names, y.2 = .local → scope.names.lookup y.1 = some .local)
    (h : wpAny (model prog w) A (eval iter env) (fun xv s₁ => ∃ ax its news, xv = .ref ax ∧ Fr h₀ L s₁.heap m ∧ News h₀ L s₁.heap news ∧ (∃ k, (ax, listOf its k) ∈ news) ∧
      ∀ I C D oL H tk, @LT.lt Nat _ L I → @LT.lt Nat _ I D → @LT.lt Nat _ D C → (∀ p ∈ news, @LT.lt Nat _ p.1 I) → NsObj oL m → H.IsListIter I ax 0 → h₀.get? I = none → Fr h₀ C H (fun _ => none) →
        News h₀ C H ((L, oL) :: (D, lst []) :: (cellLedger (C + 1) kc ++ news)) → (∀ p ∈ (L, oL) :: (D, lst []) :: (cellLedger (C + 1) kc ++ news), p.1 ≠ I) → (∀ p ∈ (D, lst []) :: (cellLedger (C + 1) kc ++ news), p.1 ≠ L) →
        codeAny (model prog w) A (.compLoop (.ListComp elt (⟨target, iter, [], 0⟩ :: rest) scope pos) 0 (.ref I) (.ref D) (compEnvK scope cl C env)) (CompDone h₀ L m C D oL Q s₁) { s₁ with heap := H, toks := tk }) E s)
    (hh : A.handled = none)
    (hs : ∀ x, foldedSetIterable iter env x = pure x := by intro _; rfl) :
    wpAny (model prog w) A (eval (.ListComp elt (⟨target, iter, [], 0⟩ :: rest) scope pos) env) Q E s := by
  rw [eval_ListComp]
  refine wpAny_comprehension_free (use := none) rfl hs hclos hkind hnames (wpAny_mono h (fun xv s₁ h₁ => ?_) fun _ _ e => e)
  obtain ⟨ax, its, news, rfl, F, N, ⟨k, hax⟩, K⟩ := h₁
  have hl : s₁.heap.IsList ax its := PySem.IsL.isList (n := k) (N _ hax).1
  have hlt : ax < s₁.heap.objs.size := Heap.lt_size (N _ hax).1
  refine wpAny_pyIter_list hl ?_
  refine wpAny_newObj_type (newEnv_comp ?_)
  dsimp only
  rw [hpc]
  generalize hI : s₁.heap.objs.size = I at *
  have e1 : (s₁.heap.push { cls := .type "list_iterator", data := .fields #[.ref ax, .int 0 0] }).objs.size = I + 1 := by rw [Heap.size_push, hI]
  generalize hH1 : s₁.heap.push { cls := .type "list_iterator", data := .fields #[.ref ax, .int 0 0] } = H1 at *
  have e2 : (H1.push { cls := .type "list", dict := none, data := .seq ([] : List Value).toArray }).objs.size = I + 2 := by rw [Heap.size_push, e1]
  generalize hH2 : H1.push { cls := .type "list", dict := none, data := .seq ([] : List Value).toArray } = H2 at *
  have e3 : (H2.push { cls := .type "dict", data := .dict #[] }).objs.size = I + 3 := by rw [Heap.size_push, e2]
  have oldI : ∀ b o, s₁.heap.get? b = some o → H1.get? b = some o := fun b o e => by rw [← hH1]; exact Heap.get?_push_of_some _ e
  have old1 : ∀ b o, H1.get? b = some o → H2.get? b = some o := fun b o e => by rw [← hH2]; exact Heap.get?_push_of_some _ e
  have old2 : ∀ b o, H2.get? b = some o → (addCells kc (H2.push { cls := .type "dict", data := .dict #[] })).get? b = some o := fun b o e => addCells_keeps _ _ _ _ (Heap.get?_push_of_some _ e)
  have fresh : ∀ a, I ≤ a → s₁.heap.get? a = none := fun a ha => by
    cases e : s₁.heap.get? a with
    | none => rfl
    | some o' => exact absurd (Heap.lt_size e) (by rw [hI]; exact Nat.not_lt.mpr ha)
  have fresh₀ : ∀ a, I ≤ a → h₀.get? a = none := fun a ha => by
    cases e : h₀.get? a with
    | none => rfl
    | some o' => have := F.keep a o' e; rw [fresh a ha] at this; cases this
  have hL₀ : h₀.get? L = none := by
    cases e : h₀.get? L with
    | none => rfl
    | some o' => exact absurd (Heap.lt_size e) (Nat.not_lt.mpr F.above)
  have hLI : @LT.lt Nat _ L I := by have := F.ns.lt; rw [hI] at this; exact this
  obtain ⟨oL, heL, hoL⟩ := ns_obj F.ns
  have itI : H1.get? I = some { cls := .type "list_iterator", data := .fields #[.ref ax, .int 0 0] } := by rw [← hH1, ← hI]; exact Heap.get?_push_size _ rfl
  have itD : H2.get? (I + 1) = some (lst []) := by rw [← hH2, ← e1]; exact Heap.get?_push_size _ rfl
  have lN : ∀ p ∈ news, @LT.lt Nat _ p.1 I := fun p hp => by have := Heap.lt_size (N p hp).1; rw [hI] at this; exact this
  have hC2 : @Eq Nat H2.objs.size (I + 2) := e2
  rw [hC2, e1]
  have NC := addCells_news (h₀ := h₀) (C := I + 2) kc (H2.push { cls := .type "dict", data := .dict #[] }) (by rw [e3]; exact Nat.lt_succ_self _) (fun a ha => fresh₀ a (by rw [e3] at ha; exact Nat.le_trans (Nat.le_add_right I 3) ha))
  rw [e3] at NC
  have FC : Fr h₀ (I + 2) (addCells kc (H2.push { cls := .type "dict", data := .dict #[] })) (fun _ => none) := by
    refine ⟨(by rw [← hC2]; exact (Heap.Ns.new H2 (.type "dict")).keeps (addCells_keeps kc _)), fun b o e => old2 _ _ (old1 _ _ (oldI _ _ (F.keep b o e))), Nat.le_trans F.above (Nat.le_trans (Nat.le_of_lt hLI) (Nat.le_add_right I 2))⟩
  have NN : News h₀ (I + 2) (addCells kc (H2.push { cls := .type "dict", data := .dict #[] })) ((L, oL) :: (I + 1, lst []) :: (cellLedger (I + 3) kc ++ news)) := by
    intro p hp
    rcases List.mem_cons.mp hp with rfl | hp
    · exact ⟨old2 _ _ (old1 _ _ (oldI _ _ heL)), Nat.ne_of_lt (Nat.lt_of_lt_of_le hLI (Nat.le_add_right I 2)), hL₀⟩
    rcases List.mem_cons.mp hp with rfl | hp
    · exact ⟨old2 _ _ itD, Nat.ne_of_lt (Nat.lt_succ_self (I + 1)), fresh₀ _ (Nat.le_succ I)⟩
    rcases List.mem_append.mp hp with hp | hp
    · exact ⟨(NC p hp).1, (NC p hp).2.1, (NC p hp).2.2.1⟩
    · exact ⟨old2 _ _ (old1 _ _ (oldI _ _ (N p hp).1)), Nat.ne_of_lt (Nat.lt_of_lt_of_le (lN p hp) (Nat.le_add_right I 2)), (N p hp).2.2⟩
  have KK := K I (I + 2) (I + 1) oL _ (s₁.toks) hLI (Nat.lt_succ_self I) (Nat.lt_succ_self (I + 1)) lN hoL ⟨_, old2 _ _ (old1 _ _ itI), rfl, rfl⟩ (fresh₀ _ (Nat.le_refl _)) FC NN (fun p hp => by
      rcases List.mem_cons.mp hp with rfl | hp
      · exact Nat.ne_of_lt hLI
      rcases List.mem_cons.mp hp with rfl | hp
      · exact Ne.symm (Nat.ne_of_lt (Nat.lt_succ_self I))
      rcases List.mem_append.mp hp with hp | hp
      · exact Ne.symm (Nat.ne_of_lt (Nat.lt_of_lt_of_le (Nat.lt_add_of_pos_right (by decide)) (NC p hp).2.2.2))
      · exact Nat.ne_of_lt (lN p hp)) (fun p hp => by
      rcases List.mem_cons.mp hp with rfl | hp
      · exact Ne.symm (Nat.ne_of_lt (Nat.lt_succ_of_lt hLI))
      rcases List.mem_append.mp hp with hp | hp
      · exact Ne.symm (Nat.ne_of_lt (Nat.lt_of_lt_of_le (Nat.lt_of_lt_of_le hLI (Nat.le_add_right I 3)) (NC p hp).2.2.2))
      · exact (N p hp).2.1)
  have KQ : codeAny (model prog w) A (.compLoop (.ListComp elt (⟨target, iter, [], 0⟩ :: rest) scope pos) 0 (.ref I) (.ref (I + 1)) (compEnvK scope cl (I + 2) env)) (compPost (model prog w) A E none Q (.ref (I + 1)) (I + 2)) { s₁ with heap := addCells kc (H2.push { cls := .type "dict", data := .dict #[] }), toks := s₁.toks } := by
    refine codeAny_mono KK ?_
    rintro r s' ⟨rfl, h', tk', mc, nw, rfl, F', N', oL', fin⟩
    refine ⟨mc, F'.ns, fun h'' hs => fin h'' tk' ⟨?_, fun b o e => hs.extBut _ _ (fun q => ?_) (F'.keep b o e), F.above⟩ (fun p hp => ?_)⟩
    · exact hoL.ns (hs.extBut _ _ (N' _ (.head _)).2.1 (N' _ (.head _)).1)
    · rw [q, fresh₀ _ (Nat.le_add_right I 2)] at e; cases e
    · have z := N' p (.tail _ hp)
      exact ⟨hs.extBut _ _ z.2.1 z.1, oL' p hp, z.2.2⟩
  have Wl := Walks.list (prog := prog) (w := w) (A := A) hh I ax (Nat.ne_of_lt (lN _ hax)) its
  refine codeAny_compStart_list KQ (Wl.self 0 _ _ _ ⟨⟨_, old2 _ _ (old1 _ _ itI), rfl, rfl⟩, PySem.IsL.isList (n := k) (NN _ (.tail _ (.tail _ (List.mem_append.mpr (.inr hax))))).1⟩ KQ)
/-- the turns of a list comprehension's clause: the frame is the comprehension's own; the ledger may change as J says -/
theorem comp_loop {elt target iter : Expr} {gens : List Comprehension} {scope : Scope} {pos : Pos} {depth : Nat} {acc : Value} {cenv : Env} {G : Sem Unit} {I C : Addr} {fp : List Addr} {n : Nat} {P : Nat → Value → Prop} {St : Nat → Heap → Prop} {R : Result → Shared → Prop}
    (J : Nat → (Str → Option Value) → List (Addr × Obj) → Prop)
    (hG : compTurn (.ListComp elt gens scope pos) depth (.ref I) acc cenv = (standAt iter.pos >>= fun _ => pyNext (.ref I) >>= fun r => match r with
      | none => pure (.done .next)
      | some v => letOwnedTupleGo target (.ref I) v >>= fun _ => assign target cenv v >>= fun _ => G >>= fun _ => again (.compLoop (.ListComp elt gens scope pos) depth (.ref I) acc cenv)))
    (W : Walks prog w A I fp [I] n P St) (hIo : ∀ i h, St i h → ∃ o, h.get? I = some o)
    (hSt : ∀ i h h' o mc nw, St i h → h.get? I = some o → h'.get? I = some o → (∀ b o, h₀.get? b = some o → h'.get? b = some o) → News h₀ C h' nw → J i mc nw → St i h')
    (hgo : ∀ i v h tk (Q : Unit → Shared → Prop) (E' : Value → Shared → Prop), P i v → St (i + 1) h → Q () { s with heap := h, toks := tk } → wpAny (model prog w) A (letOwnedTupleGo target (.ref I) v) Q E' { s with heap := h, toks := tk })
    {mc : Str → Option Value} {nw : List (Addr × Obj)} (F : Fr h₀ C s.heap mc) (N : News h₀ C s.heap nw) (off : ∀ p ∈ nw, p.1 ≠ I) (hIC : C ≠ I) (hI₀ : h₀.get? I = none) (hst : St 0 s.heap) (hJ : J 0 mc nw)
    (turn : ∀ i v nw mc h tk oI (E' : Value → Shared → Prop), i < n → P i v → J i mc nw → Fr h₀ C h mc → News h₀ C h ((I, oI) :: nw) → (∀ p ∈ nw, p.1 ≠ I) →
      wpAny (model prog w) A (assign target cenv v) (fun _ s₂ => wpAny (model prog w) A G (fun _ s₃ => ∃ h' tk' mc' nw', s₃ = { s with heap := h', toks := tk' } ∧ Fr h₀ C h' mc' ∧ News h₀ C h' ((I, oI) :: nw') ∧ (∀ p ∈ nw', p.1 ≠ I) ∧ J (i + 1) mc' nw') E' s₂) E' { s with heap := h, toks := tk })
    (done : ∀ h tk mc nw, J n mc nw → Fr h₀ C h mc → News h₀ C h nw → (∀ p ∈ nw, p.1 ≠ I) → R (.ok .next) { s with heap := h, toks := tk }) :
    codeAny (model prog w) A (.compLoop (.ListComp elt gens scope pos) depth (.ref I) acc cenv) R s :=
  comp_loopA (GA := G >>= fun _ => again (.compLoop (.ListComp elt gens scope pos) depth (.ref I) acc cenv)) J hG W hIo hSt hgo F N off hIC hI₀ hst hJ
    (fun i v nw mc h tk oI E' hi hP hj F N o => wpAny_mono (turn i v nw mc h tk oI E' hi hP hj F N o) (fun _ _ x => wpAny_bind (wpAny_mono x (fun _ _ y => wpAny_pure ⟨rfl, y⟩) fun _ _ e => e)) fun _ _ e => e) done
end
end Mine
end

section
open PySem PySem.Spec PySem.Calls PySem.W PyProof.Rows PyProof.Rows.LCg
namespace Mine
section
variable {prog : Program} {w : World} {A : Around} {s : Shared} {h₀ : Heap}
/-- the end of an element's evaluation that leaves the ledger as it is -/
def EltEnd (h₀ : Heap) (C : Addr) (mc : Str → Option Value) (news : List (Addr × Obj)) (s : Shared) (P : Value → Prop) (y : Value) (s' : Shared) : Prop :=
  P y ∧ ∃ h' tk', s' = { s with heap := h', toks := tk' } ∧ Fr h₀ C h' mc ∧ News h₀ C h' news
theorem EltEnd.intro {C : Addr} {mc : Str → Option Value} {news news' : List (Addr × Obj)} {P : Value → Prop} {y : Value} {h' : Heap} {tk' : Nat} (F : Fr h₀ C h' mc) (N : News h₀ C h' news') (sub : ∀ p ∈ news, p ∈ news') (hP : P y) : EltEnd h₀ C mc news s P y { s with heap := h', toks := tk' } :=
  ⟨hP, h', tk', rfl, F, fun p hp => N p (sub p hp)⟩
theorem ints_snoc {vs : List Value} {ds : List Int} {d : Int} {t : Tok} (h : IntsAre vs ds) : IntsAre (vs ++ [.int d t]) (ds ++ [d]) := by
  induction h with
  | nil => exact .cons d t .nil
  | cons n u _ ih => exact .cons n u ih
/-- a list comprehension over a made list of ints, whose elements are ints -/
theorem comp_ints {env : Env} {elt iter : Expr} {x : Str} {px : Pos} {scope : Scope} {cl : List (Str × Addr)} {pos : Pos} {L : Addr} {m : Str → Option Value} {Q : Value → Shared → Prop} {E : Value → Shared → Prop} (f : Int → Int)
    (_F₀ : Fr h₀ L s.heap m) (hclos : closureFor scope env = pure cl) (hpc : ∀ h, pushCells h scope.names = h) (hkind : scope.kind = .function) (hnames : ∀ y ∈ scope.names, y.2 = .local → scope.names.lookup y.1 = some .local) (hx : scope.names.lookup x = some .local)
    (hh : A.handled = none)
    (h : wpAny (model prog w) A (eval iter env) (fun xv s₁ => ∃ ax vs ds k news, xv = .ref ax ∧ Fr h₀ L s₁.heap m ∧ News h₀ L s₁.heap news ∧ (ax, listOf (List.toArray vs) k) ∈ news ∧ IntsAre vs ds ∧ vs.length ≤ sizeLine ∧
      (∀ C d t h tk tail (mc : Str → Option Value) (E' : Value → Shared → Prop), d ∈ ds → @LT.lt Nat _ L C → (∀ p ∈ news, @LT.lt Nat _ p.1 C) → Fr h₀ C h (fun y => if y = x then some (.int d t) else mc y) → News h₀ C h (news ++ tail) →
        wpAny (model prog w) A (eval elt (compEnvK scope cl C env)) (EltEnd h₀ C (fun y => if y = x then some (.int d t) else mc y) (news ++ tail) { s₁ with heap := h, toks := tk } (fun y => ∃ t', y = .int (f d) t')) E' { s₁ with heap := h, toks := tk }) ∧
      ∀ D ys h tk, IntsAre ys (ds.map f) → (∀ p ∈ news, @LT.lt Nat _ p.1 D) → Fr h₀ L h m → News h₀ L h ((D, lst ys) :: news) → Q (.ref D) { s₁ with heap := h, toks := tk }) E s)
    (hs : ∀ x, foldedSetIterable iter env x = pure x := by intro _; rfl) :
    wpAny (model prog w) A (eval (.ListComp elt [⟨.Name x px, iter, [], 0⟩] scope pos) env) Q E s := by
  refine comp_setup (h₀ := h₀) (L := L) (m := m) 0 hclos hpc hkind hnames (wpAny_mono h (fun xv s₁ h₁ => ?_) fun _ _ e => e) hh hs
  obtain ⟨ax, vs, ds, k, news, rfl, F, N, hax, hI, hsz, turn, fin⟩ := h₁
  refine ⟨ax, vs.toArray, news, rfl, F, N, ⟨k, hax⟩, ?_⟩
  intro I C D oL H tk hLI hID hDC hnI hoL hit hI₀ FC NC offI offL
  have Wl := Walks.list (prog := prog) (w := w) (A := A) hh I ax (Nat.ne_of_lt (hnI _ hax)) vs.toArray
  refine comp_loop (G := eval elt (compEnvK scope cl C env) >>= fun x => call (.builtin "list.append") [.ref D, x] >>= fun _ => pure ()) (iter := iter) (target := .Name x px)
    (fun i _ nw => ∃ ys, nw = (L, oL) :: (D, lst ys) :: news ∧ IntsAre ys ((ds.take i).map f)) rfl Wl (fun i h st => by obtain ⟨o, e, _⟩ := st.1; exact ⟨o, e⟩) ?_ ?_ FC NC offI (Ne.symm (Nat.ne_of_lt (Nat.lt_trans hID hDC))) hI₀ ?_ ⟨[], rfl, .nil⟩ ?_ ?_
  · intro i h h' o _ nw st e e' keep N' hj
    obtain ⟨ys, rfl, _⟩ := hj
    obtain ⟨o', q, r⟩ := st.1
    rw [e] at q; cases q
    exact ⟨⟨o, e', r⟩, PySem.IsL.isList (n := k) (N' _ (.tail _ (.tail _ hax))).1⟩
  · intro i v h tk Q' E' hP st hQ
    exact wpAny_of_eq (a := ()) rfl hQ
  · exact ⟨hit, PySem.IsL.isList (n := k) (NC _ (.tail _ (.tail _ hax))).1⟩
  · rintro i v nw mc h tk oI E' hi hP ⟨ys, rfl, hys⟩ F₁ N₁ off₁
    obtain ⟨d, t, rfl, hd⟩ := hI.at i v (by simpa using hP)
    refine wpAny_assign_Name (wpAny_storeName_local (lookup_relabel_local hx) F₁.ns (fun h₂ hn₂ hs₂ => ?_) (by simp [compEnvK, relabel, hkind]))
    have nC := fun p hp => (N₁ p hp).2.1
    have F₂ : Fr h₀ C h₂ (fun y => if y = x then some (.int d t) else mc y) := F₁.set hn₂ hs₂
    have N₂ : News h₀ C h₂ ((I, oI) :: (L, oL) :: (D, lst ys) :: news) := N₁.set hs₂
    refine wpAny_bind (wpAny_mono (turn C d t h₂ _ [(I, oI), (L, oL), (D, lst ys)] mc E' (List.mem_of_getElem? hd) (Nat.lt_trans hLI (Nat.lt_trans hID hDC)) (fun p hp => Nat.lt_trans (hnI p hp) (Nat.lt_trans hID hDC)) F₂ (fun p hp => N₂ p (by
      rcases List.mem_append.mp hp with hp | hp
      · exact .tail _ (.tail _ (.tail _ hp))
      · simp only [List.mem_cons, List.not_mem_nil, or_false] at hp
        rcases hp with rfl | rfl | rfl
        · exact .head _
        · exact .tail _ (.head _)
        · exact .tail _ (.tail _ (.head _))))) ?_ fun _ _ e => e)
    rintro y s₃ ⟨⟨t', rfl⟩, h₃, tk₃, rfl, F₃, N₃⟩
    have zD := N₃ (D, lst ys) (List.mem_append.mpr (.inr (.tail _ (.tail _ (.head _)))))
    have zI := N₃ (I, oI) (List.mem_append.mpr (.inr (.head _)))
    have zL := N₃ (L, oL) (List.mem_append.mpr (.inr (.tail _ (.head _))))
    have ly : ys.length = i := by
      have hi' : i < vs.toArray.size := hi
      rw [List.size_toArray, hI.length] at hi'
      rw [hys.length, List.length_map, List.length_take]; omega
    refine wpAny_bind (append_at (hsz := by show ys.toArray.size ≤ sizeLine; rw [List.size_toArray, ly]; exact Nat.le_trans (Nat.le_of_lt hi) (by simpa using hsz)) zD.1 fun h₅ hs₅ hD₅ => wpAny_pure ?_)
    refine ⟨h₅, tk₃, _, (L, oL) :: (D, lst (ys ++ [.int (f d) t'])) :: news, rfl, F₃.change hs₅ zD.2.1 zD.2.2, ?_, ?_, ys ++ [.int (f d) t'], rfl, ?_⟩
    · intro p hp
      rcases List.mem_cons.mp hp with rfl | hp
      · exact ⟨hs₅.extBut _ _ (Ne.symm (off₁ (D, lst ys) (.tail _ (.head _)))) zI.1, zI.2⟩
      rcases List.mem_cons.mp hp with rfl | hp
      · exact ⟨hs₅.extBut _ _ (Ne.symm (offL (D, lst []) (.head _))) zL.1, zL.2⟩
      rcases List.mem_cons.mp hp with rfl | hp
      · exact ⟨hD₅.trans (congrArg some (lst_snoc ys _)), zD.2⟩
      · have z := N₃ p (List.mem_append.mpr (.inl hp))
        exact ⟨hs₅.extBut _ _ (Nat.ne_of_lt (Nat.lt_trans (hnI p hp) hID)) z.1, z.2⟩
    · intro p hp
      rcases List.mem_cons.mp hp with rfl | hp
      · exact off₁ _ (.head _)
      rcases List.mem_cons.mp hp with rfl | hp
      · exact off₁ (D, lst ys) (.tail _ (.head _))
      · exact off₁ p (.tail _ (.tail _ hp))
    · rw [List.take_add_one, hd]
      simpa using ints_snoc (t := t') hys
  · rintro h tk mc nw ⟨ys, rfl, hys⟩ F' N' off'
    refine ⟨rfl, h, tk, mc, (D, lst ys) :: news, rfl, F', N', fun p hp => ?_, fun h' tk' F'' N'' => fin D ys h' tk' ?_ (fun p hp => Nat.lt_trans (hnI p hp) hID) F'' N''⟩
    · rcases List.mem_cons.mp hp with rfl | hp
      · exact offL (D, lst []) (.head _)
      · exact offL p (.tail _ hp)
    · have : ds.take vs.toArray.size = ds := by rw [List.take_of_length_le]; rw [List.size_toArray, hI.length]; exact Nat.le_refl _
      rw [this] at hys; exact hys
end
end Mine
end

section
open PySem PySem.Spec PySem.Calls PySem.W PyProof.Rows PyProof.Rows.LCg
namespace Mine
/-- made lists of ints, in the order of their making -/
inductive RowsAre : List (Addr × Obj) → List Value → List (List Int) → Prop
  | nil : RowsAre [] [] []
  | snoc {made : List (Addr × Obj)} {ys : List Value} {dss : List (List Int)} {a : Addr} {vs : List Value} {ds : List Int} (h : RowsAre made ys dss) (hI : IntsAre vs ds) : RowsAre (made ++ [(a, lst vs)]) (ys ++ [.ref a]) (dss ++ [ds])
theorem RowsAre.length {made : List (Addr × Obj)} {ys : List Value} {dss : List (List Int)} (h : RowsAre made ys dss) : ys.length = dss.length := by
  induction h with
  | nil => rfl
  | snoc _ _ ih => simp [ih]
section
variable {prog : Program} {w : World} {A : Around} {s : Shared} {h₀ : Heap}
/-- the end of an element's evaluation that makes one list of ints -/
def RowEnd (h₀ : Heap) (C : Addr) (mc : Str → Option Value) (led : List (Addr × Obj)) (s : Shared) (ds : List Int) (y : Value) (s' : Shared) : Prop :=
  ∃ a vs h' tk', y = .ref a ∧ IntsAre vs ds ∧ (∀ q ∈ led, @LT.lt Nat _ q.1 a) ∧ s' = { s with heap := h', toks := tk' } ∧ Fr h₀ C h' mc ∧ News h₀ C h' ((a, lst vs) :: led)
theorem comp_rows {env : Env} {elt iter : Expr} {a b : Str} {pa pb tpos : Pos} {x1} {scope : Scope} {cl : List (Str × Addr)} {pos : Pos} {L : Addr} {m : Str → Option Value} {Q : Value → Shared → Prop} {E : Value → Shared → Prop} (g : Int → Int → List Int) (pairs : List (Int × Int))
    (_F₀ : Fr h₀ L s.heap m) (hclos : closureFor scope env = pure cl) (hpc : ∀ h, pushCells h scope.names = addCells 2 h) (hkind : scope.kind = .function) (hnames : ∀ y ∈ scope.names, y.2 = .local → scope.names.lookup y.1 = some .local)
    (hca : ∀ C, (cellsFrom (C + 1) scope.names cl).lookup a = some (C + 1)) (hcb : ∀ C, (cellsFrom (C + 1) scope.names cl).lookup b = some (C + 2))
    (hka : ∀ C, (compEnvK scope cl C env).kindOf a = some .cell) (hkb : ∀ C, (compEnvK scope cl C env).kindOf b = some .cell)
    (hh : A.handled = none)
    (h : wpAny (model prog w) A (eval iter env) (fun xv s₁ => ∃ ax, ∃ its : Array Value, ∃ k news, xv = .ref ax ∧ Fr h₀ L s₁.heap m ∧ News h₀ L s₁.heap news ∧ (ax, listOf its k) ∈ news ∧ its.size ≤ sizeLine ∧ its.size = pairs.length ∧
      (∀ (i : Nat) (v : Value), its[i]? = some v → ∃ t p q tp tq nt, v = .ref t ∧ (t, ({ cls := .type "tuple", data := .seq #[.int p tp, .int q tq] nt } : Obj)) ∈ news ∧ pairs[i]? = some (p, q)) ∧
      (∀ C p q tp tq h tk tail (mc : Str → Option Value) o1 o2 (E' : Value → Shared → Prop), (p, q) ∈ pairs → @LT.lt Nat _ L C → (∀ r ∈ news, @LT.lt Nat _ r.1 C) → o1.data = .cell (some (.int p tp)) → o2.data = .cell (some (.int q tq)) → Fr h₀ C h mc → News h₀ C h ((C + 1, o1) :: (C + 2, o2) :: (news ++ tail)) →
        wpAny (model prog w) A (eval elt (compEnvK scope cl C env)) (RowEnd h₀ C mc ((C + 1, o1) :: (C + 2, o2) :: (news ++ tail)) { s₁ with heap := h, toks := tk } (g p q)) E' { s₁ with heap := h, toks := tk }) ∧
      ∀ D ys made h tk, RowsAre made ys (pairs.map fun q => g q.1 q.2) → (∀ r ∈ news, @LT.lt Nat _ r.1 D) → (∀ r ∈ made, @LT.lt Nat _ D r.1) → Fr h₀ L h m → News h₀ L h ((D, lst ys) :: (news ++ made)) → Q (.ref D) { s₁ with heap := h, toks := tk }) E s)
    (hs : ∀ x, foldedSetIterable iter env x = pure x := by intro _; rfl) :
    wpAny (model prog w) A (eval (.ListComp elt [⟨.Tuple [.Name a pa, .Name b pb] x1 tpos, iter, [], 0⟩] scope pos) env) Q E s := by
  refine comp_setup (h₀ := h₀) (L := L) (m := m) 2 hclos hpc hkind hnames (wpAny_mono h (fun xv s₁ h₁ => ?_) fun _ _ e => e) hh hs
  obtain ⟨ax, its, k, news, rfl, F, N, hax, hsz, hlen, hits, turn, fin⟩ := h₁
  refine ⟨ax, its, news, rfl, F, N, ⟨k, hax⟩, ?_⟩
  intro I C D oL H tk hLI hID hDC hnI hoL hit hI₀ FC NC offI offL
  have Wl := Walks.list (prog := prog) (w := w) (A := A) hh I ax (Nat.ne_of_lt (hnI _ hax)) its
  refine comp_loop (G := eval elt (compEnvK scope cl C env) >>= fun x => call (.builtin "list.append") [.ref D, x] >>= fun _ => pure ()) (iter := iter) (target := .Tuple [.Name a pa, .Name b pb] x1 tpos)
    (fun i _ nw => ∃ made ys o1 o2 v1 v2, nw = (L, oL) :: (D, lst ys) :: (C + 1, o1) :: (C + 2, o2) :: (news ++ made) ∧ o1.data = .cell v1 ∧ o2.data = .cell v2 ∧ RowsAre made ys ((pairs.take i).map fun q => g q.1 q.2) ∧ ∀ r ∈ made, @LT.lt Nat _ (C + 2) r.1)
    rfl Wl (fun i h st => by obtain ⟨o, e, _⟩ := st.1; exact ⟨o, e⟩) ?_ ?_ FC NC offI (Ne.symm (Nat.ne_of_lt (Nat.lt_trans hID hDC))) hI₀ ?_ ⟨[], [], cellObj, cellObj, none, none, by simp [cellLedger], rfl, rfl, .nil, fun r hr => nomatch hr⟩ ?_ ?_
  · intro i h h' o _ nw st e e' keep N' hj
    obtain ⟨made, ys, o1, o2, v1, v2, rfl, _⟩ := hj
    obtain ⟨o', q, r⟩ := st.1
    rw [e] at q; cases q
    exact ⟨⟨o, e', r⟩, PySem.IsL.isList (n := k) (N' _ (.tail _ (.tail _ (.tail _ (.tail _ (List.mem_append.mpr (.inl hax))))))).1⟩
  · intro i v h tk Q' E' hP st hQ
    obtain ⟨t, p, q, tp, tq, nt, rfl, _⟩ := hits i v hP
    exact wpAny_letOwnedTupleGo_listiter st.1 hQ
  · exact ⟨hit, PySem.IsL.isList (n := k) (NC _ (.tail _ (.tail _ (List.mem_append.mpr (.inr hax))))).1⟩
  · rintro i v nw mc h tk oI E' hi hP ⟨made, ys, o1, o2, v1, v2, rfl, ho1, ho2, hys, hmade⟩ F₁ N₁ off₁
    obtain ⟨t, p, q, tp, tq, nt, rfl, hmt, hpq⟩ := hits i v hP
    have zt := N₁ _ (.tail _ (.tail _ (.tail _ (.tail _ (.tail _ (List.mem_append.mpr (.inl hmt)))))))
    have ht : IsTup h t #[.int p tp, .int q tq] := ⟨_, zt.1, rfl, nt, rfl⟩
    refine assign_Tuple_tuple hh ht rfl rfl fun h₅ he => ?_
    have he' : ∀ b o, h.get? b = some o → h₅.get? b = some o := fun b o e => he b o (Nat.ne_of_lt (Heap.lt_size e)) e
    have z1 := N₁ (C + 1, o1) (.tail _ (.tail _ (.tail _ (.head _))))
    have z2 := N₁ (C + 2, o2) (.tail _ (.tail _ (.tail _ (.tail _ (.head _)))))
    refine assignInOrder_cons (wpAny_assign_Name (wpAny_storeName_cell hkind (hka C) (hca C) (v₀ := v1) ⟨o1, he' _ _ z1.1, ho1⟩ (fun h₆ hc₆ hs₆ => ?_)))
    refine assignInOrder_cons (wpAny_assign_Name (wpAny_storeName_cell hkind (hkb C) (hcb C) (v₀ := v2) ⟨o2, hs₆.extBut _ _ (Nat.ne_of_gt (Nat.lt_succ_self (C + 1))) (he' _ _ z2.1), ho2⟩ (fun h₇ hc₇ hs₇ => ?_)))
    refine assignInOrder_nil ?_
    obtain ⟨o1', e1', d1'⟩ := hc₆
    obtain ⟨o2', e2', d2'⟩ := hc₇
    have F₇ : Fr h₀ C h₇ mc := ((F₁.keeps he').change hs₆ z1.2.1 z1.2.2).change hs₇ z2.2.1 z2.2.2
    have old : ∀ b o, b ≠ C + 1 → b ≠ C + 2 → h.get? b = some o → h₇.get? b = some o := fun b o h1 h2 e => hs₇.extBut _ _ h2 (hs₆.extBut _ _ h1 (he' _ _ e))
    have ltC : ∀ r ∈ news, @LT.lt Nat _ r.1 C := fun r hr => Nat.lt_trans (hnI r hr) (Nat.lt_trans hID hDC)
    have lLC : @LT.lt Nat _ L C := Nat.lt_trans hLI (Nat.lt_trans hID hDC)
    have lIC : @LT.lt Nat _ I C := Nat.lt_trans hID hDC
    have up : ∀ r, r ∈ [(I, oI), (L, oL), (D, lst ys)] ++ (news ++ made) → h₇.get? r.1 = some r.2 ∧ r.1 ≠ C ∧ h₀.get? r.1 = none := by
      intro r hr
      have lt : @Ne Nat r.1 (C + 1) ∧ @Ne Nat r.1 (C + 2) := by
        rcases List.mem_append.mp hr with hr | hr
        · simp only [List.mem_cons, List.not_mem_nil, or_false] at hr
          rcases hr with rfl | rfl | rfl <;> (refine ⟨neN ?_, neN ?_⟩ <;> dsimp only <;> omega)
        · rcases List.mem_append.mp hr with hr | hr
          · have := ltC r hr; constructor <;> omega
          · have := hmade r hr; constructor <;> omega
      have z := N₁ r (by
        rcases List.mem_append.mp hr with hr | hr
        · simp only [List.mem_cons, List.not_mem_nil, or_false] at hr
          rcases hr with rfl | rfl | rfl
          · exact .head _
          · exact .tail _ (.head _)
          · exact .tail _ (.tail _ (.head _))
        · exact .tail _ (.tail _ (.tail _ (.tail _ (.tail _ hr)))))
      exact ⟨old _ _ lt.1 lt.2 z.1, z.2⟩
    have N₇ : News h₀ C h₇ ((C + 1, o1') :: (C + 2, o2') :: (news ++ (made ++ [(I, oI), (L, oL), (D, lst ys)]))) := by
      intro r hr
      rcases List.mem_cons.mp hr with rfl | hr
      · exact ⟨hs₇.extBut _ _ (Nat.ne_of_lt (Nat.lt_succ_self (C + 1))) e1', z1.2⟩
      rcases List.mem_cons.mp hr with rfl | hr
      · exact ⟨e2', z2.2⟩
      · refine up r ?_
        simp only [List.mem_append] at hr ⊢
        rcases hr with hr | hr | hr
        · exact .inr (.inl hr)
        · exact .inr (.inr hr)
        · exact .inl hr
    refine wpAny_bind (wpAny_mono (turn C p q tp tq h₇ _ (made ++ [(I, oI), (L, oL), (D, lst ys)]) mc o1' o2' E' (List.mem_of_getElem? hpq) lLC ltC d1' d2' F₇ N₇) ?_ fun _ _ e => e)
    rintro y s₃ ⟨r, vs, h₃, tk₃, rfl, hvs, hr, rfl, F₃, N₃⟩
    have zD := N₃ (D, lst ys) (by simp)
    have ly : ys.length = i := by
      have hi' : i < its.size := hi
      rw [hlen] at hi'
      rw [hys.length, List.length_map, List.length_take]; omega
    refine wpAny_bind (append_at (hsz := by show ys.toArray.size ≤ sizeLine; rw [List.size_toArray, ly]; exact Nat.le_trans (Nat.le_of_lt hi) hsz) zD.1 fun h₈ hs₈ hD₈ => wpAny_pure ?_)
    have hrC : @LT.lt Nat _ (C + 2) r := hr (C + 2, o2') (by simp)
    have keepN : ∀ q, q ∈ (r, lst vs) :: (C + 1, o1') :: (C + 2, o2') :: (news ++ (made ++ [(I, oI), (L, oL)])) → @Ne Nat q.1 D → h₈.get? q.1 = some q.2 ∧ q.1 ≠ C ∧ h₀.get? q.1 = none := fun q hq hne => by
      have z := N₃ q (by
        simp only [List.mem_cons, List.mem_append, List.not_mem_nil, or_false] at hq ⊢
        rcases hq with h | h | h | h | h | h | h <;> simp [h])
      exact ⟨hs₈.extBut _ _ hne z.1, z.2⟩
    refine ⟨h₈, _, mc, (L, oL) :: (D, lst (ys ++ [.ref r])) :: (C + 1, o1') :: (C + 2, o2') :: (news ++ (made ++ [(r, lst vs)])), rfl, F₃.change hs₈ zD.2.1 zD.2.2, ?_, ?_, made ++ [(r, lst vs)], ys ++ [.ref r], o1', o2', _, _, rfl, d1', d2', ?_, ?_⟩
    · intro q hq
      rcases List.mem_cons.mp hq with rfl | hq
      · exact keepN _ (by simp) (Nat.ne_of_lt hID)
      rcases List.mem_cons.mp hq with rfl | hq
      · exact keepN _ (by simp) (Nat.ne_of_lt (Nat.lt_trans hLI hID))
      rcases List.mem_cons.mp hq with rfl | hq
      · exact ⟨hD₈.trans (congrArg some (lst_snoc ys _)), zD.2⟩
      · have hlt : @Ne Nat q.1 D := by
          simp only [List.mem_cons, List.mem_append, List.not_mem_nil, or_false] at hq
          rcases hq with rfl | rfl | h | h | rfl
          · refine neN ?_; dsimp only; omega
          · refine neN ?_; dsimp only; omega
          · have := hnI q h; omega
          · have := hmade q h; omega
          · refine neN ?_; dsimp only; omega
        exact keepN q (by
          simp only [List.mem_cons, List.mem_append, List.not_mem_nil, or_false] at hq ⊢
          rcases hq with h | h | h | h | h <;> simp [h]) hlt
    · intro q hq
      simp only [List.mem_cons, List.mem_append, List.not_mem_nil, or_false] at hq
      rcases hq with rfl | rfl | rfl | rfl | h | h | rfl
      · refine neN ?_; dsimp only; omega
      · refine neN ?_; dsimp only; omega
      · refine neN ?_; dsimp only; omega
      · refine neN ?_; dsimp only; omega
      · have := hnI q h; exact neN (by omega)
      · have := hmade q h; exact neN (by omega)
      · refine neN ?_; dsimp only; omega
    · rw [List.take_add_one, hpq]
      simpa using hys.snoc hvs
    · intro q hq
      rcases List.mem_append.mp hq with hq | hq
      · exact hmade q hq
      · rw [List.mem_singleton.mp hq]; exact hrC
  · rintro h tk mc nw ⟨made, ys, o1, o2, v1, v2, rfl, ho1, ho2, hys, hmade⟩ F' N' off'
    refine ⟨rfl, h, tk, mc, (D, lst ys) :: (C + 1, o1) :: (C + 2, o2) :: (news ++ made), rfl, F', N', fun q hq => ?_, fun h' tk' F'' N'' => fin D ys made h' tk' ?_ (fun r hr => Nat.lt_trans (hnI r hr) hID) (fun r hr => by have := hmade r hr; omega) F'' (fun q hq => N'' q ?_)⟩
    · simp only [List.mem_cons, List.mem_append] at hq
      rcases hq with rfl | rfl | rfl | h | h
      · refine neN ?_; dsimp only; omega
      · refine neN ?_; dsimp only; omega
      · refine neN ?_; dsimp only; omega
      · exact offL q (.tail _ (List.mem_append.mpr (.inr h)))
      · have := hmade q h; exact neN (by omega)
    · have : pairs.take its.size = pairs := by rw [hlen, List.take_length]
      rw [this] at hys; exact hys
    · rcases List.mem_cons.mp hq with rfl | hq
      · exact .head _
      · exact .tail _ (.tail _ (.tail _ hq))
end
end Mine
end

section
open PySem PySem.Spec PySem.Calls PySem.W PyProof.Rows PyProof.Rows.LCg
namespace Mine
theorem RowsAre.last {made : List (Addr × Obj)} {ys : List Value} {dd dss : List (List Int)} {ds : List Int} (h : RowsAre made ys dd) (e : dd = dss ++ [ds]) :
    ∃ made' ys' a vs, made = made' ++ [(a, lst vs)] ∧ ys = ys' ++ [.ref a] ∧ RowsAre made' ys' dss ∧ IntsAre vs ds := by
  cases h with
  | nil => simp at e
  | snoc h hI =>
    obtain ⟨e1, e2⟩ := List.append_inj' e rfl
    cases e2
    subst e1
    exact ⟨_, _, _, _, rfl, rfl, h, hI⟩
theorem RowsAre.nil_of {made : List (Addr × Obj)} {ys : List Value} {dd : List (List Int)} (h : RowsAre made ys dd) (e : dd = []) : made = [] ∧ ys = [] := by
  cases h with
  | nil => exact ⟨rfl, rfl⟩
  | snoc h hI => simp at e
theorem RowsAre.five {made : List (Addr × Obj)} {ys : List Value} {d1 d2 d3 d4 d5 : List Int} (h : RowsAre made ys [d1, d2, d3, d4, d5]) :
    ∃ a1 a2 a3 a4 a5 v1 v2 v3 v4 v5, made = [(a1, lst v1), (a2, lst v2), (a3, lst v3), (a4, lst v4), (a5, lst v5)] ∧ ys = [.ref a1, .ref a2, .ref a3, .ref a4, .ref a5] ∧ IntsAre v1 d1 ∧ IntsAre v2 d2 ∧ IntsAre v3 d3 ∧ IntsAre v4 d4 ∧ IntsAre v5 d5 := by
  obtain ⟨m5, y5, a5, v5, rfl, rfl, h, i5⟩ := h.last (dss := [d1, d2, d3, d4]) rfl
  obtain ⟨m4, y4, a4, v4, rfl, rfl, h, i4⟩ := h.last (dss := [d1, d2, d3]) rfl
  obtain ⟨m3, y3, a3, v3, rfl, rfl, h, i3⟩ := h.last (dss := [d1, d2]) rfl
  obtain ⟨m2, y2, a2, v2, rfl, rfl, h, i2⟩ := h.last (dss := [d1]) rfl
  obtain ⟨m1, y1, a1, v1, rfl, rfl, h, i1⟩ := h.last (dss := []) rfl
  obtain ⟨rfl, rfl⟩ := h.nil_of rfl
  exact ⟨a1, a2, a3, a4, a5, v1, v2, v3, v4, v5, rfl, rfl, i1, i2, i3, i4, i5⟩
end Mine
namespace Mine
section
variable {M : Model} {A : Around} {E : Value → Shared → Prop} {s : Shared} {h₀ : Heap} {m : Str → Option Value} {news : List (Addr × Obj)} {env : Env} {x : Str} {pos : Pos} {v : Value} {c : Addr} {o : Obj} {Q : Value → Shared → Prop}
theorem name_local (F : Fr h₀ env.locals s.heap m) (hk : env.scope.kind = .function) (hx : env.kindOf x = some .local) (hv : m x = some v) (hd : (x == ("__debug__" : Str)) = false) (h : Q v s) : wpAny M A (eval (.Name x pos) env) Q E s :=
  wpAny_Name (wpAny_loadName_local hk hx F.ns hv h) hd
theorem name_cell {L : Addr} (N : News h₀ L s.heap news) (hk : env.scope.kind = .function) (hx : env.kindOf x = some .cell) (hc : env.cells.lookup x = some c) (hm : (c, o) ∈ news) (hd : o.data = .cell (some v)) (hb : (x == ("__debug__" : Str)) = false) (h : Q v s) : wpAny M A (eval (.Name x pos) env) Q E s :=
  wpAny_Name (wpAny_loadName_cell hk hx hc ⟨o, N.get hm, hd⟩ h) hb
theorem name_free {L : Addr} (N : News h₀ L s.heap news) (hk : env.scope.kind = .function) (hx : env.kindOf x = some .free) (hc : env.cells.lookup x = some c) (hm : (c, o) ∈ news) (hd : o.data = .cell (some v)) (hb : (x == ("__debug__" : Str)) = false) (hn : (x == ("__classdict__" : Str)) = false) (h : Q v s) : wpAny M A (eval (.Name x pos) env) Q E s :=
  wpAny_Name (wpAny_loadName_free hk hx hc ⟨o, N.get hm, hd⟩ h hn) hb
end
end Mine
end

section
open PySem PySem.Spec PySem.Calls PySem.W PyProof.Rows
namespace Mine
section
variable {w : World} {loose : List Str} {mean : ExcName → Option Value} {mg mb : Str → Option Value}
set_option maxRecDepth 100000 in
set_option maxHeartbeats 4000000 in
theorem c_law_rows (S : Addr) (items : List Value) (xs : List Int) (hI : IntsAre items xs) (hlen : xs.length ≤ 63) :
    Cl w loose mean mg mb 4 229 [Value.ref S] [] [] (fun s => s.heap.IsList S items.toArray) (fun v T' => ∃ R a1 a2 a3 a4 a5 v1 v2 v3 v4 v5, ∃ ds : List Int, v = Value.ref R ∧ T' = [(R, LCg.lst [Value.ref a1, Value.ref a2, Value.ref a3, Value.ref a4, Value.ref a5]), (a1, LCg.lst v1), (a2, LCg.lst v2), (a3, LCg.lst v3), (a4, LCg.lst v4), (a5, LCg.lst v5)] ∧ (4 ≤ ds.length ∧ ds.length ≤ 5) ∧
      IntsAre v1 (ds.map fun d => (d.fdiv 1).fmod 3) ∧ IntsAre v2 (ds.map fun d => (d.fdiv 3).fmod 3) ∧ IntsAre v3 (ds.map fun d => (d.fdiv 9).fmod 5) ∧ IntsAre v4 (ds.map fun d => (d.fdiv 45).fmod 5) ∧ IntsAre v5 (ds.map fun d => (d.fdiv 225).fmod 5)) := by
  refine Cl.of ?_
  w_top off
  k_fill
  intro dp un gd cn cs a ccd cl outer A₀ base h₀ L m s Q E B F X N T hk hpre hdp hun hret
  refine wpAny_call ?_
  (k_dflt (refine' Mine.enter_defC [(Str.ofString "script", Value.ref S)] ?k1 ?k2 ?k3 ?k4 ?k5 ?kA ?kF ?kK ?k6 ?k7 ?k8 ?k9 ?kB ?kD ?_ ?c2 ?c3 ?c4; (case kA => exact rfl); (case kF => exact rfl); (case kK => assumption); (case k1 => k_asm); (case k2 => k_asm); (case k3 => k_asm); (case k4 => k_asm); (case k5 => k_asm); (case k6 => k_is); (case k7 => k_is); (case k8 => ktr_room); (case k9 => first | exact BindsTo.of_eq rfl | exact binds_K (by k_in) rfl (by k_is) rfl rfl rfl); (case kB => exact rfl); (case kD => decide +kernel); (case c2 => exact rfl); (case c3 => exact rfl); (case c4 => exact rfl); k_whole; intro g' L' h' tk' cells' hrest' FG' F' N' Y' B' X' T' l'; (try k_lt l'); k_cells Y'; (try dsimp only [List.cons_append, List.nil_append] at N'); (try dsimp only); (try k_fold)))
  have hL : g'.IsList S items.toArray := by
    obtain ⟨o, ho, r⟩ := hpre
    exact ⟨o, hrest' _ _ ho (fun q => nomatch q), r⟩
  (repeat' (first | (k_unfold; (try dsimp only)) | ((fail_if_success (with_reducible show wpAny _ _ (exec (Stmt.For _ _ _ _ _) _) _ _ _)); (first | ((with_reducible show wpAny _ _ (eval (Expr.Name _ _) _) _ _ _); (k_here; k_dflt (first | (refine' name_local ?zF ?z1 ?z2 ?z3 ?z4 ?_; (case zF => assumption); (case z1 => rfl); (case z2 => rfl); (case z3 => (first | rfl | assumption)); (case z4 => rfl)) | (refine' name_cell ?zN rfl rfl rfl ?zm ?zd rfl ?_; (case zN => assumption); (case zm => k_mem); (case zd => assumption)) | (refine' name_free ?zN rfl rfl rfl ?zm ?zd rfl rfl ?_; (case zN => assumption); (case zm => k_mem); (case zd => assumption)) | (refine' name_built ?zF ?zX ?zT ?ze ?zv ?zn ?_ ?zg ?zb ?zk ?zx ?zd; (case zF => k_asm); (case zX => k_asm); (case zT => k_asm); (case ze => k_is); (case zv => boot_by_name); (case zn => decide); (case zg => rfl); (case zb => rfl); (case zk => rfl); (case zx => rfl); (case zd => rfl))))) | walk1))))
  (rename IntsAre _ (List.take _ _) => hds)
  (rename (List.take _ _).length = _ => hC)
  (rename (List.take _ _).length ≤ _ => hLe)
  have hlen4 : (List.take (4 + (↑xs.length : Int).fmod 2).toNat [(80 : Int), 417, 700, 362, 580]).length = (4 + (↑xs.length : Int).fmod 2).toNat := by
    rw [hC]
    have := Int.fmod_eq_emod_of_nonneg (↑xs.length : Int) (show (0 : Int) ≤ 2 by decide)
    have h5 : ([80, 417, 700, 362, 580] : List Int).length = 5 := rfl
    rw [h5]
    omega
  clear hC hLe
  generalize List.take (4 + (↑xs.length : Int).fmod 2).toNat [(80 : Int), 417, 700, 362, 580] = ds0 at hds hlen4
  obtain ⟨n, hn⟩ : ∃ n, n = (4 + (↑xs.length : Int).fmod 2).toNat := ⟨_, rfl⟩
  rw [← hn] at hlen4
  have hn4 : 4 ≤ n ∧ n ≤ 5 := by
    have := Int.fmod_eq_emod_of_nonneg (↑xs.length : Int) (show (0 : Int) ≤ 2 by decide)
    omega
  (rename Fr _ _ _ _ => lF)
  (with_unfolding_all refine' For_invVF lF ?k1 ?k2 ?_; (case k1 => exact rfl); (case k2 => exact rfl); k_whole)
  (repeat' (first | (k_unfold; (try dsimp only)) | ((fail_if_success (with_reducible show wpAny _ _ ((pyIter (Value.ref _))) _ _ _)); (first | ((with_reducible show wpAny _ _ (eval (Expr.Name _ _) _) _ _ _); (k_here; k_dflt (first | (refine' name_local ?zF ?z1 ?z2 ?z3 ?z4 ?_; (case zF => assumption); (case z1 => rfl); (case z2 => rfl); (case z3 => (first | rfl | assumption)); (case z4 => rfl)) | (refine' name_cell ?zN rfl rfl rfl ?zm ?zd rfl ?_; (case zN => assumption); (case zm => k_mem); (case zd => assumption)) | (refine' name_free ?zN rfl rfl rfl ?zm ?zd rfl rfl ?_; (case zN => assumption); (case zm => k_mem); (case zd => assumption)) | (refine' name_built ?zF ?zX ?zT ?ze ?zv ?zn ?_ ?zg ?zb ?zk ?zx ?zd; (case zF => k_asm); (case zX => k_asm); (case zT => k_asm); (case ze => k_is); (case zv => boot_by_name); (case zn => decide); (case zg => rfl); (case zb => rfl); (case zk => rfl); (case zx => rfl); (case zd => rfl))))) | walk1))))
  (rename Fr _ _ _ _ => lF)
  (rename News _ _ _ _ => lN)
  (rename IsRange _ _ _ _ _ _ _ _ => rgX)
  (with_unfolding_all refine' loop_ints (n := min 60 xs.length) ?hh (by exact rgX) ?sm ?rs lF lN hds hlen4 ?turn ?done)
  case hh => rfl
  case sm => split <;> exact small_one (by omega) (by omega) (by omega) (by omega)
  case rs =>
    have e : (if (↑xs.length : Int) < 60 then (↑xs.length : Int) else 60) = 0 + ((min 60 xs.length : Nat) : Int) := by split <;> omega
    rw [e, rangeSize_nat]; omega
  case turn =>
    clear lF lN rgX
    intro k t vals c ds h tk own k0 k1 ho hI' hl' F1 N1
    (repeat' (first | (k_unfold; (try dsimp only)) | (k_end; wrow_close) | (first | ((with_reducible show wpAny _ _ (eval (Expr.Name _ _) _) _ _ _); (k_here; k_dflt (first | (refine' name_local ?zF ?z1 ?z2 ?z3 ?z4 ?_; (case zF => assumption); (case z1 => rfl); (case z2 => rfl); (case z3 => (first | rfl | assumption)); (case z4 => rfl)) | (refine' name_cell ?zN rfl rfl rfl ?zm ?zd rfl ?_; (case zN => assumption); (case zm => k_mem); (case zd => assumption)) | (refine' name_free ?zN rfl rfl rfl ?zm ?zd rfl rfl ?_; (case zN => assumption); (case zm => k_mem); (case zd => assumption)) | (refine' name_built ?zF ?zX ?zT ?ze ?zv ?zn ?_ ?zg ?zb ?zk ?zx ?zd; (case zF => k_asm); (case zX => k_asm); (case zT => k_asm); (case ze => k_is); (case zv => boot_by_name); (case zn => decide); (case zg => rfl); (case zb => rfl); (case zk => rfl); (case zx => rfl); (case zd => rfl))))) | walk1) | (dsimp only; (first | ((with_reducible show wpAny _ _ (eval (Expr.Name _ _) _) _ _ _); (k_here; k_dflt (first | (refine' name_local ?zF ?z1 ?z2 ?z3 ?z4 ?_; (case zF => assumption); (case z1 => rfl); (case z2 => rfl); (case z3 => (first | rfl | assumption)); (case z4 => rfl)) | (refine' name_cell ?zN rfl rfl rfl ?zm ?zd rfl ?_; (case zN => assumption); (case zm => k_mem); (case zd => assumption)) | (refine' name_free ?zN rfl rfl rfl ?zm ?zd rfl rfl ?_; (case zN => assumption); (case zm => k_mem); (case zd => assumption)) | (refine' name_built ?zF ?zX ?zT ?ze ?zv ?zn ?_ ?zg ?zb ?zk ?zx ?zd; (case zF => k_asm); (case zX => k_asm); (case zT => k_asm); (case ze => k_is); (case zv => boot_by_name); (case zn => decide); (case zg => rfl); (case zb => rfl); (case zk => rfl); (case zx => rfl); (case zd => rfl))))) | walk1)) | (leave1; walk_say "STEP leave1"; try dsimp only) | fail "no step"))
    exact IntsEnd.intro (by assumption) (by assumption) (by assumption) (by simp only [List.length_set]; assumption)
  case done =>
    clear lF lN rgX
    intro m₁ vals c ds h tk hI' hl' F1 N1
    (repeat' (first | (k_unfold; (try dsimp only)) | ((fail_if_success (with_reducible show wpAny _ _ (eval (Expr.ListComp _ _ _ _) _) _ _ _)); (first | ((with_reducible show wpAny _ _ (eval (Expr.Name _ _) _) _ _ _); (k_here; k_dflt (first | (refine' name_local ?zF ?z1 ?z2 ?z3 ?z4 ?_; (case zF => assumption); (case z1 => rfl); (case z2 => rfl); (case z3 => (first | rfl | assumption)); (case z4 => rfl)) | (refine' name_cell ?zN rfl rfl rfl ?zm ?zd rfl ?_; (case zN => assumption); (case zm => k_mem); (case zd => assumption)) | (refine' name_free ?zN rfl rfl rfl ?zm ?zd rfl rfl ?_; (case zN => assumption); (case zm => k_mem); (case zd => assumption)) | (refine' name_built ?zF ?zX ?zT ?ze ?zv ?zn ?_ ?zg ?zb ?zk ?zx ?zd; (case zF => k_asm); (case zX => k_asm); (case zT => k_asm); (case ze => k_is); (case zv => boot_by_name); (case zn => decide); (case zg => rfl); (case zb => rfl); (case zk => rfl); (case zx => rfl); (case zd => rfl))))) | walk1))))
    (rename Fr _ _ _ _ => lF)
    (rename News _ _ _ _ => lN)
    (with_unfolding_all refine' comp_rows (fun p q => ds.map fun d => (d.fdiv p).fmod q) [(1, 3), (3, 3), (9, 5), (45, 5), (225, 5)] lF ?xc ?xp ?xk ?xn ?xa ?xb ?xka ?xkb ?xh ?xe ?xs)
    case xc => with_unfolding_all exact rfl
    case xp => intro h; rfl
    case xk => rfl
    case xn => decide
    case xa => intro C; rfl
    case xb => intro C; rfl
    case xka => intro C; rfl
    case xkb => intro C; rfl
    case xh => rfl
    case xs => intro x; rfl
    case xe =>
      refine' nameX_L lF ?nv ?_ ?na ?nb
      case na => rfl
      case nb => rfl
      case nv => rfl
      refine' ⟨_, _, _, _, rfl, lF, lN, ?xm, ?xz, ?xl, ?xi, ?xt, ?xf⟩
      case xm => k_mem
      case xz => (rw [sizeLine_eq]; simp)
      case xl => rfl
      case xi =>
        intro i v hv
        rcases i with _ | _ | _ | _ | _ | i
        · cases hv; exact ⟨_, _, _, _, _, _, rfl, by k_mem, rfl⟩
        · cases hv; exact ⟨_, _, _, _, _, _, rfl, by k_mem, rfl⟩
        · cases hv; exact ⟨_, _, _, _, _, _, rfl, by k_mem, rfl⟩
        · cases hv; exact ⟨_, _, _, _, _, _, rfl, by k_mem, rfl⟩
        · cases hv; exact ⟨_, _, _, _, _, _, rfl, by k_mem, rfl⟩
        · cases hv
      case xt =>
        clear lF lN
        intro C p q tp tq h tk tail mc o1 o2 E' hpq lC ltC d1 d2 F1 N1
        dsimp only [List.cons_append, List.nil_append] at N1
        have hpq' : 0 < p ∧ p ≤ 225 ∧ 0 < q ∧ q ≤ 5 := by
          simp only [List.mem_cons, Prod.mk.injEq, List.not_mem_nil, or_false] at hpq
          omega
        (with_unfolding_all refine' comp_ints (fun d => (d.fdiv p).fmod q) F1 ?yc ?yp ?yk ?yn ?yx ?yh ?ye ?ys)
        case yc => with_unfolding_all exact rfl
        case yp => intro h; rfl
        case yk => rfl
        case yn => decide
        case yx => rfl
        case yh => rfl
        case ys => intro x; rfl
        case ye =>
          refine' name_cell N1 rfl rfl rfl ?zm ?zd rfl ?_
          case zm => k_mem
          case zd => assumption
          refine' ⟨_, _, _, _, _, rfl, F1, N1, ?mm, hI', ?sz, ?tu, ?fi⟩
          case mm => k_mem
          case sz => (rw [sizeLine_eq, hI'.length]; omega)
          case tu =>
            clear F1 N1
            intro C2 d t h tk tail2 mc2 E2 hd lC2 ltC2 F2 N2
            dsimp only [List.cons_append, List.nil_append] at N2
            (repeat' (first | (k_unfold; (try dsimp only)) | (k_end; wrow_close) | (first | ((with_reducible show wpAny _ _ (eval (Expr.Name _ _) _) _ _ _); (k_here; k_dflt (first | (refine' name_local ?zF ?z1 ?z2 ?z3 ?z4 ?_; (case zF => assumption); (case z1 => rfl); (case z2 => rfl); (case z3 => (first | rfl | assumption)); (case z4 => rfl)) | (refine' name_cell ?zN rfl rfl rfl ?zm ?zd rfl ?_; (case zN => assumption); (case zm => k_mem); (case zd => assumption)) | (refine' name_free ?zN rfl rfl rfl ?zm ?zd rfl rfl ?_; (case zN => assumption); (case zm => k_mem); (case zd => assumption)) | (refine' name_built ?zF ?zX ?zT ?ze ?zv ?zn ?_ ?zg ?zb ?zk ?zx ?zd; (case zF => k_asm); (case zX => k_asm); (case zT => k_asm); (case ze => k_is); (case zv => boot_by_name); (case zn => decide); (case zg => rfl); (case zb => rfl); (case zk => rfl); (case zx => rfl); (case zd => rfl))))) | walk1) | (dsimp only; (first | ((with_reducible show wpAny _ _ (eval (Expr.Name _ _) _) _ _ _); (k_here; k_dflt (first | (refine' name_local ?zF ?z1 ?z2 ?z3 ?z4 ?_; (case zF => assumption); (case z1 => rfl); (case z2 => rfl); (case z3 => (first | rfl | assumption)); (case z4 => rfl)) | (refine' name_cell ?zN rfl rfl rfl ?zm ?zd rfl ?_; (case zN => assumption); (case zm => k_mem); (case zd => assumption)) | (refine' name_free ?zN rfl rfl rfl ?zm ?zd rfl rfl ?_; (case zN => assumption); (case zm => k_mem); (case zd => assumption)) | (refine' name_built ?zF ?zX ?zT ?ze ?zv ?zn ?_ ?zg ?zb ?zk ?zx ?zd; (case zF => k_asm); (case zX => k_asm); (case zT => k_asm); (case ze => k_is); (case zv => boot_by_name); (case zn => decide); (case zg => rfl); (case zb => rfl); (case zk => rfl); (case zx => rfl); (case zd => rfl))))) | walk1)) | (leave1; walk_say "STEP leave1"; try dsimp only) | fail "no step"))
            (unfold EltEnd; exact ⟨⟨_, rfl⟩, _, _, rfl, F2, N2⟩)
          case fi =>
            intro D2 ys h tk hys ltD F2 N2
            exact ⟨_, _, _, _, rfl, hys, ltD, rfl, F2, N2⟩
      case xf =>
        clear lF lN
        intro R ys made h tk hR ltD hmade F1 N1
        obtain ⟨a1, a2, a3, a4, a5, v1, v2, v3, v4, v5, rfl, rfl, i1, i2, i3, i4, i5⟩ := hR.five
        clear hR ltD hmade
        dsimp only [List.cons_append, List.nil_append] at N1
        (repeat' (first | (k_unfold; (try dsimp only)) | (k_end; wrow_close) | (first | ((with_reducible show wpAny _ _ (eval (Expr.Name _ _) _) _ _ _); (k_here; k_dflt (first | (refine' name_local ?zF ?z1 ?z2 ?z3 ?z4 ?_; (case zF => assumption); (case z1 => rfl); (case z2 => rfl); (case z3 => (first | rfl | assumption)); (case z4 => rfl)) | (refine' name_cell ?zN rfl rfl rfl ?zm ?zd rfl ?_; (case zN => assumption); (case zm => k_mem); (case zd => assumption)) | (refine' name_free ?zN rfl rfl rfl ?zm ?zd rfl rfl ?_; (case zN => assumption); (case zm => k_mem); (case zd => assumption)) | (refine' name_built ?zF ?zX ?zT ?ze ?zv ?zn ?_ ?zg ?zb ?zk ?zx ?zd; (case zF => k_asm); (case zX => k_asm); (case zT => k_asm); (case ze => k_is); (case zv => boot_by_name); (case zn => decide); (case zg => rfl); (case zb => rfl); (case zk => rfl); (case zx => rfl); (case zd => rfl))))) | walk1) | (dsimp only; (first | ((with_reducible show wpAny _ _ (eval (Expr.Name _ _) _) _ _ _); (k_here; k_dflt (first | (refine' name_local ?zF ?z1 ?z2 ?z3 ?z4 ?_; (case zF => assumption); (case z1 => rfl); (case z2 => rfl); (case z3 => (first | rfl | assumption)); (case z4 => rfl)) | (refine' name_cell ?zN rfl rfl rfl ?zm ?zd rfl ?_; (case zN => assumption); (case zm => k_mem); (case zd => assumption)) | (refine' name_free ?zN rfl rfl rfl ?zm ?zd rfl rfl ?_; (case zN => assumption); (case zm => k_mem); (case zd => assumption)) | (refine' name_built ?zF ?zX ?zT ?ze ?zv ?zn ?_ ?zg ?zb ?zk ?zx ?zd; (case zF => k_asm); (case zX => k_asm); (case zT => k_asm); (case ze => k_is); (case zv => boot_by_name); (case zn => decide); (case zg => rfl); (case zb => rfl); (case zk => rfl); (case zx => rfl); (case zd => rfl))))) | walk1)) | (leave1; walk_say "STEP leave1"; try dsimp only) | fail "no step"))
        exact hret _ _ _ _ (⟨R, a1, a2, a3, a4, a5, v1, v2, v3, v4, v5, ds, rfl, rfl, ⟨by omega, by omega⟩, i1, i2, i3, i4, i5⟩) (by k_asm) (by first | k_asm | (refine' cb_drop ?cbN ?cbS; (case cbN => assumption); (case cbS => kcj_all))) (fun b o e hb => Fr.keep (h₀ := g') (L := L') (by assumption) b o (hrest' b o e hb)) (new_of (g := g') (L' := L') hrest' (by first | assumption | (refine' cb_drop ?cbN ?cbS; (case cbN => assumption); (case cbS => kcj_all))))
end
end Mine
end

section
open PySem PySem.Spec PySem.Calls PySem.W PyProof.Rows PyProof.Rows.LCg
namespace Mine
section
variable {prog : Program} {w : World} {A : Around} {s : Shared} {h₀ : Heap}
/-- a pair of ints is unpacked into two locals -/
theorem assign_pair {E : Value → Shared → Prop} {cenv : Env} {C t : Addr} {a b : Str} {pa pb tpos : Pos} {x1} {p q : Int} {tp tq : Tok} {nt : Nat} {mc : Str → Option Value} {nw : List (Addr × Obj)} {Q : Unit → Shared → Prop} (hh : A.handled = none) (hC : cenv.locals = C) (hk : cenv.scope.kind = .function)
    (ha : cenv.kindOf a = some .local) (hb : cenv.kindOf b = some .local) (F : Fr h₀ C s.heap mc) (N : News h₀ C s.heap nw) (ht : (t, ({ cls := .type "tuple", data := .seq #[.int p tp, .int q tq] nt } : Obj)) ∈ nw)
    (h : ∀ h', Fr h₀ C h' (fun y => if y = b then some (.int q tq) else if y = a then some (.int p tp) else mc y) → News h₀ C h' nw → ∀ tk, Q () { s with heap := h', toks := tk }) :
    wpAny (model prog w) A (assign (.Tuple [.Name a pa, .Name b pb] x1 tpos) cenv (.ref t)) Q E s := by
  subst hC
  have zt := N _ ht
  have hT : IsTup s.heap t #[.int p tp, .int q tq] := ⟨_, zt.1, rfl, nt, rfl⟩
  refine assign_Tuple_tuple hh hT rfl rfl fun h₅ he => ?_
  have he' : ∀ b o, s.heap.get? b = some o → h₅.get? b = some o := fun b o e => he b o (Nat.ne_of_lt (Heap.lt_size e)) e
  have F₅ := F.keeps he'
  have N₅ : News h₀ cenv.locals h₅ nw := fun p hp => ⟨he' _ _ (N p hp).1, (N p hp).2⟩
  have hcm : ¬ (cenv.scope.kind == ScopeKind.class || (cenv.scope.kind == ScopeKind.module && cenv.locals != cenv.globals)) = true := by simp [hk]
  refine assignInOrder_cons (wpAny_assign_Name (wpAny_storeName_local ha F₅.ns (fun h₆ hn₆ hs₆ => ?_) (by simp [hk])))
  have F₆ := F₅.set hn₆ hs₆
  have N₆ := N₅.set hs₆
  refine assignInOrder_cons (wpAny_assign_Name (wpAny_storeName_local hb F₆.ns (fun h₇ hn₇ hs₇ => ?_) (by simp [hk])))
  exact assignInOrder_nil (h _ (F₆.set hn₇ hs₇) (N₆.set hs₇) _)
/-- a list comprehension over a list of pairs of ints, whose elements are ints -/
theorem comp_pairs {env : Env} {elt iter : Expr} {a b : Str} {pa pb tpos : Pos} {x1} {scope : Scope} {cl : List (Str × Addr)} {pos : Pos} {L : Addr} {m : Str → Option Value} {Q : Value → Shared → Prop} {E : Value → Shared → Prop} (f : Int → Int → Int) (pairs : List (Int × Int))
    (_F₀ : Fr h₀ L s.heap m) (hclos : closureFor scope env = pure cl) (hpc : ∀ h, pushCells h scope.names = h) (hkind : scope.kind = .function) (hnames : ∀ y ∈ scope.names, y.2 = .local → scope.names.lookup y.1 = some .local)
    (hxa : scope.names.lookup a = some .local) (hxb : scope.names.lookup b = some .local)
    (hh : A.handled = none)
    (h : wpAny (model prog w) A (eval iter env) (fun xv s₁ => ∃ ax, ∃ its : Array Value, ∃ k news, xv = .ref ax ∧ Fr h₀ L s₁.heap m ∧ News h₀ L s₁.heap news ∧ (ax, listOf its k) ∈ news ∧ its.size ≤ sizeLine ∧ its.size = pairs.length ∧
      (∀ (i : Nat) (v : Value), its[i]? = some v → ∃ t p q tp tq nt, v = .ref t ∧ (t, ({ cls := .type "tuple", data := .seq #[.int p tp, .int q tq] nt } : Obj)) ∈ news ∧ pairs[i]? = some (p, q)) ∧
      (∀ C p q tp tq h tk tail (mc : Str → Option Value) (E' : Value → Shared → Prop), (p, q) ∈ pairs → @LT.lt Nat _ L C → (∀ r ∈ news, @LT.lt Nat _ r.1 C) → Fr h₀ C h (fun y => if y = b then some (.int q tq) else if y = a then some (.int p tp) else mc y) → News h₀ C h (news ++ tail) →
        wpAny (model prog w) A (eval elt (compEnvK scope cl C env)) (EltEnd h₀ C (fun y => if y = b then some (.int q tq) else if y = a then some (.int p tp) else mc y) (news ++ tail) { s₁ with heap := h, toks := tk } (fun y => ∃ t', y = .int (f p q) t')) E' { s₁ with heap := h, toks := tk }) ∧
      ∀ D ys h tk, IntsAre ys (pairs.map fun q => f q.1 q.2) → (∀ r ∈ news, @LT.lt Nat _ r.1 D) → Fr h₀ L h m → News h₀ L h ((D, lst ys) :: news) → Q (.ref D) { s₁ with heap := h, toks := tk }) E s)
    (hs : ∀ x, foldedSetIterable iter env x = pure x := by intro _; rfl) :
    wpAny (model prog w) A (eval (.ListComp elt [⟨.Tuple [.Name a pa, .Name b pb] x1 tpos, iter, [], 0⟩] scope pos) env) Q E s := by
  refine comp_setup (h₀ := h₀) (L := L) (m := m) 0 hclos hpc hkind hnames (wpAny_mono h (fun xv s₁ h₁ => ?_) fun _ _ e => e) hh hs
  obtain ⟨ax, its, k, news, rfl, F, N, hax, hsz, hlen, hits, turn, fin⟩ := h₁
  refine ⟨ax, its, news, rfl, F, N, ⟨k, hax⟩, ?_⟩
  intro I C D oL H tk hLI hID hDC hnI hoL hit hI₀ FC NC offI offL
  have Wl := Walks.list (prog := prog) (w := w) (A := A) hh I ax (Nat.ne_of_lt (hnI _ hax)) its
  refine comp_loop (G := eval elt (compEnvK scope cl C env) >>= fun x => call (.builtin "list.append") [.ref D, x] >>= fun _ => pure ()) (iter := iter) (target := .Tuple [.Name a pa, .Name b pb] x1 tpos)
    (fun i _ nw => ∃ ys, nw = (L, oL) :: (D, lst ys) :: news ∧ IntsAre ys ((pairs.take i).map fun q => f q.1 q.2)) rfl Wl (fun i h st => by obtain ⟨o, e, _⟩ := st.1; exact ⟨o, e⟩) ?_ ?_ FC NC offI (Ne.symm (Nat.ne_of_lt (Nat.lt_trans hID hDC))) hI₀ ?_ ⟨[], rfl, .nil⟩ ?_ ?_
  · intro i h h' o _ nw st e e' keep N' hj
    obtain ⟨ys, rfl, _⟩ := hj
    obtain ⟨o', q, r⟩ := st.1
    rw [e] at q; cases q
    exact ⟨⟨o, e', r⟩, PySem.IsL.isList (n := k) (N' _ (.tail _ (.tail _ hax))).1⟩
  · intro i v h tk Q' E' hP st hQ
    obtain ⟨t, p, q, tp, tq, nt, rfl, _⟩ := hits i v hP
    exact wpAny_letOwnedTupleGo_listiter st.1 hQ
  · exact ⟨hit, PySem.IsL.isList (n := k) (NC _ (.tail _ (.tail _ hax))).1⟩
  · rintro i v nw mc h tk oI E' hi hP ⟨ys, rfl, hys⟩ F₁ N₁ off₁
    obtain ⟨t, p, q, tp, tq, nt, rfl, hmt, hpq⟩ := hits i v hP
    refine assign_pair (C := C) hh rfl hkind (lookup_relabel_local hxa) (lookup_relabel_local hxb) F₁ N₁ (.tail _ (.tail _ (.tail _ hmt))) fun h₂ F₂ N₂ tk₂ => ?_
    refine wpAny_bind (wpAny_mono (turn C p q tp tq h₂ tk₂ [(I, oI), (L, oL), (D, lst ys)] mc E' (List.mem_of_getElem? hpq) (Nat.lt_trans hLI (Nat.lt_trans hID hDC)) (fun p hp => Nat.lt_trans (hnI p hp) (Nat.lt_trans hID hDC)) F₂ (fun p hp => N₂ p (by
      rcases List.mem_append.mp hp with hp | hp
      · exact .tail _ (.tail _ (.tail _ hp))
      · simp only [List.mem_cons, List.not_mem_nil, or_false] at hp
        rcases hp with rfl | rfl | rfl
        · exact .head _
        · exact .tail _ (.head _)
        · exact .tail _ (.tail _ (.head _))))) ?_ fun _ _ e => e)
    rintro y s₃ ⟨⟨t', rfl⟩, h₃, tk₃, rfl, F₃, N₃⟩
    have zD := N₃ (D, lst ys) (List.mem_append.mpr (.inr (.tail _ (.tail _ (.head _)))))
    have zI := N₃ (I, oI) (List.mem_append.mpr (.inr (.head _)))
    have zL := N₃ (L, oL) (List.mem_append.mpr (.inr (.tail _ (.head _))))
    have ly : ys.length = i := by
      have hi' : i < its.size := hi
      rw [hlen] at hi'
      rw [hys.length, List.length_map, List.length_take]; omega
    refine wpAny_bind (append_at (hsz := by show ys.toArray.size ≤ sizeLine; rw [List.size_toArray, ly]; exact Nat.le_trans (Nat.le_of_lt hi) hsz) zD.1 fun h₅ hs₅ hD₅ => wpAny_pure ?_)
    refine ⟨h₅, tk₃, _, (L, oL) :: (D, lst (ys ++ [.int (f p q) t'])) :: news, rfl, F₃.change hs₅ zD.2.1 zD.2.2, ?_, ?_, ys ++ [.int (f p q) t'], rfl, ?_⟩
    · intro p hp
      rcases List.mem_cons.mp hp with rfl | hp
      · exact ⟨hs₅.extBut _ _ (Ne.symm (off₁ (D, lst ys) (.tail _ (.head _)))) zI.1, zI.2⟩
      rcases List.mem_cons.mp hp with rfl | hp
      · exact ⟨hs₅.extBut _ _ (Ne.symm (offL (D, lst []) (.head _))) zL.1, zL.2⟩
      rcases List.mem_cons.mp hp with rfl | hp
      · exact ⟨hD₅.trans (congrArg some (lst_snoc ys _)), zD.2⟩
      · have z := N₃ p (List.mem_append.mpr (.inl hp))
        exact ⟨hs₅.extBut _ _ (Nat.ne_of_lt (Nat.lt_trans (hnI p hp) hID)) z.1, z.2⟩
    · intro p hp
      rcases List.mem_cons.mp hp with rfl | hp
      · exact off₁ _ (.head _)
      rcases List.mem_cons.mp hp with rfl | hp
      · exact off₁ (D, lst ys) (.tail _ (.head _))
      · exact off₁ p (.tail _ (.tail _ hp))
    · rw [List.take_add_one, hpq]
      simpa using ints_snoc (t := t') hys
  · rintro h tk mc nw ⟨ys, rfl, hys⟩ F' N' off'
    refine ⟨rfl, h, tk, mc, (D, lst ys) :: news, rfl, F', N', fun p hp => ?_, fun h' tk' F'' N'' => fin D ys h' tk' ?_ (fun p hp => Nat.lt_trans (hnI p hp) hID) F'' N''⟩
    · rcases List.mem_cons.mp hp with rfl | hp
      · exact offL (D, lst []) (.head _)
      · exact offL p (.tail _ hp)
    · have : pairs.take its.size = pairs := by rw [hlen, List.take_length]
      rw [this] at hys; exact hys
end
end Mine
end

section
open PySem PySem.Spec PySem.Calls PySem.W PyProof.Rows PyProof.Rows.LCg
namespace Mine
section
variable {prog : Program} {w : World} {A : Around} {s : Shared} {h₀ : Heap} {R : Result → Shared → Prop}
theorem compStart_one {elt : Expr} {t0 i0 t1 i1 : Expr} {scope : Scope} {pos : Pos} {it acc : Value} {env : Env}
    (h0 : codeAny (model prog w) A (.compLoop (.ListComp elt [⟨t0, i0, [], 0⟩, ⟨t1, i1, [], 0⟩] scope pos) 1 it acc env) R s)
    (h : wpAny (model prog w) A (pyIter it) (fun it' s' => codeAny (model prog w) A (.compLoop (.ListComp elt [⟨t0, i0, [], 0⟩, ⟨t1, i1, [], 0⟩] scope pos) 1 it' acc env) R s')
      (notedBy (model prog w) A env fun x s' => R (.error x) s') s) :
    codeAny (model prog w) A (.compStart (.ListComp elt [⟨t0, i0, [], 0⟩, ⟨t1, i1, [], 0⟩] scope pos) 1 it acc env) R s := by
  refine codeAny_of_tree ?_
  show wpAny _ _ ((compStart (.ListComp elt [⟨t0, i0, [], 0⟩, ⟨t1, i1, [], 0⟩] scope pos) 1 it acc env).onRaise (fun x => do noteFrame x env; standAt theWindowsPlace)) _ _ s
  refine wpAny_notedAt ?_
  unfold compStart
  show wpAny _ _ (ask >>= _) _ _ s
  refine wpAny_bind (wpAny_askSetting (wpAny_ite ?_))
  split
  · first
      | exact wpAny_bind (wpAny_pure (wpAny_pure (And.intro rfl h0)))
      | exact wpAny_pure (And.intro rfl h0)
  · first
      | exact wpAny_bind (wpAny_rule (wpAny_bind (wpAny_standAt (wpAny_bind (wpAny_mono h (fun it' s' h' => wpAny_pure (And.intro rfl h')) fun _ _ x => x)))))
      | (refine wpAny_bind (wpAny_rule ?_); show wpAny _ _ (standAt i1.pos >>= _) _ _ s; exact wpAny_bind (wpAny_standAt (wpAny_bind (wpAny_mono h (fun it' s' h' => wpAny_pure (And.intro rfl h')) fun _ _ x => x))))
theorem compTurn_zero (elt t0 i0 t1 i1 : Expr) (scope : Scope) (pos : Pos) (it acc : Value) (env : Env) :
    compTurn (.ListComp elt [⟨t0, i0, [], 0⟩, ⟨t1, i1, [], 0⟩] scope pos) 0 it acc env = (standAt i0.pos >>= fun _ => pyNext it >>= fun r => match r with
      | none => pure (.done .next)
      | some v => letOwnedTupleGo t0 it v >>= fun _ => assign t0 env v >>= fun _ =>
        eval i1 env >>= fun x => standAt i1.pos >>= fun _ => foldedSetIterable i1 env x >>= fun x => holding [x] (pyIter x) >>= fun it' => runOwn (.compStart (.ListComp elt [⟨t0, i0, [], 0⟩, ⟨t1, i1, [], 0⟩] scope pos) 1 it' acc env) env >>= fun _ =>
          again (.compLoop (.ListComp elt [⟨t0, i0, [], 0⟩, ⟨t1, i1, [], 0⟩] scope pos) 0 it acc env)) := by rfl
theorem compTurn_one (elt t0 i0 t1 i1 : Expr) (scope : Scope) (pos : Pos) (it acc : Value) (env : Env) :
    compTurn (.ListComp elt [⟨t0, i0, [], 0⟩, ⟨t1, i1, [], 0⟩] scope pos) 1 it acc env = (standAt i1.pos >>= fun _ => pyNext it >>= fun r => match r with
      | none => pure (.done .next)
      | some v => letOwnedTupleGo t1 it v >>= fun _ => assign t1 env v >>= fun _ =>
        (eval elt env >>= fun x => call (.builtin "list.append") [acc, x] >>= fun _ => pure ()) >>= fun _ =>
          again (.compLoop (.ListComp elt [⟨t0, i0, [], 0⟩, ⟨t1, i1, [], 0⟩] scope pos) 1 it acc env)) := by rfl
end
end Mine
end

section
open PySem PySem.Spec PySem.Calls PySem.W PyProof.Rows PyProof.Rows.LCg
namespace Mine
section
variable {prog : Program} {w : World} {A : Around} {s : Shared} {h₀ : Heap}
theorem comp_setup_use {env : Env} {elt target iter : Expr} {rest : List Comprehension} {scope : Scope} {cl : List (Str × Addr)} {pos spos py : Pos} {y : Str} {L : Addr} {m : Str → Option Value} {Q : Flow → Shared → Prop} {E : Value → Shared → Prop} (kc : Nat) (hLe : env.locals = L)
    (hsw : swapsWith (.ListComp elt (⟨target, iter, [], 0⟩ :: rest) scope pos) (some (.Name y py)) spos.line env = pure true) (hy : env.kindOf y = some .local) (hp : (env.scope.kind == .class || (env.scope.kind == .module && env.locals != env.globals)) = false)
    (hclos : closureFor scope env = pure cl) (hpc : ∀ h, pushCells h scope.names = addCells kc h) (hkind : scope.kind = .function) (hnames : ∀ y ∈ scope.names, y.2 = .local → scope.names.lookup y.1 = some .local)
    (h : wpAny (model prog w) A (eval iter env) (fun xv s₁ => ∃ ax its news, xv = .ref ax ∧ Fr h₀ L s₁.heap m ∧ News h₀ L s₁.heap news ∧ (∃ k, (ax, listOf its k) ∈ news) ∧
      ∀ I C D oL H tk, @LT.lt Nat _ L I → @LT.lt Nat _ I D → @LT.lt Nat _ D C → (∀ p ∈ news, @LT.lt Nat _ p.1 I) → NsObj oL m → H.IsListIter I ax 0 → h₀.get? I = none → Fr h₀ C H (fun _ => none) →
        News h₀ C H ((L, oL) :: (D, lst []) :: (cellLedger (C + 1) kc ++ news)) → (∀ p ∈ (L, oL) :: (D, lst []) :: (cellLedger (C + 1) kc ++ news), p.1 ≠ I) → (∀ p ∈ (D, lst []) :: (cellLedger (C + 1) kc ++ news), p.1 ≠ L) →
        codeAny (model prog w) A (.compLoop (.ListComp elt (⟨target, iter, [], 0⟩ :: rest) scope pos) 0 (.ref I) (.ref D) (compEnvK scope cl C env)) (CompDone h₀ L (fun z => if z = y then some (.ref D) else m z) C D oL (fun _ s₂ => Q .next s₂) s₁) { s₁ with heap := H, toks := tk }) E s)
    (hh : A.handled = none)
    (hs : ∀ x, foldedSetIterable iter env x = pure x := by intro _; rfl) :
    wpAny (model prog w) A (exec (.Assign [.Name y py] (.ListComp elt (⟨target, iter, [], 0⟩ :: rest) scope pos) spos) env) Q E s := by
  rw [exec_Assign_Name_used _ _ _ _ hsw]
  refine wpAny_bind (wpAny_standAt (wpAny_bind ?_))
  show wpAny _ A (do let _ ← comprehension (.ListComp elt (⟨target, iter, [], 0⟩ :: rest) scope pos) scope env _ (newList []) false (eval iter env) (some (assign (.Name y py) env))) _ _ s
  refine wpAny_bind (wpAny_mono (wpAny_comprehension_free (use := some (assign (.Name y py) env)) (Q := fun _ s' => Q .next s') rfl hs hclos hkind hnames
    (wpAny_mono h (fun xv s₁ h₁ => ?_) fun _ _ e => e)) (fun _ s' hq => wpAny_pure (wpAny_pure hq)) fun _ _ e => e)
  obtain ⟨ax, its, news, rfl, F, N, ⟨k, hax⟩, K⟩ := h₁
  have hl : s₁.heap.IsList ax its := PySem.IsL.isList (n := k) (N _ hax).1
  have hlt : ax < s₁.heap.objs.size := Heap.lt_size (N _ hax).1
  refine wpAny_pyIter_list hl ?_
  refine wpAny_newObj_type (newEnv_comp ?_)
  dsimp only
  rw [hpc]
  generalize hI : s₁.heap.objs.size = I at *
  have e1 : (s₁.heap.push { cls := .type "list_iterator", data := .fields #[.ref ax, .int 0 0] }).objs.size = I + 1 := by rw [Heap.size_push, hI]
  generalize hH1 : s₁.heap.push { cls := .type "list_iterator", data := .fields #[.ref ax, .int 0 0] } = H1 at *
  have e2 : (H1.push { cls := .type "list", dict := none, data := .seq ([] : List Value).toArray }).objs.size = I + 2 := by rw [Heap.size_push, e1]
  generalize hH2 : H1.push { cls := .type "list", dict := none, data := .seq ([] : List Value).toArray } = H2 at *
  have e3 : (H2.push { cls := .type "dict", data := .dict #[] }).objs.size = I + 3 := by rw [Heap.size_push, e2]
  have oldI : ∀ b o, s₁.heap.get? b = some o → H1.get? b = some o := fun b o e => by rw [← hH1]; exact Heap.get?_push_of_some _ e
  have old1 : ∀ b o, H1.get? b = some o → H2.get? b = some o := fun b o e => by rw [← hH2]; exact Heap.get?_push_of_some _ e
  have old2 : ∀ b o, H2.get? b = some o → (addCells kc (H2.push { cls := .type "dict", data := .dict #[] })).get? b = some o := fun b o e => addCells_keeps _ _ _ _ (Heap.get?_push_of_some _ e)
  have fresh : ∀ a, I ≤ a → s₁.heap.get? a = none := fun a ha => by
    cases e : s₁.heap.get? a with
    | none => rfl
    | some o' => exact absurd (Heap.lt_size e) (by rw [hI]; exact Nat.not_lt.mpr ha)
  have fresh₀ : ∀ a, I ≤ a → h₀.get? a = none := fun a ha => by
    cases e : h₀.get? a with
    | none => rfl
    | some o' => have := F.keep a o' e; rw [fresh a ha] at this; cases this
  have hL₀ : h₀.get? L = none := by
    cases e : h₀.get? L with
    | none => rfl
    | some o' => exact absurd (Heap.lt_size e) (Nat.not_lt.mpr F.above)
  have hLI : @LT.lt Nat _ L I := by have := F.ns.lt; rw [hI] at this; exact this
  obtain ⟨oL, heL, hoL⟩ := ns_obj F.ns
  have itI : H1.get? I = some { cls := .type "list_iterator", data := .fields #[.ref ax, .int 0 0] } := by rw [← hH1, ← hI]; exact Heap.get?_push_size _ rfl
  have itD : H2.get? (I + 1) = some (lst []) := by rw [← hH2, ← e1]; exact Heap.get?_push_size _ rfl
  have lN : ∀ p ∈ news, @LT.lt Nat _ p.1 I := fun p hp => by have := Heap.lt_size (N p hp).1; rw [hI] at this; exact this
  have hC2 : @Eq Nat H2.objs.size (I + 2) := e2
  rw [hC2, e1]
  have NC := addCells_news (h₀ := h₀) (C := I + 2) kc (H2.push { cls := .type "dict", data := .dict #[] }) (by rw [e3]; exact Nat.lt_succ_self _) (fun a ha => fresh₀ a (by rw [e3] at ha; exact Nat.le_trans (Nat.le_add_right I 3) ha))
  rw [e3] at NC
  have FC : Fr h₀ (I + 2) (addCells kc (H2.push { cls := .type "dict", data := .dict #[] })) (fun _ => none) := by
    refine ⟨(by rw [← hC2]; exact (Heap.Ns.new H2 (.type "dict")).keeps (addCells_keeps kc _)), fun b o e => old2 _ _ (old1 _ _ (oldI _ _ (F.keep b o e))), Nat.le_trans F.above (Nat.le_trans (Nat.le_of_lt hLI) (Nat.le_add_right I 2))⟩
  have NN : News h₀ (I + 2) (addCells kc (H2.push { cls := .type "dict", data := .dict #[] })) ((L, oL) :: (I + 1, lst []) :: (cellLedger (I + 3) kc ++ news)) := by
    intro p hp
    rcases List.mem_cons.mp hp with rfl | hp
    · exact ⟨old2 _ _ (old1 _ _ (oldI _ _ heL)), Nat.ne_of_lt (Nat.lt_of_lt_of_le hLI (Nat.le_add_right I 2)), hL₀⟩
    rcases List.mem_cons.mp hp with rfl | hp
    · exact ⟨old2 _ _ itD, Nat.ne_of_lt (Nat.lt_succ_self (I + 1)), fresh₀ _ (Nat.le_succ I)⟩
    rcases List.mem_append.mp hp with hp | hp
    · exact ⟨(NC p hp).1, (NC p hp).2.1, (NC p hp).2.2.1⟩
    · exact ⟨old2 _ _ (old1 _ _ (oldI _ _ (N p hp).1)), Nat.ne_of_lt (Nat.lt_of_lt_of_le (lN p hp) (Nat.le_add_right I 2)), (N p hp).2.2⟩
  have KK := K I (I + 2) (I + 1) oL _ (s₁.toks) hLI (Nat.lt_succ_self I) (Nat.lt_succ_self (I + 1)) lN hoL ⟨_, old2 _ _ (old1 _ _ itI), rfl, rfl⟩ (fresh₀ _ (Nat.le_refl _)) FC NN (fun p hp => by
      rcases List.mem_cons.mp hp with rfl | hp
      · exact Nat.ne_of_lt hLI
      rcases List.mem_cons.mp hp with rfl | hp
      · exact Ne.symm (Nat.ne_of_lt (Nat.lt_succ_self I))
      rcases List.mem_append.mp hp with hp | hp
      · exact Ne.symm (Nat.ne_of_lt (Nat.lt_of_lt_of_le (Nat.lt_add_of_pos_right (by decide)) (NC p hp).2.2.2))
      · exact Nat.ne_of_lt (lN p hp)) (fun p hp => by
      rcases List.mem_cons.mp hp with rfl | hp
      · exact Ne.symm (Nat.ne_of_lt (Nat.lt_succ_of_lt hLI))
      rcases List.mem_append.mp hp with hp | hp
      · exact Ne.symm (Nat.ne_of_lt (Nat.lt_of_lt_of_le (Nat.lt_of_lt_of_le hLI (Nat.le_add_right I 3)) (NC p hp).2.2.2))
      · exact (N p hp).2.1)
  have KQ : codeAny (model prog w) A (.compLoop (.ListComp elt (⟨target, iter, [], 0⟩ :: rest) scope pos) 0 (.ref I) (.ref (I + 1)) (compEnvK scope cl (I + 2) env)) (compPost (model prog w) A E (some (assign (.Name y py) env)) (fun _ s' => Q .next s') (.ref (I + 1)) (I + 2)) { s₁ with heap := addCells kc (H2.push { cls := .type "dict", data := .dict #[] }), toks := s₁.toks } := by
    subst hLe
    refine codeAny_mono KK ?_
    rintro r s' ⟨rfl, h', tk', mc, nw, rfl, F', N', oL', fin⟩
    have zL := N' _ (.head _)
    show wpAny _ A (assign (.Name y py) env (.ref (I + 1))) _ _ _
    refine wpAny_assign_Name (wpAny_storeName_local hy (hoL.ns zL.1) (fun h₂ hn₂ hs₂ => ?_) hp)
    refine ⟨mc, F'.ns.sameBut hs₂ (Ne.symm zL.2.1), fun h'' hs => fin h'' _ ⟨?_, fun b o e => hs.extBut _ _ (fun q => ?_) (hs₂.extBut _ _ (fun q => ?_) (F'.keep b o e)), F.above⟩ (fun p hp => ?_)⟩
    · exact hn₂.sameBut hs zL.2.1
    · rw [q, fresh₀ _ (Nat.le_add_right I 2)] at e; cases e
    · rw [q, hL₀] at e; cases e
    · have z := N' p (.tail _ hp)
      exact ⟨hs.extBut _ _ z.2.1 (hs₂.extBut _ _ (oL' p hp) z.1), oL' p hp, z.2.2⟩
  have Wl := Walks.list (prog := prog) (w := w) (A := A) hh I ax (Nat.ne_of_lt (lN _ hax)) its
  refine codeAny_compStart_list KQ (Wl.self 0 _ _ _ ⟨⟨_, old2 _ _ (old1 _ _ itI), rfl, rfl⟩, PySem.IsL.isList (n := k) (NN _ (.tail _ (.tail _ (List.mem_append.mpr (.inr hax))))).1⟩ KQ)
end
end Mine
end

section
open PySem PySem.Spec PySem.Calls PySem.W PyProof.Rows PyProof.Rows.LCg
namespace Mine
abbrev tupObj (p q : Int) (tp tq : Tok) (nt : Nat) : Obj := { cls := .type "tuple", data := .seq #[.int p tp, .int q tq] nt }
/-- made pairs of ints, in the order of their making -/
inductive PairsAre : List (Addr × Obj) → List Value → List (Int × Int) → Prop
  | nil : PairsAre [] [] []
  | snoc {made : List (Addr × Obj)} {ys : List Value} {ps : List (Int × Int)} {a : Addr} {p q : Int} {tp tq : Tok} {nt : Nat} (h : PairsAre made ys ps) : PairsAre (made ++ [(a, tupObj p q tp tq nt)]) (ys ++ [.ref a]) (ps ++ [(p, q)])
theorem PairsAre.length {made : List (Addr × Obj)} {ys : List Value} {ps : List (Int × Int)} (h : PairsAre made ys ps) : ys.length = ps.length := by
  induction h with
  | nil => rfl
  | snoc _ ih => simp [ih]
theorem PairsAre.at {made : List (Addr × Obj)} {ys : List Value} {ps : List (Int × Int)} (h : PairsAre made ys ps) : ∀ (i : Nat) (v : Value), ys[i]? = some v → ∃ t p q tp tq nt, v = .ref t ∧ (t, tupObj p q tp tq nt) ∈ made ∧ ps[i]? = some (p, q) := by
  induction h with
  | nil => intro i v e; simp at e
  | @snoc made ys ps a p q tp tq nt h ih =>
    intro i v e
    by_cases hi : i < ys.length
    · rw [List.getElem?_append_left hi] at e
      obtain ⟨t, p', q', tp', tq', nt', rfl, hm, hp⟩ := ih i v e
      exact ⟨t, p', q', tp', tq', nt', rfl, List.mem_append.mpr (.inl hm), by rw [List.getElem?_append_left (h.length ▸ hi)]; exact hp⟩
    · rw [List.getElem?_append_right (Nat.not_lt.mp hi)] at e
      have h0 : i - ys.length = 0 := by
        cases hh : i - ys.length with
        | zero => rfl
        | succ n => rw [hh] at e; simp at e
      rw [h0] at e
      simp at e
      subst e
      refine ⟨a, p, q, tp, tq, nt, rfl, by simp, ?_⟩
      rw [List.getElem?_append_right (by rw [← h.length]; exact Nat.not_lt.mp hi), ← h.length, h0]
      rfl
/-- the pairs that a two-clause comprehension makes -/
def flatPairs (cnt : Int → Nat) (f : Int → Int → Int → Int) (ps : List (Int × Int)) : List (Int × Int) :=
  ps.flatMap fun p => (List.range (cnt p.1)).map fun (j : Nat) => (p.1 + (j : Int), f p.1 p.2 (p.1 + (j : Int)))
theorem flat_snoc (cnt : Int → Nat) (f : Int → Int → Int → Int) {ps : List (Int × Int)} {i : Nat} {p q : Int} (h : ps[i]? = some (p, q)) :
    flatPairs cnt f (ps.take (i + 1)) = flatPairs cnt f (ps.take i) ++ (List.range (cnt p)).map fun (j : Nat) => (p + (j : Int), f p q (p + (j : Int))) := by
  unfold flatPairs
  rw [List.take_add_one, h]
  simp
theorem flat_len (cnt : Int → Nat) (f : Int → Int → Int → Int) {ps : List (Int × Int)} {i j : Nat} {p q : Int} (h : ps[i]? = some (p, q)) (hj : j ≤ cnt p) : (flatPairs cnt f (ps.take i)).length + j ≤ (flatPairs cnt f ps).length := by
  have e : (flatPairs cnt f ps).length = (flatPairs cnt f (ps.take (i + 1))).length + (flatPairs cnt f (ps.drop (i + 1))).length := by
    rw [← List.length_append, show flatPairs cnt f (ps.take (i + 1)) ++ flatPairs cnt f (ps.drop (i + 1)) = flatPairs cnt f (ps.take (i + 1) ++ ps.drop (i + 1)) from by unfold flatPairs; rw [List.flatMap_append], List.take_append_drop]
  rw [e, flat_snoc cnt f h, List.length_append, List.length_map, List.length_range]
  omega
section
variable {prog : Program} {w : World} {A : Around} {s : Shared} {h₀ : Heap}
/-- the end of an element's evaluation that makes one pair -/
def PairEnd (h₀ : Heap) (C : Addr) (mc : Str → Option Value) (led : List (Addr × Obj)) (s : Shared) (p q : Int) (y : Value) (s' : Shared) : Prop :=
  ∃ a tp tq nt h' tk', y = .ref a ∧ (∀ r ∈ led, @LT.lt Nat _ r.1 a) ∧ @LT.lt Nat _ C a ∧ s' = { s with heap := h', toks := tk' } ∧ Fr h₀ C h' mc ∧ News h₀ C h' ((a, tupObj p q tp tq nt) :: led)
/-- the second source is a range -/
def RangeEnd (h₀ : Heap) (C : Addr) (mc : Str → Option Value) (led : List (Addr × Obj)) (s : Shared) (p : Int) (n : Nat) (y : Value) (s' : Shared) : Prop :=
  ∃ r b t u v h' tk', y = .ref r ∧ s' = { s with heap := h', toks := tk' } ∧ IsRange h' r p b 1 t u v ∧ Builtin.Range.small p b 1 = true ∧ Builtin.Range.rangeSize p b 1 = (n : Int) ∧ Fr h₀ C h' mc ∧ News h₀ C h' led
theorem comp_flat {env : Env} {elt iter iter1 : Expr} {a b x : Str} {pa pb tpos px : Pos} {x1} {scope : Scope} {cl : List (Str × Addr)} {pos spos py : Pos} {y : Str} {L : Addr} {m : Str → Option Value} {Q : Flow → Shared → Prop} {E : Value → Shared → Prop} (cnt : Int → Nat) (f : Int → Int → Int → Int) (pairs : List (Int × Int))
    (_F₀ : Fr h₀ L s.heap m) (hLe : env.locals = L) (hsw : swapsWith (.ListComp elt [⟨.Tuple [.Name a pa, .Name b pb] x1 tpos, iter, [], 0⟩, ⟨.Name x px, iter1, [], 0⟩] scope pos) (some (.Name y py)) spos.line env = pure true) (hy : env.kindOf y = some .local) (hp : (env.scope.kind == .class || (env.scope.kind == .module && env.locals != env.globals)) = false)
    (hclos : closureFor scope env = pure cl) (hpc : ∀ h, pushCells h scope.names = h) (hkind : scope.kind = .function) (hnames : ∀ y ∈ scope.names, y.2 = .local → scope.names.lookup y.1 = some .local)
    (hxa : scope.names.lookup a = some .local) (hxb : scope.names.lookup b = some .local) (hxx : scope.names.lookup x = some .local) (hab : a ≠ b) (hax : a ≠ x) (hbx : b ≠ x)
    (hh : A.handled = none) (hlen2 : (flatPairs cnt f pairs).length ≤ 1000)
    (h : wpAny (model prog w) A (eval iter env) (fun xv s₁ => ∃ ax, ∃ its : Array Value, ∃ k news, xv = .ref ax ∧ Fr h₀ L s₁.heap m ∧ News h₀ L s₁.heap news ∧ (ax, listOf its k) ∈ news ∧ its.size ≤ sizeLine ∧ its.size = pairs.length ∧
      (∀ (i : Nat) (v : Value), its[i]? = some v → ∃ t p q tp tq nt, v = .ref t ∧ (t, ({ cls := .type "tuple", data := .seq #[.int p tp, .int q tq] nt } : Obj)) ∈ news ∧ pairs[i]? = some (p, q)) ∧
      (∀ C p q tp tq h tk tail (mc : Str → Option Value) (E' : Value → Shared → Prop), (p, q) ∈ pairs → @LT.lt Nat _ L C → (∀ r ∈ news, @LT.lt Nat _ r.1 C) → mc a = some (.int p tp) → mc b = some (.int q tq) → Fr h₀ C h mc → News h₀ C h (news ++ tail) →
        wpAny (model prog w) A (eval iter1 (compEnvK scope cl C env)) (RangeEnd h₀ C mc (news ++ tail) { s₁ with heap := h, toks := tk } p (cnt p)) E' { s₁ with heap := h, toks := tk }) ∧
      (∀ C p q l tp tq t h tk tail (mc : Str → Option Value) (E' : Value → Shared → Prop), (p, q) ∈ pairs → p ≤ l → l < p + (cnt p : Int) → @LT.lt Nat _ L C → (∀ r ∈ news, @LT.lt Nat _ r.1 C) → mc a = some (.int p tp) → mc b = some (.int q tq) → mc x = some (.int l t) → Fr h₀ C h mc → News h₀ C h (news ++ tail) →
        wpAny (model prog w) A (eval elt (compEnvK scope cl C env)) (PairEnd h₀ C mc (news ++ tail) { s₁ with heap := h, toks := tk } l (f p q l)) E' { s₁ with heap := h, toks := tk }) ∧
      ∀ D ys made h tk, PairsAre made ys (flatPairs cnt f pairs) → (∀ r ∈ news, @LT.lt Nat _ r.1 D) → (∀ r ∈ made, @LT.lt Nat _ D r.1) → Fr h₀ L h (fun z => if z = y then some (.ref D) else m z) → News h₀ L h ((D, lst ys) :: (news ++ made)) → Q .next { s₁ with heap := h, toks := tk }) E s)
    (hs : ∀ x, foldedSetIterable iter env x = pure x := by intro _; rfl)
    (hs1 : ∀ C x, foldedSetIterable iter1 (compEnvK scope cl C env) x = pure x := by intro _ _; rfl) :
    wpAny (model prog w) A (exec (.Assign [.Name y py] (.ListComp elt [⟨.Tuple [.Name a pa, .Name b pb] x1 tpos, iter, [], 0⟩, ⟨.Name x px, iter1, [], 0⟩] scope pos) spos) env) Q E s := by
  refine comp_setup_use (h₀ := h₀) (L := L) (m := m) 0 hLe hsw hy hp hclos hpc hkind hnames (wpAny_mono h (fun xv s₁ h₁ => ?_) fun _ _ e => e) hh hs
  obtain ⟨ax, its, k, news, rfl, F, N, hax', hsz, hlen, hits, turn1, turn2, fin⟩ := h₁
  refine ⟨ax, its, news, rfl, F, N, ⟨k, hax'⟩, ?_⟩
  intro I C D oL H tk hLI hID hDC hnI hoL hit hI₀ FC NC offI offL
  have Wl := Walks.list (prog := prog) (w := w) (A := A) hh I ax (Nat.ne_of_lt (hnI _ hax')) its
  have lLC : @LT.lt Nat _ L C := Nat.lt_trans hLI (Nat.lt_trans hID hDC)
  have lnC : ∀ r ∈ news, @LT.lt Nat _ r.1 C := fun p hp => Nat.lt_trans (hnI p hp) (Nat.lt_trans hID hDC)
  refine comp_loopA (iter := iter) (target := .Tuple [.Name a pa, .Name b pb] x1 tpos)
    (fun i _ nw => ∃ made ys, nw = (L, oL) :: (D, lst ys) :: (news ++ made) ∧ PairsAre made ys (flatPairs cnt f (pairs.take i)) ∧ ∀ r ∈ made, @LT.lt Nat _ C r.1) (compTurn_zero ..) Wl (fun i h st => by obtain ⟨o, e, _⟩ := st.1; exact ⟨o, e⟩) ?_ ?_ FC NC offI (Ne.symm (Nat.ne_of_lt (Nat.lt_trans hID hDC))) hI₀ ?_ ⟨[], [], by simp [cellLedger], .nil, fun r hr => nomatch hr⟩ ?_ ?_
  · intro i h h' o _ nw st e e' keep N' hj
    obtain ⟨made, ys, rfl, _⟩ := hj
    obtain ⟨o', q, r⟩ := st.1
    rw [e] at q; cases q
    exact ⟨⟨o, e', r⟩, PySem.IsL.isList (n := k) (N' _ (.tail _ (.tail _ (List.mem_append.mpr (.inl hax'))))).1⟩
  · intro i v h tk Q' E' hP st hQ
    obtain ⟨t, p, q, tp, tq, nt, rfl, _⟩ := hits i v hP
    exact wpAny_letOwnedTupleGo_listiter st.1 hQ
  · exact ⟨hit, PySem.IsL.isList (n := k) (NC _ (.tail _ (.tail _ hax'))).1⟩
  · rintro i v nw mc h tk oI E' hi hP ⟨made, ys, rfl, hys, hmade⟩ F₁ N₁ off₁
    obtain ⟨t, p, q, tp, tq, nt, rfl, hmt, hpq⟩ := hits i v hP
    have hmem := List.mem_of_getElem? hpq
    refine assign_pair (C := C) hh rfl hkind (lookup_relabel_local hxa) (lookup_relabel_local hxb) F₁ N₁ (.tail _ (.tail _ (.tail _ (List.mem_append.mpr (.inl hmt))))) fun h₂ F₂ N₂ tk₂ => ?_
    have sub : ∀ r, r ∈ news ++ (made ++ [(I, oI), (L, oL), (D, lst ys)]) → r ∈ (I, oI) :: (L, oL) :: (D, lst ys) :: (news ++ made) := fun r hr => by
      simp only [List.mem_cons, List.mem_append, List.not_mem_nil, or_false] at hr ⊢
      rcases hr with h | h | h | h | h <;> simp [h]
    refine wpAny_bind (wpAny_mono (turn1 C p q tp tq h₂ tk₂ (made ++ [(I, oI), (L, oL), (D, lst ys)]) _ E' hmem lLC lnC (by simp [hab]) (by simp) F₂ (fun r hr => N₂ r (sub r hr))) ?_ fun _ _ e => e)
    rintro xv s₃ ⟨r, bnd, t', u', v', h₃, tk₃, rfl, rfl, hr, hsm, hrs, F₃, N₃⟩
    refine wpAny_bind (wpAny_standAt (wpAny_bind (wpAny_of_eq (hs1 C _) (wpAny_bind (wpAny_holding (wpAny_pyIter_range hr hsm (wpAny_bind (wpAny_runOwn ?_))))))))
    dsimp only
    have e3 : h₃.objs.size = h₃.objs.size := rfl
    generalize hI1 : h₃.objs.size = I1 at *
    have lt1 : ∀ q ∈ news ++ (made ++ [(I, oI), (L, oL), (D, lst ys)]), @LT.lt Nat _ q.1 I1 := fun q hq => by have := Heap.lt_size (N₃ q hq).1; rw [hI1] at this; exact this
    have ltC1 : @LT.lt Nat _ C I1 := by have := F₃.ns.lt; rw [hI1] at this; exact this
    have hI1₀ : h₀.get? I1 = none := by rw [← hI1]; exact next_is_new F₃
    have up : ∀ b o, h₃.get? b = some o → (h₃.push { cls := .type "range_iterator", data := .fields #[rawInt p, rawInt (Builtin.Range.rangeSize p bnd 1), rawInt 1] }).get? b = some o := fun b o e => Heap.get?_push_of_some _ e
    have sub2 : ∀ r, r ∈ (I, oI) :: (L, oL) :: (D, lst ys) :: (news ++ made) → r ∈ news ++ (made ++ [(I, oI), (L, oL), (D, lst ys)]) := fun r hr => by
      simp only [List.mem_cons, List.mem_append, List.not_mem_nil, or_false] at hr ⊢
      rcases hr with h | h | h | h | h <;> simp [h]
    have hst1 : IsRangeIter (h₃.push { cls := .type "range_iterator", data := .fields #[rawInt p, rawInt (Builtin.Range.rangeSize p bnd 1), rawInt 1] }) I1 (p + ((0 : Nat) : Int) * 1) ((cnt p : Int) - ((0 : Nat) : Int)) 1 := by
      show _ = _
      rw [← hI1, hrs]
      simpa using Heap.get?_push_size _ rfl
    have loop : codeAny (model prog w) A (.compLoop (.ListComp elt [⟨.Tuple [.Name a pa, .Name b pb] x1 tpos, iter, [], 0⟩, ⟨.Name x px, iter1, [], 0⟩] scope pos) 1 (.ref I1) (.ref D) (compEnvK scope cl C env)) (fun r s' => match r with
        | .ok _ => ∃ h' tk' mc' nw', s' = { s₁ with heap := h', toks := tk' } ∧ Fr h₀ C h' mc' ∧ News h₀ C h' ((I, oI) :: nw') ∧ (∀ p ∈ nw', p.1 ≠ I) ∧ ∃ made ys, nw' = (L, oL) :: (D, lst ys) :: (news ++ made) ∧ PairsAre made ys (flatPairs cnt f (pairs.take (i + 1))) ∧ ∀ r ∈ made, @LT.lt Nat _ C r.1
        | .error _ => False) { s₁ with heap := h₃.push { cls := .type "range_iterator", data := .fields #[rawInt p, rawInt (Builtin.Range.rangeSize p bnd 1), rawInt 1] }, toks := tk₃ } := by
      refine comp_loop (iter := iter1) (target := .Name x px) (n := cnt p)
        (fun j mc nw => mc a = some (.int p tp) ∧ mc b = some (.int q tq) ∧ ∃ made ys, nw = (I, oI) :: (L, oL) :: (D, lst ys) :: (news ++ made) ∧ PairsAre made ys (flatPairs cnt f (pairs.take i) ++ (List.range j).map fun (j : Nat) => (p + (j : Int), f p q (p + (j : Int)))) ∧ ∀ r ∈ made, @LT.lt Nat _ C r.1)
        (compTurn_one ..) (range_walks hh p (cnt p)) (fun i h st => ⟨_, st⟩) ?_ ?_ (F₃.keeps up) (fun r hr => ⟨up _ _ (N₃ r (sub2 r hr)).1, (N₃ r (sub2 r hr)).2⟩) (fun r hr => Nat.ne_of_lt (lt1 r (sub2 r hr))) (Nat.ne_of_lt ltC1) hI1₀ hst1 ⟨by simp [hab], by simp, made, ys, rfl, by simpa using hys, hmade⟩ ?_ ?_
      · intro i h h' o _ nw st e e' keep N' hj
        have st' : h.get? I1 = some _ := st
        show h'.get? I1 = some _
        rw [e', ← e]; exact st'
      · intro i v h tk Q' E' hP st hQ
        exact wpAny_of_eq (a := ()) rfl hQ
      · rintro j v nw mc h tk oI1 E2 hj hP ⟨hma, hmb, made, ys, rfl, hys, hmade⟩ F₁ N₁ off₁
        obtain ⟨tl, rfl⟩ := hP
        refine wpAny_assign_Name (wpAny_storeName_local (lookup_relabel_local hxx) F₁.ns (fun h₄ hn₄ hs₄ => ?_) (by simp [compEnvK, relabel, hkind]))
        have F₄ : Fr h₀ C h₄ (fun y => if y = x then some (.int (p + (j : Int)) tl) else mc y) := F₁.set hn₄ hs₄
        have N₄ := N₁.set hs₄
        have sub3 : ∀ r, r ∈ news ++ (made ++ [(I1, oI1), (I, oI), (L, oL), (D, lst ys)]) → r ∈ (I1, oI1) :: (I, oI) :: (L, oL) :: (D, lst ys) :: (news ++ made) := fun r hr => by
          simp only [List.mem_cons, List.mem_append, List.not_mem_nil, or_false] at hr ⊢
          rcases hr with h | h | h | h | h | h <;> simp [h]
        refine wpAny_bind (wpAny_mono (turn2 C p q (p + (j : Int)) tp tq tl h₄ _ (made ++ [(I1, oI1), (I, oI), (L, oL), (D, lst ys)]) _ E2 hmem (by omega) (by omega) lLC lnC (by simp only [if_neg hax]; exact hma) (by simp only [if_neg hbx]; exact hmb) (by simp) F₄ (fun r hr => N₄ r (sub3 r hr))) ?_ fun _ _ e => e)
        rintro y s₅ ⟨a', tp', tq', nt', h₅, tk₅, rfl, hlt, hCa, rfl, F₅, N₅⟩
        have zD := N₅ (D, lst ys) (by simp)
        have ly : ys.length ≤ 1000 := by
          rw [hys.length, List.length_append, List.length_map, List.length_range]
          have := flat_len cnt f hpq (Nat.le_of_lt hj)
          omega
        refine wpAny_bind (append_at (hsz := by show ys.toArray.size ≤ sizeLine; rw [List.size_toArray, sizeLine_eq]; omega) zD.1 fun h₆ hs₆ hD₆ => wpAny_pure ?_)
        have hDa : @LT.lt Nat _ D a' := hlt (D, lst ys) (by simp)
        have hI1a : @LT.lt Nat _ I1 a' := hlt (I1, oI1) (by simp)
        have keepN : ∀ r, r ∈ (I1, oI1) :: (I, oI) :: (L, oL) :: (news ++ (made ++ [(a', tupObj (p + (j : Int)) (f p q (p + (j : Int))) tp' tq' nt')])) → @Ne Nat r.1 D → h₆.get? r.1 = some r.2 ∧ r.1 ≠ C ∧ h₀.get? r.1 = none := fun r hr hne => by
          have z := N₅ r (by
            simp only [List.mem_cons, List.mem_append, List.not_mem_nil, or_false] at hr ⊢
            rcases hr with h | h | h | h | h | h <;> simp [h])
          exact ⟨hs₆.extBut _ _ hne z.1, z.2⟩
        refine ⟨h₆, _, _, (I, oI) :: (L, oL) :: (D, lst (ys ++ [.ref a'])) :: (news ++ (made ++ [(a', tupObj (p + (j : Int)) (f p q (p + (j : Int))) tp' tq' nt')])), rfl, F₅.change hs₆ zD.2.1 zD.2.2, ?_, ?_, by simp only [if_neg hax]; exact hma, by simp only [if_neg hbx]; exact hmb, made ++ [(a', tupObj (p + (j : Int)) (f p q (p + (j : Int))) tp' tq' nt')], ys ++ [.ref a'], rfl, ?_, ?_⟩
        · intro r hr
          rcases List.mem_cons.mp hr with rfl | hr
          · exact keepN _ (by simp) (Ne.symm (Nat.ne_of_lt (Nat.lt_trans hDC ltC1)))
          rcases List.mem_cons.mp hr with rfl | hr
          · exact keepN _ (by simp) (Nat.ne_of_lt hID)
          rcases List.mem_cons.mp hr with rfl | hr
          · exact keepN _ (by simp) (Nat.ne_of_lt (Nat.lt_trans hLI hID))
          rcases List.mem_cons.mp hr with rfl | hr
          · exact ⟨hD₆.trans (congrArg some (lst_snoc ys _)), zD.2⟩
          · refine keepN r (.tail _ (.tail _ (.tail _ hr))) ?_
            simp only [List.mem_append, List.mem_cons, List.not_mem_nil, or_false] at hr
            rcases hr with h | h | rfl
            · exact Nat.ne_of_lt (Nat.lt_trans (hnI r h) hID)
            · exact Ne.symm (Nat.ne_of_lt (Nat.lt_trans hDC (hmade r h)))
            · exact Ne.symm (Nat.ne_of_lt hDa)
        · intro r hr
          simp only [List.mem_append, List.mem_cons, List.not_mem_nil, or_false] at hr
          rcases hr with rfl | rfl | rfl | h | h | rfl
          · exact off₁ _ (.head _)
          · exact off₁ _ (.tail _ (.head _))
          · exact off₁ (D, lst ys) (.tail _ (.tail _ (.head _)))
          · exact off₁ r (.tail _ (.tail _ (.tail _ (List.mem_append.mpr (.inl h)))))
          · exact off₁ r (.tail _ (.tail _ (.tail _ (List.mem_append.mpr (.inr h)))))
          · exact Ne.symm (Nat.ne_of_lt hI1a)
        · rw [List.range_succ, List.map_append, ← List.append_assoc]
          exact hys.snoc
        · intro r hr
          rcases List.mem_append.mp hr with hr | hr
          · exact hmade r hr
          · rw [List.mem_singleton.mp hr]; exact hCa
      · rintro h tk mc nw ⟨_, _, made, ys, rfl, hys, hmade⟩ F' N' off'
        refine ⟨h, tk, mc, (L, oL) :: (D, lst ys) :: (news ++ made), rfl, F', N', ?_, made, ys, rfl, by rw [flat_snoc cnt f hpq]; exact hys, hmade⟩
        intro r hr
        rcases List.mem_cons.mp hr with rfl | hr
        · exact Nat.ne_of_lt hLI
        rcases List.mem_cons.mp hr with rfl | hr
        · exact Ne.symm (Nat.ne_of_lt hID)
        rcases List.mem_append.mp hr with hr | hr
        · exact Nat.ne_of_lt (hnI r hr)
        · exact Ne.symm (Nat.ne_of_lt (Nat.lt_trans (Nat.lt_trans hID hDC) (hmade r hr)))
    refine compStart_one (codeAny_mono loop fun r s' hr => ?_) ((range_walks (prog := prog) (w := w) (A := A) hh p (cnt p)).self 0 _ _ _ hst1 (codeAny_mono loop fun r s' hr => ?_)) <;>
    · cases r with
      | ok f => exact wpAny_pure ⟨rfl, hr⟩
      | error e => exact hr.elim
  · rintro h tk mc nw ⟨made, ys, rfl, hys, hmade⟩ F' N' off'
    refine ⟨rfl, h, tk, mc, (D, lst ys) :: (news ++ made), rfl, F', N', fun p hp => ?_, fun h' tk' F'' N'' => fin D ys made h' tk' ?_ (fun p hp => Nat.lt_trans (hnI p hp) hID) (fun r hr => Nat.lt_trans hDC (hmade r hr)) F'' N''⟩
    · rcases List.mem_cons.mp hp with rfl | hp
      · exact offL (D, lst []) (.head _)
      rcases List.mem_append.mp hp with hp | hp
      · exact offL p (.tail _ hp)
      · exact Ne.symm (Nat.ne_of_lt (Nat.lt_trans lLC (hmade p hp)))
    · have : pairs.take its.size = pairs := by rw [hlen, List.take_length]
      rw [this] at hys; exact hys
end
end Mine
end

section
open PySem PySem.Spec PySem.Calls PySem.W PyProof.Rows PyProof.Rows.LCg
namespace Mine
/-- the end of a turn of loop_range -/
def TurnDone (h₀ : Heap) (L I : Addr) (oI : Obj) (J : (Str → Option Value) → List (Addr × Obj) → Prop) (s : Shared) (f : Flow) (s' : Shared) : Prop :=
  f = .next ∧ ∃ h' tk' m' nw', s' = { s with heap := h', toks := tk' } ∧ Fr h₀ L h' m' ∧ News h₀ L h' ((I, oI) :: nw') ∧ (∀ p ∈ nw', p.1 ≠ I) ∧ J m' nw'
section
variable {prog : Program} {w : World} {A : Around} {E : Value → Shared → Prop} {s : Shared} {env : Env} {h₀ : Heap} {target : Expr} {body : List Stmt} {Q : Flow → Shared → Prop}
/-- a for loop over a range, by an invariant over the locals and the ledger -/
theorem loop_range {r : Addr} {a₀ b₀ : Int} {t₀ u₀ v₀ : Tok} {n : Nat} {m₀ : Str → Option Value} {news : List (Addr × Obj)} (J : Nat → (Str → Option Value) → List (Addr × Obj) → Prop)
    (hh : A.handled = none) (hr : IsRange s.heap r a₀ b₀ 1 t₀ u₀ v₀) (hsmall : Builtin.Range.small a₀ b₀ 1 = true) (hn : Builtin.Range.rangeSize a₀ b₀ 1 = (n : Int)) (F : Fr h₀ env.locals s.heap m₀) (N : News h₀ env.locals s.heap news) (hJ : J 0 m₀ news)
    (hgo : ∀ it v, letOwnedTupleGo target it v = pure ())
    (turn : ∀ i t m₁ nw I oI h tk, i < n → (∀ p ∈ news, @LT.lt Nat _ p.1 I) → @LT.lt Nat _ env.locals I → J i m₁ nw → (∀ p ∈ nw, p.1 ≠ I) → Fr h₀ env.locals h m₁ → News h₀ env.locals h ((I, oI) :: nw) →
      wpAny (model prog w) A (assign target env (.int (a₀ + (i : Int)) t)) (fun _ s₃ => wpAny (model prog w) A (execs body env) (TurnDone h₀ env.locals I oI (J (i + 1)) s) E s₃) E { s with heap := h, toks := tk })
    (done : ∀ m₁ nw h tk, J n m₁ nw → Fr h₀ env.locals h m₁ → News h₀ env.locals h nw → Q .next { s with heap := h, toks := tk }) :
    wpAny (model prog w) A (pyIter (.ref r)) (fun it s₂ => TurnsAt prog w A h₀ env target body Q E it s₂) E s := by
  refine wpAny_pyIter_range hr hsmall ?_
  have W := KTurns.ofWalks (target := target) (range_walks (prog := prog) (w := w) (A := A) (I := s.heap.objs.size) hh a₀ n) (fun i v s Q E st hQ => wpAny_of_eq (a := ()) (hgo _ _) hQ)
  have lt : ∀ p ∈ news, @LT.lt Nat _ p.1 s.heap.objs.size := fun p hp => Heap.lt_size (N p hp).1
  refine ⟨s.heap.objs.size, [s.heap.objs.size], [s.heap.objs.size], n, _, _, _, m₀, news, fun i m nw => J i m nw, rfl, W, ?_, ?_, ?_, ?_, F.push _, fun p hp => ⟨Heap.get?_push_of_some _ (N p hp).1, (N p hp).2⟩, hJ, ?_, ?_⟩
  · intro hm
    exact absurd F.ns.lt ((List.mem_singleton.mp hm) ▸ Nat.lt_irrefl _)
  · intro b hb
    rw [List.mem_singleton.mp hb]
    exact next_is_new F
  · intro p hp hI
    exact absurd (lt p hp) ((List.mem_singleton.mp hI) ▸ Nat.lt_irrefl _)
  · show _ = _
    rw [hn]
    simpa using Heap.get?_push_size _ rfl
  · rintro i v m₁ nw h₁ tk₁ own hi hP hj hoff hown hown1 hown2 st F₁ N₁
    obtain ⟨t, rfl⟩ := hP
    obtain ⟨oI, hst⟩ : ∃ oI, h₁.get? s.heap.objs.size = some oI := ⟨_, st⟩
    have hIo := hown2 s.heap.objs.size (.head _) (next_is_new F) _ hst
    have hall : ∀ p ∈ own, p = (s.heap.objs.size, oI) := fun p hp => by
      have e1 := List.mem_singleton.mp (hown p hp)
      have e2 := hown1 p hp
      rw [e1, hst] at e2
      injection e2 with e2
      exact Prod.ext e1 e2.symm
    refine wpAny_mono (turn i t m₁ nw s.heap.objs.size oI h₁ tk₁ hi lt F.ns.lt hj (fun p hp q => hoff p hp (List.mem_singleton.mpr q)) F₁ (fun p hp => ?_)) (fun _ s₃ h3 => wpAny_mono h3 (fun f s' hf => ?_) fun _ _ e => e) fun _ _ e => e
    · exact (List.mem_cons.mp hp).elim (fun e => N₁ p (List.mem_append.mpr (.inl (e ▸ hIo)))) fun hp => N₁ p (List.mem_append.mpr (.inr hp))
    · obtain ⟨rfl, h', tk', m', nw', rfl, F', N', off', j'⟩ := hf
      refine LoopStepV.next ⟨rfl, h', tk', m', nw', rfl, F', fun p hp => ?_, fun p hp q => off' p hp (List.mem_singleton.mp q), j'⟩
      rcases List.mem_append.mp hp with hp | hp
      · rw [hall p hp]; exact N' _ (.head _)
      · exact N' p (.tail _ hp)
  · intro h' tk m' nw' F' N' _ hj
    exact done m' nw' h' tk hj F' N'
end
end Mine
end

section
open PySem PySem.Spec PySem.Calls PySem.W PyProof.Rows PyProof.Rows.LCg
namespace Mine
/-- the sum of a row between two turns -/
def sl (row : List Int) (a b : Int) : Int := ((row.drop a.toNat).take (b.toNat - a.toNat)).sum
/-- the stairs at a depth: where the last step stands, and what the stair has cost -/
noncomputable def stairsAt (n : Nat) (rows : List (List Int)) : Nat → List (Int × Int)
  | 0 => [(0, 0)]
  | d + 1 => flatPairs (fun p => ((n : Int) + 1 - p).toNat) (fun p q l => q + sl (rows.getD d []) p l) (stairsAt n rows d)
/-- the cheapest of some ints -/
def least : List Int → Int
  | [] => 0
  | a :: r => r.foldl (fun x y => if y < x then y else x) a
noncomputable def goneAt (n : Nat) (rows : List (List Int)) (d : Nat) : Int := least ((stairsAt n rows d).map fun p => p.2 + sl (rows.getD d []) p.1 n)
theorem stairs_mem (n : Nat) (rows : List (List Int)) : ∀ (d : Nat) (p q : Int), (p, q) ∈ stairsAt n rows d → 0 ≤ p ∧ p ≤ n
  | 0, p, q, h => by
    simp [stairsAt] at h
    omega
  | d + 1, p, q, h => by
    simp only [stairsAt, flatPairs, List.mem_flatMap, List.mem_map, List.mem_range, Prod.exists] at h
    obtain ⟨p', q', h', j, hj, e⟩ := h
    have := stairs_mem n rows d p' q' h'
    injection e with e1 e2
    omega
theorem flat_len_le {cnt : Int → Nat} {f : Int → Int → Int → Int} {b : Nat} : ∀ (ps : List (Int × Int)), (∀ p ∈ ps, cnt p.1 ≤ b) → (flatPairs cnt f ps).length ≤ b * ps.length
  | [], _ => by simp [flatPairs]
  | p :: r, h => by
    have ih := flat_len_le (f := f) r fun q hq => h q (.tail _ hq)
    have h1 := h p (.head _)
    unfold flatPairs at ih ⊢
    rw [List.flatMap_cons, List.length_append, List.length_map, List.length_range, List.length_cons, Nat.mul_succ]
    omega
theorem stairs_len (n : Nat) (rows : List (List Int)) (hn : n ≤ 5) : ∀ (d : Nat), (stairsAt n rows d).length ≤ 6 ^ d
  | 0 => by simp [stairsAt]
  | d + 1 => by
    have ih := stairs_len n rows hn d
    have := flat_len_le (cnt := fun p => ((n : Int) + 1 - p).toNat) (f := fun p q l => q + sl (rows.getD d []) p l) (b := 6) (stairsAt n rows d) (fun p hp => by
      have := stairs_mem n rows d p.1 p.2 hp
      omega)
    rw [Nat.pow_succ]
    show (flatPairs _ _ _).length ≤ _
    omega
end Mine
namespace Mine
theorem sub_news {h₀ h : Heap} {L : Addr} {a b d c4 c3 c2 c1 : Addr × Obj} {rest : List (Addr × Obj)} (N : News h₀ L h (a :: b :: d :: c4 :: c3 :: c2 :: c1 :: rest)) : News h₀ L h (a :: b :: c4 :: c3 :: c2 :: c1 :: (rest ++ [d])) := by
  intro p hp
  refine N p ?_
  simp only [List.mem_cons, List.mem_append, List.not_mem_nil, or_false] at hp ⊢
  rcases hp with h | h | h | h | h | h | h | h <;> simp [h]
end Mine
namespace Mine
section
variable {M : Model} {A : Around} {E : Value → Shared → Prop} {s : Shared} {h₀ : Heap} {L c : Addr} {m : Str → Option Value} {env : Env} {x : Str} {v : Value} {v₀ : Option Value} {o : Obj} {Q : Unit → Shared → Prop}
/-- a cell of the ledger is stored -/
theorem store_cell (pre post : List (Addr × Obj)) (F : Fr h₀ L s.heap m) (N : News h₀ L s.heap (pre ++ (c, o) :: post)) (hk : env.scope.kind = .function) (hl : env.kindOf x = some .cell) (hc : env.cells.lookup x = some c) (hd : o.data = .cell v₀)
    (h1 : ∀ p ∈ pre, p.1 ≠ c) (h2 : ∀ p ∈ post, p.1 ≠ c)
    (h : ∀ h' o', o'.data = .cell (some v) → Fr h₀ L h' m → News h₀ L h' (pre ++ (c, o') :: post) → Q () { s with heap := h' }) : wpAny M A (storeName env x v) Q E s := by
  have z := N (c, o) (List.mem_append.mpr (.inr (.head _)))
  refine wpAny_storeName_cell (v₀ := v₀) hk hl hc ⟨o, z.1, hd⟩ fun h₂ hc₂ hs₂ => ?_
  obtain ⟨o', e', d'⟩ := hc₂
  exact h h₂ o' d' (F.change hs₂ z.2.1 z.2.2) (news_set N h1 h2 hs₂ e')
end
end Mine
end

section
open PySem PySem.Spec PySem.Calls PySem.W PyProof.Rows PyProof.Rows.LCg
namespace Mine
/-- how many have left a desk behind each turn: its room, at most those who came -/
noncomputable def leftBy (row : List Int) (up : Nat → Int) : Nat → Int
  | 0 => 0
  | i + 1 => min (leftBy row up i + row.getD i 0) (up (i + 1))
noncomputable def gones (rows : List (List Int)) : Nat → Nat → Int
  | 0 => fun i => sl (rows.getD 0 []) 0 i
  | k + 1 => leftBy (rows.getD (k + 1) []) (gones rows k)
theorem take_sum (l : List Int) : ∀ k : Nat, (l.take (k + 1)).sum = (l.take k).sum + l.getD k 0 := by
  intro k
  rw [List.take_add_one, List.sum_append, List.getD_eq_getElem?_getD]
  cases l[k]? <;> simp
theorem sl_same (row : List Int) (a : Nat) : sl row a a = 0 := by
  unfold sl; simp
theorem sl_next (row : List Int) {a b : Nat} (h : a ≤ b) : sl row a ((b + 1 : Nat) : Int) = sl row a b + row.getD b 0 := by
  unfold sl
  simp only [Int.toNat_natCast]
  rw [show b + 1 - a = (b - a) + 1 by omega, take_sum, List.getD_eq_getElem?_getD, List.getD_eq_getElem?_getD, List.getElem?_drop, show a + (b - a) = b by omega]
theorem gones_zero (rows : List (List Int)) : ∀ k, gones rows k 0 = 0
  | 0 => by show sl _ _ _ = _; exact sl_same _ 0
  | _ + 1 => rfl
theorem gones_next (rows : List (List Int)) (k i : Nat) : gones rows (k + 1) (i + 1) = min (gones rows (k + 1) i + (rows.getD (k + 1) []).getD i 0) (gones rows k (i + 1)) := rfl
theorem gones_first (rows : List (List Int)) (i : Nat) : gones rows 0 (i + 1) = gones rows 0 i + (rows.getD 0 []).getD i 0 := by
  show sl _ _ _ = _
  exact sl_next _ (a := 0) (Nat.zero_le i)
theorem gones_le (rows : List (List Int)) (k : Nat) : ∀ (n l : Nat), l ≤ n → gones rows (k + 1) n ≤ gones rows k l + sl (rows.getD (k + 1) []) l n
  | 0, l, h => by
    obtain rfl : l = 0 := by omega
    rw [gones_zero, gones_zero]
    have := sl_same (rows.getD (k + 1) []) 0
    omega
  | n + 1, l, h => by
    rw [gones_next]
    by_cases hl : l ≤ n
    · have := gones_le rows k n l hl
      have := sl_next (rows.getD (k + 1) []) hl
      omega
    · obtain rfl : l = n + 1 := by omega
      have := sl_same (rows.getD (k + 1) []) (n + 1)
      omega
theorem gones_at (rows : List (List Int)) (k : Nat) : ∀ (n : Nat), ∃ l, l ≤ n ∧ gones rows (k + 1) n = gones rows k l + sl (rows.getD (k + 1) []) l n
  | 0 => by
    refine ⟨0, Nat.le_refl _, ?_⟩
    rw [gones_zero, gones_zero]
    have := sl_same (rows.getD (k + 1) []) 0
    omega
  | n + 1 => by
    obtain ⟨l, hl, e⟩ := gones_at rows k n
    by_cases h : gones rows (k + 1) n + (rows.getD (k + 1) []).getD n 0 ≤ gones rows k (n + 1)
    · refine ⟨l, by omega, ?_⟩
      rw [gones_next]
      have := sl_next (rows.getD (k + 1) []) hl
      omega
    · refine ⟨n + 1, by omega, ?_⟩
      rw [gones_next]
      have := sl_same (rows.getD (k + 1) []) (n + 1)
      omega
theorem stairs_are (n : Nat) (rows : List (List Int)) : ∀ d : Nat, (∀ p q, (p, q) ∈ stairsAt n rows (d + 1) → ∃ l : Nat, p = l ∧ l ≤ n ∧ gones rows d l ≤ q) ∧ ∀ l : Nat, l ≤ n → ((l : Int), gones rows d l) ∈ stairsAt n rows (d + 1)
  | 0 => by
    simp only [stairsAt, flatPairs, List.flatMap_cons, List.flatMap_nil, List.append_nil, List.mem_map, List.mem_range]
    constructor
    · rintro p q ⟨j, hj, e⟩
      injection e with e1 e2
      refine ⟨j, by omega, by omega, ?_⟩
      rw [← e2]
      show sl _ _ _ ≤ _
      simp
    · intro l hl
      refine ⟨l, by omega, ?_⟩
      show _ = ((l : Int), sl _ _ _)
      simp
  | d + 1 => by
    have ih := stairs_are n rows d
    constructor
    · intro p q h
      rw [stairsAt] at h
      simp only [flatPairs, List.mem_flatMap, List.mem_map, List.mem_range, Prod.exists] at h
      obtain ⟨p', q', h', j, hj, e⟩ := h
      obtain ⟨l, rfl, hl, hle⟩ := ih.1 p' q' h'
      injection e with e1 e2
      refine ⟨l + j, by omega, by omega, ?_⟩
      have := gones_le rows d (l + j) l (by omega)
      have e3 : (((l + j : Nat)) : Int) = (l : Int) + j := by omega
      rw [e3] at this
      omega
    · intro l hl
      obtain ⟨h, hh, e⟩ := gones_at rows d l
      rw [stairsAt]
      simp only [flatPairs, List.mem_flatMap, List.mem_map, List.mem_range, Prod.exists]
      refine ⟨h, gones rows d h, ih.2 h (by omega), l - h, by omega, ?_⟩
      rw [e]
      have e3 : (h : Int) + ((l - h : Nat) : Int) = l := by omega
      rw [e3]
theorem stairs_pos (n : Nat) (rows : List (List Int)) : ∀ d, 0 < (stairsAt n rows d).length
  | 0 => by simp [stairsAt]
  | d + 1 => List.length_pos_of_mem ((stairs_are n rows d).2 0 (Nat.zero_le n))
theorem least_fold : ∀ (r : List Int) (a : Int), (r.foldl (fun x y => if y < x then y else x) a) ≤ a ∧ (∀ y ∈ r, (r.foldl (fun x y => if y < x then y else x) a) ≤ y) ∧ ((r.foldl (fun x y => if y < x then y else x) a) = a ∨ (r.foldl (fun x y => if y < x then y else x) a) ∈ r)
  | [], a => by simp
  | b :: r, a => by
    rw [List.foldl_cons]
    obtain ⟨c, hc, c1, c2, c3⟩ : ∃ c, c = (if b < a then b else a) ∧ c ≤ a ∧ c ≤ b ∧ (c = a ∨ c = b) := by
      by_cases hb : b < a
      · exact ⟨b, by rw [if_pos hb], by omega, by omega, .inr rfl⟩
      · exact ⟨a, by rw [if_neg hb], by omega, by omega, .inl rfl⟩
    rw [← hc]
    obtain ⟨h1, h2, h3⟩ := least_fold r c
    refine ⟨by omega, ?_, ?_⟩
    · intro y hy
      rcases List.mem_cons.mp hy with rfl | hy
      · omega
      · exact h2 y hy
    · rcases h3 with h3 | h3
      · rw [h3]
        rcases c3 with rfl | rfl
        · exact .inl rfl
        · exact .inr (.head _)
      · exact .inr (.tail _ h3)
theorem least_is {xs : List Int} {v : Int} (h1 : ∀ y ∈ xs, v ≤ y) (h2 : v ∈ xs) : least xs = v := by
  cases xs with
  | nil => cases h2
  | cons a r =>
    show r.foldl _ a = v
    obtain ⟨l1, l2, l3⟩ := least_fold r a
    have ge : v ≤ r.foldl (fun x y => if y < x then y else x) a := by
      rcases l3 with l3 | l3
      · rw [l3]; exact h1 a (.head _)
      · exact h1 _ (.tail _ l3)
    have le : r.foldl (fun x y => if y < x then y else x) a ≤ v := by
      rcases List.mem_cons.mp h2 with rfl | h2
      · exact l1
      · exact l2 v h2
    omega
/-- the stairs tell how many are gone -/
theorem gone_is (n : Nat) (rows : List (List Int)) : ∀ d, goneAt n rows d = gones rows d n
  | 0 => by
    unfold goneAt
    simp only [stairsAt, List.map_cons, List.map_nil]
    show 0 + _ = _
    rw [Int.zero_add]; rfl
  | d + 1 => by
    unfold goneAt
    refine least_is ?_ ?_
    · intro y hy
      obtain ⟨⟨p, q⟩, hm, rfl⟩ := List.mem_map.mp hy
      obtain ⟨l, rfl, hl, hle⟩ := (stairs_are n rows d).1 p q hm
      have := gones_le rows d n l hl
      dsimp only
      omega
    · obtain ⟨l, hl, e⟩ := gones_at rows d n
      exact List.mem_map.mpr ⟨(l, gones rows d l), (stairs_are n rows d).2 l hl, e.symm⟩
end Mine
end

section
open PySem PySem.Spec PySem.Calls PySem.W PyProof.Rows PyProof.Rows.LCg
namespace Mine
/-- the n-th number of the k-th row -/
abbrev cell (r : List (List Int)) (k t : Nat) : Int := (r.getD k []).getD t 0
/-- rows of the first class, rows of all: the same rooms -/
structure Rows (r1 r2 : List (List Int)) : Prop where
  come : ∀ t, 0 ≤ cell r1 0 t ∧ cell r1 0 t ≤ 2 ∧ cell r1 0 t ≤ cell r2 0 t ∧ cell r2 0 t ≤ cell r1 0 t + 2
  room : ∀ k t, cell r2 (k + 1) t = cell r1 (k + 1) t ∧ 0 ≤ cell r1 (k + 1) t
variable {r1 r2 : List (List Int)}
theorem Rows.step (R : Rows r1 r2) (k t : Nat) :
    (∀ t, gones r1 k t ≤ gones r1 k (t + 1) ∧ gones r2 k t - gones r1 k t ≤ gones r2 k (t + 1) - gones r1 k (t + 1)) →
      gones r1 (k + 1) t ≤ gones r1 k t ∧ gones r2 (k + 1) t - gones r1 (k + 1) t ≤ gones r2 k t - gones r1 k t ∧ gones r1 (k + 1) t ≤ gones r1 (k + 1) (t + 1) ∧ gones r2 (k + 1) t - gones r1 (k + 1) t ≤ gones r2 (k + 1) (t + 1) - gones r1 (k + 1) (t + 1) := by
  intro up
  have key : ∀ t, gones r1 (k + 1) t ≤ gones r1 k t ∧ gones r2 (k + 1) t - gones r1 (k + 1) t ≤ gones r2 k t - gones r1 k t →
      (gones r1 (k + 1) t ≤ gones r1 (k + 1) (t + 1) ∧ gones r2 (k + 1) t - gones r1 (k + 1) t ≤ gones r2 (k + 1) (t + 1) - gones r1 (k + 1) (t + 1)) ∧
      gones r1 (k + 1) (t + 1) ≤ gones r1 k (t + 1) ∧ gones r2 (k + 1) (t + 1) - gones r1 (k + 1) (t + 1) ≤ gones r2 k (t + 1) - gones r1 k (t + 1) := by
    intro t h
    have u := up t
    have ro := R.room k t
    rw [gones_next r1, gones_next r2]
    simp only [cell] at ro
    generalize (r1.getD (k + 1) []).getD t 0 = a at *
    generalize (r2.getD (k + 1) []).getD t 0 = b at *
    generalize gones r1 (k + 1) t = g1 at *
    generalize gones r2 (k + 1) t = g2 at *
    generalize gones r1 k t = p1 at *
    generalize gones r2 k t = p2 at *
    generalize gones r1 k (t + 1) = q1 at *
    generalize gones r2 k (t + 1) = q2 at *
    omega
  have low : ∀ t, gones r1 (k + 1) t ≤ gones r1 k t ∧ gones r2 (k + 1) t - gones r1 (k + 1) t ≤ gones r2 k t - gones r1 k t := by
    intro t
    induction t with
    | zero => rw [gones_zero, gones_zero, gones_zero, gones_zero]; omega
    | succ t ih => exact (key t ih).2
  exact ⟨(low t).1, (low t).2, (key t (low t)).1⟩
theorem Rows.up (R : Rows r1 r2) : ∀ k t, gones r1 k t ≤ gones r1 k (t + 1) ∧ gones r2 k t - gones r1 k t ≤ gones r2 k (t + 1) - gones r1 k (t + 1)
  | 0, t => by
    have := R.come t
    rw [gones_first r1, gones_first r2]
    simp only [cell] at this
    omega
  | k + 1, t => (R.step k t (R.up k)).2.2
theorem Rows.low (R : Rows r1 r2) (k t : Nat) : gones r1 (k + 1) t ≤ gones r1 k t ∧ gones r2 (k + 1) t - gones r1 (k + 1) t ≤ gones r2 k t - gones r1 k t :=
  ⟨(R.step k t (R.up k)).1, (R.step k t (R.up k)).2.1⟩
theorem Rows.pos (R : Rows r1 r2) (k : Nat) : ∀ t, 0 ≤ gones r1 k t ∧ 0 ≤ gones r2 k t - gones r1 k t
  | 0 => by rw [gones_zero, gones_zero]; omega
  | t + 1 => by
    have := R.pos k t
    have := R.up k t
    omega
theorem Rows.top (R : Rows r1 r2) : ∀ k t, gones r1 k t ≤ 2 * t ∧ gones r2 k t ≤ 4 * t
  | 0, 0 => by rw [gones_zero, gones_zero]; omega
  | 0, t + 1 => by
    have := R.top 0 t
    have := R.come t
    rw [gones_first r1, gones_first r2]
    simp only [cell] at this
    omega
  | k + 1, t => by
    have := R.top k t
    have := R.low k t
    omega
/-- how many of the first class wait at desk k behind t turns; how many of the second -/
noncomputable def w1 (r1 : List (List Int)) (t k : Nat) : Nat := (gones r1 k t - gones r1 (k + 1) t).toNat
noncomputable def w2 (r1 r2 : List (List Int)) (t k : Nat) : Nat := ((gones r2 k t - gones r2 (k + 1) t) - (gones r1 k t - gones r1 (k + 1) t)).toNat
/-- who comes to desk k in turn t -/
noncomputable def ah (r1 : List (List Int)) (t k : Nat) : Int := gones r1 k (t + 1) - gones r1 k t
noncomputable def bh (r1 r2 : List (List Int)) (t k : Nat) : Int := (gones r2 k (t + 1) - gones r2 k t) - ah r1 t k
theorem desk_nat {g1 g2 h1 h2 q1 q2 : Int} {A B P Q P' Q' r : Nat} (eT : (A : Int) + P = q1 - g1) (eS : (A : Int) + P + Q + B = q2 - g2) (e1 : (P' : Int) = q1 - h1) (e2 : (P' : Int) + Q' = q2 - h2) (n1 : h1 = min (g1 + r) q1) (n2 : h2 = min (g2 + r) q2) :
    A + P - r = P' ∧ Q + B - (r - (A + P)) = Q' := by
  by_cases c1 : g1 + r ≤ q1
  · rw [Int.min_eq_left c1] at n1
    by_cases c2 : g2 + r ≤ q2
    · rw [Int.min_eq_left c2] at n2
      omega
    · rw [Int.min_eq_right (Int.le_of_lt (Int.not_le.mp c2))] at n2
      omega
  · rw [Int.min_eq_right (Int.le_of_lt (Int.not_le.mp c1))] at n1
    by_cases c2 : g2 + r ≤ q2
    · rw [Int.min_eq_left c2] at n2
      omega
    · rw [Int.min_eq_right (Int.le_of_lt (Int.not_le.mp c2))] at n2
      omega
theorem Rows.desk (R : Rows r1 r2) (t k : Nat) (ht : t ≤ 4) :
    0 ≤ ah r1 t k ∧ ah r1 t k ≤ 20 ∧ 0 ≤ bh r1 r2 t k ∧ bh r1 r2 t k ≤ 20 ∧ w1 r1 t k ≤ 20 ∧ w2 r1 r2 t k ≤ 20 ∧
      ((ah r1 t k).toNat + w1 r1 t k) - (cell r1 (k + 1) t).toNat = w1 r1 (t + 1) k ∧
      (w2 r1 r2 t k + (bh r1 r2 t k).toNat) - ((cell r1 (k + 1) t).toNat - ((ah r1 t k).toNat + w1 r1 t k)) = w2 r1 r2 (t + 1) k ∧
      (((ah r1 t k).toNat + w1 r1 t k : Nat) : Int) - (w1 r1 (t + 1) k : Nat) = ah r1 t (k + 1) ∧
      ((((ah r1 t k).toNat + w1 r1 t k : Nat) : Int) + ((w2 r1 r2 t k + (bh r1 r2 t k).toNat : Nat) : Int) + 1) - (((w1 r1 (t + 1) k : Nat) : Int) + ((w2 r1 r2 (t + 1) k : Nat) : Int) + 1) - ah r1 t (k + 1) = bh r1 r2 t (k + 1) := by
  have a1 := R.up k t
  have a2 := R.low k t
  have a3 := R.low k (t + 1)
  have a5 := R.top k (t + 1)
  have a6 := R.pos (k + 1) t
  have a8 := R.up (k + 1) t
  have ro := R.room k t
  have n1 := gones_next r1 k t
  have n2 := gones_next r2 k t
  have p1 : 0 ≤ ah r1 t k := by unfold ah; omega
  have p2 : 0 ≤ bh r1 r2 t k := by unfold bh ah; omega
  have zA : ((ah r1 t k).toNat : Int) = gones r1 k (t + 1) - gones r1 k t := Int.toNat_of_nonneg p1
  have zB : ((bh r1 r2 t k).toNat : Int) = (gones r2 k (t + 1) - gones r2 k t) - (gones r1 k (t + 1) - gones r1 k t) := Int.toNat_of_nonneg p2
  have zP : (w1 r1 t k : Int) = gones r1 k t - gones r1 (k + 1) t := Int.toNat_of_nonneg (by omega)
  have zQ : (w2 r1 r2 t k : Int) = (gones r2 k t - gones r2 (k + 1) t) - (gones r1 k t - gones r1 (k + 1) t) := Int.toNat_of_nonneg (by omega)
  have zP' : (w1 r1 (t + 1) k : Int) = gones r1 k (t + 1) - gones r1 (k + 1) (t + 1) := Int.toNat_of_nonneg (by omega)
  have zQ' : (w2 r1 r2 (t + 1) k : Int) = (gones r2 k (t + 1) - gones r2 (k + 1) (t + 1)) - (gones r1 k (t + 1) - gones r1 (k + 1) (t + 1)) := Int.toNat_of_nonneg (by omega)
  have zr : ((cell r1 (k + 1) t).toNat : Int) = cell r1 (k + 1) t := Int.toNat_of_nonneg ro.2
  have D := desk_nat (g1 := gones r1 (k + 1) t) (g2 := gones r2 (k + 1) t) (h1 := gones r1 (k + 1) (t + 1)) (h2 := gones r2 (k + 1) (t + 1)) (q1 := gones r1 k (t + 1)) (q2 := gones r2 k (t + 1)) (A := (ah r1 t k).toNat) (B := (bh r1 r2 t k).toNat) (P := w1 r1 t k) (Q := w2 r1 r2 t k) (P' := w1 r1 (t + 1) k) (Q' := w2 r1 r2 (t + 1) k) (r := (cell r1 (k + 1) t).toNat) (by rw [zA, zP]; omega) (by rw [zA, zP, zQ, zB]; omega) zP' (by rw [zP', zQ']; omega) (by rw [zr]; exact n1) (by rw [zr, ← ro.1]; exact n2)
  have eA : ah r1 t (k + 1) = gones r1 (k + 1) (t + 1) - gones r1 (k + 1) t := rfl
  have eB : bh r1 r2 t (k + 1) = (gones r2 (k + 1) (t + 1) - gones r2 (k + 1) t) - (gones r1 (k + 1) (t + 1) - gones r1 (k + 1) t) := rfl
  have fA : ah r1 t k = gones r1 k (t + 1) - gones r1 k t := rfl
  have fB : bh r1 r2 t k = (gones r2 k (t + 1) - gones r2 k t) - (gones r1 k (t + 1) - gones r1 k t) := rfl
  clear n1 n2 ro zr
  refine ⟨p1, by omega, p2, by omega, by omega, by omega, D.1, D.2, ?_, ?_⟩
  · rw [eA, Int.natCast_add, zA, zP, zP']
    omega
  · rw [eB, eA, Int.natCast_add, Int.natCast_add, zA, zB, zP, zQ, zP', zQ']
    omega
theorem w_zero (k : Nat) : w1 r1 0 k = 0 ∧ w2 r1 r2 0 k = 0 := by
  unfold w1 w2
  rw [gones_zero, gones_zero, gones_zero, gones_zero]
  omega
theorem Rows.due (R : Rows r1 r2) (t k : Nat) (ht : t ≤ 5) : 0 ≤ gones r1 k t - gones r1 (k + 1) t ∧ gones r1 k t - gones r1 (k + 1) t ≤ 40 ∧ 0 ≤ (gones r2 k t - gones r2 (k + 1) t) - (gones r1 k t - gones r1 (k + 1) t) ∧ (gones r2 k t - gones r2 (k + 1) t) - (gones r1 k t - gones r1 (k + 1) t) ≤ 40 := by
  have := R.low k t
  have := R.pos (k + 1) t
  have := R.top k t
  omega
end Mine
end

section
open PySem PySem.Spec PySem.Calls PySem.W PyProof.Rows
namespace Mine
section
variable {M : Model} {A : Around} {E : Value → Shared → Prop} {s : Shared} {K : Frag} {h₀ : Heap} {L : Addr} {m mg mb : Str → Option Value} {p : Program} {loose : List Str} {mean : ExcName → Option Value} {env : Env} {x : Str} {pos : Pos} {v : Value} {Q : Value → Shared → Prop}
theorem name_built (F : Fr h₀ L s.heap m) (X : K.In h₀) (T : Top p loose mean mg mb h₀) (e : nsIn K mainGlobals x = some none) (hv : bootBuiltins x = some v) (hn : x ≠ "__name__") (h : Q v s) (hg : env.globals = mainGlobals) (hb : env.builtins = builtinsNs)
    (hk : env.scope.kind = .function) (hx : env.kindOf x = some .globalImplicit) (hd : (x == ("__debug__" : Str)) = false) : wpAny M A (eval (.Name x pos) env) Q E s :=
  Name_function_global hk hx (loadGlobal_builtin (env := env) (show s.heap.Ns env.globals mg from hg ▸ (T.keeps F.keep).g) (mg_none_of X T.g e) (show s.heap.Ns env.builtins mb from hb ▸ (T.keeps F.keep).b) ((T.builtins x hn).trans hv) h) hd
end
end Mine
namespace Mine
section
variable {prog : Program} {w : World} {A : Around} {E : Value → Shared → Prop} {s : Shared} {h₀ : Heap} {L D : Addr} {m : Str → Option Value}
/-- a list of the ledger is appended to -/
theorem append_in {its : List Value} {n : Nat} {x : Value} {Q : Value → Shared → Prop} (pre post : List (Addr × Obj)) (F : Fr h₀ L s.heap m) (N : News h₀ L s.heap (pre ++ (D, listOf its.toArray n) :: post)) (a : ∀ p ∈ pre, p.1 ≠ D) (b : ∀ p ∈ post, p.1 ≠ D) (hz : its.length ≤ sizeLine)
    (h : ∀ h', Fr h₀ L h' m → News h₀ L h' (pre ++ (D, listOf (its ++ [x]).toArray (n + 1)) :: post) → Q .none { s with heap := h' }) : wpAny (model prog w) A (call (.builtin "list.append") [.ref D, x]) Q E s := by
  have z := N (D, listOf its.toArray n) (List.mem_append.mpr (.inr (.head _)))
  refine append_at (hsz := by rw [List.size_toArray]; exact hz) z.1 fun h' hs ho' => h h' (F.change hs z.2.1 z.2.2) (news_set N a b hs ?_)
  rw [ho', List.push_toArray]
theorem sl_walk {row : List Int} {n : Nat} {p : Int} (h : row.length = n) : (List.take (min (n : Int).toNat row.length - p.toNat) (List.drop p.toNat row)).sum = sl row p n := by
  subst h
  unfold sl
  simp
theorem sl_walk' {row : List Int} {p l : Int} (h : l ≤ row.length) : (List.take (min l.toNat row.length - p.toNat) (List.drop p.toNat row)).sum = sl row p l := by
  unfold sl
  rw [Nat.min_eq_left (by omega)]
theorem gone_more {gv : List Value} {n i : Nat} {rows : List (List Int)} {t : Tok} (h : IntsAre gv ((List.range i).map (goneAt n rows))) : IntsAre (gv ++ [.int (goneAt n rows i) t]) ((List.range (i + 1)).map (goneAt n rows)) := by
  rw [List.range_succ, List.map_append]
  exact ints_snoc h
end
end Mine
namespace Mine
theorem off_of {l l' : List (Addr × Obj)} {I : Addr} (h : ∀ p ∈ l, p.1 ≠ I) (e : l'.map (·.1) = l.map (·.1)) : ∀ p ∈ l', p.1 ≠ I := by
  intro p hp
  have : p.1 ∈ l.map (·.1) := e ▸ List.mem_map_of_mem (f := (·.1)) hp
  obtain ⟨q, hq, e'⟩ := List.mem_map.mp this
  rw [← e']
  exact h q hq
section
variable {M : Model} {A : Around} {E : Value → Shared → Prop} {s : Shared} {h₀ : Heap} {L : Addr} {m : Str → Option Value} {news : List (Addr × Obj)}
theorem new_pair {vs : List Value} {Q : Value → Shared → Prop} (F : Fr h₀ L s.heap m) (N : News h₀ L s.heap news) (hz : vs.length ≤ sizeLine)
    (h : ∀ a h', (∀ r ∈ news, @LT.lt Nat _ r.1 a) → @LT.lt Nat _ L a → Fr h₀ L h' m → News h₀ L h' ((a, { cls := .type "tuple", data := .seq vs.toArray }) :: news) → Q (.ref a) { s with heap := h' }) : wpAny M A (newTuple vs) Q E s :=
  newTuple_N F N (fun h' F' N' => h _ h' (fun _ hr => Heap.lt_size (N _ hr).1) F.ns.lt F' N') hz
end
end Mine
end

section
open PySem PySem.Spec PySem.Calls PySem.W PyProof.Rows PyProof.Rows.LCg
namespace Mine
section
variable {prog : Program} {w : World} {A : Around} {s : Shared} {h₀ : Heap}
theorem comp_setup_range {env : Env} {a₀ : Int} {n : Nat} {elt target iter : Expr} {rest : List Comprehension} {scope : Scope} {cl : List (Str × Addr)} {pos : Pos} {L : Addr} {m : Str → Option Value} {Q : Value → Shared → Prop} {E : Value → Shared → Prop} (kc : Nat)
    (hclos : closureFor scope env = pure cl) (hpc : ∀ h, pushCells h scope.names = addCells kc h) (hkind : scope.kind = .function) (hnames : ∀ y ∈ scope.names, y.2 = .local → scope.names.lookup y.1 = some .local)
    (h : wpAny (model prog w) A (eval iter env) (fun xv s₁ => ∃ r b₀ t₀ u₀ v₀ news, xv = .ref r ∧ Fr h₀ L s₁.heap m ∧ News h₀ L s₁.heap news ∧ IsRange s₁.heap r a₀ b₀ 1 t₀ u₀ v₀ ∧ Builtin.Range.small a₀ b₀ 1 = true ∧ Builtin.Range.rangeSize a₀ b₀ 1 = (n : Int) ∧
      ∀ I C D oL H tk, @LT.lt Nat _ L I → @LT.lt Nat _ I D → @LT.lt Nat _ D C → (∀ p ∈ news, @LT.lt Nat _ p.1 I) → NsObj oL m → IsRangeIter H I (a₀ + ((0 : Nat) : Int) * 1) ((n : Int) - ((0 : Nat) : Int)) 1 → h₀.get? I = none → Fr h₀ C H (fun _ => none) →
        News h₀ C H ((L, oL) :: (D, lst []) :: (cellLedger (C + 1) kc ++ news)) → (∀ p ∈ (L, oL) :: (D, lst []) :: (cellLedger (C + 1) kc ++ news), p.1 ≠ I) → (∀ p ∈ (D, lst []) :: (cellLedger (C + 1) kc ++ news), p.1 ≠ L) →
        codeAny (model prog w) A (.compLoop (.ListComp elt (⟨target, iter, [], 0⟩ :: rest) scope pos) 0 (.ref I) (.ref D) (compEnvK scope cl C env)) (CompDone h₀ L m C D oL Q s₁) { s₁ with heap := H, toks := tk }) E s)
    (hh : A.handled = none)
    (hs : ∀ x, foldedSetIterable iter env x = pure x := by intro _; rfl) :
    wpAny (model prog w) A (eval (.ListComp elt (⟨target, iter, [], 0⟩ :: rest) scope pos) env) Q E s := by
  rw [eval_ListComp]
  refine wpAny_comprehension_free (use := none) rfl hs hclos hkind hnames (wpAny_mono h (fun xv s₁ h₁ => ?_) fun _ _ e => e)
  obtain ⟨r, b₀, t₀, u₀, v₀, news, rfl, F, N, hr, hsm, hn, K⟩ := h₁
  refine wpAny_pyIter_range hr hsm ?_
  refine wpAny_newObj_type (newEnv_comp ?_)
  dsimp only
  rw [hpc]
  generalize hI : s₁.heap.objs.size = I at *
  have e1 : (s₁.heap.push { cls := .type "range_iterator", data := .fields #[rawInt a₀, rawInt (Builtin.Range.rangeSize a₀ b₀ 1), rawInt 1] }).objs.size = I + 1 := by rw [Heap.size_push, hI]
  generalize hH1 : s₁.heap.push { cls := .type "range_iterator", data := .fields #[rawInt a₀, rawInt (Builtin.Range.rangeSize a₀ b₀ 1), rawInt 1] } = H1 at *
  have e2 : (H1.push { cls := .type "list", dict := none, data := .seq ([] : List Value).toArray }).objs.size = I + 2 := by rw [Heap.size_push, e1]
  generalize hH2 : H1.push { cls := .type "list", dict := none, data := .seq ([] : List Value).toArray } = H2 at *
  have e3 : (H2.push { cls := .type "dict", data := .dict #[] }).objs.size = I + 3 := by rw [Heap.size_push, e2]
  have oldI : ∀ b o, s₁.heap.get? b = some o → H1.get? b = some o := fun b o e => by rw [← hH1]; exact Heap.get?_push_of_some _ e
  have old1 : ∀ b o, H1.get? b = some o → H2.get? b = some o := fun b o e => by rw [← hH2]; exact Heap.get?_push_of_some _ e
  have old2 : ∀ b o, H2.get? b = some o → (addCells kc (H2.push { cls := .type "dict", data := .dict #[] })).get? b = some o := fun b o e => addCells_keeps _ _ _ _ (Heap.get?_push_of_some _ e)
  have fresh : ∀ a, I ≤ a → s₁.heap.get? a = none := fun a ha => by
    cases e : s₁.heap.get? a with
    | none => rfl
    | some o' => exact absurd (Heap.lt_size e) (by rw [hI]; exact Nat.not_lt.mpr ha)
  have fresh₀ : ∀ a, I ≤ a → h₀.get? a = none := fun a ha => by
    cases e : h₀.get? a with
    | none => rfl
    | some o' => have := F.keep a o' e; rw [fresh a ha] at this; cases this
  have hL₀ : h₀.get? L = none := by
    cases e : h₀.get? L with
    | none => rfl
    | some o' => exact absurd (Heap.lt_size e) (Nat.not_lt.mpr F.above)
  have hLI : @LT.lt Nat _ L I := by have := F.ns.lt; rw [hI] at this; exact this
  obtain ⟨oL, heL, hoL⟩ := ns_obj F.ns
  have itI : H1.get? I = some { cls := .type "range_iterator", data := .fields #[rawInt a₀, rawInt (Builtin.Range.rangeSize a₀ b₀ 1), rawInt 1] } := by rw [← hH1, ← hI]; exact Heap.get?_push_size _ rfl
  have itD : H2.get? (I + 1) = some (lst []) := by rw [← hH2, ← e1]; exact Heap.get?_push_size _ rfl
  have lN : ∀ p ∈ news, @LT.lt Nat _ p.1 I := fun p hp => by have := Heap.lt_size (N p hp).1; rw [hI] at this; exact this
  have hC2 : @Eq Nat H2.objs.size (I + 2) := e2
  rw [hC2, e1]
  have NC := addCells_news (h₀ := h₀) (C := I + 2) kc (H2.push { cls := .type "dict", data := .dict #[] }) (by rw [e3]; exact Nat.lt_succ_self _) (fun a ha => fresh₀ a (by rw [e3] at ha; exact Nat.le_trans (Nat.le_add_right I 3) ha))
  rw [e3] at NC
  have FC : Fr h₀ (I + 2) (addCells kc (H2.push { cls := .type "dict", data := .dict #[] })) (fun _ => none) := by
    refine ⟨(by rw [← hC2]; exact (Heap.Ns.new H2 (.type "dict")).keeps (addCells_keeps kc _)), fun b o e => old2 _ _ (old1 _ _ (oldI _ _ (F.keep b o e))), Nat.le_trans F.above (Nat.le_trans (Nat.le_of_lt hLI) (Nat.le_add_right I 2))⟩
  have NN : News h₀ (I + 2) (addCells kc (H2.push { cls := .type "dict", data := .dict #[] })) ((L, oL) :: (I + 1, lst []) :: (cellLedger (I + 3) kc ++ news)) := by
    intro p hp
    rcases List.mem_cons.mp hp with rfl | hp
    · exact ⟨old2 _ _ (old1 _ _ (oldI _ _ heL)), Nat.ne_of_lt (Nat.lt_of_lt_of_le hLI (Nat.le_add_right I 2)), hL₀⟩
    rcases List.mem_cons.mp hp with rfl | hp
    · exact ⟨old2 _ _ itD, Nat.ne_of_lt (Nat.lt_succ_self (I + 1)), fresh₀ _ (Nat.le_succ I)⟩
    rcases List.mem_append.mp hp with hp | hp
    · exact ⟨(NC p hp).1, (NC p hp).2.1, (NC p hp).2.2.1⟩
    · exact ⟨old2 _ _ (old1 _ _ (oldI _ _ (N p hp).1)), Nat.ne_of_lt (Nat.lt_of_lt_of_le (lN p hp) (Nat.le_add_right I 2)), (N p hp).2.2⟩
  have KK := K I (I + 2) (I + 1) oL _ (s₁.toks) hLI (Nat.lt_succ_self I) (Nat.lt_succ_self (I + 1)) lN hoL (by show _ = _; rw [old2 _ _ (old1 _ _ itI), hn]; simp) (fresh₀ _ (Nat.le_refl _)) FC NN (fun p hp => by
      rcases List.mem_cons.mp hp with rfl | hp
      · exact Nat.ne_of_lt hLI
      rcases List.mem_cons.mp hp with rfl | hp
      · exact Ne.symm (Nat.ne_of_lt (Nat.lt_succ_self I))
      rcases List.mem_append.mp hp with hp | hp
      · exact Ne.symm (Nat.ne_of_lt (Nat.lt_of_lt_of_le (Nat.lt_add_of_pos_right (by decide)) (NC p hp).2.2.2))
      · exact Nat.ne_of_lt (lN p hp)) (fun p hp => by
      rcases List.mem_cons.mp hp with rfl | hp
      · exact Ne.symm (Nat.ne_of_lt (Nat.lt_succ_of_lt hLI))
      rcases List.mem_append.mp hp with hp | hp
      · exact Ne.symm (Nat.ne_of_lt (Nat.lt_of_lt_of_le (Nat.lt_of_lt_of_le hLI (Nat.le_add_right I 3)) (NC p hp).2.2.2))
      · exact (N p hp).2.1)
  have KQ : codeAny (model prog w) A (.compLoop (.ListComp elt (⟨target, iter, [], 0⟩ :: rest) scope pos) 0 (.ref I) (.ref (I + 1)) (compEnvK scope cl (I + 2) env)) (compPost (model prog w) A E none Q (.ref (I + 1)) (I + 2)) { s₁ with heap := addCells kc (H2.push { cls := .type "dict", data := .dict #[] }), toks := s₁.toks } := by
    refine codeAny_mono KK ?_
    rintro r s' ⟨rfl, h', tk', mc, nw, rfl, F', N', oL', fin⟩
    refine ⟨mc, F'.ns, fun h'' hs => fin h'' tk' ⟨?_, fun b o e => hs.extBut _ _ (fun q => ?_) (F'.keep b o e), F.above⟩ (fun p hp => ?_)⟩
    · exact hoL.ns (hs.extBut _ _ (N' _ (.head _)).2.1 (N' _ (.head _)).1)
    · rw [q, fresh₀ _ (Nat.le_add_right I 2)] at e; cases e
    · have z := N' p (.tail _ hp)
      exact ⟨hs.extBut _ _ z.2.1 z.1, oL' p hp, z.2.2⟩
  have st : IsRangeIter (addCells kc (H2.push { cls := .type "dict", data := .dict #[] })) I (a₀ + ((0 : Nat) : Int) * 1) ((n : Int) - ((0 : Nat) : Int)) 1 := by show _ = _; rw [old2 _ _ (old1 _ _ itI), hn]; simp
  refine codeAny_compStart_list KQ ((range_walks (prog := prog) (w := w) (A := A) hh a₀ n).self 0 _ _ _ st KQ)
/-- a list comprehension over a range, whose elements are ints -/
theorem comp_range {env : Env} {elt iter : Expr} {x : Str} {px : Pos} {scope : Scope} {cl : List (Str × Addr)} {pos : Pos} {L : Addr} {m : Str → Option Value} {Q : Value → Shared → Prop} {E : Value → Shared → Prop} (f : Int → Int) (a₀ : Int) (n : Nat)
    (_F₀ : Fr h₀ L s.heap m) (hclos : closureFor scope env = pure cl) (hpc : ∀ h, pushCells h scope.names = h) (hkind : scope.kind = .function) (hnames : ∀ y ∈ scope.names, y.2 = .local → scope.names.lookup y.1 = some .local) (hx : scope.names.lookup x = some .local)
    (hh : A.handled = none)
    (h : wpAny (model prog w) A (eval iter env) (fun xv s₁ => ∃ r b₀ t₀ u₀ v₀ news, xv = .ref r ∧ Fr h₀ L s₁.heap m ∧ News h₀ L s₁.heap news ∧ IsRange s₁.heap r a₀ b₀ 1 t₀ u₀ v₀ ∧ Builtin.Range.small a₀ b₀ 1 = true ∧ Builtin.Range.rangeSize a₀ b₀ 1 = (n : Int) ∧ n ≤ sizeLine ∧
      (∀ C d t h tk tail (mc : Str → Option Value) (E' : Value → Shared → Prop), a₀ ≤ d → d < a₀ + (n : Int) → @LT.lt Nat _ L C → (∀ p ∈ news, @LT.lt Nat _ p.1 C) → Fr h₀ C h (fun y => if y = x then some (.int d t) else mc y) → News h₀ C h (news ++ tail) →
        wpAny (model prog w) A (eval elt (compEnvK scope cl C env)) (EltEnd h₀ C (fun y => if y = x then some (.int d t) else mc y) (news ++ tail) { s₁ with heap := h, toks := tk } (fun y => ∃ t', y = .int (f d) t')) E' { s₁ with heap := h, toks := tk }) ∧
      ∀ D ys h tk, IntsAre ys ((List.range n).map fun (i : Nat) => f (a₀ + (i : Int))) → (∀ p ∈ news, @LT.lt Nat _ p.1 D) → Fr h₀ L h m → News h₀ L h ((D, lst ys) :: news) → Q (.ref D) { s₁ with heap := h, toks := tk }) E s)
    (hs : ∀ x, foldedSetIterable iter env x = pure x := by intro _; rfl) :
    wpAny (model prog w) A (eval (.ListComp elt [⟨.Name x px, iter, [], 0⟩] scope pos) env) Q E s := by
  refine comp_setup_range (a₀ := a₀) (n := n) (h₀ := h₀) (L := L) (m := m) 0 hclos hpc hkind hnames (wpAny_mono h (fun xv s₁ h₁ => ?_) fun _ _ e => e) hh hs
  obtain ⟨r, b₀, t₀, u₀, v₀, news, rfl, F, N, hr, hsm, hn, hsz, turn, fin⟩ := h₁
  refine ⟨r, b₀, t₀, u₀, v₀, news, rfl, F, N, hr, hsm, hn, ?_⟩
  intro I C D oL H tk hLI hID hDC hnI hoL hit hI₀ FC NC offI offL
  have Wl := range_walks (prog := prog) (w := w) (A := A) (I := I) hh a₀ n
  refine comp_loop (G := eval elt (compEnvK scope cl C env) >>= fun x => call (.builtin "list.append") [.ref D, x] >>= fun _ => pure ()) (iter := iter) (target := .Name x px)
    (fun i _ nw => ∃ ys, nw = (L, oL) :: (D, lst ys) :: news ∧ IntsAre ys ((List.range i).map fun (i : Nat) => f (a₀ + (i : Int)))) rfl Wl (fun i h st => ⟨_, st⟩) ?_ ?_ FC NC offI (Ne.symm (Nat.ne_of_lt (Nat.lt_trans hID hDC))) hI₀ ?_ ⟨[], rfl, .nil⟩ ?_ ?_
  · intro i h h' o _ nw st e e' keep N' hj
    have st' : h.get? I = some _ := st
    show h'.get? I = some _
    rw [e', ← e]; exact st'
  · intro i v h tk Q' E' hP st hQ
    exact wpAny_of_eq (a := ()) rfl hQ
  · exact hit
  · rintro i v nw mc h tk oI E' hi hP ⟨ys, rfl, hys⟩ F₁ N₁ off₁
    obtain ⟨t, rfl⟩ := hP
    have hi9 : i < n := hi
    refine wpAny_assign_Name (wpAny_storeName_local (lookup_relabel_local hx) F₁.ns (fun h₂ hn₂ hs₂ => ?_) (by simp [compEnvK, relabel, hkind]))
    have nC := fun p hp => (N₁ p hp).2.1
    have F₂ : Fr h₀ C h₂ (fun y => if y = x then some (.int (a₀ + (i : Int)) t) else mc y) := F₁.set hn₂ hs₂
    have N₂ : News h₀ C h₂ ((I, oI) :: (L, oL) :: (D, lst ys) :: news) := N₁.set hs₂
    refine wpAny_bind (wpAny_mono (turn C (a₀ + (i : Int)) t h₂ _ [(I, oI), (L, oL), (D, lst ys)] mc E' (by omega) (by omega) (Nat.lt_trans hLI (Nat.lt_trans hID hDC)) (fun p hp => Nat.lt_trans (hnI p hp) (Nat.lt_trans hID hDC)) F₂ (fun p hp => N₂ p (by
      rcases List.mem_append.mp hp with hp | hp
      · exact .tail _ (.tail _ (.tail _ hp))
      · simp only [List.mem_cons, List.not_mem_nil, or_false] at hp
        rcases hp with rfl | rfl | rfl
        · exact .head _
        · exact .tail _ (.head _)
        · exact .tail _ (.tail _ (.head _))))) ?_ fun _ _ e => e)
    rintro y s₃ ⟨⟨t', rfl⟩, h₃, tk₃, rfl, F₃, N₃⟩
    have zD := N₃ (D, lst ys) (List.mem_append.mpr (.inr (.tail _ (.tail _ (.head _)))))
    have zI := N₃ (I, oI) (List.mem_append.mpr (.inr (.head _)))
    have zL := N₃ (L, oL) (List.mem_append.mpr (.inr (.tail _ (.head _))))
    have ly : ys.length = i := by
      rw [hys.length, List.length_map, List.length_range]
    refine wpAny_bind (append_at (hsz := by show ys.toArray.size ≤ sizeLine; rw [List.size_toArray, ly]; exact Nat.le_trans (Nat.le_of_lt hi) hsz) zD.1 fun h₅ hs₅ hD₅ => wpAny_pure ?_)
    refine ⟨h₅, tk₃, _, (L, oL) :: (D, lst (ys ++ [.int (f (a₀ + (i : Int))) t'])) :: news, rfl, F₃.change hs₅ zD.2.1 zD.2.2, ?_, ?_, ys ++ [.int (f (a₀ + (i : Int))) t'], rfl, ?_⟩
    · intro p hp
      rcases List.mem_cons.mp hp with rfl | hp
      · exact ⟨hs₅.extBut _ _ (Ne.symm (off₁ (D, lst ys) (.tail _ (.head _)))) zI.1, zI.2⟩
      rcases List.mem_cons.mp hp with rfl | hp
      · exact ⟨hs₅.extBut _ _ (Ne.symm (offL (D, lst []) (.head _))) zL.1, zL.2⟩
      rcases List.mem_cons.mp hp with rfl | hp
      · exact ⟨hD₅.trans (congrArg some (lst_snoc ys _)), zD.2⟩
      · have z := N₃ p (List.mem_append.mpr (.inl hp))
        exact ⟨hs₅.extBut _ _ (Nat.ne_of_lt (Nat.lt_trans (hnI p hp) hID)) z.1, z.2⟩
    · intro p hp
      rcases List.mem_cons.mp hp with rfl | hp
      · exact off₁ _ (.head _)
      rcases List.mem_cons.mp hp with rfl | hp
      · exact off₁ (D, lst ys) (.tail _ (.head _))
      · exact off₁ p (.tail _ (.tail _ hp))
    · rw [List.range_succ, List.map_append]
      exact ints_snoc (t := t') hys
  · rintro h tk mc nw ⟨ys, rfl, hys⟩ F' N' off'
    refine ⟨rfl, h, tk, mc, (D, lst ys) :: news, rfl, F', N', fun p hp => ?_, fun h' tk' F'' N'' => fin D ys h' tk' ?_ (fun p hp => Nat.lt_trans (hnI p hp) hID) F'' N''⟩
    · rcases List.mem_cons.mp hp with rfl | hp
      · exact offL (D, lst []) (.head _)
      · exact offL p (.tail _ hp)
    · exact hys
end
end Mine
end

section
open PySem PySem.Spec PySem.Calls PySem.W PyProof.Rows
namespace Mine
theorem pad_zero : pad 0 0 = Str.ofString "x" := by decide +kernel
theorem sp_pad (a p q : Nat) : sp a ++ pad p q = pad (a + p) q := by
  refine Str.ext' (Array.toList_inj.mp ?_)
  show ((sp a).cps ++ (pad p q).cps).toList = _
  simp [sp, pad, ← List.append_assoc, List.replicate_append_replicate]
theorem pad_sp (b p q : Nat) : pad p q ++ sp b = pad p (q + b) := by
  refine Str.ext' (Array.toList_inj.mp ?_)
  show ((pad p q).cps ++ (sp b).cps).toList = _
  simp [sp, pad, List.append_assoc, List.replicate_append_replicate]
theorem pad_plain (p q : Nat) : Plain (pad p q) := by
  intro c hc
  simp only [pad, List.mem_append, List.mem_cons, List.mem_replicate] at hc
  omega
theorem sp_len (n : Nat) : (sp n).length = n := by simp [sp, Str.length]
/-- the letters of a turn: those of turn t stand at t + 1 -/
def lets (t : Nat) : Str := if t % 2 = 0 then Str.ofString "ABC" else Str.ofString "abc"
def letter (t k : Nat) : Str := Txt.item (lets t) (k : Int)
theorem lets_two (t : Nat) : lets t = Str.ofString "ABC" ∨ lets t = Str.ofString "abc" := by
  unfold lets
  by_cases h : t % 2 = 0
  · exact .inl (if_pos h)
  · exact .inr (if_neg h)
theorem lets_len (t : Nat) : (lets t).length = 3 := by
  rcases lets_two t with h | h <;> rw [h] <;> decide +kernel
theorem letter_lower (t : Nat) {k : Nat} (hk : k < 3) : Txt.lower (letter t k) = Txt.item (Str.ofString "abc") (k : Int) := by
  have h3 : k = 0 ∨ k = 1 ∨ k = 2 := by omega
  unfold letter
  rcases lets_two t with h | h <;> rw [h] <;> rcases h3 with rfl | rfl | rfl <;> decide +kernel
theorem letter_len (t : Nat) {k : Nat} (hk : k < 3) : (letter t k).length ≤ 100 := by
  have h3 : k = 0 ∨ k = 1 ∨ k = 2 := by omega
  unfold letter
  rcases lets_two t with h | h <;> rw [h] <;> rcases h3 with rfl | rfl | rfl <;> decide +kernel
theorem letter_plain (t : Nat) {k : Nat} (hk : k < 3) : Plain (letter t k) := by
  have h3 : k = 0 ∨ k = 1 ∨ k = 2 := by omega
  unfold letter Plain
  rcases lets_two t with h | h <;> rw [h] <;> rcases h3 with rfl | rfl | rfl <;> decide +kernel
theorem lower_plain (t : Nat) {k : Nat} (hk : k < 3) : Plain (Txt.lower (letter t k)) := by
  rw [letter_lower t hk]
  have h3 : k = 0 ∨ k = 1 ∨ k = 2 := by omega
  unfold Plain
  rcases h3 with rfl | rfl | rfl <;> decide +kernel
theorem lower_other (t t' : Nat) {k k' : Nat} (hk : k < 3) (hk' : k' < 3) (h : k ≠ k') : Txt.lower (letter t k) ≠ Txt.lower (letter t' k') := by
  rw [letter_lower t hk, letter_lower t' hk']
  have h3 : k = 0 ∨ k = 1 ∨ k = 2 := by omega
  have h4 : k' = 0 ∨ k' = 1 ∨ k' = 2 := by omega
  rcases h3 with rfl | rfl | rfl <;> rcases h4 with rfl | rfl | rfl <;> first | exact absurd rfl h | decide +kernel
theorem lower_same (t t' : Nat) {k : Nat} (hk : k < 3) : Txt.lower (letter t k) = Txt.lower (letter t' k) := by
  rw [letter_lower t hk, letter_lower t' hk]
/-- the lines in the order of their laying: the e-th is desk (e % 3)'s behind e / 3 turns -/
def keyOf (e : Nat) : Str := letter (e / 3) (e % 3)
noncomputable def lineOf (r1 r2 : List (List Int)) (e : Nat) : Str := pad (w1 r1 (e / 3) (e % 3)) (w2 r1 r2 (e / 3) (e % 3))
theorem key_at {t k e : Nat} (hk : k < 3) (h : e = 3 * t + k) : keyOf e = letter t k := by
  subst h
  unfold keyOf
  rw [show (3 * t + k) / 3 = t by omega, show (3 * t + k) % 3 = k by omega]
theorem line_at {r1 r2 : List (List Int)} {t k e : Nat} (hk : k < 3) (h : e = 3 * t + k) : lineOf r1 r2 e = pad (w1 r1 t k) (w2 r1 r2 t k) := by
  subst h
  unfold lineOf
  rw [show (3 * t + k) / 3 = t by omega, show (3 * t + k) % 3 = k by omega]
end Mine
end

section
open PySem PySem.Spec PySem.Calls PySem.W PyProof.Rows
namespace Mine
section
variable {w : World} {loose : List Str} {mean : ExcName → Option Value} {mg mb : Str → Option Value}
theorem c_iadd_sp (a p q : Nat) (t u : Tok) (ha : a ≤ 100) (hp : p ≤ 100) (hq : q ≤ 100) :
    Cl w loose mean mg mb 2 80 [Value.str (sp a) t, Value.str (pad p q) u] [] [] (fun _ => True) (fun v T' => T' = [] ∧ ∃ t', v = Value.str (pad (a + p) q) t') := by
  have := c_iadd (w := w) (loose := loose) (mean := mean) (mg := mg) (mb := mb) (sp a) (pad p q) t u (by rw [sp_len]; omega) (by rw [pad_len]; omega)
  rw [sp_pad] at this
  exact this
theorem c_iadd_pad (b p q : Nat) (t u : Tok) (hb : b ≤ 100) (hp : p ≤ 200) (hq : q ≤ 100) :
    Cl w loose mean mg mb 2 80 [Value.str (pad p q) t, Value.str (sp b) u] [] [] (fun _ => True) (fun v T' => T' = [] ∧ ∃ t', v = Value.str (pad p (q + b)) t') := by
  have := c_iadd (w := w) (loose := loose) (mean := mean) (mg := mg) (mb := mb) (pad p q) (sp b) t u (by rw [pad_len]; omega) (by rw [sp_len]; omega)
  rw [pad_sp] at this
  exact this
end
section
variable {M : Model} {A : Around} {E : Value → Shared → Prop} {s : Shared} {h₀ : Heap} {m : Str → Option Value} {news : List (Addr × Obj)} {env : Env} {x : Str} {px : Pos} {v : Value} {Q : Unit → Shared → Prop}
/-- a local is assigned -/
theorem assign_local (F : Fr h₀ env.locals s.heap m) (N : News h₀ env.locals s.heap news) (hk : env.scope.kind = .function) (hx : env.kindOf x = some .local)
    (h : ∀ h' tk', Fr h₀ env.locals h' (fun y => if y = x then some v else m y) → News h₀ env.locals h' news → Q () { s with heap := h', toks := tk' }) : wpAny M A (assign (.Name x px) env v) Q E s :=
  wpAny_assign_Name (wpAny_storeName_local hx F.ns (fun _ hn hs => h _ _ (F.set hn hs) (N.set hs)) (by simp [hk]))
end
/-- the table's letters behind t turns -/
def letsAt (t : Nat) : Str := if t = 0 then Str.ofString "" else lets t
/-- a row of the first class and the second's together -/
def both (n : Nat) (f1 f2 : List Int) : List Int := (List.range n).map fun t => f1.getD t 0 + f2.getD t 0
theorem both_at {n : Nat} {f1 f2 : List Int} (h1 : f1.length = n) (h2 : f2.length = n) (t : Nat) : (both n f1 f2).getD t 0 = f1.getD t 0 + f2.getD t 0 := by
  unfold both
  by_cases h : t < n
  · simp [List.getD_eq_getElem?_getD, h]
  · simp [List.getD_eq_getElem?_getD, h, List.getElem?_eq_none (by omega : f1.length ≤ t), List.getElem?_eq_none (by omega : f2.length ≤ t)]
theorem both_len (n : Nat) (f1 f2 : List Int) : (both n f1 f2).length = n := by simp [both]
theorem getD_in {f : List Int} {P : Int → Prop} (h : ∀ e ∈ f, P e) (h0 : P 0) (t : Nat) : P (f.getD t 0) := by
  rw [List.getD_eq_getElem?_getD]
  cases e : f[t]? with
  | none => exact h0
  | some v => exact h v (List.mem_of_getElem? e)
theorem mod_bound (ds : List Int) (p : Int) : (∀ e ∈ ds.map (fun d => (d.fdiv p).fmod 3), 0 ≤ e ∧ e ≤ 2) ∧ ∀ e ∈ ds.map (fun d => (d.fdiv p).fmod 5), 0 ≤ e ∧ e ≤ 4 := by
  constructor
  · intro e he
    obtain ⟨d, _, rfl⟩ := List.mem_map.mp he
    have := Int.fmod_eq_emod_of_nonneg (d.fdiv p) (show (0 : Int) ≤ 3 by decide)
    omega
  · intro e he
    obtain ⟨d, _, rfl⟩ := List.mem_map.mp he
    have := Int.fmod_eq_emod_of_nonneg (d.fdiv p) (show (0 : Int) ≤ 5 by decide)
    omega
theorem rows_are {n : Nat} {f1 f2 f3 f4 f5 : List Int} (l1 : f1.length = n) (l2 : f2.length = n) (b1 : ∀ e ∈ f1, 0 ≤ e ∧ e ≤ 2) (b2 : ∀ e ∈ f2, 0 ≤ e ∧ e ≤ 2) (b3 : ∀ e ∈ f3, 0 ≤ e ∧ e ≤ 4) (b4 : ∀ e ∈ f4, 0 ≤ e ∧ e ≤ 4) (b5 : ∀ e ∈ f5, 0 ≤ e ∧ e ≤ 4) :
    Rows [f1, f3, f4, f5] [both n f1 f2, f3, f4, f5] := by
  refine ⟨fun t => ?_, fun k t => ⟨rfl, ?_⟩⟩
  · have e1 := getD_in b1 (by omega) t
    have e2 := getD_in b2 (by omega) t
    have e3 := both_at l1 l2 t
    show 0 ≤ f1.getD t 0 ∧ f1.getD t 0 ≤ 2 ∧ f1.getD t 0 ≤ (both n f1 f2).getD t 0 ∧ (both n f1 f2).getD t 0 ≤ f1.getD t 0 + 2
    omega
  · match k with
    | 0 => exact (getD_in b3 (by omega) t).1
    | 1 => exact (getD_in b4 (by omega) t).1
    | 2 => exact (getD_in b5 (by omega) t).1
    | k + 3 => show 0 ≤ ([] : List Int).getD t 0; simp
end Mine
namespace Mine
/-- the table's part of the ledger behind g laid lines -/
def TabJ (w : World) (x dx : Addr) (rest : List (Addr × Obj)) (r1 r2 : List (List Int)) (g : Nat) (nw : List (Addr × Obj)) : Prop :=
  ∃ l t1 t2 t3 ht hn nl a1 b1 a2 b2 a3 b3 n1 n2 n3, nw = Tab w x dx l t1 t2 t3 ht hn nl (keyOf g) (lineOf r1 r2 g) (keyOf (g + 1)) (lineOf r1 r2 (g + 1)) (keyOf (g + 2)) (lineOf r1 r2 (g + 2)) a1 b1 a2 b2 a3 b3 n1 n2 n3 ++ rest ∧
    ∀ p ∈ rest, ∀ q ∈ Tab w x dx l t1 t2 t3 ht hn nl (keyOf g) (lineOf r1 r2 g) (keyOf (g + 1)) (lineOf r1 r2 (g + 1)) (keyOf (g + 2)) (lineOf r1 r2 (g + 2)) a1 b1 a2 b2 a3 b3 n1 n2 n3, p.1 ≠ q.1
def OutJ (w : World) (x dx ld : Addr) (rest : List (Addr × Obj)) (r1 r2 : List (List Int)) (i : Nat) (m : Str → Option Value) (nw : List (Addr × Obj)) : Prop :=
  m (Str.ofString "table") = some (.ref x) ∧ m (Str.ofString "desks") = some (.ref ld) ∧ (∃ t, m (Str.ofString "letters") = some (.str (letsAt i) t)) ∧ TabJ w x dx rest r1 r2 (3 * i) nw
def InJ (w : World) (x dx ld : Addr) (rest : List (Addr × Obj)) (r1 r2 : List (List Int)) (i j : Nat) (m : Str → Option Value) (nw : List (Addr × Obj)) : Prop :=
  m (Str.ofString "table") = some (.ref x) ∧ m (Str.ofString "desks") = some (.ref ld) ∧ (∃ t, m (Str.ofString "letters") = some (.str (lets (i + 1)) t)) ∧ (∃ t, m (Str.ofString "turn") = some (.int (i : Int) t)) ∧
    (∃ t, m (Str.ofString "ahead") = some (.int (ah r1 i j) t)) ∧ (∃ t, m (Str.ofString "behind") = some (.int (bh r1 r2 i j) t)) ∧ TabJ w x dx rest r1 r2 (3 * i + j) nw
end Mine
namespace Mine
theorem TabJ.start {w : World} {x dx : Addr} {rest : List (Addr × Obj)} {r1 r2 : List (List Int)} {l t1 t2 t3 : Addr} {ht : Tok} {hn nl : Nat} {a1 b1 a2 b2 a3 b3 : Tok} {n1 n2 n3 : Nat}
    (off : ∀ p ∈ rest, ∀ q ∈ Tab w x dx l t1 t2 t3 ht hn nl (Str.ofString "A") (Str.ofString "x") (Str.ofString "B") (Str.ofString "x") (Str.ofString "C") (Str.ofString "x") a1 b1 a2 b2 a3 b3 n1 n2 n3, p.1 ≠ q.1) :
    TabJ w x dx rest r1 r2 (3 * 0) (Tab w x dx l t1 t2 t3 ht hn nl (Str.ofString "A") (Str.ofString "x") (Str.ofString "B") (Str.ofString "x") (Str.ofString "C") (Str.ofString "x") a1 b1 a2 b2 a3 b3 n1 n2 n3 ++ rest) := by
  have kA : keyOf (3 * 0) = Str.ofString "A" := by decide +kernel
  have kB : keyOf (3 * 0 + 1) = Str.ofString "B" := by decide +kernel
  have kC : keyOf (3 * 0 + 2) = Str.ofString "C" := by decide +kernel
  have lA : lineOf r1 r2 (3 * 0) = Str.ofString "x" := by rw [line_at (t := 0) (k := 0) (by decide) rfl, (w_zero (r1 := r1) (r2 := r2) 0).1, (w_zero (r1 := r1) (r2 := r2) 0).2]; exact pad_zero
  have lB : lineOf r1 r2 (3 * 0 + 1) = Str.ofString "x" := by rw [line_at (t := 0) (k := 1) (by decide) rfl, (w_zero (r1 := r1) (r2 := r2) 1).1, (w_zero (r1 := r1) (r2 := r2) 1).2]; exact pad_zero
  have lC : lineOf r1 r2 (3 * 0 + 2) = Str.ofString "x" := by rw [line_at (t := 0) (k := 2) (by decide) rfl, (w_zero (r1 := r1) (r2 := r2) 2).1, (w_zero (r1 := r1) (r2 := r2) 2).2]; exact pad_zero
  refine ⟨l, t1, t2, t3, ht, hn, nl, a1, b1, a2, b2, a3, b3, n1, n2, n3, ?_⟩
  rw [kA, kB, kC, lA, lB, lC]
  exact ⟨rfl, off⟩
end Mine
namespace Mine
theorem lets_odd {i : Nat} (h : (i : Int).fmod 2 = 1) : lets (i + 1) = Str.ofString "ABC" := by
  have := Int.fmod_eq_emod_of_nonneg (i : Int) (show (0 : Int) ≤ 2 by decide)
  exact if_pos (by omega)
theorem lets_even {i : Nat} (h : ¬ (i : Int).fmod 2 = 1) : lets (i + 1) = Str.ofString "abc" := by
  have := Int.fmod_eq_emod_of_nonneg (i : Int) (show (0 : Int) ≤ 2 by decide)
  exact if_neg (by omega)
end Mine
namespace Mine
/-- a text is told, the heap stays -/
def TextEnd (x : Str) (h : Heap) (s : Shared) (v : Value) (s' : Shared) : Prop := ∃ t' tk', v = Value.str x t' ∧ s' = Shared.mk h s.gens s.drawn tk' s.os
end Mine
namespace Mine
theorem tab_last {h₀ h : Heap} {L : Addr} {p : Addr × Obj} {T rest : List (Addr × Obj)} (N : News h₀ L h (p :: (T ++ rest))) : News h₀ L h (T ++ (p :: rest)) := by
  intro q hq
  refine N q ?_
  simp only [List.mem_cons, List.mem_append] at hq ⊢
  rcases hq with h | h | h <;> simp [h]
theorem tab_first {h₀ h : Heap} {L : Addr} {p : Addr × Obj} {T rest : List (Addr × Obj)} (N : News h₀ L h (T ++ (p :: rest))) : News h₀ L h (p :: (T ++ rest)) := by
  intro q hq
  refine N q ?_
  simp only [List.mem_cons, List.mem_append] at hq ⊢
  rcases hq with h | h | h <;> simp [h]
theorem off_more {I : Addr} {o : Obj} {T rest : List (Addr × Obj)} (h : ∀ p ∈ T ++ rest, p.1 ≠ I) (off : ∀ p ∈ rest, ∀ q ∈ T, p.1 ≠ q.1) : ∀ p ∈ (I, o) :: rest, ∀ q ∈ T, p.1 ≠ q.1 := by
  intro p hp q hq
  rcases List.mem_cons.mp hp with rfl | hp
  · exact Ne.symm (h q (List.mem_append.mpr (.inl hq)))
  · exact off p hp q hq
end Mine
namespace Mine
section
variable {w : World} {loose : List Str} {mean : ExcName → Option Value} {mg mb : Str → Option Value}
theorem c_strip3 (p q p' q' : Nat) (t u : Tok) (n : Int) (hp : p ≤ 100) (hq : q ≤ 100) (hn0 : 0 ≤ n) (hn1 : n ≤ 1000) (e1 : p - n.toNat = p') (e2 : q - (n.toNat - p) = q') :
    Cl w loose mean mg mb 2 45 [Value.str (pad p q) t, Value.int n u] [] [] (fun _ => True) (fun v T' => T' = [] ∧ ∃ t', v = Value.str (pad p' q') t') := by
  subst e1
  subst e2
  exact c_strip p q t u n hp hq hn0 hn1
end
theorem key_others (i : Nat) {J : Nat} (hJ : J < 3) : Txt.lower (keyOf (3 * i + J + 1)) ≠ Txt.lower (letter (i + 1) J) ∧ Txt.lower (keyOf (3 * i + J + 2)) ≠ Txt.lower (letter (i + 1) J) ∧ (keyOf (3 * i + J + 1)).length ≤ 100 ∧ (keyOf (3 * i + J + 2)).length ≤ 100 := by
  unfold keyOf
  exact ⟨lower_other _ _ (by omega) hJ (by omega), lower_other _ _ (by omega) hJ (by omega), letter_len _ (by omega), letter_len _ (by omega)⟩
theorem TabJ.next {w : World} {x dx : Addr} {rest : List (Addr × Obj)} {r1 r2 : List (List Int)} {g : Nat} {l t1 t2 t3 : Addr} {ht : Tok} {hn nl : Nat} {k1 v1 k2 v2 k3 v3 : Str} {a1 b1 a2 b2 a3 b3 : Tok} {n1 n2 n3 : Nat}
    (off : ∀ p ∈ rest, ∀ q ∈ Tab w x dx l t1 t2 t3 ht hn nl k1 v1 k2 v2 k3 v3 a1 b1 a2 b2 a3 b3 n1 n2 n3, p.1 ≠ q.1) (e1 : keyOf (g + 1) = k1) (d1 : lineOf r1 r2 (g + 1) = v1) (e2 : keyOf (g + 2) = k2) (d2 : lineOf r1 r2 (g + 2) = v2) (e3 : keyOf (g + 3) = k3) (d3 : lineOf r1 r2 (g + 3) = v3) :
    TabJ w x dx rest r1 r2 (g + 1) (Tab w x dx l t1 t2 t3 ht hn nl k1 v1 k2 v2 k3 v3 a1 b1 a2 b2 a3 b3 n1 n2 n3 ++ rest) := by
  subst e1 d1 e2 d2 e3 d3
  exact ⟨l, t1, t2, t3, ht, hn, nl, a1, b1, a2, b2, a3, b3, n1, n2, n3, rfl, off⟩
end Mine
namespace Mine
/-- a fact that the walk is not to see -/
def Hold (p : Prop) : Prop := p
end Mine
namespace Mine
theorem desk_gen {r1 r2 : List (List Int)} (R : Rows r1 r2) (i j : Nat) (hi : i ≤ 4) (hr : cell r1 (j + 1) i ≤ 4) :
    ∃ A B : Int, ∃ P Q : Nat, ∃ A' B' : Int, ∃ P' Q' : Nat, ∃ Rm : Int, Hold (ah r1 i j = A ∧ bh r1 r2 i j = B ∧ w1 r1 i j = P ∧ w2 r1 r2 i j = Q ∧ ah r1 i (j + 1) = A' ∧ bh r1 r2 i (j + 1) = B' ∧ w1 r1 (i + 1) j = P' ∧ w2 r1 r2 (i + 1) j = Q' ∧ cell r1 (j + 1) i = Rm) ∧
      Hold ((A.toNat + P) - Rm.toNat = P' ∧ (Q + B.toNat) - (Rm.toNat - (A.toNat + P)) = Q' ∧ ((A.toNat + P : Nat) : Int) - (P' : Nat) = A' ∧ (((A.toNat + P : Nat) : Int) + ((Q + B.toNat : Nat) : Int) + 1) - (((P' : Nat) : Int) + ((Q' : Nat) : Int) + 1) - A' = B') ∧
      0 ≤ A ∧ A ≤ 1000 ∧ 0 ≤ B ∧ B ≤ 1000 ∧ A.toNat ≤ 100 ∧ B.toNat ≤ 100 ∧ P ≤ 100 ∧ Q ≤ 100 ∧ A.toNat + P ≤ 200 ∧ A.toNat + P ≤ 100 ∧ Q + B.toNat ≤ 100 ∧ P' ≤ 100 ∧ Q' ≤ 100 ∧ 0 ≤ Rm ∧ Rm ≤ 1000 := by
  have D := R.desk i j hi
  have r0 := (R.room j i).2
  obtain ⟨q0, q1, q2, q3, q4, q5, q6, q7, q8, q9⟩ := D
  refine ⟨_, _, _, _, _, _, _, _, _, ⟨rfl, rfl, rfl, rfl, rfl, rfl, rfl, rfl, rfl⟩, ⟨q6, q7, q8, q9⟩, ?_⟩
  clear q8 q9
  generalize ah r1 i j = A at *
  generalize bh r1 r2 i j = B at *
  generalize w1 r1 i j = P at *
  generalize w2 r1 r2 i j = Q at *
  generalize w1 r1 (i + 1) j = P' at *
  generalize w2 r1 r2 (i + 1) j = Q' at *
  generalize cell r1 (j + 1) i = Rm at *
  omega
end Mine
namespace Mine
section
variable {prog : Program} {w : World} {A : Around} {E : Value → Shared → Prop} {s : Shared}
theorem len_pad {p q : Nat} {t : Tok} {Q : Value → Shared → Prop} (hp : p ≤ 100) (hq : q ≤ 100) (h : ∀ t' k, Q (.int ((p : Int) + (q : Int) + 1) t') { s with toks := k }) : wpAny (model prog w) A (call (.builtin "len") [.str (pad p q) t]) Q E s := by
  have e : ((pad p q).length : Int) = (p : Int) + (q : Int) + 1 := by rw [pad_len]; omega
  refine SBL.len (by rw [e]; omega) ?_
  rw [e]
  exact h _ _
end
end Mine
namespace Mine
section
variable {w : World} {loose : List Str} {mean : ExcName → Option Value} {mg mb : Str → Option Value}
/-- a contract that leaves its part T as it is: the rest may overlap with T -/
theorem Cl.useR {k dp un : Nat} {gd : Option (List Code)} {cn : Str} {cs : Scope} {a : Addr} {ccd : Value} {cl : List (Str × Addr)} {outer : List Env} {A₀ : Around} {base h₀ : Heap} {L : Addr} {m : Str → Option Value} {s : Shared} {Q E : Value → Shared → Prop}
    {f : Addr} {vs : List Value} {kw : List (Str × Value)} {pre : Shared → Prop} {T : List (Addr × Obj)} {Ret : Value → List (Addr × Obj) → Prop} {news : List (Addr × Obj)} (C : Cl w loose mean mg mb k f vs kw T pre Ret)
    (B : Below A₀ base outer h₀) (F : Fr h₀ L s.heap m) (X : (Mine.hd.heap_39 w.params).In h₀) (N : News h₀ L s.heap news) (hT : ∀ p ∈ T, p ∈ news) (hS : ∀ v T', Ret v T' → ∀ p ∈ T, p ∈ T')
    (TT : Top Mine.hd.view_39 loose mean mg mb h₀) (hk : cs.kind = .function) (hp : pre s) (hd : dp + k < recursionLimit) (hu : un + 16 * k < cLine)
    (h : ∀ v T' h' tk', Ret v T' → s.toks ≤ tk' → Fr h₀ L h' m → News h₀ L h' (T' ++ news) → (∀ p ∈ T', p.1 ∈ T.map (·.1) ∨ ∀ q ∈ news, p.1 ≠ q.1) → Q v { s with heap := h', toks := tk' }) :
    wpAny (model PySem.Challenge.rw_xg0068_01.row.prog w) (ktrTop dp un gd cn cs L a ccd cl outer) (call (.ref f) vs kw) Q E s :=
  C dp un gd cn cs a ccd cl outer A₀ base h₀ L m s Q E B F X (fun p hp => N p (hT p hp)) TT hk hp hd hu fun v T' h' tk' hr ht F' N' keep new => h v T' h' tk' hr ht F'
    (fun p hp => (List.mem_append.mp hp).elim (N' p) fun hp => by
      by_cases hq : p.1 ∈ T.map (·.1)
      · obtain ⟨q, hq, e⟩ := List.mem_map.mp hq
        have z1 := (N p hp).1
        have z2 := (N q (hT q hq)).1
        rw [e, z1] at z2
        injection z2 with z2
        have : p = q := Prod.ext e.symm z2
        rw [this]
        exact N' q (hS v T' hr q hq)
      · exact ⟨keep _ _ (N p hp).1 hq, (N p hp).2⟩)
    fun p hp => (new p hp).imp id fun hn q hq e => by have := (N q hq).1; rw [← e, hn] at this; cases this
end
end Mine
namespace Mine
theorem gone_news {h₀ h : Heap} {L : Addr} {g : Addr × Obj} {T news : List (Addr × Obj)} (N : News h₀ L h (g :: (T ++ news))) : News h₀ L h (g :: news) := fun p hp =>
  (List.mem_cons.mp hp).elim (fun e => e ▸ N _ (.head _)) fun hp => N p (.tail _ (List.mem_append.mpr (.inr hp)))
end Mine
namespace Mine
theorem gone_four {gv : List Value} {n : Nat} {rows : List (List Int)} (h : IntsAre gv ((List.range 4).map (goneAt n rows))) :
    ∃ t0 t1 t2 t3, gv = [.int (gones rows 0 n) t0, .int (gones rows 1 n) t1, .int (gones rows 2 n) t2, .int (gones rows 3 n) t3] := by
  have e : (List.range 4).map (goneAt n rows) = [gones rows 0 n, gones rows 1 n, gones rows 2 n, gones rows 3 n] := by
    show [goneAt n rows 0, goneAt n rows 1, goneAt n rows 2, goneAt n rows 3] = _
    rw [gone_is, gone_is, gone_is, gone_is]
  rw [e] at h
  cases h with
  | cons _ t0 h =>
  cases h with
  | cons _ t1 h =>
  cases h with
  | cons _ t2 h =>
  cases h with
  | cons _ t3 h =>
  cases h
  exact ⟨t0, t1, t2, t3, rfl⟩
theorem due_gen {r1 r2 : List (List Int)} (R : Rows r1 r2) (n : Nat) (hn : n ≤ 5) :
    ∃ P0 P1 P2 P3 S0 S1 S2 S3 : Int, Hold (gones r1 0 n = P0 ∧ gones r1 1 n = P1 ∧ gones r1 2 n = P2 ∧ gones r1 3 n = P3 ∧ gones r2 0 n = S0 ∧ gones r2 1 n = S1 ∧ gones r2 2 n = S2 ∧ gones r2 3 n = S3) ∧
      Hold (lineOf r1 r2 (3 * n) = pad (P0 - P1).toNat (S0 - S1 - (P0 - P1)).toNat ∧ lineOf r1 r2 (3 * n + 1) = pad (P1 - P2).toNat (S1 - S2 - (P1 - P2)).toNat ∧ lineOf r1 r2 (3 * n + 2) = pad (P2 - P3).toNat (S2 - S3 - (P2 - P3)).toNat) ∧
      (0 ≤ P0 - P1 ∧ P0 - P1 ≤ 40 ∧ 0 ≤ S0 - S1 - (P0 - P1) ∧ S0 - S1 - (P0 - P1) ≤ 40) ∧ (0 ≤ P1 - P2 ∧ P1 - P2 ≤ 40 ∧ 0 ≤ S1 - S2 - (P1 - P2) ∧ S1 - S2 - (P1 - P2) ≤ 40) ∧ (0 ≤ P2 - P3 ∧ P2 - P3 ≤ 40 ∧ 0 ≤ S2 - S3 - (P2 - P3) ∧ S2 - S3 - (P2 - P3) ≤ 40) :=
  ⟨_, _, _, _, _, _, _, _, ⟨rfl, rfl, rfl, rfl, rfl, rfl, rfl, rfl⟩, ⟨line_at (t := n) (k := 0) (by decide) rfl, line_at (t := n) (k := 1) (by decide) rfl, line_at (t := n) (k := 2) (by decide) rfl⟩, R.due n 0 hn, R.due n 1 hn, R.due n 2 hn⟩
theorem both_is (n : Nat) (f1 f2 : List Int) : ((List.range n).map fun (i : Nat) => (fun d : Int => f1.getD d.toNat 0 + f2.getD d.toNat 0) (0 + (i : Int))) = both n f1 f2 := by
  unfold both
  refine List.map_congr_left fun i _ => ?_
  rw [Int.zero_add]
  show f1.getD (i : Int).toNat 0 + f2.getD (i : Int).toNat 0 = _
  rw [Int.toNat_natCast]
end Mine
namespace Mine
section
variable {prog : Program} {w : World} {A : Around} {E : Value → Shared → Prop} {s : Shared} {Q : Value → Shared → Prop} {t u : Tok}
theorem mul_sp_op {p : Int} (h0 : 0 ≤ p) (h1 : p ≤ 1000) (h : ∀ t' k, Q (.str (sp p.toNat) t') { s with toks := k }) : wpAny (model prog w) A (binaryOp .Mult (.str (Str.ofString " ") t) (.int p u)) Q E s :=
  SB.mul (mulOk_of 16 1048576 (by decide) (by omega) (by omega) (by decide) (by decide)) fun t' k => by rw [mul_sp]; exact h t' k
theorem add_sp_x {a : Nat} (ha : a ≤ 1000) (h : ∀ t' k, Q (.str (pad a 0) t') { s with toks := k }) : wpAny (model prog w) A (binaryOp .Add (.str (sp a) t) (.str (Str.ofString "x") u)) Q E s :=
  SBL.add (fun t' k _ => by rw [← pad_zero, sp_pad]; exact h t' k) (by rw [← pad_zero, sp_len, pad_len, sizeLine_eq]; omega)
theorem add_pad_sp {a b : Nat} (ha : a ≤ 1000) (hb : b ≤ 1000) (h : ∀ t' k, Q (.str (pad a b) t') { s with toks := k }) : wpAny (model prog w) A (binaryOp .Add (.str (pad a 0) t) (.str (sp b) u)) Q E s :=
  SBL.add (fun t' k _ => by rw [pad_sp, Nat.zero_add]; exact h t' k) (by rw [sp_len, pad_len, sizeLine_eq]; omega)
end
/-- made pairs of texts -/
inductive DuesAre : List (Addr × Obj) → List Value → List (Str × Str) → Prop
  | nil : DuesAre [] [] []
  | snoc {made : List (Addr × Obj)} {vs : List Value} {ts : List (Str × Str)} {a : Addr} {k x : Str} {tk tx : Tok} {nt : Nat} (h : DuesAre made vs ts) :
    DuesAre (made ++ [(a, { cls := .type "tuple", data := .seq #[.str k tk, .str x tx] nt })]) (vs ++ [.ref a]) (ts ++ [(k, x)])
theorem DuesAre.length {made : List (Addr × Obj)} {vs : List Value} {ts : List (Str × Str)} (h : DuesAre made vs ts) : vs.length = ts.length := by
  induction h with
  | nil => rfl
  | snoc _ ih => simp [ih]
theorem DuesAre.last {made : List (Addr × Obj)} {vs : List Value} {tt ts : List (Str × Str)} {k x : Str} (h : DuesAre made vs tt) (e : tt = ts ++ [(k, x)]) :
    ∃ made' vs' a tk tx nt, made = made' ++ [(a, { cls := .type "tuple", data := .seq #[.str k tk, .str x tx] nt })] ∧ vs = vs' ++ [.ref a] ∧ DuesAre made' vs' ts := by
  cases h with
  | nil => simp at e
  | snoc h =>
    obtain ⟨e1, e2⟩ := List.append_inj' e rfl
    cases e2
    subst e1
    exact ⟨_, _, _, _, _, _, rfl, rfl, h⟩
theorem DuesAre.nil_of {made : List (Addr × Obj)} {vs : List Value} {tt : List (Str × Str)} (h : DuesAre made vs tt) (e : tt = []) : made = [] ∧ vs = [] := by
  cases h with
  | nil => exact ⟨rfl, rfl⟩
  | snoc h => simp at e
theorem DuesAre.three {made : List (Addr × Obj)} {vs : List Value} {k1 k2 k3 x1 x2 x3 : Str} (h : DuesAre made vs [(k1, x1), (k2, x2), (k3, x3)]) :
    ∃ a1 a2 a3 g1 h1 g2 h2 g3 h3 n1 n2 n3, made = [(a1, { cls := .type "tuple", data := .seq #[.str k1 g1, .str x1 h1] n1 }), (a2, { cls := .type "tuple", data := .seq #[.str k2 g2, .str x2 h2] n2 }), (a3, { cls := .type "tuple", data := .seq #[.str k3 g3, .str x3 h3] n3 })] ∧ vs = [.ref a1, .ref a2, .ref a3] := by
  obtain ⟨m3, v3, a3, g3, h3, n3, rfl, rfl, i3⟩ := h.last (ts := [(k1, x1), (k2, x2)]) rfl
  obtain ⟨m2, v2, a2, g2, h2, n2, rfl, rfl, i2⟩ := i3.last (ts := [(k1, x1)]) rfl
  obtain ⟨m1, v1, a1, g1, h1, n1, rfl, rfl, i1⟩ := i2.last (ts := []) rfl
  obtain ⟨rfl, rfl⟩ := i1.nil_of rfl
  exact ⟨a1, a2, a3, g1, h1, g2, h2, g3, h3, n1, n2, n3, rfl, rfl⟩
/-- the dues' part of the ledger behind i turns -/
def DueJ (G1 G2 x : Addr) (lt : Str) (fix : List (Addr × Obj)) (ts : List (Str × Str)) (i : Nat) (m : Str → Option Value) (nw : List (Addr × Obj)) : Prop :=
  ∃ du vs c made, m (Str.ofString "due") = some (.ref du) ∧ (∃ t, m (Str.ofString "letters") = some (.str lt t)) ∧ m (Str.ofString "gone") = some (.ref G1) ∧ m (Str.ofString "gone_all") = some (.ref G2) ∧ m (Str.ofString "table") = some (.ref x) ∧
    nw = (du, listOf (List.toArray vs) c) :: (fix ++ made) ∧ DuesAre made vs (ts.take i) ∧ ∀ p ∈ fix ++ made, p.1 ≠ du
end Mine
namespace Mine
theorem due_news {h₀ h : Heap} {L : Addr} {t I d : Addr × Obj} {fix made : List (Addr × Obj)} (N : News h₀ L h (t :: I :: d :: (fix ++ made))) : News h₀ L h (I :: d :: (fix ++ (made ++ [t]))) := by
  intro p hp
  refine N p ?_
  simp only [List.mem_cons, List.mem_append, List.not_mem_nil, or_false] at hp ⊢
  rcases hp with h | h | h | h | h <;> simp [h]
theorem due_off {du I ta : Addr} {o o' ot : Obj} {fix made : List (Addr × Obj)} (h : ∀ p ∈ (du, o) :: (fix ++ made), p.1 ≠ I) (n : @LT.lt Nat _ I ta) : ∀ p ∈ (du, o') :: (fix ++ (made ++ [(ta, ot)])), p.1 ≠ I := by
  intro p hp
  simp only [List.mem_cons, List.mem_append, List.not_mem_nil, or_false] at hp
  rcases hp with rfl | hp | hp | rfl
  · exact h (du, o) (.head _)
  · exact h p (.tail _ (List.mem_append.mpr (.inl hp)))
  · exact h p (.tail _ (List.mem_append.mpr (.inr hp)))
  · exact Ne.symm (Nat.ne_of_lt n)
theorem due_off2 {du ta : Addr} {ot : Obj} {fix made : List (Addr × Obj)} (h : ∀ p ∈ fix ++ made, p.1 ≠ du) (n : @LT.lt Nat _ du ta) : ∀ p ∈ fix ++ (made ++ [(ta, ot)]), p.1 ≠ du := by
  intro p hp
  simp only [List.mem_append, List.mem_cons, List.not_mem_nil, or_false] at hp
  rcases hp with hp | hp | rfl
  · exact h p (List.mem_append.mpr (.inl hp))
  · exact h p (List.mem_append.mpr (.inr hp))
  · exact Ne.symm (Nat.ne_of_lt n)
end Mine
namespace Mine
theorem plain_ok {x : Str} (h : Plain x) : PyData.strOk x = true := by
  unfold PyData.strOk
  rw [← Array.all_toList, List.all_eq_true]
  intro c hc
  have := h c hc
  exact decide_eq_true (by omega)
theorem dues_shaped {k1 k2 k3 x1 x2 x3 : Str} (h1 : Plain k1) (h2 : Plain k2) (h3 : Plain k3) (g1 : Plain x1) (g2 : Plain x2) (g3 : Plain x3) :
    SeqAt.shaped (PyData.list [PyData.tuple [PyData.str k1, PyData.str x1], PyData.tuple [PyData.str k2, PyData.str x2], PyData.tuple [PyData.str k3, PyData.str x3]]) = true := by
  simp [SeqAt.shaped, PyData.canLay0, PyData.canLayAll0, PyData.depth, PyData.depthAll, plain_ok h1, plain_ok h2, plain_ok h3, plain_ok g1, plain_ok g2, plain_ok g3]
theorem dues_same {k1 k2 k3 x1 x2 x3 : Str} : PyData.eqv (PyData.list [PyData.tuple [PyData.str k1, PyData.str x1], PyData.tuple [PyData.str k2, PyData.str x2], PyData.tuple [PyData.str k3, PyData.str x3]]) (PyData.list [PyData.tuple [PyData.str k1, PyData.str x1], PyData.tuple [PyData.str k2, PyData.str x2], PyData.tuple [PyData.str k3, PyData.str x3]]) = true := by
  simp [PyData.eqv, PyData.eqvAll]
end Mine
end

section
open PySem PySem.Spec PySem.Calls PySem.W PyProof.Rows
namespace Mine
section
variable {prog : Program} {w : World} {A : Around} {E : Value → Shared → Prop} {s : Shared} {h₀ : Heap} {L : Addr} {news : List (Addr × Obj)}
/-- an item of a list of the ledger, at a place that is not written -/
theorem item_at {value slice : Expr} {l : Addr} {items : Array Value} {k : Nat} {j : Int} {t : Tok} {x : Value} {Q : Value → Shared → Prop} (N : News h₀ L s.heap news) (hm : (l, listOf items k) ∈ news) (h0 : 0 ≤ j) (hj : j < 2 ^ 63) (hx : items[j.toNat]? = some x) (h : Q x s)
    (hs : subscripted slice false (.ref l) (.int j t) = operate [.ref l, .int j t] (getItem (.ref l) (.int j t))) : wpAny (model prog w) A (subscriptTail value slice (.ref l) (.int j t)) Q E s :=
  have hl : s.heap.IsList l items := PySem.IsL.isList (n := k) (N _ hm).1
  tail_any hl.typeIs slot_list_getitem.lookup (wpAny_getItem_list hl h0 hj hx h) hs
theorem news_dup {h : Heap} {p a b : Addr × Obj} {T R : List (Addr × Obj)} (N : News h₀ L h (T ++ (a :: b :: R))) (hm : p ∈ R) : News h₀ L h (p :: (T ++ (a :: b :: R))) := fun q hq =>
  (List.mem_cons.mp hq).elim (fun e => e ▸ N _ (List.mem_append.mpr (.inr (.tail _ (.tail _ hm))))) (N q)
end
theorem due_pick {h₀ h : Heap} {L : Addr} {g1 g2 m1 m2 m3 m4 m5 : Addr × Obj} {T rest : List (Addr × Obj)} (N : News h₀ L h (g2 :: m1 :: m2 :: m3 :: g1 :: m4 :: m5 :: (T ++ rest))) : News h₀ L h (g1 :: g2 :: T) := by
  intro p hp
  rcases List.mem_cons.mp hp with rfl | hp
  · exact N _ (.tail _ (.tail _ (.tail _ (.tail _ (.head _)))))
  rcases List.mem_cons.mp hp with rfl | hp
  · exact N _ (.head _)
  · exact N _ (.tail _ (.tail _ (.tail _ (.tail _ (.tail _ (.tail _ (.tail _ (List.mem_append.mpr (.inl hp)))))))))
theorem dues_at {P0 P1 P2 P3 S0 S1 S2 S3 : Int} {n i : Nat} (hi : i < 3) (hb0 : 0 ≤ P0 - P1 ∧ P0 - P1 ≤ 40 ∧ 0 ≤ S0 - S1 - (P0 - P1) ∧ S0 - S1 - (P0 - P1) ≤ 40) (hb1 : 0 ≤ P1 - P2 ∧ P1 - P2 ≤ 40 ∧ 0 ≤ S1 - S2 - (P1 - P2) ∧ S1 - S2 - (P1 - P2) ≤ 40) (hb2 : 0 ≤ P2 - P3 ∧ P2 - P3 ≤ 40 ∧ 0 ≤ S2 - S3 - (P2 - P3) ∧ S2 - S3 - (P2 - P3) ≤ 40) :
    ∃ p q : Int, [P0, P1, P2, P3].getD (i : Int).toNat 0 - [P0, P1, P2, P3].getD ((i : Int) + 1).toNat 0 = p ∧ [S0, S1, S2, S3].getD (i : Int).toNat 0 - [S0, S1, S2, S3].getD ((i : Int) + 1).toNat 0 - p = q ∧ 0 ≤ p ∧ p ≤ 40 ∧ 0 ≤ q ∧ q ≤ 40 ∧
      Hold ([(letter n 0, pad (P0 - P1).toNat (S0 - S1 - (P0 - P1)).toNat), (letter n 1, pad (P1 - P2).toNat (S1 - S2 - (P1 - P2)).toNat), (letter n 2, pad (P2 - P3).toNat (S2 - S3 - (P2 - P3)).toNat)].take i ++ [(letter n i, pad p.toNat q.toNat)] =
        [(letter n 0, pad (P0 - P1).toNat (S0 - S1 - (P0 - P1)).toNat), (letter n 1, pad (P1 - P2).toNat (S1 - S2 - (P1 - P2)).toNat), (letter n 2, pad (P2 - P3).toNat (S2 - S3 - (P2 - P3)).toNat)].take (i + 1)) := by
  have h3 : i = 0 ∨ i = 1 ∨ i = 2 := by omega
  rcases h3 with rfl | rfl | rfl
  · exact ⟨P0 - P1, S0 - S1 - (P0 - P1), rfl, rfl, hb0.1, hb0.2.1, hb0.2.2.1, hb0.2.2.2, rfl⟩
  · exact ⟨P1 - P2, S1 - S2 - (P1 - P2), rfl, rfl, hb1.1, hb1.2.1, hb1.2.2.1, hb1.2.2.2, rfl⟩
  · exact ⟨P2 - P3, S2 - S3 - (P2 - P3), rfl, rfl, hb2.1, hb2.2.1, hb2.2.2.1, hb2.2.2.2, rfl⟩
end Mine
namespace Mine
theorem ints_item {vs : List Value} {ds : List Int} (h : IntsAre vs ds) : ∀ {i : Nat}, i < ds.length → ∃ t, vs.toArray[(i : Int).toNat]? = some (.int (ds.getD i 0) t) := by
  induction h with
  | nil => intro i hi; exact absurd hi (Nat.not_lt_zero _)
  | cons d t _ ih =>
    intro i hi
    cases i with
    | zero => exact ⟨t, by simp⟩
    | succ i =>
      obtain ⟨t', e⟩ := ih (i := i) (by simpa using hi)
      refine ⟨t', ?_⟩
      simpa using e
end Mine
end

section
open PySem PySem.Spec PySem.Calls PySem.W PyProof.Rows
namespace Mine
/-- the end of the turn's first half: the stairs stand at depth i -/
def IfEnd (g' : Heap) (L' : Addr) (s : Shared) (n : Nat) (rs : List (List Int)) (i : Nat) (I g : Addr) (oI : Obj) (gv : List Value) (kg : Nat) (fix : List (Addr × Obj)) (fl : Flow) (s' : Shared) : Prop :=
  fl = .next ∧ ∃ (h : Heap) (tk : Nat) (m : Str → Option Value) (D : Addr) (ys : List Value) (ks : Nat) (made : List (Addr × Obj)) (oab : Obj) (vab : Option Value), s' = { s with heap := h, toks := tk } ∧ Fr g' L' h m ∧
    News g' L' h ((I, oI) :: (g, listOf gv.toArray kg) :: (D, listOf ys.toArray ks) :: (L' + 4, oab) :: (fix ++ made)) ∧ PairsAre made ys (stairsAt n rs i) ∧ m (Str.ofString "gone") = some (Value.ref g) ∧ m (Str.ofString "stairs") = some (Value.ref D) ∧ oab.data = .cell vab ∧
    @LT.lt Nat _ (L' + 4) D ∧ @Ne Nat D g ∧ (∀ r ∈ made, @LT.lt Nat _ (L' + 4) r.1 ∧ @Ne Nat r.1 g) ∧ ∀ p ∈ (g, listOf gv.toArray kg) :: (D, listOf ys.toArray ks) :: (L' + 4, oab) :: (fix ++ made), p.1 ≠ I
theorem news_in {h₀ h : Heap} {L : Addr} {p : Addr × Obj} {l : List (Addr × Obj)} (N : News h₀ L h l) (hm : p ∈ l) : News h₀ L h (p :: l) := fun q hq => (List.mem_cons.mp hq).elim (fun e => e ▸ N _ hm) (N q)
theorem row_at {r0 r1 r2 r3 : Addr} {k0 k1 k2 k3 : Nat} {v0 v1 v2 v3 : List Value} {d0 d1 d2 d3 : List Int} (i0 : IntsAre v0 d0) (i1 : IntsAre v1 d1) (i2 : IntsAre v2 d2) (i3 : IntsAre v3 d3) (l1 : d1.length = d0.length) (l2 : d2.length = d0.length) (l3 : d3.length = d0.length) {j : Nat} (hj : j < 4) :
    ∃ (rp : Addr) (vp : List Value) (kp : Nat) (dp : List Int), (#[Value.ref r0, Value.ref r1, Value.ref r2, Value.ref r3])[j]? = some (Value.ref rp) ∧ (rp, listOf vp.toArray kp) ∈ [(r0, listOf v0.toArray k0), (r1, listOf v1.toArray k1), (r2, listOf v2.toArray k2), (r3, listOf v3.toArray k3)] ∧ IntsAre vp dp ∧ dp.length = d0.length ∧ [d0, d1, d2, d3].getD j [] = dp := by
  have h4 : j = 0 ∨ j = 1 ∨ j = 2 ∨ j = 3 := by omega
  rcases h4 with rfl | rfl | rfl | rfl
  · exact ⟨r0, v0, k0, d0, rfl, .head _, i0, rfl, rfl⟩
  · exact ⟨r1, v1, k1, d1, rfl, .tail _ (.head _), i1, l1, rfl⟩
  · exact ⟨r2, v2, k2, d2, rfl, .tail _ (.tail _ (.head _)), i2, l2, rfl⟩
  · exact ⟨r3, v3, k3, d3, rfl, .tail _ (.tail _ (.tail _ (.head _))), i3, l3, rfl⟩
theorem stairs_next {n i : Nat} {rs : List (List Int)} {dp : List Int} (hi : 0 < i) (h : rs.getD (i - 1) [] = dp) : stairsAt n rs i = flatPairs (fun p => ((n : Int) + 1 - p).toNat) (fun p q l => q + sl dp p l) (stairsAt n rs (i - 1)) := by
  obtain ⟨k, rfl⟩ : ∃ k, i = k + 1 := ⟨i - 1, by omega⟩
  rw [← h]; rfl
theorem gone_least {n i : Nat} {rs : List (List Int)} {dp : List Int} {M : Int} (h : rs.getD i [] = dp) (h1 : ∀ y ∈ (stairsAt n rs i).map (fun p => p.2 + sl dp p.1 n), M ≤ y) (h2 : M ∈ (stairsAt n rs i).map fun p => p.2 + sl dp p.1 n) : goneAt n rs i = M := by
  subst h; exact least_is h1 h2
theorem stairs_small {n i : Nat} {rs : List (List Int)} (hn : n ≤ 5) (hi : i < 4) : (stairsAt n rs i).length ≤ 216 :=
  Nat.le_trans (stairs_len n rs hn i) (Nat.pow_le_pow_right (n := 6) (by decide) (Nat.le_of_lt_succ hi))
theorem up8 {α : Type} {a b c d e f g h : α} {l4 t : List α} {p : α} (hm : p ∈ l4) : p ∈ a :: b :: c :: d :: e :: f :: g :: h :: (l4 ++ t) :=
  .tail _ (.tail _ (.tail _ (.tail _ (.tail _ (.tail _ (.tail _ (.tail _ (List.mem_append.mpr (.inl hm)))))))))
/-- the new list is laid ahead of the ledger; it takes the old one's place -/
theorem if_swap {h₀ h : Heap} {L : Addr} {D a b c : Addr × Obj} {fix made : List (Addr × Obj)} {x : Addr × Obj} (old : List (Addr × Obj)) (N : News h₀ L h (D :: ((a :: b :: x :: c :: (fix ++ old)) ++ made))) : News h₀ L h (a :: b :: D :: c :: (fix ++ made)) := by
  intro r hr
  refine N r ?_
  simp only [List.mem_cons, List.mem_append, List.cons_append] at hr ⊢
  rcases hr with e | e | e | e | e | e <;> simp [e]
theorem gone_apart {L g D R r0 r1 r2 r3 : Addr} {o0 o1 o2 o3 o4 o5 o6 o7 o8 o9 : Obj} {made : List (Addr × Obj)} (nsg : @Ne Nat D g) (ltg : @LT.lt Nat _ (L + 4) g) (l' : @LT.lt Nat _ R L ∧ @LT.lt Nat _ r0 L ∧ @LT.lt Nat _ r1 L ∧ @LT.lt Nat _ r2 L ∧ @LT.lt Nat _ r3 L) (hm : ∀ r ∈ made, @LT.lt Nat _ (L + 4) r.1 ∧ @Ne Nat r.1 g) :
    ∀ p ∈ (D, o0) :: (L + 4, o1) :: (L + 3, o2) :: (L + 2, o3) :: (L + 1, o4) :: (R, o5) :: (r0, o6) :: (r1, o7) :: (r2, o8) :: (r3, o9) :: made, p.1 ≠ g := by
  have up : ∀ x : Nat, @LT.lt Nat _ x L → @Ne Nat x g := fun x h => Nat.ne_of_lt (Nat.lt_trans h (Nat.lt_of_le_of_lt (Nat.le_add_right L 4) ltg))
  have near : ∀ k : Nat, k ≤ 4 → @Ne Nat (L + k) g := fun k h => Nat.ne_of_lt (Nat.lt_of_le_of_lt (Nat.add_le_add_left h L) ltg)
  intro p hp
  simp only [List.mem_cons] at hp
  rcases hp with rfl | rfl | rfl | rfl | rfl | rfl | rfl | rfl | rfl | rfl | hp
  · exact nsg
  · exact near 4 (by decide)
  · exact near 3 (by decide)
  · exact near 2 (by decide)
  · exact near 1 (by decide)
  · exact up _ l'.1
  · exact up _ l'.2.1
  · exact up _ l'.2.2.1
  · exact up _ l'.2.2.2.1
  · exact up _ l'.2.2.2.2
  · exact (hm p hp).2
section
variable {w : World} {loose : List Str} {mean : ExcName → Option Value} {mg mb : Str → Option Value}
set_option maxRecDepth 100000 in
set_option maxHeartbeats 4000000 in
theorem c_law_gone (R r0 r1 r2 r3 : Addr) (kr k0 k1 k2 k3 : Nat) (v0 v1 v2 v3 : List Value) (d0 d1 d2 d3 : List Int) (n : Nat) (hn : 1 ≤ n ∧ n ≤ 5)
    (i0 : IntsAre v0 d0) (i1 : IntsAre v1 d1) (i2 : IntsAre v2 d2) (i3 : IntsAre v3 d3) (l0 : d0.length = n) (l1 : d1.length = n) (l2 : d2.length = n) (l3 : d3.length = n) :
    Cl w loose mean mg mb 4 234 [Value.ref R] [] [(R, listOf #[Value.ref r0, Value.ref r1, Value.ref r2, Value.ref r3] kr), (r0, listOf v0.toArray k0), (r1, listOf v1.toArray k1), (r2, listOf v2.toArray k2), (r3, listOf v3.toArray k3)] (fun _ => True)
      (fun v T' => ∃ G gv kg, v = Value.ref G ∧ T' = [(G, listOf (List.toArray gv) kg), (R, listOf #[Value.ref r0, Value.ref r1, Value.ref r2, Value.ref r3] kr), (r0, listOf v0.toArray k0), (r1, listOf v1.toArray k1), (r2, listOf v2.toArray k2), (r3, listOf v3.toArray k3)] ∧ IntsAre gv ((List.range 4).map (goneAt n [d0, d1, d2, d3]))) := by
  subst l0
  refine Cl.of ?_
  w_top off
  k_fill
  intro dp un gd cn cs a ccd cl outer A₀ base h₀ L m s Q E B F X N T hk hpre hdp hun hret
  refine wpAny_call ?_
  (k_dflt (refine' Mine.enter_defC [(Str.ofString "rows", Value.ref R)] ?k1 ?k2 ?k3 ?k4 ?k5 ?kA ?kF ?kK ?k6 ?k7 ?k8 ?k9 ?kB ?kD ?_ ?c2 ?c3 ?c4; (case kA => exact rfl); (case kF => exact rfl); (case kK => assumption); (case k1 => k_asm); (case k2 => k_asm); (case k3 => k_asm); (case k4 => k_asm); (case k5 => k_asm); (case k6 => k_is); (case k7 => k_is); (case k8 => ktr_room); (case k9 => first | exact BindsTo.of_eq rfl | exact binds_K (by k_in) rfl (by k_is) rfl rfl rfl); (case kB => exact rfl); (case kD => decide +kernel); (case c2 => exact rfl); (case c3 => exact rfl); (case c4 => exact rfl); k_whole; intro g' L' h' tk' cells' hrest' FG' F' N' Y' B' X' T' l'; (try k_lt l'); k_cells Y'; (try dsimp only [List.cons_append, List.nil_append] at N'); (try dsimp only); (try k_fold)))
  (repeat' (first | (k_unfold; (try dsimp only)) | ((fail_if_success (with_reducible show wpAny _ _ (exec (Stmt.For _ _ _ _ _) _) _ _ _)); (first | ((with_reducible show wpAny _ _ (eval (Expr.Name _ _) _) _ _ _); (k_here; k_dflt (first | (refine' name_local ?zF ?z1 ?z2 ?z3 ?z4 ?_; (case zF => assumption); (case z1 => rfl); (case z2 => rfl); (case z3 => (first | rfl | assumption)); (case z4 => rfl)) | (refine' name_cell ?zN rfl rfl rfl ?zm ?zd rfl ?_; (case zN => assumption); (case zm => k_mem); (case zd => assumption)) | (refine' name_free ?zN rfl rfl rfl ?zm ?zd rfl rfl ?_; (case zN => assumption); (case zm => k_mem); (case zd => assumption)) | (refine' name_built ?zF ?zX ?zT ?ze ?zv ?zn ?_ ?zg ?zb ?zk ?zx ?zd; (case zF => k_asm); (case zX => k_asm); (case zT => k_asm); (case ze => k_is); (case zv => boot_by_name); (case zn => decide); (case zg => rfl); (case zb => rfl); (case zk => rfl); (case zx => rfl); (case zd => rfl))))) | walk1))))
  (rename Fr _ _ _ _ => lF)
  (with_unfolding_all refine' For_turns lF ?_; k_whole)
  (repeat' (first | (k_unfold; (try dsimp only)) | ((fail_if_success (with_reducible show wpAny _ _ ((pyIter (Value.ref _))) _ _ _)); (first | ((with_reducible show wpAny _ _ (eval (Expr.Name _ _) _) _ _ _); (k_here; k_dflt (first | (refine' name_local ?zF ?z1 ?z2 ?z3 ?z4 ?_; (case zF => assumption); (case z1 => rfl); (case z2 => rfl); (case z3 => (first | rfl | assumption)); (case z4 => rfl)) | (refine' name_cell ?zN rfl rfl rfl ?zm ?zd rfl ?_; (case zN => assumption); (case zm => k_mem); (case zd => assumption)) | (refine' name_free ?zN rfl rfl rfl ?zm ?zd rfl rfl ?_; (case zN => assumption); (case zm => k_mem); (case zd => assumption)) | (refine' name_built ?zF ?zX ?zT ?ze ?zv ?zn ?_ ?zg ?zb ?zk ?zx ?zd; (case zF => k_asm); (case zX => k_asm); (case zT => k_asm); (case ze => k_is); (case zv => boot_by_name); (case zn => decide); (case zg => rfl); (case zb => rfl); (case zk => rfl); (case zx => rfl); (case zd => rfl))))) | walk1))))
  (rename Fr _ _ _ _ => lF)
  (rename News _ _ _ _ => lN)
  (rename IsRange _ _ _ _ _ _ _ _ => rgX)
  (with_unfolding_all refine' loop_range (n := 4) (fun i m nw => ∃ g st gv kg ys ks made oab odep olast orows tl vab vdep, m (Str.ofString "gone") = some (Value.ref g) ∧ m (Str.ofString "stairs") = some (Value.ref st) ∧ nw = (g, listOf (List.toArray gv) kg) :: (st, listOf (List.toArray ys) ks) :: (L' + 4, oab) :: (L' + 3, odep) :: (L' + 2, olast) :: (L' + 1, orows) :: (R, listOf #[Value.ref r0, Value.ref r1, Value.ref r2, Value.ref r3] kr) :: (r0, listOf v0.toArray k0) :: (r1, listOf v1.toArray k1) :: (r2, listOf v2.toArray k2) :: (r3, listOf v3.toArray k3) :: made ∧ PairsAre made ys (stairsAt d0.length [d0, d1, d2, d3] (i - 1)) ∧ IntsAre gv ((List.range i).map (goneAt d0.length [d0, d1, d2, d3])) ∧ olast.data = .cell (some (.int (d0.length : Int) tl)) ∧ orows.data = .cell (some (.ref R)) ∧ oab.data = .cell vab ∧ odep.data = .cell vdep ∧ @LT.lt Nat _ (L' + 4) g ∧ @LT.lt Nat _ (L' + 4) st ∧ @Ne Nat st g ∧ ∀ r ∈ made, @LT.lt Nat _ (L' + 4) r.1 ∧ @Ne Nat r.1 g) ?lh rgX ?ls ?lr lF (sub_news lN) ?lJ ?lg ?lturn ?ldone)
  case lh => rfl
  case ls => decide
  case lr => decide
  case lg => intro it v; rfl
  case lJ => exact ⟨_, _, [], 0, [Value.ref _], 0, _, _, _, _, _, _, _, _, rfl, rfl, rfl, (show PairsAre ([] ++ [(_, tupObj 0 0 _ _ _)]) ([] ++ [Value.ref _]) ([] ++ [(0, 0)]) from PairsAre.snoc PairsAre.nil), IntsAre.nil, by assumption, by assumption, by assumption, by assumption, (by refine ltN ?_; omega), (by refine ltN ?_; omega), (by refine neN ?_; omega), (by intro r hr; rw [List.mem_singleton.mp hr]; constructor; (refine ltN ?_; dsimp only; omega); (refine neN ?_; dsimp only; omega))⟩
  case ldone =>
    clear lN lF rgX
    rintro m₁ nw h tk ⟨g, st, gv, kg, ys, ks, made, oab, odep, olast, orows, tl, vab, vdep, hg, hst, rfl, hP, hG, -⟩ F1 N1
    (repeat' (first | (k_unfold; (try dsimp only)) | (k_end; wrow_close) | (first | ((with_reducible show wpAny _ _ (eval (Expr.Name _ _) _) _ _ _); (k_here; k_dflt (first | (refine' name_local ?zF ?z1 ?z2 ?z3 ?z4 ?_; (case zF => assumption); (case z1 => rfl); (case z2 => rfl); (case z3 => (first | rfl | assumption)); (case z4 => rfl)) | (refine' name_cell ?zN rfl rfl rfl ?zm ?zd rfl ?_; (case zN => assumption); (case zm => k_mem); (case zd => assumption)) | (refine' name_free ?zN rfl rfl rfl ?zm ?zd rfl rfl ?_; (case zN => assumption); (case zm => k_mem); (case zd => assumption)) | (refine' name_built ?zF ?zX ?zT ?ze ?zv ?zn ?_ ?zg ?zb ?zk ?zx ?zd; (case zF => k_asm); (case zX => k_asm); (case zT => k_asm); (case ze => k_is); (case zv => boot_by_name); (case zn => decide); (case zg => rfl); (case zb => rfl); (case zk => rfl); (case zx => rfl); (case zd => rfl))))) | walk1) | (dsimp only; (first | ((with_reducible show wpAny _ _ (eval (Expr.Name _ _) _) _ _ _); (k_here; k_dflt (first | (refine' name_local ?zF ?z1 ?z2 ?z3 ?z4 ?_; (case zF => assumption); (case z1 => rfl); (case z2 => rfl); (case z3 => (first | rfl | assumption)); (case z4 => rfl)) | (refine' name_cell ?zN rfl rfl rfl ?zm ?zd rfl ?_; (case zN => assumption); (case zm => k_mem); (case zd => assumption)) | (refine' name_free ?zN rfl rfl rfl ?zm ?zd rfl rfl ?_; (case zN => assumption); (case zm => k_mem); (case zd => assumption)) | (refine' name_built ?zF ?zX ?zT ?ze ?zv ?zn ?_ ?zg ?zb ?zk ?zx ?zd; (case zF => k_asm); (case zX => k_asm); (case zT => k_asm); (case ze => k_is); (case zv => boot_by_name); (case zn => decide); (case zg => rfl); (case zb => rfl); (case zk => rfl); (case zx => rfl); (case zd => rfl))))) | walk1)) | (leave1; walk_say "STEP leave1"; try dsimp only) | fail "no step"))
    exact hret _ _ _ _ (⟨g, gv, kg, rfl, rfl, hG⟩) (by k_asm) (by first | k_asm | (refine' cb_drop ?cbN ?cbS; (case cbN => assumption); (case cbS => kcj_all))) (fun b o e hb => Fr.keep (h₀ := g') (L := L') (by assumption) b o (hrest' b o e hb)) (new_of (g := g') (L' := L') hrest' (by first | assumption | (refine' cb_drop ?cbN ?cbS; (case cbN => assumption); (case cbS => kcj_all))))
  case lturn =>
    clear lN lF rgX
    rintro i t m₁ nw I oI h tk hi ltI lLI ⟨g, st, gv, kg, ys, ks, made, oab, odep, olast, orows, tl, vab, vdep, hg, hst, rfl, hP, hG, hlast, hrows, hab, hdep, ltg, ltst, nsg, ltm⟩ off F1 N1
    have zd := N1 (L' + 3, odep) (.tail _ (.tail _ (.tail _ (.tail _ (.head _)))))
    refine wpAny_assign_Name (wpAny_storeName_cell (c := L' + 3) (v₀ := vdep) rfl rfl rfl ⟨odep, zd.1, hdep⟩ (fun h₂ hc₂ hs₂ => ?_))
    obtain ⟨odep', ed', dd'⟩ := hc₂
    have F2 : Fr g' L' h₂ m₁ := F1.change hs₂ zd.2.1 zd.2.2
    have N2 := news_set (pre := [(I, oI), (g, listOf (List.toArray gv) kg), (st, listOf (List.toArray ys) ks), (L' + 4, oab)]) (o := odep) (o' := odep') (D := L' + 3) N1 (by
      intro p hp
      simp only [List.mem_cons, List.not_mem_nil, or_false] at hp
      rcases hp with rfl | rfl | rfl | rfl
      · exact Ne.symm (off (L' + 3, odep) (by simp))
      · refine neN ?_; dsimp only; omega
      · refine neN ?_; dsimp only; omega
      · refine neN ?_; dsimp only; omega) (by
      intro p hp
      simp only [List.mem_cons] at hp
      rcases hp with rfl | rfl | rfl | rfl | rfl | rfl | rfl | hp
      · refine neN ?_; dsimp only; omega
      · refine neN ?_; dsimp only; omega
      · refine neN ?_; dsimp only; omega
      · refine neN ?_; dsimp only; omega
      · refine neN ?_; dsimp only; omega
      · refine neN ?_; dsimp only; omega
      · refine neN ?_; dsimp only; omega
      · have := (ltm p hp).1; refine neN ?_; omega) hs₂ ed'
    clear F1 N1 zd hs₂ ed'
    dsimp only [List.cons_append, List.nil_append] at N2
    rw [Int.zero_add] at dd'
    have hap : ∀ p ∈ (L' + 3, odep') :: (L' + 2, olast) :: (L' + 1, orows) :: (R, listOf #[Value.ref r0, Value.ref r1, Value.ref r2, Value.ref r3] kr) :: (r0, listOf v0.toArray k0) :: (r1, listOf v1.toArray k1) :: (r2, listOf v2.toArray k2) :: (r3, listOf v3.toArray k3) :: made, p.1 ≠ L' + 4 := by
      intro p hp
      simp only [List.mem_cons] at hp
      rcases hp with rfl | rfl | rfl | rfl | rfl | rfl | rfl | rfl | hp
      · refine neN ?_; dsimp only; omega
      · refine neN ?_; dsimp only; omega
      · refine neN ?_; dsimp only; omega
      · refine neN ?_; dsimp only; omega
      · refine neN ?_; dsimp only; omega
      · refine neN ?_; dsimp only; omega
      · refine neN ?_; dsimp only; omega
      · refine neN ?_; dsimp only; omega
      · have := (ltm p hp).1; refine neN ?_; omega
    replace off := off_of (l' := (g, listOf (List.toArray gv) kg) :: (st, listOf (List.toArray ys) ks) :: (L' + 4, oab) :: (L' + 3, odep') :: (L' + 2, olast) :: (L' + 1, orows) :: (R, listOf #[Value.ref r0, Value.ref r1, Value.ref r2, Value.ref r3] kr) :: (r0, listOf v0.toArray k0) :: (r1, listOf v1.toArray k1) :: (r2, listOf v2.toArray k2) :: (r3, listOf v3.toArray k3) :: made) off rfl
    (repeat' (first | (k_unfold; (try dsimp only)) | ((fail_if_success (with_reducible show wpAny _ _ (exec (Stmt.If _ _ _ _) _) _ _ _)); (first | ((with_reducible show wpAny _ _ (eval (Expr.Name _ _) _) _ _ _); (k_here; k_dflt (first | (refine' name_local ?zF ?z1 ?z2 ?z3 ?z4 ?_; (case zF => assumption); (case z1 => rfl); (case z2 => rfl); (case z3 => (first | rfl | assumption)); (case z4 => rfl)) | (refine' name_cell ?zN rfl rfl rfl ?zm ?zd rfl ?_; (case zN => assumption); (case zm => k_mem); (case zd => assumption)) | (refine' name_free ?zN rfl rfl rfl ?zm ?zd rfl rfl ?_; (case zN => assumption); (case zm => k_mem); (case zd => assumption)) | (refine' name_built ?zF ?zX ?zT ?ze ?zv ?zn ?_ ?zg ?zb ?zk ?zx ?zd; (case zF => k_asm); (case zX => k_asm); (case zT => k_asm); (case ze => k_is); (case zv => boot_by_name); (case zn => decide); (case zg => rfl); (case zb => rfl); (case zk => rfl); (case zx => rfl); (case zd => rfl))))) | walk1))))
    refine wpAny_mono (Q := IfEnd g' L' s d0.length [d0, d1, d2, d3] i I g oI gv kg ((L' + 3, odep') :: (L' + 2, olast) :: (L' + 1, orows) :: (R, listOf #[Value.ref r0, Value.ref r1, Value.ref r2, Value.ref r3] kr) :: (r0, listOf v0.toArray k0) :: (r1, listOf v1.toArray k1) :: (r2, listOf v2.toArray k2) :: (r3, listOf v3.toArray k3) :: [])) ?w (fun v s' hv => ?r) (fun _ _ e => e)
    case w =>
      (repeat' (first | (k_unfold; (try dsimp only)) | ((fail_if_success (with_reducible show wpAny _ _ ((subscriptTail _ _ (Value.ref _) (Value.int _ _))) _ _ _)); (first | ((with_reducible show wpAny _ _ (eval (Expr.Name _ _) _) _ _ _); (k_here; k_dflt (first | (refine' name_local ?zF ?z1 ?z2 ?z3 ?z4 ?_; (case zF => assumption); (case z1 => rfl); (case z2 => rfl); (case z3 => (first | rfl | assumption)); (case z4 => rfl)) | (refine' name_cell ?zN rfl rfl rfl ?zm ?zd rfl ?_; (case zN => assumption); (case zm => k_mem); (case zd => assumption)) | (refine' name_free ?zN rfl rfl rfl ?zm ?zd rfl rfl ?_; (case zN => assumption); (case zm => k_mem); (case zd => assumption)) | (refine' name_built ?zF ?zX ?zT ?ze ?zv ?zn ?_ ?zg ?zb ?zk ?zx ?zd; (case zF => k_asm); (case zX => k_asm); (case zT => k_asm); (case ze => k_is); (case zv => boot_by_name); (case zn => decide); (case zg => rfl); (case zb => rfl); (case zk => rfl); (case zx => rfl); (case zd => rfl))))) | walk1))))
      rotate_left
      · have hi0 : i = 0 := by omega
        subst hi0
        exact ⟨rfl, _, _, _, st, ys, ks, made, oab, vab, rfl, F2, N2, hP, hg, hst, hab, ltst, nsg, ltm, off⟩
      · have hi0 : 0 < i := by omega
        obtain ⟨rp, vp, kp, dp, hget, hmem, hIp, hlp, hdp⟩ := row_at (r0 := r0) (r1 := r1) (r2 := r2) (r3 := r3) (k0 := k0) (k1 := k1) (k2 := k2) (k3 := k3) i0 i1 i2 i3 l1 l2 l3 (show i - 1 < 4 by omega)
        have eS := stairs_next (n := d0.length) hi0 hdp
        clear hdp
        (rename News _ _ _ _ => lN)
        (with_unfolding_all refine' item_at (l := R) (items := #[Value.ref r0, Value.ref r1, Value.ref r2, Value.ref r3]) (k := kr) (x := Value.ref rp) lN ?ia ?ib ?ic ?ix ?_ ?is)
        case ia => k_mem
        case ib => omega
        case ic => omega
        case ix => (rw [show ((i : Int) - 1).toNat = i - 1 by omega]; exact hget)
        case is => rfl
        (try dsimp only)
        clear hget
        (repeat' (first | (k_unfold; (try dsimp only)) | ((fail_if_success (with_reducible show wpAny _ _ (storeName _ _ _) _ _ _)); (first | ((with_reducible show wpAny _ _ (eval (Expr.Name _ _) _) _ _ _); (k_here; k_dflt (first | (refine' name_local ?zF ?z1 ?z2 ?z3 ?z4 ?_; (case zF => assumption); (case z1 => rfl); (case z2 => rfl); (case z3 => (first | rfl | assumption)); (case z4 => rfl)) | (refine' name_cell ?zN rfl rfl rfl ?zm ?zd rfl ?_; (case zN => assumption); (case zm => k_mem); (case zd => assumption)) | (refine' name_free ?zN rfl rfl rfl ?zm ?zd rfl rfl ?_; (case zN => assumption); (case zm => k_mem); (case zd => assumption)) | (refine' name_built ?zF ?zX ?zT ?ze ?zv ?zn ?_ ?zg ?zb ?zk ?zx ?zd; (case zF => k_asm); (case zX => k_asm); (case zT => k_asm); (case ze => k_is); (case zv => boot_by_name); (case zn => decide); (case zg => rfl); (case zb => rfl); (case zk => rfl); (case zx => rfl); (case zd => rfl))))) | walk1))))
        (rename Fr _ _ _ _ => lF)
        (rename News _ _ _ _ => lN)
        (with_unfolding_all refine' store_cell [(I, oI), (g, listOf (List.toArray gv) kg), (st, listOf (List.toArray ys) ks)] _ lF lN ?sk ?sl ?sc hab ?s1 ?s2 ?_)
        case sk => rfl
        case sl => rfl
        case sc => rfl
        case s1 =>
          intro p hp
          simp only [List.mem_cons, List.not_mem_nil, or_false] at hp
          rcases hp with rfl | rfl | rfl
          · exact Ne.symm (off (L' + 4, oab) (by simp))
          · exact Ne.symm (Nat.ne_of_lt ltg)
          · exact Ne.symm (Nat.ne_of_lt ltst)
        case s2 => exact hap
        intro h5 oab' hab' F5 N5
        clear lF lN
        dsimp only [List.cons_append, List.nil_append] at N5
        replace off := off_of (l' := (g, listOf (List.toArray gv) kg) :: (st, listOf (List.toArray ys) ks) :: (L' + 4, oab') :: (L' + 3, odep') :: (L' + 2, olast) :: (L' + 1, orows) :: (R, listOf #[Value.ref r0, Value.ref r1, Value.ref r2, Value.ref r3] kr) :: (r0, listOf v0.toArray k0) :: (r1, listOf v1.toArray k1) :: (r2, listOf v2.toArray k2) :: (r3, listOf v3.toArray k3) :: made) off rfl
        clear hab hdep
        (repeat' (first | (k_unfold; (try dsimp only)) | ((fail_if_success (with_reducible show wpAny _ _ (exec (Stmt.Assign _ (Expr.ListComp _ _ _ _) _) _) _ _ _)); (first | ((with_reducible show wpAny _ _ (eval (Expr.Name _ _) _) _ _ _); (k_here; k_dflt (first | (refine' name_local ?zF ?z1 ?z2 ?z3 ?z4 ?_; (case zF => assumption); (case z1 => rfl); (case z2 => rfl); (case z3 => (first | rfl | assumption)); (case z4 => rfl)) | (refine' name_cell ?zN rfl rfl rfl ?zm ?zd rfl ?_; (case zN => assumption); (case zm => k_mem); (case zd => assumption)) | (refine' name_free ?zN rfl rfl rfl ?zm ?zd rfl rfl ?_; (case zN => assumption); (case zm => k_mem); (case zd => assumption)) | (refine' name_built ?zF ?zX ?zT ?ze ?zv ?zn ?_ ?zg ?zb ?zk ?zx ?zd; (case zF => k_asm); (case zX => k_asm); (case zT => k_asm); (case ze => k_is); (case zv => boot_by_name); (case zn => decide); (case zg => rfl); (case zb => rfl); (case zk => rfl); (case zx => rfl); (case zd => rfl))))) | walk1))))
        (rename Fr _ _ _ _ => lF)
        (rename News _ _ _ _ => lN)
        (with_unfolding_all refine' comp_flat (fun p => ((d0.length : Int) + 1 - p).toNat) (fun p q l => q + sl dp p l) (stairsAt d0.length [d0, d1, d2, d3] (i - 1)) lF ?fle ?fsw ?fy ?fpp ?fc ?fp ?fk ?fn ?fa ?fb ?fx ?fab ?fax ?fbx ?fh ?fl ?fe ?fs ?fs1)
        case fle => rfl
        case fsw => rfl
        case fy => rfl
        case fpp => rfl
        case fc => with_unfolding_all exact rfl
        case fp => intro h; rfl
        case fk => rfl
        case fn => decide
        case fa => rfl
        case fb => rfl
        case fx => rfl
        case fab => decide
        case fax => decide
        case fbx => decide
        case fh => rfl
        case fl => (rw [← eS]; exact Nat.le_trans (stairs_small hn.2 hi) (by decide))
        case fs => intro x; rfl
        case fs1 => intro C x; rfl
        case fe =>
          refine' name_local lF rfl rfl hst rfl ?_
          refine' ⟨_, _, _, _, rfl, lF, lN, ?fm, ?fz, ?fsz, ?fi, ?ft1, ?ft2, ?ff⟩
          case fm => k_mem
          case fz => (rw [sizeLine_eq, List.size_toArray, hP.length]; exact Nat.le_trans (stairs_small hn.2 (show i - 1 < 4 by omega)) (by decide))
          case fsz => (rw [List.size_toArray, hP.length])
          case fi =>
            intro i v hv
            rw [List.getElem?_toArray] at hv
            obtain ⟨t, p, q, tp, tq, nt, rfl, hm, hp⟩ := hP.at i v hv
            exact ⟨t, p, q, tp, tq, nt, rfl, by simp [hm], hp⟩
          case ft1 =>
            intro C p q tp tq h tk tail mc E' hpq lC ltC hma hmb F3 N3
            have hb := stairs_mem d0.length [d0, d1, d2, d3] (i - 1) p q hpq
            clear lF lN
            dsimp only [List.cons_append] at N3
            (repeat' (first | (k_unfold; (try dsimp only)) | (k_end; wrow_close) | (first | ((with_reducible show wpAny _ _ (eval (Expr.Name _ _) _) _ _ _); (k_here; k_dflt (first | (refine' name_local ?zF ?z1 ?z2 ?z3 ?z4 ?_; (case zF => assumption); (case z1 => rfl); (case z2 => rfl); (case z3 => (first | rfl | assumption)); (case z4 => rfl)) | (refine' name_cell ?zN rfl rfl rfl ?zm ?zd rfl ?_; (case zN => assumption); (case zm => k_mem); (case zd => assumption)) | (refine' name_free ?zN rfl rfl rfl ?zm ?zd rfl rfl ?_; (case zN => assumption); (case zm => k_mem); (case zd => assumption)) | (refine' name_built ?zF ?zX ?zT ?ze ?zv ?zn ?_ ?zg ?zb ?zk ?zx ?zd; (case zF => k_asm); (case zX => k_asm); (case zT => k_asm); (case ze => k_is); (case zv => boot_by_name); (case zn => decide); (case zg => rfl); (case zb => rfl); (case zk => rfl); (case zx => rfl); (case zd => rfl))))) | walk1) | (dsimp only; (first | ((with_reducible show wpAny _ _ (eval (Expr.Name _ _) _) _ _ _); (k_here; k_dflt (first | (refine' name_local ?zF ?z1 ?z2 ?z3 ?z4 ?_; (case zF => assumption); (case z1 => rfl); (case z2 => rfl); (case z3 => (first | rfl | assumption)); (case z4 => rfl)) | (refine' name_cell ?zN rfl rfl rfl ?zm ?zd rfl ?_; (case zN => assumption); (case zm => k_mem); (case zd => assumption)) | (refine' name_free ?zN rfl rfl rfl ?zm ?zd rfl rfl ?_; (case zN => assumption); (case zm => k_mem); (case zd => assumption)) | (refine' name_built ?zF ?zX ?zT ?ze ?zv ?zn ?_ ?zg ?zb ?zk ?zx ?zd; (case zF => k_asm); (case zX => k_asm); (case zT => k_asm); (case ze => k_is); (case zv => boot_by_name); (case zn => decide); (case zg => rfl); (case zb => rfl); (case zk => rfl); (case zx => rfl); (case zd => rfl))))) | walk1)) | (leave1; walk_say "STEP leave1"; try dsimp only) | fail "no step"))
            exact ⟨_, _, _, _, _, _, _, rfl, rfl, by assumption, small_one (by omega) (by omega) (by omega) (by omega), rangeSize_nat _ _, by assumption, by assumption⟩
          case ft2 =>
            intro C p q l tp tq t h tk tail mc E' hpq hpl hlc lC ltC hma hmb hmx F3 N3
            have hb := stairs_mem d0.length [d0, d1, d2, d3] (i - 1) p q hpq
            clear lF lN
            dsimp only [List.cons_append] at N3
            replace N3 := news_in N3 (up8 hmem)
            (repeat' (first | (k_unfold; (try dsimp only)) | ((fail_if_success (with_reducible show wpAny _ _ (newTuple _) _ _ _)); (first | ((with_reducible show wpAny _ _ (eval (Expr.Name _ _) _) _ _ _); (k_here; k_dflt (first | (refine' name_local ?zF ?z1 ?z2 ?z3 ?z4 ?_; (case zF => assumption); (case z1 => rfl); (case z2 => rfl); (case z3 => (first | rfl | assumption)); (case z4 => rfl)) | (refine' name_cell ?zN rfl rfl rfl ?zm ?zd rfl ?_; (case zN => assumption); (case zm => k_mem); (case zd => assumption)) | (refine' name_free ?zN rfl rfl rfl ?zm ?zd rfl rfl ?_; (case zN => assumption); (case zm => k_mem); (case zd => assumption)) | (refine' name_built ?zF ?zX ?zT ?ze ?zv ?zn ?_ ?zg ?zb ?zk ?zx ?zd; (case zF => k_asm); (case zX => k_asm); (case zT => k_asm); (case ze => k_is); (case zv => boot_by_name); (case zn => decide); (case zg => rfl); (case zb => rfl); (case zk => rfl); (case zx => rfl); (case zd => rfl))))) | walk1))))
            (rename Fr _ _ _ _ => lF)
            (rename News _ _ _ _ => lN)
            (refine' new_pair lF lN ?nz ?_)
            case nz => (rw [sizeLine_eq]; exact Nat.le_of_ble_eq_true rfl)
            intro a1 h6 lt1 lCa F6 N6
            rw [sl_walk' (by omega)] at N6
            exact ⟨a1, _, _, _, h6, _, rfl, fun r hr => lt1 r (.tail _ (.tail _ hr)), lCa, rfl, F6, fun r hr => N6 r ((List.mem_cons.mp hr).elim (fun e => e ▸ .head _) fun hr => .tail _ (.tail _ (.tail _ hr)))⟩
          case ff =>
            clear lF lN
            intro D1 ys1 made1 h tk hP1 ltD1 ltM1 F3 N3
            rw [← eS] at hP1
            have gD : @LT.lt Nat _ g D1 := ltD1 (g, listOf (List.toArray gv) kg) (.tail _ (.head _))
            have iD : @LT.lt Nat _ I D1 := ltD1 (I, oI) (.head _)
            have cD : @LT.lt Nat _ (L' + 4) D1 := ltD1 (L' + 4, oab') (.tail _ (.tail _ (.tail _ (.head _))))
            (repeat' (first | (k_unfold; (try dsimp only)) | ((fail_if_success (with_reducible show wpAny _ _ ((call (Value.ref 999) _ _)) _ _ _)); (first | ((with_reducible show wpAny _ _ (eval (Expr.Name _ _) _) _ _ _); (k_here; k_dflt (first | (refine' name_local ?zF ?z1 ?z2 ?z3 ?z4 ?_; (case zF => assumption); (case z1 => rfl); (case z2 => rfl); (case z3 => (first | rfl | assumption)); (case z4 => rfl)) | (refine' name_cell ?zN rfl rfl rfl ?zm ?zd rfl ?_; (case zN => assumption); (case zm => k_mem); (case zd => assumption)) | (refine' name_free ?zN rfl rfl rfl ?zm ?zd rfl rfl ?_; (case zN => assumption); (case zm => k_mem); (case zd => assumption)) | (refine' name_built ?zF ?zX ?zT ?ze ?zv ?zn ?_ ?zg ?zb ?zk ?zx ?zd; (case zF => k_asm); (case zX => k_asm); (case zT => k_asm); (case ze => k_is); (case zv => boot_by_name); (case zn => decide); (case zg => rfl); (case zb => rfl); (case zk => rfl); (case zx => rfl); (case zd => rfl))))) | walk1))))
            refine ⟨rfl, h, tk, _, D1, ys1, ys1.length, made1, oab', _, rfl, F3, if_swap made N3, hP1, (if_neg (by decide)).trans hg, if_pos rfl, hab', cD, Ne.symm (Nat.ne_of_lt gD), fun r hr => ⟨Nat.lt_trans cD (ltM1 r hr), Ne.symm (Nat.ne_of_lt (Nat.lt_trans gD (ltM1 r hr)))⟩, ?_⟩
            intro r hr
            rcases List.mem_cons.mp hr with rfl | hr
            · exact off _ (.head _)
            rcases List.mem_cons.mp hr with rfl | hr
            · exact Ne.symm (Nat.ne_of_lt iD)
            rcases List.mem_append.mp (show r ∈ [(L' + 4, oab'), (L' + 3, odep'), (L' + 2, olast), (L' + 1, orows), (R, listOf #[Value.ref r0, Value.ref r1, Value.ref r2, Value.ref r3] kr), (r0, listOf v0.toArray k0), (r1, listOf v1.toArray k1), (r2, listOf v2.toArray k2), (r3, listOf v3.toArray k3)] ++ made1 from hr) with hr | hr
            · exact off r (.tail _ (.tail _ (List.mem_append.mpr (.inl hr))))
            · exact Ne.symm (Nat.ne_of_lt (Nat.lt_trans iD (ltM1 r hr)))
    case r =>
      obtain ⟨rfl, h3, tk3, m₂, D, ys1, ks1, made1, oab', vab', rfl, F3, N3, hP1, hg1, hst1, hab1, ltst1, nsg1, ltm1, off1⟩ := hv
      clear F2 N2 hP hg hst hab hdep ltst nsg ltm off hap
      obtain ⟨rq, vq, kq, dq, hget, hmem, hIq, hlq, hdq⟩ := row_at (r0 := r0) (r1 := r1) (r2 := r2) (r3 := r3) (k0 := k0) (k1 := k1) (k2 := k2) (k3 := k3) i0 i1 i2 i3 l1 l2 l3 hi
      dsimp only [List.cons_append, List.nil_append] at N3
      dsimp only
      (repeat' (first | (k_unfold; (try dsimp only)) | ((fail_if_success (with_reducible show wpAny _ _ (eval (Expr.ListComp _ _ _ _) _) _ _ _)); (first | ((with_reducible show wpAny _ _ (eval (Expr.Name _ _) _) _ _ _); (k_here; k_dflt (first | (refine' name_local ?zF ?z1 ?z2 ?z3 ?z4 ?_; (case zF => assumption); (case z1 => rfl); (case z2 => rfl); (case z3 => (first | rfl | assumption)); (case z4 => rfl)) | (refine' name_cell ?zN rfl rfl rfl ?zm ?zd rfl ?_; (case zN => assumption); (case zm => k_mem); (case zd => assumption)) | (refine' name_free ?zN rfl rfl rfl ?zm ?zd rfl rfl ?_; (case zN => assumption); (case zm => k_mem); (case zd => assumption)) | (refine' name_built ?zF ?zX ?zT ?ze ?zv ?zn ?_ ?zg ?zb ?zk ?zx ?zd; (case zF => k_asm); (case zX => k_asm); (case zT => k_asm); (case ze => k_is); (case zv => boot_by_name); (case zn => decide); (case zg => rfl); (case zb => rfl); (case zk => rfl); (case zx => rfl); (case zd => rfl))))) | walk1))))
      (rename Fr _ _ _ _ => lF)
      (rename News _ _ _ _ => lN)
      (with_unfolding_all refine' comp_pairs (fun p q => q + sl dq p d0.length) (stairsAt d0.length [d0, d1, d2, d3] i) lF ?xc ?xp ?xk ?xn ?xa ?xb ?xh ?xe ?xs)
      case xc => with_unfolding_all exact rfl
      case xp => intro h; rfl
      case xk => rfl
      case xn => decide
      case xa => rfl
      case xb => rfl
      case xh => rfl
      case xs => intro x; rfl
      case xe =>
        refine' name_local lF rfl rfl hst1 rfl ?_
        refine' ⟨_, _, _, _, rfl, lF, lN, ?xm, ?xz, ?xl, ?xi, ?xt, ?xf⟩
        case xm => k_mem
        case xz => (rw [sizeLine_eq, List.size_toArray, hP1.length]; exact Nat.le_trans (stairs_small hn.2 hi) (by decide))
        case xl => (rw [List.size_toArray, hP1.length])
        case xi =>
          intro i v hv
          rw [List.getElem?_toArray] at hv
          obtain ⟨t, p, q, tp, tq, nt, rfl, hm, hp⟩ := hP1.at i v hv
          exact ⟨t, p, q, tp, tq, nt, rfl, by simp [hm], hp⟩
        case xt =>
          intro C p q tp tq h tk tail mc E' hpq lC ltC F5 N5
          have hb := stairs_mem d0.length [d0, d1, d2, d3] i p q hpq
          clear lF lN
          dsimp only [List.cons_append] at N5
          replace N5 := news_in N5 (up8 hmem)
          (repeat' (first | (k_unfold; (try dsimp only)) | ((fail_if_success (with_reducible show wpAny _ _ ((subscriptTail _ _ (Value.ref _) (Value.int _ _))) _ _ _)); (first | ((with_reducible show wpAny _ _ (eval (Expr.Name _ _) _) _ _ _); (k_here; k_dflt (first | (refine' name_local ?zF ?z1 ?z2 ?z3 ?z4 ?_; (case zF => assumption); (case z1 => rfl); (case z2 => rfl); (case z3 => (first | rfl | assumption)); (case z4 => rfl)) | (refine' name_cell ?zN rfl rfl rfl ?zm ?zd rfl ?_; (case zN => assumption); (case zm => k_mem); (case zd => assumption)) | (refine' name_free ?zN rfl rfl rfl ?zm ?zd rfl rfl ?_; (case zN => assumption); (case zm => k_mem); (case zd => assumption)) | (refine' name_built ?zF ?zX ?zT ?ze ?zv ?zn ?_ ?zg ?zb ?zk ?zx ?zd; (case zF => k_asm); (case zX => k_asm); (case zT => k_asm); (case ze => k_is); (case zv => boot_by_name); (case zn => decide); (case zg => rfl); (case zb => rfl); (case zk => rfl); (case zx => rfl); (case zd => rfl))))) | walk1))))
          (rename News _ _ _ _ => lN)
          (with_unfolding_all refine' item_at (l := R) (items := #[Value.ref r0, Value.ref r1, Value.ref r2, Value.ref r3]) (k := kr) (x := Value.ref rq) lN ?ia ?ib ?ic ?ix ?_ ?is)
          case ia => k_mem
          case ib => omega
          case ic => omega
          case ix => exact hget
          case is => rfl
          (try dsimp only)
          (repeat' (first | (k_unfold; (try dsimp only)) | (k_end; wrow_close) | (first | ((with_reducible show wpAny _ _ (eval (Expr.Name _ _) _) _ _ _); (k_here; k_dflt (first | (refine' name_local ?zF ?z1 ?z2 ?z3 ?z4 ?_; (case zF => assumption); (case z1 => rfl); (case z2 => rfl); (case z3 => (first | rfl | assumption)); (case z4 => rfl)) | (refine' name_cell ?zN rfl rfl rfl ?zm ?zd rfl ?_; (case zN => assumption); (case zm => k_mem); (case zd => assumption)) | (refine' name_free ?zN rfl rfl rfl ?zm ?zd rfl rfl ?_; (case zN => assumption); (case zm => k_mem); (case zd => assumption)) | (refine' name_built ?zF ?zX ?zT ?ze ?zv ?zn ?_ ?zg ?zb ?zk ?zx ?zd; (case zF => k_asm); (case zX => k_asm); (case zT => k_asm); (case ze => k_is); (case zv => boot_by_name); (case zn => decide); (case zg => rfl); (case zb => rfl); (case zk => rfl); (case zx => rfl); (case zd => rfl))))) | walk1) | (dsimp only; (first | ((with_reducible show wpAny _ _ (eval (Expr.Name _ _) _) _ _ _); (k_here; k_dflt (first | (refine' name_local ?zF ?z1 ?z2 ?z3 ?z4 ?_; (case zF => assumption); (case z1 => rfl); (case z2 => rfl); (case z3 => (first | rfl | assumption)); (case z4 => rfl)) | (refine' name_cell ?zN rfl rfl rfl ?zm ?zd rfl ?_; (case zN => assumption); (case zm => k_mem); (case zd => assumption)) | (refine' name_free ?zN rfl rfl rfl ?zm ?zd rfl rfl ?_; (case zN => assumption); (case zm => k_mem); (case zd => assumption)) | (refine' name_built ?zF ?zX ?zT ?ze ?zv ?zn ?_ ?zg ?zb ?zk ?zx ?zd; (case zF => k_asm); (case zX => k_asm); (case zT => k_asm); (case ze => k_is); (case zv => boot_by_name); (case zn => decide); (case zg => rfl); (case zb => rfl); (case zk => rfl); (case zx => rfl); (case zd => rfl))))) | walk1)) | (leave1; walk_say "STEP leave1"; try dsimp only) | fail "no step"))
          exact ⟨⟨_, congrArg (fun z => Value.int (q + z) _) (sl_walk hlq)⟩, _, _, rfl, by assumption, fun r hr => (by assumption : News _ _ _ (_ :: _ :: _)) r (.tail _ (.tail _ hr))⟩
        case xf =>
          clear lF lN hget hmem hIq
          intro D2 ys2 h tk hys ltD F5 N5
          (repeat' (first | (k_unfold; (try dsimp only)) | (k_end; wrow_close) | (first | ((with_reducible show wpAny _ _ (eval (Expr.Name _ _) _) _ _ _); (k_here; k_dflt (first | (refine' name_local ?zF ?z1 ?z2 ?z3 ?z4 ?_; (case zF => assumption); (case z1 => rfl); (case z2 => rfl); (case z3 => (first | rfl | assumption)); (case z4 => rfl)) | (refine' name_cell ?zN rfl rfl rfl ?zm ?zd rfl ?_; (case zN => assumption); (case zm => k_mem); (case zd => assumption)) | (refine' name_free ?zN rfl rfl rfl ?zm ?zd rfl rfl ?_; (case zN => assumption); (case zm => k_mem); (case zd => assumption)) | (refine' name_built ?zF ?zX ?zT ?ze ?zv ?zn ?_ ?zg ?zb ?zk ?zx ?zd; (case zF => k_asm); (case zX => k_asm); (case zT => k_asm); (case ze => k_is); (case zv => boot_by_name); (case zn => decide); (case zg => rfl); (case zb => rfl); (case zk => rfl); (case zx => rfl); (case zd => rfl))))) | walk1) | (dsimp only; (first | ((with_reducible show wpAny _ _ (eval (Expr.Name _ _) _) _ _ _); (k_here; k_dflt (first | (refine' name_local ?zF ?z1 ?z2 ?z3 ?z4 ?_; (case zF => assumption); (case z1 => rfl); (case z2 => rfl); (case z3 => (first | rfl | assumption)); (case z4 => rfl)) | (refine' name_cell ?zN rfl rfl rfl ?zm ?zd rfl ?_; (case zN => assumption); (case zm => k_mem); (case zd => assumption)) | (refine' name_free ?zN rfl rfl rfl ?zm ?zd rfl rfl ?_; (case zN => assumption); (case zm => k_mem); (case zd => assumption)) | (refine' name_built ?zF ?zX ?zT ?ze ?zv ?zn ?_ ?zg ?zb ?zk ?zx ?zd; (case zF => k_asm); (case zX => k_asm); (case zT => k_asm); (case ze => k_is); (case zv => boot_by_name); (case zn => decide); (case zg => rfl); (case zb => rfl); (case zk => rfl); (case zx => rfl); (case zd => rfl))))) | walk1)) | (leave1; walk_say "STEP leave1"; try dsimp only) | fail "no step"))
          (with_unfolding_all refine' min_list_N ?qh F5 N5 ?ql hys ?qn ?_)
          case qh => rfl
          case ql => exact PySem.IsL.isList (n := ys2.length) (N5 (D2, LCg.lst ys2) (.head _)).1
          case qn => (rw [List.length_map]; exact stairs_pos _ _ _)
          intro h M t tk F4 N4 hM hle
          have eM : goneAt d0.length [d0, d1, d2, d3] i = M := gone_least hdq hle hM
          subst eM
          clear F5 N5 hM hle hys
          (repeat' (first | (k_unfold; (try dsimp only)) | (k_end; wrow_close) | (first | ((with_reducible show wpAny _ _ (eval (Expr.Name _ _) _) _ _ _); (k_here; k_dflt (first | (refine' name_local ?zF ?z1 ?z2 ?z3 ?z4 ?_; (case zF => assumption); (case z1 => rfl); (case z2 => rfl); (case z3 => (first | rfl | assumption)); (case z4 => rfl)) | (refine' name_cell ?zN rfl rfl rfl ?zm ?zd rfl ?_; (case zN => assumption); (case zm => k_mem); (case zd => assumption)) | (refine' name_free ?zN rfl rfl rfl ?zm ?zd rfl rfl ?_; (case zN => assumption); (case zm => k_mem); (case zd => assumption)) | (refine' name_built ?zF ?zX ?zT ?ze ?zv ?zn ?_ ?zg ?zb ?zk ?zx ?zd; (case zF => k_asm); (case zX => k_asm); (case zT => k_asm); (case ze => k_is); (case zv => boot_by_name); (case zn => decide); (case zg => rfl); (case zb => rfl); (case zk => rfl); (case zx => rfl); (case zd => rfl))))) | walk1) | (dsimp only; (first | ((with_reducible show wpAny _ _ (eval (Expr.Name _ _) _) _ _ _); (k_here; k_dflt (first | (refine' name_local ?zF ?z1 ?z2 ?z3 ?z4 ?_; (case zF => assumption); (case z1 => rfl); (case z2 => rfl); (case z3 => (first | rfl | assumption)); (case z4 => rfl)) | (refine' name_cell ?zN rfl rfl rfl ?zm ?zd rfl ?_; (case zN => assumption); (case zm => k_mem); (case zd => assumption)) | (refine' name_free ?zN rfl rfl rfl ?zm ?zd rfl rfl ?_; (case zN => assumption); (case zm => k_mem); (case zd => assumption)) | (refine' name_built ?zF ?zX ?zT ?ze ?zv ?zn ?_ ?zg ?zb ?zk ?zx ?zd; (case zF => k_asm); (case zX => k_asm); (case zT => k_asm); (case ze => k_is); (case zv => boot_by_name); (case zn => decide); (case zg => rfl); (case zb => rfl); (case zk => rfl); (case zx => rfl); (case zd => rfl))))) | walk1)) | (leave1; walk_say "STEP leave1"; try dsimp only) | fail "no step"))
          have lg := ltD _ (.tail _ (.head _))
          have lI := off1 _ (.head _)
          (refine' append_in [(D2, LCg.lst ys2), (I, oI)] _ F4 N4 ?pa ?pb ?pz ?_)
          case pa =>
            intro r hr
            simp only [List.mem_cons, List.not_mem_nil, or_false] at hr
            rcases hr with rfl | rfl
            · exact Ne.symm (Nat.ne_of_lt lg)
            · exact Ne.symm lI
          case pb => exact gone_apart nsg1 ltg l' ltm1
          case pz => (rw [hG.length, List.length_map, List.length_range, sizeLine_eq]; omega)
          intro h F5 N5
          clear F4 N4
          (repeat' (first | (k_unfold; (try dsimp only)) | (k_end; wrow_close) | (first | ((with_reducible show wpAny _ _ (eval (Expr.Name _ _) _) _ _ _); (k_here; k_dflt (first | (refine' name_local ?zF ?z1 ?z2 ?z3 ?z4 ?_; (case zF => assumption); (case z1 => rfl); (case z2 => rfl); (case z3 => (first | rfl | assumption)); (case z4 => rfl)) | (refine' name_cell ?zN rfl rfl rfl ?zm ?zd rfl ?_; (case zN => assumption); (case zm => k_mem); (case zd => assumption)) | (refine' name_free ?zN rfl rfl rfl ?zm ?zd rfl rfl ?_; (case zN => assumption); (case zm => k_mem); (case zd => assumption)) | (refine' name_built ?zF ?zX ?zT ?ze ?zv ?zn ?_ ?zg ?zb ?zk ?zx ?zd; (case zF => k_asm); (case zX => k_asm); (case zT => k_asm); (case ze => k_is); (case zv => boot_by_name); (case zn => decide); (case zg => rfl); (case zb => rfl); (case zk => rfl); (case zx => rfl); (case zd => rfl))))) | walk1) | (dsimp only; (first | ((with_reducible show wpAny _ _ (eval (Expr.Name _ _) _) _ _ _); (k_here; k_dflt (first | (refine' name_local ?zF ?z1 ?z2 ?z3 ?z4 ?_; (case zF => assumption); (case z1 => rfl); (case z2 => rfl); (case z3 => (first | rfl | assumption)); (case z4 => rfl)) | (refine' name_cell ?zN rfl rfl rfl ?zm ?zd rfl ?_; (case zN => assumption); (case zm => k_mem); (case zd => assumption)) | (refine' name_free ?zN rfl rfl rfl ?zm ?zd rfl rfl ?_; (case zN => assumption); (case zm => k_mem); (case zd => assumption)) | (refine' name_built ?zF ?zX ?zT ?ze ?zv ?zn ?_ ?zg ?zb ?zk ?zx ?zd; (case zF => k_asm); (case zX => k_asm); (case zT => k_asm); (case ze => k_is); (case zv => boot_by_name); (case zn => decide); (case zg => rfl); (case zb => rfl); (case zk => rfl); (case zx => rfl); (case zd => rfl))))) | walk1)) | (leave1; walk_say "STEP leave1"; try dsimp only) | fail "no step"))
          exact ⟨rfl, h, _, m₂, _, rfl, F5, fun r hr => N5 r (.tail _ hr), off_of off1 rfl, g, D, _, _, ys1, ks1, made1, _, odep', olast, orows, tl, _, _, hg1, hst1, rfl, hP1, gone_more hG, hlast, hrows, hab1, dd', ltg, ltst1, nsg1, ltm1⟩
end
end Mine
end

section
open PySem PySem.Spec PySem.Calls PySem.W PyProof.Rows Mine
set_option maxRecDepth 100000 in
set_option maxHeartbeats 4000000 in
theorem Mine.law_holds4 : PySem.Challenge.rw_xg0068_01.Holds := Mine.hd (by
  w_top off
  k_fill
  intro w s₀ s₁ mg mb G Y fa o pm cd doc dV kV ho hd hcd hD hmg hg args vals as hpre hlay hrd hwl hlo
  have KX := kIn_of Y
  have X := (Ground.X G).1
  refine Ground.open G ?_
  intro T B D TE TW
  try (refine guard_noD D (by decide +kernel) ?_; clear D)
  obtain ⟨_, _, M⟩ := bmod_of_top T
  have TA := at_of_top T
  try (obtain ⟨_, _, he, B0⟩ := based_of_top T rfl hmg ho hd; have he' : cd = _ := he; subst he'; clear he)
  clear hmg
  wrow_args hpre hlay hrd hwl hlo
  (first | refine callC_kw (enter_call ?_) | refine enter_call ?_ | refine callC_kw (enter_callW ?_) | refine enter_callW ?_ | w_how)
  w_top on
  try refine codeAny_mono ?_ (fun _ _ g => GoodW.toG g)
  have K0 := below_caller (Top.heap T)
  w_call any ho hd hcd hD T F
  clear hd TA
  k_drop
  (try k_fold)
  (rename Fr _ _ _ _ => lF)
  (rename News _ _ _ _ => lN)
  (rename Top _ _ _ _ _ _ => lT)
  (rename Below _ _ _ _ => lB)
  (rename IntsAre _ _ => lI)
  (rename Heap.IsList _ _ _ => lL)
  have fin : ∀ h' tk' m', Fr s₁.heap s₁.heap.objs.size h' m' → qk (Flow.ret (Value.bool true)) (Shared.mk h' s₁.gens s₁.drawn tk' s₁.os) := by
    intro h' tk' m' F'
    (repeat' (first | (k_unfold; (try dsimp only)) | (k_end; wrow_close) | (first | ((with_reducible show wpAny _ _ (eval (Expr.Name _ _) _) _ _ _); (k_here; k_dflt (first | (refine' name_local ?zF ?z1 ?z2 ?z3 ?z4 ?_; (case zF => assumption); (case z1 => rfl); (case z2 => rfl); (case z3 => (first | rfl | assumption)); (case z4 => rfl)) | (refine' name_cell ?zN rfl rfl rfl ?zm ?zd rfl ?_; (case zN => assumption); (case zm => k_mem); (case zd => assumption)) | (refine' name_free ?zN rfl rfl rfl ?zm ?zd rfl rfl ?_; (case zN => assumption); (case zm => k_mem); (case zd => assumption)) | (refine' name_built ?zF ?zX ?zT ?ze ?zv ?zn ?_ ?zg ?zb ?zk ?zx ?zd; (case zF => k_asm); (case zX => k_asm); (case zT => k_asm); (case ze => k_is); (case zv => boot_by_name); (case zn => decide); (case zg => rfl); (case zb => rfl); (case zk => rfl); (case zx => rfl); (case zd => rfl))))) | walk1) | (dsimp only; (first | ((with_reducible show wpAny _ _ (eval (Expr.Name _ _) _) _ _ _); (k_here; k_dflt (first | (refine' name_local ?zF ?z1 ?z2 ?z3 ?z4 ?_; (case zF => assumption); (case z1 => rfl); (case z2 => rfl); (case z3 => (first | rfl | assumption)); (case z4 => rfl)) | (refine' name_cell ?zN rfl rfl rfl ?zm ?zd rfl ?_; (case zN => assumption); (case zm => k_mem); (case zd => assumption)) | (refine' name_free ?zN rfl rfl rfl ?zm ?zd rfl rfl ?_; (case zN => assumption); (case zm => k_mem); (case zd => assumption)) | (refine' name_built ?zF ?zX ?zT ?ze ?zv ?zn ?_ ?zg ?zb ?zk ?zx ?zd; (case zF => k_asm); (case zX => k_asm); (case zT => k_asm); (case ze => k_is); (case zv => boot_by_name); (case zn => decide); (case zg => rfl); (case zb => rfl); (case zk => rfl); (case zx => rfl); (case zd => rfl))))) | walk1)) | (leave1; walk_say "STEP leave1"; try dsimp only) | fail "no step"))
  clear G Y hcd hD ho hg
  (try (rename Flt.MathXP _ _ _ => zz; clear zz))
  (try (rename LooseAre _ _ _ => zz; clear zz))
  (try (rename Glob _ _ _ _ _ _ _ _ => zz; clear zz))
  (try (rename Tables _ _ _ _ => zz; clear zz))
  (try (rename TopE _ _ _ _ => zz; clear zz))
  (try (rename TopW _ _ _ => zz; clear zz))
  (try (rename BMod _ _ _ _ _ => zz; clear zz))
  (try (rename Shape.has _ _ = _ => zz; clear zz))
  (try (rename PyData.layable0 _ = _ => zz; clear zz))
  (try (rename WShape.hasAll _ _ _ = _ => zz; clear zz))
  (try (rename ReadsAll _ _ _ _ => zz; clear zz))
  (try (rename ReadsAllW _ _ _ _ _ _ => zz; clear zz))
  (try (rename Well _ _ _ _ => zz; clear zz))
  (try (rename Reads _ _ _ _ => zz; clear zz))
  obtain ⟨S, items, xs, hL, hI, hlen, m0, hm0, F0⟩ : ∃ (S : Addr) (items : List Value) (xs : List Int) (hL : s₁.heap.IsList S items.toArray) (hI : IntsAre items xs) (hlen : xs.length ≤ 63) (m0 : Str → Option Value), m0 (Str.ofString "script") = some (Value.ref S) ∧ Fr s₁.heap s₁.heap.objs.size _ m0 := ⟨_, _, _, lL, lI, by omega, _, rfl, lF⟩
  clear lF lL lI
  (rename _ = Data.cell _ => dB)
  revert dB
  (rename _ = Data.cell _ => dA)
  intro dB
  obtain ⟨o1, o2, N0, hd1, hd2⟩ : ∃ o1 o2 : Obj, News s₁.heap s₁.heap.objs.size _ [(s₁.heap.objs.size + 2, o2), (s₁.heap.objs.size + 1, o1)] ∧ o1.data = Data.cell none ∧ o2.data = Data.cell none := ⟨_, _, lN, dB, dA⟩
  clear lN dA dB
  (try (rename CellsAre _ _ _ => zz; clear zz))
  have hE : PassesOwn (model PySem.Challenge.rw_xg0068_01.row.prog w) _ _ ek := PySem.PassesOwn.leaving
  clear_value qk ek
  dsimp only at hE
  generalize s₁.heap.objs.size = L at *
  dsimp only
  (repeat' (first | (k_unfold; (try dsimp only)) | ((fail_if_success (with_reducible show wpAny _ _ ((call (Value.ref 229) _ _)) _ _ _)); (first | ((with_reducible show wpAny _ _ (eval (Expr.Name _ _) _) _ _ _); (k_here; k_dflt (first | (refine' name_local ?zF ?z1 ?z2 ?z3 ?z4 ?_; (case zF => assumption); (case z1 => rfl); (case z2 => rfl); (case z3 => (first | rfl | assumption)); (case z4 => rfl)) | (refine' name_cell ?zN rfl rfl rfl ?zm ?zd rfl ?_; (case zN => assumption); (case zm => k_mem); (case zd => assumption)) | (refine' name_free ?zN rfl rfl rfl ?zm ?zd rfl rfl ?_; (case zN => assumption); (case zm => k_mem); (case zd => assumption)) | (refine' name_built ?zF ?zX ?zT ?ze ?zv ?zn ?_ ?zg ?zb ?zk ?zx ?zd; (case zF => k_asm); (case zX => k_asm); (case zT => k_asm); (case ze => k_is); (case zv => boot_by_name); (case zn => decide); (case zg => rfl); (case zb => rfl); (case zk => rfl); (case zx => rfl); (case zd => rfl))))) | walk1))))
  (rename Fr _ _ _ _ => lF)
  (rename News _ _ _ _ => lN)
  (refine' Cl.use [(L + 2, o2), (L + 1, o1)] (c_law_rows S items xs hI hlen) ?clB ?clF ?clX ?clN ?clhT ?clhR ?clho ?clT ?clk ?clp ?cld ?clu ?_; (case clB => k_asm); (case clF => k_asm); (case clX => k_asm); (case clN => k_asm); (case clhT => kcj_all); (case clhR => kcj_all); (case clT => k_asm); (case clk => first | exact rfl | assumption); (case cld => ktr_room); (case clu => ktr_units))
  case clho => exact fun _ _ _ hp => nomatch hp
  case clp => exact PySem.W.stays_list lF.keep hL
  rintro v9 T9 h9 tk9 ⟨R, a1, a2, a3, a4, a5, v1, v2, v3, v4, v5, ds, rfl, rfl, hds, i1, i2, i3, i4, i5⟩ ht9 F9 N9 o9
  clear lF lN
  (dsimp only [List.cons_append, List.nil_append] at N9)
  (try dsimp only)
  have q9 : ∀ p ∈ [(R, LCg.lst [Value.ref a1, Value.ref a2, Value.ref a3, Value.ref a4, Value.ref a5]), (a1, LCg.lst v1), (a2, LCg.lst v2), (a3, LCg.lst v3), (a4, LCg.lst v4), (a5, LCg.lst v5)], ∀ q ∈ [(L + 2, o2), (L + 1, o1)], p.1 ≠ q.1 := fun p hp => (o9 p hp).resolve_left (fun h => nomatch h)
  clear o9
  (repeat' (first | (k_unfold; (try dsimp only)) | ((fail_if_success (with_reducible show wpAny _ _ (storeName _ _ _) _ _ _)); (first | ((with_reducible show wpAny _ _ (eval (Expr.Name _ _) _) _ _ _); (k_here; k_dflt (first | (refine' name_local ?zF ?z1 ?z2 ?z3 ?z4 ?_; (case zF => assumption); (case z1 => rfl); (case z2 => rfl); (case z3 => (first | rfl | assumption)); (case z4 => rfl)) | (refine' name_cell ?zN rfl rfl rfl ?zm ?zd rfl ?_; (case zN => assumption); (case zm => k_mem); (case zd => assumption)) | (refine' name_free ?zN rfl rfl rfl ?zm ?zd rfl rfl ?_; (case zN => assumption); (case zm => k_mem); (case zd => assumption)) | (refine' name_built ?zF ?zX ?zT ?ze ?zv ?zn ?_ ?zg ?zb ?zk ?zx ?zd; (case zF => k_asm); (case zX => k_asm); (case zT => k_asm); (case ze => k_is); (case zv => boot_by_name); (case zn => decide); (case zg => rfl); (case zb => rfl); (case zk => rfl); (case zx => rfl); (case zd => rfl))))) | walk1))))
  (rename Fr _ _ _ _ => lF)
  (rename News _ _ _ _ => lN)
  (with_unfolding_all refine' store_cell [(R, LCg.lst [Value.ref a1, Value.ref a2, Value.ref a3, Value.ref a4, Value.ref a5]), (a1, LCg.lst v1), (a2, LCg.lst v2), (a3, LCg.lst v3), (a4, LCg.lst v4), (a5, LCg.lst v5), (L + 2, o2)] [] lF lN ?sk ?sl ?sc hd1 ?s1 ?s2 ?_)
  case sk => rfl
  case sl => rfl
  case sc => rfl
  case s1 =>
    intro p hp
    rcases List.mem_append.mp (show p ∈ [(R, LCg.lst [Value.ref a1, Value.ref a2, Value.ref a3, Value.ref a4, Value.ref a5]), (a1, LCg.lst v1), (a2, LCg.lst v2), (a3, LCg.lst v3), (a4, LCg.lst v4), (a5, LCg.lst v5)] ++ [(L + 2, o2)] from hp) with hp | hp
    · exact q9 p hp (L + 1, o1) (.tail _ (.head _))
    · rw [List.mem_singleton.mp hp]; refine neN ?_; dsimp only; omega
  case s2 => exact fun _ hp => nomatch hp
  intro h10 o1' hd1' F10 N10
  clear lF lN hd1
  (dsimp only [List.cons_append, List.nil_append] at N10)
  (try dsimp only)
  (repeat' (first | (k_unfold; (try dsimp only)) | ((fail_if_success (with_reducible show wpAny _ _ (storeName _ _ _) _ _ _)); (first | ((with_reducible show wpAny _ _ (eval (Expr.Name _ _) _) _ _ _); (k_here; k_dflt (first | (refine' name_local ?zF ?z1 ?z2 ?z3 ?z4 ?_; (case zF => assumption); (case z1 => rfl); (case z2 => rfl); (case z3 => (first | rfl | assumption)); (case z4 => rfl)) | (refine' name_cell ?zN rfl rfl rfl ?zm ?zd rfl ?_; (case zN => assumption); (case zm => k_mem); (case zd => assumption)) | (refine' name_free ?zN rfl rfl rfl ?zm ?zd rfl rfl ?_; (case zN => assumption); (case zm => k_mem); (case zd => assumption)) | (refine' name_built ?zF ?zX ?zT ?ze ?zv ?zn ?_ ?zg ?zb ?zk ?zx ?zd; (case zF => k_asm); (case zX => k_asm); (case zT => k_asm); (case ze => k_is); (case zv => boot_by_name); (case zn => decide); (case zg => rfl); (case zb => rfl); (case zk => rfl); (case zx => rfl); (case zd => rfl))))) | walk1))))
  (rename Fr _ _ _ _ => lF)
  (rename News _ _ _ _ => lN)
  (with_unfolding_all refine' store_cell [(R, LCg.lst [Value.ref a1, Value.ref a2, Value.ref a3, Value.ref a4, Value.ref a5]), (a1, LCg.lst v1), (a2, LCg.lst v2), (a3, LCg.lst v3), (a4, LCg.lst v4), (a5, LCg.lst v5)] [(L + 1, o1')] lF lN ?sk ?sl ?sc hd2 ?s1 ?s2 ?_)
  case sk => rfl
  case sl => rfl
  case sc => rfl
  case s1 => exact fun p hp => q9 p hp (L + 2, o2) (.head _)
  case s2 =>
    intro p hp
    rw [List.mem_singleton.mp hp]; refine neN ?_; dsimp only; omega
  intro h11 o2' hd2' F11 N11
  clear lF lN hd2
  (dsimp only [List.cons_append, List.nil_append] at N11)
  (try dsimp only)
  clear q9
  (repeat' (first | (k_unfold; (try dsimp only)) | ((fail_if_success (with_reducible show wpAny _ _ (newList _) _ _ _)); (first | ((with_reducible show wpAny _ _ (eval (Expr.Name _ _) _) _ _ _); (k_here; k_dflt (first | (refine' name_local ?zF ?z1 ?z2 ?z3 ?z4 ?_; (case zF => assumption); (case z1 => rfl); (case z2 => rfl); (case z3 => (first | rfl | assumption)); (case z4 => rfl)) | (refine' name_cell ?zN rfl rfl rfl ?zm ?zd rfl ?_; (case zN => assumption); (case zm => k_mem); (case zd => assumption)) | (refine' name_free ?zN rfl rfl rfl ?zm ?zd rfl rfl ?_; (case zN => assumption); (case zm => k_mem); (case zd => assumption)) | (refine' name_built ?zF ?zX ?zT ?ze ?zv ?zn ?_ ?zg ?zb ?zk ?zx ?zd; (case zF => k_asm); (case zX => k_asm); (case zT => k_asm); (case ze => k_is); (case zv => boot_by_name); (case zn => decide); (case zg => rfl); (case zb => rfl); (case zk => rfl); (case zx => rfl); (case zd => rfl))))) | walk1))))
  (rename Fr _ _ _ _ => lF)
  (rename News _ _ _ _ => lN)
  (refine' newList_K lF lN ?_ ?nz)
  case nz => (rw [sizeLine_eq]; exact Nat.le_of_ble_eq_true rfl)
  intro ld h12 F9 N9 ltld
  clear lF lN
  (try dsimp only)
  (repeat' (first | (k_unfold; (try dsimp only)) | ((fail_if_success (with_reducible show wpAny _ _ (newTuple _) _ _ _)); (first | ((with_reducible show wpAny _ _ (eval (Expr.Name _ _) _) _ _ _); (k_here; k_dflt (first | (refine' name_local ?zF ?z1 ?z2 ?z3 ?z4 ?_; (case zF => assumption); (case z1 => rfl); (case z2 => rfl); (case z3 => (first | rfl | assumption)); (case z4 => rfl)) | (refine' name_cell ?zN rfl rfl rfl ?zm ?zd rfl ?_; (case zN => assumption); (case zm => k_mem); (case zd => assumption)) | (refine' name_free ?zN rfl rfl rfl ?zm ?zd rfl rfl ?_; (case zN => assumption); (case zm => k_mem); (case zd => assumption)) | (refine' name_built ?zF ?zX ?zT ?ze ?zv ?zn ?_ ?zg ?zb ?zk ?zx ?zd; (case zF => k_asm); (case zX => k_asm); (case zT => k_asm); (case ze => k_is); (case zv => boot_by_name); (case zn => decide); (case zg => rfl); (case zb => rfl); (case zk => rfl); (case zx => rfl); (case zd => rfl))))) | walk1))))
  (rename Fr _ _ _ _ => lF)
  (rename News _ _ _ _ => lN)
  (refine' new_pair lF lN ?nz ?_)
  case nz => (rw [sizeLine_eq]; exact Nat.le_of_ble_eq_true rfl)
  intro t1 h13 ltt1 _ F9 N9
  clear lF lN
  (try dsimp only)
  (repeat' (first | (k_unfold; (try dsimp only)) | ((fail_if_success (with_reducible show wpAny _ _ (newTuple _) _ _ _)); (first | ((with_reducible show wpAny _ _ (eval (Expr.Name _ _) _) _ _ _); (k_here; k_dflt (first | (refine' name_local ?zF ?z1 ?z2 ?z3 ?z4 ?_; (case zF => assumption); (case z1 => rfl); (case z2 => rfl); (case z3 => (first | rfl | assumption)); (case z4 => rfl)) | (refine' name_cell ?zN rfl rfl rfl ?zm ?zd rfl ?_; (case zN => assumption); (case zm => k_mem); (case zd => assumption)) | (refine' name_free ?zN rfl rfl rfl ?zm ?zd rfl rfl ?_; (case zN => assumption); (case zm => k_mem); (case zd => assumption)) | (refine' name_built ?zF ?zX ?zT ?ze ?zv ?zn ?_ ?zg ?zb ?zk ?zx ?zd; (case zF => k_asm); (case zX => k_asm); (case zT => k_asm); (case ze => k_is); (case zv => boot_by_name); (case zn => decide); (case zg => rfl); (case zb => rfl); (case zk => rfl); (case zx => rfl); (case zd => rfl))))) | walk1))))
  (rename Fr _ _ _ _ => lF)
  (rename News _ _ _ _ => lN)
  (refine' new_pair lF lN ?nz ?_)
  case nz => (rw [sizeLine_eq]; exact Nat.le_of_ble_eq_true rfl)
  intro t2 h14 ltt2 _ F9 N9
  clear lF lN
  (try dsimp only)
  (repeat' (first | (k_unfold; (try dsimp only)) | ((fail_if_success (with_reducible show wpAny _ _ (newTuple _) _ _ _)); (first | ((with_reducible show wpAny _ _ (eval (Expr.Name _ _) _) _ _ _); (k_here; k_dflt (first | (refine' name_local ?zF ?z1 ?z2 ?z3 ?z4 ?_; (case zF => assumption); (case z1 => rfl); (case z2 => rfl); (case z3 => (first | rfl | assumption)); (case z4 => rfl)) | (refine' name_cell ?zN rfl rfl rfl ?zm ?zd rfl ?_; (case zN => assumption); (case zm => k_mem); (case zd => assumption)) | (refine' name_free ?zN rfl rfl rfl ?zm ?zd rfl rfl ?_; (case zN => assumption); (case zm => k_mem); (case zd => assumption)) | (refine' name_built ?zF ?zX ?zT ?ze ?zv ?zn ?_ ?zg ?zb ?zk ?zx ?zd; (case zF => k_asm); (case zX => k_asm); (case zT => k_asm); (case ze => k_is); (case zv => boot_by_name); (case zn => decide); (case zg => rfl); (case zb => rfl); (case zk => rfl); (case zx => rfl); (case zd => rfl))))) | walk1))))
  (rename Fr _ _ _ _ => lF)
  (rename News _ _ _ _ => lN)
  (refine' new_pair lF lN ?nz ?_)
  case nz => (rw [sizeLine_eq]; exact Nat.le_of_ble_eq_true rfl)
  intro t3 h15 ltt3 _ F9 N9
  clear lF lN
  (try dsimp only)
  (repeat' (first | (k_unfold; (try dsimp only)) | ((fail_if_success (with_reducible show wpAny _ _ (newList _) _ _ _)); (first | ((with_reducible show wpAny _ _ (eval (Expr.Name _ _) _) _ _ _); (k_here; k_dflt (first | (refine' name_local ?zF ?z1 ?z2 ?z3 ?z4 ?_; (case zF => assumption); (case z1 => rfl); (case z2 => rfl); (case z3 => (first | rfl | assumption)); (case z4 => rfl)) | (refine' name_cell ?zN rfl rfl rfl ?zm ?zd rfl ?_; (case zN => assumption); (case zm => k_mem); (case zd => assumption)) | (refine' name_free ?zN rfl rfl rfl ?zm ?zd rfl rfl ?_; (case zN => assumption); (case zm => k_mem); (case zd => assumption)) | (refine' name_built ?zF ?zX ?zT ?ze ?zv ?zn ?_ ?zg ?zb ?zk ?zx ?zd; (case zF => k_asm); (case zX => k_asm); (case zT => k_asm); (case ze => k_is); (case zv => boot_by_name); (case zn => decide); (case zg => rfl); (case zb => rfl); (case zk => rfl); (case zx => rfl); (case zd => rfl))))) | walk1))))
  (rename Fr _ _ _ _ => lF)
  (rename News _ _ _ _ => lN)
  (refine' newList_K lF lN ?_ ?nz)
  case nz => (rw [sizeLine_eq]; exact Nat.le_of_ble_eq_true rfl)
  intro tl h16 F9 N9 lttl
  clear lF lN
  (try dsimp only)
  (repeat' (first | (k_unfold; (try dsimp only)) | ((fail_if_success (with_reducible show wpAny _ _ ((call (Value.ref 220) _)) _ _ _)); (first | ((with_reducible show wpAny _ _ (eval (Expr.Name _ _) _) _ _ _); (k_here; k_dflt (first | (refine' name_local ?zF ?z1 ?z2 ?z3 ?z4 ?_; (case zF => assumption); (case z1 => rfl); (case z2 => rfl); (case z3 => (first | rfl | assumption)); (case z4 => rfl)) | (refine' name_cell ?zN rfl rfl rfl ?zm ?zd rfl ?_; (case zN => assumption); (case zm => k_mem); (case zd => assumption)) | (refine' name_free ?zN rfl rfl rfl ?zm ?zd rfl rfl ?_; (case zN => assumption); (case zm => k_mem); (case zd => assumption)) | (refine' name_built ?zF ?zX ?zT ?ze ?zv ?zn ?_ ?zg ?zb ?zk ?zx ?zd; (case zF => k_asm); (case zX => k_asm); (case zT => k_asm); (case ze => k_is); (case zv => boot_by_name); (case zn => decide); (case zg => rfl); (case zb => rfl); (case zk => rfl); (case zx => rfl); (case zd => rfl))))) | walk1))))
  (rename Fr _ _ _ _ => lF)
  (rename News _ _ _ _ => lN)
  k_dflt (refine' call_cls ?k1 ?k2 ?k3 ?k4 ?k5 ?k6 ?_; (case k1 => k_asm); (case k2 => k_asm); (case k3 => k_asm); (case k4 => k_is); (case k5 => k_is); (case k6 => k_is))
  intro x dx h17 F9 N9 ltx ltd
  clear lF lN
  have pA : Plain (Str.ofString "A") := by unfold Plain; decide +kernel
  have pB : Plain (Str.ofString "B") := by unfold Plain; decide +kernel
  have pC : Plain (Str.ofString "C") := by unfold Plain; decide +kernel
  have pX : Plain (Str.ofString "x") := by unfold Plain; decide +kernel
  have n1 : @Ne Nat x dx := Ne.symm (Nat.ne_of_lt ltd)
  have n2 : @Ne Nat tl dx := Nat.ne_of_lt (ltx _ (.head _))
  have n3 : @Ne Nat t3 dx := Nat.ne_of_lt (ltx _ (.tail _ (.head _)))
  have n4 : @Ne Nat t2 dx := Nat.ne_of_lt (ltx _ (.tail _ (.tail _ (.head _))))
  have n5 : @Ne Nat t1 dx := Nat.ne_of_lt (ltx _ (.tail _ (.tail _ (.tail _ (.head _)))))
  have off0 : ∀ p ∈ [(ld, listOf #[Value.ref a3, Value.ref a4, Value.ref a5] 0), (R, LCg.lst [Value.ref a1, Value.ref a2, Value.ref a3, Value.ref a4, Value.ref a5]), (a1, LCg.lst v1), (a2, LCg.lst v2), (a3, LCg.lst v3), (a4, LCg.lst v4), (a5, LCg.lst v5), (L + 2, o2'), (L + 1, o1')], @LT.lt Nat _ p.1 t1 ∧ @LT.lt Nat _ p.1 t2 ∧ @LT.lt Nat _ p.1 t3 ∧ @LT.lt Nat _ p.1 tl ∧ @LT.lt Nat _ p.1 dx ∧ @LT.lt Nat _ p.1 x := fun p hp =>
    ⟨ltt1 p hp, ltt2 p (.tail _ hp), ltt3 p (.tail _ (.tail _ hp)), lttl p (.tail _ (.tail _ (.tail _ hp))), ltx p (.tail _ (.tail _ (.tail _ (.tail _ hp)))), Nat.lt_trans (ltx p (.tail _ (.tail _ (.tail _ (.tail _ hp))))) ltd⟩
  clear ltld ltt1 ltt2 ltt3 lttl ltx ltd
  (with_unfolding_all refine' ClA.use [(ld, listOf #[Value.ref a3, Value.ref a4, Value.ref a5] 0), (R, LCg.lst [Value.ref a1, Value.ref a2, Value.ref a3, Value.ref a4, Value.ref a5]), (a1, LCg.lst v1), (a2, LCg.lst v2), (a3, LCg.lst v3), (a4, LCg.lst v4), (a5, LCg.lst v5), (L + 2, o2'), (L + 1, o1')] (c_init x dx tl t1 t2 t3 (Str.ofString "A") (Str.ofString "x") (Str.ofString "B") (Str.ofString "x") (Str.ofString "C") (Str.ofString "x") _ _ _ _ _ _ 0 0 0 0 pA pX pB pX pC pX n1 n2 n5 n4 n3) ?clB F9 ?clX N9 ?clhT ?clhR ?clho ?clT ?clk ?cld ?clu ?_)
  (case clB => k_asm); (case clX => k_asm); (case clT => k_asm)
  case clhT => kcj_all
  case clhR => kcj_all
  case clho =>
    intro p hp q hq
    have z := off0 p hp
    simp only [List.mem_cons, List.not_mem_nil, or_false] at hq
    rcases hq with rfl | rfl | rfl | rfl | rfl | rfl
    · exact Nat.ne_of_lt z.2.2.2.2.2
    · exact Nat.ne_of_lt z.2.2.2.2.1
    · exact Nat.ne_of_lt z.2.2.2.1
    · exact Nat.ne_of_lt z.1
    · exact Nat.ne_of_lt z.2.1
    · exact Nat.ne_of_lt z.2.2.1
  case clk => rfl
  case cld => exact Nat.le_of_ble_eq_true rfl
  case clu => exact Nat.le_of_ble_eq_true rfl
  rintro v10 T10 h18 tk18 ⟨rfl, ht, hn, rfl⟩ F9' N9' o18
  have off1 := off_next (rest := [(ld, listOf #[Value.ref a3, Value.ref a4, Value.ref a5] 0), (R, LCg.lst [Value.ref a1, Value.ref a2, Value.ref a3, Value.ref a4, Value.ref a5]), (a1, LCg.lst v1), (a2, LCg.lst v2), (a3, LCg.lst v3), (a4, LCg.lst v4), (a5, LCg.lst v5), (L + 2, o2'), (L + 1, o1')]) (by
    intro p hp q hq
    have z := off0 p hp
    simp only [List.mem_cons, List.not_mem_nil, or_false] at hq
    rcases hq with rfl | rfl | rfl | rfl | rfl | rfl
    · exact Nat.ne_of_lt z.2.2.2.2.2
    · exact Nat.ne_of_lt z.2.2.2.2.1
    · exact Nat.ne_of_lt z.2.2.2.1
    · exact Nat.ne_of_lt z.1
    · exact Nat.ne_of_lt z.2.1
    · exact Nat.ne_of_lt z.2.2.1) o18
  clear off0 o18 F9 N9 n1 n2 n3 n4 n5 pA pB pC pX
  refine ⟨rfl, ?_⟩
  dsimp only
  (dsimp only [List.cons_append, List.nil_append] at N9')
  (repeat' (first | (k_unfold; (try dsimp only)) | ((fail_if_success (with_reducible show wpAny _ _ (exec (Stmt.For _ _ _ _ _) _) _ _ _)); (first | ((with_reducible show wpAny _ _ (eval (Expr.Name _ _) _) _ _ _); (k_here; k_dflt (first | (refine' name_local ?zF ?z1 ?z2 ?z3 ?z4 ?_; (case zF => assumption); (case z1 => rfl); (case z2 => rfl); (case z3 => (first | rfl | assumption)); (case z4 => rfl)) | (refine' name_cell ?zN rfl rfl rfl ?zm ?zd rfl ?_; (case zN => assumption); (case zm => k_mem); (case zd => assumption)) | (refine' name_free ?zN rfl rfl rfl ?zm ?zd rfl rfl ?_; (case zN => assumption); (case zm => k_mem); (case zd => assumption)) | (refine' name_built ?zF ?zX ?zT ?ze ?zv ?zn ?_ ?zg ?zb ?zk ?zx ?zd; (case zF => k_asm); (case zX => k_asm); (case zT => k_asm); (case ze => k_is); (case zv => boot_by_name); (case zn => decide); (case zg => rfl); (case zb => rfl); (case zk => rfl); (case zx => rfl); (case zd => rfl))))) | walk1))))
  obtain ⟨f1, e1⟩ : ∃ f, f = List.map (fun d => (d.fdiv 1).fmod 3) ds := ⟨_, rfl⟩
  obtain ⟨f2, e2⟩ : ∃ f, f = List.map (fun d => (d.fdiv 3).fmod 3) ds := ⟨_, rfl⟩
  obtain ⟨f3, e3⟩ : ∃ f, f = List.map (fun d => (d.fdiv 9).fmod 5) ds := ⟨_, rfl⟩
  obtain ⟨f4, e4⟩ : ∃ f, f = List.map (fun d => (d.fdiv 45).fmod 5) ds := ⟨_, rfl⟩
  obtain ⟨f5, e5⟩ : ∃ f, f = List.map (fun d => (d.fdiv 225).fmod 5) ds := ⟨_, rfl⟩
  rw [← e1] at i1
  rw [← e2] at i2
  rw [← e3] at i3
  rw [← e4] at i4
  rw [← e5] at i5
  have b1 : ∀ e ∈ f1, 0 ≤ e ∧ e ≤ 2 := by rw [e1]; exact (mod_bound ds 1).1
  have b2 : ∀ e ∈ f2, 0 ≤ e ∧ e ≤ 2 := by rw [e2]; exact (mod_bound ds 3).1
  have b3 : ∀ e ∈ f3, 0 ≤ e ∧ e ≤ 4 := by rw [e3]; exact (mod_bound ds 9).2
  have b4 : ∀ e ∈ f4, 0 ≤ e ∧ e ≤ 4 := by rw [e4]; exact (mod_bound ds 45).2
  have b5 : ∀ e ∈ f5, 0 ≤ e ∧ e ≤ 4 := by rw [e5]; exact (mod_bound ds 225).2
  obtain ⟨n, hn⟩ : ∃ n, n = ds.length := ⟨_, rfl⟩
  have len1 : f1.length = n := by rw [e1, hn, List.length_map]
  have len2 : f2.length = n := by rw [e2, hn, List.length_map]
  have len3 : f3.length = n := by rw [e3, hn, List.length_map]
  have len4 : f4.length = n := by rw [e4, hn, List.length_map]
  have len5 : f5.length = n := by rw [e5, hn, List.length_map]
  rw [← hn] at hds
  clear e1 e2 e3 e4 e5 hn
  have RW := rows_are len1 len2 b1 b2 b3 b4 b5
  (rename Fr _ _ _ _ => lF)
  (with_unfolding_all refine' For_turns lF ?_; k_whole)
  (repeat' (first | (k_unfold; (try dsimp only)) | ((fail_if_success (with_reducible show wpAny _ _ ((pyIter (Value.ref _))) _ _ _)); (first | ((with_reducible show wpAny _ _ (eval (Expr.Name _ _) _) _ _ _); (k_here; k_dflt (first | (refine' name_local ?zF ?z1 ?z2 ?z3 ?z4 ?_; (case zF => assumption); (case z1 => rfl); (case z2 => rfl); (case z3 => (first | rfl | assumption)); (case z4 => rfl)) | (refine' name_cell ?zN rfl rfl rfl ?zm ?zd rfl ?_; (case zN => assumption); (case zm => k_mem); (case zd => assumption)) | (refine' name_free ?zN rfl rfl rfl ?zm ?zd rfl rfl ?_; (case zN => assumption); (case zm => k_mem); (case zd => assumption)) | (refine' name_built ?zF ?zX ?zT ?ze ?zv ?zn ?_ ?zg ?zb ?zk ?zx ?zd; (case zF => k_asm); (case zX => k_asm); (case zT => k_asm); (case ze => k_is); (case zv => boot_by_name); (case zn => decide); (case zg => rfl); (case zb => rfl); (case zk => rfl); (case zx => rfl); (case zd => rfl))))) | walk1))))
  (rename Fr _ _ _ _ => lF)
  (rename News _ _ _ _ => lN)
  (rename IsRange _ _ _ _ _ _ _ _ => rgX)
  (with_unfolding_all refine' loop_range (n := n) (OutJ w x dx ld [(ld, listOf #[Value.ref a3, Value.ref a4, Value.ref a5] 0), (R, LCg.lst [Value.ref a1, Value.ref a2, Value.ref a3, Value.ref a4, Value.ref a5]), (a1, LCg.lst v1), (a2, LCg.lst v2), (a3, LCg.lst v3), (a4, LCg.lst v4), (a5, LCg.lst v5), (L + 2, o2'), (L + 1, o1')] [f1, f3, f4, f5] [both n f1 f2, f3, f4, f5]) ?lh rgX ?ls ?lr lF lN ?lJ ?lg ?lturn ?ldone)
  case lh => rfl
  case ls => exact small_one (by omega) (by omega) (by omega) (by omega)
  case lr => (rw [rangeSize_nat]; omega)
  case lg => intro it v; rfl
  case lJ => exact ⟨rfl, rfl, ⟨_, rfl⟩, TabJ.start off1⟩
  case lturn =>
    clear lF lN rgX off1
    rintro i t m₁ nw I oI h tk hi ltI lLI ⟨htab, hdesk, ⟨tle, hlet⟩, l, t1', t2', t3', ht', hn', nl, y1, z1, y2, z2, y3, z3, n1, n2, n3, rfl, off⟩ offI F1 N1
    refine assign_local F1 N1 rfl rfl fun h2 tk2 F2 N2 => ?_
    clear F1 N1
    (dsimp only [Tab, List.cons_append, List.nil_append] at N2)
    rw [Int.zero_add] at F2
    obtain ⟨m₂, hm₂⟩ : ∃ m₂ : Str → Option Value, m₂ = (fun y => if y = Str.ofString "turn" then some (Value.int (i : Int) t) else m₁ y) := ⟨_, rfl⟩
    rw [← hm₂] at F2
    have htab2 : m₂ (Str.ofString "table") = some (Value.ref x) := by rw [hm₂]; exact (if_neg (by decide)).trans htab
    have hdesk2 : m₂ (Str.ofString "desks") = some (Value.ref ld) := by rw [hm₂]; exact (if_neg (by decide)).trans hdesk
    have hturn2 : m₂ (Str.ofString "turn") = some (Value.int (i : Int) t) := by rw [hm₂]; exact if_pos rfl
    clear hm₂ htab hdesk hlet
    (repeat' (first | (k_unfold; (try dsimp only)) | ((fail_if_success (with_reducible show wpAny _ _ (eval (Expr.IfExp _ _ _ _) _) _ _ _)); (first | ((with_reducible show wpAny _ _ (eval (Expr.Name _ _) _) _ _ _); (k_here; k_dflt (first | (refine' name_local ?zF ?z1 ?z2 ?z3 ?z4 ?_; (case zF => assumption); (case z1 => rfl); (case z2 => rfl); (case z3 => (first | rfl | assumption)); (case z4 => rfl)) | (refine' name_cell ?zN rfl rfl rfl ?zm ?zd rfl ?_; (case zN => assumption); (case zm => k_mem); (case zd => assumption)) | (refine' name_free ?zN rfl rfl rfl ?zm ?zd rfl rfl ?_; (case zN => assumption); (case zm => k_mem); (case zd => assumption)) | (refine' name_built ?zF ?zX ?zT ?ze ?zv ?zn ?_ ?zg ?zb ?zk ?zx ?zd; (case zF => k_asm); (case zX => k_asm); (case zT => k_asm); (case ze => k_is); (case zv => boot_by_name); (case zn => decide); (case zg => rfl); (case zb => rfl); (case zk => rfl); (case zx => rfl); (case zd => rfl))))) | walk1))))
    refine wpAny_mono (?w : wpAny _ _ _ (TextEnd (lets (i + 1)) h2 s₁) _ _) (fun v s' hv => ?r) (fun _ _ e => e)
    case w =>
      (repeat' (first | (k_unfold; (try dsimp only)) | (k_end; wrow_close) | (first | ((with_reducible show wpAny _ _ (eval (Expr.Name _ _) _) _ _ _); (k_here; k_dflt (first | (refine' name_local ?zF ?z1 ?z2 ?z3 ?z4 ?_; (case zF => assumption); (case z1 => rfl); (case z2 => rfl); (case z3 => (first | rfl | assumption)); (case z4 => rfl)) | (refine' name_cell ?zN rfl rfl rfl ?zm ?zd rfl ?_; (case zN => assumption); (case zm => k_mem); (case zd => assumption)) | (refine' name_free ?zN rfl rfl rfl ?zm ?zd rfl rfl ?_; (case zN => assumption); (case zm => k_mem); (case zd => assumption)) | (refine' name_built ?zF ?zX ?zT ?ze ?zv ?zn ?_ ?zg ?zb ?zk ?zx ?zd; (case zF => k_asm); (case zX => k_asm); (case zT => k_asm); (case ze => k_is); (case zv => boot_by_name); (case zn => decide); (case zg => rfl); (case zb => rfl); (case zk => rfl); (case zx => rfl); (case zd => rfl))))) | walk1) | (dsimp only; (first | ((with_reducible show wpAny _ _ (eval (Expr.Name _ _) _) _ _ _); (k_here; k_dflt (first | (refine' name_local ?zF ?z1 ?z2 ?z3 ?z4 ?_; (case zF => assumption); (case z1 => rfl); (case z2 => rfl); (case z3 => (first | rfl | assumption)); (case z4 => rfl)) | (refine' name_cell ?zN rfl rfl rfl ?zm ?zd rfl ?_; (case zN => assumption); (case zm => k_mem); (case zd => assumption)) | (refine' name_free ?zN rfl rfl rfl ?zm ?zd rfl rfl ?_; (case zN => assumption); (case zm => k_mem); (case zd => assumption)) | (refine' name_built ?zF ?zX ?zT ?ze ?zv ?zn ?_ ?zg ?zb ?zk ?zx ?zd; (case zF => k_asm); (case zX => k_asm); (case zT => k_asm); (case ze => k_is); (case zv => boot_by_name); (case zn => decide); (case zg => rfl); (case zb => rfl); (case zk => rfl); (case zx => rfl); (case zd => rfl))))) | walk1)) | (leave1; walk_say "STEP leave1"; try dsimp only) | fail "no step"))
      · exact ⟨_, _, congrArg (fun z => Value.str z _) (lets_odd (by assumption)).symm, rfl⟩
      · exact ⟨_, _, congrArg (fun z => Value.str z _) (lets_even (by assumption)).symm, rfl⟩
    obtain ⟨tl', tk3, rfl, rfl⟩ := hv
    (repeat' (first | (k_unfold; (try dsimp only)) | ((fail_if_success (with_reducible show wpAny _ _ (exec (Stmt.For _ _ _ _ _) _) _ _ _)); (first | ((with_reducible show wpAny _ _ (eval (Expr.Name _ _) _) _ _ _); (k_here; k_dflt (first | (refine' name_local ?zF ?z1 ?z2 ?z3 ?z4 ?_; (case zF => assumption); (case z1 => rfl); (case z2 => rfl); (case z3 => (first | rfl | assumption)); (case z4 => rfl)) | (refine' name_cell ?zN rfl rfl rfl ?zm ?zd rfl ?_; (case zN => assumption); (case zm => k_mem); (case zd => assumption)) | (refine' name_free ?zN rfl rfl rfl ?zm ?zd rfl rfl ?_; (case zN => assumption); (case zm => k_mem); (case zd => assumption)) | (refine' name_built ?zF ?zX ?zT ?ze ?zv ?zn ?_ ?zg ?zb ?zk ?zx ?zd; (case zF => k_asm); (case zX => k_asm); (case zT => k_asm); (case ze => k_is); (case zv => boot_by_name); (case zn => decide); (case zg => rfl); (case zb => rfl); (case zk => rfl); (case zx => rfl); (case zd => rfl))))) | walk1))))
    (rename Fr _ _ _ _ => lF)
    (rename News _ _ _ _ => lN)
    have hg1 := gones_first [f1, f3, f4, f5] i
    have hg2 := gones_first [both n f1 f2, f3, f4, f5] i
    have hb0 := both_at len1 len2 i
    simp only [List.getD_cons_zero] at hg1 hg2
    have ea : f1.getD (i : Int).toNat 0 = ah [f1, f3, f4, f5] i 0 := by unfold ah; rw [Int.toNat_natCast]; omega
    have eb : f2.getD (i : Int).toNat 0 = bh [f1, f3, f4, f5] [both n f1 f2, f3, f4, f5] i 0 := by unfold bh ah; rw [Int.toNat_natCast]; omega
    rw [ea, eb] at lF
    obtain ⟨m₃, F3, htab3, hdesk3, hturn3, hlet3, hah3, hbh3⟩ : ∃ m₃ : Str → Option Value, Fr s₁.heap L _ m₃ ∧ m₃ (Str.ofString "table") = some (Value.ref x) ∧ m₃ (Str.ofString "desks") = some (Value.ref ld) ∧ (∃ t, m₃ (Str.ofString "turn") = some (Value.int (i : Int) t)) ∧ (∃ t, m₃ (Str.ofString "letters") = some (Value.str (lets (i + 1)) t)) ∧ (∃ t, m₃ (Str.ofString "ahead") = some (Value.int (ah [f1, f3, f4, f5] i 0) t)) ∧ (∃ t, m₃ (Str.ofString "behind") = some (Value.int (bh [f1, f3, f4, f5] [both n f1 f2, f3, f4, f5] i 0) t)) :=
      ⟨_, lF, htab2, hdesk2, ⟨_, hturn2⟩, ⟨_, rfl⟩, ⟨_, rfl⟩, ⟨_, rfl⟩⟩
    clear lF htab2 hdesk2 hturn2 ea eb hg1 hg2 hb0
    (with_unfolding_all refine' For_turns F3 ?_; k_whole)
    (repeat' (first | (k_unfold; (try dsimp only)) | ((fail_if_success (with_reducible show wpAny _ _ ((pyIter (Value.ref _))) _ _ _)); (first | ((with_reducible show wpAny _ _ (eval (Expr.Name _ _) _) _ _ _); (k_here; k_dflt (first | (refine' name_local ?zF ?z1 ?z2 ?z3 ?z4 ?_; (case zF => assumption); (case z1 => rfl); (case z2 => rfl); (case z3 => (first | rfl | assumption)); (case z4 => rfl)) | (refine' name_cell ?zN rfl rfl rfl ?zm ?zd rfl ?_; (case zN => assumption); (case zm => k_mem); (case zd => assumption)) | (refine' name_free ?zN rfl rfl rfl ?zm ?zd rfl rfl ?_; (case zN => assumption); (case zm => k_mem); (case zd => assumption)) | (refine' name_built ?zF ?zX ?zT ?ze ?zv ?zn ?_ ?zg ?zb ?zk ?zx ?zd; (case zF => k_asm); (case zX => k_asm); (case zT => k_asm); (case ze => k_is); (case zv => boot_by_name); (case zn => decide); (case zg => rfl); (case zb => rfl); (case zk => rfl); (case zx => rfl); (case zd => rfl))))) | walk1))))
    (rename Fr _ _ _ _ => lF)
    (rename News _ _ _ _ => lN)
    (rename IsRange _ _ _ _ _ _ _ _ => rgX)
    have offR : ∀ p ∈ [(ld, listOf #[Value.ref a3, Value.ref a4, Value.ref a5] 0), (R, LCg.lst [Value.ref a1, Value.ref a2, Value.ref a3, Value.ref a4, Value.ref a5]), (a1, LCg.lst v1), (a2, LCg.lst v2), (a3, LCg.lst v3), (a4, LCg.lst v4), (a5, LCg.lst v5), (L + 2, o2'), (L + 1, o1')], p.1 ≠ I := fun p hp => offI p (List.mem_append.mpr (.inr hp))
    (with_unfolding_all refine' loop_range (n := 3) (InJ w x dx ld ((I, oI) :: [(ld, listOf #[Value.ref a3, Value.ref a4, Value.ref a5] 0), (R, LCg.lst [Value.ref a1, Value.ref a2, Value.ref a3, Value.ref a4, Value.ref a5]), (a1, LCg.lst v1), (a2, LCg.lst v2), (a3, LCg.lst v3), (a4, LCg.lst v4), (a5, LCg.lst v5), (L + 2, o2'), (L + 1, o1')]) [f1, f3, f4, f5] [both n f1 f2, f3, f4, f5] i) ?lh rgX ?ls ?lr lF (tab_last (T := Tab w x dx l t1' t2' t3' ht' hn' nl (keyOf (3 * i)) (lineOf [f1, f3, f4, f5] [both n f1 f2, f3, f4, f5] (3 * i)) (keyOf (3 * i + 1)) (lineOf [f1, f3, f4, f5] [both n f1 f2, f3, f4, f5] (3 * i + 1)) (keyOf (3 * i + 2)) (lineOf [f1, f3, f4, f5] [both n f1 f2, f3, f4, f5] (3 * i + 2)) y1 z1 y2 z2 y3 z3 n1 n2 n3) (rest := [(ld, listOf #[Value.ref a3, Value.ref a4, Value.ref a5] 0), (R, LCg.lst [Value.ref a1, Value.ref a2, Value.ref a3, Value.ref a4, Value.ref a5]), (a1, LCg.lst v1), (a2, LCg.lst v2), (a3, LCg.lst v3), (a4, LCg.lst v4), (a5, LCg.lst v5), (L + 2, o2'), (L + 1, o1')]) lN) ?lJ ?lg ?lturn2 ?ldone2)
    case lh => rfl
    case ls => decide
    case lr => decide
    case lg => intro it v; rfl
    case lJ => exact ⟨htab3, hdesk3, hlet3, hturn3, hah3, hbh3, _, _, _, _, _, _, _, _, _, _, _, _, _, _, _, _, rfl, off_more offI off⟩
    case ldone2 =>
      clear lF lN rgX
      rintro m₄ nw h tk ⟨htab, hdesk, ⟨tle, hlet⟩, -, -, -, l, t1', t2', t3', ht', hn', nl, y1, z1, y2, z2, y3, z3, n1, n2, n3, rfl, off'⟩ F4 N4
      (repeat' (first | (k_unfold; (try dsimp only)) | (k_end; wrow_close) | (first | ((with_reducible show wpAny _ _ (eval (Expr.Name _ _) _) _ _ _); (k_here; k_dflt (first | (refine' name_local ?zF ?z1 ?z2 ?z3 ?z4 ?_; (case zF => assumption); (case z1 => rfl); (case z2 => rfl); (case z3 => (first | rfl | assumption)); (case z4 => rfl)) | (refine' name_cell ?zN rfl rfl rfl ?zm ?zd rfl ?_; (case zN => assumption); (case zm => k_mem); (case zd => assumption)) | (refine' name_free ?zN rfl rfl rfl ?zm ?zd rfl rfl ?_; (case zN => assumption); (case zm => k_mem); (case zd => assumption)) | (refine' name_built ?zF ?zX ?zT ?ze ?zv ?zn ?_ ?zg ?zb ?zk ?zx ?zd; (case zF => k_asm); (case zX => k_asm); (case zT => k_asm); (case ze => k_is); (case zv => boot_by_name); (case zn => decide); (case zg => rfl); (case zb => rfl); (case zk => rfl); (case zx => rfl); (case zd => rfl))))) | walk1) | (dsimp only; (first | ((with_reducible show wpAny _ _ (eval (Expr.Name _ _) _) _ _ _); (k_here; k_dflt (first | (refine' name_local ?zF ?z1 ?z2 ?z3 ?z4 ?_; (case zF => assumption); (case z1 => rfl); (case z2 => rfl); (case z3 => (first | rfl | assumption)); (case z4 => rfl)) | (refine' name_cell ?zN rfl rfl rfl ?zm ?zd rfl ?_; (case zN => assumption); (case zm => k_mem); (case zd => assumption)) | (refine' name_free ?zN rfl rfl rfl ?zm ?zd rfl rfl ?_; (case zN => assumption); (case zm => k_mem); (case zd => assumption)) | (refine' name_built ?zF ?zX ?zT ?ze ?zv ?zn ?_ ?zg ?zb ?zk ?zx ?zd; (case zF => k_asm); (case zX => k_asm); (case zT => k_asm); (case ze => k_is); (case zv => boot_by_name); (case zn => decide); (case zg => rfl); (case zb => rfl); (case zk => rfl); (case zx => rfl); (case zd => rfl))))) | walk1)) | (leave1; walk_say "STEP leave1"; try dsimp only) | fail "no step"))
      have eLet : letsAt (i + 1) = lets (i + 1) := if_neg (Nat.succ_ne_zero i)
      exact ⟨rfl, h, _, m₄, _, rfl, F4, tab_first N4, fun p hp => (List.mem_append.mp hp).elim (fun z => Ne.symm (off' (I, oI) (.head _) p z)) (offR p), htab, hdesk, ⟨_, by rw [eLet]; exact hlet⟩, _, _, _, _, _, _, _, _, _, _, _, _, _, _, _, _, rfl, fun p hp => off' p (.tail _ hp)⟩
    case lturn2 =>
      clear lF lN rgX htab3 hdesk3 hlet3 hturn3 hah3 hbh3 off offI offR
      rintro j t2' m₄ nw I2 oI2 h tk hj ltI2 lLI2 ⟨htab, hdesk, ⟨tl2, hlet⟩, ⟨tt2, hturn⟩, ⟨ta2, hah⟩, ⟨tb2, hbh⟩, l, u1, u2, u3, ht', hn', nl, y1, z1, y2, z2, y3, z3, n1, n2, n3, rfl, off⟩ offI2 F4 N4
      have eK := key_at (t := i) (k := j) (e := 3 * i + j) hj rfl
      have eL := line_at (r1 := [f1, f3, f4, f5]) (r2 := [both n f1 f2, f3, f4, f5]) (t := i) (k := j) (e := 3 * i + j) hj rfl
      have off2 := off_more (o := oI2) offI2 off
      rw [eK, eL] at N4 off2
      clear off eK eL
      obtain ⟨A, B, P, Q, A', B', P', Q', Rm, hEq, hQ, q0, q1, q2, q3, q4, q5, q6, q7, q8, q9, q10, q11, q12, q13, q14⟩ := desk_gen RW i j (by omega) (by
        rcases (show j = 0 ∨ j = 1 ∨ j = 2 by omega) with rfl | rfl | rfl
        · exact (getD_in b3 (by omega) i).2
        · exact (getD_in b4 (by omega) i).2
        · exact (getD_in b5 (by omega) i).2)
      rw [hEq.1] at hah
      rw [hEq.2.1] at hbh
      rw [hEq.2.2.1, hEq.2.2.2.1] at N4 off2
      have gK := lower_same i (i + 1) hj
      have gP := lower_plain (i + 1) hj
      have gN := letter_plain (i + 1) hj
      have gZ := letter_len (i + 1) hj
      have gZ1 := letter_len i hj
      have gL := lets_len (i + 1)
      have gO := key_others i hj
      have offR : ∀ p ∈ (I, oI) :: [(ld, listOf #[Value.ref a3, Value.ref a4, Value.ref a5] 0), (R, LCg.lst [Value.ref a1, Value.ref a2, Value.ref a3, Value.ref a4, Value.ref a5]), (a1, LCg.lst v1), (a2, LCg.lst v2), (a3, LCg.lst v3), (a4, LCg.lst v4), (a5, LCg.lst v5), (L + 2, o2'), (L + 1, o1')], p.1 ≠ I2 := fun p hp => offI2 p (List.mem_append.mpr (.inr hp))
      clear offI2
      refine assign_local F4 N4 rfl rfl fun h5 tk5 F5 N5 => ?_
      clear F4 N4
      (dsimp only [Tab, List.cons_append, List.nil_append] at N5)
      obtain ⟨ad, vd, fd, hget, hmem, hId, hlenD, hcell⟩ : ∃ (ad : Addr) (vd : List Value) (fd : List Int), (#[Value.ref a3, Value.ref a4, Value.ref a5])[(j : Int).toNat]? = some (Value.ref ad) ∧ (ad, LCg.lst vd) ∈ [(ld, listOf #[Value.ref a3, Value.ref a4, Value.ref a5] 0), (R, LCg.lst [Value.ref a1, Value.ref a2, Value.ref a3, Value.ref a4, Value.ref a5]), (a1, LCg.lst v1), (a2, LCg.lst v2), (a3, LCg.lst v3), (a4, LCg.lst v4), (a5, LCg.lst v5), (L + 2, o2'), (L + 1, o1')] ∧ IntsAre vd fd ∧ fd.length = n ∧ cell [f1, f3, f4, f5] (j + 1) i = fd.getD i 0 := by
        rcases (show j = 0 ∨ j = 1 ∨ j = 2 by omega) with rfl | rfl | rfl
        · exact ⟨a3, v3, f3, rfl, by k_mem, i3, len3, rfl⟩
        · exact ⟨a4, v4, f4, rfl, by k_mem, i4, len4, rfl⟩
        · exact ⟨a5, v5, f5, rfl, by k_mem, by assumption, len5, rfl⟩
      have eR : fd.getD (i : Int).toNat 0 = Rm := hcell.symm.trans hEq.2.2.2.2.2.2.2.2
      obtain ⟨ti, hti⟩ := ints_item hId (show i < fd.length by omega)
      rw [show fd.getD i 0 = Rm from eR] at hti
      have i0 : 0 ≤ (i : Int) := by omega
      have i62 : (i : Int) < 2 ^ 63 := by omega
      have j0 : 0 ≤ (j : Int) := by omega
      have j62 : (j : Int) < 2 ^ 63 := by omega
      rw [Int.zero_add] at F5
      (repeat' (first | (k_unfold; (try dsimp only)) | ((fail_if_success (with_reducible show wpAny _ _ ((call (Value.ref 59) _ _)) _ _ _)); (first | ((with_reducible show wpAny _ _ (eval (Expr.Name _ _) _) _ _ _); (k_here; k_dflt (first | (refine' name_local ?zF ?z1 ?z2 ?z3 ?z4 ?_; (case zF => assumption); (case z1 => rfl); (case z2 => rfl); (case z3 => (first | rfl | assumption)); (case z4 => rfl)) | (refine' name_cell ?zN rfl rfl rfl ?zm ?zd rfl ?_; (case zN => assumption); (case zm => k_mem); (case zd => assumption)) | (refine' name_free ?zN rfl rfl rfl ?zm ?zd rfl rfl ?_; (case zN => assumption); (case zm => k_mem); (case zd => assumption)) | (refine' name_built ?zF ?zX ?zT ?ze ?zv ?zn ?_ ?zg ?zb ?zk ?zx ?zd; (case zF => k_asm); (case zX => k_asm); (case zT => k_asm); (case ze => k_is); (case zv => boot_by_name); (case zn => decide); (case zg => rfl); (case zb => rfl); (case zk => rfl); (case zx => rfl); (case zd => rfl))))) | (k_here; (with_reducible show wpAny _ _ (call (Value.ref 52) [Value.str _ _, Value.int _ _]) _ _ _); k_dflt ((refine' Cl.use0 (c_mul _ _ _ ?clpa ?clpb) ?clB ?clF ?clX ?clN ?clT ?clk ?clp ?cld ?clu ?_); (case clB => k_asm); (case clF => k_asm); (case clX => k_asm); (case clN => k_asm); (case clT => k_asm); (case clk => first | exact rfl | assumption); (case clp => trivial); (case cld => ktr_room); (case clu => ktr_units); (case clpa => first | (with_reducible assumption) | omega); (case clpb => first | (with_reducible assumption) | omega);  intro v9 h9 tk9 hv9 ht9 F9 N9; (try dsimp only at ht9); (first | subst hv9 | (obtain ⟨t9, e9⟩ := hv9; subst e9)); (try dsimp only); (try k_fold); walk_say "CONTRACT")) | (k_here; (with_reducible show wpAny _ _ (call (Value.ref 80) [Value.str (sp _) _, Value.str (pad _ _) _]) _ _ _); k_dflt ((refine' Cl.use0 (c_iadd_sp _ _ _ _ _ ?clpa ?clpb ?clpc) ?clB ?clF ?clX ?clN ?clT ?clk ?clp ?cld ?clu ?_); (case clB => k_asm); (case clF => k_asm); (case clX => k_asm); (case clN => k_asm); (case clT => k_asm); (case clk => first | exact rfl | assumption); (case clp => trivial); (case cld => ktr_room); (case clu => ktr_units); (case clpa => first | (with_reducible assumption) | omega); (case clpb => first | (with_reducible assumption) | omega); (case clpc => first | (with_reducible assumption) | omega);  intro v9 h9 tk9 hv9 ht9 F9 N9; (try dsimp only at ht9); (first | subst hv9 | (obtain ⟨t9, e9⟩ := hv9; subst e9)); (try dsimp only); (try k_fold); walk_say "CONTRACT")) | (k_here; (with_reducible show wpAny _ _ (call (Value.ref 80) [Value.str (pad _ _) _, Value.str (sp _) _]) _ _ _); k_dflt ((refine' Cl.use0 (c_iadd_pad _ _ _ _ _ ?clpa ?clpb ?clpc) ?clB ?clF ?clX ?clN ?clT ?clk ?clp ?cld ?clu ?_); (case clB => k_asm); (case clF => k_asm); (case clX => k_asm); (case clN => k_asm); (case clT => k_asm); (case clk => first | exact rfl | assumption); (case clp => trivial); (case cld => ktr_room); (case clu => ktr_units); (case clpa => first | (with_reducible assumption) | omega); (case clpb => first | (with_reducible assumption) | omega); (case clpc => first | (with_reducible assumption) | omega);  intro v9 h9 tk9 hv9 ht9 F9 N9; (try dsimp only at ht9); (first | subst hv9 | (obtain ⟨t9, e9⟩ := hv9; subst e9)); (try dsimp only); (try k_fold); walk_say "CONTRACT")) | (k_here; (with_reducible show wpAny _ _ (call (Value.ref 87) [Value.int _ _, Value.int _ _]) _ _ _); k_dflt ((refine' Cl.use0 (c_isub _ _ _ _) ?clB ?clF ?clX ?clN ?clT ?clk ?clp ?cld ?clu ?_); (case clB => k_asm); (case clF => k_asm); (case clX => k_asm); (case clN => k_asm); (case clT => k_asm); (case clk => first | exact rfl | assumption); (case clp => trivial); (case cld => ktr_room); (case clu => ktr_units);  intro v9 h9 tk9 hv9 ht9 F9 N9; (try dsimp only at ht9); (first | subst hv9 | (obtain ⟨t9, e9⟩ := hv9; subst e9)); (try dsimp only); (try k_fold); walk_say "CONTRACT")) | (k_here; (with_reducible show wpAny _ _ (call (Value.ref 66) [Value.str (pad _ _) _, Value.str _ _]) _ _ _); k_dflt ((refine' Cl.use0 (c_indexOf _ _ _ _ ?clpa ?clpb) ?clB ?clF ?clX ?clN ?clT ?clk ?clp ?cld ?clu ?_); (case clB => k_asm); (case clF => k_asm); (case clX => k_asm); (case clN => k_asm); (case clT => k_asm); (case clk => first | exact rfl | assumption); (case clp => exact ⟨Nat.ne_of_gt (Nat.lt_of_lt_of_le (Nat.succ_pos _) (by assumption)), Nat.lt_succ_self _⟩); (case cld => ktr_room); (case clu => ktr_units); (case clpa => first | (with_reducible assumption) | omega); (case clpb => first | (with_reducible assumption) | omega);  intro v9 h9 tk9 hv9 ht9 F9 N9; (try dsimp only at ht9); (first | subst hv9 | (obtain ⟨t9, e9⟩ := hv9; subst e9)); (try dsimp only); (try k_fold); walk_say "CONTRACT")) | (k_here; (with_reducible show wpAny _ _ (call (Value.builtin "len") [Value.str (pad _ _) _]) _ _ _); k_dflt ((refine' len_pad ?lpa ?lpb ?_); (case lpa => assumption); (case lpb => assumption); intro _ _)) | walk1))))
      (rename Fr _ _ _ _ => lF)
      (rename News _ _ _ _ => lN)
      (refine' Cl.use ((I2, oI2) :: (I, oI) :: [(ld, listOf #[Value.ref a3, Value.ref a4, Value.ref a5] 0), (R, LCg.lst [Value.ref a1, Value.ref a2, Value.ref a3, Value.ref a4, Value.ref a5]), (a1, LCg.lst v1), (a2, LCg.lst v2), (a3, LCg.lst v3), (a4, LCg.lst v4), (a5, LCg.lst v5), (L + 2, o2'), (L + 1, o1')]) (c_getitem x dx l u1 u2 u3 ht' hn' nl (letter i j) (pad P Q) (keyOf (3 * i + j + 1)) (lineOf [f1, f3, f4, f5] [both n f1 f2, f3, f4, f5] (3 * i + j + 1)) (keyOf (3 * i + j + 2)) (lineOf [f1, f3, f4, f5] [both n f1 f2, f3, f4, f5] (3 * i + j + 2)) y1 z1 y2 z2 y3 z3 n1 n2 n3 (letter (i + 1) j) _ gK gP gZ gZ1) ?clB ?clF ?clX ?clN ?clhT ?clhR ?clho ?clT ?clk ?clp ?cld ?clu ?_; (case clB => k_asm); (case clF => k_asm); (case clX => k_asm); (case clN => k_asm); (case clhT => kcj_all); (case clhR => kcj_all); (case clho => exact off2); (case clT => k_asm); (case clk => rfl); (case clp => trivial); (case cld => ktr_room); (case clu => ktr_units))
      rintro v10 T10 h10 tk10 ⟨rfl, rfl⟩ ht10 F10 N10 -
      clear lF lN
      replace N10 := news_dup N10 hmem
      (dsimp only [Tab, List.cons_append, List.nil_append] at N10)
      (try dsimp only)
      (repeat' (first | (k_unfold; (try dsimp only)) | ((fail_if_success (with_reducible show wpAny _ _ ((subscriptTail _ _ (Value.ref _) (Value.int _ _))) _ _ _)); (first | ((with_reducible show wpAny _ _ (eval (Expr.Name _ _) _) _ _ _); (k_here; k_dflt (first | (refine' name_local ?zF ?z1 ?z2 ?z3 ?z4 ?_; (case zF => assumption); (case z1 => rfl); (case z2 => rfl); (case z3 => (first | rfl | assumption)); (case z4 => rfl)) | (refine' name_cell ?zN rfl rfl rfl ?zm ?zd rfl ?_; (case zN => assumption); (case zm => k_mem); (case zd => assumption)) | (refine' name_free ?zN rfl rfl rfl ?zm ?zd rfl rfl ?_; (case zN => assumption); (case zm => k_mem); (case zd => assumption)) | (refine' name_built ?zF ?zX ?zT ?ze ?zv ?zn ?_ ?zg ?zb ?zk ?zx ?zd; (case zF => k_asm); (case zX => k_asm); (case zT => k_asm); (case ze => k_is); (case zv => boot_by_name); (case zn => decide); (case zg => rfl); (case zb => rfl); (case zk => rfl); (case zx => rfl); (case zd => rfl))))) | (k_here; (with_reducible show wpAny _ _ (call (Value.ref 52) [Value.str _ _, Value.int _ _]) _ _ _); k_dflt ((refine' Cl.use0 (c_mul _ _ _ ?clpa ?clpb) ?clB ?clF ?clX ?clN ?clT ?clk ?clp ?cld ?clu ?_); (case clB => k_asm); (case clF => k_asm); (case clX => k_asm); (case clN => k_asm); (case clT => k_asm); (case clk => first | exact rfl | assumption); (case clp => trivial); (case cld => ktr_room); (case clu => ktr_units); (case clpa => first | (with_reducible assumption) | omega); (case clpb => first | (with_reducible assumption) | omega);  intro v9 h9 tk9 hv9 ht9 F9 N9; (try dsimp only at ht9); (first | subst hv9 | (obtain ⟨t9, e9⟩ := hv9; subst e9)); (try dsimp only); (try k_fold); walk_say "CONTRACT")) | (k_here; (with_reducible show wpAny _ _ (call (Value.ref 80) [Value.str (sp _) _, Value.str (pad _ _) _]) _ _ _); k_dflt ((refine' Cl.use0 (c_iadd_sp _ _ _ _ _ ?clpa ?clpb ?clpc) ?clB ?clF ?clX ?clN ?clT ?clk ?clp ?cld ?clu ?_); (case clB => k_asm); (case clF => k_asm); (case clX => k_asm); (case clN => k_asm); (case clT => k_asm); (case clk => first | exact rfl | assumption); (case clp => trivial); (case cld => ktr_room); (case clu => ktr_units); (case clpa => first | (with_reducible assumption) | omega); (case clpb => first | (with_reducible assumption) | omega); (case clpc => first | (with_reducible assumption) | omega);  intro v9 h9 tk9 hv9 ht9 F9 N9; (try dsimp only at ht9); (first | subst hv9 | (obtain ⟨t9, e9⟩ := hv9; subst e9)); (try dsimp only); (try k_fold); walk_say "CONTRACT")) | (k_here; (with_reducible show wpAny _ _ (call (Value.ref 80) [Value.str (pad _ _) _, Value.str (sp _) _]) _ _ _); k_dflt ((refine' Cl.use0 (c_iadd_pad _ _ _ _ _ ?clpa ?clpb ?clpc) ?clB ?clF ?clX ?clN ?clT ?clk ?clp ?cld ?clu ?_); (case clB => k_asm); (case clF => k_asm); (case clX => k_asm); (case clN => k_asm); (case clT => k_asm); (case clk => first | exact rfl | assumption); (case clp => trivial); (case cld => ktr_room); (case clu => ktr_units); (case clpa => first | (with_reducible assumption) | omega); (case clpb => first | (with_reducible assumption) | omega); (case clpc => first | (with_reducible assumption) | omega);  intro v9 h9 tk9 hv9 ht9 F9 N9; (try dsimp only at ht9); (first | subst hv9 | (obtain ⟨t9, e9⟩ := hv9; subst e9)); (try dsimp only); (try k_fold); walk_say "CONTRACT")) | (k_here; (with_reducible show wpAny _ _ (call (Value.ref 87) [Value.int _ _, Value.int _ _]) _ _ _); k_dflt ((refine' Cl.use0 (c_isub _ _ _ _) ?clB ?clF ?clX ?clN ?clT ?clk ?clp ?cld ?clu ?_); (case clB => k_asm); (case clF => k_asm); (case clX => k_asm); (case clN => k_asm); (case clT => k_asm); (case clk => first | exact rfl | assumption); (case clp => trivial); (case cld => ktr_room); (case clu => ktr_units);  intro v9 h9 tk9 hv9 ht9 F9 N9; (try dsimp only at ht9); (first | subst hv9 | (obtain ⟨t9, e9⟩ := hv9; subst e9)); (try dsimp only); (try k_fold); walk_say "CONTRACT")) | (k_here; (with_reducible show wpAny _ _ (call (Value.ref 66) [Value.str (pad _ _) _, Value.str _ _]) _ _ _); k_dflt ((refine' Cl.use0 (c_indexOf _ _ _ _ ?clpa ?clpb) ?clB ?clF ?clX ?clN ?clT ?clk ?clp ?cld ?clu ?_); (case clB => k_asm); (case clF => k_asm); (case clX => k_asm); (case clN => k_asm); (case clT => k_asm); (case clk => first | exact rfl | assumption); (case clp => exact ⟨Nat.ne_of_gt (Nat.lt_of_lt_of_le (Nat.succ_pos _) (by assumption)), Nat.lt_succ_self _⟩); (case cld => ktr_room); (case clu => ktr_units); (case clpa => first | (with_reducible assumption) | omega); (case clpb => first | (with_reducible assumption) | omega);  intro v9 h9 tk9 hv9 ht9 F9 N9; (try dsimp only at ht9); (first | subst hv9 | (obtain ⟨t9, e9⟩ := hv9; subst e9)); (try dsimp only); (try k_fold); walk_say "CONTRACT")) | (k_here; (with_reducible show wpAny _ _ (call (Value.builtin "len") [Value.str (pad _ _) _]) _ _ _); k_dflt ((refine' len_pad ?lpa ?lpb ?_); (case lpa => assumption); (case lpb => assumption); intro _ _)) | walk1))))
      (rename News _ _ _ _ => lN)
      (with_unfolding_all refine' item_at (l := ld) (items := #[Value.ref a3, Value.ref a4, Value.ref a5]) (k := 0) lN ?ia j0 j62 hget ?_ ?is)
      case ia => k_mem
      case is => rfl
      (try dsimp only)
      (repeat' (first | (k_unfold; (try dsimp only)) | ((fail_if_success (with_reducible show wpAny _ _ ((subscriptTail _ _ (Value.ref _) (Value.int _ _))) _ _ _)); (first | ((with_reducible show wpAny _ _ (eval (Expr.Name _ _) _) _ _ _); (k_here; k_dflt (first | (refine' name_local ?zF ?z1 ?z2 ?z3 ?z4 ?_; (case zF => assumption); (case z1 => rfl); (case z2 => rfl); (case z3 => (first | rfl | assumption)); (case z4 => rfl)) | (refine' name_cell ?zN rfl rfl rfl ?zm ?zd rfl ?_; (case zN => assumption); (case zm => k_mem); (case zd => assumption)) | (refine' name_free ?zN rfl rfl rfl ?zm ?zd rfl rfl ?_; (case zN => assumption); (case zm => k_mem); (case zd => assumption)) | (refine' name_built ?zF ?zX ?zT ?ze ?zv ?zn ?_ ?zg ?zb ?zk ?zx ?zd; (case zF => k_asm); (case zX => k_asm); (case zT => k_asm); (case ze => k_is); (case zv => boot_by_name); (case zn => decide); (case zg => rfl); (case zb => rfl); (case zk => rfl); (case zx => rfl); (case zd => rfl))))) | (k_here; (with_reducible show wpAny _ _ (call (Value.ref 52) [Value.str _ _, Value.int _ _]) _ _ _); k_dflt ((refine' Cl.use0 (c_mul _ _ _ ?clpa ?clpb) ?clB ?clF ?clX ?clN ?clT ?clk ?clp ?cld ?clu ?_); (case clB => k_asm); (case clF => k_asm); (case clX => k_asm); (case clN => k_asm); (case clT => k_asm); (case clk => first | exact rfl | assumption); (case clp => trivial); (case cld => ktr_room); (case clu => ktr_units); (case clpa => first | (with_reducible assumption) | omega); (case clpb => first | (with_reducible assumption) | omega);  intro v9 h9 tk9 hv9 ht9 F9 N9; (try dsimp only at ht9); (first | subst hv9 | (obtain ⟨t9, e9⟩ := hv9; subst e9)); (try dsimp only); (try k_fold); walk_say "CONTRACT")) | (k_here; (with_reducible show wpAny _ _ (call (Value.ref 80) [Value.str (sp _) _, Value.str (pad _ _) _]) _ _ _); k_dflt ((refine' Cl.use0 (c_iadd_sp _ _ _ _ _ ?clpa ?clpb ?clpc) ?clB ?clF ?clX ?clN ?clT ?clk ?clp ?cld ?clu ?_); (case clB => k_asm); (case clF => k_asm); (case clX => k_asm); (case clN => k_asm); (case clT => k_asm); (case clk => first | exact rfl | assumption); (case clp => trivial); (case cld => ktr_room); (case clu => ktr_units); (case clpa => first | (with_reducible assumption) | omega); (case clpb => first | (with_reducible assumption) | omega); (case clpc => first | (with_reducible assumption) | omega);  intro v9 h9 tk9 hv9 ht9 F9 N9; (try dsimp only at ht9); (first | subst hv9 | (obtain ⟨t9, e9⟩ := hv9; subst e9)); (try dsimp only); (try k_fold); walk_say "CONTRACT")) | (k_here; (with_reducible show wpAny _ _ (call (Value.ref 80) [Value.str (pad _ _) _, Value.str (sp _) _]) _ _ _); k_dflt ((refine' Cl.use0 (c_iadd_pad _ _ _ _ _ ?clpa ?clpb ?clpc) ?clB ?clF ?clX ?clN ?clT ?clk ?clp ?cld ?clu ?_); (case clB => k_asm); (case clF => k_asm); (case clX => k_asm); (case clN => k_asm); (case clT => k_asm); (case clk => first | exact rfl | assumption); (case clp => trivial); (case cld => ktr_room); (case clu => ktr_units); (case clpa => first | (with_reducible assumption) | omega); (case clpb => first | (with_reducible assumption) | omega); (case clpc => first | (with_reducible assumption) | omega);  intro v9 h9 tk9 hv9 ht9 F9 N9; (try dsimp only at ht9); (first | subst hv9 | (obtain ⟨t9, e9⟩ := hv9; subst e9)); (try dsimp only); (try k_fold); walk_say "CONTRACT")) | (k_here; (with_reducible show wpAny _ _ (call (Value.ref 87) [Value.int _ _, Value.int _ _]) _ _ _); k_dflt ((refine' Cl.use0 (c_isub _ _ _ _) ?clB ?clF ?clX ?clN ?clT ?clk ?clp ?cld ?clu ?_); (case clB => k_asm); (case clF => k_asm); (case clX => k_asm); (case clN => k_asm); (case clT => k_asm); (case clk => first | exact rfl | assumption); (case clp => trivial); (case cld => ktr_room); (case clu => ktr_units);  intro v9 h9 tk9 hv9 ht9 F9 N9; (try dsimp only at ht9); (first | subst hv9 | (obtain ⟨t9, e9⟩ := hv9; subst e9)); (try dsimp only); (try k_fold); walk_say "CONTRACT")) | (k_here; (with_reducible show wpAny _ _ (call (Value.ref 66) [Value.str (pad _ _) _, Value.str _ _]) _ _ _); k_dflt ((refine' Cl.use0 (c_indexOf _ _ _ _ ?clpa ?clpb) ?clB ?clF ?clX ?clN ?clT ?clk ?clp ?cld ?clu ?_); (case clB => k_asm); (case clF => k_asm); (case clX => k_asm); (case clN => k_asm); (case clT => k_asm); (case clk => first | exact rfl | assumption); (case clp => exact ⟨Nat.ne_of_gt (Nat.lt_of_lt_of_le (Nat.succ_pos _) (by assumption)), Nat.lt_succ_self _⟩); (case cld => ktr_room); (case clu => ktr_units); (case clpa => first | (with_reducible assumption) | omega); (case clpb => first | (with_reducible assumption) | omega);  intro v9 h9 tk9 hv9 ht9 F9 N9; (try dsimp only at ht9); (first | subst hv9 | (obtain ⟨t9, e9⟩ := hv9; subst e9)); (try dsimp only); (try k_fold); walk_say "CONTRACT")) | (k_here; (with_reducible show wpAny _ _ (call (Value.builtin "len") [Value.str (pad _ _) _]) _ _ _); k_dflt ((refine' len_pad ?lpa ?lpb ?_); (case lpa => assumption); (case lpb => assumption); intro _ _)) | walk1))))
      (with_unfolding_all refine' item_at (l := ad) (items := vd.toArray) (k := vd.length) lN ?ia i0 i62 hti ?_ ?is)
      case ia => exact .head _
      case is => rfl
      (try dsimp only)
      (repeat' (first | (k_unfold; (try dsimp only)) | ((fail_if_success (with_reducible show wpAny _ _ ((call (Value.ref 45) _ _)) _ _ _)); (first | ((with_reducible show wpAny _ _ (eval (Expr.Name _ _) _) _ _ _); (k_here; k_dflt (first | (refine' name_local ?zF ?z1 ?z2 ?z3 ?z4 ?_; (case zF => assumption); (case z1 => rfl); (case z2 => rfl); (case z3 => (first | rfl | assumption)); (case z4 => rfl)) | (refine' name_cell ?zN rfl rfl rfl ?zm ?zd rfl ?_; (case zN => assumption); (case zm => k_mem); (case zd => assumption)) | (refine' name_free ?zN rfl rfl rfl ?zm ?zd rfl rfl ?_; (case zN => assumption); (case zm => k_mem); (case zd => assumption)) | (refine' name_built ?zF ?zX ?zT ?ze ?zv ?zn ?_ ?zg ?zb ?zk ?zx ?zd; (case zF => k_asm); (case zX => k_asm); (case zT => k_asm); (case ze => k_is); (case zv => boot_by_name); (case zn => decide); (case zg => rfl); (case zb => rfl); (case zk => rfl); (case zx => rfl); (case zd => rfl))))) | (k_here; (with_reducible show wpAny _ _ (call (Value.ref 52) [Value.str _ _, Value.int _ _]) _ _ _); k_dflt ((refine' Cl.use0 (c_mul _ _ _ ?clpa ?clpb) ?clB ?clF ?clX ?clN ?clT ?clk ?clp ?cld ?clu ?_); (case clB => k_asm); (case clF => k_asm); (case clX => k_asm); (case clN => k_asm); (case clT => k_asm); (case clk => first | exact rfl | assumption); (case clp => trivial); (case cld => ktr_room); (case clu => ktr_units); (case clpa => first | (with_reducible assumption) | omega); (case clpb => first | (with_reducible assumption) | omega);  intro v9 h9 tk9 hv9 ht9 F9 N9; (try dsimp only at ht9); (first | subst hv9 | (obtain ⟨t9, e9⟩ := hv9; subst e9)); (try dsimp only); (try k_fold); walk_say "CONTRACT")) | (k_here; (with_reducible show wpAny _ _ (call (Value.ref 80) [Value.str (sp _) _, Value.str (pad _ _) _]) _ _ _); k_dflt ((refine' Cl.use0 (c_iadd_sp _ _ _ _ _ ?clpa ?clpb ?clpc) ?clB ?clF ?clX ?clN ?clT ?clk ?clp ?cld ?clu ?_); (case clB => k_asm); (case clF => k_asm); (case clX => k_asm); (case clN => k_asm); (case clT => k_asm); (case clk => first | exact rfl | assumption); (case clp => trivial); (case cld => ktr_room); (case clu => ktr_units); (case clpa => first | (with_reducible assumption) | omega); (case clpb => first | (with_reducible assumption) | omega); (case clpc => first | (with_reducible assumption) | omega);  intro v9 h9 tk9 hv9 ht9 F9 N9; (try dsimp only at ht9); (first | subst hv9 | (obtain ⟨t9, e9⟩ := hv9; subst e9)); (try dsimp only); (try k_fold); walk_say "CONTRACT")) | (k_here; (with_reducible show wpAny _ _ (call (Value.ref 80) [Value.str (pad _ _) _, Value.str (sp _) _]) _ _ _); k_dflt ((refine' Cl.use0 (c_iadd_pad _ _ _ _ _ ?clpa ?clpb ?clpc) ?clB ?clF ?clX ?clN ?clT ?clk ?clp ?cld ?clu ?_); (case clB => k_asm); (case clF => k_asm); (case clX => k_asm); (case clN => k_asm); (case clT => k_asm); (case clk => first | exact rfl | assumption); (case clp => trivial); (case cld => ktr_room); (case clu => ktr_units); (case clpa => first | (with_reducible assumption) | omega); (case clpb => first | (with_reducible assumption) | omega); (case clpc => first | (with_reducible assumption) | omega);  intro v9 h9 tk9 hv9 ht9 F9 N9; (try dsimp only at ht9); (first | subst hv9 | (obtain ⟨t9, e9⟩ := hv9; subst e9)); (try dsimp only); (try k_fold); walk_say "CONTRACT")) | (k_here; (with_reducible show wpAny _ _ (call (Value.ref 87) [Value.int _ _, Value.int _ _]) _ _ _); k_dflt ((refine' Cl.use0 (c_isub _ _ _ _) ?clB ?clF ?clX ?clN ?clT ?clk ?clp ?cld ?clu ?_); (case clB => k_asm); (case clF => k_asm); (case clX => k_asm); (case clN => k_asm); (case clT => k_asm); (case clk => first | exact rfl | assumption); (case clp => trivial); (case cld => ktr_room); (case clu => ktr_units);  intro v9 h9 tk9 hv9 ht9 F9 N9; (try dsimp only at ht9); (first | subst hv9 | (obtain ⟨t9, e9⟩ := hv9; subst e9)); (try dsimp only); (try k_fold); walk_say "CONTRACT")) | (k_here; (with_reducible show wpAny _ _ (call (Value.ref 66) [Value.str (pad _ _) _, Value.str _ _]) _ _ _); k_dflt ((refine' Cl.use0 (c_indexOf _ _ _ _ ?clpa ?clpb) ?clB ?clF ?clX ?clN ?clT ?clk ?clp ?cld ?clu ?_); (case clB => k_asm); (case clF => k_asm); (case clX => k_asm); (case clN => k_asm); (case clT => k_asm); (case clk => first | exact rfl | assumption); (case clp => exact ⟨Nat.ne_of_gt (Nat.lt_of_lt_of_le (Nat.succ_pos _) (by assumption)), Nat.lt_succ_self _⟩); (case cld => ktr_room); (case clu => ktr_units); (case clpa => first | (with_reducible assumption) | omega); (case clpb => first | (with_reducible assumption) | omega);  intro v9 h9 tk9 hv9 ht9 F9 N9; (try dsimp only at ht9); (first | subst hv9 | (obtain ⟨t9, e9⟩ := hv9; subst e9)); (try dsimp only); (try k_fold); walk_say "CONTRACT")) | (k_here; (with_reducible show wpAny _ _ (call (Value.builtin "len") [Value.str (pad _ _) _]) _ _ _); k_dflt ((refine' len_pad ?lpa ?lpb ?_); (case lpa => assumption); (case lpb => assumption); intro _ _)) | walk1))))
      (rename Fr _ _ _ _ => lF)
      (refine' Cl.use0 (c_strip3 _ _ P' Q' _ _ Rm q9 q10 q13 q14 hQ.1 hQ.2.1) ?clB ?clF ?clX ?clN ?clT ?clk ?clp ?cld ?clu ?_; (case clB => k_asm); (case clF => k_asm); (case clX => k_asm); (case clN => k_asm); (case clT => k_asm); (case clk => rfl); (case clp => trivial); (case cld => ktr_room); (case clu => ktr_units))
      rintro v11 h11 tk11 ⟨t11, rfl⟩ ht11 F11 N11
      clear lF lN
      (try dsimp only)
      (repeat' (first | (k_unfold; (try dsimp only)) | ((fail_if_success (with_reducible show wpAny _ _ ((call (Value.ref 73) _ _)) _ _ _)); (first | ((with_reducible show wpAny _ _ (eval (Expr.Name _ _) _) _ _ _); (k_here; k_dflt (first | (refine' name_local ?zF ?z1 ?z2 ?z3 ?z4 ?_; (case zF => assumption); (case z1 => rfl); (case z2 => rfl); (case z3 => (first | rfl | assumption)); (case z4 => rfl)) | (refine' name_cell ?zN rfl rfl rfl ?zm ?zd rfl ?_; (case zN => assumption); (case zm => k_mem); (case zd => assumption)) | (refine' name_free ?zN rfl rfl rfl ?zm ?zd rfl rfl ?_; (case zN => assumption); (case zm => k_mem); (case zd => assumption)) | (refine' name_built ?zF ?zX ?zT ?ze ?zv ?zn ?_ ?zg ?zb ?zk ?zx ?zd; (case zF => k_asm); (case zX => k_asm); (case zT => k_asm); (case ze => k_is); (case zv => boot_by_name); (case zn => decide); (case zg => rfl); (case zb => rfl); (case zk => rfl); (case zx => rfl); (case zd => rfl))))) | (k_here; (with_reducible show wpAny _ _ (call (Value.ref 52) [Value.str _ _, Value.int _ _]) _ _ _); k_dflt ((refine' Cl.use0 (c_mul _ _ _ ?clpa ?clpb) ?clB ?clF ?clX ?clN ?clT ?clk ?clp ?cld ?clu ?_); (case clB => k_asm); (case clF => k_asm); (case clX => k_asm); (case clN => k_asm); (case clT => k_asm); (case clk => first | exact rfl | assumption); (case clp => trivial); (case cld => ktr_room); (case clu => ktr_units); (case clpa => first | (with_reducible assumption) | omega); (case clpb => first | (with_reducible assumption) | omega);  intro v9 h9 tk9 hv9 ht9 F9 N9; (try dsimp only at ht9); (first | subst hv9 | (obtain ⟨t9, e9⟩ := hv9; subst e9)); (try dsimp only); (try k_fold); walk_say "CONTRACT")) | (k_here; (with_reducible show wpAny _ _ (call (Value.ref 80) [Value.str (sp _) _, Value.str (pad _ _) _]) _ _ _); k_dflt ((refine' Cl.use0 (c_iadd_sp _ _ _ _ _ ?clpa ?clpb ?clpc) ?clB ?clF ?clX ?clN ?clT ?clk ?clp ?cld ?clu ?_); (case clB => k_asm); (case clF => k_asm); (case clX => k_asm); (case clN => k_asm); (case clT => k_asm); (case clk => first | exact rfl | assumption); (case clp => trivial); (case cld => ktr_room); (case clu => ktr_units); (case clpa => first | (with_reducible assumption) | omega); (case clpb => first | (with_reducible assumption) | omega); (case clpc => first | (with_reducible assumption) | omega);  intro v9 h9 tk9 hv9 ht9 F9 N9; (try dsimp only at ht9); (first | subst hv9 | (obtain ⟨t9, e9⟩ := hv9; subst e9)); (try dsimp only); (try k_fold); walk_say "CONTRACT")) | (k_here; (with_reducible show wpAny _ _ (call (Value.ref 80) [Value.str (pad _ _) _, Value.str (sp _) _]) _ _ _); k_dflt ((refine' Cl.use0 (c_iadd_pad _ _ _ _ _ ?clpa ?clpb ?clpc) ?clB ?clF ?clX ?clN ?clT ?clk ?clp ?cld ?clu ?_); (case clB => k_asm); (case clF => k_asm); (case clX => k_asm); (case clN => k_asm); (case clT => k_asm); (case clk => first | exact rfl | assumption); (case clp => trivial); (case cld => ktr_room); (case clu => ktr_units); (case clpa => first | (with_reducible assumption) | omega); (case clpb => first | (with_reducible assumption) | omega); (case clpc => first | (with_reducible assumption) | omega);  intro v9 h9 tk9 hv9 ht9 F9 N9; (try dsimp only at ht9); (first | subst hv9 | (obtain ⟨t9, e9⟩ := hv9; subst e9)); (try dsimp only); (try k_fold); walk_say "CONTRACT")) | (k_here; (with_reducible show wpAny _ _ (call (Value.ref 87) [Value.int _ _, Value.int _ _]) _ _ _); k_dflt ((refine' Cl.use0 (c_isub _ _ _ _) ?clB ?clF ?clX ?clN ?clT ?clk ?clp ?cld ?clu ?_); (case clB => k_asm); (case clF => k_asm); (case clX => k_asm); (case clN => k_asm); (case clT => k_asm); (case clk => first | exact rfl | assumption); (case clp => trivial); (case cld => ktr_room); (case clu => ktr_units);  intro v9 h9 tk9 hv9 ht9 F9 N9; (try dsimp only at ht9); (first | subst hv9 | (obtain ⟨t9, e9⟩ := hv9; subst e9)); (try dsimp only); (try k_fold); walk_say "CONTRACT")) | (k_here; (with_reducible show wpAny _ _ (call (Value.ref 66) [Value.str (pad _ _) _, Value.str _ _]) _ _ _); k_dflt ((refine' Cl.use0 (c_indexOf _ _ _ _ ?clpa ?clpb) ?clB ?clF ?clX ?clN ?clT ?clk ?clp ?cld ?clu ?_); (case clB => k_asm); (case clF => k_asm); (case clX => k_asm); (case clN => k_asm); (case clT => k_asm); (case clk => first | exact rfl | assumption); (case clp => exact ⟨Nat.ne_of_gt (Nat.lt_of_lt_of_le (Nat.succ_pos _) (by assumption)), Nat.lt_succ_self _⟩); (case cld => ktr_room); (case clu => ktr_units); (case clpa => first | (with_reducible assumption) | omega); (case clpb => first | (with_reducible assumption) | omega);  intro v9 h9 tk9 hv9 ht9 F9 N9; (try dsimp only at ht9); (first | subst hv9 | (obtain ⟨t9, e9⟩ := hv9; subst e9)); (try dsimp only); (try k_fold); walk_say "CONTRACT")) | (k_here; (with_reducible show wpAny _ _ (call (Value.builtin "len") [Value.str (pad _ _) _]) _ _ _); k_dflt ((refine' len_pad ?lpa ?lpb ?_); (case lpa => assumption); (case lpb => assumption); intro _ _)) | walk1))))
      (rename Fr _ _ _ _ => lF)
      (rename News _ _ _ _ => lN)
      (refine' Cl.use ((I2, oI2) :: (I, oI) :: [(ld, listOf #[Value.ref a3, Value.ref a4, Value.ref a5] 0), (R, LCg.lst [Value.ref a1, Value.ref a2, Value.ref a3, Value.ref a4, Value.ref a5]), (a1, LCg.lst v1), (a2, LCg.lst v2), (a3, LCg.lst v3), (a4, LCg.lst v4), (a5, LCg.lst v5), (L + 2, o2'), (L + 1, o1')]) (c_setitem x dx l u1 u2 u3 ht' hn' nl (letter i j) (pad P Q) (keyOf (3 * i + j + 1)) (lineOf [f1, f3, f4, f5] [both n f1 f2, f3, f4, f5] (3 * i + j + 1)) (keyOf (3 * i + j + 2)) (lineOf [f1, f3, f4, f5] [both n f1 f2, f3, f4, f5] (3 * i + j + 2)) y1 z1 y2 z2 y3 z3 n1 n2 n3 (letter (i + 1) j) (pad P' Q') _ _ gK gO.1 gO.2.1 gP gN (pad_plain _ _) gZ gZ1 gO.2.2.1 gO.2.2.2) ?clB ?clF ?clX ?clN ?clhT ?clhR ?clho ?clT ?clk ?clp ?cld ?clu ?_; (case clB => k_asm); (case clF => k_asm); (case clX => k_asm); (case clN => k_asm); (case clhT => kcj_all); (case clhR => kcj_all); (case clho => exact off2); (case clT => k_asm); (case clk => rfl); (case clp => trivial); (case cld => ktr_room); (case clu => ktr_units))
      rintro v12 T12 h12 tk12 ⟨rfl, u4, nl', n4, rfl⟩ ht12 F12 N12 o12
      have off3 := off_next off2 o12
      clear lF lN off2 o12
      (dsimp only [Tab, List.cons_append, List.nil_append] at N12)
      (try dsimp only)
      dsimp only at ht12
      clear ht11 ht10
      (repeat' (first | (k_unfold; (try dsimp only)) | ((fail_if_success (with_reducible show wpAny _ _ ((call (Value.ref 66) _ _)) _ _ _)); (first | ((with_reducible show wpAny _ _ (eval (Expr.Name _ _) _) _ _ _); (k_here; k_dflt (first | (refine' name_local ?zF ?z1 ?z2 ?z3 ?z4 ?_; (case zF => assumption); (case z1 => rfl); (case z2 => rfl); (case z3 => (first | rfl | assumption)); (case z4 => rfl)) | (refine' name_cell ?zN rfl rfl rfl ?zm ?zd rfl ?_; (case zN => assumption); (case zm => k_mem); (case zd => assumption)) | (refine' name_free ?zN rfl rfl rfl ?zm ?zd rfl rfl ?_; (case zN => assumption); (case zm => k_mem); (case zd => assumption)) | (refine' name_built ?zF ?zX ?zT ?ze ?zv ?zn ?_ ?zg ?zb ?zk ?zx ?zd; (case zF => k_asm); (case zX => k_asm); (case zT => k_asm); (case ze => k_is); (case zv => boot_by_name); (case zn => decide); (case zg => rfl); (case zb => rfl); (case zk => rfl); (case zx => rfl); (case zd => rfl))))) | (k_here; (with_reducible show wpAny _ _ (call (Value.ref 52) [Value.str _ _, Value.int _ _]) _ _ _); k_dflt ((refine' Cl.use0 (c_mul _ _ _ ?clpa ?clpb) ?clB ?clF ?clX ?clN ?clT ?clk ?clp ?cld ?clu ?_); (case clB => k_asm); (case clF => k_asm); (case clX => k_asm); (case clN => k_asm); (case clT => k_asm); (case clk => first | exact rfl | assumption); (case clp => trivial); (case cld => ktr_room); (case clu => ktr_units); (case clpa => first | (with_reducible assumption) | omega); (case clpb => first | (with_reducible assumption) | omega);  intro v9 h9 tk9 hv9 ht9 F9 N9; (try dsimp only at ht9); (first | subst hv9 | (obtain ⟨t9, e9⟩ := hv9; subst e9)); (try dsimp only); (try k_fold); walk_say "CONTRACT")) | (k_here; (with_reducible show wpAny _ _ (call (Value.ref 80) [Value.str (sp _) _, Value.str (pad _ _) _]) _ _ _); k_dflt ((refine' Cl.use0 (c_iadd_sp _ _ _ _ _ ?clpa ?clpb ?clpc) ?clB ?clF ?clX ?clN ?clT ?clk ?clp ?cld ?clu ?_); (case clB => k_asm); (case clF => k_asm); (case clX => k_asm); (case clN => k_asm); (case clT => k_asm); (case clk => first | exact rfl | assumption); (case clp => trivial); (case cld => ktr_room); (case clu => ktr_units); (case clpa => first | (with_reducible assumption) | omega); (case clpb => first | (with_reducible assumption) | omega); (case clpc => first | (with_reducible assumption) | omega);  intro v9 h9 tk9 hv9 ht9 F9 N9; (try dsimp only at ht9); (first | subst hv9 | (obtain ⟨t9, e9⟩ := hv9; subst e9)); (try dsimp only); (try k_fold); walk_say "CONTRACT")) | (k_here; (with_reducible show wpAny _ _ (call (Value.ref 80) [Value.str (pad _ _) _, Value.str (sp _) _]) _ _ _); k_dflt ((refine' Cl.use0 (c_iadd_pad _ _ _ _ _ ?clpa ?clpb ?clpc) ?clB ?clF ?clX ?clN ?clT ?clk ?clp ?cld ?clu ?_); (case clB => k_asm); (case clF => k_asm); (case clX => k_asm); (case clN => k_asm); (case clT => k_asm); (case clk => first | exact rfl | assumption); (case clp => trivial); (case cld => ktr_room); (case clu => ktr_units); (case clpa => first | (with_reducible assumption) | omega); (case clpb => first | (with_reducible assumption) | omega); (case clpc => first | (with_reducible assumption) | omega);  intro v9 h9 tk9 hv9 ht9 F9 N9; (try dsimp only at ht9); (first | subst hv9 | (obtain ⟨t9, e9⟩ := hv9; subst e9)); (try dsimp only); (try k_fold); walk_say "CONTRACT")) | (k_here; (with_reducible show wpAny _ _ (call (Value.ref 87) [Value.int _ _, Value.int _ _]) _ _ _); k_dflt ((refine' Cl.use0 (c_isub _ _ _ _) ?clB ?clF ?clX ?clN ?clT ?clk ?clp ?cld ?clu ?_); (case clB => k_asm); (case clF => k_asm); (case clX => k_asm); (case clN => k_asm); (case clT => k_asm); (case clk => first | exact rfl | assumption); (case clp => trivial); (case cld => ktr_room); (case clu => ktr_units);  intro v9 h9 tk9 hv9 ht9 F9 N9; (try dsimp only at ht9); (first | subst hv9 | (obtain ⟨t9, e9⟩ := hv9; subst e9)); (try dsimp only); (try k_fold); walk_say "CONTRACT")) | (k_here; (with_reducible show wpAny _ _ (call (Value.ref 66) [Value.str (pad _ _) _, Value.str _ _]) _ _ _); k_dflt ((refine' Cl.use0 (c_indexOf _ _ _ _ ?clpa ?clpb) ?clB ?clF ?clX ?clN ?clT ?clk ?clp ?cld ?clu ?_); (case clB => k_asm); (case clF => k_asm); (case clX => k_asm); (case clN => k_asm); (case clT => k_asm); (case clk => first | exact rfl | assumption); (case clp => exact ⟨Nat.ne_of_gt (Nat.lt_of_lt_of_le (Nat.succ_pos _) (by assumption)), Nat.lt_succ_self _⟩); (case cld => ktr_room); (case clu => ktr_units); (case clpa => first | (with_reducible assumption) | omega); (case clpb => first | (with_reducible assumption) | omega);  intro v9 h9 tk9 hv9 ht9 F9 N9; (try dsimp only at ht9); (first | subst hv9 | (obtain ⟨t9, e9⟩ := hv9; subst e9)); (try dsimp only); (try k_fold); walk_say "CONTRACT")) | (k_here; (with_reducible show wpAny _ _ (call (Value.builtin "len") [Value.str (pad _ _) _]) _ _ _); k_dflt ((refine' len_pad ?lpa ?lpb ?_); (case lpa => assumption); (case lpb => assumption); intro _ _)) | walk1))))
      -- M1
      (repeat' (first | (k_unfold; (try dsimp only)) | ((fail_if_success (with_reducible show wpAny _ _ ((call (Value.ref 87) _ _)) _ _ _)); (first | ((with_reducible show wpAny _ _ (eval (Expr.Name _ _) _) _ _ _); (k_here; k_dflt (first | (refine' name_local ?zF ?z1 ?z2 ?z3 ?z4 ?_; (case zF => assumption); (case z1 => rfl); (case z2 => rfl); (case z3 => (first | rfl | assumption)); (case z4 => rfl)) | (refine' name_cell ?zN rfl rfl rfl ?zm ?zd rfl ?_; (case zN => assumption); (case zm => k_mem); (case zd => assumption)) | (refine' name_free ?zN rfl rfl rfl ?zm ?zd rfl rfl ?_; (case zN => assumption); (case zm => k_mem); (case zd => assumption)) | (refine' name_built ?zF ?zX ?zT ?ze ?zv ?zn ?_ ?zg ?zb ?zk ?zx ?zd; (case zF => k_asm); (case zX => k_asm); (case zT => k_asm); (case ze => k_is); (case zv => boot_by_name); (case zn => decide); (case zg => rfl); (case zb => rfl); (case zk => rfl); (case zx => rfl); (case zd => rfl))))) | (k_here; (with_reducible show wpAny _ _ (call (Value.ref 52) [Value.str _ _, Value.int _ _]) _ _ _); k_dflt ((refine' Cl.use0 (c_mul _ _ _ ?clpa ?clpb) ?clB ?clF ?clX ?clN ?clT ?clk ?clp ?cld ?clu ?_); (case clB => k_asm); (case clF => k_asm); (case clX => k_asm); (case clN => k_asm); (case clT => k_asm); (case clk => first | exact rfl | assumption); (case clp => trivial); (case cld => ktr_room); (case clu => ktr_units); (case clpa => first | (with_reducible assumption) | omega); (case clpb => first | (with_reducible assumption) | omega);  intro v9 h9 tk9 hv9 ht9 F9 N9; (try dsimp only at ht9); (first | subst hv9 | (obtain ⟨t9, e9⟩ := hv9; subst e9)); (try dsimp only); (try k_fold); walk_say "CONTRACT")) | (k_here; (with_reducible show wpAny _ _ (call (Value.ref 80) [Value.str (sp _) _, Value.str (pad _ _) _]) _ _ _); k_dflt ((refine' Cl.use0 (c_iadd_sp _ _ _ _ _ ?clpa ?clpb ?clpc) ?clB ?clF ?clX ?clN ?clT ?clk ?clp ?cld ?clu ?_); (case clB => k_asm); (case clF => k_asm); (case clX => k_asm); (case clN => k_asm); (case clT => k_asm); (case clk => first | exact rfl | assumption); (case clp => trivial); (case cld => ktr_room); (case clu => ktr_units); (case clpa => first | (with_reducible assumption) | omega); (case clpb => first | (with_reducible assumption) | omega); (case clpc => first | (with_reducible assumption) | omega);  intro v9 h9 tk9 hv9 ht9 F9 N9; (try dsimp only at ht9); (first | subst hv9 | (obtain ⟨t9, e9⟩ := hv9; subst e9)); (try dsimp only); (try k_fold); walk_say "CONTRACT")) | (k_here; (with_reducible show wpAny _ _ (call (Value.ref 80) [Value.str (pad _ _) _, Value.str (sp _) _]) _ _ _); k_dflt ((refine' Cl.use0 (c_iadd_pad _ _ _ _ _ ?clpa ?clpb ?clpc) ?clB ?clF ?clX ?clN ?clT ?clk ?clp ?cld ?clu ?_); (case clB => k_asm); (case clF => k_asm); (case clX => k_asm); (case clN => k_asm); (case clT => k_asm); (case clk => first | exact rfl | assumption); (case clp => trivial); (case cld => ktr_room); (case clu => ktr_units); (case clpa => first | (with_reducible assumption) | omega); (case clpb => first | (with_reducible assumption) | omega); (case clpc => first | (with_reducible assumption) | omega);  intro v9 h9 tk9 hv9 ht9 F9 N9; (try dsimp only at ht9); (first | subst hv9 | (obtain ⟨t9, e9⟩ := hv9; subst e9)); (try dsimp only); (try k_fold); walk_say "CONTRACT")) | (k_here; (with_reducible show wpAny _ _ (call (Value.ref 87) [Value.int _ _, Value.int _ _]) _ _ _); k_dflt ((refine' Cl.use0 (c_isub _ _ _ _) ?clB ?clF ?clX ?clN ?clT ?clk ?clp ?cld ?clu ?_); (case clB => k_asm); (case clF => k_asm); (case clX => k_asm); (case clN => k_asm); (case clT => k_asm); (case clk => first | exact rfl | assumption); (case clp => trivial); (case cld => ktr_room); (case clu => ktr_units);  intro v9 h9 tk9 hv9 ht9 F9 N9; (try dsimp only at ht9); (first | subst hv9 | (obtain ⟨t9, e9⟩ := hv9; subst e9)); (try dsimp only); (try k_fold); walk_say "CONTRACT")) | (k_here; (with_reducible show wpAny _ _ (call (Value.ref 66) [Value.str (pad _ _) _, Value.str _ _]) _ _ _); k_dflt ((refine' Cl.use0 (c_indexOf _ _ _ _ ?clpa ?clpb) ?clB ?clF ?clX ?clN ?clT ?clk ?clp ?cld ?clu ?_); (case clB => k_asm); (case clF => k_asm); (case clX => k_asm); (case clN => k_asm); (case clT => k_asm); (case clk => first | exact rfl | assumption); (case clp => exact ⟨Nat.ne_of_gt (Nat.lt_of_lt_of_le (Nat.succ_pos _) (by assumption)), Nat.lt_succ_self _⟩); (case cld => ktr_room); (case clu => ktr_units); (case clpa => first | (with_reducible assumption) | omega); (case clpb => first | (with_reducible assumption) | omega);  intro v9 h9 tk9 hv9 ht9 F9 N9; (try dsimp only at ht9); (first | subst hv9 | (obtain ⟨t9, e9⟩ := hv9; subst e9)); (try dsimp only); (try k_fold); walk_say "CONTRACT")) | (k_here; (with_reducible show wpAny _ _ (call (Value.builtin "len") [Value.str (pad _ _) _]) _ _ _); k_dflt ((refine' len_pad ?lpa ?lpb ?_); (case lpa => assumption); (case lpb => assumption); intro _ _)) | walk1))))
      -- M2
      (repeat' (first | (k_unfold; (try dsimp only)) | ((fail_if_success (with_reducible show wpAny _ _ ((call (Value.builtin _) _)) _ _ _)); (first | ((with_reducible show wpAny _ _ (eval (Expr.Name _ _) _) _ _ _); (k_here; k_dflt (first | (refine' name_local ?zF ?z1 ?z2 ?z3 ?z4 ?_; (case zF => assumption); (case z1 => rfl); (case z2 => rfl); (case z3 => (first | rfl | assumption)); (case z4 => rfl)) | (refine' name_cell ?zN rfl rfl rfl ?zm ?zd rfl ?_; (case zN => assumption); (case zm => k_mem); (case zd => assumption)) | (refine' name_free ?zN rfl rfl rfl ?zm ?zd rfl rfl ?_; (case zN => assumption); (case zm => k_mem); (case zd => assumption)) | (refine' name_built ?zF ?zX ?zT ?ze ?zv ?zn ?_ ?zg ?zb ?zk ?zx ?zd; (case zF => k_asm); (case zX => k_asm); (case zT => k_asm); (case ze => k_is); (case zv => boot_by_name); (case zn => decide); (case zg => rfl); (case zb => rfl); (case zk => rfl); (case zx => rfl); (case zd => rfl))))) | (k_here; (with_reducible show wpAny _ _ (call (Value.ref 52) [Value.str _ _, Value.int _ _]) _ _ _); k_dflt ((refine' Cl.use0 (c_mul _ _ _ ?clpa ?clpb) ?clB ?clF ?clX ?clN ?clT ?clk ?clp ?cld ?clu ?_); (case clB => k_asm); (case clF => k_asm); (case clX => k_asm); (case clN => k_asm); (case clT => k_asm); (case clk => first | exact rfl | assumption); (case clp => trivial); (case cld => ktr_room); (case clu => ktr_units); (case clpa => first | (with_reducible assumption) | omega); (case clpb => first | (with_reducible assumption) | omega);  intro v9 h9 tk9 hv9 ht9 F9 N9; (try dsimp only at ht9); (first | subst hv9 | (obtain ⟨t9, e9⟩ := hv9; subst e9)); (try dsimp only); (try k_fold); walk_say "CONTRACT")) | (k_here; (with_reducible show wpAny _ _ (call (Value.ref 80) [Value.str (sp _) _, Value.str (pad _ _) _]) _ _ _); k_dflt ((refine' Cl.use0 (c_iadd_sp _ _ _ _ _ ?clpa ?clpb ?clpc) ?clB ?clF ?clX ?clN ?clT ?clk ?clp ?cld ?clu ?_); (case clB => k_asm); (case clF => k_asm); (case clX => k_asm); (case clN => k_asm); (case clT => k_asm); (case clk => first | exact rfl | assumption); (case clp => trivial); (case cld => ktr_room); (case clu => ktr_units); (case clpa => first | (with_reducible assumption) | omega); (case clpb => first | (with_reducible assumption) | omega); (case clpc => first | (with_reducible assumption) | omega);  intro v9 h9 tk9 hv9 ht9 F9 N9; (try dsimp only at ht9); (first | subst hv9 | (obtain ⟨t9, e9⟩ := hv9; subst e9)); (try dsimp only); (try k_fold); walk_say "CONTRACT")) | (k_here; (with_reducible show wpAny _ _ (call (Value.ref 80) [Value.str (pad _ _) _, Value.str (sp _) _]) _ _ _); k_dflt ((refine' Cl.use0 (c_iadd_pad _ _ _ _ _ ?clpa ?clpb ?clpc) ?clB ?clF ?clX ?clN ?clT ?clk ?clp ?cld ?clu ?_); (case clB => k_asm); (case clF => k_asm); (case clX => k_asm); (case clN => k_asm); (case clT => k_asm); (case clk => first | exact rfl | assumption); (case clp => trivial); (case cld => ktr_room); (case clu => ktr_units); (case clpa => first | (with_reducible assumption) | omega); (case clpb => first | (with_reducible assumption) | omega); (case clpc => first | (with_reducible assumption) | omega);  intro v9 h9 tk9 hv9 ht9 F9 N9; (try dsimp only at ht9); (first | subst hv9 | (obtain ⟨t9, e9⟩ := hv9; subst e9)); (try dsimp only); (try k_fold); walk_say "CONTRACT")) | (k_here; (with_reducible show wpAny _ _ (call (Value.ref 87) [Value.int _ _, Value.int _ _]) _ _ _); k_dflt ((refine' Cl.use0 (c_isub _ _ _ _) ?clB ?clF ?clX ?clN ?clT ?clk ?clp ?cld ?clu ?_); (case clB => k_asm); (case clF => k_asm); (case clX => k_asm); (case clN => k_asm); (case clT => k_asm); (case clk => first | exact rfl | assumption); (case clp => trivial); (case cld => ktr_room); (case clu => ktr_units);  intro v9 h9 tk9 hv9 ht9 F9 N9; (try dsimp only at ht9); (first | subst hv9 | (obtain ⟨t9, e9⟩ := hv9; subst e9)); (try dsimp only); (try k_fold); walk_say "CONTRACT")) | (k_here; (with_reducible show wpAny _ _ (call (Value.ref 66) [Value.str (pad _ _) _, Value.str _ _]) _ _ _); k_dflt ((refine' Cl.use0 (c_indexOf _ _ _ _ ?clpa ?clpb) ?clB ?clF ?clX ?clN ?clT ?clk ?clp ?cld ?clu ?_); (case clB => k_asm); (case clF => k_asm); (case clX => k_asm); (case clN => k_asm); (case clT => k_asm); (case clk => first | exact rfl | assumption); (case clp => exact ⟨Nat.ne_of_gt (Nat.lt_of_lt_of_le (Nat.succ_pos _) (by assumption)), Nat.lt_succ_self _⟩); (case cld => ktr_room); (case clu => ktr_units); (case clpa => first | (with_reducible assumption) | omega); (case clpb => first | (with_reducible assumption) | omega);  intro v9 h9 tk9 hv9 ht9 F9 N9; (try dsimp only at ht9); (first | subst hv9 | (obtain ⟨t9, e9⟩ := hv9; subst e9)); (try dsimp only); (try k_fold); walk_say "CONTRACT")) | (k_here; (with_reducible show wpAny _ _ (call (Value.builtin "len") [Value.str (pad _ _) _]) _ _ _); k_dflt ((refine' len_pad ?lpa ?lpb ?_); (case lpa => assumption); (case lpb => assumption); intro _ _)) | walk1))))
      -- M3
      (first | ((with_reducible show wpAny _ _ (eval (Expr.Name _ _) _) _ _ _); (k_here; k_dflt (first | (refine' name_local ?zF ?z1 ?z2 ?z3 ?z4 ?_; (case zF => assumption); (case z1 => rfl); (case z2 => rfl); (case z3 => (first | rfl | assumption)); (case z4 => rfl)) | (refine' name_cell ?zN rfl rfl rfl ?zm ?zd rfl ?_; (case zN => assumption); (case zm => k_mem); (case zd => assumption)) | (refine' name_free ?zN rfl rfl rfl ?zm ?zd rfl rfl ?_; (case zN => assumption); (case zm => k_mem); (case zd => assumption)) | (refine' name_built ?zF ?zX ?zT ?ze ?zv ?zn ?_ ?zg ?zb ?zk ?zx ?zd; (case zF => k_asm); (case zX => k_asm); (case zT => k_asm); (case ze => k_is); (case zv => boot_by_name); (case zn => decide); (case zg => rfl); (case zb => rfl); (case zk => rfl); (case zx => rfl); (case zd => rfl))))) | (k_here; (with_reducible show wpAny _ _ (call (Value.ref 52) [Value.str _ _, Value.int _ _]) _ _ _); k_dflt ((refine' Cl.use0 (c_mul _ _ _ ?clpa ?clpb) ?clB ?clF ?clX ?clN ?clT ?clk ?clp ?cld ?clu ?_); (case clB => k_asm); (case clF => k_asm); (case clX => k_asm); (case clN => k_asm); (case clT => k_asm); (case clk => first | exact rfl | assumption); (case clp => trivial); (case cld => ktr_room); (case clu => ktr_units); (case clpa => first | (with_reducible assumption) | omega); (case clpb => first | (with_reducible assumption) | omega);  intro v9 h9 tk9 hv9 ht9 F9 N9; (try dsimp only at ht9); (first | subst hv9 | (obtain ⟨t9, e9⟩ := hv9; subst e9)); (try dsimp only); (try k_fold); walk_say "CONTRACT")) | (k_here; (with_reducible show wpAny _ _ (call (Value.ref 80) [Value.str (sp _) _, Value.str (pad _ _) _]) _ _ _); k_dflt ((refine' Cl.use0 (c_iadd_sp _ _ _ _ _ ?clpa ?clpb ?clpc) ?clB ?clF ?clX ?clN ?clT ?clk ?clp ?cld ?clu ?_); (case clB => k_asm); (case clF => k_asm); (case clX => k_asm); (case clN => k_asm); (case clT => k_asm); (case clk => first | exact rfl | assumption); (case clp => trivial); (case cld => ktr_room); (case clu => ktr_units); (case clpa => first | (with_reducible assumption) | omega); (case clpb => first | (with_reducible assumption) | omega); (case clpc => first | (with_reducible assumption) | omega);  intro v9 h9 tk9 hv9 ht9 F9 N9; (try dsimp only at ht9); (first | subst hv9 | (obtain ⟨t9, e9⟩ := hv9; subst e9)); (try dsimp only); (try k_fold); walk_say "CONTRACT")) | (k_here; (with_reducible show wpAny _ _ (call (Value.ref 80) [Value.str (pad _ _) _, Value.str (sp _) _]) _ _ _); k_dflt ((refine' Cl.use0 (c_iadd_pad _ _ _ _ _ ?clpa ?clpb ?clpc) ?clB ?clF ?clX ?clN ?clT ?clk ?clp ?cld ?clu ?_); (case clB => k_asm); (case clF => k_asm); (case clX => k_asm); (case clN => k_asm); (case clT => k_asm); (case clk => first | exact rfl | assumption); (case clp => trivial); (case cld => ktr_room); (case clu => ktr_units); (case clpa => first | (with_reducible assumption) | omega); (case clpb => first | (with_reducible assumption) | omega); (case clpc => first | (with_reducible assumption) | omega);  intro v9 h9 tk9 hv9 ht9 F9 N9; (try dsimp only at ht9); (first | subst hv9 | (obtain ⟨t9, e9⟩ := hv9; subst e9)); (try dsimp only); (try k_fold); walk_say "CONTRACT")) | (k_here; (with_reducible show wpAny _ _ (call (Value.ref 87) [Value.int _ _, Value.int _ _]) _ _ _); k_dflt ((refine' Cl.use0 (c_isub _ _ _ _) ?clB ?clF ?clX ?clN ?clT ?clk ?clp ?cld ?clu ?_); (case clB => k_asm); (case clF => k_asm); (case clX => k_asm); (case clN => k_asm); (case clT => k_asm); (case clk => first | exact rfl | assumption); (case clp => trivial); (case cld => ktr_room); (case clu => ktr_units);  intro v9 h9 tk9 hv9 ht9 F9 N9; (try dsimp only at ht9); (first | subst hv9 | (obtain ⟨t9, e9⟩ := hv9; subst e9)); (try dsimp only); (try k_fold); walk_say "CONTRACT")) | (k_here; (with_reducible show wpAny _ _ (call (Value.ref 66) [Value.str (pad _ _) _, Value.str _ _]) _ _ _); k_dflt ((refine' Cl.use0 (c_indexOf _ _ _ _ ?clpa ?clpb) ?clB ?clF ?clX ?clN ?clT ?clk ?clp ?cld ?clu ?_); (case clB => k_asm); (case clF => k_asm); (case clX => k_asm); (case clN => k_asm); (case clT => k_asm); (case clk => first | exact rfl | assumption); (case clp => exact ⟨Nat.ne_of_gt (Nat.lt_of_lt_of_le (Nat.succ_pos _) (by assumption)), Nat.lt_succ_self _⟩); (case cld => ktr_room); (case clu => ktr_units); (case clpa => first | (with_reducible assumption) | omega); (case clpb => first | (with_reducible assumption) | omega);  intro v9 h9 tk9 hv9 ht9 F9 N9; (try dsimp only at ht9); (first | subst hv9 | (obtain ⟨t9, e9⟩ := hv9; subst e9)); (try dsimp only); (try k_fold); walk_say "CONTRACT")) | (k_here; (with_reducible show wpAny _ _ (call (Value.builtin "len") [Value.str (pad _ _) _]) _ _ _); k_dflt ((refine' len_pad ?lpa ?lpb ?_); (case lpa => assumption); (case lpb => assumption); intro _ _)) | walk1)
      -- M4
      (repeat' (first | (k_unfold; (try dsimp only)) | ((fail_if_success (with_reducible show wpAny _ _ ((call (Value.ref 999) _ _)) _ _ _)); (first | ((with_reducible show wpAny _ _ (eval (Expr.Name _ _) _) _ _ _); (k_here; k_dflt (first | (refine' name_local ?zF ?z1 ?z2 ?z3 ?z4 ?_; (case zF => assumption); (case z1 => rfl); (case z2 => rfl); (case z3 => (first | rfl | assumption)); (case z4 => rfl)) | (refine' name_cell ?zN rfl rfl rfl ?zm ?zd rfl ?_; (case zN => assumption); (case zm => k_mem); (case zd => assumption)) | (refine' name_free ?zN rfl rfl rfl ?zm ?zd rfl rfl ?_; (case zN => assumption); (case zm => k_mem); (case zd => assumption)) | (refine' name_built ?zF ?zX ?zT ?ze ?zv ?zn ?_ ?zg ?zb ?zk ?zx ?zd; (case zF => k_asm); (case zX => k_asm); (case zT => k_asm); (case ze => k_is); (case zv => boot_by_name); (case zn => decide); (case zg => rfl); (case zb => rfl); (case zk => rfl); (case zx => rfl); (case zd => rfl))))) | (k_here; (with_reducible show wpAny _ _ (call (Value.ref 52) [Value.str _ _, Value.int _ _]) _ _ _); k_dflt ((refine' Cl.use0 (c_mul _ _ _ ?clpa ?clpb) ?clB ?clF ?clX ?clN ?clT ?clk ?clp ?cld ?clu ?_); (case clB => k_asm); (case clF => k_asm); (case clX => k_asm); (case clN => k_asm); (case clT => k_asm); (case clk => first | exact rfl | assumption); (case clp => trivial); (case cld => ktr_room); (case clu => ktr_units); (case clpa => first | (with_reducible assumption) | omega); (case clpb => first | (with_reducible assumption) | omega);  intro v9 h9 tk9 hv9 ht9 F9 N9; (try dsimp only at ht9); (first | subst hv9 | (obtain ⟨t9, e9⟩ := hv9; subst e9)); (try dsimp only); (try k_fold); walk_say "CONTRACT")) | (k_here; (with_reducible show wpAny _ _ (call (Value.ref 80) [Value.str (sp _) _, Value.str (pad _ _) _]) _ _ _); k_dflt ((refine' Cl.use0 (c_iadd_sp _ _ _ _ _ ?clpa ?clpb ?clpc) ?clB ?clF ?clX ?clN ?clT ?clk ?clp ?cld ?clu ?_); (case clB => k_asm); (case clF => k_asm); (case clX => k_asm); (case clN => k_asm); (case clT => k_asm); (case clk => first | exact rfl | assumption); (case clp => trivial); (case cld => ktr_room); (case clu => ktr_units); (case clpa => first | (with_reducible assumption) | omega); (case clpb => first | (with_reducible assumption) | omega); (case clpc => first | (with_reducible assumption) | omega);  intro v9 h9 tk9 hv9 ht9 F9 N9; (try dsimp only at ht9); (first | subst hv9 | (obtain ⟨t9, e9⟩ := hv9; subst e9)); (try dsimp only); (try k_fold); walk_say "CONTRACT")) | (k_here; (with_reducible show wpAny _ _ (call (Value.ref 80) [Value.str (pad _ _) _, Value.str (sp _) _]) _ _ _); k_dflt ((refine' Cl.use0 (c_iadd_pad _ _ _ _ _ ?clpa ?clpb ?clpc) ?clB ?clF ?clX ?clN ?clT ?clk ?clp ?cld ?clu ?_); (case clB => k_asm); (case clF => k_asm); (case clX => k_asm); (case clN => k_asm); (case clT => k_asm); (case clk => first | exact rfl | assumption); (case clp => trivial); (case cld => ktr_room); (case clu => ktr_units); (case clpa => first | (with_reducible assumption) | omega); (case clpb => first | (with_reducible assumption) | omega); (case clpc => first | (with_reducible assumption) | omega);  intro v9 h9 tk9 hv9 ht9 F9 N9; (try dsimp only at ht9); (first | subst hv9 | (obtain ⟨t9, e9⟩ := hv9; subst e9)); (try dsimp only); (try k_fold); walk_say "CONTRACT")) | (k_here; (with_reducible show wpAny _ _ (call (Value.ref 87) [Value.int _ _, Value.int _ _]) _ _ _); k_dflt ((refine' Cl.use0 (c_isub _ _ _ _) ?clB ?clF ?clX ?clN ?clT ?clk ?clp ?cld ?clu ?_); (case clB => k_asm); (case clF => k_asm); (case clX => k_asm); (case clN => k_asm); (case clT => k_asm); (case clk => first | exact rfl | assumption); (case clp => trivial); (case cld => ktr_room); (case clu => ktr_units);  intro v9 h9 tk9 hv9 ht9 F9 N9; (try dsimp only at ht9); (first | subst hv9 | (obtain ⟨t9, e9⟩ := hv9; subst e9)); (try dsimp only); (try k_fold); walk_say "CONTRACT")) | (k_here; (with_reducible show wpAny _ _ (call (Value.ref 66) [Value.str (pad _ _) _, Value.str _ _]) _ _ _); k_dflt ((refine' Cl.use0 (c_indexOf _ _ _ _ ?clpa ?clpb) ?clB ?clF ?clX ?clN ?clT ?clk ?clp ?cld ?clu ?_); (case clB => k_asm); (case clF => k_asm); (case clX => k_asm); (case clN => k_asm); (case clT => k_asm); (case clk => first | exact rfl | assumption); (case clp => exact ⟨Nat.ne_of_gt (Nat.lt_of_lt_of_le (Nat.succ_pos _) (by assumption)), Nat.lt_succ_self _⟩); (case cld => ktr_room); (case clu => ktr_units); (case clpa => first | (with_reducible assumption) | omega); (case clpb => first | (with_reducible assumption) | omega);  intro v9 h9 tk9 hv9 ht9 F9 N9; (try dsimp only at ht9); (first | subst hv9 | (obtain ⟨t9, e9⟩ := hv9; subst e9)); (try dsimp only); (try k_fold); walk_say "CONTRACT")) | (k_here; (with_reducible show wpAny _ _ (call (Value.builtin "len") [Value.str (pad _ _) _]) _ _ _); k_dflt ((refine' len_pad ?lpa ?lpb ?_); (case lpa => assumption); (case lpb => assumption); intro _ _)) | walk1))))
      (rename Fr _ _ _ _ => lF)
      (rename News _ _ _ _ => lN)
      have k9 : keyOf (3 * i + j + 3) = letter (i + 1) j := key_at hj (by omega)
      have l9 : lineOf [f1, f3, f4, f5] [both n f1 f2, f3, f4, f5] (3 * i + j + 3) = pad P' Q' := by rw [line_at (t := i + 1) (k := j) hj (by omega), hEq.2.2.2.2.2.2.1, hEq.2.2.2.2.2.2.2.1]
      have e9 : ((A.toNat + P : Nat) : Int) - (P' : Nat) = ah [f1, f3, f4, f5] i (j + 1) := hQ.2.2.1.trans hEq.2.2.2.2.1.symm
      have b9 : (((A.toNat + P : Nat) : Int) + ((Q + B.toNat : Nat) : Int) + 1) - (((P' : Nat) : Int) + ((Q' : Nat) : Int) + 1) - (((A.toNat + P : Nat) : Int) - (P' : Nat)) = bh [f1, f3, f4, f5] [both n f1 f2, f3, f4, f5] i (j + 1) := by
        rw [show ((A.toNat + P : Nat) : Int) - (P' : Nat) = A' from hQ.2.2.1]
        exact hQ.2.2.2.trans hEq.2.2.2.2.2.1.symm
      exact ⟨rfl, _, _, _, Tab w x dx l u2 u3 u4 ht' hn' nl' (keyOf (3 * i + j + 1)) (lineOf [f1, f3, f4, f5] [both n f1 f2, f3, f4, f5] (3 * i + j + 1)) (keyOf (3 * i + j + 2)) (lineOf [f1, f3, f4, f5] [both n f1 f2, f3, f4, f5] (3 * i + j + 2)) (letter (i + 1) j) (pad P' Q') y2 z2 y3 z3 _ _ n2 n3 n4 ++ ((I, oI) :: [(ld, listOf #[Value.ref a3, Value.ref a4, Value.ref a5] 0), (R, LCg.lst [Value.ref a1, Value.ref a2, Value.ref a3, Value.ref a4, Value.ref a5]), (a1, LCg.lst v1), (a2, LCg.lst v2), (a3, LCg.lst v3), (a4, LCg.lst v4), (a5, LCg.lst v5), (L + 2, o2'), (L + 1, o1')]), rfl, lF, tab_first lN, fun p hp => (List.mem_append.mp hp).elim (fun z => Ne.symm (off3 (I2, oI2) (.head _) p z)) (offR p), htab, hdesk, ⟨_, hlet⟩, ⟨_, hturn⟩, ⟨_, congrArg (fun z => some (Value.int z _)) e9⟩, ⟨_, congrArg (fun z => some (Value.int z _)) b9⟩, TabJ.next (fun p hp => off3 p (.tail _ hp)) rfl rfl rfl rfl k9 l9⟩
      -- M6

  case ldone =>
    clear lF lN rgX off1
    rintro m₁ nw h tk ⟨htab, hdesk, ⟨tle, hlet⟩, l, t1', t2', t3', ht', hn', nl, y1, z1, y2, z2, y3, z3, n1, n2, n3, rfl, off⟩ F1 N1
    (dsimp only [Tab, List.cons_append, List.nil_append] at N1)
    (repeat' (first | (k_unfold; (try dsimp only)) | ((fail_if_success (with_reducible show wpAny _ _ ((call (Value.ref 234) _ _)) _ _ _)); (first | ((with_reducible show wpAny _ _ (eval (Expr.Name _ _) _) _ _ _); (k_here; k_dflt (first | (refine' name_local ?zF ?z1 ?z2 ?z3 ?z4 ?_; (case zF => assumption); (case z1 => rfl); (case z2 => rfl); (case z3 => (first | rfl | assumption)); (case z4 => rfl)) | (refine' name_cell ?zN rfl rfl rfl ?zm ?zd rfl ?_; (case zN => assumption); (case zm => k_mem); (case zd => assumption)) | (refine' name_free ?zN rfl rfl rfl ?zm ?zd rfl rfl ?_; (case zN => assumption); (case zm => k_mem); (case zd => assumption)) | (refine' name_built ?zF ?zX ?zT ?ze ?zv ?zn ?_ ?zg ?zb ?zk ?zx ?zd; (case zF => k_asm); (case zX => k_asm); (case zT => k_asm); (case ze => k_is); (case zv => boot_by_name); (case zn => decide); (case zg => rfl); (case zb => rfl); (case zk => rfl); (case zx => rfl); (case zd => rfl))))) | walk1))))
    -- M1
    (rename Fr _ _ _ _ => lF)
    (rename News _ _ _ _ => lN)
    (refine' Cl.useR (c_law_gone _ a1 a3 a4 a5 0 v1.length v3.length v4.length v5.length v1 v3 v4 v5 f1 f3 f4 f5 n (by omega) i1 i3 i4 (by assumption) len1 len3 len4 len5) ?clB ?clF ?clX lN ?clhT ?clS ?clT ?clk ?clp ?cld ?clu ?_; (case clB => k_asm); (case clF => k_asm); (case clX => k_asm); (case clhT => kcj_all); (case clT => k_asm); (case clk => rfl); (case clp => trivial); (case cld => ktr_room); (case clu => ktr_units))
    case clS =>
      rintro v T' ⟨G, gv, kg, rfl, rfl, -⟩ p hp
      exact .tail _ hp
    rintro v6 T6 h6 tk6 ⟨G1, gv1, kg1, rfl, rfl, iG1⟩ ht6 F6 N6 -
    replace N6 := gone_news (T := [_, _, _, _, _]) N6
    clear lF lN ht6
    (try dsimp only)
    (repeat' (first | (k_unfold; (try dsimp only)) | ((fail_if_success (with_reducible show wpAny _ _ (eval (Expr.ListComp _ _ _ _) _) _ _ _)); (first | ((with_reducible show wpAny _ _ (eval (Expr.Name _ _) _) _ _ _); (k_here; k_dflt (first | (refine' name_local ?zF ?z1 ?z2 ?z3 ?z4 ?_; (case zF => assumption); (case z1 => rfl); (case z2 => rfl); (case z3 => (first | rfl | assumption)); (case z4 => rfl)) | (refine' name_cell ?zN rfl rfl rfl ?zm ?zd rfl ?_; (case zN => assumption); (case zm => k_mem); (case zd => assumption)) | (refine' name_free ?zN rfl rfl rfl ?zm ?zd rfl rfl ?_; (case zN => assumption); (case zm => k_mem); (case zd => assumption)) | (refine' name_built ?zF ?zX ?zT ?ze ?zv ?zn ?_ ?zg ?zb ?zk ?zx ?zd; (case zF => k_asm); (case zX => k_asm); (case zT => k_asm); (case ze => k_is); (case zv => boot_by_name); (case zn => decide); (case zg => rfl); (case zb => rfl); (case zk => rfl); (case zx => rfl); (case zd => rfl))))) | walk1))))
    -- M2
    (rename Fr _ _ _ _ => lF)
    (rename News _ _ _ _ => lN)
    (with_unfolding_all refine' comp_range (fun d => f1.getD d.toNat 0 + f2.getD d.toNat 0) 0 n lF ?xc ?xp ?xk ?xn ?xx ?xh ?xe ?xs)
    case xc => with_unfolding_all exact rfl
    case xp => intro h; rfl
    case xk => rfl
    case xn => decide
    case xx => rfl
    case xh => rfl
    case xs => intro x; rfl
    case xe =>
      (repeat' (first | (k_unfold; (try dsimp only)) | ((fail_if_success (with_reducible show wpAny _ _ ((call (Value.type _) _)) _ _ _)); (first | ((with_reducible show wpAny _ _ (eval (Expr.Name _ _) _) _ _ _); (k_here; k_dflt (first | (refine' name_local ?zF ?z1 ?z2 ?z3 ?z4 ?_; (case zF => assumption); (case z1 => rfl); (case z2 => rfl); (case z3 => (first | rfl | assumption)); (case z4 => rfl)) | (refine' name_cell ?zN rfl rfl rfl ?zm ?zd rfl ?_; (case zN => assumption); (case zm => k_mem); (case zd => assumption)) | (refine' name_free ?zN rfl rfl rfl ?zm ?zd rfl rfl ?_; (case zN => assumption); (case zm => k_mem); (case zd => assumption)) | (refine' name_built ?zF ?zX ?zT ?ze ?zv ?zn ?_ ?zg ?zb ?zk ?zx ?zd; (case zF => k_asm); (case zX => k_asm); (case zT => k_asm); (case ze => k_is); (case zv => boot_by_name); (case zn => decide); (case zg => rfl); (case zb => rfl); (case zk => rfl); (case zx => rfl); (case zd => rfl))))) | walk1))))
      (first | ((with_reducible show wpAny _ _ (eval (Expr.Name _ _) _) _ _ _); (k_here; k_dflt (first | (refine' name_local ?zF ?z1 ?z2 ?z3 ?z4 ?_; (case zF => assumption); (case z1 => rfl); (case z2 => rfl); (case z3 => (first | rfl | assumption)); (case z4 => rfl)) | (refine' name_cell ?zN rfl rfl rfl ?zm ?zd rfl ?_; (case zN => assumption); (case zm => k_mem); (case zd => assumption)) | (refine' name_free ?zN rfl rfl rfl ?zm ?zd rfl rfl ?_; (case zN => assumption); (case zm => k_mem); (case zd => assumption)) | (refine' name_built ?zF ?zX ?zT ?ze ?zv ?zn ?_ ?zg ?zb ?zk ?zx ?zd; (case zF => k_asm); (case zX => k_asm); (case zT => k_asm); (case ze => k_is); (case zv => boot_by_name); (case zn => decide); (case zg => rfl); (case zb => rfl); (case zk => rfl); (case zx => rfl); (case zd => rfl))))) | walk1)
      -- M3
      (rename IsRange _ _ _ _ _ _ _ _ => rgX)
      (rename Fr _ _ _ _ => lF)
      (rename News _ _ _ _ => lN)
      refine' ⟨_, _, _, _, _, _, rfl, lF, lN, rgX, ?ca, ?cb, ?cz, ?ct, ?cf⟩
      case ca => exact small_one (by omega) (by omega) (by omega) (by omega)
      case cb => (rw [rangeSize_nat]; omega)
      case cz => (rw [sizeLine_eq]; omega)
      case ct =>
        clear lF lN rgX
        intro C d t h tk tail mc E' hd0 hd1 lC ltC F8 N8
        dsimp only [List.cons_append, List.nil_append] at N8
        (repeat' (first | (k_unfold; (try dsimp only)) | ((fail_if_success (with_reducible show wpAny _ _ ((call (Value.ref 999) _ _)) _ _ _)); (first | ((with_reducible show wpAny _ _ (eval (Expr.Name _ _) _) _ _ _); (k_here; k_dflt (first | (refine' name_local ?zF ?z1 ?z2 ?z3 ?z4 ?_; (case zF => assumption); (case z1 => rfl); (case z2 => rfl); (case z3 => (first | rfl | assumption)); (case z4 => rfl)) | (refine' name_cell ?zN rfl rfl rfl ?zm ?zd rfl ?_; (case zN => assumption); (case zm => k_mem); (case zd => assumption)) | (refine' name_free ?zN rfl rfl rfl ?zm ?zd rfl rfl ?_; (case zN => assumption); (case zm => k_mem); (case zd => assumption)) | (refine' name_built ?zF ?zX ?zT ?ze ?zv ?zn ?_ ?zg ?zb ?zk ?zx ?zd; (case zF => k_asm); (case zX => k_asm); (case zT => k_asm); (case ze => k_is); (case zv => boot_by_name); (case zn => decide); (case zg => rfl); (case zb => rfl); (case zk => rfl); (case zx => rfl); (case zd => rfl))))) | walk1))))
        (unfold EltEnd; exact ⟨⟨_, rfl⟩, _, _, rfl, by assumption, by assumption⟩)
      case cf =>
        clear lF lN rgX
        intro D2 ys2 h tk hys ltD F8 N8
        replace hys : IntsAre ys2 (both n f1 f2) := by rw [← both_is]; exact hys
        clear ltD
        (repeat' (first | (k_unfold; (try dsimp only)) | ((fail_if_success (with_reducible show wpAny _ _ ((call (Value.ref 234) _ _)) _ _ _)); (first | ((with_reducible show wpAny _ _ (eval (Expr.Name _ _) _) _ _ _); (k_here; k_dflt (first | (refine' name_local ?zF ?z1 ?z2 ?z3 ?z4 ?_; (case zF => assumption); (case z1 => rfl); (case z2 => rfl); (case z3 => (first | rfl | assumption)); (case z4 => rfl)) | (refine' name_cell ?zN rfl rfl rfl ?zm ?zd rfl ?_; (case zN => assumption); (case zm => k_mem); (case zd => assumption)) | (refine' name_free ?zN rfl rfl rfl ?zm ?zd rfl rfl ?_; (case zN => assumption); (case zm => k_mem); (case zd => assumption)) | (refine' name_built ?zF ?zX ?zT ?ze ?zv ?zn ?_ ?zg ?zb ?zk ?zx ?zd; (case zF => k_asm); (case zX => k_asm); (case zT => k_asm); (case ze => k_is); (case zv => boot_by_name); (case zn => decide); (case zg => rfl); (case zb => rfl); (case zk => rfl); (case zx => rfl); (case zd => rfl))))) | walk1))))
        (rename Fr _ _ _ _ => lF)
        (rename News _ _ _ _ => lN)
        (refine' Cl.useR (c_law_gone _ D2 a3 a4 a5 0 ys2.length v3.length v4.length v5.length ys2 v3 v4 v5 (both n f1 f2) f3 f4 f5 n (by omega) hys i3 i4 (by assumption) (both_len n f1 f2) len3 len4 len5) ?clB ?clF ?clX lN ?clhT ?clS ?clT ?clk ?clp ?cld ?clu ?_; (case clB => k_asm); (case clF => k_asm); (case clX => k_asm); (case clhT => kcj_all); (case clT => k_asm); (case clk => rfl); (case clp => trivial); (case cld => ktr_room); (case clu => ktr_units))
        case clS =>
          rintro v T' ⟨G, gv, kg, rfl, rfl, -⟩ p hp
          exact .tail _ hp
        rintro v9 T9 h9 tk9 ⟨G2, gv2, kg2, rfl, rfl, iG2⟩ ht9 F9 N9 -
        replace N9 := gone_news (T := [_, _, _, _, _]) N9
        clear lF lN ht9
        obtain ⟨c0, c1, c2, c3, rfl⟩ := gone_four iG1
        obtain ⟨d0, d1, d2, d3, rfl⟩ := gone_four iG2
        clear iG1 iG2
        obtain ⟨P0, P1, P2, P3, S0, S1, S2, S3, hP, hLn, hb0, hb1, hb2⟩ := due_gen RW n (by omega)
        rw [hP.1, hP.2.1, hP.2.2.1, hP.2.2.2.1, hP.2.2.2.2.1, hP.2.2.2.2.2.1, hP.2.2.2.2.2.2.1, hP.2.2.2.2.2.2.2] at N9
        rw [hLn.1, hLn.2.1, hLn.2.2] at N9
        clear hP RW hLn
        have gL := lets_len n
        have eLn : letsAt n = lets n := if_neg (by omega)
        rw [eLn] at hlet
        have N10 : News s₁.heap L _ ((G1, listOf #[Value.int P0 c0, Value.int P1 c1, Value.int P2 c2, Value.int P3 c3] kg1) :: (G2, listOf #[Value.int S0 d0, Value.int S1 d1, Value.int S2 d2, Value.int S3 d3] kg2) :: Tab w x dx l t1' t2' t3' ht' hn' nl (keyOf (3 * n)) (pad (P0 - P1).toNat (S0 - S1 - (P0 - P1)).toNat) (keyOf (3 * n + 1)) (pad (P1 - P2).toNat (S1 - S2 - (P1 - P2)).toNat) (keyOf (3 * n + 2)) (pad (P2 - P3).toNat (S2 - S3 - (P2 - P3)).toNat) y1 z1 y2 z2 y3 z3 n1 n2 n3) := due_pick N9
        clear N9 off hlen hI hL hds
        (simp only [Tab] at N10)
        (try dsimp only)
        -- M60
        (repeat' (first | (k_unfold; (try dsimp only)) | ((fail_if_success (with_reducible show wpAny _ _ (newList _) _ _ _)); (first | ((with_reducible show wpAny _ _ (eval (Expr.Name _ _) _) _ _ _); (k_here; k_dflt (first | (refine' name_local ?zF ?z1 ?z2 ?z3 ?z4 ?_; (case zF => assumption); (case z1 => rfl); (case z2 => rfl); (case z3 => (first | rfl | assumption)); (case z4 => rfl)) | (refine' name_cell ?zN rfl rfl rfl ?zm ?zd rfl ?_; (case zN => assumption); (case zm => k_mem); (case zd => assumption)) | (refine' name_free ?zN rfl rfl rfl ?zm ?zd rfl rfl ?_; (case zN => assumption); (case zm => k_mem); (case zd => assumption)) | (refine' name_built ?zF ?zX ?zT ?ze ?zv ?zn ?_ ?zg ?zb ?zk ?zx ?zd; (case zF => k_asm); (case zX => k_asm); (case zT => k_asm); (case ze => k_is); (case zv => boot_by_name); (case zn => decide); (case zg => rfl); (case zb => rfl); (case zk => rfl); (case zx => rfl); (case zd => rfl))))) | walk1))))
        (rename Fr _ _ _ _ => lF)
        (rename News _ _ _ _ => lN)
        (refine' newList_K lF lN ?_ ?nz)
        case nz => (rw [sizeLine_eq]; exact Nat.le_of_ble_eq_true rfl)
        intro du h11 F11 N11 ltdu
        clear lF lN
        (try dsimp only)
        (repeat' (first | (k_unfold; (try dsimp only)) | ((fail_if_success (with_reducible show wpAny _ _ (exec (Stmt.For _ _ _ _ _) _) _ _ _)); (first | ((with_reducible show wpAny _ _ (eval (Expr.Name _ _) _) _ _ _); (k_here; k_dflt (first | (refine' name_local ?zF ?z1 ?z2 ?z3 ?z4 ?_; (case zF => assumption); (case z1 => rfl); (case z2 => rfl); (case z3 => (first | rfl | assumption)); (case z4 => rfl)) | (refine' name_cell ?zN rfl rfl rfl ?zm ?zd rfl ?_; (case zN => assumption); (case zm => k_mem); (case zd => assumption)) | (refine' name_free ?zN rfl rfl rfl ?zm ?zd rfl rfl ?_; (case zN => assumption); (case zm => k_mem); (case zd => assumption)) | (refine' name_built ?zF ?zX ?zT ?ze ?zv ?zn ?_ ?zg ?zb ?zk ?zx ?zd; (case zF => k_asm); (case zX => k_asm); (case zT => k_asm); (case ze => k_is); (case zv => boot_by_name); (case zn => decide); (case zg => rfl); (case zb => rfl); (case zk => rfl); (case zx => rfl); (case zd => rfl))))) | walk1))))
        (rename Fr _ _ _ _ => lF)
        (with_unfolding_all refine' For_turns lF ?_; k_whole)
        (repeat' (first | (k_unfold; (try dsimp only)) | ((fail_if_success (with_reducible show wpAny _ _ ((pyIter (Value.ref _))) _ _ _)); (first | ((with_reducible show wpAny _ _ (eval (Expr.Name _ _) _) _ _ _); (k_here; k_dflt (first | (refine' name_local ?zF ?z1 ?z2 ?z3 ?z4 ?_; (case zF => assumption); (case z1 => rfl); (case z2 => rfl); (case z3 => (first | rfl | assumption)); (case z4 => rfl)) | (refine' name_cell ?zN rfl rfl rfl ?zm ?zd rfl ?_; (case zN => assumption); (case zm => k_mem); (case zd => assumption)) | (refine' name_free ?zN rfl rfl rfl ?zm ?zd rfl rfl ?_; (case zN => assumption); (case zm => k_mem); (case zd => assumption)) | (refine' name_built ?zF ?zX ?zT ?ze ?zv ?zn ?_ ?zg ?zb ?zk ?zx ?zd; (case zF => k_asm); (case zX => k_asm); (case zT => k_asm); (case ze => k_is); (case zv => boot_by_name); (case zn => decide); (case zg => rfl); (case zb => rfl); (case zk => rfl); (case zx => rfl); (case zd => rfl))))) | walk1))))
        (rename Fr _ _ _ _ => lF)
        (rename News _ _ _ _ => lN)
        (rename IsRange _ _ _ _ _ _ _ _ => rgX)
        -- M61
        (with_unfolding_all refine' loop_range (n := 3) (DueJ G1 G2 x (lets n) ((G1, listOf #[Value.int P0 c0, Value.int P1 c1, Value.int P2 c2, Value.int P3 c3] kg1) :: (G2, listOf #[Value.int S0 d0, Value.int S1 d1, Value.int S2 d2, Value.int S3 d3] kg2) :: Tab w x dx l t1' t2' t3' ht' hn' nl (keyOf (3 * n)) (pad (P0 - P1).toNat (S0 - S1 - (P0 - P1)).toNat) (keyOf (3 * n + 1)) (pad (P1 - P2).toNat (S1 - S2 - (P1 - P2)).toNat) (keyOf (3 * n + 2)) (pad (P2 - P3).toNat (S2 - S3 - (P2 - P3)).toNat) y1 z1 y2 z2 y3 z3 n1 n2 n3) [(letter n 0, pad (P0 - P1).toNat (S0 - S1 - (P0 - P1)).toNat), (letter n 1, pad (P1 - P2).toNat (S1 - S2 - (P1 - P2)).toNat), (letter n 2, pad (P2 - P3).toNat (S2 - S3 - (P2 - P3)).toNat)]) ?lh rgX ?ls ?lr lF lN ?lJ ?lg ?lturn3 ?ldone3)
        case lh => rfl
        case ls => decide
        case lr => decide
        case lg => intro it v; rfl
        case lJ => exact ⟨du, [], 0, [], rfl, ⟨_, hlet⟩, rfl, rfl, htab, rfl, DuesAre.nil, fun p hp => Nat.ne_of_lt (ltdu p hp)⟩
        -- M62
        case lturn3 =>
          clear lF lN rgX ltdu
          rintro i t m₅ nw I oI h tk hi ltI lLI ⟨du2, vs, c, made, hdu, ⟨tlt, hlt⟩, hg1, hg2, htb, rfl, hD, offD⟩ offI F12 N12
          refine assign_local F12 N12 rfl rfl fun h13 tk13 F13 N13 => ?_
          clear F12 N12
          (dsimp only [Tab, List.cons_append, List.nil_append] at N13)
          obtain ⟨p9, q9, ep, eq, p0, p40, q0, q40, hTS⟩ := dues_at (n := n) hi hb0 hb1 hb2
          have i0 : 0 ≤ (i : Int) := by omega
          rw [Int.zero_add] at F13
          (repeat' (first | (k_unfold; (try dsimp only)) | ((fail_if_success (with_reducible show wpAny _ _ (storeName _ _ _) _ _ _)); (first | ((with_reducible show wpAny _ _ (eval (Expr.Name _ _) _) _ _ _); (k_here; k_dflt (first | (refine' name_local ?zF ?z1 ?z2 ?z3 ?z4 ?_; (case zF => assumption); (case z1 => rfl); (case z2 => rfl); (case z3 => (first | rfl | assumption)); (case z4 => rfl)) | (refine' name_cell ?zN rfl rfl rfl ?zm ?zd rfl ?_; (case zN => assumption); (case zm => k_mem); (case zd => assumption)) | (refine' name_free ?zN rfl rfl rfl ?zm ?zd rfl rfl ?_; (case zN => assumption); (case zm => k_mem); (case zd => assumption)) | (refine' name_built ?zF ?zX ?zT ?ze ?zv ?zn ?_ ?zg ?zb ?zk ?zx ?zd; (case zF => k_asm); (case zX => k_asm); (case zT => k_asm); (case ze => k_is); (case zv => boot_by_name); (case zn => decide); (case zg => rfl); (case zb => rfl); (case zk => rfl); (case zx => rfl); (case zd => rfl))))) | (k_here; (with_reducible show wpAny _ _ (binaryOp Operator.Mult (Value.str (Str.ofString " ") _) (Value.int _ _)) _ _ _); k_dflt ((refine' mul_sp_op ?mpa ?mpb ?_); (case mpa => omega); (case mpb => omega); intro _ _)) | (k_here; (first | ((with_reducible show wpAny _ _ (binaryOp Operator.Add (Value.str (sp _) _) (Value.str (Str.ofString "x") _)) _ _ _); k_dflt ((refine' add_sp_x ?mpa ?_); (case mpa => omega); intro _ _)) | ((with_reducible show wpAny _ _ (binaryOp Operator.Add (Value.str (pad _ 0) _) (Value.str (sp _) _)) _ _ _); k_dflt ((refine' add_pad_sp ?mpa ?mpb ?_); (case mpa => omega); (case mpb => omega); intro _ _)))) | walk1))))
          rw [ep]
          (first | ((with_reducible show wpAny _ _ (eval (Expr.Name _ _) _) _ _ _); (k_here; k_dflt (first | (refine' name_local ?zF ?z1 ?z2 ?z3 ?z4 ?_; (case zF => assumption); (case z1 => rfl); (case z2 => rfl); (case z3 => (first | rfl | assumption)); (case z4 => rfl)) | (refine' name_cell ?zN rfl rfl rfl ?zm ?zd rfl ?_; (case zN => assumption); (case zm => k_mem); (case zd => assumption)) | (refine' name_free ?zN rfl rfl rfl ?zm ?zd rfl rfl ?_; (case zN => assumption); (case zm => k_mem); (case zd => assumption)) | (refine' name_built ?zF ?zX ?zT ?ze ?zv ?zn ?_ ?zg ?zb ?zk ?zx ?zd; (case zF => k_asm); (case zX => k_asm); (case zT => k_asm); (case ze => k_is); (case zv => boot_by_name); (case zn => decide); (case zg => rfl); (case zb => rfl); (case zk => rfl); (case zx => rfl); (case zd => rfl))))) | (k_here; (with_reducible show wpAny _ _ (binaryOp Operator.Mult (Value.str (Str.ofString " ") _) (Value.int _ _)) _ _ _); k_dflt ((refine' mul_sp_op ?mpa ?mpb ?_); (case mpa => omega); (case mpb => omega); intro _ _)) | (k_here; (first | ((with_reducible show wpAny _ _ (binaryOp Operator.Add (Value.str (sp _) _) (Value.str (Str.ofString "x") _)) _ _ _); k_dflt ((refine' add_sp_x ?mpa ?_); (case mpa => omega); intro _ _)) | ((with_reducible show wpAny _ _ (binaryOp Operator.Add (Value.str (pad _ 0) _) (Value.str (sp _) _)) _ _ _); k_dflt ((refine' add_pad_sp ?mpa ?mpb ?_); (case mpa => omega); (case mpb => omega); intro _ _)))) | walk1)
          (repeat' (first | (k_unfold; (try dsimp only)) | ((fail_if_success (with_reducible show wpAny _ _ (storeName _ _ _) _ _ _)); (first | ((with_reducible show wpAny _ _ (eval (Expr.Name _ _) _) _ _ _); (k_here; k_dflt (first | (refine' name_local ?zF ?z1 ?z2 ?z3 ?z4 ?_; (case zF => assumption); (case z1 => rfl); (case z2 => rfl); (case z3 => (first | rfl | assumption)); (case z4 => rfl)) | (refine' name_cell ?zN rfl rfl rfl ?zm ?zd rfl ?_; (case zN => assumption); (case zm => k_mem); (case zd => assumption)) | (refine' name_free ?zN rfl rfl rfl ?zm ?zd rfl rfl ?_; (case zN => assumption); (case zm => k_mem); (case zd => assumption)) | (refine' name_built ?zF ?zX ?zT ?ze ?zv ?zn ?_ ?zg ?zb ?zk ?zx ?zd; (case zF => k_asm); (case zX => k_asm); (case zT => k_asm); (case ze => k_is); (case zv => boot_by_name); (case zn => decide); (case zg => rfl); (case zb => rfl); (case zk => rfl); (case zx => rfl); (case zd => rfl))))) | (k_here; (with_reducible show wpAny _ _ (binaryOp Operator.Mult (Value.str (Str.ofString " ") _) (Value.int _ _)) _ _ _); k_dflt ((refine' mul_sp_op ?mpa ?mpb ?_); (case mpa => omega); (case mpb => omega); intro _ _)) | (k_here; (first | ((with_reducible show wpAny _ _ (binaryOp Operator.Add (Value.str (sp _) _) (Value.str (Str.ofString "x") _)) _ _ _); k_dflt ((refine' add_sp_x ?mpa ?_); (case mpa => omega); intro _ _)) | ((with_reducible show wpAny _ _ (binaryOp Operator.Add (Value.str (pad _ 0) _) (Value.str (sp _) _)) _ _ _); k_dflt ((refine' add_pad_sp ?mpa ?mpb ?_); (case mpa => omega); (case mpb => omega); intro _ _)))) | walk1))))
          rw [eq]
          (first | ((with_reducible show wpAny _ _ (eval (Expr.Name _ _) _) _ _ _); (k_here; k_dflt (first | (refine' name_local ?zF ?z1 ?z2 ?z3 ?z4 ?_; (case zF => assumption); (case z1 => rfl); (case z2 => rfl); (case z3 => (first | rfl | assumption)); (case z4 => rfl)) | (refine' name_cell ?zN rfl rfl rfl ?zm ?zd rfl ?_; (case zN => assumption); (case zm => k_mem); (case zd => assumption)) | (refine' name_free ?zN rfl rfl rfl ?zm ?zd rfl rfl ?_; (case zN => assumption); (case zm => k_mem); (case zd => assumption)) | (refine' name_built ?zF ?zX ?zT ?ze ?zv ?zn ?_ ?zg ?zb ?zk ?zx ?zd; (case zF => k_asm); (case zX => k_asm); (case zT => k_asm); (case ze => k_is); (case zv => boot_by_name); (case zn => decide); (case zg => rfl); (case zb => rfl); (case zk => rfl); (case zx => rfl); (case zd => rfl))))) | (k_here; (with_reducible show wpAny _ _ (binaryOp Operator.Mult (Value.str (Str.ofString " ") _) (Value.int _ _)) _ _ _); k_dflt ((refine' mul_sp_op ?mpa ?mpb ?_); (case mpa => omega); (case mpb => omega); intro _ _)) | (k_here; (first | ((with_reducible show wpAny _ _ (binaryOp Operator.Add (Value.str (sp _) _) (Value.str (Str.ofString "x") _)) _ _ _); k_dflt ((refine' add_sp_x ?mpa ?_); (case mpa => omega); intro _ _)) | ((with_reducible show wpAny _ _ (binaryOp Operator.Add (Value.str (pad _ 0) _) (Value.str (sp _) _)) _ _ _); k_dflt ((refine' add_pad_sp ?mpa ?mpb ?_); (case mpa => omega); (case mpb => omega); intro _ _)))) | walk1)
          (repeat' (first | (k_unfold; (try dsimp only)) | ((fail_if_success (with_reducible show wpAny _ _ (newTuple _) _ _ _)); (first | ((with_reducible show wpAny _ _ (eval (Expr.Name _ _) _) _ _ _); (k_here; k_dflt (first | (refine' name_local ?zF ?z1 ?z2 ?z3 ?z4 ?_; (case zF => assumption); (case z1 => rfl); (case z2 => rfl); (case z3 => (first | rfl | assumption)); (case z4 => rfl)) | (refine' name_cell ?zN rfl rfl rfl ?zm ?zd rfl ?_; (case zN => assumption); (case zm => k_mem); (case zd => assumption)) | (refine' name_free ?zN rfl rfl rfl ?zm ?zd rfl rfl ?_; (case zN => assumption); (case zm => k_mem); (case zd => assumption)) | (refine' name_built ?zF ?zX ?zT ?ze ?zv ?zn ?_ ?zg ?zb ?zk ?zx ?zd; (case zF => k_asm); (case zX => k_asm); (case zT => k_asm); (case ze => k_is); (case zv => boot_by_name); (case zn => decide); (case zg => rfl); (case zb => rfl); (case zk => rfl); (case zx => rfl); (case zd => rfl))))) | (k_here; (with_reducible show wpAny _ _ (binaryOp Operator.Mult (Value.str (Str.ofString " ") _) (Value.int _ _)) _ _ _); k_dflt ((refine' mul_sp_op ?mpa ?mpb ?_); (case mpa => omega); (case mpb => omega); intro _ _)) | (k_here; (first | ((with_reducible show wpAny _ _ (binaryOp Operator.Add (Value.str (sp _) _) (Value.str (Str.ofString "x") _)) _ _ _); k_dflt ((refine' add_sp_x ?mpa ?_); (case mpa => omega); intro _ _)) | ((with_reducible show wpAny _ _ (binaryOp Operator.Add (Value.str (pad _ 0) _) (Value.str (sp _) _)) _ _ _); k_dflt ((refine' add_pad_sp ?mpa ?mpb ?_); (case mpa => omega); (case mpb => omega); intro _ _)))) | walk1))))
          (rename Fr _ _ _ _ => lF)
          (rename News _ _ _ _ => lN)
          (refine' new_pair lF lN ?nz ?_)
          case nz => (rw [sizeLine_eq]; exact Nat.le_of_ble_eq_true rfl)
          intro ta h14 ltta lLta F14 N14
          clear lF lN
          (try dsimp only)
          (repeat' (first | (k_unfold; (try dsimp only)) | ((fail_if_success (with_reducible show wpAny _ _ ((call (Value.builtin "list.append") _)) _ _ _)); (first | ((with_reducible show wpAny _ _ (eval (Expr.Name _ _) _) _ _ _); (k_here; k_dflt (first | (refine' name_local ?zF ?z1 ?z2 ?z3 ?z4 ?_; (case zF => assumption); (case z1 => rfl); (case z2 => rfl); (case z3 => (first | rfl | assumption)); (case z4 => rfl)) | (refine' name_cell ?zN rfl rfl rfl ?zm ?zd rfl ?_; (case zN => assumption); (case zm => k_mem); (case zd => assumption)) | (refine' name_free ?zN rfl rfl rfl ?zm ?zd rfl rfl ?_; (case zN => assumption); (case zm => k_mem); (case zd => assumption)) | (refine' name_built ?zF ?zX ?zT ?ze ?zv ?zn ?_ ?zg ?zb ?zk ?zx ?zd; (case zF => k_asm); (case zX => k_asm); (case zT => k_asm); (case ze => k_is); (case zv => boot_by_name); (case zn => decide); (case zg => rfl); (case zb => rfl); (case zk => rfl); (case zx => rfl); (case zd => rfl))))) | (k_here; (with_reducible show wpAny _ _ (binaryOp Operator.Mult (Value.str (Str.ofString " ") _) (Value.int _ _)) _ _ _); k_dflt ((refine' mul_sp_op ?mpa ?mpb ?_); (case mpa => omega); (case mpb => omega); intro _ _)) | (k_here; (first | ((with_reducible show wpAny _ _ (binaryOp Operator.Add (Value.str (sp _) _) (Value.str (Str.ofString "x") _)) _ _ _); k_dflt ((refine' add_sp_x ?mpa ?_); (case mpa => omega); intro _ _)) | ((with_reducible show wpAny _ _ (binaryOp Operator.Add (Value.str (pad _ 0) _) (Value.str (sp _) _)) _ _ _); k_dflt ((refine' add_pad_sp ?mpa ?mpb ?_); (case mpa => omega); (case mpb => omega); intro _ _)))) | walk1))))
          -- MAi
          (rename Fr _ _ _ _ => lF)
          (rename News _ _ _ _ => lN)
          (refine' append_in [(ta, _), (I, oI)] _ lF lN ?pa ?pb ?pz ?_)
          case pa =>
            intro r hr
            simp only [List.mem_cons, List.not_mem_nil, or_false] at hr
            rcases hr with rfl | rfl
            · exact Ne.symm (Nat.ne_of_lt (ltta _ (.tail _ (.head _))))
            · exact Ne.symm (offI _ (.head _))
          case pb => exact offD
          case pz => (rw [hD.length, sizeLine_eq, List.length_take]; omega)
          intro h15 F15 N15
          clear lF lN
          (try dsimp only)
          (repeat' (first | (k_unfold; (try dsimp only)) | ((fail_if_success (with_reducible show wpAny _ _ ((call (Value.ref 999) _ _)) _ _ _)); (first | ((with_reducible show wpAny _ _ (eval (Expr.Name _ _) _) _ _ _); (k_here; k_dflt (first | (refine' name_local ?zF ?z1 ?z2 ?z3 ?z4 ?_; (case zF => assumption); (case z1 => rfl); (case z2 => rfl); (case z3 => (first | rfl | assumption)); (case z4 => rfl)) | (refine' name_cell ?zN rfl rfl rfl ?zm ?zd rfl ?_; (case zN => assumption); (case zm => k_mem); (case zd => assumption)) | (refine' name_free ?zN rfl rfl rfl ?zm ?zd rfl rfl ?_; (case zN => assumption); (case zm => k_mem); (case zd => assumption)) | (refine' name_built ?zF ?zX ?zT ?ze ?zv ?zn ?_ ?zg ?zb ?zk ?zx ?zd; (case zF => k_asm); (case zX => k_asm); (case zT => k_asm); (case ze => k_is); (case zv => boot_by_name); (case zn => decide); (case zg => rfl); (case zb => rfl); (case zk => rfl); (case zx => rfl); (case zd => rfl))))) | (k_here; (with_reducible show wpAny _ _ (binaryOp Operator.Mult (Value.str (Str.ofString " ") _) (Value.int _ _)) _ _ _); k_dflt ((refine' mul_sp_op ?mpa ?mpb ?_); (case mpa => omega); (case mpb => omega); intro _ _)) | (k_here; (first | ((with_reducible show wpAny _ _ (binaryOp Operator.Add (Value.str (sp _) _) (Value.str (Str.ofString "x") _)) _ _ _); k_dflt ((refine' add_sp_x ?mpa ?_); (case mpa => omega); intro _ _)) | ((with_reducible show wpAny _ _ (binaryOp Operator.Add (Value.str (pad _ 0) _) (Value.str (sp _) _)) _ _ _); k_dflt ((refine' add_pad_sp ?mpa ?mpb ?_); (case mpa => omega); (case mpb => omega); intro _ _)))) | walk1))))
          (rename Fr _ _ _ _ => lF)
          (rename News _ _ _ _ => lN)
          -- MBi
          exact ⟨rfl, _, _, _, _, rfl, lF, due_news (fix := (G1, listOf #[Value.int P0 c0, Value.int P1 c1, Value.int P2 c2, Value.int P3 c3] kg1) :: (G2, listOf #[Value.int S0 d0, Value.int S1 d1, Value.int S2 d2, Value.int S3 d3] kg2) :: Tab w x dx l t1' t2' t3' ht' hn' nl (keyOf (3 * n)) (pad (P0 - P1).toNat (S0 - S1 - (P0 - P1)).toNat) (keyOf (3 * n + 1)) (pad (P1 - P2).toNat (S1 - S2 - (P1 - P2)).toNat) (keyOf (3 * n + 2)) (pad (P2 - P3).toNat (S2 - S3 - (P2 - P3)).toNat) y1 z1 y2 z2 y3 z3 n1 n2 n3) (made := made) lN, due_off offI (ltta _ (.head _)), du2, _, _, _, hdu, ⟨_, hlt⟩, hg1, hg2, htb, rfl, hTS ▸ hD.snoc, due_off2 offD (ltta _ (.tail _ (.head _)))⟩

        -- M64
        case ldone3 =>
          clear lF lN rgX ltdu
          rintro m₅ nw h tk ⟨du2, vs, c, made, hdu, ⟨tlt, hlt⟩, hg1, hg2, htb, rfl, hD, offD⟩ F12 N12
          obtain ⟨s1, s2, s3, g1, g1', g2, g2', g3, g3', m1, m2, m3, rfl, rfl⟩ := hD.three
          rw [key_at (t := n) (k := 0) (e := 3 * n) (by decide) rfl, key_at (t := n) (k := 1) (e := 3 * n + 1) (by decide) rfl, key_at (t := n) (k := 2) (e := 3 * n + 2) (by decide) rfl] at N12
          (dsimp only [Tab, List.cons_append, List.nil_append] at N12)
          (repeat' (first | (k_unfold; (try dsimp only)) | ((fail_if_success (with_reducible show wpAny _ _ ((call (Value.ref 184) _)) _ _ _)); (first | ((with_reducible show wpAny _ _ (eval (Expr.Name _ _) _) _ _ _); (k_here; k_dflt (first | (refine' name_local ?zF ?z1 ?z2 ?z3 ?z4 ?_; (case zF => assumption); (case z1 => rfl); (case z2 => rfl); (case z3 => (first | rfl | assumption)); (case z4 => rfl)) | (refine' name_cell ?zN rfl rfl rfl ?zm ?zd rfl ?_; (case zN => assumption); (case zm => k_mem); (case zd => assumption)) | (refine' name_free ?zN rfl rfl rfl ?zm ?zd rfl rfl ?_; (case zN => assumption); (case zm => k_mem); (case zd => assumption)) | (refine' name_built ?zF ?zX ?zT ?ze ?zv ?zn ?_ ?zg ?zb ?zk ?zx ?zd; (case zF => k_asm); (case zX => k_asm); (case zT => k_asm); (case ze => k_is); (case zv => boot_by_name); (case zn => decide); (case zg => rfl); (case zb => rfl); (case zk => rfl); (case zx => rfl); (case zd => rfl))))) | walk1))))
          (rename Fr _ _ _ _ => lF)
          (rename News _ _ _ _ => lN)
          (refine' Cl.useR (c_items x dx l t1' t2' t3' ht' hn' nl (letter n 0) (pad (P0 - P1).toNat (S0 - S1 - (P0 - P1)).toNat) (letter n 1) (pad (P1 - P2).toNat (S1 - S2 - (P1 - P2)).toNat) (letter n 2) (pad (P2 - P3).toNat (S2 - S3 - (P2 - P3)).toNat) y1 z1 y2 z2 y3 z3 n1 n2 n3) ?clB ?clF ?clX lN ?clhT ?clS ?clT ?clk ?clp ?cld ?clu ?_; (case clB => k_asm); (case clF => k_asm); (case clX => k_asm); (case clhT => kcj_all); (case clT => k_asm); (case clk => rfl); (case clp => trivial); (case cld => ktr_room); (case clu => ktr_units))
          case clS =>
            rintro v T' ⟨l2, c2, rfl, rfl⟩ p hp
            exact .tail _ hp
          rintro v13 T13 h13 tk13 ⟨l2, c2, rfl, rfl⟩ ht13 F13 N13 -
          replace N13 := gone_news N13
          clear lF lN
          (try dsimp only)
          (repeat' (first | (k_unfold; (try dsimp only)) | ((fail_if_success (with_reducible show wpAny _ _ ((compareOp _ _ _)) _ _ _)); (first | ((with_reducible show wpAny _ _ (eval (Expr.Name _ _) _) _ _ _); (k_here; k_dflt (first | (refine' name_local ?zF ?z1 ?z2 ?z3 ?z4 ?_; (case zF => assumption); (case z1 => rfl); (case z2 => rfl); (case z3 => (first | rfl | assumption)); (case z4 => rfl)) | (refine' name_cell ?zN rfl rfl rfl ?zm ?zd rfl ?_; (case zN => assumption); (case zm => k_mem); (case zd => assumption)) | (refine' name_free ?zN rfl rfl rfl ?zm ?zd rfl rfl ?_; (case zN => assumption); (case zm => k_mem); (case zd => assumption)) | (refine' name_built ?zF ?zX ?zT ?ze ?zv ?zn ?_ ?zg ?zb ?zk ?zx ?zd; (case zF => k_asm); (case zX => k_asm); (case zT => k_asm); (case ze => k_is); (case zv => boot_by_name); (case zn => decide); (case zg => rfl); (case zb => rfl); (case zk => rfl); (case zx => rfl); (case zd => rfl))))) | walk1))))
          -- M66
          (rename Fr _ _ _ _ => lF)
          (rename News _ _ _ _ => lN)
          (refine' eq_dataH (da := (PyData.list [PyData.tuple [PyData.str (letter n 0), PyData.str (pad (P0 - P1).toNat (S0 - S1 - (P0 - P1)).toNat)], PyData.tuple [PyData.str (letter n 1), PyData.str (pad (P1 - P2).toNat (S1 - S2 - (P1 - P2)).toNat)], PyData.tuple [PyData.str (letter n 2), PyData.str (pad (P2 - P3).toNat (S2 - S3 - (P2 - P3)).toNat)]])) (db := (PyData.list [PyData.tuple [PyData.str (letter n 0), PyData.str (pad (P0 - P1).toNat (S0 - S1 - (P0 - P1)).toNat)], PyData.tuple [PyData.str (letter n 1), PyData.str (pad (P1 - P2).toNat (S1 - S2 - (P1 - P2)).toNat)], PyData.tuple [PyData.str (letter n 2), PyData.str (pad (P2 - P3).toNat (S2 - S3 - (P2 - P3)).toNat)]])) ?ra ?rb ?sa ?sb ?su ?_)
          case ra => exact reads_list_at (News.get lN (by k_mem)) rfl rfl (ReadsAll.cons (reads_tuple_at (News.get lN (by k_mem)) rfl rfl (ReadsAll.cons (Reads.str _ _) (ReadsAll.cons (Reads.str _ _) ReadsAll.nil))) (ReadsAll.cons (reads_tuple_at (News.get lN (by k_mem)) rfl rfl (ReadsAll.cons (Reads.str _ _) (ReadsAll.cons (Reads.str _ _) ReadsAll.nil))) (ReadsAll.cons (reads_tuple_at (News.get lN (by k_mem)) rfl rfl (ReadsAll.cons (Reads.str _ _) (ReadsAll.cons (Reads.str _ _) ReadsAll.nil))) ReadsAll.nil)))
          case rb => exact reads_list_at (News.get lN (by k_mem)) rfl rfl (ReadsAll.cons (reads_tuple_at (News.get lN (by k_mem)) rfl rfl (ReadsAll.cons (Reads.str _ _) (ReadsAll.cons (Reads.str _ _) ReadsAll.nil))) (ReadsAll.cons (reads_tuple_at (News.get lN (by k_mem)) rfl rfl (ReadsAll.cons (Reads.str _ _) (ReadsAll.cons (Reads.str _ _) ReadsAll.nil))) (ReadsAll.cons (reads_tuple_at (News.get lN (by k_mem)) rfl rfl (ReadsAll.cons (Reads.str _ _) (ReadsAll.cons (Reads.str _ _) ReadsAll.nil))) ReadsAll.nil)))
          case sa => exact dues_shaped (letter_plain n (by decide)) (letter_plain n (by decide)) (letter_plain n (by decide)) (pad_plain _ _) (pad_plain _ _) (pad_plain _ _)
          case sb => exact dues_shaped (letter_plain n (by decide)) (letter_plain n (by decide)) (letter_plain n (by decide)) (pad_plain _ _) (pad_plain _ _) (pad_plain _ _)
          case su => exact Nat.le_of_ble_eq_true rfl
          rw [dues_same]
          (repeat' (first | (k_unfold; (try dsimp only)) | ((fail_if_success (with_reducible show wpAny _ _ ((call (Value.ref 999) _ _)) _ _ _)); (first | ((with_reducible show wpAny _ _ (eval (Expr.Name _ _) _) _ _ _); (k_here; k_dflt (first | (refine' name_local ?zF ?z1 ?z2 ?z3 ?z4 ?_; (case zF => assumption); (case z1 => rfl); (case z2 => rfl); (case z3 => (first | rfl | assumption)); (case z4 => rfl)) | (refine' name_cell ?zN rfl rfl rfl ?zm ?zd rfl ?_; (case zN => assumption); (case zm => k_mem); (case zd => assumption)) | (refine' name_free ?zN rfl rfl rfl ?zm ?zd rfl rfl ?_; (case zN => assumption); (case zm => k_mem); (case zd => assumption)) | (refine' name_built ?zF ?zX ?zT ?ze ?zv ?zn ?_ ?zg ?zb ?zk ?zx ?zd; (case zF => k_asm); (case zX => k_asm); (case zT => k_asm); (case ze => k_is); (case zv => boot_by_name); (case zn => decide); (case zg => rfl); (case zb => rfl); (case zk => rfl); (case zx => rfl); (case zd => rfl))))) | walk1))))
          -- M67
          exact fin _ _ _ lF)
end

theorem PySem.Challenge.cw_xg0068_01_holds : PySem.Challenge.rw_xg0068_01.Holds :=
  Mine.law_holds4
