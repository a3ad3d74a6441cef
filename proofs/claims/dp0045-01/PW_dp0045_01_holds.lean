import PyProof.Rows.All
import Wide.All
import OpenK.AllK
import Wide.FinOn
import Lean
import PySem.Challenge.RW_dp0045_01
open PySem PySem.W PyProof.Rows
set_option Elab.async false
set_option maxRecDepth 100000
set_option maxHeartbeats 8000000
namespace Mine
open_top hd for PySem.Challenge.rw_dp0045_01
end Mine
namespace Mine
theorem entry_set_lt : entryFor table "set.__lt__" = some Builtin.«frozenset.__lt__» :=
  entryFor_alias (id' := "frozenset.__lt__") (by kernel_rfl) rfl (by decide +kernel) (by kernel_rfl)

section
variable {prog : Program} {w : World} {A : Around} {E : Value → Shared → Prop} {s : Shared}

theorem wpAny_sizeOf {a : Addr} {o : Obj} {es : Array (Int × Value)} {ep : Nat} {t : SetTable} {Q : Nat → Shared → Prop}
    (ho : s.heap.get? a = some o) (hd : o.data = .set es ep t) (hf : t.fits es.size = true) (h : Q es.size s) : wpAny (model prog w) A (Builtin.Frozenset.sizeOf a) Q E s := by
  unfold Builtin.Frozenset.sizeOf
  exact wpAny_bind (wpAny_setEntries_of ho hd hf (wpAny_pure h))

theorem quiet_of {e : Int × Value} {l : List (Int × Value)} (hel : ElemsOf (intKind prog w) l) (he : e ∈ l) : Builtin.Frozenset.quietEq e.2 = pure true := by
  obtain ⟨⟨k, hk, _⟩, _⟩ := hel e he
  obtain ⟨t, ht⟩ := Value.isInt_shape hk
  rw [ht]; rfl

theorem wpAny_walkUnseen {a b : Addr} {o o' : Obj} {es es' : Array (Int × Value)} {ep ep' : Nat} {t t' : SetTable} {Q : List (Int × Value) → Shared → Prop}
    (ho : s.heap.get? a = some o) (hd : o.data = .set es ep t) (hf : t.fits es.size = true) (hel : ElemsOf (intKind prog w) es.toList)
    (ho' : s.heap.get? b = some o') (hd' : o'.data = .set es' ep' t') (hf' : t'.fits es'.size = true) (hel' : ElemsOf (intKind prog w) es'.toList)
    (h : Q es.toList s) : wpAny (model prog w) A (Builtin.Frozenset.walkUnseen a b) Q E s := by
  unfold Builtin.Frozenset.walkUnseen
  refine wpAny_bind (wpAny_setEntries_of ho hd hf ?_)
  refine wpAny_bind (wpAny_setEntries_of ho' hd' hf' ?_)
  have hall : ∀ e ∈ es.toList ++ es'.toList, Builtin.Frozenset.quietEq e.2 = pure true := fun e he => (List.mem_append.mp he).elim (quiet_of hel) (quiet_of hel')
  refine wpAny_bind (wpAny_forIn_list _ (fun l b s' => (∀ e ∈ l, Builtin.Frozenset.quietEq e.2 = pure true) ∧ b = (none, ()) ∧ s = s') _ ?_ ?_ _ _ ⟨hall, rfl, rfl⟩)
  · rintro ⟨h1, x⟩ rest b' s' ⟨hq, rfl, rfl⟩
    dsimp only
    rw [hq _ (.head _)]
    refine wpAny_bind (wpAny_pure ?_)
    exact wpAny_pure ⟨fun e he => hq e (.tail _ he), rfl, rfl⟩
  · rintro b' s' ⟨_, rfl, rfl⟩
    exact wpAny_pure h

theorem wpAny_subsetOf {nm : String} {a b : Addr} {S S' : Int → Bool} {n m : Nat} {sub : Bool} {Q : Bool → Shared → Prop}
    (hS : s.heap.SetOf (intKind prog w) a S n) (hS' : s.heap.SetOf (intKind prog w) b S' m) (hnm : n ≤ m) (hsub : sub = true ↔ ∀ k, S k = true → S' k = true)
    (h : Q sub s) : wpAny (model prog w) A (Builtin.Frozenset.subsetOf nm a b) Q E s := by
  obtain ⟨o, es, ep, t, ho, hex, hd, hel, hmem, hsb, hf, hn⟩ := hS
  obtain ⟨o', es', ep', t', ho', hex', hd', hel', hmem', hsb', hf', hn'⟩ := id hS'
  unfold Builtin.Frozenset.subsetOf
  refine wpAny_bind (wpAny_sizeOf ho hd hf (wpAny_bind (wpAny_sizeOf ho' hd' hf' ?_)))
  rw [if_neg (by omega)]
  refine wpAny_bind (wpAny_setEpoch_of ho hd hf ?_)
  refine wpAny_bind (wpAny_walkUnseen ho hd hf hel ho' hd' hf' hel' ?_)
  refine wpAny_bind (wpAny_forIn_list _ (fun l b s' => ElemsOf (intKind prog w) l ∧ (∀ e ∈ l, e ∈ es.toList) ∧ (sub = true ↔ ∀ e ∈ l, ∀ k, (intKind prog w).is k e.2 = true → S' k = true) ∧ b = (none, ()) ∧ s = s') _ ?_ ?_ _ _ ⟨hel, fun _ h => h, ?_, rfl, rfl⟩)
  · rintro ⟨h1, x⟩ rest b' s' ⟨hq, hin, hs, rfl, rfl⟩
    dsimp only
    obtain ⟨⟨k, hk, hh⟩, hsc⟩ := hq.head
    dsimp only at hk hh hsc
    subst hh
    refine wpAny_bind (wpAny_holding (wpAny_setFind_of hk hsc hS' fun r hr => ?_))
    cases hSk : S' k with
    | false =>
      rw [hSk] at hr
      have : r = none := by cases r <;> simp_all
      subst this
      refine wpAny_pure ?_
      have hsf : sub = false := by
        cases sub with
        | false => rfl
        | true => have := hs.mp rfl _ (.head _) k hk; rw [hSk] at this; cases this
      exact wpAny_pure (hsf ▸ h)
    | true =>
      rw [hSk] at hr
      obtain ⟨i, rfl⟩ := Option.isSome_iff_exists.mp hr
      dsimp only [Option.isNone]
      rw [if_neg (by simp)]
      refine wpAny_bind ?_
      unfold Builtin.Frozenset.unchanged
      refine wpAny_bind (wpAny_setEpoch_of ho hd hf ?_)
      rw [if_neg (by simp)]
      refine wpAny_pure (wpAny_pure ⟨hq.tail, fun e he => hin e (.tail _ he), hs.trans ⟨fun f e he => f e (.tail _ he), fun f e he k' hk' => ?_⟩, rfl, rfl⟩)
      rcases List.mem_cons.mp he with rfl | he
      · rw [(intKind prog w).inj x k' k hk' hk]; exact hSk
      · exact f e he k' hk'
  · rintro b' s' ⟨_, _, hs, rfl, rfl⟩
    have : sub = true := hs.mpr (fun e he => nomatch he)
    exact wpAny_pure (this ▸ h)
  · rw [hsub]
    constructor
    · intro f e he k hk
      exact f k ((hmem k).mpr ⟨e, he, hk⟩)
    · intro f k hk
      obtain ⟨e, he, hk'⟩ := (hmem k).mp hk
      exact f e he k hk'

theorem call_set_lt {a b : Addr} {S S' : Int → Bool} {n m : Nat} {sub : Bool} {Q : Value → Shared → Prop}
    (hS : s.heap.SetOf (intKind prog w) a S n) (hS' : s.heap.SetOf (intKind prog w) b S' m) (hsub : sub = true ↔ ∀ k, S k = true → S' k = true)
    (h : Q (.bool (decide (n < m) && sub)) s) : wpAny (model prog w) A (call (.builtin "set.__lt__") [.ref a, .ref b]) Q E s := by
  have hT := hS.typeIs
  have hU := hS'.typeIs
  have hs1 := sub_set_self
  obtain ⟨o, es, ep, t, ho, hex, hd, hel, hmem, hsb, hf, hn⟩ := id hS
  obtain ⟨o', es', ep', t', ho', hex', hd', hel', hmem', hsb', hf', hn'⟩ := id hS'
  refine wpAny_call_entry F.slot_set_lt hT entry_set_lt ?_ (F.args_set_lt_2 _ _)
  unfold Builtin.«frozenset.__lt__»
  wp_walk using wpAny_sizeOf ho hd hf, wpAny_sizeOf ho' hd' hf', wpAny_subsetOf hS hS'
  by_cases hlt : n < m
  · rw [if_neg (by omega)]
    refine wpAny_bind (wpAny_subsetOf hS hS' (by omega) hsub ?_)
    refine wpAny_pure ⟨_, rfl, ?_⟩
    rwa [decide_eq_true hlt, Bool.true_and] at h
  · rw [if_pos (by omega)]
    refine wpAny_pure ⟨_, rfl, ?_⟩
    rwa [decide_eq_false hlt, Bool.false_and] at h

theorem set_lt {a b : Addr} {S S' : Int → Bool} {n m : Nat} {sub : Bool} {Q : Value → Shared → Prop}
    (hS : s.heap.SetOf (intKind prog w) a S n) (hS' : s.heap.SetOf (intKind prog w) b S' m) (hsub : sub = true ↔ ∀ k, S k = true → S' k = true)
    (hu : A.units < cLine) (h : Q (.bool (decide (n < m) && sub)) s) : wpAny (model prog w) A (compareOp .Lt (.ref a) (.ref b)) Q E s := by
  refine cmp_ofLt (wpAny_richCompare_same_room hS.typeIs hS'.typeIs F.slot_set_lt (call_set_lt hS hS' hsub ⟨?_, h⟩) hu)
  intro e; cases e
end
end Mine
namespace Mine

/-! the heap's algorithm over plain lists, `r` the order that is asked -/
def downL {α : Type} [Inhabited α] (r : α → α → Bool) (x : α) (st : Nat) (l : List α) (pos : Nat) : List α :=
  if st < pos then
    if r x (l.getD ((pos - 1) / 2) default) then downL r x st (l.set pos (l.getD ((pos - 1) / 2) default)) ((pos - 1) / 2)
    else l.set pos x
  else l.set pos x
termination_by pos
decreasing_by omega

/-- the child that goes up -/
def kid {α : Type} [Inhabited α] (r : α → α → Bool) (l : List α) (pos : Nat) : Nat :=
  if 2 * pos + 2 < l.length ∧ r (l.getD (2 * pos + 1) default) (l.getD (2 * pos + 2) default) = false then 2 * pos + 2 else 2 * pos + 1

/-- down to a leaf: the list with the hole, the hole's place -/
def holeL {α : Type} [Inhabited α] (r : α → α → Bool) (l : List α) (pos : Nat) : List α × Nat :=
  if _h : 2 * pos + 1 < l.length then holeL r (l.set pos (l.getD (kid r l pos) default)) (kid r l pos) else (l, pos)
termination_by l.length - pos
decreasing_by
  simp only [List.length_set]
  have : pos < kid r l pos := by unfold kid; split <;> omega
  omega

def upL {α : Type} [Inhabited α] (r : α → α → Bool) (l : List α) (pos : Nat) : List α :=
  let x := l.getD pos default
  let q := holeL r l pos
  downL r x pos (q.1.set q.2 x) q.2

def heapL {α : Type} [Inhabited α] (r : α → α → Bool) (l : List α) : Nat → List α
  | 0 => l
  | k + 1 => heapL r (upL r l k) k

theorem downL_length {α : Type} [Inhabited α] (r : α → α → Bool) (x : α) (st : Nat) (l : List α) (pos : Nat) : (downL r x st l pos).length = l.length := by
  fun_induction downL r x st l pos with
  | case1 l pos h1 h2 ih => rw [ih, List.length_set]
  | case2 => rw [List.length_set]
  | case3 => rw [List.length_set]

theorem holeL_length {α : Type} [Inhabited α] (r : α → α → Bool) (l : List α) (pos : Nat) : (holeL r l pos).1.length = l.length := by
  fun_induction holeL r l pos with
  | case1 l pos h ih => rw [ih, List.length_set]
  | case2 => rfl
theorem upL_length {α : Type} [Inhabited α] (r : α → α → Bool) (l : List α) (pos : Nat) : (upL r l pos).length = l.length := by
  unfold upL
  rw [downL_length, List.length_set, holeL_length]

/-! what is inside stays inside -/
theorem downL_mem {α : Type} [Inhabited α] (r : α → α → Bool) (x : α) (st : Nat) (l : List α) (pos : Nat) (h : pos < l.length) : ∀ y ∈ downL r x st l pos, y = x ∨ y ∈ l := by
  fun_induction downL r x st l pos with
  | case1 l pos h1 h2 ih =>
    intro y hy
    rcases ih (by rw [List.length_set]; omega) y hy with e | e
    · exact .inl e
    · rcases List.mem_or_eq_of_mem_set e with e | e
      · exact .inr e
      · refine .inr (e ▸ ?_)
        rw [List.getD_eq_getElem?_getD, List.getElem?_eq_getElem (by omega)]
        exact List.getElem_mem _
  | case2 l pos h1 h2 =>
    intro y hy
    exact (List.mem_or_eq_of_mem_set hy).symm
  | case3 l pos h1 =>
    intro y hy
    exact (List.mem_or_eq_of_mem_set hy).symm
theorem kid_lt {α : Type} [Inhabited α] (r : α → α → Bool) (l : List α) (pos : Nat) (h : 2 * pos + 1 < l.length) : kid r l pos < l.length ∧ pos < kid r l pos := by
  unfold kid; split <;> omega
theorem holeL_lt {α : Type} [Inhabited α] (r : α → α → Bool) (l : List α) (pos : Nat) (h : pos < l.length) : (holeL r l pos).2 < l.length := by
  fun_induction holeL r l pos with
  | case1 l pos h1 ih => rw [List.length_set] at ih; exact ih (kid_lt r l pos h1).1
  | case2 l pos h1 => exact h
theorem holeL_mem {α : Type} [Inhabited α] (r : α → α → Bool) (l : List α) (pos : Nat) : ∀ y ∈ (holeL r l pos).1, y ∈ l := by
  fun_induction holeL r l pos with
  | case1 l pos h1 ih =>
    intro y hy
    rcases List.mem_or_eq_of_mem_set (ih y hy) with e | e
    · exact e
    · rw [e, List.getD_eq_getElem?_getD, List.getElem?_eq_getElem (kid_lt r l pos h1).1]
      exact List.getElem_mem _
  | case2 l pos h1 => exact fun y hy => hy
theorem upL_mem {α : Type} [Inhabited α] (r : α → α → Bool) (l : List α) (pos : Nat) (h : pos < l.length) : ∀ y ∈ upL r l pos, y ∈ l := by
  intro y hy
  have hx : l.getD pos default ∈ l := by
    rw [List.getD_eq_getElem?_getD, List.getElem?_eq_getElem h]; exact List.getElem_mem h
  unfold upL at hy
  rcases downL_mem r _ _ _ _ (by rw [List.length_set, holeL_length]; exact holeL_lt r l pos h) y hy with e | e
  · exact e ▸ hx
  · rcases List.mem_or_eq_of_mem_set e with e | e
    · exact holeL_mem r l pos y e
    · exact e ▸ hx

end Mine
namespace Mine
section
variable {α : Type} [Inhabited α] (r : α → α → Bool) (x : α)

/-- the same, with the place where it ends -/
def downP (st : Nat) (l : List α) (pos : Nat) : List α × Nat :=
  if st < pos then
    if r x (l.getD ((pos - 1) / 2) default) then downP st (l.set pos (l.getD ((pos - 1) / 2) default)) ((pos - 1) / 2)
    else (l.set pos x, pos)
  else (l.set pos x, pos)
termination_by pos
decreasing_by omega

theorem downP_fst (st : Nat) (l : List α) (pos : Nat) : (downP r x st l pos).1 = downL r x st l pos := by
  fun_induction downP r x st l pos with
  | case1 l pos h1 h2 ih => rw [ih]; conv => rhs; rw [downL.eq_def, if_pos h1, if_pos h2]
  | case2 l pos h1 h2 => rw [downL.eq_def, if_pos h1, if_neg h2]
  | case3 l pos h1 => rw [downL.eq_def, if_neg h1]

inductive Desc (p : Nat) : Nat → Prop
  | self : Desc p p
  | left {k : Nat} : Desc p k → Desc p (2 * k + 1)
  | right {k : Nat} : Desc p k → Desc p (2 * k + 2)
theorem Desc.le {p k : Nat} (h : Desc p k) : p ≤ k := by
  induction h with
  | self => exact Nat.le_refl _
  | left _ ih => omega
  | right _ ih => omega
theorem Desc.trans {p c k : Nat} (h1 : Desc p c) (h2 : Desc c k) : Desc p k := by
  induction h2 with
  | self => exact h1
  | left _ ih => exact ih.left
  | right _ ih => exact ih.right
theorem Desc.parent {p k : Nat} (h : Desc p k) (hk : k ≠ p) : Desc p ((k - 1) / 2) ∧ 0 < k := by
  cases h with
  | self => exact absurd rfl hk
  | left h => rename_i k'; rw [show (2 * k' + 1 - 1) / 2 = k' by omega]; exact ⟨h, by omega⟩
  | right h => rename_i k'; rw [show (2 * k' + 2 - 1) / 2 = k' by omega]; exact ⟨h, by omega⟩
theorem Desc.of_parent {p k : Nat} (hk : 0 < k) (h : Desc p ((k - 1) / 2)) : Desc p k := by
  rcases Nat.mod_two_eq_zero_or_one k with e | e
  · have : k = 2 * ((k - 1) / 2) + 2 := by omega
    rw [this]; exact h.right
  · have : k = 2 * ((k - 1) / 2) + 1 := by omega
    rw [this]; exact h.left
theorem Desc.split {p k : Nat} (h : Desc p k) : k = p ∨ Desc (2 * p + 1) k ∨ Desc (2 * p + 2) k := by
  induction h with
  | self => exact .inl rfl
  | left _ ih =>
    rcases ih with rfl | ih | ih
    · exact .inr (.inl .self)
    · exact .inr (.inl ih.left)
    · exact .inr (.inr ih.left)
  | right _ ih =>
    rcases ih with rfl | ih | ih
    · exact .inr (.inr .self)
    · exact .inr (.inl ih.right)
    · exact .inr (.inr ih.right)
/-- two brothers share nothing below -/
theorem Desc.apart {p k : Nat} (h1 : Desc (2 * p + 1) k) (h2 : Desc (2 * p + 2) k) : False := by
  induction h1 with
  | self => exact absurd h2.le (by omega)
  | left h ih =>
    rename_i k'
    obtain ⟨h3, _⟩ := h2.parent (by have := h.le; omega)
    rw [show (2 * k' + 1 - 1) / 2 = k' by omega] at h3
    exact ih h3
  | right h ih =>
    rename_i k'
    by_cases e : 2 * k' + 2 = 2 * p + 2
    · have : k' = p := by omega
      subst this
      exact absurd h.le (by omega)
    · obtain ⟨h3, _⟩ := h2.parent e
      rw [show (2 * k' + 2 - 1) / 2 = k' by omega] at h3
      exact ih h3

theorem getD_set_ne {l : List α} {i j : Nat} {y : α} (h : i ≠ j) : (l.set i y).getD j default = l.getD j default := by
  rw [List.getD_eq_getElem?_getD, List.getD_eq_getElem?_getD, List.getElem?_set_ne h]
theorem getD_set_eq {l : List α} {i : Nat} {y : α} (h : i < l.length) : (l.set i y).getD i default = y := by
  rw [List.getD_eq_getElem?_getD, List.getElem?_set_self h]; rfl
theorem set_getD {l : List α} {i : Nat} (h : i < l.length) : l.set i (l.getD i default) = l := by
  rw [List.getD_eq_getElem?_getD, List.getElem?_eq_getElem h]; exact List.set_getElem_self h

theorem downP_over (st : Nat) (l : List α) (pos : Nat) (y : α) : downP r x st (l.set pos y) pos = downP r x st l pos := by
  rw [downP.eq_def, downP.eq_def r x st l pos]
  by_cases h : st < pos
  · rw [if_pos h, if_pos h, getD_set_ne (by omega : pos ≠ (pos - 1) / 2), List.set_set, List.set_set]
  · rw [if_neg h, if_neg h, List.set_set]

/-- up to the place c first, then the one step further -/
theorem downP_split {p c : Nat} (hpc : p < c) : ∀ (pos : Nat) (l : List α), Desc c pos →
    downP r x p l pos = if (downP r x c l pos).2 = c then downP r x p (downP r x c l pos).1 c else downP r x c l pos := by
  intro pos
  induction pos using Nat.strongRecOn with
  | _ pos ih =>
    intro l hd
    by_cases he : pos = c
    · subst he
      have e : downP r x pos l pos = (l.set pos x, pos) := by rw [downP.eq_def, if_neg (Nat.lt_irrefl _)]
      rw [e, if_pos rfl, downP_over]
    · obtain ⟨hp, h0⟩ := hd.parent he
      have hlt : c < pos := Nat.lt_of_le_of_ne hd.le (Ne.symm he)
      rw [downP.eq_def, if_pos (Nat.lt_trans hpc hlt)]
      rw [downP.eq_def r x c l pos, if_pos hlt]
      by_cases hr : r x (l.getD ((pos - 1) / 2) default) = true
      · rw [if_pos hr, if_pos hr]
        exact ih _ (by omega) _ hp
      · rw [if_neg hr, if_neg hr, if_neg he]

theorem holeL_desc (l : List α) (pos : Nat) : Desc pos (holeL r l pos).2 := by
  fun_induction holeL r l pos with
  | case1 l pos h ih =>
    refine Desc.trans ?_ ih
    unfold kid
    split
    · exact Desc.self.right
    · exact Desc.self.left
  | case2 l pos h => exact .self

/-- the whole of siftup, with the place where the item ends -/
def upP (l : List α) (p : Nat) : List α × Nat := downP r x p ((holeL r l p).1.set (holeL r l p).2 x) (holeL r l p).2

theorem upP_leaf {l : List α} {p : Nat} (h : ¬ 2 * p + 1 < l.length) : upP r x l p = (l.set p x, p) := by
  unfold upP
  rw [holeL.eq_def, dif_neg h]
  dsimp only
  rw [downP.eq_def, if_neg (Nat.lt_irrefl _), List.set_set]

theorem kid_or (l : List α) (p : Nat) : kid r l p = 2 * p + 1 ∨ kid r l p = 2 * p + 2 := by
  unfold kid; split
  · exact .inr rfl
  · exact .inl rfl
theorem kid_desc (l : List α) (p : Nat) : Desc p (kid r l p) := by
  rcases kid_or r l p with e | e <;> rw [e]
  · exact Desc.self.left
  · exact Desc.self.right

theorem upP_step {l : List α} {p : Nat} (h : 2 * p + 1 < l.length) :
    upP r x l p = if (upP r x (l.set p (l.getD (kid r l p) default)) (kid r l p)).2 = kid r l p
      then downP r x p (upP r x (l.set p (l.getD (kid r l p) default)) (kid r l p)).1 (kid r l p)
      else upP r x (l.set p (l.getD (kid r l p) default)) (kid r l p) := by
  have hpc : p < kid r l p := (kid_lt r l p h).2
  conv => lhs; unfold upP; rw [holeL.eq_def, dif_pos h]
  rw [downP_split r x hpc _ _ (holeL_desc r _ _)]
  rfl

theorem upP_fst (l : List α) (p : Nat) : (upP r (l.getD p default) l p).1 = upL r l p := by
  unfold upP upL
  rw [downP_fst]

theorem upP_len (l : List α) (p : Nat) : (upP r x l p).1.length = l.length := by
  unfold upP
  rw [downP_fst, downL_length, List.length_set, holeL_length]

theorem downP_off (st : Nat) (l : List α) (pos : Nat) (c : Nat) (hc : c ≤ st) (hd : Desc c pos) : ∀ i, ¬ Desc c i → (downP r x st l pos).1.getD i default = l.getD i default := by
  fun_induction downP r x st l pos with
  | case1 l pos h1 h2 ih =>
    intro i hi
    have hp := (hd.parent (by omega)).1
    rw [ih hp i hi, getD_set_ne (fun (e : pos = i) => hi (e ▸ hd))]
  | case2 l pos h1 h2 => intro i hi; exact getD_set_ne (fun (e : pos = i) => hi (e ▸ hd))
  | case3 l pos h1 => intro i hi; exact getD_set_ne (fun (e : pos = i) => hi (e ▸ hd))
theorem downP_desc (st : Nat) (l : List α) (pos : Nat) (c : Nat) (hc : c ≤ st) (hd : Desc c pos) : Desc c (downP r x st l pos).2 := by
  fun_induction downP r x st l pos with
  | case1 l pos h1 h2 ih => exact ih (hd.parent (by omega)).1
  | case2 l pos h1 h2 => exact hd
  | case3 l pos h1 => exact hd
theorem upP_desc (l : List α) (p : Nat) : Desc p (upP r x l p).2 := downP_desc r x p _ _ p (Nat.le_refl _) (holeL_desc r l p)
theorem holeL_off (l : List α) (pos : Nat) : ∀ i, ¬ Desc pos i → (holeL r l pos).1.getD i default = l.getD i default := by
  fun_induction holeL r l pos with
  | case1 l pos h ih =>
    intro i hi
    rw [ih i (fun q => hi ((kid_desc r l pos).trans q)), getD_set_ne (fun (e : pos = i) => hi (e ▸ .self))]
  | case2 l pos h => exact fun _ _ => rfl
theorem upP_off (l : List α) (p : Nat) : ∀ i, ¬ Desc p i → (upP r x l p).1.getD i default = l.getD i default := by
  intro i hi
  unfold upP
  rw [downP_off r x p _ _ p (Nat.le_refl _) (holeL_desc r l p) i hi, getD_set_ne (fun (e : (holeL r l p).2 = i) => hi (e ▸ holeL_desc r l p)), holeL_off r l p i hi]
end

section
variable {α : Type} [Inhabited α] {r : α → α → Bool}
/-- below p, p's own children aside -/
def HBelow (r : α → α → Bool) (l : List α) (p : Nat) : Prop := ∀ k, 0 < k → k < l.length → Desc p ((k - 1) / 2) → (k - 1) / 2 ≠ p → r (l.getD k default) (l.getD ((k - 1) / 2) default) = false
def HSub (r : α → α → Bool) (l : List α) (p : Nat) : Prop := ∀ k, 0 < k → k < l.length → Desc p ((k - 1) / 2) → r (l.getD k default) (l.getD ((k - 1) / 2) default) = false

theorem upP_main (hasym : ∀ a b, r a b = true → r b a = false) (htr : ∀ a b c, r a b = true → r b c = true → r a c = true) (x : α) : ∀ (n : Nat) (l : List α) (p : Nat), l.length - p = n → p < l.length → HBelow r l p →
    HSub r (upP r x l p).1 p ∧ ((upP r x l p).2 = p → (upP r x l p).1 = l.set p x) ∧ ((upP r x l p).2 ≠ p → 2 * p + 1 < l.length ∧ (upP r x l p).1.getD p default = l.getD (kid r l p) default) := by
  intro n
  induction n using Nat.strongRecOn with
  | _ n ih =>
    intro l p hn hp hB
    by_cases h : 2 * p + 1 < l.length
    · obtain ⟨hcl, hpc⟩ := kid_lt r l p h
      have hl' : (l.set p (l.getD (kid r l p) default)).length = l.length := List.length_set ..
      have hB' : HBelow r (l.set p (l.getD (kid r l p) default)) (kid r l p) := by
        intro k h0 hk hd hne
        rw [hl'] at hk
        have hle := hd.le
        rw [getD_set_ne (by omega), getD_set_ne (by omega)]
        exact hB k h0 hk ((kid_desc r l p).trans hd) (by omega)
      obtain ⟨hS, hq1, hq2⟩ := ih (l.length - kid r l p) (by omega) (l.set p (l.getD (kid r l p) default)) (kid r l p) (by rw [hl']) (by rw [hl']; exact hcl) hB'
      have hpd : ¬ Desc (kid r l p) p := fun q => absurd q.le (by omega)
      have hoff := upP_off r x (l.set p (l.getD (kid r l p) default)) (kid r l p)
      have hlen := upP_len r x (l.set p (l.getD (kid r l p) default)) (kid r l p)
      have hP : (upP r x (l.set p (l.getD (kid r l p) default)) (kid r l p)).1.getD p default = l.getD (kid r l p) default := by
        rw [hoff p hpd, getD_set_eq hp]
      -- the brother is not below what went up
      have hbro : ∀ k, 0 < k → k < l.length → (k - 1) / 2 = p → k ≠ kid r l p → r (l.getD k default) (l.getD (kid r l p) default) = false := by
        intro k h0 hk hpar hne
        unfold kid at hne ⊢
        split
        · rename_i hc
          rw [if_pos hc] at hne
          have e : k = 2 * p + 1 := by omega
          rw [e]; exact hc.2
        · rename_i hc
          rw [if_neg hc] at hne
          have e : k = 2 * p + 2 := by omega
          subst e
          cases hr : r (l.getD (2 * p + 1) default) (l.getD (2 * p + 2) default) with
          | false => exact absurd ⟨hk, hr⟩ hc
          | true => exact hasym _ _ hr
      rw [upP_step r x h]
      have hdesc := upP_desc r x (l.set p (l.getD (kid r l p) default)) (kid r l p)
      have hcd0 := kid_desc r l p
      generalize hU : upP r x (l.set p (l.getD (kid r l p) default)) (kid r l p) = U at hS hq1 hq2 hoff hlen hP hdesc ⊢
      generalize hv : l.getD (kid r l p) default = v at *
      generalize hc : kid r l p = c at *
      have hcp : (c - 1) / 2 = p := by rcases kid_or r l p with e | e <;> omega
      -- what stands elsewhere under p
      have hother : ∀ k, 0 < k → k < l.length → Desc p ((k - 1) / 2) → (k - 1) / 2 ≠ p → ¬ Desc c ((k - 1) / 2) → r (U.1.getD k default) (U.1.getD ((k - 1) / 2) default) = false := by
        intro k h0 hk hd hne hnd
        have hkc : ¬ Desc c k := fun q => hnd ((q.parent (by rintro rfl; exact hne hcp)).1)
        have hle := hd.le
        rw [hoff k hkc, hoff _ hnd, getD_set_ne (by omega), getD_set_ne (by omega)]
        exact hB k h0 hk hd hne
      by_cases hq : U.2 = c
      · rw [if_pos hq]
        have hU1 := hq1 hq
        rw [downP.eq_def, if_pos hpc, hcp]
        rw [hP]
        by_cases hr : r x v = true
        · rw [if_pos hr, downP.eq_def, if_neg (Nat.lt_irrefl _)]
          have hfin : (U.1.set c v).set p x = l.set p x := by
            rw [hU1, List.set_set, List.set_comm _ _ (by omega : c ≠ p), List.set_set]
            rw [← hv]
            have : (l.set p x).getD c default = l.getD c default := getD_set_ne (by omega)
            rw [← this]
            exact set_getD (by rw [List.length_set]; exact hcl)
          refine ⟨?_, fun _ => hfin, fun q => absurd rfl q⟩
          show HSub r ((U.1.set c v).set p x) p
          rw [hfin]
          intro k h0 hk hd
          rw [List.length_set] at hk
          by_cases hpar : (k - 1) / 2 = p
          · rw [hpar, getD_set_eq hp, getD_set_ne (by omega)]
            by_cases hkc : k = c
            · subst hkc; rw [hv]; exact hasym _ _ hr
            · cases hz : r (l.getD k default) x with
              | false => rfl
              | true => have := htr _ _ _ hz hr; rw [hbro k h0 hk hpar hkc] at this; cases this
          · have hle := hd.le
            rw [getD_set_ne (by omega), getD_set_ne (by omega)]
            exact hB k h0 hk hd hpar
        · rw [if_neg hr]
          have hset : U.1.set c x = U.1 := by rw [hU1, List.set_set]
          rw [hset]
          refine ⟨?_, fun q => absurd q (by show c ≠ p; omega), fun _ => ⟨h, hP⟩⟩
          intro k h0 hk hd
          rw [hlen, hl'] at hk
          by_cases hpar : (k - 1) / 2 = p
          · rw [hpar, hP]
            by_cases hkc : k = c
            · subst hkc
              rw [hU1, getD_set_eq (by rw [hl']; exact hcl)]
              cases hz : r x v with
              | false => rfl
              | true => exact absurd hz hr
            · have hkd : ¬ Desc c k := fun q => by
                obtain ⟨q1, _⟩ := q.parent hkc
                rw [hpar] at q1; exact hpd q1
              rw [hoff k hkd, getD_set_ne (by omega)]
              exact hbro k h0 hk hpar hkc
          · by_cases hcd : Desc c ((k - 1) / 2)
            · exact hS k h0 (by rw [hlen, hl']; exact hk) hcd
            · exact hother k h0 hk hd hpar hcd
      · rw [if_neg hq]
        refine ⟨?_, fun q => absurd q (fun e => ?_), fun _ => ⟨h, hP⟩⟩
        · intro k h0 hk hd
          rw [hlen, hl'] at hk
          by_cases hpar : (k - 1) / 2 = p
          · rw [hpar, hP]
            by_cases hkc : k = c
            · subst hkc
              obtain ⟨h3, h4⟩ := hq2 hq
              rw [h4]
              have h5 := (kid_lt r (l.set p v) k h3).1
              have h6 : (kid r (l.set p v) k - 1) / 2 = k := by rcases kid_or r (l.set p v) k with e | e <;> omega
              rw [hl'] at h5
              have h7 := hB (kid r (l.set p v) k) (by omega) h5 (by rw [h6]; exact hcd0) (by omega)
              rw [h6, hv] at h7
              rw [getD_set_ne (by omega)]
              exact h7
            · have hkd : ¬ Desc c k := fun q => by
                obtain ⟨q1, _⟩ := q.parent hkc
                rw [hpar] at q1; exact hpd q1
              rw [hoff k hkd, getD_set_ne (by omega)]
              exact hbro k h0 hk hpar hkc
          · by_cases hcd : Desc c ((k - 1) / 2)
            · exact hS k h0 (by rw [hlen, hl']; exact hk) hcd
            · exact hother k h0 hk hd hpar hcd
        · have := hdesc.le; omega
    · rw [upP_leaf r x h]
      refine ⟨?_, fun _ => rfl, fun q => absurd rfl q⟩
      intro k h0 hk hd
      rw [List.length_set] at hk
      have hle := hd.le
      omega

def HeapFrom (r : α → α → Bool) (l : List α) (p : Nat) : Prop := ∀ k, 0 < k → k < l.length → p ≤ (k - 1) / 2 → r (l.getD k default) (l.getD ((k - 1) / 2) default) = false

theorem upL_heap (hasym : ∀ a b, r a b = true → r b a = false) (htr : ∀ a b c, r a b = true → r b c = true → r a c = true) {l : List α} {p : Nat} (hp : p < l.length) (hH : HeapFrom r l (p + 1)) : HeapFrom r (upL r l p) p := by
  have hB : HBelow r l p := fun k h0 hk hd hne => hH k h0 hk (by have := hd.le; omega)
  obtain ⟨hS, _, _⟩ := upP_main hasym htr (l.getD p default) _ l p rfl hp hB
  have hoff := upP_off r (l.getD p default) l p
  rw [upP_fst] at hS hoff
  intro k h0 hk hle
  by_cases hd : Desc p ((k - 1) / 2)
  · exact hS k h0 hk hd
  · have hkd : ¬ Desc p k := fun q => hd (q.parent (by omega)).1
    rw [upL_length] at hk
    rw [hoff k hkd, hoff _ hd]
    refine hH k h0 hk (Nat.lt_of_le_of_ne hle fun e => hd ?_)
    rw [← e]; exact .self

theorem heapL_length (r : α → α → Bool) : ∀ (k : Nat) (l : List α), (heapL r l k).length = l.length
  | 0, _ => rfl
  | k + 1, l => (heapL_length r k _).trans (upL_length r l k)
theorem heapL_heap (hasym : ∀ a b, r a b = true → r b a = false) (htr : ∀ a b c, r a b = true → r b c = true → r a c = true) : ∀ (k : Nat) (l : List α), k ≤ l.length → HeapFrom r l k → HeapFrom r (heapL r l k) 0
  | 0, _, _, h => h
  | k + 1, l, hk, h => heapL_heap hasym htr k _ (by rw [upL_length]; omega) (upL_heap hasym htr hk h)
theorem heapify_heap (hasym : ∀ a b, r a b = true → r b a = false) (htr : ∀ a b c, r a b = true → r b c = true → r a c = true) (l : List α) : HeapFrom r (heapL r l (l.length / 2)) 0 :=
  heapL_heap hasym htr _ _ (by omega) fun k h0 hk hle => by omega
theorem set0_heap {l : List α} {x : α} (h : HeapFrom r l 0) : HeapFrom r (l.set 0 x) 1 := by
  intro k h0 hk hle
  rw [List.length_set] at hk
  rw [getD_set_ne (by omega), getD_set_ne (by omega)]
  exact h k h0 hk (by omega)
theorem dropLast_heap {l : List α} (h : HeapFrom r l 0) : HeapFrom r l.dropLast 0 := by
  intro k h0 hk hle
  rw [List.length_dropLast] at hk
  rw [List.getD_eq_getElem?_getD, List.getD_eq_getElem?_getD, List.getElem?_dropLast, List.getElem?_dropLast, if_pos (by omega), if_pos (by omega), ← List.getD_eq_getElem?_getD, ← List.getD_eq_getElem?_getD]
  exact h k h0 (by omega) (by omega)
end

section
variable {α : Type} [Inhabited α] (r : α → α → Bool)
theorem set_perm {l : List α} {i : Nat} {x : α} (hi : i < l.length) : (l.set i x).Perm (x :: l.eraseIdx i) := by
  rw [List.set_eq_take_append_cons_drop, if_pos hi, List.eraseIdx_eq_take_drop_succ]
  exact List.perm_middle
theorem out_perm {l : List α} {i : Nat} (hi : i < l.length) : l.Perm (l.getD i default :: l.eraseIdx i) := by
  have := set_perm (x := l.getD i default) hi
  rwa [set_getD hi] at this
theorem swap_perm {l : List α} {i j : Nat} {x : α} (hij : i ≠ j) (hi : i < l.length) (hj : j < l.length) : ((l.set i (l.getD j default)).set j x).Perm (l.set i x) := by
  have hj' : j < (l.set i (l.getD j default)).length := by rw [List.length_set]; exact hj
  have h1 := set_perm (x := x) hj'
  have h2 := out_perm hj'
  rw [getD_set_ne hij] at h2
  have h3 := set_perm (x := l.getD j default) hi
  have h4 : ((l.set i (l.getD j default)).eraseIdx j).Perm (l.eraseIdx i) := (h2.symm.trans h3).cons_inv
  exact h1.trans ((h4.cons x).trans (set_perm hi).symm)
theorem downL_perm (x : α) (st : Nat) (l : List α) (pos : Nat) (h : pos < l.length) : (downL r x st l pos).Perm (l.set pos x) := by
  fun_induction downL r x st l pos with
  | case1 l pos h1 h2 ih => exact (ih (by rw [List.length_set]; omega)).trans (swap_perm (by omega) h (by omega))
  | case2 => exact .refl _
  | case3 => exact .refl _
theorem holeL_perm (x : α) (l : List α) (pos : Nat) (h : pos < l.length) : ((holeL r l pos).1.set (holeL r l pos).2 x).Perm (l.set pos x) := by
  fun_induction holeL r l pos with
  | case1 l pos h1 ih =>
    obtain ⟨h2, h3⟩ := kid_lt r l pos h1
    exact (ih (by rw [List.length_set]; exact h2)).trans (swap_perm (by omega) h h2)
  | case2 => exact .refl _
theorem upL_perm (l : List α) (pos : Nat) (h : pos < l.length) : (upL r l pos).Perm l := by
  unfold upL
  have h1 := downL_perm r (l.getD pos default) pos ((holeL r l pos).1.set (holeL r l pos).2 (l.getD pos default)) (holeL r l pos).2 (by rw [List.length_set, holeL_length]; exact holeL_lt r l pos h)
  rw [List.set_set] at h1
  have h2 := holeL_perm r (l.getD pos default) l pos h
  rw [set_getD h] at h2
  exact h1.trans h2
theorem heapL_perm : ∀ (k : Nat) (l : List α), k ≤ l.length → (heapL r l k).Perm l
  | 0, _, _ => .refl _
  | k + 1, l, hk => (heapL_perm k _ (by rw [upL_length]; omega)).trans (upL_perm r l k hk)
end
end Mine
namespace Mine

/-! items: sets of ints out of 0..5, by their mask -/
def mem6 (m : Nat) (k : Int) : Bool := decide (0 ≤ k) && (decide (k < 6) && m.testBit k.toNat)
def card6 (m : Nat) : Nat := ((List.range 6).filter fun b => m.testBit b).length
def ltM (m m' : Nat) : Bool := m != m' && (m &&& m') == m

def IsItem (prog : Program) (w : World) (h : Heap) (a : Addr) (m : Nat) : Prop := m < 64 ∧ h.SetOf (intKind prog w) a (mem6 m) (card6 m)

theorem IsItem.keeps {prog : Program} {w : World} {h h' : Heap} {a : Addr} {m : Nat} (I : IsItem prog w h a m) (hk : ∀ o, h.get? a = some o → h'.get? a = some o) : IsItem prog w h' a m :=
  let ⟨hm, o, es, ep, t, ho, r⟩ := I; ⟨hm, o, es, ep, t, hk o ho, r⟩

theorem sub_iff {m m' : Nat} (hm : m < 64) : ((m &&& m') == m) = true ↔ ∀ k, mem6 m k = true → mem6 m' k = true := by
  rw [beq_iff_eq]
  constructor
  · intro e k hk
    simp only [mem6, Bool.and_eq_true, decide_eq_true_eq] at hk ⊢
    refine ⟨hk.1, hk.2.1, ?_⟩
    have h2 := hk.2.2
    rw [← e, Nat.testBit_and, Bool.and_eq_true] at h2
    exact h2.2
  · intro f
    refine Nat.eq_of_testBit_eq fun i => ?_
    rw [Nat.testBit_and]
    cases hi : m.testBit i with
    | false => rfl
    | true =>
      have hi6 : i < 6 := by
        refine Nat.lt_of_not_le fun h6 => ?_
        have : m < 2 ^ i := Nat.lt_of_lt_of_le hm (Nat.pow_le_pow_right (by omega) h6 : 2 ^ 6 ≤ 2 ^ i)
        rw [Nat.testBit_lt_two_pow this] at hi
        cases hi
      have := f (i : Int) (by simp only [mem6, Int.toNat_natCast, hi, Bool.and_true, Bool.and_eq_true, decide_eq_true_eq]; omega)
      simp only [mem6, Bool.and_eq_true, decide_eq_true_eq, Int.toNat_natCast] at this
      rw [this.2.2]; rfl

theorem card_lt_all : ∀ m : Fin 64, ∀ m' : Fin 64, (decide (card6 m.1 < card6 m'.1) && ((m.1 &&& m'.1) == m.1)) = ltM m.1 m'.1 := by decide +kernel

section
variable {prog : Program} {w : World} {A : Around} {E : Value → Shared → Prop} {s : Shared}
theorem item_lt {a b : Addr} {m m' : Nat} {Q : Value → Shared → Prop} (ha : IsItem prog w s.heap a m) (hb : IsItem prog w s.heap b m') (hu : A.units < cLine) (h : Q (.bool (ltM m m')) s) :
    wpAny (model prog w) A (compareOp .Lt (.ref a) (.ref b)) Q E s := by
  refine set_lt ha.2 hb.2 (sub_iff ha.1) hu ?_
  rw [card_lt_all ⟨m, ha.1⟩ ⟨m', hb.1⟩]
  exact h
end

/-! the world: the text's own objects and the builtins -/
abbrev Never : Value → Shared → Prop := fun _ _ => False
abbrev TT (mg mb : Str → Option Value) (h : Heap) : Prop := TopRead hd.view_39 (looseW hd.view_39 []) mg mb h
structure Wd (w : World) (mg mb : Str → Option Value) (h : Heap) : Prop where
  k : (hd.heap_39 w.params).In h
  t : TT mg mb h
theorem Wd.keeps {w : World} {mg mb : Str → Option Value} {h h' : Heap} (W : Wd w mg mb h) (hk : ∀ b o, h.get? b = some o → h'.get? b = some o) : Wd w mg mb h' := ⟨W.k.keeps hk, W.t.keeps hk⟩

/-- what a call leaves: the state's heap and tokens alone are new, what stood stands but for `as`, `as'` is there -/
structure Out (s : Shared) (as : List Addr) (as' : List (Addr × Obj)) (s' : Shared) : Prop where
  same : ∃ h' tk, s' = { s with heap := h', toks := tk }
  keep : ∀ b o, b ∉ as → s.heap.get? b = some o → s'.heap.get? b = some o
  now : ∀ p ∈ as', s'.heap.get? p.1 = some p.2

/-! the frame's names as a written list -/
def mapO : List (Str × Option Value) → Str → Option Value
  | [], _ => none
  | (k, v) :: r, y => if y = k then v else mapO r y
def putO (x : Str) (v : Value) : List (Str × Option Value) → List (Str × Option Value)
  | [] => [(x, some v)]
  | (k, u) :: r => if x = k then (k, some v) :: r else (k, u) :: putO x v r
theorem mapO_put (x : Str) (v : Value) (y : Str) : ∀ M : List (Str × Option Value), mapO (putO x v M) y = if y = x then some v else mapO M y
  | [] => rfl
  | (k, u) :: r => by
    unfold putO
    by_cases h : x = k
    · subst h
      rw [if_pos rfl]
      show (if y = x then some v else mapO r y) = if y = x then some v else if y = x then u else mapO r y
      by_cases h : y = x <;> simp [h]
    · rw [if_neg h]
      show (if y = k then u else mapO (putO x v r) y) = if y = x then some v else if y = k then u else mapO r y
      rw [mapO_put x v y r]
      by_cases h2 : y = x
      · subst h2; rw [if_neg h, if_pos rfl, if_pos rfl]
      · rw [if_neg h2, if_neg h2]
theorem mapO_none (y : Str) : ∀ extra : List Str, mapO (extra.map fun k => (k, none)) y = none
  | [] => rfl
  | k :: r => by
    show (if y = k then none else mapO (r.map fun k => (k, none)) y) = none
    rw [mapO_none y r]; split <;> rfl
theorem lookup_mapO (y : Str) (extra : List Str) : ∀ binds : List (Str × Value), binds.lookup y = mapO ((binds.map fun p => (p.1, some p.2)) ++ extra.map fun k => (k, none)) y
  | [] => (mapO_none y extra).symm
  | (k, v) :: r => by
    show List.lookup y ((k, v) :: r) = if y = k then some v else mapO ((r.map fun p => (p.1, some p.2)) ++ extra.map fun k => (k, none)) y
    rw [← lookup_mapO y extra r, List.lookup_cons]
    by_cases h : y = k
    · subst h; simp
    · rw [if_neg h, beq_eq_false_iff_ne.mpr h]
theorem lookup_perm {y : Str} : ∀ {l : List (Str × Value)}, (l.map (·.1)).Nodup → l.reverse.lookup y = l.lookup y
  | [], _ => rfl
  | (k, v) :: r, h => by
    have hr := List.nodup_cons.mp h
    rw [List.reverse_cons, List.lookup_append, lookup_perm hr.2, List.lookup_cons]
    by_cases e : y = k
    · subst e
      have : r.lookup y = none := by
        cases q : r.lookup y with
        | none => rfl
        | some v' =>
          exfalso
          refine hr.1 ?_
          clear h hr
          induction r with
          | nil => cases q
          | cons p r ih =>
            obtain ⟨k', u⟩ := p
            rw [List.lookup_cons] at q
            by_cases e : y = k'
            · subst e; exact .head _
            · rw [beq_eq_false_iff_ne.mpr e] at q; exact .tail _ (ih q)
      rw [this]; simp
    · have e' : (y == k) = false := beq_eq_false_iff_ne.mpr e
      rw [List.lookup_cons, e']
      simp
theorem frMapTo {h₀ h : Heap} {L : Addr} {m m' : Str → Option Value} (F : Fr h₀ L h m) (e : ∀ y, m y = m' y) : Fr h₀ L h m' := (funext e : m = m') ▸ F

section
variable {M : Model} {A : Around} {E : Value → Shared → Prop} {s : Shared} {name : Str} {scope : Scope} {L a : Addr} {cd : Value} {h₀ : Heap} {news : List (Addr × Obj)} {M₀ : List (Str × Option Value)}
theorem stO {x : Str} {v : Value} {Q : Unit → Shared → Prop} (F : Fr h₀ L s.heap (mapO M₀)) (N : News h₀ L s.heap news)
    (h : ∀ h', Fr h₀ L h' (mapO (putO x v M₀)) → News h₀ L h' news → Q () { s with heap := h', toks := s.toks + 1 })
    (hk : scope.kind = .function) (hl : (envOf name scope L a cd).kindOf x = some .local) :
    wpAny M A (storeName (envOf name scope L a cd) x v) Q E s := stN F N (fun h' F' N' => h h' (frMapTo F' fun y => (mapO_put x v y M₀).symm) N') hk hl
end

section
variable {prog : Program} {w : World} {A : Around} {E : Value → Shared → Prop} {s : Shared} {K : Frag}
theorem enterC {R : Result → Shared → Prop} {name qual : Str} {params : Arguments} {body : List Stmt} {scope : Scope} {dV kV doc pm cdv ct oc : Value} {an od : Option Addr} {osl : Array (Option Value)} {f : Addr} {args : List Value} {binds : List (Str × Value)}
    (extra : List Str) (as : List (Addr × Obj)) (base : Heap) (hb : ∀ b o, base.get? b = some o → s.heap.get? b = some o) (hn : ∀ p ∈ as, base.get? p.1 = none) (has : ∀ p ∈ as, s.heap.get? p.1 = some p.2)
    (X : K.In base) (hlim : base.NoLimit)
    (ho : K.lookup f = some ⟨oc, od, .func (fnOf name qual params body scope dV kV doc pm an cdv ct), osl⟩) (hcd : codeIn K cdv qual = true) (hroom : A.depth < recursionLimit)
    (hbind : BindsTo s (fnOf name qual params body scope dV kV doc pm an cdv ct) ⟨args, []⟩ binds) (hloc : ∀ y ∈ binds, scope.names.lookup y.1 = some .local)
    (h : ∀ g L h₁, (∀ b o, base.get? b = some o → g.get? b = some o) → (∀ b, s.heap.get? b = none → g.get? b = none) → Fr g L h₁ (mapO ((binds.map fun p => (p.1, some p.2)) ++ extra.map fun k => (k, none))) → News g L h₁ as →
      (∀ b o, b ∉ as.map (·.1) → s.heap.get? b = some o → g.get? b = some o) →
      wpAny (model prog w) (A.deeper (envOf qual scope L f cdv)) (execs body (envOf qual scope L f cdv))
        (fun fl s' => R (.ok (.ret (match fl with | .ret v => v | _ => .none))) s') Never
        { s with heap := h₁, toks := s.toks + binds.length })
    (hnd : (binds.map (·.1)).Nodup) (hco : scope.isCoroutine = false) (hgen : scope.isGenerator = false) (hk : scope.kind = .function)
    (hcell : ∀ x ∈ scope.names, x.2 ≠ .cell) : codeAny (model prog w) A (.call (.ref f) ⟨args, []⟩) R s := by
  refine (codeAny_call_def (fd := fnOf name qual params body scope dV kV doc pm an cdv ct) (body := body) (binds := binds) hroom (X.keeps hb _ _ ho) rfl (hlim.keeps hb) (codeRec_of (X.keeps hb) hcd) rfl hbind hcell hloc (fun h₁ hns hk₁ => ?_) hco hgen hk)
  refine wpAny_mono (h (hideAll s.heap (as.map (·.1))) s.heap.objs.size h₁ ?_ ?_ (frMapTo ⟨hns, fun b o e => hk₁ b o (of_hideAll _ e), Nat.le_of_eq (hideAll_size _ _)⟩ fun y => (lookup_perm hnd).trans (lookup_mapO y extra binds))
    (fun p hp => ⟨hk₁ _ _ (has p hp), Nat.ne_of_lt (Heap.lt_size (has p hp)), hideAll_none _ (List.mem_map_of_mem hp)⟩) (fun b o nb e => hideAll_get _ e nb)) (fun fl s' x => x) (fun _ _ x => x.elim)
  · intro b o e
    refine hideAll_get _ (hb b o e) fun hm => ?_
    obtain ⟨p, hp, rfl⟩ := List.mem_map.mp hm
    rw [hn p hp] at e; cases e
  · intro b e
    cases q : (hideAll s.heap (as.map (·.1))).get? b with
    | none => rfl
    | some o => rw [of_hideAll _ q] at e; cases e
theorem enter {Q : Value → Shared → Prop} {name qual : Str} {params : Arguments} {body : List Stmt} {scope : Scope} {dV kV doc pm cdv ct oc : Value} {an od : Option Addr} {osl : Array (Option Value)} {f : Addr} {args : List Value} {binds : List (Str × Value)}
    (extra : List Str) (as : List (Addr × Obj)) (base : Heap) (hb : ∀ b o, base.get? b = some o → s.heap.get? b = some o) (hn : ∀ p ∈ as, base.get? p.1 = none) (has : ∀ p ∈ as, s.heap.get? p.1 = some p.2)
    (X : K.In base) (hlim : base.NoLimit)
    (ho : K.lookup f = some ⟨oc, od, .func (fnOf name qual params body scope dV kV doc pm an cdv ct), osl⟩) (hcd : codeIn K cdv qual = true) (hroom : A.depth < recursionLimit)
    (hbind : BindsTo s (fnOf name qual params body scope dV kV doc pm an cdv ct) ⟨args, []⟩ binds) (hloc : ∀ y ∈ binds, scope.names.lookup y.1 = some .local)
    (h : ∀ g L h₁, (∀ b o, base.get? b = some o → g.get? b = some o) → (∀ b, s.heap.get? b = none → g.get? b = none) → Fr g L h₁ (mapO ((binds.map fun p => (p.1, some p.2)) ++ extra.map fun k => (k, none))) → News g L h₁ as →
      (∀ b o, b ∉ as.map (·.1) → s.heap.get? b = some o → g.get? b = some o) →
      wpAny (model prog w) (A.deeper (envOf qual scope L f cdv)) (execs body (envOf qual scope L f cdv))
        (fun fl s' => Q (match fl with | .ret v => v | _ => .none) s') Never
        { s with heap := h₁, toks := s.toks + binds.length })
    (hnd : (binds.map (·.1)).Nodup) (hco : scope.isCoroutine = false) (hgen : scope.isGenerator = false) (hk : scope.kind = .function)
    (hcell : ∀ x ∈ scope.names, x.2 ≠ .cell) : wpAny (model prog w) A (call (.ref f) args) Q E s :=
  wpAny_call (enterC extra as base hb hn has X hlim ho hcd hroom hbind hloc h hnd hco hgen hk hcell)
end
/-- here the walk waits -/
def Stop (P : Prop) : Prop := P
theorem of_stop {P : Prop} (h : Stop P) : P := h
end Mine
namespace Mine

/-- a list of objects -/
abbrev refsOf (l : List Addr) (n : Nat) : Obj := listOf (l.map Value.ref).toArray n

section
variable {prog : Program} {w : World} {A : Around} {E : Value → Shared → Prop} {s : Shared} {h₀ : Heap} {L D : Addr} {m : Str → Option Value} {news news' : List (Addr × Obj)} {l : List Addr} {n : Nat} {k : Int} {t u : Tok}

theorem getD_map_ref {l : List Addr} {i : Nat} (h : i < l.length) : (l.map Value.ref)[i]? = some (.ref (l.getD i default)) := by
  simp [h]

theorem ref_get {value slice : Expr} {Q : Value → Shared → Prop} (hl : s.heap.get? D = some (refsOf l n)) (h0 : 0 ≤ k) (h1 : k < l.length) (hfit : k < 2 ^ 63)
    (h : Q (.ref (l.getD k.toNat default)) s)
    (hs : subscripted slice false (.ref D) (.int k u) = operate [.ref D, .int k u] (getItem (.ref D) (.int k u)) := by with_unfolding_all rfl) (hg : ∀ r, letTemporaryGo value (.ref D) r = pure () := by intro _; with_unfolding_all rfl) :
    wpAny (model prog w) A (subscriptTail value slice (.ref D) (.int k u)) Q E s :=
  item_listL ⟨_, hl, rfl, n, rfl⟩ h0 hfit (getD_map_ref (by omega)) h hs hg

theorem ref_set {x : Addr} {Q : Unit → Shared → Prop} (F : Fr h₀ L s.heap m) (N : News h₀ L s.heap news) (U : Upd D (refsOf l n) (refsOf (l.set k.toNat x) n) news news') (h0 : 0 ≤ k) (h1 : k < l.length) (hfit : k < 2 ^ 63)
    (h : ∀ h', Fr h₀ L h' m → News h₀ L h' news' → Q () { s with heap := h' }) :
    wpAny (model prog w) A (setItem (.ref D) (.int k t) (.ref x)) Q E s := by
  obtain ⟨pre, post, rfl, rfl, a, b⟩ := U.split
  have z := N (D, refsOf l n) (List.mem_append.mpr (.inr (.head _)))
  refine ki_setAt z.1 h0 hfit (by simp; omega) (h _ (F.change (Heap.SameBut.update ..) z.2.1 z.2.2) (ki_turn _ N a b ?_ ?_))
  · show (l.map Value.ref).toArray.setIfInBounds k.toNat (.ref x) = ((l.set k.toNat x).map Value.ref).toArray
    apply Array.toList_inj.mp
    simp
  · simp

/-- a turn's end: the invariant at a lesser number -/
def Next (I : Nat → Shared → Prop) (n : Nat) (s : Shared) : Prop := ∃ m, m < n ∧ I m s
theorem while_rule {env : Env} {test : Expr} {body : List Stmt} {pos : Pos} {Q : Flow → Shared → Prop} (I : Nat → Shared → Prop) (n : Nat) (h : I n s)
    (turn : ∀ n s, I n s → wpAny (model prog w) A (isTrue test env (eval test env)) (fun b s₂ =>
        if b = true then wpAny (model prog w) A (execs body env) (fun f s₃ => match f with
            | .next | .cont => Next I n s₃
            | .brk => Q .next s₃
            | .ret v => Q (.ret v) s₃) Never s₂
        else Q .next s₂) Never s) :
    wpAny (model prog w) A (exec (.While test body [] pos) env) Q E s := by
  refine wpAny_While (codeAny_whileLoop I (fun n s hI => ?_) n h)
  refine wpAny_mono (turn n s hI) (fun b s₂ h₂ => ?_) fun _ _ x => x.elim
  cases b with
  | false =>
    simp only [Bool.false_eq_true, if_false] at h₂ ⊢
    exact wpAny_execs_nil h₂
  | true =>
    simp only [if_true] at h₂ ⊢
    refine wpAny_mono h₂ (fun f s₃ h₃ => ?_) fun _ _ x => x.elim
    cases f <;> exact h₃
end
end Mine
namespace Mine
theorem getD_mem {l : List Addr} {i : Nat} (h : i < l.length) : l.getD i default ∈ l := by
  rw [List.getD_eq_getElem?_getD, List.getElem?_eq_getElem h]; exact List.getElem_mem h
theorem item_at {prog : Program} {w : World} {g h : Heap} {L : Addr} {m : Str → Option Value} {l : List Addr} {key : Addr → Nat} {i : Nat} (F : Fr g L h m) (hit : ∀ y ∈ l, IsItem prog w g y (key y)) (hi : i < l.length) :
    IsItem prog w h (l.getD i default) (key (l.getD i default)) := (hit _ (getD_mem hi)).keeps fun o e => F.keep _ o e
theorem item_on {prog : Program} {w : World} {g h : Heap} {L : Addr} {m : Str → Option Value} {x : Addr} {k : Nat} (F : Fr g L h m) (hx : IsItem prog w g x k) : IsItem prog w h x k := hx.keeps fun o e => F.keep _ o e
theorem set_all {P : Addr → Prop} {l : List Addr} {i : Nat} {x : Addr} (h : ∀ y ∈ l, P y) (hx : P x) : ∀ y ∈ l.set i x, P y := fun y hy => (List.mem_or_eq_of_mem_set hy).elim (h y) fun e => e ▸ hx
end Mine
namespace Mine
theorem rsh1 {prog : Program} {w : World} {A : Around} {E : Value → Shared → Prop} {s : Shared} {a : Int} {t u : Tok} {Q : Value → Shared → Prop} (h : Q (.int (a / 2) s.toks) { s with toks := s.toks + 1 }) :
    wpAny (model prog w) A (binaryOp .RShift (.int a t) (.int 1 u)) Q E s := by
  refine rshift_int (by decide) ?_
  have : a.fdiv (2 ^ (1 : Int).toNat) = a / 2 := by
    show a.fdiv 2 = a / 2
    exact Int.fdiv_eq_ediv_of_nonneg a (by decide)
  rw [this]; exact h
theorem Out.of {s : Shared} {g h' : Heap} {L : Addr} {m : Str → Option Value} {news : List (Addr × Obj)} {as : List Addr} {tk : Nat} (F : Fr g L h' m) (N : News g L h' news)
    (hgs : ∀ b o, b ∉ as → s.heap.get? b = some o → g.get? b = some o) : Out s as news { s with heap := h', toks := tk } :=
  ⟨⟨h', tk, rfl⟩, fun b o nb e => F.keep b o (hgs b o nb e), fun p hp => (N p hp).1⟩
end Mine
namespace Mine
abbrev rMin (key : Addr → Nat) : Addr → Addr → Bool := fun x y => ltM (key x) (key y)
abbrev rMax (key : Addr → Nat) : Addr → Addr → Bool := fun x y => ltM (key y) (key x)

/-- behind a call that turned the object at `a` alone -/
theorem call_out {prog : Program} {w : World} {A : Around} {E : Value → Shared → Prop} {s : Shared} {g : Heap} {L a : Addr} {m : Str → Option Value} {news news' : List (Addr × Obj)} {o o' : Obj} {f : Value} {args : List Value} {v : Value} {Q : Value → Shared → Prop}
    (F : Fr g L s.heap m) (N : News g L s.heap news) (U : Upd a o o' news news')
    (hc : wpAny (model prog w) A (call f args) (fun v' s' => v' = v ∧ Out s [a] [(a, o')] s') Never s)
    (h : ∀ h' tk, Fr g L h' m → News g L h' news' → Q v { s with heap := h', toks := tk }) : wpAny (model prog w) A (call f args) Q E s := by
  obtain ⟨pre, post, rfl, rfl, h1, h2⟩ := U.split
  have z := N (a, o) (List.mem_append.mpr (.inr (.head _)))
  refine wpAny_mono hc (fun v' s' hv => ?_) fun _ _ x => x.elim
  obtain ⟨rfl, ⟨h', tk, rfl⟩, hk, hn⟩ := hv
  have hk' : ∀ b o, b ≠ a → s.heap.get? b = some o → h'.get? b = some o := fun b o nb e => hk b o (by simpa using nb) e
  obtain ⟨oL, es, ep, hL, r⟩ := F.ns
  refine h h' tk ⟨⟨oL, es, ep, hk' L oL (Ne.symm z.2.1) hL, r⟩, fun b x q => hk' b x (fun e => ?_) (F.keep b x q), F.above⟩ fun p hp => ?_
  · have := z.2.2; rw [← e, q] at this; cases this
  · rcases List.mem_append.mp hp with q | q
    · have P := N p (List.mem_append_left _ q); exact ⟨hk' _ _ (h1 p q) P.1, P.2⟩
    · rcases List.mem_cons.mp q with rfl | q
      · exact ⟨hn _ (.head _), z.2⟩
      · have P := N p (List.mem_append_right _ (.tail _ q)); exact ⟨hk' _ _ (h2 p q) P.1, P.2⟩

/-- behind a call that turned nothing -/
theorem call_still {prog : Program} {w : World} {A : Around} {E : Value → Shared → Prop} {s : Shared} {g : Heap} {L : Addr} {m : Str → Option Value} {news : List (Addr × Obj)} {f : Value} {args : List Value} {v : Value} {Q : Value → Shared → Prop}
    (F : Fr g L s.heap m) (N : News g L s.heap news)
    (hc : wpAny (model prog w) A (call f args) (fun v' s' => v' = v ∧ Out s [] [] s') Never s)
    (h : ∀ h' tk, Fr g L h' m → News g L h' news → Q v { s with heap := h', toks := tk }) : wpAny (model prog w) A (call f args) Q E s := by
  refine wpAny_mono hc (fun v' s' hv => ?_) fun _ _ x => x.elim
  obtain ⟨rfl, ⟨h', tk, rfl⟩, hk, _⟩ := hv
  have hk' : ∀ b o, s.heap.get? b = some o → h'.get? b = some o := fun b o e => hk b o (fun h => nomatch h) e
  obtain ⟨oL, es, ep, hL, r⟩ := F.ns
  exact h h' tk ⟨⟨oL, es, ep, hk' L oL hL, r⟩, fun b x q => hk' b x (F.keep b x q), F.above⟩ fun p hp => ⟨hk' _ _ (N p hp).1, (N p hp).2⟩

/-- behind a call that made one object -/
theorem call_made {prog : Program} {w : World} {A : Around} {E : Value → Shared → Prop} {s : Shared} {g : Heap} {L : Addr} {m : Str → Option Value} {news : List (Addr × Obj)} {f : Value} {args : List Value} {P : Obj → Prop} {Q : Value → Shared → Prop}
    (F : Fr g L s.heap m) (N : News g L s.heap news)
    (hc : wpAny (model prog w) A (call f args) (fun v' s' => ∃ b o, v' = .ref b ∧ P o ∧ s.heap.get? b = none ∧ Out s [] [(b, o)] s') Never s)
    (h : ∀ h' tk b o, P o → (∀ p ∈ news, p.1 ≠ b) → Fr g L h' m → News g L h' ((b, o) :: news) → Q (.ref b) { s with heap := h', toks := tk }) : wpAny (model prog w) A (call f args) Q E s := by
  refine wpAny_mono hc (fun v' s' hv => ?_) fun _ _ x => x.elim
  obtain ⟨b, o, rfl, hP, hb, ⟨h', tk, rfl⟩, hk, hn⟩ := hv
  have hk' : ∀ b o, s.heap.get? b = some o → h'.get? b = some o := fun b o e => hk b o (fun h => nomatch h) e
  obtain ⟨oL, es, ep, hL, r⟩ := F.ns
  refine h h' tk b o hP (fun p hp e => ?_) ⟨⟨oL, es, ep, hk' L oL hL, r⟩, fun b x q => hk' b x (F.keep b x q), F.above⟩ fun p hp => ?_
  · have := (N p hp).1; rw [e, hb] at this; cases this
  · rcases List.mem_cons.mp hp with rfl | hp
    · refine ⟨hn _ (.head _), fun e => ?_, ?_⟩
      · rw [show b = L from e, hL] at hb; cases hb
      · cases q : g.get? b with
        | none => rfl
        | some x => rw [F.keep _ _ q] at hb; cases hb
    · exact ⟨hk' _ _ (N p hp).1, (N p hp).2⟩
end Mine
namespace Mine
theorem ref_len {prog : Program} {w : World} {A : Around} {E : Value → Shared → Prop} {s : Shared} {D : Addr} {l : List Addr} {n : Nat} {Q : Value → Shared → Prop} (hl : s.heap.get? D = some (refsOf l n)) (hln : l.length < 1000)
    (h : Q (.int (l.length : Nat) (s.toks + 1)) { s with toks := s.toks + 1 + 1 }) : wpAny (model prog w) A (call (.builtin "len") [.ref D]) Q E s := by
  refine len_list (PySem.IsL.isList (n := n) hl) (by simp; omega) ?_
  simpa using h
end Mine
namespace Mine
section
variable {prog : Program} {w : World} {A : Around} {E : Value → Shared → Prop} {s : Shared} {h₀ : Heap} {L D : Addr} {m : Str → Option Value} {news news' : List (Addr × Obj)} {l : List Addr} {n : Nat}
theorem ref_truthy {Q : Bool → Shared → Prop} (hl : s.heap.get? D = some (refsOf l n)) (hpos : 0 < l.length) (hln : l.length < 1000) (h : Q true { s with toks := s.toks + 1 + 1 }) : wpAny (model prog w) A (truthy (.ref D)) Q E s := by
  refine wpAny_truthy_list (PySem.IsL.isList (n := n) hl) (by simp; omega) ?_
  have : (!(l.map Value.ref).toArray.isEmpty) = true := by
    cases l with
    | nil => exact absurd hpos (Nat.lt_irrefl 0)
    | cons x r => rfl
  rw [this]; exact h
theorem ref_pop {Q : Value → Shared → Prop} (F : Fr h₀ L s.heap m) (N : News h₀ L s.heap news) (U : Upd D (refsOf l n) (refsOf l.dropLast (n + 1)) news news') (hpos : 0 < l.length) (hln : l.length < 1000)
    (h : ∀ h', Fr h₀ L h' m → News h₀ L h' news' → Q (.ref (l.getD (l.length - 1) default)) { s with heap := h' }) : wpAny (model prog w) A (call (.builtin "list.pop") [.ref D]) Q E s := by
  have hne : l ≠ [] := by intro e; rw [e] at hpos; exact absurd hpos (Nat.lt_irrefl 0)
  have e1 : l.getD (l.length - 1) default = l.getLast hne := by
    rw [List.getD_eq_getElem?_getD, ← List.getLast?_eq_getElem?, List.getLast?_eq_some_getLast hne]; rfl
  have e2 : l.map Value.ref = l.dropLast.map Value.ref ++ [Value.ref (l.getD (l.length - 1) default)] := by
    rw [e1]
    conv => lhs; rw [← List.dropLast_concat_getLast hne]
    simp
  refine kl_pop F N (p := l.dropLast.map Value.ref) (y := .ref (l.getD (l.length - 1) default)) ?_ U (by simp; rw [sizeLine_eq]; omega) h
  show kl_last (l.map Value.ref) = _
  rw [e2]; exact kpa_last _ _
end
end Mine
namespace Mine
section
variable {prog : Program} {w : World} {A : Around} {E : Value → Shared → Prop} {s : Shared} {a b : Int} {t u : Tok} {Q : Value → Shared → Prop}
theorem fdivE (hb : 0 < b) (hb2 : b < 1000) (h : Q (.int (a / b) s.toks) { s with toks := s.toks + 1 }) : wpAny (model prog w) A (binaryOp .FloorDiv (.int a t) (.int b u)) Q E s := by
  refine floordiv_int (by omega) ?_ (Or.inl (PyProof.noPylong_of_log2 ?_))
  · rw [Int.fdiv_eq_ediv_of_nonneg a (by omega)]; exact h
  · have h1 : b.natAbs < 2 ^ 10 := by omega
    have h2 : b.natAbs.log2 < 10 := (Nat.log2_lt (by omega)).mpr h1
    omega
theorem fmodE (hb : 0 < b) (h : Q (.int (a % b) s.toks) { s with toks := s.toks + 1 }) : wpAny (model prog w) A (binaryOp .Mod (.int a t) (.int b u)) Q E s := by
  refine mod_int' (by omega) ?_
  rw [Int.fmod_eq_emod_of_nonneg a (by omega)]; exact h
end
/-- a target of two: a tuple of the call's own taken apart -/
theorem assign_pair {prog : Program} {w : World} {A : Around} {E : Value → Shared → Prop} {s : Shared} {env : Env} {g : Heap} {L t : Addr} {m : Str → Option Value} {news : List (Addr × Obj)} {e1 e2 : Expr} {x1} {pos : Pos} {v1 v2 : Value} {n : Nat} {Q : Unit → Shared → Prop}
    (hh : A.handled = none) (F : Fr g L s.heap m) (N : News g L s.heap news) (ht : (t, ({ cls := .type "tuple", data := .seq #[v1, v2] n } : Obj)) ∈ news)
    (hn : assignEach [e1, e2] env = [(false, assign e1 env), (false, assign e2 env)])
    (h : ∀ h', Fr g L h' m → News g L h' news → wpAny (model prog w) A (assignInOrder [assign e1 env, assign e2 env] [v1, v2]) Q E { s with heap := h' }) :
    wpAny (model prog w) A (assign (.Tuple [e1, e2] x1 pos) env (.ref t)) Q E s := by
  refine assign_Tuple_tuple (items := #[v1, v2]) hh ⟨_, (N _ ht).1, rfl, n, rfl⟩ (by rw [hn]; rfl) (by rw [hn]; rfl) fun h' he => ?_
  rw [hn]
  exact h h' (F.extBut he (Nat.le_refl _)) fun p hp => ⟨he _ _ (Nat.ne_of_lt (Heap.lt_size (N p hp).1)) (N p hp).1, (N p hp).2⟩
end Mine
namespace Mine
theorem Out.less {s s' : Shared} {as : List Addr} {news news' : List (Addr × Obj)} (O : Out s as news s') (h : ∀ p ∈ news', p ∈ news) : Out s as news' s' := ⟨O.same, O.keep, fun p hp => O.now p (h p hp)⟩
end Mine
namespace Mine
theorem sub_ri_reversed : isSubtype (.type "range_iterator") (.type "reversed") = pure false := by rw [isSubtype_type]; kernel_rfl
section
variable {prog : Program} {w : World} {A : Around} {E : Value → Shared → Prop} {s : Shared}
theorem wpAny_rangeFields {r : Addr} {a b c : Int} {t u v : Tok} {Q : Int × Int × Int → Shared → Prop} (hr : IsRange s.heap r a b c t u v) (h : Q (a, b, c) s) :
    wpAny (model prog w) A (Builtin.Range.rangeFields (.ref r)) Q E s := by
  unfold Builtin.Range.rangeFields
  refine wpAny_bind (wpAny_field hr rfl (x := .int a t) rfl ?_)
  refine wpAny_bind (wpAny_of_eq (a := some a) rfl ?_)
  refine wpAny_bind (wpAny_field hr rfl (x := .int b u) rfl ?_)
  refine wpAny_bind (wpAny_of_eq (a := some b) rfl ?_)
  refine wpAny_bind (wpAny_field hr rfl (x := .int c v) rfl ?_)
  refine wpAny_bind (wpAny_of_eq (a := some c) rfl ?_)
  exact wpAny_pure h

theorem fits_small {i : Int} (h1 : -1000 ≤ i) (h2 : i < 1000) : Builtin.Range.rangeFitsLong i = true := by
  unfold Builtin.Range.rangeFitsLong; rw [Bool.and_eq_true, decide_eq_true_eq, decide_eq_true_eq]; omega
theorem call_range_reversed {r : Addr} {n : Nat} {t u v : Tok} {Q : Value → Shared → Prop} (hr : IsRange s.heap r 0 (n : Nat) 1 t u v) (hn : n < 1000)
    (h : Q (.ref s.heap.objs.size) { s with heap := s.heap.push { cls := .type "range_iterator", data := .fields #[rawInt ((n : Int) - 1), rawInt n, rawInt (-1)] } }) :
    wpAny (model prog w) A (call (.builtin "range.__reversed__") [.ref r]) Q E s := by
  have hT : s.TypeIs (.ref r) "range" := ⟨_, hr, rfl⟩
  have hsz : Builtin.Range.rangeSize 0 (n : Nat) 1 = (n : Int) := by unfold Builtin.Range.rangeSize; split <;> (try split) <;> omega
  refine wpAny_call_entry F.slot_range_reversed hT F.entry_range_reversed ?_ (F.args_range_reversed_1 _)
  unfold Builtin.«range.__reversed__»
  refine wpAny_bind (wpAny_of_eq (a := Value.ref r) rfl ?_)
  refine wpAny_bind (wpAny_rangeFields hr ?_)
  simp only [hsz, fits_small (show (-1000 : Int) ≤ 0 by decide) (by decide), fits_small (show (-1000 : Int) ≤ (n : Int) by omega) (by omega), fits_small (show (-1000 : Int) ≤ 1 by decide) (by decide),
    fits_small (show (-1000 : Int) ≤ -1 by decide) (by decide), fits_small (show (-1000 : Int) ≤ 0 - 1 by decide) (by decide), Bool.and_self, Bool.not_true, Bool.false_eq_true, if_false, if_true, Int.mul_one, Int.zero_add]
  exact wpAny_bind (wpAny_newObj_type (wpAny_pure ⟨_, rfl, h⟩))

theorem code_reversed_range {r : Addr} {n : Nat} {t u v : Tok} {Q₁ : Value → Shared → Prop} (hr : IsRange s.heap r 0 (n : Nat) 1 t u v) (hn : n < 1000)
    (h : Q₁ (.ref s.heap.objs.size) { s with heap := s.heap.push { cls := .type "range_iterator", data := .fields #[rawInt ((n : Int) - 1), rawInt n, rawInt (-1)] } }) :
    codeAny (model prog w) A (.call (.builtin "reversed.__new__") ⟨[.type "reversed", .ref r], []⟩) (wants Q₁ E) s := by
  have hT : s.TypeIs (.ref r) "range" := ⟨_, hr, rfl⟩
  refine codeAny_of_tree ?_
  show wpAny _ A.in1 (do checkBuiltinCall "reversed.__new__" ⟨[.type "reversed", .ref r], []⟩; again (.builtin "reversed.__new__" ⟨[.type "reversed", .ref r], []⟩)) _ _ s
  refine wpAny_bind (wpAny_of_eq (F.newCall_reversed_1 _) (wpAny_pure ⟨plainId_quiet F.plain_reversed_new _, codeAny_builtin F.entry_reversed_new ?_⟩))
  rw [Around.under_plainId F.plain_reversed_new _]
  unfold Builtin.«reversed.__new__»
  refine wpAny_bind (wpAny_of_eq (newClass_reversed _) ?_)
  try dsimp only
  refine wpAny_bind (wpAny_of_eq (a := ()) (by first | rfl | kernel_rfl) ?_)
  refine wpAny_bind (wpAny_of_eq (a := ()) (by first | rfl | kernel_rfl) ?_)
  try dsimp only
  refine wpAny_bind (wpAny_specialOf hT F.slot_range_reversed.lookup ?_)
  try dsimp only
  refine wpAny_bind (wpAny_of_eq (F.slot_range_reversed.bind _) ?_)
  try dsimp only
  first
  | rw [if_neg (show ¬ ((Value.builtin "range.__reversed__" == Value.none) = true) from Bool.false_ne_true)]
  | (show wpAny _ _ (if (Value.builtin "range.__reversed__" == Value.none) = true then _ else _) _ _ _; rw [if_neg (show ¬ ((Value.builtin "range.__reversed__" == Value.none) = true) from Bool.false_ne_true)])
  refine wpAny_bind (wpAny_rule ?_)
  refine wpAny_bind (m := runValue (.call (.builtin "range.__reversed__") ⟨[.ref r], []⟩)) (show wpAny _ _ (call (.builtin "range.__reversed__") [.ref r]) _ _ _ from call_range_reversed hr hn ?_)
  first
  | exact wpAny_pure h
  | exact wpAny_bind (wpAny_pure (wpAny_pure h))

theorem call_reversed {r : Addr} {n : Nat} {t u v : Tok} {Q : Value → Shared → Prop} (hr : IsRange s.heap r 0 (n : Nat) 1 t u v) (hn : n < 1000)
    (h : Q (.ref s.heap.objs.size) { s with heap := s.heap.push { cls := .type "range_iterator", data := .fields #[rawInt ((n : Int) - 1), rawInt n, rawInt (-1)] } }) :
    wpAny (model prog w) A (call (.type "reversed") [.ref r]) Q E s := by
  refine callType_other (U := "range_iterator") (Q₁ := fun obj s₁ => obj = .ref s.heap.objs.size ∧ s₁ = { s with heap := s.heap.push { cls := .type "range_iterator", data := .fields #[rawInt ((n : Int) - 1), rawInt n, rawInt (-1)] } }) (by decide +kernel) F.create_reversed ⟨_, _, F.mro_reversed⟩ F.made_reversed sub_ri_reversed (F.typeCall_reversed_1 _) (code_reversed_range hr hn ⟨rfl, rfl⟩) ?_
  rintro obj s₁ ⟨rfl, rfl⟩
  exact ⟨⟨_, Heap.get?_push_size _ rfl, rfl⟩, h⟩
end

/-- a turn of a loop is through -/
def TurnEnd (g : Heap) (L I : Addr) (oI : Obj) (s : Shared) (J : List (Str × Option Value) → List (Addr × Obj) → Prop) (s₃ : Shared) : Prop :=
  ∃ h' tk M' news', s₃ = { s with heap := h', toks := tk } ∧ Fr g L h' (mapO M') ∧ News g L h' ((I, oI) :: news') ∧ (∀ p ∈ news', p.1 ≠ I) ∧ J M' news'

theorem for_range {prog : Program} {w : World} {A : Around} {s : Shared} {g : Heap} {L I fa : Addr} {name x : Str} {scope : Scope} {cd : Value} {px : Pos} {body : List Stmt} {Q : Flow → Shared → Prop} {R' : Value → Shared → Prop} {a c : Int} {n : Nat} {M₀ : List (Str × Option Value)} {news : List (Addr × Obj)}
    (J : Nat → List (Str × Option Value) → List (Addr × Obj) → Prop)
    (hh : A.handled = none) (hI : IsRangeIter s.heap I a n c) (hIL : I ≠ L) (hIg : g.get? I = none) (hIn : ∀ p ∈ news, p.1 ≠ I)
    (F : Fr g L s.heap (mapO M₀)) (N : News g L s.heap news) (hJ : J 0 M₀ news)
    (hk : scope.kind = .function) (hx : (envOf name scope L fa cd).kindOf x = some .local)
    (turn : ∀ i t M₁ news₁ oI h tk, i < n → J i M₁ news₁ → (∀ p ∈ news₁, p.1 ≠ I) → Fr g L h (mapO (putO x (.int (a + (i : Nat) * c) t) M₁)) → News g L h ((I, oI) :: news₁) →
      wpAny (model prog w) A (execs body (envOf name scope L fa cd)) (fun f s₃ => match f with
        | .next | .cont => TurnEnd g L I oI s (J (i + 1)) s₃
        | .brk => Q .next s₃
        | .ret v => Q (.ret v) s₃) Never { s with heap := h, toks := tk })
    (done : ∀ M₁ news₁ h tk, J n M₁ news₁ → Fr g L h (mapO M₁) → News g L h news₁ → Q .next { s with heap := h, toks := tk }) :
    codeAny (model prog w) A (.forLoop (.Name x px) (.ref I) body [] (envOf name scope L fa cd)) (fun r s' => match r with | .ok f => Q f s' | .error e => R' e s') s := by
  have W := Walks.range (prog := prog) (w := w) hh I a c n
  have off : ∀ {h h' : Heap} {m : Str → Option Value} {news₁ : List (Addr × Obj)}, Fr g L h m → News g L h news₁ → (∀ p ∈ news₁, p.1 ≠ I) → (∀ b o, b ∉ [I] → h.get? b = some o → h'.get? b = some o) → Fr g L h' m ∧ News g L h' news₁ := by
    intro h h' m news₁ F N hn hk
    have hk' : ∀ b o, b ≠ I → h.get? b = some o → h'.get? b = some o := fun b o nb e => hk b o (by simpa using nb) e
    obtain ⟨oL, es, ep, hL, r⟩ := F.ns
    refine ⟨⟨⟨oL, es, ep, hk' L oL (Ne.symm hIL) hL, r⟩, fun b o e => hk' b o (fun q => ?_) (F.keep b o e), F.above⟩, fun p hp => ⟨hk' _ _ (hn p hp) (N p hp).1, (N p hp).2⟩⟩
    rw [q, hIg] at e; cases e
  refine codeAny_forLoop (fun n' s' => ∃ h tk M₁ news₁ i, s' = { s with heap := h, toks := tk } ∧ i ≤ n ∧ n' = n + 1 - i ∧ IsRangeIter h I (a + (i : Nat) * c) ((n : Int) - (i : Nat)) c ∧ Fr g L h (mapO M₁) ∧ News g L h news₁ ∧ (∀ p ∈ news₁, p.1 ≠ I) ∧ J i M₁ news₁) ?_ (n + 1)
    ⟨s.heap, s.toks, M₀, news, 0, rfl, Nat.zero_le _, rfl, by simpa using hI, F, N, hIn, hJ⟩
  rintro n' s' ⟨h, tk, M₁, news₁, i, rfl, hi, rfl, hit, F₁, N₁, hn₁, hJ₁⟩
  by_cases hlt : i < n
  · refine W.item i _ _ _ hlt hit fun v h' tk' hv hit' hk' => ?_
    obtain ⟨t, rfl⟩ := hv
    obtain ⟨F₂, N₂⟩ := off F₁ N₁ hn₁ hk'
    obtain ⟨oI, hoI, hit''⟩ : ∃ oI : Obj, oI = { cls := .type "range_iterator", dict := none, data := .fields #[rawInt (a + ((i + 1 : Nat) : Int) * c), rawInt ((n : Int) - ((i + 1 : Nat) : Int)), rawInt c], slots := #[] } ∧ h'.get? I = some oI := ⟨_, rfl, hit'⟩
    have N₂' : News g L h' ((I, oI) :: news₁) := fun p hp => by
      rcases List.mem_cons.mp hp with rfl | hp
      · exact ⟨hit'', hIL, hIg⟩
      · exact N₂ p hp
    refine wpAny_assign_Name ?_
    refine stO (s := { s with heap := h', toks := tk' }) F₂ N₂' (fun h₂ F₃ N₃ => ?_) hk hx
    · refine wpAny_mono (turn i t M₁ news₁ oI h₂ (tk' + 1) hlt hJ₁ hn₁ F₃ N₃) (fun f s₃ h₃ => ?_) fun _ _ x => x.elim
      have fin : TurnEnd g L I oI s (J (i + 1)) s₃ → ∃ m, m < n + 1 - i ∧ ∃ h tk M₁ news₁ i, s₃ = { s with heap := h, toks := tk } ∧ i ≤ n ∧ m = n + 1 - i ∧ IsRangeIter h I (a + (i : Nat) * c) ((n : Int) - (i : Nat)) c ∧ Fr g L h (mapO M₁) ∧ News g L h news₁ ∧ (∀ p ∈ news₁, p.1 ≠ I) ∧ J i M₁ news₁ := by
        rintro ⟨h₄, tk₄, M₄, news₄, rfl, F₄, N₄, hn₄, hJ₄⟩
        exact ⟨n + 1 - (i + 1), by omega, h₄, tk₄, M₄, news₄, i + 1, rfl, hlt, rfl, (N₄ _ (.head _)).1.trans (congrArg some hoI), F₄, fun p hp => N₄ p (.tail _ hp), hn₄, hJ₄⟩
      cases f with
      | next => exact fin h₃
      | cont => exact fin h₃
      | brk => exact h₃
      | ret v => exact h₃
  · have hin : i = n := by omega
    subst hin
    refine W.done _ _ _ hit fun h' tk' hk' => ?_
    obtain ⟨F₂, N₂⟩ := off F₁ N₁ hn₁ hk'
    exact wpAny_execs_nil (done M₁ news₁ h' tk' hJ₁ F₂ N₂)
end Mine
namespace Mine
local macro_rules | `(tactic| walk_at "subscriptTail") => `(tactic| (k_here; (with_reducible show wpAny _ _ (subscriptTail _ _ (Value.ref _) (Value.int _ _)) _ _ _); (with_unfolding_all refine' ref_get ?k1 ?k2 ?k3 ?k4 ?_ ?k6 ?k7; (case k1 => exact News.get (by k_asm) (by k_mem)); (case k2 => omega); (case k3 => (try simp only [List.length_dropLast, List.length_set]); omega); (case k4 => omega); (case k6 => with_unfolding_all rfl); (case k7 => intro _; with_unfolding_all rfl); k_whole)))
local macro_rules | `(tactic| walk_at "setItem ref int") => `(tactic| (k_here; (with_reducible show wpAny _ _ (setItem (Value.ref _) (Value.int _ _) (Value.ref _)) _ _ _); k_dflt (refine' ref_set ?k1 ?k2 ?k3 ?k4 ?k5 ?k6 ?_; (case k1 => k_asm); (case k2 => k_asm); (case k3 => k_upd); (case k4 => omega); (case k5 => (try simp only [List.length_dropLast, List.length_set]); omega); (case k6 => omega); k_whole); intro h' F' N'; (try k_sweep)))
local macro_rules | `(tactic| walk_at "compareOp Lt ref") => `(tactic| (k_here; (with_reducible show wpAny _ _ (compareOp CmpOp.Lt (Value.ref _) (Value.ref _)) _ _ _); refine' item_lt ?k1 ?k2 ?k3 ?_; (case k1 => first | exact item_at (by assumption) (by assumption) (by omega) | exact item_on (by assumption) (by assumption)); (case k2 => first | exact item_at (by assumption) (by assumption) (by omega) | exact item_on (by assumption) (by assumption)); (case k3 => show _ + 3 < _; omega)))
local macro_rules | `(tactic| walk_at "storeName") => `(tactic| (k_here; k_dflt (refine' stO ?F ?N ?_ ?a ?b; (case F => k_asm); (case N => k_asm); (case a => rfl); (case b => rfl); k_whole; intro h' F' N'; (try k_sweep))))
local macro_rules | `(tactic| walk_at "binaryOp RShift int int") => `(tactic| (with_reducible refine rsh1 ?_))
local macro_rules | `(tactic| walk_at "exec") => `(tactic| ((with_reducible show wpAny _ _ (exec (Stmt.While _ _ _ _) _) _ _ _); refine of_stop ?_))

local macro_rules | `(tactic| walk_at "call ref") => `(tactic| ((with_reducible show wpAny _ _ (call (Value.ref _) _) _ _ _); refine of_stop ?_))
local macro_rules | `(tactic| walk_at "call builtin:len") => `(tactic| (k_here; (with_reducible show wpAny _ _ (call (Value.builtin "len") [Value.ref _]) _ _ _); refine' ref_len ?k1 ?k2 ?_; (case k1 => exact News.get (by k_asm) (by k_mem)); (case k2 => omega)))
local macro_rules | `(tactic| walk_at "call builtin:list.pop") => `(tactic| (k_here; (with_reducible show wpAny _ _ (call (Value.builtin _) [Value.ref _]) _ _ _); k_dflt (refine' ref_pop ?F ?N ?U ?l ?z ?_; (case F => k_asm); (case N => k_asm); (case U => k_upd); (case l => omega); (case z => omega)); (intro h' F' N'; (try k_sweep))))
local macro_rules | `(tactic| walk_at "truthy ref") => `(tactic| (k_here; (with_reducible show wpAny _ _ (truthy (Value.ref _)) _ _ _); refine' ref_truthy ?k1 ?k2 ?k3 ?_; (case k1 => exact News.get (by k_asm) (by k_mem)); (case k2 => (try simp only [List.length_dropLast, List.length_set]); omega); (case k3 => (try simp only [List.length_dropLast, List.length_set]); omega)))
local macro_rules | `(tactic| walk_at "exec") => `(tactic| ((with_reducible show wpAny _ _ (exec (Stmt.For _ _ _ _ _) _) _ _ _); refine of_stop ?_))
local macro_rules | `(tactic| walk_at "exec For Name Call cons nil") => `(tactic| (refine of_stop ?_))
local macro_rules | `(tactic| walk_at "binaryOp FloorDiv int int") => `(tactic| ((with_reducible refine fdivE ?k1 ?k2 ?_); (case k1 => omega); (case k2 => omega)))
local macro_rules | `(tactic| walk_at "binaryOp Mod int int") => `(tactic| ((with_reducible refine fmodE ?k1 ?_); (case k1 => omega)))
local macro_rules | `(tactic| walk_at "subscriptTail Name Slice ref ref") => `(tactic| (refine of_stop ?_))
def DownInv (prog : Program) (w : World) (s : Shared) (g : Heap) (L a : Addr) (n : Nat) (l : List Addr) (st ps : Nat) (t1 : Tok) (key : Addr → Nat) (r : Addr → Addr → Bool) (n' : Nat) (s' : Shared) : Prop :=
  ∃ h' tk l' pos p t pp pr, s' = { s with heap := h', toks := tk } ∧ n' = pos ∧ p = ((pos : Nat) : Int) ∧ pos < l'.length ∧ l'.length = l.length ∧
      Fr g L h' (mapO [("heap", some (.ref a)), ("startpos", some (.int st t1)), ("pos", some (.int p t)), ("newitem", some (.ref (l.getD ps default))), ("parentpos", pp), ("parent", pr)]) ∧ News g L h' [(a, refsOf l' n)] ∧
      (∀ x ∈ l', IsItem prog w g x (key x)) ∧ downL r (l.getD ps default) st l' pos = downL r (l.getD ps default) st l ps

theorem siftdown {prog : Program} {w : World} {A : Around} {E : Value → Shared → Prop} {s : Shared} {mg mb : Str → Option Value} {base : Heap} {a : Addr} {n : Nat} {l : List Addr} {st ps : Nat} {t1 t2 : Tok} {key : Addr → Nat}
    (hb : ∀ b o, base.get? b = some o → s.heap.get? b = some o) (W : Wd w mg mb base) (ha : base.get? a = none) (hl : s.heap.get? a = some (refsOf l n))
    (hd : A.depth + 5 < recursionLimit) (hu : A.units + 20 < cLine) (hit : ∀ x ∈ l, IsItem prog w base x (key x)) (hps : ps < l.length) (hln : l.length < 1000) :
    wpAny (model prog w) A (call (.ref 70) [.ref a, .int st t1, .int ps t2]) (fun v s' => v = .none ∧ Out s [a] [(a, refsOf (downL (rMin key) (l.getD ps default) st l ps) n)] s') E s := by
  refine' enter (binds := [("heap", .ref a), ("startpos", .int st t1), ("pos", .int ps t2)]) ["newitem", "parentpos", "parent"] [(a, refsOf l n)] base hb ?h1 ?h2 W.k W.t.nolimit ?k6 ?k7 ?k8 ?k9 ?kB ?_ ?nd ?c2 ?c3 ?c4 ?c5
  case k6 => k_is
  case k7 => k_is
  case k8 => omega
  case k9 => exact BindsTo.of_eq rfl
  case c5 => decide
  case kB => exact locs rfl
  case nd => exact of_decide_eq_true rfl
  case c2 => exact rfl
  case c3 => exact rfl
  case c4 => exact rfl
  case h1 => intro p hp; rw [List.mem_singleton.mp hp]; exact ha
  case h2 => intro p hp; rw [List.mem_singleton.mp hp]; exact hl
  intro g L h₁ hg hgn F N hgs
  have KX := (W.keeps hg).k
  have T := (W.keeps hg).t
  replace hit : ∀ x ∈ l, IsItem prog w g x (key x) := fun x hx => (hit x hx).keeps fun o => hg x o
  have hnew : IsItem prog w g (l.getD ps default) (key (l.getD ps default)) := hit _ (getD_mem hps)
  simp only [List.map_cons, List.map_nil, List.cons_append, List.nil_append] at F
  try dsimp only
  k_steps
  refine while_rule (DownInv prog w s g L a n l st ps t1 key (rMin key)) ps ?_ ?_
  · exact ⟨_, _, l, ps, _, _, _, _, rfl, rfl, rfl, hps, rfl, by assumption, by assumption, hit, rfl⟩
  · clear hps hit
    rintro n' s' ⟨h', tk, l', pos, p, t, pp, pr, rfl, rfl, hp, hpos, hlen, F, N, hit, hdown⟩
    k_steps
    · skip
      rename Fr _ _ _ _ => F'
      rename News _ _ _ _ => N'
      rename ltM _ _ = true => hlt
      have e1 : p.toNat = n' := by omega
      have e2 : ((p - 1) / 2).toNat = (n' - 1) / 2 := by omega
      simp only [e1, e2] at N' hlt
      rw [downL.eq_def, if_pos (by omega), if_pos hlt] at hdown
      exact ⟨(n' - 1) / 2, by omega, _, _, _, _, _, _, _, _, rfl, rfl, by omega, by rw [List.length_set]; omega, by rw [List.length_set]; exact hlen, F', N', set_all hit (hit _ (getD_mem (by omega))), hdown⟩
    · rename Fr _ _ _ _ => F'
      rename News _ _ _ _ => N'
      rename ltM _ _ = false => hlt
      have e1 : p.toNat = n' := by omega
      have e2 : ((p - 1) / 2).toNat = (n' - 1) / 2 := by omega
      simp only [e1, e2] at N' hlt
      rw [downL.eq_def, if_pos (by omega), if_neg (fun e => Bool.false_ne_true (hlt.symm.trans e))] at hdown
      rw [hdown] at N'
      exact Out.of F' N' hgs
    · rename Fr _ _ _ _ => F'
      rename News _ _ _ _ => N'
      have e1 : p.toNat = n' := by omega
      simp only [e1] at N'
      rw [downL.eq_def, if_neg (by omega)] at hdown
      rw [hdown] at N'
      exact Out.of F' N' hgs
theorem siftdownX {prog : Program} {w : World} {A : Around} {E : Value → Shared → Prop} {s : Shared} {mg mb : Str → Option Value} {base : Heap} {a : Addr} {n : Nat} {l : List Addr} {st ps : Nat} {t1 t2 : Tok} {key : Addr → Nat}
    (hb : ∀ b o, base.get? b = some o → s.heap.get? b = some o) (W : Wd w mg mb base) (ha : base.get? a = none) (hl : s.heap.get? a = some (refsOf l n))
    (hd : A.depth + 5 < recursionLimit) (hu : A.units + 20 < cLine) (hit : ∀ x ∈ l, IsItem prog w base x (key x)) (hps : ps < l.length) (hln : l.length < 1000) :
    wpAny (model prog w) A (call (.ref 84) [.ref a, .int st t1, .int ps t2]) (fun v s' => v = .none ∧ Out s [a] [(a, refsOf (downL (rMax key) (l.getD ps default) st l ps) n)] s') E s := by
  refine' enter (binds := [("heap", .ref a), ("startpos", .int st t1), ("pos", .int ps t2)]) ["newitem", "parentpos", "parent"] [(a, refsOf l n)] base hb ?h1 ?h2 W.k W.t.nolimit ?k6 ?k7 ?k8 ?k9 ?kB ?_ ?nd ?c2 ?c3 ?c4 ?c5
  case k6 => k_is
  case k7 => k_is
  case k8 => omega
  case k9 => exact BindsTo.of_eq rfl
  case c5 => decide
  case kB => exact locs rfl
  case nd => exact of_decide_eq_true rfl
  case c2 => exact rfl
  case c3 => exact rfl
  case c4 => exact rfl
  case h1 => intro p hp; rw [List.mem_singleton.mp hp]; exact ha
  case h2 => intro p hp; rw [List.mem_singleton.mp hp]; exact hl
  intro g L h₁ hg hgn F N hgs
  have KX := (W.keeps hg).k
  have T := (W.keeps hg).t
  replace hit : ∀ x ∈ l, IsItem prog w g x (key x) := fun x hx => (hit x hx).keeps fun o => hg x o
  have hnew : IsItem prog w g (l.getD ps default) (key (l.getD ps default)) := hit _ (getD_mem hps)
  simp only [List.map_cons, List.map_nil, List.cons_append, List.nil_append] at F
  try dsimp only
  k_steps
  refine while_rule (DownInv prog w s g L a n l st ps t1 key (rMax key)) ps ?_ ?_
  · exact ⟨_, _, l, ps, _, _, _, _, rfl, rfl, rfl, hps, rfl, by assumption, by assumption, hit, rfl⟩
  · clear hps hit
    rintro n' s' ⟨h', tk, l', pos, p, t, pp, pr, rfl, rfl, hp, hpos, hlen, F, N, hit, hdown⟩
    k_steps
    · skip
      rename Fr _ _ _ _ => F'
      rename News _ _ _ _ => N'
      rename ltM _ _ = true => hlt
      have e1 : p.toNat = n' := by omega
      have e2 : ((p - 1) / 2).toNat = (n' - 1) / 2 := by omega
      simp only [e1, e2] at N' hlt
      rw [downL.eq_def, if_pos (by omega), if_pos hlt] at hdown
      exact ⟨(n' - 1) / 2, by omega, _, _, _, _, _, _, _, _, rfl, rfl, by omega, by rw [List.length_set]; omega, by rw [List.length_set]; exact hlen, F', N', set_all hit (hit _ (getD_mem (by omega))), hdown⟩
    · rename Fr _ _ _ _ => F'
      rename News _ _ _ _ => N'
      rename ltM _ _ = false => hlt
      have e1 : p.toNat = n' := by omega
      have e2 : ((p - 1) / 2).toNat = (n' - 1) / 2 := by omega
      simp only [e1, e2] at N' hlt
      rw [downL.eq_def, if_pos (by omega), if_neg (fun e => Bool.false_ne_true (hlt.symm.trans e))] at hdown
      rw [hdown] at N'
      exact Out.of F' N' hgs
    · rename Fr _ _ _ _ => F'
      rename News _ _ _ _ => N'
      have e1 : p.toNat = n' := by omega
      simp only [e1] at N'
      rw [downL.eq_def, if_neg (by omega)] at hdown
      rw [hdown] at N'
      exact Out.of F' N' hgs
end Mine
namespace Mine
local macro_rules | `(tactic| walk_at "subscriptTail") => `(tactic| (k_here; (with_reducible show wpAny _ _ (subscriptTail _ _ (Value.ref _) (Value.int _ _)) _ _ _); (with_unfolding_all refine' ref_get ?k1 ?k2 ?k3 ?k4 ?_ ?k6 ?k7; (case k1 => exact News.get (by k_asm) (by k_mem)); (case k2 => omega); (case k3 => (try simp only [List.length_dropLast, List.length_set]); omega); (case k4 => omega); (case k6 => with_unfolding_all rfl); (case k7 => intro _; with_unfolding_all rfl); k_whole)))
local macro_rules | `(tactic| walk_at "setItem ref int") => `(tactic| (k_here; (with_reducible show wpAny _ _ (setItem (Value.ref _) (Value.int _ _) (Value.ref _)) _ _ _); k_dflt (refine' ref_set ?k1 ?k2 ?k3 ?k4 ?k5 ?k6 ?_; (case k1 => k_asm); (case k2 => k_asm); (case k3 => k_upd); (case k4 => omega); (case k5 => (try simp only [List.length_dropLast, List.length_set]); omega); (case k6 => omega); k_whole); intro h' F' N'; (try k_sweep)))
local macro_rules | `(tactic| walk_at "compareOp Lt ref") => `(tactic| (k_here; (with_reducible show wpAny _ _ (compareOp CmpOp.Lt (Value.ref _) (Value.ref _)) _ _ _); refine' item_lt ?k1 ?k2 ?k3 ?_; (case k1 => first | exact item_at (by assumption) (by assumption) (by omega) | exact item_on (by assumption) (by assumption)); (case k2 => first | exact item_at (by assumption) (by assumption) (by omega) | exact item_on (by assumption) (by assumption)); (case k3 => show _ + 3 < _; omega)))
local macro_rules | `(tactic| walk_at "storeName") => `(tactic| (k_here; k_dflt (refine' stO ?F ?N ?_ ?a ?b; (case F => k_asm); (case N => k_asm); (case a => rfl); (case b => rfl); k_whole; intro h' F' N'; (try k_sweep))))
local macro_rules | `(tactic| walk_at "binaryOp RShift int int") => `(tactic| (with_reducible refine rsh1 ?_))
local macro_rules | `(tactic| walk_at "exec") => `(tactic| ((with_reducible show wpAny _ _ (exec (Stmt.While _ _ _ _) _) _ _ _); refine of_stop ?_))

local macro_rules | `(tactic| walk_at "call ref") => `(tactic| ((with_reducible show wpAny _ _ (call (Value.ref _) _) _ _ _); refine of_stop ?_))
local macro_rules | `(tactic| walk_at "call builtin:len") => `(tactic| (k_here; (with_reducible show wpAny _ _ (call (Value.builtin "len") [Value.ref _]) _ _ _); refine' ref_len ?k1 ?k2 ?_; (case k1 => exact News.get (by k_asm) (by k_mem)); (case k2 => omega)))
local macro_rules | `(tactic| walk_at "call builtin:list.pop") => `(tactic| (k_here; (with_reducible show wpAny _ _ (call (Value.builtin _) [Value.ref _]) _ _ _); k_dflt (refine' ref_pop ?F ?N ?U ?l ?z ?_; (case F => k_asm); (case N => k_asm); (case U => k_upd); (case l => omega); (case z => omega)); (intro h' F' N'; (try k_sweep))))
local macro_rules | `(tactic| walk_at "truthy ref") => `(tactic| (k_here; (with_reducible show wpAny _ _ (truthy (Value.ref _)) _ _ _); refine' ref_truthy ?k1 ?k2 ?k3 ?_; (case k1 => exact News.get (by k_asm) (by k_mem)); (case k2 => (try simp only [List.length_dropLast, List.length_set]); omega); (case k3 => (try simp only [List.length_dropLast, List.length_set]); omega)))
local macro_rules | `(tactic| walk_at "exec") => `(tactic| ((with_reducible show wpAny _ _ (exec (Stmt.For _ _ _ _ _) _) _ _ _); refine of_stop ?_))
local macro_rules | `(tactic| walk_at "exec For Name Call cons nil") => `(tactic| (refine of_stop ?_))
local macro_rules | `(tactic| walk_at "binaryOp FloorDiv int int") => `(tactic| ((with_reducible refine fdivE ?k1 ?k2 ?_); (case k1 => omega); (case k2 => omega)))
local macro_rules | `(tactic| walk_at "binaryOp Mod int int") => `(tactic| ((with_reducible refine fmodE ?k1 ?_); (case k1 => omega)))
local macro_rules | `(tactic| walk_at "subscriptTail Name Slice ref ref") => `(tactic| (refine of_stop ?_))
def UpInv (prog : Program) (w : World) (s : Shared) (g : Heap) (L a : Addr) (n : Nat) (l : List Addr) (ps : Nat) (t2 : Tok) (key : Addr → Nat) (r : Addr → Addr → Bool) (n' : Nat) (s' : Shared) : Prop :=
  ∃ h' tk l' q p c t tc rp te, s' = { s with heap := h', toks := tk } ∧ n' = l.length - q ∧ p = ((q : Nat) : Int) ∧ c = 2 * ((q : Nat) : Int) + 1 ∧ q < l'.length ∧ l'.length = l.length ∧
      Fr g L h' (mapO [("heap", some (.ref a)), ("pos", some (.int p t)), ("endpos", some (.int (l.length : Nat) te)), ("startpos", some (.int (ps : Nat) t2)), ("newitem", some (.ref (l.getD ps default))), ("childpos", some (.int c tc)), ("rightpos", rp)]) ∧ News g L h' [(a, refsOf l' n)] ∧
      (∀ x ∈ l', IsItem prog w g x (key x)) ∧ holeL r l' q = holeL r l ps

theorem siftup {prog : Program} {w : World} {A : Around} {E : Value → Shared → Prop} {s : Shared} {mg mb : Str → Option Value} {base : Heap} {a : Addr} {n : Nat} {l : List Addr} {ps : Nat} {t2 : Tok} {key : Addr → Nat}
    (hb : ∀ b o, base.get? b = some o → s.heap.get? b = some o) (W : Wd w mg mb base) (ha : base.get? a = none) (hl : s.heap.get? a = some (refsOf l n))
    (hd : A.depth + 8 < recursionLimit) (hu : A.units + 30 < cLine) (hit : ∀ x ∈ l, IsItem prog w base x (key x)) (hps : ps < l.length) (hln : l.length < 1000) :
    wpAny (model prog w) A (call (.ref 77) [.ref a, .int ps t2]) (fun v s' => v = .none ∧ Out s [a] [(a, refsOf (upL (rMin key) l ps) n)] s') E s := by
  refine' enter (binds := [("heap", .ref a), ("pos", .int ps t2)]) ["endpos", "startpos", "newitem", "childpos", "rightpos"] [(a, refsOf l n)] base hb ?h1 ?h2 W.k W.t.nolimit ?k6 ?k7 ?k8 ?k9 ?kB ?_ ?nd ?c2 ?c3 ?c4 ?c5
  case k6 => k_is
  case k7 => k_is
  case k8 => omega
  case k9 => exact BindsTo.of_eq rfl
  case c5 => decide
  case kB => exact locs rfl
  case nd => exact of_decide_eq_true rfl
  case c2 => exact rfl
  case c3 => exact rfl
  case c4 => exact rfl
  case h1 => intro p hp; rw [List.mem_singleton.mp hp]; exact ha
  case h2 => intro p hp; rw [List.mem_singleton.mp hp]; exact hl
  intro g L h₁ hg hgn F N hgs
  have Wg := W.keeps hg
  have KX := Wg.k
  have T := Wg.t
  replace hit : ∀ x ∈ l, IsItem prog w g x (key x) := fun x hx => (hit x hx).keeps fun o => hg x o
  have hnew : IsItem prog w g (l.getD ps default) (key (l.getD ps default)) := hit _ (getD_mem hps)
  simp only [List.map_cons, List.map_nil, List.cons_append, List.nil_append] at F
  try dsimp only
  k_steps
  refine while_rule (UpInv prog w s g L a n l ps t2 key (rMin key)) (l.length - ps) ?_ ?_
  · exact ⟨_, _, l, ps, _, _, _, _, _, _, rfl, rfl, rfl, rfl, hps, rfl, by assumption, by assumption, hit, rfl⟩
  · clear hps hit
    rintro n' s' ⟨h', tk, l', q, p, c, t, tc, rp, te, rfl, rfl, hp, hc, hpos, hlen, F, N, hit, hhole⟩
    have e1 : p.toNat = q := by omega
    have e2 : c.toNat = 2 * q + 1 := by omega
    have e3 : (c + 1).toNat = 2 * q + 2 := by omega
    k_steps
    · rename Fr _ _ _ _ => F'
      rename News _ _ _ _ => N'
      rename ltM _ _ = true => hlt
      simp only [e1, e2, e3] at N' hlt
      have hk : kid (rMin key) l' q = 2 * q + 1 := if_neg (fun h => Bool.false_ne_true (h.2.symm.trans hlt))
      rw [holeL.eq_def, dif_pos (by omega), hk] at hhole
      exact ⟨l.length - (2 * q + 1), by omega, _, _, _, 2 * q + 1, _, _, _, _, _, _, rfl, rfl, by omega, by omega, by rw [List.length_set]; omega, by rw [List.length_set]; exact hlen, F', N', set_all hit (hit _ (getD_mem (by omega))), hhole⟩
    · rename Fr _ _ _ _ => F'
      rename News _ _ _ _ => N'
      rename ltM _ _ = false => hlt
      simp only [e1, e2, e3] at N' hlt
      have hk : kid (rMin key) l' q = 2 * q + 2 := if_pos ⟨by omega, hlt⟩
      rw [holeL.eq_def, dif_pos (by omega), hk] at hhole
      exact ⟨l.length - (2 * q + 2), by omega, _, _, _, 2 * q + 2, _, _, _, _, _, _, rfl, rfl, by omega, by omega, by rw [List.length_set]; omega, by rw [List.length_set]; exact hlen, F', N', set_all hit (hit _ (getD_mem (by omega))), hhole⟩
    · rename Fr _ _ _ _ => F'
      rename News _ _ _ _ => N'
      simp only [e1, e2, e3] at N'
      have hk : kid (rMin key) l' q = 2 * q + 1 := if_neg (fun h => absurd h.1 (by omega))
      rw [holeL.eq_def, dif_pos (by omega), hk] at hhole
      exact ⟨l.length - (2 * q + 1), by omega, _, _, _, 2 * q + 1, _, _, _, _, _, _, rfl, rfl, by omega, by omega, by rw [List.length_set]; omega, by rw [List.length_set]; exact hlen, F', N', set_all hit (hit _ (getD_mem (by omega))), hhole⟩
    · rename Fr _ _ _ _ => F'
      rename News _ _ _ _ => N'
      subst hp
      rw [Int.toNat_natCast] at N'
      rw [holeL.eq_def, dif_neg (by omega)] at hhole
      refine call_out F' N' (Upd.head (fun _ h => nomatch h)) (siftdown (key := key) F'.keep Wg (N' _ (.head _)).2.2 (N' _ (.head _)).1 ?d1 ?d2 (set_all hit hnew) ?d3 ?d4) ?_
      case d1 => show _ + 1 + 5 < _; omega
      case d2 => show _ + 3 + 20 < _; omega
      case d3 => rw [List.length_set]; exact hpos
      case d4 => rw [List.length_set]; omega
      intro h'' tk'' F'' N''
      k_steps
      have e4 : (l'.set q (l.getD ps default)).getD q default = l.getD ps default := by
        rw [List.getD_eq_getElem?_getD, List.getElem?_set_self hpos]; rfl
      have e5 : upL (rMin key) l ps = downL (rMin key) (l.getD ps default) ps (l'.set q (l.getD ps default)) q := by
        unfold upL; rw [← hhole]
      rw [e4, ← e5] at N''
      exact Out.of F'' N'' hgs
theorem siftup0 {prog : Program} {w : World} {A : Around} {E : Value → Shared → Prop} {s : Shared} {mg mb : Str → Option Value} {base : Heap} {a : Addr} {n : Nat} {l : List Addr} {t2 : Tok} {key : Addr → Nat}
    (hb : ∀ b o, base.get? b = some o → s.heap.get? b = some o) (W : Wd w mg mb base) (ha : base.get? a = none) (hl : s.heap.get? a = some (refsOf l n))
    (hd : A.depth + 8 < recursionLimit) (hu : A.units + 30 < cLine) (hit : ∀ x ∈ l, IsItem prog w base x (key x)) (hps : 0 < l.length) (hln : l.length < 1000) :
    wpAny (model prog w) A (call (.ref 77) [.ref a, .int 0 t2]) (fun v s' => v = .none ∧ Out s [a] [(a, refsOf (upL (rMin key) l 0) n)] s') E s :=
  siftup (ps := 0) hb W ha hl hd hu hit hps hln
theorem siftupX {prog : Program} {w : World} {A : Around} {E : Value → Shared → Prop} {s : Shared} {mg mb : Str → Option Value} {base : Heap} {a : Addr} {n : Nat} {l : List Addr} {ps : Nat} {t2 : Tok} {key : Addr → Nat}
    (hb : ∀ b o, base.get? b = some o → s.heap.get? b = some o) (W : Wd w mg mb base) (ha : base.get? a = none) (hl : s.heap.get? a = some (refsOf l n))
    (hd : A.depth + 8 < recursionLimit) (hu : A.units + 30 < cLine) (hit : ∀ x ∈ l, IsItem prog w base x (key x)) (hps : ps < l.length) (hln : l.length < 1000) :
    wpAny (model prog w) A (call (.ref 91) [.ref a, .int ps t2]) (fun v s' => v = .none ∧ Out s [a] [(a, refsOf (upL (rMax key) l ps) n)] s') E s := by
  refine' enter (binds := [("heap", .ref a), ("pos", .int ps t2)]) ["endpos", "startpos", "newitem", "childpos", "rightpos"] [(a, refsOf l n)] base hb ?h1 ?h2 W.k W.t.nolimit ?k6 ?k7 ?k8 ?k9 ?kB ?_ ?nd ?c2 ?c3 ?c4 ?c5
  case k6 => k_is
  case k7 => k_is
  case k8 => omega
  case k9 => exact BindsTo.of_eq rfl
  case c5 => decide
  case kB => exact locs rfl
  case nd => exact of_decide_eq_true rfl
  case c2 => exact rfl
  case c3 => exact rfl
  case c4 => exact rfl
  case h1 => intro p hp; rw [List.mem_singleton.mp hp]; exact ha
  case h2 => intro p hp; rw [List.mem_singleton.mp hp]; exact hl
  intro g L h₁ hg hgn F N hgs
  have Wg := W.keeps hg
  have KX := Wg.k
  have T := Wg.t
  replace hit : ∀ x ∈ l, IsItem prog w g x (key x) := fun x hx => (hit x hx).keeps fun o => hg x o
  have hnew : IsItem prog w g (l.getD ps default) (key (l.getD ps default)) := hit _ (getD_mem hps)
  simp only [List.map_cons, List.map_nil, List.cons_append, List.nil_append] at F
  try dsimp only
  k_steps
  refine while_rule (UpInv prog w s g L a n l ps t2 key (rMax key)) (l.length - ps) ?_ ?_
  · exact ⟨_, _, l, ps, _, _, _, _, _, _, rfl, rfl, rfl, rfl, hps, rfl, by assumption, by assumption, hit, rfl⟩
  · clear hps hit
    rintro n' s' ⟨h', tk, l', q, p, c, t, tc, rp, te, rfl, rfl, hp, hc, hpos, hlen, F, N, hit, hhole⟩
    have e1 : p.toNat = q := by omega
    have e2 : c.toNat = 2 * q + 1 := by omega
    have e3 : (c + 1).toNat = 2 * q + 2 := by omega
    k_steps
    · rename Fr _ _ _ _ => F'
      rename News _ _ _ _ => N'
      rename ltM _ _ = true => hlt
      simp only [e1, e2, e3] at N' hlt
      have hk : kid (rMax key) l' q = 2 * q + 1 := if_neg (fun h => Bool.false_ne_true (h.2.symm.trans hlt))
      rw [holeL.eq_def, dif_pos (by omega), hk] at hhole
      exact ⟨l.length - (2 * q + 1), by omega, _, _, _, 2 * q + 1, _, _, _, _, _, _, rfl, rfl, by omega, by omega, by rw [List.length_set]; omega, by rw [List.length_set]; exact hlen, F', N', set_all hit (hit _ (getD_mem (by omega))), hhole⟩
    · rename Fr _ _ _ _ => F'
      rename News _ _ _ _ => N'
      rename ltM _ _ = false => hlt
      simp only [e1, e2, e3] at N' hlt
      have hk : kid (rMax key) l' q = 2 * q + 2 := if_pos ⟨by omega, hlt⟩
      rw [holeL.eq_def, dif_pos (by omega), hk] at hhole
      exact ⟨l.length - (2 * q + 2), by omega, _, _, _, 2 * q + 2, _, _, _, _, _, _, rfl, rfl, by omega, by omega, by rw [List.length_set]; omega, by rw [List.length_set]; exact hlen, F', N', set_all hit (hit _ (getD_mem (by omega))), hhole⟩
    · rename Fr _ _ _ _ => F'
      rename News _ _ _ _ => N'
      simp only [e1, e2, e3] at N'
      have hk : kid (rMax key) l' q = 2 * q + 1 := if_neg (fun h => absurd h.1 (by omega))
      rw [holeL.eq_def, dif_pos (by omega), hk] at hhole
      exact ⟨l.length - (2 * q + 1), by omega, _, _, _, 2 * q + 1, _, _, _, _, _, _, rfl, rfl, by omega, by omega, by rw [List.length_set]; omega, by rw [List.length_set]; exact hlen, F', N', set_all hit (hit _ (getD_mem (by omega))), hhole⟩
    · rename Fr _ _ _ _ => F'
      rename News _ _ _ _ => N'
      subst hp
      rw [Int.toNat_natCast] at N'
      rw [holeL.eq_def, dif_neg (by omega)] at hhole
      refine call_out F' N' (Upd.head (fun _ h => nomatch h)) (siftdownX (key := key) F'.keep Wg (N' _ (.head _)).2.2 (N' _ (.head _)).1 ?d1 ?d2 (set_all hit hnew) ?d3 ?d4) ?_
      case d1 => show _ + 1 + 5 < _; omega
      case d2 => show _ + 3 + 20 < _; omega
      case d3 => rw [List.length_set]; exact hpos
      case d4 => rw [List.length_set]; omega
      intro h'' tk'' F'' N''
      k_steps
      have e4 : (l'.set q (l.getD ps default)).getD q default = l.getD ps default := by
        rw [List.getD_eq_getElem?_getD, List.getElem?_set_self hpos]; rfl
      have e5 : upL (rMax key) l ps = downL (rMax key) (l.getD ps default) ps (l'.set q (l.getD ps default)) q := by
        unfold upL; rw [← hhole]
      rw [e4, ← e5] at N''
      exact Out.of F'' N'' hgs
theorem siftup0X {prog : Program} {w : World} {A : Around} {E : Value → Shared → Prop} {s : Shared} {mg mb : Str → Option Value} {base : Heap} {a : Addr} {n : Nat} {l : List Addr} {t2 : Tok} {key : Addr → Nat}
    (hb : ∀ b o, base.get? b = some o → s.heap.get? b = some o) (W : Wd w mg mb base) (ha : base.get? a = none) (hl : s.heap.get? a = some (refsOf l n))
    (hd : A.depth + 8 < recursionLimit) (hu : A.units + 30 < cLine) (hit : ∀ x ∈ l, IsItem prog w base x (key x)) (hps : 0 < l.length) (hln : l.length < 1000) :
    wpAny (model prog w) A (call (.ref 91) [.ref a, .int 0 t2]) (fun v s' => v = .none ∧ Out s [a] [(a, refsOf (upL (rMax key) l 0) n)] s') E s :=
  siftupX (ps := 0) hb W ha hl hd hu hit hps hln
end Mine
namespace Mine
local macro_rules | `(tactic| walk_at "subscriptTail") => `(tactic| (k_here; (with_reducible show wpAny _ _ (subscriptTail _ _ (Value.ref _) (Value.int _ _)) _ _ _); (with_unfolding_all refine' ref_get ?k1 ?k2 ?k3 ?k4 ?_ ?k6 ?k7; (case k1 => exact News.get (by k_asm) (by k_mem)); (case k2 => omega); (case k3 => (try simp only [List.length_dropLast, List.length_set]); omega); (case k4 => omega); (case k6 => with_unfolding_all rfl); (case k7 => intro _; with_unfolding_all rfl); k_whole)))
local macro_rules | `(tactic| walk_at "setItem ref int") => `(tactic| (k_here; (with_reducible show wpAny _ _ (setItem (Value.ref _) (Value.int _ _) (Value.ref _)) _ _ _); k_dflt (refine' ref_set ?k1 ?k2 ?k3 ?k4 ?k5 ?k6 ?_; (case k1 => k_asm); (case k2 => k_asm); (case k3 => k_upd); (case k4 => omega); (case k5 => (try simp only [List.length_dropLast, List.length_set]); omega); (case k6 => omega); k_whole); intro h' F' N'; (try k_sweep)))
local macro_rules | `(tactic| walk_at "compareOp Lt ref") => `(tactic| (k_here; (with_reducible show wpAny _ _ (compareOp CmpOp.Lt (Value.ref _) (Value.ref _)) _ _ _); refine' item_lt ?k1 ?k2 ?k3 ?_; (case k1 => first | exact item_at (by assumption) (by assumption) (by omega) | exact item_on (by assumption) (by assumption)); (case k2 => first | exact item_at (by assumption) (by assumption) (by omega) | exact item_on (by assumption) (by assumption)); (case k3 => show _ + 3 < _; omega)))
local macro_rules | `(tactic| walk_at "storeName") => `(tactic| (k_here; k_dflt (refine' stO ?F ?N ?_ ?a ?b; (case F => k_asm); (case N => k_asm); (case a => rfl); (case b => rfl); k_whole; intro h' F' N'; (try k_sweep))))
local macro_rules | `(tactic| walk_at "binaryOp RShift int int") => `(tactic| (with_reducible refine rsh1 ?_))
local macro_rules | `(tactic| walk_at "exec") => `(tactic| ((with_reducible show wpAny _ _ (exec (Stmt.While _ _ _ _) _) _ _ _); refine of_stop ?_))

local macro_rules | `(tactic| walk_at "call ref") => `(tactic| ((with_reducible show wpAny _ _ (call (Value.ref _) _) _ _ _); refine of_stop ?_))
local macro_rules | `(tactic| walk_at "call builtin:len") => `(tactic| (k_here; (with_reducible show wpAny _ _ (call (Value.builtin "len") [Value.ref _]) _ _ _); refine' ref_len ?k1 ?k2 ?_; (case k1 => exact News.get (by k_asm) (by k_mem)); (case k2 => omega)))
local macro_rules | `(tactic| walk_at "call builtin:list.pop") => `(tactic| (k_here; (with_reducible show wpAny _ _ (call (Value.builtin _) [Value.ref _]) _ _ _); k_dflt (refine' ref_pop ?F ?N ?U ?l ?z ?_; (case F => k_asm); (case N => k_asm); (case U => k_upd); (case l => omega); (case z => omega)); (intro h' F' N'; (try k_sweep))))
local macro_rules | `(tactic| walk_at "truthy ref") => `(tactic| (k_here; (with_reducible show wpAny _ _ (truthy (Value.ref _)) _ _ _); refine' ref_truthy ?k1 ?k2 ?k3 ?_; (case k1 => exact News.get (by k_asm) (by k_mem)); (case k2 => (try simp only [List.length_dropLast, List.length_set]); omega); (case k3 => (try simp only [List.length_dropLast, List.length_set]); omega)))
local macro_rules | `(tactic| walk_at "exec") => `(tactic| ((with_reducible show wpAny _ _ (exec (Stmt.For _ _ _ _ _) _) _ _ _); refine of_stop ?_))
local macro_rules | `(tactic| walk_at "exec For Name Call cons nil") => `(tactic| (refine of_stop ?_))
local macro_rules | `(tactic| walk_at "binaryOp FloorDiv int int") => `(tactic| ((with_reducible refine fdivE ?k1 ?k2 ?_); (case k1 => omega); (case k2 => omega)))
local macro_rules | `(tactic| walk_at "binaryOp Mod int int") => `(tactic| ((with_reducible refine fmodE ?k1 ?_); (case k1 => omega)))
local macro_rules | `(tactic| walk_at "subscriptTail Name Slice ref ref") => `(tactic| (refine of_stop ?_))
theorem dropLast_getD {l : List Addr} {i : Nat} (h : i + 1 < l.length) : l.dropLast.getD i default = l.getD i default := by
  rw [List.getD_eq_getElem?_getD, List.getD_eq_getElem?_getD, List.getElem?_dropLast, if_pos (by omega)]
theorem heappop {prog : Program} {w : World} {A : Around} {E : Value → Shared → Prop} {s : Shared} {mg mb : Str → Option Value} {base : Heap} {a : Addr} {n : Nat} {l : List Addr} {key : Addr → Nat}
    (hb : ∀ b o, base.get? b = some o → s.heap.get? b = some o) (W : Wd w mg mb base) (ha : base.get? a = none) (hl : s.heap.get? a = some (refsOf l n))
    (hd : A.depth + 12 < recursionLimit) (hu : A.units + 40 < cLine) (hit : ∀ x ∈ l, IsItem prog w base x (key x)) (hps : 2 ≤ l.length) (hln : l.length < 1000) :
    wpAny (model prog w) A (call (.ref 21) [.ref a]) (fun v s' => v = .ref (l.getD 0 default) ∧ Out s [a] [(a, refsOf (upL (rMin key) (l.dropLast.set 0 (l.getD (l.length - 1) default)) 0) (n + 1))] s') E s := by
  refine' enter (binds := [("heap", .ref a)]) ["lastelt", "returnitem"] [(a, refsOf l n)] base hb ?h1 ?h2 W.k W.t.nolimit ?k6 ?k7 ?k8 ?k9 ?kB ?_ ?nd ?c2 ?c3 ?c4 ?c5
  case k6 => k_is
  case k7 => k_is
  case k8 => omega
  case k9 => exact BindsTo.of_eq rfl
  case c5 => decide
  case kB => exact locs rfl
  case nd => exact of_decide_eq_true rfl
  case c2 => exact rfl
  case c3 => exact rfl
  case c4 => exact rfl
  case h1 => intro p hp; rw [List.mem_singleton.mp hp]; exact ha
  case h2 => intro p hp; rw [List.mem_singleton.mp hp]; exact hl
  intro g L h₁ hg hgn F N hgs
  have Wg := W.keeps hg
  have KX := Wg.k
  have T := Wg.t
  replace hit : ∀ x ∈ l, IsItem prog w g x (key x) := fun x hx => (hit x hx).keeps fun o => hg x o
  have hnew : IsItem prog w g (l.getD (l.length - 1) default) (key (l.getD (l.length - 1) default)) := hit _ (getD_mem (by omega))
  simp only [List.map_cons, List.map_nil, List.cons_append, List.nil_append] at F
  try dsimp only
  k_steps
  rename Fr _ _ _ _ => F'
  rename News _ _ _ _ => N'
  simp only [Int.toNat_zero] at N'
  refine call_out F' N' (Upd.head (fun _ h => nomatch h)) (siftup0 (key := key) F'.keep Wg (N' _ (.head _)).2.2 (N' _ (.head _)).1 ?d1 ?d2 (set_all (fun y hy => hit y (List.dropLast_subset l hy)) hnew) ?d3 ?d4) ?_
  case d1 => show _ + 1 + 8 < _; omega
  case d2 => show _ + 3 + 30 < _; omega
  case d3 => rw [List.length_set, List.length_dropLast]; omega
  case d4 => rw [List.length_set, List.length_dropLast]; omega
  intro h'' tk'' F'' N''
  k_steps
  · show Value.ref (l.dropLast.getD 0 default) = _
    rw [dropLast_getD (by omega)]
  · exact Out.of F'' N'' hgs
theorem heappopX {prog : Program} {w : World} {A : Around} {E : Value → Shared → Prop} {s : Shared} {mg mb : Str → Option Value} {base : Heap} {a : Addr} {n : Nat} {l : List Addr} {key : Addr → Nat}
    (hb : ∀ b o, base.get? b = some o → s.heap.get? b = some o) (W : Wd w mg mb base) (ha : base.get? a = none) (hl : s.heap.get? a = some (refsOf l n))
    (hd : A.depth + 12 < recursionLimit) (hu : A.units + 40 < cLine) (hit : ∀ x ∈ l, IsItem prog w base x (key x)) (hps : 2 ≤ l.length) (hln : l.length < 1000) :
    wpAny (model prog w) A (call (.ref 49) [.ref a]) (fun v s' => v = .ref (l.getD 0 default) ∧ Out s [a] [(a, refsOf (upL (rMax key) (l.dropLast.set 0 (l.getD (l.length - 1) default)) 0) (n + 1))] s') E s := by
  refine' enter (binds := [("heap", .ref a)]) ["lastelt", "returnitem"] [(a, refsOf l n)] base hb ?h1 ?h2 W.k W.t.nolimit ?k6 ?k7 ?k8 ?k9 ?kB ?_ ?nd ?c2 ?c3 ?c4 ?c5
  case k6 => k_is
  case k7 => k_is
  case k8 => omega
  case k9 => exact BindsTo.of_eq rfl
  case c5 => decide
  case kB => exact locs rfl
  case nd => exact of_decide_eq_true rfl
  case c2 => exact rfl
  case c3 => exact rfl
  case c4 => exact rfl
  case h1 => intro p hp; rw [List.mem_singleton.mp hp]; exact ha
  case h2 => intro p hp; rw [List.mem_singleton.mp hp]; exact hl
  intro g L h₁ hg hgn F N hgs
  have Wg := W.keeps hg
  have KX := Wg.k
  have T := Wg.t
  replace hit : ∀ x ∈ l, IsItem prog w g x (key x) := fun x hx => (hit x hx).keeps fun o => hg x o
  have hnew : IsItem prog w g (l.getD (l.length - 1) default) (key (l.getD (l.length - 1) default)) := hit _ (getD_mem (by omega))
  simp only [List.map_cons, List.map_nil, List.cons_append, List.nil_append] at F
  try dsimp only
  k_steps
  rename Fr _ _ _ _ => F'
  rename News _ _ _ _ => N'
  simp only [Int.toNat_zero] at N'
  refine call_out F' N' (Upd.head (fun _ h => nomatch h)) (siftup0X (key := key) F'.keep Wg (N' _ (.head _)).2.2 (N' _ (.head _)).1 ?d1 ?d2 (set_all (fun y hy => hit y (List.dropLast_subset l hy)) hnew) ?d3 ?d4) ?_
  case d1 => show _ + 1 + 8 < _; omega
  case d2 => show _ + 3 + 30 < _; omega
  case d3 => rw [List.length_set, List.length_dropLast]; omega
  case d4 => rw [List.length_set, List.length_dropLast]; omega
  intro h'' tk'' F'' N''
  k_steps
  · show Value.ref (l.dropLast.getD 0 default) = _
    rw [dropLast_getD (by omega)]
  · exact Out.of F'' N'' hgs
theorem heapreplace {prog : Program} {w : World} {A : Around} {E : Value → Shared → Prop} {s : Shared} {mg mb : Str → Option Value} {base : Heap} {a x : Addr} {n : Nat} {l : List Addr} {key : Addr → Nat}
    (hb : ∀ b o, base.get? b = some o → s.heap.get? b = some o) (W : Wd w mg mb base) (ha : base.get? a = none) (hl : s.heap.get? a = some (refsOf l n))
    (hd : A.depth + 12 < recursionLimit) (hu : A.units + 40 < cLine) (hit : ∀ x ∈ l, IsItem prog w base x (key x)) (hps : 0 < l.length) (hln : l.length < 1000) (hx : IsItem prog w base x (key x)) :
    wpAny (model prog w) A (call (.ref 28) [.ref a, .ref x]) (fun v s' => v = .ref (l.getD 0 default) ∧ Out s [a] [(a, refsOf (upL (rMin key) (l.set 0 x) 0) n)] s') E s := by
  refine' enter (binds := [("heap", .ref a), ("item", .ref x)]) ["returnitem"] [(a, refsOf l n)] base hb ?h1 ?h2 W.k W.t.nolimit ?k6 ?k7 ?k8 ?k9 ?kB ?_ ?nd ?c2 ?c3 ?c4 ?c5
  case k6 => k_is
  case k7 => k_is
  case k8 => omega
  case k9 => exact BindsTo.of_eq rfl
  case c5 => decide
  case kB => exact locs rfl
  case nd => exact of_decide_eq_true rfl
  case c2 => exact rfl
  case c3 => exact rfl
  case c4 => exact rfl
  case h1 => intro p hp; rw [List.mem_singleton.mp hp]; exact ha
  case h2 => intro p hp; rw [List.mem_singleton.mp hp]; exact hl
  intro g L h₁ hg hgn F N hgs
  have Wg := W.keeps hg
  have KX := Wg.k
  have T := Wg.t
  replace hit : ∀ x ∈ l, IsItem prog w g x (key x) := fun x hx => (hit x hx).keeps fun o => hg x o
  replace hx : IsItem prog w g x (key x) := hx.keeps fun o => hg x o
  simp only [List.map_cons, List.map_nil, List.cons_append, List.nil_append] at F
  try dsimp only
  k_steps
  rename Fr _ _ _ _ => F'
  rename News _ _ _ _ => N'
  simp only [Int.toNat_zero] at N'
  refine call_out F' N' (Upd.head (fun _ h => nomatch h)) (siftup0 (key := key) F'.keep Wg (N' _ (.head _)).2.2 (N' _ (.head _)).1 ?d1 ?d2 (set_all hit hx) ?d3 ?d4) ?_
  case d1 => show _ + 1 + 8 < _; omega
  case d2 => show _ + 3 + 30 < _; omega
  case d3 => rw [List.length_set]; omega
  case d4 => rw [List.length_set]; omega
  intro h'' tk'' F'' N''
  k_steps
  exact Out.of F'' N'' hgs
theorem heapreplaceX {prog : Program} {w : World} {A : Around} {E : Value → Shared → Prop} {s : Shared} {mg mb : Str → Option Value} {base : Heap} {a x : Addr} {n : Nat} {l : List Addr} {key : Addr → Nat}
    (hb : ∀ b o, base.get? b = some o → s.heap.get? b = some o) (W : Wd w mg mb base) (ha : base.get? a = none) (hl : s.heap.get? a = some (refsOf l n))
    (hd : A.depth + 12 < recursionLimit) (hu : A.units + 40 < cLine) (hit : ∀ x ∈ l, IsItem prog w base x (key x)) (hps : 0 < l.length) (hln : l.length < 1000) (hx : IsItem prog w base x (key x)) :
    wpAny (model prog w) A (call (.ref 56) [.ref a, .ref x]) (fun v s' => v = .ref (l.getD 0 default) ∧ Out s [a] [(a, refsOf (upL (rMax key) (l.set 0 x) 0) n)] s') E s := by
  refine' enter (binds := [("heap", .ref a), ("item", .ref x)]) ["returnitem"] [(a, refsOf l n)] base hb ?h1 ?h2 W.k W.t.nolimit ?k6 ?k7 ?k8 ?k9 ?kB ?_ ?nd ?c2 ?c3 ?c4 ?c5
  case k6 => k_is
  case k7 => k_is
  case k8 => omega
  case k9 => exact BindsTo.of_eq rfl
  case c5 => decide
  case kB => exact locs rfl
  case nd => exact of_decide_eq_true rfl
  case c2 => exact rfl
  case c3 => exact rfl
  case c4 => exact rfl
  case h1 => intro p hp; rw [List.mem_singleton.mp hp]; exact ha
  case h2 => intro p hp; rw [List.mem_singleton.mp hp]; exact hl
  intro g L h₁ hg hgn F N hgs
  have Wg := W.keeps hg
  have KX := Wg.k
  have T := Wg.t
  replace hit : ∀ x ∈ l, IsItem prog w g x (key x) := fun x hx => (hit x hx).keeps fun o => hg x o
  replace hx : IsItem prog w g x (key x) := hx.keeps fun o => hg x o
  simp only [List.map_cons, List.map_nil, List.cons_append, List.nil_append] at F
  try dsimp only
  k_steps
  rename Fr _ _ _ _ => F'
  rename News _ _ _ _ => N'
  simp only [Int.toNat_zero] at N'
  refine call_out F' N' (Upd.head (fun _ h => nomatch h)) (siftup0X (key := key) F'.keep Wg (N' _ (.head _)).2.2 (N' _ (.head _)).1 ?d1 ?d2 (set_all hit hx) ?d3 ?d4) ?_
  case d1 => show _ + 1 + 8 < _; omega
  case d2 => show _ + 3 + 30 < _; omega
  case d3 => rw [List.length_set]; omega
  case d4 => rw [List.length_set]; omega
  intro h'' tk'' F'' N''
  k_steps
  exact Out.of F'' N'' hgs
theorem heappushpop {prog : Program} {w : World} {A : Around} {E : Value → Shared → Prop} {s : Shared} {mg mb : Str → Option Value} {base : Heap} {a x : Addr} {n : Nat} {l : List Addr} {key : Addr → Nat}
    (hb : ∀ b o, base.get? b = some o → s.heap.get? b = some o) (W : Wd w mg mb base) (ha : base.get? a = none) (hl : s.heap.get? a = some (refsOf l n))
    (hd : A.depth + 12 < recursionLimit) (hu : A.units + 40 < cLine) (hit : ∀ x ∈ l, IsItem prog w base x (key x)) (hps : 0 < l.length) (hln : l.length < 1000) (hh : A.handled = none) (hx : IsItem prog w base x (key x)) :
    wpAny (model prog w) A (call (.ref 35) [.ref a, .ref x]) (fun v s' => v = .ref (if ltM (key (l.getD 0 default)) (key x) = true then l.getD 0 default else x) ∧ Out s [a] [(a, refsOf (if ltM (key (l.getD 0 default)) (key x) = true then upL (rMin key) (l.set 0 x) 0 else l) n)] s') E s := by
  refine' enter (binds := [("heap", .ref a), ("item", .ref x)]) [] [(a, refsOf l n)] base hb ?h1 ?h2 W.k W.t.nolimit ?k6 ?k7 ?k8 ?k9 ?kB ?_ ?nd ?c2 ?c3 ?c4 ?c5
  case k6 => k_is
  case k7 => k_is
  case k8 => omega
  case k9 => exact BindsTo.of_eq rfl
  case c5 => decide
  case kB => exact locs rfl
  case nd => exact of_decide_eq_true rfl
  case c2 => exact rfl
  case c3 => exact rfl
  case c4 => exact rfl
  case h1 => intro p hp; rw [List.mem_singleton.mp hp]; exact ha
  case h2 => intro p hp; rw [List.mem_singleton.mp hp]; exact hl
  intro g L h₁ hg hgn F N hgs
  have Wg := W.keeps hg
  have KX := Wg.k
  have T := Wg.t
  replace hit : ∀ x ∈ l, IsItem prog w g x (key x) := fun x hx => (hit x hx).keeps fun o => hg x o
  replace hx : IsItem prog w g x (key x) := hx.keeps fun o => hg x o
  simp only [List.map_cons, List.map_nil, List.cons_append, List.nil_append] at F
  try dsimp only
  k_steps
  · rename List.isEmpty _ = true => he
    exact absurd hps (by cases l with | nil => exact Nat.lt_irrefl 0 | cons _ _ => cases he)
  · rename List.isEmpty _ = true => he
    exact absurd hps (by cases l with | nil => exact Nat.lt_irrefl 0 | cons _ _ => cases he)
  · rename Fr _ _ _ _ => F'
    rename News _ _ _ _ => N'
    rename ltM _ _ = true => hlt
    refine assign_pair hh F' N' (.head _) rfl ?_
    clear F' N'
    intro h₂ F₂ N₂
    k_steps
    simp only [Int.toNat_zero] at hlt
    rename Fr _ _ _ _ => F'
    rename News _ _ _ _ => N'
    simp only [Int.toNat_zero] at N'
    refine call_out F' N' (by k_upd) (siftup0 (key := key) F'.keep Wg (N' _ (.tail _ (.head _))).2.2 (N' _ (.tail _ (.head _))).1 ?d1 ?d2 (set_all hit hx) ?d3 ?d4) ?_
    case d1 => show _ + 1 + 8 < _; omega
    case d2 => show _ + 3 + 30 < _; omega
    case d3 => rw [List.length_set]; omega
    case d4 => rw [List.length_set]; omega
    intro h'' tk'' F'' N''
    k_steps
    · show Value.ref (l.getD 0 default) = _
      rw [if_pos hlt]
    · rw [if_pos hlt]
      exact (Out.of F'' N'' hgs).less fun p hp => .tail _ hp
  · rename ltM _ _ = false => hlt
    show Value.ref x = _
    simp only [Int.toNat_zero] at hlt
    rw [if_neg (fun e => Bool.false_ne_true (hlt.symm.trans e))]
  · rename ltM _ _ = false => hlt
    simp only [Int.toNat_zero] at hlt
    rw [if_neg (fun e => Bool.false_ne_true (hlt.symm.trans e))]
    exact Out.of F N hgs
end Mine
namespace Mine
local macro_rules | `(tactic| walk_at "subscriptTail") => `(tactic| (k_here; (with_reducible show wpAny _ _ (subscriptTail _ _ (Value.ref _) (Value.int _ _)) _ _ _); (with_unfolding_all refine' ref_get ?k1 ?k2 ?k3 ?k4 ?_ ?k6 ?k7; (case k1 => exact News.get (by k_asm) (by k_mem)); (case k2 => omega); (case k3 => (try simp only [List.length_dropLast, List.length_set]); omega); (case k4 => omega); (case k6 => with_unfolding_all rfl); (case k7 => intro _; with_unfolding_all rfl); k_whole)))
local macro_rules | `(tactic| walk_at "setItem ref int") => `(tactic| (k_here; (with_reducible show wpAny _ _ (setItem (Value.ref _) (Value.int _ _) (Value.ref _)) _ _ _); k_dflt (refine' ref_set ?k1 ?k2 ?k3 ?k4 ?k5 ?k6 ?_; (case k1 => k_asm); (case k2 => k_asm); (case k3 => k_upd); (case k4 => omega); (case k5 => (try simp only [List.length_dropLast, List.length_set]); omega); (case k6 => omega); k_whole); intro h' F' N'; (try k_sweep)))
local macro_rules | `(tactic| walk_at "compareOp Lt ref") => `(tactic| (k_here; (with_reducible show wpAny _ _ (compareOp CmpOp.Lt (Value.ref _) (Value.ref _)) _ _ _); refine' item_lt ?k1 ?k2 ?k3 ?_; (case k1 => first | exact item_at (by assumption) (by assumption) (by omega) | exact item_on (by assumption) (by assumption)); (case k2 => first | exact item_at (by assumption) (by assumption) (by omega) | exact item_on (by assumption) (by assumption)); (case k3 => show _ + 3 < _; omega)))
local macro_rules | `(tactic| walk_at "storeName") => `(tactic| (k_here; k_dflt (refine' stO ?F ?N ?_ ?a ?b; (case F => k_asm); (case N => k_asm); (case a => rfl); (case b => rfl); k_whole; intro h' F' N'; (try k_sweep))))
local macro_rules | `(tactic| walk_at "binaryOp RShift int int") => `(tactic| (with_reducible refine rsh1 ?_))
local macro_rules | `(tactic| walk_at "exec") => `(tactic| ((with_reducible show wpAny _ _ (exec (Stmt.While _ _ _ _) _) _ _ _); refine of_stop ?_))

local macro_rules | `(tactic| walk_at "call ref") => `(tactic| ((with_reducible show wpAny _ _ (call (Value.ref _) _) _ _ _); refine of_stop ?_))
local macro_rules | `(tactic| walk_at "call builtin:len") => `(tactic| (k_here; (with_reducible show wpAny _ _ (call (Value.builtin "len") [Value.ref _]) _ _ _); refine' ref_len ?k1 ?k2 ?_; (case k1 => exact News.get (by k_asm) (by k_mem)); (case k2 => omega)))
local macro_rules | `(tactic| walk_at "call builtin:list.pop") => `(tactic| (k_here; (with_reducible show wpAny _ _ (call (Value.builtin _) [Value.ref _]) _ _ _); k_dflt (refine' ref_pop ?F ?N ?U ?l ?z ?_; (case F => k_asm); (case N => k_asm); (case U => k_upd); (case l => omega); (case z => omega)); (intro h' F' N'; (try k_sweep))))
local macro_rules | `(tactic| walk_at "truthy ref") => `(tactic| (k_here; (with_reducible show wpAny _ _ (truthy (Value.ref _)) _ _ _); refine' ref_truthy ?k1 ?k2 ?k3 ?_; (case k1 => exact News.get (by k_asm) (by k_mem)); (case k2 => (try simp only [List.length_dropLast, List.length_set]); omega); (case k3 => (try simp only [List.length_dropLast, List.length_set]); omega)))
local macro_rules | `(tactic| walk_at "exec") => `(tactic| ((with_reducible show wpAny _ _ (exec (Stmt.For _ _ _ _ _) _) _ _ _); refine of_stop ?_))
local macro_rules | `(tactic| walk_at "exec For Name Call cons nil") => `(tactic| (refine of_stop ?_))
local macro_rules | `(tactic| walk_at "binaryOp FloorDiv int int") => `(tactic| ((with_reducible refine fdivE ?k1 ?k2 ?_); (case k1 => omega); (case k2 => omega)))
local macro_rules | `(tactic| walk_at "binaryOp Mod int int") => `(tactic| ((with_reducible refine fmodE ?k1 ?_); (case k1 => omega)))
local macro_rules | `(tactic| walk_at "subscriptTail Name Slice ref ref") => `(tactic| (refine of_stop ?_))
def HfyInv (prog : Program) (w : World) (g : Heap) (a : Addr) (n : Nat) (l : List Addr) (key : Addr → Nat) (r : Addr → Addr → Bool) (i : Nat) (M : List (Str × Option Value)) (news : List (Addr × Obj)) : Prop :=
  ∃ lv pi tn, M = ([("x", some (.ref a)), ("n", some (.int (l.length : Nat) tn)), ("i", pi)] : List (Str × Option Value)) ∧ news = [(a, refsOf lv n)] ∧ lv.length = l.length ∧ (∀ x ∈ lv, IsItem prog w g x (key x)) ∧ heapL r lv (l.length / 2 - i) = heapL r l (l.length / 2)

theorem heapify {prog : Program} {w : World} {A : Around} {E : Value → Shared → Prop} {s : Shared} {mg mb : Str → Option Value} {base : Heap} {a : Addr} {n : Nat} {l : List Addr} {key : Addr → Nat}
    (hb : ∀ b o, base.get? b = some o → s.heap.get? b = some o) (W : Wd w mg mb base) (ha : base.get? a = none) (hl : s.heap.get? a = some (refsOf l n))
    (hd : A.depth + 12 < recursionLimit) (hu : A.units + 40 < cLine) (hit : ∀ x ∈ l, IsItem prog w base x (key x)) (hps : 0 < l.length) (hln : l.length < 1000) (hh : A.handled = none) :
    wpAny (model prog w) A (call (.ref 42) [.ref a]) (fun v s' => v = .none ∧ Out s [a] [(a, refsOf (heapL (rMin key) l (l.length / 2)) n)] s') E s := by
  refine' enter (binds := [("x", .ref a)]) ["n", "i"] [(a, refsOf l n)] base hb ?h1 ?h2 W.k W.t.nolimit ?k6 ?k7 ?k8 ?k9 ?kB ?_ ?nd ?c2 ?c3 ?c4 ?c5
  case k6 => k_is
  case k7 => k_is
  case k8 => omega
  case k9 => exact BindsTo.of_eq rfl
  case c5 => decide
  case kB => exact locs rfl
  case nd => exact of_decide_eq_true rfl
  case c2 => exact rfl
  case c3 => exact rfl
  case c4 => exact rfl
  case h1 => intro p hp; rw [List.mem_singleton.mp hp]; exact ha
  case h2 => intro p hp; rw [List.mem_singleton.mp hp]; exact hl
  intro g L h₁ hg hgn F N hgs
  have Wg := W.keeps hg
  have KX := Wg.k
  have T := Wg.t
  replace hit : ∀ x ∈ l, IsItem prog w g x (key x) := fun x hx => (hit x hx).keeps fun o => hg x o
  simp only [List.map_cons, List.map_nil, List.cons_append, List.nil_append] at F
  try dsimp only
  k_steps
  refine wpAny_For ?_
  k_steps
  rename IsRange _ _ _ _ _ _ _ _ => hr
  rename Fr _ _ _ _ => F'
  rename News _ _ _ _ => N'
  have e : ((l.length : Nat) : Int) / 2 = ((l.length / 2 : Nat) : Int) := by omega
  rw [e] at hr
  refine call_reversed hr (by omega) ?_
  refine wpAny_pyIter_rangeiter (Heap.get?_push_size _ rfl) ?_
  refine for_range (a := ((l.length / 2 : Nat) : Int) - 1) (c := -1) (n := l.length / 2) (HfyInv prog w g a n l key (rMin key)) hh (Heap.get?_push_size _ rfl) (Nat.ne_of_gt F'.ns.lt) ?g1 ?g2 (F'.push _) (fun p hp => ⟨Heap.get?_push_of_some _ (N' p hp).1, (N' p hp).2⟩) ⟨l, none, _, rfl, rfl, rfl, hit, by rw [Nat.sub_zero]⟩ rfl rfl ?_ ?_
  case g1 => exact next_is_new F'
  case g2 => exact fun p hp => Nat.ne_of_lt (Heap.lt_size (N' p hp).1)
  · clear F' N' hr
    rintro i t M₁ news₁ oI h tk hi ⟨lv, pi, tn, rfl, rfl, hlen, hitv, hfold⟩ hnI F₁ N₁
    have e2 : ((l.length / 2 : Nat) : Int) - 1 + ((i : Nat) : Int) * -1 = ((l.length / 2 - 1 - i : Nat) : Int) := by omega
    rw [e2] at F₁
    k_steps
    rename Fr _ _ _ _ => F'
    rename News _ _ _ _ => N'
    have hIa := hnI _ (.head _)
    refine call_out F' N' (Upd.tail hIa.symm (Upd.head (fun _ h => nomatch h))) (siftup (key := key) F'.keep Wg (N' _ (.tail _ (.head _))).2.2 (N' _ (.tail _ (.head _))).1 ?d1 ?d2 hitv ?d3 ?d4) ?_
    case d1 => show _ + 1 + 8 < _; omega
    case d2 => show _ + 3 + 30 < _; omega
    case d3 => omega
    case d4 => omega
    intro h'' tk'' F'' N''
    k_steps
    refine ⟨_, _, _, [(a, refsOf (upL (rMin key) lv (l.length / 2 - 1 - i)) n)], rfl, F'', N'', fun p hp => (List.mem_singleton.mp hp) ▸ hIa, _, _, _, rfl, rfl, by rw [upL_length]; exact hlen, fun y hy => hitv y (upL_mem _ _ _ (by omega) y hy), ?_⟩
    rw [← hfold]
    have e3 : l.length / 2 - i = (l.length / 2 - 1 - i) + 1 := by omega
    have e4 : l.length / 2 - (i + 1) = l.length / 2 - 1 - i := by omega
    rw [e3, e4]; rfl
  · clear F' N' hr
    rintro M₁ news₁ h tk ⟨lv, pi, tn, rfl, rfl, hlen, hitv, hfold⟩ F₁ N₁
    rw [Nat.sub_self] at hfold
    k_steps
    have e5 : lv = heapL (rMin key) l (l.length / 2) := hfold
    rw [← e5]
    exact Out.of F₁ N₁ hgs
theorem heapifyX {prog : Program} {w : World} {A : Around} {E : Value → Shared → Prop} {s : Shared} {mg mb : Str → Option Value} {base : Heap} {a : Addr} {n : Nat} {l : List Addr} {key : Addr → Nat}
    (hb : ∀ b o, base.get? b = some o → s.heap.get? b = some o) (W : Wd w mg mb base) (ha : base.get? a = none) (hl : s.heap.get? a = some (refsOf l n))
    (hd : A.depth + 12 < recursionLimit) (hu : A.units + 40 < cLine) (hit : ∀ x ∈ l, IsItem prog w base x (key x)) (hps : 0 < l.length) (hln : l.length < 1000) (hh : A.handled = none) :
    wpAny (model prog w) A (call (.ref 63) [.ref a]) (fun v s' => v = .none ∧ Out s [a] [(a, refsOf (heapL (rMax key) l (l.length / 2)) n)] s') E s := by
  refine' enter (binds := [("x", .ref a)]) ["n", "i"] [(a, refsOf l n)] base hb ?h1 ?h2 W.k W.t.nolimit ?k6 ?k7 ?k8 ?k9 ?kB ?_ ?nd ?c2 ?c3 ?c4 ?c5
  case k6 => k_is
  case k7 => k_is
  case k8 => omega
  case k9 => exact BindsTo.of_eq rfl
  case c5 => decide
  case kB => exact locs rfl
  case nd => exact of_decide_eq_true rfl
  case c2 => exact rfl
  case c3 => exact rfl
  case c4 => exact rfl
  case h1 => intro p hp; rw [List.mem_singleton.mp hp]; exact ha
  case h2 => intro p hp; rw [List.mem_singleton.mp hp]; exact hl
  intro g L h₁ hg hgn F N hgs
  have Wg := W.keeps hg
  have KX := Wg.k
  have T := Wg.t
  replace hit : ∀ x ∈ l, IsItem prog w g x (key x) := fun x hx => (hit x hx).keeps fun o => hg x o
  simp only [List.map_cons, List.map_nil, List.cons_append, List.nil_append] at F
  try dsimp only
  k_steps
  refine wpAny_For ?_
  k_steps
  rename IsRange _ _ _ _ _ _ _ _ => hr
  rename Fr _ _ _ _ => F'
  rename News _ _ _ _ => N'
  have e : ((l.length : Nat) : Int) / 2 = ((l.length / 2 : Nat) : Int) := by omega
  rw [e] at hr
  refine call_reversed hr (by omega) ?_
  refine wpAny_pyIter_rangeiter (Heap.get?_push_size _ rfl) ?_
  refine for_range (a := ((l.length / 2 : Nat) : Int) - 1) (c := -1) (n := l.length / 2) (HfyInv prog w g a n l key (rMax key)) hh (Heap.get?_push_size _ rfl) (Nat.ne_of_gt F'.ns.lt) ?g1 ?g2 (F'.push _) (fun p hp => ⟨Heap.get?_push_of_some _ (N' p hp).1, (N' p hp).2⟩) ⟨l, none, _, rfl, rfl, rfl, hit, by rw [Nat.sub_zero]⟩ rfl rfl ?_ ?_
  case g1 => exact next_is_new F'
  case g2 => exact fun p hp => Nat.ne_of_lt (Heap.lt_size (N' p hp).1)
  · clear F' N' hr
    rintro i t M₁ news₁ oI h tk hi ⟨lv, pi, tn, rfl, rfl, hlen, hitv, hfold⟩ hnI F₁ N₁
    have e2 : ((l.length / 2 : Nat) : Int) - 1 + ((i : Nat) : Int) * -1 = ((l.length / 2 - 1 - i : Nat) : Int) := by omega
    rw [e2] at F₁
    k_steps
    rename Fr _ _ _ _ => F'
    rename News _ _ _ _ => N'
    have hIa := hnI _ (.head _)
    refine call_out F' N' (Upd.tail hIa.symm (Upd.head (fun _ h => nomatch h))) (siftupX (key := key) F'.keep Wg (N' _ (.tail _ (.head _))).2.2 (N' _ (.tail _ (.head _))).1 ?d1 ?d2 hitv ?d3 ?d4) ?_
    case d1 => show _ + 1 + 8 < _; omega
    case d2 => show _ + 3 + 30 < _; omega
    case d3 => omega
    case d4 => omega
    intro h'' tk'' F'' N''
    k_steps
    refine ⟨_, _, _, [(a, refsOf (upL (rMax key) lv (l.length / 2 - 1 - i)) n)], rfl, F'', N'', fun p hp => (List.mem_singleton.mp hp) ▸ hIa, _, _, _, rfl, rfl, by rw [upL_length]; exact hlen, fun y hy => hitv y (upL_mem _ _ _ (by omega) y hy), ?_⟩
    rw [← hfold]
    have e3 : l.length / 2 - i = (l.length / 2 - 1 - i) + 1 := by omega
    have e4 : l.length / 2 - (i + 1) = l.length / 2 - 1 - i := by omega
    rw [e3, e4]; rfl
  · clear F' N' hr
    rintro M₁ news₁ h tk ⟨lv, pi, tn, rfl, rfl, hlen, hitv, hfold⟩ F₁ N₁
    rw [Nat.sub_self] at hfold
    k_steps
    have e5 : lv = heapL (rMax key) l (l.length / 2) := hfold
    rw [← e5]
    exact Out.of F₁ N₁ hgs
end Mine
namespace Mine
section
variable {prog : Program} {w : World} {A : Around} {E : Value → Shared → Prop}

theorem newEnv_cell {M : Model} {s : Shared} {scope : Scope} {globals : Addr} {qual x g0 g1 g2 : Str} {outer : Env} {Q : Env → Shared → Prop}
    (hn : scope.names = [(g0, .local), (x, .cell), (g1, .globalImplicit), (g2, .globalImplicit)])
    (h : Q (newEnv scope s.heap.objs.size globals [(x, s.heap.objs.size + 1)] qual none .none (some outer) builtinsNs)
      { s with heap := (s.heap.push { cls := .type "dict", data := .dict #[] }).push { cls := .type "cell", data := .cell none } }) :
    wpAny M A (newFunctionEnv scope globals [] [] qual none .none (some outer)) Q E s := by
  simp only [newFunctionEnv, Option.isSome_some, if_true, hn, List.forIn_cons, List.forIn_nil]
  refine wpAny_bind (wpAny_alloc ?_)
  refine wpAny_bind ?_
  simp only [show (NameKind.local == NameKind.cell) = false from rfl, show (NameKind.cell == NameKind.cell) = true from rfl, show (NameKind.globalImplicit == NameKind.cell) = false from rfl, Bool.false_eq_true, if_false, if_true, pure_bind, bind_assoc]
  refine wpAny_bind (wpAny_alloc (wpAny_pure ?_))
  refine wpAny_pure ?_
  have e : (s.heap.push { cls := .type "dict", data := .dict #[] }).objs.size = s.heap.objs.size + 1 := Heap.size_push ..
  dsimp only
  rw [e]
  exact h
end

section
variable {prog : Program} {w : World} {A : Around} {E : Value → Shared → Prop} {env : Env}

theorem kappend {s : Shared} {l : Addr} {ys : List Value} {n : Nat} {y : Value} {Q : Value → Shared → Prop} (hl : s.heap.get? l = some (listOf ys.toArray n)) (hsz : ys.toArray.size ≤ sizeLine)
    (h : ∀ h' n', h'.get? l = some (listOf (ys ++ [y]).toArray n') → Heap.SameBut l s.heap h' → Q .none { s with heap := h' }) : wpAny (model prog w) A (call (.builtin "list.append") [.ref l, y]) Q E s := by
  have hL : s.heap.IsList l ys.toArray := ⟨_, hl, rfl, n, rfl⟩
  refine wpAny_call_entry slot_list_append hL.typeIs entry_list_append ?_ (args_list_append _ _)
  show wpAny _ _ (updateSeq l (·.push y) >>= fun _ => ret .none) _ _ s
  have q := PySem.IsL.update hl (·.push y)
  rw [List.push_toArray] at q
  exact wpAny_bind (wpAny_updateSeq hl rfl (wpAny_pure ⟨.none, rfl, h _ _ q (Heap.SameBut.update ..)⟩))

/-- a comprehension over a list, its name a cell: what holds between the turns is `J` (of the objects that it writes itself, of the turn's number, of the values so far, of the heap) -/
theorem comp_cell_block {elt iter : Expr} {x g0 g1 g2 : Str} {px : Pos} {scope : Scope} {pos : Pos} {s₂ : Shared} {I ax : Addr} {items : Array Value} {RR : Value → Addr → Result → Shared → Prop}
    (J : List Addr → Nat → List Value → Heap → Prop)
    (hn : scope.names = [(g0, .local), (x, .cell), (g1, .globalImplicit), (g2, .globalImplicit)]) (hkind : scope.kind = .function) (hx : scope.names.lookup x = some .cell)
    (hh : A.handled = none) (hit : s₂.heap.IsListIter I ax 0) (hl : s₂.heap.IsList ax items) (hne : ax ≠ I) (hsz : items.size ≤ sizeLine)
    (hJ0 : ∀ W, J W 0 [] s₂.heap)
    (hJ : ∀ W i ys h h', J W i ys h → (∀ b o, b ∉ W → h.get? b = some o → h'.get? b = some o) → J W i ys h')
    (helt : ∀ W C c i v ys h tk, s₂.heap.objs.size < C → items[i]? = some v → J W i ys h → h.IsCell c (some v) → (∀ b ∈ W, ∃ o, h.get? b = some o) → (∀ b o, b ≠ I → s₂.heap.get? b = some o → h.get? b = some o) →
      wpAny (model prog w) A (eval elt (compEnvC scope [(x, c)] C env)) (fun y s₄ => Keeps { s₂ with heap := h, toks := tk } s₄ ∧ J W (i + 1) (ys ++ [y]) s₄.heap) Never { s₂ with heap := h, toks := tk })
    (hRR : ∀ W D C h' tk m' ys n, s₂.heap.get? D = none → s₂.heap.get? C = none → D ≠ C → h'.Ns C m' → h'.get? D = some (listOf ys.toArray n) → J W items.size ys h' → C ∈ W → ys.length = items.size →
      (∀ b o, b ≠ I → s₂.heap.get? b = some o → h'.get? b = some o) → RR (.ref D) C (.ok .next) { s₂ with heap := h', toks := tk }) :
    wpAny (model prog w) A (newList []) (fun acc s₃ => wpAny (model prog w) A (newFunctionEnv scope env.globals [] [] env.qual none .none (some env)) (fun cenv s₄ =>
      codeAny (model prog w) A (.compStart (.ListComp elt [⟨.Name x px, iter, [], 0⟩] scope pos) 0 (.ref I) acc { cenv with scope := relabel scope env }) (RR acc cenv.locals) s₄) E s₃) E s₂ := by
  have hrel : relabel scope env = scope := by
    unfold relabel
    rw [show scope.names.map (fun (n, k) => if (k == .free && env.scope.kind == .function && env.kindOf n == some .cell) then (n, NameKind.cell) else (n, k)) = scope.names from by rw [hn]; rfl]
  refine wpAny_newObj_type (newEnv_cell hn ?_)
  dsimp only
  generalize hD : s₂.heap.objs.size = D
  generalize hH3 : s₂.heap.push { cls := .type "list", dict := none, data := .seq ([] : List Value).toArray } = H3
  have hC : H3.objs.size = D + 1 := by rw [← hH3, Heap.size_push, hD]
  generalize hH5 : (H3.push { cls := .type "dict", data := .dict #[] }).push { cls := .type "cell", data := .cell none } = H5
  rw [hC]
  have hacc : H5.get? D = some (listOf [].toArray 0) := by
    rw [← hH5]; exact Heap.get?_push_of_some _ (Heap.get?_push_of_some _ (by rw [← hH3, ← hD]; exact Heap.get?_push_size _ rfl))
  have hns : H5.Ns (D + 1) (fun _ => none) := by
    rw [← hH5, ← hC]; exact (Heap.Ns.new H3 (.type "dict")).push _
  have hcell : H5.IsCell (D + 2) none := by
    refine ⟨{ cls := .type "cell", data := .cell none }, ?_, rfl⟩
    have : D + 2 = (H3.push { cls := .type "dict", data := .dict #[] }).objs.size := by rw [Heap.size_push, hC]
    rw [this, ← hH5]; exact Heap.get?_push_size _ rfl
  have old : ∀ b o, s₂.heap.get? b = some o → H5.get? b = some o := fun b o e => by
    rw [← hH5]; exact Heap.get?_push_of_some _ (Heap.get?_push_of_some _ (by rw [← hH3]; exact Heap.get?_push_of_some _ e))
  have ltD : ∀ {b o}, s₂.heap.get? b = some o → b < D := fun e => hD ▸ Heap.lt_size e
  have hID : I < D := let ⟨o, ho, _⟩ := hit; ltD ho
  have hAD : ax < D := let ⟨o, ho, _⟩ := hl; ltD ho
  have nI0 : I ≠ D := Nat.ne_of_lt hID
  have nI1 : I ≠ D + 1 := Nat.ne_of_lt (Nat.lt_succ_of_lt hID)
  have nI2 : I ≠ D + 2 := Nat.ne_of_lt (Nat.lt_succ_of_lt (Nat.lt_succ_of_lt hID))
  have nA0 : ax ≠ D := Nat.ne_of_lt hAD
  have nA2 : ax ≠ D + 2 := Nat.ne_of_lt (Nat.lt_succ_of_lt (Nat.lt_succ_of_lt hAD))
  have n01 : D ≠ D + 1 := Nat.ne_of_lt (Nat.lt_succ_self _)
  have n02 : D ≠ D + 2 := Nat.ne_of_lt (Nat.lt_succ_of_lt (Nat.lt_succ_self _))
  have n12 : D + 1 ≠ D + 2 := Nat.ne_of_lt (Nat.lt_succ_self _)
  have fresh : ∀ a, D ≤ a → s₂.heap.get? a = none := fun a ha => by
    cases e : s₂.heap.get? a with
    | none => rfl
    | some o' => exact absurd (ltD e) (Nat.not_lt.mpr ha)
  have loop : codeAny (model prog w) A (.compLoop (.ListComp elt [⟨.Name x px, iter, [], 0⟩] scope pos) 0 (.ref I) (.ref D) (compEnvC scope [(x, D + 2)] (D + 1) env)) (RR (.ref D) (D + 1)) { s₂ with heap := H5 } := by
    refine codeAny_compLoop_list (fun n' s' => ∃ h tk ys n i c₀, s' = { s₂ with heap := h, toks := tk } ∧ i ≤ items.size ∧ n' = items.size + 1 - i ∧ ys.length = i ∧ h.IsListIter I ax i ∧ h.IsList ax items ∧ h.Ns (D + 1) (fun _ => none) ∧ h.IsCell (D + 2) c₀ ∧
        h.get? D = some (listOf ys.toArray n) ∧ J [D, D + 1, D + 2, I] i ys h ∧ (∀ b o, b ≠ I → s₂.heap.get? b = some o → h.get? b = some o)) ?_ (items.size + 1)
      ⟨H5, s₂.toks, [], 0, 0, none, rfl, Nat.zero_le _, rfl, rfl, let ⟨o, ho, r⟩ := hit; ⟨o, old _ _ ho, r⟩, let ⟨o, ho, r⟩ := hl; ⟨o, old _ _ ho, r⟩, hns, hcell, hacc, hJ _ _ _ _ _ (hJ0 _) fun b o _ e => old b o e, fun b o _ e => old b o e⟩
    rintro n' s' ⟨h, tk, ys, n, i, c₀, rfl, hi, rfl, hlen, hit₁, hl₁, hns₁, hc₁, hD₁, hJ₁, hk₁⟩
    cases hv : items[i]? with
    | none =>
      have hsz' : i = items.size := Nat.le_antisymm hi (by simpa using hv)
      refine wpAny_pyNext_list_end hh hit₁ hl₁ hv fun h₁ he₁ => ?_
      refine hRR [D, D + 1, D + 2, I] D (D + 1) h₁ tk (fun _ => none) ys n (fresh _ (Nat.le_refl _)) (fresh _ (Nat.le_succ _)) n01 (hns₁.extBut he₁ nI1.symm) (he₁ _ _ nI0.symm hD₁) ?_ (.tail _ (.head _)) (hlen.trans hsz') fun b o hb e => he₁ b o hb (hk₁ b o hb e)
      rw [← hsz']
      exact hJ _ _ _ _ _ hJ₁ fun b o hb e => he₁ b o (fun q => hb (by rw [q]; simp)) e
    | some v =>
      have hlt : i < items.size := (Array.getElem?_eq_some_iff.mp hv).1
      refine wpAny_pyNext_list_item hit₁ hl₁ hv fun h₁ hit₂ hs₁ => ?_
      refine wpAny_assign_Name (wpAny_storeName_cell (c := D + 2) (v₀ := c₀) (by show (relabel scope env).kind = .function; rw [hrel]; exact hkind) (by show (relabel scope env).names.lookup x = some .cell; rw [hrel]; exact hx) (by simp [compEnvC]) (hc₁.sameBut hs₁ nI2.symm) fun h₂ hc₂ hs₂ => ?_)
      have k12 : ∀ b o, b ≠ I → b ≠ D + 2 → h.get? b = some o → h₂.get? b = some o := fun b o h1 h2 e => hs₂.extBut b o h2 (hs₁.extBut b o h1 e)
      have hiI : h₂.IsListIter I ax (i + 1) := hit₂.extBut hs₂.extBut nI2
      have hJ₂ : J [D, D + 1, D + 2, I] i ys h₂ := hJ _ _ _ _ _ hJ₁ fun b o hb e => k12 b o (fun q => hb (by rw [q]; simp)) (fun q => hb (by rw [q]; simp)) e
      have hD₂ := k12 D _ nI0.symm n02 hD₁
      have hns₂ := (hns₁.sameBut hs₁ nI1.symm).sameBut hs₂ n12
      refine wpAny_mono (helt [D, D + 1, D + 2, I] (D + 1) (D + 2) i v ys h₂ tk (hD ▸ Nat.lt_succ_self _) hv hJ₂ hc₂ ?_ fun b o hb e => k12 b o hb (Nat.ne_of_lt (Nat.lt_succ_of_lt (Nat.lt_succ_of_lt (ltD e)))) (hk₁ b o hb e)) (fun y s₄ hy => ?_) fun _ _ x => x.elim
      · intro b hb
        simp only [List.mem_cons, List.not_mem_nil, or_false] at hb
        rcases hb with rfl | rfl | rfl | rfl
        · exact ⟨_, hD₂⟩
        · obtain ⟨o, _, _, ho, _⟩ := hns₂; exact ⟨o, ho⟩
        · obtain ⟨o, ho, _⟩ := hc₂; exact ⟨o, ho⟩
        · obtain ⟨o, ho, _⟩ := hiI; exact ⟨o, ho⟩
      · obtain ⟨⟨h₄, tk₄, rfl, hk₄⟩, hJ₄⟩ := hy
        have hk₄' : ∀ b o, h₂.get? b = some o → h₄.get? b = some o := hk₄
        have hD₄ := hk₄' _ _ hD₂
        refine kappend hD₄ (by rw [List.size_toArray]; omega) fun h₅ n₅ hD₅ hs₅ => ?_
        refine ⟨items.size + 1 - (i + 1), by omega, h₅, tk₄, ys ++ [y], n₅, i + 1, some v, rfl, hlt, rfl, by rw [List.length_append, hlen]; rfl, ?_, ?_, ?_, ?_, hD₅, ?_, ?_⟩
        · obtain ⟨o, ho, r⟩ := hiI; exact ⟨o, hs₅.extBut _ _ nI0 (hk₄' _ _ ho), r⟩
        · obtain ⟨o, ho, r⟩ := hl₁; exact ⟨o, hs₅.extBut _ _ nA0 (hk₄' _ _ (k12 _ _ hne nA2 ho)), r⟩
        · obtain ⟨o, es, ep, ho, r⟩ := hns₂; exact ⟨o, es, ep, hs₅.extBut _ _ n01.symm (hk₄' _ _ ho), r⟩
        · obtain ⟨o, ho, r⟩ := hc₂; exact ⟨o, hs₅.extBut _ _ n02.symm (hk₄' _ _ ho), r⟩
        · exact hJ _ _ _ _ _ hJ₄ fun b o hb e => hs₅.extBut b o (fun q => hb (by rw [q]; simp)) e
        · exact fun b o hb e => hs₅.extBut b o (Nat.ne_of_lt (ltD e)) (hk₄' b o (k12 b o hb (Nat.ne_of_lt (Nat.lt_succ_of_lt (Nat.lt_succ_of_lt (ltD e)))) (hk₁ b o hb e)))
  have hnone : H5.IsListIter I ax 0 := let ⟨o, ho, r⟩ := hit; ⟨o, old _ _ ho, r⟩
  exact codeAny_compStart_list loop (wpAny_pyIter_listiter hnone loop)
end
end Mine
namespace Mine
theorem keeps_refl (s : Shared) : Keeps s s := ⟨s.heap, s.toks, rfl, fun _ _ e => e⟩

section
variable {prog : Program} {w : World} {A : Around} {E : Value → Shared → Prop} {s : Shared} {env : Env}

theorem eval_builtin1 {x : Str} {nm : String} {p pos : Pos} {e : Expr} {Q : Value → Shared → Prop} (hname : ∀ Q' : Value → Shared → Prop, Q' (.builtin nm) s → wpAny (model prog w) A (eval (.Name x p) env) Q' E s)
    (h : wpAny (model prog w) A (eval e env) (fun v s₁ => wpAny (model prog w) A (call (.builtin nm) [v]) Q E s₁) E s) (he : starEach [e] env = [(false, eval e env)]) :
    wpAny (model prog w) A (eval (.Call (.Name x p) [e] [] pos) env) Q E s := by
  refine wpAny_Call_Name_kw (hname _ ?_)
  rw [he]
  refine Calls.callWith_builtin rfl (Calls.evalArgs_plain (Calls.spliced_cons (wpAny_mono h (fun v s₁ h₁ => Calls.spliced_nil ?_) fun _ _ x => x)))
  exact h₁

theorem eval_type1 {x : Str} {T : String} {p pos : Pos} {e : Expr} {Q : Value → Shared → Prop} (hname : ∀ Q' : Value → Shared → Prop, Q' (.type T) s → wpAny (model prog w) A (eval (.Name x p) env) Q' E s)
    (h : wpAny (model prog w) A (eval e env) (fun v s₁ => wpAny (model prog w) A (call (.type T) [v]) Q E s₁) E s) (he : starEach [e] env = [(false, eval e env)]) :
    wpAny (model prog w) A (eval (.Call (.Name x p) [e] [] pos) env) Q E s := by
  refine wpAny_Call_Name_kw (hname _ ?_)
  rw [he]
  refine PySem.callWith_type rfl (Calls.evalArgs_plain (Calls.spliced_cons (wpAny_mono h (fun v s₁ h₁ => Calls.spliced_nil ?_) fun _ _ x => x)))
  exact h₁

theorem name_boot {x : Str} {pos : Pos} {v : Value} {mg mb : Str → Option Value} {Q : Value → Shared → Prop} (T : TT mg mb s.heap) (hm : mg x = none) (hv : bootBuiltins x = some v) (hn : x ≠ "__name__") (h : Q v s)
    (hg : env.globals = mainGlobals) (hb : env.builtins = builtinsNs) (hk : env.scope.kind = .function) (hx : env.kindOf x = some .globalImplicit) (hd : (x == ("__debug__" : Str)) = false) :
    wpAny (model prog w) A (eval (.Name x pos) env) Q E s :=
  Calls.Name_function_global hk hx (Calls.loadGlobal_builtin (show s.heap.Ns env.globals mg from hg ▸ T.g) hm (show s.heap.Ns env.builtins mb from hb ▸ T.b) ((T.builtins x hn).trans hv) h) hd

def tst (pz : Nat → Bool) : Value → Bool
  | .int i _ => pz i.toNat
  | _ => false
def IsK (v : Value) (k : Nat) : Prop := ∃ t, v = .int ((k : Nat) : Int) t
theorem paired_at {ks : List Nat} : ∀ (vs : List Value), vs.length = ks.length → (∀ (j : Nat) (v : Value) (k : Nat), vs[j]? = some v → ks[j]? = some k → IsK v k) → Paired IsK vs ks := by
  induction ks with
  | nil => intro vs h _; cases vs with | nil => exact .nil | cons _ _ => cases h
  | cons k ks ih =>
    intro vs h hv
    cases vs with
    | nil => cases h
    | cons v vs => exact .cons (hv 0 v k rfl rfl) (ih vs (Nat.succ.inj h) fun j v' k' h1 h2 => hv (j + 1) v' k' h1 h2)
theorem paired_fin {pz : Nat → Bool} {val : Nat → Int} {vs : List Value} {ks : List Nat} (h : Paired IsK vs ks) :
    ∀ {ys : List Value}, Paired (fun v y => ∃ k : Nat, IsK v k ∧ ∃ t', y = Value.int (val k) t') (vs.filter (tst pz)) ys → IntsAre ys ((ks.filter pz).map val) := by
  induction h with
  | nil => intro ys h; cases h; exact .nil
  | cons h _ ih =>
    rename_i v k vs ks _
    obtain ⟨t, rfl⟩ := h
    intro ys hp
    cases hz : pz k with
    | false =>
      rw [List.filter_cons_of_neg (by show ¬ pz (((k : Nat) : Int).toNat) = true; rw [Int.toNat_natCast, hz]; exact Bool.false_ne_true)] at hp
      rw [List.filter_cons_of_neg (by rw [hz]; exact Bool.false_ne_true)]
      exact ih hp
    | true =>
      rw [List.filter_cons_of_pos (by show pz (((k : Nat) : Int).toNat) = true; rw [Int.toNat_natCast, hz])] at hp
      rw [List.filter_cons_of_pos hz]
      cases hp with
      | cons h1 h2 =>
        obtain ⟨k', ⟨t1, e1⟩, t', rfl⟩ := h1
        have : k' = k := by injection e1 with e1; omega
        subst this
        exact .cons _ _ (ih h2)

/-- [elt for x in range(6) if ..], all of it read-only, its values ints -/
theorem comp6 {elt : Expr} {x rng : Str} {px rp cp rpos : Pos} {kk : Nat} {ifs : List Expr} {scope : Scope} {cl : List (Str × Addr)} {pos : Pos} {Q : Value → Shared → Prop} (pz : Nat → Bool) (val : Nat → Int)
    (hh : A.handled = none) (hclos : closureFor scope env = pure cl) (hcell : ∀ y ∈ scope.names, y.2 ≠ .cell) (hkind : scope.kind = .function)
    (hnames : ∀ y ∈ scope.names, y.2 = .local → scope.names.lookup y.1 = some .local) (hx : scope.names.lookup x = some .local)
    (hrng : ∀ Q' : Value → Shared → Prop, Q' (.type "range") s → wpAny (model prog w) A (eval (.Name rng rp) env) Q' E s)
    (htests : ∀ C (k : Nat) t s₃ m₃ E', k < 6 → s₃.heap.Ns C m₃ → m₃ x = some (.int (k : Nat) t) → (∀ b o, s.heap.get? b = some o → s₃.heap.get? b = some o) →
      wpAny (model prog w) A (forIn ifs true fun c r => if r = true then do let ok ← isTrue c (compEnvC scope cl C env) (eval c (compEnvC scope cl C env)); pure (ForInStep.yield ok) else pure (ForInStep.yield r))
        (fun ok s₄ => ok = pz k ∧ Keeps s₃ s₄) E' s₃)
    (helt : ∀ C (k : Nat) t s₃ m₃ E', k < 6 → s₃.heap.Ns C m₃ → m₃ x = some (.int (k : Nat) t) → (∀ b o, s.heap.get? b = some o → s₃.heap.get? b = some o) →
      wpAny (model prog w) A (eval elt (compEnvC scope cl C env)) (fun y s₄ => (∃ t', y = .int (val k) t') ∧ Keeps s₃ s₄) E' s₃)
    (hQ : ∀ D h' tk (ys : Array Value), s.heap.get? D = none → h'.IsList D ys → IntsAre ys.toList (((List.range 6).filter pz).map val) → (∀ b o, s.heap.get? b = some o → h'.get? b = some o) → Q (.ref D) { s with heap := h', toks := tk }) :
    wpAny (model prog w) A (eval (.ListComp elt [⟨.Name x px, .Call (.Name rng rp) [.Constant (.int 6) kk cp] [] rpos, ifs, 0⟩] scope pos) env) Q E s := by
  refine wpAny_ListComp_free (tst pz) (fun v y => ∃ k : Nat, IsK v k ∧ ∃ t', y = Value.int (val k) t') hclos hcell hkind hnames hx ?_
  refine eval_type1 hrng ?_ rfl
  refine wpAny_Constant_int ?_
  refine call_range_1 ?_
  generalize hs₁ : ({ s with heap := s.heap.push { cls := .type "range", data := .fields #[.int 0 (s.toks + 1), .int 6 s.toks, .int 1 (s.toks + 1 + 1)] }, toks := s.toks + 1 + 1 + 1 } : Shared) = s₁
  have hr : IsRange s₁.heap s.heap.objs.size 0 6 1 (s.toks + 1) s.toks (s.toks + 1 + 1) := by rw [← hs₁]; exact IsRange.new ..
  have k01 : ∀ b o, s.heap.get? b = some o → s₁.heap.get? b = some o := fun b o e => by rw [← hs₁]; exact Heap.get?_push_of_some _ e
  have e₁ : ∀ h' tk, ({ s₁ with heap := h', toks := tk } : Shared) = { s with heap := h', toks := tk } := fun h' tk => by rw [← hs₁]
  show wpAny _ _ (pyIter (.ref s.heap.objs.size)) _ _ s₁
  refine wpAny_pyIter_range hr (by decide +kernel) ⟨s₁.heap.objs.size, [s₁.heap.objs.size], [s₁.heap.objs.size], 6, _, _, rfl, (Walks.range hh _ 0 1 6).bound, by decide +kernel, (by show IsRangeIter _ _ _ _ _; rw [show Builtin.Range.rangeSize 0 6 1 = 6 from by decide]; exact Heap.get?_push_size _ rfl), ?_, ⟨?_, ?_⟩, ?_⟩
  · intro b hb
    show b < (s₁.heap.push _).objs.size
    rw [Heap.size_push]
    rcases List.mem_cons.mp hb with rfl | hb
    · exact Nat.lt_succ_self _
    · cases hb
  · intro C i v s₃ m₃ E' hC hP hn' hm hk _
    obtain ⟨hi, t, rfl⟩ := hP
    have ei : (0 : Int) + (i : Nat) * 1 = ((i : Nat) : Int) := by omega
    rw [ei] at hm ⊢
    have et : tst pz (Value.int ((i : Nat) : Int) t) = pz i := by show pz (((i : Nat) : Int).toNat) = _; rw [Int.toNat_natCast]
    rw [et]
    exact htests C i t s₃ m₃ E' hi hn' hm fun b o e => hk b o (fun q => by rcases List.mem_cons.mp q with rfl | q; exact Nat.lt_irrefl _ (Heap.lt_size (k01 _ _ e)); cases q) (Heap.get?_push_of_some _ (k01 b o e))
  · intro C i v s₃ m₃ E' hC hP hp hn' hm hk _
    obtain ⟨hi, t, rfl⟩ := hP
    have ei : (0 : Int) + (i : Nat) * 1 = ((i : Nat) : Int) := by omega
    rw [ei] at hm ⊢
    refine wpAny_mono (helt C i t s₃ m₃ E' hi hn' hm fun b o e => hk b o (fun q => by rcases List.mem_cons.mp q with rfl | q; exact Nat.lt_irrefl _ (Heap.lt_size (k01 _ _ e)); cases q) (Heap.get?_push_of_some _ (k01 b o e))) (fun y s₄ h₄ => ⟨⟨i, ⟨t, rfl⟩, h₄.1⟩, h₄.2⟩) fun _ _ e => e
  · intro D h' tk ys vs' hnew hlD hplD hlen hP hF hk
    rw [e₁]
    refine hQ D h' tk ys ?_ hlD ?_ fun b o e => hk b o (fun q => by rcases List.mem_cons.mp q with rfl | q; exact Nat.lt_irrefl _ (Heap.lt_size (k01 _ _ e)); cases q) (Heap.get?_push_of_some _ (k01 b o e))
    · cases q : s.heap.get? D with
      | none => rfl
      | some o => rw [Heap.get?_push_of_some _ (k01 _ _ q)] at hnew; cases hnew
    · refine paired_fin (paired_at (ks := List.range 6) vs' hlen fun j v k h1 h2 => ?_) hF
      obtain ⟨_, t, e⟩ := hP j v h1
      have hk : k = j := by
        have hj : j < 6 := by have := (List.getElem?_eq_some_iff.mp h2).1; simpa using this
        rw [List.getElem?_range hj] at h2
        exact (Option.some.inj h2).symm
      subst hk
      exact ⟨t, by rw [e, Int.mul_one, Int.zero_add]⟩
end
end Mine
namespace Mine
section
variable {prog : Program} {w : World} {A : Around} {E : Value → Shared → Prop} {env : Env} {s : Shared}
theorem iter_facts {ax : Addr} {items : Array Value} (hl : s.heap.IsList ax items) :
    (s.heap.push { cls := .type "list_iterator", data := .fields #[.ref ax, .int 0 0] }).IsListIter s.heap.objs.size ax 0 ∧ (s.heap.push { cls := .type "list_iterator", data := .fields #[.ref ax, .int 0 0] }).IsList ax items ∧ ax ≠ s.heap.objs.size :=
  ⟨⟨_, Heap.get?_push_size _ rfl, rfl, rfl⟩, hl.push _, let ⟨_, ho, _⟩ := hl; Nat.ne_of_lt (Heap.lt_size ho)⟩

theorem listComp_cell {elt iter : Expr} {x g0 g1 g2 : Str} {px : Pos} {scope : Scope} {pos : Pos} {ax : Addr} {items : Array Value} {Q : Value → Shared → Prop}
    (J : List Addr → Nat → List Value → Heap → Prop)
    (hn : scope.names = [(g0, .local), (x, .cell), (g1, .globalImplicit), (g2, .globalImplicit)]) (hkind : scope.kind = .function) (hx : scope.names.lookup x = some .cell)
    (hnames : ∀ y ∈ scope.names, y.2 = .local → scope.names.lookup y.1 = some .local)
    (hh : A.handled = none) (hl : s.heap.IsList ax items) (hsz : items.size ≤ sizeLine)
    (hiter : ∀ Q' : Value → Shared → Prop, Q' (.ref ax) s → wpAny (model prog w) A (eval iter env) Q' E s)
    (hJ0 : ∀ W h, (∀ b o, s.heap.get? b = some o → h.get? b = some o) → J W 0 [] h)
    (hJ : ∀ W i ys h h', J W i ys h → (∀ b o, b ∉ W → h.get? b = some o → h'.get? b = some o) → J W i ys h')
    (helt : ∀ W C c i v ys h tk, items[i]? = some v → J W i ys h → h.IsCell c (some v) → (∀ b ∈ W, ∃ o, h.get? b = some o) → (∀ b o, s.heap.get? b = some o → h.get? b = some o) →
      wpAny (model prog w) A (eval elt (compEnvC scope [(x, c)] C env)) (fun y s₄ => Keeps { s with heap := h, toks := tk } s₄ ∧ J W (i + 1) (ys ++ [y]) s₄.heap) Never { s with heap := h, toks := tk })
    (hQ : ∀ W D h' tk ys n, s.heap.get? D = none → h'.get? D = some (listOf ys.toArray n) → J W items.size ys h' → ys.length = items.size →
      (∀ b o, s.heap.get? b = some o → h'.get? b = some o) → Q (.ref D) { s with heap := h', toks := tk })
    (hs : ∀ x, foldedSetIterable iter env x = pure x := by intro _; rfl) :
    wpAny (model prog w) A (eval (.ListComp elt [⟨.Name x px, iter, [], 0⟩] scope pos) env) Q E s := by
  have hfree : ∀ y ∈ scope.names, y.2 ≠ .free := by rw [hn]; intro y hy; simp only [List.mem_cons, List.not_mem_nil, or_false] at hy; rcases hy with rfl | rfl | rfl | rfl <;> exact fun e => nomatch e
  obtain ⟨f1, f2, f3⟩ := iter_facts hl
  rw [eval_ListComp]
  refine wpAny_comprehension_free (use := none) rfl hs (closureFor_none hfree) hkind hnames (hiter _ (wpAny_pyIter_list hl ?_))
  have nI : ∀ {b o}, s.heap.get? b = some o → b ≠ s.heap.objs.size := fun e => Nat.ne_of_lt (Heap.lt_size e)
  refine comp_cell_block (s₂ := { s with heap := s.heap.push { cls := .type "list_iterator", data := .fields #[.ref ax, .int 0 0] } }) (RR := fun acc C => compPost (model prog w) A E none Q acc C) J hn hkind hx hh f1 f2 f3 hsz (fun W => hJ0 W _ fun b o e => Heap.get?_push_of_some _ e) hJ ?_ ?_
  · intro W C c i v ys h tk _ hv hj hc hW hk
    exact helt W C c i v ys h tk hv hj hc hW fun b o e => hk b o (nI e) (Heap.get?_push_of_some _ e)
  · intro W D C h' tk m' ys n hD hC hDC hns hDl hj hCW hlen hk
    refine ⟨m', hns, fun h'' hs'' => hQ W D h'' tk ys n ?_ (hs''.extBut _ _ hDC hDl) (hJ _ _ _ _ _ hj fun b o hb e => hs''.extBut b o (fun q => hb (q ▸ hCW)) e) hlen fun b o e => hs''.extBut b o (fun q => ?_) (hk b o (nI e) (Heap.get?_push_of_some _ e))⟩
    · cases q : s.heap.get? D with
      | none => rfl
      | some o => have := Heap.get?_push_of_some { cls := .type "list_iterator", data := .fields #[.ref ax, .int 0 0] } q; rw [hD] at this; cases this
    · have := Heap.get?_push_of_some { cls := .type "list_iterator", data := .fields #[.ref ax, .int 0 0] } e; rw [q, hC] at this; cases this

theorem assignComp_cell {elt iter : Expr} {x y g0 g1 g2 : Str} {px py : Pos} {scope : Scope} {pos spos : Pos} {ax : Addr} {items : Array Value} {Q : Flow → Shared → Prop} {m : Str → Option Value}
    (J : List Addr → Nat → List Value → Heap → Prop)
    (hsw : swapsWith (.ListComp elt [⟨.Name x px, iter, [], 0⟩] scope pos) (some (.Name y py)) spos.line env = pure true)
    (hn : scope.names = [(g0, .local), (x, .cell), (g1, .globalImplicit), (g2, .globalImplicit)]) (hkind : scope.kind = .function) (hx : scope.names.lookup x = some .cell)
    (hnames : ∀ y ∈ scope.names, y.2 = .local → scope.names.lookup y.1 = some .local)
    (hy : env.kindOf y = some .local) (hp : (env.scope.kind == .class || (env.scope.kind == .module && env.locals != env.globals)) = false) (hns : s.heap.Ns env.locals m)
    (hh : A.handled = none) (hl : s.heap.IsList ax items) (hsz : items.size ≤ sizeLine)
    (hiter : ∀ Q' : Value → Shared → Prop, Q' (.ref ax) s → wpAny (model prog w) A (eval iter env) Q' E s)
    (hJ0 : ∀ W h, (∀ b o, s.heap.get? b = some o → h.get? b = some o) → J W 0 [] h)
    (hJ : ∀ W i ys h h', J W i ys h → (∀ b o, b ∉ W → b ≠ env.locals → h.get? b = some o → h'.get? b = some o) → J W i ys h')
    (helt : ∀ W C c i v ys h tk, items[i]? = some v → J W i ys h → h.IsCell c (some v) → (∀ b ∈ W, ∃ o, h.get? b = some o) → (∀ b o, s.heap.get? b = some o → h.get? b = some o) →
      wpAny (model prog w) A (eval elt (compEnvC scope [(x, c)] C env)) (fun y s₄ => Keeps { s with heap := h, toks := tk } s₄ ∧ J W (i + 1) (ys ++ [y]) s₄.heap) Never { s with heap := h, toks := tk })
    (hQ : ∀ W D h' tk ys n, s.heap.get? D = none → h'.get? D = some (listOf ys.toArray n) → J W items.size ys h' → ys.length = items.size →
      h'.Ns env.locals (fun z => if z = y then some (.ref D) else m z) →
      (∀ b o, b ≠ env.locals → s.heap.get? b = some o → h'.get? b = some o) → Q .next { s with heap := h', toks := tk })
    (hs : ∀ x, foldedSetIterable iter env x = pure x := by intro _; rfl) :
    wpAny (model prog w) A (exec (.Assign [.Name y py] (.ListComp elt [⟨.Name x px, iter, [], 0⟩] scope pos) spos) env) Q E s := by
  have hfree : ∀ y ∈ scope.names, y.2 ≠ .free := by rw [hn]; intro y hy; simp only [List.mem_cons, List.not_mem_nil, or_false] at hy; rcases hy with rfl | rfl | rfl | rfl <;> exact fun e => nomatch e
  obtain ⟨f1, f2, f3⟩ := iter_facts hl
  rw [exec_Assign_Name_used _ _ _ _ hsw]
  refine wpAny_bind (wpAny_standAt (wpAny_bind ?_))
  show wpAny _ A (do let _ ← comprehension (.ListComp elt [⟨.Name x px, iter, [], 0⟩] scope pos) scope env _ (newList []) false (eval iter env) (some (assign (.Name y py) env))) _ _ s
  refine wpAny_bind (wpAny_mono (wpAny_comprehension_free (use := some (assign (.Name y py) env)) (Q := fun _ s' => Q .next s') rfl hs (closureFor_none hfree) hkind hnames
    (hiter _ (wpAny_pyIter_list hl ?_))) (fun _ s' hq => wpAny_pure (wpAny_pure hq)) fun _ _ e => e)
  have nI : ∀ {b o}, s.heap.get? b = some o → b ≠ s.heap.objs.size := fun e => Nat.ne_of_lt (Heap.lt_size e)
  have pu : ∀ {b o}, s.heap.get? b = some o → (s.heap.push { cls := .type "list_iterator", data := .fields #[.ref ax, .int 0 0] }).get? b = some o := fun e => Heap.get?_push_of_some _ e
  refine comp_cell_block (s₂ := { s with heap := s.heap.push { cls := .type "list_iterator", data := .fields #[.ref ax, .int 0 0] } }) (RR := fun acc C => compPost (model prog w) A E (some (assign (.Name y py) env)) (fun _ s' => Q .next s') acc C) J hn hkind hx hh f1 f2 f3 hsz (fun W => hJ0 W _ fun b o e => pu e) (fun W i ys h h' hj hk => hJ W i ys h h' hj fun b o hb _ e => hk b o hb e) ?_ ?_
  · intro W C c i v ys h tk _ hv hj hc hW hk
    exact helt W C c i v ys h tk hv hj hc hW fun b o e => hk b o (nI e) (pu e)
  · intro W D C h' tk m' ys n hD hC hDC hnsC hDl hj hCW hlen hk
    obtain ⟨oL, es, ep, hoL, rL⟩ := id hns
    have hLC : env.locals ≠ C := by rintro rfl; have := pu hoL; rw [hC] at this; cases this
    have hLD : env.locals ≠ D := by rintro rfl; have := pu hoL; rw [hD] at this; cases this
    show wpAny _ A (assign (.Name y py) env (.ref D)) _ _ _
    refine wpAny_assign_Name (wpAny_storeName_local hy (hns.at' fun o e => hk _ o (nI e) (pu e)) (fun h₂ hn₂ hs₂ => ?_) hp)
    refine ⟨m', hnsC.sameBut hs₂ (Ne.symm hLC), fun h₃ hs₃ => ?_⟩
    refine hQ W D h₃ _ ys n ?_ (hs₃.extBut _ _ hDC (hs₂.extBut _ _ (Ne.symm hLD) hDl)) (hJ _ _ _ _ _ hj fun b o hb hbL e => hs₃.extBut b o (fun q => hb (q ▸ hCW)) (hs₂.extBut b o hbL e)) hlen (hn₂.sameBut hs₃ hLC) fun b o hb e => hs₃.extBut b o (fun q => ?_) (hs₂.extBut b o hb (hk b o (nI e) (pu e)))
    · cases q : s.heap.get? D with
      | none => rfl
      | some o => have := pu q; rw [hD] at this; cases this
    · have := pu e; rw [q, hC] at this; cases this
end
end Mine
namespace Mine
/-- a number's last six binary figures -/
def mk (x : Int) : Nat := (x % 64).toNat
theorem mk_lt (x : Int) : mk x < 64 := by unfold mk; omega
theorem mk_bit (x : Int) : ∀ k : Nat, k < 6 → (x / (2 : Int) ^ k % 2 == 1) = (mk x).testBit k := by
  intro k hk
  rw [Nat.testBit_eq_decide_div_mod_eq]
  unfold mk
  have : k = 0 ∨ k = 1 ∨ k = 2 ∨ k = 3 ∨ k = 4 ∨ k = 5 := by omega
  rcases this with rfl | rfl | rfl | rfl | rfl | rfl
  all_goals
    rw [Bool.eq_iff_iff, beq_iff_eq, decide_eq_true_eq]
    simp only [Int.reducePow, Nat.reducePow]
    omega
theorem pow2_small : ∀ k : Fin 6, 0 < (2 : Int) ^ k.1 ∧ (2 : Int) ^ k.1 < 1000 := by decide

def bitsOf (m : Nat) : List Int := ((List.range 6).filter fun b => m.testBit b).map fun b => ((b : Nat) : Int)
theorem card_all : ∀ m : Fin 64, (PyProof.Rows.firstMet (fun i => (bitsOf m.1).getD i 0) (bitsOf m.1).length).length = card6 m.1 := by decide +kernel
theorem mem_all (m : Nat) (k : Int) : (PyProof.Rows.firstMet (fun i => (bitsOf m).getD i 0) (bitsOf m).length).any (· == k) = mem6 m k := by
  rw [PyProof.Rows.firstMet_any]
  have e : (List.range (bitsOf m).length).map (fun i => (bitsOf m).getD i 0) = bitsOf m := by
    apply List.ext_getElem?
    intro i
    by_cases h : i < (bitsOf m).length
    · rw [List.getElem?_map, List.getElem?_range h, List.getElem?_eq_getElem h]
      show some ((bitsOf m).getD i 0) = _
      rw [List.getD_eq_getElem?_getD, List.getElem?_eq_getElem h]; rfl
    · rw [List.getElem?_eq_none (by simpa using h), List.getElem?_eq_none (by omega)]
  rw [e, Bool.eq_iff_iff, List.any_eq_true]
  unfold bitsOf mem6
  constructor
  · rintro ⟨y, hy, hyk⟩
    obtain ⟨b, hb, rfl⟩ := List.mem_map.mp hy
    obtain ⟨h1, h2⟩ := List.mem_filter.mp hb
    have hk := beq_iff_eq.mp hyk
    subst hk
    have h6 := List.mem_range.mp h1
    rw [Bool.and_eq_true, Bool.and_eq_true, decide_eq_true_eq, decide_eq_true_eq, Int.toNat_natCast]
    exact ⟨by omega, by omega, h2⟩
  · intro h
    rw [Bool.and_eq_true, Bool.and_eq_true, decide_eq_true_eq, decide_eq_true_eq] at h
    refine ⟨k, List.mem_map.mpr ⟨k.toNat, List.mem_filter.mpr ⟨List.mem_range.mpr (by omega), h.2.2⟩, by omega⟩, by simp⟩

section
variable {prog : Program} {w : World} {A : Around} {E : Value → Shared → Prop} {s : Shared}
theorem call_set_bits {l : Addr} {items : Array Value} {m : Nat} {Q : Value → Shared → Prop} (hm : m < 64) (hh : A.handled = none) (hl : s.heap.IsList l items) (hi : IntsAre items.toList (bitsOf m))
    (h : ∀ (h' : Heap) (tk : Nat), IsItem prog w h' s.heap.objs.size m → (∀ b o, s.heap.get? b = some o → h'.get? b = some o) → Q (.ref s.heap.objs.size) { s with heap := h', toks := tk }) :
    wpAny (model prog w) A (call (.type "set") [.ref l]) Q E s := by
  have hlen : items.size = (bitsOf m).length := by rw [← Array.length_toList, hi.length]
  have h6 : (bitsOf m).length ≤ 6 := by
    unfold bitsOf
    rw [List.length_map]
    exact Nat.le_trans (List.length_filter_le _ _) (by simp)
  refine call_set_list hh hl hi (by unfold scanBound; omega) fun h' tk hS hk => h h' tk ⟨hm, ?_⟩ fun b o e => hk b o (Heap.lt_size e) e
  rw [hlen] at hS
  exact PyProof.Rows.SetOf_congr hS (mem_all m) (card_all ⟨m, hm⟩)
end
end Mine
namespace Mine
local macro_rules | `(tactic| walk_at "subscriptTail") => `(tactic| (k_here; (with_reducible show wpAny _ _ (subscriptTail _ _ (Value.ref _) (Value.int _ _)) _ _ _); (with_unfolding_all refine' ref_get ?k1 ?k2 ?k3 ?k4 ?_ ?k6 ?k7; (case k1 => exact News.get (by k_asm) (by k_mem)); (case k2 => omega); (case k3 => (try simp only [List.length_dropLast, List.length_set]); omega); (case k4 => omega); (case k6 => with_unfolding_all rfl); (case k7 => intro _; with_unfolding_all rfl); k_whole)))
local macro_rules | `(tactic| walk_at "setItem ref int") => `(tactic| (k_here; (with_reducible show wpAny _ _ (setItem (Value.ref _) (Value.int _ _) (Value.ref _)) _ _ _); k_dflt (refine' ref_set ?k1 ?k2 ?k3 ?k4 ?k5 ?k6 ?_; (case k1 => k_asm); (case k2 => k_asm); (case k3 => k_upd); (case k4 => omega); (case k5 => (try simp only [List.length_dropLast, List.length_set]); omega); (case k6 => omega); k_whole); intro h' F' N'; (try k_sweep)))
local macro_rules | `(tactic| walk_at "compareOp Lt ref") => `(tactic| (k_here; (with_reducible show wpAny _ _ (compareOp CmpOp.Lt (Value.ref _) (Value.ref _)) _ _ _); refine' item_lt ?k1 ?k2 ?k3 ?_; (case k1 => first | exact item_at (by assumption) (by assumption) (by omega) | exact item_on (by assumption) (by assumption)); (case k2 => first | exact item_at (by assumption) (by assumption) (by omega) | exact item_on (by assumption) (by assumption)); (case k3 => show _ + 3 < _; omega)))
local macro_rules | `(tactic| walk_at "storeName") => `(tactic| (k_here; k_dflt (refine' stO ?F ?N ?_ ?a ?b; (case F => k_asm); (case N => k_asm); (case a => rfl); (case b => rfl); k_whole; intro h' F' N'; (try k_sweep))))
local macro_rules | `(tactic| walk_at "binaryOp RShift int int") => `(tactic| (with_reducible refine rsh1 ?_))
local macro_rules | `(tactic| walk_at "exec") => `(tactic| ((with_reducible show wpAny _ _ (exec (Stmt.While _ _ _ _) _) _ _ _); refine of_stop ?_))

local macro_rules | `(tactic| walk_at "call ref") => `(tactic| ((with_reducible show wpAny _ _ (call (Value.ref _) _) _ _ _); refine of_stop ?_))
local macro_rules | `(tactic| walk_at "call builtin:len") => `(tactic| (k_here; (with_reducible show wpAny _ _ (call (Value.builtin "len") [Value.ref _]) _ _ _); refine' ref_len ?k1 ?k2 ?_; (case k1 => exact News.get (by k_asm) (by k_mem)); (case k2 => omega)))
local macro_rules | `(tactic| walk_at "call builtin:list.pop") => `(tactic| (k_here; (with_reducible show wpAny _ _ (call (Value.builtin _) [Value.ref _]) _ _ _); k_dflt (refine' ref_pop ?F ?N ?U ?l ?z ?_; (case F => k_asm); (case N => k_asm); (case U => k_upd); (case l => omega); (case z => omega)); (intro h' F' N'; (try k_sweep))))
local macro_rules | `(tactic| walk_at "truthy ref") => `(tactic| (k_here; (with_reducible show wpAny _ _ (truthy (Value.ref _)) _ _ _); refine' ref_truthy ?k1 ?k2 ?k3 ?_; (case k1 => exact News.get (by k_asm) (by k_mem)); (case k2 => (try simp only [List.length_dropLast, List.length_set]); omega); (case k3 => (try simp only [List.length_dropLast, List.length_set]); omega)))
local macro_rules | `(tactic| walk_at "exec") => `(tactic| ((with_reducible show wpAny _ _ (exec (Stmt.For _ _ _ _ _) _) _ _ _); refine of_stop ?_))
local macro_rules | `(tactic| walk_at "exec For Name Call cons nil") => `(tactic| (refine of_stop ?_))
local macro_rules | `(tactic| walk_at "binaryOp FloorDiv int int") => `(tactic| ((with_reducible refine fdivE ?k1 ?k2 ?_); (case k1 => omega); (case k2 => omega)))
local macro_rules | `(tactic| walk_at "binaryOp Mod int int") => `(tactic| ((with_reducible refine fmodE ?k1 ?_); (case k1 => omega)))
local macro_rules | `(tactic| walk_at "subscriptTail Name Slice ref ref") => `(tactic| (refine of_stop ?_))
theorem sum_list_ints {prog : Program} {w : World} {A : Around} {E : Value → Shared → Prop} {s : Shared} {D : Addr} {ys : Array Value} {ns : List Int} {Q : Value → Shared → Prop} (hh : A.handled = none) (hl : s.heap.IsList D ys) (hi : IntsAre ys.toList ns)
    (h : ∀ h' tk t, (∀ b o, s.heap.get? b = some o → h'.get? b = some o) → Q (.int ns.sum t) { s with heap := h', toks := tk }) : wpAny (model prog w) A (call (.builtin "sum") [.ref D]) Q E s := by
  obtain ⟨f1, f2, f3⟩ := iter_facts hl
  refine call_sum_walkG (wpAny_pyIter_list hl ?_)
  refine ⟨s.heap.objs.size, _, _, _, _, _, fun i => ns.getD i 0, rfl, Walks.list (A := A.in1) hh _ _ f3 ys, ⟨f1, f2⟩, ?_, ?_, ?_⟩
  · intro b hb
    show b < (s.heap.push _).objs.size
    rw [Heap.size_push]
    simp only [List.mem_cons, List.not_mem_nil, or_false] at hb
    rcases hb with rfl | rfl
    · exact Nat.lt_succ_self _
    · obtain ⟨_, ho, _⟩ := hl; exact Nat.lt_succ_of_lt (Heap.lt_size ho)
  · intro i v hv
    exact IntsAre.int_at hi i v (by rw [Array.getElem?_toList]; exact hv)
  · intro h' tk t' hk
    have e : preSum (fun i => ns.getD i 0) ys.size = ns.sum := by
      rw [preSum_getD, ← Array.length_toList, hi.length, List.take_length]
    rw [e]
    exact h h' tk t' fun b o e => hk b o (fun q => Nat.lt_irrefl _ (by have := Heap.lt_size e; rw [List.mem_singleton.mp q] at this; exact this)) (Heap.get?_push_of_some _ e)

theorem ints_append : ∀ {vs us : List Value} {ns ms : List Int}, IntsAre vs ns → IntsAre us ms → IntsAre (vs ++ us) (ns ++ ms)
  | _, _, _, _, .nil, h => h
  | _, _, _, _, .cons i t r, h => .cons i t (ints_append r h)
theorem bits_sum_all : ∀ m : Fin 64, (((List.range 6).filter fun b => m.1.testBit b).map fun b => (2 : Int) ^ b).sum = (m.1 : Int) := by decide +kernel

theorem law_masks {prog : Program} {w : World} {A : Around} {E : Value → Shared → Prop} {s : Shared} {mg mb : Str → Option Value} {base : Heap} {a : Addr} {n : Nat} {l : List Addr} {key : Addr → Nat}
    (hb : ∀ b o, base.get? b = some o → s.heap.get? b = some o) (W : Wd w mg mb base) (hl : s.heap.get? a = some (refsOf l n))
    (hd : A.depth + 12 < recursionLimit) (hu : A.units + 40 < cLine) (hit : ∀ x ∈ l, IsItem prog w s.heap x (key x)) (hln : l.length < 1000) (hh : A.handled = none) :
    wpAny (model prog w) A (call (.ref 96) [.ref a]) (fun v s' => ∃ b o, v = .ref b ∧ (∃ vs n', o = listOf vs.toArray n' ∧ IntsAre vs (l.map fun x => ((key x : Nat) : Int))) ∧ s.heap.get? b = none ∧ Out s [] [(b, o)] s') E s := by
  refine' enter (binds := [("row", .ref a)]) [] [] base hb ?h1 ?h2 W.k W.t.nolimit ?k6 ?k7 ?k8 ?k9 ?kB ?_ ?nd ?c2 ?c3 ?c4 ?c5
  case k6 => k_is
  case k7 => k_is
  case k8 => omega
  case k9 => exact BindsTo.of_eq rfl
  case c5 => decide
  case kB => exact locs rfl
  case nd => exact of_decide_eq_true rfl
  case c2 => exact rfl
  case c3 => exact rfl
  case c4 => exact rfl
  case h1 => exact fun p hp => nomatch hp
  case h2 => exact fun p hp => nomatch hp
  intro g L h₁ hg hgn F N hgs
  have Wg := W.keeps hg
  have hm1 : mg "sum" = none := mg_none_of Wg.k Wg.t.g (by k_is)
  have hm2 : mg "range" = none := mg_none_of Wg.k Wg.t.g (by k_is)
  have hsg : ∀ b o, s.heap.get? b = some o → h₁.get? b = some o := fun b o e => F.keep b o (hgs b o (fun q => nomatch q) e)
  simp only [List.map_cons, List.map_nil, List.cons_append, List.nil_append] at F
  refine wpAny_execs_cons (wpAny_Return_some ?_)
  refine listComp_cell (ax := a) (items := (l.map Value.ref).toArray) (fun W i ys h => IntsAre ys ((l.take i).map fun x => ((key x : Nat) : Int))) rfl rfl rfl (by decide) hh ⟨_, hsg _ _ hl, rfl, n, rfl⟩ (by simp; rw [sizeLine_eq]; omega) ?i1 (fun _ _ _ => .nil) (fun _ _ _ _ _ h _ => h) ?_ ?_
  case i1 => intro Q' hq; exact ld F rfl hq
  · intro W' C c i v ys h tk hv hj hc hW hk
    have hi : i < l.length := by have := (Array.getElem?_eq_some_iff.mp hv).1; simpa using this
    have ev : v = .ref (l.getD i default) := by
      rw [List.getElem?_toArray, getD_map_ref hi] at hv; exact (Option.some.inj hv).symm
    subst ev
    have T' : TT mg mb h := Wg.t.keeps fun b o e => hk b o (F.keep b o e)
    have hit' : IsItem prog w h (l.getD i default) (key (l.getD i default)) := (hit _ (getD_mem hi)).keeps fun o e => hk _ o (hsg _ o e)
    refine eval_builtin1 (fun Q' hq => name_boot T' hm1 boot_sum (by decide) hq rfl rfl rfl rfl (by decide)) ?_ rfl
    refine comp6 (s := { s with heap := h, toks := tk }) (cl := [("one", c)]) (fun b => (key (l.getD i default)).testBit b) (fun k => (2 : Int) ^ k) hh rfl (by decide) rfl (by decide) rfl (fun Q' hq => name_boot T' hm2 boot_range (by decide) hq rfl rfl rfl rfl (by decide)) ?_ ?_ ?_
    · intro C' k t s₃ m₃ E' hk6 hns hm hk3
      have hc3 : s₃.heap.IsCell c (some (.ref (l.getD i default))) := hc.keeps hk3
      have hit3 : IsItem prog w s₃.heap (l.getD i default) (key (l.getD i default)) := hit'.keeps fun o e => hk3 _ o e
      refine wpAny_tests_one (wpAny_isTrue_Compare1 (ldVarK hns hm (ldCellK rfl hc3 (wpAny_inSet_of (knd := intKind prog w) (k := ((k : Nat) : Int)) (intKind_is _ _ _ _) rfl hit3.2 (wpAny_truthy_bool ⟨?_, s₃.heap, _, rfl, fun _ _ e => e⟩)))))
      show (decide ((0 : Int) ≤ (k : Nat)) && (decide (((k : Nat) : Int) < 6) && (key (l.getD i default)).testBit (((k : Nat) : Int).toNat))) = _
      rw [decide_eq_true (by omega : (0 : Int) ≤ (k : Nat)), decide_eq_true (by omega : ((k : Nat) : Int) < 6), Int.toNat_natCast]; rfl
    · intro C' k t s₃ m₃ E' hk6 hns hm hk3
      refine wpAny_BinOp (wpAny_Constant_int (ldVarK (s := { s₃ with toks := s₃.toks + 1 }) hns hm ?_))
      refine pow_int_small (by omega) (by omega) (by decide) ?_
      rw [Int.toNat_natCast]
      exact ⟨⟨_, rfl⟩, s₃.heap, _, rfl, fun _ _ e => e⟩
    · intro D h' tk' zs hD hDl hz hk'
      refine sum_list_ints (s := { s with heap := h', toks := tk' }) hh hDl hz fun h'' tk'' t'' hk'' => ?_
      refine ⟨⟨h'', tk'', rfl, fun b o e => hk'' b o (hk' b o e)⟩, ?_⟩
      show IntsAre (ys ++ _) _
      rw [bits_sum_all ⟨key (l.getD i default), hit'.1⟩, List.take_add_one, List.map_append]
      refine ints_append hj ?_
      have e1 : l[i]?.toList = [l.getD i default] := by rw [List.getD_eq_getElem?_getD, List.getElem?_eq_getElem hi]; rfl
      rw [e1]
      exact .cons _ _ .nil
  · intro W' D h' tk ys n' hD hDl hj hlen hk
    have e : l.take (l.map Value.ref).toArray.size = l := by rw [List.size_toArray, List.length_map, List.take_length]
    rw [e] at hj
    refine ⟨D, _, rfl, ⟨ys, n', rfl, hj⟩, ?_, ⟨h', tk, rfl⟩, fun b o _ e => hk b o (hsg b o e), fun p hp => (List.mem_singleton.mp hp) ▸ hDl⟩
    cases q : s.heap.get? D with
    | none => rfl
    | some o => have := hsg _ _ q; rw [hD] at this; cases this
end Mine
namespace Mine
local macro_rules | `(tactic| walk_at "subscriptTail") => `(tactic| (k_here; (with_reducible show wpAny _ _ (subscriptTail _ _ (Value.ref _) (Value.int _ _)) _ _ _); (with_unfolding_all refine' ref_get ?k1 ?k2 ?k3 ?k4 ?_ ?k6 ?k7; (case k1 => exact News.get (by k_asm) (by k_mem)); (case k2 => omega); (case k3 => (try simp only [List.length_dropLast, List.length_set]); omega); (case k4 => omega); (case k6 => with_unfolding_all rfl); (case k7 => intro _; with_unfolding_all rfl); k_whole)))
local macro_rules | `(tactic| walk_at "setItem ref int") => `(tactic| (k_here; (with_reducible show wpAny _ _ (setItem (Value.ref _) (Value.int _ _) (Value.ref _)) _ _ _); k_dflt (refine' ref_set ?k1 ?k2 ?k3 ?k4 ?k5 ?k6 ?_; (case k1 => k_asm); (case k2 => k_asm); (case k3 => k_upd); (case k4 => omega); (case k5 => (try simp only [List.length_dropLast, List.length_set]); omega); (case k6 => omega); k_whole); intro h' F' N'; (try k_sweep)))
local macro_rules | `(tactic| walk_at "compareOp Lt ref") => `(tactic| (k_here; (with_reducible show wpAny _ _ (compareOp CmpOp.Lt (Value.ref _) (Value.ref _)) _ _ _); refine' item_lt ?k1 ?k2 ?k3 ?_; (case k1 => first | exact item_at (by assumption) (by assumption) (by omega) | exact item_on (by assumption) (by assumption)); (case k2 => first | exact item_at (by assumption) (by assumption) (by omega) | exact item_on (by assumption) (by assumption)); (case k3 => show _ + 3 < _; omega)))
local macro_rules | `(tactic| walk_at "storeName") => `(tactic| (k_here; k_dflt (refine' stO ?F ?N ?_ ?a ?b; (case F => k_asm); (case N => k_asm); (case a => rfl); (case b => rfl); k_whole; intro h' F' N'; (try k_sweep))))
local macro_rules | `(tactic| walk_at "binaryOp RShift int int") => `(tactic| (with_reducible refine rsh1 ?_))
local macro_rules | `(tactic| walk_at "exec") => `(tactic| ((with_reducible show wpAny _ _ (exec (Stmt.While _ _ _ _) _) _ _ _); refine of_stop ?_))

local macro_rules | `(tactic| walk_at "call ref") => `(tactic| ((with_reducible show wpAny _ _ (call (Value.ref _) _) _ _ _); refine of_stop ?_))
local macro_rules | `(tactic| walk_at "call builtin:len") => `(tactic| (k_here; (with_reducible show wpAny _ _ (call (Value.builtin "len") [Value.ref _]) _ _ _); refine' ref_len ?k1 ?k2 ?_; (case k1 => exact News.get (by k_asm) (by k_mem)); (case k2 => omega)))
local macro_rules | `(tactic| walk_at "call builtin:list.pop") => `(tactic| (k_here; (with_reducible show wpAny _ _ (call (Value.builtin _) [Value.ref _]) _ _ _); k_dflt (refine' ref_pop ?F ?N ?U ?l ?z ?_; (case F => k_asm); (case N => k_asm); (case U => k_upd); (case l => omega); (case z => omega)); (intro h' F' N'; (try k_sweep))))
local macro_rules | `(tactic| walk_at "truthy ref") => `(tactic| (k_here; (with_reducible show wpAny _ _ (truthy (Value.ref _)) _ _ _); refine' ref_truthy ?k1 ?k2 ?k3 ?_; (case k1 => exact News.get (by k_asm) (by k_mem)); (case k2 => (try simp only [List.length_dropLast, List.length_set]); omega); (case k3 => (try simp only [List.length_dropLast, List.length_set]); omega)))
local macro_rules | `(tactic| walk_at "exec") => `(tactic| ((with_reducible show wpAny _ _ (exec (Stmt.For _ _ _ _ _) _) _ _ _); refine of_stop ?_))
local macro_rules | `(tactic| walk_at "exec For Name Call cons nil") => `(tactic| (refine of_stop ?_))
local macro_rules | `(tactic| walk_at "binaryOp FloorDiv int int") => `(tactic| ((with_reducible refine fdivE ?k1 ?k2 ?_); (case k1 => omega); (case k2 => omega)))
local macro_rules | `(tactic| walk_at "binaryOp Mod int int") => `(tactic| ((with_reducible refine fmodE ?k1 ?_); (case k1 => omega)))
local macro_rules | `(tactic| walk_at "subscriptTail Name Slice ref ref") => `(tactic| (refine of_stop ?_))
theorem law_within {prog : Program} {w : World} {A : Around} {E : Value → Shared → Prop} {s : Shared} {mg mb : Str → Option Value} {base : Heap} {m m' : Nat} {t t' : Tok} {bv : Bool} (hbv : ltM m m' = bv)
    (hb : ∀ b o, base.get? b = some o → s.heap.get? b = some o) (W : Wd w mg mb base)
    (hd : A.depth + 12 < recursionLimit) (hu : A.units + 40 < cLine) :
    wpAny (model prog w) A (call (.ref 103) [.int (m : Nat) t, .int (m' : Nat) t']) (fun v s' => v = .bool bv ∧ Out s [] [] s') E s := by
  subst hbv
  refine' enter (binds := [("one", .int (m : Nat) t), ("other", .int (m' : Nat) t')]) [] [] base hb ?h1 ?h2 W.k W.t.nolimit ?k6 ?k7 ?k8 ?k9 ?kB ?_ ?nd ?c2 ?c3 ?c4 ?c5
  case k6 => k_is
  case k7 => k_is
  case k8 => omega
  case k9 => exact BindsTo.of_eq rfl
  case c5 => decide
  case kB => exact locs rfl
  case nd => exact of_decide_eq_true rfl
  case c2 => exact rfl
  case c3 => exact rfl
  case c4 => exact rfl
  case h1 => exact fun p hp => nomatch hp
  case h2 => exact fun p hp => nomatch hp
  intro g L h₁ hg hgn F N hgs
  have Wg := W.keeps hg
  have KX := Wg.k
  have T := Wg.t
  simp only [List.map_cons, List.map_nil, List.cons_append, List.nil_append] at F
  try dsimp only
  k_steps
  · rename ((m : Nat) : Int) ≠ _ => hne
    show Value.bool _ = _
    rw [bitAnd_pp (by omega) (by omega), Int.toNat_natCast, Int.toNat_natCast]
    congr 1
    unfold ltM
    have h1 : (m != m') = true := bne_iff_ne.mpr (by omega)
    rw [h1, Bool.true_and]
    by_cases h2 : m &&& m' = m
    · rw [beq_iff_eq.mpr h2, beq_iff_eq]; omega
    · rw [beq_eq_false_iff_ne.mpr h2, beq_eq_false_iff_ne]; omega
  · exact Out.of F N hgs
  · rename ((m : Nat) : Int) = _ => he
    have he' : m = m' := by omega
    subst he'
    show Value.bool _ = _
    congr 1
    unfold ltM
    simp
  · exact Out.of F N hgs

theorem getD_mapk {key : Addr → Nat} {l : List Addr} {j : Nat} (h : j < l.length) : (l.map fun x => ((key x : Nat) : Int)).getD j 0 = ((key (l.getD j default) : Nat) : Int) := by
  rw [List.getD_eq_getElem?_getD, List.getD_eq_getElem?_getD, List.getElem?_map, List.getElem?_eq_getElem h]; rfl
theorem mask_get {prog : Program} {w : World} {A : Around} {E : Value → Shared → Prop} {s : Shared} {h₀ : Heap} {L D : Addr} {news : List (Addr × Obj)} {vs : List Value} {n : Nat} {k : Int} {u : Tok} {key : Addr → Nat} {l : List Addr} {value slice : PySem.Expr} {Q : Value → Shared → Prop}
    (N : News h₀ L s.heap news) (hm : (D, listOf vs.toArray n) ∈ news) (hi : IntsAre vs (l.map fun x => ((key x : Nat) : Int))) (h0 : 0 ≤ k) (h1 : k < l.length) (hfit : k < 2 ^ 63) (h : ∀ t, Q (.int ((key (l.getD k.toNat default) : Nat) : Int) t) s)
    (hs : subscripted slice false (.ref D) (.int k u) = operate [.ref D, .int k u] (getItem (.ref D) (.int k u))) :
    wpAny (model prog w) A (subscriptTail value slice (.ref D) (.int k u)) Q E s :=
  ksa_sub N hm hi h0 (by rw [List.length_map]; exact h1) hfit (fun t => by rw [getD_mapk (by omega)]; exact h t) hs
local macro_rules | `(tactic| walk_at "subscriptTail") => `(tactic| (k_here; (with_reducible show wpAny _ _ (subscriptTail _ _ (Value.ref _) (Value.int _ _)) _ _ _); (with_unfolding_all refine' mask_get ?k1 ?k2 ?k3 ?k4 ?k5 ?k6 ?_ ?k7; (case k1 => k_asm); (case k2 => k_mem); (case k3 => with_reducible assumption); (case k4 => omega); (case k5 => omega); (case k6 => omega); (case k7 => with_unfolding_all rfl); k_whole); intro _))

def StandInv (a c D : Addr) (high : Bool) (vs : List Value) (n₂ : Nat) (_ : Nat) (M : List (Str × Option Value)) (news : List (Addr × Obj)) : Prop :=
  ∃ pk pa, M = ([("row", some (.ref a)), ("whole", some (.ref c)), ("high", some (.bool high)), ("masks", some (.ref D)), ("k", pk), ("above", pa)] : List (Str × Option Value)) ∧ news = [(D, listOf vs.toArray n₂)]

theorem law_stands {prog : Program} {w : World} {A : Around} {E : Value → Shared → Prop} {s : Shared} {mg mb : Str → Option Value} {base : Heap} {a c : Addr} {n n' : Nat} {l : List Addr} {key : Addr → Nat} {us : List Value} {ns : List Int} {high : Bool}
    (hb : ∀ b o, base.get? b = some o → s.heap.get? b = some o) (W : Wd w mg mb base) (hl : s.heap.get? a = some (refsOf l n)) (hw : s.heap.get? c = some (listOf us.toArray n')) (hus : IntsAre us ns)
    (hd : A.depth + 16 < recursionLimit) (hu : A.units + 100 < cLine) (hit : ∀ x ∈ l, IsItem prog w s.heap x (key x)) (hln : l.length < 64) (hh : A.handled = none)
    (hheap : ∀ k, 0 < k → k < l.length → (if high then rMax key else rMin key) (l.getD k default) (l.getD ((k - 1) / 2) default) = false) (hperm : List.Perm (l.map fun x => ((key x : Nat) : Int)) ns) :
    wpAny (model prog w) A (call (.ref 110) [.ref a, .ref c, .bool high]) (fun v s' => v = .bool true ∧ Out s [] [] s') E s := by
  refine' enter (binds := [("row", .ref a), ("whole", .ref c), ("high", .bool high)]) ["masks", "k", "above"] [] base hb ?h1 ?h2 W.k W.t.nolimit ?k6 ?k7 ?k8 ?k9 ?kB ?_ ?nd ?c2 ?c3 ?c4 ?c5
  case k6 => k_is
  case k7 => k_is
  case k8 => omega
  case k9 => exact BindsTo.of_eq rfl
  case c5 => decide
  case kB => exact locs rfl
  case nd => exact of_decide_eq_true rfl
  case c2 => exact rfl
  case c3 => exact rfl
  case c4 => exact rfl
  case h1 => exact fun p hp => nomatch hp
  case h2 => exact fun p hp => nomatch hp
  intro g L h₁ hg hgn F N hgs
  have Wg := W.keeps hg
  have KX := Wg.k
  have T := Wg.t
  have hsg : ∀ b o, s.heap.get? b = some o → g.get? b = some o := fun b o e => hgs b o (fun q => nomatch q) e
  simp only [List.map_cons, List.map_nil, List.cons_append, List.nil_append] at F
  try dsimp only
  k_steps
  rename Fr _ _ _ _ => F'
  rename News _ _ _ _ => N'
  refine call_made F' N' (law_masks (key := key) F'.keep Wg (F'.keep _ _ (hsg _ _ hl)) ?d1 ?d2 (fun x hx => (hit x hx).keeps fun o e => F'.keep _ o (hsg _ o e)) (by omega) hh) ?_
  case d1 => show _ + 1 + 12 < _; omega
  case d2 => show _ + 3 + 40 < _; omega
  clear F' N'
  rintro h₂ tk₂ D o₂ ⟨vs, n₂, rfl, hvs⟩ hD2 F₂ N₂
  k_steps
  refine wpAny_For ?_
  k_steps
  rename IsRange _ _ _ _ _ _ _ _ => hr
  rename Fr _ _ _ _ => F'
  rename News _ _ _ _ => N'
  rw [List.length_map] at hr
  have hrs : Builtin.Range.rangeSize 1 ((l.length : Nat) : Int) 1 = ((l.length - 1 : Nat) : Int) := by rw [rangeSize_one]; split <;> omega
  refine wpAny_pyIter_range hr (small_one (by omega) (by omega) (by omega) (by omega)) ?_
  rw [hrs]
  refine for_range (a := 1) (c := 1) (n := l.length - 1) (StandInv a c D high vs n₂) hh (Heap.get?_push_size _ rfl) (Nat.ne_of_gt F'.ns.lt) (next_is_new F') (fun p hp => Nat.ne_of_lt (Heap.lt_size (N' p hp).1)) (F'.push _) (fun p hp => ⟨Heap.get?_push_of_some _ (N' p hp).1, (N' p hp).2⟩) ⟨none, none, rfl, rfl⟩ rfl rfl ?_ ?_
  · clear F' N' hr
    rintro i t M₁ news₁ oI h tk hi ⟨pk, pa, rfl, rfl⟩ hnI F₁ N₁
    have hz := hheap (1 + i) (by omega) (by omega)
    have e1 : (1 + ((i : Nat) : Int) * 1).toNat = 1 + i := by omega
    have e2 : ((1 + ((i : Nat) : Int) * 1 - 1) / 2).toNat = (1 + i - 1) / 2 := by omega
    cases high with
    | false =>
      k_steps
      rename Fr _ _ _ _ => F'
      rename News _ _ _ _ => N'
      rw [e1, e2, getD_mapk (by omega), getD_mapk (by omega)]
      refine call_still F' N' (law_within (show ltM (key (l.getD (1 + i) default)) (key (l.getD ((1 + i - 1) / 2) default)) = false from hz) F'.keep Wg ?d1 ?d2) ?_
      case d1 => show _ + 1 + 12 < _; omega
      case d2 => show _ + 3 + 40 < _; omega
      intro h₃ tk₃ F₃ N₃
      k_steps
      exact ⟨_, _, _, [(D, listOf vs.toArray n₂)], rfl, F₃, N₃, hnI, _, _, rfl, rfl⟩
    | true =>
      k_steps
      rename Fr _ _ _ _ => F'
      rename News _ _ _ _ => N'
      rw [e1, e2, getD_mapk (by omega), getD_mapk (by omega)]
      refine call_still F' N' (law_within (show ltM (key (l.getD ((1 + i - 1) / 2) default)) (key (l.getD (1 + i) default)) = false from hz) F'.keep Wg ?d3 ?d4) ?_
      case d3 => show _ + 1 + 12 < _; omega
      case d4 => show _ + 3 + 40 < _; omega
      intro h₃ tk₃ F₃ N₃
      k_steps
      exact ⟨_, _, _, [(D, listOf vs.toArray n₂)], rfl, F₃, N₃, hnI, _, _, rfl, rfl⟩
  · clear F' N' hr
    rintro M₁ news₁ h tk ⟨pk, pa, rfl, rfl⟩ F₁ N₁
    k_steps
    have hlen2 : ns.length = l.length := by rw [← hperm.length_eq, List.length_map]
    rename List.Perm _ (List.map _ _) => p₃
    rename List.Pairwise _ _ => o₃
    rename Fr _ _ _ _ => F₃
    rename News _ _ _ _ => N₃
    refine kso_sorted F₃ N₃ ⟨_, F₃.keep _ _ (hsg _ _ hw), rfl, n', rfl⟩ hus (by omega) ?_
    intro D₄ vs₄ ns₄ c₄ h₄ F₄ N₄ l₄ i₄ e₄ p₄ o₄ b₄
    k_steps
    · rw [decide_eq_true (lks_uniq (p₃.trans (hperm.trans p₄.symm)) o₃ o₄)]
    · exact (Out.of F₄ N₄ hgs).less fun p hp => nomatch hp
end Mine
namespace Mine
theorem pick_take {l : List Addr} {y : Int} (h : 0 ≤ y) : slicePick (l.map Value.ref).toArray none (some y) none = ((l.take y.toNat).map Value.ref).toArray := by
  have e : sliceBounds none (some y) none (l.map Value.ref).toArray.size = (((0 : Nat) : Int), ((min y.toNat (l.map Value.ref).toArray.size : Nat) : Int), 1) := by
    simp only [sliceBounds, Option.getD_none, show (1 : Int) > 0 by decide, if_true, if_neg (show ¬ (y < 0) by omega)]
    congr 1
    congr 1
    omega
  rw [kmk_pick_nat _ e]
  show (((l.map Value.ref).drop 0).take (min y.toNat (l.map Value.ref).toArray.size - 0)).toArray = _
  rw [List.drop_zero, Nat.sub_zero, List.size_toArray, kmk_take_min, List.map_take]
section
variable {prog : Program} {w : World} {A : Around} {E : Value → Shared → Prop} {s : Shared} {h₀ : Heap} {L D : Addr} {m : Str → Option Value} {news : List (Addr × Obj)} {value slice : PySem.Expr} {l : List Addr} {n : Nat} {y : Int} {t : Tok} {Q : Value → Shared → Prop}
theorem ref_slice (F : Fr h₀ L s.heap m) (N : News h₀ L s.heap news) (hm : (D, refsOf l n) ∈ news) (hy : 0 ≤ y) (hln : l.length < 1000)
    (h : ∀ D' h', Fr h₀ L h' m → News h₀ L h' ((D', refsOf (l.take y.toNat) 0) :: news) → (∀ p ∈ news, p.1 < D') → Q (.ref D') { s with heap := h' })
    (hs : subscripted slice false (.ref D) (.ref s.heap.objs.size) = operate [.ref s.heap.objs.size, .ref D] (getItem (.ref D) (.ref s.heap.objs.size))) (ht : ∀ r, letTemporaryGo value (.ref D) r = pure ()) :
    wpAny (model prog w) A (subscriptTail value slice (.ref D) (.ref s.heap.objs.size)) Q E { s with heap := s.heap.push { cls := .type "slice", data := .fields #[.none, .int y t, .none] } } := by
  refine kmk_slice (lo := none) (hi := some y) F N ⟨_, (N _ hm).1, rfl, n, rfl⟩ .none (.int _ _) (fun D' h' F' N' l1 => h D' h' F' ?_ l1) hs ht (by simp; rw [sizeLine_eq]; omega)
  rw [pick_take hy] at N'
  exact N'
end
theorem hide_keep {g h : Heap} {L a : Addr} {m : Str → Option Value} (F : Fr g L h m) (ha : g.get? a = none) : ∀ b o, g.get? b = some o → (h.hide a).get? b = some o := fun b o e =>
  (Heap.hide_ne h fun q => by rw [q, ha] at e; cases e).trans (F.keep b o e)
end Mine
namespace Mine
/-- an object that is such a set -/
def ItemObj (prog : Program) (w : World) (o : Obj) (m : Nat) : Prop := m < 64 ∧ o.SetObjOf (intKind prog w) (mem6 m) (card6 m)
theorem card6_le (m : Nat) : card6 m ≤ 6 := by
  unfold card6; exact Nat.le_trans (List.length_filter_le _ _) (by simp)
theorem ItemObj.at {prog : Program} {w : World} {h : Heap} {a : Addr} {o : Obj} {m : Nat} (I : ItemObj prog w o m) (ho : h.get? a = some o) : IsItem prog w h a m :=
  ⟨I.1, I.2.setOf ho (by have := card6_le m; unfold scanBound; omega)⟩
theorem IsItem.obj {prog : Program} {w : World} {h : Heap} {a : Addr} {m : Nat} (I : IsItem prog w h a m) : ∃ o, h.get? a = some o ∧ ItemObj prog w o m :=
  let ⟨o, ho, hs⟩ := I.2.objOf; ⟨o, ho, I.1, hs⟩
/-- the sets stand in the ledger -/
def SetsIn (prog : Program) (w : World) (as : List Addr) (key : Addr → Nat) (sets : List (Addr × Obj)) : Prop := ∀ a ∈ as, ∃ o, (a, o) ∈ sets ∧ ItemObj prog w o (key a)
theorem SetsIn.item {prog : Program} {w : World} {as : List Addr} {key : Addr → Nat} {sets news : List (Addr × Obj)} {g h : Heap} {L x : Addr} (S : SetsIn prog w as key sets) (N : News g L h news) (hs : ∀ p ∈ sets, p ∈ news) (hx : x ∈ as) : IsItem prog w h x (key x) :=
  let ⟨_, ho, hI⟩ := S x hx; hI.at (N _ (hs _ ho)).1
theorem SetsIn.hide {prog : Program} {w : World} {as : List Addr} {key : Addr → Nat} {sets news : List (Addr × Obj)} {g h : Heap} {L a x : Addr} (S : SetsIn prog w as key sets) (N : News g L h news) (hs : ∀ p ∈ sets, p ∈ news) (hne : ∀ p ∈ sets, p.1 ≠ a) (hx : x ∈ as) : IsItem prog w (h.hide a) x (key x) :=
  let ⟨_, ho, hI⟩ := S x hx; hI.at ((Heap.hide_ne h (hne _ ho)).trans (N _ (hs _ ho)).1)
end Mine
namespace Mine
theorem News.sub {g h : Heap} {L : Addr} {news news' : List (Addr × Obj)} (N : News g L h news) (hs : ∀ p ∈ news', p ∈ news) : News g L h news' := fun p hp => N p (hs p hp)
theorem first_at {x : Int} : ∀ {ns : List Int}, x ∈ ns → ∃ j, j < ns.length ∧ ns.getD j 0 = x ∧ ∀ m, m < j → ns.getD m 0 ≠ x
  | [], h => nomatch h
  | n :: r, h => by
    by_cases e : n = x
    · exact ⟨0, Nat.zero_lt_succ _, e, fun _ h => absurd h (Nat.not_lt_zero _)⟩
    · rcases List.mem_cons.mp h with h | h
      · exact absurd h.symm e
      · obtain ⟨j, h1, h2, h3⟩ := first_at h
        refine ⟨j + 1, Nat.succ_lt_succ h1, h2, fun m hm => ?_⟩
        cases m with
        | zero => exact e
        | succ m => exact h3 m (Nat.lt_of_succ_lt_succ hm)
theorem ints_eraseIdx : ∀ {vs : List Value} {ns : List Int}, IntsAre vs ns → ∀ j, IntsAre (vs.eraseIdx j) (ns.eraseIdx j)
  | _, _, .nil, _ => .nil
  | _, _, .cons _ _ h, 0 => h
  | _, _, .cons i t h, j + 1 => .cons i t (ints_eraseIdx h j)
section
variable {prog : Program} {w : World} {A : Around} {E : Value → Shared → Prop} {s : Shared} {g : Heap} {L D : Addr} {m : Str → Option Value} {rest : List (Addr × Obj)} {us : List Value} {ns : List Int} {n : Nat} {Q : Value → Shared → Prop}
theorem head_remove {x : Int} {t : Tok} (F : Fr g L s.heap m) (N : News g L s.heap ((D, listOf us.toArray n) :: rest)) (hne : ∀ p ∈ rest, p.1 ≠ D) (hi : IntsAre us ns) (hx : x ∈ ns) (hln : ns.length < 1000)
    (h : ∀ h' us' ns', Fr g L h' m → News g L h' ((D, listOf us'.toArray (n + 1)) :: rest) → IntsAre us' ns' → ns.Perm (x :: ns') → Q .none { s with heap := h' }) :
    wpAny (model prog w) A (call (.builtin "list.remove") [.ref D, .int x t]) Q E s := by
  obtain ⟨j, hj, hjx, hjn⟩ := first_at hx
  have hlen := hi.length
  have z := N (D, listOf us.toArray n) (.head _)
  have hjs : j < us.toArray.size := by rw [List.size_toArray]; omega
  have hget : ∀ m (hm : m < us.toArray.size), ∃ t', us.toArray[m] = .int (ns.getD m 0) t' := fun m hm => by
    obtain ⟨t', e⟩ := IntsAre.int_at hi m us.toArray[m] (by rw [← List.getElem?_toArray]; exact Array.getElem?_eq_getElem hm)
    exact ⟨t', e⟩
  refine call_meets PySem.F.slot_list_remove ⟨_, z.1, rfl⟩ PySem.F.entry_list_remove (PySem.F.args_list_remove_2 _ _)
    (PySem.MeetsSeq.list_remove D us.toArray n (.int x t) (fun y => match y with | .int i _ => i == x | _ => false) ?_ j hjs ?_ ?_ (by rw [List.size_toArray, sizeLine_eq]; omega)) ⟨z.1, ?_⟩
  · intro y hy
    obtain ⟨m, hm, rfl⟩ := Array.getElem_of_mem hy
    obtain ⟨t', e⟩ := hget m hm
    rw [e]
    exact PySem.MeetsSeq.EqGives.int _ _ _ _
  · obtain ⟨t', e⟩ := hget j hjs
    rw [e]
    exact beq_iff_eq.mpr hjx
  · intro m hm hmj
    obtain ⟨t', e⟩ := hget m hm
    rw [e]
    exact beq_eq_false_iff_ne.mpr (hjn m hmj)
  · have q := kl_turn (pre := []) (post := rest) (D := D) (its := us.toArray) (its' := (us.eraseIdx j).toArray) (n := n) (fun xs => xs.eraseIdxIfInBounds j) N (fun _ h => nomatch h) hne (by simp) (by simp [List.length_eraseIdx]; omega)
    refine h _ (us.eraseIdx j) (ns.eraseIdx j) (F.change (Heap.SameBut.update ..) z.2.1 z.2.2) q (ints_eraseIdx hi j) ?_
    have := out_perm (l := ns) hj
    rwa [show ns.getD j default = x from hjx] at this

theorem head_append {v : Value} (F : Fr g L s.heap m) (N : News g L s.heap ((D, listOf us.toArray n) :: rest)) (hne : ∀ p ∈ rest, p.1 ≠ D) (hln : us.length < 1000)
    (h : ∀ h', Fr g L h' m → News g L h' ((D, listOf (us ++ [v]).toArray (n + 1)) :: rest) → Q .none { s with heap := h' }) :
    wpAny (model prog w) A (call (.builtin "list.append") [.ref D, v]) Q E s := by
  refine append_K (its := us.toArray) (n := n) (news' := (D, listOf (us ++ [v]).toArray (n + 1)) :: rest) F N ?_ h (by rw [List.size_toArray, sizeLine_eq]; omega)
  have e : us.toArray.push v = (us ++ [v]).toArray := List.push_toArray ..
  rw [e]
  exact .head hne
end
end Mine
namespace Mine
theorem ltM_asym {a b : Nat} (h : ltM a b = true) : ltM b a = false := by
  unfold ltM at h ⊢
  rw [Bool.and_eq_true, bne_iff_ne, beq_iff_eq] at h
  cases hz : (b &&& a == b) with
  | false => exact Bool.and_false _
  | true =>
    rw [beq_iff_eq, Nat.and_comm, h.2] at hz
    exact absurd hz h.1
theorem ltM_trans {a b c : Nat} (h1 : ltM a b = true) (h2 : ltM b c = true) : ltM a c = true := by
  unfold ltM at *
  rw [Bool.and_eq_true, bne_iff_ne, beq_iff_eq] at *
  obtain ⟨n1, e1⟩ := h1
  obtain ⟨n2, e2⟩ := h2
  refine ⟨?_, ?_⟩
  · rintro rfl
    rw [Nat.and_comm] at e2
    exact n1 (e1.symm.trans e2)
  · rw [← e1, Nat.and_assoc, e2]
theorem rMin_asym {key : Addr → Nat} : ∀ a b, rMin key a b = true → rMin key b a = false := fun _ _ h => ltM_asym h
theorem rMin_trans {key : Addr → Nat} : ∀ a b c, rMin key a b = true → rMin key b c = true → rMin key a c = true := fun _ _ _ h1 h2 => ltM_trans h1 h2
theorem rMax_asym {key : Addr → Nat} : ∀ a b, rMax key a b = true → rMax key b a = false := fun _ _ h => ltM_asym h
theorem rMax_trans {key : Addr → Nat} : ∀ a b c, rMax key a b = true → rMax key b c = true → rMax key a c = true := fun _ _ _ h1 h2 => ltM_trans h2 h1

section
variable {α : Type} [Inhabited α] (r : α → α → Bool)
theorem pop_perm {l : List α} (h : 2 ≤ l.length) : l.Perm (l.getD 0 default :: upL r (l.dropLast.set 0 (l.getD (l.length - 1) default)) 0) := by
  have hne : l ≠ [] := by intro e; rw [e, List.length_nil] at h; omega
  have e1 : l.getD (l.length - 1) default = l.getLast hne := by
    rw [List.getD_eq_getElem?_getD, ← List.getLast?_eq_getElem?, List.getLast?_eq_some_getLast hne]; rfl
  have hd : 0 < l.dropLast.length := by rw [List.length_dropLast]; omega
  have h0 : l.dropLast.getD 0 default = l.getD 0 default := by
    rw [List.getD_eq_getElem?_getD, List.getD_eq_getElem?_getD, List.getElem?_dropLast, if_pos (by omega)]
  have p1 : l.Perm (l.getLast hne :: l.dropLast) := by
    conv => lhs; rw [← List.dropLast_concat_getLast hne]
    exact List.perm_append_comm
  have p2 := out_perm hd
  rw [h0] at p2
  have p3 := set_perm (x := l.getLast hne) hd
  have p4 := upL_perm r (l.dropLast.set 0 (l.getLast hne)) 0 (by rw [List.length_set]; exact hd)
  rw [e1]
  exact p1.trans (((p2.cons _).trans (List.Perm.swap ..)).trans ((p4.trans p3).symm.cons _))
theorem rep_perm {l : List α} {x : α} (h : 0 < l.length) : (x :: l).Perm (l.getD 0 default :: upL r (l.set 0 x) 0) := by
  have p2 := out_perm h
  have p3 := set_perm (x := x) h
  have p4 := upL_perm r (l.set 0 x) 0 (by rw [List.length_set]; exact h)
  exact ((p2.cons _).trans (List.Perm.swap ..)).trans ((p4.trans p3).symm.cons _)
variable {r}
theorem pop_heap (hasym : ∀ a b, r a b = true → r b a = false) (htr : ∀ a b c, r a b = true → r b c = true → r a c = true) {l : List α} (h : 2 ≤ l.length) (hH : HeapFrom r l 0) : HeapFrom r (upL r (l.dropLast.set 0 (l.getD (l.length - 1) default)) 0) 0 :=
  upL_heap hasym htr (by rw [List.length_set, List.length_dropLast]; omega) (set0_heap (dropLast_heap hH))
theorem rep_heap (hasym : ∀ a b, r a b = true → r b a = false) (htr : ∀ a b c, r a b = true → r b c = true → r a c = true) {l : List α} {x : α} (h : 0 < l.length) (hH : HeapFrom r l 0) : HeapFrom r (upL r (l.set 0 x) 0) 0 :=
  upL_heap hasym htr (by rw [List.length_set]; exact h) (set0_heap hH)
end

/-- what one of the two heaps is, and what should be inside -/
structure HSt (key : Addr → Nat) (r : Addr → Addr → Bool) (as : List Addr) (l : List Addr) (ns : List Int) : Prop where
  mem : ∀ x ∈ l, x ∈ as
  heap : HeapFrom r l 0
  perm : List.Perm (l.map fun x => ((key x : Nat) : Int)) ns

section
variable {key : Addr → Nat} {r : Addr → Addr → Bool} {as l : List Addr} {ns : List Int}
theorem HSt.pop (H : HSt key r as l ns) (hasym : ∀ a b, r a b = true → r b a = false) (htr : ∀ a b c, r a b = true → r b c = true → r a c = true) (h : 2 ≤ l.length) :
    ((key (l.getD 0 default) : Nat) : Int) ∈ ns ∧ ∀ ns', ns.Perm (((key (l.getD 0 default) : Nat) : Int) :: ns') → HSt key r as (upL r (l.dropLast.set 0 (l.getD (l.length - 1) default)) 0) ns' := by
  have hp := pop_perm r h
  have hm := hp.map fun x => ((key x : Nat) : Int)
  refine ⟨?_, fun ns' hns => ⟨fun x hx => ?_, pop_heap hasym htr h H.heap, ?_⟩⟩
  · exact (H.perm.symm.trans hm).mem_iff.mpr (.head _)
  · exact H.mem x (hp.mem_iff.mpr (.tail _ hx))
  · exact (hm.symm.trans (H.perm.trans hns)).cons_inv
theorem HSt.rep (H : HSt key r as l ns) (hasym : ∀ a b, r a b = true → r b a = false) (htr : ∀ a b c, r a b = true → r b c = true → r a c = true) (h : 0 < l.length) {x : Addr} (hx : x ∈ as) :
    ((key (l.getD 0 default) : Nat) : Int) ∈ ns ++ [((key x : Nat) : Int)] ∧ ∀ ns', (ns ++ [((key x : Nat) : Int)]).Perm (((key (l.getD 0 default) : Nat) : Int) :: ns') → HSt key r as (upL r (l.set 0 x) 0) ns' := by
  have hp := rep_perm r (x := x) h
  have hm := hp.map fun x => ((key x : Nat) : Int)
  have hq : (((key x : Nat) : Int) :: ns).Perm (ns ++ [((key x : Nat) : Int)]) := (List.perm_append_comm (l₁ := [((key x : Nat) : Int)]) (l₂ := ns))
  have hm' : (ns ++ [((key x : Nat) : Int)]).Perm (((key (l.getD 0 default) : Nat) : Int) :: (upL r (l.set 0 x) 0).map fun x => ((key x : Nat) : Int)) := hq.symm.trans ((H.perm.symm.cons _).trans hm)
  refine ⟨hm'.mem_iff.mpr (.head _), fun ns' hns => ⟨fun y hy => ?_, rep_heap hasym htr h H.heap, (hm'.symm.trans hns).cons_inv⟩⟩
  have : y ∈ x :: l := hp.mem_iff.mpr (.tail _ hy)
  rcases List.mem_cons.mp this with rfl | h
  · exact hx
  · exact H.mem y h
theorem HSt.same (H : HSt key r as l ns) {x : Addr} :
    ((key x : Nat) : Int) ∈ ns ++ [((key x : Nat) : Int)] ∧ ∀ ns', (ns ++ [((key x : Nat) : Int)]).Perm (((key x : Nat) : Int) :: ns') → HSt key r as l ns' := by
  have hq : (((key x : Nat) : Int) :: ns).Perm (ns ++ [((key x : Nat) : Int)]) := (List.perm_append_comm (l₁ := [((key x : Nat) : Int)]) (l₂ := ns))
  exact ⟨List.mem_append.mpr (.inr (.head _)), fun ns' hns => ⟨H.mem, H.heap, H.perm.trans (hq.trans hns).cons_inv⟩⟩
end
end Mine
namespace Mine
/-- the law's own names -/
abbrev lawM (sc nm it : Addr) (count : Nat) (tc : Tok) (lo hi il ih k call mask due stay told : Option Value) : List (Str × Option Value) :=
  [("script", some (.ref sc)), ("numbers", some (.ref nm)), ("items", some (.ref it)), ("count", some (.int (count : Nat) tc)), ("low", lo), ("high", hi), ("in_low", il), ("in_high", ih), ("k", k), ("call", call), ("mask", mask), ("due", due), ("stay", stay), ("told", told)]

def forBodyOf : Option Obj → List Stmt
  | some ⟨_, _, .func f, _⟩ => (match f.body with
    | .stmts b => (match b.getLast? with | some (.For _ _ body _ _) => body | _ => [])
    | _ => [])
  | _ => []
def scopeOf : Option Obj → Scope
  | some ⟨_, _, .func f, _⟩ => f.scope
  | _ => default

theorem turn_of {K : Frag} {f : Addr} {o : Obj} {body : List Stmt} {scope : Scope} {P : Prop} (hb : forBodyOf (K.lookup f) = body) (hs : scopeOf (K.lookup f) = scope) (e : K.lookup f = some o)
    (h : forBodyOf (some o) = body → scopeOf (some o) = scope → P) : P := h (e ▸ hb) (e ▸ hs)

theorem turn_of' {K : Frag} {f : Addr} {o : Obj} {body : List Stmt} {scope : Scope} {P : Prop} (hb : (forBodyOf (K.lookup f)).drop 7 = body) (hs : scopeOf (K.lookup f) = scope) (e : K.lookup f = some o)
    (h : (forBodyOf (some o)).drop 7 = body → scopeOf (some o) = scope → P) : P := h (e ▸ hb) (e ▸ hs)

theorem turn_of6 {K : Frag} {f : Addr} {o : Obj} {body : List Stmt} {scope : Scope} {P : Prop} (hb : (forBodyOf (K.lookup f)).drop 6 = body) (hs : scopeOf (K.lookup f) = scope) (e : K.lookup f = some o)
    (h : (forBodyOf (some o)).drop 6 = body → scopeOf (some o) = scope → P) : P := h (e ▸ hb) (e ▸ hs)

/-- the law's objects lie apart -/
structure Apart (lo hi il ih it nm : Addr) (sets : List (Addr × Obj)) : Prop where
  lo_hi : lo ≠ hi
  lo_il : lo ≠ il
  lo_ih : lo ≠ ih
  lo_it : lo ≠ it
  lo_nm : lo ≠ nm
  hi_il : hi ≠ il
  hi_ih : hi ≠ ih
  hi_it : hi ≠ it
  hi_nm : hi ≠ nm
  il_ih : il ≠ ih
  il_it : il ≠ it
  il_nm : il ≠ nm
  ih_it : ih ≠ it
  ih_nm : ih ≠ nm
  s_lo : ∀ p ∈ sets, p.1 ≠ lo
  s_hi : ∀ p ∈ sets, p.1 ≠ hi
  s_il : ∀ p ∈ sets, p.1 ≠ il
  s_ih : ∀ p ∈ sets, p.1 ≠ ih

def LawInv (sc nm it lo hi il ih : Addr) (count n₀ : Nat) (ws : List Value) (as : List Addr) (key : Addr → Nat) (sets : List (Addr × Obj)) (j : Nat) (M : List (Str × Option Value)) (news : List (Addr × Obj)) : Prop :=
  ∃ tc k call mask due stay told n1 n2 n3 n4 ll lh u1 u2 nl nh, M = lawM sc nm it count tc (some (.ref lo)) (some (.ref hi)) (some (.ref il)) (some (.ref ih)) k call mask due stay told ∧
    news = (lo, refsOf ll n1) :: (hi, refsOf lh n2) :: (il, listOf u1.toArray n3) :: (ih, listOf u2.toArray n4) :: (it, refsOf as n₀) :: (nm, listOf ws.toArray 0) :: sets ∧
    j + count ≤ ws.length ∧ IntsAre u1 nl ∧ IntsAre u2 nh ∧ ll.length = lh.length ∧ count ≤ ll.length + j ∧ ll.length ≤ count ∧ HSt key (rMin key) as ll nl ∧ HSt key (rMax key) as lh nh

theorem ne_same {prog : Program} {w : World} {A : Around} {E : Value → Shared → Prop} {s : Shared} {a b : Addr} {l : List Addr} {n n' : Nat} {Q : Value → Shared → Prop} (ha : s.heap.get? a = some (refsOf l n)) (hb : s.heap.get? b = some (refsOf l n')) (hu : A.units < cLine) (h : Q (.bool false) s) :
    wpAny (model prog w) A (compareOp .NotEq (.ref a) (.ref b)) Q E s := by
  refine SeqAt.RcNeAt.lists (e := fun _ => true) ⟨_, ha, rfl, n, rfl⟩ ⟨_, hb, rfl, n', rfl⟩ rfl hu (fun j _ _ => SeqAt.EqAt.same _) prog w E Q ?_
  have e : (List.range (l.map Value.ref).toArray.size).all (fun _ => true) = true := List.all_eq_true.mpr fun _ _ => rfl
  rw [e]; exact h
theorem ltM_self (a : Nat) : ltM a a = false := by unfold ltM; rw [bne_self_eq_false]; rfl

theorem ItemObj.noTuple {prog : Program} {w : World} {o : Obj} {m : Nat} (I : ItemObj prog w o m) : o.cls ≠ Value.type "tuple" := by
  have hc : o.cls = .type "set" := I.2.1.1
  rw [hc]; decide

theorem body_is {K : Frag} {f : Addr} {o : Obj} {body : List Stmt} (e : K.lookup f = some o) (h : forBodyOf (some o) = body) : forBodyOf (K.lookup f) = body := e ▸ h
theorem scope_is {K : Frag} {f : Addr} {o : Obj} {sc : Scope} (e : K.lookup f = some o) (h : scopeOf (some o) = sc) : scopeOf (K.lookup f) = sc := e ▸ h

theorem News.front {g h : Heap} {L : Addr} {pre post : List (Addr × Obj)} {p : Addr × Obj} (N : News g L h (pre ++ p :: post)) : News g L h (p :: (pre ++ post)) := fun q hq => N q (List.perm_middle.mem_iff.mpr hq)
end Mine
namespace Mine
local macro_rules | `(tactic| walk_at "subscriptTail") => `(tactic| (k_here; (with_reducible show wpAny _ _ (subscriptTail _ _ (Value.ref _) (Value.int _ _)) _ _ _); (with_unfolding_all refine' ref_get ?k1 ?k2 ?k3 ?k4 ?_ ?k6 ?k7; (case k1 => exact News.get (by k_asm) (by k_mem)); (case k2 => omega); (case k3 => (try simp only [List.length_dropLast, List.length_set]); omega); (case k4 => omega); (case k6 => with_unfolding_all rfl); (case k7 => intro _; with_unfolding_all rfl); k_whole)))
local macro_rules | `(tactic| walk_at "setItem ref int") => `(tactic| (k_here; (with_reducible show wpAny _ _ (setItem (Value.ref _) (Value.int _ _) (Value.ref _)) _ _ _); k_dflt (refine' ref_set ?k1 ?k2 ?k3 ?k4 ?k5 ?k6 ?_; (case k1 => k_asm); (case k2 => k_asm); (case k3 => k_upd); (case k4 => omega); (case k5 => (try simp only [List.length_dropLast, List.length_set]); omega); (case k6 => omega); k_whole); intro h' F' N'; (try k_sweep)))
local macro_rules | `(tactic| walk_at "compareOp Lt ref") => `(tactic| (k_here; (with_reducible show wpAny _ _ (compareOp CmpOp.Lt (Value.ref _) (Value.ref _)) _ _ _); refine' item_lt ?k1 ?k2 ?k3 ?_; (case k1 => first | exact item_at (by assumption) (by assumption) (by omega) | exact item_on (by assumption) (by assumption)); (case k2 => first | exact item_at (by assumption) (by assumption) (by omega) | exact item_on (by assumption) (by assumption)); (case k3 => show _ + 3 < _; omega)))
local macro_rules | `(tactic| walk_at "storeName") => `(tactic| (k_here; k_dflt (refine' stO ?F ?N ?_ ?a ?b; (case F => k_asm); (case N => k_asm); (case a => rfl); (case b => rfl); k_whole; intro h' F' N'; (try k_sweep))))
local macro_rules | `(tactic| walk_at "binaryOp RShift int int") => `(tactic| (with_reducible refine rsh1 ?_))
local macro_rules | `(tactic| walk_at "exec") => `(tactic| ((with_reducible show wpAny _ _ (exec (Stmt.While _ _ _ _) _) _ _ _); refine of_stop ?_))

local macro_rules | `(tactic| walk_at "call ref") => `(tactic| ((with_reducible show wpAny _ _ (call (Value.ref _) _) _ _ _); refine of_stop ?_))
local macro_rules | `(tactic| walk_at "call builtin:len") => `(tactic| (k_here; (with_reducible show wpAny _ _ (call (Value.builtin "len") [Value.ref _]) _ _ _); refine' ref_len ?k1 ?k2 ?_; (case k1 => exact News.get (by k_asm) (by k_mem)); (case k2 => omega)))
local macro_rules | `(tactic| walk_at "call builtin:list.pop") => `(tactic| (k_here; (with_reducible show wpAny _ _ (call (Value.builtin _) [Value.ref _]) _ _ _); k_dflt (refine' ref_pop ?F ?N ?U ?l ?z ?_; (case F => k_asm); (case N => k_asm); (case U => k_upd); (case l => omega); (case z => omega)); (intro h' F' N'; (try k_sweep))))
local macro_rules | `(tactic| walk_at "truthy ref") => `(tactic| (k_here; (with_reducible show wpAny _ _ (truthy (Value.ref _)) _ _ _); refine' ref_truthy ?k1 ?k2 ?k3 ?_; (case k1 => exact News.get (by k_asm) (by k_mem)); (case k2 => (try simp only [List.length_dropLast, List.length_set]); omega); (case k3 => (try simp only [List.length_dropLast, List.length_set]); omega)))
local macro_rules | `(tactic| walk_at "exec") => `(tactic| ((with_reducible show wpAny _ _ (exec (Stmt.For _ _ _ _ _) _) _ _ _); refine of_stop ?_))
local macro_rules | `(tactic| walk_at "exec For Name Call cons nil") => `(tactic| (refine of_stop ?_))
local macro_rules | `(tactic| walk_at "binaryOp FloorDiv int int") => `(tactic| ((with_reducible refine fdivE ?k1 ?k2 ?_); (case k1 => omega); (case k2 => omega)))
local macro_rules | `(tactic| walk_at "binaryOp Mod int int") => `(tactic| ((with_reducible refine fmodE ?k1 ?_); (case k1 => omega)))
local macro_rules | `(tactic| walk_at "subscriptTail Name Slice ref ref") => `(tactic| (refine of_stop ?_))
local macro_rules | `(tactic| walk_at "call type:list") => `(tactic| (refine of_stop ?_))
local macro_rules | `(tactic| walk_at "newList") => `(tactic| (refine of_stop ?_))
local macro_rules | `(tactic| walk_at "setItem ref int") => `(tactic| (refine of_stop ?_))
local macro_rules | `(tactic| walk_at "call builtin:list.append") => `(tactic| (refine of_stop ?_))
local macro_rules | `(tactic| walk_at "call builtin:list.remove") => `(tactic| (refine of_stop ?_))


theorem law_tail {prog : Program} {w : World} {A : Around} {s : Shared} {mg mb : Str → Option Value} {g : Heap} {L : Addr} {body : List Stmt} {scope : Scope} {sc nm it lo hi il ih du td t0 t1 : Addr} {count n3 n4 : Nat} {u1 u2 : List Value} {nl nh nlA nhA : List Int} {as : List Addr} {key : Addr → Nat} {sets rest : List (Addr × Obj)} {tc tb te : Tok} {k stay : Option Value} {c : Int} {km : Nat} {Q : Flow → Shared → Prop}
    (hbody : (forBodyOf ((hd.heap_39 w.params).lookup 115)).drop 7 = body) (hscope : scopeOf ((hd.heap_39 w.params).lookup 115) = scope)
    (Wg : Wd w mg mb g) (hd : A.depth + 30 < recursionLimit) (hu : A.units + 150 < cLine) (hh : A.handled = none)
    (hss : SetsIn prog w as key sets) (hsub : ∀ p ∈ sets, p ∈ rest) (h0 : t0 ∈ as) (h1 : t1 ∈ as)
    (hu1 : IntsAre u1 nl) (hu2 : IntsAre u2 nh) (hlen1 : nl.length < 900) (hlen2 : nh.length < 900)
    (hnl : nlA = if c = 0 then nl else nl ++ [((km : Nat) : Int)]) (hnh : nhA = if c = 0 then nh else nh ++ [((km : Nat) : Int)])
    (hm0 : ((key t0 : Nat) : Int) ∈ nlA) (hm1 : ((key t1 : Nat) : Int) ∈ nhA)
    (a1 : il ≠ ih) (a2 : td ≠ il) (a3 : td ≠ ih) (a4 : du ≠ il) (a5 : du ≠ ih) (a6 : ∀ p ∈ rest, p.1 ≠ il) (a7 : ∀ p ∈ rest, p.1 ≠ ih)
    (h : Heap) (tk : Nat)
    (F₁ : Fr g L h (mapO (lawM sc nm it count tc (some (.ref lo)) (some (.ref hi)) (some (.ref il)) (some (.ref ih)) k (some (.int c tb)) (some (.int ((km : Nat) : Int) te)) (some (.ref du)) stay (some (.ref td)))))
    (N₁ : News g L h ((td, refsOf [t0, t1] 0) :: (du, refsOf [t0, t1] 0) :: (il, listOf u1.toArray n3) :: (ih, listOf u2.toArray n4) :: rest))
    (hQ : ∀ h' tk' u1' u2' nl' nh' n3' n4', Fr g L h' (mapO (lawM sc nm it count tc (some (.ref lo)) (some (.ref hi)) (some (.ref il)) (some (.ref ih)) k (some (.int c tb)) (some (.int ((km : Nat) : Int) te)) (some (.ref du)) stay (some (.ref td)))) →
      News g L h' ((il, listOf u1'.toArray n3') :: (ih, listOf u2'.toArray n4') :: rest) → IntsAre u1' nl' → IntsAre u2' nh' → nlA.Perm (((key t0 : Nat) : Int) :: nl') → nhA.Perm (((key t1 : Nat) : Int) :: nh') → Q .next { s with heap := h', toks := tk' }) :
    wpAny (model prog w) A (execs body (envOf "law" scope L 115 (.ref 114))) Q Never { s with heap := h, toks := tk } := by
  refine' turn_of' hbody hscope ?k6 ?_
  case k6 => k_is
  clear hbody hscope
  intro hbody hscope
  simp only [forBodyOf, scopeOf, List.getLast?_cons_cons, List.getLast?_singleton, List.drop_succ_cons, List.drop_zero] at hbody hscope
  subst hbody hscope
  have KX := Wg.k
  have T := Wg.t
  k_steps
  · rename c ≠ 0 => hc
    rw [if_neg hc] at hnl hnh
    have N₂ := News.front (pre := [_, _]) N₁
    dsimp only [List.cons_append, List.nil_append] at N₂
    refine head_append F₁ N₂ ?x1 (by rw [hu1.length]; omega) ?_
    case x1 =>
      intro p hp
      simp only [List.mem_cons] at hp
      rcases hp with rfl | rfl | rfl | hp
      · exact a2
      · exact a4
      · exact Ne.symm a1
      · exact a6 p hp
    clear F₁ N₁ N₂
    intro h₂ F₂ N₂
    k_steps
    have N₃ := News.front (pre := [_, _, _]) N₂
    dsimp only [List.cons_append, List.nil_append] at N₃
    refine head_append F₂ N₃ ?x2 (by rw [hu2.length]; omega) ?_
    case x2 =>
      intro p hp
      simp only [List.mem_cons] at hp
      rcases hp with rfl | rfl | rfl | hp
      · exact a1
      · exact a3
      · exact a5
      · exact a7 p hp
    clear F₂ N₂ N₃
    intro h₃ F₃ N₃
    have hv1 := ints_append hu1 (IntsAre.cons ((km : Nat) : Int) te .nil)
    have hv2 := ints_append hu2 (IntsAre.cons ((km : Nat) : Int) te .nil)
    rw [← hnl] at hv1
    rw [← hnh] at hv2
    have hlA : nlA.length < 1000 := by rw [hnl, List.length_append]; show nl.length + 1 < 1000; omega
    have hlB : nhA.length < 1000 := by rw [hnh, List.length_append]; show nh.length + 1 < 1000; omega
    clear hu1 hu2 hlen1 hlen2 hnl hnh
    generalize u1 ++ _ = v1 at *
    generalize u2 ++ _ = v2 at *
    generalize n3 + 1 = e1 at *
    generalize n4 + 1 = e2 at *
    clear u1 u2 nl nh n3 n4
    have N₄ : News g L h₃ ((il, listOf v1.toArray e1) :: (ih, listOf v2.toArray e2) :: (td, refsOf [t0, t1] 0) :: (du, refsOf [t0, t1] 0) :: rest) := News.sub N₃ (by
      intro p hp
      simp only [List.mem_cons] at hp ⊢
      rcases hp with h | h | h | h | h <;> simp only [h, true_or, or_true])
    clear N₃
    k_steps
    refine call_made F₃ N₄ (law_masks (key := key) F₃.keep Wg (N₄ _ (.tail _ (.tail _ (.head _)))).1 ?d1 ?d2 (fun x hx => hss.item N₄ (fun p hp => .tail _ (.tail _ (.tail _ (.tail _ (hsub p hp))))) (by simp only [List.mem_cons, List.not_mem_nil, or_false] at hx; rcases hx with rfl | rfl <;> assumption)) (by simp) hh) ?_
    case d1 => show _ + 12 < _; omega
    case d2 => show _ + 40 < _; omega
    clear F₃ N₄
    rintro h₅ tk₅ D₅ o₅ ⟨vs₅, n₅, rfl, hvs₅⟩ hD5 F₅ N₅
    have hne5 : ∀ p ∈ rest, p.1 ≠ D₅ := fun p hp => hD5 p (.tail _ (.tail _ (.tail _ (.tail _ hp))))
    k_steps
    have N₆ := News.front (pre := [_]) N₅
    dsimp only [List.cons_append, List.nil_append] at N₆
    refine head_remove F₅ N₆ ?x3 hv1 hm0 hlA ?_
    case x3 =>
      intro p hp
      simp only [List.mem_cons] at hp
      rcases hp with rfl | rfl | rfl | rfl | hp
      · exact fun e => hD5 _ (.head _) e.symm
      · exact Ne.symm a1
      · exact a2
      · exact a4
      · exact a6 p hp
    clear F₅ N₅ N₆
    intro h₇ v1' nl' F₇ N₇ hv1' hp1
    have N₈ : News g L h₇ ((il, listOf v1'.toArray (e1 + 1)) :: (ih, listOf v2.toArray e2) :: (td, refsOf [t0, t1] 0) :: (du, refsOf [t0, t1] 0) :: rest) := News.sub N₇ (by
      intro p hp
      simp only [List.mem_cons] at hp ⊢
      rcases hp with h | h | h | h | h <;> simp only [h, true_or, or_true])
    clear N₇ hv1
    k_steps
    refine call_made F₇ N₈ (law_masks (key := key) F₇.keep Wg (N₈ _ (.tail _ (.tail _ (.head _)))).1 ?d3 ?d4 (fun x hx => hss.item N₈ (fun p hp => .tail _ (.tail _ (.tail _ (.tail _ (hsub p hp))))) (by simp only [List.mem_cons, List.not_mem_nil, or_false] at hx; rcases hx with rfl | rfl <;> assumption)) (by simp) hh) ?_
    case d3 => show _ + 12 < _; omega
    case d4 => show _ + 40 < _; omega
    clear F₇ N₈
    rintro h₉ tk₉ D₉ o₉ ⟨vs₉, n₉, rfl, hvs₉⟩ hD9 F₉ N₉
    k_steps
    have NA := News.front (pre := [_, _]) N₉
    dsimp only [List.cons_append, List.nil_append] at NA
    refine head_remove F₉ NA ?x4 hv2 hm1 hlB ?_
    case x4 =>
      intro p hp
      simp only [List.mem_cons] at hp
      rcases hp with rfl | rfl | rfl | rfl | hp
      · exact fun e => hD9 _ (.tail _ (.head _)) e.symm
      · exact a1
      · exact a3
      · exact a5
      · exact a7 p hp
    clear F₉ N₉ NA
    intro hB v2' nh' FB NB hv2' hp2
    k_steps
    refine hQ _ _ v1' v2' nl' nh' (e1 + 1) (e2 + 1) FB (News.sub NB (by
      intro p hp
      simp only [List.mem_cons] at hp ⊢
      rcases hp with h | h | h <;> simp only [h, true_or, or_true])) hv1' hv2' hp1 hp2
  · rename c = 0 => hc
    rw [if_pos hc] at hnl hnh
    have hv1 := hu1
    have hv2 := hu2
    rw [← hnl] at hv1
    rw [← hnh] at hv2
    have hlA : nlA.length < 1000 := by rw [hnl]; omega
    have hlB : nhA.length < 1000 := by rw [hnh]; omega
    clear hu1 hu2 hlen1 hlen2 hnl hnh
    have F₃ := F₁
    generalize u1 = v1 at *
    generalize u2 = v2 at *
    generalize n3 = e1 at *
    generalize n4 = e2 at *
    clear nl nh
    have N₄ : News g L h ((il, listOf v1.toArray e1) :: (ih, listOf v2.toArray e2) :: (td, refsOf [t0, t1] 0) :: (du, refsOf [t0, t1] 0) :: rest) := News.sub N₁ (by
      intro p hp
      simp only [List.mem_cons] at hp ⊢
      rcases hp with h | h | h | h | h <;> simp only [h, true_or, or_true])
    clear N₁ F₁
    refine call_made F₃ N₄ (law_masks (key := key) F₃.keep Wg (N₄ _ (.tail _ (.tail _ (.head _)))).1 ?d1 ?d2 (fun x hx => hss.item N₄ (fun p hp => .tail _ (.tail _ (.tail _ (.tail _ (hsub p hp))))) (by simp only [List.mem_cons, List.not_mem_nil, or_false] at hx; rcases hx with rfl | rfl <;> assumption)) (by simp) hh) ?_
    case d1 => show _ + 12 < _; omega
    case d2 => show _ + 40 < _; omega
    clear F₃ N₄
    rintro h₅ tk₅ D₅ o₅ ⟨vs₅, n₅, rfl, hvs₅⟩ hD5 F₅ N₅
    have hne5 : ∀ p ∈ rest, p.1 ≠ D₅ := fun p hp => hD5 p (.tail _ (.tail _ (.tail _ (.tail _ hp))))
    k_steps
    have N₆ := News.front (pre := [_]) N₅
    dsimp only [List.cons_append, List.nil_append] at N₆
    refine head_remove F₅ N₆ ?x3 hv1 hm0 hlA ?_
    case x3 =>
      intro p hp
      simp only [List.mem_cons] at hp
      rcases hp with rfl | rfl | rfl | rfl | hp
      · exact fun e => hD5 _ (.head _) e.symm
      · exact Ne.symm a1
      · exact a2
      · exact a4
      · exact a6 p hp
    clear F₅ N₅ N₆
    intro h₇ v1' nl' F₇ N₇ hv1' hp1
    have N₈ : News g L h₇ ((il, listOf v1'.toArray (e1 + 1)) :: (ih, listOf v2.toArray e2) :: (td, refsOf [t0, t1] 0) :: (du, refsOf [t0, t1] 0) :: rest) := News.sub N₇ (by
      intro p hp
      simp only [List.mem_cons] at hp ⊢
      rcases hp with h | h | h | h | h <;> simp only [h, true_or, or_true])
    clear N₇ hv1
    k_steps
    refine call_made F₇ N₈ (law_masks (key := key) F₇.keep Wg (N₈ _ (.tail _ (.tail _ (.head _)))).1 ?d3 ?d4 (fun x hx => hss.item N₈ (fun p hp => .tail _ (.tail _ (.tail _ (.tail _ (hsub p hp))))) (by simp only [List.mem_cons, List.not_mem_nil, or_false] at hx; rcases hx with rfl | rfl <;> assumption)) (by simp) hh) ?_
    case d3 => show _ + 12 < _; omega
    case d4 => show _ + 40 < _; omega
    clear F₇ N₈
    rintro h₉ tk₉ D₉ o₉ ⟨vs₉, n₉, rfl, hvs₉⟩ hD9 F₉ N₉
    k_steps
    have NA := News.front (pre := [_, _]) N₉
    dsimp only [List.cons_append, List.nil_append] at NA
    refine head_remove F₉ NA ?x4 hv2 hm1 hlB ?_
    case x4 =>
      intro p hp
      simp only [List.mem_cons] at hp
      rcases hp with rfl | rfl | rfl | rfl | hp
      · exact fun e => hD9 _ (.tail _ (.head _)) e.symm
      · exact a1
      · exact a3
      · exact a5
      · exact a7 p hp
    clear F₉ N₉ NA
    intro hB v2' nh' FB NB hv2' hp2
    k_steps
    refine hQ _ _ v1' v2' nl' nh' (e1 + 1) (e2 + 1) FB (News.sub NB (by
      intro p hp
      simp only [List.mem_cons] at hp ⊢
      rcases hp with h | h | h <;> simp only [h, true_or, or_true])) hv1' hv2' hp1 hp2
end Mine
namespace Mine
local macro_rules | `(tactic| walk_at "subscriptTail") => `(tactic| (k_here; (with_reducible show wpAny _ _ (subscriptTail _ _ (Value.ref _) (Value.int _ _)) _ _ _); (with_unfolding_all refine' ref_get ?k1 ?k2 ?k3 ?k4 ?_ ?k6 ?k7; (case k1 => exact News.get (by k_asm) (by k_mem)); (case k2 => omega); (case k3 => (try simp only [List.length_dropLast, List.length_set]); omega); (case k4 => omega); (case k6 => with_unfolding_all rfl); (case k7 => intro _; with_unfolding_all rfl); k_whole)))
local macro_rules | `(tactic| walk_at "setItem ref int") => `(tactic| (k_here; (with_reducible show wpAny _ _ (setItem (Value.ref _) (Value.int _ _) (Value.ref _)) _ _ _); k_dflt (refine' ref_set ?k1 ?k2 ?k3 ?k4 ?k5 ?k6 ?_; (case k1 => k_asm); (case k2 => k_asm); (case k3 => k_upd); (case k4 => omega); (case k5 => (try simp only [List.length_dropLast, List.length_set]); omega); (case k6 => omega); k_whole); intro h' F' N'; (try k_sweep)))
local macro_rules | `(tactic| walk_at "compareOp Lt ref") => `(tactic| (k_here; (with_reducible show wpAny _ _ (compareOp CmpOp.Lt (Value.ref _) (Value.ref _)) _ _ _); refine' item_lt ?k1 ?k2 ?k3 ?_; (case k1 => first | exact item_at (by assumption) (by assumption) (by omega) | exact item_on (by assumption) (by assumption)); (case k2 => first | exact item_at (by assumption) (by assumption) (by omega) | exact item_on (by assumption) (by assumption)); (case k3 => show _ + 3 < _; omega)))
local macro_rules | `(tactic| walk_at "storeName") => `(tactic| (k_here; k_dflt (refine' stO ?F ?N ?_ ?a ?b; (case F => k_asm); (case N => k_asm); (case a => rfl); (case b => rfl); k_whole; intro h' F' N'; (try k_sweep))))
local macro_rules | `(tactic| walk_at "binaryOp RShift int int") => `(tactic| (with_reducible refine rsh1 ?_))
local macro_rules | `(tactic| walk_at "exec") => `(tactic| ((with_reducible show wpAny _ _ (exec (Stmt.While _ _ _ _) _) _ _ _); refine of_stop ?_))

local macro_rules | `(tactic| walk_at "call ref") => `(tactic| ((with_reducible show wpAny _ _ (call (Value.ref _) _) _ _ _); refine of_stop ?_))
local macro_rules | `(tactic| walk_at "call builtin:len") => `(tactic| (k_here; (with_reducible show wpAny _ _ (call (Value.builtin "len") [Value.ref _]) _ _ _); refine' ref_len ?k1 ?k2 ?_; (case k1 => exact News.get (by k_asm) (by k_mem)); (case k2 => omega)))
local macro_rules | `(tactic| walk_at "call builtin:list.pop") => `(tactic| (k_here; (with_reducible show wpAny _ _ (call (Value.builtin _) [Value.ref _]) _ _ _); k_dflt (refine' ref_pop ?F ?N ?U ?l ?z ?_; (case F => k_asm); (case N => k_asm); (case U => k_upd); (case l => omega); (case z => omega)); (intro h' F' N'; (try k_sweep))))
local macro_rules | `(tactic| walk_at "truthy ref") => `(tactic| (k_here; (with_reducible show wpAny _ _ (truthy (Value.ref _)) _ _ _); refine' ref_truthy ?k1 ?k2 ?k3 ?_; (case k1 => exact News.get (by k_asm) (by k_mem)); (case k2 => (try simp only [List.length_dropLast, List.length_set]); omega); (case k3 => (try simp only [List.length_dropLast, List.length_set]); omega)))
local macro_rules | `(tactic| walk_at "exec") => `(tactic| ((with_reducible show wpAny _ _ (exec (Stmt.For _ _ _ _ _) _) _ _ _); refine of_stop ?_))
local macro_rules | `(tactic| walk_at "exec For Name Call cons nil") => `(tactic| (refine of_stop ?_))
local macro_rules | `(tactic| walk_at "binaryOp FloorDiv int int") => `(tactic| ((with_reducible refine fdivE ?k1 ?k2 ?_); (case k1 => omega); (case k2 => omega)))
local macro_rules | `(tactic| walk_at "binaryOp Mod int int") => `(tactic| ((with_reducible refine fmodE ?k1 ?_); (case k1 => omega)))
local macro_rules | `(tactic| walk_at "subscriptTail Name Slice ref ref") => `(tactic| (refine of_stop ?_))
theorem law_fin {prog : Program} {w : World} {A : Around} {s : Shared} {mg mb : Str → Option Value} {g : Heap} {L I : Addr} {oI : Obj} {body : List Stmt} {scope : Scope} {sc nm it lo hi il ih du td t0 t1 : Addr} {count n₀ i n1 n2 n3 n4 : Nat} {ws u1 u2 : List Value} {nl nh nlA nhA : List Int} {as ll lh : List Addr} {key : Addr → Nat} {sets : List (Addr × Obj)} {tc tb te : Tok} {k stay : Option Value} {c : Int} {km : Nat} {Q : Flow → Shared → Prop}
    (hbody : (forBodyOf ((hd.heap_39 w.params).lookup 115)).drop 7 = body) (hscope : scopeOf ((hd.heap_39 w.params).lookup 115) = scope)
    (Wg : Wd w mg mb g) (hd : A.depth + 30 < recursionLimit) (hu : A.units + 150 < cLine) (hh : A.handled = none)
    (hss : SetsIn prog w as key sets) (ap : Apart lo hi il ih it nm sets) (hnI : ∀ p ∈ [lo, hi, il, ih, it, nm] ++ sets.map (·.1), p ≠ I) (h0 : t0 ∈ as) (h1 : t1 ∈ as)
    (hu1 : IntsAre u1 nl) (hu2 : IntsAre u2 nh) (hlen1 : nl.length < 900) (hlen2 : nh.length < 900)
    (hnl : nlA = if c = 0 then nl else nl ++ [((km : Nat) : Int)]) (hnh : nhA = if c = 0 then nh else nh ++ [((km : Nat) : Int)])
    (HL : ((key t0 : Nat) : Int) ∈ nlA ∧ ∀ ns', nlA.Perm (((key t0 : Nat) : Int) :: ns') → HSt key (rMin key) as ll ns')
    (HH : ((key t1 : Nat) : Int) ∈ nhA ∧ ∀ ns', nhA.Perm (((key t1 : Nat) : Int) :: ns') → HSt key (rMax key) as lh ns')
    (hl1 : ll.length = lh.length) (hl2 : count ≤ ll.length + (i + 1)) (hl3 : ll.length ≤ count) (hl4 : i + 1 + count ≤ ws.length)
    (a2 : td ≠ il) (a3 : td ≠ ih) (a4 : du ≠ il) (a5 : du ≠ ih)
    (h : Heap) (tk : Nat)
    (F₁ : Fr g L h (mapO (lawM sc nm it count tc (some (.ref lo)) (some (.ref hi)) (some (.ref il)) (some (.ref ih)) k (some (.int c tb)) (some (.int ((km : Nat) : Int) te)) (some (.ref du)) stay (some (.ref td)))))
    (N₁ : News g L h ((td, refsOf [t0, t1] 0) :: (du, refsOf [t0, t1] 0) :: (il, listOf u1.toArray n3) :: (ih, listOf u2.toArray n4) :: (lo, refsOf ll n1) :: (hi, refsOf lh n2) :: (I, oI) :: (it, refsOf as n₀) :: (nm, listOf ws.toArray 0) :: sets)) :
    wpAny (model prog w) A (execs body (envOf "law" scope L 115 (.ref 114))) (fun f s₃ => match f with
      | .next | .cont => TurnEnd g L I oI s (LawInv sc nm it lo hi il ih count n₀ ws as key sets (i + 1)) s₃
      | .brk => Q .next s₃
      | .ret v => Q (.ret v) s₃) Never { s with heap := h, toks := tk } := by
  refine law_tail (nlA := nlA) (nhA := nhA) hbody hscope Wg hd hu hh hss (fun p hp => .tail _ (.tail _ (.tail _ (.tail _ (.tail _ hp))))) h0 h1 hu1 hu2 hlen1 hlen2 hnl hnh HL.1 HH.1 ap.il_ih a2 a3 a4 a5 ?_ ?_ h tk F₁ N₁ ?_
  · intro p hp
    simp only [List.mem_cons] at hp
    rcases hp with rfl | rfl | rfl | rfl | rfl | hp
    · exact ap.lo_il
    · exact ap.hi_il
    · exact fun e => hnI il (by simp) e.symm
    · exact Ne.symm ap.il_it
    · exact Ne.symm ap.il_nm
    · exact ap.s_il p hp
  · intro p hp
    simp only [List.mem_cons] at hp
    rcases hp with rfl | rfl | rfl | rfl | rfl | hp
    · exact ap.lo_ih
    · exact ap.hi_ih
    · exact fun e => hnI ih (by simp) e.symm
    · exact Ne.symm ap.ih_it
    · exact Ne.symm ap.ih_nm
    · exact ap.s_ih p hp
  · intro h' tk' u1' u2' nl' nh' n3' n4' F' N' hv1 hv2 hp1 hp2
    refine ⟨h', tk', _, (lo, refsOf ll n1) :: (hi, refsOf lh n2) :: (il, listOf u1'.toArray n3') :: (ih, listOf u2'.toArray n4') :: (it, refsOf as n₀) :: (nm, listOf ws.toArray 0) :: sets, rfl, F', News.sub N' ?_, ?_, tc, k, some (.int c tb), some (.int ((km : Nat) : Int) te), some (.ref du), stay, some (.ref td), n1, n2, n3', n4', ll, lh, u1', u2', nl', nh', rfl, rfl, hl4, hv1, hv2, hl1, hl2, hl3, HL.2 _ hp1, HH.2 _ hp2⟩
    · intro p hp
      simp only [List.mem_cons] at hp ⊢
      rcases hp with h | h | h | h | h | h | h | h <;> simp only [h, true_or, or_true]
    · intro p hp
      refine hnI p.1 ?_
      simp only [List.mem_cons] at hp
      rcases hp with rfl | rfl | rfl | rfl | rfl | rfl | hp
      · simp
      · simp
      · simp
      · simp
      · simp
      · simp
      · exact List.mem_append.mpr (.inr (List.mem_map_of_mem hp))
end Mine
namespace Mine
local macro_rules | `(tactic| walk_at "subscriptTail") => `(tactic| (k_here; (with_reducible show wpAny _ _ (subscriptTail _ _ (Value.ref _) (Value.int _ _)) _ _ _); (with_unfolding_all refine' ref_get ?k1 ?k2 ?k3 ?k4 ?_ ?k6 ?k7; (case k1 => exact News.get (by k_asm) (by k_mem)); (case k2 => omega); (case k3 => (try simp only [List.length_dropLast, List.length_set]); omega); (case k4 => omega); (case k6 => with_unfolding_all rfl); (case k7 => intro _; with_unfolding_all rfl); k_whole)))
local macro_rules | `(tactic| walk_at "setItem ref int") => `(tactic| (k_here; (with_reducible show wpAny _ _ (setItem (Value.ref _) (Value.int _ _) (Value.ref _)) _ _ _); k_dflt (refine' ref_set ?k1 ?k2 ?k3 ?k4 ?k5 ?k6 ?_; (case k1 => k_asm); (case k2 => k_asm); (case k3 => k_upd); (case k4 => omega); (case k5 => (try simp only [List.length_dropLast, List.length_set]); omega); (case k6 => omega); k_whole); intro h' F' N'; (try k_sweep)))
local macro_rules | `(tactic| walk_at "compareOp Lt ref") => `(tactic| (k_here; (with_reducible show wpAny _ _ (compareOp CmpOp.Lt (Value.ref _) (Value.ref _)) _ _ _); refine' item_lt ?k1 ?k2 ?k3 ?_; (case k1 => first | exact item_at (by assumption) (by assumption) (by omega) | exact item_on (by assumption) (by assumption)); (case k2 => first | exact item_at (by assumption) (by assumption) (by omega) | exact item_on (by assumption) (by assumption)); (case k3 => show _ + 3 < _; omega)))
local macro_rules | `(tactic| walk_at "storeName") => `(tactic| (k_here; k_dflt (refine' stO ?F ?N ?_ ?a ?b; (case F => k_asm); (case N => k_asm); (case a => rfl); (case b => rfl); k_whole; intro h' F' N'; (try k_sweep))))
local macro_rules | `(tactic| walk_at "binaryOp RShift int int") => `(tactic| (with_reducible refine rsh1 ?_))
local macro_rules | `(tactic| walk_at "exec") => `(tactic| ((with_reducible show wpAny _ _ (exec (Stmt.While _ _ _ _) _) _ _ _); refine of_stop ?_))

local macro_rules | `(tactic| walk_at "call ref") => `(tactic| ((with_reducible show wpAny _ _ (call (Value.ref _) _) _ _ _); refine of_stop ?_))
local macro_rules | `(tactic| walk_at "call builtin:len") => `(tactic| (k_here; (with_reducible show wpAny _ _ (call (Value.builtin "len") [Value.ref _]) _ _ _); refine' ref_len ?k1 ?k2 ?_; (case k1 => exact News.get (by k_asm) (by k_mem)); (case k2 => omega)))
local macro_rules | `(tactic| walk_at "call builtin:list.pop") => `(tactic| (k_here; (with_reducible show wpAny _ _ (call (Value.builtin _) [Value.ref _]) _ _ _); k_dflt (refine' ref_pop ?F ?N ?U ?l ?z ?_; (case F => k_asm); (case N => k_asm); (case U => k_upd); (case l => omega); (case z => omega)); (intro h' F' N'; (try k_sweep))))
local macro_rules | `(tactic| walk_at "truthy ref") => `(tactic| (k_here; (with_reducible show wpAny _ _ (truthy (Value.ref _)) _ _ _); refine' ref_truthy ?k1 ?k2 ?k3 ?_; (case k1 => exact News.get (by k_asm) (by k_mem)); (case k2 => (try simp only [List.length_dropLast, List.length_set]); omega); (case k3 => (try simp only [List.length_dropLast, List.length_set]); omega)))
local macro_rules | `(tactic| walk_at "exec") => `(tactic| ((with_reducible show wpAny _ _ (exec (Stmt.For _ _ _ _ _) _) _ _ _); refine of_stop ?_))
local macro_rules | `(tactic| walk_at "exec For Name Call cons nil") => `(tactic| (refine of_stop ?_))
local macro_rules | `(tactic| walk_at "binaryOp FloorDiv int int") => `(tactic| ((with_reducible refine fdivE ?k1 ?k2 ?_); (case k1 => omega); (case k2 => omega)))
local macro_rules | `(tactic| walk_at "binaryOp Mod int int") => `(tactic| ((with_reducible refine fmodE ?k1 ?_); (case k1 => omega)))
local macro_rules | `(tactic| walk_at "subscriptTail Name Slice ref ref") => `(tactic| (refine of_stop ?_))
local macro_rules | `(tactic| walk_at "call type:list") => `(tactic| (refine of_stop ?_))
local macro_rules | `(tactic| walk_at "newList") => `(tactic| (refine of_stop ?_))
local macro_rules | `(tactic| walk_at "setItem ref int") => `(tactic| (refine of_stop ?_))
local macro_rules | `(tactic| walk_at "call builtin:list.append") => `(tactic| (refine of_stop ?_))
local macro_rules | `(tactic| walk_at "call builtin:list.remove") => `(tactic| (refine of_stop ?_))
local macro_rules | `(tactic| walk_at "execs cons If cons") => `(tactic| ((with_reducible show wpAny _ _ (execs [Stmt.If _ _ _ _, Stmt.If _ _ _ _, Stmt.Expr _ _, Stmt.Expr _ _] _) _ _ _); refine of_stop ?_))
local macro_rules | `(tactic| walk_at "execs cons If cons") => `(tactic| ((with_reducible show wpAny _ _ (execs [Stmt.If _ _ _ _, Stmt.If _ _ _ _, Stmt.If _ _ _ _, Stmt.Expr _ _, Stmt.Expr _ _] _) _ _ _); refine of_stop ?_))
local macro_rules | `(tactic| walk_at "compareOp NotEq ref ref") => `(tactic| (refine of_stop ?_))

theorem law_mid {prog : Program} {w : World} {A : Around} {s : Shared} {mg mb : Str → Option Value} {g : Heap} {L I : Addr} {oI : Obj} {body : List Stmt} {scope : Scope} {sc nm it lo hi il ih du st X : Addr} {count n₀ i n1 n2 n3 n4 c₇ : Nat} {ws u1 u2 : List Value} {nl nh : List Int} {as ll lh : List Addr} {key : Addr → Nat} {sets : List (Addr × Obj)} {tc tb te kv : Tok} {told : Option Value} {c : Int} {Q : Flow → Shared → Prop}
    (hbody : (forBodyOf ((hd.heap_39 w.params).lookup 115)).drop 6 = body) (hscope : scopeOf ((hd.heap_39 w.params).lookup 115) = scope)
    (Wg : Wd w mg mb g) (hd : A.depth + 30 < recursionLimit) (hu : A.units + 150 < cLine) (hh : A.handled = none)
    (hss : SetsIn prog w as key sets) (ap : Apart lo hi il ih it nm sets) (hnI : ∀ p ∈ [lo, hi, il, ih, it, nm] ++ sets.map (·.1), p ≠ I)
    (hX : as.getD (count + i) default = X) (hxm : X ∈ as) (hik : count + i < as.length) (hasl : as.length < 900)
    (hu1 : IntsAre u1 nl) (hu2 : IntsAre u2 nh) (HL : HSt key (rMin key) as ll nl) (HH : HSt key (rMax key) as lh nh)
    (hl1 : ll.length = lh.length) (hl2 : count ≤ ll.length + i) (hl3 : ll.length ≤ count) (hl4 : i + 1 + count ≤ ws.length) (hpos : 0 < ll.length) (hc0 : c = 0 → 2 ≤ ll.length)
    (dlo : du ≠ lo) (dhi : du ≠ hi) (dil : du ≠ il) (dih : du ≠ ih) (sdu : st ≠ du) (slo : st ≠ lo) (shi : st ≠ hi) (hdu : ∀ a ∈ [I, it, nm] ++ sets.map (·.1), a ≠ du)
    (hN : Heap) (tk : Nat)
    (F₈ : Fr g L hN (mapO (lawM sc nm it count tc (some (.ref lo)) (some (.ref hi)) (some (.ref il)) (some (.ref ih)) (some (.int (((count : Nat) : Int) + (i : Nat) * 1) kv)) (some (.int c tb)) (some (.int ((key X : Nat) : Int) te)) (some (.ref du)) (some (.ref st)) told)))
    (N₈ : News g L hN ((lo, refsOf ll n1) :: (hi, refsOf lh n2) :: (du, refsOf [ll.getD 0 default, lh.getD 0 default] 0) :: (st, refsOf ll c₇) :: (il, listOf u1.toArray n3) :: (ih, listOf u2.toArray n4) :: (I, oI) :: (it, refsOf as n₀) :: (nm, listOf ws.toArray 0) :: sets)) :
    wpAny (model prog w) A (execs body (envOf "law" scope L 115 (.ref 114))) (fun f s₃ => match f with
      | .next | .cont => TurnEnd g L I oI s (LawInv sc nm it lo hi il ih count n₀ ws as key sets (i + 1)) s₃
      | .brk => Q .next s₃
      | .ret v => Q (.ret v) s₃) Never { s with heap := hN, toks := tk } := by
  have hb0 := congrArg (List.drop 1) hbody
  rw [List.drop_drop] at hb0
  have hs0 := hscope
  refine' turn_of6 hbody hscope ?k6 ?_
  case k6 => k_is
  clear hbody hscope
  intro hbody hscope
  simp only [forBodyOf, scopeOf, List.getLast?_cons_cons, List.getLast?_singleton, List.drop_succ_cons, List.drop_zero] at hbody hscope
  subst hbody hscope
  have KX := Wg.k
  have T := Wg.t
  have hpos' : 0 < lh.length := by omega
  have ek : (((count : Nat) : Int) + (i : Nat) * 1).toNat = count + i := by omega
  have nI : ∀ a, a ∈ [lo, hi, il, ih, it, nm] → I ≠ a := fun a ha e => hnI a (List.mem_append_left _ ha) e.symm
  have h0m : ll.getD 0 default ∈ as := HL.mem _ (getD_mem hpos)
  have h1m : lh.getD 0 default ∈ as := HH.mem _ (getD_mem hpos')
  have hln1 : nl.length < 900 := by rw [← HL.perm.length_eq, List.length_map]; omega
  have hln2 : nh.length < 900 := by rw [← HH.perm.length_eq, List.length_map]; omega
  have rlo : ∀ (oh od os o1 o2 o3 o4 o5 : Obj), ∀ p ∈ (hi, oh) :: (du, od) :: (st, os) :: (il, o1) :: (ih, o2) :: (I, o3) :: (it, o4) :: (nm, o5) :: sets, p.1 ≠ lo := by
    intro oh od os o1 o2 o3 o4 o5 p hp
    simp only [List.mem_cons] at hp
    rcases hp with rfl | rfl | rfl | rfl | rfl | rfl | rfl | rfl | hp
    · exact Ne.symm ap.lo_hi
    · exact dlo
    · exact slo
    · exact Ne.symm ap.lo_il
    · exact Ne.symm ap.lo_ih
    · exact nI lo (by simp)
    · exact Ne.symm ap.lo_it
    · exact Ne.symm ap.lo_nm
    · exact ap.s_lo p hp
  have rhi : ∀ (od os o1 o2 o3 o4 o5 : Obj), ∀ p ∈ (du, od) :: (st, os) :: (il, o1) :: (ih, o2) :: (I, o3) :: (it, o4) :: (nm, o5) :: sets, p.1 ≠ hi := by
    intro od os o1 o2 o3 o4 o5 p hp
    simp only [List.mem_cons] at hp
    rcases hp with rfl | rfl | rfl | rfl | rfl | rfl | rfl | hp
    · exact dhi
    · exact shi
    · exact Ne.symm ap.hi_il
    · exact Ne.symm ap.hi_ih
    · exact nI hi (by simp)
    · exact Ne.symm ap.hi_it
    · exact Ne.symm ap.hi_nm
    · exact ap.s_hi p hp
  refine wpAny_execs_cons ?_
  k_steps
  · rename c = 0 => hcz
    have h2 := hc0 hcz
    refine call_out F₈ N₈ (Upd.head (rlo _ _ _ _ _ _ _ _)) (heappop (key := key) (base := Heap.hide _ lo) (fun b o e => Heap.of_hide e) (Wg.keeps (hide_keep F₈ (N₈ _ (.head _)).2.2)) (Heap.hide_self _ _) (N₈ _ (.head _)).1 ?d1 ?d2
      (fun x hx => hss.hide N₈ (fun p hp => .tail _ (.tail _ (.tail _ (.tail _ (.tail _ (.tail _ (.tail _ (.tail _ (.tail _ hp))))))))) ap.s_lo (HL.mem x hx)) (by omega) (by omega)) ?_
    case d1 => show _ + 12 < _; omega
    case d2 => show _ + 40 < _; omega
    clear F₈ N₈
    intro h₉ tk₉ F₉ N₉
    k_steps
    refine call_out F₉ N₉ (Upd.tail ap.lo_hi (Upd.head (rhi _ _ _ _ _ _ _))) (heappopX (key := key) (base := Heap.hide _ hi) (fun b o e => Heap.of_hide e) (Wg.keeps (hide_keep F₉ (N₉ _ (.tail _ (.head _))).2.2)) (Heap.hide_self _ _) (N₉ _ (.tail _ (.head _))).1 ?d3 ?d4
      (fun x hx => hss.hide N₉ (fun p hp => .tail _ (.tail _ (.tail _ (.tail _ (.tail _ (.tail _ (.tail _ (.tail _ (.tail _ hp))))))))) ap.s_hi (HH.mem x hx)) (by omega) (by omega)) ?_
    case d3 => show _ + 12 < _; omega
    case d4 => show _ + 40 < _; omega
    clear F₉ N₉
    intro hA tkA FA NA
    k_steps
    refine newList_K FA NA ?_
    clear FA NA
    intro td hB FB NB lB
    k_steps
    rename Fr _ _ _ _ => F'
    rename News _ _ _ _ => N'
    refine law_fin (n1 := n1 + 1) (n2 := n2 + 1) (n3 := n3) (n4 := n4) (nlA := nl) (nhA := nh) hb0 hs0 Wg hd hu hh hss ap hnI h0m h1m hu1 hu2 hln1 hln2 (if_pos hcz).symm (if_pos hcz).symm (HL.pop rMin_asym rMin_trans h2) (HH.pop rMax_asym rMax_trans (by omega)) ?l1 ?l2 ?l3 hl4 ?a2 ?a3 dil dih _ _ F' (News.sub N' ?_)
    case l1 => simp only [upL_length, List.length_set, List.length_dropLast]; omega
    case l2 => simp only [upL_length, List.length_set, List.length_dropLast]; omega
    case l3 => simp only [upL_length, List.length_set, List.length_dropLast]; omega
    case a2 => exact Nat.ne_of_gt (lB _ (.tail _ (.tail _ (.tail _ (.tail _ (.head _))))))
    case a3 => exact Nat.ne_of_gt (lB _ (.tail _ (.tail _ (.tail _ (.tail _ (.tail _ (.head _)))))))
    intro p hp
    simp only [List.mem_cons] at hp ⊢
    rcases hp with h | h | h | h | h | h | h | h | h | h <;> simp [h]
  · rename c = 1 => hco
    have hcz : ¬ c = 0 := by omega
    rw [ek, hX]
    refine call_out F₈ N₈ (Upd.head (rlo _ _ _ _ _ _ _ _)) (heapreplace (key := key) (base := Heap.hide _ lo) (fun b o e => Heap.of_hide e) (Wg.keeps (hide_keep F₈ (N₈ _ (.head _)).2.2)) (Heap.hide_self _ _) (N₈ _ (.head _)).1 ?d1 ?d2
      (fun x hx => hss.hide N₈ (fun p hp => .tail _ (.tail _ (.tail _ (.tail _ (.tail _ (.tail _ (.tail _ (.tail _ (.tail _ hp))))))))) ap.s_lo (HL.mem x hx)) (by omega) (by omega) (hss.hide N₈ (fun p hp => .tail _ (.tail _ (.tail _ (.tail _ (.tail _ (.tail _ (.tail _ (.tail _ (.tail _ hp))))))))) ap.s_lo hxm)) ?_
    case d1 => show _ + 12 < _; omega
    case d2 => show _ + 40 < _; omega
    clear F₈ N₈
    intro h₉ tk₉ F₉ N₉
    k_steps
    rw [ek, hX]
    refine call_out F₉ N₉ (Upd.tail ap.lo_hi (Upd.head (rhi _ _ _ _ _ _ _))) (heapreplaceX (key := key) (base := Heap.hide _ hi) (fun b o e => Heap.of_hide e) (Wg.keeps (hide_keep F₉ (N₉ _ (.tail _ (.head _))).2.2)) (Heap.hide_self _ _) (N₉ _ (.tail _ (.head _))).1 ?d3 ?d4
      (fun x hx => hss.hide N₉ (fun p hp => .tail _ (.tail _ (.tail _ (.tail _ (.tail _ (.tail _ (.tail _ (.tail _ (.tail _ hp))))))))) ap.s_hi (HH.mem x hx)) (by omega) (by omega) (hss.hide N₉ (fun p hp => .tail _ (.tail _ (.tail _ (.tail _ (.tail _ (.tail _ (.tail _ (.tail _ (.tail _ hp))))))))) ap.s_hi hxm)) ?_
    case d3 => show _ + 12 < _; omega
    case d4 => show _ + 40 < _; omega
    clear F₉ N₉
    intro hA tkA FA NA
    k_steps
    refine newList_K FA NA ?_
    clear FA NA
    intro td hB FB NB lB
    k_steps
    rename Fr _ _ _ _ => F'
    rename News _ _ _ _ => N'
    refine law_fin (n1 := n1) (n2 := n2) (n3 := n3) (n4 := n4) (nlA := nl ++ [((key X : Nat) : Int)]) (nhA := nh ++ [((key X : Nat) : Int)]) hb0 hs0 Wg hd hu hh hss ap hnI h0m h1m hu1 hu2 hln1 hln2 (if_neg hcz).symm (if_neg hcz).symm (HL.rep rMin_asym rMin_trans hpos hxm) (HH.rep rMax_asym rMax_trans hpos' hxm) ?l1 ?l2 ?l3 hl4 ?a2 ?a3 dil dih _ _ F' (News.sub N' ?_)
    case l1 => simp only [upL_length, List.length_set, List.length_dropLast]; omega
    case l2 => simp only [upL_length, List.length_set, List.length_dropLast]; omega
    case l3 => simp only [upL_length, List.length_set, List.length_dropLast]; omega
    case a2 => exact Nat.ne_of_gt (lB _ (.tail _ (.tail _ (.tail _ (.tail _ (.head _))))))
    case a3 => exact Nat.ne_of_gt (lB _ (.tail _ (.tail _ (.tail _ (.tail _ (.tail _ (.head _)))))))
    intro p hp
    simp only [List.mem_cons] at hp ⊢
    rcases hp with h | h | h | h | h | h | h | h | h | h <;> simp [h]
  · have hcz : ¬ c = 0 := by omega
    refine call_made F₈ N₈ (law_masks (key := key) F₈.keep Wg (N₈ _ (.tail _ (.tail _ (.head _)))).1 ?d1 ?d2 (fun x hx => hss.item N₈ (fun p hp => .tail _ (.tail _ (.tail _ (.tail _ (.tail _ (.tail _ (.tail _ (.tail _ (.tail _ hp))))))))) (by simp only [List.mem_cons, List.not_mem_nil, or_false] at hx; rcases hx with rfl | rfl <;> assumption)) (by simp) hh) ?_
    case d1 => show _ + 12 < _; omega
    case d2 => show _ + 40 < _; omega
    clear F₈ N₈
    rintro h₉ tk₉ D₉ o₉ ⟨vs₉, n₉, rfl, hvs₉⟩ hD9 F₉ N₉
    k_steps
    cases hb : ltM (key (ll.getD 0 default)) (key X) with
    | true =>
      refine call_still F₉ N₉ (law_within hb F₉.keep Wg ?d3 ?d4) ?_
      case d3 => show _ + 12 < _; omega
      case d4 => show _ + 40 < _; omega
      clear F₉ N₉
      intro hA tkA FA NA₀
      have NA := News.sub NA₀ (fun p hp => .tail _ hp)
      clear NA₀
      k_steps
      rw [ek, hX]
      have hpp := fun s' (hs : s'.heap = hA) => heappushpop (s := s') (prog := prog) (A := A) (E := Never) (key := key) (x := X) (base := Heap.hide hA lo) (fun b o e => hs ▸ Heap.of_hide e) (Wg.keeps (hide_keep FA (NA _ (.head _)).2.2)) (Heap.hide_self _ _) (hs ▸ (NA _ (.head _)).1) (by show _ + 12 < _; omega) (by show _ + 40 < _; omega)
        (fun x hx => hss.hide NA (fun p hp => .tail _ (.tail _ (.tail _ (.tail _ (.tail _ (.tail _ (.tail _ (.tail _ (.tail _ hp))))))))) ap.s_lo (HL.mem x hx)) (by omega) (by omega) hh (hss.hide NA (fun p hp => .tail _ (.tail _ (.tail _ (.tail _ (.tail _ (.tail _ (.tail _ (.tail _ (.tail _ hp))))))))) ap.s_lo hxm)
      simp only [hb, if_true] at hpp
      refine call_out FA NA (Upd.head (rlo _ _ _ _ _ _ _ _)) (hpp _ rfl) ?_
      clear FA NA hpp
      intro h₉ tk₉ F₉ N₉
      k_steps
      rw [ek, hX]
      refine call_out F₉ N₉ (Upd.tail ap.lo_hi (Upd.head (rhi _ _ _ _ _ _ _))) (heapreplaceX (key := key) (base := Heap.hide _ hi) (fun b o e => Heap.of_hide e) (Wg.keeps (hide_keep F₉ (N₉ _ (.tail _ (.head _))).2.2)) (Heap.hide_self _ _) (N₉ _ (.tail _ (.head _))).1 ?d7 ?d8
        (fun x hx => hss.hide N₉ (fun p hp => .tail _ (.tail _ (.tail _ (.tail _ (.tail _ (.tail _ (.tail _ (.tail _ (.tail _ hp))))))))) ap.s_hi (HH.mem x hx)) (by omega) (by omega) (hss.hide N₉ (fun p hp => .tail _ (.tail _ (.tail _ (.tail _ (.tail _ (.tail _ (.tail _ (.tail _ (.tail _ hp))))))))) ap.s_hi hxm)) ?_
      case d7 => show _ + 12 < _; omega
      case d8 => show _ + 40 < _; omega
      clear F₉ N₉
      intro hD tkD FD ND
      k_steps
      refine newList_K FD ND ?_
      clear FD ND
      intro td hB FB NB lB
      k_steps
      rw [ek, hX]
      rename Fr _ _ _ _ => F'
      rename News _ _ _ _ => N'
      obtain ⟨ox, hox, iox⟩ := hss _ h0m
      obtain ⟨oy, hoy, ioy⟩ := hss _ hxm
      refine kto_is (N' _ (.tail _ (.tail _ (.tail _ (.tail _ (.tail _ (.tail _ (.tail _ (.tail _ (.tail _ (.tail _ hox))))))))))).1 (N' _ (.tail _ (.tail _ (.tail _ (.tail _ (.tail _ (.tail _ (.tail _ (.tail _ (.tail _ (.tail _ hoy))))))))))).1 ?ne iox.noTuple ?_
      case ne =>
        intro e
        rw [e, ltM_self] at hb
        cases hb
      k_steps
      refine law_fin (n1 := n1) (n2 := n2) (n3 := n3) (n4 := n4) (nlA := nl ++ [((key X : Nat) : Int)]) (nhA := nh ++ [((key X : Nat) : Int)]) hb0 hs0 Wg hd hu hh hss ap hnI h0m h1m hu1 hu2 hln1 hln2 (if_neg hcz).symm (if_neg hcz).symm (HL.rep rMin_asym rMin_trans hpos hxm) (HH.rep rMax_asym rMax_trans hpos' hxm) ?l1 ?l2 ?l3 hl4 ?a2 ?a3 dil dih _ _ F' (News.sub N' ?_)
      case l1 => simp only [upL_length, List.length_set, List.length_dropLast]; omega
      case l2 => simp only [upL_length, List.length_set, List.length_dropLast]; omega
      case l3 => simp only [upL_length, List.length_set, List.length_dropLast]; omega
      case a2 => exact Nat.ne_of_gt (lB _ (.tail _ (.tail _ (.tail _ (.tail _ (.head _))))))
      case a3 => exact Nat.ne_of_gt (lB _ (.tail _ (.tail _ (.tail _ (.tail _ (.tail _ (.head _)))))))
      intro p hp
      simp only [List.mem_cons] at hp ⊢
      rcases hp with h | h | h | h | h | h | h | h | h | h <;> simp [h]
    | false =>
      refine call_still F₉ N₉ (law_within hb F₉.keep Wg ?d5 ?d6) ?_
      case d5 => show _ + 12 < _; omega
      case d6 => show _ + 40 < _; omega
      clear F₉ N₉
      intro hA tkA FA NA₀
      have NA := News.sub NA₀ (fun p hp => .tail _ hp)
      clear NA₀
      k_steps
      rw [ek, hX]
      refine ref_set (k := 0) (l := [ll.getD 0 default, lh.getD 0 default]) (n := 0) FA NA (Upd.tail (Ne.symm dlo) (Upd.tail (Ne.symm dhi) (Upd.head ?u1))) (by omega) (by simp) (by omega) ?_
      case u1 =>
        intro p hp
        simp only [List.mem_cons] at hp
        rcases hp with rfl | rfl | rfl | rfl | rfl | rfl | hp
        · exact sdu
        · exact Ne.symm dil
        · exact Ne.symm dih
        · exact hdu _ (by simp)
        · exact hdu _ (by simp)
        · exact hdu _ (by simp)
        · exact hdu _ (List.mem_append_right _ (List.mem_map_of_mem hp))
      clear FA NA
      intro hC FC NC₀
      have NC : News g L hC ((lo, refsOf ll n1) :: (hi, refsOf lh n2) :: (du, refsOf [X, lh.getD 0 default] 0) :: (st, refsOf ll c₇) :: (il, listOf u1.toArray n3) :: (ih, listOf u2.toArray n4) :: (I, oI) :: (it, refsOf as n₀) :: (nm, listOf ws.toArray 0) :: sets) := NC₀
      clear NC₀
      k_steps
      rw [ek, hX]
      have hpp := fun s' (hs : s'.heap = hC) => heappushpop (s := s') (prog := prog) (A := A) (E := Never) (key := key) (x := X) (base := Heap.hide hC lo) (fun b o e => hs ▸ Heap.of_hide e) (Wg.keeps (hide_keep FC (NC _ (.head _)).2.2)) (Heap.hide_self _ _) (hs ▸ (NC _ (.head _)).1) (by show _ + 12 < _; omega) (by show _ + 40 < _; omega)
        (fun x hx => hss.hide NC (fun p hp => .tail _ (.tail _ (.tail _ (.tail _ (.tail _ (.tail _ (.tail _ (.tail _ (.tail _ hp))))))))) ap.s_lo (HL.mem x hx)) (by omega) (by omega) hh (hss.hide NC (fun p hp => .tail _ (.tail _ (.tail _ (.tail _ (.tail _ (.tail _ (.tail _ (.tail _ (.tail _ hp))))))))) ap.s_lo hxm)
      simp only [hb, Bool.false_eq_true, if_false] at hpp
      refine call_out FC NC (Upd.head (rlo _ _ _ _ _ _ _ _)) (hpp _ rfl) ?_
      clear FC NC hpp
      intro h₉ tk₉ F₉ N₉
      k_steps
      rw [ek, hX]
      refine call_out F₉ N₉ (Upd.tail ap.lo_hi (Upd.head (rhi _ _ _ _ _ _ _))) (heapreplaceX (key := key) (base := Heap.hide _ hi) (fun b o e => Heap.of_hide e) (Wg.keeps (hide_keep F₉ (N₉ _ (.tail _ (.head _))).2.2)) (Heap.hide_self _ _) (N₉ _ (.tail _ (.head _))).1 ?d7 ?d8
        (fun x hx => hss.hide N₉ (fun p hp => .tail _ (.tail _ (.tail _ (.tail _ (.tail _ (.tail _ (.tail _ (.tail _ (.tail _ hp))))))))) ap.s_hi (HH.mem x hx)) (by omega) (by omega) (hss.hide N₉ (fun p hp => .tail _ (.tail _ (.tail _ (.tail _ (.tail _ (.tail _ (.tail _ (.tail _ (.tail _ hp))))))))) ap.s_hi hxm)) ?_
      case d7 => show _ + 12 < _; omega
      case d8 => show _ + 40 < _; omega
      clear F₉ N₉
      intro hD tkD FD ND
      k_steps
      refine newList_K FD ND ?_
      clear FD ND
      intro td hB FB NB lB
      k_steps
      rw [ek, hX]
      rename Fr _ _ _ _ => F'
      rename News _ _ _ _ => N'
      refine wpAny_is_ref_self ?_
      k_steps
      refine ne_same (N' _ (.tail _ (.head _))).1 (N' _ (.tail _ (.tail _ (.tail _ (.tail _ (.head _)))))).1 (by omega) ?_
      k_steps
      refine law_fin (n1 := n1) (n2 := n2) (n3 := n3) (n4 := n4) (nlA := nl ++ [((key X : Nat) : Int)]) (nhA := nh ++ [((key X : Nat) : Int)]) hb0 hs0 Wg hd hu hh hss ap hnI hxm h1m hu1 hu2 hln1 hln2 (if_neg hcz).symm (if_neg hcz).symm HL.same (HH.rep rMax_asym rMax_trans hpos' hxm) ?l1 ?l2 ?l3 hl4 ?a2 ?a3 dil dih _ _ F' (News.sub N' ?_)
      case l1 => simp only [upL_length, List.length_set, List.length_dropLast]; omega
      case l2 => omega
      case l3 => omega
      case a2 => exact Nat.ne_of_gt (lB _ (.tail _ (.tail _ (.tail _ (.tail _ (.head _))))))
      case a3 => exact Nat.ne_of_gt (lB _ (.tail _ (.tail _ (.tail _ (.tail _ (.tail _ (.head _)))))))
      intro p hp
      simp only [List.mem_cons] at hp ⊢
      rcases hp with h | h | h | h | h | h | h | h | h | h <;> simp [h]
end Mine
namespace Mine
local macro_rules | `(tactic| walk_at "subscriptTail") => `(tactic| (k_here; (with_reducible show wpAny _ _ (subscriptTail _ _ (Value.ref _) (Value.int _ _)) _ _ _); (with_unfolding_all refine' ref_get ?k1 ?k2 ?k3 ?k4 ?_ ?k6 ?k7; (case k1 => exact News.get (by k_asm) (by k_mem)); (case k2 => omega); (case k3 => (try simp only [List.length_dropLast, List.length_set]); omega); (case k4 => omega); (case k6 => with_unfolding_all rfl); (case k7 => intro _; with_unfolding_all rfl); k_whole)))
local macro_rules | `(tactic| walk_at "setItem ref int") => `(tactic| (k_here; (with_reducible show wpAny _ _ (setItem (Value.ref _) (Value.int _ _) (Value.ref _)) _ _ _); k_dflt (refine' ref_set ?k1 ?k2 ?k3 ?k4 ?k5 ?k6 ?_; (case k1 => k_asm); (case k2 => k_asm); (case k3 => k_upd); (case k4 => omega); (case k5 => (try simp only [List.length_dropLast, List.length_set]); omega); (case k6 => omega); k_whole); intro h' F' N'; (try k_sweep)))
local macro_rules | `(tactic| walk_at "compareOp Lt ref") => `(tactic| (k_here; (with_reducible show wpAny _ _ (compareOp CmpOp.Lt (Value.ref _) (Value.ref _)) _ _ _); refine' item_lt ?k1 ?k2 ?k3 ?_; (case k1 => first | exact item_at (by assumption) (by assumption) (by omega) | exact item_on (by assumption) (by assumption)); (case k2 => first | exact item_at (by assumption) (by assumption) (by omega) | exact item_on (by assumption) (by assumption)); (case k3 => show _ + 3 < _; omega)))
local macro_rules | `(tactic| walk_at "storeName") => `(tactic| (k_here; k_dflt (refine' stO ?F ?N ?_ ?a ?b; (case F => k_asm); (case N => k_asm); (case a => rfl); (case b => rfl); k_whole; intro h' F' N'; (try k_sweep))))
local macro_rules | `(tactic| walk_at "binaryOp RShift int int") => `(tactic| (with_reducible refine rsh1 ?_))
local macro_rules | `(tactic| walk_at "exec") => `(tactic| ((with_reducible show wpAny _ _ (exec (Stmt.While _ _ _ _) _) _ _ _); refine of_stop ?_))

local macro_rules | `(tactic| walk_at "call ref") => `(tactic| ((with_reducible show wpAny _ _ (call (Value.ref _) _) _ _ _); refine of_stop ?_))
local macro_rules | `(tactic| walk_at "call builtin:len") => `(tactic| (k_here; (with_reducible show wpAny _ _ (call (Value.builtin "len") [Value.ref _]) _ _ _); refine' ref_len ?k1 ?k2 ?_; (case k1 => exact News.get (by k_asm) (by k_mem)); (case k2 => omega)))
local macro_rules | `(tactic| walk_at "call builtin:list.pop") => `(tactic| (k_here; (with_reducible show wpAny _ _ (call (Value.builtin _) [Value.ref _]) _ _ _); k_dflt (refine' ref_pop ?F ?N ?U ?l ?z ?_; (case F => k_asm); (case N => k_asm); (case U => k_upd); (case l => omega); (case z => omega)); (intro h' F' N'; (try k_sweep))))
local macro_rules | `(tactic| walk_at "truthy ref") => `(tactic| (k_here; (with_reducible show wpAny _ _ (truthy (Value.ref _)) _ _ _); refine' ref_truthy ?k1 ?k2 ?k3 ?_; (case k1 => exact News.get (by k_asm) (by k_mem)); (case k2 => (try simp only [List.length_dropLast, List.length_set]); omega); (case k3 => (try simp only [List.length_dropLast, List.length_set]); omega)))
local macro_rules | `(tactic| walk_at "exec") => `(tactic| ((with_reducible show wpAny _ _ (exec (Stmt.For _ _ _ _ _) _) _ _ _); refine of_stop ?_))
local macro_rules | `(tactic| walk_at "exec For Name Call cons nil") => `(tactic| (refine of_stop ?_))
local macro_rules | `(tactic| walk_at "binaryOp FloorDiv int int") => `(tactic| ((with_reducible refine fdivE ?k1 ?k2 ?_); (case k1 => omega); (case k2 => omega)))
local macro_rules | `(tactic| walk_at "binaryOp Mod int int") => `(tactic| ((with_reducible refine fmodE ?k1 ?_); (case k1 => omega)))
local macro_rules | `(tactic| walk_at "subscriptTail Name Slice ref ref") => `(tactic| (refine of_stop ?_))
local macro_rules | `(tactic| walk_at "call type:list") => `(tactic| (refine of_stop ?_))
local macro_rules | `(tactic| walk_at "newList") => `(tactic| (refine of_stop ?_))
local macro_rules | `(tactic| walk_at "setItem ref int") => `(tactic| (refine of_stop ?_))
local macro_rules | `(tactic| walk_at "call builtin:list.append") => `(tactic| (refine of_stop ?_))
local macro_rules | `(tactic| walk_at "call builtin:list.remove") => `(tactic| (refine of_stop ?_))
local macro_rules | `(tactic| walk_at "execs cons If cons") => `(tactic| ((with_reducible show wpAny _ _ (execs [Stmt.If _ _ _ _, Stmt.If _ _ _ _, Stmt.Expr _ _, Stmt.Expr _ _] _) _ _ _); refine of_stop ?_))
local macro_rules | `(tactic| walk_at "execs cons If cons") => `(tactic| ((with_reducible show wpAny _ _ (execs [Stmt.If _ _ _ _, Stmt.If _ _ _ _, Stmt.If _ _ _ _, Stmt.Expr _ _, Stmt.Expr _ _] _) _ _ _); refine of_stop ?_))
local macro_rules | `(tactic| walk_at "compareOp NotEq ref ref") => `(tactic| (refine of_stop ?_))

theorem law_turn {prog : Program} {w : World} {A : Around} {s : Shared} {mg mb : Str → Option Value} {g : Heap} {L I : Addr} {body : List Stmt} {scope : Scope} {sc nm it lo hi il ih : Addr} {count n₀ : Nat} {ws : List Value} {ns nums : List Int} {as : List Addr} {key : Addr → Nat} {sets : List (Addr × Obj)} {Q : Flow → Shared → Prop}
    (hbody : forBodyOf ((hd.heap_39 w.params).lookup 115) = body) (hscope : scopeOf ((hd.heap_39 w.params).lookup 115) = scope)
    (Wg : Wd w mg mb g) (hd : A.depth + 30 < recursionLimit) (hu : A.units + 150 < cLine) (hh : A.handled = none)
    (hI : IntsAre ws nums) (hnums : ns ++ [12, 4, 2, 7, 1, 67, 134, 190] = nums) (hlen : ns.length ≤ 63) (hcnt : count = (nums.length + 1) / 2) (hasl : as.length = nums.length) (hss : SetsIn prog w as key sets) (ap : Apart lo hi il ih it nm sets)
    (hQ : ∀ h tk m, Fr g L h m → Q (.ret (.bool true)) { s with heap := h, toks := tk })
    (i : Nat) (t : Tok) (M₁ : List (Str × Option Value)) (news₁ : List (Addr × Obj)) (oI : Obj) (h : Heap) (tk : Nat) (hi' : i < nums.length + 1 - count) (hJ : LawInv sc nm it lo hi il ih count n₀ ws as key sets i M₁ news₁) (hnI : ∀ p ∈ news₁, p.1 ≠ I)
    (F₁ : Fr g L h (mapO (putO "k" (.int (((count : Nat) : Int) + (i : Nat) * 1) t) M₁))) (N₁ : News g L h ((I, oI) :: news₁)) :
    wpAny (model prog w) A (execs body (envOf "law" scope L 115 (.ref 114))) (fun f s₃ => match f with
      | .next | .cont => TurnEnd g L I oI s (LawInv sc nm it lo hi il ih count n₀ ws as key sets (i + 1)) s₃
      | .brk => Q .next s₃
      | .ret v => Q (.ret v) s₃) Never { s with heap := h, toks := tk } := by
  have hb0 := hbody
  have hs0 := hscope
  refine' turn_of hbody hscope ?k6 ?_
  case k6 => k_is
  clear hbody hscope
  intro hbody hscope
  simp only [forBodyOf, scopeOf, List.getLast?_cons_cons, List.getLast?_singleton] at hbody hscope
  subst hbody hscope
  have KX := Wg.k
  have T := Wg.t
  obtain ⟨tc, k, call, mask, due, stay, told, n1, n2, n3, n4, ll, lh, u1, u2, nl, nh, rfl, rfl, hjw, hu1, hu2, hlen1, hlen2, hlen3, HL, HH⟩ := hJ
  have hnl : nums.length = ns.length + 8 := by rw [← hnums, List.length_append]; rfl
  have hsub : ∀ p ∈ sets, p ∈ (I, oI) :: (lo, refsOf ll n1) :: (hi, refsOf lh n2) :: (il, listOf u1.toArray n3) :: (ih, listOf u2.toArray n4) :: (it, refsOf as n₀) :: (nm, listOf ws.toArray 0) :: sets := fun p hp => .tail _ (.tail _ (.tail _ (.tail _ (.tail _ (.tail _ (.tail _ hp))))))
  have hl36 : ll.length < 64 := by omega
  have hl36' : lh.length < 64 := by omega
  k_steps
  refine call_still F₁ N₁ (law_stands (key := key) (high := false) F₁.keep Wg (N₁ _ (.tail _ (.head _))).1 (N₁ _ (.tail _ (.tail _ (.tail _ (.head _))))).1 hu1 (by omega) (by omega) (fun x hx => hss.item N₁ hsub (HL.mem x hx)) hl36 hh (fun k h0 hk => HL.heap k h0 hk (Nat.zero_le _)) HL.perm) ?_
  clear F₁ N₁
  intro h₂ tk₂ F₂ N₂
  k_steps
  refine call_still F₂ N₂ (law_stands (key := key) (high := true) F₂.keep Wg (N₂ _ (.tail _ (.tail _ (.head _)))).1 (N₂ _ (.tail _ (.tail _ (.tail _ (.tail _ (.head _)))))).1 hu2 (by omega) (by omega) (fun x hx => hss.item N₂ hsub (HH.mem x hx)) hl36' hh (fun k h0 hk => HH.heap k h0 hk (Nat.zero_le _)) HH.perm) ?_
  clear F₂ N₂
  intro h₃ tk₃ F₃ N₃
  k_steps
  · rename _ = ((nums.length : Nat) : Int) => he
    exact hQ _ _ _ F₃
  rename _ ≠ ((nums.length : Nat) : Int) => hne
  rename Fr _ _ _ _ => F'
  rename News _ _ _ _ => N'
  have hik : count + i < nums.length := by omega
  have hpos : 0 < ll.length := by omega
  have hpos' : 0 < lh.length := by omega
  have ek : (((count : Nat) : Int) + (i : Nat) * 1).toNat = count + i := by omega
  rw [ek]
  have hxm : as.getD (count + i) default ∈ as := getD_mem (by omega)
  generalize hX : as.getD (count + i) default = X at *
  refine newList_K F' N' ?_
  clear F' N'
  intro q1 h₄ F₄ N₄ l₄
  k_steps
  refine call_made F₄ N₄ (law_masks (l := [X]) (n := 0) (key := key) F₄.keep Wg (N₄ _ (.head _)).1 ?d1 ?d2 (fun x hx => hss.item N₄ (fun p hp => .tail _ (hsub p hp)) (by rw [List.mem_singleton.mp hx]; exact hxm)) (by simp) hh) ?_
  case d1 => show _ + 12 < _; omega
  case d2 => show _ + 40 < _; omega
  have hq1 : q1 ≠ lo := Nat.ne_of_gt (l₄ _ (.tail _ (.head _)))
  have hq2 : q1 ≠ hi := Nat.ne_of_gt (l₄ _ (.tail _ (.tail _ (.head _))))
  clear F₄ N₄ l₄
  rintro h₅ tk₅ D₅ o₅ ⟨vs₅, n₅, rfl, hvs₅⟩ hD5 F₅ N₅
  k_steps
  rename Fr _ _ _ _ => F'
  rename News _ _ _ _ => N'
  refine newList_K F' N' ?_
  clear F' N'
  intro du h₆ F₆ N₆ l₆
  k_steps
  rename Fr _ _ _ _ => F'
  rename News _ _ _ _ => N'
  refine list_copyK F' N' (items := (ll.map Value.ref).toArray) ⟨_, (N' _ (.tail _ (.tail _ (.tail _ (.tail _ (.head _)))))).1, rfl, n1, rfl⟩ ?_ (by simp; rw [sizeLine_eq]; omega)
  clear F' N'
  intro st c₇ h₇ F₇ N₇ l₇
  k_steps
  rename Fr _ _ _ _ => F'
  rename News _ _ _ _ => N'
  rename Heap => hN
  rw [ek] at F'
  have hcc : ∃ c : Int, nums.getD (count + i) 0 / 64 % 3 = c := ⟨_, rfl⟩
  obtain ⟨c, hc⟩ := hcc
  obtain ⟨kv, tb, te, F₈⟩ : ∃ kv tb te, Fr g L hN (mapO (lawM sc nm it count tc (some (.ref lo)) (some (.ref hi)) (some (.ref il)) (some (.ref ih)) (some (.int (((count : Nat) : Int) + (i : Nat) * 1) kv)) (some (.int c tb)) (some (.int ((key X : Nat) : Int) te)) (some (.ref du)) (some (.ref st)) told)) := ⟨_, _, _, by rw [← hc]; exact F'⟩
  have N₈ : News g L hN ((lo, refsOf ll n1) :: (hi, refsOf lh n2) :: (du, refsOf [ll.getD 0 default, lh.getD 0 default] 0) :: (st, refsOf ll c₇) :: (il, listOf u1.toArray n3) :: (ih, listOf u2.toArray n4) :: (I, oI) :: (it, refsOf as n₀) :: (nm, listOf ws.toArray 0) :: sets) := News.sub N' (by
      intro p hp
      simp only [List.mem_cons] at hp ⊢
      rcases hp with h | h | h | h | h | h | h | h | h | h <;> simp [h])
  have dlo : du ≠ lo := Nat.ne_of_gt (l₆ _ (.tail _ (.tail _ (.tail _ (.head _)))))
  have dhi : du ≠ hi := Nat.ne_of_gt (l₆ _ (.tail _ (.tail _ (.tail _ (.tail _ (.head _))))))
  have dil : du ≠ il := Nat.ne_of_gt (l₆ _ (.tail _ (.tail _ (.tail _ (.tail _ (.tail _ (.head _)))))))
  have dih : du ≠ ih := Nat.ne_of_gt (l₆ _ (.tail _ (.tail _ (.tail _ (.tail _ (.tail _ (.tail _ (.head _))))))))
  have sdu : st ≠ du := Nat.ne_of_gt (l₇ _ (.head _))
  have slo : st ≠ lo := Nat.ne_of_gt (l₇ _ (.tail _ (.tail _ (.tail _ (.tail _ (.head _))))))
  have shi : st ≠ hi := Nat.ne_of_gt (l₇ _ (.tail _ (.tail _ (.tail _ (.tail _ (.tail _ (.head _)))))))
  have dni : ∀ a ∈ [I, it, nm] ++ sets.map (·.1), a ≠ du := by
    intro a ha
    simp only [List.mem_append, List.mem_cons, List.not_mem_nil, or_false, List.mem_map] at ha
    rcases ha with (rfl | rfl | rfl) | ⟨p, hp, rfl⟩
    · exact Nat.ne_of_lt (l₆ _ (.tail _ (.tail _ (.head _))))
    · exact Nat.ne_of_lt (l₆ _ (.tail _ (.tail _ (.tail _ (.tail _ (.tail _ (.tail _ (.tail _ (.head _)))))))))
    · exact Nat.ne_of_lt (l₆ _ (.tail _ (.tail _ (.tail _ (.tail _ (.tail _ (.tail _ (.tail _ (.tail _ (.head _))))))))))
    · exact Nat.ne_of_lt (l₆ _ (.tail _ (.tail _ (hsub p hp))))
  have hnI' : ∀ p ∈ [lo, hi, il, ih, it, nm] ++ sets.map (·.1), p ≠ I := by
    intro a ha
    simp only [List.mem_append, List.mem_cons, List.not_mem_nil, or_false, List.mem_map] at ha
    rcases ha with (rfl | rfl | rfl | rfl | rfl | rfl) | ⟨p, hp, rfl⟩
    · exact hnI _ (.head _)
    · exact hnI _ (.tail _ (.head _))
    · exact hnI _ (.tail _ (.tail _ (.head _)))
    · exact hnI _ (.tail _ (.tail _ (.tail _ (.head _))))
    · exact hnI _ (.tail _ (.tail _ (.tail _ (.tail _ (.head _)))))
    · exact hnI _ (.tail _ (.tail _ (.tail _ (.tail _ (.tail _ (.head _))))))
    · exact hnI p (.tail _ (.tail _ (.tail _ (.tail _ (.tail _ (.tail _ hp))))))
  have hwl : ws.length = nums.length := hI.length
  have hc0 : c = 0 → 2 ≤ ll.length := by
    intro hz
    rw [hz] at hc
    have hb4 : ¬ ns.length + 5 ≤ count + i := by
      intro hge
      have e : ∀ j, nums.getD (ns.length + j) 0 = [12, 4, 2, 7, 1, 67, 134, 190].getD j 0 := by
        intro j
        rw [← hnums, List.getD_eq_getElem?_getD, List.getD_eq_getElem?_getD, List.getElem?_append_right (by omega), Nat.add_sub_cancel_left]
      obtain ⟨j, hj⟩ : ∃ j, count + i = ns.length + 5 + j := ⟨count + i - (ns.length + 5), by omega⟩
      rw [hj, Nat.add_assoc, e] at hc
      have hj3 : j < 3 := by omega
      match j, hj3 with
      | 0, _ => exact absurd hc (by decide)
      | 1, _ => exact absurd hc (by decide)
      | 2, _ => exact absurd hc (by decide)
    omega
  exact law_mid (congrArg (List.drop 6) hb0) hs0 Wg hd hu hh hss ap hnI' hX hxm (by omega) (by omega) hu1 hu2 HL HH hlen1 hlen2 hlen3 (by omega) hpos hc0 dlo dhi dil dih sdu slo shi dni _ _ F₈ N₈
end Mine
namespace Mine
local macro_rules | `(tactic| walk_at "subscriptTail") => `(tactic| (k_here; (with_reducible show wpAny _ _ (subscriptTail _ _ (Value.ref _) (Value.int _ _)) _ _ _); (with_unfolding_all refine' ref_get ?k1 ?k2 ?k3 ?k4 ?_ ?k6 ?k7; (case k1 => exact News.get (by k_asm) (by k_mem)); (case k2 => omega); (case k3 => (try simp only [List.length_dropLast, List.length_set]); omega); (case k4 => omega); (case k6 => with_unfolding_all rfl); (case k7 => intro _; with_unfolding_all rfl); k_whole)))
local macro_rules | `(tactic| walk_at "setItem ref int") => `(tactic| (k_here; (with_reducible show wpAny _ _ (setItem (Value.ref _) (Value.int _ _) (Value.ref _)) _ _ _); k_dflt (refine' ref_set ?k1 ?k2 ?k3 ?k4 ?k5 ?k6 ?_; (case k1 => k_asm); (case k2 => k_asm); (case k3 => k_upd); (case k4 => omega); (case k5 => (try simp only [List.length_dropLast, List.length_set]); omega); (case k6 => omega); k_whole); intro h' F' N'; (try k_sweep)))
local macro_rules | `(tactic| walk_at "compareOp Lt ref") => `(tactic| (k_here; (with_reducible show wpAny _ _ (compareOp CmpOp.Lt (Value.ref _) (Value.ref _)) _ _ _); refine' item_lt ?k1 ?k2 ?k3 ?_; (case k1 => first | exact item_at (by assumption) (by assumption) (by omega) | exact item_on (by assumption) (by assumption)); (case k2 => first | exact item_at (by assumption) (by assumption) (by omega) | exact item_on (by assumption) (by assumption)); (case k3 => show _ + 3 < _; omega)))
local macro_rules | `(tactic| walk_at "storeName") => `(tactic| (k_here; k_dflt (refine' stO ?F ?N ?_ ?a ?b; (case F => k_asm); (case N => k_asm); (case a => rfl); (case b => rfl); k_whole; intro h' F' N'; (try k_sweep))))
local macro_rules | `(tactic| walk_at "binaryOp RShift int int") => `(tactic| (with_reducible refine rsh1 ?_))
local macro_rules | `(tactic| walk_at "exec") => `(tactic| ((with_reducible show wpAny _ _ (exec (Stmt.While _ _ _ _) _) _ _ _); refine of_stop ?_))

local macro_rules | `(tactic| walk_at "call ref") => `(tactic| ((with_reducible show wpAny _ _ (call (Value.ref _) _) _ _ _); refine of_stop ?_))
local macro_rules | `(tactic| walk_at "call builtin:len") => `(tactic| (k_here; (with_reducible show wpAny _ _ (call (Value.builtin "len") [Value.ref _]) _ _ _); refine' ref_len ?k1 ?k2 ?_; (case k1 => exact News.get (by k_asm) (by k_mem)); (case k2 => omega)))
local macro_rules | `(tactic| walk_at "call builtin:list.pop") => `(tactic| (k_here; (with_reducible show wpAny _ _ (call (Value.builtin _) [Value.ref _]) _ _ _); k_dflt (refine' ref_pop ?F ?N ?U ?l ?z ?_; (case F => k_asm); (case N => k_asm); (case U => k_upd); (case l => omega); (case z => omega)); (intro h' F' N'; (try k_sweep))))
local macro_rules | `(tactic| walk_at "truthy ref") => `(tactic| (k_here; (with_reducible show wpAny _ _ (truthy (Value.ref _)) _ _ _); refine' ref_truthy ?k1 ?k2 ?k3 ?_; (case k1 => exact News.get (by k_asm) (by k_mem)); (case k2 => (try simp only [List.length_dropLast, List.length_set]); omega); (case k3 => (try simp only [List.length_dropLast, List.length_set]); omega)))
local macro_rules | `(tactic| walk_at "exec") => `(tactic| ((with_reducible show wpAny _ _ (exec (Stmt.For _ _ _ _ _) _) _ _ _); refine of_stop ?_))
local macro_rules | `(tactic| walk_at "exec For Name Call cons nil") => `(tactic| (refine of_stop ?_))
local macro_rules | `(tactic| walk_at "binaryOp FloorDiv int int") => `(tactic| ((with_reducible refine fdivE ?k1 ?k2 ?_); (case k1 => omega); (case k2 => omega)))
local macro_rules | `(tactic| walk_at "binaryOp Mod int int") => `(tactic| ((with_reducible refine fmodE ?k1 ?_); (case k1 => omega)))
local macro_rules | `(tactic| walk_at "subscriptTail Name Slice ref ref") => `(tactic| (refine of_stop ?_))
theorem key_of : ∀ {as : List Addr} (f : Nat → Nat), as.Nodup → ∃ key : Addr → Nat, ∀ j, j < as.length → key (as.getD j default) = f j
  | [], _, _ => ⟨fun _ => 0, fun _ h => absurd h (Nat.not_lt_zero _)⟩
  | a :: as, f, h => by
    obtain ⟨h1, h2⟩ := List.nodup_cons.mp h
    obtain ⟨key, hk⟩ := key_of (fun j => f (j + 1)) h2
    refine ⟨fun b => if b = a then f 0 else key b, fun j hj => ?_⟩
    cases j with
    | zero => show (if a = a then f 0 else _) = _; rw [if_pos rfl]
    | succ j =>
      have hj' : j < as.length := Nat.lt_of_succ_lt_succ hj
      show (if as.getD j default = a then f 0 else key (as.getD j default)) = f (j + 1)
      rw [if_neg (fun (e : as.getD j default = a) => h1 (e ▸ getD_mem hj')), hk j hj']

local macro_rules | `(tactic| walk_at "call type:list") => `(tactic| (refine of_stop ?_))

def CompJ (prog : Program) (w : World) (h₀ : Heap) (nums : List Int) (W : List Addr) (i : Nat) (ys : List Value) (h : Heap) : Prop :=
  ∃ as : List Addr, ys = as.map Value.ref ∧ as.length = i ∧ as.Nodup ∧ (∀ a ∈ as, a ∉ W ∧ h₀.get? a = none) ∧ ∀ j, j < i → IsItem prog w h (as.getD j default) (mk (nums.getD j 0))

theorem law_call {prog : Program} {w : World} {A : Around} {s : Shared} {mg mb : Str → Option Value} {sc : Addr} {vs : List Value} {ns : List Int} {R : Result → Shared → Prop}
    (W : Wd w mg mb s.heap) (hl : s.heap.IsList sc vs.toArray) (hns : IntsAre vs ns) (hlen : ns.length ≤ 63)
    (hd : A.depth + 40 < recursionLimit) (hu : A.units + 200 < cLine) (hh : A.handled = none)
    (hR : ∀ s', Out s [] [] s' → R (.ok (.ret (.bool true))) s') :
    codeAny (model prog w) A (.call (.ref 115) ⟨[.ref sc], []⟩) R s := by
  refine' enterC (binds := [("script", .ref sc)]) ["numbers", "items", "count", "low", "high", "in_low", "in_high", "k", "call", "mask", "due", "stay", "told"] [] s.heap (fun _ _ e => e) ?h1 ?h2 W.k W.t.nolimit ?k6 ?k7 ?k8 ?k9 ?kB ?_ ?nd ?c2 ?c3 ?c4 ?c5
  case k6 => k_is
  case k7 => k_is
  case k8 => omega
  case k9 => exact BindsTo.of_eq rfl
  case c5 => decide
  case kB => exact locs rfl
  case nd => exact of_decide_eq_true rfl
  case c2 => exact rfl
  case c3 => exact rfl
  case c4 => exact rfl
  case h1 => exact fun p hp => nomatch hp
  case h2 => exact fun p hp => nomatch hp
  intro g L h₁ hg hgn F N hgs
  have Wg := W.keeps hg
  have KX := Wg.k
  have T := Wg.t
  have hlg : g.IsList sc vs.toArray := let ⟨o, ho, r⟩ := hl; ⟨o, hg _ _ ho, r⟩
  simp only [List.map_cons, List.map_nil, List.cons_append, List.nil_append] at F
  try dsimp only
  k_steps
  rename Fr _ _ _ _ => F'
  rename News _ _ _ _ => N'
  rename IntsAre _ (_ ++ _) => hI
  rename List Value => ws
  rename Heap => hA
  rename_i nm _ _
  generalize hnums : ns ++ [12, 4, 2, 7, 1, 67, 134, 190] = nums at hI
  have hm1 : mg "set" = none := mg_none_of Wg.k Wg.t.g (by k_is)
  have hm2 : mg "range" = none := mg_none_of Wg.k Wg.t.g (by k_is)
  have hwl : ws.length = nums.length := hI.length
  have hnl : nums.length = ns.length + 8 := by rw [← hnums, List.length_append]; rfl
  refine assignComp_cell (CompJ prog w hA nums) rfl rfl rfl rfl (by decide) rfl rfl F'.ns hh ⟨_, (N' _ (.head _)).1, rfl, 0, rfl⟩ (by rw [List.size_toArray, sizeLine_eq]; omega) ?i1 ?i2 ?i3 ?_ ?_
  case i1 => intro Q' hq; exact ld F' rfl hq
  case i2 => exact fun W h _ => ⟨[], rfl, rfl, List.nodup_nil, fun _ h => (nomatch h), fun _ h => absurd h (Nat.not_lt_zero _)⟩
  case i3 =>
    rintro W i ys h h' ⟨as, rfl, hlas, hnd, hfr, hit⟩ hk
    refine ⟨as, rfl, hlas, hnd, hfr, fun j hj => (hit j hj).keeps fun o e => hk _ o (hfr _ (getD_mem (by omega))).1 (fun q => ?_) e⟩
    have hL := (hfr _ (getD_mem (by omega : j < as.length))).2
    obtain ⟨oL, _, _, hoL, _⟩ := F'.ns
    rw [q] at hL
    rw [show hA.get? L = _ from hL] at hoL
    cases hoL
  · rintro W C c i v ys h tk hv ⟨as, rfl, hlas, hnd, hfr, hit⟩ hc hW hk
    obtain ⟨t, rfl⟩ := IntsAre.int_at hI i v (by rw [← List.getElem?_toArray]; exact hv)
    have T' : TT mg mb h := Wg.t.keeps fun b o e => hk b o (F'.keep b o e)
    refine eval_type1 (fun Q' hq => name_boot T' hm1 boot_set (by decide) hq rfl rfl rfl rfl (by decide)) ?_ rfl
    refine comp6 (cl := [("x", c)]) (fun b => (mk (nums.getD i 0)).testBit b) (fun k => ((k : Nat) : Int)) hh rfl (by decide) rfl (by decide) rfl (fun Q' hq => name_boot T' hm2 boot_range (by decide) hq rfl rfl rfl rfl (by decide)) ?_ ?_ ?_
    · intro C' k t' s₃ m₃ E' hk6 hns3 hm3 hk3
      have hc3 : s₃.heap.IsCell c (some (.int (nums.getD i 0) t)) := hc.keeps hk3
      have hp := pow2_small ⟨k, hk6⟩
      refine wpAny_tests_one (wpAny_isTrue_Compare1 (wpAny_BinOp (wpAny_BinOp (ldCellK rfl hc3 (wpAny_BinOp (wpAny_Constant_int (ldVarK (s := { s₃ with toks := s₃.toks + 1 }) hns3 hm3 ?_)))))))
      refine pow_int_small (by omega) (by omega) (by decide) ?_
      rw [Int.toNat_natCast]
      refine fdivE hp.1 hp.2 ?_
      refine wpAny_Constant_int ?_
      refine fmodE (by decide) ?_
      refine wpAny_Constant_int ?_
      refine eq_int ?_
      refine wpAny_truthy_bool ⟨mk_bit _ k hk6, s₃.heap, _, rfl, fun _ _ e => e⟩
    · intro C' k t' s₃ m₃ E' hk6 hns3 hm3 hk3
      exact ldVarK hns3 hm3 ⟨⟨t', rfl⟩, keeps_refl _⟩
    · intro D h' tk' zs hD hDl hz hk'
      refine call_set_bits (mk_lt _) hh hDl hz fun h'' tk'' hI'' hk'' => ?_
      have hkk : ∀ b o, h.get? b = some o → h''.get? b = some o := fun b o e => hk'' b o (hk' b o e)
      have hfresh : h.get? h'.objs.size = none := by
        cases q : h.get? h'.objs.size with
        | none => rfl
        | some o => exact absurd (Heap.lt_size (hk' _ _ q)) (Nat.lt_irrefl _)
      refine ⟨⟨h'', tk'', rfl, hkk⟩, as ++ [h'.objs.size], by rw [List.map_append]; rfl, by rw [List.length_append, hlas]; rfl, ?_, ?_, ?_⟩
      · refine List.nodup_append.mpr ⟨hnd, List.nodup_cons.mpr ⟨fun q => (nomatch q), List.nodup_nil⟩, fun a ha b hb e => ?_⟩
        rw [List.mem_singleton.mp hb] at e
        obtain ⟨j, hj, rfl⟩ := List.getElem_of_mem ha
        have hitj := hit j (by omega)
        rw [List.getD_eq_getElem?_getD, List.getElem?_eq_getElem hj] at hitj
        obtain ⟨o, ho, _⟩ := hitj.obj
        have ho' : h.get? as[j] = some o := ho
        rw [e, hfresh] at ho'
        cases ho'
      · intro a ha
        rcases List.mem_append.mp ha with ha | ha
        · exact hfr a ha
        · rw [List.mem_singleton.mp ha]
          refine ⟨fun q => ?_, ?_⟩
          · obtain ⟨o, ho⟩ := hW _ q; rw [hfresh] at ho; cases ho
          · cases q : hA.get? h'.objs.size with
            | none => rfl
            | some o => rw [hk _ _ q] at hfresh; cases hfresh
      · intro j hj
        by_cases hji : j < i
        · have e : (as ++ [h'.objs.size]).getD j default = as.getD j default := by
            rw [List.getD_eq_getElem?_getD, List.getD_eq_getElem?_getD, List.getElem?_append_left (by omega)]
          rw [e]
          exact (hit j hji).keeps fun o e => hkk _ o e
        · have e0 : j = i := by omega
          subst e0
          have e : (as ++ [h'.objs.size]).getD j default = h'.objs.size := by
            rw [List.getD_eq_getElem?_getD, ← hlas, List.getElem?_concat_length]; rfl
          rw [e]
          exact hI''
  · rintro W D h₂ tk₂ ys n₀ hD hDl ⟨as, rfl, hlas, hnd, hfr, hit⟩ hlen2 hns2 hk2
    rw [List.size_toArray, hwl] at hlas hit
    obtain ⟨oL, esL, epL, hoL, rL⟩ := F'.ns
    have hLA : ∀ {b : Addr}, hA.get? b = none → b ≠ L := fun {b} q e => by rw [e] at q; rw [show hA.get? L = _ from hoL] at q; cases q
    have hLg : ∀ {b : Addr}, hA.get? b = none → g.get? b = none := fun {b} q => by
      cases z : g.get? b with
      | none => rfl
      | some o => rw [F'.keep _ _ z] at q; cases q
    have F₂ : Fr g L h₂ (mapO (putO "items" (.ref D) _)) := frMapTo ⟨hns2, fun b o e => hk2 b o (Nat.ne_of_lt (Nat.lt_of_lt_of_le (Heap.lt_size e) F'.above)) (F'.keep b o e), F'.above⟩ fun y => (mapO_put "items" (.ref D) y _).symm
    obtain ⟨key, hkey⟩ : ∃ key : Addr → Nat, ∀ j, j < as.length → key (as.getD j default) = mk (nums.getD j 0) := by
      exact key_of (fun j => mk (nums.getD j 0)) hnd
    obtain ⟨sets, hsn, hss⟩ : ∃ sets : List (Addr × Obj), News g L h₂ sets ∧ SetsIn prog w as key sets := by
      refine ⟨as.map fun a => (a, (h₂.get? a).getD default), fun p hp => ?_, fun a ha => ?_⟩
      · obtain ⟨a, ha, rfl⟩ := List.mem_map.mp hp
        obtain ⟨j, hj, rfl⟩ := List.getElem_of_mem ha
        have hitj := hit j (by omega)
        rw [List.getD_eq_getElem?_getD, List.getElem?_eq_getElem hj] at hitj
        obtain ⟨o, ho, _⟩ := hitj.obj
        have ho' : h₂.get? as[j] = some o := ho
        have hf := (hfr _ ha).2
        refine ⟨?_, hLA hf, hLg hf⟩
        show h₂.get? as[j] = some ((h₂.get? as[j]).getD default)
        rw [ho']; rfl
      · obtain ⟨j, hj, rfl⟩ := List.getElem_of_mem ha
        have hitj := hit j (by omega)
        have hkj := hkey j hj
        rw [List.getD_eq_getElem?_getD, List.getElem?_eq_getElem hj] at hitj hkj
        obtain ⟨o, ho, hI2⟩ := hitj.obj
        have ho' : h₂.get? as[j] = some o := ho
        refine ⟨o, List.mem_map.mpr ⟨as[j], ha, by rw [ho']; rfl⟩, ?_⟩
        rw [show key as[j] = _ from hkj]; exact hI2
    have hDn := (N' _ (.head _)).1
    have N₂ : News g L h₂ ((D, refsOf as n₀) :: (_, listOf ws.toArray 0) :: sets) := fun p hp => by
      rcases List.mem_cons.mp hp with rfl | hp
      · exact ⟨hDl, hLA hD, hLg hD⟩
      · rcases List.mem_cons.mp hp with rfl | hp
        · exact ⟨hk2 _ _ (N' _ (.head _)).2.1 hDn, (N' _ (.head _)).2⟩
        · exact hsn p hp
    clear hsn hns2 hDl
    have hasl : as.length < 1000 := by omega
    generalize hcnt : (nums.length + 1) / 2 = count at *
    k_steps
    rename Fr _ _ _ _ => F'
    rename News _ _ _ _ => N'
    have ecnt : (((nums.length : Nat) : Int) + 1) / 2 = ((count : Nat) : Int) := by omega
    rw [ecnt]
    refine ref_slice F' N' (.head _) (by omega) hasl ?_ (by with_unfolding_all rfl) (by intro _; with_unfolding_all rfl)
    clear F' N'
    intro lo h₃ F₃ N₃ l₃
    rw [Int.toNat_natCast] at N₃
    k_steps
    rename Fr _ _ _ _ => F'
    rename News _ _ _ _ => N'
    rw [ecnt]
    refine ref_slice F' N' (.tail _ (.head _)) (by omega) hasl ?_ (by with_unfolding_all rfl) (by intro _; with_unfolding_all rfl)
    clear F' N'
    intro hi h₄ F₄ N₄ l₄
    rw [Int.toNat_natCast] at N₄
    k_steps
    rename Fr _ _ _ _ => F'
    rename News _ _ _ _ => N'
    have hcl : (as.take count).length = count := by rw [List.length_take]; omega
    have hlh : lo < hi := l₄ _ (.head _)
    have slo : ∀ p ∈ sets, p.1 ≠ lo := fun p hp => Nat.ne_of_lt (l₃ p (.tail _ (.tail _ hp)))
    have shi : ∀ p ∈ sets, p.1 ≠ hi := fun p hp => Nat.ne_of_lt (l₄ p (.tail _ (.tail _ (.tail _ hp))))
    have htk : ∀ x ∈ as.take count, x ∈ as := fun x hx => List.mem_of_mem_take hx
    refine call_out F' N' (o' := refsOf (heapL (rMin key) (as.take count) ((as.take count).length / 2)) 0) (Upd.tail (Nat.ne_of_gt hlh) (Upd.head fun p hp => Nat.ne_of_lt (l₃ p hp))) (heapify (key := key) (base := Heap.hide _ lo) (fun b o e => Heap.of_hide e) (Wg.keeps (hide_keep F' (N' _ (.tail _ (.head _))).2.2)) (Heap.hide_self _ _) (N' _ (.tail _ (.head _))).1 ?d1 ?d2
      (fun x hx => hss.hide N' (fun p hp => .tail _ (.tail _ (.tail _ (.tail _ hp)))) slo (htk x hx)) (by omega) (by omega) hh) ?_
    case d1 => show _ + 1 + 12 < _; omega
    case d2 => show _ + 3 + 40 < _; omega
    clear F' N'
    intro h₅ tk₅ F₅ N₅
    k_steps
    rename Fr _ _ _ _ => F'
    rename News _ _ _ _ => N'
    refine call_out F' N' (o' := refsOf (heapL (rMax key) (as.take count) ((as.take count).length / 2)) 0) (Upd.head fun p hp => ?u1) (heapifyX (key := key) (base := Heap.hide _ hi) (fun b o e => Heap.of_hide e) (Wg.keeps (hide_keep F' (N' _ (.head _)).2.2)) (Heap.hide_self _ _) (N' _ (.head _)).1 ?d3 ?d4
      (fun x hx => hss.hide N' (fun p hp => .tail _ (.tail _ (.tail _ (.tail _ hp)))) shi (htk x hx)) (by omega) (by omega) hh) ?_
    case u1 =>
      rcases List.mem_cons.mp hp with rfl | hp
      · exact Nat.ne_of_lt hlh
      · exact Nat.ne_of_lt (l₄ p (.tail _ hp))
    case d3 => show _ + 1 + 12 < _; omega
    case d4 => show _ + 3 + 40 < _; omega
    clear F' N'
    intro h₆ tk₆ F₆ N₆
    k_steps
    rename Fr _ _ _ _ => F'
    rename News _ _ _ _ => N'
    rw [ecnt]
    refine ref_slice F' N' (.tail _ (.tail _ (.head _))) (by omega) hasl ?_ (by with_unfolding_all rfl) (by intro _; with_unfolding_all rfl)
    clear F' N'
    intro tmp h₇ F₇ N₇ l₇
    rw [Int.toNat_natCast] at N₇
    k_steps
    rename Fr _ _ _ _ => F'
    rename News _ _ _ _ => N'
    refine call_made F' N' (law_masks (key := key) F'.keep Wg (N' _ (.head _)).1 ?d5 ?d6 (fun x hx => hss.item N' (fun p hp => .tail _ (.tail _ (.tail _ (.tail _ (.tail _ hp))))) (htk x hx)) (by omega) hh) ?_
    case d5 => show _ + 1 + 12 < _; omega
    case d6 => show _ + 3 + 40 < _; omega
    clear F' N'
    rintro h₈ tk₈ il o₈ ⟨us, n₈, rfl, hus⟩ hil F₈ N₈
    k_steps
    rename Fr _ _ _ _ => F'
    rename News _ _ _ _ => N'
    refine list_copyK F' N' (items := us.toArray) ⟨_, (N' _ (.head _)).1, rfl, n₈, rfl⟩ ?_ (by rw [List.size_toArray, sizeLine_eq, hus.length, List.length_map]; omega)
    clear F' N'
    intro ih c₉ h₉ F₉ N₉ l₉
    k_steps
    refine wpAny_For ?_
    k_steps
    rename IsRange _ _ _ _ _ _ _ _ => hr
    rename Fr _ _ _ _ => F'
    rename News _ _ _ _ => N'
    rename Heap => hZ
    rw [ecnt] at hr F'
    have hrs : Builtin.Range.rangeSize ((count : Nat) : Int) (((nums.length : Nat) : Int) + 1) 1 = ((nums.length + 1 - count : Nat) : Int) := by rw [rangeSize_one]; split <;> omega
    refine wpAny_pyIter_range hr (small_one (by omega) (by omega) (by omega) (by omega)) ?_
    rw [hrs]
    obtain ⟨tc, F₀⟩ : ∃ tc, Fr g L hZ (mapO (lawM sc nm D count tc (some (.ref lo)) (some (.ref hi)) (some (.ref il)) (some (.ref ih)) none none none none none none)) := ⟨_, F'⟩
    have N₀ : News g L hZ ((lo, refsOf (heapL (rMin key) (as.take count) ((as.take count).length / 2)) 0) :: (hi, refsOf (heapL (rMax key) (as.take count) ((as.take count).length / 2)) 0) :: (il, listOf us.toArray n₈) :: (ih, listOf us.toArray c₉) :: (D, refsOf as n₀) :: (nm, listOf ws.toArray 0) :: sets) := News.sub N' (by
      intro p hp
      simp only [List.mem_cons] at hp ⊢
      rcases hp with h | h | h | h | h | h | h <;> simp only [h, true_or, or_true])
    have hk2 : (as.take count).length / 2 ≤ (as.take count).length := by omega
    have pmin := heapL_perm (rMin key) ((as.take count).length / 2) (as.take count) hk2
    have pmax := heapL_perm (rMax key) ((as.take count).length / 2) (as.take count) hk2
    have ap : Apart lo hi il ih D nm sets := {
      lo_hi := Nat.ne_of_lt hlh
      lo_il := hil _ (.tail _ (.tail _ (.head _)))
      lo_ih := Nat.ne_of_lt (l₉ _ (.tail _ (.tail _ (.tail _ (.head _)))))
      lo_it := Nat.ne_of_gt (l₃ _ (.head _))
      lo_nm := Nat.ne_of_gt (l₃ _ (.tail _ (.head _)))
      hi_il := hil _ (.tail _ (.head _))
      hi_ih := Nat.ne_of_lt (l₉ _ (.tail _ (.tail _ (.head _))))
      hi_it := Nat.ne_of_gt (l₄ _ (.tail _ (.head _)))
      hi_nm := Nat.ne_of_gt (l₄ _ (.tail _ (.tail _ (.head _))))
      il_ih := Nat.ne_of_lt (l₉ _ (.head _))
      il_it := Ne.symm (hil _ (.tail _ (.tail _ (.tail _ (.head _)))))
      il_nm := Ne.symm (hil _ (.tail _ (.tail _ (.tail _ (.tail _ (.head _))))))
      ih_it := Nat.ne_of_gt (l₉ _ (.tail _ (.tail _ (.tail _ (.tail _ (.head _))))))
      ih_nm := Nat.ne_of_gt (l₉ _ (.tail _ (.tail _ (.tail _ (.tail _ (.tail _ (.head _)))))))
      s_lo := slo
      s_hi := shi
      s_il := fun p hp => hil p (.tail _ (.tail _ (.tail _ (.tail _ (.tail _ hp)))))
      s_ih := fun p hp => Nat.ne_of_lt (l₉ p (.tail _ (.tail _ (.tail _ (.tail _ (.tail _ (.tail _ hp))))))) }
    refine for_range (a := ((count : Nat) : Int)) (c := 1) (n := nums.length + 1 - count) (LawInv sc nm D lo hi il ih count n₀ ws as key sets) hh (Heap.get?_push_size _ rfl) (Nat.ne_of_gt F'.ns.lt) (next_is_new F') (fun p hp => Nat.ne_of_lt (Heap.lt_size (N₀ p hp).1)) (F₀.push _) (fun p hp => ⟨Heap.get?_push_of_some _ (N₀ p hp).1, (N₀ p hp).2⟩) ?J rfl rfl ?_ ?_
    case J =>
      refine ⟨tc, none, none, none, none, none, none, 0, 0, n₈, c₉, _, _, us, us, _, _, rfl, rfl, by omega, hus, hus, ?_, ?_, ?_, ⟨fun x hx => htk x (pmin.mem_iff.mp hx), heapify_heap rMin_asym rMin_trans _, pmin.map _⟩, ⟨fun x hx => htk x (pmax.mem_iff.mp hx), heapify_heap rMax_asym rMax_trans _, pmax.map _⟩⟩
      · rw [pmin.length_eq, pmax.length_eq]
      · rw [pmin.length_eq]; omega
      · rw [pmin.length_eq]; omega
    · clear F' N' hr F₀ N₀
      intro i t M₁ news₁ oI h tk hi' hJ hnI F₁ N₁
      refine' wpAny_mono (law_turn (A := A.deeper _) (s := s) (Q := fun f s' => f = .ret (.bool true) ∧ R (.ok (.ret (.bool true))) s') ?b1 ?b2 Wg ?b3 ?b4 hh hI hnums hlen hcnt.symm hlas hss ap ?b5 i t M₁ news₁ oI h tk hi' hJ hnI F₁ N₁) ?b6 (fun _ _ x => x.elim)
      case b6 =>
        intro f s₃ hf
        cases f with
        | next => exact hf
        | cont => exact hf
        | brk => exact nomatch hf.1
        | ret v =>
          obtain ⟨e, hr⟩ := hf
          cases e
          exact hr
      case b1 =>
        refine' body_is ?e1 ?e2
        case e1 => k_is
        case e2 => rfl
      case b2 =>
        refine' scope_is ?e3 ?e4
        case e3 => k_is
        case e4 => rfl
      case b3 => show _ + 1 + 30 < _; omega
      case b4 => show _ + 3 + 150 < _; omega
      case b5 =>
        intro h₁ tk₁ m₁ F₂
        exact ⟨rfl, hR _ ⟨⟨h₁, tk₁, rfl⟩, fun b o nb e => F₂.keep b o (hgs b o (fun q => nomatch q) e), fun p hp => nomatch hp⟩⟩
    · rintro M₁ news₁ h tk ⟨_, _, _, _, _, _, _, _, _, _, _, _, _, _, _, _, _, _, _, hjw, _⟩
      exact absurd hjw (by omega)
end Mine
open Mine
theorem PySem.Challenge.cw_dp0045_01_holds : PySem.Challenge.rw_dp0045_01.Holds := by
  refine Mine.hd ?_
  intro w s₀ s₁ mg mb G Y fa o pm cd doc dV kV ho hd hcd hD hmg hg args vals as hpre hlay hrd hwl hlo
  clear hd hcd ho hD
  replace hmg : mg "law" = some (.ref fa) := hmg
  have KX := kIn_of Y
  have X := (Ground.X G).1
  have V := (Ground.X G).2
  refine Ground.open G ?_
  intro T B D TE TW
  wrow_args hpre hlay hrd hwl hlo
  all_goals (first | refine callC_kw (enter_call ?_) | refine enter_call ?_ | refine callC_kw (enter_callW ?_) | refine enter_callW ?_ | w_how)
  all_goals w_top on
  all_goals try refine codeAny_mono ?_ (fun _ _ g => GoodW.toG g)
  have e115 : mg "law" = some (.ref 115) := mg_of KX T.g (by k_is)
  rw [e115] at hmg
  have efa : 115 = fa := Value.ref.inj (Option.some.inj hmg)
  subst efa
  rename IntsAre _ _ => hI
  rename Heap.IsList _ _ _ => hL
  rename ¬ _ < _ => hc
  refine law_call ⟨KX, topRead_of T⟩ hL hI (by omega) (by decide) (by decide) rfl ?_
  intro s' O
  obtain ⟨⟨h', tk, rfl⟩, hk, _⟩ := O
  refine ⟨.inl ⟨_, _, _, rfl, raisesW_false ?zz1, .bool true, ?zz2, unshared_nil⟩, fun b o e => hk b o (fun q => nomatch q) e, rfl, hg⟩
  case zz1 => wrow_none_raised
  case zz2 => wrow_post
