/-
  Seat b6618532a: FnPiecesWritesTheMadeRewritesInOrder: the plain law: the run that pieces finds is just what the law's filter keeps.
-/
import Derived.Test.Qxb6618532aPSkips
namespace Go.Proofs.Qxb6618532a
open Go.RowKit

/-- Sk as a bool. -/
def skB (tl : List Tok) (r : Rw) : Bool :=
  r.minus && (decide (1 ≤ r.l - r.f) && (decide ((r.l - r.f) % 2 = 1) && ((List.range ((r.l - r.f - 1) / 2).toNat).all (fun j => opB (tl.getD (r.f.toNat + 1 + j) t0)) && decide ((tl.getD (r.f.toNat + 1 + ((r.l - r.f - 1) / 2).toNat) t0).kind = 3))))
theorem skB_iff (tl : List Tok) (r : Rw) : skB tl r = true ↔ Sk tl r := by
  unfold skB Sk
  simp only [Bool.and_eq_true, decide_eq_true_eq, List.all_eq_true, List.mem_range]
  constructor
  · rintro ⟨h1, h2, h3, h4, h5⟩
    exact ⟨h1, ((r.l - r.f - 1) / 2).toNat, by omega, h4, h5⟩
  · rintro ⟨h1, k, e, h4, h5⟩
    have hk : ((r.l - r.f - 1) / 2).toNat = k := by omega
    rw [hk]
    exact ⟨h1, by omega, by omega, h4, h5⟩

/-- What pieces writes of a run. -/
def outT (tl : List Tok) : List Rw → List UInt8
  | [] => []
  | r :: rs => (if skB tl r then [] else r.text.data.toList) ++ outT tl rs
theorem outT_append (tl : List Tok) (a b : List Rw) : outT tl (a ++ b) = outT tl a ++ outT tl b := by
  induction a with
  | nil => rfl
  | cons r rs ih => simp [outT, ih]

/-- inside replaced; within s. -/
def insB (hasR : Bool) (rf rl : Int) (r : Rw) : Bool := hasR && winB r.f r.l rf rl
/-- What the law keeps. -/
def keepB (tl : List Tok) (sf sl : Int) (hasR : Bool) (rf rl : Int) (r : Rw) : Bool := winB r.f r.l sf sl && (!insB hasR rf rl r && !skB tl r)
def lawT (tl : List Tok) (sf sl : Int) (hasR : Bool) (rf rl : Int) : List Rw → List UInt8
  | [] => []
  | r :: rs => (if keepB tl sf sl hasR rf rl r then r.text.data.toList else []) ++ lawT tl sf sl hasR rf rl rs

section
variable {tl : List Tok} {sf sl : Int} {hasR : Bool} {rf rl' : Int}
theorem lawT_append (a b : List Rw) : lawT tl sf sl hasR rf rl' (a ++ b) = lawT tl sf sl hasR rf rl' a ++ lawT tl sf sl hasR rf rl' b := by
  induction a with
  | nil => rfl
  | cons r rs ih => simp [lawT, ih]
theorem lawT_none : ∀ (a : List Rw), (∀ r ∈ a, winB r.f r.l sf sl = false ∨ insB hasR rf rl' r = true) → lawT tl sf sl hasR rf rl' a = []
  | [], _ => rfl
  | r :: rs, h => by
    have h1 : keepB tl sf sl hasR rf rl' r = false := by
      unfold keepB
      rcases h r List.mem_cons_self with h | h <;> simp [h]
    rw [lawT, h1, lawT_none rs (fun q hq => h q (List.mem_cons_of_mem _ hq))]
    rfl
theorem lawT_all : ∀ (a : List Rw), (∀ r ∈ a, winB r.f r.l sf sl = true ∧ insB hasR rf rl' r = false) → lawT tl sf sl hasR rf rl' a = outT tl a
  | [], _ => rfl
  | r :: rs, h => by
    have h1 : keepB tl sf sl hasR rf rl' r = !skB tl r := by
      unfold keepB
      obtain ⟨h1, h2⟩ := h r List.mem_cons_self
      simp [h1, h2]
    rw [lawT, h1, lawT_all rs (fun q hq => h q (List.mem_cons_of_mem _ hq)), outT]
    cases skB tl r <;> rfl

/-- The run from 'a' up to 'b' is just what the law keeps, where nothing outside it is both within s and not inside. -/
theorem run_is (rl : List Rw) (a b : Nat) (hab : a ≤ b) (hb : b ≤ rl.length)
    (hlo : ∀ j, j < a → winB (rl.getD j r0).f (rl.getD j r0).l sf sl = false ∨ insB hasR rf rl' (rl.getD j r0) = true)
    (hmid : ∀ j, a ≤ j → j < b → winB (rl.getD j r0).f (rl.getD j r0).l sf sl = true ∧ insB hasR rf rl' (rl.getD j r0) = false)
    (hhi : ∀ j, b ≤ j → j < rl.length → winB (rl.getD j r0).f (rl.getD j r0).l sf sl = false ∨ insB hasR rf rl' (rl.getD j r0) = true) :
    lawT tl sf sl hasR rf rl' rl = outT tl ((rl.drop a).take (b - a)) := by
  have hsplit : rl = rl.take a ++ ((rl.drop a).take (b - a) ++ rl.drop b) := by
    have h1 : rl.drop b = (rl.drop a).drop (b - a) := by rw [List.drop_drop]; congr 1; omega
    rw [h1, List.take_append_drop, List.take_append_drop]
  have hget : ∀ j (h : j < rl.length), rl.getD j r0 = rl[j] := fun j h => by simp [List.getD, h]
  conv => lhs; rw [hsplit]
  rw [lawT_append, lawT_append, lawT_none (rl.take a), lawT_all ((rl.drop a).take (b - a)), lawT_none (rl.drop b)]
  · simp
  · intro r hr
    obtain ⟨j, hj, e⟩ := List.getElem_of_mem hr
    have hj' : b + j < rl.length := by simp at hj; omega
    rw [List.getElem_drop] at e
    have := hhi (b + j) (by omega) hj'
    rw [hget _ hj', e] at this
    exact this
  · intro r hr
    obtain ⟨j, hj, e⟩ := List.getElem_of_mem hr
    have hj2 : j < b - a := by simp at hj; omega
    have hj' : a + j < rl.length := by omega
    rw [List.getElem_take, List.getElem_drop] at e
    have := hmid (a + j) (by omega) (by omega)
    rw [hget _ hj', e] at this
    exact this
  · intro r hr
    obtain ⟨j, hj, e⟩ := List.getElem_of_mem hr
    have hj2 : j < a := by simp at hj; omega
    have hj' : j < rl.length := by omega
    rw [List.getElem_take] at e
    have := hlo j hj2
    rw [hget _ hj', e] at this
    exact this
end

theorem winB_trans {a b c d e f : Int} (h1 : winB a b c d = true) (h2 : winB c d e f = true) : winB a b e f = true := by
  unfold winB at *
  simp at *
  omega

/-- A property of owners that goes inward holds from one rewrite on (before) or up to one (after). -/
theorem suffix_closed {P : Rw → Bool} {rl : List Rw} (hstep : ∀ j, j + 1 < rl.length → P (rl.getD j r0) = true → P (rl.getD (j + 1) r0) = true) : ∀ (d j : Nat), j + d < rl.length → P (rl.getD j r0) = true → P (rl.getD (j + d) r0) = true
  | 0, _, _, h => h
  | d + 1, j, hj, h => hstep (j + d) (by omega) (suffix_closed hstep d j (by omega) h)
theorem prefix_closed {P : Rw → Bool} {rl : List Rw} (hstep : ∀ j, j + 1 < rl.length → P (rl.getD (j + 1) r0) = true → P (rl.getD j r0) = true) : ∀ (d j : Nat), j + d < rl.length → P (rl.getD (j + d) r0) = true → P (rl.getD j r0) = true
  | 0, _, _, h => h
  | d + 1, j, hj, h => prefix_closed hstep d j (by omega) (hstep (j + d) (by omega) h)

section
variable {tl : List Tok} {sf sl : Int} {hasR : Bool} {rf rl' : Int} {rl : List Rw}
theorem ins_step {a b : Rw} (h : winB a.f a.l b.f b.l = true) (hb : insB hasR rf rl' b = true) : insB hasR rf rl' a = true := by
  unfold insB at *
  simp only [Bool.and_eq_true] at *
  exact ⟨hb.1, winB_trans h hb.2⟩

/-- before: the run that pieces finds from the innermost end. -/
theorem before_run (hn : ∀ j, j + 1 < rl.length → winB (rl.getD (j + 1) r0).f (rl.getD (j + 1) r0).l (rl.getD j r0).f (rl.getD j r0).l = true) (a b : Nat) (hab : a ≤ b) (hb : b ≤ rl.length)
    (h1 : ∀ j, b ≤ j → j < rl.length → insB hasR rf rl' (rl.getD j r0) = true) (h2 : b = 0 ∨ insB hasR rf rl' (rl.getD (b - 1) r0) = false)
    (h3 : ∀ j, a ≤ j → j < b → winB (rl.getD j r0).f (rl.getD j r0).l sf sl = true) (h4 : a = 0 ∨ winB (rl.getD (a - 1) r0).f (rl.getD (a - 1) r0).l sf sl = false) :
    lawT tl sf sl hasR rf rl' rl = outT tl ((rl.drop a).take (b - a)) := by
  have hni : ∀ j, j < b → insB hasR rf rl' (rl.getD j r0) = false := fun j hj => by
    cases hc : insB hasR rf rl' (rl.getD j r0) with
    | false => rfl
    | true =>
      rcases h2 with h2 | h2
      · omega
      · have := suffix_closed (P := insB hasR rf rl') (fun j hj h => ins_step (hn j hj) h) (b - 1 - j) j (by omega) hc
        rw [show j + (b - 1 - j) = b - 1 by omega, h2] at this; cases this
  refine run_is rl a b hab hb (fun j hj => .inl ?_) (fun j hj hjb => ⟨h3 j hj hjb, hni j hjb⟩) (fun j hj hjn => .inr (h1 j hj hjn))
  cases hc : winB (rl.getD j r0).f (rl.getD j r0).l sf sl with
  | false => rfl
  | true =>
    rcases h4 with h4 | h4
    · omega
    · have := suffix_closed (P := fun r => winB r.f r.l sf sl) (fun j hj h => winB_trans (hn j hj) h) (a - 1 - j) j (by omega) hc
      rw [show j + (a - 1 - j) = a - 1 by omega, h4] at this; cases this

/-- after: the run from the innermost end. -/
theorem after_run (hn : ∀ j, j + 1 < rl.length → winB (rl.getD j r0).f (rl.getD j r0).l (rl.getD (j + 1) r0).f (rl.getD (j + 1) r0).l = true) (a b : Nat) (hab : a ≤ b) (hb : b ≤ rl.length)
    (h1 : ∀ j, j < a → insB hasR rf rl' (rl.getD j r0) = true) (h2 : a = rl.length ∨ insB hasR rf rl' (rl.getD a r0) = false)
    (h3 : ∀ j, a ≤ j → j < b → winB (rl.getD j r0).f (rl.getD j r0).l sf sl = true) (h4 : b = rl.length ∨ winB (rl.getD b r0).f (rl.getD b r0).l sf sl = false) :
    lawT tl sf sl hasR rf rl' rl = outT tl ((rl.drop a).take (b - a)) := by
  have hni : ∀ j, a ≤ j → j < rl.length → insB hasR rf rl' (rl.getD j r0) = false := fun j hj hjn => by
    cases hc : insB hasR rf rl' (rl.getD j r0) with
    | false => rfl
    | true =>
      rcases h2 with h2 | h2
      · omega
      · have := prefix_closed (P := insB hasR rf rl') (fun j hj h => ins_step (hn j hj) h) (j - a) a (by omega) (by rw [show a + (j - a) = j by omega]; exact hc)
        rw [h2] at this; cases this
  refine run_is rl a b hab hb (fun j hj => .inr (h1 j hj)) (fun j hj hjb => ⟨h3 j hj hjb, hni j hj (by omega)⟩) (fun j hj hjn => .inl ?_)
  cases hc : winB (rl.getD j r0).f (rl.getD j r0).l sf sl with
  | false => rfl
  | true =>
    rcases h4 with h4 | h4
    · omega
    · have := prefix_closed (P := fun r => winB r.f r.l sf sl) (fun j hj h => winB_trans (hn j hj) h) (j - b) b (by omega) (by rw [show b + (j - b) = j by omega]; exact hc)
      rw [h4] at this; cases this
end

/-- One element more. -/
theorem outT_snoc (tl : List Tok) (rl : List Rw) (a k : Nat) (h : a + k < rl.length) : outT tl ((rl.drop a).take (k + 1)) = outT tl ((rl.drop a).take k) ++ (if skB tl (rl.getD (a + k) r0) then [] else (rl.getD (a + k) r0).text.data.toList) := by
  have hk : k < (rl.drop a).length := by simp; omega
  rw [List.take_succ_eq_append_getElem hk, outT_append, List.getElem_drop, show rl.getD (a + k) r0 = rl[a + k] from by simp [List.getD, h]]
  simp [outT]
theorem lawT_snoc (tl : List Tok) (sf sl : Int) (hasR : Bool) (rf rl' : Int) (rl : List Rw) (k : Nat) (h : k < rl.length) : lawT tl sf sl hasR rf rl' (rl.take (k + 1)) = lawT tl sf sl hasR rf rl' (rl.take k) ++ (if keepB tl sf sl hasR rf rl' (rl.getD k r0) then (rl.getD k r0).text.data.toList else []) := by
  rw [List.take_succ_eq_append_getElem h, lawT_append, show rl.getD k r0 = rl[k] from by simp [List.getD, h]]
  simp [lawT]
theorem size_data (b : ByteArray) : b.data.toList.length = b.size := rfl
theorem outT_len {tl : List Tok} {rl : List Rw} (h : ∀ j, j < rl.length → (rl.getD j r0).text.size ≤ 1048576) (a : Nat) : ∀ k, a + k ≤ rl.length → (outT tl ((rl.drop a).take k)).length ≤ k * 1048576
  | 0, _ => by simp [outT]
  | k + 1, hk => by
    rw [outT_snoc tl rl a k (by omega), List.length_append]
    have h1 := outT_len (tl := tl) h a k (by omega)
    have h2 := h (a + k) (by omega)
    have h3 : (if skB tl (rl.getD (a + k) r0) then [] else (rl.getD (a + k) r0).text.data.toList).length ≤ 1048576 := by
      split
      · exact Nat.zero_le _
      · rw [size_data]; exact h2
    omega
theorem lawT_len {tl : List Tok} {sf sl : Int} {hasR : Bool} {rf rl' : Int} {rl : List Rw} (h : ∀ j, j < rl.length → (rl.getD j r0).text.size ≤ 1048576) : ∀ k, k ≤ rl.length → (lawT tl sf sl hasR rf rl' (rl.take k)).length ≤ k * 1048576
  | 0, _ => by simp [lawT]
  | k + 1, hk => by
    rw [lawT_snoc tl sf sl hasR rf rl' rl k (by omega), List.length_append]
    have h1 := lawT_len (tl := tl) (sf := sf) (sl := sl) (hasR := hasR) (rf := rf) (rl' := rl') h k (by omega)
    have h2 := h k (by omega)
    have h3 : (if keepB tl sf sl hasR rf rl' (rl.getD k r0) then (rl.getD k r0).text.data.toList else []).length ≤ 1048576 := by
      split
      · rw [size_data]; exact h2
      · exact Nat.zero_le _
    omega

end Go.Proofs.Qxb6618532a
