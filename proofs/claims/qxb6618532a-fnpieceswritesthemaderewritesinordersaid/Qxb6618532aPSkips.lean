/-
  Seat b6618532a: skips and zzSkips answer alike.
-/
import Derived.Test.Qxb6618532aPRead
namespace Go.Proofs.Qxb6618532a
open Go.RowKit

/-- A minus before a number in balanced parentheses. -/
def Sk (tl : List Tok) (r : Rw) : Prop :=
  r.minus = true ∧ ∃ k : Nat, r.l - r.f = 2 * (k : Int) + 1 ∧ (∀ j, j < k → opB (tl.getD (r.f.toNat + 1 + j) t0) = true) ∧ (tl.getD (r.f.toNat + 1 + k) t0).kind = 3
/-- It hands back a bool, which is true just where p. -/
def IsB (p : Prop) (e : Ending) : Prop := ∃ b : Bool, e = .returned (.bool b) ∧ (b = true ↔ p)
theorem IsB.no {p : Prop} (h : ¬ p) : IsB p (.returned (.bool false)) := ⟨false, rfl, by simp [h]⟩
theorem IsB.yes {p : Prop} (h : p) : IsB p (.returned (.bool true)) := ⟨true, rfl, by simp [h]⟩
theorem IsB.of {p : Prop} {b : Bool} (h : b = true ↔ p) : IsB p (.returned (.bool b)) := ⟨b, rfl, h⟩

theorem opB_kind {t : Tok} (h : opB t = true) : t.kind = 6 := by
  unfold opB at h; simp at h; exact h.1

/-- The opened parentheses so far. -/
def OpenTo (tl : List Tok) (f k : Nat) : Prop := ∀ j, j < k → opB (tl.getD (f + 1 + j) t0) = true
theorem OpenTo.succ {tl : List Tok} {f k : Nat} (h : OpenTo tl f k) (hk : opB (tl.getD (f + 1 + k) t0) = true) : OpenTo tl f (k + 1) := fun j hj => by
  by_cases e : j = k
  · subst e; exact hk
  · exact h j (by omega)

/-- What skips' loop leaves, against Sk. -/
theorem sk_end {tl : List Tok} {r : Rw} {f l k : Nat} (hm : r.minus = true) (hf : r.f = (f : Int)) (hl : r.l = (l : Int)) (ho : OpenTo tl f k) (hx : ¬ (f + 1 + k < l ∧ opB (tl.getD (f + 1 + k) t0) = true)) :
    Sk tl r ↔ ((l : Int) - ((f : Int) + 1) = 2 * (k : Int) ∧ (tl.getD (f + 1 + k) t0).kind = 3) := by
  unfold Sk
  rw [hf, hl, Int.toNat_natCast]
  constructor
  · rintro ⟨_, k', e, h1, h2⟩
    have hkk : k' = k := by
      rcases Nat.lt_trichotomy k k' with h | h | h
      · exact absurd ⟨by omega, h1 k h⟩ hx
      · exact h.symm
      · have := opB_kind (ho k' h); omega
    subst hkk
    exact ⟨by omega, h2⟩
  · rintro ⟨e, h2⟩
    exact ⟨hm, k, by omega, ho, h2⟩

set_option maxRecDepth 100000 in
set_option maxHeartbeats 2000000 in
theorem skips_no (W : Nat) (i how : Int) (r : Rw) (tl : List Tok) (w : World) (hm : r.minus = false) :
    Calls Try.prog 33 #[.pointer (some ⟨W, 0, none⟩), .agg #[.int .i64 i, .int .i64 how, .int .i64 i, .string r.text, .int .i64 0, .int .i64 0, .bool false, .int .i64 r.f, .int .i64 r.l, .bool r.minus]] w fun e w' => IsB (Sk tl r) e ∧ Below w.heap.size w w' := by
  have hn : Hid (¬ Sk tl r) := fun h => by rw [h.1] at hm; cases hm
  obtain ⟨text, rf, rl, rm⟩ := r
  simp only at hm
  subst hm
  go_enter Try.func33, Try.ntmps33
  go_wp2
  go_ret
  exact ⟨IsB.no hn.out, ((Below.refl _ _).alloc (Nat.le_refl _) _).alloc (by simp) _⟩

set_option maxRecDepth 100000 in
set_option maxHeartbeats 2000000 in
theorem skips_yes (W g n cap : Nat) (i how : Int) (r : Rw) (tl : List Tok) (w : World) (hm : r.minus = true) (f l : Nat) (hf : r.f = (f : Int)) (hl : r.l = (l : Int)) (hfl : f ≤ l) (hln : l < n) (hn : n ≤ 65536)
    (hW : W < w.heap.size) (hg : g < w.heap.size) (h2 : w.cell? ⟨W, 2, none⟩ = some (.slice (some ⟨g, 0, none⟩) n cap)) (hT : ∀ j, j < n → w.cell? ⟨g, j * 5, none⟩ = some (.int .i64 (tl.getD j t0).kind) ∧ w.cell? ⟨g, j * 5 + 1, none⟩ = some (.string (tl.getD j t0).text)) :
    Calls Try.prog 33 #[.pointer (some ⟨W, 0, none⟩), .agg #[.int .i64 i, .int .i64 how, .int .i64 i, .string r.text, .int .i64 0, .int .i64 0, .bool false, .int .i64 r.f, .int .i64 r.l, .bool r.minus]] w fun e w' => IsB (Sk tl r) e ∧ Below w.heap.size w w' := by
  have HEND : Hid (∀ k, OpenTo tl f k → ¬ (f + 1 + k < l ∧ opB (tl.getD (f + 1 + k) t0) = true) → (Sk tl r ↔ ((l : Int) - ((f : Int) + 1) = 2 * (k : Int) ∧ (tl.getD (f + 1 + k) t0).kind = 3))) := fun k => sk_end hm hf hl
  have HT : Hid (∀ j, j < n → w.cell? ⟨g, j * 5, none⟩ = some (.int .i64 (tl.getD j t0).kind) ∧ w.cell? ⟨g, j * 5 + 1, none⟩ = some (.string (tl.getD j t0).text)) := hT
  generalize hS : Sk tl r = SK
  have HS : Hid (Sk tl r = SK) := hS
  rw [hS] at HEND
  clear hT hS HS
  obtain ⟨text, rf, rl, rm⟩ := r
  simp only at hm hf hl
  subst hm hf hl
  have hbel : Below w.heap.size w (((w.alloc (.cells #[.pointer (some ⟨W, 0, none⟩)] 57)).alloc (.cells #[.int .i64 i, .int .i64 how, .int .i64 i, .string text, .int .i64 0, .int .i64 0, .bool false, .int .i64 f, .int .i64 l, .bool true] 92)).alloc (.cells #[.int .i64 ((f : Int) + 1), .int .i64 l] 90)) :=
    (((Below.refl _ _).alloc (Nat.le_refl _) _).alloc (by simp) _).alloc (by simp; omega) _
  have hcw : (((w.alloc (.cells #[.pointer (some ⟨W, 0, none⟩)] 57)).alloc (.cells #[.int .i64 i, .int .i64 how, .int .i64 i, .string text, .int .i64 0, .int .i64 0, .bool false, .int .i64 f, .int .i64 l, .bool true] 92)).alloc (.cells #[.int .i64 ((f : Int) + 1), .int .i64 l] 90)).heap[w.heap.size]? = some (.cells #[.pointer (some ⟨W, 0, none⟩)] 57) := by
    rw [Below.heap_alloc _ _ _ (by simp; omega), Below.heap_alloc _ _ _ (by simp)]; exact heap_alloc_new _ _
  have hcs : (((w.alloc (.cells #[.pointer (some ⟨W, 0, none⟩)] 57)).alloc (.cells #[.int .i64 i, .int .i64 how, .int .i64 i, .string text, .int .i64 0, .int .i64 0, .bool false, .int .i64 f, .int .i64 l, .bool true] 92)).alloc (.cells #[.int .i64 ((f : Int) + 1), .int .i64 l] 90)).heap[w.heap.size + 1 + 1]? = some (.cells #[.int .i64 ((f : Int) + 1), .int .i64 l] 90) := by
    have e : w.heap.size + 1 + 1 = ((w.alloc (.cells #[.pointer (some ⟨W, 0, none⟩)] 57)).alloc (.cells #[.int .i64 i, .int .i64 how, .int .i64 i, .string text, .int .i64 0, .int .i64 0, .bool false, .int .i64 f, .int .i64 l, .bool true] 92)).heap.size := by simp
    rw [e]; exact heap_alloc_new _ _
  go_enter Try.func33, Try.ntmps33
  go_wp2
  generalize ((w.alloc (.cells #[.pointer (some ⟨W, 0, none⟩)] 57)).alloc (.cells #[.int .i64 i, .int .i64 how, .int .i64 i, .string text, .int .i64 0, .int .i64 0, .bool false, .int .i64 f, .int .i64 l, .bool true] 92)).alloc (.cells #[.int .i64 ((f : Int) + 1), .int .i64 l] 90) = w3 at hbel hcw hcs ⊢
  have k0 := cellAt (o := 0) hcw rfl
  have s0 := cellAt (o := 0) hcs rfl
  have s1 := cellAt (o := 1) hcs rfl
  have t2 := (hbel.cell (p := ⟨W, 2, none⟩) hW).trans h2
  have HT3 : Hid (∀ j, j < n → w3.cell? ⟨g, j * 5, none⟩ = some (.int .i64 (tl.getD j t0).kind) ∧ w3.cell? ⟨g, j * 5 + 1, none⟩ = some (.string (tl.getD j t0).text)) :=
    fun j hj => ⟨(hbel.cell (p := ⟨g, j * 5, none⟩) hg).trans (HT.out j hj).1, (hbel.cell (p := ⟨g, j * 5 + 1, none⟩) hg).trans (HT.out j hj).2⟩
  have HB3 : Hid (Below w.heap.size w w3) := hbel
  clear hbel hcw hcs HT h2
  simp only [List.getElem_toArray, List.getElem_cons_zero, List.getElem_cons_succ] at k0 s0 s1
  go_loop [7] (fun o => ∃ k : Nat, o = .int .i64 k ∧ k ≤ l ∧ OpenTo tl f k) (fun o => l - (intOf o).toNat)
  case atStart => exact ⟨0, rfl, Nat.zero_le _, fun j h => by omega⟩
  case round =>
    obtain ⟨k, rfl, hk, ho⟩ := hrel
    have HO : Hid (OpenTo tl f k) := ho
    clear ho
    by_cases hlt : f + 1 + k < l
    · have hcon := op_any (f + 1 + k) w.heap.size W g n cap (tl.getD (f + 1 + k) t0) w3 k0 t2 (by omega) (HT3.out _ (by omega)).1 (HT3.out _ (by omega)).2
      have ec : ((f + 1 + k : Nat) : Int) = (f : Int) + 1 + (k : Int) := by omega
      rw [ec] at hcon
      clear ec
      have hi1 : (f : Int) + 1 + (k : Int) < (l : Int) := by omega
      cases hob : opB (tl.getD (f + 1 + k) t0) with
      | true =>
        rw [hob] at hcon
        have HO2 : Hid (OpenTo tl f (k + 1)) := HO.out.succ hob
        clear hob
        go_wp2_with (go_at_call 36; refine hcon.mono ?_; rintro e w3 ⟨rfl, rfl⟩)
        go_round
        case rel => exact ⟨k + 1, by go_num, by omega, HO2.out⟩
        case measure => simp [intOf]; omega
      | false =>
        rw [hob] at hcon
        have HE := HEND.out k HO.out (by rw [hob]; simp)
        clear hob
        go_wp2_with (go_at_call 36; refine hcon.mono ?_; rintro e w3 ⟨rfl, rfl⟩)
        by_cases heq : (l : Int) - ((f : Int) + 1) = 2 * (k : Int)
        · have hkd := (HT3.out (f + 1 + k) (by omega)).1
          have hi2 : (f : Int) + 1 + (k : Int) < (n : Int) := by omega
          have hbq : ((l : Int) - ((f : Int) + 1) == 2 * (k : Int)) = true := by simpa using heq
          have HE2 : Hid (((tl.getD (f + 1 + k) t0).kind == 3) = true ↔ SK) := by unfold Hid; rw [HE]; simp [heq]
          clear HE heq
          generalize (tl.getD (f + 1 + k) t0).kind = kd at hkd HE2
          go_quiet (fail)
          go_wp2
          go_ret
          exact ⟨IsB.of HE2.out, below_drewN2 HB3.out _⟩
        · have hbq : ((l : Int) - ((f : Int) + 1) == 2 * (k : Int)) = false := by simpa using heq
          have HE2 : Hid (¬ SK) := by unfold Hid; rw [HE]; simp [heq]
          clear HE heq
          go_quiet (fail)
          go_wp2
          go_ret
          exact ⟨IsB.no HE2.out, below_drewN2 HB3.out _⟩
    · have HE := HEND.out k HO.out (fun h => hlt h.1)
      have hi1 : ¬ (f : Int) + 1 + (k : Int) < (l : Int) := by omega
      go_wp2
      by_cases heq : (l : Int) - ((f : Int) + 1) = 2 * (k : Int)
      · have hkd := (HT3.out (f + 1 + k) (by omega)).1
        have hi2 : (f : Int) + 1 + (k : Int) < (n : Int) := by omega
        have hbq : ((l : Int) - ((f : Int) + 1) == 2 * (k : Int)) = true := by simpa using heq
        have HE2 : Hid (((tl.getD (f + 1 + k) t0).kind == 3) = true ↔ SK) := by unfold Hid; rw [HE]; simp [heq]
        clear HE heq
        generalize (tl.getD (f + 1 + k) t0).kind = kd at hkd HE2
        go_quiet (fail)
        go_wp2
        go_ret
        exact ⟨IsB.of HE2.out, below_drewN2 HB3.out _⟩
      · have hbq : ((l : Int) - ((f : Int) + 1) == 2 * (k : Int)) = false := by simpa using heq
        have HE2 : Hid (¬ SK) := by unfold Hid; rw [HE]; simp [heq]
        clear HE heq
        go_quiet (fail)
        go_wp2
        go_ret
        exact ⟨IsB.no HE2.out, below_drewN2 HB3.out _⟩

end Go.Proofs.Qxb6618532a
