/-
  Seat b6618868a: listsFirst and the functions about it: contracts.
-/
import Derived.Test.Qxb6618868aProg
import Derived.WalkKit
import Derived.WalkSpells
import Derived.Outline
import Derived.BigQuiet
import Derived.OwnWalk
import Derived.Deep.OwnRows
namespace Go.Proofs.Qxb6618868a
open Go.RowKit

theorem hide {p : Prop} (h : p) : Hid p := h
theorem unhide {p : Prop} (h : Hid p) : p := h
theorem below_drewN {B : Nat} {w w' : World} (h : Below B w w') (n : Nat) : Below B w (w'.drewN n) := by
  induction n with
  | zero => exact h
  | succ n ih => exact ih.drew

/-- A compiler in block P, its dialect's 'completes'. -/
def CompAt (w : World) (P : Nat) (comp : Bool) : Prop :=
  ∃ D, P < w.heap.size ∧ D < w.heap.size ∧ w.cell? ⟨P, 3, none⟩ = some (.pointer (some ⟨D, 0, none⟩)) ∧ w.cell? ⟨D, 10, none⟩ = some (.bool comp)
theorem CompAt.below {w w' : World} {P : Nat} {comp : Bool} (h : CompAt w P comp) (hb : Below w.heap.size w w') : CompAt w' P comp := by
  obtain ⟨D, h1, h2, h3, h4⟩ := h
  have := hb.size
  exact ⟨D, by omega, by omega, (hb.cell (p := ⟨P, 3, none⟩) h1).trans h3, (hb.cell (p := ⟨D, 10, none⟩) h2).trans h4⟩
theorem heap_alloc_new (w : World) (o : Obj) : (w.alloc o).heap[w.heap.size]? = some o := by
  show (w.heap.push o)[w.heap.size]? = some o
  simp
theorem comp_new (w : World) (x0 x1 x2 x3 x4 x5 x6 x7 x8 x9 x11 y0 y1 y2 y4 : Value) (comp : Bool) :
    CompAt ((w.alloc (.cells #[x0, x1, x2, x3, x4, x5, x6, x7, x8, x9, .bool comp, x11] 38)).alloc (.cells #[y0, y1, y2, .pointer (some ⟨w.heap.size, 0, none⟩), y4] 42)) (w.heap.size + 1) comp := by
  refine ⟨w.heap.size, by simp, by simp; omega, ?_, ?_⟩
  · have := heap_alloc_new (w.alloc (.cells #[x0, x1, x2, x3, x4, x5, x6, x7, x8, x9, .bool comp, x11] 38)) (.cells #[y0, y1, y2, .pointer (some ⟨w.heap.size, 0, none⟩), y4] 42)
    rw [show (w.alloc (.cells #[x0, x1, x2, x3, x4, x5, x6, x7, x8, x9, .bool comp, x11] 38)).heap.size = w.heap.size + 1 from by simp] at this
    simp only [World.cell?, this]; rfl
  · have h1 := Below.heap_alloc (w.alloc (.cells #[x0, x1, x2, x3, x4, x5, x6, x7, x8, x9, .bool comp, x11] 38)) (.cells #[y0, y1, y2, .pointer (some ⟨w.heap.size, 0, none⟩), y4] 42) w.heap.size (by simp)
    rw [heap_alloc_new] at h1
    simp only [World.cell?, h1]; rfl

set_option maxRecDepth 100000 in
set_option maxHeartbeats 1000000 in
theorem new_any (comp : Bool) (w : World) :
    Calls Try.prog 7 #[.bool comp] w fun e w' => e = .returned (.pointer (some ⟨w.heap.size + 1, 0, none⟩)) ∧ CompAt w' (w.heap.size + 1) comp ∧ Below w.heap.size w w' := by
  cases comp with
  | true =>
    go_enter Try.func7, Try.ntmps7
    go_wp2
    go_ret
    exact ⟨rfl, comp_new _ _ _ _ _ _ _ _ _ _ _ _ _ _ _ _ _, ((Below.refl _ _).alloc (Nat.le_refl _) _).alloc (by simp) _⟩
  | false =>
    go_enter Try.func7, Try.ntmps7
    go_wp2
    go_ret
    exact ⟨rfl, comp_new _ _ _ _ _ _ _ _ _ _ _ _ _ _ _ _ _, ((Below.refl _ _).alloc (Nat.le_refl _) _).alloc (by simp) _⟩

/-- What listsFirst answers. -/
def lfB (comp : Bool) (n : Nat) (r rd : ByteArray) : Bool := comp && (decide (0 < n) && (!r.toList.isEmpty || !rd.toList.isEmpty))

set_option maxRecDepth 100000 in
set_option maxHeartbeats 2000000 in
theorem lists_any (P : Nat) (comp : Bool) (a : Option Addr) (n c : Nat) (r rd : ByteArray) (w : World) (hp : CompAt w P comp) :
    Calls Try.prog 12 #[.pointer (some ⟨P, 0, none⟩), .agg #[.string ⟨#[]⟩, .string r, .string rd, .string ⟨#[]⟩, .int .i64 0, .int .i64 0, .int .i64 0, .slice a n c, .slice none 0 0, .nilFunc, .slice none 0 0, .nilFunc, .bool false]] w fun e w' =>
      e = .returned (.bool (lfB comp n r rd)) ∧ Below w.heap.size w w' := by
  obtain ⟨D, hP, hD, h3, h4⟩ := hp
  have e3 := fun (o : Obj) => ((Below.refl w.heap.size w).alloc (Nat.le_refl _) o).cell (p := ⟨P, 3, none⟩) hP |>.trans h3
  have e4 := fun (o : Obj) => ((Below.refl w.heap.size w).alloc (Nat.le_refl _) o).cell (p := ⟨D, 10, none⟩) hD |>.trans h4
  have HB := hide (fun (o : Obj) => (Below.refl w.heap.size w).alloc (Nat.le_refl _) o)
  clear h3 h4
  cases comp with
  | false =>
    go_enter Try.func12, Try.ntmps12
    go_wp2
    go_ret
    exact ⟨rfl, (unhide HB) _⟩
  | true =>
    by_cases hn : 0 < n
    · have hni : (0 : Int) < (n : Int) := by omega
      cases hr : r.toList.isEmpty with
      | true =>
        cases hd : rd.toList.isEmpty with
        | true =>
          have hv : Hid (lfB true n r rd = false) := by unfold Hid lfB; simp only [hr, hd]; simp
          go_enter Try.func12, Try.ntmps12
          go_wp2
          go_ret
          exact ⟨by rw [hv.out]; rfl, (unhide HB) _⟩
        | false =>
          have hv : Hid (lfB true n r rd = true) := by unfold Hid lfB; simp only [hr, hd]; simp [hn]
          go_enter Try.func12, Try.ntmps12
          go_wp2
          go_ret
          exact ⟨by rw [hv.out]; rfl, (unhide HB) _⟩
      | false =>
        have hv : Hid (lfB true n r rd = true) := by unfold Hid lfB; simp only [hr]; simp [hn]
        go_enter Try.func12, Try.ntmps12
        go_wp2
        go_ret
        exact ⟨by rw [hv.out]; rfl, (unhide HB) _⟩
    · have hni : ¬ (0 : Int) < (n : Int) := by omega
      have hv : Hid (lfB true n r rd = false) := by unfold Hid lfB; simp [hn]
      go_enter Try.func12, Try.ntmps12
      go_wp2
      go_ret
      exact ⟨by rw [hv.out]; rfl, (unhide HB) _⟩

set_option maxRecDepth 100000 in
set_option maxHeartbeats 1000000 in
theorem zlists_any (P : Nat) (comp : Bool) (a : Option Addr) (n c : Nat) (r rd : ByteArray) (w : World) (hp : CompAt w P comp) :
    Calls Try.prog 8 #[.pointer (some ⟨P, 0, none⟩), .slice a n c, .string r, .string rd] w fun e w' => e = .returned (.bool (lfB comp n r rd)) ∧ Below w.heap.size w w' := by
  have hcon := lists_any P comp a n c r rd w hp
  clear hp
  generalize lfB comp n r rd = x at hcon
  go_enter Try.func8, Try.ntmps8
  go_wp2_with fail
  refine hcon.mono ?_
  rintro e w1 ⟨rfl, hb⟩
  have HB := hide hb
  clear hb
  go_wp2
  go_ret
  exact ⟨rfl, unhide HB⟩
end Go.Proofs.Qxb6618868a
