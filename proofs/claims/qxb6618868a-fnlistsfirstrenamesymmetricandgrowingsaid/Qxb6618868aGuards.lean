/-
  Seat b6618868a: the guards, lfTooBig, lfFirstOnly, lfOneMore: contracts.
-/
import Derived.Test.Qxb6618868aBase
namespace Go.Proofs.Qxb6618868a
open Go.RowKit

/-- A slice of strings that can be read: without elements, or its strings lie at its address. -/
def StrRow (w : World) (a : Option Addr) (xs : List ByteArray) : Prop :=
  xs = [] ∨ ∃ b off, a = some ⟨b, off, none⟩ ∧ b < w.heap.size ∧ ∀ j, j < xs.length → w.cell? ⟨b, off + j, none⟩ = some (.string (xs.getD j ByteArray.empty))
theorem StrRow.below {w w' : World} {a : Option Addr} {xs : List ByteArray} (h : StrRow w a xs) (hb : Below w.heap.size w w') : StrRow w' a xs := by
  rcases h with h | ⟨b, off, rfl, hlt, hc⟩
  · exact .inl h
  · exact .inr ⟨b, off, rfl, Nat.lt_of_lt_of_le hlt hb.size, fun j hj => (hb.cell (p := ⟨b, off + j, none⟩) hlt).trans (hc j hj)⟩
/-- It hands back a bool. -/
def ABool (e : Ending) : Prop := ∃ r : Bool, e = .returned (.bool r)
theorem ABool.mk' (r : Bool) : ABool (.returned (.bool r)) := ⟨r, rfl⟩

set_option maxRecDepth 100000 in
set_option maxHeartbeats 1000000 in
theorem tooBig_any (a : Option Addr) (xs : List ByteArray) (c : Nat) (rest : Int) (w : World) (hl : xs.length ≤ 1048576) (hr : StrRow w a xs) :
    Calls Try.prog 6 #[.slice a xs.length c, .int .i64 rest] w fun e w' => ABool e ∧ w' = w := by
  have HR := hide hr
  clear hr
  by_cases h1 : 1048576 < rest
  · go_enter Try.func6, Try.ntmps6
    go_wp2
    go_ret
    exact ⟨ABool.mk' _, rfl⟩
  · go_enter Try.func6, Try.ntmps6
    go_wp2
    go_loop [5, 6] (fun s j => ∃ (x : Int) (k : Nat), k ≤ xs.length ∧ s = .int .i64 x ∧ j = .int .i64 k) (fun _ j => xs.length - (intOf j).toNat)
    case atStart => exact ⟨_, 0, Nat.zero_le _, rfl, rfl⟩
    case round =>
      obtain ⟨x, k, hk, rfl, rfl⟩ := hrel
      by_cases hlt : k < xs.length
      · rcases unhide HR with hr | ⟨b, off, rfl, hb, hc⟩
        · subst hr; simp at hlt
        have hck := hc k hlt
        have hkn : (k : Int) < (xs.length : Int) := by omega
        clear hc
        generalize xs.getD k ByteArray.empty = y at hck
        go_wp2
        · go_ret
          exact ⟨ABool.mk' _, rfl⟩
        · go_round
          case rel => exact ⟨_, k + 1, by omega, rfl, by go_num⟩
          case measure => simp [intOf]; omega
      · go_wp2
        go_ret
        exact ⟨ABool.mk' _, rfl⟩

theorem info9 : (Try.prog.info? 9).map (fun i => (i.zero, i.size, i.bytes)) = some (some (.string ⟨#[]⟩), 1, 16) := by kernel_rfl

set_option maxRecDepth 100000 in
set_option maxHeartbeats 1000000 in
theorem zz5_any (comp : Bool) (a : Option Addr) (xs : List ByteArray) (c : Nat) (r rd : ByteArray) (w : World) (hr : StrRow w a xs) :
    Calls Try.prog 5 #[.bool comp, .slice a xs.length c, .string r, .string rd] w fun e w' => ABool e ∧ w' = w := by
  have HR := hide hr
  clear hr
  by_cases h1 : 1048576 < (xs.length : Int)
  · go_enter Try.func5, Try.ntmps5
    go_wp2
    go_ret
    exact ⟨ABool.mk' _, rfl⟩
  · go_enter Try.func5, Try.ntmps5
    go_wp2
    go_loop [9, 10] (fun s j => ∃ (x : Int) (k : Nat), k ≤ xs.length ∧ s = .int .i64 x ∧ j = .int .i64 k) (fun _ j => xs.length - (intOf j).toNat)
    case atStart => exact ⟨_, 0, Nat.zero_le _, rfl, rfl⟩
    case round =>
      obtain ⟨x, k, hk, rfl, rfl⟩ := hrel
      by_cases hlt : k < xs.length
      · rcases unhide HR with hr | ⟨b, off, rfl, hb, hc⟩
        · subst hr; simp at hlt
        have hck := hc k hlt
        have hkn : (k : Int) < (xs.length : Int) := by omega
        clear hc
        generalize xs.getD k ByteArray.empty = y at hck
        go_wp2
        all_goals first
          | (go_ret; exact ⟨ABool.mk' _, rfl⟩)
          | (refine ⟨⟨_, k + 1, by omega, rfl, by go_num⟩, ?_⟩; simp [intOf]; omega)
      · go_wp2
        all_goals (go_ret; exact ⟨ABool.mk' _, rfl⟩)

set_option maxRecDepth 100000 in
set_option maxHeartbeats 1000000 in
theorem zz11_any (comp : Bool) (a : Option Addr) (xs : List ByteArray) (c : Nat) (r rd ex : ByteArray) (w : World) (hr : StrRow w a xs) :
    Calls Try.prog 11 #[.bool comp, .slice a xs.length c, .string r, .string rd, .string ex] w fun e w' => ABool e ∧ w' = w := by
  have HR := hide hr
  clear hr
  by_cases h1 : 1048576 < (xs.length : Int)
  · go_enter Try.func11, Try.ntmps11
    go_wp2
    go_ret
    exact ⟨ABool.mk' _, rfl⟩
  · go_enter Try.func11, Try.ntmps11
    go_wp2
    go_loop [11, 12] (fun s j => ∃ (x : Int) (k : Nat), k ≤ xs.length ∧ s = .int .i64 x ∧ j = .int .i64 k) (fun _ j => xs.length - (intOf j).toNat)
    case atStart => exact ⟨_, 0, Nat.zero_le _, rfl, rfl⟩
    case round =>
      obtain ⟨x, k, hk, rfl, rfl⟩ := hrel
      by_cases hlt : k < xs.length
      · rcases unhide HR with hr | ⟨b, off, rfl, hb, hc⟩
        · subst hr; simp at hlt
        have hck := hc k hlt
        have hkn : (k : Int) < (xs.length : Int) := by omega
        clear hc
        generalize xs.getD k ByteArray.empty = y at hck
        go_wp2
        all_goals first
          | (go_ret; exact ⟨ABool.mk' _, rfl⟩)
          | (refine ⟨⟨_, k + 1, by omega, rfl, by go_num⟩, ?_⟩; simp [intOf]; omega)
      · go_wp2
        all_goals (go_ret; exact ⟨ABool.mk' _, rfl⟩)

theorem first_nil (a : Option Addr) (c : Nat) (w : World) :
    Calls Try.prog 9 #[.slice a 0 c] w fun e w' => e = .returned (.slice none 0 0) ∧ w' = w := by
  go_enter Try.func9, Try.ntmps9
  go_wp2
  go_ret
  exact ⟨rfl, rfl⟩

set_option maxRecDepth 100000 in
set_option maxHeartbeats 1000000 in
theorem first_cons (a : Option Addr) (xs : List ByteArray) (c : Nat) (w : World) (hn : 0 < xs.length) (hr : StrRow w a xs) :
    Calls Try.prog 9 #[.slice a xs.length c] w fun e w' => e = .returned (.slice (some ⟨w.heap.size, 0, none⟩) 1 1) ∧ Below w.heap.size w w' := by
  rcases hr with hr | ⟨b, off, rfl, hb, hc⟩
  · subst hr; simp at hn
  have h0 := hc 0 hn
  rw [Nat.add_zero] at h0
  have e0 := fun (o : Obj) => (((Below.refl w.heap.size w).alloc (Nat.le_refl _) o).cell (p := ⟨b, off, none⟩) hb).trans h0
  have hni : (0 : Int) < (xs.length : Int) := by omega
  have hne : ¬ (xs.length : Int) = 0 := by omega
  clear hc
  generalize xs.getD 0 ByteArray.empty = y at h0 e0
  have hmk := run_make_row' (P := Try.prog) 22 9 (.string ⟨#[]⟩) 16 Try.underlying22 info9 rfl .i64 .i64 1 (by omega) (by omega)
  have ec : ((1 : Nat) : Int) = 1 := rfl
  rw [ec] at hmk
  clear ec
  have hrow := World.rowIs_made w (.string ⟨#[]⟩) 1 9
  have c0 := hrow.cell (show 0 < 1 by omega)
  have f0 := hrow.frozen 0
  clear hrow
  go_enter Try.func9, Try.ntmps9
  go_wp2
  go_ret
  exact ⟨rfl, (Below.refl _ _).alloc (Nat.le_refl _) _⟩

set_option maxRecDepth 100000 in
set_option maxHeartbeats 1000000 in
theorem more_any (a : Option Addr) (xs : List ByteArray) (c : Nat) (y : ByteArray) (w : World) (hl : xs.length ≤ 1048576) (hr : StrRow w a xs) :
    Calls Try.prog 10 #[.slice a xs.length c, .string y] w fun e w' => e = .returned (.slice (some ⟨w.heap.size, 0, none⟩) (xs.length + 1) (xs.length + 1)) ∧ Below w.heap.size w w' := by
  have HR := hide hr
  clear hr
  have hmk := run_make_row' (P := Try.prog) 22 9 (.string ⟨#[]⟩) 16 Try.underlying22 info9 rfl .i64 .i64 (xs.length + 1) (by omega) (by omega)
  have ec : ((xs.length + 1 : Nat) : Int) = (xs.length : Int) + 1 := by omega
  rw [ec] at hmk
  clear ec
  go_enter Try.func10, Try.ntmps10
  go_wp2
  clear hmk
  go_loopw [6] (fun v wr => ∃ (k : Nat) (f : Nat → Value), v = .int .i64 k ∧ k ≤ xs.length ∧ wr.rowIs w.heap.size 9 (xs.length + 1) f ∧ Below w.heap.size w wr) (fun v _ => xs.length - (intOf v).toNat)
  case atStart => exact ⟨0, _, rfl, Nat.zero_le _, World.rowIs_made w (.string ⟨#[]⟩) (xs.length + 1) 9, (Below.refl _ _).alloc (Nat.le_refl _) _⟩
  case round =>
    obtain ⟨k, f, rfl, hk, hrow, hbr⟩ := hrel
    by_cases hlt : k < xs.length
    · rcases unhide HR with hr | ⟨b, off, rfl, hb, hc⟩
      · subst hr; simp at hlt
      have hck := (hbr.cell (p := ⟨b, off + k, none⟩) hb).trans (hc k hlt)
      have c0 := hrow.cell (show k < xs.length + 1 by omega)
      have f0 := hrow.frozen k
      have hkn : (k : Int) < (xs.length : Int) := by omega
      generalize xs.getD k ByteArray.empty = z at hck
      have HRW := hide (hrow.set k (.string z))
      have HBR := hide (hbr.setCell (p := ⟨w.heap.size, k, none⟩) (Nat.le_refl _) (.string z))
      clear hc hrow hbr
      go_wp2
      go_roundw
      case rel => exact ⟨k + 1, _, by go_num, by omega, unhide HRW, unhide HBR⟩
      case measure => simp [intOf]; omega
    · obtain rfl : k = xs.length := by omega
      have c0 := hrow.cell (show xs.length < xs.length + 1 by omega)
      have f0 := hrow.frozen xs.length
      have HBR := hide (hbr.setCell (p := ⟨w.heap.size, xs.length, none⟩) (Nat.le_refl _) (.string y))
      clear hrow hbr
      go_wp2
      go_ret
      exact ⟨rfl, unhide HBR⟩
end Go.Proofs.Qxb6618868a
