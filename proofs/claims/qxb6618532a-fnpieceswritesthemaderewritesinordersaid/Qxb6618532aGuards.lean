/-
  Seat b6618532a: the guards on the road of FnReadsOfFileAgreesWithScansAndKey: what they answer is of no weight; that they come back, turn nothing, and what 'true' tells of the lengths.
-/
import Derived.Test.Qxb6618532aProg
import Derived.WalkKit
import Derived.WalkSpells
import Derived.Outline
namespace Go.Proofs.Qxb6618532a
open Go.RowKit

/-- A slice of strings that can be read: without elements, or its strings lie at its address. -/
def StrRow (w : World) (a : Option Addr) (xs : List ByteArray) : Prop :=
  xs = [] ∨ ∃ b off, a = some ⟨b, off, none⟩ ∧ b < w.heap.size ∧ ∀ j, j < xs.length → w.cell? ⟨b, off + j, none⟩ = some (.string (xs.getD j ByteArray.empty))

/-- It hands back a bool; 'true' tells p. (A name, so that the walk does not go into it.) -/
def SomeBool (p : Prop) (e : Ending) : Prop := ∃ r : Bool, e = .returned (.bool r) ∧ (r = true → p)
theorem SomeBool.no {p : Prop} : SomeBool p (.returned (.bool false)) := ⟨false, rfl, by simp⟩
theorem SomeBool.yes {p : Prop} (h : p) (r : Bool) : SomeBool p (.returned (.bool r)) := ⟨r, rfl, fun _ => h⟩

set_option maxHeartbeats 400000 in
theorem addStrings_any (sum : Int) (a : Option Addr) (xs : List ByteArray) (c : Nat) (w : World) (hr : StrRow w a xs) :
    Calls Try.prog 21 #[.int .i64 sum, .slice a xs.length c] w fun e w' => (∃ x, e = .returned (.int .i64 x)) ∧ w' = w := by
  by_cases h1 : 1048576 < sum
  · go_enter Try.func21, Try.ntmps21
    go_wp2
    go_ret
    exact ⟨⟨_, rfl⟩, rfl⟩
  · by_cases h2 : 1048576 < (xs.length : Int)
    · go_enter Try.func21, Try.ntmps21
      go_wp2
      go_ret
      exact ⟨⟨_, rfl⟩, rfl⟩
    · go_enter Try.func21, Try.ntmps21
      go_wp2
      go_loop [0, 5] (fun s j => ∃ (x : Int) (k : Nat), k ≤ xs.length ∧ s = .int .i64 x ∧ j = .int .i64 k) (fun _ j => xs.length - (intOf j).toNat)
      case atStart => exact ⟨_, 0, Nat.zero_le _, rfl, rfl⟩
      case round =>
        obtain ⟨x, k, hk, rfl, rfl⟩ := hrel
        by_cases hlt : k < xs.length
        · rcases hr with hr | ⟨b, off, rfl, hb, hc⟩
          · subst hr; simp at hlt
          have hck := hc k hlt
          by_cases hx : 1048576 < x
          · go_wp2
            go_ret
            exact ⟨⟨_, rfl⟩, rfl⟩
          · go_wp2
            · go_ret
              exact ⟨⟨_, rfl⟩, rfl⟩
            · go_round
              case rel => exact ⟨_, k + 1, by omega, rfl, by go_num⟩
              case measure => simp [intOf]; omega
        · go_wp2
          go_ret
          exact ⟨⟨_, rfl⟩, rfl⟩

/-- One list of columns as it lies in memory: its slice's address, its strings, its capacity. -/
structure Cols where
  a : Option Addr
  xs : List ByteArray
  c : Nat

/-- A slice of slices of strings that can be read. -/
def TabRow (w : World) (a : Option Addr) (ts : List Cols) : Prop :=
  (ts = [] ∨ ∃ b off, a = some ⟨b, off, none⟩ ∧ b < w.heap.size ∧ ∀ j, j < ts.length → w.cell? ⟨b, off + j, none⟩ = some (.slice (ts.getD j ⟨none, [], 0⟩).a (ts.getD j ⟨none, [], 0⟩).xs.length (ts.getD j ⟨none, [], 0⟩).c)) ∧
  ∀ j, j < ts.length → StrRow w (ts.getD j ⟨none, [], 0⟩).a (ts.getD j ⟨none, [], 0⟩).xs

set_option maxHeartbeats 400000 in
theorem addTables_any (sum : Int) (a : Option Addr) (ts : List Cols) (c : Nat) (w : World) (hr : TabRow w a ts) :
    Calls Try.prog 20 #[.int .i64 sum, .slice a ts.length c] w fun e w' => (∃ x, e = .returned (.int .i64 x)) ∧ w' = w := by
  by_cases h1 : 1048576 < sum
  · go_enter Try.func20, Try.ntmps20
    go_wp2
    go_ret
    exact ⟨⟨_, rfl⟩, rfl⟩
  · by_cases h2 : 1048576 < (ts.length : Int)
    · go_enter Try.func20, Try.ntmps20
      go_wp2
      go_ret
      exact ⟨⟨_, rfl⟩, rfl⟩
    · go_enter Try.func20, Try.ntmps20
      go_wp2
      go_loop [0, 5] (fun s j => ∃ (x : Int) (k : Nat), k ≤ ts.length ∧ s = .int .i64 x ∧ j = .int .i64 k) (fun _ j => ts.length - (intOf j).toNat)
      case atStart => exact ⟨_, 0, Nat.zero_le _, rfl, rfl⟩
      case round =>
        obtain ⟨x, k, hk, rfl, rfl⟩ := hrel
        by_cases hlt : k < ts.length
        · obtain ⟨hr, hs⟩ := hr
          rcases hr with hr | ⟨b, off, rfl, hb, hc⟩
          · subst hr; simp at hlt
          have hck := hc k hlt
          have hsk := hs k hlt
          clear hc hs
          generalize ts.getD k ⟨none, [], 0⟩ = r at hck hsk
          obtain ⟨ra, rxs, rc⟩ := r
          simp only at hck hsk
          have HS : Hid (StrRow w ra rxs) := hsk
          clear hsk
          by_cases hx : 1048576 < x
          · go_wp2
            go_ret
            exact ⟨⟨_, rfl⟩, rfl⟩
          · go_wp2_with (go_at_call 21; refine (addStrings_any _ _ rxs _ _ HS.out).mono ?_; rintro e w' ⟨⟨y, rfl⟩, rfl⟩)
            go_round
            case rel => exact ⟨_, k + 1, by omega, rfl, by go_num⟩
            case measure => simp [intOf]; omega
        · go_wp2
          go_ret
          exact ⟨⟨_, rfl⟩, rfl⟩

set_option maxHeartbeats 400000 in
theorem fits_any (a0 : Option Addr) (ts : List Cols) (c0 : Nat) (a1 : Option Addr) (n1 c1 : Nat) (a2 : Option Addr) (rs : List ByteArray) (c2 : Nat) (w : World) (h0 : TabRow w a0 ts) (h2 : StrRow w a2 rs) :
    Calls Try.prog 6 #[.slice a0 ts.length c0, .slice a1 n1 c1, .slice a2 rs.length c2] w fun e w' => SomeBool (ts.length ≤ 65536 ∧ n1 ≤ 65536 ∧ rs.length ≤ 65536) e ∧ w' = w := by
  have H0 : Hid (TabRow w a0 ts) := h0
  have H2 : Hid (StrRow w a2 rs) := h2
  clear h0 h2
  by_cases g0 : 65536 < (ts.length : Int)
  · go_enter Try.func6, Try.ntmps6
    go_wp2
    go_ret
    exact ⟨SomeBool.no, rfl⟩
  by_cases g1 : 65536 < (n1 : Int)
  · go_enter Try.func6, Try.ntmps6
    go_wp2
    go_ret
    exact ⟨SomeBool.no, rfl⟩
  by_cases g2 : 65536 < (rs.length : Int)
  · go_enter Try.func6, Try.ntmps6
    go_wp2
    go_ret
    exact ⟨SomeBool.no, rfl⟩
  go_enter Try.func6, Try.ntmps6
  go_wp2_with (first | (go_at_call 20; refine (addTables_any _ _ ts _ _ H0.out).mono ?_; rintro e w' ⟨⟨y, rfl⟩, rfl⟩) | (go_at_call 21; refine (addStrings_any _ _ rs _ _ H2.out).mono ?_; rintro e w' ⟨⟨y, rfl⟩, rfl⟩))
  · go_ret
    exact ⟨SomeBool.no, rfl⟩
  · go_ret
    exact ⟨SomeBool.yes ⟨by omega, by omega, by omega⟩ _, rfl⟩

/-- What 'true' of the byte guard tells. -/
def Within (ts : List Cols) (n1 : Nat) (rs : List ByteArray) : Prop :=
  ts.length ≤ 1048576 ∧ (∀ j, j < ts.length → (ts.getD j ⟨none, [], 0⟩).xs.length ≤ 1048576) ∧ n1 ≤ 1048576 ∧ rs.length ≤ 1048576

def UpTo (ts : List Cols) (k : Nat) : Prop := ∀ j, j < k → (ts.getD j ⟨none, [], 0⟩).xs.length ≤ 1048576
theorem UpTo.zero (ts : List Cols) : UpTo ts 0 := fun j h => by omega
theorem UpTo.succ {ts : List Cols} {k : Nat} (h : UpTo ts k) (hk : (ts.getD k ⟨none, [], 0⟩).xs.length ≤ 1048576) : UpTo ts (k + 1) := fun j hj => by
  by_cases e : j = k
  · subst e; exact hk
  · exact h j (by omega)

set_option maxHeartbeats 1000000 in
theorem bytes_any (a0 : Option Addr) (ts : List Cols) (c0 : Nat) (a1 : Option Addr) (n1 c1 : Nat) (keyed : Bool) (own : Int) (a4 : Option Addr) (rs : List ByteArray) (c4 : Nat) (w : World) (h0 : TabRow w a0 ts) (h4 : StrRow w a4 rs) :
    Calls Try.prog 5 #[.slice a0 ts.length c0, .slice a1 n1 c1, .bool keyed, .int .i64 own, .slice a4 rs.length c4] w fun e w' => SomeBool (Within ts n1 rs) e ∧ w' = w := by
  by_cases g0 : 1048576 < (ts.length : Int)
  · go_enter Try.func5, Try.ntmps5
    go_wp2
    go_ret
    exact ⟨SomeBool.no, rfl⟩
  go_enter Try.func5, Try.ntmps5
  go_wp2
  go_loop [11, 12] (fun s i => ∃ (x : Int) (k : Nat), k ≤ ts.length ∧ s = .int .i64 x ∧ i = .int .i64 k ∧ 0 ≤ x ∧ x ≤ 1048576 ∧ UpTo ts k) (fun _ i => ts.length - (intOf i).toNat)
  case atStart => exact ⟨_, 0, Nat.zero_le _, rfl, rfl, by omega, by omega, UpTo.zero _⟩
  case round =>
    obtain ⟨x, k, hk, rfl, rfl, hx0, hx1, hup⟩ := hrel
    by_cases hlt : k < ts.length
    · obtain ⟨hr, hs⟩ := h0
      rcases hr with hr | ⟨b, off, rfl, hb, hc⟩
      · subst hr; simp at hlt
      have hck := hc k hlt
      have hsk := hs k hlt
      have hnext : Hid ((ts.getD k ⟨none, [], 0⟩).xs.length ≤ 1048576 → UpTo ts (k + 1)) := hup.succ
      clear hc hs hup
      generalize ts.getD k ⟨none, [], 0⟩ = r at hck hsk hnext
      obtain ⟨ra, rxs, rc⟩ := r
      simp only at hck hsk hnext
      have HS : Hid (StrRow w ra rxs) := hsk
      clear hsk
      by_cases g1 : 1048576 < (rxs.length : Int)
      · go_wp2
        go_ret
        exact ⟨SomeBool.no, rfl⟩
      by_cases g2 : 1048576 < x + (rxs.length : Int)
      · go_wp2
        go_ret
        exact ⟨SomeBool.no, rfl⟩
      go_wp2
      go_loop [11, 13] (fun s i => ∃ (y : Int) (m : Nat), m ≤ rxs.length ∧ s = .int .i64 y ∧ i = .int .i64 m ∧ 0 ≤ y ∧ y ≤ 1048576) (fun _ i => rxs.length - (intOf i).toNat)
      case atStart => exact ⟨_, 0, Nat.zero_le _, rfl, rfl, by omega, by omega⟩
      case round =>
        obtain ⟨y, m, hm, rfl, rfl, hy0, hy1⟩ := hrel
        by_cases hltm : m < rxs.length
        · rcases HS.out with hr | ⟨b2, off2, rfl, hb2, hc2⟩
          · subst hr; simp at hltm
          have hcm := hc2 m hltm
          clear hc2
          generalize rxs.getD m ByteArray.empty = str at hcm
          by_cases g3 : 1048576 < (str.size : Int)
          · go_wp2
            go_ret
            exact ⟨SomeBool.no, rfl⟩
          by_cases g4 : 1048576 < y + (str.size : Int)
          · go_wp2
            go_ret
            exact ⟨SomeBool.no, rfl⟩
          go_wp2
          go_round
          case rel => exact ⟨_, m + 1, by omega, rfl, by go_num, by omega, by omega⟩
          case measure => simp [intOf]; omega
        · go_wp2
          go_round
          case rel => exact ⟨_, k + 1, by omega, rfl, by go_num, by omega, by omega, hnext.out (by omega)⟩
          case measure => simp [intOf]; omega
    · have hke : k = ts.length := by omega
      have hall : Hid (UpTo ts ts.length) := by subst hke; exact hup
      clear hup hke
      by_cases g1 : 1048576 < (n1 : Int)
      · go_wp2
        go_ret
        exact ⟨SomeBool.no, rfl⟩
      by_cases g2 : 1048576 < x + (n1 : Int)
      · go_wp2
        go_ret
        exact ⟨SomeBool.no, rfl⟩
      by_cases g3 : 1048576 < (rs.length : Int)
      · go_wp2
        go_ret
        exact ⟨SomeBool.no, rfl⟩
      by_cases g4 : 1048576 < x + (n1 : Int) + (rs.length : Int)
      · go_wp2
        go_ret
        exact ⟨SomeBool.no, rfl⟩
      go_wp2
      go_loop [11, 14] (fun s i => ∃ (y : Int) (m : Nat), m ≤ rs.length ∧ s = .int .i64 y ∧ i = .int .i64 m ∧ 0 ≤ y ∧ y ≤ 1048576) (fun _ i => rs.length - (intOf i).toNat)
      case atStart => exact ⟨_, 0, Nat.zero_le _, rfl, rfl, by omega, by omega⟩
      case round =>
        obtain ⟨y, m, hm, rfl, rfl, hy0, hy1⟩ := hrel
        by_cases hltm : m < rs.length
        · rcases h4 with hr | ⟨b2, off2, rfl, hb2, hc2⟩
          · subst hr; simp at hltm
          have hcm := hc2 m hltm
          clear hc2
          generalize rs.getD m ByteArray.empty = str at hcm
          by_cases g5 : 1048576 < (str.size : Int)
          · go_wp2
            go_ret
            exact ⟨SomeBool.no, rfl⟩
          by_cases g6 : 1048576 < y + (str.size : Int)
          · go_wp2
            go_ret
            exact ⟨SomeBool.no, rfl⟩
          go_wp2
          go_round
          case rel => exact ⟨_, m + 1, by omega, rfl, by go_num, by omega, by omega⟩
          case measure => simp [intOf]; omega
        · go_wp2
          go_ret
          exact ⟨SomeBool.yes ⟨by omega, hall.out, by omega, by omega⟩ _, rfl⟩

end Go.Proofs.Qxb6618532a
