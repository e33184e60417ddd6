/-
  Seat b6618532a: FnPiecesWritesTheMadeRewritesInOrder: her data in memory; zzWithin, zzAddTokens, zzAddRewrites, the byte guard.
-/
import Derived.Test.Qxb6618532aGuards
import Derived.Deep.QuietTactic
import Derived.BigQuiet
namespace Go.Proofs.Qxb6618532a
open Go.RowKit

structure Tok where
  kind : Int
  text : ByteArray
structure Rw where
  text : ByteArray
  f : Int
  l : Int
  minus : Bool

def t0 : Tok := ⟨0, ByteArray.empty⟩
def r0 : Rw := ⟨ByteArray.empty, 0, 0, false⟩

/-- A slice of ZToken that can be read. -/
def TokRow (w : World) (a : Option Addr) (tl : List Tok) : Prop :=
  tl = [] ∨ ∃ b off, a = some ⟨b, off, none⟩ ∧ b < w.heap.size ∧ ∀ j, j < tl.length → w.cell? ⟨b, off + j * 2, none⟩ = some (.int .i64 (tl.getD j t0).kind) ∧ w.cell? ⟨b, off + j * 2 + 1, none⟩ = some (.string (tl.getD j t0).text)
/-- A slice of ZRewrite that can be read. -/
def RwRow (w : World) (a : Option Addr) (rl : List Rw) : Prop :=
  rl = [] ∨ ∃ b off, a = some ⟨b, off, none⟩ ∧ b < w.heap.size ∧ ∀ j, j < rl.length → w.cell? ⟨b, off + j * 4, none⟩ = some (.string (rl.getD j r0).text) ∧ w.cell? ⟨b, off + j * 4 + 1, none⟩ = some (.int .i64 (rl.getD j r0).f) ∧
    w.cell? ⟨b, off + j * 4 + 2, none⟩ = some (.int .i64 (rl.getD j r0).l) ∧ w.cell? ⟨b, off + j * 4 + 3, none⟩ = some (.bool (rl.getD j r0).minus)

theorem TokRow.below {w w' : World} {a : Option Addr} {tl : List Tok} (h : TokRow w a tl) (hb : Below w.heap.size w w') : TokRow w' a tl := by
  rcases h with h | ⟨b, off, rfl, hlt, hc⟩
  · exact .inl h
  · exact .inr ⟨b, off, rfl, Nat.lt_of_lt_of_le hlt hb.size, fun j hj => ⟨(hb.cell (p := ⟨b, _, none⟩) hlt).trans (hc j hj).1, (hb.cell (p := ⟨b, _, none⟩) hlt).trans (hc j hj).2⟩⟩
theorem RwRow.below {w w' : World} {a : Option Addr} {rl : List Rw} (h : RwRow w a rl) (hb : Below w.heap.size w w') : RwRow w' a rl := by
  rcases h with h | ⟨b, off, rfl, hlt, hc⟩
  · exact .inl h
  · exact .inr ⟨b, off, rfl, Nat.lt_of_lt_of_le hlt hb.size, fun j hj => ⟨(hb.cell (p := ⟨b, _, none⟩) hlt).trans (hc j hj).1, (hb.cell (p := ⟨b, _, none⟩) hlt).trans (hc j hj).2.1, (hb.cell (p := ⟨b, _, none⟩) hlt).trans (hc j hj).2.2.1, (hb.cell (p := ⟨b, _, none⟩) hlt).trans (hc j hj).2.2.2⟩⟩

/-- Does a lie within b? -/
def winB (af al bf bl : Int) : Bool := decide (bf ≤ af ∧ al ≤ bl)

theorem within_any (af al bf bl : Int) (w : World) :
    Calls Try.prog 17 #[.int .i64 af, .int .i64 al, .int .i64 bf, .int .i64 bl] w fun e w' => e = .returned (.bool (winB af al bf bl)) ∧ w' = w := by
  by_cases h1 : bf ≤ af
  · by_cases h2 : al ≤ bl
    · have hw : winB af al bf bl = true := by simp [winB, h1, h2]
      rw [hw]
      go_enter Try.func17, Try.ntmps17
      go_wp2
      go_ret
      exact ⟨rfl, rfl⟩
    · have hw : winB af al bf bl = false := by simp [winB, h2]
      rw [hw]
      go_enter Try.func17, Try.ntmps17
      go_wp2
      go_ret
      exact ⟨rfl, rfl⟩
  · have hw : winB af al bf bl = false := by simp [winB, h1]
    rw [hw]
    have h1' : af < bf := by omega
    go_enter Try.func17, Try.ntmps17
    go_wp2
    go_ret
    exact ⟨rfl, rfl⟩

set_option maxHeartbeats 400000 in
theorem addTokens_any (sum : Int) (a : Option Addr) (tl : List Tok) (c : Nat) (w : World) (hr : TokRow w a tl) :
    Calls Try.prog 23 #[.int .i64 sum, .slice a tl.length c] w fun e w' => (∃ x, e = .returned (.int .i64 x)) ∧ w' = w := by
  by_cases h1 : 1048576 < sum
  · go_enter Try.func23, Try.ntmps23
    go_wp2
    go_ret
    exact ⟨⟨_, rfl⟩, rfl⟩
  · by_cases h2 : 1048576 < (tl.length : Int)
    · go_enter Try.func23, Try.ntmps23
      go_wp2
      go_ret
      exact ⟨⟨_, rfl⟩, rfl⟩
    · go_enter Try.func23, Try.ntmps23
      go_wp2
      go_loop [0, 5] (fun s j => ∃ (x : Int) (k : Nat), k ≤ tl.length ∧ s = .int .i64 x ∧ j = .int .i64 k) (fun _ j => tl.length - (intOf j).toNat)
      case atStart => exact ⟨_, 0, Nat.zero_le _, rfl, rfl⟩
      case round =>
        obtain ⟨x, k, hk, rfl, rfl⟩ := hrel
        by_cases hlt : k < tl.length
        · rcases hr with hr | ⟨b, off, rfl, hb, hc⟩
          · subst hr; simp at hlt
          have hck := (hc k hlt).2
          clear hc
          generalize (tl.getD k t0).text = str at hck
          by_cases hx : 1048576 < x
          · go_wp2
            go_ret
            exact ⟨⟨_, rfl⟩, rfl⟩
          · go_wp2
            · go_ret
              exact ⟨⟨_, rfl⟩, rfl⟩
            · go_round
              case rel => exact ⟨_, k + 1, by omega, rfl, by go_num⟩
              case measure => simp [intOf]; omega
        · go_wp2
          go_ret
          exact ⟨⟨_, rfl⟩, rfl⟩

set_option maxHeartbeats 400000 in
theorem addRewrites_any (sum : Int) (a : Option Addr) (rl : List Rw) (c : Nat) (w : World) (hr : RwRow w a rl) :
    Calls Try.prog 24 #[.int .i64 sum, .slice a rl.length c] w fun e w' => (∃ x, e = .returned (.int .i64 x)) ∧ w' = w := by
  by_cases h1 : 1048576 < sum
  · go_enter Try.func24, Try.ntmps24
    go_wp2
    go_ret
    exact ⟨⟨_, rfl⟩, rfl⟩
  · by_cases h2 : 1048576 < (rl.length : Int)
    · go_enter Try.func24, Try.ntmps24
      go_wp2
      go_ret
      exact ⟨⟨_, rfl⟩, rfl⟩
    · go_enter Try.func24, Try.ntmps24
      go_wp2
      go_loop [0, 5] (fun s j => ∃ (x : Int) (k : Nat), k ≤ rl.length ∧ s = .int .i64 x ∧ j = .int .i64 k) (fun _ j => rl.length - (intOf j).toNat)
      case atStart => exact ⟨_, 0, Nat.zero_le _, rfl, rfl⟩
      case round =>
        obtain ⟨x, k, hk, rfl, rfl⟩ := hrel
        by_cases hlt : k < rl.length
        · rcases hr with hr | ⟨b, off, rfl, hb, hc⟩
          · subst hr; simp at hlt
          have hck := (hc k hlt).1
          clear hc
          generalize (rl.getD k r0).text = str at hck
          by_cases hx : 1048576 < x
          · go_wp2
            go_ret
            exact ⟨⟨_, rfl⟩, rfl⟩
          · go_wp2
            · go_ret
              exact ⟨⟨_, rfl⟩, rfl⟩
            · go_round
              case rel => exact ⟨_, k + 1, by omega, rfl, by go_num⟩
              case measure => simp [intOf]; omega
        · go_wp2
          go_ret
          exact ⟨⟨_, rfl⟩, rfl⟩

end Go.Proofs.Qxb6618532a
