/-
  Seat b6618532a: span.within, (*textWriter).at, pieces' closure 'inside', skips' closure 'op'.
-/
import Derived.Test.Qxb6618532aPMake
import Derived.Test.Qxb6618532aPGuards
import Derived.Deep.RegionWith
import Derived.Deep.QuietTactic
import Derived.BigQuiet
namespace Go.Proofs.Qxb6618532a
open Go.RowKit

abbrev spanO (f l : Int) : Obj := .cells #[.int .i64 f, .int .i64 l] 90

set_option maxHeartbeats 400000 in
theorem spanWithin_any (sf sl tf tl : Int) (w : World) :
    Calls Try.prog 32 #[.agg #[.int .i64 sf, .int .i64 sl], .agg #[.int .i64 tf, .int .i64 tl]] w fun e w' => e = .returned (.bool (winB sf sl tf tl)) ∧ w' = (w.alloc (spanO sf sl)).alloc (spanO tf tl) := by
  by_cases h1 : tf ≤ sf
  · by_cases h2 : sl ≤ tl
    · have hw : winB sf sl tf tl = true := by simp [winB, h1, h2]
      rw [hw]
      go_enter Try.func32, Try.ntmps32
      go_wp2
      go_ret
      exact ⟨rfl, rfl⟩
    · have hw : winB sf sl tf tl = false := by simp [winB, h2]
      rw [hw]
      go_enter Try.func32, Try.ntmps32
      go_wp2
      go_ret
      exact ⟨rfl, rfl⟩
  · have hw : winB sf sl tf tl = false := by simp [winB, h1]
    rw [hw]
    have h1' : sf < tf := by omega
    go_enter Try.func32, Try.ntmps32
    go_wp2
    go_ret
    exact ⟨rfl, rfl⟩

set_option maxRecDepth 100000 in
set_option maxHeartbeats 2000000 in
/-- at: all the rewrites, where 'next' says so. -/
theorem at_any (W X rn nN : Nat) (ao : Option Addr) (cap : Nat) (i h : Nat) (w : World) (hi : i ≤ 65536) (hh : h ≤ 2) (hk : 3 * i + h + 1 < nN) (hrc : rn ≤ cap) (hnil : ao = none → rn = 0 ∧ cap = 0) (hca : (cap : Int) ≤ 9223372036854775807)
    (c3 : w.cell? ⟨W, 3, none⟩ = some (.slice ao rn cap)) (c4 : w.cell? ⟨W, 4, none⟩ = some (.slice (some ⟨X, 0, none⟩) nN nN))
    (x0 : w.cell? ⟨X, 3 * i + h, none⟩ = some (.int .i64 0)) (x1 : w.cell? ⟨X, 3 * i + h + 1, none⟩ = some (.int .i64 rn)) :
    Calls Try.prog 30 #[.pointer (some ⟨W, 0, none⟩), .int .i64 i, .int .i64 h] w fun e w' => e = .returned (.slice ao rn cap) ∧ ∃ n, w' = w.drewN n := by
  have q1 : 3 * (i : Int) + (h : Int) < (nN : Int) := by omega
  have q2 : 3 * (i : Int) + (h : Int) + 1 < (nN : Int) := by omega
  cases ao with
  | none =>
    obtain ⟨rfl, rfl⟩ := hnil rfl
    go_enter Try.func30, Try.ntmps30
    go_wp2
    go_quiet (fail)
    go_wp2
    go_ret
    exact ⟨rfl, _, rfl⟩
  | some ad =>
    obtain ⟨b, off, spot⟩ := ad
    have hr2 : (rn : Int) ≤ (cap : Int) := by omega
    go_enter Try.func30, Try.ntmps30
    go_wp2
    go_quiet (fail)
    go_wp2
    go_ret
    exact ⟨rfl, _, rfl⟩

set_option maxRecDepth 100000 in
set_option maxHeartbeats 2000000 in
theorem inside_nil (k : Int) (c1 c2 : Nat) (w : World) (h1 : w.cell? ⟨c1, 0, none⟩ = some (.pointer none)) :
    Calls Try.prog 31 #[.int .i64 k, .pointer (some ⟨c1, 0, none⟩), .pointer (some ⟨c2, 0, none⟩)] w fun e w' => e = .returned (.bool false) ∧ Below w.heap.size w w' := by
  go_enter Try.func31, Try.ntmps31
  go_wp2
  go_quiet (fail)
  go_wp2
  go_ret
  exact ⟨rfl, below_drewN2 (Below.refl _ _) _⟩

set_option maxRecDepth 100000 in
set_option maxHeartbeats 2000000 in
theorem inside_some (k : Nat) (c1 c2 rb g n cap : Nat) (f l rf rl : Int) (w : World) (h1 : w.cell? ⟨c1, 0, none⟩ = some (.pointer (some ⟨rb, 0, none⟩))) (h2 : w.cell? ⟨c2, 0, none⟩ = some (.slice (some ⟨g, 0, none⟩) n cap))
    (hk : k < n) (e7 : w.cell? ⟨g, k * 10 + 7, none⟩ = some (.int .i64 f)) (e8 : w.cell? ⟨g, k * 10 + 7 + 1, none⟩ = some (.int .i64 l)) (r0 : w.cell? ⟨rb, 0, none⟩ = some (.int .i64 rf)) (r1 : w.cell? ⟨rb, 1, none⟩ = some (.int .i64 rl)) :
    Calls Try.prog 31 #[.int .i64 k, .pointer (some ⟨c1, 0, none⟩), .pointer (some ⟨c2, 0, none⟩)] w fun e w' => e = .returned (.bool (winB f l rf rl)) ∧ Below w.heap.size w w' := by
  have q : (k : Int) < (n : Int) := by omega
  go_enter Try.func31, Try.ntmps31
  go_wp2
  go_region_with (go_at_call 32; refine (spanWithin_any _ _ _ _ _).mono ?_; rintro e w' ⟨rfl, rfl⟩)
  all_goals go_wp2
  all_goals go_ret
  all_goals (refine ⟨rfl, ?_⟩; exact (((Below.refl _ _).alloc (Nat.le_refl _) _).alloc (by simp) _).drew)

/-- Is the token an opening parenthesis? -/
def opB (t : Tok) : Bool := decide (t.kind = 6) && (t.text.toList == [40])

set_option maxRecDepth 100000 in
set_option maxHeartbeats 2000000 in
theorem op_any (k : Nat) (cw W g n cap : Nat) (t : Tok) (w : World) (h1 : w.cell? ⟨cw, 0, none⟩ = some (.pointer (some ⟨W, 0, none⟩))) (h2 : w.cell? ⟨W, 2, none⟩ = some (.slice (some ⟨g, 0, none⟩) n cap))
    (hk : k < n) (e0 : w.cell? ⟨g, k * 5, none⟩ = some (.int .i64 t.kind)) (e1 : w.cell? ⟨g, k * 5 + 1, none⟩ = some (.string t.text)) :
    Calls Try.prog 36 #[.int .i64 k, .string ⟨#[40]⟩, .pointer (some ⟨cw, 0, none⟩)] w fun e w' => e = .returned (.bool (opB t)) ∧ w' = w := by
  have q : (k : Int) < (n : Int) := by omega
  obtain ⟨kind, text⟩ := t
  simp only at e0 e1
  by_cases hkd : kind = 6
  · subst hkd
    have ho : opB ⟨6, text⟩ = (text.toList == [40]) := by simp [opB]
    rw [ho]
    go_enter Try.func36, Try.ntmps36
    go_wp2
    go_ret
    exact ⟨by simp, rfl⟩
  · have ho : opB ⟨kind, text⟩ = false := by simp [opB, hkd]
    rw [ho]
    have hb : (kind == 6) = false := by simpa using hkd
    clear hkd
    go_enter Try.func36, Try.ntmps36
    go_wp2
    go_ret
    exact ⟨rfl, rfl⟩

end Go.Proofs.Qxb6618532a
