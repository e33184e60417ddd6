/-
  Seat b6618635aD: zzCloneBytes, the guards, zzUvarintAsSpecified: contracts.
-/
import Derived.Test.Qxb6618635aDoorBytes
namespace Go.Proofs.Qxb6618635aDoor
open Go.RowKit

theorem info5 : (Tryd.prog.info? 5).map (fun i => (i.zero, i.size, i.bytes)) = some (some (.int .u8 0), 1, 1) := by kernel_rfl
/-- The new row when k bytes are copied. -/
def upTo (l : List UInt8) (k j : Nat) : Value := if j < k then .int .u8 ((l.getD j 0).toNat : Int) else .int .u8 0
theorem upTo_zero (l : List UInt8) (j : Nat) : upTo l 0 j = .int .u8 0 := by simp [upTo]
theorem upTo_step (l : List UInt8) (k j : Nat) : (if j = k then (.int .u8 ((l.getD k 0).toNat : Int) : Value) else upTo l k j) = upTo l (k + 1) j := by
  unfold upTo
  by_cases e : j = k
  · subst e; simp
  · rw [if_neg e]
    by_cases h : j < k
    · rw [if_pos h, if_pos (by omega)]
    · rw [if_neg h, if_neg (by omega)]
theorem row_of {w : World} {b : Nat} {l : List UInt8} {B : Nat} (h : w.rowIs b 5 l.length (upTo l l.length)) (hb : b < B) : BRow B w (some ⟨b, 0, none⟩) l := by
  refine .inr ⟨b, 0, rfl, hb, fun j hj => ?_⟩
  have := h.cell hj
  rw [Nat.zero_add]
  simpa [upTo, hj] using this
/-- What a fresh slice of bytes with this content is. -/
def NewRow (w : World) (l : List UInt8) (e : Ending) (w' : World) : Prop := ∃ a c, e = .returned (.slice a l.length c) ∧ l.length ≤ c ∧ BRow w'.heap.size w' a l ∧ Below w.heap.size w w'

set_option maxRecDepth 100000 in
set_option maxHeartbeats 1000000 in
theorem clone_any (a : Option Addr) (l : List UInt8) (c : Nat) (w : World) (hl : l.length ≤ 1048576) (hn : a = none → l = []) (hc : a = none → c = 0) (h : BRow w.heap.size w a l) :
    Calls Tryd.prog 6 #[.slice a l.length c] w fun e w' => NewRow w l e w' := by
  cases a with
  | none =>
    obtain rfl := hn rfl
    obtain rfl := hc rfl
    clear h
    have hnil := fun (w : World) => Lib.run_eql_slice_nil (P := Tryd.prog) w 22 5 none 0 0 0 0 Tryd.underlying22
    simp only [List.length_nil, Option.isNone] at hnil ⊢
    go_enter Tryd.func6, Tryd.ntmps6
    go_wp2
    go_ret
    exact ⟨none, 0, rfl, Nat.le_refl _, .inl rfl, Below.refl _ _⟩
  | some ad =>
    clear hn hc
    have H1 := hide h
    clear h
    have hnil := fun (w : World) => Lib.run_eql_slice_nil (P := Tryd.prog) w 22 5 (some ad) l.length c 0 0 Tryd.underlying22
    simp only [Option.isNone] at hnil
    have hmk := run_make_row' (P := Tryd.prog) 22 5 (.int .u8 0) 1 Tryd.underlying22 info5 rfl .i64 .i64 l.length (by omega) (by omega)
    go_enter Tryd.func6, Tryd.ntmps6
    go_wp2
    clear hmk hnil
    go_loopw [4] (fun v wr => ∃ k : Nat, v = .int .i64 k ∧ k ≤ l.length ∧ wr.rowIs w.heap.size 5 l.length (upTo l k) ∧ Below w.heap.size w wr ∧ wr.heap.size = w.heap.size + 1) (fun v _ => l.length - (intOf v).toNat)
    case atStart => exact ⟨0, rfl, Nat.zero_le _, (World.rowIs_made w (.int .u8 0) l.length 5).congr (fun j _ => (upTo_zero l j).symm), (Below.refl _ _).alloc (Nat.le_refl _) _, by simp⟩
    case round =>
      obtain ⟨k, rfl, hk, hrow, hbr, hsz⟩ := hrel
      by_cases hlt : k < l.length
      · rcases unhide H1 with hr | ⟨g, o, hao, hg, hx⟩
        · subst hr; simp at hlt
        cases hao
        have e1 := (hbr.cell (p := ⟨g, o + k, none⟩) hg).trans (hx k hlt)
        have c0 := hrow.cell hlt
        have f0 := hrow.frozen k
        have HR := hide ((hrow.set k (.int .u8 ((l.getD k 0).toNat : Int))).congr (fun j _ => upTo_step l k j))
        have HBR := hide (hbr.setCell (p := ⟨w.heap.size, k, none⟩) (Nat.le_refl _) (.int .u8 ((l.getD k 0).toNat : Int)))
        have hkn : (k : Int) < (l.length : Int) := by omega
        clear hrow hbr hx
        generalize ((l.getD k 0).toNat : Int) = x at e1 HR HBR
        go_wp2
        go_roundw
        case rel => exact ⟨k + 1, by go_num, by omega, unhide HR, unhide HBR, by simpa using hsz⟩
        case measure => simp [intOf]; omega
      · obtain rfl : k = l.length := by omega
        have HR := hide hrow
        have HB := hide hbr
        clear hrow hbr
        go_wp2
        go_ret
        exact ⟨some ⟨w.heap.size, 0, none⟩, l.length, rfl, Nat.le_refl _, row_of (unhide HR) (by omega), unhide HB⟩

theorem zz14_no (a : Option Addr) (n c : Nat) (f : Bool) (h : 1048576 < n) (w : World) :
    Calls Tryd.prog 14 #[.slice a n c, .bool f] w fun e w' => e = .returned (.bool false) ∧ w' = w := by
  have hi : (1048576 : Int) < n := by omega
  go_enter Tryd.func14, Tryd.ntmps14
  go_wp2
  go_ret
  exact ⟨rfl, rfl⟩
theorem zz14_yes (a : Option Addr) (n c : Nat) (f : Bool) (h : n ≤ 1048576) (w : World) :
    Calls Tryd.prog 14 #[.slice a n c, .bool f] w fun e w' => e = .returned (.bool true) ∧ w' = w := by
  have hi : ¬ (1048576 : Int) < n := by omega
  go_enter Tryd.func14, Tryd.ntmps14
  go_wp2
  go_ret
  exact ⟨rfl, rfl⟩
theorem zz5_no1 (a : Option Addr) (n c : Nat) (f : Bool) (a2 : Option Addr) (n2 c2 : Nat) (h : 1048576 < n) (w : World) :
    Calls Tryd.prog 5 #[.slice a n c, .bool f, .slice a2 n2 c2] w fun e w' => e = .returned (.bool false) ∧ w' = w := by
  have hi : (1048576 : Int) < n := by omega
  go_enter Tryd.func5, Tryd.ntmps5
  go_wp2
  go_ret
  exact ⟨rfl, rfl⟩
theorem zz5_no2 (a : Option Addr) (n c : Nat) (f : Bool) (a2 : Option Addr) (n2 c2 : Nat) (h : n ≤ 1048576) (h2 : 1048576 < n2) (w : World) :
    Calls Tryd.prog 5 #[.slice a n c, .bool f, .slice a2 n2 c2] w fun e w' => e = .returned (.bool false) ∧ w' = w := by
  have hi : ¬ (1048576 : Int) < n := by omega
  have hi2 : (1048576 : Int) < n2 := by omega
  go_enter Tryd.func5, Tryd.ntmps5
  go_wp2
  go_ret
  exact ⟨rfl, rfl⟩
theorem zz5_no3 (a : Option Addr) (n c : Nat) (f : Bool) (a2 : Option Addr) (n2 c2 : Nat) (h : n ≤ 1048576) (h2 : n2 ≤ 1048576) (h3 : 1048576 < n + n2) (w : World) :
    Calls Tryd.prog 5 #[.slice a n c, .bool f, .slice a2 n2 c2] w fun e w' => e = .returned (.bool false) ∧ w' = w := by
  have hi : ¬ (1048576 : Int) < n := by omega
  have hi2 : ¬ (1048576 : Int) < n2 := by omega
  have hi3 : (1048576 : Int) < n + n2 := by omega
  go_enter Tryd.func5, Tryd.ntmps5
  go_wp2
  go_ret
  exact ⟨rfl, rfl⟩
theorem zz5_yes (a : Option Addr) (n c : Nat) (f : Bool) (a2 : Option Addr) (n2 c2 : Nat) (h3 : n + n2 ≤ 1048576) (w : World) :
    Calls Tryd.prog 5 #[.slice a n c, .bool f, .slice a2 n2 c2] w fun e w' => e = .returned (.bool true) ∧ w' = w := by
  have hi : ¬ (1048576 : Int) < n := by omega
  have hi2 : ¬ (1048576 : Int) < n2 := by omega
  have hi3 : ¬ (1048576 : Int) < n + n2 := by omega
  go_enter Tryd.func5, Tryd.ntmps5
  go_wp2
  go_ret
  exact ⟨rfl, rfl⟩
end Go.Proofs.Qxb6618635aDoor
