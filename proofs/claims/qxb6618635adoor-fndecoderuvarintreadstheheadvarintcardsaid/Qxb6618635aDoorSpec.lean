/-
  Seat b6618635aD: what a decoder's uvarint leaves, and zzUvarintAsSpecified on it.
-/
import Derived.Test.Qxb6618635aDoorHands
namespace Go.Proofs.Qxb6618635aDoor
open Go.RowKit

/-- What uvarint hands back of the bytes l, and leaves: the rest, the error. -/
def Out (E : Value) (l : List UInt8) (v : Nat) (r : List UInt8) (er : Value) : Prop :=
  (vend 0 l = -1 ∧ v = 0 ∧ r = l ∧ er = E) ∨ ∃ t, Head l t v ∧ r = l.drop (t + 1) ∧ er = .nilIface

theorem zuv_any (D : Nat) (l : List UInt8) (U : TypeId) (E : Value) (w : World) (hd : DecAt w D l .nilIface) (hE : w.cell? ⟨0, 0, none⟩ = some (.iface U E)) :
    Calls Tryd.prog 8 #[.pointer (some ⟨D, 0, none⟩)] w fun e w' => ∃ v : Nat, e = .returned (.int .u64 v) ∧ ∃ r er, Out (.iface U E) l v r er ∧ DecAt w' D r er ∧ Only D w w' := by
  rcases head_or l with ⟨hv, h1, h2⟩ | ⟨t, hh⟩
  · refine (zuvarint D w ((uvarint_bad D l U E w hd hE h2).mono (fun e w' h => ⟨0, h.1, h⟩))).mono ?_
    rintro e w1 ⟨_, _, rfl, h3, h4⟩
    exact ⟨0, rfl, l, _, .inl ⟨hv, rfl, rfl, rfl⟩, h3, h4⟩
  · refine (zuvarint D w ((uvarint_good D l t _ w hd hh).mono (fun e w' h => ⟨_, h.1, h⟩))).mono ?_
    rintro e w1 ⟨_, _, rfl, h3, h4⟩
    exact ⟨_, rfl, _, _, .inr ⟨t, hh, rfl, rfl⟩, h3, h4⟩

theorem DecAt.below {D B : Nat} {w w' : World} {l : List UInt8} {er : Value} (h : DecAt w D l er) (hD : D < B) (hb : Below B w w') : DecAt w' D l er := by
  obtain ⟨a, c, hh, hc, hr⟩ := h
  exact ⟨a, c, (hb.block D hD).trans hh, hc, hr.below (hb.mono (by omega))⟩
theorem BRow.drewN {B : Nat} {w : World} {a : Option Addr} {l : List UInt8} (h : BRow B w a l) (m : Nat) : BRow B (w.drewN m) a l := h.below (below_drewN (Below.refl _ _) m)

set_option maxRecDepth 100000 in
set_option maxHeartbeats 2000000 in
theorem spec_bad (B : Nat) (a ar : Option Addr) (l : List UInt8) (c cr : Nat) (w : World) (hl : l.length ≤ 2097152) (h1 : BRow B w a l) (h2 : BRow B w ar l) (hv : vend 0 l = -1) :
    Calls Tryd.prog 12 #[.slice a l.length c, .int .u64 0, .slice ar l.length cr, .bool true] w fun e w' => e = .returned (.bool true) ∧ ∃ m, w' = w.drewN m := by
  have hen := end_any B a l c w hl h1
  rw [hv] at hen
  have hsm := same_any B ar a l cr c w hl h2 h1
  clear h1 h2 hv
  go_enter Tryd.func12, Tryd.ntmps12
  go_wp2_with (first | (go_at_call 13; refine hen.mono ?_; rintro e w ⟨rfl, rfl⟩) | (go_at_call 11; refine hsm.mono ?_; rintro e w5 ⟨rfl, m, rfl⟩))
  go_ret
  exact ⟨rfl, _, rfl⟩

set_option maxRecDepth 100000 in
set_option maxHeartbeats 2000000 in
theorem spec_good (B : Nat) (a ar : Option Addr) (l : List UInt8) (c cr : Nat) (t v : Nat) (w : World) (hl : l.length ≤ 2097152) (hcap : l.length ≤ c) (h1 : BRow B w a l) (h2 : BRow B w ar (l.drop (t + 1))) (hh : Head l t v) :
    Calls Tryd.prog 12 #[.slice a l.length c, .int .u64 v, .slice ar (l.drop (t + 1)).length cr, .bool false] w fun e w' => e = .returned (.bool true) ∧ ∃ m, w' = w.drewN m := by
  have hen := end_any B a l c w hl h1
  rw [hh.he] at hen
  have hdg := digits_any B a l c t v w hl h1 hh
  have H2 := hide h2
  have HRD := hide (drop_row' h1 (t + 1) (by have := hh.lt; omega) hcap)
  have ht := hh.lt
  have ht9 := hh.nine
  have hll : (l.drop (t + 1)).length = l.length - (t + 1) := by simp
  have hl4 : (l.drop (t + 1)).length ≤ 2097152 := by omega
  have hti : ¬ (t : Int) < 0 := by omega
  have hle : (t : Int) + 1 ≤ (l.length : Int) := by omega
  clear h1 h2 hh
  go_enter Tryd.func12, Tryd.ntmps12
  go_wp2_with (first | (go_at_call 13; refine hen.mono ?_; rintro e w ⟨rfl, rfl⟩) | (go_at_call 19; refine hdg.mono ?_; rintro e w ⟨rfl, rfl⟩))
  · refine (same_len B _ _ (l.drop (t + 1)) _ _ _ _ _ hl4 hll.symm hll.symm (unhide H2) ?_).mono ?_
    · have := unhide HRD
      rw [if_pos (by omega)] at this
      exact this
    rintro e w5 ⟨rfl, m, rfl⟩
    go_wp2
    go_ret
    exact ⟨rfl, _, rfl⟩
  · refine (same_len B _ _ (l.drop (t + 1)) _ _ _ _ _ hl4 hll.symm hll.symm (unhide H2) ?_).mono ?_
    · have := unhide HRD
      rw [if_neg (by omega)] at this
      cases a with
      | none => exact this
      | some ad => exact this
    rintro e w5 ⟨rfl, m, rfl⟩
    go_wp2
    go_ret
    exact ⟨rfl, _, rfl⟩
end Go.Proofs.Qxb6618635aDoor
