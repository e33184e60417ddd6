/-
  Seat b6618635aD: the walk of FnDecoderUvarintReadsTheHeadVarint.
-/
import Derived.Test.Qxb6618635aDoorSpec
namespace Go.Proofs.Qxb6618635aDoor
open Go.RowKit

theorem getD_app_left (l c : List UInt8) (k : Nat) (h : k < l.length) : (l ++ c).getD k 0 = l.getD k 0 := by
  simp [List.getD, List.getElem?_append_left h]
theorem getD_app_right (l c : List UInt8) (k : Nat) : (l ++ c).getD (l.length + k) 0 = c.getD k 0 := by
  simp [List.getD, List.getElem?_append_right]

theorem spec_good_len (B : Nat) (a ar : Option Addr) (l : List UInt8) (n c n2 cr : Nat) (t v : Nat) (w : World) (hl : l.length ≤ 2097152) (hn : n = l.length) (hn2 : n2 = (l.drop (t + 1)).length) (hcap : l.length ≤ c) (h1 : BRow B w a l) (h2 : BRow B w ar (l.drop (t + 1))) (hh : Head l t v) :
    Calls Tryd.prog 12 #[.slice a n c, .int .u64 v, .slice ar n2 cr, .bool false] w fun e w' => e = .returned (.bool true) ∧ ∃ m, w' = w.drewN m := by
  subst hn; subst hn2; exact spec_good B a ar l c cr t v w hl hcap h1 h2 hh
theorem head_same {l l2 : List UInt8} {t v t2 v2 : Nat} (h : Head l t v) (h2 : Head (l ++ l2) t2 v2) : t2 = t ∧ v2 = v := by
  have e := h.app l2
  have e1 := h2.n
  have e2 := h2.hv
  rw [e, h.n] at e1
  rw [e, h.hv] at e2
  exact ⟨by omega, e2.symm⟩
theorem head_not {l l2 : List UInt8} {t v : Nat} (h : Head l t v) : vend 0 (l ++ l2) ≠ -1 := by
  intro hv
  rcases head_or (l ++ l2) with ⟨_, _, h2⟩ | ⟨t', h2⟩
  · rw [h.app l2, h.n] at h2; omega
  · rw [h2.he] at hv; omega

set_option maxRecDepth 100000 in
set_option maxHeartbeats 2000000 in
theorem head_walk (a : Option Addr) (l : List UInt8) (c : Nat) (failed : Bool) (a2 : Option Addr) (l2 : List UInt8) (c2 : Nat) (U : TypeId) (E : Value) (w : World) (hn : a = none → l = []) (hc : a = none → c = 0) (hcap : l.length ≤ c) (hr : BRow w.heap.size w a l)
    (hr2 : BRow w.heap.size w a2 l2) (h0 : 0 < w.heap.size) (hE : w.cell? ⟨0, 0, none⟩ = some (.iface U E)) :
    Calls Tryd.prog 3 #[.slice a l.length c, .bool failed, .slice a2 l2.length c2] w fun e w' => e = .returned (.bool true) ∧ Below w.heap.size w w' := by
  by_cases hl : l.length ≤ 1048576
  rotate_left
  · go_enter Tryd.func3, Tryd.ntmps3
    go_wp2_with (go_at_call 5; refine (zz5_no1 _ _ _ _ _ _ _ (by omega) _).mono ?_; rintro e w ⟨rfl, rfl⟩)
    go_ret
    exact ⟨rfl, Below.refl _ _⟩
  by_cases hlb : l2.length ≤ 1048576
  rotate_left
  · go_enter Tryd.func3, Tryd.ntmps3
    go_wp2_with (go_at_call 5; refine (zz5_no2 _ _ _ _ _ _ _ hl (by omega) _).mono ?_; rintro e w ⟨rfl, rfl⟩)
    go_ret
    exact ⟨rfl, Below.refl _ _⟩
  by_cases hls : l.length + l2.length ≤ 1048576
  rotate_left
  · go_enter Tryd.func3, Tryd.ntmps3
    go_wp2_with (go_at_call 5; refine (zz5_no3 _ _ _ _ _ _ _ hl hlb (by omega) _).mono ?_; rintro e w ⟨rfl, rfl⟩)
    go_ret
    exact ⟨rfl, Below.refl _ _⟩
  have hli : ¬ (1048576 : Int) < (l.length : Int) := by omega
  have hli2 : ¬ (1048576 - (l.length : Int)) < (l2.length : Int) := by omega
  have hcl := clone_any a l c w hl hn hc hr
  have HR := hide hr
  have HR2 := hide hr2
  have HE := hide hE
  clear hn hc hr hr2 hE
  go_enter Tryd.func3, Tryd.ntmps3
  go_wp2_with (go_at_call 5; refine (zz5_yes _ _ _ _ _ _ _ hls _).mono ?_; rintro e w ⟨rfl, rfl⟩)
  refine hcl.mono ?_
  rintro e w1 ⟨a1, c1, rfl, hc1, hr1, hb1⟩
  have HR1 := hide hr1
  have HB1 := hide hb1
  have hs1 := hb1.size
  have HRa : Hid (BRow w.heap.size w1 a l) := (unhide HR).below hb1
  have HRb : Hid (BRow w.heap.size w1 a2 l2) := (unhide HR2).below hb1
  have HE1 : Hid (w1.cell? ⟨0, 0, none⟩ = some (.iface U E)) := Below.cellE hb1 h0 (unhide HE)
  clear hcl hr1 hb1 HR HR2 HE
  have hmk := run_make_row' (P := Tryd.prog) 22 5 (.int .u8 0) 1 Tryd.underlying22 info5 rfl .i64 .i64 (l.length + l2.length) (by omega) (by omega)
  have ec : ((l.length + l2.length : Nat) : Int) = (l.length : Int) + (l2.length : Int) := by omega
  rw [ec] at hmk
  clear ec
  go_wp2_with fail
  clear hmk
  go_loopw [9] (fun v wr => ∃ k : Nat, v = .int .i64 k ∧ k ≤ l.length ∧ wr.rowIs w1.heap.size 5 (l.length + l2.length) (upTo (l ++ l2) k) ∧ Below w1.heap.size w1 wr ∧ wr.heap.size = w1.heap.size + 1) (fun v _ => l.length - (intOf v).toNat)
  case atStart => exact ⟨0, rfl, Nat.zero_le _, (World.rowIs_made w1 (.int .u8 0) (l.length + l2.length) 5).congr (fun j _ => (upTo_zero _ j).symm), (Below.refl _ _).alloc (Nat.le_refl _) _, by simp⟩
  case round =>
    obtain ⟨k, rfl, hk, hrow, hbr, hsz⟩ := hrel
    by_cases hlt : k < l.length
    · rcases unhide HRa with hr | ⟨g, o, hao, hg, hx⟩
      · subst hr; simp at hlt
      subst hao
      have e1 := (hbr.cell (p := ⟨g, o + k, none⟩) (by show g < w1.heap.size; omega)).trans (hx k hlt)
      have c0 := hrow.cell (show k < l.length + l2.length by omega)
      have f0 := hrow.frozen k
      have HRW := hide ((hrow.set k (.int .u8 (((l ++ l2).getD k 0).toNat : Int))).congr (fun j _ => upTo_step (l ++ l2) k j))
      have HBR := hide (hbr.setCell (p := ⟨w1.heap.size, k, none⟩) (Nat.le_refl _) (.int .u8 (((l ++ l2).getD k 0).toNat : Int)))
      rw [getD_app_left l l2 k hlt] at HRW HBR
      have hkn : (k : Int) < (l.length : Int) := by omega
      clear hrow hbr hx
      generalize ((l.getD k 0).toNat : Int) = x at e1 HRW HBR
      go_wp2
      go_roundw
      case rel => exact ⟨k + 1, by go_num, by omega, unhide HRW, unhide HBR, by simpa using hsz⟩
      case measure => simp [intOf]; omega
    · obtain rfl : k = l.length := by omega
      have HRW := hide hrow
      have HBR := hide hbr
      obtain ⟨wp, rfl⟩ : ∃ wp : World, wp = wr := ⟨_, rfl⟩
      clear hrow hbr
      go_wp2
      go_loopw [10] (fun v wr => ∃ k : Nat, v = .int .i64 k ∧ k ≤ l2.length ∧ wr.rowIs w1.heap.size 5 (l.length + l2.length) (upTo (l ++ l2) (l.length + k)) ∧ Below w1.heap.size w1 wr ∧ wr.heap.size = w1.heap.size + 1) (fun v _ => l2.length - (intOf v).toNat)
      case atStart => exact ⟨0, rfl, Nat.zero_le _, unhide HRW, unhide HBR, hsz⟩
      case round =>
        obtain ⟨k, rfl, hk, hrow, hbr, hsz⟩ := hrel
        by_cases hlt : k < l2.length
        · rcases unhide HRb with hr | ⟨g, o, hao, hg, hx⟩
          · subst hr; simp at hlt
          subst hao
          have e1 := (hbr.cell (p := ⟨g, o + k, none⟩) (by show g < w1.heap.size; omega)).trans (hx k hlt)
          have c0 := hrow.cell (show l.length + k < l.length + l2.length by omega)
          have f0 := hrow.frozen (l.length + k)
          have HRW := hide ((hrow.set (l.length + k) (.int .u8 (((l ++ l2).getD (l.length + k) 0).toNat : Int))).congr (fun j _ => upTo_step (l ++ l2) (l.length + k) j))
          have HBR := hide (hbr.setCell (p := ⟨w1.heap.size, l.length + k, none⟩) (Nat.le_refl _) (.int .u8 (((l ++ l2).getD (l.length + k) 0).toNat : Int)))
          rw [getD_app_right l l2 k] at HRW HBR
          have hkn : (k : Int) < (l2.length : Int) := by omega
          clear hrow hbr hx
          generalize ((l2.getD k 0).toNat : Int) = x at e1 HRW HBR
          go_wp2
          go_roundw
          case rel => exact ⟨k + 1, by go_num, by omega, unhide HRW, unhide HBR, by simpa using hsz⟩
          case measure => simp [intOf]; omega
        · obtain rfl : k = l2.length := by omega
          have hlj : (l ++ l2).length = l.length + l2.length := by simp
          rw [← hlj] at hrow
          have HJ : Hid (BRow wr.heap.size wr (some ⟨w1.heap.size, 0, none⟩) (l ++ l2)) := row_of hrow (by omega)
          have HBW : Hid (Below w.heap.size w wr) := (unhide HB1).trans (hbr.mono hs1)
          have HR1r : Hid (BRow wr.heap.size wr a1 l) := ((unhide HR1).below hbr).mono (by omega)
          have HEr : wr.cell? ⟨0, 0, none⟩ = some (.iface U E) := Below.cellE hbr (by omega) (unhide HE1)
          have HA : Hid (BRow wr.heap.size wr a l) := ((unhide HRa).below (hbr.mono hs1)).mono (by omega)
          have HBb : Hid (BRow wr.heap.size wr a2 l2) := ((unhide HRb).below (hbr.mono hs1)).mono (by omega)
          have hov1 := over_any a1 l.length c1 failed U E wr HEr
          have hNr : w.heap.size ≤ wr.heap.size := by omega
          have HSZ := hide hsz
          clear hsz
          clear hrow hbr HRa HRb HR1 HB1 HE1 HRW HBR
          obtain ⟨wj, rfl⟩ : ∃ wj : World, wj = wr := ⟨_, rfl⟩
          go_wp2_with fail
          refine hov1.mono ?_
          rintro e w2 ⟨rfl, hw2⟩
          have h0j : 0 < wj.heap.size := by omega
          have hE2 : w2.cell? ⟨0, 0, none⟩ = some (.iface U E) := by rw [hw2]; exact Below.cellE ((Below.refl wj.heap.size wj).alloc (Nat.le_refl _) _) h0j HEr
          have HW2 := hide hw2
          clear hw2
          have hov2 := over_any (some ⟨w1.heap.size, 0, none⟩) (l.length + l2.length) (l.length + l2.length) failed U E w2 hE2
          clear hov1
          go_wp2_with fail
          refine hov2.mono ?_
          rintro e w3 ⟨rfl, hw3⟩
          have hw2 := unhide HW2
          have hsz := unhide HSZ
          have hz2 : w2.heap.size = wj.heap.size + 1 := by rw [hw2]; simp
          have hb13 : Below wj.heap.size wj w3 := by rw [hw3]; exact Below.alloc (by rw [hw2]; exact (Below.refl _ _).alloc (Nat.le_refl _) _) (by omega) _
          have hD1h : w3.heap[wj.heap.size]? = some (.cells #[.slice a1 l.length c1, if failed then .iface U E else .nilIface] 42 (0, 0)) := by
            rw [hw3, Below.heap_alloc _ _ _ (by omega), hw2]; exact heap_alloc_new _ _
          have hD2h : w3.heap[w2.heap.size]? = some (.cells #[.slice (some ⟨w1.heap.size, 0, none⟩) (l ++ l2).length (l ++ l2).length, if failed then .iface U E else .nilIface] 42 (0, 0)) := by
            rw [hw3, hlj]; exact heap_alloc_new _ _
          have HD1 : Hid (DecAt w3 wj.heap.size l (if failed then .iface U E else .nilIface)) := ⟨a1, c1, hD1h, hc1, (unhide HR1r).below hb13⟩
          have HD2 := hide hD2h
          have HJ3 : Hid (BRow wj.heap.size w3 (some ⟨w1.heap.size, 0, none⟩) (l ++ l2)) := (unhide HJ).below hb13
          have HA3 : Hid (BRow wj.heap.size w3 a l) := (unhide HA).below hb13
          have HB3 : Hid (BRow wj.heap.size w3 a2 l2) := (unhide HBb).below hb13
          have HW3 : Hid (Below w.heap.size w w3) := (unhide HBW).trans (hb13.mono hNr)
          have HE3 : Hid (w3.cell? ⟨0, 0, none⟩ = some (.iface U E)) := Below.cellE hb13 (by omega) HEr
          have hll : l.length ≤ 2097152 := by omega
          have hljj : (l ++ l2).length ≤ 2097152 := by omega
          clear hov2 hw3 hw2 HW2 HSZ hE2 hD1h hD2h hb13 HJ HA HBb HBW HR1r HEr
          generalize hq1 : wj.heap.size = D1 at HD1 HJ3 HA3 HB3 hNr hz2
          generalize hq2 : w2.heap.size = D2 at HD2 hz2
          have hD12 : D1 < D2 := by omega
          clear hz2 hsz
          cases failed with
          | true =>
            simp only [if_true] at HD1 HD2
            have HDD2 : Hid (DecAt w3 D2 (l ++ l2) (.iface U E)) := ⟨_, _, unhide HD2, Nat.le_refl _, (unhide HJ3).mono (by omega)⟩
            go_wp2_with fail
            refine (zuvarint D1 w3 ((uvarint_failed D1 l U E w3 (unhide HD1)).mono (fun e w' h => ⟨0, h.1, h⟩))).mono ?_
            rintro e w3 ⟨_, _, rfl, rfl⟩
            go_wp2_with fail
            refine (zuvarint D2 w3 ((uvarint_failed D2 (l ++ l2) U E w3 (unhide HDD2)).mono (fun e w' h => ⟨0, h.1, h⟩))).mono ?_
            rintro e w3 ⟨_, _, rfl, rfl⟩
            obtain ⟨a5, c5, hh5, _, hr5⟩ := unhide HD1
            have hre1 := rest_any D1 a5 l.length c5 _ _ hh5
            have her1 := err_any D1 _ _ _ hh5
            have hre2 := rest_any D2 _ _ _ _ _ (unhide HD2)
            have her2 := err_any D2 _ _ _ (unhide HD2)
            have HR5 := hide hr5
            clear hh5 hr5
            go_wp2_with fail
            refine hre1.mono ?_
            rintro e w3 ⟨rfl, rfl⟩
            go_wp2_with fail
            refine hre2.mono ?_
            rintro e w3 ⟨rfl, rfl⟩
            go_wp2_with fail
            refine her1.mono ?_
            rintro e w3 ⟨rfl, rfl⟩
            go_wp2_with fail
            refine her2.mono ?_
            rintro e w3 ⟨rfl, rfl⟩
            go_wp2_with fail
            refine (same_len D1 _ _ l _ _ _ _ _ hll rfl rfl (unhide HR5) (unhide HA3)).mono ?_
            rintro e w6 ⟨rfl, m, rfl⟩
            go_wp2_with fail
            refine (same_len D1 _ _ (l ++ l2) _ _ _ _ _ hljj (by simp) (by simp) ((unhide HJ3).drewN m) ((unhide HJ3).drewN m)).mono ?_
            rintro e w7 ⟨rfl, m2, rfl⟩
            go_wp2_with fail
            go_ret
            exact ⟨rfl, below_drewN (unhide HW3) _⟩
          | false =>
            simp only [Bool.false_eq_true, if_false] at HD1 HD2
            go_wp2_with fail
            refine (zuv_any D1 l U E w3 (unhide HD1) (unhide HE3)).mono ?_
            rintro e w4 ⟨v1, rfl, r1, er1, ho1, hd1, hon1⟩
            have HO1 := hide ho1
            have HDD1 := hide hd1
            have HDD2 : Hid (DecAt w4 D2 (l ++ l2) .nilIface) := ⟨_, _, (hon1.above D2 hD12).trans (unhide HD2), Nat.le_refl _, ((unhide HJ3).below hon1.below).mono (by omega)⟩
            have HJ4 : Hid (BRow D1 w4 (some ⟨w1.heap.size, 0, none⟩) (l ++ l2)) := (unhide HJ3).below hon1.below
            have HA4 : Hid (BRow D1 w4 a l) := (unhide HA3).below hon1.below
            have HB4 : Hid (BRow D1 w4 a2 l2) := (unhide HB3).below hon1.below
            have HW4 : Hid (Below w.heap.size w w4) := (unhide HW3).trans (hon1.below.mono hNr)
            have HE4 : Hid (w4.cell? ⟨0, 0, none⟩ = some (.iface U E)) := Below.cellE hon1.below (by omega) (unhide HE3)
            clear ho1 hd1 hon1 HJ3 HA3 HB3 HW3 HE3 HD1 HD2
            go_wp2_with fail
            refine (zuv_any D2 (l ++ l2) U E w4 (unhide HDD2) (unhide HE4)).mono ?_
            rintro e w5 ⟨v2, rfl, r2, er2, ho2, hd2, hon2⟩
            have hbb : Below D1 w4 w5 := hon2.below.mono (by omega)
            have HO2 := hide ho2
            have HX1 : Hid (DecAt w5 D1 r1 er1) := (unhide HDD1).below hD12 hon2.below
            have HX2 : Hid (DecAt w5 D2 r2 er2) := hd2
            have HJ5 : Hid (BRow D2 w5 (some ⟨w1.heap.size, 0, none⟩) (l ++ l2)) := ((unhide HJ4).below hbb).mono (by omega)
            have HA5 : Hid (BRow D2 w5 a l) := ((unhide HA4).below hbb).mono (by omega)
            have HB5 : Hid (BRow D2 w5 a2 l2) := ((unhide HB4).below hbb).mono (by omega)
            have HW5 : Hid (Below w.heap.size w w5) := (unhide HW4).trans (hbb.mono hNr)
            clear ho2 hd2 hon2 hbb HJ4 HA4 HB4 HW4 HE4 HDD1 HDD2
            rcases unhide HO1 with ⟨hv, rfl, rfl, rfl⟩ | ⟨t, hh, rfl, rfl⟩
            · rcases unhide HO2 with ⟨hv2, rfl, rfl, rfl⟩ | ⟨t2, hh2, rfl, rfl⟩
              · obtain ⟨a5, c5, hh5, hc5, hr5⟩ := unhide HX1
                obtain ⟨a6, c6, hh6, hc6, hr6⟩ := unhide HX2
                have hre1 := rest_any D1 a5 _ c5 _ _ hh5
                have her1 := err_any D1 _ _ _ hh5
                have hre2 := rest_any D2 a6 _ c6 _ _ hh6
                have her2 := err_any D2 _ _ _ hh6
                have HR5 : Hid (BRow D2 w5 a5 r1) := hr5.mono (by omega)
                have HR6 : Hid (BRow D2 w5 a6 (r1 ++ l2)) := hr6
                clear hh5 hr5 hh6 hr6 HX1 HX2 HO1 HO2
                go_wp2_with fail
                refine hre1.mono ?_
                rintro e w5 ⟨rfl, rfl⟩
                go_wp2_with fail
                refine hre2.mono ?_
                rintro e w5 ⟨rfl, rfl⟩
                go_wp2_with fail
                refine her1.mono ?_
                rintro e w5 ⟨rfl, rfl⟩
                go_wp2_with fail
                refine her2.mono ?_
                rintro e w5 ⟨rfl, rfl⟩
                go_wp2_with fail
                refine (spec_bad D2 a a5 r1 c c5 _ hll (unhide HA5) (unhide HR5) hv).mono ?_
                rintro e w6 ⟨rfl, m, rfl⟩
                go_wp2_with fail
                rw [← hlj]
                refine (spec_bad D2 (some ⟨w1.heap.size, 0, none⟩) a6 (r1 ++ l2) _ c6 _ hljj ((unhide HJ5).drewN m) ((unhide HR6).drewN m) hv2).mono ?_
                rintro e w7 ⟨rfl, m2, rfl⟩
                go_wp2_with fail
                refine (end_any D2 a r1 c _ hll ((unhide HA5).drewN _)).mono ?_
                rintro e w8 ⟨rfl, rfl⟩
                rw [hv]
                go_wp2_with fail
                go_ret
                exact ⟨rfl, below_drewN (unhide HW5) _⟩
              · obtain ⟨a5, c5, hh5, hc5, hr5⟩ := unhide HX1
                obtain ⟨a6, c6, hh6, hc6, hr6⟩ := unhide HX2
                have hre1 := rest_any D1 a5 _ c5 _ _ hh5
                have her1 := err_any D1 _ _ _ hh5
                have hre2 := rest_any D2 a6 _ c6 _ _ hh6
                have her2 := err_any D2 _ _ _ hh6
                have HR5 : Hid (BRow D2 w5 a5 r1) := hr5.mono (by omega)
                have HR6 : Hid (BRow D2 w5 a6 ((r1 ++ l2).drop (t2 + 1))) := hr6
                clear hh5 hr5 hh6 hr6 HX1 HX2 HO1 HO2
                go_wp2_with fail
                refine hre1.mono ?_
                rintro e w5 ⟨rfl, rfl⟩
                go_wp2_with fail
                refine hre2.mono ?_
                rintro e w5 ⟨rfl, rfl⟩
                go_wp2_with fail
                refine her1.mono ?_
                rintro e w5 ⟨rfl, rfl⟩
                go_wp2_with fail
                refine her2.mono ?_
                rintro e w5 ⟨rfl, rfl⟩
                go_wp2_with fail
                refine (spec_bad D2 a a5 r1 c c5 _ hll (unhide HA5) (unhide HR5) hv).mono ?_
                rintro e w6 ⟨rfl, m, rfl⟩
                go_wp2_with fail
                refine (spec_good_len D2 (some ⟨w1.heap.size, 0, none⟩) a6 (r1 ++ l2) _ _ _ c6 t2 v2 _ hljj hlj.symm (by simp) (by omega) ((unhide HJ5).drewN m) ((unhide HR6).drewN m) hh2).mono ?_
                rintro e w7 ⟨rfl, m2, rfl⟩
                go_wp2_with fail
                refine (end_any D2 a r1 c _ hll ((unhide HA5).drewN _)).mono ?_
                rintro e w8 ⟨rfl, rfl⟩
                rw [hv]
                go_wp2_with fail
                go_ret
                exact ⟨rfl, below_drewN (unhide HW5) _⟩
            · rcases unhide HO2 with ⟨hv2, _⟩ | ⟨t2, hh2, rfl, rfl⟩
              · exact absurd hv2 (head_not hh)
              obtain ⟨rfl, rfl⟩ := head_same hh hh2
              have htl := hh.lt
              have hdr : (l ++ l2).drop (t2 + 1) = l.drop (t2 + 1) ++ l2 := List.drop_append_of_le_length (by omega)
              obtain ⟨a5, c5, hh5, hc5, hr5⟩ := unhide HX1
              obtain ⟨a6, c6, hh6, hc6, hr6⟩ := unhide HX2
              have hs1 := fun (w : World) (h1 : BRow D2 w a l) (h2 : BRow D2 w a5 (l.drop (t2 + 1))) => spec_good D2 a a5 l c c5 t2 v2 w hll hcap h1 h2 hh
              have hs2 := fun (w : World) (h1 : BRow D2 w (some ⟨w1.heap.size, 0, none⟩) (l ++ l2)) (h2 : BRow D2 w a6 ((l ++ l2).drop (t2 + 1))) => spec_good D2 (some ⟨w1.heap.size, 0, none⟩) a6 (l ++ l2) (l.length + l2.length) c6 t2 v2 w hljj (by omega) h1 h2 hh2
              have hend : vend 0 l = (t2 : Int) := hh.he
              have hrl : (l.drop (t2 + 1)).length ≤ 1048576 := by simp; omega
              rw [hdr] at hh6 hc6 hr6 hs2
              rw [hlj] at hs2
              generalize l.drop (t2 + 1) = r at hh5 hc5 hr5 hh6 hc6 hr6 hs1 hs2 hrl
              have hre1 := rest_any D1 a5 _ c5 _ _ hh5
              have her1 := err_any D1 _ _ _ hh5
              have hre2 := rest_any D2 a6 _ c6 _ _ hh6
              have her2 := err_any D2 _ _ _ hh6
              have HR5 : Hid (BRow D2 w5 a5 r) := hr5.mono (by omega)
              have HR6 : Hid (BRow D2 w5 a6 (r ++ l2)) := hr6
              have hrl2 : (r ++ l2).length = r.length + l2.length := by simp
              rw [hrl2] at hre2 hs2
              have HS1 := hide hs1
              have HS2 := hide hs2
              have HEND := hide hend
              clear hh5 hr5 hh6 hr6 HX1 HX2 HO1 HO2 hs1 hs2 hdr hh hh2 hend hrl2
              go_wp2_with fail
              refine hre1.mono ?_
              rintro e w5 ⟨rfl, rfl⟩
              go_wp2_with fail
              refine hre2.mono ?_
              rintro e w5 ⟨rfl, rfl⟩
              go_wp2_with fail
              refine her1.mono ?_
              rintro e w5 ⟨rfl, rfl⟩
              go_wp2_with fail
              refine her2.mono ?_
              rintro e w5 ⟨rfl, rfl⟩
              go_wp2_with fail
              refine ((unhide HS1) _ (unhide HA5) (unhide HR5)).mono ?_
              rintro e w6 ⟨rfl, m, rfl⟩
              go_wp2_with fail
              refine ((unhide HS2) _ ((unhide HJ5).drewN m) ((unhide HR6).drewN m)).mono ?_
              rintro e w7 ⟨rfl, m2, rfl⟩
              go_wp2_with fail
              refine (end_any D2 a l c _ hll ((unhide HA5).drewN _)).mono ?_
              rintro e w8 ⟨rfl, rfl⟩
              rw [unhide HEND]
              have ht0 : (0 : Int) ≤ (t2 : Int) := by omega
              go_wp2_with fail
              generalize m + m2 = q0
              go_loopw [19] (fun v wr => ∃ k q : Nat, v = .int .i64 k ∧ k ≤ r.length ∧ wr = w5.drewN q) (fun v _ => r.length - (intOf v).toNat)
              case atStart => exact ⟨0, q0, rfl, Nat.zero_le _, rfl⟩
              case round =>
                obtain ⟨k, q, rfl, hk, rfl⟩ := hrel
                by_cases hlt : k < r.length
                · rcases unhide HR5 with hr | ⟨g1, o1, hae, _, hx1⟩
                  · subst hr; simp at hlt
                  subst hae
                  rcases unhide HR6 with hr | ⟨g2, o2, hae, _, hx2⟩
                  · exact absurd (List.append_eq_nil_iff.1 hr).1 (by intro e; subst e; simp at hlt)
                  subst hae
                  have e1 := hx1 k hlt
                  have e2 := hx2 k (by simp; omega)
                  rw [getD_app_left r l2 k hlt] at e2
                  have hkn : (k : Int) < (r.length : Int) := by omega
                  have hkn2 : (k : Int) < (r.length : Int) + (l2.length : Int) := by omega
                  clear hx1 hx2
                  generalize (r.getD k 0).toNat = x at e1 e2
                  go_wp2
                  go_quiet (fail)
                  go_wp2
                  go_roundw
                  case rel => exact ⟨k + 1, _, by go_num, by omega, rfl⟩
                  case measure => simp [intOf]; omega
                · obtain rfl : k = r.length := by omega
                  go_wp2
                  go_loopw [20] (fun v wr => ∃ k q : Nat, v = .int .i64 k ∧ k ≤ l2.length ∧ wr = w5.drewN q) (fun v _ => l2.length - (intOf v).toNat)
                  case atStart => exact ⟨0, q, rfl, Nat.zero_le _, rfl⟩
                  case round =>
                    obtain ⟨k, q, rfl, hk, rfl⟩ := hrel
                    by_cases hlt : k < l2.length
                    · rcases unhide HB5 with hr | ⟨g1, o1, hae, _, hx1⟩
                      · subst hr; simp at hlt
                      subst hae
                      rcases unhide HR6 with hr | ⟨g2, o2, hae, _, hx2⟩
                      · exact absurd (List.append_eq_nil_iff.1 hr).2 (by intro e; subst e; simp at hlt)
                      subst hae
                      have e1 := hx1 k hlt
                      have e2 := hx2 (r.length + k) (by simp; omega)
                      rw [getD_app_right r l2 k] at e2
                      have hkn : (k : Int) < (l2.length : Int) := by omega
                      have hkn2 : (r.length : Int) + (k : Int) < (r.length : Int) + (l2.length : Int) := by omega
                      have hkn3 : (0 : Int) ≤ (r.length : Int) + (k : Int) := by omega
                      have hwr : IntKind.i64.wrap ((r.length : Int) + (k : Int)) = (r.length : Int) + (k : Int) := by rw [IntKind.wrap_i64]; omega
                      clear hx1 hx2
                      generalize (l2.getD k 0).toNat = x at e1 e2
                      go_wp2
                      go_quiet (fail)
                      go_wp2
                      go_roundw
                      case rel => exact ⟨k + 1, _, by go_num, by omega, rfl⟩
                      case measure => simp [intOf]; omega
                    · go_wp2
                      go_ret
                      exact ⟨rfl, below_drewN (unhide HW5) _⟩

end Go.Proofs.Qxb6618635aDoor
