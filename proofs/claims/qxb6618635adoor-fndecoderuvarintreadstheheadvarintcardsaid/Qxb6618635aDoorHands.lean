/-
  Seat b6618635aD: the walk of FnDecoderUvarintHandsOnToByte.
-/
import Derived.Test.Qxb6618635aDoorMake
namespace Go.Proofs.Qxb6618635aDoor
open Go.RowKit

theorem same_len (B : Nat) (a1 a2 : Option Addr) (l : List UInt8) (n1 n2 c1 c2 : Nat) (w : World) (hl : l.length ≤ 2097152) (hn1 : n1 = l.length) (hn2 : n2 = l.length) (h1 : BRow B w a1 l) (h2 : BRow B w a2 l) :
    Calls Tryd.prog 11 #[.slice a1 n1 c1, .slice a2 n2 c2] w fun e w' => e = .returned (.bool true) ∧ ∃ m, w' = w.drewN m := by
  subst hn1; subst hn2; exact same_any B a1 a2 l c1 c2 w hl h1 h2
theorem below_drewN {B : Nat} {w w' : World} (h : Below B w w') (n : Nat) : Below B w (w'.drewN n) := by
  induction n with
  | zero => exact h
  | succ n ih => exact ih.drew
theorem Below.cellE {N : Nat} {w w' : World} (hb : Below N w w') (h0 : 0 < N) {v : Value} (h : w.cell? ⟨0, 0, none⟩ = some v) : w'.cell? ⟨0, 0, none⟩ = some v :=
  (hb.cell (p := ⟨0, 0, none⟩) h0).trans h
theorem heap_alloc_new (w : World) (o : Obj) : (w.alloc o).heap[w.heap.size]? = some o := by
  show (w.heap.push o)[w.heap.size]? = some o
  simp
theorem dec_new {w : World} {a : Option Addr} {l : List UInt8} {c : Nat} {er : Value} (hc : l.length ≤ c) (h : BRow w.heap.size w a l) : DecAt (w.alloc (.cells #[.slice a l.length c, er] 42)) w.heap.size l er :=
  ⟨a, c, heap_alloc_new _ _, hc, h.below ((Below.refl _ _).alloc (Nat.le_refl _) _)⟩

set_option maxRecDepth 100000 in
set_option maxHeartbeats 4000000 in
theorem hands_walk (a : Option Addr) (l : List UInt8) (c : Nat) (failed : Bool) (U : TypeId) (E : Value) (w : World) (hn : a = none → l = []) (hc : a = none → c = 0) (hcap : l.length ≤ c) (hr : BRow w.heap.size w a l) (h0 : 0 < w.heap.size) (hE : w.cell? ⟨0, 0, none⟩ = some (.iface U E)) :
    Calls Tryd.prog 4 #[.slice a l.length c, .bool failed] w fun e w' => e = .returned (.bool true) ∧ Below w.heap.size w w' := by
  by_cases hl : l.length ≤ 1048576
  rotate_left
  · go_enter Tryd.func4, Tryd.ntmps4
    go_wp2_with (go_at_call 14; refine (zz14_no _ _ _ _ (by omega) _).mono ?_; rintro e w ⟨rfl, rfl⟩)
    go_ret
    exact ⟨rfl, Below.refl _ _⟩
  have hli : ¬ (1048576 : Int) < (l.length : Int) := by omega
  have hcl := clone_any a l c w hl hn hc hr
  have HR := hide hr
  have HE := hide hE
  clear hn hc hr hE
  go_enter Tryd.func4, Tryd.ntmps4
  go_wp2_with (go_at_call 14; refine (zz14_yes _ _ _ _ hl _).mono ?_; rintro e w ⟨rfl, rfl⟩)
  refine hcl.mono ?_
  rintro e w1 ⟨a1, c1, rfl, hc1, hr1, hb1⟩
  have HR1 := hide hr1
  have HB1 := hide hb1
  have hs1 := hb1.size
  have hov := over_any a1 l.length c1 failed U E w1 (Below.cellE hb1 h0 (unhide HE))
  clear hcl hr1 hb1
  go_wp2_with fail
  refine hov.mono ?_
  rintro e w2 ⟨rfl, hw2⟩
  have hd2 := hide (dec_new (er := if failed then .iface U E else .nilIface) hc1 (unhide HR1))
  have hb2 : Hid (Below w.heap.size w w2) := by unfold Hid; rw [hw2]; exact (unhide HB1).alloc hs1 _
  have hs2 : w1.heap.size < w2.heap.size := by rw [hw2]; simp
  rw [← hw2] at hd2
  clear hov hw2 HR1 HB1
  generalize w1.heap.size = D at hs1 hs2 hd2
  have HRB : Hid (BRow D w2 a l) := ((unhide HR).below (unhide hb2)).mono hs1
  have HE2 : Hid (w2.cell? ⟨0, 0, none⟩ = some (.iface U E)) := Below.cellE (unhide hb2) h0 (unhide HE)
  have hl2 : l.length ≤ 2097152 := by omega
  clear HR
  cases failed with
  | true =>
    simp only [if_true] at hd2
    go_wp2_with fail
    refine (zuvarint D w2 ((uvarint_failed D l U E w2 (unhide hd2)).mono (fun e w' h => ⟨0, h.1, h⟩))).mono ?_
    rintro e w3 ⟨_, _, rfl, rfl⟩
    go_wp2_with fail
    refine (zbyte D w3 ((byte_failed D l U E w3 (unhide hd2)).mono (fun e w' h => ⟨0, h.1, h⟩))).mono ?_
    rintro e w4 ⟨_, _, rfl, rfl⟩
    obtain ⟨a5, c5, hh, hc5, hr5⟩ := unhide hd2
    have hre := rest_any D a5 l.length c5 _ _ hh
    have her := err_any D _ _ _ hh
    have HR5 := hide hr5
    clear hh hr5
    go_wp2_with (first | (go_at_call 9; refine hre.mono ?_; rintro e w4 ⟨rfl, rfl⟩) | (go_at_call 10; refine her.mono ?_; rintro e w4 ⟨rfl, rfl⟩) | (go_at_call 11; refine (same_len D _ _ l _ _ _ _ _ hl2 rfl rfl (unhide HR5) (unhide HRB)).mono ?_; rintro e w5 ⟨rfl, m, rfl⟩))
    go_ret
    exact ⟨rfl, below_drewN (unhide hb2) _⟩
  | false =>
    simp only [Bool.false_eq_true, if_false] at hd2
    rcases head_or l with ⟨hv, _, hv2⟩ | ⟨t, hhd⟩
    · go_wp2_with fail
      refine (zuvarint D w2 ((uvarint_bad D l U E w2 (unhide hd2) (unhide HE2) hv2).mono (fun e w' h => ⟨0, h.1, h⟩))).mono ?_
      rintro e w3 ⟨_, _, rfl, hd3, ho3⟩
      have HB3 : Hid (Below w.heap.size w w3) := (unhide hb2).trans (ho3.below.mono hs1)
      have HRB3 : Hid (BRow D w3 a l) := (unhide HRB).below ho3.below
      have hbf := byte_failed D l U E w3 hd3
      obtain ⟨a5, c5, hh, hc5, hr5⟩ := hd3
      have hre := rest_any D a5 l.length c5 _ _ hh
      have her := err_any D _ _ _ hh
      have hen := end_any D a l c w3 hl2 (unhide HRB3)
      rw [hv] at hen
      have HR5 := hide hr5
      clear hh hr5 ho3 hv hv2
      go_wp2_with fail
      refine (zbyte D w3 (hbf.mono (fun e w' h => ⟨0, h.1, h⟩))).mono ?_
      rintro e w3 ⟨_, _, rfl, rfl⟩
      go_wp2_with (first | (go_at_call 9; refine hre.mono ?_; rintro e w3 ⟨rfl, rfl⟩) | (go_at_call 10; refine her.mono ?_; rintro e w3 ⟨rfl, rfl⟩) | (go_at_call 13; refine hen.mono ?_; rintro e w3 ⟨rfl, rfl⟩) | (go_at_call 11; refine (same_len D _ _ l _ _ _ _ _ hl2 rfl rfl (unhide HR5) (unhide HRB3)).mono ?_; rintro e w5 ⟨rfl, m, rfl⟩))
      go_ret
      exact ⟨rfl, below_drewN (unhide HB3) _⟩
    · generalize (Lib.uvarintDec l).1 = v at hhd
      have HH := hide hhd
      have ht := hhd.lt
      have ht9 := hhd.nine
      go_wp2_with fail
      refine (zuvarint D w2 ((uvarint_good D l t v w2 (unhide hd2) hhd).mono (fun e w' h => ⟨v, h.1, h⟩))).mono ?_
      rintro e w3 ⟨_, _, rfl, hd3, ho3⟩
      have HB3 : Hid (Below w.heap.size w w3) := (unhide hb2).trans (ho3.below.mono hs1)
      have HRB3 : Hid (BRow D w3 a l) := (unhide HRB).below ho3.below
      have HE3 : Hid (w3.cell? ⟨0, 0, none⟩ = some (.iface U E)) := Below.cellE (unhide HB3) h0 (unhide HE)
      have hv : vend 0 l = (t : Int) := hhd.he
      clear hhd HE2 hd2
      rcases unhide HRB3 with hr | ⟨g, o, rfl, hg, hx⟩
      · subst hr; simp at ht
      have hkl : (t : Int) < (l.length : Int) := by omega
      have e1 := hx t ht
      have htop := (unhide HH).top
      have hx256 := (l.getD t 0).toNat_lt
      have hA : (v : Int) / 2 ^ (7 * t) = ((l.getD t 0).toNat : Int) := by rw [shr_nat, htop]
      have hB : IntKind.u64.wrap ((l.getD t 0).toNat : Int) = ((l.getD t 0).toNat : Int) := u64_wrap_id _ (by omega) (by omega)
      have hl3 : t + 1 ≤ l.length := by omega
      by_cases hlast : t + 1 = l.length
      · have hdrop : l.drop (t + 1) = [] := by rw [hlast]; simp
        rw [hdrop] at hd3
        go_wp2_with fail
        refine (zbyte D w3 ((byte_empty D U E w3 hd3 (unhide HE3)).mono (fun e w' h => ⟨0, h.1, h⟩))).mono ?_
        rintro e w4 ⟨_, _, rfl, hd4, ho4⟩
        have HB4 : Hid (Below w.heap.size w w4) := (unhide HB3).trans (ho4.below.mono hs1)
        have HRB4 : BRow D w4 (some ⟨g, o, none⟩) l := (unhide HRB3).below ho4.below
        have hen := end_any D (some ⟨g, o, none⟩) l c w4 hl2 HRB4
        rw [hv] at hen
        have e4 : w4.cell? ⟨g, o + t, none⟩ = some (.int .u8 ((l.getD t 0).toNat : Int)) := (ho4.below.cell (p := ⟨g, o + t, none⟩) hg).trans e1
        obtain ⟨a5, c5, hh, hc5, hr5⟩ := hd4
        have hre := rest_any D a5 0 c5 _ _ hh
        have her := err_any D _ _ _ hh
        have hlI : (l.length : Int) = (t : Int) + 1 := by omega
        clear hh hr5 ho4 ho3 hv e1 hx HRB4 hdrop htop hd3 hx256
        generalize ((l.getD t 0).toNat : Int) = x at hA hB e4
        go_wp2_with (first | (go_at_call 9; refine hre.mono ?_; rintro e w4 ⟨rfl, rfl⟩) | (go_at_call 10; refine her.mono ?_; rintro e w4 ⟨rfl, rfl⟩) | (go_at_call 13; refine hen.mono ?_; rintro e w4 ⟨rfl, rfl⟩))
        go_ret
        exact ⟨rfl, unhide HB4⟩
      · have hlt : t + 1 < l.length := by omega
        have hdrop : l.drop (t + 1) = l.getD (t + 1) 0 :: l.drop (t + 2) := by
          rw [List.drop_eq_getElem_cons hlt]; simp [List.getD, hlt]
        rw [hdrop] at hd3
        have e2 := hx (t + 1) hlt
        go_wp2_with fail
        refine (zbyte D w3 ((byte_good D _ _ w3 hd3).mono (fun e w' h => ⟨(l.getD (t + 1) 0).toNat, h.1, h⟩))).mono ?_
        rintro e w4 ⟨_, _, rfl, hd4, ho4⟩
        have HB4 : Hid (Below w.heap.size w w4) := (unhide HB3).trans (ho4.below.mono hs1)
        have HRB4 : BRow D w4 (some ⟨g, o, none⟩) l := (unhide HRB3).below ho4.below
        have hen := end_any D (some ⟨g, o, none⟩) l c w4 hl2 HRB4
        rw [hv] at hen
        have e4 : w4.cell? ⟨g, o + t, none⟩ = some (.int .u8 ((l.getD t 0).toNat : Int)) := (ho4.below.cell (p := ⟨g, o + t, none⟩) hg).trans e1
        have e5 : w4.cell? ⟨g, o + (t + 1), none⟩ = some (.int .u8 ((l.getD (t + 1) 0).toNat : Int)) := (ho4.below.cell (p := ⟨g, o + (t + 1), none⟩) hg).trans e2
        obtain ⟨a5, c5, hh, hc5, hr5⟩ := hd4
        have hre := rest_any D a5 _ c5 _ _ hh
        have her := err_any D _ _ _ hh
        have HR5 := hide hr5
        have HRD := hide (drop_row' HRB4 (t + 2) (by omega) hcap)
        have hll : (l.drop (t + 2)).length = l.length - (t + 2) := by simp
        have hl4 : (l.drop (t + 2)).length ≤ 2097152 := by omega
        clear hh hr5 ho4 ho3 hv e1 e2 hx HRB4 hdrop htop hd3 hx256
        generalize ((l.getD t 0).toNat : Int) = x at hA hB e4
        generalize ((l.getD (t + 1) 0).toNat : Int) = y at e5
        go_wp2_with (first | (go_at_call 9; refine hre.mono ?_; rintro e w4 ⟨rfl, rfl⟩) | (go_at_call 10; refine her.mono ?_; rintro e w4 ⟨rfl, rfl⟩) | (go_at_call 13; refine hen.mono ?_; rintro e w4 ⟨rfl, rfl⟩))
        · refine (same_len D _ _ (l.drop (t + 2)) _ _ _ _ _ hl4 hll.symm hll.symm (unhide HR5) ?_).mono ?_
          · have := unhide HRD
            rw [if_pos (by omega)] at this
            exact this
          rintro e w5 ⟨rfl, m, rfl⟩
          go_wp2
          go_ret
          exact ⟨rfl, below_drewN (unhide HB4) _⟩
        · refine (same_len D _ _ (l.drop (t + 2)) _ _ _ _ _ hl4 hll.symm hll.symm (unhide HR5) ?_).mono ?_
          · have := unhide HRD
            rw [if_neg (by omega)] at this
            exact this
          rintro e w5 ⟨rfl, m, rfl⟩
          go_wp2
          go_ret
          exact ⟨rfl, below_drewN (unhide HB4) _⟩
end Go.Proofs.Qxb6618635aDoor
