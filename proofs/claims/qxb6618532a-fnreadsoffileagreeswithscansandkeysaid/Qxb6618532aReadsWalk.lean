/-
  Seat b6618532a: the walk of FnReadsOfFileAgreesWithScansAndKey.
-/
import Derived.Test.Qxb6618532aReadsParts
import Derived.Deep.DeepCutAuto
import Derived.Laws.AppendOwnNone
namespace Go.Proofs.Qxb6618532a
open Go.RowKit

set_option maxRecDepth 100000 in
set_option maxHeartbeats 1000000 in
theorem reads_walk (a0 : Option Addr) (ts : List Cols) (c0 : Nat) (a1 : Option Addr) (bl : List Bool) (c1 : Nat) (keyed : Bool) (own : Int) (a4 : Option Addr) (rs : List ByteArray) (c4 : Nat) (w : World)
    (h0 : TabRow w a0 ts) (h1 : BoolRow w a1 bl) (h4 : StrRow w a4 rs)
    (hnil : ∀ j, j < ts.length → (ts.getD j ⟨none, [], 0⟩).a = none → (ts.getD j ⟨none, [], 0⟩).xs = [] ∧ (ts.getD j ⟨none, [], 0⟩).c = 0) (hnil4 : a4 = none → rs = [] ∧ c4 = 0) :
    Calls Try.prog 3 #[.slice a0 ts.length c0, .slice a1 bl.length c1, .bool keyed, .int .i64 own, .slice a4 rs.length c4] w fun e w' => e = .returned (.bool true) ∧ Below w.heap.size w w' := by
  have H0 : Hid (TabRow w a0 ts) := h0
  have H1 : Hid (BoolRow w a1 bl) := h1
  have H4 : Hid (StrRow w a4 rs) := h4
  have HNIL : Hid (∀ j, j < ts.length → (ts.getD j ⟨none, [], 0⟩).a = none → (ts.getD j ⟨none, [], 0⟩).xs = [] ∧ (ts.getD j ⟨none, [], 0⟩).c = 0) := hnil
  have HNIL4 : Hid (a4 = none → rs = [] ∧ c4 = 0) := hnil4
  clear h0 h1 h4 hnil hnil4
  go_enter Try.func3, Try.ntmps3
  go_wp2_with fail
  refine (bytes_any a0 ts c0 a1 bl.length c1 keyed own a4 rs c4 w H0.out H4.out).mono ?_
  rintro e w' ⟨⟨r, rfl, hr⟩, rfl⟩
  cases r with
  | false =>
    clear hr
    go_wp2_with fail
    go_ret
    exact ⟨rfl, Below.refl _ _⟩
  | true =>
  have HW : Hid (Within ts bl.length rs) := hr rfl
  clear hr
  go_wp2_with fail
  refine (fits_any a0 ts c0 a1 bl.length c1 a4 rs c4 w' H0.out H4.out).mono ?_
  rintro e w ⟨⟨r, rfl, hr⟩, rfl⟩
  cases r with
  | false =>
    clear hr
    go_wp2_with fail
    go_ret
    exact ⟨rfl, Below.refl _ _⟩
  | true =>
  obtain ⟨hn0, hn1, hn4⟩ := hr rfl
  clear hr
  go_wp2_with fail
  refine (tables_any a0 ts c0 w H0.out hn0).mono ?_
  rintro e w1 ⟨rfl, hmak⟩
  have HM : Hid (Making w.heap.size ts ts.length w w1) := hmak
  have hN : w.heap.size < w1.heap.size := by rw [hmak.size]; omega
  clear hmak
  obtain ⟨i0, hi, hz0, hz1, hz2⟩ := info_parts info29
  go_wp2_with fail
  go_loopw [12, 13] (fun v i wr => ∃ k : Nat, k ≤ ts.length ∧ i = .int .i64 k ∧ Scan w1.heap.size bl w.heap.size k w1 v wr) (fun _ i _ => ts.length - (intOf i).toNat)
  case atStart => exact ⟨0, Nat.zero_le _, rfl, Scan.start _ _ _⟩
  case round =>
    obtain ⟨k, hk, rfl, hsc⟩ := hrel
    have HS : Hid (Scan w1.heap.size bl w.heap.size k w1 u12 wr) := hsc
    by_cases hlt : k < ts.length
    · have hbw : Below w.heap.size w wr := HM.out.below.trans (hsc.below.mono (by omega))
      have hsz := hsc.below.size
      have hrc := (hsc.below.cell (p := ⟨w.heap.size, k, none⟩) hN).trans (HM.out.row.cell hlt)
      simp only [hlt, if_true] at hrc
      have hlen := scn_len bl w.heap.size k
      by_cases hkb : k < bl.length
      · rcases H1.out.below hbw with hr | ⟨b, off, rfl, hb, hc⟩
        · subst hr; simp at hkb
        have hck := hc k hkb
        clear hc hbw
        cases hbk : bl.getD k false with
        | true =>
          rw [hbk] at hck
          have HB : Hid (bl.getD k false = true) := hbk
          have hown := hsc.own
          clear hbk hsc
          go_wp2_with (at_builtin; refine wpList_append_own _ rfl _ _ 27 rfl w1.heap.size 29 i0 (.pointer none) 1 8 Try.underlying27 hi hz0 hz1 hz2 rfl (by decide) _ _ _ rfl (hown.alloc _) ⟨wr.heap.size, 0, none⟩ 1 1 [.pointer (some ⟨w.heap.size + 1 + k, 0, none⟩)] rfl rfl ?c1 ?c2 ?c3 ?c4 ?c5 ?_)
          case c1 => exact cell_one_new _ _ _
          case c2 => intro u hu; simp at hu; subst hu; rfl
          case c3 => unfold maxLen; omega
          case c4 => omega
          case c5 => simp; omega
          intro v' w2 hown' hgrow _
          have R := HS.out.add HB.out (by omega) hown' hgrow
          clear hown' hgrow hown hck hrc
          go_wp2
          go_roundw
          case rel => exact ⟨k + 1, by omega, by go_num, R⟩
          case measure => simp [intOf]; omega
        | false =>
          rw [hbk] at hck
          have R := hsc.skip hbk
          clear hbk hsc
          go_wp2
          go_roundw
          case rel => exact ⟨k + 1, by omega, by go_num, R⟩
          case measure => simp [intOf]; omega
      · have R := hsc.skip (by simp [List.getD, List.getElem?_eq_none (Nat.le_of_not_lt hkb)])
        clear hsc hbw
        go_wp2
        go_roundw
        case rel => exact ⟨k + 1, by omega, by go_num, R⟩
        case measure => simp [intOf]; omega
    · have hke : k = ts.length := by omega
      subst hke
      obtain ⟨sa, sc, hv, hblk⟩ := hsc.done HM.out
      subst hv
      have HBL : Hid (BlkRow wr sa (scn bl w.heap.size ts.length)) := hblk
      have HBE : Hid (Below w1.heap.size w1 wr) := hsc.below
      have hsz := hsc.below.size
      clear hblk hsc HS hi hz0 hz1 hz2
      go_upto_region 13 with fail
      go_cut [67] (fun s wx => wr = wx ∧ s = .bool (inB own ts.length))
      case first =>
        by_cases ho : 0 ≤ own
        · by_cases ho2 : own < (ts.length : Int)
          · go_wp2
            go_meet
            exact ⟨rfl, by simp [inB, ho, ho2]⟩
          · go_wp2
            go_meet
            exact ⟨rfl, by simp [inB, ho2]⟩
        · go_wp2
          go_meet
          exact ⟨rfl, by simp [inB]; omega⟩
      case rest =>
      obtain ⟨rfl, rfl⟩ := hcut
      go_upto_if 67 with fail
      go_cut [14] (fun s wx => wr = wx ∧ s = .pointer (ownA w.heap.size own ts.length))
      case first =>
        by_cases ho : 0 ≤ own ∧ own < (ts.length : Int)
        · have hd : inB own ts.length = true := by simpa [inB] using ho
          obtain ⟨t, rfl⟩ := Int.eq_ofNat_of_zero_le ho.1
          have hrc := (HBE.out.cell (p := ⟨w.heap.size, t, none⟩) hN).trans (HM.out.row.cell (show t < ts.length by omega))
          have ht : t < ts.length := by omega
          simp only [ht, if_true] at hrc
          have hfin : Hid (ownA w.heap.size t ts.length = some ⟨w.heap.size + 1 + t, 0, none⟩) := by unfold Hid ownA; rw [ownB_in (by omega) (by omega)]; simp
          clear ho
          rw [hd]
          clear hd
          go_wp2
          go_meet
          exact ⟨rfl, by rw [hfin.out]⟩
        · have hd : inB own ts.length = false := by simpa [inB] using ho
          have hfin : Hid (ownA w.heap.size own ts.length = none) := by unfold Hid ownA; rw [ownB_out ho]; simp
          clear ho
          rw [hd]
          clear hd
          go_wp2
          go_meet
          exact ⟨rfl, by rw [hfin.out]⟩
      case rest =>
      obtain ⟨rfl, rfl⟩ := hcut
      have hbw : Hid (Below w.heap.size w wr) := HM.out.below.trans (HBE.out.mono (by omega))
      obtain ⟨i9, hi9, hy0, hy1, hy2⟩ := info_parts info9
      cases keyed with
      | false =>
        go_upto_if 87 with fail
        go_cut [] (fun wx => ∃ va vn vc, SetUp w.heap.size ts bl wr.heap.size (wr.heap.size + 1) (ownA w.heap.size own ts.length) (.slice none 0 0) (.slice a4 rs.length c4) sa sc va vn vc w wx)
        case first =>
          by_cases hp : 0 < ts.length
          · obtain ⟨h0, -⟩ := H0.out.below hbw.out
            rcases h0 with hr | ⟨b, off, rfl, hb, hc⟩
            · subst hr; simp at hp
            have hc0 := hc 0 hp
            simp only [Nat.add_zero] at hc0
            generalize ts.getD 0 ⟨none, [], 0⟩ = r at hc0
            obtain ⟨ra, rxs, rc⟩ := r
            simp only at hc0
            go_wp2
            go_meet
            exact ⟨_, _, _, setUp_un HM.out HBE.out HBL.out⟩
          · go_wp2
            go_meet
            exact ⟨_, _, _, setUp_un HM.out HBE.out HBL.out⟩
        case rest =>
        obtain ⟨va, vn, vc, hset⟩ := hcut
        obtain ⟨wo, rfl⟩ : ∃ wo : World, wo = wr := ⟨_, rfl⟩
        have hsz3 := hset.below.size
        have hbn := scn_len bl w.heap.size ts.length
        have nn := neNil 24 9 Try.underlying24
        have hcon := readsOf_unkeyed wo.heap.size sa (scn bl w.heap.size ts.length) sc (wo.heap.size + 1) va vn vc wc hset.c3 hset.c7 hset.blk hset.str (by omega)
        rw [if_neg (scn_far hset.far)] at hcon
        have HSET : Hid (SetUp w.heap.size ts bl wo.heap.size (wo.heap.size + 1) (ownA w.heap.size own ts.length) (.slice none 0 0) (.slice a4 rs.length c4) sa sc va vn vc w wc) := hset
        clear hset hbw HBE HBL
        go_wp2_with (go_at_call 8; refine hcon.mono ?_; rintro e wc ⟨rfl, rfl⟩)
        clear hcon nn
        go_loopw [17, 18] (fun v i wr => ∃ k : Nat, k ≤ ts.length ∧ i = .int .i64 k ∧ Gath wc.heap.size (flU ts bl k) wc v wr) (fun _ i _ => ts.length - (intOf i).toNat)
        case atStart => exact ⟨0, Nat.zero_le _, rfl, Gath.start _⟩
        case round =>
          obtain ⟨k, hk, rfl, hga⟩ := hrel
          have HG : Hid (Gath wc.heap.size (flU ts bl k) wc u17 wr) := hga
          have hszr := hga.below.size
          by_cases hlt : k < ts.length
          · have hse := HSET.out.later hga.below hsz3
            have hrc := hse.row.cell hlt
            simp only [hlt, if_true] at hrc
            have hwb : Below w.heap.size w wr := hse.below
            have hcon := readsOf_unkeyed wo.heap.size sa (scn bl w.heap.size ts.length) sc (w.heap.size + 1 + k) _ _ _ wr hse.c3 hse.c7 hse.blk (hse.tabs k hlt) (by omega)
            have hl := flU_len bl HW.out.2.1 k hk
            have hck := HW.out.2.1 k hlt
            have hsk := (H0.out.below hwb).2 k hlt
            have hnk := HNIL.out k hlt
            obtain ⟨h0r, -⟩ := H0.out.below hwb
            have h1r := H1.out.below hwb
            cases hbk : bl.getD k false with
            | true =>
              have hkb : k < bl.length := by
                rcases Nat.lt_or_ge k bl.length with h | h
                · exact h
                · simp [List.getD, List.getElem?_eq_none h] at hbk
              rw [if_pos ((scn_mem_iff hlt).2 hbk)] at hcon
              rcases h0r with hr | ⟨b, off, rfl, hb, hc⟩
              · subst hr; simp at hlt
              rcases h1r with hr | ⟨b1, off1, rfl, hb1, hc1⟩
              · subst hr; simp at hkb
              have hck0 := hc k hlt
              have hck1 := hc1 k hkb
              rw [hbk] at hck1
              have hnext : Hid (flU ts bl (k + 1) = flU ts bl k ++ (ts.getD k ⟨none, [], 0⟩).xs) := by unfold Hid; rw [flU, hbk]; rfl
              clear hc hc1 hbk hse hwb hga
              generalize ts.getD k ⟨none, [], 0⟩ = r at hck0 hcon hck hsk hnk hnext
              obtain ⟨ra, rxs, rc⟩ := r
              simp only at hck0 hcon hck hsk hnk hnext
              have hsame := sameStrings_self ra rxs rc wr hsk hck
              have HSK : Hid (StrRow wr ra rxs) := hsk
              clear hsk
              cases ra with
              | none =>
                obtain ⟨rfl, rfl⟩ := hnk rfl
                simp only [List.length_nil] at hcon hsame hck0
                clear hnk
                go_wp2_with (first | (go_at_call 8; refine hcon.mono ?_; rintro e wr ⟨rfl, rfl⟩) | (go_at_call 9; refine hsame.mono ?_; rintro e w2 ⟨rfl, m, rfl⟩) | (at_builtin; refine wpList_append_own_none rfl _ _ 24 rfl wc.heap.size 9 i9 1 Try.underlying24 hi9 _ _ _ rfl (HG.out.drewN m).own rfl ?_))
                go_roundw
                case rel => exact ⟨k + 1, by omega, by go_num, by rw [hnext.out, List.append_nil]; exact HG.out.drewN m⟩
                case measure => simp [intOf]; omega
              | some ad =>
                clear hnk
                go_wp2_with (first | (go_at_call 8; refine hcon.mono ?_; rintro e wr ⟨rfl, rfl⟩) | (go_at_call 9; refine hsame.mono ?_; rintro e w2 ⟨rfl, m, rfl⟩) | (at_builtin; refine wpList_append_own _ rfl _ _ 24 rfl wc.heap.size 9 i9 (.string ByteArray.empty) 1 16 Try.underlying24 hi9 hy0 hy1 hy2 rfl (by decide) _ _ _ rfl (HG.out.drewN m).own ad rxs.length rc (rxs.map Value.string) rfl (by simp) ?c1 (strs_oneCell rxs) ?c3 ?c4 ?c5 ?_))
                case c1 => exact (HSK.out.below (below_drewN' (Below.refl _ _) m)).news
                case c3 => unfold maxLen; omega
                case c4 => omega
                case c5 => simpa using hszr
                intro v' w2 hown' hgrow _
                have R := (HG.out.drewN m).add (by simpa using hszr) hown' hgrow
                clear hown' hgrow hcon hsame hck0 hck1 hrc
                go_wp2
                go_roundw
                case rel => exact ⟨k + 1, by omega, by go_num, by rw [hnext.out]; exact R⟩
                case measure => simp [intOf]; omega
            | false =>
              have hmem : ¬ (w.heap.size + 1 + k ∈ scn bl w.heap.size ts.length) := fun h => by rw [(scn_mem_iff hlt).1 h] at hbk; cases hbk
              rw [if_neg hmem] at hcon
              have hnext : Hid (flU ts bl (k + 1) = flU ts bl k) := by unfold Hid; rw [flU, hbk]; simp
              have hsame := sameStrings_self none [] 0 wr (.inl rfl) (by simp)
              simp only [List.length_nil] at hsame
              clear hse hwb hga hmem hck hsk hnk h0r
              by_cases hkb : k < bl.length
              · rcases h1r with hr | ⟨b1, off1, rfl, hb1, hc1⟩
                · subst hr; simp at hkb
                have hck1 := hc1 k hkb
                rw [hbk] at hck1
                clear hc1 hbk
                go_wp2_with (first | (go_at_call 8; refine hcon.mono ?_; rintro e wr ⟨rfl, rfl⟩) | (go_at_call 9; refine hsame.mono ?_; rintro e w2 ⟨rfl, m, rfl⟩) | (at_builtin; refine wpList_append_own_none rfl _ _ 24 rfl wc.heap.size 9 i9 1 Try.underlying24 hi9 _ _ _ rfl (HG.out.drewN m).own rfl ?_))
                go_roundw
                case rel => exact ⟨k + 1, by omega, by go_num, by rw [hnext.out]; exact HG.out.drewN m⟩
                case measure => simp [intOf]; omega
              · clear h1r hbk
                go_wp2_with (first | (go_at_call 8; refine hcon.mono ?_; rintro e wr ⟨rfl, rfl⟩) | (go_at_call 9; refine hsame.mono ?_; rintro e w2 ⟨rfl, m, rfl⟩) | (at_builtin; refine wpList_append_own_none rfl _ _ 24 rfl wc.heap.size 9 i9 1 Try.underlying24 hi9 _ _ _ rfl (HG.out.drewN m).own rfl ?_))
                go_roundw
                case rel => exact ⟨k + 1, by omega, by go_num, by rw [hnext.out]; exact HG.out.drewN m⟩
                case measure => simp [intOf]; omega
          · have hke : k = ts.length := by omega
            subst hke
            obtain ⟨wf, rfl⟩ : ∃ wf : World, wf = wr := ⟨_, rfl⟩
            obtain ⟨fa, fc, hv, hfr⟩ := hga.form
            subst hv
            have HFR : Hid (StrRow wf fa (flU ts bl ts.length)) := hfr
            clear hfr hga
            have hfl := flU_len bl HW.out.2.1 ts.length (Nat.le_refl _)
            go_wp2_with fail
            go_loopw [21, 22] (fun v i wr => ∃ k : Nat, k ≤ (scn bl w.heap.size ts.length).length ∧ i = .int .i64 k ∧ Gath wf.heap.size (ofBlocks ts w.heap.size ((scn bl w.heap.size ts.length).take k)) wf v wr) (fun _ i _ => (scn bl w.heap.size ts.length).length - (intOf i).toNat)
            case atStart => exact ⟨0, Nat.zero_le _, rfl, Gath.start _⟩
            case round =>
              obtain ⟨j, hj, rfl, hga⟩ := hrel
              have HG2 : Hid (Gath wf.heap.size (ofBlocks ts w.heap.size ((scn bl w.heap.size ts.length).take j)) wf u21 wr) := hga
              have hsz5 := hga.below.size
              have hwcr : Below wc.heap.size wc wr := HG.out.below.trans (hga.below.mono hszr)
              by_cases hlj : j < (scn bl w.heap.size ts.length).length
              · have hse := HSET.out.later hwcr hsz3
                have hwb : Below w.heap.size w wr := hse.below
                have hmem : (scn bl w.heap.size ts.length).getD j 0 ∈ scn bl w.heap.size ts.length := by rw [getD_at hlj]; exact List.getElem_mem hlj
                obtain ⟨t, ht, hbt, hbe⟩ := mem_scn hmem
                obtain ⟨hblk, -⟩ := hse.blk
                rcases hblk with hr | ⟨gb, go, rfl, hgc⟩
                · rw [hr] at hlj; simp at hlj
                have hcj := hgc j hlj
                rw [hbe] at hcj hmem
                have hcon := readsOf_unkeyed wo.heap.size _ (scn bl w.heap.size ts.length) sc (w.heap.size + 1 + t) _ _ _ wr hse.c3 hse.c7 hse.blk (hse.tabs t ht) (by omega)
                rw [if_pos hmem] at hcon
                have hck := HW.out.2.1 t ht
                have hsk := (H0.out.below hwb).2 t ht
                have hnk := HNIL.out t ht
                have hl := ofBlocks_len (bl := bl) (N := w.heap.size) HW.out.2.1 ((scn bl w.heap.size ts.length).take j) (fun B hB => List.mem_of_mem_take hB)
                rw [List.length_take] at hl
                have hnext : Hid (ofBlocks ts w.heap.size ((scn bl w.heap.size ts.length).take (j + 1)) = ofBlocks ts w.heap.size ((scn bl w.heap.size ts.length).take j) ++ (ts.getD t ⟨none, [], 0⟩).xs) := by
                  unfold Hid; rw [take_snoc (d := 0) hlj, ofBlocks_append, hbe]; simp [ofBlocks, colsAt, show w.heap.size + 1 + t - w.heap.size - 1 = t by omega]
                clear hgc hse hwb hga hmem hbe hbt
                generalize ts.getD t ⟨none, [], 0⟩ = r at hcon hck hsk hnk hnext
                obtain ⟨ra, rxs, rc⟩ := r
                simp only at hcon hck hsk hnk hnext
                have HSK : Hid (StrRow wr ra rxs) := hsk
                clear hsk
                cases ra with
                | none =>
                  obtain ⟨rfl, rfl⟩ := hnk rfl
                  simp only [List.length_nil] at hcon
                  clear hnk
                  go_wp2_with (first | (go_at_call 8; refine hcon.mono ?_; rintro e wr ⟨rfl, rfl⟩) | (at_builtin; refine wpList_append_own_none rfl _ _ 24 rfl wf.heap.size 9 i9 1 Try.underlying24 hi9 _ _ _ rfl HG2.out.own rfl ?_))
                  go_roundw
                  case rel => exact ⟨j + 1, by omega, by go_num, by rw [hnext.out, List.append_nil]; exact HG2.out⟩
                  case measure => simp [intOf]; omega
                | some ad =>
                  clear hnk
                  go_wp2_with (first | (go_at_call 8; refine hcon.mono ?_; rintro e wr ⟨rfl, rfl⟩) | (at_builtin; refine wpList_append_own _ rfl _ _ 24 rfl wf.heap.size 9 i9 (.string ByteArray.empty) 1 16 Try.underlying24 hi9 hy0 hy1 hy2 rfl (by decide) _ _ _ rfl HG2.out.own ad rxs.length rc (rxs.map Value.string) rfl (by simp) ?d1 (strs_oneCell rxs) ?d3 ?d4 ?d5 ?_))
                  case d1 => exact HSK.out.news
                  case d3 => unfold maxLen; omega
                  case d4 => omega
                  case d5 => exact hsz5
                  intro v' w2 hown' hgrow _
                  have R := HG2.out.add hsz5 hown' hgrow
                  clear hown' hgrow hcon hcj
                  go_wp2
                  go_roundw
                  case rel => exact ⟨j + 1, by omega, by go_num, by rw [hnext.out]; exact R⟩
                  case measure => simp [intOf]; omega
              · have hje : j = (scn bl w.heap.size ts.length).length := by omega
                subst hje
                rw [List.take_length, ← flU_blocks] at hga
                obtain ⟨oa, oc, hv, hor⟩ := hga.form
                subst hv
                have hsame := sameElems_same fa (flU ts bl ts.length) fc oa oc wr (HFR.out.below hga.below) hor (by omega)
                have hend : Hid (∀ m, Below w.heap.size w (wr.drewN m)) := fun m => below_drewN' (HSET.out.below.trans (hwcr.mono hsz3)) m
                clear hga hor hwcr HG2
                go_wp2_with (go_at_call 10; refine hsame.mono ?_; rintro e w2 ⟨rfl, m, rfl⟩)
                go_ret
                exact ⟨rfl, hend.out m⟩
      | true =>
        go_upto_if 87 with fail
        go_cut [] (fun wx => ∃ va vn vc, SetUp w.heap.size ts bl wr.heap.size (wr.heap.size + 1 + 1) (ownA w.heap.size own ts.length) (.slice (some ⟨wr.heap.size + 1, 0, none⟩) 1 1) (.slice a4 rs.length c4) sa sc va vn vc w wx)
        case first =>
          by_cases hp : 0 < ts.length
          · obtain ⟨h0, -⟩ := H0.out.below hbw.out
            rcases h0 with hr | ⟨b, off, rfl, hb, hc⟩
            · subst hr; simp at hp
            have hc0 := hc 0 hp
            simp only [Nat.add_zero] at hc0
            generalize ts.getD 0 ⟨none, [], 0⟩ = r at hc0
            obtain ⟨ra, rxs, rc⟩ := r
            simp only at hc0
            have hc3 : ∀ o1 o2 o3, (((wr.alloc o1).alloc o2).alloc o3).cell? ⟨b, off, none⟩ = some (.slice ra rxs.length rc) := fun o1 o2 o3 =>
              (((((Below.refl wr.heap.size wr).alloc (Nat.le_refl _) o1).alloc (by simp) o2).alloc (by simp; omega) o3).cell (p := ⟨b, off, none⟩) hb).trans hc0
            clear hc hc0
            go_wp2
            go_meet
            exact ⟨_, _, _, setUp_key HM.out HBE.out HBL.out⟩
          · go_wp2
            go_meet
            exact ⟨_, _, _, setUp_key HM.out HBE.out HBL.out⟩
        case rest =>
        obtain ⟨va, vn, vc, hset⟩ := hcut
        obtain ⟨wo, rfl⟩ : ∃ wo : World, wo = wr := ⟨_, rfl⟩
        have hsz3 := hset.below.size
        have nn := neNil 24 9 Try.underlying24
        have hall : Hid (∀ (wx : World) (q : Nat) (v : Value), Below wc.heap.size wc wx → IsTab wx q v →
            Calls Try.prog 8 #[.pointer (some ⟨wo.heap.size, 0, none⟩), .pointer (some ⟨q, 0, none⟩)] wx fun e w' => e = .returned (if ownB w.heap.size own ts.length = some q then .slice a4 rs.length c4 else .slice none 0 0) ∧ w' = wx) := by
          intro wx q v hb hq
          have hse := hset.later hb hsz3
          exact readsOf_keyed wo.heap.size (ownB w.heap.size own ts.length) a4 rs.length c4 _ 1 1 q (fun B => colVal ts (B - w.heap.size - 1)) v wx hse.c3 (by exact hse.c2) hse.c5
            (fun B hB => by obtain ⟨t, ht, _, rfl⟩ := ownB_some hB; rw [show w.heap.size + 1 + t - w.heap.size - 1 = t by omega]; exact hse.tabs t ht) hq
        have hcon := hall.out wc _ _ (Below.refl _ _) hset.str
        rw [if_neg (fun h => by obtain ⟨t, ht, _, e⟩ := ownB_some h; have := hset.far; omega)] at hcon
        have HSET : Hid (SetUp w.heap.size ts bl wo.heap.size (wo.heap.size + 1 + 1) (ownA w.heap.size own ts.length) (.slice (some ⟨wo.heap.size + 1, 0, none⟩) 1 1) (.slice a4 rs.length c4) sa sc va vn vc w wc) := hset
        clear hset hbw HBE HBL
        go_wp2_with (go_at_call 8; refine hcon.mono ?_; rintro e wc ⟨rfl, rfl⟩)
        clear hcon nn
        go_loopw [17, 18] (fun v i wr => ∃ k : Nat, k ≤ ts.length ∧ i = .int .i64 k ∧ Gath wc.heap.size (flK own rs k) wc v wr) (fun _ i _ => ts.length - (intOf i).toNat)
        case atStart => exact ⟨0, Nat.zero_le _, rfl, by unfold flK; rw [if_neg (by omega)]; exact Gath.start _⟩
        case round =>
          obtain ⟨k, hk, rfl, hga⟩ := hrel
          have HG : Hid (Gath wc.heap.size (flK own rs k) wc u17 wr) := hga
          have hszr := hga.below.size
          by_cases hlt : k < ts.length
          · have hse := HSET.out.later hga.below hsz3
            have hrc := hse.row.cell hlt
            simp only [hlt, if_true] at hrc
            have hcon := hall.out wr _ _ hga.below (hse.tabs k hlt)
            have hsk := H4.out.below (hse.below)
            by_cases ho : own = (k : Int)
            · subst ho
              rw [if_pos (by rw [ownB_in (by omega) (by omega)]; simp)] at hcon
              have hsame := sameStrings_self a4 rs c4 wr hsk (by omega)
              have HSK : Hid (StrRow wr a4 rs) := hsk
              have HN4 := HNIL4.out
              clear hse hga hsk
              cases a4 with
              | none =>
                have HX : Hid (Value.slice none rs.length c4 = Value.slice none 0 0 ∧ rs = []) := by obtain ⟨h1, h2⟩ := HN4 rfl; unfold Hid; rw [h1, h2]; exact ⟨rfl, rfl⟩
                clear HN4
                go_wp2_with (first | (go_at_call 8; refine hcon.mono ?_; rintro e wr ⟨rfl, rfl⟩) | (go_at_call 9; refine hsame.mono ?_; rintro e w2 ⟨rfl, m, rfl⟩) | (at_builtin; refine wpList_append_own_none rfl _ _ 24 rfl wc.heap.size 9 i9 1 Try.underlying24 hi9 _ _ _ rfl (HG.out.drewN m).own HX.out.1 ?_))
                go_roundw
                case rel => exact ⟨k + 1, by omega, by go_num, by have h := HG.out.drewN m; rw [flK_before] at h; rw [flK_at, HX.out.2]; exact h⟩
                case measure => simp [intOf]; omega
              | some ad =>
                clear HN4
                have hfb := flK_before rs k
                have HG3 : Hid (Gath wc.heap.size [] wc u17 wr) := by rw [← hfb]; exact HG.out
                clear hfb
                go_wp2_with (first | (go_at_call 8; refine hcon.mono ?_; rintro e wr ⟨rfl, rfl⟩) | (go_at_call 9; refine hsame.mono ?_; rintro e w2 ⟨rfl, m, rfl⟩) | (at_builtin; refine wpList_append_own _ rfl _ _ 24 rfl wc.heap.size 9 i9 (.string ByteArray.empty) 1 16 Try.underlying24 hi9 hy0 hy1 hy2 rfl (by decide) _ _ _ rfl (HG3.out.drewN m).own ad rs.length c4 (rs.map Value.string) rfl (by simp) ?f1 (strs_oneCell rs) ?f3 ?f4 ?f5 ?_))
                case f1 => exact (HSK.out.below (below_drewN' (Below.refl _ _) m)).news
                case f3 => unfold maxLen; simp; omega
                case f4 => simp; omega
                case f5 => simpa using hszr
                intro v' w2 hown' hgrow _
                have R := (HG3.out.drewN m).add (M := rs) (v' := v') (w' := w2) (by simpa using hszr) (by simpa using hown') hgrow
                clear hown' hgrow hcon hsame hrc
                go_wp2
                go_roundw
                case rel => exact ⟨k + 1, by omega, by go_num, by rw [flK_at]; exact R⟩
                case measure => simp [intOf]; omega
            · rw [if_neg (fun h => by obtain ⟨t, ht, e1, e2⟩ := ownB_some h; omega)] at hcon
              have hnext : Hid (flK own rs (k + 1) = flK own rs k) := flK_other rs ho
              have hbq : ((k : Int) == own) = false := by simp; omega
              have hsame := sameStrings_self none [] 0 wr (.inl rfl) (by simp)
              simp only [List.length_nil] at hsame
              clear hse hga hsk ho
              go_wp2_with (first | (go_at_call 8; refine hcon.mono ?_; rintro e wr ⟨rfl, rfl⟩) | (go_at_call 9; refine hsame.mono ?_; rintro e w2 ⟨rfl, m, rfl⟩) | (at_builtin; refine wpList_append_own_none rfl _ _ 24 rfl wc.heap.size 9 i9 1 Try.underlying24 hi9 _ _ _ rfl (HG.out.drewN m).own rfl ?_))
              go_roundw
              case rel => exact ⟨k + 1, by omega, by go_num, by rw [hnext.out]; exact HG.out.drewN m⟩
              case measure => simp [intOf]; omega
          · have hke : k = ts.length := by omega
            subst hke
            obtain ⟨wf, rfl⟩ : ∃ wf : World, wf = wr := ⟨_, rfl⟩
            have hse := HSET.out.later hga.below hsz3
            have hend : Hid (∀ m, Below w.heap.size w (wf.drewN m)) := fun m => below_drewN' hse.below m
            by_cases hin : 0 ≤ own ∧ own < (ts.length : Int)
            · obtain ⟨t, rfl⟩ := Int.eq_ofNat_of_zero_le hin.1
              have hoa : ownA w.heap.size t ts.length = some ⟨w.heap.size + 1 + t, 0, none⟩ := by unfold ownA; rw [ownB_in (by omega) (by omega)]; simp
              have hfl : flK (t : Int) rs ts.length = rs := by unfold flK; rw [if_pos hin]
              rw [hfl] at hga
              obtain ⟨fa, fc, hv, hfr⟩ := hga.form
              subst hv
              have hcon := hall.out wf _ _ hga.below (hse.tabs t (by omega))
              rw [if_pos (by rw [ownB_in (by omega) (by omega)]; simp)] at hcon
              have hsame := sameElems_same fa rs fc a4 c4 wf hfr (H4.out.below hse.below) (by omega)
              rw [hoa]
              clear hfl hga hfr hse hall hin hoa HG
              go_wp2_with (first | (go_at_call 8; refine hcon.mono ?_; rintro e wf ⟨rfl, rfl⟩) | (go_at_call 10; refine hsame.mono ?_; rintro e w2 ⟨rfl, m, rfl⟩))
              go_ret
              exact ⟨rfl, hend.out m⟩
            · have hoa : ownA w.heap.size own ts.length = none := by unfold ownA; rw [ownB_out hin]; rfl
              have hfl : flK own rs ts.length = [] := by unfold flK; rw [if_neg hin]
              rw [hfl] at hga
              obtain ⟨fa, fc, hv, hfr⟩ := hga.form
              subst hv
              have hsame := sameElems_same fa [] fc none 0 wf hfr (.inl rfl) (by simp)
              simp only [List.length_nil] at hsame
              rw [hoa]
              clear hfl hga hfr hse hall hin hoa HG
              go_wp2_with (first | (go_at_call 10; refine hsame.mono ?_; rintro e w2 ⟨rfl, m, rfl⟩))
              go_ret
              exact ⟨rfl, hend.out m⟩

end Go.Proofs.Qxb6618532a
