/-
  Seat b6618532a: the walk of (*textWriter).pieces.
-/
import Derived.Test.Qxb6618532aPieces
import Derived.Deep.CutBlock
namespace Go.Proofs.Qxb6618532a
open Go.RowKit

theorem hide {p : Prop} (h : p) : Hid p := h
theorem unhide {p : Prop} (h : Hid p) : p := h

structure PieceHyp (B W X nN : Nat) (nf : Nat → Value) (tl : List Tok) (rl : List Rw) (i h : Nat) (hasR : Bool) (rb : Nat) (rf rl' : Int) (l : List UInt8) (w : World) : Prop where
  tw : TWs B W X tl.length (tl.flatMap tokV) rl.length (rl.flatMap (rwV i h)) nN nf l w
  x0 : nf (3 * i + h) = .int .i64 0
  x1 : nf (3 * i + h + 1) = .int .i64 rl.length
  hk : 3 * i + h + 1 < nN
  hi : i ≤ 65536
  nt : tl.length ≤ 65536
  nr : rl.length ≤ 65536
  texts : ∀ j, j < rl.length → (rl.getD j r0).text.size ≤ 1048576
  minus : ∀ j, j < rl.length → (rl.getD j r0).minus = true → 0 ≤ (rl.getD j r0).f ∧ (rl.getD j r0).f ≤ (rl.getD j r0).l ∧ (rl.getD j r0).l < tl.length
  hl : l.length ≤ 1048576
  hB : B ≤ w.heap.size
  rep : hasR = true → w.heap[rb]? = some (.cells #[.int .i64 rf, .int .i64 rl'] 90 (0, 0))

def InsFrom (hasR : Bool) (rf rl' : Int) (rl : List Rw) (k : Nat) : Prop := ∀ j, k ≤ j → j < rl.length → insB hasR rf rl' (rl.getD j r0) = true
theorem InsFrom.pred {hasR : Bool} {rf rl' : Int} {rl : List Rw} {k : Nat} (h : InsFrom hasR rf rl' rl (k + 1)) (hk : insB hasR rf rl' (rl.getD k r0) = true) : InsFrom hasR rf rl' rl k := fun j hj hl => by
  by_cases e : j = k
  · subst e; exact hk
  · exact h j (by omega) hl
def WinTo (sf sl : Int) (rl : List Rw) (a b : Nat) : Prop := ∀ j, a ≤ j → j < b → winB (rl.getD j r0).f (rl.getD j r0).l sf sl = true
theorem WinTo.pred {sf sl : Int} {rl : List Rw} {a b : Nat} (h : WinTo sf sl rl (a + 1) b) (hk : winB (rl.getD a r0).f (rl.getD a r0).l sf sl = true) : WinTo sf sl rl a b := fun j hj hl => by
  by_cases e : j = a
  · subst e; exact hk
  · exact h j (by omega) hl
theorem WinTo.succ {sf sl : Int} {rl : List Rw} {a b : Nat} (h : WinTo sf sl rl a b) (hk : winB (rl.getD b r0).f (rl.getD b r0).l sf sl = true) : WinTo sf sl rl a (b + 1) := fun j hj hl => by
  by_cases e : j = b
  · subst e; exact hk
  · exact h j hj (by omega)
def InsTo (hasR : Bool) (rf rl' : Int) (rl : List Rw) (k : Nat) : Prop := ∀ j, j < k → insB hasR rf rl' (rl.getD j r0) = true
theorem InsTo.succ {hasR : Bool} {rf rl' : Int} {rl : List Rw} {k : Nat} (h : InsTo hasR rf rl' rl k) (hk : insB hasR rf rl' (rl.getD k r0) = true) : InsTo hasR rf rl' rl (k + 1) := fun j hj => by
  by_cases e : j = k
  · subst e; exact hk
  · exact h j (by omega)

/-- What stands when the run has been found. -/
structure Found (B W X nN : Nat) (nf : Nat → Value) (tl : List Tok) (rl : List Rw) (i h : Nat) (sf sl : Int) (hasR : Bool) (rf rl' : Int) (l : List UInt8) (b10 : Nat) (ao : Option Addr) (a b : Nat) (ar : Option Addr) (cr : Nat) (w wx : World) : Prop where
  hab : a ≤ b
  hbn : b ≤ rl.length
  run : lawT tl sf sl hasR rf rl' rl = outT tl ((rl.drop a).take (b - a))
  tw : TWs B W X tl.length (tl.flatMap tokV) rl.length (rl.flatMap (rwV i h)) nN nf l wx
  bel : Below B w wx
  cell : wx.heap[b10]? = some (.cells #[.slice ar (b - a) cr] 35 (0, 0))
  row : RwAt wx ao i h rl
  adr : a < b → ∀ g, ao = some ⟨g, 0, none⟩ → ar = some ⟨g, a * 10, none⟩

theorem found_mk {B W X nN : Nat} {nf : Nat → Value} {tl : List Tok} {rl : List Rw} {i h : Nat} {sf sl : Int} {hasR : Bool} {rb : Nat} {rf rl' : Int} {l : List UInt8} {ao : Option Addr} {cap a b : Nat} {w w4 we : World}
    (hpe : PW w.heap.size (w.heap.size + 1) (w.heap.size + 1 + 1) sf sl hasR rb rf rl' ao cap i h rl we) (htw : TWs B W X tl.length (tl.flatMap tokV) rl.length (rl.flatMap (rwV i h)) nN nf l w4) (h4 : Below w.heap.size w w4) (he : Below w4.heap.size w4 we) (hB : B ≤ w.heap.size)
    (hrun : lawT tl sf sl hasR rf rl' rl = outT tl ((rl.drop a).take (b - a))) (hab : a ≤ b) (hb : b ≤ rl.length) {ar : Option Addr} {n cr : Nat} (hnn : n = b - a) (hadr : a < b → ∀ g, ao = some ⟨g, 0, none⟩ → ar = some ⟨g, a * 10, none⟩) :
    Found B W X nN nf tl rl i h sf sl hasR rf rl' l (w.heap.size + 1 + 1) ao a b ar cr w (we.setCell ⟨w.heap.size + 1 + 1, 0, none⟩ (.slice ar n cr)) := by
  subst hnn
  exact {
    hab := hab
    hbn := hb
    run := hrun
    tw := (htw.below he).setO hpe.s10 _
    bel := ((h4.mono hB).trans (he.mono (Nat.le_trans hB h4.size))).setCell (p := ⟨w.heap.size + 1 + 1, 0, none⟩) (by show B ≤ w.heap.size + 1 + 1; omega) _
    cell := blk_setCell hpe.s10 _
    row := hpe.row.setO hpe.s10 _
    adr := hadr }
theorem adr_at {ad : Addr} {a : Nat} : ∀ g, some ad = some (⟨g, 0, none⟩ : Addr) → some (ad.add (a * 10)) = some (⟨g, a * 10, none⟩ : Addr) := fun g h => by
  obtain rfl := Option.some.inj h
  rw [Addr.add_lit, Nat.zero_add]

/-- A block of the heap, under a name. -/
def heap_of (w : World) (k : Nat) : Option Obj := w.heap[k]?

set_option maxRecDepth 100000 in
set_option maxHeartbeats 4000000 in
theorem pieces_any (B W X nN : Nat) (nf : Nat → Value) (tl : List Tok) (rl : List Rw) (i h : Nat) (sf sl : Int) (hasR : Bool) (rb : Nat) (rf rl' : Int) (l : List UInt8) (w : World) (H : PieceHyp B W X nN nf tl rl i h hasR rb rf rl' l w)
    (hh : (h = 0 ∧ ∀ j, j + 1 < rl.length → winB (rl.getD (j + 1) r0).f (rl.getD (j + 1) r0).l (rl.getD j r0).f (rl.getD j r0).l = true) ∨ (h = 2 ∧ ∀ j, j + 1 < rl.length → winB (rl.getD j r0).f (rl.getD j r0).l (rl.getD (j + 1) r0).f (rl.getD (j + 1) r0).l = true)) :
    Calls Try.prog 26 #[.pointer (some ⟨W, 0, none⟩), .int .i64 i, .int .i64 h, .agg #[.int .i64 sf, .int .i64 sl], .pointer (if hasR then some ⟨rb, 0, none⟩ else none)] w fun e w' =>
      e = .returned (.tuple #[]) ∧ TWs B W X tl.length (tl.flatMap tokV) rl.length (rl.flatMap (rwV i h)) nN nf (l ++ lawT tl sf sl hasR rf rl' rl) w' ∧ Below B w w' := by
  generalize hqa : (if hasR then some (⟨rb, 0, none⟩ : Addr) else none) = qa
  have HQA : Hid ((if hasR then some (⟨rb, 0, none⟩ : Addr) else none) = qa) := hqa
  have HH : Hid (PieceHyp B W X nN nf tl rl i h hasR rb rf rl' l w) := H
  have HN := hide hh
  have hnr := H.nr
  have hi := H.hi
  have hh2 : h ≤ 2 := by rcases hh with h | h <;> omega
  clear hqa H hh
  obtain ⟨tv, rv, p, bv, hT⟩ := HH.out.tw
  have hb2 : Below w.heap.size w ((w.alloc (.cells #[.int .i64 sf, .int .i64 sl] 90)).alloc (.cells #[.pointer qa] 93)) := ((Below.refl _ _).alloc (Nat.le_refl _) _).alloc (by simp) _
  have hT2 := hT.below hb2
  obtain ⟨ao, cap, rfl, hrc, hcm, hnil, hrow⟩ := rwAt_of hT.rws
  have hat := at_any W X rl.length nN ao cap i h _ HH.out.hi hh2 HH.out.hk hrc hnil (by unfold maxLen at hcm; omega) (cellAt hT2.blk rfl) (cellAt hT2.blk rfl) (by rw [hT2.nx.cell (by have := HH.out.hk; omega), HH.out.x0]) (by rw [hT2.nx.cell HH.out.hk, HH.out.x1])
  have HROW : Hid (RwAt w ao i h rl) := hrow
  have HNIL : Hid (ao = none → rl.length = 0 ∧ cap = 0) := hnil
  have HTWS : Hid (TWs B W X tl.length (tl.flatMap tokV) rl.length (rl.flatMap (rwV i h)) nN nf l w) := HH.out.tw
  have hBw := HH.out.hB
  unfold maxLen at hcm
  clear hT hT2 hrow hnil hb2
  go_enter Try.func26, Try.ntmps26
  go_wp2_with fail
  refine hat.mono ?_
  rintro e w3 ⟨rfl, m, rfl⟩
  clear hat
  obtain ⟨hpw, hbel4, hsz4⟩ := pw_start (sf := sf) (sl := sl) (rf := rf) (rl' := rl') (cap := cap) m HQA.out HH.out.rep HROW.out
  go_upto_if 24 with fail
  generalize (((w.alloc (.cells #[.int .i64 sf, .int .i64 sl] 90)).alloc (.cells #[.pointer qa] 93)).drewN m).alloc (.cells #[.slice ao rl.length cap] 35) = w4 at hpw hbel4 hsz4 ⊢
  have HPW : Hid (PW w.heap.size (w.heap.size + 1) (w.heap.size + 1 + 1) sf sl hasR rb rf rl' ao cap i h rl w4) := hpw
  have HB4 : Hid (Below w.heap.size w w4) := hbel4
  have HTW4 : Hid (TWs B W X tl.length (tl.flatMap tokV) rl.length (rl.flatMap (rwV i h)) nN nf l w4) := HTWS.out.below hbel4
  clear hpw hbel4
  go_cut [] (fun wx => ∃ a b ar cr, Found B W X nN nf tl rl i h sf sl hasR rf rl' l (w.heap.size + 1 + 1) ao a b ar cr w wx)
  case first =>
    have c10 := cellAt (o := 0) HPW.out.s10 rfl
    simp only [List.getElem_toArray, List.getElem_cons_zero] at c10
    rcases unhide HN with ⟨rfl, hn⟩ | ⟨rfl, hn⟩
    · go_upto_block 0 with fail
      go_cut [12] (fun v wx => ∃ k : Nat, v = .int .i64 k ∧ k ≤ rl.length ∧ InsFrom hasR rf rl' rl k ∧ (k = 0 ∨ insB hasR rf rl' (rl.getD (k - 1) r0) = false) ∧ Below w4.heap.size w4 wx)
      case first =>
        go_wp2_with fail
        go_loopw [12] (fun v wr => ∃ k : Nat, v = .int .i64 k ∧ k ≤ rl.length ∧ InsFrom hasR rf rl' rl k ∧ Below w4.heap.size w4 wr) (fun v _ => (intOf v).toNat)
        case atStart => exact ⟨rl.length, rfl, Nat.le_refl _, fun j h1 h2 => by omega, Below.refl _ _⟩
        case round =>
          obtain ⟨k, rfl, hk, hins, hbr⟩ := hrel
          have HI : Hid (InsFrom hasR rf rl' rl k) := hins
          have HBR : Hid (Below w4.heap.size w4 wr) := hbr
          clear hins
          by_cases hpos : 0 < k
          · obtain ⟨k, rfl⟩ : ∃ k', k = k' + 1 := ⟨k - 1, by omega⟩
            have hcon := inside_any (HPW.out.below hbr) k (by omega)
            clear hbr
            cases hib : insB hasR rf rl' (rl.getD k r0) with
            | true =>
              rw [hib] at hcon
              have HI2 : Hid (InsFrom hasR rf rl' rl k) := HI.out.pred hib
              clear hib
              go_wp2_with (go_at_call 31; refine hcon.mono ?_; rintro e w5 ⟨rfl, hb5⟩)
              go_roundw
              case rel => exact ⟨k, by go_num, by omega, HI2.out, HBR.out.trans (hb5.mono HBR.out.size)⟩
              case measure => simp [intOf]
            | false =>
              rw [hib] at hcon
              have HIB : Hid (insB hasR rf rl' (rl.getD k r0) = false) := hib
              clear hib
              go_wp2_with (go_at_call 31; refine hcon.mono ?_; rintro e w5 ⟨rfl, hb5⟩)
              go_meet
              exact ⟨k + 1, by go_num, by omega, HI.out, .inr HIB.out, HBR.out.trans (hb5.mono HBR.out.size)⟩
          · obtain rfl : k = 0 := by omega
            clear hbr
            go_wp2
            go_meet
            exact ⟨0, rfl, by omega, HI.out, .inl rfl, HBR.out⟩
      case rest =>
      obtain ⟨b, rfl, hb, hins, hb0, hbr⟩ := hcut
      obtain ⟨wd, rfl⟩ : ∃ wd : World, wd = wc := ⟨_, rfl⟩
      have HINS : Hid (InsFrom hasR rf rl' rl b ∧ (b = 0 ∨ insB hasR rf rl' (rl.getD (b - 1) r0) = false)) := ⟨hins, hb0⟩
      have HBD : Hid (Below w4.heap.size w4 wd) := hbr
      have hszd := hbr.size
      clear hins hb0 hbr
      go_upto_block 2 with fail
      go_cut [13] (fun v wx => ∃ a : Nat, v = .int .i64 a ∧ a ≤ b ∧ WinTo sf sl rl a b ∧ (a = 0 ∨ winB (rl.getD (a - 1) r0).f (rl.getD (a - 1) r0).l sf sl = false) ∧ Below w4.heap.size w4 wx)
      case first =>
        go_wp2_with fail
        go_loopw [13] (fun v wr => ∃ k : Nat, v = .int .i64 k ∧ k ≤ b ∧ WinTo sf sl rl k b ∧ Below w4.heap.size w4 wr) (fun v _ => (intOf v).toNat)
        case atStart => exact ⟨b, rfl, Nat.le_refl _, fun j h1 h2 => by omega, HBD.out⟩
        case round =>
          obtain ⟨k, rfl, hk, hwin, hbr⟩ := hrel
          have HWI : Hid (WinTo sf sl rl k b) := hwin
          have HBR : Hid (Below w4.heap.size w4 wr) := hbr
          have hszr := hbr.size
          have hpr := HPW.out.below hbr
          have d10 := cellAt (o := 0) hpr.s10 rfl
          have d8 := cellAt (o := 0) hpr.s8 rfl
          have d81 := cellAt (o := 1) hpr.s8 rfl
          simp only [List.getElem_toArray, List.getElem_cons_zero, List.getElem_cons_succ] at d10 d8 d81
          clear hwin
          by_cases hpos : 0 < k
          · obtain ⟨k, rfl⟩ : ∃ k', k = k' + 1 := ⟨k - 1, by omega⟩
            rcases hpr.row with hr | ⟨g, rfl, cur, hh, hc⟩
            · subst hr; simp at hb; omega
            have e7 : wr.cell? ⟨g, k * 10 + 7, none⟩ = some (.int .i64 (rl.getD k r0).f) := cellAt hh (hc k (by omega) 7 (by omega))
            have e8 : wr.cell? ⟨g, k * 10 + 7 + 1, none⟩ = some (.int .i64 (rl.getD k r0).l) := cellAt hh (hc k (by omega) 8 (by omega))
            have hkn : (k : Int) < (rl.length : Int) := by omega
            have hw1 : IntKind.i64.wrap ((k : Int) + 1 - 1) = (k : Int) := by rw [IntKind.wrap_i64]; omega
            have hw2 : IntKind.i64.wrap (k : Int) = (k : Int) := by rw [IntKind.wrap_i64]; omega
            have hcon := fun W => spanWithin_any (rl.getD k r0).f (rl.getD k r0).l sf sl W
            have hpred : Hid (winB (rl.getD k r0).f (rl.getD k r0).l sf sl = true → WinTo sf sl rl k b) := HWI.out.pred
            have hstop : Hid (winB (rl.getD k r0).f (rl.getD k r0).l sf sl = false → (k + 1 = 0 ∨ winB (rl.getD (k + 1 - 1) r0).f (rl.getD (k + 1 - 1) r0).l sf sl = false)) := fun h => .inr h
            clear hh hc hpr hbr
            generalize rl.getD k r0 = r at e7 e8 hcon hpred hstop
            obtain ⟨rt, rf2, rl2, rm⟩ := r
            simp only at e7 e8 hcon hpred hstop
            cases hwb : winB rf2 rl2 sf sl with
            | true =>
              rw [hwb] at hcon
              have HI2 : Hid (WinTo sf sl rl k b) := hpred.out hwb
              clear hpred hstop hwb
              go_wp2
              go_region_with (go_at_call 32; refine (hcon _).mono ?_; rintro e w5 ⟨rfl, rfl⟩)
              all_goals go_wp2
              all_goals (refine ⟨⟨k, rfl, by omega, HI2.out, ((HBR.out.alloc hszr _).alloc (by simp; omega) _).drew⟩, by simp [intOf]⟩)
            | false =>
              rw [hwb] at hcon
              have HI2 : Hid (k + 1 = 0 ∨ winB (rl.getD (k + 1 - 1) r0).f (rl.getD (k + 1 - 1) r0).l sf sl = false) := hstop.out hwb
              clear hpred hstop hwb
              go_wp2
              go_region_with (go_at_call 32; refine (hcon _).mono ?_; rintro e w5 ⟨rfl, rfl⟩)
              all_goals go_wp2
              all_goals go_meet
              all_goals exact ⟨k + 1, by go_num, by omega, HWI.out, HI2.out, ((HBR.out.alloc hszr _).alloc (by simp; omega) _).drew⟩
          · obtain rfl : k = 0 := by omega
            clear hpr hbr
            go_wp2
            go_quiet (fail)
            go_wp2
            go_meet
            exact ⟨0, rfl, by omega, HWI.out, .inl rfl, below_drewN2 HBR.out _⟩
      case rest =>
      obtain ⟨a, rfl, hab, hwin, ha0, hbr⟩ := hcut
      obtain ⟨we, rfl⟩ : ∃ we : World, we = wc := ⟨_, rfl⟩
      have hrun : Hid (lawT tl sf sl hasR rf rl' rl = outT tl ((rl.drop a).take (b - a))) := before_run hn a b hab hb HINS.out.1 HINS.out.2 hwin ha0
      have hpe := HPW.out.below hbr
      have d10 := cellAt (o := 0) hpe.s10 rfl
      have f10 := freeAt hpe.s10 0
      simp only [List.getElem_toArray, List.getElem_cons_zero] at d10
      have HPE : Hid (PW w.heap.size (w.heap.size + 1) (w.heap.size + 1 + 1) sf sl hasR rb rf rl' ao cap i (0 : Nat) rl we) := hpe
      have HBE : Hid (Below w4.heap.size w4 we) := hbr
      clear hpe hbr hwin ha0 HINS hn
      have i1 : (a : Int) ≤ (b : Int) := by omega
      have i2 : (b : Int) ≤ (cap : Int) := by omega
      cases ao with
      | none =>
        obtain ⟨hn0, hc0⟩ := HNIL.out rfl
        obtain rfl : b = 0 := by omega
        obtain rfl : a = 0 := by omega
        subst hc0
        go_wp2
        go_meet
        exact ⟨0, 0, none, 0, found_mk HPE.out HTW4.out HB4.out HBE.out hBw hrun.out (by omega) (by omega) rfl (fun h => by omega)⟩
      | some ad =>
        by_cases hca : cap = a
        · go_wp2
          go_meet
          exact ⟨a, b, _, _, found_mk HPE.out HTW4.out HB4.out HBE.out hBw hrun.out hab hb (by omega) (fun h => by omega)⟩
        · go_wp2
          go_meet
          exact ⟨a, b, _, _, found_mk HPE.out HTW4.out HB4.out HBE.out hBw hrun.out hab hb rfl (fun _ => adr_at)⟩
    · go_upto_block 4 with fail
      go_cut [14] (fun v wx => ∃ k : Nat, v = .int .i64 k ∧ k ≤ rl.length ∧ InsTo hasR rf rl' rl k ∧ (k = rl.length ∨ insB hasR rf rl' (rl.getD k r0) = false) ∧ Below w4.heap.size w4 wx)
      case first =>
        go_wp2_with fail
        go_loopw [14] (fun v wr => ∃ k : Nat, v = .int .i64 k ∧ k ≤ rl.length ∧ InsTo hasR rf rl' rl k ∧ Below w4.heap.size w4 wr) (fun v _ => rl.length - (intOf v).toNat)
        case atStart => exact ⟨0, rfl, Nat.zero_le _, fun j h1 => by omega, Below.refl _ _⟩
        case round =>
          obtain ⟨k, rfl, hk, hins, hbr⟩ := hrel
          have HI : Hid (InsTo hasR rf rl' rl k) := hins
          have HBR : Hid (Below w4.heap.size w4 wr) := hbr
          have d10 := cellAt (o := 0) (HPW.out.below hbr).s10 rfl
          simp only [List.getElem_toArray, List.getElem_cons_zero] at d10
          clear hins
          by_cases hlt : k < rl.length
          · have hcon := inside_any (HPW.out.below hbr) k hlt
            clear hbr
            cases hib : insB hasR rf rl' (rl.getD k r0) with
            | true =>
              rw [hib] at hcon
              have HI2 : Hid (InsTo hasR rf rl' rl (k + 1)) := HI.out.succ hib
              clear hib
              go_wp2_with (go_at_call 31; refine hcon.mono ?_; rintro e w5 ⟨rfl, hb5⟩)
              go_roundw
              case rel => exact ⟨k + 1, by go_num, by omega, HI2.out, HBR.out.trans (hb5.mono HBR.out.size)⟩
              case measure => simp [intOf]; omega
            | false =>
              rw [hib] at hcon
              have HIB : Hid (insB hasR rf rl' (rl.getD k r0) = false) := hib
              clear hib
              go_wp2_with (go_at_call 31; refine hcon.mono ?_; rintro e w5 ⟨rfl, hb5⟩)
              go_meet
              exact ⟨k, rfl, by omega, HI.out, .inr HIB.out, HBR.out.trans (hb5.mono HBR.out.size)⟩
          · clear hbr
            go_wp2
            go_meet
            exact ⟨k, rfl, by omega, HI.out, .inl (by omega), HBR.out⟩
      case rest =>
      obtain ⟨a, rfl, ha, hins, hb0, hbr⟩ := hcut
      obtain ⟨wd, rfl⟩ : ∃ wd : World, wd = wc := ⟨_, rfl⟩
      have HINS : Hid (InsTo hasR rf rl' rl a ∧ (a = rl.length ∨ insB hasR rf rl' (rl.getD a r0) = false)) := ⟨hins, hb0⟩
      have HBD : Hid (Below w4.heap.size w4 wd) := hbr
      have hszd := hbr.size
      clear hins hb0 hbr
      go_upto_block 6 with fail
      go_cut [15] (fun v wx => ∃ b : Nat, v = .int .i64 b ∧ a ≤ b ∧ b ≤ rl.length ∧ WinTo sf sl rl a b ∧ (b = rl.length ∨ winB (rl.getD b r0).f (rl.getD b r0).l sf sl = false) ∧ Below w4.heap.size w4 wx)
      case first =>
        go_wp2_with fail
        go_loopw [15] (fun v wr => ∃ k : Nat, v = .int .i64 k ∧ a ≤ k ∧ k ≤ rl.length ∧ WinTo sf sl rl a k ∧ Below w4.heap.size w4 wr) (fun v _ => rl.length - (intOf v).toNat)
        case atStart => exact ⟨a, rfl, Nat.le_refl _, ha, fun j h1 h2 => by omega, HBD.out⟩
        case round =>
          obtain ⟨k, rfl, hak, hk, hwin, hbr⟩ := hrel
          have HWI : Hid (WinTo sf sl rl a k) := hwin
          have HBR : Hid (Below w4.heap.size w4 wr) := hbr
          have hszr := hbr.size
          have hpr := HPW.out.below hbr
          have d10 := cellAt (o := 0) hpr.s10 rfl
          have d8 := cellAt (o := 0) hpr.s8 rfl
          have d81 := cellAt (o := 1) hpr.s8 rfl
          simp only [List.getElem_toArray, List.getElem_cons_zero, List.getElem_cons_succ] at d10 d8 d81
          clear hwin
          by_cases hlt : k < rl.length
          · rcases hpr.row with hr | ⟨g, rfl, cur, hh, hc⟩
            · subst hr; simp at hlt
            have e7 : wr.cell? ⟨g, k * 10 + 7, none⟩ = some (.int .i64 (rl.getD k r0).f) := cellAt hh (hc k (by omega) 7 (by omega))
            have e8 : wr.cell? ⟨g, k * 10 + 7 + 1, none⟩ = some (.int .i64 (rl.getD k r0).l) := cellAt hh (hc k (by omega) 8 (by omega))
            have hkn : (k : Int) < (rl.length : Int) := by omega
            have hcon := fun W => spanWithin_any (rl.getD k r0).f (rl.getD k r0).l sf sl W
            have hpred : Hid (winB (rl.getD k r0).f (rl.getD k r0).l sf sl = true → WinTo sf sl rl a (k + 1)) := HWI.out.succ
            have hstop : Hid (winB (rl.getD k r0).f (rl.getD k r0).l sf sl = false → (k = rl.length ∨ winB (rl.getD (k + 1 - 1) r0).f (rl.getD (k + 1 - 1) r0).l sf sl = false)) := fun h => .inr h
            clear hh hc hpr hbr
            generalize rl.getD k r0 = r at e7 e8 hcon hpred hstop
            obtain ⟨rt, rf2, rl2, rm⟩ := r
            simp only at e7 e8 hcon hpred hstop
            cases hwb : winB rf2 rl2 sf sl with
            | true =>
              rw [hwb] at hcon
              have HI2 : Hid (WinTo sf sl rl a (k + 1)) := hpred.out hwb
              clear hpred hstop hwb
              go_wp2
              go_region_with (go_at_call 32; refine (hcon _).mono ?_; rintro e w5 ⟨rfl, rfl⟩)
              all_goals go_wp2
              all_goals (refine ⟨⟨k + 1, by go_num, by omega, by omega, HI2.out, ((HBR.out.alloc hszr _).alloc (by simp; omega) _).drew⟩, by simp [intOf]; omega⟩)
            | false =>
              rw [hwb] at hcon
              have HI2 : Hid (k = rl.length ∨ winB (rl.getD (k + 1 - 1) r0).f (rl.getD (k + 1 - 1) r0).l sf sl = false) := hstop.out hwb
              clear hpred hstop hwb
              go_wp2
              go_region_with (go_at_call 32; refine (hcon _).mono ?_; rintro e w5 ⟨rfl, rfl⟩)
              all_goals go_wp2
              all_goals go_meet
              all_goals exact ⟨k, rfl, by omega, by omega, HWI.out, HI2.out, ((HBR.out.alloc hszr _).alloc (by simp; omega) _).drew⟩
          · have hkf : decide ((k : Int) < (rl.length : Int)) = false := by simp; omega
            clear hpr hbr
            go_wp2
            go_quiet (fail)
            go_wp2
            go_meet
            exact ⟨k, rfl, by omega, by omega, HWI.out, .inl (by omega), below_drewN2 HBR.out _⟩
      case rest =>
      obtain ⟨b, rfl, hab, hb, hwin, ha0, hbr⟩ := hcut
      obtain ⟨we, rfl⟩ : ∃ we : World, we = wc := ⟨_, rfl⟩
      have hrun : Hid (lawT tl sf sl hasR rf rl' rl = outT tl ((rl.drop a).take (b - a))) := after_run hn a b hab hb HINS.out.1 HINS.out.2 hwin ha0
      have hpe := HPW.out.below hbr
      have d10 := cellAt (o := 0) hpe.s10 rfl
      have f10 := freeAt hpe.s10 0
      simp only [List.getElem_toArray, List.getElem_cons_zero] at d10
      have HPE : Hid (PW w.heap.size (w.heap.size + 1) (w.heap.size + 1 + 1) sf sl hasR rb rf rl' ao cap i (2 : Nat) rl we) := hpe
      have HBE : Hid (Below w4.heap.size w4 we) := hbr
      clear hpe hbr hwin ha0 HINS hn
      have i1 : (a : Int) ≤ (b : Int) := by omega
      have i2 : (b : Int) ≤ (cap : Int) := by omega
      cases ao with
      | none =>
        obtain ⟨hn0, hc0⟩ := HNIL.out rfl
        obtain rfl : b = 0 := by omega
        obtain rfl : a = 0 := by omega
        subst hc0
        go_wp2
        go_meet
        exact ⟨0, 0, none, 0, found_mk HPE.out HTW4.out HB4.out HBE.out hBw hrun.out (by omega) (by omega) rfl (fun h => by omega)⟩
      | some ad =>
        by_cases hca : cap = a
        · go_wp2
          go_meet
          exact ⟨a, b, _, _, found_mk HPE.out HTW4.out HB4.out HBE.out hBw hrun.out hab hb (by omega) (fun h => by omega)⟩
        · go_wp2
          go_meet
          exact ⟨a, b, _, _, found_mk HPE.out HTW4.out HB4.out HBE.out hBw hrun.out hab hb rfl (fun _ => adr_at)⟩
  case rest =>
  obtain ⟨a, b, ar, cr, hF⟩ := hcut
  obtain ⟨wx, rfl⟩ : ∃ wx : World, wx = wc := ⟨_, rfl⟩
  have d10 := cellAt (o := 0) hF.cell rfl
  simp only [List.getElem_toArray, List.getElem_cons_zero] at d10
  have HF : Hid (Found B W X nN nf tl rl i h sf sl hasR rf rl' l (w.heap.size + 1 + 1) ao a b ar cr w wx) := hF
  have hab := hF.hab
  have hbn := hF.hbn
  have hnt := HH.out.nt
  have hll := HH.out.hl
  clear hF HPW HB4 HTW4 HTWS HROW HQA HN
  go_wp2_with fail
  go_loopw [89] (fun v wr => ∃ k : Nat, v = .int .i64 k ∧ k ≤ b - a ∧ TWs B W X tl.length (tl.flatMap tokV) rl.length (rl.flatMap (rwV i h)) nN nf (l ++ outT tl ((rl.drop a).take k)) wr ∧ Below B w wr ∧ RwAt wr ao i h rl) (fun v _ => b - a - (intOf v).toNat)
  case atStart => exact ⟨0, rfl, Nat.zero_le _, by simpa [outT] using HF.out.tw, HF.out.bel, HF.out.row⟩
  case round =>
    obtain ⟨k, rfl, hk, htw, hbel, hrow⟩ := hrel
    have HT : Hid (TWs B W X tl.length (tl.flatMap tokV) rl.length (rl.flatMap (rwV i h)) nN nf (l ++ outT tl ((rl.drop a).take k)) wr) := htw
    have HBL : Hid (Below B w wr) := hbel
    have HRW : Hid (RwAt wr ao i h rl) := hrow
    have hszr := hbel.size
    by_cases hlt : k < b - a
    · rcases hrow with hr | ⟨g, rfl, cur, hh, hc⟩
      · subst hr; simp at hbn; omega
      have har := HF.out.adr (by omega) g rfl
      subst har
      have ef : ∀ c, c < 10 → cur[a * 10 + k * 10 + c]? = (rwV i h (rl.getD (a + k) r0))[c]? := fun c hc10 => by
        have := hc (a + k) (by omega) c hc10
        rw [Nat.add_mul] at this; exact this
      have e0 : wr.cell? ⟨g, a * 10 + k * 10, none⟩ = some (.int .i64 i) := cellAt hh (ef 0 (by omega))
      have e1 : wr.cell? ⟨g, a * 10 + k * 10 + 1, none⟩ = some (.int .i64 h) := cellAt hh (ef 1 (by omega))
      have e2 : wr.cell? ⟨g, a * 10 + k * 10 + 2, none⟩ = some (.int .i64 i) := cellAt hh (ef 2 (by omega))
      have e3 : wr.cell? ⟨g, a * 10 + k * 10 + 3, none⟩ = some (.string (rl.getD (a + k) r0).text) := cellAt hh (ef 3 (by omega))
      have e4 : wr.cell? ⟨g, a * 10 + k * 10 + 4, none⟩ = some (.int .i64 0) := cellAt hh (ef 4 (by omega))
      have e5 : wr.cell? ⟨g, a * 10 + k * 10 + 5, none⟩ = some (.int .i64 0) := cellAt hh (ef 5 (by omega))
      have e6 : wr.cell? ⟨g, a * 10 + k * 10 + 6, none⟩ = some (.bool false) := cellAt hh (ef 6 (by omega))
      have e7 : wr.cell? ⟨g, a * 10 + k * 10 + 7, none⟩ = some (.int .i64 (rl.getD (a + k) r0).f) := cellAt hh (ef 7 (by omega))
      have e8 : wr.cell? ⟨g, a * 10 + k * 10 + 8, none⟩ = some (.int .i64 (rl.getD (a + k) r0).l) := cellAt hh (ef 8 (by omega))
      have e9 : wr.cell? ⟨g, a * 10 + k * 10 + 9, none⟩ = some (.bool (rl.getD (a + k) r0).minus) := cellAt hh (ef 9 (by omega))
      have htx := HH.out.texts (a + k) (by omega)
      have hmin := HH.out.minus (a + k) (by omega)
      have hol := outT_len (tl := tl) HH.out.texts a k (by omega)
      have hsn : Hid (outT tl ((rl.drop a).take (k + 1)) = outT tl ((rl.drop a).take k) ++ (if skB tl (rl.getD (a + k) r0) then [] else (rl.getD (a + k) r0).text.data.toList)) := outT_snoc tl rl a k (by omega)
      have hiff := hide (skB_iff tl (rl.getD (a + k) r0))
      clear hh hc ef htw hbel
      generalize rl.getD (a + k) r0 = r at e3 e7 e8 e9 htx hmin hsn hiff
      have hb5 : Below wr.heap.size wr (wr.alloc (.cells #[.int .i64 i, .int .i64 h, .int .i64 i, .string r.text, .int .i64 0, .int .i64 0, .bool false, .int .i64 r.f, .int .i64 r.l, .bool r.minus] 92)) := (Below.refl _ _).alloc (Nat.le_refl _) _
      have hcon := skips_any B W X nN tl rl.length _ nf _ i h r _ (HT.out.below hb5) hnt hmin
      have hblk := heap_alloc_new wr (.cells #[.int .i64 i, .int .i64 h, .int .i64 i, .string r.text, .int .i64 0, .int .i64 0, .bool false, .int .i64 r.f, .int .i64 r.l, .bool r.minus] 92)
      have HTB : Hid (TWs B W X tl.length (tl.flatMap tokV) rl.length (rl.flatMap (rwV i h)) nN nf (l ++ outT tl ((rl.drop a).take k)) (wr.alloc (.cells #[.int .i64 i, .int .i64 h, .int .i64 i, .string r.text, .int .i64 0, .int .i64 0, .bool false, .int .i64 r.f, .int .i64 r.l, .bool r.minus] 92))) := HT.out.below hb5
      have HRB : Hid (RwAt (wr.alloc (.cells #[.int .i64 i, .int .i64 h, .int .i64 i, .string r.text, .int .i64 0, .int .i64 0, .bool false, .int .i64 r.f, .int .i64 r.l, .bool r.minus] 92)) (some ⟨g, 0, none⟩) i h rl) := HRW.out.keep (KeepO.below hb5)
      have HBB : Hid (Below B w (wr.alloc (.cells #[.int .i64 i, .int .i64 h, .int .i64 i, .string r.text, .int .i64 0, .int .i64 0, .bool false, .int .i64 r.f, .int .i64 r.l, .bool r.minus] 92))) := HBL.out.alloc (by omega) _
      have HBK : Hid (heap_of (wr.alloc (.cells #[.int .i64 i, .int .i64 h, .int .i64 i, .string r.text, .int .i64 0, .int .i64 0, .bool false, .int .i64 r.f, .int .i64 r.l, .bool r.minus] 92)) wr.heap.size = some (.cells #[.int .i64 i, .int .i64 h, .int .i64 i, .string r.text, .int .i64 0, .int .i64 0, .bool false, .int .i64 r.f, .int .i64 r.l, .bool r.minus] 92 (0, 0))) := hblk
      clear hb5 hblk
      obtain ⟨rt, rf2, rl2, rm⟩ := r
      simp only at e3 e7 e8 e9 htx hcon HTB HRB HBB HBK
      go_wp2_with fail
      refine hcon.mono ?_
      rintro e w6 ⟨⟨bb, rfl, hbb⟩, hb6⟩
      have HT6 : Hid (TWs B W X tl.length (tl.flatMap tokV) rl.length (rl.flatMap (rwV i h)) nN nf (l ++ outT tl ((rl.drop a).take k)) w6) := HTB.out.below hb6
      have HR6 : Hid (RwAt w6 (some ⟨g, 0, none⟩) i h rl) := HRB.out.keep (KeepO.below hb6)
      have HB6 : Hid (Below B w w6) := HBB.out.trans (hb6.mono (by simp; omega))
      have HK6 : Hid (heap_of w6 wr.heap.size = some (.cells #[.int .i64 i, .int .i64 h, .int .i64 i, .string rt, .int .i64 0, .int .i64 0, .bool false, .int .i64 rf2, .int .i64 rl2, .bool rm] 92 (0, 0))) := (hb6.block wr.heap.size (by simp)).trans HBK.out
      have hsz6 : wr.heap.size < w6.heap.size := by have := hb6.size; simp at this; omega
      have f3 : w6.cell? ⟨wr.heap.size, 3, none⟩ = some (.string rt) := cellAt HK6.out rfl
      have f6 : w6.cell? ⟨wr.heap.size, 6, none⟩ = some (.bool false) := cellAt HK6.out rfl
      clear hb6 hcon HTB HRB HBB HBK e0 e1 e2 e3 e4 e5 e6 e7 e8 e9
      cases bb with
      | true =>
        have hsk : skB tl ⟨rt, rf2, rl2, rm⟩ = true := (unhide hiff).2 (hbb.1 rfl)
        have HS : Hid (outT tl ((rl.drop a).take (k + 1)) = outT tl ((rl.drop a).take k)) := by unfold Hid; rw [hsn.out, hsk]; simp
        clear hbb hsk hsn hiff
        go_wp2
        go_roundw
        case rel => exact ⟨k + 1, by go_num, by omega, by rw [HS.out]; exact HT6.out, HB6.out, HR6.out⟩
        case measure => simp [intOf]; omega
      | false =>
        have hsk : skB tl ⟨rt, rf2, rl2, rm⟩ = false := by
          cases hc : skB tl ⟨rt, rf2, rl2, rm⟩ with
          | false => rfl
          | true => exact absurd (hbb.2 ((unhide hiff).1 hc)) (by simp)
        have HS : Hid (outT tl ((rl.drop a).take (k + 1)) = outT tl ((rl.drop a).take k) ++ rt.data.toList) := by unfold Hid; rw [hsn.out, hsk]; simp
        have hws := writeString_any B W X tl.length (tl.flatMap tokV) rl.length (rl.flatMap (rwV i h)) nN nf (l ++ outT tl ((rl.drop a).take k)) rt w6.drew (HT6.out.below (Below.refl _ _).drew) (by simp only [List.length_append]; omega) (by show B ≤ w6.heap.size; omega)
        clear hbb hsk hsn hiff
        go_wp2
        go_region_with (go_at_call 25; refine hws.mono ?_; rintro e w7 ⟨rfl, htw7, hb7, hk7⟩; have HT7 := hide htw7; have HB7 := hide hb7; have HK7 := hide hk7; have f67 : w7.cell? ⟨wr.heap.size, 6, none⟩ = some (.bool false) := cellAt (hk7 _ _ _ HK6.out (by decide) (by decide)) rfl; clear htw7 hb7 hk7)
        all_goals go_wp2
        all_goals (refine ⟨⟨k + 1, by go_num, by omega, by rw [HS.out, ← List.append_assoc]; exact unhide HT7, HB6.out.drew.trans (unhide HB7), (show RwAt w6.drew _ _ _ _ from HR6.out).keep (unhide HK7)⟩, by simp [intOf]; omega⟩)
    · have hke : k = b - a := by omega
      subst hke
      have HR : Hid (lawT tl sf sl hasR rf rl' rl = outT tl ((rl.drop a).take (b - a))) := HF.out.run
      clear htw hbel hrow
      go_wp2
      go_end0
      exact ⟨rfl, by rw [HR.out]; exact HT.out, HBL.out⟩

end Go.Proofs.Qxb6618532a
