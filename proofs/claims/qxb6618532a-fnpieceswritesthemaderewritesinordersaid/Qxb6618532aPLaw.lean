/-
  Seat b6618532a: ZZpieces, and the walk of FnPiecesWritesTheMadeRewritesInOrder.
-/
import Derived.Test.Qxb6618532aPWalk
import Derived.Test.Qxb6618532aPZSkips
import Derived.Deep.RegionHeld3
namespace Go.Proofs.Qxb6618532a
open Go.RowKit

set_option maxRecDepth 100000 in
set_option maxHeartbeats 2000000 in
theorem zpieces_any (B W X nN : Nat) (nf : Nat → Value) (tl : List Tok) (rl : List Rw) (i h : Nat) (sf sl : Int) (hasR : Bool) (rf rl' : Int) (l : List UInt8) (w : World) (H : PieceHyp B W X nN nf tl rl i h false 0 rf rl' l w)
    (hh : (h = 0 ∧ ∀ j, j + 1 < rl.length → winB (rl.getD (j + 1) r0).f (rl.getD (j + 1) r0).l (rl.getD j r0).f (rl.getD j r0).l = true) ∨ (h = 2 ∧ ∀ j, j + 1 < rl.length → winB (rl.getD j r0).f (rl.getD j r0).l (rl.getD (j + 1) r0).f (rl.getD (j + 1) r0).l = true)) :
    Calls Try.prog 16 #[.pointer (some ⟨W, 0, none⟩), .int .i64 i, .int .i64 h, .int .i64 sf, .int .i64 sl, .bool hasR, .int .i64 rf, .int .i64 rl'] w fun e w' =>
      e = .returned (.tuple #[]) ∧ TWs B W X tl.length (tl.flatMap tokV) rl.length (rl.flatMap (rwV i h)) nN nf (l ++ lawT tl sf sl hasR rf rl' rl) w' ∧ Below B w w' := by
  cases hasR with
  | false =>
    have hcon := hide (pieces_any B W X nN nf tl rl i h sf sl false 0 rf rl' l w H hh)
    simp only [Bool.false_eq_true, if_false] at hcon
    clear H hh
    go_enter Try.func16, Try.ntmps16
    go_wp2_with (go_at_call 26; refine (unhide hcon).mono ?_; rintro e w2 ⟨rfl, h2⟩; have H2 := hide h2; clear h2)
    go_end0
    exact ⟨rfl, (unhide H2).1, (unhide H2).2⟩
  | true =>
    have hb : Below w.heap.size w (w.alloc (.cells #[.int .i64 rf, .int .i64 rl'] 90)) := (Below.refl _ _).alloc (Nat.le_refl _) _
    have H2 : PieceHyp B W X nN nf tl rl i h true w.heap.size rf rl' l (w.alloc (.cells #[.int .i64 rf, .int .i64 rl'] 90)) :=
      { tw := H.tw.below hb, x0 := H.x0, x1 := H.x1, hk := H.hk, hi := H.hi, nt := H.nt, nr := H.nr, texts := H.texts, minus := H.minus, hl := H.hl, hB := by have := H.hB; simp; omega, rep := fun _ => heap_alloc_new _ _ }
    have hcon := hide (pieces_any B W X nN nf tl rl i h sf sl true w.heap.size rf rl' l _ H2 hh)
    simp only [if_true] at hcon
    have HB : Hid (Below B w (w.alloc (.cells #[.int .i64 rf, .int .i64 rl'] 90))) := hb.mono H.hB
    clear H hh H2 hb
    go_enter Try.func16, Try.ntmps16
    go_wp2_with (go_at_call 26; refine (unhide hcon).mono ?_; rintro e w2 ⟨rfl, h2⟩; have H2 := hide h2; clear h2)
    go_end0
    exact ⟨rfl, (unhide H2).1, HB.out.trans (unhide H2).2⟩

/-- The row 'next': from the key's next on, the number of rewrites. -/
def nfTo (key x m : Nat) (j : Nat) : Value := if key < j ∧ j < x then .int .i64 m else .int .i64 0

theorem nfTo_start (key m j : Nat) : nfTo key (key + 1) m j = .int .i64 0 := by unfold nfTo; rw [if_neg (by omega)]
theorem nfTo_step (key x m j : Nat) (hx : key < x) : (if j = x then (.int .i64 m : Value) else nfTo key x m j) = nfTo key (x + 1) m j := by
  unfold nfTo
  by_cases e : j = x
  · subst e; rw [if_pos rfl, if_pos (by omega)]
  · rw [if_neg e]
    by_cases h : key < j ∧ j < x
    · rw [if_pos h, if_pos (by omega)]
    · rw [if_neg h, if_neg (by omega)]
theorem nfTo_key (key x m : Nat) : nfTo key x m key = .int .i64 0 := by unfold nfTo; rw [if_neg (by omega)]
theorem nfTo_next (key x m : Nat) (h : key + 1 < x) : nfTo key x m (key + 1) = .int .i64 m := by unfold nfTo; rw [if_pos (by omega)]
theorem info3 : (Try.prog.info? 3).map (fun i => (i.zero, i.size, i.bytes)) = some (some (.int .i64 0), 1, 8) := by kernel_rfl
theorem tok_snoc (tl : List Tok) (k : Nat) (h : k < tl.length) : (tl.take (k + 1)).flatMap tokV = (tl.take k).flatMap tokV ++ tokV (tl.getD k t0) := by
  rw [List.take_succ_eq_append_getElem h, List.flatMap_append, show tl.getD k t0 = tl[k] from by simp [List.getD, h]]; simp
theorem rw_snoc (i how : Int) (rl : List Rw) (k : Nat) (h : k < rl.length) : (rl.take (k + 1)).flatMap (rwV i how) = (rl.take k).flatMap (rwV i how) ++ rwV i how (rl.getD k r0) := by
  rw [List.take_succ_eq_append_getElem h, List.flatMap_append, show rl.getD k r0 = rl[k] from by simp [List.getD, h]]; simp
theorem ba_toList (b : ByteArray) : (⟨b.data.toList.toArray⟩ : ByteArray) = b := by simp

/-- What 'want' holds behind k rewrites. -/
def wantS (pre : ByteArray) (tl : List Tok) (sf sl : Int) (hasR : Bool) (rf rl' : Int) (rl : List Rw) (k : Nat) : ByteArray := ⟨(pre.data.toList ++ lawT tl sf sl hasR rf rl' (rl.take k)).toArray⟩
section
variable {pre : ByteArray} {tl : List Tok} {sf sl : Int} {hasR : Bool} {rf rl' : Int} {rl : List Rw} {k : Nat}
theorem wantS_zero : wantS pre tl sf sl hasR rf rl' rl 0 = pre := by unfold wantS; simp [lawT]
theorem wantS_all : wantS pre tl sf sl hasR rf rl' rl rl.length = ⟨(pre.data.toList ++ lawT tl sf sl hasR rf rl' rl).toArray⟩ := by unfold wantS; rw [List.take_length]
theorem wantS_no (h : k < rl.length) (hk : keepB tl sf sl hasR rf rl' (rl.getD k r0) = false) : wantS pre tl sf sl hasR rf rl' rl (k + 1) = wantS pre tl sf sl hasR rf rl' rl k := by
  unfold wantS; rw [lawT_snoc _ _ _ _ _ _ _ _ h, hk]; simp
theorem wantS_yes (h : k < rl.length) (hk : keepB tl sf sl hasR rf rl' (rl.getD k r0) = true) : wantS pre tl sf sl hasR rf rl' rl (k + 1) = wantS pre tl sf sl hasR rf rl' rl k ++ (rl.getD k r0).text := by
  unfold wantS; rw [lawT_snoc _ _ _ _ _ _ _ _ h, hk]
  apply ByteArray.ext
  simp
theorem wantS_size (hp : pre.size ≤ 1048576) (ht : ∀ j, j < rl.length → (rl.getD j r0).text.size ≤ 1048576) (hk : k ≤ rl.length) : (wantS pre tl sf sl hasR rf rl' rl k).size ≤ 1048576 + k * 1048576 := by
  have h1 : (wantS pre tl sf sl hasR rf rl' rl k).size = (pre.data.toList ++ lawT tl sf sl hasR rf rl' (rl.take k)).length := rfl
  have h2 := lawT_len (tl := tl) (sf := sf) (sl := sl) (hasR := hasR) (rf := rf) (rl' := rl') ht k hk
  rw [h1, List.length_append, size_data]
  omega
end
theorem zskips_any (a : Option Addr) (c : Nat) (tl : List Tok) (r : Rw) (w : World) (h0 : TokRow w a tl) (hn : tl.length ≤ 65536) (hmin : r.minus = true → 0 ≤ r.f ∧ r.f ≤ r.l ∧ r.l < tl.length) :
    Calls Try.prog 18 #[.slice a tl.length c, .agg #[.string r.text, .int .i64 r.f, .int .i64 r.l, .bool r.minus]] w fun e w' => IsB (Sk tl r) e ∧ Below w.heap.size w w' := by
  rcases Bool.eq_false_or_eq_true r.minus with hm | hm
  · obtain ⟨h1, h2, h3⟩ := hmin hm
    exact zskips_yes a c tl r w h0 hm r.f.toNat r.l.toNat (by omega) (by omega) (by omega) (by omega) hn
  · exact zskips_no a c tl r w hm

set_option maxRecDepth 100000 in
set_option maxHeartbeats 4000000 in
theorem plaw_walk (a0 : Option Addr) (tl : List Tok) (c0 : Nat) (a1 : Option Addr) (rl : List Rw) (c1 : Nat) (i how sf sl : Int) (hasR : Bool) (rf rl' : Int) (pre : ByteArray) (w : World) (h0 : TokRow w a0 tl) (h1 : RwRow w a1 rl) (hpre : pre.size ≤ maxLen) :
    Calls Try.prog 4 #[.slice a0 tl.length c0, .slice a1 rl.length c1, .int .i64 i, .int .i64 how, .int .i64 sf, .int .i64 sl, .bool hasR, .int .i64 rf, .int .i64 rl', .string pre] w fun e w' => e = .returned (.bool true) ∧ Below w.heap.size w w' := by
  have H0 := hide h0
  have H1 := hide h1
  have HP := hide hpre
  clear h0 h1 hpre
  go_enter Try.func4, Try.ntmps4
  go_wp2_with fail
  refine (pbytes_any a0 tl c0 a1 rl c1 i how sf sl hasR rf rl' pre w (unhide H0) (unhide H1) (unhide HP)).mono ?_
  rintro e w' ⟨⟨r, rfl, hr⟩, rfl⟩
  cases r with
  | false =>
    clear hr
    go_wp2_with fail
    go_ret
    exact ⟨rfl, Below.refl _ _⟩
  | true =>
  have HTX := hide (hr rfl)
  clear hr
  go_wp2_with fail
  refine (pfits_any a0 tl c0 a1 rl c1 i how pre w' (unhide H0) (unhide H1)).mono ?_
  rintro e w1 ⟨⟨r, rfl, hr⟩, hb1⟩
  cases r with
  | false =>
    clear hr
    go_wp2_with fail
    go_ret
    exact ⟨rfl, hb1⟩
  | true =>
  have HF := hide (hr rfl)
  clear hr
  obtain ⟨w, rfl⟩ : ∃ w : World, w = w' := ⟨_, rfl⟩
  obtain ⟨iN, rfl⟩ := Int.eq_ofNat_of_zero_le (unhide HF).i0
  obtain ⟨h, hhow, hh⟩ : ∃ h : Nat, how = (h : Int) ∧ (h = 0 ∨ h = 2) := by
    rcases (unhide HF).hw with e | e
    · exact ⟨0, e, .inl rfl⟩
    · exact ⟨2, e, .inr rfl⟩
  subst hhow
  have HHH := hide hh
  have hh2 : h ≤ 2 := by omega
  have hnt := (unhide HF).nt
  have hnr := (unhide HF).nr
  have hin : iN < tl.length := by have := (unhide HF).i1; omega
  have hps : pre.size ≤ 1048576 := (unhide HTX).2
  have hsz1 := hb1.size
  have HB1 := hide hb1
  clear hh hb1
  have hmk := run_make_row' (P := Try.prog) 56 3 (.int .i64 0) 8 Try.underlying56 info3 rfl .i64 .i64 (3 * tl.length + 1) (by omega) (by omega)
  have ec : ((3 * tl.length + 1 : Nat) : Int) = 3 * (tl.length : Int) + 1 := by omega
  rw [ec] at hmk
  clear ec
  go_wp2_with fail
  clear hmk
  go_loopw [23] (fun v wr => ∃ x : Nat, v = .int .i64 x ∧ 3 * iN + h + 1 ≤ x ∧ x ≤ 3 * tl.length + 1 ∧ wr.rowIs w1.heap.size 3 (3 * tl.length + 1) (nfTo (3 * iN + h) x rl.length) ∧ Below w1.heap.size w1 wr) (fun v _ => 3 * tl.length + 1 - (intOf v).toNat)
  case atStart => exact ⟨3 * iN + h + 1, by go_num, Nat.le_refl _, by omega, (World.rowIs_made w1 (.int .i64 0) (3 * tl.length + 1) 3).congr (fun j _ => (nfTo_start _ _ j).symm), (Below.refl _ _).alloc (Nat.le_refl _) _⟩
  case round =>
    obtain ⟨x, rfl, hx1, hx2, hrow, hbr⟩ := hrel
    by_cases hlt : x < 3 * tl.length + 1
    · have c0 := hrow.cell hlt
      have f0 := hrow.frozen x
      have HR := hide ((hrow.set x (.int .i64 rl.length)).congr (fun j _ => nfTo_step (3 * iN + h) x rl.length j (by omega)))
      have HBR := hide (hbr.setCell (p := ⟨w1.heap.size, x, none⟩) (Nat.le_refl _) (.int .i64 rl.length))
      clear hrow hbr
      go_wp2
      go_roundw
      case rel => exact ⟨x + 1, by go_num, by omega, by omega, unhide HR, unhide HBR⟩
      case measure => simp [intOf]; omega
    · obtain rfl : x = 3 * tl.length + 1 := by omega
      obtain ⟨wq, rfl⟩ : ∃ wq : World, wq = wr := ⟨_, rfl⟩
      have hbq : Below w.heap.size w wq := (unhide HB1).trans (hbr.mono hsz1)
      have hszq := hbq.size
      have HBQ := hide hbq
      have hcon := newWriter_any w.heap.size w1.heap.size (3 * tl.length + 1) (nfTo (3 * iN + h) (3 * tl.length + 1) rl.length) pre wq hsz1 hrow hszq hps
      clear hrow hbr hbq
      generalize hnf : nfTo (3 * iN + h) (3 * tl.length + 1) rl.length = nf at hcon
      have HNF := hide hnf
      clear hnf
      go_wp2_with fail
      refine hcon.mono ?_
      rintro e w2 ⟨rfl, htw, hb2⟩
      have HT2 := hide htw
      have HB2 := hide ((unhide HBQ).trans hb2)
      clear hcon htw hb2
      go_wp2_with fail
      go_loopw [25] (fun v wr => ∃ k : Nat, v = .int .i64 k ∧ k ≤ tl.length ∧ TWs w.heap.size wq.heap.size w1.heap.size k ((tl.take k).flatMap tokV) 0 [] (3 * tl.length + 1) nf pre.data.toList wr ∧ Below w.heap.size w wr) (fun v _ => tl.length - (intOf v).toNat)
      case atStart => exact ⟨0, rfl, Nat.zero_le _, unhide HT2, unhide HB2⟩
      case round =>
        obtain ⟨k, rfl, hk, htw, hbr⟩ := hrel
        have HT := hide htw
        have HBR := hide hbr
        have hszr := hbr.size
        by_cases hlt : k < tl.length
        · rcases (unhide H0).below hbr with hr | ⟨b, off, rfl, hb, hc⟩
          · subst hr; simp at hlt
          obtain ⟨e0, e1⟩ := hc k hlt
          have hbw : b < w.heap.size := by
            rcases unhide H0 with hr | ⟨b', off', e', hb', _⟩
            · subst hr; simp at hlt
            · cases e'; exact hb'
          have hcon := addToken_any w.heap.size wq.heap.size w1.heap.size k ((tl.take k).flatMap tokV) 0 [] (3 * tl.length + 1) nf pre.data.toList (tl.getD k t0) wr.drew (htw.below (Below.refl _ _).drew) (by omega) (by show w.heap.size ≤ wr.heap.size; omega)
          rw [← tok_snoc tl k hlt] at hcon
          have hkn : (k : Int) < (tl.length : Int) := by omega
          clear hc htw hbr
          generalize tl.getD k t0 = t at e0 e1 hcon
          obtain ⟨kind, text⟩ := t
          simp only at e0 e1 hcon
          go_wp2
          go_region_held3 (fun w' => w'.cell? ⟨b, off + k * 2, none⟩ = some (.int .i64 kind) ∧ w'.cell? ⟨b, off + k * 2 + 1, none⟩ = some (.string text)) (go_keep) (first | (go_at_call 14; refine hcon.mono ?_; rintro e w7 ⟨rfl, ht7, hb7⟩; have HT7 := hide ht7; have HB7 := hide hb7; have g0 := (hb7.cell (p := ⟨b, off + k * 2, none⟩) hbw).trans e0; have g1 := (hb7.cell (p := ⟨b, off + k * 2 + 1, none⟩) hbw).trans e1; clear ht7 hb7))
          all_goals go_wp2
          all_goals (refine ⟨⟨k + 1, by go_num, by omega, unhide HT7, (unhide HBR).drew.trans (unhide HB7)⟩, by simp [intOf]; omega⟩)
        · obtain rfl : k = tl.length := by omega
          obtain ⟨wt, rfl⟩ : ∃ wt : World, wt = wr := ⟨_, rfl⟩
          rw [List.take_length] at htw
          have HT3 := hide htw
          clear htw hbr HT HT2 HB2
          go_wp2_with fail
          go_loopw [26] (fun v wr => ∃ k : Nat, v = .int .i64 k ∧ k ≤ rl.length ∧ TWs w.heap.size wq.heap.size w1.heap.size tl.length (tl.flatMap tokV) k ((rl.take k).flatMap (rwV iN h)) (3 * tl.length + 1) nf pre.data.toList wr ∧ Below w.heap.size w wr) (fun v _ => rl.length - (intOf v).toNat)
          case atStart => exact ⟨0, rfl, Nat.zero_le _, unhide HT3, unhide HBR⟩
          case round =>
            obtain ⟨k, rfl, hk, htw, hbr⟩ := hrel
            have HT := hide htw
            have HBS := hide hbr
            have hszs := hbr.size
            by_cases hlt : k < rl.length
            · rcases (unhide H1).below hbr with hr | ⟨b, off, rfl, hb, hc⟩
              · subst hr; simp at hlt
              obtain ⟨e0, e1, e2, e3⟩ := hc k hlt
              have hbw : b < w.heap.size := by
                rcases unhide H1 with hr | ⟨b', off', e', hb', _⟩
                · subst hr; simp at hlt
                · cases e'; exact hb'
              have hcon := addRewrite_any w.heap.size wq.heap.size w1.heap.size tl.length (tl.flatMap tokV) k ((rl.take k).flatMap (rwV iN h)) (3 * tl.length + 1) nf pre.data.toList iN h (rl.getD k r0) wr.drew (htw.below (Below.refl _ _).drew) (by omega) (by show w.heap.size ≤ wr.heap.size; omega)
              rw [← rw_snoc iN h rl k hlt] at hcon
              have hkn : (k : Int) < (rl.length : Int) := by omega
              clear hc htw hbr
              generalize rl.getD k r0 = r at e0 e1 e2 e3 hcon
              obtain ⟨rt, rf2, rl2, rm⟩ := r
              simp only at e0 e1 e2 e3 hcon
              go_wp2
              go_region_held3 (fun w' => w'.cell? ⟨b, off + k * 4, none⟩ = some (.string rt) ∧ w'.cell? ⟨b, off + k * 4 + 1, none⟩ = some (.int .i64 rf2) ∧ w'.cell? ⟨b, off + k * 4 + 2, none⟩ = some (.int .i64 rl2) ∧ w'.cell? ⟨b, off + k * 4 + 3, none⟩ = some (.bool rm)) (go_keep) (first | (go_at_call 15; refine hcon.mono ?_; rintro e w7 ⟨rfl, ht7, hb7⟩; have HT7 := hide ht7; have HB7 := hide hb7; have g0 := (hb7.cell (p := ⟨b, off + k * 4, none⟩) hbw).trans e0; have g1 := (hb7.cell (p := ⟨b, off + k * 4 + 1, none⟩) hbw).trans e1; have g2 := (hb7.cell (p := ⟨b, off + k * 4 + 2, none⟩) hbw).trans e2; have g3 := (hb7.cell (p := ⟨b, off + k * 4 + 3, none⟩) hbw).trans e3; clear ht7 hb7))
              all_goals go_wp2
              all_goals (refine ⟨⟨k + 1, by go_num, by omega, unhide HT7, (unhide HBS).drew.trans (unhide HB7)⟩, by simp [intOf]; omega⟩)
            · obtain rfl : k = rl.length := by omega
              obtain ⟨wu, rfl⟩ : ∃ wu : World, wu = wr := ⟨_, rfl⟩
              rw [List.take_length] at htw
              have hnest : (h = 0 ∧ ∀ j, j + 1 < rl.length → winB (rl.getD (j + 1) r0).f (rl.getD (j + 1) r0).l (rl.getD j r0).f (rl.getD j r0).l = true) ∨ (h = 2 ∧ ∀ j, j + 1 < rl.length → winB (rl.getD j r0).f (rl.getD j r0).l (rl.getD (j + 1) r0).f (rl.getD (j + 1) r0).l = true) := by
                rcases unhide HHH with e | e
                · exact .inl ⟨e, fun j hj => by have := (unhide HF).nest j hj; rw [e] at this; simpa using this⟩
                · exact .inr ⟨e, fun j hj => by have := (unhide HF).nest j hj; rw [e] at this; simpa using this⟩
              have hcon := zpieces_any w.heap.size wq.heap.size w1.heap.size (3 * tl.length + 1) nf tl rl iN h sf sl hasR rf rl' pre.data.toList wu
                { tw := htw, x0 := by rw [← unhide HNF]; exact nfTo_key _ _ _, x1 := by rw [← unhide HNF]; exact nfTo_next _ _ _ (by omega), hk := by omega, hi := by omega, nt := hnt, nr := hnr, texts := (unhide HTX).1, minus := (unhide HF).minus, hl := by rw [size_data]; exact hps, hB := hszs, rep := fun e => by cases e } hnest
              clear htw hbr HT HT3 hnest
              go_wp2_with fail
              refine hcon.mono ?_
              rintro e wv ⟨rfl, htv, hbv⟩
              have HTV := hide htv
              have HBV := hide ((unhide HBS).trans hbv)
              clear htv hbv hcon
              go_wp2_with fail
              go_loopw [27, 28] (fun sv v wr => ∃ k : Nat, v = .int .i64 k ∧ k ≤ rl.length ∧ sv = .string (wantS pre tl sf sl hasR rf rl' rl k) ∧ TWs w.heap.size wq.heap.size w1.heap.size tl.length (tl.flatMap tokV) rl.length (rl.flatMap (rwV iN h)) (3 * tl.length + 1) nf (pre.data.toList ++ lawT tl sf sl hasR rf rl' rl) wr ∧ Below w.heap.size w wr) (fun _ v _ => rl.length - (intOf v).toNat)
              case atStart => exact ⟨0, rfl, Nat.zero_le _, by rw [wantS_zero], unhide HTV, unhide HBV⟩
              case round =>
                obtain ⟨k, rfl, hk, rfl, htw, hbr⟩ := hrel
                have hszx := hbr.size
                have HX : Hid (TWs w.heap.size wq.heap.size w1.heap.size tl.length (tl.flatMap tokV) rl.length (rl.flatMap (rwV iN h)) (3 * tl.length + 1) nf (pre.data.toList ++ lawT tl sf sl hasR rf rl' rl) wr) := htw
                have HBX : Hid (Below w.heap.size w wr) := hbr
                by_cases hlt : k < rl.length
                · rcases (unhide H1).below hbr with hr | ⟨b, off, rfl, hb, hc⟩
                  · subst hr; simp at hlt
                  obtain ⟨e0, e1, e2, e3⟩ := hc k hlt
                  have htx := (unhide HTX).1 k hlt
                  have hmin := (unhide HF).minus k hlt
                  have hiff := hide (skB_iff tl (rl.getD k r0))
                  have hno := hide (wantS_no (pre := pre) (tl := tl) (sf := sf) (sl := sl) (hasR := hasR) (rf := rf) (rl' := rl') hlt)
                  have hyes := hide (wantS_yes (pre := pre) (tl := tl) (sf := sf) (sl := sl) (hasR := hasR) (rf := rf) (rl' := rl') hlt)
                  have hws := wantS_size (tl := tl) (sf := sf) (sl := sl) (hasR := hasR) (rf := rf) (rl' := rl') hps (unhide HTX).1 hk
                  have hkm : k * 1048576 ≤ 65536 * 1048576 := Nat.mul_le_mul_right _ (by omega)
                  have hkn : (k : Int) < (rl.length : Int) := by omega
                  clear hc htw hbr
                  generalize wantS pre tl sf sl hasR rf rl' rl k = wn at hno hyes hws
                  generalize hwm : wantS pre tl sf sl hasR rf rl' rl (k + 1) = wm at hno hyes
                  have HWM := hide hwm
                  clear hwm
                  generalize rl.getD k r0 = r at e0 e1 e2 e3 htx hmin hiff hno hyes
                  have hba : Below wr.heap.size wr (wr.alloc (.cells #[.string r.text, .int .i64 r.f, .int .i64 r.l, .bool r.minus] 64)) := (Below.refl _ _).alloc (Nat.le_refl _) _
                  have HTA : Hid (TWs w.heap.size wq.heap.size w1.heap.size tl.length (tl.flatMap tokV) rl.length (rl.flatMap (rwV iN h)) (3 * tl.length + 1) nf (pre.data.toList ++ lawT tl sf sl hasR rf rl' rl) (wr.alloc (.cells #[.string r.text, .int .i64 r.f, .int .i64 r.l, .bool r.minus] 64))) := HX.out.below hba
                  have HBA : Hid (Below w.heap.size w (wr.alloc (.cells #[.string r.text, .int .i64 r.f, .int .i64 r.l, .bool r.minus] 64))) := HBX.out.alloc hszx _
                  have hcon := zskips_any a0 c0 tl r (wr.alloc (.cells #[.string r.text, .int .i64 r.f, .int .i64 r.l, .bool r.minus] 64)) ((unhide H0).below HBA.out) hnt hmin
                  have hblk : Hid (heap_of (wr.alloc (.cells #[.string r.text, .int .i64 r.f, .int .i64 r.l, .bool r.minus] 64)) wr.heap.size = some (.cells #[.string r.text, .int .i64 r.f, .int .i64 r.l, .bool r.minus] 64 (0, 0))) := heap_alloc_new wr _
                  clear hba hmin
                  obtain ⟨rt, rf2, rl2, rm⟩ := r
                  simp only at e0 e1 e2 e3 htx hcon HTA HBA hblk
                  have hsum : wn.size + rt.size ≤ 9223372036854775807 := by omega
                  have hnoA : Hid (winB rf2 rl2 sf sl = false → wm = wn) := fun hf => (unhide hno) (by simp [keepB, hf])
                  have hnoB : Hid (hasR = true → winB rf2 rl2 rf rl' = true → wm = wn) := fun hf hg => (unhide hno) (by simp [keepB, insB, hf, hg])
                  have hnoC : Hid (Sk tl ⟨rt, rf2, rl2, rm⟩ → wm = wn) := fun hf => (unhide hno) (by simp [keepB, (unhide hiff).2 hf])
                  have hyesD : Hid (winB rf2 rl2 sf sl = true → (hasR = true → winB rf2 rl2 rf rl' = false) → ¬ Sk tl ⟨rt, rf2, rl2, rm⟩ → wm = wn ++ rt) := fun h1 h2 h3 => (unhide hyes) (by
                    have hs : skB tl ⟨rt, rf2, rl2, rm⟩ = false := by
                      cases hc : skB tl ⟨rt, rf2, rl2, rm⟩ with
                      | false => rfl
                      | true => exact absurd ((unhide hiff).1 hc) h3
                    have hi : insB hasR rf rl' ⟨rt, rf2, rl2, rm⟩ = false := by
                      unfold insB
                      cases hasR with
                      | false => rfl
                      | true => simpa using h2 rfl
                    simp [keepB, h1, hi, hs])
                  clear hno hyes hiff
                  have HC := hide hcon
                  clear hcon
                  have hblk2 := hblk.out
                  have g0 : (wr.alloc (.cells #[.string rt, .int .i64 rf2, .int .i64 rl2, .bool rm] 64)).cell? ⟨wr.heap.size, 0, none⟩ = some (.string rt) := cellAt hblk2 rfl
                  clear hblk2
                  cases hw : winB rf2 rl2 sf sl with
                  | false =>
                    have hwe := hnoA.out hw
                    subst hwe
                    clear g0
                    go_wp2_with (go_at_call 17; refine (within_any rf2 rl2 sf sl _).mono ?_; rintro e w5 ⟨rfl, rfl⟩; (try rw [hw]))
                    go_roundw
                    case rel => exact ⟨k + 1, by go_num, by omega, by rw [HWM.out], HTA.out, HBA.out⟩
                    case measure => simp [intOf]; omega
                  | true =>
                    clear g0
                    cases hasR with
                    | false =>
                        go_wp2_with (go_at_call 17; refine (within_any rf2 rl2 sf sl _).mono ?_; rintro e w5 ⟨rfl, rfl⟩; (try rw [hw]))
                        refine HC.out.mono ?_
                        rintro e w6 ⟨⟨bb, rfl, hbb⟩, hb6⟩
                        have HT6 : Hid (TWs w.heap.size wq.heap.size w1.heap.size tl.length (tl.flatMap tokV) rl.length (rl.flatMap (rwV iN h)) (3 * tl.length + 1) nf (pre.data.toList ++ lawT tl sf sl false rf rl' rl) w6) := HTA.out.below hb6
                        have HB6 : Hid (Below w.heap.size w w6) := HBA.out.trans (hb6.mono (by simp; omega))
                        have f0 : w6.cell? ⟨wr.heap.size, 0, none⟩ = some (.string rt) := cellAt ((hb6.block wr.heap.size (by simp)).trans hblk.out) rfl
                        clear hb6 HTA HBA HC hblk e0 e1 e2 e3
                        cases bb with
                        | true =>
                          have hwe := hnoC.out (hbb.1 rfl)
                          subst hwe
                          clear hbb
                          go_wp2
                          go_roundw
                          case rel => exact ⟨k + 1, by go_num, by omega, by rw [HWM.out], HT6.out, HB6.out⟩
                          case measure => simp [intOf]; omega
                        | false =>
                          have hwe := hyesD.out hw (fun hh => by cases hh) (fun hs => by simpa using hbb.2 hs)
                          have HWE := hide hwe
                          clear hbb hwe
                          go_wp2
                          go_roundw
                          case rel => exact ⟨k + 1, by go_num, by omega, by rw [HWM.out, HWE.out], HT6.out, HB6.out⟩
                          case measure => simp [intOf]; omega
                    | true =>
                      cases hi : winB rf2 rl2 rf rl' with
                      | true =>
                        have hwe := hnoB.out rfl hi
                        subst hwe
                        go_wp2_with (go_at_call 17; refine (within_any _ _ _ _ _).mono ?_; rintro e w5 ⟨rfl, rfl⟩; (try rw [hw]); (try rw [hi]))
                        go_roundw
                        case rel => exact ⟨k + 1, by go_num, by omega, by rw [HWM.out], HTA.out, HBA.out⟩
                        case measure => simp [intOf]; omega
                      | false =>
                        go_wp2_with (go_at_call 17; refine (within_any _ _ _ _ _).mono ?_; rintro e w5 ⟨rfl, rfl⟩; (try rw [hw]); (try rw [hi]))
                        refine HC.out.mono ?_
                        rintro e w6 ⟨⟨bb, rfl, hbb⟩, hb6⟩
                        have HT6 : Hid (TWs w.heap.size wq.heap.size w1.heap.size tl.length (tl.flatMap tokV) rl.length (rl.flatMap (rwV iN h)) (3 * tl.length + 1) nf (pre.data.toList ++ lawT tl sf sl true rf rl' rl) w6) := HTA.out.below hb6
                        have HB6 : Hid (Below w.heap.size w w6) := HBA.out.trans (hb6.mono (by simp; omega))
                        have f0 : w6.cell? ⟨wr.heap.size, 0, none⟩ = some (.string rt) := cellAt ((hb6.block wr.heap.size (by simp)).trans hblk.out) rfl
                        clear hb6 HTA HBA HC hblk e0 e1 e2 e3
                        cases bb with
                        | true =>
                          have hwe := hnoC.out (hbb.1 rfl)
                          subst hwe
                          clear hbb
                          go_wp2
                          go_roundw
                          case rel => exact ⟨k + 1, by go_num, by omega, by rw [HWM.out], HT6.out, HB6.out⟩
                          case measure => simp [intOf]; omega
                        | false =>
                          have hwe := hyesD.out hw (fun hh => hi) (fun hs => by simpa using hbb.2 hs)
                          have HWE := hide hwe
                          clear hbb hwe
                          go_wp2
                          go_roundw
                          case rel => exact ⟨k + 1, by go_num, by omega, by rw [HWM.out, HWE.out], HT6.out, HB6.out⟩
                          case measure => simp [intOf]; omega
                · obtain rfl : k = rl.length := by omega
                  have hcon := text_any w.heap.size wq.heap.size w1.heap.size tl.length (tl.flatMap tokV) rl.length (rl.flatMap (rwV iN h)) (3 * tl.length + 1) nf (pre.data.toList ++ lawT tl sf sl hasR rf rl' rl) wr htw hszx
                  rw [← wantS_all] at hcon
                  clear htw hbr
                  generalize wantS pre tl sf sl hasR rf rl' rl rl.length = wn at hcon
                  go_wp2_with fail
                  refine hcon.mono ?_
                  rintro e w9 ⟨rfl, hb9⟩
                  have HB9 := hide (HBX.out.trans hb9)
                  clear hcon hb9
                  go_wp2_with fail
                  go_ret
                  exact ⟨rfl, unhide HB9⟩

end Go.Proofs.Qxb6618532a
