/-
  Seat b6618596a: the walks of the two laws on load64.
-/
import Derived.Test.Qxb6618596aLoad
import Derived.OwnWalk
import Derived.Maps.AppendAt
namespace Go.Proofs.Qxb6618596a
open Go.RowKit

theorem hide {p : Prop} (h : p) : Hid p := h
theorem unhide {p : Prop} (h : Hid p) : p := h

/-- Bytes as cells. -/
def bV (l : List UInt8) : List Value := l.map (fun b => .int .u8 (b.toNat : Int))
/-- The bytes gathered so far, in a row of the call's own. -/
structure Gat (B : Nat) (L : List UInt8) (w3 : World) (v : Value) (wr : World) : Prop where
  own : wr.ownsRow B 5 1 v L.length (bV L)
  nn : v ≠ .slice none 0 0
  below : Below B w3 wr
theorem Gat.add {B : Nat} {L M : List UInt8} {w3 : World} {v : Value} {wr : World} (h : Gat B L w3 v wr) (hB : B ≤ wr.heap.size) {v' : Value} {w' : World} {x : Obj}
    (hown : w'.ownsRow B 5 1 v' (L.length + M.length) (bV L ++ bV M)) (hg : (wr.alloc x).grownBy w' v.ownBlock) (hn : ¬ v' = .slice none 0 0) : Gat B (L ++ M) w3 v' w' := by
  constructor
  · simpa [bV] using hown
  · exact hn
  · exact (h.below.alloc hB x).grown hg (by simp; omega) (fun j hj => (h.own.lt j hj).1)
theorem Gat.form {B : Nat} {L : List UInt8} {w3 : World} {v : Value} {wr : World} (h : Gat B L w3 v wr) : ∃ g c, v = .slice (some ⟨g, 0, none⟩) L.length c ∧ ∀ j (hj : j < L.length), wr.cell? ((⟨g, 0, none⟩ : Addr).add j) = some (.int .u8 (L[j].toNat : Int)) := by
  rcases h.own.2 with ⟨hv, _⟩ | ⟨g, cap, cur, hv, _, hh, _, _, _, htk⟩
  · exact absurd hv h.nn
  · refine ⟨g, cap, hv, fun j hj => ?_⟩
    exact h.own.cells (g := g) (by rw [hv]; rfl) j (.int .u8 (L[j].toNat : Int)) (by simp [bV, hj])
theorem info5 : (Try.prog.info? 5).map (fun i => (i.zero, i.size, i.bytes)) = some (some (.int .u8 0), 1, 1) := by kernel_rfl

theorem below_drewN {B : Nat} {w w' : World} (h : Below B w w') (n : Nat) : Below B w (w'.drewN n) := by
  induction n with
  | zero => exact h
  | succ n ih => exact ih.drew
theorem toList_size (s : ByteArray) : s.data.toList.length = s.size := rfl
theorem take_snoc (s : ByteArray) (k : Nat) (h : k < s.size) : s.data.toList.take (k + 1) = s.data.toList.take k ++ [s[k]'h] := by
  rw [List.take_succ_eq_append_getElem (show k < s.data.toList.length from h)]; rfl
theorem bt_cons0 (b : UInt8) (s : ByteArray) : bt ⟨(b :: s.data.toList).toArray⟩ 0 = (b.toNat : Int) := rfl
theorem bt_cons1 (b : UInt8) (s : ByteArray) (j : Nat) : bt ⟨(b :: s.data.toList).toArray⟩ (j + 1) = bt s j := by
  unfold bt; simp
theorem shl_or (v c : Int) (hc0 : 0 ≤ c) (hc1 : c < 256) : bits .or .u64 (IntKind.u64.wrap (v * 256)) (IntKind.u64.wrap c) = (v * 256) % 18446744073709551616 + c := by
  rw [u64_wrap_id c hc0 (by omega), IntKind.wrap_u64]
  exact bits_join .u64 64 (by decide) wraps_u64 8 _ _ (by omega) (by omega) (by omega) hc0 (by omega) (by omega)
theorem le8_cons (b : UInt8) (s : ByteArray) : bits .or .u64 (IntKind.u64.wrap (le8 s * 256)) (IntKind.u64.wrap (b.toNat : Int)) = le8 ⟨(b :: s.data.toList).toArray⟩ := by
  have hb := b.toNat_lt
  rw [shl_or _ _ (by omega) (by omega)]
  unfold le8
  rw [bt_cons0, bt_cons1, bt_cons1, bt_cons1, bt_cons1, bt_cons1, bt_cons1, bt_cons1]
  have := bt_nn s 0; have := bt_nn s 1; have := bt_nn s 2; have := bt_nn s 3; have := bt_nn s 4; have := bt_nn s 5; have := bt_nn s 6; have := bt_nn s 7
  have := bt_lt s 0; have := bt_lt s 1; have := bt_lt s 2; have := bt_lt s 3; have := bt_lt s 4; have := bt_lt s 5; have := bt_lt s 6; have := bt_lt s 7
  omega

set_option maxRecDepth 100000 in
set_option maxHeartbeats 2000000 in
theorem shift_walk (b : UInt8) (s : ByteArray) (w : World) :
    Calls Try.prog 5 #[.int .u8 (b.toNat : Int), .string s] w fun e w' => e = .returned (.bool true) ∧ Below w.heap.size w w' := by
  by_cases hs : s.size ≤ 1048576
  rotate_left
  · go_enter Try.func5, Try.ntmps5
    go_wp2_with (go_at_call 14; refine (zz14_no _ s (by omega) _).mono ?_; rintro e w ⟨rfl, rfl⟩)
    go_ret
    exact ⟨rfl, Below.refl _ _⟩
  by_cases h8 : 8 ≤ s.size
  rotate_left
  · have hi : ¬ (1048576 : Int) < s.size := by omega
    have hi8 : (s.size : Int) < 8 := by omega
    go_enter Try.func5, Try.ntmps5
    go_wp2_with (go_at_call 14; refine (zz14_yes _ s hs _).mono ?_; rintro e w ⟨rfl, rfl⟩)
    go_ret
    exact ⟨rfl, Below.refl _ _⟩
  have hi : ¬ (1048576 : Int) < s.size := by omega
  have hi8 : ¬ (s.size : Int) < 8 := by omega
  obtain ⟨i5, hi5, hz0, hz1, hz2⟩ := info_parts info5
  go_enter Try.func5, Try.ntmps5
  go_wp2_with (first | (go_at_call 14; refine (zz14_yes _ s hs _).mono ?_; rintro e w ⟨rfl, rfl⟩) | (at_make; refine wpList_make_own _ rfl _ _ 35 rfl w.heap.size 5 i5 (.int .u8 0) 1 Try.underlying35 hi5 hz0 hz1 .i64 .i64 _ (s.size + 1) rfl rfl ?m1 ?m2 ?m3 (Nat.le_refl _) ?_))
  case m1 => simp
  case m2 => rw [hz2]; omega
  case m3 => unfold maxLen; omega
  intro w1 hown hgrow
  have hg0 : Gat w.heap.size [] w (.slice (some ⟨w.heap.size, 0, none⟩) 0 (s.size + 1)) w1 := ⟨hown, by simp, (Below.refl _ _).grown hgrow (Nat.le_refl _) (fun j hj => by cases hj)⟩
  have hsz1 := hg0.below.size
  have HG0 := hide hg0
  clear hgrow hg0
  go_wp2_with (at_builtin; refine wpList_append_own _ rfl _ _ 35 rfl w.heap.size 5 i5 (.int .u8 0) 1 1 Try.underlying35 hi5 hz0 hz1 hz2 rfl (by decide) _ _ _ rfl (hown.alloc _) ⟨w1.heap.size, 0, none⟩ 1 1 (bV [b]) rfl rfl ?c1 ?c2 ?c3 ?c4 ?c5 ?_)
  case c1 => exact cell_one_new _ _ _
  case c2 => intro u hu; simp [bV] at hu; subst hu; rfl
  case c3 => unfold maxLen; omega
  case c4 => omega
  case c5 => simp; omega
  intro v2 w2 hown' hgrow' hn
  have hg2 := (unhide HG0).add (M := [b]) hsz1 hown' hgrow' hn
  have HG2 := hide hg2
  have hsz2 := hg2.below.size
  clear hown' hgrow' hn hg2 hown
  go_wp2
  go_loopw [5, 6] (fun v i wr => ∃ k : Nat, k ≤ s.size ∧ i = .int .i64 k ∧ Gat w.heap.size (b :: s.data.toList.take k) w v wr) (fun _ i _ => s.size - (intOf i).toNat)
  case atStart => exact ⟨0, Nat.zero_le _, rfl, unhide HG2⟩
  case round =>
    obtain ⟨k, hk, rfl, hg⟩ := hrel
    have HG := hide hg
    have hszr := hg.below.size
    have hown := hg.own
    by_cases hlt : k < s.size
    · have hki : (k : Int) < s.size := by omega
      have hlen : (b :: s.data.toList.take k).length = k + 1 := by simp; omega
      clear hg
      go_wp2_with (at_builtin; refine wpList_append_own _ rfl _ _ 35 rfl w.heap.size 5 i5 (.int .u8 0) 1 1 Try.underlying35 hi5 hz0 hz1 hz2 rfl (by decide) _ _ _ rfl (hown.alloc _) ⟨wr.heap.size, 0, none⟩ 1 1 (bV [s[k]]) rfl rfl ?c1 ?c2 ?c3 ?c4 ?c5 ?_)
      case c1 => exact cell_one_new _ _ _
      case c2 => intro u hu; simp [bV] at hu; subst hu; rfl
      case c3 => unfold maxLen; omega
      case c4 => omega
      case c5 => simp; omega
      intro v3 w3 hown' hgrow' hn
      have hg3 := (unhide HG).add (M := [s[k]]) hszr (by rw [hlen]; exact hown') hgrow' hn
      have HG3 := hide hg3
      clear hown' hgrow' hn hg3 hown
      go_wp2
      go_roundw
      case rel => exact ⟨k + 1, by omega, by go_num, by rw [take_snoc s k hlt]; exact unhide HG3⟩
      case measure => simp [intOf]; omega
    · obtain rfl : k = s.size := by omega
      rw [show s.data.toList.take s.size = s.data.toList from List.take_length] at hg
      obtain ⟨g, cap, rfl, hcell⟩ := hg.form
      have hcv := run_convert_bytes_back (P := Try.prog) wr 35 9 5 ⟨g, 0, none⟩ cap (b :: s.data.toList) Try.underlying35 Try.underlying5 Try.underlying9 hcell
      have hle := le8_cons b s
      have h8t : 8 ≤ (⟨(b :: s.data.toList).toArray⟩ : ByteArray).size := by
        show 8 ≤ (b :: s.data.toList).length
        simp; omega
      have HB : Hid (Below w.heap.size w wr) := hg.below
      clear hcell hg hown HG
      generalize b :: s.data.toList = L at hcv hle h8t
      generalize L.length = n at hcv
      generalize (⟨L.toArray⟩ : ByteArray) = t at hcv hle h8t
      go_wp2_with (first | (go_at_call 15; first | (refine (zload64_any s h8 _).mono ?_; rintro e w7 ⟨rfl, m7, rfl⟩) | (refine (zload64_any t h8t _).mono ?_; rintro e w8 ⟨rfl, m8, rfl⟩)) | (go_at_call 16; refine (horner_any s h8 _).mono ?_; rintro e w9 ⟨rfl, rfl⟩))
      go_ret
      exact ⟨rfl, below_drewN (unhide HB) _⟩

theorem bt_app (s : ByteArray) (l : List UInt8) (j : Nat) (h : j < s.size) : bt ⟨(s.data.toList ++ l).toArray⟩ j = bt s j := by
  have h' : j < s.data.toList.length := h
  unfold bt
  rw [show (⟨(s.data.toList ++ l).toArray⟩ : ByteArray).data.toList = s.data.toList ++ l from rfl, List.getD, List.getD, List.getElem?_append_left h']
theorem le8_app (s : ByteArray) (l : List UInt8) (h : 8 ≤ s.size) : le8 ⟨(s.data.toList ++ l).toArray⟩ = le8 s := by
  unfold le8
  rw [bt_app s l 0 (by omega), bt_app s l 1 (by omega), bt_app s l 2 (by omega), bt_app s l 3 (by omega), bt_app s l 4 (by omega), bt_app s l 5 (by omega), bt_app s l 6 (by omega), bt_app s l 7 (by omega)]

set_option maxRecDepth 100000 in
set_option maxHeartbeats 2000000 in
theorem first_walk (s u : ByteArray) (w : World) :
    Calls Try.prog 6 #[.string s, .string u] w fun e w' => e = .returned (.bool true) ∧ Below w.heap.size w w' := by
  by_cases hs : s.size ≤ 1048576
  rotate_left
  · go_enter Try.func6, Try.ntmps6
    go_wp2_with (go_at_call 17; refine (zz17_no1 s u (by omega) _).mono ?_; rintro e w ⟨rfl, rfl⟩)
    go_ret
    exact ⟨rfl, Below.refl _ _⟩
  by_cases hu : u.size ≤ 1048576
  rotate_left
  · go_enter Try.func6, Try.ntmps6
    go_wp2_with (go_at_call 17; refine (zz17_no2 s u hs (by omega) _).mono ?_; rintro e w ⟨rfl, rfl⟩)
    go_ret
    exact ⟨rfl, Below.refl _ _⟩
  by_cases hsu : s.size + u.size ≤ 1048576
  rotate_left
  · go_enter Try.func6, Try.ntmps6
    go_wp2_with (go_at_call 17; refine (zz17_no3 s u hs hu (by omega) _).mono ?_; rintro e w ⟨rfl, rfl⟩)
    go_ret
    exact ⟨rfl, Below.refl _ _⟩
  have hi : ¬ (1048576 : Int) < s.size := by omega
  have hiu : ¬ (1048576 : Int) < u.size := by omega
  have hisu : ¬ (1048576 : Int) < s.size + u.size := by omega
  by_cases h8 : 8 ≤ s.size
  rotate_left
  · have hi8 : (s.size : Int) < 8 := by omega
    go_enter Try.func6, Try.ntmps6
    go_wp2_with (go_at_call 17; refine (zz17_yes s u hsu _).mono ?_; rintro e w ⟨rfl, rfl⟩)
    go_ret
    exact ⟨rfl, Below.refl _ _⟩
  have hi8 : ¬ (s.size : Int) < 8 := by omega
  obtain ⟨i5, hi5, hz0, hz1, hz2⟩ := info_parts info5
  go_enter Try.func6, Try.ntmps6
  go_wp2_with (first | (go_at_call 17; refine (zz17_yes s u hsu _).mono ?_; rintro e w ⟨rfl, rfl⟩) | (at_make; refine wpList_make_own _ rfl _ _ 35 rfl w.heap.size 5 i5 (.int .u8 0) 1 Try.underlying35 hi5 hz0 hz1 .i64 .i64 _ (s.size + u.size) rfl rfl ?m1 ?m2 ?m3 (Nat.le_refl _) ?_))
  case m1 => simp
  case m2 => rw [hz2]; omega
  case m3 => unfold maxLen; omega
  intro w1 hown hgrow
  have hg0 : Gat w.heap.size [] w (.slice (some ⟨w.heap.size, 0, none⟩) 0 (s.size + u.size)) w1 := ⟨hown, by simp, (Below.refl _ _).grown hgrow (Nat.le_refl _) (fun j hj => by cases hj)⟩
  have HG0 := hide hg0
  clear hgrow hg0 hown
  go_wp2
  go_loopw [5, 6] (fun v i wr => ∃ k : Nat, k ≤ s.size ∧ i = .int .i64 k ∧ Gat w.heap.size (s.data.toList.take k) w v wr) (fun _ i _ => s.size - (intOf i).toNat)
  case atStart => exact ⟨0, Nat.zero_le _, rfl, unhide HG0⟩
  case round =>
    obtain ⟨k, hk, rfl, hg⟩ := hrel
    have HG := hide hg
    have hszr := hg.below.size
    have hown := hg.own
    by_cases hlt : k < s.size
    · have hki : (k : Int) < s.size := by omega
      have hlen : (s.data.toList.take k).length = k := by simp; omega
      rw [hlen] at hown
      clear hg
      go_wp2_with (at_builtin; refine wpList_append_own _ rfl _ _ 35 rfl w.heap.size 5 i5 (.int .u8 0) 1 1 Try.underlying35 hi5 hz0 hz1 hz2 rfl (by decide) _ _ _ rfl (hown.alloc _) ⟨wr.heap.size, 0, none⟩ 1 1 (bV [s[k]]) rfl rfl ?c1 ?c2 ?c3 ?c4 ?c5 ?_)
      case c1 => exact cell_one_new _ _ _
      case c2 => intro u hu; simp [bV] at hu; subst hu; rfl
      case c3 => unfold maxLen; omega
      case c4 => omega
      case c5 => simp; omega
      intro v3 w3 hown' hgrow' hn
      have hg3 := (unhide HG).add (M := [s[k]]) hszr (by rw [hlen]; exact hown') hgrow' hn
      have HG3 := hide hg3
      clear hown' hgrow' hn hg3 hown
      go_wp2
      go_roundw
      case rel => exact ⟨k + 1, by omega, by go_num, by rw [take_snoc s k hlt]; exact unhide HG3⟩
      case measure => simp [intOf]; omega
    · obtain rfl : k = s.size := by omega
      rw [show s.data.toList.take s.size = s.data.toList from List.take_length] at hg
      have HGS := hide hg
      obtain ⟨ws, rfl⟩ : ∃ ws : World, ws = wr := ⟨_, rfl⟩
      clear hg HG hown
      go_wp2
      go_loopw [5, 7] (fun v i wr => ∃ k : Nat, k ≤ u.size ∧ i = .int .i64 k ∧ Gat w.heap.size (s.data.toList ++ u.data.toList.take k) w v wr) (fun _ i _ => u.size - (intOf i).toNat)
      case atStart => exact ⟨0, Nat.zero_le _, rfl, by simpa using unhide HGS⟩
      case round =>
        obtain ⟨k, hk, rfl, hg⟩ := hrel
        have HG := hide hg
        have hszx := hg.below.size
        have hown := hg.own
        by_cases hlt : k < u.size
        · have hki : (k : Int) < u.size := by omega
          have hlen : (s.data.toList ++ u.data.toList.take k).length = s.size + k := by simp; omega
          rw [hlen] at hown
          clear hg
          go_wp2_with (at_builtin; refine wpList_append_own _ rfl _ _ 35 rfl w.heap.size 5 i5 (.int .u8 0) 1 1 Try.underlying35 hi5 hz0 hz1 hz2 rfl (by decide) _ _ _ rfl (hown.alloc _) ⟨wr.heap.size, 0, none⟩ 1 1 (bV [u[k]]) rfl rfl ?c1 ?c2 ?c3 ?c4 ?c5 ?_)
          case c1 => exact cell_one_new _ _ _
          case c2 => intro u hu; simp [bV] at hu; subst hu; rfl
          case c3 => unfold maxLen; omega
          case c4 => omega
          case c5 => simp; omega
          intro v3 w3 hown' hgrow' hn
          have hg3 := (unhide HG).add (M := [u[k]]) hszx (by rw [hlen]; exact hown') hgrow' hn
          have HG3 := hide hg3
          clear hown' hgrow' hn hg3 hown
          go_wp2
          go_roundw
          case rel => exact ⟨k + 1, by omega, by go_num, by rw [take_snoc u k hlt, ← List.append_assoc]; exact unhide HG3⟩
          case measure => simp [intOf]; omega
        · obtain rfl : k = u.size := by omega
          rw [show u.data.toList.take u.size = u.data.toList from List.take_length] at hg
          obtain ⟨g, cap, rfl, hcell⟩ := hg.form
          have hcv := run_convert_bytes_back (P := Try.prog) wr 35 9 5 ⟨g, 0, none⟩ cap (s.data.toList ++ u.data.toList) Try.underlying35 Try.underlying5 Try.underlying9 hcell
          have hle := le8_app s u.data.toList h8
          have h8t : 8 ≤ (⟨(s.data.toList ++ u.data.toList).toArray⟩ : ByteArray).size := by
            show 8 ≤ (s.data.toList ++ u.data.toList).length
            simp; omega
          have HB : Hid (Below w.heap.size w wr) := hg.below
          clear hcell hg hown HG
          generalize s.data.toList ++ u.data.toList = L at hcv hle h8t
          generalize L.length = n at hcv
          generalize (⟨L.toArray⟩ : ByteArray) = t at hcv hle h8t
          have HL := hide hle
          clear hle
          go_wp2_with (first | (go_at_call 15; first | (refine (zload64_any s h8 _).mono ?_; rintro e w7 ⟨rfl, m7, rfl⟩) | (refine (zload64_any t h8t _).mono ?_; rintro e w8 ⟨rfl, m8, rfl⟩; (try rw [HL.out]))) | (go_at_call 16; refine (horner_any s h8 _).mono ?_; rintro e w9 ⟨rfl, rfl⟩))
          go_ret
          exact ⟨rfl, below_drewN (unhide HB) _⟩
end Go.Proofs.Qxb6618596a
