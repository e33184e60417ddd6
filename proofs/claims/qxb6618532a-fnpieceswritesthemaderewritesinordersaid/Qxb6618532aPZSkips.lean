/-
  Seat b6618532a: zzSkips.
-/
import Derived.Test.Qxb6618532aPSkips
namespace Go.Proofs.Qxb6618532a
open Go.RowKit

theorem sk_odd {tl : List Tok} {r : Rw} {f l k : Nat} (hm : r.minus = true) (hf : r.f = (f : Int)) (hl : r.l = (l : Int)) (e : l = f + 2 * k + 1) : Sk tl r ↔ (OpenTo tl f k ∧ (tl.getD (f + 1 + k) t0).kind = 3) := by
  unfold Sk
  rw [hf, hl, Int.toNat_natCast]
  constructor
  · rintro ⟨_, k', e', h1, h2⟩
    have hkk : k' = k := by omega
    subst hkk
    exact ⟨h1, h2⟩
  · rintro ⟨h1, h2⟩
    exact ⟨hm, k, by omega, h1, h2⟩
theorem sk_even {tl : List Tok} {r : Rw} {f l : Nat} (hf : r.f = (f : Int)) (hl : r.l = (l : Int)) (h : (l - f) % 2 = 0) (hle : f ≤ l) : ¬ Sk tl r := by
  unfold Sk
  rw [hf, hl]
  rintro ⟨_, k', e', _⟩
  omega

set_option maxRecDepth 100000 in
set_option maxHeartbeats 2000000 in
theorem zskips_no (a : Option Addr) (c : Nat) (tl : List Tok) (r : Rw) (w : World) (hm : r.minus = false) :
    Calls Try.prog 18 #[.slice a tl.length c, .agg #[.string r.text, .int .i64 r.f, .int .i64 r.l, .bool r.minus]] w fun e w' => IsB (Sk tl r) e ∧ Below w.heap.size w w' := by
  have hn : Hid (¬ Sk tl r) := fun h => by rw [h.1] at hm; cases hm
  obtain ⟨text, rf, rl, rm⟩ := r
  simp only at hm
  subst hm
  go_enter Try.func18, Try.ntmps18
  go_wp2
  go_ret
  exact ⟨IsB.no hn.out, (Below.refl _ _).alloc (Nat.le_refl _) _⟩

set_option maxRecDepth 100000 in
set_option maxHeartbeats 2000000 in
theorem zskips_yes (a : Option Addr) (c : Nat) (tl : List Tok) (r : Rw) (w : World) (h0 : TokRow w a tl) (hm : r.minus = true) (f l : Nat) (hf : r.f = (f : Int)) (hl : r.l = (l : Int)) (hfl : f ≤ l) (hln : l < tl.length) (hn : tl.length ≤ 65536) :
    Calls Try.prog 18 #[.slice a tl.length c, .agg #[.string r.text, .int .i64 r.f, .int .i64 r.l, .bool r.minus]] w fun e w' => IsB (Sk tl r) e ∧ Below w.heap.size w w' := by
  rcases h0 with h0 | ⟨b, off, rfl, hb, hc⟩
  · subst h0; simp at hln
  have HC : Hid (∀ j, j < tl.length → w.cell? ⟨b, off + j * 2, none⟩ = some (.int .i64 (tl.getD j t0).kind) ∧ w.cell? ⟨b, off + j * 2 + 1, none⟩ = some (.string (tl.getD j t0).text)) := hc
  clear hc
  by_cases hev : (l - f) % 2 = 0
  · have HN : Hid (¬ Sk tl r) := sk_even hf hl hev hfl
    obtain ⟨text, rf, rl, rm⟩ := r
    simp only at hm hf hl
    subst hm hf hl
    generalize Sk tl _ = SK at HN ⊢
    by_cases hz : l = f
    · subst hz
      go_enter Try.func18, Try.ntmps18
      go_wp2
      go_ret
      exact ⟨IsB.no HN.out, (Below.refl _ _).alloc (Nat.le_refl _) _⟩
    · have hpos : ¬ ((l : Int) - (f : Int) < 1) := by omega
      have hev2 : (((l : Int) - (f : Int)) % 2 == 0) = true := by rw [beq_iff_eq]; omega
      go_enter Try.func18, Try.ntmps18
      go_wp2
      go_ret
      exact ⟨IsB.no HN.out, (Below.refl _ _).alloc (Nat.le_refl _) _⟩
  · obtain ⟨k, hk⟩ : ∃ k, l = f + 2 * k + 1 := ⟨(l - f - 1) / 2, by omega⟩
    have HE : Hid (Sk tl r ↔ (OpenTo tl f k ∧ (tl.getD (f + 1 + k) t0).kind = 3)) := sk_odd hm hf hl hk
    obtain ⟨text, rf, rl, rm⟩ := r
    simp only at hm hf hl
    subst hm hf hl
    generalize Sk tl _ = SK at HE ⊢
    have hpos : ¬ ((l : Int) - (f : Int) < 1) := by omega
    have hev2 : (((l : Int) - (f : Int)) % 2 == 0) = false := by rw [beq_eq_false_iff_ne]; omega
    have hl1 : l ≤ f + 2 * k + 1 := by omega
    have hl2 : f + 2 * k + 1 ≤ l := by omega
    clear hk hev
    have hbel : Below w.heap.size w (w.alloc (.cells #[.string text, .int .i64 f, .int .i64 l, .bool true] 64)) := (Below.refl _ _).alloc (Nat.le_refl _) _
    have hcs : (w.alloc (.cells #[.string text, .int .i64 f, .int .i64 l, .bool true] 64)).heap[w.heap.size]? = some (.cells #[.string text, .int .i64 f, .int .i64 l, .bool true] 64) := heap_alloc_new _ _
    have hsz1 : (w.alloc (.cells #[.string text, .int .i64 f, .int .i64 l, .bool true] 64)).heap.size = w.heap.size + 1 := by simp
    go_enter Try.func18, Try.ntmps18
    go_wp2
    generalize w.alloc (.cells #[.string text, .int .i64 f, .int .i64 l, .bool true] 64) = w3 at hbel hcs hsz1 ⊢
    have HB3 : Hid (Below w.heap.size w w3) := hbel
    have HCS : Hid (w3.heap[w.heap.size]? = some (.cells #[.string text, .int .i64 f, .int .i64 l, .bool true] 64)) := hcs
    have hsz : w.heap.size < w3.heap.size := by omega
    clear hbel hcs hsz1
    go_loopw [7] (fun o wr => ∃ j : Nat, o = .int .i64 ((j : Int) + 1) ∧ j ≤ k ∧ OpenTo tl f j ∧ Below w3.heap.size w3 wr) (fun o _ => k + 1 - (intOf o).toNat)
    case atStart => exact ⟨0, by simp, Nat.zero_le _, fun j h => by omega, Below.refl _ _⟩
    case round =>
      obtain ⟨j, rfl, hj, ho, hbr⟩ := hrel
      have HO : Hid (OpenTo tl f j) := ho
      have hwr : Below w.heap.size w wr := HB3.out.trans (hbr.mono (by omega))
      have HWR : Hid (Below w.heap.size w wr) := hwr
      have HBR : Hid (Below w3.heap.size w3 wr) := hbr
      have hszr := hbr.size
      have c1 := cellAt (o := 1) ((hbr.block w.heap.size hsz).trans HCS.out) rfl
      simp only [List.getElem_toArray, List.getElem_cons_zero, List.getElem_cons_succ] at c1
      clear ho
      by_cases hlt : j < k
      · have e0 := (hwr.cell (p := ⟨b, off + (f + (j + 1)) * 2, none⟩) hb).trans (HC.out (f + (j + 1)) (by omega)).1
        have e1 := (hwr.cell (p := ⟨b, off + (f + (j + 1)) * 2 + 1, none⟩) hb).trans (HC.out (f + (j + 1)) (by omega)).2
        have hord : f + (j + 1) = f + 1 + j := by omega
        have hidx : tl.getD (f + (j + 1)) t0 = tl.getD (f + 1 + j) t0 := by rw [hord]
        rw [hidx] at e0 e1
        have hnext : Hid (opB (tl.getD (f + 1 + j) t0) = true → OpenTo tl f (j + 1)) := HO.out.succ
        have hstop : Hid (opB (tl.getD (f + 1 + j) t0) = false → ¬ SK) := fun h hs => by
          have := (HE.out.1 hs).1 j hlt
          rw [h] at this; cases this
        clear hord hidx hwr hbr
        generalize tl.getD (f + 1 + j) t0 = t at e0 e1 hnext hstop
        obtain ⟨kind, text2⟩ := t
        simp only at e0 e1
        by_cases hk6 : kind = 6
        · subst hk6
          cases htx : (text2.toList == [40]) with
          | true =>
            have hob : opB ⟨6, text2⟩ = true := by simp only [opB, htx]; rfl
            have HN2 : Hid (OpenTo tl f (j + 1)) := hnext.out hob
            clear hnext hstop hob
            go_wp2
            go_roundw
            case rel => exact ⟨j + 1, by go_num, by omega, HN2.out, HBR.out.alloc hszr _⟩
            case measure => simp [intOf]; omega
          | false =>
            have hob : opB ⟨6, text2⟩ = false := by simp only [opB, htx]; rfl
            have HN2 : Hid (¬ SK) := hstop.out hob
            clear hnext hstop hob
            go_wp2
            go_ret
            exact ⟨IsB.no HN2.out, HWR.out.alloc (by omega) _⟩
        · have hob : opB ⟨kind, text2⟩ = false := by simp [opB, hk6]
          have HN2 : Hid (¬ SK) := hstop.out hob
          have hkb : (kind != 6) = true := by simpa using hk6
          clear hnext hstop hob hk6
          go_wp2
          go_ret
          exact ⟨IsB.no HN2.out, HWR.out.alloc (by omega) _⟩
      · have hjk : j = k := by omega
        subst hjk
        have e0 := (hwr.cell (p := ⟨b, off + (f + 1 + j) * 2, none⟩) hb).trans (HC.out (f + 1 + j) (by omega)).1
        have hdiv : (l - f - 1) / 2 = j := by omega
        have e2 : wr.cell? ⟨b, off + (f + 1 + (l - f - 1) / 2) * 2, none⟩ = some (.int .i64 (tl.getD (f + 1 + j) t0).kind) := by rw [hdiv]; exact e0
        have HE2 : Hid (((tl.getD (f + 1 + j) t0).kind == 3) = true ↔ SK) := by
          unfold Hid; rw [HE.out, beq_iff_eq]; exact ⟨fun h => ⟨HO.out, h⟩, fun h => h.2⟩
        clear hwr hbr hdiv
        generalize (tl.getD (f + 1 + j) t0).kind = kd at e0 e2 HE2
        go_wp2
        go_ret
        exact ⟨IsB.of HE2.out, HWR.out⟩

end Go.Proofs.Qxb6618532a
