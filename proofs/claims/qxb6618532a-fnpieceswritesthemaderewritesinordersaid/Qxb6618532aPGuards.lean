/-
  Seat b6618532a: FnPiecesWritesTheMadeRewritesInOrder: the byte guard and zzPiecesFits: that they come back, and what 'true' tells.
-/
import Derived.Test.Qxb6618532aPData
namespace Go.Proofs.Qxb6618532a
open Go.RowKit

def TextsTo (rl : List Rw) (k : Nat) : Prop := ∀ j, j < k → (rl.getD j r0).text.size ≤ 1048576
theorem TextsTo.zero (rl : List Rw) : TextsTo rl 0 := fun j h => by omega
theorem TextsTo.succ {rl : List Rw} {k : Nat} (h : TextsTo rl k) (hk : (rl.getD k r0).text.size ≤ 1048576) : TextsTo rl (k + 1) := fun j hj => by
  by_cases e : j = k
  · subst e; exact hk
  · exact h j (by omega)

set_option maxHeartbeats 1000000 in
theorem pbytes_any (a0 : Option Addr) (tl : List Tok) (c0 : Nat) (a1 : Option Addr) (rl : List Rw) (c1 : Nat) (i how sf sl : Int) (hasR : Bool) (rf rl' : Int) (pre : ByteArray) (w : World) (h0 : TokRow w a0 tl) (h1 : RwRow w a1 rl) (hpre : pre.size ≤ maxLen) :
    Calls Try.prog 11 #[.slice a0 tl.length c0, .slice a1 rl.length c1, .int .i64 i, .int .i64 how, .int .i64 sf, .int .i64 sl, .bool hasR, .int .i64 rf, .int .i64 rl', .string pre] w fun e w' => SomeBool (TextsTo rl rl.length ∧ pre.size ≤ 1048576) e ∧ w' = w := by
  unfold maxLen at hpre
  by_cases g0 : 1048576 < (tl.length : Int)
  · go_enter Try.func11, Try.ntmps11
    go_wp2
    go_ret
    exact ⟨SomeBool.no, rfl⟩
  go_enter Try.func11, Try.ntmps11
  go_wp2
  go_loop [21, 22] (fun s i => ∃ (x : Int) (k : Nat), k ≤ tl.length ∧ s = .int .i64 x ∧ i = .int .i64 k ∧ 0 ≤ x ∧ x ≤ 1048576) (fun _ i => tl.length - (intOf i).toNat)
  case atStart => exact ⟨_, 0, Nat.zero_le _, rfl, rfl, by omega, by omega⟩
  case round =>
    obtain ⟨x, k, hk, rfl, rfl, hx0, hx1⟩ := hrel
    by_cases hlt : k < tl.length
    · rcases h0 with hr | ⟨b, off, rfl, hb, hc⟩
      · subst hr; simp at hlt
      have hck := (hc k hlt).2
      clear hc
      generalize (tl.getD k t0).text = str at hck
      by_cases g1 : 1048576 < (str.size : Int)
      · go_wp2
        go_ret
        exact ⟨SomeBool.no, rfl⟩
      by_cases g2 : 1048576 < x + (str.size : Int)
      · go_wp2
        go_ret
        exact ⟨SomeBool.no, rfl⟩
      go_wp2
      go_round
      case rel => exact ⟨_, k + 1, by omega, rfl, by go_num, by omega, by omega⟩
      case measure => simp [intOf]; omega
    · by_cases g1 : 1048576 < (rl.length : Int)
      · go_wp2
        go_ret
        exact ⟨SomeBool.no, rfl⟩
      by_cases g2 : 1048576 < x + (rl.length : Int)
      · go_wp2
        go_ret
        exact ⟨SomeBool.no, rfl⟩
      go_wp2
      go_loop [21, 23] (fun s i => ∃ (y : Int) (m : Nat), m ≤ rl.length ∧ s = .int .i64 y ∧ i = .int .i64 m ∧ 0 ≤ y ∧ y ≤ 1048576 ∧ TextsTo rl m) (fun _ i => rl.length - (intOf i).toNat)
      case atStart => exact ⟨_, 0, Nat.zero_le _, rfl, rfl, by omega, by omega, TextsTo.zero _⟩
      case round =>
        obtain ⟨y, m, hm, rfl, rfl, hy0, hy1, hup⟩ := hrel
        by_cases hltm : m < rl.length
        · rcases h1 with hr | ⟨b2, off2, rfl, hb2, hc2⟩
          · subst hr; simp at hltm
          have hcm := (hc2 m hltm).1
          have hnext : Hid ((rl.getD m r0).text.size ≤ 1048576 → TextsTo rl (m + 1)) := hup.succ
          clear hc2 hup
          generalize (rl.getD m r0).text = str at hcm hnext
          by_cases g5 : 1048576 < (str.size : Int)
          · go_wp2
            go_ret
            exact ⟨SomeBool.no, rfl⟩
          by_cases g6 : 1048576 < y + (str.size : Int)
          · go_wp2
            go_ret
            exact ⟨SomeBool.no, rfl⟩
          go_wp2
          go_round
          case rel => exact ⟨_, m + 1, by omega, rfl, by go_num, by omega, by omega, hnext.out (by omega)⟩
          case measure => simp [intOf]; omega
        · have hme : m = rl.length := by omega
          have HU : Hid (TextsTo rl rl.length) := by subst hme; exact hup
          clear hup hme
          by_cases g5 : 1048576 < (pre.size : Int)
          · go_wp2
            go_ret
            exact ⟨SomeBool.no, rfl⟩
          by_cases g6 : 1048576 < y + (pre.size : Int)
          · go_wp2
            go_ret
            exact ⟨SomeBool.no, rfl⟩
          go_wp2
          go_ret
          exact ⟨SomeBool.yes ⟨HU.out, by omega⟩ _, rfl⟩

theorem below_drewN2 {B : Nat} {w w' : World} (h : Below B w w') (n : Nat) : Below B w (w'.drewN n) := by
  induction n with
  | zero => exact h
  | succ n ih => exact ih.drew

/-- The owners nest as compareRewrites orders them. -/
def NestTo (how : Int) (rl : List Rw) (k : Nat) : Prop := ∀ j, j < k →
  if how = 0 then winB (rl.getD (j + 1) r0).f (rl.getD (j + 1) r0).l (rl.getD j r0).f (rl.getD j r0).l = true else winB (rl.getD j r0).f (rl.getD j r0).l (rl.getD (j + 1) r0).f (rl.getD (j + 1) r0).l = true
theorem NestTo.zero (how : Int) (rl : List Rw) : NestTo how rl 0 := fun j h => by omega
theorem NestTo.succ {how : Int} {rl : List Rw} {k : Nat} (h : NestTo how rl k) (hk : if how = 0 then winB (rl.getD (k + 1) r0).f (rl.getD (k + 1) r0).l (rl.getD k r0).f (rl.getD k r0).l = true else winB (rl.getD k r0).f (rl.getD k r0).l (rl.getD (k + 1) r0).f (rl.getD (k + 1) r0).l = true) : NestTo how rl (k + 1) := fun j hj => by
  by_cases e : j = k
  · subst e; exact hk
  · exact h j (by omega)
/-- A minus rewrite's owner are tokens of the statement. -/
def MinusTo (n : Nat) (rl : List Rw) (k : Nat) : Prop := ∀ j, j < k → (rl.getD j r0).minus = true → 0 ≤ (rl.getD j r0).f ∧ (rl.getD j r0).f ≤ (rl.getD j r0).l ∧ (rl.getD j r0).l < n
theorem MinusTo.zero (n : Nat) (rl : List Rw) : MinusTo n rl 0 := fun j h => by omega
theorem MinusTo.succ {n : Nat} {rl : List Rw} {k : Nat} (h : MinusTo n rl k) (hk : (rl.getD k r0).minus = true → 0 ≤ (rl.getD k r0).f ∧ (rl.getD k r0).f ≤ (rl.getD k r0).l ∧ (rl.getD k r0).l < n) : MinusTo n rl (k + 1) := fun j hj => by
  by_cases e : j = k
  · subst e; exact hk
  · exact h j (by omega)

structure Fits (tl : List Tok) (rl : List Rw) (i how : Int) (pre : ByteArray) : Prop where
  nt : tl.length ≤ 65536
  nr : rl.length ≤ 65536
  i0 : 0 ≤ i
  i1 : i < tl.length
  hw : how = 0 ∨ how = 2
  nest : ∀ j, j + 1 < rl.length → if how = 0 then winB (rl.getD (j + 1) r0).f (rl.getD (j + 1) r0).l (rl.getD j r0).f (rl.getD j r0).l = true else winB (rl.getD j r0).f (rl.getD j r0).l (rl.getD (j + 1) r0).f (rl.getD (j + 1) r0).l = true
  minus : ∀ j, j < rl.length → (rl.getD j r0).minus = true → 0 ≤ (rl.getD j r0).f ∧ (rl.getD j r0).f ≤ (rl.getD j r0).l ∧ (rl.getD j r0).l < tl.length

set_option maxRecDepth 100000 in
set_option maxHeartbeats 2000000 in
theorem fits0 (a0 : Option Addr) (tl : List Tok) (c0 : Nat) (a1 : Option Addr) (rl : List Rw) (c1 : Nat) (i : Int) (pre : ByteArray) (w : World) (h0 : TokRow w a0 tl) (h1 : RwRow w a1 rl)
    (g0 : ¬ 65536 < (tl.length : Int)) (g1 : ¬ 65536 < (rl.length : Int)) (g2 : ¬ 1048576 < (pre.size : Int)) (gi : ¬ i < 0) (gi2 : ¬ (tl.length : Int) ≤ i) :
    Calls Try.prog 12 #[.slice a0 tl.length c0, .slice a1 rl.length c1, .int .i64 i, .int .i64 0, .string pre] w fun e w' => SomeBool (Fits tl rl i 0 pre) e ∧ Below w.heap.size w w' := by
  have H0 : Hid (TokRow w a0 tl) := h0
  have H1 : Hid (RwRow w a1 rl) := h1
  clear h0 h1
  go_enter Try.func12, Try.ntmps12
  go_wp2_with (first | (go_at_call 23; refine (addTokens_any _ _ tl _ _ H0.out).mono ?_; rintro e w ⟨⟨y, rfl⟩, rfl⟩) | (go_at_call 24; refine (addRewrites_any _ _ rl _ _ H1.out).mono ?_; rintro e w ⟨⟨y2, rfl⟩, rfl⟩))
  · go_ret
    exact ⟨SomeBool.no, Below.refl _ _⟩
  · go_ret
    exact ⟨SomeBool.no, Below.refl _ _⟩
  go_loopw [12] (fun i wr => ∃ k : Nat, i = .int .i64 ((k : Int) + 1) ∧ k ≤ rl.length ∧ NestTo 0 rl k ∧ Below w.heap.size w wr) (fun i _ => rl.length + 1 - (intOf i).toNat)
  case atStart => exact ⟨0, by simp, Nat.zero_le _, NestTo.zero _ _, Below.refl _ _⟩
  case round =>
    obtain ⟨k, rfl, hk, hnest, hbel⟩ := hrel
    by_cases hlt : k + 1 < rl.length
    · rcases H1.out.below hbel with hr | ⟨b, off, rfl, hb, hc⟩
      · subst hr; simp at hlt
      obtain ⟨p0, p1, p2, p3⟩ := hc k (by omega)
      obtain ⟨q0, q1, q2, q3⟩ := hc (k + 1) hlt
      have hnext : Hid (winB (rl.getD (k + 1) r0).f (rl.getD (k + 1) r0).l (rl.getD k r0).f (rl.getD k r0).l = true → NestTo 0 rl (k + 1)) := fun h => hnest.succ (by simpa using h)
      have HB : Hid (Below w.heap.size w wr) := hbel
      have hsz := hbel.size
      clear hc hbel hnest
      generalize rl.getD k r0 = r at p0 p1 p2 p3 hnext
      generalize rl.getD (k + 1) r0 = q at q0 q1 q2 q3 hnext
      obtain ⟨rt, rf, rl2, rm⟩ := r
      obtain ⟨qt, qf, ql2, qm⟩ := q
      simp only at p0 p1 p2 p3 q0 q1 q2 q3 hnext
      go_wp2_with (go_at_call 17; refine (within_any _ _ _ _ _).mono ?_; rintro e w2 ⟨rfl, rfl⟩)
      · go_ret
        exact ⟨SomeBool.no, (HB.out.alloc hsz _).alloc (by simp; omega) _⟩
      · have hw0 : (!winB qf ql2 rf rl2) = false := by assumption
        have hw : winB qf ql2 rf rl2 = true := by simpa using hw0
        go_roundw
        case rel => exact ⟨k + 1, by go_num, by omega, hnext.out hw, (HB.out.alloc hsz _).alloc (by simp; omega) _⟩
        case measure => simp [intOf]; omega
    · have HN : Hid (∀ j, j + 1 < rl.length → if (0 : Int) = 0 then winB (rl.getD (j + 1) r0).f (rl.getD (j + 1) r0).l (rl.getD j r0).f (rl.getD j r0).l = true else winB (rl.getD j r0).f (rl.getD j r0).l (rl.getD (j + 1) r0).f (rl.getD (j + 1) r0).l = true) := fun j hj => hnest j (by omega)
      obtain ⟨wo, rfl⟩ : ∃ wo : World, wo = wr := ⟨_, rfl⟩
      have HB : Hid (Below w.heap.size w wo) := hbel
      clear hnest hbel
      go_wp2
      go_loopw [15] (fun i wr => ∃ k : Nat, i = .int .i64 k ∧ k ≤ rl.length ∧ MinusTo tl.length rl k ∧ Below w.heap.size w wr) (fun i _ => rl.length - (intOf i).toNat)
      case atStart => exact ⟨0, rfl, Nat.zero_le _, MinusTo.zero _ _, HB.out⟩
      case round =>
        obtain ⟨m, rfl, hm, hmin, hbel⟩ := hrel
        have HB2 : Hid (Below w.heap.size w wr) := hbel
        by_cases hltm : m < rl.length
        · rcases H1.out.below hbel with hr | ⟨b, off, rfl, hb, hc⟩
          · subst hr; simp at hltm
          obtain ⟨p0, p1, p2, p3⟩ := hc m hltm
          have hnext : Hid (((rl.getD m r0).minus = true → 0 ≤ (rl.getD m r0).f ∧ (rl.getD m r0).f ≤ (rl.getD m r0).l ∧ (rl.getD m r0).l < tl.length) → MinusTo tl.length rl (m + 1)) := fun h => hmin.succ h
          clear hc hbel hmin
          generalize rl.getD m r0 = r at p0 p1 p2 p3 hnext
          obtain ⟨rt, rf, rl2, rm⟩ := r
          simp only at p0 p1 p2 p3 hnext
          cases rm with
          | false =>
            have HN2 : Hid (MinusTo tl.length rl (m + 1)) := hnext.out (by simp)
            clear hnext
            go_wp2
            go_quiet (fail)
            go_wp2
            go_roundw
            case rel => exact ⟨m + 1, by go_num, by omega, HN2.out, below_drewN2 HB2.out _⟩
            case measure => simp [intOf]; omega
          | true =>
            by_cases e1 : rf < 0
            · have e1b : decide (rf < 0) = true := by simpa using e1
              go_wp2
              go_quiet (fail)
              go_wp2
              go_ret
              exact ⟨SomeBool.no, below_drewN2 HB2.out _⟩
            have e1b : decide (rf < 0) = false := by simpa using e1
            by_cases e2 : rl2 < rf
            · have e2b : decide (rl2 < rf) = true := by simpa using e2
              go_wp2
              go_quiet (fail)
              go_wp2
              go_ret
              exact ⟨SomeBool.no, below_drewN2 HB2.out _⟩
            have e2b : decide (rl2 < rf) = false := by simpa using e2
            by_cases e3 : (tl.length : Int) ≤ rl2
            · go_wp2
              go_quiet (fail)
              go_wp2
              go_ret
              exact ⟨SomeBool.no, below_drewN2 HB2.out _⟩
            have HN2 : Hid (MinusTo tl.length rl (m + 1)) := hnext.out (fun _ => ⟨by omega, by omega, by omega⟩)
            clear hnext
            go_wp2
            go_quiet (fail)
            go_wp2
            go_roundw
            case rel => exact ⟨m + 1, by go_num, by omega, HN2.out, below_drewN2 HB2.out _⟩
            case measure => simp [intOf]; omega
        · have hme : m = rl.length := by omega
          subst hme
          have HM : Hid (MinusTo tl.length rl rl.length) := hmin
          clear hmin hbel
          go_wp2
          go_ret
          exact ⟨SomeBool.yes ⟨by omega, by omega, by omega, by omega, by first | exact .inl rfl | exact .inr rfl, HN.out, HM.out⟩ _, HB2.out⟩

set_option maxRecDepth 100000 in
set_option maxHeartbeats 2000000 in
theorem fits2 (a0 : Option Addr) (tl : List Tok) (c0 : Nat) (a1 : Option Addr) (rl : List Rw) (c1 : Nat) (i : Int) (pre : ByteArray) (w : World) (h0 : TokRow w a0 tl) (h1 : RwRow w a1 rl)
    (g0 : ¬ 65536 < (tl.length : Int)) (g1 : ¬ 65536 < (rl.length : Int)) (g2 : ¬ 1048576 < (pre.size : Int)) (gi : ¬ i < 0) (gi2 : ¬ (tl.length : Int) ≤ i) :
    Calls Try.prog 12 #[.slice a0 tl.length c0, .slice a1 rl.length c1, .int .i64 i, .int .i64 2, .string pre] w fun e w' => SomeBool (Fits tl rl i 2 pre) e ∧ Below w.heap.size w w' := by
  have H0 : Hid (TokRow w a0 tl) := h0
  have H1 : Hid (RwRow w a1 rl) := h1
  clear h0 h1
  go_enter Try.func12, Try.ntmps12
  go_wp2_with (first | (go_at_call 23; refine (addTokens_any _ _ tl _ _ H0.out).mono ?_; rintro e w ⟨⟨y, rfl⟩, rfl⟩) | (go_at_call 24; refine (addRewrites_any _ _ rl _ _ H1.out).mono ?_; rintro e w ⟨⟨y2, rfl⟩, rfl⟩))
  · go_ret
    exact ⟨SomeBool.no, Below.refl _ _⟩
  · go_ret
    exact ⟨SomeBool.no, Below.refl _ _⟩
  go_loopw [12] (fun i wr => ∃ k : Nat, i = .int .i64 ((k : Int) + 1) ∧ k ≤ rl.length ∧ NestTo 2 rl k ∧ Below w.heap.size w wr) (fun i _ => rl.length + 1 - (intOf i).toNat)
  case atStart => exact ⟨0, by simp, Nat.zero_le _, NestTo.zero _ _, Below.refl _ _⟩
  case round =>
    obtain ⟨k, rfl, hk, hnest, hbel⟩ := hrel
    by_cases hlt : k + 1 < rl.length
    · rcases H1.out.below hbel with hr | ⟨b, off, rfl, hb, hc⟩
      · subst hr; simp at hlt
      obtain ⟨p0, p1, p2, p3⟩ := hc k (by omega)
      obtain ⟨q0, q1, q2, q3⟩ := hc (k + 1) hlt
      have hnext : Hid (winB (rl.getD k r0).f (rl.getD k r0).l (rl.getD (k + 1) r0).f (rl.getD (k + 1) r0).l = true → NestTo 2 rl (k + 1)) := fun h => hnest.succ (by simpa using h)
      have HB : Hid (Below w.heap.size w wr) := hbel
      have hsz := hbel.size
      clear hc hbel hnest
      generalize rl.getD k r0 = r at p0 p1 p2 p3 hnext
      generalize rl.getD (k + 1) r0 = q at q0 q1 q2 q3 hnext
      obtain ⟨rt, rf, rl2, rm⟩ := r
      obtain ⟨qt, qf, ql2, qm⟩ := q
      simp only at p0 p1 p2 p3 q0 q1 q2 q3 hnext
      go_wp2_with (go_at_call 17; refine (within_any _ _ _ _ _).mono ?_; rintro e w2 ⟨rfl, rfl⟩)
      · go_ret
        exact ⟨SomeBool.no, (HB.out.alloc hsz _).alloc (by simp; omega) _⟩
      · have hw0 : (!winB rf rl2 qf ql2) = false := by assumption
        have hw : winB rf rl2 qf ql2 = true := by simpa using hw0
        go_roundw
        case rel => exact ⟨k + 1, by go_num, by omega, hnext.out hw, (HB.out.alloc hsz _).alloc (by simp; omega) _⟩
        case measure => simp [intOf]; omega
    · have HN : Hid (∀ j, j + 1 < rl.length → if (2 : Int) = 0 then winB (rl.getD (j + 1) r0).f (rl.getD (j + 1) r0).l (rl.getD j r0).f (rl.getD j r0).l = true else winB (rl.getD j r0).f (rl.getD j r0).l (rl.getD (j + 1) r0).f (rl.getD (j + 1) r0).l = true) := fun j hj => hnest j (by omega)
      obtain ⟨wo, rfl⟩ : ∃ wo : World, wo = wr := ⟨_, rfl⟩
      have HB : Hid (Below w.heap.size w wo) := hbel
      clear hnest hbel
      go_wp2
      go_loopw [15] (fun i wr => ∃ k : Nat, i = .int .i64 k ∧ k ≤ rl.length ∧ MinusTo tl.length rl k ∧ Below w.heap.size w wr) (fun i _ => rl.length - (intOf i).toNat)
      case atStart => exact ⟨0, rfl, Nat.zero_le _, MinusTo.zero _ _, HB.out⟩
      case round =>
        obtain ⟨m, rfl, hm, hmin, hbel⟩ := hrel
        have HB2 : Hid (Below w.heap.size w wr) := hbel
        by_cases hltm : m < rl.length
        · rcases H1.out.below hbel with hr | ⟨b, off, rfl, hb, hc⟩
          · subst hr; simp at hltm
          obtain ⟨p0, p1, p2, p3⟩ := hc m hltm
          have hnext : Hid (((rl.getD m r0).minus = true → 0 ≤ (rl.getD m r0).f ∧ (rl.getD m r0).f ≤ (rl.getD m r0).l ∧ (rl.getD m r0).l < tl.length) → MinusTo tl.length rl (m + 1)) := fun h => hmin.succ h
          clear hc hbel hmin
          generalize rl.getD m r0 = r at p0 p1 p2 p3 hnext
          obtain ⟨rt, rf, rl2, rm⟩ := r
          simp only at p0 p1 p2 p3 hnext
          cases rm with
          | false =>
            have HN2 : Hid (MinusTo tl.length rl (m + 1)) := hnext.out (by simp)
            clear hnext
            go_wp2
            go_quiet (fail)
            go_wp2
            go_roundw
            case rel => exact ⟨m + 1, by go_num, by omega, HN2.out, below_drewN2 HB2.out _⟩
            case measure => simp [intOf]; omega
          | true =>
            by_cases e1 : rf < 0
            · have e1b : decide (rf < 0) = true := by simpa using e1
              go_wp2
              go_quiet (fail)
              go_wp2
              go_ret
              exact ⟨SomeBool.no, below_drewN2 HB2.out _⟩
            have e1b : decide (rf < 0) = false := by simpa using e1
            by_cases e2 : rl2 < rf
            · have e2b : decide (rl2 < rf) = true := by simpa using e2
              go_wp2
              go_quiet (fail)
              go_wp2
              go_ret
              exact ⟨SomeBool.no, below_drewN2 HB2.out _⟩
            have e2b : decide (rl2 < rf) = false := by simpa using e2
            by_cases e3 : (tl.length : Int) ≤ rl2
            · go_wp2
              go_quiet (fail)
              go_wp2
              go_ret
              exact ⟨SomeBool.no, below_drewN2 HB2.out _⟩
            have HN2 : Hid (MinusTo tl.length rl (m + 1)) := hnext.out (fun _ => ⟨by omega, by omega, by omega⟩)
            clear hnext
            go_wp2
            go_quiet (fail)
            go_wp2
            go_roundw
            case rel => exact ⟨m + 1, by go_num, by omega, HN2.out, below_drewN2 HB2.out _⟩
            case measure => simp [intOf]; omega
        · have hme : m = rl.length := by omega
          subst hme
          have HM : Hid (MinusTo tl.length rl rl.length) := hmin
          clear hmin hbel
          go_wp2
          go_ret
          exact ⟨SomeBool.yes ⟨by omega, by omega, by omega, by omega, by first | exact .inl rfl | exact .inr rfl, HN.out, HM.out⟩ _, HB2.out⟩

set_option maxRecDepth 100000 in
set_option maxHeartbeats 2000000 in
theorem pfits_any (a0 : Option Addr) (tl : List Tok) (c0 : Nat) (a1 : Option Addr) (rl : List Rw) (c1 : Nat) (i how : Int) (pre : ByteArray) (w : World) (h0 : TokRow w a0 tl) (h1 : RwRow w a1 rl) :
    Calls Try.prog 12 #[.slice a0 tl.length c0, .slice a1 rl.length c1, .int .i64 i, .int .i64 how, .string pre] w fun e w' => SomeBool (Fits tl rl i how pre) e ∧ Below w.heap.size w w' := by
  have H0 : Hid (TokRow w a0 tl) := h0
  have H1 : Hid (RwRow w a1 rl) := h1
  clear h0 h1
  by_cases g0 : 65536 < (tl.length : Int)
  · go_enter Try.func12, Try.ntmps12
    go_wp2
    go_ret
    exact ⟨SomeBool.no, Below.refl _ _⟩
  by_cases g1 : 65536 < (rl.length : Int)
  · go_enter Try.func12, Try.ntmps12
    go_wp2
    go_ret
    exact ⟨SomeBool.no, Below.refl _ _⟩
  by_cases g2 : 1048576 < (pre.size : Int)
  · go_enter Try.func12, Try.ntmps12
    go_wp2
    go_ret
    exact ⟨SomeBool.no, Below.refl _ _⟩
  by_cases gi : i < 0
  · go_enter Try.func12, Try.ntmps12
    go_wp2_with (first | (go_at_call 23; refine (addTokens_any _ _ tl _ _ H0.out).mono ?_; rintro e w ⟨⟨y, rfl⟩, rfl⟩) | (go_at_call 24; refine (addRewrites_any _ _ rl _ _ H1.out).mono ?_; rintro e w ⟨⟨y2, rfl⟩, rfl⟩))
    all_goals
      go_ret
      exact ⟨SomeBool.no, Below.refl _ _⟩
  by_cases gi2 : (tl.length : Int) ≤ i
  · go_enter Try.func12, Try.ntmps12
    go_wp2_with (first | (go_at_call 23; refine (addTokens_any _ _ tl _ _ H0.out).mono ?_; rintro e w ⟨⟨y, rfl⟩, rfl⟩) | (go_at_call 24; refine (addRewrites_any _ _ rl _ _ H1.out).mono ?_; rintro e w ⟨⟨y2, rfl⟩, rfl⟩))
    all_goals
      go_ret
      exact ⟨SomeBool.no, Below.refl _ _⟩
  by_cases hh0 : how = 0
  · subst hh0
    exact fits0 a0 tl c0 a1 rl c1 i pre w H0.out H1.out g0 g1 g2 gi gi2
  by_cases hh2 : how = 2
  · subst hh2
    exact fits2 a0 tl c0 a1 rl c1 i pre w H0.out H1.out g0 g1 g2 gi gi2
  have b0 : (how != 0) = true := by simpa using hh0
  have b2 : (how != 2) = true := by simpa using hh2
  clear hh0 hh2
  go_enter Try.func12, Try.ntmps12
  go_wp2_with (first | (go_at_call 23; refine (addTokens_any _ _ tl _ _ H0.out).mono ?_; rintro e w ⟨⟨y, rfl⟩, rfl⟩) | (go_at_call 24; refine (addRewrites_any _ _ rl _ _ H1.out).mono ?_; rintro e w ⟨⟨y2, rfl⟩, rfl⟩))
  all_goals
    go_ret
    exact ⟨SomeBool.no, Below.refl _ _⟩

end Go.Proofs.Qxb6618532a
