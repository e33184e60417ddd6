/-
  Seat b6618635aD: rows of bytes, the decoder, and the small functions on the road: contracts.
-/
import Derived.Test.Qxb6618635aDoorShelf
import Derived.Test.Qxb6618635aDoorPlain
import Derived.WalkKit
import Derived.WalkSpells
import Derived.Outline
import Derived.BigQuiet
import Derived.OwnWalk
import Derived.Deep.OwnRows
import Derived.Lib.VarintBits
namespace Go.Proofs.Qxb6618635aDoor
open Go.RowKit

theorem hide {p : Prop} (h : p) : Hid p := h
theorem unhide {p : Prop} (h : Hid p) : p := h

/-- A slice of bytes that can be read; its row lies in a block below B. -/
def BRow (B : Nat) (w : World) (a : Option Addr) (l : List UInt8) : Prop :=
  l = [] ∨ ∃ g o, a = some ⟨g, o, none⟩ ∧ g < B ∧ ∀ j, j < l.length → w.cell? ⟨g, o + j, none⟩ = some (.int .u8 ((l.getD j 0).toNat : Int))
theorem BRow.below {B : Nat} {w w' : World} {a : Option Addr} {l : List UInt8} (h : BRow B w a l) (hb : Below B w w') : BRow B w' a l := by
  rcases h with h | ⟨g, o, rfl, hg, hc⟩
  · exact .inl h
  · exact .inr ⟨g, o, rfl, hg, fun j hj => (hb.cell (p := ⟨g, o + j, none⟩) hg).trans (hc j hj)⟩
theorem BRow.mono {B B' : Nat} {w : World} {a : Option Addr} {l : List UInt8} (h : BRow B w a l) (hb : B ≤ B') : BRow B' w a l := by
  rcases h with h | ⟨g, o, rfl, hg, hc⟩
  · exact .inl h
  · exact .inr ⟨g, o, rfl, by omega, hc⟩

/-- The decoder in block D: its bytes, its error. -/
def DecAt (w : World) (D : Nat) (l : List UInt8) (er : Value) : Prop :=
  ∃ a c, w.heap[D]? = some (.cells #[.slice a l.length c, er] 42 (0, 0)) ∧ l.length ≤ c ∧ BRow D w a l
/-- Nothing but block D has turned, and no block is new. -/
structure Only (D : Nat) (w w' : World) : Prop where
  below : Below D w w'
  size : w'.heap.size = w.heap.size
  above : ∀ k, D < k → w'.heap[k]? = w.heap[k]?
theorem Only.refl (D : Nat) (w : World) : Only D w w := ⟨Below.refl _ _, rfl, fun _ _ => rfl⟩
theorem Only.set (D o : Nat) (w : World) (v : Value) : Only D w (w.setCell ⟨D, o, none⟩ v) :=
  ⟨(Below.refl _ _).setCell (p := ⟨D, o, none⟩) (Nat.le_refl _) v, by simp, fun k hk => Below.heap_setCell w ⟨D, o, none⟩ v k (by show k ≠ D; omega)⟩

theorem uv_any (B : Nat) (a : Option Addr) (l : List UInt8) (c : Nat) (w : World) (h : BRow B w a l) :
    Calls Tryd.prog 21 #[.slice a l.length c] w fun e w' => e = .returned (.tuple #[.int .u64 (Lib.uvarintDec l).1, .int .i64 (Lib.uvarintDec l).2]) ∧ w' = w := by
  rcases h with rfl | ⟨g, o, rfl, _, hc⟩
  · exact Tryd.binary_Uvarint_empty a c w
  · exact Tryd.binary_Uvarint g o l.length c l w rfl (fun j hj => by
      have := hc j hj
      rwa [show l.getD j 0 = l[j] from by simp [List.getD, hj]] at this)

theorem heap_set {w : World} {D : Nat} {cs : Array Value} {t : TypeId} {f : Nat × Nat} (h : w.heap[D]? = some (.cells cs t f)) (o : Nat) (v : Value) :
    (w.setCell ⟨D, o, none⟩ v).heap[D]? = some (.cells (cs.setIfInBounds o v) t f) := by
  simp [World.setCell, Array.getElem?_modify, h]
theorem below_set {D o : Nat} {w : World} {v : Value} {a : Option Addr} {l : List UInt8} (h : BRow D w a l) : BRow D (w.setCell ⟨D, o, none⟩ v) a l := h.below (Only.set D o w v).below

set_option maxRecDepth 100000 in
set_option maxHeartbeats 1000000 in
theorem uvarint_bad (D : Nat) (l : List UInt8) (U : TypeId) (E : Value) (w : World) (hd : DecAt w D l .nilIface) (hE : w.cell? ⟨0, 0, none⟩ = some (.iface U E)) (h1 : (Lib.uvarintDec l).2 ≤ 0) :
    Calls Tryd.prog 18 #[.pointer (some ⟨D, 0, none⟩)] w fun e w' => e = .returned (.int .u64 0) ∧ DecAt w' D l (.iface U E) ∧ Only D w w' := by
  obtain ⟨a, c, hh, hc, hr⟩ := hd
  have e0 : w.cell? ⟨D, 0, none⟩ = some (.slice a l.length c) := by simp [World.cell?, hh]
  have e1 : w.cell? ⟨D, 1, none⟩ = some .nilIface := by simp [World.cell?, hh]
  have f1 : w.frozen? ⟨D, 1, none⟩ = false := by simp [World.frozen?, hh]
  have hcon := uv_any D a l c w hr
  have HH := hide hh
  have HR := hide hr
  generalize Lib.uvarintDec l = d at hcon h1
  obtain ⟨dv, dn⟩ := d
  simp only at hcon h1
  clear hh hr
  go_enter Tryd.func18, Tryd.ntmps18
  go_wp2_with (go_at_call 21; refine hcon.mono ?_; rintro e w ⟨rfl, rfl⟩)
  go_ret
  exact ⟨rfl, ⟨a, c, heap_set (unhide HH) 1 _, hc, below_set (unhide HR)⟩, Only.set D 1 _ _⟩

set_option maxRecDepth 100000 in
set_option maxHeartbeats 1000000 in
theorem uvarint_failed (D : Nat) (l : List UInt8) (U : TypeId) (E : Value) (w : World) (hd : DecAt w D l (.iface U E)) :
    Calls Tryd.prog 18 #[.pointer (some ⟨D, 0, none⟩)] w fun e w' => e = .returned (.int .u64 0) ∧ w' = w := by
  obtain ⟨a, c, hh, hc, hr⟩ := hd
  have e1 : w.cell? ⟨D, 1, none⟩ = some (.iface U E) := by simp [World.cell?, hh]
  clear hh hr
  go_enter Tryd.func18, Tryd.ntmps18
  go_wp2
  go_ret
  exact ⟨rfl, rfl⟩

theorem drop_row {D : Nat} {w : World} {a : Option Addr} {l : List UInt8} {c : Nat} (h : BRow D w a l) (n : Nat) (hn : n < l.length) (hc : l.length ≤ c) : BRow D w (if c = n then a else a.map (·.add n)) (l.drop n) := by
  rcases h with rfl | ⟨g, o, rfl, hg, hx⟩
  · simp at hn
  · right
    refine ⟨g, o + n, ?_, hg, fun j hj => ?_⟩
    · rw [if_neg (by omega)]; simp [Addr.add_lit]
    · have hj' : n + j < l.length := by simp at hj; omega
      have := hx (n + j) hj'
      rw [Nat.add_assoc, this]
      simp [List.getD]
theorem drop_row' {D : Nat} {w : World} {a : Option Addr} {l : List UInt8} {c : Nat} (h : BRow D w a l) (n : Nat) (hn : n ≤ l.length) (hc : l.length ≤ c) : BRow D w (if c = n then a else a.map (·.add n)) (l.drop n) := by
  by_cases e : n = l.length
  · exact .inl (by rw [e]; simp)
  · exact drop_row h n (by omega) hc

theorem dec_cut {D : Nat} {w : World} {a : Option Addr} {l : List UInt8} {c : Nat} {er : Value} (hh : w.heap[D]? = some (.cells #[.slice a l.length c, er] 42 (0, 0))) (hr : BRow D w a l) (n : Nat) (hn : n ≤ l.length) (hc : l.length ≤ c) (h : ¬ c = n) :
    DecAt (w.setCell ⟨D, 0, none⟩ (.slice (Option.map (fun x => x.add n) a) (l.length - n) (c - n))) D (l.drop n) er := by
  refine ⟨Option.map (fun x => x.add n) a, c - n, (heap_set hh 0 _).trans (by simp), by simp; omega, ?_⟩
  have := drop_row' hr n hn hc
  rw [if_neg h] at this
  exact below_set this
theorem dec_cut_all {D : Nat} {w : World} {a : Option Addr} {l : List UInt8} {c : Nat} {er : Value} (hh : w.heap[D]? = some (.cells #[.slice a l.length c, er] 42 (0, 0))) (n : Nat) (hn : n ≤ l.length) (hc : l.length ≤ c) (h : c = n) :
    DecAt (w.setCell ⟨D, 0, none⟩ (.slice a (l.length - n) 0)) D (l.drop n) er := by
  have e : l.drop n = [] := by simp; omega
  refine ⟨a, 0, (heap_set hh 0 _).trans (by simp), by rw [e]; simp, .inl e⟩

set_option maxRecDepth 100000 in
set_option maxHeartbeats 1000000 in
theorem uvarint_good (D : Nat) (l : List UInt8) (t v : Nat) (w : World) (hd : DecAt w D l .nilIface) (hh1 : Head l t v) :
    Calls Tryd.prog 18 #[.pointer (some ⟨D, 0, none⟩)] w fun e w' => e = .returned (.int .u64 v) ∧ DecAt w' D (l.drop (t + 1)) .nilIface ∧ Only D w w' := by
  obtain ⟨a, c, hh, hc, hr⟩ := hd
  have e0 : w.cell? ⟨D, 0, none⟩ = some (.slice a l.length c) := by simp [World.cell?, hh]
  have e1 : w.cell? ⟨D, 1, none⟩ = some .nilIface := by simp [World.cell?, hh]
  have f0 : w.frozen? ⟨D, 0, none⟩ = false := by simp [World.frozen?, hh]
  have hcon := uv_any D a l c w hr
  have HH := hide hh
  have HR := hide hr
  rw [hh1.hv, hh1.n] at hcon
  have ht := hh1.lt
  have h1 : (0 : Int) ≤ ((t + 1 : Nat) : Int) := by omega
  have h2 : ((t + 1 : Nat) : Int) ≤ (l.length : Int) := by omega
  have h3 : ¬ ((t + 1 : Nat) : Int) ≤ 0 := by omega
  generalize hn : t + 1 = n at hcon h1 h2 h3
  have HN := hide hn
  clear hh hr hn hh1
  go_enter Tryd.func18, Tryd.ntmps18
  go_wp2_with (go_at_call 21; refine hcon.mono ?_; rintro e w ⟨rfl, rfl⟩)
  · go_ret
    refine ⟨rfl, ?_, Only.set D 0 _ _⟩
    exact dec_cut_all (unhide HH) n (by omega) hc (by assumption)
  · go_ret
    refine ⟨rfl, ?_, Only.set D 0 _ _⟩
    exact dec_cut (unhide HH) (unhide HR) n (by omega) hc (by assumption)

theorem zuvarint {Q : Ending → World → Prop} (D : Nat) (w : World) (h : Calls Tryd.prog 18 #[.pointer (some ⟨D, 0, none⟩)] w fun e w' => ∃ v : Nat, e = .returned (.int .u64 v) ∧ Q e w') :
    Calls Tryd.prog 8 #[.pointer (some ⟨D, 0, none⟩)] w fun e w' => ∃ v : Nat, e = .returned (.int .u64 v) ∧ Q e w' := by
  have H := hide h
  clear h
  go_enter Tryd.func8, Tryd.ntmps8
  go_wp2_with (go_at_call 18; refine (unhide H).mono ?_; rintro e w1 ⟨v, rfl, hq⟩; have HQ := hide hq; clear hq)
  go_ret
  exact ⟨_, rfl, unhide HQ⟩

/-! ### byte -/
set_option maxRecDepth 100000 in
set_option maxHeartbeats 1000000 in
theorem byte_failed (D : Nat) (l : List UInt8) (U : TypeId) (E : Value) (w : World) (hd : DecAt w D l (.iface U E)) :
    Calls Tryd.prog 20 #[.pointer (some ⟨D, 0, none⟩)] w fun e w' => e = .returned (.int .u8 0) ∧ w' = w := by
  obtain ⟨a, c, hh, hc, hr⟩ := hd
  have e1 : w.cell? ⟨D, 1, none⟩ = some (.iface U E) := by simp [World.cell?, hh]
  clear hh hr
  go_enter Tryd.func20, Tryd.ntmps20
  go_wp2
  go_ret
  exact ⟨rfl, rfl⟩

set_option maxRecDepth 100000 in
set_option maxHeartbeats 1000000 in
theorem byte_empty (D : Nat) (U : TypeId) (E : Value) (w : World) (hd : DecAt w D [] .nilIface) (hE : w.cell? ⟨0, 0, none⟩ = some (.iface U E)) :
    Calls Tryd.prog 20 #[.pointer (some ⟨D, 0, none⟩)] w fun e w' => e = .returned (.int .u8 0) ∧ DecAt w' D [] (.iface U E) ∧ Only D w w' := by
  obtain ⟨a, c, hh, hc, hr⟩ := hd
  have e0 : w.cell? ⟨D, 0, none⟩ = some (.slice a 0 c) := by simp [World.cell?, hh]
  have e1 : w.cell? ⟨D, 1, none⟩ = some .nilIface := by simp [World.cell?, hh]
  have f1 : w.frozen? ⟨D, 1, none⟩ = false := by simp [World.frozen?, hh]
  have HH := hide hh
  clear hh hr
  go_enter Tryd.func20, Tryd.ntmps20
  go_wp2
  go_ret
  exact ⟨rfl, ⟨a, c, heap_set (unhide HH) 1 _, hc, .inl rfl⟩, Only.set D 1 _ _⟩

set_option maxRecDepth 100000 in
set_option maxHeartbeats 1000000 in
theorem byte_good (D : Nat) (x : UInt8) (l : List UInt8) (w : World) (hd : DecAt w D (x :: l) .nilIface) :
    Calls Tryd.prog 20 #[.pointer (some ⟨D, 0, none⟩)] w fun e w' => e = .returned (.int .u8 (x.toNat : Int)) ∧ DecAt w' D l .nilIface ∧ Only D w w' := by
  obtain ⟨a, c, hh, hc, hr⟩ := hd
  have HH := hide hh
  have HR := hide hr
  rcases hr with hr | ⟨g, o, rfl, hg, hx⟩
  · cases hr
  have x0 : w.cell? ⟨g, o, none⟩ = some (.int .u8 (x.toNat : Int)) := hx 0 (by simp)
  have e0 : w.cell? ⟨D, 0, none⟩ = some (.slice (some ⟨g, o, none⟩) (l.length + 1) c) := by simp [World.cell?, hh]
  have e1 : w.cell? ⟨D, 1, none⟩ = some .nilIface := by simp [World.cell?, hh]
  have f0 : w.frozen? ⟨D, 0, none⟩ = false := by simp [World.frozen?, hh]
  have hl : (0 : Int) < ((l.length + 1 : Nat) : Int) := by omega
  have hl2 : (1 : Int) ≤ ((l.length + 1 : Nat) : Int) := by omega
  have hcc : l.length + 1 ≤ c := hc
  clear hh hx
  go_enter Tryd.func20, Tryd.ntmps20
  go_wp2
  · go_ret
    refine ⟨rfl, ?_, Only.set D 0 _ _⟩
    have := dec_cut_all (unhide HH) 1 (by simp) hc (by assumption)
    simpa using this
  · go_ret
    refine ⟨rfl, ?_, Only.set D 0 _ _⟩
    have := dec_cut (unhide HH) (unhide HR) 1 (by simp) hc (by assumption)
    simpa [Addr.add_lit] using this
theorem zbyte {Q : Ending → World → Prop} (D : Nat) (w : World) (h : Calls Tryd.prog 20 #[.pointer (some ⟨D, 0, none⟩)] w fun e w' => ∃ v : Nat, e = .returned (.int .u8 v) ∧ Q e w') :
    Calls Tryd.prog 15 #[.pointer (some ⟨D, 0, none⟩)] w fun e w' => ∃ v : Nat, e = .returned (.int .u8 v) ∧ Q e w' := by
  have H := hide h
  clear h
  go_enter Tryd.func15, Tryd.ntmps15
  go_wp2_with (go_at_call 20; refine (unhide H).mono ?_; rintro e w1 ⟨v, rfl, hq⟩; have HQ := hide hq; clear hq)
  go_ret
  exact ⟨_, rfl, unhide HQ⟩

/-! ### reading the decoder; making one -/
theorem rest_any (D : Nat) (a : Option Addr) (n c : Nat) (er : Value) (w : World) (hh : w.heap[D]? = some (.cells #[.slice a n c, er] 42 (0, 0))) :
    Calls Tryd.prog 9 #[.pointer (some ⟨D, 0, none⟩)] w fun e w' => e = .returned (.slice a n c) ∧ w' = w := by
  have e0 : w.cell? ⟨D, 0, none⟩ = some (.slice a n c) := by simp [World.cell?, hh]
  clear hh
  go_enter Tryd.func9, Tryd.ntmps9
  go_wp2
  go_ret
  exact ⟨rfl, rfl⟩
theorem err_any (D : Nat) (v : Value) (er : Value) (w : World) (hh : w.heap[D]? = some (.cells #[v, er] 42 (0, 0))) :
    Calls Tryd.prog 10 #[.pointer (some ⟨D, 0, none⟩)] w fun e w' => e = .returned er ∧ w' = w := by
  have e0 : w.cell? ⟨D, 1, none⟩ = some er := by simp [World.cell?, hh]
  clear hh
  go_enter Tryd.func10, Tryd.ntmps10
  go_wp2
  go_ret
  exact ⟨rfl, rfl⟩
theorem new_any (a : Option Addr) (n c : Nat) (w : World) :
    Calls Tryd.prog 17 #[.slice a n c] w fun e w' => e = .returned (.pointer (some ⟨w.heap.size, 0, none⟩)) ∧ w' = w.alloc (.cells #[.slice a n c, .nilIface] 42) := by
  go_enter Tryd.func17, Tryd.ntmps17
  go_wp2
  go_ret
  exact ⟨rfl, rfl⟩
theorem newFailed_any (a : Option Addr) (n c : Nat) (U : TypeId) (E : Value) (w : World) (hE : w.cell? ⟨0, 0, none⟩ = some (.iface U E)) :
    Calls Tryd.prog 16 #[.slice a n c] w fun e w' => e = .returned (.pointer (some ⟨w.heap.size, 0, none⟩)) ∧ w' = w.alloc (.cells #[.slice a n c, .iface U E] 42) := by
  go_enter Tryd.func16, Tryd.ntmps16
  go_wp2
  go_ret
  exact ⟨rfl, rfl⟩
theorem over_any (a : Option Addr) (n c : Nat) (failed : Bool) (U : TypeId) (E : Value) (w : World) (hE : w.cell? ⟨0, 0, none⟩ = some (.iface U E)) :
    Calls Tryd.prog 7 #[.slice a n c, .bool failed] w fun e w' => e = .returned (.pointer (some ⟨w.heap.size, 0, none⟩)) ∧ w' = w.alloc (.cells #[.slice a n c, if failed then .iface U E else .nilIface] 42) := by
  cases failed with
  | true =>
    simp only [if_true]
    have hcon := newFailed_any a n c U E w hE
    go_enter Tryd.func7, Tryd.ntmps7
    go_wp2_with (go_at_call 16; refine hcon.mono ?_; rintro e w1 ⟨rfl, rfl⟩)
    go_ret
    exact ⟨rfl, rfl⟩
  | false =>
    simp only [Bool.false_eq_true, if_false]
    have hcon := new_any a n c w
    go_enter Tryd.func7, Tryd.ntmps7
    go_wp2_with (go_at_call 17; refine hcon.mono ?_; rintro e w1 ⟨rfl, rfl⟩)
    go_ret
    exact ⟨rfl, rfl⟩

/-! ### zzSameBytes at two equal lists; zzVarintEnd; zzDigitsMatch -/
set_option maxRecDepth 100000 in
set_option maxHeartbeats 1000000 in
theorem same_any (B : Nat) (a1 a2 : Option Addr) (l : List UInt8) (c1 c2 : Nat) (w : World) (hl : l.length ≤ 2097152) (h1 : BRow B w a1 l) (h2 : BRow B w a2 l) :
    Calls Tryd.prog 11 #[.slice a1 l.length c1, .slice a2 l.length c2] w fun e w' => e = .returned (.bool true) ∧ ∃ m, w' = w.drewN m := by
  have H1 := hide h1
  have H2 := hide h2
  clear h1 h2
  go_enter Tryd.func11, Tryd.ntmps11
  go_wp2
  go_loopw [5] (fun v wr => ∃ (k m : Nat), v = .int .i64 k ∧ k ≤ l.length ∧ wr = w.drewN m) (fun v _ => l.length - (intOf v).toNat)
  case atStart => exact ⟨0, 0, rfl, Nat.zero_le _, rfl⟩
  case round =>
    obtain ⟨k, m, rfl, hk, rfl⟩ := hrel
    by_cases hlt : k < l.length
    · rcases unhide H1 with hr | ⟨g1, o1, rfl, _, hc1⟩
      · subst hr; simp at hlt
      rcases unhide H2 with hr | ⟨g2, o2, rfl, _, hc2⟩
      · subst hr; simp at hlt
      have e1 := hc1 k hlt
      have e2 := hc2 k hlt
      have hkn : (k : Int) < (l.length : Int) := by omega
      clear hc1 hc2
      generalize (l.getD k 0).toNat = x at e1 e2
      go_wp2
      go_quiet (fail)
      go_wp2
      go_roundw
      case rel => exact ⟨k + 1, _, by go_num, by omega, rfl⟩
      case measure => simp [intOf]; omega
    · go_wp2
      go_ret
      exact ⟨rfl, _, rfl⟩

theorem vend_at {l : List UInt8} {k : Nat} (h : k < l.length) (i : Nat) : vend i (l.drop k) = if i = 10 then -1 else if (l.getD k 0).toNat < 128 then (if i = 9 ∧ 1 < (l.getD k 0).toNat then -1 else (i : Int)) else vend (i + 1) (l.drop (k + 1)) := by
  rw [List.drop_eq_getElem_cons h, show l.getD k 0 = l[k] from by simp [List.getD, h]]; rfl

set_option maxRecDepth 100000 in
set_option maxHeartbeats 1000000 in
theorem end_any (B : Nat) (a : Option Addr) (l : List UInt8) (c : Nat) (w : World) (hl : l.length ≤ 2097152) (h1 : BRow B w a l) :
    Calls Tryd.prog 13 #[.slice a l.length c] w fun e w' => e = .returned (.int .i64 (vend 0 l)) ∧ w' = w := by
  have H1 := hide h1
  clear h1
  have H0 : Hid (vend 0 l = vend 0 (l.drop 0)) := rfl
  go_enter Tryd.func13, Tryd.ntmps13
  go_wp2
  go_loop [3] (fun v => ∃ (k : Nat), v = .int .i64 k ∧ k ≤ l.length ∧ k ≤ 10 ∧ Hid (vend 0 l = vend k (l.drop k))) (fun v => l.length - (intOf v).toNat)
  case atStart => exact ⟨0, rfl, Nat.zero_le _, by omega, H0⟩
  case round =>
    obtain ⟨k, rfl, hk, hk10, HV⟩ := hrel
    by_cases hlt : k < l.length
    · have hkn : (k : Int) < (l.length : Int) := by omega
      by_cases h10 : k = 10
      · subst h10
        have hv : vend 0 l = -1 := by rw [HV.out, vend_at hlt]; simp
        have HVV := hide hv
        clear H0 HV hv
        go_wp2
        go_ret
        exact ⟨by rw [HVV.out]; rfl, rfl⟩
      have hk9 : (k : Int) < 10 := by omega
      rcases unhide H1 with hr | ⟨g1, o1, rfl, _, hc1⟩
      · subst hr; simp at hlt
      have e1 := hc1 k hlt
      have hv : vend 0 l = if (l.getD k 0).toNat < 128 then (if k = 9 ∧ 1 < (l.getD k 0).toNat then -1 else (k : Int)) else vend (k + 1) (l.drop (k + 1)) := by
        rw [HV.out, vend_at hlt, if_neg h10]
      clear hc1 HV
      generalize (l.getD k 0).toNat = x at e1 hv
      by_cases hx : x < 128
      · rw [if_pos hx] at hv
        have hxi : (x : Int) < 128 := by omega
        by_cases h9 : k = 9 ∧ 1 < x
        · rw [if_pos h9] at hv
          obtain ⟨rfl, hx1⟩ := h9
          have hx1i : (1 : Int) < (x : Int) := by omega
          have HVV := hide hv
          clear hv H0
          go_wp2
          go_ret
          exact ⟨by rw [HVV.out]; rfl, rfl⟩
        · rw [if_neg h9] at hv
          have HVV := hide hv
          clear hv H0
          by_cases k9 : k = 9
          · subst k9
            have hx1i : ¬ (1 : Int) < (x : Int) := by omega
            go_wp2
            go_ret
            exact ⟨by rw [HVV.out]; rfl, rfl⟩
          · have hk9i : ¬ (k : Int) = 9 := by omega
            go_wp2
            go_ret
            exact ⟨by rw [HVV.out]; rfl, rfl⟩
      · rw [if_neg hx] at hv
        have hxi : ¬ (x : Int) < 128 := by omega
        have HV := hide hv
        clear hv
        go_wp2
        go_round
        case rel => exact ⟨k + 1, by go_num, by omega, by omega, HV⟩
        case measure => simp [intOf]; omega
    · have hv : vend 0 l = -1 := by rw [HV.out, List.drop_eq_nil_of_le (by omega)]; rfl
      have HVV := hide hv
      clear H0 HV hv
      go_wp2
      go_ret
      exact ⟨by rw [HVV.out]; rfl, rfl⟩

theorem u64_and127 (x : Int) (h₀ : 0 ≤ x) (h₁ : x < 18446744073709551616) : bits .and .u64 x 127 = x % 128 := bits_mask .u64 64 (by decide) wraps_u64 7 (by decide) x h₀ h₁
theorem shr_nat (v i : Nat) : (v : Int) / 2 ^ (7 * i) = ((v / 2 ^ (7 * i) : Nat) : Int) := by norm_cast

set_option maxRecDepth 100000 in
set_option maxHeartbeats 2000000 in
theorem digits_any (B : Nat) (a : Option Addr) (l : List UInt8) (c : Nat) (t v : Nat) (w : World) (hl : l.length ≤ 2097152) (h1 : BRow B w a l) (hh : Head l t v) :
    Calls Tryd.prog 19 #[.int .u64 v, .slice a l.length c, .int .i64 t] w fun e w' => e = .returned (.bool true) ∧ w' = w := by
  have HH := hide hh
  have ht := hh.lt
  have ht9 := hh.nine
  have hv64 := hh.v64
  rcases h1 with hr | ⟨g1, o1, rfl, _, hc1⟩
  · subst hr; simp at ht
  have HC := hide hc1
  clear hh hc1
  go_enter Tryd.func19, Tryd.ntmps19
  go_wp2
  go_loop [7] (fun x => ∃ (k : Nat), x = .int .i64 k ∧ k ≤ t) (fun x => t - (intOf x).toNat)
  case atStart => exact ⟨0, rfl, Nat.zero_le _⟩
  case round =>
    obtain ⟨k, rfl, hk⟩ := hrel
    by_cases hlt : k < t
    · have hkn : (k : Int) < (t : Int) := by omega
      have hkl : (k : Int) < (l.length : Int) := by omega
      have e1 := (unhide HC) k (by omega)
      have hlow := (unhide HH).low k hlt
      have hx256 := (l.getD k 0).toNat_lt
      have hy : v / 2 ^ (7 * k) < 18446744073709551616 := Nat.lt_of_le_of_lt (Nat.div_le_self _ _) hv64
      have hA : bits .and .u64 ((v : Int) / 2 ^ (7 * k)) 127 = (((l.getD k 0).toNat % 128 : Nat) : Int) := by
        rw [shr_nat]
        generalize v / 2 ^ (7 * k) = y at hlow hy
        rw [u64_and127 _ (by omega) (by omega)]
        omega
      have hB : IntKind.u64.wrap (bits .and .u8 ((l.getD k 0).toNat : Int) 127) = (((l.getD k 0).toNat % 128 : Nat) : Int) := by
        rw [u8_and127 _ (by omega) (by omega), u64_wrap_id _ (by omega) (by omega)]
        omega
      generalize (l.getD k 0).toNat = x at e1 hx256 hA hB
      generalize x % 128 = z at hA hB
      clear hlow hy hx256
      go_wp2
      go_round
      case rel => exact ⟨k + 1, by go_num, by omega⟩
      case measure => simp [intOf]; omega
    · obtain rfl : k = t := by omega
      have hkl : (k : Int) < (l.length : Int) := by omega
      have e1 := (unhide HC) k (by omega)
      have htop := (unhide HH).top
      have hx256 := (l.getD k 0).toNat_lt
      have hA : (v : Int) / 2 ^ (7 * k) = ((l.getD k 0).toNat : Int) := by rw [shr_nat, htop]
      have hB : IntKind.u64.wrap ((l.getD k 0).toNat : Int) = ((l.getD k 0).toNat : Int) := u64_wrap_id _ (by omega) (by omega)
      generalize (l.getD k 0).toNat = x at e1 hx256 hA hB
      clear htop
      go_wp2
      go_ret
      exact ⟨rfl, rfl⟩
end Go.Proofs.Qxb6618635aDoor
