/-
  Seat b6618532a: slices.Index, slices.Contains at []*Table, (*Statement).ReadsOf, zzSameStrings, zzSameElems: contracts.
-/
import Derived.Test.Qxb6618532aGuards
import Derived.LaidEqlPtr
import Derived.Deep.QuietTactic
import Derived.BigQuiet
namespace Go.Proofs.Qxb6618532a
open Go.RowKit

/-- Block B is a table whose columns are the slice value v. -/
def IsTab (w : World) (B : Nat) (v : Value) : Prop := w.heap[B]? = some (.cells #[.string ⟨#[116]⟩, v, .slice none 0 0, .map none] 49 (0, 0))

theorem info49 : ∃ j, Try.prog.info? 49 = some j ∧ j.size ≠ 0 := by
  have h : (Try.prog.info? 49).map (fun i => i.size) = some 4 := by kernel_rfl
  obtain ⟨j, hj, hs⟩ := Option.map_eq_some_iff.1 h
  exact ⟨j, hj, by omega⟩

theorem eql_tab {w : World} {A B : Nat} {u v : Value} (hA : IsTab w A u) (hB : IsTab w B v) :
    (binOp .eql 29 (.pointer (some ⟨A, 0, none⟩)) (.pointer (some ⟨B, 0, none⟩))).run Try.prog w = .ok (.bool (decide (A = B))) w := by
  obtain ⟨j, hj, hs⟩ := info49
  by_cases e : A = B
  · subst e
    rw [run_eql_ptr_same w ⟨A, 0, none⟩ Try.underlying29 hj]; simp
  · rw [run_eql_ptr_other w (a := ⟨A, 0, Option.none⟩) (b := ⟨B, 0, Option.none⟩) Try.underlying29 hj hs (by intro h; exact e (by injection h)) hA hB]; simp [e]

theorem eql_nil_tab (w : World) (a : Addr) : (binOp .eql 29 (.pointer none) (.pointer (some a))).run Try.prog w = .ok (.bool false) w := by
  have h : ∀ d : Nat, (Op.equalIn (d + 1) 29 (.pointer none) (.pointer (some a))).run Try.prog w = .ok false w := fun d => by simp [Op.equalIn, run_underlying Try.underlying29]
  simp only [binOp]
  simp [Op.equal, Op.maxDepth, h 9999]

/-- A slice of table pointers: their blocks. -/
def BlkRow (w : World) (a : Option Addr) (bs : List Nat) : Prop :=
  (bs = [] ∨ ∃ b off, a = some ⟨b, off, none⟩ ∧ ∀ j, j < bs.length → w.cell? ⟨b, off + j, none⟩ = some (.pointer (some ⟨bs.getD j 0, 0, none⟩))) ∧
  ∀ j, j < bs.length → ∃ v, IsTab w (bs.getD j 0) v

theorem getD_at {α : Type} {l : List α} {j : Nat} {d : α} (h : j < l.length) : l.getD j d = l[j] := by simp [List.getD, h]

def IdxIs (bs : List Nat) (q : Nat) (e : Ending) : Prop := ∃ r : Int, e = .returned (.int .i64 r) ∧ (decide (0 ≤ r) = decide (q ∈ bs))
def NotYet (bs : List Nat) (q k : Nat) : Prop := ∀ j, j < k → bs.getD j 0 ≠ q
theorem NotYet.succ {bs : List Nat} {q k : Nat} (h : NotYet bs q k) (hk : q ≠ bs.getD k 0) : NotYet bs q (k + 1) := fun j hj => by
  by_cases e : j = k
  · subst e; exact fun h => hk h.symm
  · exact h j (by omega)
theorem IdxIs.found {bs : List Nat} {q k : Nat} (hk : k < bs.length) (he : q = bs.getD k 0) : IdxIs bs q (.returned (.int .i64 k)) := by
  refine ⟨k, rfl, ?_⟩
  have : q ∈ bs := by
    rw [he, getD_at hk]; exact List.getElem_mem hk
  simp [this]
theorem IdxIs.none {bs : List Nat} {q : Nat} (h : NotYet bs q bs.length) : IdxIs bs q (.returned (.int .i64 (-1))) := by
  refine ⟨-1, rfl, ?_⟩
  have : q ∉ bs := by
    intro hm
    obtain ⟨j, hj, e⟩ := List.getElem_of_mem hm
    exact h j hj (by rw [getD_at hj]; exact e)
  simp [this]

set_option maxHeartbeats 400000 in
theorem index_any (a : Option Addr) (bs : List Nat) (c q : Nat) (v : Value) (w : World) (hr : BlkRow w a bs) (hq : IsTab w q v) (hn : bs.length ≤ 65536) :
    Calls Try.prog 28 #[.slice a bs.length c, .pointer (some ⟨q, 0, none⟩)] w fun e w' => IdxIs bs q e ∧ w' = w := by
  have HR : Hid (BlkRow w a bs) := hr
  have HQ : Hid (IsTab w q v) := hq
  clear hr hq
  go_enter Try.func28, Try.ntmps28
  go_wp2
  go_loop [8] (fun i => ∃ k : Nat, k ≤ bs.length ∧ i = .int .i64 k ∧ NotYet bs q k) (fun i => bs.length - (intOf i).toNat)
  case atStart => exact ⟨0, Nat.zero_le _, rfl, fun j h => by omega⟩
  case round =>
    obtain ⟨k, hk, rfl, hny⟩ := hrel
    have HN : Hid (NotYet bs q k) := hny
    clear hny
    by_cases hlt : k < bs.length
    · obtain ⟨hr, ht⟩ := HR.out
      rcases hr with hr | ⟨b, off, rfl, hc⟩
      · subst hr; simp at hlt
      have hck := hc k hlt
      obtain ⟨u, hu⟩ := ht k hlt
      have heq := eql_tab HQ.out hu
      clear hc ht hu
      have hfin : Hid (q = bs.getD k 0 → IdxIs bs q (.returned (.int .i64 k))) := IdxIs.found hlt
      have hgo : Hid (q ≠ bs.getD k 0 → NotYet bs q (k + 1)) := HN.out.succ
      generalize bs.getD k 0 = t at hck heq hfin hgo
      by_cases he : q = t
      · subst he
        have hfi : Hid (IdxIs bs q (.returned (.int .i64 k))) := hfin.out rfl
        clear hfin hgo
        simp only [decide_true] at heq
        go_wp2
        go_ret
        exact ⟨hfi.out, rfl⟩
      · have hd : decide (q = t) = false := by simpa using he
        rw [hd] at heq
        clear hd
        have HE : Hid (q ≠ t) := he
        clear he
        go_wp2
        go_round
        case rel => exact ⟨k + 1, by omega, by go_num, hgo.out HE.out⟩
        case measure => simp [intOf]; omega
    · have hke : k = bs.length := by omega
      subst hke
      go_wp2
      go_ret
      exact ⟨IdxIs.none HN.out, rfl⟩

set_option maxHeartbeats 400000 in
theorem contains_any (a : Option Addr) (bs : List Nat) (c q : Nat) (v : Value) (w : World) (hr : BlkRow w a bs) (hq : IsTab w q v) (hn : bs.length ≤ 65536) :
    Calls Try.prog 22 #[.slice a bs.length c, .pointer (some ⟨q, 0, none⟩)] w fun e w' => e = .returned (.bool (decide (q ∈ bs))) ∧ w' = w := by
  generalize hm : decide (q ∈ bs) = m
  have HM : Hid (decide (q ∈ bs) = m) := hm
  clear hm
  have hcon := index_any a bs c q v w hr hq hn
  clear hr hq
  go_enter Try.func22, Try.ntmps22
  go_wp2_with (go_at_call 28; refine hcon.mono ?_; rintro e w' ⟨⟨r, rfl, hrr⟩, rfl⟩; have HRR : Hid (decide (0 ≤ r) = decide (q ∈ bs)) := hrr; clear hrr)
  go_ret
  refine ⟨?_, rfl⟩
  rw [← HM.out, ← HRR.out]
  rfl

theorem eqNil (t e : TypeId) (h : Try.prog.underlying t = some (.slice e)) : ∀ (a : Option Addr) (n c : Nat) (w : World), (binOp .eql t (.slice a n c) (.slice none 0 0)).run Try.prog w = .ok (.bool a.isNone) w :=
  fun a n c w => Lib.run_eql_slice_nil w t e a n c 0 0 h
theorem neNil (t e : TypeId) (h : Try.prog.underlying t = some (.slice e)) : ∀ (a : Option Addr) (n c : Nat) (w : World), (binOp .neq t (.slice a n c) (.slice none 0 0)).run Try.prog w = .ok (.bool (!a.isNone)) w :=
  fun a n c w => run_neq_slice_nil_any w t e a n c 0 0 h

theorem IsTab.cell1 {w : World} {B : Nat} {v : Value} (h : IsTab w B v) : w.cell? ⟨B, 1, none⟩ = some v := by
  unfold IsTab at h
  simp [World.cell?, h]

set_option maxHeartbeats 400000 in
/-- An unkeyed statement: the table's own columns where it is among the scans, else nil. -/
theorem readsOf_unkeyed (S : Nat) (sa : Option Addr) (bs : List Nat) (sc : Nat) (q : Nat) (va : Option Addr) (vn vc : Nat) (w : World)
    (c3 : w.cell? ⟨S, 3, none⟩ = some (.slice none 0 0)) (c7 : w.cell? ⟨S, 7, none⟩ = some (.slice sa bs.length sc))
    (hr : BlkRow w sa bs) (hq : IsTab w q (.slice va vn vc)) (hn : bs.length ≤ 65536) :
    Calls Try.prog 8 #[.pointer (some ⟨S, 0, none⟩), .pointer (some ⟨q, 0, none⟩)] w fun e w' => e = .returned (if q ∈ bs then .slice va vn vc else .slice none 0 0) ∧ w' = w := by
  have hcon := contains_any sa bs sc q _ w hr hq hn
  have cq := hq.cell1
  clear hr hq
  have en := eqNil 32 46 Try.underlying32
  have nn := neNil 32 46 Try.underlying32
  by_cases hm : q ∈ bs
  · simp only [hm, decide_true] at hcon
    rw [if_pos hm]
    clear hm
    go_enter Try.func8, Try.ntmps8
    go_wp2_with (go_at_call 22; refine hcon.mono ?_; rintro e w' ⟨rfl, rfl⟩)
    go_ret
    exact ⟨rfl, rfl⟩
  · simp only [hm, decide_false] at hcon
    rw [if_neg hm]
    clear hm
    go_enter Try.func8, Try.ntmps8
    go_wp2_with (go_at_call 22; refine hcon.mono ?_; rintro e w' ⟨rfl, rfl⟩)
    go_ret
    exact ⟨rfl, rfl⟩

set_option maxRecDepth 100000 in
set_option maxHeartbeats 400000 in
/-- A keyed statement: its Reads at its own table, else nil. -/
theorem readsOf_keyed (S : Nat) (p : Option Nat) (ra : Option Addr) (rn rc : Nat) (ka : Addr) (kn kc : Nat) (q : Nat) (u : Nat → Value) (v : Value) (w : World)
    (c3 : w.cell? ⟨S, 3, none⟩ = some (.slice (some ka) kn kc)) (c2 : w.cell? ⟨S, 2, none⟩ = some (.pointer (p.map fun B => ⟨B, 0, none⟩))) (c5 : w.cell? ⟨S, 5, none⟩ = some (.slice ra rn rc))
    (hp : ∀ B, p = some B → IsTab w B (u B)) (hq : IsTab w q v) :
    Calls Try.prog 8 #[.pointer (some ⟨S, 0, none⟩), .pointer (some ⟨q, 0, none⟩)] w fun e w' => e = .returned (if p = some q then .slice ra rn rc else .slice none 0 0) ∧ w' = w := by
  have en := eqNil 32 46 Try.underlying32
  have nn := neNil 32 46 Try.underlying32
  cases p with
  | none =>
    have hne := eql_nil_tab w ⟨q, 0, none⟩
    simp only [Option.map_none] at c2
    clear hp hq
    rw [if_neg (by simp)]
    go_enter Try.func8, Try.ntmps8
    go_wp2
    go_ret
    exact ⟨rfl, rfl⟩
  | some B =>
    have heq := eql_tab (hp B rfl) hq
    simp only [Option.map_some] at c2
    clear hp hq
    by_cases hB : B = q
    · subst hB
      simp only [decide_true] at heq
      rw [if_pos rfl]
      go_enter Try.func8, Try.ntmps8
      go_wp2
      go_ret
      exact ⟨rfl, rfl⟩
    · have hd : decide (B = q) = false := by simpa using hB
      rw [hd] at heq
      rw [if_neg (by intro h; exact hB (Option.some.inj h))]
      clear hB hd
      go_enter Try.func8, Try.ntmps8
      go_wp2
      go_ret
      exact ⟨rfl, rfl⟩

set_option maxHeartbeats 400000 in
/-- One and the same slice: true. -/
theorem sameStrings_self (a : Option Addr) (xs : List ByteArray) (c : Nat) (w : World) (hr : StrRow w a xs) (hn : xs.length ≤ 1048576) :
    Calls Try.prog 9 #[.slice a xs.length c, .slice a xs.length c] w fun e w' => e = .returned (.bool true) ∧ ∃ n, w' = w.drewN n := by
  have en := eqNil 24 9 Try.underlying24
  go_enter Try.func9, Try.ntmps9
  go_wp2
  go_loopw [5] (fun j wr => ∃ (k n : Nat), k ≤ xs.length ∧ j = .int .i64 k ∧ wr = w.drewN n) (fun j _ => xs.length - (intOf j).toNat)
  case atStart => exact ⟨0, 0, Nat.zero_le _, rfl, rfl⟩
  case round =>
    obtain ⟨k, n, hk, rfl, rfl⟩ := hrel
    by_cases hlt : k < xs.length
    · rcases hr with hr | ⟨b, off, rfl, hb, hc⟩
      · subst hr; simp at hlt
      have hck := hc k hlt
      clear hc
      generalize xs.getD k ByteArray.empty = str at hck
      go_wp2
      go_region
      all_goals go_wp2
      all_goals go_roundw
      case rel => exact ⟨k + 1, n + 1, by omega, by go_num, rfl⟩
      case measure => simp [intOf]; omega
    · go_wp2
      go_ret
      exact ⟨rfl, n, rfl⟩

set_option maxHeartbeats 400000 in
/-- Two slices of the same strings: true. -/
theorem sameElems_same (a : Option Addr) (xs : List ByteArray) (c : Nat) (a2 : Option Addr) (c2 : Nat) (w : World) (hr : StrRow w a xs) (hr2 : StrRow w a2 xs) (hn : xs.length ≤ 140737488355328) :
    Calls Try.prog 10 #[.slice a xs.length c, .slice a2 xs.length c2] w fun e w' => e = .returned (.bool true) ∧ ∃ n, w' = w.drewN n := by
  go_enter Try.func10, Try.ntmps10
  go_wp2
  go_loopw [5] (fun j wr => ∃ (k n : Nat), k ≤ xs.length ∧ j = .int .i64 k ∧ wr = w.drewN n) (fun j _ => xs.length - (intOf j).toNat)
  case atStart => exact ⟨0, 0, Nat.zero_le _, rfl, rfl⟩
  case round =>
    obtain ⟨k, n, hk, rfl, rfl⟩ := hrel
    by_cases hlt : k < xs.length
    · rcases hr with hr | ⟨b, off, rfl, hb, hc⟩
      · subst hr; simp at hlt
      rcases hr2 with hr | ⟨b2, off2, rfl, hb2, hc2⟩
      · subst hr; simp at hlt
      have hck := hc k hlt
      have hck2 := hc2 k hlt
      clear hc hc2
      generalize xs.getD k ByteArray.empty = str at hck hck2
      go_wp2
      go_region
      all_goals go_wp2
      all_goals go_roundw
      case rel => exact ⟨k + 1, n + 1, by omega, by go_num, rfl⟩
      case measure => simp [intOf]; omega
    · go_wp2
      go_ret
      exact ⟨rfl, n, rfl⟩

end Go.Proofs.Qxb6618532a
