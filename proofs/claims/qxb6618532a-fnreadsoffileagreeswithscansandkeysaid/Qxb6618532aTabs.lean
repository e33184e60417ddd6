/-
  Seat b6618532a: zzTables: a table a list of columns, in blocks of the call's own.
-/
import Derived.Test.Qxb6618532aReadsOf
import Derived.Deep.OwnRows
namespace Go.Proofs.Qxb6618532a
open Go.RowKit

def colVal (ts : List Cols) (t : Nat) : Value := .slice (ts.getD t ⟨none, [], 0⟩).a (ts.getD t ⟨none, [], 0⟩).xs.length (ts.getD t ⟨none, [], 0⟩).c

/-- The tables made so far: the row of pointers in block N, table t in block N + 1 + t. -/
structure Making (N : Nat) (ts : List Cols) (k : Nat) (w w' : World) : Prop where
  below : Below N w w'
  size : w'.heap.size = N + 1 + k
  row : w'.rowIs N 29 ts.length (fun t => if t < k then .pointer (some ⟨N + 1 + t, 0, none⟩) else .pointer none)
  tabs : ∀ t, t < k → IsTab w' (N + 1 + t) (colVal ts t)

theorem StrRow.below {w w' : World} {a : Option Addr} {xs : List ByteArray} (h : StrRow w a xs) (hb : Below w.heap.size w w') : StrRow w' a xs := by
  rcases h with h | ⟨b, off, rfl, hlt, hc⟩
  · exact .inl h
  · exact .inr ⟨b, off, rfl, Nat.lt_of_lt_of_le hlt hb.size, fun j hj => (hb.cell (p := ⟨b, off + j, none⟩) hlt).trans (hc j hj)⟩

theorem TabRow.below {w w' : World} {a : Option Addr} {ts : List Cols} (h : TabRow w a ts) (hb : Below w.heap.size w w') : TabRow w' a ts := by
  obtain ⟨h1, h2⟩ := h
  refine ⟨?_, fun j hj => (h2 j hj).below hb⟩
  rcases h1 with h | ⟨b, off, rfl, hlt, hc⟩
  · exact .inl h
  · exact .inr ⟨b, off, rfl, Nat.lt_of_lt_of_le hlt hb.size, fun j hj => (hb.cell (p := ⟨b, off + j, none⟩) hlt).trans (hc j hj)⟩

theorem IsTab.lt {w : World} {B : Nat} {v : Value} (h : IsTab w B v) : B < w.heap.size := (Array.getElem?_eq_some_iff.1 h).1
theorem IsTab.block {w w' : World} {B : Nat} {v : Value} (h : IsTab w B v) (e : w'.heap[B]? = w.heap[B]?) : IsTab w' B v := e.trans h
theorem IsTab.below {w w' : World} {B : Nat} {v : Value} (h : IsTab w B v) (hb : Below w.heap.size w w') : IsTab w' B v := h.block (hb.block _ h.lt)

theorem BlkRow.below {w w' : World} {a : Option Addr} {bs : List Nat} (h : BlkRow w a bs) (hb : Below w.heap.size w w') : BlkRow w' a bs := by
  obtain ⟨h1, h2⟩ := h
  refine ⟨?_, fun j hj => by obtain ⟨v, hv⟩ := h2 j hj; exact ⟨v, hv.below hb⟩⟩
  rcases h1 with h | ⟨b, off, rfl, hc⟩
  · exact .inl h
  · exact .inr ⟨b, off, rfl, fun j hj => (hb.cell (p := ⟨b, off + j, none⟩) (World.block_lt_of_cell? w _ (hc j hj))).trans (hc j hj)⟩

theorem info29 : (Try.prog.info? 29).map (fun i => (i.zero, i.size, i.bytes)) = some (some (.pointer none), 1, 8) := by kernel_rfl

theorem Making.start (ts : List Cols) (w : World) : Making w.heap.size ts 0 w (w.alloc (.cells (madeCells #[.pointer none] ts.length) 29)) where
  below := (Below.refl _ _).alloc (Nat.le_refl _) _
  size := by simp
  row := (World.rowIs_made w (.pointer none) ts.length 29).congr fun i _ => by simp
  tabs := fun t h => by omega

theorem Making.step {N : Nat} {ts : List Cols} {k : Nat} {w w' : World} (h : Making N ts k w w') {v : Value} (hv : v = colVal ts k) :
    Making N ts (k + 1) w ((w'.setCell ⟨N, k, none⟩ (.pointer (some ⟨w'.heap.size, 0, none⟩))).alloc (.cells #[.string ⟨#[116]⟩, v, .slice none 0 0, .map none] 49)) where
  below := (h.below.setCell (Nat.le_refl _) _).alloc (by simp [World.setCell, h.size]; omega) _
  size := by simp [World.setCell, h.size]; omega
  row := ((h.row.set k _).alloc _).congr fun i _ => by
    by_cases e : i = k
    · subst e; simp [h.size]
    · by_cases e2 : i < k
      · simp [e, e2, show i < k + 1 by omega]
      · simp [e, e2, show ¬ i < k + 1 by omega]
  tabs := fun t ht => by
    unfold IsTab
    by_cases e : t = k
    · subst e
      rw [hv]
      have e3 : N + 1 + t = (w'.setCell ⟨N, t, none⟩ (.pointer (some ⟨w'.heap.size, 0, none⟩))).heap.size := by simp [World.setCell, h.size]
      rw [e3]
      exact heap_alloc_new _ _
    · rw [Below.heap_alloc _ _ _ (by simp [World.setCell, h.size]; omega), Below.heap_setCell _ _ _ _ (by show N + 1 + t ≠ N; omega)]
      exact h.tabs t (by omega)

set_option maxRecDepth 100000 in
set_option maxHeartbeats 400000 in
theorem tables_any (a : Option Addr) (ts : List Cols) (c : Nat) (w : World) (hr : TabRow w a ts) (hn : ts.length ≤ 65536) :
    Calls Try.prog 7 #[.slice a ts.length c] w fun e w' => e = .returned (.slice (some ⟨w.heap.size, 0, none⟩) ts.length ts.length) ∧ Making w.heap.size ts ts.length w w' := by
  have hmk := run_make_row' (P := Try.prog) 27 29 (.pointer none) 8 Try.underlying27 info29 rfl .i64 .i64 ts.length (by omega) (by omega)
  have HR : Hid (TabRow w a ts) := hr
  clear hr
  go_enter Try.func7, Try.ntmps7
  go_wp2
  clear hmk
  go_loopw [4] (fun i wr => ∃ k : Nat, k ≤ ts.length ∧ i = .int .i64 k ∧ Making w.heap.size ts k w wr) (fun i _ => ts.length - (intOf i).toNat)
  case atStart => exact ⟨0, Nat.zero_le _, rfl, Making.start ts w⟩
  case round =>
    obtain ⟨k, hk, rfl, hmak⟩ := hrel
    have HM : Hid (Making w.heap.size ts k w wr) := hmak
    by_cases hlt : k < ts.length
    · obtain ⟨hr, -⟩ := HR.out.below hmak.below
      rcases hr with hr | ⟨b, off, rfl, hb, hc⟩
      · subst hr; simp at hlt
      have hck := hc k hlt
      have hrc := hmak.row.cell hlt
      have hrf := hmak.row.frozen k
      have hsz := hmak.row.lt
      simp only [Nat.lt_irrefl, if_false] at hrc
      have hcv : Hid (Value.slice (ts.getD k ⟨none, [], 0⟩).a (ts.getD k ⟨none, [], 0⟩).xs.length (ts.getD k ⟨none, [], 0⟩).c = colVal ts k) := rfl
      clear hc hmak
      generalize ts.getD k ⟨none, [], 0⟩ = r at hck hcv
      obtain ⟨ra, rxs, rc⟩ := r
      simp only at hck hcv
      go_wp2
      go_roundw
      case rel => exact ⟨k + 1, by omega, by go_num, HM.out.step hcv.out⟩
      case measure => simp [intOf]; omega
    · have hke : k = ts.length := by omega
      subst hke
      clear hmak
      go_wp2
      go_ret
      exact ⟨rfl, HM.out⟩

end Go.Proofs.Qxb6618532a
