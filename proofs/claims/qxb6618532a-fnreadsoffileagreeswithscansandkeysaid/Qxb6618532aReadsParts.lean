/-
  Seat b6618532a: lemmas for the walk of FnReadsOfFileAgreesWithScansAndKey: lists, worlds.
-/
import Derived.Test.Qxb6618532aTabs
namespace Go.Proofs.Qxb6618532a
open Go.RowKit

def BoolRow (w : World) (a : Option Addr) (bl : List Bool) : Prop :=
  bl = [] ∨ ∃ b off, a = some ⟨b, off, none⟩ ∧ b < w.heap.size ∧ ∀ j, j < bl.length → w.cell? ⟨b, off + j, none⟩ = some (.bool (bl.getD j false))

theorem BoolRow.below {w w' : World} {a : Option Addr} {xs : List Bool} (h : BoolRow w a xs) (hb : Below w.heap.size w w') : BoolRow w' a xs := by
  rcases h with h | ⟨b, off, rfl, hlt, hc⟩
  · exact .inl h
  · exact .inr ⟨b, off, rfl, Nat.lt_of_lt_of_le hlt hb.size, fun j hj => (hb.cell (p := ⟨b, off + j, none⟩) hlt).trans (hc j hj)⟩

/-- The blocks of the first k tables that are flagged. -/
def scn (bl : List Bool) (N k : Nat) : List Nat := ((List.range k).filter fun t => bl.getD t false).map (N + 1 + ·)
theorem scn_yes {bl : List Bool} {N k : Nat} (h : bl.getD k false = true) : scn bl N (k + 1) = scn bl N k ++ [N + 1 + k] := by
  unfold scn; rw [List.range_succ, List.filter_append, List.map_append]; simp only [List.filter_cons, h, if_true, List.filter_nil, List.map_cons, List.map_nil]
theorem scn_no {bl : List Bool} {N k : Nat} (h : bl.getD k false = false) : scn bl N (k + 1) = scn bl N k := by
  unfold scn; rw [List.range_succ, List.filter_append, List.map_append]; simp only [List.filter_cons, h, Bool.false_eq_true, if_false, List.filter_nil, List.map_nil, List.append_nil]
theorem scn_len (bl : List Bool) (N k : Nat) : (scn bl N k).length ≤ k := by
  unfold scn; rw [List.length_map]; have := List.length_filter_le (fun t => bl.getD t false) (List.range k); simpa using this

def tabPtr (B : Nat) : Value := .pointer (some ⟨B, 0, none⟩)

/-- The scans gathered so far. -/
structure Scan (B : Nat) (bl : List Bool) (N k : Nat) (w1 : World) (v : Value) (wr : World) : Prop where
  own : wr.ownsRow B 29 1 v (scn bl N k).length ((scn bl N k).map tabPtr)
  below : Below B w1 wr

theorem Scan.start (bl : List Bool) (N : Nat) (w1 : World) : Scan w1.heap.size bl N 0 w1 (.slice none 0 0) w1 := ⟨World.ownsRow_nil _ _ _ _, Below.refl _ _⟩
theorem Scan.skip {B : Nat} {bl : List Bool} {N k : Nat} {w1 : World} {v : Value} {wr : World} (h : Scan B bl N k w1 v wr) (hb : bl.getD k false = false) : Scan B bl N (k + 1) w1 v wr := by
  constructor
  · rw [scn_no hb]; exact h.own
  · exact h.below

theorem Scan.add {B : Nat} {bl : List Bool} {N k : Nat} {w1 : World} {v : Value} {wr : World} (h : Scan B bl N k w1 v wr) (hb : bl.getD k false = true) (hB : B ≤ wr.heap.size) {o : Obj} {v' : Value} {w' : World}
    (hown : w'.ownsRow B 29 1 v' ((scn bl N k).length + 1) ((scn bl N k).map tabPtr ++ [.pointer (some ⟨N + 1 + k, 0, none⟩)])) (hg : (wr.alloc o).grownBy w' v.ownBlock) : Scan B bl N (k + 1) w1 v' w' := by
  constructor
  · rw [scn_yes hb]; simpa [tabPtr] using hown
  · exact (h.below.alloc hB o).grown hg (by simp; omega) (fun j hj => (h.own.lt j hj).1)

theorem mem_scn {bl : List Bool} {N k B : Nat} (h : B ∈ scn bl N k) : ∃ t, t < k ∧ bl.getD t false = true ∧ B = N + 1 + t := by
  unfold scn at h
  obtain ⟨t, ht, rfl⟩ := List.mem_map.1 h
  obtain ⟨h1, h2⟩ := List.mem_filter.1 ht
  exact ⟨t, List.mem_range.1 h1, h2, rfl⟩

theorem Scan.done {ts : List Cols} {bl : List Bool} {w w1 : World} {v : Value} {wr : World} (h : Scan w1.heap.size bl w.heap.size ts.length w1 v wr) (hm : Making w.heap.size ts ts.length w w1) :
    ∃ sa sc, v = .slice sa (scn bl w.heap.size ts.length).length sc ∧ BlkRow wr sa (scn bl w.heap.size ts.length) := by
  have htab : ∀ j, j < (scn bl w.heap.size ts.length).length → ∃ v, IsTab wr ((scn bl w.heap.size ts.length).getD j 0) v := fun j hj => by
    obtain ⟨t, ht, _, e⟩ := mem_scn (List.getElem_mem hj)
    rw [getD_at hj, e]
    exact ⟨_, (hm.tabs t ht).below h.below⟩
  rcases h.own.2 with ⟨hv, hl⟩ | ⟨g, cap, cur, hv, _, hh, _, _, _, htk⟩
  · exact ⟨none, 0, by rw [hl]; exact hv, .inl (List.eq_nil_of_length_eq_zero hl), htab⟩
  · refine ⟨_, cap, hv, .inr ⟨g, 0, rfl, fun j hj => ?_⟩, htab⟩
    have hc := h.own.cells (g := g) (by rw [hv]; rfl) j (tabPtr ((scn bl w.heap.size ts.length).getD j 0)) (by rw [List.getElem?_map, getD_at hj, List.getElem?_eq_getElem hj]; rfl)
    rw [Addr.add_lit, Nat.zero_add] at hc
    rw [Nat.zero_add]
    exact hc

/-- The own-th table's block, none where own is out of range. -/
def ownB (N : Nat) (own : Int) (n : Nat) : Option Nat := if 0 ≤ own ∧ own < n then some (N + 1 + own.toNat) else none
theorem ownB_in {N : Nat} {own : Int} {n : Nat} (h : 0 ≤ own) (h2 : own < n) : ownB N own n = some (N + 1 + own.toNat) := if_pos ⟨h, h2⟩
theorem ownB_out {N : Nat} {own : Int} {n : Nat} (h : ¬ (0 ≤ own ∧ own < n)) : ownB N own n = none := if_neg h
def ownA (N : Nat) (own : Int) (n : Nat) : Option Addr := (ownB N own n).map fun B => ⟨B, 0, none⟩
def inB (own : Int) (n : Nat) : Bool := decide (0 ≤ own ∧ own < n)

/-- What is known of the world when the statement and the stranger have been laid. -/
structure SetUp (N : Nat) (ts : List Cols) (bl : List Bool) (S X : Nat) (own : Option Addr) (key reads : Value) (sa : Option Addr) (sc : Nat) (va : Option Addr) (vn vc : Nat) (w w3 : World) : Prop where
  below : Below N w w3
  row : w3.rowIs N 29 ts.length (fun t => if t < ts.length then .pointer (some ⟨N + 1 + t, 0, none⟩) else .pointer none)
  tabs : ∀ t, t < ts.length → IsTab w3 (N + 1 + t) (colVal ts t)
  blk : BlkRow w3 sa (scn bl N ts.length)
  c2 : w3.cell? ⟨S, 2, none⟩ = some (.pointer own)
  c3 : w3.cell? ⟨S, 3, none⟩ = some key
  c5 : w3.cell? ⟨S, 5, none⟩ = some reads
  c7 : w3.cell? ⟨S, 7, none⟩ = some (.slice sa (scn bl N ts.length).length sc)
  str : IsTab w3 X (.slice va vn vc)
  far : N + 1 + ts.length ≤ X

theorem SetUp.later {N : Nat} {ts : List Cols} {bl : List Bool} {S X : Nat} {own : Option Addr} {key reads : Value} {sa : Option Addr} {sc : Nat} {va : Option Addr} {vn vc : Nat} {w w3 w4 : World}
    (h : SetUp N ts bl S X own key reads sa sc va vn vc w w3) (hb : Below w3.heap.size w3 w4) (hN : N ≤ w3.heap.size) : SetUp N ts bl S X own key reads sa sc va vn vc w w4 where
  below := h.below.trans (hb.mono hN)
  row := h.row.of_block (hb.block _ h.row.lt)
  tabs := fun t ht => (h.tabs t ht).below hb
  blk := h.blk.below hb
  c2 := (hb.cell (World.block_lt_of_cell? _ _ h.c2)).trans h.c2
  c3 := (hb.cell (World.block_lt_of_cell? _ _ h.c3)).trans h.c3
  c5 := (hb.cell (World.block_lt_of_cell? _ _ h.c5)).trans h.c5
  c7 := (hb.cell (World.block_lt_of_cell? _ _ h.c7)).trans h.c7
  str := h.str.below hb
  far := h.far

/-- The statement's cells. -/
abbrev stCells (own : Option Addr) (key reads scans : Value) : Array Value :=
  #[.int .i64 0, .int .i64 0, .pointer own, key, .pointer none, reads, .slice none 0 0, scans, .slice none 0 0, .string ⟨#[]⟩, .slice none 0 0, .slice none 0 0]

theorem cell_of_heap {w : World} {b o : Nat} {cs : Array Value} {t : TypeId} {m : Nat × Nat} {v : Value} (h : w.heap[b]? = some (.cells cs t m)) (hv : cs[o]? = some v) : w.cell? ⟨b, o, none⟩ = some v := by
  simp [World.cell?, h, hv]

section
variable {ts : List Cols} {bl : List Bool} {w w1 wr : World} {own : Option Addr} {reads : Value} {sa : Option Addr} {sc : Nat} {va : Option Addr} {vn vc : Nat}
theorem setUp_of {w3 : World} {S X : Nat} {key : Value} (hm : Making w.heap.size ts ts.length w w1) (hb : Below w1.heap.size w1 wr) (hblk : BlkRow wr sa (scn bl w.heap.size ts.length)) (h3 : Below wr.heap.size wr w3)
    (hS : w3.heap[S]? = some (.cells (stCells own key reads (.slice sa (scn bl w.heap.size ts.length).length sc)) 39 (0, 0))) (hX : IsTab w3 X (.slice va vn vc)) (hfar : wr.heap.size ≤ X) :
    SetUp w.heap.size ts bl S X own key reads sa sc va vn vc w w3 := by
  have hN : w.heap.size ≤ w1.heap.size := by rw [hm.size]; omega
  have h13 : Below w1.heap.size w1 w3 := hb.trans (h3.mono hb.size)
  exact {
    below := hm.below.trans (h13.mono hN)
    row := hm.row.of_block (h13.block _ hm.row.lt)
    tabs := fun t ht => (hm.tabs t ht).below h13
    blk := hblk.below h3
    c2 := cell_of_heap hS rfl
    c3 := cell_of_heap hS rfl
    c5 := cell_of_heap hS rfl
    c7 := cell_of_heap hS rfl
    str := hX
    far := by have := hb.size; have := hm.size; omega }

theorem setUp_un (hm : Making w.heap.size ts ts.length w w1) (hb : Below w1.heap.size w1 wr) (hblk : BlkRow wr sa (scn bl w.heap.size ts.length)) :
    SetUp w.heap.size ts bl wr.heap.size (wr.heap.size + 1) own (.slice none 0 0) reads sa sc va vn vc w
      ((wr.alloc (.cells (stCells own (.slice none 0 0) reads (.slice sa (scn bl w.heap.size ts.length).length sc)) 39)).alloc (.cells #[.string ⟨#[116]⟩, .slice va vn vc, .slice none 0 0, .map none] 49)) := by
  refine setUp_of hm hb hblk (((Below.refl _ _).alloc (Nat.le_refl _) _).alloc (by simp) _) ?_ ?_ (by omega)
  · rw [Below.heap_alloc _ _ _ (by simp)]; exact heap_alloc_new _ _
  · unfold IsTab
    have e : wr.heap.size + 1 = (wr.alloc (.cells (stCells own (.slice none 0 0) reads (.slice sa (scn bl w.heap.size ts.length).length sc)) 39)).heap.size := by simp
    rw [e]; exact heap_alloc_new _ _

theorem setUp_key {ko : Obj} (hm : Making w.heap.size ts ts.length w w1) (hb : Below w1.heap.size w1 wr) (hblk : BlkRow wr sa (scn bl w.heap.size ts.length)) :
    SetUp w.heap.size ts bl wr.heap.size (wr.heap.size + 1 + 1) own (.slice (some ⟨wr.heap.size + 1, 0, none⟩) 1 1) reads sa sc va vn vc w
      (((wr.alloc (.cells (stCells own (.slice (some ⟨wr.heap.size + 1, 0, none⟩) 1 1) reads (.slice sa (scn bl w.heap.size ts.length).length sc)) 39)).alloc ko).alloc (.cells #[.string ⟨#[116]⟩, .slice va vn vc, .slice none 0 0, .map none] 49)) := by
  refine setUp_of hm hb hblk ((((Below.refl _ _).alloc (Nat.le_refl _) _).alloc (by simp) _).alloc (by simp; omega) _) ?_ ?_ (by omega)
  · rw [Below.heap_alloc _ _ _ (by simp; omega), Below.heap_alloc _ _ _ (by simp)]; exact heap_alloc_new _ _
  · unfold IsTab
    have e : wr.heap.size + 1 + 1 = ((wr.alloc (.cells (stCells own (.slice (some ⟨wr.heap.size + 1, 0, none⟩) 1 1) reads (.slice sa (scn bl w.heap.size ts.length).length sc)) 39)).alloc ko).heap.size := by simp
    rw [e]; exact heap_alloc_new _ _
end

/-! ### What is gathered by append: strings -/
structure Gath (B : Nat) (L : List ByteArray) (w3 : World) (v : Value) (wr : World) : Prop where
  own : wr.ownsRow B 9 1 v L.length (L.map Value.string)
  below : Below B w3 wr

theorem Gath.start (w3 : World) : Gath w3.heap.size [] w3 (.slice none 0 0) w3 := ⟨World.ownsRow_nil _ _ _ _, Below.refl _ _⟩
theorem Gath.drewN {B : Nat} {L : List ByteArray} {w3 : World} {v : Value} {wr : World} (h : Gath B L w3 v wr) (n : Nat) : Gath B L w3 v (wr.drewN n) := by
  induction n with
  | zero => exact h
  | succ n ih => exact ⟨ih.own.drew, ih.below.drew⟩
theorem Gath.add {B : Nat} {L M : List ByteArray} {w3 : World} {v : Value} {wr : World} (h : Gath B L w3 v wr) (hB : B ≤ wr.heap.size) {v' : Value} {w' : World}
    (hown : w'.ownsRow B 9 1 v' (L.length + M.length) (L.map Value.string ++ M.map Value.string)) (hg : wr.grownBy w' v.ownBlock) : Gath B (L ++ M) w3 v' w' := by
  constructor
  · simpa using hown
  · exact h.below.grown hg hB (fun j hj => (h.own.lt j hj).1)

theorem Gath.form {B : Nat} {L : List ByteArray} {w3 : World} {v : Value} {wr : World} (h : Gath B L w3 v wr) : ∃ a c, v = .slice a L.length c ∧ StrRow wr a L := by
  rcases h.own.2 with ⟨hv, hl⟩ | ⟨g, cap, cur, hv, _, hh, _, _, _, htk⟩
  · exact ⟨none, 0, by rw [hl]; exact hv, .inl (List.eq_nil_of_length_eq_zero hl)⟩
  · refine ⟨_, cap, hv, .inr ⟨g, 0, rfl, (Array.getElem?_eq_some_iff.1 hh).1, fun j hj => ?_⟩⟩
    have hc := h.own.cells (g := g) (by rw [hv]; rfl) j (.string (L.getD j ByteArray.empty)) (by rw [List.getElem?_map, getD_at hj, List.getElem?_eq_getElem hj]; rfl)
    rw [Addr.add_lit, Nat.zero_add] at hc
    rw [Nat.zero_add]
    exact hc

theorem below_drewN' {B : Nat} {w w' : World} (h : Below B w w') (n : Nat) : Below B w (w'.drewN n) := by
  induction n with
  | zero => exact h
  | succ n ih => exact ih.drew

/-! ### The lists -/
def colsAt (ts : List Cols) (t : Nat) : List ByteArray := (ts.getD t ⟨none, [], 0⟩).xs
/-- Unkeyed: the flagged tables' columns among the first k. -/
def flU (ts : List Cols) (bl : List Bool) : Nat → List ByteArray
  | 0 => []
  | k + 1 => flU ts bl k ++ (if bl.getD k false then colsAt ts k else [])
/-- Keyed: the reads, once the own-th table has been passed. -/
def flK (own : Int) (rs : List ByteArray) (k : Nat) : List ByteArray := if 0 ≤ own ∧ own < k then rs else []
/-- The columns of the tables in these blocks. -/
def ofBlocks (ts : List Cols) (N : Nat) : List Nat → List ByteArray
  | [] => []
  | B :: r => colsAt ts (B - N - 1) ++ ofBlocks ts N r
theorem ofBlocks_append (ts : List Cols) (N : Nat) (l m : List Nat) : ofBlocks ts N (l ++ m) = ofBlocks ts N l ++ ofBlocks ts N m := by
  induction l with
  | nil => rfl
  | cons B r ih => simp [ofBlocks, ih]
theorem flU_blocks (ts : List Cols) (bl : List Bool) (N k : Nat) : flU ts bl k = ofBlocks ts N (scn bl N k) := by
  induction k with
  | zero => rfl
  | succ k ih =>
    cases h : bl.getD k false with
    | true =>
      rw [scn_yes h, ofBlocks_append, flU, ih, h]
      simp [ofBlocks, show N + 1 + k - N - 1 = k by omega]
    | false => rw [scn_no h, flU, ih, h]; simp
theorem flU_len {ts : List Cols} (bl : List Bool) (h : ∀ j, j < ts.length → (ts.getD j ⟨none, [], 0⟩).xs.length ≤ 1048576) (k : Nat) (hk : k ≤ ts.length) : (flU ts bl k).length ≤ k * 1048576 := by
  induction k with
  | zero => simp [flU]
  | succ k ih =>
    have h1 := ih (by omega)
    have h2 := h k (by omega)
    rw [flU, List.length_append]
    cases bl.getD k false
    · exact Nat.le_trans h1 (Nat.mul_le_mul_right _ (Nat.le_succ k))
    · simp only [if_true, colsAt]; omega
theorem ofBlocks_len {ts : List Cols} {bl : List Bool} {N : Nat} (h : ∀ j, j < ts.length → (ts.getD j ⟨none, [], 0⟩).xs.length ≤ 1048576) : ∀ (l : List Nat), (∀ B ∈ l, B ∈ scn bl N ts.length) → (ofBlocks ts N l).length ≤ l.length * 1048576
  | [], _ => by simp [ofBlocks]
  | B :: r, hl => by
    have h1 := ofBlocks_len h r (fun C hC => hl C (List.mem_cons_of_mem _ hC))
    obtain ⟨t, ht, _, e⟩ := mem_scn (hl B List.mem_cons_self)
    have h2 := h t ht
    rw [ofBlocks, List.length_append, e, show N + 1 + t - N - 1 = t by omega]
    simp only [List.length_cons, colsAt]
    omega
theorem take_snoc {α : Type} {l : List α} {j : Nat} {d : α} (h : j < l.length) : l.take (j + 1) = l.take j ++ [l.getD j d] := by
  rw [getD_at h, List.take_succ_eq_append_getElem h]
theorem scn_mem_iff {bl : List Bool} {N n k : Nat} (hk : k < n) : N + 1 + k ∈ scn bl N n ↔ bl.getD k false = true := by
  constructor
  · intro h
    obtain ⟨t, _, h2, e⟩ := mem_scn h
    rw [show k = t by omega]; exact h2
  · intro h
    unfold scn
    exact List.mem_map.2 ⟨k, List.mem_filter.2 ⟨List.mem_range.2 hk, h⟩, rfl⟩
theorem scn_far {bl : List Bool} {N n X : Nat} (h : N + 1 + n ≤ X) : X ∉ scn bl N n := fun hm => by
  obtain ⟨t, ht, _, e⟩ := mem_scn hm
  omega

theorem ownB_some {N : Nat} {own : Int} {n B : Nat} (h : ownB N own n = some B) : ∃ t : Nat, t < n ∧ own = (t : Int) ∧ B = N + 1 + t := by
  unfold ownB at h
  split at h
  · rename_i h2
    exact ⟨own.toNat, by omega, by omega, (Option.some.inj h).symm⟩
  · cases h
theorem flK_at (rs : List ByteArray) (k : Nat) : flK (k : Int) rs (k + 1) = rs := by unfold flK; rw [if_pos (by omega)]
theorem flK_before (rs : List ByteArray) (k : Nat) : flK (k : Int) rs k = [] := by unfold flK; rw [if_neg (by omega)]
theorem flK_other {own : Int} (rs : List ByteArray) {k : Nat} (h : own ≠ (k : Int)) : flK own rs (k + 1) = flK own rs k := by
  unfold flK
  by_cases h2 : 0 ≤ own ∧ own < (k : Int)
  · rw [if_pos h2, if_pos (by omega)]
  · rw [if_neg h2, if_neg (by omega)]
theorem flK_len (own : Int) (rs : List ByteArray) (k : Nat) : (flK own rs k).length ≤ rs.length := by
  unfold flK; split <;> simp

theorem info9 : (Try.prog.info? 9).map (fun i => (i.zero, i.size, i.bytes)) = some (some (.string ByteArray.empty), 1, 16) := by kernel_rfl
theorem strs_oneCell (L : List ByteArray) : ∀ u ∈ L.map Value.string, u.oneCell' = true := by
  intro u hu
  obtain ⟨_, _, rfl⟩ := List.mem_map.1 hu
  rfl
/-- The cells of a slice of strings, as the law on append asks them. -/
theorem StrRow.news {w : World} {ad : Addr} {xs : List ByteArray} (h : StrRow w (some ad) xs) : ∀ j u, (xs.map Value.string)[j]? = some u → w.cell? (ad.add j) = some u := by
  intro j u hu
  rw [List.getElem?_map] at hu
  obtain ⟨x, hx, rfl⟩ := Option.map_eq_some_iff.1 hu
  obtain ⟨hj, e⟩ := List.getElem?_eq_some_iff.1 hx
  rcases h with h | ⟨b, off, h, _, hc⟩
  · subst h; simp at hj
  · obtain rfl := Option.some.inj h
    rw [Addr.add_lit, hc j hj, getD_at hj, e]

end Go.Proofs.Qxb6618532a
