/-
  Seat b6618532a: the text writer in memory (a block of eight cells, its strings.Builder in the last two), and strings.Builder's copyCheck, WriteString and String at that field.
-/
import Derived.Test.Qxb6618532aGuards
import Derived.Lib.Builder
import Derived.Lib.AppendStr
import Derived.Lib.UnsafeStr
import Derived.Lib.Walk
import Derived.Laws.Externs
import Derived.Deep.OwnRows
import Derived.OneCell
namespace Go.Proofs.Qxb6618532a
open Go.RowKit

/-- The writer's cells: src, base, toks, rws, next, limit, b.addr, b.buf. -/
abbrev twCells (t r n p b : Value) : Array Value := #[.string ⟨#[]⟩, .int .i64 0, t, r, n, .int .i64 0, p, b]

theorem cellAt {w : World} {b o : Nat} {cs : Array Value} {t : TypeId} {m : Nat × Nat} {v : Value} (h : w.heap[b]? = some (.cells cs t m)) (hv : cs[o]? = some v) : w.cell? ⟨b, o, none⟩ = some v := by
  simp [World.cell?, h, hv]
theorem freeAt {w : World} {b : Nat} {cs : Array Value} {t : TypeId} (h : w.heap[b]? = some (.cells cs t (0, 0))) (o : Nat) : w.frozen? ⟨b, o, none⟩ = false := by
  simp [World.frozen?, h]
theorem shapeAt {w : World} {b : Nat} {cs : Array Value} {t : TypeId} {m : Nat × Nat} (h : w.heap[b]? = some (.cells cs t m)) : w.shape? b = some (t, cs.size) := by
  simp [World.shape?, h]
theorem blk_setCell {w : World} {b o : Nat} {cs : Array Value} {t : TypeId} {m : Nat × Nat} (h : w.heap[b]? = some (.cells cs t m)) (v : Value) : (w.setCell ⟨b, o, none⟩ v).heap[b]? = some (.cells (cs.setIfInBounds o v) t m) := by
  simp [World.setCell, Array.getElem?_modify, h]

theorem info78 : ∃ j, Try.prog.info? 78 = some j ∧ j.size = 2 := by
  have h : (Try.prog.info? 78).map (fun i => i.size) = some 2 := by kernel_rfl
  obtain ⟨j, hj, hs⟩ := Option.map_eq_some_iff.1 h
  exact ⟨j, hj, hs⟩
theorem lies78 : liesAt Try.prog Try.prog.depth 80 (8 / Try.prog.cellsOf 80) 6 78 1 = true := by kernel_rfl
theorem infoByte : (Try.prog.info? 5).map (fun i => (i.zero, i.size, i.bytes)) = some (some (.int .u8 0), 1, 1) := by kernel_rfl

/-- '*strings.Builder' to the bare pointer type and back, at the writer's field: the address as it is. -/
theorem toP (W : Nat) (w : World) (hsh : w.shape? W = some (80, 8)) : (convert 75 103 (.pointer (some ⟨W, 6, none⟩))).run Try.prog w = .ok (.pointer (some ⟨W, 6, none⟩)) w := by
  obtain ⟨j, hj, hjs⟩ := info78
  simp only [convert, run_underlying Try.underlying75, run_underlying Try.underlying103, Sem.run_bind, Result.andThen_ok]
  change Sem.run Try.prog (underlying 75 >>= _) w = _
  simp [run_underlying Try.underlying75, run_underlying Try.underlying103, Conv.seenAt, viewAt, cellsIn, hsh, sizeOf, typeInfo, hj, hjs]
theorem fromP (W : Nat) (w : World) (hsh : w.shape? W = some (80, 8)) : (convert 103 75 (.pointer (some ⟨W, 6, none⟩))).run Try.prog w = .ok (.pointer (some ⟨W, 6, none⟩)) w := by
  obtain ⟨j, hj, hjs⟩ := info78
  have hl := lies78
  simp only [convert, run_underlying Try.underlying75, run_underlying Try.underlying103, Sem.run_bind, Result.andThen_ok]
  change Sem.run Try.prog (underlying 103 >>= _) w = _
  simp [run_underlying Try.underlying75, run_underlying Try.underlying103, Conv.seenAt, viewAt, variablesAt, hsh, sizeOf, typeInfo, hj, hl]

set_option maxHeartbeats 1000000 in
set_option maxRecDepth 100000 in
theorem copyCheck_used (W : Nat) (w : World) (h0 : w.cell? ⟨W, 6, none⟩ = some (.pointer (some ⟨W, 6, none⟩))) :
    Calls Try.prog 29 #[.pointer (some ⟨W, 6, none⟩)] w fun e w' => e = .returned (.tuple #[]) ∧ w' = w := by
  obtain ⟨j, hj, _⟩ := info78
  have hne := Lib.run_neq_ptr_same w ⟨W, 6, none⟩ Try.underlying75 hj
  go_enter Try.func29, Try.ntmps29
  go_wp2
  go_end0
  exact ⟨rfl, rfl⟩

theorem noEscape (x : Value) (w : World) : (callFunc 35 #[x]).run Try.prog w = .ok (.value x) w := by
  rw [run_callFunc_extern Try.func35 (by kernel_rfl) (by kernel_rfl) (by kernel_rfl) (e := Extern.AbiNoEscape.same) (by kernel_rfl), Lib.run_noEscape]
  rfl

set_option maxHeartbeats 1000000 in
set_option maxRecDepth 100000 in
theorem copyCheck_fresh (W : Nat) (w : World) (h0 : w.cell? ⟨W, 6, none⟩ = some (.pointer none)) (hsh : w.shape? W = some (80, 8)) (hfz : w.frozen? ⟨W, 6, none⟩ = false) :
    Calls Try.prog 29 #[.pointer (some ⟨W, 6, none⟩)] w fun e w' => e = .returned (.tuple #[]) ∧ w' = w.setCell ⟨W, 6, none⟩ (.pointer (some ⟨W, 6, none⟩)) := by
  obtain ⟨j, hj, hjs⟩ := info78
  have h1 := toP W w hsh
  have h2 := fromP W w hsh
  have h3 := noEscape (.pointer (some ⟨W, 6, none⟩)) w
  have hne := Lib.run_neq_ptr_same (w.setCell ⟨W, 6, none⟩ (.pointer (some ⟨W, 6, none⟩))) ⟨W, 6, none⟩ Try.underlying75 hj
  go_enter Try.func29, Try.ntmps29
  go_wp2
  go_end0
  exact ⟨rfl, rfl⟩

/-! ### The writer's state -/
theorem own_block {w : World} {B : Nat} {e : TypeId} {s : Nat} {v : Value} {n : Nat} {xs : List Value} (h : w.ownsRow B e s v n xs) {k : Nat} (hk : v.ownBlock = some k) : ∃ cur, w.heap[k]? = some (.cells cur e (0, 0)) := by
  rcases h.2 with ⟨rfl, _⟩ | ⟨g, cap, cur, rfl, _, hh, _⟩
  · cases hk
  · simp only [Value.ownBlock, Option.some.injEq] at hk; subst hk; exact ⟨cur, hh⟩
theorem own_ne {w : World} {B : Nat} {e e' : TypeId} {s s' : Nat} {v v' : Value} {n n' : Nat} {xs xs' : List Value} (h : w.ownsRow B e s v n xs) (h' : w.ownsRow B e' s' v' n' xs') (hne : e ≠ e') : v.ownBlock = none ∨ v.ownBlock ≠ v'.ownBlock := by
  cases hv : v.ownBlock with
  | none => exact .inl rfl
  | some k =>
    right
    intro hk
    obtain ⟨c1, h1⟩ := own_block h hv
    obtain ⟨c2, h2⟩ := own_block h' hk.symm
    rw [h1] at h2
    simp only [Option.some.injEq, Obj.cells.injEq] at h2
    exact hne h2.2.1
theorem own_ne_blk {w : World} {B : Nat} {e T : TypeId} {s : Nat} {v : Value} {n W : Nat} {xs : List Value} {cs : Array Value} {m : Nat × Nat} (h : w.ownsRow B e s v n xs) (hb : w.heap[W]? = some (.cells cs T m)) (hne : e ≠ T) : v.ownBlock ≠ some W := by
  intro hk
  obtain ⟨c1, h1⟩ := own_block h hk
  rw [h1] at hb
  simp only [Option.some.injEq, Obj.cells.injEq] at hb
  exact hne hb.2.1

/-- The writer lies in block W; its tokens, rewrites and buffer are rows of the call's own; 'next' is the row in block X. -/
structure TW (B W X : Nat) (tn : Nat) (T : List Value) (rn : Nat) (R : List Value) (nN : Nat) (nf : Nat → Value) (l : List UInt8) (tv rv p bv : Value) (w : World) : Prop where
  hB : B ≤ W
  hX : B ≤ X
  blk : w.heap[W]? = some (.cells (twCells tv rv (.slice (some ⟨X, 0, none⟩) nN nN) p bv) 80 (0, 0))
  toks : w.ownsRow B 87 5 tv tn T
  rws : w.ownsRow B 92 10 rv rn R
  buf : w.ownsRow B 5 1 bv l.length (Lib.byteCells l)
  nx : w.rowIs X 3 nN nf
  hp : p = .pointer none ∨ p = .pointer (some ⟨W, 6, none⟩)

section
variable {B W X tn rn nN : Nat} {T R : List Value} {nf : Nat → Value} {l : List UInt8} {tv rv p bv : Value} {w : World}

theorem TW.lt (h : TW B W X tn T rn R nN nf l tv rv p bv w) : W < w.heap.size := (Array.getElem?_eq_some_iff.1 h.blk).1

/-- A step that writes one of the writer's rows (or none) and keeps the others. -/
theorem TW.grow (h : TW B W X tn T rn R nN nf l tv rv p bv w) {w' : World} {row : Option Nat} (hg : w.grownBy w' row) (hW : row ≠ some W) (hXr : row ≠ some X) (h1 : tv.ownBlock = none ∨ tv.ownBlock ≠ row) (h2 : rv.ownBlock = none ∨ rv.ownBlock ≠ row) (h3 : bv.ownBlock = none ∨ bv.ownBlock ≠ row) :
    TW B W X tn T rn R nN nf l tv rv p bv w' where
  hB := h.hB
  hX := h.hX
  blk := (hg.block W h.lt (fun e => hW e.symm)).trans h.blk
  toks := h.toks.kept hg h1
  rws := h.rws.kept hg h2
  buf := h.buf.kept hg h3
  nx := h.nx.of_block (hg.block X h.nx.lt (fun e => hXr e.symm))
  hp := h.hp

/-- Nothing that was there has turned. -/
theorem TW.below (h : TW B W X tn T rn R nN nf l tv rv p bv w) {w' : World} (hb : Below w.heap.size w w') : TW B W X tn T rn R nN nf l tv rv p bv w' :=
  h.grow (row := none) ⟨hb.os, hb.tape, hb.output, hb.size, fun k hk _ => hb.block k hk⟩ (by simp) (by simp) (by cases tv.ownBlock <;> simp) (by cases rv.ownBlock <;> simp) (by cases bv.ownBlock <;> simp)

theorem ownB_tr {e : TypeId} {s n : Nat} {v : Value} {xs : List Value} (h : w.ownsRow B e s v n xs) (he : e ≠ 80) {cs : Array Value} {m : Nat × Nat} (hb : w.heap[W]? = some (.cells cs 80 m)) (o : Nat) (u : Value) : (w.setCell ⟨W, o, none⟩ u).ownsRow B e s v n xs :=
  ownsRow_setCell_other h (by show v.ownBlock ≠ some W; exact own_ne_blk h hb he) u

theorem TW.nxset (h : TW B W X tn T rn R nN nf l tv rv p bv w) (o : Nat) (u : Value) : (w.setCell ⟨W, o, none⟩ u).rowIs X 3 nN nf := by
  refine h.nx.setOther (a := ⟨W, o, none⟩) ?_ u
  show X ≠ W
  intro e
  obtain ⟨c, hc, _⟩ := h.nx
  rw [e, h.blk] at hc
  simp at hc

theorem TW.setp (h : TW B W X tn T rn R nN nf l tv rv p bv w) : TW B W X tn T rn R nN nf l tv rv (.pointer (some ⟨W, 6, none⟩)) bv (w.setCell ⟨W, 6, none⟩ (.pointer (some ⟨W, 6, none⟩))) where
  hB := h.hB
  hX := h.hX
  blk := blk_setCell h.blk _
  toks := ownB_tr h.toks (by decide) h.blk _ _
  rws := ownB_tr h.rws (by decide) h.blk _ _
  buf := ownB_tr h.buf (by decide) h.blk _ _
  nx := h.nxset _ _
  hp := .inr rfl

theorem nx_ne {e : TypeId} {s n : Nat} {v : Value} {xs : List Value} (h : w.ownsRow B e s v n xs) (he : e ≠ 3) (hn : w.rowIs X 3 nN nf) : v.ownBlock ≠ some X := by
  obtain ⟨c, hc, _⟩ := hn
  exact own_ne_blk h hc he

theorem TW.setBuf (h : TW B W X tn T rn R nN nf l tv rv p bv w) {w' : World} {bv' : Value} {l' : List UInt8} (hg : w.grownBy w' bv.ownBlock) (hown : w'.ownsRow B 5 1 bv' l'.length (Lib.byteCells l')) :
    TW B W X tn T rn R nN nf l' tv rv p bv' (w'.setCell ⟨W, 7, none⟩ bv') := by
  have hb : w'.heap[W]? = some (.cells (twCells tv rv (.slice (some ⟨X, 0, none⟩) nN nN) p bv) 80 (0, 0)) := (hg.block W h.lt (fun e => own_ne_blk h.buf h.blk (by decide) e.symm)).trans h.blk
  have ht := h.toks.kept hg (own_ne h.toks h.buf (by decide))
  have hr := h.rws.kept hg (own_ne h.rws h.buf (by decide))
  have hn : w'.rowIs X 3 nN nf := h.nx.of_block (hg.block X h.nx.lt (fun e => nx_ne h.buf (by decide) h.nx e.symm))
  have h' : TW B W X tn T rn R nN nf l' tv rv p bv' (w'.setCell ⟨W, 7, none⟩ bv') := {
    hB := h.hB
    hX := h.hX
    blk := blk_setCell hb _
    toks := ownB_tr ht (by decide) hb _ _
    rws := ownB_tr hr (by decide) hb _ _
    buf := ownB_tr hown (by decide) hb _ _
    nx := by
      refine hn.setOther (a := ⟨W, 7, none⟩) ?_ _
      show X ≠ W
      intro e
      obtain ⟨c, hc, _⟩ := hn
      rw [e, hb] at hc
      simp at hc
    hp := h.hp }
  exact h'

theorem TW.setToks (h : TW B W X tn T rn R nN nf l tv rv p bv w) {w' : World} {tv' : Value} {tn' : Nat} {T' : List Value} (hg : w.grownBy w' tv.ownBlock) (hown : w'.ownsRow B 87 5 tv' tn' T') :
    TW B W X tn' T' rn R nN nf l tv' rv p bv (w'.setCell ⟨W, 2, none⟩ tv') := by
  have hb : w'.heap[W]? = some (.cells (twCells tv rv (.slice (some ⟨X, 0, none⟩) nN nN) p bv) 80 (0, 0)) := (hg.block W h.lt (fun e => own_ne_blk h.toks h.blk (by decide) e.symm)).trans h.blk
  have ht := h.buf.kept hg (own_ne h.buf h.toks (by decide))
  have hr := h.rws.kept hg (own_ne h.rws h.toks (by decide))
  have hn : w'.rowIs X 3 nN nf := h.nx.of_block (hg.block X h.nx.lt (fun e => nx_ne h.toks (by decide) h.nx e.symm))
  exact {
    hB := h.hB
    hX := h.hX
    blk := blk_setCell hb _
    toks := ownB_tr hown (by decide) hb _ _
    rws := ownB_tr hr (by decide) hb _ _
    buf := ownB_tr ht (by decide) hb _ _
    nx := by
      refine hn.setOther (a := ⟨W, 2, none⟩) ?_ _
      show X ≠ W
      intro e
      obtain ⟨c, hc, _⟩ := hn
      rw [e, hb] at hc
      simp at hc
    hp := h.hp }

theorem TW.setRws (h : TW B W X tn T rn R nN nf l tv rv p bv w) {w' : World} {rv' : Value} {rn' : Nat} {R' : List Value} (hg : w.grownBy w' rv.ownBlock) (hown : w'.ownsRow B 92 10 rv' rn' R') :
    TW B W X tn T rn' R' nN nf l tv rv' p bv (w'.setCell ⟨W, 3, none⟩ rv') := by
  have hb : w'.heap[W]? = some (.cells (twCells tv rv (.slice (some ⟨X, 0, none⟩) nN nN) p bv) 80 (0, 0)) := (hg.block W h.lt (fun e => own_ne_blk h.rws h.blk (by decide) e.symm)).trans h.blk
  have ht := h.buf.kept hg (own_ne h.buf h.rws (by decide))
  have hr := h.toks.kept hg (own_ne h.toks h.rws (by decide))
  have hn : w'.rowIs X 3 nN nf := h.nx.of_block (hg.block X h.nx.lt (fun e => nx_ne h.rws (by decide) h.nx e.symm))
  exact {
    hB := h.hB
    hX := h.hX
    blk := blk_setCell hb _
    toks := ownB_tr hr (by decide) hb _ _
    rws := ownB_tr hown (by decide) hb _ _
    buf := ownB_tr ht (by decide) hb _ _
    nx := by
      refine hn.setOther (a := ⟨W, 3, none⟩) ?_ _
      show X ≠ W
      intro e
      obtain ⟨c, hc, _⟩ := hn
      rw [e, hb] at hc
      simp at hc
    hp := h.hp }
end

/-- The writer, its builder fresh or used, whatever its rows' values. -/
def TWs (B W X : Nat) (tn : Nat) (T : List Value) (rn : Nat) (R : List Value) (nN : Nat) (nf : Nat → Value) (l : List UInt8) (w : World) : Prop :=
  ∃ tv rv p bv, TW B W X tn T rn R nN nf l tv rv p bv w

section
variable {B W X tn rn nN : Nat} {T R : List Value} {nf : Nat → Value} {l : List UInt8} {tv rv p bv : Value} {w : World}
theorem TWs.below (h : TWs B W X tn T rn R nN nf l w) {w' : World} (hb : Below w.heap.size w w') : TWs B W X tn T rn R nN nf l w' := by
  obtain ⟨tv, rv, p, bv, h⟩ := h
  exact ⟨tv, rv, p, bv, h.below hb⟩

/-- Blocks that are neither the writer nor a row of bytes stand as they stood. -/
def KeepO (w w' : World) : Prop := ∀ (k : Nat) (cs : Array Value) (t : TypeId), w.heap[k]? = some (.cells cs t (0, 0)) → t ≠ 80 → t ≠ 5 → w'.heap[k]? = some (.cells cs t (0, 0))
theorem KeepO.refl (w : World) : KeepO w w := fun _ _ _ h _ _ => h
theorem KeepO.trans {a b c : World} (h : KeepO a b) (k : KeepO b c) : KeepO a c := fun i cs t hi h1 h2 => k i cs t (h i cs t hi h1 h2) h1 h2
theorem KeepO.below {w w' : World} (h : Below w.heap.size w w') : KeepO w w' := fun k _ _ hk _ _ => (h.block k (Array.getElem?_eq_some_iff.1 hk).1).trans hk
theorem KeepO.setW {w : World} {W o : Nat} {cs : Array Value} (hb : w.heap[W]? = some (.cells cs 80 (0, 0))) (u : Value) : KeepO w (w.setCell ⟨W, o, none⟩ u) := fun k cs' t hk h1 _ => by
  rw [Below.heap_setCell _ _ _ _ (by show k ≠ W; intro e; subst e; rw [hb] at hk; simp only [Option.some.injEq, Obj.cells.injEq] at hk; exact h1 hk.2.1.symm)]
  exact hk
theorem KeepO.grown {w w' : World} {v : Value} {s n : Nat} {xs : List Value} (h : w.ownsRow B 5 s v n xs) (hg : w.grownBy w' v.ownBlock) : KeepO w w' := fun k cs t hk _ h2 => by
  rw [hg.block k (Array.getElem?_eq_some_iff.1 hk).1 (fun e => own_ne_blk h hk (fun e2 => h2 e2.symm) e.symm)]
  exact hk

theorem copyCheck_any (h : TW B W X tn T rn R nN nf l tv rv p bv w) :
    Calls Try.prog 29 #[.pointer (some ⟨W, 6, none⟩)] w fun e w' => e = .returned (.tuple #[]) ∧ TW B W X tn T rn R nN nf l tv rv (.pointer (some ⟨W, 6, none⟩)) bv w' ∧ Below B w w' ∧ KeepO w w' := by
  rcases h.hp with rfl | rfl
  · refine (copyCheck_fresh W w (cellAt h.blk rfl) (shapeAt h.blk) (freeAt h.blk _)).mono ?_
    rintro e w' ⟨rfl, rfl⟩
    exact ⟨rfl, h.setp, (Below.refl _ _).setCell (p := ⟨W, 6, none⟩) h.hB _, KeepO.setW h.blk _⟩
  · refine (copyCheck_used W w (cellAt h.blk rfl)).mono ?_
    rintro e w' ⟨rfl, rfl⟩
    exact ⟨rfl, h, Below.refl _ _, KeepO.refl _⟩
end

set_option maxHeartbeats 2000000 in
set_option maxRecDepth 100000 in
theorem writeString_any (B W X tn : Nat) (T : List Value) (rn : Nat) (R : List Value) (nN : Nat) (nf : Nat → Value) (l : List UInt8) (s : ByteArray) (w : World) (h : TWs B W X tn T rn R nN nf l w) (hlen : l.length + s.size ≤ 140737488355328) (hBw : B ≤ w.heap.size) :
    Calls Try.prog 25 #[.pointer (some ⟨W, 6, none⟩), .string s] w fun e w' => e = .returned (.tuple #[.int .i64 s.size, .nilIface]) ∧ TWs B W X tn T rn R nN nf (l ++ s.data.toList) w' ∧ Below B w w' ∧ KeepO w w' := by
  obtain ⟨tv, rv, p, bv, h⟩ := h
  obtain ⟨i0, hi, hz0, hz1, hz2⟩ := info_parts infoByte
  have HCC : Hid (Calls Try.prog 29 #[.pointer (some ⟨W, 6, none⟩)] w fun e w' => e = .returned (.tuple #[]) ∧ TW B W X tn T rn R nN nf l tv rv (.pointer (some ⟨W, 6, none⟩)) bv w' ∧ Below B w w' ∧ KeepO w w') := copyCheck_any h
  clear h
  go_enter Try.func25, Try.ntmps25
  go_wp2_with (go_at_call 29; refine HCC.out.mono ?_)
  rintro e w1 ⟨rfl, h1, hb1, hk1⟩
  have HK1 : Hid (KeepO w w1) := hk1
  clear hk1
  have hsz := hb1.size
  have c1 := cellAt (o := 7) h1.blk rfl
  have hown := h1.buf
  have H1 : Hid (TW B W X tn T rn R nN nf l tv rv (.pointer (some ⟨W, 6, none⟩)) bv w1) := h1
  clear h1 HCC
  go_wp2_with (at_builtin; refine Lib.wpList_append_own_string _ rfl _ _ 76 9 rfl B 5 i0 Try.underlying76 Try.underlying9 hi hz0 hz1 hz2 _ _ _ rfl hown s rfl ?c3 ?c4 ?c5 ?_)
  case c3 => unfold maxLen; omega
  case c4 => omega
  case c5 => omega
  intro v' w2 hown' hgrow _
  have hown2 : w2.ownsRow B 5 1 v' (l ++ s.data.toList).length (Lib.byteCells (l ++ s.data.toList)) := by
    rw [Lib.byteCells_append, ← Lib.strCells_eq]; simpa [Lib.strCells_length] using hown'
  have hb2 : w2.heap[W]? = _ := (hgrow.block W H1.out.lt (fun e => own_ne_blk H1.out.buf H1.out.blk (by decide) e.symm)).trans H1.out.blk
  have d7 := cellAt (o := 7) hb2 rfl
  have f7 := freeAt hb2 7
  have R2 : Hid (TWs B W X tn T rn R nN nf (l ++ s.data.toList) (w2.setCell ⟨W, 7, none⟩ v')) := ⟨_, _, _, _, H1.out.setBuf hgrow hown2⟩
  have HB : Hid (Below B w (w2.setCell ⟨W, 7, none⟩ v')) := (hb1.grown hgrow (by omega) (fun k hk => (H1.out.buf.lt k hk).1)).setCell (p := ⟨W, 7, none⟩) H1.out.hB _
  have HK : Hid (KeepO w (w2.setCell ⟨W, 7, none⟩ v')) := (HK1.out.trans (KeepO.grown H1.out.buf hgrow)).trans (KeepO.setW hb2 _)
  obtain ⟨ao, n', cap, hv⟩ : ∃ ao n' cap, v' = .slice ao n' cap := by
    rcases hown'.2 with ⟨hv, _⟩ | ⟨g, cap, cur, hv, _⟩
    · exact ⟨_, _, _, hv⟩
    · exact ⟨_, _, _, hv⟩
  subst hv
  clear hown' hgrow hown2 hown c1 hb2
  go_wp2
  go_ret2
  exact ⟨rfl, R2.out, HB.out, HK.out⟩

end Go.Proofs.Qxb6618532a
