/-
  Seat b6618532a: 'Rows.FnPiecesWritesTheMadeRewritesInOrderSaid', proved: the arguments opened, the walk, the row.
-/
import Derived.Test.Qxb6618532aRows
import Derived.Test.Qxb6618532aPLaw
import Derived.ProofKit
import Derived.OpenShut
import Derived.ShutString
import Derived.ChangeOld
import Derived.Deep.Slices
import Derived.Deep.Strs
namespace Go.Proofs.Qxb6618532a
open Go.ChangeShapes Go.WideShapes Go.ChangeAt Go.RowKit Go.Deep
open Go.ChangeMaps (open_string shut_string)
set_option linter.unusedVariables false

theorem ownP : ownKnob Try.prog.godebug = none := by kernel_rfl
theorem laidOutP : laidOutB Try.prog = true := by kernel_rfl

theorem addr_plainP {w : World} {a : Addr} {v : Value} (h : w.cell? (a.add 0) = some v) : ∃ b off, a = ⟨b, off, none⟩ := by
  obtain ⟨b, off, spot⟩ := a
  have hspot : spot = none := by simpa [Addr.add] using World.cell?_spot h
  exact ⟨b, off, by rw [hspot]⟩

theorem getD_map_rangeP {α : Type} (f : Nat → α) (n j : Nat) (d : α) (h : j < n) : ((List.range n).map f).getD j d = f j := by
  simp [List.getD, h]

section
variable {H : Type} {enc : TypeId × Value → H} {W : World}
set_option maxRecDepth 100000 in
theorem tokRow_of {fuel : Nat} {v : Value} {x : DataW H × List MemPlace} (h : DataW.trod enc Try.prog W 0 (fun _ => true) true fuel 52 [v] = some x) :
    ∃ a tl c, v = .slice a tl.length c ∧ TokRow W a tl := by
  rcases open_slice Try.underlying52 h with ⟨hcs, _⟩ | ⟨a, len, cap, m, n, D, Pl, hcs, _, hl, _, hm, _, hcell⟩
  · obtain rfl : v = .slice none 0 0 := by simpa using hcs
    exact ⟨none, [], 0, rfl, .inl rfl⟩
  · obtain rfl : v = .slice (some a) len cap := by simpa using hcs
    simp only [if_true] at hm
    subst hm
    have ce : Try.prog.cellsOf 61 = 2 := by kernel_rfl
    have c3 : Try.prog.cellsOf 3 = 1 := by kernel_rfl
    have c9 : Try.prog.cellsOf 9 = 1 := by kernel_rfl
    rw [ce] at hcell
    obtain ⟨R0, hR0⟩ := choose_lt (n := len) (α := Int × ByteArray) (p := fun i r => W.cell? (a.add (i * 2)) = some (.int .i64 r.1) ∧ W.cell? (a.add (i * 2 + 1)) = some (.string r.2)) (fun i hi => by
      obtain ⟨cs', h1, h2⟩ := hcell i (by omega)
      obtain ⟨_, hlen, hc⟩ := World.cells?_some h1
      obtain ⟨xs, k, hk, hxy, _, hxl, hf⟩ := DataW.trod_struct Try.underlying61 h2
      match xs, hxl, cs', hlen with
      | [y0, y1], _, [v0, v1], _ =>
        have g0 := hf 0 _ rfl
        have g1 := hf 1 _ rfl
        simp [c3, c9] at g0 g1
        obtain ⟨n0, q0, _⟩ := DataW.trod_int Try.underlying3 g0
        obtain ⟨n1, q1, _⟩ := DataW.trod_string Try.underlying9 g1
        have e0 := hc 0 (by omega)
        have e1 := hc 1 (by omega)
        rw [add_add] at e0 e1
        exact ⟨(n0, n1), by simpa [q0] using e0.trans (by simpa using q0), by simpa [q1] using e1.trans (by simpa using q1)⟩)
    refine ⟨some a, (List.range len).map (fun i => ⟨(R0 i).1, (R0 i).2⟩), m, by simp, ?_⟩
    by_cases h0 : len = 0
    · subst h0; exact .inl rfl
    · obtain ⟨b, off, rfl⟩ := addr_plainP (by have := (hR0 0 (by omega)).1; rwa [Nat.zero_mul] at this)
      refine .inr ⟨b, off, rfl, World.block_lt_of_cell? _ _ (hR0 0 (by omega)).1, fun j hj => ?_⟩
      have hj' : j < len := by simpa using hj
      rw [getD_map_rangeP _ _ _ _ hj']
      have q := hR0 j hj'
      rw [Addr.add_lit, Addr.add_lit, ← Nat.add_assoc] at q
      exact q

set_option maxRecDepth 100000 in
theorem rwRow_of {fuel : Nat} {v : Value} {x : DataW H × List MemPlace} (h : DataW.trod enc Try.prog W 0 (fun _ => true) true fuel 53 [v] = some x) :
    ∃ a rl c, v = .slice a rl.length c ∧ RwRow W a rl := by
  rcases open_slice Try.underlying53 h with ⟨hcs, _⟩ | ⟨a, len, cap, m, n, D, Pl, hcs, _, hl, _, hm, _, hcell⟩
  · obtain rfl : v = .slice none 0 0 := by simpa using hcs
    exact ⟨none, [], 0, rfl, .inl rfl⟩
  · obtain rfl : v = .slice (some a) len cap := by simpa using hcs
    simp only [if_true] at hm
    subst hm
    have ce : Try.prog.cellsOf 64 = 4 := by kernel_rfl
    have c3 : Try.prog.cellsOf 3 = 1 := by kernel_rfl
    have c9 : Try.prog.cellsOf 9 = 1 := by kernel_rfl
    have c4 : Try.prog.cellsOf 4 = 1 := by kernel_rfl
    rw [ce] at hcell
    obtain ⟨R0, hR0⟩ := choose_lt (n := len) (α := ByteArray × Int × Int × Bool) (p := fun i r => W.cell? (a.add (i * 4)) = some (.string r.1) ∧ W.cell? (a.add (i * 4 + 1)) = some (.int .i64 r.2.1) ∧ W.cell? (a.add (i * 4 + 2)) = some (.int .i64 r.2.2.1) ∧ W.cell? (a.add (i * 4 + 3)) = some (.bool r.2.2.2)) (fun i hi => by
      obtain ⟨cs', h1, h2⟩ := hcell i (by omega)
      obtain ⟨_, hlen, hc⟩ := World.cells?_some h1
      obtain ⟨xs, k, hk, hxy, _, hxl, hf⟩ := DataW.trod_struct Try.underlying64 h2
      match xs, hxl, cs', hlen with
      | [y0, y1, y2, y3], _, [v0, v1, v2, v3], _ =>
        have g0 := hf 0 _ rfl
        have g1 := hf 1 _ rfl
        have g2 := hf 2 _ rfl
        have g3 := hf 3 _ rfl
        simp [c3, c9, c4] at g0 g1 g2 g3
        obtain ⟨n0, q0, _⟩ := DataW.trod_string Try.underlying9 g0
        obtain ⟨n1, q1, _⟩ := DataW.trod_int Try.underlying3 g1
        obtain ⟨n2, q2, _⟩ := DataW.trod_int Try.underlying3 g2
        obtain ⟨n3, q3, _⟩ := DataW.trod_bool Try.underlying4 g3
        have e0 := hc 0 (by omega)
        have e1 := hc 1 (by omega)
        have e2 := hc 2 (by omega)
        have e3 := hc 3 (by omega)
        rw [add_add] at e0 e1 e2 e3
        exact ⟨(n0, n1, n2, n3), e0.trans (by simpa using q0), e1.trans (by simpa using q1), e2.trans (by simpa using q2), e3.trans (by simpa using q3)⟩)
    refine ⟨some a, (List.range len).map (fun i => ⟨(R0 i).1, (R0 i).2.1, (R0 i).2.2.1, (R0 i).2.2.2⟩), m, by simp, ?_⟩
    by_cases h0 : len = 0
    · subst h0; exact .inl rfl
    · obtain ⟨b, off, rfl⟩ := addr_plainP (by have := (hR0 0 (by omega)).1; rwa [Nat.zero_mul] at this)
      refine .inr ⟨b, off, rfl, World.block_lt_of_cell? _ _ (hR0 0 (by omega)).1, fun j hj => ?_⟩
      have hj' : j < len := by simpa using hj
      rw [getD_map_rangeP _ _ _ _ hj']
      have q := hR0 j hj'
      rw [Addr.add_lit, Addr.add_lit, Addr.add_lit, Addr.add_lit, ← Nat.add_assoc, ← Nat.add_assoc, ← Nat.add_assoc] at q
      exact q
end

set_option maxRecDepth 100000 in
theorem pieces_lifted (os : Os) (started : os.Started) (H : Type) (enc : TypeId × Value → H) :
    ReturnsInHanded {} Try.checked os 4 .any (Rows.fnPiecesWritesTheMadeRewritesInOrderSpec.pre6 enc Try.prog Try.f4 Rows.fnPiecesWritesTheMadeRewritesInOrderRow.domain false) (Rows.fnPiecesWritesTheMadeRewritesInOrderSpec.post enc Try.prog Try.f4 false true false false) := by
  refine returnsInHanded_of_change (C := Try.checked) ownP started (by kernel_rfl) Try.func4
    (ChangeSpec.witness6 (enc := enc) (C := Try.checked) false ⟨#[], #[.slice none 0 0, .slice none 0 0, .int .i64 0, .int .i64 0, .int .i64 0, .int .i64 0, .bool false, .int .i64 0, .int .i64 0, .string ByteArray.empty], []⟩ 8 (by kernel_rfl) (by kernel_rfl) (by kernel_rfl) (by kernel_rfl)) ?_
  intro W base args ds gs before hval0 hW hcnd _
  have hval : ∀ (j : Nat) t v, Try.f4.params[j]? = some t → args[j]? = some v → Value.okWide Try.prog W .any base t v := hval0
  have hW' := hW
  obtain ⟨p, q, hA0, hV, rfl, hfz, hnd⟩ := hW
  have hA : DataW.TrodAll enc Try.prog W 0 (fun _ => true) true Try.f4.params.toList args.toList ds p := hA0
  rw [Try.params4] at hA hval
  obtain ⟨v0, vs0, d0, ds0, p0, q0, hargs, rfl, rfl, h0, r0⟩ := trodAll_cons hA
  obtain ⟨v1, vs1, d1, ds1, p1, q1, rfl, rfl, rfl, h1, r1⟩ := trodAll_cons r0
  obtain ⟨v2, vs2, d2, ds2, p2, q2, rfl, rfl, rfl, h2, r2⟩ := trodAll_cons r1
  obtain ⟨v3, vs3, d3, ds3, p3, q3, rfl, rfl, rfl, h3, r3⟩ := trodAll_cons r2
  obtain ⟨v4, vs4, d4, ds4, p4, q4, rfl, rfl, rfl, h4, r4⟩ := trodAll_cons r3
  obtain ⟨v5, vs5, d5, ds5, p5, q5, rfl, rfl, rfl, h5, r5⟩ := trodAll_cons r4
  obtain ⟨v6, vs6, d6, ds6, p6, q6, rfl, rfl, rfl, h6, r6⟩ := trodAll_cons r5
  obtain ⟨v7, vs7, d7, ds7, p7, q7, rfl, rfl, rfl, h7, r7⟩ := trodAll_cons r6
  obtain ⟨v8, vs8, d8, ds8, p8, q8, rfl, rfl, rfl, h8, r8⟩ := trodAll_cons r7
  obtain ⟨v9, vs9, d9, ds9, p9, q9, rfl, rfl, rfl, h9, r9⟩ := trodAll_cons r8
  obtain ⟨rfl, rfl, rfl⟩ := trodAll_nil r9
  obtain rfl : args = #[v0, v1, v2, v3, v4, v5, v6, v7, v8, v9] := by cases args; simp_all
  obtain ⟨rfl, rfl⟩ := trodVars_none hV
  obtain ⟨s0, l0, k0', rfl⟩ := okWide_slice Try.underlying52 (hval 0 52 v0 rfl rfl)
  obtain ⟨s1, l1, k1', rfl⟩ := okWide_slice Try.underlying53 (hval 1 53 v1 rfl rfl)
  have k0 := h0
  have lt0 : ∀ x ∈ p0, x.block < W.heap.size := by obtain ⟨m, hm⟩ := k0; exact DataW.trod_lt m _ _ _ hm
  have k1 := h1
  have lt1 : ∀ x ∈ p1, x.block < W.heap.size := by obtain ⟨m, hm⟩ := k1; exact DataW.trod_lt m _ _ _ hm
  obtain ⟨f0, hf0⟩ := h0
  obtain ⟨a0, tl, c0, e0, w0⟩ := tokRow_of (by simpa [Value.cells] using hf0)
  obtain ⟨f1, hf1⟩ := h1
  obtain ⟨a1, rl, c1, e1, w1⟩ := rwRow_of (by simpa [Value.cells] using hf1)
  obtain ⟨i2, rfl, rfl, rfl, w2⟩ := open_int Try.underlying3 (hval 2 3 v2 rfl rfl) h2
  obtain ⟨i3, rfl, rfl, rfl, w3⟩ := open_int Try.underlying3 (hval 3 3 v3 rfl rfl) h3
  obtain ⟨i4, rfl, rfl, rfl, w4⟩ := open_int Try.underlying3 (hval 4 3 v4 rfl rfl) h4
  obtain ⟨i5, rfl, rfl, rfl, w5⟩ := open_int Try.underlying3 (hval 5 3 v5 rfl rfl) h5
  obtain ⟨i6, rfl, rfl, rfl⟩ := open_bool Try.underlying4 (hval 6 4 v6 rfl rfl) h6
  obtain ⟨i7, rfl, rfl, rfl, w7⟩ := open_int Try.underlying3 (hval 7 3 v7 rfl rfl) h7
  obtain ⟨i8, rfl, rfl, rfl, w8⟩ := open_int Try.underlying3 (hval 8 3 v8 rfl rfl) h8
  obtain ⟨i9, rfl, rfl, rfl, w9⟩ := open_string Try.underlying9 (hval 9 9 v9 rfl rfl) h9
  clear hA0 hval0
  cases e0
  cases e1
  refine (plaw_walk _ tl _ _ rl _ i2 i3 i4 i5 i6 i7 i8 i9 W w0 w1 w9).mono fun e W' ⟨he, bel⟩ => ?_
  subst he
  exact ⟨_, rfl, _, _, _, [], _, [], hW', trodAll_mk1 (shut_bool Try.underlying4 _),
    (trodAll_cons_mk (Below.trod laidOutP (by kernel_rfl) (of_decide_eq_true (by kernel_rfl)) k0 bel lt0) (trodAll_cons_mk (Below.trod laidOutP (by kernel_rfl) (of_decide_eq_true (by kernel_rfl)) k1 bel lt1)
      (trodAll_cons_mk (shut_int Try.underlying3 w2) (trodAll_cons_mk (shut_int Try.underlying3 w3) (trodAll_cons_mk (shut_int Try.underlying3 w4) (trodAll_cons_mk (shut_int Try.underlying3 w5) (trodAll_cons_mk (shut_bool Try.underlying4 _)
      (trodAll_cons_mk (shut_int Try.underlying3 w7) (trodAll_cons_mk (shut_int Try.underlying3 w8) (trodAll_cons_mk (shut_string Try.underlying9 w9) trodAll_mk0)))))))))), rfl, bel.frame _, fun h => by cases h⟩

theorem pieces_over : Rows.fnPiecesWritesTheMadeRewritesInOrderRow.holds Try.pinned (OpenSpec.ofChange Rows.fnPiecesWritesTheMadeRewritesInOrderSpec) :=
  OpenClaim.holds_of_wide 4 Try.f4 rfl rfl rfl rfl rfl rfl rfl ⟨rfl, rfl, rfl, rfl, rfl⟩ rfl rfl rfl rfl rfl (by kernel_rfl) Try.func4 (by kernel_rfl)
    (of_decide_eq_true (by kernel_rfl)) (by unfold Func.isWrapper; first | (rw [if_pos (by decide +kernel)]; kernel_rfl) | (rw [if_neg (by decide +kernel)]; exact ⟨rfl, rfl⟩))
    (fun os started H enc _ => pieces_lifted os started H enc)

/-- THE STATEMENT -/
theorem pieces_proved : Rows.FnPiecesWritesTheMadeRewritesInOrderSaid :=
  pieces_over
#print axioms pieces_proved
end Go.Proofs.Qxb6618532a
