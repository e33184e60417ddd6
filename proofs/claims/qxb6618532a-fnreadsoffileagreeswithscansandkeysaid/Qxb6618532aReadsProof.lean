/-
  Seat b6618532a: 'Rows.FnReadsOfFileAgreesWithScansAndKeySaid', proved: the arguments opened, the walk, the row.
-/
import Derived.Test.Qxb6618532aRows
import Derived.Test.Qxb6618532aReadsWalk
import Derived.ProofKit
import Derived.OpenShut
import Derived.ShutString
import Derived.ChangeOld
import Derived.Deep.Slices
import Derived.Deep.Strs
namespace Go.Proofs.Qxb6618532a
open Go.ChangeShapes Go.WideShapes Go.ChangeAt Go.RowKit Go.Deep
open Go.ChangeMaps (open_string shut_string)
set_option linter.unusedVariables false

theorem own : ownKnob Try.prog.godebug = none := by kernel_rfl
theorem laidOut : laidOutB Try.prog = true := by kernel_rfl

theorem addr_plain {w : World} {a : Addr} {v : Value} (h : w.cell? (a.add 0) = some v) : ∃ b off, a = ⟨b, off, none⟩ := by
  obtain ⟨b, off, spot⟩ := a
  have hspot : spot = none := by simpa [Addr.add] using World.cell?_spot h
  exact ⟨b, off, by rw [hspot]⟩

theorem getD_map_range {α : Type} (f : Nat → α) (n j : Nat) (d : α) (h : j < n) : ((List.range n).map f).getD j d = f j := by
  simp [List.getD, h]

section
variable {H : Type} {enc : TypeId × Value → H} {W : World}
theorem strRow_of {fuel : Nat} {v : Value} {x : DataW H × List MemPlace} (h : DataW.trod enc Try.prog W 0 (fun _ => true) true fuel 24 [v] = some x) :
    ∃ a xs c, v = .slice a xs.length c ∧ StrRow W a xs ∧ (a = none → xs = [] ∧ c = 0) := by
  rcases open_strs Try.underlying24 Try.underlying9 (by kernel_rfl) h with ⟨hcs, _⟩ | ⟨a, len, cap, m, Sx, hcs, _, hl, _, hm, _, hcell⟩
  · obtain rfl : v = .slice none 0 0 := by simpa using hcs
    exact ⟨none, [], 0, rfl, .inl rfl, fun _ => ⟨rfl, rfl⟩⟩
  · obtain rfl : v = .slice (some a) len cap := by simpa using hcs
    simp only [if_true] at hm
    subst hm
    refine ⟨some a, (List.range len).map Sx, m, by simp, ?_, fun h => by cases h⟩
    by_cases h0 : len = 0
    · subst h0; exact .inl rfl
    · obtain ⟨b, off, rfl⟩ := addr_plain (hcell 0 (by omega)).1
      refine .inr ⟨b, off, rfl, World.block_lt_of_cell? _ _ (hcell 0 (by omega)).1, fun j hj => ?_⟩
      have hj' : j < len := by simpa using hj
      rw [getD_map_range _ _ _ _ hj', ← (hcell j (by omega)).1, Addr.add_lit]

theorem tabRow_of {fuel : Nat} {v : Value} {x : DataW H × List MemPlace} (h : DataW.trod enc Try.prog W 0 (fun _ => true) true fuel 22 [v] = some x) :
    ∃ a ts c, v = .slice a ts.length c ∧ TabRow W a ts ∧ (∀ j, j < ts.length → (ts.getD j ⟨none, [], 0⟩).a = none → (ts.getD j ⟨none, [], 0⟩).xs = [] ∧ (ts.getD j ⟨none, [], 0⟩).c = 0) := by
  rcases open_slice1 Try.underlying22 (by kernel_rfl) h with ⟨hcs, _⟩ | ⟨a, len, cap, m, n, V, D, Pl, hcs, _, hl, _, hm, _, hcell⟩
  · obtain rfl : v = .slice none 0 0 := by simpa using hcs
    exact ⟨none, [], 0, rfl, ⟨.inl rfl, fun j h => by simp at h⟩, fun j h => by simp at h⟩
  · obtain rfl : v = .slice (some a) len cap := by simpa using hcs
    simp only [if_true] at hm
    subst hm
    obtain ⟨R0, hR0⟩ := choose_lt (n := len) (α := Option Addr × List ByteArray × Nat) (p := fun i r => V i = .slice r.1 r.2.1.length r.2.2 ∧ StrRow W r.1 r.2.1 ∧ (r.1 = none → r.2.1 = [] ∧ r.2.2 = 0)) (fun i hi => by
      obtain ⟨ra, rxs, rc, h1, h2, h3⟩ := strRow_of (hcell i (by omega)).2
      exact ⟨(ra, rxs, rc), h1, h2, h3⟩)
    obtain ⟨R, hR⟩ : ∃ R : Nat → Cols, ∀ i, i < len → V i = .slice (R i).a (R i).xs.length (R i).c ∧ StrRow W (R i).a (R i).xs ∧ ((R i).a = none → (R i).xs = [] ∧ (R i).c = 0) := ⟨fun i => ⟨(R0 i).1, (R0 i).2.1, (R0 i).2.2⟩, hR0⟩
    refine ⟨some a, (List.range len).map R, m, by simp, ⟨?_, fun j hj => ?_⟩, fun j hj => ?_⟩
    · by_cases h0 : len = 0
      · subst h0; exact .inl rfl
      · obtain ⟨b, off, rfl⟩ := addr_plain (hcell 0 (by omega)).1
        refine .inr ⟨b, off, rfl, World.block_lt_of_cell? _ _ (hcell 0 (by omega)).1, fun j hj => ?_⟩
        have hj' : j < len := by simpa using hj
        rw [getD_map_range _ _ _ _ hj', ← (hR j hj').1, ← (hcell j (by omega)).1, Addr.add_lit]
    · have hj' : j < len := by simpa using hj
      rw [getD_map_range _ _ _ _ hj']; exact (hR j hj').2.1
    · have hj' : j < len := by simpa using hj
      rw [getD_map_range _ _ _ _ hj']; exact (hR j hj').2.2

theorem boolRow_of {fuel : Nat} {v : Value} {x : DataW H × List MemPlace} (h : DataW.trod enc Try.prog W 0 (fun _ => true) true fuel 23 [v] = some x) :
    ∃ a xs c, v = .slice a xs.length c ∧ BoolRow W a xs := by
  rcases open_slice1 Try.underlying23 (by kernel_rfl) h with ⟨hcs, _⟩ | ⟨a, len, cap, m, n, V, D, Pl, hcs, _, hl, _, hm, _, hcell⟩
  · obtain rfl : v = .slice none 0 0 := by simpa using hcs
    exact ⟨none, [], 0, rfl, .inl rfl⟩
  · obtain rfl : v = .slice (some a) len cap := by simpa using hcs
    simp only [if_true] at hm
    subst hm
    obtain ⟨R, hR⟩ := choose_lt (n := len) (α := Bool) (p := fun i r => V i = .bool r) (fun i hi => by
      obtain ⟨b, h1, _⟩ := DataW.trod_bool Try.underlying4 (hcell i (by omega)).2
      exact ⟨b, by simpa using h1⟩)
    refine ⟨some a, (List.range len).map R, m, by simp, ?_⟩
    by_cases h0 : len = 0
    · subst h0; exact .inl rfl
    · obtain ⟨b, off, rfl⟩ := addr_plain (hcell 0 (by omega)).1
      refine .inr ⟨b, off, rfl, World.block_lt_of_cell? _ _ (hcell 0 (by omega)).1, fun j hj => ?_⟩
      have hj' : j < len := by simpa using hj
      rw [getD_map_range _ _ _ _ hj', ← hR j hj', ← (hcell j (by omega)).1, Addr.add_lit]
end

set_option maxRecDepth 100000 in
theorem reads_lifted (os : Os) (started : os.Started) (H : Type) (enc : TypeId × Value → H) :
    ReturnsInHanded {} Try.checked os 3 .any (Rows.fnReadsOfFileAgreesWithScansAndKeySpec.pre6 enc Try.prog Try.f3 Rows.fnReadsOfFileAgreesWithScansAndKeyRow.domain false) (Rows.fnReadsOfFileAgreesWithScansAndKeySpec.post enc Try.prog Try.f3 false true false false) := by
  refine returnsInHanded_of_change (C := Try.checked) own started (by kernel_rfl) Try.func3
    (ChangeSpec.witness6 (enc := enc) (C := Try.checked) false ⟨#[], #[.slice none 0 0, .slice none 0 0, .bool false, .int .i64 0, .slice none 0 0], []⟩ 8 (by kernel_rfl) (by kernel_rfl) (by kernel_rfl) (by kernel_rfl)) ?_
  intro W base args ds gs before hval0 hW hcnd _
  have hval : ∀ (j : Nat) t v, Try.f3.params[j]? = some t → args[j]? = some v → Value.okWide Try.prog W .any base t v := hval0
  have hW' := hW
  obtain ⟨p, q, hA0, hV, rfl, hfz, hnd⟩ := hW
  have hA : DataW.TrodAll enc Try.prog W 0 (fun _ => true) true Try.f3.params.toList args.toList ds p := hA0
  rw [Try.params3] at hA hval
  obtain ⟨v0, vs0, d0, ds0, p0, q0, hargs, rfl, rfl, h0, r0⟩ := trodAll_cons hA
  obtain ⟨v1, vs1, d1, ds1, p1, q1, rfl, rfl, rfl, h1, r1⟩ := trodAll_cons r0
  obtain ⟨v2, vs2, d2, ds2, p2, q2, rfl, rfl, rfl, h2, r2⟩ := trodAll_cons r1
  obtain ⟨v3, vs3, d3, ds3, p3, q3, rfl, rfl, rfl, h3, r3⟩ := trodAll_cons r2
  obtain ⟨v4, vs4, d4, ds4, p4, q4, rfl, rfl, rfl, h4, r4⟩ := trodAll_cons r3
  obtain ⟨rfl, rfl, rfl⟩ := trodAll_nil r4
  obtain rfl : args = #[v0, v1, v2, v3, v4] := by cases args; simp_all
  obtain ⟨rfl, rfl⟩ := trodVars_none hV
  obtain ⟨s0, l0, k0', rfl⟩ := okWide_slice Try.underlying22 (hval 0 22 v0 rfl rfl)
  obtain ⟨s1, l1, k1', rfl⟩ := okWide_slice Try.underlying23 (hval 1 23 v1 rfl rfl)
  obtain ⟨s4, l4, k4', rfl⟩ := okWide_slice Try.underlying24 (hval 4 24 v4 rfl rfl)
  have k0 := h0
  have lt0 : ∀ x ∈ p0, x.block < W.heap.size := by obtain ⟨m, hm⟩ := k0; exact DataW.trod_lt m _ _ _ hm
  have k1 := h1
  have lt1 : ∀ x ∈ p1, x.block < W.heap.size := by obtain ⟨m, hm⟩ := k1; exact DataW.trod_lt m _ _ _ hm
  have k4 := h4
  have lt4 : ∀ x ∈ p4, x.block < W.heap.size := by obtain ⟨m, hm⟩ := k4; exact DataW.trod_lt m _ _ _ hm
  obtain ⟨f0, hf0⟩ := h0
  obtain ⟨a0, ts, c0, e0, w0, n0⟩ := tabRow_of (by simpa [Value.cells] using hf0)
  obtain ⟨f1, hf1⟩ := h1
  obtain ⟨a1, bl, c1, e1, w1⟩ := boolRow_of (by simpa [Value.cells] using hf1)
  obtain ⟨f4, hf4⟩ := h4
  obtain ⟨a4, rs, c4, e4, w4, n4⟩ := strRow_of (by simpa [Value.cells] using hf4)
  obtain ⟨keyed, rfl, rfl, rfl⟩ := open_bool Try.underlying4 (hval 2 4 v2 rfl rfl) h2
  obtain ⟨own, rfl, rfl, rfl, w3⟩ := open_int Try.underlying3 (hval 3 3 v3 rfl rfl) h3
  clear hA0 hval0
  cases e0
  cases e1
  cases e4
  refine (reads_walk _ ts _ _ bl _ keyed own _ rs _ W w0 w1 w4 n0 n4).mono fun e W' ⟨he, bel⟩ => ?_
  subst he
  exact ⟨_, rfl, _, _, _, [], _, [], hW', trodAll_mk1 (shut_bool Try.underlying4 _),
    (trodAll_cons_mk (Below.trod laidOut (by kernel_rfl) (of_decide_eq_true (by kernel_rfl)) k0 bel lt0) (trodAll_cons_mk (Below.trod laidOut (by kernel_rfl) (of_decide_eq_true (by kernel_rfl)) k1 bel lt1)
      (trodAll_cons_mk (shut_bool Try.underlying4 _) (trodAll_cons_mk (shut_int Try.underlying3 w3) (trodAll_cons_mk (Below.trod laidOut (by kernel_rfl) (of_decide_eq_true (by kernel_rfl)) k4 bel lt4) trodAll_mk0))))), rfl, bel.frame _, fun h => by cases h⟩

theorem reads_over : Rows.fnReadsOfFileAgreesWithScansAndKeyRow.holds Try.pinned (OpenSpec.ofChange Rows.fnReadsOfFileAgreesWithScansAndKeySpec) :=
  OpenClaim.holds_of_wide 3 Try.f3 rfl rfl rfl rfl rfl rfl rfl ⟨rfl, rfl, rfl, rfl, rfl⟩ rfl rfl rfl rfl rfl (by kernel_rfl) Try.func3 (by kernel_rfl)
    (of_decide_eq_true (by kernel_rfl)) (by unfold Func.isWrapper; first | (rw [if_pos (by decide +kernel)]; kernel_rfl) | (rw [if_neg (by decide +kernel)]; exact ⟨rfl, rfl⟩))
    (fun os started H enc _ => reads_lifted os started H enc)

/-- THE STATEMENT -/
theorem reads_proved : Rows.FnReadsOfFileAgreesWithScansAndKeySaid :=
  reads_over
#print axioms reads_proved
end Go.Proofs.Qxb6618532a
