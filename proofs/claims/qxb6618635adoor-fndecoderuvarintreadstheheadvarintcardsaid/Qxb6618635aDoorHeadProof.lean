/-
  Seat b6618635aD: 'Rows.FnDecoderUvarintReadsTheHeadVarintCardSaid', proved: the row, the card.
-/
import Derived.Test.Qxb6618635aDoorOpen
import Derived.Test.Qxb6618635aDoorHead
import Derived.Test.Qxb6618635aDoorTie
import Derived.Test.Qxb6618635aDoorCards
import Derived.SevenTiedAt
namespace Go.Proofs.Qxb6618635aDoor
open Go.ChangeShapes Go.WideShapes Go.ChangeAt Go.RowKit Go.Deep
set_option linter.unusedVariables false

set_option maxRecDepth 100000 in
theorem head_lifted (os : Os) (started : os.Started) (H : Type) (enc : TypeId × Value → H) :
    ReturnsInHanded {} Tryd.checked os 3 .any (fun w args => (Rows.fnDecoderUvarintReadsTheHeadVarintSpec.pre enc Tryd.prog Tryd.f3 Rows.fnDecoderUvarintReadsTheHeadVarintRow.domain false w args ∧ laidMetH Tryd.prog Rows.fnDecoderUvarintReadsTheHeadVarintRow.laid w) ∧ sizedMet enc Tryd.prog Tryd.f3 (OpenSpec.ofChange Rows.fnDecoderUvarintReadsTheHeadVarintSpec) false w args)
      (Rows.fnDecoderUvarintReadsTheHeadVarintSpec.post enc Tryd.prog Tryd.f3 false true false false) := by
  refine returnsInHanded_of_change_and (C := Tryd.checked) (X := fun w _ => laidMetH Tryd.prog Rows.fnDecoderUvarintReadsTheHeadVarintRow.laid w) (fun _ _ _ hh h => h.of_heap hh) own started (by kernel_rfl) Tryd.func3
    (ChangeSpec.witness_shaped (enc := enc) (C := Tryd.checked) (os := os) (X := fun w _ => laidMetH Tryd.prog Rows.fnDecoderUvarintReadsTheHeadVarintRow.laid w) false (World.laidAll Tryd.prog os Rows.fnDecoderUvarintReadsTheHeadVarintRow.laid) #[.slice none 0 0, .bool false, .slice none 0 0] 8 (World.laidAll_os _ _ _)
      (World.shaped_of_ZipB (by kernel_rfl) (by kernel_rfl)) (by kernel_rfl) (by kernel_rfl) (by kernel_rfl)
      (by rw [MakeChecks.laidMetH_plain _ _ _ (by kernel_rfl)]; exact laidMet_laidAll _ (by kernel_rfl) (by kernel_rfl))) ?_
  intro W base args ds gs before hval0 hW _ _ hL _
  have hval : ∀ (j : Nat) t v, Tryd.f3.params[j]? = some t → args[j]? = some v → Value.okWide Tryd.prog W .any base t v := hval0
  have hW' := hW
  obtain ⟨p, q, hA0, hV0, rfl, hfz, hnd⟩ := hW
  have hA : DataW.TrodAll enc Tryd.prog W 0 (fun _ => true) true Tryd.f3.params.toList args.toList ds p := hA0
  have hV : DataW.TrodVars enc Tryd.prog W (fun _ => true) [vName] gs q := hV0
  rw [Tryd.params3] at hA hval
  obtain ⟨v0, vs0, d0, ds0, p0, q0, hargs, rfl, rfl, h0, r0⟩ := trodAll_cons hA
  obtain ⟨v1, vs1, d1, ds1, p1, q1, rfl, rfl, rfl, h1, r1⟩ := trodAll_cons r0
  obtain ⟨v2, vs2, d2, ds2, p2, q2, rfl, rfl, rfl, h2, r2⟩ := trodAll_cons r1
  obtain ⟨rfl, rfl, rfl⟩ := trodAll_nil r2
  obtain rfl : args = #[v0, v1, v2] := by cases args; simp_all
  obtain ⟨ea, hv⟩ := sentinel_of hL
  obtain ⟨rfl, rfl⟩ := hV.unique (vars_read1 enc gE gEType Tryd.underlying31 hv trivial _)
  have hg : W.cell? ⟨0, 0, none⟩ = some (.iface 47 (.pointer (some ea))) := by simpa using World.var?_cell gE hv 0
  have hg0 : 0 < W.heap.size := World.block_lt_of_cell? _ _ hg
  obtain ⟨s0, l0, k0', rfl⟩ := okWide_slice Tryd.underlying22 (hval 0 22 v0 rfl rfl)
  have k0 := h0
  have lt0 : ∀ x ∈ p0, x.block < W.heap.size := by obtain ⟨m, hm⟩ := k0; exact DataW.trod_lt m _ _ _ hm
  obtain ⟨f0, hf0⟩ := h0
  obtain ⟨a0, l, c0, e0, w0, hcap, n0, n1⟩ := bRow_of (by simpa [Value.cells] using hf0)
  obtain ⟨s2, l2', k2', rfl⟩ := okWide_slice Tryd.underlying22 (hval 2 22 v2 rfl rfl)
  have k2 := h2
  have lt2 : ∀ x ∈ p2, x.block < W.heap.size := by obtain ⟨m, hm⟩ := k2; exact DataW.trod_lt m _ _ _ hm
  obtain ⟨f2, hf2⟩ := h2
  obtain ⟨a2, l2, c2, e2, w2, _, _, _⟩ := bRow_of (by simpa [Value.cells] using hf2)
  obtain ⟨failed, rfl, rfl, rfl⟩ := open_bool Tryd.underlying4 (hval 1 4 v1 rfl rfl) h1
  clear hA0 hV0 hval0
  cases e0
  cases e2
  refine (head_walk _ l _ failed _ l2 _ 47 _ W n0 n1 hcap w0 w2 hg0 hg).mono fun e W' ⟨he, bel⟩ => ?_
  subst he
  exact ⟨_, rfl, _, _, _, [], _, [.cell 0 0], hW', trodAll_mk1 (shut_bool Tryd.underlying4 _),
    (trodAll_cons_mk (Below.trod laidOut (by kernel_rfl) (of_decide_eq_true (by kernel_rfl)) k0 bel lt0) (trodAll_cons_mk (shut_bool Tryd.underlying4 _) (trodAll_cons_mk (Below.trod laidOut (by kernel_rfl) (of_decide_eq_true (by kernel_rfl)) k2 bel lt2) trodAll_mk0))),
    vars_read1 enc gE gEType Tryd.underlying31 (var_below hv bel) trivial _, bel.frame _, fun h => by cases h⟩

theorem head_over : Rows.FnDecoderUvarintReadsTheHeadVarintSaid :=
  OpenClaim.holds_of_wide 3 Tryd.f3 rfl rfl rfl rfl rfl rfl rfl ⟨rfl, rfl, rfl, rfl, rfl⟩ rfl rfl rfl rfl rfl (by kernel_rfl) Tryd.func3 (by kernel_rfl)
    (of_decide_eq_true (by kernel_rfl)) (by unfold Func.isWrapper; first | (rw [if_pos (by decide +kernel)]; kernel_rfl) | (rw [if_neg (by decide +kernel)]; exact ⟨rfl, rfl⟩))
    (fun os started H enc _ => head_lifted os started H enc)

/-- THE STATEMENT -/
theorem head_card_proved : Rows.FnDecoderUvarintReadsTheHeadVarintCardSaid :=
  Claim7.holds_tied_plain_at .later [] [.sentinel] true Rows.fnDecoderUvarintReadsTheHeadVarintCard.stood.harness false
    head_over (fun _ h => by cases h) (by kernel_rfl) (fun _ h => by cases h) fnDecoderUvarintReadsTheHeadVarint_row_tie rfl ⟨rfl, rfl⟩ (by kernel_rfl) rfl
    (fun f fn hf hfn => by
      obtain rfl : f = 3 := Option.some.inj ((show Tryd.prog.funcNamed Rows.fnDecoderUvarintReadsTheHeadVarintRow.func = some 3 by kernel_rfl).symm.trans hf) |>.symm
      obtain rfl : fn = Tryd.f3 := (Option.some.inj (Tryd.func3.symm.trans hfn)).symm
      exact ⟨by kernel_rfl, fun j t ht => by
        rw [Tryd.params3] at ht
        have hm : t ∈ [22, 4, 22] := by simpa using Array.mem_of_getElem? ht
        have hall : ([22, 4, 22].all fun u => !Tryd.prog.wantsStandIn u) = true := by kernel_rfl
        exact (show Tryd.prog.wantsStandIn t = false by simpa using List.all_eq_true.1 hall t hm)⟩)
    (by kernel_rfl)
#print axioms head_card_proved
end Go.Proofs.Qxb6618635aDoor
