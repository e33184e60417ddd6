/-
  Seat b6618868a: the walk of FnListsFirstRenameSymmetricAndGrowing.
-/
import Derived.Test.Qxb6618868aHangs
namespace Go.Proofs.Qxb6618868a
open Go.RowKit

theorem lf_swap (comp : Bool) (n : Nat) (r rd : ByteArray) : lfB comp n rd r = lfB comp n r rd := by
  unfold lfB; rw [Bool.or_comm]
theorem lf_more (comp : Bool) (n : Nat) (r rd : ByteArray) : lfB comp (n + 1) r rd = (comp && (!r.toList.isEmpty || !rd.toList.isEmpty)) := by
  unfold lfB; simp
theorem lf_none (comp : Bool) (r rd : ByteArray) : lfB comp 0 r rd = false := by
  unfold lfB; simp
theorem lf_imp (comp : Bool) (n : Nat) (r rd ex : ByteArray) : lfB comp n r rd = true → (comp && (!(r ++ ex).toList.isEmpty || !rd.toList.isEmpty)) = true := by
  unfold lfB
  rw [empty_app]
  cases comp <;> cases r.toList.isEmpty <;> cases rd.toList.isEmpty <;> simp

set_option maxRecDepth 100000 in
set_option maxHeartbeats 2000000 in
theorem grow_walk (comp : Bool) (a : Option Addr) (xs : List ByteArray) (c : Nat) (r rd ex : ByteArray) (w : World) (hn : a = none → xs = [] ∧ c = 0) (hr : StrRow w a xs) :
    Calls Try.prog 4 #[.bool comp, .slice a xs.length c, .string r, .string rd, .string ex] w fun e w' => e = .returned (.bool true) ∧ Below w.heap.size w w' := by
  have HR := hide hr
  have HN := hide hn
  have hz := zz11_any comp a xs c r rd ex w hr
  clear hr hn
  go_enter Try.func4, Try.ntmps4
  go_wp2_with fail
  refine hz.mono ?_
  rintro e w1 ⟨⟨b, rfl⟩, rfl⟩
  clear hz
  cases b with
  | false =>
    go_wp2_with fail
    go_ret
    exact ⟨rfl, Below.refl _ _⟩
  | true =>
  by_cases h1 : 65536 < (xs.length : Int)
  · go_wp2_with fail
    go_ret
    exact ⟨rfl, Below.refl _ _⟩
  by_cases h2 : 1048576 < (r.size : Int)
  · go_wp2_with fail
    go_ret
    exact ⟨rfl, Below.refl _ _⟩
  by_cases h3 : 1048576 < (rd.size : Int)
  · go_wp2_with fail
    go_ret
    exact ⟨rfl, Below.refl _ _⟩
  by_cases h4 : 1048576 < (ex.size : Int)
  · go_wp2_with fail
    go_ret
    exact ⟨rfl, Below.refl _ _⟩
  have hl : xs.length ≤ 1048576 := by omega
  go_wp2_with fail
  refine (tooBig_any a xs c _ _ hl (unhide HR)).mono ?_
  rintro e w1 ⟨⟨b, rfl⟩, rfl⟩
  cases b with
  | true =>
    go_wp2_with fail
    go_ret
    exact ⟨rfl, Below.refl _ _⟩
  | false =>
  cases a with
  | none =>
    obtain ⟨rfl, rfl⟩ := (unhide HN) rfl
    have hnil := fun (w : World) => run_neq_slice_nil_any (P := Try.prog) w 22 9 none 0 0 0 0 Try.underlying22
    simp only [Option.isNone, Bool.not_true] at hnil
    go_wp2_with fail
    have HS : Hid (StrRow w1 none []) := .inl rfl
    have HB : Hid (Below w1.heap.size w1 w1) := Below.refl _ _
    refine (new_any comp w1).mono ?_
    rintro e w3 ⟨rfl, hcm, hb3⟩
    have HC3 := hide hcm
    have HS3 : Hid (StrRow w3 none []) := (unhide HS).below hb3
    have HB3 : Hid (Below w1.heap.size w1 w3) := (unhide HB).trans (hb3.mono (unhide HB).size)
    generalize w1.heap.size + 1 = P at HC3
    clear hcm hb3
    go_wp2_with fail
    refine (zlists_any P comp _ _ _ _ _ w3 (unhide HC3)).mono ?_
    rintro e w4 ⟨rfl, hb4⟩
    have HC4 := hide ((unhide HC3).below hb4)
    have HS4 := hide ((unhide HS3).below hb4)
    have HB4 : Hid (Below w1.heap.size w1 w4) := (unhide HB3).trans (hb4.mono (unhide HB3).size)
    clear hb4
    have hsum1 : r.size + ex.size ≤ 9223372036854775807 := by omega
    go_wp2_with fail
    refine (zlists_any P comp _ _ _ _ _ w4 (unhide HC4)).mono ?_
    rintro e w6 ⟨rfl, hb6⟩
    rw [lf_swap]
    have HC6 := hide ((unhide HC4).below hb6)
    have HS6 := hide ((unhide HS4).below hb6)
    have HB6 : Hid (Below w1.heap.size w1 w6) := (unhide HB4).trans (hb6.mono (unhide HB4).size)
    clear hb6
    go_wp2_with fail
    refine (more_len _ [] _ _ _ w6 rfl hl (unhide HS6)).mono ?_
    rintro e w7 ⟨rfl, hb7⟩
    have HC7 := hide ((unhide HC6).below hb7)
    have HB7 : Hid (Below w1.heap.size w1 w7) := (unhide HB6).trans (hb7.mono (unhide HB6).size)
    clear hb7
    go_wp2_with fail
    refine (zlists_any P comp _ _ _ _ _ w7 (unhide HC7)).mono ?_
    rintro e w8 ⟨rfl, hb8⟩
    rw [lf_more]
    have HC8 := hide ((unhide HC7).below hb8)
    have HB8 : Hid (Below w1.heap.size w1 w8) := (unhide HB7).trans (hb8.mono (unhide HB7).size)
    clear hb8
    go_wp2_with fail
    refine (zlists_any P comp _ _ _ _ _ w8 (unhide HC8)).mono ?_
    rintro e w9 ⟨rfl, hb9⟩
    rw [lf_none]
    have HB9 : Hid (Below w1.heap.size w1 w9) := (unhide HB8).trans (hb9.mono (unhide HB8).size)
    clear hb9
    have himp := lf_imp comp 0 r rd ex
    generalize lfB comp 0 r rd = x1 at himp
    cases hE1 : (r ++ ex).toList.isEmpty <;> cases hE2 : rd.toList.isEmpty <;> cases comp <;> cases x1 <;> simp only [hE1, hE2] at himp
    all_goals first
      | (exfalso; revert himp; decide)
      | (clear himp; go_wp2_with fail; go_ret; exact ⟨rfl, unhide HB9⟩)
  | some ad =>
    have hnil := fun (w : World) => run_neq_slice_nil_any (P := Try.prog) w 22 9 (some ad) xs.length c 0 0 Try.underlying22
    simp only [Option.isNone, Bool.not_false] at hnil
    have hmk := run_make_row' (P := Try.prog) 22 9 (.string ⟨#[]⟩) 16 Try.underlying22 info9 rfl .i64 .i64 xs.length (by omega) (by omega)
    obtain ⟨w, rfl⟩ : ∃ w : World, w = w1 := ⟨_, rfl⟩
    obtain ⟨w2, hcp, hst, hbw⟩ := copy_names ad xs c w (unhide HR)
    have HS := hide hst
    have HB := hide hbw
    clear hst hbw
    go_wp2_with fail
    refine (new_any comp w2).mono ?_
    rintro e w3 ⟨rfl, hcm, hb3⟩
    have HC3 := hide hcm
    have HS3 : Hid (StrRow w3 (some ⟨w.heap.size, 0, none⟩) xs) := (unhide HS).below hb3
    have HB3 : Hid (Below w.heap.size w w3) := (unhide HB).trans (hb3.mono (unhide HB).size)
    generalize w2.heap.size + 1 = P at HC3
    clear hcm hb3
    go_wp2_with fail
    refine (zlists_any P comp _ _ _ _ _ w3 (unhide HC3)).mono ?_
    rintro e w4 ⟨rfl, hb4⟩
    have HC4 := hide ((unhide HC3).below hb4)
    have HS4 := hide ((unhide HS3).below hb4)
    have HB4 : Hid (Below w.heap.size w w4) := (unhide HB3).trans (hb4.mono (unhide HB3).size)
    clear hb4
    have hsum1 : r.size + ex.size ≤ 9223372036854775807 := by omega
    go_wp2_with fail
    refine (zlists_any P comp _ _ _ _ _ w4 (unhide HC4)).mono ?_
    rintro e w6 ⟨rfl, hb6⟩
    rw [lf_swap]
    have HC6 := hide ((unhide HC4).below hb6)
    have HS6 := hide ((unhide HS4).below hb6)
    have HB6 : Hid (Below w.heap.size w w6) := (unhide HB4).trans (hb6.mono (unhide HB4).size)
    clear hb6
    go_wp2_with fail
    refine (more_len _ xs _ _ _ w6 rfl hl (unhide HS6)).mono ?_
    rintro e w7 ⟨rfl, hb7⟩
    have HC7 := hide ((unhide HC6).below hb7)
    have HB7 : Hid (Below w.heap.size w w7) := (unhide HB6).trans (hb7.mono (unhide HB6).size)
    clear hb7
    go_wp2_with fail
    refine (zlists_any P comp _ _ _ _ _ w7 (unhide HC7)).mono ?_
    rintro e w8 ⟨rfl, hb8⟩
    rw [lf_more]
    have HC8 := hide ((unhide HC7).below hb8)
    have HB8 : Hid (Below w.heap.size w w8) := (unhide HB7).trans (hb8.mono (unhide HB7).size)
    clear hb8
    go_wp2_with fail
    refine (zlists_any P comp _ _ _ _ _ w8 (unhide HC8)).mono ?_
    rintro e w9 ⟨rfl, hb9⟩
    rw [lf_none]
    have HB9 : Hid (Below w.heap.size w w9) := (unhide HB8).trans (hb9.mono (unhide HB8).size)
    clear hb9
    have himp := lf_imp comp xs.length r rd ex
    generalize lfB comp xs.length r rd = x1 at himp
    cases hE1 : (r ++ ex).toList.isEmpty <;> cases hE2 : rd.toList.isEmpty <;> cases comp <;> cases x1 <;> simp only [hE1, hE2] at himp
    all_goals first
      | (exfalso; revert himp; decide)
      | (clear himp; go_wp2_with fail; go_ret; exact ⟨rfl, unhide HB9⟩)
end Go.Proofs.Qxb6618868a
