/-
  Seat b6618868a: the walk of FnListsFirstHangsOnEmptinessAlone.
-/
import Derived.Test.Qxb6618868aGuards
import Derived.Laws.CopyOwn
namespace Go.Proofs.Qxb6618868a
open Go.RowKit

theorem size9 : (Try.prog.info? 9).map (·.size) = some 1 := by kernel_rfl
theorem row_spliced {w2 : World} {g : Nat} {xs : List ByteArray} {cur : List Value} (hc : cur.length = xs.length) (h : w2.heap[g]? = some (.cells (splice cur 0 (xs.map Value.string)).toArray 9 (0, 0))) : StrRow w2 (some ⟨g, 0, none⟩) xs := by
  refine .inr ⟨g, 0, rfl, (Array.getElem?_eq_some_iff.1 h).1, fun j hj => ?_⟩
  have e : splice cur 0 (xs.map Value.string) = xs.map Value.string := by
    unfold splice
    simp [List.drop_eq_nil_of_le (Nat.le_of_eq hc)]
  rw [e] at h
  simp [World.cell?, h, hj, List.getD]
theorem empty_app (r d : ByteArray) : (r ++ d).toList.isEmpty = (r.toList.isEmpty && d.toList.isEmpty) := by
  rw [ByteArray.toList_eq, ByteArray.toList_eq, ByteArray.toList_eq, show (r ++ d).data.toList = r.data.toList ++ d.data.toList from by simp]
  cases r.data.toList <;> simp

theorem copy_names (ad : Addr) (xs : List ByteArray) (c : Nat) (w : World) (hr : StrRow w (some ad) xs) :
    ∃ w2, (Builtin.copy_ #[22, 22] 3 #[.slice (some ⟨w.heap.size, 0, none⟩) xs.length xs.length, .slice (some ad) xs.length c]).run Try.prog (w.alloc (.cells (madeCells #[.string ⟨#[]⟩] xs.length) 9)) = .ok (goInt (xs.map Value.string).length) w2 ∧ StrRow w2 (some ⟨w.heap.size, 0, none⟩) xs ∧ Below w.heap.size w w2 := by
  have hblk : (w.alloc (.cells (madeCells #[.string ⟨#[]⟩] xs.length) 9)).heap[w.heap.size]? = some (.cells (madeCells #[.string ⟨#[]⟩] xs.length) 9 (0, 0)) := heap_alloc_new _ _
  have hmc : (madeCells #[.string ⟨#[]⟩] xs.length).size = xs.length := by
    obtain ⟨cc, h1, h2, _⟩ := World.rowIs_made w (.string ⟨#[]⟩) xs.length 9
    rw [hblk] at h1
    cases h1
    exact h2
  have hcp := run_copy_row (P := Try.prog) (w.alloc (.cells (madeCells #[.string ⟨#[]⟩] xs.length) 9)) 22 22 3 9 w.heap.size 0 xs.length xs.length ad xs.length c (madeCells #[.string ⟨#[]⟩] xs.length) 9 (xs.map Value.string) Try.underlying22 size9 hblk (by simp [Nat.min]) (by
    intro j v hj
    rcases hr with hr | ⟨b, off, hae, hb, hc⟩
    · subst hr; simp at hj
    cases hae
    have hjl : j < xs.length := by
      have := (List.getElem?_eq_some_iff.1 hj).1
      simpa using this
    rw [Addr.add_lit]
    refine (((Below.refl w.heap.size w).alloc (Nat.le_refl _) _).cell (p := ⟨b, off + j, none⟩) hb).trans ((hc j hjl).trans ?_)
    simpa [List.getD, hjl] using hj) (by simp [hmc]) (by intro v hv; simp at hv; obtain ⟨s, _, rfl⟩ := hv; rfl)
  have hsr := setRow_heap (w.alloc (.cells (madeCells #[.string ⟨#[]⟩] xs.length) 9)) w.heap.size _ ((madeCells #[.string ⟨#[]⟩] xs.length).toList.take 0 ++ (xs.map Value.string ++ (madeCells #[.string ⟨#[]⟩] xs.length).toList.drop (0 + (xs.map Value.string).length))).toArray 9 _ hblk
  have hbw := below_setRow ((Below.refl w.heap.size w).alloc (Nat.le_refl _) (.cells (madeCells #[.string ⟨#[]⟩] xs.length) 9)) (Nat.le_refl w.heap.size) ((madeCells #[.string ⟨#[]⟩] xs.length).toList.take 0 ++ (xs.map Value.string ++ (madeCells #[.string ⟨#[]⟩] xs.length).toList.drop (0 + (xs.map Value.string).length))).toArray
  have hst := row_spliced (cur := (madeCells #[.string ⟨#[]⟩] xs.length).toList) (by simpa using hmc) hsr
  exact ⟨_, hcp, hst, hbw⟩

theorem lf_join1 (comp : Bool) (n : Nat) (r rd : ByteArray) (h : 0 < n) : lfB comp 1 (r ++ rd) ⟨#[]⟩ = lfB comp n r rd := by
  unfold lfB
  rw [empty_app, show (⟨#[]⟩ : ByteArray).toList.isEmpty = true from by rw [ByteArray.toList_eq]; rfl]
  simp [h]
theorem lf_join0 (comp : Bool) (n : Nat) (r rd : ByteArray) (h : ¬ 0 < n) : lfB comp 0 (r ++ rd) ⟨#[]⟩ = lfB comp n r rd := by
  unfold lfB
  simp [h]
theorem lf_full (comp : Bool) (n : Nat) (r rd : ByteArray) : lfB comp (n + 1) (r ++ ⟨#[114]⟩) rd = comp := by
  unfold lfB
  rw [empty_app, show (⟨#[114]⟩ : ByteArray).toList.isEmpty = false from by rw [ByteArray.toList_eq]; rfl]
  simp
theorem lf_bare (comp : Bool) (n : Nat) : lfB comp n ⟨#[]⟩ ⟨#[]⟩ = false := by
  unfold lfB
  rw [show (⟨#[]⟩ : ByteArray).toList.isEmpty = true from by rw [ByteArray.toList_eq]; rfl]
  simp
theorem first_nil_len (a : Option Addr) (n c : Nat) (hn : n = 0) (w : World) :
    Calls Try.prog 9 #[.slice a n c] w fun e w' => e = .returned (.slice none 0 0) ∧ w' = w := by
  subst hn; exact first_nil a c w
theorem more_len (a : Option Addr) (xs : List ByteArray) (n c : Nat) (y : ByteArray) (w : World) (hn : n = xs.length) (hl : xs.length ≤ 1048576) (hr : StrRow w a xs) :
    Calls Try.prog 10 #[.slice a n c, .string y] w fun e w' => e = .returned (.slice (some ⟨w.heap.size, 0, none⟩) (n + 1) (n + 1)) ∧ Below w.heap.size w w' := by
  subst hn; exact more_any a xs c y w hl hr

set_option maxRecDepth 100000 in
set_option maxHeartbeats 2000000 in
theorem hangs_walk (comp : Bool) (a : Option Addr) (xs : List ByteArray) (c : Nat) (r rd : ByteArray) (w : World) (hn : a = none → xs = [] ∧ c = 0) (hr : StrRow w a xs) :
    Calls Try.prog 3 #[.bool comp, .slice a xs.length c, .string r, .string rd] w fun e w' => e = .returned (.bool true) ∧ Below w.heap.size w w' := by
  have HR := hide hr
  have HN := hide hn
  have hz := zz5_any comp a xs c r rd w hr
  clear hr hn
  go_enter Try.func3, Try.ntmps3
  go_wp2_with fail
  refine hz.mono ?_
  rintro e w1 ⟨⟨b, rfl⟩, rfl⟩
  clear hz
  cases b with
  | false =>
    go_wp2_with fail
    go_ret
    exact ⟨rfl, Below.refl _ _⟩
  | true =>
  by_cases h1 : 65536 < (xs.length : Int)
  · go_wp2_with fail
    go_ret
    exact ⟨rfl, Below.refl _ _⟩
  by_cases h2 : 1048576 < (r.size : Int)
  · go_wp2_with fail
    go_ret
    exact ⟨rfl, Below.refl _ _⟩
  by_cases h3 : 1048576 < (rd.size : Int)
  · go_wp2_with fail
    go_ret
    exact ⟨rfl, Below.refl _ _⟩
  have hl : xs.length ≤ 1048576 := by omega
  go_wp2_with fail
  refine (tooBig_any a xs c _ _ hl (unhide HR)).mono ?_
  rintro e w1 ⟨⟨b, rfl⟩, rfl⟩
  cases b with
  | true =>
    go_wp2_with fail
    go_ret
    exact ⟨rfl, Below.refl _ _⟩
  | false =>
  cases a with
  | none =>
    obtain ⟨rfl, rfl⟩ := (unhide HN) rfl
    have hnil := fun (w : World) => run_neq_slice_nil_any (P := Try.prog) w 22 9 none 0 0 0 0 Try.underlying22
    simp only [Option.isNone, Bool.not_true] at hnil
    go_wp2_with fail
    have HS : Hid (StrRow w1 none []) := .inl rfl
    have HB : Hid (Below w1.heap.size w1 w1) := Below.refl _ _
    refine (new_any comp w1).mono ?_
    rintro e w3 ⟨rfl, hcm, hb3⟩
    have HC3 := hide hcm
    have HS3 : Hid (StrRow w3 none []) := (unhide HS).below hb3
    have HB3 : Hid (Below w1.heap.size w1 w3) := (unhide HB).trans (hb3.mono (unhide HB).size)
    generalize w1.heap.size + 1 = P at HC3
    clear hcm hb3
    go_wp2_with fail
    refine (zlists_any P comp _ _ _ _ _ w3 (unhide HC3)).mono ?_
    rintro e w4 ⟨rfl, hb4⟩
    have HC4 := hide ((unhide HC3).below hb4)
    have HS4 := hide ((unhide HS3).below hb4)
    have HB4 : Hid (Below w1.heap.size w1 w4) := (unhide HB3).trans (hb4.mono (unhide HB3).size)
    clear hb4
    have hsum1 : r.size + rd.size ≤ 9223372036854775807 := by omega
    have hsum2 : r.size + (⟨#[114]⟩ : ByteArray).size ≤ 9223372036854775807 := by have : (⟨#[114]⟩ : ByteArray).size = 1 := rfl; omega
    go_wp2_with fail
    refine (first_nil_len _ _ _ rfl w4).mono ?_
    rintro e w5 ⟨rfl, rfl⟩
    have HC5 := HC4
    have HS5 := HS4
    have HB5 := HB4
    go_wp2_with fail
    refine (zlists_any P comp _ _ _ _ _ w5 (unhide HC5)).mono ?_
    rintro e w6 ⟨rfl, hb6⟩
    rw [lf_join0 comp 0 r rd (by omega)]
    have HC6 := hide ((unhide HC5).below hb6)
    have HS6 := hide ((unhide HS5).below hb6)
    have HB6 : Hid (Below w1.heap.size w1 w6) := (unhide HB5).trans (hb6.mono (unhide HB5).size)
    clear hb6
    go_wp2_with fail
    refine (more_len _ [] _ _ _ w6 rfl hl (unhide HS6)).mono ?_
    rintro e w7 ⟨rfl, hb7⟩
    have HC7 := hide ((unhide HC6).below hb7)
    have HB7 : Hid (Below w1.heap.size w1 w7) := (unhide HB6).trans (hb7.mono (unhide HB6).size)
    clear hb7
    go_wp2_with fail
    refine (zlists_any P comp _ _ _ _ _ w7 (unhide HC7)).mono ?_
    rintro e w8 ⟨rfl, hb8⟩
    rw [lf_full]
    have HC8 := hide ((unhide HC7).below hb8)
    have HB8 : Hid (Below w1.heap.size w1 w8) := (unhide HB7).trans (hb8.mono (unhide HB7).size)
    clear hb8
    go_wp2_with fail
    refine (zlists_any P comp _ _ _ _ _ w8 (unhide HC8)).mono ?_
    rintro e w9 ⟨rfl, hb9⟩
    rw [lf_bare]
    have HB9 : Hid (Below w1.heap.size w1 w9) := (unhide HB8).trans (hb9.mono (unhide HB8).size)
    clear hb9
    go_wp2_with fail
    go_ret
    exact ⟨rfl, unhide HB9⟩
  | some ad =>
    have hnil := fun (w : World) => run_neq_slice_nil_any (P := Try.prog) w 22 9 (some ad) xs.length c 0 0 Try.underlying22
    simp only [Option.isNone, Bool.not_false] at hnil
    have hmk := run_make_row' (P := Try.prog) 22 9 (.string ⟨#[]⟩) 16 Try.underlying22 info9 rfl .i64 .i64 xs.length (by omega) (by omega)
    obtain ⟨w, rfl⟩ : ∃ w : World, w = w1 := ⟨_, rfl⟩
    obtain ⟨w2, hcp, hst, hbw⟩ := copy_names ad xs c w (unhide HR)
    have HS := hide hst
    have HB := hide hbw
    clear hst hbw
    go_wp2_with fail
    refine (new_any comp w2).mono ?_
    rintro e w3 ⟨rfl, hcm, hb3⟩
    have HC3 := hide hcm
    have HS3 : Hid (StrRow w3 (some ⟨w.heap.size, 0, none⟩) xs) := (unhide HS).below hb3
    have HB3 : Hid (Below w.heap.size w w3) := (unhide HB).trans (hb3.mono (unhide HB).size)
    generalize w2.heap.size + 1 = P at HC3
    clear hcm hb3
    go_wp2_with fail
    refine (zlists_any P comp _ _ _ _ _ w3 (unhide HC3)).mono ?_
    rintro e w4 ⟨rfl, hb4⟩
    have HC4 := hide ((unhide HC3).below hb4)
    have HS4 := hide ((unhide HS3).below hb4)
    have HB4 : Hid (Below w.heap.size w w4) := (unhide HB3).trans (hb4.mono (unhide HB3).size)
    clear hb4
    have hsum1 : r.size + rd.size ≤ 9223372036854775807 := by omega
    have hsum2 : r.size + (⟨#[114]⟩ : ByteArray).size ≤ 9223372036854775807 := by have : (⟨#[114]⟩ : ByteArray).size = 1 := rfl; omega
    go_wp2_with fail
    by_cases hx : 0 < xs.length
    · refine (first_cons _ xs _ w4 hx (unhide HS4)).mono ?_
      rintro e w5 ⟨rfl, hb5⟩
      have HC5 := hide ((unhide HC4).below hb5)
      have HS5 := hide ((unhide HS4).below hb5)
      have HB5 : Hid (Below w.heap.size w w5) := (unhide HB4).trans (hb5.mono (unhide HB4).size)
      clear hb5
      go_wp2_with fail
      refine (zlists_any P comp _ _ _ _ _ w5 (unhide HC5)).mono ?_
      rintro e w6 ⟨rfl, hb6⟩
      rw [lf_join1 comp _ r rd hx]
      have HC6 := hide ((unhide HC5).below hb6)
      have HS6 := hide ((unhide HS5).below hb6)
      have HB6 : Hid (Below w.heap.size w w6) := (unhide HB5).trans (hb6.mono (unhide HB5).size)
      clear hb6
      go_wp2_with fail
      refine (more_len _ xs _ _ _ w6 rfl hl (unhide HS6)).mono ?_
      rintro e w7 ⟨rfl, hb7⟩
      have HC7 := hide ((unhide HC6).below hb7)
      have HB7 : Hid (Below w.heap.size w w7) := (unhide HB6).trans (hb7.mono (unhide HB6).size)
      clear hb7
      go_wp2_with fail
      refine (zlists_any P comp _ _ _ _ _ w7 (unhide HC7)).mono ?_
      rintro e w8 ⟨rfl, hb8⟩
      rw [lf_full]
      have HC8 := hide ((unhide HC7).below hb8)
      have HB8 : Hid (Below w.heap.size w w8) := (unhide HB7).trans (hb8.mono (unhide HB7).size)
      clear hb8
      go_wp2_with fail
      refine (zlists_any P comp _ _ _ _ _ w8 (unhide HC8)).mono ?_
      rintro e w9 ⟨rfl, hb9⟩
      rw [lf_bare]
      have HB9 : Hid (Below w.heap.size w w9) := (unhide HB8).trans (hb9.mono (unhide HB8).size)
      clear hb9
      go_wp2_with fail
      go_ret
      exact ⟨rfl, unhide HB9⟩
    · refine (first_nil_len _ _ _ (by omega) w4).mono ?_
      rintro e w5 ⟨rfl, rfl⟩
      have HC5 := HC4
      have HS5 := HS4
      have HB5 := HB4
      go_wp2_with fail
      refine (zlists_any P comp _ _ _ _ _ w5 (unhide HC5)).mono ?_
      rintro e w6 ⟨rfl, hb6⟩
      rw [lf_join0 comp xs.length r rd hx]
      have HC6 := hide ((unhide HC5).below hb6)
      have HS6 := hide ((unhide HS5).below hb6)
      have HB6 : Hid (Below w.heap.size w w6) := (unhide HB5).trans (hb6.mono (unhide HB5).size)
      clear hb6
      go_wp2_with fail
      refine (more_len _ xs _ _ _ w6 rfl hl (unhide HS6)).mono ?_
      rintro e w7 ⟨rfl, hb7⟩
      have HC7 := hide ((unhide HC6).below hb7)
      have HB7 : Hid (Below w.heap.size w w7) := (unhide HB6).trans (hb7.mono (unhide HB6).size)
      clear hb7
      go_wp2_with fail
      refine (zlists_any P comp _ _ _ _ _ w7 (unhide HC7)).mono ?_
      rintro e w8 ⟨rfl, hb8⟩
      rw [lf_full]
      have HC8 := hide ((unhide HC7).below hb8)
      have HB8 : Hid (Below w.heap.size w w8) := (unhide HB7).trans (hb8.mono (unhide HB7).size)
      clear hb8
      go_wp2_with fail
      refine (zlists_any P comp _ _ _ _ _ w8 (unhide HC8)).mono ?_
      rintro e w9 ⟨rfl, hb9⟩
      rw [lf_bare]
      have HB9 : Hid (Below w.heap.size w w9) := (unhide HB8).trans (hb9.mono (unhide HB8).size)
      clear hb9
      go_wp2_with fail
      go_ret
      exact ⟨rfl, unhide HB9⟩
end Go.Proofs.Qxb6618868a
