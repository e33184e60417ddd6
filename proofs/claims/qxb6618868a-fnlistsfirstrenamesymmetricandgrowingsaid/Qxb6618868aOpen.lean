/-
  Seat b6618868a: the arguments opened.
-/
import Derived.Test.Qxb6618868aRows
import Derived.Test.Qxb6618868aGuards
import Derived.ProofKit
import Derived.OpenShut
import Derived.ShutString
import Derived.ChangeOld
import Derived.Deep.Slices
import Derived.Deep.Strs
namespace Go.Proofs.Qxb6618868a
open Go.ChangeShapes Go.WideShapes Go.ChangeAt Go.RowKit Go.Deep

theorem own : ownKnob Try.prog.godebug = none := by kernel_rfl
theorem laidOut : laidOutB Try.prog = true := by kernel_rfl
theorem addr_plain {w : World} {a : Addr} {v : Value} (h : w.cell? (a.add 0) = some v) : ∃ b off, a = ⟨b, off, none⟩ := by
  obtain ⟨b, off, spot⟩ := a
  have hspot : spot = none := by simpa [Addr.add] using World.cell?_spot h
  exact ⟨b, off, by rw [hspot]⟩
theorem getD_map_range {α : Type} (f : Nat → α) (n j : Nat) (d : α) (h : j < n) : ((List.range n).map f).getD j d = f j := by
  simp [List.getD, h]
section
variable {H : Type} {enc : TypeId × Value → H} {W : World}
theorem strRow_of {fuel : Nat} {v : Value} {x : DataW H × List MemPlace} (h : DataW.trod enc Try.prog W 0 (fun _ => true) true fuel 22 [v] = some x) :
    ∃ a xs c, v = .slice a xs.length c ∧ StrRow W a xs ∧ (a = none → xs = [] ∧ c = 0) := by
  rcases open_strs Try.underlying22 Try.underlying9 (by kernel_rfl) h with ⟨hcs, _⟩ | ⟨a, len, cap, m, Sx, hcs, _, hl, _, hm, _, hcell⟩
  · obtain rfl : v = .slice none 0 0 := by simpa using hcs
    exact ⟨none, [], 0, rfl, .inl rfl, fun _ => ⟨rfl, rfl⟩⟩
  · obtain rfl : v = .slice (some a) len cap := by simpa using hcs
    simp only [if_true] at hm
    subst hm
    refine ⟨some a, (List.range len).map Sx, m, by simp, ?_, fun h => by cases h⟩
    by_cases h0 : len = 0
    · subst h0; exact .inl rfl
    · obtain ⟨b, off, rfl⟩ := addr_plain (hcell 0 (by omega)).1
      refine .inr ⟨b, off, rfl, World.block_lt_of_cell? _ _ (hcell 0 (by omega)).1, fun j hj => ?_⟩
      have hj' : j < len := by simpa using hj
      rw [getD_map_range _ _ _ _ hj', ← (hcell j (by omega)).1, Addr.add_lit]
end
end Go.Proofs.Qxb6618868a
