/-
  Seat b6618635aD: what the condition on the listed variable gives a walk; the arguments opened.
-/
import Derived.Test.Qxb6618635aDoorRows
import Derived.Test.Qxb6618635aDoorMake
import Derived.ProofKit
import Derived.OpenShut
import Derived.ChangeOld
import Derived.Deep.Slices
import Derived.LaidMore
import Derived.Lay
import Derived.Stop.LaidErr
import Derived.Stop.Joined
namespace Go.Proofs.Qxb6618635aDoor
open Go.ChangeShapes Go.WideShapes Go.ChangeAt Go.RowKit Go.Deep

theorem own : ownKnob Tryd.prog.godebug = none := by kernel_rfl
theorem laidOut : laidOutB Tryd.prog = true := by kernel_rfl
/-- The listed variable's name. -/
def vName : String := Rows.fnDecoderUvarintHandsOnToByteSpec.vars.headD default
theorem gE : Tryd.prog.globalNamed vName = some 0 := by kernel_rfl
theorem gEType : (Tryd.prog.globals[0]?).map (·.type) = some 31 := by kernel_rfl
theorem cells67 : Tryd.prog.cellsOf 67 = 1 := by kernel_rfl
theorem cells9 : Tryd.prog.cellsOf 9 = 1 := by kernel_rfl
/-- The listed datum's type's name. -/
def tyName : String := match (Rows.laid_example_com_clearbell_clearbell_store_errMalformed : DataW Unit) with
  | .iface n _ => n
  | _ => default
theorem row47 (u : TypeId) (h : Tryd.prog.typeName? 3 u = some tyName) : u = 47 :=
  typeName_ptr_named (nm := "errors.errorString") (by kernel_rfl) (by kernel_rfl) (by decide) u (h.trans (congrArg some (by decide)))

/-- The listed variable, as the condition has it. -/
theorem sentinel_of {W : World} (h : laidMetH Tryd.prog Rows.fnDecoderUvarintHandsOnToByteRow.laid W) : ∃ a : Addr, W.var? Tryd.prog vName = some #[.iface 47 (.pointer (some a))] := by
  rw [MakeChecks.laidMetH_plain _ _ _ (by kernel_rfl)] at h
  obtain ⟨a, s, hv, _⟩ := laid_sentinel (n := vName) (r := []) h gE gEType Tryd.underlying31 row47 Tryd.underlying47 Tryd.underlying67 rfl rfl Tryd.underlying9 cells67 cells9
  exact ⟨a, hv⟩
theorem var_below {W W' : World} {x : Value} (h : W.var? Tryd.prog vName = some #[x]) (hb : Below W.heap.size W W') : W'.var? Tryd.prog vName = some #[x] := by
  have h0 : 0 < W.heap.size := by
    rcases Nat.eq_zero_or_pos W.heap.size with e | e
    · unfold World.var? at h
      rw [gE] at h
      simp [Array.getElem?_eq_none (Nat.le_of_eq e)] at h
    · exact e
  unfold World.var? at h ⊢
  rw [gE] at h ⊢
  simp only [Option.bind_some] at h ⊢
  rw [hb.block 0 h0]
  exact h

theorem addr_plain {w : World} {a : Addr} {v : Value} (h : w.cell? (a.add 0) = some v) : ∃ b off, a = ⟨b, off, none⟩ := by
  obtain ⟨b, off, spot⟩ := a
  have hspot : spot = none := by simpa [Addr.add] using World.cell?_spot h
  exact ⟨b, off, by rw [hspot]⟩
theorem getD_map_range {α : Type} (f : Nat → α) (n j : Nat) (d : α) (h : j < n) : ((List.range n).map f).getD j d = f j := by
  simp [List.getD, h]

section
variable {H : Type} {enc : TypeId × Value → H} {W : World}
theorem bRow_of {fuel : Nat} {v : Value} {x : DataW H × List MemPlace} (h : DataW.trod enc Tryd.prog W 0 (fun _ => true) true fuel 22 [v] = some x) :
    ∃ a l c, v = .slice a l.length c ∧ BRow W.heap.size W a l ∧ l.length ≤ c ∧ (a = none → l = []) ∧ (a = none → c = 0) := by
  rcases open_ints Tryd.underlying22 Tryd.underlying5 (by kernel_rfl) h with ⟨hcs, _⟩ | ⟨a, len, cap, zs, hcs, _, hl, _, hzl, _, hcell, hwf⟩
  · obtain rfl : v = .slice none 0 0 := by simpa using hcs
    exact ⟨none, [], 0, rfl, .inl rfl, Nat.le_refl _, fun _ => rfl, fun _ => rfl⟩
  · obtain rfl : v = .slice (some a) len cap := by simpa using hcs
    simp only [if_true] at hzl
    refine ⟨some a, (List.range len).map (fun j => UInt8.ofNat (zs.getD j 0).toNat), cap, by simp, ?_, by simpa using hl, (fun h => by cases h), (fun h => by cases h)⟩
    by_cases h0 : len = 0
    · subst h0; exact .inl rfl
    · obtain ⟨b, off, rfl⟩ := addr_plain (hcell 0 (by omega))
      refine .inr ⟨b, off, rfl, World.block_lt_of_cell? _ _ (hcell 0 (by omega)), fun j hj => ?_⟩
      have hj' : j < len := by simpa using hj
      have hjz : j < zs.length := by omega
      rw [getD_map_range _ _ _ _ hj']
      have hw := hwf (zs.getD j 0) (by
        rw [List.getD, List.getElem?_eq_getElem hjz]; simp)
      have hz : 0 ≤ zs.getD j 0 ∧ zs.getD j 0 ≤ 255 := by simpa [Lit.wf, IntKind.min, IntKind.max, IntKind.bits, IntKind.signed] using hw
      have hc := hcell j hjz
      rw [Addr.add_lit] at hc
      rw [hc, UInt8.toNat_ofNat_of_lt' (by have : UInt8.size = 256 := rfl; omega)]
      congr 2
      omega
end
end Go.Proofs.Qxb6618635aDoor
