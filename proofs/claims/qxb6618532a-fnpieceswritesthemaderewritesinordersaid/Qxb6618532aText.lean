/-
  Seat b6618532a: (*strings.Builder).String at the writer's field. The two builtins that its text calls are met through the function's own code ('bOf'), not by name.
-/
import Derived.Test.Qxb6618532aTW
import Derived.RegionTactic
namespace Go.Proofs.Qxb6618532a
open Go.RowKit

def opsAt : Code → Nat → List Oper
  | .region id ops _, k => if id = k then ops.toList else []
  | .seq a b, k => opsAt a k ++ opsAt b k
  | _, _ => []
/-- The builtin that operation i of region r calls. -/
def bOf (f : Func) (r i : Nat) : Option Builtin :=
  match f.body with
  | some c => match (opsAt c r)[i]? with
    | some o => match o.op with
      | .call c => match c.callee with
        | .builtin b => some b
        | _ => none
      | _ => none
    | none => none
  | none => none
theorem F_of {b : Builtin} {F : Array TypeId → TypeId → Array Value → Sem Value} (hF : ∀ ts ty c args, builtin b ts ty c args = do pure (.value (← F ts ty args)))
    {ts : Array TypeId} {ty : TypeId} {c : Array Bool} {args : Array Value} {P : Program} {w w' : World} {v : Value} (h : (builtin b ts ty c args).run P w = .ok (.value v) w') : (F ts ty args).run P w = .ok v w' := by
  rw [hF, Sem.run_bind] at h
  cases hr : (F ts ty args).run P w with
  | ok a w1 => rw [hr] at h; simp only [Result.andThen_ok, Sem.run_pure, Result.ok.injEq, Next.value.injEq] at h; rw [h.1, h.2]
  | _ => rw [hr] at h; cases h

section
variable {b : Builtin} (w : World)
theorem sd_row (hb : bOf Try.f27 1 4 = some b) (a : Addr) (n c : Nat) (hc : c ≠ 0) : (builtin b #[76] 102 #[] #[.slice (some a) n c]).run Try.prog w = .ok (.value (.pointer (some a))) w := by
  have h : bOf Try.f27 1 4 = some _ := rfl
  rw [h] at hb
  obtain rfl := Option.some.inj hb
  obtain ⟨k, rfl⟩ : ∃ k, c = k + 1 := ⟨c - 1, by omega⟩
  rfl
theorem sd_nil (hb : bOf Try.f27 1 4 = some b) : (builtin b #[76] 102 #[] #[.slice none 0 0]).run Try.prog w = .ok (.value (.pointer none)) w := by
  have h : bOf Try.f27 1 4 = some _ := rfl
  rw [h] at hb
  obtain rfl := Option.some.inj hb
  rfl
theorem sd_zero (hb : bOf Try.f27 1 4 = some b) (a : Addr) (sh : TypeId × Nat) (hsh : w.shape? a.block = some sh) :
    (builtin b #[76] 102 #[] #[.slice (some a) 0 0]).run Try.prog w = .ok (.value (.pointer (some ⟨w.heap.size, 0, none⟩))) (w.alloc (.view a 5)) := by
  have h : bOf Try.f27 1 4 = some _ := rfl
  rw [h] at hb
  obtain rfl := Option.some.inj hb
  simp only [builtin, Sem.run_bind]
  change (Sem.run Try.prog (do
        if (0 : Nat) ≠ 0 then pure (.pointer (some a))
        else if (← viewAt a.block).isSome then pure (.pointer (some a))
        else pure (.pointer (some ⟨← newObj (.view a (← elemOf 102)), 0, none⟩)) : Sem Value) w).andThen _ = _
  simp [viewAt, hsh, elemOf, run_underlying Try.underlying102]
theorem us_none (hb : bOf Try.f27 1 10 = some b) (q : Option Addr) : (builtin b #[102, 3] 9 #[] #[.pointer q, .int .i64 0]).run Try.prog w = .ok (.value (.string .empty)) w := by
  have h : bOf Try.f27 1 10 = some _ := rfl
  rw [h] at hb
  obtain rfl := Option.some.inj hb
  have hmax : IntKind.i64.max = 9223372036854775807 := rfl
  simp only [builtin, Sem.run_bind]
  cases q with
  | none =>
    change (Sem.run Try.prog (asInt (.int .i64 0) >>= _) w).andThen _ = _
    simp [asInt, asIntOf, hmax]
  | some a =>
    change (Sem.run Try.prog (asInt (.int .i64 0) >>= _) w).andThen _ = _
    simp [asInt, asIntOf, hmax]
theorem us_row (hb : bOf Try.f27 1 10 = some b) (g cells : Nat) (hsh : w.shape? g = some (5, cells)) (l : List UInt8) (h0 : l ≠ []) (hn : l.length ≤ cells) (h63 : l.length ≤ 9223372036854775807)
    (hcell : ∀ j x, l[j]? = some x → w.cell? ((⟨g, 0, none⟩ : Addr).add j) = some (.int .u8 x.toNat)) :
    (builtin b #[102, 3] 9 #[] #[.pointer (some ⟨g, 0, none⟩), .int .i64 l.length]).run Try.prog w = .ok (.value (.string ⟨l.toArray⟩)) (w.freeze ⟨g, 0, none⟩ l.length) := by
  have h : bOf Try.f27 1 10 = some _ := rfl
  rw [h] at hb
  obtain rfl := Option.some.inj hb
  have hl : l.length ≠ 0 := by simpa using h0
  have hlb := Lib.run_loadBytes (P := Try.prog) w l ⟨g, 0, none⟩ .empty hcell
  have hc5 : Try.prog.cellsOf 5 = 1 := by kernel_rfl
  have hlies := Lib.liesAt_bytes (P := Try.prog) hc5 (cells / Try.prog.cellsOf 5) l.length (by rw [hc5]; simpa using hn)
  have h63' : ¬ (9223372036854775807 : Int) < (l.length : Int) := by omega
  have hmax : IntKind.i64.max = 9223372036854775807 := rfl
  have hneg : ¬ (l.length : Int) < 0 := by omega
  simp only [builtin, Sem.run_bind]
  change (Sem.run Try.prog (asInt (.int .i64 l.length) >>= _) w).andThen _ = _
  simp [asInt, asIntOf, hmax, h63', hneg, hl, variablesAt, hsh, elemOf, run_underlying Try.underlying102, hlies, hlb]
end

set_option maxHeartbeats 2000000 in
set_option maxRecDepth 100000 in
theorem string_any (B W X tn : Nat) (T : List Value) (rn : Nat) (R : List Value) (nN : Nat) (nf : Nat → Value) (l : List UInt8) (w : World) (h : TWs B W X tn T rn R nN nf l w) (hBw : B ≤ w.heap.size) :
    Calls Try.prog 27 #[.pointer (some ⟨W, 6, none⟩)] w fun e w' => e = .returned (.string ⟨l.toArray⟩) ∧ Below B w w' := by
  obtain ⟨tv, rv, p, bv, h⟩ := h
  have hbS : bOf Try.f27 1 4 = some _ := rfl
  have hbU : bOf Try.f27 1 10 = some _ := rfl
  have hlt := h.lt
  have hbk := h.blk
  rcases h.buf.2 with ⟨rfl, hl⟩ | ⟨g, cap, cur, rfl, hbg, hg, hnc, hcm, hcs, htake⟩
  · have hl0 : l = [] := List.eq_nil_of_length_eq_zero hl
    subst hl0
    have hUS := fun q => F_of (fun ts ty c args => rfl) (us_none w.drew hbU q)
    have hSD := F_of (fun ts ty c args => rfl) (sd_nil w.drew hbS)
    have c1 : w.drew.cell? ⟨W, 7, none⟩ = some (.slice none 0 0) := cellAt (w := w.drew) hbk rfl
    clear h hbS hbU hbk hl
    go_enter Try.func27, Try.ntmps27
    go_wp2
    go_region
    all_goals (go_wp2; go_ret; exact ⟨rfl, Below.drew (Below.refl B w)⟩)
  · by_cases h0 : l = []
    · subst h0
      have hUS := fun q => F_of (fun ts ty c args => rfl) (us_none w.drew hbU q)
      by_cases hcap : cap = 0
      · subst hcap
        have hSD := F_of (fun ts ty c args => rfl) (sd_zero w.drew hbS ⟨g, 0, none⟩ (5, cur.size) (shapeAt (w := w.drew) hg))
        have c1 : w.drew.cell? ⟨W, 7, none⟩ = some (.slice (some ⟨g, 0, none⟩) 0 0) := cellAt (w := w.drew) hbk rfl
        have c2 : (w.drew.alloc (.view ⟨g, 0, none⟩ 5)).cell? ⟨W, 7, none⟩ = some (.slice (some ⟨g, 0, none⟩) 0 0) := cellAt ((Below.heap_alloc w.drew _ W hlt).trans hbk) rfl
        have c3 : (w.alloc (.view ⟨g, 0, none⟩ 5)).drew.cell? ⟨W, 7, none⟩ = some (.slice (some ⟨g, 0, none⟩) 0 0) := c2
        have c0 : w.cell? ⟨W, 7, none⟩ = some (.slice (some ⟨g, 0, none⟩) 0 0) := c1
        have hUS2 := fun q => F_of (fun ts ty c args => rfl) (us_none (w.alloc (.view ⟨g, 0, none⟩ 5)).drew hbU q)
        clear h hbS hbU hbk hcs htake hnc
        go_enter Try.func27, Try.ntmps27
        go_wp2
        go_region
        all_goals (go_wp2; go_ret; exact ⟨rfl, (Below.drew (Below.refl B w)).alloc hBw _⟩)
      · have hSD := F_of (fun ts ty c args => rfl) (sd_row w.drew hbS ⟨g, 0, none⟩ 0 cap hcap)
        have c1 : w.drew.cell? ⟨W, 7, none⟩ = some (.slice (some ⟨g, 0, none⟩) 0 cap) := cellAt (w := w.drew) hbk rfl
        clear h hbS hbU hbk hcs htake hnc hcap
        go_enter Try.func27, Try.ntmps27
        go_wp2
        go_region
        all_goals (go_wp2; go_ret; exact ⟨rfl, Below.drew (Below.refl B w)⟩)
    · have hl0 : l.length ≠ 0 := by simpa using h0
      have hSD := F_of (fun ts ty c args => rfl) (sd_row w.drew hbS ⟨g, 0, none⟩ l.length cap (by omega))
      have hUS := F_of (fun ts ty c args => rfl) (us_row w.drew hbU g cur.size (shapeAt (w := w.drew) hg) l h0 (by omega) (by unfold maxLen at hcm; omega) (fun j x hx => h.buf.cells (g := g) rfl j (.int .u8 x.toNat) (by simp [Lib.byteCells, hx])))
      have c1 : w.drew.cell? ⟨W, 7, none⟩ = some (.slice (some ⟨g, 0, none⟩) l.length cap) := cellAt (w := w.drew) hbk rfl
      clear h hbS hbU hbk hcs htake
      go_enter Try.func27, Try.ntmps27
      go_wp2
      go_region
      all_goals (go_wp2; go_ret; exact ⟨rfl, Lib.below_freeze (Below.drew (Below.refl B w)) (p := ⟨g, 0, none⟩) hbg _⟩)

end Go.Proofs.Qxb6618532a
