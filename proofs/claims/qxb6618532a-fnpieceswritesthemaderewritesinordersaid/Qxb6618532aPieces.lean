/-
  Seat b6618532a: (*textWriter).pieces and ZZpieces.
-/
import Derived.Test.Qxb6618532aPPlain
import Derived.Deep.DeepCutAuto
namespace Go.Proofs.Qxb6618532a
open Go.RowKit

theorem flat_get {α β : Type} (f : α → List β) (n : Nat) (hf : ∀ a, (f a).length = n) : ∀ (l : List α) (j c : Nat) (hj : j < l.length), c < n → (l.flatMap f)[j * n + c]? = (f l[j])[c]?
  | [], j, _, hj, _ => by simp at hj
  | a :: r, 0, c, _, hc => by
    rw [List.flatMap_cons, Nat.zero_mul, Nat.zero_add, List.getElem?_append_left (by rw [hf]; exact hc)]
    rfl
  | a :: r, j + 1, c, hj, hc => by
    rw [List.flatMap_cons, List.getElem?_append_right (by rw [hf, Nat.add_mul]; omega), hf, show (j + 1) * n + c - n = j * n + c by rw [Nat.add_mul]; omega, flat_get f n hf r j c (by simpa using hj) hc]
    rfl

/-- The rewrites' row, as its cells. -/
def RwAt (w : World) (ao : Option Addr) (i how : Int) (rl : List Rw) : Prop :=
  rl = [] ∨ ∃ g, ao = some ⟨g, 0, none⟩ ∧ ∃ cur, w.heap[g]? = some (.cells cur 92 (0, 0)) ∧ ∀ j, j < rl.length → ∀ c, c < 10 → cur[j * 10 + c]? = (rwV i how (rl.getD j r0))[c]?
theorem rwAt_of {w : World} {B : Nat} {rv : Value} {i how : Int} {rl : List Rw} (h : w.ownsRow B 92 10 rv rl.length (rl.flatMap (rwV i how))) :
    ∃ ao cap, rv = .slice ao rl.length cap ∧ rl.length ≤ cap ∧ cap ≤ maxLen ∧ (ao = none → rl.length = 0 ∧ cap = 0) ∧ RwAt w ao i how rl := by
  rcases h.2 with ⟨hv, hn⟩ | ⟨g, cap, cur, hv, _, hh, hc, hcm, _, htk⟩
  · exact ⟨none, 0, by rw [hn]; exact hv, by omega, by unfold maxLen; omega, fun _ => ⟨hn, rfl⟩, .inl (List.eq_nil_of_length_eq_zero hn)⟩
  · refine ⟨_, cap, hv, hc, hcm, (fun h => by cases h), .inr ⟨g, rfl, cur, hh, fun j hj c hcc => ?_⟩⟩
    have h1 : (rl.flatMap (rwV i how))[j * 10 + c]? = (rwV i how rl[j])[c]? := flat_get (rwV i how) 10 (fun _ => rfl) rl j c hj hcc
    rw [show rl.getD j r0 = rl[j] from by simp [List.getD, hj], ← h1, ← htk, List.getElem?_take, if_pos (by omega), Array.getElem?_toList]
theorem RwAt.keep {w w' : World} {ao : Option Addr} {i how : Int} {rl : List Rw} (h : RwAt w ao i how rl) (hk : KeepO w w') : RwAt w' ao i how rl := by
  rcases h with h | ⟨g, e, cur, hh, hc⟩
  · exact .inl h
  · exact .inr ⟨g, e, cur, hk g cur 92 hh (by decide) (by decide), hc⟩

/-- The tokens' row of the writer, as its cells. -/
theorem tokAt_of {w : World} {B : Nat} {tv : Value} {tl : List Tok} (h : w.ownsRow B 87 5 tv tl.length (tl.flatMap tokV)) (hn : tl.length ≠ 0) :
    ∃ g cap, tv = .slice (some ⟨g, 0, none⟩) tl.length cap ∧ g < w.heap.size ∧ ∀ j, j < tl.length → w.cell? ⟨g, j * 5, none⟩ = some (.int .i64 (tl.getD j t0).kind) ∧ w.cell? ⟨g, j * 5 + 1, none⟩ = some (.string (tl.getD j t0).text) := by
  rcases h.2 with ⟨hv, hn0⟩ | ⟨g, cap, cur, hv, _, hh, hc, hcm, _, htk⟩
  · exact absurd hn0 hn
  · refine ⟨g, cap, hv, (Array.getElem?_eq_some_iff.1 hh).1, fun j hj => ?_⟩
    have hg : ∀ c, c < 5 → cur[j * 5 + c]? = (tokV (tl.getD j t0))[c]? := fun c hcc => by
      have h1 : (tl.flatMap tokV)[j * 5 + c]? = (tokV tl[j])[c]? := flat_get tokV 5 (fun _ => rfl) tl j c hj hcc
      rw [show tl.getD j t0 = tl[j] from by simp [List.getD, hj], ← h1, ← htk, List.getElem?_take, if_pos (by omega), Array.getElem?_toList]
    exact ⟨cellAt hh (by have := hg 0 (by omega); simpa [tokV] using this), cellAt hh (by have := hg 1 (by omega); simpa [tokV] using this)⟩

/-- skips, at the writer's state. -/
theorem skips_any (B W X nN : Nat) (tl : List Tok) (rn : Nat) (R : List Value) (nf : Nat → Value) (l : List UInt8) (i how : Int) (r : Rw) (w : World) (h : TWs B W X tl.length (tl.flatMap tokV) rn R nN nf l w) (hn : tl.length ≤ 65536)
    (hmin : r.minus = true → 0 ≤ r.f ∧ r.f ≤ r.l ∧ r.l < tl.length) :
    Calls Try.prog 33 #[.pointer (some ⟨W, 0, none⟩), .agg #[.int .i64 i, .int .i64 how, .int .i64 i, .string r.text, .int .i64 0, .int .i64 0, .bool false, .int .i64 r.f, .int .i64 r.l, .bool r.minus]] w fun e w' => IsB (Sk tl r) e ∧ Below w.heap.size w w' := by
  rcases Bool.eq_false_or_eq_true r.minus with hm | hm
  · obtain ⟨h1, h2, h3⟩ := hmin hm
    obtain ⟨tv, rv, p, bv, hT⟩ := h
    obtain ⟨g, cap, rfl, hg, hc⟩ := tokAt_of hT.toks (by omega)
    exact skips_yes W g tl.length cap i how r tl w hm r.f.toNat r.l.toNat (by omega) (by omega) (by omega) (by omega) hn hT.lt hg (cellAt hT.blk rfl) hc
  · exact skips_no W i how r tl w hm

/-- What pieces' loops read, beside the writer: the span s, the pointer to replaced, the slice of rewrites, replaced itself. -/
structure PW (b8 b9 b10 : Nat) (sf sl : Int) (hasR : Bool) (rb : Nat) (rf rl' : Int) (ao : Option Addr) (cap : Nat) (i how : Int) (rl : List Rw) (w : World) : Prop where
  s8 : w.heap[b8]? = some (.cells #[.int .i64 sf, .int .i64 sl] 90 (0, 0))
  s9 : w.heap[b9]? = some (.cells #[.pointer (if hasR then some ⟨rb, 0, none⟩ else none)] 93 (0, 0))
  s10 : w.heap[b10]? = some (.cells #[.slice ao rl.length cap] 35 (0, 0))
  rep : hasR = true → w.heap[rb]? = some (.cells #[.int .i64 rf, .int .i64 rl'] 90 (0, 0))
  row : RwAt w ao i how rl

theorem PW.below {b8 b9 b10 : Nat} {sf sl : Int} {hasR : Bool} {rb : Nat} {rf rl' : Int} {ao : Option Addr} {cap : Nat} {i how : Int} {rl : List Rw} {w w' : World} (h : PW b8 b9 b10 sf sl hasR rb rf rl' ao cap i how rl w) (hb : Below w.heap.size w w') :
    PW b8 b9 b10 sf sl hasR rb rf rl' ao cap i how rl w' := by
  have hk := KeepO.below hb
  exact ⟨hk _ _ _ h.s8 (by decide) (by decide), hk _ _ _ h.s9 (by decide) (by decide), hk _ _ _ h.s10 (by decide) (by decide), fun e => hk _ _ _ (h.rep e) (by decide) (by decide), h.row.keep hk⟩

theorem inside_any {b8 b9 b10 : Nat} {sf sl : Int} {hasR : Bool} {rb : Nat} {rf rl' : Int} {ao : Option Addr} {cap : Nat} {i how : Int} {rl : List Rw} {w : World} (h : PW b8 b9 b10 sf sl hasR rb rf rl' ao cap i how rl w) (k : Nat) (hk : k < rl.length) :
    Calls Try.prog 31 #[.int .i64 k, .pointer (some ⟨b9, 0, none⟩), .pointer (some ⟨b10, 0, none⟩)] w fun e w' => e = .returned (.bool (insB hasR rf rl' (rl.getD k r0))) ∧ Below w.heap.size w w' := by
  cases hR : hasR with
  | false => exact inside_nil k b9 b10 w (cellAt (by have := h.s9; rw [hR] at this; exact this) rfl)
  | true =>
    rcases h.row with hr | ⟨g, rfl, cur, hh, hc⟩
    · subst hr; simp at hk
    · exact inside_some k b9 b10 rb g rl.length cap (rl.getD k r0).f (rl.getD k r0).l rf rl' w (cellAt (by have := h.s9; rw [hR] at this; exact this) rfl) (cellAt h.s10 rfl) hk
        (cellAt hh (hc k hk 7 (by omega))) (cellAt hh (hc k hk 8 (by omega))) (cellAt (h.rep hR) rfl) (cellAt (h.rep hR) rfl)

theorem heap_drewN (w : World) (m : Nat) : (w.drewN m).heap = w.heap := by
  induction m with
  | zero => rfl
  | succ m ih => exact ih

/-- The world when pieces has laid its own variables. -/
theorem pw_start {sf sl : Int} {hasR : Bool} {rb : Nat} {rf rl' : Int} {ao : Option Addr} {cap : Nat} {i how : Int} {rl : List Rw} {w : World} {qa : Option Addr} (m : Nat) (hq : (if hasR then some (⟨rb, 0, none⟩ : Addr) else none) = qa)
    (hrep : hasR = true → w.heap[rb]? = some (.cells #[.int .i64 rf, .int .i64 rl'] 90 (0, 0))) (hrow : RwAt w ao i how rl) :
    PW w.heap.size (w.heap.size + 1) (w.heap.size + 1 + 1) sf sl hasR rb rf rl' ao cap i how rl ((((w.alloc (.cells #[.int .i64 sf, .int .i64 sl] 90)).alloc (.cells #[.pointer qa] 93)).drewN m).alloc (.cells #[.slice ao rl.length cap] 35)) ∧
    Below w.heap.size w ((((w.alloc (.cells #[.int .i64 sf, .int .i64 sl] 90)).alloc (.cells #[.pointer qa] 93)).drewN m).alloc (.cells #[.slice ao rl.length cap] 35)) ∧
    w.heap.size < ((((w.alloc (.cells #[.int .i64 sf, .int .i64 sl] 90)).alloc (.cells #[.pointer qa] 93)).drewN m).alloc (.cells #[.slice ao rl.length cap] 35)).heap.size := by
  have hb : Below w.heap.size w ((((w.alloc (.cells #[.int .i64 sf, .int .i64 sl] 90)).alloc (.cells #[.pointer qa] 93)).drewN m).alloc (.cells #[.slice ao rl.length cap] 35)) :=
    (below_drewN2 (((Below.refl _ _).alloc (Nat.le_refl _) _).alloc (by simp) _) m).alloc (by rw [heap_drewN]; simp; omega) _
  have hk := KeepO.below hb
  refine ⟨⟨?_, ?_, ?_, fun e => hk _ _ _ (hrep e) (by decide) (by decide), hrow.keep hk⟩, hb, ?_⟩
  · rw [Below.heap_alloc _ _ _ (by rw [heap_drewN]; simp; omega), heap_drewN, Below.heap_alloc _ _ _ (by simp)]; exact heap_alloc_new _ _
  · rw [Below.heap_alloc _ _ _ (by rw [heap_drewN]; simp), heap_drewN, hq]
    have e : w.heap.size + 1 = (w.alloc (.cells #[.int .i64 sf, .int .i64 sl] 90)).heap.size := by simp
    rw [e]; exact heap_alloc_new _ _
  · have e : w.heap.size + 1 + 1 = ((((w.alloc (.cells #[.int .i64 sf, .int .i64 sl] 90)).alloc (.cells #[.pointer qa] 93)).drewN m)).heap.size := by rw [heap_drewN]; simp
    rw [e]; exact heap_alloc_new _ _
  · have := hb.size; simp; omega

/-- A store into another block of the call's own. -/
theorem TWs.setO {B W X tn rn nN : Nat} {T R : List Value} {nf : Nat → Value} {l : List UInt8} {w : World} (h : TWs B W X tn T rn R nN nf l w) {k o : Nat} {cs : Array Value} (hb : w.heap[k]? = some (.cells cs 35 (0, 0))) (u : Value) :
    TWs B W X tn T rn R nN nf l (w.setCell ⟨k, o, none⟩ u) := by
  obtain ⟨tv, rv, p, bv, h⟩ := h
  have hne : ∀ {e : TypeId} {s n : Nat} {v : Value} {xs : List Value}, w.ownsRow B e s v n xs → e ≠ 35 → v.ownBlock = none ∨ v.ownBlock ≠ some k := fun h1 h2 => .inr (own_ne_blk h1 hb h2)
  refine ⟨tv, rv, p, bv, h.grow (row := some k) ⟨rfl, rfl, rfl, by simp [World.setCell], fun j _ hj => Below.heap_setCell _ _ _ _ (fun e => hj (by rw [e]))⟩ ?_ ?_ (hne h.toks (by decide)) (hne h.rws (by decide)) (hne h.buf (by decide))⟩
  · intro e
    obtain rfl := Option.some.inj e
    have := h.blk; rw [hb] at this; simp at this
  · intro e
    obtain rfl := Option.some.inj e
    obtain ⟨c, hc, _⟩ := h.nx
    rw [hb] at hc; simp at hc
theorem RwAt.setO {w : World} {ao : Option Addr} {i how : Int} {rl : List Rw} (h : RwAt w ao i how rl) {k o : Nat} {cs : Array Value} (hb : w.heap[k]? = some (.cells cs 35 (0, 0))) (u : Value) : RwAt (w.setCell ⟨k, o, none⟩ u) ao i how rl := by
  rcases h with h | ⟨g, e, cur, hh, hc⟩
  · exact .inl h
  · refine .inr ⟨g, e, cur, ?_, hc⟩
    rw [Below.heap_setCell _ _ _ _ (by show g ≠ k; intro e2; subst e2; rw [hb] at hh; simp at hh)]
    exact hh

end Go.Proofs.Qxb6618532a
