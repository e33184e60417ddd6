/-
  Seat b6618532a: ZZnewTextWriter, ZZaddToken, ZZaddRewrite, ZZtext.
-/
import Derived.Test.Qxb6618532aText
import Derived.Test.Qxb6618532aPData
namespace Go.Proofs.Qxb6618532a
open Go.RowKit

/-- A token's cells; a rewrite's. -/
def tokV (t : Tok) : List Value := [.int .i64 t.kind, .string t.text, .int .i64 0, .int .i64 0, .int .i64 0]
def rwV (i how : Int) (r : Rw) : List Value := [.int .i64 i, .int .i64 how, .int .i64 i, .string r.text, .int .i64 0, .int .i64 0, .bool false, .int .i64 r.f, .int .i64 r.l, .bool r.minus]

theorem info87 : (Try.prog.info? 87).map (fun i => (i.zero, i.size, i.bytes)) = some (some (.agg #[.int .i64 0, .string ⟨#[]⟩, .int .i64 0, .int .i64 0, .int .i64 0]), 5, 48) := by kernel_rfl
theorem info92 : (Try.prog.info? 92).map (fun i => (i.zero, i.size, i.bytes)) = some (some (.agg #[.int .i64 0, .int .i64 0, .int .i64 0, .string ⟨#[]⟩, .int .i64 0, .int .i64 0, .bool false, .int .i64 0, .int .i64 0, .bool false]), 10, 88) := by kernel_rfl

theorem cells_new (w : World) (arr : Array Value) (t : TypeId) : ∀ j u, arr.toList[j]? = some u → (w.alloc (.cells arr t)).cell? ((⟨w.heap.size, 0, none⟩ : Addr).add j) = some u := by
  intro j u h
  rw [Addr.add_lit, Nat.zero_add]
  exact cellAt (heap_alloc_new w _) (by rw [← Array.getElem?_toList]; exact h)

theorem own_form {w : World} {B : Nat} {e : TypeId} {s : Nat} {v : Value} {n : Nat} {xs : List Value} (h : w.ownsRow B e s v n xs) : ∃ ao cap, v = .slice ao n cap := by
  rcases h.2 with ⟨hv, hn⟩ | ⟨g, cap, cur, hv, _⟩
  · exact ⟨none, 0, by rw [hv, hn]⟩
  · exact ⟨_, _, hv⟩

set_option maxHeartbeats 2000000 in
set_option maxRecDepth 100000 in
theorem newWriter_any (B X nN : Nat) (nf : Nat → Value) (pre : ByteArray) (w : World) (hX : B ≤ X) (hn : w.rowIs X 3 nN nf) (hB : B ≤ w.heap.size) (hlen : pre.size ≤ 1048576) :
    Calls Try.prog 13 #[.slice (some ⟨X, 0, none⟩) nN nN, .string pre] w fun e w' => e = .returned (.pointer (some ⟨w.heap.size, 0, none⟩)) ∧ TWs B w.heap.size X 0 [] 0 [] nN nf pre.data.toList w' ∧ Below B w w' := by
  have h1 : TWs B w.heap.size X 0 [] 0 [] nN nf [] (w.alloc (.cells (twCells (.slice none 0 0) (.slice none 0 0) (.slice (some ⟨X, 0, none⟩) nN nN) (.pointer none) (.slice none 0 0)) 80)) :=
    ⟨_, _, _, _, { hB := hB, hX := hX, blk := heap_alloc_new w _, toks := World.ownsRow_nil _ _ _ _, rws := World.ownsRow_nil _ _ _ _, buf := World.ownsRow_nil _ _ _ _, nx := hn.alloc _, hp := .inl rfl }⟩
  have hcon := writeString_any B w.heap.size X 0 [] 0 [] nN nf [] pre _ h1 (by simp; omega) (by simp; omega)
  have HC := hcon
  clear h1 hn hcon
  go_enter Try.func13, Try.ntmps13
  go_wp2_with (go_at_call 25; refine HC.mono ?_; rintro e w2 ⟨rfl, hw2⟩; have HW2 : Hid _ := hw2; clear hw2)
  go_ret
  exact ⟨rfl, by simpa using HW2.out.1, ((Below.refl _ _).alloc hB _).trans HW2.out.2.1⟩

set_option maxHeartbeats 2000000 in
set_option maxRecDepth 100000 in
theorem addToken_any (B W X tn : Nat) (T : List Value) (rn : Nat) (R : List Value) (nN : Nat) (nf : Nat → Value) (l : List UInt8) (t : Tok) (w : World) (h : TWs B W X tn T rn R nN nf l w) (hlen : tn ≤ 65536) (hBw : B ≤ w.heap.size) :
    Calls Try.prog 14 #[.pointer (some ⟨W, 0, none⟩), .int .i64 t.kind, .string t.text] w fun e w' => e = .returned (.tuple #[]) ∧ TWs B W X (tn + 1) (T ++ tokV t) rn R nN nf l w' ∧ Below B w w' := by
  obtain ⟨tv, rv, p, bv, h⟩ := h
  obtain ⟨i0, hi, hz0, hz1, hz2⟩ := info_parts info87
  obtain ⟨kind, text⟩ := t
  obtain ⟨ao, cap, rfl⟩ := own_form h.toks
  have c2 := cellAt (o := 2) h.blk rfl
  have hown := h.toks
  have H1 := h
  have HT : Hid (TW B W X tn T rn R nN nf l (.slice ao tn cap) rv p bv w) := h
  clear h H1
  go_enter Try.func14, Try.ntmps14
  go_wp2_with (at_builtin; refine wpList_append_own _ rfl _ _ 74 rfl B 87 i0 _ 5 48 Try.underlying74 hi hz0 hz1 hz2 rfl (by decide) _ _ _ rfl (hown.alloc _) ⟨w.heap.size, 0, none⟩ 1 1 [.int .i64 kind, .string text, .int .i64 0, .int .i64 0, .int .i64 0] rfl rfl ?c1 ?c2 ?c3 ?c4 ?c5 ?_)
  case c1 => exact cells_new w _ _
  case c2 => intro u hu; simp at hu; rcases hu with rfl | rfl | rfl <;> rfl
  case c3 => unfold maxLen; omega
  case c4 => omega
  case c5 => simp; omega
  intro v' w2 hown' hgrow _
  have hal : TW B W X tn T rn R nN nf l (.slice ao tn cap) rv p bv (w.alloc (.cells #[.int .i64 kind, .string text, .int .i64 0, .int .i64 0, .int .i64 0] 87)) := HT.out.below ((Below.refl _ _).alloc (Nat.le_refl _) _)
  have hb2 : w2.heap[W]? = _ := (hgrow.block W hal.lt (fun e => own_ne_blk hal.toks hal.blk (by decide) e.symm)).trans hal.blk
  have d2 := cellAt (o := 2) hb2 rfl
  have f2 := freeAt hb2 2
  have R2 : Hid (TWs B W X (tn + 1) (T ++ tokV ⟨kind, text⟩) rn R nN nf l (w2.setCell ⟨W, 2, none⟩ v')) := ⟨_, _, _, _, hal.setToks hgrow hown'⟩
  have HB : Hid (Below B w (w2.setCell ⟨W, 2, none⟩ v')) := (((Below.refl _ _).alloc hBw _).grown hgrow (by simp; omega) (fun k hk => (hal.toks.lt k hk).1)).setCell (p := ⟨W, 2, none⟩) hal.hB _
  obtain ⟨ao', cap', hv⟩ := own_form hown'
  subst hv
  clear hown' hgrow hown c2 hb2 hal
  go_wp2
  go_end0
  exact ⟨rfl, R2.out, HB.out⟩

set_option maxHeartbeats 2000000 in
set_option maxRecDepth 100000 in
theorem addRewrite_any (B W X tn : Nat) (T : List Value) (rn : Nat) (R : List Value) (nN : Nat) (nf : Nat → Value) (l : List UInt8) (i how : Int) (r : Rw) (w : World) (h : TWs B W X tn T rn R nN nf l w) (hlen : rn ≤ 65536) (hBw : B ≤ w.heap.size) :
    Calls Try.prog 15 #[.pointer (some ⟨W, 0, none⟩), .int .i64 i, .int .i64 how, .string r.text, .int .i64 r.f, .int .i64 r.l, .bool r.minus] w fun e w' => e = .returned (.tuple #[]) ∧ TWs B W X tn T (rn + 1) (R ++ rwV i how r) nN nf l w' ∧ Below B w w' := by
  obtain ⟨tv, rv, p, bv, h⟩ := h
  obtain ⟨i0, hi, hz0, hz1, hz2⟩ := info_parts info92
  obtain ⟨text, rf, rl, rm⟩ := r
  obtain ⟨ao, cap, rfl⟩ := own_form h.rws
  have c2 := cellAt (o := 3) h.blk rfl
  have hown := h.rws
  have HT : Hid (TW B W X tn T rn R nN nf l tv (.slice ao rn cap) p bv w) := h
  clear h
  go_enter Try.func15, Try.ntmps15
  go_wp2_with (at_builtin; refine wpList_append_own _ rfl _ _ 35 rfl B 92 i0 _ 10 88 Try.underlying35 hi hz0 hz1 hz2 rfl (by decide) _ _ _ rfl (hown.alloc _) ⟨w.heap.size, 0, none⟩ 1 1 [.int .i64 i, .int .i64 how, .int .i64 i, .string text, .int .i64 0, .int .i64 0, .bool false, .int .i64 rf, .int .i64 rl, .bool rm] rfl rfl ?c1 ?c2 ?c3 ?c4 ?c5 ?_)
  case c1 => exact cells_new w _ _
  case c2 => intro u hu; simp at hu; rcases hu with rfl | rfl | rfl | rfl | rfl | rfl | rfl | rfl | rfl <;> rfl
  case c3 => unfold maxLen; omega
  case c4 => omega
  case c5 => simp; omega
  intro v' w2 hown' hgrow _
  have hal : TW B W X tn T rn R nN nf l tv (.slice ao rn cap) p bv (w.alloc (.cells #[.int .i64 i, .int .i64 how, .int .i64 i, .string text, .int .i64 0, .int .i64 0, .bool false, .int .i64 rf, .int .i64 rl, .bool rm] 92)) := HT.out.below ((Below.refl _ _).alloc (Nat.le_refl _) _)
  have hb2 : w2.heap[W]? = _ := (hgrow.block W hal.lt (fun e => own_ne_blk hal.rws hal.blk (by decide) e.symm)).trans hal.blk
  have d2 := cellAt (o := 3) hb2 rfl
  have f2 := freeAt hb2 3
  have R2 : Hid (TWs B W X tn T (rn + 1) (R ++ rwV i how ⟨text, rf, rl, rm⟩) nN nf l (w2.setCell ⟨W, 3, none⟩ v')) := ⟨_, _, _, _, hal.setRws hgrow hown'⟩
  have HB : Hid (Below B w (w2.setCell ⟨W, 3, none⟩ v')) := (((Below.refl _ _).alloc hBw _).grown hgrow (by simp; omega) (fun k hk => (hal.rws.lt k hk).1)).setCell (p := ⟨W, 3, none⟩) hal.hB _
  obtain ⟨ao', cap', hv⟩ := own_form hown'
  subst hv
  clear hown' hgrow hown c2 hb2 hal
  go_wp2
  go_end0
  exact ⟨rfl, R2.out, HB.out⟩

set_option maxHeartbeats 2000000 in
set_option maxRecDepth 100000 in
theorem text_any (B W X tn : Nat) (T : List Value) (rn : Nat) (R : List Value) (nN : Nat) (nf : Nat → Value) (l : List UInt8) (w : World) (h : TWs B W X tn T rn R nN nf l w) (hBw : B ≤ w.heap.size) :
    Calls Try.prog 19 #[.pointer (some ⟨W, 0, none⟩)] w fun e w' => e = .returned (.string ⟨l.toArray⟩) ∧ Below B w w' := by
  have hcon := string_any B W X tn T rn R nN nf l w h hBw
  clear h
  go_enter Try.func19, Try.ntmps19
  go_wp2_with (go_at_call 27; refine hcon.mono ?_; rintro e w2 ⟨rfl, hb⟩)
  go_ret
  exact ⟨rfl, hb⟩

end Go.Proofs.Qxb6618532a
