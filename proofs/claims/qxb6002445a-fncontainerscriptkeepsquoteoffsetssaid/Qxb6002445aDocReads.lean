/-
  THE DOCUMENT: what is read of it: ZZDocIndents, ZZDocQuotes, ZZDocFilled, ZZDocLeafKind.
-/
import Derived.Test.Qxb6002445aDocFronts
namespace Go.Proofs.Qxb6002445a
open Go.RowKit
set_option linter.unusedSimpArgs false
set_option linter.unusedVariables false

theorem docQuotes_any (D : Nat) (vo vq : Value) (kd : ByteArray) (fl : Bool) (w : World) (h : DocAt w D vo vq kd fl) :
    Calls Try.prog 20 #[.pointer (some ⟨D, 0, none⟩)] w fun e w' => e = .returned vq ∧ w = w' := by
  obtain ⟨c0, c1, c2, c3, c4, c5, c6, c7, c8, hf⟩ := h.cell
  go_enter Try.func20, Try.ntmps20
  go_wp2
  go_ret
  exact ⟨rfl, rfl⟩

theorem docFilled_any (D : Nat) (vo vq : Value) (kd : ByteArray) (fl : Bool) (w : World) (h : DocAt w D vo vq kd fl) :
    Calls Try.prog 21 #[.pointer (some ⟨D, 0, none⟩)] w fun e w' => e = .returned (.bool fl) ∧ w = w' := by
  obtain ⟨c0, c1, c2, c3, c4, c5, c6, c7, c8, hf⟩ := h.cell
  go_enter Try.func21, Try.ntmps21
  go_wp2
  go_ret
  exact ⟨rfl, rfl⟩

theorem docLeafKind_any (D : Nat) (vo vq : Value) (kd : ByteArray) (fl : Bool) (w : World) (h : DocAt w D vo vq kd fl) :
    Calls Try.prog 22 #[.pointer (some ⟨D, 0, none⟩)] w fun e w' => e = .returned (.string kd) ∧ w = w' := by
  obtain ⟨c0, c1, c2, c3, c4, c5, c6, c7, c8, hf⟩ := h.cell
  go_enter Try.func22, Try.ntmps22
  go_wp2
  go_ret
  exact ⟨rfl, rfl⟩

/-- The row of numbers that is being copied: its first k are laid. -/
structure Copied (w : World) (ns : List Int) (k : Nat) (wr : World) : Prop where
  bel : Below w.heap.size w wr
  sz : wr.heap.size = w.heap.size + 1
  row : ∃ cur : Array Value, wr.heap[w.heap.size]? = some (.cells cur 3 (0, 0)) ∧ cur.size = ns.length ∧ ∀ j, j < k → cur[j]? = some (.int .i64 (ns.getD j 0))

theorem Copied.next {w wr : World} {ns : List Int} {k : Nat} (h : Copied w ns k wr) (hk : k < ns.length) : Copied w ns (k + 1) (wr.setCell ⟨w.heap.size, k, none⟩ (.int .i64 (ns.getD k 0))) := by
  obtain ⟨hb, hs, cur, h1, h2, h3⟩ := h
  refine ⟨hb.setCell (Nat.le_refl _) _, by simp [hs], cur.setIfInBounds k (.int .i64 (ns.getD k 0)), heap_setCell_same _ _ _ _ 3 _ h1, by simp [h2], fun j hj => ?_⟩
  rw [Array.getElem?_setIfInBounds]
  by_cases e : k = j
  · subst e; simp [h2, hk]
  · rw [if_neg e]; exact h3 j (by omega)

set_option maxHeartbeats 400000 in
theorem docIndents_any (D base : Nat) (ns : List Int) (ks : List Bool) (kd : ByteArray) (fl : Bool) (w : World) (h : Doc w D base ns ks kd fl) (hk : ks.length ≤ 1024) :
    Calls Try.prog 19 #[.pointer (some ⟨D, 0, none⟩)] w fun e w' => e = .returned (.slice (some ⟨w.heap.size, 0, none⟩) ns.length ns.length) ∧ Copied w ns ns.length w' := by
  obtain ⟨hD, hlen, vo, vq, hA, hvo, hvq⟩ := h
  obtain ⟨ao, co, rfl, hco, hxo, hao⟩ := own_shape hvo
  obtain ⟨c0, c1, c2, c3, c4, c5, c6, c7, c8, hf⟩ := hA.cell
  have hDw : D < w.heap.size := lt_of_block hA
  have hn : ns.length ≤ 1024 := by omega
  have hcell : ∀ j, j < ns.length → ∃ g, ao = some ⟨g, 0, none⟩ ∧ g < w.heap.size ∧ w.cell? ⟨g, j, none⟩ = some (.int .i64 (ns.getD j 0)) := by
    intro j hj
    obtain ⟨g, hg, hb, hc⟩ := hao (by omega)
    subst hg
    refine ⟨g, rfl, (hvo.lt g rfl).2, ?_⟩
    rw [hc j hj]
    simp [List.getElem?_eq_getElem hj]
  have HC : Hid (DocAt w D (.slice ao ns.length co) vq kd fl ∧ ∀ j, j < ns.length → ∃ g, ao = some ⟨g, 0, none⟩ ∧ g < w.heap.size ∧ w.cell? ⟨g, j, none⟩ = some (.int .i64 (ns.getD j 0))) := ⟨hA, hcell⟩
  clear hA hvo hvq hao hxo hcell c1 c2 c3 c4 c5 c6 c7 c8 hlen hf
  obtain ⟨i0, hi, hz0, hz1, hz2⟩ := info_parts Try.info3
  have hmk : ∀ w, (Instr.makeSlice 33 (.int .i64 ns.length) (.int .i64 ns.length)).run Try.prog w = .ok (.slice (some ⟨w.heap.size, 0, none⟩) ns.length ns.length) (w.alloc (.cells (madeCells #[.int .i64 0] ns.length) 3)) := by
    intro w
    have := run_make (P := Try.prog) w 33 3 i0 (.int .i64 0) Try.underlying33 hi hz0 .i64 .i64 ns.length ns.length (by omega) (by omega) (by rw [hz2]; omega) (by omega)
    rw [hz1] at this
    simpa [Value.cells] using this
  clear hi hz0 hz1 hz2
  go_enter Try.func19, Try.ntmps19
  go_wp2
  clear hmk c0
  go_loopg [4] ns.length (fun g s wr => ∃ k : Nat, ns.length - k ≤ g ∧ k ≤ ns.length ∧ s = .int .i64 k ∧ Copied w ns k wr)
  case atStart => exact ⟨0, Nat.sub_le _ _, Nat.zero_le _, rfl, (Below.refl _ _).alloc (Nat.le_refl _) _, by simp, _, heap_alloc_new _ _, size_madeCells _ _, fun j h => absurd h (by omega)⟩
  case round =>
    obtain ⟨k, hg, hkn, rfl, R⟩ := hrel
    have hA2 : DocAt wr D (.slice ao ns.length co) vq kd fl := (R.bel.block D hDw).trans HC.out.1
    obtain ⟨c0, _⟩ := hA2.cell
    clear hA2
    by_cases hlt : k < ns.length
    · obtain ⟨go, rfl, hgo, hcg⟩ := HC.out.2 k hlt
      have hcg2 : wr.cell? ⟨go, k, none⟩ = some (.int .i64 (ns.getD k 0)) := (R.bel.cell (p := ⟨go, k, none⟩) hgo).trans hcg
      obtain ⟨cur, r1, r2, r3⟩ := R.row
      obtain ⟨v, hv⟩ : ∃ v, wr.cell? ⟨w.heap.size, k, none⟩ = some v := by
        refine ⟨cur[k]'(by omega), ?_⟩
        simp [World.cell?, r1, show k < cur.size by omega]
      have hfz : wr.frozen? ⟨w.heap.size, k, none⟩ = false := by simp [World.frozen?, r1]
      have HR : Hid (Copied w ns (k + 1) (wr.setCell ⟨w.heap.size, k, none⟩ (.int .i64 (ns.getD k 0)))) := R.next hlt
      clear R r1 r2 r3 hcg
      generalize ns.getD k 0 = x at hcg2 HR
      go_wp2
      go_roundg (ns.length - (k + 1))
      case measure => omega
      case rel => exact ⟨k + 1, Nat.le_refl _, by omega, by go_num, HR.out⟩
    · have hkn2 : ns.length = k := by omega
      have HR : Hid (Copied w ns ns.length wr) := by rw [hkn2]; exact R
      clear R hkn2
      go_wp2
      go_ret
      exact ⟨rfl, HR.out⟩

end Go.Proofs.Qxb6002445a
