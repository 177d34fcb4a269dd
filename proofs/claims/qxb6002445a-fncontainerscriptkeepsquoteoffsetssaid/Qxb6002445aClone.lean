/-
  cloneBytesG2, cloneWordsG2: a new row of the same numbers.
-/
import Derived.Test.Qxb6002445aLeaf
namespace Go.Proofs.Qxb6002445a
open Go.RowKit

/-- WHAT IS KNOWN BEHIND A CALL THAT MAKES ONE BLOCK (number 'w.heap.size') AND TURNS NOTHING ELSE. -/
structure Made (w : World) (o : Obj) (w' : World) : Prop where
  below : Below w.heap.size w w'
  size : w'.heap.size = w.heap.size + 1
  block : w'.heap[w.heap.size]? = some o

theorem Try.info5 : (Try.prog.info? 5).map (fun i => (i.zero, i.size, i.bytes)) = some (some (.int .u8 0), 1, 1) := by kernel_rfl
theorem Try.info47 : (Try.prog.info? 47).map (fun i => (i.zero, i.size, i.bytes)) = some (some (.int .u32 0), 1, 4) := by kernel_rfl
theorem Try.one5 : (Try.prog.info? 5).map (·.size) = some 1 := by kernel_rfl
theorem Try.one47 : (Try.prog.info? 47).map (·.size) = some 1 := by kernel_rfl

theorem src_of {k : IntKind} {W : World} {x : Addr} {zs : List Int} (n : Nat) (h : ∀ i, i < zs.length → W.cell? (x.add i) = some (.int k (zs.getD i 0))) (j : Nat) (v : Value) (hj : ((zs.take n).map (Value.int k))[j]? = some v) : W.cell? (x.add j) = some v := by
  rw [List.getElem?_map, List.getElem?_take] at hj
  split at hj
  · cases hz : zs[j]? with
    | none => rw [hz] at hj; simp at hj
    | some a =>
      rw [hz] at hj
      simp only [Option.map_some, Option.some.injEq] at hj
      subst hj
      have hjl : j < zs.length := (List.getElem?_eq_some_iff.1 hz).1
      rw [h j hjl]
      simp [hz]
  · simp at hj

theorem made_row {w : World} {old : Array Value} {t : TypeId} {xs : List Value} (n : Nat) (h : old.size = n) :
    Made w (.cells xs.toArray t (0, 0)) ((w.alloc (.cells old t)).setRow w.heap.size (xs ++ old.toList.drop n).toArray) := by
  have e : old.toList.drop n = [] := List.drop_eq_nil_of_le (by simp [h])
  rw [e, List.append_nil]
  refine ⟨below_setRow ((Below.refl _ _).alloc (Nat.le_refl _) _) (Nat.le_refl _) _, by simp, ?_⟩
  exact setRow_heap _ _ old _ t (0, 0) (heap_alloc_new _ _)

theorem one_ints (k : IntKind) (l : List Int) : ∀ v ∈ l.map (Value.int k), v.oneCell' = true := by
  intro v hv
  obtain ⟨a, _, rfl⟩ := List.mem_map.1 hv
  rfl

theorem cloneBytes_nil (w : World) : Calls Try.prog 9 #[.slice none 0 0] w fun e w' => e = .returned (.slice none 0 0) ∧ w = w' := by
  have hq := fun w => Lib.run_eql_slice_nil (P := Try.prog) w 22 5 none 0 0 0 0 Try.underlying22
  go_enter Try.func9, Try.ntmps9
  go_wp2
  go_ret
  exact ⟨rfl, rfl⟩

theorem cloneBytes_some (x : Addr) (n c : Nat) (zs : List Int) (w : World) (hn : n ≤ 1048576) (hz : n ≤ zs.length) (hc : ∀ i, i < zs.length → w.cell? (x.add i) = some (.int .u8 (zs.getD i 0))) :
    Calls Try.prog 9 #[.slice (some x) n c] w fun e w' => e = .returned (.slice (some ⟨w.heap.size, 0, none⟩) n n) ∧ Made w (.cells ((zs.take n).map (Value.int .u8)).toArray 5 (0, 0)) w' := by
  have hq := fun w => Lib.run_eql_slice_nil (P := Try.prog) w 22 5 (some x) n c 0 0 Try.underlying22
  obtain ⟨i0, hi, hz0, hz1, hz2⟩ := info_parts Try.info5
  have hmk : ∀ w, (Instr.makeSlice 22 (.int .i64 n) (.int .i64 n)).run Try.prog w = .ok (.slice (some ⟨w.heap.size, 0, none⟩) n n) (w.alloc (.cells (madeCells #[.int .u8 0] n) 5)) := by
    intro w
    have := run_make (P := Try.prog) w 22 5 i0 (.int .u8 0) Try.underlying22 hi hz0 .i64 .i64 n n (by omega) (by omega) (by rw [hz2]; omega) (by omega)
    rw [hz1] at this
    simpa [Value.cells] using this
  clear hz0 hz1 hz2 hi
  have hlen : ((zs.take n).map (Value.int .u8)).length = Nat.min n n := by simp; omega
  have hsrc := fun (W : World) (h : ∀ i, i < zs.length → W.cell? (x.add i) = some (.int .u8 (zs.getD i 0))) => src_of n h
  have hone := one_ints .u8 (zs.take n)
  generalize hX : (zs.take n).map (Value.int .u8) = X at *
  clear hX
  have HH : Hid ((∀ v ∈ X, v.oneCell' = true) ∧ (∀ (W : World) (h : ∀ i, i < zs.length → W.cell? (x.add i) = some (.int .u8 (zs.getD i 0))), ∀ (j : Nat) (v : Value), X[j]? = some v → W.cell? (x.add j) = some v)) := ⟨hone, hsrc⟩
  clear hone hsrc
  have HC : Hid (∀ i, i < zs.length → w.cell? (x.add i) = some (.int .u8 (zs.getD i 0))) := hc
  clear hc
  go_enter Try.func9, Try.ntmps9
  go_wp2_with (refine wpList_copy_own rfl (.tmp 9) (.tmp 10) 22 22 rfl 5 Try.underlying22 Try.one5 w.heap.size 0 n n x n c rfl rfl (madeCells #[.int .u8 0] n) 5 (heap_alloc_new _ _) X hlen ?_ ?_ ?_ ?_)
  · exact HH.out.2 _ fun i h => cell_later ((Below.refl _ _).alloc (Nat.le_refl _) _) (HC.out i h)
  · rw [hlen, size_madeCells]; simp
  · exact HH.out.1
  · go_ret
    exact ⟨rfl, made_row n (size_madeCells _ _)⟩

theorem cloneWords_nil (w : World) : Calls Try.prog 14 #[.slice none 0 0] w fun e w' => e = .returned (.slice none 0 0) ∧ w = w' := by
  have hq := fun w => Lib.run_eql_slice_nil (P := Try.prog) w 29 47 none 0 0 0 0 Try.underlying29
  go_enter Try.func14, Try.ntmps14
  go_wp2
  go_ret
  exact ⟨rfl, rfl⟩

theorem cloneWords_some (x : Addr) (n c : Nat) (zs : List Int) (w : World) (hn : n ≤ 1048576) (hz : n ≤ zs.length) (hc : ∀ i, i < zs.length → w.cell? (x.add i) = some (.int .u32 (zs.getD i 0))) :
    Calls Try.prog 14 #[.slice (some x) n c] w fun e w' => e = .returned (.slice (some ⟨w.heap.size, 0, none⟩) n n) ∧ Made w (.cells ((zs.take n).map (Value.int .u32)).toArray 47 (0, 0)) w' := by
  have hq := fun w => Lib.run_eql_slice_nil (P := Try.prog) w 29 47 (some x) n c 0 0 Try.underlying29
  obtain ⟨i0, hi, hz0, hz1, hz2⟩ := info_parts Try.info47
  have hmk : ∀ w, (Instr.makeSlice 29 (.int .i64 n) (.int .i64 n)).run Try.prog w = .ok (.slice (some ⟨w.heap.size, 0, none⟩) n n) (w.alloc (.cells (madeCells #[.int .u32 0] n) 47)) := by
    intro w
    have := run_make (P := Try.prog) w 29 47 i0 (.int .u32 0) Try.underlying29 hi hz0 .i64 .i64 n n (by omega) (by omega) (by rw [hz2]; omega) (by omega)
    rw [hz1] at this
    simpa [Value.cells] using this
  clear hz0 hz1 hz2 hi
  have hlen : ((zs.take n).map (Value.int .u32)).length = Nat.min n n := by simp; omega
  have hsrc := fun (W : World) (h : ∀ i, i < zs.length → W.cell? (x.add i) = some (.int .u32 (zs.getD i 0))) => src_of n h
  have hone := one_ints .u32 (zs.take n)
  generalize hX : (zs.take n).map (Value.int .u32) = X at *
  clear hX
  have HH : Hid ((∀ v ∈ X, v.oneCell' = true) ∧ (∀ (W : World) (h : ∀ i, i < zs.length → W.cell? (x.add i) = some (.int .u32 (zs.getD i 0))), ∀ (j : Nat) (v : Value), X[j]? = some v → W.cell? (x.add j) = some v)) := ⟨hone, hsrc⟩
  clear hone hsrc
  have HC : Hid (∀ i, i < zs.length → w.cell? (x.add i) = some (.int .u32 (zs.getD i 0))) := hc
  clear hc
  go_enter Try.func14, Try.ntmps14
  go_wp2_with (refine wpList_copy_own rfl (.tmp 9) (.tmp 10) 29 29 rfl 47 Try.underlying29 Try.one47 w.heap.size 0 n n x n c rfl rfl (madeCells #[.int .u32 0] n) 47 (heap_alloc_new _ _) X hlen ?_ ?_ ?_ ?_)
  · exact HH.out.2 _ fun i h => cell_later ((Below.refl _ _).alloc (Nat.le_refl _) _) (HC.out i h)
  · rw [hlen, size_madeCells]; simp
  · exact HH.out.1
  · go_ret
    exact ⟨rfl, made_row n (size_madeCells _ _)⟩

end Go.Proofs.Qxb6002445a
