/-
  THE CURSOR: contracts of colOf, skipTo, findNext.
-/
import Derived.Test.Qxb6002445aClone
import Derived.Test.Qxb6002445aCurPlain
import Derived.Deep.LoopGhost
import Derived.Deep.QuietTactic
import Derived.BigQuiet
import Derived.BigRegion
namespace Go.Proofs.Qxb6002445a
open Go.RowKit
set_option linter.unusedSimpArgs false
set_option linter.unusedVariables false

/-- The line's bytes lie in a block below 'lo' (or there are none). -/
def Line (w : World) (lo : Nat) (a : Option Addr) (ls : List Int) : Prop :=
  ∀ i, i < ls.length → ∃ B, B < lo ∧ a = some ⟨B, 0, none⟩ ∧ w.cell? ⟨B, i, none⟩ = some (.int .u8 (ls.getD i 0))

theorem Line.below {w w' : World} {lo : Nat} {a : Option Addr} {ls : List Int} (h : Line w lo a ls) (hb : Below lo w w') : Line w' lo a ls := by
  intro i hi
  obtain ⟨B, h1, h2, h3⟩ := h i hi
  exact ⟨B, h1, h2, (hb.cell (p := ⟨B, i, none⟩) h1).trans h3⟩

set_option maxHeartbeats 400000 in
theorem colOf_any (lo : Nat) (a : Option Addr) (n c p : Nat) (ls : List Int) (w : World) (hn : n ≤ 65536) (hl : ls.length = n) (hp : p ≤ n) (hL : Line w lo a ls) :
    Calls Try.prog 27 #[.slice a n c, .int .i64 p] w fun e w' => e = .returned (.int .i64 (colN ls p)) ∧ w = w' := by
  have H : Hid (Line w lo a ls ∧ ls.length = n) := ⟨hL, hl⟩
  clear hL hl
  go_enter Try.func27, Try.ntmps27
  go_wp2
  go_loop [5, 6] (fun col i => ∃ k : Nat, k ≤ p ∧ i = .int .i64 k ∧ col = .int .i64 (colN ls k)) (fun _ i => p - (intOf i).toNat)
  case atStart => exact ⟨0, Nat.zero_le _, rfl, rfl⟩
  case round =>
    obtain ⟨k, hk, rfl, rfl⟩ := hrel
    have hcb := colN_le ls k
    by_cases hlt : k < p
    · obtain ⟨B, _, rfl, hck⟩ := H.out.1 k (by have := H.out.2; omega)
      have hst := colN_succ ls k
      generalize colN ls k = col at hcb hst ⊢
      have HX : Hid (colN ls (k + 1) = stepC (ls.getD k 0) col) := hst
      clear hst
      by_cases h9 : ls.getD k 0 = 9
      · rw [h9] at hck HX
        go_wp2
        go_round
        case rel => exact ⟨k + 1, by omega, by go_num, by rw [HX.out]; unfold stepC; go_num⟩
        case measure => simp [intOf]; omega
      · generalize ls.getD k 0 = ch at hck HX h9
        go_wp2
        go_round
        case rel => exact ⟨k + 1, by omega, by go_num, by rw [HX.out, stepC_other _ _ h9]; go_num⟩
        case measure => simp [intOf]; omega
    · have hkp : p = k := by omega
      subst hkp
      go_wp2
      go_ret
      exact ⟨rfl, rfl⟩

/-- A cursor's fields. -/
structure Cur where
  a : Option Addr
  n : Nat
  c : Nat
  pos : Nat
  col : Nat
  next : Nat
  ncol : Nat
  ind : Int
  bl : Bool
  nb : Nat

def Cur.cells (k : Cur) : Array Value := #[.slice k.a k.n k.c, .int .i64 k.pos, .int .i64 k.col, .int .i64 k.next, .int .i64 k.ncol, .int .i64 k.ind, .bool k.bl, .int .i64 k.nb]

/-- The cursor k lies in block b. -/
def Lies (w : World) (b : Nat) (k : Cur) : Prop := w.heap[b]? = some (.cells k.cells 75 (0, 0))

/-- Nothing but block b has turned. -/
structure Only (b : Nat) (w w' : World) : Prop where
  os : w'.os = w.os
  tape : w'.tape = w.tape
  output : w'.output = w.output
  size : w'.heap.size = w.heap.size
  block : ∀ k, k ≠ b → w'.heap[k]? = w.heap[k]?

theorem Only.refl (b : Nat) (w : World) : Only b w w := ⟨rfl, rfl, rfl, rfl, fun _ _ => rfl⟩
theorem Only.trans {b : Nat} {u v w : World} (h : Only b u v) (g : Only b v w) : Only b u w :=
  ⟨g.os.trans h.os, g.tape.trans h.tape, g.output.trans h.output, g.size.trans h.size, fun k hk => (g.block k hk).trans (h.block k hk)⟩
theorem Only.drew {b : Nat} {u v : World} (h : Only b u v) : Only b u v.drew := ⟨h.os, h.tape, h.output, h.size, h.block⟩
theorem Only.drewN {b : Nat} {u v : World} (h : Only b u v) (n : Nat) : Only b u (v.drewN n) := ⟨h.os, h.tape, h.output, h.size, h.block⟩
theorem Only.setCell {b : Nat} {u v : World} (h : Only b u v) (i : Nat) (x : Value) : Only b u (v.setCell ⟨b, i, none⟩ x) :=
  h.trans ⟨rfl, rfl, rfl, by simp [World.setCell], fun k hk => Below.heap_setCell _ _ _ _ hk⟩
theorem Only.below {b B : Nat} {u v : World} (h : Only b u v) (hB : B ≤ b) : Below B u v :=
  ⟨h.os, h.tape, h.output, Nat.le_of_eq h.size.symm, fun k hk => h.block k (by omega)⟩

theorem Lies.cell {w : World} {b : Nat} {k : Cur} (h : Lies w b k) :
    w.cell? ⟨b, 0, none⟩ = some (.slice k.a k.n k.c) ∧ w.cell? ⟨b, 1, none⟩ = some (.int .i64 k.pos) ∧ w.cell? ⟨b, 2, none⟩ = some (.int .i64 k.col) ∧ w.cell? ⟨b, 3, none⟩ = some (.int .i64 k.next) ∧
    w.cell? ⟨b, 4, none⟩ = some (.int .i64 k.ncol) ∧ w.cell? ⟨b, 5, none⟩ = some (.int .i64 k.ind) ∧ w.cell? ⟨b, 6, none⟩ = some (.bool k.bl) ∧ w.cell? ⟨b, 7, none⟩ = some (.int .i64 k.nb) ∧ ∀ i, w.frozen? ⟨b, i, none⟩ = false := by
  unfold Lies at h
  simp [World.cell?, World.frozen?, h, Cur.cells]

theorem Lies.drew {w : World} {b : Nat} {k : Cur} (h : Lies w b k) : Lies w.drew b k := h
theorem Lies.drewN {w : World} {b : Nat} {k : Cur} (h : Lies w b k) (n : Nat) : Lies (w.drewN n) b k := h
theorem Lies.setPos {w : World} {b : Nat} {k : Cur} (h : Lies w b k) (p : Nat) : Lies (w.setCell ⟨b, 1, none⟩ (.int .i64 p)) b { k with pos := p } := heap_setCell_same _ _ _ _ 75 _ h
theorem Lies.setCol {w : World} {b : Nat} {k : Cur} (h : Lies w b k) (p : Nat) : Lies (w.setCell ⟨b, 2, none⟩ (.int .i64 p)) b { k with col := p } := heap_setCell_same _ _ _ _ 75 _ h
theorem Lies.setNext {w : World} {b : Nat} {k : Cur} (h : Lies w b k) (p : Nat) : Lies (w.setCell ⟨b, 3, none⟩ (.int .i64 p)) b { k with next := p } := heap_setCell_same _ _ _ _ 75 _ h
theorem Lies.setNcol {w : World} {b : Nat} {k : Cur} (h : Lies w b k) (p : Nat) : Lies (w.setCell ⟨b, 4, none⟩ (.int .i64 p)) b { k with ncol := p } := heap_setCell_same _ _ _ _ 75 _ h
theorem Lies.setInd {w : World} {b : Nat} {k : Cur} (h : Lies w b k) (p : Int) : Lies (w.setCell ⟨b, 5, none⟩ (.int .i64 p)) b { k with ind := p } := heap_setCell_same _ _ _ _ 75 _ h
theorem Lies.setBl {w : World} {b : Nat} {k : Cur} (h : Lies w b k) (p : Bool) : Lies (w.setCell ⟨b, 6, none⟩ (.bool p)) b { k with bl := p } := heap_setCell_same _ _ _ _ 75 _ h

set_option maxHeartbeats 400000 in
theorem skipTo_any (lo b p : Nat) (k : Cur) (ls : List Int) (w : World) (hk : Lies w b k) (hL : Line w lo k.a ls) (hlo : lo ≤ b) (hn : k.n = ls.length) (h16 : ls.length ≤ 65536) (hp : k.pos ≤ p) (hpn : p ≤ ls.length) (hc : k.col = colN ls k.pos) :
    Calls Try.prog 37 #[.pointer (some ⟨b, 0, none⟩), .int .i64 p] w fun e w' => e = .returned (.tuple #[]) ∧ Only b w w' ∧ Lies w' b { k with pos := p, col := colN ls p } := by
  obtain ⟨a, n, c, pos, col, next, ncol, ind, bl, nb⟩ := k
  simp only at hL hn hp hc ⊢
  subst hn; subst hc
  have H : Hid (Lies w b ⟨a, ls.length, c, pos, colN ls pos, next, ncol, ind, bl, nb⟩ ∧ Line w lo a ls) := ⟨hk, hL⟩
  clear hk hL
  go_enter Try.func37, Try.ntmps37
  go_wp2
  go_loopg [] (p - pos) (fun g wr => ∃ q : Nat, g = p - q ∧ pos ≤ q ∧ q ≤ p ∧ Only b w wr ∧ Lies wr b ⟨a, ls.length, c, q, colN ls q, next, ncol, ind, bl, nb⟩)
  case atStart => exact ⟨pos, rfl, Nat.le_refl _, hp, Only.refl _ _, H.out.1⟩
  case round =>
    obtain ⟨q, rfl, h1, h2, hO, hK⟩ := hrel
    obtain ⟨c0, c1, c2, c3, c4, c5, c6, c7, hf⟩ := hK.cell
    simp only at c0 c1 c2 c3 c4 c5 c6 c7
    have hcb := colN_le ls q
    by_cases hlt : q < p
    · obtain ⟨B, hB, rfl, hcq⟩ := (H.out.2.below (hO.below hlo)) q (by omega)
      have hst := colN_succ ls q
      have HK : Hid (Only b w wr ∧ Lies wr b ⟨some ⟨B, 0, none⟩, ls.length, c, q, colN ls q, next, ncol, ind, bl, nb⟩ ∧ colN ls (q + 1) = stepC (ls.getD q 0) (colN ls q)) := ⟨hO, hK, hst⟩
      clear hO hK hst H
      generalize colN ls q = col at hcb HK c2
      clear c3 c4 c5 c6 c7
      by_cases h9 : ls.getD q 0 = 9
      · rw [h9] at hcq HK
        go_wp2
        go_quiet (fail)
        go_wp2
        go_region
        all_goals (try go_wp2)
        go_roundg (p - (q + 1))
        case measure => omega
        case rel =>
          obtain ⟨hO, hK, hst⟩ := HK.out
          refine ⟨q + 1, rfl, by omega, by omega, ((hO.drewN _).setCell _ _).setCell _ _, ?_⟩
          rw [stepC_tab] at hst
          have e1 : (col : Int) + (4 - (col : Int) % 4) = ((colN ls (q + 1) : Nat) : Int) := by rw [hst]; omega
          have e2 : (q : Int) + 1 = ((q + 1 : Nat) : Int) := by omega
          rw [e1, e2]
          exact ((hK.drewN _).setCol _).setPos _
      · generalize ls.getD q 0 = ch at hcq HK h9
        go_wp2
        go_quiet (fail)
        go_wp2
        go_roundg (p - (q + 1))
        case measure => omega
        case rel =>
          obtain ⟨hO, hK, hst⟩ := HK.out
          refine ⟨q + 1, rfl, by omega, by omega, ((hO.drewN _).setCell _ _).setCell _ _, ?_⟩
          rw [stepC_other _ _ h9] at hst
          have e1 : (col : Int) + 1 = ((colN ls (q + 1) : Nat) : Int) := by rw [hst]; omega
          have e2 : (q : Int) + 1 = ((q + 1 : Nat) : Int) := by omega
          rw [e1, e2]
          exact ((hK.drewN _).setCol _).setPos _
    · have hq : q = p := by omega
      subst hq
      go_wp2
      go_end0
      exact ⟨rfl, hO, hK⟩

end Go.Proofs.Qxb6002445a
