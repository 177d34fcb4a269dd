/-
  THE DOCUMENT: closeFrom.
-/
import Derived.Test.Qxb6002445aDocPlain
import Derived.Deep.LoopGhost
import Derived.Deep.QuietTactic
import Derived.BigQuiet
import Derived.BigRegion
namespace Go.Proofs.Qxb6002445a
open Go.RowKit
set_option linter.unusedSimpArgs false
set_option linter.unusedVariables false

/-- Nothing but block b has turned. -/
structure OnlyD (b : Nat) (w w' : World) : Prop where
  os : w'.os = w.os
  tape : w'.tape = w.tape
  output : w'.output = w.output
  size : w'.heap.size = w.heap.size
  block : ∀ k, k ≠ b → w'.heap[k]? = w.heap[k]?

theorem OnlyD.refl (b : Nat) (w : World) : OnlyD b w w := ⟨rfl, rfl, rfl, rfl, fun _ _ => rfl⟩
theorem OnlyD.trans {b : Nat} {u v w : World} (h : OnlyD b u v) (g : OnlyD b v w) : OnlyD b u w :=
  ⟨g.os.trans h.os, g.tape.trans h.tape, g.output.trans h.output, g.size.trans h.size, fun k hk => (g.block k hk).trans (h.block k hk)⟩
theorem OnlyD.setCell {b : Nat} {u v : World} (h : OnlyD b u v) (i : Nat) (x : Value) : OnlyD b u (v.setCell ⟨b, i, none⟩ x) :=
  h.trans ⟨rfl, rfl, rfl, by simp [World.setCell], fun k hk => Below.heap_setCell _ _ _ _ hk⟩

/-- The seventeen cells of a document: four of them ever turn. -/
def docCells (vo vq : Value) (kd : ByteArray) (fl : Bool) : Array Value :=
  #[vo, vq, .string kd, .int .u8 0, .int .i64 0, .int .i64 0, .slice none 0 0, .slice none 0 0, .bool fl, .string ⟨#[]⟩, .int .i64 0, .bool false, .int .i64 0, .int .u8 0, .bool false, .bool false, .string ⟨#[]⟩]

def DocAt (w : World) (D : Nat) (vo vq : Value) (kd : ByteArray) (fl : Bool) : Prop := w.heap[D]? = some (.cells (docCells vo vq kd fl) 45 (0, 0))

theorem DocAt.cell {w : World} {D : Nat} {vo vq : Value} {kd : ByteArray} {fl : Bool} (h : DocAt w D vo vq kd fl) :
    w.cell? ⟨D, 0, none⟩ = some vo ∧ w.cell? ⟨D, 1, none⟩ = some vq ∧ w.cell? ⟨D, 2, none⟩ = some (.string kd) ∧ w.cell? ⟨D, 3, none⟩ = some (.int .u8 0) ∧ w.cell? ⟨D, 4, none⟩ = some (.int .i64 0) ∧ w.cell? ⟨D, 5, none⟩ = some (.int .i64 0) ∧
    w.cell? ⟨D, 6, none⟩ = some (.slice none 0 0) ∧ w.cell? ⟨D, 7, none⟩ = some (.slice none 0 0) ∧ w.cell? ⟨D, 8, none⟩ = some (.bool fl) ∧ ∀ i, w.frozen? ⟨D, i, none⟩ = false := by
  unfold DocAt at h
  simp [World.cell?, World.frozen?, h, docCells]

theorem DocAt.setOpen {w : World} {D : Nat} {vo vq : Value} {kd : ByteArray} {fl : Bool} (h : DocAt w D vo vq kd fl) (v : Value) : DocAt (w.setCell ⟨D, 0, none⟩ v) D v vq kd fl := by
  unfold DocAt; rw [heap_setCell_same w D 0 _ 45 v h]; rfl
theorem DocAt.setQuotes {w : World} {D : Nat} {vo vq : Value} {kd : ByteArray} {fl : Bool} (h : DocAt w D vo vq kd fl) (v : Value) : DocAt (w.setCell ⟨D, 1, none⟩ v) D vo v kd fl := by
  unfold DocAt; rw [heap_setCell_same w D 1 _ 45 v h]; rfl
theorem DocAt.setFilled {w : World} {D : Nat} {vo vq : Value} {kd : ByteArray} {fl : Bool} (h : DocAt w D vo vq kd fl) (b : Bool) : DocAt (w.setCell ⟨D, 8, none⟩ (.bool b)) D vo vq kd b := by
  unfold DocAt; rw [heap_setCell_same w D 8 _ 45 _ h]; rfl
theorem DocAt.setKind {w : World} {D : Nat} {vo vq : Value} {kd : ByteArray} {fl : Bool} (h : DocAt w D vo vq kd fl) (s : ByteArray) : DocAt (w.setCell ⟨D, 2, none⟩ (.string s)) D vo vq s fl := by
  unfold DocAt; rw [heap_setCell_same w D 2 _ 45 _ h]; rfl
theorem DocAt.set3 {w : World} {D : Nat} {vo vq : Value} {kd : ByteArray} {fl : Bool} (h : DocAt w D vo vq kd fl) : DocAt (w.setCell ⟨D, 3, none⟩ (.int .u8 0)) D vo vq kd fl := by
  unfold DocAt; rw [heap_setCell_same w D 3 _ 45 _ h]; rfl
theorem DocAt.set4 {w : World} {D : Nat} {vo vq : Value} {kd : ByteArray} {fl : Bool} (h : DocAt w D vo vq kd fl) : DocAt (w.setCell ⟨D, 4, none⟩ (.int .i64 0)) D vo vq kd fl := by
  unfold DocAt; rw [heap_setCell_same w D 4 _ 45 _ h]; rfl
theorem DocAt.set5 {w : World} {D : Nat} {vo vq : Value} {kd : ByteArray} {fl : Bool} (h : DocAt w D vo vq kd fl) : DocAt (w.setCell ⟨D, 5, none⟩ (.int .i64 0)) D vo vq kd fl := by
  unfold DocAt; rw [heap_setCell_same w D 5 _ 45 _ h]; rfl
theorem DocAt.set6 {w : World} {D : Nat} {vo vq : Value} {kd : ByteArray} {fl : Bool} (h : DocAt w D vo vq kd fl) : DocAt (w.setCell ⟨D, 6, none⟩ (.slice none 0 0)) D vo vq kd fl := by
  unfold DocAt; rw [heap_setCell_same w D 6 _ 45 _ h]; rfl
theorem DocAt.set7 {w : World} {D : Nat} {vo vq : Value} {kd : ByteArray} {fl : Bool} (h : DocAt w D vo vq kd fl) : DocAt (w.setCell ⟨D, 7, none⟩ (.slice none 0 0)) D vo vq kd fl := by
  unfold DocAt; rw [heap_setCell_same w D 7 _ 45 _ h]; rfl
/-- A whole leaf stored. -/
theorem DocAt.setLeaf {w : World} {D : Nat} {vo vq : Value} {kd : ByteArray} {fl : Bool} (h : DocAt w D vo vq kd fl) (s : ByteArray) :
    DocAt ((((((w.setCell ⟨D, 2, none⟩ (.string s)).setCell ⟨D, 3, none⟩ (.int .u8 0)).setCell ⟨D, 4, none⟩ (.int .i64 0)).setCell ⟨D, 5, none⟩ (.int .i64 0)).setCell ⟨D, 6, none⟩ (.slice none 0 0)).setCell ⟨D, 7, none⟩ (.slice none 0 0)) D vo vq s fl :=
  (((((h.setKind s).set3).set4).set5).set6).set7

/-! ### Owned rows of one cell an element -/
theorem own_shape {w : World} {base : Nat} {e : TypeId} {v : Value} {n : Nat} {xs : List Value} (h : w.ownsRow base e 1 v n xs) :
    ∃ ao cap, v = .slice ao n cap ∧ n ≤ cap ∧ xs.length = n ∧ (0 < n → ∃ g, ao = some ⟨g, 0, none⟩ ∧ base ≤ g ∧ ∀ j, j < n → w.cell? ⟨g, j, none⟩ = xs[j]?) := by
  obtain ⟨h1, h2⟩ := h
  rcases h2 with ⟨rfl, rfl⟩ | ⟨g, cap, cur, rfl, hg, hh, hn, hcap, hsz, htake⟩
  · exact ⟨none, 0, rfl, Nat.le_refl _, by simpa using h1, fun h => absurd h (by omega)⟩
  · refine ⟨_, cap, rfl, hn, by simpa using h1, fun _ => ⟨g, rfl, hg, fun j hj => ?_⟩⟩
    rw [← htake]
    simp [World.cell?, hh, List.getElem?_take, hj]

theorem own_cut {w : World} {base : Nat} {e : TypeId} {ao : Option Addr} {n cap k : Nat} {xs : List Value} (h : w.ownsRow base e 1 (.slice ao n cap) n xs) (hk : k ≤ n) :
    w.ownsRow base e 1 (.slice ao k cap) k (xs.take k) := by
  obtain ⟨h1, h2⟩ := h
  rcases h2 with ⟨h0, rfl⟩ | ⟨g, cap', cur, hv, hg, hh, hn, hcap, hsz, htake⟩
  · cases h0
    have : k = 0 := by omega
    subst this
    exact ⟨by simp, .inl ⟨rfl, rfl⟩⟩
  · cases hv
    refine ⟨by simp at h1 ⊢; omega, .inr ⟨g, cap, cur, rfl, hg, hh, by omega, hcap, hsz, ?_⟩⟩
    rw [← htake, List.take_take]
    simp [Nat.min_eq_left hk]

theorem own_only {w w' : World} {base D : Nat} {e : TypeId} {v : Value} {n : Nat} {xs : List Value} (h : w.ownsRow base e 1 v n xs) (hO : OnlyD D w w') (hD : D < base) : w'.ownsRow base e 1 v n xs := by
  obtain ⟨h1, h2⟩ := h
  refine ⟨h1, ?_⟩
  rcases h2 with h2 | ⟨g, cap, cur, hv, hg, hh, r⟩
  · exact .inl h2
  · exact .inr ⟨g, cap, cur, hv, hg, (hO.block g (by omega)).trans hh, r⟩

/-- The offsets of the block quotes, as cells. -/
def qCells (ks : List Bool) : List Value := (posOf ks).map fun (q : Nat) => Value.int .i64 (q : Int)

/-- The document as the stack model has it. -/
structure Doc (w : World) (D base : Nat) (ns : List Int) (ks : List Bool) (kd : ByteArray) (fl : Bool) : Prop where
  low : D < base
  len : ns.length = ks.length
  ex : ∃ vo vq, DocAt w D vo vq kd fl ∧ w.ownsRow base 73 1 vo ns.length (ns.map (Value.int .i64)) ∧ w.ownsRow base 3 1 vq (posOf ks).length (qCells ks)

set_option maxRecDepth 8000 in
set_option maxHeartbeats 800000 in
theorem closeFrom_any (D base d : Nat) (ns : List Int) (ks : List Bool) (kd : ByteArray) (fl : Bool) (w : World) (h : Doc w D base ns ks kd fl) (hd : d ≤ 1023) (hk : ks.length ≤ 1024) :
    Calls Try.prog 33 #[.pointer (some ⟨D, 0, none⟩), .int .i64 d] w fun e w' => e = .returned (.tuple #[]) ∧ OnlyD D w w' ∧ Doc w' D base (ns.take d) (ks.take d) ⟨#[]⟩ (fl || decide (d < ks.length)) := by
  obtain ⟨hD, hlen, vo, vq, hdoc, hvo, hvq⟩ := h
  obtain ⟨ao, co, rfl, hco, hxo, hao⟩ := own_shape hvo
  obtain ⟨aq, cq, rfl, hcq, hxq, haq⟩ := own_shape hvq
  obtain ⟨R, hPR, hP, hR⟩ := posOf_take ks d
  have hql := posOf_length ks
  obtain ⟨c0, c1, c2, c3, c4, c5, c6, c7, c8, hf⟩ := hdoc.cell
  have hlt2 : ∀ q ∈ posOf ks, q < 1024 := fun q hq => by have := posOf_lt ks q hq; omega
  obtain ⟨N, hN⟩ : ∃ N, N = (posOf ks).length := ⟨_, rfl⟩
  obtain ⟨n, hn⟩ : ∃ n, n = ns.length := ⟨_, rfl⟩
  obtain ⟨P, hPe⟩ : ∃ P, P = (posOf (ks.take d)).length := ⟨_, rfl⟩
  have hPN : P ≤ N := by rw [hPe, hN, hPR]; simp
  rw [← hN] at c1 hql hcq hvq haq hxq hdoc
  rw [← hn] at c0 hco hvo hao hxo hdoc
  have hnk : n = ks.length := by rw [hn, hlen]
  -- the offset at place m
  have HQ : Hid (∀ (wr : World) (m : Nat), OnlyD D w wr → m < N → ∃ (gq q : Nat), aq = some ⟨gq, 0, none⟩ ∧ wr.cell? ⟨gq, m, none⟩ = some (.int .i64 (q : Int)) ∧ (P ≤ m → d ≤ q) ∧ (m < P → q < d)) := by
    intro wr m hO hm
    obtain ⟨gq, hgq, hb, hcell⟩ := haq (by omega)
    have hml : m < (posOf ks).length := by omega
    refine ⟨gq, (posOf ks)[m], hgq, ?_, fun h => ?_, fun h => ?_⟩
    · have e1 := hcell m hm
      have e2 : wr.cell? ⟨gq, m, none⟩ = w.cell? ⟨gq, m, none⟩ := World.cell?_of_block (hO.block gq (by omega))
      rw [e2, e1]
      simp [qCells, List.getElem?_eq_getElem hml]
    · apply hR
      have hml2 : m < (posOf (ks.take d) ++ R).length := by rw [← hPR]; exact hml
      have e : (posOf ks)[m] = (posOf (ks.take d) ++ R)[m] := by congr 1
      rw [e, List.getElem_append_right (by omega)]
      exact List.getElem_mem _
    · apply hP
      have e : (posOf ks)[m] = (posOf (ks.take d) ++ R)[m]'(by rw [← hPR]; exact hml) := by congr 1
      rw [e, List.getElem_append_left (by omega)]
      exact List.getElem_mem _
  have HV : Hid (w.ownsRow base 73 1 (.slice ao n co) n (ns.map (Value.int .i64)) ∧ w.ownsRow base 3 1 (.slice aq N cq) N (qCells ks)) := ⟨hvo, hvq⟩
  have HE : Hid (posOf ks = posOf (ks.take d) ++ R ∧ P = (posOf (ks.take d)).length ∧ ns.length = ks.length ∧ n = ns.length) := ⟨hPR, hPe, hlen, hn⟩
  have HD : Hid (DocAt w D (.slice ao n co) (.slice aq N cq) kd fl) := hdoc
  have hdq : (qCells ks).take P = qCells (ks.take d) := by
    unfold qCells
    rw [← List.map_take, hPR, hPe]
    simp
  by_cases hdn : d < n
  · have HF : Hid (∀ (wr : World) (m : Nat), OnlyD D w wr → m = P → DocAt wr D (.slice ao d co) (.slice aq m cq) ⟨#[]⟩ true → Doc wr D base (ns.take d) (ks.take d) ⟨#[]⟩ (fl || decide (d < ks.length))) := by
      intro wr m hO hm hA
      have e : (fl || decide (d < ks.length)) = true := by simp; right; omega
      rw [e]
      refine ⟨hD, by simp [hlen], _, _, hA, ?_, ?_⟩
      · have := own_only (own_cut hvo (Nat.le_of_lt hdn)) hO hD
        rw [List.map_take]
        rw [List.length_take, ← hn, Nat.min_eq_left (Nat.le_of_lt hdn)]
        exact this
      · have := own_only (own_cut hvq (k := m) (by omega)) hO hD
        rw [hm, hdq] at this
        rw [hm, ← hPe]
        exact this
    clear hvo hvq hPR hPe hlen hn hdoc hN hnk haq hao hxq hxo hP hR hlt2 hdq
    go_enter Try.func33, Try.ntmps33
    go_wp2
    clear c0 c1 c2 c3 c4 c5 c6 c7 c8 hf
    go_loopg [4] N (fun g s wr => ∃ m : Nat, m ≤ g ∧ s = .int .i64 m ∧ P ≤ m ∧ m ≤ N ∧ OnlyD D w wr ∧ DocAt wr D (.slice ao d co) (.slice aq m cq) ⟨#[]⟩ true)
    case atStart => exact ⟨N, Nat.le_refl _, rfl, hPN, Nat.le_refl _, by repeat (first | (with_reducible exact OnlyD.refl _ _) | (with_reducible refine OnlyD.setCell ?_ _ _)), ((HD.out.setLeaf ⟨#[]⟩).setFilled true).setOpen _⟩
    case round =>
      obtain ⟨m, hmg, rfl, hPm, hmN, hO, hA⟩ := hrel
      obtain ⟨c0, c1, c2, c3, c4, c5, c6, c7, c8, hf⟩ := hA.cell
      have HR : Hid (OnlyD D w wr ∧ DocAt wr D (.slice ao d co) (.slice aq m cq) ⟨#[]⟩ true) := ⟨hO, hA⟩
      clear hO hA c2 c3 c4 c5 c6 c7
      cases m with
      | zero =>
        go_wp2
        go_end0
        exact ⟨rfl, HR.out.1, HF.out wr 0 HR.out.1 (by omega) HR.out.2⟩
      | succ m =>
        obtain ⟨gq, q, rfl, hcq2, hq1, hq2⟩ := HQ.out wr m HR.out.1 (by omega)
        by_cases hPm2 : P ≤ m
        · have hge := hq1 hPm2
          clear hq1 hq2
          go_wp2
          go_roundg m
          case measure => omega
          case rel => exact ⟨m, Nat.le_refl _, rfl, hPm2, by omega, HR.out.1.setCell _ _, HR.out.2.setQuotes _⟩
        · have hlt := hq2 (by omega)
          clear hq1 hq2
          go_wp2
          go_end0
          exact ⟨rfl, HR.out.1, HF.out wr (m + 1) HR.out.1 (by omega) HR.out.2⟩
  · have HF : Hid (∀ (wr : World) (m : Nat), OnlyD D w wr → m = P → DocAt wr D (.slice ao n co) (.slice aq m cq) ⟨#[]⟩ fl → Doc wr D base (ns.take d) (ks.take d) ⟨#[]⟩ (fl || decide (d < ks.length))) := by
      intro wr m hO hm hA
      have e : (fl || decide (d < ks.length)) = fl := by
        have : decide (d < ks.length) = false := decide_eq_false (by omega)
        rw [this]; simp
      rw [e]
      refine ⟨hD, by simp [hlen], _, _, hA, ?_, ?_⟩
      · rw [List.take_of_length_le (by omega), ← hn]
        exact own_only hvo hO hD
      · have := own_only (own_cut hvq (k := m) (by omega)) hO hD
        rw [hm, hdq] at this
        rw [hm, ← hPe]
        exact this
    clear hvo hvq hPR hPe hlen hn hdoc hN hnk haq hao hxq hxo hP hR hlt2 hdq
    go_enter Try.func33, Try.ntmps33
    go_wp2
    clear c0 c1 c2 c3 c4 c5 c6 c7 c8 hf
    go_loopg [4] N (fun g s wr => ∃ m : Nat, m ≤ g ∧ s = .int .i64 m ∧ P ≤ m ∧ m ≤ N ∧ OnlyD D w wr ∧ DocAt wr D (.slice ao n co) (.slice aq m cq) ⟨#[]⟩ fl)
    case atStart => exact ⟨N, Nat.le_refl _, rfl, hPN, Nat.le_refl _, by repeat (first | (with_reducible exact OnlyD.refl _ _) | (with_reducible refine OnlyD.setCell ?_ _ _)), HD.out.setLeaf ⟨#[]⟩⟩
    case round =>
      obtain ⟨m, hmg, rfl, hPm, hmN, hO, hA⟩ := hrel
      obtain ⟨c0, c1, c2, c3, c4, c5, c6, c7, c8, hf⟩ := hA.cell
      have HR : Hid (OnlyD D w wr ∧ DocAt wr D (.slice ao n co) (.slice aq m cq) ⟨#[]⟩ fl) := ⟨hO, hA⟩
      clear hO hA c2 c3 c4 c5 c6 c7
      cases m with
      | zero =>
        go_wp2
        go_end0
        exact ⟨rfl, HR.out.1, HF.out wr 0 HR.out.1 (by omega) HR.out.2⟩
      | succ m =>
        obtain ⟨gq, q, rfl, hcq2, hq1, hq2⟩ := HQ.out wr m HR.out.1 (by omega)
        by_cases hPm2 : P ≤ m
        · have hge := hq1 hPm2
          clear hq1 hq2
          go_wp2
          go_roundg m
          case measure => omega
          case rel => exact ⟨m, Nat.le_refl _, rfl, hPm2, by omega, HR.out.1.setCell _ _, HR.out.2.setQuotes _⟩
        · have hlt := hq2 (by omega)
          clear hq1 hq2
          go_wp2
          go_end0
          exact ⟨rfl, HR.out.1, HF.out wr (m + 1) HR.out.1 (by omega) HR.out.2⟩

end Go.Proofs.Qxb6002445a
