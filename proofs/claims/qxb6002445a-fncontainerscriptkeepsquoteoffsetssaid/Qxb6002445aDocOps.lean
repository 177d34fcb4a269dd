/-
  THE DOCUMENT: openContainer, openLeaf, and the fronts.
-/
import Derived.Test.Qxb6002445aDoc
import Derived.Deep.RegionLaw
namespace Go.Proofs.Qxb6002445a
open Go.RowKit
set_option linter.unusedSimpArgs false
set_option linter.unusedVariables false

/-- Below 'base' nothing but block D has turned. -/
structure Safe (D base : Nat) (w w' : World) : Prop where
  os : w'.os = w.os
  tape : w'.tape = w.tape
  output : w'.output = w.output
  size : w.heap.size ≤ w'.heap.size
  block : ∀ k, k < base → k ≠ D → w'.heap[k]? = w.heap[k]?

theorem Safe.refl (D base : Nat) (w : World) : Safe D base w w := ⟨rfl, rfl, rfl, Nat.le_refl _, fun _ _ _ => rfl⟩
theorem Safe.trans {D base : Nat} {u v w : World} (h : Safe D base u v) (g : Safe D base v w) : Safe D base u w :=
  ⟨g.os.trans h.os, g.tape.trans h.tape, g.output.trans h.output, Nat.le_trans h.size g.size, fun k h1 h2 => (g.block k h1 h2).trans (h.block k h1 h2)⟩
theorem OnlyD.safe {D : Nat} {u v : World} (h : OnlyD D u v) (base : Nat) : Safe D base u v := ⟨h.os, h.tape, h.output, Nat.le_of_eq h.size.symm, fun k _ hk => h.block k hk⟩
theorem Safe.alloc {D base : Nat} {u v : World} (h : Safe D base u v) (hb : base ≤ v.heap.size) (o : Obj) : Safe D base u (v.alloc o) :=
  h.trans ⟨rfl, rfl, rfl, by simp, fun k h1 _ => Below.heap_alloc _ _ _ (by omega)⟩
theorem Safe.drew {D base : Nat} {u v : World} (h : Safe D base u v) : Safe D base u v.drew := ⟨h.os, h.tape, h.output, h.size, h.block⟩
theorem Safe.setD {D base : Nat} {u v : World} (h : Safe D base u v) (i : Nat) (x : Value) : Safe D base u (v.setCell ⟨D, i, none⟩ x) :=
  h.trans ((OnlyD.refl D v).setCell i x |>.safe base)
theorem Safe.grown {D base : Nat} {u v w : World} {row : Option Nat} (h : Safe D base u v) (hg : v.grownBy w row) (hb : base ≤ v.heap.size) (hr : ∀ k, row = some k → base ≤ k) : Safe D base u w :=
  h.trans ⟨hg.os, hg.tape, hg.output, hg.size, fun k h1 _ => hg.block k (by omega) (fun e => by have := hr k e.symm; omega)⟩

theorem DocAt.grown {w w' : World} {D base : Nat} {vo vq : Value} {kd : ByteArray} {fl : Bool} {row : Option Nat} (h : DocAt w D vo vq kd fl) (hg : w.grownBy w' row) (hD : D < base) (hr : ∀ k, row = some k → base ≤ k) : DocAt w' D vo vq kd fl :=
  (hg.block D (lt_of_block h) (fun e => by have := hr D e.symm; omega)).trans h
theorem DocAt.alloc {w : World} {D : Nat} {vo vq : Value} {kd : ByteArray} {fl : Bool} (h : DocAt w D vo vq kd fl) (o : Obj) : DocAt (w.alloc o) D vo vq kd fl :=
  (Below.heap_alloc _ _ _ (lt_of_block h)).trans h
theorem DocAt.drew {w : World} {D : Nat} {vo vq : Value} {kd : ByteArray} {fl : Bool} (h : DocAt w D vo vq kd fl) : DocAt w.drew D vo vq kd fl := h

/-- Two rows of different element types lie in different blocks. -/
theorem own_apart {w : World} {base e e' : Nat} {v v' : Value} {n n' : Nat} {xs xs' : List Value} (h : w.ownsRow base e 1 v n xs) (h' : w.ownsRow base e' 1 v' n' xs') (hne : e ≠ e') : v.ownBlock = none ∨ v.ownBlock ≠ v'.ownBlock := by
  rcases h.2 with ⟨rfl, _⟩ | ⟨g, cap, cur, rfl, hg, hh, _⟩
  · exact .inl rfl
  · right
    intro e0
    rcases h'.2 with ⟨rfl, _⟩ | ⟨g', cap', cur', rfl, hg', hh', _⟩
    · simp [Value.ownBlock] at e0
    · simp only [Value.ownBlock, Option.some.injEq] at e0
      subst e0
      rw [hh] at hh'
      simp at hh'
      exact hne hh'.2

/-- 'append' onto a row of the call's own, as one step of a region that draws its order. -/
theorem step_append_own {P : Program} {ops : Array Oper} {o : Oper} {a : Act} {w : World} {K : Act → World → Prop} {Q : Exit → Act → World → Prop} {E : Prop}
    (hgd : o.guard = none) (s x : Operand) (t : TypeId) (ho : o.op = .call { callee := .builtin .append, args := #[s, x], argTypes := #[t, t] })
    (base : Nat) (e : TypeId) (i : TypeInfo) (z : Value) (size bytes : Nat) (ht : P.underlying t = some (.slice e)) (hi : P.info? e = some i) (hz : i.zero = some z)
    (hsize : i.size = size) (hby : i.bytes = bytes) (hzs : z.cells.size = size) (hsz : 0 < size)
    (v : Value) (n : Nat) (xs : List Value) (hs : a.eval s = v) (hown : w.ownsRow base e size v n xs)
    (ad : Addr) (m c : Nat) (news : List Value) (hx : a.eval x = .slice (some ad) m c) (hl : news.length = m * size) (hnews : ∀ j u, news[j]? = some u → w.cell? (ad.add j) = some u) (h1 : ∀ u ∈ news, u.oneCell' = true)
    (h63 : n + m ≤ maxLen) (hbytes : (n + m) * bytes ≤ 140737488355328) (hbase : base ≤ w.heap.size)
    (h : ∀ v' w', w'.ownsRow base e size v' (n + m) (xs ++ news) → w.grownBy w' v.ownBlock → K (a.put o.dst v') w') :
    if Region.wanted o (yielded ops a.tmps) = true then Oper.wp P o a w K Q else E := by
  have hw : Region.wanted o (yielded ops a.tmps) = true := by simp [Region.wanted, hgd]
  rw [if_pos hw]
  exact wp_append_own w s x t ho base e i z size bytes ht hi hz hsize hby hzs hsz v n xs hs hown ad m c news hx hl hnews h1 h63 hbytes hbase fun v' w' h2 h3 _ => h v' w' h2 h3

theorem Try.info3 : (Try.prog.info? 3).map (fun i => (i.zero, i.size, i.bytes)) = some (some (.int .i64 0), 1, 8) := by kernel_rfl
theorem Try.info73 : (Try.prog.info? 73).map (fun i => (i.zero, i.size, i.bytes)) = some (some (.agg #[.int .i64 0]), 1, 8) := by kernel_rfl

theorem posOf_false (js : List Bool) : posOf (js ++ [false]) = posOf js := by rw [posOf_snoc]; simp
theorem posOf_true (js : List Bool) : posOf (js ++ [true]) = posOf js ++ [js.length] := by rw [posOf_snoc]; simp

theorem one_int (k : IntKind) (x : Int) : ∀ u ∈ [Value.int k x], u.oneCell' = true := by
  intro u hu; simp at hu; subst hu; rfl

/-- The document's cells behind the append onto quotes. -/
theorem doc_quoted {w1 w2 : World} {D base N cq : Nat} {aq : Option Addr} {vo : Value} {js : List Bool} {fl1 : Bool} {o : Obj} {n : Nat} {ms : List Int}
    (hD : D < base) (hN : N = (posOf js).length) (hA : DocAt w1 D vo (.slice aq N cq) ⟨#[]⟩ fl1) (hvq : w1.ownsRow base 3 1 (.slice aq N cq) N (qCells js)) (hvo : w1.ownsRow base 73 1 vo n (ms.map (Value.int .i64)))
    (hg : (w1.alloc o).drew.grownBy w2 (Value.slice aq N cq).ownBlock) :
    DocAt w2 D vo (.slice aq N cq) ⟨#[]⟩ fl1 ∧ w2.ownsRow base 73 1 vo n (ms.map (Value.int .i64)) := by
  have hr : ∀ k, (Value.slice aq N cq).ownBlock = some k → base ≤ k := fun k hk => (hvq.lt k hk).1
  exact ⟨(hA.alloc o).drew.grown hg hD hr, (hvo.alloc o).drew.kept hg (own_apart hvo hvq (by decide))⟩

/-- The document behind 'open = append(open, ..); filled = false'. -/
theorem doc_pushed {w0 w2 : World} {D base n co : Nat} {ao : Option Addr} {vq v' : Value} {ms : List Int} {js' : List Bool} {I : Int} {fl1 : Bool} {o : Obj}
    (hD : D < base) (hn : n = ms.length) (hlen : ms.length + 1 = js'.length)
    (hA : DocAt w0 D (.slice ao n co) vq ⟨#[]⟩ fl1) (hvo : w0.ownsRow base 73 1 (.slice ao n co) n (ms.map (Value.int .i64))) (hvq : w0.ownsRow base 3 1 vq (posOf js').length (qCells js'))
    (hown : w2.ownsRow base 73 1 v' (n + 1) (ms.map (Value.int .i64) ++ [.int .i64 I])) (hg : (w0.alloc o).grownBy w2 (Value.slice ao n co).ownBlock) :
    DocAt w2 D (.slice ao n co) vq ⟨#[]⟩ fl1 ∧ Doc ((w2.setCell ⟨D, 0, none⟩ v').setCell ⟨D, 8, none⟩ (.bool false)) D base (ms ++ [I]) js' ⟨#[]⟩ false := by
  have hr : ∀ k, (Value.slice ao n co).ownBlock = some k → base ≤ k := fun k hk => (hvo.lt k hk).1
  have hA2 := (hA.alloc o).grown hg hD hr
  have hq2 := (hvq.alloc o).kept hg (own_apart hvq hvo (by decide))
  have hO : OnlyD D w2 ((w2.setCell ⟨D, 0, none⟩ v').setCell ⟨D, 8, none⟩ (.bool false)) := ((OnlyD.refl _ _).setCell _ _).setCell _ _
  refine ⟨hA2, hD, by simpa using hlen, v', vq, (hA2.setOpen v').setFilled false, ?_, own_only hq2 hO hD⟩
  have e : (ms ++ [I]).length = n + 1 := by simp [hn]
  rw [e, List.map_append]
  exact own_only hown hO hD

set_option maxRecDepth 8000 in
set_option maxHeartbeats 800000 in
theorem openList_any (D base d : Nat) (I : Int) (ns : List Int) (ks : List Bool) (kd : ByteArray) (fl : Bool) (w : World) (h : Doc w D base ns ks kd fl) (hd : d ≤ 1023) (hk : ks.length ≤ 1024) (hb : base ≤ w.heap.size) :
    Calls Try.prog 34 #[.pointer (some ⟨D, 0, none⟩), .int .i64 d, .string ⟨#[108, 105, 115, 116, 32, 105, 116, 101, 109]⟩, .int .i64 I] w
      fun e w' => e = .returned (.tuple #[]) ∧ Safe D base w w' ∧ Doc w' D base (ns.take d ++ [I]) (ks.take d ++ [false]) ⟨#[]⟩ false := by
  have H : Hid (Doc w D base ns ks kd fl) := h
  clear h
  go_enter Try.func34, Try.ntmps34
  go_wp2_with fail
  refine (closeFrom_any D base d ns ks kd fl w H.out hd hk).mono ?_
  rintro e w1 ⟨rfl, hO, hdoc⟩
  obtain ⟨hD, hlen, vo, vq, hA, hvo, hvq⟩ := hdoc
  have hnl : (ns.take d).length ≤ 1024 := by rw [hlen, List.length_take]; omega
  generalize hms : ns.take d = ms at hlen hvo hA hnl
  generalize hjs : ks.take d = js at hlen hvq
  have HE : Hid (ns.take d = ms ∧ ks.take d = js) := ⟨hms, hjs⟩
  have hb1 : base ≤ w1.heap.size := by rw [hO.size]; exact hb
  have hS : Safe D base w w1 := hO.safe base
  clear hO hms hjs
  generalize (fl || decide (d < ks.length)) = fl1 at hA
  obtain ⟨n, hn⟩ : ∃ n, n = ms.length := ⟨_, rfl⟩
  rw [← hn] at hvo hnl
  obtain ⟨ao, co, rfl, hco, hxo, hao⟩ := own_shape hvo
  obtain ⟨c0, c1, c2, c3, c4, c5, c6, c7, c8, hf⟩ := hA.cell
  obtain ⟨i0, hi, hz0, hz1, hz2⟩ := info_parts Try.info73
  have HI : Hid (Try.prog.info? 73 = some i0 ∧ i0.zero = some (Value.agg #[Value.int IntKind.i64 0]) ∧ i0.size = 1 ∧ i0.bytes = 8) := ⟨hi, hz0, hz1, hz2⟩
  have HV : Hid (w1.ownsRow base 73 1 (.slice ao n co) n (ms.map (Value.int .i64)) ∧ w1.ownsRow base 3 1 vq (posOf js).length (qCells js) ∧ DocAt w1 D (.slice ao n co) vq ⟨#[]⟩ fl1 ∧ Safe D base w w1 ∧ n = ms.length ∧ ms.length = js.length) := ⟨hvo, hvq, hA, hS, hn, hlen⟩
  clear hvo hvq hA hS hn hlen hi hz0 hz1 hz2 hxo hao H c2 c3 c4 c5 c6 c7
  go_wp2_with (at_builtin; refine wpList_append_own _ rfl (.tmp 31) (.tmp 34) 32 rfl base 73 i0 (.agg #[.int .i64 0]) 1 8 Try.underlying32 HI.out.1 HI.out.2.1 HI.out.2.2.1 HI.out.2.2.2 rfl (by decide) _ _ _ rfl (HV.out.1.alloc _) ⟨w1.heap.size, 0, none⟩ 1 1 [.int .i64 I] rfl rfl ?_ ?_ ?_ ?_ ?_ ?_)
  · exact cell_one_new _ _ _
  · intro u hu; simp at hu; subst hu; rfl
  · unfold maxLen; omega
  · omega
  · simp; omega
  · intro v' w2 hown hgrow _
    obtain ⟨ao', co', rfl, _, _, _⟩ := own_shape hown
    obtain ⟨hvo, hvq, hA, hS, hn, hlen⟩ := HV.out
    rw [← posOf_false js] at hvq
    have hq : qCells (js ++ [false]) = qCells js := by unfold qCells; rw [posOf_false]
    rw [← hq] at hvq
    obtain ⟨hA2, hdoc⟩ := doc_pushed (I := I) (js' := js ++ [false]) hD hn (by simp [hlen]) hA hvo hvq hown hgrow
    have hS2 : Safe D base w w2 := (hS.alloc hb1 _).grown hgrow (by simp; omega) (fun k hk => (hvo.lt k hk).1)
    have HD : Hid (Doc ((w2.setCell ⟨D, 0, none⟩ (.slice ao' (n + 1) co')).setCell ⟨D, 8, none⟩ (.bool false)) D base (ms ++ [I]) (js ++ [false]) ⟨#[]⟩ false ∧ Safe D base w w2) := ⟨hdoc, hS2⟩
    clear c0 c1 c8 hf hown hgrow hvo hvq hA hS hn hlen hdoc hS2 hq
    obtain ⟨c0, c1, c2, c3, c4, c5, c6, c7, c8, hf⟩ := hA2.cell
    clear hA2 c2 c3 c4 c5 c6 c7
    go_wp2
    go_end0
    rw [HE.out.1, HE.out.2]
    exact ⟨rfl, (HD.out.2.setD _ _).setD _ _, HD.out.1⟩

set_option maxRecDepth 8000 in
set_option maxHeartbeats 800000 in
theorem openQuote_any (D base d : Nat) (I : Int) (ns : List Int) (ks : List Bool) (kd : ByteArray) (fl : Bool) (w : World) (h : Doc w D base ns ks kd fl) (hd : d ≤ 1023) (hk : ks.length ≤ 1024) (hb : base ≤ w.heap.size) :
    Calls Try.prog 34 #[.pointer (some ⟨D, 0, none⟩), .int .i64 d, .string ⟨#[98, 108, 111, 99, 107, 32, 113, 117, 111, 116, 101]⟩, .int .i64 I] w
      fun e w' => e = .returned (.tuple #[]) ∧ Safe D base w w' ∧ Doc w' D base (ns.take d ++ [I]) (ks.take d ++ [true]) ⟨#[]⟩ false := by
  have H : Hid (Doc w D base ns ks kd fl) := h
  clear h
  go_enter Try.func34, Try.ntmps34
  go_wp2_with fail
  refine (closeFrom_any D base d ns ks kd fl w H.out hd hk).mono ?_
  rintro e w1 ⟨rfl, hO, hdoc⟩
  obtain ⟨hD, hlen, vo, vq, hA, hvo, hvq⟩ := hdoc
  have hnl : (ns.take d).length ≤ 1024 := by rw [hlen, List.length_take]; omega
  generalize hms : ns.take d = ms at hlen hvo hA hnl
  generalize hjs : ks.take d = js at hlen hvq
  have HE : Hid (ns.take d = ms ∧ ks.take d = js) := ⟨hms, hjs⟩
  have hb1 : base ≤ w1.heap.size := by rw [hO.size]; exact hb
  have hS : Safe D base w w1 := hO.safe base
  clear hO hms hjs
  generalize (fl || decide (d < ks.length)) = fl1 at hA
  obtain ⟨n, hn⟩ : ∃ n, n = ms.length := ⟨_, rfl⟩
  rw [← hn] at hvo hnl
  obtain ⟨ao, co, rfl, hco, hxo, hao⟩ := own_shape hvo
  obtain ⟨c0, c1, c2, c3, c4, c5, c6, c7, c8, hf⟩ := hA.cell
  obtain ⟨i0, hi, hz0, hz1, hz2⟩ := info_parts Try.info73
  have HI : Hid (Try.prog.info? 73 = some i0 ∧ i0.zero = some (Value.agg #[Value.int IntKind.i64 0]) ∧ i0.size = 1 ∧ i0.bytes = 8) := ⟨hi, hz0, hz1, hz2⟩
  have HV : Hid (w1.ownsRow base 73 1 (.slice ao n co) n (ms.map (Value.int .i64)) ∧ w1.ownsRow base 3 1 vq (posOf js).length (qCells js) ∧ DocAt w1 D (.slice ao n co) vq ⟨#[]⟩ fl1 ∧ Safe D base w w1 ∧ n = ms.length ∧ ms.length = js.length) := ⟨hvo, hvq, hA, hS, hn, hlen⟩
  clear hvo hvq hA hS hn hlen hi hz0 hz1 hz2 hxo hao H c2 c3 c4 c5 c6 c7
  obtain ⟨aq, cq, hvqe, hcq, _, _⟩ := own_shape HV.out.2.1
  subst hvqe
  have hqn : (posOf js).length ≤ 1024 := by have := posOf_length js; have := HV.out.2.2.2.2; omega
  obtain ⟨N, hN⟩ : ∃ N, N = (posOf js).length := ⟨_, rfl⟩
  rw [← hN] at c1 hqn hcq
  have HN : Hid (N = (posOf js).length) := hN
  have HQ : Hid (w1.ownsRow base 3 1 (.slice aq N cq) N (qCells js) ∧ DocAt w1 D (.slice ao n co) (.slice aq N cq) ⟨#[]⟩ fl1) := by rw [hN]; exact ⟨HV.out.2.1, HV.out.2.2.1⟩
  clear hN
  obtain ⟨i1, hi, hz0, hz1, hz2⟩ := info_parts Try.info3
  have HJ : Hid (Try.prog.info? 3 = some i1 ∧ i1.zero = some (Value.int IntKind.i64 0) ∧ i1.size = 1 ∧ i1.bytes = 8) := ⟨hi, hz0, hz1, hz2⟩
  clear hi hz0 hz1 hz2
  have hDw : D < w1.heap.size := by omega
  go_wp2
  go_region_law (refine step_append_own rfl (.tmp 17) (.tmp 23) 33 rfl base 3 i1 (.int .i64 0) 1 8 Try.underlying33 HJ.out.1 HJ.out.2.1 HJ.out.2.2.1 HJ.out.2.2.2 rfl (by decide) (.slice aq N cq) N (qCells js) (by simp [Act.eval, Act.put]) (HQ.out.1.alloc _).drew ⟨w1.heap.size, 0, none⟩ 1 1 [.int .i64 n] (by simp [Act.eval, Act.put]) rfl (cell_one_new _ _ _) (one_int _ _) (by unfold maxLen; omega) (by omega) (by simp; omega) ?_; intro v' w2 hown hgrow; obtain ⟨aq', cq', hv', _, _, _⟩ := own_shape hown; subst hv'; obtain ⟨hA2, hvo2⟩ := doc_quoted hD HN.out HQ.out.2 HQ.out.1 HV.out.1 hgrow; obtain ⟨e0, e1, e2, e3, e4, e5, e6, e7, e8, hf2⟩ := hA2.cell)
  all_goals
    obtain ⟨hvo, hvq0, hA0, hS, hn, hlen⟩ := HV.out
    have hO2 : OnlyD D w2 (w2.setCell ⟨D, 1, none⟩ (.slice aq' (N + 1) cq')) := (OnlyD.refl _ _).setCell _ _
    have hA3 : DocAt (w2.setCell ⟨D, 1, none⟩ (.slice aq' (N + 1) cq')) D (.slice ao n co) (.slice aq' (N + 1) cq') ⟨#[]⟩ fl1 := hA2.setQuotes _
    have hvo3 := own_only hvo2 hO2 hD
    have hq3 := own_only hown hO2 hD
    have eq1 : N + 1 = (posOf (js ++ [true])).length := by rw [posOf_true, HN.out]; simp
    have eq2 : qCells js ++ [Value.int .i64 (n : Int)] = qCells (js ++ [true]) := by unfold qCells; rw [posOf_true, List.map_append, hn, hlen]; rfl
    rw [eq2] at hq3
    have hS2 : Safe D base w (w2.setCell ⟨D, 1, none⟩ (.slice aq' (N + 1) cq')) := (((hS.alloc hb1 _).drew.grown hgrow (by simp; omega) (fun k hk => (HQ.out.1.lt k hk).1)).setD _ _)
    have hb2 : base ≤ w2.heap.size := by have := hgrow.size; simp at this; omega
    have HV3 : Hid ((w2.setCell ⟨D, 1, none⟩ (.slice aq' (N + 1) cq')).ownsRow base 73 1 (.slice ao n co) n (ms.map (Value.int .i64)) ∧ (w2.setCell ⟨D, 1, none⟩ (.slice aq' (N + 1) cq')).ownsRow base 3 1 (.slice aq' (N + 1) cq') (N + 1) (qCells (js ++ [true])) ∧
      DocAt (w2.setCell ⟨D, 1, none⟩ (.slice aq' (N + 1) cq')) D (.slice ao n co) (.slice aq' (N + 1) cq') ⟨#[]⟩ fl1 ∧ Safe D base w (w2.setCell ⟨D, 1, none⟩ (.slice aq' (N + 1) cq')) ∧ N + 1 = (posOf (js ++ [true])).length) := ⟨hvo3, hq3, hA3, hS2, eq1⟩
    have hb3 : base ≤ (w2.setCell ⟨D, 1, none⟩ (.slice aq' (N + 1) cq')).heap.size := by simp; omega
    clear hvo hvq0 hA0 hS hO2 hA3 hvo3 hq3 eq1 eq2 hS2 hvo2 hA2 hown hgrow e0 e1 e2 e3 e4 e5 e6 e7 e8 hf2 c0 c1 c8 hf hb2
    have HM : Hid (n = ms.length ∧ ms.length = js.length) := ⟨hn, hlen⟩
    clear hn hlen
    generalize w2.setCell ⟨D, 1, none⟩ (.slice aq' (N + 1) cq') = w3 at HV3 hb3 ⊢
    obtain ⟨c0, c1, c2, c3, c4, c5, c6, c7, c8, hf⟩ := HV3.out.2.2.1.cell
    clear c2 c3 c4 c5 c6 c7
    go_wp2_with (at_builtin; refine wpList_append_own _ rfl (.tmp 31) (.tmp 34) 32 rfl base 73 i0 (.agg #[.int .i64 0]) 1 8 Try.underlying32 HI.out.1 HI.out.2.1 HI.out.2.2.1 HI.out.2.2.2 rfl (by decide) _ _ _ rfl (HV3.out.1.alloc _) ⟨w3.heap.size, 0, none⟩ 1 1 [.int .i64 I] rfl rfl (cell_one_new _ _ _) (one_int _ _) (by unfold maxLen; omega) (by omega) (by simp; omega) ?_)
    intro v' w4 hown hgrow _
    obtain ⟨ao', co', hv', _, _, _⟩ := own_shape hown
    subst hv'
    obtain ⟨hvo, hvq, hA, hS, eN⟩ := HV3.out
    rw [eN] at hvq
    obtain ⟨hA2, hdoc⟩ := doc_pushed (I := I) (js' := js ++ [true]) hD HM.out.1 (by simp [HM.out.2]) hA hvo (by rw [eN]; exact hvq) hown hgrow
    have hS2 : Safe D base w w4 := (hS.alloc hb3 _).grown hgrow (by simp; omega) (fun k hk => (hvo.lt k hk).1)
    have HD : Hid (Doc ((w4.setCell ⟨D, 0, none⟩ (.slice ao' (n + 1) co')).setCell ⟨D, 8, none⟩ (.bool false)) D base (ms ++ [I]) (js ++ [true]) ⟨#[]⟩ false ∧ Safe D base w w4) := ⟨hdoc, hS2⟩
    clear c0 c1 c8 hf hown hgrow hvo hvq hA hS hdoc hS2 eN
    obtain ⟨c0, c1, c2, c3, c4, c5, c6, c7, c8, hf⟩ := hA2.cell
    clear hA2 c2 c3 c4 c5 c6 c7
    go_wp2
    go_end0
    rw [HE.out.1, HE.out.2]
    exact ⟨rfl, (HD.out.2.setD _ _).setD _ _, HD.out.1⟩

end Go.Proofs.Qxb6002445a
