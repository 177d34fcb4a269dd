/-
  THE DOCUMENT: openLeaf, and the exported fronts.
-/
import Derived.Test.Qxb6002445aDocOps
namespace Go.Proofs.Qxb6002445a
open Go.RowKit
set_option linter.unusedSimpArgs false
set_option linter.unusedVariables false

theorem Doc.alloc {w : World} {D base : Nat} {ns : List Int} {ks : List Bool} {kd : ByteArray} {fl : Bool} (h : Doc w D base ns ks kd fl) (o : Obj) : Doc (w.alloc o) D base ns ks kd fl := by
  obtain ⟨hD, hlen, vo, vq, hA, hvo, hvq⟩ := h
  exact ⟨hD, hlen, vo, vq, hA.alloc o, hvo.alloc o, hvq.alloc o⟩

theorem Doc.leafed {w : World} {D base : Nat} {ns : List Int} {ks : List Bool} {kd : ByteArray} {fl : Bool} (h : Doc w D base ns ks kd fl) (s : ByteArray) :
    Doc (((((((w.setCell ⟨D, 8, none⟩ (.bool true)).setCell ⟨D, 2, none⟩ (.string s)).setCell ⟨D, 3, none⟩ (.int .u8 0)).setCell ⟨D, 4, none⟩ (.int .i64 0)).setCell ⟨D, 5, none⟩ (.int .i64 0)).setCell ⟨D, 6, none⟩ (.slice none 0 0)).setCell ⟨D, 7, none⟩ (.slice none 0 0)) D base ns ks s true := by
  obtain ⟨hD, hlen, vo, vq, hA, hvo, hvq⟩ := h
  have hO : OnlyD D w (((((((w.setCell ⟨D, 8, none⟩ (.bool true)).setCell ⟨D, 2, none⟩ (.string s)).setCell ⟨D, 3, none⟩ (.int .u8 0)).setCell ⟨D, 4, none⟩ (.int .i64 0)).setCell ⟨D, 5, none⟩ (.int .i64 0)).setCell ⟨D, 6, none⟩ (.slice none 0 0)).setCell ⟨D, 7, none⟩ (.slice none 0 0)) :=
    (((((((OnlyD.refl D w).setCell 8 _).setCell 2 _).setCell 3 _).setCell 4 _).setCell 5 _).setCell 6 _).setCell 7 _
  exact ⟨hD, hlen, vo, vq, (hA.setFilled true).setLeaf s, own_only hvo hO hD, own_only hvq hO hD⟩

theorem six {w : World} {b : Nat} {t : TypeId} {v0 v1 v2 v3 v4 v5 : Value} (h : w.heap[b]? = some (.cells #[v0, v1, v2, v3, v4, v5] t (0, 0))) :
    w.cell? ⟨b, 0, none⟩ = some v0 ∧ w.cell? ⟨b, 1, none⟩ = some v1 ∧ w.cell? ⟨b, 2, none⟩ = some v2 ∧ w.cell? ⟨b, 3, none⟩ = some v3 ∧ w.cell? ⟨b, 4, none⟩ = some v4 ∧ w.cell? ⟨b, 5, none⟩ = some v5 := by
  simp [World.cell?, h]

set_option maxRecDepth 8000 in
set_option maxHeartbeats 800000 in
theorem openLeaf_any (D base d : Nat) (s : ByteArray) (ns : List Int) (ks : List Bool) (kd : ByteArray) (fl : Bool) (w : World) (h : Doc w D base ns ks kd fl) (hd : d ≤ 1023) (hk : ks.length ≤ 1024) (hb : base ≤ w.heap.size) :
    Calls Try.prog 35 #[.pointer (some ⟨D, 0, none⟩), .int .i64 d, .agg #[.string s, .int .u8 0, .int .i64 0, .int .i64 0, .slice none 0 0, .slice none 0 0]] w
      fun e w' => e = .returned (.tuple #[]) ∧ Safe D base w w' ∧ Doc w' D base (ns.take d) (ks.take d) s true := by
  have H : Hid (Doc w D base ns ks kd fl) := h
  have hDb : D < base := h.low
  clear h
  go_enter Try.func35, Try.ntmps35
  go_wp2_with fail
  refine (closeFrom_any D base d ns ks kd fl _ (H.out.alloc _) hd hk).mono ?_
  rintro e w1 ⟨rfl, hO, hdoc⟩
  have hbx : w1.heap[w.heap.size]? = some (.cells #[.string s, .int .u8 0, .int .i64 0, .int .i64 0, .slice none 0 0, .slice none 0 0] 39 (0, 0)) := (hO.block _ (by omega)).trans (heap_alloc_new _ _)
  obtain ⟨b0, b1, b2, b3, b4, b5⟩ := six hbx
  have HD : Hid (Doc w1 D base (ns.take d) (ks.take d) ⟨#[]⟩ (fl || decide (d < ks.length)) ∧ Safe D base w w1) := ⟨hdoc, ((Safe.refl D base w).alloc hb _).trans (hO.safe base)⟩
  obtain ⟨_, _, vo, vq, hA, _, _⟩ := hdoc
  generalize (fl || decide (d < ks.length)) = fl1 at hA HD
  obtain ⟨c0, c1, c2, c3, c4, c5, c6, c7, c8, hf⟩ := hA.cell
  have hne : D < w.heap.size := by omega
  clear hA hbx hO H
  go_wp2
  go_end0
  refine ⟨rfl, ?_, HD.out.1.leafed s⟩
  exact (((((((HD.out.2.setD 8 _).setD 2 _).setD 3 _).setD 4 _).setD 5 _).setD 6 _).setD 7 _)

theorem zzCloseFrom_any (D base d : Nat) (ns : List Int) (ks : List Bool) (kd : ByteArray) (fl : Bool) (w : World) (h : Doc w D base ns ks kd fl) (hd : d ≤ 1023) (hk : ks.length ≤ 1024) :
    Calls Try.prog 15 #[.pointer (some ⟨D, 0, none⟩), .int .i64 d] w fun e w' => e = .returned (.tuple #[]) ∧ Safe D base w w' ∧ Doc w' D base (ns.take d) (ks.take d) ⟨#[]⟩ (fl || decide (d < ks.length)) := by
  have H : Hid (Doc w D base ns ks kd fl) := h
  clear h
  go_enter Try.func15, Try.ntmps15
  go_wp2_with fail
  refine (closeFrom_any D base d ns ks kd fl _ H.out hd hk).mono ?_
  rintro e w1 ⟨rfl, hO, hdoc⟩
  have HD : Hid (Doc w1 D base (ns.take d) (ks.take d) ⟨#[]⟩ (fl || decide (d < ks.length)) ∧ Safe D base w w1) := ⟨hdoc, hO.safe base⟩
  clear hO hdoc
  go_wp2
  go_end0
  exact ⟨rfl, HD.out.2, HD.out.1⟩

theorem zzOpenList_any (D base d : Nat) (I : Int) (ns : List Int) (ks : List Bool) (kd : ByteArray) (fl : Bool) (w : World) (h : Doc w D base ns ks kd fl) (hd : d ≤ 1023) (hk : ks.length ≤ 1024) (hb : base ≤ w.heap.size) :
    Calls Try.prog 16 #[.pointer (some ⟨D, 0, none⟩), .int .i64 d, .string ⟨#[108, 105, 115, 116, 32, 105, 116, 101, 109]⟩, .int .i64 I] w
      fun e w' => e = .returned (.tuple #[]) ∧ Safe D base w w' ∧ Doc w' D base (ns.take d ++ [I]) (ks.take d ++ [false]) ⟨#[]⟩ false := by
  have H : Hid (Doc w D base ns ks kd fl) := h
  clear h
  go_enter Try.func16, Try.ntmps16
  go_wp2_with fail
  refine (openList_any D base d I ns ks kd fl _ H.out hd hk hb).mono ?_
  rintro e w1 ⟨rfl, hO, hdoc⟩
  have HD : Hid (Doc w1 D base (ns.take d ++ [I]) (ks.take d ++ [false]) ⟨#[]⟩ false ∧ Safe D base w w1) := ⟨hdoc, hO⟩
  clear hO hdoc
  go_wp2
  go_end0
  exact ⟨rfl, HD.out.2, HD.out.1⟩

theorem zzOpenQuote_any (D base d : Nat) (I : Int) (ns : List Int) (ks : List Bool) (kd : ByteArray) (fl : Bool) (w : World) (h : Doc w D base ns ks kd fl) (hd : d ≤ 1023) (hk : ks.length ≤ 1024) (hb : base ≤ w.heap.size) :
    Calls Try.prog 16 #[.pointer (some ⟨D, 0, none⟩), .int .i64 d, .string ⟨#[98, 108, 111, 99, 107, 32, 113, 117, 111, 116, 101]⟩, .int .i64 I] w
      fun e w' => e = .returned (.tuple #[]) ∧ Safe D base w w' ∧ Doc w' D base (ns.take d ++ [I]) (ks.take d ++ [true]) ⟨#[]⟩ false := by
  have H : Hid (Doc w D base ns ks kd fl) := h
  clear h
  go_enter Try.func16, Try.ntmps16
  go_wp2_with fail
  refine (openQuote_any D base d I ns ks kd fl _ H.out hd hk hb).mono ?_
  rintro e w1 ⟨rfl, hO, hdoc⟩
  have HD : Hid (Doc w1 D base (ns.take d ++ [I]) (ks.take d ++ [true]) ⟨#[]⟩ false ∧ Safe D base w w1) := ⟨hdoc, hO⟩
  clear hO hdoc
  go_wp2
  go_end0
  exact ⟨rfl, HD.out.2, HD.out.1⟩

theorem zzOpenLeaf_any (D base d : Nat) (s : ByteArray) (ns : List Int) (ks : List Bool) (kd : ByteArray) (fl : Bool) (w : World) (h : Doc w D base ns ks kd fl) (hd : d ≤ 1023) (hk : ks.length ≤ 1024) (hb : base ≤ w.heap.size) :
    Calls Try.prog 18 #[.pointer (some ⟨D, 0, none⟩), .int .i64 d, .string s] w
      fun e w' => e = .returned (.tuple #[]) ∧ Safe D base w w' ∧ Doc w' D base (ns.take d) (ks.take d) s true := by
  have H : Hid (Doc w D base ns ks kd fl) := h
  clear h
  go_enter Try.func18, Try.ntmps18
  go_wp2_with fail
  refine (openLeaf_any D base d s ns ks kd fl _ H.out hd hk hb).mono ?_
  rintro e w1 ⟨rfl, hO, hdoc⟩
  have HD : Hid (Doc w1 D base (ns.take d) (ks.take d) s true ∧ Safe D base w w1) := ⟨hdoc, hO⟩
  clear hO hdoc
  go_wp2
  go_end0
  exact ⟨rfl, HD.out.2, HD.out.1⟩

/-- The kind of leaf that a number names. -/
def leafS (k : Int) : ByteArray :=
  if k = 0 then ⟨#[112, 97, 114, 97, 103, 114, 97, 112, 104]⟩ else if k = 1 then ⟨#[105, 110, 100, 101, 110, 116, 101, 100, 32, 99, 111, 100, 101, 32, 98, 108, 111, 99, 107]⟩
  else if k = 2 then ⟨#[102, 101, 110, 99, 101, 100, 32, 99, 111, 100, 101, 32, 98, 108, 111, 99, 107]⟩ else ⟨#[72, 84, 77, 76, 32, 98, 108, 111, 99, 107]⟩

theorem leafKind_any (k : Int) (w : World) : Calls Try.prog 17 #[.int .u32 k] w fun e w' => e = .returned (.string (leafS k)) ∧ w = w' := by
  unfold leafS
  by_cases h0 : k = 0
  · subst h0
    go_enter Try.func17, Try.ntmps17
    go_wp2
    go_ret
    exact ⟨rfl, rfl⟩
  · rw [if_neg h0]
    have h0' : (k == 0) = false := by simpa using h0
    by_cases h1 : k = 1
    · subst h1
      go_enter Try.func17, Try.ntmps17
      go_wp2
      go_ret
      exact ⟨rfl, rfl⟩
    · rw [if_neg h1]
      have h1' : (k == 1) = false := by simpa using h1
      by_cases h2 : k = 2
      · subst h2
        go_enter Try.func17, Try.ntmps17
        go_wp2
        go_ret
        exact ⟨rfl, rfl⟩
      · rw [if_neg h2]
        have h2' : (k == 2) = false := by simpa using h2
        go_enter Try.func17, Try.ntmps17
        go_wp2
        go_ret
        exact ⟨rfl, rfl⟩

end Go.Proofs.Qxb6002445a
