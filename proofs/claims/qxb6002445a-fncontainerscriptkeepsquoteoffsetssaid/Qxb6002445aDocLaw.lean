/-
  The walk of FnContainerScriptKeepsQuoteOffsets.
-/
import Derived.Test.Qxb6002445aDocAid
namespace Go.Proofs.Qxb6002445a
open Go.RowKit
set_option linter.unusedSimpArgs false
set_option linter.unusedVariables false

set_option maxRecDepth 8000 in
set_option maxHeartbeats 400000 in
theorem docLaw_far (a : Option Addr) (n c : Nat) (w : World) (hn : 1024 < n) (hm : n ≤ 9223372036854775807) :
    Calls Try.prog 4 #[.slice a n c] w fun e w' => e = .returned (.bool true) ∧ Below w.heap.size w w' := by
  by_cases hf : fitB n = true
  · go_enter Try.func4, Try.ntmps4
    go_wp2_with (go_at_call 13; refine (bytes13 _ _ _ _ hm).mono ?_; rintro e w' ⟨rfl, rfl⟩)
    go_ret
    exact ⟨rfl, Below.refl _ _⟩
  · have hf : fitB n = false := by simpa using hf
    go_enter Try.func4, Try.ntmps4
    go_wp2_with (go_at_call 13; refine (bytes13 _ _ _ _ hm).mono ?_; rintro e w' ⟨rfl, rfl⟩)
    go_ret
    exact ⟨rfl, Below.refl _ _⟩

set_option maxRecDepth 8000 in
set_option maxHeartbeats 4000000 in
theorem docLaw_in (a : Option Addr) (n c : Nat) (zs : List Int) (w : World) (hn : n ≤ 1024) (hR : WordsIn w a n c zs) (hby : ∀ i, 0 ≤ zs.getD i 0 ∧ zs.getD i 0 < 4294967296) :
    Calls Try.prog 4 #[.slice a n c] w fun e w' => e = .returned (.bool true) ∧ Below w.heap.size w w' := by
  have hf : fitB n = true := decide_eq_true (by omega)
  have H : Hid (WordsIn w a n c zs ∧ (∀ i, 0 ≤ zs.getD i 0 ∧ zs.getD i 0 < 4294967296)) := ⟨hR, hby⟩
  clear hR hby
  obtain ⟨i0, hi, hz0, hz1, hz2⟩ := info_parts Try.info3
  have hmk3 : ∀ w, (Instr.makeSlice 33 (.int .i64 0) (.int .i64 n)).run Try.prog w = .ok (.slice (some ⟨w.heap.size, 0, none⟩) 0 n) (w.alloc (.cells (madeCells #[.int .i64 0] n) 3)) := by
    intro w
    have := run_make (P := Try.prog) w 33 3 i0 (.int .i64 0) Try.underlying33 hi hz0 .i64 .i64 0 n (by omega) (by omega) (by rw [hz2]; omega) (by omega)
    rw [hz1] at this
    simpa [Value.cells] using this
  have HI3 : Hid (Try.prog.info? 3 = some i0 ∧ i0.size = 1) := ⟨hi, hz1⟩
  clear hi hz0 hz1 hz2
  obtain ⟨i1, hi, hz0, hz1, hz2⟩ := info_parts Try.info4
  have hmk4 : ∀ w, (Instr.makeSlice 46 (.int .i64 0) (.int .i64 n)).run Try.prog w = .ok (.slice (some ⟨w.heap.size, 0, none⟩) 0 n) (w.alloc (.cells (madeCells #[.bool false] n) 4)) := by
    intro w
    have := run_make (P := Try.prog) w 46 4 i1 (.bool false) Try.underlying46 hi hz0 .i64 .i64 0 n (by omega) (by omega) (by rw [hz2]; omega) (by omega)
    rw [hz1] at this
    simpa [Value.cells] using this
  have HI4 : Hid (Try.prog.info? 4 = some i1 ∧ i1.size = 1) := ⟨hi, hz1⟩
  clear hi hz0 hz1 hz2
  go_enter Try.func4, Try.ntmps4
  go_wp2_with (first | (go_at_call 13; refine (bytes13 _ _ _ _ (by omega)).mono ?_; rintro e w' ⟨rfl, rfl⟩) | fail)
  refine (clone_words a n c zs _ hn H.out.1).mono ?_
  rintro e w1 ⟨ad, rfl, hL1, hl, hb1⟩
  have hbl : ∀ i, 0 ≤ (zs.take n).getD i 0 ∧ (zs.take n).getD i 0 < 4294967296 := by
    intro i
    have := H.out.2 i
    simp only [List.getD, List.getElem?_take] at this ⊢
    split
    · exact this
    · simp
  generalize zs.take n = ls at hL1 hl hbl
  have HL : Hid (Words w1 w1.heap.size ad ls ∧ n = ls.length ∧ Below w.heap.size w w1 ∧ (∀ i, 0 ≤ ls.getD i 0 ∧ ls.getD i 0 < 4294967296)) := ⟨hL1, hl.symm, hb1, hbl⟩
  clear hL1 hl H hb1 hbl
  go_wp2
  clear hmk3 hmk4
  obtain ⟨D, hDe⟩ : ∃ D, D = w1.heap.size := ⟨_, rfl⟩
  have HD : Hid (D = w1.heap.size) := hDe
  rw [← hDe]
  clear hDe
  go_loopg [4, 5, 6, 7, 8] n (fun g s4 s5 s6 s7 s8 wr => ∃ (i : Nat) (ns : List Int) (ks : List Bool) (kd : ByteArray) (fl : Bool), n - i ≤ g ∧ i ≤ n ∧ ks.length ≤ i ∧
    s4 = .slice (some ⟨D + 1, 0, none⟩) ks.length n ∧ s5 = .slice (some ⟨D + 2, 0, none⟩) ks.length n ∧ s6 = .bool fl ∧ s7 = .string kd ∧ s8 = .int .i64 i ∧ LawRel w D n ad ls ns ks kd fl wr)
  case atStart =>
    have hDw : D = w1.heap.size := HD.out
    subst hDw
    refine ⟨0, [], [], ⟨#[]⟩, false, Nat.sub_le _ _, Nat.zero_le _, Nat.zero_le _, rfl, rfl, rfl, rfl, rfl, ?_⟩
    exact start_rel hn HL.out.1 HL.out.2.2.1
  case round =>
    obtain ⟨i, ns, ks, kd, fl, hg, hin, hki, rfl, rfl, rfl, rfl, rfl, R⟩ := hrel
    obtain ⟨L, hL⟩ : ∃ L, L = ks.length := ⟨_, rfl⟩
    rw [← hL] at hki ⊢
    by_cases hlt : i < n
    · obtain ⟨B, hB, rfl, hcw⟩ := R.words i (by have := HL.out.2.1; omega)
      obtain ⟨hy0, hy1⟩ := HL.out.2.2.2 i
      generalize ls.getD i 0 = o at hcw hy0 hy1
      have HR : Hid (LawRel w D n (some ⟨B, 0, none⟩) ls ns ks kd fl wr ∧ L = ks.length) := ⟨R, hL⟩
      clear R hL
      obtain ⟨A, hA, hA3⟩ := and_small o 3 3 hy0 hy1 rfl (by omega)
      obtain ⟨d, hd, hd1⟩ := and_small (o / 4) 1023 1023 (by omega) (by omega) rfl (by omega)
      obtain ⟨lk, hlk, hlk3⟩ := and_small (o / 4096) 3 3 (by omega) (by omega) rfl (by omega)
      obtain ⟨I, hI⟩ : ∃ I, o / 16384 = I := ⟨_, rfl⟩
      go_upto_if 63 with fail
      clear hA hd hlk hI hcw hy0 hy1
      go_cut [14] (fun s wx => wr = wx ∧ ∃ cut : Nat, s = .int .i64 cut ∧ cut ≤ L ∧ cut ≤ d ∧ (d ≤ L → cut = d) ∧ (L ≤ d → cut = L))
      case first =>
        by_cases hdL : L < d
        · go_wp2_with fail
          go_meet
          case rel => exact ⟨rfl, L, rfl, by omega, by omega, by omega, by omega⟩
        · go_wp2_with fail
          go_meet
          case rel => exact ⟨rfl, d, rfl, by omega, by omega, by omega, by omega⟩
      case rest =>
        obtain ⟨rfl, cut, rfl, hc1, hc2, hc3, hc4⟩ := hcut
        have hwD : w.heap.size ≤ D := by have := HL.out.2.2.1.size; have := HD.out; omega
        have hlk : ks.length ≤ 1024 := by have := HR.out.2; omega
        have hbig : D + 3 ≤ wr.heap.size := HR.out.1.big
        have hct : (ks.take d).length = cut := by
          rw [List.length_take, ← HR.out.2]
          rcases Nat.le_total d L with h | h
          · rw [Nat.min_eq_left h, hc3 h]
          · rw [Nat.min_eq_right h, hc4 h]
        have HC : Hid ((ks.take d).length = cut) := hct
        clear hct
        go_upto_block 2 with fail
        go_cut [4, 5, 6, 7, 10, 15] (fun s4 s5 s6 s7 _ _ wx => ∃ (ns' : List Int) (ks' : List Bool) (kd' : ByteArray) (fl' : Bool), ks'.length ≤ i + 1 ∧ s4 = .slice (some ⟨D + 1, 0, none⟩) ks'.length n ∧ s5 = .slice (some ⟨D + 2, 0, none⟩) ks'.length n ∧ s6 = .bool fl' ∧ s7 = .string kd' ∧ LawRel w D n (some ⟨B, 0, none⟩) ls ns' ks' kd' fl' wx)
        case first =>
          rcases (show A = 0 ∨ A = 1 ∨ A = 2 ∨ A = 3 by omega) with rfl | rfl | rfl | rfl
          · by_cases hdL : d < L
            · go_wp2_with (first | (go_at_call 15; refine (zzCloseFrom_any D (D + 3) d ns ks kd fl wr HR.out.1.doc hd1 hlk).mono ?_; rintro e w2 ⟨rfl, hS2, hdoc2⟩) | fail)
              go_meet
              case rel =>
                refine ⟨ns.take d, ks.take d, ⟨#[]⟩, fl || decide (d < ks.length), by rw [HC.out]; omega, by rw [HC.out], by rw [HC.out], ?_, rfl, HR.out.1.cut hwD hS2 hdoc2⟩
                have : decide (d < ks.length) = true := decide_eq_true (by have := HR.out.2; omega)
                rw [this]; simp
            · go_wp2_with (first | (go_at_call 15; refine (zzCloseFrom_any D (D + 3) d ns ks kd fl wr HR.out.1.doc hd1 hlk).mono ?_; rintro e w2 ⟨rfl, hS2, hdoc2⟩) | fail)
              go_meet
              case rel =>
                refine ⟨ns.take d, ks.take d, ⟨#[]⟩, fl || decide (d < ks.length), by rw [HC.out]; omega, by rw [HC.out], by rw [HC.out], ?_, rfl, HR.out.1.cut hwD hS2 hdoc2⟩
                have : decide (d < ks.length) = false := decide_eq_false (by have := HR.out.2; omega)
                rw [this]; simp
          · go_wp2_with fail
            refine (zzOpenQuote_any D (D + 3) d I ns ks kd fl wr HR.out.1.doc hd1 hlk hbig).mono ?_
            rintro e w2 ⟨rfl, hS2, hdoc2⟩
            obtain ⟨r1, r2, r3, r4, r5⟩ := HR.out.1.cutRows hwD hS2 d
            rw [HC.out] at r1 r2
            have HP : Hid (w2.ownsRow (D + 1) 4 1 (.slice (some ⟨D + 1, 0, none⟩) cut n) cut ((ks.take d).map Value.bool) ∧ w2.ownsRow (D + 2) 3 1 (.slice (some ⟨D + 2, 0, none⟩) cut n) cut ((ns.take d).map (Value.int .i64)) ∧ Words w2 D (some ⟨B, 0, none⟩) ls ∧ Below w.heap.size w w2 ∧ D + 3 ≤ w2.heap.size ∧ Doc w2 D (D + 3) (ns.take d ++ [I]) (ks.take d ++ [true]) ⟨#[]⟩ false) := ⟨r1, r2, r3, r4, r5, hdoc2⟩
            clear r1 r2 r3 r4 r5 hdoc2 hS2
            go_wp2_with (at_builtin; refine wpList_append_fits _ rfl (.tmp 105) (.tmp 108) 46 rfl (D + 1) 4 i1 1 Try.underlying46 HI4.out.1 HI4.out.2 (D + 1) cut n _ rfl (HP.out.1.alloc _) ⟨w2.heap.size, 0, none⟩ 1 1 [.bool true] rfl rfl (cell_one_new _ _ _) (one_bool _) (by omega) ?_)
            intro w3 hown3 hg3
            rw [← List.map_take] at hown3
            have r6 := (HP.out.2.1.alloc _).kept hg3 (.inr (by simp [Value.ownBlock]))
            have HP3 : Hid (w3.ownsRow (D + 1) 4 1 (.slice (some ⟨D + 1, 0, none⟩) (cut + 1) n) (cut + 1) ((ks.take d).map Value.bool ++ [.bool true]) ∧ w3.ownsRow (D + 2) 3 1 (.slice (some ⟨D + 2, 0, none⟩) cut n) cut ((ns.take d).map (Value.int .i64)) ∧ (w2.alloc (.cells #[.bool true] 4)).grownBy w3 (some (D + 1))) := ⟨hown3, r6, hg3⟩
            clear hown3 r6 hg3
            go_wp2_with (at_builtin; refine wpList_append_fits _ rfl (.tmp 112) (.tmp 114) 33 rfl (D + 2) 3 i0 1 Try.underlying33 HI3.out.1 HI3.out.2 (D + 2) cut n _ rfl (HP3.out.2.1.alloc _) ⟨w3.heap.size, 0, none⟩ 1 1 [.int .i64 I] rfl rfl (cell_one_new _ _ _) (one_int _ _) (by omega) ?_)
            intro w4 hown4 hg4
            rw [← List.map_take] at hown4
            have HP4 : Hid (LawRel w D n (some ⟨B, 0, none⟩) ls (ns.take d ++ [I]) (ks.take d ++ [true]) ⟨#[]⟩ false w4) := LawRel.push hwD HC.out HP.out.2.2.2.2.2 HP.out.2.2.1 HP.out.2.2.2.1 HP.out.2.2.2.2.1 HP3.out.1 HP3.out.2.2 hown4 hg4
            clear hown4 hg4
            go_wp2_with fail
            go_meet
            case rel =>
              have e : (ks.take d ++ [true]).length = cut + 1 := by rw [List.length_append, HC.out]; rfl
              exact ⟨ns.take d ++ [I], ks.take d ++ [true], ⟨#[]⟩, false, by rw [e]; omega, by rw [e], by rw [e], rfl, rfl, HP4.out⟩
          · go_wp2_with fail
            refine (zzOpenList_any D (D + 3) d I ns ks kd fl wr HR.out.1.doc hd1 hlk hbig).mono ?_
            rintro e w2 ⟨rfl, hS2, hdoc2⟩
            obtain ⟨r1, r2, r3, r4, r5⟩ := HR.out.1.cutRows hwD hS2 d
            rw [HC.out] at r1 r2
            have HP : Hid (w2.ownsRow (D + 1) 4 1 (.slice (some ⟨D + 1, 0, none⟩) cut n) cut ((ks.take d).map Value.bool) ∧ w2.ownsRow (D + 2) 3 1 (.slice (some ⟨D + 2, 0, none⟩) cut n) cut ((ns.take d).map (Value.int .i64)) ∧ Words w2 D (some ⟨B, 0, none⟩) ls ∧ Below w.heap.size w w2 ∧ D + 3 ≤ w2.heap.size ∧ Doc w2 D (D + 3) (ns.take d ++ [I]) (ks.take d ++ [false]) ⟨#[]⟩ false) := ⟨r1, r2, r3, r4, r5, hdoc2⟩
            clear r1 r2 r3 r4 r5 hdoc2 hS2
            go_wp2_with (at_builtin; refine wpList_append_fits _ rfl (.tmp 105) (.tmp 108) 46 rfl (D + 1) 4 i1 1 Try.underlying46 HI4.out.1 HI4.out.2 (D + 1) cut n _ rfl (HP.out.1.alloc _) ⟨w2.heap.size, 0, none⟩ 1 1 [.bool false] rfl rfl (cell_one_new _ _ _) (one_bool _) (by omega) ?_)
            intro w3 hown3 hg3
            rw [← List.map_take] at hown3
            have r6 := (HP.out.2.1.alloc _).kept hg3 (.inr (by simp [Value.ownBlock]))
            have HP3 : Hid (w3.ownsRow (D + 1) 4 1 (.slice (some ⟨D + 1, 0, none⟩) (cut + 1) n) (cut + 1) ((ks.take d).map Value.bool ++ [.bool false]) ∧ w3.ownsRow (D + 2) 3 1 (.slice (some ⟨D + 2, 0, none⟩) cut n) cut ((ns.take d).map (Value.int .i64)) ∧ (w2.alloc (.cells #[.bool false] 4)).grownBy w3 (some (D + 1))) := ⟨hown3, r6, hg3⟩
            clear hown3 r6 hg3
            go_wp2_with (at_builtin; refine wpList_append_fits _ rfl (.tmp 112) (.tmp 114) 33 rfl (D + 2) 3 i0 1 Try.underlying33 HI3.out.1 HI3.out.2 (D + 2) cut n _ rfl (HP3.out.2.1.alloc _) ⟨w3.heap.size, 0, none⟩ 1 1 [.int .i64 I] rfl rfl (cell_one_new _ _ _) (one_int _ _) (by omega) ?_)
            intro w4 hown4 hg4
            rw [← List.map_take] at hown4
            have HP4 : Hid (LawRel w D n (some ⟨B, 0, none⟩) ls (ns.take d ++ [I]) (ks.take d ++ [false]) ⟨#[]⟩ false w4) := LawRel.push hwD HC.out HP.out.2.2.2.2.2 HP.out.2.2.1 HP.out.2.2.2.1 HP.out.2.2.2.2.1 HP3.out.1 HP3.out.2.2 hown4 hg4
            clear hown4 hg4
            go_wp2_with fail
            go_meet
            case rel =>
              have e : (ks.take d ++ [false]).length = cut + 1 := by rw [List.length_append, HC.out]; rfl
              exact ⟨ns.take d ++ [I], ks.take d ++ [false], ⟨#[]⟩, false, by rw [e]; omega, by rw [e], by rw [e], rfl, rfl, HP4.out⟩
          · go_wp2_with (first | (go_at_call 17; refine (leafKind_any _ _).mono ?_; rintro e w' ⟨rfl, rfl⟩) | (go_at_call 18; refine (zzOpenLeaf_any D (D + 3) d _ ns ks kd fl wr HR.out.1.doc hd1 hlk hbig).mono ?_; rintro e w2 ⟨rfl, hS2, hdoc2⟩) | fail)
            go_meet
            case rel => exact ⟨ns.take d, ks.take d, leafS lk, true, by rw [HC.out]; omega, by rw [HC.out], by rw [HC.out], rfl, rfl, HR.out.1.cut hwD hS2 hdoc2⟩
        case rest =>
          clear HR HC hc1 hc2 hc3 hc4 hlk hbig hd1 hlk3 hA3
          obtain ⟨ns', ks', kd', fl', hk1, rfl, rfl, rfl, rfl, R⟩ := hcut
          have hks : ks'.length ≤ 1024 := by omega
          have hl := R.doc.len
          have HR : Hid (LawRel w D n (some ⟨B, 0, none⟩) ls ns' ks' kd' fl' wc ∧ ns'.length = ks'.length) := ⟨R, hl⟩
          clear R hl
          go_wp2_with fail
          refine (docIndents_any D (D + 3) ns' ks' kd' fl' wc HR.out.1.doc hks).mono ?_
          rintro e w2 ⟨rfl, hC⟩
          rw [HR.out.2]
          obtain ⟨G, hG⟩ : ∃ G, G = wc.heap.size := ⟨_, rfl⟩
          have R2 := HR.out.1.below hC.bel
          have hcG : ∀ j, j < ks'.length → w2.cell? ⟨G, j, none⟩ = some (.int .i64 (ns'.getD j 0)) := by
            intro j hj
            obtain ⟨cur, q1, q2, q3⟩ := hC.row
            rw [hG]
            have := q3 j (by have := HR.out.2; omega)
            simpa [World.cell?, q1] using this
          rw [← hG]
          have HR2 : Hid (LawRel w D n (some ⟨B, 0, none⟩) ls ns' ks' kd' fl' w2 ∧ ∀ j, j < ks'.length → w2.cell? ⟨G, j, none⟩ = some (.int .i64 (ns'.getD j 0))) := ⟨R2, hcG⟩
          clear R2 hcG hC hG
          obtain ⟨L, hL⟩ : ∃ L, L = ks'.length := ⟨_, rfl⟩
          rw [← hL] at hks hk1 ⊢
          have HLe : Hid (L = ks'.length) := hL
          clear hL
          go_wp2
          go_loopg [19] L (fun g s wr => ∃ j : Nat, L - j ≤ g ∧ j ≤ L ∧ s = .int .i64 j ∧ LawRel w D n (some ⟨B, 0, none⟩) ls ns' ks' kd' fl' wr ∧ ∀ j, j < ks'.length → wr.cell? ⟨G, j, none⟩ = some (.int .i64 (ns'.getD j 0)))
          case atStart => exact ⟨0, Nat.sub_le _ _, Nat.zero_le _, rfl, HR2.out.1, HR2.out.2⟩
          case round =>
            clear HR HR2
            obtain ⟨j, hgj, hjL, rfl, R, hG⟩ := hrel
            by_cases hlt2 : j < L
            · have q1 := hG j (by have := HLe.out; omega)
              have q2 := (R.cells j (by have := HLe.out; omega)).2
              have HR3 : Hid (LawRel w D n (some ⟨B, 0, none⟩) ls ns' ks' kd' fl' wr ∧ ∀ j, j < ks'.length → wr.cell? ⟨G, j, none⟩ = some (.int .i64 (ns'.getD j 0))) := ⟨R, hG⟩
              clear R hG
              generalize ns'.getD j 0 = x at q1 q2
              go_wp2
              go_quiet (fail)
              go_wp2
              go_roundg (L - (j + 1))
              case measure => omega
              case rel => exact ⟨j + 1, Nat.le_refl _, by omega, by go_num, HR3.out.1.drewN _, HR3.out.2⟩
            · have HR3 : Hid (LawRel w D n (some ⟨B, 0, none⟩) ls ns' ks' kd' fl' wr) := R
              clear R hG
              obtain ⟨vo, aq, cq, hA, hq⟩ := HR3.out.lies
              have HQ : Hid (DocAt wr D vo (.slice aq (posOf ks').length cq) kd' fl' ∧ ∀ (k q : Nat), (posOf ks')[k]? = some q → ∃ g, aq = some ⟨g, 0, none⟩ ∧ wr.cell? ⟨g, k, none⟩ = some (.int .i64 (q : Int))) := ⟨hA, hq⟩
              clear hA hq
              go_wp2_with (first | (go_at_call 20; refine (docQuotes_any D vo _ kd' fl' wr HQ.out.1).mono ?_; rintro e w' ⟨rfl, rfl⟩) | fail)
              obtain ⟨N, hN⟩ : ∃ N, N = (posOf ks').length := ⟨_, rfl⟩
              rw [← hN]
              have HN : Hid (N = (posOf ks').length ∧ ∀ m, (posOf (ks'.take m)).length ≤ N) := ⟨hN, fun m => by
                obtain ⟨Q, hQ, _, _⟩ := posOf_take ks' m
                rw [hN, hQ]; simp⟩
              have hNb : N ≤ 1024 := by rw [hN]; have := posOf_length ks'; have := HLe.out; omega
              clear hN
              go_loop [21, 22] (fun s21 s22 => ∃ m : Nat, m ≤ L ∧ s22 = .int .i64 m ∧ s21 = .int .i64 ((posOf (ks'.take m)).length : Nat)) (fun _ s22 => L - (intOf s22).toNat)
              case atStart => exact ⟨0, Nat.zero_le _, rfl, rfl⟩
              case round =>
                obtain ⟨m, hmL, rfl, rfl⟩ := hrel
                have hKN := HN.out.2 m
                by_cases hlt3 : m < L
                · have q1 := (HR3.out.cells m (by have := HLe.out; omega)).1
                  obtain ⟨t1, t2⟩ := posOf_next ks' m (by have := HLe.out; omega)
                  by_cases hb : ks'.getD m false = true
                  · obtain ⟨t3, t4⟩ := t1 hb
                    rw [hb] at q1
                    have hKN2 : (posOf (ks'.take m)).length < N := by rw [HN.out.1]; exact (List.getElem?_eq_some_iff.1 t4).1
                    obtain ⟨g, rfl, q2⟩ := HQ.out.2 _ _ t4
                    have ht0 : (posOf (ks'.take (m + 1))).length = (posOf (ks'.take m)).length + 1 := by rw [t3]; simp
                    have HT : Hid ((posOf (ks'.take (m + 1))).length = (posOf (ks'.take m)).length + 1) := ht0
                    clear ht0
                    clear t1 t2 t3 t4 hb hKN
                    generalize (posOf (ks'.take m)).length = K at q2 hKN2 HT ⊢
                    go_wp2
                    go_round
                    case rel => exact ⟨m + 1, by omega, by go_num, by rw [HT.out]; go_num⟩
                    case measure => simp [intOf]; omega
                  · have hb : ks'.getD m false = false := by simpa using hb
                    rw [hb] at q1
                    have ht0 : (posOf (ks'.take (m + 1))).length = (posOf (ks'.take m)).length := by rw [t2 hb]
                    have HT : Hid ((posOf (ks'.take (m + 1))).length = (posOf (ks'.take m)).length) := ht0
                    clear ht0
                    clear t1 t2 hb
                    generalize (posOf (ks'.take m)).length = K at hKN HT ⊢
                    go_wp2
                    go_round
                    case rel => exact ⟨m + 1, by omega, by go_num, by rw [HT.out]⟩
                    case measure => simp [intOf]; omega
                · have hme : (posOf (ks'.take m)).length = N := by
                    rw [HN.out.1, List.take_of_length_le (by have := HLe.out; omega)]
                  rw [hme]
                  clear hme hKN
                  go_wp2_with (first | (go_at_call 21; refine (docFilled_any D vo _ kd' fl' _ HQ.out.1).mono ?_; rintro e w' ⟨rfl, rfl⟩) | (go_at_call 22; refine (docLeafKind_any D vo _ kd' fl' _ HQ.out.1).mono ?_; rintro e w' ⟨rfl, rfl⟩))
                  go_roundg (n - (i + 1))
                  case measure => omega
                  case rel =>
                    have hLe := HLe.out
                    exact ⟨i + 1, ns', ks', kd', fl', Nat.le_refl _, by omega, by omega, by rw [← hLe], by rw [← hLe], rfl, rfl, by go_num, HR3.out⟩
    · have HB : Hid (Below w.heap.size w wr) := R.bel
      clear R hL
      go_wp2
      go_ret
      exact ⟨rfl, HB.out⟩

end Go.Proofs.Qxb6002445a
