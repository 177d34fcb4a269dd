/-
  The walk of FnTagNameSplitsLeadingName.
-/
import Derived.Test.Qxb6002445aTag
namespace Go.Proofs.Qxb6002445a
open Go.RowKit
set_option linter.unusedSimpArgs false
set_option linter.unusedVariables false

/-- The name's bytes. -/
def nameL (bs : List Int) : List Int := (bs.map lowI).take (runN bs)

theorem nameL_length (bs : List Int) : (nameL bs).length = runN bs := by
  have := runN_le bs
  simp [nameL]; omega

theorem nameL_get (bs : List Int) (i : Nat) (h : i < runN bs) : (nameL bs).getD i 0 = lowI (bs.getD i 0) := by
  have := runN_le bs
  have hi : i < bs.length := by omega
  simp [nameL, List.getElem?_take, h, List.getElem?_eq_getElem hi]

theorem lowI_low (c : Int) : lowI (lowI c) = lowI c := by
  unfold lowI
  split
  · rw [if_neg (by omega)]
  · rfl
theorem alB_low (c : Int) : alB c = true → alB (lowI c) = true := by
  unfold alB lowI; simp; split <;> omega
theorem low_byte (c : Int) (h : alB c = true) : 0 ≤ lowI c ∧ lowI c < 256 := by
  unfold alB at h; unfold lowI; simp at h; split <;> omega

theorem runN_name (bs : List Int) : runN (nameL bs) = runN bs := by
  have hl := nameL_length bs
  have h := runN_stop (nameL bs) (runN bs) (fun j hj => by rw [nameL_get bs j hj]; exact alB_low _ (runN_at bs j hj)) (by omega) (fun h => absurd h (by omega))
  exact h

theorem name_again (bs : List Int) : nameL (nameL bs) = nameL bs := by
  apply List.ext_getElem?
  intro i
  have h1 := nameL_length bs
  have h2 := nameL_length (nameL bs)
  rw [runN_name] at h2
  by_cases hi : i < runN bs
  · have e1 := nameL_get bs i hi
    have e2 := nameL_get (nameL bs) i (by rw [runN_name]; exact hi)
    rw [e1, lowI_low, ← e1] at e2
    rw [List.getElem?_eq_getElem (by omega), List.getElem?_eq_getElem (by omega)]
    simp only [List.getD, List.getElem?_eq_getElem (show i < (nameL (nameL bs)).length by omega), List.getElem?_eq_getElem (show i < (nameL bs).length by omega), Option.getD_some] at e2
    rw [e2]
  · rw [List.getElem?_eq_none (by omega), List.getElem?_eq_none (by omega)]

theorem name_bytes (bs : List Int) : Bytes (nameL bs) := by
  intro i
  by_cases hi : i < runN bs
  · rw [nameL_get bs i hi]; exact low_byte _ (runN_at bs i hi)
  · have h1 := nameL_length bs
    simp [List.getD, List.getElem?_eq_none (show (nameL bs).length ≤ i by omega)]

/-- The string of the name, by its two faces: its size and its bytes. -/
theorem name_str (bs : List Int) : (strOfNums (nameL bs)).size = runN bs ∧ ∀ i (h : i < (strOfNums (nameL bs)).size), (((strOfNums (nameL bs))[i]'h).toNat : Int) = lowI (bs.getD i 0) := by
  have hs : (strOfNums (nameL bs)).size = runN bs := by rw [strOfNums_size, nameL_length]
  refine ⟨hs, fun i h => ?_⟩
  have hi : i < runN bs := by omega
  have hb := low_byte _ (runN_at bs i hi)
  have hl := nameL_length bs
  have e : (strOfNums (nameL bs))[i]'h = UInt8.ofNat ((nameL bs)[i]'(by omega)).toNat := by
    simp [strOfNums, ByteArray.getElem_eq_getElem_data]
  have g := nameL_get bs i hi
  have g2 : (nameL bs).getD i 0 = (nameL bs)[i]'(by omega) := by simp [List.getD, List.getElem?_eq_getElem (show i < (nameL bs).length by omega)]
  rw [g2] at g
  rw [e, g]
  generalize lowI (bs.getD i 0) = v at hb ⊢
  have hv : v.toNat < UInt8.size := by show v.toNat < 256; omega
  rw [UInt8.toNat_ofNat_of_lt' hv]
  omega

theorem quietS {P : Program} {f : FuncId} {args : Array Value} {w : World} {n : Nat} {v : Value}
    (h : Calls P f args (w.drewN n) fun e w' => e = .returned v ∧ w.drewN n = w') : Calls P f args (w.drewN n) fun e w'' => e = .returned v ∧ ∃ m, w'' = w.drewN m :=
  h.mono fun _ _ ⟨he, hm⟩ => ⟨he, n, hm.symm⟩

theorem cell_heap {w w' : World} (h : w'.heap = w.heap) (a : Addr) : w'.cell? a = w.cell? a := by unfold World.cell?; rw [h]

/-- Reading the name again. -/
theorem again_call (bs : List Int) (s : ByteArray) (r : Nat) (wr : World) (hs : s = strOfNums (nameL bs)) (hr : r = runN bs) (h16 : r ≤ 16) (lo hi : Nat) :
    Calls Try.prog 10 #[.slice (some ⟨wr.heap.size, 0, none⟩) r (grownCap wr r 0 5)] (wr.alloc (.cells (bytesRow s (grownCap wr r 0 5)) 5 (lo, hi))).drew
      fun e w' => ∃ ad cp, e = .returned (.tuple #[.string s, .slice ad 0 cp]) ∧ Below wr.heap.size wr w' := by
  have hsz : s.size = r := by rw [hs, (name_str bs).1, hr]
  have hlen : (nameL bs).length = r := by rw [nameL_length, hr]
  have hW : Below wr.heap.size wr (wr.alloc (.cells (bytesRow s (grownCap wr r 0 5)) 5 (lo, hi))).drew := ((Below.refl _ _).alloc (Nat.le_refl _) _).drew
  refine (zzTagName_any wr.heap.size 0 r (grownCap wr r 0 5) (nameL bs) _ (by omega) (grownCap_ge _ _ _ _) hlen (name_bytes bs) ?_ ?_).mono ?_
  · intro i hi
    have hi' : i < s.data.size := by rw [show s.data.size = s.size from rfl]; omega
    have e1 := bytesRow_at s (grownCap wr r 0 5) i hi'
    have e2 := (name_str bs).2 i (by rw [← hs]; exact hi')
    have e3 : (s.data[i].toNat : Int) = lowI (bs.getD i 0) := by subst hs; exact e2
    rw [e3, ← nameL_get bs i (by omega)] at e1
    rw [Nat.zero_add]
    show (wr.alloc _).cell? ⟨wr.heap.size, i, none⟩ = _
    rw [World.cell?_alloc_mark, e1]
  · simp
  · rintro e w' ⟨hb, h | h⟩
    · have := h.1; rw [runN_name] at this; omega
    · obtain ⟨_, ad, cp, he, _⟩ := h
      rw [runN_name, ← hr, Nat.sub_self] at he
      have hn : strOfNums (((nameL bs).map lowI).take r) = s := by
        have e : nameL (nameL bs) = ((nameL bs).map lowI).take r := by rw [nameL, runN_name, hr]
        rw [← e, name_again, hs]
      rw [hn] at he
      exact ⟨ad, cp, he, hW.trans (hb.mono (by simp))⟩

set_option maxHeartbeats 400000 in
theorem tagLaw_far (a : Option Addr) (n c : Nat) (w : World) (hn : 65536 < n) (hm : n ≤ 9223372036854775807) :
    Calls Try.prog 3 #[.slice a n c] w fun e w' => e = .returned (.bool true) ∧ Below w.heap.size w w' := by
  by_cases hf : fitB n = true
  · go_enter Try.func3, Try.ntmps3
    go_wp2_with (go_at_call 8; refine (bytes8 _ _ _ _ hm).mono ?_; rintro e w' ⟨rfl, rfl⟩)
    go_ret
    exact ⟨rfl, Below.refl _ _⟩
  · have hf : fitB n = false := by simpa using hf
    go_enter Try.func3, Try.ntmps3
    go_wp2_with (go_at_call 8; refine (bytes8 _ _ _ _ hm).mono ?_; rintro e w' ⟨rfl, rfl⟩)
    go_ret
    exact ⟨rfl, Below.refl _ _⟩

set_option maxHeartbeats 400000 in
theorem tagLaw_nil (w : World) :
    Calls Try.prog 3 #[.slice none 0 0] w fun e w' => e = .returned (.bool true) ∧ Below w.heap.size w w' := by
  have hf : fitB 0 = true := rfl
  go_enter Try.func3, Try.ntmps3
  go_wp2_with (first | (go_at_call 8; refine (bytes8 _ _ _ _ (by omega)).mono ?_; rintro e w' ⟨rfl, rfl⟩) | (go_at_call 9; refine (cloneBytes_nil _).mono ?_; rintro e w' ⟨rfl, rfl⟩) | (go_at_call 10; refine (zzTagName_nil _).mono ?_; rintro e w' ⟨rfl, hb⟩))
  refine wp_loop_rounds 1 ?_
  rw [rounds_succ]
  go_wp2
  refine wp_loop_rounds 1 ?_
  rw [rounds_succ]
  go_wp2
  refine wp_loop_rounds 1 ?_
  rw [rounds_succ]
  go_wp2
  go_ret
  exact ⟨rfl, hb⟩

set_option maxHeartbeats 400000 in
theorem tagLaw_some (x : Addr) (n c : Nat) (zs : List Int) (w : World) (hn : n ≤ 65536) (hz : n ≤ zs.length) (hc : ∀ i, i < zs.length → w.cell? (x.add i) = some (.int .u8 (zs.getD i 0))) (hb : ∀ i, 0 ≤ zs.getD i 0 ∧ zs.getD i 0 < 256) :
    Calls Try.prog 3 #[.slice (some x) n c] w fun e w' => e = .returned (.bool true) ∧ Below w.heap.size w w' := by
  have hf : fitB n = true := decide_eq_true (by omega)
  have H : Hid ((∀ i, i < zs.length → w.cell? (x.add i) = some (.int .u8 (zs.getD i 0))) ∧ (∀ i, 0 ≤ zs.getD i 0 ∧ zs.getD i 0 < 256)) := ⟨hc, hb⟩
  clear hc hb
  go_enter Try.func3, Try.ntmps3
  go_wp2_with (first | (go_at_call 8; refine (bytes8 _ _ _ _ (by omega)).mono ?_; rintro e w' ⟨rfl, rfl⟩) | fail)
  refine (cloneBytes_some x n c zs _ (by omega) hz H.out.1).mono ?_
  rintro e w1 ⟨rfl, M⟩
  obtain ⟨bs, hbs⟩ : ∃ bs, bs = zs.take n := ⟨_, rfl⟩
  have hl : bs.length = n := by rw [hbs]; simp; omega
  have hby : Bytes bs := by
    intro i
    have := H.out.2 i
    rw [hbs]
    simp only [List.getD, List.getElem?_take] at this ⊢
    split
    · exact this
    · simp
  have hc1 : Cells8 w1 w.heap.size 0 bs := by
    intro i hi
    have := M.block
    rw [← hbs] at this
    simp only [World.cell?, this]
    simp [List.getElem?_eq_getElem hi]
  have HB : Hid (bs.length = n ∧ Bytes bs ∧ Cells8 w1 w.heap.size 0 bs ∧ Below w.heap.size w w1 ∧ w1.heap.size = w.heap.size + 1) := ⟨hl, hby, hc1, M.below, M.size⟩
  clear M hbs hl hby hc1 H hz
  go_wp2_with fail
  refine (zzTagName_any w.heap.size 0 n n bs w1 hn (Nat.le_refl _) HB.out.1 HB.out.2.1 HB.out.2.2.1 (by have := HB.out.2.2.2.2; omega)).mono ?_
  rintro e w2 ⟨hb2, h⟩
  obtain ⟨hl, hby, hc1, hb1, hs1⟩ := HB.out
  have hc2 : ∀ i, i < n → w2.cell? ⟨w.heap.size, i, none⟩ = some (.int .u8 (bs.getD i 0)) := fun i hi => by
    have e := hb2.cell (p := ⟨w.heap.size, i, none⟩) (by show w.heap.size < _; omega)
    have := hc1 i (by omega)
    rw [Nat.zero_add] at this
    rw [e, this]
  have hbel : Below w.heap.size w w2 := hb1.trans (hb2.mono (by omega))
  have hrn : runN bs ≤ n := by have := runN_le bs; omega
  have hst : ∀ k, k < n → k = runN bs → alB (bs.getD k 0) = false := by
    intro k hk he
    by_cases h : alB (bs.getD k 0) = true
    · have := runN_all bs (k + 1) (fun j hj => by
        rcases Nat.lt_or_ge j k with h' | h'
        · exact runN_at bs j (by omega)
        · have : j = k := by omega
          rw [this]; exact h) (by omega)
      omega
    · simpa using h
  obtain ⟨r, hr⟩ : ∃ r, r = runN bs := ⟨_, rfl⟩
  have hal : ∀ k, k < r → alB (bs.getD k 0) = true := fun k hk => runN_at bs k (by omega)
  rw [← hr] at hrn hst h
  have HA : Hid ((∀ k, k < r → alB (bs.getD k 0) = true) ∧ (∀ k, k < n → k = r → alB (bs.getD k 0) = false) ∧ (∀ i, i < n → w2.cell? ⟨w.heap.size, i, none⟩ = some (.int .u8 (bs.getD i 0))) ∧ Below w.heap.size w w2 ∧ r = runN bs ∧ bs.length = n ∧ Bytes bs) := ⟨hal, hst, hc2, hbel, hr, hl, hby⟩
  clear hal hst hc2 hbel hr hl hby hc1 hb1 hs1 HB hb2
  rcases h with h | h
  · obtain ⟨h16, rfl⟩ := h
    have hq := fun w => Lib.run_eql_slice_nil (P := Try.prog) w 22 5 none 0 0 0 0 Try.underlying22
    go_wp2
    go_loop [5] (fun i => ∃ k : Nat, k ≤ r ∧ i = .int .i64 k) (fun i => r - (intOf i).toNat)
    case atStart => exact ⟨0, Nat.zero_le _, rfl⟩
    case round =>
      obtain ⟨k, hk, rfl⟩ := hrel
      have hck : k < n → w2.cell? ⟨w.heap.size, k, none⟩ = some (.int .u8 (bs.getD k 0)) := HA.out.2.2.1 k
      have hyes := HA.out.1 k
      have hno := HA.out.2.1 k
      generalize bs.getD k 0 = ch at hck hyes hno
      by_cases hlt : k < r
      · have hck := hck (by omega)
        have hyes := hyes hlt
        go_wp2_with (go_at_call 11; refine (isAlnum_any _ _).mono ?_; rintro e w' ⟨rfl, rfl⟩)
        go_round
        case rel => exact ⟨k + 1, by omega, by go_num⟩
        case measure => simp [intOf]; omega
      · have hkr : k = r := by omega
        by_cases hkn : k < n
        · have hck := hck hkn
          have hno := hno hkn hkr
          clear hkr
          go_wp2_with (go_at_call 11; refine (isAlnum_any _ _).mono ?_; rintro e w' ⟨rfl, rfl⟩)
          go_ret
          exact ⟨rfl, HA.out.2.2.2.1⟩
        · clear hkr hck hyes hno
          go_wp2
          go_ret
          exact ⟨rfl, HA.out.2.2.2.1⟩
  · obtain ⟨h16, ad, cp, rfl, had⟩ := h
    obtain ⟨s, hs⟩ : ∃ s, s = strOfNums ((bs.map lowI).take r) := ⟨_, rfl⟩
    have hs2 : s = strOfNums (nameL bs) := by rw [hs, HA.out.2.2.2.2.1]; rfl
    rw [← hs]
    have hsz : s.size = r := by rw [hs2, (name_str bs).1, HA.out.2.2.2.2.1]
    have hsg : ∀ i (h : i < s.size), ((s[i]'h).toNat : Int) = lowI (bs.getD i 0) := by subst hs2; exact (name_str bs).2
    have HS : Hid (s = strOfNums (nameL bs) ∧ (∀ i (h : i < s.size), ((s[i]'h).toNat : Int) = lowI (bs.getD i 0)) ∧ (0 + r < n + 0 → ad = some ⟨w.heap.size, r, none⟩)) := ⟨hs2, hsg, fun h => by rw [had (by omega)]; simp⟩
    clear hs hs2 hsg had
    have hnr : ((n - r : Nat) : Int) = (n : Int) - r := by omega
    go_wp2
    go_loop [5] (fun i => ∃ k : Nat, k ≤ r ∧ i = .int .i64 k) (fun i => r - (intOf i).toNat)
    case atStart => exact ⟨0, Nat.zero_le _, rfl⟩
    case round =>
      obtain ⟨k, hk, rfl⟩ := hrel
      have hck : k < n → w2.cell? ⟨w.heap.size, k, none⟩ = some (.int .u8 (bs.getD k 0)) := HA.out.2.2.1 k
      have hyes := HA.out.1 k
      have hno := HA.out.2.1 k
      generalize bs.getD k 0 = ch at hck hyes hno
      by_cases hlt : k < r
      · have hck := hck (by omega)
        have hyes := hyes hlt
        go_wp2_with (go_at_call 11; refine (isAlnum_any _ _).mono ?_; rintro e w' ⟨rfl, rfl⟩)
        go_round
        case rel => exact ⟨k + 1, by omega, by go_num⟩
        case measure => simp [intOf]; omega
      · have hkr : r = k := by omega
        have HT : Hid (r < n ∨ n ≤ r) := Nat.lt_or_ge r n
        have hgo : k < n → alB ch = false := fun h => hno h hkr.symm
        clear hno
        subst hkr
        clear HT
        by_cases hkn : r < n
        all_goals first
          | (have hck := hck hkn; have hgo := hgo hkn; go_wp2_with (go_at_call 11; refine (isAlnum_any _ _).mono ?_; rintro e w' ⟨rfl, rfl⟩); clear hck hgo)
          | (clear hck hyes hgo; go_wp2)
        all_goals
          clear hkn
          go_loopg [6] (r + 1) (fun g i wr => ∃ j : Nat, g = r + 1 - j ∧ j ≤ r ∧ i = .int .i64 j ∧ wr.heap = w2.heap ∧ Below w.heap.size w wr)
          case atStart => exact ⟨0, rfl, Nat.zero_le _, rfl, rfl, HA.out.2.2.2.1⟩
          case round =>
            obtain ⟨j, rfl, hj, rfl, hh, hbl⟩ := hrel
            by_cases hjr : j < r
            · have hcj : wr.cell? ⟨w.heap.size, j, none⟩ = some (.int .u8 (bs.getD j 0)) := (cell_heap hh _).trans (HA.out.2.2.1 j (by omega))
              have hjs : j < s.size := by omega
              have hsj := HS.out.2.1 j hjs
              generalize bs.getD j 0 = ch2 at hcj hsj
              have HH : Hid (wr.heap = w2.heap) := hh
              clear hh
              go_wp2
              go_quiet ((go_at_call 12; exact quietS (lowerByte_any _ _)))
              go_wp2
              go_roundg (r + 1 - (j + 1))
              case measure => omega
              case rel => exact ⟨j + 1, rfl, by omega, by go_num, HH.out, hbl.trans ⟨rfl, rfl, rfl, Nat.le_refl _, fun _ _ => rfl⟩⟩
            · have HH : Hid (wr.heap = w2.heap) := hh
              clear hh
              go_wp2
              generalize wr = wq at HH hbl
              go_loopg [7] (n - r + 1) (fun g i wr => ∃ j : Nat, g = n - r + 1 - j ∧ j ≤ n - r ∧ i = .int .i64 j ∧ wr.heap = w2.heap ∧ Below w.heap.size w wr)
              case atStart => exact ⟨0, rfl, Nat.zero_le _, rfl, HH.out, hbl⟩
              case round =>
                clear hjr hj HH hbl
                obtain ⟨j, rfl, hj, rfl, hh, hbl⟩ := hrel
                by_cases hjr : j < n - r
                · have hcj : wr.cell? ⟨w.heap.size, r + j, none⟩ = some (.int .u8 (bs.getD (r + j) 0)) := (cell_heap hh _).trans (HA.out.2.2.1 (r + j) (by omega))
                  have had := HS.out.2.2 (by omega)
                  subst had
                  generalize bs.getD (r + j) 0 = ch2 at hcj
                  have HH : Hid (wr.heap = w2.heap) := hh
                  clear hh
                  go_wp2
                  go_quiet (fail)
                  go_wp2
                  go_roundg (n - r + 1 - (j + 1))
                  case measure => omega
                  case rel => exact ⟨j + 1, rfl, by omega, by go_num, HH.out, hbl.trans ⟨rfl, rfl, rfl, Nat.le_refl _, fun _ _ => rfl⟩⟩
                · have HH : Hid (wr.heap = w2.heap) := hh
                  clear hh
                  by_cases hr0 : r = 0
                  · subst hr0
                    go_wp2
                    go_ret
                    exact ⟨rfl, hbl⟩
                  · have hcv := fun W => run_bytes_of_string (P := Try.prog) W 9 22 5 s Try.underlying9 Try.underlying22 Try.underlying5
                    go_wp2_with fail
                    refine (again_call bs s r wr HS.out.1 HA.out.2.2.2.2.1 h16 _ _).mono ?_
                    rintro e w3 ⟨ad2, cp2, rfl, hb3⟩
                    clear hcv
                    go_wp2
                    go_ret
                    exact ⟨rfl, hbl.trans (hb3.mono hbl.size)⟩

end Go.Proofs.Qxb6002445a
