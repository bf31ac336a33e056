/-
  Seat b6601011a: what 'FnHexRuneReadsWhatIsWritten' (function 4) leans on.
-/
import Derived.Test.Qxb6601011aHex
namespace Go.Proofs.Qxb6601011a
open Go.RowKit

/-- 'hexDigitChar': the digit's letter. -/
def chr (d : Int) (up : Bool) : Int := if d < 10 then 48 + d else if up then 55 + d else 87 + d

theorem chr_hex (d : Int) (up : Bool) (h0 : 0 ≤ d) (h1 : d ≤ 15) : isHex (chr d up) ∧ dig (chr d up) = d := by
  unfold chr isHex dig
  split
  · exact ⟨by omega, by rw [if_pos (by omega)]; omega⟩
  · split
    · exact ⟨by omega, by rw [if_neg (by omega), if_pos (by omega)]; omega⟩
    · exact ⟨by omega, by rw [if_neg (by omega), if_neg (by omega)]; omega⟩

theorem ret_int {k : IntKind} {a b : Int} (h : a = b) : Ending.returned (.int k a) = .returned (.int k b) := by rw [h]

theorem char_any (d : Int) (up : Bool) (w : World) (h0 : 0 ≤ d) (h1 : d ≤ 15) :
    Calls Try.prog 14 #[.int .u8 d, .bool up] w fun e w' => e = .returned (.int .u8 (chr d up)) ∧ w' = w := by
  by_cases h : d < 10
  · have HE : Hid (chr d up = 48 + d) := by show chr d up = _; unfold chr; rw [if_pos h]
    go_enter Try.func14, Try.ntmps14
    go_wp2
    go_ret
    exact ⟨ret_int HE.out.symm, rfl⟩
  · cases up
    · have HE : Hid (chr d false = 87 + d) := by show chr d false = _; unfold chr; rw [if_neg h]; rfl
      go_enter Try.func14, Try.ntmps14
      go_wp2
      go_ret
      exact ⟨ret_int (by rw [HE.out]; omega), rfl⟩
    · have HE : Hid (chr d true = 55 + d) := by show chr d true = _; unfold chr; rw [if_neg h]; rfl
      go_enter Try.func14, Try.ntmps14
      go_wp2
      go_ret
      exact ⟨ret_int (by rw [HE.out]; omega), rfl⟩

theorem zz13_yes (u m : Int) (a : Option Addr) (n cap : Nat) (w : World) (hn : n ≤ 1048576) :
    Calls Try.prog 13 #[.int .u16 u, .int .u8 m, .slice a n cap] w fun e w' => e = .returned (.bool true) ∧ w' = w := by
  go_enter Try.func13, Try.ntmps13
  go_wp2
  go_ret
  exact ⟨rfl, rfl⟩
theorem zz13_no (u m : Int) (a : Option Addr) (n cap : Nat) (w : World) (hn : 1048576 < n) :
    Calls Try.prog 13 #[.int .u16 u, .int .u8 m, .slice a n cap] w fun e w' => e = .returned (.bool false) ∧ w' = w := by
  go_enter Try.func13, Try.ntmps13
  go_wp2
  go_ret
  exact ⟨rfl, rfl⟩

theorem law4_big (u m : Int) (a : Option Addr) (n cap : Nat) (w : World) (hn : 1048576 < n) :
    Calls Try.prog 4 #[.int .u16 u, .int .u8 m, .slice a n cap] w fun e w' => e = .returned (.bool true) ∧ Below w.heap.size w w' := by
  go_enter Try.func4, Try.ntmps4
  go_wp2_with fail
  refine (zz13_no u m a n cap w hn).mono ?_
  rintro e w' ⟨rfl, rfl⟩
  go_wp2
  go_ret
  exact ⟨rfl, Below.refl _ _⟩

theorem acc_app (cs r : List Int) : ∀ k, k ≤ cs.length → acc (cs ++ r) k = acc cs k := by
  intro k
  induction k with
  | zero => intro _; rfl
  | succ k ih =>
    intro hk
    have e : (cs ++ r).getD k 0 = cs.getD k 0 := by simp [List.getElem?_append_left (show k < cs.length by omega)]
    simp only [acc, ih (by omega), e]

/-- What has been written after k rounds: k hexadecimal digits, of the value of u's first k. -/
structure Digits (u : Int) (cs : List Int) (k : Nat) : Prop where
  len : cs.length = k
  hex : ∀ j, j < k → isHex (cs.getD j 0)
  val : acc cs k = u / 16 ^ (4 - k)

theorem Digits.step {u : Int} {cs : List Int} {k : Nat} (h : Digits u cs k) (hk : k < 4) {d : Int} (up : Bool) (hd : d = u / 16 ^ (3 - k) % 16) : Digits u (cs ++ [chr d up]) (k + 1) := by
  have hb : 0 ≤ d ∧ d ≤ 15 := by omega
  have hc := chr_hex d up hb.1 hb.2
  have e : (cs ++ [chr d up]).getD k 0 = chr d up := by simp [← h.len]
  refine ⟨by simp [h.len], fun j hj => ?_, ?_⟩
  · by_cases ej : j = k
    · subst ej; rw [e]; exact hc.1
    · have : (cs ++ [chr d up]).getD j 0 = cs.getD j 0 := by simp [List.getElem?_append_left (show j < cs.length by rw [h.len]; omega)]
      rw [this]; exact h.hex j (by omega)
  · simp only [acc]
    rw [acc_app cs _ k (by rw [h.len]; exact Nat.le_refl _), e, hc.2, h.val, hd]
    rcases (show k = 0 ∨ k = 1 ∨ k = 2 ∨ k = 3 by omega) with rfl | rfl | rfl | rfl <;> simp <;> omega

theorem Digits.good {u : Int} {cs r : List Int} (h : Digits u cs 4) : Good (cs ++ r) ∧ acc (cs ++ r) 4 = u := by
  refine ⟨⟨by simp [h.len], fun k hk => ?_⟩, ?_⟩
  · have : (cs ++ r).getD k 0 = cs.getD k 0 := by simp [List.getElem?_append_left (show k < cs.length by rw [h.len]; omega)]
    rw [this]; exact h.hex k hk
  · rw [acc_app cs r 4 (by rw [h.len]; exact Nat.le_refl _), h.val]; simp

theorem step_own {u : Int} {cs : List Int} {k B : Nat} {v : Value} {w : World} (h : Digits u cs k) (hk : k < 4) {d : Int} {up : Bool} (hown : w.ownsRow B 5 1 v (k + 1) (cs.map (.int .u8) ++ [.int .u8 (chr d up)])) (hd : d = u / 16 ^ (3 - k) % 16) :
    ∃ cs', Digits u cs' (k + 1) ∧ w.ownsRow B 5 1 v (k + 1) (cs'.map (.int .u8)) :=
  ⟨_, h.step hk up hd, by simpa using hown⟩

theorem step_tail {cs l : List Int} {k B : Nat} {v : Value} {w : World} (hk : k < l.length) (hown : w.ownsRow B 5 1 v (4 + k + 1) (cs.map (.int .u8) ++ ((l.map (.int .u8)).take k ++ [.int .u8 (l[k]?.getD 0)]))) :
    w.ownsRow B 5 1 v (4 + (k + 1)) ((cs ++ l.take (k + 1)).map (.int .u8)) := by
  have e : l.take (k + 1) = l.take k ++ [l.getD k 0] := by
    rw [List.take_succ_eq_append_getElem hk]; simp [List.getElem?_eq_getElem hk]
  rw [e]
  rw [← Nat.add_assoc]
  simpa using hown

theorem own_has {cs l : List Int} {k B cap : Nat} {w : World} (h4 : cs.length = 4) (hk : l.length = k) (hown : w.ownsRow B 5 1 (.slice (some ⟨B, 0, none⟩) (4 + k) cap) (4 + k) ((cs ++ l.take k).map (.int .u8))) :
    Has .u8 w (some ⟨B, 0, none⟩) (cs ++ l) := by
  refine .inr ⟨B, 0, rfl, fun i hi => ?_⟩
  have hi' : i < 4 + k := by simpa [h4, hk] using hi
  rw [Nat.zero_add, hown.cellAt i (by omega), List.take_of_length_le (by omega)]
  rw [List.getElem?_map, List.getElem?_eq_getElem hi]; simp [List.getElem?_eq_getElem hi]

theorem wraps_u16 (n : Int) (h₀ : 0 ≤ n) (h₁ : n < 2 ^ 16) : IntKind.u16.wrap n = n := by simp [IntKind.wrap, IntKind.bits, IntKind.signed]; omega
theorem and15 (x : Int) (h0 : 0 ≤ x) (h1 : x < 65536) : bits .and .u16 x 15 % 256 = x % 16 := by
  have : bits .and .u16 x 15 = x % 16 := bits_mask .u16 16 (by decide) wraps_u16 4 (by decide) x h0 h1
  rw [this]; omega

set_option maxHeartbeats 1000000 in
theorem law4_small (u m : Int) (a : Option Addr) (n cap : Nat) (l : List Int) (w : World) (hu0 : 0 ≤ u) (hu1 : u < 65536) (_hm0 : 0 ≤ m) (_hm1 : m < 256) (hl : l.length = n) (hn : n ≤ 1048576) (hnil : a = none → n = 0 ∧ cap = 0) (h : Has .u8 w a l) :
    Calls Try.prog 4 #[.int .u16 u, .int .u8 m, .slice a n cap] w fun e w' => e = .returned (.bool true) ∧ Below w.heap.size w w' := by
  have HL : Hid (l.length = n) := hl
  have HN : Hid (a = none → n = 0 ∧ cap = 0) := hnil
  have HH : Hid (Has .u8 w a l) := h
  clear hl hnil h
  obtain ⟨i0, hi, hz0, hz1, hz2⟩ := info_parts Try.info5
  have HI : Hid (Try.prog.info? 5 = some i0 ∧ i0.zero = some (.int .u8 0) ∧ i0.size = 1 ∧ i0.bytes = 1) := ⟨hi, hz0, hz1, hz2⟩
  clear hi hz0 hz1 hz2
  go_enter Try.func4, Try.ntmps4
  go_wp2_with fail
  refine (zz13_yes u m a n cap w hn).mono ?_
  rintro e w1 ⟨rfl, rfl⟩
  go_wp2_with fail
  refine (clone_any a n cap l _ HL.out hn HN.out HH.out).mono ?_
  rintro e w2 ⟨a', cap', hcap', rfl, hh, hb⟩
  have HA : Hid (Has .u8 w2 a' l) := hh
  have HB : Hid (Below w1.heap.size w1 w2) := hb
  clear hh hb HH HN
  go_wp2_with (at_make; refine wpList_make_own _ rfl _ _ 22 rfl w2.heap.size 5 i0 (.int .u8 0) 1 Try.underlying22 HI.out.1 HI.out.2.1 HI.out.2.2.1 _ _ _ (n + 4) rfl rfl (by omega) (by rw [HI.out.2.2.2]; omega) (by unfold maxLen; omega) (Nat.le_refl _) ?_)
  intro w3 hown hgrow
  have HO : Hid (w3.ownsRow w2.heap.size 5 1 (.slice (some ⟨w2.heap.size, 0, none⟩) 0 (n + 4)) 0 []) := hown
  have HB3 : Hid (Below w2.heap.size w2 w3) := (Below.refl _ _).grown hgrow (Nat.le_refl _) (fun k hk => by cases hk)
  clear hown hgrow
  go_wp2
  go_loopw [7, 8] (fun v i wr => ∃ (k : Nat) (cs : List Int), k ≤ 4 ∧ i = .int .i64 k ∧ v = .slice (some ⟨w2.heap.size, 0, none⟩) k (n + 4) ∧ Hid (Digits u cs k) ∧ Hid (wr.ownsRow w2.heap.size 5 1 (.slice (some ⟨w2.heap.size, 0, none⟩) k (n + 4)) k (cs.map (.int .u8))) ∧ Hid (Below w2.heap.size w2 wr)) (fun _ i _ => 4 - (intOf i).toNat)
  case atStart => exact ⟨0, [], Nat.zero_le _, rfl, rfl, ⟨rfl, fun j hj => absurd hj (Nat.not_lt_zero _), by simp [acc]; omega⟩, HO.out, HB3.out⟩
  case round =>
    obtain ⟨k, cs, hk, rfl, rfl, HD, HO, HB3⟩ := hrel
    by_cases hlt : k < 4
    · have hkz : (k : Int) < 4 := by omega
      rcases (show k = 0 ∨ k = 1 ∨ k = 2 ∨ k = 3 by omega) with rfl | rfl | rfl | rfl
      all_goals
        go_wp2_with fail
        refine (char_any _ _ _ ?_ ?_).mono ?_
        · rw [and15 _ (by omega) (by omega)]; omega
        · rw [and15 _ (by omega) (by omega)]; omega
        rintro e wr ⟨rfl, rfl⟩
        go_wp2_with (at_builtin; refine wpList_append_fits _ rfl _ _ 22 rfl w2.heap.size 5 i0 1 Try.underlying22 HI.out.1 HI.out.2.2.1 w2.heap.size _ (n + 4) _ rfl (HO.out.alloc _) ⟨wr.heap.size, 0, none⟩ 1 1 [.int .u8 (chr _ _)] rfl rfl (cell_one_new _ _ _) (ints_oneCell .u8 [chr _ _]) (by omega) ?_)
        intro w4 hown4 hgrow4
        have HO4 := hide hown4
        have HB4 : Hid (Below w2.heap.size w2 w4) := (HB3.out.alloc HB3.out.size _).grown hgrow4 (by have := HB3.out.size; simp; omega) (fun k hk => by cases hk; exact Nat.le_refl _)
        clear hown4 hgrow4
        go_wp2
        go_roundw
        case rel =>
          obtain ⟨cs', h1, h2⟩ := step_own HD.out (by omega) HO4.out (by rw [and15 _ (by omega) (by omega)]; simp)
          exact ⟨_, cs', by omega, by go_num, rfl, h1, h2, HB4.out⟩
        case measure => simp [intOf]
    · obtain rfl : k = 4 := by omega
      go_wp2
      clear hlt hk
      go_loopw [7, 11] (fun v i wr => ∃ k : Nat, k ≤ n ∧ i = .int .i64 k ∧ v = .slice (some ⟨w2.heap.size, 0, none⟩) (4 + k) (n + 4) ∧ Hid (wr.ownsRow w2.heap.size 5 1 (.slice (some ⟨w2.heap.size, 0, none⟩) (4 + k) (n + 4)) (4 + k) ((cs ++ l.take k).map (.int .u8))) ∧ Hid (Below w2.heap.size w2 wr)) (fun _ i _ => n - (intOf i).toNat)
      case atStart => exact ⟨0, Nat.zero_le _, rfl, rfl, hide (by simpa using HO.out), HB3.out⟩
      case round =>
        clear HO HB3
        obtain ⟨k, hk, rfl, rfl, HO, HB3⟩ := hrel
        by_cases hlt : k < n
        · have hkz : (k : Int) < (n : Int) := by omega
          obtain ⟨b, off, hx, hc⟩ : ∃ b off, a' = some ⟨b, off, none⟩ ∧ wr.cell? ⟨b, off + k, none⟩ = some (.int .u8 (l.getD k 0)) := by
            rcases HA.out with h | ⟨b, off, ha, hc⟩
            · have := HL.out; rw [h] at this; simp at this; omega
            · have := hc k (by rw [HL.out]; exact hlt)
              exact ⟨b, off, ha, by rw [HB3.out.cell (p := ⟨b, off + k, none⟩) (World.block_lt_of_cell? _ _ this)]; exact this⟩
          subst hx
          go_wp2_with (at_builtin; refine wpList_append_fits _ rfl _ _ 22 rfl w2.heap.size 5 i0 1 Try.underlying22 HI.out.1 HI.out.2.2.1 w2.heap.size _ (n + 4) _ rfl (HO.out.alloc _) ⟨wr.heap.size, 0, none⟩ 1 1 [.int .u8 _] rfl rfl (cell_one_new _ _ _) (ints_oneCell .u8 [_]) (by omega) ?_)
          intro w4 hown4 hgrow4
          have HO4 := hide hown4
          have HB4 : Hid (Below w2.heap.size w2 w4) := (HB3.out.alloc HB3.out.size _).grown hgrow4 (by have := HB3.out.size; simp; omega) (fun k hk => by cases hk; exact Nat.le_refl _)
          clear hown4 hgrow4
          go_wp2
          go_roundw
          case rel =>
            repeat apply Exists.intro
            refine ⟨?_, rfl⟩
            exact ⟨k + 1, by omega, by go_num, rfl, step_tail (by rw [HL.out]; exact hlt) HO4.out, HB4.out⟩
          case measure => simp [intOf]; omega
        · obtain rfl : k = n := by omega
          clear hlt hk
          obtain ⟨hg, hv⟩ := HD.out.good (r := l)
          have HG : Hid (Good (cs ++ l) ∧ acc (cs ++ l) 4 = u) := ⟨hg, hv⟩
          have HS : Hid (Has .u8 wr (some ⟨w2.heap.size, 0, none⟩) (cs ++ l)) := own_has HD.out.len HL.out HO.out
          have HT : Hid ((cs ++ l).length = 4 + k) := by show (cs ++ l).length = _; rw [List.length_append, HD.out.len, HL.out]
          have hbel : Hid (Below w1.heap.size w1 wr) := HB.out.trans (HB3.out.mono HB.out.size)
          clear hg hv
          go_wp2_with fail
          refine (zzhex_any _ (4 + k) (k + 4) (cs ++ l) _ HT.out (by omega) (by omega) HS.out).mono ?_
          rintro e wr ⟨h | h, rfl⟩
          · obtain ⟨_, rfl⟩ := h
            have e := HG.out.2
            rw [e]
            clear e
            go_wp2
            go_ret
            exact ⟨rfl, hbel.out⟩
          · exact absurd HG.out.1 h.1
end Go.Proofs.Qxb6601011a
