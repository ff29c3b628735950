import Derived.Test.Qxb6601608aRows
import Derived.Test.Qxb6601608aShelf
import Derived.Test.Qxb6601608aPlain
import Derived.WalkKit
import Derived.WalkSpells
import Derived.WalkLawsBesides
namespace Go.Proofs.Qxb6601608a
open Go.RowKit

theorem ret_int {k : IntKind} {a b : Int} (h : a = b) : Ending.returned (.int k a) = .returned (.int k b) := by rw [h]
theorem ret_bool {a b : Bool} (h : a = b) : Ending.returned (.bool a) = .returned (.bool b) := by rw [h]

theorem sp_int (n : Nat) : sp n = ((n : Int) == 32 || (n : Int) == 9 || (n : Int) == 12) := by
  unfold sp
  rw [Bool.eq_iff_iff]; simp; omega

theorem zz16 (s : ByteArray) (p : Int) (w : World) (hs : s.size ≤ maxLen) :
    Calls Try.prog 16 #[.string s, .int .i64 p] w fun e w' => e = .returned (.bool (decide (s.size ≤ 1048576))) ∧ w' = w := by
  unfold maxLen at hs
  by_cases h : s.size ≤ 1048576
  · have h1 : ¬ (1048576 : Int) < (s.size : Int) := by omega
    rw [decide_eq_true h]
    go_enter Try.func16, Try.ntmps16
    go_wp2
    go_ret
    exact ⟨rfl, rfl⟩
  · have h1 : (1048576 : Int) < (s.size : Int) := by omega
    rw [decide_eq_false h]
    go_enter Try.func16, Try.ntmps16
    go_wp2
    go_ret
    exact ⟨rfl, rfl⟩
theorem zz19 (s : ByteArray) (p : Int) (w : World) (hs : s.size ≤ maxLen) :
    Calls Try.prog 19 #[.string s, .int .i64 p] w fun e w' => e = .returned (.bool (decide (s.size ≤ 1048576))) ∧ w' = w := by
  unfold maxLen at hs
  by_cases h : s.size ≤ 1048576
  · have h1 : ¬ (1048576 : Int) < (s.size : Int) := by omega
    rw [decide_eq_true h]
    go_enter Try.func19, Try.ntmps19
    go_wp2
    go_ret
    exact ⟨rfl, rfl⟩
  · have h1 : (1048576 : Int) < (s.size : Int) := by omega
    rw [decide_eq_false h]
    go_enter Try.func19, Try.ntmps19
    go_wp2
    go_ret
    exact ⟨rfl, rfl⟩
theorem zz26 (s : ByteArray) (p : Int) (w : World) (hs : s.size ≤ maxLen) :
    Calls Try.prog 26 #[.string s, .int .i64 p] w fun e w' => e = .returned (.bool (decide (s.size ≤ 1048576))) ∧ w' = w := by
  unfold maxLen at hs
  by_cases h : s.size ≤ 1048576
  · have h1 : ¬ (1048576 : Int) < (s.size : Int) := by omega
    rw [decide_eq_true h]
    go_enter Try.func26, Try.ntmps26
    go_wp2
    go_ret
    exact ⟨rfl, rfl⟩
  · have h1 : (1048576 : Int) < (s.size : Int) := by omega
    rw [decide_eq_false h]
    go_enter Try.func26, Try.ntmps26
    go_wp2
    go_ret
    exact ⟨rfl, rfl⟩

set_option maxHeartbeats 400000 in
theorem isSpace_any (n : Nat) (w : World) :
    Calls Try.prog 41 #[.int .u8 n] w fun e w' => e = .returned (.bool (sp n)) ∧ w' = w := by
  go_enter Try.func41, Try.ntmps41
  go_wp2
  all_goals (go_ret; exact ⟨ret_bool (by simp [sp_int, *]), rfl⟩)

set_option maxHeartbeats 400000 in
theorem isBlank_any (n : Nat) (w : World) :
    Calls Try.prog 20 #[.int .u8 n] w fun e w' => e = .returned (.bool (sp n)) ∧ w' = w := by
  go_enter Try.func20, Try.ntmps20
  go_wp2
  all_goals (go_ret; exact ⟨ret_bool (by simp [sp_int, *]), rfl⟩)

theorem skipS_end {s : ByteArray} {i k : Nat} (h1 : i ≤ k) (h2 : k ≤ s.size) (h : Hid (∀ j, i ≤ j → j < k → (!sp (bt s j)) = false)) (h3 : k < s.size → sp (bt s k) = false) : ((k : Nat) : Int) = (skipS s i : Nat) := by
  unfold skipS
  rw [first_uniq h1 h2 h.out (fun hk => by rw [h3 hk]; rfl)]
theorem sp_more {s : ByteArray} {i k : Nat} (h : Hid (∀ j, i ≤ j → j < k → (!sp (bt s j)) = false)) (h3 : sp (bt s k) = true) : ∀ j, i ≤ j → j < k + 1 → (!sp (bt s j)) = false := by
  intro j a b
  by_cases e : j = k
  · subst e; rw [h3]; rfl
  · exact h.out j a (by omega)

set_option maxHeartbeats 400000 in
theorem skipSpace_any (s : ByteArray) (i : Nat) (w : World) (hs : s.size ≤ maxLen) (hi : i ≤ s.size) :
    Calls Try.prog 36 #[.string s, .int .i64 i] w fun e w' => e = .returned (.int .i64 (skipS s i)) ∧ w' = w := by
  unfold maxLen at hs
  go_enter Try.func36, Try.ntmps36
  go_wp2
  go_loop [1] (fun t => ∃ k : Nat, i ≤ k ∧ k ≤ s.size ∧ t = .int .i64 k ∧ ∀ j, i ≤ j → j < k → (!sp (bt s j)) = false) (fun t => s.size - (intOf t).toNat)
  case atStart => exact ⟨i, Nat.le_refl _, hi, rfl, fun j h1 h2 => by omega⟩
  case round =>
    obtain ⟨k, hk1, hk2, rfl, hall⟩ := hrel
    have HA : Hid (∀ j, i ≤ j → j < k → (!sp (bt s j)) = false) := hall
    clear hall
    by_cases hlt : k < s.size
    · have hb : (s[k]'hlt).toNat = bt s k := (bt_in hlt).symm
      cases hsp : sp (bt s k)
      · go_wp2_with (go_at_call 41; refine (isSpace_any _ _).mono ?_; rintro e w' ⟨rfl, rfl⟩)
        go_ret
        exact ⟨ret_int (skipS_end hk1 hk2 HA (fun _ => hsp)), rfl⟩
      · go_wp2_with (go_at_call 41; refine (isSpace_any _ _).mono ?_; rintro e w' ⟨rfl, rfl⟩)
        go_round
        case rel => exact ⟨k + 1, by omega, by omega, by go_num, sp_more HA hsp⟩
        case measure => simp [intOf]; omega
    · go_wp2
      go_ret
      exact ⟨ret_int (skipS_end hk1 hk2 HA (fun h => absurd h hlt)), rfl⟩

def skipTo (s : ByteArray) (e i : Nat) : Nat := first (fun j => !sp (bt s j)) e i
theorem skipTo_end {s : ByteArray} {e i k : Nat} (h1 : i ≤ k) (h2 : k ≤ e) (h : Hid (∀ j, i ≤ j → j < k → (!sp (bt s j)) = false)) (h3 : k < e → sp (bt s k) = false) : ((k : Nat) : Int) = (skipTo s e i : Nat) := by
  unfold skipTo
  rw [first_uniq h1 h2 h.out (fun hk => by rw [h3 hk]; rfl)]

set_option maxHeartbeats 400000 in
theorem contentStart_any (s : ByteArray) (i e : Nat) (w : World) (hs : s.size ≤ maxLen) (hi : i ≤ e) (he : e ≤ s.size) :
    Calls Try.prog 34 #[.string s, .int .i64 i, .int .i64 e] w fun o w' => o = .returned (.int .i64 (skipTo s e i)) ∧ w' = w := by
  unfold maxLen at hs
  go_enter Try.func34, Try.ntmps34
  go_wp2
  go_loop [1] (fun t => ∃ k : Nat, i ≤ k ∧ k ≤ e ∧ t = .int .i64 k ∧ ∀ j, i ≤ j → j < k → (!sp (bt s j)) = false) (fun t => e - (intOf t).toNat)
  case atStart => exact ⟨i, Nat.le_refl _, hi, rfl, fun j h1 h2 => by omega⟩
  case round =>
    obtain ⟨k, hk1, hk2, rfl, hall⟩ := hrel
    have HA : Hid (∀ j, i ≤ j → j < k → (!sp (bt s j)) = false) := hall
    clear hall
    by_cases hlt : k < e
    · have hlt' : k < s.size := by omega
      have hb : (s[k]'hlt').toNat = bt s k := (bt_in hlt').symm
      cases hsp : sp (bt s k)
      · go_wp2_with (go_at_call 20; refine (isBlank_any _ _).mono ?_; rintro e w' ⟨rfl, rfl⟩)
        go_ret
        exact ⟨ret_int (skipTo_end hk1 hk2 HA (fun _ => hsp)), rfl⟩
      · go_wp2_with (go_at_call 20; refine (isBlank_any _ _).mono ?_; rintro e w' ⟨rfl, rfl⟩)
        go_round
        case rel => exact ⟨k + 1, by omega, by omega, by go_num, sp_more HA hsp⟩
        case measure => simp [intOf]; omega
    · go_wp2
      go_ret
      exact ⟨ret_int (skipTo_end hk1 hk2 HA (fun h => absurd h hlt)), rfl⟩

theorem le_int (n : Nat) : le n = ((n : Int) == 10 || (n : Int) == 13) := by
  unfold le
  rw [Bool.eq_iff_iff]; simp; omega
theorem lineE_end {s : ByteArray} {i k : Nat} (h1 : i ≤ k) (h2 : k ≤ s.size) (h : Hid (∀ j, i ≤ j → j < k → le (bt s j) = false)) (h3 : k < s.size → le (bt s k) = true) : ((k : Nat) : Int) = (lineE s i : Nat) := by
  unfold lineE
  rw [first_uniq h1 h2 h.out h3]
theorem le_more {s : ByteArray} {i k : Nat} (h : Hid (∀ j, i ≤ j → j < k → le (bt s j) = false)) (h3 : le (bt s k) = false) : ∀ j, i ≤ j → j < k + 1 → le (bt s j) = false := by
  intro j a b
  by_cases e : j = k
  · subst e; exact h3
  · exact h.out j a (by omega)
theorem le_true {n : Nat} (h : le n = true) : n = 10 ∨ n = 13 := by simpa [le] using h
theorem le_false {n : Nat} (h : le n = false) : n ≠ 10 ∧ n ≠ 13 := by simpa [le] using h

set_option maxHeartbeats 400000 in
theorem modelLineEnd_any (s : ByteArray) (i : Nat) (w : World) (hs : s.size ≤ maxLen) (hi : i ≤ s.size) :
    Calls Try.prog 30 #[.string s, .int .i64 i] w fun o w' => o = .returned (.int .i64 (lineE s i)) ∧ w' = w := by
  unfold maxLen at hs
  go_enter Try.func30, Try.ntmps30
  go_wp2
  go_loop [1] (fun t => ∃ k : Nat, i ≤ k ∧ k ≤ s.size ∧ t = .int .i64 k ∧ ∀ j, i ≤ j → j < k → le (bt s j) = false) (fun t => s.size - (intOf t).toNat)
  case atStart => exact ⟨i, Nat.le_refl _, hi, rfl, fun j h1 h2 => by omega⟩
  case round =>
    obtain ⟨k, hk1, hk2, rfl, hall⟩ := hrel
    have HA : Hid (∀ j, i ≤ j → j < k → le (bt s j) = false) := hall
    clear hall
    by_cases hlt : k < s.size
    · have hb : (s[k]'hlt).toNat = bt s k := (bt_in hlt).symm
      cases hsp : le (bt s k)
      · have h10 : (((bt s k : Nat) : Int) != 10) = true := by have := (le_false hsp).1; simp; omega
        have h13 : (((bt s k : Nat) : Int) != 13) = true := by have := (le_false hsp).2; simp; omega
        go_wp2
        go_round
        case rel => exact ⟨k + 1, by omega, by omega, by go_num, le_more HA hsp⟩
        case measure => simp [intOf]; omega
      · by_cases h10 : ((bt s k : Nat) : Int) = 10
        · have hb' : (((bt s k : Nat) : Int) != 10) = false := by simp; omega
          clear h10
          go_wp2
          go_ret
          exact ⟨ret_int (lineE_end hk1 hk2 HA (fun _ => hsp)), rfl⟩
        · have h13 : ((bt s k : Nat) : Int) = 13 := by have := le_true hsp; omega
          have hb' : (((bt s k : Nat) : Int) != 10) = true := by simp; omega
          have hb'' : (((bt s k : Nat) : Int) != 13) = false := by simp; omega
          clear h13 h10
          go_wp2
          go_ret
          exact ⟨ret_int (lineE_end hk1 hk2 HA (fun _ => hsp)), rfl⟩
    · go_wp2
      go_ret
      exact ⟨ret_int (lineE_end hk1 hk2 HA (fun h => absurd h hlt)), rfl⟩

set_option maxHeartbeats 400000 in
theorem oddBackslashes_any (s : ByteArray) (c e : Nat) (w : World) (hs : s.size ≤ maxLen) (hc : c ≤ e) (he : e ≤ s.size) :
    Calls Try.prog 35 #[.string s, .int .i64 c, .int .i64 e] w fun o w' => o = .returned (.bool (decide (trb s c e % 2 = 1))) ∧ w' = w := by
  unfold maxLen at hs
  go_enter Try.func35, Try.ntmps35
  go_wp2
  go_loop [7, 8] (fun r t => ∃ k : Nat, c ≤ k ∧ k ≤ e ∧ t = .int .i64 k ∧ r = .int .i64 (trb s c k : Nat)) (fun _ t => e - (intOf t).toNat)
  case atStart => exact ⟨c, Nat.le_refl _, hc, rfl, by have := trb_le s c c; rw [show trb s c c = 0 by omega]; rfl⟩
  case round =>
    obtain ⟨k, hk1, hk2, rfl, rfl⟩ := hrel
    have hl := trb_le s c k
    by_cases hlt : k < e
    · have hlt' : k < s.size := by omega
      have hb : (s[k]'hlt').toNat = bt s k := (bt_in hlt').symm
      by_cases h92 : bt s k = 92
      · have HH : Hid (trb s c (k + 1) = trb s c k + 1) := trb_yes hk1 h92
        have h : (((bt s k : Nat) : Int) == 92) = true := by simp; omega
        clear h92
        go_wp2
        go_round
        case rel => exact ⟨k + 1, by omega, by omega, by go_num, by rw [HH.out]; go_num⟩
        case measure => simp [intOf]; omega
      · have HH : Hid (trb s c (k + 1) = 0) := trb_no h92
        have h : (((bt s k : Nat) : Int) == 92) = false := by simp; omega
        clear h92
        go_wp2
        go_round
        case rel => exact ⟨k + 1, by omega, by omega, by go_num, by rw [HH.out]; go_num⟩
        case measure => simp [intOf]; omega
    · obtain rfl : k = e := by omega
      go_wp2
      go_ret
      exact ⟨ret_bool (by rw [Bool.eq_iff_iff]; simp; omega), rfl⟩

theorem bs_more {s : ByteArray} {k : Nat} (hk : k < s.size) (h : Hid (∀ j, s.size - k ≤ j → j < s.size → bt s j = 92)) (h2 : bt s (s.size - 1 - k) = 92) : ∀ j, s.size - (k + 1) ≤ j → j < s.size → bt s j = 92 := by
  intro j a b
  by_cases e : j = s.size - 1 - k
  · rw [e]; exact h2
  · exact h.out j (by omega) b
set_option maxHeartbeats 400000 in
theorem trailing_any (s : ByteArray) (w : World) (hs : s.size ≤ maxLen) :
    Calls Try.prog 40 #[.string s] w fun o w' => o = .returned (.int .i64 (trb s 0 s.size)) ∧ w' = w := by
  unfold maxLen at hs
  go_enter Try.func40, Try.ntmps40
  go_wp2
  go_loop [3] (fun t => ∃ k : Nat, k ≤ s.size ∧ t = .int .i64 k ∧ ∀ j, s.size - k ≤ j → j < s.size → bt s j = 92) (fun t => s.size - (intOf t).toNat)
  case atStart => exact ⟨0, by omega, rfl, fun j _ _ => by omega⟩
  case round =>
    obtain ⟨k, hk, rfl, hall⟩ := hrel
    have HA : Hid (∀ j, s.size - k ≤ j → j < s.size → bt s j = 92) := hall
    clear hall
    by_cases hlt : k < s.size
    · have hlt' : s.size - 1 - k < s.size := by omega
      have hb : (s[s.size - 1 - k]'hlt').toNat = bt s (s.size - 1 - k) := (bt_in hlt').symm
      have hidx : ((s.size : Int) - 1 - (k : Int)).toNat = s.size - 1 - k := by omega
      by_cases h92 : bt s (s.size - 1 - k) = 92
      · have h : (((bt s (s.size - 1 - k) : Nat) : Int) == 92) = true := by simp; omega
        have H92 : Hid (bt s (s.size - 1 - k) = 92) := h92
        clear h92
        go_wp2
        go_round
        case rel => exact ⟨k + 1, by omega, by go_num, bs_more (by omega) HA H92.out⟩
        case measure => simp [intOf]; omega
      · have h : (((bt s (s.size - 1 - k) : Nat) : Int) == 92) = false := by simp; omega
        go_wp2
        go_ret
        exact ⟨ret_int (by rw [trb_uniq s 0 s.size k (by omega) HA.out (fun _ => h92)]), rfl⟩
    · go_wp2
      go_ret
      exact ⟨ret_int (by rw [trb_uniq s 0 s.size k (by omega) HA.out (fun h => by omega)]), rfl⟩

theorem skipL_two {s : ByteArray} {e : Nat} (h1 : bt s e = 13) (h2 : bt s (e + 1) = 10) : skipL s e = e + 2 := by
  unfold skipL; rw [if_pos ⟨h1, h2⟩]
theorem skipL_one {s : ByteArray} {e : Nat} (he : e < s.size) (h : ¬ (bt s e = 13 ∧ bt s (e + 1) = 10)) : skipL s e = e + 1 := by
  unfold skipL; rw [if_neg h]; omega
theorem skipL_out {s : ByteArray} {e : Nat} (he : s.size ≤ e) : skipL s e = s.size := by
  unfold skipL; rw [bt_out he, if_neg (by omega)]; omega
theorem skipL_le {s : ByteArray} {e : Nat} : skipL s e ≤ s.size := by
  by_cases h : bt s e = 13 ∧ bt s (e + 1) = 10
  · rw [skipL_two h.1 h.2]
    have : e + 1 < s.size := by
      refine Nat.lt_of_not_le fun hn => ?_
      have := bt_out hn; omega
    omega
  · by_cases he : e < s.size
    · rw [skipL_one he h]; omega
    · rw [skipL_out (by omega)]; omega
theorem skipL_gt {s : ByteArray} {e : Nat} (he : e < s.size) : e < skipL s e := by
  by_cases h : bt s e = 13 ∧ bt s (e + 1) = 10
  · rw [skipL_two h.1 h.2]; omega
  · rw [skipL_one he h]; omega

set_option maxHeartbeats 800000 in
theorem pastLineEnd_any (s : ByteArray) (i : Nat) (w : World) (hs : s.size ≤ maxLen) (hi : i ≤ s.size) :
    Calls Try.prog 31 #[.string s, .int .i64 i] w fun o w' => o = .returned (.int .i64 (skipL s i)) ∧ w' = w := by
  unfold maxLen at hs
  by_cases hlt : i < s.size
  · have hb : (s[i]'hlt).toNat = bt s i := (bt_in hlt).symm
    by_cases h13 : bt s i = 13
    · have a1 : ((bt s i : Nat) : Int) ≤ 13 := by omega
      have a2 : 13 ≤ ((bt s i : Nat) : Int) := by omega
      have H13 : Hid (bt s i = 13) := h13
      clear h13
      by_cases hlt2 : i + 1 < s.size
      · have hb2 : (s[i + 1]'hlt2).toNat = bt s (i + 1) := (bt_in hlt2).symm
        by_cases h10 : bt s (i + 1) = 10
        · have b1 : ((bt s (i + 1) : Nat) : Int) ≤ 10 := by omega
          have b2 : 10 ≤ ((bt s (i + 1) : Nat) : Int) := by omega
          have H10 : Hid (bt s (i + 1) = 10) := h10
          clear h10
          go_enter Try.func31, Try.ntmps31
          go_wp2
          go_ret
          exact ⟨ret_int (by rw [skipL_two H13.out H10.out]; omega), rfl⟩
        · have b1 : ¬ ((bt s (i + 1) : Nat) : Int) = 10 := by omega
          go_enter Try.func31, Try.ntmps31
          go_wp2
          go_ret
          exact ⟨ret_int (by rw [skipL_one hlt (fun x => h10 x.2)]; omega), rfl⟩
      · go_enter Try.func31, Try.ntmps31
        go_wp2
        go_ret
        exact ⟨ret_int (by rw [skipL_one hlt (fun x => by have := x.2; rw [bt_out (by omega)] at this; omega)]; omega), rfl⟩
    · have a1 : ¬ ((bt s i : Nat) : Int) = 13 := by omega
      go_enter Try.func31, Try.ntmps31
      go_wp2
      go_ret
      exact ⟨ret_int (by rw [skipL_one hlt (fun x => h13 x.1)]; omega), rfl⟩
  · go_enter Try.func31, Try.ntmps31
    go_wp2
    go_ret
    exact ⟨ret_int (by rw [skipL_out (by omega)]), rfl⟩

end Go.Proofs.Qxb6601608a
