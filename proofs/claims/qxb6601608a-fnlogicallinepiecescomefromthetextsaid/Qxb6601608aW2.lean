import Derived.Test.Qxb6601608aIdx
namespace Go.Proofs.Qxb6601608a
open Go.RowKit

theorem hide {p : Prop} (h : p) : Hid p := h
theorem unhide {p : Prop} (h : Hid p) : p := h

theorem indexAny_any (s c : ByteArray) (w : World) (h2 : 2 ≤ c.size) (hs : s.size < 4294967281) (hcs : c.size < 4294967281) (hc : Asc c) :
    Calls Try.prog 42 #[.string s, .string c] w fun e w' => e = .returned (.int .i64 (Lib.indexAny s.data.toList c.data.toList)) ∧ Below w.heap.size w w' := by
  by_cases h8 : s.size ≤ 8
  · exact indexAny_short s c w h2 h8 hc (by unfold maxLen; omega)
  · refine (Try.strings_IndexAny_long (zero_of_info (n := 256) (by kernel_rfl)).1 s c w h2 (by omega) hs hcs (fun j b hb => hc b (List.mem_of_getElem? hb))).mono fun e w' ⟨h1, h3⟩ => ⟨h1, ?_⟩
    rw [h3]
    exact ((Below.refl _ _).alloc (Nat.le_refl _) _).alloc (by simp) _

def crlf : ByteArray := { data := #[13, 10] }
theorem crlf_asc : Asc crlf := by
  intro b hb
  simp [crlf] at hb
  rcases hb with rfl | rfl <;> decide

theorem bt_list {s : ByteArray} {j : Nat} {b : UInt8} (h : s.data.toList[j]? = some b) : bt s j = b.toNat ∧ j < s.size := by
  have hj : j < s.size := by
    have := (List.getElem?_eq_some_iff.1 h).1
    simpa using this
  rw [Lib.data_getElem? s j hj] at h
  rw [bt_in hj]
  exact ⟨by rw [Option.some.inj h], hj⟩

theorem le_contains (b : UInt8) : crlf.data.toList.contains b = le b.toNat := by
  have e1 : (b = 13) ↔ b.toNat = 13 := ⟨fun h => by rw [h]; rfl, fun h => UInt8.toNat_inj.1 h⟩
  have e2 : (b = 10) ↔ b.toNat = 10 := ⟨fun h => by rw [h]; rfl, fun h => UInt8.toNat_inj.1 h⟩
  rw [Bool.eq_iff_iff]
  simp [crlf, le, e1, e2]
  omega

theorem indexAny_lineE (s : ByteArray) : Lib.indexAny s.data.toList crlf.data.toList = if lineE s 0 < s.size then (lineE s 0 : Int) else -1 := by
  have hno : Lib.NoAny s.data.toList crlf.data.toList (lineE s 0) := fun j b hj hb => by
    rw [le_contains, ← (bt_list hb).1]
    exact first_before (p := fun j => le (bt s j)) (Nat.zero_le _) hj
  split
  · rename_i h
    have hx : s.data.toList[lineE s 0]? = some (s[lineE s 0]'h) := Lib.data_getElem? s _ h
    refine Lib.indexAny_hit hno hx ?_
    rw [le_contains, ← (bt_list hx).1]
    exact first_at (p := fun j => le (bt s j)) h
  · rename_i h
    refine Lib.indexAny_none ?_
    rw [← Lib.size_eq]
    have : lineE s 0 = s.size := by have := first_le (p := fun j => le (bt s j)) (Nat.zero_le s.size); unfold lineE at *; omega
    rwa [this] at hno

theorem lineE_le {s : ByteArray} {i : Nat} (h : i ≤ s.size) : lineE s i ≤ s.size := first_le h
theorem lineE_ge (s : ByteArray) (i : Nat) : i ≤ lineE s i := first_ge _ _ _
theorem skipS_le {s : ByteArray} {i : Nat} (h : i ≤ s.size) : skipS s i ≤ s.size := first_le h
theorem skipS_ge (s : ByteArray) (i : Nat) : i ≤ skipS s i := first_ge _ _ _

set_option maxHeartbeats 400000 in
theorem lineLength_any (s : ByteArray) (w : World) (hs : s.size < 4294967281) :
    Calls Try.prog 37 #[.string s] w fun e w' => e = .returned (.int .i64 (lineE s 0)) ∧ Below w.heap.size w w' := by
  have hle := lineE_le (s := s) (Nat.zero_le _)
  have hia : ∀ wx, Calls Try.prog 42 #[.string s, .string { data := #[13, 10] }] wx fun e w' => e = .returned (.int .i64 (if lineE s 0 < s.size then (lineE s 0 : Int) else -1)) ∧ Below wx.heap.size wx w' := fun wx => by
    rw [← indexAny_lineE]
    exact indexAny_any s crlf wx (by decide) hs (by decide) crlf_asc
  have HI := hide hia
  clear hia
  by_cases h : lineE s 0 < s.size
  · go_enter Try.func37, Try.ntmps37
    go_wp2_with (go_at_call 42; refine (unhide HI _).mono ?_; rintro e w' ⟨rfl, hb⟩; rw [if_pos h])
    go_ret
    exact ⟨rfl, hb⟩
  · go_enter Try.func37, Try.ntmps37
    go_wp2_with (go_at_call 42; refine (unhide HI _).mono ?_; rintro e w' ⟨rfl, hb⟩; rw [if_neg h])
    go_ret
    exact ⟨ret_int (by omega), hb⟩

theorem lineE_extract (s : ByteArray) (p : Nat) (h : p ≤ s.size) : (s.extract p s.size).size = s.size - p ∧ lineE (s.extract p s.size) 0 + p = lineE s p := by
  have hsz : (s.extract p s.size).size = s.size - p := size_extract s p s.size (Nat.le_refl _)
  have hle := lineE_le (s := s.extract p s.size) (Nat.zero_le _)
  refine ⟨hsz, ?_⟩
  have hb : ∀ j, j < s.size - p → bt (s.extract p s.size) j = bt s (p + j) := fun j hj => bt_extract s p s.size j (Nat.le_refl _) hj
  refine (first_uniq (p := fun j => le (bt s j)) (n := s.size) (i := p) (k := lineE (s.extract p s.size) 0 + p) (by omega) (by omega) (fun j h1 h2 => ?_) (fun h2 => ?_)).symm
  · have := first_before (p := fun j => le (bt (s.extract p s.size) j)) (n := (s.extract p s.size).size) (i := 0) (j := j - p) (by omega) (by unfold lineE at h2; omega)
    rw [hb _ (by omega), show p + (j - p) = j by omega] at this
    exact this
  · have := first_at (p := fun j => le (bt (s.extract p s.size) j)) (n := (s.extract p s.size).size) (i := 0) (by unfold lineE at h2; omega)
    have h3 := hb (lineE (s.extract p s.size) 0) (by omega)
    unfold lineE at h3
    rw [h3] at this
    unfold lineE
    rw [Nat.add_comm]
    exact this

theorem lineLength_at (s : ByteArray) (p : Nat) (w : World) (hs : s.size < 4294967281) (hp : p ≤ s.size) :
    Calls Try.prog 37 #[.string (s.extract p s.size)] w fun e w' => e = .returned (.int .i64 ((lineE s p : Int) - p)) ∧ Below w.heap.size w w' := by
  obtain ⟨h1, h2⟩ := lineE_extract s p hp
  refine (lineLength_any _ w (by omega)).mono fun e w' ⟨he, hb⟩ => ⟨?_, hb⟩
  rw [he]
  exact ret_int (by omega)

theorem hasPrefix_crlf (t : ByteArray) : Lib.hasPrefix t.data.toList crlf.data.toList = decide (bt t 0 = 13 ∧ bt t 1 = 10) := by
  have e1 : ∀ b : UInt8, (b = 13) ↔ b.toNat = 13 := fun b => ⟨fun h => by rw [h]; rfl, fun h => UInt8.toNat_inj.1 h⟩
  have e2 : ∀ b : UInt8, (b = 10) ↔ b.toNat = 10 := fun b => ⟨fun h => by rw [h]; rfl, fun h => UInt8.toNat_inj.1 h⟩
  have hsz := Lib.size_eq t
  unfold Lib.hasPrefix
  cases h : t.data.toList with
  | nil =>
    rw [h] at hsz
    rw [bt_out (i := 0) (by rw [hsz]; exact Nat.le_refl _)]
    simp [crlf]
  | cons a l =>
    have h0 : bt t 0 = a.toNat := (bt_list (by rw [h]; rfl)).1
    cases l with
    | nil =>
      rw [h] at hsz
      rw [bt_out (i := 1) (by rw [hsz]; exact Nat.le_refl _)]
      simp [crlf, List.isPrefixOf]
    | cons b l =>
      have h1 : bt t 1 = b.toNat := (bt_list (by rw [h]; rfl)).1
      rw [h0, h1, Bool.eq_iff_iff]
      simp only [crlf, List.isPrefixOf]
      simp
      rw [eq_comm (a := (13 : UInt8)), eq_comm (a := (10 : UInt8)), e1, e2]

theorem skipL_prefix (s : ByteArray) (i : Nat) (h : i ≤ s.size) : Lib.hasPrefix (s.extract i s.size).data.toList crlf.data.toList = decide (bt s i = 13 ∧ bt s (i + 1) = 10) := by
  rw [hasPrefix_crlf]
  have hsz : (s.extract i s.size).size = s.size - i := size_extract s i s.size (Nat.le_refl _)
  have hb : ∀ j, bt (s.extract i s.size) j = bt s (i + j) := fun j => by
    by_cases hj : j < s.size - i
    · exact bt_extract s i s.size j (Nat.le_refl _) hj
    · rw [bt_out (by omega), bt_out (by omega)]
  rw [hb, hb]
  rfl

set_option maxHeartbeats 400000 in
theorem skipLineEnd_any (s : ByteArray) (i : Nat) (w : World) (hs : s.size < 4294967281) (hi : i ≤ s.size) :
    Calls Try.prog 39 #[.string s, .int .i64 i] w fun e w' => e = .returned (.int .i64 (skipL s i)) ∧ w' = w := by
  have hia : ∀ wx, Calls Try.prog 43 #[.string (s.extract i s.size), .string { data := #[13, 10] }] wx fun e w' => e = .returned (.bool (decide (bt s i = 13 ∧ bt s (i + 1) = 10))) ∧ w' = wx := fun wx => by
    rw [← skipL_prefix s i hi]
    exact Try.strings_HasPrefix _ crlf wx
  have HI := hide hia
  clear hia
  by_cases h : bt s i = 13 ∧ bt s (i + 1) = 10
  · have HH := hide h
    have hd : decide (bt s i = 13 ∧ bt s (i + 1) = 10) = true := decide_eq_true h
    rw [hd] at HI
    have hlt : i + 1 < s.size := Nat.lt_of_not_le fun hn => by have := bt_out hn; omega
    clear h hd
    go_enter Try.func39, Try.ntmps39
    go_wp2_with (go_at_call 43; refine (unhide HI _).mono ?_; rintro e w' ⟨rfl, rfl⟩)
    go_ret
    exact ⟨ret_int (by rw [skipL_two (unhide HH).1 (unhide HH).2]; omega), rfl⟩
  · have HH := hide h
    have hd : decide (bt s i = 13 ∧ bt s (i + 1) = 10) = false := decide_eq_false h
    rw [hd] at HI
    clear h hd
    by_cases hlt : i < s.size
    · go_enter Try.func39, Try.ntmps39
      go_wp2_with (go_at_call 43; refine (unhide HI _).mono ?_; rintro e w' ⟨rfl, rfl⟩)
      go_ret
      exact ⟨ret_int (by rw [skipL_one hlt (unhide HH)]; omega), rfl⟩
    · go_enter Try.func39, Try.ntmps39
      go_wp2_with (go_at_call 43; refine (unhide HI _).mono ?_; rintro e w' ⟨rfl, rfl⟩)
      go_ret
      exact ⟨ret_int (by rw [skipL_out (by omega)]; omega), rfl⟩

/-- lastLine: the line that s starts with is the last one, by a line end of one byte or none -/
def lastL (s : ByteArray) (p : Nat) : Bool := lineE s p == s.size || lineE s p + 1 == s.size

set_option maxHeartbeats 400000 in
theorem lastLine_at (s : ByteArray) (p : Nat) (w : World) (hs : s.size < 4294967281) (hp : p < s.size) :
    Calls Try.prog 38 #[.string (s.extract p s.size)] w fun e w' => e = .returned (.bool (lastL s p)) ∧ Below w.heap.size w w' := by
  have hc := fun wx => lineLength_at s p wx hs (by omega)
  have HC := hide hc
  clear hc
  have hsz : (s.extract p s.size).size = s.size - p := size_extract s p s.size (Nat.le_refl _)
  have h1 := lineE_le (s := s) (i := p) (by omega)
  have h2 := lineE_ge s p
  by_cases ha : lineE s p = s.size
  · have HA := hide ha
    have e1 : (((lineE s p : Int) - (p : Int)) == ((s.size - p : Nat) : Int)) = true := by simp; omega
    clear ha
    go_enter Try.func38, Try.ntmps38
    go_wp2_with (go_at_call 37; refine (unhide HC _).mono ?_; rintro e w' ⟨rfl, hb⟩)
    go_ret
    exact ⟨ret_bool (by unfold lastL; rw [unhide HA]; simp), hb⟩
  · have e1 : (((lineE s p : Int) - (p : Int)) == ((s.size - p : Nat) : Int)) = false := by simp; omega
    go_enter Try.func38, Try.ntmps38
    go_wp2_with (go_at_call 37; refine (unhide HC _).mono ?_; rintro e w' ⟨rfl, hb⟩)
    go_ret
    exact ⟨ret_bool (by unfold lastL; rw [Bool.eq_iff_iff]; simp; omega), hb⟩
end Go.Proofs.Qxb6601608a
