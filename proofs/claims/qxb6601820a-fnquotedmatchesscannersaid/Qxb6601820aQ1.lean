import Derived.Test.Qxb6601820aIdx
import Derived.Test.Qxb6601820aQ0
namespace Go.Proofs.Qxb6601820a
open Go.RowKit

theorem hide {p : Prop} (h : p) : Hid p := h
theorem ret_int {k : IntKind} {a b : Int} (h : a = b) : Ending.returned (.int k a) = .returned (.int k b) := by rw [h]
theorem ret_bool {a b : Bool} (h : a = b) : Ending.returned (.bool a) = .returned (.bool b) := by rw [h]

theorem indexAny_any (s c : ByteArray) (w : World) (h2 : 2 ≤ c.size) (hs : s.size < 4294967281) (hcs : c.size < 4294967281) (hc : Asc c) :
    Calls Try.prog 25 #[.string s, .string c] w fun e w' => e = .returned (.int .i64 (Lib.indexAny s.data.toList c.data.toList)) ∧ Below w.heap.size w w' := by
  by_cases h8 : s.size ≤ 8
  · exact indexAny_short s c w h2 h8 hc (by unfold maxLen; omega)
  · refine (Try.strings_IndexAny_long (zero_of_info (n := 256) (by kernel_rfl)).1 s c w h2 (by omega) hs hcs (fun j b hb => hc b (List.mem_of_getElem? hb))).mono fun e w' ⟨h1, h3⟩ => ⟨h1, ?_⟩
    rw [h3]
    exact ((Below.refl _ _).alloc (Nat.le_refl _) _).alloc (by simp) _

def lfcr : ByteArray := { data := #[10, 13] }
theorem lfcr_asc : Asc lfcr := by
  intro b hb
  simp [lfcr] at hb
  rcases hb with rfl | rfl <;> decide

theorem bt_list {s : ByteArray} {j : Nat} {b : UInt8} (h : s.data.toList[j]? = some b) : bt s j = b.toNat ∧ j < s.size := by
  have hj : j < s.size := by
    have := (List.getElem?_eq_some_iff.1 h).1
    simpa using this
  rw [Lib.data_getElem? s j hj] at h
  rw [bt_in hj]
  exact ⟨by rw [Option.some.inj h], hj⟩

theorem u8_eq (b : UInt8) (n : Nat) (h : n < 256) : (b = UInt8.ofNat n) ↔ b.toNat = n := by
  rw [← UInt8.toNat_inj]; simp; omega

theorem le_contains (b : UInt8) : lfcr.data.toList.contains b = le b.toNat := by
  have e1 := u8_eq b 13 (by omega)
  have e2 := u8_eq b 10 (by omega)
  rw [Bool.eq_iff_iff]
  simp at e1 e2
  simp [lfcr, le, e1, e2]

theorem indexAny_lineE (s : ByteArray) : Lib.indexAny s.data.toList lfcr.data.toList = if lineE s 0 < s.size then (lineE s 0 : Int) else -1 := by
  have hno : Lib.NoAny s.data.toList lfcr.data.toList (lineE s 0) := fun j b hj hb => by
    rw [le_contains, ← (bt_list hb).1]
    exact first_before (p := fun j => le (bt s j)) (Nat.zero_le _) hj
  split
  · rename_i h
    have hx : s.data.toList[lineE s 0]? = some (s[lineE s 0]'h) := Lib.data_getElem? s _ h
    refine Lib.indexAny_hit hno hx ?_
    rw [le_contains, ← (bt_list hx).1]
    exact first_at (p := fun j => le (bt s j)) h
  · rename_i h
    refine Lib.indexAny_none ?_
    rw [← Lib.size_eq]
    have : lineE s 0 = s.size := by have := first_le (p := fun j => le (bt s j)) (Nat.zero_le s.size); unfold lineE at *; omega
    rwa [this] at hno

theorem lineE_le {s : ByteArray} {i : Nat} (h : i ≤ s.size) : lineE s i ≤ s.size := first_le h
theorem lineE_ge (s : ByteArray) (i : Nat) : i ≤ lineE s i := first_ge _ _ _
theorem lineE_lnE (s : ByteArray) (i : Nat) : lineE s i = lnE (bt s) s.size i := rfl

set_option maxHeartbeats 400000 in
theorem lineLen_any (s : ByteArray) (w : World) (hs : s.size < 4294967281) :
    Calls Try.prog 23 #[.string s] w fun e w' => e = .returned (.int .i64 (lineE s 0)) ∧ Below w.heap.size w w' := by
  have hle := lineE_le (s := s) (Nat.zero_le _)
  have hia : ∀ wx, Calls Try.prog 25 #[.string s, .string { data := #[10, 13] }] wx fun e w' => e = .returned (.int .i64 (if lineE s 0 < s.size then (lineE s 0 : Int) else -1)) ∧ Below wx.heap.size wx w' := fun wx => by
    rw [← indexAny_lineE]
    exact indexAny_any s lfcr wx (by decide) hs (by decide) lfcr_asc
  have HI := hide hia
  clear hia
  by_cases h : lineE s 0 < s.size
  · go_enter Try.func23, Try.ntmps23
    go_wp2_with (go_at_call 25; refine (HI.out _).mono ?_; rintro e w' ⟨rfl, hb⟩; rw [if_pos h])
    go_ret
    exact ⟨rfl, hb⟩
  · go_enter Try.func23, Try.ntmps23
    go_wp2_with (go_at_call 25; refine (HI.out _).mono ?_; rintro e w' ⟨rfl, hb⟩; rw [if_neg h])
    go_ret
    exact ⟨ret_int (by omega), hb⟩

theorem bt_shift (s : ByteArray) (p : Nat) (h : p ≤ s.size) : bt (s.extract p s.size) = fun j => bt s (p + j) := by
  funext j
  have hsz : (s.extract p s.size).size = s.size - p := size_extract s p s.size (Nat.le_refl _)
  by_cases hj : j < s.size - p
  · exact bt_extract s p s.size j (Nat.le_refl _) hj
  · rw [bt_out (by omega), bt_out (by omega)]

theorem lineE_extract (s : ByteArray) (p : Nat) (h : p ≤ s.size) : lineE (s.extract p s.size) 0 + p = lineE s p := by
  have hsz : (s.extract p s.size).size = s.size - p := size_extract s p s.size (Nat.le_refl _)
  have hle := lineE_le (s := s.extract p s.size) (Nat.zero_le _)
  have hb : ∀ j, j < s.size - p → bt (s.extract p s.size) j = bt s (p + j) := fun j hj => bt_extract s p s.size j (Nat.le_refl _) hj
  refine (first_uniq (p := fun j => le (bt s j)) (n := s.size) (i := p) (k := lineE (s.extract p s.size) 0 + p) (by omega) (by omega) (fun j h1 h2 => ?_) (fun h2 => ?_)).symm
  · have := first_before (p := fun j => le (bt (s.extract p s.size) j)) (n := (s.extract p s.size).size) (i := 0) (j := j - p) (by omega) (by unfold lineE at h2; omega)
    rw [hb _ (by omega), show p + (j - p) = j by omega] at this
    exact this
  · have := first_at (p := fun j => le (bt (s.extract p s.size) j)) (n := (s.extract p s.size).size) (i := 0) (by unfold lineE at h2; omega)
    have h3 := hb (lineE (s.extract p s.size) 0) (by omega)
    unfold lineE at h3
    rw [h3] at this
    unfold lineE
    rw [Nat.add_comm]
    exact this

theorem lineLen_at (s : ByteArray) (p : Nat) (w : World) (hs : s.size < 4294967281) (hp : p ≤ s.size) :
    Calls Try.prog 23 #[.string (s.extract p s.size)] w fun e w' => e = .returned (.int .i64 ((lineE s p : Int) - p)) ∧ Below w.heap.size w w' := by
  have h1 : (s.extract p s.size).size = s.size - p := size_extract s p s.size (Nat.le_refl _)
  have h2 := lineE_extract s p hp
  refine (lineLen_any _ w (by omega)).mono fun e w' ⟨he, hb⟩ => ⟨?_, hb⟩
  rw [he]
  exact ret_int (by omega)

/-- a prefix of two bytes -/
theorem hasPrefix_two (t : ByteArray) (x y : UInt8) : Lib.hasPrefix t.data.toList [x, y] = decide (bt t 0 = x.toNat ∧ bt t 1 = y.toNat) := by
  have hsz := Lib.size_eq t
  have hx := x.toNat_lt
  have hy := y.toNat_lt
  unfold Lib.hasPrefix
  cases h : t.data.toList with
  | nil =>
    rw [h] at hsz
    rw [bt_out (i := 0) (by rw [hsz]; exact Nat.le_refl _)]
    simp [List.isPrefixOf]
    omega
  | cons a l =>
    have h0 : bt t 0 = a.toNat := (bt_list (by rw [h]; rfl)).1
    cases l with
    | nil =>
      rw [h] at hsz
      rw [bt_out (i := 1) (by rw [hsz]; exact Nat.le_refl _)]
      simp [List.isPrefixOf]
      omega
    | cons b l =>
      have h1 : bt t 1 = b.toNat := (bt_list (by rw [h]; rfl)).1
      rw [h0, h1, Bool.eq_iff_iff]
      simp [List.isPrefixOf, ← UInt8.toNat_inj]
      omega

theorem prefix_at (s : ByteArray) (p : Nat) (w : World) (x y : UInt8) (hp : p ≤ s.size) :
    Calls Try.prog 19 #[.string (s.extract p s.size), .string { data := #[x, y] }] w fun e w' => e = .returned (.bool (decide (bt s p = x.toNat ∧ bt s (p + 1) = y.toNat))) ∧ w' = w := by
  refine (Try.strings_HasPrefix _ _ w).mono fun e w' ⟨he, hw⟩ => ⟨?_, hw⟩
  rw [he]
  refine ret_bool ?_
  show Lib.hasPrefix _ [x, y] = _
  rw [hasPrefix_two, bt_shift s p hp]
  rfl

def sp6 (n : Nat) : Bool := le n || sp4 n
def spaces : ByteArray := { data := #[32, 9, 10, 13, 12, 11] }

theorem ib_iff (l : List UInt8) (c : UInt8) : decide (0 ≤ Lib.indexByte l c) = l.contains c := (Lib.contains_iff_indexByte l c).symm

theorem spaces_contains (c : UInt8) : spaces.data.toList.contains c = sp6 c.toNat := by
  have e1 := u8_eq c 32 (by omega)
  have e2 := u8_eq c 9 (by omega)
  have e3 := u8_eq c 10 (by omega)
  have e4 := u8_eq c 13 (by omega)
  have e5 := u8_eq c 12 (by omega)
  have e6 := u8_eq c 11 (by omega)
  rw [Bool.eq_iff_iff]
  simp at e1 e2 e3 e4 e5 e6
  simp [spaces, sp6, sp4, le, e1, e2, e3, e4, e5, e6]
  omega

set_option maxHeartbeats 400000 in
theorem isSpace_any (n : Nat) (w : World) (hn : n < 256) :
    Calls Try.prog 22 #[.int .u8 n] w fun e w' => e = .returned (.bool (sp6 n)) ∧ w' = w := by
  have hc : ∀ wx, Calls Try.prog 24 #[.string { data := #[32, 9, 10, 13, 12, 11] }, .int .u8 n] wx fun e w' => e = .returned (.int .i64 (Lib.indexByte spaces.data.toList (UInt8.ofNat n))) ∧ w' = wx := fun wx => by
    refine (Try.strings_IndexByte _ _ _).mono fun e w' ⟨he, hw⟩ => ⟨?_, hw⟩
    rw [he]
    simp [spaces]
  have HC := hide hc
  clear hc
  have hd : decide (0 ≤ Lib.indexByte spaces.data.toList (UInt8.ofNat n)) = sp6 n := by
    rw [ib_iff, spaces_contains]
    congr 1
    simp; omega
  generalize Lib.indexByte spaces.data.toList (UInt8.ofNat n) = r at HC hd
  go_enter Try.func22, Try.ntmps22
  go_wp2_with (go_at_call 24; refine (HC.out _).mono ?_; rintro e w' ⟨rfl, hw⟩; obtain rfl := hw.symm)
  go_ret
  exact ⟨rfl, rfl⟩

end Go.Proofs.Qxb6601820a
