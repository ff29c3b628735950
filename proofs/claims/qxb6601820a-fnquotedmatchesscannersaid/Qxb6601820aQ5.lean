import Derived.Test.Qxb6601820aQ3
namespace Go.Proofs.Qxb6601820a
open Go.RowKit

section
variable {b : Nat → Nat} {n g i e : Nat} {bs nl : Bool}
theorem am_out {st : Nat} (h : ¬ i < n) : am b n bs (g + 1) st nl e i = if st = 0 ∨ st = 1 then n else e := by unfold am; rw [if_neg h]
theorem am0_bsl (h : i < n) (h1 : b i = 92 ∧ bs = true) : am b n bs (g + 1) 0 nl e i = am b n bs g 1 nl e (i + 1) := by
  conv => lhs; unfold am
  rw [if_pos h, if_neg (by omega), if_pos rfl, if_pos h1]
theorem am0_q (h : i < n) (h1 : ¬ (b i = 92 ∧ bs = true)) (h2 : b i = 39) : am b n bs (g + 1) 0 nl e i = am b n bs g 2 nl (i + 1) (i + 1) := by
  conv => lhs; unfold am
  rw [if_pos h, if_neg (by omega), if_pos rfl, if_neg h1, if_pos h2]
theorem am0_t (h : i < n) (h1 : ¬ (b i = 92 ∧ bs = true)) (h2 : b i ≠ 39) : am b n bs (g + 1) 0 nl e i = am b n bs g 0 nl e (i + 1) := by
  conv => lhs; unfold am
  rw [if_pos h, if_neg (by omega), if_pos rfl, if_neg h1, if_neg h2]
theorem am1_s (h : i < n) : am b n bs (g + 1) 1 nl e i = am b n bs g 0 nl e (i + 1) := by
  conv => lhs; unfold am
  rw [if_pos h, if_neg (by omega), if_neg (by omega), if_pos rfl]
theorem am2_q (h : i < n) (h1 : b i = 39) : am b n bs (g + 1) 2 nl e i = am b n bs g 0 nl e (i + 1) := by
  conv => lhs; unfold am
  rw [if_pos h, if_pos ⟨rfl, h1⟩]
theorem am3_le (h : i < n) (h1 : le (b i) = true) : am b n bs (g + 1) 3 nl e i = am b n bs g 3 true e (i + 1) := by
  conv => lhs; unfold am
  rw [if_pos h, if_neg (by omega), if_neg (by omega), if_neg (by omega), if_pos (by omega), if_pos h1]
theorem am3_sp (h : i < n) (h1 : le (b i) = false) (h2 : sp4 (b i) = true) : am b n bs (g + 1) 3 nl e i = am b n bs g 3 nl e (i + 1) := by
  conv => lhs; unfold am
  rw [if_pos h, if_neg (by omega), if_neg (by omega), if_neg (by omega), if_pos (by omega), if_neg (by rw [h1]; exact Bool.false_ne_true), if_pos h2, if_neg (by omega)]
theorem am3_com (h : i < n) (h1 : le (b i) = false) (h2 : sp4 (b i) = false) (h3 : b i = 45 ∧ i + 1 < n ∧ b (i + 1) = 45) : am b n bs (g + 1) 3 nl e i = am b n bs g 4 nl e (i + 1) := by
  conv => lhs; unfold am
  rw [if_pos h, if_neg (by omega), if_neg (by omega), if_neg (by omega), if_pos (by omega), if_neg (by rw [h1]; exact Bool.false_ne_true), if_neg (by rw [h2]; exact Bool.false_ne_true), if_pos h3, if_neg (by omega)]
theorem am3_hit (h : i < n) (h1 : le (b i) = false) (h2 : sp4 (b i) = false) (h3 : ¬ (b i = 45 ∧ i + 1 < n ∧ b (i + 1) = 45)) (h4 : b i = 39 ∧ nl = true) : am b n bs (g + 1) 3 nl e i = am b n bs g 0 nl e (i + 1) := by
  conv => lhs; unfold am
  rw [if_pos h, if_neg (by omega), if_neg (by omega), if_neg (by omega), if_pos (by omega), if_neg (by rw [h1]; exact Bool.false_ne_true), if_neg (by rw [h2]; exact Bool.false_ne_true), if_neg h3, show (if (3 : Nat) = 2 then false else nl) = nl from if_neg (by omega), if_pos h4]
theorem am3_no (h : i < n) (h1 : le (b i) = false) (h2 : sp4 (b i) = false) (h3 : ¬ (b i = 45 ∧ i + 1 < n ∧ b (i + 1) = 45)) (h4 : ¬ (b i = 39 ∧ nl = true)) : am b n bs (g + 1) 3 nl e i = e := by
  conv => lhs; unfold am
  rw [if_pos h, if_neg (by omega), if_neg (by omega), if_neg (by omega), if_pos (by omega), if_neg (by rw [h1]; exact Bool.false_ne_true), if_neg (by rw [h2]; exact Bool.false_ne_true), if_neg h3, show (if (3 : Nat) = 2 then false else nl) = nl from if_neg (by omega), if_neg h4]
theorem am4_le (h : i < n) (h1 : le (b i) = true) : am b n bs (g + 1) 4 nl e i = am b n bs g 3 true e (i + 1) := by
  conv => lhs; unfold am
  rw [if_pos h, if_neg (by omega), if_neg (by omega), if_neg (by omega), if_neg (by omega), if_pos h1]
theorem am4_no (h : i < n) (h1 : le (b i) = false) : am b n bs (g + 1) 4 nl e i = am b n bs g 4 nl e (i + 1) := by
  conv => lhs; unfold am
  rw [if_pos h, if_neg (by omega), if_neg (by omega), if_neg (by omega), if_neg (by omega), if_neg (by rw [h1]; exact Bool.false_ne_true)]
end

theorem sp4_true {n : Nat} (h : sp4 n = true) : n = 32 ∨ n = 9 ∨ n = 12 ∨ n = 11 := by simp [sp4] at h; omega
theorem sp4_false {n : Nat} (h : sp4 n = false) : n ≠ 32 ∧ n ≠ 9 ∧ n ≠ 12 ∧ n ≠ 11 := by simp [sp4] at h; omega

/-- what the automaton gives, from the start of a text -/
def AM (s : ByteArray) (bs : Bool) (p : Nat) : Nat := am (bt s) s.size bs (s.size + 1) 0 false p p
theorem am_fin {s : ByteArray} {p g st i e q : Nat} {bs nl : Bool} (H : Hid (AM s bs p = am (bt s) s.size bs g st nl e i)) (h : am (bt s) s.size bs g st nl e i = q) : Ending.returned (.int .i64 (q : Nat)) = .returned (.int .i64 (AM s bs p)) := by
  rw [H.out, h]

set_option maxRecDepth 100000 in
set_option maxHeartbeats 8000000 in
theorem scanner_any (s : ByteArray) (p : Nat) (bs : Bool) (w : World) (hs : s.size < 4294967281) (hp : p ≤ s.size) :
    Calls Try.prog 13 #[.string s, .int .i64 p, .bool bs] w fun e w' => e = .returned (.int .i64 (AM s bs p)) ∧ w' = w := by
  go_enter Try.func13, Try.ntmps13
  go_wp2
  go_loopg [7, 8, 9, 10, 11, 12] (s.size + 1) (fun g t7 t8 t9 t10 _ _ wx => w = wx ∧ ∃ (st i e : Nat) (nl : Bool), st < 5 ∧ i ≤ s.size ∧ s.size < i + g ∧ e ≤ s.size ∧ t7 = .int .i64 st ∧ t8 = .bool nl ∧ t9 = .int .i64 e ∧ t10 = .int .i64 i ∧ AM s bs p = am (bt s) s.size bs g st nl e i)
  case atStart => exact ⟨rfl, 0, p, p, false, by omega, hp, by omega, hp, rfl, rfl, rfl, rfl, rfl⟩
  case round =>
    obtain ⟨rfl, st, i, e, nl, hst, hi, hig, he, rfl, rfl, rfl, rfl, ham⟩ := hrel
    have HN := hide ham
    clear ham
    obtain ⟨g, rfl⟩ : ∃ g, gk = g + 1 := ⟨gk - 1, by omega⟩
    by_cases hlt : i < s.size
    · have hb : (s[i]'hlt).toNat = bt s i := (bt_in hlt).symm
      have hi1 : ((i : Int) + 1) = ((i + 1 : Nat) : Int) := by omega
      have Hi1 := hide hi1
      clear hi1
      have hlt2 : (i : Int) < (s.size : Int) := by omega
      obtain rfl | rfl | rfl | rfl | rfl : st = 0 ∨ st = 1 ∨ st = 2 ∨ st = 3 ∨ st = 4 := by omega
      · by_cases h92 : bt s i = 92
        · have m92 : (((bt s i : Nat) : Int) == 92) = true := by simp; omega
          have m39 : (((bt s i : Nat) : Int) == 39) = false := by simp; omega
          have H92 := hide h92
          clear h92
          cases bs
          · skip
            go_wp2
            go_roundg g
            case measure => omega
            case rel => exact ⟨rfl, 0, i + 1, e, nl, by omega, by omega, by omega, by omega, rfl, rfl, by first | rfl | go_num, by go_num, by rw [HN.out, am0_t hlt (fun x => by cases x.2) (by have := H92.out; omega)]⟩
          · skip
            go_wp2
            go_roundg g
            case measure => omega
            case rel => exact ⟨rfl, 1, i + 1, e, nl, by omega, by omega, by omega, by omega, rfl, rfl, by first | rfl | go_num, by go_num, by rw [HN.out, am0_bsl hlt ⟨H92.out, rfl⟩]⟩
        · have m92 : (((bt s i : Nat) : Int) == 92) = false := by simp; omega
          by_cases h39 : bt s i = 39
          · have m39 : (((bt s i : Nat) : Int) == 39) = true := by simp; omega
            have H39 := hide h39
            have H92 := hide h92
            clear h39 h92
            go_wp2
            go_roundg g
            case measure => omega
            case rel => exact ⟨rfl, 2, i + 1, (i + 1), nl, by omega, by omega, by omega, by omega, rfl, rfl, by first | rfl | go_num, by go_num, by rw [HN.out, am0_q hlt (fun x => H92.out x.1) H39.out]⟩
          · have m39 : (((bt s i : Nat) : Int) == 39) = false := by simp; omega
            go_wp2
            go_roundg g
            case measure => omega
            case rel => exact ⟨rfl, 0, i + 1, e, nl, by omega, by omega, by omega, by omega, rfl, rfl, by first | rfl | go_num, by go_num, by rw [HN.out, am0_t hlt (fun x => h92 x.1) h39]⟩
      · skip
        go_wp2
        go_roundg g
        case measure => omega
        case rel => exact ⟨rfl, 0, i + 1, e, nl, by omega, by omega, by omega, by omega, rfl, rfl, by first | rfl | go_num, by go_num, by rw [HN.out, am1_s hlt]⟩
      · by_cases h39 : bt s i = 39
        · have m39 : (((bt s i : Nat) : Int) == 39) = true := by simp; omega
          have H39 := hide h39
          clear h39
          go_wp2
          go_roundg g
          case measure => omega
          case rel => exact ⟨rfl, 0, i + 1, e, nl, by omega, by omega, by omega, by omega, rfl, rfl, by first | rfl | go_num, by go_num, by rw [HN.out, am2_q hlt H39.out]⟩
        · have m39 : (((bt s i : Nat) : Int) == 39) = false := by simp; omega
          have H39 := hide h39
          clear h39
          cases hle : le (bt s i)
          · have HLE := hide hle
            have hn := le_false hle
            clear hle
            have n10 : (((bt s i : Nat) : Int) == 10) = false := by simp; omega
            have n13 : (((bt s i : Nat) : Int) == 13) = false := by simp; omega
            clear hn
            cases hsp : sp4 (bt s i)
            · have HSP := hide hsp
              have hm : bt s i ≠ 32 ∧ bt s i ≠ 9 ∧ bt s i ≠ 12 ∧ bt s i ≠ 11 := sp4_false hsp
              clear hsp
              have m32 : (((bt s i : Nat) : Int) == 32) = false := by simp; omega
              have m9 : (((bt s i : Nat) : Int) == 9) = false := by simp; omega
              have m12 : (((bt s i : Nat) : Int) == 12) = false := by simp; omega
              have m11 : (((bt s i : Nat) : Int) == 11) = false := by simp; omega
              clear hm
              by_cases h45 : bt s i = 45
              · have m45 : (((bt s i : Nat) : Int) == 45) = true := by simp; omega
                have m39 : (((bt s i : Nat) : Int) == 39) = false := by simp; omega
                have H45 := hide h45
                clear h45
                by_cases hl1 : i + 1 < s.size
                · have hl2 : (i : Int) + 1 < (s.size : Int) := by omega
                  have hb1 : (s[i + 1]'hl1).toNat = bt s (i + 1) := (bt_in hl1).symm
                  by_cases h2 : bt s (i + 1) = 45
                  · have q45 : (((bt s (i + 1) : Nat) : Int) == 45) = true := by simp; omega
                    have H2 := hide h2
                    clear h2
                    go_wp2
                    go_roundg g
                    case measure => omega
                    case rel => exact ⟨rfl, 4, i + 1, e, false, by omega, by omega, by omega, by omega, rfl, rfl, by first | rfl | go_num, by go_num, by rw [HN.out, am_after _ _ _ _ _ _ _ H39.out, am3_com hlt HLE.out HSP.out ⟨H45.out, hl1, H2.out⟩]⟩
                  · have q45 : (((bt s (i + 1) : Nat) : Int) == 45) = false := by simp; omega
                    go_wp2
                    go_ret
                    exact ⟨am_fin HN ((am_after _ _ _ _ _ _ _ H39.out).trans (am3_no hlt HLE.out HSP.out (fun x => h2 x.2.2) (fun x => by have := H45.out; omega))), rfl⟩
                · have hl2 : ¬ (i : Int) + 1 < (s.size : Int) := by omega
                  go_wp2
                  go_ret
                  exact ⟨am_fin HN ((am_after _ _ _ _ _ _ _ H39.out).trans (am3_no hlt HLE.out HSP.out (fun x => hl1 x.2.1) (fun x => by have := H45.out; omega))), rfl⟩
              · have m45 : (((bt s i : Nat) : Int) == 45) = false := by simp; omega
                have H45 := hide h45
                clear h45
                have m39 : (((bt s i : Nat) : Int) == 39) = false := by have := H39.out; simp; omega
                go_wp2
                go_ret
                exact ⟨am_fin HN ((am_after _ _ _ _ _ _ _ H39.out).trans (am3_no hlt HLE.out HSP.out (fun x => H45.out x.1) (fun x => H39.out x.1))), rfl⟩
            · have HSP := hide hsp
              have hm := sp4_true hsp
              clear hsp
              rcases hm with hm | hm | hm | hm
              · have m32 : (((bt s i : Nat) : Int) == 32) = true := by simp; omega
                clear hm
                go_wp2
                go_roundg g
                case measure => omega
                case rel => exact ⟨rfl, 3, i + 1, e, false, by omega, by omega, by omega, by omega, rfl, rfl, by first | rfl | go_num, by go_num, by rw [HN.out, am_after _ _ _ _ _ _ _ H39.out, am3_sp hlt HLE.out HSP.out]⟩
              · have m9 : (((bt s i : Nat) : Int) == 9) = true := by simp; omega
                have m32 : (((bt s i : Nat) : Int) == 32) = false := by simp; omega
                clear hm
                go_wp2
                go_roundg g
                case measure => omega
                case rel => exact ⟨rfl, 3, i + 1, e, false, by omega, by omega, by omega, by omega, rfl, rfl, by first | rfl | go_num, by go_num, by rw [HN.out, am_after _ _ _ _ _ _ _ H39.out, am3_sp hlt HLE.out HSP.out]⟩
              · have m12 : (((bt s i : Nat) : Int) == 12) = true := by simp; omega
                have m32 : (((bt s i : Nat) : Int) == 32) = false := by simp; omega
                have m9 : (((bt s i : Nat) : Int) == 9) = false := by simp; omega
                clear hm
                go_wp2
                go_roundg g
                case measure => omega
                case rel => exact ⟨rfl, 3, i + 1, e, false, by omega, by omega, by omega, by omega, rfl, rfl, by first | rfl | go_num, by go_num, by rw [HN.out, am_after _ _ _ _ _ _ _ H39.out, am3_sp hlt HLE.out HSP.out]⟩
              · have m11 : (((bt s i : Nat) : Int) == 11) = true := by simp; omega
                have m32 : (((bt s i : Nat) : Int) == 32) = false := by simp; omega
                have m9 : (((bt s i : Nat) : Int) == 9) = false := by simp; omega
                have m12 : (((bt s i : Nat) : Int) == 12) = false := by simp; omega
                clear hm
                go_wp2
                go_roundg g
                case measure => omega
                case rel => exact ⟨rfl, 3, i + 1, e, false, by omega, by omega, by omega, by omega, rfl, rfl, by first | rfl | go_num, by go_num, by rw [HN.out, am_after _ _ _ _ _ _ _ H39.out, am3_sp hlt HLE.out HSP.out]⟩
          · have HLE := hide hle
            by_cases h10 : bt s i = 10
            · have n10 : (((bt s i : Nat) : Int) == 10) = true := by simp; omega
              clear h10 hle
              have m32 : (((bt s i : Nat) : Int) == 32) = false := by have := le_true HLE.out; simp; omega
              have m9 : (((bt s i : Nat) : Int) == 9) = false := by have := le_true HLE.out; simp; omega
              have m12 : (((bt s i : Nat) : Int) == 12) = false := by have := le_true HLE.out; simp; omega
              have m11 : (((bt s i : Nat) : Int) == 11) = false := by have := le_true HLE.out; simp; omega
              go_wp2
              go_roundg g
              case measure => omega
              case rel => exact ⟨rfl, 3, i + 1, e, true, by omega, by omega, by omega, by omega, rfl, rfl, by first | rfl | go_num, by go_num, by rw [HN.out, am_after _ _ _ _ _ _ _ H39.out, am3_le hlt HLE.out]⟩
            · have n10 : (((bt s i : Nat) : Int) == 10) = false := by simp; omega
              have n13 : (((bt s i : Nat) : Int) == 13) = true := by have := le_true hle; simp; omega
              clear h10 hle
              have m32 : (((bt s i : Nat) : Int) == 32) = false := by have := le_true HLE.out; simp; omega
              have m9 : (((bt s i : Nat) : Int) == 9) = false := by have := le_true HLE.out; simp; omega
              have m12 : (((bt s i : Nat) : Int) == 12) = false := by have := le_true HLE.out; simp; omega
              have m11 : (((bt s i : Nat) : Int) == 11) = false := by have := le_true HLE.out; simp; omega
              go_wp2
              go_roundg g
              case measure => omega
              case rel => exact ⟨rfl, 3, i + 1, e, true, by omega, by omega, by omega, by omega, rfl, rfl, by first | rfl | go_num, by go_num, by rw [HN.out, am_after _ _ _ _ _ _ _ H39.out, am3_le hlt HLE.out]⟩
      · skip
        cases hle : le (bt s i)
        · have HLE := hide hle
          have hn := le_false hle
          clear hle
          have n10 : (((bt s i : Nat) : Int) == 10) = false := by simp; omega
          have n13 : (((bt s i : Nat) : Int) == 13) = false := by simp; omega
          clear hn
          cases hsp : sp4 (bt s i)
          · have HSP := hide hsp
            have hm : bt s i ≠ 32 ∧ bt s i ≠ 9 ∧ bt s i ≠ 12 ∧ bt s i ≠ 11 := sp4_false hsp
            clear hsp
            have m32 : (((bt s i : Nat) : Int) == 32) = false := by simp; omega
            have m9 : (((bt s i : Nat) : Int) == 9) = false := by simp; omega
            have m12 : (((bt s i : Nat) : Int) == 12) = false := by simp; omega
            have m11 : (((bt s i : Nat) : Int) == 11) = false := by simp; omega
            clear hm
            by_cases h45 : bt s i = 45
            · have m45 : (((bt s i : Nat) : Int) == 45) = true := by simp; omega
              have m39 : (((bt s i : Nat) : Int) == 39) = false := by simp; omega
              have H45 := hide h45
              clear h45
              by_cases hl1 : i + 1 < s.size
              · have hl2 : (i : Int) + 1 < (s.size : Int) := by omega
                have hb1 : (s[i + 1]'hl1).toNat = bt s (i + 1) := (bt_in hl1).symm
                by_cases h2 : bt s (i + 1) = 45
                · have q45 : (((bt s (i + 1) : Nat) : Int) == 45) = true := by simp; omega
                  have H2 := hide h2
                  clear h2
                  go_wp2
                  go_roundg g
                  case measure => omega
                  case rel => exact ⟨rfl, 4, i + 1, e, nl, by omega, by omega, by omega, by omega, rfl, rfl, by first | rfl | go_num, by go_num, by rw [HN.out, am3_com hlt HLE.out HSP.out ⟨H45.out, hl1, H2.out⟩]⟩
                · have q45 : (((bt s (i + 1) : Nat) : Int) == 45) = false := by simp; omega
                  go_wp2
                  go_ret
                  exact ⟨am_fin HN (am3_no hlt HLE.out HSP.out (fun x => h2 x.2.2) (fun x => by have := H45.out; omega)), rfl⟩
              · have hl2 : ¬ (i : Int) + 1 < (s.size : Int) := by omega
                go_wp2
                go_ret
                exact ⟨am_fin HN (am3_no hlt HLE.out HSP.out (fun x => hl1 x.2.1) (fun x => by have := H45.out; omega)), rfl⟩
            · have m45 : (((bt s i : Nat) : Int) == 45) = false := by simp; omega
              have H45 := hide h45
              clear h45
              by_cases h39 : bt s i = 39
              · have m39 : (((bt s i : Nat) : Int) == 39) = true := by simp; omega
                have H39 := hide h39
                clear h39
                cases nl
                · skip
                  go_wp2
                  go_ret
                  exact ⟨am_fin HN (am3_no hlt HLE.out HSP.out (fun x => H45.out x.1) (fun x => by cases x.2)), rfl⟩
                · skip
                  go_wp2
                  go_roundg g
                  case measure => omega
                  case rel => exact ⟨rfl, 0, i + 1, e, true, by omega, by omega, by omega, by omega, rfl, rfl, by first | rfl | go_num, by go_num, by rw [HN.out, am3_hit hlt HLE.out HSP.out (fun x => H45.out x.1) ⟨H39.out, rfl⟩]⟩
              · have m39 : (((bt s i : Nat) : Int) == 39) = false := by simp; omega
                go_wp2
                go_ret
                exact ⟨am_fin HN (am3_no hlt HLE.out HSP.out (fun x => H45.out x.1) (fun x => h39 x.1)), rfl⟩
          · have HSP := hide hsp
            have hm := sp4_true hsp
            clear hsp
            rcases hm with hm | hm | hm | hm
            · have m32 : (((bt s i : Nat) : Int) == 32) = true := by simp; omega
              clear hm
              go_wp2
              go_roundg g
              case measure => omega
              case rel => exact ⟨rfl, 3, i + 1, e, nl, by omega, by omega, by omega, by omega, rfl, rfl, by first | rfl | go_num, by go_num, by rw [HN.out, am3_sp hlt HLE.out HSP.out]⟩
            · have m9 : (((bt s i : Nat) : Int) == 9) = true := by simp; omega
              have m32 : (((bt s i : Nat) : Int) == 32) = false := by simp; omega
              clear hm
              go_wp2
              go_roundg g
              case measure => omega
              case rel => exact ⟨rfl, 3, i + 1, e, nl, by omega, by omega, by omega, by omega, rfl, rfl, by first | rfl | go_num, by go_num, by rw [HN.out, am3_sp hlt HLE.out HSP.out]⟩
            · have m12 : (((bt s i : Nat) : Int) == 12) = true := by simp; omega
              have m32 : (((bt s i : Nat) : Int) == 32) = false := by simp; omega
              have m9 : (((bt s i : Nat) : Int) == 9) = false := by simp; omega
              clear hm
              go_wp2
              go_roundg g
              case measure => omega
              case rel => exact ⟨rfl, 3, i + 1, e, nl, by omega, by omega, by omega, by omega, rfl, rfl, by first | rfl | go_num, by go_num, by rw [HN.out, am3_sp hlt HLE.out HSP.out]⟩
            · have m11 : (((bt s i : Nat) : Int) == 11) = true := by simp; omega
              have m32 : (((bt s i : Nat) : Int) == 32) = false := by simp; omega
              have m9 : (((bt s i : Nat) : Int) == 9) = false := by simp; omega
              have m12 : (((bt s i : Nat) : Int) == 12) = false := by simp; omega
              clear hm
              go_wp2
              go_roundg g
              case measure => omega
              case rel => exact ⟨rfl, 3, i + 1, e, nl, by omega, by omega, by omega, by omega, rfl, rfl, by first | rfl | go_num, by go_num, by rw [HN.out, am3_sp hlt HLE.out HSP.out]⟩
        · have HLE := hide hle
          by_cases h10 : bt s i = 10
          · have n10 : (((bt s i : Nat) : Int) == 10) = true := by simp; omega
            clear h10 hle
            have m32 : (((bt s i : Nat) : Int) == 32) = false := by have := le_true HLE.out; simp; omega
            have m9 : (((bt s i : Nat) : Int) == 9) = false := by have := le_true HLE.out; simp; omega
            have m12 : (((bt s i : Nat) : Int) == 12) = false := by have := le_true HLE.out; simp; omega
            have m11 : (((bt s i : Nat) : Int) == 11) = false := by have := le_true HLE.out; simp; omega
            go_wp2
            go_roundg g
            case measure => omega
            case rel => exact ⟨rfl, 3, i + 1, e, true, by omega, by omega, by omega, by omega, rfl, rfl, by first | rfl | go_num, by go_num, by rw [HN.out, am3_le hlt HLE.out]⟩
          · have n10 : (((bt s i : Nat) : Int) == 10) = false := by simp; omega
            have n13 : (((bt s i : Nat) : Int) == 13) = true := by have := le_true hle; simp; omega
            clear h10 hle
            have m32 : (((bt s i : Nat) : Int) == 32) = false := by have := le_true HLE.out; simp; omega
            have m9 : (((bt s i : Nat) : Int) == 9) = false := by have := le_true HLE.out; simp; omega
            have m12 : (((bt s i : Nat) : Int) == 12) = false := by have := le_true HLE.out; simp; omega
            have m11 : (((bt s i : Nat) : Int) == 11) = false := by have := le_true HLE.out; simp; omega
            go_wp2
            go_roundg g
            case measure => omega
            case rel => exact ⟨rfl, 3, i + 1, e, true, by omega, by omega, by omega, by omega, rfl, rfl, by first | rfl | go_num, by go_num, by rw [HN.out, am3_le hlt HLE.out]⟩
      · cases hle : le (bt s i)
        · have HLE := hide hle
          have hn := le_false hle
          clear hle
          have n10 : (((bt s i : Nat) : Int) == 10) = false := by simp; omega
          have n13 : (((bt s i : Nat) : Int) == 13) = false := by simp; omega
          clear hn
          go_wp2
          go_roundg g
          case measure => omega
          case rel => exact ⟨rfl, 4, i + 1, e, nl, by omega, by omega, by omega, by omega, rfl, rfl, by first | rfl | go_num, by go_num, by rw [HN.out, am4_no hlt HLE.out]⟩
        · have HLE := hide hle
          by_cases h10 : bt s i = 10
          · have n10 : (((bt s i : Nat) : Int) == 10) = true := by simp; omega
            clear h10 hle
            go_wp2
            go_roundg g
            case measure => omega
            case rel => exact ⟨rfl, 3, i + 1, e, true, by omega, by omega, by omega, by omega, rfl, rfl, by first | rfl | go_num, by go_num, by rw [HN.out, am4_le hlt HLE.out]⟩
          · have n10 : (((bt s i : Nat) : Int) == 10) = false := by simp; omega
            have n13 : (((bt s i : Nat) : Int) == 13) = true := by have := le_true hle; simp; omega
            clear h10 hle
            go_wp2
            go_roundg g
            case measure => omega
            case rel => exact ⟨rfl, 3, i + 1, e, true, by omega, by omega, by omega, by omega, rfl, rfl, by first | rfl | go_num, by go_num, by rw [HN.out, am4_le hlt HLE.out]⟩
    · have hlt2 : ¬ (i : Int) < (s.size : Int) := by omega
      obtain rfl | rfl | rfl | rfl | rfl : st = 0 ∨ st = 1 ∨ st = 2 ∨ st = 3 ∨ st = 4 := by omega
      · skip
        go_wp2
        go_ret
        exact ⟨am_fin HN ((am_out hlt).trans (if_pos (by omega))), rfl⟩
      · skip
        go_wp2
        go_ret
        exact ⟨am_fin HN ((am_out hlt).trans (if_pos (by omega))), rfl⟩
      · skip
        go_wp2
        go_ret
        exact ⟨am_fin HN ((am_out hlt).trans (if_neg (by omega))), rfl⟩
      · skip
        go_wp2
        go_ret
        exact ⟨am_fin HN ((am_out hlt).trans (if_neg (by omega))), rfl⟩
      · skip
        go_wp2
        go_ret
        exact ⟨am_fin HN ((am_out hlt).trans (if_neg (by omega))), rfl⟩

end Go.Proofs.Qxb6601820a
