import Derived.Test.Qxb6602222aS1
import Derived.Test.Qxb6602222aPlain
import Derived.Lib.IndexLaws
namespace Go.Proofs.Qxb6602222a
open Go.RowKit

/-- a row of bytes -/
abbrev Bytes (w : World) (g n : Nat) (f : Nat → Nat) : Prop := w.rowIs g 5 n (fun i => .int .u8 (f i : Nat))

def idx (f : Nat → Nat) (cv hi i : Nat) : Int := if first (fun j => f j == cv) hi i < hi then ((first (fun j => f j == cv) hi i : Nat) : Int) - i else -1

theorem ofNat_eq {a b : Nat} (ha : a < 256) (hb : b < 256) (h : UInt8.ofNat a = UInt8.ofNat b) : a = b := by
  have := congrArg UInt8.toNat h
  simp at this
  omega

theorem idx_list (f : Nat → Nat) (cv hi i : Nat) (h : i ≤ hi) (hf : ∀ j, f j < 256) (hc : cv < 256) :
    Lib.indexByte (Lib.bytesOf ((List.range (hi - i)).map fun j => ((f (i + j) : Nat) : Int))) (UInt8.ofNat cv) = idx f cv hi i := by
  have hat : ∀ (k : Nat), k < hi - i → (Lib.bytesOf ((List.range (hi - i)).map fun j => ((f (i + j) : Nat) : Int)))[k]? = some (UInt8.ofNat (f (i + k))) := fun k hk => by
    simp [Lib.bytesOf, hk]
  have hlen : (Lib.bytesOf ((List.range (hi - i)).map fun j => ((f (i + j) : Nat) : Int))).length = hi - i := by simp [Lib.bytesOf]
  generalize Lib.bytesOf ((List.range (hi - i)).map fun j => ((f (i + j) : Nat) : Int)) = l at hat hlen
  have hge := first_ge (fun j => f j == cv) hi i
  have hle := first_le (p := fun j => f j == cv) h
  unfold idx
  rcases Int.lt_or_le (Lib.indexByte l (UInt8.ofNat cv)) 0 with hneg | hpos
  · have h1 : Lib.indexByte l (UInt8.ofNat cv) = -1 := by have := Lib.indexByte_ge l (UInt8.ofNat cv); omega
    rw [h1, if_neg]
    intro hlt
    have := first_at (p := fun j => f j == cv) hlt
    have h2 := Lib.indexByte_none h1 (first (fun j => f j == cv) hi i - i)
    rw [hat _ (by omega), show i + (first (fun j => f j == cv) hi i - i) = first (fun j => f j == cv) hi i by omega] at h2
    exact h2 (by rw [beq_iff_eq.1 this])
  · obtain ⟨o, ho⟩ : ∃ o : Nat, Lib.indexByte l (UInt8.ofNat cv) = o := ⟨(Lib.indexByte l (UInt8.ofNat cv)).toNat, by omega⟩
    obtain ⟨h1, h2⟩ := Lib.indexByte_some ho
    have hol : o < hi - i := by rw [← hlen]; exact (List.getElem?_eq_some_iff.1 h1).1
    have hfo : f (i + o) = cv := by
      rw [hat o hol] at h1
      exact ofNat_eq (hf _) hc (Option.some.inj h1)
    have e : first (fun j => f j == cv) hi i = i + o := first_uniq (by omega) (by omega) (fun j a b => by
      have h3 := h2 (j - i) (by omega)
      rw [hat _ (by omega), show i + (j - i) = j by omega] at h3
      exact beq_eq_false_iff_ne.2 fun e => h3 (by rw [e])) (fun _ => by simp [hfo])
    rw [e, if_pos (by omega), ho]
    omega

theorem idx_row (g n c : Nat) (f : Nat → Nat) (cv hi i : Nat) (w : World) (hrow : Bytes w g n f) (h1 : i ≤ hi) (h2 : hi ≤ n) (hf : ∀ j, f j < 256) (hc : cv < 256) :
    Calls Try.prog 30 #[.slice (some ⟨g, i, none⟩) (hi - i) c, .int .u8 (cv : Nat)] w fun e w' => e = .returned (.int .i64 (idx f cv hi i)) ∧ w' = w := by
  refine (Try.bytes_IndexByte g i (hi - i) c ((List.range (hi - i)).map fun j => ((f (i + j) : Nat) : Int)) cv w (by simp) (fun k hk => ?_)).mono fun e w' ⟨he, hw⟩ => ⟨?_, hw⟩
  · rw [hrow.cell (by omega)]
    simp [hk]
  · rw [he, ← idx_list f cv hi i h1 hf hc]
    simp

theorem idx_none (a : Addr) (c : Nat) (cv : Nat) (w : World) :
    Calls Try.prog 30 #[.slice (some a) 0 c, .int .u8 (cv : Nat)] w fun e w' => e = .returned (.int .i64 (-1)) ∧ w' = w := by
  refine (Try.bytes_IndexByte_at a 0 c [] cv w rfl (fun k hk => by omega)).mono fun e w' ⟨he, hw⟩ => ⟨?_, hw⟩
  rw [he]; rfl

end Go.Proofs.Qxb6602222a
