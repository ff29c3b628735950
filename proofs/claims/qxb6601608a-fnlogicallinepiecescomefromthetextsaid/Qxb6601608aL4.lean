import Derived.Test.Qxb6601608aL3
namespace Go.Proofs.Qxb6601608a
open Go.RowKit
structure PS (W w : World) (gl gs : Nat) (D : List (Nat × Nat)) (vl : Value) (L : List UInt8) : Prop where
  rl : w.rowIs gl 3 D.length (fun i => .int .i64 (plv D i))
  rs : w.rowIs gs 3 D.length (fun i => .int .i64 (psv D i))
  li : w.ownsRow W.heap.size 5 1 vl L.length (bcells L)
  bel : Below W.heap.size W w
theorem PS.drewN {W w : World} {gl gs : Nat} {D : List (Nat × Nat)} {vl : Value} {L : List UInt8} (h : PS W w gl gs D vl L) (n : Nat) : PS W (w.drewN n) gl gs D vl L :=
  ⟨h.rl.of_block rfl, h.rs.of_block rfl, own_block h.li (fun _ _ => rfl), below_drewN h.bel _⟩
/-- ZZLogicalLine without a room for a line -/
theorem zzLogicalLine_nil (s : ByteArray) (p : Nat) (w : World) (hs : s.size ≤ 1048576) (hp : p ≤ s.size) :
    Calls Try.prog 23 #[.string s, .int .i64 p, .slice none 0 0] w fun e w' => ∃ D q gl gs al cl, Good s D p q ∧ e = .returned (.tuple #[.string (joined s D), .int .i64 q, .slice (some ⟨gl, 0, none⟩) D.length D.length, .slice (some ⟨gs, 0, none⟩) D.length D.length, .slice al (room s D).length cl]) ∧
      D.length ≤ s.size + 1 ∧ PS w w' gl gs D (.slice al (room s D).length cl) (room s D) := by
  refine (zzLogicalLine_any s p w.heap.size (.slice none 0 0) 0 [] w hs hp (Nat.le_refl _) (World.ownsRow_nil _ _ _ _)).mono ?_
  rintro e w' ⟨D, q, gl, gs, vl', h1, h2, h3, h4, h5, -, -, -, h6⟩
  obtain ⟨al, cl, rfl⟩ := own_shape h5
  have hG := lls_good s (s.size + 1) p hp (by omega)
  have hlen := lls_len_le s (s.size + 1) p
  rw [h1] at hG hlen
  exact ⟨D, q, gl, gs, al, cl, hG, h2, hlen, h3, h4, h5, h6⟩
end Go.Proofs.Qxb6601608a
