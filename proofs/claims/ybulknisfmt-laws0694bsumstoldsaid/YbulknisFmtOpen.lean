import Derived.Test.YbulknisFmtLot
import Derived.Deep.Slices
import Derived.OpenShut
namespace Go.Proofs.YbulknisFmt
open Go.RowKit Go.ChangeShapes Go.WideShapes

theorem cells43 : Ybaf.prog.cellsOf 43 = 7 := by kernel_rfl
theorem cells5 : Ybaf.prog.cellsOf 5 = 1 := by kernel_rfl
theorem cells38 : Ybaf.prog.cellsOf 38 = 1 := by kernel_rfl
theorem cells21 : Ybaf.prog.cellsOf 21 = 1 := by kernel_rfl
theorem cells4 : Ybaf.prog.cellsOf 4 = 1 := by kernel_rfl
theorem list7 {α : Type} : ∀ (l : List α), l.length = 7 → ∃ a0 a1 a2 a3 a4 a5 a6, l = [a0, a1, a2, a3, a4, a5, a6]
  | [a0, a1, a2, a3, a4, a5, a6], _ => ⟨a0, a1, a2, a3, a4, a5, a6, rfl⟩
/-- One row of the input, opened. -/
def RawAt (W : World) (b o : Nat) (q : Int × Int × Int × Int × Int × Int × Bool) : Prop :=
  (W.cell? ⟨b, o, none⟩ = some (.int .u8 q.1) ∧ W.cell? ⟨b, o + 1, none⟩ = some (.int .u8 q.2.1) ∧ W.cell? ⟨b, o + 2, none⟩ = some (.int .u8 q.2.2.1) ∧ W.cell? ⟨b, o + 3, none⟩ = some (.int .i16 q.2.2.2.1) ∧ W.cell? ⟨b, o + 4, none⟩ = some (.int .u8 q.2.2.2.2.1) ∧ W.cell? ⟨b, o + 5, none⟩ = some (.int .i32 q.2.2.2.2.2.1) ∧ W.cell? ⟨b, o + 6, none⟩ = some (.bool q.2.2.2.2.2.2)) ∧
  (Lit.int .u8 q.1).wf = true ∧ (Lit.int .u8 q.2.1).wf = true ∧ (Lit.int .u8 q.2.2.1).wf = true ∧ (Lit.int .i16 q.2.2.2.1).wf = true ∧ (Lit.int .u8 q.2.2.2.2.1).wf = true ∧ (Lit.int .i32 q.2.2.2.2.2.1).wf = true

set_option maxRecDepth 100000 in
theorem open_zs {H : Type} {enc : TypeId × Value → H} {W : World} {base : Nat} {sp : Nat → Bool} {held : Bool} {fuel : Nat} {a : Option Addr} {n c : Nat} {x : DataW H × List MemPlace} (h : DataW.trod enc Ybaf.prog W base sp held fuel 37 [.slice a n c] = some x) :
    ∃ f : Nat → Int × Int × Int × Int × Int × Int × Bool, ∀ k, k < n → ∃ b off, a = some ⟨b, off, none⟩ ∧ RawAt W b (off + k * 7) (f k) := by
  rcases Deep.open_slice Ybaf.underlying37 h with ⟨h0, _⟩ | ⟨ad, len, cap, m, n', D, Pl, hcs, hb, hl, hm, hmm, hx, hall⟩
  · cases h0; exact ⟨fun _ => default, fun k hk => by omega⟩
  · cases hcs
    have hlm : n ≤ m := by rw [hmm]; split <;> omega
    have each : ∀ k, k < n → ∃ q : Int × Int × Int × Int × Int × Int × Bool, ∃ b off, some ad = some ⟨b, off, none⟩ ∧ RawAt W b (off + k * 7) q := by
      intro i hi
      obtain ⟨cs', h1, h2⟩ := hall i (by omega)
      rw [cells43] at h1
      obtain ⟨_, hlen, hcell⟩ := World.cells?_some h1
      obtain ⟨xs, k, hk, hxy, _, hxl, hf⟩ := DataW.trod_struct Ybaf.underlying43 h2
      obtain ⟨y0, y1, y2, y3, y4, y5, y6, rfl⟩ := list7 xs hxl
      obtain ⟨v0, v1, v2, v3, v4, v5, v6, rfl⟩ := list7 cs' hlen
      have g0 := hf 0 _ rfl
      have g1 := hf 1 _ rfl
      have g2 := hf 2 _ rfl
      have g3 := hf 3 _ rfl
      have g4 := hf 4 _ rfl
      have g5 := hf 5 _ rfl
      have g6 := hf 6 _ rfl
      simp [cells5, cells38, cells21, cells4] at g0 g1 g2 g3 g4 g5 g6
      obtain ⟨z0, e0, _, w0⟩ := DataW.trod_int Ybaf.underlying5 g0
      obtain ⟨z1, e1, _, w1⟩ := DataW.trod_int Ybaf.underlying5 g1
      obtain ⟨z2, e2, _, w2⟩ := DataW.trod_int Ybaf.underlying5 g2
      obtain ⟨z3, e3, _, w3⟩ := DataW.trod_int Ybaf.underlying38 g3
      obtain ⟨z4, e4, _, w4⟩ := DataW.trod_int Ybaf.underlying5 g4
      obtain ⟨z5, e5, _, w5⟩ := DataW.trod_int Ybaf.underlying21 g5
      obtain ⟨z6, e6, _⟩ := DataW.trod_bool Ybaf.underlying4 g6
      cases e0; cases e1; cases e2; cases e3; cases e4; cases e5; cases e6
      have c0 := hcell 0 (by omega)
      have c1 := hcell 1 (by omega)
      have c2 := hcell 2 (by omega)
      have c3 := hcell 3 (by omega)
      have c4 := hcell 4 (by omega)
      have c5 := hcell 5 (by omega)
      have c6 := hcell 6 (by omega)
      obtain ⟨cs0, h3, _⟩ := hall 0 (by omega)
      rw [cells43] at h3
      obtain ⟨_, hlen0, hcell0⟩ := World.cells?_some h3
      obtain ⟨u0, u1, u2, u3, u4, u5, u6, rfl⟩ := list7 cs0 hlen0
      have k0 := hcell0 0 (by omega)
      obtain ⟨b, off, spot⟩ := ad
      have hspot : spot = none := by simpa [Addr.add] using World.cell?_spot k0
      subst hspot
      rw [Deep.add_add, add_plain] at c0 c1 c2 c3 c4 c5 c6
      refine ⟨(z0, z1, z2, z3, z4, z5, z6), b, off, rfl, ⟨?_, ?_, ?_, ?_, ?_, ?_, ?_⟩, w0, w1, w2, w3, w4, w5⟩
      · simpa [Nat.add_assoc] using c0
      · simpa [Nat.add_assoc] using c1
      · simpa [Nat.add_assoc] using c2
      · simpa [Nat.add_assoc] using c3
      · simpa [Nat.add_assoc] using c4
      · simpa [Nat.add_assoc] using c5
      · simpa [Nat.add_assoc] using c6
    exact Deep.choose_lt each
end Go.Proofs.YbulknisFmt
