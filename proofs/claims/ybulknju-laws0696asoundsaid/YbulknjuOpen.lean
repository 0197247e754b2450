import Derived.Test.YbulknjuEnd
import Derived.ProofKit
import Derived.OpenShut
import Derived.SizedLaws
import Derived.Deep.Matrix
namespace Go.Proofs.Ybulknju
open Go.ChangeShapes Go.WideShapes Go.ChangeAt Go.RowKit

theorem own6 : ownKnob Yba.prog.godebug = none := by kernel_rfl
theorem laidOut6 : laidOutB Yba.prog = true := by kernel_rfl
theorem cells54 : Yba.prog.cellsOf 54 = 3 := by kernel_rfl
theorem cells5' : Yba.prog.cellsOf 5 = 1 := by kernel_rfl
theorem cells4' : Yba.prog.cellsOf 4 = 1 := by kernel_rfl
theorem list3 {α : Type} (l : List α) (h : l.length = 3) : ∃ a b c, l = [a, b, c] := by
  match l, h with
  | [a, b, c], _ => exact ⟨a, b, c, rfl⟩
theorem u8_bounds {z : Int} (h : (Lit.int .u8 z).wf = true) : 0 ≤ z ∧ z ≤ 255 := by
  simp [Lit.wf] at h
  have h1 : IntKind.u8.min = 0 := by decide
  have h2 : IntKind.u8.max = 255 := by decide
  rw [h1, h2] at h
  exact h
set_option maxRecDepth 100000 in
theorem open_z6 {H : Type} {enc : TypeId × Value → H} {W : World} {base : Nat} {sp : Nat → Bool} {held : Bool} {fuel : Nat} {a : Option Addr} {n c : Nat} {x : DataW H × List MemPlace} (h : DataW.trod enc Yba.prog W base sp held fuel 22 [.slice a n c] = some x) :
    ∃ f : Nat → Z6, InZ W a n f := by
  unfold InZ
  rcases Deep.open_slice Yba.underlying22 h with ⟨h0, _⟩ | ⟨ad, len, cap, m, n', D, Pl, hcs, hb, hl, hm, hmm, hx, hall⟩
  · cases h0; exact ⟨fun _ => ⟨0, 0, false⟩, fun k hk => by omega⟩
  · cases hcs
    have hlm : n ≤ m := by rw [hmm]; split <;> omega
    have each : ∀ k, k < n → ∃ q : Z6, ∃ b off, some ad = some ⟨b, off, none⟩ ∧ ZAt W b (off + k * 3) q ∧ (0 ≤ q.proc ∧ q.proc ≤ 255) ∧ 0 ≤ q.key ∧ q.key ≤ 255 := by
      intro i hi
      obtain ⟨cs', h1, h2⟩ := hall i (by omega)
      rw [cells54] at h1
      obtain ⟨_, hlen, hcell⟩ := World.cells?_some h1
      obtain ⟨xs, k, hk, hxy, _, hxl, hf⟩ := DataW.trod_struct Yba.underlying54 h2
      obtain ⟨y0, y1, y2, rfl⟩ := list3 xs hxl
      obtain ⟨v0, v1, v2, rfl⟩ := list3 cs' hlen
      have g0 := hf 0 _ rfl
      have g1 := hf 1 _ rfl
      have g2 := hf 2 _ rfl
      simp [cells5', cells4'] at g0 g1 g2
      obtain ⟨z0, e0, _, w0⟩ := DataW.trod_int Yba.underlying5 g0
      obtain ⟨z1, e1, _, w1⟩ := DataW.trod_int Yba.underlying5 g1
      obtain ⟨z2, e2, _⟩ := DataW.trod_bool Yba.underlying4 g2
      cases e0; cases e1; cases e2
      have c0 := hcell 0 (by omega)
      have c1 := hcell 1 (by omega)
      have c2 := hcell 2 (by omega)
      obtain ⟨cs0, h3, _⟩ := hall 0 (by omega)
      rw [cells54] at h3
      obtain ⟨_, hlen0, hcell0⟩ := World.cells?_some h3
      obtain ⟨u0, u1, u2, rfl⟩ := list3 cs0 hlen0
      have k0 := hcell0 0 (by omega)
      obtain ⟨b, off, spot⟩ := ad
      have hspot : spot = none := by simpa [Addr.add] using World.cell?_spot k0
      subst hspot
      rw [Deep.add_add, add_plain] at c0 c1 c2
      refine ⟨⟨z0, z1, z2⟩, b, off, rfl, ⟨?_, ?_, ?_⟩, u8_bounds w0, u8_bounds w1⟩
      · simpa [Nat.add_assoc] using c0
      · simpa [Nat.add_assoc] using c1
      · simpa [Nat.add_assoc] using c2
    have hI : Inhabited Z6 := ⟨⟨0, 0, false⟩⟩
    exact Deep.choose_lt each
end Go.Proofs.Ybulknju
