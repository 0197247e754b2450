import Derived.Test.YbulknjuNcF
namespace Go.Proofs.Ybulknju
open Go.RowKit

set_option maxHeartbeats 2000000 in
theorem procCols_any (C Lb : Nat) (O : List OpR) (Q : List Nat) (P : Nat → List Nat) (F : List (List Nat)) (vo vp vf vs vk vpc vps vsr vrd vsw : Value) (co po : Nat → Nat) (ρ : Rho) (w : World) (hO : O.length ≤ 2000) (hQ : Q.length ≤ 3) (hK : kk O ≤ 2000) (hco : Col O.length (Q.map P) co po) (hky : ∀ o, o < O.length → ky O o < kk O) (h : Base ρ w C Lb O Q P F vo vp vf vs vk vpc vps vsr vrd vsw) :
    Calls Yba.prog 18 #[.pointer (some ⟨Lb, 0, none⟩)] w fun e w' => ColsP ρ w C Lb O Q P F vo vp vf vs vk vpc vps vsr vrd vsw co po e w' := by
  have NC := hide (newCols_any C Lb O Q P F vo vp vf vs vk vpc vps vsr vrd vsw co po ρ w hO hQ hK hco hky h)
  have l0 := h.st.cell 0 rfl
  have q1 := h.chk.chk.cell 1 rfl
  clear h hco hky
  go_enter Yba.func18, Yba.ntmps18
  go_wp2_with (go_at_call 33; refine NC.out.mono ?_; rintro e w1 ⟨Cb, gof, gat, vW, vR, vL, ρ', rfl, hs, hst⟩; have HS := hide (And.intro hs hst); clear hs hst)
  go_ret
  exact ⟨Cb, gof, gat, vW, vR, vL, ρ', rfl, HS.out.1, HS.out.2⟩
end Go.Proofs.Ybulknju
