import Derived.Test.YbulknjuSiL
import Derived.Test.YbulknjuPrc
namespace Go.Proofs.Ybulknju
open Go.RowKit

set_option maxHeartbeats 4000000 in
set_option maxRecDepth 100000 in
theorem sat_any (C Lb : Nat) (O : List OpR) (Q : List Nat) (P : Nat → List Nat) (F : List (List Nat)) (vo vp vf vs vk vpc vps vsr vrd vsw : Value) (co po : Nat → Nat) (B G : Nat) (gs gp : Value) (E : List (Nat × Nat)) (hon : Bool) (stl : Prop) (ρ : Rho) (w : World) (hO : O.length ≤ 2000) (hQ : Q.length ≤ 3) (hco : Col O.length (Q.map P) co po) (hlk : Lks O (Q.map P) hon) (hrd : RdOk O O.length F) (hE : ∀ e ∈ E, e.1 < e.2 ∧ e.2 < O.length) (hEl : E.length ≤ 100000) (hch : ∀ c i, c < (Q.map P).length → i + 1 < ((Q.map P)[c]!).length → (((Q.map P)[c]!)[i]!, ((Q.map P)[c]!)[i + 1]!) ∈ E) (hK2 : kk O ≤ 2000) (hstl : stl → Stl O (Q.map P) co po)
    (hbase : Base ρ w C Lb O Q P F vo vp vf vs vk vpc vps vsr vrd vsw) (hclo : St ρ w .clo B 69 #[.pointer (some ⟨Lb, 0, none⟩), .pointer none, .pointer (some ⟨G, 0, none⟩), .slice none 0 0, .slice none 0 0, .bool false, .slice none 0 0, .slice none 0 0, .slice none 0 0, .slice none 0 0, .slice none 0 0]) (hgr : Gr ρ w G (succOf O.length E) (predOf O.length E) gs gp) :
    Calls Yba.prog 9 #[.pointer (some ⟨B, 0, none⟩)] w fun e w' => SatP hon stl ρ w e w' := by
  have CR := hide (crowded_any C Lb O Q P F vo vp vf vs vk vpc vps vsr vrd vsw ρ w hO hQ hbase)
  have PR := hide (procCols_any C Lb O Q P F vo vp vf vs vk vpc vps vsr vrd vsw co po ρ w hO hQ hK2 hco hlk.key hbase)
  have SI : Hid (∀ Cb gof gat vW vR vL ρ' w', Sta ρ' w' C Lb O Q P F vo vp vf vs vk vpc vps vsr vrd vsw Cb gof gat vW vR vL co po → Stp R33 ρ w ρ' w' → Calls Yba.prog 17 #[.pointer (some ⟨B, 0, none⟩), .pointer (some ⟨Cb, 0, none⟩), .slice none 0 0] w' fun e w'' => SatP hon stl ρ w e w'') := fun Cb gof gat vW vR vL ρ' w' h1 h2 => by
    refine (satIn_any C Lb O Q P F vo vp vf vs vk vpc vps vsr vrd vsw Cb gof gat vW vR vL co po B G gs gp E hon stl ρ' w' hO hQ hco hlk hrd hE hEl hch hK2 hstl h1 (hclo.keep h2 (by simp [R33])) (hgr.keep h2 (by simp [R33]) (by simp [R33]) (by simp [R33]) (by simp [R33]) (by simp [R33]))).mono ?_
    rintro e w'' ⟨b, ρ'', h3, h4, h5, h6⟩
    exact ⟨b, ρ'', h3, h4, h5, (h2.rn (by simp [R33])).trans h6⟩
  have c0 := hclo.cell 0 rfl
  clear hco hlk hrd hE hch hstl hbase hclo hgr
  go_enter Yba.func9, Yba.ntmps9
  go_wp2_with (first
    | (go_at_call 16; refine CR.out.mono ?_; rintro e w1 ⟨rfl, hw1⟩; subst hw1)
    | (go_at_call 18; refine PR.out.mono ?_; rintro e w2 ⟨Cb, gof, gat, vW, vR, vL, ρ2, rfl, hs2, ht2⟩)
    | (go_at_call 17; refine (SI.out _ _ _ _ _ _ _ _ hs2 ht2).mono ?_; rintro e w3 ⟨b, ρ3, rfl, h3⟩))
  go_ret
  exact ⟨b, ρ3, rfl, h3⟩
end Go.Proofs.Ybulknju
