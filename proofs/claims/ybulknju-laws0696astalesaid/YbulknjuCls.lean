import Derived.Test.YbulknjuSea
namespace Go.Proofs.Ybulknju
open Go.RowKit

set_option maxHeartbeats 2000000 in
set_option maxRecDepth 100000 in
theorem drain1_any (bo b7 b5 B Cb gat n gX cX m i r p : Nat) (now : Int) (w : World) (h0 : w.cell? ⟨bo, 0, none⟩ = some (.pointer (some ⟨B, 0, none⟩))) (h1 : w.cell? ⟨B, 1, none⟩ = some (.pointer (some ⟨Cb, 0, none⟩))) (h2 : w.cell? ⟨Cb, 1, none⟩ = some (.slice (some ⟨gat, 0, none⟩) n n)) (h3 : w.cell? ⟨b7, 0, none⟩ = some (.slice (some ⟨gX, 0, none⟩) m cX)) (hi : i < m) (h4 : w.cell? ⟨gX, i, none⟩ = some (.int .i64 (r : Nat))) (hr : r < n) (h5 : w.cell? ⟨gat, r, none⟩ = some (.int .i64 (p : Nat))) (h6 : w.cell? ⟨b5, 3, none⟩ = some (.int .i32 now)) (hn0 : 0 ≤ now) (hn1 : now ≤ 3000) :
    Calls Yba.prog 53 #[.int .i64 i, .pointer (some ⟨bo, 0, none⟩), .pointer (some ⟨b7, 0, none⟩), .pointer (some ⟨b5, 0, none⟩)] w fun e w' => e = .returned (.bool (decide (now ≤ (p : Nat)))) ∧ ∃ q, w' = w.drewN q := by
  have ix1 := fun wx => idx38 (b := gX) (c := cX) hi wx
  have ix2 := fun wx => idx38 (b := gat) (c := n) hr wx
  go_enter Yba.func53, Yba.ntmps53
  go_upto_region 1 with fail
  go_quiet (fail)
  go_wp2
  go_ret
  exact ⟨rfl, _, rfl⟩

set_option maxHeartbeats 2000000 in
set_option maxRecDepth 100000 in
theorem drain2_any (bo b7 b5 B Cb gat n gX cX m i r p : Nat) (now : Int) (w : World) (h0 : w.cell? ⟨bo, 0, none⟩ = some (.pointer (some ⟨B, 0, none⟩))) (h1 : w.cell? ⟨B, 1, none⟩ = some (.pointer (some ⟨Cb, 0, none⟩))) (h2 : w.cell? ⟨Cb, 1, none⟩ = some (.slice (some ⟨gat, 0, none⟩) n n)) (h3 : w.cell? ⟨b7, 0, none⟩ = some (.slice (some ⟨gX, 0, none⟩) m cX)) (hi : i < m) (h4 : w.cell? ⟨gX, i, none⟩ = some (.int .i64 (r : Nat))) (hr : r < n) (h5 : w.cell? ⟨gat, r, none⟩ = some (.int .i64 (p : Nat))) (h6 : w.cell? ⟨b5, 3, none⟩ = some (.int .i32 now)) (hn0 : 0 ≤ now) (hn1 : now ≤ 3000) :
    Calls Yba.prog 54 #[.int .i64 i, .pointer (some ⟨bo, 0, none⟩), .pointer (some ⟨b7, 0, none⟩), .pointer (some ⟨b5, 0, none⟩)] w fun e w' => e = .returned (.bool (decide (now ≤ (p : Nat)))) ∧ ∃ q, w' = w.drewN q := by
  have ix1 := fun wx => idx38 (b := gX) (c := cX) hi wx
  have ix2 := fun wx => idx38 (b := gat) (c := n) hr wx
  go_enter Yba.func54, Yba.ntmps54
  go_upto_region 1 with fail
  go_quiet (fail)
  go_wp2
  go_ret
  exact ⟨rfl, _, rfl⟩

set_option maxHeartbeats 2000000 in
set_option maxRecDepth 100000 in
theorem sat1_any (C Lb : Nat) (O : List OpR) (Q : List Nat) (P : Nat → List Nat) (F : List (List Nat)) (vo vp vf vs vk vpc vps vsr vrd vsw : Value) (Cb gof gat : Nat) (vW vR vL : Value) (co po : Nat → Nat) (B G : Nat) (gs gp : Value) (gR : Nat) (vh : Value) (vd : Value) (E : List (Nat × Nat)) (f : Nat → Int) (D : List Drp) (ρ : Rho) (w : World) (hO : O.length ≤ 2000) (hQ : Q.length ≤ 3) (hco : Col O.length (Q.map P) co po) (h : Cl ρ w C Lb O Q P F vo vp vf vs vk vpc vps vsr vrd vsw Cb gof gat vW vR vL co po B G gs gp gR vh vd E f D) (b1 b2 b3 gX cX m i x y : Nat) (h0 : w.cell? ⟨b1, 0, none⟩ = some (.pointer (some ⟨B, 0, none⟩))) (h1 : w.cell? ⟨b2, 0, none⟩ = some (.slice (some ⟨gX, 0, none⟩) m cX)) (h2 : w.cell? ⟨b3, 0, none⟩ = some (.int .i64 (y : Nat))) (hi : i < m) (h4 : w.cell? ⟨gX, i, none⟩ = some (.int .i64 (x : Nat))) (hx : x < O.length) (hy : y < O.length) :
    Calls Yba.prog 30 #[.int .i64 i, .pointer (some ⟨b1, 0, none⟩), .pointer (some ⟨b2, 0, none⟩), .pointer (some ⟨b3, 0, none⟩)] w fun e w' => e = .returned (.bool (!rch f Q.length co po x y)) ∧ ∃ q, w' = w.drewN q := by
  have RA : Hid (∀ q, Calls Yba.prog 31 #[.pointer (some ⟨B, 0, none⟩), .int .i64 x, .int .i64 y] (w.drewN q) fun e w' => e = .returned (.bool (rch f Q.length co po x y)) ∧ ∃ q', w' = (w.drewN q).drewN q') := fun q => by
    have h2 := h.keep0 ((Stp.refl (fun _ => False) ρ w).drewN q) (fun _ h => h.elim)
    exact reaches_any C Lb O Q P F vo vp vf vs vk vpc vps vsr vrd vsw Cb gof gat vW vR vL co po B G gs gp gR vh vd E f D ρ (w.drewN q) hO hQ hco h2.sta h2.dyn h2.inv x y hx hy
  have ix1 := fun wx => idx38 (b := gX) (c := cX) hi wx
  obtain ⟨bb, ebb⟩ : ∃ bb, bb = rch f Q.length co po x y := ⟨_, rfl⟩
  rw [← ebb] at RA ⊢
  clear h hco ebb
  go_enter Yba.func30, Yba.ntmps30
  go_upto_region 1 with fail
  go_quiet ((go_at_call 31; exact Calls.quiet_of (RA.out _)))
  go_wp2
  go_ret
  exact ⟨rfl, _, rfl⟩

set_option maxHeartbeats 2000000 in
set_option maxRecDepth 100000 in
theorem sat2_any (C Lb : Nat) (O : List OpR) (Q : List Nat) (P : Nat → List Nat) (F : List (List Nat)) (vo vp vf vs vk vpc vps vsr vrd vsw : Value) (Cb gof gat : Nat) (vW vR vL : Value) (co po : Nat → Nat) (B G : Nat) (gs gp : Value) (gR : Nat) (vh : Value) (vd : Value) (E : List (Nat × Nat)) (f : Nat → Int) (D : List Drp) (ρ : Rho) (w : World) (hO : O.length ≤ 2000) (hQ : Q.length ≤ 3) (hco : Col O.length (Q.map P) co po) (h : Cl ρ w C Lb O Q P F vo vp vf vs vk vpc vps vsr vrd vsw Cb gof gat vW vR vL co po B G gs gp gR vh vd E f D) (b1 b2 b3 gX cX m i x y : Nat) (h0 : w.cell? ⟨b1, 0, none⟩ = some (.pointer (some ⟨B, 0, none⟩))) (h1 : w.cell? ⟨b2, 0, none⟩ = some (.int .i64 (y : Nat))) (h2 : w.cell? ⟨b3, 0, none⟩ = some (.slice (some ⟨gX, 0, none⟩) m cX)) (hi : i < m) (h4 : w.cell? ⟨gX, i, none⟩ = some (.int .i64 (x : Nat))) (hx : x < O.length) (hy : y < O.length) :
    Calls Yba.prog 32 #[.int .i64 i, .pointer (some ⟨b1, 0, none⟩), .pointer (some ⟨b2, 0, none⟩), .pointer (some ⟨b3, 0, none⟩)] w fun e w' => e = .returned (.bool (rch f Q.length co po y x)) ∧ ∃ q, w' = w.drewN q := by
  have RA : Hid (∀ q, Calls Yba.prog 31 #[.pointer (some ⟨B, 0, none⟩), .int .i64 y, .int .i64 x] (w.drewN q) fun e w' => e = .returned (.bool (rch f Q.length co po y x)) ∧ ∃ q', w' = (w.drewN q).drewN q') := fun q => by
    have h2 := h.keep0 ((Stp.refl (fun _ => False) ρ w).drewN q) (fun _ h => h.elim)
    exact reaches_any C Lb O Q P F vo vp vf vs vk vpc vps vsr vrd vsw Cb gof gat vW vR vL co po B G gs gp gR vh vd E f D ρ (w.drewN q) hO hQ hco h2.sta h2.dyn h2.inv y x hy hx
  have ix1 := fun wx => idx38 (b := gX) (c := cX) hi wx
  obtain ⟨bb, ebb⟩ : ∃ bb, bb = rch f Q.length co po y x := ⟨_, rfl⟩
  rw [← ebb] at RA ⊢
  clear h hco ebb
  go_enter Yba.func32, Yba.ntmps32
  go_upto_region 1 with fail
  go_quiet ((go_at_call 31; exact Calls.quiet_of (RA.out _)))
  go_wp2
  go_ret
  exact ⟨rfl, _, rfl⟩

theorem eg53 : ∀ args w, (callFunc 53 args).run Yba.prog w = .ok (.enter 53 args) w := enters_of Yba.func53 (by kernel_rfl) rfl
theorem eg54 : ∀ args w, (callFunc 54 args).run Yba.prog w = .ok (.enter 54 args) w := enters_of Yba.func54 (by kernel_rfl) rfl
theorem eg30 : ∀ args w, (callFunc 30 args).run Yba.prog w = .ok (.enter 30 args) w := enters_of Yba.func30 (by kernel_rfl) rfl
theorem eg32 : ∀ args w, (callFunc 32 args).run Yba.prog w = .ok (.enter 32 args) w := enters_of Yba.func32 (by kernel_rfl) rfl
end Go.Proofs.Ybulknju
