import Derived.Test.YbulknjuSat
import Derived.Test.YbulknjuPlG
import Derived.Test.YbulknjuLay
namespace Go.Proofs.Ybulknju
open Go.RowKit

/-- The layout of a history, in a world behind w. -/
def Ld (w : World) (O : List OpR) (P : Nat → List Nat) (Lb : Nat) (w' : World) : Prop := ∃ ρ C F vo vp vf vs vk vpc vps vsr vrd vsw, Base ρ w' C Lb O (qs P 3) P F vo vp vf vs vk vpc vps vsr vrd vsw ∧ RdOk O O.length F ∧ Stp RN ρ0 w ρ w'
/-- Its closure. -/
def Cd (w : World) (O : List OpR) (P : Nat → List Nat) (B : Nat) (w' : World) : Prop := ∃ ρ G gs gp C Lb F vo vp vf vs vk vpc vps vsr vrd vsw, Base ρ w' C Lb O (qs P 3) P F vo vp vf vs vk vpc vps vsr vrd vsw ∧ St ρ w' .clo B 69 #[.pointer (some ⟨Lb, 0, none⟩), .pointer none, .pointer (some ⟨G, 0, none⟩), .slice none 0 0, .slice none 0 0, .bool false, .slice none 0 0, .slice none 0 0, .slice none 0 0, .slice none 0 0, .slice none 0 0] ∧ Gr ρ w' G (succOf O.length (edg O P)) (predOf O.length (edg O P)) gs gp ∧ RdOk O O.length F ∧ Stp RN ρ0 w ρ w'
theorem hist_P {O : List OpR} {P : Nat → List Nat} {hon : Bool} (h : Hist O P hon) : ∀ l ∈ (qs P 3).map P, l.length ≤ 3000 ∧ ∀ o ∈ l, o < O.length := fun l hl => by
  obtain ⟨c, hc, e⟩ := List.getElem_of_mem hl
  have e' : ((qs P 3).map P)[c]! = l := by rw [getElem!_pos _ c hc]; exact e
  refine ⟨by rw [← e']; exact h.col.small c hc, fun o ho => ?_⟩
  obtain ⟨i, hi, e2⟩ := List.getElem_of_mem ho
  have := (h.col.bwd c i hc (by rw [e']; exact hi)).1
  rw [e', getElem!_pos l i hi, e2] at this
  exact this
theorem lay_any {w : World} {C A : Nat} {O : List OpR} {P : Nat → List Nat} {hon : Bool} {w1 : World} (h : Hist O P hon) (hO : O.length ≤ 2000) (hk : K7 w C A O P 3 w1) : Calls Yba.prog 8 #[.pointer (some ⟨C, 0, none⟩)] w1 fun e w2 => ∃ Lb, e = .returned (.pointer (some ⟨Lb, 0, none⟩)) ∧ Ld w O P Lb w2 := by
  obtain ⟨ρ, vo, vp, vf, vs, pv, hj⟩ := hk
  refine (layout_any C O (qs P 3) P vo vp vf vs ρ w1 hO h.kx (fun l hl => (hist_P h l hl).2) h.fr hj.chk).mono ?_
  rintro e w2 ⟨Lb, rfl, ρ', F, vk, vpc, vps, vsr, vrd, vsw, hj2, hrd⟩
  exact ⟨Lb, rfl, ρ', C, F, vo, vp, vf, vs, vk, vpc, vps, vsr, vrd, vsw, Base.of hj.chk hj2, hrd, hj.stp.trans (hj2.stp.rn (by simp [RL]))⟩
theorem clo_any {w : World} {Lb : Nat} {O : List OpR} {P : Nat → List Nat} {hon : Bool} {w1 : World} (h : Hist O P hon) (hO : O.length ≤ 2000) (hk : Ld w O P Lb w1) : Calls Yba.prog 7 #[.pointer (some ⟨Lb, 0, none⟩)] w1 fun e w2 => ∃ B, e = .returned (.pointer (some ⟨B, 0, none⟩)) ∧ Cd w O P B w2 := by
  obtain ⟨ρ, C, F, vo, vp, vf, vs, vk, vpc, vps, vsr, vrd, vsw, hb, hrd, hst⟩ := hk
  refine (closure_any C Lb O (qs P 3) P F vo vp vf vs vk vpc vps vsr vrd vsw ρ w1 hO (qs_len P 3) (hist_P h) (fun r hr hrd => (h.lks.src r hr hrd).1) hb).mono ?_
  rintro e w2 ⟨B, rfl, G, gs, gp, ρ', hj⟩
  exact ⟨B, rfl, ρ', G, gs, gp, C, Lb, F, vo, vp, vf, vs, vk, vpc, vps, vsr, vrd, vsw, hj.base, hj.clo, hj.gr, hrd, hst.trans (hj.stp.rn (by simp [RC, RG]))⟩
theorem end_any {w : World} {B : Nat} {O : List OpR} {P : Nat → List Nat} {hon : Bool} {stl : Prop} {w1 : World} (h : Hist O P hon) (hO : O.length ≤ 2000) (hP : ∀ p, (P p).length ≤ 3000) (hs : stl → Stl O ((qs P 3).map P) (coP P) (poP P)) (hk : Cd w O P B w1) : Calls Yba.prog 9 #[.pointer (some ⟨B, 0, none⟩)] w1 fun e w2 => ∃ b, e = .returned (.bool b) ∧ (hon = true → b = true) ∧ (stl → b = false) ∧ Below w.heap.size w w2 := by
  obtain ⟨ρ, G, gs, gp, C, Lb, F, vo, vp, vf, vs, vk, vpc, vps, vsr, vrd, vsw, hb, hc, hg, hrd, hst⟩ := hk
  refine (sat_any C Lb O (qs P 3) P F vo vp vf vs vk vpc vps vsr vrd vsw (coP P) (poP P) B G gs gp (edg O P) hon stl ρ w1 hO (qs_len P 3) h.col h.lks hrd h.edge (Nat.le_trans (edg_len hO hP) (by decide)) edg_chain (Nat.le_trans (tabK_len _ h.kx _) (by decide)) hs hb hc hg).mono ?_
  rintro e w2 ⟨b, ρ', rfl, h1, h2, h3⟩
  exact ⟨b, rfl, h1, h2, (hst.trans h3).below (fun k _ hr => hr rfl)⟩

set_option maxHeartbeats 4000000 in
set_option maxRecDepth 100000 in
theorem sound_any (a0 : Option Addr) (n c0 : Nat) (zs : Nat → Z6) (w : World) (hn : n ≤ 1024) (hz : InZ w a0 n zs) :
    Calls Yba.prog 3 #[.slice a0 n c0] w fun e w' => e = .returned (.bool true) ∧ Below w.heap.size w w' := by
  have BA := hide (build_any a0 n c0 false zs w hn hz)
  obtain ⟨O, eO⟩ : ∃ O, O = ((runB zs n).fin false).O := ⟨_, rfl⟩
  obtain ⟨P, eP⟩ : ∃ P, P = ((runB zs n).fin false).P := ⟨_, rfl⟩
  have hOl := runB_O zs n
  have hh : Hist O P true := by rw [eO, eP]; exact hist_sound (Bi.run zs n) (fun p => Nat.le_trans (runB_P zs n p) (by omega))
  have hP : ∀ p, (P p).length ≤ 3000 := fun p => by rw [eP]; exact Nat.le_trans (runB_P zs n p) (by omega)
  have hO : O.length ≤ 2000 := by rw [eO]; exact Nat.le_trans (Nat.le_of_eq hOl) (by omega)
  have hstl : False → Stl O ((qs P 3).map P) (coP P) (poP P) := fun h => h.elim
  rw [← eO, ← eP] at BA
  have HH := hide hh
  have HP := hide hP
  have HSTL := hide hstl
  clear hz eO eP hh hP hstl hOl
  go_enter Yba.func3, Yba.ntmps3
  go_wp2_with (first
    | (go_at_call 6; refine BA.out.mono ?_; rintro e w1 ⟨C, rfl, A, hk1⟩; have HK1 := hide hk1; clear hk1)
    | (go_at_call 8; refine (lay_any HH.out hO HK1.out).mono ?_; rintro e w2 ⟨Lb, rfl, hk2⟩; have HK2 := hide hk2; clear hk2)
    | (go_at_call 7; refine (clo_any HH.out hO HK2.out).mono ?_; rintro e w3 ⟨B, rfl, hk3⟩; have HK3 := hide hk3; clear hk3)
    | (go_at_call 9; refine (end_any HH.out hO HP.out HSTL.out HK3.out).mono ?_; rintro e w4 ⟨b, rfl, hb1, hb2, hbel⟩; have HBEL := hide hbel; clear hbel; obtain rfl := hb1 rfl; clear hb1 hb2))
  go_ret
  exact ⟨rfl, HBEL.out⟩
set_option maxHeartbeats 400000 in
set_option maxRecDepth 100000 in
theorem sound_long (a0 : Option Addr) (n c0 : Nat) (w : World) (h : 1024 < n) :
    Calls Yba.prog 3 #[.slice a0 n c0] w fun e w' => e = .returned (.bool true) ∧ Below w.heap.size w w' := by
  go_enter Yba.func3, Yba.ntmps3
  go_wp2
  go_ret
  exact ⟨rfl, Below.refl _ _⟩

set_option maxHeartbeats 4000000 in
set_option maxRecDepth 100000 in
theorem stale_any (a0 : Option Addr) (n c0 : Nat) (zs : Nat → Z6) (w : World) (hn : n ≤ 1024) (hz : InZ w a0 n zs) :
    Calls Yba.prog 4 #[.slice a0 n c0] w fun e w' => e = .returned (.bool true) ∧ Below w.heap.size w w' := by
  have BA := hide (build_any a0 n c0 true zs w hn hz)
  obtain ⟨O, eO⟩ : ∃ O, O = ((runB zs n).fin true).O := ⟨_, rfl⟩
  obtain ⟨P, eP⟩ : ∃ P, P = ((runB zs n).fin true).P := ⟨_, rfl⟩
  have hOl := runB_O zs n
  have hpl : ∀ p, ((runB zs n).stale.P p).length ≤ 3000 := fun p => by
    have h1 := runB_P zs n p
    by_cases h : p = 0
    · subst h; rw [stale_P0]; simp; omega
    · rw [stale_Pp _ h]; omega
  have hh : Hist O P false := by rw [eO, eP]; exact hist_stale (Bi.run zs n) hpl
  have hP : ∀ p, (P p).length ≤ 3000 := fun p => by rw [eP]; exact hpl p
  have hO : O.length ≤ 2000 := by rw [eO]; have h1 := stale_len (runB zs n); rw [hOl] at h1; exact Nat.le_trans (Nat.le_of_eq h1) (by omega)
  have hstl : True → Stl O ((qs P 3).map P) (coP P) (poP P) := fun _ => by have h1 := hh.col; rw [eO, eP] at h1 ⊢; exact stale_stl h1
  clear hpl
  rw [← eO, ← eP] at BA
  have HH := hide hh
  have HP := hide hP
  have HSTL := hide hstl
  clear hz eO eP hh hP hstl hOl
  go_enter Yba.func4, Yba.ntmps4
  go_wp2_with (first
    | (go_at_call 6; refine BA.out.mono ?_; rintro e w1 ⟨C, rfl, A, hk1⟩; have HK1 := hide hk1; clear hk1)
    | (go_at_call 8; refine (lay_any HH.out hO HK1.out).mono ?_; rintro e w2 ⟨Lb, rfl, hk2⟩; have HK2 := hide hk2; clear hk2)
    | (go_at_call 7; refine (clo_any HH.out hO HK2.out).mono ?_; rintro e w3 ⟨B, rfl, hk3⟩; have HK3 := hide hk3; clear hk3)
    | (go_at_call 9; refine (end_any HH.out hO HP.out HSTL.out HK3.out).mono ?_; rintro e w4 ⟨b, rfl, hb1, hb2, hbel⟩; have HBEL := hide hbel; clear hbel; obtain rfl := hb2 trivial; clear hb1 hb2))
  go_ret
  exact ⟨rfl, HBEL.out⟩
set_option maxHeartbeats 400000 in
set_option maxRecDepth 100000 in
theorem stale_long (a0 : Option Addr) (n c0 : Nat) (w : World) (h : 1024 < n) :
    Calls Yba.prog 4 #[.slice a0 n c0] w fun e w' => e = .returned (.bool true) ∧ Below w.heap.size w w' := by
  go_enter Yba.func4, Yba.ntmps4
  go_wp2
  go_ret
  exact ⟨rfl, Below.refl _ _⟩
end Go.Proofs.Ybulknju
