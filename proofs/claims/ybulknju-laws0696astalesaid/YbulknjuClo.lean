import Derived.Test.YbulknjuBase
namespace Go.Proofs.Ybulknju
open Go.RowKit

/-- A process's own edges, the first i of them. -/
def procEk (l : List Nat) (i : Nat) : List (Nat × Nat) := (List.range i).map fun j => (l[j]!, l[j + 1]!)
def procE (l : List Nat) : List (Nat × Nat) := procEk l (l.length - 1)
/-- The edges from a write to its readers, of the first k operations. -/
def srcE (O : List OpR) (k : Nat) : List (Nat × Nat) := (List.range k).filterMap fun r => if (opAt O r).rd = true ∧ sI O r < O.length then some ((sI O r).toNat, r) else none
theorem procEk_succ (l : List Nat) (i : Nat) : procEk l (i + 1) = procEk l i ++ [(l[i]!, l[i + 1]!)] := by unfold procEk; rw [List.range_succ, List.map_append]; rfl
theorem procEk_len (l : List Nat) (i : Nat) : (procEk l i).length = i := by simp [procEk]
theorem srcE_succ (O : List OpR) (k : Nat) : srcE O (k + 1) = srcE O k ++ (if (opAt O k).rd = true ∧ sI O k < O.length then [((sI O k).toNat, k)] else []) := by
  unfold srcE
  rw [List.range_succ, List.filterMap_append]
  congr 1
  rw [List.filterMap_cons, List.filterMap_nil]
  by_cases h : (opAt O k).rd = true ∧ sI O k < O.length
  · rw [if_pos h, if_pos h]
  · rw [if_neg h, if_neg h]
theorem srcE_len (O : List OpR) (k : Nat) : (srcE O k).length ≤ k := by unfold srcE; exact Nat.le_trans (List.length_filterMap_le _ _) (by simp)
theorem flat_small (L : List (List Nat)) (h : ∀ l ∈ L, l.length ≤ 3000) : (L.flatMap procE).length ≤ L.length * 3000 := by
  induction L with
  | nil => simp
  | cons x l ih =>
    rw [List.flatMap_cons, List.length_append, List.length_cons]
    have h1 := ih (fun y hy => h y (List.mem_cons_of_mem _ hy))
    have h2 := h x List.mem_cons_self
    unfold procE
    rw [procEk_len]
    unfold procE at h1
    omega

def RC : Role → Prop := fun r => r = .clo ∨ r = .gr ∨ RG r
/-- The closure being made: E are the edges. -/
structure J7c (ρ : Rho) (w : World) (B G C Lb : Nat) (O : List OpR) (Q : List Nat) (P : Nat → List Nat) (F : List (List Nat)) (vo vp vf vs vk vpc vps vsr vrd vsw gs gp : Value) (E : List (Nat × Nat)) (ρr : Rho) (wr : World) : Prop where
  base : Base ρr wr C Lb O Q P F vo vp vf vs vk vpc vps vsr vrd vsw
  clo : St ρr wr .clo B 69 #[.pointer (some ⟨Lb, 0, none⟩), .pointer none, .pointer (some ⟨G, 0, none⟩), .slice none 0 0, .slice none 0 0, .bool false, .slice none 0 0, .slice none 0 0, .slice none 0 0, .slice none 0 0, .slice none 0 0]
  gr : Gr ρr wr G (succOf O.length E) (predOf O.length E) gs gp
  stp : Stp RC ρ w ρr wr
theorem RG.rs {r : Role} (h : RS r) : ¬ RG r := by
  unfold RS at h; unfold RG
  rcases h with h | h | h | h | h | ⟨_, h⟩ | h | h | h | h | ⟨_, h⟩ <;> simp [h]
/-- One edge more. -/
theorem J7c.add {ρ : Rho} {w : World} {B G C Lb : Nat} {O : List OpR} {Q : List Nat} {P : Nat → List Nat} {F : List (List Nat)} {vo vp vf vs vk vpc vps vsr vrd vsw gs gp : Value} {E : List (Nat × Nat)} {ρr ρ1 : Rho} {wr w1 w' : World} {u v : Nat}
    (h : J7c ρ w B G C Lb O Q P F vo vp vf vs vk vpc vps vsr vrd vsw gs gp E ρr wr) (h1 : Stp (fun _ => False) ρr wr ρ1 w1) (hu : u < O.length) (hv : v < O.length) (ha : GAdd G (succOf O.length E) (predOf O.length E) gs gp u v ρ1 w1 w') : ∃ ρ', J7c ρ w B G C Lb O Q P F vo vp vf vs vk vpc vps vsr vrd vsw gs gp (E ++ [(u, v)]) ρ' w' := by
  obtain ⟨ρ', g, s⟩ := ha
  have b1 := h.base.keep h1 (fun _ _ h => h)
  have c1 := h.clo.keep h1 (fun h => h)
  refine ⟨ρ', b1.keep s (fun r hr => RG.rs hr), c1.keep s (by unfold RG; simp), ?_, (h.stp.trans (h1.mono fun _ h => h.elim)).trans (s.mono fun r hr => .inr (.inr hr))⟩
  rw [succOf_add E hu, predOf_add E hv]; exact g
theorem J7c.keep0 {ρ : Rho} {w : World} {B G C Lb : Nat} {O : List OpR} {Q : List Nat} {P : Nat → List Nat} {F : List (List Nat)} {vo vp vf vs vk vpc vps vsr vrd vsw gs gp : Value} {E : List (Nat × Nat)} {ρr ρ1 : Rho} {wr w1 : World}
    (h : J7c ρ w B G C Lb O Q P F vo vp vf vs vk vpc vps vsr vrd vsw gs gp E ρr wr) (h1 : Stp (fun _ => False) ρr wr ρ1 w1) : J7c ρ w B G C Lb O Q P F vo vp vf vs vk vpc vps vsr vrd vsw gs gp E ρ1 w1 :=
  ⟨h.base.keep h1 (fun _ _ h => h), h.clo.keep h1 (fun h => h), h.gr.keep h1 (fun h => h) (fun h => h) (fun _ h => h) (fun h => h) (fun _ h => h), h.stp.trans (h1.mono fun _ h => h.elim)⟩
def Clo7 (ρ : Rho) (w : World) (B C Lb : Nat) (O : List OpR) (Q : List Nat) (P : Nat → List Nat) (F : List (List Nat)) (vo vp vf vs vk vpc vps vsr vrd vsw : Value) (w' : World) : Prop :=
  ∃ G gs gp ρ', J7c ρ w B G C Lb O Q P F vo vp vf vs vk vpc vps vsr vrd vsw gs gp ((Q.map P).flatMap procE ++ srcE O O.length) ρ' w'

set_option maxHeartbeats 8000000 in
set_option maxRecDepth 100000 in
theorem closure_any (C Lb : Nat) (O : List OpR) (Q : List Nat) (P : Nat → List Nat) (F : List (List Nat)) (vo vp vf vs vk vpc vps vsr vrd vsw : Value) (ρ : Rho) (w : World) (hO : O.length ≤ 2000) (hQ : Q.length ≤ 3) (hP : ∀ l ∈ Q.map P, l.length ≤ 3000 ∧ ∀ o ∈ l, o < O.length) (hsr : ∀ r, r < O.length → (opAt O r).rd = true → 0 ≤ sI O r)
    (h : Base ρ w C Lb O Q P F vo vp vf vs vk vpc vps vsr vrd vsw) :
    Calls Yba.prog 7 #[.pointer (some ⟨Lb, 0, none⟩)] w fun e w' => ∃ B, e = .returned (.pointer (some ⟨B, 0, none⟩)) ∧ Clo7 ρ w B C Lb O Q P F vo vp vf vs vk vpc vps vsr vrd vsw w' := by
  obtain ⟨ao, co, hvo, _, _⟩ := h.chk.ops.form
  obtain ⟨vl, hvl, hvr, hvn⟩ := h.chk.prc.ex
  obtain ⟨aP, cP, hvp, hm1, hm2⟩ := hvr.form
  obtain ⟨H, eH⟩ : ∃ H, H = Q.map P := ⟨_, rfl⟩
  have hH3 : H.length ≤ 3 := by rw [eH, List.length_map]; exact hQ
  rw [← eH] at hvl hvn hP
  have HV : Hid (vl.length = H.length ∧ Row ρ w .procs 38 1 (.slice aP H.length cP) H.length vl ∧ ∀ i, i < H.length → NRow ρ w (.proc Q[i]!) vl[i]! H[i]!) := ⟨hvl, by rw [eH, ← hvp]; exact hvr, hvn⟩
  have l0 := h.st.cell 0 rfl
  have q0 : w.cell? ⟨C, 0, none⟩ = some (.slice ao O.length co) := by rw [← hvo]; exact h.chk.chk.cell 0 rfl
  have HVO := hide hvo
  have HVP : Hid (vp = .slice aP H.length cP) := by show _ = _; rw [eH]; exact hvp
  have HH := hide h
  have HP := hide hP
  have HSR := hide hsr
  have EH := hide eH
  have NG := hide (newGraph_any O.length (by omega) ρ w)
  clear h hP hsr hvl hvr hvn hvo hvp eH hm1
  go_enter Yba.func7, Yba.ntmps7
  go_upto_region 3 with (go_at_call 13; refine NG.out.mono ?_; rintro e w1 ⟨G, rfl, hg⟩)
  obtain ⟨ρ1, gs, gp, hg1, hs1⟩ := hg
  have HJ0 : Hid (J7c ρ w w1.heap.size G C Lb O Q P F vo vp vf vs vk vpc vps vsr vrd vsw gs gp [] (ext ρ1 w1 .clo) (w1.alloc (.cells #[.pointer (some ⟨Lb, 0, none⟩), .pointer none, .pointer (some ⟨G, 0, none⟩), .slice none 0 0, .slice none 0 0, .bool false, .slice none 0 0, .slice none 0 0, .slice none 0 0, .slice none 0 0, .slice none 0 0] 69))) := by
    have s2 : ∀ R, Stp R ρ1 w1 (ext ρ1 w1 .clo) (w1.alloc (.cells #[.pointer (some ⟨Lb, 0, none⟩), .pointer none, .pointer (some ⟨G, 0, none⟩), .slice none 0 0, .slice none 0 0, .bool false, .slice none 0 0, .slice none 0 0, .slice none 0 0, .slice none 0 0, .slice none 0 0] 69)) := fun _ => (Stp.refl _ _ _).alloc _ _
    refine ⟨(HH.out.keep hs1 (fun _ _ h => h)).keep (s2 (fun _ => False)) (fun _ _ h => h), St.new, ?_, (hs1.mono fun _ h => h.elim).trans (s2 _)⟩
    rw [succOf_nil, predOf_nil]
    exact hg1.keep (s2 (fun _ => False)) (fun h => h) (fun h => h) (fun _ h => h) (fun h => h) (fun _ h => h)
  obtain ⟨W2, e2⟩ : ∃ W2, W2 = w1.alloc (.cells #[.pointer (some ⟨Lb, 0, none⟩), .pointer none, .pointer (some ⟨G, 0, none⟩), .slice none 0 0, .slice none 0 0, .bool false, .slice none 0 0, .slice none 0 0, .slice none 0 0, .slice none 0 0, .slice none 0 0] 69) := ⟨_, rfl⟩
  obtain ⟨B, eB⟩ : ∃ B, B = w1.heap.size := ⟨_, rfl⟩
  rw [← e2, ← eB] at HJ0
  rw [← e2, ← eB]
  clear e2 eB hg1 hs1 l0 q0 NG
  have l0 := HJ0.out.base.st.cell 0 rfl
  have q1 : W2.cell? ⟨C, 1, none⟩ = some (.slice aP H.length cP) := by rw [← HVP.out]; exact HJ0.out.base.chk.chk.cell 1 rfl
  go_upto_block 0 with fail
  go_cut [6] (fun _ wx => ∃ ρr, J7c ρ w B G C Lb O Q P F vo vp vf vs vk vpc vps vsr vrd vsw gs gp (H.flatMap procE) ρr wx)
  case first =>
    go_wp2
    go_loopw [6, 7, 31] (fun _ _ i wr => ∃ q : Nat, q ≤ H.length ∧ i = .int .i64 q ∧ ∃ ρr, J7c ρ w B G C Lb O Q P F vo vp vf vs vk vpc vps vsr vrd vsw gs gp ((H.take q).flatMap procE) ρr wr) (fun _ _ i _ => H.length - (intOf i).toNat)
    case atStart => exact ⟨0, by omega, rfl, _, HJ0.out⟩
    case round =>
      obtain ⟨q, hq, rfl, ρr, hj⟩ := hrel
      by_cases hqH : q < H.length
      · have hvr := HV.out.2.1.keep hj.stp (by simp [RC, RG])
        obtain ⟨gP, cP', hvP, _, _, _⟩ := hvr.has (by omega)
        cases hvP
        have r0 := hvr.cell1 hqH HV.out.1
        have hnq := HV.out.2.2 q hqH
        obtain ⟨X, eX⟩ : ∃ X, X = H[q]! := ⟨_, rfl⟩
        have hXm : X ∈ H := by rw [eX, getElem!_pos H q hqH]; exact List.getElem_mem _
        obtain ⟨hX3, hXo⟩ := HP.out X hXm
        rw [← eX] at hnq
        obtain ⟨aX, cX, hvX, _, _⟩ := Row.form hnq
        rw [hvX] at r0 hnq
        have ixq := fun wx => idx48 (b := gP) (c := cP) hqH wx
        have hfl := flat_small (H.take q) (fun l hl => (HP.out l (List.mem_of_mem_take hl)).1)
        have HTK : Hid ((H.take (q + 1)).flatMap procE = (H.take q).flatMap procE ++ procE X) := by
          show _ = _
          rw [eX, getElem!_pos H q hqH, List.take_succ_eq_append_getElem hqH, List.flatMap_append]; simp
        rw [List.length_take] at hfl
        obtain ⟨E0, eE0⟩ : ∃ E0, E0 = (H.take q).flatMap procE := ⟨_, rfl⟩
        rw [← eE0] at hj hfl HTK
        have HNQ := hide hnq
        have HXO := hide hXo
        have HJ := hide hj
        clear hj hvr hnq eX hvX hXo hXm eE0
        go_upto_block 2 with fail
        go_wp2
        go_loopw [7] (fun i wr => ∃ k : Nat, 1 ≤ k ∧ (k ≤ X.length ∨ k = 1) ∧ i = .int .i64 k ∧ ∃ ρr, J7c ρ w B G C Lb O Q P F vo vp vf vs vk vpc vps vsr vrd vsw gs gp (E0 ++ procEk X (k - 1)) ρr wr) (fun i _ => X.length - (intOf i).toNat)
        case atStart => exact ⟨1, by omega, .inr rfl, rfl, _, by simpa [procEk] using HJ.out⟩
        case round =>
          obtain ⟨k, hk1, hk2, rfl, ρs, hj⟩ := hrel
          by_cases hkX : k < X.length
          · have hnr := HNQ.out.keep hj.stp (by simp [RC, RG])
            obtain ⟨gX, cX', hvX, _, _, _⟩ := Row.has hnr (by omega)
            cases hvX
            obtain ⟨j, hkj⟩ : ∃ j, k = j + 1 := ⟨k - 1, by omega⟩
            rw [show k - 1 = j by omega] at hj
            have x0 := hnr.cell (j := j) (by omega)
            have x1 := hnr.cell (j := k) (by omega)
            obtain ⟨u, eu⟩ : ∃ u, u = X[j]! := ⟨_, rfl⟩
            obtain ⟨v, ev⟩ : ∃ v, v = X[k]! := ⟨_, rfl⟩
            rw [← eu] at x0
            rw [← ev] at x1
            have hu : u < O.length := HXO.out u (by rw [eu, getElem!_pos X j (by omega)]; exact List.getElem_mem _)
            have hv : v < O.length := HXO.out v (by rw [ev, getElem!_pos X k (by omega)]; exact List.getElem_mem _)
            have ix0 := fun wx => idx38 (b := gX) (c := cX) (k := j) (n := X.length) (by omega) wx
            have ix1 := fun wx => idx38 (b := gX) (c := cX) (k := k) (n := X.length) (by omega) wx
            have HEL : (E0 ++ procEk X j).length ≤ 20000 := by rw [List.length_append, procEk_len]; omega
            have HNX : Hid (E0 ++ procEk X k = (E0 ++ procEk X j) ++ [(u, v)]) := by show _ = _; rw [ev, hkj, procEk_succ, eu, List.append_assoc]
            obtain ⟨E, eE⟩ : ∃ E, E = E0 ++ procEk X j := ⟨_, rfl⟩
            rw [← eE] at hj HEL HNX
            have hj' := hj.keep0 ((Stp.refl (fun _ => False) ρs wr).drewN 1)
            have GA := hide (gadd_any G (succOf O.length E) (predOf O.length E) gs gp u v ρs wr.drew (by rw [succOf_len]; exact hu) (by rw [predOf_len]; exact hv) (by have := succOf_small (n := O.length) E u; omega) (by have := predOf_small (n := O.length) E v; omega) hj'.gr)
            have c2 := hj.clo.cell 2 rfl
            have hnr' := hnr.keep ((Stp.refl (fun _ => False) ρs wr).drewN 1) (fun h => h)
            have KT : Hid (∀ wx ρx, Stp RG ρs wr.drew ρx wx → wx.cell? ⟨B, 2, none⟩ = some (.pointer (some ⟨G, 0, none⟩)) ∧ wx.cell? ⟨gX, j, none⟩ = some (.int .i64 (u : Nat)) ∧ wx.cell? ⟨gX, k, none⟩ = some (.int .i64 (v : Nat))) := fun wx ρx hst => by
              have a1 := hj'.clo.keep hst (by simp [RG])
              have a2 := NRow.keep hnr' hst (by simp [RG])
              refine ⟨a1.cell 2 rfl, ?_, ?_⟩
              · have := a2.cell (j := j) (by omega); rw [← eu] at this; exact this
              · have := a2.cell (j := k) (by omega); rw [← ev] at this; exact this
            have HJ2 := hide hj
            have HKJ := hide hkj
            clear hj hj' hnr hnr' eu ev eE hkj
            go_upto_region 9 with fail
            have hw1 : IntKind.i64.wrap ((k : Int) - 1) = j := by have := HKJ.out; simp [IntKind.wrap, IntKind.signed, IntKind.bits]; omega
            have hw2 : wrap64 ((k : Int) - 1) = j := by have := HKJ.out; clear hw1; unfold wrap64; omega
            go_region_held3 (fun wx => wx.cell? ⟨B, 2, none⟩ = some (.pointer (some ⟨G, 0, none⟩)) ∧ wx.cell? ⟨gX, j, none⟩ = some (.int .i64 (u : Nat)) ∧ wx.cell? ⟨gX, k, none⟩ = some (.int .i64 (v : Nat)))
              (first | exact KT.out _ _ hst5 | exact KT.out _ _ (Stp.refl _ _ _))
              (first | (go_at_call 14; refine GA.out.mono ?_; rintro e w5 ⟨rfl, hga⟩; have HGA := hide hga; obtain ⟨ρ5, _, hst5⟩ := hga))
            all_goals
              clear hw1 hw2
              go_wp2
              go_roundw
              case rel => exact ⟨k + 1, by omega, .inl (by omega), by go_num, by rw [Nat.add_sub_cancel, HNX.out]; exact HJ2.out.add ((Stp.refl _ _ _).drewN 1) hu hv HGA.out⟩
              case measure => simp [intOf]; omega
          · have HJs : Hid (∃ ρr, J7c ρ w B G C Lb O Q P F vo vp vf vs vk vpc vps vsr vrd vsw gs gp ((H.take (q + 1)).flatMap procE) ρr wr) := ⟨_, by rw [HTK.out]; unfold procE; rw [show X.length - 1 = k - 1 by omega]; exact hj⟩
            clear hj
            go_wp2
            go_roundw
            case rel => exact ⟨q + 1, by omega, by go_num, HJs.out⟩
            case measure => simp [intOf]; omega
      · obtain rfl : q = H.length := by omega
        rw [List.take_length] at hj
        have HJ := hide hj
        clear hj
        go_wp2
        go_meet
        case rel => exact ⟨_, HJ.out⟩
  obtain ⟨W3, e3⟩ : ∃ W3, W3 = wc := ⟨_, rfl⟩
  subst e3
  obtain ⟨ρ3, hj3⟩ := hcut
  have HE0 : (H.flatMap procE).length ≤ 9000 := Nat.le_trans (flat_small H (fun l hl => (HP.out l hl).1)) (by omega)
  obtain ⟨E0, eE0⟩ : ∃ E0, E0 = H.flatMap procE := ⟨_, rfl⟩
  rw [← eE0] at hj3 HE0
  have EE0 := hide eE0
  clear l0 q1 eE0 HJ0
  have l0 := hj3.base.st.cell 0 rfl
  have q0 : W3.cell? ⟨C, 0, none⟩ = some (.slice ao O.length co) := by rw [← HVO.out]; exact hj3.base.chk.chk.cell 0 rfl
  have HJ3 := hide hj3
  clear hj3
  go_upto_block 4 with fail
  go_cut [8] (fun _ wx => ∃ ρr, J7c ρ w B G C Lb O Q P F vo vp vf vs vk vpc vps vsr vrd vsw gs gp (E0 ++ srcE O O.length) ρr wx)
  case first =>
    go_wp2
    go_loopw [8, 9, 64] (fun _ _ i wr => ∃ k : Nat, k ≤ O.length ∧ i = .int .i64 k ∧ ∃ ρr, J7c ρ w B G C Lb O Q P F vo vp vf vs vk vpc vps vsr vrd vsw gs gp (E0 ++ srcE O k) ρr wr) (fun _ _ i _ => O.length - (intOf i).toNat)
    case atStart => exact ⟨0, by omega, rfl, _, by simpa [srcE] using HJ3.out⟩
    case round =>
      clear HJ3 l0 q0
      obtain ⟨k, hk, rfl, ρr, hj⟩ := hrel
      by_cases hlt : k < O.length
      · have hor : Row ρr wr .ops 74 6 (.slice ao O.length co) O.length (flatO O) := by rw [← HVO.out]; exact hj.base.chk.ops
        obtain ⟨gO, cO, hvO, _, _, _⟩ := hor.has (by omega)
        cases hvO
        obtain ⟨gr, cr, hvr, _, _, _⟩ := Row.has hj.base.src (by omega)
        obtain ⟨x, hx⟩ : ∃ x, x = (opAt O k) := ⟨_, rfl⟩
        have hop := hor.op rfl hlt
        rw [← hx] at hop
        obtain ⟨p0, p1, p2, p3, p4, p5⟩ := hop
        have hidx := fun wx => idx47 (b := gO) (c := co) hlt wx
        have HJ := hide hj
        have HX := hide hx
        have HVS := hide hvr
        clear hj hor hx hvr
        go_upto_region 14 with fail
        have hs8 : Stp (fun _ => False) ρr wr (ext ρr wr .no) (wr.alloc (.cells #[.int .i64 0, .string (kd x.rd), .string (kn x.kx), .string ⟨#[]⟩, .string ⟨#[]⟩, .int .i64 0] 74)) := (Stp.refl _ _ _).alloc _ _
        have hj8 := HJ.out.keep0 hs8
        have hb8 : (wr.alloc (.cells #[.int .i64 0, .string (kd x.rd), .string (kn x.kx), .string ⟨#[]⟩, .string ⟨#[]⟩, .int .i64 0] 74)).heap[wr.heap.size]? = some (.cells #[.int .i64 0, .string (kd x.rd), .string (kn x.kx), .string ⟨#[]⟩, .string ⟨#[]⟩, .int .i64 0] 74) := heap_alloc_new _ _
        obtain ⟨W8, e8⟩ : ∃ W8, W8 = wr.alloc (.cells #[.int .i64 0, .string (kd x.rd), .string (kn x.kx), .string ⟨#[]⟩, .string ⟨#[]⟩, .int .i64 0] 74) := ⟨_, rfl⟩
        obtain ⟨cb, ecb⟩ : ∃ cb, cb = wr.heap.size := ⟨_, rfl⟩
        obtain ⟨ρ8, r8⟩ : ∃ ρ8, ρ8 = ext ρr wr .no := ⟨_, rfl⟩
        rw [← e8, ← r8] at hj8
        rw [← e8, ← ecb] at hb8
        rw [← e8, ← ecb]
        have c1 := cell_blk (i := 1) hb8 rfl
        have HJ8 := hide hj8
        clear e8 ecb r8 p0 p1 p2 p3 p4 p5 hidx hj8 hb8 hs8
        cases hrd : x.rd with
        | false =>
          rw [hrd] at c1
          have hkd : kd false = ⟨#[119, 114, 105, 116, 101]⟩ := rfl
          rw [hkd] at c1
          have HSE : Hid (E0 ++ srcE O (k + 1) = E0 ++ srcE O k) := by show _ = _; rw [srcE_succ, if_neg (by rw [← HX.out, hrd]; simp), List.append_nil]
          clear hrd hkd
          go_wp2
          go_roundw
          case rel => exact ⟨k + 1, by omega, by go_num, _, by rw [HSE.out]; exact HJ8.out⟩
          case measure => simp [intOf]; omega
        | true =>
          rw [hrd] at c1
          have hkd : kd true = ⟨#[114, 101, 97, 100]⟩ := rfl
          rw [hkd] at c1
          have hs0 := HSR.out k hlt (by rw [← HX.out]; exact hrd)
          obtain ⟨s, hs⟩ : ∃ s : Nat, sI O k = (s : Nat) := ⟨(sI O k).toNat, by omega⟩
          have l5 : W8.cell? ⟨Lb, 5, none⟩ = some (.slice (some ⟨gr, 0, none⟩) O.length cr) := by rw [← HVS.out]; exact HJ8.out.base.st.cell 5 rfl
          have sc : W8.cell? ⟨gr, k, none⟩ = some (.int .i64 (s : Nat)) := by rw [← hs]; exact FRow.cell (by rw [← HVS.out]; exact HJ8.out.base.src) hlt
          have ixs := fun wx => idx38 (b := gr) (c := cr) hlt wx
          by_cases hsn : s < O.length
          · have HSE : Hid (E0 ++ srcE O (k + 1) = (E0 ++ srcE O k) ++ [(s, k)]) := by show _ = _; rw [srcE_succ, if_pos ⟨by rw [← HX.out, hrd], by omega⟩, hs, Int.toNat_natCast, List.append_assoc]
            have HEL : (E0 ++ srcE O k).length ≤ 20000 := by rw [List.length_append]; have := srcE_len O k; omega
            obtain ⟨E, eE⟩ : ∃ E, E = E0 ++ srcE O k := ⟨_, rfl⟩
            rw [← eE] at HJ8 HEL HSE
            have hj' := HJ8.out.keep0 ((Stp.refl (fun _ => False) ρ8 W8).drewN 1)
            have GA := hide (gadd_any G (succOf O.length E) (predOf O.length E) gs gp s k ρ8 W8.drew (by rw [succOf_len]; exact hsn) (by rw [predOf_len]; exact hlt) (by have := succOf_small (n := O.length) E s; omega) (by have := predOf_small (n := O.length) E k; omega) hj'.gr)
            have c2 := HJ8.out.clo.cell 2 rfl
            have KT : Hid (∀ wx ρx, Stp RG ρ8 W8.drew ρx wx → wx.cell? ⟨B, 2, none⟩ = some (.pointer (some ⟨G, 0, none⟩)) ∧ wx.cell? ⟨Lb, 5, none⟩ = some (.slice (some ⟨gr, 0, none⟩) O.length cr) ∧ wx.cell? ⟨gr, k, none⟩ = some (.int .i64 (s : Nat))) := fun wx ρx hst => by
              have a1 := hj'.clo.keep hst (by simp [RG])
              have a2 := hj'.base.keep hst (fun r hr => RG.rs hr)
              refine ⟨a1.cell 2 rfl, ?_, ?_⟩
              · rw [← HVS.out]; exact a2.st.cell 5 rfl
              · rw [← hs]; exact FRow.cell (by rw [← HVS.out]; exact a2.src) hlt
            clear hj' hs eE hrd hkd hs0
            go_upto_region 15 with fail
            go_region_held3 (fun wx => wx.cell? ⟨B, 2, none⟩ = some (.pointer (some ⟨G, 0, none⟩)) ∧ wx.cell? ⟨Lb, 5, none⟩ = some (.slice (some ⟨gr, 0, none⟩) O.length cr) ∧ wx.cell? ⟨gr, k, none⟩ = some (.int .i64 (s : Nat)))
              (first | exact KT.out _ _ hst5 | exact KT.out _ _ (Stp.refl _ _ _))
              (first | (go_at_call 14; refine GA.out.mono ?_; rintro e w5 ⟨rfl, hga⟩; have HGA := hide hga; obtain ⟨ρ5, _, hst5⟩ := hga))
            all_goals
              go_wp2
              go_roundw
              case rel => exact ⟨k + 1, by omega, by go_num, by rw [HSE.out]; exact HJ8.out.add ((Stp.refl _ _ _).drewN 1) hsn hlt HGA.out⟩
              case measure => simp [intOf]; omega
          · have HSE : Hid (E0 ++ srcE O (k + 1) = E0 ++ srcE O k) := by show _ = _; rw [srcE_succ, if_neg (by rw [hs]; omega), List.append_nil]
            have hge : decide ((s : Int) < (O.length : Int)) = false := by simp; omega
            clear hs hrd hkd hs0
            go_wp2
            go_roundw
            case rel => exact ⟨k + 1, by omega, by go_num, _, by rw [HSE.out]; exact HJ8.out⟩
            case measure => simp [intOf]; omega
      · obtain rfl : k = O.length := by omega
        have HJ := hide hj
        clear hj
        go_wp2
        go_meet
        case rel => exact ⟨_, HJ.out⟩
  have HN := hide hcut
  clear hcut
  go_wp2
  go_ret
  exact ⟨B, rfl, G, gs, gp, by rw [← EH.out, ← EE0.out]; exact HN.out⟩
end Go.Proofs.Ybulknju
