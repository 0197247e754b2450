import Derived.Test.YbulknjuLayR
namespace Go.Proofs.Ybulknju
open Go.RowKit Go.Maps Go.WideMaps

set_option maxHeartbeats 8000000 in
set_option maxRecDepth 100000 in
theorem layout_any (C : Nat) (O : List OpR) (Q : List Nat) (P : Nat → List Nat) (vo vp vf vs : Value) (ρ : Rho) (w : World) (hO : O.length ≤ 2000) (hkx : ∀ i, kxO O i < 2) (hP : ∀ l ∈ Q.map P, ∀ o ∈ l, o < O.length) (hfr : ∀ r, r < O.length → (opAt O r).rd = true → (opAt O r).fr = -1 ∨ 0 ≤ (opAt O r).fr ∧ (opAt O r).fr < O.length)
    (h : Chk ρ w C O Q P vo vp vf vs) :
    Calls Yba.prog 8 #[.pointer (some ⟨C, 0, none⟩)] w fun e w' => ∃ Lb, e = .returned (.pointer (some ⟨Lb, 0, none⟩)) ∧ Laid ρ w Lb C O w' := by
  obtain ⟨ao, co, hvo, _, _⟩ := h.ops.form
  subst hvo
  obtain ⟨vl, hvl, hvr, hvn⟩ := h.prc.ex
  obtain ⟨aP, cP, hvp, hm1, hm2⟩ := hvr.form
  subst hvp
  obtain ⟨F, eF⟩ : ∃ F, F = Q.map P := ⟨_, rfl⟩
  rw [← eF] at hvl hvr hvn hP hm1
  have hFm : F.length ≤ 9223372036854775807 := by unfold maxLen at hm2; omega
  have HV : Hid (vl.length = F.length ∧ Row ρ w .procs 38 1 (.slice aP F.length cP) F.length vl ∧ ∀ i, i < F.length → NRow ρ w (.proc Q[i]!) vl[i]! F[i]!) := by rw [← eF] at h; exact ⟨hvl, by rw [eF] at hvr ⊢; exact hvr, hvn⟩
  have q1 := h.chk.cell 1 rfl
  rw [← eF] at q1
  have q0 := h.chk.cell 0 rfl
  have HH := hide h
  have hmk := run_make_row' (P := Yba.prog) 38 3 (.int .i64 0) 8 Yba.underlying38 info3 rfl .i64 .i64 O.length (by omega) (by omega)
  have HFR := hide hfr
  have HPP := hide hP
  have HKX := hide hkx
  clear h hP hfr hkx hvl hvr hvn eF
  go_enter Yba.func8, Yba.ntmps8
  go_upto_region 2 with fail
  refine reg8_2_any C O ρ w hO _ _ _ _ _ _ _ _ _ _ _ _ _ _ _ _ _ _ _ _ _ _ _ _ _ _ _ _ _ _ _ _ _ _ _ _ _ _ _ _ _ _ _ _ _ _ _ _ _ _ _ _ _ _ _ _ _ _ _ _ _ _ _ _ _ _ _ _ _ _ _ _ _ _ _ _ _ _ _ _ _ _ _ _ _ _ _ _ _ _ _ _ _ _ _ _ _ _ _ _ _ _ _ _ _ _ _ _ _ _ _ _ _ _ _ _ _ _ _ _ _ _ _ _ _ _ _ _ _ _ _ _ _ _ _ _ _ _ _ _ _ _ _ _ _ _ _ _ _ _ _ _ _ _ _ _ _ _ _ _ _ _ _ _ _ _ _ _ _ _ _ _ _ _ _ _ _ _ _ _ _ _ _ _ _ _ _ _ _ _ _ _ _ _ _ _ _ _ _ _ _ _ _ _ _ _ _ _ _ _ _ _ _ _ _ _ _ _ _ _ _ _ _ _ _ _ _ _ _ _ _ _ _ _ _ _ _ _ _ _ _ _ ?_
  rintro Lb W1 x22 x23 x24 x25 x26 x27 x28 x29 x30 x31 x32 ⟨vk, vpc, vps, vsr, ρ1, hl1, hs1⟩
  have hc1 := HH.out.keepL hs1
  have q0a := fun o => cell?_alloc_old o (hc1.chk.cell 0 rfl)
  obtain ⟨M, eM⟩ : ∃ M, M = W1.heap.size := ⟨_, rfl⟩
  have HJ0 : Hid (J8 ρ w Lb C M O 0 vk vpc vps vsr (ext ρ1 W1 .mp) (W1.alloc (.map #[] 0))) := by
    have hs2 : ∀ R, Stp R ρ1 W1 (ext ρ1 W1 .mp) (W1.alloc (.map #[] 0)) := fun _ => (Stp.refl _ _ _).alloc _ _
    refine ⟨(hl1.keep (hs2 (fun _ => False)) (fun h => h) (fun h => h) (fun h => h) (fun h => h) (fun h => h)), ⟨?_, ?_⟩, hs1.trans (hs2 _)⟩
    · rw [eM]; exact World.ownsMap_made W1 _ _ _
    · rw [eM]; exact ext_new (Nat.le_refl _)
  clear hc1 hl1 hs1 q0 hmk
  have hmm := @run_makeMap Yba.prog
  go_upto_block 0 with fail
  rw [← eM]
  obtain ⟨W2, e2⟩ : ∃ W2, W2 = W1.alloc (.map #[] 0) := ⟨_, rfl⟩
  obtain ⟨ρ2, r2⟩ : ∃ ρ2, ρ2 = ext ρ1 W1 .mp := ⟨_, rfl⟩
  rw [← e2, ← r2] at HJ0
  rw [← e2]
  clear e2 r2 eM q0a hmm
  go_cut [6] (fun _ wx => ∃ ρr, J8 ρ w Lb C M O O.length vk vpc vps vsr ρr wx)
  case first =>
    go_wp2
    go_loopw [6, 7, 8, 9, 39] (fun _ _ _ _ i wr => ∃ k : Nat, k ≤ O.length ∧ i = .int .i64 k ∧ ∃ ρr, J8 ρ w Lb C M O k vk vpc vps vsr ρr wr) (fun _ _ _ _ i _ => O.length - (intOf i).toNat)
    case atStart => exact ⟨0, by omega, rfl, _, HJ0.out⟩
    case round =>
      clear HJ0
      obtain ⟨k, hk, rfl, ρr, hj⟩ := hrel
      by_cases hlt : k < O.length
      · have hcr := HH.out.keepL hj.stp
        obtain ⟨gO, cO, hvO, _, _, _⟩ := hcr.ops.has (by omega)
        cases hvO
        obtain ⟨gk, ck, hvk, _, _, _⟩ := Row.has hj.lay.key (by omega)
        subst hvk
        obtain ⟨x, hx⟩ : ∃ x, x = (opAt O k) := ⟨_, rfl⟩
        have hop := hcr.ops.op rfl hlt
        rw [← hx] at hop
        obtain ⟨p0, p1, p2, p3, p4, p5⟩ := hop
        have hidx := fun wx => idx47 (b := gO) (c := co) hlt wx
        have HX : Hid (x.kx = kxO O k) := by show _ = _; rw [hx]; rfl
        have HJ := hide hj
        clear hj hcr hx
        go_upto_region 7 with fail
        have hk6 : ∀ R, Stp R ρr wr (ext ρr wr .no) (wr.alloc (.cells #[.int .i64 0, .string (kd x.rd), .string (kn x.kx), .string ⟨#[]⟩, .string ⟨#[]⟩, .int .i64 0] 74)) := fun _ => (Stp.refl _ _ _).alloc _ _
        have hb6 : (wr.alloc (.cells #[.int .i64 0, .string (kd x.rd), .string (kn x.kx), .string ⟨#[]⟩, .string ⟨#[]⟩, .int .i64 0] 74)).heap[wr.heap.size]? = some (.cells #[.int .i64 0, .string (kd x.rd), .string (kn x.kx), .string ⟨#[]⟩, .string ⟨#[]⟩, .int .i64 0] 74) := heap_alloc_new _ _
        obtain ⟨W6, e6⟩ : ∃ W6, W6 = wr.alloc (.cells #[.int .i64 0, .string (kd x.rd), .string (kn x.kx), .string ⟨#[]⟩, .string ⟨#[]⟩, .int .i64 0] 74) := ⟨_, rfl⟩
        obtain ⟨cb, ecb⟩ : ∃ cb, cb = wr.heap.size := ⟨_, rfl⟩
        obtain ⟨ρ6, e6'⟩ : ∃ ρ6, ρ6 = ext ρr wr .no := ⟨_, rfl⟩
        rw [← e6, ← e6'] at hk6
        rw [← e6, ← ecb] at hb6
        rw [← e6, ← ecb]
        have hl6 := HJ.out.lay.keep (hk6 (fun _ => False)) (fun h => h) (fun h => h) (fun h => h) (fun h => h) (fun h => h)
        have hm6 := HJ.out.map.keep (hk6 (fun _ => False)) (fun h => h)
        have HJ6 : Hid (J8 ρ w Lb C M O k (.slice (some ⟨gk, 0, none⟩) O.length ck) vpc vps vsr ρ6 W6) := ⟨hl6, hm6, HJ.out.stp.trans (hk6 _)⟩
        have l2 := hl6.st.cell 2 rfl
        have c2 := cell_blk (i := 2) hb6 rfl
        have kc := hl6.key.cell hlt
        have kf := Row.free hl6.key k
        have ix := fun wx => idx38 (b := gk) (c := ck) hlt wx
        have hxl : x.kx < 2 := by rw [HX.out]; exact HKX.out k
        have hfm := tabK_forms (kxO O) HKX.out k
        obtain ⟨v, ps, hrun, hR⟩ := hm6.own.look_ok law Yba.underlying75 (zero3 _) (plainElem_int Yba.underlying3 (by decide)) (keyOf_kn x.kx)
        rw [tab_has hfm hxl] at hrun
        obtain ⟨vi, hvi, _, _⟩ := plainElem_int_inv Yba.underlying3 hR
        subst hvi
        clear e6 ecb e6' p0 p1 p2 p3 p4 p5 hidx hb6
        by_cases hmem : x.kx ∈ tabK (kxO O) k
        · have hd : decide (x.kx ∈ tabK (kxO O) k) = true := decide_eq_true hmem
          rw [hd] at hrun
          rw [tab_at hfm hxl hmem] at hR
          have hvi : vi = ((tabK (kxO O) k).idxOf x.kx : Nat) := by
            have := plainElem_int_inv (q := .i64) Yba.underlying3 hR
            obtain ⟨c, hc, hd, _⟩ := this
            cases hc
            have h9 := hd.symm
            simp at h9
            exact h9.1
          have hT : tabK (kxO O) (k + 1) = tabK (kxO O) k := by simp only [tabK]; rw [if_pos (by rw [← HX.out]; exact hmem)]
          have HY : Hid (keyK (kxO O) k = (tabK (kxO O) k).idxOf x.kx) := by show _ = _; unfold keyK; rw [hT, ← HX.out]
          have HM : Hid (MapAt ρ6 W6 M (tabK (kxO O) (k + 1)) (k + 1)) := ⟨by rw [hT]; exact hm6.own.mono (by omega), hm6.role⟩
          subst hvi
          obtain ⟨y, ey⟩ : ∃ y, y = (tabK (kxO O) k).idxOf x.kx := ⟨_, rfl⟩
          rw [← ey] at hrun HY
          clear hR hmem hd hT hfm hl6 hm6 hk6 ey
          go_wp2
          go_roundw
          case rel => exact ⟨k + 1, by omega, by go_num, _, HJ6.out.next (Stp.refl _ _ _) HM.out HY.out⟩
          case measure => simp [intOf]; omega
        · have hd : decide (x.kx ∈ tabK (kxO O) k) = false := decide_eq_false hmem
          rw [hd] at hrun
          have hlen := fun ty => hm6.own.len Yba.underlying75 ty
          rw [tab_size hfm] at hlen
          have htl := tabK_len (kxO O) HKX.out k
          obtain ⟨w7, hup, how, hgw⟩ := hm6.own.update (val := .int .i64 ((tabK (kxO O) k).length : Nat)) law Yba.underlying75 (by unfold maxLen; omega) (keyOf_kn x.kx) (plainElem_int Yba.underlying3 (by simp [Lit.wf, IntKind.min, IntKind.max, IntKind.signed, IntKind.bits]; omega))
          rw [tab_put hfm hxl hmem] at how
          have hT : tabK (kxO O) (k + 1) = tabK (kxO O) k ++ [x.kx] := by simp only [tabK]; rw [if_neg (by rw [← HX.out]; exact hmem), HX.out]
          have HY : Hid (keyK (kxO O) k = (tabK (kxO O) k).length) := by
            show _ = _
            unfold keyK
            rw [hT, ← HX.out, List.idxOf_append, if_neg hmem]; simp
          have hs7 : Stp (fun q => q = .mp) ρ6 W6 (ext ρ6 W6 .no) w7 := ⟨hgw.os, hgw.tape, hgw.output, hgw.size, fun j hj hn => hgw.block j hj (fun e => by cases e; exact hn hm6.role), fun j hj => ext_old hj⟩
          have HS7 := hide hs7
          have HM : Hid (MapAt (ext ρ6 W6 .no) w7 M (tabK (kxO O) (k + 1)) (k + 1)) := ⟨by rw [hT]; exact how, (hs7.role M hm6.own.lt).trans hm6.role⟩
          have hl7 := hl6.keep hs7 (by decide) (by decide) (by decide) (by decide) (by decide)
          have l27 := hl7.st.cell 2 rfl
          have kc7 := hl7.key.cell hlt
          have kf7 := Row.free hl7.key k
          obtain ⟨T, eT⟩ : ∃ T, T = (tabK (kxO O) k).length := ⟨_, rfl⟩
          rw [← eT] at hup HY hlen
          clear hR hmem hd hT hfm hl6 hm6 hk6 eT how hgw hs7 hl7 htl
          go_wp2
          go_roundw
          case rel => exact ⟨k + 1, by omega, by go_num, _, HJ6.out.next HS7.out HM.out HY.out⟩
          case measure => simp [intOf]; omega
      · obtain rfl : k = O.length := by omega
        have HJ := hide hj
        clear hj
        go_wp2
        go_meet
        case rel => exact ⟨_, HJ.out⟩
  obtain ⟨W3, e3⟩ : ∃ W3, W3 = wc := ⟨_, rfl⟩
  subst e3
  obtain ⟨ρ3, hj3⟩ := hcut
  have hlen3 := fun ty => hj3.map.own.len Yba.underlying75 ty
  rw [tab_size (tabK_forms (kxO O) HKX.out O.length)] at hlen3
  have l1 := hj3.lay.st.cell 1 rfl
  have f1 := hj3.lay.st.free 1
  have hs4 := hj3.lay.st.store 1 (.int .i64 ((tabK (kxO O) O.length).length : Nat))
  have HJ4 : Hid (J9 ρ w Lb C M O vk vpc vps vsr (.slice none 0 0) (.slice none 0 0) ρ3 (W3.setCell ⟨Lb, 1, none⟩ (.int .i64 ((tabK (kxO O) O.length).length : Nat)))) := by
    obtain ⟨f1, g1⟩ := hj3.lay.prc
    obtain ⟨f2, g2⟩ := hj3.lay.pos
    exact ⟨⟨hj3.lay.st.set 1 _, (hj3.lay.key.keep hs4 (by decide)).congr (fun i hi => if_pos hi), ⟨f1, g1.keep hs4 (by decide)⟩, ⟨f2, g2.keep hs4 (by decide)⟩, hj3.lay.src.keep hs4 (by decide)⟩, hj3.map.keep hs4 (by decide), hj3.stp.trans (hs4.one (by simp [RL]))⟩
  obtain ⟨T, eT⟩ : ∃ T, T = (tabK (kxO O) O.length).length := ⟨_, rfl⟩
  have htl := tabK_len (kxO O) HKX.out O.length
  rw [← eT] at hlen3 htl HJ4
  have ET := hide eT
  clear hj3 hs4 eT
  go_upto_region 14 with fail
  obtain ⟨W4, e4⟩ : ∃ W4, W4 = W3.setCell ⟨Lb, 1, none⟩ (.int .i64 (T : Nat)) := ⟨_, rfl⟩
  rw [← e4] at HJ4 ⊢
  clear e4 l1 f1 hlen3
  have q1' : W4.cell? ⟨C, 1, none⟩ = some (.slice aP F.length cP) := by
    have := (HH.out.keepL HJ4.out.stp).chk.cell 1 rfl
    rw [this]; exact (HH.out.chk.cell 1 rfl).symm.trans q1
  go_upto_block 2 with fail
  go_cut [10] (fun _ wx => ∃ ρr, J9 ρ w Lb C M O vk vpc vps vsr (.slice none 0 0) (.slice none 0 0) ρr wx)
  case first =>
    go_wp2
    go_loopw [10, 11, 12, 13, 77, 84] (fun _ _ _ _ i _ wr => ∃ q : Nat, q ≤ F.length ∧ i = .int .i64 q ∧ ∃ ρr, J9 ρ w Lb C M O vk vpc vps vsr (.slice none 0 0) (.slice none 0 0) ρr wr) (fun _ _ _ _ i _ _ => F.length - (intOf i).toNat)
    case atStart => exact ⟨0, by omega, rfl, _, HJ4.out⟩
    case round =>
      obtain ⟨q, hq, rfl, ρr, hj⟩ := hrel
      by_cases hqF : q < F.length
      · have hvr := HV.out.2.1.keep hj.stp (by simp [RL])
        obtain ⟨gP, cP', hvP, _, _, _⟩ := hvr.has (by omega)
        cases hvP
        have r0 := hvr.cell1 hqF HV.out.1
        have hnq := HV.out.2.2 q hqF
        obtain ⟨X, eX⟩ : ∃ X, X = F[q]! := ⟨_, rfl⟩
        have hXo : ∀ o ∈ X, o < O.length := HPP.out X (by rw [eX, getElem!_pos F q hqF]; exact List.getElem_mem _)
        rw [← eX] at hnq
        obtain ⟨aX, cX, hvX, hm3, hm4⟩ := Row.form hnq
        have hXm : X.length ≤ 9223372036854775807 := by unfold maxLen at hm4; omega
        rw [hvX] at r0 hnq
        have ixq := fun wx => idx48 (b := gP) (c := cP) hqF wx
        have HNQ := hide hnq
        have HXO := hide hXo
        have HJ := hide hj
        clear hj hvr hnq eX hvX hXo
        go_upto_block 4 with fail
        go_wp2
        go_loopw [12, 13, 84] (fun _ _ i wr => ∃ k : Nat, k ≤ X.length ∧ i = .int .i64 k ∧ ∃ ρr, J9 ρ w Lb C M O vk vpc vps vsr (.slice none 0 0) (.slice none 0 0) ρr wr) (fun _ _ i _ => X.length - (intOf i).toNat)
        case atStart => exact ⟨0, by omega, rfl, _, HJ.out⟩
        case round =>
          obtain ⟨k, hk, rfl, ρs, hj⟩ := hrel
          by_cases hkX : k < X.length
          · have hnr := HNQ.out.keep hj.stp (by simp [RL])
            obtain ⟨gX, cX', hvX, _, _, _⟩ := Row.has hnr (by omega)
            cases hvX
            have x0 := hnr.cell hkX
            obtain ⟨o, eo⟩ : ∃ o, o = X[k]! := ⟨_, rfl⟩
            have hon : o < O.length := HXO.out o (by rw [eo, getElem!_pos X k hkX]; exact List.getElem_mem _)
            rw [← eo] at x0
            obtain ⟨fp, hfp⟩ := hj.lay.prc
            obtain ⟨fq, hfq⟩ := hj.lay.pos
            obtain ⟨gp, cp, hvp, _, hgp, _⟩ := Row.has hfp (by omega)
            obtain ⟨gq, cq, hvq, _, hgq, _⟩ := Row.has hfq (by omega)
            subst hvp
            subst hvq
            have ixk := fun wx => idx38 (b := gX) (c := cX) hkX wx
            have ixp := fun wx => idx38 (b := gp) (c := cp) hon wx
            have ixo := fun wx => idx38 (b := gq) (c := cq) hon wx
            have l3 := hj.lay.st.cell 3 rfl
            have l4 := hj.lay.st.cell 4 rfl
            have pc := hfp.cell hon
            have pf := Row.free hfp o
            have oc := hfq.cell hon
            have of' := Row.free hfq o
            have npq := role_ne hgp hgq (by decide)
            have nqp := role_ne hgq hgp (by decide)
            have HJs : Hid (∃ ρr, J9 ρ w Lb C M O vk (.slice (some ⟨gp, 0, none⟩) O.length cp) (.slice (some ⟨gq, 0, none⟩) O.length cq) vsr (.slice none 0 0) (.slice none 0 0) ρr ((wr.setCell ⟨gp, o, none⟩ (.int .i64 (q : Nat))).setCell ⟨gq, o, none⟩ (.int .i64 (k : Nat)))) := by
              have s1 := Row.store hfp o (.int .i64 (q : Nat))
              have a1 := hfp.set o (q : Nat)
              have b1 := hfq.keep s1 (by decide)
              have s2 := Row.store b1 o (.int .i64 (k : Nat))
              exact ⟨ρs, ⟨(hj.lay.st.keep s1 (by decide)).keep s2 (by decide), (hj.lay.key.keep s1 (by decide)).keep s2 (by decide), ⟨_, a1.keep s2 (by decide)⟩, ⟨_, b1.set o (k : Nat)⟩, (hj.lay.src.keep s1 (by decide)).keep s2 (by decide)⟩, (hj.map.keep s1 (by decide)).keep s2 (by decide), (hj.stp.trans (s1.one (by simp [RL]))).trans (s2.one (by simp [RL]))⟩
            clear hj hnr eo hfp hfq hgp hgq
            go_upto_region 20 with fail
            go_region
            all_goals
              go_wp2
              go_roundw
              case rel =>
                obtain ⟨ρz, hz⟩ := HJs.out
                exact ⟨k + 1, by omega, by go_num, ρz, hz.drew⟩
              case measure => simp [intOf]; omega
          · obtain rfl : k = X.length := by omega
            have HJs := hide hj
            clear hj
            go_wp2
            go_roundw
            case rel => exact ⟨q + 1, by omega, by go_num, _, HJs.out⟩
            case measure => simp [intOf]; omega
      · obtain rfl : q = F.length := by omega
        have HJ := hide hj
        clear hj
        go_wp2
        go_meet
        case rel => exact ⟨_, HJ.out⟩
  obtain ⟨W5, e5⟩ : ∃ W5, W5 = wc := ⟨_, rfl⟩
  subst e5
  obtain ⟨ρ5, hj5⟩ := hcut
  have hT5 := tab_size (tabK_forms (kxO O) HKX.out O.length)
  have HLEN : Hid (∀ wx, MapAt ρ5 wx M (tabK (kxO O) O.length) O.length → ∀ ty, (Builtin.len_ #[75] ty #[.map (some M)]).run Yba.prog wx = .ok (.int .i64 (T : Nat)) wx) := fun wx hm ty => by
    have := hm.own.len Yba.underlying75 ty
    rw [hT5, ← ET.out] at this; exact this
  have HJ5 := hide hj5
  have hlen5 := HLEN.out W5 hj5.map
  have hmk := fun wx => run_make_row' (P := Yba.prog) 48 38 (.slice none 0 0) 24 Yba.underlying48 info38 rfl .i64 .i64 (O.length + T) (by omega) (by omega) wx
  simp only [Int.natCast_add] at hmk
  obtain ⟨m, em⟩ : ∃ m, m = O.length + T := ⟨_, rfl⟩
  rw [← em] at hmk
  have l6 := fun o => cell?_alloc_old o (hj5.lay.st.cell 6 rfl)
  have f6 : ∀ o, (W5.alloc o).frozen? ⟨Lb, 6, none⟩ = false := fun o => (hj5.lay.st.keep ((Stp.refl (fun _ => False) ρ5 W5).alloc o .no) (fun h => h)).free 6
  clear hj5 hT5
  go_upto_region 24 with fail
  have hj5 := HJ5.out
  obtain ⟨a6, b6, c6⟩ := hj5.lay.rd (O.length + T) (by unfold maxLen; omega)
  have m6 := hj5.map.keep c6 (by decide)
  have t6 := hj5.stp.trans (c6.one (by simp [RL]))
  have z6 : W5.heap.size ≤ ((W5.alloc (.cells (madeCells #[.slice none 0 0] (O.length + T)) 38)).setCell ⟨Lb, 6, none⟩ (.slice (some ⟨W5.heap.size, 0, none⟩) (O.length + T) (O.length + T))).heap.size := c6.size
  obtain ⟨W6, e6⟩ : ∃ W6, W6 = (W5.alloc (.cells (madeCells #[.slice none 0 0] (O.length + T)) 38)).setCell ⟨Lb, 6, none⟩ (.slice (some ⟨W5.heap.size, 0, none⟩) (O.length + T) (O.length + T)) := ⟨_, rfl⟩
  obtain ⟨ρ6, r6⟩ : ∃ ρ6, ρ6 = ext ρ5 W5 .rdH := ⟨_, rfl⟩
  rw [← e6, ← r6] at a6 b6 m6 t6 c6
  rw [← e6]
  obtain ⟨gr, egr⟩ : ∃ gr, gr = W5.heap.size := ⟨_, rfl⟩
  rw [← egr] at a6 b6
  rw [← egr]
  have hlen6 : ∀ ty, (Builtin.len_ #[75] ty #[.map (some M)]).run Yba.prog W6 = .ok (.int .i64 (T : Nat)) W6 := fun ty => by
    have := m6.own.len Yba.underlying75 ty
    rw [tab_size (tabK_forms (kxO O) HKX.out O.length), ← ET.out] at this; exact this
  clear hlen5 l6 f6
  have l7 := fun o => cell?_alloc_old o (a6.st.cell 7 rfl)
  have f7 : ∀ o, (W6.alloc o).frozen? ⟨Lb, 7, none⟩ = false := fun o => (a6.st.keep ((Stp.refl (fun _ => False) ρ6 W6).alloc o .no) (fun h => h)).free 7
  have H6 : Hid (LayB ρ6 W6 Lb C O.length ((tabK (kxO O) O.length).length : Nat) (fun i => (keyK (kxO O) i : Nat)) (fun _ => 0) vk vpc vps vsr (.slice (some ⟨gr, 0, none⟩) (O.length + T) (O.length + T)) (.slice none 0 0) ∧ Rag ρ6 W6 .rdH .rd (.slice (some ⟨gr, 0, none⟩) (O.length + T) (O.length + T)) (List.replicate (O.length + T) []) ∧ Stp RL ρ w ρ6 W6) := ⟨a6, b6, t6⟩
  clear hj5 a6 b6 c6 m6 t6 z6 e6 r6 egr HJ5
  go_upto_region 25 with fail
  obtain ⟨a6, b6, t6⟩ := H6.out
  obtain ⟨a7, c7⟩ := a6.sw (O.length + T)
  have b7 := b6.keep c7 (by decide) (by simp)
  have t7 := t6.trans (c7.one (by simp [RL]))
  obtain ⟨W7, e7⟩ : ∃ W7, W7 = (W6.alloc (.cells (madeCells #[.slice none 0 0] (O.length + T)) 38)).setCell ⟨Lb, 7, none⟩ (.slice (some ⟨W6.heap.size, 0, none⟩) (O.length + T) (O.length + T)) := ⟨_, rfl⟩
  obtain ⟨ρ7, r7⟩ : ∃ ρ7, ρ7 = ext ρ6 W6 .swH := ⟨_, rfl⟩
  obtain ⟨vsw, evw⟩ : ∃ vsw, vsw = Value.slice (some ⟨W6.heap.size, 0, none⟩) (O.length + T) (O.length + T) := ⟨_, rfl⟩
  rw [← evw] at a7 b7 t7 e7
  rw [← evw]
  rw [← e7, ← r7] at a7 b7 t7
  rw [← e7]
  have HJ7 : Hid (J10 ρ w Lb C O (fun _ => 0) (List.replicate (O.length + T) []) vk vpc vps vsr (.slice (some ⟨gr, 0, none⟩) (O.length + T) (O.length + T)) vsw ρ7 W7) := ⟨a7, b7, t7⟩
  have HR7 : Hid (RdOk O 0 (List.replicate (O.length + T) [])) := ⟨by rw [List.length_replicate, ET.out], fun s => by
      rcases Nat.lt_or_ge s (O.length + T) with h | h
      · rw [getElem!_pos _ s (by simpa using h)]; simp
      · rw [getElem!_neg _ s (by simp; omega)]; exact Nat.zero_le _, fun s r hr => by
      rcases Nat.lt_or_ge s (O.length + T) with h | h
      · rw [getElem!_pos _ s (by simpa using h)] at hr; simp at hr
      · rw [getElem!_neg _ s (by simp; omega)] at hr; cases hr⟩
  have q7 := (HH.out.keepL t7).chk.cell 0 rfl
  clear a6 b6 t6 a7 b7 c7 t7 e7 r7 evw H6 l7 f7 hlen6 hmk
  go_upto_block 6 with fail
  go_cut [14] (fun _ wx => ∃ ρr F, J10 ρ w Lb C O (sI O) F vk vpc vps vsr (.slice (some ⟨gr, 0, none⟩) (O.length + T) (O.length + T)) vsw ρr wx ∧ RdOk O O.length F)
  case first =>
    go_wp2
    go_loopw [14, 15, 126] (fun _ _ i wr => ∃ k : Nat, k ≤ O.length ∧ i = .int .i64 k ∧ ∃ ρr F, J10 ρ w Lb C O (fun i => if i < k then sI O i else 0) F vk vpc vps vsr (.slice (some ⟨gr, 0, none⟩) (O.length + T) (O.length + T)) vsw ρr wr ∧ RdOk O k F) (fun _ _ i _ => O.length - (intOf i).toNat)
    case atStart => exact ⟨0, by omega, rfl, _, _, HJ7.out, HR7.out⟩
    case round =>
      clear HJ7 HR7
      obtain ⟨k, hk, rfl, ρr, G, hj, hg⟩ := hrel
      by_cases hlt : k < O.length
      · have hcr := HH.out.keepL hj.stp
        obtain ⟨gO, cO, hvO, _, _, _⟩ := hcr.ops.has (by omega)
        cases hvO
        obtain ⟨gs, cs, hvs, _, hgs, _⟩ := Row.has hj.lay.src (by omega)
        subst hvs
        obtain ⟨gk, ck, hvk, _, hgk, _⟩ := Row.has hj.lay.key (by omega)
        subst hvk
        obtain ⟨gf, cf, hvf, _, hgf, _⟩ := hcr.frm.has (by omega)
        subst hvf
        obtain ⟨x, hx⟩ : ∃ x, x = (opAt O k) := ⟨_, rfl⟩
        have hop := hcr.ops.op rfl hlt
        rw [← hx] at hop
        obtain ⟨p0, p1, p2, p3, p4, p5⟩ := hop
        have hidx := fun wx => idx47 (b := gO) (c := co) hlt wx
        have HJ := hide hj
        have HG := hide hg
        have HX := hide hx
        have HC := hide hcr
        clear hj hg hcr hx
        go_upto_region 28 with fail
        have hj8 := HJ.out.alloc (.cells #[.int .i64 0, .string (kd x.rd), .string (kn x.kx), .string ⟨#[]⟩, .string ⟨#[]⟩, .int .i64 0] 74)
        have hc8 := HH.out.keepL hj8.stp
        have hb8 : (wr.alloc (.cells #[.int .i64 0, .string (kd x.rd), .string (kn x.kx), .string ⟨#[]⟩, .string ⟨#[]⟩, .int .i64 0] 74)).heap[wr.heap.size]? = some (.cells #[.int .i64 0, .string (kd x.rd), .string (kn x.kx), .string ⟨#[]⟩, .string ⟨#[]⟩, .int .i64 0] 74) := heap_alloc_new _ _
        obtain ⟨W8, e8⟩ : ∃ W8, W8 = wr.alloc (.cells #[.int .i64 0, .string (kd x.rd), .string (kn x.kx), .string ⟨#[]⟩, .string ⟨#[]⟩, .int .i64 0] 74) := ⟨_, rfl⟩
        obtain ⟨cb, ecb⟩ : ∃ cb, cb = wr.heap.size := ⟨_, rfl⟩
        obtain ⟨ρ8, r8⟩ : ∃ ρ8, ρ8 = ext ρr wr .no := ⟨_, rfl⟩
        rw [← e8, ← r8] at hj8 hc8
        rw [← e8, ← ecb] at hb8
        rw [← e8, ← ecb]
        have c1 := cell_blk (i := 1) hb8 rfl
        have l5 := hj8.lay.st.cell 5 rfl
        have sc := hj8.lay.src.cell hlt
        have sf := Row.free hj8.lay.src k
        have ixs := fun wx => idx38 (b := gs) (c := cs) hlt wx
        have HJ8 := hide hj8
        have HC8 := hide hc8
        clear e8 ecb r8 p0 p1 p2 p3 p4 p5 hidx hj8 hc8 hb8 HC hgs hgk hgf
        cases hrd : x.rd with
        | false =>
          rw [hrd] at c1
          have hkd : kd false = ⟨#[119, 114, 105, 116, 101]⟩ := rfl
          rw [hkd] at c1
          have HS : Hid (sI O k = -1) := by show _ = _; unfold sI; rw [← HX.out, hrd]; rfl
          clear hrd hkd
          go_wp2
          go_roundw
          case rel => exact ⟨k + 1, by omega, by go_num, _, G, (HJ8.out.src k (-1)).congr fun i _ => upd_src (sI O) k (-1) HS.out i, HG.out.write⟩
          case measure => simp [intOf]; omega
        | true =>
          rw [hrd] at c1
          have hkd : kd true = ⟨#[114, 101, 97, 100]⟩ := rfl
          rw [hkd] at c1
          have f2 := HC8.out.chk.cell 2 rfl
          have fc : W8.cell? ⟨gf, k, none⟩ = some (.int .i64 x.fr) := by
            rw [HC8.out.frm.cell (by omega), List.getElem?_map, List.getElem?_eq_getElem hlt, HX.out, opAt_pos O k hlt]; rfl
          have ixf := fun wx => idx38 (b := gf) (c := cf) hlt wx
          have HRD := hide hrd
          clear hrd hkd
          go_upto_region 30 with fail
          obtain ⟨fr, efr⟩ : ∃ fr, fr = x.fr := ⟨_, rfl⟩
          rw [← efr] at fc
          have HFRk := hide (HFR.out k hlt (by rw [← HX.out]; exact HRD.out))
          rw [← HX.out, ← efr] at HFRk
          have HSI : Hid (sI O k = if fr = -1 then (O.length : Int) + (keyK (kxO O) k : Nat) else fr) := by show _ = _; unfold sI; rw [← HX.out, HRD.out, ← efr]; rfl
          have EFR := hide efr
          clear efr
          go_cut [140] (fun _ wx => ∃ ρx, J10 ρ w Lb C O (upd (fun i => if i < k then sI O i else 0) k fr) G (.slice (some ⟨gk, 0, none⟩) O.length ck) vpc vps (.slice (some ⟨gs, 0, none⟩) O.length cs) (.slice (some ⟨gr, 0, none⟩) (O.length + T) (O.length + T)) vsw ρx wx)
          case first =>
            go_region
            all_goals
              go_wp2
              go_meet
              case rel => exact ⟨ρ8, (HJ8.out.src k fr).drew⟩
          obtain ⟨W9, e9⟩ : ∃ W9, W9 = wc := ⟨_, rfl⟩
          subst e9
          obtain ⟨ρ9, hj9⟩ := hcut
          clear c1 l5 sc sf f2 fc
          have hc9 := HH.out.keepL hj9.stp
          have f2 := hc9.chk.cell 2 rfl
          have fc : W9.cell? ⟨gf, k, none⟩ = some (.int .i64 fr) := by
            rw [hc9.frm.cell (by omega), List.getElem?_map, List.getElem?_eq_getElem hlt, EFR.out, HX.out, opAt_pos O k hlt]; rfl
          have l5 := hj9.lay.st.cell 5 rfl
          have l2 := hj9.lay.st.cell 2 rfl
          have kc := hj9.lay.key.cell hlt
          have sc := hj9.lay.src.cell hlt
          have sf := Row.free hj9.lay.src k
          have ixk := fun wx => idx38 (b := gk) (c := ck) hlt wx
          have hkk : keyK (kxO O) k < T := by rw [ET.out]; exact keyK_lt (kxO O) hlt
          obtain ⟨y, ey⟩ : ∃ y, y = keyK (kxO O) k := ⟨_, rfl⟩
          rw [← ey] at kc hkk HSI
          have HJ9 := hide hj9
          clear hj9 hc9 ey
          go_upto_if 160 with fail
          go_cut [161] (fun _ wx => ∃ ρx, J10 ρ w Lb C O (fun i => if i < k + 1 then sI O i else 0) G (.slice (some ⟨gk, 0, none⟩) O.length ck) vpc vps (.slice (some ⟨gs, 0, none⟩) O.length cs) (.slice (some ⟨gr, 0, none⟩) (O.length + T) (O.length + T)) vsw ρx wx)
          case first =>
            by_cases hf1 : fr = -1
            · subst hf1
              have HS1 : Hid (sI O k = (O.length : Int) + (y : Nat)) := by show _ = _; rw [HSI.out, if_pos rfl]
              go_upto_region 32 with fail
              go_region
              all_goals
                go_wp2
                go_meet
                case rel => exact ⟨ρ9, (((HJ9.out.src k ((O.length : Int) + (y : Nat))).congr (fun i _ => by rw [upd_upd]; exact upd_src (sI O) k _ HS1.out i))).drew⟩
            · have hf2 : (fr == -1) = false := by rw [beq_eq_false_iff_ne]; exact hf1
              have HS1 : Hid (sI O k = fr) := by show _ = _; rw [HSI.out, if_neg hf1]
              clear hf1
              go_wp2
              go_meet
              case rel => exact ⟨ρ9, HJ9.out.congr (fun i _ => upd_src (sI O) k fr HS1.out i)⟩
          obtain ⟨W10, e10⟩ : ∃ W10, W10 = wc := ⟨_, rfl⟩
          subst e10
          obtain ⟨ρ10, hj10⟩ := hcut
          obtain ⟨s, hs, hsl⟩ : ∃ s : Nat, sI O k = (s : Nat) ∧ s < O.length + T := by
            have h1 := HSI.out
            have h2 := HFRk.out
            by_cases hf : fr = -1
            · rw [if_pos hf] at h1; exact ⟨O.length + y, by rw [h1]; omega, by omega⟩
            · rw [if_neg hf] at h1; exact ⟨fr.toNat, by rw [h1]; omega, by omega⟩
          clear f2 fc l5 l2 kc sc sf ixk ixf
          have l5 := hj10.lay.st.cell 5 rfl
          have l6 := hj10.lay.st.cell 6 rfl
          have sc := hj10.lay.src.cell hlt
          rw [if_pos (Nat.lt_succ_self k), hs] at sc
          have hGl : G.length = O.length + T := by rw [HG.out.len, ET.out]
          obtain ⟨vg, hvg, hrg, hng⟩ := hj10.rds.ex
          have hrg' : Row ρ10 W10 .rdH 38 1 (.slice (some ⟨gr, 0, none⟩) (O.length + T) (O.length + T)) (O.length + T) vg := by rw [hGl] at hrg; exact hrg
          have r0 := hrg'.cell1 hsl (by omega)
          have hnX := hng s (by omega)
          obtain ⟨X, eX⟩ : ∃ X, X = G[s]! := ⟨_, rfl⟩
          have hXl : X.length ≤ k := by rw [eX]; exact HG.out.small s
          rw [← eX] at hnX
          obtain ⟨aU, cU, hvU, _, _⟩ := Row.form hnX
          have HVU : Hid (vg[s]! = .slice aU X.length cU) := hvU
          rw [hvU] at r0 hnX
          have r0a := fun o => cell?_alloc_old o r0
          have ixr := fun wx => idx48 (b := gr) (c := O.length + T) hsl wx
          have HNX := hide hnX
          have HRG := hide (And.intro hvg (And.intro hrg hng))
          have HRG' := hide hrg'
          have HJ10 := hide hj10
          have HSS := hide hs
          have EX := hide eX
          have KS : Hid (∀ wx ρx, Stp (fun q => q = .rdH ∨ q = .rd s) ρ10 W10 ρx wx → wx.cell? ⟨Lb, 5, none⟩ = some (.slice (some ⟨gs, 0, none⟩) O.length cs) ∧ wx.cell? ⟨Lb, 6, none⟩ = some (.slice (some ⟨gr, 0, none⟩) (O.length + T) (O.length + T)) ∧ wx.cell? ⟨gs, k, none⟩ = some (.int .i64 (s : Nat))) := fun wx ρx hst => by
            have a1 := hj10.lay.keep hst (by simp) (by simp) (by simp) (by simp) (by simp)
            refine ⟨a1.st.cell 5 rfl, a1.st.cell 6 rfl, ?_⟩
            have := a1.src.cell hlt
            rw [if_pos (Nat.lt_succ_self k), hs] at this
            exact this
          clear hj10 hvg hrg hng hrg' hnX hvU hs eX
          go_upto_region 33 with fail
          refine wp_region_S (fun wx => wx.cell? ⟨Lb, 5, none⟩ = some (.slice (some ⟨gs, 0, none⟩) O.length cs) ∧ wx.cell? ⟨Lb, 6, none⟩ = some (.slice (some ⟨gr, 0, none⟩) (O.length + T) (O.length + T)) ∧ wx.cell? ⟨gs, k, none⟩ = some (.int .i64 (s : Nat)) ∧ wx.cell? ⟨gr, s, none⟩ = some (.slice aU X.length cU)) 28 (by as_aux_lemma => kernel_rfl) ?_
          have hS0 : (fun wx => wx.cell? ⟨Lb, 5, none⟩ = some (.slice (some ⟨gs, 0, none⟩) O.length cs) ∧ wx.cell? ⟨Lb, 6, none⟩ = some (.slice (some ⟨gr, 0, none⟩) (O.length + T) (O.length + T)) ∧ wx.cell? ⟨gs, k, none⟩ = some (.int .i64 (s : Nat)) ∧ wx.cell? ⟨gr, s, none⟩ = some (.slice aU X.length cU)) W10.drew := ⟨(KS.out _ _ ((Stp.refl _ _ _).drewN 1)).1, (KS.out _ _ ((Stp.refl _ _ _).drewN 1)).2.1, (KS.out _ _ ((Stp.refl _ _ _).drewN 1)).2.2, r0⟩
          have hS1 : ∀ o, (fun wx => wx.cell? ⟨Lb, 5, none⟩ = some (.slice (some ⟨gs, 0, none⟩) O.length cs) ∧ wx.cell? ⟨Lb, 6, none⟩ = some (.slice (some ⟨gr, 0, none⟩) (O.length + T) (O.length + T)) ∧ wx.cell? ⟨gs, k, none⟩ = some (.int .i64 (s : Nat)) ∧ wx.cell? ⟨gr, s, none⟩ = some (.slice aU X.length cU)) (W10.alloc o).drew := fun o => ⟨(KS.out _ _ (((Stp.refl _ _ _).alloc o .no).drewN 1)).1, (KS.out _ _ (((Stp.refl _ _ _).alloc o .no).drewN 1)).2.1, (KS.out _ _ (((Stp.refl _ _ _).alloc o .no).drewN 1)).2.2, r0a o⟩
          refine wpS_take (i := 0) (v := ?_) rfl (by as_aux_lemma => kernel_rfl) (by as_aux_lemma => kernel_rfl) (by as_aux_lemma => kernel_rfl) (by as_aux_lemma => kernel_rfl) (fun _ _ _ h => h) (Or.inl ⟨by rfl, fun wx hSx => ?_⟩) hS0 ?_
          rotate_left
          · obtain ⟨t1, t2, t3, t4⟩ := hSx
            first | (go_simp; done) | (go_simp; with_reducible rfl)
          simp only [Act.put, List.setIfInBounds_toArray, List.set_cons_zero, List.set_cons_succ]
          refine wpS_take (i := 1) (v := ?_) rfl (by as_aux_lemma => kernel_rfl) (by as_aux_lemma => kernel_rfl) (by as_aux_lemma => kernel_rfl) (by as_aux_lemma => kernel_rfl) (fun _ _ _ h => h) (Or.inl ⟨by rfl, fun wx hSx => ?_⟩) hS0 ?_
          rotate_left
          · obtain ⟨t1, t2, t3, t4⟩ := hSx
            first | (go_simp; done) | (go_simp; with_reducible rfl)
          simp only [Act.put, List.setIfInBounds_toArray, List.set_cons_zero, List.set_cons_succ]
          refine wpS_take (i := 2) (v := ?_) rfl (by as_aux_lemma => kernel_rfl) (by as_aux_lemma => kernel_rfl) (by as_aux_lemma => kernel_rfl) (by as_aux_lemma => kernel_rfl) (fun _ _ _ h => h) (Or.inl ⟨by rfl, fun wx hSx => ?_⟩) hS0 ?_
          rotate_left
          · obtain ⟨t1, t2, t3, t4⟩ := hSx
            first | (go_simp; done) | (go_simp; with_reducible rfl)
          simp only [Act.put, List.setIfInBounds_toArray, List.set_cons_zero, List.set_cons_succ]
          refine wpS_take (i := 3) (v := ?_) rfl (by as_aux_lemma => kernel_rfl) (by as_aux_lemma => kernel_rfl) (by as_aux_lemma => kernel_rfl) (by as_aux_lemma => kernel_rfl) (fun _ _ _ h => h) (Or.inl ⟨by rfl, fun wx hSx => ?_⟩) hS0 ?_
          rotate_left
          · obtain ⟨t1, t2, t3, t4⟩ := hSx
            first | (go_simp; done) | (go_simp; with_reducible rfl)
          simp only [Act.put, List.setIfInBounds_toArray, List.set_cons_zero, List.set_cons_succ]
          refine wpS_take (i := 4) (v := ?_) rfl (by as_aux_lemma => kernel_rfl) (by as_aux_lemma => kernel_rfl) (by as_aux_lemma => kernel_rfl) (by as_aux_lemma => kernel_rfl) (fun _ _ _ h => h) (Or.inl ⟨by rfl, fun wx hSx => ?_⟩) hS0 ?_
          rotate_left
          · obtain ⟨t1, t2, t3, t4⟩ := hSx
            first | (go_simp; done) | (go_simp; with_reducible rfl)
          simp only [Act.put, List.setIfInBounds_toArray, List.set_cons_zero, List.set_cons_succ]
          refine wpS_take (i := 5) (v := ?_) rfl (by as_aux_lemma => kernel_rfl) (by as_aux_lemma => kernel_rfl) (by as_aux_lemma => kernel_rfl) (by as_aux_lemma => kernel_rfl) (fun _ _ _ h => h) (Or.inl ⟨by rfl, fun wx hSx => ?_⟩) hS0 ?_
          rotate_left
          · obtain ⟨t1, t2, t3, t4⟩ := hSx
            first | (go_simp; done) | (go_simp; with_reducible rfl)
          simp only [Act.put, List.setIfInBounds_toArray, List.set_cons_zero, List.set_cons_succ]
          refine wpS_take (i := 6) (v := ?_) rfl (by as_aux_lemma => kernel_rfl) (by as_aux_lemma => kernel_rfl) (by as_aux_lemma => kernel_rfl) (by as_aux_lemma => kernel_rfl) (fun _ _ _ h => h) (Or.inl ⟨by rfl, fun wx hSx => ?_⟩) hS0 ?_
          rotate_left
          · obtain ⟨t1, t2, t3, t4⟩ := hSx
            first | (go_simp; done) | (go_simp; with_reducible rfl)
          simp only [Act.put, List.setIfInBounds_toArray, List.set_cons_zero, List.set_cons_succ]
          refine wpS_take (i := 7) (v := ?_) rfl (by as_aux_lemma => kernel_rfl) (by as_aux_lemma => kernel_rfl) (by as_aux_lemma => kernel_rfl) (by as_aux_lemma => kernel_rfl) (fun _ _ _ h => h) (Or.inl ⟨by rfl, fun wx hSx => ?_⟩) hS0 ?_
          rotate_left
          · obtain ⟨t1, t2, t3, t4⟩ := hSx
            first | (go_simp; done) | (go_simp; with_reducible rfl)
          simp only [Act.put, List.setIfInBounds_toArray, List.set_cons_zero, List.set_cons_succ]
          refine wpS_take (i := 8) (v := ?_) rfl (by as_aux_lemma => kernel_rfl) (by as_aux_lemma => kernel_rfl) (by as_aux_lemma => kernel_rfl) (by as_aux_lemma => kernel_rfl) (fun _ _ _ h => h) (Or.inl ⟨by rfl, fun wx hSx => ?_⟩) hS0 ?_
          rotate_left
          · obtain ⟨t1, t2, t3, t4⟩ := hSx
            first | (go_simp; done) | (go_simp; with_reducible rfl)
          simp only [Act.put, List.setIfInBounds_toArray, List.set_cons_zero, List.set_cons_succ]
          refine wpS_take (i := 9) (v := ?_) rfl (by as_aux_lemma => kernel_rfl) (by as_aux_lemma => kernel_rfl) (by as_aux_lemma => kernel_rfl) (by as_aux_lemma => kernel_rfl) (fun _ _ _ h => h) (Or.inl ⟨by rfl, fun wx hSx => ?_⟩) hS0 ?_
          rotate_left
          · obtain ⟨t1, t2, t3, t4⟩ := hSx
            first | (go_simp; done) | (go_simp; with_reducible rfl)
          simp only [Act.put, List.setIfInBounds_toArray, List.set_cons_zero, List.set_cons_succ]
          refine wpS_take (i := 10) (v := ?_) rfl (by as_aux_lemma => kernel_rfl) (by as_aux_lemma => kernel_rfl) (by as_aux_lemma => kernel_rfl) (by as_aux_lemma => kernel_rfl) (fun _ _ _ h => h) (Or.inl ⟨by rfl, fun wx hSx => ?_⟩) hS0 ?_
          rotate_left
          · obtain ⟨t1, t2, t3, t4⟩ := hSx
            first | (go_simp; done) | (go_simp; with_reducible rfl)
          simp only [Act.put, List.setIfInBounds_toArray, List.set_cons_zero, List.set_cons_succ]
          refine wpS_take (i := 11) (v := ?_) rfl (by as_aux_lemma => kernel_rfl) (by as_aux_lemma => kernel_rfl) (by as_aux_lemma => kernel_rfl) (by as_aux_lemma => kernel_rfl) (fun _ _ _ h => h) (Or.inl ⟨by rfl, fun wx hSx => ?_⟩) hS0 ?_
          rotate_left
          · obtain ⟨t1, t2, t3, t4⟩ := hSx
            first | (go_simp; done) | (go_simp; with_reducible rfl)
          simp only [Act.put, List.setIfInBounds_toArray, List.set_cons_zero, List.set_cons_succ]
          refine wpS_take (i := 12) (v := ?_) rfl (by as_aux_lemma => kernel_rfl) (by as_aux_lemma => kernel_rfl) (by as_aux_lemma => kernel_rfl) (by as_aux_lemma => kernel_rfl) (fun _ _ _ h => h) (Or.inl ⟨by rfl, fun wx hSx => ?_⟩) hS0 ?_
          rotate_left
          · obtain ⟨t1, t2, t3, t4⟩ := hSx
            first | (go_simp; done) | (go_simp; with_reducible rfl)
          simp only [Act.put, List.setIfInBounds_toArray, List.set_cons_zero, List.set_cons_succ]
          refine wpS_take (i := 13) (v := ?_) rfl (by as_aux_lemma => kernel_rfl) (by as_aux_lemma => kernel_rfl) (by as_aux_lemma => kernel_rfl) (by as_aux_lemma => kernel_rfl) (fun _ _ _ h => h) (Or.inl ⟨by rfl, fun wx hSx => ?_⟩) hS0 ?_
          rotate_left
          · obtain ⟨t1, t2, t3, t4⟩ := hSx
            first | (go_simp; done) | (go_simp; with_reducible rfl)
          simp only [Act.put, List.setIfInBounds_toArray, List.set_cons_zero, List.set_cons_succ]
          refine wpS_take (i := 14) (v := ?_) rfl (by as_aux_lemma => kernel_rfl) (by as_aux_lemma => kernel_rfl) (by as_aux_lemma => kernel_rfl) (by as_aux_lemma => kernel_rfl) (fun _ _ _ h => h) (Or.inl ⟨by rfl, fun wx hSx => ?_⟩) hS0 ?_
          rotate_left
          · obtain ⟨t1, t2, t3, t4⟩ := hSx
            first | (go_simp; done) | (go_simp; with_reducible rfl)
          simp only [Act.put, List.setIfInBounds_toArray, List.set_cons_zero, List.set_cons_succ]
          refine wpS_take (i := 15) (v := ?_) rfl (by as_aux_lemma => kernel_rfl) (by as_aux_lemma => kernel_rfl) (by as_aux_lemma => kernel_rfl) (by as_aux_lemma => kernel_rfl) (fun _ _ _ h => h) (Or.inl ⟨by rfl, fun wx hSx => ?_⟩) hS0 ?_
          rotate_left
          · obtain ⟨t1, t2, t3, t4⟩ := hSx
            first | (go_simp; done) | (go_simp; with_reducible rfl)
          simp only [Act.put, List.setIfInBounds_toArray, List.set_cons_zero, List.set_cons_succ]
          refine wpS_take (i := 16) (v := ?_) rfl (by as_aux_lemma => kernel_rfl) (by as_aux_lemma => kernel_rfl) (by as_aux_lemma => kernel_rfl) (by as_aux_lemma => kernel_rfl) (fun _ _ _ h => h) (Or.inl ⟨by rfl, fun wx hSx => ?_⟩) hS0 ?_
          rotate_left
          · obtain ⟨t1, t2, t3, t4⟩ := hSx
            first | (go_simp; done) | (go_simp; with_reducible rfl)
          simp only [Act.put, List.setIfInBounds_toArray, List.set_cons_zero, List.set_cons_succ]
          refine wpS_take (i := 17) (v := ?_) rfl (by as_aux_lemma => kernel_rfl) (by as_aux_lemma => kernel_rfl) (by as_aux_lemma => kernel_rfl) (by as_aux_lemma => kernel_rfl) (fun _ _ _ h => h) (Or.inl ⟨by rfl, fun wx hSx => ?_⟩) hS0 ?_
          rotate_left
          · obtain ⟨t1, t2, t3, t4⟩ := hSx
            first | (go_simp; done) | (go_simp; with_reducible rfl)
          simp only [Act.put, List.setIfInBounds_toArray, List.set_cons_zero, List.set_cons_succ]
          refine wpS_take (i := 18) (v := ?_) rfl (by as_aux_lemma => kernel_rfl) (by as_aux_lemma => kernel_rfl) (by as_aux_lemma => kernel_rfl) (by as_aux_lemma => kernel_rfl) (fun _ _ _ h => h) (Or.inl ⟨by rfl, fun wx hSx => ?_⟩) hS0 ?_
          rotate_left
          · obtain ⟨t1, t2, t3, t4⟩ := hSx
            first | (go_simp; done) | (go_simp; with_reducible rfl)
          simp only [Act.put, List.setIfInBounds_toArray, List.set_cons_zero, List.set_cons_succ]
          refine wpS_take (i := 19) (v := ?_) rfl (by as_aux_lemma => kernel_rfl) (by as_aux_lemma => kernel_rfl) (by as_aux_lemma => kernel_rfl) (by as_aux_lemma => kernel_rfl) (fun _ _ _ h => h) (Or.inl ⟨by rfl, fun wx hSx => ?_⟩) hS0 ?_
          rotate_left
          · obtain ⟨t1, t2, t3, t4⟩ := hSx
            first | (go_simp; done) | (go_simp; with_reducible rfl)
          simp only [Act.put, List.setIfInBounds_toArray, List.set_cons_zero, List.set_cons_succ]
          refine wpS_take (i := 20) (v := ?_) rfl (by as_aux_lemma => kernel_rfl) (by as_aux_lemma => kernel_rfl) (by as_aux_lemma => kernel_rfl) (by as_aux_lemma => kernel_rfl) (fun _ _ _ h => h) (Or.inl ⟨by rfl, fun wx hSx => ?_⟩) hS0 ?_
          rotate_left
          · obtain ⟨t1, t2, t3, t4⟩ := hSx
            first | (go_simp; done) | (go_simp; with_reducible rfl)
          simp only [Act.put, List.setIfInBounds_toArray, List.set_cons_zero, List.set_cons_succ]
          refine wpS_take (i := 21) (v := ?_) rfl (by as_aux_lemma => kernel_rfl) (by as_aux_lemma => kernel_rfl) (by as_aux_lemma => kernel_rfl) (by as_aux_lemma => kernel_rfl) (fun _ _ _ h => h) (Or.inl ⟨by rfl, fun wx hSx => ?_⟩) hS0 ?_
          rotate_left
          · obtain ⟨t1, t2, t3, t4⟩ := hSx
            first | (go_simp; done) | (go_simp; with_reducible rfl)
          simp only [Act.put, List.setIfInBounds_toArray, List.set_cons_zero, List.set_cons_succ]
          refine wpS_take (i := 22) (v := ?_) rfl (by as_aux_lemma => kernel_rfl) (by as_aux_lemma => kernel_rfl) (by as_aux_lemma => kernel_rfl) (by as_aux_lemma => kernel_rfl) (fun _ _ _ h => h) (Or.inl ⟨by rfl, fun wx hSx => ?_⟩) hS0 ?_
          rotate_left
          · obtain ⟨t1, t2, t3, t4⟩ := hSx
            first | (go_simp; done) | (go_simp; with_reducible rfl)
          simp only [Act.put, List.setIfInBounds_toArray, List.set_cons_zero, List.set_cons_succ]
          refine wpS_take (i := 23) (v := ?_) rfl (by as_aux_lemma => kernel_rfl) (by as_aux_lemma => kernel_rfl) (by as_aux_lemma => kernel_rfl) (by as_aux_lemma => kernel_rfl) (fun _ _ _ h => h) (Or.inl ⟨by rfl, fun wx hSx => ?_⟩) hS0 ?_
          rotate_left
          · obtain ⟨t1, t2, t3, t4⟩ := hSx
            first | (go_simp; done) | (go_simp; with_reducible rfl)
          simp only [Act.put, List.setIfInBounds_toArray, List.set_cons_zero, List.set_cons_succ]
          refine wpS_take (i := 24) (v := ?_) rfl (by as_aux_lemma => kernel_rfl) (by as_aux_lemma => kernel_rfl) (by as_aux_lemma => kernel_rfl) (by as_aux_lemma => kernel_rfl) (fun _ _ _ h => h) (Or.inl ⟨by rfl, fun wx hSx => ?_⟩) hS0 ?_
          rotate_left
          · obtain ⟨t1, t2, t3, t4⟩ := hSx
            first | (go_simp; done) | (go_simp; with_reducible rfl)
          simp only [Act.put, List.setIfInBounds_toArray, List.set_cons_zero, List.set_cons_succ]
          refine wpS_one (i := 25) rfl (by as_aux_lemma => kernel_rfl) (fun K hK => ?_)
          go_simp
          refine hK.out _ _ (fun _ => hS1 _) ?_
          clear hK K
          refine wpS_one (i := 26) rfl (by as_aux_lemma => kernel_rfl) (fun K hK => ?_)
          refine step_app W10 _ (by rfl) _ _ _ (by rfl) (.rd s) 3 _ 1 8 Yba.underlying38 info3 rfl (by omega) (.slice aU X.length cU) X.length (X.map nv) (by rfl) HNX.out ((Below.refl _ W10).alloc (Nat.le_refl _) _).drew W10.heap.size #[.int .i64 k] (0, 0) (heap_alloc_new W10 _) (by rfl) rfl (by simp [Value.oneCell']) (by omega) (by omega) ?_
          intro g5 c5 w5 hr5 hs5
          have hc5 := HRG'.out.keep hs5 (by simp)
          have k5 := hc5.cell1 hsl (by rw [HRG.out.1]; omega)
          rw [HVU.out] at k5
          have f5 := hc5.free s
          have kk := KS.out _ _ (hs5.one (.inr rfl))
          have hS5 : (fun wx => wx.cell? ⟨Lb, 5, none⟩ = some (.slice (some ⟨gs, 0, none⟩) O.length cs) ∧ wx.cell? ⟨Lb, 6, none⟩ = some (.slice (some ⟨gr, 0, none⟩) (O.length + T) (O.length + T)) ∧ wx.cell? ⟨gs, k, none⟩ = some (.int .i64 (s : Nat)) ∧ wx.cell? ⟨gr, s, none⟩ = some (.slice aU X.length cU)) w5 := ⟨kk.1, kk.2.1, kk.2.2, k5⟩
          have H5 := hide (And.intro hr5 hs5)
          clear hr5 hs5 hc5 kk
          refine hK.out _ _ (fun _ => hS5) ?_
          clear hK K
          simp only [Act.put, List.setIfInBounds_toArray, List.set_cons_zero, List.set_cons_succ]
          refine wpS_take (i := 27) (v := ?_) rfl (by as_aux_lemma => kernel_rfl) (by as_aux_lemma => kernel_rfl) (by as_aux_lemma => kernel_rfl) (by as_aux_lemma => kernel_rfl) (fun _ _ _ h => h) (Or.inl ⟨by rfl, fun wx hSx => ?_⟩) hS5 ?_
          rotate_left
          · obtain ⟨t1, t2, t3, t4⟩ := hSx
            first | (go_simp; done) | (go_simp; with_reducible rfl)
          simp only [Act.put, List.setIfInBounds_toArray, List.set_cons_zero, List.set_cons_succ]
          clear hS0 hS5 hS1
          refine wpS_one (i := 28) rfl (by as_aux_lemma => kernel_rfl) (fun K hK => ?_)
          go_simp
          refine hK.out _ _ (fun h => absurd rfl h) ?_
          clear hK K
          refine wpS_done (by as_aux_lemma => kernel_rfl) ?_ _
          go_wp2
          go_roundw
          case rel =>
            obtain ⟨a1, a2⟩ := Rag.push (rr := .rd) (x := k) HRG.out.1 (by rw [hGl]; exact HRG'.out) HRG.out.2.2 (by omega) (by simp) (by simp) (by rw [← EX.out]; exact H5.out.1) H5.out.2
            rw [hGl] at a1
            have hj := HJ10.out
            exact ⟨k + 1, by omega, by go_num, _, _, ⟨hj.lay.keep a2 (by simp) (by simp) (by simp) (by simp) (by simp), a1, hj.stp.trans (a2.mono fun r hr => by rcases hr with h | h <;> simp [RL, h])⟩, HG.out.read (by omega) (by rw [← HX.out]; exact HRD.out) HSS.out⟩
          case measure => simp [intOf]; omega
      · obtain rfl : k = O.length := by omega
        have HJ : Hid (J10 ρ w Lb C O (sI O) G vk vpc vps vsr (.slice (some ⟨gr, 0, none⟩) (O.length + T) (O.length + T)) vsw ρr wr) := hj.congr fun i hi => if_pos hi
        have HG := hide hg
        clear hj hg
        go_wp2
        go_meet
        case rel => exact ⟨_, _, HJ.out, HG.out⟩
  obtain ⟨W11, e11⟩ : ∃ W11, W11 = wc := ⟨_, rfl⟩
  subst e11
  obtain ⟨ρ11, G, hj11, hg11⟩ := hcut
  have HFIN : Hid (Laid ρ w Lb C O W11) := ⟨ρ11, G, _, _, _, _, _, _, hj11, hg11⟩
  have hc11 := HH.out.keepL hj11.stp
  have q0 := hc11.chk.cell 0 rfl
  have q3 := hc11.chk.cell 3 rfl
  have HS11 := hide hc11.swp
  obtain ⟨aw, cw, hvw, _, _⟩ := hc11.swp.form
  subst hvw
  clear hj11 hg11 hc11 HJ7 HR7 q7 q1 q1'
  go_upto_block 8 with fail
  go_cut [16] (fun _ wx => wx = W11)
  case first =>
    go_wp2
    go_loop [16, 210] (fun _ i => ∃ k : Nat, k ≤ O.length ∧ i = .int .i64 k) (fun _ i => O.length - (intOf i).toNat)
    case atStart => exact ⟨0, by omega, rfl⟩
    case round =>
      obtain ⟨k, hk, rfl⟩ := hrel
      by_cases hlt : k < O.length
      · obtain ⟨gw, cw', hvw, _, _, _⟩ := HS11.out.has (by omega)
        cases hvw
        have wc0 : W11.cell? ⟨gw, k, none⟩ = some (.bool false) := by rw [HS11.out.cell (by omega)]; simp [hlt]
        have ixw := fun wx => idx32 (b := gw) (c := cw) hlt wx
        go_wp2
        go_round
        case rel => exact ⟨k + 1, by omega, by go_num⟩
        case measure => simp [intOf]; omega
      · obtain rfl : k = O.length := by omega
        go_wp2
        go_meet
        case rel => rfl
  replace hcut := hcut.symm
  subst hcut
  go_wp2
  go_ret
  exact ⟨Lb, rfl, HFIN.out⟩
end Go.Proofs.Ybulknju
