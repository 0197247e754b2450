import Derived.Test.YbulknjuLkA
namespace Go.Proofs.Ybulknju
open Go.RowKit

set_option maxHeartbeats 8000000 in
set_option maxRecDepth 100000 in
theorem link_any (C Lb : Nat) (O : List OpR) (Q : List Nat) (P : Nat → List Nat) (F : List (List Nat)) (vo vp vf vs vk vpc vps vsr vrd vsw : Value) (Cb gof gat : Nat) (vW vR vL : Value) (co po : Nat → Nat) (B G : Nat) (gs gp : Value) (gR : Nat) (vh : Value) (vd : Value) (E : List (Nat × Nat)) (f : Nat → Int) (D : List Drp) (ρ : Rho) (w : World) (hO : O.length ≤ 2000) (hQ : Q.length ≤ 3) (hco : Col O.length (Q.map P) co po) (h : Cl ρ w C Lb O Q P F vo vp vf vs vk vpc vps vsr vrd vsw Cb gof gat vW vR vL co po B G gs gp gR vh vd E f D) (hE : E.length + mu (O.length * Q.length) f ≤ 20000000) (hD : D.length + mu (O.length * Q.length) f ≤ 20000000) (u v : Nat) (hu : u < O.length) (hv : v < O.length) (huv : u < v ∨ Rev (Q.map P) u v) :
    Calls Yba.prog 27 #[.pointer (some ⟨B, 0, none⟩), .int .i64 u, .int .i64 v] w fun e w' => e = .returned (.bool (decide (u < v))) ∧ LinkP ρ w C Lb O Q P F vo vp vf vs vk vpc vps vsr vrd vsw Cb gof gat vW vR vL co po B G gs gp gR vh E f D w' := by
  have BV1 := hide (before_any C Lb O Q P F vo vp vf vs vk vpc vps vsr vrd vsw Cb gof gat vW vR vL co po B G gs gp gR vh vd E f D ρ w hO hQ hco h.sta h.dyn h.inv v u hv hu)
  have hne : ((u : Int) == (v : Int)) = false := by
    rw [beq_eq_false_iff_ne]
    rcases huv with h1 | h1
    · omega
    · have := (rev_yes h.inv hco h1).2; omega
  have c5 := h.dyn.clo.cell 5 rfl
  have c2 := h.dyn.clo.cell 2 rfl
  have HH := hide h
  by_cases hlt : u < v
  · have hr : rch f Q.length co po v u = false := by have := inv_no h.inv hco hlt hv; rw [col_len] at this; exact this
    rw [hr] at BV1
    rw [decide_eq_true hlt]
    have BV2 : Hid (∀ q, Calls Yba.prog 50 #[.pointer (some ⟨B, 0, none⟩), .int .i64 u, .int .i64 v] (w.drewN q) fun e w' => e = .returned (.bool (rch f Q.length co po u v)) ∧ ∃ q', w' = (w.drewN q).drewN q') := fun q => by
      have h2 := h.keep0 ((Stp.refl (fun _ => False) ρ w).drewN q) (fun _ h => h.elim)
      exact before_any C Lb O Q P F vo vp vf vs vk vpc vps vsr vrd vsw Cb gof gat vW vR vL co po B G gs gp gR vh vd E f D ρ (w.drewN q) hO hQ hco h2.sta h2.dyn h2.inv u v hu hv
    clear huv h hr
    cases hb : rch f Q.length co po u v with
    | true =>
      rw [hb] at BV2
      clear hb
      go_enter Yba.func27, Yba.ntmps27
      go_upto_region 3 with (go_at_call 50; refine BV1.out.mono ?_; rintro e w1 ⟨rfl, q, rfl⟩)
      go_wp2_with (go_at_call 50; refine (BV2.out _).mono ?_; rintro e w2 ⟨rfl, q2, rfl⟩)
      go_ret
      exact ⟨rfl, HH.out.stay ((Stp.refl _ ρ w).drewN (q + q2))⟩
    | false =>
      rw [hb] at BV2
      have HB := hide hb
      clear hb
      go_enter Yba.func27, Yba.ntmps27
      go_upto_region 3 with (go_at_call 50; refine BV1.out.mono ?_; rintro e w1 ⟨rfl, q, rfl⟩)
      go_upto_region 7 with (go_at_call 50; refine (BV2.out _).mono ?_; rintro e w2 ⟨rfl, q2, rfl⟩)
      obtain ⟨W2, e2⟩ : ∃ W2, W2 = w.drewN (q + q2) := ⟨_, rfl⟩
      have hs2 : Stp (fun _ => False) ρ w ρ W2 := by rw [e2]; exact (Stp.refl _ ρ w).drewN (q + q2)
      rw [← e2]
      have hj := HH.out.keep0 hs2 (fun _ h => h.elim)
      have GA := hide (gadd_any G (succOf O.length E) (predOf O.length E) gs gp u v ρ W2 (by rw [succOf_len]; exact hu) (by rw [predOf_len]; exact hv) (by have := succOf_small (n := O.length) E u; omega) (by have := predOf_small (n := O.length) E v; omega) hj.dyn.gr)
      clear c5 c2 hne e2
      have c2 := hj.dyn.clo.cell 2 rfl
      have HJ := hide hj
      have HS2 := hide hs2
      clear hj hs2
      go_upto_region 8 with (go_at_call 14; refine GA.out.mono ?_; rintro e w5 ⟨rfl, hga⟩)
      obtain ⟨ρ5, hj5, hst5⟩ := HJ.out.edge hlt hv (Stp.refl _ ρ W2) hga
      clear hga c2 GA
      have HS5 : Hid (Stp RK ρ w ρ5 w5) := (HS2.out.mono fun _ h => h.elim).trans hst5
      obtain ⟨E1, eE1⟩ : ∃ E1, E1 = E ++ [(u, v)] := ⟨_, rfl⟩
      have hE1 : E1.length = E.length + 1 := by rw [eE1]; simp
      rw [← eE1] at hj5
      clear eE1 hst5 HJ HS2
      obtain ⟨h1, h2, h3⟩ := hco.fwd v hv
      rw [col_len] at h1
      have g3 := hco.small (co v) (by rw [col_len]; exact h1)
      have hnr : ¬ f (u * Q.length + co v) ≤ (po v : Nat) := by have := HB.out; unfold rch at this; exact of_decide_eq_false this
      have hmul : u * Q.length ≤ 6000 := Nat.le_trans (Nat.mul_le_mul (show u ≤ 2000 by omega) hQ) (by decide)
      have hmul2 : v * Q.length ≤ 6000 := Nat.le_trans (Nat.mul_le_mul (show v ≤ 2000 by omega) hQ) (by decide)
      have c1 := hj5.dyn.clo.cell 1 rfl
      have k0 := hj5.sta.cst.cell 0 rfl
      have k1 := hj5.sta.cst.cell 1 rfl
      obtain ⟨aP, cP, hvp, _, _⟩ := (hj5.sta.base.chk.prc.ex).choose_spec.2.1.form
      rw [List.length_map] at hvp
      have k2 : w5.cell? ⟨Cb, 2, none⟩ = some (.slice aP Q.length cP) := by rw [← hvp]; exact hj5.sta.cst.cell 2 rfl
      have o1 := hj5.sta.of.cell hv
      have o2 := hj5.sta.pos.cell hv
      have LA := hide (lower_any C Lb O Q P F vo vp vf vs vk vpc vps vsr vrd vsw Cb gof gat vW vR vL co po B G gs gp gR vh vd E1 f D ρ5 w5 hO hQ (by omega) hj5.sta hj5.dyn u (co v) (po v : Nat) hu h1)
      simp only [if_neg hnr] at LA
      obtain ⟨m, em⟩ : ∃ m, m = u * Q.length := ⟨_, rfl⟩
      obtain ⟨cv, ecv⟩ : ∃ cv, cv = co v := ⟨_, rfl⟩
      obtain ⟨pv, epv⟩ : ∃ pv, pv = po v := ⟨_, rfl⟩
      rw [← ecv] at h1 g3 o1 LA hnr h3
      rw [← epv] at h2 h3 o2 LA hnr
      rw [← ecv] at h2
      have w1 : IntKind.i64.wrap ((u : Int) * (Q.length : Int)) = (m : Nat) := by
        have : (u : Int) * (Q.length : Int) = ((u * Q.length : Nat) : Int) := by simp
        rw [this, ← em]; simp [IntKind.wrap, IntKind.signed, IntKind.bits]; omega
      have hp3 : pv < 3000 := by omega
      have hcw : decide ((cv : Int) < 0) = false := by simp
      have ix1 := fun wx => idx38 (b := gof) (c := O.length) hv wx
      have ix2 := fun wx => idx38 (b := gat) (c := O.length) hv wx
      have HJ5 := hide hj5
      have EM := hide em
      have H23 := hide (And.intro h2 h3)
      have HNR := hide hnr
      have HCO := hide hco
      clear hj5 hvp em ecv epv h2 h3 hnr hco HB
      go_upto_region 14 with (go_at_call 51; refine LA.out.mono ?_; rintro e w6 ⟨rfl, hl⟩)
      obtain ⟨ρ6, vd6, f6, D6, hj6, hmu6, hD6, hs6, hf6⟩ := HJ5.out.low hl hu h1 (by omega) (by have := HNR.out; omega) (by rw [Int.toNat_natCast, H23.out.2]; exact hlt)
      clear hf6 hl c1 k0 k1 k2 o1 o2 LA
      have HS6 : Hid (Stp RK ρ w ρ6 w6) := HS5.out.trans hs6.rk
      have HJ6 := hide hj6
      clear hs6 hj6 HS5 HJ5
      go_upto_region 15 with (at_builtin; refine wpl_app w6 _ rfl _ _ _ rfl (.tmp 0) 3 _ 1 8 Yba.underlying38 info3 rfl (by omega) (.slice none 0 0) 0 [] rfl (Row.nil ρ6 w6 (.tmp 0) 3 1) ((Below.refl _ w6).alloc (Nat.le_refl _) _) w6.heap.size #[.int .i64 (wrap64 ((m : Int) + (cv : Int)))] (0, 0) (heap_alloc_new w6 _) rfl rfl (by simp [Value.oneCell']) (by omega) (by omega) ?_; intro g7 c7 w7 hr7 hs7; have H7 := hide (And.intro hr7 hs7); clear hr7 hs7)
      obtain ⟨hr7, hs7⟩ := H7.out
      have hj7 := HJ6.out.keep0 hs7 (fun r h => .inl h)
      have hm6 : m ≤ 6000 := by rw [EM.out]; exact hmul
      have HLP : Hid (Lp ρ w C Lb O Q P F vo vp vf vs vk vpc vps vsr vrd vsw Cb gof gat vW vR vL co po B G gs gp gR vh E1 (E.length + mu (O.length * Q.length) f) (D.length + mu (O.length * Q.length) f) (.slice (some ⟨g7, 0, none⟩) (0 + 1) c7) w7) := by
        refine ⟨_, _, _, _, [(u, cv)], hj7, ?_, fun p hp => ?_, by omega, hD6, by simp; omega, HS6.out.trans (hs7.one (.inr rfl))⟩
        · have e0 : wrap64 ((m : Int) + (cv : Int)) = ((m + cv : Nat) : Int) := by clear w1; unfold wrap64; omega
          have e : (chg Q.length [(u, cv)]).map nv = [] ++ #[Value.int .i64 (wrap64 ((m : Int) + (cv : Int)))].toList := by rw [e0]; simp [chg, nv, EM.out]
          unfold NRow
          rw [e]
          exact hr7
        · rw [List.mem_singleton] at hp; subst hp; exact ⟨hu, h1⟩
      have c3 := hj7.dyn.clo.cell 3 rfl
      clear hr7 hs7 hj7 H7 HJ6 HS6 HNR H23 w1
      obtain ⟨m2, em2⟩ : ∃ m2, m2 = v * Q.length := ⟨_, rfl⟩
      have hm2 : m2 + Q.length ≤ O.length * Q.length := by
        have := Nat.mul_le_mul_right Q.length (show v + 1 ≤ O.length from hv)
        rw [Nat.add_mul, Nat.one_mul, ← em2] at this
        exact this
      have hNN : O.length * Q.length ≤ 6000 := Nat.le_trans (Nat.mul_le_mul (show O.length ≤ 2000 by omega) hQ) (by decide)
      obtain ⟨NN, eNN⟩ : ∃ NN, NN = O.length * Q.length := ⟨_, rfl⟩
      rw [← eNN] at c3 hm2 hNN
      rw [← em2] at hmul2
      have w1 : IntKind.i64.wrap ((v : Int) * (Q.length : Int)) = (m2 : Nat) := by
        have : (v : Int) * (Q.length : Int) = ((v * Q.length : Nat) : Int) := by simp
        rw [this, ← em2]; simp [IntKind.wrap, IntKind.signed, IntKind.bits]; omega
      have w2 : IntKind.i64.wrap (((v : Int) + 1) * (Q.length : Int)) = (m2 : Nat) + (Q.length : Nat) := by
        have : ((v : Int) + 1) * (Q.length : Int) = ((v * Q.length + Q.length : Nat) : Int) := by rw [Int.add_mul]; simp
        rw [this, ← em2]; clear w1; simp [IntKind.wrap, IntKind.signed, IntKind.bits]; omega
      have EM2 := hide em2
      have ENN := hide eNN
      clear em2 eNN
      go_upto_block 0 with fail
      rw [Nat.add_sub_cancel_left]
      go_cut [8] (fun vc wx => Lp ρ w C Lb O Q P F vo vp vf vs vk vpc vps vsr vrd vsw Cb gof gat vW vR vL co po B G gs gp gR vh E1 (E.length + mu (O.length * Q.length) f) (D.length + mu (O.length * Q.length) f) vc wx)
      case first =>
        go_wp2
        go_loopw [8, 10, 11, 121] (fun vc _ _ i wr => ∃ k : Nat, k ≤ Q.length ∧ i = .int .i64 k ∧ Lp ρ w C Lb O Q P F vo vp vf vs vk vpc vps vsr vrd vsw Cb gof gat vW vR vL co po B G gs gp gR vh E1 (E.length + mu (O.length * Q.length) f) (D.length + mu (O.length * Q.length) f) vc wr) (fun _ _ _ i _ => Q.length - (intOf i).toNat)
        case atStart => exact ⟨0, by omega, rfl, HLP.out⟩
        case round =>
          clear HLP c3
          obtain ⟨k, hk, rfl, hlp⟩ := hrel
          have HLr := hide hlp
          obtain ⟨ρr, vdr, fr, Dr, L, hj, hn, hL, he, hd, hl, hst⟩ := hlp
          by_cases hkW : k < Q.length
          · have r1 := hj.dyn.rch.cell (at_lt hv hkW)
            rw [← EM2.out] at r1
            obtain ⟨x1, x2⟩ := hj.inv.rng v k hv (by rw [col_len]; exact hkW)
            have x3 := hj.inv.inc v k hv (by rw [col_len]; exact hkW)
            have x4 := (hj.inv.rng u k hu (by rw [col_len]; exact hkW)).2
            rw [col_len] at x1 x2 x3 x4
            rw [← EM2.out] at x1 x2 x3
            have x5 := HCO.out.small k (by rw [col_len]; exact hkW)
            obtain ⟨x, ex⟩ : ∃ x, x = fr (m2 + k) := ⟨_, rfl⟩
            rw [← ex] at r1 x1 x2 x3
            have ix3 := fun wx => idx62o (b := gR) (c := NN - m2) (o := m2) hkW wx
            have LA := hide (lower_any C Lb O Q P F vo vp vf vs vk vpc vps vsr vrd vsw Cb gof gat vW vR vL co po B G gs gp gR vh vdr E1 fr Dr ρr wr hO hQ (by omega) hj.sta hj.dyn u k x hu hkW)
            by_cases hle : fr (u * Q.length + k) ≤ x
            · simp only [if_pos hle] at LA
              clear hj hn hL he hd hl hst ex hle x3 x4
              go_wp2_with (go_at_call 51; refine LA.out.mono ?_; rintro e w6 ⟨rfl, hw6⟩; subst hw6)
              go_roundw
              case rel => exact ⟨k + 1, by omega, by go_num, HLr.out⟩
              case measure => simp [intOf]; omega
            · simp only [if_neg hle] at LA
              have HLE : Hid (x < fr (u * Q.length + k)) := Int.not_le.1 hle
              have HUX : Hid (u < ((Q.map P)[k]!)[x.toNat]!) := Nat.lt_trans hlt (x3 (by omega))
              have HJ := hide hj
              have HN := hide hn
              have HLL := hide hL
              have HST := hide hst
              clear hj hn hL hst ex hle x3 x4 HLr
              go_upto_region 19 with (go_at_call 51; refine LA.out.mono ?_; rintro e w6 ⟨rfl, hl6⟩)
              obtain ⟨ρ6, vd6, f6, D6, hj6, hmu6, hD6, hs6, hf6⟩ := HJ.out.low hl6 hu hkW x1 HLE.out HUX.out
              have hn6 := HN.out.keep hs6 (by simp [RW])
              have HN6 := hide hn6
              have HJ6 := hide hj6
              have HS6 : Hid (Stp RK ρ w ρ6 w6) := HST.out.trans hs6.rk
              have hlen : (chg Q.length L).length ≤ 20000001 := by rw [chg_len]; omega
              have w3 : IntKind.i64.wrap ((u : Int) * (Q.length : Int)) = (m : Nat) := by
                have : (u : Int) * (Q.length : Int) = ((u * Q.length : Nat) : Int) := by simp
                rw [this, ← EM.out]; clear w1 w2; simp [IntKind.wrap, IntKind.signed, IntKind.bits]; omega
              clear hf6 hl6 hj6 hs6 r1 LA HJ HN HST hn6 HLE HUX
              go_wp2_with (at_builtin; refine wpl_app w6 _ rfl _ _ _ rfl (.tmp 0) 3 _ 1 8 Yba.underlying38 info3 rfl (by omega) _ _ _ rfl HN6.out ((Below.refl _ w6).alloc (Nat.le_refl _) _) w6.heap.size #[.int .i64 ((m : Int) + (k : Int))] (0, 0) (heap_alloc_new w6 _) rfl rfl (by simp [Value.oneCell']) (by omega) (by omega) ?_; intro g7 c7 w7 hr7 hs7; have H7 := hide (And.intro hr7 hs7); clear hr7 hs7)
              go_roundw
              case rel =>
                obtain ⟨hr7, hs7⟩ := H7.out
                refine ⟨k + 1, by omega, by go_num, _, _, _, _, L ++ [(u, k)], HJ6.out.keep0 hs7 (fun r h => .inl h), ?_, fun p hp => ?_, by omega, by omega, by simp; omega, HS6.out.trans (hs7.one (.inr rfl))⟩
                · have e1 : (chg Q.length (L ++ [(u, k)])).map nv = (chg Q.length L).map nv ++ #[Value.int .i64 ((m : Int) + (k : Int))].toList := by rw [chg_app, List.map_append, EM.out]; simp [nv]
                  unfold NRow
                  rw [e1, chg_app, List.length_append]
                  exact hr7
                · rcases List.mem_append.1 hp with hp | hp
                  · exact HLL.out p hp
                  · rw [List.mem_singleton] at hp; subst hp; exact ⟨hu, hkW⟩
              case measure => simp [intOf]; omega
          · clear hj hn hL he hd hl hst
            go_wp2
            go_meet
            case rel => exact HLr.out
      clear HLP c3 w1 w2
      have HLP := hide hcut
      clear hcut
      obtain ⟨W8, e8⟩ : ∃ W8, W8 = wc := ⟨_, rfl⟩
      subst e8
      go_upto_block 2 with fail
      go_wp2
      go_loopw [8, 12, 13, 14, 16] (fun vc _ _ _ _ wr => Lp ρ w C Lb O Q P F vo vp vf vs vk vpc vps vsr vrd vsw Cb gof gat vW vR vL co po B G gs gp gR vh E1 (E.length + mu (O.length * Q.length) f) (D.length + mu (O.length * Q.length) f) vc wr) (fun vc _ _ _ _ wr => wmu gR (O.length * Q.length) wr + slen vc)
      case atStart => exact HLP.out
      case round =>
        clear HLP
        obtain ⟨ρr, vdr, fr, Dr, L, hj, hn, hL, he, hd, hl, hst⟩ := hrel
        rcases List.eq_nil_or_concat L with rfl | ⟨L0, a, rfl⟩
        · obtain ⟨ac, cc, hvc, _, _⟩ := Row.form hn
          have hvc' : u8 = .slice ac 0 cc := hvc
          subst hvc'
          have HF : Hid (LinkP ρ w C Lb O Q P F vo vp vf vs vk vpc vps vsr vrd vsw Cb gof gat vW vR vL co po B G gs gp gR vh E f D wr) := ⟨ρr, vdr, E1, fr, Dr, hj, he, hd, hst⟩
          clear hj hn hL he hd hl hst hvc
          go_wp2
          go_ret
          exact ⟨rfl, HF.out⟩
        · obtain ⟨x, c⟩ := a
          rw [List.concat_eq_append] at hn hL hl
          obtain ⟨hx, hc⟩ := hL (x, c) (by simp)
          obtain ⟨g8, c8, hvc, hcap, _, _⟩ := Row.has hn (by rw [chg_len]; simp)
          have hlen : (chg Q.length (L0 ++ [(x, c)])).length = L0.length + 1 := by rw [chg_len]; simp
          rw [hlen] at hvc hcap
          obtain ⟨kl, ekl⟩ : ∃ kl, kl = L0.length + 1 := ⟨_, rfl⟩
          obtain ⟨ln, eln⟩ : ∃ ln, ln = L0.length := ⟨_, rfl⟩
          have hn' : Row ρr wr (.tmp 0) 3 1 (.slice (some ⟨g8, 0, none⟩) (L0.length + 1) c8) (L0.length + 1) ((chg Q.length L0).map nv ++ [nv (x * Q.length + c)]) := by
            have := hn
            unfold NRow at this
            rw [hlen, hvc, chg_app, List.map_append] at this
            exact this
          have x0 : wr.cell? ⟨g8, ln, none⟩ = some (.int .i64 ((x * Q.length + c : Nat) : Int)) := by
            rw [hn'.cell (by omega), List.getElem?_append_right (by simp [chg_len]; omega)]
            simp [chg_len, eln, nv]
          have HPOP : Hid (NRow ρr wr (.tmp 0) (.slice (some ⟨g8, 0, none⟩) ln c8) (chg Q.length L0)) := by
            have := hn'.pop (by simp [chg_len])
            unfold Hid NRow
            rw [chg_len, eln]
            exact this
          rw [← ekl] at hvc hcap
          subst hvc
          have hmx : x * Q.length ≤ 6000 := Nat.le_trans (Nat.mul_le_mul (show x ≤ 2000 by omega) hQ) (by decide)
          have hat := at_lt (n := O.length) hx hc
          obtain ⟨t, et⟩ : ∃ t, t = x * Q.length + c := ⟨_, rfl⟩
          rw [← et] at x0 hat
          have ht6 : t ≤ 6003 := by omega
          have hdiv : Int.tdiv (t : Int) (Q.length : Int) = x := by
            rw [et]
            have h1 : (x * Q.length + c) / Q.length = x := by rw [Nat.mul_comm, Nat.mul_add_div (by omega), Nat.div_eq_of_lt hc, Nat.add_zero]
            show ((x * Q.length + c : Nat) : Int).tdiv _ = _
            rw [Int.tdiv_eq_ediv_of_nonneg (by omega), ← Int.natCast_ediv, h1]
          have hmod : Int.tmod (t : Int) (Q.length : Int) = c := by
            rw [et]
            have h1 : (x * Q.length + c) % Q.length = c := by rw [Nat.mul_comm, Nat.mul_add_mod, Nat.mod_eq_of_lt hc]
            rw [Int.tmod_eq_emod_of_nonneg (by omega), ← Int.natCast_emod, h1]
          have hW0 : ¬ (Q.length : Int) = 0 := by omega
          have hx6 : x ≤ 2000 := by omega
          have hkl : kl ≤ 20000002 := by simp at hl; omega
          have hkl0 : 0 < kl := by omega
          have ixc := fun wx => idx38 (b := g8) (c := c8) (k := ln) (n := kl) (by omega) wx
          obtain ⟨vps', hvl, hvr, hvn⟩ := hj.dyn.gr.pr.ex
          rw [predOf_len] at hvl hvr hvn
          obtain ⟨gq, cq, hgp, _, _, _⟩ := hvr.has (by omega)
          have c2 := hj.dyn.clo.cell 2 rfl
          have g1 : wr.cell? ⟨G, 1, none⟩ = some (.slice (some ⟨gq, 0, none⟩) O.length cq) := by rw [← hgp]; exact hj.dyn.gr.st.cell 1 rfl
          have hvr' := hvr
          rw [hgp] at hvr'
          have p1 := hvr'.cell1 hx hvl
          have hny := hvn x hx
          obtain ⟨Y, eY⟩ : ∃ Y, Y = (predOf O.length E1)[x]! := ⟨_, rfl⟩
          rw [← eY] at hny
          obtain ⟨aY, cY, hvY, hcY, hcY2⟩ := Row.form hny
          rw [hvY] at p1 hny
          have hYE : ∀ y ∈ Y, y < x := fun y hy => (hj.inv.edge _ (pred_lt hx (by rw [← eY]; exact hy))).1
          have hYm : Y.length ≤ 9223372036854775807 := by unfold maxLen at hcY2; omega
          have ixp := fun wx => idx48 (b := gq) (c := cq) hx wx
          have HLq : Hid (∀ q, Lq RX ρr wr C Lb O Q P F vo vp vf vs vk vpc vps vsr vrd vsw Cb gof gat vW vR vL co po B G gs gp gR vh E1 (E.length + mu (O.length * Q.length) f) (D.length + mu (O.length * Q.length) f) (L0.length + mu (O.length * Q.length) fr) (.slice (some ⟨g8, 0, none⟩) ln c8) (wr.drewN q)) := fun q => ⟨ρr, vdr, fr, Dr, L0, hj.keep0 ((Stp.refl (fun _ => False) ρr wr).drewN q) (fun _ h => h.elim), NRow.keep HPOP.out ((Stp.refl (fun _ => False) ρr wr).drewN q) (fun h => h), fun p hp => hL p (List.mem_append_left _ hp), he, hd, Nat.le_refl _, (Stp.refl _ _ _).drewN q⟩
          have HNY := hide hny
          have HYE := hide hYE
          have HST := hide hst
          have EKL := hide ekl
          have ELN := hide eln
          have ET := hide et
          have HLE : Hid (L0.length + 1 + mu (O.length * Q.length) fr ≤ 20000001) := by show _ ≤ _; simp at hl; omega
          have HMU : Hid (wmu gR (O.length * Q.length) wr = mu (O.length * Q.length) fr) := hj.dyn.rch.wmu
          clear hj hn hL hl hst hn' hlen ekl eln et hvl hvr hvn hgp hvr' hny eY hvY hYE HPOP he hd
          have hw1 : IntKind.i64.wrap ((kl : Int) - 1) = ln := by have := EKL.out; have := ELN.out; simp [IntKind.wrap, IntKind.signed, IntKind.bits]; omega
          have hw2 : wrap64 ((kl : Int) - 1) = ln := by have := EKL.out; have := ELN.out; clear hw1; unfold wrap64; omega
          have hln : ln ≤ c8 := by have := EKL.out; have := ELN.out; clear hw1 hw2; omega
          go_upto_region 24 with fail
          clear hw1 hw2
          go_quiet (fail)
          obtain ⟨Wo, eWo⟩ : ∃ Wo, Wo = wr := ⟨_, rfl⟩
          subst eWo
          go_upto_block 4 with fail
          go_wp2
          go_loopw [8, 16, 171] (fun vc _ i ws => ∃ k : Nat, k ≤ Y.length ∧ i = .int .i64 k ∧ Lq RX ρr Wo C Lb O Q P F vo vp vf vs vk vpc vps vsr vrd vsw Cb gof gat vW vR vL co po B G gs gp gR vh E1 (E.length + mu (O.length * Q.length) f) (D.length + mu (O.length * Q.length) f) (L0.length + mu (O.length * Q.length) fr) vc ws) (fun _ _ i _ => Y.length - (intOf i).toNat)
          case atStart => exact ⟨0, by omega, rfl, HLq.out _⟩
          case round =>
            clear HLq c2 g1 p1 x0
            obtain ⟨k, hk, rfl, hlq⟩ := hrel
            have HLr := hide hlq
            obtain ⟨ρs, vds, fs, Ds, L1, hj, hn, hL, he, hd, hl, hst⟩ := hlq
            by_cases hkY : k < Y.length
            · have hny := HNY.out.keep hst (by simp [RX, RW])
              obtain ⟨gY, cY', hvY, _, _, _⟩ := Row.has hny (by omega)
              cases hvY
              have y0 := hny.cell (j := k) hkY
              obtain ⟨y, ey⟩ : ∃ y, y = Y[k]! := ⟨_, rfl⟩
              rw [← ey] at y0
              have hyx : y < x := HYE.out y (by rw [ey, getElem!_pos Y k hkY]; exact List.getElem_mem _)
              have hyn : y < O.length := by omega
              clear ey
              have r1 := hj.dyn.rch.cell hat
              have c3 := hj.dyn.clo.cell 3 rfl
              obtain ⟨x1, x2⟩ := hj.inv.rng x c hx (by rw [col_len]; exact hc)
              have x3 := hj.inv.inc x c hx (by rw [col_len]; exact hc)
              have x4 := (hj.inv.rng y c hyn (by rw [col_len]; exact hc)).2
              rw [col_len] at x1 x2 x3 x4
              rw [← ET.out] at x1 x2 x3
              have x5 := HCO.out.small c (by rw [col_len]; exact hc)
              obtain ⟨z, ez⟩ : ∃ z, z = fs t := ⟨_, rfl⟩
              rw [← ez] at r1 x1 x2 x3
              have ixy := fun wx => idx38 (b := gY) (c := cY) hkY wx
              have ixt := fun wx => idx62 (b := gR) (c := O.length * Q.length) hat wx
              have LA := hide (lower_any C Lb O Q P F vo vp vf vs vk vpc vps vsr vrd vsw Cb gof gat vW vR vL co po B G gs gp gR vh vds E1 fs Ds ρs wr hO hQ (by omega) hj.sta hj.dyn y c z hyn hc)
              by_cases hle : fs (y * Q.length + c) ≤ z
              · simp only [if_pos hle] at LA
                clear hj hn hL he hd hl hst ez hle x3 x4 hny
                go_wp2_with (go_at_call 51; refine LA.out.mono ?_; rintro e w6 ⟨rfl, hw6⟩; subst hw6)
                go_roundw
                case rel => exact ⟨k + 1, by omega, by go_num, HLr.out⟩
                case measure => simp [intOf]; omega
              · simp only [if_neg hle] at LA
                have HLZ : Hid (z < fs (y * Q.length + c)) := Int.not_le.1 hle
                have HUX : Hid (y < ((Q.map P)[c]!)[z.toNat]!) := Nat.lt_trans hyx (x3 (by omega))
                have HJ := hide hj
                have HN := hide hn
                have HLL := hide hL
                have HSS := hide hst
                clear hj hn hL hst ez hle x3 x4 HLr hny
                go_upto_region 29 with (go_at_call 51; refine LA.out.mono ?_; rintro e w6 ⟨rfl, hl6⟩)
                obtain ⟨ρ6, vd6, f6, D6, hj6, hmu6, hD6, hs6, hf6⟩ := HJ.out.low hl6 hyn hc x1 HLZ.out HUX.out
                have hn6 := HN.out.keep hs6 (by simp [RW])
                have HN6 := hide hn6
                have HJ6 := hide hj6
                have HS6 : Hid (Stp RX ρr Wo ρ6 w6) := HSS.out.trans (hs6.mono fun _ h => .inl h)
                have hlen : (chg Q.length L1).length ≤ 20000001 := by rw [chg_len]; have := HLE.out; omega
                have hmy : y * Q.length ≤ 6000 := Nat.le_trans (Nat.mul_le_mul (show y ≤ 2000 by omega) hQ) (by decide)
                obtain ⟨my, emy⟩ : ∃ my, my = y * Q.length := ⟨_, rfl⟩
                rw [← emy] at hmy
                have EMY := hide emy
                have w3 : IntKind.i64.wrap ((y : Int) * (Q.length : Int)) = (my : Nat) := by
                  have : (y : Int) * (Q.length : Int) = ((y * Q.length : Nat) : Int) := by simp
                  rw [this, ← emy]; simp [IntKind.wrap, IntKind.signed, IntKind.bits]; omega
                clear hf6 hl6 hj6 hs6 r1 LA HJ HN HSS hn6 HLZ HUX emy y0 c3
                go_wp2_with (at_builtin; refine wpl_app w6 _ rfl _ _ _ rfl (.tmp 0) 3 _ 1 8 Yba.underlying38 info3 rfl (by omega) _ _ _ rfl HN6.out ((Below.refl _ w6).alloc (Nat.le_refl _) _) w6.heap.size #[.int .i64 ((my : Int) + (c : Int))] (0, 0) (heap_alloc_new w6 _) rfl rfl (by simp [Value.oneCell']) (by omega) (by omega) ?_; intro g7 c7 w7 hr7 hs7; have H7 := hide (And.intro hr7 hs7); clear hr7 hs7)
                go_roundw
                case rel =>
                  obtain ⟨hr7, hs7⟩ := H7.out
                  refine ⟨k + 1, by omega, by go_num, _, _, _, _, L1 ++ [(y, c)], HJ6.out.keep0 hs7 (fun r h => .inl h), ?_, fun p hp => ?_, by omega, by omega, by simp; omega, HS6.out.trans (hs7.one (.inr rfl))⟩
                  · have e1 : (chg Q.length (L1 ++ [(y, c)])).map nv = (chg Q.length L1).map nv ++ #[Value.int .i64 ((my : Int) + (c : Int))].toList := by rw [chg_app, List.map_append, EMY.out]; simp [nv]
                    unfold NRow
                    rw [e1, chg_app, List.length_append]
                    exact hr7
                  · rcases List.mem_append.1 hp with hp | hp
                    · exact HLL.out p hp
                    · rw [List.mem_singleton] at hp; subst hp; exact ⟨hyn, hc⟩
                case measure => simp [intOf]; omega
            · clear hj hn hL he hd hl hst
              go_wp2
              go_roundw
              case rel =>
                obtain ⟨ρs, vds, fs, Ds, L1, hj, hn, hL, he, hd, hl, hst⟩ := HLr.out
                exact ⟨ρs, vds, fs, Ds, L1, hj, hn, hL, he, hd, by have := HLE.out; omega, HST.out.trans hst.rx⟩
              case measure =>
                have h1 := HLr.out.len
                have h2 := HMU.out
                have h3 : slen (.slice (some ⟨g8, 0, none⟩) kl c8) = L0.length + 1 := EKL.out
                omega
  · rw [decide_eq_false hlt]
    have hr := rev_yes h.inv hco (huv.resolve_left hlt)
    rw [col_len] at hr
    rw [hr.1] at BV1
    clear huv h hr
    go_enter Yba.func27, Yba.ntmps27
    go_wp2_with (go_at_call 50; refine BV1.out.mono ?_; rintro e w1 ⟨rfl, q, rfl⟩)
    go_ret
    exact ⟨rfl, HH.out.stay ((Stp.refl _ ρ w).drewN q)⟩
end Go.Proofs.Ybulknju
