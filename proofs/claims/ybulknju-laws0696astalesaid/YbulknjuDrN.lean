import Derived.Test.YbulknjuDrP
namespace Go.Proofs.Ybulknju
open Go.RowKit

set_option maxHeartbeats 8000000 in
set_option maxRecDepth 100000 in
theorem drain_any (C Lb : Nat) (O : List OpR) (Q : List Nat) (P : Nat → List Nat) (F : List (List Nat)) (vo vp vf vs vk vpc vps vsr vrd vsw : Value) (Cb gof gat : Nat) (vW vR vL : Value) (co po : Nat → Nat) (B G : Nat) (gs gp : Value) (gR : Nat) (vh : Value) (vd : Value) (E : List (Nat × Nat)) (f : Nat → Int) (D : List Drp) (hon : Bool) (ρ : Rho) (w : World) (hO : O.length ≤ 2000) (hQ : Q.length ≤ 3) (hco : Col O.length (Q.map P) co po) (hlk : Lks O (Q.map P) hon) (hrd : RdOk O O.length F) (h : Cl ρ w C Lb O Q P F vo vp vf vs vk vpc vps vsr vrd vsw Cb gof gat vW vR vL co po B G gs gp gR vh vd E f D) (hE : E.length + mu (O.length * Q.length) f ≤ 20000000) (hD : D.length + mu (O.length * Q.length) f ≤ 20000000) :
    Calls Yba.prog 28 #[.pointer (some ⟨B, 0, none⟩)] w fun e w' => DrainP hon ρ w C Lb O Q P F vo vp vf vs vk vpc vps vsr vrd vsw Cb gof gat vW vR vL co po B G gs gp gR vh E f D e w' := by
  have HQ0 : Hid (Dq ρ w C Lb O Q P F vo vp vf vs vk vpc vps vsr vrd vsw Cb gof gat vW vR vL co po B G gs gp gR vh (E.length + mu (O.length * Q.length) f) (D.length + mu (O.length * Q.length) f) [(w.heap.size, 25, #[.pointer (some ⟨B, 0, none⟩)])] (w.alloc (.cells #[.pointer (some ⟨B, 0, none⟩)] 25))) := Dq.box ⟨ρ, vd, E, f, D, h, by simp, Nat.le_refl _, Nat.le_refl _, Stp.refl _ _ _⟩ 25 _
  have c0 := fun o => cell?_alloc_old o (h.dyn.clo.cell 0 rfl)
  have l0 := fun o => cell?_alloc_old o (h.sta.base.st.cell 0 rfl)
  obtain ⟨ao, cao, hvo, _, _⟩ := h.sta.base.chk.ops.form
  have q0 : ∀ o, (w.alloc o).cell? ⟨C, 0, none⟩ = some (.slice ao O.length cao) := fun o => cell?_alloc_old o (by rw [← hvo]; exact h.sta.base.chk.chk.cell 0 rfl)
  have HCO := hide hco
  have HLK := hide hlk
  have HRD := hide hrd
  clear h hco hlk hrd hvo
  go_enter Yba.func28, Yba.ntmps28
  go_upto_block 0 with fail
  obtain ⟨b1, eb1⟩ : ∃ b1, b1 = w.heap.size := ⟨_, rfl⟩
  obtain ⟨W0, eW0⟩ : ∃ W0, W0 = w.alloc (.cells #[.pointer (some ⟨B, 0, none⟩)] 25) := ⟨_, rfl⟩
  rw [← eb1, ← eW0] at HQ0
  rw [← eb1, ← eW0]
  clear eb1 eW0 c0 l0 q0
  go_wp2
  go_loopw [4, 5, 6, 7, 8, 9, 10, 12, 13, 15] (fun _ _ _ _ _ _ _ _ _ _ wr => Dq ρ w C Lb O Q P F vo vp vf vs vk vpc vps vsr vrd vsw Cb gof gat vW vR vL co po B G gs gp gR vh (E.length + mu (O.length * Q.length) f) (D.length + mu (O.length * Q.length) f) [(b1, 25, #[.pointer (some ⟨B, 0, none⟩)])] wr) (fun _ _ _ _ _ _ _ _ _ _ wr => wmu gR (O.length * Q.length) wr + wdl B wr)
  case atStart => exact HQ0.out
  case round =>
    clear HQ0
    obtain ⟨ρr, vdr, Er, fr, Dr, hj, hbx, he, hd, hst⟩ := hrel
    have hb1 := hbx _ List.mem_cons_self
    have b10 := hb1.cell 0 rfl
    have c9 := hj.dyn.clo.cell 9 rfl
    have c10 := hj.dyn.clo.cell 10 rfl
    rcases List.eq_nil_or_concat Dr with rfl | ⟨D0, d, rfl⟩
    · obtain ⟨ad, cd, hvd, _, _⟩ := hj.dyn.drp.form
      subst hvd
      have HF : Hid (LinkP ρ w C Lb O Q P F vo vp vf vs vk vpc vps vsr vrd vsw Cb gof gat vW vR vL co po B G gs gp gR vh E f D wr) := ⟨ρr, _, Er, fr, [], hj, he, hd, hst⟩
      clear hj hbx he hd hst hb1
      go_wp2
      go_ret
      exact ⟨true, rfl, fun _ => rfl, HF.out⟩
    · rw [List.concat_eq_append] at hj hd
      obtain ⟨gD, cD, hvd, hcap, _, _⟩ := hj.dyn.drp.has (by simp)
      have hdl : (D0 ++ [d]).length = D0.length + 1 := by simp
      rw [hdl] at hvd hcap hd
      have hdr := hj.dyn.drp
      rw [hvd, hdl, flatD_app] at hdr
      obtain ⟨d0, d1, d2, d3⟩ := hdr.drop
      have hdf := hj.inv.drp d (by simp)
      obtain ⟨kl, ekl⟩ : ∃ kl, kl = D0.length + 1 := ⟨_, rfl⟩
      obtain ⟨ln, eln⟩ : ∃ ln, ln = D0.length := ⟨_, rfl⟩
      rw [← ekl] at hvd hcap
      subst hvd
      rw [← eln] at d0 d1 d2 d3
      have hkl : kl ≤ 20000002 := by omega
      have hkl0 : 0 < kl := by omega
      have hlk : ln < kl := by omega
      have ixd := fun wx => idx67 (b := gD) (c := cD) hlk wx
      have EKL := hide ekl
      have ELN := hide eln
      have HBX := hide hbx
      have HDF := hide hdf
      have HED := hide (And.intro he hd)
      have HST := hide hst
      have HJ := hide hj
      clear hj hbx he hd hst hb1 hdr hdf hdl ekl eln
      obtain ⟨du, dc, dold, dnow⟩ := d
      dsimp only at d0 d1 d2 d3 HDF
      have HKL : Hid (kl = ln + 1) := by show _ = _; rw [EKL.out, ELN.out]
      have HMW : Hid (wmu gR (O.length * Q.length) wr + wdl B wr = D0.length + 1 + mu (O.length * Q.length) fr) := by show _ = _; rw [HJ.out.dyn.rch.wmu, HJ.out.wdl, List.length_append, List.length_singleton]; omega
      go_upto_region 8 with fail
      refine wp_then (reg28_8_any b1 B gD cD kl ln du dc dold dnow wr b10 c9 HKL.out hkl d0 d1 d2 d3 _ _ _ _ _ _ _ _ _ _ _ _ _ _ _ _ _ _ _ _ _ _ _ _ _ _ _ _ _ _ _ _ _ _ _ _ _ _ _ _ _ _ _ _ _ _ _ _ _ _ _ _ _ _ _ _ _ _ _ _ _ _ _ _ _ _ _ _ _ _ _ _ _ _ _ _ _ _ _ _ _ _ _ _ _ _ _ _ _ _ _ _ _ _ _ _ _ _ _ _ _ _ _ _ _ _ _ _ _ _ _ _ _ _ _ _ _ _ _ _ _ _ _ _ _ _ _ _ _ _ _ _ _ _ _ _ _ _ _ _ _ _ _ _ _ _ _ _ _ _ _ _ _ _ _ _ _ _ _ _ _ _ _ _ _ _ _ _ _ _ _ _ _ _ _ _ _ _ _ _ _ _ _ _ _ _ _ _ _ _ _ _ _ _ _ _ _ _ _ _ _ _ _ _ _ _ _ _ _ _ _ _ _ _ _ _ _ _ _ _ _ _ _ _ _ _ _ _ _ _ _ _ _ _ _ _ _ _ _ _ _ _ _ _ _ _ _ _ _ _ _ _ _ _ _ _ _ _ _ _ _ _ _ _ _ _ _ _ _ _ _ _ _ _ _ _ _ _ _ _ _ _ _ _ _ _ _ _ _ _ _ _ _ _ _ _ _ _ _ _ _ _ _ _ _ _ _ _ _ _ _ _ _ _ ?_)
      rintro x80 x81 x82 x83 x84 x85 x86 x87 x88 x89 x90 x91
      have s1 : Stp (fun _ => False) ρr wr (ext ρr wr (.tmp 1)) (wr.alloc (.cells #[.int .i64 (du : Nat), .int .i64 (dc : Nat), .int .i32 dold, .int .i32 dnow] 106)) := (Stp.refl _ ρr wr).alloc _ _
      have s2 : Stp (fun _ => False) (ext ρr wr (.tmp 1)) (wr.alloc (.cells #[.int .i64 (du : Nat), .int .i64 (dc : Nat), .int .i32 dold, .int .i32 dnow] 106)) (ext ρr wr (.tmp 1)) (wr.alloc (.cells #[.int .i64 (du : Nat), .int .i64 (dc : Nat), .int .i32 dold, .int .i32 dnow] 106)).drew := (Stp.refl (fun _ => False) (ext ρr wr (.tmp 1)) (wr.alloc (.cells #[.int .i64 (du : Nat), .int .i64 (dc : Nat), .int .i32 dold, .int .i32 dnow] 106))).drewN 1
      have hjA := (HJ.out.keep0 s1 (fun _ h => h.elim)).keep0 s2 (fun _ h => h.elim)
      have hb5 : St (ext ρr wr (.tmp 1)) (wr.alloc (.cells #[.int .i64 (du : Nat), .int .i64 (dc : Nat), .int .i32 dold, .int .i32 dnow] 106)).drew (.tmp 1) wr.heap.size 106 #[.int .i64 (du : Nat), .int .i64 (dc : Nat), .int .i32 dold, .int .i32 dnow] := St.new.keep s2 (fun h => h)
      have hb1 := ((HBX.out _ List.mem_cons_self).keep s1 (fun h => h)).keep s2 (fun h => h)
      have hsA := s1.trans s2
      obtain ⟨b5, eb5⟩ : ∃ b5, b5 = wr.heap.size := ⟨_, rfl⟩
      obtain ⟨W1, eW1⟩ : ∃ W1, W1 = (wr.alloc (.cells #[.int .i64 (du : Nat), .int .i64 (dc : Nat), .int .i32 dold, .int .i32 dnow] 106)).drew := ⟨_, rfl⟩
      obtain ⟨ρA, eρA⟩ : ∃ ρA, ρA = ext ρr wr (.tmp 1) := ⟨_, rfl⟩
      rw [← eW1, ← eρA] at hjA hb5 hb1 hsA
      rw [← eb5] at hb5
      rw [← eb5, ← eW1]
      clear eb5 eW1 eρA s1 s2 d0 d1 d2 d3 b10 c9 c10 ixd
      have b10 := hb1.cell 0 rfl
      have c9' := hjA.dyn.clo.cell 9 rfl
      have f9 := hjA.dyn.clo.free 9
      have hpop := hjA.pop (gD := gD) (cD := cD) (by rw [EKL.out])
      rw [← ELN.out] at hpop
      have HQ1 : Hid (Dq ρr wr C Lb O Q P F vo vp vf vs vk vpc vps vsr vrd vsw Cb gof gat vW vR vL co po B G gs gp gR vh (Er.length + mu (O.length * Q.length) fr) (D0.length + mu (O.length * Q.length) fr) [(b5, 106, #[.int .i64 (du : Nat), .int .i64 (dc : Nat), .int .i32 dold, .int .i32 dnow]), (b1, 25, #[.pointer (some ⟨B, 0, none⟩)])] (W1.setCell ⟨B, 9, none⟩ (.slice (some ⟨gD, 0, none⟩) ln cD)).drew) := by
        refine Dq.drew ⟨ρA, _, Er, fr, D0, hpop.1, fun b hb => ?_, Nat.le_refl _, Nat.le_refl _, (hsA.mono fun _ h => h.elim).trans (hpop.2.one (.inl (.inl rfl)))⟩ 1
        rcases List.mem_cons.1 hb with rfl | hb
        · exact hb5.keep hpop.2 (by decide)
        · obtain rfl := List.mem_singleton.1 hb
          exact hb1.keep hpop.2 (by decide)
      clear hjA hb5 hb1 hsA hpop HBX
      go_upto_region 9 with fail
      refine wp_then (reg28_9_any b1 B gD cD kl ln W1 b10 c9' f9 HKL.out hkl hcap _ _ _ _ _ _ _ _ _ _ _ _ _ _ _ _ _ _ _ _ _ _ _ _ _ _ _ _ _ _ _ _ _ _ _ _ _ _ _ _ _ _ _ _ _ _ _ _ _ _ _ _ _ _ _ _ _ _ _ _ _ _ _ _ _ _ _ _ _ _ _ _ _ _ _ _ _ _ _ _ _ _ _ _ _ _ _ _ _ _ _ _ _ _ _ _ _ _ _ _ _ _ _ _ _ _ _ _ _ _ _ _ _ _ _ _ _ _ _ _ _ _ _ _ _ _ _ _ _ _ _ _ _ _ _ _ _ _ _ _ _ _ _ _ _ _ _ _ _ _ _ _ _ _ _ _ _ _ _ _ _ _ _ _ _ _ _ _ _ _ _ _ _ _ _ _ _ _ _ _ _ _ _ _ _ _ _ _ _ _ _ _ _ _ _ _ _ _ _ _ _ _ _ _ _ _ _ _ _ _ _ _ _ _ _ _ _ _ _ _ _ _ _ _ _ _ _ _ _ _ _ _ _ _ _ _ _ _ _ _ _ _ _ _ _ _ _ _ _ _ _ _ _ _ _ _ _ _ _ _ _ _ _ _ _ _ _ _ _ _ _ _ _ _ _ _ _ _ _ _ _ _ _ _ _ _ _ _ _ _ _ _ _ _ _ _ _ _ _ _ _ _ _ _ _ _ _ _ _ _ _ _ _ _ ?_)
      rintro x92 x93 x94 x95 x96 x97 x98 x99 x100 x101 x102 x103 x104 x105
      obtain ⟨W2, eW2⟩ : ∃ W2, W2 = (W1.setCell ⟨B, 9, none⟩ (.slice (some ⟨gD, 0, none⟩) ln cD)).drew := ⟨_, rfl⟩
      rw [← eW2] at HQ1
      rw [← eW2]
      clear eW2 b10 c9' f9
      obtain ⟨ρs, vds, Es, fs, Ds, hj, hbx, he, hd, hst⟩ := HQ1.out
      obtain ⟨hdu, hdc, hdw, hdn0, hdno, hdol, hdn⟩ := HDF.out
      have hdc' := hdc
      rw [col_len] at hdc
      have hsm := HCO.out.small dc hdc'
      have hb5 := hbx _ List.mem_cons_self
      have hb1 := hbx _ (List.mem_cons_of_mem _ List.mem_cons_self)
      have b10 := hb1.cell 0 rfl
      have d0 := hb5.cell 0 rfl
      have c0 := hj.dyn.clo.cell 0 rfl
      obtain ⟨gk, ck, hvk, _, _, _⟩ := Row.has hj.sta.base.key (by omega)
      have l2 : W2.cell? ⟨Lb, 2, none⟩ = some (.slice (some ⟨gk, 0, none⟩) O.length ck) := by rw [← hvk]; exact hj.sta.base.st.cell 2 rfl
      have kc : W2.cell? ⟨gk, du, none⟩ = some (.int .i64 ((ky O du : Nat) : Int)) := by have := hj.sta.base.key; rw [hvk] at this; exact FRow.cell this hdu
      have hkk := HLK.out.key du hdu
      obtain ⟨kd, ekd⟩ : ∃ kd, kd = ky O du := ⟨_, rfl⟩
      rw [← ekd] at kc hkk
      have ixk := fun wx => idx38 (b := gk) (c := ck) hdu wx
      have EKD := hide ekd
      clear hj hbx he hd hst hb5 hb1 hvk ekd
      go_upto_region 10 with fail
      go_quiet (fail)
      go_upto_region 11 with fail
      obtain ⟨W3, eW3⟩ : ∃ W3, W3 = W2.drewN nq := ⟨_, rfl⟩
      have HQ3 := hide (HQ1.out.drew nq)
      rw [← eW3] at HQ3
      rw [← eW3]
      clear eW3 b10 d0 c0 l2 kc ixk HQ1
      obtain ⟨ρ3, vd3, E3, f3, D3, hj, hbx, he3, hd3, hst3⟩ := HQ3.out
      have hb5 := hbx _ List.mem_cons_self
      have hb1 := hbx _ (List.mem_cons_of_mem _ List.mem_cons_self)
      obtain ⟨vsR, hRl, hRr, hRk⟩ := hj.sta.re.ex
      obtain ⟨gRr, cRr, hvR, _, _, _⟩ := hRr.has (by omega)
      have k4 : W3.cell? ⟨Cb, 4, none⟩ = some (.slice (some ⟨gRr, 0, none⟩) (kk O) cRr) := by rw [← hvR]; exact hj.sta.cst.cell 4 rfl
      rw [hvR] at hRr
      have rr0 := hRr.cell1 hkk hRl
      obtain ⟨us, hul, hur, hun⟩ := (hRk kd hkk).ex
      have hrl : (reL O (Q.map P) kd).length = Q.length := by simp [reL]
      rw [hrl] at hul hur hun
      obtain ⟨gRk, cRk, hvRk, _, _, _⟩ := hur.has (by omega)
      rw [hvRk] at rr0 hur
      have rr1 := hur.cell1 hdc hul
      have hnX := hun dc hdc
      obtain ⟨X, eX⟩ : ∃ X, X = (reL O (Q.map P) kd)[dc]! := ⟨_, rfl⟩
      rw [← eX] at hnX
      obtain ⟨aX, cX, hvX, _, _⟩ := Row.form hnX
      rw [hvX] at rr1 hnX
      rw [reL_at O (Q.map P) kd hdc'] at eX
      have HXF := hide (fil_facts HCO.out _ hdc' eX)
      have hXl : X.length ≤ 3000 := by rw [eX]; exact Nat.le_trans (List.length_filter_le _ _) hsm
      refine wp_then (reg28_11_any b1 b5 B Cb gRr gRk cRr cRk (kk O) Q.length X.length cX kd dc aX W3 (hb1.cell 0 rfl) (hj.dyn.clo.cell 1 rfl) k4 rr0 (hb5.cell 1 rfl) rr1 hkk hdc _ _ _ _ _ _ _ _ _ _ _ _ _ _ _ _ _ _ _ _ _ _ _ _ _ _ _ _ _ _ _ _ _ _ _ _ _ _ _ _ _ _ _ _ _ _ _ _ _ _ _ _ _ _ _ _ _ _ _ _ _ _ _ _ _ _ _ _ _ _ _ _ _ _ _ _ _ _ _ _ _ _ _ _ _ _ _ _ _ _ _ _ _ _ _ _ _ _ _ _ _ _ _ _ _ _ _ _ _ _ _ _ _ _ _ _ _ _ _ _ _ _ _ _ _ _ _ _ _ _ _ _ _ _ _ _ _ _ _ _ _ _ _ _ _ _ _ _ _ _ _ _ _ _ _ _ _ _ _ _ _ _ _ _ _ _ _ _ _ _ _ _ _ _ _ _ _ _ _ _ _ _ _ _ _ _ _ _ _ _ _ _ _ _ _ _ _ _ _ _ _ _ _ _ _ _ _ _ _ _ _ _ _ _ _ _ _ _ _ _ _ _ _ _ _ _ _ _ _ _ _ _ _ _ _ _ _ _ _ _ _ _ _ _ _ _ _ _ _ _ _ _ _ _ _ _ _ _ _ _ _ _ _ _ _ _ _ _ _ _ _ _ _ _ _ _ _ _ _ _ _ _ _ _ _ _ _ _ _ _ _ _ _ _ _ _ _ _ _ _ _ _ _ _ _ _ _ _ _ _ _ _ ?_)
      rintro x117 x118 x119 x120 x121 x122 x123 x124 x125 x126 x127 x128 x129 x130
      have HQ4 : Hid (Dq ρ3 W3 C Lb O Q P F vo vp vf vs vk vpc vps vsr vrd vsw Cb gof gat vW vR vL co po B G gs gp gR vh (E3.length + mu (O.length * Q.length) f3) (D3.length + mu (O.length * Q.length) f3) [(W3.heap.size, 38, #[.slice aX X.length cX]), (b5, 106, #[.int .i64 (du : Nat), .int .i64 (dc : Nat), .int .i32 dold, .int .i32 dnow]), (b1, 25, #[.pointer (some ⟨B, 0, none⟩)])] (W3.alloc (.cells #[.slice aX X.length cX] 38)).drew) := (Dq.box ⟨ρ3, vd3, E3, f3, D3, hj, hbx, Nat.le_refl _, Nat.le_refl _, Stp.refl _ _ _⟩ 38 _).drew 1
      obtain ⟨b7, eb7⟩ : ∃ b7, b7 = W3.heap.size := ⟨_, rfl⟩
      obtain ⟨W4, eW4⟩ : ∃ W4, W4 = (W3.alloc (.cells #[.slice aX X.length cX] 38)).drew := ⟨_, rfl⟩
      rw [← eb7, ← eW4] at HQ4
      rw [← eb7, ← eW4]
      have HNX := hide hnX
      have HE3 := hide (And.intro he3 hd3)
      have HS3 := hide hst3
      clear hj hbx he3 hd3 hst3 hb5 hb1 hRl hRr hRk hvR k4 rr0 hul hur hun hrl hvRk rr1 hnX eX hvX eb7 eW4 HQ3
      obtain ⟨ρ4, vd4, E4, f4, D4, hj, hbx, he4, hd4, hst4⟩ := HQ4.out
      have hb7 := hbx _ List.mem_cons_self
      have hb5 := hbx _ (List.mem_cons_of_mem _ List.mem_cons_self)
      have hb1 := hbx _ (List.mem_cons_of_mem _ (List.mem_cons_of_mem _ List.mem_cons_self))
      have b70 := hb7.cell 0 rfl
      have HN4 := hide (HNX.out.keep hst4 (by simp [RK, RV, RG]))
      have SE := hide (search_any 53 #[.pointer (some ⟨b1, 0, none⟩), .pointer (some ⟨b7, 0, none⟩), .pointer (some ⟨b5, 0, none⟩)] X.length (fun i => decide (dnow ≤ (po X[i]! : Nat))) W4 eg53 (by omega) (fun q i hi => by
        obtain ⟨gX, cX', hvX, _, _, _⟩ := Row.has HN4.out (by omega)
        have hc := HN4.out
        rw [hvX] at hc
        have h7 := hb7.cell 0 rfl
        rw [hvX] at h7
        exact drain1_any b1 b7 b5 B Cb gat O.length gX cX' X.length i X[i]! (po X[i]!) dnow (W4.drewN q) (hb1.cell 0 rfl) (hj.dyn.clo.cell 1 rfl) (hj.sta.cst.cell 1 rfl) h7 hi (NRow.cell hc hi) (HXF.out i hi).1 (hj.sta.pos.cell (HXF.out i hi).1) (hb5.cell 3 rfl) hdn0 (by omega)))
      clear hj hbx he4 hd4 hst4 hb7 hb5 hb1 HN4
      go_upto_block 2 with (go_at_call 29; refine SE.out.mono ?_; rintro e w5 ⟨i0, rfl, hi0, hp1, hp2, q5, rfl⟩)
      clear SE hp2 b70
      have HP1 : Hid (∀ k, i0 ≤ k → k < X.length → X[k]! < O.length ∧ (opAt O (X[k]!)).rd = true ∧ ky O X[k]! = ky O du ∧ du < X[k]!) := fun k hik hk => by
        obtain ⟨a1, a2, a3, a4⟩ := HXF.out k hk
        have h5 := hp1 (by omega)
        have h6 : dnow ≤ (po X[i0]! : Nat) := of_decide_eq_true h5
        have h7 : po X[i0]! ≤ po X[k]! := by
          rcases Nat.lt_or_ge i0 k with h | h
          · exact Nat.le_of_lt (a4 i0 h)
          · have : i0 = k := by omega
            rw [this]; exact Nat.le_refl _
        simp only [Bool.and_eq_true, beq_iff_eq] at a2
        exact ⟨a1, a2.1, by rw [a2.2]; exact EKD.out, drop_lt HCO.out hdc' hdn hdn0 a1 a3 (by omega)⟩
      clear hp1
      have HQ5 := hide (HQ4.out.drew q5)
      have HFIN : Hid (∀ bx wx, hon = false → Dq ρ3 W3 C Lb O Q P F vo vp vf vs vk vpc vps vsr vrd vsw Cb gof gat vW vR vL co po B G gs gp gR vh (E3.length + mu (O.length * Q.length) f3) (D3.length + mu (O.length * Q.length) f3) bx wx → DrainP hon ρ w C Lb O Q P F vo vp vf vs vk vpc vps vsr vrd vsw Cb gof gat vW vR vL co po B G gs gp gR vh E f D (.returned (.bool false)) wx) := fun bx wx hon hq => by
        have e1 := HED.out.1
        have e2 := HED.out.2
        have e3 := HE3.out.1
        have e4 := HE3.out.2
        exact ⟨false, rfl, (fun h => by rw [h] at hon; cases hon), (hq.lift (HST.out.trans HS3.out) (by omega) (by omega) (by' := []) (by simp)).toLink⟩
      have hE3b : E3.length + mu (O.length * Q.length) f3 ≤ 20000000 := by have := HE3.out.1; have := HED.out.1; omega
      have hD3b : D3.length + mu (O.length * Q.length) f3 ≤ 20000000 := by have := HE3.out.2; have := HED.out.2; omega
      refine wp_thenRet (blk28_2_any C Lb O Q P F vo vp vf vs vk vpc vps vsr vrd vsw Cb gof gat vW vR vL co po B G gs gp gR vh hon ρ3 W3 _ hO hQ HCO HLK _ _ hE3b hD3b b1 b5 b7 du dc i0 dold dnow X aX cX kd hXl HNX hdu hdw ⟨by omega, by omega⟩ HP1 hi0 HQ5 _ _ _ _ _ _ _ _ _ _ _ _ _ _ _ _ _ _ _ _ _ _ _ _ _ _ _ _ _ _ _ _ _ _ _ _ _ _ _ _ _ _ _ _ _ _ _ _ _ _ _ _ _ _ _ _ _ _ _ _ _ _ _ _ _ _ _ _ _ _ _ _ _ _ _ _ _ _ _ _ _ _ _ _ _ _ _ _ _ _ _ _ _ _ _ _ _ _ _ _ _ _ _ _ _ _ _ _ _ _ _ _ _ _ _ _ _ _ _ _ _ _ _ _ _ _ _ _ _ _ _ _ _ _ _ _ _ _ _ _ _ _ _ _ _ _ _ _ _ _ _ _ _ _ _ _ _ _ _ _ _ _ _ _ _ _ _ _ _ _ _ _ _ _ _ _ _ _ _ _ _ _ _ _ _ _ _ _ _ _ _ _ _ _ _ _ _ _ _ _ _ _ _ _ _ _ _ _ _ _ _ _ _ _ _ _ _ _ _ _ _ _ _ _ _ _ _ _ _ _ _ _ _ _ _ _ _ _ _ _ _ _ _ _ _ _ _ _ _ _ _ _ _ _ _ _ _ _ _ _ _ _ _ _ _ _ _ _ _ _ _ _ _ _ _ _ _ _ _ _ _ _ _ _ _ _ _ _ _ _ _ _ _ _ _ _ _ _ _ _ _ _ _ _ _ _ _ _ _ _ _ ?_ ?_)
      rotate_left
      · rintro x8 x9 x135 x136 x137 x138 x139 x140 x141 x142 x143 x144 x145 x146 x147 x148 x149 x150 x151 x152 x153 x154 x155 x156 x157 x158 x159 x160 x161 x162 x163 x164 x165 x166 x167 x168 x169 x170 x171 x172 x173 x174 x175 x176 x177 x178 x179 x180 x181 x182 x183 x184 x185 x186 x187 x188 x189 wx h1 h2
        have HX := hide (HFIN.out _ wx h1 h2)
        go_ret
        exact HX.out
      rintro x2 x8 x9 x135 x136 x137 x138 x139 x140 x141 x142 x143 x144 x145 x146 x147 x148 x149 x150 x151 x152 x153 x154 x155 x156 x157 x158 x159 x160 x161 x162 x163 x164 x165 x166 x167 x168 x169 x170 x171 x172 x173 x174 x175 x176 x177 x178 x179 x180 x181 x182 x183 x184 x185 x186 x187 x188 x189 W6 hq6
      have HQ6 := hide hq6
      clear hq6 HQ5 HQ4 HP1 HXF HNX hi0
      go_upto_region 18 with fail
      obtain ⟨ρ6, vd6, E6, f6, D6, hj, hbx, he6, hd6, hst6⟩ := HQ6.out
      have hb5 := hbx _ (List.mem_cons_of_mem _ List.mem_cons_self)
      have hb1 := hbx _ (List.mem_cons_of_mem _ (List.mem_cons_of_mem _ List.mem_cons_self))
      obtain ⟨vsR, hRl, hRr, hRk⟩ := hj.sta.wr.ex
      obtain ⟨gRr, cRr, hvR, _, _, _⟩ := hRr.has (by omega)
      have k4 : W6.cell? ⟨Cb, 3, none⟩ = some (.slice (some ⟨gRr, 0, none⟩) (kk O) cRr) := by rw [← hvR]; exact hj.sta.cst.cell 3 rfl
      rw [hvR] at hRr
      have rr0 := hRr.cell1 hkk hRl
      obtain ⟨us, hul, hur, hun⟩ := (hRk kd hkk).ex
      have hrl : (wrL O (Q.map P) kd).length = Q.length := by simp [wrL]
      rw [hrl] at hul hur hun
      obtain ⟨gRk, cRk, hvRk, _, _, _⟩ := hur.has (by omega)
      rw [hvRk] at rr0 hur
      have rr1 := hur.cell1 hdc hul
      have hnX := hun dc hdc
      obtain ⟨Wl, eX⟩ : ∃ X, X = (wrL O (Q.map P) kd)[dc]! := ⟨_, rfl⟩
      rw [← eX] at hnX
      obtain ⟨aW, cW, hvX, _, _⟩ := Row.form hnX
      rw [hvX] at rr1 hnX
      rw [wrL_at O (Q.map P) kd hdc'] at eX
      have HXF := hide (fil_facts HCO.out _ hdc' eX)
      have hWl : Wl.length ≤ 3000 := by rw [eX]; exact Nat.le_trans (List.length_filter_le _ _) hsm
      refine wp_then (reg28_18_any b1 b5 B Cb gRr gRk cRr cRk (kk O) Q.length Wl.length cW kd dc aW W6 (hb1.cell 0 rfl) (hj.dyn.clo.cell 1 rfl) k4 rr0 (hb5.cell 1 rfl) rr1 hkk hdc _ _ _ _ _ _ _ _ _ _ _ _ _ _ _ _ _ _ _ _ _ _ _ _ _ _ _ _ _ _ _ _ _ _ _ _ _ _ _ _ _ _ _ _ _ _ _ _ _ _ _ _ _ _ _ _ _ _ _ _ _ _ _ _ _ _ _ _ _ _ _ _ _ _ _ _ _ _ _ _ _ _ _ _ _ _ _ _ _ _ _ _ _ _ _ _ _ _ _ _ _ _ _ _ _ _ _ _ _ _ _ _ _ _ _ _ _ _ _ _ _ _ _ _ _ _ _ _ _ _ _ _ _ _ _ _ _ _ _ _ _ _ _ _ _ _ _ _ _ _ _ _ _ _ _ _ _ _ _ _ _ _ _ _ _ _ _ _ _ _ _ _ _ _ _ _ _ _ _ _ _ _ _ _ _ _ _ _ _ _ _ _ _ _ _ _ _ _ _ _ _ _ _ _ _ _ _ _ _ _ _ _ _ _ _ _ _ _ _ _ _ _ _ _ _ _ _ _ _ _ _ _ _ _ _ _ _ _ _ _ _ _ _ _ _ _ _ _ _ _ _ _ _ _ _ _ _ _ _ _ _ _ _ _ _ _ _ _ _ _ _ _ _ _ _ _ _ _ _ _ _ _ _ _ _ _ _ _ _ _ _ _ _ _ _ _ _ _ _ _ _ _ _ _ _ _ _ _ _ _ _ _ ?_)
      rintro x190 x191 x192 x193 x194 x195 x196 x197 x198 x199 x200 x201 x202 x203
      have HQ7 : Hid (Dq ρ6 W6 C Lb O Q P F vo vp vf vs vk vpc vps vsr vrd vsw Cb gof gat vW vR vL co po B G gs gp gR vh (E6.length + mu (O.length * Q.length) f6) (D6.length + mu (O.length * Q.length) f6) [(W6.heap.size, 38, #[.slice aW Wl.length cW]), (b7, 38, #[.slice aX X.length cX]), (b5, 106, #[.int .i64 (du : Nat), .int .i64 (dc : Nat), .int .i32 dold, .int .i32 dnow]), (b1, 25, #[.pointer (some ⟨B, 0, none⟩)])] (W6.alloc (.cells #[.slice aW Wl.length cW] 38)).drew) := (Dq.box ⟨ρ6, vd6, E6, f6, D6, hj, hbx, Nat.le_refl _, Nat.le_refl _, Stp.refl _ _ _⟩ 38 _).drew 1
      obtain ⟨b10', eb7⟩ : ∃ b10', b10' = W6.heap.size := ⟨_, rfl⟩
      obtain ⟨W7, eW4⟩ : ∃ W7, W7 = (W6.alloc (.cells #[.slice aW Wl.length cW] 38)).drew := ⟨_, rfl⟩
      rw [← eb7, ← eW4] at HQ7
      rw [← eb7, ← eW4]
      have HNW := hide hnX
      have HE6 := hide (And.intro he6 hd6)
      have HS6 := hide hst6
      clear hj hbx he6 hd6 hst6 hb5 hb1 hRl hRr hRk hvR k4 rr0 hul hur hun hrl hvRk rr1 hnX eX hvX eb7 eW4 HQ6
      obtain ⟨ρ7, vd7, E7, f7, D7, hj, hbx, he4, hd4, hst4⟩ := HQ7.out
      have hb10 := hbx _ List.mem_cons_self
      have hb5 := hbx _ (List.mem_cons_of_mem _ (List.mem_cons_of_mem _ List.mem_cons_self))
      have hb1 := hbx _ (List.mem_cons_of_mem _ (List.mem_cons_of_mem _ (List.mem_cons_of_mem _ List.mem_cons_self)))
      have b100 := hb10.cell 0 rfl
      have HN4 := hide (HNW.out.keep hst4 (by simp [RK, RV, RG]))
      have SE := hide (search_any 54 #[.pointer (some ⟨b1, 0, none⟩), .pointer (some ⟨b10', 0, none⟩), .pointer (some ⟨b5, 0, none⟩)] Wl.length (fun i => decide (dnow ≤ (po Wl[i]! : Nat))) W7 eg54 (by omega) (fun q i hi => by
        obtain ⟨gX, cX', hvX, _, _, _⟩ := Row.has HN4.out (by omega)
        have hc := HN4.out
        rw [hvX] at hc
        have h7 := hb10.cell 0 rfl
        rw [hvX] at h7
        exact drain2_any b1 b10' b5 B Cb gat O.length gX cX' Wl.length i Wl[i]! (po Wl[i]!) dnow (W7.drewN q) (hb1.cell 0 rfl) (hj.dyn.clo.cell 1 rfl) (hj.sta.cst.cell 1 rfl) h7 hi (NRow.cell hc hi) (HXF.out i hi).1 (hj.sta.pos.cell (HXF.out i hi).1) (hb5.cell 3 rfl) hdn0 (by omega)))
      clear hj hbx he4 hd4 hst4 hb10 hb5 hb1 HN4
      go_upto_region 20 with (go_at_call 29; refine SE.out.mono ?_; rintro e w8 ⟨i1, rfl, hi1, hp1, hp2, q8, rfl⟩)
      clear SE hp2 b100
      have HP1 := hide hp1
      have HQ8 := hide (HQ7.out.drew q8)
      obtain ⟨W8, eW8⟩ : ∃ W8, W8 = W7.drewN q8 := ⟨_, rfl⟩
      rw [← eW8] at HQ8
      rw [← eW8]
      clear hp1 eW8 HQ7
      obtain ⟨ρ8, vd8, E8, f8, D8, hj, hbx, he8, hd8, hst8⟩ := HQ8.out
      have hb10 := hbx _ List.mem_cons_self
      have hb5 := hbx _ (List.mem_cons_of_mem _ (List.mem_cons_of_mem _ List.mem_cons_self))
      have hb1 := hbx _ (List.mem_cons_of_mem _ (List.mem_cons_of_mem _ (List.mem_cons_of_mem _ List.mem_cons_self)))
      have b10 := hb1.cell 0 rfl
      by_cases hi1l : i1 < Wl.length
      · have hl1 : decide ((i1 : Int) < (Wl.length : Int)) = true := decide_eq_true (by omega)
        have hnr := HNW.out.keep hst8 (by simp [RK, RV, RG])
        obtain ⟨gX, cX', hvX, _, _, _⟩ := Row.has hnr (by omega)
        have b100 : W8.cell? ⟨b10', 0, none⟩ = some (.slice (some ⟨gX, 0, none⟩) Wl.length cX') := by rw [← hvX]; exact hb10.cell 0 rfl
        have hnr' := hnr
        rw [hvX] at hnr'
        have y0 := NRow.cell hnr' hi1l
        obtain ⟨a1, a2, a3, _⟩ := HXF.out i1 hi1l
        simp only [Bool.and_eq_true, beq_iff_eq, Bool.not_eq_true'] at a2
        have hp2 : dnow ≤ (po Wl[i1]! : Nat) := of_decide_eq_true (HP1.out hi1l)
        have HP2 := hide hp2
        clear hp2
        obtain ⟨x, ex⟩ : ∃ x, x = Wl[i1]! := ⟨_, rfl⟩
        have EXX := hide ex
        rw [← ex] at y0 a1 a2 a3 HP2
        have o2 := hj.sta.pos.cell a1
        have HUX : Hid (du < x) := drop_lt HCO.out hdc' hdn hdn0 a1 a3 HP2.out
        have HA2 := hide a2
        obtain ⟨px, epx⟩ : ∃ px, px = po x := ⟨_, rfl⟩
        have hpx : px ≤ 3000 := by rw [epx]; have h1 := HCO.out.fwd x a1; have h2 := HCO.out.small _ h1.1; omega
        rw [← epx] at o2
        have b52 := hb5.cell 2 rfl
        have b50 := hb5.cell 0 rfl
        have c1 := hj.dyn.clo.cell 1 rfl
        have k1 := hj.sta.cst.cell 1 rfl
        have ix1 := fun wx => idx38 (b := gX) (c := cX') hi1l wx
        have ix2 := fun wx => idx38 (b := gat) (c := O.length) a1 wx
        by_cases hlo : (px : Int) < dold
        · as_aux_lemma =>
            have hl2 : decide ((px : Int) < dold) = true := decide_eq_true hlo
            have c0 := hj.dyn.clo.cell 0 rfl
            obtain ⟨vsF, hFl, hFr, hFk⟩ := hj.sta.base.rds.ex
            have hFn : du < F.length := by have := HRD.out.len; omega
            obtain ⟨gF, cFF, hvF, _, _, _⟩ := hFr.has (by omega)
            have l6 : W8.cell? ⟨Lb, 6, none⟩ = some (.slice (some ⟨gF, 0, none⟩) F.length cFF) := by rw [← hvF]; exact hj.sta.base.st.cell 6 rfl
            rw [hvF] at hFr
            have ff0 := hFr.cell1 hFn hFl
            have hnF := hFk du hFn
            obtain ⟨FR, eFR⟩ : ∃ FR, FR = F[du]! := ⟨_, rfl⟩
            have hFR3 : FR.length ≤ 3000 := by rw [eFR]; have := HRD.out.small du; omega
            have HFM : Hid (∀ r ∈ FR, r < O.length ∧ Lk (Q.map P) hon r x) := fun r hr => by
              rw [eFR] at hr
              obtain ⟨m1, m2, m3⟩ := HRD.out.mem du r hr
              have m4 := HLK.out.srcw r du m1 m2 m3 hdu
              exact ⟨m1, HLK.out.s2 r x du m1 a1 m2 m3 hdu HA2.out.1 (by rw [HA2.out.2, ← m4.2]; exact EKD.out) HUX.out⟩
            rw [← eFR] at hnF
            obtain ⟨aF, cF, hvFR, _, _⟩ := Row.form hnF
            rw [hvFR] at ff0 hnF
            have ixf := fun wx => idx48 (b := gF) (c := cFF) hFn wx
            have HNF := hide hnF
            have HNW8 := hide hnr
            have HQ8' : Hid (Dq ρ8 W8 C Lb O Q P F vo vp vf vs vk vpc vps vsr vrd vsw Cb gof gat vW vR vL co po B G gs gp gR vh (E8.length + mu (O.length * Q.length) f8) (D8.length + mu (O.length * Q.length) f8) [(b10', 38, #[.slice aW Wl.length cW]), (b7, 38, #[.slice aX X.length cX]), (b5, 106, #[.int .i64 (du : Nat), .int .i64 (dc : Nat), .int .i32 dold, .int .i32 dnow]), (b1, 25, #[.pointer (some ⟨B, 0, none⟩)])] W8) := ⟨ρ8, vd8, E8, f8, D8, hj, hbx, Nat.le_refl _, Nat.le_refl _, Stp.refl _ _ _⟩
            have HE8 := hide (And.intro he8 hd8)
            have HS8 := hide hst8
            clear hj hbx he8 hd8 hst8 hb10 hb5 hb1 hnr hvX hnr' ex epx a2 a3 hFl hFr hFk hvF hnF eFR hvFR
            go_quiet (fail)
            go_upto_region 21 with fail
            go_quiet (fail)
            go_upto_block 4 with fail
            refine wp_thenRet (blk28_4_any C Lb O Q P F vo vp vf vs vk vpc vps vsr vrd vsw Cb gof gat vW vR vL co po B G gs gp gR vh hon ρ8 W8 _ hO hQ HCO _ _ (by have := HE8.out.1; have := HE6.out.1; omega) (by have := HE8.out.2; have := HE6.out.2; omega) _ b1 b10' i1 x FR Wl aF aW cF cW kd dc du hFR3 (by simp [Hid]) HNF HNW8 hi1l EXX a1 HFM ((HQ8'.out.drew _).drew _) _ _ _ _ _ _ _ _ _ _ _ _ _ _ _ _ _ _ _ _ _ _ _ _ _ _ _ _ _ _ _ _ _ _ _ _ _ _ _ _ _ _ _ _ _ _ _ _ _ _ _ _ _ _ _ _ _ _ _ _ _ _ _ _ _ _ _ _ _ _ _ _ _ _ _ _ _ _ _ _ _ _ _ _ _ _ _ _ _ _ _ _ _ _ _ _ _ _ _ _ _ _ _ _ _ _ _ _ _ _ _ _ _ _ _ _ _ _ _ _ _ _ _ _ _ _ _ _ _ _ _ _ _ _ _ _ _ _ _ _ _ _ _ _ _ _ _ _ _ _ _ _ _ _ _ _ _ _ _ _ _ _ _ _ _ _ _ _ _ _ _ _ _ _ _ _ _ _ _ _ _ _ _ _ _ _ _ _ _ _ _ _ _ _ _ _ _ _ _ _ _ _ _ _ _ _ _ _ _ _ _ _ _ _ _ _ _ _ _ _ _ _ _ _ _ _ _ _ _ _ _ _ _ _ _ _ _ _ _ _ _ _ _ _ _ _ _ _ _ _ _ _ _ _ _ _ _ _ _ _ _ _ _ _ _ _ _ _ _ _ _ _ _ _ _ _ _ _ _ _ _ _ _ _ _ _ _ _ _ _ _ _ _ _ _ _ _ _ _ _ _ _ _ _ _ _ _ _ _ _ ?_ ?_)
            rotate_left
            · rintro x12 x243 x244 x245 x246 x247 x248 x249 x250 x251 x252 x253 x254 x255 wx h1 h2
              have HX := hide (HFIN.out _ wx h1 (h2.lift (HS6.out.trans HS8.out) (by have := HE8.out.1; have := HE6.out.1; omega) (by have := HE8.out.2; have := HE6.out.2; omega) (by' := []) (by simp)))
              go_ret
              exact HX.out
            rintro x2' x12 x243 x244 x245 x246 x247 x248 x249 x250 x251 x252 x253 x254 x255 W10 hq10
            have HQ10 : Hid (Dq ρ6 W6 C Lb O Q P F vo vp vf vs vk vpc vps vsr vrd vsw Cb gof gat vW vR vL co po B G gs gp gR vh (E6.length + mu (O.length * Q.length) f6) (D6.length + mu (O.length * Q.length) f6) [(b10', 38, #[.slice aW Wl.length cW]), (b7, 38, #[.slice aX X.length cX]), (b5, 106, #[.int .i64 (du : Nat), .int .i64 (dc : Nat), .int .i32 dold, .int .i32 dnow]), (b1, 25, #[.pointer (some ⟨B, 0, none⟩)])] W10) := hq10.lift HS8.out HE8.out.1 HE8.out.2 (fun b hb => hb)
            clear hq10
            go_upto_region 27 with fail
            obtain ⟨ρt, vdt, Et, ft, Dt, hj, hbx, het, hdt, hstt⟩ := HQ10.out
            have hb5 := hbx _ (List.mem_cons_of_mem _ (List.mem_cons_of_mem _ List.mem_cons_self))
            have hb1 := hbx _ (List.mem_cons_of_mem _ (List.mem_cons_of_mem _ (List.mem_cons_of_mem _ List.mem_cons_self)))
            obtain ⟨vsH, hHl, hHr, hHk⟩ := hj.dyn.hks
            obtain ⟨gH, cH, hvH, _, _, _⟩ := hHr.has (by omega)
            have c4 : W10.cell? ⟨B, 4, none⟩ = some (.slice (some ⟨gH, 0, none⟩) (kk O) cH) := by rw [← hvH]; exact hj.dyn.clo.cell 4 rfl
            rw [hvH] at hHr
            have hh0 := hHr.cell1 hkk hHl
            have hHd := hHk kd hkk
            obtain ⟨gHk, cHk, hvHk, _, _, _⟩ := hHd.has (by omega)
            rw [hvHk] at hh0 hHd
            have hh1 : W10.cell? ⟨gHk, dc, none⟩ = some (.slice none 0 0) := by
              rw [hHd.cell1 hdc (by simp), getElem!_pos _ dc (by simpa using hdc)]; simp
            refine wp_then (reg28_27_any b1 b5 B gH gHk cH cHk (kk O) Q.length kd dc W10 (hb1.cell 0 rfl) c4 hh0 (hb5.cell 1 rfl) hh1 hkk hdc _ _ _ _ _ _ _ _ _ _ _ _ _ _ _ _ _ _ _ _ _ _ _ _ _ _ _ _ _ _ _ _ _ _ _ _ _ _ _ _ _ _ _ _ _ _ _ _ _ _ _ _ _ _ _ _ _ _ _ _ _ _ _ _ _ _ _ _ _ _ _ _ _ _ _ _ _ _ _ _ _ _ _ _ _ _ _ _ _ _ _ _ _ _ _ _ _ _ _ _ _ _ _ _ _ _ _ _ _ _ _ _ _ _ _ _ _ _ _ _ _ _ _ _ _ _ _ _ _ _ _ _ _ _ _ _ _ _ _ _ _ _ _ _ _ _ _ _ _ _ _ _ _ _ _ _ _ _ _ _ _ _ _ _ _ _ _ _ _ _ _ _ _ _ _ _ _ _ _ _ _ _ _ _ _ _ _ _ _ _ _ _ _ _ _ _ _ _ _ _ _ _ _ _ _ _ _ _ _ _ _ _ _ _ _ _ _ _ _ _ _ _ _ _ _ _ _ _ _ _ _ _ _ _ _ _ _ _ _ _ _ _ _ _ _ _ _ _ _ _ _ _ _ _ _ _ _ _ _ _ _ _ _ _ _ _ _ _ _ _ _ _ _ _ _ _ _ _ _ _ _ _ _ _ _ _ _ _ _ _ _ _ _ _ _ _ _ _ _ _ _ _ _ _ _ _ _ _ _ _ _ _ ?_)
            rintro x256 x257 x258 x259 x260 x261 x262 x263 x264 x265 x266
            clear hj hbx het hdt hstt hb5 hb1 hHl hHr hHk c4 hh0 hHd hh1 hvH hvHk
            have HQ11 := hide ((Dq.box HQ10.out 136 #[.slice none 0 0]).drew 1)
            obtain ⟨b13, eb13⟩ : ∃ b13, b13 = W10.heap.size := ⟨_, rfl⟩
            obtain ⟨W11, eW11⟩ : ∃ W11, W11 = (W10.alloc (.cells #[.slice none 0 0] 136)).drew := ⟨_, rfl⟩
            have eW11' : (W10.alloc (.cells #[.slice none 0 0] 136)).drewN 1 = W11 := by rw [eW11]; rfl
            rw [eW11', ← eb13] at HQ11
            rw [← eb13, ← eW11]
            clear eb13 eW11 eW11'
            obtain ⟨ρu, vdu, Eu, fu, Du, hju, hbxu, _, _, _⟩ := HQ11.out
            have hb13 := (hbxu _ List.mem_cons_self).cell 0 rfl
            clear hju hbxu
            have SE0 := hide (search_any 55 #[.pointer (some ⟨b13, 0, none⟩), .pointer (some ⟨b5, 0, none⟩)] 0 (fun _ => true) W11 eg55 (by omega) (fun q i hi => absurd hi (Nat.not_lt_zero i)))
            go_upto_block 6 with (go_at_call 29; refine SE0.out.mono ?_; rintro e w12 ⟨r0, rfl, hr0, _, _, q12, rfl⟩; obtain rfl : r0 = 0 := by omega)
            clear SE0
            refine wp_end (blk28_6_any b13 (W11.drewN q12) hb13 _ _ _ _ _ _ _ _ _ _ _ _ _ _ _ _ _ _ _ _ _ _ _ _ _ _ _ _ _ _ _ _ _ _ _ _ _ _ _ _ _ _ _ _ _ _ _ _ _ _ _ _ _ _ _ _ _ _ _ _ _ _ _ _ _ _ _ _ _ _ _ _ _ _ _ _ _ _ _ _ _ _ _ _ _ _ _ _ _ _ _ _ _ _ _ _ _ _ _ _ _ _ _ _ _ _ _ _ _ _ _ _ _ _ _ _ _ _ _ _ _ _ _ _ _ _ _ _ _ _ _ _ _ _ _ _ _ _ _ _ _ _ _ _ _ _ _ _ _ _ _ _ _ _ _ _ _ _ _ _ _ _ _ _ _ _ _ _ _ _ _ _ _ _ _ _ _ _ _ _ _ _ _ _ _ _ _ _ _ _ _ _ _ _ _ _ _ _ _ _ _ _ _ _ _ _ _ _ _ _ _ _ _ _ _ _ _ _ _ _ _ _ _ _ _ _ _ _ _ _ _ _ _ _ _ _ _ _ _ _ _ _ _ _ _ _ _ _ _ _ _ _ _ _ _ _ _ _ _ _ _ _ _ _ _ _ _ _ _ _ _ _ _ _ _ _ _ _ _ _ _ _ _ _ _ _ _ _ _ _ _ _ _ _ _ _ _ _ _ _ _ _ _ _ _ _ _ _ _ _ _ _ _ ?_)
            rintro q13 x2 x8 x15 x271 x272 x273 x274 x275 x276 x277 x278 x279 x280 x281 x282 x283 x284 x285 x286 x287 x288 x289 x290 x291 x292 x293 x294 x295 x296 x297 x298 x299 x300 x301 x302 x303 x304 x305 x306 x307 x308 x309 x310 x311 x312 x313
            have HQ12 := hide ((HQ11.out.drew q12).drew q13)
            clear hb13
            go_wp2
            go_roundw
            case rel =>
              have e1 := HED.out.1
              have e2 := HED.out.2
              have e3 := HE3.out.1
              have e4 := HE3.out.2
              have e5 := HE6.out.1
              have e6 := HE6.out.2
              exact HQ12.out.lift (HST.out.trans (HS3.out.trans HS6.out)) (by omega) (by omega) (fun b hb => List.mem_cons_of_mem _ (List.mem_cons_of_mem _ (List.mem_cons_of_mem _ (List.mem_cons_of_mem _ hb))))
            case measure =>
              have m1 := HQ12.out.mu
              have m2 := HMW.out
              have e4 := HE3.out.2
              have e6 := HE6.out.2
              omega
        · as_aux_lemma =>
            have hl2 : decide ((px : Int) < dold) = false := decide_eq_false hlo
            clear hj hbx he8 hd8 hst8 hb10 hb5 hb1 hnr hvX hnr' ex epx a2 a3
            go_quiet (fail)
            go_upto_region 27 with fail
            obtain ⟨W9, eW9⟩ : ∃ W9, W9 = W8.drewN nq := ⟨_, rfl⟩
            have HQ9 := hide (HQ8.out.drew nq)
            rw [← eW9] at HQ9
            rw [← eW9]
            clear eW9 b10 b100 y0 o2 b52 b50 c1 k1
            obtain ⟨ρt, vdt, Et, ft, Dt, hj, hbx, het, hdt, hstt⟩ := HQ9.out
            have hb5 := hbx _ (List.mem_cons_of_mem _ (List.mem_cons_of_mem _ List.mem_cons_self))
            have hb1 := hbx _ (List.mem_cons_of_mem _ (List.mem_cons_of_mem _ (List.mem_cons_of_mem _ List.mem_cons_self)))
            obtain ⟨vsH, hHl, hHr, hHk⟩ := hj.dyn.hks
            obtain ⟨gH, cH, hvH, _, _, _⟩ := hHr.has (by omega)
            have c4 : W9.cell? ⟨B, 4, none⟩ = some (.slice (some ⟨gH, 0, none⟩) (kk O) cH) := by rw [← hvH]; exact hj.dyn.clo.cell 4 rfl
            rw [hvH] at hHr
            have hh0 := hHr.cell1 hkk hHl
            have hHd := hHk kd hkk
            obtain ⟨gHk, cHk, hvHk, _, _, _⟩ := hHd.has (by omega)
            rw [hvHk] at hh0 hHd
            have hh1 : W9.cell? ⟨gHk, dc, none⟩ = some (.slice none 0 0) := by
              rw [hHd.cell1 hdc (by simp), getElem!_pos _ dc (by simpa using hdc)]; simp
            refine wp_then (reg28_27_any b1 b5 B gH gHk cH cHk (kk O) Q.length kd dc W9 (hb1.cell 0 rfl) c4 hh0 (hb5.cell 1 rfl) hh1 hkk hdc _ _ _ _ _ _ _ _ _ _ _ _ _ _ _ _ _ _ _ _ _ _ _ _ _ _ _ _ _ _ _ _ _ _ _ _ _ _ _ _ _ _ _ _ _ _ _ _ _ _ _ _ _ _ _ _ _ _ _ _ _ _ _ _ _ _ _ _ _ _ _ _ _ _ _ _ _ _ _ _ _ _ _ _ _ _ _ _ _ _ _ _ _ _ _ _ _ _ _ _ _ _ _ _ _ _ _ _ _ _ _ _ _ _ _ _ _ _ _ _ _ _ _ _ _ _ _ _ _ _ _ _ _ _ _ _ _ _ _ _ _ _ _ _ _ _ _ _ _ _ _ _ _ _ _ _ _ _ _ _ _ _ _ _ _ _ _ _ _ _ _ _ _ _ _ _ _ _ _ _ _ _ _ _ _ _ _ _ _ _ _ _ _ _ _ _ _ _ _ _ _ _ _ _ _ _ _ _ _ _ _ _ _ _ _ _ _ _ _ _ _ _ _ _ _ _ _ _ _ _ _ _ _ _ _ _ _ _ _ _ _ _ _ _ _ _ _ _ _ _ _ _ _ _ _ _ _ _ _ _ _ _ _ _ _ _ _ _ _ _ _ _ _ _ _ _ _ _ _ _ _ _ _ _ _ _ _ _ _ _ _ _ _ _ _ _ _ _ _ _ _ _ _ _ _ _ _ _ _ _ _ _ ?_)
            rintro x256 x257 x258 x259 x260 x261 x262 x263 x264 x265 x266
            clear hj hbx het hdt hstt hb5 hb1 hHl hHr hHk c4 hh0 hHd hh1 hvH hvHk
            have HQ11 := hide ((Dq.box HQ9.out 136 #[.slice none 0 0]).drew 1)
            obtain ⟨b13, eb13⟩ : ∃ b13, b13 = W9.heap.size := ⟨_, rfl⟩
            obtain ⟨W11, eW11⟩ : ∃ W11, W11 = (W9.alloc (.cells #[.slice none 0 0] 136)).drew := ⟨_, rfl⟩
            have eW11' : (W9.alloc (.cells #[.slice none 0 0] 136)).drewN 1 = W11 := by rw [eW11]; rfl
            rw [eW11', ← eb13] at HQ11
            rw [← eb13, ← eW11]
            clear eb13 eW11 eW11'
            obtain ⟨ρu, vdu, Eu, fu, Du, hju, hbxu, _, _, _⟩ := HQ11.out
            have hb13 := (hbxu _ List.mem_cons_self).cell 0 rfl
            clear hju hbxu
            have SE0 := hide (search_any 55 #[.pointer (some ⟨b13, 0, none⟩), .pointer (some ⟨b5, 0, none⟩)] 0 (fun _ => true) W11 eg55 (by omega) (fun q i hi => absurd hi (Nat.not_lt_zero i)))
            go_upto_block 6 with (go_at_call 29; refine SE0.out.mono ?_; rintro e w12 ⟨r0, rfl, hr0, _, _, q12, rfl⟩; obtain rfl : r0 = 0 := by omega)
            clear SE0
            refine wp_end (blk28_6_any b13 (W11.drewN q12) hb13 _ _ _ _ _ _ _ _ _ _ _ _ _ _ _ _ _ _ _ _ _ _ _ _ _ _ _ _ _ _ _ _ _ _ _ _ _ _ _ _ _ _ _ _ _ _ _ _ _ _ _ _ _ _ _ _ _ _ _ _ _ _ _ _ _ _ _ _ _ _ _ _ _ _ _ _ _ _ _ _ _ _ _ _ _ _ _ _ _ _ _ _ _ _ _ _ _ _ _ _ _ _ _ _ _ _ _ _ _ _ _ _ _ _ _ _ _ _ _ _ _ _ _ _ _ _ _ _ _ _ _ _ _ _ _ _ _ _ _ _ _ _ _ _ _ _ _ _ _ _ _ _ _ _ _ _ _ _ _ _ _ _ _ _ _ _ _ _ _ _ _ _ _ _ _ _ _ _ _ _ _ _ _ _ _ _ _ _ _ _ _ _ _ _ _ _ _ _ _ _ _ _ _ _ _ _ _ _ _ _ _ _ _ _ _ _ _ _ _ _ _ _ _ _ _ _ _ _ _ _ _ _ _ _ _ _ _ _ _ _ _ _ _ _ _ _ _ _ _ _ _ _ _ _ _ _ _ _ _ _ _ _ _ _ _ _ _ _ _ _ _ _ _ _ _ _ _ _ _ _ _ _ _ _ _ _ _ _ _ _ _ _ _ _ _ _ _ _ _ _ _ _ _ _ _ _ _ _ _ _ _ _ _ ?_)
            rintro q13 x2 x8 x15 x271 x272 x273 x274 x275 x276 x277 x278 x279 x280 x281 x282 x283 x284 x285 x286 x287 x288 x289 x290 x291 x292 x293 x294 x295 x296 x297 x298 x299 x300 x301 x302 x303 x304 x305 x306 x307 x308 x309 x310 x311 x312 x313
            have HQ12 := hide ((HQ11.out.drew q12).drew q13)
            clear hb13
            go_wp2
            go_roundw
            case rel =>
              have e1 := HED.out.1
              have e2 := HED.out.2
              have e3 := HE3.out.1
              have e4 := HE3.out.2
              have e5 := HE6.out.1
              have e6 := HE6.out.2
              exact HQ12.out.lift (HST.out.trans (HS3.out.trans HS6.out)) (by omega) (by omega) (fun b hb => List.mem_cons_of_mem _ (List.mem_cons_of_mem _ (List.mem_cons_of_mem _ (List.mem_cons_of_mem _ hb))))
            case measure =>
              have m1 := HQ12.out.mu
              have m2 := HMW.out
              have e4 := HE3.out.2
              have e6 := HE6.out.2
              omega
      · as_aux_lemma =>
          have hl1 : decide ((i1 : Int) < (Wl.length : Int)) = false := decide_eq_false (by omega)
          have b100 := hb10.cell 0 rfl
          clear hj hbx he8 hd8 hst8 hb10 hb5 hb1
          go_quiet (fail)
          go_upto_region 27 with fail
          obtain ⟨W9, eW9⟩ : ∃ W9, W9 = W8.drewN nq := ⟨_, rfl⟩
          have HQ9 := hide (HQ8.out.drew nq)
          rw [← eW9] at HQ9
          rw [← eW9]
          clear eW9 b10 b100
          obtain ⟨ρt, vdt, Et, ft, Dt, hj, hbx, het, hdt, hstt⟩ := HQ9.out
          have hb5 := hbx _ (List.mem_cons_of_mem _ (List.mem_cons_of_mem _ List.mem_cons_self))
          have hb1 := hbx _ (List.mem_cons_of_mem _ (List.mem_cons_of_mem _ (List.mem_cons_of_mem _ List.mem_cons_self)))
          obtain ⟨vsH, hHl, hHr, hHk⟩ := hj.dyn.hks
          obtain ⟨gH, cH, hvH, _, _, _⟩ := hHr.has (by omega)
          have c4 : W9.cell? ⟨B, 4, none⟩ = some (.slice (some ⟨gH, 0, none⟩) (kk O) cH) := by rw [← hvH]; exact hj.dyn.clo.cell 4 rfl
          rw [hvH] at hHr
          have hh0 := hHr.cell1 hkk hHl
          have hHd := hHk kd hkk
          obtain ⟨gHk, cHk, hvHk, _, _, _⟩ := hHd.has (by omega)
          rw [hvHk] at hh0 hHd
          have hh1 : W9.cell? ⟨gHk, dc, none⟩ = some (.slice none 0 0) := by
            rw [hHd.cell1 hdc (by simp), getElem!_pos _ dc (by simpa using hdc)]; simp
          refine wp_then (reg28_27_any b1 b5 B gH gHk cH cHk (kk O) Q.length kd dc W9 (hb1.cell 0 rfl) c4 hh0 (hb5.cell 1 rfl) hh1 hkk hdc _ _ _ _ _ _ _ _ _ _ _ _ _ _ _ _ _ _ _ _ _ _ _ _ _ _ _ _ _ _ _ _ _ _ _ _ _ _ _ _ _ _ _ _ _ _ _ _ _ _ _ _ _ _ _ _ _ _ _ _ _ _ _ _ _ _ _ _ _ _ _ _ _ _ _ _ _ _ _ _ _ _ _ _ _ _ _ _ _ _ _ _ _ _ _ _ _ _ _ _ _ _ _ _ _ _ _ _ _ _ _ _ _ _ _ _ _ _ _ _ _ _ _ _ _ _ _ _ _ _ _ _ _ _ _ _ _ _ _ _ _ _ _ _ _ _ _ _ _ _ _ _ _ _ _ _ _ _ _ _ _ _ _ _ _ _ _ _ _ _ _ _ _ _ _ _ _ _ _ _ _ _ _ _ _ _ _ _ _ _ _ _ _ _ _ _ _ _ _ _ _ _ _ _ _ _ _ _ _ _ _ _ _ _ _ _ _ _ _ _ _ _ _ _ _ _ _ _ _ _ _ _ _ _ _ _ _ _ _ _ _ _ _ _ _ _ _ _ _ _ _ _ _ _ _ _ _ _ _ _ _ _ _ _ _ _ _ _ _ _ _ _ _ _ _ _ _ _ _ _ _ _ _ _ _ _ _ _ _ _ _ _ _ _ _ _ _ _ _ _ _ _ _ _ _ _ _ _ _ _ _ _ ?_)
          rintro x256 x257 x258 x259 x260 x261 x262 x263 x264 x265 x266
          clear hj hbx het hdt hstt hb5 hb1 hHl hHr hHk c4 hh0 hHd hh1 hvH hvHk
          have HQ11 := hide ((Dq.box HQ9.out 136 #[.slice none 0 0]).drew 1)
          obtain ⟨b13, eb13⟩ : ∃ b13, b13 = W9.heap.size := ⟨_, rfl⟩
          obtain ⟨W11, eW11⟩ : ∃ W11, W11 = (W9.alloc (.cells #[.slice none 0 0] 136)).drew := ⟨_, rfl⟩
          have eW11' : (W9.alloc (.cells #[.slice none 0 0] 136)).drewN 1 = W11 := by rw [eW11]; rfl
          rw [eW11', ← eb13] at HQ11
          rw [← eb13, ← eW11]
          clear eb13 eW11 eW11'
          obtain ⟨ρu, vdu, Eu, fu, Du, hju, hbxu, _, _, _⟩ := HQ11.out
          have hb13 := (hbxu _ List.mem_cons_self).cell 0 rfl
          clear hju hbxu
          have SE0 := hide (search_any 55 #[.pointer (some ⟨b13, 0, none⟩), .pointer (some ⟨b5, 0, none⟩)] 0 (fun _ => true) W11 eg55 (by omega) (fun q i hi => absurd hi (Nat.not_lt_zero i)))
          go_upto_block 6 with (go_at_call 29; refine SE0.out.mono ?_; rintro e w12 ⟨r0, rfl, hr0, _, _, q12, rfl⟩; obtain rfl : r0 = 0 := by omega)
          clear SE0
          refine wp_end (blk28_6_any b13 (W11.drewN q12) hb13 _ _ _ _ _ _ _ _ _ _ _ _ _ _ _ _ _ _ _ _ _ _ _ _ _ _ _ _ _ _ _ _ _ _ _ _ _ _ _ _ _ _ _ _ _ _ _ _ _ _ _ _ _ _ _ _ _ _ _ _ _ _ _ _ _ _ _ _ _ _ _ _ _ _ _ _ _ _ _ _ _ _ _ _ _ _ _ _ _ _ _ _ _ _ _ _ _ _ _ _ _ _ _ _ _ _ _ _ _ _ _ _ _ _ _ _ _ _ _ _ _ _ _ _ _ _ _ _ _ _ _ _ _ _ _ _ _ _ _ _ _ _ _ _ _ _ _ _ _ _ _ _ _ _ _ _ _ _ _ _ _ _ _ _ _ _ _ _ _ _ _ _ _ _ _ _ _ _ _ _ _ _ _ _ _ _ _ _ _ _ _ _ _ _ _ _ _ _ _ _ _ _ _ _ _ _ _ _ _ _ _ _ _ _ _ _ _ _ _ _ _ _ _ _ _ _ _ _ _ _ _ _ _ _ _ _ _ _ _ _ _ _ _ _ _ _ _ _ _ _ _ _ _ _ _ _ _ _ _ _ _ _ _ _ _ _ _ _ _ _ _ _ _ _ _ _ _ _ _ _ _ _ _ _ _ _ _ _ _ _ _ _ _ _ _ _ _ _ _ _ _ _ _ _ _ _ _ _ _ _ _ _ _ ?_)
          rintro q13 x2 x8 x15 x271 x272 x273 x274 x275 x276 x277 x278 x279 x280 x281 x282 x283 x284 x285 x286 x287 x288 x289 x290 x291 x292 x293 x294 x295 x296 x297 x298 x299 x300 x301 x302 x303 x304 x305 x306 x307 x308 x309 x310 x311 x312 x313
          have HQ12 := hide ((HQ11.out.drew q12).drew q13)
          clear hb13
          go_wp2
          go_roundw
          case rel =>
            have e1 := HED.out.1
            have e2 := HED.out.2
            have e3 := HE3.out.1
            have e4 := HE3.out.2
            have e5 := HE6.out.1
            have e6 := HE6.out.2
            exact HQ12.out.lift (HST.out.trans (HS3.out.trans HS6.out)) (by omega) (by omega) (fun b hb => List.mem_cons_of_mem _ (List.mem_cons_of_mem _ (List.mem_cons_of_mem _ (List.mem_cons_of_mem _ hb))))
          case measure =>
            have m1 := HQ12.out.mu
            have m2 := HMW.out
            have e4 := HE3.out.2
            have e6 := HE6.out.2
            omega
end Go.Proofs.Ybulknju
