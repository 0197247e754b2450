import Derived.Test.YbulknjuTopP
import Derived.WalkSmall
namespace Go.Proofs.Ybulknju
open Go.RowKit

def R3 : Role → Prop := fun r => r = .tmp 0 ∨ r = .tmp 2 ∨ r = .tmp 3
/-- What 'topological' hands back. -/
def TopoP (ρ : Rho) (w : World) (E : List (Nat × Nat)) (n : Nat) (e : Ending) (w' : World) : Prop :=
  ∃ ρ' vT T, e = .returned (.tuple #[vT, .bool true]) ∧ NRow ρ' w' (.tmp 3) vT T ∧ T.length = n ∧ (∀ v, v < n → v ∈ T) ∧ T.Nodup ∧ (∀ v ∈ T, v < n) ∧ Ord E T ∧ Stp R3 ρ w ρ' w'
/-- 'topological', between two rounds: the row of degrees, the ready ones, the order. -/
structure Tw (ρ : Rho) (w : World) (n gI : Nat) (vL vT : Value) (L T : List Nat) (f : Nat → Int) (ρr : Rho) (wr : World) : Prop where
  row : FRow ρr wr (.tmp 2) (.slice (some ⟨gI, 0, none⟩) n n) n f
  rdy : NRow ρr wr (.tmp 0) vL L
  ord : NRow ρr wr (.tmp 3) vT T
  stp : Stp R3 ρ w ρr wr
theorem sucs_at {n u : Nat} (E : List (Nat × Nat)) (h : u < n) : (succOf n E)[u]! = sucs E u := succOf_at E h
theorem idx100 {b n c : Nat} {k : Nat} (hk : k < n) (w : World) : (Instr.indexAt 100 (.slice (some ⟨b, 0, none⟩) n c) (.int .i64 k)).run Yba.prog w = .ok (.pointer (some ⟨b, k, none⟩)) w := by
  have e : Yba.prog.elem 100 = 59 := by kernel_rfl
  have e2 : (sizeOf 59).run Yba.prog w = .ok 1 w := by kernel_rfl
  rw [run_indexAt_slice (h := by kernel_rfl), e, if_pos (by omega), e2]
  simp [Addr.add]
  exact fun h => h.symm
theorem Row.made0 {ρ : Rho} {w : World} {r : Role} {e : TypeId} {n : Nat} (z : Value) (hm : n ≤ maxLen) : Row (ext ρ w r) (w.alloc (.cells (madeCells #[z] n) e)) r e 1 (.slice (some ⟨w.heap.size, 0, none⟩) 0 n) 0 [] :=
  ⟨World.ownsRow_made w _ n (Nat.zero_le _) hm (by rw [size_madeCells]; omega), fun k hk => by cases hk; exact ext_new (Nat.le_refl _)⟩
theorem run_make_cap (n : Nat) (hn : n ≤ 3000) (w : World) : (Instr.makeSlice 38 (.int .i64 0) (.int .i64 (n : Int))).run Yba.prog w = .ok (.slice (some ⟨w.heap.size, 0, none⟩) 0 n) (w.alloc (.cells (madeCells #[.int .i64 0] n) 3)) := by
  obtain ⟨i, hi, hzz⟩ := Option.map_eq_some_iff.1 info3
  simp only [Prod.mk.injEq] at hzz
  obtain ⟨hz, hs, hb⟩ := hzz
  have := run_make (P := Yba.prog) w 38 3 i _ Yba.underlying38 hi hz .i64 .i64 0 n (Int.le_refl _) (by omega) (by rw [hb]; omega) (by omega)
  rw [hs] at this
  simp only [Int.toNat_zero, Int.toNat_natCast, Nat.mul_one] at this
  exact this

set_option maxHeartbeats 8000000 in
set_option maxRecDepth 100000 in
theorem topo_any (G n gg cg : Nat) (gs gp : Value) (E : List (Nat × Nat)) (ρ : Rho) (w : World) (hn : n ≤ 2000) (hE : ∀ e ∈ E, e.1 < e.2 ∧ e.2 < n) (hEl : E.length ≤ 100000) (hg : Gr ρ w G (succOf n E) (predOf n E) gs gp) (hgg : St ρ w (.tmp 1) gg 59 #[.pointer (some ⟨G, 0, none⟩)]) :
    Calls Yba.prog 26 #[.slice (some ⟨gg, 0, none⟩) 1 cg] w fun e w' => TopoP ρ w E n e w' := by
  have HGC : Hid (∀ ρx wx, Stp R3 ρ w ρx wx → wx.cell? ⟨gg, 0, none⟩ = some (.pointer (some ⟨G, 0, none⟩))) := fun ρx wx hs => (hgg.keep hs (by simp [R3])).cell 0 rfl
  have hgg0 := hgg.cell 0 rfl
  have ixg : ∀ wx, (Instr.indexAt 100 (.slice (some ⟨gg, 0, none⟩) 1 cg) (.int .i64 0)).run Yba.prog wx = .ok (.pointer (some ⟨gg, 0, none⟩)) wx := fun wx => idx100 (k := 0) (by omega) wx
  obtain ⟨vsS, hSl, hSr, hSn⟩ := hg.su.ex
  rw [succOf_len] at hSl hSr hSn
  obtain ⟨aS, cS, hvS, _, _⟩ := hSr.form
  have g0 : w.cell? ⟨G, 0, none⟩ = some (.slice aS n cS) := by rw [← hvS]; exact hg.st.cell 0 rfl
  have hmk := run_make_row' (P := Yba.prog) 38 3 (.int .i64 0) 8 Yba.underlying38 info3 rfl .i64 .i64 n (by omega) (by omega)
  have HSU : Hid (vsS.length = n ∧ Row ρ w .suH 38 1 (.slice aS n cS) n vsS ∧ ∀ u, u < n → NRow ρ w (.su u) vsS[u]! (sucs E u)) := ⟨hSl, by rw [← hvS]; exact hSr, fun u hu => by have := hSn u hu; rw [sucs_at E hu] at this; exact this⟩
  obtain ⟨vsP, hPl, hPr, hPn⟩ := hg.pr.ex
  rw [predOf_len] at hPl hPr hPn
  obtain ⟨aP, cP, hvP, _, _⟩ := hPr.form
  have HPR : Hid (vsP.length = n ∧ Row ρ w .prH 38 1 (.slice aP n cP) n vsP ∧ ∀ u, u < n → NRow ρ w (.pr u) vsP[u]! (predOf n E)[u]!) := ⟨hPl, by rw [← hvP]; exact hPr, hPn⟩
  have HG0 : Hid (∀ ρx wx, Stp R3 ρ w ρx wx → wx.cell? ⟨G, 0, none⟩ = some (.slice aS n cS) ∧ wx.cell? ⟨G, 1, none⟩ = some (.slice aP n cP)) := fun ρx wx hs => by
    have h1 := hg.st.keep hs (by simp [R3])
    exact ⟨by rw [← hvS]; exact h1.cell 0 rfl, by rw [← hvP]; exact h1.cell 1 rfl⟩
  have HE := hide hE
  clear hg hSl hSr hSn hvS hE hPl hPr hPn hvP hgg
  go_enter Yba.func26, Yba.ntmps26
  go_upto_block 0 with fail
  have HT0 : Hid (Tw ρ w n w.heap.size (.slice none 0 0) (.slice none 0 0) [] [] (fun _ => 0) (ext ρ w (.tmp 2)) (w.alloc (.cells (madeCells #[.int .i64 0] n) 3))) := ⟨FRow.made (by unfold maxLen; omega), NRow.nil _ _ _, NRow.nil _ _ _, (Stp.refl _ _ _).alloc _ _⟩
  obtain ⟨gI, eI⟩ : ∃ gI, gI = w.heap.size := ⟨_, rfl⟩
  obtain ⟨W1, e1⟩ : ∃ W1, W1 = w.alloc (.cells (madeCells #[.int .i64 0] n) 3) := ⟨_, rfl⟩
  rw [← eI, ← e1] at HT0
  rw [← eI, ← e1]
  clear eI e1 g0 hmk hgg0
  go_cut [7, 8] (fun _ _ wx => ∃ ρr, Tw ρ w n gI (.slice none 0 0) (.slice none 0 0) [] [] (fun v => (cnt E [] v : Nat)) ρr wx)
  case first =>
    go_wp2
    go_loopw [7, 8, 27] (fun _ _ i wr => ∃ q : Nat, q ≤ 1 ∧ i = .int .i64 q ∧ ∃ ρr, Tw ρ w n gI (.slice none 0 0) (.slice none 0 0) [] [] (fun v => if q = 0 then 0 else (cnt E [] v : Nat)) ρr wr) (fun _ _ i _ => 1 - (intOf i).toNat)
    case atStart => exact ⟨0, by omega, rfl, _, HT0.out⟩
    case round =>
      clear HT0
      obtain ⟨q, hq, rfl, ρr, ht⟩ := hrel
      by_cases hq1 : q < 1
      · obtain rfl : q = 0 := by omega
        have hc := HGC.out _ _ ht.stp
        have HT := hide ht
        clear ht
        go_upto_block 2 with fail
        go_wp2
        go_loopw [8, 32] (fun _ i wr => ∃ k : Nat, k ≤ n ∧ i = .int .i64 k ∧ ∃ ρr, Tw ρ w n gI (.slice none 0 0) (.slice none 0 0) [] [] (fun v => if v < k then (cnt E [] v : Nat) else 0) ρr wr) (fun _ i _ => n - (intOf i).toNat)
        case atStart => exact ⟨0, by omega, rfl, _, by have := HT.out; simpa using this⟩
        case round =>
          clear HT hc
          obtain ⟨k, hk, rfl, ρs, ht⟩ := hrel
          by_cases hkn : k < n
          · have hg1 := (HG0.out _ _ ht.stp).2
            obtain ⟨hPl, hPr, hPn⟩ := HPR.out
            have hPr' := hPr.keep ht.stp (by simp [R3])
            obtain ⟨gq, cq, hvq, _, _, _⟩ := hPr'.has (by omega)
            cases hvq
            have p1 := hPr'.cell1 hkn hPl
            have hny := hPn k hkn
            obtain ⟨aY, cY, hvY, _, hcY⟩ := Row.form hny
            rw [hvY] at p1
            have hYl : ((predOf n E)[k]!).length = cnt E [] k := by rw [predOf_at E hkn, cnt_nil]
            rw [hYl] at p1
            have hcl : cnt E [] k ≤ 100000 := Nat.le_trans (List.length_filter_le _ _) hEl
            obtain ⟨y, ey⟩ : ∃ y, y = cnt E [] k := ⟨_, rfl⟩
            rw [← ey] at p1 hcl
            have r1 := ht.row.cell hkn
            rw [if_neg (Nat.lt_irrefl k)] at r1
            have rf := Row.free ht.row k
            have ix1 := fun wx => idx38 (b := gI) (c := n) hkn wx
            have ix2 := fun wx => idx48 (b := gq) (c := cP) hkn wx
            have HT2 : Hid (Tw ρ w n gI (.slice none 0 0) (.slice none 0 0) [] [] (fun v => if v < k + 1 then (cnt E [] v : Nat) else 0) ρs (wr.setCell ⟨gI, k, none⟩ (.int .i64 (y : Nat))).drew) := by
              have s1 := Row.store ht.row k (.int .i64 (y : Nat))
              have s2 : Stp (fun _ => False) ρs (wr.setCell ⟨gI, k, none⟩ (.int .i64 (y : Nat))) ρs (wr.setCell ⟨gI, k, none⟩ (.int .i64 (y : Nat))).drew := (Stp.refl _ ρs _).drewN 1
              have hr := ((ht.row.set k (y : Nat)).congr (fun i _ => upd_src (fun v => ((cnt E [] v : Nat) : Int)) k (y : Nat) (by rw [ey]) i)).keep s2 (fun h => h)
              exact ⟨hr, NRow.nil _ _ _, NRow.nil _ _ _, (ht.stp.trans (s1.one (by simp [R3]))).trans (s2.mono fun _ h => h.elim)⟩
            clear ht hPl hPr hPn hPr' hny hvY hYl ey
            go_upto_region 9 with fail
            go_region
            all_goals
              go_wp2
              go_roundw
              case rel => exact ⟨k + 1, by omega, by go_num, _, HT2.out⟩
              case measure => simp [intOf]; omega
          · obtain rfl : n = k := by omega
            have HT2 : Hid (Tw ρ w n gI (.slice none 0 0) (.slice none 0 0) [] [] (fun v => if 0 + 1 = 0 then 0 else (cnt E [] v : Nat)) ρs wr) := ⟨ht.row.congr (fun i hi => by simp [hi]), ht.rdy, ht.ord, ht.stp⟩
            clear ht
            go_wp2
            go_roundw
            case rel => exact ⟨0 + 1, by omega, by go_num, _, HT2.out⟩
            case measure => simp [intOf]
      · obtain rfl : q = 1 := by omega
        have HT2 : Hid (Tw ρ w n gI (.slice none 0 0) (.slice none 0 0) [] [] (fun v => (cnt E [] v : Nat)) ρr wr) := ⟨ht.row.congr (fun i hi => by simp), ht.rdy, ht.ord, ht.stp⟩
        clear ht
        go_wp2
        go_meet
        case rel => exact ⟨_, HT2.out⟩
  obtain ⟨W2, e2⟩ : ∃ W2, W2 = wc := ⟨_, rfl⟩
  subst e2
  obtain ⟨ρ2, ht2⟩ := hcut
  obtain ⟨f, ef⟩ : ∃ f : Nat → Int, f = fun v => ((cnt E [] v : Nat) : Int) := ⟨_, rfl⟩
  rw [← ef] at ht2
  have hmc := fun wx => run_make_cap n (by omega) wx
  have HT2 := hide ht2
  have HF0 : Hid (∀ v, v < n → f v = (cnt E [] v : Nat)) := fun v _ => by rw [ef]
  clear ht2 ef HT0
  go_upto_block 4 with fail
  have HT3 : Hid (Tw ρ w n gI (.slice none 0 0) (.slice (some ⟨W2.heap.size, 0, none⟩) 0 n) [] [] f (ext ρ2 W2 (.tmp 3)) (W2.alloc (.cells (madeCells #[.int .i64 0] n) 3))) := by
    have s1 : Stp (fun _ => False) ρ2 W2 (ext ρ2 W2 (.tmp 3)) (W2.alloc (.cells (madeCells #[.int .i64 0] n) 3)) := (Stp.refl _ _ _).alloc _ _
    exact ⟨HT2.out.row.keep s1 (fun h => h), NRow.nil _ _ _, Row.made0 _ (by unfold maxLen; omega), HT2.out.stp.trans (s1.mono fun _ h => h.elim)⟩
  obtain ⟨gT, eT⟩ : ∃ gT, gT = W2.heap.size := ⟨_, rfl⟩
  obtain ⟨W3, e3⟩ : ∃ W3, W3 = W2.alloc (.cells (madeCells #[.int .i64 0] n) 3) := ⟨_, rfl⟩
  obtain ⟨ρ3, r3⟩ : ∃ ρ3, ρ3 = ext ρ2 W2 (.tmp 3) := ⟨_, rfl⟩
  rw [← eT, ← e3, ← r3] at HT3
  rw [← eT, ← e3]
  clear eT e3 r3 hmc HT2
  go_cut [9, 10] (fun vL _ wx => ∃ ρr, Tw ρ w n gI vL (.slice (some ⟨gT, 0, none⟩) 0 n) ((List.range n).filter fun v => f v == 0) [] f ρr wx)
  case first =>
    go_wp2
    go_loopw [9, 10, 54] (fun vL _ i wr => ∃ k : Nat, k ≤ n ∧ i = .int .i64 k ∧ ∃ ρr, Tw ρ w n gI vL (.slice (some ⟨gT, 0, none⟩) 0 n) ((List.range k).filter fun v => f v == 0) [] f ρr wr) (fun _ _ i _ => n - (intOf i).toNat)
    case atStart => exact ⟨0, by omega, rfl, _, HT3.out⟩
    case round =>
      clear HT3
      obtain ⟨k, hk, rfl, ρr, ht⟩ := hrel
      by_cases hkn : k < n
      · have r1 := ht.row.cell hkn
        have ix1 := fun wx => idx38 (b := gI) (c := n) hkn wx
        have hrs : (List.range (k + 1)).filter (fun v => f v == 0) = (List.range k).filter (fun v => f v == 0) ++ (if f k = 0 then [k] else []) := by
          rw [List.range_succ, List.filter_append]; congr 1; by_cases h : f k = 0 <;> simp [h]
        have hfl : ((List.range k).filter fun v => f v == 0).length ≤ 2000 := Nat.le_trans (List.length_filter_le _ _) (by simp; omega)
        obtain ⟨L, eL⟩ : ∃ L, L = (List.range k).filter fun v => f v == 0 := ⟨_, rfl⟩
        rw [← eL] at ht hrs hfl
        by_cases hz : f k = 0
        · rw [hz] at r1
          rw [if_pos hz] at hrs
          have HRS := hide hrs
          have HT := hide ht
          clear ht hrs eL
          go_wp2_with (at_builtin; refine wpl_app wr _ rfl _ _ _ rfl (.tmp 0) 3 _ 1 8 Yba.underlying38 info3 rfl (by omega) _ _ _ rfl HT.out.rdy ((Below.refl _ wr).alloc (Nat.le_refl _) _) wr.heap.size #[.int .i64 (k : Nat)] (0, 0) (heap_alloc_new wr _) rfl rfl (by simp [Value.oneCell']) (by omega) (by omega) ?_; intro g7 c7 w7 hr7 hs7; have H7 := hide (And.intro hr7 hs7); clear hr7 hs7)
          go_roundw
          case rel =>
            obtain ⟨hr7, hs7⟩ := H7.out
            refine ⟨k + 1, by omega, by go_num, _, HT.out.row.keep hs7 (by decide), ?_, HT.out.ord.keep hs7 (by decide), HT.out.stp.trans (hs7.one (by simp [R3]))⟩
            rw [HRS.out]
            unfold NRow
            rw [List.map_append, List.length_append]
            exact hr7
          case measure => simp [intOf]; omega
        · obtain ⟨y, ey⟩ : ∃ y, y = f k := ⟨_, rfl⟩
          rw [← ey] at r1 hz
          have hyz : (y == 0) = false := by rw [beq_eq_false_iff_ne]; exact hz
          rw [← ey, if_neg hz, List.append_nil] at hrs
          have HRS := hide hrs
          have HT := hide ht
          clear ht hrs eL ey
          go_wp2
          go_roundw
          case rel => exact ⟨k + 1, by omega, by go_num, _, by rw [HRS.out]; exact HT.out⟩
          case measure => simp [intOf]; omega
      · obtain rfl : n = k := by omega
        have HT := hide ht
        clear ht
        go_wp2
        go_meet
        case rel => exact ⟨_, HT.out⟩
  have HC4 := hide hcut
  clear hcut HT3
  obtain ⟨W4, e4⟩ : ∃ W4, W4 = wc := ⟨_, rfl⟩
  subst e4
  go_upto_block 6 with fail
  go_wp2
  go_loopw [2, 9, 11, 13, 15] (fun vT vL _ _ _ wr => ∃ ρr L T f, Tw ρ w n gI vL vT L T f ρr wr ∧ Tp E n T L f) (fun vT _ _ _ _ _ => n - slen vT)
  case atStart =>
    obtain ⟨ρ4, ht4⟩ := HC4.out
    exact ⟨ρ4, _, _, _, ht4, Tp.start HF0.out⟩
  case round =>
    clear HC4 HF0 f
    obtain ⟨ρr, L, T, f, ht, hp⟩ := hrel
    rcases List.eq_nil_or_concat L with rfl | ⟨L0, u, rfl⟩
    · obtain ⟨hTn, hTa, hTd⟩ := hp.all HE.out
      obtain ⟨aL, cL, hvL, _, _⟩ := Row.form ht.rdy
      have hvL' : u9 = .slice aL 0 cL := hvL
      subst hvL'
      obtain ⟨aT, cT, hvT, _, _⟩ := Row.form ht.ord
      rw [hTn] at hvT
      subst hvT
      have HF : Hid (TopoP ρ w E n (.returned (.tuple #[.slice aT n cT, .bool true])) wr) := ⟨ρr, _, T, rfl, ht.ord, hTn, hTa, hTd, fun v hv => hp.lt v (by simpa using hv), hp.ord, ht.stp⟩
      clear ht hp hTn hTa hTd hvL
      go_wp2
      go_ret2
      exact HF.out
    · rw [List.concat_eq_append] at ht hp
      have hu : u < n := hp.lt u (by simp)
      have hlen := hp.len
      rw [List.length_append, List.length_singleton] at hlen
      obtain ⟨g9, c9, hvL, hcap, _, _⟩ := Row.has ht.rdy (by simp)
      obtain ⟨kl, ekl⟩ : ∃ kl, kl = L0.length + 1 := ⟨_, rfl⟩
      obtain ⟨ln, eln⟩ : ∃ ln, ln = L0.length := ⟨_, rfl⟩
      rw [List.length_append, List.length_singleton] at hvL hcap
      have hn' : Row ρr wr (.tmp 0) 3 1 (.slice (some ⟨g9, 0, none⟩) (L0.length + 1) c9) (L0.length + 1) (L0.map nv ++ [nv u]) := by
        have := ht.rdy
        unfold NRow at this
        rw [hvL, List.length_append, List.length_singleton, List.map_append] at this
        exact this
      have x0 : wr.cell? ⟨g9, ln, none⟩ = some (.int .i64 (u : Nat)) := by
        rw [hn'.cell (by omega), List.getElem?_append_right (by simp; omega)]
        simp [eln, nv]
      have hpop : NRow ρr wr (.tmp 0) (.slice (some ⟨g9, 0, none⟩) ln c9) L0 := by
        have := hn'.pop (by simp)
        unfold NRow
        rw [eln]
        exact this
      rw [← ekl] at hvL hcap
      subst hvL
      obtain ⟨aT, cT, hvT, _, _⟩ := Row.form ht.ord
      have HSL : Hid (slen u2 = T.length) := by show _ = _; rw [hvT]; rfl
      have ixc := fun wx => idx38 (b := g9) (c := c9) (k := ln) (n := kl) (by omega) wx
      have HT : Hid (Tw ρ w n gI (.slice (some ⟨g9, 0, none⟩) ln c9) u2 L0 T f ρr wr) := ⟨ht.row, hpop, ht.ord, ht.stp⟩
      have HTI := hide hp.pop
      have HLN := hide hlen
      have hTl : T.length ≤ 2000 := by omega
      have hkl : kl ≤ 2000 := by omega
      have hkl0 : 0 < kl := by omega
      have hln : ln ≤ c9 := by omega
      have EKL : Hid (kl = ln + 1) := by show _ = _; rw [ekl, eln]
      clear ht hp hlen hn' hpop ekl eln hvT
      have hw1 : IntKind.i64.wrap ((kl : Int) - 1) = ln := by have := EKL.out; simp [IntKind.wrap, IntKind.signed, IntKind.bits]; omega
      have hw2 : wrap64 ((kl : Int) - 1) = ln := by have := EKL.out; clear hw1; unfold wrap64; omega
      go_upto_region 23 with fail
      clear hw1 hw2 x0 ixc
      go_upto_block 8 with (at_builtin; refine wpl_app wr _ rfl _ _ _ rfl (.tmp 3) 3 _ 1 8 Yba.underlying38 info3 rfl (by omega) _ _ _ rfl HT.out.ord ((Below.refl _ wr).alloc (Nat.le_refl _) _) wr.heap.size #[.int .i64 (u : Nat)] (0, 0) (heap_alloc_new wr _) rfl rfl (by simp [Value.oneCell']) (by omega) (by omega) ?_; intro g7 c7 w7 hr7 hs7; have H7 := hide (And.intro hr7 hs7); clear hr7 hs7)
      have HT7 : Hid (Tw ρ w n gI (.slice (some ⟨g9, 0, none⟩) ln c9) (.slice (some ⟨g7, 0, none⟩) (T.length + 1) c7) L0 (T ++ [u]) f (ext ρr wr (.tmp 3)) w7) := by
        obtain ⟨hr7, hs7⟩ := H7.out
        refine ⟨HT.out.row.keep hs7 (by decide), HT.out.rdy.keep hs7 (by decide), ?_, HT.out.stp.trans (hs7.one (by simp [R3]))⟩
        unfold NRow
        rw [List.map_append, List.length_append]
        exact hr7
      clear H7 HT
      obtain ⟨Wo, eWo⟩ : ∃ Wo, Wo = wr := ⟨_, rfl⟩
      subst eWo
      go_wp2
      go_loopw [9, 13, 15, 87] (fun vL _ _ i wr => ∃ q : Nat, q ≤ 1 ∧ i = .int .i64 q ∧ ∃ ρs L f, Tw ρ w n gI vL (.slice (some ⟨g7, 0, none⟩) (T.length + 1) c7) L (T ++ [u]) f ρs wr ∧ Ti E n T u L (if q = 0 then 0 else (sucs E u).length) f) (fun _ _ _ i _ => 1 - (intOf i).toNat)
      case atStart => exact ⟨0, by omega, rfl, _, _, _, HT7.out, HTI.out⟩
      case round =>
        clear HT7 HTI
        obtain ⟨q, hq, rfl, ρs, L, f', ht, hti⟩ := hrel
        by_cases hq1 : q < 1
        · obtain rfl : q = 0 := by omega
          have hc := HGC.out _ _ ht.stp
          have g0 := (HG0.out _ _ ht.stp).1
          obtain ⟨hSl, hSr, hSn⟩ := HSU.out
          have hSr' := hSr.keep ht.stp (by simp [R3])
          obtain ⟨gS, cS', hvS, _, _, _⟩ := hSr'.has (by omega)
          cases hvS
          have s0 := hSr'.cell1 hu hSl
          have hnS := hSn u hu
          obtain ⟨aX, cX, hvX, _, hcX⟩ := Row.form hnS
          rw [hvX] at s0 hnS
          have hXm : (sucs E u).length ≤ 100000 := by unfold sucs; rw [List.length_map]; exact Nat.le_trans (List.length_filter_le _ _) hEl
          have HX : Hid (∀ v ∈ sucs E u, v < n) := fun v hv => by
            unfold sucs at hv
            obtain ⟨e, he, rfl⟩ := List.mem_map.1 hv
            exact (HE.out e (List.mem_filter.1 he).1).2
          have ixs := fun wx => idx48 (b := gS) (c := cS) hu wx
          have HNS := hide hnS
          have HT := hide ht
          have HTI : Hid (Ti E n T u L 0 f') := hti
          clear ht hti hSl hSr hSn hSr' hnS hvX
          obtain ⟨X, eX⟩ : ∃ X, X = sucs E u := ⟨_, rfl⟩
          have EX := hide eX
          rw [← eX] at s0 HNS hXm HX
          clear eX
          go_upto_block 10 with fail
          clear s0 hc g0
          go_wp2
          go_loopw [9, 15, 99] (fun vL _ i wr => ∃ k : Nat, k ≤ X.length ∧ i = .int .i64 k ∧ ∃ ρs L f, Tw ρ w n gI vL (.slice (some ⟨g7, 0, none⟩) (T.length + 1) c7) L (T ++ [u]) f ρs wr ∧ Ti E n T u L k f) (fun _ _ i _ => X.length - (intOf i).toNat)
          case atStart => exact ⟨0, by omega, rfl, _, _, _, HT.out, HTI.out⟩
          case round =>
            clear HT HTI
            obtain ⟨k, hk, rfl, ρt, L1, f1, ht, hti⟩ := hrel
            by_cases hkX : k < X.length
            · have hnr := HNS.out.keep ht.stp (by simp [R3])
              obtain ⟨gX, cX', hvX, _, _, _⟩ := Row.has hnr (by omega)
              cases hvX
              have y0 := hnr.cell (j := k) hkX
              have hv := HX.out X[k]! (by rw [getElem!_pos X k hkX]; exact List.getElem_mem _)
              have hlow := hti.low (by rw [← EX.out]; exact hkX) (by rw [← EX.out]; exact hv)
              have hnx := hti.next (by rw [← EX.out]; exact hkX) (by rw [← EX.out]; exact hv) _ rfl
              rw [← EX.out] at hlow hnx
              obtain ⟨v, ev⟩ : ∃ v, v = X[k]! := ⟨_, rfl⟩
              rw [← ev] at y0 hv hlow hnx
              have r1 := ht.row.cell hv
              have rf := Row.free ht.row v
              have hdg := hti.deg v hv
              have hcl : cnt E T v ≤ 100000 := Nat.le_trans (List.length_filter_le _ _) hEl
              have hLl : L1.length ≤ 2000 := by
                have := nodup_le _ (List.range n) hti.nd (fun a ha => List.mem_range.2 (hti.lt a ha))
                simp at this; omega
              obtain ⟨z, ez⟩ : ∃ z, z = f1 v := ⟨_, rfl⟩
              rw [← ez] at r1 hlow hnx hdg
              have hz1 : 1 ≤ z := hlow.1
              have hz2 : z ≤ 100000 := by omega
              have ix1 := fun wx => idx38 (b := gX) (c := cX) hkX wx
              have ix2 := fun wx => idx38 (b := gI) (c := n) hv wx
              have s1 := Row.store ht.row v (.int .i64 (z - 1))
              have hrow := ht.row.set v (z - 1)
              have HT1 : Hid (Tw ρ w n gI u9 (.slice (some ⟨g7, 0, none⟩) (T.length + 1) c7) L1 (T ++ [u]) (upd f1 v (z - 1)) ρt (wr.setCell ⟨gI, v, none⟩ (.int .i64 (z - 1)))) := ⟨hrow, ht.rdy.keep s1 (by decide), ht.ord.keep s1 (by decide), ht.stp.trans (s1.one (by simp [R3]))⟩
              have r2 := hrow.cell hv
              have hup : upd f1 v (z - 1) v = z - 1 := by unfold upd; rw [if_pos rfl]
              rw [hup] at r2
              have HNX := hide hnx
              clear ht hti hnr hlow hnx hdg ez s1 hrow hup hcl ev
              go_upto_region 31 with fail
              obtain ⟨W5, e5⟩ : ∃ W5, W5 = wr.setCell ⟨gI, v, none⟩ (.int .i64 (z - 1)) := ⟨_, rfl⟩
              rw [← e5] at HT1 r2
              rw [← e5]
              clear e5 r1 rf y0
              obtain ⟨z1, ez1⟩ : ∃ z1, z1 = z - 1 := ⟨_, rfl⟩
              rw [← ez1] at r2 HT1 HNX
              by_cases hz : z1 = 0
              · rw [hz] at r2 HNX HT1
                rw [if_pos rfl] at HNX
                clear hz ez1
                go_wp2_with (at_builtin; refine wpl_app W5 _ rfl _ _ _ rfl (.tmp 0) 3 _ 1 8 Yba.underlying38 info3 rfl (by omega) _ _ _ rfl HT1.out.rdy ((Below.refl _ W5).alloc (Nat.le_refl _) _) W5.heap.size #[.int .i64 (v : Nat)] (0, 0) (heap_alloc_new W5 _) rfl rfl (by simp [Value.oneCell']) (by omega) (by omega) ?_; intro g8 c8 w8 hr8 hs8; have H8 := hide (And.intro hr8 hs8); clear hr8 hs8)
                go_roundw
                case rel =>
                  obtain ⟨hr8, hs8⟩ := H8.out
                  refine ⟨.slice (some ⟨g8, 0, none⟩) (L1.length + 1) c8, .int .i64 (v : Nat), .int .i64 ((k : Int) + 1), ⟨k + 1, by omega, by go_num, _, _, _, ⟨HT1.out.row.keep hs8 (by decide), ?_, HT1.out.ord.keep hs8 (by decide), HT1.out.stp.trans (hs8.one (by simp [R3]))⟩, HNX.out⟩, rfl, rfl, rfl⟩
                  unfold NRow
                  rw [List.map_append, List.length_append]
                  exact hr8
                case measure => simp [intOf]; omega
              · rw [if_neg hz] at HNX
                have hyz : (z1 == 0) = false := by rw [beq_eq_false_iff_ne]; exact hz
                clear ez1
                go_wp2
                go_roundw
                case rel => exact ⟨k + 1, by omega, by go_num, _, _, _, HT1.out, HNX.out⟩
                case measure => simp [intOf]; omega
            · obtain rfl : X.length = k := by omega
              have HT := hide ht
              have HTI : Hid (Ti E n T u L1 (sucs E u).length f1) := by show Ti _ _ _ _ _ _ _; rw [← EX.out]; exact hti
              clear ht hti
              go_wp2
              go_roundw
              case rel => exact ⟨0 + 1, by omega, by go_num, _, _, _, HT.out, HTI.out⟩
              case measure => simp [intOf]
        · obtain rfl : q = 1 := by omega
          have HT := hide ht
          have HTI : Hid (Tp E n (T ++ [u]) L f') := Ti.done hti
          clear ht hti
          go_wp2
          go_roundw
          case rel => exact ⟨_, _, _, _, HT.out, HTI.out⟩
          case measure =>
            have h1 := HSL.out
            have h2 := HLN.out
            have h3 : slen (.slice (some ⟨g7, 0, none⟩) (T.length + 1) c7) = T.length + 1 := rfl
            omega
end Go.Proofs.Ybulknju
