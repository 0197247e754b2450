import Derived.Test.YbulknhcEnds
namespace Go.Proofs.Ybulknhc
open Go.RowKit Go.Maps

set_option maxHeartbeats 4000000 in
set_option maxRecDepth 100000 in
theorem law_short (m : Int) (a1 a2 : Option Addr) (n1 c1 n2 c2 : Nat) (f : Nat → Int) (A : Nat → Option Addr) (L C : Nat → Nat) (x : Nat → Nat → Int) (w : World) (hm0 : 0 ≤ m) (hm1 : m ≤ 255) (h1 : n1 ≤ 1024) (h2 : n2 ≤ 1024)
    (hI : Inp w a1 a2 n1 n2 f A L C x) :
    Calls Yba.prog 3 #[.int .u8 m, .slice a1 n1 c1, .slice a2 n2 c2] w fun e w' => e = .returned (.bool true) ∧ Below w.heap.size w w' := by
  have hmm := @run_makeMap Yba.prog
  have HI := hide hI
  clear hI
  go_enter Yba.func3, Yba.ntmps3
  go_upto_block 0 with fail
  go_cut [7] (fun _ wc => (∀ r, r < n2 → L r ≤ 4096) ∧ wc = w)
  case first =>
    go_wp2
    go_loop [7, 9, 41] (fun t _ i => ∃ (k : Nat) (s : Int), k ≤ n2 ∧ i = .int .i64 k ∧ t = .int .i64 s ∧ 0 ≤ s ∧ s ≤ 4096 ∧ ∀ r, r < k → L r ≤ 4096) (fun _ _ i => n2 - (intOf i).toNat)
    case atStart => exact ⟨0, 0, by omega, rfl, rfl, by omega, by omega, fun r hr => by omega⟩
    case round =>
      obtain ⟨k, s, hk, rfl, rfl, hs0, hs1, hall⟩ := hrel
      have HA := hide hall
      clear hall
      by_cases hlt : k < n2
      · obtain ⟨b, off, ha, hcell, hbd⟩ := HI.out.lo k hlt
        have hidx := fun wx => idx23 (c := c2) ha hlt wx
        clear ha
        go_wp2
        · go_ret
          exact ⟨rfl, Below.refl _ _⟩
        · go_round
          case rel => exact ⟨k + 1, _, by omega, by go_num, rfl, by omega, by omega, fun r hr => by rcases Nat.lt_succ_iff_lt_or_eq.1 hr with h | rfl; exact HA.out r h; omega⟩
          case measure => simp [intOf]; omega
      · obtain rfl : k = n2 := by omega
        go_wp2
        go_meet
        case rel => exact ⟨HA.out, rfl⟩
  obtain ⟨hL, hw⟩ := hcut
  replace hw := hw.symm
  subst hw
  have HL := hide hL
  clear hL
  obtain ⟨cs, hbuild, hcs, hc35⟩ := member_built (w.heap.size + 1)
  have HCS := hide hcs
  have HC35 := hide hc35
  clear hcs hc35
  go_upto_block 2 with (refine wpList_build (by rfl) 99 #[(26, .tmp 53)] (by rfl) #[(26, .map (some (w.heap.size + 1)))] (by simp [Act.eval]) cs (by exact hbuild _) ?_)
  go_cut [12] (fun _ wx => Stage m w wx)
  case first =>
    have hS := Stage2.start m w cs HC35.out
    have HS := hide hS
    clear hS
    go_wp2
    go_loopw [12] (fun i wr => ∃ k : Nat, k ≤ 4 ∧ i = .int .i64 k ∧ Stage2 m w k wr) (fun i _ => 4 - (intOf i).toNat)
    case atStart => exact ⟨0, by omega, rfl, HS.out⟩
    case round =>
      obtain ⟨k, hk, rfl, hst⟩ := hrel
      have HST := hide hst
      by_cases hlt : k < 4
      · have cn := hst.names k (by omega)
        have cf : wr.cell? ⟨w.heap.size + 1 + 1, 35, none⟩ = some (.map (some (w.heap.size + 1))) := hst.field
        have hbd := hst.size
        clear hst
        cases hb : (bits BinOp.and IntKind.u8 (m / 2 ^ k) 1 == 1)
        · go_wp2
          go_roundw
          case rel => exact ⟨k + 1, by omega, by go_num, HST.out.skip hb⟩
          case measure => simp [intOf]; omega
        · obtain ⟨w2, hrun, hst2⟩ := store_peer HST.out hlt hb
          have HST2 := hide hst2
          have cn2 := hst2.names k (by omega)
          have cf2 : w2.cell? ⟨w.heap.size + 1 + 1, 35, none⟩ = some (.map (some (w.heap.size + 1))) := hst2.field
          clear hst2
          have ne1 := World.new_ne wr _ cn
          have ne2 := World.new_ne wr _ cf
          have k0 : (0 : Int) ≤ (k : Int) := by omega
          have k4 : (k : Int) < 5 := by omega
          have hw : IntKind.i64.wrap ((k : Int) + 4) = (k : Int) + 4 ∧ IntKind.u64.wrap ((k : Int) + 4) = (k : Int) + 4 ∧ ((k : Int) + 4).toNat = k + 4 ∧ min (k + 4) 8 = k + 4 := by
            have hk' : k = 0 ∨ k = 1 ∨ k = 2 ∨ k = 3 := by omega
            rcases hk' with rfl | rfl | rfl | rfl <;> decide
          obtain ⟨hw1, hw2, hw3, hw4⟩ := hw
          go_upto_region 17 with fail
          go_region_held3 (fun w' => w'.cell? ⟨w.heap.size + 1 + 1, 35, none⟩ = some (.map (some (w.heap.size + 1))) ∧ w'.cell? ⟨w.heap.size, k, none⟩ = some (.string (nm k))) (go_keep) (fail)
          go_wp2
          go_roundw
          case rel => exact ⟨k + 1, by omega, by go_num, HST2.out⟩
          case measure => simp [intOf]; omega
      · obtain rfl : k = 4 := by omega
        go_wp2
        go_meet
        case rel => exact hst.done
  obtain ⟨w1, e1⟩ : ∃ w1, w1 = wc := ⟨_, rfl⟩
  subst e1
  have HS := hide hcut
  clear hcut hbuild HCS HC35
  obtain ⟨i0, hi, hz0, hz1, hz2⟩ := info_parts Yba.info107
  obtain ⟨i9, hi9, hy0, hy1, hy2⟩ := info_parts Yba.info9
  go_upto_block 4 with (at_make; refine wpList_make_full _ rfl _ _ 97 rfl w1.heap.size 107 i0 _ 2 Yba.underlying97 hi hz0 hz1 _ _ _ _ n1 rfl rfl (by omega) (by omega) (by rw [hz2]; omega) (by unfold maxLen; omega) (Nat.le_refl _) ?_; intro w2 hown2 hgrow2)
  have HM := hide hown2
  have HG := hide hgrow2
  clear hown2 hgrow2
  go_cut [14, 15, 16, 18, 90] (fun _ _ _ _ _ wx => L3 w1 n1 (fun k => md (f k)) (Lc n2 L) (fun r c => md (x r c)) n1 wx)
  case first =>
    have HL3 := hide (L3.start (F := fun k => md (f k)) (L := Lc n2 L) (X := fun r c => md (x r c)) HM.out HG.out)
    clear HM HG
    go_wp2
    go_loopw [14, 15, 16, 18, 90] (fun _ _ _ _ i wr => ∃ k : Nat, k ≤ n1 ∧ i = .int .i64 k ∧ L3 w1 n1 (fun k => md (f k)) (Lc n2 L) (fun r c => md (x r c)) k wr) (fun _ _ _ _ i _ => n1 - (intOf i).toNat)
    case atStart => exact ⟨0, by omega, rfl, HL3.out⟩
    case round =>
      clear HL3
      obtain ⟨k, hk, rfl, hl3⟩ := hrel
      have HL3 := hide hl3
      by_cases hlt : k < n1
      · have hst := HS.out.grow hl3.bel
        have hin := HI.out.grow hst.bel
        obtain ⟨b, off, ha, hcell, hf0, hf1⟩ := hin.fr k hlt
        have hidx := fun wx => idx22 (c := c1) ha hlt wx
        have hmd := md_eq (f k)
        have hml := md_lt (f k)
        have cn := hst.names (md (f k)) hml
        have hsz := hst.size
        have HST := hide hst
        have HIN := hide hin
        clear ha hst hin hl3
        go_upto_if 104 with fail
        obtain ⟨wq, ewq⟩ : ∃ wq, wq = wr := ⟨_, rfl⟩
        subst ewq
        go_cut [18] (fun _ w3 => L4 wq (fun k => md (f k)) (fun r c => md (x r c)) k (Lc n2 L k) w3)
        case first =>
          by_cases hk2 : k < n2
          · have HLc : Hid (Lc n2 L k = L k) := by simp [Hid, Lc, hk2]
            obtain ⟨b2, off2, ha2, hcell2, hbd2⟩ := HIN.out.lo k hk2
            have hL4 := HL.out k hk2
            have hidx2 := fun wx => idx23 (c := c2) ha2 hk2 wx
            have hb2 := World.block_lt_of_cell? _ _ hcell2
            have hcell2' : (wq.alloc (.cells #[.string (nm (md (f k))), .slice none 0 0] 107)).cell? ⟨b2, off2 + k, none⟩ = some (.slice (A k) (L k) (C k)) := by rw [World.cell?_alloc_lt _ _ _ hb2]; exact hcell2
            clear ha2 hcell hidx cn hmd
            go_wp2
            go_loopw [18, 110] (fun _ i w3 => ∃ j : Nat, j ≤ L k ∧ i = .int .i64 j ∧ L4 wq (fun k => md (f k)) (fun r c => md (x r c)) k j w3) (fun _ i _ => L k - (intOf i).toNat)
            case atStart => exact ⟨0, by omega, rfl, L4.start⟩
            case round =>
              obtain ⟨j, hj, rfl, hl4⟩ := hrel
              have HL4 := hide hl4
              by_cases hjl : j < L k
              · have hin4 := HIN.out.grow hl4.bel
                have hst4 := HST.out.grow hl4.bel
                obtain ⟨b4, off4, ha4, hcell4, hx0, hx1⟩ := hin4.el k hk2 j hjl
                have hidx4 := fun wx => idx22 (c := C k) ha4 hjl wx
                have hmd4 := md_eq (x k j)
                have hml4 := md_lt (x k j)
                have cn4 := hst4.names (md (x k j)) hml4
                have hsz4 := hst4.size
                clear ha4 hin4 hst4 hcell2' hcell2 hidx2
                obtain ⟨v, hvar, hown⟩ := hl4.ex
                have hbl := hl4.bel.size
                have cv := cell_two1 hvar
                have HV := hide hvar
                have HO := hide hown
                clear hvar hown hl4
                have HB4 := hide HL4.out.bel
                clear HL4
                go_upto_region 27 with fail
                have cva : (wr.alloc (.cells #[.string (nm (md (x k j)))] 9)).cell? ⟨wq.heap.size, 1, none⟩ = some v := by rw [World.cell?_alloc_lt _ _ _ (World.block_lt_of_cell? _ _ cv)]; exact cv
                have hr1 := wrap_byte hx0 hx1
                have hr2 := tmod_md hx0
                have hr3 : (md (x k j) : Int) < 5 := by omega
                have hr4 : (0 : Int) ≤ (md (x k j) : Int) := by omega
                go_region_law (refine step_append_lies _ (by rfl) _ _ _ (by rfl) (wq.heap.size + 1) 9 i9 (.string ⟨#[]⟩) 1 16 Yba.underlying65 hi9 hy0 hy1 hy2 rfl (by omega) v j (lostCells (fun c => md (x k c)) j) (by rfl) ((HO.out.alloc _).drew) ⟨wr.heap.size, 0, none⟩ 1 1 [.string (nm (md (x k j)))] (by rfl) (by rfl) (World.news_of_block (cs := #[.string (nm (md (x k j)))]) (t := 9) (fr := (0, 0)) (heap_alloc_new wr _)) (by simp [Value.oneCell']) (by omega) (by unfold maxLen; omega) (by omega) (by simp; omega) (wr.heap.size + 1) (by simp) ?_; intro g cap w5 hown5 hgrow5 hat hlt5; have hvar5 := var_kept HV.out HO.out hgrow5; have c5 := cell_two1 hvar5; have f5 := free_two1 hvar5; have HM5 := hide (L4.more (F := fun k => md (f k)) (X := fun r c => md (x r c)) (k := k) HB4.out HV.out HO.out hgrow5 hown5); clear hvar5 hown5 hgrow5 hat hlt5)
                all_goals
                  go_wp2
                  go_roundw
                  case rel => exact ⟨j + 1, by omega, by go_num, HM5.out⟩
                  case measure => simp [intOf]; omega
              · obtain rfl : j = L k := by omega
                go_wp2
                go_meet
                case rel => rw [HLc.out]; exact hl4
          · have HLc : Hid (Lc n2 L k = 0) := by simp [Hid, Lc, hk2]
            go_wp2
            go_meet
            case rel => rw [HLc.out]; exact L4.start
        obtain ⟨w3, e3⟩ : ∃ w3, w3 = wc := ⟨_, rfl⟩
        subst e3
        obtain ⟨v, hvar, hown⟩ := hcut.ex
        obtain ⟨av, cv, hv, hrow, hbv⟩ := own_lost hown
        obtain ⟨u0, u1, q0, q1, z0, z1⟩ := HL3.out.room hlt hcut.bel
        have HN := hide (HL3.out.next hlt hcut.bel (v := v) ⟨av, cv, hv, hrow, hbv⟩)
        have d0 := cell_two0 hvar
        have d1 := cell_two1 hvar
        have hidx3 := fun wx => idx97 (b := w1.heap.size) (c := n1) hlt wx
        clear hown hrow hbv hvar hcut hcell hidx cn hmd HL3
        subst hv
        go_wp2
        go_roundw
        case rel => exact ⟨k + 1, by omega, by go_num, HN.out⟩
        case measure => simp [intOf]; omega
      · obtain rfl : k = n1 := by omega
        go_wp2
        go_meet
        case rel => exact hl3
  obtain ⟨wC, eC⟩ : ∃ wC, wC = wc := ⟨_, rfl⟩
  subst eC
  have hstC := HS.out.grow hcut.bel
  have HSC := hide hstC
  have HRC := hide hcut
  have HF : Hid (∀ k, k < n1 → (fun k => md (f k)) k < 5) := fun k _ => md_lt _
  have HX : Hid (∀ r, r < n2 → ∀ c, c < L r → (fun r c => md (x r c)) r c < 5) := fun r _ c _ => md_lt _
  clear hcut hstC HM HG
  obtain ⟨T, hT⟩ : ∃ T, T = allTo (rch m) (fun k => md (f k)) n2 L (fun r c => md (x r c)) n1 := ⟨_, rfl⟩
  have HT := hide hT
  clear hT
  have hTl : T.length ≤ 4194304 := by
    have := allTo_len (rch m) (fun k => md (f k)) n2 L (fun r c => md (x r c)) 4096 HL.out n1
    rw [← HT.out] at this
    omega
  have HTs : Hid (Small T) := by have := Small.allTo (rch := rch m) (F := fun k => md (f k)) n1 HF.out HX.out; rw [← HT.out] at this; exact this
  go_upto_block 8 with (go_at_call 4; refine (links_any m (w.heap.size + 1 + 1) (w.heap.size + 1) w1.heap.size n1 n1 n2 (fun k => md (f k)) L (fun r c => md (x r c)) _ hm0 hm1 h1 HL.out HF.out HX.out HSC.out.peers (fun k hk => by obtain ⟨A', c', h, _⟩ := HRC.out.reps k hk; exact ⟨A', c', h⟩)).mono ?_; rintro e w4 ⟨v, rfl, hown4, hbel4⟩; rw [← HT.out] at hown4)
  obtain ⟨_, avT, cvT, hvT, hLT⟩ := owns_links hown4
  have hst4 := HSC.out.grow hbel4
  have hin4 := HI.out.grow hst4.bel
  have HS4 := hide hst4
  have HI4 := hide hin4
  have HLT := hide hLT
  clear hown4 hbel4 hst4 hin4 hLT HSC HRC
  subst hvT
  obtain ⟨i3, hi3, hu0, hu1, hu2⟩ := info_parts Yba.info3
  go_cut [20, 21] (fun v1 v2 wx => E w4 T v1 v2 wx)
  case first =>
    go_wp2
    go_loopw [20, 21, 135] (fun v1 v2 i wr => ∃ k : Nat, k ≤ n1 ∧ i = .int .i64 k ∧ E w4 (allTo (rch m) (fun k => md (f k)) n2 L (fun r c => md (x r c)) k) v1 v2 wr) (fun _ _ i _ => n1 - (intOf i).toNat)
    case atStart => exact ⟨0, by omega, rfl, E.start w4⟩
    case round =>
      obtain ⟨k, hk, rfl, hE⟩ := hrel
      by_cases hlt : k < n1
      · have hin := HI4.out.grow hE.bel
        obtain ⟨b, off, ha, hcell, hf0, hf1⟩ := hin.fr k hlt
        have hidx := fun wx => idx22 (c := c1) ha hlt wx
        have HE := hide hE
        have HIN := hide hin
        have hbs := hE.bel.size
        clear ha hin hE
        cases hr : rch m (md (f k))
        · go_wp2_with (go_at_call 5; refine (reach_md m (f k) _ hm0 hm1).mono ?_; rintro e wz ⟨rfl, hw⟩; replace hw := hw.symm; subst hw)
          go_roundw
          case rel => exact ⟨k + 1, by omega, by go_num, by rw [allTo_skip (F := fun k => md (f k)) hr]; exact HE.out⟩
          case measure => simp [intOf]; omega
        · by_cases hk2 : k < n2
          · obtain ⟨b2, off2, ha2, hcell2, hbd2⟩ := HIN.out.lo k hk2
            have hL4 := HL.out k hk2
            have hidx2 := fun wx => idx23 (c := c2) ha2 hk2 wx
            have hkb : decide (n2 ≤ k) = false := by simp; omega
            have hkb' : decide ((n2 : Int) ≤ (k : Int)) = false := by simp; omega
            clear ha2
            go_wp2_with (go_at_call 5; refine (reach_md m (f k) _ hm0 hm1).mono ?_; rintro e wz ⟨rfl, hw⟩; replace hw := hw.symm; subst hw)
            go_loopw [20, 21, 158] (fun v1 v2 i w6 => ∃ j : Nat, j ≤ L k ∧ i = .int .i64 j ∧ E w4 (rowTo (rch m) (md (f k)) (fun c => md (x k c)) (allTo (rch m) (fun k => md (f k)) n2 L (fun r c => md (x r c)) k) j) v1 v2 w6) (fun _ _ i _ => L k - (intOf i).toNat)
            case atStart => exact ⟨0, by omega, rfl, HE.out⟩
            case round =>
              clear HE hcell hidx hcell2 hidx2 HIN
              obtain ⟨j, hj, rfl, hE⟩ := hrel
              by_cases hjl : j < L k
              · obtain ⟨acc, hacc⟩ : ∃ acc, acc = rowTo (rch m) (md (f k)) (fun c => md (x k c)) (allTo (rch m) (fun k => md (f k)) n2 L (fun r c => md (x r c)) k) j := ⟨_, rfl⟩
                rw [← hacc] at hE
                have hlen : acc.length ≤ 4194304 := by
                  have q1 := rowTo_len (rch m) (md (f k)) (fun c => md (x k c)) (allTo (rch m) (fun k => md (f k)) n2 L (fun r c => md (x r c)) k) j
                  have q2 := allTo_len (rch m) (fun k => md (f k)) n2 L (fun r c => md (x r c)) 4096 HL.out k
                  rw [← hacc] at q1
                  omega
                have HACC := hide hacc
                clear hacc
                have hin := HI4.out.grow hE.bel
                obtain ⟨b4, off4, ha4, hcell4, hx0, hx1⟩ := hin.el k hk2 j hjl
                have hidx4 := fun wx => idx22 (c := C k) ha4 hjl wx
                obtain ⟨s1, t1, hv1, hr1⟩ := own_ints (g := Prod.fst) hE.o1
                obtain ⟨s2, t2, hv2, hr2⟩ := own_ints (g := Prod.snd) hE.o2
                have hbs := hE.bel.size
                have HE := hide hE
                have HR1 := hide hr1
                have HR2 := hide hr2
                clear ha4 hin hE hr1 hr2
                subst hv1
                subst hv2
                cases hrx : rch m (md (x k j))
                · go_wp2_with (go_at_call 5; refine (reach_md m (x k j) _ hm0 hm1).mono ?_; rintro e wz ⟨rfl, hw⟩; replace hw := hw.symm; subst hw)
                  have hfin : E w4 (rowTo (rch m) (md (f k)) (fun c => md (x k c)) (allTo (rch m) (fun k => md (f k)) n2 L (fun r c => md (x r c)) k) (j + 1)) (.slice s1 acc.length t1) (.slice s2 acc.length t2) wr := by rw [rowTo, ← HACC.out, step_far hrx]; exact HE.out
                  have HFIN := hide hfin
                  clear hfin
                  go_roundw
                  case rel => first | exact ⟨j + 1, by omega, by go_num, HFIN.out⟩ | ((repeat apply Exists.intro); exact ⟨⟨j + 1, by omega, by go_num, HFIN.out⟩, rfl⟩)
                  case measure => simp [intOf]; omega
                · go_upto_block 12 with (go_at_call 5; refine (reach_md m (x k j) _ hm0 hm1).mono ?_; rintro e wz ⟨rfl, hw⟩; replace hw := hw.symm; subst hw)
                  obtain ⟨w6, e6⟩ : ∃ w6, w6 = wr := ⟨_, rfl⟩
                  subst e6
                  go_cut [28, 29] (fun d _ wx => d = .bool (has acc (md (x k j), md (f k))) ∧ wx = w6)
                  case first =>
                    go_wp2
                    go_loop [28, 29] (fun d i => ∃ q : Nat, q ≤ acc.length ∧ d = .bool false ∧ i = .int .i64 q ∧ ∀ t p, t < q → acc[t]? = some p → p ≠ (md (x k j), md (f k))) (fun _ i => acc.length - (intOf i).toNat)
                    case atStart => exact ⟨0, by omega, rfl, rfl, fun t p ht => by omega⟩
                    case round =>
                      obtain ⟨q, hq, rfl, rfl, hno⟩ := hrel
                      have HNO := hide hno
                      clear hno
                      by_cases hql : q < acc.length
                      · obtain ⟨p, hp⟩ : ∃ p, acc[q]? = some p := ⟨_, List.getElem?_eq_getElem hql⟩
                        obtain ⟨g1, ha1, hc1⟩ := HR1.out q p hp
                        obtain ⟨g2, ha2, hc2⟩ := HR2.out q p hp
                        rw [Nat.zero_add] at hc1 hc2
                        have x1 := fun wx => idx79 (c := t1) ha1 hql wx
                        have x2 := fun wx => idx79 (c := t2) ha2 hql wx
                        have HP := hide hp
                        clear ha1 ha2 hp
                        by_cases hp1 : p.1 = md (x k j)
                        · have hb1 : ((p.1 : Int) == x k j % 5) = true := by rw [md_eq]; simp [hp1]
                          have HP1 := hide hp1
                          clear hp1
                          by_cases hp2 : p.2 = md (f k)
                          · have hb2 : ((p.2 : Int) == f k % 5) = true := by rw [md_eq]; simp [hp2]
                            have HP2 := hide hp2
                            clear hp2
                            go_wp2
                            go_meet
                            case rel =>
                              refine ⟨congrArg Value.bool ?_, rfl⟩
                              have : (md (x k j), md (f k)) ∈ acc := by rw [← HP1.out, ← HP2.out]; exact List.mem_of_getElem? HP.out
                              simp [has, this]
                          · have hb2 : ((p.2 : Int) == f k % 5) = false := by rw [md_eq]; simp; omega
                            have HP2 := hide hp2
                            clear hp2
                            go_wp2
                            go_round
                            case rel => exact ⟨q + 1, by omega, rfl, by go_num, fun t p' ht hp' => by rcases Nat.lt_succ_iff_lt_or_eq.1 ht with h | rfl; exact HNO.out t p' h hp'; rw [HP.out] at hp'; cases hp'; intro e; exact HP2.out (by rw [e])⟩
                            case measure => simp [intOf]; omega
                        · have hb1 : ((p.1 : Int) == x k j % 5) = false := by rw [md_eq]; simp; omega
                          have HP1 := hide hp1
                          clear hp1
                          go_wp2
                          go_round
                          case rel => exact ⟨q + 1, by omega, rfl, by go_num, fun t p' ht hp' => by rcases Nat.lt_succ_iff_lt_or_eq.1 ht with h | rfl; exact HNO.out t p' h hp'; rw [HP.out] at hp'; cases hp'; intro e; exact HP1.out (by rw [e])⟩
                          case measure => simp [intOf]; omega
                      · obtain rfl : q = acc.length := by omega
                        go_wp2
                        go_meet
                        case rel =>
                          refine ⟨congrArg Value.bool ?_, rfl⟩
                          have : ¬ (md (x k j), md (f k)) ∈ acc := by
                            intro hin
                            obtain ⟨t, ht⟩ := List.mem_iff_getElem?.1 hin
                            exact HNO.out t _ (List.getElem?_eq_some_iff.1 ht).1 ht rfl
                          simp [has, this]
                  obtain ⟨hd, hw6⟩ := hcut
                  replace hw6 := hw6.symm
                  subst hw6
                  subst hd
                  cases hct : has acc (md (x k j), md (f k))
                  · have HCT := hide (step_hit (a := md (f k)) hrx hct)
                    go_wp2_with (first | (at_builtin; refine wpList_append_own_at _ rfl (.tmp 191) (.tmp 193) 79 rfl w4.heap.size 3 i3 (.int .i64 0) 1 8 Yba.underlying79 hi3 hu0 hu1 hu2 rfl (by decide) _ _ _ rfl (HE.out.o1.alloc _) ⟨w6.heap.size, 0, none⟩ 1 1 [.int .i64 (f k % 5)] rfl rfl (cell_one_new _ _ _) (by intro u hu; simp at hu; subst hu; rfl) (by unfold maxLen; omega) (by omega) (by simp; omega) ?_; intro v1' w7 ho7 hg7 _ ht7; rw [md_eq (f k)] at ho7; have HA7 := hide ho7; have HG7 := hide hg7; have HT7 := hide ht7; have hs7 := hg7.size; have HO7 := hide (HE.out.second hg7); clear ho7 hg7 ht7) | (at_builtin; refine wpList_append_own_at _ rfl (.tmp 195) (.tmp 197) 79 rfl w4.heap.size 3 i3 (.int .i64 0) 1 8 Yba.underlying79 hi3 hu0 hu1 hu2 rfl (by decide) _ _ _ rfl (HO7.out.alloc _) ⟨w7.heap.size, 0, none⟩ 1 1 [.int .i64 (x k j % 5)] rfl rfl (cell_one_new _ _ _) (by intro u hu; simp at hu; subst hu; rfl) (by unfold maxLen; omega) (by omega) (by simp at hs7 ⊢; omega) ?_; intro v2' w8 ho8 hg8 _ ht8; rw [md_eq (x k j)] at ho8; have HA8 := hide ho8; have HG8 := hide hg8; have HT8 := hide ht8; clear ho8 hg8 ht8))
                    have hfin : E w4 (rowTo (rch m) (md (f k)) (fun c => md (x k c)) (allTo (rch m) (fun k => md (f k)) n2 L (fun r c => md (x r c)) k) (j + 1)) v1' v2' w8 := by rw [rowTo, ← HACC.out, HCT.out]; exact HE.out.more (p := (md (f k), md (x k j))) HA7.out HG7.out HT7.out HA8.out HG8.out HT8.out
                    have HFIN := hide hfin
                    clear hfin
                    go_roundw
                    case rel => first | exact ⟨j + 1, by omega, by go_num, HFIN.out⟩ | ((repeat apply Exists.intro); exact ⟨⟨j + 1, by omega, by go_num, HFIN.out⟩, rfl⟩)
                    case measure => simp [intOf]; omega
                  · have hfin : E w4 (rowTo (rch m) (md (f k)) (fun c => md (x k c)) (allTo (rch m) (fun k => md (f k)) n2 L (fun r c => md (x r c)) k) (j + 1)) (.slice s1 acc.length t1) (.slice s2 acc.length t2) w6 := by rw [rowTo, ← HACC.out, step_dup hct]; exact HE.out
                    have HFIN := hide hfin
                    clear hfin
                    go_wp2
                    go_roundw
                    case rel => first | exact ⟨j + 1, by omega, by go_num, HFIN.out⟩ | ((repeat apply Exists.intro); exact ⟨⟨j + 1, by omega, by go_num, HFIN.out⟩, rfl⟩)
                    case measure => simp [intOf]; omega
              · obtain rfl : j = L k := by omega
                go_wp2
                go_roundw
                case rel => exact ⟨k + 1, by omega, by go_num, by rw [allTo_next (F := fun k => md (f k)) hr, show Lc n2 L k = L k by simp [Lc, hk2]]; exact hE⟩
                case measure => simp [intOf]; omega
          · go_wp2_with (go_at_call 5; refine (reach_md m (f k) _ hm0 hm1).mono ?_; rintro e wz ⟨rfl, hw⟩; replace hw := hw.symm; subst hw)
            go_roundw
            case rel => exact ⟨k + 1, by omega, by go_num, by rw [allTo_next (F := fun k => md (f k)) hr, show Lc n2 L k = 0 by simp [Lc, hk2]]; exact HE.out⟩
            case measure => simp [intOf]; omega
      · obtain rfl : k = n1 := by omega
        go_wp2
        go_meet
        case rel => rw [HT.out]; exact hE
  obtain ⟨w5, e5⟩ : ∃ w5, w5 = wc := ⟨_, rfl⟩
  subst e5
  obtain ⟨b1, d1, hv1, hr1⟩ := own_ints (g := Prod.fst) hcut.o1
  obtain ⟨b2, d2, hv2, hr2⟩ := own_ints (g := Prod.snd) hcut.o2
  have hst5 := HS4.out.grow hcut.bel
  have HR1 := hide hr1
  have HR2 := hide hr2
  have HS5 := hide hst5
  have HL5 := hide (HLT.out.grow hcut.bel)
  clear hcut hr1 hr2 hst5 HLT HS4 HI4
  subst hv1
  subst hv2
  go_wp2
  go_loopw [30] (fun i wr => ∃ j q : Nat, j ≤ T.length ∧ i = .int .i64 j ∧ wr = w5.drewN q) (fun i _ => T.length - (intOf i).toNat)
  case atStart => exact ⟨0, 0, by omega, rfl, rfl⟩
  case round =>
    obtain ⟨j, q, hj, rfl, rfl⟩ := hrel
    by_cases hjl : j < T.length
    · obtain ⟨p, hp⟩ : ∃ p, T[j]? = some p := ⟨_, List.getElem?_eq_getElem hjl⟩
      obtain ⟨hp1, hp2⟩ := HTs.out p (List.mem_of_getElem? hp)
      obtain ⟨g1, ha1, hc1⟩ := HR1.out j p hp
      obtain ⟨g2, ha2, hc2⟩ := HR2.out j p hp
      rw [Nat.zero_add] at hc1 hc2
      obtain ⟨g3, ha3, hc3⟩ : ∃ b, avT = some ⟨b, 0, none⟩ ∧ ∀ i p, T[i]? = some p → w5.cell? ⟨b, i * 2, none⟩ = some (.string (nm p.1)) ∧ w5.cell? ⟨b, i * 2 + 1, none⟩ = some (.string (nm p.2)) := by
        rcases HL5.out with h | h
        · simp [h] at hp
        · exact h
      obtain ⟨e1, e2⟩ := hc3 j p hp
      have n1' := HS5.out.names p.1 hp1
      have n2' := HS5.out.names p.2 hp2
      have x1 := fun wx => idx79 (c := d1) ha1 hjl wx
      have x2 := fun wx => idx79 (c := d2) ha2 hjl wx
      have x3 := fun wx => idx108a (c := cvT) ha3 hjl wx
      have y1 : (0 : Int) ≤ (p.1 : Int) ∧ (p.1 : Int) < 5 := by omega
      have y2 : (0 : Int) ≤ (p.2 : Int) ∧ (p.2 : Int) < 5 := by omega
      obtain ⟨y1a, y1b⟩ := y1
      obtain ⟨y2a, y2b⟩ := y2
      clear ha1 ha2 ha3 hc3 hp
      go_wp2
      go_quiet (fail)
      go_wp2
      go_roundw
      case rel => exact ⟨j + 1, q + nq, by omega, by go_num, rfl⟩
      case measure => simp [intOf]; omega
    · obtain rfl : j = T.length := by omega
      go_wp2
      go_ret
      exact ⟨rfl, HS5.out.bel.trans ⟨rfl, rfl, rfl, Nat.le_refl _, fun _ _ => rfl⟩⟩
end Go.Proofs.Ybulknhc
