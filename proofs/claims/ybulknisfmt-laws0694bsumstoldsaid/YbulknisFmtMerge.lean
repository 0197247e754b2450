import Derived.Test.YbulknisFmtMergeP
namespace Go.Proofs.YbulknisFmt
open Go.RowKit

theorem OwnL.some {w : World} {base : Nat} {v : Value} {L : List Lot} (h : OwnL w base v L) (hn : 0 < L.length) : ∃ g cap, v = .slice (some ⟨g, 0, none⟩) L.length cap ∧ base ≤ g ∧ g < w.heap.size ∧ L.length ≤ cap := by
  rcases h.2 with ⟨_, h0⟩ | ⟨g, cap, cur, rfl, hb, h2, h3, _⟩
  · omega
  · exact ⟨g, cap, rfl, hb, lt_of_block h2, h3⟩
theorem BookAt.keep {T : Nat → Prop} {w w' : World} {B : Nat} {vl va : Value} {f : Int} (h : BookAt w B vl va f) (hk : Keep T w w') (ht : ¬ T B) : BookAt w' B vl va f := (hk.block B (lt_of_block h) ht).trans h

def zl : Value := .agg #[.string ⟨#[]⟩, .string ⟨#[]⟩, .string ⟨#[]⟩, .int .i32 0, .string ⟨#[]⟩, .int .i64 0, .int .i32 0]
def zc : Array Value := zl.cells
theorem mk41 {n m : Nat} (hn : n + m ≤ 1024) (wx : World) : (Instr.makeSlice 41 (.int .i64 0) (.int .i64 ((n : Int) + (m : Int)))).run Ybaf.prog wx = .ok (.slice (some ⟨wx.heap.size, 0, none⟩) 0 (n + m)) (wx.alloc (.cells (madeCells zc ((n + m) * 7)) 48)) := by
  obtain ⟨i0, hi, hz0, hz1, hz2⟩ := info_parts info48
  have := run_make (P := Ybaf.prog) wx 41 48 i0 zl Ybaf.underlying41 hi hz0 .i64 .i64 0 ((n : Int) + (m : Int)) (by omega) (by omega) (by rw [hz2]; omega) (by omega)
  rw [hz1] at this
  rw [this, show ((n : Int) + (m : Int)).toNat = n + m by omega]
  rfl
theorem own_made (w : World) (base n : Nat) (hb : base ≤ w.heap.size) (hn : n ≤ 1024) : OwnL (w.alloc (.cells (madeCells zc (n * 7)) 48)) base (.slice (some ⟨w.heap.size, 0, none⟩) 0 n) [] :=
  ⟨rfl, .inr ⟨w.heap.size, n, _, rfl, hb, heap_alloc_new _ _, by simp, by unfold maxLen; omega, by rw [size_madeCells], by simp [flat]⟩⟩

/-- The merge's loop: what holds at its head. -/
structure Mw (base : Nat) (w1 : World) (LB A : List Lot) (i j : Nat) (v : Value) (wx : World) : Prop where
  ex : ∃ M, Mg LB A M i j ∧ M.length = i + j ∧ OwnL wx base v M
  own : ∃ g cp, v = .slice (some ⟨g, 0, none⟩) (i + j) cp ∧ w1.heap.size ≤ g
  keep : Keep (fun _ => False) w1 wx

theorem LotAt.lays {w w' : World} {b o : Nat} {x : Lot} (h : LotAt w b o x) (hl : Below w.heap.size w w') : LotAt w' b o x := h.of_block (hl.block b (World.block_lt_of_cell? _ _ h.c0))
/-- One more lot is merged in. -/
theorem Mw.more {base : Nat} {w1 w7 w8 : World} {LB A M : List Lot} {i j i' j' g cp g' cp' : Nat} {x : Lot} {o : Obj} (hsz : w1.heap.size ≤ w7.heap.size) (hk : Keep (fun _ => False) w1 w7) (hg : w1.heap.size ≤ g)
    (hm : Mg LB A (M ++ [x]) i' j') (hM : M.length = i + j) (hij : i' + j' = i + j + 1)
    (hown : w8.ownsRow base 48 7 (.slice (some ⟨g', 0, none⟩) (i + j + 1) cp') (i + j + 1) (flat M ++ enc x)) (hgrow : (w7.alloc o).grownBy w8 (Value.slice (some ⟨g, 0, none⟩) (i + j) cp).ownBlock)
    (hat : (Value.slice (some ⟨g, 0, none⟩) (i + j) cp).ownBlock = some g' ∨ g' = w7.heap.size + 1) : Mw base w1 LB A i' j' (.slice (some ⟨g', 0, none⟩) (i + j + 1) cp') w8 := by
  refine ⟨⟨M ++ [x], hm, by rw [List.length_append, hM]; simp; omega, ?_⟩, ⟨g', cp', by rw [hij], ?_⟩, ?_⟩
  · unfold OwnL; rw [flat_app, List.length_append, hM]; exact hown
  · rcases hat with h | h
    · cases h; exact hg
    · omega
  · refine (hk.alloc o).trans (Keep.ofGrown hgrow) fun k hk' e => ?_
    have : k = g := by simpa [Value.ownBlock] using e
    omega

theorem own_far {W : World} {v : Value} {g n c k : Nat} (h : v.ownBlock = (Value.slice (some ⟨g, 0, none⟩) n c).ownBlock ∨ v.ownBlock = some W.drew.heap.size) (hk : k < W.heap.size) (e : some k = v.ownBlock) : k = g := by
  rcases h with h | h
  · rw [h] at e; simpa [Value.ownBlock] using e
  · rw [h] at e
    have : k = W.heap.size := by simpa using e
    omega
/-- 'x[k:]' of a slice of lots. -/
def restA (b c k : Nat) : Addr := if c = k then ⟨b, 0, none⟩ else ⟨b, k * 7, none⟩
theorem slice41 (b n c k : Nat) (hk : k ≤ n) (w : World) : (Instr.slice 41 (.slice (some ⟨b, 0, none⟩) n c) (some (.int .i64 k)) none none).run Ybaf.prog w = .ok (.slice (some (restA b c k)) (n - k) (c - k)) w := by
  have hu : Ybaf.prog.underlying 41 = some (.slice 48) := by kernel_rfl
  simp [restA, Instr.slice, run_underlying hu, Instr.sliceBounds, Instr.sliceBound, asIntOf, go_sem]
  rw [if_pos hk]
  by_cases hc : c = k
  · rw [if_pos hc, if_pos hc]
  · rw [if_neg hc, if_neg hc]
theorem flat_drop (L : List Lot) (k : Nat) : flat (L.drop k) = (flat L).drop (k * 7) := by
  induction L generalizing k with
  | nil => simp [flat]
  | cons x l ih =>
    cases k with
    | zero => simp
    | succ k =>
      have e : flat (x :: l) = enc x ++ flat l := rfl
      rw [List.drop_succ_cons, ih, e, show (k + 1) * 7 = 7 + k * 7 by omega, ← List.drop_drop, List.drop_left' (enc_len x)]
theorem news_rest {w : World} {base g n c k : Nat} {L : List Lot} (h : OwnL w base (.slice (some ⟨g, 0, none⟩) n c) L) (hk : k ≤ L.length) : ∀ j u, (flat (L.drop k))[j]? = some u → w.cell? ((restA g c k).add j) = some u := by
  intro j u hu
  have hn : n = L.length ∧ L.length ≤ c := by
    rcases h.2 with ⟨h0, _⟩ | ⟨g', cap', cur, h0, _, _, h3, _⟩
    · cases h0
    · cases h0; exact ⟨rfl, h3⟩
  obtain ⟨rfl, hc⟩ := hn
  rw [flat_drop, List.getElem?_drop] at hu
  have hlt : k * 7 + j < L.length * 7 := by
    have := (List.getElem?_eq_some_iff.1 hu).1
    rw [flat_len] at this
    exact this
  unfold restA
  rw [if_neg (by omega)]
  have : (⟨g, k * 7, none⟩ : Addr).add j = ⟨g, k * 7 + j, none⟩ := by unfold Addr.add; split <;> simp_all
  rw [this, World.ownsRow.cellAt h _ hlt, hu]
theorem flat_oneL (L : List Lot) : ∀ v ∈ flat L, v.oneCell' = true := by
  intro v hv
  obtain ⟨x, _, hx⟩ := List.mem_flatMap.1 hv
  exact flat_one x v hx

set_option maxHeartbeats 4000000 in
set_option maxRecDepth 100000 in
theorem merge_any (base B : Nat) (vl va : Value) (f : Int) (LB A : List Lot) (w : World) (hA : 0 < A.length) (hlen : LB.length + A.length ≤ 1024) (hB : BookAt w B vl va f) (hl : OwnL w base vl LB) (ha : OwnL w base va A)
    (hne : ∀ k, vl.ownBlock = some k → va.ownBlock ≠ some k) (hs : Sorted LB) (hbase : base ≤ w.heap.size) :
    Calls Ybaf.prog 59 #[.pointer (some ⟨B, 0, none⟩)] w fun e w' => e = .returned (.tuple #[]) ∧ ∃ vl' L', BookAt w' B vl' (.slice none 0 0) f ∧ OwnL w' base vl' L' ∧ L'.Perm (LB ++ A) ∧ Sorted L' ∧ Keep (fun k => k = B ∨ some k = va.ownBlock) w w' := by
  have SL := hide (sortLots_any base va A w (by omega) ha)
  obtain ⟨ga, ca, rfl, hga, hga2, hca⟩ := ha.some hA
  obtain ⟨al, cl, rfl, _, _, _⟩ := hl.form
  have q1 := cell_blk (i := 1) hB rfl
  have e0 : ((A.length : Int) == 0) = false := by rw [beq_eq_false_iff_ne]; omega
  have HB := hide hB
  have HL := hide hl
  have HA := hide ha
  have HNE := hide hne
  have HS := hide hs
  clear hB hl ha hne hs
  go_enter Ybaf.func59, Ybaf.ntmps59
  go_upto_region 2 with (go_at_call 17; refine SL.out.mono ?_; rintro e w1 ⟨rfl, hp⟩)
  obtain ⟨A', hp, hs', ho', hg⟩ := hp
  have hlA : A'.length = A.length := hp.length_eq
  have hK1 := Keep.ofGrown hg
  have hB1 := HB.out.keep hK1 (fun e => HB.out.ne HA.out e.symm)
  have hL1 := HL.out.keep hK1 (fun k hk e => HNE.out k hk e.symm)
  have r0 := cell_blk (i := 0) hB1 rfl
  have r1 := cell_blk (i := 1) hB1 rfl
  have z0 := free_blk hB1 0
  have z1 := free_blk hB1 1
  have hsz1 := hK1.size
  have H1 : Hid (A'.Perm A ∧ Sorted A' ∧ OwnL w1 base (.slice (some ⟨ga, 0, none⟩) A.length ca) A' ∧ Keep (fun k => some k = (Value.slice (some ⟨ga, 0, none⟩) A.length ca).ownBlock) w w1 ∧ BookAt w1 B (.slice al LB.length cl) (.slice (some ⟨ga, 0, none⟩) A.length ca) f ∧ OwnL w1 base (.slice al LB.length cl) LB) := ⟨hp, hs', ho', hK1, hB1, hL1⟩
  clear hp hs' ho' hK1 hB1 hL1 hg q1 SL
  by_cases h0 : LB.length = 0
  · have e1 : ((LB.length : Int) == 0) = true := by simp [h0]
    have HLB : Hid (LB = []) := List.eq_nil_of_length_eq_zero h0
    clear h0
    go_wp2
    refine bodyPost_ret (results_none rfl _ _ _) rfl ?_
    obtain ⟨hp, hs', ho', hK1, hB1, hL1⟩ := H1.out
    refine ⟨rfl, .slice (some ⟨ga, 0, none⟩) A.length ca, A', heap_set (heap_set hB1 _) _, ?_, by rw [HLB.out]; exact hp, hs', ?_⟩
    · exact ho'.keep (((Keep.refl (fun k => k = B) w1).setCell _ _ (.inl rfl)).setCell _ _ (.inl rfl)) (fun k hk e => by subst e; exact hB1.ne ho' hk)
    · exact ((hK1.mono (fun k _ h => .inr h)).setCell ⟨B, 0, none⟩ _ (.inl (.inl rfl))).setCell ⟨B, 1, none⟩ _ (.inl (.inl rfl))
  · have e1 : ((LB.length : Int) == 0) = false := by rw [beq_eq_false_iff_ne]; omega
    obtain ⟨gl, cl', hvl, hgl, hgl2, hcl⟩ := HL.out.some (by omega)
    cases hvl
    have hmk := fun wx => mk41 (n := LB.length) (m := A.length) hlen wx
    have hwr : IntKind.i64.wrap ((LB.length : Int) + (A.length : Int)) = (LB.length : Int) + (A.length : Int) := by simp [IntKind.wrap, IntKind.signed, IntKind.bits]; omega
    go_upto_region 4 with fail
    go_cut [2] (fun v wx => Mw base w1 LB A' 0 0 v wx)
    case first =>
      go_region_held3 (fun wx => wx.cell? ⟨B, 0, none⟩ = some (.slice (some ⟨gl, 0, none⟩) LB.length cl) ∧ wx.cell? ⟨B, 1, none⟩ = some (.slice (some ⟨ga, 0, none⟩) A.length ca)) (go_keep) (fail)
      go_wp2
      go_meet
      case rel =>
        obtain ⟨hp, hs', ho', hK1, hB1, hL1⟩ := H1.out
        exact ⟨⟨[], Mg.start HS.out hs', rfl, World.ownsRow.drew (own_made w1 base _ (by omega) hlen)⟩, ⟨_, _, rfl, Nat.le_refl _⟩, ((Keep.refl _ w1).alloc _).drewN 1⟩
    obtain ⟨W2, e2⟩ : ∃ W2, W2 = wc := ⟨_, rfl⟩
    subst e2
    have HM := hide hcut
    clear hcut hmk hwr
    go_upto_block 0 with fail
    go_cut [2, 3, 4] (fun v i j wx => ∃ ni nj : Nat, ni ≤ LB.length ∧ nj ≤ A.length ∧ (ni = LB.length ∧ nj < A.length ∨ ni < LB.length ∧ nj = A.length) ∧ i = .int .i64 ni ∧ j = .int .i64 nj ∧ Mw base w1 LB A' ni nj v wx)
    case first =>
      go_wp2
      go_loopw [2, 3, 4] (fun v i j wr => ∃ ni nj : Nat, ni ≤ LB.length ∧ nj ≤ A.length ∧ (ni < LB.length ∨ nj < A.length) ∧ i = .int .i64 ni ∧ j = .int .i64 nj ∧ Mw base w1 LB A' ni nj v wr) (fun _ i j _ => LB.length + A.length - ((intOf i).toNat + (intOf j).toNat))
      case atStart => exact ⟨0, 0, by omega, by omega, by omega, rfl, rfl, HM.out⟩
      case round =>
        clear HM
        obtain ⟨ni, nj, hni, hnj, hor, rfl, rfl, hm⟩ := hrel
        obtain ⟨hp, hs', ho', hK1, hB1, hL1⟩ := H1.out
        obtain ⟨g, cp, rfl, hgg⟩ := hm.own
        have hBr := hB1.keep hm.keep (fun h => h)
        have hLr := hL1.keep hm.keep (fun _ _ h => h)
        have hAr := ho'.keep hm.keep (fun _ _ h => h)
        have b0 := cell_blk (i := 0) hBr rfl
        have b1 := cell_blk (i := 1) hBr rfl
        have HR : Hid (BookAt wr B (.slice (some ⟨gl, 0, none⟩) LB.length cl) (.slice (some ⟨ga, 0, none⟩) A.length ca) f ∧ OwnL wr base (.slice (some ⟨gl, 0, none⟩) LB.length cl) LB ∧ OwnL wr base (.slice (some ⟨ga, 0, none⟩) A.length ca) A') := ⟨hBr, hLr, hAr⟩
        have HMM := hide hm
        clear hBr hLr hAr hm hp hs' ho' hK1 hB1 hL1 r0 r1 z0 z1
        by_cases hi : ni < LB.length
        · by_cases hj : nj < A.length
          · have d1 : decide ((ni : Int) < (LB.length : Int)) = true := by simpa using hi
            have d2 : decide ((nj : Int) < (A.length : Int)) = true := by simpa using hj
            obtain ⟨x, hx⟩ : ∃ x, x = (lotAt LB ni) := ⟨_, rfl⟩
            obtain ⟨y, hy⟩ : ∃ y, y = (lotAt A' nj) := ⟨_, rfl⟩
            have lx' := HR.out.2.1.lot ni hi
            have ly' := HR.out.2.2.lot nj (by omega)
            rw [← hx] at lx'
            rw [← hy] at ly'
            have LX := hide lx'
            have LY := hide ly'
            have HX := hide hx
            have HY := hide hy
            clear lx' ly' hx hy
            have xi := fun wx => idx41z (b := gl) (c := cl) hi wx
            have xj := fun wx => idx41z (b := ga) (c := ca) hj wx
            have KS : Hid (∀ wx, Lays wr wx → (wx.cell? ⟨B, 0, none⟩ = some (.slice (some ⟨gl, 0, none⟩) LB.length cl) ∧ wx.cell? ⟨B, 1, none⟩ = some (.slice (some ⟨ga, 0, none⟩) A.length ca)) ∧ (wx.cell? ⟨gl, ni * 7, none⟩ = some (.string (nm x.acc)) ∧ wx.cell? ⟨gl, ni * 7 + 1, none⟩ = some (.string (nm x.ag)) ∧ wx.cell? ⟨gl, ni * 7 + 2, none⟩ = some (.string (fdn x.fd)) ∧ wx.cell? ⟨gl, ni * 7 + 3, none⟩ = some (.int .i32 x.reg) ∧ wx.cell? ⟨gl, ni * 7 + 4, none⟩ = some (.string (nm x.id)) ∧ wx.cell? ⟨gl, ni * 7 + 5, none⟩ = some (.int .i64 x.sh) ∧ wx.cell? ⟨gl, ni * 7 + 6, none⟩ = some (.int .i32 2))
              ∧ wx.cell? ⟨ga, nj * 7, none⟩ = some (.string (nm y.acc)) ∧ wx.cell? ⟨ga, nj * 7 + 1, none⟩ = some (.string (nm y.ag)) ∧ wx.cell? ⟨ga, nj * 7 + 2, none⟩ = some (.string (fdn y.fd)) ∧ wx.cell? ⟨ga, nj * 7 + 3, none⟩ = some (.int .i32 y.reg) ∧ wx.cell? ⟨ga, nj * 7 + 4, none⟩ = some (.string (nm y.id)) ∧ wx.cell? ⟨ga, nj * 7 + 5, none⟩ = some (.int .i64 y.sh) ∧ wx.cell? ⟨ga, nj * 7 + 6, none⟩ = some (.int .i32 2)) := fun wx hl => by
              have a1 := LX.out.lays hl.below
              have a2 := LY.out.lays hl.below
              have a3 := HR.out.1.keep (Keep.ofBelow hl.below) (fun h => h)
              exact ⟨⟨cell_blk a3 rfl, cell_blk a3 rfl⟩, ⟨a1.c0, a1.c1, a1.c2, a1.c3, a1.c4, a1.c5, a1.c6⟩, a2.c0, a2.c1, a2.c2, a2.c3, a2.c4, a2.c5, a2.c6⟩
            have CF : Hid (∀ wx, Lays wr wx → Calls Ybaf.prog 33 #[.agg #[.string (nm y.acc), .string (nm y.ag), .string (fdn y.fd), .int .i32 y.reg, .string (nm y.id), .int .i64 y.sh, .int .i32 2], .agg #[.string (nm x.acc), .string (nm x.ag), .string (fdn x.fd), .int .i32 x.reg, .string (nm x.id), .int .i64 x.sh, .int .i32 2]] wx fun e w' => e = .returned (.int .i64 (cf y x)) ∧ Lays wr w') := fun wx hl => (cf_any y x wx).mono fun _ _ ⟨he, h⟩ => ⟨he, hl.trans h⟩
            go_upto_region 7 with fail
            go_cut [75] (fun v wx => v = .bool (decide (cf y x < 0)) ∧ Lays wr wx)
            case first =>
              go_region_held3 (fun wx => (wx.cell? ⟨B, 0, none⟩ = some (.slice (some ⟨gl, 0, none⟩) LB.length cl) ∧ wx.cell? ⟨B, 1, none⟩ = some (.slice (some ⟨ga, 0, none⟩) A.length ca)) ∧ (wx.cell? ⟨gl, ni * 7, none⟩ = some (.string (nm x.acc)) ∧ wx.cell? ⟨gl, ni * 7 + 1, none⟩ = some (.string (nm x.ag)) ∧ wx.cell? ⟨gl, ni * 7 + 2, none⟩ = some (.string (fdn x.fd)) ∧ wx.cell? ⟨gl, ni * 7 + 3, none⟩ = some (.int .i32 x.reg) ∧ wx.cell? ⟨gl, ni * 7 + 4, none⟩ = some (.string (nm x.id)) ∧ wx.cell? ⟨gl, ni * 7 + 5, none⟩ = some (.int .i64 x.sh) ∧ wx.cell? ⟨gl, ni * 7 + 6, none⟩ = some (.int .i32 2))
              ∧ wx.cell? ⟨ga, nj * 7, none⟩ = some (.string (nm y.acc)) ∧ wx.cell? ⟨ga, nj * 7 + 1, none⟩ = some (.string (nm y.ag)) ∧ wx.cell? ⟨ga, nj * 7 + 2, none⟩ = some (.string (fdn y.fd)) ∧ wx.cell? ⟨ga, nj * 7 + 3, none⟩ = some (.int .i32 y.reg) ∧ wx.cell? ⟨ga, nj * 7 + 4, none⟩ = some (.string (nm y.id)) ∧ wx.cell? ⟨ga, nj * 7 + 5, none⟩ = some (.int .i64 y.sh) ∧ wx.cell? ⟨ga, nj * 7 + 6, none⟩ = some (.int .i32 2))
                (exact KS.out _ (by first | assumption | exact (Lays.refl _).drew))
                (first | (go_at_call 33; refine (CF.out _ ?_).mono ?_; (first | assumption | exact (Lays.refl _).drew); rintro e w' ⟨rfl, hl⟩))
              go_wp2
              go_meet
              case rel => exact ⟨rfl, by assumption⟩
            obtain ⟨w7, e7⟩ : ∃ w7, w7 = wc := ⟨_, rfl⟩
            subst e7
            obtain ⟨hv, hl7⟩ := hcut
            subst hv
            have hB7 := HR.out.1.keep (Keep.ofBelow hl7.below) (fun h => h)
            have c0 := cell_blk (i := 0) hB7 rfl
            have c1 := cell_blk (i := 1) hB7 rfl
            have a1 := LX.out.lays hl7.below
            have a2 := LY.out.lays hl7.below
            have hk7 : Hid (Keep (fun _ => False) w1 w7) := HMM.out.keep.trans (Keep.ofBelow hl7.below) (fun _ _ h => h)
            obtain ⟨M, hMg, hMl, hMo⟩ := HMM.out.ex
            have hMo7 : Hid (w7.ownsRow base 48 7 (.slice (some ⟨g, 0, none⟩) (ni + nj) cp) (ni + nj) (flat M)) := by
              have := hMo.keep (Keep.ofBelow hl7.below) (fun _ _ h => h)
              unfold OwnL at this
              rw [hMl] at this
              exact this
            have hbs : base ≤ w7.heap.size := by have := hk7.out.size; omega
            have hs7 := hk7.out.size
            have HMG := hide hMg
            have HML := hide hMl
            obtain ⟨i0, hi0, hz0, hz1, hz2⟩ := info_parts info48
            obtain ⟨p0, p1, p2, p3, p4, p5, p6⟩ := a1
            obtain ⟨s0, s1, s2, s3, s4, s5, s6⟩ := a2
            clear b0 b1 KS CF hB7 hl7 hMg hMl hMo HMM HR
            by_cases hlx : lx y x
            · have ec : decide (cf y x < 0) = true := decide_eq_true ((cf_lt y x).2 hlx)
              rw [ec]
              have HG : Hid (Mg LB A' (M ++ [y]) ni (nj + 1)) := by rw [HX.out, HY.out] at hlx; rw [HY.out]; exact HMG.out.add hi (by omega) hlx
              clear ec hlx p0 p1 p2 p3 p4 p5 p6
              go_wp2_with (at_builtin; refine wpList_append_lies _ rfl _ _ _ rfl base 48 i0 _ 7 88 Ybaf.underlying41 hi0 hz0 hz1 hz2 rfl (by omega) (.slice (some ⟨g, 0, none⟩) (ni + nj) cp) (ni + nj) (flat M) rfl (World.ownsRow.alloc hMo7.out _) ⟨w7.heap.size, 0, none⟩ 1 1 (enc y) rfl rfl (World.news_of_block (cs := #[.string (nm y.acc), .string (nm y.ag), .string (fdn y.fd), .int .i32 y.reg, .string (nm y.id), .int .i64 y.sh, .int .i32 2]) (t := 48) (fr := (0, 0)) (heap_alloc_new w7 _)) (flat_one y) (by omega) (by unfold maxLen; omega) (by omega) (by simp; omega) (w7.heap.size + 1) (by simp) ?_; intro g' cp' w8 hown8 hgrow8 hat8 hlt8; have H8 := hide (And.intro hown8 (And.intro hgrow8 hat8)); clear hown8 hgrow8 hat8 hlt8)
              go_roundw
              case rel =>
                obtain ⟨hown8, hgrow8, hat8⟩ := H8.out
                exact ⟨ni, nj + 1, by omega, by omega, by omega, rfl, by go_num, Mw.more hs7 hk7.out hgg HG.out HML.out (by omega) hown8 hgrow8 hat8⟩
              case measure => simp [intOf]; omega
            · have ec : decide (cf y x < 0) = false := decide_eq_false (fun h => hlx ((cf_lt y x).1 h))
              rw [ec]
              have HG : Hid (Mg LB A' (M ++ [x]) (ni + 1) nj) := by rw [HX.out, HY.out] at hlx; rw [HX.out]; exact HMG.out.lot hi (by omega) hlx
              clear ec hlx s0 s1 s2 s3 s4 s5 s6
              go_wp2_with (at_builtin; refine wpList_append_lies _ rfl _ _ _ rfl base 48 i0 _ 7 88 Ybaf.underlying41 hi0 hz0 hz1 hz2 rfl (by omega) (.slice (some ⟨g, 0, none⟩) (ni + nj) cp) (ni + nj) (flat M) rfl (World.ownsRow.alloc hMo7.out _) ⟨w7.heap.size, 0, none⟩ 1 1 (enc x) rfl rfl (World.news_of_block (cs := #[.string (nm x.acc), .string (nm x.ag), .string (fdn x.fd), .int .i32 x.reg, .string (nm x.id), .int .i64 x.sh, .int .i32 2]) (t := 48) (fr := (0, 0)) (heap_alloc_new w7 _)) (flat_one x) (by omega) (by unfold maxLen; omega) (by omega) (by simp; omega) (w7.heap.size + 1) (by simp) ?_; intro g' cp' w8 hown8 hgrow8 hat8 hlt8; have H8 := hide (And.intro hown8 (And.intro hgrow8 hat8)); clear hown8 hgrow8 hat8 hlt8)
              go_roundw
              case rel =>
                obtain ⟨hown8, hgrow8, hat8⟩ := H8.out
                exact ⟨ni + 1, nj, by omega, by omega, by omega, by go_num, rfl, Mw.more hs7 hk7.out hgg HG.out HML.out (by omega) hown8 hgrow8 hat8⟩
              case measure => simp [intOf]; omega
          · have d1 : decide ((ni : Int) < (LB.length : Int)) = true := by simpa using hi
            have d2 : decide ((nj : Int) < (A.length : Int)) = false := by simpa using hj
            go_wp2
            go_meet
            case rel => exact ⟨ni, nj, hni, hnj, .inr ⟨hi, by omega⟩, rfl, rfl, HMM.out⟩
        · have d1 : decide ((ni : Int) < (LB.length : Int)) = false := by simpa using hi
          go_wp2
          go_meet
          case rel => exact ⟨ni, nj, hni, hnj, .inl ⟨by omega, by omega⟩, rfl, rfl, HMM.out⟩
    obtain ⟨W3, e3⟩ : ∃ W3, W3 = wc := ⟨_, rfl⟩
    subst e3
    obtain ⟨ni, nj, hni, hnj, hend, hvi, hvj, hm⟩ := hcut
    subst hvi
    subst hvj
    clear HM r0 r1 z0 z1
    obtain ⟨g, cp, hvv, hgg⟩ := hm.own
    subst hvv
    obtain ⟨M, hMg, hMl, hMo⟩ := hm.ex
    obtain ⟨hp, hs', ho', hK1, hB1, hL1⟩ := H1.out
    have hB3 := hB1.keep hm.keep (fun h => h)
    have hL3 := hL1.keep hm.keep (fun _ _ h => h)
    have hA3 := ho'.keep hm.keep (fun _ _ h => h)
    have hlB : B < w1.heap.size := lt_of_block hB1
    have hsz3 := hm.keep.size
    have OM : Hid (W3.ownsRow base 48 7 (.slice (some ⟨g, 0, none⟩) (ni + nj) cp) (ni + nj) (flat M)) := by
      unfold OwnL at hMo
      rw [hMl] at hMo
      exact hMo
    have KS : Hid (∀ wx, Keep (fun k => k = g) W3 wx → wx.cell? ⟨B, 0, none⟩ = some (.slice (some ⟨gl, 0, none⟩) LB.length cl) ∧ wx.cell? ⟨B, 1, none⟩ = some (.slice (some ⟨ga, 0, none⟩) A.length ca)) := fun wx hk => by
      have a3 := hB3.keep hk (by omega)
      exact ⟨cell_blk a3 rfl, cell_blk a3 rfl⟩
    have NL : Hid (∀ wx, Keep (fun k => k = g) W3 wx → ∀ j u, (flat (LB.drop ni))[j]? = some u → wx.cell? ((restA gl cl ni).add j) = some u) := fun wx hk => news_rest (hL3.keep hk (fun k hk' e => by have := (hL1.lt k hk').2; omega)) hni
    have NA : Hid (∀ wx, Keep (fun k => k = g) W3 wx → ∀ j u, (flat (A'.drop nj))[j]? = some u → wx.cell? ((restA ga ca nj).add j) = some u) := fun wx hk => news_rest (hA3.keep hk (fun k hk' e => by have := (ho'.lt k hk').2; omega)) (by omega)
    have HB3 := hide hB3
    have HM := hide (And.intro hMg (And.intro hMl hm.keep))
    have sl := fun wx => slice41 gl LB.length cl ni hni wx
    have sa := fun wx => slice41 ga A.length ca nj hnj wx
    have hlenL : Hid ((flat (LB.drop ni)).length = (LB.length - ni) * 7) := by show _ = _; rw [flat_len, List.length_drop]
    have hlenA : Hid ((flat (A'.drop nj)).length = (A.length - nj) * 7) := by show _ = _; rw [flat_len, List.length_drop, hlA]
    obtain ⟨i0, hi0, hz0, hz1, hz2⟩ := info_parts info48
    have q0 := cell_blk (i := 0) hB3 rfl
    have q1 := cell_blk (i := 1) hB3 rfl
    have hbs : base ≤ W3.heap.size := by omega
    clear hB3 hL3 hA3 hMg hMl hMo hm hp hs' ho' hK1 hB1 hL1
    go_upto_region 12 with fail
    go_cut [3] (fun _ wx => ∃ v5, BookAt wx B v5 (.slice (some ⟨ga, 0, none⟩) A.length ca) f ∧ OwnL wx base v5 (M ++ LB.drop ni ++ A'.drop nj) ∧ Keep (fun k => k = B ∨ k = g) W3 wx)
    case first =>
      go_region_law (first | (refine step_append_at _ (by rfl) _ _ _ (by rfl) base 48 i0 _ 7 88 Ybaf.underlying41 hi0 hz0 hz1 hz2 rfl (by omega) (.slice (some ⟨g, 0, none⟩) (ni + nj) cp) (ni + nj) (flat M) (by rfl) (World.ownsRow.drew OM.out) (restA gl cl ni) (LB.length - ni) (cl - ni) (flat (LB.drop ni)) (by rfl) hlenL.out (NL.out _ ((Keep.refl _ _).drewN 1)) (flat_oneL _) (by unfold maxLen; omega) (by omega) hbs ?_; intro v4 w4 hown4 hgrow4 hat4; have hk4 : Keep (fun k => k = g) W3 w4 := ((Keep.refl _ W3).drewN 1).trans (Keep.ofGrown hgrow4) (fun k _ e => by simpa [Value.ownBlock] using e); have v1 := (KS.out _ hk4).2; have H4 := hide (And.intro hown4 hat4); clear hown4 hgrow4 hat4)
                             | (refine step_append_at _ (by rfl) _ _ _ (by rfl) base 48 i0 _ 7 88 Ybaf.underlying41 hi0 hz0 hz1 hz2 rfl (by omega) v4 (ni + nj + (LB.length - ni)) (flat M ++ flat (LB.drop ni)) (by rfl) H4.out.1 (restA ga ca nj) (A.length - nj) (ca - nj) (flat (A'.drop nj)) (by rfl) hlenA.out (NA.out _ hk4) (flat_oneL _) (by unfold maxLen; omega) (by omega) (by have := hk4.size; omega) ?_; intro v5 w5 hown5 hgrow5 hat5; have hk5 : Keep (fun k => k = g) W3 w5 := hk4.trans (Keep.ofGrown hgrow5) (fun k hk e => own_far H4.out.2 hk e); obtain ⟨g5, c5, hv5, hbb5, hl5⟩ := hown5.form (by omega); subst hv5; have hbk5 := HB3.out.keep hk5 (by omega); have f0 := free_blk hbk5 0; have u0 := cell_blk (i := 0) hbk5 rfl; have H5 := hide (And.intro hown5 (And.intro hbk5 hk5)); clear hown5 hgrow5 hat5 hbk5 hbb5 hl5))
      all_goals
        go_wp2
        go_meet
        case rel =>
          obtain ⟨hown5, hbk5, hk5⟩ := H5.out
          obtain ⟨hMg, hMl, _⟩ := HM.out
          have hO5 : OwnL w5 base (.slice (some ⟨g5, 0, none⟩) (ni + nj + (LB.length - ni) + (A.length - nj)) c5) (M ++ LB.drop ni ++ A'.drop nj) := by
            unfold OwnL
            rw [flat_appL, flat_appL, List.length_append, List.length_append, List.length_drop, List.length_drop, hMl, hlA]
            exact hown5
          exact ⟨_, heap_set hbk5 _, hO5.keep ((Keep.refl (fun k => k = B) w5).setCell _ _ (.inl rfl)) (fun k hk e => by subst e; exact hbk5.ne hO5 hk), (hk5.mono (fun k _ h => .inr h)).setCell ⟨B, 0, none⟩ _ (.inl (.inl rfl))⟩
    obtain ⟨W4, e4⟩ : ∃ W4, W4 = wc := ⟨_, rfl⟩
    subst e4
    obtain ⟨v5, hB4, hO4, hK4⟩ := hcut
    have t1 := cell_blk (i := 1) hB4 rfl
    have t2 := free_blk hB4 1
    have H4 := hide (And.intro hB4 (And.intro hO4 hK4))
    clear hB4 hO4 hK4 q0 q1 KS NL NA
    go_wp2
    go_end0
    obtain ⟨hB4, hO4, hK4⟩ := H4.out
    obtain ⟨hMg, hMl, hk3⟩ := HM.out
    obtain ⟨hp, hs', ho', hK1, hB1, hL1⟩ := H1.out
    have hd := hMg.done (by omega)
    refine ⟨rfl, v5, _, heap_set hB4 _, hO4.keep ((Keep.refl (fun k => k = B) W4).setCell _ _ (.inl rfl)) (fun k hk e => by subst e; exact hB4.ne hO4 hk), hd.2.trans (List.Perm.append_left _ hp), hd.1, ?_⟩
    exact (((hK1.mono (fun k _ h => .inr h)).trans hk3 (fun _ _ h => h.elim)).trans hK4 (fun k hk h => by
      rcases h with h | h
      · exact .inl h
      · omega)).setCell ⟨B, 1, none⟩ _ (.inl (.inl rfl))
end Go.Proofs.YbulknisFmt
