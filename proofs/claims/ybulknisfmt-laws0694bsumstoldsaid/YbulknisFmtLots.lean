import Derived.Test.YbulknisFmtEnts
namespace Go.Proofs.YbulknisFmt
open Go.RowKit

theorem eqHb (a g a' g' : Fin 4) (f f' : Fin 3) (w : World) : (binOp .eql 56 (.agg #[.string (nm a), .string (nm g), .string (fdn f)]) (.agg #[.string (nm a'), .string (nm g'), .string (fdn f')])).run Ybaf.prog w = .ok (.bool (decide (a = a' ∧ g = g' ∧ f = f'))) w := by
  rw [run_eql_struct, eqH]; rfl
theorem AllAt.neL {w : World} {E : Nat} {v u : Value} {base : Nat} {L : List Lot} (h : AllAt w E v) (hl : OwnL w base u L) : u.ownBlock ≠ some E := by
  intro e
  obtain ⟨cur, hc⟩ := hl.block e
  unfold AllAt at h
  rw [h] at hc
  cases hc

/-- The outer loop of entitledLots: what holds at its head. -/
structure Lw (base E : Nat) (c : Fin 3) (d : Int) (L : List Lot) (w1 : World) (i : Nat) (wr : World) : Prop where
  ex : ∃ ve, AllAt wr E ve ∧ OwnE wr base ve (ents c d L (bound L i)) ∧ (∀ k, ve.ownBlock = some k → w1.heap.size ≤ k)
  low : ∀ t, t < i → kn (lotAt L t) < bound L i
  keep : Keep (fun k => k = E) w1 wr
/-- What entitledLots leaves. -/
def Entd (base B E : Nat) (c : Fin 3) (f d : Int) (LB A : List Lot) (va : Value) (w w' : World) : Prop :=
  ∃ ve L', AllAt w' E ve ∧ OwnE w' base ve (ents c d L' 48) ∧ (0 < A.length ∧ f < d + 1 ∧ L'.Perm (LB ++ A) ∨ ¬ (0 < A.length ∧ f < d + 1) ∧ L' = LB) ∧ Keep (fun k => k = B ∨ some k = va.ownBlock ∨ k = E) w w'

theorem slice41b (b n c i m : Nat) (him : i < m) (hm : m ≤ n) (hn : n ≤ c) (w : World) : (Instr.slice 41 (.slice (some ⟨b, 0, none⟩) n c) (some (.int .i64 i)) (some (.int .i64 m)) none).run Ybaf.prog w = .ok (.slice (some ⟨b, i * 7, none⟩) (m - i) (c - i)) w := by
  have hu : Ybaf.prog.underlying 41 = some (.slice 48) := by kernel_rfl
  simp [Instr.slice, run_underlying hu, Instr.sliceBounds, Instr.sliceBound, asIntOf, go_sem]
  rw [if_pos (by omega)]
  simp [show i ≤ m by omega, show ¬ c = i by omega]
theorem Lw.skip {base E : Nat} {c : Fin 3} {d : Int} {L : List Lot} {w1 wr w' : World} {i j : Nat} (h : Lw base E c d L w1 i wr) (hr : Run L i j) (hs : Sorted L) (hS : S c d L (kn (lotAt L i)) = 0) (hk : Keep (fun _ => False) wr w') : Lw base E c d L w1 j w' := by
  obtain ⟨ve, h1, h2, h3⟩ := h.ex
  refine ⟨⟨ve, h1.keep hk (fun h => h), ?_, h3⟩, hr.low_next hs, h.keep.trans hk (fun _ _ h => h.elim)⟩
  rw [hr.ents hs c d, hS]
  unfold emit
  rw [if_pos rfl]
  exact h2.keep hk (fun _ _ h => h)
theorem Lw.each {base E : Nat} {c : Fin 3} {d : Int} {L : List Lot} {w1 wr w4 w' : World} {i j : Nat} {ve : Value} {s : Int} (h : Lw base E c d L w1 i wr) (hr : Run L i j) (hs : Sorted L) (hS : S c d L (kn (lotAt L i)) = s) (hk : Keep (fun _ => False) wr w4)
    (hve : ∀ k, ve.ownBlock = some k → w1.heap.size ≤ k) (ht : Told base E ve (emit (ents c d L (bound L i)) (lotAt L i).acc (lotAt L i).ag (lotAt L i).fd s) w4 w') : Lw base E c d L w1 j w' := by
  obtain ⟨ve', h1, h2, h3, h4⟩ := ht
  have hs4 : w1.heap.size ≤ w4.heap.size := Nat.le_trans h.keep.size hk.size
  refine ⟨⟨ve', h1, ?_, ?_⟩, hr.low_next hs, (h.keep.trans hk (fun _ _ h => h.elim)).trans h4 (fun k hk' h => ?_)⟩
  · rw [hr.ents hs c d, hS]; exact h2
  · intro k hk'
    rcases h3 with h3 | ⟨k', h3, h5⟩
    · exact hve k (h3 ▸ hk')
    · rw [h3] at hk'; cases hk'; omega
  · rcases h with h | h
    · exact h
    · have := hve k h.symm; omega

theorem canon_len (c : Fin 3) (d : Int) (L : List Lot) (k : Nat) : (canon c d L k).length ≤ k := by
  unfold canon
  refine Nat.le_trans (List.length_filterMap_le _ _) ?_
  simp
theorem bound_le (L : List Lot) (i : Nat) : bound L i ≤ 48 := by
  unfold bound
  split
  · exact Nat.le_of_lt (kn_lt _)
  · exact Nat.le_refl _

set_option maxHeartbeats 4000000 in
set_option maxRecDepth 100000 in
theorem lots_any (base B E : Nat) (vl va : Value) (f d : Int) (c : Fin 3) (w : World) (LB A : List Lot) (hlen : LB.length + A.length ≤ 1024) (hB : BookAt w B vl va f) (hl : OwnL w base vl LB) (ha : OwnL w base va A)
    (hne : ∀ k, vl.ownBlock = some k → va.ownBlock ≠ some k) (hs : Sorted LB) (hbase : base ≤ w.heap.size) (h5 : 5 ≤ base) (hE : AllAt w E (.slice none 0 0)) (hE5 : 5 ≤ E) (hEB : E ≠ B) (hB5 : 5 ≤ B) (hgl : Glob w)
    (hbd : ∀ x ∈ LB ++ A, -2147483648 ≤ x.sh ∧ x.sh ≤ 2147483647) (hd : -32768 ≤ d) (hd' : d ≤ 32767) :
    Calls Ybaf.prog 29 #[.pointer (some ⟨B, 0, none⟩), .string (fdn c), .int .i32 d, .func (.func 30) #[] #[.pointer (some ⟨E, 0, none⟩)]] w fun e w' => e = .returned (.tuple #[]) ∧ Entd base B E c f d LB A va w w' := by
  have CU := hide (catchUp_any base B vl va f (d + 1) LB A w hlen hB hl ha hne hs hbase)
  have H0 : Hid (AllAt w E (.slice none 0 0) ∧ Glob w ∧ OwnL w base va A ∧ ∀ x ∈ LB ++ A, -2147483648 ≤ x.sh ∧ x.sh ≤ 2147483647) := ⟨hE, hgl, ha, hbd⟩
  have hw : IntKind.i32.wrap (d + 1) = d + 1 := by simp [IntKind.wrap, IntKind.signed, IntKind.bits]; omega
  clear hB hl ha hne hs hE hgl hbd
  go_enter Ybaf.func29, Ybaf.ntmps29
  go_upto_block 0 with (go_at_call 44; refine CU.out.mono ?_; rintro e w1 ⟨rfl, hp⟩)
  clear CU hw
  obtain ⟨vl', va', L, hB1, hL1, hs, hdis, hK1⟩ := hp
  obtain ⟨hE0, hgl, ha, hbd⟩ := H0.out
  have hLn : L.length ≤ 1024 := by
    rcases hdis with ⟨_, _, h⟩ | ⟨_, rfl⟩
    · rw [h.length_eq, List.length_append]; exact hlen
    · omega
  have hbL : ∀ x ∈ L, -2147483648 ≤ x.sh ∧ x.sh ≤ 2147483647 := by
    rcases hdis with ⟨_, _, h⟩ | ⟨_, rfl⟩
    · exact fun x hx => hbd x (h.mem_iff.1 hx)
    · exact fun x hx => hbd x (List.mem_append_left _ hx)
  have hE1 := hE0.keep hK1 (by rintro (h | h); exact hEB h; exact hE0.neL ha h.symm)
  have hbk : ∀ k, va.ownBlock = some k → base ≤ k := fun k hk => (ha.lt k hk).1
  have hgl1 : Glob w1 := hgl.keep hK1 (fun k h => by rcases h with h | h; omega; have := hbk k h.symm; omega)
  have hst : Lw base E c d L w1 0 w1 := ⟨⟨.slice none 0 0, hE1, by unfold ents; rw [canon_start c d hs]; exact World.ownsRow_nil _ _ _ _, fun k hk => by cases hk⟩, fun t ht => by omega, Keep.refl _ _⟩
  obtain ⟨al, cl, rfl, _, _, _⟩ := hL1.form
  have HS := hide hs
  have HST := hide hst
  have HL1 := hide hL1
  have HB1 := hide hB1
  have HG1 := hide hgl1
  have HBL := hide hbL
  have HE1 := hide hE1
  have HF : Hid (∀ wx, Lw base E c d L w1 L.length wx → Entd base B E c f d LB A va w wx) := fun wx h => by
    obtain ⟨ve, h1, h2, _⟩ := h.ex
    have e48 : bound L L.length = 48 := by unfold bound; rw [if_neg (by omega)]
    rw [e48] at h2
    refine ⟨ve, L, h1, h2, hdis, (hK1.mono (fun k _ h => by rcases h with h | h; exact .inl h; exact .inr (.inl h))).trans h.keep (fun k _ h => .inr (.inr h))⟩
  clear hB1 hL1 hs hdis hK1 hE0 hgl ha hbd hbL hE1 hbk hgl1 hst H0
  go_wp2
  go_loopw [8, 9, 10, 11] (fun i _ _ _ wr => ∃ ni : Nat, ni ≤ L.length ∧ i = .int .i64 ni ∧ Lw base E c d L w1 ni wr) (fun i _ _ _ _ => L.length - (intOf i).toNat)
  case atStart => exact ⟨0, by omega, rfl, HST.out⟩
  case round =>
    clear HST
    obtain ⟨i, hi, rfl, hlw⟩ := hrel
    have HLW := hide hlw
    have hBr := HB1.out.keep hlw.keep (Ne.symm hEB)
    have b0 := cell_blk (i := 0) hBr rfl
    by_cases hlt : i < L.length
    · obtain ⟨gl, cl', hv, hgl, hgl2, hcl⟩ := HL1.out.some (by omega)
      cases hv
      have hnE : ∀ k, (Value.slice (some ⟨gl, 0, none⟩) L.length cl).ownBlock = some k → ¬ k = E := fun k hk e => by subst e; exact HE1.out.neL HL1.out hk
      have hLr := HL1.out.keep hlw.keep hnE
      obtain ⟨x, hx⟩ : ∃ x, x = (lotAt L i) := ⟨_, rfl⟩
      have lx' := hLr.lot i hlt
      rw [← hx] at lx'
      obtain ⟨p0, p1, p2, p3, p4, p5, p6⟩ := lx'
      have hidx := fun wx => idx41z (b := gl) (c := cl) hlt wx
      have HX := hide hx
      have HR : Hid (BookAt wr B (.slice (some ⟨gl, 0, none⟩) L.length cl) va' f ∧ OwnL wr base (.slice (some ⟨gl, 0, none⟩) L.length cl) L) := ⟨hBr, hLr⟩
      clear hBr hLr hlw hx
      go_upto_region 4 with (go_at_call 18; refine (holding_any _ _ _ _ _ _ _ _).mono ?_; rintro e w2 ⟨rfl, hl2⟩)
      obtain ⟨hb, ehb⟩ : ∃ hb, hb = w2.heap.size := ⟨_, rfl⟩
      have hk3 : Keep (fun _ => False) wr (w2.alloc (.cells #[.string (nm x.acc), .string (nm x.ag), .string (fdn x.fd)] 56)) := (Keep.ofBelow hl2.below).alloc _
      have hh3 : (w2.alloc (.cells #[.string (nm x.acc), .string (nm x.ag), .string (fdn x.fd)] 56)).heap[hb]? = some (.cells #[.string (nm x.acc), .string (nm x.ag), .string (fdn x.fd)] 56) := by rw [ehb]; exact heap_alloc_new _ _
      obtain ⟨W3, e3⟩ : ∃ W3, W3 = w2.alloc (.cells #[.string (nm x.acc), .string (nm x.ag), .string (fdn x.fd)] 56) := ⟨_, rfl⟩
      rw [← e3] at hk3 hh3 ⊢
      rw [← ehb]
      have HK3 := hide hk3
      have HH3 := hide hh3
      have HB3 := hide (HR.out.1.keep hk3 (fun h => h))
      have HL3 := hide (HR.out.2.keep hk3 (fun _ _ h => h))
      clear hk3 hh3 e3 ehb hl2 p0 p1 p2 p3 p4 p5 p6 b0
      go_upto_block 2 with fail
      go_cut [10] (fun e wx => ∃ j : Nat, e = .int .i64 j ∧ Run L i j ∧ Lays W3 wx)
      case first =>
        go_wp2
        go_loopw [10] (fun e wr => ∃ j : Nat, i < j ∧ j ≤ L.length ∧ e = .int .i64 j ∧ (∀ t, i ≤ t → t < j → kn (lotAt L t) = kn (lotAt L i)) ∧ Lays W3 wr) (fun e _ => L.length - (intOf e).toNat)
        case atStart => exact ⟨i + 1, by omega, by omega, by go_num, fun t h1 h2 => by rw [show t = i by omega], Lays.refl _⟩
        case round =>
          obtain ⟨j, hij, hj, rfl, hsame, hlay⟩ := hrel
          have HSA := hide hsame
          clear hsame
          have b0 := cell_blk (i := 0) (HB3.out.keep (Keep.ofBelow hlay.below) (fun h => h)) rfl
          by_cases hjn : j < L.length
          · obtain ⟨y, hy⟩ : ∃ y, y = (lotAt L j) := ⟨_, rfl⟩
            have HY := hide hy
            have KS : Hid (∀ wx, Lays W3 wx → (wx.cell? ⟨B, 0, none⟩ = some (.slice (some ⟨gl, 0, none⟩) L.length cl) ∧ wx.cell? ⟨hb, 0, none⟩ = some (.string (nm x.acc)) ∧ wx.cell? ⟨hb, 1, none⟩ = some (.string (nm x.ag)) ∧ wx.cell? ⟨hb, 2, none⟩ = some (.string (fdn x.fd))) ∧ wx.cell? ⟨gl, j * 7, none⟩ = some (.string (nm y.acc)) ∧ wx.cell? ⟨gl, j * 7 + 1, none⟩ = some (.string (nm y.ag)) ∧ wx.cell? ⟨gl, j * 7 + 2, none⟩ = some (.string (fdn y.fd)) ∧ wx.cell? ⟨gl, j * 7 + 3, none⟩ = some (.int .i32 y.reg) ∧ wx.cell? ⟨gl, j * 7 + 4, none⟩ = some (.string (nm y.id)) ∧ wx.cell? ⟨gl, j * 7 + 5, none⟩ = some (.int .i64 y.sh) ∧ wx.cell? ⟨gl, j * 7 + 6, none⟩ = some (.int .i32 2)) := fun wx hl => by
              have a1 := (HL3.out.lot j hjn).lays hl.below
              rw [← hy] at a1
              have a3 := HB3.out.keep (Keep.ofBelow hl.below) (fun h => h)
              have a4 := (hl.below.block hb (lt_of_block HH3.out)).trans HH3.out
              exact ⟨⟨cell_blk a3 rfl, cell_blk a4 rfl, cell_blk a4 rfl, cell_blk a4 rfl⟩, a1.c0, a1.c1, a1.c2, a1.c3, a1.c4, a1.c5, a1.c6⟩
            have CH : Hid (∀ wx, Lays W3 wx → Calls Ybaf.prog 18 #[.agg #[.string (nm y.acc), .string (nm y.ag), .string (fdn y.fd), .int .i32 y.reg, .string (nm y.id), .int .i64 y.sh, .int .i32 2]] wx fun e w' => e = .returned (.agg #[.string (nm y.acc), .string (nm y.ag), .string (fdn y.fd)]) ∧ Lays W3 w') := fun wx hl => (holding_any _ _ _ _ _ _ _ wx).mono fun _ _ ⟨he, h⟩ => ⟨he, hl.trans h⟩
            clear hy
            have d1 : decide ((j : Int) < (L.length : Int)) = true := by simpa using hjn
            have xj := fun wx => idx41z (b := gl) (c := cl) hjn wx
            have heq := fun wx => eqHb y.acc y.ag x.acc x.ag y.fd x.fd wx
            go_upto_region 5 with fail
            go_cut [51] (fun v wx => v = .bool (decide (y.acc = x.acc ∧ y.ag = x.ag ∧ y.fd = x.fd)) ∧ Lays W3 wx)
            case first =>
              go_region_held3 (fun wx => (wx.cell? ⟨B, 0, none⟩ = some (.slice (some ⟨gl, 0, none⟩) L.length cl) ∧ wx.cell? ⟨hb, 0, none⟩ = some (.string (nm x.acc)) ∧ wx.cell? ⟨hb, 1, none⟩ = some (.string (nm x.ag)) ∧ wx.cell? ⟨hb, 2, none⟩ = some (.string (fdn x.fd))) ∧ wx.cell? ⟨gl, j * 7, none⟩ = some (.string (nm y.acc)) ∧ wx.cell? ⟨gl, j * 7 + 1, none⟩ = some (.string (nm y.ag)) ∧ wx.cell? ⟨gl, j * 7 + 2, none⟩ = some (.string (fdn y.fd)) ∧ wx.cell? ⟨gl, j * 7 + 3, none⟩ = some (.int .i32 y.reg) ∧ wx.cell? ⟨gl, j * 7 + 4, none⟩ = some (.string (nm y.id)) ∧ wx.cell? ⟨gl, j * 7 + 5, none⟩ = some (.int .i64 y.sh) ∧ wx.cell? ⟨gl, j * 7 + 6, none⟩ = some (.int .i32 2))
                (exact KS.out _ (by first | assumption | exact Lays.drew (by assumption)))
                (first | (go_at_call 18; refine (CH.out _ ?_).mono ?_; (first | assumption | exact Lays.drew (by assumption)); rintro e w' ⟨rfl, hl⟩))
              go_wp2
              go_meet
              case rel => exact ⟨by simp, by assumption⟩
            obtain ⟨w7, e7⟩ : ∃ w7, w7 = wc := ⟨_, rfl⟩
            subst e7
            obtain ⟨hv, hl7⟩ := hcut
            subst hv
            have HL7 := hide hl7
            clear hl7 hlay KS CH heq b0
            by_cases hq : y.acc = x.acc ∧ y.ag = x.ag ∧ y.fd = x.fd
            · have ed : decide (y.acc = x.acc ∧ y.ag = x.ag ∧ y.fd = x.fd) = true := decide_eq_true hq
              have HQ : Hid (kn (lotAt L j) = kn (lotAt L i)) := by show _ = _; rw [← HX.out, ← HY.out]; exact (kn_iff y x).2 hq
              rw [ed]
              clear ed hq
              go_wp2
              go_roundw
              case rel => exact ⟨j + 1, by omega, by omega, by go_num, fun t h1 h2 => by rcases Nat.lt_succ_iff_lt_or_eq.1 h2 with h | rfl; exact HSA.out t h1 h; exact HQ.out, HL7.out⟩
              case measure => simp [intOf]; omega
            · have ed : decide (y.acc = x.acc ∧ y.ag = x.ag ∧ y.fd = x.fd) = false := decide_eq_false hq
              have HQ : Hid (¬ kn (lotAt L j) = kn (lotAt L i)) := by show ¬ _; rw [← HX.out, ← HY.out]; exact fun h => hq ((kn_iff y x).1 h)
              rw [ed]
              clear ed hq
              go_wp2
              go_meet
              case rel => exact ⟨j, rfl, ⟨hij, hj, HSA.out, fun _ => HQ.out, fun t ht => by have := HLW.out.low t ht; unfold bound at this; rwa [if_pos hlt] at this⟩, HL7.out⟩
          · have d1 : decide ((j : Int) < (L.length : Int)) = false := by simpa using hjn
            have HLAY := hide hlay
            clear hlay
            go_upto_region 5 with fail
            go_quiet (fail)
            go_wp2
            go_meet
            case rel => exact ⟨j, rfl, ⟨hij, hj, HSA.out, fun h => absurd h hjn, fun t ht => by have := HLW.out.low t ht; unfold bound at this; rwa [if_pos hlt] at this⟩, HLAY.out.drewN _⟩
      obtain ⟨W4, e4⟩ : ∃ W4, W4 = wc := ⟨_, rfl⟩
      subst e4
      obtain ⟨j, hv, hrun, hl4⟩ := hcut
      subst hv
      have HK4 : Hid (Keep (fun _ => False) W3 W4) := Keep.ofBelow hl4.below
      have hk34 : Hid (Keep (fun _ => False) wr W4) := HK3.out.trans HK4.out (fun _ _ h => h)
      have HRUN := hide hrun
      have hij := hrun.lt
      have hjn := hrun.le
      have hB4 := HB3.out.keep HK4.out (fun h => h)
      have hh4 := (hl4.below.block hb (lt_of_block HH3.out)).trans HH3.out
      have HL4 := hide (HL3.out.keep HK4.out (fun _ _ h => h))
      have b0 := cell_blk (i := 0) hB4 rfl
      have h0 := cell_blk (i := 0) hh4 rfl
      have h1 := cell_blk (i := 1) hh4 rfl
      have h2 := cell_blk (i := 2) hh4 rfl
      have HH4 := hide hh4
      have HB4 := hide hB4
      have heq := fdn_eq x.fd c
      clear hrun hl4 hB4 hh4
      by_cases hfd : x.fd = c
      · have ed : decide (x.fd = c) = true := decide_eq_true hfd
        have HFD := hide hfd
        clear hfd
        go_upto_block 4 with fail
        go_cut [11] (fun v wx => ∃ m : Nat, v = .int .i64 m ∧ i ≤ m ∧ m ≤ j ∧ (∀ t, i ≤ t → t < m → (lotAt L t).reg ≤ d) ∧ (m < j → d < (lotAt L m).reg) ∧ wx = W4)
        case first =>
          go_wp2
          go_loop [11] (fun v => ∃ m : Nat, v = .int .i64 m ∧ i ≤ m ∧ m ≤ j ∧ (∀ t, i ≤ t → t < m → (lotAt L t).reg ≤ d)) (fun v => j - (intOf v).toNat)
          case atStart => exact ⟨i, rfl, by omega, by omega, fun t h1 h2 => by omega⟩
          case round =>
            obtain ⟨m, rfl, him, hmj, hlo⟩ := hrel
            have HLO := hide hlo
            clear hlo
            by_cases hm : m < j
            · have d1 : decide ((m : Int) < (j : Int)) = true := by simpa using hm
              have hml : m < L.length := by omega
              have r3 := (HL4.out.lot m hml).c3
              have xm := fun wx => idx41z (b := gl) (c := cl) hml wx
              obtain ⟨rg, hrg⟩ : ∃ rg, rg = (lotAt L m).reg := ⟨_, rfl⟩
              rw [← hrg] at r3
              have HRG := hide hrg
              clear hrg
              by_cases hr : rg ≤ d
              · have d2 : decide (rg ≤ d) = true := decide_eq_true hr
                go_wp2
                go_round
                case rel => exact ⟨m + 1, by go_num, by omega, by omega, fun t h1 h2 => by rcases Nat.lt_succ_iff_lt_or_eq.1 h2 with h | rfl; exact HLO.out t h1 h; rw [← HRG.out]; exact hr⟩
                case measure => simp [intOf]; omega
              · have d2 : decide (rg ≤ d) = false := decide_eq_false hr
                go_wp2
                go_meet
                case rel => exact ⟨m, rfl, him, hmj, HLO.out, fun _ => by rw [← HRG.out]; omega, rfl⟩
            · have d1 : decide ((m : Int) < (j : Int)) = false := by simpa using hm
              go_wp2
              go_meet
              case rel => exact ⟨m, rfl, him, hmj, HLO.out, fun h => absurd h hm, rfl⟩
        obtain ⟨m, hv, him, hmj, hlo, hhi, hw⟩ := hcut
        replace hw := hw.symm
        subst hw
        subst hv
        have hS : S c d L (kn (lotAt L i)) = sumN (fun t => (lotAt L (i + t)).sh) (m - i) := HRUN.out.sum_pre HS.out (by rw [← HX.out]; exact HFD.out) him hmj hlo hhi
        have HSS := hide hS
        clear hS hlo hhi
        by_cases him' : i < m
        · obtain ⟨ve, hAll, hOwn, hvb⟩ := HLW.out.ex
          have hAll4 := hAll.keep hk34.out (fun h => h)
          have hOwn4 := hOwn.keep hk34.out (fun _ _ h => h)
          have hG4 : Glob W4 := (HG1.out.keep HLW.out.keep (fun k h => by omega)).keep hk34.out (fun _ h => h.elim)
          have hsz4 : w1.heap.size ≤ W4.heap.size := Nat.le_trans HLW.out.keep.size hk34.out.size
          have hLx : ∀ k, k < m - i → LotAt W4.drew gl (i * 7 + k * 7) (lotAt L (i + k)) := fun k hk => by
            have := HL4.out.lot (i + k) (by omega)
            rw [show (i + k) * 7 = i * 7 + k * 7 by omega] at this
            exact this.of_block rfl
          have EA := hide (each_any base E gl (i * 7) (m - i) (cl - i) ve (ents c d L (bound L i)) x.acc x.ag x.fd (fun t => (lotAt L (i + t))) W4.drew (by omega) (by unfold ents; rw [List.length_map]; have := canon_len c d L (bound L i); have := bound_le L i; omega) (hG4.keep (T := fun _ => False) ((Keep.refl _ W4).drewN 1) (fun _ h => h.elim)) hAll4 hOwn4 (by show base ≤ W4.heap.size; omega) hLx (fun k hk => HBL.out _ (getElem!_mem' (by omega))))
          have HVB := hide hvb
          have hnB : ∀ k, ve.ownBlock = some k → ¬ k = B ∧ ¬ k = hb := fun k hk => by
            obtain ⟨cur, hc⟩ := hOwn4.block hk
            refine ⟨fun e => ?_, fun e => ?_⟩
            · subst e; rw [HB4.out] at hc; cases hc
            · subst e; rw [HH4.out] at hc; cases hc
          have hbE : ¬ hb = E := fun e => by subst e; have := hAll4; unfold AllAt at this; rw [HH4.out] at this; cases this
          have KS : Hid (∀ wx, Keep (fun k => k = E ∨ some k = ve.ownBlock) W4.drew wx → (wx.cell? ⟨B, 0, none⟩ = some (.slice (some ⟨gl, 0, none⟩) L.length cl) ∧ wx.cell? ⟨hb, 0, none⟩ = some (.string (nm x.acc)) ∧ wx.cell? ⟨hb, 1, none⟩ = some (.string (nm x.ag)) ∧ wx.cell? ⟨hb, 2, none⟩ = some (.string (fdn x.fd)))) := fun wx hk => by
            have a3 : BookAt wx B _ va' f := (hk.block B (lt_of_block HB4.out) (by rintro (h | h); exact hEB h.symm; exact (hnB B h.symm).1 rfl)).trans HB4.out
            have a4 := (hk.block hb (lt_of_block HH4.out) (by rintro (h | h); exact hbE h; exact (hnB hb h.symm).2 rfl)).trans HH4.out
            exact ⟨cell_blk a3 rfl, cell_blk a4 rfl, cell_blk a4 rfl, cell_blk a4 rfl⟩
          have sl := fun wx => slice41b gl L.length cl i m him' (by omega) hcl wx
          clear hAll hOwn hvb hAll4 hOwn4 hG4 hLx hnB hbE
          go_upto_region 12 with fail
          go_cut [9] (fun _ wx => Told base E ve (emit (ents c d L (bound L i)) x.acc x.ag x.fd (sumN (fun t => (lotAt L (i + t)).sh) (m - i))) W4.drew wx)
          case first =>
            go_region_held3 (fun wx => (wx.cell? ⟨B, 0, none⟩ = some (.slice (some ⟨gl, 0, none⟩) L.length cl) ∧ wx.cell? ⟨hb, 0, none⟩ = some (.string (nm x.acc)) ∧ wx.cell? ⟨hb, 1, none⟩ = some (.string (nm x.ag)) ∧ wx.cell? ⟨hb, 2, none⟩ = some (.string (fdn x.fd))))
              (exact KS.out _ (by first | assumption | exact Keep.refl _ _))
              (first | (go_at_call 30; refine EA.out.mono ?_; rintro e w' ⟨rfl, ht⟩; have htk : Keep (fun k => k = E ∨ some k = ve.ownBlock) W4.drew w' := ht.choose_spec.2.2.2; have HT := hide ht; clear ht))
            go_wp2
            go_meet
            case rel => exact HT.out
          obtain ⟨W5, e5⟩ : ∃ W5, W5 = wc := ⟨_, rfl⟩
          subst e5
          have HN : Hid (Lw base E c d L w1 j W5) := HLW.out.each HRUN.out HS.out HSS.out (hk34.out.drewN 1) HVB.out (by rw [← HX.out]; exact hcut)
          clear hcut KS EA sl b0 h0 h1 h2
          go_wp2
          go_roundw
          case rel => exact ⟨j, by omega, rfl, HN.out⟩
          case measure => simp [intOf]; omega
        · have hmi : m = i := by omega
          have HN : Hid (Lw base E c d L w1 j W4) := HLW.out.skip HRUN.out HS.out (by rw [HSS.out, hmi, Nat.sub_self]; rfl) hk34.out
          have d3 : ¬ (i : Int) < (m : Int) := by omega
          clear hmi
          go_wp2
          go_roundw
          case rel => exact ⟨j, by omega, rfl, HN.out⟩
          case measure => simp [intOf]; omega
      · have ed : decide (x.fd = c) = false := decide_eq_false hfd
        have HN : Hid (Lw base E c d L w1 j W4) := HLW.out.skip HRUN.out HS.out (S_other (by rw [← HX.out]; exact hfd)) hk34.out
        clear hfd
        go_wp2
        go_roundw
        case rel => exact ⟨j, by omega, rfl, HN.out⟩
        case measure => simp [intOf]; omega
    · obtain rfl : i = L.length := by omega
      clear hBr hlw
      go_wp2
      go_end0
      exact ⟨rfl, HF.out _ HLW.out⟩
end Go.Proofs.YbulknisFmt
