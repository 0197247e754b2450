import Derived.Test.YbulknisFmtTri
namespace Go.Proofs.YbulknisFmt
open Go.RowKit

structure ZAt (w : World) (b o : Nat) (z : Z) : Prop where
  c0 : w.cell? ⟨b, o, none⟩ = some (.int .u8 z.acc)
  c1 : w.cell? ⟨b, o + 1, none⟩ = some (.int .u8 z.ag)
  c2 : w.cell? ⟨b, o + 2, none⟩ = some (.int .u8 z.fd)
  c3 : w.cell? ⟨b, o + 3, none⟩ = some (.int .i16 z.reg)
  c4 : w.cell? ⟨b, o + 4, none⟩ = some (.int .u8 z.id)
  c5 : w.cell? ⟨b, o + 5, none⟩ = some (.int .i32 z.sh)
  c6 : w.cell? ⟨b, o + 6, none⟩ = some (.bool z.added)
theorem ZAt.of_block {w w' : World} {b o : Nat} {z : Z} (h : ZAt w b o z) (e : w'.heap[b]? = w.heap[b]?) : ZAt w' b o z :=
  ⟨(World.cell?_of_block e).trans h.c0, (World.cell?_of_block e).trans h.c1, (World.cell?_of_block e).trans h.c2, (World.cell?_of_block e).trans h.c3, (World.cell?_of_block e).trans h.c4, (World.cell?_of_block e).trans h.c5, (World.cell?_of_block e).trans h.c6⟩
structure ZOk (z : Z) : Prop where
  acc : 0 ≤ z.acc
  ag : 0 ≤ z.ag
  fd : 0 ≤ z.fd
  id : 0 ≤ z.id
  reg : -32768 ≤ z.reg ∧ z.reg ≤ 32767
  sh : -2147483648 ≤ z.sh ∧ z.sh ≤ 2147483647
def InZ (w : World) (a : Option Addr) (n : Nat) (zs : Nat → Z) : Prop := ∀ k, k < n → ∃ b off, a = some ⟨b, off, none⟩ ∧ ZAt w b (off + k * 7) (zs k) ∧ ZOk (zs k)
theorem sizeOf43 (w : World) : (sizeOf 43).run Ybaf.prog w = .ok 7 w := by kernel_rfl
theorem idx37 {a : Option Addr} {b off n c : Nat} {k : Nat} (ha : a = some ⟨b, off, none⟩) (hk : k < n) (w : World) : (Instr.indexAt 37 (.slice a n c) (.int .i64 k)).run Ybaf.prog w = .ok (.pointer (some ⟨b, off + k * 7, none⟩)) w := by
  subst ha
  rw [run_indexAt_slice (h := by kernel_rfl), if_pos (by omega)]
  have e : Ybaf.prog.elem 37 = 43 := by kernel_rfl
  rw [e, sizeOf43]
  simp [Addr.add]
theorem InZ.sh {w : World} {a : Option Addr} {n : Nat} {zs : Nat → Z} (h : InZ w a n zs) : ∀ x ∈ baseL zs n ++ addL zs n, -2147483648 ≤ x.sh ∧ x.sh ≤ 2147483647 := fun x hx => by
  obtain ⟨t, ht, rfl⟩ := all_mem zs n x hx
  obtain ⟨_, _, _, _, h1⟩ := h t ht
  exact h1.sh
theorem InZ.shW {w : World} {a : Option Addr} {n : Nat} {zs : Nat → Z} (h : InZ w a n zs) (c : Fin 3) (d : Int) : ∀ x ∈ wantL zs c d n, -2147483648 ≤ x.sh ∧ x.sh ≤ 2147483647 := fun x hx => by
  obtain ⟨t, ht, rfl⟩ := want_mem zs c d n x hx
  obtain ⟨_, _, _, _, h1⟩ := h t ht
  exact h1.sh

/-- Where the law's last part begins: the wanted lots are sorted, got is Entitled's answer. -/
structure Q3 (w : World) (c : Fin 3) (d : Int) (n : Nat) (L : List Lot) (ve vw : Value) (wr : World) : Prop where
  own : OwnL wr w.heap.size vw L
  ent : OwnE wr w.heap.size ve (ents c d L 48)
  sorted : Sorted L
  all : ∀ x ∈ L, x.fd = c ∧ x.reg ≤ d
  sh : ∀ x ∈ L, -2147483648 ≤ x.sh ∧ x.sh ≤ 2147483647
  len : L.length ≤ 1024
  keep : Keep (fun _ => False) w wr

set_option maxHeartbeats 8000000 in
set_option maxRecDepth 100000 in
theorem law_any (a0 : Option Addr) (n c0 : Nat) (cd d : Int) (zs : Nat → Z) (w : World) (hn : n ≤ 1024) (hz : InZ w a0 n zs) (hcd : 0 ≤ cd) (hd : -32768 ≤ d) (hd' : d ≤ 32767) (hgl : Glob w) (h5 : 5 ≤ w.heap.size) :
    Calls Ybaf.prog 5 #[.slice a0 n c0, .int .u8 cd, .int .i16 d] w fun e w' => e = .returned (.bool true) ∧ Below w.heap.size w w' := by
  have BF := hide (fun wx => bfund_any cd wx hcd)
  obtain ⟨c, hc⟩ : ∃ c, c = fundOf cd := ⟨_, rfl⟩
  rw [← hc] at BF
  have hwd : IntKind.i32.wrap d = d := by simp [IntKind.wrap, IntKind.signed, IntKind.bits]; omega
  have HZ := hide hz
  have HG := hide hgl
  clear hc hz hgl
  go_enter Ybaf.func5, Ybaf.ntmps5
  go_upto_block 0 with (go_at_call 11; refine (BF.out _).mono ?_; rintro e w' ⟨rfl, hw⟩; replace hw := hw.symm; subst hw)
  go_cut [9, 10, 11] (fun vb va vw wx => Tri w (baseL zs n) (addL zs n) (wantL zs c d n) vb va vw wx)
  case first =>
    go_wp2
    go_loopw [9, 10, 11, 13, 14, 33] (fun vb va vw _ _ i wr => ∃ k : Nat, k ≤ n ∧ i = .int .i64 k ∧ Tri w (baseL zs k) (addL zs k) (wantL zs c d k) vb va vw wr) (fun _ _ _ _ _ i _ => n - (intOf i).toNat)
    case atStart => exact ⟨0, by omega, rfl, Tri.start w⟩
    case round =>
      obtain ⟨k, hk, rfl, hj⟩ := hrel
      have HJ := hide hj
      by_cases hlt : k < n
      · obtain ⟨b, off, ha, hza, hzo⟩ := HZ.out k hlt
        have hidx := fun wx => idx37 (c := c0) ha hlt wx
        have hzr := hza.of_block (hj.keep.block b (World.block_lt_of_cell? _ _ hza.c0) (fun h => h))
        obtain ⟨vbA, vbC, hvb, hb1, hb2, _⟩ := hj.b.form
        obtain ⟨vaA, vaC, hva, ha1, ha2, _⟩ := hj.a.form
        obtain ⟨vwA, vwC, hvw, hw1, hw2, _⟩ := hj.wt.form
        have hll := lens zs k
        have hwl := want_len zs c d k
        subst hvb
        subst hva
        subst hvw
        have HZO := hide hzo
        obtain ⟨p0, p1, p2, p3, p4, p5, p6⟩ := hzr
        clear ha hza hzo hj
        obtain ⟨z, hzz⟩ : ∃ z, z = zs k := ⟨_, rfl⟩
        rw [← hzz] at p0 p1 p2 p3 p4 p5 p6 HZO
        have HZZ := hide hzz
        clear hzz
        obtain ⟨x, hx⟩ : ∃ x, x = lotOf z := ⟨_, rfl⟩
        have ex1 : x.reg = z.reg := by rw [hx]; rfl
        have ex2 : x.sh = z.sh := by rw [hx]; rfl
        have N1 : Hid (∀ wx, Calls Ybaf.prog 12 #[.int .u8 z.acc] wx fun e w' => e = .returned (.string (nm x.acc)) ∧ w' = wx) := fun wx => by rw [hx]; exact bname_any z.acc wx HZO.out.acc
        have N2 : Hid (∀ wx, Calls Ybaf.prog 12 #[.int .u8 z.ag] wx fun e w' => e = .returned (.string (nm x.ag)) ∧ w' = wx) := fun wx => by rw [hx]; exact bname_any z.ag wx HZO.out.ag
        have N3 : Hid (∀ wx, Calls Ybaf.prog 11 #[.int .u8 z.fd] wx fun e w' => e = .returned (.string (fdn x.fd)) ∧ w' = wx) := fun wx => by rw [hx]; exact bfund_any z.fd wx HZO.out.fd
        have N4 : Hid (∀ wx, Calls Ybaf.prog 12 #[.int .u8 z.id] wx fun e w' => e = .returned (.string (nm x.id)) ∧ w' = wx) := fun wx => by rw [hx]; exact bname_any z.id wx HZO.out.id
        have N5 : Hid (∀ wx, Calls Ybaf.prog 13 #[.int .i64 x.sh, .int .i64 2] wx fun e w' => e = .returned (.agg #[.int .i64 x.sh, .int .i32 2]) ∧ w' = wx.alloc (.cells #[.int .i64 x.sh, .int .i32 2] 45)) := fun wx => new_exact x.sh wx
        have HXX := hide hx
        have br := HZO.out.reg
        have bs := HZO.out.sh
        rw [← ex1] at p3 br
        rw [← ex2] at p5 bs
        have wr1 : IntKind.i32.wrap x.reg = x.reg := by simp [IntKind.wrap, IntKind.signed, IntKind.bits]; omega
        have wr2 : IntKind.i64.wrap x.sh = x.sh := by simp [IntKind.wrap, IntKind.signed, IntKind.bits]; omega
        have EX := hide (And.intro ex1 ex2)
        have EXX : Hid (x = lotOf (zs k)) := by show _ = _; rw [hx, HZZ.out]
        have EZA : Hid (z.added = (zs k).added) := by show _ = _; rw [HZZ.out]
        clear hx ex1 ex2
        go_upto_region 9 with fail
        obtain ⟨zb, ezb⟩ : ∃ zb, zb = wr.heap.size := ⟨_, rfl⟩
        have hz8 : (wr.alloc (.cells #[.int .u8 z.acc, .int .u8 z.ag, .int .u8 z.fd, .int .i16 x.reg, .int .u8 z.id, .int .i32 x.sh, .bool z.added] 43)).heap[zb]? = some (.cells #[.int .u8 z.acc, .int .u8 z.ag, .int .u8 z.fd, .int .i16 x.reg, .int .u8 z.id, .int .i32 x.sh, .bool z.added] 43) := by rw [ezb]; exact heap_alloc_new _ _
        have hk8 : Keep (fun _ => False) wr (wr.alloc (.cells #[.int .u8 z.acc, .int .u8 z.ag, .int .u8 z.fd, .int .i16 x.reg, .int .u8 z.id, .int .i32 x.sh, .bool z.added] 43)) := (Keep.refl _ wr).alloc _
        obtain ⟨W8, e8⟩ : ∃ W8, W8 = wr.alloc (.cells #[.int .u8 z.acc, .int .u8 z.ag, .int .u8 z.fd, .int .i16 x.reg, .int .u8 z.id, .int .i32 x.sh, .bool z.added] 43) := ⟨_, rfl⟩
        rw [← e8] at hz8 hk8 ⊢
        rw [← ezb]
        have HZ8 := hide hz8
        have HK8 := hide hk8
        have z0 := cell_blk (i := 0) hz8 rfl
        have z1 := cell_blk (i := 1) hz8 rfl
        have z2 := cell_blk (i := 2) hz8 rfl
        have z3 := cell_blk (i := 3) hz8 rfl
        have z4 := cell_blk (i := 4) hz8 rfl
        have z5 := cell_blk (i := 5) hz8 rfl
        have zl8 := lt_of_block hz8
        have zn1 : ¬ W8.heap.size = zb := by omega
        have zn2 : ¬ W8.heap.size + 1 = zb := by omega
        clear hz8 hk8 e8 ezb p0 p1 p2 p3 p4 p5 p6 hidx
        go_cut [14] (fun v wx => ∃ lb, v = .pointer (some ⟨lb, 0, none⟩) ∧ wx.heap[lb]? = some (.cells #[.string (nm x.acc), .string (nm x.ag), .string (fdn x.fd), .int .i32 x.reg, .string (nm x.id), .int .i64 x.sh, .int .i32 2] 48 (0, 0)) ∧ W8.heap.size ≤ lb ∧ Keep (fun _ => False) W8 wx)
        case first =>
          go_region_held3 (fun wx => wx.cell? ⟨zb, 0, none⟩ = some (.int .u8 z.acc) ∧ wx.cell? ⟨zb, 1, none⟩ = some (.int .u8 z.ag) ∧ wx.cell? ⟨zb, 2, none⟩ = some (.int .u8 z.fd) ∧ wx.cell? ⟨zb, 3, none⟩ = some (.int .i16 x.reg) ∧ wx.cell? ⟨zb, 4, none⟩ = some (.int .u8 z.id) ∧ wx.cell? ⟨zb, 5, none⟩ = some (.int .i32 x.sh)) (go_keep)
            (first | (go_at_call_of 12 (Value.int .u8 z.acc); refine (N1.out _).mono ?_; rintro e w' ⟨rfl, rfl⟩)
                   | (go_at_call_of 12 (Value.int .u8 z.ag); refine (N2.out _).mono ?_; rintro e w' ⟨rfl, rfl⟩)
                   | (go_at_call 11; refine (N3.out _).mono ?_; rintro e w' ⟨rfl, rfl⟩)
                   | (go_at_call_of 12 (Value.int .u8 z.id); refine (N4.out _).mono ?_; rintro e w' ⟨rfl, rfl⟩)
                   | (go_at_call 13; refine (N5.out _).mono ?_; rintro e w' ⟨rfl, rfl⟩))
          all_goals
            go_wp2
            go_meet
            case rel =>
              first
              | exact ⟨W8.heap.size, rfl, (Below.heap_alloc _ _ _ (by simp)).trans (heap_alloc_new _ _), Nat.le_refl _, (((Keep.refl _ W8).alloc _).alloc _).drewN 1⟩
              | exact ⟨W8.heap.size + 1, rfl, heap_alloc2_new W8 _ _, Nat.le_succ _, (((Keep.refl _ W8).alloc _).alloc _).drewN 1⟩
        obtain ⟨W9, e9⟩ : ∃ W9, W9 = wc := ⟨_, rfl⟩
        subst e9
        obtain ⟨lb, hv, hlot, hlb, hk9⟩ := hcut
        subst hv
        have hz9 := (hk9.block zb zl8 (fun h => h)).trans HZ8.out
        have z6 := cell_blk (i := 6) hz9 rfl
        have hk9' : Keep (fun _ => False) wr W9 := HK8.out.trans hk9 (fun _ _ h => h)
        have HT9 : Hid (Tri w (baseL zs k) (addL zs k) (wantL zs c d k) (.slice vbA (baseL zs k).length vbC) (.slice vaA (addL zs k).length vaC) (.slice vwA (wantL zs c d k).length vwC) W9) := HJ.out.keep0 hk9'
        have HLOT := hide hlot
        have q0 := cell_blk (i := 0) hlot rfl
        have q1 := cell_blk (i := 1) hlot rfl
        have q2 := cell_blk (i := 2) hlot rfl
        have q3 := cell_blk (i := 3) hlot rfl
        have q4 := cell_blk (i := 4) hlot rfl
        have q5 := cell_blk (i := 5) hlot rfl
        have q6 := cell_blk (i := 6) hlot rfl
        have hs8 := HK8.out.size
        have hsk := HJ.out.keep.size
        have hs9 := hk9'.size
        have hlb9 := lt_of_block hlot
        have hlbn : Hid (∀ (v : Value) (L : List Lot), OwnL wr w.heap.size v L → v.ownBlock ≠ some lb) := fun v L ho e => by have := (ho.lt lb e).2; omega
        obtain ⟨i0, hi0, hz0, hz1, hz2⟩ := info_parts info48
        obtain ⟨LB, eLB⟩ : ∃ LB, LB = baseL zs k := ⟨_, rfl⟩
        obtain ⟨LA, eLA⟩ : ∃ LA, LA = addL zs k := ⟨_, rfl⟩
        obtain ⟨LW, eLW⟩ : ∃ LW, LW = wantL zs c d k := ⟨_, rfl⟩
        rw [← eLB, ← eLA] at hll
        rw [← eLB, ← eLA, ← eLW] at HT9 HJ ⊢
        rw [← eLW] at hwl
        have HB1 : Hid (baseL zs (k + 1) = if z.added then LB else LB ++ [x]) := by show _ = _; rw [eLB, EXX.out, EZA.out]; rfl
        have HA1 : Hid (addL zs (k + 1) = if z.added then LA ++ [x] else LA) := by show _ = _; rw [eLA, EXX.out, EZA.out]; rfl
        have HW1 : Hid (wantL zs c d (k + 1) = if x.fd = c ∧ x.reg ≤ d then LW ++ [x] else LW) := by show _ = _; rw [eLW, EXX.out]; rfl
        clear hlot hk9 hk9' hz9 z0 z1 z2 z3 z4 z5 hb1 hb2 ha1 ha2 hw1 hw2 eLB eLA eLW N1 N2 N3 N4 N5 zn1 zn2
        go_upto_if 58 with fail
        go_cut [9, 10] (fun vb va wx => Tri w (baseL zs (k + 1)) (addL zs (k + 1)) LW vb va (.slice vwA LW.length vwC) wx ∧ wx.heap[lb]? = some (.cells #[.string (nm x.acc), .string (nm x.ag), .string (fdn x.fd), .int .i32 x.reg, .string (nm x.id), .int .i64 x.sh, .int .i32 2] 48 (0, 0)))
        case first =>
          by_cases had : z.added = true
          · rw [had] at z6 ⊢
            have HAD := hide had
            clear had
            go_wp2_with (at_builtin; refine wpList_append_lies _ rfl _ _ _ rfl w.heap.size 48 i0 _ 7 88 Ybaf.underlying41 hi0 hz0 hz1 hz2 rfl (by omega) (.slice vaA LA.length vaC) LA.length (flat LA) rfl (World.ownsRow.alloc HT9.out.a _) ⟨W9.heap.size, 0, none⟩ 1 1 (enc x) rfl rfl (World.news_of_block (cs := #[.string (nm x.acc), .string (nm x.ag), .string (fdn x.fd), .int .i32 x.reg, .string (nm x.id), .int .i64 x.sh, .int .i32 2]) (t := 48) (fr := (0, 0)) (heap_alloc_new W9 _)) (flat_one x) (by omega) (by unfold maxLen; omega) (by omega) (by simp; omega) (W9.heap.size + 1) (by simp) ?_; intro g5 c5 w5 hown5 hgrow5 hat5 hlt5; have hk5 : Keep (fun k => some k = (Value.ownBlock (.slice vaA LA.length vaC))) W9 w5 := ((Keep.refl _ W9).alloc _).trans (Keep.ofGrown hgrow5) (fun _ _ h => h); have H5 := hide (And.intro hown5 (And.intro hk5 hat5)); clear hown5 hgrow5 hat5 hlt5 hk5)
            go_meet
            case rel =>
              obtain ⟨hown5, hk5, hat5⟩ := H5.out
              have hO5 : OwnL w5 w.heap.size (.slice (some ⟨g5, 0, none⟩) (LA.length + 1) c5) (LA ++ [x]) := by unfold OwnL; rw [flat_app, List.length_append]; exact hown5
              have hT5 := Tri.app (HT9.out.rot) hk5 hO5 (by rcases hat5 with h | h; exact .inl h.symm; exact .inr ⟨g5, rfl, by omega⟩)
              have hl5 := (hk5.block lb (lt_of_block HLOT.out) (fun e => hlbn.out _ _ (by first | exact HJ.out.a | exact HJ.out.b) e.symm)).trans HLOT.out
              rw [HB1.out, HA1.out, if_pos HAD.out, if_pos HAD.out]
              exact ⟨hT5.rot.rot, hl5⟩
          · have had' : z.added = false := by simpa using had
            rw [had'] at z6 ⊢
            have HAD := hide had
            clear had had'
            go_wp2_with (at_builtin; refine wpList_append_lies _ rfl _ _ _ rfl w.heap.size 48 i0 _ 7 88 Ybaf.underlying41 hi0 hz0 hz1 hz2 rfl (by omega) (.slice vbA LB.length vbC) LB.length (flat LB) rfl (World.ownsRow.alloc HT9.out.b _) ⟨W9.heap.size, 0, none⟩ 1 1 (enc x) rfl rfl (World.news_of_block (cs := #[.string (nm x.acc), .string (nm x.ag), .string (fdn x.fd), .int .i32 x.reg, .string (nm x.id), .int .i64 x.sh, .int .i32 2]) (t := 48) (fr := (0, 0)) (heap_alloc_new W9 _)) (flat_one x) (by omega) (by unfold maxLen; omega) (by omega) (by simp; omega) (W9.heap.size + 1) (by simp) ?_; intro g5 c5 w5 hown5 hgrow5 hat5 hlt5; have hk5 : Keep (fun k => some k = (Value.ownBlock (.slice vbA LB.length vbC))) W9 w5 := ((Keep.refl _ W9).alloc _).trans (Keep.ofGrown hgrow5) (fun _ _ h => h); have H5 := hide (And.intro hown5 (And.intro hk5 hat5)); clear hown5 hgrow5 hat5 hlt5 hk5)
            go_meet
            case rel =>
              obtain ⟨hown5, hk5, hat5⟩ := H5.out
              have hO5 : OwnL w5 w.heap.size (.slice (some ⟨g5, 0, none⟩) (LB.length + 1) c5) (LB ++ [x]) := by unfold OwnL; rw [flat_app, List.length_append]; exact hown5
              have hT5 := Tri.app (HT9.out) hk5 hO5 (by rcases hat5 with h | h; exact .inl h.symm; exact .inr ⟨g5, rfl, by omega⟩)
              have hl5 := (hk5.block lb (lt_of_block HLOT.out) (fun e => hlbn.out _ _ (by first | exact HJ.out.a | exact HJ.out.b) e.symm)).trans HLOT.out
              rw [HB1.out, HA1.out, if_neg HAD.out, if_neg HAD.out]
              exact ⟨hT5, hl5⟩
        obtain ⟨W10, e10⟩ : ∃ W10, W10 = wc := ⟨_, rfl⟩
        subst e10
        have HT10 := hide hcut.1
        have hlot10 := hcut.2
        clear hcut q0 q1 q2 q3 q4 q5 q6 z6
        have q0 := cell_blk (i := 0) hlot10 rfl
        have q1 := cell_blk (i := 1) hlot10 rfl
        have q2 := cell_blk (i := 2) hlot10 rfl
        have q3 := cell_blk (i := 3) hlot10 rfl
        have q4 := cell_blk (i := 4) hlot10 rfl
        have q5 := cell_blk (i := 5) hlot10 rfl
        have q6 := cell_blk (i := 6) hlot10 rfl
        have hs10 := HT10.out.keep.size
        have heq := fdn_eq x.fd c
        clear hlot10
        by_cases hq : x.fd = c
        · have ed : decide (x.fd = c) = true := decide_eq_true hq
          by_cases hr : x.reg ≤ d
          · have d2 : decide (x.reg ≤ d) = true := decide_eq_true hr
            have HQ : Hid (x.fd = c ∧ x.reg ≤ d) := ⟨hq, hr⟩
            clear hq hr
            go_wp2_with (at_builtin; refine wpList_append_lies _ rfl _ _ _ rfl w.heap.size 48 i0 _ 7 88 Ybaf.underlying41 hi0 hz0 hz1 hz2 rfl (by omega) (.slice vwA LW.length vwC) LW.length (flat LW) rfl (World.ownsRow.alloc HT10.out.wt _) ⟨W10.heap.size, 0, none⟩ 1 1 (enc x) rfl rfl (World.news_of_block (cs := #[.string (nm x.acc), .string (nm x.ag), .string (fdn x.fd), .int .i32 x.reg, .string (nm x.id), .int .i64 x.sh, .int .i32 2]) (t := 48) (fr := (0, 0)) (heap_alloc_new W10 _)) (flat_one x) (by omega) (by unfold maxLen; omega) (by omega) (by simp; omega) (W10.heap.size + 1) (by simp) ?_; intro g5 c5 w5 hown5 hgrow5 hat5 hlt5; have hk5 : Keep (fun k => some k = (Value.ownBlock (.slice vwA LW.length vwC))) W10 w5 := ((Keep.refl _ W10).alloc _).trans (Keep.ofGrown hgrow5) (fun _ _ h => h); have H5 := hide (And.intro hown5 (And.intro hk5 hat5)); clear hown5 hgrow5 hat5 hlt5 hk5)
            go_roundw
            case rel =>
              obtain ⟨hown5, hk5, hat5⟩ := H5.out
              have hO5 : OwnL w5 w.heap.size (.slice (some ⟨g5, 0, none⟩) (LW.length + 1) c5) (LW ++ [x]) := by unfold OwnL; rw [flat_app, List.length_append]; exact hown5
              have hT5 := Tri.app HT10.out.rot.rot hk5 hO5 (by rcases hat5 with h | h; exact .inl h.symm; exact .inr ⟨g5, rfl, by omega⟩)
              exact ⟨k + 1, by omega, by go_num, by rw [HW1.out, if_pos HQ.out]; exact hT5.rot⟩
            case measure => simp [intOf]; omega
          · have d2 : decide (x.reg ≤ d) = false := decide_eq_false hr
            have HQ : Hid (¬ (x.fd = c ∧ x.reg ≤ d)) := fun h => hr h.2
            clear hq hr
            go_wp2
            go_roundw
            case rel => exact ⟨k + 1, by omega, by go_num, by rw [HW1.out, if_neg HQ.out]; exact HT10.out⟩
            case measure => simp [intOf]; omega
        · have ed : decide (x.fd = c) = false := decide_eq_false hq
          have HQ : Hid (¬ (x.fd = c ∧ x.reg ≤ d)) := fun h => hq h.1
          clear hq
          go_wp2
          go_roundw
          case rel => exact ⟨k + 1, by omega, by go_num, by rw [HW1.out, if_neg HQ.out]; exact HT10.out⟩
          case measure => simp [intOf]; omega
      · obtain rfl : k = n := by omega
        clear hj
        go_wp2
        go_meet
        case rel => exact HJ.out
  obtain ⟨W1, e1⟩ : ∃ W1, W1 = wc := ⟨_, rfl⟩
  subst e1
  have hll := lens zs n
  have hwl := want_len zs c d n
  obtain ⟨vaA, vaC, hva, _, _, _⟩ := hcut.a.form
  obtain ⟨vbA, vbC, hvb, _, _, _⟩ := hcut.b.form
  obtain ⟨vwA, vwC, hvw, _, _, _⟩ := hcut.wt.form
  subst hva
  subst hvb
  subst hvw
  have NB := hide (newBook_any w.heap.size _ _ W1 (by omega) hcut.b)
  have HT1 := hide hcut
  have hs1 := hcut.keep.size
  clear hcut hwd
  go_upto_block 2 with (go_at_call 14; refine NB.out.mono ?_; rintro e w2 ⟨B, L1, rfl, hp⟩)
  obtain ⟨hB, hp1, hso, ho1, hbk, hkp⟩ := hp
  have hj0 := Jb.mk (k := 0) (HT1.out.app hkp ho1 (.inl rfl)) hbk (OwnL.nil _ _) (by simp) (Apart.nil _ _ _) (Apart.nil _ _ _) (Apart.nil _ _ _)
  have HJ0 := hide hj0
  have HP1 := hide hp1
  have HSO := hide hso
  have hBw : w.heap.size ≤ B := by omega
  have hl1 : L1.length = (baseL zs n).length := hp1.length_eq
  have HL1 := hide hl1
  clear hj0 ho1 hbk hkp NB hp1 hso hl1
  obtain ⟨LA, eLA⟩ : ∃ LA, LA = addL zs n := ⟨_, rfl⟩
  obtain ⟨LW, eLW⟩ : ∃ LW, LW = wantL zs c d n := ⟨_, rfl⟩
  rw [← eLA] at hll
  rw [← eLW] at hwl
  rw [← eLA, ← eLW] at HJ0
  rw [← eLA, ← eLW]
  have ELA := hide eLA
  have ELW := hide eLW
  clear eLA eLW
  go_cut [17] (fun _ wx => ∃ v2 f, Jb w L1 LA LW (.slice vbA (baseL zs n).length vbC) (.slice vaA LA.length vaC) (.slice vwA LW.length vwC) B LA.length v2 f wx)
  case first =>
    go_wp2
    go_loopw [17, 86] (fun _ i wr => ∃ k : Nat, k ≤ LA.length ∧ i = .int .i64 k ∧ ∃ v2 f, Jb w L1 LA LW (.slice vbA (baseL zs n).length vbC) (.slice vaA LA.length vaC) (.slice vwA LW.length vwC) B k v2 f wr) (fun _ i _ => LA.length - (intOf i).toNat)
    case atStart => exact ⟨0, by omega, rfl, _, _, HJ0.out⟩
    case round =>
      clear HJ0
      obtain ⟨k, hk, rfl, v2, f, hj⟩ := hrel
      have HJ := hide hj
      by_cases hlt : k < LA.length
      · obtain ⟨ga, ca, hva, _, _, _⟩ := hj.tri.a.some (by omega)
        cases hva
        obtain ⟨x, hx⟩ : ∃ x, x = (lotAt LA k) := ⟨_, rfl⟩
        have lx' := hj.tri.a.lot k hlt
        rw [← hx] at lx'
        obtain ⟨p0, p1, p2, p3, p4, p5, p6⟩ := lx'
        have hidx := fun wx => idx41z (b := ga) (c := vaC) hlt wx
        have hka : Keep (fun _ => False) wr (wr.alloc (.cells #[.string (nm x.acc), .string (nm x.ag), .string (fdn x.fd), .int .i32 x.reg, .string (nm x.id), .int .i64 x.sh, .int .i32 2] 48)) := (Keep.refl _ wr).alloc _
        have BA := hide (bookAdd_any w.heap.size B _ v2 f (LA.take k) x (wr.alloc (.cells #[.string (nm x.acc), .string (nm x.ag), .string (fdn x.fd), .int .i32 x.reg, .string (nm x.id), .int .i64 x.sh, .int .i32 2] 48)) (by rw [List.length_take]; omega) (hj.book.keep hka (fun h => h)) (hj.own.keep hka (fun _ _ h => h)) (by have := hj.tri.keep.size; simp; omega))
        have HX := hide hx
        clear hj hka hx
        go_wp2_with (go_at_call 15; refine BA.out.mono ?_; rintro e w5 ⟨rfl, hp5⟩)
        have HP5 := hide hp5
        clear hp5 BA
        go_roundw
        case rel =>
          obtain ⟨v2', h1, h2, h3, h4⟩ := HP5.out
          rw [HX.out] at h1 h2
          exact ⟨k + 1, by omega, by go_num, v2', _, HJ.out.next hBw hlt ((Keep.refl _ wr).alloc _) h1 h2 (by rw [HX.out] at h3; exact h3) (by rw [HX.out] at h4; exact h4)⟩
        case measure => simp [intOf]; omega
      · obtain rfl : k = LA.length := by omega
        clear hj
        go_wp2
        go_meet
        case rel => exact ⟨_, _, HJ.out⟩
  obtain ⟨W3, e3⟩ : ∃ W3, W3 = wc := ⟨_, rfl⟩
  subst e3
  obtain ⟨v2, f, hj⟩ := hcut
  have hown := hj.own
  have hfst := hj.fst
  rw [List.take_length] at hown hfst
  have hs3 := hj.tri.keep.size
  have hbd : ∀ y ∈ L1 ++ LA, -2147483648 ≤ y.sh ∧ y.sh ≤ 2147483647 := fun y hy => HZ.out.sh y (by
    rw [← ELA.out]
    rcases List.mem_append.1 hy with h | h
    · exact List.mem_append_left _ (HP1.out.mem_iff.1 h)
    · exact List.mem_append_right _ h)
  have ET := hide (entitled_any w.heap.size B _ v2 f d c W3 L1 LA (by rw [HL1.out]; omega) hj.book hj.tri.b hown hj.ab.symm HSO.out hs3 h5 (by omega) (HG.out.keep hj.tri.keep (fun _ h => h.elim)) hbd hd hd')
  have HJ := hide hj
  have HF := hide hfst
  clear hj hown hfst hbd HJ0
  go_upto_region 23 with (go_at_call 16; refine ET.out.mono ?_; rintro e w4 ⟨ve, rfl, hg⟩)
  obtain ⟨Lg, hE4, hdis, hK4⟩ := hg
  have hT4 := HJ.out.done hBw hK4
  have SL := hide (sortLots_any w.heap.size _ LW w4 (by omega) hT4.wt)
  have H4 := hide (And.intro hE4 (And.intro hdis hT4))
  clear ET hE4 hdis hK4 hT4
  go_upto_block 4 with (go_at_call 17; refine SL.out.mono ?_; rintro e w5 ⟨rfl, hp⟩)
  obtain ⟨L, hp2, hso2, hO5, hg5⟩ := hp
  have hQ : Q3 w c d n L ve (.slice vwA LW.length vwC) w5 := by
    obtain ⟨hE4, hdis, hT4⟩ := H4.out
    rw [ELW.out] at hp2
    have hS := want_got zs n c d f L1 Lg L HP1.out hp2 (by rw [← ELA.out]; exact HF.out) (by rw [← ELA.out]; exact hdis)
    refine ⟨hO5, ?_, hso2, fun y hy => want_all zs c d n y (hp2.mem_iff.1 hy), fun y hy => HZ.out.shW c d y (hp2.mem_iff.1 hy), ?_, hT4.keep.trans (Keep.ofGrown hg5) (fun k hk e => by have := (hT4.wt.lt k e.symm).1; omega)⟩
    · have e : ents c d L 48 = ents c d Lg 48 := by unfold ents; rw [canon_congr hS]
      rw [e]
      exact hE4.keep (Keep.ofGrown hg5) (fun k hk e => hE4.neL hT4.wt k hk e.symm)
    · rw [hp2.length_eq, ← ELW.out]; omega
  have hl2 : LW.length = L.length := hp2.length_eq.symm
  rw [hl2] at hQ ⊢
  obtain ⟨veA, veC, hve⟩ := hQ.ent.form
  subst hve
  have hLn := hQ.len
  have HQ := hide hQ
  clear hQ hp2 hso2 hO5 hg5 hl2 H4 SL HF HJ HP1 HSO HL1 ELA ELW HT1 HZ HG BF hll hwl
  go_cut [19] (fun v wx => v = .int .i64 (ents c d L 48).length ∧ Keep (fun _ => False) w5 wx)
  case first =>
    go_wp2
    go_loopw [19, 20, 21, 22, 23] (fun v19 v20 _ _ _ wr => ∃ i : Nat, i ≤ L.length ∧ v20 = .int .i64 i ∧ v19 = .int .i64 (ents c d L (bound L i)).length ∧ (∀ t, t < i → kn (lotAt L t) < bound L i) ∧ Keep (fun _ => False) w5 wr) (fun _ i _ _ _ _ => L.length - (intOf i).toNat)
    case atStart => exact ⟨0, by omega, rfl, by unfold ents; rw [canon_start c d HQ.out.sorted]; rfl, fun t ht => by omega, Keep.refl _ _⟩
    case round =>
      obtain ⟨i, hi, rfl, rfl, hlow, hkr⟩ := hrel
      have HLOW := hide hlow
      have HKR := hide hkr
      obtain ⟨K, eK⟩ : ∃ K, K = (ents c d L (bound L i)).length := ⟨_, rfl⟩
      rw [← eK]
      have EK := hide eK
      clear hlow eK
      obtain ⟨WR, eWR⟩ : ∃ WR, WR = wr := ⟨_, rfl⟩
      subst eWR
      by_cases hlt : i < L.length
      · obtain ⟨gw, cw, hv, _, _, _⟩ := HQ.out.own.some (by omega)
        cases hv
        have hOr := HQ.out.own.keep hkr (fun _ _ h => h)
        have HOR := hide hOr
        obtain ⟨x, hx⟩ : ∃ x, x = (lotAt L i) := ⟨_, rfl⟩
        have lx' := hOr.lot i hlt
        rw [← hx] at lx'
        obtain ⟨p0, p1, p2, p3, p4, p5, p6⟩ := lx'
        have hidx := fun wx => idx41z (b := gw) (c := vwC) hlt wx
        have HX := hide hx
        clear hx hkr hOr
        go_upto_block 6 with (first | (go_at_call 18; refine (holding_any _ _ _ _ _ _ _ _).mono ?_; rintro e w2 ⟨rfl, hl2⟩) | (go_at_call 13; refine (new_exact _ _).mono ?_; rintro e w' ⟨rfl, rfl⟩))
        obtain ⟨hb, ehb⟩ : ∃ hb, hb = w2.heap.size := ⟨_, rfl⟩
        obtain ⟨sb, esb⟩ : ∃ sb, sb = hb + 1 + 1 := ⟨_, rfl⟩
        have hE : Ew WR x.acc x.ag x.fd hb sb 0 (((w2.alloc (.cells #[.string (nm x.acc), .string (nm x.ag), .string (fdn x.fd)] 56)).alloc (.cells #[.int .i64 0, .int .i32 2] 45)).alloc (.cells #[.int .i64 0, .int .i32 2] 45)) := by
          refine ⟨?_, ?_, (((Keep.ofBelow hl2.below).alloc _).alloc _).alloc _⟩
          · rw [ehb, Below.heap_alloc _ _ _ (by simp; omega), Below.heap_alloc _ _ _ (by simp), heap_alloc_new]
          · rw [esb, ehb]; exact heap_alloc3_new w2 _ _ _
        obtain ⟨W6, e6⟩ : ∃ W6, W6 = (((w2.alloc (.cells #[.string (nm x.acc), .string (nm x.ag), .string (fdn x.fd)] 56)).alloc (.cells #[.int .i64 0, .int .i32 2] 45)).alloc (.cells #[.int .i64 0, .int .i32 2] 45)) := ⟨_, rfl⟩
        rw [← e6] at hE ⊢
        rw [← ehb]
        rw [← esb]
        have HE := hide hE
        have hsz2 := hl2.below.size
        have hsb : WR.heap.size ≤ sb := by omega
        have hne : hb ≠ sb := by omega
        clear hE e6 esb ehb hl2 p0 p1 p2 p3 p4 p5 p6 hidx hsz2
        go_cut [23] (fun v wx => ∃ j : Nat, v = .int .i64 j ∧ Run L i j ∧ Ew WR x.acc x.ag x.fd hb sb (sumN (fun t => (lotAt L (i + t)).sh) (j - i)) wx)
        case first =>
          go_wp2
          go_loopw [23] (fun v wx => ∃ j : Nat, i ≤ j ∧ j ≤ L.length ∧ v = .int .i64 j ∧ (∀ t, i ≤ t → t < j → kn (lotAt L t) = kn (lotAt L i)) ∧ Ew WR x.acc x.ag x.fd hb sb (sumN (fun t => (lotAt L (i + t)).sh) (j - i)) wx) (fun e _ => L.length - (intOf e).toNat)
          case atStart => exact ⟨i, Nat.le_refl _, by omega, rfl, fun t h1 h2 => by omega, by rw [Nat.sub_self]; exact HE.out⟩
          case round =>
            clear HE
            obtain ⟨j, hij, hj, rfl, hsame, hew⟩ := hrel
            have HSA := hide hsame
            have SS : Hid (sumN (fun t => (lotAt L (i + t)).sh) (j + 1 - i) = sumN (fun t => (lotAt L (i + t)).sh) (j - i) + (lotAt L j).sh) := by
              show _ = _
              rw [show j + 1 - i = (j - i) + 1 by omega]
              simp only [sumN]
              rw [show i + (j - i) = j by omega]
            have SB := hide (sumN_bound (f := fun t => (lotAt L (i + t)).sh) (n := j - i) (fun t ht => HQ.out.sh _ (getElem!_mem' (by omega))) (by omega))
            obtain ⟨s, es⟩ : ∃ s, s = sumN (fun t => (lotAt L (i + t)).sh) (j - i) := ⟨_, rfl⟩
            rw [← es] at hew SS SB
            have ES := hide es
            have HEW := hide hew
            have HOj := hide (HOR.out.keep hew.keep (fun _ _ h => h))
            clear hsame hew es
            by_cases hjn : j < L.length
            · obtain ⟨y, hy⟩ : ∃ y, y = (lotAt L j) := ⟨_, rfl⟩
              have HY := hide hy
              have BY := hide (HQ.out.sh _ (getElem!_mem' (L := L) hjn))
              rw [← hy] at BY SS
              have KS : Hid (∀ wx, Lays wr wx → (wx.cell? ⟨hb, 0, none⟩ = some (.string (nm x.acc)) ∧ wx.cell? ⟨hb, 1, none⟩ = some (.string (nm x.ag)) ∧ wx.cell? ⟨hb, 2, none⟩ = some (.string (fdn x.fd))) ∧ wx.cell? ⟨gw, j * 7, none⟩ = some (.string (nm y.acc)) ∧ wx.cell? ⟨gw, j * 7 + 1, none⟩ = some (.string (nm y.ag)) ∧ wx.cell? ⟨gw, j * 7 + 2, none⟩ = some (.string (fdn y.fd)) ∧ wx.cell? ⟨gw, j * 7 + 3, none⟩ = some (.int .i32 y.reg) ∧ wx.cell? ⟨gw, j * 7 + 4, none⟩ = some (.string (nm y.id)) ∧ wx.cell? ⟨gw, j * 7 + 5, none⟩ = some (.int .i64 y.sh) ∧ wx.cell? ⟨gw, j * 7 + 6, none⟩ = some (.int .i32 2)) := fun wx hl => by
                have a1 := (HOj.out.lot j hjn).lays hl.below
                rw [← hy] at a1
                have a4 := (HEW.out.below hl.below).hold
                exact ⟨⟨cell_blk a4 rfl, cell_blk a4 rfl, cell_blk a4 rfl⟩, a1.c0, a1.c1, a1.c2, a1.c3, a1.c4, a1.c5, a1.c6⟩
              have CH : Hid (∀ wx, Lays wr wx → Calls Ybaf.prog 18 #[.agg #[.string (nm y.acc), .string (nm y.ag), .string (fdn y.fd), .int .i32 y.reg, .string (nm y.id), .int .i64 y.sh, .int .i32 2]] wx fun e w' => e = .returned (.agg #[.string (nm y.acc), .string (nm y.ag), .string (fdn y.fd)]) ∧ Lays wr w') := fun wx hl => (holding_any _ _ _ _ _ _ _ wx).mono fun _ _ ⟨he, h⟩ => ⟨he, hl.trans h⟩
              have HLR : Hid (Lays wr wr) := Lays.refl wr
              clear hy
              have d1 : decide ((j : Int) < (L.length : Int)) = true := by simpa using hjn
              have xj := fun wx => idx41z (b := gw) (c := vwC) hjn wx
              have heq := fun wx => eqHb y.acc y.ag x.acc x.ag y.fd x.fd wx
              have hlay := HLR.out
              go_upto_region 30 with fail
              go_cut [123] (fun v wx => v = .bool (decide (y.acc = x.acc ∧ y.ag = x.ag ∧ y.fd = x.fd)) ∧ Lays wr wx)
              case first =>
                go_region_held3 (fun wx => (wx.cell? ⟨hb, 0, none⟩ = some (.string (nm x.acc)) ∧ wx.cell? ⟨hb, 1, none⟩ = some (.string (nm x.ag)) ∧ wx.cell? ⟨hb, 2, none⟩ = some (.string (fdn x.fd))) ∧ wx.cell? ⟨gw, j * 7, none⟩ = some (.string (nm y.acc)) ∧ wx.cell? ⟨gw, j * 7 + 1, none⟩ = some (.string (nm y.ag)) ∧ wx.cell? ⟨gw, j * 7 + 2, none⟩ = some (.string (fdn y.fd)) ∧ wx.cell? ⟨gw, j * 7 + 3, none⟩ = some (.int .i32 y.reg) ∧ wx.cell? ⟨gw, j * 7 + 4, none⟩ = some (.string (nm y.id)) ∧ wx.cell? ⟨gw, j * 7 + 5, none⟩ = some (.int .i64 y.sh) ∧ wx.cell? ⟨gw, j * 7 + 6, none⟩ = some (.int .i32 2))
                  (exact KS.out _ (by first | assumption | exact Lays.drew (by assumption)))
                  (first | (go_at_call 18; refine (CH.out _ ?_).mono ?_; (first | assumption | exact Lays.drew (by assumption)); rintro e w' ⟨rfl, hl⟩))
                go_wp2
                go_meet
                case rel => exact ⟨by simp, by assumption⟩
              obtain ⟨w7, e7⟩ : ∃ w7, w7 = wc := ⟨_, rfl⟩
              subst e7
              obtain ⟨hv, hl7⟩ := hcut
              subst hv
              have HL7 := hide hl7
              clear hl7 hlay KS CH heq
              by_cases hq : y.acc = x.acc ∧ y.ag = x.ag ∧ y.fd = x.fd
              · have ed : decide (y.acc = x.acc ∧ y.ag = x.ag ∧ y.fd = x.fd) = true := decide_eq_true hq
                have HQ2 : Hid (kn (lotAt L j) = kn (lotAt L i)) := by show _ = _; rw [← HX.out, ← HY.out]; exact (kn_iff y x).2 hq
                rw [ed]
                clear ed hq
                have HEW7 := hide (HEW.out.below HL7.out.below)
                have KT : Hid (∀ wx, Below w7.heap.size w7 wx → (wx.cell? ⟨sb, 0, none⟩ = some (.int .i64 s) ∧ wx.cell? ⟨sb, 1, none⟩ = some (.int .i32 2)) ∧ wx.cell? ⟨gw, j * 7 + 5, none⟩ = some (.int .i64 y.sh) ∧ wx.cell? ⟨gw, j * 7 + 6, none⟩ = some (.int .i32 2)) := fun wx hb' => by
                  have a1 := ((HOj.out.lot j hjn).lays HL7.out.below).lays hb'
                  rw [← HY.out] at a1
                  have a4 := (HEW7.out.below hb').held
                  exact ⟨⟨cell_blk a4 rfl, cell_blk a4 rfl⟩, a1.c5, a1.c6⟩
                have CA : Hid (∀ wx, Below w7.heap.size w7 wx → Calls Ybaf.prog 19 #[.agg #[.int .i64 s, .int .i32 2], .agg #[.int .i64 y.sh, .int .i32 2]] wx fun e w' => e = .returned (.agg #[.int .i64 (s + y.sh), .int .i32 2]) ∧ Below w7.heap.size w7 w') := fun wx hb' => (add_any s y.sh wx (by have := SB.out; omega) (by have := SB.out; omega) (by have := BY.out; omega) (by have := BY.out; omega)).mono fun _ _ ⟨he, h⟩ => ⟨he, hb'.trans (h.mono hb'.size)⟩
                have hbb : Below w7.heap.size w7 w7.drew := (Below.refl _ w7).drew
                go_upto_region 31 with fail
                have m0 := (KT.out w7 (Below.refl _ _)).1.1
                have m1 := (KT.out w7 (Below.refl _ _)).1.2
                have m5 := (KT.out w7 (Below.refl _ _)).2.1
                have m6 := (KT.out w7 (Below.refl _ _)).2.2
                go_region_with (go_at_call 19; refine (CA.out _ ?_).mono ?_; (first | assumption | exact Below.refl _ _); rintro e w8 ⟨rfl, hb8⟩; have e2 := (HEW7.out.below hb8).held; have t0 := cell_blk (i := 0) e2 rfl; have t1 := cell_blk (i := 1) e2 rfl; have f0 := free_blk e2 0; have f1 := free_blk e2 1; have HB8 := hide hb8; clear e2)
                all_goals try go_wp2
                all_goals
                  go_roundw
                  case rel => exact ⟨j + 1, by omega, by omega, by go_num, fun t h1 h2 => by rcases Nat.lt_succ_iff_lt_or_eq.1 h2 with h | rfl; exact HSA.out t h1 h; exact HQ2.out, by rw [SS.out]; exact HEW7.out.next HB8.out hsb hne⟩
                  case measure => simp [intOf]; omega
              · have ed : decide (y.acc = x.acc ∧ y.ag = x.ag ∧ y.fd = x.fd) = false := decide_eq_false hq
                have HQ2 : Hid (¬ kn (lotAt L j) = kn (lotAt L i)) := by show ¬ _; rw [← HX.out, ← HY.out]; exact fun h => hq ((kn_iff y x).1 h)
                rw [ed]
                clear ed hq
                go_wp2
                go_meet
                case rel => exact ⟨j, rfl, ⟨by rcases Nat.lt_or_eq_of_le hij with h | h; exact h; exact absurd (by rw [h]) HQ2.out, hj, HSA.out, fun _ => HQ2.out, fun t ht => by have := HLOW.out t ht; unfold bound at this; rwa [if_pos hlt] at this⟩, by rw [← ES.out]; exact HEW.out.below HL7.out.below⟩
            · have d1 : decide ((j : Int) < (L.length : Int)) = false := by simpa using hjn
              go_upto_region 30 with fail
              go_quiet (fail)
              go_wp2
              go_meet
              case rel => exact ⟨j, rfl, ⟨by omega, hj, HSA.out, fun h => absurd h hjn, fun t ht => by have := HLOW.out t ht; unfold bound at this; rwa [if_pos hlt] at this⟩, by rw [← ES.out]; exact HEW.out.below ((Lays.refl _).drewN _).below⟩
        obtain ⟨W7, e7⟩ : ∃ W7, W7 = wc := ⟨_, rfl⟩
        subst e7
        obtain ⟨j, hv, hrun, hew⟩ := hcut
        subst hv
        have hS := hrun.sum_all HQ.out.sorted HQ.out.all
        rw [← hS] at hew
        obtain ⟨s, es⟩ : ∃ s, s = S c d L (kn (lotAt L i)) := ⟨_, rfl⟩
        rw [← es] at hew
        have HES := hide es
        have HRUN := hide hrun
        have HEW := hide hew
        have hij := hrun.lt
        have hjn := hrun.le
        have s0 := cell_blk (i := 0) hew.held rfl
        have s1 := cell_blk (i := 1) hew.held rfl
        have SG : Hid (∀ wx, Calls Ybaf.prog 20 #[.agg #[.int .i64 s, .int .i32 2]] wx fun e w' => e = .returned (.int .i64 (cI s 0)) ∧ Lays wx w') := fun wx => sign_any _ _ wx
        clear hrun hew hS es HE
        go_upto_if 135 with (go_at_call 20; refine (SG.out _).mono ?_; rintro e w8 ⟨rfl, hl⟩)
        have HEW8 := hide (HEW.out.below hl.below)
        have sc := cI_cases s 0
        have HK8 : Hid (Keep (fun _ => False) w5 w8) := HKR.out.trans HEW8.out.keep (fun _ _ h => h)
        clear s0 s1 hl
        by_cases hz : s = 0
        · have ec : (cI s 0 != 0) = false := by simp; omega
          have HN : Hid (K = (ents c d L (bound L j)).length) := by show _ = _; rw [run_got0 HRUN.out HQ.out.sorted (by rw [← HES.out]; exact hz)]; exact EK.out
          clear hz sc
          go_wp2
          go_roundw
          case rel => exact ⟨j, by omega, rfl, by rw [HN.out], HRUN.out.low_next HQ.out.sorted, HK8.out⟩
          case measure => simp [intOf]; omega
        · have ec : (cI s 0 != 0) = true := by simp; omega
          have hgot := run_got HRUN.out HQ.out.sorted (c := c) (d := d) (by rw [← HES.out]; exact hz)
          rw [← EK.out, ← HES.out, ← HX.out] at hgot
          obtain ⟨hKN, hent, hnx⟩ := hgot
          have HNX := hide hnx
          have hE8 := HQ.out.ent.keep HK8.out (fun _ _ h => h)
          obtain ⟨ge, ce, hve, hat⟩ := hE8.at K hKN
          cases hve
          rw [hent] at hat
          obtain ⟨N, eN⟩ : ∃ N, N = (ents c d L 48).length := ⟨_, rfl⟩
          rw [← eN] at hKN ⊢
          have HEN := hide eN
          have HAT := hide hat
          have dk : decide ((N : Int) ≤ (K : Int)) = false := decide_eq_false (by omega)
          have dk' : decide (N ≤ K) = false := decide_eq_false (by omega)
          have xk := fun wx => idx52 (b := ge) (c := veC) hKN wx
          have hneq := fun wx => neHb x.acc x.ag x.fd wx
          have ecs : cI s s = 0 := by have := cI_cases s s; omega
          have KS : Hid (∀ wx, Lays w8 wx → ((wx.cell? ⟨hb, 0, none⟩ = some (.string (nm x.acc)) ∧ wx.cell? ⟨hb, 1, none⟩ = some (.string (nm x.ag)) ∧ wx.cell? ⟨hb, 2, none⟩ = some (.string (fdn x.fd))) ∧ wx.cell? ⟨sb, 0, none⟩ = some (.int .i64 s) ∧ wx.cell? ⟨sb, 1, none⟩ = some (.int .i32 2)) ∧ wx.cell? ⟨ge, K * 5, none⟩ = some (.string (nm x.acc)) ∧ wx.cell? ⟨ge, K * 5 + 1, none⟩ = some (.string (nm x.ag)) ∧ wx.cell? ⟨ge, K * 5 + 2, none⟩ = some (.string (fdn x.fd)) ∧ wx.cell? ⟨ge, K * 5 + 3, none⟩ = some (.int .i64 s) ∧ wx.cell? ⟨ge, K * 5 + 4, none⟩ = some (.int .i32 2)) := fun wx hl => by
            have a1 := HAT.out.of_block (hl.below.block ge (World.block_lt_of_cell? _ _ HAT.out.c0))
            have a4 := (HEW8.out.below hl.below).hold
            have a5 := (HEW8.out.below hl.below).held
            exact ⟨⟨⟨cell_blk a4 rfl, cell_blk a4 rfl, cell_blk a4 rfl⟩, cell_blk a5 rfl, cell_blk a5 rfl⟩, a1.c0, a1.c1, a1.c2, a1.c3, a1.c4⟩
          have CC : Hid (∀ wx, Lays w8 wx → Calls Ybaf.prog 21 #[.agg #[.int .i64 s, .int .i32 2], .agg #[.int .i64 s, .int .i32 2]] wx fun e w' => e = .returned (.int .i64 0) ∧ Lays w8 w') := fun wx hl => (cmp_any s s wx).mono fun _ _ ⟨he, h⟩ => ⟨by rw [he, ecs], hl.trans h⟩
          have hlay : Lays w8 w8 := Lays.refl w8
          clear hat hent hnx hE8 eN hz sc ecs
          go_upto_region 34 with fail
          go_cut [158] (fun v wx => v = .bool false ∧ Lays w8 wx)
          case first =>
            go_region_held3 (fun wx => ((wx.cell? ⟨hb, 0, none⟩ = some (.string (nm x.acc)) ∧ wx.cell? ⟨hb, 1, none⟩ = some (.string (nm x.ag)) ∧ wx.cell? ⟨hb, 2, none⟩ = some (.string (fdn x.fd))) ∧ wx.cell? ⟨sb, 0, none⟩ = some (.int .i64 s) ∧ wx.cell? ⟨sb, 1, none⟩ = some (.int .i32 2)) ∧ wx.cell? ⟨ge, K * 5, none⟩ = some (.string (nm x.acc)) ∧ wx.cell? ⟨ge, K * 5 + 1, none⟩ = some (.string (nm x.ag)) ∧ wx.cell? ⟨ge, K * 5 + 2, none⟩ = some (.string (fdn x.fd)) ∧ wx.cell? ⟨ge, K * 5 + 3, none⟩ = some (.int .i64 s) ∧ wx.cell? ⟨ge, K * 5 + 4, none⟩ = some (.int .i32 2))
              (exact KS.out _ (by first | assumption | exact Lays.drew (by assumption)))
              (first | (go_at_call 21; refine (CC.out _ ?_).mono ?_; (first | assumption | exact Lays.drew (by assumption)); rintro e w' ⟨rfl, hl⟩))
            all_goals
              go_wp2
              go_meet
              case rel => exact ⟨by simp, by assumption⟩
          obtain ⟨w9, e9⟩ : ∃ w9, w9 = wc := ⟨_, rfl⟩
          subst e9
          obtain ⟨hv, hl9⟩ := hcut
          subst hv
          have HK9 : Hid (Keep (fun _ => False) w5 w9) := HK8.out.trans (Keep.ofBelow hl9.below) (fun _ _ h => h)
          have hK48 : K ≤ 48 := by rw [EK.out]; unfold ents; rw [List.length_map]; exact Nat.le_trans (canon_len c d L _) (bound_le L i)
          clear hl9 hlay KS CC hneq xk dk dk'
          rw [HEN.out]
          go_wp2
          go_roundw
          case rel => exact ⟨j, by omega, rfl, by rw [HNX.out]; go_num, HRUN.out.low_next HQ.out.sorted, HK9.out⟩
          case measure => simp [intOf]; omega
      · obtain rfl : i = L.length := by omega
        clear hkr
        have e48 : Hid (bound L L.length = 48) := by show _ = _; unfold bound; rw [if_neg (by omega)]
        go_wp2
        go_meet
        case rel => exact ⟨by rw [EK.out, e48.out], HKR.out⟩
  obtain ⟨W9, e9⟩ : ∃ W9, W9 = wc := ⟨_, rfl⟩
  subst e9
  obtain ⟨hv, hk9⟩ := hcut
  subst hv
  have HK9 := hide hk9
  clear hk9
  go_wp2
  go_ret
  exact ⟨rfl, (HQ.out.keep.trans HK9.out (fun _ _ h => h)).below (Nat.le_refl _) (fun _ h => h.elim)⟩

set_option maxHeartbeats 400000 in
set_option maxRecDepth 100000 in
theorem law_long (a0 : Option Addr) (n c0 : Nat) (cd d : Int) (w : World) (h : 1024 < n) :
    Calls Ybaf.prog 5 #[.slice a0 n c0, .int .u8 cd, .int .i16 d] w fun e w' => e = .returned (.bool true) ∧ Below w.heap.size w w' := by
  go_enter Ybaf.func5, Ybaf.ntmps5
  go_wp2
  go_ret
  exact ⟨rfl, Below.refl _ _⟩
end Go.Proofs.YbulknisFmt
