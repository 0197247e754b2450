import Derived.Test.YbulknisFmtCatch
namespace Go.Proofs.YbulknisFmt
open Go.RowKit

/-- An entitlement. -/
structure Ent where
  acc : Fin 4
  ag : Fin 4
  fd : Fin 3
  sum : Int
/-- The entitlement at a place. -/
def entAt (G : List Ent) (k : Nat) : Ent := G.getD k ⟨0, 0, 0, 0⟩
def encE (e : Ent) : List Value := [.string (nm e.acc), .string (nm e.ag), .string (fdn e.fd), .int .i64 e.sum, .int .i32 2]
def flatE (G : List Ent) : List Value := G.flatMap encE
theorem flatE_app (G : List Ent) (e : Ent) : flatE (G ++ [e]) = flatE G ++ encE e := by unfold flatE; rw [List.flatMap_append]; simp
theorem encE_one (e : Ent) : ∀ v ∈ encE e, v.oneCell' = true := by intro v hv; simp [encE] at hv; rcases hv with rfl | rfl | rfl | rfl | rfl <;> rfl
def OwnE (w : World) (base : Nat) (v : Value) (G : List Ent) : Prop := w.ownsRow base 61 5 v G.length (flatE G)
theorem OwnE.keep {T : Nat → Prop} {w w' : World} {base : Nat} {v : Value} {G : List Ent} (h : OwnE w base v G) (hk : Keep T w w') (hne : ∀ k, v.ownBlock = some k → ¬ T k) : OwnE w' base v G := by
  refine ⟨h.1, ?_⟩
  rcases h.2 with h0 | ⟨g, cap, cur, rfl, h1, h2, h3⟩
  · exact .inl h0
  · exact .inr ⟨g, cap, cur, rfl, h1, (hk.block g (lt_of_block h2) (hne g rfl)).trans h2, h3⟩
theorem OwnE.block {w : World} {base : Nat} {v : Value} {G : List Ent} (h : OwnE w base v G) {k : Nat} (hk : v.ownBlock = some k) : ∃ cur, w.heap[k]? = some (.cells cur 61 (0, 0)) := by
  rcases h.2 with ⟨rfl, _⟩ | ⟨g, cap, cur, rfl, _, h2, _⟩
  · cases hk
  · cases hk; exact ⟨cur, h2⟩
theorem OwnE.lt {w : World} {base : Nat} {v : Value} {G : List Ent} (h : OwnE w base v G) : ∀ k, v.ownBlock = some k → base ≤ k ∧ k < w.heap.size := World.ownsRow.lt h
theorem OwnE.form {w : World} {base : Nat} {v : Value} {G : List Ent} (h : OwnE w base v G) : ∃ a cap, v = .slice a G.length cap := by
  rcases h.2 with ⟨rfl, h0⟩ | ⟨g, cap, cur, rfl, _⟩
  · exact ⟨none, 0, by rw [h0]⟩
  · exact ⟨_, cap, rfl⟩
/-- The captured variable. -/
def AllAt (w : World) (E : Nat) (v : Value) : Prop := w.heap[E]? = some (.cells #[v] 52 (0, 0))
theorem AllAt.keep {T : Nat → Prop} {w w' : World} {E : Nat} {v : Value} (h : AllAt w E v) (hk : Keep T w w') (ht : ¬ T E) : AllAt w' E v := (hk.block E (lt_of_block h) ht).trans h
theorem AllAt.ne {w : World} {E : Nat} {v u : Value} {base : Nat} {G : List Ent} (h : AllAt w E v) (hl : OwnE w base u G) : u.ownBlock ≠ some E := by
  intro e
  obtain ⟨cur, hc⟩ := hl.block e
  unfold AllAt at h
  rw [h] at hc
  cases hc
theorem info61 : (Ybaf.prog.info? 61).map (fun i => (i.zero, i.size, i.bytes)) = some (some (.agg #[.string ⟨#[]⟩, .string ⟨#[]⟩, .string ⟨#[]⟩, .int .i64 0, .int .i32 0]), 5, 64) := by kernel_rfl

/-- The two package-level variables that the road reads. -/
structure Glob (w : World) : Prop where
  n0 : w.cell? ⟨0, 0, none⟩ = some (.int .i64 0)
  n1 : w.cell? ⟨0, 1, none⟩ = some (.int .i32 2)
  m0 : w.cell? ⟨4, 0, none⟩ = some (.int .i64 99999999999999)
  m1 : w.cell? ⟨4, 1, none⟩ = some (.int .i32 2)
theorem Glob.keep {T : Nat → Prop} {w w' : World} (h : Glob w) (hk : Keep T w w') (ht : ∀ k, T k → 5 ≤ k) : Glob w' := by
  have b0 := World.block_lt_of_cell? _ _ h.n0
  have b4 := World.block_lt_of_cell? _ _ h.m0
  have e0 := hk.block 0 b0 (fun hT => by have := ht _ hT; omega)
  have e4 := hk.block 4 b4 (fun hT => by have := ht _ hT; omega)
  exact ⟨(World.cell?_of_block e0).trans h.n0, (World.cell?_of_block e0).trans h.n1, (World.cell?_of_block e4).trans h.m0, (World.cell?_of_block e4).trans h.m1⟩

theorem sumN_bound {f : Nat → Int} {n : Nat} (h : ∀ t, t < n → -2147483648 ≤ f t ∧ f t ≤ 2147483647) (hn : n ≤ 1024) : -2199023255552 ≤ sumN f n ∧ sumN f n ≤ 2199023255552 := by
  have : ∀ m, m ≤ n → -2147483648 * (m : Int) ≤ sumN f m ∧ sumN f m ≤ 2147483648 * (m : Int) := by
    intro m
    induction m with
    | zero => intro _; simp [sumN]
    | succ m ih => intro hm; have a := ih (by omega); have b := h m (by omega); simp only [sumN]; omega
  have := this n (Nat.le_refl _)
  omega

/-- What one holding adds. -/
def emit (G : List Ent) (a g : Fin 4) (fd : Fin 3) (s : Int) : List Ent := if s = 0 then G else G ++ [⟨a, g, fd, s⟩]
/-- What the closure leaves. -/
def Told (base E : Nat) (ve : Value) (G' : List Ent) (w w' : World) : Prop :=
  ∃ ve', AllAt w' E ve' ∧ OwnE w' base ve' G' ∧ (ve'.ownBlock = ve.ownBlock ∨ ∃ k, ve'.ownBlock = some k ∧ w.heap.size ≤ k) ∧ Keep (fun k => k = E ∨ some k = ve.ownBlock) w w'

/-- The closure's loop: what holds at its head. -/
structure Ew (w : World) (a g : Fin 4) (fd : Fin 3) (b1 b2 : Nat) (s : Int) (wr : World) : Prop where
  hold : wr.heap[b1]? = some (.cells #[.string (nm a), .string (nm g), .string (fdn fd)] 56 (0, 0))
  held : wr.heap[b2]? = some (.cells #[.int .i64 s, .int .i32 2] 45 (0, 0))
  keep : Keep (fun _ => False) w wr
theorem Ew.next {w wr w5 : World} {a g : Fin 4} {fd : Fin 3} {b1 b2 : Nat} {s s' : Int} (h : Ew w a g fd b1 b2 s wr) (hb : Below wr.heap.size wr w5) (h1 : w.heap.size ≤ b2) (hne : b1 ≠ b2) :
    Ew w a g fd b1 b2 s' ((w5.setCell ⟨b2, 0, none⟩ (.int .i64 s')).setCell ⟨b2, 1, none⟩ (.int .i32 2)) := by
  have e2 := (hb.block b2 (lt_of_block h.held)).trans h.held
  have e1 := (hb.block b1 (lt_of_block h.hold)).trans h.hold
  refine ⟨?_, heap_set (heap_set e2 _) _, ((h.keep.trans (Keep.ofBelow hb) (fun _ _ h => h)).setCell ⟨b2, 0, none⟩ _ (.inr h1)).setCell ⟨b2, 1, none⟩ _ (.inr h1)⟩
  rw [Below.heap_setCell _ _ _ _ hne, Below.heap_setCell _ _ _ _ hne]
  exact e1

set_option maxHeartbeats 4000000 in
set_option maxRecDepth 100000 in
theorem each_any (base E b off n c : Nat) (ve : Value) (G : List Ent) (a g : Fin 4) (fd : Fin 3) (x : Nat → Lot) (w : World) (hn : n ≤ 1024) (hG : G.length ≤ 2000) (hgl : Glob w) (hall : AllAt w E ve) (ho : OwnE w base ve G) (hbase : base ≤ w.heap.size)
    (hx : ∀ k, k < n → LotAt w b (off + k * 7) (x k)) (hb : ∀ k, k < n → -2147483648 ≤ (x k).sh ∧ (x k).sh ≤ 2147483647) :
    Calls Ybaf.prog 30 #[.agg #[.string (nm a), .string (nm g), .string (fdn fd)], .slice (some ⟨b, off, none⟩) n c, .pointer (some ⟨E, 0, none⟩)] w
      fun e w' => e = .returned (.tuple #[]) ∧ Told base E ve (emit G a g fd (sumN (fun t => (x t).sh) n)) w w' := by
  have HGL := hide hgl
  have HALL := hide hall
  have HO := hide ho
  have HX := hide hx
  have HBD := hide hb
  obtain ⟨av, cv, hve⟩ := ho.form
  subst hve
  have n0 := hgl.n0
  have n1 := hgl.n1
  have hl0 : (0 : Nat) < w.heap.size := World.block_lt_of_cell? _ _ n0
  clear hgl hall ho hx hb
  go_enter Ybaf.func30, Ybaf.ntmps30
  go_upto_region 2 with fail
  obtain ⟨b1, eb1⟩ : ∃ b1, b1 = w.heap.size := ⟨_, rfl⟩
  obtain ⟨b2, eb2⟩ : ∃ b2, b2 = b1 + 1 := ⟨_, rfl⟩
  have hE : Ew w a g fd b1 b2 0 ((w.alloc (.cells #[.string (nm a), .string (nm g), .string (fdn fd)] 56)).alloc (.cells #[.int .i64 0, .int .i32 2] 45)) := by
    refine ⟨?_, ?_, ((Keep.refl _ w).alloc _).alloc _⟩
    · rw [eb1, Below.heap_alloc _ _ _ (by simp), heap_alloc_new]
    · rw [eb2, eb1]; exact heap_alloc2_new w _ _
  obtain ⟨W, eW⟩ : ∃ W, W = (w.alloc (.cells #[.string (nm a), .string (nm g), .string (fdn fd)] 56)).alloc (.cells #[.int .i64 0, .int .i32 2] 45) := ⟨_, rfl⟩
  rw [← eW] at hE ⊢
  rw [← eb1]
  rw [← eb2]
  have HE := hide hE
  have hb1 : w.heap.size ≤ b1 := by omega
  have hne : b1 ≠ b2 := by omega
  have hb2 : w.heap.size ≤ b2 := by omega
  clear hE eW eb2 eb1 n0 n1
  go_upto_block 0 with fail
  go_cut [7] (fun _ wx => Ew w a g fd b1 b2 (sumN (fun t => (x t).sh) n) wx)
  case first =>
    go_wp2
    go_loopw [7, 11] (fun _ i wr => ∃ k : Nat, k ≤ n ∧ i = .int .i64 k ∧ Ew w a g fd b1 b2 (sumN (fun t => (x t).sh) k) wr) (fun _ i _ => n - (intOf i).toNat)
    case atStart => exact ⟨0, by omega, rfl, HE.out⟩
    case round =>
      clear HE
      obtain ⟨k, hk, rfl, hew⟩ := hrel
      have HEW := hide hew
      by_cases hlt : k < n
      · have hkp := hew.keep
        have lo := (HX.out k hlt).of_block (hkp.block b (World.block_lt_of_cell? _ _ (HX.out k hlt).c0) (fun h => h))
        obtain ⟨p0, p1, p2, p3, p4, p5, p6⟩ := lo
        have hidx := fun wx => idx41 (b := b) (off := off) (c := c) hlt wx
        have s0 := cell_blk (i := 0) hew.held rfl
        have s1 := cell_blk (i := 1) hew.held rfl
        have hb2r := lt_of_block hew.held
        have hgw : Glob (wr.alloc (.cells #[.string (nm (x k).acc), .string (nm (x k).ag), .string (fdn (x k).fd), .int .i32 (x k).reg, .string (nm (x k).id), .int .i64 (x k).sh, .int .i32 2] 48)) := HGL.out.keep (hkp.alloc _) (fun _ h => h.elim)
        have bd := sumN_bound (n := k) (fun t ht => HBD.out t (by omega)) (by omega)
        have bx := HBD.out k hlt
        have AH : Hid (Calls Ybaf.prog 31 #[.agg #[.int .i64 (sumN (fun t => (x t).sh) k), .int .i32 2], .agg #[.int .i64 (x k).sh, .int .i32 2]] (wr.alloc (.cells #[.string (nm (x k).acc), .string (nm (x k).ag), .string (fdn (x k).fd), .int .i32 (x k).reg, .string (nm (x k).id), .int .i64 (x k).sh, .int .i32 2] 48)) fun e w' => e = .returned (.agg #[.int .i64 (sumN (fun t => (x t).sh) k + (x k).sh), .int .i32 2]) ∧ Below (wr.alloc (.cells #[.string (nm (x k).acc), .string (nm (x k).ag), .string (fdn (x k).fd), .int .i32 (x k).reg, .string (nm (x k).id), .int .i64 (x k).sh, .int .i32 2] 48)).heap.size (wr.alloc (.cells #[.string (nm (x k).acc), .string (nm (x k).ag), .string (fdn (x k).fd), .int .i32 (x k).reg, .string (nm (x k).id), .int .i64 (x k).sh, .int .i32 2] 48)) w') :=
          addHeld_any (sumN (fun t => (x t).sh) k) (x k).sh _ (by omega) (by omega) (by omega) (by omega) hgw.m0 hgw.m1
        have SS : Hid (sumN (fun t => (x t).sh) (k + 1) = sumN (fun t => (x t).sh) k + (x k).sh) := rfl
        clear hew hkp hgw bd bx
        generalize sumN (fun t => (x t).sh) k = sk at *
        go_wp2_with (go_at_call 31; refine AH.out.mono ?_; rintro e w5 ⟨rfl, hb5⟩; have hbb : Below wr.heap.size wr w5 := ((Below.refl _ wr).alloc (Nat.le_refl _) _).trans (hb5.mono (by simp)); have e2 := (hbb.block b2 (lt_of_block HEW.out.held)).trans HEW.out.held; have t0 := cell_blk (i := 0) e2 rfl; have t1 := cell_blk (i := 1) e2 rfl; have f0 := free_blk e2 0; have f1 := free_blk e2 1; have HBB := hide hbb; clear hbb hb5 e2)
        go_roundw
        case rel => exact ⟨k + 1, by omega, by go_num, by rw [SS.out]; exact HEW.out.next HBB.out hb2 hne⟩
        case measure => simp [intOf]; omega
      · obtain rfl : k = n := by omega
        clear hew
        go_wp2
        go_meet
        case rel => exact HEW.out
  obtain ⟨W2, e2⟩ : ∃ W2, W2 = wc := ⟨_, rfl⟩
  subst e2
  have HEW := hide hcut
  have s0 := cell_blk (i := 0) hcut.held rfl
  have s1 := cell_blk (i := 1) hcut.held rfl
  have SG : Hid (∀ wx, Calls Ybaf.prog 20 #[.agg #[.int .i64 (sumN (fun t => (x t).sh) n), .int .i32 2]] wx fun e w' => e = .returned (.int .i64 (cI (sumN (fun t => (x t).sh) n) 0)) ∧ Lays wx w') := fun wx => sign_any _ _ wx
  clear hcut HE
  generalize hsn : sumN (fun t => (x t).sh) n = sn at *
  have HSN := hide hsn
  clear hsn
  go_upto_if 22 with (go_at_call 20; refine (SG.out _).mono ?_; rintro e w6 ⟨rfl, hl⟩)
  have hk6 : Keep (fun _ => False) w w6 := HEW.out.keep.trans (Keep.ofBelow hl.below) (fun _ _ h => h)
  have hh6 := (hl.below.block b1 (lt_of_block HEW.out.hold)).trans HEW.out.hold
  have hd6 := (hl.below.block b2 (lt_of_block HEW.out.held)).trans HEW.out.held
  have ha6 := HALL.out.keep hk6 (fun h => h)
  have ho6 := HO.out.keep hk6 (fun _ _ h => h)
  have HK6 := hide hk6
  have HA6 := hide ha6
  have HO6 := hide ho6
  have sc := cI_cases sn 0
  by_cases hz : sn = 0
  · have ec : (cI sn 0 != 0) = false := by simp; omega
    have FIN : Hid (Told base E (.slice av G.length cv) (emit G a g fd sn) w w6) := by
      unfold emit
      rw [if_pos hz]
      exact ⟨_, ha6, ho6, .inl rfl, hk6.mono (fun _ _ h => h.elim)⟩
    clear hl hk6 hh6 hd6 ha6 ho6 sc hz s0 s1
    go_wp2
    go_end0
    exact ⟨rfl, by rw [HSN.out]; exact FIN.out⟩
  · have ec : (cI sn 0 != 0) = true := by simp; omega
    have q0 := cell_blk (i := 0) ha6 rfl
    have h0 := cell_blk (i := 0) hh6 rfl
    have h1 := cell_blk (i := 1) hh6 rfl
    have h2 := cell_blk (i := 2) hh6 rfl
    have d0 := cell_blk (i := 0) hd6 rfl
    have d1 := cell_blk (i := 1) hd6 rfl
    have HZ := hide hz
    have hs6 := hk6.size
    have hE6 := lt_of_block ha6
    obtain ⟨i0, hi0, hz0, hz1, hz2⟩ := info_parts info61
    clear hl hk6 hh6 hd6 ha6 ho6 sc hz s0 s1
    go_wp2_with (at_builtin; refine wpList_append_lies _ rfl _ _ _ rfl base 61 i0 _ 5 64 Ybaf.underlying52 hi0 hz0 hz1 hz2 rfl (by omega) (.slice av G.length cv) G.length (flatE G) rfl (World.ownsRow.alloc HO6.out _) ⟨w6.heap.size, 0, none⟩ 1 1 (encE ⟨a, g, fd, sn⟩) rfl rfl (World.news_of_block (cs := #[.string (nm a), .string (nm g), .string (fdn fd), .int .i64 sn, .int .i32 2]) (t := 61) (fr := (0, 0)) (heap_alloc_new w6 _)) (encE_one _) (by omega) (by unfold maxLen; omega) (by omega) (by simp; omega) (w6.heap.size + 1) (by simp) ?_; intro g7 c7 w7 hown7 hgrow7 hat7 hlt7; have hk7 : Keep (fun k => some k = (Value.slice av G.length cv).ownBlock) w6 w7 := ((Keep.refl _ w6).alloc _).trans (Keep.ofGrown hgrow7) (fun _ _ h => h); have ha7 := HA6.out.keep hk7 (fun h => HA6.out.ne HO6.out h.symm); have u0 := cell_blk (i := 0) ha7 rfl; have f0 := free_blk ha7 0; have H7 := hide (And.intro hown7 (And.intro hk7 (And.intro ha7 hat7))); clear hown7 hgrow7 hat7 hlt7 hk7 ha7)
    go_end0
    obtain ⟨hown7, hk7, ha7, hat7⟩ := H7.out
    have hO7 : OwnE w7 base (.slice (some ⟨g7, 0, none⟩) (G.length + 1) c7) (G ++ [⟨a, g, fd, sn⟩]) := by unfold OwnE; rw [flatE_app, List.length_append]; exact hown7
    refine ⟨rfl, ?_⟩
    rw [HSN.out]
    unfold emit
    rw [if_neg HZ.out]
    refine ⟨_, heap_set ha7 _, hO7.keep ((Keep.refl (fun k => k = E) w7).setCell _ _ (.inl rfl)) (fun k hk e => by subst e; exact ha7.ne hO7 hk), ?_, ?_⟩
    · rcases hat7 with h | h
      · exact .inl h.symm
      · exact .inr ⟨g7, rfl, by omega⟩
    · exact ((HK6.out.mono (fun _ _ h => h.elim)).trans hk7 (fun _ _ h => .inr h)).setCell ⟨E, 0, none⟩ _ (.inl (.inl rfl))
end Go.Proofs.YbulknisFmt
