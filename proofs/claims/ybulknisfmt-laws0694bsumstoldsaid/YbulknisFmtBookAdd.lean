import Derived.Test.YbulknisFmtBook
namespace Go.Proofs.YbulknisFmt
open Go.RowKit

def firstOf (A : List Lot) (f : Int) (x : Lot) : Int := if A.length = 0 ∨ x.reg < f then x.reg else f

set_option maxHeartbeats 4000000 in
theorem bookAdd_any (base B : Nat) (vl va : Value) (f : Int) (A : List Lot) (x : Lot) (w : World) (hA : A.length ≤ 1023) (hbook : BookAt w B vl va f) (ho : OwnL w base va A) (hbase : base ≤ w.heap.size) :
    Calls Ybaf.prog 15 #[.pointer (some ⟨B, 0, none⟩), .agg #[.string (nm x.acc), .string (nm x.ag), .string (fdn x.fd), .int .i32 x.reg, .string (nm x.id), .int .i64 x.sh, .int .i32 2]] w
      fun e w' => e = .returned (.tuple #[]) ∧ ∃ va', BookAt w' B vl va' (firstOf A f x) ∧ OwnL w' base va' (A ++ [x]) ∧ (va'.ownBlock = va.ownBlock ∨ ∃ k, va'.ownBlock = some k ∧ w.heap.size ≤ k) ∧ Keep (fun k => k = B ∨ some k = va.ownBlock) w w' := by
  obtain ⟨W, eW⟩ : ∃ W, W = w.alloc (.cells #[.string (nm x.acc), .string (nm x.ag), .string (fdn x.fd), .int .i32 x.reg, .string (nm x.id), .int .i64 x.sh, .int .i32 2] 48) := ⟨_, rfl⟩
  obtain ⟨b0, eb0⟩ : ∃ b0, b0 = w.heap.size := ⟨_, rfl⟩
  have hbx : W.heap[b0]? = some (.cells #[.string (nm x.acc), .string (nm x.ag), .string (fdn x.fd), .int .i32 x.reg, .string (nm x.id), .int .i64 x.sh, .int .i32 2] 48) := by rw [eW, eb0]; exact heap_alloc_new _ _
  have hK : Keep (fun _ => False) w W := by rw [eW]; exact (Keep.refl _ w).alloc _
  have hB : BookAt W B vl va f := (hK.block B (lt_of_block hbook) (fun h => h)).trans hbook
  have hO : OwnL W base va A := ho.keep hK (fun _ _ h => h)
  have hvl : Hid (∀ k, va.ownBlock = some k → k < b0) := fun k hk => by rw [eb0]; exact (ho.lt k hk).2
  have hne : B ≠ b0 := by rw [eb0]; exact Nat.ne_of_lt (lt_of_block hbook)
  obtain ⟨a, cap, hva, _, _, _⟩ := ho.form
  have HBK := hide hbook
  have HB := hide hB
  have HO := hide hO
  have HK := hide hK
  have HBX := hide hbx
  have HW := hide eW
  have HEB := hide eb0
  have q0 := cell_blk (i := 0) hB rfl
  have q1 := cell_blk (i := 1) hB rfl
  have q2 := cell_blk (i := 2) hB rfl
  have q3 := cell_blk (i := 3) hB rfl
  have z2 := free_blk hB 2
  have p3 := cell_blk (i := 3) hbx rfl
  subst hva
  clear hB hO hK hbx hbook ho eb0 eW
  go_enter Ybaf.func15, Ybaf.ntmps15
  go_upto_region 1 with fail
  rw [← HW.out, ← HEB.out]
  go_cut [19] (fun v wx => v = .bool (decide (A.length = 0 ∨ x.reg < f)) ∧ ∃ q, wx = W.drewN q)
  case first =>
    by_cases h0 : A.length = 0
    · have e0 : ((A.length : Int) == 0) = true := by simp [h0]
      have ER : Hid (decide (A.length = 0 ∨ x.reg < f) = true) := by simp [Hid, h0]
      clear h0
      go_quiet (fail)
      go_wp2
      go_meet
      case rel => exact ⟨by rw [ER.out], _, rfl⟩
    · have e0 : ((A.length : Int) == 0) = false := by rw [beq_eq_false_iff_ne]; omega
      have ER : Hid (decide (A.length = 0 ∨ x.reg < f) = decide (x.reg < f)) := by simp [Hid, h0]
      clear h0
      go_quiet (fail)
      go_wp2
      go_meet
      case rel => exact ⟨by rw [ER.out], _, rfl⟩
  obtain ⟨hv, q, hw⟩ := hcut
  subst hw
  subst hv
  go_upto_if 19 with fail
  go_cut [4] (fun _ wx => BookAt wx B vl (.slice a A.length cap) (firstOf A f x) ∧ Keep (fun k => k = B) W wx)
  case first =>
    by_cases hc : A.length = 0 ∨ x.reg < f
    · have er : decide (A.length = 0 ∨ x.reg < f) = true := decide_eq_true hc
      have EF : Hid (firstOf A f x = x.reg) := by show _ = _; unfold firstOf; rw [if_pos hc]
      rw [er]
      clear er hc
      go_wp2
      go_meet
      case rel => exact ⟨by rw [EF.out]; exact heap_set HB.out _, Keep.setCell ((Keep.refl _ W).drewN q) ⟨B, 2, none⟩ _ (.inl rfl)⟩
    · have er : decide (A.length = 0 ∨ x.reg < f) = false := decide_eq_false hc
      have EF : Hid (firstOf A f x = f) := by show _ = _; unfold firstOf; rw [if_neg hc]
      rw [er]
      clear er hc
      go_wp2
      go_meet
      case rel => exact ⟨by rw [EF.out]; exact HB.out, (Keep.refl _ W).drewN _⟩
  obtain ⟨W2, e2⟩ : ∃ W2, W2 = wc := ⟨_, rfl⟩
  subst e2
  obtain ⟨hB2, hK2⟩ := hcut
  have hneB : ∀ k, (Value.slice a A.length cap).ownBlock = some k → ¬ k = B := fun k hk e => by subst e; exact HB.out.ne HO.out hk
  have hO2 := HO.out.keep hK2 hneB
  have hbx2 := (hK2.block b0 (lt_of_block HBX.out) (Ne.symm hne)).trans HBX.out
  clear q0 q1 q2 q3 z2 p3
  have q1 := cell_blk (i := 1) hB2 rfl
  have r0 := cell_blk (i := 0) hbx2 rfl
  have r1 := cell_blk (i := 1) hbx2 rfl
  have r2 := cell_blk (i := 2) hbx2 rfl
  have r3 := cell_blk (i := 3) hbx2 rfl
  have r4 := cell_blk (i := 4) hbx2 rfl
  have r5 := cell_blk (i := 5) hbx2 rfl
  have r6 := cell_blk (i := 6) hbx2 rfl
  obtain ⟨i0, hi, hz0, hz1, hz2⟩ := info_parts info48
  have hlb := lt_of_block hB2
  have hlx := lt_of_block hbx2
  have hs2 := hK2.size
  have hsW : W.heap.size = w.heap.size + 1 := by rw [HW.out]; simp
  have H2 : Hid (BookAt W2 B vl (.slice a A.length cap) (firstOf A f x) ∧ OwnL W2 base (.slice a A.length cap) A ∧ Keep (fun k => k = B) W W2 ∧ W2.heap[b0]? = some (.cells #[.string (nm x.acc), .string (nm x.ag), .string (fdn x.fd), .int .i32 x.reg, .string (nm x.id), .int .i64 x.sh, .int .i32 2] 48)) := ⟨hB2, hO2, hK2, hbx2⟩
  clear hB2 hO2 hK2 hbx2 hneB
  go_upto_region 3 with fail
  go_cut [4] (fun _ wx => ∃ va', BookAt wx B vl va' (firstOf A f x) ∧ OwnL wx base va' (A ++ [x]) ∧ (va'.ownBlock = (Value.slice a A.length cap).ownBlock ∨ ∃ k, va'.ownBlock = some k ∧ W2.heap.size ≤ k) ∧ Keep (fun k => k = B ∨ some k = (Value.slice a A.length cap).ownBlock) W2 wx ∧ wx.heap[b0]? = some (.cells #[.string (nm x.acc), .string (nm x.ag), .string (fdn x.fd), .int .i32 x.reg, .string (nm x.id), .int .i64 x.sh, .int .i32 2] 48))
  case first =>
    go_region_law (refine step_append_lies _ (by rfl) _ _ _ (by rfl) base 48 i0 _ 7 88 Ybaf.underlying41 hi hz0 hz1 hz2 rfl (by omega) (Value.slice a A.length cap) A.length (flat A) (by rfl) ((World.ownsRow.alloc H2.out.2.1 _).drew) ⟨W2.heap.size, 0, none⟩ 1 1 (enc x) (by rfl) (by rfl) (World.news_of_block (cs := #[.string (nm x.acc), .string (nm x.ag), .string (fdn x.fd), .int .i32 x.reg, .string (nm x.id), .int .i64 x.sh, .int .i32 2]) (t := 48) (fr := (0, 0)) (heap_alloc_new W2 _)) (flat_one x) (by omega) (by unfold maxLen; omega) (by omega) (by simp; omega) (W2.heap.size + 1) (by simp) ?_; intro g cp w5 hown5 hgrow5 hat hlt5; have hb5 : BookAt w5 B vl (.slice a A.length cap) (firstOf A f x) := (hgrow5.block B (by simp; omega) (fun e => H2.out.1.ne H2.out.2.1 e.symm)).trans ((Below.heap_alloc _ _ _ hlb).trans H2.out.1); have c5 := cell_blk (i := 1) hb5 rfl; have f5 := free_blk hb5 1; have H5 := hide (And.intro hown5 (And.intro hgrow5 (And.intro hat hb5))); clear hown5 hgrow5 hat hlt5 hb5)
    all_goals
      go_wp2
      go_meet
      case rel =>
        obtain ⟨hown5, hgrow5, hat, hb5⟩ := H5.out
        obtain ⟨hB2, hO2, hK2, hbx2⟩ := H2.out
        have hO5 : OwnL w5 base (.slice (some ⟨g, 0, none⟩) (A.length + 1) cp) (A ++ [x]) := by unfold OwnL; rw [flat_app, List.length_append]; exact hown5
        have hK5 : Keep (fun k => k = B ∨ some k = (Value.slice a A.length cap).ownBlock) W2 w5 := (((Keep.refl _ W2).alloc _).drewN 1).trans (Keep.ofGrown hgrow5) (fun k _ h => .inr h)
        have hK6 := hK5.setCell ⟨B, 1, none⟩ (.slice (some ⟨g, 0, none⟩) (A.length + 1) cp) (.inl (.inl rfl))
        refine ⟨.slice (some ⟨g, 0, none⟩) (A.length + 1) cp, heap_set hb5 _, hO5.keep ((Keep.refl (fun k => k = B) w5).setCell _ _ (.inl rfl)) (fun k hk e => by subst e; exact hb5.ne hO5 hk), ?_, hK6, ?_⟩
        · rcases hat with h | h
          · exact .inl h.symm
          · exact .inr ⟨g, rfl, by omega⟩
        · exact (hK6.block b0 (lt_of_block hbx2) (by rintro (h | h); exact hne h.symm; exact Nat.lt_irrefl _ (hvl.out b0 h.symm))).trans hbx2
  obtain ⟨W3, e3⟩ : ∃ W3, W3 = wc := ⟨_, rfl⟩
  subst e3
  obtain ⟨va', hB3, hO3, hat, hK3, hbx3⟩ := hcut
  have t3 := cell_blk (i := 3) hB3 rfl
  have u2 := cell_blk (i := 2) hbx3 rfl
  have hlk : ∀ wx, (Instr.lookup 70 (.map none) (.string (fdn x.fd)) false).run Ybaf.prog wx = .ok (.pointer none) wx := fun wx => by kernel_rfl
  have H3 := hide (And.intro hB3 (And.intro hO3 (And.intro hat hK3)))
  clear hB3 hO3 hat hK3 hbx3 q1 r0 r1 r2 r3 r4 r5 r6
  go_upto_region 4 with fail
  go_quiet (fail)
  go_wp2
  go_end0
  obtain ⟨hB3, hO3, hat, hK3⟩ := H3.out
  refine ⟨rfl, va', hB3, hO3, ?_, ?_⟩
  · rcases hat with h | ⟨k, h1, h2⟩
    · exact .inl h
    · exact .inr ⟨k, h1, by omega⟩
  · exact (((HK.out.mono (fun _ _ h => h.elim)).trans H2.out.2.2.1 (fun k _ h => .inl h)).trans hK3 (fun k _ h => h)).drewN _
end Go.Proofs.YbulknisFmt
