import Derived.Test.YbulknhcCalls
namespace Go.Proofs.Ybulknhc
open Go.RowKit Go.Maps

theorem Yba.info112 : (Yba.prog.info? 112).map (fun i => (i.zero, i.size, i.bytes)) = some (some (.agg #[.string ⟨#[]⟩, .string ⟨#[]⟩]), 2, 32) := by kernel_rfl

theorem cell_two0 {w : World} {b : Nat} {v0 v1 : Value} {t : TypeId} (h : w.heap[b]? = some (.cells #[v0, v1] t (0, 0))) : w.cell? ⟨b, 0, none⟩ = some v0 := by simp [World.cell?, h]
theorem cell_two1 {w : World} {b : Nat} {v0 v1 : Value} {t : TypeId} (h : w.heap[b]? = some (.cells #[v0, v1] t (0, 0))) : w.cell? ⟨b, 1, none⟩ = some v1 := by simp [World.cell?, h]
theorem hide {p : Prop} (h : p) : Hid p := h

theorem encs_nil : encs [] = [] := rfl
theorem encs_append (l : List (Nat × Nat)) (p : Nat × Nat) : encs (l ++ [p]) = encs l ++ enc p := by simp [encs]
theorem encs_length (l : List (Nat × Nat)) : (encs l).length = l.length * 2 := by
  induction l with
  | nil => rfl
  | cons p l ih => simp only [encs, List.flatMap_cons, List.length_append] at ih ⊢; rw [ih]; simp [enc]; omega
theorem encs_at : ∀ (l : List (Nat × Nat)) (i : Nat) (p : Nat × Nat), l[i]? = some p → (encs l)[i * 2]? = some (.string (nm p.1)) ∧ (encs l)[i * 2 + 1]? = some (.string (nm p.2))
  | [], i, p, h => by simp at h
  | q :: l, 0, p, h => by simp at h; subst h; simp [encs, enc]
  | q :: l, i + 1, p, h => by
    have ih := encs_at l i p (by simpa using h)
    have e : encs (q :: l) = .string (nm q.1) :: .string (nm q.2) :: encs l := rfl
    rw [e, show (i + 1) * 2 = i * 2 + 1 + 1 by omega]
    simpa using ih
theorem enc_one (l : List (Nat × Nat)) : ∀ u ∈ encs l, u.oneCell' = true := by
  intro u hu
  obtain ⟨p, _, hp⟩ := List.mem_flatMap.1 hu
  simp [enc] at hp
  rcases hp with rfl | rfl <;> rfl

/-- A row of links of the call's own, as the walks ask for it. -/
theorem owns_links {w : World} {base : Nat} {v : Value} {n : Nat} {l : List (Nat × Nat)} (h : w.ownsRow base 112 2 v n (encs l)) :
    l.length = n ∧ ∃ a c, v = .slice a n c ∧ LinksAt w a l := by
  have hl : l.length = n := by have := h.1; rw [encs_length] at this; omega
  refine ⟨hl, ?_⟩
  rcases h.2 with ⟨rfl, rfl⟩ | ⟨g, cap, cur, rfl, _, _, _, _, _, _⟩
  · exact ⟨none, 0, rfl, .inl (List.eq_nil_of_length_eq_zero hl)⟩
  · refine ⟨_, cap, rfl, .inr ⟨g, rfl, fun i p hp => ?_⟩⟩
    have hi := (List.getElem?_eq_some_iff.1 hp).1
    obtain ⟨e1, e2⟩ := encs_at l i p hp
    exact ⟨by rw [h.cellAt _ (by omega)]; exact e1, by rw [h.cellAt _ (by omega)]; exact e2⟩

/-- What lostLinks is handed: report k by member F k, its lost members 'X k'. -/
structure RepAt (w : World) (R : Nat) (F : Nat → Nat) (L : Nat → Nat) (X : Nat → Nat → Nat) (k : Nat) (A : Option Addr) (c : Nat) : Prop where
  from_ : w.cell? ⟨R, k * 2, none⟩ = some (.string (nm (F k)))
  lost : w.cell? ⟨R, k * 2 + 1, none⟩ = some (.slice A (L k) c)
  row : ∀ j, j < L k → ∃ b off, A = some ⟨b, off, none⟩ ∧ w.cell? ⟨b, off + j, none⟩ = some (.string (nm (X k j)))
theorem RepAt.grow {w w' : World} {R : Nat} {F L : Nat → Nat} {X : Nat → Nat → Nat} {k : Nat} {A : Option Addr} {c : Nat} (h : RepAt w R F L X k A c) (hb : Below w.heap.size w w') : RepAt w' R F L X k A c :=
  ⟨(hb.cell (World.block_lt_of_cell? w _ h.from_)).trans h.from_, (hb.cell (World.block_lt_of_cell? w _ h.lost)).trans h.lost, fun j hj => by
    obtain ⟨b, off, rfl, hc⟩ := h.row j hj
    exact ⟨b, off, rfl, (hb.cell (World.block_lt_of_cell? w _ hc)).trans hc⟩⟩

theorem sizeOf107 (w : World) : (sizeOf 107).run Yba.prog w = .ok 2 w := by kernel_rfl
theorem idx97 {b n c : Nat} {k : Nat} (hk : k < n) (w : World) : (Instr.indexAt 97 (.slice (some ⟨b, 0, none⟩) n c) (.int .i64 k)).run Yba.prog w = .ok (.pointer (some ⟨b, k * 2, none⟩)) w := by
  rw [run_indexAt_slice (h := by kernel_rfl), if_pos (by omega)]
  have e : Yba.prog.elem 97 = 107 := by kernel_rfl
  rw [e, sizeOf107]
  simp [Addr.add]
  omega
theorem sizeOf9 (w : World) : (sizeOf 9).run Yba.prog w = .ok 1 w := by kernel_rfl
theorem idx65 {a : Option Addr} {b off n c : Nat} {k : Nat} (ha : a = some ⟨b, off, none⟩) (hk : k < n) (w : World) : (Instr.indexAt 65 (.slice a n c) (.int .i64 k)).run Yba.prog w = .ok (.pointer (some ⟨b, off + k, none⟩)) w := by
  subst ha
  rw [run_indexAt_slice (h := by kernel_rfl), if_pos (by omega)]
  have e : Yba.prog.elem 65 = 9 := by kernel_rfl
  rw [e, sizeOf9]
  simp [Addr.add]

/-- The lengths with nothing beyond the lists. -/
def Lc (n2 : Nat) (L : Nat → Nat) (k : Nat) : Nat := if k < n2 then L k else 0
theorem allTo_next {rch : Nat → Bool} {F : Nat → Nat} {n2 : Nat} {L : Nat → Nat} {X : Nat → Nat → Nat} {k : Nat} (h : rch (F k) = true) :
    allTo rch F n2 L X (k + 1) = rowTo rch (F k) (X k) (allTo rch F n2 L X k) (Lc n2 L k) := by
  by_cases hk : k < n2
  · simp [allTo, h, hk, Lc]
  · simp [allTo, h, hk, Lc, rowTo]
theorem allTo_skip {rch : Nat → Bool} {F : Nat → Nat} {n2 : Nat} {L : Nat → Nat} {X : Nat → Nat → Nat} {k : Nat} (h : rch (F k) = false) :
    allTo rch F n2 L X (k + 1) = allTo rch F n2 L X k := by simp [allTo, h]

theorem own_grow {w w' : World} {base : Nat} {e : TypeId} {size : Nat} {v : Value} {n : Nat} {xs : List Value} (h : w.ownsRow base e size v n xs) (hb : Below w.heap.size w w') : w'.ownsRow base e size v n xs := by
  refine ⟨h.1, ?_⟩
  rcases h.2 with h2 | ⟨g, cap, cur, hv, hg, hh, r⟩
  · exact .inl h2
  · exact .inr ⟨g, cap, cur, hv, hg, (hb.block g (lt_of_block hh)).trans hh, r⟩
theorem own_other {w : World} {base : Nat} {e t : TypeId} {size : Nat} {v : Value} {n b : Nat} {xs cs : List Value} (h : w.ownsRow base e size v n xs) (hb : w.heap[b]? = some (.cells cs.toArray t (0, 0))) (ht : t ≠ e) : v.ownBlock ≠ some b := by
  rcases h.2 with ⟨rfl, _⟩ | ⟨g, cap, cur, rfl, hg, hh, r⟩
  · simp [Value.ownBlock]
  · intro e2
    simp [Value.ownBlock] at e2
    subst e2
    rw [hh] at hb
    simp at hb
    exact ht hb.2.symm

/-- The inner loop's state. -/
structure Inner (m : Int) (F : Nat → Nat) (n2 : Nat) (L : Nat → Nat) (X : Nat → Nat → Nat) (w : World) (rb k : Nat) (A : Option Addr) (c j : Nat) (v : Value) (w2 : World) : Prop where
  own : w2.ownsRow w.heap.size 112 2 v (rowTo (rch m) (F k) (X k) (allTo (rch m) F n2 L X k) j).length (encs (rowTo (rch m) (F k) (X k) (allTo (rch m) F n2 L X k) j))
  var : w2.heap[rb]? = some (.cells #[.string (nm (F k)), .slice A (Lc n2 L k) c] 107 (0, 0))
  bel : Below w.heap.size w w2

theorem Inner.grow {m : Int} {F : Nat → Nat} {n2 : Nat} {L : Nat → Nat} {X : Nat → Nat → Nat} {w : World} {rb k : Nat} {A : Option Addr} {c j : Nat} {v : Value} {w2 w3 : World} (h : Inner m F n2 L X w rb k A c j v w2) (hb : Below w2.heap.size w2 w3) :
    Inner m F n2 L X w rb k A c j v w3 :=
  ⟨own_grow h.own hb, (hb.block rb (lt_of_block h.var)).trans h.var, h.bel.trans (hb.mono h.bel.size)⟩
theorem Inner.same {m : Int} {F : Nat → Nat} {n2 : Nat} {L : Nat → Nat} {X : Nat → Nat → Nat} {w : World} {rb k : Nat} {A : Option Addr} {c j : Nat} {v : Value} {w2 : World} (h : Inner m F n2 L X w rb k A c j v w2)
    (hs : step (rch m) (F k) (rowTo (rch m) (F k) (X k) (allTo (rch m) F n2 L X k) j) (X k j) = rowTo (rch m) (F k) (X k) (allTo (rch m) F n2 L X k) j) : Inner m F n2 L X w rb k A c (j + 1) v w2 :=
  ⟨by rw [rowTo, hs]; exact h.own, h.var, h.bel⟩
/-- Behind the append. -/
theorem Inner.more {m : Int} {F : Nat → Nat} {n2 : Nat} {L : Nat → Nat} {X : Nat → Nat → Nat} {w : World} {rb k : Nat} {A : Option Addr} {c j : Nat} {v v' : Value} {w2 w3 : World} {o : Obj} (h : Inner m F n2 L X w rb k A c j v w2)
    (hs : step (rch m) (F k) (rowTo (rch m) (F k) (X k) (allTo (rch m) F n2 L X k) j) (X k j) = rowTo (rch m) (F k) (X k) (allTo (rch m) F n2 L X k) j ++ [(F k, X k j)])
    (hown : w3.ownsRow w.heap.size 112 2 v' ((rowTo (rch m) (F k) (X k) (allTo (rch m) F n2 L X k) j).length + 1) (encs (rowTo (rch m) (F k) (X k) (allTo (rch m) F n2 L X k) j) ++ enc (F k, X k j)))
    (hg : (w2.alloc o).grownBy w3 v.ownBlock) : Inner m F n2 L X w rb k A c (j + 1) v' w3 := by
  have hrb := lt_of_block h.var
  refine ⟨by rw [rowTo, hs, encs_append]; simpa using hown, ?_, ?_⟩
  · rw [hg.block rb (by simp; omega) (fun e => own_other (cs := [_, _]) h.own h.var (by decide) e.symm), Below.heap_alloc _ _ _ hrb]
    exact h.var
  · refine (h.bel.alloc h.bel.size o).grown hg (by have := h.bel.size; simp; omega) (fun k hk => (h.own.lt k hk).1)

set_option maxHeartbeats 2000000 in
set_option maxRecDepth 100000 in
theorem links_any (m : Int) (Bm bm R n cr n2 : Nat) (F : Nat → Nat) (L : Nat → Nat) (X : Nat → Nat → Nat) (w : World) (hm0 : 0 ≤ m) (hm1 : m ≤ 255) (hn : n ≤ 1024) (hL : ∀ r, r < n2 → L r ≤ 4096)
    (hF : ∀ k, k < n → F k < 5) (hX : ∀ r, r < n2 → ∀ c, c < L r → X r c < 5) (hP : Peers m Bm bm w)
    (hR : ∀ k, k < n → ∃ A c, RepAt w R F (Lc n2 L) X k A c) :
    Calls Yba.prog 4 #[.pointer (some ⟨Bm, 0, none⟩), .slice (some ⟨R, 0, none⟩) n cr] w fun e w' =>
      ∃ v, e = .returned v ∧ w'.ownsRow w.heap.size 112 2 v (allTo (rch m) F n2 L X n).length (encs (allTo (rch m) F n2 L X n)) ∧ Below w.heap.size w w' := by
  obtain ⟨i0, hi, hz0, hz1, hz2⟩ := info_parts Yba.info112
  have HP : Hid (Peers m Bm bm w) := hP
  have HR : Hid (∀ k, k < n → ∃ A c, RepAt w R F (Lc n2 L) X k A c) := hR
  have HF : Hid (∀ k, k < n → F k < 5) := hF
  have HX : Hid (∀ r, r < n2 → ∀ c, c < L r → X r c < 5) := hX
  have HL : Hid (∀ r, r < n2 → L r ≤ 4096) := hL
  clear hP hR hF hX hL
  go_enter Yba.func4, Yba.ntmps4
  go_wp2
  go_loopw [5, 12] (fun v i wr => ∃ k : Nat, k ≤ n ∧ i = .int .i64 k ∧ wr.ownsRow w.heap.size 112 2 v (allTo (rch m) F n2 L X k).length (encs (allTo (rch m) F n2 L X k)) ∧ Below w.heap.size w wr) (fun _ i _ => n - (intOf i).toNat)
  case atStart => exact ⟨0, by omega, rfl, World.ownsRow_nil _ _ _ _, Below.refl _ _⟩
  case round =>
    obtain ⟨k, hk, rfl, hown, hbel⟩ := hrel
    by_cases hlt : k < n
    · obtain ⟨A, c, hrep⟩ := HR.out k hlt
      have hrep' := hrep.grow hbel
      have c1 := hrep'.from_
      have c2 := hrep'.lost
      have hFk := HF.out k hlt
      have hidx := fun wx => idx97 (b := R) (c := cr) hlt wx
      have HO : Hid (wr.ownsRow w.heap.size 112 2 u5 (allTo (rch m) F n2 L X k).length (encs (allTo (rch m) F n2 L X k))) := hown
      have HB : Hid (Below w.heap.size w wr) := hbel
      have HRow : Hid (RepAt w R F (Lc n2 L) X k A c) := hrep
      have hsz := hbel.size
      clear hrep hrep' hown hbel
      cases hr : rch m (F k)
      · go_wp2_with (go_at_call 6; refine (reaches_any m Bm bm (F k) _ hm0 hm1 hFk (HP.out.grow (HB.out.alloc (by omega) _))).mono ?_; rintro e w1 ⟨rfl, hw⟩; replace hw := hw.symm; subst hw)
        go_roundw
        case rel => exact ⟨k + 1, by omega, by go_num, by rw [allTo_skip hr]; exact HO.out.alloc _, HB.out.alloc (by omega) _⟩
        case measure => simp [intOf]; omega
      · go_wp2_with (go_at_call 6; refine (reaches_any m Bm bm (F k) _ hm0 hm1 hFk (HP.out.grow (HB.out.alloc (by omega) _))).mono ?_; rintro e w1 ⟨rfl, hw⟩; replace hw := hw.symm; subst hw)
        go_loopw [5, 24] (fun v i w2 => ∃ j : Nat, j ≤ Lc n2 L k ∧ i = .int .i64 j ∧ Inner m F n2 L X w wr.heap.size k A c j v w2) (fun _ i _ => Lc n2 L k - (intOf i).toNat)
        case atStart => exact ⟨0, by omega, rfl, HO.out.alloc _, heap_alloc_new _ _, HB.out.alloc (by omega) _⟩
        case round =>
          obtain ⟨j, hj, rfl, hin⟩ := hrel
          have HI := hide hin
          have cv0 := cell_two0 hin.var
          have hsz2 := hin.bel.size
          have hlen := rowTo_len (rch m) (F k) (X k) (allTo (rch m) F n2 L X k) j
          have hlen2 := allTo_len (rch m) F n2 L X 4096 HL.out k
          by_cases hjl : j < Lc n2 L k
          · have hk2 : k < n2 := by
              rcases Nat.lt_or_ge k n2 with h | h
              · exact h
              · simp [Lc, show ¬ k < n2 by omega] at hjl
            have hLk : Lc n2 L k = L k := by simp [Lc, hk2]
            have hL4 := HL.out k hk2
            have hXj := HX.out k hk2 j (by omega)
            obtain ⟨b, off, hA, hcx⟩ := (HRow.out.grow hin.bel).row j hjl
            have hidx2 := fun wx => idx65 (c := c) hA hjl wx
            have HK := hide (show Lc n2 L k = L k from hLk)
            obtain ⟨hll, av, cc, hv, hLA⟩ := owns_links hin.own
            have HLA := hide hLA
            have hSm : Small (rowTo (rch m) (F k) (X k) (allTo (rch m) F n2 L X k) j) := (Small.allTo k (fun i hi => HF.out i (by omega)) HX.out).rowTo hFk j (fun i hi => HX.out k hk2 i (by omega))
            have HSm := hide hSm
            have hP2 := hide (HP.out.grow hin.bel)
            have hLc4 : Lc n2 L k ≤ 4096 := by omega
            clear hA hLk hLA hSm hin hll
            subst hv
            cases hrx : rch m (X k j)
            · go_wp2_with (go_at_call 6; refine (reaches_any m Bm bm (X k j) _ hm0 hm1 hXj hP2.out).mono ?_; rintro e w1 ⟨rfl, hw⟩; replace hw := hw.symm; subst hw)
              go_roundw
              case rel => exact ⟨j + 1, by omega, by go_num, HI.out.same (step_far hrx)⟩
              case measure => simp [intOf]; omega
            · cases hct : has (rowTo (rch m) (F k) (X k) (allTo (rch m) F n2 L X k) j) (X k j, F k)
              · have HCT := hide (step_hit hrx hct)
                go_wp2_with (first | (go_at_call 6; refine (reaches_any m Bm bm (X k j) _ hm0 hm1 hXj hP2.out).mono ?_; rintro e w1 ⟨rfl, hw⟩; replace hw := hw.symm; subst hw) | (go_at_call 7; refine (contains_any (X k j, F k) av _ cc _ _ rfl (by omega) HSm.out ⟨hXj, hFk⟩ HLA.out).mono ?_; rintro e w1 ⟨rfl, hb1⟩; have HI1 := hide (HI.out.grow hb1); have cv1 := cell_two0 HI1.out.var; have hsz3 := hb1.size; clear hb1 cv0) | (at_builtin; refine wpList_append_own _ rfl _ _ 108 rfl w.heap.size 112 i0 (.agg #[.string ⟨#[]⟩, .string ⟨#[]⟩]) 2 32 Yba.underlying108 hi hz0 hz1 hz2 rfl (by decide) _ _ _ rfl (HI1.out.own.alloc _) ⟨w1.heap.size, 0, none⟩ 1 1 (enc (F k, X k j)) rfl rfl ?c1 ?c2 ?c3 ?c4 ?c5 ?_))
                case c1 => intro q u hq; match q, hq with | 0, hq => simp [enc] at hq; subst hq; simp [Addr.add] | 1, hq => simp [enc] at hq; subst hq; simp [Addr.add] | q + 2, hq => simp [enc] at hq
                case c2 => intro u hu; simp [enc] at hu; rcases hu with rfl | rfl <;> rfl
                case c3 => unfold maxLen; omega
                case c4 => omega
                case c5 => simp; omega
                · intro v' w3 hown3 hgrow3 _
                  have HM := hide (HI1.out.more HCT.out hown3 hgrow3)
                  clear hown3 hgrow3 HI1 cv1
                  go_wp2
                  go_roundw
                  case rel => exact ⟨j + 1, by omega, by go_num, HM.out⟩
                  case measure => simp [intOf]; omega
              · go_wp2_with (first | (go_at_call 6; refine (reaches_any m Bm bm (X k j) _ hm0 hm1 hXj hP2.out).mono ?_; rintro e w1 ⟨rfl, hw⟩; replace hw := hw.symm; subst hw) | (go_at_call 7; refine (contains_any (X k j, F k) av _ cc _ _ rfl (by omega) HSm.out ⟨hXj, hFk⟩ HLA.out).mono ?_; rintro e w1 ⟨rfl, hb1⟩; have HI1 := hide (HI.out.grow hb1); clear hb1 cv0))
                go_roundw
                case rel => exact ⟨j + 1, by omega, by go_num, HI1.out.same (step_dup hct)⟩
                case measure => simp [intOf]; omega
          · obtain rfl : j = Lc n2 L k := by omega
            go_wp2
            go_roundw
            case rel => exact ⟨k + 1, by omega, by go_num, by rw [allTo_next hr]; exact HI.out.own, HI.out.bel⟩
            case measure => simp [intOf]; omega
    · obtain rfl : k = n := by omega
      go_wp2
      go_ret
      exact ⟨_, rfl, hown, hbel⟩
end Go.Proofs.Ybulknhc
