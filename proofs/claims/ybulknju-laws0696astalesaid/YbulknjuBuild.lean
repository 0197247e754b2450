import Derived.Test.YbulknjuAdd
namespace Go.Proofs.Ybulknju
open Go.RowKit

/-- One row of the law's input. -/
structure Z6 where
  proc : Int
  key : Int
  rd : Bool
/-- The history being built: operations, each process's, the last write to each key. -/
structure BS where
  O : List OpR
  P : Nat → List Nat
  l : Nat → Int
def BS.add (s : BS) (p k : Nat) (rd : Bool) (fr : Int) : BS := ⟨s.O ++ [⟨rd, k, if rd then fr else -1⟩], upd s.P p (s.P p ++ [s.O.length]), s.l⟩
def pz (z : Z6) : Nat := (z.proc % 3).toNat
def kz (z : Z6) : Nat := (z.key % 2).toNat
def BS.step (s : BS) (z : Z6) : BS := if z.rd then s.add (pz z) (kz z) true (s.l (kz z)) else { s.add (pz z) (kz z) false 0 with l := upd s.l (kz z) s.O.length }
def runB (zs : Nat → Z6) : Nat → BS
  | 0 => ⟨[], fun _ => [], fun _ => -1⟩
  | k + 1 => (runB zs k).step (zs k)
def BS.stale (s : BS) : BS := ((s.add 0 0 false 0).add 0 0 false 0).add 0 0 true s.O.length
def BS.fin (s : BS) (st : Bool) : BS := if st then s.stale else s

theorem pz_lt (z : Z6) : pz z < 3 := by unfold pz; omega
theorem kz_lt (z : Z6) : kz z < 2 := by unfold kz; omega
theorem step_O (s : BS) (z : Z6) : (s.step z).O.length = s.O.length + 1 := by unfold BS.step; split <;> simp [BS.add]
theorem runB_O (zs : Nat → Z6) (k : Nat) : (runB zs k).O.length = k := by
  induction k with
  | zero => rfl
  | succ k ih => simp only [runB]; rw [step_O, ih]
theorem step_P (s : BS) (z : Z6) (q : Nat) : ((s.step z).P q).length ≤ (s.P q).length + 1 := by
  have : (s.step z).P = upd s.P (pz z) (s.P (pz z) ++ [s.O.length]) := by unfold BS.step; split <;> rfl
  rw [this]; unfold upd; split
  · next h => subst h; simp
  · omega
theorem runB_P (zs : Nat → Z6) (k q : Nat) : ((runB zs k).P q).length ≤ k := by
  induction k with
  | zero => simp [runB]
  | succ k ih => simp only [runB]; have := step_P (runB zs k) (zs k) q; omega

structure ZAt (w : World) (b o : Nat) (z : Z6) : Prop where
  c0 : w.cell? ⟨b, o, none⟩ = some (.int .u8 z.proc)
  c1 : w.cell? ⟨b, o + 1, none⟩ = some (.int .u8 z.key)
  c2 : w.cell? ⟨b, o + 2, none⟩ = some (.bool z.rd)
theorem ZAt.of_block {w w' : World} {b o : Nat} {z : Z6} (h : ZAt w b o z) (e : w'.heap[b]? = w.heap[b]?) : ZAt w' b o z :=
  ⟨(World.cell?_of_block e).trans h.c0, (World.cell?_of_block e).trans h.c1, (World.cell?_of_block e).trans h.c2⟩
def InZ (w : World) (a : Option Addr) (n : Nat) (zs : Nat → Z6) : Prop := ∀ k, k < n → ∃ b off, a = some ⟨b, off, none⟩ ∧ ZAt w b (off + k * 3) (zs k) ∧ (0 ≤ (zs k).proc ∧ (zs k).proc ≤ 255) ∧ 0 ≤ (zs k).key ∧ (zs k).key ≤ 255
theorem sizeOf54 (w : World) : (sizeOf 54).run Yba.prog w = .ok 3 w := by kernel_rfl
theorem sizeOf3 (w : World) : (sizeOf 3).run Yba.prog w = .ok 1 w := by kernel_rfl
theorem idx22 {a : Option Addr} {b off n c : Nat} {k : Nat} (ha : a = some ⟨b, off, none⟩) (hk : k < n) (w : World) : (Instr.indexAt 22 (.slice a n c) (.int .i64 k)).run Yba.prog w = .ok (.pointer (some ⟨b, off + k * 3, none⟩)) w := by
  subst ha
  rw [run_indexAt_slice (h := by kernel_rfl), if_pos (by omega)]
  have e : Yba.prog.elem 22 = 54 := by kernel_rfl
  rw [e, sizeOf54]
  simp [Addr.add]
theorem idx52 (A p : Nat) (hp : p < 2) (w : World) : (Instr.indexAt 52 (.pointer (some ⟨A, 0, none⟩)) (.int .i64 p)).run Yba.prog w = .ok (.pointer (some ⟨A, p, none⟩)) w := by
  have e : Yba.prog.elem 52 = 3 := by kernel_rfl
  have e2 : Yba.prog.arrayLen 52 = 2 := by kernel_rfl
  rw [run_indexAt_array (h := by kernel_rfl), e, e2, if_pos (by omega), sizeOf3]
  simp [Addr.add]
  exact fun h => h.symm

def RN : Role → Prop := fun r => r ≠ .no
theorem RB.rn {r : Role} (h : RB r) : RN r := by rintro rfl; unfold RB at h; simp at h
abbrev ρ0 : Rho := fun _ => .no
/-- At the head of the first loop. -/
structure J6 (w : World) (C A Lb : Nat) (s : BS) (ρ : Rho) (wr : World) (vo vf vs : Value) (pv : Nat → Value) : Prop where
  bld : Bld ρ wr C A s.O s.P vo vf vs pv
  last : St ρ wr .last Lb 52 #[.int .i64 (s.l 0), .int .i64 (s.l 1)]
  stp : Stp RN ρ0 w ρ wr
def K6 (w : World) (C A Lb : Nat) (s : BS) (wr : World) : Prop := ∃ ρ vo vf vs pv, J6 w C A Lb s ρ wr vo vf vs pv
theorem K6.add {w w1 : World} {C A Lb : Nat} {s : BS} {ρ : Rho} {wr : World} {vo vf vs : Value} {pv : Nat → Value} {p k : Nat} {rd : Bool} {fr : Int} (h : J6 w C A Lb s ρ wr vo vf vs pv) (ha : Added C A s.O s.P p ⟨rd, k, if rd then fr else -1⟩ ρ wr w1) : K6 w C A Lb (s.add p k rd fr) w1 := by
  obtain ⟨ρ', vo', vf', vs', pv', hb, hs⟩ := ha
  exact ⟨ρ', vo', vf', vs', pv', hb, h.last.keep hs (by unfold RB; simp), h.stp.trans (hs.mono fun _ => RB.rn)⟩
theorem last_at {l : Nat → Int} {k : Nat} (hk : k < 2) : (#[.int .i64 (l 0), .int .i64 (l 1)] : Array Value)[k]? = some (.int .i64 (l k)) := by
  have : k = 0 ∨ k = 1 := by omega
  rcases this with rfl | rfl <;> rfl
theorem last_set {l : Nat → Int} {k : Nat} (hk : k < 2) (x : Int) : (#[.int .i64 (l 0), .int .i64 (l 1)] : Array Value).setIfInBounds k (.int .i64 x) = #[.int .i64 (upd l k x 0), .int .i64 (upd l k x 1)] := by
  have : k = 0 ∨ k = 1 := by omega
  rcases this with rfl | rfl <;> simp [upd]

/-- What the build leaves: the checker, its processes. -/
structure Chk (ρ : Rho) (w : World) (C : Nat) (O : List OpR) (Q : List Nat) (P : Nat → List Nat) (vo vp vf vs : Value) : Prop where
  chk : St ρ w .chk C 50 #[vo, vp, vf, vs]
  ops : Row ρ w .ops 74 6 vo O.length (flatO O)
  frm : Row ρ w .frm 3 1 vf O.length (O.map fun o => .int .i64 o.fr)
  swp : Row ρ w .swp 4 1 vs O.length (List.replicate O.length (.bool false))
  prc : Rag ρ w .procs (fun i => .proc Q[i]!) vp (Q.map P)

theorem K6.start (w : World) : K6 w w.heap.size (w.heap.size + 1) (w.heap.size + 1 + 1) ⟨[], fun _ => [], fun _ => -1⟩ (((w.alloc (.cells #[.slice none 0 0, .slice none 0 0, .slice none 0 0, .slice none 0 0] 50)).alloc (.cells #[.slice none 0 0, .slice none 0 0, .slice none 0 0] 51)).alloc (.cells #[.int .i64 (-1), .int .i64 (-1)] 52)) := by
  have s1 : St (ext ρ0 w .chk) (w.alloc (.cells #[.slice none 0 0, .slice none 0 0, .slice none 0 0, .slice none 0 0] 50)) .chk w.heap.size 50 #[.slice none 0 0, .slice none 0 0, .slice none 0 0, .slice none 0 0] := St.new
  obtain ⟨w1, e1⟩ : ∃ w1, w1 = w.alloc (.cells #[.slice none 0 0, .slice none 0 0, .slice none 0 0, .slice none 0 0] 50) := ⟨_, rfl⟩
  have z1 : w1.heap.size = w.heap.size + 1 := by rw [e1]; simp
  have t1 : Stp RN ρ0 w (ext ρ0 w .chk) w1 := by rw [e1]; exact (Stp.refl _ _ _).alloc _ _
  rw [← e1] at s1 ⊢
  obtain ⟨ρ1, r1⟩ : ∃ ρ1, ρ1 = ext ρ0 w .chk := ⟨_, rfl⟩
  rw [← r1] at s1 t1
  have s2 : St (ext ρ1 w1 .arr) (w1.alloc (.cells #[.slice none 0 0, .slice none 0 0, .slice none 0 0] 51)) .arr w1.heap.size 51 #[.slice none 0 0, .slice none 0 0, .slice none 0 0] := St.new
  have t2 : ∀ R, Stp R ρ1 w1 (ext ρ1 w1 .arr) (w1.alloc (.cells #[.slice none 0 0, .slice none 0 0, .slice none 0 0] 51)) := fun _ => (Stp.refl _ _ _).alloc _ _
  obtain ⟨w2, e2⟩ : ∃ w2, w2 = w1.alloc (.cells #[.slice none 0 0, .slice none 0 0, .slice none 0 0] 51) := ⟨_, rfl⟩
  have z2 : w2.heap.size = w.heap.size + 1 + 1 := by rw [e2, ← z1]; simp
  rw [z1, ← e2] at s2
  rw [← e2]
  rw [← e2] at t2
  obtain ⟨ρ2, r2⟩ : ∃ ρ2, ρ2 = ext ρ1 w1 .arr := ⟨_, rfl⟩
  rw [← r2] at s2 t2
  have s3 : St (ext ρ2 w2 .last) (w2.alloc (.cells #[.int .i64 (-1), .int .i64 (-1)] 52)) .last w2.heap.size 52 #[.int .i64 (-1), .int .i64 (-1)] := St.new
  have t3 : ∀ R, Stp R ρ2 w2 (ext ρ2 w2 .last) (w2.alloc (.cells #[.int .i64 (-1), .int .i64 (-1)] 52)) := fun _ => (Stp.refl _ _ _).alloc _ _
  rw [z2] at s3
  exact ⟨_, .slice none 0 0, .slice none 0 0, .slice none 0 0, fun _ => .slice none 0 0, ⟨(s1.keep (t2 (fun _ => False)) (fun h => h)).keep (t3 (fun _ => False)) (fun h => h), s2.keep (t3 (fun _ => False)) (fun h => h), Row.nil _ _ _ _ _, Row.nil _ _ _ _ _, Row.nil _ _ _ _ _, fun _ _ => NRow.nil _ _ _⟩, s3, (t1.trans (t2 _)).trans (t3 _)⟩

/-- At the head of the second loop: q processes are in. -/
structure J7 (w : World) (C A : Nat) (O : List OpR) (P : Nat → List Nat) (Q : List Nat) (ρ : Rho) (wr : World) (vo vp vf vs : Value) (pv : Nat → Value) : Prop where
  chk : Chk ρ wr C O Q P vo vp vf vs
  arr : St ρ wr .arr A 51 #[pv 0, pv 1, pv 2]
  prc : ∀ p, p < 3 → NRow ρ wr (.proc p) (pv p) (P p)
  stp : Stp RN ρ0 w ρ wr
def qs (P : Nat → List Nat) (k : Nat) : List Nat := (List.range k).filter fun p => decide (P p ≠ [])
theorem qs_succ (P : Nat → List Nat) (k : Nat) : qs P (k + 1) = qs P k ++ (if P k = [] then [] else [k]) := by
  unfold qs
  rw [List.range_succ, List.filter_append]
  congr 1
  by_cases h : P k = [] <;> simp [h]
theorem qs_len (P : Nat → List Nat) (k : Nat) : (qs P k).length ≤ k := by unfold qs; exact Nat.le_trans (List.length_filter_le _ _) (by simp)
def K7 (w : World) (C A : Nat) (O : List OpR) (P : Nat → List Nat) (k : Nat) (wr : World) : Prop := ∃ ρ vo vp vf vs pv, J7 w C A O P (qs P k) ρ wr vo vp vf vs pv
theorem J7.next {w w5 : World} {C A : Nat} {O : List OpR} {P : Nat → List Nat} {k : Nat} {ρ : Rho} {wr : World} {vo vp vf vs : Value} {pv : Nat → Value} {vl : List Value} {v5 : Value} (h : J7 w C A O P (qs P k) ρ wr vo vp vf vs pv) (hk : k < 3) (hne : P k ≠ [])
    (hl : vl.length = (qs P k).length) (hv : ∀ i, i < (qs P k).length → NRow ρ wr (.proc (qs P k)[i]!) vl[i]! ((qs P k).map P)[i]!) (hr : Row (ext ρ wr .procs) w5 .procs 38 1 v5 ((qs P k).length + 1) (vl ++ [pv k])) (hs : Stp (fun q => q = .procs) ρ wr (ext ρ wr .procs) w5) :
    K7 w C A O P (k + 1) (w5.setCell ⟨C, 1, none⟩ v5) := by
  have hc5 := h.chk.chk.keep hs (by decide)
  have hs6 := hc5.store 1 v5
  have e : qs P (k + 1) = qs P k ++ [k] := by rw [qs_succ, if_neg hne]
  refine ⟨ext ρ wr .procs, vo, v5, vf, vs, pv, ⟨hc5.set 1 v5, (h.chk.ops.keep hs (by decide)).keep hs6 (by decide), (h.chk.frm.keep hs (by decide)).keep hs6 (by decide), (h.chk.swp.keep hs (by decide)).keep hs6 (by decide), ⟨vl ++ [pv k], ?_, ?_, fun i hi => ?_⟩⟩, (h.arr.keep hs (by decide)).keep hs6 (by decide), fun q hq => ((h.prc q hq).keep hs (by simp)).keep hs6 (by simp), h.stp.trans ((hs.one (by unfold RN; simp)).trans (hs6.one (by unfold RN; simp)))⟩
  · rw [e]; simp [hl]
  · rw [e]; simp only [List.length_map, List.length_append, List.length_cons, List.length_nil]; exact hr.keep hs6 (by decide)
  · rw [e] at hi ⊢
    simp only [List.length_map, List.length_append, List.length_cons, List.length_nil] at hi
    rcases Nat.lt_or_ge i (qs P k).length with h1 | h1
    · have a1 : (qs P k ++ [k])[i]! = (qs P k)[i]! := by rw [getElem!_pos _ i (by simp; omega), getElem!_pos _ i h1, List.getElem_append_left h1]
      have a2 : (vl ++ [pv k])[i]! = vl[i]! := by rw [getElem!_pos _ i (by simp; omega), getElem!_pos _ i (by omega), List.getElem_append_left (by omega)]
      have a3 : ((qs P k ++ [k]).map P)[i]! = ((qs P k).map P)[i]! := by rw [List.map_append, getElem!_pos _ i (by simp; omega), getElem!_pos _ i (by simpa using h1), List.getElem_append_left (by simpa using h1)]
      rw [a1, a2, a3]
      exact ((hv i h1).keep hs (by simp)).keep hs6 (by simp)
    · obtain rfl : i = (qs P k).length := by omega
      have a1 : (qs P k ++ [k])[(qs P k).length]! = k := by simp
      have a2 : (vl ++ [pv k])[(qs P k).length]! = pv k := by rw [← hl]; simp
      have a3 : ((qs P k ++ [k]).map P)[(qs P k).length]! = P k := by rw [getElem!_pos _ _ (by simp)]; simp
      rw [a1, a2, a3]
      exact ((h.prc k hk).keep hs (by simp)).keep hs6 (by simp)

set_option maxHeartbeats 4000000 in
set_option maxRecDepth 100000 in
theorem build_any (a0 : Option Addr) (n c0 : Nat) (st : Bool) (zs : Nat → Z6) (w : World) (hn : n ≤ 1024) (hz : InZ w a0 n zs) :
    Calls Yba.prog 6 #[.slice a0 n c0, .bool st] w fun e w' => ∃ C, e = .returned (.pointer (some ⟨C, 0, none⟩)) ∧ ∃ A, K7 w C A ((runB zs n).fin st).O ((runB zs n).fin st).P 3 w' := by
  have HZ := hide hz
  clear hz
  go_enter Yba.func6, Yba.ntmps6
  go_upto_block 0 with fail
  have hst := K6.start w
  obtain ⟨W0, e0⟩ : ∃ W0, W0 = (((w.alloc (.cells #[.slice none 0 0, .slice none 0 0, .slice none 0 0, .slice none 0 0] 50)).alloc (.cells #[.slice none 0 0, .slice none 0 0, .slice none 0 0] 51)).alloc (.cells #[.int .i64 (-1), .int .i64 (-1)] 52)) := ⟨_, rfl⟩
  rw [← e0] at hst ⊢
  obtain ⟨C, eC⟩ : ∃ C, C = w.heap.size := ⟨_, rfl⟩
  obtain ⟨A, eA⟩ : ∃ A, A = w.heap.size + 1 := ⟨_, rfl⟩
  obtain ⟨Lb, eL⟩ : ∃ Lb, Lb = w.heap.size + 1 + 1 := ⟨_, rfl⟩
  rw [← eL, ← eA, ← eC] at hst ⊢
  have HST := hide hst
  clear hst e0 eC eA eL
  go_cut [8] (fun _ wx => K6 w C A Lb (runB zs n) wx)
  case first =>
    go_wp2
    go_loopw [8, 9, 10] (fun i _ _ wr => ∃ k : Nat, k ≤ n ∧ i = .int .i64 k ∧ K6 w C A Lb (runB zs k) wr) (fun i _ _ _ => n - (intOf i).toNat)
    case atStart => exact ⟨0, by omega, rfl, HST.out⟩
    case round =>
      clear HST
      obtain ⟨k, hk, rfl, ρ, vo, vf, vs, pv, hj⟩ := hrel
      have HJ := hide hj
      by_cases hlt : k < n
      · obtain ⟨b, off, ha, hza, hpb, hkb⟩ := HZ.out k hlt
        have hidx := fun wx => idx22 (c := c0) ha hlt wx
        have hzr := hza.of_block (hj.stp.block b (World.block_lt_of_cell? _ _ hza.c0) (by unfold RN; simp))
        obtain ⟨z, hzz⟩ : ∃ z, z = zs k := ⟨_, rfl⟩
        rw [← hzz] at hzr hpb hkb
        have HZZ : Hid (runB zs (k + 1) = (runB zs k).step z) := by show _ = _; rw [hzz]; rfl
        obtain ⟨s, hs⟩ : ∃ s, s = runB zs k := ⟨_, rfl⟩
        have hsO : s.O.length = k := by rw [hs]; exact runB_O zs k
        have hsP := fun q => runB_P zs k q
        rw [← hs] at hj HJ HZZ hsP
        obtain ⟨p0, p1, p2⟩ := hzr
        have hpm : z.proc % 3 = ((pz z : Nat) : Int) := by unfold pz; omega
        have hkm : z.key % 2 = ((kz z : Nat) : Int) := by unfold kz; omega
        have hpl := pz_lt z
        have hkl := kz_lt z
        have ix2 := fun wx => idx52 Lb (kz z) hkl wx
        have l0 := hj.last.cell (kz z) (last_at hkl)
        have HSO := hide hsO
        have HSP := hide hsP
        clear ha hza hzz hs hsO hsP
        by_cases hrd : z.rd = true
        · rw [hrd] at p2
          have AD := hide (add_any C A s.O s.P vo vf vs pv (pz z) (kz z) true (s.l (kz z)) ρ wr hpl (by rw [HSO.out]; omega) (by have := HSP.out (pz z); omega) hj.bld)
          have HN : Hid (runB zs (k + 1) = s.add (pz z) (kz z) true (s.l (kz z))) := by show _ = _; rw [HZZ.out]; unfold BS.step; rw [if_pos hrd]
          clear hj
          go_wp2_with (go_at_call 12; refine AD.out.mono ?_; rintro e w5 ⟨rfl, ha5⟩; have HA5 := hide ha5; clear ha5)
          go_roundw
          case rel => exact ⟨k + 1, by omega, by go_num, by rw [HN.out]; exact K6.add HJ.out HA5.out⟩
          case measure => simp [intOf]; omega
        · have hrd' : z.rd = false := by simpa using hrd
          rw [hrd'] at p2
          have AD := hide (add_any C A s.O s.P vo vf vs pv (pz z) (kz z) false 0 ρ wr hpl (by rw [HSO.out]; omega) (by have := HSP.out (pz z); omega) hj.bld)
          have HN : Hid (runB zs (k + 1) = { s.add (pz z) (kz z) false 0 with l := upd s.l (kz z) s.O.length }) := by show _ = _; rw [HZZ.out]; unfold BS.step; rw [if_neg hrd]
          clear hj
          go_wp2_with (go_at_call 12; refine AD.out.mono ?_; rintro e w5 ⟨rfl, ha5⟩; obtain ⟨ρ5, vo5, vf5, vs5, pv5, hj5⟩ := K6.add HJ.out ha5; have k5 := hj5.last.cell (kz z) (last_at hkl); have f5 := hj5.last.free (kz z); have HJ5 := hide hj5; clear ha5 hj5)
          go_roundw
          case rel =>
            have hj5 := HJ5.out
            have hs6 := hj5.last.store (kz z) (.int .i64 s.O.length)
            have hl6 := hj5.last.set (kz z) (.int .i64 s.O.length)
            rw [last_set hkl] at hl6
            exact ⟨k + 1, by omega, by go_num, by
              rw [HN.out]
              exact ⟨ρ5, vo5, vf5, vs5, pv5, ⟨hj5.bld.chk.keep hs6 (by decide), hj5.bld.arr.keep hs6 (by decide), hj5.bld.ops.keep hs6 (by decide), hj5.bld.frm.keep hs6 (by decide), hj5.bld.swp.keep hs6 (by decide), fun q hq => (hj5.bld.prc q hq).keep hs6 (by simp)⟩, hl6, hj5.stp.trans (hs6.one (by unfold RN; simp))⟩⟩
          case measure => simp [intOf]; omega
      · obtain rfl : k = n := by omega
        clear hj
        go_wp2
        go_meet
        case rel => exact ⟨_, _, _, _, _, HJ.out⟩
  obtain ⟨W1, e1⟩ : ∃ W1, W1 = wc := ⟨_, rfl⟩
  subst e1
  have HK1 := hide hcut
  clear hcut HST
  go_upto_if 54 with fail
  go_cut [11] (fun _ wx => K6 w C A Lb ((runB zs n).fin st) wx)
  case first =>
    cases st with
    | false =>
      go_wp2
      go_meet
      case rel => exact HK1.out
    | true =>
      have hO := runB_O zs n
      have hP := runB_P zs n 0
      obtain ⟨s, hs⟩ : ∃ s, s = runB zs n := ⟨_, rfl⟩
      rw [← hs] at hO hP HK1
      have HN : Hid ((runB zs n).fin true = ((s.add 0 0 false 0).add 0 0 false 0).add 0 0 true s.O.length) := by show _ = _; rw [← hs]; rfl
      have HO : Hid (s.O.length = n ∧ (s.P 0).length ≤ n) := ⟨hO, hP⟩
      clear hs hO hP
      obtain ⟨ρ1, vo1, vf1, vs1, pv1, hj1⟩ := HK1.out
      have AD1 : Hid (Calls Yba.prog 12 #[.pointer (some ⟨C, 0, none⟩), .pointer (some ⟨A, 0, none⟩), .int .i64 0, .int .i64 0, .bool false, .int .i64 0] W1 fun e w' => e = .returned (.int .i64 s.O.length) ∧ K6 w C A Lb (s.add 0 0 false 0) w') :=
        (add_any C A s.O s.P vo1 vf1 vs1 pv1 0 0 false 0 ρ1 W1 (by omega) (by have := HO.out; omega) (by have := HO.out; omega) hj1.bld).mono fun _ _ ⟨he, h⟩ => ⟨he, K6.add hj1 h⟩
      have AD2 : Hid (∀ wx, K6 w C A Lb (s.add 0 0 false 0) wx → Calls Yba.prog 12 #[.pointer (some ⟨C, 0, none⟩), .pointer (some ⟨A, 0, none⟩), .int .i64 0, .int .i64 0, .bool false, .int .i64 0] wx fun e w' => e = .returned (.int .i64 (s.add 0 0 false 0).O.length) ∧ K6 w C A Lb ((s.add 0 0 false 0).add 0 0 false 0) w') := fun wx hk => by
        obtain ⟨ρ2, vo2, vf2, vs2, pv2, hj2⟩ := hk
        exact (add_any C A _ _ vo2 vf2 vs2 pv2 0 0 false 0 ρ2 wx (by omega) (by have := HO.out; simp [BS.add]; omega) (by have := HO.out; simp [BS.add, upd]; omega) hj2.bld).mono fun _ _ ⟨he, h⟩ => ⟨he, K6.add hj2 h⟩
      have AD3 : Hid (∀ wx, K6 w C A Lb ((s.add 0 0 false 0).add 0 0 false 0) wx → Calls Yba.prog 12 #[.pointer (some ⟨C, 0, none⟩), .pointer (some ⟨A, 0, none⟩), .int .i64 0, .int .i64 0, .bool true, .int .i64 s.O.length] wx fun e w' => e = .returned (.int .i64 ((s.add 0 0 false 0).add 0 0 false 0).O.length) ∧ K6 w C A Lb (((s.add 0 0 false 0).add 0 0 false 0).add 0 0 true s.O.length) w') := fun wx hk => by
        obtain ⟨ρ2, vo2, vf2, vs2, pv2, hj2⟩ := hk
        exact (add_any C A _ _ vo2 vf2 vs2 pv2 0 0 true s.O.length ρ2 wx (by omega) (by have := HO.out; simp [BS.add]; omega) (by have := HO.out; simp [BS.add, upd]; omega) hj2.bld).mono fun _ _ ⟨he, h⟩ => ⟨he, K6.add hj2 h⟩
      clear hj1
      go_upto_region 14 with (go_at_call 12; refine AD1.out.mono ?_; rintro e w2 ⟨rfl, h2⟩)
      have HK2 := hide h2
      clear h2
      go_upto_region 15 with (go_at_call 12; refine (AD2.out _ HK2.out).mono ?_; rintro e w3 ⟨rfl, h3⟩)
      have HK3 := hide h3
      clear h3
      go_wp2_with (go_at_call 12; refine (AD3.out _ HK3.out).mono ?_; rintro e w4 ⟨rfl, h4⟩)
      have HK4 := hide h4
      clear h4
      go_meet
      case rel => rw [HN.out]; exact HK4.out
  obtain ⟨W2, e2⟩ : ∃ W2, W2 = wc := ⟨_, rfl⟩
  subst e2
  obtain ⟨s, hs⟩ : ∃ s, s = (runB zs n).fin st := ⟨_, rfl⟩
  rw [← hs] at hcut
  have HS := hide hs
  have HK7 : Hid (K7 w C A s.O s.P 0 W2) := by
    obtain ⟨ρ2, vo2, vf2, vs2, pv2, hj⟩ := hcut
    exact ⟨ρ2, vo2, _, vf2, vs2, pv2, ⟨hj.bld.chk, hj.bld.ops, hj.bld.frm, hj.bld.swp, ⟨[], rfl, Row.nil _ _ _ _ _, fun i hi => by simp [qs] at hi⟩⟩, hj.bld.arr, hj.bld.prc, hj.stp⟩
  clear hcut hs HK1
  go_upto_block 2 with fail
  go_cut [12] (fun _ wx => K7 w C A s.O s.P 3 wx)
  case first =>
    go_wp2
    go_loopw [12] (fun i wr => ∃ k : Nat, k ≤ 3 ∧ i = .int .i64 k ∧ K7 w C A s.O s.P k wr) (fun i _ => 3 - (intOf i).toNat)
    case atStart => exact ⟨0, by omega, rfl, HK7.out⟩
    case round =>
      clear HK7
      obtain ⟨k, hk, rfl, ρ, vo, vp, vf, vs, pv, hj⟩ := hrel
      have HJ := hide hj
      by_cases hlt : k < 3
      · have ix := fun wx => idx51 A k hlt wx
        have a0 := hj.arr.cell k (arr_at hlt)
        obtain ⟨aP, cP, hvP, _, _⟩ := Row.form (hj.prc k hlt)
        have HVP := hide hvP
        rw [hvP] at a0
        by_cases hne : s.P k = []
        · have hl0 : (s.P k).length = 0 := by rw [hne]; rfl
          have HN : Hid (K7 w C A s.O s.P (k + 1) wr) := by
            have e : qs s.P (k + 1) = qs s.P k := by rw [qs_succ, if_pos hne, List.append_nil]
            exact ⟨ρ, vo, vp, vf, vs, pv, by rw [e]; exact hj⟩
          clear hj hne hvP
          rw [hl0] at a0
          go_wp2
          go_roundw
          case rel => exact ⟨k + 1, by omega, by go_num, HN.out⟩
          case measure => simp [intOf]; omega
        · have hl0 : 0 < (s.P k).length := List.length_pos_iff.2 hne
          obtain ⟨vl, hvl, hvr, hvn⟩ := hj.chk.prc.ex
          rw [List.length_map] at hvl hvr hvn
          obtain ⟨aQ, cQ, hvQ, _, _⟩ := hvr.form
          subst hvQ
          have b1 := hj.chk.chk.cell 1 rfl
          have a0a := fun o => cell?_alloc_old o a0
          have b1a := fun o => cell?_alloc_old o b1
          have hq3 := qs_len s.P k
          have HV := hide (And.intro hvl (And.intro hvr hvn))
          have HNE := hide hne
          clear hj hne hvP hvl hvr hvn
          go_upto_region 20 with fail
          go_region_law (refine step_app wr _ (by rfl) _ _ _ (by rfl) .procs 38 _ 1 24 Yba.underlying48 info38 rfl (by omega) (.slice aQ (qs s.P k).length cQ) (qs s.P k).length vl (by rfl) HV.out.2.1 ((Below.refl _ wr).alloc (Nat.le_refl _) _).drew wr.heap.size #[.slice aP (s.P k).length cP] (0, 0) (heap_alloc_new wr _) (by rfl) rfl (by simp [Value.oneCell']) (by omega) (by omega) ?_; intro g5 c5 w5 hr5 hs5; have hc5 := HJ.out.chk.chk.keep hs5 (by decide); have k5 := hc5.cell 1 rfl; have f5 := hc5.free 1; have H5 := hide (And.intro hr5 hs5); clear hr5 hs5 hc5)
          all_goals
            go_wp2
            go_roundw
            case rel => exact ⟨k + 1, by omega, by go_num, HJ.out.next hlt HNE.out HV.out.1 HV.out.2.2 (by rw [HVP.out]; exact H5.out.1) H5.out.2⟩
            case measure => simp [intOf]; omega
      · obtain rfl : k = 3 := by omega
        clear hj
        go_wp2
        go_meet
        case rel => exact ⟨_, _, _, _, _, _, HJ.out⟩
  obtain ⟨W3, e3⟩ : ∃ W3, W3 = wc := ⟨_, rfl⟩
  subst e3
  have HN := hide hcut
  clear hcut
  go_wp2
  go_ret
  exact ⟨C, rfl, A, by rw [← HS.out]; exact HN.out⟩
end Go.Proofs.Ybulknju
