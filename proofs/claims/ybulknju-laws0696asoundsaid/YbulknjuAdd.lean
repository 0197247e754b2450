import Derived.Test.YbulknjuStep
import Derived.Shelf.Abstract
import Derived.Stop.LaidErr
namespace Go.Proofs.Ybulknju
open Go.RowKit

/-- One operation of the history. -/
structure OpR where
  rd : Bool
  kx : Nat
  fr : Int
/-- The operation at a place. -/
def opAt (O : List OpR) (k : Nat) : OpR := O.getD k ⟨false, 0, 0⟩
theorem opAt_pos (O : List OpR) (k : Nat) (h : k < O.length) : opAt O k = O[k] := by unfold opAt; rw [List.getD_eq_getElem?_getD, List.getElem?_eq_getElem h]; rfl
theorem opAt_neg (O : List OpR) (k : Nat) (h : ¬ k < O.length) : opAt O k = ⟨false, 0, 0⟩ := by unfold opAt; rw [List.getD_eq_getElem?_getD, List.getElem?_eq_none (by omega)]; rfl
def kn (k : Nat) : ByteArray := if k = 0 then ⟨#[97]⟩ else ⟨#[98]⟩
def kd (b : Bool) : ByteArray := if b then ⟨#[114, 101, 97, 100]⟩ else ⟨#[119, 114, 105, 116, 101]⟩
def encO (o : OpR) : List Value := [.int .i64 0, .string (kd o.rd), .string (kn o.kx), .string ⟨#[]⟩, .string ⟨#[]⟩, .int .i64 0]
def flatO (O : List OpR) : List Value := O.flatMap encO
theorem flatO_app (O : List OpR) (x : OpR) : flatO (O ++ [x]) = flatO O ++ encO x := by unfold flatO; rw [List.flatMap_append]; simp
theorem info74 : (Yba.prog.info? 74).map (fun i => (i.zero, i.size, i.bytes)) = some (some (.agg #[.int .i64 0, .string ⟨#[]⟩, .string ⟨#[]⟩, .string ⟨#[]⟩, .string ⟨#[]⟩, .int .i64 0]), 6, 80) := by kernel_rfl
theorem info3 : (Yba.prog.info? 3).map (fun i => (i.zero, i.size, i.bytes)) = some (some (.int .i64 0), 1, 8) := by kernel_rfl
theorem info4 : (Yba.prog.info? 4).map (fun i => (i.zero, i.size, i.bytes)) = some (some (.bool false), 1, 1) := by kernel_rfl
theorem info38 : (Yba.prog.info? 38).map (fun i => (i.zero, i.size, i.bytes)) = some (some (.slice none 0 0), 1, 24) := by kernel_rfl

set_option maxHeartbeats 400000 in
theorem key_any (k : Nat) (w : World) : Calls Yba.prog 21 #[.int .i64 k] w fun e w' => e = .returned (.string (kn k)) ∧ w' = w := by
  by_cases h : k = 0
  · subst h
    have e : kn 0 = ⟨#[97]⟩ := rfl
    rw [e]
    go_enter Yba.func21, Yba.ntmps21
    go_wp2
    go_ret
    exact ⟨rfl, rfl⟩
  · have e : kn k = ⟨#[98]⟩ := if_neg h
    rw [e]
    have h' : ((k : Int) == 0) = false := by rw [beq_eq_false_iff_ne]; omega
    go_enter Yba.func21, Yba.ntmps21
    go_wp2
    go_ret
    exact ⟨rfl, rfl⟩
theorem eg21 : ∀ args w, (callFunc 21 args).run Yba.prog w = .ok (.enter 21 args) w := enters_of Yba.func21 (by kernel_rfl) rfl

def upd {α : Type} (f : Nat → α) (p : Nat) (x : α) : Nat → α := fun q => if q = p then x else f q
/-- The history being built. -/
structure Bld (ρ : Rho) (w : World) (C A : Nat) (O : List OpR) (P : Nat → List Nat) (vo vf vs : Value) (pv : Nat → Value) : Prop where
  chk : St ρ w .chk C 50 #[vo, .slice none 0 0, vf, vs]
  arr : St ρ w .arr A 51 #[pv 0, pv 1, pv 2]
  ops : Row ρ w .ops 74 6 vo O.length (flatO O)
  frm : Row ρ w .frm 3 1 vf O.length (O.map fun o => .int .i64 o.fr)
  swp : Row ρ w .swp 4 1 vs O.length (List.replicate O.length (.bool false))
  prc : ∀ p, p < 3 → NRow ρ w (.proc p) (pv p) (P p)
def RB : Role → Prop := fun r => r = .chk ∨ r = .arr ∨ r = .ops ∨ r = .frm ∨ r = .swp ∨ ∃ p, r = .proc p

/-- What one more operation leaves. -/
def Added (C A : Nat) (O : List OpR) (P : Nat → List Nat) (p : Nat) (x : OpR) (ρ : Rho) (w w' : World) : Prop :=
  ∃ ρ' vo' vf' vs' pv', Bld ρ' w' C A (O ++ [x]) (upd P p (P p ++ [O.length])) vo' vf' vs' pv' ∧ Stp RB ρ w ρ' w'

theorem arr_at {pv : Nat → Value} {p : Nat} (hp : p < 3) : (#[pv 0, pv 1, pv 2] : Array Value)[p]? = some (pv p) := by
  have : p = 0 ∨ p = 1 ∨ p = 2 := by omega
  rcases this with rfl | rfl | rfl <;> rfl
theorem arr_set {pv : Nat → Value} {p : Nat} (hp : p < 3) (v : Value) : (#[pv 0, pv 1, pv 2] : Array Value).setIfInBounds p v = #[upd pv p v 0, upd pv p v 1, upd pv p v 2] := by
  have : p = 0 ∨ p = 1 ∨ p = 2 := by omega
  rcases this with rfl | rfl | rfl <;> simp [upd]
theorem sizeOf38 (w : World) : (sizeOf 38).run Yba.prog w = .ok 1 w := by kernel_rfl
theorem idx51 (A p : Nat) (hp : p < 3) (w : World) : (Instr.indexAt 51 (.pointer (some ⟨A, 0, none⟩)) (.int .i64 p)).run Yba.prog w = .ok (.pointer (some ⟨A, p, none⟩)) w := by
  have e : Yba.prog.elem 51 = 38 := by kernel_rfl
  have e2 : Yba.prog.arrayLen 51 = 3 := by kernel_rfl
  rw [run_indexAt_array (h := by kernel_rfl), e, e2, if_pos (by omega), sizeOf38]
  simp [Addr.add]
  exact fun h => h.symm

set_option maxHeartbeats 4000000 in
set_option maxRecDepth 100000 in
theorem add_any (C A : Nat) (O : List OpR) (P : Nat → List Nat) (vo vf vs : Value) (pv : Nat → Value) (p k : Nat) (rd : Bool) (fr : Int) (ρ : Rho) (w : World) (hp : p < 3) (hO : O.length ≤ 2000) (hP : (P p).length ≤ 2000) (h : Bld ρ w C A O P vo vf vs pv) :
    Calls Yba.prog 12 #[.pointer (some ⟨C, 0, none⟩), .pointer (some ⟨A, 0, none⟩), .int .i64 p, .int .i64 k, .bool rd, .int .i64 fr] w fun e w' => e = .returned (.int .i64 O.length) ∧ Added C A O P p ⟨rd, k, if rd then fr else -1⟩ ρ w w' := by
  obtain ⟨ao, co, hvo, _, _⟩ := h.ops.form
  subst hvo
  obtain ⟨x, hx⟩ : ∃ x : OpR, x = ⟨rd, k, if rd then fr else -1⟩ := ⟨_, rfl⟩
  have HH := hide h
  have q0 := h.chk.cell 0 rfl
  have qa := fun o => cell?_alloc_old o q0
  have q2 := h.chk.cell 2 rfl
  have KY := hide (fun wx => key_any k wx)
  have HXX := hide hx
  rw [← hx]
  clear h hx
  go_enter Yba.func12, Yba.ntmps12
  go_upto_if 19 with fail
  go_cut [12] (fun _ wx => ∃ ρ1 vo1 vf1, St ρ1 wx .chk C 50 #[vo1, .slice none 0 0, vf1, vs] ∧ Row ρ1 wx .ops 74 6 vo1 (O.length + 1) (flatO O ++ encO x) ∧ Row ρ1 wx .frm 3 1 vf1 (O.length + 1) ((O.map fun o => .int .i64 o.fr) ++ [.int .i64 x.fr]) ∧ Stp (fun r => r = .chk ∨ r = .ops ∨ r = .frm) ρ w ρ1 wx)
  case first =>
    cases rd with
    | true =>
      have EX : Hid (encO x = [.int .i64 0, .string ⟨#[114, 101, 97, 100]⟩, .string (kn k), .string ⟨#[]⟩, .string ⟨#[]⟩, .int .i64 0]) := by show _ = _; rw [HXX.out]; rfl
      have EF : Hid (x.fr = fr) := by show _ = _; rw [HXX.out]; rfl
      go_upto_region 3 with fail
      go_region_law (first | (refine step_call _ (by rfl) 21 _ _ (by rfl) eg21 #[.int .i64 k] (by rfl) (KY.out _) ?_; rintro e w' ⟨rfl, rfl⟩; refine ⟨_, rfl, ?_⟩)
                           | (refine step_app w _ (by rfl) _ _ _ (by rfl) .ops 74 _ 6 80 Yba.underlying47 info74 rfl (by omega) (.slice ao O.length co) O.length (flatO O) (by rfl) HH.out.ops ((Below.refl _ w).alloc (Nat.le_refl _) _).drew w.heap.size #[.int .i64 0, .string ⟨#[114, 101, 97, 100]⟩, .string (kn k), .string ⟨#[]⟩, .string ⟨#[]⟩, .int .i64 0] (0, 0) (heap_alloc_new w _) (by rfl) rfl (by simp [Value.oneCell']) (by omega) (by omega) ?_; intro g5 c5 w5 hr5 hs5; have hc5 := HH.out.chk.keep hs5 (by decide); have k0 := hc5.cell 0 rfl; have f0 := hc5.free 0; have H5 := hide (And.intro hr5 (And.intro hs5 hc5)); clear hr5 hs5 hc5))
      all_goals
        obtain ⟨hr5, hs5, hc5⟩ := H5.out
        have hs6 := hc5.store 0 (.slice (some ⟨g5, 0, none⟩) (O.length + 1) c5)
        have hc6 := hc5.set 0 (.slice (some ⟨g5, 0, none⟩) (O.length + 1) c5)
        have H6 : Hid (Row (ext ρ w .ops) (w5.setCell ⟨C, 0, none⟩ (.slice (some ⟨g5, 0, none⟩) (O.length + 1) c5)) .ops 74 6 (.slice (some ⟨g5, 0, none⟩) (O.length + 1) c5) (O.length + 1) (flatO O ++ #[.int .i64 0, .string ⟨#[114, 101, 97, 100]⟩, .string (kn k), .string ⟨#[]⟩, .string ⟨#[]⟩, .int .i64 0].toList) ∧ Row (ext ρ w .ops) (w5.setCell ⟨C, 0, none⟩ (.slice (some ⟨g5, 0, none⟩) (O.length + 1) c5)) .frm 3 1 vf O.length (O.map fun o => .int .i64 o.fr) ∧ St (ext ρ w .ops) (w5.setCell ⟨C, 0, none⟩ (.slice (some ⟨g5, 0, none⟩) (O.length + 1) c5)) .chk C 50 #[(.slice (some ⟨g5, 0, none⟩) (O.length + 1) c5), .slice none 0 0, vf, vs] ∧ Stp (fun r => r = .chk ∨ r = .ops ∨ r = .frm) ρ w (ext ρ w .ops) (w5.setCell ⟨C, 0, none⟩ (.slice (some ⟨g5, 0, none⟩) (O.length + 1) c5))) := ⟨hr5.keep hs6 (by decide), (HH.out.frm.keep hs5 (by decide)).keep hs6 (by decide), hc6, (hs5.one (.inr (.inl rfl))).trans (hs6.one (.inl rfl))⟩
        obtain ⟨W6, e6⟩ : ∃ W6, W6 = w5.setCell ⟨C, 0, none⟩ (.slice (some ⟨g5, 0, none⟩) (O.length + 1) c5) := ⟨_, rfl⟩
        obtain ⟨ρ5, e5⟩ : ∃ ρ5, ρ5 = ext ρ w .ops := ⟨_, rfl⟩
        rw [← e6] at hc6 H6 ⊢
        rw [← e5] at hc6 H6
        clear k0 f0 q0 q2 qa
        have q2 := hc6.cell 2 rfl
        clear hr5 hs5 hc5 hs6 hc6 e6 e5 H5
        go_wp2_with (at_builtin; refine wpl_app W6 _ rfl _ _ _ rfl .frm 3 _ 1 8 Yba.underlying38 info3 rfl (by omega) vf O.length (O.map fun o => .int .i64 o.fr) rfl H6.out.2.1 ((Below.refl _ W6).alloc (Nat.le_refl _) _) W6.heap.size #[.int .i64 fr] (0, 0) (heap_alloc_new W6 _) rfl rfl (by simp [Value.oneCell']) (by omega) (by omega) ?_; intro g7 c7 w7 hr7 hs7; have hc7 := H6.out.2.2.1.keep hs7 (by decide); have k7 := hc7.cell 2 rfl; have f7 := hc7.free 2; have H7 := hide (And.intro hr7 (And.intro hs7 hc7)); clear hr7 hs7 hc7)
        go_meet
        case rel =>
          obtain ⟨hr7, hs7, hc7⟩ := H7.out
          have hs8 := hc7.store 2 (.slice (some ⟨g7, 0, none⟩) (O.length + 1) c7)
          exact ⟨_, _, _, hc7.set 2 _, by rw [EX.out]; exact (H6.out.1.keep hs7 (by decide)).keep hs8 (by decide), by rw [EF.out]; exact hr7.keep hs8 (by decide), (H6.out.2.2.2.trans (hs7.one (.inr (.inr rfl)))).trans (hs8.one (.inl rfl))⟩
    | false =>
      have EX : Hid (encO x = [.int .i64 0, .string ⟨#[119, 114, 105, 116, 101]⟩, .string (kn k), .string ⟨#[]⟩, .string ⟨#[]⟩, .int .i64 0]) := by show _ = _; rw [HXX.out]; rfl
      have EF : Hid (x.fr = (-1)) := by show _ = _; rw [HXX.out]; rfl
      go_upto_region 5 with fail
      go_region_law (first | (refine step_call _ (by rfl) 21 _ _ (by rfl) eg21 #[.int .i64 k] (by rfl) (KY.out _) ?_; rintro e w' ⟨rfl, rfl⟩; refine ⟨_, rfl, ?_⟩)
                           | (refine step_app w _ (by rfl) _ _ _ (by rfl) .ops 74 _ 6 80 Yba.underlying47 info74 rfl (by omega) (.slice ao O.length co) O.length (flatO O) (by rfl) HH.out.ops ((Below.refl _ w).alloc (Nat.le_refl _) _).drew w.heap.size #[.int .i64 0, .string ⟨#[119, 114, 105, 116, 101]⟩, .string (kn k), .string ⟨#[]⟩, .string ⟨#[]⟩, .int .i64 0] (0, 0) (heap_alloc_new w _) (by rfl) rfl (by simp [Value.oneCell']) (by omega) (by omega) ?_; intro g5 c5 w5 hr5 hs5; have hc5 := HH.out.chk.keep hs5 (by decide); have k0 := hc5.cell 0 rfl; have f0 := hc5.free 0; have H5 := hide (And.intro hr5 (And.intro hs5 hc5)); clear hr5 hs5 hc5))
      all_goals
        obtain ⟨hr5, hs5, hc5⟩ := H5.out
        have hs6 := hc5.store 0 (.slice (some ⟨g5, 0, none⟩) (O.length + 1) c5)
        have hc6 := hc5.set 0 (.slice (some ⟨g5, 0, none⟩) (O.length + 1) c5)
        have H6 : Hid (Row (ext ρ w .ops) (w5.setCell ⟨C, 0, none⟩ (.slice (some ⟨g5, 0, none⟩) (O.length + 1) c5)) .ops 74 6 (.slice (some ⟨g5, 0, none⟩) (O.length + 1) c5) (O.length + 1) (flatO O ++ #[.int .i64 0, .string ⟨#[119, 114, 105, 116, 101]⟩, .string (kn k), .string ⟨#[]⟩, .string ⟨#[]⟩, .int .i64 0].toList) ∧ Row (ext ρ w .ops) (w5.setCell ⟨C, 0, none⟩ (.slice (some ⟨g5, 0, none⟩) (O.length + 1) c5)) .frm 3 1 vf O.length (O.map fun o => .int .i64 o.fr) ∧ St (ext ρ w .ops) (w5.setCell ⟨C, 0, none⟩ (.slice (some ⟨g5, 0, none⟩) (O.length + 1) c5)) .chk C 50 #[(.slice (some ⟨g5, 0, none⟩) (O.length + 1) c5), .slice none 0 0, vf, vs] ∧ Stp (fun r => r = .chk ∨ r = .ops ∨ r = .frm) ρ w (ext ρ w .ops) (w5.setCell ⟨C, 0, none⟩ (.slice (some ⟨g5, 0, none⟩) (O.length + 1) c5))) := ⟨hr5.keep hs6 (by decide), (HH.out.frm.keep hs5 (by decide)).keep hs6 (by decide), hc6, (hs5.one (.inr (.inl rfl))).trans (hs6.one (.inl rfl))⟩
        obtain ⟨W6, e6⟩ : ∃ W6, W6 = w5.setCell ⟨C, 0, none⟩ (.slice (some ⟨g5, 0, none⟩) (O.length + 1) c5) := ⟨_, rfl⟩
        obtain ⟨ρ5, e5⟩ : ∃ ρ5, ρ5 = ext ρ w .ops := ⟨_, rfl⟩
        rw [← e6] at hc6 H6 ⊢
        rw [← e5] at hc6 H6
        clear k0 f0 q0 q2 qa
        have q2 := hc6.cell 2 rfl
        clear hr5 hs5 hc5 hs6 hc6 e6 e5 H5
        go_wp2_with (at_builtin; refine wpl_app W6 _ rfl _ _ _ rfl .frm 3 _ 1 8 Yba.underlying38 info3 rfl (by omega) vf O.length (O.map fun o => .int .i64 o.fr) rfl H6.out.2.1 ((Below.refl _ W6).alloc (Nat.le_refl _) _) W6.heap.size #[.int .i64 (-1)] (0, 0) (heap_alloc_new W6 _) rfl rfl (by simp [Value.oneCell']) (by omega) (by omega) ?_; intro g7 c7 w7 hr7 hs7; have hc7 := H6.out.2.2.1.keep hs7 (by decide); have k7 := hc7.cell 2 rfl; have f7 := hc7.free 2; have H7 := hide (And.intro hr7 (And.intro hs7 hc7)); clear hr7 hs7 hc7)
        go_meet
        case rel =>
          obtain ⟨hr7, hs7, hc7⟩ := H7.out
          have hs8 := hc7.store 2 (.slice (some ⟨g7, 0, none⟩) (O.length + 1) c7)
          exact ⟨_, _, _, hc7.set 2 _, by rw [EX.out]; exact (H6.out.1.keep hs7 (by decide)).keep hs8 (by decide), by rw [EF.out]; exact hr7.keep hs8 (by decide), (H6.out.2.2.2.trans (hs7.one (.inr (.inr rfl)))).trans (hs8.one (.inl rfl))⟩
  obtain ⟨W1, e1⟩ : ∃ W1, W1 = wc := ⟨_, rfl⟩
  subst e1
  obtain ⟨ρ1, vo1, vf1, hc1, ho1, hf1, hs1⟩ := hcut
  have hw1 := HH.out.swp.keep hs1 (by simp)
  have ha1 := HH.out.arr.keep hs1 (by simp)
  have hp1 : ∀ q, q < 3 → NRow ρ1 W1 (.proc q) (pv q) (P q) := fun q hq => (HH.out.prc q hq).keep hs1 (by simp)
  have H1 : Hid (Row ρ1 W1 .ops 74 6 vo1 (O.length + 1) (flatO O ++ encO x) ∧ Row ρ1 W1 .frm 3 1 vf1 (O.length + 1) ((O.map fun o => .int .i64 o.fr) ++ [.int .i64 x.fr]) ∧ (∀ q, q < 3 → NRow ρ1 W1 (.proc q) (pv q) (P q)) ∧ Stp (fun r => r = .chk ∨ r = .ops ∨ r = .frm) ρ w ρ1 W1) := ⟨ho1, hf1, hp1, hs1⟩
  have HC1 := hide hc1
  have HW1 := hide hw1
  have HA1 := hide ha1
  clear q0 q2 qa
  have q3 := hc1.cell 3 rfl
  clear hc1 ho1 hf1 hs1 hw1 ha1 hp1
  go_upto_region 8 with (at_builtin; refine wpl_app W1 _ rfl _ _ _ rfl .swp 4 _ 1 1 Yba.underlying32 info4 rfl (by omega) vs O.length (List.replicate O.length (.bool false)) rfl HW1.out ((Below.refl _ W1).alloc (Nat.le_refl _) _) W1.heap.size #[.bool false] (0, 0) (heap_alloc_new W1 _) rfl rfl (by simp [Value.oneCell']) (by omega) (by omega) ?_; intro g7 c7 w7 hr7 hs7; have hc7 := HC1.out.keep hs7 (by decide); have k7 := hc7.cell 3 rfl; have f7 := hc7.free 3; have H7 := hide (And.intro hr7 (And.intro hs7 hc7)); clear hr7 hs7 hc7)
  obtain ⟨hr7, hs7, hc7⟩ := H7.out
  have hs8 := hc7.store 3 (.slice (some ⟨g7, 0, none⟩) (O.length + 1) c7)
  have hc8 := hc7.set 3 (.slice (some ⟨g7, 0, none⟩) (O.length + 1) c7)
  have ha8 := (HA1.out.keep hs7 (by decide)).keep hs8 (by decide)
  have hp8 := fun q hq => ((H1.out.2.2.1 q hq).keep hs7 (by simp)).keep hs8 (by simp)
  have H8 : Hid (Row (ext ρ1 W1 .swp) (w7.setCell ⟨C, 3, none⟩ (.slice (some ⟨g7, 0, none⟩) (O.length + 1) c7)) .ops 74 6 vo1 (O.length + 1) (flatO O ++ encO x) ∧ Row (ext ρ1 W1 .swp) (w7.setCell ⟨C, 3, none⟩ (.slice (some ⟨g7, 0, none⟩) (O.length + 1) c7)) .frm 3 1 vf1 (O.length + 1) ((O.map fun o => .int .i64 o.fr) ++ [.int .i64 x.fr]) ∧ Row (ext ρ1 W1 .swp) (w7.setCell ⟨C, 3, none⟩ (.slice (some ⟨g7, 0, none⟩) (O.length + 1) c7)) .swp 4 1 (.slice (some ⟨g7, 0, none⟩) (O.length + 1) c7) (O.length + 1) (List.replicate O.length (.bool false) ++ [.bool false]) ∧ Stp RB ρ w (ext ρ1 W1 .swp) (w7.setCell ⟨C, 3, none⟩ (.slice (some ⟨g7, 0, none⟩) (O.length + 1) c7))) :=
    ⟨(H1.out.1.keep hs7 (by decide)).keep hs8 (by decide), (H1.out.2.1.keep hs7 (by decide)).keep hs8 (by decide), hr7.keep hs8 (by decide), ((H1.out.2.2.2.mono (fun r hr => by unfold RB; rcases hr with h | h | h <;> simp [h])).trans (hs7.one (by unfold RB; simp))).trans (hs8.one (by unfold RB; simp))⟩
  obtain ⟨W8, e8⟩ : ∃ W8, W8 = w7.setCell ⟨C, 3, none⟩ (.slice (some ⟨g7, 0, none⟩) (O.length + 1) c7) := ⟨_, rfl⟩
  obtain ⟨ρ8, r8⟩ : ∃ ρ8, ρ8 = ext ρ1 W1 .swp := ⟨_, rfl⟩
  rw [← e8] at hc8 ha8 H8 hp8 ⊢
  rw [← r8] at hc8 ha8 H8 hp8
  have HC8 := hide hc8
  have HA8 := hide ha8
  have HP8 := hide hp8
  have ap := ha8.cell p (arr_at hp)
  have hpp := HP8.out p hp
  obtain ⟨aP, cP, hvP, _, _⟩ := Row.form hpp
  have HPP := hide hpp
  have HVP := hide hvP
  rw [hvP] at ap
  have apa := fun o => cell?_alloc_old o ap
  have ix := fun wx => idx51 A p hp wx
  clear k7 f7 q3 hr7 hs7 hc7 hs8 hc8 ha8 hp8 hpp hvP e8 r8 HW1 HC1 HA1 H1 H7
  go_cut [12] (fun _ wx => ∃ g9 c9 w9, wx = w9.setCell ⟨A, p, none⟩ (.slice (some ⟨g9, 0, none⟩) ((P p).length + 1) c9) ∧ Row (ext ρ8 W8 (.proc p)) w9 (.proc p) 3 1 (.slice (some ⟨g9, 0, none⟩) ((P p).length + 1) c9) ((P p).length + 1) ((P p).map nv ++ [.int .i64 O.length]) ∧ Stp (fun q => q = .proc p) ρ8 W8 (ext ρ8 W8 (.proc p)) w9)
  case first =>
    go_region_law (refine step_app W8 _ (by rfl) _ _ _ (by rfl) (.proc p) 3 _ 1 8 Yba.underlying38 info3 rfl (by omega) (.slice aP (P p).length cP) (P p).length ((P p).map nv) (by rfl) (by rw [← HVP.out]; exact HPP.out) ((Below.refl _ W8).alloc (Nat.le_refl _) _).drew W8.heap.size #[.int .i64 O.length] (0, 0) (heap_alloc_new W8 _) (by rfl) rfl (by simp [Value.oneCell']) (by omega) (by omega) ?_; intro g9 c9 w9 hr9 hs9; have ha9 := HA8.out.keep hs9 (by simp); have k9 := ha9.free p; have k9' := ha9.cell p (arr_at hp); have H9 := hide (And.intro hr9 hs9); clear hr9 hs9 ha9)
    all_goals
      go_wp2
      go_meet
      case rel => exact ⟨g9, c9, w9, rfl, H9.out.1, H9.out.2⟩
  obtain ⟨g9, c9, w9, hw, hr9, hs9⟩ := hcut
  have hw' := hw.symm
  subst hw'
  have H9 := hide (And.intro hr9 hs9)
  clear hr9 hs9 ap apa ix
  go_wp2
  go_ret
  obtain ⟨hr9, hs9⟩ := H9.out
  have ha9 := HA8.out.keep hs9 (by simp)
  have hs10 := ha9.store p (.slice (some ⟨g9, 0, none⟩) ((P p).length + 1) c9)
  have ha10 := ha9.set p (.slice (some ⟨g9, 0, none⟩) ((P p).length + 1) c9)
  rw [arr_set hp] at ha10
  obtain ⟨h1, h2, h3, h4⟩ := H8.out
  refine ⟨rfl, ext ρ8 W8 (.proc p), vo1, vf1, _, upd pv p (.slice (some ⟨g9, 0, none⟩) ((P p).length + 1) c9), ⟨(HC8.out.keep hs9 (by simp)).keep hs10 (by decide), ha10, ?_, ?_, ?_, fun q hq => ?_⟩, (h4.trans (hs9.one (by unfold RB; simp))).trans (hs10.one (by unfold RB; simp))⟩
  · rw [flatO_app, List.length_append]; exact (h1.keep hs9 (by simp)).keep hs10 (by decide)
  · rw [List.map_append, List.length_append]; exact (h2.keep hs9 (by simp)).keep hs10 (by decide)
  · have e : List.replicate (O ++ [x]).length (Value.bool false) = List.replicate O.length (Value.bool false) ++ [.bool false] := by rw [List.length_append]; exact List.replicate_succ'
    rw [e, List.length_append]; exact (h3.keep hs9 (by simp)).keep hs10 (by decide)
  · by_cases hqp : q = p
    · subst hqp
      simp only [upd, if_true]
      unfold NRow
      rw [List.map_append, List.length_append]
      exact hr9.keep hs10 (by simp)
    · simp only [upd, if_neg hqp]
      exact ((HP8.out q hq).keep hs9 (by simp [hqp])).keep hs10 (by simp)
end Go.Proofs.Ybulknju
