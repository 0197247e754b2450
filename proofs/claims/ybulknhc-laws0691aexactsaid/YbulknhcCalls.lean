import Derived.Test.YbulknhcRows
import Derived.Test.YbulknhcPlain
import Derived.WalkKit
import Derived.WalkSpells
import Derived.WalkLawsBesides
import Derived.Deep.QuietTactic
import Derived.BigQuiet
import Derived.OneCell
import Derived.Deep.DeepCutAuto
import Derived.Maps.Own
import Derived.Laws.StructEq
import Derived.ProofKit
namespace Go.Proofs.Ybulknhc
open Go.RowKit Go.Maps Go.WideMaps

/-- Bit i of the mask, as the walk writes it. -/
def bit (m : Int) (i : Nat) : Int := bits BinOp.and IntKind.u8 (m / 2 ^ i) 1
def rch (m : Int) (i : Nat) : Bool := decide (i < 4) && (bit m i == 1) && (bit m (i + 4) == 0)

set_option maxHeartbeats 400000 in
theorem reach_any (m : Int) (k : Nat) (w : World) (_hm0 : 0 ≤ m) (_hm1 : m ≤ 255) (hk : k < 5) :
    Calls Yba.prog 5 #[.int .u8 m, .int .i64 k] w fun e w' => e = .returned (.bool (rch m k)) ∧ w' = w := by
  by_cases h4 : k < 4
  · go_enter Yba.func5, Yba.ntmps5
    go_wp2
    all_goals
      go_ret
      exact ⟨by simp [rch, bit, *], rfl⟩
  · obtain rfl : k = 4 := by omega
    go_enter Yba.func5, Yba.ntmps5
    go_wp2
    go_ret
    exact ⟨by simp [rch], rfl⟩

/-- How a pointer to a peer reads: by its block's number. -/
def ptrElem : Value → Option (DataW Unit × List MemPlace)
  | .pointer none => some (.nil, [])
  | .pointer (some ⟨b, 0, none⟩) => some (.lit (.int .i64 b), [])
  | _ => none
theorem ptrElem_nil {v : Value} {ps : List MemPlace} (h : ptrElem v = some (.nil, ps)) : v = .pointer none := by
  unfold ptrElem at h; split at h <;> simp_all
theorem ptrElem_some {v : Value} {ps : List MemPlace} {b : Nat} (h : ptrElem v = some (.lit (.int .i64 b), ps)) : v = .pointer (some ⟨b, 0, none⟩) := by
  unfold ptrElem at h; split at h
  · simp at h
  · rename_i b'
    simp at h
    obtain rfl : b' = b := by omega
    rfl
  · cases h

theorem law : Keyed Yba.prog 9 := string_keyed Yba.underlying9
theorem zero101 (w : World) : (zeroValue 101).run Yba.prog w = .ok (.pointer none) w := by kernel_rfl
/-- What a name reads as, as a key. -/
def kl (i : Nat) : Lit := .string (nm i).data.toList
theorem keyOf_nm (i : Nat) : keyOf Yba.prog 9 (.string (nm i)) = some (kl i) := keyOf_string_mk Yba.underlying9 (by unfold nm maxLen; show (1 : Nat) ≤ _; omega)

/-- What the map of peers holds: who is there, and who is lost. -/
def PeerAt (m : Int) (w : World) (D : DataW Unit) (i : Nat) : Prop :=
  (D.atKey (kl i) .nil = .nil ∧ (decide (i < 4) && (bit m i == 1)) = false) ∨
  ∃ pb : Nat, D.atKey (kl i) .nil = .lit (.int .i64 pb) ∧ w.cell? ⟨pb, 3, none⟩ = some (.bool (bit m (i + 4) == 1)) ∧ (decide (i < 4) && (bit m i == 1)) = true
structure Peers (m : Int) (Bm bm : Nat) (w : World) : Prop where
  field : w.cell? ⟨Bm, 35, none⟩ = some (.map (some bm))
  map : ∃ D : DataW Unit, w.ownsMap Yba.prog 9 ptrElem bm 4 D ∧ ∀ i, i < 5 → PeerAt m w D i
theorem Peers.grow {m : Int} {Bm bm : Nat} {w w' : World} (h : Peers m Bm bm w) (hb : Below w.heap.size w w') : Peers m Bm bm w' := by
  obtain ⟨hf, D, hown, hp⟩ := h
  refine ⟨(hb.cell (World.block_lt_of_cell? w _ hf)).trans hf, D, ?_, fun i hi => ?_⟩
  · obtain ⟨es, c, h1, h2⟩ := hown
    exact ⟨es, c, (hb.block _ (Array.getElem?_eq_some_iff.1 h1).1).trans h1, h2⟩
  · rcases hp i hi with h | ⟨pb, h1, h2, h3⟩
    · exact .inl h
    · exact .inr ⟨pb, h1, (hb.cell (World.block_lt_of_cell? w _ h2)).trans h2, h3⟩

theorem bit_01 (m : Int) (i : Nat) (hm0 : 0 ≤ m) (hm1 : m ≤ 255) : bit m i = 0 ∨ bit m i = 1 := by
  have key : ∀ x : Int, 0 ≤ x → x ≤ 255 → bits BinOp.and IntKind.u8 x 1 = 0 ∨ bits BinOp.and IntKind.u8 x 1 = 1 := by
    intro x h0 h1
    obtain ⟨n, rfl⟩ := Int.eq_ofNat_of_zero_le h0
    have hn : n < 256 := by omega
    have : ∀ n : Nat, n < 256 → bits BinOp.and IntKind.u8 (n : Int) 1 = 0 ∨ bits BinOp.and IntKind.u8 (n : Int) 1 = 1 := by decide +kernel
    exact this n hn
  unfold bit
  have hp : (0 : Int) < 2 ^ i := Int.pow_pos (by omega)
  refine key _ (Int.ediv_nonneg hm0 (by omega)) ?_
  have h1 : m / 2 ^ i ≤ m := Int.ediv_le_self _ hm0
  omega

set_option maxHeartbeats 400000 in
theorem reaches_any (m : Int) (Bm bm i : Nat) (w : World) (hm0 : 0 ≤ m) (hm1 : m ≤ 255) (hi : i < 5) (hP : Peers m Bm bm w) :
    Calls Yba.prog 6 #[.pointer (some ⟨Bm, 0, none⟩), .string (nm i)] w fun e w' => e = .returned (.bool (rch m i)) ∧ w' = w := by
  obtain ⟨hf, D, hown, hp⟩ := hP
  obtain ⟨v, ps, hrun, hR⟩ := hown.lookup (z := .pointer none) (zd := .nil) (zp := []) law Yba.underlying26 (zero101 w) rfl (keyOf_nm i)
  have hb := bit_01 m (i + 4) hm0 hm1
  rcases hp i hi with ⟨h1, h2⟩ | ⟨pb, h1, h2, h3⟩
  · rw [h1] at hR
    obtain rfl := ptrElem_nil hR
    clear hown hp h1 hR
    have hr : rch m i = false := by simp only [rch, h2]; rfl
    rw [hr]
    clear hr h2 hb
    go_enter Yba.func6, Yba.ntmps6
    go_wp2
    go_ret
    exact ⟨rfl, rfl⟩
  · rw [h1] at hR
    obtain rfl := ptrElem_some hR
    clear hown hp h1 hR
    have hr : rch m i = !(bit m (i + 4) == 1) := by
      simp only [rch, h3]
      rcases hb with h | h <;> simp [h]
    rw [hr]
    clear hr h3 hb
    generalize (bit m (i + 4) == 1) = l at *
    cases l
    all_goals
      go_enter Yba.func6, Yba.ntmps6
      go_wp2
      go_ret
      exact ⟨rfl, rfl⟩

/-- A link's two cells. -/
def enc (p : Nat × Nat) : List Value := [.string (nm p.1), .string (nm p.2)]
def encs (l : List (Nat × Nat)) : List Value := l.flatMap enc

theorem beq_nm {i j : Nat} (hi : i < 5) (hj : j < 5) : ((nm i).toList == (nm j).toList) = (i == j) := by
  rw [ByteArray.toList_eq, ByteArray.toList_eq, Bool.eq_iff_iff, beq_iff_eq, beq_iff_eq]
  exact ⟨fun h => nm_inj hi hj (by unfold nm at h ⊢; simpa using h), fun h => by rw [h]⟩

theorem eqLink (x y : Nat × Nat) (w : World) (hx : x.1 < 5 ∧ x.2 < 5) (hy : y.1 < 5 ∧ y.2 < 5) :
    (binOp .eql 112 (.agg #[.string (nm x.1), .string (nm x.2)]) (.agg #[.string (nm y.1), .string (nm y.2)])).run Yba.prog w = .ok (.bool (x == y)) w := by
  have hS : Yba.prog.underlying 112 = some (.struct (Yba.prog.fieldsOf 112)) := by kernel_rfl
  have hp : Yba.prog.stoodInHeld 112 = false := by kernel_rfl
  have e1 := beq_nm hx.1 hy.1
  have e2 := beq_nm hx.2 hy.2
  rw [run_eql_struct, show (10000 : Nat) = 9999 + 1 from rfl, run_equalIn_agg w 9999 112 _ _ hS hp]
  simp only [Program.fieldsOf, Yba.underlying112]
  go_simp
  have e : (x == y) = (x.fst == y.fst && x.snd == y.snd) := rfl
  rw [e]
  by_cases h1 : x.fst = y.fst <;> by_cases h2 : x.snd = y.snd <;> simp [h1, h2]

/-- A slice of links: where there is an element there is an address, and the cells hold the names. -/
def LinksAt (w : World) (a : Option Addr) (l : List (Nat × Nat)) : Prop :=
  l = [] ∨ ∃ b, a = some ⟨b, 0, none⟩ ∧ ∀ i p, l[i]? = some p → w.cell? ⟨b, i * 2, none⟩ = some (.string (nm p.1)) ∧ w.cell? ⟨b, i * 2 + 1, none⟩ = some (.string (nm p.2))

theorem sizeOf112 (w : World) : (sizeOf 112).run Yba.prog w = .ok 2 w := by kernel_rfl
theorem idx108 {b n c : Nat} {k : Nat} (hk : k < n) (w : World) : (Instr.indexAt 108 (.slice (some ⟨b, 0, none⟩) n c) (.int .i64 k)).run Yba.prog w = .ok (.pointer (some ⟨b, k * 2, none⟩)) w := by
  rw [run_indexAt_slice (h := by kernel_rfl), if_pos (by omega)]
  have e : Yba.prog.elem 108 = 112 := by kernel_rfl
  rw [e, sizeOf112]
  simp [Addr.add]
  omega

set_option maxHeartbeats 1000000 in
theorem index_any (x : Nat × Nat) (a : Option Addr) (n c : Nat) (l : List (Nat × Nat)) (w : World) (hl : l.length = n) (hn : n ≤ 4194304) (hS : Small l) (hx : x.1 < 5 ∧ x.2 < 5) (hA : LinksAt w a l) :
    Calls Yba.prog 8 #[.slice a n c, .agg #[.string (nm x.1), .string (nm x.2)]] w fun e w' => ∃ r : Int, e = .returned (.int .i64 r) ∧ decide (0 ≤ r) = l.contains x ∧ ∃ q, w' = (w.alloc (.cells #[.string (nm x.1), .string (nm x.2)] 112)).drewN q := by
  have HL : Hid (l.length = n) := hl
  have HA : Hid (LinksAt w a l) := hA
  clear hl hA
  go_enter Yba.func8, Yba.ntmps8
  go_wp2
  go_loopw [4, 5, 8] (fun _ _ i wr => ∃ k q : Nat, k ≤ n ∧ i = .int .i64 k ∧ (∀ j p, j < k → l[j]? = some p → p ≠ x) ∧ wr = (w.alloc (.cells #[.string (nm x.1), .string (nm x.2)] 112)).drewN q) (fun _ _ i _ => n - (intOf i).toNat)
  case atStart => exact ⟨0, 0, by omega, rfl, fun j p hj => by omega, rfl⟩
  case round =>
    obtain ⟨k, q, hk, rfl, hno, rfl⟩ := hrel
    have HNO : Hid (∀ j p, j < k → l[j]? = some p → p ≠ x) := hno
    clear hno
    by_cases hlt : k < n
    · obtain ⟨p, hp⟩ : ∃ p, l[k]? = some p := ⟨_, List.getElem?_eq_getElem (by have := HL.out; omega)⟩
      have hps := hS p (List.mem_of_getElem? hp)
      obtain ⟨b, rfl, hc⟩ : ∃ b, a = some ⟨b, 0, none⟩ ∧ ∀ i p, l[i]? = some p → w.cell? ⟨b, i * 2, none⟩ = some (.string (nm p.1)) ∧ w.cell? ⟨b, i * 2 + 1, none⟩ = some (.string (nm p.2)) := by
        rcases HA.out with h | h
        · simp [h] at hp
        · exact h
      obtain ⟨c1, c2⟩ := hc k p hp
      have hb := World.block_lt_of_cell? w _ c1
      have hb' : b < w.heap.size := hb
      have hidx := fun wx => idx108 (b := b) (c := c) hlt wx
      have heq := fun wx => eqLink x p wx hx hps
      have d1 : (w.alloc (.cells #[.string (nm x.1), .string (nm x.2)] 112)).cell? ⟨b, k * 2, none⟩ = some (.string (nm p.1)) := by rw [World.cell?_alloc_lt _ _ _ hb]; exact c1
      have d2 : (w.alloc (.cells #[.string (nm x.1), .string (nm x.2)] 112)).cell? ⟨b, k * 2 + 1, none⟩ = some (.string (nm p.2)) := by rw [World.cell?_alloc_lt _ _ _ hb']; exact c2
      have HP : Hid (l[k]? = some p) := hp
      clear hp hc c1 c2 hb hps
      go_wp2
      by_cases hxp : x = p
      · have hb1 : (x == p) = true := by simp [hxp]
        have HXP : Hid (x = p) := hxp
        clear hxp
        go_quiet (fail)
        go_wp2
        go_ret
        refine ⟨k, rfl, ?_, q + nq, by simp⟩
        have hin : x ∈ l := by rw [HXP.out]; exact List.mem_of_getElem? HP.out
        simp [hin]
      · have hb1 : (x == p) = false := by simp [hxp]
        have HXP : Hid (¬ x = p) := hxp
        clear hxp
        go_quiet (fail)
        go_wp2
        go_roundw
        case rel =>
          refine ⟨k + 1, _, by omega, by go_num, fun j p' hj hp' => ?_, rfl⟩
          rcases Nat.lt_succ_iff_lt_or_eq.1 hj with h | rfl
          · exact HNO.out j p' h hp'
          · rw [HP.out] at hp'; cases hp'; exact fun e => HXP.out e.symm
        case measure => simp [intOf]; omega
    · obtain rfl : k = n := by omega
      go_wp2
      go_ret
      refine ⟨-1, rfl, ?_, _, rfl⟩
      have hout : ¬ x ∈ l := by
        intro hin
        obtain ⟨j, hj⟩ := List.mem_iff_getElem?.1 hin
        have hjl : j < l.length := (List.getElem?_eq_some_iff.1 hj).1
        exact HNO.out j x (by have := HL.out; omega) hj rfl
      simp [hout]

set_option maxHeartbeats 1000000 in
theorem contains_any (x : Nat × Nat) (a : Option Addr) (n c : Nat) (l : List (Nat × Nat)) (w : World) (hl : l.length = n) (hn : n ≤ 4194304) (hS : Small l) (hx : x.1 < 5 ∧ x.2 < 5) (hA : LinksAt w a l) :
    Calls Yba.prog 7 #[.slice a n c, .agg #[.string (nm x.1), .string (nm x.2)]] w fun e w' => e = .returned (.bool (has l x)) ∧ Below w.heap.size w w' := by
  have HA : Hid (LinksAt (w.alloc (.cells #[.string (nm x.1), .string (nm x.2)] 112)) a l) := by
    rcases hA with h | ⟨b, rfl, hc⟩
    · exact .inl h
    · refine .inr ⟨b, rfl, fun i p hp => ?_⟩
      obtain ⟨c1, c2⟩ := hc i p hp
      exact ⟨by rw [World.cell?_alloc_lt _ _ _ (World.block_lt_of_cell? w _ c1)]; exact c1, by rw [World.cell?_alloc_lt _ _ _ (World.block_lt_of_cell? w _ c2)]; exact c2⟩
  clear hA
  go_enter Yba.func7, Yba.ntmps7
  go_wp2_with fail
  refine (index_any x a n c l _ hl hn hS hx HA.out).mono ?_
  rintro e w' ⟨r, rfl, hr, q, rfl⟩
  have HR : Hid (decide (0 ≤ r) = l.contains x) := hr
  clear hr
  go_wp2
  go_ret
  exact ⟨congrArg (fun b => Ending.returned (.bool b)) HR.out, ((Below.refl _ _).alloc (Nat.le_refl _) _).trans (((Below.refl _ _).alloc (by simp) _).trans ⟨rfl, rfl, rfl, Nat.le_refl _, fun _ _ => rfl⟩)⟩
end Go.Proofs.Ybulknhc
