import Derived.Test.YbulknisFmtPlain
import Derived.Test.YbulknisFmtAdd
import Derived.Shelf.GgSortFunc.RowK
import Derived.Deep.AppendLies
import Derived.Maps.AppendAt
namespace Go.Proofs.YbulknisFmt
open Go.RowKit

/-- A list of lots as cells. -/
def flat (L : List Lot) : List Value := L.flatMap enc
theorem enc_len (x : Lot) : (enc x).length = 7 := rfl
theorem flat_len (L : List Lot) : (flat L).length = L.length * 7 := by
  induction L with
  | nil => rfl
  | cons x l ih =>
    have e : flat (x :: l) = enc x ++ flat l := rfl
    rw [e, List.length_append, ih, enc_len, List.length_cons]; omega
theorem flat_app (L : List Lot) (x : Lot) : flat (L ++ [x]) = flat L ++ enc x := by unfold flat; rw [List.flatMap_append]; simp
theorem flat_appL (L L' : List Lot) : flat (L ++ L') = flat L ++ flat L' := by unfold flat; rw [List.flatMap_append]
theorem flat_one (x : Lot) : ∀ v ∈ enc x, v.oneCell' = true := by intro v hv; simp [enc] at hv; rcases hv with rfl | rfl | rfl | rfl | rfl | rfl | rfl <;> rfl
theorem flat_get : ∀ (L : List Lot) (k c : Nat), k < L.length → c < 7 → (flat L)[k * 7 + c]? = (enc (lotAt L k))[c]?
  | [], k, c, hk, _ => by simp at hk
  | x :: l, 0, c, _, hc => by
    have e : flat (x :: l) = enc x ++ flat l := rfl
    rw [e, Nat.zero_mul, Nat.zero_add, List.getElem?_append_left (by rw [enc_len]; exact hc)]
    rfl
  | x :: l, k + 1, c, hk, hc => by
    have e : flat (x :: l) = enc x ++ flat l := rfl
    have hk' : k < l.length := by simpa using hk
    rw [e, List.getElem?_append_right (by rw [enc_len]; omega), enc_len, show (k + 1) * 7 + c - 7 = k * 7 + c by omega, flat_get l k c hk' hc]
    rfl
theorem flat_flatK [Inhabited Lot] (L : List Lot) : (Sort.flatK enc 7 L.toArray).toList = flat L := by
  apply List.ext_getElem?
  intro t
  by_cases ht : t < L.length * 7
  · have h1 : t = (t / 7) * 7 + t % 7 := by omega
    have hk : t / 7 < L.length := by omega
    have e := flat_get L (t / 7) (t % 7) hk (by omega)
    rw [← h1] at e
    rw [e, Array.getElem?_toList]
    simp only [Sort.flatK, List.size_toArray, Array.getElem?_map]
    rw [Array.getElem?_eq_getElem (by simpa using ht)]
    simp only [Array.getElem_range, Option.map_some]
    have e2 : L.toArray[t / 7]! = lotAt L (t / 7) := by rw [lotAt_pos L _ hk, getElem!_pos L.toArray _ (by simpa using hk)]; simp
    rw [e2]
    have h3 : t % 7 < (enc (lotAt L (t / 7))).length := by rw [enc_len]; omega
    rw [List.getElem?_eq_getElem h3, getElem!_pos (enc (lotAt L (t / 7))) (t % 7) h3]
  · rw [List.getElem?_eq_none (l := flat L) (by rw [flat_len]; omega), List.getElem?_eq_none (by simp; omega)]

/-- A slice of lots in blocks of the call's own. -/
def OwnL (w : World) (base : Nat) (v : Value) (L : List Lot) : Prop := w.ownsRow base 48 7 v L.length (flat L)
theorem OwnL.nil (w : World) (base : Nat) : OwnL w base (.slice none 0 0) [] := World.ownsRow_nil _ _ _ _
theorem OwnL.kept {w w' : World} {base : Nat} {v : Value} {L : List Lot} {row : Option Nat} (h : OwnL w base v L) (hg : w.grownBy w' row) (hne : v.ownBlock = none ∨ v.ownBlock ≠ row) : OwnL w' base v L := World.ownsRow.kept h hg hne
theorem OwnL.form {w : World} {base : Nat} {v : Value} {L : List Lot} (h : OwnL w base v L) : ∃ a cap, v = .slice a L.length cap ∧ L.length ≤ cap ∧ cap ≤ maxLen ∧ ∀ k, k < L.length → ∃ g, a = some ⟨g, 0, none⟩ := by
  rcases h.2 with ⟨rfl, h0⟩ | ⟨g, cap, cur, rfl, _, _, h1, h2, _⟩
  · exact ⟨none, 0, by rw [h0], by omega, by simp, fun k hk => by omega⟩
  · exact ⟨_, cap, rfl, h1, h2, fun _ _ => ⟨g, rfl⟩⟩

/-- One lot's cells. -/
structure LotAt (w : World) (b o : Nat) (x : Lot) : Prop where
  c0 : w.cell? ⟨b, o, none⟩ = some (.string (nm x.acc))
  c1 : w.cell? ⟨b, o + 1, none⟩ = some (.string (nm x.ag))
  c2 : w.cell? ⟨b, o + 2, none⟩ = some (.string (fdn x.fd))
  c3 : w.cell? ⟨b, o + 3, none⟩ = some (.int .i32 x.reg)
  c4 : w.cell? ⟨b, o + 4, none⟩ = some (.string (nm x.id))
  c5 : w.cell? ⟨b, o + 5, none⟩ = some (.int .i64 x.sh)
  c6 : w.cell? ⟨b, o + 6, none⟩ = some (.int .i32 2)
theorem LotAt.of_block {w w' : World} {b o : Nat} {x : Lot} (h : LotAt w b o x) (e : w'.heap[b]? = w.heap[b]?) : LotAt w' b o x :=
  ⟨(World.cell?_of_block e).trans h.c0, (World.cell?_of_block e).trans h.c1, (World.cell?_of_block e).trans h.c2, (World.cell?_of_block e).trans h.c3, (World.cell?_of_block e).trans h.c4, (World.cell?_of_block e).trans h.c5, (World.cell?_of_block e).trans h.c6⟩
theorem OwnL.lot {w : World} {base : Nat} {g cap n : Nat} {L : List Lot} (h : OwnL w base (.slice (some ⟨g, 0, none⟩) n cap) L) (k : Nat) (hk : k < L.length) : LotAt w g (k * 7) (lotAt L k) := by
  have hn : n = L.length := by
    rcases h.2 with ⟨h0, _⟩ | ⟨g', cap', cur, h0, _⟩
    · cases h0
    · cases h0; rfl
  subst hn
  have at' : ∀ c, c < 7 → w.cell? ⟨g, k * 7 + c, none⟩ = (enc (lotAt L k))[c]? := fun c hc => by
    rw [World.ownsRow.cellAt h (k * 7 + c) (by omega), flat_get L k c hk hc]
  exact ⟨at' 0 (by omega), at' 1 (by omega), at' 2 (by omega), at' 3 (by omega), at' 4 (by omega), at' 5 (by omega), at' 6 (by omega)⟩

theorem sizeOf48 (w : World) : (sizeOf 48).run Ybaf.prog w = .ok 7 w := by kernel_rfl
theorem idx41 {b off n c : Nat} {k : Nat} (hk : k < n) (w : World) : (Instr.indexAt 41 (.slice (some ⟨b, off, none⟩) n c) (.int .i64 k)).run Ybaf.prog w = .ok (.pointer (some ⟨b, off + k * 7, none⟩)) w := by
  rw [run_indexAt_slice (h := by kernel_rfl), if_pos (by omega)]
  have e : Ybaf.prog.elem 41 = 48 := by kernel_rfl
  rw [e, sizeOf48]
  simp [Addr.add]
theorem idx41z {b n c : Nat} {k : Nat} (hk : k < n) (w : World) : (Instr.indexAt 41 (.slice (some ⟨b, 0, none⟩) n c) (.int .i64 k)).run Ybaf.prog w = .ok (.pointer (some ⟨b, k * 7, none⟩)) w := by
  rw [idx41 hk, Nat.zero_add]
end Go.Proofs.YbulknisFmt
