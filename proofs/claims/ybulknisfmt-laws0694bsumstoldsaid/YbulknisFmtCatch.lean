import Derived.Test.YbulknisFmtMerge
namespace Go.Proofs.YbulknisFmt
open Go.RowKit

/-- What catchUp leaves. -/
def Caught (base B : Nat) (f t : Int) (LB A : List Lot) (va : Value) (w w' : World) : Prop :=
  ∃ vl' va' L', BookAt w' B vl' va' f ∧ OwnL w' base vl' L' ∧ Sorted L' ∧ (0 < A.length ∧ f < t ∧ L'.Perm (LB ++ A) ∨ ¬ (0 < A.length ∧ f < t) ∧ L' = LB) ∧ Keep (fun k => k = B ∨ some k = va.ownBlock) w w'

set_option maxHeartbeats 1000000 in
theorem catchUp_any (base B : Nat) (vl va : Value) (f t : Int) (LB A : List Lot) (w : World) (hlen : LB.length + A.length ≤ 1024) (hB : BookAt w B vl va f) (hl : OwnL w base vl LB) (ha : OwnL w base va A)
    (hne : ∀ k, vl.ownBlock = some k → va.ownBlock ≠ some k) (hs : Sorted LB) (hbase : base ≤ w.heap.size) :
    Calls Ybaf.prog 44 #[.pointer (some ⟨B, 0, none⟩), .int .i32 t] w fun e w' => e = .returned (.tuple #[]) ∧ Caught base B f t LB A va w w' := by
  by_cases hc : 0 < A.length ∧ f < t
  · have MG := hide (merge_any base B vl va f LB A w hc.1 hlen hB hl ha hne hs hbase)
    have HC := hide hc
    obtain ⟨ga, ca, rfl, _, _, _⟩ := ha.some hc.1
    have q1 := cell_blk (i := 1) hB rfl
    have q2 := cell_blk (i := 2) hB rfl
    have d1 : 0 < A.length := hc.1
    have d2 : decide (f < t) = true := decide_eq_true hc.2
    clear hc hB hl ha hne hs
    go_enter Ybaf.func44, Ybaf.ntmps44
    go_wp2_with (go_at_call 59; refine MG.out.mono ?_; rintro e w1 ⟨rfl, hp⟩)
    go_end0
    obtain ⟨vl', L', h1, h2, h3, h4, h5⟩ := hp
    exact ⟨rfl, vl', _, L', h1, h2, h4, .inl ⟨HC.out.1, HC.out.2, h3⟩, h5⟩
  · have HC := hide hc
    obtain ⟨a, ca, rfl, _, _, _⟩ := ha.form
    have q1 := cell_blk (i := 1) hB rfl
    have q2 := cell_blk (i := 2) hB rfl
    have FIN : Hid (Caught base B f t LB A (.slice a A.length ca) w w) := ⟨vl, _, LB, hB, hl, hs, .inr ⟨hc, rfl⟩, Keep.refl _ _⟩
    by_cases h0 : 0 < A.length
    · have d2 : decide (f < t) = false := decide_eq_false (fun h => hc ⟨h0, h⟩)
      clear hc hB hl ha hne hs
      go_enter Ybaf.func44, Ybaf.ntmps44
      go_wp2
      go_end0
      exact ⟨rfl, FIN.out⟩
    · clear hc hB hl ha hne hs
      go_enter Ybaf.func44, Ybaf.ntmps44
      go_wp2
      go_end0
      exact ⟨rfl, FIN.out⟩
end Go.Proofs.YbulknisFmt
