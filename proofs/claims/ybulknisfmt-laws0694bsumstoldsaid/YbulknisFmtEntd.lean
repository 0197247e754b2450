import Derived.Test.YbulknisFmtLots
namespace Go.Proofs.YbulknisFmt
open Go.RowKit

/-- What Entitled leaves. -/
def Got (base B : Nat) (c : Fin 3) (f d : Int) (LB A : List Lot) (va : Value) (w : World) (ve : Value) (w' : World) : Prop :=
  ∃ L', OwnE w' base ve (ents c d L' 48) ∧ (0 < A.length ∧ f < d + 1 ∧ L'.Perm (LB ++ A) ∨ ¬ (0 < A.length ∧ f < d + 1) ∧ L' = LB) ∧ Keep (fun k => k = B ∨ some k = va.ownBlock) w w'

set_option maxHeartbeats 1000000 in
theorem entitled_any (base B : Nat) (vl va : Value) (f d : Int) (c : Fin 3) (w : World) (LB A : List Lot) (hlen : LB.length + A.length ≤ 1024) (hB : BookAt w B vl va f) (hl : OwnL w base vl LB) (ha : OwnL w base va A)
    (hne : ∀ k, vl.ownBlock = some k → va.ownBlock ≠ some k) (hs : Sorted LB) (hbase : base ≤ w.heap.size) (h5 : 5 ≤ base) (hB5 : 5 ≤ B) (hgl : Glob w)
    (hbd : ∀ x ∈ LB ++ A, -2147483648 ≤ x.sh ∧ x.sh ≤ 2147483647) (hd : -32768 ≤ d) (hd' : d ≤ 32767) :
    Calls Ybaf.prog 16 #[.pointer (some ⟨B, 0, none⟩), .string (fdn c), .int .i32 d] w fun e w' => ∃ ve, e = .returned ve ∧ Got base B c f d LB A va w ve w' := by
  have hk : Keep (fun _ => False) w (w.alloc (.cells #[.slice none 0 0] 52)) := (Keep.refl _ w).alloc _
  have hE : AllAt (w.alloc (.cells #[.slice none 0 0] 52)) w.heap.size (.slice none 0 0) := heap_alloc_new _ _
  have hBw := lt_of_block hB
  have LT := hide (lots_any base B w.heap.size vl va f d c (w.alloc (.cells #[.slice none 0 0] 52)) LB A hlen (hB.keep hk (fun h => h)) (hl.keep hk (fun _ _ h => h)) (ha.keep hk (fun _ _ h => h)) hne hs (by simp; omega) h5 hE (by omega) (by omega) hB5 (hgl.keep hk (fun _ h => h.elim)) hbd hd hd')
  have HA := hide ha
  clear hk hE hB hl ha hne hs hgl hbd
  go_enter Ybaf.func16, Ybaf.ntmps16
  go_upto_region 3 with (go_at_call 29; refine LT.out.mono ?_; rintro e w1 ⟨rfl, hp⟩)
  obtain ⟨ve, L', h1, h2, h3, h4⟩ := hp
  have q0 := cell_blk (i := 0) h1 rfl
  have FIN : Hid (Got base B c f d LB A va w ve w1) := ⟨L', h2, h3, ⟨h4.os, h4.tape, h4.output, Nat.le_trans (by simp) h4.size, fun k hk hn => (h4.block k (by simp; omega) (by rintro (h | h | h); exact hn (.inl h); exact hn (.inr h); omega)).trans (Below.heap_alloc _ _ _ hk)⟩⟩
  obtain ⟨av, cv, hve⟩ := h2.form
  subst hve
  clear h1 h2 h3 h4 LT
  go_wp2
  go_ret
  exact ⟨_, rfl, FIN.out⟩
end Go.Proofs.YbulknisFmt
