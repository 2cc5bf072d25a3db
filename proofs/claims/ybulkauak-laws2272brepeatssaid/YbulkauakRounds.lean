import Derived.Test.YbulkauakNext
namespace Go.Proofs.Ybulkauak
open Go.RowKit

/-- What join makes of the bytes, m times. -/
def itC (rc : Int) : Nat → Int → Int
  | 0, c => c
  | m + 1, c => joinC true (itC rc m c) rc
/-- What join makes of the items, m times. -/
def itI (ri : Int) : Nat → Int → Int
  | 0, t => t
  | m + 1, t => wrap64 (itI ri m t + ri)

theorem joinI_joinI (i i' : Int) : joinI (joinI i i') i' = joinI i i' := by
  by_cases h : i < i'
  · unfold joinI; rw [if_pos h, if_neg (by omega)]
  · unfold joinI; rw [if_neg h, if_neg h]
theorem joinI_self (i : Int) : joinI i i = i := by
  unfold joinI; rw [if_neg (by omega)]

/-- Behind q rounds of the loop that calls addCycle. -/
def L4 (w wr : World) (no A R g k rcap : Nat) (c0 in0 i0 rc rin ri : Int) (recs : Array Value) (q : Nat) : Prop :=
  Below w.heap.size w wr ∧
  ((q = 0 ∧ Vals wr A w.heap.size no no ∧ Blk wr A #[.slice (some ⟨w.heap.size, 0, none⟩) no no, .int .i64 c0, .int .i64 in0, .int .i64 i0] 29 ∧ Vals wr R g k rcap ∧
      Blk wr R #[.slice (some ⟨g, 0, none⟩) k rcap, .int .i64 rc, .int .i64 rin, .int .i64 ri] 29 ∧ Blk wr g recs 24) ∨
   (0 < q ∧ ∃ N E gg cap nl T E2 C, nl = nlOf no ∧ (w.heap.size ≤ N ∧ w.heap.size ≤ T ∧ w.heap.size ≤ C) ∧
      St wr A R g k rcap no N E gg cap nl T E2 C q q (itC rc (q - 1) (joinC (decide (0 < no)) c0 rc)) (joinI in0 rin) (itI ri q i0) (itC rc (q - 1) rc) rin (itI ri (q - 1) ri) rc rin ri recs))

theorem addCycle_L4 (w wr : World) (no A R g k rcap : Nat) (c0 in0 i0 rc rin ri : Int) (recs : Array Value) (q : Nat) (h : L4 w wr no A R g k rcap c0 in0 i0 rc rin ri recs q)
    (hl : no ≤ 2000) (hk : 0 < k) (hk2 : k ≤ 2000) (hcap : k ≤ rcap) (hq : q ≤ 4) (hne : A ≠ R) (hA : w.heap.size ≤ A) :
    Calls Yba.prog 4 #[.pointer (some ⟨A, 0, none⟩), .pointer (some ⟨R, 0, none⟩)] wr fun e w' => e = .returned (.tuple #[]) ∧ L4 w w' no A R g k rcap c0 in0 i0 rc rin ri recs (q + 1) := by
  obtain ⟨hb, ⟨rfl, h1, h2, h3, h4, h5⟩ | ⟨hq0, N, E, gg, cap, nl, T, E2, C, hnl, ⟨b1, b2, b3⟩, hS⟩⟩ := h
  · refine (addCycle_first A R w.heap.size g no k rcap c0 in0 i0 rc rin ri recs wr h1 hl h2 h3 h4 hk hk2 hcap hne h5).mono ?_
    rintro e w' ⟨rfl, N, E, gg, cap, nl, T, E2, C, hnl, ⟨b1, b2, b3⟩, hS, hT⟩
    have hs := hb.size
    refine ⟨rfl, hb.trans (hT.below _ hs (fun i e => by subst e; exact hA)), Or.inr ⟨by omega, N, E, gg, cap, nl, T, E2, C, hnl, ⟨by omega, by omega, by omega⟩, hS⟩⟩
  · have hn : nl ≤ 1 := by rw [hnl]; unfold nlOf; split <;> omega
    refine (addCycle_next A R g k rcap no N E gg cap nl T E2 C q _ _ _ _ _ _ rc rin ri recs wr hS hk hk2 (by omega) hl hn hq0).mono ?_
    rintro e w' ⟨rfl, hS, hT⟩
    have hs := hb.size
    obtain ⟨p, rfl⟩ : ∃ p, q = p + 1 := ⟨q - 1, by omega⟩
    rw [joinI_joinI, joinI_self] at hS
    refine ⟨rfl, hb.trans (hT.below _ hs (fun i e => by rcases e with e | e | e | e <;> omega)), Or.inr ⟨by omega, N, E, gg, cap, nl, T, E2, C, hnl, ⟨b1, b2, b3⟩, hS⟩⟩

end Go.Proofs.Ybulkauak
