import Derived.Test.YbulkaubmSend
namespace Go.Proofs.Ybulkaubm
open Go.RowKit Go.ChangeMaps

theorem run_makeMap54 (n : Int) (w : World) : (Instr.makeMap 54 (some (.int .i64 n))).run Yba.prog w = .ok (.map (some w.heap.size)) (w.alloc (.map #[] 0)) := by
  kernel_rfl

/-- The leadership as lead lays it. -/
def lv0 (cnt : Int) (A : Nat) (ex es : Int) : LV := { beats := .slice none 0 0, count := cnt, acked := .map (some A), nx := 0, ns := 0, ex := ex, en := es, rx := 0, rs := 0 }

/-- What lead leaves. -/
def LeadP (w w' : World) (N : Nat) (nv : NV) (nm : ByteArray) (x s : Int) (t le hb : Nat) : Prop :=
  ∃ L A v2 nx ns ex es, w.heap.size ≤ L ∧ w.heap.size ≤ A ∧ IsTm nx ns (t + hb) ∧ IsTm ex es (t + le) ∧
    Blk w' L { beats := v2, count := 1, acked := .map (some A), nx := nx, ns := ns, ex := ex, en := es, rx := x, rs := s : LV }.cells 56 ∧
    w'.ownsRow (L + 1) 59 4 v2 1 [.int .u64 1, .int .u64 x, .int .i64 s, .pointer none] ∧
    Blk w' N { nv with role := 2, leader := nm, votes := .map none, won := .pointer (some ⟨L, 0, none⟩), dx := nx, ds := ns }.cells 49 ∧ One w' A nm (tval x s) ∧ Turn (· = N) w w'

/-- What lead's region reads. -/
def LeadS (T N : Nat) (x s : Int) (ao : Option Addr) (pc le : Nat) (w' : World) : Prop :=
  w'.cell? ⟨T, 0, none⟩ = some (.int .u64 x) ∧ w'.cell? ⟨T, 1, none⟩ = some (.int .i64 s) ∧ w'.cell? ⟨T, 2, none⟩ = some (.pointer none) ∧ w'.cell? ⟨N, 1, none⟩ = some (.slice ao 0 pc) ∧ w'.cell? ⟨N, 5, none⟩ = some (.int .i64 le)
theorem LeadS.turn {w w' : World} {T N : Nat} {x s : Int} {ao : Option Addr} {pc le : Nat} (h : LeadS T N x s ao pc le w) (ht : Turn (fun _ => False) w w') (l1 : T < w.heap.size) (l4 : N < w.heap.size) : LeadS T N x s ao pc le w' := by
  obtain ⟨a, b, c, d, e⟩ := h
  exact ⟨(ht.cell (p := ⟨T, 0, none⟩) l1 id).trans a, (ht.cell (p := ⟨T, 1, none⟩) l1 id).trans b, (ht.cell (p := ⟨T, 2, none⟩) l1 id).trans c, (ht.cell (p := ⟨N, 1, none⟩) l4 id).trans d, (ht.cell (p := ⟨N, 5, none⟩) l4 id).trans e⟩

theorem LeadS.set {w : World} {T N : Nat} {x s : Int} {ao : Option Addr} {pc le : Nat} (h : LeadS T N x s ao pc le w) (v : Value) : LeadS T N x s ao pc le (w.setCell ⟨N, 42, none⟩ v) := by
  obtain ⟨a, b, c, d, e⟩ := h
  refine ⟨?_, ?_, ?_, ?_, ?_⟩
  · rw [World.cell?_setCell_other _ _ _ _ (by simp)]; exact a
  · rw [World.cell?_setCell_other _ _ _ _ (by simp)]; exact b
  · rw [World.cell?_setCell_other _ _ _ _ (by simp)]; exact c
  · rw [World.cell?_setCell_other _ _ _ _ (by simp)]; exact d
  · rw [World.cell?_setCell_other _ _ _ _ (by simp)]; exact e

theorem sz_set {w : World} {n : Nat} {p : Addr} {v : Value} (h : n < w.heap.size) : n < (w.setCell p v).heap.size := by simpa using h

set_option maxHeartbeats 2000000 in
theorem lead_any (N G pc : Nat) (ao : Option Addr) (nv : NV) (nm : ByteArray) (x s : Int) (t le hb : Nat) (w : World) (hN : Blk w N nv.cells 49) (ht : IsTm x s t) (h0 : 0 < t)
    (hq : nv.quorum = 1) (hid : nv.id = nm) (hle : nv.lease = le) (hhb : nv.hb = hb) (hhl : hb ≤ le) (htb : t + le < 1000000000000000)
    (hm : nv.msgs = .slice (some ⟨G, 0, none⟩) 0 0) (hp : nv.peers = .slice ao 0 pc) :
    Calls Yba.prog 26 #[.pointer (some ⟨N, 0, none⟩), .agg #[.int .u64 x, .int .i64 s, .pointer none], .int .u64 0] w fun e w' => e = .returned (.slice (some ⟨G, 0, none⟩) 0 0) ∧ LeadP w w' N nv nm x s t le hb := by
  have lN := hN.lt
  have c9 : w.cell? ⟨N, 9, none⟩ = some (.int .i64 nv.role) := hN.cell 9 rfl
  have c12 : w.cell? ⟨N, 12, none⟩ = some (.string nv.leader) := hN.cell 12 rfl
  have c29 : w.cell? ⟨N, 29, none⟩ = some nv.votes := hN.cell 29 rfl
  have f9 := hN.frozen 9
  have f12 := hN.frozen 12
  have f29 := hN.frozen 29
  go_enter Yba.func26, Yba.ntmps26
  go_upto_region 2 with fail
  have N1 : Blk ((((w.setCell ⟨N, 9, none⟩ (.int .i64 1)).setCell ⟨N, 12, none⟩ (.string ⟨#[]⟩)).setCell ⟨N, 29, none⟩ (.map none)).alloc (.cells #[.int .u64 x, .int .i64 s, .pointer none] 31)) N { nv with role := 1, leader := ⟨#[]⟩, votes := .map none }.cells 49 := (((hN.role 1).leader _).votes _).alloc _
  have b0 : Blk ((((w.setCell ⟨N, 9, none⟩ (.int .i64 1)).setCell ⟨N, 12, none⟩ (.string ⟨#[]⟩)).setCell ⟨N, 29, none⟩ (.map none)).alloc (.cells #[.int .u64 x, .int .i64 s, .pointer none] 31)) w.heap.size #[.int .u64 x, .int .i64 s, .pointer none] 31 := Blk.new' (by simp) _ _
  have T1 : Turn (· = N) w ((((w.setCell ⟨N, 9, none⟩ (.int .i64 1)).setCell ⟨N, 12, none⟩ (.string ⟨#[]⟩)).setCell ⟨N, 29, none⟩ (.map none)).alloc (.cells #[.int .u64 x, .int .i64 s, .pointer none] 31)) := ((((Turn.refl (· = N) w).setN rfl _ _).setN rfl _ _).setN rfl _ _).alloc _
  clear c9 c12 c29 f9 f12 f29
  revert N1 b0 T1
  generalize (((w.setCell ⟨N, 9, none⟩ (.int .i64 1)).setCell ⟨N, 12, none⟩ (.string ⟨#[]⟩)).setCell ⟨N, 29, none⟩ (.map none)).alloc (.cells #[.int .u64 x, .int .i64 s, .pointer none] 31) = w1
  generalize hT : w.heap.size = T
  intro N1 b0 T1
  have HT : Hid (w.heap.size = T) := hT
  clear hT
  have lN1 := N1.lt
  have lb := b0.lt
  go_cut [] from 16 to 34 (fun wd => ∃ L A ex es, IsTm ex es (t + le) ∧ w.heap.size ≤ L ∧ w.heap.size ≤ A ∧ Blk wd L (lv0 0 A ex es).cells 56 ∧ Holds1 wd A (.map #[] 0) ∧ Blk wd N { nv with role := 1, leader := ⟨#[]⟩, votes := .map none, won := .pointer (some ⟨L, 0, none⟩) }.cells 49 ∧ Blk wd T #[.int .u64 x, .int .i64 s, .pointer none] 31 ∧ Turn (· = N) w wd)
  case first =>
    obtain ⟨a0, a1, a2, _, _, _⟩ := b0.cells3
    have n1 : w1.cell? ⟨N, 1, none⟩ = some (.slice ao 0 pc) := by rw [← hp]; exact N1.cell 1 rfl
    have n5 : w1.cell? ⟨N, 5, none⟩ = some (.int .i64 le) := by rw [← hle]; exact N1.cell 5 rfl
    have hmm := run_makeMap54
    have hTN : N ≠ T := N1.ne b0 (by decide)
    have HS : LeadS T N x s ao pc le w1 := ⟨a0, a1, a2, n1, n5⟩
    go_region_held3 (fun w' => w'.cell? ⟨T, 0, none⟩ = some (.int .u64 x) ∧ w'.cell? ⟨T, 1, none⟩ = some (.int .i64 s) ∧ w'.cell? ⟨T, 2, none⟩ = some (.pointer none) ∧ w'.cell? ⟨N, 1, none⟩ = some (.slice ao 0 pc) ∧ w'.cell? ⟨N, 5, none⟩ = some (.int .i64 le)) (first | (exact HS) | (exact HS.turn ((Turn.refl (fun _ => False) _).drew) lb lN1) | (exact HS.turn (((Turn.refl (fun _ => False) _).alloc _).drew) lb lN1) | (exact HS.turn ((Turn.refl (fun _ => False) _).alloc _) lb lN1) | (exact HS.turn (((Turn.refl (fun _ => False) _).alloc _).drew.alloc _) lb lN1) | (exact HS.turn (((Turn.refl (fun _ => False) _).alloc _).alloc _) lb lN1) | (exact HS.turn (((Turn.refl (fun _ => False) _).alloc _).alloc _).drew lb lN1) | (exact HS.turn (((Turn.refl (fun _ => False) _).alloc _).drew.alloc _).drew lb lN1) | (exact HS.set _) | (exact (HS.set _).turn ((Turn.refl (fun _ => False) _).alloc _) (sz_set lb) (sz_set lN1)) | (exact (HS.set _).turn (((Turn.refl (fun _ => False) _).alloc _).alloc _) (sz_set lb) (sz_set lN1)) | (exact (HS.set _).turn (((Turn.refl (fun _ => False) _).alloc _).drew.alloc _) (sz_set lb) (sz_set lN1)))
      (first
        | (go_at_call 9; refine (add_any x s t le _ ht htb).mono ?_; rintro e w2 ⟨x', s', rfl, hx', ht2⟩; (first | (have M2 := ht2.holds (Holds1.new' (w := w1) rfl (.map #[] 0)).drew id; have lM := M2.lt; have U2 : Turn (fun _ => False) w1 w2 := ((Turn.refl (fun _ => False) w1).alloc (.map #[] 0)).drew.trans ht2) | (have U2 : Turn (fun _ => False) w1 w2 := (Turn.refl (fun _ => False) w1).drew.trans ht2)); have N2 := U2.blk N1 id; have k2 : w2.cell? ⟨N, 42, none⟩ = some nv.won := N2.cell 42 rfl; have k3 := N2.frozen 42; replace HS := HS.turn U2 lb lN1; replace lb := Nat.lt_of_lt_of_le lb U2.size; replace lN1 := N2.lt)
        | fail)
    · go_wp2_with fail
      go_meet
      have V2 : Turn (· = N) w w2 := T1.trans (U2.weak (fun _ h => h.elim))
      exact ⟨w2.heap.size, w1.heap.size, x', s', hx', V2.size, T1.size, Blk.new' (by simp) _ _, (M2.set_other (a := ⟨N, 42, none⟩) (fun e => (M2.nem N2) e.symm) _).alloc _, (N2.won _).alloc _, ((U2.blk b0 id).set_other (a := ⟨N, 42, none⟩) hTN _).alloc _, (V2.setN rfl _ _).alloc _⟩
    · go_wp2_with fail
      go_meet
      have V2 : Turn (· = N) w w2 := T1.trans (U2.weak (fun _ h => h.elim))
      exact ⟨w2.heap.size + 1, w2.heap.size, x', s', hx', Nat.le_succ_of_le V2.size, V2.size, Blk.new' (by simp) _ _, (Holds1.new' (by simp) _).alloc _, ((N2.won _).alloc _).alloc _, (((U2.blk b0 id).set_other (a := ⟨N, 42, none⟩) hTN _).alloc _).alloc _, ((V2.setN rfl _ _).alloc _).alloc _⟩
  case rest =>
    obtain ⟨L, A, ex, es, hex, gL, gA, hL, hA, hN3, b3, T3⟩ := hcut
    obtain ⟨a0, a1, a2, _, _, _⟩ := b3.cells3
    clear N1 b0 T1 lN1 lb
    go_wp2_with fail
    refine (send_any N L A G pc ao _ _ nm x s t le hb 0 0 wc hN3 hL ht h0 (Or.inl hA) rfl rfl hq hid hle hhb hhl htb (Int.le_refl 0) (show (0 : Int) ≤ 100 by decide) hm hp (Or.inl (show (1 : Int) ≠ 2 by decide)) (Nat.zero_le 1) (Or.inl ⟨rfl, rfl, rfl⟩)).mono ?_
    rintro e w5 ⟨rfl, v2, xs2, nx, ns, ex2, es2, hnx, hex2, hL5, ho, hN5, hA5, T5⟩
    go_wp2_with fail
    go_ret
    refine ⟨rfl, L, A, v2, nx, ns, ex2, es2, gL, gA, hnx, hex2, hL5, ?_, hN5, hA5, T3.then T5 ?_⟩
    · have hl := ho.1
      have e0 : xs2 = [] := by
        cases xs2 with
        | nil => rfl
        | cons a l => simp at hl
      subst e0
      exact ho
    · rintro i (rfl | rfl | rfl | h)
      · exact Or.inl rfl
      · exact Or.inr gL
      · exact Or.inr gA
      · cases h

end Go.Proofs.Ybulkaubm
