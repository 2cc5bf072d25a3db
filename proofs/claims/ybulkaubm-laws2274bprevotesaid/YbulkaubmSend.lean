import Derived.Test.YbulkaubmSend0
import Derived.Deep.CutBlock
import Derived.Laws.OwnMore
namespace Go.Proofs.Ybulkaubm
open Go.RowKit Go.ChangeMaps
set_option linter.unusedSimpArgs false

theorem own_turn {S : Nat → Prop} {w w' : World} {base : Nat} {e : TypeId} {size : Nat} {v : Value} {n : Nat} {xs : List Value} (h : w.ownsRow base e size v n xs) (ht : Turn S w w') (hs : ∀ g, v.ownBlock = some g → ¬ S g) : w'.ownsRow base e size v n xs := by
  obtain ⟨h1, h2 | ⟨g, cap, cur, rfl, hge, hh, h3⟩⟩ := h
  · exact ⟨h1, Or.inl h2⟩
  · exact ⟨h1, Or.inr ⟨g, cap, cur, rfl, hge, ht.blk hh (hs g rfl), h3⟩⟩
theorem own_ge {w : World} {base : Nat} {e : TypeId} {size : Nat} {v : Value} {n : Nat} {xs : List Value} (h : w.ownsRow base e size v n xs) : ∀ g, v.ownBlock = some g → base ≤ g ∧ g < w.heap.size := fun g hg => h.lt g hg
theorem own_zero {w : World} {base : Nat} {e : TypeId} {size g cap n : Nat} {xs : List Value} (h : w.ownsRow base e size (.slice (some ⟨g, 0, none⟩) n cap) n xs) : w.ownsRow base e size (.slice (some ⟨g, 0, none⟩) 0 cap) 0 [] := by
  obtain ⟨h1, ⟨h2, _⟩ | ⟨g', cap', cur, h2, hge, hh, h3, h4, h5, _⟩⟩ := h
  · cases h2
  · cases h2
    exact ⟨by simp, Or.inr ⟨g, cap, cur, rfl, hge, hh, by omega, h4, h5, by simp⟩⟩

theorem own_not {w : World} {base : Nat} {e : TypeId} {size : Nat} {v : Value} {n : Nat} {xs : List Value} {b : Nat} {cs : Array Value} {t : TypeId} (h : w.ownsRow base e size v n xs) (hb : v.ownBlock = some b) (hk : Blk w b cs t) (hne : e ≠ t) : False := by
  obtain ⟨h1, ⟨h2, _⟩ | ⟨g, cap, cur, rfl, hge, hh, h3⟩⟩ := h
  · subst h2; cases hb
  · cases hb
    exact Blk.ne (show Blk w g cur e from hh) hk hne rfl

theorem own_map {w : World} {base : Nat} {e : TypeId} {size : Nat} {v : Value} {n : Nat} {xs : List Value} {b : Nat} {es : Array MapEntry} {c : Nat} (h : w.ownsRow base e size v n xs) (hb : v.ownBlock = some b) (hk : Holds1 w b (.map es c)) : False := by
  obtain ⟨h1, ⟨h2, _⟩ | ⟨g, cap, cur, rfl, hge, hh, h3⟩⟩ := h
  · subst h2; cases hb
  · cases hb
    exact hk.nem (show Blk w g cur e from hh) rfl

/-- The one beat of the row. -/
def OneBeat (w : World) (L g cap : Nat) (k x0 s0 : Int) : Prop :=
  w.ownsRow (L + 1) 59 4 (.slice (some ⟨g, 0, none⟩) 1 cap) 1 [.int .u64 k, .int .u64 x0, .int .i64 s0, .pointer none]

theorem OneBeat.cap {w : World} {L g cap : Nat} {k x0 s0 : Int} (h : OneBeat w L g cap k x0 s0) : 1 ≤ cap := by
  obtain ⟨h1, ⟨h2, _⟩ | ⟨g', cap', cur, h2, hge, hh, h3, _⟩⟩ := h
  · cases h2
  · cases h2
    exact h3
theorem OneBeat.ge {w : World} {L g cap : Nat} {k x0 s0 : Int} (h : OneBeat w L g cap k x0 s0) : L + 1 ≤ g ∧ g < w.heap.size := own_ge h g rfl
theorem OneBeat.turn {S : Nat → Prop} {w w' : World} {L g cap : Nat} {k x0 s0 : Int} (h : OneBeat w L g cap k x0 s0) (ht : Turn S w w') (hs : ¬ S g) : OneBeat w' L g cap k x0 s0 :=
  own_turn h ht (fun g' e => by cases e; exact hs)
theorem OneBeat.cells {w : World} {L g cap : Nat} {k x0 s0 : Int} (h : OneBeat w L g cap k x0 s0) :
    w.cell? ⟨g, 0, none⟩ = some (.int .u64 k) ∧ w.cell? ⟨g, 1, none⟩ = some (.int .u64 x0) ∧ w.cell? ⟨g, 2, none⟩ = some (.int .i64 s0) ∧ w.cell? ⟨g, 3, none⟩ = some (.pointer none) ∧
    w.frozen? ⟨g, 0, none⟩ = false ∧ w.frozen? ⟨g, 1, none⟩ = false ∧ w.frozen? ⟨g, 2, none⟩ = false ∧ w.frozen? ⟨g, 3, none⟩ = false := by
  unfold OneBeat at h
  exact ⟨h.cellAt 0 (by omega), h.cellAt 1 (by omega), h.cellAt 2 (by omega), h.cellAt 3 (by omega), h.frozenAt 0, h.frozenAt 1, h.frozenAt 2, h.frozenAt 3⟩

/-- What the loop reads. -/
def LoopS (T L g N : Nat) (x s : Int) (cap : Nat) (x0 s0 : Int) (le : Nat) (w' : World) : Prop :=
  w'.cell? ⟨T, 0, none⟩ = some (.int .u64 x) ∧ w'.cell? ⟨T, 1, none⟩ = some (.int .i64 s) ∧ w'.cell? ⟨T, 2, none⟩ = some (.pointer none) ∧ w'.cell? ⟨L, 0, none⟩ = some (.slice (some ⟨g, 0, none⟩) 1 cap) ∧ w'.cell? ⟨g, 1, none⟩ = some (.int .u64 x0) ∧ w'.cell? ⟨g, 2, none⟩ = some (.int .i64 s0) ∧ w'.cell? ⟨g, 3, none⟩ = some (.pointer none) ∧ w'.cell? ⟨N, 5, none⟩ = some (.int .i64 le)

theorem LoopS.turn {w w' : World} {T L g N : Nat} {x s : Int} {cap : Nat} {x0 s0 : Int} {le : Nat} (h : LoopS T L g N x s cap x0 s0 le w) (ht : Turn (fun _ => False) w w') (l1 : T < w.heap.size) (l2 : L < w.heap.size) (l3 : g < w.heap.size) (l4 : N < w.heap.size) : LoopS T L g N x s cap x0 s0 le w' := by
  obtain ⟨a, b, c, d, e, f, i, j⟩ := h
  exact ⟨(ht.cell (p := ⟨T, 0, none⟩) l1 id).trans a, (ht.cell (p := ⟨T, 1, none⟩) l1 id).trans b, (ht.cell (p := ⟨T, 2, none⟩) l1 id).trans c, (ht.cell (p := ⟨L, 0, none⟩) l2 id).trans d, (ht.cell (p := ⟨g, 1, none⟩) l3 id).trans e, (ht.cell (p := ⟨g, 2, none⟩) l3 id).trans f, (ht.cell (p := ⟨g, 3, none⟩) l3 id).trans i, (ht.cell (p := ⟨N, 5, none⟩) l4 id).trans j⟩

/-- The beats before: none; one that stays; one that goes. -/
def Beats0 (w : World) (L : Nat) (lv : LV) (t le e kept : Nat) : Prop :=
  (lv.beats = .slice none 0 0 ∧ e = 0 ∧ kept = 0) ∨ (∃ g cap k x0 s0 t0, lv.beats = .slice (some ⟨g, 0, none⟩) 1 cap ∧ OneBeat w L g cap k x0 s0 ∧ IsTm x0 s0 t0 ∧ t0 + le < 1000000000000000 ∧ ((t < t0 + le ∧ e = 0 ∧ kept = 1) ∨ (t0 + le ≤ t ∧ e = 1 ∧ kept = 0)))

/-- What sendHeartbeats leaves. -/
def SendP (w w' : World) (N L A : Nat) (nv : NV) (lv : LV) (nm : ByteArray) (x s : Int) (t le hb kept : Nat) : Prop :=
  ∃ v2 xs2 nx ns ex es, IsTm nx ns (t + hb) ∧ IsTm ex es (t + le) ∧ Blk w' L { lv with beats := v2, count := lv.count + 1, nx := nx, ns := ns, ex := ex, en := es, rx := x, rs := s }.cells 56 ∧
    w'.ownsRow (L + 1) 59 4 v2 (kept + 1) (xs2 ++ [.int .u64 (lv.count + 1), .int .u64 x, .int .i64 s, .pointer none]) ∧ Blk w' N { nv with role := 2, leader := nm, dx := nx, ds := ns }.cells 49 ∧ One w' A nm (tval x s) ∧
    Turn (fun b => b = N ∨ b = L ∨ b = A ∨ lv.beats.ownBlock = some b) w w'

theorem grown_own {w w' : World} {r : Option Nat} (h : w.grownBy w' r) : Turn (fun b => r = some b) w w' :=
  ⟨h.os, h.tape, h.output, h.size, fun k hk hn => h.block k hk (fun e => hn e.symm)⟩

set_option maxHeartbeats 2000000 in
theorem send_any (N L A G pc : Nat) (ao : Option Addr) (nv : NV) (lv : LV) (nm : ByteArray) (x s : Int) (t le hb e kept : Nat) (w : World) (hN : Blk w N nv.cells 49) (hL : Blk w L lv.cells 56) (ht : IsTm x s t) (h0 : 0 < t)
    (hA : Holds1 w A (.map #[] 0) ∨ ∃ v, One w A nm v)
    (hw : nv.won = .pointer (some ⟨L, 0, none⟩)) (hac : lv.acked = .map (some A)) (hq : nv.quorum = 1) (hid : nv.id = nm) (hle : nv.lease = le) (hhb : nv.hb = hb) (hhl : hb ≤ le) (htb : t + le < 1000000000000000) (hc0 : 0 ≤ lv.count) (hc1 : lv.count ≤ 100)
    (hm : nv.msgs = .slice (some ⟨G, 0, none⟩) 0 0) (hp : nv.peers = .slice ao 0 pc) (HR : nv.role ≠ 2 ∨ ∃ e0, IsTm lv.ex lv.en e0 ∧ e0 < t + le) (hk1 : kept ≤ 1) (HB : Beats0 w L lv t le e kept) :
    Calls Yba.prog 24 #[.pointer (some ⟨N, 0, none⟩), .agg #[.int .u64 x, .int .i64 s, .pointer none]] w fun e w' => e = .returned (.slice (some ⟨G, 0, none⟩) 0 0) ∧ SendP w w' N L A nv lv nm x s t le hb kept := by
  have lN := hN.lt
  have lL := hL.lt
  have c42 : w.cell? ⟨N, 42, none⟩ = some (.pointer (some ⟨L, 0, none⟩)) := by rw [← hw]; exact hN.cell 42 rfl
  have b0 := Blk.new w #[.int .u64 x, .int .i64 s, .pointer none] 31
  have N1 := hN.alloc (.cells #[.int .u64 x, .int .i64 s, .pointer none] 31)
  have L1 := hL.alloc (.cells #[.int .u64 x, .int .i64 s, .pointer none] 31)
  have T1 := (Turn.refl (fun _ => False) w).alloc (.cells #[.int .u64 x, .int .i64 s, .pointer none] 31)
  go_enter Yba.func24, Yba.ntmps24
  go_upto_block 0 with fail
  revert b0 N1 L1 T1
  generalize w.alloc (.cells #[.int .u64 x, .int .i64 s, .pointer none] 31) = w1
  generalize hT : w.heap.size = T
  intro b0 N1 L1 T1
  have HT : Hid (w.heap.size = T) := hT
  clear hT c42
  go_cut [6] from 11 to 37 (fun v wc => v = .int .i64 e ∧ Turn (fun _ => False) w1 wc)
  case first =>
    have n5 : w1.cell? ⟨N, 5, none⟩ = some (.int .i64 le) := by rw [← hle]; exact N1.cell 5 rfl
    have l1 := b0.lt
    have l2 := L1.lt
    have l4 := N1.lt
    rcases HB with ⟨hb, rfl, hk⟩ | ⟨g, cap, k, x0, s0, t0, hb, ho, ht0, ht0b, ⟨hlt, rfl, hk⟩ | ⟨hlt, rfl, hk⟩⟩
    · have l0 : w1.cell? ⟨L, 0, none⟩ = some (.slice none 0 0) := by rw [← hb]; exact L1.cell 0 rfl
      go_wp2_with fail
      refine wp_loop_rounds 1 ?_
      rw [rounds_succ]
      go_upto_region 3 with fail
      go_quiet (fail)
      go_wp2_with fail
      go_meet
      exact ⟨rfl, (Turn.refl _ w1).drewN nq⟩
    · have l0 : w1.cell? ⟨L, 0, none⟩ = some (.slice (some ⟨g, 0, none⟩) 1 cap) := by rw [← hb]; exact L1.cell 0 rfl
      have O1 := ho.turn T1 id
      obtain ⟨q0, q1, q2, q3, _⟩ := O1.cells
      obtain ⟨a0, a1, a2, _, _, _⟩ := b0.cells3
      have l3 : g < w1.heap.size := O1.ge.2
      have HS : LoopS T L g N x s cap x0 s0 le w1 := ⟨a0, a1, a2, l0, q1, q2, q3, n5⟩
      have TT := Turn.refl (fun _ => False) w1
      go_wp2_with fail
      refine wp_loop_rounds 1 ?_
      rw [rounds_succ]
      go_upto_region 3 with fail
      clear q0
      go_region_held3 (fun w' => w'.cell? ⟨T, 0, none⟩ = some (.int .u64 x) ∧ w'.cell? ⟨T, 1, none⟩ = some (.int .i64 s) ∧ w'.cell? ⟨T, 2, none⟩ = some (.pointer none) ∧ w'.cell? ⟨L, 0, none⟩ = some (.slice (some ⟨g, 0, none⟩) 1 cap) ∧ w'.cell? ⟨g, 1, none⟩ = some (.int .u64 x0) ∧ w'.cell? ⟨g, 2, none⟩ = some (.int .i64 s0) ∧ w'.cell? ⟨g, 3, none⟩ = some (.pointer none) ∧ w'.cell? ⟨N, 5, none⟩ = some (.int .i64 le)) (first | (exact HS) | (exact HS.turn (Turn.refl (fun _ => False) _).drew l1 l2 l3 l4) | go_keep)
        (first
          | (go_at_call 9; refine (add_any x0 s0 t0 le _ ht0 ht0b).mono ?_; rintro e w2 ⟨x', s', rfl, hx', ht2⟩; replace ht2 : Turn (fun _ => False) w1 w2 := (by exact (Turn.refl (fun _ => False) w1).drew.trans ht2); replace HS := HS.turn ht2 l1 l2 l3 l4; replace TT := ht2; replace l1 := Nat.lt_of_lt_of_le l1 ht2.size; replace l2 := Nat.lt_of_lt_of_le l2 ht2.size; replace l3 := Nat.lt_of_lt_of_le l3 ht2.size; replace l4 := Nat.lt_of_lt_of_le l4 ht2.size)
          | (go_at_call 21; refine (before_any x s x' s' t (t0 + le) true _ ht hx' (by simp; omega)).mono ?_; rintro e w3 ⟨rfl, ht3⟩; replace HS := HS.turn ht3 l1 l2 l3 l4; replace TT := TT.trans ht3))

      go_wp2_with fail
      go_meet
      exact ⟨rfl, TT⟩
    · have l0 : w1.cell? ⟨L, 0, none⟩ = some (.slice (some ⟨g, 0, none⟩) 1 cap) := by rw [← hb]; exact L1.cell 0 rfl
      have O1 := ho.turn T1 id
      obtain ⟨q0, q1, q2, q3, _⟩ := O1.cells
      obtain ⟨a0, a1, a2, _, _, _⟩ := b0.cells3
      have l3 : g < w1.heap.size := O1.ge.2
      have HS : LoopS T L g N x s cap x0 s0 le w1 := ⟨a0, a1, a2, l0, q1, q2, q3, n5⟩
      have TT := Turn.refl (fun _ => False) w1
      go_wp2_with fail
      refine wp_loop_rounds 2 ?_
      rw [rounds_succ]
      go_upto_region 3 with fail
      clear q0
      go_region_held3 (fun w' => w'.cell? ⟨T, 0, none⟩ = some (.int .u64 x) ∧ w'.cell? ⟨T, 1, none⟩ = some (.int .i64 s) ∧ w'.cell? ⟨T, 2, none⟩ = some (.pointer none) ∧ w'.cell? ⟨L, 0, none⟩ = some (.slice (some ⟨g, 0, none⟩) 1 cap) ∧ w'.cell? ⟨g, 1, none⟩ = some (.int .u64 x0) ∧ w'.cell? ⟨g, 2, none⟩ = some (.int .i64 s0) ∧ w'.cell? ⟨g, 3, none⟩ = some (.pointer none) ∧ w'.cell? ⟨N, 5, none⟩ = some (.int .i64 le)) (first | (exact HS) | (exact HS.turn (Turn.refl (fun _ => False) _).drew l1 l2 l3 l4) | go_keep)
        (first
          | (go_at_call 9; refine (add_any x0 s0 t0 le _ ht0 ht0b).mono ?_; rintro e w2 ⟨x', s', rfl, hx', ht2⟩; replace ht2 : Turn (fun _ => False) w1 w2 := (by exact (Turn.refl (fun _ => False) w1).drew.trans ht2); replace HS := HS.turn ht2 l1 l2 l3 l4; replace TT := ht2; replace l1 := Nat.lt_of_lt_of_le l1 ht2.size; replace l2 := Nat.lt_of_lt_of_le l2 ht2.size; replace l3 := Nat.lt_of_lt_of_le l3 ht2.size; replace l4 := Nat.lt_of_lt_of_le l4 ht2.size)
          | (go_at_call 21; refine (before_any x s x' s' t (t0 + le) false _ ht hx' (by simp; omega)).mono ?_; rintro e w3 ⟨rfl, ht3⟩; replace HS := HS.turn ht3 l1 l2 l3 l4; replace TT := TT.trans ht3))

      clear l0 q1 q2 q3 a0 a1 a2 n5
      obtain ⟨a0, a1, a2, l0, q1, q2, q3, n5⟩ := HS
      go_wp2_with fail
      rw [rounds_succ]
      go_upto_region 3 with fail
      go_quiet (fail)
      go_wp2_with fail
      go_meet
      exact ⟨rfl, TT.drewN nq⟩
  case rest =>
    obtain ⟨rfl, TW⟩ := hcut
    go_upto_region 5 with fail
    go_cut [] from 38 to 52 (fun wd => ∃ v1 m xs1, m = kept ∧ Blk wd L { lv with beats := v1 }.cells 56 ∧ wd.ownsRow (L + 1) 59 4 v1 m xs1 ∧ (∀ b, v1.ownBlock = some b → lv.beats.ownBlock = some b) ∧ Turn (· = L) w1 wd)
    case first =>
      have T2 := T1.trans TW
      have L2 := TW.blk L1 id
      have g0 := L2.frozen 0
      have l1 := L2.lt
      rcases HB with ⟨hb, rfl, hk⟩ | ⟨g, cap, k, x0, s0, t0, hb, ho, ht0, ht0b, ⟨hlt, rfl, hk⟩ | ⟨hlt, rfl, hk⟩⟩
      · have l0 : wc.cell? ⟨L, 0, none⟩ = some (.slice none 0 0) := by rw [← hb]; exact L2.cell 0 rfl
        have ea := app_nil
        go_region
        all_goals go_wp2_with fail
        all_goals go_meet
        all_goals
          have TS := (Turn.refl (· = L) wc).drew.setN rfl 0 (.slice none 0 0)
          exact ⟨.slice none 0 0, 0, [], hk.symm, L2.drew.beats _, World.ownsRow_nil _ _ _ _, (fun b e => by cases e), (TW.weak (fun _ h => h.elim)).trans TS⟩
      · have l0 : wc.cell? ⟨L, 0, none⟩ = some (.slice (some ⟨g, 0, none⟩) 1 cap) := by rw [← hb]; exact L2.cell 0 rfl
        have O2 := ho.turn T2 id
        have hcap := O2.cap
        have hcap' : (1 : Int) ≤ (cap : Int) := by omega
        obtain ⟨q0, q1, q2, q3, f0, f1, f2, f3⟩ := O2.cells
        have hgL : L ≠ g := by have := O2.ge.1; omega
        go_region
        all_goals go_wp2_with fail
        all_goals go_meet
        all_goals
          rw [setCell_same q0, setCell_same q1, setCell_same q2, setCell_same q3]
          have TS := ((Turn.refl (· = L) wc).setN rfl 0 (.slice (some ⟨g, 0, none⟩) 1 cap)).drew
          exact ⟨_, 1, _, hk.symm, (L2.beats _).drew, O2.turn TS hgL.symm, (fun b e => by rw [hb]; exact e), (TW.weak (fun _ h => h.elim)).trans TS⟩
      · have l0 : wc.cell? ⟨L, 0, none⟩ = some (.slice (some ⟨g, 0, none⟩) 1 cap) := by rw [← hb]; exact L2.cell 0 rfl
        have O2 := ho.turn T2 id
        have hcap := O2.cap
        have hcap' : (1 : Int) ≤ (cap : Int) := by omega
        have hgL : L ≠ g := by have := O2.ge.1; omega
        have ea := app_drop
        have TS := ((Turn.refl (· = L) wc).setN rfl 0 (.slice (some ⟨g, 0, none⟩) 0 cap)).drew
        by_cases hc1 : cap = 1
        · subst hc1
          go_region
          all_goals go_wp2_with fail
          all_goals go_meet
          all_goals exact ⟨_, 0, _, hk.symm, (L2.beats _).drew, own_zero (O2.turn TS hgL.symm), (fun b e => by rw [hb]; exact e), (TW.weak (fun _ h => h.elim)).trans TS⟩
        · go_region
          all_goals go_wp2_with fail
          all_goals go_meet
          all_goals exact ⟨_, 0, _, hk.symm, (L2.beats _).drew, own_zero (O2.turn TS hgL.symm), (fun b e => by rw [hb]; exact e), (TW.weak (fun _ h => h.elim)).trans TS⟩
    case rest =>
      obtain ⟨v1, m, xs1, rfl, L2, O2, hv1, TL⟩ := hcut
      have N2 := TL.blk N1 (N1.ne L1 (by decide))
      have B2 := TL.blk b0 (b0.ne L1 (by decide))
      have TW2 : Turn (fun b => b = N ∨ b = L ∨ lv.beats.ownBlock = some b) w wc := (T1.weak (fun _ h => h.elim)).trans (TL.weak (fun _ h => Or.inr (Or.inl h)))
      have c1 : wc.cell? ⟨L, 1, none⟩ = some (.int .u64 lv.count) := L2.cell 1 rfl
      have f1 := L2.frozen 1
      obtain ⟨cnt, hcnt⟩ : ∃ cnt, lv.count = cnt := ⟨_, rfl⟩
      have HC : Hid (lv.count = cnt) := hcnt
      rw [hcnt] at c1 hc0 hc1
      clear hcnt
      go_upto_region 7 with fail
      have TS := (Turn.refl (· = L) wc).setN rfl 1 (.int .u64 (cnt + 1))
      have L3 := L2.count (cnt + 1)
      have N3 := TS.blk N2 (N1.ne L1 (by decide))
      have B3 := TS.blk B2 (b0.ne L1 (by decide))
      have O3 := own_turn O2 TS (fun g hg e => by have := (own_ge O2 g hg).1; omega)
      have TW3 := TW2.trans (TS.weak (fun _ h => Or.inr (Or.inl h)))
      clear TS L2 N2 B2 O2 TW2 c1 f1 TW TL
      revert L3 N3 B3 O3 TW3
      generalize wc.setCell ⟨L, 1, none⟩ (.int .u64 (cnt + 1)) = w3
      intro L3 N3 B3 O3 TW3
      obtain ⟨I0, e1, e2, e3, e4⟩ := info59
      have lL3 := L3.lt
      have lB3 := B3.lt
      go_cut [] from 60 to 74 (fun wd => ∃ v2, Blk wd L { lv with count := cnt + 1, beats := v2 }.cells 56 ∧ wd.ownsRow (L + 1) 59 4 v2 (m + 1) (xs1 ++ [.int .u64 (cnt + 1), .int .u64 x, .int .i64 s, .pointer none]) ∧ Blk wd N nv.cells 49 ∧ Blk wd T #[.int .u64 x, .int .i64 s, .pointer none] 31 ∧ Turn (fun b => b = N ∨ b = L ∨ lv.beats.ownBlock = some b) w wd)
      case first =>
        have k0 : w3.cell? ⟨L, 0, none⟩ = some v1 := L3.cell 0 rfl
        have k1 : w3.cell? ⟨L, 1, none⟩ = some (.int .u64 (cnt + 1)) := L3.cell 1 rfl
        obtain ⟨a0, a1, a2, _, _, _⟩ := B3.cells3
        go_region_law (refine step_append_lies _ rfl (.tmp 64) (.tmp 71) 53 rfl (L + 1) 59 I0 _ 4 32 Yba.underlying53 e1 e2 e3 e4 rfl (by decide) v1 m xs1 (by simp [Act.eval, Act.put]) (own_turn O3 (((Turn.refl (fun _ => False) w3).alloc (.cells #[.int .u64 (cnt + 1), .int .u64 x, .int .i64 s, .pointer none] 59)).drew) (fun _ _ => id)) ⟨w3.heap.size, 0, none⟩ 1 1 [.int .u64 (cnt + 1), .int .u64 x, .int .i64 s, .pointer none] (by simp [Act.eval, Act.put]) rfl (World.news_of_block (cs := #[.int .u64 (cnt + 1), .int .u64 x, .int .i64 s, .pointer none]) (by exact (Blk.new w3 _ 59).drew)) (by simp [Value.oneCell']) (by omega) (by unfold maxLen; omega) (by omega) (by simp; omega) (w3.heap.size + 1) (by simp) ?_; intro g2 cap2 w5 hown5 hgr5 hl5 hlt5; have T5 := grown_own hgr5; have hLo : ¬ v1.ownBlock = some L := (fun e => by have := (own_ge O3 L e).1; omega); have L5 := T5.blk (L3.alloc (.cells #[.int .u64 (cnt + 1), .int .u64 x, .int .i64 s, .pointer none] 59)).drew hLo; have m0 : w5.cell? ⟨L, 0, none⟩ = some v1 := L5.cell 0 rfl; have m1 := L5.frozen 0)
        all_goals go_wp2_with fail
        all_goals go_meet
        all_goals
          have TA := ((Turn.refl (fun _ => False) w3).alloc (.cells #[.int .u64 (cnt + 1), .int .u64 x, .int .i64 s, .pointer none] 59)).drew
          have hNo : ¬ v1.ownBlock = some N := (fun e => own_not O3 e N3 (by decide))
          have hTo : ¬ v1.ownBlock = some T := (fun e => own_not O3 e B3 (by decide))
          have N5 := T5.blk (TA.blk N3 id) hNo
          have B5 := T5.blk (TA.blk B3 id) hTo
          have TS := (Turn.refl (· = L) w5).setN rfl 0 (.slice (some ⟨g2, 0, none⟩) (m + 1) cap2)
          have hgL : ¬ g2 = L := (fun e => by have := (own_ge hown5 g2 rfl).1; omega)
          exact ⟨_, L5.beats _, own_turn hown5 TS (fun g hg => by cases hg; exact hgL), TS.blk N5 (N1.ne L1 (by decide)), TS.blk B5 (b0.ne L1 (by decide)), ((TW3.trans (TA.weak (fun _ h => h.elim))).then T5 (fun i hi => Or.inl (Or.inr (Or.inr (hv1 i hi))))).trans (TS.weak (fun _ h => Or.inr (Or.inl h)))⟩
      case rest =>
        clear L3 N3 B3 O3 TW3 lL3 lB3
        obtain ⟨v2, L4, O4, N4, B4, TW4⟩ := hcut
        have hAo : ¬ (A = N ∨ A = L ∨ lv.beats.ownBlock = some A) := by
          have hAr : ∃ es c, Holds1 w A (.map es c) := by
            rcases hA with h | ⟨v, h⟩
            · exact ⟨_, _, h⟩
            · exact ⟨_, _, h⟩
          obtain ⟨es, c, hAr⟩ := hAr
          rintro (h | h | h)
          · exact hAr.nem hN h
          · exact hAr.nem hL h
          · rcases HB with ⟨hb, _⟩ | ⟨g, cap, k, x0, s0, t0, hb, ho, _⟩
            · rw [hb] at h; cases h
            · rw [hb] at h
              cases h
              obtain ⟨_, ⟨h2, _⟩ | ⟨g', cap', cur, h2, _, hh, _⟩⟩ := ho
              · cases h2
              · cases h2
                exact hAr.nem (show Blk w _ cur 59 from hh) rfl
        have hmu : (Instr.mapUpdate 54 (.map (some A)) (.string nm) (.agg #[.int .u64 x, .int .i64 s, .pointer none])).run Yba.prog wc.drew = .ok () (setBlock wc.drew A (mone nm (tval x s))) := by
          rcases hA with h | ⟨v, h⟩
          · exact run_first 54 31 wc.drew A nm _ Yba.underlying54 (TW4.holds h hAo).drew
          · exact run_again 54 31 wc.drew A nm v _ Yba.underlying54 (TW4.holds h hAo).drew
        have k2 : wc.cell? ⟨L, 2, none⟩ = some (.map (some A)) := by rw [← hac]; exact L4.cell 2 rfl
        have n0 : wc.cell? ⟨N, 0, none⟩ = some (.string nm) := by rw [← hid]; exact N4.cell 0 rfl
        obtain ⟨a0, a1, a2, _, _, _⟩ := B4.cells3
        have A5 : One (setBlock wc.drew A (mone nm (tval x s))) A nm (tval x s) := by
          rcases hA with h | ⟨v, h⟩
          · exact (TW4.holds h hAo).drew.put _
          · exact (TW4.holds h hAo).drew.put _
        have TA : Turn (· = A) wc (setBlock wc.drew A (mone nm (tval x s))) := ((Turn.refl (· = A) wc).drew).put (b := A) (Or.inl rfl) _
        have hNA : ¬ N = A := fun e => hAo (Or.inl e.symm)
        have hLA : ¬ L = A := fun e => hAo (Or.inr (Or.inl e.symm))
        have L5 := TA.blk L4 hLA
        have N5 := TA.blk N4 hNA
        have B5 := TA.blk B4 (fun e => by rcases hA with h | ⟨v, h⟩ <;> exact (TW4.holds h hAo).nem B4 e.symm)
        have O5 := own_turn O4 TA (fun g hg e => by subst e; rcases hA with h | ⟨v, h⟩ <;> exact own_map O4 hg (TW4.holds h hAo))
        have TW5 : Turn (fun b => b = N ∨ b = L ∨ b = A ∨ lv.beats.ownBlock = some b) w _ := (TW4.weak (fun b h => by rcases h with h | h | h; exact Or.inl h; exact Or.inr (Or.inl h); exact Or.inr (Or.inr (Or.inr h)))).trans (TA.weak (fun b h => Or.inr (Or.inr (Or.inl h))))
        go_upto_region 8 with fail
        go_region
        go_upto_region 9 with fail
        clear hmu k2 n0 a0 a1 a2 TA L4 N4 B4 O4 TW4
        revert A5 L5 N5 B5 O5 TW5
        generalize setBlock wc.drew A (mone nm (tval x s)) = w5
        intro A5 L5 N5 B5 O5 TW5
        go_cut [] from 84 to 92 (fun wd => ∃ nx ns, IsTm nx ns (t + hb) ∧ Blk wd L { lv with count := cnt + 1, beats := v2, nx := nx, ns := ns }.cells 56 ∧ wd.ownsRow (L + 1) 59 4 v2 (m + 1) (xs1 ++ [.int .u64 (cnt + 1), .int .u64 x, .int .i64 s, .pointer none]) ∧ Blk wd N nv.cells 49 ∧ Blk wd T #[.int .u64 x, .int .i64 s, .pointer none] 31 ∧ One wd A nm (tval x s) ∧ Turn (fun b => b = N ∨ b = L ∨ b = A ∨ lv.beats.ownBlock = some b) w wd)
        case first =>
          obtain ⟨a0, a1, a2, _, _, _⟩ := B5.cells3
          have n3 : w5.cell? ⟨N, 3, none⟩ = some (.int .i64 hb) := by rw [← hhb]; exact N5.cell 3 rfl
          go_region_with (go_at_call 9; refine (add_any x s t hb _ ht (by omega)).mono ?_; rintro e w6 ⟨x', s', rfl, hx', ht6⟩; have L6 := ht6.blk L5.drew id; have d0 : w6.cell? ⟨L, 3, none⟩ = some (.int .u64 lv.nx) := L6.cell 3 rfl; have d1 : w6.cell? ⟨L, 4, none⟩ = some (.int .i64 lv.ns) := L6.cell 4 rfl; have d2 : w6.cell? ⟨L, 5, none⟩ = some (.pointer none) := L6.cell 5 rfl; have g0 := L6.frozen 3; have g1 := L6.frozen 4; have g2 := L6.frozen 5)
          all_goals go_wp2_with fail
          all_goals go_meet
          all_goals
            have TD := (Turn.refl (fun _ => False) w5).drew.trans ht6
            have TS := (Turn.refl (· = L) w6).set3 (N := L) (Or.inl rfl) 3 4 5 (.int .u64 x') (.int .i64 s') (.pointer none)
            exact ⟨x', s', hx', L6.next3 _ _, own_turn (own_turn O5 TD (fun _ _ => id)) TS (fun g hg e => by have := (own_ge O5 g hg).1; omega), TS.blk (TD.blk N5 id) (N1.ne L1 (by decide)), TS.blk (TD.blk B5 id) (b0.ne L1 (by decide)), TS.one (TD.one A5 id) (fun e => hLA e.symm), (TW5.trans (TD.weak (fun _ h => h.elim))).trans (TS.weak (fun _ h => Or.inr (Or.inl h)))⟩
        case rest =>
          clear A5 L5 N5 B5 O5 TW5
          obtain ⟨nx, ns, hnx, L6, O6, N6, B6, A6, TW6⟩ := hcut
          obtain ⟨a0, a1, a2, _, _, _⟩ := B6.cells3
          go_wp2_with fail
          refine (renew_any N L A nv _ nm x s t _ N6 L6 A6 ht h0 hw hac hq hid le (t + hb) hle htb hnx (by omega) HR).mono ?_
          rintro e w7 ⟨rfl, ex, es, hex, L7, N7, A7, T7⟩
          have c1 : w7.cell? ⟨L, 1, none⟩ = some (.int .u64 (cnt + 1)) := L7.cell 1 rfl
          have O7 := own_turn O6 T7 (fun g hg e => by rcases e with rfl | rfl; exact own_not O6 hg N6 (by decide); exact own_not O6 hg L6 (by decide))
          go_wp2_with fail
          refine (heartbeats0 N G _ (cnt + 1) ao pc _ N7 hm hp).mono ?_
          rintro e w8 ⟨rfl, rfl⟩
          go_wp2_with fail
          go_ret
          refine ⟨rfl, v2, xs1, nx, ns, ex, es, hnx, hex, ?_, ?_, N7, A7, TW6.trans (T7.weak (fun b h => by rcases h with h | h; exact Or.inl h; exact Or.inr (Or.inl h)))⟩
          · rw [HC.out]; exact L7
          · rw [HC.out]; exact O7

end Go.Proofs.Ybulkaubm
