import Derived.Test.YbulkaubmLone
import Derived.Maps.RangeWalk
import Derived.BigQuiet
namespace Go.Proofs.Ybulkaubm
open Go.RowKit Go.ChangeMaps

/-- A time's value. -/
def tval (x s : Int) : Value := .agg #[.int .u64 x, .int .i64 s, .pointer none]

theorem Turn.step (w : World) (r : Nat) (q : Obj) : Turn (· = r) w (setBlock w r q) := (Turn.refl (· = r) w).put (b := r) (Or.inl rfl) q

section
variable {ops : Array Oper} {rest : List Oper} {o : Oper} {a : Act} {Q : Exit → Act → World → Prop}

theorem wpList_range1 (w : World) (hg : o.guard = none) (m : Operand) (t : TypeId) (hop : o.op = Op.range t m) (E : TypeId) (hT : Yba.prog.underlying t = some (.map 9 E)) (b : Nat) (s : ByteArray) (v : Value)
    (hm : a.eval m = .map (some b)) (h : One w b s v) (r : Nat) (hr : w.heap.size = r)
    (hK : wpList Yba.prog ops Q rest (a.put o.dst (.pointer (some ⟨r, 0, none⟩))) (w.alloc (.mapIter (some b) 1 #[] 1))) :
    wpList Yba.prog ops Q (o :: rest) a w := by
  subst hr
  refine wpList_plain hg fun K' hK' => ?_
  unfold Oper.wp
  simp [execOp, hop, hm, run_range1 t E w b s v hT h, Result.andThen]
  exact hK' _ _ hK

theorem wpList_next1 (w : World) (hg : o.guard = none) (it : Operand) (hop : o.op = Op.next it false) (r b : Nat) (s : ByteArray) (x y : Int)
    (hit : a.eval it = .pointer (some ⟨r, 0, none⟩)) (h : One w b s (tval x y)) (hr : Holds1 w r (.mapIter (some b) 1 #[] 1))
    (hK : ∀ w', Turn (· = r) w w' → Holds1 w' r (.mapIter (some b) 1 #[0] 1) → (Instr.entry (.pointer (some ⟨r, 0, none⟩))).run Yba.prog w' = .ok (.tuple #[.string s, .agg #[.int .u64 x, .int .i64 y, .pointer none]]) w' → wpList Yba.prog ops Q rest (a.put o.dst (.tuple #[.bool true, .string s, .agg #[.int .u64 x, .int .i64 y, .pointer none]])) w') :
    wpList Yba.prog ops Q (o :: rest) a w := by
  refine wpList_plain hg fun K' hK' => ?_
  unfold Oper.wp
  simp [execOp, hop, hit, run_next1 o.type w r b s _ h hr, Result.andThen]
  have hne : b ≠ r := by
    intro e
    subst e
    unfold One Holds1 at h
    unfold Holds1 at hr
    rw [h] at hr
    cases hr
  have h2 : One (setBlock w r (.mapIter (some b) 1 #[0] 1)) b s (tval x y) := by
    unfold One Holds1 at h ⊢
    unfold setBlock
    simpa [Array.getElem?_setIfInBounds_ne hne.symm] using h
  exact hK' _ _ (hK _ (Turn.step w r _) (hr.put _) (run_entry1 _ r b s _ h2 (hr.put _)))

theorem wpList_next2 (w : World) (hg : o.guard = none) (it : Operand) (hop : o.op = Op.next it false) (r b : Nat) (s : ByteArray) (v : Value)
    (hit : a.eval it = .pointer (some ⟨r, 0, none⟩)) (h : One w b s v) (hr : Holds1 w r (.mapIter (some b) 1 #[0] 1))
    (hK : wpList Yba.prog ops Q rest (a.put o.dst (.tuple #[.bool false])) w) :
    wpList Yba.prog ops Q (o :: rest) a w := by
  refine wpList_plain hg fun K' hK' => ?_
  unfold Oper.wp
  simp [execOp, hop, hit, run_next2 o.type w r b s _ h hr, Result.andThen]
  exact hK' _ _ hK
end

/-- What stands while renew goes round. -/
structure Rw (w : World) (T N L A : Nat) (nv : NV) (lv : LV) (nm : ByteArray) (x s : Int) : Prop where
  t : Blk w T #[.int .u64 x, .int .i64 s, .pointer none] 31
  n : Blk w N nv.cells 49
  l : Blk w L lv.cells 56
  a : One w A nm (tval x s)

theorem Rw.turn {S : Nat → Prop} {w w' : World} {T N L A : Nat} {nv : NV} {lv : LV} {nm : ByteArray} {x s : Int} (h : Rw w T N L A nv lv nm x s) (ht : Turn S w w') (h1 : ¬ S T) (h2 : ¬ S N) (h3 : ¬ S L) (h4 : ¬ S A) : Rw w' T N L A nv lv nm x s :=
  ⟨ht.blk h.t h1, ht.blk h.n h2, ht.blk h.l h3, ht.one h.a h4⟩

/-- The iterator r over A, where it has gone d steps (0 or 1), and the greatest so far. -/
def Goes (w wr : World) (T Mj r N L A : Nat) (nv : NV) (lv : LV) (nm : ByteArray) (x s : Int) (d : Nat) : Prop :=
  Rw wr T N L A nv lv nm x s ∧ Turn (fun b => b = N ∨ b = L) w wr ∧ w.heap.size ≤ T ∧ w.heap.size ≤ Mj ∧ w.heap.size ≤ r ∧ Mj ≠ T ∧
    ((d = 0 ∧ Holds1 wr r (.mapIter (some A) 1 #[] 1) ∧ Blk wr Mj #[.int .u64 0, .int .i64 0, .pointer none] 31) ∨ (d = 1 ∧ Holds1 wr r (.mapIter (some A) 1 #[0] 1) ∧ Blk wr Mj #[.int .u64 x, .int .i64 s, .pointer none] 31))

/-- The inner round: the outer iterator has gone its step; r2 has gone d. -/
def GoesIn (w wr : World) (T Mj r B r2 N L A : Nat) (nv : NV) (lv : LV) (nm : ByteArray) (x s : Int) (d : Nat) : Prop :=
  Rw wr T N L A nv lv nm x s ∧ Turn (fun b => b = N ∨ b = L) w wr ∧ w.heap.size ≤ T ∧ w.heap.size ≤ Mj ∧ w.heap.size ≤ r ∧ w.heap.size ≤ B ∧ w.heap.size ≤ r2 ∧ Mj ≠ T ∧ B ≠ Mj ∧ B ≠ T ∧ r ≠ r2 ∧
    Holds1 wr r (.mapIter (some A) 1 #[0] 1) ∧ Blk wr Mj #[.int .u64 0, .int .i64 0, .pointer none] 31 ∧ Blk wr B #[.int .u64 x, .int .i64 s, .pointer none] 31 ∧
    ((d = 0 ∧ Holds1 wr r2 (.mapIter (some A) 1 #[] 1)) ∨ (d = 1 ∧ Holds1 wr r2 (.mapIter (some A) 1 #[0] 1)))

theorem Holds1.nei {w : World} {b b' : Nat} {m : Option Nat} {i j : Nat} {l : Array Nat} {cs : Array Value} {t : TypeId} (h : Holds1 w b (.mapIter m i l j)) (h' : Blk w b' cs t) : b ≠ b' := h.ne h' (by simp)
theorem Holds1.neo {w : World} {b b' : Nat} {m : Option Nat} {i j : Nat} {l : Array Nat} {nm : ByteArray} {v : Value} (h : Holds1 w b (.mapIter m i l j)) (h' : One w b' nm v) : b ≠ b' := by
  intro e
  subst e
  unfold One Holds1 at h'
  unfold Holds1 at h
  rw [h] at h'
  cases h'
theorem Rw.step {w w' : World} {T N L A r : Nat} {nv : NV} {lv : LV} {nm : ByteArray} {x s : Int} {m : Option Nat} {i j : Nat} {l : Array Nat} (h : Rw w T N L A nv lv nm x s) (hr : Holds1 w r (.mapIter m i l j)) (ht : Turn (· = r) w w') : Rw w' T N L A nv lv nm x s :=
  h.turn ht (hr.nei h.t).symm (hr.nei h.n).symm (hr.nei h.l).symm (hr.neo h.a).symm
theorem Rw.new {w : World} {T N L A : Nat} {nv : NV} {lv : LV} {nm : ByteArray} {x s : Int} (h : Rw w T N L A nv lv nm x s) (o : Obj) : Rw (w.alloc o) T N L A nv lv nm x s :=
  h.turn ((Turn.refl (fun _ => False) w).alloc o) id id id id

/-- How many steps are left. -/
def itLeft (w : World) (r : Nat) : Nat := match w.heap[r]? with | some (.mapIter _ _ seen _) => 1 - seen.size | _ => 0

theorem isTm00 : IsTm 0 0 0 := ⟨rfl, rfl, by omega⟩

/-- What renew leaves. -/
def RenewP (w w' : World) (N L A : Nat) (nv : NV) (lv : LV) (nm : ByteArray) (x s : Int) (t : Nat) : Prop :=
  ∃ ex es, IsTm ex es t ∧ Blk w' L { lv with ex := ex, en := es, rx := x, rs := s }.cells 56 ∧ Blk w' N { nv with role := 2, leader := nm, dx := lv.nx, ds := lv.ns }.cells 49 ∧ One w' A nm (tval x s) ∧ Turn (fun b => b = N ∨ b = L) w w'

set_option maxHeartbeats 1000000 in
theorem renew_any (N L A : Nat) (nv : NV) (lv : LV) (nm : ByteArray) (x s : Int) (t : Nat) (w : World) (hN : Blk w N nv.cells 49) (hL : Blk w L lv.cells 56) (hA : One w A nm (tval x s)) (ht : IsTm x s t) (h0 : 0 < t)
    (hw : nv.won = .pointer (some ⟨L, 0, none⟩)) (ha : lv.acked = .map (some A)) (hq : nv.quorum = 1) (hid : nv.id = nm) (le nt : Nat) (hle : nv.lease = le) (hlb : t + le < 1000000000000000) (hnt : IsTm lv.nx lv.ns nt) (hnl : nt ≤ t + le) (HR : nv.role ≠ 2 ∨ ∃ e0, IsTm lv.ex lv.en e0 ∧ e0 < t + le) :
    Calls Yba.prog 34 #[.pointer (some ⟨N, 0, none⟩), .agg #[.int .u64 x, .int .i64 s, .pointer none]] w fun e w' => e = .returned (.tuple #[]) ∧ RenewP w w' N L A nv lv nm x s (t + le) := by
  have lN := hN.lt
  have lL := hL.lt
  have c42 : w.cell? ⟨N, 42, none⟩ = some (.pointer (some ⟨L, 0, none⟩)) := by rw [← hw]; exact hN.cell 42 rfl
  have l2 : w.cell? ⟨L, 2, none⟩ = some (.map (some A)) := by rw [← ha]; exact hL.cell 2 rfl
  have HA : One ((w.alloc (.cells #[.int .u64 x, .int .i64 s, .pointer none] 31)).alloc (.cells #[.int .u64 0, .int .i64 0, .pointer none] 31)) A nm (tval x s) := (hA.alloc _).alloc _
  have HG : Goes w (((w.alloc (.cells #[.int .u64 x, .int .i64 s, .pointer none] 31)).alloc (.cells #[.int .u64 0, .int .i64 0, .pointer none] 31)).alloc (.mapIter (some A) 1 #[] 1)) w.heap.size (w.heap.size + 1) (w.heap.size + 1 + 1) N L A nv lv nm x s 0 :=
    ⟨⟨((Blk.new w _ _).alloc _).alloc _, ((hN.alloc _).alloc _).alloc _, ((hL.alloc _).alloc _).alloc _, ((hA.alloc _).alloc _).alloc _⟩, (((Turn.refl _ w).alloc _).alloc _).alloc _, by omega, by omega, by omega, by omega,
      Or.inl ⟨rfl, Holds1.new' (by simp) _, (Blk.new' (by simp) _ _).alloc _⟩⟩
  go_enter Yba.func34, Yba.ntmps34
  go_wp2_with (at_range; refine wpList_range1 _ rfl _ 54 rfl 31 Yba.underlying54 A nm (tval x s) rfl HA (w.heap.size + 1 + 1) (by simp) ?_)
  go_frame
  revert HG
  generalize ((w.alloc (.cells #[.int .u64 x, .int .i64 s, .pointer none] 31)).alloc (.cells #[.int .u64 0, .int .i64 0, .pointer none] 31)).alloc (.mapIter (some A) 1 #[] 1) = w1
  generalize w.heap.size + 1 + 1 = r
  generalize w.heap.size + 1 = Mj
  generalize hT : w.heap.size = T
  intro HG
  have HT : Hid (w.heap.size = T) := hT
  clear hT HA c42 l2
  go_loopw [21] (fun _ wr => ∃ d, Goes w wr T Mj r N L A nv lv nm x s d) (fun _ wr => itLeft wr r)
  case atStart => exact ⟨0, HG⟩
  case round =>
    clear HG
    obtain ⟨d, g1, g2, g3, g4, g5, g6, ⟨rfl, g7, g8⟩ | ⟨rfl, g7, g8⟩⟩ := hrel
    · go_wp2_with (first | (at_next; refine wpList_next1 _ rfl _ rfl r A nm x s rfl g1.a g7 ?_; intro w2 ht2 I2 hen; have R2 := g1.step g7 ht2; have M2 := ht2.blk g8 (g7.nei g8).symm; have T2 := g2.then ht2 (fun i e => Or.inr (by omega)); have l2 : w2.cell? ⟨L, 2, none⟩ = some (.map (some A)) := (by rw [← ha]; exact R2.l.cell 2 rfl); have lL2 := R2.l.lt) | (at_range; refine wpList_range1 _ rfl _ 54 rfl 31 Yba.underlying54 A nm (tval x s) rfl (R2.a.alloc _) (w2.heap.size + 1) (by simp) ?_))
      go_frame
      have hMT := M2.lt
      have hTT := R2.t.lt
      have hTR := I2.lt
      have HS2 := T2.size
      have HG : GoesIn w ((w2.alloc (.cells #[.int .u64 x, .int .i64 s, .pointer none] 31)).alloc (.mapIter (some A) 1 #[] 1)) T Mj r w2.heap.size (w2.heap.size + 1) N L A nv lv nm x s 0 :=
        ⟨(R2.new _).new _, (T2.alloc _).alloc _, g3, g4, g5, HS2, by omega, g6, by omega, by omega, by omega, (I2.alloc _).alloc _, (M2.alloc _).alloc _, (Blk.new w2 _ _).alloc _, Or.inl ⟨rfl, Holds1.new' (by simp) _⟩⟩
      have HL0 : Hid (itLeft wr r = 1) := (by show itLeft wr r = 1; unfold itLeft; unfold Holds1 at g7; rw [g7]; rfl)
      clear R2 I2 M2 T2 l2 lL2 hen ht2 hMT hTT hTR HS2 g1 g2 g7 g8
      revert HG
      generalize (w2.alloc (.cells #[.int .u64 x, .int .i64 s, .pointer none] 31)).alloc (.mapIter (some A) 1 #[] 1) = w3
      generalize w2.heap.size + 1 = r2
      generalize w2.heap.size = B
      intro HG
      go_loopw [8] (fun v wr => ∃ d : Nat, v = .int .i64 d ∧ GoesIn w wr T Mj r B r2 N L A nv lv nm x s d) (fun _ wr => itLeft wr r2)
      case atStart => exact ⟨0, rfl, HG⟩
      case round =>
        clear HG
        obtain ⟨d, rfl, h1, h2, h3, h4, h5, h6, h7, h8, h9, h10, h11, h12, h13, h14, ⟨rfl, h15⟩ | ⟨rfl, h15⟩⟩ := hrel
        · go_wp2_with (at_next; refine wpList_next1 _ rfl _ rfl r2 A nm x s rfl h1.a h15 ?_; intro w4 ht4 I4 hen; have R4 := h1.step h15 ht4; have M4 := ht4.blk h13 (h15.nei h13).symm; have B4 := ht4.blk h14 (h15.nei h14).symm; have O4 := ht4.holds h12 h11; have T4 := h2.then ht4 (fun i e => Or.inr (by omega)); have lB4 := B4.lt; have b0 := (B4.cells3).1; have b1 := (B4.cells3).2.1; have b2 := (B4.cells3).2.2.1)
          refine (before_any x s x s t t false _ ht ht (by simp)).mono ?_
          rintro e w5 ⟨rfl, ht5⟩
          have HI : itLeft wr r2 = 1 := (by unfold itLeft; unfold Holds1 at h15; rw [h15]; rfl)
          have ht6 := ((Turn.refl (fun _ => False) w4).alloc _).trans ht5
          have HG : GoesIn w w5 T Mj r B r2 N L A nv lv nm x s 1 :=
            ⟨R4.turn ht6 id id id id, T4.trans (ht6.weak (fun _ h => h.elim)), h3, h4, h5, h6, h7, h8, h9, h10, h11, ht6.holds O4 id, ht6.blk M4 id, ht6.blk B4 id, Or.inr ⟨rfl, ht6.holds I4 id⟩⟩
          have HI2 : itLeft w5 r2 = 0 := (by have := ht6.holds I4 id; unfold itLeft; unfold Holds1 at this; rw [this]; rfl)
          clear R4 M4 B4 O4 T4 lB4 b0 b1 b2 hen I4
          go_wp2_with fail
          go_roundw
          case rel => exact ⟨1, rfl, HG⟩
          case measure => rw [HI, HI2]; omega
        · have n2 : wr.cell? ⟨N, 2, none⟩ = some (.int .i64 1) := by rw [← hq]; exact h1.n.cell 2 rfl
          obtain ⟨b0, b1, b2, _, _, _⟩ := h14.cells3
          obtain ⟨m0, m1, m2, _, _, _⟩ := h13.cells3
          go_wp2_with (at_next; refine wpList_next2 _ rfl _ rfl r2 A nm (tval x s) rfl h1.a h15 ?_)
          refine (after_any x s 0 0 t 0 true _ ht isTm00 (by simpa using h0)).mono ?_
          rintro e w5 ⟨rfl, ht5⟩
          have R5 := h1.turn ht5 id id id id
          have T5 := h2.trans (ht5.weak (fun _ h => h.elim))
          have M5 := ht5.blk h13 id
          have B5 := ht5.blk h14 id
          have O5 := ht5.holds h12 id
          clear b0 b1 b2 m0 m1 m2 n2
          obtain ⟨b0, b1, b2, _, _, _⟩ := B5.cells3
          obtain ⟨m0, m1, m2, f0, f1, f2⟩ := M5.cells3
          have hBM : Mj ≠ B := h9.symm
          go_wp2_with fail
          clear b0 b1 b2 m0 m1 m2 f0 f1 f2
          have ht6 : Turn (· = Mj) w5 (((w5.setCell ⟨Mj, 0, none⟩ (.int .u64 x)).setCell ⟨Mj, 1, none⟩ (.int .i64 s)).setCell ⟨Mj, 2, none⟩ (.pointer none)) := (Turn.refl (· = Mj) w5).set3 (Or.inl rfl) _ _ _ _ _ _
          have O6 := ht6.holds O5 (O5.nei M5)
          have HG : Goes w (((w5.setCell ⟨Mj, 0, none⟩ (.int .u64 x)).setCell ⟨Mj, 1, none⟩ (.int .i64 s)).setCell ⟨Mj, 2, none⟩ (.pointer none)) T Mj r N L A nv lv nm x s 1 :=
            ⟨R5.turn ht6 (Ne.symm h8) (R5.n.ne M5 (by decide)) (R5.l.ne M5 (by decide)) (R5.a.nem M5), T5.then ht6 (fun i e => Or.inr (by omega)), h3, h4, h5, h8, Or.inr ⟨rfl, O6, ((M5.set 0 _).set 1 _).set 2 _⟩⟩
          have HI2 : itLeft (((w5.setCell ⟨Mj, 0, none⟩ (.int .u64 x)).setCell ⟨Mj, 1, none⟩ (.int .i64 s)).setCell ⟨Mj, 2, none⟩ (.pointer none)) r = 0 := (by unfold itLeft; unfold Holds1 at O6; rw [O6]; rfl)
          go_roundw
          case rel => exact ⟨1, HG⟩
          case measure => rw [HL0.out, HI2]; omega
    · obtain ⟨m0, m1, m2, _, _, _⟩ := g8.cells3
      go_wp2_with (at_next; refine wpList_next2 _ rfl _ rfl r A nm (tval x s) rfl g1.a g7 ?_)
      refine (isZero_any x s t false _ ht (by simp; omega)).mono ?_
      rintro e w5 ⟨rfl, ht5⟩
      have R5 := g1.turn ht5 id id id id
      have T5 := g2.trans (ht5.weak (fun _ h => h.elim))
      have M5 := ht5.blk g8 id
      clear m0 m1 m2 g1 g2 g7 g8
      go_upto_region 15 with fail
      go_cut [11] from 55 to 60 (fun v wc => ∃ E ex es, v = .pointer (some ⟨E, 0, none⟩) ∧ IsTm ex es (t + le) ∧ Blk wc E #[.int .u64 ex, .int .i64 es, .pointer none] 31 ∧ w.heap.size ≤ E ∧ E ≠ T ∧ Rw wc T N L A nv lv nm x s ∧ Turn (fun b => b = N ∨ b = L) w wc)
      case first =>
        obtain ⟨m0, m1, m2, _, _, _⟩ := M5.cells3
        have n5 : w5.cell? ⟨N, 5, none⟩ = some (.int .i64 le) := by rw [← hle]; exact R5.n.cell 5 rfl
        have l1 := M5.lt
        have l2 := R5.n.lt
        go_region_with (go_at_call 9; refine (add_any x s t le _ ht hlb).mono ?_; rintro e w6 ⟨x', s', rfl, hx', ht6⟩; first | (have b6 := ht6.blk (Blk.new w5 #[.int .u64 0, .int .i64 0, .pointer none] 31).drew id; obtain ⟨k0, k1, k2, k3, k4, k5⟩ := b6.cells3; have lb := b6.lt) | skip)
        all_goals go_wp2_with fail
        all_goals go_meet
        all_goals first
          | (have T7 := ((((Turn.refl (fun _ => False) w5).alloc _).drew).trans ht6).set3 (N := w5.heap.size) (Or.inr (Nat.le_refl _)) 0 1 2 (.int .u64 x') (.int .i64 s') (.pointer none)
             exact ⟨w5.heap.size, x', s', rfl, hx', ((b6.set 0 _).set 1 _).set 2 _, T5.size, (Nat.ne_of_lt R5.t.lt).symm, R5.turn T7 id id id id, T5.trans (T7.weak (fun _ h => h.elim))⟩)
          | (have T7 := (((Turn.refl (fun _ => False) w5).drew).trans ht6).alloc (.cells #[.int .u64 x', .int .i64 s', .pointer none] 31)
             have T6 := ((Turn.refl (fun _ => False) w5).drew).trans ht6
             have hsz := T6.size
             have h5s := T5.size
             have htl := R5.t.lt
             exact ⟨w6.heap.size, x', s', rfl, hx', Blk.new w6 _ _, by omega, by omega, R5.turn T7 id id id id, T5.trans (T7.weak (fun _ h => h.elim))⟩)
      case rest =>
        clear M5 R5 T5
        obtain ⟨E, ex, es, rfl, hE, BE, hE1, hE2, RC, TC⟩ := hcut
        go_upto_region 16 with fail
        go_cut [73] from 61 to 72 (fun v wd => v = .bool true ∧ Blk wd E #[.int .u64 ex, .int .i64 es, .pointer none] 31 ∧ Rw wd T N L A nv lv nm x s ∧ Turn (fun b => b = N ∨ b = L) w wd)
        case first =>
          obtain ⟨k0, k1, k2, _, _, _⟩ := BE.cells3
          have n9 : wc.cell? ⟨N, 9, none⟩ = some (.int .i64 nv.role) := RC.n.cell 9 rfl
          have e0 : wc.cell? ⟨L, 6, none⟩ = some (.int .u64 lv.ex) := RC.l.cell 6 rfl
          have e1 : wc.cell? ⟨L, 7, none⟩ = some (.int .i64 lv.en) := RC.l.cell 7 rfl
          have e2 : wc.cell? ⟨L, 8, none⟩ = some (.pointer none) := RC.l.cell 8 rfl
          revert HR n9
          generalize nv.role = role
          intro HR n9
          by_cases hr2 : role = 2
          · obtain ⟨e9, he9, hlt⟩ : ∃ e0, IsTm lv.ex lv.en e0 ∧ e0 < t + le := by
              rcases HR with h | h
              · exact absurd hr2 h
              · exact h
            subst hr2
            go_region_with (go_at_call 41; refine (after_any ex es lv.ex lv.en (t + le) e9 true _ hE he9 (by simpa using hlt)).mono ?_; rintro e w6 ⟨rfl, ht6⟩)
            all_goals go_wp2_with fail
            all_goals go_meet
            all_goals
              have T6 := ((Turn.refl (fun _ => False) wc).drew).trans ht6
              exact ⟨rfl, T6.blk BE id, RC.turn T6 id id id id, TC.trans (T6.weak (fun _ h => h.elim))⟩
          · have hdec : decide (role = 2) = false := by simpa using hr2
            go_quiet (fail)
            go_wp2_with fail
            go_meet
            have T6 := (Turn.refl (fun _ => False) wc).drewN nq
            exact ⟨rfl, T6.blk BE id, RC.turn T6 id id id id, TC.trans (T6.weak (fun _ h => h.elim))⟩
        case rest =>
          clear BE RC TC
          obtain ⟨rfl, BE, RC, TC⟩ := hcut
          obtain ⟨k0, k1, k2, _, _, _⟩ := BE.cells3
          obtain ⟨a0, a1, a2, _, _, _⟩ := RC.t.cells3
          have hLT : L ≠ T := RC.l.ne RC.t (by decide)
          have hLE : L ≠ E := RC.l.ne BE (by decide)
          have hLN : L ≠ N := RC.l.ne RC.n (by decide)
          have l6 : wc.cell? ⟨L, 6, none⟩ = some (.int .u64 lv.ex) := RC.l.cell 6 rfl
          have l7 : wc.cell? ⟨L, 7, none⟩ = some (.int .i64 lv.en) := RC.l.cell 7 rfl
          have l8 : wc.cell? ⟨L, 8, none⟩ = some (.pointer none) := RC.l.cell 8 rfl
          have l9 : wc.cell? ⟨L, 9, none⟩ = some (.int .u64 lv.rx) := RC.l.cell 9 rfl
          have l10 : wc.cell? ⟨L, 10, none⟩ = some (.int .i64 lv.rs) := RC.l.cell 10 rfl
          have l11 : wc.cell? ⟨L, 11, none⟩ = some (.pointer none) := RC.l.cell 11 rfl
          have f6 := RC.l.frozen 6
          have f7 := RC.l.frozen 7
          have f8 := RC.l.frozen 8
          have f9 := RC.l.frozen 9
          have f10 := RC.l.frozen 10
          have f11 := RC.l.frozen 11
          have n0 : wc.cell? ⟨N, 0, none⟩ = some (.string nm) := by rw [← hid]; exact RC.n.cell 0 rfl
          have n9 : wc.cell? ⟨N, 9, none⟩ = some (.int .i64 nv.role) := RC.n.cell 9 rfl
          have n12 : wc.cell? ⟨N, 12, none⟩ = some (.string nv.leader) := RC.n.cell 12 rfl
          have g9 := RC.n.frozen 9
          have g12 := RC.n.frozen 12
          go_upto_region 20 with fail
          have TL := ((Turn.refl (· = L) wc).set3 (N := L) (Or.inl rfl) 9 10 11 (.int .u64 x) (.int .i64 s) (.pointer none)).set3 (N := L) (Or.inl rfl) 6 7 8 (.int .u64 ex) (.int .i64 es) (.pointer none)
          have L3 := (((RC.l.renewed3 x s).ends3 ex es).set_other (a := ⟨N, 9, none⟩) (Ne.symm hLN) (.int .i64 2)).set_other (a := ⟨N, 12, none⟩) (Ne.symm hLN) (.string nm)
          have N3 := ((TL.blk RC.n (Ne.symm hLN)).role 2).leader nm
          have hAL : A ≠ L := RC.a.nem RC.l
          have hAN : A ≠ N := RC.a.nem RC.n
          have A3 := ((TL.one RC.a hAL).set_other (a := ⟨N, 9, none⟩) (Ne.symm hAN) (.int .i64 2)).set_other (a := ⟨N, 12, none⟩) (Ne.symm hAN) (.string nm)
          have T3 : Turn (fun b => b = N ∨ b = L) w _ := ((TC.trans (TL.weak (fun _ h => Or.inr h))).setN (Or.inl rfl) 9 (.int .i64 2)).setN (Or.inl rfl) 12 (.string nm)
          clear k0 k1 k2 a0 a1 a2 l6 l7 l8 l9 l10 l11 f6 f7 f8 f9 f10 f11 n0 n9 n12 g9 g12 TL BE RC TC
          revert L3 N3 A3 T3
          generalize (((((((wc.setCell ⟨L, 9, none⟩ (.int .u64 x)).setCell ⟨L, 10, none⟩ (.int .i64 s)).setCell ⟨L, 11, none⟩ (.pointer none)).setCell ⟨L, 6, none⟩ (.int .u64 ex)).setCell ⟨L, 7, none⟩ (.int .i64 es)).setCell ⟨L, 8, none⟩ (.pointer none)).setCell ⟨N, 9, none⟩ (.int .i64 2)).setCell ⟨N, 12, none⟩ (.string nm) = w7
          intro L3 N3 A3 T3
          have l3 : w7.cell? ⟨L, 3, none⟩ = some (.int .u64 lv.nx) := L3.cell 3 rfl
          have l4 : w7.cell? ⟨L, 4, none⟩ = some (.int .i64 lv.ns) := L3.cell 4 rfl
          have l5 : w7.cell? ⟨L, 5, none⟩ = some (.pointer none) := L3.cell 5 rfl
          have l6 : w7.cell? ⟨L, 6, none⟩ = some (.int .u64 ex) := L3.cell 6 rfl
          have l7 : w7.cell? ⟨L, 7, none⟩ = some (.int .i64 es) := L3.cell 7 rfl
          have l8 : w7.cell? ⟨L, 8, none⟩ = some (.pointer none) := L3.cell 8 rfl
          go_region_with (go_at_call 42; refine (earlier_first lv.nx lv.ns ex es nt (t + le) _ hnt hE hnl).mono ?_; rintro e w8 ⟨rfl, ht8⟩; have N8 := ht8.blk N3.drew id; have d0 : w8.cell? ⟨N, 43, none⟩ = some (.int .u64 nv.dx) := N8.cell 43 rfl; have d1 : w8.cell? ⟨N, 44, none⟩ = some (.int .i64 nv.ds) := N8.cell 44 rfl; have d2 : w8.cell? ⟨N, 45, none⟩ = some (.pointer none) := N8.cell 45 rfl; have g0 := N8.frozen 43; have g1 := N8.frozen 44; have g2 := N8.frozen 45)
          all_goals go_wp2_with fail
          all_goals go_end0
          all_goals
            have TN := (Turn.refl (· = N) w8).set3 (N := N) (Or.inl rfl) 43 44 45 (.int .u64 lv.nx) (.int .i64 lv.ns) (.pointer none)
            have TT := (Turn.refl (fun _ => False) w7).drew.trans ht8
            exact ⟨rfl, ex, es, hE, TN.blk (TT.blk L3 id) hLN, N8.dead3 _ _, TN.one (TT.one A3 id) hAN, (T3.trans (TT.weak (fun _ h => h.elim))).trans (TN.weak (fun _ h => Or.inl h))⟩

end Go.Proofs.Ybulkaubm
