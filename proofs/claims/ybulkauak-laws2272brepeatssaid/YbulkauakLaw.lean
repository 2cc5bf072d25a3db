import Derived.Test.YbulkauakRounds
import Derived.Deep.DeepCutAuto
namespace Go.Proofs.Ybulkauak
open Go.RowKit

theorem info24 : ∃ i0, Yba.prog.info? 24 = some i0 ∧ i0.zero = some .nilIface ∧ i0.size = 1 ∧ i0.bytes = 16 := by
  have h : (Yba.prog.info? 24).map (fun i => (i.zero, i.size, i.bytes)) = some (some .nilIface, 1, 16) := by kernel_rfl
  obtain ⟨i0, h1, h2⟩ := Option.map_eq_some_iff.1 h
  simp only [Prod.mk.injEq] at h2
  exact ⟨i0, h1, h2.1, h2.2.1, h2.2.2⟩

/-- An element that is a string. -/
def isStr (v : Value) : Prop := ∃ s, v = .iface 9 (.string s)

/-- The strings that an argument holds. -/
def Strs (w : World) (p : Option Addr) (n : Nat) : Prop := ∀ i, i < n → ∃ b off s, p = some ⟨b, off, none⟩ ∧ b < w.heap.size ∧ w.cell? ⟨b, off + i, none⟩ = some (.string s)

/-- Behind k rounds of the first loop. -/
def L1 (w wr : World) (n k : Nat) : Prop := ∃ cs, Blk wr w.heap.size cs 24 ∧ cs.size = n ∧ (∀ j, j < k → ∃ v, cs[j]? = some v ∧ isStr v) ∧ Below w.heap.size w wr

theorem L1_start {w w1 : World} {n : Nat} {cs : Array Value} (h : w1.ownsRow w.heap.size 24 1 (.slice (some ⟨w.heap.size, 0, none⟩) n n) n cs.toList) (hg : w.grownBy w1 none) : L1 w w1 n 0 := by
  obtain ⟨_, ⟨h0, _⟩ | ⟨g, cap, cur, hv, hge, hh, _, _, hc, _⟩⟩ := h
  · cases h0
  · injection hv with a1 a2 a3
    injection a1 with a1
    injection a1 with a1
    subst a1 a3
    exact ⟨cur, hh, by simpa using hc, fun j hj => by omega, ⟨hg.os, hg.tape, hg.output, hg.size, fun k hk => hg.block k hk (by simp)⟩⟩

theorem L1_step {w wr : World} {n k : Nat} (h : L1 w wr n k) (hk : k < n) (s : ByteArray) : L1 w (wr.setCell ⟨w.heap.size, k, none⟩ (.iface 9 (.string s))) n (k + 1) := by
  obtain ⟨cs, h1, h2, h3, h4⟩ := h
  refine ⟨_, h1.set k _, by simpa using h2, fun j hj => ?_, h4.setCell (Nat.le_refl _) _⟩
  rw [Array.getElem?_setIfInBounds]
  by_cases e : k = j
  · subst e; exact ⟨_, by rw [if_pos rfl, if_pos (by omega)], s, rfl⟩
  · rw [if_neg e]; exact h3 j (by omega)

/-- Behind k appends: a is laid, re is v. -/
def L2 (w wr : World) (no A : Nat) (c0 in0 i0 : Int) (v : Value) (k : Nat) : Prop :=
  ∃ cs xs, Blk wr w.heap.size cs 24 ∧ cs.size = no ∧ (∀ j, j < no → ∃ v, cs[j]? = some v ∧ isStr v) ∧
    Blk wr A #[.slice (some ⟨w.heap.size, 0, none⟩) no no, .int .i64 c0, .int .i64 in0, .int .i64 i0] 29 ∧ w.heap.size < A ∧
    wr.ownsRow (A + 1) 24 1 v k xs ∧ (∀ x ∈ xs, isStr x) ∧ v ≠ .slice none 0 0 ∧ Below w.heap.size w wr

theorem L2_start {w wr w1 : World} {no : Nat} {c0 in0 i0 : Int} {v : Value} (h : L1 w wr no no)
    (hown : w1.ownsRow (wr.heap.size + 1) 24 1 v 0 [])
    (hg : (wr.alloc (.cells #[.slice (some ⟨w.heap.size, 0, none⟩) no no, .int .i64 c0, .int .i64 in0, .int .i64 i0] 29)).grownBy w1 none) (hv : v ≠ .slice none 0 0) :
    L2 w w1 no wr.heap.size c0 in0 i0 v 0 := by
  obtain ⟨cs, h1, h2, h3, h4⟩ := h
  have hlt := h1.lt
  have ht : Turn (fun _ => False) (wr.alloc (.cells #[.slice (some ⟨w.heap.size, 0, none⟩) no no, .int .i64 c0, .int .i64 in0, .int .i64 i0] 29)) w1 :=
    ⟨hg.os, hg.tape, hg.output, hg.size, fun k hk _ => hg.block k hk (by simp)⟩
  refine ⟨cs, [], ht.blk (h1.alloc _) id, h2, h3, ht.blk (Blk.new _ _ _) id, hlt, hown, by simp, hv, ?_⟩
  exact (h4.alloc (by omega) _).trans (ht.below _ (by simp; omega) (fun _ h => h.elim))

theorem L2_step {w wr w1 : World} {no A k : Nat} {c0 in0 i0 : Int} {v v' : Value} {xs : List Value} {s : ByteArray} {o : Obj} (h : L2 w wr no A c0 in0 i0 v k)
    (hxs : wr.ownsRow (A + 1) 24 1 v k xs) (hown : w1.ownsRow (A + 1) 24 1 v' (k + 1) (xs ++ [.iface 9 (.string s)]))
    (hg : (wr.alloc o).grownBy w1 v.ownBlock) (hv : v' ≠ .slice none 0 0) :
    L2 w w1 no A c0 in0 i0 v' (k + 1) := by
  obtain ⟨cs, ys, h1, h2, h3, h4, h5, h6, h7, h8, h9⟩ := h
  have hx : ∀ x ∈ xs, isStr x := by
    obtain ⟨_, ⟨a1, _⟩ | ⟨g, cap, cur, a1, _, a2, _, _, _, a3⟩⟩ := hxs
    · exact absurd a1 h8
    · obtain ⟨_, ⟨b1, _⟩ | ⟨g', cap', cur', b1, _, b2, _, _, _, b3⟩⟩ := h6
      · exact absurd b1 h8
      · rw [a1] at b1
        injection b1 with b1
        injection b1 with b1
        injection b1 with b1
        subst b1
        rw [a2] at b2
        injection b2 with b2
        injection b2 with b2
        subst b2
        rw [← a3, b3]; exact h7
  have hlt : ∀ b, some b = v.ownBlock → A + 1 ≤ b := fun b e => (h6.lt b e.symm).1
  have ht : Turn (fun b => A + 1 ≤ b) wr w1 := by
    refine ((Turn.refl _ wr).alloc o).then (S' := fun b => A + 1 ≤ b) ⟨hg.os, hg.tape, hg.output, hg.size, fun k hk hn => hg.block k hk (fun e => hn (hlt k e))⟩ (fun i hi => Or.inl hi)
  refine ⟨cs, xs ++ [.iface 9 (.string s)], ht.blk h1 (by omega), h2, h3, ht.blk h4 (by omega), h5, hown, ?_, hv, h9.trans (ht.below _ (by have := h1.lt; omega) (fun i hi => by omega))⟩
  intro x hx'
  rcases List.mem_append.1 hx' with e | e
  · exact hx x e
  · simp only [List.mem_singleton] at e; exact ⟨s, e⟩

/-- a is laid and holds strings; re is laid: k strings from block g on. -/
def L3 (w wr : World) (no A : Nat) (c0 in0 i0 : Int) (g k rcap : Nat) : Prop :=
  ∃ cs recs, Blk wr w.heap.size cs 24 ∧ cs.size = no ∧ (∀ j, j < no → ∃ v, cs[j]? = some v ∧ isStr v) ∧
    Blk wr A #[.slice (some ⟨w.heap.size, 0, none⟩) no no, .int .i64 c0, .int .i64 in0, .int .i64 i0] 29 ∧ w.heap.size < A ∧
    Blk wr g recs 24 ∧ A < g ∧ k ≤ rcap ∧ (∀ j, j < k → ∃ v, recs[j]? = some v ∧ isStr v) ∧ Below w.heap.size w wr

theorem L3_of {w wr : World} {no A k : Nat} {c0 in0 i0 : Int} {v : Value} (h : L2 w wr no A c0 in0 i0 v k) : ∃ g rcap, v = .slice (some ⟨g, 0, none⟩) k rcap ∧ L3 w wr no A c0 in0 i0 g k rcap := by
  obtain ⟨cs, ys, h1, h2, h3, h4, h5, h6, h7, h8, h9⟩ := h
  obtain ⟨_, ⟨b1, _⟩ | ⟨g, cap, cur, b1, bg, b2, bn, _, bs, b3⟩⟩ := h6
  · exact absurd b1 h8
  · refine ⟨g, cap, b1, cs, cur, h1, h2, h3, h4, h5, b2, by omega, bn, ?_, h9⟩
    intro j hj
    rw [Nat.mul_one] at b3 bs
    refine ⟨cur[j]'(by omega), Array.getElem?_eq_getElem (by omega), h7 _ ?_⟩
    rw [← b3, List.mem_take_iff_getElem]
    exact ⟨j, by simp; omega, by simp⟩

def preC (k : Nat) (c : Int) : Int := if 0 < k then wrap64 (c + 1) else c
theorem joinC_pre (k : Nat) (c rc : Int) : joinC (decide (0 < k)) c rc = wrap64 (preC k c + rc) := by
  unfold joinC preC
  by_cases h : 0 < k <;> simp [h]
theorem wrapC (c rc : Int) : wrap64 (c + wrap64 (1 + rc)) = joinC true c rc := by
  simp only [joinC, wrap64, if_true]
  omega
theorem itI_zero (ri : Int) (h : wrap64 ri = ri) : ∀ m, itI ri (m + 1) 0 = itI ri m ri
  | 0 => by show wrap64 (0 + ri) = ri; rw [Int.zero_add]; exact h
  | m + 1 => by show wrap64 (itI ri (m + 1) 0 + ri) = wrap64 (itI ri m ri + ri); rw [itI_zero ri h m]

theorem neq24 (s : ByteArray) (w : World) : (binOp .neq 24 (.iface 9 (.string s)) (.iface 9 (.string s))).run Yba.prog w = .ok (.bool false) w := by
  have hi : Yba.prog.underlying 24 = some (.interface #[]) := by kernel_rfl
  have hs : Yba.prog.underlying 9 = some .string := by kernel_rfl
  obtain ⟨j, hj, hc⟩ := Option.map_eq_some_iff.1 (show (Yba.prog.info? 9).map (fun i => i.comparable) = some true by kernel_rfl)
  have h : ∀ d : Nat, (Op.equalIn (d + 2) 24 (.iface 9 (.string s)) (.iface 9 (.string s))).run Yba.prog w = .ok true w := fun d => by
    simp [Op.equalIn, run_underlying hi, run_underlying hs, typeInfo, hj, hc]
    first | exact beq_self_eq_true s | (show (s.data == s.data) = true; simp)
  simp only [binOp]
  simp [Op.equal, Op.maxDepth, h 9998]

theorem quiet_draw {P : Program} {f : FuncId} {args : Array Value} {w : World} {n : Nat} {v : Value}
    (h : Calls P f args (w.drewN n) fun e w' => e = .returned v ∧ ∃ m, w' = (w.drewN n).drewN m) : Calls P f args (w.drewN n) fun e w'' => e = .returned v ∧ ∃ m, w'' = w.drewN m :=
  h.mono fun _ _ ⟨he, m, hm⟩ => ⟨he, n + m, by rw [hm, World.drewN_drewN]⟩
theorem St.alloc {w : World} {A R re k rcap len N E g cap nl T E2 C m mc : Nat} {c i t tc ti tt rc rin ri : Int} {recs : Array Value} (h : St w A R re k rcap len N E g cap nl T E2 C m mc c i t tc ti tt rc rin ri recs) (o : Obj) :
    St (w.alloc o) A R re k rcap len N E g cap nl T E2 C m mc c i t tc ti tt rc rin ri recs := by
  obtain ⟨cur, olds, h1, h2, h3⟩ := h.row
  exact ⟨h.arr.alloc o, h.box.alloc o, h.parts.alloc o, ⟨cur, olds, h1.alloc o, h2, h3⟩, h.tarr.alloc o, h.tbox.alloc o, h.cyc.alloc o, h.run.alloc o, h.rerow.alloc o, h.vals.alloc o, h.ne⟩

theorem L4_start {w wc : World} {no A g k rcap : Nat} {c0 in0 i0 rc rin ri : Int} (h : L3 w wc no A c0 in0 i0 g k rcap) (hk : 0 < k) :
    ∃ recs, (∀ j, j < k → ∃ v, recs[j]? = some v ∧ isStr v) ∧ k ≤ rcap ∧ A < wc.heap.size ∧ w.heap.size ≤ A ∧
      L4 w (wc.alloc (.cells #[.slice (some ⟨g, 0, none⟩) k rcap, .int .i64 rc, .int .i64 rin, .int .i64 ri] 29)) no A wc.heap.size g k rcap c0 in0 i0 rc rin ri recs 0 := by
  obtain ⟨cs, recs, h1, h2, h3, h4, h5, h6, h7, h8, h9, h10⟩ := h
  have hs := h10.size
  refine ⟨recs, h9, h8, h4.lt, by omega, (h10.alloc hs _), Or.inl ⟨rfl, ⟨(h4.alloc _).cell 0 rfl, fun e => ?_⟩, h4.alloc _, ⟨(Blk.new _ _ _).cell 0 rfl, fun e => ?_⟩, Blk.new _ _ _, h6.alloc _⟩⟩
  · obtain ⟨v, hv, s, rfl⟩ := h3 0 (by omega)
    exact ⟨s, (h1.alloc _).cell 0 hv⟩
  · obtain ⟨v, hv, s, rfl⟩ := h9 0 (by omega)
    exact ⟨s, (h6.alloc _).cell 0 hv⟩

set_option maxHeartbeats 1000000 in
set_option maxRecDepth 1000000 in
theorem law_walk (po pr : Option Addr) (no co nr cr : Nat) (m c0 rc i0 ri in0 rin : Int) (w : World)
    (ho : Strs w po no) (hr : Strs w pr nr) (h1 : no ≤ 1024) (h2 : nr ≤ 1024) (hm0 : 0 ≤ m) (hm1 : m ≤ 255) (HR : Hid (wrap64 ri = ri)) :
    Calls Yba.prog 3 #[.slice po no co, .slice pr nr cr, .int .u8 m, .int .i64 c0, .int .i64 rc, .int .i64 i0, .int .i64 ri, .int .i64 in0, .int .i64 rin] w
      fun e w' => e = .returned (.bool true) ∧ Below w.heap.size w w' := by
  obtain ⟨I0, e1, e2, e3, e4⟩ := info24
  have h1' : (no : Int) ≤ 1024 := by omega
  have h2' : (nr : Int) ≤ 1024 := by omega
  go_enter Yba.func3, Yba.ntmps3
  go_wp2_with (at_make; refine wpList_make_full _ rfl (.tmp 53) (.tmp 53) 23 rfl w.heap.size 24 I0 .nilIface 1 Yba.underlying23 e1 e2 e3 .i64 .i64 no no no rfl rfl rfl rfl ?b2 ?b3 (Nat.le_refl _) ?hK)
  case b2 => rw [e4]; omega
  case b3 => unfold maxLen; omega
  case hK =>
    intro w1 hown hg
    have HL : L1 w w1 no 0 := L1_start hown hg
    clear hown hg
    go_wp2_with fail
    go_loopw [57] (fun i wr => ∃ k : Nat, k ≤ no ∧ i = .int .i64 k ∧ L1 w wr no k) (fun i _ => no - (intOf i).toNat)
    case atStart => exact ⟨0, Nat.zero_le _, rfl, HL⟩
    case round =>
      obtain ⟨k, hk, rfl, hL⟩ := hrel
      clear HL
      by_cases hlt : k < no
      · obtain ⟨b, off, s, rfl, hb, hc⟩ := ho k hlt
        obtain ⟨cs, q1, q2, q3, q4⟩ := id hL
        have hc' := (q4.cell (p := ⟨b, off + k, none⟩) hb).trans hc
        have hlt' : (k : Int) < (no : Int) := by omega
        obtain ⟨v0, hv0⟩ : ∃ v, cs[k]? = some v := ⟨_, Array.getElem?_eq_getElem (by omega)⟩
        have hv := q1.cell k hv0
        have hf := q1.frozen k
        have hle := q1.lt
        clear q1 q2 q3 q4 hc hv0
        go_wp2_with fail
        go_roundw
        case rel => exact ⟨k + 1, by omega, by go_num, L1_step hL hlt s⟩
        case measure => simp [intOf]; omega
      · obtain rfl : k = no := by omega
        go_wp2_with (at_make; refine wpList_make_own _ rfl (.const (.int .i64 0)) (.tmp 77) 23 rfl (wr.heap.size + 1) 24 I0 .nilIface 1 Yba.underlying23 e1 e2 e3 .i64 .i64 _ (nr + 1) rfl rfl ?c1 ?c2 ?c3 ?c4 ?hK2)
        case c1 => omega
        case c2 => rw [e4]; omega
        case c3 => unfold maxLen; omega
        case c4 => simp
        case hK2 =>
          intro w2 hown hg
          have HL2 := L2_start hL hown hg (by simp)
          clear hown hg hL
          go_wp2_with fail
          revert HL2
          generalize wr.heap.size = A
          intro HL2
          go_loopw [23, 81] (fun v i wr => ∃ k2 : Nat, k2 ≤ nr ∧ i = .int .i64 k2 ∧ L2 w wr k A c0 in0 i0 v k2) (fun _ i _ => nr - (intOf i).toNat)
          case atStart => exact ⟨0, Nat.zero_le _, rfl, HL2⟩
          case round =>
            obtain ⟨k2, hk2, rfl, hL⟩ := hrel
            clear HL2
            by_cases hlt : k2 < nr
            · obtain ⟨b, off, s, rfl, hb, hc⟩ := hr k2 hlt
              obtain ⟨cs, xs, q1, q2, q3, q4, q5, q6, q7, q8, q9⟩ := id hL
              have hc' := (q9.cell (p := ⟨b, off + k2, none⟩) hb).trans hc
              have hlt' : (k2 : Int) < (nr : Int) := by omega
              have hbs : A + 1 ≤ wr.heap.size := q4.lt
              clear q1 q2 q3 q4 q5 q7 q8 q9 hc
              go_wp2_with (at_builtin; refine wpList_append_own _ rfl (.tmp 85) (.tmp 88) 23 rfl (A + 1) 24 I0 .nilIface 1 16 Yba.underlying23 e1 e2 e3 e4 rfl (by decide) _ k2 xs rfl (q6.alloc _) ⟨wr.heap.size, 0, none⟩ 1 1 [.iface 9 (.string s)] rfl rfl ?n1 ?n2 ?n3 ?n4 ?n5 ?n6)
              case n1 => exact cell_one_new _ _ _
              case n2 => intro u hu; simp only [List.mem_singleton] at hu; subst hu; rfl
              case n3 => unfold maxLen; omega
              case n4 => omega
              case n5 => simp; omega
              case n6 =>
                intro v' w3 hown hg hv
                have hL3 := L2_step hL q6 hown hg hv
                clear hown hg hv q6
                go_wp2_with fail
                go_roundw
                case rel => exact ⟨k2 + 1, by omega, by go_num, hL3⟩
                case measure => simp [intOf]; omega
            · obtain rfl : k2 = nr := by omega
              obtain ⟨g, rcap, rfl, hL3⟩ := L3_of hL
              clear hlt hk2 hr
              go_upto_if 93 with fail
              go_cut [23] from 91 to 97 (fun v wc => ∃ g kk rcap : Nat, v = .slice (some ⟨g, 0, none⟩) kk rcap ∧ 0 < kk ∧ kk ≤ 1025 ∧ L3 w wc k A c0 in0 i0 g kk rcap)
              case first =>
                by_cases hz : k2 = 0
                · have hz' : ((k2 : Int) == 0) = true := by simp; omega
                  clear hz
                  obtain ⟨cs, xs, q1, q2, q3, q4, q5, q6, q7, q8, q9⟩ := id hL
                  have hbs : A + 1 ≤ wr.heap.size := q4.lt
                  clear q1 q2 q3 q4 q5 q7 q8 q9 hL3
                  go_wp2_with (at_builtin; refine wpList_append_own _ rfl (.tmp 94) (.tmp 96) 23 rfl (A + 1) 24 I0 .nilIface 1 16 Yba.underlying23 e1 e2 e3 e4 rfl (by decide) _ k2 xs rfl (q6.alloc _) ⟨wr.heap.size, 0, none⟩ 1 1 [.iface 9 (.string ByteArray.empty)] rfl rfl ?n1 ?n2 ?n3 ?n4 ?n5 ?n6)
                  case n1 => exact cell_one_new _ _ _
                  case n2 => intro u hu; simp only [List.mem_singleton] at hu; subst hu; rfl
                  case n3 => unfold maxLen; omega
                  case n4 => omega
                  case n5 => simp; omega
                  case n6 =>
                    intro v' w3 hown hg hv
                    obtain ⟨g', rcap', hv', hL3⟩ := L3_of (L2_step hL q6 hown hg hv)
                    clear hown hg hv q6 hL
                    rw [hv']
                    go_wp2_with fail
                    go_meet
                    exact ⟨_, _, _, rfl, by omega, by omega, hL3⟩
                · have hz' : ((k2 : Int) == 0) = false := by simp; omega
                  go_wp2_with fail
                  go_meet
                  exact ⟨_, _, _, rfl, by omega, by omega, hL3⟩
              case rest =>
                obtain ⟨g, kk, rcap, rfl, hkk, hkk2, hL3⟩ := hcut
                clear h2 h2' hL
                obtain ⟨n, hn, hn1, hn4⟩ : ∃ n : Nat, m % 4 + 1 = (n : Int) ∧ 1 ≤ n ∧ n ≤ 4 := ⟨(m % 4 + 1).toNat, by omega, by omega, by omega⟩
                go_wp2_with fail
                obtain ⟨recs, hrec, hcap, hA, hwA, hL4⟩ := L4_start (rc := rc) (rin := rin) (ri := ri) hL3 hkk
                clear hL3
                revert hL4
                generalize wc.alloc (.cells #[.slice (some ⟨g, 0, none⟩) kk rcap, .int .i64 rc, .int .i64 rin, .int .i64 ri] 29) = wd
                generalize wc.heap.size = R at hA ⊢
                intro hL4
                go_loopw [28] (fun j wr => ∃ q : Nat, q ≤ n ∧ j = .int .i64 q ∧ L4 w wr k A R g kk rcap c0 in0 i0 rc rin ri recs q) (fun j _ => n - (intOf j).toNat)
                case atStart => exact ⟨0, Nat.zero_le _, rfl, hL4⟩
                case round =>
                  clear hL4
                  obtain ⟨q, hq, rfl, hL4⟩ := hrel
                  by_cases hlt : q < n
                  · have hlt' : (q : Int) < (n : Int) := by omega
                    go_wp2_with fail
                    refine (addCycle_L4 w _ k A R g kk rcap c0 in0 i0 rc rin ri recs q hL4 (by omega) hkk (by omega) hcap (by omega) (by omega) hwA).mono ?_
                    rintro e w5 ⟨rfl, hL5⟩
                    clear hL4
                    go_wp2_with fail
                    go_roundw
                    case rel => exact ⟨q + 1, by omega, by go_num, hL5⟩
                    case measure => simp [intOf]; omega
                  · obtain rfl : q = n := by omega
                    go_wp2_with fail
                    obtain ⟨hB, ⟨h00, _⟩ | ⟨hq0, N, E, gg, cap, nl, T, E2, C, hnl, hb3, hS⟩⟩ := hL4
                    · omega
                    obtain ⟨cA, hcA⟩ : ∃ x, Hid (x = itC rc (q - 1) (joinC (decide (0 < k)) c0 rc)) := ⟨_, rfl⟩
                    obtain ⟨tA, htA⟩ : ∃ x, Hid (x = itI ri q i0) := ⟨_, rfl⟩
                    obtain ⟨tC, htC⟩ : ∃ x, Hid (x = itC rc (q - 1) rc) := ⟨_, rfl⟩
                    obtain ⟨tT, htT⟩ : ∃ x, Hid (x = itI ri (q - 1) ri) := ⟨_, rfl⟩
                    obtain ⟨iA, hiA⟩ : ∃ x, Hid (x = joinI in0 rin) := ⟨_, rfl⟩
                    rw [← hcA.out, ← htA.out, ← htC.out, ← htT.out, ← hiA.out] at hS
                    obtain ⟨P, hP⟩ : ∃ P : Nat, P = q * kk := ⟨_, rfl⟩
                    have hPi : (q : Int) * (kk : Int) = (P : Int) := by rw [hP]; simp
                    have hPb : P ≤ 4 * 1025 := hP ▸ Nat.mul_le_mul hn4 hkk2
                    have HP : Hid (P = q * kk) := hP
                    have HN : Hid (nl = nlOf k) := hnl
                    clear hP hb3 hq hlt hq0 hnl
                    refine (inParts_yes A E 0 1 _ _ (hS.arr.cell 0 rfl) (hS.box.cell 0 rfl)).mono ?_
                    rintro e w' ⟨rfl, rfl⟩
                    go_wp2_with fail
                    have pn := hS.parts.cell 1 rfl
                    have pl := hS.parts.cell 0 rfl
                    simp only [List.getElem_toArray, List.getElem_cons_zero, List.getElem_cons_succ, ← HP.out] at pn pl
                    refine (len_parts A E 0 N 1 _ _ (hS.arr.cell 0 rfl) (hS.box.cell 0 rfl) pn).mono ?_
                    rintro e w' ⟨rfl, rfl⟩
                    go_upto_if 146 with fail
                    go_cut [32] from 145 to 146 (fun v wc => v = .int .i64 ((nl : Int) + 1) ∧ wr = wc)
                    case first =>
                      by_cases hk0 : 0 < k
                      · go_wp2_with fail
                        go_meet
                        exact ⟨by rw [HN.out, nlOf, if_neg (by omega)]; rfl, rfl⟩
                      · go_wp2_with fail
                        go_meet
                        exact ⟨by rw [HN.out, nlOf, if_pos (by omega)]; rfl, rfl⟩
                    case rest =>
                      obtain ⟨rfl, rfl⟩ := hcut
                      go_upto_region 36 with fail
                      go_cut [33] from 154 to 165 (fun v wc => v = .pointer (some ⟨wr.heap.size, 0, none⟩) ∧ ∃ nq, wc = (wr.alloc (.cells #[.pointer (some ⟨T, 0, none⟩), .int .i64 k, .bool true] 38)).drewN nq)
                      case first =>
                        obtain ⟨cur, olds, w1, w2, w3⟩ := hS.row
                        have hnl : nl ≤ 1 := by rw [HN.out]; unfold nlOf; split <;> omega
                        obtain ⟨d0, d1, d2⟩ := row_cells w2 w3
                        have ln := hS.parts.lt
                        have lg := w1.lt
                        rcases (show nl = 0 ∨ nl = 1 by omega) with hn0 | hn0
                        · subst hn0
                          have e0 : wr.cell? ⟨gg, 0, none⟩ = _ := w1.cell 0 d0
                          have e1 : wr.cell? ⟨gg, 1, none⟩ = _ := w1.cell 1 d1
                          have e2 : wr.cell? ⟨gg, 2, none⟩ = _ := w1.cell 2 d2
                          have hw0 : IntKind.i64.wrap 0 = 0 := by decide
                          clear d0 d1 d2 w1 w2 w3
                          go_region
                          all_goals go_wp2_with fail
                          all_goals go_meet
                          all_goals exact ⟨rfl, 1, rfl⟩
                        · subst hn0
                          have e0 : wr.cell? ⟨gg, 3, none⟩ = _ := w1.cell 3 d0
                          have e1 : wr.cell? ⟨gg, 4, none⟩ = _ := w1.cell 4 d1
                          have e2 : wr.cell? ⟨gg, 5, none⟩ = _ := w1.cell 5 d2
                          have hw0 : IntKind.i64.wrap 1 = 1 := by decide
                          clear d0 d1 d2 w1 w2 w3
                          go_region
                          all_goals go_wp2_with fail
                          all_goals go_meet
                          all_goals exact ⟨rfl, 1, rfl⟩
                      case rest =>
                        obtain ⟨rfl, nq, rfl⟩ := hcut
                        have hS6 := (hS.alloc (.cells #[.pointer (some ⟨T, 0, none⟩), .int .i64 k, .bool true] 38)).drewN nq
                        have hB6 := below_drewN (hB.alloc hB.size (.cells #[.pointer (some ⟨T, 0, none⟩), .int .i64 k, .bool true] 38)) nq
                        have hK6 : Blk ((wr.alloc (.cells #[.pointer (some ⟨T, 0, none⟩), .int .i64 k, .bool true] 38)).drewN nq) wr.heap.size #[.pointer (some ⟨T, 0, none⟩), .int .i64 k, .bool true] 38 := Blk.new wr _ _
                        have k0 := hK6.cell 0 rfl
                        have k1 := hK6.cell 1 rfl
                        have k2 := hK6.cell 2 rfl
                        simp only [List.getElem_toArray, List.getElem_cons_zero, List.getElem_cons_succ] at k0 k1 k2
                        clear hS hB hK6 pn pl
                        revert hS6 hB6 k0 k1 k2
                        generalize (wr.alloc (.cells #[.pointer (some ⟨T, 0, none⟩), .int .i64 k, .bool true] 38)).drewN nq = w6
                        generalize wr.heap.size = LB
                        intro hS hB k0 k1 k2
                        have t := tb39_39
                        go_wp2_with fail
                        refine (packed_cyc T E2 0 1 _ _ (hS.tarr.cell 0 rfl) (hS.tbox.cell 0 rfl)).mono ?_
                        rintro e w' ⟨rfl, rfl⟩
                        go_wp2_with fail
                        have y0 := hS.cyc.cell 0 rfl
                        have y4 := hS.cyc.cell 4 rfl
                        have y5 := hS.cyc.cell 5 rfl
                        simp only [List.getElem_toArray, List.getElem_cons_zero, List.getElem_cons_succ, ← HP.out] at y0 y4 y5
                        have hn46 := neq46
                        have hkc : (0 : Int) < (kk : Int) := by omega
                        have hkr : kk ≤ rcap := hcap
                        go_quiet (fail)
                        clear hn46 y0 y4 y5 t
                        replace hS := hS.drewN nq
                        replace hB := below_drewN hB nq
                        go_wp2_with fail
                        revert hS hB
                        have hk60 : (w6.drewN nq).cell? ⟨LB, 0, none⟩ = some (.pointer (some ⟨T, 0, none⟩)) := k0
                        clear k0 k1 k2
                        revert hk60
                        generalize w6.drewN nq = w7
                        intro k0 hS hB
                        go_loopw [36] (fun j wr => ∃ x : Nat, x ≤ P ∧ j = .int .i64 x ∧ St wr A R g kk rcap k N E gg cap nl T E2 C q q cA iA tA tC rin tT rc rin ri recs ∧ Below w.heap.size w wr ∧ wr.cell? ⟨LB, 0, none⟩ = some (.pointer (some ⟨T, 0, none⟩))) (fun j _ => P - (intOf j).toNat)
                        case atStart => exact ⟨0, Nat.zero_le _, rfl, hS, hB, k0⟩
                        case round =>
                          clear hS hB k0
                          obtain ⟨x, hx, rfl, hS, hB, k0⟩ := hrel
                          by_cases hxl : x < P
                          · have hxl' : (x : Int) < (P : Int) := by omega
                            have hlt : x % kk < kk := Nat.mod_lt _ hkk
                            have hlt' : (x : Int) % (kk : Int) < (kk : Int) := by omega
                            have hlt0 : 0 ≤ (x : Int) % (kk : Int) := by omega
                            obtain ⟨v, hv, s, rfl⟩ := hrec (x % kk) hlt
                            have hc := hS.rerow.cell (x % kk) hv
                            have hn24 := neq24 s
                            have HC : Hid (∀ n, Calls Yba.prog 8 #[.pointer (some ⟨C, 0, none⟩), .int .i64 x] (wr.drewN n) fun e w'' => e = .returned (.iface 9 (.string s)) ∧ ∃ m, w'' = wr.drewN m) := fun n =>
                              quiet_draw (cycleAt C g kk x _ (wr.drewN n) ((hS.drewN n).cyc.cell 0 rfl) ((hS.drewN n).cyc.cell 4 rfl) hkk (by omega) (by omega) hc)
                            go_wp2_with fail
                            go_quiet ((go_at_call 8; exact HC.out _))
                            go_wp2_with fail
                            go_roundw
                            case rel => exact ⟨x + 1, by omega, by go_num, hS.drewN nq, below_drewN hB nq, k0⟩
                            case measure => simp [intOf]; omega
                          · clear hx
                            go_upto_if 242 with fail
                            go_cut [37] from 241 to 244 (fun v wc => ∃ c1, v = .int .i64 c1 ∧ Hid (c1 = preC k c0) ∧ wr = wc)
                            case first =>
                              by_cases hk0 : 0 < k
                              · go_wp2_with fail
                                go_meet
                                exact ⟨_, rfl, (if_pos hk0).symm, rfl⟩
                              · go_wp2_with fail
                                go_meet
                                exact ⟨_, rfl, (if_neg hk0).symm, rfl⟩
                            case rest =>
                              obtain ⟨c1, rfl, HC1, rfl⟩ := hcut
                              go_wp2_with fail
                              go_loop [37, 38, 39, 40, 41] (fun cc tc it tit j => ∃ (y : Nat) (cc' tc' it' tit' : Int), y ≤ q ∧ j = .int .i64 y ∧ cc = .int .i64 cc' ∧ tc = .int .i64 tc' ∧ it = .int .i64 it' ∧ tit = .int .i64 tit' ∧
                                Hid (cc' = itC rc (y - 1) (wrap64 (c1 + rc)) ∧ tc' = itC rc (y - 1) rc ∧ it' = itI ri y i0 ∧ tit' = itI ri y 0)) (fun _ _ _ _ j => q - (intOf j).toNat)
                              case atStart => exact ⟨0, _, _, _, _, Nat.zero_le _, rfl, rfl, rfl, rfl, rfl, rfl, rfl, rfl, rfl⟩
                              case round =>
                                obtain ⟨y, cc', tc', it', tit', hy, rfl, rfl, rfl, rfl, rfl, HY⟩ := hrel
                                by_cases hyq : y < q
                                · have hyq' : (y : Int) < (q : Int) := by omega
                                  by_cases hy0 : 0 < y
                                  · go_wp2_with fail
                                    go_round
                                    case rel => exact ⟨y + 1, _, _, _, _, by omega, by go_num, rfl, rfl, rfl, rfl, by
                                      obtain ⟨z, rfl⟩ : ∃ z, y = z + 1 := ⟨y - 1, by omega⟩
                                      obtain ⟨g1, g2, g3, g4⟩ := HY.out
                                      exact ⟨by rw [wrapC, g1]; rfl, by rw [wrapC, g2]; rfl, by rw [g3]; rfl, by rw [g4]; rfl⟩⟩
                                    case measure => simp [intOf]; omega
                                  · obtain rfl : y = 0 := by omega
                                    go_wp2_with fail
                                    go_round
                                    case rel => exact ⟨1, _, _, _, _, by omega, by go_num, rfl, rfl, rfl, rfl, by
                                      obtain ⟨g1, g2, g3, g4⟩ := HY.out
                                      exact ⟨by rw [g1], by rw [g2], by rw [g3]; rfl, by rw [g4]; rfl⟩⟩
                                    case measure => simp [intOf]; omega
                                · obtain rfl : y = q := by omega
                                  obtain ⟨g1, g2, g3, g4⟩ := HY.out
                                  have g1' : cA = cc' := by rw [g1, hcA.out, joinC_pre, HC1.out]
                                  have g2' : tC = tc' := by rw [g2, htC.out]
                                  have g3' : tA = it' := by rw [g3, htA.out]
                                  have g4' : tT = tit' := by
                                    rw [g4, htT.out]
                                    obtain ⟨z, hz⟩ : ∃ z, y = z + 1 := ⟨y - 1, by omega⟩
                                    rw [hz]; exact (itI_zero ri HR.out z).symm
                                  rw [g1', g2', g3', g4'] at hS
                                  clear g1 g2 g3 g4 g1' g2' g3' g4' HY hcA htA htC htT HC1 hn hPi
                                  go_upto_if 274 with fail
                                  go_cut [42] from 272 to 275 (fun v wc => v = .int .i64 iA ∧ wr = wc)
                                  case first =>
                                    by_cases hi0 : in0 < rin
                                    · go_wp2_with fail
                                      go_meet
                                      exact ⟨by rw [hiA.out, joinI, if_pos hi0], rfl⟩
                                    · go_wp2_with fail
                                      go_meet
                                      exact ⟨by rw [hiA.out, joinI, if_neg (by omega)], rfl⟩
                                  case rest =>
                                    obtain ⟨rfl, rfl⟩ := hcut
                                    have x1 := hS.arr.cell 1 rfl
                                    have x2 := hS.arr.cell 2 rfl
                                    have x3 := hS.arr.cell 3 rfl
                                    have z1 := hS.tarr.cell 1 rfl
                                    have z2 := hS.tarr.cell 2 rfl
                                    have z3 := hS.tarr.cell 3 rfl
                                    simp only [List.getElem_toArray, List.getElem_cons_zero, List.getElem_cons_succ] at x1 x2 x3 z1 z2 z3
                                    go_wp2_with fail
                                    go_ret
                                    exact ⟨rfl, hB.alloc hB.size _⟩

set_option maxHeartbeats 1000000 in
set_option maxRecDepth 1000000 in
theorem law_big (po pr : Option Addr) (no co nr cr : Nat) (m c0 rc i0 ri in0 rin : Int) (w : World) (h : 1024 < no ∨ 1024 < nr) :
    Calls Yba.prog 3 #[.slice po no co, .slice pr nr cr, .int .u8 m, .int .i64 c0, .int .i64 rc, .int .i64 i0, .int .i64 ri, .int .i64 in0, .int .i64 rin] w
      fun e w' => e = .returned (.bool true) ∧ Below w.heap.size w w' := by
  by_cases h1 : 1024 < no
  · go_enter Yba.func3, Yba.ntmps3
    go_wp2_with fail
    go_ret
    exact ⟨rfl, Below.refl _ _⟩
  · have h2 : 1024 < nr := by omega
    go_enter Yba.func3, Yba.ntmps3
    go_wp2_with fail
    go_ret
    exact ⟨rfl, Below.refl _ _⟩

end Go.Proofs.Ybulkauak
