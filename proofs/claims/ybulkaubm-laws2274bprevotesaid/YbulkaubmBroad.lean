import Derived.Test.YbulkaubmTick
namespace Go.Proofs.Ybulkaubm
open Go.RowKit Go.ChangeMaps

/-- The blocks of messages, from the block B on. -/
def T40 (B : Nat) (w : World) (b : Nat) : Prop := B ≤ b ∧ ∃ cur, w.heap[b]? = some (.cells cur 40 (0, 0))
theorem T40.notBlk {B : Nat} {w : World} {b : Nat} {cs : Array Value} {t : TypeId} (h : Blk w b cs t) (hne : t ≠ 40) : ¬ T40 B w b := by
  rintro ⟨_, cur, e⟩
  unfold Blk at h
  rw [h] at e
  simp only [Option.some.injEq, Obj.cells.injEq] at e
  exact hne e.2.1
theorem T40.notMap {B : Nat} {w : World} {b : Nat} {es : Array MapEntry} {c : Nat} (h : Holds1 w b (.map es c)) : ¬ T40 B w b := by
  rintro ⟨_, cur, e⟩
  unfold Holds1 at h
  rw [h] at e
  simp at e
theorem T40.notOwn {B : Nat} {w : World} {base : Nat} {e : TypeId} {size : Nat} {v : Value} {n : Nat} {xs : List Value} (h : w.ownsRow base e size v n xs) (hne : e ≠ 40) : ∀ g, v.ownBlock = some g → ¬ T40 B w g := by
  rintro g hg ⟨_, cur, hc⟩
  exact own_not h hg hc hne

theorem t40_step {w wr w3 : World} {base : Nat} {v : Value} {n : Nat} {xs : List Value} {o : Obj} (ht : Turn (T40 base w) w wr) (h : wr.ownsRow base 40 8 v n xs) (hg : (wr.alloc o).grownBy w3 v.ownBlock) : Turn (T40 base w) w w3 := by
  have h3 : Turn (fun b => v.ownBlock = some b) (wr.alloc o) w3 := grown_own hg
  refine (ht.alloc o).then h3 ?_
  intro b hb
  by_cases hlt : b < w.heap.size
  · refine Or.inl ?_
    by_cases hs : T40 base w b
    · exact hs
    · obtain ⟨_, ⟨h1, _⟩ | ⟨g, cap, cur, h1, hge, hh, _⟩⟩ := h
      · subst h1; cases hb
      · subst h1
        cases hb
        exact ⟨hge, cur, (ht.block _ hlt hs).symm.trans hh⟩
  · exact Or.inr (by omega)

/-- One message's cells. -/
def msgC (k : Int) (nm : ByteArray) (t b : Int) (p : ByteArray) : List Value := [.int .u8 k, .string nm, .string p, .int .u64 t, .bool false, .int .u64 b, .int .i64 0, .string ⟨#[]⟩]
def msgsOf (k : Int) (nm : ByteArray) (t b : Int) (ps : List ByteArray) : List Value := ps.flatMap (msgC k nm t b)
theorem msgs_snoc (k : Int) (nm : ByteArray) (t b : Int) (ps : List ByteArray) (j : Nat) (h : j < ps.length) : msgsOf k nm t b (ps.take (j + 1)) = msgsOf k nm t b (ps.take j) ++ msgC k nm t b ps[j] := by
  unfold msgsOf
  rw [List.take_succ_eq_append_getElem h, List.flatMap_append]
  simp

theorem new_msg (w : World) (k : Int) (nm p : ByteArray) (t b : Int) : ∀ j u, (msgC k nm t b p)[j]? = some u → (w.alloc (.cells #[.int .u8 k, .string nm, .string p, .int .u64 t, .bool false, .int .u64 b, .int .i64 0, .string ⟨#[]⟩] 40)).cell? ((⟨w.heap.size, 0, none⟩ : Addr).add j) = some u := by
  intro j u h
  have hb := Blk.new w #[.int .u8 k, .string nm, .string p, .int .u64 t, .bool false, .int .u64 b, .int .i64 0, .string ⟨#[]⟩] 40
  have : (⟨w.heap.size, 0, none⟩ : Addr).add j = ⟨w.heap.size, j, none⟩ := by simp [Addr.add]; intro h; exact h.symm
  rw [this]
  refine hb.cell j ?_
  rw [← h]
  simp [msgC]

/-- Behind j peers of broadcast's loop. -/
def BL (w wr : World) (N : Nat) (k : Int) (nm : ByteArray) (t b : Int) (ps : List ByteArray) (v : Value) (j : Nat) : Prop :=
  wr.ownsRow (N + 1) 40 8 v j (msgsOf k nm t b (ps.take j)) ∧ Turn (T40 (N + 1) w) w wr

set_option maxHeartbeats 1000000 in
set_option maxRecDepth 10000 in
theorem broad_any (N G np pc : Nat) (ao : Option Addr) (nv : NV) (nm : ByteArray) (ps : List ByteArray) (k t b : Int) (w : World) (hN : Blk w N nv.cells 49) (hid : nv.id = nm)
    (hm : nv.msgs = .slice (some ⟨G, 0, none⟩) 0 np) (hp : nv.peers = .slice ao np pc) (hpl : ps.length = np) (hnp : np ≤ 8) (hpe : w.ownsRow (N + 1) 9 1 (.slice ao np pc) np (ps.map Value.string)) (hms : w.ownsRow (N + 1) 40 8 (.slice (some ⟨G, 0, none⟩) 0 np) 0 []) :
    Calls Yba.prog 32 #[.pointer (some ⟨N, 0, none⟩), .int .u8 k, .int .u64 t, .int .u64 b] w fun e w' => ∃ ra rc, e = .returned (.slice ra np rc) ∧ w'.ownsRow (N + 1) 40 8 (.slice ra np rc) np (msgsOf k nm t b ps) ∧ Turn (T40 (N + 1) w) w w' := by
  have lN := hN.lt
  have c1 : w.cell? ⟨N, 1, none⟩ = some (.slice ao np pc) := by rw [← hp]; exact hN.cell 1 rfl
  obtain ⟨I1, i1, i2, i3, i4⟩ := info40
  have hB0 : BL w w N k nm t b ps (.slice (some ⟨G, 0, none⟩) 0 np) 0 := ⟨hms, Turn.refl _ w⟩
  go_enter Yba.func32, Yba.ntmps32
  go_wp2_with fail
  refine (outbox_any N G np nv w hN hm).mono ?_
  rintro e w' ⟨rfl, rfl⟩
  go_wp2_with fail
  go_loopw [9, 19] (fun v i wr => ∃ j : Nat, j ≤ np ∧ i = .int .i64 j ∧ BL w wr N k nm t b ps v j) (fun _ i _ => np - (intOf i).toNat)
  case atStart => exact ⟨0, Nat.zero_le _, rfl, hB0⟩
  case round =>
    clear hB0
    obtain ⟨j, hj, rfl, hL⟩ := hrel
    obtain ⟨p3, p4⟩ := id hL
    have N4 := p4.blk hN (T40.notBlk hN (by decide))
    have e4 := own_turn hpe p4 (T40.notOwn hpe (by decide))
    by_cases hlt : j < np
    · have hlt' : (j : Int) < (np : Int) := by omega
      have hjl : j < ps.length := by omega
      obtain ⟨g, gc, hgv⟩ := own_form e4 (by omega)
      cases hgv
      have q0 : wr.cell? ⟨N, 0, none⟩ = some (.string nm) := by rw [← hid]; exact N4.cell 0 rfl
      have q1 : wr.cell? ⟨g, j, none⟩ = some (.string ps[j]) := by rw [e4.cellAt j (by omega)]; simp [hjl]
      have lN4 := N4.lt
      have lg := (own_ge e4 g rfl).2
      clear hL
      go_wp2_with (at_builtin; refine wpList_append_own _ rfl (.tmp 23) (.tmp 33) 45 rfl (N + 1) 40 I1 zMsg 8 88 Yba.underlying45 i1 i2 i3 i4 rfl (by decide) _ _ _ rfl (p3.alloc _) ⟨wr.heap.size, 0, none⟩ 1 1 (msgC k nm t b ps[j]) rfl rfl ?n1 ?n2 ?n3 ?n4 ?n5 ?n6)
      case n1 => exact new_msg _ _ _ _ _ _
      case n2 => intro u hu; simp only [msgC, List.mem_cons, List.not_mem_nil, or_false] at hu; rcases hu with rfl | rfl | rfl | rfl | rfl | rfl | rfl | rfl <;> rfl
      case n3 => unfold maxLen; omega
      case n4 => omega
      case n5 => simp; omega
      case n6 =>
        intro v' w3 hown hg hv
        have ht3 := t40_step p4 p3 hg
        clear hg hv q0 q1
        go_wp2_with fail
        go_roundw
        case rel => exact ⟨j + 1, by omega, by go_num, by rw [← msgs_snoc k nm t b ps j hjl] at hown; exact ⟨hown, ht3⟩⟩
        case measure => simp [intOf]; omega
    · obtain rfl : j = np := by omega
      obtain ⟨ra, rc, hv⟩ := own_slice p3
      subst hv
      rw [List.take_of_length_le (by omega)] at p3
      clear hL
      go_wp2_with fail
      go_ret
      exact ⟨ra, rc, rfl, p3, p4⟩

end Go.Proofs.Ybulkaubm
