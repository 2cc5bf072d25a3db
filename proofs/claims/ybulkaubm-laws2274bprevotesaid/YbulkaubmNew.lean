import Derived.Test.YbulkaubmSmall
namespace Go.Proofs.Ybulkaubm
open Go.RowKit
attribute [local go_sem ↓] Go.wp_at_zero Go.wp_at_succ

/-- The Config's block, as the walk wants it. -/
theorem Blk.cells7 {w : World} {b : Nat} {t : TypeId} {a0 a1 a2 a3 a4 a5 a6 : Value} (h : Blk w b #[a0, a1, a2, a3, a4, a5, a6] t) :
    w.cell? ⟨b, 0, none⟩ = some a0 ∧ w.cell? ⟨b, 1, none⟩ = some a1 ∧ w.cell? ⟨b, 2, none⟩ = some a2 ∧ w.cell? ⟨b, 3, none⟩ = some a3 ∧ w.cell? ⟨b, 4, none⟩ = some a4 ∧ w.cell? ⟨b, 5, none⟩ = some a5 ∧ w.cell? ⟨b, 6, none⟩ = some a6 :=
  ⟨h.cell 0 rfl, h.cell 1 rfl, h.cell 2 rfl, h.cell 3 rfl, h.cell 4 rfl, h.cell 5 rfl, h.cell 6 rfl⟩
theorem Blk.cells2 {w : World} {b : Nat} {t : TypeId} {a0 a1 : Value} (h : Blk w b #[a0, a1] t) : w.cell? ⟨b, 0, none⟩ = some a0 ∧ w.cell? ⟨b, 1, none⟩ = some a1 := ⟨h.cell 0 rfl, h.cell 1 rfl⟩

/-- A Node as New's literal lays it. -/
def nv0 (id : ByteArray) (quorum hb et lease mw : Int) (rnd : Value) (term gx gs fx fs : Int) : NV :=
  { id := id, peers := .slice none 0 0, quorum := quorum, hb := hb, et := et, lease := lease, mw := mw, rnd := rnd, role := 0, term := term, votedFor := ⟨#[]⟩, leader := ⟨#[]⟩, gx := gx, gs := gs, fx := fx, fs := fs,
    votes := .map none, refused := .map none, ax := 0, ay := 0, won := .pointer none, dx := 0, ds := 0, msgs := .slice none 0 0, c0 := 0, c1 := 0 }

/-- 'build 49' under a name of its own: so that the walk does not lay it open before its parts are reckoned. -/
def Build49 (ps : Array (Nat × Value)) : Sem Value := Instr.build 49 ps
theorem toBuild49 (ps : Array (Nat × Value)) : Instr.build 49 ps = Build49 ps := rfl
theorem build49 (id : ByteArray) (quorum hb et lease mw : Int) (fr : Fn) (c1 c2 : Array Value) (term gx gs fx fs : Int) (w : World) :
    (Build49 #[(0, .string id), (2, .int .i64 quorum), (3, .int .i64 hb), (4, .int .i64 et), (5, .int .i64 lease), (6, .int .i64 mw), (7, .func fr c1 c2), (8, .string ⟨#[]⟩), (10, .int .u64 term), (11, .string ⟨#[]⟩),
      (15, .agg #[.int .u64 gx, .int .i64 gs, .pointer none]), (16, .agg #[.int .u64 fx, .int .i64 fs, .pointer none]), (27, .int .i64 0)]).run Yba.prog w = .ok (.agg (nv0 id quorum hb et lease mw (.func fr c1 c2) term gx gs fx fs).cells) w := by kernel_rfl
attribute [local go_sem ↓] toBuild49
attribute [local go_sem] build49

/-- The three boxes of New. -/
structure Boxes (w : World) (B : Nat) (id : ByteArray) (mem : Value) (hb et : Int) (rnd : Value) (term x s : Int) : Prop where
  c : Blk w B #[.string id, mem, .int .i64 hb, .int .i64 et, .string ⟨#[]⟩, .int .i64 0, rnd] 64
  st : Blk w (B + 1) #[.int .u64 term, .string ⟨#[]⟩] 67
  nw : Blk w (B + 1 + 1) #[.int .u64 x, .int .i64 s, .pointer none] 31

theorem Boxes.turn {S : Nat → Prop} {w w' : World} {B : Nat} {id : ByteArray} {mem : Value} {hb et : Int} {rnd : Value} {term x s : Int} (h : Boxes w B id mem hb et rnd term x s) (ht : Turn S w w') (h1 : ¬ S B) (h2 : ¬ S (B + 1)) (h3 : ¬ S (B + 1 + 1)) :
    Boxes w' B id mem hb et rnd term x s := ⟨ht.blk h.c h1, ht.blk h.st h2, ht.blk h.nw h3⟩

/-- The cells of the boxes. -/
def BoxS (B : Nat) (id : ByteArray) (mem : Value) (hb et : Int) (rnd : Value) (term x s : Int) (w' : World) : Prop :=
  w'.cell? ⟨B, 0, none⟩ = some (.string id) ∧ w'.cell? ⟨B, 1, none⟩ = some mem ∧ w'.cell? ⟨B, 2, none⟩ = some (.int .i64 hb) ∧ w'.cell? ⟨B, 3, none⟩ = some (.int .i64 et) ∧ w'.cell? ⟨B, 4, none⟩ = some (.string ⟨#[]⟩) ∧ w'.cell? ⟨B, 5, none⟩ = some (.int .i64 0) ∧ w'.cell? ⟨B, 6, none⟩ = some rnd ∧
  w'.cell? ⟨B + 1, 0, none⟩ = some (.int .u64 term) ∧ w'.cell? ⟨B + 1, 1, none⟩ = some (.string ⟨#[]⟩) ∧ w'.cell? ⟨B + 1 + 1, 0, none⟩ = some (.int .u64 x) ∧ w'.cell? ⟨B + 1 + 1, 1, none⟩ = some (.int .i64 s) ∧ w'.cell? ⟨B + 1 + 1, 2, none⟩ = some (.pointer none)
theorem boxS {w : World} {B : Nat} {id : ByteArray} {mem : Value} {hb et : Int} {rnd : Value} {term x s : Int} (h : Boxes w B id mem hb et rnd term x s) : BoxS B id mem hb et rnd term x s w := by
  obtain ⟨a0, a1, a2, a3, a4, a5, a6⟩ := h.c.cells7
  obtain ⟨b0, b1⟩ := h.st.cells2
  obtain ⟨d0, d1, d2, _, _, _⟩ := h.nw.cells3
  exact ⟨a0, a1, a2, a3, a4, a5, a6, b0, b1, d0, d1, d2⟩

theorem info9 : ∃ i0, Yba.prog.info? 9 = some i0 ∧ i0.zero = some (.string ⟨#[]⟩) ∧ i0.size = 1 ∧ i0.bytes = 16 := by
  have h : (Yba.prog.info? 9).map (fun i => (i.zero, i.size, i.bytes)) = some (some (.string ⟨#[]⟩), 1, 16) := by kernel_rfl
  obtain ⟨i0, h1, h2⟩ := Option.map_eq_some_iff.1 h
  simp only [Prod.mk.injEq] at h2
  exact ⟨i0, h1, h2.1, h2.2.1, h2.2.2⟩

/-- The peers among the first k members. -/
def peersOf (nm : ByteArray) (l : List ByteArray) : List ByteArray := l.filter (fun a => decide (a ≠ nm))

/-- Behind k members of New's loop. -/
def LN (w wr : World) (B N : Nat) (nv : NV) (nm : ByteArray) (mem : Value) (hb et : Int) (rnd : Value) (term x s : Int) (ms : List ByteArray) (k : Nat) : Prop :=
  ∃ pv, Blk wr N { nv with peers := pv }.cells 49 ∧ Boxes wr B nm mem hb et rnd term x s ∧ wr.ownsRow (N + 1) 9 1 pv (peersOf nm (ms.take k)).length ((peersOf nm (ms.take k)).map Value.string) ∧ Turn (fun _ => False) w wr

theorem LN_skip {w wr : World} {B N : Nat} {nv : NV} {nm : ByteArray} {mem : Value} {hb et : Int} {rnd : Value} {term x s : Int} {ms : List ByteArray} {k : Nat} (h : LN w wr B N nv nm mem hb et rnd term x s ms k) (hk : k < ms.length) (he : ms[k] = nm) :
    LN w wr B N nv nm mem hb et rnd term x s ms (k + 1) := by
  have e : peersOf nm (ms.take (k + 1)) = peersOf nm (ms.take k) := by
    unfold peersOf
    rw [List.take_succ_eq_append_getElem hk, List.filter_append]
    simp [he]
  unfold LN at h ⊢
  rw [e]; exact h

theorem peersOf_snoc {nm : ByteArray} {ms : List ByteArray} {k : Nat} (hk : k < ms.length) (he : ms[k] ≠ nm) : peersOf nm (ms.take (k + 1)) = peersOf nm (ms.take k) ++ [ms[k]] := by
  unfold peersOf
  rw [List.take_succ_eq_append_getElem hk, List.filter_append]
  simp [he]

theorem toList_ne {a b : ByteArray} (h : a ≠ b) : (a.toList == b.toList) = false := by
  rw [beq_eq_false_iff_ne, ByteArray.toList_eq, ByteArray.toList_eq]
  intro e
  apply h
  cases a; cases b
  simp at e
  rw [e]

theorem own_form {w : World} {base : Nat} {e : TypeId} {size : Nat} {v : Value} {n : Nat} {xs : List Value} (h : w.ownsRow base e size v n xs) (hn : 0 < n) : ∃ g c, v = .slice (some ⟨g, 0, none⟩) n c := by
  obtain ⟨_, ⟨_, h0⟩ | ⟨g, c, _, h1, _⟩⟩ := h
  · omega
  · exact ⟨g, c, h1⟩

/-- Behind an append onto the peers: only blocks from N + 1 on have turned. -/
theorem grown_turn {wr w3 : World} {N : Nat} {pv : Value} {n : Nat} {xs : List Value} {o : Obj} (h : wr.ownsRow (N + 1) 9 1 pv n xs) (hg : (wr.alloc o).grownBy w3 pv.ownBlock) : Turn (fun b => N + 1 ≤ b) wr w3 := by
  have hlt : ∀ b, some b = pv.ownBlock → N + 1 ≤ b := fun b e => (h.lt b e.symm).1
  exact ((Turn.refl _ wr).alloc o).then (S' := fun b => N + 1 ≤ b) ⟨hg.os, hg.tape, hg.output, hg.size, fun k hk hn => hg.block k hk (fun e => hn (hlt k e))⟩ (fun i hi => Or.inl hi)

theorem LN_push {w wr w3 : World} {B N : Nat} {nv : NV} {nm : ByteArray} {mem : Value} {hb et : Int} {rnd : Value} {term x s : Int} {ms : List ByteArray} {k : Nat} {pv pv' : Value}
    (hk : k < ms.length) (he : ms[k] ≠ nm) (p1 : Blk wr N { nv with peers := pv }.cells 49) (p2 : Boxes wr B nm mem hb et rnd term x s) (p4 : Turn (fun _ => False) w wr) (hB : B + 1 + 1 < N) (hN : w.heap.size ≤ N)
    (ht : Turn (fun b => N + 1 ≤ b) wr w3) (hown : w3.ownsRow (N + 1) 9 1 pv' ((peersOf nm (ms.take k)).length + 1) ((peersOf nm (ms.take k)).map Value.string ++ [.string ms[k]])) :
    LN w (w3.setCell ⟨N, 1, none⟩ pv') B N nv nm mem hb et rnd term x s ms (k + 1) := by
  have hs : Turn (fun b => b = N) w3 (w3.setCell ⟨N, 1, none⟩ pv') := (Turn.refl (fun b => b = N) w3).set (p := ⟨N, 1, none⟩) (Or.inl rfl) _
  refine ⟨pv', (ht.blk p1 (by omega)).set 1 _, (p2.turn ht (by omega) (by omega) (by omega)).turn hs (by omega) (by omega) (by omega), ?_, ?_⟩
  · rw [peersOf_snoc hk he, List.length_append, List.map_append]
    exact ownsRow_setCell_below hown (by show N < N + 1; omega) _
  · exact (p4.then ht (fun i hi => Or.inr (by omega))).then hs (fun i hi => Or.inr (by omega))

theorem own_slice {w : World} {base : Nat} {e : TypeId} {size : Nat} {v : Value} {n : Nat} {xs : List Value} (h : w.ownsRow base e size v n xs) : ∃ ao c, v = .slice ao n c := by
  obtain ⟨_, ⟨h1, h0⟩ | ⟨g, c, _, h1, _⟩⟩ := h
  · subst h0; exact ⟨_, _, h1⟩
  · exact ⟨_, c, h1⟩

theorem ownsRow_turn {S : Nat → Prop} {w w' : World} {base : Nat} {e : TypeId} {size : Nat} {v : Value} {n : Nat} {xs : List Value} (h : w.ownsRow base e size v n xs) (ht : Turn S w w') (hs : ∀ g, base ≤ g → ¬ S g) : w'.ownsRow base e size v n xs := by
  refine ⟨h.1, ?_⟩
  rcases h.2 with h2 | ⟨g, cap, cur, hv, hg, hh, r⟩
  · exact Or.inl h2
  · exact Or.inr ⟨g, cap, cur, hv, hg, ht.blk (t := e) hh (hs g hg), r⟩

def zMsg : Value := .agg #[.int .u8 0, .string ⟨#[]⟩, .string ⟨#[]⟩, .int .u64 0, .bool false, .int .u64 0, .int .i64 0, .string ⟨#[]⟩]
theorem info40 : ∃ i0, Yba.prog.info? 40 = some i0 ∧ i0.zero = some zMsg ∧ i0.size = 8 ∧ i0.bytes = 88 := by
  have h : (Yba.prog.info? 40).map (fun i => (i.zero, i.size, i.bytes)) = some (some zMsg, 8, 88) := by kernel_rfl
  obtain ⟨i0, h1, h2⟩ := Option.map_eq_some_iff.1 h
  simp only [Prod.mk.injEq] at h2
  exact ⟨i0, h1, h2.1, h2.2.1, h2.2.2⟩

/-- The Node that New hands back. -/
def newNV (nm : ByteArray) (m et np G : Nat) (hb term gx gs fx fs dx ds : Int) (K V : Nat) (ao : Option Addr) (pc : Nat) : NV :=
  { nv0 nm ((m : Int) / 2 + 1) hb et (leaseOf et : Nat) (mwOf et : Nat) (.func (.func 18) #[] #[.pointer (some ⟨K, 0, none⟩), .pointer (some ⟨V, 0, none⟩)]) term gx gs fx fs with
    peers := .slice ao np pc, msgs := .slice (some ⟨G, 0, none⟩) 0 np, dx := dx, ds := ds }

def NewP (w w' : World) (N : Nat) (nm : ByteArray) (m et : Nat) (hb term : Int) (K V CB : Nat) (v cnt : Int) (t : Nat) (ms : List ByteArray) : Prop :=
  ∃ (gx gs fx fs dx ds : Int) (ao : Option Addr) (pc G np : Nat), np = (peersOf nm ms).length ∧ IsTm dx ds (t + (et + (v % (mwOf et : Nat)).toNat)) ∧
    Blk w' N (newNV nm m et np G hb term gx gs fx fs dx ds K V ao pc).cells 49 ∧ w'.ownsRow (N + 1) 9 1 (.slice ao np pc) np ((peersOf nm ms).map Value.string) ∧ w'.ownsRow (N + 1) 40 8 (.slice (some ⟨G, 0, none⟩) 0 np) 0 [] ∧
    Rnd w' K V CB v (cnt + 1) ∧ Turn (· = CB) w w' ∧ w.heap.size ≤ N

set_option maxHeartbeats 2000000 in
set_option maxRecDepth 100000 in
theorem new_any (nm : ByteArray) (M m cap et K V CB : Nat) (ms : List ByteArray) (hb term x s v cnt : Int) (t : Nat) (w : World) (hR : Rnd w K V CB v cnt) (hv : 0 ≤ v) (hv1 : v < 4294967296) (hcn : 0 ≤ cnt) (hcn1 : cnt ≤ 100) (ht : IsTm x s t) (he : et ≤ 2000000) (htb : t ≤ 100000000000000) (hm : m ≤ 8) (hml : ms.length = m) (hM : M < w.heap.size) (hmc : ∀ i (h : i < ms.length), w.cell? ⟨M, i, none⟩ = some (.string ms[i])) :
    Calls Yba.prog 19 #[.agg #[.string nm, .slice (some ⟨M, 0, none⟩) m cap, .int .i64 hb, .int .i64 et, .string ⟨#[]⟩, .int .i64 0, .func (.func 18) #[] #[.pointer (some ⟨K, 0, none⟩), .pointer (some ⟨V, 0, none⟩)]], .agg #[.int .u64 term, .string ⟨#[]⟩], .agg #[.int .u64 x, .int .i64 s, .pointer none]] w fun e w' => ∃ N, e = .returned (.pointer (some ⟨N, 0, none⟩)) ∧ NewP w w' N nm m et hb term K V CB v cnt t ms := by
  have hE0 : (0 : Int) ≤ (et : Int) := by omega
  have hm0 : (0 : Int) ≤ (m : Int) := by omega
  have HBox : Boxes (((w.alloc (.cells #[.string nm, .slice (some ⟨M, 0, none⟩) m cap, .int .i64 hb, .int .i64 et, .string ⟨#[]⟩, .int .i64 0, .func (.func 18) #[] #[.pointer (some ⟨K, 0, none⟩), .pointer (some ⟨V, 0, none⟩)]] 64)).alloc (.cells #[.int .u64 term, .string ⟨#[]⟩] 67)).alloc (.cells #[.int .u64 x, .int .i64 s, .pointer none] 31)) w.heap.size nm (.slice (some ⟨M, 0, none⟩) m cap) hb et (.func (.func 18) #[] #[.pointer (some ⟨K, 0, none⟩), .pointer (some ⟨V, 0, none⟩)]) term x s :=
    ⟨((Blk.new w _ _).alloc _).alloc _, (Blk.new' (by simp) _ _).alloc _, Blk.new' (by simp) _ _⟩
  have HT : Turn (fun _ => False) w (((w.alloc (.cells #[.string nm, .slice (some ⟨M, 0, none⟩) m cap, .int .i64 hb, .int .i64 et, .string ⟨#[]⟩, .int .i64 0, .func (.func 18) #[] #[.pointer (some ⟨K, 0, none⟩), .pointer (some ⟨V, 0, none⟩)]] 64)).alloc (.cells #[.int .u64 term, .string ⟨#[]⟩] 67)).alloc (.cells #[.int .u64 x, .int .i64 s, .pointer none] 31)) :=
    (((Turn.refl _ w).alloc _).alloc _).alloc _
  go_enter Yba.func19, Yba.ntmps19
  go_wp2_with fail
  revert HBox HT
  generalize ((w.alloc (.cells #[.string nm, .slice (some ⟨M, 0, none⟩) m cap, .int .i64 hb, .int .i64 et, .string ⟨#[]⟩, .int .i64 0, .func (.func 18) #[] #[.pointer (some ⟨K, 0, none⟩), .pointer (some ⟨V, 0, none⟩)]] 64)).alloc (.cells #[.int .u64 term, .string ⟨#[]⟩] 67)).alloc (.cells #[.int .u64 x, .int .i64 s, .pointer none] 31) = w1
  generalize hBB : w.heap.size = B
  intro HBox HT
  have HB0 : Hid (w.heap.size = B) := hBB
  clear hBB
  obtain ⟨a0, a1, a2, a3, a4, a5, a6⟩ := HBox.c.cells7
  obtain ⟨b0, b1⟩ := HBox.st.cells2
  obtain ⟨d0, d1, d2, _, _, _⟩ := HBox.nw.cells3
  go_cut [7] from 10 to 47 (fun v wc => ∃ (N : Nat) (gx gs fx fs : Int), v = .pointer (some ⟨N, 0, none⟩) ∧ IsTm gx gs (t + et) ∧ IsTm fx fs (t + et) ∧ Blk wc N (nv0 nm ((m : Int) / 2 + 1) hb et (leaseOf et : Nat) (mwOf et : Nat) (.func (.func 18) #[] #[.pointer (some ⟨K, 0, none⟩), .pointer (some ⟨V, 0, none⟩)]) term gx gs fx fs).cells 49 ∧ Boxes wc B nm (.slice (some ⟨M, 0, none⟩) m cap) hb et (.func (.func 18) #[] #[.pointer (some ⟨K, 0, none⟩), .pointer (some ⟨V, 0, none⟩)]) term x s ∧ Turn (fun _ => False) w wc ∧ w.heap.size ≤ N ∧ wc.heap.size = N + 1)
  case first =>
    have w8 : IntKind.i64.wrap ((et : Int) / 8) = (et : Int) / 8 := by rw [IntKind.wrap_i64]; omega
    have wm : IntKind.i64.wrap ((m : Int) / 2) = (m : Int) / 2 := by rw [IntKind.wrap_i64]; omega
    have wm1 : IntKind.i64.wrap ((m : Int) / 2 + 1) = (m : Int) / 2 + 1 := by rw [IntKind.wrap_i64]; omega
    have hmx : (if (et : Int) / 8 < 1 then 1 else (et : Int) / 8) = ((mwOf et : Nat) : Int) := by unfold mwOf; split <;> split <;> omega
    go_region_held3 (fun w' => w'.cell? ⟨B, 0, none⟩ = some (.string nm) ∧ w'.cell? ⟨B, 1, none⟩ = some (.slice (some ⟨M, 0, none⟩) m cap) ∧ w'.cell? ⟨B, 2, none⟩ = some (.int .i64 hb) ∧ w'.cell? ⟨B, 3, none⟩ = some (.int .i64 et) ∧ w'.cell? ⟨B, 4, none⟩ = some (.string ⟨#[]⟩) ∧ w'.cell? ⟨B, 5, none⟩ = some (.int .i64 0) ∧ w'.cell? ⟨B, 6, none⟩ = some (.func (.func 18) #[] #[.pointer (some ⟨K, 0, none⟩), .pointer (some ⟨V, 0, none⟩)]) ∧ w'.cell? ⟨B + 1, 0, none⟩ = some (.int .u64 term) ∧ w'.cell? ⟨B + 1, 1, none⟩ = some (.string ⟨#[]⟩) ∧ w'.cell? ⟨B + 1 + 1, 0, none⟩ = some (.int .u64 x) ∧ w'.cell? ⟨B + 1 + 1, 1, none⟩ = some (.int .i64 s) ∧ w'.cell? ⟨B + 1 + 1, 2, none⟩ = some (.pointer none)) (first | (exact boxS HBox) | (exact boxS (HBox.turn (by repeat (first | exact Turn.refl (fun _ => False) _ | apply Turn.drew | apply Turn.alloc)) id id id)) | go_keep)
      (first
        | (go_at_call 13; refine (lease_any et _ he).mono ?_; rintro e w2 ⟨rfl, rfl⟩)
        | (go_at_call 9; refine (add_any x s t et _ ht (by omega)).mono ?_; rintro e w2 ⟨x', s', rfl, hx', ht2⟩; replace HBox : Boxes w2 B nm (.slice (some ⟨M, 0, none⟩) m cap) hb et (.func (.func 18) #[] #[.pointer (some ⟨K, 0, none⟩), .pointer (some ⟨V, 0, none⟩)]) term x s := (by first | exact HBox.turn ht2 id id id | exact HBox.turn (((Turn.refl (fun _ => False) _).drew).trans ht2) id id id); replace HT : Turn (fun _ => False) w w2 := (by first | exact HT.trans ht2 | exact HT.drew.trans ht2)))
    all_goals go_wp2_with fail
    all_goals go_meet
    all_goals
      refine ⟨_, _, _, _, _, rfl, ?_, ?_, Blk.new _ _ _, HBox.turn ((Turn.refl (fun _ => False) _).alloc _) id id id, HT.alloc _, HT.size, by simp⟩
      · assumption
      · assumption
  case rest =>
    clear HBox HT a0 a1 a2 a3 a4 a5 a6 b0 b1 d0 d1 d2
    obtain ⟨N, gx, gs, fx, fs, rfl, hg, hf, hN, HBox, HT, hN1, hN2⟩ := hcut
    obtain ⟨a0, a1, a2, a3, a4, a5, a6⟩ := HBox.c.cells7
    obtain ⟨I0, e1, e2, e3, e4⟩ := info9
    have hBN : B + 1 + 1 < N := by have := HBox.nw.lt; have := HBox.nw.ne hN (by decide); omega
    have hL0 : LN w wc B N (nv0 nm ((m : Int) / 2 + 1) hb et (leaseOf et : Nat) (mwOf et : Nat) (.func (.func 18) #[] #[.pointer (some ⟨K, 0, none⟩), .pointer (some ⟨V, 0, none⟩)]) term gx gs fx fs) nm (.slice (some ⟨M, 0, none⟩) m cap) hb et (.func (.func 18) #[] #[.pointer (some ⟨K, 0, none⟩), .pointer (some ⟨V, 0, none⟩)]) term x s ms 0 :=
      ⟨_, hN, HBox, World.ownsRow_nil _ _ _ _, HT⟩
    go_wp2_with fail
    revert hL0
    generalize hnv : nv0 nm ((m : Int) / 2 + 1) hb et (leaseOf et : Nat) (mwOf et : Nat) (.func (.func 18) #[] #[.pointer (some ⟨K, 0, none⟩), .pointer (some ⟨V, 0, none⟩)]) term gx gs fx fs = nv at hN
    intro hL0
    have HNV : Hid (nv0 nm ((m : Int) / 2 + 1) hb et (leaseOf et : Nat) (mwOf et : Nat) (.func (.func 18) #[] #[.pointer (some ⟨K, 0, none⟩), .pointer (some ⟨V, 0, none⟩)]) term gx gs fx fs = nv) := hnv
    clear hnv
    clear a0 a1 a2 a3 a4 a5 a6 HBox
    go_loopw [51] (fun i wr => ∃ k : Nat, k ≤ m ∧ i = .int .i64 k ∧ LN w wr B N nv nm (.slice (some ⟨M, 0, none⟩) m cap) hb et (.func (.func 18) #[] #[.pointer (some ⟨K, 0, none⟩), .pointer (some ⟨V, 0, none⟩)]) term x s ms k) (fun i _ => m - (intOf i).toNat)
    case atStart => exact ⟨0, Nat.zero_le _, rfl, hL0⟩
    case round =>
      clear hL0
      obtain ⟨k, hk, rfl, hL⟩ := hrel
      by_cases hlt : k < m
      · obtain ⟨pv, p1, p2, p3, p4⟩ := id hL
        have hlt' : (k : Int) < (m : Int) := by omega
        have hkm : k < ms.length := by omega
        have hc := hmc k hkm
        have hc' := (p4.cell (p := ⟨M, k, none⟩) hM id).trans hc
        have a0 := (p2.c.cells7).1
        by_cases hs : ms[k] = nm
        · go_wp2_with fail
          go_roundw
          case rel => exact ⟨k + 1, by omega, by go_num, LN_skip hL hkm hs⟩
          case measure => simp [intOf]; omega
        · have hs' := toList_ne hs
          have n1 : wr.cell? ⟨N, 1, none⟩ = some pv := p1.cell 1 rfl
          have lN := p1.lt
          have hpl : (peersOf nm (ms.take k)).length ≤ 8 := by
            have h1 : (peersOf nm (ms.take k)).length ≤ (ms.take k).length := List.length_filter_le _ _
            have h2 : (ms.take k).length ≤ k := List.length_take_le _ _
            omega
          clear hL
          go_wp2_with (at_builtin; refine wpList_append_own _ rfl (.tmp 63) (.tmp 65) 23 rfl (N + 1) 9 I0 (.string ⟨#[]⟩) 1 16 Yba.underlying23 e1 e2 e3 e4 rfl (by decide) _ _ _ rfl (p3.alloc _) ⟨wr.heap.size, 0, none⟩ 1 1 [.string ms[k]] rfl rfl ?n1 ?n2 ?n3 ?n4 ?n5 ?n6)
          case n1 => exact cell_one_new _ _ _
          case n2 => intro u hu; simp only [List.mem_singleton] at hu; subst hu; rfl
          case n3 => unfold maxLen; omega
          case n4 => omega
          case n5 => simp; omega
          case n6 =>
            intro v' w3 hown hg hv
            have ht3 := grown_turn p3 hg
            have N3 := ht3.blk p1 (by omega)
            have q1 : w3.cell? ⟨N, 1, none⟩ = some pv := N3.cell 1 rfl
            have q2 := N3.frozen 1
            obtain ⟨g, gc, hv'⟩ := own_form hown (by omega)
            have lw3 := N3.lt
            clear hg hv n1 a0 hc hc'
            rw [hv']
            go_wp2_with fail
            go_roundw
            case rel => exact ⟨k + 1, by omega, by go_num, by rw [hv'] at hown; exact LN_push hkm hs p1 p2 p4 hBN hN1 ht3 hown⟩
            case measure => simp [intOf]; omega
      · obtain rfl : k = m := by omega
        obtain ⟨pv, p1, p2, p3, p4⟩ := hL
        have htk : ms.take k = ms := List.take_of_length_le (by omega)
        rw [htk] at p3
        obtain ⟨ao, pc, hpv⟩ := own_slice p3
        rw [hpv] at p1 p3
        have n1 : wr.cell? ⟨N, 1, none⟩ = some (.slice ao (peersOf nm ms).length pc) := p1.cell 1 rfl
        have hnp : (peersOf nm ms).length ≤ 8 := by
          have h1 : (peersOf nm ms).length ≤ ms.length := List.length_filter_le _ _
          omega
        obtain ⟨np, hnpe⟩ : ∃ np, (peersOf nm ms).length = np := ⟨_, rfl⟩
        rw [hnpe] at hnp n1 p3 p1
        have HNP : Hid ((peersOf nm ms).length = np) := hnpe
        obtain ⟨I1, i1, i2, i3, i4⟩ := info40
        have lN := p1.lt
        clear hnpe hpv htk
        go_wp2_with (at_make; refine wpList_make_own _ rfl (.const (.int .i64 0)) (.tmp 75) 45 rfl (N + 1) 40 I1 _ 8 Yba.underlying45 i1 i2 i3 .i64 .i64 _ np rfl rfl rfl ?b2 ?b3 ?b4 ?hK)
        case b2 => rw [i4]; omega
        case b3 => unfold maxLen; omega
        case b4 => omega
        case hK =>
          intro w4 hown hg
          have ht4 : Turn (fun _ => False) wr w4 := ⟨hg.os, hg.tape, hg.output, hg.size, fun k hk _ => hg.block k hk (by simp)⟩
          have N4 := ht4.blk p1 id
          have q1 : w4.cell? ⟨N, 47, none⟩ = some nv.msgs := N4.cell 47 rfl
          have q2 := N4.frozen 47
          have lN4 := N4.lt
          have p3' := ownsRow_turn p3 ht4 (fun _ _ => id)
          have B4 := p2.turn ht4 id id id
          have T4 := p4.trans ht4
          obtain ⟨d0, d1, d2, _, _, _⟩ := B4.nw.cells3
          have nb : N ≠ B + 1 + 1 := by omega
          have TN : Turn (fun b => b = N) w4 (w4.setCell ⟨N, 47, none⟩ (.slice (some ⟨wr.heap.size, 0, none⟩) 0 np)) := (Turn.refl (fun b => b = N) w4).set (p := ⟨N, 47, none⟩) (Or.inl rfl) _
          have N5 := N4.set 47 (.slice (some ⟨wr.heap.size, 0, none⟩) 0 np)
          have p5 := ownsRow_turn p3' TN (fun g hg => by omega)
          have o5 := ownsRow_turn hown TN (fun g hg => by omega)
          have T5 := T4.then TN (fun i e => Or.inr (by omega))
          have R5 := (hR.turn T5 id id id)
          clear hg p3 p1 n1 ht4 p2
          go_wp2_with fail
          clear q1 q2 lN4 N4 p3' hown T4 B4 d0 d1 d2 TN
          revert N5 p5 o5 T5 R5
          generalize w4.setCell ⟨N, 47, none⟩ (.slice (some ⟨wr.heap.size, 0, none⟩) 0 np) = w5
          generalize wr.heap.size = G
          intro N5 p5 o5 T5 R5
          have hnv := HNV.out
          subst hnv
          have hmw1 : 0 < ((mwOf et : Nat) : Int) ∧ ((mwOf et : Nat) : Int) ≤ 1000000000 := by unfold mwOf; split <;> omega
          have N5' : Blk w5 N (newNV nm k et np G hb term gx gs fx fs 0 0 K V ao pc).cells 49 := N5
          have hCB := hR.c.lt
          clear N5
          refine (reset_any N K V CB (newNV nm k et np G hb term gx gs fx fs 0 0 K V ao pc) v cnt x s t et w5 N5' R5 rfl ht hv hv1 hcn hcn1 hmw1.1 hmw1.2 rfl (by omega) htb).mono ?_
          rintro e w6 ⟨rfl, dx, ds, hd, N6, R6, T6⟩
          go_wp2_with fail
          go_ret
          refine ⟨N, rfl, gx, gs, fx, fs, dx, ds, ao, pc, G, np, HNP.out.symm, hd, N6, ?_, ?_, R6, ?_, hN1⟩
          · exact ownsRow_turn p5 T6 (fun g hg => by omega)
          · exact ownsRow_turn o5 T6 (fun g hg => by omega)
          · exact (T5.weak (fun _ h => h.elim)).then T6 (fun i hi => by omega)

end Go.Proofs.Ybulkaubm
