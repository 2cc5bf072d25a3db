import Derived.Test.YbulkaubmTick
import Derived.Test.YbulkaubmEarly
namespace Go.Proofs.Ybulkaubm
open Go.RowKit Go.ChangeMaps

/-- What a new Node holds. -/
structure Fresh (nv : NV) (nm : ByteArray) (m et np G K V : Nat) (hb term dx ds : Int) (ao : Option Addr) (pc : Nat) : Prop where
  e_id : nv.id = nm
  e_quorum : nv.quorum = (m : Int) / 2 + 1
  e_hb : nv.hb = hb
  e_et : nv.et = et
  e_lease : nv.lease = (leaseOf et : Nat)
  e_mw : nv.mw = (mwOf et : Nat)
  e_rnd : nv.rnd = .func (.func 18) #[] #[.pointer (some ⟨K, 0, none⟩), .pointer (some ⟨V, 0, none⟩)]
  e_term : nv.term = term
  e_role : nv.role = 0
  e_votes : nv.votes = .map none
  e_won : nv.won = .pointer none
  e_c0 : nv.c0 = 0
  e_c1 : nv.c1 = 0
  e_peers : nv.peers = .slice ao np pc
  e_msgs : nv.msgs = .slice (some ⟨G, 0, none⟩) 0 np
  e_dx : nv.dx = dx
  e_ds : nv.ds = ds
theorem newNV_fresh (nm : ByteArray) (m et np G : Nat) (hb term gx gs fx fs dx ds : Int) (K V : Nat) (ao : Option Addr) (pc : Nat) : Fresh (newNV nm m et np G hb term gx gs fx fs dx ds K V ao pc) nm m et np G K V hb term dx ds ao pc :=
  ⟨rfl, rfl, rfl, rfl, rfl, rfl, rfl, rfl, rfl, rfl, rfl, rfl, rfl, rfl, rfl, rfl, rfl⟩


end Go.Proofs.Ybulkaubm
