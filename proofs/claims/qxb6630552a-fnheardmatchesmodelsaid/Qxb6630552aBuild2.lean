import Derived.Test.Qxb6630552aBuild
namespace Go.Proofs.Qxb6630552a
set_option linter.unusedVariables false
set_option linter.unusedSimpArgs false
open Go.RowKit

/-- What the State holds behind the first k nodes; where the blocks lie is left open. -/
def Built (ns : List ND) : Nat → List NE → Prop
  | 0, L => L = []
  | k + 1, L => ∃ L0 blk hv, Built ns k L0 ∧ hv.isNone = (ndAt ns k).oa.isNone ∧
    L = putNE L0 { key := (ndAt ns k).addr, blk := blk, seen := (ndAt ns k).seen, rep := (ndAt ns k).rep, reping := (ndAt ns k).reping, dis := (ndAt ns k).dis, hv := hv, hl := oldTo (ndAt ns k).old (ndAt ns k).old.length }

def IsBuilt (N : Nat) (ft : Int) (ma : Option Addr) (mcap : Nat) (ms : List ByteArray) (ns : List ND) (e : Ending) (w' : World) : Prop :=
  ∃ bs bm L, e = .returned (.pointer (some ⟨bs, 0, none⟩)) ∧ StI N w' bs bm ft ma mcap ms L ∧ Built ns ns.length L

set_option maxHeartbeats 1000000 in
theorem build_any (ft : Int) (ma : Option Addr) (mcap : Nat) (ms : List ByteArray) (a : Option Addr) (cap : Nat) (ns : List ND) (w : World) (h : NR w a ns)
    (ht : ∀ j, j < ns.length → inTime (ndAt ns j).seen = true ∧ inTime (ndAt ns j).rep = true ∧ inTime (ndAt ns j).reping = true) :
    Calls Try.prog 11 #[.int .i64 ft, .slice ma ms.length mcap, .slice a ns.length cap] w fun e w' => IsBuilt w.heap.size ft ma mcap ms ns e w' ∧ Below w.heap.size w w' := by
  have HN : Hid (NR w a ns) := h
  have HT : Hid _ := ht
  have hm := h.1
  clear h ht
  go_enter Try.func11, Try.ntmps11
  go_wp2_with fail
  refine (newState_any ft ma mcap ms _).mono ?_
  rintro e w1 ⟨⟨bs, bm, rfl, hst⟩, hb1⟩
  have Hst : Hid _ := hst
  clear hst
  go_wp2
  go_loopw [15] (fun i wr => ∃ (k : Nat) (L : List NE), k ≤ ns.length ∧ i = .int .i64 k ∧ Hid (Built ns k L) ∧ Hid (StI w.heap.size wr bs bm ft ma mcap ms L) ∧ Below w.heap.size w wr) (fun i _ => ns.length - (intOf i).toNat)
  case atStart => exact ⟨0, [], Nat.zero_le _, rfl, rfl, Hst.out, hb1⟩
  case round =>
    obtain ⟨k, L, hk, rfl, HB, HS, hbel⟩ := hrel
    have hsz := hbel.size
    by_cases hlt : k < ns.length
    · obtain ⟨-, b, off, hq, hcell⟩ := HN.out.below hbel
      have hix := ix23 a ns.length cap b off (fun h => (hq (by intro e; simp [e] at h)).1)
      obtain ⟨c0, c1, c2, c3, c4, c5, c6⟩ := hcell k hlt
      have C6 : Hid _ := c6
      have hblt := (hq (by intro e; simp [e] at hlt)).2
      clear hq hcell c6
      go_wp2_with fail
      obtain ⟨t1, t2, t3⟩ := HT.out k hlt
      refine (addNode_any (HS.out.below (below_alloc _ _)) (by simp; omega) (ndAt ns k) ((show SR wr (ndAt ns k).oa (ndAt ns k).old from C6.out).below (below_alloc _ _)) t1 t2 t3).mono ?_
      rintro e w2 ⟨rfl, ⟨blk, hv, hst2, hnil⟩, hb2⟩
      clear t1 t2 t3 c0 c1 c2 c3 c4 c5 hix
      have Hs2 : Hid _ := hst2
      have Hn : Hid _ := hnil
      clear hst2 hnil
      go_wp2
      go_roundw
      case rel => exact ⟨k + 1, _, by omega, by go_num, ⟨L, blk, hv, HB.out, Hn.out, rfl⟩, Hs2.out, hbel.trans (((Below.refl _ _).alloc hsz _).trans hb2)⟩
      case measure => simp [intOf]; omega
    · have hk' : k = ns.length := by omega
      subst hk'
      go_wp2
      go_ret
      exact ⟨⟨bs, bm, L, rfl, HS.out, HB.out⟩, hbel⟩
end Go.Proofs.Qxb6630552a
