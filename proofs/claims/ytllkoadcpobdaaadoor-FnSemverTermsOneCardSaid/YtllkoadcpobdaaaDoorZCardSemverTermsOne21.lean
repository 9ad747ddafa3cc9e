/- The row and the tied card of FnSemverTermsOne, out of its printed walk and its plain law. For every input that the statement lets in. -/
import Derived.Test.YtllkoadcpobdaaaDoorZCardSemverTermsOne1
import Derived.Test.YtllkoadcpobdaaaDoorZCardSemverTermsOne6
import Derived.Test.YtllkoadcpobdaaaDoorZCardSemverTermsOne7
import Derived.Test.YtllkoadcpobdaaaDoorZCardSemverTermsOne8
import Derived.Test.YtllkoadcpobdaaaDoorZCardSemverTermsOne19
import Derived.Deep.RegionHeld3
namespace Go.Proofs.YtllkoadcpobdaaaDoor.Base
end Go.Proofs.YtllkoadcpobdaaaDoor.Base
namespace Go.Proofs.YtllkoadcpobdaaaDoor.Bt
end Go.Proofs.YtllkoadcpobdaaaDoor.Bt
namespace Go.Proofs.YtllkoadcpobdaaaDoor.L
end Go.Proofs.YtllkoadcpobdaaaDoor.L
namespace Go.Proofs.YtllkoadcpobdaaaDoor.PX
end Go.Proofs.YtllkoadcpobdaaaDoor.PX
namespace Go.Proofs.YtllkoadcpobdaaaDoor.Parse
end Go.Proofs.YtllkoadcpobdaaaDoor.Parse
namespace Go.Proofs.YtllkoadcpobdaaaDoor.KX

open Go.RowKit Go.Lib Go.Sort Go.Proofs Go.Proofs.YtllkoadcpobdaaaDoor Go.Proofs.YtllkoadcpobdaaaDoor.Base Go.Proofs.YtllkoadcpobdaaaDoor.L Go.Proofs.YtllkoadcpobdaaaDoor.Bt Go.Proofs.YtllkoadcpobdaaaDoor.Parse Go.Proofs.YtllkoadcpobdaaaDoor.PX

open Go.Proofs.YtllkoadcpobdaaaDoorW.PrintWords Go.Proofs.YtllkoadcpobdaaaDoorW.PrintLast Go.Proofs.YtllkoadcpobdaaaDoorW.PrintMore

attribute [local go_sem] setCell_drewN alloc_drewN

/-- The cells of a version. -/
def vcells (a b c : Int) (p m o : ByteArray) : List Value := [.int .u64 a, .int .u64 b, .int .u64 c, .string p, .string m, .string o]

/-- It returns a pointer to a new block of these cells. -/
def NewAt (w : World) (xs : List Value) (e : Ending) (w' : World) : Prop := ∃ g : Nat, e = .returned (.pointer (some ⟨g, 0, none⟩)) ∧ At w' g xs ∧ w.heap.size ≤ g ∧ Below w.heap.size w w'

set_option maxHeartbeats 2000000 in
theorem zzVersion (a b c : Int) (p m : ByteArray) (w : World) :
    Calls Tryd.prog 84 #[.int .u64 a, .int .u64 b, .int .u64 c, .string p, .string m] w (NewAt w (vcells a b c p m ⟨#[]⟩)) := by
  go_enter Tryd.func84, Tryd.ntmps84
  go_wp2
  go_ret
  exact ⟨w.heap.size, rfl, At.new _ _ _ _ (by simp), by omega, by go_grown⟩

set_option maxHeartbeats 2000000 in
theorem implVersion (a b c : Int) (p m : ByteArray) (w : World) :
    Calls Tryd.prog 55 #[.agg #[.int .u64 a, .int .u64 b, .int .u64 c, .string p, .string m]] w (NewAt w (vcells a b c p m ⟨#[]⟩)) := by
  go_enter Tryd.func55, Tryd.ntmps55
  go_wp2
  go_ret
  exact ⟨w.heap.size + 1, rfl, At.new _ _ _ _ (by simp), by omega, by go_grown⟩

/-- It returns a ZZTerm whose version lies in a new block. -/
def TermAt (w : World) (os : ByteArray) (d mD pD : Bool) (xs : List Value) (e : Ending) (w' : World) : Prop :=
  ∃ g : Nat, e = .returned (.agg #[.string os, .pointer (some ⟨g, 0, none⟩), .bool d, .bool mD, .bool pD]) ∧ At w' g xs ∧ w.heap.size ≤ g ∧ Below w.heap.size w w'

set_option maxHeartbeats 8000000 in
set_option maxRecDepth 100000 in
theorem implTerm (op gv a b c : Int) (p os : ByteArray) (hos : impl_operator.f op = some os) (hg : 0 ≤ gv) (w : World) :
    Calls Tryd.prog 54 #[.agg #[.int .i64 op, .int .i64 gv, .int .u64 a, .int .u64 b, .int .u64 c, .string p]] w
      (TermAt w os (decide (gv < 3)) (gv == 1) (gv == 2) (vcells a b c p ⟨#[]⟩ ⟨#[]⟩)) := by
  have C1 := Lib.hid (fun W => impl_operator.calls op os W hos)
  have C2 := Lib.hid (fun W => zzVersion a b c p ⟨#[]⟩ W)
  clear hos
  have h1 : decide (0 ≤ gv) = true := decide_eq_true hg
  clear hg
  go_enter Tryd.func54, Tryd.ntmps54
  go_wp2_with fail
  generalize hW0 : World.alloc (World.alloc w _) _ = w0
  have v0 : At w0 w.heap.size [.int .i64 op, .int .i64 gv, .int .u64 a, .int .u64 b, .int .u64 c, .string p] := by
    rw [← hW0]
    exact (At.new _ _ _ _ rfl).below ((Below.refl _ _).alloc (Nat.le_refl _) _)
  have z0 : Box w0 (w.heap.size + 1) [.string ⟨#[]⟩, .pointer none, .bool false, .bool false, .bool false] := by
    rw [← hW0]
    exact Box.new' _ _ _ _ (by simp)
  have b0 : Below w.heap.size w w0 := by
    rw [← hW0]
    go_grown
  have HV0 := Aside0.mk v0
  have HZ0 := Aside0.mk z0
  have HB0 := Aside0.mk b0
  clear v0 z0 b0 hW0
  go_region_held3 (fun W' => W'.cell? ⟨w.heap.size, 0, none⟩ = some (.int .i64 op) ∧ W'.cell? ⟨w.heap.size, 1, none⟩ = some (.int .i64 gv) ∧ W'.cell? ⟨w.heap.size, 2, none⟩ = some (.int .u64 a) ∧ W'.cell? ⟨w.heap.size, 3, none⟩ = some (.int .u64 b) ∧ W'.cell? ⟨w.heap.size, 4, none⟩ = some (.int .u64 c) ∧ W'.cell? ⟨w.heap.size, 5, none⟩ = some (.string p)) (first | (with_reducible exact HV0.out.drew.six) | (with_reducible exact HV2.out.six) | (with_reducible exact HV1.out.six) | (with_reducible exact HV0.out.six) | (with_reducible exact (((((HV2.out.far _ (by simp) _).far _ (by simp) _).far _ (by simp) _).far _ (by simp) _).far _ (by simp) _).six) | (trace_state; go_keep)) (first
    | (go_at_call 83; (with_reducible refine (C1.out _).mono ?_); rintro e w1 ⟨rfl, hd1⟩; have hb1 := undrew hd1.below; clear hd1; have HV1 := Aside0.mk (HV0.out.below hb1); have HZ1 := Aside0.mk (HZ0.out.below hb1); have HB1 := Aside0.mk (HB0.out.trans (hb1.mono HB0.out.size)); clear hb1)
    | (go_at_call 84; (with_reducible refine (C2.out _).mono ?_); rintro e w2 ⟨g2, rfl, hv2, hl2, hb2⟩; have HN := Aside0.mk hv2; have HV2 := Aside0.mk (HV1.out.below hb2); have HZ2 := Aside0.mk (HZ1.out.below hb2); have HB2 := Aside0.mk (HB1.out.trans (hb2.mono HB1.out.size)); have e0 := HZ2.out.cell 0 _ rfl; have e1 := HZ2.out.cell 1 _ rfl; have e2 := HZ2.out.cell 2 _ rfl; have e3 := HZ2.out.cell 3 _ rfl; have e4 := HZ2.out.cell 4 _ rfl; have fz := HZ2.out.free; have hz := HZ2.out.lt; clear hb2))
  all_goals
    clear e0 e1 e2 e3 e4 fz hz
    go_wp2_with fail
    generalize hW3 : World.setCell _ _ _ = w3
    have B3 : Box w3 (w.heap.size + 1) [.string os, .pointer (some ⟨g2, 0, none⟩), .bool (decide (gv < 3)), .bool (gv == 1), .bool (gv == 2)] := by
      rw [← hW3]
      exact ((((HZ2.out.set 0 (by simp) _).set 1 (by simp) _).set 2 (by simp) _).set 3 (by simp) _).set 4 (by simp) _
    have hgz : g2 ≠ w.heap.size + 1 := by
      have := HZ1.out.lt
      omega
    have N3 : At w3 g2 (vcells a b c p ⟨#[]⟩ ⟨#[]⟩) := by
      rw [← hW3]
      exact ((((HN.out.far _ hgz _).far _ hgz _).far _ hgz _).far _ hgz _).far _ hgz _
    have b3 : Below w.heap.size w w3 := by
      have hb := HB2.out
      have := hb.size
      rw [← hW3]
      exact ((((hb.setCell (by simp) _).setCell (by simp) _).setCell (by simp) _).setCell (by simp) _).setCell (by simp) _
    have hl3 : w.heap.size ≤ g2 := by
      have := HB1.out.size
      omega
    clear hW3
    have r0 := B3.cell 0 _ rfl; have r1 := B3.cell 1 _ rfl; have r2 := B3.cell 2 _ rfl; have r3 := B3.cell 3 _ rfl; have r4 := B3.cell 4 _ rfl
    exact bodyPost_ret (v := .agg #[.string os, .pointer (some ⟨g2, 0, none⟩), .bool (decide (gv < 3)), .bool (gv == 1), .bool (gv == 2)]) (by simp [results, Tryd.results54, go_sem, r0, r1, r2, r3, r4]) rfl ⟨g2, rfl, N3, hl3, b3⟩

end Go.Proofs.YtllkoadcpobdaaaDoor.KX
