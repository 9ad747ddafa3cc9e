/- The row and the tied card of FnSemverTermTilde, out of its printed walk and its plain law. For every input that the statement lets in. -/
import Derived.Test.YtllkoadcpobdaaaDoorZCardSemverTermTilde6
import Derived.Test.YtllkoadcpobdaaaDoorZCardSemverTermTilde8
import Derived.Test.YtllkoadcpobdaaaDoorZCardSemverTermTilde9
import Derived.Test.YtllkoadcpobdaaaDoorZCardSemverTermTilde22
namespace Go.Proofs.YtllkoadcpobdaaaDoor.PX

open Go.RowKit Go.Proofs.YtllkoadcpobdaaaDoorW.PrintWords Go.Proofs.YtllkoadcpobdaaaDoorW.PrintLast Go.Proofs.YtllkoadcpobdaaaDoorW.PrintMore

attribute [local go_sem] max2_int min2_int max_two min_two max_three min_three max_four min_four   -- for this text's walks alone

set_option linter.unusedVariables false

set_option linter.unusedSimpArgs false

def laws_stHolds.f (a0 : Int) (a1_0 : Int) (a1_1 : Int) (a1_2 : Int) (a1_3 : ByteArray) (a1_4 : ByteArray) (a2 : Int) (a3_0 : Int) (a3_1 : Int) (a3_2 : Int) (a3_3 : ByteArray) (a3_4 : ByteArray) : Option (Bool) := (laws_stTerm.f a0 a1_0 a1_1 a1_2 a1_3 a1_4 a2).bind fun bt228 => ((impl_TermHolds.f bt228.1 bt228.2.1 bt228.2.2.1 bt228.2.2.2.1 bt228.2.2.2.2.1 bt228.2.2.2.2.2 a3_0 a3_1 a3_2 a3_3 a3_4 true).bind fun t234 => (some t234))

set_option maxHeartbeats 80000000 in
set_option maxRecDepth 100000 in
theorem laws_stHolds.calls (a0 : Int) (a1_0 : Int) (a1_1 : Int) (a1_2 : Int) (a1_3 : ByteArray) (a1_4 : ByteArray) (a2 : Int) (a3_0 : Int) (a3_1 : Int) (a3_2 : Int) (a3_3 : ByteArray) (a3_4 : ByteArray) (r : Bool) (w : World) (hStd : Std w) (h : laws_stHolds.f a0 a1_0 a1_1 a1_2 a1_3 a1_4 a2 a3_0 a3_1 a3_2 a3_3 a3_4 = some r) :
  Calls Tryd.prog 23 #[.int .i64 a0, .agg #[.int .u64 a1_0, .int .u64 a1_1, .int .u64 a1_2, .string a1_3, .string a1_4], .int .i64 a2, .agg #[.int .u64 a3_0, .int .u64 a3_1, .int .u64 a3_2, .string a3_3, .string a3_4]] w fun e w' => e = .returned (.bool r) ∧ Below w.heap.size w w' := by
 have hu26 := Tryd.underlying26
 have HStd := Aside0.mk hStd
 clear hStd
 have HB := Aside0.mk (Below.refl w.heap.size w)
 have H : ((laws_stTerm.f a0 a1_0 a1_1 a1_2 a1_3 a1_4 a2).bind fun bt228 => ((impl_TermHolds.f bt228.1 bt228.2.1 bt228.2.2.1 bt228.2.2.2.1 bt228.2.2.2.2.1 bt228.2.2.2.2.2 a3_0 a3_1 a3_2 a3_3 a3_4 true).bind fun t234 => (some t234))) = some r := h
 clear h
 replace H := Option.bind_eq_some_iff.mp H
 obtain ⟨⟨t228, t229, t230, t231, t232, t233⟩, A50, H⟩ := H
 replace H : ((impl_TermHolds.f t228 t229 t230 t231 t232 t233 a3_0 a3_1 a3_2 a3_3 a3_4 true).bind fun t234 => (some t234)) = some r := H
 have A5 := Aside0.mk A50
 clear A50
 replace H := Option.bind_eq_some_iff.mp H
 obtain ⟨t234, A60, H⟩ := H
 replace H : (some t234) = some r := H
 have A6 := Aside0.mk A60
 clear A60
 obtain rfl := Option.some.inj H
 go_enter Tryd.func23, Tryd.ntmps23
 try go_wp2_with (first | ((with_reducible refine gate_dst (N := 5) rfl ?_); refine box_event ?hg (N := 5) ?hd (cs := #[.int .u64 a1_0, .int .u64 a1_1, .int .u64 a1_2, .string a1_3, .string a1_4]) (t := 26) ?hr ?_; (case hd => rfl); (case hg => rfl); (case hr => first | (go_simp; done) | (go_simp; rfl) | (go_simp; simp [u8w]; done)); intro gb226 hg w7 hbox hb; have n0_ := Aside0.mk (below_step (by repeat (first | (with_reducible first | exact HB.out | apply below_alloc | apply pw_below_drewN | apply below_drew1) | exact HB.out)) hb); have n1_ := Aside0.mk (hbox); have n2_ := Aside0.mk ((by rw [hg]; exact (below_size (by repeat (first | (with_reducible first | exact HB.out | apply below_alloc | apply pw_below_drewN | apply below_drew1) | exact HB.out))) : w.heap.size ≤ gb226)); have n3_ := Aside0.mk ((by rw [hg]; exact (below_size (by repeat (first | (with_reducible first | exact HB.out | apply below_alloc | apply pw_below_drewN | apply below_drew1) | exact HB.out))) : w.heap.size ≤ gb226)); clear HB; have HB := n0_; have BK226 := n1_; have GW226 := n2_; have GE226 := n3_; clear n0_ n1_ n2_ n3_; clear hb hbox hg) | ((with_reducible refine gate_dst (N := 7) rfl ?_); refine box_event ?hg (N := 7) ?hd (cs := #[.int .u64 a3_0, .int .u64 a3_1, .int .u64 a3_2, .string a3_3, .string a3_4]) (t := 26) ?hr ?_; (case hd => rfl); (case hg => rfl); (case hr => first | (go_simp; done) | (go_simp; rfl) | (go_simp; simp [u8w]; done)); intro gb227 hg w8 hbox hb; have n0_ := Aside0.mk (blk_below (g := gb226) (o := .cells #[.int .u64 a1_0, .int .u64 a1_1, .int .u64 a1_2, .string a1_3, .string a1_4] 26 (0, 0)) (by (with_reducible repeat (first | refine blk_drewN ?_ _ | refine blk_drew ?_ | refine blk_alloc ?_ _)); exact BK226.out) hb); have n1_ := Aside0.mk (below_step (by repeat (first | (with_reducible first | exact HB.out | apply below_alloc | apply pw_below_drewN | apply below_drew1 | refine below_set ?_ GE226.out) | exact HB.out)) hb); have n2_ := Aside0.mk (hbox); have n3_ := Aside0.mk ((by rw [hg]; exact (below_size (by repeat (first | (with_reducible first | exact HB.out | apply below_alloc | apply pw_below_drewN | apply below_drew1 | refine below_set ?_ GE226.out) | exact HB.out))) : w.heap.size ≤ gb227)); have n4_ := Aside0.mk ((by rw [hg]; exact (below_size (by repeat (first | (with_reducible first | exact HB.out | apply below_alloc | apply pw_below_drewN | apply below_drew1 | refine below_set ?_ GE226.out) | exact HB.out))) : w.heap.size ≤ gb227)); have n5_ := Aside0.mk ((by rw [hg]; exact Nat.ne_of_lt (blk_lt (g := gb226) (o := .cells #[.int .u64 a1_0, .int .u64 a1_1, .int .u64 a1_2, .string a1_3, .string a1_4] 26 (0, 0)) (by (with_reducible repeat (first | refine blk_drewN ?_ _ | refine blk_drew ?_ | refine blk_alloc ?_ _)); exact BK226.out)) : gb226 ≠ gb227)); have n6_ := Aside0.mk ((by rw [hg]; exact Nat.ne_of_gt (blk_lt (g := gb226) (o := .cells #[.int .u64 a1_0, .int .u64 a1_1, .int .u64 a1_2, .string a1_3, .string a1_4] 26 (0, 0)) (by (with_reducible repeat (first | refine blk_drewN ?_ _ | refine blk_drew ?_ | refine blk_alloc ?_ _)); exact BK226.out)) : gb227 ≠ gb226)); clear BK226; clear HB; have BK226 := n0_; have HB := n1_; have BK227 := n2_; have GW227 := n3_; have GE227 := n4_; have NB226_227 := n5_; have NB227_226 := n6_; clear n0_ n1_ n2_ n3_ n4_ n5_ n6_; clear hb hbox hg))
 have n0_ := Aside0.mk (blk_drew BK226.out)
 have n1_ := Aside0.mk (blk_drew BK227.out)
 have n2_ := Aside0.mk (below_drew1 HB.out)
 clear BK226
 clear BK227
 clear HB
 have BK226 := n0_
 have BK227 := n1_
 have HB := n2_
 clear n0_ n1_ n2_
 refine start_ (n := 7) (S := fun w' => w'.cell? ⟨gb226, 0, none⟩ = some (.int .u64 a1_0) ∧ w'.cell? ⟨gb226, 1, none⟩ = some (.int .u64 a1_1) ∧ w'.cell? ⟨gb226, 2, none⟩ = some (.int .u64 a1_2) ∧ w'.cell? ⟨gb226, 3, none⟩ = some (.string a1_3) ∧ w'.cell? ⟨gb226, 4, none⟩ = some (.string a1_4) ∧ w'.cell? ⟨gb227, 0, none⟩ = some (.int .u64 a3_0) ∧ w'.cell? ⟨gb227, 1, none⟩ = some (.int .u64 a3_1) ∧ w'.cell? ⟨gb227, 2, none⟩ = some (.int .u64 a3_2) ∧ w'.cell? ⟨gb227, 3, none⟩ = some (.string a3_3) ∧ w'.cell? ⟨gb227, 4, none⟩ = some (.string a3_4)) (ds := []) #[false, false, false, false, false, false, false] (by kernel_rfl) rfl rfl ⟨(blk_cell BK226.out 0).trans rfl, (blk_cell BK226.out 1).trans rfl, (blk_cell BK226.out 2).trans rfl, (blk_cell BK226.out 3).trans rfl, (blk_cell BK226.out 4).trans rfl, (blk_cell BK227.out 0).trans rfl, (blk_cell BK227.out 1).trans rfl, (blk_cell BK227.out 2).trans rfl, (blk_cell BK227.out 3).trans rfl, (blk_cell BK227.out 4).trans rfl⟩ (fun hHeld => ?_)
 generalize w8.drew = w9 at BK226 BK227 HB hHeld ⊢
 refine pure_ (i := 0) (N := some 9) (v := ?_) (a' := ?_) #[true, false, false, false, false, false, false] rfl rfl (by kernel_rfl) (fun _ _ _ h => h) (Or.inl ⟨by rfl, ?_⟩) ?_ ?_
 rotate_left
 ·
  intro w'
  go_simp
  with_reducible rfl
 rotate_left
 ·
  simp only [Act.put, List.setIfInBounds_toArray, List.set_cons_zero, List.set_cons_succ, i64_w, i32_w]
  rfl
 refine pure_ (i := 2) (N := some 11) (v := ?_) (a' := ?_) #[true, false, true, false, false, false, false] rfl rfl (by kernel_rfl) (fun _ _ _ h => h) (Or.inl ⟨by rfl, ?_⟩) ?_ ?_
 rotate_left
 ·
  intro w'
  go_simp
  with_reducible rfl
 rotate_left
 ·
  simp only [Act.put, List.setIfInBounds_toArray, List.set_cons_zero, List.set_cons_succ, i64_w, i32_w]
  rfl
 refine take_ (i := 1) (N := some 10) (v := ?_) (a' := ?_) #[true, true, true, false, false, false, false] rfl rfl (by kernel_rfl) (fun _ _ _ h => h) (Or.inl ⟨by rfl, ?_⟩) hHeld ?_ ?_
 rotate_left
 ·
  rintro w' ⟨s0, s1, s2, s3, s4, s5, s6, s7, s8, s9⟩
  go_simp
  with_reducible rfl
 rotate_left
 ·
  simp only [Act.put, List.setIfInBounds_toArray, List.set_cons_zero, List.set_cons_succ, i64_w, i32_w]
  rfl
 refine take_ (i := 4) (N := some 13) (v := ?_) (a' := ?_) #[true, true, true, false, true, false, false] rfl rfl (by kernel_rfl) (fun _ _ _ h => h) (Or.inl ⟨by rfl, ?_⟩) hHeld ?_ ?_
 rotate_left
 ·
  rintro w' ⟨s0, s1, s2, s3, s4, s5, s6, s7, s8, s9⟩
  go_simp
  with_reducible rfl
 rotate_left
 ·
  simp only [Act.put, List.setIfInBounds_toArray, List.set_cons_zero, List.set_cons_succ, i64_w, i32_w]
  rfl
 refine one_ (i := 3) (N := some 12) #[true, true, true, true, true, false, false] rfl rfl (by kernel_rfl) (by decide) (fun K hK => ?_)
 refine goes_ Tryd.func28 (by kernel_rfl) rfl #[.int .i64 a0, .agg #[.int .u64 a1_0, .int .u64 a1_1, .int .u64 a1_2, .string a1_3, .string a1_4], .int .i64 a2] (by rfl) rfl rfl (by (try simp only [List.map_toArray, List.map_cons, List.map_nil]); first | done | rfl | (simp only [List.length_drop, List.length_take]; rfl)) ?_
 with_reducible refine (laws_stTerm.calls a0 a1_0 a1_1 a1_2 a1_3 a1_4 a2 t228 t229 t230 t231 t232 t233 _ A5.out).mono ?_
 rintro e w10 ⟨rfl, hb⟩
 refine ⟨_, rfl, ?_⟩
 have n0_ := Aside0.mk (blk_below (g := gb226) (o := .cells #[.int .u64 a1_0, .int .u64 a1_1, .int .u64 a1_2, .string a1_3, .string a1_4] 26 (0, 0)) (by (with_reducible repeat (first | refine blk_drewN ?_ _ | refine blk_drew ?_ | refine blk_alloc ?_ _)); exact BK226.out) hb)
 have n1_ := Aside0.mk (blk_below (g := gb227) (o := .cells #[.int .u64 a3_0, .int .u64 a3_1, .int .u64 a3_2, .string a3_3, .string a3_4] 26 (0, 0)) (by (with_reducible repeat (first | refine blk_drewN ?_ _ | refine blk_drew ?_ | refine blk_alloc ?_ _)); exact BK227.out) hb)
 have n2_ := Aside0.mk (below_step (by repeat (first | (with_reducible first | exact HB.out | apply below_alloc | apply pw_below_drewN | apply below_drew1 | refine below_set ?_ GE226.out | refine below_set ?_ GE227.out) | exact HB.out)) hb)
 clear BK226
 clear BK227
 clear HB
 have BK226 := n0_
 have BK227 := n1_
 have HB := n2_
 clear n0_ n1_ n2_
 (try clear hb)
 (try clear hb2)
 (try clear hk)
 (try clear hi)
 refine hK.out _ _ ⟨(blk_cell BK226.out 0).trans rfl, (blk_cell BK226.out 1).trans rfl, (blk_cell BK226.out 2).trans rfl, (blk_cell BK226.out 3).trans rfl, (blk_cell BK226.out 4).trans rfl, (blk_cell BK227.out 0).trans rfl, (blk_cell BK227.out 1).trans rfl, (blk_cell BK227.out 2).trans rfl, (blk_cell BK227.out 3).trans rfl, (blk_cell BK227.out 4).trans rfl⟩ (fun hHeld => ?_)
 clear hK K
 refine norm_ (a' := ?_) ?_ ?_
 rotate_left
 ·
  show Act.put _ (some 12) _ = _
  simp only [Act.put, List.setIfInBounds_toArray, List.set_cons_zero, List.set_cons_succ, i64_w, i32_w]
  rfl
 refine one_ (i := 5) (N := some 14) #[true, true, true, true, true, true, false] rfl rfl (by kernel_rfl) (by decide) (fun K hK => ?_)
 refine goes_ Tryd.func18 (by kernel_rfl) rfl #[.agg #[.int .i64 t228, .int .i64 t229, .int .u64 t230, .int .u64 t231, .int .u64 t232, .string t233], .agg #[.int .u64 a3_0, .int .u64 a3_1, .int .u64 a3_2, .string a3_3, .string a3_4], .bool true] (by rfl) rfl rfl (by (try simp only [List.map_toArray, List.map_cons, List.map_nil]); first | done | rfl | (simp only [List.length_drop, List.length_take]; rfl)) ?_
 with_reducible refine (impl_TermHolds.calls t228 t229 t230 t231 t232 t233 a3_0 a3_1 a3_2 a3_3 a3_4 true t234 _ ?side1 A6.out).mono ?_
 (case side1 => exact HStd.out.below (by repeat (first | (with_reducible first | exact HB.out | apply below_alloc | apply pw_below_drewN | apply below_drew1 | refine below_set ?_ GE226.out | refine below_set ?_ GE227.out) | exact HB.out)))
 rintro e w11 ⟨rfl, hb⟩
 refine ⟨_, rfl, ?_⟩
 have n0_ := Aside0.mk (blk_below (g := gb226) (o := .cells #[.int .u64 a1_0, .int .u64 a1_1, .int .u64 a1_2, .string a1_3, .string a1_4] 26 (0, 0)) (by (with_reducible repeat (first | refine blk_drewN ?_ _ | refine blk_drew ?_ | refine blk_alloc ?_ _)); exact BK226.out) hb)
 have n1_ := Aside0.mk (blk_below (g := gb227) (o := .cells #[.int .u64 a3_0, .int .u64 a3_1, .int .u64 a3_2, .string a3_3, .string a3_4] 26 (0, 0)) (by (with_reducible repeat (first | refine blk_drewN ?_ _ | refine blk_drew ?_ | refine blk_alloc ?_ _)); exact BK227.out) hb)
 have n2_ := Aside0.mk (below_step (by repeat (first | (with_reducible first | exact HB.out | apply below_alloc | apply pw_below_drewN | apply below_drew1 | refine below_set ?_ GE226.out | refine below_set ?_ GE227.out) | exact HB.out)) hb)
 clear BK226
 clear BK227
 clear HB
 have BK226 := n0_
 have BK227 := n1_
 have HB := n2_
 clear n0_ n1_ n2_
 (try clear hb)
 (try clear hb2)
 (try clear hk)
 (try clear hi)
 refine hK.out _ _ ⟨(blk_cell BK226.out 0).trans rfl, (blk_cell BK226.out 1).trans rfl, (blk_cell BK226.out 2).trans rfl, (blk_cell BK226.out 3).trans rfl, (blk_cell BK226.out 4).trans rfl, (blk_cell BK227.out 0).trans rfl, (blk_cell BK227.out 1).trans rfl, (blk_cell BK227.out 2).trans rfl, (blk_cell BK227.out 3).trans rfl, (blk_cell BK227.out 4).trans rfl⟩ (fun hHeld => ?_)
 clear hK K
 refine norm_ (a' := ?_) ?_ ?_
 rotate_left
 ·
  show Act.put _ (some 14) _ = _
  simp only [Act.put, List.setIfInBounds_toArray, List.set_cons_zero, List.set_cons_succ, i64_w, i32_w]
  rfl
 refine pure_ (i := 6) (N := some 8) (v := ?_) (a' := ?_) #[true, true, true, true, true, true, true] rfl rfl (by kernel_rfl) (fun _ _ _ h => h) (Or.inl ⟨by rfl, ?_⟩) ?_ ?_
 rotate_left
 ·
  intro w'
  go_simp
  with_reducible rfl
 rotate_left
 ·
  simp only [Act.put, List.setIfInBounds_toArray, List.set_cons_zero, List.set_cons_succ, i64_w, i32_w]
  rfl
 refine done_ (by kernel_rfl) ?_
 try go_wp2
 go_ret
 exact ⟨by first | rfl | (simp [errW_none, errW_some] <;> rfl) | (simp [*, errW_none, errW_some] <;> rfl) | (simp [bneNil]; done), by repeat (first | (with_reducible first | exact HB.out | apply below_alloc | apply pw_below_drewN | apply below_drew1 | refine below_set ?_ GE226.out | refine below_set ?_ GE227.out) | exact HB.out)⟩

end Go.Proofs.YtllkoadcpobdaaaDoor.PX
namespace Go.Proofs.YtllkoadcpobdaaaDoor.PX

open Go.RowKit Go.Proofs.YtllkoadcpobdaaaDoorW.PrintWords Go.Proofs.YtllkoadcpobdaaaDoorW.PrintLast Go.Proofs.YtllkoadcpobdaaaDoorW.PrintMore

attribute [local go_sem] max2_int min2_int max_two min_two max_three min_three max_four min_four   -- for this text's walks alone

set_option linter.unusedVariables false

set_option linter.unusedSimpArgs false

mutual
def laws_FnSemverTermTilde.j0 : Nat → Int → Bool → Int → Int → Int → ByteArray → ByteArray → Int → Int → Int → ByteArray → ByteArray → Option (Bool)
  | 0, _, _, _, _, _, _, _, _, _, _, _, _ => none
  | k + 1, x1, x16, x238000, x238001, x238002, x238003, x238004, x239000, x239001, x239002, x239003, x239004 => if x16 = true then (some true) else ((laws_stBare.f x238000 x238001 x238002 x238003 x238004 x239000 x239001 x239002 x239003 x239004 x1).bind fun bt241 => (if bt241.2.2.2.2.2.2.2.2.2.2 = true then (if x1 = 3 then ((laws_stZero.f bt241.1 bt241.2.1 bt241.2.2.1 bt241.2.2.2.1 bt241.2.2.2.2.1).bind fun t252 => (if t252 = true then (laws_FnSemverTermTilde.j1 k x1 true bt241.1 bt241.2.1 bt241.2.2.1 bt241.2.2.2.1 bt241.2.2.2.2.1 bt241.2.2.2.2.2.1 bt241.2.2.2.2.2.2.1 bt241.2.2.2.2.2.2.2.1 bt241.2.2.2.2.2.2.2.2.1 bt241.2.2.2.2.2.2.2.2.2.1) else ((laws_scPlus.f bt241.1 bt241.2.1 bt241.2.2.1 bt241.2.2.2.1 bt241.2.2.2.2.1 (mn x1 2)).bind fun t253 => (laws_FnSemverTermTilde.j1 k x1 (!t253) bt241.1 bt241.2.1 bt241.2.2.1 bt241.2.2.2.1 bt241.2.2.2.2.1 bt241.2.2.2.2.2.1 bt241.2.2.2.2.2.2.1 bt241.2.2.2.2.2.2.2.1 bt241.2.2.2.2.2.2.2.2.1 bt241.2.2.2.2.2.2.2.2.2.1)))) else ((laws_scPlus.f bt241.1 bt241.2.1 bt241.2.2.1 bt241.2.2.2.1 bt241.2.2.2.2.1 (mn x1 2)).bind fun t254 => (laws_FnSemverTermTilde.j1 k x1 (!t254) bt241.1 bt241.2.1 bt241.2.2.1 bt241.2.2.2.1 bt241.2.2.2.2.1 bt241.2.2.2.2.2.1 bt241.2.2.2.2.2.2.1 bt241.2.2.2.2.2.2.2.1 bt241.2.2.2.2.2.2.2.2.1 bt241.2.2.2.2.2.2.2.2.2.1))) else (laws_FnSemverTermTilde.j1 k x1 true bt241.1 bt241.2.1 bt241.2.2.1 bt241.2.2.2.1 bt241.2.2.2.2.1 bt241.2.2.2.2.2.1 bt241.2.2.2.2.2.2.1 bt241.2.2.2.2.2.2.2.1 bt241.2.2.2.2.2.2.2.2.1 bt241.2.2.2.2.2.2.2.2.2.1)))
def laws_FnSemverTermTilde.j1 : Nat → Int → Bool → Int → Int → Int → ByteArray → ByteArray → Int → Int → Int → ByteArray → ByteArray → Option (Bool)
  | 0, _, _, _, _, _, _, _, _, _, _, _, _ => none
  | k + 1, x1, x41, x238000, x238001, x238002, x238003, x238004, x239000, x239001, x239002, x239003, x239004 => if x41 = true then (some true) else (if x1 > 1 then (laws_FnSemverTermTilde.j2 k x1 x238000 x238001 x238002 x238003 x238004 x239000 x239001 x239002 x239003 x239004 x238000 (IntKind.u64.wrap (x238001 + 1)) 0 (⟨#[]⟩ : ByteArray) (⟨#[]⟩ : ByteArray)) else (laws_FnSemverTermTilde.j2 k x1 x238000 x238001 x238002 x238003 x238004 x239000 x239001 x239002 x239003 x239004 (IntKind.u64.wrap (x238000 + 1)) 0 0 (⟨#[]⟩ : ByteArray) (⟨#[]⟩ : ByteArray)))
def laws_FnSemverTermTilde.j2 : Nat → Int → Int → Int → Int → ByteArray → ByteArray → Int → Int → Int → ByteArray → ByteArray → Int → Int → Int → ByteArray → ByteArray → Option (Bool)
  | 0, _, _, _, _, _, _, _, _, _, _, _, _, _, _, _, _ => none
  | k + 1, x1, x238000, x238001, x238002, x238003, x238004, x239000, x239001, x239002, x239003, x239004, x256000, x256001, x256002, x256003, x256004 => (laws_stHolds.f 6 x238000 x238001 x238002 x238003 x238004 x1 x239000 x239001 x239002 x239003 x239004).bind fun t256 => ((laws_stHolds.f 4 x238000 x238001 x238002 x238003 x238004 x1 x239000 x239001 x239002 x239003 x239004).bind fun t257 => (if t257 = true then ((laws_stHolds.f 3 x256000 x256001 x256002 x256003 x256004 3 x239000 x239001 x239002 x239003 x239004).bind fun t258 => (if (t256 == t258) = true then ((laws_scFirst.f x238000 x238001 x238002 x238003 x238004 x1).bind fun bt259 => ((laws_stHolds.f 6 x238000 x238001 x238002 x238003 x238004 x1 bt259.1 bt259.2.1 bt259.2.2.1 bt259.2.2.2.1 bt259.2.2.2.2).bind fun t264 => (some t264))) else (some false))) else (if (t256 == false) = true then ((laws_scFirst.f x238000 x238001 x238002 x238003 x238004 x1).bind fun bt265 => ((laws_stHolds.f 6 x238000 x238001 x238002 x238003 x238004 x1 bt265.1 bt265.2.1 bt265.2.2.1 bt265.2.2.2.1 bt265.2.2.2.2).bind fun t270 => (some t270))) else (some false))))
end

def laws_FnSemverTermTilde.f (k : Nat) (a0_0 : Int) (a0_1 : Int) (a0_2 : Int) (a0_3 : ByteArray) (a0_4 : ByteArray) (a1 : Int) (a2_0 : Int) (a2_1 : Int) (a2_2 : Int) (a2_3 : ByteArray) (a2_4 : ByteArray) : Option (Bool) := (laws_zzFits14.f a0_0 a0_1 a0_2 a0_3 a0_4).bind fun t239 => (if t239 = true then ((laws_zzFits14.f a2_0 a2_1 a2_2 a2_3 a2_4).bind fun t240 => (laws_FnSemverTermTilde.j0 k a1 (!t240) a0_0 a0_1 a0_2 a0_3 a0_4 a2_0 a2_1 a2_2 a2_3 a2_4)) else (laws_FnSemverTermTilde.j0 k a1 true a0_0 a0_1 a0_2 a0_3 a0_4 a2_0 a2_1 a2_2 a2_3 a2_4))

def laws_FnSemverTermTilde.T9 : Bool × List (List Nat × List Nat) := (true, [([], []), ([], []), ([], []), ([0, 1, 2], [0, 1, 2]), ([], []), ([], []), ([], []), ([4, 5, 6, 3], [4, 5, 6]), ([7, 7], [7]), ([8], [8]), ([8], [8]), ([9, 10, 8, 8], [8, 9, 10]), ([8, 11], [8, 11]), ([3, 12], [3, 12]), ([13, 11], [13]), ([14], [14]), ([14], [14]), ([14], [14]), ([14], [14]), ([17, 18, 14, 14], [14, 17, 18]), ([15, 16, 19, 19, 14], [14, 15, 16, 19]), ([14, 20], [14, 20]), ([21, 20, 0, 1, 2, 3, 4, 5, 6, 7, 8, 9, 10, 11, 12, 13, 14, 15, 16, 17, 18, 19, 20, 21], [21])])

def laws_FnSemverTermTilde.B9 : List Nat := [0, 0, 0, 7, 0, 0, 0, 127, 255, 511, 511, 2047, 4095, 8191, 16383, 32767, 32767, 32767, 32767, 425983, 1048575, 2097151, 4194303]

theorem laws_FnSemverTermTilde.tab9 : rtab .any (opsOf Tryd.f4 9) = laws_FnSemverTermTilde.T9 := by kernel_rfl

theorem laws_FnSemverTermTilde.bits9 : waitsOk laws_FnSemverTermTilde.T9.2 laws_FnSemverTermTilde.B9 = true := by kernel_rfl

set_option maxHeartbeats 80000000 in
set_option maxRecDepth 100000 in
theorem laws_FnSemverTermTilde.calls (k : Nat) (a0_0 : Int) (a0_1 : Int) (a0_2 : Int) (a0_3 : ByteArray) (a0_4 : ByteArray) (a1 : Int) (a2_0 : Int) (a2_1 : Int) (a2_2 : Int) (a2_3 : ByteArray) (a2_4 : ByteArray) (r : Bool) (w : World) (hStd : Std w) (h : laws_FnSemverTermTilde.f k a0_0 a0_1 a0_2 a0_3 a0_4 a1 a2_0 a2_1 a2_2 a2_3 a2_4 = some r) :
  Calls Tryd.prog 4 #[.agg #[.int .u64 a0_0, .int .u64 a0_1, .int .u64 a0_2, .string a0_3, .string a0_4], .int .i64 a1, .agg #[.int .u64 a2_0, .int .u64 a2_1, .int .u64 a2_2, .string a2_3, .string a2_4]] w fun e w' => e = .returned (.bool r) ∧ Below w.heap.size w w' := by
 have hu26 := Tryd.underlying26
 have HStd := Aside0.mk hStd
 clear hStd
 have HB := Aside0.mk (Below.refl w.heap.size w)
 have H : ((laws_zzFits14.f a0_0 a0_1 a0_2 a0_3 a0_4).bind fun t239 => (if t239 = true then ((laws_zzFits14.f a2_0 a2_1 a2_2 a2_3 a2_4).bind fun t240 => (laws_FnSemverTermTilde.j0 k a1 (!t240) a0_0 a0_1 a0_2 a0_3 a0_4 a2_0 a2_1 a2_2 a2_3 a2_4)) else (laws_FnSemverTermTilde.j0 k a1 true a0_0 a0_1 a0_2 a0_3 a0_4 a2_0 a2_1 a2_2 a2_3 a2_4))) = some r := h
 clear h
 have HC4 := Aside0.mk H
 clear H
 go_enter Tryd.func4, Tryd.ntmps4
 go_upto_region 1 with (first | ((with_reducible refine gate_dst (N := 3) rfl ?_); (try (refine gate_guard (by rfl) ?_; dsimp only)); refine box_event ?hg (N := 3) ?hd (cs := #[.int .u64 a0_0, .int .u64 a0_1, .int .u64 a0_2, .string a0_3, .string a0_4]) (t := 26) ?hr ?_; (case hd => rfl); (case hg => rfl); (case hr => first | (go_simp; done) | (go_simp; rfl) | (go_simp; simp [u8w]; done)); intro gb237 hg w5 hbox hb; have n0_ := Aside0.mk (below_step (by repeat (first | (with_reducible first | exact HB.out | apply below_alloc | apply pw_below_drewN | apply below_drew1) | exact HB.out)) hb); have n1_ := Aside0.mk (hbox); have n2_ := Aside0.mk ((by rw [hg]; exact (below_size (by repeat (first | (with_reducible first | exact HB.out | apply below_alloc | apply pw_below_drewN | apply below_drew1) | exact HB.out))) : w.heap.size ≤ gb237)); have n3_ := Aside0.mk ((by rw [hg]; exact (below_size (by repeat (first | (with_reducible first | exact HB.out | apply below_alloc | apply pw_below_drewN | apply below_drew1) | exact HB.out))) : w.heap.size ≤ gb237)); clear HB; have HB := n0_; have BK237 := n1_; have GW237 := n2_; have GE237 := n3_; clear n0_ n1_ n2_ n3_; clear hb hbox hg) | ((with_reducible refine gate_dst (N := 5) rfl ?_); (try (refine gate_guard (by rfl) ?_; dsimp only)); refine box_event ?hg (N := 5) ?hd (cs := #[.int .u64 a2_0, .int .u64 a2_1, .int .u64 a2_2, .string a2_3, .string a2_4]) (t := 26) ?hr ?_; (case hd => rfl); (case hg => rfl); (case hr => first | (go_simp; done) | (go_simp; rfl) | (go_simp; simp [u8w]; done)); intro gb238 hg w6 hbox hb; have n0_ := Aside0.mk (blk_below (g := gb237) (o := .cells #[.int .u64 a0_0, .int .u64 a0_1, .int .u64 a0_2, .string a0_3, .string a0_4] 26 (0, 0)) (by (with_reducible repeat (first | refine blk_drewN ?_ _ | refine blk_drew ?_ | refine blk_alloc ?_ _)); exact BK237.out) hb); have n1_ := Aside0.mk (below_step (by repeat (first | (with_reducible first | exact HB.out | apply below_alloc | apply pw_below_drewN | apply below_drew1 | refine below_set ?_ GE237.out) | exact HB.out)) hb); have n2_ := Aside0.mk (hbox); have n3_ := Aside0.mk ((by rw [hg]; exact (below_size (by repeat (first | (with_reducible first | exact HB.out | apply below_alloc | apply pw_below_drewN | apply below_drew1 | refine below_set ?_ GE237.out) | exact HB.out))) : w.heap.size ≤ gb238)); have n4_ := Aside0.mk ((by rw [hg]; exact (below_size (by repeat (first | (with_reducible first | exact HB.out | apply below_alloc | apply pw_below_drewN | apply below_drew1 | refine below_set ?_ GE237.out) | exact HB.out))) : w.heap.size ≤ gb238)); have n5_ := Aside0.mk ((by rw [hg]; exact Nat.ne_of_lt (blk_lt (g := gb237) (o := .cells #[.int .u64 a0_0, .int .u64 a0_1, .int .u64 a0_2, .string a0_3, .string a0_4] 26 (0, 0)) (by (with_reducible repeat (first | refine blk_drewN ?_ _ | refine blk_drew ?_ | refine blk_alloc ?_ _)); exact BK237.out)) : gb237 ≠ gb238)); have n6_ := Aside0.mk ((by rw [hg]; exact Nat.ne_of_gt (blk_lt (g := gb237) (o := .cells #[.int .u64 a0_0, .int .u64 a0_1, .int .u64 a0_2, .string a0_3, .string a0_4] 26 (0, 0)) (by (with_reducible repeat (first | refine blk_drewN ?_ _ | refine blk_drew ?_ | refine blk_alloc ?_ _)); exact BK237.out)) : gb238 ≠ gb237)); clear BK237; clear HB; have BK237 := n0_; have HB := n1_; have BK238 := n2_; have GW238 := n3_; have GE238 := n4_; have NB237_238 := n5_; have NB238_237 := n6_; clear n0_ n1_ n2_ n3_ n4_ n5_ n6_; clear hb hbox hg))
 (try simp only [Act.put, List.setIfInBounds_toArray, List.set_cons_zero, List.set_cons_succ])
 go_cut [16] (fun v16 wc => ∃ (kq : Nat) (x16_3 : Bool), v16 = .bool x16_3 ∧ Aside0 (laws_FnSemverTermTilde.j0 kq a1 x16_3 a0_0 a0_1 a0_2 a0_3 a0_4 a2_0 a2_1 a2_2 a2_3 a2_4 = some r) ∧ Aside0 (kq ≤ k) ∧ Aside0 (wc.heap[gb237]? = some (.cells #[.int .u64 a0_0, .int .u64 a0_1, .int .u64 a0_2, .string a0_3, .string a0_4] 26 (0, 0))) ∧ Aside0 (wc.heap[gb238]? = some (.cells #[.int .u64 a2_0, .int .u64 a2_1, .int .u64 a2_2, .string a2_3, .string a2_4] 26 (0, 0))) ∧ Aside0 (Below w.heap.size w wc))
 case first =>
  have H := HC4.out
  clear HC4
  replace H := Option.bind_eq_some_iff.mp H
  obtain ⟨t239, A70, H⟩ := H
  replace H : (if t239 = true then ((laws_zzFits14.f a2_0 a2_1 a2_2 a2_3 a2_4).bind fun t240 => (laws_FnSemverTermTilde.j0 k a1 (!t240) a0_0 a0_1 a0_2 a0_3 a0_4 a2_0 a2_1 a2_2 a2_3 a2_4)) else (laws_FnSemverTermTilde.j0 k a1 true a0_0 a0_1 a0_2 a0_3 a0_4 a2_0 a2_1 a2_2 a2_3 a2_4)) = some r := H
  have A7 := Aside0.mk A70
  clear A70
  by_cases c8 : t239 = true
  ·
   subst c8
   have H1 : ((laws_zzFits14.f a2_0 a2_1 a2_2 a2_3 a2_4).bind fun t240 => (laws_FnSemverTermTilde.j0 k a1 (!t240) a0_0 a0_1 a0_2 a0_3 a0_4 a2_0 a2_1 a2_2 a2_3 a2_4)) = some r := by rw [if_pos rfl] at H; exact H
   clear H
   have H := H1
   clear H1
   replace H := Option.bind_eq_some_iff.mp H
   obtain ⟨t240, A90, H⟩ := H
   replace H : (laws_FnSemverTermTilde.j0 k a1 (!t240) a0_0 a0_1 a0_2 a0_3 a0_4 a2_0 a2_1 a2_2 a2_3 a2_4) = some r := H
   have A9 := Aside0.mk A90
   clear A90
   have H' := Aside0.mk H
   clear H
   have hnb10 := NB237_238.out
   have hnc10 := NB238_237.out
   have hcz11_0 : w6.cell? ⟨gb237, 0, none⟩ = some (.int .u64 a0_0) := (blk_cell BK237.out 0).trans rfl
   have hcz11_1 : w6.cell? ⟨gb237, 1, none⟩ = some (.int .u64 a0_1) := (blk_cell BK237.out 1).trans rfl
   have hcz11_2 : w6.cell? ⟨gb237, 2, none⟩ = some (.int .u64 a0_2) := (blk_cell BK237.out 2).trans rfl
   have hcz11_3 : w6.cell? ⟨gb237, 3, none⟩ = some (.string a0_3) := (blk_cell BK237.out 3).trans rfl
   have hcz11_4 : w6.cell? ⟨gb237, 4, none⟩ = some (.string a0_4) := (blk_cell BK237.out 4).trans rfl
   have hfz11_0 := blk_frozen BK237.out 0
   have hfz11_1 := blk_frozen BK237.out 1
   have hfz11_2 := blk_frozen BK237.out 2
   have hfz11_3 := blk_frozen BK237.out 3
   have hfz11_4 := blk_frozen BK237.out 4
   go_wp2_with (first | ((with_reducible refine gate_callee (f := 14) rfl ?_); refine goesL_ (some 10) rfl rfl Tryd.func14 (by kernel_rfl) rfl #[.agg #[.int .u64 a0_0, .int .u64 a0_1, .int .u64 a0_2, .string a0_3, .string a0_4]] rfl (by (try simp only [List.map_toArray, List.map_cons, List.map_nil]); first | done | rfl | (simp only [List.length_drop, List.length_take]; rfl)) ?_; (with_reducible refine (laws_zzFits14.calls a0_0 a0_1 a0_2 a0_3 a0_4 true _ A7.out).mono ?_); rintro e w12 ⟨rfl, hb⟩; refine ⟨_, rfl, ?_⟩; have n0_ := Aside0.mk (blk_below (g := gb237) (o := .cells #[.int .u64 a0_0, .int .u64 a0_1, .int .u64 a0_2, .string a0_3, .string a0_4] 26 (0, 0)) (by (with_reducible repeat (first | refine blk_drewN ?_ _ | refine blk_drew ?_ | refine blk_alloc ?_ _)); exact BK237.out) hb); have n1_ := Aside0.mk (blk_below (g := gb238) (o := .cells #[.int .u64 a2_0, .int .u64 a2_1, .int .u64 a2_2, .string a2_3, .string a2_4] 26 (0, 0)) (by (with_reducible repeat (first | refine blk_drewN ?_ _ | refine blk_drew ?_ | refine blk_alloc ?_ _)); exact BK238.out) hb); have n2_ := Aside0.mk (below_step (by repeat (first | (with_reducible first | exact HB.out | apply below_alloc | apply pw_below_drewN | apply below_drew1 | refine below_set ?_ GE237.out | refine below_set ?_ GE238.out) | exact HB.out)) hb); clear BK237; clear BK238; clear HB; have BK237 := n0_; have BK238 := n1_; have HB := n2_; clear n0_ n1_ n2_; (try clear hb); (try clear hb2); (try clear hk); (try clear hi); have hcz13_0 : w12.cell? ⟨gb238, 0, none⟩ = some (.int .u64 a2_0) := (blk_cell BK238.out 0).trans rfl; have hcz13_1 : w12.cell? ⟨gb238, 1, none⟩ = some (.int .u64 a2_1) := (blk_cell BK238.out 1).trans rfl; have hcz13_2 : w12.cell? ⟨gb238, 2, none⟩ = some (.int .u64 a2_2) := (blk_cell BK238.out 2).trans rfl; have hcz13_3 : w12.cell? ⟨gb238, 3, none⟩ = some (.string a2_3) := (blk_cell BK238.out 3).trans rfl; have hcz13_4 : w12.cell? ⟨gb238, 4, none⟩ = some (.string a2_4) := (blk_cell BK238.out 4).trans rfl; have hfz13_0 := blk_frozen BK238.out 0; have hfz13_1 := blk_frozen BK238.out 1; have hfz13_2 := blk_frozen BK238.out 2; have hfz13_3 := blk_frozen BK238.out 3; have hfz13_4 := blk_frozen BK238.out 4) | (go_at_call 14; (with_reducible refine (laws_zzFits14.calls a2_0 a2_1 a2_2 a2_3 a2_4 t240 _ A9.out).mono ?_); rintro e w14 ⟨rfl, hb⟩; have n0_ := Aside0.mk (blk_below (g := gb237) (o := .cells #[.int .u64 a0_0, .int .u64 a0_1, .int .u64 a0_2, .string a0_3, .string a0_4] 26 (0, 0)) (by (with_reducible repeat (first | refine blk_drewN ?_ _ | refine blk_drew ?_ | refine blk_alloc ?_ _)); exact BK237.out) hb); have n1_ := Aside0.mk (blk_below (g := gb238) (o := .cells #[.int .u64 a2_0, .int .u64 a2_1, .int .u64 a2_2, .string a2_3, .string a2_4] 26 (0, 0)) (by (with_reducible repeat (first | refine blk_drewN ?_ _ | refine blk_drew ?_ | refine blk_alloc ?_ _)); exact BK238.out) hb); have n2_ := Aside0.mk (below_step (by repeat (first | (with_reducible first | exact HB.out | apply below_alloc | apply pw_below_drewN | apply below_drew1 | refine below_set ?_ GE237.out | refine below_set ?_ GE238.out) | exact HB.out)) hb); clear BK237; clear BK238; clear HB; have BK237 := n0_; have BK238 := n1_; have HB := n2_; clear n0_ n1_ n2_; (try clear hb); (try clear hb2); (try clear hk); (try clear hi)))
   go_meet
   case rel => exact ⟨_, (!t240), (by first | rfl | (simp; done) | (simp [*]; done)), H', ⟨by first | omega | exact Nat.le_refl _⟩, ⟨by (with_reducible repeat (first | refine blk_drewN ?_ _ | refine blk_drew ?_ | refine blk_alloc ?_ _)); exact BK237.out⟩, ⟨by (with_reducible repeat (first | refine blk_drewN ?_ _ | refine blk_drew ?_ | refine blk_alloc ?_ _)); exact BK238.out⟩, ⟨by repeat (first | (with_reducible first | exact HB.out | apply below_alloc | apply pw_below_drewN | apply below_drew1 | refine below_set ?_ GE237.out | refine below_set ?_ GE238.out) | exact HB.out)⟩⟩
  ·
   replace c8 := Bool.eq_false_iff.mpr c8
   subst c8
   have H1 : (laws_FnSemverTermTilde.j0 k a1 true a0_0 a0_1 a0_2 a0_3 a0_4 a2_0 a2_1 a2_2 a2_3 a2_4) = some r := by rw [if_neg (show ¬ (false = true) by decide)] at H; exact H
   clear H
   have H := H1
   clear H1
   have H' := Aside0.mk H
   clear H
   have hnb15 := NB237_238.out
   have hnc15 := NB238_237.out
   have hcz16_0 : w6.cell? ⟨gb237, 0, none⟩ = some (.int .u64 a0_0) := (blk_cell BK237.out 0).trans rfl
   have hcz16_1 : w6.cell? ⟨gb237, 1, none⟩ = some (.int .u64 a0_1) := (blk_cell BK237.out 1).trans rfl
   have hcz16_2 : w6.cell? ⟨gb237, 2, none⟩ = some (.int .u64 a0_2) := (blk_cell BK237.out 2).trans rfl
   have hcz16_3 : w6.cell? ⟨gb237, 3, none⟩ = some (.string a0_3) := (blk_cell BK237.out 3).trans rfl
   have hcz16_4 : w6.cell? ⟨gb237, 4, none⟩ = some (.string a0_4) := (blk_cell BK237.out 4).trans rfl
   have hfz16_0 := blk_frozen BK237.out 0
   have hfz16_1 := blk_frozen BK237.out 1
   have hfz16_2 := blk_frozen BK237.out 2
   have hfz16_3 := blk_frozen BK237.out 3
   have hfz16_4 := blk_frozen BK237.out 4
   go_wp2_with (first | ((with_reducible refine gate_callee (f := 14) rfl ?_); refine goesL_ (some 10) rfl rfl Tryd.func14 (by kernel_rfl) rfl #[.agg #[.int .u64 a0_0, .int .u64 a0_1, .int .u64 a0_2, .string a0_3, .string a0_4]] rfl (by (try simp only [List.map_toArray, List.map_cons, List.map_nil]); first | done | rfl | (simp only [List.length_drop, List.length_take]; rfl)) ?_; (with_reducible refine (laws_zzFits14.calls a0_0 a0_1 a0_2 a0_3 a0_4 false _ A7.out).mono ?_); rintro e w17 ⟨rfl, hb⟩; refine ⟨_, rfl, ?_⟩; have n0_ := Aside0.mk (blk_below (g := gb237) (o := .cells #[.int .u64 a0_0, .int .u64 a0_1, .int .u64 a0_2, .string a0_3, .string a0_4] 26 (0, 0)) (by (with_reducible repeat (first | refine blk_drewN ?_ _ | refine blk_drew ?_ | refine blk_alloc ?_ _)); exact BK237.out) hb); have n1_ := Aside0.mk (blk_below (g := gb238) (o := .cells #[.int .u64 a2_0, .int .u64 a2_1, .int .u64 a2_2, .string a2_3, .string a2_4] 26 (0, 0)) (by (with_reducible repeat (first | refine blk_drewN ?_ _ | refine blk_drew ?_ | refine blk_alloc ?_ _)); exact BK238.out) hb); have n2_ := Aside0.mk (below_step (by repeat (first | (with_reducible first | exact HB.out | apply below_alloc | apply pw_below_drewN | apply below_drew1 | refine below_set ?_ GE237.out | refine below_set ?_ GE238.out) | exact HB.out)) hb); clear BK237; clear BK238; clear HB; have BK237 := n0_; have BK238 := n1_; have HB := n2_; clear n0_ n1_ n2_; (try clear hb); (try clear hb2); (try clear hk); (try clear hi)))
   go_meet
   case rel => exact ⟨_, (true), (by first | rfl | (simp; done) | (simp [*]; done)), H', ⟨by first | omega | exact Nat.le_refl _⟩, ⟨by (with_reducible repeat (first | refine blk_drewN ?_ _ | refine blk_drew ?_ | refine blk_alloc ?_ _)); exact BK237.out⟩, ⟨by (with_reducible repeat (first | refine blk_drewN ?_ _ | refine blk_drew ?_ | refine blk_alloc ?_ _)); exact BK238.out⟩, ⟨by repeat (first | (with_reducible first | exact HB.out | apply below_alloc | apply pw_below_drewN | apply below_drew1 | refine below_set ?_ GE237.out | refine below_set ?_ GE238.out) | exact HB.out)⟩⟩
 case rest =>
  clear HC4
  try clear c1
  try clear p2
  try clear c4
  try clear c8
  try clear c10
  try clear c14
  try clear c15
  try clear hcz11_0
  try clear hcz11_1
  try clear hcz11_2
  try clear hcz11_3
  try clear hcz11_4
  try clear hcz13_0
  try clear hcz13_1
  try clear hcz13_2
  try clear hcz13_3
  try clear hcz13_4
  try clear hcz16_0
  try clear hcz16_1
  try clear hcz16_2
  try clear hcz16_3
  try clear hcz16_4
  try clear hfz11_0
  try clear hfz11_1
  try clear hfz11_2
  try clear hfz11_3
  try clear hfz11_4
  try clear hfz13_0
  try clear hfz13_1
  try clear hfz13_2
  try clear hfz13_3
  try clear hfz13_4
  try clear hfz16_0
  try clear hfz16_1
  try clear hfz16_2
  try clear hfz16_3
  try clear hfz16_4
  obtain ⟨kq, x16_3, rfl, HA, HJ3, BK237, BK238, HB⟩ := hcut
  cases kq with
  | zero => exact absurd HA.out (by simp [laws_FnSemverTermTilde.j0])
  | succ kj3 =>
   have H := HA.out
   clear HA
   simp only [laws_FnSemverTermTilde.j0] at H
   by_cases c18 : x16_3 = true
   ·
    subst c18
    have H1 : (some true) = some r := by rw [if_pos rfl] at H; exact H
    clear H
    have H := H1
    clear H1
    obtain rfl := Option.some.inj H
    go_wp2
    go_ret
    exact ⟨by first | rfl | (simp [errW_none, errW_some] <;> rfl) | (simp [*, errW_none, errW_some] <;> rfl) | (simp [bneNil]; done), by repeat (first | (with_reducible first | exact HB.out | apply below_alloc | apply pw_below_drewN | apply below_drew1 | refine below_set ?_ GE237.out | refine below_set ?_ GE238.out) | exact HB.out)⟩
   ·
    replace c18 := Bool.eq_false_iff.mpr c18
    subst c18
    have H1 : ((laws_stBare.f a0_0 a0_1 a0_2 a0_3 a0_4 a2_0 a2_1 a2_2 a2_3 a2_4 a1).bind fun bt241 => (if bt241.2.2.2.2.2.2.2.2.2.2 = true then (if a1 = 3 then ((laws_stZero.f bt241.1 bt241.2.1 bt241.2.2.1 bt241.2.2.2.1 bt241.2.2.2.2.1).bind fun t252 => (if t252 = true then (laws_FnSemverTermTilde.j1 kj3 a1 true bt241.1 bt241.2.1 bt241.2.2.1 bt241.2.2.2.1 bt241.2.2.2.2.1 bt241.2.2.2.2.2.1 bt241.2.2.2.2.2.2.1 bt241.2.2.2.2.2.2.2.1 bt241.2.2.2.2.2.2.2.2.1 bt241.2.2.2.2.2.2.2.2.2.1) else ((laws_scPlus.f bt241.1 bt241.2.1 bt241.2.2.1 bt241.2.2.2.1 bt241.2.2.2.2.1 (mn a1 2)).bind fun t253 => (laws_FnSemverTermTilde.j1 kj3 a1 (!t253) bt241.1 bt241.2.1 bt241.2.2.1 bt241.2.2.2.1 bt241.2.2.2.2.1 bt241.2.2.2.2.2.1 bt241.2.2.2.2.2.2.1 bt241.2.2.2.2.2.2.2.1 bt241.2.2.2.2.2.2.2.2.1 bt241.2.2.2.2.2.2.2.2.2.1)))) else ((laws_scPlus.f bt241.1 bt241.2.1 bt241.2.2.1 bt241.2.2.2.1 bt241.2.2.2.2.1 (mn a1 2)).bind fun t254 => (laws_FnSemverTermTilde.j1 kj3 a1 (!t254) bt241.1 bt241.2.1 bt241.2.2.1 bt241.2.2.2.1 bt241.2.2.2.2.1 bt241.2.2.2.2.2.1 bt241.2.2.2.2.2.2.1 bt241.2.2.2.2.2.2.2.1 bt241.2.2.2.2.2.2.2.2.1 bt241.2.2.2.2.2.2.2.2.2.1))) else (laws_FnSemverTermTilde.j1 kj3 a1 true bt241.1 bt241.2.1 bt241.2.2.1 bt241.2.2.2.1 bt241.2.2.2.2.1 bt241.2.2.2.2.2.1 bt241.2.2.2.2.2.2.1 bt241.2.2.2.2.2.2.2.1 bt241.2.2.2.2.2.2.2.2.1 bt241.2.2.2.2.2.2.2.2.2.1))) = some r := by rw [if_neg (show ¬ (false = true) by decide)] at H; exact H
    clear H
    have H := H1
    clear H1
    replace H := Option.bind_eq_some_iff.mp H
    obtain ⟨⟨t241, t242, t243, t244, t245, t246, t247, t248, t249, t250, t251⟩, A190, H⟩ := H
    replace H : (if t251 = true then (if a1 = 3 then ((laws_stZero.f t241 t242 t243 t244 t245).bind fun t252 => (if t252 = true then (laws_FnSemverTermTilde.j1 kj3 a1 true t241 t242 t243 t244 t245 t246 t247 t248 t249 t250) else ((laws_scPlus.f t241 t242 t243 t244 t245 (mn a1 2)).bind fun t253 => (laws_FnSemverTermTilde.j1 kj3 a1 (!t253) t241 t242 t243 t244 t245 t246 t247 t248 t249 t250)))) else ((laws_scPlus.f t241 t242 t243 t244 t245 (mn a1 2)).bind fun t254 => (laws_FnSemverTermTilde.j1 kj3 a1 (!t254) t241 t242 t243 t244 t245 t246 t247 t248 t249 t250))) else (laws_FnSemverTermTilde.j1 kj3 a1 true t241 t242 t243 t244 t245 t246 t247 t248 t249 t250)) = some r := H
    have A19 := Aside0.mk A190
    clear A190
    have HC20 := Aside0.mk H
    clear H
    have hnb21 := NB237_238.out
    have hnc21 := NB238_237.out
    have hcz22_0 : wc.cell? ⟨gb237, 0, none⟩ = some (.int .u64 a0_0) := (blk_cell BK237.out 0).trans rfl
    have hcz22_1 : wc.cell? ⟨gb237, 1, none⟩ = some (.int .u64 a0_1) := (blk_cell BK237.out 1).trans rfl
    have hcz22_2 : wc.cell? ⟨gb237, 2, none⟩ = some (.int .u64 a0_2) := (blk_cell BK237.out 2).trans rfl
    have hcz22_3 : wc.cell? ⟨gb237, 3, none⟩ = some (.string a0_3) := (blk_cell BK237.out 3).trans rfl
    have hcz22_4 : wc.cell? ⟨gb237, 4, none⟩ = some (.string a0_4) := (blk_cell BK237.out 4).trans rfl
    have hfz22_0 := blk_frozen BK237.out 0
    have hfz22_1 := blk_frozen BK237.out 1
    have hfz22_2 := blk_frozen BK237.out 2
    have hfz22_3 := blk_frozen BK237.out 3
    have hfz22_4 := blk_frozen BK237.out 4
    have hcz23_0 : wc.cell? ⟨gb238, 0, none⟩ = some (.int .u64 a2_0) := (blk_cell BK238.out 0).trans rfl
    have hcz23_1 : wc.cell? ⟨gb238, 1, none⟩ = some (.int .u64 a2_1) := (blk_cell BK238.out 1).trans rfl
    have hcz23_2 : wc.cell? ⟨gb238, 2, none⟩ = some (.int .u64 a2_2) := (blk_cell BK238.out 2).trans rfl
    have hcz23_3 : wc.cell? ⟨gb238, 3, none⟩ = some (.string a2_3) := (blk_cell BK238.out 3).trans rfl
    have hcz23_4 : wc.cell? ⟨gb238, 4, none⟩ = some (.string a2_4) := (blk_cell BK238.out 4).trans rfl
    have hfz23_0 := blk_frozen BK238.out 0
    have hfz23_1 := blk_frozen BK238.out 1
    have hfz23_2 := blk_frozen BK238.out 2
    have hfz23_3 := blk_frozen BK238.out 3
    have hfz23_4 := blk_frozen BK238.out 4
    go_upto_region 4 with (first | ((with_reducible refine gate_callee (f := 20) rfl ?_); refine goesL_ (some 21) rfl rfl Tryd.func20 (by kernel_rfl) rfl #[.agg #[.int .u64 a0_0, .int .u64 a0_1, .int .u64 a0_2, .string a0_3, .string a0_4], .agg #[.int .u64 a2_0, .int .u64 a2_1, .int .u64 a2_2, .string a2_3, .string a2_4], .int .i64 a1] rfl (by (try simp only [List.map_toArray, List.map_cons, List.map_nil]); first | done | rfl | (simp only [List.length_drop, List.length_take]; rfl)) ?_; (with_reducible refine (laws_stBare.calls a0_0 a0_1 a0_2 a0_3 a0_4 a2_0 a2_1 a2_2 a2_3 a2_4 a1 t241 t242 t243 t244 t245 t246 t247 t248 t249 t250 t251 _ A19.out).mono ?_); rintro e w24 ⟨rfl, hb⟩; refine ⟨_, rfl, ?_⟩; have n0_ := Aside0.mk (blk_below (g := gb237) (o := .cells #[.int .u64 a0_0, .int .u64 a0_1, .int .u64 a0_2, .string a0_3, .string a0_4] 26 (0, 0)) (by (with_reducible repeat (first | refine blk_drewN ?_ _ | refine blk_drew ?_ | refine blk_alloc ?_ _)); exact BK237.out) hb); have n1_ := Aside0.mk (blk_below (g := gb238) (o := .cells #[.int .u64 a2_0, .int .u64 a2_1, .int .u64 a2_2, .string a2_3, .string a2_4] 26 (0, 0)) (by (with_reducible repeat (first | refine blk_drewN ?_ _ | refine blk_drew ?_ | refine blk_alloc ?_ _)); exact BK238.out) hb); have n2_ := Aside0.mk (below_step (by repeat (first | (with_reducible first | exact HB.out | apply below_alloc | apply pw_below_drewN | apply below_drew1 | refine below_set ?_ GE237.out | refine below_set ?_ GE238.out) | exact HB.out)) hb); clear BK237; clear BK238; clear HB; have BK237 := n0_; have BK238 := n1_; have HB := n2_; clear n0_ n1_ n2_; (try clear hb); (try clear hb2); (try clear hk); (try clear hi); have hcz25_0 : w24.cell? ⟨gb237, 0, none⟩ = some (.int .u64 a0_0) := (blk_cell BK237.out 0).trans rfl; have hcz25_1 : w24.cell? ⟨gb237, 1, none⟩ = some (.int .u64 a0_1) := (blk_cell BK237.out 1).trans rfl; have hcz25_2 : w24.cell? ⟨gb237, 2, none⟩ = some (.int .u64 a0_2) := (blk_cell BK237.out 2).trans rfl; have hcz25_3 : w24.cell? ⟨gb237, 3, none⟩ = some (.string a0_3) := (blk_cell BK237.out 3).trans rfl; have hcz25_4 : w24.cell? ⟨gb237, 4, none⟩ = some (.string a0_4) := (blk_cell BK237.out 4).trans rfl; have hfz25_0 := blk_frozen BK237.out 0; have hfz25_1 := blk_frozen BK237.out 1; have hfz25_2 := blk_frozen BK237.out 2; have hfz25_3 := blk_frozen BK237.out 3; have hfz25_4 := blk_frozen BK237.out 4; have hcz26_0 : w24.cell? ⟨gb238, 0, none⟩ = some (.int .u64 a2_0) := (blk_cell BK238.out 0).trans rfl; have hcz26_1 : w24.cell? ⟨gb238, 1, none⟩ = some (.int .u64 a2_1) := (blk_cell BK238.out 1).trans rfl; have hcz26_2 : w24.cell? ⟨gb238, 2, none⟩ = some (.int .u64 a2_2) := (blk_cell BK238.out 2).trans rfl; have hcz26_3 : w24.cell? ⟨gb238, 3, none⟩ = some (.string a2_3) := (blk_cell BK238.out 3).trans rfl; have hcz26_4 : w24.cell? ⟨gb238, 4, none⟩ = some (.string a2_4) := (blk_cell BK238.out 4).trans rfl; have hfz26_0 := blk_frozen BK238.out 0; have hfz26_1 := blk_frozen BK238.out 1; have hfz26_2 := blk_frozen BK238.out 2; have hfz26_3 := blk_frozen BK238.out 3; have hfz26_4 := blk_frozen BK238.out 4))
    (try simp only [Act.put, List.setIfInBounds_toArray, List.set_cons_zero, List.set_cons_succ])
    go_cut [41] (fun v41 wc => ∃ (kq : Nat) (x41_19 : Bool), v41 = .bool x41_19 ∧ Aside0 (laws_FnSemverTermTilde.j1 kq a1 x41_19 t241 t242 t243 t244 t245 t246 t247 t248 t249 t250 = some r) ∧ Aside0 (kq ≤ kj3) ∧ Aside0 (wc.heap[gb237]? = some (.cells #[.int .u64 t241, .int .u64 t242, .int .u64 t243, .string t244, .string t245] 26 (0, 0))) ∧ Aside0 (wc.heap[gb238]? = some (.cells #[.int .u64 t246, .int .u64 t247, .int .u64 t248, .string t249, .string t250] 26 (0, 0))) ∧ Aside0 (Below w.heap.size w wc))
    case first =>
     have H := HC20.out
     clear HC20
     by_cases c27 : t251 = true
     ·
      subst c27
      have H1 : (if a1 = 3 then ((laws_stZero.f t241 t242 t243 t244 t245).bind fun t252 => (if t252 = true then (laws_FnSemverTermTilde.j1 kj3 a1 true t241 t242 t243 t244 t245 t246 t247 t248 t249 t250) else ((laws_scPlus.f t241 t242 t243 t244 t245 (mn a1 2)).bind fun t253 => (laws_FnSemverTermTilde.j1 kj3 a1 (!t253) t241 t242 t243 t244 t245 t246 t247 t248 t249 t250)))) else ((laws_scPlus.f t241 t242 t243 t244 t245 (mn a1 2)).bind fun t254 => (laws_FnSemverTermTilde.j1 kj3 a1 (!t254) t241 t242 t243 t244 t245 t246 t247 t248 t249 t250))) = some r := by rw [if_pos rfl] at H; exact H
      clear H
      have H := H1
      clear H1
      by_cases c28 : a1 = 3
      ·
       rw [if_pos c28] at H
       have c28b0 : (a1 == 3) = true := beq_iff_eq.mpr c28
       have c28b1 : (a1 != 3) = false := bne_eq_false_iff_eq.mpr c28
       clear c28
       (first | rw [c28b0] | (simp only [i64_w, i32_w]; rw [c28b0]) | skip)
       replace H := Option.bind_eq_some_iff.mp H
       obtain ⟨t252, A290, H⟩ := H
       replace H : (if t252 = true then (laws_FnSemverTermTilde.j1 kj3 a1 true t241 t242 t243 t244 t245 t246 t247 t248 t249 t250) else ((laws_scPlus.f t241 t242 t243 t244 t245 (mn a1 2)).bind fun t253 => (laws_FnSemverTermTilde.j1 kj3 a1 (!t253) t241 t242 t243 t244 t245 t246 t247 t248 t249 t250))) = some r := H
       have A29 := Aside0.mk A290
       clear A290
       by_cases c30 : t252 = true
       ·
        subst c30
        have H1 : (laws_FnSemverTermTilde.j1 kj3 a1 true t241 t242 t243 t244 t245 t246 t247 t248 t249 t250) = some r := by rw [if_pos rfl] at H; exact H
        clear H
        have H := H1
        clear H1
        have H' := Aside0.mk H
        clear H
        have hnb31 := NB237_238.out
        have hnc31 := NB238_237.out
        have hcz32_0 : w24.cell? ⟨gb237, 0, none⟩ = some (.int .u64 a0_0) := (blk_cell BK237.out 0).trans rfl
        have hcz32_1 : w24.cell? ⟨gb237, 1, none⟩ = some (.int .u64 a0_1) := (blk_cell BK237.out 1).trans rfl
        have hcz32_2 : w24.cell? ⟨gb237, 2, none⟩ = some (.int .u64 a0_2) := (blk_cell BK237.out 2).trans rfl
        have hcz32_3 : w24.cell? ⟨gb237, 3, none⟩ = some (.string a0_3) := (blk_cell BK237.out 3).trans rfl
        have hcz32_4 : w24.cell? ⟨gb237, 4, none⟩ = some (.string a0_4) := (blk_cell BK237.out 4).trans rfl
        have hfz32_0 := blk_frozen BK237.out 0
        have hfz32_1 := blk_frozen BK237.out 1
        have hfz32_2 := blk_frozen BK237.out 2
        have hfz32_3 := blk_frozen BK237.out 3
        have hfz32_4 := blk_frozen BK237.out 4
        go_wp2_with (first | (go_at_call 21; (with_reducible refine (laws_stZero.calls t241 t242 t243 t244 t245 true _ A29.out).mono ?_); rintro e w33 ⟨rfl, hb⟩; have n0_ := Aside0.mk (blk_below (g := gb237) (o := .cells #[.int .u64 t241, .int .u64 t242, .int .u64 t243, .string t244, .string t245] 26 (0, 0)) (by (with_reducible repeat (first | refine blk_drewN ?_ _ | refine blk_drew ?_ | refine blk_alloc ?_ _)); refine blk_far ?_ NB237_238.out _; (with_reducible repeat (first | refine blk_drewN ?_ _ | refine blk_drew ?_ | refine blk_alloc ?_ _)); refine blk_far ?_ NB237_238.out _; (with_reducible repeat (first | refine blk_drewN ?_ _ | refine blk_drew ?_ | refine blk_alloc ?_ _)); refine blk_far ?_ NB237_238.out _; (with_reducible repeat (first | refine blk_drewN ?_ _ | refine blk_drew ?_ | refine blk_alloc ?_ _)); refine blk_far ?_ NB237_238.out _; (with_reducible repeat (first | refine blk_drewN ?_ _ | refine blk_drew ?_ | refine blk_alloc ?_ _)); refine blk_far ?_ NB237_238.out _; (with_reducible repeat (first | refine blk_drewN ?_ _ | refine blk_drew ?_ | refine blk_alloc ?_ _)); refine blk_put (cs := #[.int .u64 t241, .int .u64 t242, .int .u64 t243, .string t244, .string a0_4]) ?_ 4 _ rfl; (with_reducible repeat (first | refine blk_drewN ?_ _ | refine blk_drew ?_ | refine blk_alloc ?_ _)); refine blk_put (cs := #[.int .u64 t241, .int .u64 t242, .int .u64 t243, .string a0_3, .string a0_4]) ?_ 3 _ rfl; (with_reducible repeat (first | refine blk_drewN ?_ _ | refine blk_drew ?_ | refine blk_alloc ?_ _)); refine blk_put (cs := #[.int .u64 t241, .int .u64 t242, .int .u64 a0_2, .string a0_3, .string a0_4]) ?_ 2 _ rfl; (with_reducible repeat (first | refine blk_drewN ?_ _ | refine blk_drew ?_ | refine blk_alloc ?_ _)); refine blk_put (cs := #[.int .u64 t241, .int .u64 a0_1, .int .u64 a0_2, .string a0_3, .string a0_4]) ?_ 1 _ rfl; (with_reducible repeat (first | refine blk_drewN ?_ _ | refine blk_drew ?_ | refine blk_alloc ?_ _)); refine blk_put (cs := #[.int .u64 a0_0, .int .u64 a0_1, .int .u64 a0_2, .string a0_3, .string a0_4]) ?_ 0 _ rfl; (with_reducible repeat (first | refine blk_drewN ?_ _ | refine blk_drew ?_ | refine blk_alloc ?_ _)); exact BK237.out) hb); have n1_ := Aside0.mk (blk_below (g := gb238) (o := .cells #[.int .u64 t246, .int .u64 t247, .int .u64 t248, .string t249, .string t250] 26 (0, 0)) (by (with_reducible repeat (first | refine blk_drewN ?_ _ | refine blk_drew ?_ | refine blk_alloc ?_ _)); refine blk_put (cs := #[.int .u64 t246, .int .u64 t247, .int .u64 t248, .string t249, .string a2_4]) ?_ 4 _ rfl; (with_reducible repeat (first | refine blk_drewN ?_ _ | refine blk_drew ?_ | refine blk_alloc ?_ _)); refine blk_put (cs := #[.int .u64 t246, .int .u64 t247, .int .u64 t248, .string a2_3, .string a2_4]) ?_ 3 _ rfl; (with_reducible repeat (first | refine blk_drewN ?_ _ | refine blk_drew ?_ | refine blk_alloc ?_ _)); refine blk_put (cs := #[.int .u64 t246, .int .u64 t247, .int .u64 a2_2, .string a2_3, .string a2_4]) ?_ 2 _ rfl; (with_reducible repeat (first | refine blk_drewN ?_ _ | refine blk_drew ?_ | refine blk_alloc ?_ _)); refine blk_put (cs := #[.int .u64 t246, .int .u64 a2_1, .int .u64 a2_2, .string a2_3, .string a2_4]) ?_ 1 _ rfl; (with_reducible repeat (first | refine blk_drewN ?_ _ | refine blk_drew ?_ | refine blk_alloc ?_ _)); refine blk_put (cs := #[.int .u64 a2_0, .int .u64 a2_1, .int .u64 a2_2, .string a2_3, .string a2_4]) ?_ 0 _ rfl; (with_reducible repeat (first | refine blk_drewN ?_ _ | refine blk_drew ?_ | refine blk_alloc ?_ _)); refine blk_far ?_ NB238_237.out _; (with_reducible repeat (first | refine blk_drewN ?_ _ | refine blk_drew ?_ | refine blk_alloc ?_ _)); refine blk_far ?_ NB238_237.out _; (with_reducible repeat (first | refine blk_drewN ?_ _ | refine blk_drew ?_ | refine blk_alloc ?_ _)); refine blk_far ?_ NB238_237.out _; (with_reducible repeat (first | refine blk_drewN ?_ _ | refine blk_drew ?_ | refine blk_alloc ?_ _)); refine blk_far ?_ NB238_237.out _; (with_reducible repeat (first | refine blk_drewN ?_ _ | refine blk_drew ?_ | refine blk_alloc ?_ _)); refine blk_far ?_ NB238_237.out _; (with_reducible repeat (first | refine blk_drewN ?_ _ | refine blk_drew ?_ | refine blk_alloc ?_ _)); exact BK238.out) hb); have n2_ := Aside0.mk (below_step (by repeat (first | (with_reducible first | exact HB.out | apply below_alloc | apply pw_below_drewN | apply below_drew1 | refine below_set ?_ GE237.out | refine below_set ?_ GE238.out) | exact HB.out)) hb); clear BK237; clear BK238; clear HB; have BK237 := n0_; have BK238 := n1_; have HB := n2_; clear n0_ n1_ n2_; (try clear hb); (try clear hb2); (try clear hk); (try clear hi)))
        go_meet
        case rel => exact ⟨_, (true), (by first | rfl | (simp; done) | (simp [*]; done)), H', ⟨by have := HJ3.out; first | omega | exact Nat.le_refl _⟩, ⟨by (with_reducible repeat (first | refine blk_drewN ?_ _ | refine blk_drew ?_ | refine blk_alloc ?_ _)); exact BK237.out⟩, ⟨by (with_reducible repeat (first | refine blk_drewN ?_ _ | refine blk_drew ?_ | refine blk_alloc ?_ _)); exact BK238.out⟩, ⟨by repeat (first | (with_reducible first | exact HB.out | apply below_alloc | apply pw_below_drewN | apply below_drew1 | refine below_set ?_ GE237.out | refine below_set ?_ GE238.out) | exact HB.out)⟩⟩
       ·
        replace c30 := Bool.eq_false_iff.mpr c30
        subst c30
        have H1 : ((laws_scPlus.f t241 t242 t243 t244 t245 (mn a1 2)).bind fun t253 => (laws_FnSemverTermTilde.j1 kj3 a1 (!t253) t241 t242 t243 t244 t245 t246 t247 t248 t249 t250)) = some r := by rw [if_neg (show ¬ (false = true) by decide)] at H; exact H
        clear H
        have H := H1
        clear H1
        obtain ⟨ji34, hji34⟩ : ∃ j_ : Int, (mn a1 2) = j_ := ⟨_, rfl⟩
        replace H : ((laws_scPlus.f t241 t242 t243 t244 t245 (ji34)).bind fun t253 => (laws_FnSemverTermTilde.j1 kj3 a1 (!t253) t241 t242 t243 t244 t245 t246 t247 t248 t249 t250)) = some r := by first | (rw [hji34] at H; exact H) | (simp only [hji34] at H ⊢; exact H)
        (try rw [hji34] at A29)
        have hji34_ : (if 2 < a1 then 2 else a1) = ji34 := hji34
        replace H := Option.bind_eq_some_iff.mp H
        obtain ⟨t253, A350, H⟩ := H
        replace H : (laws_FnSemverTermTilde.j1 kj3 a1 (!t253) t241 t242 t243 t244 t245 t246 t247 t248 t249 t250) = some r := H
        have A35 := Aside0.mk A350
        clear A350
        have H' := Aside0.mk H
        clear H
        have hnb36 := NB237_238.out
        have hnc36 := NB238_237.out
        have hcz37_0 : w24.cell? ⟨gb237, 0, none⟩ = some (.int .u64 a0_0) := (blk_cell BK237.out 0).trans rfl
        have hcz37_1 : w24.cell? ⟨gb237, 1, none⟩ = some (.int .u64 a0_1) := (blk_cell BK237.out 1).trans rfl
        have hcz37_2 : w24.cell? ⟨gb237, 2, none⟩ = some (.int .u64 a0_2) := (blk_cell BK237.out 2).trans rfl
        have hcz37_3 : w24.cell? ⟨gb237, 3, none⟩ = some (.string a0_3) := (blk_cell BK237.out 3).trans rfl
        have hcz37_4 : w24.cell? ⟨gb237, 4, none⟩ = some (.string a0_4) := (blk_cell BK237.out 4).trans rfl
        have hfz37_0 := blk_frozen BK237.out 0
        have hfz37_1 := blk_frozen BK237.out 1
        have hfz37_2 := blk_frozen BK237.out 2
        have hfz37_3 := blk_frozen BK237.out 3
        have hfz37_4 := blk_frozen BK237.out 4
        go_wp2_with (first | (go_at_call 21; (with_reducible refine (laws_stZero.calls t241 t242 t243 t244 t245 false _ A29.out).mono ?_); rintro e w38 ⟨rfl, hb⟩; have n0_ := Aside0.mk (blk_below (g := gb237) (o := .cells #[.int .u64 t241, .int .u64 t242, .int .u64 t243, .string t244, .string t245] 26 (0, 0)) (by (with_reducible repeat (first | refine blk_drewN ?_ _ | refine blk_drew ?_ | refine blk_alloc ?_ _)); refine blk_far ?_ NB237_238.out _; (with_reducible repeat (first | refine blk_drewN ?_ _ | refine blk_drew ?_ | refine blk_alloc ?_ _)); refine blk_far ?_ NB237_238.out _; (with_reducible repeat (first | refine blk_drewN ?_ _ | refine blk_drew ?_ | refine blk_alloc ?_ _)); refine blk_far ?_ NB237_238.out _; (with_reducible repeat (first | refine blk_drewN ?_ _ | refine blk_drew ?_ | refine blk_alloc ?_ _)); refine blk_far ?_ NB237_238.out _; (with_reducible repeat (first | refine blk_drewN ?_ _ | refine blk_drew ?_ | refine blk_alloc ?_ _)); refine blk_far ?_ NB237_238.out _; (with_reducible repeat (first | refine blk_drewN ?_ _ | refine blk_drew ?_ | refine blk_alloc ?_ _)); refine blk_put (cs := #[.int .u64 t241, .int .u64 t242, .int .u64 t243, .string t244, .string a0_4]) ?_ 4 _ rfl; (with_reducible repeat (first | refine blk_drewN ?_ _ | refine blk_drew ?_ | refine blk_alloc ?_ _)); refine blk_put (cs := #[.int .u64 t241, .int .u64 t242, .int .u64 t243, .string a0_3, .string a0_4]) ?_ 3 _ rfl; (with_reducible repeat (first | refine blk_drewN ?_ _ | refine blk_drew ?_ | refine blk_alloc ?_ _)); refine blk_put (cs := #[.int .u64 t241, .int .u64 t242, .int .u64 a0_2, .string a0_3, .string a0_4]) ?_ 2 _ rfl; (with_reducible repeat (first | refine blk_drewN ?_ _ | refine blk_drew ?_ | refine blk_alloc ?_ _)); refine blk_put (cs := #[.int .u64 t241, .int .u64 a0_1, .int .u64 a0_2, .string a0_3, .string a0_4]) ?_ 1 _ rfl; (with_reducible repeat (first | refine blk_drewN ?_ _ | refine blk_drew ?_ | refine blk_alloc ?_ _)); refine blk_put (cs := #[.int .u64 a0_0, .int .u64 a0_1, .int .u64 a0_2, .string a0_3, .string a0_4]) ?_ 0 _ rfl; (with_reducible repeat (first | refine blk_drewN ?_ _ | refine blk_drew ?_ | refine blk_alloc ?_ _)); exact BK237.out) hb); have n1_ := Aside0.mk (blk_below (g := gb238) (o := .cells #[.int .u64 t246, .int .u64 t247, .int .u64 t248, .string t249, .string t250] 26 (0, 0)) (by (with_reducible repeat (first | refine blk_drewN ?_ _ | refine blk_drew ?_ | refine blk_alloc ?_ _)); refine blk_put (cs := #[.int .u64 t246, .int .u64 t247, .int .u64 t248, .string t249, .string a2_4]) ?_ 4 _ rfl; (with_reducible repeat (first | refine blk_drewN ?_ _ | refine blk_drew ?_ | refine blk_alloc ?_ _)); refine blk_put (cs := #[.int .u64 t246, .int .u64 t247, .int .u64 t248, .string a2_3, .string a2_4]) ?_ 3 _ rfl; (with_reducible repeat (first | refine blk_drewN ?_ _ | refine blk_drew ?_ | refine blk_alloc ?_ _)); refine blk_put (cs := #[.int .u64 t246, .int .u64 t247, .int .u64 a2_2, .string a2_3, .string a2_4]) ?_ 2 _ rfl; (with_reducible repeat (first | refine blk_drewN ?_ _ | refine blk_drew ?_ | refine blk_alloc ?_ _)); refine blk_put (cs := #[.int .u64 t246, .int .u64 a2_1, .int .u64 a2_2, .string a2_3, .string a2_4]) ?_ 1 _ rfl; (with_reducible repeat (first | refine blk_drewN ?_ _ | refine blk_drew ?_ | refine blk_alloc ?_ _)); refine blk_put (cs := #[.int .u64 a2_0, .int .u64 a2_1, .int .u64 a2_2, .string a2_3, .string a2_4]) ?_ 0 _ rfl; (with_reducible repeat (first | refine blk_drewN ?_ _ | refine blk_drew ?_ | refine blk_alloc ?_ _)); refine blk_far ?_ NB238_237.out _; (with_reducible repeat (first | refine blk_drewN ?_ _ | refine blk_drew ?_ | refine blk_alloc ?_ _)); refine blk_far ?_ NB238_237.out _; (with_reducible repeat (first | refine blk_drewN ?_ _ | refine blk_drew ?_ | refine blk_alloc ?_ _)); refine blk_far ?_ NB238_237.out _; (with_reducible repeat (first | refine blk_drewN ?_ _ | refine blk_drew ?_ | refine blk_alloc ?_ _)); refine blk_far ?_ NB238_237.out _; (with_reducible repeat (first | refine blk_drewN ?_ _ | refine blk_drew ?_ | refine blk_alloc ?_ _)); refine blk_far ?_ NB238_237.out _; (with_reducible repeat (first | refine blk_drewN ?_ _ | refine blk_drew ?_ | refine blk_alloc ?_ _)); exact BK238.out) hb); have n2_ := Aside0.mk (below_step (by repeat (first | (with_reducible first | exact HB.out | apply below_alloc | apply pw_below_drewN | apply below_drew1 | refine below_set ?_ GE237.out | refine below_set ?_ GE238.out) | exact HB.out)) hb); clear BK237; clear BK238; clear HB; have BK237 := n0_; have BK238 := n1_; have HB := n2_; clear n0_ n1_ n2_; (try clear hb); (try clear hb2); (try clear hk); (try clear hi); have hcz39_0 : w38.cell? ⟨gb237, 0, none⟩ = some (.int .u64 t241) := (blk_cell BK237.out 0).trans rfl; have hcz39_1 : w38.cell? ⟨gb237, 1, none⟩ = some (.int .u64 t242) := (blk_cell BK237.out 1).trans rfl; have hcz39_2 : w38.cell? ⟨gb237, 2, none⟩ = some (.int .u64 t243) := (blk_cell BK237.out 2).trans rfl; have hcz39_3 : w38.cell? ⟨gb237, 3, none⟩ = some (.string t244) := (blk_cell BK237.out 3).trans rfl; have hcz39_4 : w38.cell? ⟨gb237, 4, none⟩ = some (.string t245) := (blk_cell BK237.out 4).trans rfl; have hfz39_0 := blk_frozen BK237.out 0; have hfz39_1 := blk_frozen BK237.out 1; have hfz39_2 := blk_frozen BK237.out 2; have hfz39_3 := blk_frozen BK237.out 3; have hfz39_4 := blk_frozen BK237.out 4) | (go_at_call 22; (with_reducible refine (laws_scPlus.calls t241 t242 t243 t244 t245 ji34 t253 _ A35.out).mono ?_); rintro e w40 ⟨rfl, hb⟩; have n0_ := Aside0.mk (blk_below (g := gb237) (o := .cells #[.int .u64 t241, .int .u64 t242, .int .u64 t243, .string t244, .string t245] 26 (0, 0)) (by (with_reducible repeat (first | refine blk_drewN ?_ _ | refine blk_drew ?_ | refine blk_alloc ?_ _)); exact BK237.out) hb); have n1_ := Aside0.mk (blk_below (g := gb238) (o := .cells #[.int .u64 t246, .int .u64 t247, .int .u64 t248, .string t249, .string t250] 26 (0, 0)) (by (with_reducible repeat (first | refine blk_drewN ?_ _ | refine blk_drew ?_ | refine blk_alloc ?_ _)); exact BK238.out) hb); have n2_ := Aside0.mk (below_step (by repeat (first | (with_reducible first | exact HB.out | apply below_alloc | apply pw_below_drewN | apply below_drew1 | refine below_set ?_ GE237.out | refine below_set ?_ GE238.out) | exact HB.out)) hb); clear BK237; clear BK238; clear HB; have BK237 := n0_; have BK238 := n1_; have HB := n2_; clear n0_ n1_ n2_; (try clear hb); (try clear hb2); (try clear hk); (try clear hi)))
        go_meet
        case rel => exact ⟨_, (!t253), (by first | rfl | (simp; done) | (simp [*]; done)), H', ⟨by have := HJ3.out; first | omega | exact Nat.le_refl _⟩, ⟨by (with_reducible repeat (first | refine blk_drewN ?_ _ | refine blk_drew ?_ | refine blk_alloc ?_ _)); exact BK237.out⟩, ⟨by (with_reducible repeat (first | refine blk_drewN ?_ _ | refine blk_drew ?_ | refine blk_alloc ?_ _)); exact BK238.out⟩, ⟨by repeat (first | (with_reducible first | exact HB.out | apply below_alloc | apply pw_below_drewN | apply below_drew1 | refine below_set ?_ GE237.out | refine below_set ?_ GE238.out) | exact HB.out)⟩⟩
      ·
       rw [if_neg c28] at H
       have c28b0 : (a1 == 3) = false := beq_eq_false_iff_ne.mpr c28
       have c28b1 : (a1 != 3) = true := bne_iff_ne.mpr c28
       (first | rw [c28b0] | (simp only [i64_w, i32_w]; rw [c28b0]) | skip)
       obtain ⟨ji41, hji41⟩ : ∃ j_ : Int, (mn a1 2) = j_ := ⟨_, rfl⟩
       replace H : ((laws_scPlus.f t241 t242 t243 t244 t245 (ji41)).bind fun t254 => (laws_FnSemverTermTilde.j1 kj3 a1 (!t254) t241 t242 t243 t244 t245 t246 t247 t248 t249 t250)) = some r := by first | (rw [hji41] at H; exact H) | (simp only [hji41] at H ⊢; exact H)
       have hji41_ : (if 2 < a1 then 2 else a1) = ji41 := hji41
       replace H := Option.bind_eq_some_iff.mp H
       obtain ⟨t254, A420, H⟩ := H
       replace H : (laws_FnSemverTermTilde.j1 kj3 a1 (!t254) t241 t242 t243 t244 t245 t246 t247 t248 t249 t250) = some r := H
       have A42 := Aside0.mk A420
       clear A420
       have H' := Aside0.mk H
       clear H
       have hnb43 := NB237_238.out
       have hnc43 := NB238_237.out
       have hcz44_0 : w24.cell? ⟨gb237, 0, none⟩ = some (.int .u64 a0_0) := (blk_cell BK237.out 0).trans rfl
       have hcz44_1 : w24.cell? ⟨gb237, 1, none⟩ = some (.int .u64 a0_1) := (blk_cell BK237.out 1).trans rfl
       have hcz44_2 : w24.cell? ⟨gb237, 2, none⟩ = some (.int .u64 a0_2) := (blk_cell BK237.out 2).trans rfl
       have hcz44_3 : w24.cell? ⟨gb237, 3, none⟩ = some (.string a0_3) := (blk_cell BK237.out 3).trans rfl
       have hcz44_4 : w24.cell? ⟨gb237, 4, none⟩ = some (.string a0_4) := (blk_cell BK237.out 4).trans rfl
       have hfz44_0 := blk_frozen BK237.out 0
       have hfz44_1 := blk_frozen BK237.out 1
       have hfz44_2 := blk_frozen BK237.out 2
       have hfz44_3 := blk_frozen BK237.out 3
       have hfz44_4 := blk_frozen BK237.out 4
       go_wp2_with (first | (go_at_call 22; (with_reducible refine (laws_scPlus.calls t241 t242 t243 t244 t245 ji41 t254 _ A42.out).mono ?_); rintro e w45 ⟨rfl, hb⟩; have n0_ := Aside0.mk (blk_below (g := gb237) (o := .cells #[.int .u64 t241, .int .u64 t242, .int .u64 t243, .string t244, .string t245] 26 (0, 0)) (by (with_reducible repeat (first | refine blk_drewN ?_ _ | refine blk_drew ?_ | refine blk_alloc ?_ _)); refine blk_far ?_ NB237_238.out _; (with_reducible repeat (first | refine blk_drewN ?_ _ | refine blk_drew ?_ | refine blk_alloc ?_ _)); refine blk_far ?_ NB237_238.out _; (with_reducible repeat (first | refine blk_drewN ?_ _ | refine blk_drew ?_ | refine blk_alloc ?_ _)); refine blk_far ?_ NB237_238.out _; (with_reducible repeat (first | refine blk_drewN ?_ _ | refine blk_drew ?_ | refine blk_alloc ?_ _)); refine blk_far ?_ NB237_238.out _; (with_reducible repeat (first | refine blk_drewN ?_ _ | refine blk_drew ?_ | refine blk_alloc ?_ _)); refine blk_far ?_ NB237_238.out _; (with_reducible repeat (first | refine blk_drewN ?_ _ | refine blk_drew ?_ | refine blk_alloc ?_ _)); refine blk_put (cs := #[.int .u64 t241, .int .u64 t242, .int .u64 t243, .string t244, .string a0_4]) ?_ 4 _ rfl; (with_reducible repeat (first | refine blk_drewN ?_ _ | refine blk_drew ?_ | refine blk_alloc ?_ _)); refine blk_put (cs := #[.int .u64 t241, .int .u64 t242, .int .u64 t243, .string a0_3, .string a0_4]) ?_ 3 _ rfl; (with_reducible repeat (first | refine blk_drewN ?_ _ | refine blk_drew ?_ | refine blk_alloc ?_ _)); refine blk_put (cs := #[.int .u64 t241, .int .u64 t242, .int .u64 a0_2, .string a0_3, .string a0_4]) ?_ 2 _ rfl; (with_reducible repeat (first | refine blk_drewN ?_ _ | refine blk_drew ?_ | refine blk_alloc ?_ _)); refine blk_put (cs := #[.int .u64 t241, .int .u64 a0_1, .int .u64 a0_2, .string a0_3, .string a0_4]) ?_ 1 _ rfl; (with_reducible repeat (first | refine blk_drewN ?_ _ | refine blk_drew ?_ | refine blk_alloc ?_ _)); refine blk_put (cs := #[.int .u64 a0_0, .int .u64 a0_1, .int .u64 a0_2, .string a0_3, .string a0_4]) ?_ 0 _ rfl; (with_reducible repeat (first | refine blk_drewN ?_ _ | refine blk_drew ?_ | refine blk_alloc ?_ _)); exact BK237.out) hb); have n1_ := Aside0.mk (blk_below (g := gb238) (o := .cells #[.int .u64 t246, .int .u64 t247, .int .u64 t248, .string t249, .string t250] 26 (0, 0)) (by (with_reducible repeat (first | refine blk_drewN ?_ _ | refine blk_drew ?_ | refine blk_alloc ?_ _)); refine blk_put (cs := #[.int .u64 t246, .int .u64 t247, .int .u64 t248, .string t249, .string a2_4]) ?_ 4 _ rfl; (with_reducible repeat (first | refine blk_drewN ?_ _ | refine blk_drew ?_ | refine blk_alloc ?_ _)); refine blk_put (cs := #[.int .u64 t246, .int .u64 t247, .int .u64 t248, .string a2_3, .string a2_4]) ?_ 3 _ rfl; (with_reducible repeat (first | refine blk_drewN ?_ _ | refine blk_drew ?_ | refine blk_alloc ?_ _)); refine blk_put (cs := #[.int .u64 t246, .int .u64 t247, .int .u64 a2_2, .string a2_3, .string a2_4]) ?_ 2 _ rfl; (with_reducible repeat (first | refine blk_drewN ?_ _ | refine blk_drew ?_ | refine blk_alloc ?_ _)); refine blk_put (cs := #[.int .u64 t246, .int .u64 a2_1, .int .u64 a2_2, .string a2_3, .string a2_4]) ?_ 1 _ rfl; (with_reducible repeat (first | refine blk_drewN ?_ _ | refine blk_drew ?_ | refine blk_alloc ?_ _)); refine blk_put (cs := #[.int .u64 a2_0, .int .u64 a2_1, .int .u64 a2_2, .string a2_3, .string a2_4]) ?_ 0 _ rfl; (with_reducible repeat (first | refine blk_drewN ?_ _ | refine blk_drew ?_ | refine blk_alloc ?_ _)); refine blk_far ?_ NB238_237.out _; (with_reducible repeat (first | refine blk_drewN ?_ _ | refine blk_drew ?_ | refine blk_alloc ?_ _)); refine blk_far ?_ NB238_237.out _; (with_reducible repeat (first | refine blk_drewN ?_ _ | refine blk_drew ?_ | refine blk_alloc ?_ _)); refine blk_far ?_ NB238_237.out _; (with_reducible repeat (first | refine blk_drewN ?_ _ | refine blk_drew ?_ | refine blk_alloc ?_ _)); refine blk_far ?_ NB238_237.out _; (with_reducible repeat (first | refine blk_drewN ?_ _ | refine blk_drew ?_ | refine blk_alloc ?_ _)); refine blk_far ?_ NB238_237.out _; (with_reducible repeat (first | refine blk_drewN ?_ _ | refine blk_drew ?_ | refine blk_alloc ?_ _)); exact BK238.out) hb); have n2_ := Aside0.mk (below_step (by repeat (first | (with_reducible first | exact HB.out | apply below_alloc | apply pw_below_drewN | apply below_drew1 | refine below_set ?_ GE237.out | refine below_set ?_ GE238.out) | exact HB.out)) hb); clear BK237; clear BK238; clear HB; have BK237 := n0_; have BK238 := n1_; have HB := n2_; clear n0_ n1_ n2_; (try clear hb); (try clear hb2); (try clear hk); (try clear hi)))
       go_meet
       case rel => exact ⟨_, (!t254), (by first | rfl | (simp; done) | (simp [*]; done)), H', ⟨by have := HJ3.out; first | omega | exact Nat.le_refl _⟩, ⟨by (with_reducible repeat (first | refine blk_drewN ?_ _ | refine blk_drew ?_ | refine blk_alloc ?_ _)); exact BK237.out⟩, ⟨by (with_reducible repeat (first | refine blk_drewN ?_ _ | refine blk_drew ?_ | refine blk_alloc ?_ _)); exact BK238.out⟩, ⟨by repeat (first | (with_reducible first | exact HB.out | apply below_alloc | apply pw_below_drewN | apply below_drew1 | refine below_set ?_ GE237.out | refine below_set ?_ GE238.out) | exact HB.out)⟩⟩
     ·
      replace c27 := Bool.eq_false_iff.mpr c27
      subst c27
      have H1 : (laws_FnSemverTermTilde.j1 kj3 a1 true t241 t242 t243 t244 t245 t246 t247 t248 t249 t250) = some r := by rw [if_neg (show ¬ (false = true) by decide)] at H; exact H
      clear H
      have H := H1
      clear H1
      have H' := Aside0.mk H
      clear H
      go_wp2
      go_meet
      case rel => exact ⟨_, (true), (by first | rfl | (simp; done) | (simp [*]; done)), H', ⟨by have := HJ3.out; first | omega | exact Nat.le_refl _⟩, ⟨by (with_reducible repeat (first | refine blk_drewN ?_ _ | refine blk_drew ?_ | refine blk_alloc ?_ _)); refine blk_far ?_ NB237_238.out _; (with_reducible repeat (first | refine blk_drewN ?_ _ | refine blk_drew ?_ | refine blk_alloc ?_ _)); refine blk_far ?_ NB237_238.out _; (with_reducible repeat (first | refine blk_drewN ?_ _ | refine blk_drew ?_ | refine blk_alloc ?_ _)); refine blk_far ?_ NB237_238.out _; (with_reducible repeat (first | refine blk_drewN ?_ _ | refine blk_drew ?_ | refine blk_alloc ?_ _)); refine blk_far ?_ NB237_238.out _; (with_reducible repeat (first | refine blk_drewN ?_ _ | refine blk_drew ?_ | refine blk_alloc ?_ _)); refine blk_far ?_ NB237_238.out _; (with_reducible repeat (first | refine blk_drewN ?_ _ | refine blk_drew ?_ | refine blk_alloc ?_ _)); refine blk_put (cs := #[.int .u64 t241, .int .u64 t242, .int .u64 t243, .string t244, .string a0_4]) ?_ 4 _ rfl; (with_reducible repeat (first | refine blk_drewN ?_ _ | refine blk_drew ?_ | refine blk_alloc ?_ _)); refine blk_put (cs := #[.int .u64 t241, .int .u64 t242, .int .u64 t243, .string a0_3, .string a0_4]) ?_ 3 _ rfl; (with_reducible repeat (first | refine blk_drewN ?_ _ | refine blk_drew ?_ | refine blk_alloc ?_ _)); refine blk_put (cs := #[.int .u64 t241, .int .u64 t242, .int .u64 a0_2, .string a0_3, .string a0_4]) ?_ 2 _ rfl; (with_reducible repeat (first | refine blk_drewN ?_ _ | refine blk_drew ?_ | refine blk_alloc ?_ _)); refine blk_put (cs := #[.int .u64 t241, .int .u64 a0_1, .int .u64 a0_2, .string a0_3, .string a0_4]) ?_ 1 _ rfl; (with_reducible repeat (first | refine blk_drewN ?_ _ | refine blk_drew ?_ | refine blk_alloc ?_ _)); refine blk_put (cs := #[.int .u64 a0_0, .int .u64 a0_1, .int .u64 a0_2, .string a0_3, .string a0_4]) ?_ 0 _ rfl; (with_reducible repeat (first | refine blk_drewN ?_ _ | refine blk_drew ?_ | refine blk_alloc ?_ _)); exact BK237.out⟩, ⟨by (with_reducible repeat (first | refine blk_drewN ?_ _ | refine blk_drew ?_ | refine blk_alloc ?_ _)); refine blk_put (cs := #[.int .u64 t246, .int .u64 t247, .int .u64 t248, .string t249, .string a2_4]) ?_ 4 _ rfl; (with_reducible repeat (first | refine blk_drewN ?_ _ | refine blk_drew ?_ | refine blk_alloc ?_ _)); refine blk_put (cs := #[.int .u64 t246, .int .u64 t247, .int .u64 t248, .string a2_3, .string a2_4]) ?_ 3 _ rfl; (with_reducible repeat (first | refine blk_drewN ?_ _ | refine blk_drew ?_ | refine blk_alloc ?_ _)); refine blk_put (cs := #[.int .u64 t246, .int .u64 t247, .int .u64 a2_2, .string a2_3, .string a2_4]) ?_ 2 _ rfl; (with_reducible repeat (first | refine blk_drewN ?_ _ | refine blk_drew ?_ | refine blk_alloc ?_ _)); refine blk_put (cs := #[.int .u64 t246, .int .u64 a2_1, .int .u64 a2_2, .string a2_3, .string a2_4]) ?_ 1 _ rfl; (with_reducible repeat (first | refine blk_drewN ?_ _ | refine blk_drew ?_ | refine blk_alloc ?_ _)); refine blk_put (cs := #[.int .u64 a2_0, .int .u64 a2_1, .int .u64 a2_2, .string a2_3, .string a2_4]) ?_ 0 _ rfl; (with_reducible repeat (first | refine blk_drewN ?_ _ | refine blk_drew ?_ | refine blk_alloc ?_ _)); refine blk_far ?_ NB238_237.out _; (with_reducible repeat (first | refine blk_drewN ?_ _ | refine blk_drew ?_ | refine blk_alloc ?_ _)); refine blk_far ?_ NB238_237.out _; (with_reducible repeat (first | refine blk_drewN ?_ _ | refine blk_drew ?_ | refine blk_alloc ?_ _)); refine blk_far ?_ NB238_237.out _; (with_reducible repeat (first | refine blk_drewN ?_ _ | refine blk_drew ?_ | refine blk_alloc ?_ _)); refine blk_far ?_ NB238_237.out _; (with_reducible repeat (first | refine blk_drewN ?_ _ | refine blk_drew ?_ | refine blk_alloc ?_ _)); refine blk_far ?_ NB238_237.out _; (with_reducible repeat (first | refine blk_drewN ?_ _ | refine blk_drew ?_ | refine blk_alloc ?_ _)); exact BK238.out⟩, ⟨by repeat (first | (with_reducible first | exact HB.out | apply below_alloc | apply pw_below_drewN | apply below_drew1 | refine below_set ?_ GE237.out | refine below_set ?_ GE238.out) | exact HB.out)⟩⟩
    case rest =>
     clear HC20
     try clear c1
     try clear c2
     try clear p2
     try clear c3
     try clear c4
     try clear c8
     try clear c10
     try clear c14
     try clear c15
     try clear c18
     try clear c20
     try clear c21
     try clear c27
     try clear c28
     try clear c28b0
     try clear c28b1
     try clear c30
     try clear c31
     try clear c36
     try clear c43
     try clear hcz11_0
     try clear hcz11_1
     try clear hcz11_2
     try clear hcz11_3
     try clear hcz11_4
     try clear hcz13_0
     try clear hcz13_1
     try clear hcz13_2
     try clear hcz13_3
     try clear hcz13_4
     try clear hcz16_0
     try clear hcz16_1
     try clear hcz16_2
     try clear hcz16_3
     try clear hcz16_4
     try clear hcz22_0
     try clear hcz22_1
     try clear hcz22_2
     try clear hcz22_3
     try clear hcz22_4
     try clear hcz23_0
     try clear hcz23_1
     try clear hcz23_2
     try clear hcz23_3
     try clear hcz23_4
     try clear hcz25_0
     try clear hcz25_1
     try clear hcz25_2
     try clear hcz25_3
     try clear hcz25_4
     try clear hcz26_0
     try clear hcz26_1
     try clear hcz26_2
     try clear hcz26_3
     try clear hcz26_4
     try clear hcz32_0
     try clear hcz32_1
     try clear hcz32_2
     try clear hcz32_3
     try clear hcz32_4
     try clear hcz37_0
     try clear hcz37_1
     try clear hcz37_2
     try clear hcz37_3
     try clear hcz37_4
     try clear hcz39_0
     try clear hcz39_1
     try clear hcz39_2
     try clear hcz39_3
     try clear hcz39_4
     try clear hcz44_0
     try clear hcz44_1
     try clear hcz44_2
     try clear hcz44_3
     try clear hcz44_4
     try clear hfz11_0
     try clear hfz11_1
     try clear hfz11_2
     try clear hfz11_3
     try clear hfz11_4
     try clear hfz13_0
     try clear hfz13_1
     try clear hfz13_2
     try clear hfz13_3
     try clear hfz13_4
     try clear hfz16_0
     try clear hfz16_1
     try clear hfz16_2
     try clear hfz16_3
     try clear hfz16_4
     try clear hfz22_0
     try clear hfz22_1
     try clear hfz22_2
     try clear hfz22_3
     try clear hfz22_4
     try clear hfz23_0
     try clear hfz23_1
     try clear hfz23_2
     try clear hfz23_3
     try clear hfz23_4
     try clear hfz25_0
     try clear hfz25_1
     try clear hfz25_2
     try clear hfz25_3
     try clear hfz25_4
     try clear hfz26_0
     try clear hfz26_1
     try clear hfz26_2
     try clear hfz26_3
     try clear hfz26_4
     try clear hfz32_0
     try clear hfz32_1
     try clear hfz32_2
     try clear hfz32_3
     try clear hfz32_4
     try clear hfz37_0
     try clear hfz37_1
     try clear hfz37_2
     try clear hfz37_3
     try clear hfz37_4
     try clear hfz39_0
     try clear hfz39_1
     try clear hfz39_2
     try clear hfz39_3
     try clear hfz39_4
     try clear hfz44_0
     try clear hfz44_1
     try clear hfz44_2
     try clear hfz44_3
     try clear hfz44_4
     try clear p2
     obtain ⟨kq, x41_19, rfl, HA, HJ19, BK237, BK238, HB⟩ := hcut
     cases kq with
     | zero => exact absurd HA.out (by simp [laws_FnSemverTermTilde.j1])
     | succ kj19 =>
      have H := HA.out
      clear HA
      simp only [laws_FnSemverTermTilde.j1] at H
      by_cases c46 : x41_19 = true
      ·
       subst c46
       have H1 : (some true) = some r := by rw [if_pos rfl] at H; exact H
       clear H
       have H := H1
       clear H1
       obtain rfl := Option.some.inj H
       go_wp2
       go_ret
       exact ⟨by first | rfl | (simp [errW_none, errW_some] <;> rfl) | (simp [*, errW_none, errW_some] <;> rfl) | (simp [bneNil]; done), by repeat (first | (with_reducible first | exact HB.out | apply below_alloc | apply pw_below_drewN | apply below_drew1 | refine below_set ?_ GE237.out | refine below_set ?_ GE238.out) | exact HB.out)⟩
      ·
       replace c46 := Bool.eq_false_iff.mpr c46
       subst c46
       have H1 : (if a1 > 1 then (laws_FnSemverTermTilde.j2 kj19 a1 t241 t242 t243 t244 t245 t246 t247 t248 t249 t250 t241 (IntKind.u64.wrap (t242 + 1)) 0 (⟨#[]⟩ : ByteArray) (⟨#[]⟩ : ByteArray)) else (laws_FnSemverTermTilde.j2 kj19 a1 t241 t242 t243 t244 t245 t246 t247 t248 t249 t250 (IntKind.u64.wrap (t241 + 1)) 0 0 (⟨#[]⟩ : ByteArray) (⟨#[]⟩ : ByteArray))) = some r := by rw [if_neg (show ¬ (false = true) by decide)] at H; exact H
       clear H
       have H := H1
       clear H1
       have HC47 := Aside0.mk H
       clear H
       have hnb48 := NB237_238.out
       have hnc48 := NB238_237.out
       have hcz49_0 : wc.cell? ⟨gb237, 0, none⟩ = some (.int .u64 t241) := (blk_cell BK237.out 0).trans rfl
       have hcz49_1 : wc.cell? ⟨gb237, 1, none⟩ = some (.int .u64 t242) := (blk_cell BK237.out 1).trans rfl
       have hcz49_2 : wc.cell? ⟨gb237, 2, none⟩ = some (.int .u64 t243) := (blk_cell BK237.out 2).trans rfl
       have hcz49_3 : wc.cell? ⟨gb237, 3, none⟩ = some (.string t244) := (blk_cell BK237.out 3).trans rfl
       have hcz49_4 : wc.cell? ⟨gb237, 4, none⟩ = some (.string t245) := (blk_cell BK237.out 4).trans rfl
       have hfz49_0 := blk_frozen BK237.out 0
       have hfz49_1 := blk_frozen BK237.out 1
       have hfz49_2 := blk_frozen BK237.out 2
       have hfz49_3 := blk_frozen BK237.out 3
       have hfz49_4 := blk_frozen BK237.out 4
       go_upto_if 47 with (first | ((with_reducible refine gate_dst (N := 8) rfl ?_); (try (refine gate_guard (by rfl) ?_; dsimp only)); refine box_event ?hg (N := 8) ?hd (cs := #[.int .u64 0, .int .u64 0, .int .u64 0, .string (⟨#[]⟩ : ByteArray), .string (⟨#[]⟩ : ByteArray)]) (t := 26) ?hr ?_; (case hd => rfl); (case hg => rfl); (case hr => first | (go_simp; done) | (go_simp; rfl) | (go_simp; simp [u8w]; done)); intro gb255 hg w50 hbox hb; have n0_ := Aside0.mk (blk_below (g := gb237) (o := .cells #[.int .u64 t241, .int .u64 t242, .int .u64 t243, .string t244, .string t245] 26 (0, 0)) (by (with_reducible repeat (first | refine blk_drewN ?_ _ | refine blk_drew ?_ | refine blk_alloc ?_ _)); exact BK237.out) hb); have n1_ := Aside0.mk (blk_below (g := gb238) (o := .cells #[.int .u64 t246, .int .u64 t247, .int .u64 t248, .string t249, .string t250] 26 (0, 0)) (by (with_reducible repeat (first | refine blk_drewN ?_ _ | refine blk_drew ?_ | refine blk_alloc ?_ _)); exact BK238.out) hb); have n2_ := Aside0.mk (below_step (by repeat (first | (with_reducible first | exact HB.out | apply below_alloc | apply pw_below_drewN | apply below_drew1 | refine below_set ?_ GE237.out | refine below_set ?_ GE238.out) | exact HB.out)) hb); have n3_ := Aside0.mk (hbox); have n4_ := Aside0.mk ((by rw [hg]; exact (below_size (by repeat (first | (with_reducible first | exact HB.out | apply below_alloc | apply pw_below_drewN | apply below_drew1 | refine below_set ?_ GE237.out | refine below_set ?_ GE238.out) | exact HB.out))) : w.heap.size ≤ gb255)); have n5_ := Aside0.mk ((by rw [hg]; exact (below_size (by repeat (first | (with_reducible first | exact HB.out | apply below_alloc | apply pw_below_drewN | apply below_drew1 | refine below_set ?_ GE237.out | refine below_set ?_ GE238.out) | exact HB.out))) : w.heap.size ≤ gb255)); have n6_ := Aside0.mk ((by rw [hg]; exact Nat.ne_of_lt (blk_lt (g := gb237) (o := .cells #[.int .u64 t241, .int .u64 t242, .int .u64 t243, .string t244, .string t245] 26 (0, 0)) (by (with_reducible repeat (first | refine blk_drewN ?_ _ | refine blk_drew ?_ | refine blk_alloc ?_ _)); exact BK237.out)) : gb237 ≠ gb255)); have n7_ := Aside0.mk ((by rw [hg]; exact Nat.ne_of_gt (blk_lt (g := gb237) (o := .cells #[.int .u64 t241, .int .u64 t242, .int .u64 t243, .string t244, .string t245] 26 (0, 0)) (by (with_reducible repeat (first | refine blk_drewN ?_ _ | refine blk_drew ?_ | refine blk_alloc ?_ _)); exact BK237.out)) : gb255 ≠ gb237)); have n8_ := Aside0.mk ((by rw [hg]; exact Nat.ne_of_lt (blk_lt (g := gb238) (o := .cells #[.int .u64 t246, .int .u64 t247, .int .u64 t248, .string t249, .string t250] 26 (0, 0)) (by (with_reducible repeat (first | refine blk_drewN ?_ _ | refine blk_drew ?_ | refine blk_alloc ?_ _)); exact BK238.out)) : gb238 ≠ gb255)); have n9_ := Aside0.mk ((by rw [hg]; exact Nat.ne_of_gt (blk_lt (g := gb238) (o := .cells #[.int .u64 t246, .int .u64 t247, .int .u64 t248, .string t249, .string t250] 26 (0, 0)) (by (with_reducible repeat (first | refine blk_drewN ?_ _ | refine blk_drew ?_ | refine blk_alloc ?_ _)); exact BK238.out)) : gb255 ≠ gb238)); clear BK237; clear BK238; clear HB; have BK237 := n0_; have BK238 := n1_; have HB := n2_; have BK255 := n3_; have GW255 := n4_; have GE255 := n5_; have NB237_255 := n6_; have NB255_237 := n7_; have NB238_255 := n8_; have NB255_238 := n9_; clear n0_ n1_ n2_ n3_ n4_ n5_ n6_ n7_ n8_ n9_; clear hb hbox hg; have hnb51 := NB255_237.out; have hnc51 := NB237_255.out; have hnb52 := NB255_238.out; have hnc52 := NB238_255.out; have hcz53_0 : w50.cell? ⟨gb255, 0, none⟩ = some (.int .u64 0) := (blk_cell BK255.out 0).trans rfl; have hcz53_1 : w50.cell? ⟨gb255, 1, none⟩ = some (.int .u64 0) := (blk_cell BK255.out 1).trans rfl; have hcz53_2 : w50.cell? ⟨gb255, 2, none⟩ = some (.int .u64 0) := (blk_cell BK255.out 2).trans rfl; have hcz53_3 : w50.cell? ⟨gb255, 3, none⟩ = some (.string (⟨#[]⟩ : ByteArray)) := (blk_cell BK255.out 3).trans rfl; have hcz53_4 : w50.cell? ⟨gb255, 4, none⟩ = some (.string (⟨#[]⟩ : ByteArray)) := (blk_cell BK255.out 4).trans rfl; have hfz53_0 := blk_frozen BK255.out 0; have hfz53_1 := blk_frozen BK255.out 1; have hfz53_2 := blk_frozen BK255.out 2; have hfz53_3 := blk_frozen BK255.out 3; have hfz53_4 := blk_frozen BK255.out 4))
       (try simp only [Act.put, List.setIfInBounds_toArray, List.set_cons_zero, List.set_cons_succ])
       go_cut [] (fun wc => ∃ (kq : Nat) (x256000_46 : Int) (x256001_46 : Int) (x256002_46 : Int) (x256003_46 : ByteArray) (x256004_46 : ByteArray), Aside0 (laws_FnSemverTermTilde.j2 kq a1 t241 t242 t243 t244 t245 t246 t247 t248 t249 t250 x256000_46 x256001_46 x256002_46 x256003_46 x256004_46 = some r) ∧ Aside0 (kq ≤ kj19) ∧ Aside0 (wc.heap[gb237]? = some (.cells #[.int .u64 t241, .int .u64 t242, .int .u64 t243, .string t244, .string t245] 26 (0, 0))) ∧ Aside0 (wc.heap[gb238]? = some (.cells #[.int .u64 t246, .int .u64 t247, .int .u64 t248, .string t249, .string t250] 26 (0, 0))) ∧ Aside0 (wc.heap[gb255]? = some (.cells #[.int .u64 x256000_46, .int .u64 x256001_46, .int .u64 x256002_46, .string x256003_46, .string x256004_46] 26 (0, 0))) ∧ Aside0 (Below w.heap.size w wc))
       case first =>
        have H := HC47.out
        clear HC47
        by_cases c54 : a1 > 1
        ·
         rw [if_pos c54] at H
         have c54b0 : decide (1 < a1) = true := decide_eq_true c54
         clear c54
         (first | rw [c54b0] | (simp only [i64_w, i32_w]; rw [c54b0]) | skip)
         have H' := Aside0.mk H
         clear H
         have hnb55 := NB237_238.out
         have hnc55 := NB238_237.out
         have hnb56 := NB237_255.out
         have hnc56 := NB255_237.out
         have hcz57_0 : w50.cell? ⟨gb237, 0, none⟩ = some (.int .u64 t241) := (blk_cell BK237.out 0).trans rfl
         have hcz57_1 : w50.cell? ⟨gb237, 1, none⟩ = some (.int .u64 t242) := (blk_cell BK237.out 1).trans rfl
         have hcz57_2 : w50.cell? ⟨gb237, 2, none⟩ = some (.int .u64 t243) := (blk_cell BK237.out 2).trans rfl
         have hcz57_3 : w50.cell? ⟨gb237, 3, none⟩ = some (.string t244) := (blk_cell BK237.out 3).trans rfl
         have hcz57_4 : w50.cell? ⟨gb237, 4, none⟩ = some (.string t245) := (blk_cell BK237.out 4).trans rfl
         have hfz57_0 := blk_frozen BK237.out 0
         have hfz57_1 := blk_frozen BK237.out 1
         have hfz57_2 := blk_frozen BK237.out 2
         have hfz57_3 := blk_frozen BK237.out 3
         have hfz57_4 := blk_frozen BK237.out 4
         have hnb58 := NB255_238.out
         have hnc58 := NB238_255.out
         have hcz59_0 : w50.cell? ⟨gb255, 0, none⟩ = some (.int .u64 0) := (blk_cell BK255.out 0).trans rfl
         have hcz59_1 : w50.cell? ⟨gb255, 1, none⟩ = some (.int .u64 0) := (blk_cell BK255.out 1).trans rfl
         have hcz59_2 : w50.cell? ⟨gb255, 2, none⟩ = some (.int .u64 0) := (blk_cell BK255.out 2).trans rfl
         have hcz59_3 : w50.cell? ⟨gb255, 3, none⟩ = some (.string (⟨#[]⟩ : ByteArray)) := (blk_cell BK255.out 3).trans rfl
         have hcz59_4 : w50.cell? ⟨gb255, 4, none⟩ = some (.string (⟨#[]⟩ : ByteArray)) := (blk_cell BK255.out 4).trans rfl
         have hfz59_0 := blk_frozen BK255.out 0
         have hfz59_1 := blk_frozen BK255.out 1
         have hfz59_2 := blk_frozen BK255.out 2
         have hfz59_3 := blk_frozen BK255.out 3
         have hfz59_4 := blk_frozen BK255.out 4
         go_wp2
         go_meet
         case rel => exact ⟨_, (t241), (IntKind.u64.wrap (t242 + 1)), (0), ((⟨#[]⟩ : ByteArray)), ((⟨#[]⟩ : ByteArray)), H', ⟨by have := HJ3.out; have := HJ19.out; first | omega | exact Nat.le_refl _⟩, ⟨by (with_reducible repeat (first | refine blk_drewN ?_ _ | refine blk_drew ?_ | refine blk_alloc ?_ _)); refine blk_far ?_ NB237_255.out _; (with_reducible repeat (first | refine blk_drewN ?_ _ | refine blk_drew ?_ | refine blk_alloc ?_ _)); refine blk_far ?_ NB237_255.out _; (with_reducible repeat (first | refine blk_drewN ?_ _ | refine blk_drew ?_ | refine blk_alloc ?_ _)); refine blk_far ?_ NB237_255.out _; (with_reducible repeat (first | refine blk_drewN ?_ _ | refine blk_drew ?_ | refine blk_alloc ?_ _)); refine blk_far ?_ NB237_255.out _; (with_reducible repeat (first | refine blk_drewN ?_ _ | refine blk_drew ?_ | refine blk_alloc ?_ _)); refine blk_far ?_ NB237_255.out _; (with_reducible repeat (first | refine blk_drewN ?_ _ | refine blk_drew ?_ | refine blk_alloc ?_ _)); refine blk_far ?_ NB237_255.out _; (with_reducible repeat (first | refine blk_drewN ?_ _ | refine blk_drew ?_ | refine blk_alloc ?_ _)); refine blk_far ?_ NB237_255.out _; (with_reducible repeat (first | refine blk_drewN ?_ _ | refine blk_drew ?_ | refine blk_alloc ?_ _)); refine blk_far ?_ NB237_255.out _; (with_reducible repeat (first | refine blk_drewN ?_ _ | refine blk_drew ?_ | refine blk_alloc ?_ _)); refine blk_far ?_ NB237_255.out _; (with_reducible repeat (first | refine blk_drewN ?_ _ | refine blk_drew ?_ | refine blk_alloc ?_ _)); refine blk_far ?_ NB237_255.out _; (with_reducible repeat (first | refine blk_drewN ?_ _ | refine blk_drew ?_ | refine blk_alloc ?_ _)); exact BK237.out⟩, ⟨by (with_reducible repeat (first | refine blk_drewN ?_ _ | refine blk_drew ?_ | refine blk_alloc ?_ _)); refine blk_far ?_ NB238_255.out _; (with_reducible repeat (first | refine blk_drewN ?_ _ | refine blk_drew ?_ | refine blk_alloc ?_ _)); refine blk_far ?_ NB238_255.out _; (with_reducible repeat (first | refine blk_drewN ?_ _ | refine blk_drew ?_ | refine blk_alloc ?_ _)); refine blk_far ?_ NB238_255.out _; (with_reducible repeat (first | refine blk_drewN ?_ _ | refine blk_drew ?_ | refine blk_alloc ?_ _)); refine blk_far ?_ NB238_255.out _; (with_reducible repeat (first | refine blk_drewN ?_ _ | refine blk_drew ?_ | refine blk_alloc ?_ _)); refine blk_far ?_ NB238_255.out _; (with_reducible repeat (first | refine blk_drewN ?_ _ | refine blk_drew ?_ | refine blk_alloc ?_ _)); refine blk_far ?_ NB238_255.out _; (with_reducible repeat (first | refine blk_drewN ?_ _ | refine blk_drew ?_ | refine blk_alloc ?_ _)); refine blk_far ?_ NB238_255.out _; (with_reducible repeat (first | refine blk_drewN ?_ _ | refine blk_drew ?_ | refine blk_alloc ?_ _)); refine blk_far ?_ NB238_255.out _; (with_reducible repeat (first | refine blk_drewN ?_ _ | refine blk_drew ?_ | refine blk_alloc ?_ _)); refine blk_far ?_ NB238_255.out _; (with_reducible repeat (first | refine blk_drewN ?_ _ | refine blk_drew ?_ | refine blk_alloc ?_ _)); refine blk_far ?_ NB238_255.out _; (with_reducible repeat (first | refine blk_drewN ?_ _ | refine blk_drew ?_ | refine blk_alloc ?_ _)); exact BK238.out⟩, ⟨by (with_reducible repeat (first | refine blk_drewN ?_ _ | refine blk_drew ?_ | refine blk_alloc ?_ _)); refine blk_put (cs := #[.int .u64 t241, .int .u64 (IntKind.u64.wrap (t242 + 1)), .int .u64 0, .string (⟨#[]⟩ : ByteArray), .string (⟨#[]⟩ : ByteArray)]) ?_ 4 _ rfl; (with_reducible repeat (first | refine blk_drewN ?_ _ | refine blk_drew ?_ | refine blk_alloc ?_ _)); refine blk_put (cs := #[.int .u64 t241, .int .u64 (IntKind.u64.wrap (t242 + 1)), .int .u64 0, .string (⟨#[]⟩ : ByteArray), .string (⟨#[]⟩ : ByteArray)]) ?_ 3 _ rfl; (with_reducible repeat (first | refine blk_drewN ?_ _ | refine blk_drew ?_ | refine blk_alloc ?_ _)); refine blk_put (cs := #[.int .u64 t241, .int .u64 (IntKind.u64.wrap (t242 + 1)), .int .u64 0, .string (⟨#[]⟩ : ByteArray), .string (⟨#[]⟩ : ByteArray)]) ?_ 2 _ rfl; (with_reducible repeat (first | refine blk_drewN ?_ _ | refine blk_drew ?_ | refine blk_alloc ?_ _)); refine blk_put (cs := #[.int .u64 t241, .int .u64 0, .int .u64 0, .string (⟨#[]⟩ : ByteArray), .string (⟨#[]⟩ : ByteArray)]) ?_ 1 _ rfl; (with_reducible repeat (first | refine blk_drewN ?_ _ | refine blk_drew ?_ | refine blk_alloc ?_ _)); refine blk_put (cs := #[.int .u64 (IntKind.u64.wrap (t241 + 1)), .int .u64 0, .int .u64 0, .string (⟨#[]⟩ : ByteArray), .string (⟨#[]⟩ : ByteArray)]) ?_ 0 _ rfl; (with_reducible repeat (first | refine blk_drewN ?_ _ | refine blk_drew ?_ | refine blk_alloc ?_ _)); refine blk_put (cs := #[.int .u64 (IntKind.u64.wrap (t241 + 1)), .int .u64 0, .int .u64 0, .string (⟨#[]⟩ : ByteArray), .string (⟨#[]⟩ : ByteArray)]) ?_ 4 _ rfl; (with_reducible repeat (first | refine blk_drewN ?_ _ | refine blk_drew ?_ | refine blk_alloc ?_ _)); refine blk_put (cs := #[.int .u64 (IntKind.u64.wrap (t241 + 1)), .int .u64 0, .int .u64 0, .string (⟨#[]⟩ : ByteArray), .string (⟨#[]⟩ : ByteArray)]) ?_ 3 _ rfl; (with_reducible repeat (first | refine blk_drewN ?_ _ | refine blk_drew ?_ | refine blk_alloc ?_ _)); refine blk_put (cs := #[.int .u64 (IntKind.u64.wrap (t241 + 1)), .int .u64 0, .int .u64 0, .string (⟨#[]⟩ : ByteArray), .string (⟨#[]⟩ : ByteArray)]) ?_ 2 _ rfl; (with_reducible repeat (first | refine blk_drewN ?_ _ | refine blk_drew ?_ | refine blk_alloc ?_ _)); refine blk_put (cs := #[.int .u64 (IntKind.u64.wrap (t241 + 1)), .int .u64 0, .int .u64 0, .string (⟨#[]⟩ : ByteArray), .string (⟨#[]⟩ : ByteArray)]) ?_ 1 _ rfl; (with_reducible repeat (first | refine blk_drewN ?_ _ | refine blk_drew ?_ | refine blk_alloc ?_ _)); refine blk_put (cs := #[.int .u64 0, .int .u64 0, .int .u64 0, .string (⟨#[]⟩ : ByteArray), .string (⟨#[]⟩ : ByteArray)]) ?_ 0 _ rfl; (with_reducible repeat (first | refine blk_drewN ?_ _ | refine blk_drew ?_ | refine blk_alloc ?_ _)); exact BK255.out⟩, ⟨by repeat (first | (with_reducible first | exact HB.out | apply below_alloc | apply pw_below_drewN | apply below_drew1 | refine below_set ?_ GE237.out | refine below_set ?_ GE238.out | refine below_set ?_ GE255.out) | exact HB.out)⟩⟩
        ·
         rw [if_neg c54] at H
         have c54b0 : decide (1 < a1) = false := decide_eq_false c54
         clear c54
         (first | rw [c54b0] | (simp only [i64_w, i32_w]; rw [c54b0]) | skip)
         have H' := Aside0.mk H
         clear H
         go_wp2
         go_meet
         case rel => exact ⟨_, (IntKind.u64.wrap (t241 + 1)), (0), (0), ((⟨#[]⟩ : ByteArray)), ((⟨#[]⟩ : ByteArray)), H', ⟨by have := HJ3.out; have := HJ19.out; first | omega | exact Nat.le_refl _⟩, ⟨by (with_reducible repeat (first | refine blk_drewN ?_ _ | refine blk_drew ?_ | refine blk_alloc ?_ _)); refine blk_far ?_ NB237_255.out _; (with_reducible repeat (first | refine blk_drewN ?_ _ | refine blk_drew ?_ | refine blk_alloc ?_ _)); refine blk_far ?_ NB237_255.out _; (with_reducible repeat (first | refine blk_drewN ?_ _ | refine blk_drew ?_ | refine blk_alloc ?_ _)); refine blk_far ?_ NB237_255.out _; (with_reducible repeat (first | refine blk_drewN ?_ _ | refine blk_drew ?_ | refine blk_alloc ?_ _)); refine blk_far ?_ NB237_255.out _; (with_reducible repeat (first | refine blk_drewN ?_ _ | refine blk_drew ?_ | refine blk_alloc ?_ _)); refine blk_far ?_ NB237_255.out _; (with_reducible repeat (first | refine blk_drewN ?_ _ | refine blk_drew ?_ | refine blk_alloc ?_ _)); exact BK237.out⟩, ⟨by (with_reducible repeat (first | refine blk_drewN ?_ _ | refine blk_drew ?_ | refine blk_alloc ?_ _)); refine blk_far ?_ NB238_255.out _; (with_reducible repeat (first | refine blk_drewN ?_ _ | refine blk_drew ?_ | refine blk_alloc ?_ _)); refine blk_far ?_ NB238_255.out _; (with_reducible repeat (first | refine blk_drewN ?_ _ | refine blk_drew ?_ | refine blk_alloc ?_ _)); refine blk_far ?_ NB238_255.out _; (with_reducible repeat (first | refine blk_drewN ?_ _ | refine blk_drew ?_ | refine blk_alloc ?_ _)); refine blk_far ?_ NB238_255.out _; (with_reducible repeat (first | refine blk_drewN ?_ _ | refine blk_drew ?_ | refine blk_alloc ?_ _)); refine blk_far ?_ NB238_255.out _; (with_reducible repeat (first | refine blk_drewN ?_ _ | refine blk_drew ?_ | refine blk_alloc ?_ _)); exact BK238.out⟩, ⟨by (with_reducible repeat (first | refine blk_drewN ?_ _ | refine blk_drew ?_ | refine blk_alloc ?_ _)); refine blk_put (cs := #[.int .u64 (IntKind.u64.wrap (t241 + 1)), .int .u64 0, .int .u64 0, .string (⟨#[]⟩ : ByteArray), .string (⟨#[]⟩ : ByteArray)]) ?_ 4 _ rfl; (with_reducible repeat (first | refine blk_drewN ?_ _ | refine blk_drew ?_ | refine blk_alloc ?_ _)); refine blk_put (cs := #[.int .u64 (IntKind.u64.wrap (t241 + 1)), .int .u64 0, .int .u64 0, .string (⟨#[]⟩ : ByteArray), .string (⟨#[]⟩ : ByteArray)]) ?_ 3 _ rfl; (with_reducible repeat (first | refine blk_drewN ?_ _ | refine blk_drew ?_ | refine blk_alloc ?_ _)); refine blk_put (cs := #[.int .u64 (IntKind.u64.wrap (t241 + 1)), .int .u64 0, .int .u64 0, .string (⟨#[]⟩ : ByteArray), .string (⟨#[]⟩ : ByteArray)]) ?_ 2 _ rfl; (with_reducible repeat (first | refine blk_drewN ?_ _ | refine blk_drew ?_ | refine blk_alloc ?_ _)); refine blk_put (cs := #[.int .u64 (IntKind.u64.wrap (t241 + 1)), .int .u64 0, .int .u64 0, .string (⟨#[]⟩ : ByteArray), .string (⟨#[]⟩ : ByteArray)]) ?_ 1 _ rfl; (with_reducible repeat (first | refine blk_drewN ?_ _ | refine blk_drew ?_ | refine blk_alloc ?_ _)); refine blk_put (cs := #[.int .u64 0, .int .u64 0, .int .u64 0, .string (⟨#[]⟩ : ByteArray), .string (⟨#[]⟩ : ByteArray)]) ?_ 0 _ rfl; (with_reducible repeat (first | refine blk_drewN ?_ _ | refine blk_drew ?_ | refine blk_alloc ?_ _)); exact BK255.out⟩, ⟨by repeat (first | (with_reducible first | exact HB.out | apply below_alloc | apply pw_below_drewN | apply below_drew1 | refine below_set ?_ GE237.out | refine below_set ?_ GE238.out | refine below_set ?_ GE255.out) | exact HB.out)⟩⟩
       case rest =>
        clear HC47
        try clear c1
        try clear c2
        try clear p2
        try clear c3
        try clear c4
        try clear c5
        try clear c8
        try clear c10
        try clear c14
        try clear c15
        try clear c18
        try clear c20
        try clear c21
        try clear c27
        try clear c28
        try clear c28b0
        try clear c28b1
        try clear c30
        try clear c31
        try clear c36
        try clear c43
        try clear c46
        try clear c48
        try clear c51
        try clear c52
        try clear c54
        try clear c54b0
        try clear c55
        try clear c56
        try clear c58
        try clear hcz11_0
        try clear hcz11_1
        try clear hcz11_2
        try clear hcz11_3
        try clear hcz11_4
        try clear hcz13_0
        try clear hcz13_1
        try clear hcz13_2
        try clear hcz13_3
        try clear hcz13_4
        try clear hcz16_0
        try clear hcz16_1
        try clear hcz16_2
        try clear hcz16_3
        try clear hcz16_4
        try clear hcz22_0
        try clear hcz22_1
        try clear hcz22_2
        try clear hcz22_3
        try clear hcz22_4
        try clear hcz23_0
        try clear hcz23_1
        try clear hcz23_2
        try clear hcz23_3
        try clear hcz23_4
        try clear hcz25_0
        try clear hcz25_1
        try clear hcz25_2
        try clear hcz25_3
        try clear hcz25_4
        try clear hcz26_0
        try clear hcz26_1
        try clear hcz26_2
        try clear hcz26_3
        try clear hcz26_4
        try clear hcz32_0
        try clear hcz32_1
        try clear hcz32_2
        try clear hcz32_3
        try clear hcz32_4
        try clear hcz37_0
        try clear hcz37_1
        try clear hcz37_2
        try clear hcz37_3
        try clear hcz37_4
        try clear hcz39_0
        try clear hcz39_1
        try clear hcz39_2
        try clear hcz39_3
        try clear hcz39_4
        try clear hcz44_0
        try clear hcz44_1
        try clear hcz44_2
        try clear hcz44_3
        try clear hcz44_4
        try clear hcz49_0
        try clear hcz49_1
        try clear hcz49_2
        try clear hcz49_3
        try clear hcz49_4
        try clear hcz53_0
        try clear hcz53_1
        try clear hcz53_2
        try clear hcz53_3
        try clear hcz53_4
        try clear hcz57_0
        try clear hcz57_1
        try clear hcz57_2
        try clear hcz57_3
        try clear hcz57_4
        try clear hcz59_0
        try clear hcz59_1
        try clear hcz59_2
        try clear hcz59_3
        try clear hcz59_4
        try clear hfz11_0
        try clear hfz11_1
        try clear hfz11_2
        try clear hfz11_3
        try clear hfz11_4
        try clear hfz13_0
        try clear hfz13_1
        try clear hfz13_2
        try clear hfz13_3
        try clear hfz13_4
        try clear hfz16_0
        try clear hfz16_1
        try clear hfz16_2
        try clear hfz16_3
        try clear hfz16_4
        try clear hfz22_0
        try clear hfz22_1
        try clear hfz22_2
        try clear hfz22_3
        try clear hfz22_4
        try clear hfz23_0
        try clear hfz23_1
        try clear hfz23_2
        try clear hfz23_3
        try clear hfz23_4
        try clear hfz25_0
        try clear hfz25_1
        try clear hfz25_2
        try clear hfz25_3
        try clear hfz25_4
        try clear hfz26_0
        try clear hfz26_1
        try clear hfz26_2
        try clear hfz26_3
        try clear hfz26_4
        try clear hfz32_0
        try clear hfz32_1
        try clear hfz32_2
        try clear hfz32_3
        try clear hfz32_4
        try clear hfz37_0
        try clear hfz37_1
        try clear hfz37_2
        try clear hfz37_3
        try clear hfz37_4
        try clear hfz39_0
        try clear hfz39_1
        try clear hfz39_2
        try clear hfz39_3
        try clear hfz39_4
        try clear hfz44_0
        try clear hfz44_1
        try clear hfz44_2
        try clear hfz44_3
        try clear hfz44_4
        try clear hfz49_0
        try clear hfz49_1
        try clear hfz49_2
        try clear hfz49_3
        try clear hfz49_4
        try clear hfz53_0
        try clear hfz53_1
        try clear hfz53_2
        try clear hfz53_3
        try clear hfz53_4
        try clear hfz57_0
        try clear hfz57_1
        try clear hfz57_2
        try clear hfz57_3
        try clear hfz57_4
        try clear hfz59_0
        try clear hfz59_1
        try clear hfz59_2
        try clear hfz59_3
        try clear hfz59_4
        try clear p2
        obtain ⟨kq, x256000_46, x256001_46, x256002_46, x256003_46, x256004_46, HA, HJ46, BK237, BK238, BK255, HB⟩ := hcut
        cases kq with
        | zero => exact absurd HA.out (by simp [laws_FnSemverTermTilde.j2])
        | succ kj46 =>
         have H := HA.out
         clear HA
         simp only [laws_FnSemverTermTilde.j2] at H
         replace H := Option.bind_eq_some_iff.mp H
         obtain ⟨t256, A600, H⟩ := H
         replace H : ((laws_stHolds.f 4 t241 t242 t243 t244 t245 a1 t246 t247 t248 t249 t250).bind fun t257 => (if t257 = true then ((laws_stHolds.f 3 x256000_46 x256001_46 x256002_46 x256003_46 x256004_46 3 t246 t247 t248 t249 t250).bind fun t258 => (if (t256 == t258) = true then ((laws_scFirst.f t241 t242 t243 t244 t245 a1).bind fun bt259 => ((laws_stHolds.f 6 t241 t242 t243 t244 t245 a1 bt259.1 bt259.2.1 bt259.2.2.1 bt259.2.2.2.1 bt259.2.2.2.2).bind fun t264 => (some t264))) else (some false))) else (if (t256 == false) = true then ((laws_scFirst.f t241 t242 t243 t244 t245 a1).bind fun bt265 => ((laws_stHolds.f 6 t241 t242 t243 t244 t245 a1 bt265.1 bt265.2.1 bt265.2.2.1 bt265.2.2.2.1 bt265.2.2.2.2).bind fun t270 => (some t270))) else (some false)))) = some r := H
         have A60 := Aside0.mk A600
         clear A600
         replace H := Option.bind_eq_some_iff.mp H
         obtain ⟨t257, A610, H⟩ := H
         replace H : (if t257 = true then ((laws_stHolds.f 3 x256000_46 x256001_46 x256002_46 x256003_46 x256004_46 3 t246 t247 t248 t249 t250).bind fun t258 => (if (t256 == t258) = true then ((laws_scFirst.f t241 t242 t243 t244 t245 a1).bind fun bt259 => ((laws_stHolds.f 6 t241 t242 t243 t244 t245 a1 bt259.1 bt259.2.1 bt259.2.2.1 bt259.2.2.2.1 bt259.2.2.2.2).bind fun t264 => (some t264))) else (some false))) else (if (t256 == false) = true then ((laws_scFirst.f t241 t242 t243 t244 t245 a1).bind fun bt265 => ((laws_stHolds.f 6 t241 t242 t243 t244 t245 a1 bt265.1 bt265.2.1 bt265.2.2.1 bt265.2.2.2.1 bt265.2.2.2.2).bind fun t270 => (some t270))) else (some false))) = some r := H
         have A61 := Aside0.mk A610
         clear A610
         by_cases c62 : t257 = true
         ·
          subst c62
          have H1 : ((laws_stHolds.f 3 x256000_46 x256001_46 x256002_46 x256003_46 x256004_46 3 t246 t247 t248 t249 t250).bind fun t258 => (if (t256 == t258) = true then ((laws_scFirst.f t241 t242 t243 t244 t245 a1).bind fun bt259 => ((laws_stHolds.f 6 t241 t242 t243 t244 t245 a1 bt259.1 bt259.2.1 bt259.2.2.1 bt259.2.2.2.1 bt259.2.2.2.2).bind fun t264 => (some t264))) else (some false))) = some r := by rw [if_pos rfl] at H; exact H
          clear H
          have H := H1
          clear H1
          replace H := Option.bind_eq_some_iff.mp H
          obtain ⟨t258, A630, H⟩ := H
          replace H : (if (t256 == t258) = true then ((laws_scFirst.f t241 t242 t243 t244 t245 a1).bind fun bt259 => ((laws_stHolds.f 6 t241 t242 t243 t244 t245 a1 bt259.1 bt259.2.1 bt259.2.2.1 bt259.2.2.2.1 bt259.2.2.2.2).bind fun t264 => (some t264))) else (some false)) = some r := H
          have A63 := Aside0.mk A630
          clear A630
          by_cases c64 : (t256 == t258) = true
          ·
           rw [if_pos c64] at H
           have c64b0 : (t256 == t258) = true := c64
           (try (have c64b1 : decide (t256 = t258) = true := by simpa using c64))
           (try (have c64b2 : (t256 == t258) = true := by simpa using c64))
           clear c64
           replace H := Option.bind_eq_some_iff.mp H
           obtain ⟨⟨t259, t260, t261, t262, t263⟩, A650, H⟩ := H
           replace H : ((laws_stHolds.f 6 t241 t242 t243 t244 t245 a1 t259 t260 t261 t262 t263).bind fun t264 => (some t264)) = some r := H
           have A65 := Aside0.mk A650
           clear A650
           replace H := Option.bind_eq_some_iff.mp H
           obtain ⟨t264, A660, H⟩ := H
           replace H : (some t264) = some r := H
           have A66 := Aside0.mk A660
           clear A660
           obtain rfl := Option.some.inj H
           try go_wp2
           have n0_ := Aside0.mk (blk_drew BK237.out)
           have n1_ := Aside0.mk (blk_drew BK238.out)
           have n2_ := Aside0.mk (blk_drew BK255.out)
           have n3_ := Aside0.mk (below_drew1 HB.out)
           clear BK237
           clear BK238
           clear BK255
           clear HB
           have BK237 := n0_
           have BK238 := n1_
           have BK255 := n2_
           have HB := n3_
           clear n0_ n1_ n2_ n3_
           refine start_ (n := 23) (S := fun w' => w'.cell? ⟨gb237, 0, none⟩ = some (.int .u64 t241) ∧ w'.cell? ⟨gb237, 1, none⟩ = some (.int .u64 t242) ∧ w'.cell? ⟨gb237, 2, none⟩ = some (.int .u64 t243) ∧ w'.cell? ⟨gb237, 3, none⟩ = some (.string t244) ∧ w'.cell? ⟨gb237, 4, none⟩ = some (.string t245) ∧ w'.cell? ⟨gb238, 0, none⟩ = some (.int .u64 t246) ∧ w'.cell? ⟨gb238, 1, none⟩ = some (.int .u64 t247) ∧ w'.cell? ⟨gb238, 2, none⟩ = some (.int .u64 t248) ∧ w'.cell? ⟨gb238, 3, none⟩ = some (.string t249) ∧ w'.cell? ⟨gb238, 4, none⟩ = some (.string t250) ∧ w'.cell? ⟨gb255, 0, none⟩ = some (.int .u64 x256000_46) ∧ w'.cell? ⟨gb255, 1, none⟩ = some (.int .u64 x256001_46) ∧ w'.cell? ⟨gb255, 2, none⟩ = some (.int .u64 x256002_46) ∧ w'.cell? ⟨gb255, 3, none⟩ = some (.string x256003_46) ∧ w'.cell? ⟨gb255, 4, none⟩ = some (.string x256004_46)) (ds := []) #[false, false, false, false, false, false, false, false, false, false, false, false, false, false, false, false, false, false, false, false, false, false, false] (by kernel_rfl) rfl rfl ⟨(blk_cell BK237.out 0).trans rfl, (blk_cell BK237.out 1).trans rfl, (blk_cell BK237.out 2).trans rfl, (blk_cell BK237.out 3).trans rfl, (blk_cell BK237.out 4).trans rfl, (blk_cell BK238.out 0).trans rfl, (blk_cell BK238.out 1).trans rfl, (blk_cell BK238.out 2).trans rfl, (blk_cell BK238.out 3).trans rfl, (blk_cell BK238.out 4).trans rfl, (blk_cell BK255.out 0).trans rfl, (blk_cell BK255.out 1).trans rfl, (blk_cell BK255.out 2).trans rfl, (blk_cell BK255.out 3).trans rfl, (blk_cell BK255.out 4).trans rfl⟩ (fun hHeld => ?_); refine with_tabW laws_FnSemverTermTilde.tab9 laws_FnSemverTermTilde.bits9 (fun HT_ HW_ => ?_)
           generalize wc.drew = w67 at BK237 BK238 BK255 HB hHeld ⊢
           refine pure_ (i := 1) (N := some 55) (v := ?_) (a' := ?_) #[false, true, false, false, false, false, false, false, false, false, false, false, false, false, false, false, false, false, false, false, false, false, false] rfl rfl (any_of HT_.out (by kernel_rfl)) (fun _ _ _ h => h) (Or.inl ⟨by rfl, ?_⟩) ?_ ?_
           rotate_left
           ·
            intro w'
            go_simp
            with_reducible rfl
           rotate_left
           ·
            simp only [Act.put, List.setIfInBounds_toArray, List.set_cons_zero, List.set_cons_succ, i64_w, i32_w]
            rfl
           refine pure_ (i := 5) (N := some 59) (v := ?_) (a' := ?_) #[false, true, false, false, false, true, false, false, false, false, false, false, false, false, false, false, false, false, false, false, false, false, false] rfl rfl (any_of HT_.out (by kernel_rfl)) (fun _ _ _ h => h) (Or.inl ⟨by rfl, ?_⟩) ?_ ?_
           rotate_left
           ·
            intro w'
            go_simp
            with_reducible rfl
           rotate_left
           ·
            simp only [Act.put, List.setIfInBounds_toArray, List.set_cons_zero, List.set_cons_succ, i64_w, i32_w]
            rfl
           refine take_ (i := 0) (N := some 54) (v := ?_) (a' := ?_) #[true, true, false, false, false, true, false, false, false, false, false, false, false, false, false, false, false, false, false, false, false, false, false] rfl rfl (take_ofW HT_.out HW_.out (by kernel_rfl)) (fun _ _ _ h => h) (Or.inl ⟨by rfl, ?_⟩) hHeld ?_ ?_
           rotate_left
           ·
            rintro w' ⟨s0, s1, s2, s3, s4, s5, s6, s7, s8, s9, s10, s11, s12, s13, s14⟩
            go_simp
            with_reducible rfl
           rotate_left
           ·
            simp only [Act.put, List.setIfInBounds_toArray, List.set_cons_zero, List.set_cons_succ, i64_w, i32_w]
            rfl
           refine take_ (i := 2) (N := some 56) (v := ?_) (a' := ?_) #[true, true, true, false, false, true, false, false, false, false, false, false, false, false, false, false, false, false, false, false, false, false, false] rfl rfl (take_ofW HT_.out HW_.out (by kernel_rfl)) (fun _ _ _ h => h) (Or.inl ⟨by rfl, ?_⟩) hHeld ?_ ?_
           rotate_left
           ·
            rintro w' ⟨s0, s1, s2, s3, s4, s5, s6, s7, s8, s9, s10, s11, s12, s13, s14⟩
            go_simp
            with_reducible rfl
           rotate_left
           ·
            simp only [Act.put, List.setIfInBounds_toArray, List.set_cons_zero, List.set_cons_succ, i64_w, i32_w]
            rfl
           refine take_ (i := 4) (N := some 58) (v := ?_) (a' := ?_) #[true, true, true, false, true, true, false, false, false, false, false, false, false, false, false, false, false, false, false, false, false, false, false] rfl rfl (take_ofW HT_.out HW_.out (by kernel_rfl)) (fun _ _ _ h => h) (Or.inl ⟨by rfl, ?_⟩) hHeld ?_ ?_
           rotate_left
           ·
            rintro w' ⟨s0, s1, s2, s3, s4, s5, s6, s7, s8, s9, s10, s11, s12, s13, s14⟩
            go_simp
            with_reducible rfl
           rotate_left
           ·
            simp only [Act.put, List.setIfInBounds_toArray, List.set_cons_zero, List.set_cons_succ, i64_w, i32_w]
            rfl
           refine take_ (i := 6) (N := some 60) (v := ?_) (a' := ?_) #[true, true, true, false, true, true, true, false, false, false, false, false, false, false, false, false, false, false, false, false, false, false, false] rfl rfl (take_ofW HT_.out HW_.out (by kernel_rfl)) (fun _ _ _ h => h) (Or.inl ⟨by rfl, ?_⟩) hHeld ?_ ?_
           rotate_left
           ·
            rintro w' ⟨s0, s1, s2, s3, s4, s5, s6, s7, s8, s9, s10, s11, s12, s13, s14⟩
            go_simp
            with_reducible rfl
           rotate_left
           ·
            simp only [Act.put, List.setIfInBounds_toArray, List.set_cons_zero, List.set_cons_succ, i64_w, i32_w]
            rfl
           refine one_ (i := 3) (N := some 57) #[true, true, true, true, true, true, true, false, false, false, false, false, false, false, false, false, false, false, false, false, false, false, false] rfl rfl (one_of HT_.out (by kernel_rfl)) (by decide) (fun K hK => ?_)
           refine goes_ Tryd.func23 (by kernel_rfl) rfl #[.int .i64 6, .agg #[.int .u64 t241, .int .u64 t242, .int .u64 t243, .string t244, .string t245], .int .i64 a1, .agg #[.int .u64 t246, .int .u64 t247, .int .u64 t248, .string t249, .string t250]] (by rfl) rfl rfl (by (try simp only [List.map_toArray, List.map_cons, List.map_nil]); first | done | rfl | (simp only [List.length_drop, List.length_take]; rfl)) ?_
           with_reducible refine (laws_stHolds.calls 6 t241 t242 t243 t244 t245 a1 t246 t247 t248 t249 t250 t256 _ ?side1 A60.out).mono ?_
           (case side1 => exact HStd.out.below (by repeat (first | (with_reducible first | exact HB.out | apply below_alloc | apply pw_below_drewN | apply below_drew1 | refine below_set ?_ GE237.out | refine below_set ?_ GE238.out | refine below_set ?_ GE255.out) | exact HB.out)))
           rintro e w68 ⟨rfl, hb⟩
           refine ⟨_, rfl, ?_⟩
           have n0_ := Aside0.mk (blk_below (g := gb237) (o := .cells #[.int .u64 t241, .int .u64 t242, .int .u64 t243, .string t244, .string t245] 26 (0, 0)) (by (with_reducible repeat (first | refine blk_drewN ?_ _ | refine blk_drew ?_ | refine blk_alloc ?_ _)); exact BK237.out) hb)
           have n1_ := Aside0.mk (blk_below (g := gb238) (o := .cells #[.int .u64 t246, .int .u64 t247, .int .u64 t248, .string t249, .string t250] 26 (0, 0)) (by (with_reducible repeat (first | refine blk_drewN ?_ _ | refine blk_drew ?_ | refine blk_alloc ?_ _)); exact BK238.out) hb)
           have n2_ := Aside0.mk (blk_below (g := gb255) (o := .cells #[.int .u64 x256000_46, .int .u64 x256001_46, .int .u64 x256002_46, .string x256003_46, .string x256004_46] 26 (0, 0)) (by (with_reducible repeat (first | refine blk_drewN ?_ _ | refine blk_drew ?_ | refine blk_alloc ?_ _)); exact BK255.out) hb)
           have n3_ := Aside0.mk (below_step (by repeat (first | (with_reducible first | exact HB.out | apply below_alloc | apply pw_below_drewN | apply below_drew1 | refine below_set ?_ GE237.out | refine below_set ?_ GE238.out | refine below_set ?_ GE255.out) | exact HB.out)) hb)
           clear BK237
           clear BK238
           clear BK255
           clear HB
           have BK237 := n0_
           have BK238 := n1_
           have BK255 := n2_
           have HB := n3_
           clear n0_ n1_ n2_ n3_
           (try clear hb)
           (try clear hb2)
           (try clear hk)
           (try clear hi)
           refine hK.out _ _ ⟨(blk_cell BK237.out 0).trans rfl, (blk_cell BK237.out 1).trans rfl, (blk_cell BK237.out 2).trans rfl, (blk_cell BK237.out 3).trans rfl, (blk_cell BK237.out 4).trans rfl, (blk_cell BK238.out 0).trans rfl, (blk_cell BK238.out 1).trans rfl, (blk_cell BK238.out 2).trans rfl, (blk_cell BK238.out 3).trans rfl, (blk_cell BK238.out 4).trans rfl, (blk_cell BK255.out 0).trans rfl, (blk_cell BK255.out 1).trans rfl, (blk_cell BK255.out 2).trans rfl, (blk_cell BK255.out 3).trans rfl, (blk_cell BK255.out 4).trans rfl⟩ (fun hHeld => ?_)
           clear hK K
           refine norm_ (a' := ?_) ?_ ?_
           rotate_left
           ·
            show Act.put _ (some 57) _ = _
            simp only [Act.put, List.setIfInBounds_toArray, List.set_cons_zero, List.set_cons_succ, i64_w, i32_w]
            rfl
           refine one_ (i := 7) (N := some 61) #[true, true, true, true, true, true, true, true, false, false, false, false, false, false, false, false, false, false, false, false, false, false, false] rfl rfl (one_of HT_.out (by kernel_rfl)) (by decide) (fun K hK => ?_)
           refine goes_ Tryd.func23 (by kernel_rfl) rfl #[.int .i64 4, .agg #[.int .u64 t241, .int .u64 t242, .int .u64 t243, .string t244, .string t245], .int .i64 a1, .agg #[.int .u64 t246, .int .u64 t247, .int .u64 t248, .string t249, .string t250]] (by rfl) rfl rfl (by (try simp only [List.map_toArray, List.map_cons, List.map_nil]); first | done | rfl | (simp only [List.length_drop, List.length_take]; rfl)) ?_
           with_reducible refine (laws_stHolds.calls 4 t241 t242 t243 t244 t245 a1 t246 t247 t248 t249 t250 true _ ?side1 A61.out).mono ?_
           (case side1 => exact HStd.out.below (by repeat (first | (with_reducible first | exact HB.out | apply below_alloc | apply pw_below_drewN | apply below_drew1 | refine below_set ?_ GE237.out | refine below_set ?_ GE238.out | refine below_set ?_ GE255.out) | exact HB.out)))
           rintro e w69 ⟨rfl, hb⟩
           refine ⟨_, rfl, ?_⟩
           have n0_ := Aside0.mk (blk_below (g := gb237) (o := .cells #[.int .u64 t241, .int .u64 t242, .int .u64 t243, .string t244, .string t245] 26 (0, 0)) (by (with_reducible repeat (first | refine blk_drewN ?_ _ | refine blk_drew ?_ | refine blk_alloc ?_ _)); exact BK237.out) hb)
           have n1_ := Aside0.mk (blk_below (g := gb238) (o := .cells #[.int .u64 t246, .int .u64 t247, .int .u64 t248, .string t249, .string t250] 26 (0, 0)) (by (with_reducible repeat (first | refine blk_drewN ?_ _ | refine blk_drew ?_ | refine blk_alloc ?_ _)); exact BK238.out) hb)
           have n2_ := Aside0.mk (blk_below (g := gb255) (o := .cells #[.int .u64 x256000_46, .int .u64 x256001_46, .int .u64 x256002_46, .string x256003_46, .string x256004_46] 26 (0, 0)) (by (with_reducible repeat (first | refine blk_drewN ?_ _ | refine blk_drew ?_ | refine blk_alloc ?_ _)); exact BK255.out) hb)
           have n3_ := Aside0.mk (below_step (by repeat (first | (with_reducible first | exact HB.out | apply below_alloc | apply pw_below_drewN | apply below_drew1 | refine below_set ?_ GE237.out | refine below_set ?_ GE238.out | refine below_set ?_ GE255.out) | exact HB.out)) hb)
           clear BK237
           clear BK238
           clear BK255
           clear HB
           have BK237 := n0_
           have BK238 := n1_
           have BK255 := n2_
           have HB := n3_
           clear n0_ n1_ n2_ n3_
           (try clear hb)
           (try clear hb2)
           (try clear hk)
           (try clear hi)
           refine hK.out _ _ ⟨(blk_cell BK237.out 0).trans rfl, (blk_cell BK237.out 1).trans rfl, (blk_cell BK237.out 2).trans rfl, (blk_cell BK237.out 3).trans rfl, (blk_cell BK237.out 4).trans rfl, (blk_cell BK238.out 0).trans rfl, (blk_cell BK238.out 1).trans rfl, (blk_cell BK238.out 2).trans rfl, (blk_cell BK238.out 3).trans rfl, (blk_cell BK238.out 4).trans rfl, (blk_cell BK255.out 0).trans rfl, (blk_cell BK255.out 1).trans rfl, (blk_cell BK255.out 2).trans rfl, (blk_cell BK255.out 3).trans rfl, (blk_cell BK255.out 4).trans rfl⟩ (fun hHeld => ?_)
           clear hK K
           refine norm_ (a' := ?_) ?_ ?_
           rotate_left
           ·
            show Act.put _ (some 61) _ = _
            simp only [Act.put, List.setIfInBounds_toArray, List.set_cons_zero, List.set_cons_succ, i64_w, i32_w]
            rfl
           refine pure_ (i := 8) (N := some 62) (v := ?_) (a' := ?_) #[true, true, true, true, true, true, true, true, true, false, false, false, false, false, false, false, false, false, false, false, false, false, false] rfl rfl (any_of HT_.out (by kernel_rfl)) (fun _ _ _ h => h) (Or.inl ⟨by rfl, ?_⟩) ?_ ?_
           rotate_left
           ·
            intro w'
            go_simp
            with_reducible rfl
           rotate_left
           ·
            simp only [Act.put, List.setIfInBounds_toArray, List.set_cons_zero, List.set_cons_succ, i64_w, i32_w]
            rfl
           refine take_ (i := 9) (N := some 63) (v := ?_) (a' := ?_) #[true, true, true, true, true, true, true, true, true, true, false, false, false, false, false, false, false, false, false, false, false, false, false] rfl rfl (take_ofW HT_.out HW_.out (by kernel_rfl)) (fun _ _ _ h => h) (Or.inl ⟨by rfl, ?_⟩) hHeld ?_ ?_
           rotate_left
           ·
            rintro w' ⟨s0, s1, s2, s3, s4, s5, s6, s7, s8, s9, s10, s11, s12, s13, s14⟩
            go_simp
            with_reducible rfl
           rotate_left
           ·
            simp only [Act.put, List.setIfInBounds_toArray, List.set_cons_zero, List.set_cons_succ, i64_w, i32_w]
            rfl
           refine take_ (i := 10) (N := some 64) (v := ?_) (a' := ?_) #[true, true, true, true, true, true, true, true, true, true, true, false, false, false, false, false, false, false, false, false, false, false, false] rfl rfl (take_ofW HT_.out HW_.out (by kernel_rfl)) (fun _ _ _ h => h) (Or.inl ⟨by rfl, ?_⟩) hHeld ?_ ?_
           rotate_left
           ·
            rintro w' ⟨s0, s1, s2, s3, s4, s5, s6, s7, s8, s9, s10, s11, s12, s13, s14⟩
            go_simp
            with_reducible rfl
           rotate_left
           ·
            simp only [Act.put, List.setIfInBounds_toArray, List.set_cons_zero, List.set_cons_succ, i64_w, i32_w]
            rfl
           refine one_ (i := 11) (N := some 65) #[true, true, true, true, true, true, true, true, true, true, true, true, false, false, false, false, false, false, false, false, false, false, false] rfl rfl (one_of HT_.out (by kernel_rfl)) (by decide) (fun K hK => ?_)
           refine goes_ Tryd.func23 (by kernel_rfl) rfl #[.int .i64 3, .agg #[.int .u64 x256000_46, .int .u64 x256001_46, .int .u64 x256002_46, .string x256003_46, .string x256004_46], .int .i64 3, .agg #[.int .u64 t246, .int .u64 t247, .int .u64 t248, .string t249, .string t250]] (by rfl) rfl rfl (by (try simp only [List.map_toArray, List.map_cons, List.map_nil]); first | done | rfl | (simp only [List.length_drop, List.length_take]; rfl)) ?_
           with_reducible refine (laws_stHolds.calls 3 x256000_46 x256001_46 x256002_46 x256003_46 x256004_46 3 t246 t247 t248 t249 t250 t258 _ ?side1 A63.out).mono ?_
           (case side1 => exact HStd.out.below (by repeat (first | (with_reducible first | exact HB.out | apply below_alloc | apply pw_below_drewN | apply below_drew1 | refine below_set ?_ GE237.out | refine below_set ?_ GE238.out | refine below_set ?_ GE255.out) | exact HB.out)))
           rintro e w70 ⟨rfl, hb⟩
           refine ⟨_, rfl, ?_⟩
           have n0_ := Aside0.mk (blk_below (g := gb237) (o := .cells #[.int .u64 t241, .int .u64 t242, .int .u64 t243, .string t244, .string t245] 26 (0, 0)) (by (with_reducible repeat (first | refine blk_drewN ?_ _ | refine blk_drew ?_ | refine blk_alloc ?_ _)); exact BK237.out) hb)
           have n1_ := Aside0.mk (blk_below (g := gb238) (o := .cells #[.int .u64 t246, .int .u64 t247, .int .u64 t248, .string t249, .string t250] 26 (0, 0)) (by (with_reducible repeat (first | refine blk_drewN ?_ _ | refine blk_drew ?_ | refine blk_alloc ?_ _)); exact BK238.out) hb)
           have n2_ := Aside0.mk (blk_below (g := gb255) (o := .cells #[.int .u64 x256000_46, .int .u64 x256001_46, .int .u64 x256002_46, .string x256003_46, .string x256004_46] 26 (0, 0)) (by (with_reducible repeat (first | refine blk_drewN ?_ _ | refine blk_drew ?_ | refine blk_alloc ?_ _)); exact BK255.out) hb)
           have n3_ := Aside0.mk (below_step (by repeat (first | (with_reducible first | exact HB.out | apply below_alloc | apply pw_below_drewN | apply below_drew1 | refine below_set ?_ GE237.out | refine below_set ?_ GE238.out | refine below_set ?_ GE255.out) | exact HB.out)) hb)
           clear BK237
           clear BK238
           clear BK255
           clear HB
           have BK237 := n0_
           have BK238 := n1_
           have BK255 := n2_
           have HB := n3_
           clear n0_ n1_ n2_ n3_
           (try clear hb)
           (try clear hb2)
           (try clear hk)
           (try clear hi)
           refine hK.out _ _ ⟨(blk_cell BK237.out 0).trans rfl, (blk_cell BK237.out 1).trans rfl, (blk_cell BK237.out 2).trans rfl, (blk_cell BK237.out 3).trans rfl, (blk_cell BK237.out 4).trans rfl, (blk_cell BK238.out 0).trans rfl, (blk_cell BK238.out 1).trans rfl, (blk_cell BK238.out 2).trans rfl, (blk_cell BK238.out 3).trans rfl, (blk_cell BK238.out 4).trans rfl, (blk_cell BK255.out 0).trans rfl, (blk_cell BK255.out 1).trans rfl, (blk_cell BK255.out 2).trans rfl, (blk_cell BK255.out 3).trans rfl, (blk_cell BK255.out 4).trans rfl⟩ (fun hHeld => ?_)
           clear hK K
           refine norm_ (a' := ?_) ?_ ?_
           rotate_left
           ·
            show Act.put _ (some 65) _ = _
            simp only [Act.put, List.setIfInBounds_toArray, List.set_cons_zero, List.set_cons_succ, i64_w, i32_w]
            rfl
           refine pure_ (i := 12) (N := some 66) (v := ?_) (a' := ?_) #[true, true, true, true, true, true, true, true, true, true, true, true, true, false, false, false, false, false, false, false, false, false, false] rfl rfl (any_of HT_.out (by kernel_rfl)) (fun _ _ _ h => h) (Or.inl ⟨by rfl, ?_⟩) ?_ ?_
           rotate_left
           ·
            intro w'
            go_simp
            with_reducible rfl
           rotate_left
           ·
            simp only [Act.put, List.setIfInBounds_toArray, List.set_cons_zero, List.set_cons_succ, i64_w, i32_w]
            rfl
           refine pure_ (i := 13) (N := some 67) (v := ?_) (a' := ?_) #[true, true, true, true, true, true, true, true, true, true, true, true, true, true, false, false, false, false, false, false, false, false, false] rfl rfl (any_of HT_.out (by kernel_rfl)) (fun _ _ _ h => h) (Or.inl ⟨by rfl, ?_⟩) ?_ ?_
           rotate_left
           ·
            intro w'
            go_simp
            with_reducible rfl
           rotate_left
           ·
            simp only [Act.put, List.setIfInBounds_toArray, List.set_cons_zero, List.set_cons_succ, i64_w, i32_w]
            rfl
           refine pure_ (i := 14) (N := some 68) (v := ?_) (a' := ?_) #[true, true, true, true, true, true, true, true, true, true, true, true, true, true, true, false, false, false, false, false, false, false, false] rfl rfl (any_of HT_.out (by kernel_rfl)) (fun _ _ _ h => h) (Or.inl ⟨by rfl, ?_⟩) ?_ ?_
           rotate_left
           ·
            intro w'
            go_simp
            with_reducible rfl
           rotate_left
           ·
            simp only [Act.put, List.setIfInBounds_toArray, List.set_cons_zero, List.set_cons_succ, i64_w, i32_w]
            rfl
           refine pure_ (i := 16) (N := some 70) (v := ?_) (a' := ?_) #[true, true, true, true, true, true, true, true, true, true, true, true, true, true, true, false, true, false, false, false, false, false, false] rfl rfl (any_of HT_.out (by kernel_rfl)) (fun _ _ _ h => h) (Or.inl ⟨by rfl, ?_⟩) ?_ ?_
           rotate_left
           ·
            intro w'
            go_simp
            with_reducible rfl
           rotate_left
           ·
            simp only [Act.put, List.setIfInBounds_toArray, List.set_cons_zero, List.set_cons_succ, i64_w, i32_w]
            rfl
           refine pure_ (i := 18) (N := some 72) (v := ?_) (a' := ?_) #[true, true, true, true, true, true, true, true, true, true, true, true, true, true, true, false, true, false, true, false, false, false, false] rfl rfl (any_of HT_.out (by kernel_rfl)) (fun _ _ _ h => h) (Or.inl ⟨by rfl, ?_⟩) ?_ ?_
           rotate_left
           ·
            intro w'
            go_simp
            with_reducible rfl
           rotate_left
           ·
            simp only [Act.put, List.setIfInBounds_toArray, List.set_cons_zero, List.set_cons_succ, i64_w, i32_w]
            rfl
           refine take_ (i := 15) (N := some 69) (v := ?_) (a' := ?_) #[true, true, true, true, true, true, true, true, true, true, true, true, true, true, true, true, true, false, true, false, false, false, false] rfl rfl (take_ofW HT_.out HW_.out (by kernel_rfl)) (fun _ _ _ h => h) (Or.inl ⟨by rfl, ?_⟩) hHeld ?_ ?_
           rotate_left
           ·
            rintro w' ⟨s0, s1, s2, s3, s4, s5, s6, s7, s8, s9, s10, s11, s12, s13, s14⟩
            go_simp
            with_reducible rfl
           rotate_left
           ·
            simp only [Act.put, List.setIfInBounds_toArray, List.set_cons_zero, List.set_cons_succ, i64_w, i32_w]
            rfl
           refine take_ (i := 17) (N := some 71) (v := ?_) (a' := ?_) #[true, true, true, true, true, true, true, true, true, true, true, true, true, true, true, true, true, true, true, false, false, false, false] rfl rfl (take_ofW HT_.out HW_.out (by kernel_rfl)) (fun _ _ _ h => h) (Or.inl ⟨by rfl, ?_⟩) hHeld ?_ ?_
           rotate_left
           ·
            rintro w' ⟨s0, s1, s2, s3, s4, s5, s6, s7, s8, s9, s10, s11, s12, s13, s14⟩
            go_simp
            with_reducible rfl
           rotate_left
           ·
            simp only [Act.put, List.setIfInBounds_toArray, List.set_cons_zero, List.set_cons_succ, i64_w, i32_w]
            rfl
           refine one_ (i := 19) (N := some 73) #[true, true, true, true, true, true, true, true, true, true, true, true, true, true, true, true, true, true, true, true, false, false, false] rfl rfl (one_of HT_.out (by kernel_rfl)) (by decide) (fun K hK => ?_)
           refine goes_ Tryd.func24 (by kernel_rfl) rfl #[.agg #[.int .u64 t241, .int .u64 t242, .int .u64 t243, .string t244, .string t245], .int .i64 a1] (by rfl) rfl rfl (by (try simp only [List.map_toArray, List.map_cons, List.map_nil]); first | done | rfl | (simp only [List.length_drop, List.length_take]; rfl)) ?_
           with_reducible refine (laws_scFirst.calls t241 t242 t243 t244 t245 a1 t259 t260 t261 t262 t263 _ A65.out).mono ?_
           rintro e w71 ⟨rfl, hb⟩
           refine ⟨_, rfl, ?_⟩
           have n0_ := Aside0.mk (blk_below (g := gb237) (o := .cells #[.int .u64 t241, .int .u64 t242, .int .u64 t243, .string t244, .string t245] 26 (0, 0)) (by (with_reducible repeat (first | refine blk_drewN ?_ _ | refine blk_drew ?_ | refine blk_alloc ?_ _)); exact BK237.out) hb)
           have n1_ := Aside0.mk (blk_below (g := gb238) (o := .cells #[.int .u64 t246, .int .u64 t247, .int .u64 t248, .string t249, .string t250] 26 (0, 0)) (by (with_reducible repeat (first | refine blk_drewN ?_ _ | refine blk_drew ?_ | refine blk_alloc ?_ _)); exact BK238.out) hb)
           have n2_ := Aside0.mk (blk_below (g := gb255) (o := .cells #[.int .u64 x256000_46, .int .u64 x256001_46, .int .u64 x256002_46, .string x256003_46, .string x256004_46] 26 (0, 0)) (by (with_reducible repeat (first | refine blk_drewN ?_ _ | refine blk_drew ?_ | refine blk_alloc ?_ _)); exact BK255.out) hb)
           have n3_ := Aside0.mk (below_step (by repeat (first | (with_reducible first | exact HB.out | apply below_alloc | apply pw_below_drewN | apply below_drew1 | refine below_set ?_ GE237.out | refine below_set ?_ GE238.out | refine below_set ?_ GE255.out) | exact HB.out)) hb)
           clear BK237
           clear BK238
           clear BK255
           clear HB
           have BK237 := n0_
           have BK238 := n1_
           have BK255 := n2_
           have HB := n3_
           clear n0_ n1_ n2_ n3_
           (try clear hb)
           (try clear hb2)
           (try clear hk)
           (try clear hi)
           refine hK.out _ _ ⟨(blk_cell BK237.out 0).trans rfl, (blk_cell BK237.out 1).trans rfl, (blk_cell BK237.out 2).trans rfl, (blk_cell BK237.out 3).trans rfl, (blk_cell BK237.out 4).trans rfl, (blk_cell BK238.out 0).trans rfl, (blk_cell BK238.out 1).trans rfl, (blk_cell BK238.out 2).trans rfl, (blk_cell BK238.out 3).trans rfl, (blk_cell BK238.out 4).trans rfl, (blk_cell BK255.out 0).trans rfl, (blk_cell BK255.out 1).trans rfl, (blk_cell BK255.out 2).trans rfl, (blk_cell BK255.out 3).trans rfl, (blk_cell BK255.out 4).trans rfl⟩ (fun hHeld => ?_)
           clear hK K
           refine norm_ (a' := ?_) ?_ ?_
           rotate_left
           ·
            show Act.put _ (some 73) _ = _
            simp only [Act.put, List.setIfInBounds_toArray, List.set_cons_zero, List.set_cons_succ, i64_w, i32_w]
            rfl
           refine one_ (i := 20) (N := some 74) #[true, true, true, true, true, true, true, true, true, true, true, true, true, true, true, true, true, true, true, true, true, false, false] rfl rfl (one_of HT_.out (by kernel_rfl)) (by decide) (fun K hK => ?_)
           refine goes_ Tryd.func23 (by kernel_rfl) rfl #[.int .i64 6, .agg #[.int .u64 t241, .int .u64 t242, .int .u64 t243, .string t244, .string t245], .int .i64 a1, .agg #[.int .u64 t259, .int .u64 t260, .int .u64 t261, .string t262, .string t263]] (by rfl) rfl rfl (by (try simp only [List.map_toArray, List.map_cons, List.map_nil]); first | done | rfl | (simp only [List.length_drop, List.length_take]; rfl)) ?_
           with_reducible refine (laws_stHolds.calls 6 t241 t242 t243 t244 t245 a1 t259 t260 t261 t262 t263 t264 _ ?side1 A66.out).mono ?_
           (case side1 => exact HStd.out.below (by repeat (first | (with_reducible first | exact HB.out | apply below_alloc | apply pw_below_drewN | apply below_drew1 | refine below_set ?_ GE237.out | refine below_set ?_ GE238.out | refine below_set ?_ GE255.out) | exact HB.out)))
           rintro e w72 ⟨rfl, hb⟩
           refine ⟨_, rfl, ?_⟩
           have n0_ := Aside0.mk (blk_below (g := gb237) (o := .cells #[.int .u64 t241, .int .u64 t242, .int .u64 t243, .string t244, .string t245] 26 (0, 0)) (by (with_reducible repeat (first | refine blk_drewN ?_ _ | refine blk_drew ?_ | refine blk_alloc ?_ _)); exact BK237.out) hb)
           have n1_ := Aside0.mk (blk_below (g := gb238) (o := .cells #[.int .u64 t246, .int .u64 t247, .int .u64 t248, .string t249, .string t250] 26 (0, 0)) (by (with_reducible repeat (first | refine blk_drewN ?_ _ | refine blk_drew ?_ | refine blk_alloc ?_ _)); exact BK238.out) hb)
           have n2_ := Aside0.mk (blk_below (g := gb255) (o := .cells #[.int .u64 x256000_46, .int .u64 x256001_46, .int .u64 x256002_46, .string x256003_46, .string x256004_46] 26 (0, 0)) (by (with_reducible repeat (first | refine blk_drewN ?_ _ | refine blk_drew ?_ | refine blk_alloc ?_ _)); exact BK255.out) hb)
           have n3_ := Aside0.mk (below_step (by repeat (first | (with_reducible first | exact HB.out | apply below_alloc | apply pw_below_drewN | apply below_drew1 | refine below_set ?_ GE237.out | refine below_set ?_ GE238.out | refine below_set ?_ GE255.out) | exact HB.out)) hb)
           clear BK237
           clear BK238
           clear BK255
           clear HB
           have BK237 := n0_
           have BK238 := n1_
           have BK255 := n2_
           have HB := n3_
           clear n0_ n1_ n2_ n3_
           (try clear hb)
           (try clear hb2)
           (try clear hk)
           (try clear hi)
           refine hK.out _ _ ⟨(blk_cell BK237.out 0).trans rfl, (blk_cell BK237.out 1).trans rfl, (blk_cell BK237.out 2).trans rfl, (blk_cell BK237.out 3).trans rfl, (blk_cell BK237.out 4).trans rfl, (blk_cell BK238.out 0).trans rfl, (blk_cell BK238.out 1).trans rfl, (blk_cell BK238.out 2).trans rfl, (blk_cell BK238.out 3).trans rfl, (blk_cell BK238.out 4).trans rfl, (blk_cell BK255.out 0).trans rfl, (blk_cell BK255.out 1).trans rfl, (blk_cell BK255.out 2).trans rfl, (blk_cell BK255.out 3).trans rfl, (blk_cell BK255.out 4).trans rfl⟩ (fun hHeld => ?_)
           clear hK K
           refine norm_ (a' := ?_) ?_ ?_
           rotate_left
           ·
            show Act.put _ (some 74) _ = _
            simp only [Act.put, List.setIfInBounds_toArray, List.set_cons_zero, List.set_cons_succ, i64_w, i32_w]
            rfl
           refine pure_ (i := 21) (N := some 75) (v := ?_) (a' := ?_) #[true, true, true, true, true, true, true, true, true, true, true, true, true, true, true, true, true, true, true, true, true, true, false] rfl rfl (any_of HT_.out (by kernel_rfl)) (fun _ _ _ h => h) (Or.inl ⟨by rfl, ?_⟩) ?_ ?_
           rotate_left
           ·
            intro w'
            go_simp
            with_reducible rfl
           rotate_left
           ·
            simp only [Act.put, List.setIfInBounds_toArray, List.set_cons_zero, List.set_cons_succ, i64_w, i32_w]
            rfl
           refine pure_ (i := 22) (N := some 6) (v := ?_) (a' := ?_) #[true, true, true, true, true, true, true, true, true, true, true, true, true, true, true, true, true, true, true, true, true, true, true] rfl rfl (any_of HT_.out (by kernel_rfl)) (fun _ _ _ h => h) (Or.inl ⟨by rfl, ?_⟩) ?_ ?_
           rotate_left
           ·
            intro w'
            go_simp
            with_reducible rfl
           rotate_left
           ·
            simp only [Act.put, List.setIfInBounds_toArray, List.set_cons_zero, List.set_cons_succ, i64_w, i32_w]
            rfl
           refine done_ (done_of HT_.out (by kernel_rfl)) ?_
           try go_wp2
           go_ret
           exact ⟨by first | rfl | (simp [errW_none, errW_some] <;> rfl) | (simp [*, errW_none, errW_some] <;> rfl) | (simp [bneNil]; done), by repeat (first | (with_reducible first | exact HB.out | apply below_alloc | apply pw_below_drewN | apply below_drew1 | refine below_set ?_ GE237.out | refine below_set ?_ GE238.out | refine below_set ?_ GE255.out) | exact HB.out)⟩
          ·
           rw [if_neg c64] at H
           have c64b0 : (t256 == t258) = false := by simpa using c64
           (try (have c64b1 : decide (t256 = t258) = false := by simpa using c64))
           (try (have c64b2 : (t256 == t258) = false := by simpa using c64))
           (try (have c64b3 : ¬ (t256 = t258) := by simpa using c64))
           clear c64
           obtain rfl := Option.some.inj H
           try go_wp2
           have n0_ := Aside0.mk (blk_drew BK237.out)
           have n1_ := Aside0.mk (blk_drew BK238.out)
           have n2_ := Aside0.mk (blk_drew BK255.out)
           have n3_ := Aside0.mk (below_drew1 HB.out)
           clear BK237
           clear BK238
           clear BK255
           clear HB
           have BK237 := n0_
           have BK238 := n1_
           have BK255 := n2_
           have HB := n3_
           clear n0_ n1_ n2_ n3_
           refine start_ (n := 23) (S := fun w' => w'.cell? ⟨gb237, 0, none⟩ = some (.int .u64 t241) ∧ w'.cell? ⟨gb237, 1, none⟩ = some (.int .u64 t242) ∧ w'.cell? ⟨gb237, 2, none⟩ = some (.int .u64 t243) ∧ w'.cell? ⟨gb237, 3, none⟩ = some (.string t244) ∧ w'.cell? ⟨gb237, 4, none⟩ = some (.string t245) ∧ w'.cell? ⟨gb238, 0, none⟩ = some (.int .u64 t246) ∧ w'.cell? ⟨gb238, 1, none⟩ = some (.int .u64 t247) ∧ w'.cell? ⟨gb238, 2, none⟩ = some (.int .u64 t248) ∧ w'.cell? ⟨gb238, 3, none⟩ = some (.string t249) ∧ w'.cell? ⟨gb238, 4, none⟩ = some (.string t250) ∧ w'.cell? ⟨gb255, 0, none⟩ = some (.int .u64 x256000_46) ∧ w'.cell? ⟨gb255, 1, none⟩ = some (.int .u64 x256001_46) ∧ w'.cell? ⟨gb255, 2, none⟩ = some (.int .u64 x256002_46) ∧ w'.cell? ⟨gb255, 3, none⟩ = some (.string x256003_46) ∧ w'.cell? ⟨gb255, 4, none⟩ = some (.string x256004_46)) (ds := []) #[false, false, false, false, false, false, false, false, false, false, false, false, false, false, false, false, false, false, false, false, false, false, false] (by kernel_rfl) rfl rfl ⟨(blk_cell BK237.out 0).trans rfl, (blk_cell BK237.out 1).trans rfl, (blk_cell BK237.out 2).trans rfl, (blk_cell BK237.out 3).trans rfl, (blk_cell BK237.out 4).trans rfl, (blk_cell BK238.out 0).trans rfl, (blk_cell BK238.out 1).trans rfl, (blk_cell BK238.out 2).trans rfl, (blk_cell BK238.out 3).trans rfl, (blk_cell BK238.out 4).trans rfl, (blk_cell BK255.out 0).trans rfl, (blk_cell BK255.out 1).trans rfl, (blk_cell BK255.out 2).trans rfl, (blk_cell BK255.out 3).trans rfl, (blk_cell BK255.out 4).trans rfl⟩ (fun hHeld => ?_); refine with_tabW laws_FnSemverTermTilde.tab9 laws_FnSemverTermTilde.bits9 (fun HT_ HW_ => ?_)
           generalize wc.drew = w73 at BK237 BK238 BK255 HB hHeld ⊢
           refine pure_ (i := 1) (N := some 55) (v := ?_) (a' := ?_) #[false, true, false, false, false, false, false, false, false, false, false, false, false, false, false, false, false, false, false, false, false, false, false] rfl rfl (any_of HT_.out (by kernel_rfl)) (fun _ _ _ h => h) (Or.inl ⟨by rfl, ?_⟩) ?_ ?_
           rotate_left
           ·
            intro w'
            go_simp
            with_reducible rfl
           rotate_left
           ·
            simp only [Act.put, List.setIfInBounds_toArray, List.set_cons_zero, List.set_cons_succ, i64_w, i32_w]
            rfl
           refine pure_ (i := 5) (N := some 59) (v := ?_) (a' := ?_) #[false, true, false, false, false, true, false, false, false, false, false, false, false, false, false, false, false, false, false, false, false, false, false] rfl rfl (any_of HT_.out (by kernel_rfl)) (fun _ _ _ h => h) (Or.inl ⟨by rfl, ?_⟩) ?_ ?_
           rotate_left
           ·
            intro w'
            go_simp
            with_reducible rfl
           rotate_left
           ·
            simp only [Act.put, List.setIfInBounds_toArray, List.set_cons_zero, List.set_cons_succ, i64_w, i32_w]
            rfl
           refine take_ (i := 0) (N := some 54) (v := ?_) (a' := ?_) #[true, true, false, false, false, true, false, false, false, false, false, false, false, false, false, false, false, false, false, false, false, false, false] rfl rfl (take_ofW HT_.out HW_.out (by kernel_rfl)) (fun _ _ _ h => h) (Or.inl ⟨by rfl, ?_⟩) hHeld ?_ ?_
           rotate_left
           ·
            rintro w' ⟨s0, s1, s2, s3, s4, s5, s6, s7, s8, s9, s10, s11, s12, s13, s14⟩
            go_simp
            with_reducible rfl
           rotate_left
           ·
            simp only [Act.put, List.setIfInBounds_toArray, List.set_cons_zero, List.set_cons_succ, i64_w, i32_w]
            rfl
           refine take_ (i := 2) (N := some 56) (v := ?_) (a' := ?_) #[true, true, true, false, false, true, false, false, false, false, false, false, false, false, false, false, false, false, false, false, false, false, false] rfl rfl (take_ofW HT_.out HW_.out (by kernel_rfl)) (fun _ _ _ h => h) (Or.inl ⟨by rfl, ?_⟩) hHeld ?_ ?_
           rotate_left
           ·
            rintro w' ⟨s0, s1, s2, s3, s4, s5, s6, s7, s8, s9, s10, s11, s12, s13, s14⟩
            go_simp
            with_reducible rfl
           rotate_left
           ·
            simp only [Act.put, List.setIfInBounds_toArray, List.set_cons_zero, List.set_cons_succ, i64_w, i32_w]
            rfl
           refine take_ (i := 4) (N := some 58) (v := ?_) (a' := ?_) #[true, true, true, false, true, true, false, false, false, false, false, false, false, false, false, false, false, false, false, false, false, false, false] rfl rfl (take_ofW HT_.out HW_.out (by kernel_rfl)) (fun _ _ _ h => h) (Or.inl ⟨by rfl, ?_⟩) hHeld ?_ ?_
           rotate_left
           ·
            rintro w' ⟨s0, s1, s2, s3, s4, s5, s6, s7, s8, s9, s10, s11, s12, s13, s14⟩
            go_simp
            with_reducible rfl
           rotate_left
           ·
            simp only [Act.put, List.setIfInBounds_toArray, List.set_cons_zero, List.set_cons_succ, i64_w, i32_w]
            rfl
           refine take_ (i := 6) (N := some 60) (v := ?_) (a' := ?_) #[true, true, true, false, true, true, true, false, false, false, false, false, false, false, false, false, false, false, false, false, false, false, false] rfl rfl (take_ofW HT_.out HW_.out (by kernel_rfl)) (fun _ _ _ h => h) (Or.inl ⟨by rfl, ?_⟩) hHeld ?_ ?_
           rotate_left
           ·
            rintro w' ⟨s0, s1, s2, s3, s4, s5, s6, s7, s8, s9, s10, s11, s12, s13, s14⟩
            go_simp
            with_reducible rfl
           rotate_left
           ·
            simp only [Act.put, List.setIfInBounds_toArray, List.set_cons_zero, List.set_cons_succ, i64_w, i32_w]
            rfl
           refine one_ (i := 3) (N := some 57) #[true, true, true, true, true, true, true, false, false, false, false, false, false, false, false, false, false, false, false, false, false, false, false] rfl rfl (one_of HT_.out (by kernel_rfl)) (by decide) (fun K hK => ?_)
           refine goes_ Tryd.func23 (by kernel_rfl) rfl #[.int .i64 6, .agg #[.int .u64 t241, .int .u64 t242, .int .u64 t243, .string t244, .string t245], .int .i64 a1, .agg #[.int .u64 t246, .int .u64 t247, .int .u64 t248, .string t249, .string t250]] (by rfl) rfl rfl (by (try simp only [List.map_toArray, List.map_cons, List.map_nil]); first | done | rfl | (simp only [List.length_drop, List.length_take]; rfl)) ?_
           with_reducible refine (laws_stHolds.calls 6 t241 t242 t243 t244 t245 a1 t246 t247 t248 t249 t250 t256 _ ?side1 A60.out).mono ?_
           (case side1 => exact HStd.out.below (by repeat (first | (with_reducible first | exact HB.out | apply below_alloc | apply pw_below_drewN | apply below_drew1 | refine below_set ?_ GE237.out | refine below_set ?_ GE238.out | refine below_set ?_ GE255.out) | exact HB.out)))
           rintro e w74 ⟨rfl, hb⟩
           refine ⟨_, rfl, ?_⟩
           have n0_ := Aside0.mk (blk_below (g := gb237) (o := .cells #[.int .u64 t241, .int .u64 t242, .int .u64 t243, .string t244, .string t245] 26 (0, 0)) (by (with_reducible repeat (first | refine blk_drewN ?_ _ | refine blk_drew ?_ | refine blk_alloc ?_ _)); exact BK237.out) hb)
           have n1_ := Aside0.mk (blk_below (g := gb238) (o := .cells #[.int .u64 t246, .int .u64 t247, .int .u64 t248, .string t249, .string t250] 26 (0, 0)) (by (with_reducible repeat (first | refine blk_drewN ?_ _ | refine blk_drew ?_ | refine blk_alloc ?_ _)); exact BK238.out) hb)
           have n2_ := Aside0.mk (blk_below (g := gb255) (o := .cells #[.int .u64 x256000_46, .int .u64 x256001_46, .int .u64 x256002_46, .string x256003_46, .string x256004_46] 26 (0, 0)) (by (with_reducible repeat (first | refine blk_drewN ?_ _ | refine blk_drew ?_ | refine blk_alloc ?_ _)); exact BK255.out) hb)
           have n3_ := Aside0.mk (below_step (by repeat (first | (with_reducible first | exact HB.out | apply below_alloc | apply pw_below_drewN | apply below_drew1 | refine below_set ?_ GE237.out | refine below_set ?_ GE238.out | refine below_set ?_ GE255.out) | exact HB.out)) hb)
           clear BK237
           clear BK238
           clear BK255
           clear HB
           have BK237 := n0_
           have BK238 := n1_
           have BK255 := n2_
           have HB := n3_
           clear n0_ n1_ n2_ n3_
           (try clear hb)
           (try clear hb2)
           (try clear hk)
           (try clear hi)
           refine hK.out _ _ ⟨(blk_cell BK237.out 0).trans rfl, (blk_cell BK237.out 1).trans rfl, (blk_cell BK237.out 2).trans rfl, (blk_cell BK237.out 3).trans rfl, (blk_cell BK237.out 4).trans rfl, (blk_cell BK238.out 0).trans rfl, (blk_cell BK238.out 1).trans rfl, (blk_cell BK238.out 2).trans rfl, (blk_cell BK238.out 3).trans rfl, (blk_cell BK238.out 4).trans rfl, (blk_cell BK255.out 0).trans rfl, (blk_cell BK255.out 1).trans rfl, (blk_cell BK255.out 2).trans rfl, (blk_cell BK255.out 3).trans rfl, (blk_cell BK255.out 4).trans rfl⟩ (fun hHeld => ?_)
           clear hK K
           refine norm_ (a' := ?_) ?_ ?_
           rotate_left
           ·
            show Act.put _ (some 57) _ = _
            simp only [Act.put, List.setIfInBounds_toArray, List.set_cons_zero, List.set_cons_succ, i64_w, i32_w]
            rfl
           refine one_ (i := 7) (N := some 61) #[true, true, true, true, true, true, true, true, false, false, false, false, false, false, false, false, false, false, false, false, false, false, false] rfl rfl (one_of HT_.out (by kernel_rfl)) (by decide) (fun K hK => ?_)
           refine goes_ Tryd.func23 (by kernel_rfl) rfl #[.int .i64 4, .agg #[.int .u64 t241, .int .u64 t242, .int .u64 t243, .string t244, .string t245], .int .i64 a1, .agg #[.int .u64 t246, .int .u64 t247, .int .u64 t248, .string t249, .string t250]] (by rfl) rfl rfl (by (try simp only [List.map_toArray, List.map_cons, List.map_nil]); first | done | rfl | (simp only [List.length_drop, List.length_take]; rfl)) ?_
           with_reducible refine (laws_stHolds.calls 4 t241 t242 t243 t244 t245 a1 t246 t247 t248 t249 t250 true _ ?side1 A61.out).mono ?_
           (case side1 => exact HStd.out.below (by repeat (first | (with_reducible first | exact HB.out | apply below_alloc | apply pw_below_drewN | apply below_drew1 | refine below_set ?_ GE237.out | refine below_set ?_ GE238.out | refine below_set ?_ GE255.out) | exact HB.out)))
           rintro e w75 ⟨rfl, hb⟩
           refine ⟨_, rfl, ?_⟩
           have n0_ := Aside0.mk (blk_below (g := gb237) (o := .cells #[.int .u64 t241, .int .u64 t242, .int .u64 t243, .string t244, .string t245] 26 (0, 0)) (by (with_reducible repeat (first | refine blk_drewN ?_ _ | refine blk_drew ?_ | refine blk_alloc ?_ _)); exact BK237.out) hb)
           have n1_ := Aside0.mk (blk_below (g := gb238) (o := .cells #[.int .u64 t246, .int .u64 t247, .int .u64 t248, .string t249, .string t250] 26 (0, 0)) (by (with_reducible repeat (first | refine blk_drewN ?_ _ | refine blk_drew ?_ | refine blk_alloc ?_ _)); exact BK238.out) hb)
           have n2_ := Aside0.mk (blk_below (g := gb255) (o := .cells #[.int .u64 x256000_46, .int .u64 x256001_46, .int .u64 x256002_46, .string x256003_46, .string x256004_46] 26 (0, 0)) (by (with_reducible repeat (first | refine blk_drewN ?_ _ | refine blk_drew ?_ | refine blk_alloc ?_ _)); exact BK255.out) hb)
           have n3_ := Aside0.mk (below_step (by repeat (first | (with_reducible first | exact HB.out | apply below_alloc | apply pw_below_drewN | apply below_drew1 | refine below_set ?_ GE237.out | refine below_set ?_ GE238.out | refine below_set ?_ GE255.out) | exact HB.out)) hb)
           clear BK237
           clear BK238
           clear BK255
           clear HB
           have BK237 := n0_
           have BK238 := n1_
           have BK255 := n2_
           have HB := n3_
           clear n0_ n1_ n2_ n3_
           (try clear hb)
           (try clear hb2)
           (try clear hk)
           (try clear hi)
           refine hK.out _ _ ⟨(blk_cell BK237.out 0).trans rfl, (blk_cell BK237.out 1).trans rfl, (blk_cell BK237.out 2).trans rfl, (blk_cell BK237.out 3).trans rfl, (blk_cell BK237.out 4).trans rfl, (blk_cell BK238.out 0).trans rfl, (blk_cell BK238.out 1).trans rfl, (blk_cell BK238.out 2).trans rfl, (blk_cell BK238.out 3).trans rfl, (blk_cell BK238.out 4).trans rfl, (blk_cell BK255.out 0).trans rfl, (blk_cell BK255.out 1).trans rfl, (blk_cell BK255.out 2).trans rfl, (blk_cell BK255.out 3).trans rfl, (blk_cell BK255.out 4).trans rfl⟩ (fun hHeld => ?_)
           clear hK K
           refine norm_ (a' := ?_) ?_ ?_
           rotate_left
           ·
            show Act.put _ (some 61) _ = _
            simp only [Act.put, List.setIfInBounds_toArray, List.set_cons_zero, List.set_cons_succ, i64_w, i32_w]
            rfl
           refine pure_ (i := 8) (N := some 62) (v := ?_) (a' := ?_) #[true, true, true, true, true, true, true, true, true, false, false, false, false, false, false, false, false, false, false, false, false, false, false] rfl rfl (any_of HT_.out (by kernel_rfl)) (fun _ _ _ h => h) (Or.inl ⟨by rfl, ?_⟩) ?_ ?_
           rotate_left
           ·
            intro w'
            go_simp
            with_reducible rfl
           rotate_left
           ·
            simp only [Act.put, List.setIfInBounds_toArray, List.set_cons_zero, List.set_cons_succ, i64_w, i32_w]
            rfl
           refine take_ (i := 9) (N := some 63) (v := ?_) (a' := ?_) #[true, true, true, true, true, true, true, true, true, true, false, false, false, false, false, false, false, false, false, false, false, false, false] rfl rfl (take_ofW HT_.out HW_.out (by kernel_rfl)) (fun _ _ _ h => h) (Or.inl ⟨by rfl, ?_⟩) hHeld ?_ ?_
           rotate_left
           ·
            rintro w' ⟨s0, s1, s2, s3, s4, s5, s6, s7, s8, s9, s10, s11, s12, s13, s14⟩
            go_simp
            with_reducible rfl
           rotate_left
           ·
            simp only [Act.put, List.setIfInBounds_toArray, List.set_cons_zero, List.set_cons_succ, i64_w, i32_w]
            rfl
           refine take_ (i := 10) (N := some 64) (v := ?_) (a' := ?_) #[true, true, true, true, true, true, true, true, true, true, true, false, false, false, false, false, false, false, false, false, false, false, false] rfl rfl (take_ofW HT_.out HW_.out (by kernel_rfl)) (fun _ _ _ h => h) (Or.inl ⟨by rfl, ?_⟩) hHeld ?_ ?_
           rotate_left
           ·
            rintro w' ⟨s0, s1, s2, s3, s4, s5, s6, s7, s8, s9, s10, s11, s12, s13, s14⟩
            go_simp
            with_reducible rfl
           rotate_left
           ·
            simp only [Act.put, List.setIfInBounds_toArray, List.set_cons_zero, List.set_cons_succ, i64_w, i32_w]
            rfl
           refine one_ (i := 11) (N := some 65) #[true, true, true, true, true, true, true, true, true, true, true, true, false, false, false, false, false, false, false, false, false, false, false] rfl rfl (one_of HT_.out (by kernel_rfl)) (by decide) (fun K hK => ?_)
           refine goes_ Tryd.func23 (by kernel_rfl) rfl #[.int .i64 3, .agg #[.int .u64 x256000_46, .int .u64 x256001_46, .int .u64 x256002_46, .string x256003_46, .string x256004_46], .int .i64 3, .agg #[.int .u64 t246, .int .u64 t247, .int .u64 t248, .string t249, .string t250]] (by rfl) rfl rfl (by (try simp only [List.map_toArray, List.map_cons, List.map_nil]); first | done | rfl | (simp only [List.length_drop, List.length_take]; rfl)) ?_
           with_reducible refine (laws_stHolds.calls 3 x256000_46 x256001_46 x256002_46 x256003_46 x256004_46 3 t246 t247 t248 t249 t250 t258 _ ?side1 A63.out).mono ?_
           (case side1 => exact HStd.out.below (by repeat (first | (with_reducible first | exact HB.out | apply below_alloc | apply pw_below_drewN | apply below_drew1 | refine below_set ?_ GE237.out | refine below_set ?_ GE238.out | refine below_set ?_ GE255.out) | exact HB.out)))
           rintro e w76 ⟨rfl, hb⟩
           refine ⟨_, rfl, ?_⟩
           have n0_ := Aside0.mk (blk_below (g := gb237) (o := .cells #[.int .u64 t241, .int .u64 t242, .int .u64 t243, .string t244, .string t245] 26 (0, 0)) (by (with_reducible repeat (first | refine blk_drewN ?_ _ | refine blk_drew ?_ | refine blk_alloc ?_ _)); exact BK237.out) hb)
           have n1_ := Aside0.mk (blk_below (g := gb238) (o := .cells #[.int .u64 t246, .int .u64 t247, .int .u64 t248, .string t249, .string t250] 26 (0, 0)) (by (with_reducible repeat (first | refine blk_drewN ?_ _ | refine blk_drew ?_ | refine blk_alloc ?_ _)); exact BK238.out) hb)
           have n2_ := Aside0.mk (blk_below (g := gb255) (o := .cells #[.int .u64 x256000_46, .int .u64 x256001_46, .int .u64 x256002_46, .string x256003_46, .string x256004_46] 26 (0, 0)) (by (with_reducible repeat (first | refine blk_drewN ?_ _ | refine blk_drew ?_ | refine blk_alloc ?_ _)); exact BK255.out) hb)
           have n3_ := Aside0.mk (below_step (by repeat (first | (with_reducible first | exact HB.out | apply below_alloc | apply pw_below_drewN | apply below_drew1 | refine below_set ?_ GE237.out | refine below_set ?_ GE238.out | refine below_set ?_ GE255.out) | exact HB.out)) hb)
           clear BK237
           clear BK238
           clear BK255
           clear HB
           have BK237 := n0_
           have BK238 := n1_
           have BK255 := n2_
           have HB := n3_
           clear n0_ n1_ n2_ n3_
           (try clear hb)
           (try clear hb2)
           (try clear hk)
           (try clear hi)
           refine hK.out _ _ ⟨(blk_cell BK237.out 0).trans rfl, (blk_cell BK237.out 1).trans rfl, (blk_cell BK237.out 2).trans rfl, (blk_cell BK237.out 3).trans rfl, (blk_cell BK237.out 4).trans rfl, (blk_cell BK238.out 0).trans rfl, (blk_cell BK238.out 1).trans rfl, (blk_cell BK238.out 2).trans rfl, (blk_cell BK238.out 3).trans rfl, (blk_cell BK238.out 4).trans rfl, (blk_cell BK255.out 0).trans rfl, (blk_cell BK255.out 1).trans rfl, (blk_cell BK255.out 2).trans rfl, (blk_cell BK255.out 3).trans rfl, (blk_cell BK255.out 4).trans rfl⟩ (fun hHeld => ?_)
           clear hK K
           refine norm_ (a' := ?_) ?_ ?_
           rotate_left
           ·
            show Act.put _ (some 65) _ = _
            simp only [Act.put, List.setIfInBounds_toArray, List.set_cons_zero, List.set_cons_succ, i64_w, i32_w]
            rfl
           refine pure_ (i := 12) (N := some 66) (v := ?_) (a' := ?_) #[true, true, true, true, true, true, true, true, true, true, true, true, true, false, false, false, false, false, false, false, false, false, false] rfl rfl (any_of HT_.out (by kernel_rfl)) (fun _ _ _ h => h) (Or.inl ⟨by rfl, ?_⟩) ?_ ?_
           rotate_left
           ·
            intro w'
            go_simp
            with_reducible rfl
           rotate_left
           ·
            simp only [Act.put, List.setIfInBounds_toArray, List.set_cons_zero, List.set_cons_succ, i64_w, i32_w]
            rfl
           refine pure_ (i := 13) (N := some 67) (v := ?_) (a' := ?_) #[true, true, true, true, true, true, true, true, true, true, true, true, true, true, false, false, false, false, false, false, false, false, false] rfl rfl (any_of HT_.out (by kernel_rfl)) (fun _ _ _ h => h) (Or.inl ⟨by rfl, ?_⟩) ?_ ?_
           rotate_left
           ·
            intro w'
            go_simp
            with_reducible rfl
           rotate_left
           ·
            simp only [Act.put, List.setIfInBounds_toArray, List.set_cons_zero, List.set_cons_succ, i64_w, i32_w]
            rfl
           refine pure_ (i := 14) (N := some 68) (v := ?_) (a' := ?_) #[true, true, true, true, true, true, true, true, true, true, true, true, true, true, true, false, false, false, false, false, false, false, false] rfl rfl (any_of HT_.out (by kernel_rfl)) (fun _ _ _ h => h) (Or.inl ⟨by rfl, ?_⟩) ?_ ?_
           rotate_left
           ·
            intro w'
            go_simp
            with_reducible rfl
           rotate_left
           ·
            simp only [Act.put, List.setIfInBounds_toArray, List.set_cons_zero, List.set_cons_succ, i64_w, i32_w]
            rfl
           refine pure_ (i := 15) (N := some 69) (v := undef) (a' := ?_) #[true, true, true, true, true, true, true, true, true, true, true, true, true, true, true, true, false, false, false, false, false, false, false] rfl rfl (any_of HT_.out (by kernel_rfl)) (fun _ _ _ h => h) (Or.inr ⟨by rfl, rfl⟩) ?_ ?_
           rotate_left
           ·
            simp only [Act.put, List.setIfInBounds_toArray, List.set_cons_zero, List.set_cons_succ, i64_w, i32_w]
            rfl
           refine pure_ (i := 16) (N := some 70) (v := undef) (a' := ?_) #[true, true, true, true, true, true, true, true, true, true, true, true, true, true, true, true, true, false, false, false, false, false, false] rfl rfl (any_of HT_.out (by kernel_rfl)) (fun _ _ _ h => h) (Or.inr ⟨by rfl, rfl⟩) ?_ ?_
           rotate_left
           ·
            simp only [Act.put, List.setIfInBounds_toArray, List.set_cons_zero, List.set_cons_succ, i64_w, i32_w]
            rfl
           refine pure_ (i := 17) (N := some 71) (v := undef) (a' := ?_) #[true, true, true, true, true, true, true, true, true, true, true, true, true, true, true, true, true, true, false, false, false, false, false] rfl rfl (any_of HT_.out (by kernel_rfl)) (fun _ _ _ h => h) (Or.inr ⟨by rfl, rfl⟩) ?_ ?_
           rotate_left
           ·
            simp only [Act.put, List.setIfInBounds_toArray, List.set_cons_zero, List.set_cons_succ, i64_w, i32_w]
            rfl
           refine pure_ (i := 18) (N := some 72) (v := undef) (a' := ?_) #[true, true, true, true, true, true, true, true, true, true, true, true, true, true, true, true, true, true, true, false, false, false, false] rfl rfl (any_of HT_.out (by kernel_rfl)) (fun _ _ _ h => h) (Or.inr ⟨by rfl, rfl⟩) ?_ ?_
           rotate_left
           ·
            simp only [Act.put, List.setIfInBounds_toArray, List.set_cons_zero, List.set_cons_succ, i64_w, i32_w]
            rfl
           refine pure_ (i := 19) (N := some 73) (v := undef) (a' := ?_) #[true, true, true, true, true, true, true, true, true, true, true, true, true, true, true, true, true, true, true, true, false, false, false] rfl rfl (any_of HT_.out (by kernel_rfl)) (fun _ _ _ h => h) (Or.inr ⟨by rfl, rfl⟩) ?_ ?_
           rotate_left
           ·
            simp only [Act.put, List.setIfInBounds_toArray, List.set_cons_zero, List.set_cons_succ, i64_w, i32_w]
            rfl
           refine pure_ (i := 20) (N := some 74) (v := undef) (a' := ?_) #[true, true, true, true, true, true, true, true, true, true, true, true, true, true, true, true, true, true, true, true, true, false, false] rfl rfl (any_of HT_.out (by kernel_rfl)) (fun _ _ _ h => h) (Or.inr ⟨by rfl, rfl⟩) ?_ ?_
           rotate_left
           ·
            simp only [Act.put, List.setIfInBounds_toArray, List.set_cons_zero, List.set_cons_succ, i64_w, i32_w]
            rfl
           refine pure_ (i := 21) (N := some 75) (v := ?_) (a' := ?_) #[true, true, true, true, true, true, true, true, true, true, true, true, true, true, true, true, true, true, true, true, true, true, false] rfl rfl (any_of HT_.out (by kernel_rfl)) (fun _ _ _ h => h) (Or.inl ⟨by rfl, ?_⟩) ?_ ?_
           rotate_left
           ·
            intro w'
            go_simp
            with_reducible rfl
           rotate_left
           ·
            simp only [Act.put, List.setIfInBounds_toArray, List.set_cons_zero, List.set_cons_succ, i64_w, i32_w]
            rfl
           refine pure_ (i := 22) (N := some 6) (v := ?_) (a' := ?_) #[true, true, true, true, true, true, true, true, true, true, true, true, true, true, true, true, true, true, true, true, true, true, true] rfl rfl (any_of HT_.out (by kernel_rfl)) (fun _ _ _ h => h) (Or.inl ⟨by rfl, ?_⟩) ?_ ?_
           rotate_left
           ·
            intro w'
            go_simp
            with_reducible rfl
           rotate_left
           ·
            simp only [Act.put, List.setIfInBounds_toArray, List.set_cons_zero, List.set_cons_succ, i64_w, i32_w]
            rfl
           refine done_ (done_of HT_.out (by kernel_rfl)) ?_
           try go_wp2
           go_ret
           exact ⟨by first | rfl | (simp [errW_none, errW_some] <;> rfl) | (simp [*, errW_none, errW_some] <;> rfl) | (simp [bneNil]; done), by repeat (first | (with_reducible first | exact HB.out | apply below_alloc | apply pw_below_drewN | apply below_drew1 | refine below_set ?_ GE237.out | refine below_set ?_ GE238.out | refine below_set ?_ GE255.out) | exact HB.out)⟩
         ·
          replace c62 := Bool.eq_false_iff.mpr c62
          subst c62
          have H1 : (if (t256 == false) = true then ((laws_scFirst.f t241 t242 t243 t244 t245 a1).bind fun bt265 => ((laws_stHolds.f 6 t241 t242 t243 t244 t245 a1 bt265.1 bt265.2.1 bt265.2.2.1 bt265.2.2.2.1 bt265.2.2.2.2).bind fun t270 => (some t270))) else (some false)) = some r := by rw [if_neg (show ¬ (false = true) by decide)] at H; exact H
          clear H
          have H := H1
          clear H1
          by_cases c77 : (t256 == false) = true
          ·
           rw [if_pos c77] at H
           have c77b0 : (t256 == false) = true := c77
           (try (have c77b1 : decide (t256 = false) = true := by simpa using c77))
           (try (have c77b2 : (t256 == false) = true := by simpa using c77))
           clear c77
           replace H := Option.bind_eq_some_iff.mp H
           obtain ⟨⟨t265, t266, t267, t268, t269⟩, A780, H⟩ := H
           replace H : ((laws_stHolds.f 6 t241 t242 t243 t244 t245 a1 t265 t266 t267 t268 t269).bind fun t270 => (some t270)) = some r := H
           have A78 := Aside0.mk A780
           clear A780
           replace H := Option.bind_eq_some_iff.mp H
           obtain ⟨t270, A790, H⟩ := H
           replace H : (some t270) = some r := H
           have A79 := Aside0.mk A790
           clear A790
           obtain rfl := Option.some.inj H
           try go_wp2
           have n0_ := Aside0.mk (blk_drew BK237.out)
           have n1_ := Aside0.mk (blk_drew BK238.out)
           have n2_ := Aside0.mk (blk_drew BK255.out)
           have n3_ := Aside0.mk (below_drew1 HB.out)
           clear BK237
           clear BK238
           clear BK255
           clear HB
           have BK237 := n0_
           have BK238 := n1_
           have BK255 := n2_
           have HB := n3_
           clear n0_ n1_ n2_ n3_
           refine start_ (n := 23) (S := fun w' => w'.cell? ⟨gb237, 0, none⟩ = some (.int .u64 t241) ∧ w'.cell? ⟨gb237, 1, none⟩ = some (.int .u64 t242) ∧ w'.cell? ⟨gb237, 2, none⟩ = some (.int .u64 t243) ∧ w'.cell? ⟨gb237, 3, none⟩ = some (.string t244) ∧ w'.cell? ⟨gb237, 4, none⟩ = some (.string t245) ∧ w'.cell? ⟨gb238, 0, none⟩ = some (.int .u64 t246) ∧ w'.cell? ⟨gb238, 1, none⟩ = some (.int .u64 t247) ∧ w'.cell? ⟨gb238, 2, none⟩ = some (.int .u64 t248) ∧ w'.cell? ⟨gb238, 3, none⟩ = some (.string t249) ∧ w'.cell? ⟨gb238, 4, none⟩ = some (.string t250)) (ds := []) #[false, false, false, false, false, false, false, false, false, false, false, false, false, false, false, false, false, false, false, false, false, false, false] (by kernel_rfl) rfl rfl ⟨(blk_cell BK237.out 0).trans rfl, (blk_cell BK237.out 1).trans rfl, (blk_cell BK237.out 2).trans rfl, (blk_cell BK237.out 3).trans rfl, (blk_cell BK237.out 4).trans rfl, (blk_cell BK238.out 0).trans rfl, (blk_cell BK238.out 1).trans rfl, (blk_cell BK238.out 2).trans rfl, (blk_cell BK238.out 3).trans rfl, (blk_cell BK238.out 4).trans rfl⟩ (fun hHeld => ?_); refine with_tabW laws_FnSemverTermTilde.tab9 laws_FnSemverTermTilde.bits9 (fun HT_ HW_ => ?_)
           generalize wc.drew = w80 at BK237 BK238 BK255 HB hHeld ⊢
           refine pure_ (i := 1) (N := some 55) (v := ?_) (a' := ?_) #[false, true, false, false, false, false, false, false, false, false, false, false, false, false, false, false, false, false, false, false, false, false, false] rfl rfl (any_of HT_.out (by kernel_rfl)) (fun _ _ _ h => h) (Or.inl ⟨by rfl, ?_⟩) ?_ ?_
           rotate_left
           ·
            intro w'
            go_simp
            with_reducible rfl
           rotate_left
           ·
            simp only [Act.put, List.setIfInBounds_toArray, List.set_cons_zero, List.set_cons_succ, i64_w, i32_w]
            rfl
           refine pure_ (i := 5) (N := some 59) (v := ?_) (a' := ?_) #[false, true, false, false, false, true, false, false, false, false, false, false, false, false, false, false, false, false, false, false, false, false, false] rfl rfl (any_of HT_.out (by kernel_rfl)) (fun _ _ _ h => h) (Or.inl ⟨by rfl, ?_⟩) ?_ ?_
           rotate_left
           ·
            intro w'
            go_simp
            with_reducible rfl
           rotate_left
           ·
            simp only [Act.put, List.setIfInBounds_toArray, List.set_cons_zero, List.set_cons_succ, i64_w, i32_w]
            rfl
           refine take_ (i := 0) (N := some 54) (v := ?_) (a' := ?_) #[true, true, false, false, false, true, false, false, false, false, false, false, false, false, false, false, false, false, false, false, false, false, false] rfl rfl (take_ofW HT_.out HW_.out (by kernel_rfl)) (fun _ _ _ h => h) (Or.inl ⟨by rfl, ?_⟩) hHeld ?_ ?_
           rotate_left
           ·
            rintro w' ⟨s0, s1, s2, s3, s4, s5, s6, s7, s8, s9⟩
            go_simp
            with_reducible rfl
           rotate_left
           ·
            simp only [Act.put, List.setIfInBounds_toArray, List.set_cons_zero, List.set_cons_succ, i64_w, i32_w]
            rfl
           refine take_ (i := 2) (N := some 56) (v := ?_) (a' := ?_) #[true, true, true, false, false, true, false, false, false, false, false, false, false, false, false, false, false, false, false, false, false, false, false] rfl rfl (take_ofW HT_.out HW_.out (by kernel_rfl)) (fun _ _ _ h => h) (Or.inl ⟨by rfl, ?_⟩) hHeld ?_ ?_
           rotate_left
           ·
            rintro w' ⟨s0, s1, s2, s3, s4, s5, s6, s7, s8, s9⟩
            go_simp
            with_reducible rfl
           rotate_left
           ·
            simp only [Act.put, List.setIfInBounds_toArray, List.set_cons_zero, List.set_cons_succ, i64_w, i32_w]
            rfl
           refine take_ (i := 4) (N := some 58) (v := ?_) (a' := ?_) #[true, true, true, false, true, true, false, false, false, false, false, false, false, false, false, false, false, false, false, false, false, false, false] rfl rfl (take_ofW HT_.out HW_.out (by kernel_rfl)) (fun _ _ _ h => h) (Or.inl ⟨by rfl, ?_⟩) hHeld ?_ ?_
           rotate_left
           ·
            rintro w' ⟨s0, s1, s2, s3, s4, s5, s6, s7, s8, s9⟩
            go_simp
            with_reducible rfl
           rotate_left
           ·
            simp only [Act.put, List.setIfInBounds_toArray, List.set_cons_zero, List.set_cons_succ, i64_w, i32_w]
            rfl
           refine take_ (i := 6) (N := some 60) (v := ?_) (a' := ?_) #[true, true, true, false, true, true, true, false, false, false, false, false, false, false, false, false, false, false, false, false, false, false, false] rfl rfl (take_ofW HT_.out HW_.out (by kernel_rfl)) (fun _ _ _ h => h) (Or.inl ⟨by rfl, ?_⟩) hHeld ?_ ?_
           rotate_left
           ·
            rintro w' ⟨s0, s1, s2, s3, s4, s5, s6, s7, s8, s9⟩
            go_simp
            with_reducible rfl
           rotate_left
           ·
            simp only [Act.put, List.setIfInBounds_toArray, List.set_cons_zero, List.set_cons_succ, i64_w, i32_w]
            rfl
           refine one_ (i := 3) (N := some 57) #[true, true, true, true, true, true, true, false, false, false, false, false, false, false, false, false, false, false, false, false, false, false, false] rfl rfl (one_of HT_.out (by kernel_rfl)) (by decide) (fun K hK => ?_)
           refine goes_ Tryd.func23 (by kernel_rfl) rfl #[.int .i64 6, .agg #[.int .u64 t241, .int .u64 t242, .int .u64 t243, .string t244, .string t245], .int .i64 a1, .agg #[.int .u64 t246, .int .u64 t247, .int .u64 t248, .string t249, .string t250]] (by rfl) rfl rfl (by (try simp only [List.map_toArray, List.map_cons, List.map_nil]); first | done | rfl | (simp only [List.length_drop, List.length_take]; rfl)) ?_
           with_reducible refine (laws_stHolds.calls 6 t241 t242 t243 t244 t245 a1 t246 t247 t248 t249 t250 t256 _ ?side1 A60.out).mono ?_
           (case side1 => exact HStd.out.below (by repeat (first | (with_reducible first | exact HB.out | apply below_alloc | apply pw_below_drewN | apply below_drew1 | refine below_set ?_ GE237.out | refine below_set ?_ GE238.out | refine below_set ?_ GE255.out) | exact HB.out)))
           rintro e w81 ⟨rfl, hb⟩
           refine ⟨_, rfl, ?_⟩
           have n0_ := Aside0.mk (blk_below (g := gb237) (o := .cells #[.int .u64 t241, .int .u64 t242, .int .u64 t243, .string t244, .string t245] 26 (0, 0)) (by (with_reducible repeat (first | refine blk_drewN ?_ _ | refine blk_drew ?_ | refine blk_alloc ?_ _)); exact BK237.out) hb)
           have n1_ := Aside0.mk (blk_below (g := gb238) (o := .cells #[.int .u64 t246, .int .u64 t247, .int .u64 t248, .string t249, .string t250] 26 (0, 0)) (by (with_reducible repeat (first | refine blk_drewN ?_ _ | refine blk_drew ?_ | refine blk_alloc ?_ _)); exact BK238.out) hb)
           have n2_ := Aside0.mk (blk_below (g := gb255) (o := .cells #[.int .u64 x256000_46, .int .u64 x256001_46, .int .u64 x256002_46, .string x256003_46, .string x256004_46] 26 (0, 0)) (by (with_reducible repeat (first | refine blk_drewN ?_ _ | refine blk_drew ?_ | refine blk_alloc ?_ _)); exact BK255.out) hb)
           have n3_ := Aside0.mk (below_step (by repeat (first | (with_reducible first | exact HB.out | apply below_alloc | apply pw_below_drewN | apply below_drew1 | refine below_set ?_ GE237.out | refine below_set ?_ GE238.out | refine below_set ?_ GE255.out) | exact HB.out)) hb)
           clear BK237
           clear BK238
           clear BK255
           clear HB
           have BK237 := n0_
           have BK238 := n1_
           have BK255 := n2_
           have HB := n3_
           clear n0_ n1_ n2_ n3_
           (try clear hb)
           (try clear hb2)
           (try clear hk)
           (try clear hi)
           refine hK.out _ _ ⟨(blk_cell BK237.out 0).trans rfl, (blk_cell BK237.out 1).trans rfl, (blk_cell BK237.out 2).trans rfl, (blk_cell BK237.out 3).trans rfl, (blk_cell BK237.out 4).trans rfl, (blk_cell BK238.out 0).trans rfl, (blk_cell BK238.out 1).trans rfl, (blk_cell BK238.out 2).trans rfl, (blk_cell BK238.out 3).trans rfl, (blk_cell BK238.out 4).trans rfl⟩ (fun hHeld => ?_)
           clear hK K
           refine norm_ (a' := ?_) ?_ ?_
           rotate_left
           ·
            show Act.put _ (some 57) _ = _
            simp only [Act.put, List.setIfInBounds_toArray, List.set_cons_zero, List.set_cons_succ, i64_w, i32_w]
            rfl
           refine one_ (i := 7) (N := some 61) #[true, true, true, true, true, true, true, true, false, false, false, false, false, false, false, false, false, false, false, false, false, false, false] rfl rfl (one_of HT_.out (by kernel_rfl)) (by decide) (fun K hK => ?_)
           refine goes_ Tryd.func23 (by kernel_rfl) rfl #[.int .i64 4, .agg #[.int .u64 t241, .int .u64 t242, .int .u64 t243, .string t244, .string t245], .int .i64 a1, .agg #[.int .u64 t246, .int .u64 t247, .int .u64 t248, .string t249, .string t250]] (by rfl) rfl rfl (by (try simp only [List.map_toArray, List.map_cons, List.map_nil]); first | done | rfl | (simp only [List.length_drop, List.length_take]; rfl)) ?_
           with_reducible refine (laws_stHolds.calls 4 t241 t242 t243 t244 t245 a1 t246 t247 t248 t249 t250 false _ ?side1 A61.out).mono ?_
           (case side1 => exact HStd.out.below (by repeat (first | (with_reducible first | exact HB.out | apply below_alloc | apply pw_below_drewN | apply below_drew1 | refine below_set ?_ GE237.out | refine below_set ?_ GE238.out | refine below_set ?_ GE255.out) | exact HB.out)))
           rintro e w82 ⟨rfl, hb⟩
           refine ⟨_, rfl, ?_⟩
           have n0_ := Aside0.mk (blk_below (g := gb237) (o := .cells #[.int .u64 t241, .int .u64 t242, .int .u64 t243, .string t244, .string t245] 26 (0, 0)) (by (with_reducible repeat (first | refine blk_drewN ?_ _ | refine blk_drew ?_ | refine blk_alloc ?_ _)); exact BK237.out) hb)
           have n1_ := Aside0.mk (blk_below (g := gb238) (o := .cells #[.int .u64 t246, .int .u64 t247, .int .u64 t248, .string t249, .string t250] 26 (0, 0)) (by (with_reducible repeat (first | refine blk_drewN ?_ _ | refine blk_drew ?_ | refine blk_alloc ?_ _)); exact BK238.out) hb)
           have n2_ := Aside0.mk (blk_below (g := gb255) (o := .cells #[.int .u64 x256000_46, .int .u64 x256001_46, .int .u64 x256002_46, .string x256003_46, .string x256004_46] 26 (0, 0)) (by (with_reducible repeat (first | refine blk_drewN ?_ _ | refine blk_drew ?_ | refine blk_alloc ?_ _)); exact BK255.out) hb)
           have n3_ := Aside0.mk (below_step (by repeat (first | (with_reducible first | exact HB.out | apply below_alloc | apply pw_below_drewN | apply below_drew1 | refine below_set ?_ GE237.out | refine below_set ?_ GE238.out | refine below_set ?_ GE255.out) | exact HB.out)) hb)
           clear BK237
           clear BK238
           clear BK255
           clear HB
           have BK237 := n0_
           have BK238 := n1_
           have BK255 := n2_
           have HB := n3_
           clear n0_ n1_ n2_ n3_
           (try clear hb)
           (try clear hb2)
           (try clear hk)
           (try clear hi)
           refine hK.out _ _ ⟨(blk_cell BK237.out 0).trans rfl, (blk_cell BK237.out 1).trans rfl, (blk_cell BK237.out 2).trans rfl, (blk_cell BK237.out 3).trans rfl, (blk_cell BK237.out 4).trans rfl, (blk_cell BK238.out 0).trans rfl, (blk_cell BK238.out 1).trans rfl, (blk_cell BK238.out 2).trans rfl, (blk_cell BK238.out 3).trans rfl, (blk_cell BK238.out 4).trans rfl⟩ (fun hHeld => ?_)
           clear hK K
           refine norm_ (a' := ?_) ?_ ?_
           rotate_left
           ·
            show Act.put _ (some 61) _ = _
            simp only [Act.put, List.setIfInBounds_toArray, List.set_cons_zero, List.set_cons_succ, i64_w, i32_w]
            rfl
           refine pure_ (i := 8) (N := some 62) (v := ?_) (a' := ?_) #[true, true, true, true, true, true, true, true, true, false, false, false, false, false, false, false, false, false, false, false, false, false, false] rfl rfl (any_of HT_.out (by kernel_rfl)) (fun _ _ _ h => h) (Or.inl ⟨by rfl, ?_⟩) ?_ ?_
           rotate_left
           ·
            intro w'
            go_simp
            with_reducible rfl
           rotate_left
           ·
            simp only [Act.put, List.setIfInBounds_toArray, List.set_cons_zero, List.set_cons_succ, i64_w, i32_w]
            rfl
           refine pure_ (i := 9) (N := some 63) (v := undef) (a' := ?_) #[true, true, true, true, true, true, true, true, true, true, false, false, false, false, false, false, false, false, false, false, false, false, false] rfl rfl (any_of HT_.out (by kernel_rfl)) (fun _ _ _ h => h) (Or.inr ⟨by rfl, rfl⟩) ?_ ?_
           rotate_left
           ·
            simp only [Act.put, List.setIfInBounds_toArray, List.set_cons_zero, List.set_cons_succ, i64_w, i32_w]
            rfl
           refine pure_ (i := 10) (N := some 64) (v := undef) (a' := ?_) #[true, true, true, true, true, true, true, true, true, true, true, false, false, false, false, false, false, false, false, false, false, false, false] rfl rfl (any_of HT_.out (by kernel_rfl)) (fun _ _ _ h => h) (Or.inr ⟨by rfl, rfl⟩) ?_ ?_
           rotate_left
           ·
            simp only [Act.put, List.setIfInBounds_toArray, List.set_cons_zero, List.set_cons_succ, i64_w, i32_w]
            rfl
           refine pure_ (i := 11) (N := some 65) (v := undef) (a' := ?_) #[true, true, true, true, true, true, true, true, true, true, true, true, false, false, false, false, false, false, false, false, false, false, false] rfl rfl (any_of HT_.out (by kernel_rfl)) (fun _ _ _ h => h) (Or.inr ⟨by rfl, rfl⟩) ?_ ?_
           rotate_left
           ·
            simp only [Act.put, List.setIfInBounds_toArray, List.set_cons_zero, List.set_cons_succ, i64_w, i32_w]
            rfl
           refine pure_ (i := 12) (N := some 66) (v := ?_) (a' := ?_) #[true, true, true, true, true, true, true, true, true, true, true, true, true, false, false, false, false, false, false, false, false, false, false] rfl rfl (any_of HT_.out (by kernel_rfl)) (fun _ _ _ h => h) (Or.inl ⟨by rfl, ?_⟩) ?_ ?_
           rotate_left
           ·
            intro w'
            go_simp
            with_reducible rfl
           rotate_left
           ·
            simp only [Act.put, List.setIfInBounds_toArray, List.set_cons_zero, List.set_cons_succ, i64_w, i32_w]
            rfl
           refine pure_ (i := 13) (N := some 67) (v := ?_) (a' := ?_) #[true, true, true, true, true, true, true, true, true, true, true, true, true, true, false, false, false, false, false, false, false, false, false] rfl rfl (any_of HT_.out (by kernel_rfl)) (fun _ _ _ h => h) (Or.inl ⟨by rfl, ?_⟩) ?_ ?_
           rotate_left
           ·
            intro w'
            go_simp
            with_reducible rfl
           rotate_left
           ·
            simp only [Act.put, List.setIfInBounds_toArray, List.set_cons_zero, List.set_cons_succ, i64_w, i32_w]
            rfl
           refine pure_ (i := 14) (N := some 68) (v := ?_) (a' := ?_) #[true, true, true, true, true, true, true, true, true, true, true, true, true, true, true, false, false, false, false, false, false, false, false] rfl rfl (any_of HT_.out (by kernel_rfl)) (fun _ _ _ h => h) (Or.inl ⟨by rfl, ?_⟩) ?_ ?_
           rotate_left
           ·
            intro w'
            go_simp
            with_reducible rfl
           rotate_left
           ·
            simp only [Act.put, List.setIfInBounds_toArray, List.set_cons_zero, List.set_cons_succ, i64_w, i32_w]
            rfl
           refine pure_ (i := 16) (N := some 70) (v := ?_) (a' := ?_) #[true, true, true, true, true, true, true, true, true, true, true, true, true, true, true, false, true, false, false, false, false, false, false] rfl rfl (any_of HT_.out (by kernel_rfl)) (fun _ _ _ h => h) (Or.inl ⟨by rfl, ?_⟩) ?_ ?_
           rotate_left
           ·
            intro w'
            go_simp
            with_reducible rfl
           rotate_left
           ·
            simp only [Act.put, List.setIfInBounds_toArray, List.set_cons_zero, List.set_cons_succ, i64_w, i32_w]
            rfl
           refine pure_ (i := 18) (N := some 72) (v := ?_) (a' := ?_) #[true, true, true, true, true, true, true, true, true, true, true, true, true, true, true, false, true, false, true, false, false, false, false] rfl rfl (any_of HT_.out (by kernel_rfl)) (fun _ _ _ h => h) (Or.inl ⟨by rfl, ?_⟩) ?_ ?_
           rotate_left
           ·
            intro w'
            go_simp
            with_reducible rfl
           rotate_left
           ·
            simp only [Act.put, List.setIfInBounds_toArray, List.set_cons_zero, List.set_cons_succ, i64_w, i32_w]
            rfl
           refine take_ (i := 15) (N := some 69) (v := ?_) (a' := ?_) #[true, true, true, true, true, true, true, true, true, true, true, true, true, true, true, true, true, false, true, false, false, false, false] rfl rfl (take_ofW HT_.out HW_.out (by kernel_rfl)) (fun _ _ _ h => h) (Or.inl ⟨by rfl, ?_⟩) hHeld ?_ ?_
           rotate_left
           ·
            rintro w' ⟨s0, s1, s2, s3, s4, s5, s6, s7, s8, s9⟩
            go_simp
            with_reducible rfl
           rotate_left
           ·
            simp only [Act.put, List.setIfInBounds_toArray, List.set_cons_zero, List.set_cons_succ, i64_w, i32_w]
            rfl
           refine take_ (i := 17) (N := some 71) (v := ?_) (a' := ?_) #[true, true, true, true, true, true, true, true, true, true, true, true, true, true, true, true, true, true, true, false, false, false, false] rfl rfl (take_ofW HT_.out HW_.out (by kernel_rfl)) (fun _ _ _ h => h) (Or.inl ⟨by rfl, ?_⟩) hHeld ?_ ?_
           rotate_left
           ·
            rintro w' ⟨s0, s1, s2, s3, s4, s5, s6, s7, s8, s9⟩
            go_simp
            with_reducible rfl
           rotate_left
           ·
            simp only [Act.put, List.setIfInBounds_toArray, List.set_cons_zero, List.set_cons_succ, i64_w, i32_w]
            rfl
           refine one_ (i := 19) (N := some 73) #[true, true, true, true, true, true, true, true, true, true, true, true, true, true, true, true, true, true, true, true, false, false, false] rfl rfl (one_of HT_.out (by kernel_rfl)) (by decide) (fun K hK => ?_)
           refine goes_ Tryd.func24 (by kernel_rfl) rfl #[.agg #[.int .u64 t241, .int .u64 t242, .int .u64 t243, .string t244, .string t245], .int .i64 a1] (by rfl) rfl rfl (by (try simp only [List.map_toArray, List.map_cons, List.map_nil]); first | done | rfl | (simp only [List.length_drop, List.length_take]; rfl)) ?_
           with_reducible refine (laws_scFirst.calls t241 t242 t243 t244 t245 a1 t265 t266 t267 t268 t269 _ A78.out).mono ?_
           rintro e w83 ⟨rfl, hb⟩
           refine ⟨_, rfl, ?_⟩
           have n0_ := Aside0.mk (blk_below (g := gb237) (o := .cells #[.int .u64 t241, .int .u64 t242, .int .u64 t243, .string t244, .string t245] 26 (0, 0)) (by (with_reducible repeat (first | refine blk_drewN ?_ _ | refine blk_drew ?_ | refine blk_alloc ?_ _)); exact BK237.out) hb)
           have n1_ := Aside0.mk (blk_below (g := gb238) (o := .cells #[.int .u64 t246, .int .u64 t247, .int .u64 t248, .string t249, .string t250] 26 (0, 0)) (by (with_reducible repeat (first | refine blk_drewN ?_ _ | refine blk_drew ?_ | refine blk_alloc ?_ _)); exact BK238.out) hb)
           have n2_ := Aside0.mk (blk_below (g := gb255) (o := .cells #[.int .u64 x256000_46, .int .u64 x256001_46, .int .u64 x256002_46, .string x256003_46, .string x256004_46] 26 (0, 0)) (by (with_reducible repeat (first | refine blk_drewN ?_ _ | refine blk_drew ?_ | refine blk_alloc ?_ _)); exact BK255.out) hb)
           have n3_ := Aside0.mk (below_step (by repeat (first | (with_reducible first | exact HB.out | apply below_alloc | apply pw_below_drewN | apply below_drew1 | refine below_set ?_ GE237.out | refine below_set ?_ GE238.out | refine below_set ?_ GE255.out) | exact HB.out)) hb)
           clear BK237
           clear BK238
           clear BK255
           clear HB
           have BK237 := n0_
           have BK238 := n1_
           have BK255 := n2_
           have HB := n3_
           clear n0_ n1_ n2_ n3_
           (try clear hb)
           (try clear hb2)
           (try clear hk)
           (try clear hi)
           refine hK.out _ _ ⟨(blk_cell BK237.out 0).trans rfl, (blk_cell BK237.out 1).trans rfl, (blk_cell BK237.out 2).trans rfl, (blk_cell BK237.out 3).trans rfl, (blk_cell BK237.out 4).trans rfl, (blk_cell BK238.out 0).trans rfl, (blk_cell BK238.out 1).trans rfl, (blk_cell BK238.out 2).trans rfl, (blk_cell BK238.out 3).trans rfl, (blk_cell BK238.out 4).trans rfl⟩ (fun hHeld => ?_)
           clear hK K
           refine norm_ (a' := ?_) ?_ ?_
           rotate_left
           ·
            show Act.put _ (some 73) _ = _
            simp only [Act.put, List.setIfInBounds_toArray, List.set_cons_zero, List.set_cons_succ, i64_w, i32_w]
            rfl
           refine one_ (i := 20) (N := some 74) #[true, true, true, true, true, true, true, true, true, true, true, true, true, true, true, true, true, true, true, true, true, false, false] rfl rfl (one_of HT_.out (by kernel_rfl)) (by decide) (fun K hK => ?_)
           refine goes_ Tryd.func23 (by kernel_rfl) rfl #[.int .i64 6, .agg #[.int .u64 t241, .int .u64 t242, .int .u64 t243, .string t244, .string t245], .int .i64 a1, .agg #[.int .u64 t265, .int .u64 t266, .int .u64 t267, .string t268, .string t269]] (by rfl) rfl rfl (by (try simp only [List.map_toArray, List.map_cons, List.map_nil]); first | done | rfl | (simp only [List.length_drop, List.length_take]; rfl)) ?_
           with_reducible refine (laws_stHolds.calls 6 t241 t242 t243 t244 t245 a1 t265 t266 t267 t268 t269 t270 _ ?side1 A79.out).mono ?_
           (case side1 => exact HStd.out.below (by repeat (first | (with_reducible first | exact HB.out | apply below_alloc | apply pw_below_drewN | apply below_drew1 | refine below_set ?_ GE237.out | refine below_set ?_ GE238.out | refine below_set ?_ GE255.out) | exact HB.out)))
           rintro e w84 ⟨rfl, hb⟩
           refine ⟨_, rfl, ?_⟩
           have n0_ := Aside0.mk (blk_below (g := gb237) (o := .cells #[.int .u64 t241, .int .u64 t242, .int .u64 t243, .string t244, .string t245] 26 (0, 0)) (by (with_reducible repeat (first | refine blk_drewN ?_ _ | refine blk_drew ?_ | refine blk_alloc ?_ _)); exact BK237.out) hb)
           have n1_ := Aside0.mk (blk_below (g := gb238) (o := .cells #[.int .u64 t246, .int .u64 t247, .int .u64 t248, .string t249, .string t250] 26 (0, 0)) (by (with_reducible repeat (first | refine blk_drewN ?_ _ | refine blk_drew ?_ | refine blk_alloc ?_ _)); exact BK238.out) hb)
           have n2_ := Aside0.mk (blk_below (g := gb255) (o := .cells #[.int .u64 x256000_46, .int .u64 x256001_46, .int .u64 x256002_46, .string x256003_46, .string x256004_46] 26 (0, 0)) (by (with_reducible repeat (first | refine blk_drewN ?_ _ | refine blk_drew ?_ | refine blk_alloc ?_ _)); exact BK255.out) hb)
           have n3_ := Aside0.mk (below_step (by repeat (first | (with_reducible first | exact HB.out | apply below_alloc | apply pw_below_drewN | apply below_drew1 | refine below_set ?_ GE237.out | refine below_set ?_ GE238.out | refine below_set ?_ GE255.out) | exact HB.out)) hb)
           clear BK237
           clear BK238
           clear BK255
           clear HB
           have BK237 := n0_
           have BK238 := n1_
           have BK255 := n2_
           have HB := n3_
           clear n0_ n1_ n2_ n3_
           (try clear hb)
           (try clear hb2)
           (try clear hk)
           (try clear hi)
           refine hK.out _ _ ⟨(blk_cell BK237.out 0).trans rfl, (blk_cell BK237.out 1).trans rfl, (blk_cell BK237.out 2).trans rfl, (blk_cell BK237.out 3).trans rfl, (blk_cell BK237.out 4).trans rfl, (blk_cell BK238.out 0).trans rfl, (blk_cell BK238.out 1).trans rfl, (blk_cell BK238.out 2).trans rfl, (blk_cell BK238.out 3).trans rfl, (blk_cell BK238.out 4).trans rfl⟩ (fun hHeld => ?_)
           clear hK K
           refine norm_ (a' := ?_) ?_ ?_
           rotate_left
           ·
            show Act.put _ (some 74) _ = _
            simp only [Act.put, List.setIfInBounds_toArray, List.set_cons_zero, List.set_cons_succ, i64_w, i32_w]
            rfl
           refine pure_ (i := 21) (N := some 75) (v := ?_) (a' := ?_) #[true, true, true, true, true, true, true, true, true, true, true, true, true, true, true, true, true, true, true, true, true, true, false] rfl rfl (any_of HT_.out (by kernel_rfl)) (fun _ _ _ h => h) (Or.inl ⟨by rfl, ?_⟩) ?_ ?_
           rotate_left
           ·
            intro w'
            go_simp
            with_reducible rfl
           rotate_left
           ·
            simp only [Act.put, List.setIfInBounds_toArray, List.set_cons_zero, List.set_cons_succ, i64_w, i32_w]
            rfl
           refine pure_ (i := 22) (N := some 6) (v := ?_) (a' := ?_) #[true, true, true, true, true, true, true, true, true, true, true, true, true, true, true, true, true, true, true, true, true, true, true] rfl rfl (any_of HT_.out (by kernel_rfl)) (fun _ _ _ h => h) (Or.inl ⟨by rfl, ?_⟩) ?_ ?_
           rotate_left
           ·
            intro w'
            go_simp
            with_reducible rfl
           rotate_left
           ·
            simp only [Act.put, List.setIfInBounds_toArray, List.set_cons_zero, List.set_cons_succ, i64_w, i32_w]
            rfl
           refine done_ (done_of HT_.out (by kernel_rfl)) ?_
           try go_wp2
           go_ret
           exact ⟨by first | rfl | (simp [errW_none, errW_some] <;> rfl) | (simp [*, errW_none, errW_some] <;> rfl) | (simp [bneNil]; done), by repeat (first | (with_reducible first | exact HB.out | apply below_alloc | apply pw_below_drewN | apply below_drew1 | refine below_set ?_ GE237.out | refine below_set ?_ GE238.out | refine below_set ?_ GE255.out) | exact HB.out)⟩
          ·
           rw [if_neg c77] at H
           have c77b0 : (t256 == false) = false := by simpa using c77
           (try (have c77b1 : decide (t256 = false) = false := by simpa using c77))
           (try (have c77b2 : (t256 == false) = false := by simpa using c77))
           (try (have c77b3 : ¬ (t256 = false) := by simpa using c77))
           clear c77
           obtain rfl := Option.some.inj H
           try go_wp2
           have n0_ := Aside0.mk (blk_drew BK237.out)
           have n1_ := Aside0.mk (blk_drew BK238.out)
           have n2_ := Aside0.mk (blk_drew BK255.out)
           have n3_ := Aside0.mk (below_drew1 HB.out)
           clear BK237
           clear BK238
           clear BK255
           clear HB
           have BK237 := n0_
           have BK238 := n1_
           have BK255 := n2_
           have HB := n3_
           clear n0_ n1_ n2_ n3_
           refine start_ (n := 23) (S := fun w' => w'.cell? ⟨gb237, 0, none⟩ = some (.int .u64 t241) ∧ w'.cell? ⟨gb237, 1, none⟩ = some (.int .u64 t242) ∧ w'.cell? ⟨gb237, 2, none⟩ = some (.int .u64 t243) ∧ w'.cell? ⟨gb237, 3, none⟩ = some (.string t244) ∧ w'.cell? ⟨gb237, 4, none⟩ = some (.string t245) ∧ w'.cell? ⟨gb238, 0, none⟩ = some (.int .u64 t246) ∧ w'.cell? ⟨gb238, 1, none⟩ = some (.int .u64 t247) ∧ w'.cell? ⟨gb238, 2, none⟩ = some (.int .u64 t248) ∧ w'.cell? ⟨gb238, 3, none⟩ = some (.string t249) ∧ w'.cell? ⟨gb238, 4, none⟩ = some (.string t250)) (ds := []) #[false, false, false, false, false, false, false, false, false, false, false, false, false, false, false, false, false, false, false, false, false, false, false] (by kernel_rfl) rfl rfl ⟨(blk_cell BK237.out 0).trans rfl, (blk_cell BK237.out 1).trans rfl, (blk_cell BK237.out 2).trans rfl, (blk_cell BK237.out 3).trans rfl, (blk_cell BK237.out 4).trans rfl, (blk_cell BK238.out 0).trans rfl, (blk_cell BK238.out 1).trans rfl, (blk_cell BK238.out 2).trans rfl, (blk_cell BK238.out 3).trans rfl, (blk_cell BK238.out 4).trans rfl⟩ (fun hHeld => ?_); refine with_tabW laws_FnSemverTermTilde.tab9 laws_FnSemverTermTilde.bits9 (fun HT_ HW_ => ?_)
           generalize wc.drew = w85 at BK237 BK238 BK255 HB hHeld ⊢
           refine pure_ (i := 1) (N := some 55) (v := ?_) (a' := ?_) #[false, true, false, false, false, false, false, false, false, false, false, false, false, false, false, false, false, false, false, false, false, false, false] rfl rfl (any_of HT_.out (by kernel_rfl)) (fun _ _ _ h => h) (Or.inl ⟨by rfl, ?_⟩) ?_ ?_
           rotate_left
           ·
            intro w'
            go_simp
            with_reducible rfl
           rotate_left
           ·
            simp only [Act.put, List.setIfInBounds_toArray, List.set_cons_zero, List.set_cons_succ, i64_w, i32_w]
            rfl
           refine pure_ (i := 5) (N := some 59) (v := ?_) (a' := ?_) #[false, true, false, false, false, true, false, false, false, false, false, false, false, false, false, false, false, false, false, false, false, false, false] rfl rfl (any_of HT_.out (by kernel_rfl)) (fun _ _ _ h => h) (Or.inl ⟨by rfl, ?_⟩) ?_ ?_
           rotate_left
           ·
            intro w'
            go_simp
            with_reducible rfl
           rotate_left
           ·
            simp only [Act.put, List.setIfInBounds_toArray, List.set_cons_zero, List.set_cons_succ, i64_w, i32_w]
            rfl
           refine take_ (i := 0) (N := some 54) (v := ?_) (a' := ?_) #[true, true, false, false, false, true, false, false, false, false, false, false, false, false, false, false, false, false, false, false, false, false, false] rfl rfl (take_ofW HT_.out HW_.out (by kernel_rfl)) (fun _ _ _ h => h) (Or.inl ⟨by rfl, ?_⟩) hHeld ?_ ?_
           rotate_left
           ·
            rintro w' ⟨s0, s1, s2, s3, s4, s5, s6, s7, s8, s9⟩
            go_simp
            with_reducible rfl
           rotate_left
           ·
            simp only [Act.put, List.setIfInBounds_toArray, List.set_cons_zero, List.set_cons_succ, i64_w, i32_w]
            rfl
           refine take_ (i := 2) (N := some 56) (v := ?_) (a' := ?_) #[true, true, true, false, false, true, false, false, false, false, false, false, false, false, false, false, false, false, false, false, false, false, false] rfl rfl (take_ofW HT_.out HW_.out (by kernel_rfl)) (fun _ _ _ h => h) (Or.inl ⟨by rfl, ?_⟩) hHeld ?_ ?_
           rotate_left
           ·
            rintro w' ⟨s0, s1, s2, s3, s4, s5, s6, s7, s8, s9⟩
            go_simp
            with_reducible rfl
           rotate_left
           ·
            simp only [Act.put, List.setIfInBounds_toArray, List.set_cons_zero, List.set_cons_succ, i64_w, i32_w]
            rfl
           refine take_ (i := 4) (N := some 58) (v := ?_) (a' := ?_) #[true, true, true, false, true, true, false, false, false, false, false, false, false, false, false, false, false, false, false, false, false, false, false] rfl rfl (take_ofW HT_.out HW_.out (by kernel_rfl)) (fun _ _ _ h => h) (Or.inl ⟨by rfl, ?_⟩) hHeld ?_ ?_
           rotate_left
           ·
            rintro w' ⟨s0, s1, s2, s3, s4, s5, s6, s7, s8, s9⟩
            go_simp
            with_reducible rfl
           rotate_left
           ·
            simp only [Act.put, List.setIfInBounds_toArray, List.set_cons_zero, List.set_cons_succ, i64_w, i32_w]
            rfl
           refine take_ (i := 6) (N := some 60) (v := ?_) (a' := ?_) #[true, true, true, false, true, true, true, false, false, false, false, false, false, false, false, false, false, false, false, false, false, false, false] rfl rfl (take_ofW HT_.out HW_.out (by kernel_rfl)) (fun _ _ _ h => h) (Or.inl ⟨by rfl, ?_⟩) hHeld ?_ ?_
           rotate_left
           ·
            rintro w' ⟨s0, s1, s2, s3, s4, s5, s6, s7, s8, s9⟩
            go_simp
            with_reducible rfl
           rotate_left
           ·
            simp only [Act.put, List.setIfInBounds_toArray, List.set_cons_zero, List.set_cons_succ, i64_w, i32_w]
            rfl
           refine one_ (i := 3) (N := some 57) #[true, true, true, true, true, true, true, false, false, false, false, false, false, false, false, false, false, false, false, false, false, false, false] rfl rfl (one_of HT_.out (by kernel_rfl)) (by decide) (fun K hK => ?_)
           refine goes_ Tryd.func23 (by kernel_rfl) rfl #[.int .i64 6, .agg #[.int .u64 t241, .int .u64 t242, .int .u64 t243, .string t244, .string t245], .int .i64 a1, .agg #[.int .u64 t246, .int .u64 t247, .int .u64 t248, .string t249, .string t250]] (by rfl) rfl rfl (by (try simp only [List.map_toArray, List.map_cons, List.map_nil]); first | done | rfl | (simp only [List.length_drop, List.length_take]; rfl)) ?_
           with_reducible refine (laws_stHolds.calls 6 t241 t242 t243 t244 t245 a1 t246 t247 t248 t249 t250 t256 _ ?side1 A60.out).mono ?_
           (case side1 => exact HStd.out.below (by repeat (first | (with_reducible first | exact HB.out | apply below_alloc | apply pw_below_drewN | apply below_drew1 | refine below_set ?_ GE237.out | refine below_set ?_ GE238.out | refine below_set ?_ GE255.out) | exact HB.out)))
           rintro e w86 ⟨rfl, hb⟩
           refine ⟨_, rfl, ?_⟩
           have n0_ := Aside0.mk (blk_below (g := gb237) (o := .cells #[.int .u64 t241, .int .u64 t242, .int .u64 t243, .string t244, .string t245] 26 (0, 0)) (by (with_reducible repeat (first | refine blk_drewN ?_ _ | refine blk_drew ?_ | refine blk_alloc ?_ _)); exact BK237.out) hb)
           have n1_ := Aside0.mk (blk_below (g := gb238) (o := .cells #[.int .u64 t246, .int .u64 t247, .int .u64 t248, .string t249, .string t250] 26 (0, 0)) (by (with_reducible repeat (first | refine blk_drewN ?_ _ | refine blk_drew ?_ | refine blk_alloc ?_ _)); exact BK238.out) hb)
           have n2_ := Aside0.mk (blk_below (g := gb255) (o := .cells #[.int .u64 x256000_46, .int .u64 x256001_46, .int .u64 x256002_46, .string x256003_46, .string x256004_46] 26 (0, 0)) (by (with_reducible repeat (first | refine blk_drewN ?_ _ | refine blk_drew ?_ | refine blk_alloc ?_ _)); exact BK255.out) hb)
           have n3_ := Aside0.mk (below_step (by repeat (first | (with_reducible first | exact HB.out | apply below_alloc | apply pw_below_drewN | apply below_drew1 | refine below_set ?_ GE237.out | refine below_set ?_ GE238.out | refine below_set ?_ GE255.out) | exact HB.out)) hb)
           clear BK237
           clear BK238
           clear BK255
           clear HB
           have BK237 := n0_
           have BK238 := n1_
           have BK255 := n2_
           have HB := n3_
           clear n0_ n1_ n2_ n3_
           (try clear hb)
           (try clear hb2)
           (try clear hk)
           (try clear hi)
           refine hK.out _ _ ⟨(blk_cell BK237.out 0).trans rfl, (blk_cell BK237.out 1).trans rfl, (blk_cell BK237.out 2).trans rfl, (blk_cell BK237.out 3).trans rfl, (blk_cell BK237.out 4).trans rfl, (blk_cell BK238.out 0).trans rfl, (blk_cell BK238.out 1).trans rfl, (blk_cell BK238.out 2).trans rfl, (blk_cell BK238.out 3).trans rfl, (blk_cell BK238.out 4).trans rfl⟩ (fun hHeld => ?_)
           clear hK K
           refine norm_ (a' := ?_) ?_ ?_
           rotate_left
           ·
            show Act.put _ (some 57) _ = _
            simp only [Act.put, List.setIfInBounds_toArray, List.set_cons_zero, List.set_cons_succ, i64_w, i32_w]
            rfl
           refine one_ (i := 7) (N := some 61) #[true, true, true, true, true, true, true, true, false, false, false, false, false, false, false, false, false, false, false, false, false, false, false] rfl rfl (one_of HT_.out (by kernel_rfl)) (by decide) (fun K hK => ?_)
           refine goes_ Tryd.func23 (by kernel_rfl) rfl #[.int .i64 4, .agg #[.int .u64 t241, .int .u64 t242, .int .u64 t243, .string t244, .string t245], .int .i64 a1, .agg #[.int .u64 t246, .int .u64 t247, .int .u64 t248, .string t249, .string t250]] (by rfl) rfl rfl (by (try simp only [List.map_toArray, List.map_cons, List.map_nil]); first | done | rfl | (simp only [List.length_drop, List.length_take]; rfl)) ?_
           with_reducible refine (laws_stHolds.calls 4 t241 t242 t243 t244 t245 a1 t246 t247 t248 t249 t250 false _ ?side1 A61.out).mono ?_
           (case side1 => exact HStd.out.below (by repeat (first | (with_reducible first | exact HB.out | apply below_alloc | apply pw_below_drewN | apply below_drew1 | refine below_set ?_ GE237.out | refine below_set ?_ GE238.out | refine below_set ?_ GE255.out) | exact HB.out)))
           rintro e w87 ⟨rfl, hb⟩
           refine ⟨_, rfl, ?_⟩
           have n0_ := Aside0.mk (blk_below (g := gb237) (o := .cells #[.int .u64 t241, .int .u64 t242, .int .u64 t243, .string t244, .string t245] 26 (0, 0)) (by (with_reducible repeat (first | refine blk_drewN ?_ _ | refine blk_drew ?_ | refine blk_alloc ?_ _)); exact BK237.out) hb)
           have n1_ := Aside0.mk (blk_below (g := gb238) (o := .cells #[.int .u64 t246, .int .u64 t247, .int .u64 t248, .string t249, .string t250] 26 (0, 0)) (by (with_reducible repeat (first | refine blk_drewN ?_ _ | refine blk_drew ?_ | refine blk_alloc ?_ _)); exact BK238.out) hb)
           have n2_ := Aside0.mk (blk_below (g := gb255) (o := .cells #[.int .u64 x256000_46, .int .u64 x256001_46, .int .u64 x256002_46, .string x256003_46, .string x256004_46] 26 (0, 0)) (by (with_reducible repeat (first | refine blk_drewN ?_ _ | refine blk_drew ?_ | refine blk_alloc ?_ _)); exact BK255.out) hb)
           have n3_ := Aside0.mk (below_step (by repeat (first | (with_reducible first | exact HB.out | apply below_alloc | apply pw_below_drewN | apply below_drew1 | refine below_set ?_ GE237.out | refine below_set ?_ GE238.out | refine below_set ?_ GE255.out) | exact HB.out)) hb)
           clear BK237
           clear BK238
           clear BK255
           clear HB
           have BK237 := n0_
           have BK238 := n1_
           have BK255 := n2_
           have HB := n3_
           clear n0_ n1_ n2_ n3_
           (try clear hb)
           (try clear hb2)
           (try clear hk)
           (try clear hi)
           refine hK.out _ _ ⟨(blk_cell BK237.out 0).trans rfl, (blk_cell BK237.out 1).trans rfl, (blk_cell BK237.out 2).trans rfl, (blk_cell BK237.out 3).trans rfl, (blk_cell BK237.out 4).trans rfl, (blk_cell BK238.out 0).trans rfl, (blk_cell BK238.out 1).trans rfl, (blk_cell BK238.out 2).trans rfl, (blk_cell BK238.out 3).trans rfl, (blk_cell BK238.out 4).trans rfl⟩ (fun hHeld => ?_)
           clear hK K
           refine norm_ (a' := ?_) ?_ ?_
           rotate_left
           ·
            show Act.put _ (some 61) _ = _
            simp only [Act.put, List.setIfInBounds_toArray, List.set_cons_zero, List.set_cons_succ, i64_w, i32_w]
            rfl
           refine pure_ (i := 8) (N := some 62) (v := ?_) (a' := ?_) #[true, true, true, true, true, true, true, true, true, false, false, false, false, false, false, false, false, false, false, false, false, false, false] rfl rfl (any_of HT_.out (by kernel_rfl)) (fun _ _ _ h => h) (Or.inl ⟨by rfl, ?_⟩) ?_ ?_
           rotate_left
           ·
            intro w'
            go_simp
            with_reducible rfl
           rotate_left
           ·
            simp only [Act.put, List.setIfInBounds_toArray, List.set_cons_zero, List.set_cons_succ, i64_w, i32_w]
            rfl
           refine pure_ (i := 9) (N := some 63) (v := undef) (a' := ?_) #[true, true, true, true, true, true, true, true, true, true, false, false, false, false, false, false, false, false, false, false, false, false, false] rfl rfl (any_of HT_.out (by kernel_rfl)) (fun _ _ _ h => h) (Or.inr ⟨by rfl, rfl⟩) ?_ ?_
           rotate_left
           ·
            simp only [Act.put, List.setIfInBounds_toArray, List.set_cons_zero, List.set_cons_succ, i64_w, i32_w]
            rfl
           refine pure_ (i := 10) (N := some 64) (v := undef) (a' := ?_) #[true, true, true, true, true, true, true, true, true, true, true, false, false, false, false, false, false, false, false, false, false, false, false] rfl rfl (any_of HT_.out (by kernel_rfl)) (fun _ _ _ h => h) (Or.inr ⟨by rfl, rfl⟩) ?_ ?_
           rotate_left
           ·
            simp only [Act.put, List.setIfInBounds_toArray, List.set_cons_zero, List.set_cons_succ, i64_w, i32_w]
            rfl
           refine pure_ (i := 11) (N := some 65) (v := undef) (a' := ?_) #[true, true, true, true, true, true, true, true, true, true, true, true, false, false, false, false, false, false, false, false, false, false, false] rfl rfl (any_of HT_.out (by kernel_rfl)) (fun _ _ _ h => h) (Or.inr ⟨by rfl, rfl⟩) ?_ ?_
           rotate_left
           ·
            simp only [Act.put, List.setIfInBounds_toArray, List.set_cons_zero, List.set_cons_succ, i64_w, i32_w]
            rfl
           refine pure_ (i := 12) (N := some 66) (v := ?_) (a' := ?_) #[true, true, true, true, true, true, true, true, true, true, true, true, true, false, false, false, false, false, false, false, false, false, false] rfl rfl (any_of HT_.out (by kernel_rfl)) (fun _ _ _ h => h) (Or.inl ⟨by rfl, ?_⟩) ?_ ?_
           rotate_left
           ·
            intro w'
            go_simp
            with_reducible rfl
           rotate_left
           ·
            simp only [Act.put, List.setIfInBounds_toArray, List.set_cons_zero, List.set_cons_succ, i64_w, i32_w]
            rfl
           refine pure_ (i := 13) (N := some 67) (v := ?_) (a' := ?_) #[true, true, true, true, true, true, true, true, true, true, true, true, true, true, false, false, false, false, false, false, false, false, false] rfl rfl (any_of HT_.out (by kernel_rfl)) (fun _ _ _ h => h) (Or.inl ⟨by rfl, ?_⟩) ?_ ?_
           rotate_left
           ·
            intro w'
            go_simp
            with_reducible rfl
           rotate_left
           ·
            simp only [Act.put, List.setIfInBounds_toArray, List.set_cons_zero, List.set_cons_succ, i64_w, i32_w]
            rfl
           refine pure_ (i := 14) (N := some 68) (v := ?_) (a' := ?_) #[true, true, true, true, true, true, true, true, true, true, true, true, true, true, true, false, false, false, false, false, false, false, false] rfl rfl (any_of HT_.out (by kernel_rfl)) (fun _ _ _ h => h) (Or.inl ⟨by rfl, ?_⟩) ?_ ?_
           rotate_left
           ·
            intro w'
            go_simp
            with_reducible rfl
           rotate_left
           ·
            simp only [Act.put, List.setIfInBounds_toArray, List.set_cons_zero, List.set_cons_succ, i64_w, i32_w]
            rfl
           refine pure_ (i := 15) (N := some 69) (v := undef) (a' := ?_) #[true, true, true, true, true, true, true, true, true, true, true, true, true, true, true, true, false, false, false, false, false, false, false] rfl rfl (any_of HT_.out (by kernel_rfl)) (fun _ _ _ h => h) (Or.inr ⟨by rfl, rfl⟩) ?_ ?_
           rotate_left
           ·
            simp only [Act.put, List.setIfInBounds_toArray, List.set_cons_zero, List.set_cons_succ, i64_w, i32_w]
            rfl
           refine pure_ (i := 16) (N := some 70) (v := undef) (a' := ?_) #[true, true, true, true, true, true, true, true, true, true, true, true, true, true, true, true, true, false, false, false, false, false, false] rfl rfl (any_of HT_.out (by kernel_rfl)) (fun _ _ _ h => h) (Or.inr ⟨by rfl, rfl⟩) ?_ ?_
           rotate_left
           ·
            simp only [Act.put, List.setIfInBounds_toArray, List.set_cons_zero, List.set_cons_succ, i64_w, i32_w]
            rfl
           refine pure_ (i := 17) (N := some 71) (v := undef) (a' := ?_) #[true, true, true, true, true, true, true, true, true, true, true, true, true, true, true, true, true, true, false, false, false, false, false] rfl rfl (any_of HT_.out (by kernel_rfl)) (fun _ _ _ h => h) (Or.inr ⟨by rfl, rfl⟩) ?_ ?_
           rotate_left
           ·
            simp only [Act.put, List.setIfInBounds_toArray, List.set_cons_zero, List.set_cons_succ, i64_w, i32_w]
            rfl
           refine pure_ (i := 18) (N := some 72) (v := undef) (a' := ?_) #[true, true, true, true, true, true, true, true, true, true, true, true, true, true, true, true, true, true, true, false, false, false, false] rfl rfl (any_of HT_.out (by kernel_rfl)) (fun _ _ _ h => h) (Or.inr ⟨by rfl, rfl⟩) ?_ ?_
           rotate_left
           ·
            simp only [Act.put, List.setIfInBounds_toArray, List.set_cons_zero, List.set_cons_succ, i64_w, i32_w]
            rfl
           refine pure_ (i := 19) (N := some 73) (v := undef) (a' := ?_) #[true, true, true, true, true, true, true, true, true, true, true, true, true, true, true, true, true, true, true, true, false, false, false] rfl rfl (any_of HT_.out (by kernel_rfl)) (fun _ _ _ h => h) (Or.inr ⟨by rfl, rfl⟩) ?_ ?_
           rotate_left
           ·
            simp only [Act.put, List.setIfInBounds_toArray, List.set_cons_zero, List.set_cons_succ, i64_w, i32_w]
            rfl
           refine pure_ (i := 20) (N := some 74) (v := undef) (a' := ?_) #[true, true, true, true, true, true, true, true, true, true, true, true, true, true, true, true, true, true, true, true, true, false, false] rfl rfl (any_of HT_.out (by kernel_rfl)) (fun _ _ _ h => h) (Or.inr ⟨by rfl, rfl⟩) ?_ ?_
           rotate_left
           ·
            simp only [Act.put, List.setIfInBounds_toArray, List.set_cons_zero, List.set_cons_succ, i64_w, i32_w]
            rfl
           refine pure_ (i := 21) (N := some 75) (v := ?_) (a' := ?_) #[true, true, true, true, true, true, true, true, true, true, true, true, true, true, true, true, true, true, true, true, true, true, false] rfl rfl (any_of HT_.out (by kernel_rfl)) (fun _ _ _ h => h) (Or.inl ⟨by rfl, ?_⟩) ?_ ?_
           rotate_left
           ·
            intro w'
            go_simp
            with_reducible rfl
           rotate_left
           ·
            simp only [Act.put, List.setIfInBounds_toArray, List.set_cons_zero, List.set_cons_succ, i64_w, i32_w]
            rfl
           refine pure_ (i := 22) (N := some 6) (v := ?_) (a' := ?_) #[true, true, true, true, true, true, true, true, true, true, true, true, true, true, true, true, true, true, true, true, true, true, true] rfl rfl (any_of HT_.out (by kernel_rfl)) (fun _ _ _ h => h) (Or.inl ⟨by rfl, ?_⟩) ?_ ?_
           rotate_left
           ·
            intro w'
            go_simp
            with_reducible rfl
           rotate_left
           ·
            simp only [Act.put, List.setIfInBounds_toArray, List.set_cons_zero, List.set_cons_succ, i64_w, i32_w]
            rfl
           refine done_ (done_of HT_.out (by kernel_rfl)) ?_
           try go_wp2
           go_ret
           exact ⟨by first | rfl | (simp [errW_none, errW_some] <;> rfl) | (simp [*, errW_none, errW_some] <;> rfl) | (simp [bneNil]; done), by repeat (first | (with_reducible first | exact HB.out | apply below_alloc | apply pw_below_drewN | apply below_drew1 | refine below_set ?_ GE237.out | refine below_set ?_ GE238.out | refine below_set ?_ GE255.out) | exact HB.out)⟩

end Go.Proofs.YtllkoadcpobdaaaDoor.PX
