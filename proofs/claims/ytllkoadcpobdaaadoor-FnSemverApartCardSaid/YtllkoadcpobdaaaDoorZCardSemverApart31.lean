/- The row and the tied card of FnSemverApart, out of its printed walk and its plain law. For every input that the statement lets in. -/
import Derived.Test.YtllkoadcpobdaaaDoorZCardSemverApart11
import Derived.Test.YtllkoadcpobdaaaDoorZCardSemverApart30
import Derived.Test.YtllkoadcpobdaaaDoorRows
import Derived.Test.YtllkoadcpobdaaaDoorTie
import Derived.Test.YtllkoadcpobdaaaDoorCards
import Derived.ProofKit
import Derived.OpenShut
import Derived.ShutString
import Derived.SizedLaws
import Derived.ChangeOld
import Derived.Below
import Derived.Carry
import Derived.LaidMore
import Derived.LaidLaws
import Derived.Stop.Joined
import Derived.Stop.LaidErr
import Derived.SevenTiedAt
import Derived.LaidHandle
import Derived.MakeChecks
import Derived.Lib.LaidTab
import Derived.Lib.SmallJoins
namespace Go.Proofs.YtllkoadcpobdaaaDoor.Opn
end Go.Proofs.YtllkoadcpobdaaaDoor.Opn
namespace Go.Proofs.YtllkoadcpobdaaaDoor.cardFnSemverApart

open Go.ChangeShapes Go.WideShapes Go.ChangeAt Go.RowKit Go.WideMaps Go.WideElems Go.Proofs.YtllkoadcpobdaaaDoor.Opn

open Go.ChangeMaps (open_string shut_string)

open Go.Proofs.YtllkoadcpobdaaaDoorW.PrintWords Go.Proofs.YtllkoadcpobdaaaDoorW.PrintLast Go.Proofs.YtllkoadcpobdaaaDoorW.PrintMore

set_option linter.unusedVariables false

theorem own : ownKnob Tryd.prog.godebug = none := by kernel_rfl

theorem laidOut : laidOutB Tryd.prog = true := by kernel_rfl

theorem list6_24 {α : Type} (l : List α) (h : l.length = 6) : ∃ a0 a1 a2 a3 a4 a5, l = [a0, a1, a2, a3, a4, a5] := by
  match l, h with
  | [a0, a1, a2, a3, a4, a5], _ => exact ⟨a0, a1, a2, a3, a4, a5, rfl⟩

set_option maxRecDepth 100000 in
theorem opensT24 : Opens Tryd.prog Go.Proofs.YtllkoadcpobdaaaDoor.PX.k24 (fun x => (Lit.int .i64 x.f0).wf = true ∧ (Lit.int .i64 x.f1).wf = true ∧ (Lit.int .u64 x.f2).wf = true ∧ (Lit.int .u64 x.f3).wf = true ∧ (Lit.int .u64 x.f4).wf = true ∧ True) 24 := by
  intro H enc w base sp held fuel cs x h
  obtain ⟨xs, n, _, _, hl, hlen, hg⟩ := DataW.trod_struct Tryd.underlying24 h
  have hl' : cs.length = 6 := hl.trans (by kernel_rfl)
  have c3 : Tryd.prog.cellsOf 3 = 1 := by kernel_rfl
  have c22 : Tryd.prog.cellsOf 22 = 1 := by kernel_rfl
  have c9 : Tryd.prog.cellsOf 9 = 1 := by kernel_rfl
  obtain ⟨v0, v1, v2, v3, v4, v5, rfl⟩ := list6_24 cs hl'
  obtain ⟨y0, y1, y2, y3, y4, y5, rfl⟩ := list6_24 xs hlen
  have h0 : DataW.trod enc Tryd.prog w base sp held n 3 (([v0, v1, v2, v3, v4, v5].drop 0).take (Tryd.prog.cellsOf 3)) = [y0, y1, y2, y3, y4, y5][0]? := hg 0 _ rfl
  rw [c3] at h0
  replace h0 : DataW.trod enc Tryd.prog w base sp held n 3 [v0] = some y0 := h0
  have h1 : DataW.trod enc Tryd.prog w base sp held n 3 (([v0, v1, v2, v3, v4, v5].drop 1).take (Tryd.prog.cellsOf 3)) = [y0, y1, y2, y3, y4, y5][1]? := hg 1 _ rfl
  rw [c3] at h1
  replace h1 : DataW.trod enc Tryd.prog w base sp held n 3 [v1] = some y1 := h1
  have h2 : DataW.trod enc Tryd.prog w base sp held n 22 (([v0, v1, v2, v3, v4, v5].drop 2).take (Tryd.prog.cellsOf 22)) = [y0, y1, y2, y3, y4, y5][2]? := hg 2 _ rfl
  rw [c22] at h2
  replace h2 : DataW.trod enc Tryd.prog w base sp held n 22 [v2] = some y2 := h2
  have h3 : DataW.trod enc Tryd.prog w base sp held n 22 (([v0, v1, v2, v3, v4, v5].drop 3).take (Tryd.prog.cellsOf 22)) = [y0, y1, y2, y3, y4, y5][3]? := hg 3 _ rfl
  rw [c22] at h3
  replace h3 : DataW.trod enc Tryd.prog w base sp held n 22 [v3] = some y3 := h3
  have h4 : DataW.trod enc Tryd.prog w base sp held n 22 (([v0, v1, v2, v3, v4, v5].drop 4).take (Tryd.prog.cellsOf 22)) = [y0, y1, y2, y3, y4, y5][4]? := hg 4 _ rfl
  rw [c22] at h4
  replace h4 : DataW.trod enc Tryd.prog w base sp held n 22 [v4] = some y4 := h4
  have h5 : DataW.trod enc Tryd.prog w base sp held n 9 (([v0, v1, v2, v3, v4, v5].drop 5).take (Tryd.prog.cellsOf 9)) = [y0, y1, y2, y3, y4, y5][5]? := hg 5 _ rfl
  rw [c9] at h5
  replace h5 : DataW.trod enc Tryd.prog w base sp held n 9 [v5] = some y5 := h5
  obtain ⟨a0, e0, _, w0⟩ := DataW.trod_int Tryd.underlying3 h0
  cases e0
  obtain ⟨a1, e1, _, w1⟩ := DataW.trod_int Tryd.underlying3 h1
  cases e1
  obtain ⟨a2, e2, _, w2⟩ := DataW.trod_int Tryd.underlying22 h2
  cases e2
  obtain ⟨a3, e3, _, w3⟩ := DataW.trod_int Tryd.underlying22 h3
  cases e3
  obtain ⟨a4, e4, _, w4⟩ := DataW.trod_int Tryd.underlying22 h4
  cases e4
  obtain ⟨a5, e5, _, _⟩ := DataW.trod_string Tryd.underlying9 h5
  cases e5
  exact ⟨⟨a0, a1, a2, a3, a4, a5⟩, Go.Proofs.YtllkoadcpobdaaaDoor.PX.k24_mk w _, w0, w1, w2, w3, w4, trivial⟩

theorem list5_26 {α : Type} (l : List α) (h : l.length = 5) : ∃ a0 a1 a2 a3 a4, l = [a0, a1, a2, a3, a4] := by
  match l, h with
  | [a0, a1, a2, a3, a4], _ => exact ⟨a0, a1, a2, a3, a4, rfl⟩

set_option maxRecDepth 100000 in
theorem opensT26 : Opens Tryd.prog Go.Proofs.YtllkoadcpobdaaaDoor.PX.k26 (fun x => (Lit.int .u64 x.f0).wf = true ∧ (Lit.int .u64 x.f1).wf = true ∧ (Lit.int .u64 x.f2).wf = true ∧ True ∧ True) 26 := by
  intro H enc w base sp held fuel cs x h
  obtain ⟨xs, n, _, _, hl, hlen, hg⟩ := DataW.trod_struct Tryd.underlying26 h
  have hl' : cs.length = 5 := hl.trans (by kernel_rfl)
  have c22 : Tryd.prog.cellsOf 22 = 1 := by kernel_rfl
  have c9 : Tryd.prog.cellsOf 9 = 1 := by kernel_rfl
  obtain ⟨v0, v1, v2, v3, v4, rfl⟩ := list5_26 cs hl'
  obtain ⟨y0, y1, y2, y3, y4, rfl⟩ := list5_26 xs hlen
  have h0 : DataW.trod enc Tryd.prog w base sp held n 22 (([v0, v1, v2, v3, v4].drop 0).take (Tryd.prog.cellsOf 22)) = [y0, y1, y2, y3, y4][0]? := hg 0 _ rfl
  rw [c22] at h0
  replace h0 : DataW.trod enc Tryd.prog w base sp held n 22 [v0] = some y0 := h0
  have h1 : DataW.trod enc Tryd.prog w base sp held n 22 (([v0, v1, v2, v3, v4].drop 1).take (Tryd.prog.cellsOf 22)) = [y0, y1, y2, y3, y4][1]? := hg 1 _ rfl
  rw [c22] at h1
  replace h1 : DataW.trod enc Tryd.prog w base sp held n 22 [v1] = some y1 := h1
  have h2 : DataW.trod enc Tryd.prog w base sp held n 22 (([v0, v1, v2, v3, v4].drop 2).take (Tryd.prog.cellsOf 22)) = [y0, y1, y2, y3, y4][2]? := hg 2 _ rfl
  rw [c22] at h2
  replace h2 : DataW.trod enc Tryd.prog w base sp held n 22 [v2] = some y2 := h2
  have h3 : DataW.trod enc Tryd.prog w base sp held n 9 (([v0, v1, v2, v3, v4].drop 3).take (Tryd.prog.cellsOf 9)) = [y0, y1, y2, y3, y4][3]? := hg 3 _ rfl
  rw [c9] at h3
  replace h3 : DataW.trod enc Tryd.prog w base sp held n 9 [v3] = some y3 := h3
  have h4 : DataW.trod enc Tryd.prog w base sp held n 9 (([v0, v1, v2, v3, v4].drop 4).take (Tryd.prog.cellsOf 9)) = [y0, y1, y2, y3, y4][4]? := hg 4 _ rfl
  rw [c9] at h4
  replace h4 : DataW.trod enc Tryd.prog w base sp held n 9 [v4] = some y4 := h4
  obtain ⟨a0, e0, _, w0⟩ := DataW.trod_int Tryd.underlying22 h0
  cases e0
  obtain ⟨a1, e1, _, w1⟩ := DataW.trod_int Tryd.underlying22 h1
  cases e1
  obtain ⟨a2, e2, _, w2⟩ := DataW.trod_int Tryd.underlying22 h2
  cases e2
  obtain ⟨a3, e3, _, _⟩ := DataW.trod_string Tryd.underlying9 h3
  cases e3
  obtain ⟨a4, e4, _, _⟩ := DataW.trod_string Tryd.underlying9 h4
  cases e4
  exact ⟨⟨a0, a1, a2, a3, a4⟩, Go.Proofs.YtllkoadcpobdaaaDoor.PX.k26_mk w _, w0, w1, w2, trivial, trivial⟩

abbrev LL : List (String × DataW Unit) := [("math/bits.deBruijn32tab", Rows.laid_math_bits_deBruijn32tab), ("math/bits.deBruijn64tab", Rows.laid_math_bits_deBruijn64tab), ("internal/strconv.uint64pow10", Rows.laid_internal_strconv_uint64pow10), ("strconv.ErrRange", Rows.laid_strconv_ErrRange), ("strconv.ErrSyntax", Rows.laid_strconv_ErrSyntax)]

theorem door_met (os : Os) (args : Array Value) : laidMetH Tryd.prog LL ((World.doorLaid Tryd.prog 62 os).forCall (fun _ _ => 0) ⟨#[], args, []⟩).memory :=
  laidMetH_of_parts3 (fuel := 8) (laidMet_of_run' 8 (by kernel_rfl) (by kernel_rfl)) (by kernel_rfl) (by kernel_rfl)

theorem star : "*" ++ "errors.errorString" = "*errors.errorString" := by decide

theorem rowES (u : TypeId) (h : Tryd.prog.typeName? 3 u = some "*errors.errorString") : u = 136 :=
  typeName_ptr_named (nm := "errors.errorString") (by rw [star]; kernel_rfl) (by kernel_rfl) (by decide) u (by rw [star]; exact h)

theorem cellsES : Tryd.prog.cellsOf 138 = 1 := by kernel_rfl

theorem cellsS : Tryd.prog.cellsOf 9 = 1 := by kernel_rfl

theorem g3 : Tryd.prog.globalNamed "strconv.ErrRange" = some 1 := by kernel_rfl

theorem gt3 : (Tryd.prog.globals[1]?).map (·.type) = some 62 := by kernel_rfl

theorem g4 : Tryd.prog.globalNamed "strconv.ErrSyntax" = some 0 := by kernel_rfl

theorem gt4 : (Tryd.prog.globals[0]?).map (·.type) = some 62 := by kernel_rfl

set_option maxRecDepth 100000 in
set_option maxHeartbeats 1000000 in
theorem lifted (os : Os) (started : os.Started) (H : Type) (enc : TypeId × Value → H) :
    ReturnsInHanded {} Tryd.checked os 11 .any (fun w args => (Rows.fnSemverApartSpec.pre enc Tryd.prog Tryd.f11 [] false w args ∧ laidMetH Tryd.prog LL w) ∧ sizedMet enc Tryd.prog Tryd.f11 (OpenSpec.ofChange Rows.fnSemverApartSpec) false w args)
      (Rows.fnSemverApartSpec.post enc Tryd.prog Tryd.f11 false true false false) := by
  refine returnsInHanded_of_change_and (C := Tryd.checked) (X := fun w _ => laidMetH Tryd.prog LL w) (fun _ _ _ hh h => h.of_heap hh) own started (by kernel_rfl) Tryd.func11
    (ChangeSpec.witness_shaped (enc := enc) (C := Tryd.checked) (os := os) (X := fun w _ => laidMetH Tryd.prog LL w) false (World.doorLaid Tryd.prog 62 os) #[.slice none 0 0, .slice none 0 0, .agg #[.int .u64 0, .int .u64 0, .int .u64 0, .string ByteArray.empty, .string ByteArray.empty]] 8 rfl (World.shaped_of_RefB (by kernel_rfl) (by kernel_rfl)) (by kernel_rfl) (by kernel_rfl) (by kernel_rfl) (door_met os _)) ?_
  intro W base args ds gs before hval0 hW hcnd hsz0 hL _
  have hval : ∀ (j : Nat) t v, Tryd.f11.params[j]? = some t → args[j]? = some v → Value.okWide Tryd.prog W .any base t v := hval0
  have hW' := hW
  obtain ⟨p, q, hA0, hV, rfl, hfz, hnd⟩ := hW
  have hA : DataW.TrodAll enc Tryd.prog W 0 (fun _ => true) true Tryd.f11.params.toList args.toList ds p := hA0
  rw [Tryd.params11] at hA hval
  obtain ⟨v0, vs0, d0, ds0, p0, q0, hargs, rfl, rfl, h0, r0⟩ := trodAll_cons hA
  obtain ⟨v1, vs1, d1, ds1, p1, q1, rfl, rfl, rfl, h1, r1⟩ := trodAll_cons r0
  obtain ⟨v2, vs2, d2, ds2, p2, q2, rfl, rfl, rfl, h2, r2⟩ := trodAll_cons r1
  obtain ⟨rfl, rfl, rfl⟩ := trodAll_nil r2
  obtain rfl : args = #[v0, v1, v2] := by cases args; simp_all
  obtain ⟨rfl, rfl⟩ := trodVars_none hV
  have lt0 : ∀ x ∈ p0, x.block < W.heap.size := by obtain ⟨m, hm⟩ := h0; exact DataW.trod_lt m _ _ _ hm
  obtain ⟨A0, len0, c0, rfl⟩ := okWide_slice Tryd.underlying45 (hval 0 45 v0 rfl rfl)
  have k0 := h0
  obtain ⟨fu0, hf0⟩ := h0
  obtain ⟨l0, hk0, hg0⟩ := (opens_slice Tryd.underlying45 (by kernel_rfl) (opens_slice Tryd.underlying42 (by kernel_rfl) opensT24)) _ _ _ _ _ _ _ _ hf0
  obtain ⟨A0', c0', e0, hc0, hC0⟩ := hk0
  obtain ⟨rfl, rfl, rfl⟩ : A0 = A0' ∧ len0 = l0.length ∧ c0 = c0' := by simpa [Value.cells] using e0
  have lt1 : ∀ x ∈ p1, x.block < W.heap.size := by obtain ⟨m, hm⟩ := h1; exact DataW.trod_lt m _ _ _ hm
  obtain ⟨A1, len1, c1, rfl⟩ := okWide_slice Tryd.underlying45 (hval 1 45 v1 rfl rfl)
  have k1 := h1
  obtain ⟨fu1, hf1⟩ := h1
  obtain ⟨l1, hk1, hg1⟩ := (opens_slice Tryd.underlying45 (by kernel_rfl) (opens_slice Tryd.underlying42 (by kernel_rfl) opensT24)) _ _ _ _ _ _ _ _ hf1
  obtain ⟨A1', c1', e1, hc1, hC1⟩ := hk1
  obtain ⟨rfl, rfl, rfl⟩ : A1 = A1' ∧ len1 = l1.length ∧ c1 = c1' := by simpa [Value.cells] using e1
  have lt2 : ∀ x ∈ p2, x.block < W.heap.size := by obtain ⟨m, hm⟩ := h2; exact DataW.trod_lt m _ _ _ hm
  obtain ⟨cs2, rfl, hs2⟩ := okWide_struct Tryd.underlying26 (hval 2 26 v2 rfl rfl)
  have k2 := h2
  obtain ⟨fu2, hf2⟩ := h2
  obtain ⟨x2, hk2, hg2⟩ := opensT26 _ _ _ _ _ _ _ _ hf2
  have e2 := Go.Proofs.YtllkoadcpobdaaaDoor.PX.k26_open hk2
  obtain ⟨a2_0, a2_1, a2_2, a2_3, a2_4⟩ := x2
  obtain ⟨w2_0, w2_1, w2_2, w2_3, w2_4⟩ := hg2
  simp only at e2 w2_0 w2_1 w2_2
  obtain rfl : cs2 = #[.int .u64 a2_0, .int .u64 a2_1, .int .u64 a2_2, .string a2_3, .string a2_4] := by cases cs2; simpa [Value.cells] using e2
  clear e2
  have ba2_0 := bounds_u64 w2_0
  obtain ⟨a2_0, rfl⟩ := Int.eq_ofNat_of_zero_le ba2_0.1
  have ba2_0' : a2_0 ≤ 18446744073709551615 := by have := ba2_0.2; omega
  have ba2_1 := bounds_u64 w2_1
  obtain ⟨a2_1, rfl⟩ := Int.eq_ofNat_of_zero_le ba2_1.1
  have ba2_1' : a2_1 ≤ 18446744073709551615 := by have := ba2_1.2; omega
  have ba2_2 := bounds_u64 w2_2
  obtain ⟨a2_2, rfl⟩ := Int.eq_ofNat_of_zero_le ba2_2.1
  have ba2_2' : a2_2 ≤ 18446744073709551615 := by have := ba2_2.2; omega
  have hL0 : laidMet Tryd.prog LL W := by rw [← MakeChecks.laidMetH_plain _ _ _ (by kernel_rfl)]; exact hL
  have hL1 := hL0.tail
  have hL2 := hL1.tail
  have hL3 := hL2.tail
  obtain ⟨e3, s3, hv3, _, _, _⟩ := laid_sentinel hL3 g3 gt3 Tryd.underlying62 rowES Tryd.underlying136 Tryd.underlying138 rfl rfl Tryd.underlying9 cellsES cellsS
  have hc3_ := World.var?_cell g3 hv3 0
  have hb3 : 1 < W.heap.size := by
    cases hh : W.heap[1]? with
    | none => simp [World.cell?, hh] at hc3_
    | some o => exact (Array.getElem?_eq_some_iff.1 hh).1
  have hL4 := hL3.tail
  obtain ⟨e4, s4, hv4, _, _, _⟩ := laid_sentinel hL4 g4 gt4 Tryd.underlying62 rowES Tryd.underlying136 Tryd.underlying138 rfl rfl Tryd.underlying9 cellsES cellsS
  have hc4_ := World.var?_cell g4 hv4 0
  have hb4 : 0 < W.heap.size := by
    cases hh : W.heap[0]? with
    | none => simp [World.cell?, hh] at hc4_
    | some o => exact (Array.getElem?_eq_some_iff.1 hh).1
  have hStd : Go.Proofs.YtllkoadcpobdaaaDoor.Std W := ⟨⟨_, _, (by simpa using hc4_)⟩, hb4, ⟨_, _, (by simpa using hc3_)⟩, hb3⟩
  clear hA0 hval0 hsz0
  have hpure := Go.Proofs.YtllkoadcpobdaaaDoor.PX.pure_Apart l0 l1 a2_0 a2_1 a2_2 a2_3 a2_4 hg0 hg1 ba2_0' ba2_1' ba2_2'
  refine (Go.Proofs.YtllkoadcpobdaaaDoor.PX.laws_FnSemverApart.calls A0 c0 l0 A1 c1 l1 (a2_0 : Int) (a2_1 : Int) (a2_2 : Int) a2_3 a2_4 true W hC0 hc0 hC1 hc1 hStd hpure).mono fun e W' ⟨he, bel⟩ => ?_
  subst he
  exact ⟨_, rfl, _, _, _, [], _, [], hW', trodAll_mk1 (shut_bool Tryd.underlying4 _), (trodAll_cons_mk (Below.trod laidOut (by kernel_rfl) (of_decide_eq_true (by kernel_rfl)) k0 bel lt0) (trodAll_cons_mk (Below.trod laidOut (by kernel_rfl) (of_decide_eq_true (by kernel_rfl)) k1 bel lt1) (trodAll_cons_mk (Below.trod laidOut (by kernel_rfl) (of_decide_eq_true (by kernel_rfl)) k2 bel lt2) trodAll_mk0))), rfl, bel.frame _, fun h => by cases h⟩

theorem over : Rows.fnSemverApartRow.holds Tryd.pinned (OpenSpec.ofChange Rows.fnSemverApartSpec) :=
  OpenClaim.holds_of_wide 11 Tryd.f11 rfl rfl rfl rfl rfl rfl rfl ⟨rfl, rfl, rfl, rfl, rfl⟩ rfl rfl rfl rfl rfl (by kernel_rfl) Tryd.func11 (by kernel_rfl)
    (of_decide_eq_true (by kernel_rfl)) (by unfold Func.isWrapper; first | (rw [if_pos (by decide +kernel)]; kernel_rfl) | (rw [if_neg (by decide +kernel)]; exact ⟨rfl, rfl⟩))
    (fun os started H enc _ => lifted os started H enc)

theorem card : Rows.FnSemverApartCardSaid :=
  Claim7.holds_tied_plain_at .later [] [.data, .data, .data, .sentinel, .sentinel] true (true, "9cd4d0472ab03c3f76172d5226c03bd227d8abce0e473bf358dff12629b1001f") true
    over (fun _ h => by cases h) (by kernel_rfl) (fun _ h => by cases h) fnSemverApart_row_tie rfl ⟨rfl, rfl⟩ (by kernel_rfl) rfl
    (fun f fn hf hfn => by
      obtain rfl : f = 11 := Option.some.inj ((show Tryd.prog.funcNamed "pub-timebook/laws.FnSemverApart" = some 11 by kernel_rfl).symm.trans hf) |>.symm
      obtain rfl : fn = Tryd.f11 := (Option.some.inj (Tryd.func11.symm.trans hfn)).symm
      exact ⟨by kernel_rfl, fun j t ht => by
        rw [Tryd.params11] at ht
        have hm : t ∈ [45, 45, 26] := by simpa using Array.mem_of_getElem? ht
        have hall : ([45, 45, 26].all fun u => !Tryd.prog.wantsStandIn u) = true := by kernel_rfl
        exact (show Tryd.prog.wantsStandIn t = false by simpa using List.all_eq_true.1 hall t hm)⟩)
    (by kernel_rfl)

end Go.Proofs.YtllkoadcpobdaaaDoor.cardFnSemverApart

namespace Go.Proofs.YtllkoadcpobdaaaDoor

theorem fnSemverApart_holds : Rows.FnSemverApartCardSaid := cardFnSemverApart.card

#print axioms fnSemverApart_holds

end Go.Proofs.YtllkoadcpobdaaaDoor
