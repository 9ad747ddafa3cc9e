/- The row and the tied card of FnSemverApart, out of its printed walk and its plain law. For every input that the statement lets in. -/
import Derived.Test.YtllkoadcpobdaaaDoorZCardSemverApart1
import Derived.Test.YtllkoadcpobdaaaDoorZCardSemverApart7
import Derived.Test.YtllkoadcpobdaaaDoorZCardSemverApart9
import Derived.Deep.RegionHeld3
import Derived.Deep.LoopGhost
import Derived.Deep.QuietTactic
import Derived.BigQuiet
import Derived.Lib.QuietBelow
import Derived.LoopTactic
import Derived.RegionTactic
namespace Go.Proofs.YtllkoadcpobdaaaDoor.Base
end Go.Proofs.YtllkoadcpobdaaaDoor.Base
namespace Go.Proofs.YtllkoadcpobdaaaDoor.PX
end Go.Proofs.YtllkoadcpobdaaaDoor.PX
namespace Go.Proofs.YtllkoadcpobdaaaDoor.KX

open Go.RowKit Go.Lib Go.Sort Go.Proofs Go.Proofs.YtllkoadcpobdaaaDoor Go.Proofs.YtllkoadcpobdaaaDoor.Base Go.Proofs.YtllkoadcpobdaaaDoor.PX

open Go.Proofs.YtllkoadcpobdaaaDoorW.PrintWords Go.Proofs.YtllkoadcpobdaaaDoorW.PrintLast Go.Proofs.YtllkoadcpobdaaaDoorW.PrintMore

attribute [local go_sem] setCell_drewN alloc_drewN

set_option linter.unusedVariables false

/-- The next of these numbers, the last of them first: what does not overflow. -/
def blkF (k : Int) (a b c : Nat) : Option (Nat × Nat × Nat) :=
  if 3 ≤ k ∧ c + 1 < 18446744073709551616 then some (a, b, c + 1) else if 2 ≤ k ∧ b + 1 < 18446744073709551616 then some (a, b + 1, 0) else if 1 ≤ k ∧ a + 1 < 18446744073709551616 then some (a + 1, 0, 0) else none

/-- A release as a value. -/
def relV (x : Nat × Nat × Nat) : Value := .agg #[.int .u64 (x.1 : Int), .int .u64 (x.2.1 : Int), .int .u64 (x.2.2 : Int), .string ⟨#[]⟩, .string ⟨#[]⟩]

theorem u64up {c : Nat} (h : c + 1 < 18446744073709551616) : IntKind.u64.wrap ((c : Int) + 1) = ((c + 1 : Nat) : Int) := by
  have e0 : ∀ x : Int, IntKind.u64.wrap x = x % 18446744073709551616 := fun x => by simp [IntKind.wrap, IntKind.bits, IntKind.signed]
  rw [e0]
  omega

theorem u64over {c : Nat} (h : c < 18446744073709551616) (h2 : ¬ c + 1 < 18446744073709551616) : IntKind.u64.wrap ((c : Int) + 1) = 0 := by
  have e0 : ∀ x : Int, IntKind.u64.wrap x = x % 18446744073709551616 := fun x => by simp [IntKind.wrap, IntKind.bits, IntKind.signed]
  rw [e0]
  omega

set_option maxHeartbeats 8000000 in
set_option maxRecDepth 100000 in
theorem block_c (a b c : Nat) (p m : ByteArray) (k : Int) (ha : a < 18446744073709551616) (hb : b < 18446744073709551616) (hc : c < 18446744073709551616) (hk : k = 1 ∨ k = 2 ∨ k = 3) (w : World) :
  Calls Tryd.prog 110 #[.agg #[.int .u64 (a : Int), .int .u64 (b : Int), .int .u64 (c : Int), .string p, .string m], .int .i64 k] w
   fun e w' => e = .returned (.tuple #[relV ((blkF k a b c).getD (0, 0, 0)), .bool (blkF k a b c).isSome]) ∧ Below w.heap.size w w' := by
 obtain ⟨V, hV⟩ : ∃ V, blkF k a b c = V := ⟨_, rfl⟩
 have HV := Lib.hid hV
 rw [hV]
 have HL := Lib.hid (And.intro ha (And.intro hb hc))
 clear hV ha hb hc
 rcases hk with rfl | rfl | rfl
 all_goals
  go_enter Tryd.func110, Tryd.ntmps110
  go_wp2_with fail
  generalize hW0 : World.alloc _ _ = w0
  have a0 : Box w0 (w.heap.size + 1 + 1) [.int .u64 (a : Int), .int .u64 (b : Int), .int .u64 (c : Int)] := by
   rw [← hW0]
   exact Box.new' _ _ _ _ (by simp)
  have r0 : Box w0 (w.heap.size + 1) [.int .u64 0, .int .u64 0, .int .u64 0, .string ⟨#[]⟩, .string ⟨#[]⟩] := by
   rw [← hW0]
   exact (Box.new' _ _ _ _ (by simp)).below ((Below.refl _ _).alloc (Nat.le_refl _) _)
  have b0 : Below w.heap.size w w0 := by
   rw [← hW0]; go_grown
  have HA := Aside0.mk a0; have HR := Aside0.mk r0; have HB := Aside0.mk b0
  clear a0 r0 b0 hW0
  go_loopw [7] (fun v w' => ∃ i : Int, v = .int .i64 i ∧ (i = -1 ∨ i = 0 ∨ i = 1 ∨ i = 2) ∧ Aside0 (blkF (i + 1) a b c = V) ∧ (∃ a1 b1 c1 : Nat, Aside0 ((i = 1 → b1 = b) ∧ (i = 2 → b1 = b ∧ c1 = c) ∧ (0 ≤ i → a1 = a)) ∧ Aside0 (Box w' (w.heap.size + 1 + 1) [.int .u64 (a1 : Int), .int .u64 (b1 : Int), .int .u64 (c1 : Int)])) ∧ Aside0 (Box w' (w.heap.size + 1) [.int .u64 0, .int .u64 0, .int .u64 0, .string ⟨#[]⟩, .string ⟨#[]⟩]) ∧ Aside0 (Below w.heap.size w w')) (fun v _ => (Go.RowKit.intOf v + 1).toNat)
  case atStart => exact ⟨_, rfl, by decide, ⟨HV.out⟩, ⟨a, b, c, ⟨fun _ => rfl, fun _ => ⟨rfl, rfl⟩, fun _ => rfl⟩, HA⟩, HR, HB⟩
  case round =>
   clear HA HR HB HV
   obtain ⟨i, rfl, hi, HV, ⟨a1, b1, c1, HI, HA⟩, HR, HB⟩ := hrel
   rcases hi with rfl | rfl | rfl | rfl
   ·
    have HN := Lib.hid (show V = none from by rw [← HV.out]; unfold blkF; rw [if_neg (by omega), if_neg (by omega), if_neg (by omega)])
    have g0 := HR.out.cell 0 _ rfl; have g1 := HR.out.cell 1 _ rfl; have g2 := HR.out.cell 2 _ rfl; have g3 := HR.out.cell 3 _ rfl; have g4 := HR.out.cell 4 _ rfl
    have fz := HR.out.free; have hz := HR.out.lt
    go_wp2_with fail
    generalize hW4 : World.setCell _ _ _ = w4
    have Z4 : Box w4 (w.heap.size + 1) [.int .u64 0, .int .u64 0, .int .u64 0, .string ⟨#[]⟩, .string ⟨#[]⟩] := by
     rw [← hW4]
     exact ((((HR.out.set 0 (by simp) _).set 1 (by simp) _).set 2 (by simp) _).set 3 (by simp) _).set 4 (by simp) _
    have B4 : Below w.heap.size w w4 := by
     have hb := HB.out
     have := hb.size
     rw [← hW4]
     exact ((((hb.setCell (by simp) _).setCell (by simp) _).setCell (by simp) _).setCell (by simp) _).setCell (by simp) _
    clear hW4
    have r0 := Z4.cell 0 _ rfl; have r1 := Z4.cell 1 _ rfl; have r2 := Z4.cell 2 _ rfl; have r3 := Z4.cell 3 _ rfl; have r4 := Z4.cell 4 _ rfl
    exact bodyPost_ret (v := .tuple #[.agg #[.int .u64 0, .int .u64 0, .int .u64 0, .string ⟨#[]⟩, .string ⟨#[]⟩], .bool false]) (by simp [results, Tryd.results110, go_sem, r0, r1, r2, r3, r4]) rfl ⟨by rw [HN.out]; rfl, B4⟩
   ·
    obtain rfl := HI.out.2.2 (by decide)
    clear HI
    have q0 := HA.out.cell 0 _ rfl; have q1 := HA.out.cell 1 _ rfl; have q2 := HA.out.cell 2 _ rfl
    have fz := HA.out.free; have hz := HA.out.lt
    go_wp2_with fail
    generalize hW2 : World.setCell _ _ _ = w2
    generalize hx : IntKind.u64.wrap ((a1 : Int) + 1) = x at *
    have HX := Lib.hid hx
    have A2 : Box w2 (w.heap.size + 1 + 1) [.int .u64 x, .int .u64 (b1 : Int), .int .u64 (c1 : Int)] := by
     rw [← hW2]
     exact HA.out.set 0 (by simp) _
    have R2 : Box w2 (w.heap.size + 1) [.int .u64 0, .int .u64 0, .int .u64 0, .string ⟨#[]⟩, .string ⟨#[]⟩] := by
     rw [← hW2]
     exact HR.out.far _ (by simp) _
    have B2 : Below w.heap.size w w2 := by
     rw [← hW2]
     exact HB.out.setCell (by simp; omega) _
    clear hW2 hx q0 q1 q2 fz hz HA HR HB
    have HA2 := Aside0.mk A2; have HR2 := Aside0.mk R2; have HB2 := Aside0.mk B2
    clear A2 R2 B2
    go_loopw [8] (fun v w' => ∃ j : Int, v = .int .i64 j ∧ (j = 1 ∨ j = 2 ∨ j = 3) ∧ (∃ y z : Int, Aside0 ((2 ≤ j → y = 0) ∧ (3 ≤ j → z = 0)) ∧ Aside0 (Box w' (w.heap.size + 1 + 1) [.int .u64 x, .int .u64 y, .int .u64 z])) ∧ Aside0 (Box w' (w.heap.size + 1) [.int .u64 0, .int .u64 0, .int .u64 0, .string ⟨#[]⟩, .string ⟨#[]⟩]) ∧ Aside0 (Below w.heap.size w w')) (fun v _ => (3 - Go.RowKit.intOf v).toNat)
    case atStart => exact ⟨_, rfl, by decide, ⟨_, _, ⟨⟨fun h => absurd h (by decide), fun h => absurd h (by decide)⟩⟩, HA2⟩, HR2, HB2⟩
    case round =>
     clear HA2 HR2 HB2
     obtain ⟨j, rfl, hj, ⟨y, z, HJ, HA⟩, HR, HB⟩ := hrel
     rcases hj with rfl | rfl | rfl
     ·
      have q0 := HA.out.cell 0 _ rfl; have q1 := HA.out.cell 1 _ rfl; have q2 := HA.out.cell 2 _ rfl
      have fz := HA.out.free; have hz := HA.out.lt
      go_wp2_with fail
      go_roundw
      case rel => exact ⟨2, rfl, by decide, ⟨_, _, ⟨⟨fun _ => rfl, fun h => absurd h (by decide)⟩⟩, ⟨HA.out.set 1 (by simp) _⟩⟩, ⟨HR.out.far _ (by simp) _⟩, ⟨HB.out.setCell (by simp; omega) _⟩⟩
      case measure => simp [Go.RowKit.intOf]
     ·
      have q0 := HA.out.cell 0 _ rfl; have q1 := HA.out.cell 1 _ rfl; have q2 := HA.out.cell 2 _ rfl
      have fz := HA.out.free; have hz := HA.out.lt
      go_wp2_with fail
      go_roundw
      case rel => exact ⟨3, rfl, by decide, ⟨_, _, ⟨⟨fun _ => HJ.out.1 (by decide), fun _ => rfl⟩⟩, ⟨HA.out.set 2 (by simp) _⟩⟩, ⟨HR.out.far _ (by simp) _⟩, ⟨HB.out.setCell (by simp; omega) _⟩⟩
      case measure => simp [Go.RowKit.intOf]
     ·
      obtain ⟨hy, hz0⟩ := HJ.out
      obtain rfl := hy (by decide)
      obtain rfl := hz0 (by decide)
      clear hy hz0 HJ
      by_cases hup : a1 + 1 < 18446744073709551616
      ·
       have hx : x = ((a1 + 1 : Nat) : Int) := by rw [← HX.out]; exact u64up hup
       subst hx
       have HN := Lib.hid (show V = some (a1 + 1, 0, 0) from by rw [← HV.out]; unfold blkF; rw [if_neg (by omega), if_neg (by omega), if_pos ⟨by omega, hup⟩])
       have e1 : (((a1 + 1 : Nat) : Int) == 0) = false := beq_eq_false_iff_ne.2 (by omega)
       have e2 : (((a1 + 1 : Nat) : Int) != 0) = true := by rw [bne, e1]; rfl
       clear hup HX HV
       have q0 := HA.out.cell 0 _ rfl; have q1 := HA.out.cell 1 _ rfl; have q2 := HA.out.cell 2 _ rfl
       have g0 := HR.out.cell 0 _ rfl; have g1 := HR.out.cell 1 _ rfl; have g2 := HR.out.cell 2 _ rfl; have g3 := HR.out.cell 3 _ rfl; have g4 := HR.out.cell 4 _ rfl
       have fz := HR.out.free; have hz := HR.out.lt
       go_wp2_with fail
       generalize hW4 : World.setCell _ _ _ = w4
       have Z4 : Box w4 (w.heap.size + 1) [.int .u64 ((a1 + 1 : Nat) : Int), .int .u64 0, .int .u64 0, .string ⟨#[]⟩, .string ⟨#[]⟩] := by
        rw [← hW4]
        exact ((((HR.out.set 0 (by simp) _).set 1 (by simp) _).set 2 (by simp) _).set 3 (by simp) _).set 4 (by simp) _
       have B4 : Below w.heap.size w w4 := by
        have hb := HB.out
        have := hb.size
        rw [← hW4]
        exact ((((hb.setCell (by simp) _).setCell (by simp) _).setCell (by simp) _).setCell (by simp) _).setCell (by simp) _
       clear hW4
       have r0 := Z4.cell 0 _ rfl; have r1 := Z4.cell 1 _ rfl; have r2 := Z4.cell 2 _ rfl; have r3 := Z4.cell 3 _ rfl; have r4 := Z4.cell 4 _ rfl
       exact bodyPost_ret (v := .tuple #[.agg #[.int .u64 ((a1 + 1 : Nat) : Int), .int .u64 0, .int .u64 0, .string ⟨#[]⟩, .string ⟨#[]⟩], .bool true]) (by simp [results, Tryd.results110, go_sem, r0, r1, r2, r3, r4]) rfl ⟨by rw [HN.out]; rfl, B4⟩
      ·
       have hx : x = 0 := by rw [← HX.out]; exact u64over HL.out.1 hup
       subst hx
       have HV1 := Aside0.mk (show blkF (-1 + 1) a1 b c = V from by rw [← HV.out]; unfold blkF; simp [hup])
       clear hup HX HV
       have q0 := HA.out.cell 0 _ rfl; have q1 := HA.out.cell 1 _ rfl; have q2 := HA.out.cell 2 _ rfl
       go_wp2_with fail
       go_roundw
       case rel => exact ⟨-1, rfl, by decide, HV1, ⟨0, 0, 0, ⟨fun h => absurd h (by decide), fun h => absurd h (by decide), fun h => absurd h (by decide)⟩, HA⟩, HR, HB⟩
       case measure => simp [Go.RowKit.intOf]
   ·
    obtain rfl := HI.out.2.2 (by decide)
    obtain rfl := HI.out.1 rfl
    clear HI
    have q0 := HA.out.cell 0 _ rfl; have q1 := HA.out.cell 1 _ rfl; have q2 := HA.out.cell 2 _ rfl
    have fz := HA.out.free; have hz := HA.out.lt
    go_wp2_with fail
    generalize hW2 : World.setCell _ _ _ = w2
    generalize hx : IntKind.u64.wrap ((b1 : Int) + 1) = x at *
    have HX := Lib.hid hx
    have A2 : Box w2 (w.heap.size + 1 + 1) [.int .u64 (a1 : Int), .int .u64 x, .int .u64 (c1 : Int)] := by
     rw [← hW2]
     exact HA.out.set 1 (by simp) _
    have R2 : Box w2 (w.heap.size + 1) [.int .u64 0, .int .u64 0, .int .u64 0, .string ⟨#[]⟩, .string ⟨#[]⟩] := by
     rw [← hW2]
     exact HR.out.far _ (by simp) _
    have B2 : Below w.heap.size w w2 := by
     rw [← hW2]
     exact HB.out.setCell (by simp; omega) _
    clear hW2 hx q0 q1 q2 fz hz HA HR HB
    have HA2 := Aside0.mk A2; have HR2 := Aside0.mk R2; have HB2 := Aside0.mk B2
    clear A2 R2 B2
    go_loopw [8] (fun v w' => ∃ j : Int, v = .int .i64 j ∧ (j = 2 ∨ j = 3) ∧ (∃ z : Int, Aside0 ((3 ≤ j → z = 0)) ∧ Aside0 (Box w' (w.heap.size + 1 + 1) [.int .u64 (a1 : Int), .int .u64 x, .int .u64 z])) ∧ Aside0 (Box w' (w.heap.size + 1) [.int .u64 0, .int .u64 0, .int .u64 0, .string ⟨#[]⟩, .string ⟨#[]⟩]) ∧ Aside0 (Below w.heap.size w w')) (fun v _ => (3 - Go.RowKit.intOf v).toNat)
    case atStart => exact ⟨_, rfl, by decide, ⟨_, ⟨fun h => absurd h (by decide)⟩, HA2⟩, HR2, HB2⟩
    case round =>
     clear HA2 HR2 HB2
     obtain ⟨j, rfl, hj, ⟨z, HJ, HA⟩, HR, HB⟩ := hrel
     rcases hj with rfl | rfl
     ·
      have q0 := HA.out.cell 0 _ rfl; have q1 := HA.out.cell 1 _ rfl; have q2 := HA.out.cell 2 _ rfl
      have fz := HA.out.free; have hz := HA.out.lt
      go_wp2_with fail
      go_roundw
      case rel => exact ⟨3, rfl, by decide, ⟨_, ⟨fun _ => rfl⟩, ⟨HA.out.set 2 (by simp) _⟩⟩, ⟨HR.out.far _ (by simp) _⟩, ⟨HB.out.setCell (by simp; omega) _⟩⟩
      case measure => simp [Go.RowKit.intOf]
     ·
      have hz0 := HJ.out
      obtain rfl := hz0 (by decide)
      clear hz0 HJ
      by_cases hup : b1 + 1 < 18446744073709551616
      ·
       have hx : x = ((b1 + 1 : Nat) : Int) := by rw [← HX.out]; exact u64up hup
       subst hx
       have HN := Lib.hid (show V = some (a1, b1 + 1, 0) from by rw [← HV.out]; unfold blkF; rw [if_neg (by omega), if_pos ⟨by omega, hup⟩])
       have e1 : (((b1 + 1 : Nat) : Int) == 0) = false := beq_eq_false_iff_ne.2 (by omega)
       have e2 : (((b1 + 1 : Nat) : Int) != 0) = true := by rw [bne, e1]; rfl
       clear hup HX HV
       have q0 := HA.out.cell 0 _ rfl; have q1 := HA.out.cell 1 _ rfl; have q2 := HA.out.cell 2 _ rfl
       have g0 := HR.out.cell 0 _ rfl; have g1 := HR.out.cell 1 _ rfl; have g2 := HR.out.cell 2 _ rfl; have g3 := HR.out.cell 3 _ rfl; have g4 := HR.out.cell 4 _ rfl
       have fz := HR.out.free; have hz := HR.out.lt
       go_wp2_with fail
       generalize hW4 : World.setCell _ _ _ = w4
       have Z4 : Box w4 (w.heap.size + 1) [.int .u64 (a1 : Int), .int .u64 ((b1 + 1 : Nat) : Int), .int .u64 0, .string ⟨#[]⟩, .string ⟨#[]⟩] := by
        rw [← hW4]
        exact ((((HR.out.set 0 (by simp) _).set 1 (by simp) _).set 2 (by simp) _).set 3 (by simp) _).set 4 (by simp) _
       have B4 : Below w.heap.size w w4 := by
        have hb := HB.out
        have := hb.size
        rw [← hW4]
        exact ((((hb.setCell (by simp) _).setCell (by simp) _).setCell (by simp) _).setCell (by simp) _).setCell (by simp) _
       clear hW4
       have r0 := Z4.cell 0 _ rfl; have r1 := Z4.cell 1 _ rfl; have r2 := Z4.cell 2 _ rfl; have r3 := Z4.cell 3 _ rfl; have r4 := Z4.cell 4 _ rfl
       exact bodyPost_ret (v := .tuple #[.agg #[.int .u64 (a1 : Int), .int .u64 ((b1 + 1 : Nat) : Int), .int .u64 0, .string ⟨#[]⟩, .string ⟨#[]⟩], .bool true]) (by simp [results, Tryd.results110, go_sem, r0, r1, r2, r3, r4]) rfl ⟨by rw [HN.out]; rfl, B4⟩
      ·
       have hx : x = 0 := by rw [← HX.out]; exact u64over HL.out.2.1 hup
       subst hx
       have HV1 := Aside0.mk (show blkF (0 + 1) a1 b1 c = V from by rw [← HV.out]; unfold blkF; simp [hup])
       clear hup HX HV
       have q0 := HA.out.cell 0 _ rfl; have q1 := HA.out.cell 1 _ rfl; have q2 := HA.out.cell 2 _ rfl
       go_wp2_with fail
       go_roundw
       case rel => exact ⟨0, rfl, by decide, HV1, ⟨a1, 0, 0, ⟨fun h => absurd h (by decide), fun h => absurd h (by decide), fun _ => rfl⟩, HA⟩, HR, HB⟩
       case measure => simp [Go.RowKit.intOf]
   ·
    obtain rfl := HI.out.2.2 (by decide)
    obtain ⟨rfl, rfl⟩ := HI.out.2.1 rfl
    clear HI
    have q0 := HA.out.cell 0 _ rfl; have q1 := HA.out.cell 1 _ rfl; have q2 := HA.out.cell 2 _ rfl
    have fz := HA.out.free; have hz := HA.out.lt
    go_wp2_with fail
    generalize hW2 : World.setCell _ _ _ = w2
    generalize hx : IntKind.u64.wrap ((c1 : Int) + 1) = x at *
    have HX := Lib.hid hx
    have A2 : Box w2 (w.heap.size + 1 + 1) [.int .u64 (a1 : Int), .int .u64 (b1 : Int), .int .u64 x] := by
     rw [← hW2]
     exact HA.out.set 2 (by simp) _
    have R2 : Box w2 (w.heap.size + 1) [.int .u64 0, .int .u64 0, .int .u64 0, .string ⟨#[]⟩, .string ⟨#[]⟩] := by
     rw [← hW2]
     exact HR.out.far _ (by simp) _
    have B2 : Below w.heap.size w w2 := by
     rw [← hW2]
     exact HB.out.setCell (by simp; omega) _
    clear hW2 hx q0 q1 q2 fz hz HA HR HB
    have HA2 := Aside0.mk A2; have HR2 := Aside0.mk R2; have HB2 := Aside0.mk B2
    clear A2 R2 B2
    go_loopw [8] (fun v w' => ∃ j : Int, v = .int .i64 j ∧ (j = 3) ∧ Aside0 (Box w' (w.heap.size + 1 + 1) [.int .u64 (a1 : Int), .int .u64 (b1 : Int), .int .u64 x]) ∧ Aside0 (Box w' (w.heap.size + 1) [.int .u64 0, .int .u64 0, .int .u64 0, .string ⟨#[]⟩, .string ⟨#[]⟩]) ∧ Aside0 (Below w.heap.size w w')) (fun v _ => (3 - Go.RowKit.intOf v).toNat)
    case atStart => exact ⟨_, rfl, by decide, HA2, HR2, HB2⟩
    case round =>
     clear HA2 HR2 HB2
     obtain ⟨j, rfl, hj, HA, HR, HB⟩ := hrel
     subst hj
     by_cases hup : c1 + 1 < 18446744073709551616
     ·
      have hx : x = ((c1 + 1 : Nat) : Int) := by rw [← HX.out]; exact u64up hup
      subst hx
      have HN := Lib.hid (show V = some (a1, b1, c1 + 1) from by rw [← HV.out]; unfold blkF; rw [if_pos ⟨by omega, hup⟩])
      have e1 : (((c1 + 1 : Nat) : Int) == 0) = false := beq_eq_false_iff_ne.2 (by omega)
      have e2 : (((c1 + 1 : Nat) : Int) != 0) = true := by rw [bne, e1]; rfl
      clear hup HX HV
      have q0 := HA.out.cell 0 _ rfl; have q1 := HA.out.cell 1 _ rfl; have q2 := HA.out.cell 2 _ rfl
      have g0 := HR.out.cell 0 _ rfl; have g1 := HR.out.cell 1 _ rfl; have g2 := HR.out.cell 2 _ rfl; have g3 := HR.out.cell 3 _ rfl; have g4 := HR.out.cell 4 _ rfl
      have fz := HR.out.free; have hz := HR.out.lt
      go_wp2_with fail
      generalize hW4 : World.setCell _ _ _ = w4
      have Z4 : Box w4 (w.heap.size + 1) [.int .u64 (a1 : Int), .int .u64 (b1 : Int), .int .u64 ((c1 + 1 : Nat) : Int), .string ⟨#[]⟩, .string ⟨#[]⟩] := by
       rw [← hW4]
       exact ((((HR.out.set 0 (by simp) _).set 1 (by simp) _).set 2 (by simp) _).set 3 (by simp) _).set 4 (by simp) _
      have B4 : Below w.heap.size w w4 := by
       have hb := HB.out
       have := hb.size
       rw [← hW4]
       exact ((((hb.setCell (by simp) _).setCell (by simp) _).setCell (by simp) _).setCell (by simp) _).setCell (by simp) _
      clear hW4
      have r0 := Z4.cell 0 _ rfl; have r1 := Z4.cell 1 _ rfl; have r2 := Z4.cell 2 _ rfl; have r3 := Z4.cell 3 _ rfl; have r4 := Z4.cell 4 _ rfl
      exact bodyPost_ret (v := .tuple #[.agg #[.int .u64 (a1 : Int), .int .u64 (b1 : Int), .int .u64 ((c1 + 1 : Nat) : Int), .string ⟨#[]⟩, .string ⟨#[]⟩], .bool true]) (by simp [results, Tryd.results110, go_sem, r0, r1, r2, r3, r4]) rfl ⟨by rw [HN.out]; rfl, B4⟩
     ·
      have hx : x = 0 := by rw [← HX.out]; exact u64over HL.out.2.2 hup
      subst hx
      have HV1 := Aside0.mk (show blkF (1 + 1) a1 b1 c1 = V from by rw [← HV.out]; unfold blkF; simp [hup])
      clear hup HX HV
      have q0 := HA.out.cell 0 _ rfl; have q1 := HA.out.cell 1 _ rfl; have q2 := HA.out.cell 2 _ rfl
      go_wp2_with fail
      go_roundw
      case rel => exact ⟨1, rfl, by decide, HV1, ⟨a1, b1, 0, ⟨fun _ => rfl, fun h => absurd h (by decide), fun _ => rfl⟩, HA⟩, HR, HB⟩
      case measure => simp [Go.RowKit.intOf]

end Go.Proofs.YtllkoadcpobdaaaDoor.KX
