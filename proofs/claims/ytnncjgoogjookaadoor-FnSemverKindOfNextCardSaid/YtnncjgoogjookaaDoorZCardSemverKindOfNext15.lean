/- The row and the tied card of FnSemverKindOfNext, out of its printed walk and its plain law. For every input that the statement lets in. -/
import Derived.Test.YtnncjgoogjookaaDoorZCardSemverKindOfNext1
import Derived.Test.YtnncjgoogjookaaDoorZCardSemverKindOfNext11
import Derived.Test.YtnncjgoogjookaaDoorZCardSemverKindOfNext13
import Derived.Test.YtnncjgoogjookaaDoorZCardSemverKindOfNext14
import Derived.Shelf.Strings.FuncGrows
namespace Go.Proofs.YtnncjgoogjookaaDoor.Ascii
end Go.Proofs.YtnncjgoogjookaaDoor.Ascii
namespace Go.Proofs.YtnncjgoogjookaaDoor.RuneSem
end Go.Proofs.YtnncjgoogjookaaDoor.RuneSem
namespace Go.Proofs.YtnncjgoogjookaaDoor.Only

open Go.RowKit Go.Lib Go.Proofs Go.Proofs.YtnncjgoogjookaaDoor.RuneSem Go.Proofs.YtnncjgoogjookaaDoor.Ascii

set_option maxHeartbeats 1000000 in
theorem closure (comp : ByteArray) (B : Nat) (w : World) (hB : B < w.heap.size) (hc : w.cell? ⟨B, 0, none⟩ = some (.string comp)) :
    PredGrows Tryd.prog 28 #[.pointer (some ⟨B, 0, none⟩)] (fun x => !has comp x) w := fun W x hx hb => by
  have hc' : W.cell? ⟨B, 0, none⟩ = some (.string comp) := (hb.cell (p := ⟨B, 0, none⟩) hB).trans hc
  have C := Lib.hid (containsRune_any comp x hx)
  show Calls _ _ _ _ fun e w' => e = .returned (.bool (!has comp x)) ∧ _
  generalize has comp x = r at *
  clear hc hb hB
  go_enter Tryd.func28, Tryd.ntmps28
  go_wp2_with (go_at_call 29; refine (C.out _).mono ?_; rintro e w' ⟨rfl, hb2⟩)
  go_ret
  exact ⟨rfl, hb2⟩

set_option maxHeartbeats 1000000 in
theorem containsOnly (s comp : ByteArray) (w : World) :
    Calls Tryd.prog 20 #[.string s, .string comp] w fun e w' => e = .returned (.bool (only s comp)) ∧ Below w.heap.size w w' := by
  have hC := fun (W : World) (hB : w.heap.size < W.heap.size) (hc : W.cell? ⟨w.heap.size, 0, none⟩ = some (.string comp)) =>
    Any.strings_IndexFunc_grows Tryd.laysGw15 28 #[.pointer (some ⟨w.heap.size, 0, none⟩)] (enters_of Tryd.func28 (by kernel_rfl) rfl) _ s W (closure comp w.heap.size W hB hc)
  change ∀ W _ _, Calls Tryd.prog 27 _ _ _ at hC
  have he : only s comp = (Lib.idxFunc (fun x => !has comp x) true s == -1) := by
    unfold only; rw [Bool.eq_iff_iff, decide_eq_true_eq, beq_iff_eq]
  have HE := Lib.hid he
  have HC := Lib.hid hC
  clear he hC
  generalize Lib.idxFunc (fun x => !has comp x) true s = k at *
  generalize only s comp = r at *
  go_enter Tryd.func20, Tryd.ntmps20
  go_wp2_with (go_at_call 27; refine (HC.out _ (by simp) (by simp)).mono ?_; rintro e w' ⟨rfl, hb⟩)
  go_ret
  exact ⟨by rw [HE.out] <;> rfl, ((Below.refl _ w).alloc (Nat.le_refl _) _).trans (hb.mono (by simp))⟩

end Go.Proofs.YtnncjgoogjookaaDoor.Only
