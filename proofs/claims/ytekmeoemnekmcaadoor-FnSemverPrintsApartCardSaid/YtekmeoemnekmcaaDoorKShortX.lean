/- What the printed svShort tells of one text. -/
import Derived.Test.YtekmeoemnekmcaaDoorPXx2
import Derived.Test.YtekmeoemnekmcaaDoorBt
namespace Go.Proofs.YtekmeoemnekmcaaDoor.KX
open Go Go.Proofs Go.RowKit Go.Proofs.YtekmeoemnekmcaaDoor.L Go.Proofs.YtekmeoemnekmcaaDoor.Bt Go.Proofs.YtekmeoemnekmcaaDoor.PX
open Go.Proofs.YtekmeoemnekmcaaDoorW.PrintWords Go.Proofs.YtekmeoemnekmcaaDoorW.PrintLast Go.Proofs.YtekmeoemnekmcaaDoorW.PrintMore

theorem short_f (s : ByteArray) (k : Nat) : laws_svShort.f (k + 2) [s] = some (decide (s.size ≤ 65536)) := by
  have e0 : rdOf ByteArray.empty [s] 0 = s := rfl
  by_cases h : s.size ≤ 65536
  · simp [laws_svShort.f, laws_svShort.l0, e0, h]
    have e1 : ¬ ((s.size : Int) > 65536) := by omega
    have e2 : wrap64 1 = 1 := by unfold wrap64; omega
    simp [e2]; omega
  · have e1 : (65536 : Int) < (s.size : Int) := by omega
    simp [laws_svShort.f, laws_svShort.l0, e0, h, e1]
theorem short_one (s : ByteArray) (b o c : Nat) (w : World) (hc : w.cell? ⟨b, o, none⟩ = some (.string s)) (h1 : 1 ≤ c) :
    Calls Tryd.prog 10 #[.slice (some ⟨b, o, none⟩) 1 c] w fun e w' => e = .returned (.bool (decide (s.size ≤ 65536))) ∧ Drawn0 w w' := by
  refine laws_svShort.calls 3 (some ⟨b, o, none⟩) c [s] _ w (Kd.C_of_reads (d := ByteArray.empty) (h1 := fun _ => rfl) ⟨rfl, by simp, fun _ => ⟨_, rfl, fun j hj => ?_⟩⟩) h1 (short_f s 1)
  obtain rfl : j = 0 := by simpa using hj
  exact hc
end Go.Proofs.YtekmeoemnekmcaaDoor.KX
