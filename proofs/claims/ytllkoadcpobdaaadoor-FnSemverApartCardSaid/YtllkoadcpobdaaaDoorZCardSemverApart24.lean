/- The row and the tied card of FnSemverApart, out of its printed walk and its plain law. For every input that the statement lets in. -/
import Derived.Test.YtllkoadcpobdaaaDoorZCardSemverApart6
import Derived.Test.YtllkoadcpobdaaaDoorZCardSemverApart14
import Derived.Test.YtllkoadcpobdaaaDoorZCardSemverApart15
import Derived.Test.YtllkoadcpobdaaaDoorZCardSemverApart20
import Derived.Test.YtllkoadcpobdaaaDoorZCardSemverApart21
import Derived.Test.YtllkoadcpobdaaaDoorZCardSemverApart23
namespace Go.Proofs.YtllkoadcpobdaaaDoor.Base
end Go.Proofs.YtllkoadcpobdaaaDoor.Base
namespace Go.Proofs.YtllkoadcpobdaaaDoor.Bt
end Go.Proofs.YtllkoadcpobdaaaDoor.Bt
namespace Go.Proofs.YtllkoadcpobdaaaDoor.KX
end Go.Proofs.YtllkoadcpobdaaaDoor.KX
namespace Go.Proofs.YtllkoadcpobdaaaDoor.L
end Go.Proofs.YtllkoadcpobdaaaDoor.L
namespace Go.Proofs.YtllkoadcpobdaaaDoor.PX
end Go.Proofs.YtllkoadcpobdaaaDoor.PX
namespace Go.Proofs.YtllkoadcpobdaaaDoor.Parse
end Go.Proofs.YtllkoadcpobdaaaDoor.Parse
namespace Go.Proofs.YtllkoadcpobdaaaDoor.KX

open Go.RowKit Go.Lib Go.Sort Go.Proofs Go.Proofs.YtllkoadcpobdaaaDoor Go.Proofs.YtllkoadcpobdaaaDoor.Base Go.Proofs.YtllkoadcpobdaaaDoor.L Go.Proofs.YtllkoadcpobdaaaDoor.Bt Go.Proofs.YtllkoadcpobdaaaDoor.Parse Go.Proofs.YtllkoadcpobdaaaDoor.PX

open Go.Proofs.YtllkoadcpobdaaaDoorW.PrintWords Go.Proofs.YtllkoadcpobdaaaDoorW.PrintLast Go.Proofs.YtllkoadcpobdaaaDoorW.PrintMore

/-- The cells of a constraint. -/
def ccells (g : Nat) (og os : ByteArray) (mD d pD : Bool) : List Value := [.pointer (some ⟨g, 0, none⟩), .string og, .string os, .bool mD, .bool d, .bool pD]

set_option maxHeartbeats 2000000 in
theorem inner (os : ByteArray) (g : Nat) (d mD pD : Bool) (w : World) :
    Calls Tryd.prog 81 #[.agg #[.string os, .pointer (some ⟨g, 0, none⟩), .bool d, .bool mD, .bool pD]] w (NewAt w (ccells g ⟨#[]⟩ os mD d pD)) := by
  go_enter Tryd.func81, Tryd.ntmps81
  go_wp2
  go_ret
  exact ⟨w.heap.size + 1, rfl, At.new _ _ _ _ (by simp), by omega, by go_grown⟩

/-- The cells of a version that is told as a whole. -/
def vc (v : Ver) : List Value := vcells v.ma v.mi v.pa v.pre v.mt v.og

theorem verAt {w : World} {b : Nat} {v : Ver} (h : At w b (vc v)) : VerAt w b v := ⟨h.cell 0 _ rfl, h.cell 1 _ rfl, h.cell 2 _ rfl, h.cell 3 _ rfl, h.cell 4 _ rfl, h.cell 5 _ rfl⟩

def lessB (v n : Ver) : Bool := decide (verC v n < 0)

theorem kLT (v n : Ver) (bv bn : Nat) (sp : v.pre.size ≤ 2147483647) (sq : n.pre.size ≤ 2147483647) : Hid (∀ (W : World), At W bv (vc v) → At W bn (vc n) → Std W →
    Calls Tryd.prog 61 #[.pointer (some ⟨bv, 0, none⟩), .pointer (some ⟨bn, 0, none⟩)] W fun e w' => e = .returned (.bool (lessB v n)) ∧ Below W.heap.size W w') :=
  Lib.hid fun W hv hn hs => cmpLessThan v n bv bn sp sq W (verAt hv) (verAt hn) hs

theorem kCM (v n : Ver) (bv bn : Nat) (sp : v.pre.size ≤ 2147483647) (sq : n.pre.size ≤ 2147483647) : Hid (∀ (W : World), At W bv (vc v) → At W bn (vc n) → Std W →
    Calls Tryd.prog 86 #[.pointer (some ⟨bv, 0, none⟩), .pointer (some ⟨bn, 0, none⟩)] W fun e w' => e = .returned (.int .i64 (verC v n)) ∧ Below W.heap.size W w') :=
  Lib.hid fun W hv hn hs => compare v n bv bn sp sq W (verAt hv) (verAt hn) hs

theorem infoV : (Tryd.prog.info? 106).map (fun i => (i.zero, i.size, i.bytes)) = some (some (.agg #[.int .u64 0, .int .u64 0, .int .u64 0, .string ⟨#[]⟩, .string ⟨#[]⟩, .string ⟨#[]⟩]), 6, 72) := by kernel_rfl

theorem kEQ (v n : Ver) (bv bn : Nat) (sp : v.pre.size ≤ 2147483647) (sq : n.pre.size ≤ 2147483647) (hne : bv ≠ bn) : Hid (∀ (W : World), At W bv (vc v) → At W bn (vc n) → Std W →
    Calls Tryd.prog 66 #[.pointer (some ⟨bv, 0, none⟩), .pointer (some ⟨bn, 0, none⟩)] W fun e w' => e = .returned (.bool (verC v n == 0)) ∧ Below W.heap.size W w') :=
  Lib.hid fun W hv hn hs => by
    obtain ⟨i0, hi, _, hz1, _⟩ := info_parts infoV
    exact vEqual_calls _ _ _ _ _ _ _ _ _ _ _ _ bv bn (verC v n) W hv hn hs (kCM v n bv bn sp sq) (hv.ne_run hn hne Tryd.underlying65 hi (by rw [hz1]; decide))

end Go.Proofs.YtllkoadcpobdaaaDoor.KX
namespace Go.Proofs.YtllkoadcpobdaaaDoor.KX

open Go.RowKit Go.Lib Go.Sort Go.Proofs Go.Proofs.YtllkoadcpobdaaaDoor Go.Proofs.YtllkoadcpobdaaaDoor.Base Go.Proofs.YtllkoadcpobdaaaDoor.L Go.Proofs.YtllkoadcpobdaaaDoor.Bt Go.Proofs.YtllkoadcpobdaaaDoor.Parse Go.Proofs.YtllkoadcpobdaaaDoor.PX

/-- What constraintNotEqual answers. -/
def notEqualB (v n : Ver) (mD d pD pre : Bool) : Bool := cNotEqual_r (v.pre.toList == []) d ((n.ma : Int) == (v.ma : Int)) ((n.mi : Int) == (v.mi : Int)) mD ((n.pa : Int) == (v.pa : Int)) pD (n.pre.toList == []) (preC (bl v.pre) (bl n.pre) == 0) (verC v n == 0) pre

theorem hNotEqual (v n : Ver) (og os : ByteArray) (bv bc bn : Nat) (mD d pD pre : Bool) (sp : v.pre.size ≤ 2147483647) (sq : n.pre.size ≤ 2147483647) (hne : bv ≠ bn) (w : World) (hV : At w bv (vc v)) (hC : At w bc (ccells bn og os mD d pD)) (hN : At w bn (vc n)) (hS : Std w) :
    Calls Tryd.prog 88 #[.pointer (some ⟨bv, 0, none⟩), .pointer (some ⟨bc, 0, none⟩), .bool pre] w (RetB w (notEqualB v n mD d pD pre)) :=
  cNotEqual_calls _ _ _ _ _ _ _ _ _ _ _ _ _ _ bv bc bn mD d pD pre (verC v n == 0) (preC (bl v.pre) (bl n.pre)) w hV hC hN hS (kEQ v n bv bn sp sq hne) (Lib.hid fun W hs => comparePre v.pre n.pre sp sq W hs)

end Go.Proofs.YtllkoadcpobdaaaDoor.KX
namespace Go.Proofs.YtllkoadcpobdaaaDoor.KX

open Go.RowKit Go.Lib Go.Sort Go.Proofs Go.Proofs.YtllkoadcpobdaaaDoor Go.Proofs.YtllkoadcpobdaaaDoor.Base Go.Proofs.YtllkoadcpobdaaaDoor.L Go.Proofs.YtllkoadcpobdaaaDoor.Bt Go.Proofs.YtllkoadcpobdaaaDoor.Parse Go.Proofs.YtllkoadcpobdaaaDoor.PX

/-- What constraintTilde answers. -/
def tildeB (v n : Ver) (mD d pD pre : Bool) : Bool := cTilde_r (v.pre.toList == []) (lessB v n) ((n.ma : Int) == 0) ((n.mi : Int) == 0) ((n.pa : Int) == 0) mD ((v.ma : Int) == (n.ma : Int)) ((v.mi : Int) == (n.mi : Int)) pD pre

theorem hTilde (v n : Ver) (og os : ByteArray) (bv bc bn : Nat) (mD d pD pre : Bool) (sp : v.pre.size ≤ 2147483647) (sq : n.pre.size ≤ 2147483647) (_ : bv ≠ bn) (w : World) (hV : At w bv (vc v)) (hC : At w bc (ccells bn og os mD d pD)) (hN : At w bn (vc n)) (hS : Std w) :
    Calls Tryd.prog 87 #[.pointer (some ⟨bv, 0, none⟩), .pointer (some ⟨bc, 0, none⟩), .bool pre] w (RetB w (tildeB v n mD d pD pre)) :=
  cTilde_calls _ _ _ _ _ _ _ _ _ _ _ _ _ _ bv bc bn mD d pD pre (lessB v n) w hV hC hN hS (kLT v n bv bn sp sq)

end Go.Proofs.YtllkoadcpobdaaaDoor.KX
namespace Go.Proofs.YtllkoadcpobdaaaDoor.KX

open Go.RowKit Go.Lib Go.Proofs Go.Proofs.YtllkoadcpobdaaaDoor.Base Go.Proofs.YtllkoadcpobdaaaDoor.L Go.Proofs.YtllkoadcpobdaaaDoor.Bt Go.Proofs.YtllkoadcpobdaaaDoor.PX

theorem beqI (a b : Nat) : ((a : Int) == (b : Int)) = decide (a = b) := by
  rw [Bool.eq_iff_iff, beq_iff_eq, decide_eq_true_eq]; omega

theorem beqI0 (a : Nat) : ((a : Int) == 0) = decide (a = 0) := beqI a 0

theorem tilde_law (v n : Ver) (gv : Int) (pre : Bool) (h1 : 1 ≤ gv) (h3 : gv ≤ 3) (hz : gv = 3 → ¬ (n.ma = 0 ∧ n.mi = 0 ∧ n.pa = 0)) (hs : (pre || (v.pre.toList == [])) = true) :
    tildeB v n (gv == 1) (decide (gv < 3)) (gv == 2) pre = (decide (0 ≤ verC v n) && (decide (v.ma = n.ma) && (decide (gv = 1) || decide (v.mi = n.mi)))) := by
  unfold tildeB lessB cTilde_r
  have e : decide (verC v n < 0) = !decide (0 ≤ verC v n) := by
    rw [Bool.eq_iff_iff, Bool.not_eq_true', decide_eq_true_eq, decide_eq_false_iff_not]; omega
  rw [beqI0, beqI0, beqI0, beqI, beqI, e]
  generalize decide (0 ≤ verC v n) = L
  generalize (v.pre.toList == []) = q at *
  obtain rfl | rfl | rfl : gv = 1 ∨ gv = 2 ∨ gv = 3 := by omega
  · generalize decide (v.ma = n.ma) = M; generalize decide (v.mi = n.mi) = I; generalize decide (n.ma = 0) = Z0; generalize decide (n.mi = 0) = Z1; generalize decide (n.pa = 0) = Z2
    revert hs L q pre M I Z0 Z1 Z2; decide
  · generalize decide (v.ma = n.ma) = M; generalize decide (v.mi = n.mi) = I; generalize decide (n.ma = 0) = Z0; generalize decide (n.mi = 0) = Z1; generalize decide (n.pa = 0) = Z2
    revert hs L q pre M I Z0 Z1 Z2; decide
  · have hz := hz rfl
    have hz' : (decide (n.ma = 0) && decide (n.mi = 0) && decide (n.pa = 0)) = false := by
      rw [Bool.eq_false_iff]
      intro h
      simp only [Bool.and_eq_true, decide_eq_true_eq] at h
      exact hz ⟨h.1.1, h.1.2, h.2⟩
    clear hz
    generalize decide (v.ma = n.ma) = M; generalize decide (v.mi = n.mi) = I; generalize decide (n.ma = 0) = Z0 at *; generalize decide (n.mi = 0) = Z1 at *; generalize decide (n.pa = 0) = Z2 at *
    revert hs hz' L q pre M I Z0 Z1 Z2; decide

end Go.Proofs.YtllkoadcpobdaaaDoor.KX
namespace Go.Proofs.YtllkoadcpobdaaaDoor.KX

open Go.RowKit Go.Lib Go.Sort Go.Proofs Go.Proofs.YtllkoadcpobdaaaDoor Go.Proofs.YtllkoadcpobdaaaDoor.Base Go.Proofs.YtllkoadcpobdaaaDoor.L Go.Proofs.YtllkoadcpobdaaaDoor.Bt Go.Proofs.YtllkoadcpobdaaaDoor.Parse Go.Proofs.YtllkoadcpobdaaaDoor.PX

/-- What constraintGreaterThan answers. -/
def aboveB (v n : Ver) (mD d pD pre : Bool) : Bool := cAbove_r (v.pre.toList == []) d (decide ((n.ma : Int) < (v.ma : Int))) (decide ((v.ma : Int) < (n.ma : Int))) mD pD (decide ((n.mi : Int) < (v.mi : Int))) (verC v n == 1) pre

theorem hAbove (v n : Ver) (og os : ByteArray) (bv bc bn : Nat) (mD d pD pre : Bool) (sp : v.pre.size ≤ 2147483647) (sq : n.pre.size ≤ 2147483647) (_ : bv ≠ bn) (w : World) (hV : At w bv (vc v)) (hC : At w bc (ccells bn og os mD d pD)) (hN : At w bn (vc n)) (hS : Std w) :
    Calls Tryd.prog 101 #[.pointer (some ⟨bv, 0, none⟩), .pointer (some ⟨bc, 0, none⟩), .bool pre] w (RetB w (aboveB v n mD d pD pre)) :=
  cAbove_calls _ _ _ _ _ _ _ _ _ _ _ _ _ _ bv bc bn mD d pD pre (verC v n) w hV hC hN hS (kCM v n bv bn sp sq)

/-- What constraintLessThan answers. -/
def belowB (v n : Ver) (_ _ _ pre : Bool) : Bool := cBelow_r (v.pre.toList == []) (decide (verC v n < 0)) pre

theorem hBelow (v n : Ver) (og os : ByteArray) (bv bc bn : Nat) (mD d pD pre : Bool) (sp : v.pre.size ≤ 2147483647) (sq : n.pre.size ≤ 2147483647) (_ : bv ≠ bn) (w : World) (hV : At w bv (vc v)) (hC : At w bc (ccells bn og os mD d pD)) (hN : At w bn (vc n)) (hS : Std w) :
    Calls Tryd.prog 102 #[.pointer (some ⟨bv, 0, none⟩), .pointer (some ⟨bc, 0, none⟩), .bool pre] w (RetB w (belowB v n mD d pD pre)) :=
  cBelow_calls _ _ _ _ _ _ _ _ _ _ _ _ _ _ bv bc bn mD d pD pre (verC v n) w hV hC hN hS (kCM v n bv bn sp sq)

/-- What constraintGreaterThanEqual answers. -/
def leastB (v n : Ver) (_ _ _ pre : Bool) : Bool := cLeast_r (v.pre.toList == []) (decide (0 ≤ verC v n)) pre

theorem hLeast (v n : Ver) (og os : ByteArray) (bv bc bn : Nat) (mD d pD pre : Bool) (sp : v.pre.size ≤ 2147483647) (sq : n.pre.size ≤ 2147483647) (_ : bv ≠ bn) (w : World) (hV : At w bv (vc v)) (hC : At w bc (ccells bn og os mD d pD)) (hN : At w bn (vc n)) (hS : Std w) :
    Calls Tryd.prog 103 #[.pointer (some ⟨bv, 0, none⟩), .pointer (some ⟨bc, 0, none⟩), .bool pre] w (RetB w (leastB v n mD d pD pre)) :=
  cLeast_calls _ _ _ _ _ _ _ _ _ _ _ _ _ _ bv bc bn mD d pD pre (verC v n) w hV hC hN hS (kCM v n bv bn sp sq)

/-- What constraintLessThanEqual answers. -/
def mostB (v n : Ver) (mD d _ pre : Bool) : Bool := cMost_r (v.pre.toList == []) d (decide ((n.ma : Int) < (v.ma : Int))) ((v.ma : Int) == (n.ma : Int)) (decide ((n.mi : Int) < (v.mi : Int))) mD (decide (verC v n ≤ 0)) pre

theorem hMost (v n : Ver) (og os : ByteArray) (bv bc bn : Nat) (mD d pD pre : Bool) (sp : v.pre.size ≤ 2147483647) (sq : n.pre.size ≤ 2147483647) (_ : bv ≠ bn) (w : World) (hV : At w bv (vc v)) (hC : At w bc (ccells bn og os mD d pD)) (hN : At w bn (vc n)) (hS : Std w) :
    Calls Tryd.prog 104 #[.pointer (some ⟨bv, 0, none⟩), .pointer (some ⟨bc, 0, none⟩), .bool pre] w (RetB w (mostB v n mD d pD pre)) :=
  cMost_calls _ _ _ _ _ _ _ _ _ _ _ _ _ _ bv bc bn mD d pD pre (verC v n) w hV hC hN hS (kCM v n bv bn sp sq)

/-- What constraintCaret answers. -/
def caretB (v n : Ver) (mD _ pD pre : Bool) : Bool := cCaret_r (v.pre.toList == []) (lessB v n) (decide ((0 : Int) < (n.ma : Int))) ((v.ma : Int) == (n.ma : Int)) mD ((n.ma : Int) == 0) (decide ((0 : Int) < (v.ma : Int))) (decide ((0 : Int) < (n.mi : Int))) ((v.mi : Int) == (n.mi : Int)) pD ((n.mi : Int) == 0) (decide ((0 : Int) < (v.mi : Int))) ((n.pa : Int) == (v.pa : Int)) pre

theorem hCaret (v n : Ver) (og os : ByteArray) (bv bc bn : Nat) (mD d pD pre : Bool) (sp : v.pre.size ≤ 2147483647) (sq : n.pre.size ≤ 2147483647) (_ : bv ≠ bn) (w : World) (hV : At w bv (vc v)) (hC : At w bc (ccells bn og os mD d pD)) (hN : At w bn (vc n)) (hS : Std w) :
    Calls Tryd.prog 105 #[.pointer (some ⟨bv, 0, none⟩), .pointer (some ⟨bc, 0, none⟩), .bool pre] w (RetB w (caretB v n mD d pD pre)) :=
  cCaret_calls _ _ _ _ _ _ _ _ _ _ _ _ _ _ bv bc bn mD d pD pre (lessB v n) w hV hC hN hS (kLT v n bv bn sp sq)

end Go.Proofs.YtllkoadcpobdaaaDoor.KX
namespace Go.Proofs.YtllkoadcpobdaaaDoor.KX

open Go.RowKit Go.Lib Go.Sort Go.Proofs Go.Proofs.YtllkoadcpobdaaaDoor Go.Proofs.YtllkoadcpobdaaaDoor.Base Go.Proofs.YtllkoadcpobdaaaDoor.L Go.Proofs.YtllkoadcpobdaaaDoor.Bt Go.Proofs.YtllkoadcpobdaaaDoor.Parse Go.Proofs.YtllkoadcpobdaaaDoor.PX

/-- What constraintTildeOrEqual answers. -/
def equalB (v n : Ver) (mD d pD pre : Bool) : Bool := cEqual_r (v.pre.toList == []) d (tildeB v n mD d pD pre) (verC v n == 0) pre

theorem hEqual (v n : Ver) (og os : ByteArray) (bv bc bn : Nat) (mD d pD pre : Bool) (sp : v.pre.size ≤ 2147483647) (sq : n.pre.size ≤ 2147483647) (hne : bv ≠ bn) (w : World) (hV : At w bv (vc v)) (hC : At w bc (ccells bn og os mD d pD)) (hN : At w bn (vc n)) (hS : Std w) :
    Calls Tryd.prog 89 #[.pointer (some ⟨bv, 0, none⟩), .pointer (some ⟨bc, 0, none⟩), .bool pre] w (RetB w (equalB v n mD d pD pre)) :=
  cEqual_calls _ _ _ _ _ _ _ _ _ _ _ _ _ _ bv bc bn mD d pD pre (verC v n == 0) (tildeB v n mD d pD pre) w hV hC hN hS (kEQ v n bv bn sp sq hne) (Lib.hid fun W hv hc hn hs => hTilde v n og os bv bc bn mD d pD pre sp sq hne W hv hc hn hs)

end Go.Proofs.YtllkoadcpobdaaaDoor.KX
namespace Go.Proofs.YtllkoadcpobdaaaDoor.KX

open Go.RowKit Go.Lib Go.Sort Go.Proofs Go.Proofs.YtllkoadcpobdaaaDoor Go.Proofs.YtllkoadcpobdaaaDoor.Base Go.Proofs.YtllkoadcpobdaaaDoor.L Go.Proofs.YtllkoadcpobdaaaDoor.Bt Go.Proofs.YtllkoadcpobdaaaDoor.Parse Go.Proofs.YtllkoadcpobdaaaDoor.PX

/-- The operators as they are written. -/
def opsL : List ByteArray := [⟨#[61]⟩, ⟨#[33, 61]⟩, ⟨#[62]⟩, ⟨#[60]⟩, ⟨#[62, 61]⟩, ⟨#[60, 61]⟩, ⟨#[126]⟩, ⟨#[94]⟩]

/-- What a constraint answers. -/
def termB (os : ByteArray) (v n : Ver) (mD d pD pre : Bool) : Bool :=
  match bl os with
  | [61] => equalB v n mD d pD pre
  | [33, 61] => notEqualB v n mD d pD pre
  | [62] => aboveB v n mD d pD pre
  | [60] => belowB v n mD d pD pre
  | [62, 61] => leastB v n mD d pD pre
  | [60, 61] => mostB v n mD d pD pre
  | [126] => tildeB v n mD d pD pre
  | [94] => caretB v n mD d pD pre
  | _ => false

theorem hCheck (v n : Ver) (og os : ByteArray) (bv bc bn : Nat) (mD d pD pre : Bool) (sp : v.pre.size ≤ 2147483647) (sq : n.pre.size ≤ 2147483647) (hne : bv ≠ bn) (ho : os ∈ opsL) (w : World) (hV : At w bv (vc v)) (hC : At w bc (ccells bn og os mD d pD)) (hN : At w bn (vc n)) (hS : Std w) :
    Calls Tryd.prog 82 #[.pointer (some ⟨bc, 0, none⟩), .pointer (some ⟨bv, 0, none⟩), .bool pre] w (RetB w (termB os v n mD d pD pre)) := by
  unfold opsL at ho
  simp only [List.mem_cons, List.not_mem_nil, or_false] at ho
  rcases ho with rfl | rfl | rfl | rfl | rfl | rfl | rfl | rfl
  · exact check0_calls _ _ _ _ _ _ _ _ _ _ _ _ _ bv bc bn mD d pD pre (equalB v n mD d pD pre) w hV hC hN hS (Lib.hid fun W h1 h2 h3 h4 => hEqual v n _ _ bv bc bn mD d pD pre sp sq hne W h1 h2 h3 h4)
  · exact check1_calls _ _ _ _ _ _ _ _ _ _ _ _ _ bv bc bn mD d pD pre (notEqualB v n mD d pD pre) w hV hC hN hS (Lib.hid fun W h1 h2 h3 h4 => hNotEqual v n _ _ bv bc bn mD d pD pre sp sq hne W h1 h2 h3 h4)
  · exact check2_calls _ _ _ _ _ _ _ _ _ _ _ _ _ bv bc bn mD d pD pre (aboveB v n mD d pD pre) w hV hC hN hS (Lib.hid fun W h1 h2 h3 h4 => hAbove v n _ _ bv bc bn mD d pD pre sp sq hne W h1 h2 h3 h4)
  · exact check3_calls _ _ _ _ _ _ _ _ _ _ _ _ _ bv bc bn mD d pD pre (belowB v n mD d pD pre) w hV hC hN hS (Lib.hid fun W h1 h2 h3 h4 => hBelow v n _ _ bv bc bn mD d pD pre sp sq hne W h1 h2 h3 h4)
  · exact check4_calls _ _ _ _ _ _ _ _ _ _ _ _ _ bv bc bn mD d pD pre (leastB v n mD d pD pre) w hV hC hN hS (Lib.hid fun W h1 h2 h3 h4 => hLeast v n _ _ bv bc bn mD d pD pre sp sq hne W h1 h2 h3 h4)
  · exact check5_calls _ _ _ _ _ _ _ _ _ _ _ _ _ bv bc bn mD d pD pre (mostB v n mD d pD pre) w hV hC hN hS (Lib.hid fun W h1 h2 h3 h4 => hMost v n _ _ bv bc bn mD d pD pre sp sq hne W h1 h2 h3 h4)
  · exact check6_calls _ _ _ _ _ _ _ _ _ _ _ _ _ bv bc bn mD d pD pre (tildeB v n mD d pD pre) w hV hC hN hS (Lib.hid fun W h1 h2 h3 h4 => hTilde v n _ _ bv bc bn mD d pD pre sp sq hne W h1 h2 h3 h4)
  · exact check7_calls _ _ _ _ _ _ _ _ _ _ _ _ _ bv bc bn mD d pD pre (caretB v n mD d pD pre) w hV hC hN hS (Lib.hid fun W h1 h2 h3 h4 => hCaret v n _ _ bv bc bn mD d pD pre sp sq hne W h1 h2 h3 h4)

end Go.Proofs.YtllkoadcpobdaaaDoor.KX
namespace Go.Proofs.YtllkoadcpobdaaaDoor.PX

open Go Go.Proofs Go.RowKit Go.Lib Go.Proofs.YtllkoadcpobdaaaDoor Go.Proofs.YtllkoadcpobdaaaDoor.L Go.Proofs.YtllkoadcpobdaaaDoor.Bt Go.Proofs.YtllkoadcpobdaaaDoor.KX

/-- What the operator of this number says. -/
def termI (op : Int) (v n : Ver) (mD d pD pre : Bool) : Bool :=
  if op = 0 then equalB v n mD d pD pre else if op = 1 then notEqualB v n mD d pD pre else if op = 2 then aboveB v n mD d pD pre else if op = 3 then belowB v n mD d pD pre
  else if op = 4 then leastB v n mD d pD pre else if op = 5 then mostB v n mD d pD pre else if op = 6 then tildeB v n mD d pD pre else caretB v n mD d pD pre

end Go.Proofs.YtllkoadcpobdaaaDoor.PX
namespace Go.Proofs.YtllkoadcpobdaaaDoor.KX

open Go.RowKit Go.Lib Go.Sort Go.Proofs Go.Proofs.YtllkoadcpobdaaaDoor Go.Proofs.YtllkoadcpobdaaaDoor.Base Go.Proofs.YtllkoadcpobdaaaDoor.L Go.Proofs.YtllkoadcpobdaaaDoor.Bt Go.Proofs.YtllkoadcpobdaaaDoor.Parse Go.Proofs.YtllkoadcpobdaaaDoor.PX

open Go.Proofs.YtllkoadcpobdaaaDoorW.PrintWords Go.Proofs.YtllkoadcpobdaaaDoorW.PrintLast Go.Proofs.YtllkoadcpobdaaaDoorW.PrintMore

attribute [local go_sem] setCell_drewN alloc_drewN

/-- Block b is of type t and holds the values xs. -/
def AtT (w : World) (b t : Nat) (xs : List Value) : Prop := w.heap[b]? = some (.cells xs.toArray t (0, 0))

theorem AtT.at {w : World} {b t : Nat} {xs : List Value} (h : AtT w b t xs) : At w b xs := ⟨t, h⟩

theorem AtT.lt {w : World} {b t : Nat} {xs : List Value} (h : AtT w b t xs) : b < w.heap.size := (Array.getElem?_eq_some_iff.1 h).1

theorem AtT.below {w w' : World} {b t : Nat} {xs : List Value} (h : AtT w b t xs) (hb : Below w.heap.size w w') : AtT w' b t xs := (hb.block b h.lt).trans h

theorem AtT.new (w : World) (cs : Array Value) (t b : Nat) (hb : b = w.heap.size) : AtT (w.alloc (.cells cs t)) b t cs.toList := by
  subst hb
  exact heap_alloc_new w _

theorem AtT.far {w : World} {b t : Nat} {xs : List Value} (h : AtT w b t xs) (p : Addr) (hp : b ≠ p.block) (v : Value) : AtT (w.setCell p v) b t xs := (Below.heap_setCell w p v b hp).trans h

/-- A pointer to a block of type t whose cells are of a kind, and which nobody writes. -/
def refK {α : Type} (t : Nat) (d : Kd α) : Kd α where
  sz := 1
  E := t :: d.E
  K := fun w x cs => ∃ g inner, cs = [.pointer (some ⟨g, 0, none⟩)] ∧ AtT w g t inner ∧ d.K w x inner
  M := fun w base ok x cs => ∃ g inner, cs = [.pointer (some ⟨g, 0, none⟩)] ∧ base ≤ g ∧ ok g ∧ AtT w g t inner ∧ d.M w base ok x inner
  K_len := by
    rintro w x cs ⟨g, inner, rfl, _⟩
    rfl
  K_one := by
    rintro w x cs ⟨g, inner, rfl, _⟩ u hu
    rw [List.mem_singleton.1 hu]
    rfl
  K_below := by
    rintro w w1 x cs hb ⟨g, inner, rfl, h1, h2⟩
    exact ⟨g, inner, rfl, h1.below hb, d.K_below hb h2⟩
  K_of_M := by
    rintro w base ok x cs ⟨g, inner, rfl, _, _, h1, h2⟩
    exact ⟨g, inner, rfl, h1, d.K_of_M h2⟩
  M_mono := by
    rintro w base ok ok' x cs hok ⟨g, inner, rfl, h0, h1, h2, h3⟩
    exact ⟨g, inner, rfl, h0, hok g h1, h2, d.M_mono hok h3⟩
  M_bound := by
    rintro w base ok x cs ⟨g, inner, rfl, h0, h1, h2, h3⟩
    refine ⟨g, inner, rfl, h0, ⟨h1, h0, h2.lt, t, List.mem_cons_self, _, h2⟩, h2, d.M_mono ?_ (d.M_bound h3)⟩
    rintro k ⟨p1, p2, p3, q, hq, hc⟩
    exact ⟨p1, p2, p3, q, List.mem_cons_of_mem _ hq, hc⟩
  M_move := by
    rintro w w1 base ok x cs hm ⟨g, inner, rfl, h0, h1, h2, h3⟩
    exact ⟨g, inner, rfl, h0, h1, (hm g h1).trans h2, d.M_move hm h3⟩
  M_lower := by
    rintro w base base' ok x cs hb ⟨g, inner, rfl, h0, h1, h2, h3⟩
    exact ⟨g, inner, rfl, Nat.le_trans hb h0, h1, h2, d.M_lower hb h3⟩

/-- A version's cells. -/
def kVer : Kd Ver where
  sz := 6
  E := []
  K := fun _ v cs => cs = vc v
  M := fun _ _ _ v cs => cs = vc v
  K_len := fun h => by rw [h]; rfl
  K_one := fun h u hu => by
    rw [h] at hu
    simp only [vc, vcells, List.mem_cons, List.not_mem_nil, or_false] at hu
    rcases hu with rfl | rfl | rfl | rfl | rfl | rfl <;> rfl
  K_below := fun _ h => h
  K_of_M := fun h => h
  M_mono := fun _ h => h
  M_bound := fun h => h
  M_move := fun _ h => h
  M_lower := fun _ h => h

def kVerP : Kd Ver := refK 106 kVer

/-- A constraint: its operator, its version, what of it is dirty. -/
structure Con where
  os : ByteArray
  n : Ver
  mD : Bool
  d : Bool
  pD : Bool

/-- A ZZTerm's cells. -/
def kZT : Kd Con := Kd.iso (Kd.pair Kd.string (Kd.pair kVerP (Kd.pair Kd.bool (Kd.pair Kd.bool Kd.bool)))) (fun c => (c.os, c.n, c.d, c.mD, c.pD))

/-- A pointer to a version that lay in world W already. -/
def kVerOld (W : World) : Kd Ver where
  sz := 1
  E := []
  K := fun _ v cs => ∃ g, cs = [.pointer (some ⟨g, 0, none⟩)] ∧ AtT W g 106 (vc v)
  M := fun _ _ _ v cs => ∃ g, cs = [.pointer (some ⟨g, 0, none⟩)] ∧ AtT W g 106 (vc v)
  K_len := by
    rintro w x cs ⟨g, rfl, _⟩
    rfl
  K_one := by
    rintro w x cs ⟨g, rfl, _⟩ u hu
    rw [List.mem_singleton.1 hu]
    rfl
  K_below := fun _ h => h
  K_of_M := fun h => h
  M_mono := fun _ h => h
  M_bound := fun h => h
  M_move := fun _ h => h
  M_lower := fun _ h => h

/-- A constraint's cells, its own text empty; its version lay in world W already. -/
def kCon (W : World) : Kd Con := Kd.iso (Kd.pair (kVerOld W) (Kd.pair Kd.string (Kd.pair Kd.string (Kd.pair Kd.bool (Kd.pair Kd.bool Kd.bool))))) (fun c => (c.n, ⟨#[]⟩, c.os, c.mD, c.d, c.pD))

def kConP (W : World) : Kd Con := refK 119 (kCon W)

theorem kZT_mkM {w : World} {base : Nat} {ok : Nat → Prop} (c : Con) (g : Nat) (hg : base ≤ g) (ho : ok g) (h : AtT w g 106 (vc c.n)) : kZT.M w base ok c [.string c.os, .pointer (some ⟨g, 0, none⟩), .bool c.d, .bool c.mD, .bool c.pD] :=
  ⟨[_], _, rfl, rfl, [_], _, rfl, ⟨g, _, rfl, hg, ho, h, rfl⟩, [_], _, rfl, rfl, [_], _, rfl, rfl, rfl⟩

theorem kZT_open {w : World} {c : Con} {cs : List Value} (h : kZT.K w c cs) : ∃ g, cs = [.string c.os, .pointer (some ⟨g, 0, none⟩), .bool c.d, .bool c.mD, .bool c.pD] ∧ AtT w g 106 (vc c.n) := by
  obtain ⟨_, _, rfl, rfl, _, _, rfl, ⟨g, inner, rfl, h1, rfl⟩, _, _, rfl, rfl, _, _, rfl, rfl, rfl⟩ := h
  exact ⟨g, rfl, h1⟩

theorem kCon_mkM {W w : World} {base : Nat} {ok : Nat → Prop} (c : Con) (g : Nat) (h : AtT W g 106 (vc c.n)) : (kCon W).M w base ok c (ccells g ⟨#[]⟩ c.os c.mD c.d c.pD) :=
  ⟨[_], _, rfl, ⟨g, rfl, h⟩, [_], _, rfl, rfl, [_], _, rfl, rfl, [_], _, rfl, rfl, [_], _, rfl, rfl, rfl⟩

theorem kConP_mkM {W w : World} {base : Nat} {ok : Nat → Prop} (c : Con) (g gc : Nat) (hb : base ≤ gc) (ho : ok gc) (hc : AtT w gc 119 (ccells g ⟨#[]⟩ c.os c.mD c.d c.pD)) (h : AtT W g 106 (vc c.n)) : (kConP W).M w base ok c [.pointer (some ⟨gc, 0, none⟩)] :=
  ⟨gc, _, rfl, hb, ho, hc, kCon_mkM c g h⟩

theorem kConP_open {W w : World} {c : Con} {cs : List Value} (h : (kConP W).K w c cs) : ∃ g bn, cs = [.pointer (some ⟨g, 0, none⟩)] ∧ AtT w g 119 (ccells bn ⟨#[]⟩ c.os c.mD c.d c.pD) ∧ AtT W bn 106 (vc c.n) := by
  obtain ⟨g, inner, rfl, hA, _, _, rfl, ⟨bn, rfl, h1⟩, _, _, rfl, rfl, _, _, rfl, rfl, _, _, rfl, rfl, _, _, rfl, rfl, rfl⟩ := h
  exact ⟨g, bn, rfl, hA, h1⟩

def NewT (w : World) (t : Nat) (xs : List Value) (e : Ending) (w' : World) : Prop := ∃ g : Nat, e = .returned (.pointer (some ⟨g, 0, none⟩)) ∧ AtT w' g t xs ∧ w.heap.size ≤ g ∧ Below w.heap.size w w'

set_option maxHeartbeats 2000000 in
theorem zzVersionT (a b c : Int) (p m : ByteArray) (w : World) :
    Calls Tryd.prog 84 #[.int .u64 a, .int .u64 b, .int .u64 c, .string p, .string m] w (NewT w 106 (vcells a b c p m ⟨#[]⟩)) := by
  go_enter Tryd.func84, Tryd.ntmps84
  go_wp2
  go_ret
  exact ⟨w.heap.size, rfl, AtT.new _ _ _ _ (by simp), by omega, by go_grown⟩

set_option maxHeartbeats 2000000 in
theorem innerT (os : ByteArray) (g : Nat) (d mD pD : Bool) (w : World) :
    Calls Tryd.prog 81 #[.agg #[.string os, .pointer (some ⟨g, 0, none⟩), .bool d, .bool mD, .bool pD]] w (NewT w 119 (ccells g ⟨#[]⟩ os mD d pD)) := by
  go_enter Tryd.func81, Tryd.ntmps81
  go_wp2
  go_ret
  exact ⟨w.heap.size + 1, rfl, AtT.new _ _ _ _ (by simp), by omega, by go_grown⟩

/-- It returns a ZZTerm whose version lies in a new block. -/
def TermT (w : World) (os : ByteArray) (d mD pD : Bool) (xs : List Value) (e : Ending) (w' : World) : Prop :=
  ∃ g : Nat, e = .returned (.agg #[.string os, .pointer (some ⟨g, 0, none⟩), .bool d, .bool mD, .bool pD]) ∧ AtT w' g 106 xs ∧ w.heap.size ≤ g ∧ Below w.heap.size w w'

set_option maxHeartbeats 8000000 in
set_option maxRecDepth 100000 in
theorem implTermT (op gv a b c : Int) (p os : ByteArray) (hos : impl_operator.f op = some os) (hg : 0 ≤ gv) (w : World) :
    Calls Tryd.prog 54 #[.agg #[.int .i64 op, .int .i64 gv, .int .u64 a, .int .u64 b, .int .u64 c, .string p]] w
      (TermT w os (decide (gv < 3)) (gv == 1) (gv == 2) (vcells a b c p ⟨#[]⟩ ⟨#[]⟩)) := by
  have C1 := Lib.hid (fun W => impl_operator.calls op os W hos)
  have C2 := Lib.hid (fun W => zzVersionT a b c p ⟨#[]⟩ W)
  clear hos
  have h1 : decide (0 ≤ gv) = true := decide_eq_true hg
  clear hg
  go_enter Tryd.func54, Tryd.ntmps54
  go_wp2_with fail
  generalize hW0 : World.alloc (World.alloc w _) _ = w0
  have v0 : At w0 w.heap.size [.int .i64 op, .int .i64 gv, .int .u64 a, .int .u64 b, .int .u64 c, .string p] := by
    rw [← hW0]
    exact (At.new _ _ _ _ rfl).below ((Below.refl _ _).alloc (Nat.le_refl _) _)
  have z0 : Box w0 (w.heap.size + 1) [.string ⟨#[]⟩, .pointer none, .bool false, .bool false, .bool false] := by
    rw [← hW0]
    exact Box.new' _ _ _ _ (by simp)
  have b0 : Below w.heap.size w w0 := by
    rw [← hW0]
    go_grown
  have HV0 := Aside0.mk v0
  have HZ0 := Aside0.mk z0
  have HB0 := Aside0.mk b0
  clear v0 z0 b0 hW0
  go_region_held3 (fun W' => W'.cell? ⟨w.heap.size, 0, none⟩ = some (.int .i64 op) ∧ W'.cell? ⟨w.heap.size, 1, none⟩ = some (.int .i64 gv) ∧ W'.cell? ⟨w.heap.size, 2, none⟩ = some (.int .u64 a) ∧ W'.cell? ⟨w.heap.size, 3, none⟩ = some (.int .u64 b) ∧ W'.cell? ⟨w.heap.size, 4, none⟩ = some (.int .u64 c) ∧ W'.cell? ⟨w.heap.size, 5, none⟩ = some (.string p)) (first | (with_reducible exact HV0.out.drew.six) | (with_reducible exact HV2.out.six) | (with_reducible exact HV1.out.six) | (with_reducible exact HV0.out.six) | (with_reducible exact (((((HV2.out.far _ (by simp) _).far _ (by simp) _).far _ (by simp) _).far _ (by simp) _).far _ (by simp) _).six) | (trace_state; go_keep)) (first
    | (go_at_call 83; (with_reducible refine (C1.out _).mono ?_); rintro e w1 ⟨rfl, hd1⟩; have hb1 := undrew hd1.below; clear hd1; have HV1 := Aside0.mk (HV0.out.below hb1); have HZ1 := Aside0.mk (HZ0.out.below hb1); have HB1 := Aside0.mk (HB0.out.trans (hb1.mono HB0.out.size)); clear hb1)
    | (go_at_call 84; (with_reducible refine (C2.out _).mono ?_); rintro e w2 ⟨g2, rfl, hv2, hl2, hb2⟩; have HN := Aside0.mk hv2; have HV2 := Aside0.mk (HV1.out.below hb2); have HZ2 := Aside0.mk (HZ1.out.below hb2); have HB2 := Aside0.mk (HB1.out.trans (hb2.mono HB1.out.size)); have e0 := HZ2.out.cell 0 _ rfl; have e1 := HZ2.out.cell 1 _ rfl; have e2 := HZ2.out.cell 2 _ rfl; have e3 := HZ2.out.cell 3 _ rfl; have e4 := HZ2.out.cell 4 _ rfl; have fz := HZ2.out.free; have hz := HZ2.out.lt; clear hb2))
  all_goals
    clear e0 e1 e2 e3 e4 fz hz
    go_wp2_with fail
    generalize hW3 : World.setCell _ _ _ = w3
    have B3 : Box w3 (w.heap.size + 1) [.string os, .pointer (some ⟨g2, 0, none⟩), .bool (decide (gv < 3)), .bool (gv == 1), .bool (gv == 2)] := by
      rw [← hW3]
      exact ((((HZ2.out.set 0 (by simp) _).set 1 (by simp) _).set 2 (by simp) _).set 3 (by simp) _).set 4 (by simp) _
    have hgz : g2 ≠ w.heap.size + 1 := by
      have := HZ1.out.lt
      omega
    have N3 : AtT w3 g2 106 (vcells a b c p ⟨#[]⟩ ⟨#[]⟩) := by
      rw [← hW3]
      exact ((((HN.out.far _ hgz _).far _ hgz _).far _ hgz _).far _ hgz _).far _ hgz _
    have b3 : Below w.heap.size w w3 := by
      have hb := HB2.out
      have := hb.size
      rw [← hW3]
      exact ((((hb.setCell (by simp) _).setCell (by simp) _).setCell (by simp) _).setCell (by simp) _).setCell (by simp) _
    have hl3 : w.heap.size ≤ g2 := by
      have := HB1.out.size
      omega
    clear hW3
    have r0 := B3.cell 0 _ rfl; have r1 := B3.cell 1 _ rfl; have r2 := B3.cell 2 _ rfl; have r3 := B3.cell 3 _ rfl; have r4 := B3.cell 4 _ rfl
    exact bodyPost_ret (v := .agg #[.string os, .pointer (some ⟨g2, 0, none⟩), .bool (decide (gv < 3)), .bool (gv == 1), .bool (gv == 2)]) (by simp [results, Tryd.results54, go_sem, r0, r1, r2, r3, r4]) rfl ⟨g2, rfl, N3, hl3, b3⟩

end Go.Proofs.YtllkoadcpobdaaaDoor.KX
