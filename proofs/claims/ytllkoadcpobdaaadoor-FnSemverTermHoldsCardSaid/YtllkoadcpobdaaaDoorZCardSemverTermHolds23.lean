/- The row and the tied card of FnSemverTermHolds, out of its printed walk and its plain law. For every input that the statement lets in. -/
import Derived.Test.YtllkoadcpobdaaaDoorZCardSemverTermHolds6
import Derived.Test.YtllkoadcpobdaaaDoorZCardSemverTermHolds7
import Derived.Test.YtllkoadcpobdaaaDoorZCardSemverTermHolds9
import Derived.Test.YtllkoadcpobdaaaDoorZCardSemverTermHolds13
import Derived.Test.YtllkoadcpobdaaaDoorZCardSemverTermHolds14
import Derived.Test.YtllkoadcpobdaaaDoorZCardSemverTermHolds19
import Derived.Test.YtllkoadcpobdaaaDoorZCardSemverTermHolds20
import Derived.Test.YtllkoadcpobdaaaDoorZCardSemverTermHolds22
namespace Go.Proofs.YtllkoadcpobdaaaDoor.Base
end Go.Proofs.YtllkoadcpobdaaaDoor.Base
namespace Go.Proofs.YtllkoadcpobdaaaDoor.Bt
end Go.Proofs.YtllkoadcpobdaaaDoor.Bt
namespace Go.Proofs.YtllkoadcpobdaaaDoor.KX
end Go.Proofs.YtllkoadcpobdaaaDoor.KX
namespace Go.Proofs.YtllkoadcpobdaaaDoor.L
end Go.Proofs.YtllkoadcpobdaaaDoor.L
namespace Go.Proofs.YtllkoadcpobdaaaDoor.PX
end Go.Proofs.YtllkoadcpobdaaaDoor.PX
namespace Go.Proofs.YtllkoadcpobdaaaDoor.Parse
end Go.Proofs.YtllkoadcpobdaaaDoor.Parse
namespace Go.Proofs.YtllkoadcpobdaaaDoor.KX

open Go.RowKit Go.Lib Go.Sort Go.Proofs Go.Proofs.YtllkoadcpobdaaaDoor Go.Proofs.YtllkoadcpobdaaaDoor.Base Go.Proofs.YtllkoadcpobdaaaDoor.L Go.Proofs.YtllkoadcpobdaaaDoor.Bt Go.Proofs.YtllkoadcpobdaaaDoor.Parse Go.Proofs.YtllkoadcpobdaaaDoor.PX

open Go.Proofs.YtllkoadcpobdaaaDoorW.PrintWords Go.Proofs.YtllkoadcpobdaaaDoorW.PrintLast Go.Proofs.YtllkoadcpobdaaaDoorW.PrintMore

/-- The cells of a constraint. -/
def ccells (g : Nat) (og os : ByteArray) (mD d pD : Bool) : List Value := [.pointer (some ⟨g, 0, none⟩), .string og, .string os, .bool mD, .bool d, .bool pD]

set_option maxHeartbeats 2000000 in
theorem inner (os : ByteArray) (g : Nat) (d mD pD : Bool) (w : World) :
    Calls Tryd.prog 81 #[.agg #[.string os, .pointer (some ⟨g, 0, none⟩), .bool d, .bool mD, .bool pD]] w (NewAt w (ccells g ⟨#[]⟩ os mD d pD)) := by
  go_enter Tryd.func81, Tryd.ntmps81
  go_wp2
  go_ret
  exact ⟨w.heap.size + 1, rfl, At.new _ _ _ _ (by simp), by omega, by go_grown⟩

/-- The cells of a version that is told as a whole. -/
def vc (v : Ver) : List Value := vcells v.ma v.mi v.pa v.pre v.mt v.og

theorem verAt {w : World} {b : Nat} {v : Ver} (h : At w b (vc v)) : VerAt w b v := ⟨h.cell 0 _ rfl, h.cell 1 _ rfl, h.cell 2 _ rfl, h.cell 3 _ rfl, h.cell 4 _ rfl, h.cell 5 _ rfl⟩

def lessB (v n : Ver) : Bool := decide (verC v n < 0)

theorem kLT (v n : Ver) (bv bn : Nat) (sp : v.pre.size ≤ 2147483647) (sq : n.pre.size ≤ 2147483647) : Hid (∀ (W : World), At W bv (vc v) → At W bn (vc n) → Std W →
    Calls Tryd.prog 61 #[.pointer (some ⟨bv, 0, none⟩), .pointer (some ⟨bn, 0, none⟩)] W fun e w' => e = .returned (.bool (lessB v n)) ∧ Below W.heap.size W w') :=
  Lib.hid fun W hv hn hs => cmpLessThan v n bv bn sp sq W (verAt hv) (verAt hn) hs

theorem kCM (v n : Ver) (bv bn : Nat) (sp : v.pre.size ≤ 2147483647) (sq : n.pre.size ≤ 2147483647) : Hid (∀ (W : World), At W bv (vc v) → At W bn (vc n) → Std W →
    Calls Tryd.prog 86 #[.pointer (some ⟨bv, 0, none⟩), .pointer (some ⟨bn, 0, none⟩)] W fun e w' => e = .returned (.int .i64 (verC v n)) ∧ Below W.heap.size W w') :=
  Lib.hid fun W hv hn hs => compare v n bv bn sp sq W (verAt hv) (verAt hn) hs

theorem infoV : (Tryd.prog.info? 106).map (fun i => (i.zero, i.size, i.bytes)) = some (some (.agg #[.int .u64 0, .int .u64 0, .int .u64 0, .string ⟨#[]⟩, .string ⟨#[]⟩, .string ⟨#[]⟩]), 6, 72) := by kernel_rfl

theorem kEQ (v n : Ver) (bv bn : Nat) (sp : v.pre.size ≤ 2147483647) (sq : n.pre.size ≤ 2147483647) (hne : bv ≠ bn) : Hid (∀ (W : World), At W bv (vc v) → At W bn (vc n) → Std W →
    Calls Tryd.prog 66 #[.pointer (some ⟨bv, 0, none⟩), .pointer (some ⟨bn, 0, none⟩)] W fun e w' => e = .returned (.bool (verC v n == 0)) ∧ Below W.heap.size W w') :=
  Lib.hid fun W hv hn hs => by
    obtain ⟨i0, hi, _, hz1, _⟩ := info_parts infoV
    exact vEqual_calls _ _ _ _ _ _ _ _ _ _ _ _ bv bn (verC v n) W hv hn hs (kCM v n bv bn sp sq) (hv.ne_run hn hne Tryd.underlying65 hi (by rw [hz1]; decide))

end Go.Proofs.YtllkoadcpobdaaaDoor.KX
namespace Go.Proofs.YtllkoadcpobdaaaDoor.KX

open Go.RowKit Go.Lib Go.Sort Go.Proofs Go.Proofs.YtllkoadcpobdaaaDoor Go.Proofs.YtllkoadcpobdaaaDoor.Base Go.Proofs.YtllkoadcpobdaaaDoor.L Go.Proofs.YtllkoadcpobdaaaDoor.Bt Go.Proofs.YtllkoadcpobdaaaDoor.Parse Go.Proofs.YtllkoadcpobdaaaDoor.PX

/-- What constraintGreaterThan answers. -/
def aboveB (v n : Ver) (mD d pD pre : Bool) : Bool := cAbove_r (v.pre.toList == []) d (decide ((n.ma : Int) < (v.ma : Int))) (decide ((v.ma : Int) < (n.ma : Int))) mD pD (decide ((n.mi : Int) < (v.mi : Int))) (verC v n == 1) pre

theorem hAbove (v n : Ver) (og os : ByteArray) (bv bc bn : Nat) (mD d pD pre : Bool) (sp : v.pre.size ≤ 2147483647) (sq : n.pre.size ≤ 2147483647) (_ : bv ≠ bn) (w : World) (hV : At w bv (vc v)) (hC : At w bc (ccells bn og os mD d pD)) (hN : At w bn (vc n)) (hS : Std w) :
    Calls Tryd.prog 101 #[.pointer (some ⟨bv, 0, none⟩), .pointer (some ⟨bc, 0, none⟩), .bool pre] w (RetB w (aboveB v n mD d pD pre)) :=
  cAbove_calls _ _ _ _ _ _ _ _ _ _ _ _ _ _ bv bc bn mD d pD pre (verC v n) w hV hC hN hS (kCM v n bv bn sp sq)

/-- What constraintLessThan answers. -/
def belowB (v n : Ver) (_ _ _ pre : Bool) : Bool := cBelow_r (v.pre.toList == []) (decide (verC v n < 0)) pre

theorem hBelow (v n : Ver) (og os : ByteArray) (bv bc bn : Nat) (mD d pD pre : Bool) (sp : v.pre.size ≤ 2147483647) (sq : n.pre.size ≤ 2147483647) (_ : bv ≠ bn) (w : World) (hV : At w bv (vc v)) (hC : At w bc (ccells bn og os mD d pD)) (hN : At w bn (vc n)) (hS : Std w) :
    Calls Tryd.prog 102 #[.pointer (some ⟨bv, 0, none⟩), .pointer (some ⟨bc, 0, none⟩), .bool pre] w (RetB w (belowB v n mD d pD pre)) :=
  cBelow_calls _ _ _ _ _ _ _ _ _ _ _ _ _ _ bv bc bn mD d pD pre (verC v n) w hV hC hN hS (kCM v n bv bn sp sq)

/-- What constraintGreaterThanEqual answers. -/
def leastB (v n : Ver) (_ _ _ pre : Bool) : Bool := cLeast_r (v.pre.toList == []) (decide (0 ≤ verC v n)) pre

theorem hLeast (v n : Ver) (og os : ByteArray) (bv bc bn : Nat) (mD d pD pre : Bool) (sp : v.pre.size ≤ 2147483647) (sq : n.pre.size ≤ 2147483647) (_ : bv ≠ bn) (w : World) (hV : At w bv (vc v)) (hC : At w bc (ccells bn og os mD d pD)) (hN : At w bn (vc n)) (hS : Std w) :
    Calls Tryd.prog 103 #[.pointer (some ⟨bv, 0, none⟩), .pointer (some ⟨bc, 0, none⟩), .bool pre] w (RetB w (leastB v n mD d pD pre)) :=
  cLeast_calls _ _ _ _ _ _ _ _ _ _ _ _ _ _ bv bc bn mD d pD pre (verC v n) w hV hC hN hS (kCM v n bv bn sp sq)

/-- What constraintLessThanEqual answers. -/
def mostB (v n : Ver) (mD d _ pre : Bool) : Bool := cMost_r (v.pre.toList == []) d (decide ((n.ma : Int) < (v.ma : Int))) ((v.ma : Int) == (n.ma : Int)) (decide ((n.mi : Int) < (v.mi : Int))) mD (decide (verC v n ≤ 0)) pre

theorem hMost (v n : Ver) (og os : ByteArray) (bv bc bn : Nat) (mD d pD pre : Bool) (sp : v.pre.size ≤ 2147483647) (sq : n.pre.size ≤ 2147483647) (_ : bv ≠ bn) (w : World) (hV : At w bv (vc v)) (hC : At w bc (ccells bn og os mD d pD)) (hN : At w bn (vc n)) (hS : Std w) :
    Calls Tryd.prog 104 #[.pointer (some ⟨bv, 0, none⟩), .pointer (some ⟨bc, 0, none⟩), .bool pre] w (RetB w (mostB v n mD d pD pre)) :=
  cMost_calls _ _ _ _ _ _ _ _ _ _ _ _ _ _ bv bc bn mD d pD pre (verC v n) w hV hC hN hS (kCM v n bv bn sp sq)

/-- What constraintCaret answers. -/
def caretB (v n : Ver) (mD _ pD pre : Bool) : Bool := cCaret_r (v.pre.toList == []) (lessB v n) (decide ((0 : Int) < (n.ma : Int))) ((v.ma : Int) == (n.ma : Int)) mD ((n.ma : Int) == 0) (decide ((0 : Int) < (v.ma : Int))) (decide ((0 : Int) < (n.mi : Int))) ((v.mi : Int) == (n.mi : Int)) pD ((n.mi : Int) == 0) (decide ((0 : Int) < (v.mi : Int))) ((n.pa : Int) == (v.pa : Int)) pre

theorem hCaret (v n : Ver) (og os : ByteArray) (bv bc bn : Nat) (mD d pD pre : Bool) (sp : v.pre.size ≤ 2147483647) (sq : n.pre.size ≤ 2147483647) (_ : bv ≠ bn) (w : World) (hV : At w bv (vc v)) (hC : At w bc (ccells bn og os mD d pD)) (hN : At w bn (vc n)) (hS : Std w) :
    Calls Tryd.prog 105 #[.pointer (some ⟨bv, 0, none⟩), .pointer (some ⟨bc, 0, none⟩), .bool pre] w (RetB w (caretB v n mD d pD pre)) :=
  cCaret_calls _ _ _ _ _ _ _ _ _ _ _ _ _ _ bv bc bn mD d pD pre (lessB v n) w hV hC hN hS (kLT v n bv bn sp sq)

end Go.Proofs.YtllkoadcpobdaaaDoor.KX
namespace Go.Proofs.YtllkoadcpobdaaaDoor.KX

open Go.RowKit Go.Lib Go.Sort Go.Proofs Go.Proofs.YtllkoadcpobdaaaDoor Go.Proofs.YtllkoadcpobdaaaDoor.Base Go.Proofs.YtllkoadcpobdaaaDoor.L Go.Proofs.YtllkoadcpobdaaaDoor.Bt Go.Proofs.YtllkoadcpobdaaaDoor.Parse Go.Proofs.YtllkoadcpobdaaaDoor.PX

/-- What constraintTilde answers. -/
def tildeB (v n : Ver) (mD d pD pre : Bool) : Bool := cTilde_r (v.pre.toList == []) (lessB v n) ((n.ma : Int) == 0) ((n.mi : Int) == 0) ((n.pa : Int) == 0) mD ((v.ma : Int) == (n.ma : Int)) ((v.mi : Int) == (n.mi : Int)) pD pre

theorem hTilde (v n : Ver) (og os : ByteArray) (bv bc bn : Nat) (mD d pD pre : Bool) (sp : v.pre.size ≤ 2147483647) (sq : n.pre.size ≤ 2147483647) (_ : bv ≠ bn) (w : World) (hV : At w bv (vc v)) (hC : At w bc (ccells bn og os mD d pD)) (hN : At w bn (vc n)) (hS : Std w) :
    Calls Tryd.prog 87 #[.pointer (some ⟨bv, 0, none⟩), .pointer (some ⟨bc, 0, none⟩), .bool pre] w (RetB w (tildeB v n mD d pD pre)) :=
  cTilde_calls _ _ _ _ _ _ _ _ _ _ _ _ _ _ bv bc bn mD d pD pre (lessB v n) w hV hC hN hS (kLT v n bv bn sp sq)

end Go.Proofs.YtllkoadcpobdaaaDoor.KX
namespace Go.Proofs.YtllkoadcpobdaaaDoor.KX

open Go.RowKit Go.Lib Go.Sort Go.Proofs Go.Proofs.YtllkoadcpobdaaaDoor Go.Proofs.YtllkoadcpobdaaaDoor.Base Go.Proofs.YtllkoadcpobdaaaDoor.L Go.Proofs.YtllkoadcpobdaaaDoor.Bt Go.Proofs.YtllkoadcpobdaaaDoor.Parse Go.Proofs.YtllkoadcpobdaaaDoor.PX

/-- What constraintTildeOrEqual answers. -/
def equalB (v n : Ver) (mD d pD pre : Bool) : Bool := cEqual_r (v.pre.toList == []) d (tildeB v n mD d pD pre) (verC v n == 0) pre

theorem hEqual (v n : Ver) (og os : ByteArray) (bv bc bn : Nat) (mD d pD pre : Bool) (sp : v.pre.size ≤ 2147483647) (sq : n.pre.size ≤ 2147483647) (hne : bv ≠ bn) (w : World) (hV : At w bv (vc v)) (hC : At w bc (ccells bn og os mD d pD)) (hN : At w bn (vc n)) (hS : Std w) :
    Calls Tryd.prog 89 #[.pointer (some ⟨bv, 0, none⟩), .pointer (some ⟨bc, 0, none⟩), .bool pre] w (RetB w (equalB v n mD d pD pre)) :=
  cEqual_calls _ _ _ _ _ _ _ _ _ _ _ _ _ _ bv bc bn mD d pD pre (verC v n == 0) (tildeB v n mD d pD pre) w hV hC hN hS (kEQ v n bv bn sp sq hne) (Lib.hid fun W hv hc hn hs => hTilde v n og os bv bc bn mD d pD pre sp sq hne W hv hc hn hs)

end Go.Proofs.YtllkoadcpobdaaaDoor.KX
namespace Go.Proofs.YtllkoadcpobdaaaDoor.KX

open Go.RowKit Go.Lib Go.Sort Go.Proofs Go.Proofs.YtllkoadcpobdaaaDoor Go.Proofs.YtllkoadcpobdaaaDoor.Base Go.Proofs.YtllkoadcpobdaaaDoor.L Go.Proofs.YtllkoadcpobdaaaDoor.Bt Go.Proofs.YtllkoadcpobdaaaDoor.Parse Go.Proofs.YtllkoadcpobdaaaDoor.PX

/-- What constraintNotEqual answers. -/
def notEqualB (v n : Ver) (mD d pD pre : Bool) : Bool := cNotEqual_r (v.pre.toList == []) d ((n.ma : Int) == (v.ma : Int)) ((n.mi : Int) == (v.mi : Int)) mD ((n.pa : Int) == (v.pa : Int)) pD (n.pre.toList == []) (preC (bl v.pre) (bl n.pre) == 0) (verC v n == 0) pre

theorem hNotEqual (v n : Ver) (og os : ByteArray) (bv bc bn : Nat) (mD d pD pre : Bool) (sp : v.pre.size ≤ 2147483647) (sq : n.pre.size ≤ 2147483647) (hne : bv ≠ bn) (w : World) (hV : At w bv (vc v)) (hC : At w bc (ccells bn og os mD d pD)) (hN : At w bn (vc n)) (hS : Std w) :
    Calls Tryd.prog 88 #[.pointer (some ⟨bv, 0, none⟩), .pointer (some ⟨bc, 0, none⟩), .bool pre] w (RetB w (notEqualB v n mD d pD pre)) :=
  cNotEqual_calls _ _ _ _ _ _ _ _ _ _ _ _ _ _ bv bc bn mD d pD pre (verC v n == 0) (preC (bl v.pre) (bl n.pre)) w hV hC hN hS (kEQ v n bv bn sp sq hne) (Lib.hid fun W hs => comparePre v.pre n.pre sp sq W hs)

end Go.Proofs.YtllkoadcpobdaaaDoor.KX
namespace Go.Proofs.YtllkoadcpobdaaaDoor.KX

open Go.RowKit Go.Lib Go.Sort Go.Proofs Go.Proofs.YtllkoadcpobdaaaDoor Go.Proofs.YtllkoadcpobdaaaDoor.Base Go.Proofs.YtllkoadcpobdaaaDoor.L Go.Proofs.YtllkoadcpobdaaaDoor.Bt Go.Proofs.YtllkoadcpobdaaaDoor.Parse Go.Proofs.YtllkoadcpobdaaaDoor.PX

/-- The operators as they are written. -/
def opsL : List ByteArray := [⟨#[61]⟩, ⟨#[33, 61]⟩, ⟨#[62]⟩, ⟨#[60]⟩, ⟨#[62, 61]⟩, ⟨#[60, 61]⟩, ⟨#[126]⟩, ⟨#[94]⟩]

/-- What a constraint answers. -/
def termB (os : ByteArray) (v n : Ver) (mD d pD pre : Bool) : Bool :=
  match bl os with
  | [61] => equalB v n mD d pD pre
  | [33, 61] => notEqualB v n mD d pD pre
  | [62] => aboveB v n mD d pD pre
  | [60] => belowB v n mD d pD pre
  | [62, 61] => leastB v n mD d pD pre
  | [60, 61] => mostB v n mD d pD pre
  | [126] => tildeB v n mD d pD pre
  | [94] => caretB v n mD d pD pre
  | _ => false

theorem hCheck (v n : Ver) (og os : ByteArray) (bv bc bn : Nat) (mD d pD pre : Bool) (sp : v.pre.size ≤ 2147483647) (sq : n.pre.size ≤ 2147483647) (hne : bv ≠ bn) (ho : os ∈ opsL) (w : World) (hV : At w bv (vc v)) (hC : At w bc (ccells bn og os mD d pD)) (hN : At w bn (vc n)) (hS : Std w) :
    Calls Tryd.prog 82 #[.pointer (some ⟨bc, 0, none⟩), .pointer (some ⟨bv, 0, none⟩), .bool pre] w (RetB w (termB os v n mD d pD pre)) := by
  unfold opsL at ho
  simp only [List.mem_cons, List.not_mem_nil, or_false] at ho
  rcases ho with rfl | rfl | rfl | rfl | rfl | rfl | rfl | rfl
  · exact check0_calls _ _ _ _ _ _ _ _ _ _ _ _ _ bv bc bn mD d pD pre (equalB v n mD d pD pre) w hV hC hN hS (Lib.hid fun W h1 h2 h3 h4 => hEqual v n _ _ bv bc bn mD d pD pre sp sq hne W h1 h2 h3 h4)
  · exact check1_calls _ _ _ _ _ _ _ _ _ _ _ _ _ bv bc bn mD d pD pre (notEqualB v n mD d pD pre) w hV hC hN hS (Lib.hid fun W h1 h2 h3 h4 => hNotEqual v n _ _ bv bc bn mD d pD pre sp sq hne W h1 h2 h3 h4)
  · exact check2_calls _ _ _ _ _ _ _ _ _ _ _ _ _ bv bc bn mD d pD pre (aboveB v n mD d pD pre) w hV hC hN hS (Lib.hid fun W h1 h2 h3 h4 => hAbove v n _ _ bv bc bn mD d pD pre sp sq hne W h1 h2 h3 h4)
  · exact check3_calls _ _ _ _ _ _ _ _ _ _ _ _ _ bv bc bn mD d pD pre (belowB v n mD d pD pre) w hV hC hN hS (Lib.hid fun W h1 h2 h3 h4 => hBelow v n _ _ bv bc bn mD d pD pre sp sq hne W h1 h2 h3 h4)
  · exact check4_calls _ _ _ _ _ _ _ _ _ _ _ _ _ bv bc bn mD d pD pre (leastB v n mD d pD pre) w hV hC hN hS (Lib.hid fun W h1 h2 h3 h4 => hLeast v n _ _ bv bc bn mD d pD pre sp sq hne W h1 h2 h3 h4)
  · exact check5_calls _ _ _ _ _ _ _ _ _ _ _ _ _ bv bc bn mD d pD pre (mostB v n mD d pD pre) w hV hC hN hS (Lib.hid fun W h1 h2 h3 h4 => hMost v n _ _ bv bc bn mD d pD pre sp sq hne W h1 h2 h3 h4)
  · exact check6_calls _ _ _ _ _ _ _ _ _ _ _ _ _ bv bc bn mD d pD pre (tildeB v n mD d pD pre) w hV hC hN hS (Lib.hid fun W h1 h2 h3 h4 => hTilde v n _ _ bv bc bn mD d pD pre sp sq hne W h1 h2 h3 h4)
  · exact check7_calls _ _ _ _ _ _ _ _ _ _ _ _ _ bv bc bn mD d pD pre (caretB v n mD d pD pre) w hV hC hN hS (Lib.hid fun W h1 h2 h3 h4 => hCaret v n _ _ bv bc bn mD d pD pre sp sq hne W h1 h2 h3 h4)

end Go.Proofs.YtllkoadcpobdaaaDoor.KX
namespace Go.Proofs.YtllkoadcpobdaaaDoor.KX

open Go.RowKit Go.Lib Go.Sort Go.Proofs Go.Proofs.YtllkoadcpobdaaaDoor Go.Proofs.YtllkoadcpobdaaaDoor.Base Go.Proofs.YtllkoadcpobdaaaDoor.L Go.Proofs.YtllkoadcpobdaaaDoor.Bt Go.Proofs.YtllkoadcpobdaaaDoor.Parse Go.Proofs.YtllkoadcpobdaaaDoor.PX

open Go.Proofs.YtllkoadcpobdaaaDoorW.PrintWords Go.Proofs.YtllkoadcpobdaaaDoorW.PrintLast Go.Proofs.YtllkoadcpobdaaaDoorW.PrintMore

attribute [local go_sem] setCell_drewN alloc_drewN

set_option maxHeartbeats 4000000 in
set_option maxRecDepth 100000 in
theorem zzTermHolds (v n : Ver) (os : ByteArray) (bv bn : Nat) (d mD pD pre : Bool) (sp : v.pre.size ≤ 2147483647) (sq : n.pre.size ≤ 2147483647) (hne : bv ≠ bn) (ho : os ∈ opsL) (w : World) (hV : At w bv (vc v)) (hN : At w bn (vc n)) (hS : Std w) :
    Calls Tryd.prog 53 #[.agg #[.string os, .pointer (some ⟨bn, 0, none⟩), .bool d, .bool mD, .bool pD], .pointer (some ⟨bv, 0, none⟩), .bool pre] w (RetB w (termB os v n mD d pD pre)) := by
  have C1 := Lib.hid (fun W => inner os bn d mD pD W)
  have C2 := Lib.hid (fun W bc hv hc hn hs => hCheck v n ⟨#[]⟩ os bv bc bn mD d pD pre sp sq hne ho W hv hc hn hs)
  have HV := Aside0.mk hV; have HN := Aside0.mk hN; have HS := Aside0.mk hS
  clear hV hN hS sp sq hne ho
  go_enter Tryd.func53, Tryd.ntmps53
  go_wp2_with fail
  refine (C1.out _).mono ?_
  rintro e w1 ⟨bc, rfl, hc, hl, hb⟩
  have hb' := (show Below w.heap.size w _ by go_grown).trans (hb.mono (by simp))
  have HB := Aside0.mk hb'; have HV1 := Aside0.mk (HV.out.below hb'); have HN1 := Aside0.mk (HN.out.below hb'); have HS1 := Aside0.mk (HS.out.below hb'); have HC := Aside0.mk hc
  clear hb hb' hc hl HV HN HS
  go_wp2_with fail
  refine (C2.out _ _ HV1.out HC.out HN1.out HS1.out).mono ?_
  rintro e w2 ⟨er, rfl, hb2⟩
  go_wp2_with fail
  go_ret2
  exact ⟨_, rfl, HB.out.trans (hb2.mono HB.out.size)⟩

set_option maxHeartbeats 8000000 in
set_option maxRecDepth 100000 in
theorem implTermHolds (op gv : Int) (a b c : Nat) (p : ByteArray) (x0 x1 x2 : Nat) (xp xm : ByteArray) (pre : Bool) (os : ByteArray) (hos : impl_operator.f op = some os) (hg : 0 ≤ gv) (ho : os ∈ opsL) (sp : xp.size ≤ 2147483647) (sq : p.size ≤ 2147483647) (w : World) (hS : Std w) :
    Calls Tryd.prog 18 #[.agg #[.int .i64 op, .int .i64 gv, .int .u64 (a : Int), .int .u64 (b : Int), .int .u64 (c : Int), .string p], .agg #[.int .u64 (x0 : Int), .int .u64 (x1 : Int), .int .u64 (x2 : Int), .string xp, .string xm], .bool pre] w
      (Ret1 w (termB os ⟨x0, x1, x2, xp, xm, ⟨#[]⟩⟩ ⟨a, b, c, p, ⟨#[]⟩, ⟨#[]⟩⟩ (gv == 1) (decide (gv < 3)) (gv == 2) pre)) := by
  have C1 := Lib.hid (fun W => implTerm op gv a b c p os hos hg W)
  have C2 := Lib.hid (fun W => implVersion x0 x1 x2 xp xm W)
  have C3 := Lib.hid (fun W bv bn hne hv hn hs => zzTermHolds ⟨x0, x1, x2, xp, xm, ⟨#[]⟩⟩ ⟨a, b, c, p, ⟨#[]⟩, ⟨#[]⟩⟩ os bv bn (decide (gv < 3)) (gv == 1) (gv == 2) pre sp sq hne ho W hv hn hs)
  have HS := Aside0.mk hS
  clear hS sp sq hos hg ho
  generalize hR : termB os ⟨x0, x1, x2, xp, xm, ⟨#[]⟩⟩ ⟨a, b, c, p, ⟨#[]⟩, ⟨#[]⟩⟩ (gv == 1) (decide (gv < 3)) (gv == 2) pre = R at *
  generalize decide (gv < 3) = D at *
  generalize (gv == 1) = D1 at *
  generalize (gv == 2) = D2 at *
  clear hR
  go_enter Tryd.func18, Tryd.ntmps18
  go_wp2_with fail
  generalize hW0 : World.alloc (World.alloc w _) _ = w0
  have t0 : At w0 w.heap.size [.int .i64 op, .int .i64 gv, .int .u64 (a : Int), .int .u64 (b : Int), .int .u64 (c : Int), .string p] := by
    rw [← hW0]
    exact (At.new _ _ _ _ rfl).below ((Below.refl _ _).alloc (Nat.le_refl _) _)
  have v0 : At w0 (w.heap.size + 1) [.int .u64 (x0 : Int), .int .u64 (x1 : Int), .int .u64 (x2 : Int), .string xp, .string xm] := by
    rw [← hW0]
    exact At.new _ _ _ _ (by simp)
  have b0 : Below w.heap.size w w0 := by
    rw [← hW0]
    go_grown
  have HT0 := Aside0.mk t0; have HV0 := Aside0.mk v0; have HB0 := Aside0.mk b0
  clear t0 v0 b0 hW0
  go_region_held3 (fun W' => (W'.cell? ⟨w.heap.size, 0, none⟩ = some (.int .i64 op) ∧ W'.cell? ⟨w.heap.size, 1, none⟩ = some (.int .i64 gv) ∧ W'.cell? ⟨w.heap.size, 2, none⟩ = some (.int .u64 (a : Int)) ∧ W'.cell? ⟨w.heap.size, 3, none⟩ = some (.int .u64 (b : Int)) ∧ W'.cell? ⟨w.heap.size, 4, none⟩ = some (.int .u64 (c : Int)) ∧ W'.cell? ⟨w.heap.size, 5, none⟩ = some (.string p)) ∧
      W'.cell? ⟨w.heap.size + 1, 0, none⟩ = some (.int .u64 (x0 : Int)) ∧ W'.cell? ⟨w.heap.size + 1, 1, none⟩ = some (.int .u64 (x1 : Int)) ∧ W'.cell? ⟨w.heap.size + 1, 2, none⟩ = some (.int .u64 (x2 : Int)) ∧ W'.cell? ⟨w.heap.size + 1, 3, none⟩ = some (.string xp) ∧ W'.cell? ⟨w.heap.size + 1, 4, none⟩ = some (.string xm))
    (first | (with_reducible exact ⟨HT0.out.drew.six, HV0.out.drew.five⟩) | (with_reducible exact ⟨HT3.out.six, HV3.out.five⟩) | (with_reducible exact ⟨HT2.out.six, HV2.out.five⟩) | (with_reducible exact ⟨HT1.out.six, HV1.out.five⟩)) (first
    | (go_at_call 54; (with_reducible refine (C1.out _).mono ?_); rintro e w1 ⟨g1, rfl, hn1, hl1, hb⟩; have hb1 := undrew hb; have HN1 := Aside0.mk hn1; have HT1 := Aside0.mk (HT0.out.below hb1); have HV1 := Aside0.mk (HV0.out.below hb1); have HB1 := Aside0.mk (HB0.out.trans (hb1.mono HB0.out.size)); have HS1 := Aside0.mk (HS.out.below HB1.out); clear hb hb1 hn1 hl1)
    | (go_at_call 55; (with_reducible refine (C2.out _).mono ?_); rintro e w2 ⟨g2, rfl, hv2, hl2, hb2⟩; have HL2 := Aside0.mk hl2; have HU2 := Aside0.mk hv2; have HN2 := Aside0.mk (HN1.out.below hb2); have HT2 := Aside0.mk (HT1.out.below hb2); have HV2 := Aside0.mk (HV1.out.below hb2); have HB2 := Aside0.mk (HB1.out.trans (hb2.mono HB1.out.size)); have HS2 := Aside0.mk (HS1.out.below hb2); clear hb2 hv2 hl2)
    | (go_at_call 53; refine (C3.out _ _ _ (by have := HN1.out.lt; have := HL2.out; omega) HU2.out HN2.out HS2.out).mono ?_; rintro e w3 ⟨er, rfl, hb3⟩; have HT3 := Aside0.mk (HT2.out.below hb3); have HV3 := Aside0.mk (HV2.out.below hb3); have HB3 := Aside0.mk (HB2.out.trans (hb3.mono HB2.out.size)); clear hb3))
  go_wp2_with fail
  go_ret
  exact ⟨rfl, HB3.out⟩

end Go.Proofs.YtllkoadcpobdaaaDoor.KX
namespace Go.Proofs.YtllkoadcpobdaaaDoor.PX

open Go Go.Proofs Go.RowKit Go.Lib Go.Proofs.YtllkoadcpobdaaaDoor Go.Proofs.YtllkoadcpobdaaaDoor.L Go.Proofs.YtllkoadcpobdaaaDoor.Bt Go.Proofs.YtllkoadcpobdaaaDoor.KX

/-- What the operator of this number says. -/
def termI (op : Int) (v n : Ver) (mD d pD pre : Bool) : Bool :=
  if op = 0 then equalB v n mD d pD pre else if op = 1 then notEqualB v n mD d pD pre else if op = 2 then aboveB v n mD d pD pre else if op = 3 then belowB v n mD d pD pre
  else if op = 4 then leastB v n mD d pD pre else if op = 5 then mostB v n mD d pD pre else if op = 6 then tildeB v n mD d pD pre else caretB v n mD d pD pre

theorem op_cases (op : Int) (h : 0 ≤ op ∧ op < 8) : ∃ os, impl_operator.f op = some os ∧ os ∈ opsL ∧ ∀ v n mD d pD pre, termB os v n mD d pD pre = termI op v n mD d pD pre := by
  have e : op = 0 ∨ op = 1 ∨ op = 2 ∨ op = 3 ∨ op = 4 ∨ op = 5 ∨ op = 6 ∨ op = 7 := by omega
  unfold opsL
  rcases e with rfl | rfl | rfl | rfl | rfl | rfl | rfl | rfl
  · exact ⟨⟨#[61]⟩, rfl, by simp, fun _ _ _ _ _ _ => rfl⟩
  · exact ⟨⟨#[33, 61]⟩, rfl, by simp, fun _ _ _ _ _ _ => rfl⟩
  · exact ⟨⟨#[62]⟩, rfl, by simp, fun _ _ _ _ _ _ => rfl⟩
  · exact ⟨⟨#[60]⟩, rfl, by simp, fun _ _ _ _ _ _ => rfl⟩
  · exact ⟨⟨#[62, 61]⟩, rfl, by simp, fun _ _ _ _ _ _ => rfl⟩
  · exact ⟨⟨#[60, 61]⟩, rfl, by simp, fun _ _ _ _ _ _ => rfl⟩
  · exact ⟨⟨#[126]⟩, rfl, by simp, fun _ _ _ _ _ _ => rfl⟩
  · exact ⟨⟨#[94]⟩, rfl, by simp, fun _ _ _ _ _ _ => rfl⟩

def impl_TermHolds.f (t0 t1 a b c : Int) (p : ByteArray) (x0 x1 x2 : Int) (xp xm : ByteArray) (pre : Bool) : Option Bool :=
  if (0 ≤ t0 ∧ t0 < 8) ∧ 0 ≤ t1 ∧ okV a b c p ∧ okV x0 x1 x2 xp then some (termI t0 (vOf x0 x1 x2 xp xm) (vOf a b c p ⟨#[]⟩) (t1 == 1) (decide (t1 < 3)) (t1 == 2) pre) else none

theorem impl_TermHolds.calls (t0 t1 a b c : Int) (p : ByteArray) (x0 x1 x2 : Int) (xp xm : ByteArray) (pre : Bool) (r : Bool) (w : World) (hStd : Std w) (h : impl_TermHolds.f t0 t1 a b c p x0 x1 x2 xp xm pre = some r) :
    Calls Tryd.prog 18 #[.agg #[.int .i64 t0, .int .i64 t1, .int .u64 a, .int .u64 b, .int .u64 c, .string p], .agg #[.int .u64 x0, .int .u64 x1, .int .u64 x2, .string xp, .string xm], .bool pre] w fun e w' => e = .returned (.bool r) ∧ Below w.heap.size w w' := by
  unfold impl_TermHolds.f at h
  by_cases hc : (0 ≤ t0 ∧ t0 < 8) ∧ 0 ≤ t1 ∧ okV a b c p ∧ okV x0 x1 x2 xp
  · rw [if_pos hc] at h
    cases h
    obtain ⟨h0, h1, ⟨y0, y1, y2, y3⟩, ⟨z0, z1, z2, z3⟩⟩ := hc
    obtain ⟨a, rfl⟩ := Int.eq_ofNat_of_zero_le y0
    obtain ⟨b, rfl⟩ := Int.eq_ofNat_of_zero_le y1
    obtain ⟨c, rfl⟩ := Int.eq_ofNat_of_zero_le y2
    obtain ⟨x0, rfl⟩ := Int.eq_ofNat_of_zero_le z0
    obtain ⟨x1, rfl⟩ := Int.eq_ofNat_of_zero_le z1
    obtain ⟨x2, rfl⟩ := Int.eq_ofNat_of_zero_le z2
    obtain ⟨os, e1, e2, e3⟩ := op_cases t0 h0
    rw [← e3]
    exact implTermHolds t0 t1 a b c p x0 x1 x2 xp xm pre os e1 h1 e2 z3 y3 w hStd
  · rw [if_neg hc] at h
    cases h

end Go.Proofs.YtllkoadcpobdaaaDoor.PX
namespace Go.Proofs.YtllkoadcpobdaaaDoor.PX

open Go.RowKit Go.Proofs.YtllkoadcpobdaaaDoorW.PrintWords Go.Proofs.YtllkoadcpobdaaaDoorW.PrintLast Go.Proofs.YtllkoadcpobdaaaDoorW.PrintMore

attribute [local go_sem] max2_int min2_int max_two min_two max_three min_three max_four min_four   -- for this text's walks alone

set_option linter.unusedVariables false

set_option linter.unusedSimpArgs false

def laws_FnSemverTermHolds.j0 : Nat → Bool → Bool → Int → Int → Int → Int → Int → ByteArray → Int → Int → Int → ByteArray → ByteArray → Option (Bool)
  | 0, _, _, _, _, _, _, _, _, _, _, _, _, _ => none
  | k + 1, x2, x14, x196000, x196001, x196002, x196003, x196004, x196005, x197000, x197001, x197002, x197003, x197004 => if x14 = true then (some true) else ((spec_GoodTerm.f k x196000 x196001 x196002 x196003 x196004 x196005).bind fun t199 => (if t199 = true then ((laws_svGood.f k (([(⟨x197000, x197001, x197002, (⟨#[]⟩ : ByteArray), x197004⟩ : S26)] : List (S26)))).bind fun t203 => (if t203 = true then ((spec_Spoken.f k x196000 x196001 x196002 x196003 x196004 x196005 x197000 x197001 x197002 (⟨#[]⟩ : ByteArray) x197004).bind fun t204 => (if t204 = true then ((impl_TermHolds.f x196000 x196001 x196002 x196003 x196004 x196005 x197000 x197001 x197002 (⟨#[]⟩ : ByteArray) x197004 x2).bind fun t205 => ((spec_Compares.f k x196000 x196001 x196002 x196003 x196004 x196005 x197000 x197001 x197002 (⟨#[]⟩ : ByteArray) x197004).bind fun t206 => (some (t205 == t206)))) else (some true))) else (some true))) else (some true)))

def laws_FnSemverTermHolds.f (k : Nat) (a0_0 : Int) (a0_1 : Int) (a0_2 : Int) (a0_3 : Int) (a0_4 : Int) (a0_5 : ByteArray) (a1_0 : Int) (a1_1 : Int) (a1_2 : Int) (a1_3 : ByteArray) (a1_4 : ByteArray) (a2 : Bool) : Option (Bool) := (laws_zzFits13.f a0_0 a0_1 a0_2 a0_3 a0_4 a0_5).bind fun t197 => (if t197 = true then ((laws_zzFits14.f a1_0 a1_1 a1_2 a1_3 a1_4).bind fun t198 => (laws_FnSemverTermHolds.j0 k a2 (!t198) a0_0 a0_1 a0_2 a0_3 a0_4 a0_5 a1_0 a1_1 a1_2 a1_3 a1_4)) else (laws_FnSemverTermHolds.j0 k a2 true a0_0 a0_1 a0_2 a0_3 a0_4 a0_5 a1_0 a1_1 a1_2 a1_3 a1_4))

def laws_FnSemverTermHolds.T4 : Bool × List (List Nat × List Nat) := (true, [([], []), ([0], [0]), ([1], [1]), ([2, 1], [2]), ([3], [3]), ([4, 3], [3, 4]), ([5, 3, 3], [3, 5]), ([6, 3], [3, 6]), ([3, 7], [3, 7]), ([8, 6], [8]), ([9], [9]), ([9], [9]), ([10, 11, 9, 9], [9, 10, 11]), ([12, 9], [9, 12]), ([9, 13], [9, 13]), ([14, 12], [14]), ([15], [15]), ([15], [15]), ([15], [15]), ([16, 17, 18, 15, 15], [15, 16, 17, 18]), ([15], [15]), ([15], [15]), ([20, 21, 19, 15], [15, 20, 21]), ([19, 22, 15], [15, 19, 22]), ([15, 23], [15, 23]), ([24, 22, 0, 1, 2, 3, 4, 5, 6, 7, 8, 9, 10, 11, 12, 13, 14, 15, 16, 17, 18, 19, 20, 21, 22, 23, 24], [24])])

def laws_FnSemverTermHolds.B4 : List Nat := [0, 1, 3, 7, 15, 31, 63, 127, 255, 511, 1023, 1023, 4095, 8191, 16383, 32767, 65535, 65535, 65535, 524287, 65535, 65535, 4194303, 8388607, 16777215, 33554431]

theorem laws_FnSemverTermHolds.tab4 : rtab .any (opsOf Tryd.f3 4) = laws_FnSemverTermHolds.T4 := by kernel_rfl

theorem laws_FnSemverTermHolds.bits4 : waitsOk laws_FnSemverTermHolds.T4.2 laws_FnSemverTermHolds.B4 = true := by kernel_rfl

set_option maxHeartbeats 80000000 in
set_option maxRecDepth 100000 in
theorem laws_FnSemverTermHolds.calls (k : Nat) (a0_0 : Int) (a0_1 : Int) (a0_2 : Int) (a0_3 : Int) (a0_4 : Int) (a0_5 : ByteArray) (a1_0 : Int) (a1_1 : Int) (a1_2 : Int) (a1_3 : ByteArray) (a1_4 : ByteArray) (a2 : Bool) (r : Bool) (w : World) (hStd : Std w) (h : laws_FnSemverTermHolds.f k a0_0 a0_1 a0_2 a0_3 a0_4 a0_5 a1_0 a1_1 a1_2 a1_3 a1_4 a2 = some r) :
  Calls Tryd.prog 3 #[.agg #[.int .i64 a0_0, .int .i64 a0_1, .int .u64 a0_2, .int .u64 a0_3, .int .u64 a0_4, .string a0_5], .agg #[.int .u64 a1_0, .int .u64 a1_1, .int .u64 a1_2, .string a1_3, .string a1_4], .bool a2] w fun e w' => e = .returned (.bool r) ∧ Below w.heap.size w w' := by
 have hu24 := Tryd.underlying24
 have hu26 := Tryd.underlying26
 have HStd := Aside0.mk hStd
 clear hStd
 have HB := Aside0.mk (Below.refl w.heap.size w)
 have H : ((laws_zzFits13.f a0_0 a0_1 a0_2 a0_3 a0_4 a0_5).bind fun t197 => (if t197 = true then ((laws_zzFits14.f a1_0 a1_1 a1_2 a1_3 a1_4).bind fun t198 => (laws_FnSemverTermHolds.j0 k a2 (!t198) a0_0 a0_1 a0_2 a0_3 a0_4 a0_5 a1_0 a1_1 a1_2 a1_3 a1_4)) else (laws_FnSemverTermHolds.j0 k a2 true a0_0 a0_1 a0_2 a0_3 a0_4 a0_5 a1_0 a1_1 a1_2 a1_3 a1_4))) = some r := h
 clear h
 have HC4 := Aside0.mk H
 clear H
 go_enter Tryd.func3, Tryd.ntmps3
 go_upto_region 1 with (first | ((with_reducible refine gate_dst (N := 3) rfl ?_); (try (refine gate_guard (by rfl) ?_; dsimp only)); refine box_event ?hg (N := 3) ?hd (cs := #[.int .i64 a0_0, .int .i64 a0_1, .int .u64 a0_2, .int .u64 a0_3, .int .u64 a0_4, .string a0_5]) (t := 24) ?hr ?_; (case hd => rfl); (case hg => rfl); (case hr => first | (go_simp; done) | (go_simp; rfl) | (go_simp; simp [u8w]; done)); intro gb195 hg w5 hbox hb; have n0_ := Aside0.mk (below_step (by repeat (first | (with_reducible first | exact HB.out | apply below_alloc | apply pw_below_drewN | apply below_drew1) | exact HB.out)) hb); have n1_ := Aside0.mk (hbox); have n2_ := Aside0.mk ((by rw [hg]; exact (below_size (by repeat (first | (with_reducible first | exact HB.out | apply below_alloc | apply pw_below_drewN | apply below_drew1) | exact HB.out))) : w.heap.size ≤ gb195)); have n3_ := Aside0.mk ((by rw [hg]; exact (below_size (by repeat (first | (with_reducible first | exact HB.out | apply below_alloc | apply pw_below_drewN | apply below_drew1) | exact HB.out))) : w.heap.size ≤ gb195)); clear HB; have HB := n0_; have BK195 := n1_; have GW195 := n2_; have GE195 := n3_; clear n0_ n1_ n2_ n3_; clear hb hbox hg) | ((with_reducible refine gate_dst (N := 4) rfl ?_); (try (refine gate_guard (by rfl) ?_; dsimp only)); refine box_event ?hg (N := 4) ?hd (cs := #[.int .u64 a1_0, .int .u64 a1_1, .int .u64 a1_2, .string a1_3, .string a1_4]) (t := 26) ?hr ?_; (case hd => rfl); (case hg => rfl); (case hr => first | (go_simp; done) | (go_simp; rfl) | (go_simp; simp [u8w]; done)); intro gb196 hg w6 hbox hb; have n0_ := Aside0.mk (blk_below (g := gb195) (o := .cells #[.int .i64 a0_0, .int .i64 a0_1, .int .u64 a0_2, .int .u64 a0_3, .int .u64 a0_4, .string a0_5] 24 (0, 0)) (by (with_reducible repeat (first | refine blk_drewN ?_ _ | refine blk_drew ?_ | refine blk_alloc ?_ _)); exact BK195.out) hb); have n1_ := Aside0.mk (below_step (by repeat (first | (with_reducible first | exact HB.out | apply below_alloc | apply pw_below_drewN | apply below_drew1 | refine below_set ?_ GE195.out) | exact HB.out)) hb); have n2_ := Aside0.mk (hbox); have n3_ := Aside0.mk ((by rw [hg]; exact (below_size (by repeat (first | (with_reducible first | exact HB.out | apply below_alloc | apply pw_below_drewN | apply below_drew1 | refine below_set ?_ GE195.out) | exact HB.out))) : w.heap.size ≤ gb196)); have n4_ := Aside0.mk ((by rw [hg]; exact (below_size (by repeat (first | (with_reducible first | exact HB.out | apply below_alloc | apply pw_below_drewN | apply below_drew1 | refine below_set ?_ GE195.out) | exact HB.out))) : w.heap.size ≤ gb196)); have n5_ := Aside0.mk ((by rw [hg]; exact Nat.ne_of_lt (blk_lt (g := gb195) (o := .cells #[.int .i64 a0_0, .int .i64 a0_1, .int .u64 a0_2, .int .u64 a0_3, .int .u64 a0_4, .string a0_5] 24 (0, 0)) (by (with_reducible repeat (first | refine blk_drewN ?_ _ | refine blk_drew ?_ | refine blk_alloc ?_ _)); exact BK195.out)) : gb195 ≠ gb196)); have n6_ := Aside0.mk ((by rw [hg]; exact Nat.ne_of_gt (blk_lt (g := gb195) (o := .cells #[.int .i64 a0_0, .int .i64 a0_1, .int .u64 a0_2, .int .u64 a0_3, .int .u64 a0_4, .string a0_5] 24 (0, 0)) (by (with_reducible repeat (first | refine blk_drewN ?_ _ | refine blk_drew ?_ | refine blk_alloc ?_ _)); exact BK195.out)) : gb196 ≠ gb195)); clear BK195; clear HB; have BK195 := n0_; have HB := n1_; have BK196 := n2_; have GW196 := n3_; have GE196 := n4_; have NB195_196 := n5_; have NB196_195 := n6_; clear n0_ n1_ n2_ n3_ n4_ n5_ n6_; clear hb hbox hg))
 (try simp only [Act.put, List.setIfInBounds_toArray, List.set_cons_zero, List.set_cons_succ])
 go_cut [14] (fun v14 wc => ∃ (kq : Nat) (x14_3 : Bool), v14 = .bool x14_3 ∧ Aside0 (laws_FnSemverTermHolds.j0 kq a2 x14_3 a0_0 a0_1 a0_2 a0_3 a0_4 a0_5 a1_0 a1_1 a1_2 a1_3 a1_4 = some r) ∧ Aside0 (kq ≤ k) ∧ Aside0 (wc.heap[gb195]? = some (.cells #[.int .i64 a0_0, .int .i64 a0_1, .int .u64 a0_2, .int .u64 a0_3, .int .u64 a0_4, .string a0_5] 24 (0, 0))) ∧ Aside0 (wc.heap[gb196]? = some (.cells #[.int .u64 a1_0, .int .u64 a1_1, .int .u64 a1_2, .string a1_3, .string a1_4] 26 (0, 0))) ∧ Aside0 (Below w.heap.size w wc))
 case first =>
  have H := HC4.out
  clear HC4
  replace H := Option.bind_eq_some_iff.mp H
  obtain ⟨t197, A70, H⟩ := H
  replace H : (if t197 = true then ((laws_zzFits14.f a1_0 a1_1 a1_2 a1_3 a1_4).bind fun t198 => (laws_FnSemverTermHolds.j0 k a2 (!t198) a0_0 a0_1 a0_2 a0_3 a0_4 a0_5 a1_0 a1_1 a1_2 a1_3 a1_4)) else (laws_FnSemverTermHolds.j0 k a2 true a0_0 a0_1 a0_2 a0_3 a0_4 a0_5 a1_0 a1_1 a1_2 a1_3 a1_4)) = some r := H
  have A7 := Aside0.mk A70
  clear A70
  by_cases c8 : t197 = true
  ·
   subst c8
   have H1 : ((laws_zzFits14.f a1_0 a1_1 a1_2 a1_3 a1_4).bind fun t198 => (laws_FnSemverTermHolds.j0 k a2 (!t198) a0_0 a0_1 a0_2 a0_3 a0_4 a0_5 a1_0 a1_1 a1_2 a1_3 a1_4)) = some r := by rw [if_pos rfl] at H; exact H
   clear H
   have H := H1
   clear H1
   replace H := Option.bind_eq_some_iff.mp H
   obtain ⟨t198, A90, H⟩ := H
   replace H : (laws_FnSemverTermHolds.j0 k a2 (!t198) a0_0 a0_1 a0_2 a0_3 a0_4 a0_5 a1_0 a1_1 a1_2 a1_3 a1_4) = some r := H
   have A9 := Aside0.mk A90
   clear A90
   have H' := Aside0.mk H
   clear H
   have hnb10 := NB195_196.out
   have hnc10 := NB196_195.out
   have hcz11_0 : w6.cell? ⟨gb195, 0, none⟩ = some (.int .i64 a0_0) := (blk_cell BK195.out 0).trans rfl
   have hcz11_1 : w6.cell? ⟨gb195, 1, none⟩ = some (.int .i64 a0_1) := (blk_cell BK195.out 1).trans rfl
   have hcz11_2 : w6.cell? ⟨gb195, 2, none⟩ = some (.int .u64 a0_2) := (blk_cell BK195.out 2).trans rfl
   have hcz11_3 : w6.cell? ⟨gb195, 3, none⟩ = some (.int .u64 a0_3) := (blk_cell BK195.out 3).trans rfl
   have hcz11_4 : w6.cell? ⟨gb195, 4, none⟩ = some (.int .u64 a0_4) := (blk_cell BK195.out 4).trans rfl
   have hcz11_5 : w6.cell? ⟨gb195, 5, none⟩ = some (.string a0_5) := (blk_cell BK195.out 5).trans rfl
   have hfz11_0 := blk_frozen BK195.out 0
   have hfz11_1 := blk_frozen BK195.out 1
   have hfz11_2 := blk_frozen BK195.out 2
   have hfz11_3 := blk_frozen BK195.out 3
   have hfz11_4 := blk_frozen BK195.out 4
   have hfz11_5 := blk_frozen BK195.out 5
   go_wp2_with (first | ((with_reducible refine gate_callee (f := 13) rfl ?_); refine goesL_ (some 8) rfl rfl Tryd.func13 (by kernel_rfl) rfl #[.agg #[.int .i64 a0_0, .int .i64 a0_1, .int .u64 a0_2, .int .u64 a0_3, .int .u64 a0_4, .string a0_5]] rfl (by (try simp only [List.map_toArray, List.map_cons, List.map_nil]); first | done | rfl | (simp only [List.length_drop, List.length_take]; rfl)) ?_; (with_reducible refine (laws_zzFits13.calls a0_0 a0_1 a0_2 a0_3 a0_4 a0_5 true _ A7.out).mono ?_); rintro e w12 ⟨rfl, hb⟩; refine ⟨_, rfl, ?_⟩; have n0_ := Aside0.mk (blk_below (g := gb195) (o := .cells #[.int .i64 a0_0, .int .i64 a0_1, .int .u64 a0_2, .int .u64 a0_3, .int .u64 a0_4, .string a0_5] 24 (0, 0)) (by (with_reducible repeat (first | refine blk_drewN ?_ _ | refine blk_drew ?_ | refine blk_alloc ?_ _)); exact BK195.out) hb); have n1_ := Aside0.mk (blk_below (g := gb196) (o := .cells #[.int .u64 a1_0, .int .u64 a1_1, .int .u64 a1_2, .string a1_3, .string a1_4] 26 (0, 0)) (by (with_reducible repeat (first | refine blk_drewN ?_ _ | refine blk_drew ?_ | refine blk_alloc ?_ _)); exact BK196.out) hb); have n2_ := Aside0.mk (below_step (by repeat (first | (with_reducible first | exact HB.out | apply below_alloc | apply pw_below_drewN | apply below_drew1 | refine below_set ?_ GE195.out | refine below_set ?_ GE196.out) | exact HB.out)) hb); clear BK195; clear BK196; clear HB; have BK195 := n0_; have BK196 := n1_; have HB := n2_; clear n0_ n1_ n2_; (try clear hb); (try clear hb2); (try clear hk); (try clear hi); have hcz13_0 : w12.cell? ⟨gb196, 0, none⟩ = some (.int .u64 a1_0) := (blk_cell BK196.out 0).trans rfl; have hcz13_1 : w12.cell? ⟨gb196, 1, none⟩ = some (.int .u64 a1_1) := (blk_cell BK196.out 1).trans rfl; have hcz13_2 : w12.cell? ⟨gb196, 2, none⟩ = some (.int .u64 a1_2) := (blk_cell BK196.out 2).trans rfl; have hcz13_3 : w12.cell? ⟨gb196, 3, none⟩ = some (.string a1_3) := (blk_cell BK196.out 3).trans rfl; have hcz13_4 : w12.cell? ⟨gb196, 4, none⟩ = some (.string a1_4) := (blk_cell BK196.out 4).trans rfl; have hfz13_0 := blk_frozen BK196.out 0; have hfz13_1 := blk_frozen BK196.out 1; have hfz13_2 := blk_frozen BK196.out 2; have hfz13_3 := blk_frozen BK196.out 3; have hfz13_4 := blk_frozen BK196.out 4) | (go_at_call 14; (with_reducible refine (laws_zzFits14.calls a1_0 a1_1 a1_2 a1_3 a1_4 t198 _ A9.out).mono ?_); rintro e w14 ⟨rfl, hb⟩; have n0_ := Aside0.mk (blk_below (g := gb195) (o := .cells #[.int .i64 a0_0, .int .i64 a0_1, .int .u64 a0_2, .int .u64 a0_3, .int .u64 a0_4, .string a0_5] 24 (0, 0)) (by (with_reducible repeat (first | refine blk_drewN ?_ _ | refine blk_drew ?_ | refine blk_alloc ?_ _)); exact BK195.out) hb); have n1_ := Aside0.mk (blk_below (g := gb196) (o := .cells #[.int .u64 a1_0, .int .u64 a1_1, .int .u64 a1_2, .string a1_3, .string a1_4] 26 (0, 0)) (by (with_reducible repeat (first | refine blk_drewN ?_ _ | refine blk_drew ?_ | refine blk_alloc ?_ _)); exact BK196.out) hb); have n2_ := Aside0.mk (below_step (by repeat (first | (with_reducible first | exact HB.out | apply below_alloc | apply pw_below_drewN | apply below_drew1 | refine below_set ?_ GE195.out | refine below_set ?_ GE196.out) | exact HB.out)) hb); clear BK195; clear BK196; clear HB; have BK195 := n0_; have BK196 := n1_; have HB := n2_; clear n0_ n1_ n2_; (try clear hb); (try clear hb2); (try clear hk); (try clear hi)))
   go_meet
   case rel => exact ⟨_, (!t198), (by first | rfl | (simp; done) | (simp [*]; done)), H', ⟨by first | omega | exact Nat.le_refl _⟩, ⟨by (with_reducible repeat (first | refine blk_drewN ?_ _ | refine blk_drew ?_ | refine blk_alloc ?_ _)); exact BK195.out⟩, ⟨by (with_reducible repeat (first | refine blk_drewN ?_ _ | refine blk_drew ?_ | refine blk_alloc ?_ _)); exact BK196.out⟩, ⟨by repeat (first | (with_reducible first | exact HB.out | apply below_alloc | apply pw_below_drewN | apply below_drew1 | refine below_set ?_ GE195.out | refine below_set ?_ GE196.out) | exact HB.out)⟩⟩
  ·
   replace c8 := Bool.eq_false_iff.mpr c8
   subst c8
   have H1 : (laws_FnSemverTermHolds.j0 k a2 true a0_0 a0_1 a0_2 a0_3 a0_4 a0_5 a1_0 a1_1 a1_2 a1_3 a1_4) = some r := by rw [if_neg (show ¬ (false = true) by decide)] at H; exact H
   clear H
   have H := H1
   clear H1
   have H' := Aside0.mk H
   clear H
   have hnb15 := NB195_196.out
   have hnc15 := NB196_195.out
   have hcz16_0 : w6.cell? ⟨gb195, 0, none⟩ = some (.int .i64 a0_0) := (blk_cell BK195.out 0).trans rfl
   have hcz16_1 : w6.cell? ⟨gb195, 1, none⟩ = some (.int .i64 a0_1) := (blk_cell BK195.out 1).trans rfl
   have hcz16_2 : w6.cell? ⟨gb195, 2, none⟩ = some (.int .u64 a0_2) := (blk_cell BK195.out 2).trans rfl
   have hcz16_3 : w6.cell? ⟨gb195, 3, none⟩ = some (.int .u64 a0_3) := (blk_cell BK195.out 3).trans rfl
   have hcz16_4 : w6.cell? ⟨gb195, 4, none⟩ = some (.int .u64 a0_4) := (blk_cell BK195.out 4).trans rfl
   have hcz16_5 : w6.cell? ⟨gb195, 5, none⟩ = some (.string a0_5) := (blk_cell BK195.out 5).trans rfl
   have hfz16_0 := blk_frozen BK195.out 0
   have hfz16_1 := blk_frozen BK195.out 1
   have hfz16_2 := blk_frozen BK195.out 2
   have hfz16_3 := blk_frozen BK195.out 3
   have hfz16_4 := blk_frozen BK195.out 4
   have hfz16_5 := blk_frozen BK195.out 5
   go_wp2_with (first | ((with_reducible refine gate_callee (f := 13) rfl ?_); refine goesL_ (some 8) rfl rfl Tryd.func13 (by kernel_rfl) rfl #[.agg #[.int .i64 a0_0, .int .i64 a0_1, .int .u64 a0_2, .int .u64 a0_3, .int .u64 a0_4, .string a0_5]] rfl (by (try simp only [List.map_toArray, List.map_cons, List.map_nil]); first | done | rfl | (simp only [List.length_drop, List.length_take]; rfl)) ?_; (with_reducible refine (laws_zzFits13.calls a0_0 a0_1 a0_2 a0_3 a0_4 a0_5 false _ A7.out).mono ?_); rintro e w17 ⟨rfl, hb⟩; refine ⟨_, rfl, ?_⟩; have n0_ := Aside0.mk (blk_below (g := gb195) (o := .cells #[.int .i64 a0_0, .int .i64 a0_1, .int .u64 a0_2, .int .u64 a0_3, .int .u64 a0_4, .string a0_5] 24 (0, 0)) (by (with_reducible repeat (first | refine blk_drewN ?_ _ | refine blk_drew ?_ | refine blk_alloc ?_ _)); exact BK195.out) hb); have n1_ := Aside0.mk (blk_below (g := gb196) (o := .cells #[.int .u64 a1_0, .int .u64 a1_1, .int .u64 a1_2, .string a1_3, .string a1_4] 26 (0, 0)) (by (with_reducible repeat (first | refine blk_drewN ?_ _ | refine blk_drew ?_ | refine blk_alloc ?_ _)); exact BK196.out) hb); have n2_ := Aside0.mk (below_step (by repeat (first | (with_reducible first | exact HB.out | apply below_alloc | apply pw_below_drewN | apply below_drew1 | refine below_set ?_ GE195.out | refine below_set ?_ GE196.out) | exact HB.out)) hb); clear BK195; clear BK196; clear HB; have BK195 := n0_; have BK196 := n1_; have HB := n2_; clear n0_ n1_ n2_; (try clear hb); (try clear hb2); (try clear hk); (try clear hi)))
   go_meet
   case rel => exact ⟨_, (true), (by first | rfl | (simp; done) | (simp [*]; done)), H', ⟨by first | omega | exact Nat.le_refl _⟩, ⟨by (with_reducible repeat (first | refine blk_drewN ?_ _ | refine blk_drew ?_ | refine blk_alloc ?_ _)); exact BK195.out⟩, ⟨by (with_reducible repeat (first | refine blk_drewN ?_ _ | refine blk_drew ?_ | refine blk_alloc ?_ _)); exact BK196.out⟩, ⟨by repeat (first | (with_reducible first | exact HB.out | apply below_alloc | apply pw_below_drewN | apply below_drew1 | refine below_set ?_ GE195.out | refine below_set ?_ GE196.out) | exact HB.out)⟩⟩
 case rest =>
  clear HC4
  try clear c1
  try clear p2
  try clear c3
  try clear c8
  try clear c10
  try clear c13
  try clear c15
  try clear hcz11_0
  try clear hcz11_1
  try clear hcz11_2
  try clear hcz11_3
  try clear hcz11_4
  try clear hcz11_5
  try clear hcz13_0
  try clear hcz13_1
  try clear hcz13_2
  try clear hcz13_3
  try clear hcz13_4
  try clear hcz16_0
  try clear hcz16_1
  try clear hcz16_2
  try clear hcz16_3
  try clear hcz16_4
  try clear hcz16_5
  try clear hfz11_0
  try clear hfz11_1
  try clear hfz11_2
  try clear hfz11_3
  try clear hfz11_4
  try clear hfz11_5
  try clear hfz13_0
  try clear hfz13_1
  try clear hfz13_2
  try clear hfz13_3
  try clear hfz13_4
  try clear hfz16_0
  try clear hfz16_1
  try clear hfz16_2
  try clear hfz16_3
  try clear hfz16_4
  try clear hfz16_5
  obtain ⟨kq, x14_3, rfl, HA, HJ3, BK195, BK196, HB⟩ := hcut
  cases kq with
  | zero => exact absurd HA.out (by simp [laws_FnSemverTermHolds.j0])
  | succ kj3 =>
   have H := HA.out
   clear HA
   simp only [laws_FnSemverTermHolds.j0] at H
   by_cases c18 : x14_3 = true
   ·
    subst c18
    have H1 : (some true) = some r := by rw [if_pos rfl] at H; exact H
    clear H
    have H := H1
    clear H1
    obtain rfl := Option.some.inj H
    go_wp2
    go_ret
    exact ⟨by first | rfl | (simp [errW_none, errW_some] <;> rfl) | (simp [*, errW_none, errW_some] <;> rfl) | (simp [bneNil]; done), by repeat (first | (with_reducible first | exact HB.out | apply below_alloc | apply pw_below_drewN | apply below_drew1 | refine below_set ?_ GE195.out | refine below_set ?_ GE196.out) | exact HB.out)⟩
   ·
    replace c18 := Bool.eq_false_iff.mpr c18
    subst c18
    have H1 : ((spec_GoodTerm.f kj3 a0_0 a0_1 a0_2 a0_3 a0_4 a0_5).bind fun t199 => (if t199 = true then ((laws_svGood.f kj3 (([(⟨a1_0, a1_1, a1_2, (⟨#[]⟩ : ByteArray), a1_4⟩ : S26)] : List (S26)))).bind fun t203 => (if t203 = true then ((spec_Spoken.f kj3 a0_0 a0_1 a0_2 a0_3 a0_4 a0_5 a1_0 a1_1 a1_2 (⟨#[]⟩ : ByteArray) a1_4).bind fun t204 => (if t204 = true then ((impl_TermHolds.f a0_0 a0_1 a0_2 a0_3 a0_4 a0_5 a1_0 a1_1 a1_2 (⟨#[]⟩ : ByteArray) a1_4 a2).bind fun t205 => ((spec_Compares.f kj3 a0_0 a0_1 a0_2 a0_3 a0_4 a0_5 a1_0 a1_1 a1_2 (⟨#[]⟩ : ByteArray) a1_4).bind fun t206 => (some (t205 == t206)))) else (some true))) else (some true))) else (some true))) = some r := by rw [if_neg (show ¬ (false = true) by decide)] at H; exact H
    clear H
    have H := H1
    clear H1
    replace H := Option.bind_eq_some_iff.mp H
    obtain ⟨t199, A190, H⟩ := H
    replace H : (if t199 = true then ((laws_svGood.f kj3 (([(⟨a1_0, a1_1, a1_2, (⟨#[]⟩ : ByteArray), a1_4⟩ : S26)] : List (S26)))).bind fun t203 => (if t203 = true then ((spec_Spoken.f kj3 a0_0 a0_1 a0_2 a0_3 a0_4 a0_5 a1_0 a1_1 a1_2 (⟨#[]⟩ : ByteArray) a1_4).bind fun t204 => (if t204 = true then ((impl_TermHolds.f a0_0 a0_1 a0_2 a0_3 a0_4 a0_5 a1_0 a1_1 a1_2 (⟨#[]⟩ : ByteArray) a1_4 a2).bind fun t205 => ((spec_Compares.f kj3 a0_0 a0_1 a0_2 a0_3 a0_4 a0_5 a1_0 a1_1 a1_2 (⟨#[]⟩ : ByteArray) a1_4).bind fun t206 => (some (t205 == t206)))) else (some true))) else (some true))) else (some true)) = some r := H
    have A19 := Aside0.mk A190
    clear A190
    by_cases c20 : t199 = true
    ·
     subst c20
     have H1 : ((laws_svGood.f kj3 (([(⟨a1_0, a1_1, a1_2, (⟨#[]⟩ : ByteArray), a1_4⟩ : S26)] : List (S26)))).bind fun t203 => (if t203 = true then ((spec_Spoken.f kj3 a0_0 a0_1 a0_2 a0_3 a0_4 a0_5 a1_0 a1_1 a1_2 (⟨#[]⟩ : ByteArray) a1_4).bind fun t204 => (if t204 = true then ((impl_TermHolds.f a0_0 a0_1 a0_2 a0_3 a0_4 a0_5 a1_0 a1_1 a1_2 (⟨#[]⟩ : ByteArray) a1_4 a2).bind fun t205 => ((spec_Compares.f kj3 a0_0 a0_1 a0_2 a0_3 a0_4 a0_5 a1_0 a1_1 a1_2 (⟨#[]⟩ : ByteArray) a1_4).bind fun t206 => (some (t205 == t206)))) else (some true))) else (some true))) = some r := by rw [if_pos rfl] at H; exact H
     clear H
     have H := H1
     clear H1
     obtain ⟨y200, hy200⟩ : ∃ y_ : List (S26), y_ = (([(⟨a1_0, a1_1, a1_2, (⟨#[]⟩ : ByteArray), a1_4⟩ : S26)] : List (S26))) := ⟨_, rfl⟩
     replace H : ((laws_svGood.f kj3 y200).bind fun t203 => (if t203 = true then ((spec_Spoken.f kj3 a0_0 a0_1 a0_2 a0_3 a0_4 a0_5 a1_0 a1_1 a1_2 (⟨#[]⟩ : ByteArray) a1_4).bind fun t204 => (if t204 = true then ((impl_TermHolds.f a0_0 a0_1 a0_2 a0_3 a0_4 a0_5 a1_0 a1_1 a1_2 (⟨#[]⟩ : ByteArray) a1_4 a2).bind fun t205 => ((spec_Compares.f kj3 a0_0 a0_1 a0_2 a0_3 a0_4 a0_5 a1_0 a1_1 a1_2 (⟨#[]⟩ : ByteArray) a1_4).bind fun t206 => (some (t205 == t206)))) else (some true))) else (some true))) = some r := by first | (rw [hy200]; with_reducible exact H) | (have H2_ := (Option.bind_some _ _).symm.trans H; rw [hy200]; with_reducible exact H2_) | (have H2_ := (Option.bind_some _ _).symm.trans H; with_reducible exact H2_) | with_reducible exact H | (rw [hy200]; exact H) | exact H
     have Ny200 := Aside0.mk hy200
     clear hy200
     replace H := Option.bind_eq_some_iff.mp H
     obtain ⟨t203, A210, H⟩ := H
     replace H : (if t203 = true then ((spec_Spoken.f kj3 a0_0 a0_1 a0_2 a0_3 a0_4 a0_5 a1_0 a1_1 a1_2 (⟨#[]⟩ : ByteArray) a1_4).bind fun t204 => (if t204 = true then ((impl_TermHolds.f a0_0 a0_1 a0_2 a0_3 a0_4 a0_5 a1_0 a1_1 a1_2 (⟨#[]⟩ : ByteArray) a1_4 a2).bind fun t205 => ((spec_Compares.f kj3 a0_0 a0_1 a0_2 a0_3 a0_4 a0_5 a1_0 a1_1 a1_2 (⟨#[]⟩ : ByteArray) a1_4).bind fun t206 => (some (t205 == t206)))) else (some true))) else (some true)) = some r := H
     have A21 := Aside0.mk A210
     clear A210
     by_cases c22 : t203 = true
     ·
      subst c22
      have H1 : ((spec_Spoken.f kj3 a0_0 a0_1 a0_2 a0_3 a0_4 a0_5 a1_0 a1_1 a1_2 (⟨#[]⟩ : ByteArray) a1_4).bind fun t204 => (if t204 = true then ((impl_TermHolds.f a0_0 a0_1 a0_2 a0_3 a0_4 a0_5 a1_0 a1_1 a1_2 (⟨#[]⟩ : ByteArray) a1_4 a2).bind fun t205 => ((spec_Compares.f kj3 a0_0 a0_1 a0_2 a0_3 a0_4 a0_5 a1_0 a1_1 a1_2 (⟨#[]⟩ : ByteArray) a1_4).bind fun t206 => (some (t205 == t206)))) else (some true))) = some r := by rw [if_pos rfl] at H; exact H
      clear H
      have H := H1
      clear H1
      replace H := Option.bind_eq_some_iff.mp H
      obtain ⟨t204, A230, H⟩ := H
      replace H : (if t204 = true then ((impl_TermHolds.f a0_0 a0_1 a0_2 a0_3 a0_4 a0_5 a1_0 a1_1 a1_2 (⟨#[]⟩ : ByteArray) a1_4 a2).bind fun t205 => ((spec_Compares.f kj3 a0_0 a0_1 a0_2 a0_3 a0_4 a0_5 a1_0 a1_1 a1_2 (⟨#[]⟩ : ByteArray) a1_4).bind fun t206 => (some (t205 == t206)))) else (some true)) = some r := H
      have A23 := Aside0.mk A230
      clear A230
      by_cases c24 : t204 = true
      ·
       subst c24
       have H1 : ((impl_TermHolds.f a0_0 a0_1 a0_2 a0_3 a0_4 a0_5 a1_0 a1_1 a1_2 (⟨#[]⟩ : ByteArray) a1_4 a2).bind fun t205 => ((spec_Compares.f kj3 a0_0 a0_1 a0_2 a0_3 a0_4 a0_5 a1_0 a1_1 a1_2 (⟨#[]⟩ : ByteArray) a1_4).bind fun t206 => (some (t205 == t206)))) = some r := by rw [if_pos rfl] at H; exact H
       clear H
       have H := H1
       clear H1
       replace H := Option.bind_eq_some_iff.mp H
       obtain ⟨t205, A250, H⟩ := H
       replace H : ((spec_Compares.f kj3 a0_0 a0_1 a0_2 a0_3 a0_4 a0_5 a1_0 a1_1 a1_2 (⟨#[]⟩ : ByteArray) a1_4).bind fun t206 => (some (t205 == t206))) = some r := H
       have A25 := Aside0.mk A250
       clear A250
       replace H := Option.bind_eq_some_iff.mp H
       obtain ⟨t206, A260, H⟩ := H
       replace H : (some (t205 == t206)) = some r := H
       have A26 := Aside0.mk A260
       clear A260
       obtain rfl := Option.some.inj H
       have hnb27 := NB196_195.out
       have hnc27 := NB195_196.out
       have hcz28_0 : wc.cell? ⟨gb196, 0, none⟩ = some (.int .u64 a1_0) := (blk_cell BK196.out 0).trans rfl
       have hcz28_1 : wc.cell? ⟨gb196, 1, none⟩ = some (.int .u64 a1_1) := (blk_cell BK196.out 1).trans rfl
       have hcz28_2 : wc.cell? ⟨gb196, 2, none⟩ = some (.int .u64 a1_2) := (blk_cell BK196.out 2).trans rfl
       have hcz28_3 : wc.cell? ⟨gb196, 3, none⟩ = some (.string a1_3) := (blk_cell BK196.out 3).trans rfl
       have hcz28_4 : wc.cell? ⟨gb196, 4, none⟩ = some (.string a1_4) := (blk_cell BK196.out 4).trans rfl
       have hfz28_0 := blk_frozen BK196.out 0
       have hfz28_1 := blk_frozen BK196.out 1
       have hfz28_2 := blk_frozen BK196.out 2
       have hfz28_3 := blk_frozen BK196.out 3
       have hfz28_4 := blk_frozen BK196.out 4
       try go_wp2
       have n0_ : Aside0 ((wc.setCell ⟨gb196, 3, none⟩ (.string (⟨#[]⟩ : ByteArray))).heap[gb195]? = some (.cells #[.int .i64 a0_0, .int .i64 a0_1, .int .u64 a0_2, .int .u64 a0_3, .int .u64 a0_4, .string a0_5] 24 (0, 0))) := ⟨by (with_reducible repeat (first | refine blk_drewN ?_ _ | refine blk_drew ?_ | refine blk_alloc ?_ _)); refine blk_far ?_ NB195_196.out _; (with_reducible repeat (first | refine blk_drewN ?_ _ | refine blk_drew ?_ | refine blk_alloc ?_ _)); exact BK195.out⟩
       have n1_ : Aside0 ((wc.setCell ⟨gb196, 3, none⟩ (.string (⟨#[]⟩ : ByteArray))).heap[gb196]? = some (.cells #[.int .u64 a1_0, .int .u64 a1_1, .int .u64 a1_2, .string (⟨#[]⟩ : ByteArray), .string a1_4] 26 (0, 0))) := ⟨by (with_reducible repeat (first | refine blk_drewN ?_ _ | refine blk_drew ?_ | refine blk_alloc ?_ _)); refine blk_put (cs := #[.int .u64 a1_0, .int .u64 a1_1, .int .u64 a1_2, .string a1_3, .string a1_4]) ?_ 3 _ rfl; (with_reducible repeat (first | refine blk_drewN ?_ _ | refine blk_drew ?_ | refine blk_alloc ?_ _)); exact BK196.out⟩
       have n2_ : Aside0 (Below w.heap.size w (wc.setCell ⟨gb196, 3, none⟩ (.string (⟨#[]⟩ : ByteArray)))) := ⟨by repeat (first | (with_reducible first | exact HB.out | apply below_alloc | apply pw_below_drewN | apply below_drew1 | refine below_set ?_ GE195.out | refine below_set ?_ GE196.out) | exact HB.out)⟩
       (try clear BK195)
       (try clear BK196)
       (try clear HB)
       generalize (wc.setCell ⟨gb196, 3, none⟩ (.string (⟨#[]⟩ : ByteArray))) = w29 at n0_ n1_ n2_ ⊢
       have BK195 := n0_
       have BK196 := n1_
       have HB := n2_
       clear n0_ n1_ n2_
       have n0_ := Aside0.mk (blk_drew BK195.out)
       have n1_ := Aside0.mk (blk_drew BK196.out)
       have n2_ := Aside0.mk (below_drew1 HB.out)
       clear BK195
       clear BK196
       clear HB
       have BK195 := n0_
       have BK196 := n1_
       have HB := n2_
       clear n0_ n1_ n2_
       refine start_ (n := 26) (S := fun w' => w'.cell? ⟨gb195, 0, none⟩ = some (.int .i64 a0_0) ∧ w'.cell? ⟨gb195, 1, none⟩ = some (.int .i64 a0_1) ∧ w'.cell? ⟨gb195, 2, none⟩ = some (.int .u64 a0_2) ∧ w'.cell? ⟨gb195, 3, none⟩ = some (.int .u64 a0_3) ∧ w'.cell? ⟨gb195, 4, none⟩ = some (.int .u64 a0_4) ∧ w'.cell? ⟨gb195, 5, none⟩ = some (.string a0_5) ∧ w'.cell? ⟨gb196, 0, none⟩ = some (.int .u64 a1_0) ∧ w'.cell? ⟨gb196, 1, none⟩ = some (.int .u64 a1_1) ∧ w'.cell? ⟨gb196, 2, none⟩ = some (.int .u64 a1_2) ∧ w'.cell? ⟨gb196, 3, none⟩ = some (.string (⟨#[]⟩ : ByteArray)) ∧ w'.cell? ⟨gb196, 4, none⟩ = some (.string a1_4)) (ds := []) #[false, false, false, false, false, false, false, false, false, false, false, false, false, false, false, false, false, false, false, false, false, false, false, false, false, false] (by kernel_rfl) rfl rfl ⟨(blk_cell BK195.out 0).trans rfl, (blk_cell BK195.out 1).trans rfl, (blk_cell BK195.out 2).trans rfl, (blk_cell BK195.out 3).trans rfl, (blk_cell BK195.out 4).trans rfl, (blk_cell BK195.out 5).trans rfl, (blk_cell BK196.out 0).trans rfl, (blk_cell BK196.out 1).trans rfl, (blk_cell BK196.out 2).trans rfl, (blk_cell BK196.out 3).trans rfl, (blk_cell BK196.out 4).trans rfl⟩ (fun hHeld => ?_); refine with_tabW laws_FnSemverTermHolds.tab4 laws_FnSemverTermHolds.bits4 (fun HT_ HW_ => ?_)
       generalize w29.drew = w30 at BK195 BK196 HB hHeld ⊢
       refine take_ (i := 0) (N := some 16) (v := ?_) (a' := ?_) #[true, false, false, false, false, false, false, false, false, false, false, false, false, false, false, false, false, false, false, false, false, false, false, false, false, false] rfl rfl (take_ofW HT_.out HW_.out (by kernel_rfl)) (fun _ _ _ h => h) (Or.inl ⟨by rfl, ?_⟩) hHeld ?_ ?_
       rotate_left
       ·
        rintro w' ⟨s0, s1, s2, s3, s4, s5, s6, s7, s8, s9, s10⟩
        go_simp
        with_reducible rfl
       rotate_left
       ·
        simp only [Act.put, List.setIfInBounds_toArray, List.set_cons_zero, List.set_cons_succ, i64_w, i32_w]
        rfl
       refine one_ (i := 1) (N := some 17) #[true, true, false, false, false, false, false, false, false, false, false, false, false, false, false, false, false, false, false, false, false, false, false, false, false, false] rfl rfl (one_of HT_.out (by kernel_rfl)) (by decide) (fun K hK => ?_)
       refine goes_ Tryd.func15 (by kernel_rfl) rfl #[.agg #[.int .i64 a0_0, .int .i64 a0_1, .int .u64 a0_2, .int .u64 a0_3, .int .u64 a0_4, .string a0_5]] (by rfl) rfl rfl (by (try simp only [List.map_toArray, List.map_cons, List.map_nil]); first | done | rfl | (simp only [List.length_drop, List.length_take]; rfl)) ?_
       with_reducible refine (spec_GoodTerm.calls kj3 a0_0 a0_1 a0_2 a0_3 a0_4 a0_5 true _ A19.out).mono ?_
       rintro e w31 ⟨rfl, hb⟩
       refine ⟨_, rfl, ?_⟩
       have n0_ := Aside0.mk (blk_below (g := gb195) (o := .cells #[.int .i64 a0_0, .int .i64 a0_1, .int .u64 a0_2, .int .u64 a0_3, .int .u64 a0_4, .string a0_5] 24 (0, 0)) (by (with_reducible repeat (first | refine blk_drewN ?_ _ | refine blk_drew ?_ | refine blk_alloc ?_ _)); exact BK195.out) hb)
       have n1_ := Aside0.mk (blk_below (g := gb196) (o := .cells #[.int .u64 a1_0, .int .u64 a1_1, .int .u64 a1_2, .string (⟨#[]⟩ : ByteArray), .string a1_4] 26 (0, 0)) (by (with_reducible repeat (first | refine blk_drewN ?_ _ | refine blk_drew ?_ | refine blk_alloc ?_ _)); exact BK196.out) hb)
       have n2_ := Aside0.mk (below_step (by repeat (first | (with_reducible first | exact HB.out | apply below_alloc | apply pw_below_drewN | apply below_drew1 | refine below_set ?_ GE195.out | refine below_set ?_ GE196.out) | exact HB.out)) hb)
       clear BK195
       clear BK196
       clear HB
       have BK195 := n0_
       have BK196 := n1_
       have HB := n2_
       clear n0_ n1_ n2_
       (try clear hb)
       (try clear hb2)
       (try clear hk)
       (try clear hi)
       refine hK.out _ _ ⟨(blk_cell BK195.out 0).trans rfl, (blk_cell BK195.out 1).trans rfl, (blk_cell BK195.out 2).trans rfl, (blk_cell BK195.out 3).trans rfl, (blk_cell BK195.out 4).trans rfl, (blk_cell BK195.out 5).trans rfl, (blk_cell BK196.out 0).trans rfl, (blk_cell BK196.out 1).trans rfl, (blk_cell BK196.out 2).trans rfl, (blk_cell BK196.out 3).trans rfl, (blk_cell BK196.out 4).trans rfl⟩ (fun hHeld => ?_)
       clear hK K
       refine norm_ (a' := ?_) ?_ ?_
       rotate_left
       ·
        show Act.put _ (some 17) _ = _
        simp only [Act.put, List.setIfInBounds_toArray, List.set_cons_zero, List.set_cons_succ, i64_w, i32_w]
        rfl
       refine pure_ (i := 2) (N := some 18) (v := ?_) (a' := ?_) #[true, true, true, false, false, false, false, false, false, false, false, false, false, false, false, false, false, false, false, false, false, false, false, false, false, false] rfl rfl (any_of HT_.out (by kernel_rfl)) (fun _ _ _ h => h) (Or.inl ⟨by rfl, ?_⟩) ?_ ?_
       rotate_left
       ·
        intro w'
        go_simp
        with_reducible rfl
       rotate_left
       ·
        simp only [Act.put, List.setIfInBounds_toArray, List.set_cons_zero, List.set_cons_succ, i64_w, i32_w]
        rfl
       refine pure_ (i := 3) (N := some 19) (v := ?_) (a' := ?_) #[true, true, true, true, false, false, false, false, false, false, false, false, false, false, false, false, false, false, false, false, false, false, false, false, false, false] rfl rfl (any_of HT_.out (by kernel_rfl)) (fun _ _ _ h => h) (Or.inl ⟨by rfl, ?_⟩) ?_ ?_
       rotate_left
       ·
        intro w'
        go_simp
        with_reducible rfl
       rotate_left
       ·
        simp only [Act.put, List.setIfInBounds_toArray, List.set_cons_zero, List.set_cons_succ, i64_w, i32_w]
        rfl
       refine take_ (i := 4) (N := some 20) (v := ?_) (a' := ?_) #[true, true, true, true, true, false, false, false, false, false, false, false, false, false, false, false, false, false, false, false, false, false, false, false, false, false] rfl rfl (take_ofW HT_.out HW_.out (by kernel_rfl)) (fun _ _ _ h => h) (Or.inl ⟨by rfl, ?_⟩) hHeld ?_ ?_
       rotate_left
       ·
        rintro w' ⟨s0, s1, s2, s3, s4, s5, s6, s7, s8, s9, s10⟩
        go_simp
        with_reducible rfl
       rotate_left
       ·
        simp only [Act.put, List.setIfInBounds_toArray, List.set_cons_zero, List.set_cons_succ, i64_w, i32_w]
        rfl
       refine one_ (i := 5) (N := some 21) #[true, true, true, true, true, true, false, false, false, false, false, false, false, false, false, false, false, false, false, false, false, false, false, false, false, false] rfl rfl (one_of HT_.out (by kernel_rfl)) (by decide) (fun K hK => ?_)
       refine Kd.R_lit_step k26 _ 26 ?hg (N := 21) ?hd (xs := ([(⟨a1_0, a1_1, a1_2, (⟨#[]⟩ : ByteArray), a1_4⟩ : S26)] : List (S26))) (inner := [.int .u64 a1_0, .int .u64 a1_1, .int .u64 a1_2, .string (⟨#[]⟩ : ByteArray), .string a1_4]) (ok := fun _ => True) (okp := fun _ => True) ?hr ?hp (fun _ hk => hk) trivial (Below.refl _ _) (Nat.le_refl _) (by simp) ?_; (case hd => rfl); (case hg => rfl); (case hr => first | (go_simp; done) | (go_simp; rfl) | (go_simp; simp [u8w]; done)); (case hp => exact (Reps.c5 (show Kd.M k26 _ _ _ (⟨a1_0, a1_1, a1_2, (⟨#[]⟩ : ByteArray), a1_4⟩ : S26) [.int .u64 a1_0, .int .u64 a1_1, .int .u64 a1_2, .string (⟨#[]⟩ : ByteArray), .string a1_4] from (k26_mkM _ _ _ (⟨a1_0, a1_1, a1_2, (⟨#[]⟩ : ByteArray), a1_4⟩ : S26) )) (Reps.none _ _)))
       intro v201 w32 ho33 hb hg_ hnew_
       clear hg_ hnew_
       (first | rw [← Ny200.out] at ho33 | (simp only [Int.reduceToNat] at ho33; rw [← Ny200.out] at ho33))
       have n0_ := Aside0.mk (Kd.R_lower (Kd.R_newB ho33 (g := gb196) (o := .cells #[.int .u64 a1_0, .int .u64 a1_1, .int .u64 a1_2, .string (⟨#[]⟩ : ByteArray), .string a1_4] 26 (0, 0)) (by (with_reducible repeat (first | refine blk_drewN ?_ _ | refine blk_drew ?_ | refine blk_alloc ?_ _)); exact BK196.out)) (below_size (by repeat (first | (with_reducible first | exact HB.out | apply below_alloc | apply pw_below_drewN | apply below_drew1 | refine below_set ?_ GE195.out | refine below_set ?_ GE196.out) | exact HB.out))))
       have n1_ := Aside0.mk (blk_below (g := gb195) (o := .cells #[.int .i64 a0_0, .int .i64 a0_1, .int .u64 a0_2, .int .u64 a0_3, .int .u64 a0_4, .string a0_5] 24 (0, 0)) (by (with_reducible repeat (first | refine blk_drewN ?_ _ | refine blk_drew ?_ | refine blk_alloc ?_ _)); exact BK195.out) hb)
       have n2_ := Aside0.mk (blk_below (g := gb196) (o := .cells #[.int .u64 a1_0, .int .u64 a1_1, .int .u64 a1_2, .string (⟨#[]⟩ : ByteArray), .string a1_4] 26 (0, 0)) (by (with_reducible repeat (first | refine blk_drewN ?_ _ | refine blk_drew ?_ | refine blk_alloc ?_ _)); exact BK196.out) hb)
       have n3_ := Aside0.mk (below_step (by repeat (first | (with_reducible first | exact HB.out | apply below_alloc | apply pw_below_drewN | apply below_drew1 | refine below_set ?_ GE195.out | refine below_set ?_ GE196.out) | exact HB.out)) hb)
       clear BK195
       clear BK196
       clear HB
       have HO202 := n0_
       have BK195 := n1_
       have BK196 := n2_
       have HB := n3_
       clear n0_ n1_ n2_ n3_
       clear hb ho33
       obtain ⟨Ao34, co34, eo34⟩ := Kd.R_slice HO202.out
       (first | subst eo34 | (injection eo34 with f1_ f2_ f3_; have f4_ := f1_.symm; have f5_ := f3_.symm; clear f1_ f2_ f3_; subst f4_; subst f5_))
       refine hK.out _ _ ⟨(blk_cell BK195.out 0).trans rfl, (blk_cell BK195.out 1).trans rfl, (blk_cell BK195.out 2).trans rfl, (blk_cell BK195.out 3).trans rfl, (blk_cell BK195.out 4).trans rfl, (blk_cell BK195.out 5).trans rfl, (blk_cell BK196.out 0).trans rfl, (blk_cell BK196.out 1).trans rfl, (blk_cell BK196.out 2).trans rfl, (blk_cell BK196.out 3).trans rfl, (blk_cell BK196.out 4).trans rfl⟩ (fun hHeld => ?_)
       clear hK K
       refine norm_ (a' := ?_) ?_ ?_
       rotate_left
       ·
        show Act.put _ (some 21) _ = _
        simp only [Act.put, List.setIfInBounds_toArray, List.set_cons_zero, List.set_cons_succ, i64_w, i32_w]
        rfl
       refine one_ (i := 6) (N := some 22) #[true, true, true, true, true, true, true, false, false, false, false, false, false, false, false, false, false, false, false, false, false, false, false, false, false, false] rfl rfl (one_of HT_.out (by kernel_rfl)) (by decide) (fun K hK => ?_)
       refine goes_ Tryd.func16 (by kernel_rfl) rfl #[.slice Ao34 y200.length co34] (by rfl) rfl rfl (by (try simp only [List.map_toArray, List.map_cons, List.map_nil]); first | done | rfl | (simp only [List.length_drop, List.length_take]; rfl)) ?_
       with_reducible refine (laws_svGood.calls kj3 _ _ y200 true _ ?side1 ?side2 A21.out).mono ?_
       (case side1 => repeat (first | exact (Kd.R_reads' HO202.out).2.2 | (with_reducible refine Kd.C_alloc ?_ _) | (with_reducible refine Kd.C_drewN ?_ _) | (with_reducible refine Kd.C_drew ?_)))
       (case side2 => exact (Kd.R_reads' HO202.out).2.1)
       rintro e w35 ⟨rfl, hb⟩
       refine ⟨_, rfl, ?_⟩
       have n0_ := Aside0.mk (Kd.R_below (by (with_reducible repeat (first | apply Kd.R_alloc | apply Kd.R_drewN | apply Kd.R_drew)); exact HO202.out) hb)
       have n1_ := Aside0.mk (blk_below (g := gb195) (o := .cells #[.int .i64 a0_0, .int .i64 a0_1, .int .u64 a0_2, .int .u64 a0_3, .int .u64 a0_4, .string a0_5] 24 (0, 0)) (by (with_reducible repeat (first | refine blk_drewN ?_ _ | refine blk_drew ?_ | refine blk_alloc ?_ _)); exact BK195.out) hb)
       have n2_ := Aside0.mk (blk_below (g := gb196) (o := .cells #[.int .u64 a1_0, .int .u64 a1_1, .int .u64 a1_2, .string (⟨#[]⟩ : ByteArray), .string a1_4] 26 (0, 0)) (by (with_reducible repeat (first | refine blk_drewN ?_ _ | refine blk_drew ?_ | refine blk_alloc ?_ _)); exact BK196.out) hb)
       have n3_ := Aside0.mk (below_step (by repeat (first | (with_reducible first | exact HB.out | apply below_alloc | apply pw_below_drewN | apply below_drew1 | refine below_set ?_ GE195.out | refine below_set ?_ GE196.out) | exact HB.out)) hb)
       clear HO202
       clear BK195
       clear BK196
       clear HB
       have HO202 := n0_
       have BK195 := n1_
       have BK196 := n2_
       have HB := n3_
       clear n0_ n1_ n2_ n3_
       (try clear hb)
       (try clear hb2)
       (try clear hk)
       (try clear hi)
       refine hK.out _ _ ⟨(blk_cell BK195.out 0).trans rfl, (blk_cell BK195.out 1).trans rfl, (blk_cell BK195.out 2).trans rfl, (blk_cell BK195.out 3).trans rfl, (blk_cell BK195.out 4).trans rfl, (blk_cell BK195.out 5).trans rfl, (blk_cell BK196.out 0).trans rfl, (blk_cell BK196.out 1).trans rfl, (blk_cell BK196.out 2).trans rfl, (blk_cell BK196.out 3).trans rfl, (blk_cell BK196.out 4).trans rfl⟩ (fun hHeld => ?_)
       clear hK K
       refine norm_ (a' := ?_) ?_ ?_
       rotate_left
       ·
        show Act.put _ (some 22) _ = _
        simp only [Act.put, List.setIfInBounds_toArray, List.set_cons_zero, List.set_cons_succ, i64_w, i32_w]
        rfl
       refine pure_ (i := 7) (N := some 23) (v := ?_) (a' := ?_) #[true, true, true, true, true, true, true, true, false, false, false, false, false, false, false, false, false, false, false, false, false, false, false, false, false, false] rfl rfl (any_of HT_.out (by kernel_rfl)) (fun _ _ _ h => h) (Or.inl ⟨by rfl, ?_⟩) ?_ ?_
       rotate_left
       ·
        intro w'
        go_simp
        with_reducible rfl
       rotate_left
       ·
        simp only [Act.put, List.setIfInBounds_toArray, List.set_cons_zero, List.set_cons_succ, i64_w, i32_w]
        rfl
       refine pure_ (i := 8) (N := some 24) (v := ?_) (a' := ?_) #[true, true, true, true, true, true, true, true, true, false, false, false, false, false, false, false, false, false, false, false, false, false, false, false, false, false] rfl rfl (any_of HT_.out (by kernel_rfl)) (fun _ _ _ h => h) (Or.inl ⟨by rfl, ?_⟩) ?_ ?_
       rotate_left
       ·
        intro w'
        go_simp
        with_reducible rfl
       rotate_left
       ·
        simp only [Act.put, List.setIfInBounds_toArray, List.set_cons_zero, List.set_cons_succ, i64_w, i32_w]
        rfl
       refine pure_ (i := 9) (N := some 25) (v := ?_) (a' := ?_) #[true, true, true, true, true, true, true, true, true, true, false, false, false, false, false, false, false, false, false, false, false, false, false, false, false, false] rfl rfl (any_of HT_.out (by kernel_rfl)) (fun _ _ _ h => h) (Or.inl ⟨by rfl, ?_⟩) ?_ ?_
       rotate_left
       ·
        intro w'
        go_simp
        with_reducible rfl
       rotate_left
       ·
        simp only [Act.put, List.setIfInBounds_toArray, List.set_cons_zero, List.set_cons_succ, i64_w, i32_w]
        rfl
       refine take_ (i := 10) (N := some 26) (v := ?_) (a' := ?_) #[true, true, true, true, true, true, true, true, true, true, true, false, false, false, false, false, false, false, false, false, false, false, false, false, false, false] rfl rfl (take_ofW HT_.out HW_.out (by kernel_rfl)) (fun _ _ _ h => h) (Or.inl ⟨by rfl, ?_⟩) hHeld ?_ ?_
       rotate_left
       ·
        rintro w' ⟨s0, s1, s2, s3, s4, s5, s6, s7, s8, s9, s10⟩
        go_simp
        with_reducible rfl
       rotate_left
       ·
        simp only [Act.put, List.setIfInBounds_toArray, List.set_cons_zero, List.set_cons_succ, i64_w, i32_w]
        rfl
       refine take_ (i := 11) (N := some 27) (v := ?_) (a' := ?_) #[true, true, true, true, true, true, true, true, true, true, true, true, false, false, false, false, false, false, false, false, false, false, false, false, false, false] rfl rfl (take_ofW HT_.out HW_.out (by kernel_rfl)) (fun _ _ _ h => h) (Or.inl ⟨by rfl, ?_⟩) hHeld ?_ ?_
       rotate_left
       ·
        rintro w' ⟨s0, s1, s2, s3, s4, s5, s6, s7, s8, s9, s10⟩
        go_simp
        with_reducible rfl
       rotate_left
       ·
        simp only [Act.put, List.setIfInBounds_toArray, List.set_cons_zero, List.set_cons_succ, i64_w, i32_w]
        rfl
       refine one_ (i := 12) (N := some 28) #[true, true, true, true, true, true, true, true, true, true, true, true, true, false, false, false, false, false, false, false, false, false, false, false, false, false] rfl rfl (one_of HT_.out (by kernel_rfl)) (by decide) (fun K hK => ?_)
       refine goes_ Tryd.func17 (by kernel_rfl) rfl #[.agg #[.int .i64 a0_0, .int .i64 a0_1, .int .u64 a0_2, .int .u64 a0_3, .int .u64 a0_4, .string a0_5], .agg #[.int .u64 a1_0, .int .u64 a1_1, .int .u64 a1_2, .string (⟨#[]⟩ : ByteArray), .string a1_4]] (by rfl) rfl rfl (by (try simp only [List.map_toArray, List.map_cons, List.map_nil]); first | done | rfl | (simp only [List.length_drop, List.length_take]; rfl)) ?_
       with_reducible refine (spec_Spoken.calls kj3 a0_0 a0_1 a0_2 a0_3 a0_4 a0_5 a1_0 a1_1 a1_2 (⟨#[]⟩ : ByteArray) a1_4 true _ A23.out).mono ?_
       rintro e w36 ⟨rfl, hb⟩
       refine ⟨_, rfl, ?_⟩
       have n0_ := Aside0.mk (Kd.R_below (by (with_reducible repeat (first | apply Kd.R_alloc | apply Kd.R_drewN | apply Kd.R_drew)); exact HO202.out) hb)
       have n1_ := Aside0.mk (blk_below (g := gb195) (o := .cells #[.int .i64 a0_0, .int .i64 a0_1, .int .u64 a0_2, .int .u64 a0_3, .int .u64 a0_4, .string a0_5] 24 (0, 0)) (by (with_reducible repeat (first | refine blk_drewN ?_ _ | refine blk_drew ?_ | refine blk_alloc ?_ _)); exact BK195.out) hb)
       have n2_ := Aside0.mk (blk_below (g := gb196) (o := .cells #[.int .u64 a1_0, .int .u64 a1_1, .int .u64 a1_2, .string (⟨#[]⟩ : ByteArray), .string a1_4] 26 (0, 0)) (by (with_reducible repeat (first | refine blk_drewN ?_ _ | refine blk_drew ?_ | refine blk_alloc ?_ _)); exact BK196.out) hb)
       have n3_ := Aside0.mk (below_step (by repeat (first | (with_reducible first | exact HB.out | apply below_alloc | apply pw_below_drewN | apply below_drew1 | refine below_set ?_ GE195.out | refine below_set ?_ GE196.out) | exact HB.out)) hb)
       clear HO202
       clear BK195
       clear BK196
       clear HB
       have HO202 := n0_
       have BK195 := n1_
       have BK196 := n2_
       have HB := n3_
       clear n0_ n1_ n2_ n3_
       (try clear hb)
       (try clear hb2)
       (try clear hk)
       (try clear hi)
       refine hK.out _ _ ⟨(blk_cell BK195.out 0).trans rfl, (blk_cell BK195.out 1).trans rfl, (blk_cell BK195.out 2).trans rfl, (blk_cell BK195.out 3).trans rfl, (blk_cell BK195.out 4).trans rfl, (blk_cell BK195.out 5).trans rfl, (blk_cell BK196.out 0).trans rfl, (blk_cell BK196.out 1).trans rfl, (blk_cell BK196.out 2).trans rfl, (blk_cell BK196.out 3).trans rfl, (blk_cell BK196.out 4).trans rfl⟩ (fun hHeld => ?_)
       clear hK K
       refine norm_ (a' := ?_) ?_ ?_
       rotate_left
       ·
        show Act.put _ (some 28) _ = _
        simp only [Act.put, List.setIfInBounds_toArray, List.set_cons_zero, List.set_cons_succ, i64_w, i32_w]
        rfl
       refine pure_ (i := 13) (N := some 29) (v := ?_) (a' := ?_) #[true, true, true, true, true, true, true, true, true, true, true, true, true, true, false, false, false, false, false, false, false, false, false, false, false, false] rfl rfl (any_of HT_.out (by kernel_rfl)) (fun _ _ _ h => h) (Or.inl ⟨by rfl, ?_⟩) ?_ ?_
       rotate_left
       ·
        intro w'
        go_simp
        with_reducible rfl
       rotate_left
       ·
        simp only [Act.put, List.setIfInBounds_toArray, List.set_cons_zero, List.set_cons_succ, i64_w, i32_w]
        rfl
       refine pure_ (i := 14) (N := some 30) (v := ?_) (a' := ?_) #[true, true, true, true, true, true, true, true, true, true, true, true, true, true, true, false, false, false, false, false, false, false, false, false, false, false] rfl rfl (any_of HT_.out (by kernel_rfl)) (fun _ _ _ h => h) (Or.inl ⟨by rfl, ?_⟩) ?_ ?_
       rotate_left
       ·
        intro w'
        go_simp
        with_reducible rfl
       rotate_left
       ·
        simp only [Act.put, List.setIfInBounds_toArray, List.set_cons_zero, List.set_cons_succ, i64_w, i32_w]
        rfl
       refine pure_ (i := 15) (N := some 31) (v := ?_) (a' := ?_) #[true, true, true, true, true, true, true, true, true, true, true, true, true, true, true, true, false, false, false, false, false, false, false, false, false, false] rfl rfl (any_of HT_.out (by kernel_rfl)) (fun _ _ _ h => h) (Or.inl ⟨by rfl, ?_⟩) ?_ ?_
       rotate_left
       ·
        intro w'
        go_simp
        with_reducible rfl
       rotate_left
       ·
        simp only [Act.put, List.setIfInBounds_toArray, List.set_cons_zero, List.set_cons_succ, i64_w, i32_w]
        rfl
       refine pure_ (i := 18) (N := some 34) (v := ?_) (a' := ?_) #[true, true, true, true, true, true, true, true, true, true, true, true, true, true, true, true, false, false, true, false, false, false, false, false, false, false] rfl rfl (any_of HT_.out (by kernel_rfl)) (fun _ _ _ h => h) (Or.inl ⟨by rfl, ?_⟩) ?_ ?_
       rotate_left
       ·
        intro w'
        go_simp
        with_reducible rfl
       rotate_left
       ·
        simp only [Act.put, List.setIfInBounds_toArray, List.set_cons_zero, List.set_cons_succ, i64_w, i32_w]
        rfl
       refine take_ (i := 16) (N := some 32) (v := ?_) (a' := ?_) #[true, true, true, true, true, true, true, true, true, true, true, true, true, true, true, true, true, false, true, false, false, false, false, false, false, false] rfl rfl (take_ofW HT_.out HW_.out (by kernel_rfl)) (fun _ _ _ h => h) (Or.inl ⟨by rfl, ?_⟩) hHeld ?_ ?_
       rotate_left
       ·
        rintro w' ⟨s0, s1, s2, s3, s4, s5, s6, s7, s8, s9, s10⟩
        go_simp
        with_reducible rfl
       rotate_left
       ·
        simp only [Act.put, List.setIfInBounds_toArray, List.set_cons_zero, List.set_cons_succ, i64_w, i32_w]
        rfl
       refine take_ (i := 17) (N := some 33) (v := ?_) (a' := ?_) #[true, true, true, true, true, true, true, true, true, true, true, true, true, true, true, true, true, true, true, false, false, false, false, false, false, false] rfl rfl (take_ofW HT_.out HW_.out (by kernel_rfl)) (fun _ _ _ h => h) (Or.inl ⟨by rfl, ?_⟩) hHeld ?_ ?_
       rotate_left
       ·
        rintro w' ⟨s0, s1, s2, s3, s4, s5, s6, s7, s8, s9, s10⟩
        go_simp
        with_reducible rfl
       rotate_left
       ·
        simp only [Act.put, List.setIfInBounds_toArray, List.set_cons_zero, List.set_cons_succ, i64_w, i32_w]
        rfl
       refine take_ (i := 20) (N := some 36) (v := ?_) (a' := ?_) #[true, true, true, true, true, true, true, true, true, true, true, true, true, true, true, true, true, true, true, false, true, false, false, false, false, false] rfl rfl (take_ofW HT_.out HW_.out (by kernel_rfl)) (fun _ _ _ h => h) (Or.inl ⟨by rfl, ?_⟩) hHeld ?_ ?_
       rotate_left
       ·
        rintro w' ⟨s0, s1, s2, s3, s4, s5, s6, s7, s8, s9, s10⟩
        go_simp
        with_reducible rfl
       rotate_left
       ·
        simp only [Act.put, List.setIfInBounds_toArray, List.set_cons_zero, List.set_cons_succ, i64_w, i32_w]
        rfl
       refine take_ (i := 21) (N := some 37) (v := ?_) (a' := ?_) #[true, true, true, true, true, true, true, true, true, true, true, true, true, true, true, true, true, true, true, false, true, true, false, false, false, false] rfl rfl (take_ofW HT_.out HW_.out (by kernel_rfl)) (fun _ _ _ h => h) (Or.inl ⟨by rfl, ?_⟩) hHeld ?_ ?_
       rotate_left
       ·
        rintro w' ⟨s0, s1, s2, s3, s4, s5, s6, s7, s8, s9, s10⟩
        go_simp
        with_reducible rfl
       rotate_left
       ·
        simp only [Act.put, List.setIfInBounds_toArray, List.set_cons_zero, List.set_cons_succ, i64_w, i32_w]
        rfl
       refine one_ (i := 19) (N := some 35) #[true, true, true, true, true, true, true, true, true, true, true, true, true, true, true, true, true, true, true, true, true, true, false, false, false, false] rfl rfl (one_of HT_.out (by kernel_rfl)) (by decide) (fun K hK => ?_)
       refine goes_ Tryd.func18 (by kernel_rfl) rfl #[.agg #[.int .i64 a0_0, .int .i64 a0_1, .int .u64 a0_2, .int .u64 a0_3, .int .u64 a0_4, .string a0_5], .agg #[.int .u64 a1_0, .int .u64 a1_1, .int .u64 a1_2, .string (⟨#[]⟩ : ByteArray), .string a1_4], .bool a2] (by rfl) rfl rfl (by (try simp only [List.map_toArray, List.map_cons, List.map_nil]); first | done | rfl | (simp only [List.length_drop, List.length_take]; rfl)) ?_
       with_reducible refine (impl_TermHolds.calls a0_0 a0_1 a0_2 a0_3 a0_4 a0_5 a1_0 a1_1 a1_2 (⟨#[]⟩ : ByteArray) a1_4 a2 t205 _ ?side1 A25.out).mono ?_
       (case side1 => exact HStd.out.below (by repeat (first | (with_reducible first | exact HB.out | apply below_alloc | apply pw_below_drewN | apply below_drew1 | refine below_set ?_ GE195.out | refine below_set ?_ GE196.out) | exact HB.out)))
       rintro e w37 ⟨rfl, hb⟩
       refine ⟨_, rfl, ?_⟩
       have n0_ := Aside0.mk (Kd.R_below (by (with_reducible repeat (first | apply Kd.R_alloc | apply Kd.R_drewN | apply Kd.R_drew)); exact HO202.out) hb)
       have n1_ := Aside0.mk (blk_below (g := gb195) (o := .cells #[.int .i64 a0_0, .int .i64 a0_1, .int .u64 a0_2, .int .u64 a0_3, .int .u64 a0_4, .string a0_5] 24 (0, 0)) (by (with_reducible repeat (first | refine blk_drewN ?_ _ | refine blk_drew ?_ | refine blk_alloc ?_ _)); exact BK195.out) hb)
       have n2_ := Aside0.mk (blk_below (g := gb196) (o := .cells #[.int .u64 a1_0, .int .u64 a1_1, .int .u64 a1_2, .string (⟨#[]⟩ : ByteArray), .string a1_4] 26 (0, 0)) (by (with_reducible repeat (first | refine blk_drewN ?_ _ | refine blk_drew ?_ | refine blk_alloc ?_ _)); exact BK196.out) hb)
       have n3_ := Aside0.mk (below_step (by repeat (first | (with_reducible first | exact HB.out | apply below_alloc | apply pw_below_drewN | apply below_drew1 | refine below_set ?_ GE195.out | refine below_set ?_ GE196.out) | exact HB.out)) hb)
       clear HO202
       clear BK195
       clear BK196
       clear HB
       have HO202 := n0_
       have BK195 := n1_
       have BK196 := n2_
       have HB := n3_
       clear n0_ n1_ n2_ n3_
       (try clear hb)
       (try clear hb2)
       (try clear hk)
       (try clear hi)
       refine hK.out _ _ ⟨(blk_cell BK195.out 0).trans rfl, (blk_cell BK195.out 1).trans rfl, (blk_cell BK195.out 2).trans rfl, (blk_cell BK195.out 3).trans rfl, (blk_cell BK195.out 4).trans rfl, (blk_cell BK195.out 5).trans rfl, (blk_cell BK196.out 0).trans rfl, (blk_cell BK196.out 1).trans rfl, (blk_cell BK196.out 2).trans rfl, (blk_cell BK196.out 3).trans rfl, (blk_cell BK196.out 4).trans rfl⟩ (fun hHeld => ?_)
       clear hK K
       refine norm_ (a' := ?_) ?_ ?_
       rotate_left
       ·
        show Act.put _ (some 35) _ = _
        simp only [Act.put, List.setIfInBounds_toArray, List.set_cons_zero, List.set_cons_succ, i64_w, i32_w]
        rfl
       refine one_ (i := 22) (N := some 38) #[true, true, true, true, true, true, true, true, true, true, true, true, true, true, true, true, true, true, true, true, true, true, true, false, false, false] rfl rfl (one_of HT_.out (by kernel_rfl)) (by decide) (fun K hK => ?_)
       refine goes_ Tryd.func19 (by kernel_rfl) rfl #[.agg #[.int .i64 a0_0, .int .i64 a0_1, .int .u64 a0_2, .int .u64 a0_3, .int .u64 a0_4, .string a0_5], .agg #[.int .u64 a1_0, .int .u64 a1_1, .int .u64 a1_2, .string (⟨#[]⟩ : ByteArray), .string a1_4]] (by rfl) rfl rfl (by (try simp only [List.map_toArray, List.map_cons, List.map_nil]); first | done | rfl | (simp only [List.length_drop, List.length_take]; rfl)) ?_
       with_reducible refine (spec_Compares.calls kj3 a0_0 a0_1 a0_2 a0_3 a0_4 a0_5 a1_0 a1_1 a1_2 (⟨#[]⟩ : ByteArray) a1_4 t206 _ A26.out).mono ?_
       rintro e w38 ⟨rfl, hb⟩
       refine ⟨_, rfl, ?_⟩
       have n0_ := Aside0.mk (Kd.R_below (by (with_reducible repeat (first | apply Kd.R_alloc | apply Kd.R_drewN | apply Kd.R_drew)); exact HO202.out) hb)
       have n1_ := Aside0.mk (blk_below (g := gb195) (o := .cells #[.int .i64 a0_0, .int .i64 a0_1, .int .u64 a0_2, .int .u64 a0_3, .int .u64 a0_4, .string a0_5] 24 (0, 0)) (by (with_reducible repeat (first | refine blk_drewN ?_ _ | refine blk_drew ?_ | refine blk_alloc ?_ _)); exact BK195.out) hb)
       have n2_ := Aside0.mk (blk_below (g := gb196) (o := .cells #[.int .u64 a1_0, .int .u64 a1_1, .int .u64 a1_2, .string (⟨#[]⟩ : ByteArray), .string a1_4] 26 (0, 0)) (by (with_reducible repeat (first | refine blk_drewN ?_ _ | refine blk_drew ?_ | refine blk_alloc ?_ _)); exact BK196.out) hb)
       have n3_ := Aside0.mk (below_step (by repeat (first | (with_reducible first | exact HB.out | apply below_alloc | apply pw_below_drewN | apply below_drew1 | refine below_set ?_ GE195.out | refine below_set ?_ GE196.out) | exact HB.out)) hb)
       clear HO202
       clear BK195
       clear BK196
       clear HB
       have HO202 := n0_
       have BK195 := n1_
       have BK196 := n2_
       have HB := n3_
       clear n0_ n1_ n2_ n3_
       (try clear hb)
       (try clear hb2)
       (try clear hk)
       (try clear hi)
       refine hK.out _ _ ⟨(blk_cell BK195.out 0).trans rfl, (blk_cell BK195.out 1).trans rfl, (blk_cell BK195.out 2).trans rfl, (blk_cell BK195.out 3).trans rfl, (blk_cell BK195.out 4).trans rfl, (blk_cell BK195.out 5).trans rfl, (blk_cell BK196.out 0).trans rfl, (blk_cell BK196.out 1).trans rfl, (blk_cell BK196.out 2).trans rfl, (blk_cell BK196.out 3).trans rfl, (blk_cell BK196.out 4).trans rfl⟩ (fun hHeld => ?_)
       clear hK K
       refine norm_ (a' := ?_) ?_ ?_
       rotate_left
       ·
        show Act.put _ (some 38) _ = _
        simp only [Act.put, List.setIfInBounds_toArray, List.set_cons_zero, List.set_cons_succ, i64_w, i32_w]
        rfl
       refine pure_ (i := 23) (N := some 39) (v := ?_) (a' := ?_) #[true, true, true, true, true, true, true, true, true, true, true, true, true, true, true, true, true, true, true, true, true, true, true, true, false, false] rfl rfl (any_of HT_.out (by kernel_rfl)) (fun _ _ _ h => h) (Or.inl ⟨by rfl, ?_⟩) ?_ ?_
       rotate_left
       ·
        intro w'
        go_simp
        with_reducible rfl
       rotate_left
       ·
        simp only [Act.put, List.setIfInBounds_toArray, List.set_cons_zero, List.set_cons_succ, i64_w, i32_w]
        rfl
       refine pure_ (i := 24) (N := some 40) (v := ?_) (a' := ?_) #[true, true, true, true, true, true, true, true, true, true, true, true, true, true, true, true, true, true, true, true, true, true, true, true, true, false] rfl rfl (any_of HT_.out (by kernel_rfl)) (fun _ _ _ h => h) (Or.inl ⟨by rfl, ?_⟩) ?_ ?_
       rotate_left
       ·
        intro w'
        go_simp
        with_reducible rfl
       rotate_left
       ·
        simp only [Act.put, List.setIfInBounds_toArray, List.set_cons_zero, List.set_cons_succ, i64_w, i32_w]
        rfl
       refine pure_ (i := 25) (N := some 6) (v := ?_) (a' := ?_) #[true, true, true, true, true, true, true, true, true, true, true, true, true, true, true, true, true, true, true, true, true, true, true, true, true, true] rfl rfl (any_of HT_.out (by kernel_rfl)) (fun _ _ _ h => h) (Or.inl ⟨by rfl, ?_⟩) ?_ ?_
       rotate_left
       ·
        intro w'
        go_simp
        with_reducible rfl
       rotate_left
       ·
        simp only [Act.put, List.setIfInBounds_toArray, List.set_cons_zero, List.set_cons_succ, i64_w, i32_w]
        rfl
       refine done_ (done_of HT_.out (by kernel_rfl)) ?_
       try go_wp2
       go_ret
       exact ⟨by first | rfl | (simp [errW_none, errW_some] <;> rfl) | (simp [*, errW_none, errW_some] <;> rfl) | (simp [bneNil]; done), by repeat (first | (with_reducible first | exact HB.out | apply below_alloc | apply pw_below_drewN | apply below_drew1 | refine below_set ?_ GE195.out | refine below_set ?_ GE196.out) | exact HB.out)⟩
      ·
       replace c24 := Bool.eq_false_iff.mpr c24
       subst c24
       have H1 : (some true) = some r := by rw [if_neg (show ¬ (false = true) by decide)] at H; exact H
       clear H
       have H := H1
       clear H1
       obtain rfl := Option.some.inj H
       have hnb39 := NB196_195.out
       have hnc39 := NB195_196.out
       have hcz40_0 : wc.cell? ⟨gb196, 0, none⟩ = some (.int .u64 a1_0) := (blk_cell BK196.out 0).trans rfl
       have hcz40_1 : wc.cell? ⟨gb196, 1, none⟩ = some (.int .u64 a1_1) := (blk_cell BK196.out 1).trans rfl
       have hcz40_2 : wc.cell? ⟨gb196, 2, none⟩ = some (.int .u64 a1_2) := (blk_cell BK196.out 2).trans rfl
       have hcz40_3 : wc.cell? ⟨gb196, 3, none⟩ = some (.string a1_3) := (blk_cell BK196.out 3).trans rfl
       have hcz40_4 : wc.cell? ⟨gb196, 4, none⟩ = some (.string a1_4) := (blk_cell BK196.out 4).trans rfl
       have hfz40_0 := blk_frozen BK196.out 0
       have hfz40_1 := blk_frozen BK196.out 1
       have hfz40_2 := blk_frozen BK196.out 2
       have hfz40_3 := blk_frozen BK196.out 3
       have hfz40_4 := blk_frozen BK196.out 4
       try go_wp2
       have n0_ : Aside0 ((wc.setCell ⟨gb196, 3, none⟩ (.string (⟨#[]⟩ : ByteArray))).heap[gb195]? = some (.cells #[.int .i64 a0_0, .int .i64 a0_1, .int .u64 a0_2, .int .u64 a0_3, .int .u64 a0_4, .string a0_5] 24 (0, 0))) := ⟨by (with_reducible repeat (first | refine blk_drewN ?_ _ | refine blk_drew ?_ | refine blk_alloc ?_ _)); refine blk_far ?_ NB195_196.out _; (with_reducible repeat (first | refine blk_drewN ?_ _ | refine blk_drew ?_ | refine blk_alloc ?_ _)); exact BK195.out⟩
       have n1_ : Aside0 ((wc.setCell ⟨gb196, 3, none⟩ (.string (⟨#[]⟩ : ByteArray))).heap[gb196]? = some (.cells #[.int .u64 a1_0, .int .u64 a1_1, .int .u64 a1_2, .string (⟨#[]⟩ : ByteArray), .string a1_4] 26 (0, 0))) := ⟨by (with_reducible repeat (first | refine blk_drewN ?_ _ | refine blk_drew ?_ | refine blk_alloc ?_ _)); refine blk_put (cs := #[.int .u64 a1_0, .int .u64 a1_1, .int .u64 a1_2, .string a1_3, .string a1_4]) ?_ 3 _ rfl; (with_reducible repeat (first | refine blk_drewN ?_ _ | refine blk_drew ?_ | refine blk_alloc ?_ _)); exact BK196.out⟩
       have n2_ : Aside0 (Below w.heap.size w (wc.setCell ⟨gb196, 3, none⟩ (.string (⟨#[]⟩ : ByteArray)))) := ⟨by repeat (first | (with_reducible first | exact HB.out | apply below_alloc | apply pw_below_drewN | apply below_drew1 | refine below_set ?_ GE195.out | refine below_set ?_ GE196.out) | exact HB.out)⟩
       (try clear BK195)
       (try clear BK196)
       (try clear HB)
       generalize (wc.setCell ⟨gb196, 3, none⟩ (.string (⟨#[]⟩ : ByteArray))) = w41 at n0_ n1_ n2_ ⊢
       have BK195 := n0_
       have BK196 := n1_
       have HB := n2_
       clear n0_ n1_ n2_
       have n0_ := Aside0.mk (blk_drew BK195.out)
       have n1_ := Aside0.mk (blk_drew BK196.out)
       have n2_ := Aside0.mk (below_drew1 HB.out)
       clear BK195
       clear BK196
       clear HB
       have BK195 := n0_
       have BK196 := n1_
       have HB := n2_
       clear n0_ n1_ n2_
       refine start_ (n := 26) (S := fun w' => w'.cell? ⟨gb195, 0, none⟩ = some (.int .i64 a0_0) ∧ w'.cell? ⟨gb195, 1, none⟩ = some (.int .i64 a0_1) ∧ w'.cell? ⟨gb195, 2, none⟩ = some (.int .u64 a0_2) ∧ w'.cell? ⟨gb195, 3, none⟩ = some (.int .u64 a0_3) ∧ w'.cell? ⟨gb195, 4, none⟩ = some (.int .u64 a0_4) ∧ w'.cell? ⟨gb195, 5, none⟩ = some (.string a0_5) ∧ w'.cell? ⟨gb196, 0, none⟩ = some (.int .u64 a1_0) ∧ w'.cell? ⟨gb196, 1, none⟩ = some (.int .u64 a1_1) ∧ w'.cell? ⟨gb196, 2, none⟩ = some (.int .u64 a1_2) ∧ w'.cell? ⟨gb196, 3, none⟩ = some (.string (⟨#[]⟩ : ByteArray)) ∧ w'.cell? ⟨gb196, 4, none⟩ = some (.string a1_4)) (ds := []) #[false, false, false, false, false, false, false, false, false, false, false, false, false, false, false, false, false, false, false, false, false, false, false, false, false, false] (by kernel_rfl) rfl rfl ⟨(blk_cell BK195.out 0).trans rfl, (blk_cell BK195.out 1).trans rfl, (blk_cell BK195.out 2).trans rfl, (blk_cell BK195.out 3).trans rfl, (blk_cell BK195.out 4).trans rfl, (blk_cell BK195.out 5).trans rfl, (blk_cell BK196.out 0).trans rfl, (blk_cell BK196.out 1).trans rfl, (blk_cell BK196.out 2).trans rfl, (blk_cell BK196.out 3).trans rfl, (blk_cell BK196.out 4).trans rfl⟩ (fun hHeld => ?_); refine with_tabW laws_FnSemverTermHolds.tab4 laws_FnSemverTermHolds.bits4 (fun HT_ HW_ => ?_)
       generalize w41.drew = w42 at BK195 BK196 HB hHeld ⊢
       refine take_ (i := 0) (N := some 16) (v := ?_) (a' := ?_) #[true, false, false, false, false, false, false, false, false, false, false, false, false, false, false, false, false, false, false, false, false, false, false, false, false, false] rfl rfl (take_ofW HT_.out HW_.out (by kernel_rfl)) (fun _ _ _ h => h) (Or.inl ⟨by rfl, ?_⟩) hHeld ?_ ?_
       rotate_left
       ·
        rintro w' ⟨s0, s1, s2, s3, s4, s5, s6, s7, s8, s9, s10⟩
        go_simp
        with_reducible rfl
       rotate_left
       ·
        simp only [Act.put, List.setIfInBounds_toArray, List.set_cons_zero, List.set_cons_succ, i64_w, i32_w]
        rfl
       refine one_ (i := 1) (N := some 17) #[true, true, false, false, false, false, false, false, false, false, false, false, false, false, false, false, false, false, false, false, false, false, false, false, false, false] rfl rfl (one_of HT_.out (by kernel_rfl)) (by decide) (fun K hK => ?_)
       refine goes_ Tryd.func15 (by kernel_rfl) rfl #[.agg #[.int .i64 a0_0, .int .i64 a0_1, .int .u64 a0_2, .int .u64 a0_3, .int .u64 a0_4, .string a0_5]] (by rfl) rfl rfl (by (try simp only [List.map_toArray, List.map_cons, List.map_nil]); first | done | rfl | (simp only [List.length_drop, List.length_take]; rfl)) ?_
       with_reducible refine (spec_GoodTerm.calls kj3 a0_0 a0_1 a0_2 a0_3 a0_4 a0_5 true _ A19.out).mono ?_
       rintro e w43 ⟨rfl, hb⟩
       refine ⟨_, rfl, ?_⟩
       have n0_ := Aside0.mk (blk_below (g := gb195) (o := .cells #[.int .i64 a0_0, .int .i64 a0_1, .int .u64 a0_2, .int .u64 a0_3, .int .u64 a0_4, .string a0_5] 24 (0, 0)) (by (with_reducible repeat (first | refine blk_drewN ?_ _ | refine blk_drew ?_ | refine blk_alloc ?_ _)); exact BK195.out) hb)
       have n1_ := Aside0.mk (blk_below (g := gb196) (o := .cells #[.int .u64 a1_0, .int .u64 a1_1, .int .u64 a1_2, .string (⟨#[]⟩ : ByteArray), .string a1_4] 26 (0, 0)) (by (with_reducible repeat (first | refine blk_drewN ?_ _ | refine blk_drew ?_ | refine blk_alloc ?_ _)); exact BK196.out) hb)
       have n2_ := Aside0.mk (below_step (by repeat (first | (with_reducible first | exact HB.out | apply below_alloc | apply pw_below_drewN | apply below_drew1 | refine below_set ?_ GE195.out | refine below_set ?_ GE196.out) | exact HB.out)) hb)
       clear BK195
       clear BK196
       clear HB
       have BK195 := n0_
       have BK196 := n1_
       have HB := n2_
       clear n0_ n1_ n2_
       (try clear hb)
       (try clear hb2)
       (try clear hk)
       (try clear hi)
       refine hK.out _ _ ⟨(blk_cell BK195.out 0).trans rfl, (blk_cell BK195.out 1).trans rfl, (blk_cell BK195.out 2).trans rfl, (blk_cell BK195.out 3).trans rfl, (blk_cell BK195.out 4).trans rfl, (blk_cell BK195.out 5).trans rfl, (blk_cell BK196.out 0).trans rfl, (blk_cell BK196.out 1).trans rfl, (blk_cell BK196.out 2).trans rfl, (blk_cell BK196.out 3).trans rfl, (blk_cell BK196.out 4).trans rfl⟩ (fun hHeld => ?_)
       clear hK K
       refine norm_ (a' := ?_) ?_ ?_
       rotate_left
       ·
        show Act.put _ (some 17) _ = _
        simp only [Act.put, List.setIfInBounds_toArray, List.set_cons_zero, List.set_cons_succ, i64_w, i32_w]
        rfl
       refine pure_ (i := 2) (N := some 18) (v := ?_) (a' := ?_) #[true, true, true, false, false, false, false, false, false, false, false, false, false, false, false, false, false, false, false, false, false, false, false, false, false, false] rfl rfl (any_of HT_.out (by kernel_rfl)) (fun _ _ _ h => h) (Or.inl ⟨by rfl, ?_⟩) ?_ ?_
       rotate_left
       ·
        intro w'
        go_simp
        with_reducible rfl
       rotate_left
       ·
        simp only [Act.put, List.setIfInBounds_toArray, List.set_cons_zero, List.set_cons_succ, i64_w, i32_w]
        rfl
       refine pure_ (i := 3) (N := some 19) (v := ?_) (a' := ?_) #[true, true, true, true, false, false, false, false, false, false, false, false, false, false, false, false, false, false, false, false, false, false, false, false, false, false] rfl rfl (any_of HT_.out (by kernel_rfl)) (fun _ _ _ h => h) (Or.inl ⟨by rfl, ?_⟩) ?_ ?_
       rotate_left
       ·
        intro w'
        go_simp
        with_reducible rfl
       rotate_left
       ·
        simp only [Act.put, List.setIfInBounds_toArray, List.set_cons_zero, List.set_cons_succ, i64_w, i32_w]
        rfl
       refine take_ (i := 4) (N := some 20) (v := ?_) (a' := ?_) #[true, true, true, true, true, false, false, false, false, false, false, false, false, false, false, false, false, false, false, false, false, false, false, false, false, false] rfl rfl (take_ofW HT_.out HW_.out (by kernel_rfl)) (fun _ _ _ h => h) (Or.inl ⟨by rfl, ?_⟩) hHeld ?_ ?_
       rotate_left
       ·
        rintro w' ⟨s0, s1, s2, s3, s4, s5, s6, s7, s8, s9, s10⟩
        go_simp
        with_reducible rfl
       rotate_left
       ·
        simp only [Act.put, List.setIfInBounds_toArray, List.set_cons_zero, List.set_cons_succ, i64_w, i32_w]
        rfl
       refine one_ (i := 5) (N := some 21) #[true, true, true, true, true, true, false, false, false, false, false, false, false, false, false, false, false, false, false, false, false, false, false, false, false, false] rfl rfl (one_of HT_.out (by kernel_rfl)) (by decide) (fun K hK => ?_)
       refine Kd.R_lit_step k26 _ 26 ?hg (N := 21) ?hd (xs := ([(⟨a1_0, a1_1, a1_2, (⟨#[]⟩ : ByteArray), a1_4⟩ : S26)] : List (S26))) (inner := [.int .u64 a1_0, .int .u64 a1_1, .int .u64 a1_2, .string (⟨#[]⟩ : ByteArray), .string a1_4]) (ok := fun _ => True) (okp := fun _ => True) ?hr ?hp (fun _ hk => hk) trivial (Below.refl _ _) (Nat.le_refl _) (by simp) ?_; (case hd => rfl); (case hg => rfl); (case hr => first | (go_simp; done) | (go_simp; rfl) | (go_simp; simp [u8w]; done)); (case hp => exact (Reps.c5 (show Kd.M k26 _ _ _ (⟨a1_0, a1_1, a1_2, (⟨#[]⟩ : ByteArray), a1_4⟩ : S26) [.int .u64 a1_0, .int .u64 a1_1, .int .u64 a1_2, .string (⟨#[]⟩ : ByteArray), .string a1_4] from (k26_mkM _ _ _ (⟨a1_0, a1_1, a1_2, (⟨#[]⟩ : ByteArray), a1_4⟩ : S26) )) (Reps.none _ _)))
       intro v201 w44 ho45 hb hg_ hnew_
       clear hg_ hnew_
       (first | rw [← Ny200.out] at ho45 | (simp only [Int.reduceToNat] at ho45; rw [← Ny200.out] at ho45))
       have n0_ := Aside0.mk (Kd.R_lower (Kd.R_newB ho45 (g := gb196) (o := .cells #[.int .u64 a1_0, .int .u64 a1_1, .int .u64 a1_2, .string (⟨#[]⟩ : ByteArray), .string a1_4] 26 (0, 0)) (by (with_reducible repeat (first | refine blk_drewN ?_ _ | refine blk_drew ?_ | refine blk_alloc ?_ _)); exact BK196.out)) (below_size (by repeat (first | (with_reducible first | exact HB.out | apply below_alloc | apply pw_below_drewN | apply below_drew1 | refine below_set ?_ GE195.out | refine below_set ?_ GE196.out) | exact HB.out))))
       have n1_ := Aside0.mk (blk_below (g := gb195) (o := .cells #[.int .i64 a0_0, .int .i64 a0_1, .int .u64 a0_2, .int .u64 a0_3, .int .u64 a0_4, .string a0_5] 24 (0, 0)) (by (with_reducible repeat (first | refine blk_drewN ?_ _ | refine blk_drew ?_ | refine blk_alloc ?_ _)); exact BK195.out) hb)
       have n2_ := Aside0.mk (blk_below (g := gb196) (o := .cells #[.int .u64 a1_0, .int .u64 a1_1, .int .u64 a1_2, .string (⟨#[]⟩ : ByteArray), .string a1_4] 26 (0, 0)) (by (with_reducible repeat (first | refine blk_drewN ?_ _ | refine blk_drew ?_ | refine blk_alloc ?_ _)); exact BK196.out) hb)
       have n3_ := Aside0.mk (below_step (by repeat (first | (with_reducible first | exact HB.out | apply below_alloc | apply pw_below_drewN | apply below_drew1 | refine below_set ?_ GE195.out | refine below_set ?_ GE196.out) | exact HB.out)) hb)
       clear BK195
       clear BK196
       clear HB
       have HO202 := n0_
       have BK195 := n1_
       have BK196 := n2_
       have HB := n3_
       clear n0_ n1_ n2_ n3_
       clear hb ho45
       obtain ⟨Ao46, co46, eo46⟩ := Kd.R_slice HO202.out
       (first | subst eo46 | (injection eo46 with f1_ f2_ f3_; have f4_ := f1_.symm; have f5_ := f3_.symm; clear f1_ f2_ f3_; subst f4_; subst f5_))
       refine hK.out _ _ ⟨(blk_cell BK195.out 0).trans rfl, (blk_cell BK195.out 1).trans rfl, (blk_cell BK195.out 2).trans rfl, (blk_cell BK195.out 3).trans rfl, (blk_cell BK195.out 4).trans rfl, (blk_cell BK195.out 5).trans rfl, (blk_cell BK196.out 0).trans rfl, (blk_cell BK196.out 1).trans rfl, (blk_cell BK196.out 2).trans rfl, (blk_cell BK196.out 3).trans rfl, (blk_cell BK196.out 4).trans rfl⟩ (fun hHeld => ?_)
       clear hK K
       refine norm_ (a' := ?_) ?_ ?_
       rotate_left
       ·
        show Act.put _ (some 21) _ = _
        simp only [Act.put, List.setIfInBounds_toArray, List.set_cons_zero, List.set_cons_succ, i64_w, i32_w]
        rfl
       refine one_ (i := 6) (N := some 22) #[true, true, true, true, true, true, true, false, false, false, false, false, false, false, false, false, false, false, false, false, false, false, false, false, false, false] rfl rfl (one_of HT_.out (by kernel_rfl)) (by decide) (fun K hK => ?_)
       refine goes_ Tryd.func16 (by kernel_rfl) rfl #[.slice Ao46 y200.length co46] (by rfl) rfl rfl (by (try simp only [List.map_toArray, List.map_cons, List.map_nil]); first | done | rfl | (simp only [List.length_drop, List.length_take]; rfl)) ?_
       with_reducible refine (laws_svGood.calls kj3 _ _ y200 true _ ?side1 ?side2 A21.out).mono ?_
       (case side1 => repeat (first | exact (Kd.R_reads' HO202.out).2.2 | (with_reducible refine Kd.C_alloc ?_ _) | (with_reducible refine Kd.C_drewN ?_ _) | (with_reducible refine Kd.C_drew ?_)))
       (case side2 => exact (Kd.R_reads' HO202.out).2.1)
       rintro e w47 ⟨rfl, hb⟩
       refine ⟨_, rfl, ?_⟩
       have n0_ := Aside0.mk (Kd.R_below (by (with_reducible repeat (first | apply Kd.R_alloc | apply Kd.R_drewN | apply Kd.R_drew)); exact HO202.out) hb)
       have n1_ := Aside0.mk (blk_below (g := gb195) (o := .cells #[.int .i64 a0_0, .int .i64 a0_1, .int .u64 a0_2, .int .u64 a0_3, .int .u64 a0_4, .string a0_5] 24 (0, 0)) (by (with_reducible repeat (first | refine blk_drewN ?_ _ | refine blk_drew ?_ | refine blk_alloc ?_ _)); exact BK195.out) hb)
       have n2_ := Aside0.mk (blk_below (g := gb196) (o := .cells #[.int .u64 a1_0, .int .u64 a1_1, .int .u64 a1_2, .string (⟨#[]⟩ : ByteArray), .string a1_4] 26 (0, 0)) (by (with_reducible repeat (first | refine blk_drewN ?_ _ | refine blk_drew ?_ | refine blk_alloc ?_ _)); exact BK196.out) hb)
       have n3_ := Aside0.mk (below_step (by repeat (first | (with_reducible first | exact HB.out | apply below_alloc | apply pw_below_drewN | apply below_drew1 | refine below_set ?_ GE195.out | refine below_set ?_ GE196.out) | exact HB.out)) hb)
       clear HO202
       clear BK195
       clear BK196
       clear HB
       have HO202 := n0_
       have BK195 := n1_
       have BK196 := n2_
       have HB := n3_
       clear n0_ n1_ n2_ n3_
       (try clear hb)
       (try clear hb2)
       (try clear hk)
       (try clear hi)
       refine hK.out _ _ ⟨(blk_cell BK195.out 0).trans rfl, (blk_cell BK195.out 1).trans rfl, (blk_cell BK195.out 2).trans rfl, (blk_cell BK195.out 3).trans rfl, (blk_cell BK195.out 4).trans rfl, (blk_cell BK195.out 5).trans rfl, (blk_cell BK196.out 0).trans rfl, (blk_cell BK196.out 1).trans rfl, (blk_cell BK196.out 2).trans rfl, (blk_cell BK196.out 3).trans rfl, (blk_cell BK196.out 4).trans rfl⟩ (fun hHeld => ?_)
       clear hK K
       refine norm_ (a' := ?_) ?_ ?_
       rotate_left
       ·
        show Act.put _ (some 22) _ = _
        simp only [Act.put, List.setIfInBounds_toArray, List.set_cons_zero, List.set_cons_succ, i64_w, i32_w]
        rfl
       refine pure_ (i := 7) (N := some 23) (v := ?_) (a' := ?_) #[true, true, true, true, true, true, true, true, false, false, false, false, false, false, false, false, false, false, false, false, false, false, false, false, false, false] rfl rfl (any_of HT_.out (by kernel_rfl)) (fun _ _ _ h => h) (Or.inl ⟨by rfl, ?_⟩) ?_ ?_
       rotate_left
       ·
        intro w'
        go_simp
        with_reducible rfl
       rotate_left
       ·
        simp only [Act.put, List.setIfInBounds_toArray, List.set_cons_zero, List.set_cons_succ, i64_w, i32_w]
        rfl
       refine pure_ (i := 8) (N := some 24) (v := ?_) (a' := ?_) #[true, true, true, true, true, true, true, true, true, false, false, false, false, false, false, false, false, false, false, false, false, false, false, false, false, false] rfl rfl (any_of HT_.out (by kernel_rfl)) (fun _ _ _ h => h) (Or.inl ⟨by rfl, ?_⟩) ?_ ?_
       rotate_left
       ·
        intro w'
        go_simp
        with_reducible rfl
       rotate_left
       ·
        simp only [Act.put, List.setIfInBounds_toArray, List.set_cons_zero, List.set_cons_succ, i64_w, i32_w]
        rfl
       refine pure_ (i := 9) (N := some 25) (v := ?_) (a' := ?_) #[true, true, true, true, true, true, true, true, true, true, false, false, false, false, false, false, false, false, false, false, false, false, false, false, false, false] rfl rfl (any_of HT_.out (by kernel_rfl)) (fun _ _ _ h => h) (Or.inl ⟨by rfl, ?_⟩) ?_ ?_
       rotate_left
       ·
        intro w'
        go_simp
        with_reducible rfl
       rotate_left
       ·
        simp only [Act.put, List.setIfInBounds_toArray, List.set_cons_zero, List.set_cons_succ, i64_w, i32_w]
        rfl
       refine take_ (i := 10) (N := some 26) (v := ?_) (a' := ?_) #[true, true, true, true, true, true, true, true, true, true, true, false, false, false, false, false, false, false, false, false, false, false, false, false, false, false] rfl rfl (take_ofW HT_.out HW_.out (by kernel_rfl)) (fun _ _ _ h => h) (Or.inl ⟨by rfl, ?_⟩) hHeld ?_ ?_
       rotate_left
       ·
        rintro w' ⟨s0, s1, s2, s3, s4, s5, s6, s7, s8, s9, s10⟩
        go_simp
        with_reducible rfl
       rotate_left
       ·
        simp only [Act.put, List.setIfInBounds_toArray, List.set_cons_zero, List.set_cons_succ, i64_w, i32_w]
        rfl
       refine take_ (i := 11) (N := some 27) (v := ?_) (a' := ?_) #[true, true, true, true, true, true, true, true, true, true, true, true, false, false, false, false, false, false, false, false, false, false, false, false, false, false] rfl rfl (take_ofW HT_.out HW_.out (by kernel_rfl)) (fun _ _ _ h => h) (Or.inl ⟨by rfl, ?_⟩) hHeld ?_ ?_
       rotate_left
       ·
        rintro w' ⟨s0, s1, s2, s3, s4, s5, s6, s7, s8, s9, s10⟩
        go_simp
        with_reducible rfl
       rotate_left
       ·
        simp only [Act.put, List.setIfInBounds_toArray, List.set_cons_zero, List.set_cons_succ, i64_w, i32_w]
        rfl
       refine one_ (i := 12) (N := some 28) #[true, true, true, true, true, true, true, true, true, true, true, true, true, false, false, false, false, false, false, false, false, false, false, false, false, false] rfl rfl (one_of HT_.out (by kernel_rfl)) (by decide) (fun K hK => ?_)
       refine goes_ Tryd.func17 (by kernel_rfl) rfl #[.agg #[.int .i64 a0_0, .int .i64 a0_1, .int .u64 a0_2, .int .u64 a0_3, .int .u64 a0_4, .string a0_5], .agg #[.int .u64 a1_0, .int .u64 a1_1, .int .u64 a1_2, .string (⟨#[]⟩ : ByteArray), .string a1_4]] (by rfl) rfl rfl (by (try simp only [List.map_toArray, List.map_cons, List.map_nil]); first | done | rfl | (simp only [List.length_drop, List.length_take]; rfl)) ?_
       with_reducible refine (spec_Spoken.calls kj3 a0_0 a0_1 a0_2 a0_3 a0_4 a0_5 a1_0 a1_1 a1_2 (⟨#[]⟩ : ByteArray) a1_4 false _ A23.out).mono ?_
       rintro e w48 ⟨rfl, hb⟩
       refine ⟨_, rfl, ?_⟩
       have n0_ := Aside0.mk (Kd.R_below (by (with_reducible repeat (first | apply Kd.R_alloc | apply Kd.R_drewN | apply Kd.R_drew)); exact HO202.out) hb)
       have n1_ := Aside0.mk (blk_below (g := gb195) (o := .cells #[.int .i64 a0_0, .int .i64 a0_1, .int .u64 a0_2, .int .u64 a0_3, .int .u64 a0_4, .string a0_5] 24 (0, 0)) (by (with_reducible repeat (first | refine blk_drewN ?_ _ | refine blk_drew ?_ | refine blk_alloc ?_ _)); exact BK195.out) hb)
       have n2_ := Aside0.mk (blk_below (g := gb196) (o := .cells #[.int .u64 a1_0, .int .u64 a1_1, .int .u64 a1_2, .string (⟨#[]⟩ : ByteArray), .string a1_4] 26 (0, 0)) (by (with_reducible repeat (first | refine blk_drewN ?_ _ | refine blk_drew ?_ | refine blk_alloc ?_ _)); exact BK196.out) hb)
       have n3_ := Aside0.mk (below_step (by repeat (first | (with_reducible first | exact HB.out | apply below_alloc | apply pw_below_drewN | apply below_drew1 | refine below_set ?_ GE195.out | refine below_set ?_ GE196.out) | exact HB.out)) hb)
       clear HO202
       clear BK195
       clear BK196
       clear HB
       have HO202 := n0_
       have BK195 := n1_
       have BK196 := n2_
       have HB := n3_
       clear n0_ n1_ n2_ n3_
       (try clear hb)
       (try clear hb2)
       (try clear hk)
       (try clear hi)
       refine hK.out _ _ ⟨(blk_cell BK195.out 0).trans rfl, (blk_cell BK195.out 1).trans rfl, (blk_cell BK195.out 2).trans rfl, (blk_cell BK195.out 3).trans rfl, (blk_cell BK195.out 4).trans rfl, (blk_cell BK195.out 5).trans rfl, (blk_cell BK196.out 0).trans rfl, (blk_cell BK196.out 1).trans rfl, (blk_cell BK196.out 2).trans rfl, (blk_cell BK196.out 3).trans rfl, (blk_cell BK196.out 4).trans rfl⟩ (fun hHeld => ?_)
       clear hK K
       refine norm_ (a' := ?_) ?_ ?_
       rotate_left
       ·
        show Act.put _ (some 28) _ = _
        simp only [Act.put, List.setIfInBounds_toArray, List.set_cons_zero, List.set_cons_succ, i64_w, i32_w]
        rfl
       refine pure_ (i := 13) (N := some 29) (v := ?_) (a' := ?_) #[true, true, true, true, true, true, true, true, true, true, true, true, true, true, false, false, false, false, false, false, false, false, false, false, false, false] rfl rfl (any_of HT_.out (by kernel_rfl)) (fun _ _ _ h => h) (Or.inl ⟨by rfl, ?_⟩) ?_ ?_
       rotate_left
       ·
        intro w'
        go_simp
        with_reducible rfl
       rotate_left
       ·
        simp only [Act.put, List.setIfInBounds_toArray, List.set_cons_zero, List.set_cons_succ, i64_w, i32_w]
        rfl
       refine pure_ (i := 14) (N := some 30) (v := ?_) (a' := ?_) #[true, true, true, true, true, true, true, true, true, true, true, true, true, true, true, false, false, false, false, false, false, false, false, false, false, false] rfl rfl (any_of HT_.out (by kernel_rfl)) (fun _ _ _ h => h) (Or.inl ⟨by rfl, ?_⟩) ?_ ?_
       rotate_left
       ·
        intro w'
        go_simp
        with_reducible rfl
       rotate_left
       ·
        simp only [Act.put, List.setIfInBounds_toArray, List.set_cons_zero, List.set_cons_succ, i64_w, i32_w]
        rfl
       refine pure_ (i := 15) (N := some 31) (v := ?_) (a' := ?_) #[true, true, true, true, true, true, true, true, true, true, true, true, true, true, true, true, false, false, false, false, false, false, false, false, false, false] rfl rfl (any_of HT_.out (by kernel_rfl)) (fun _ _ _ h => h) (Or.inl ⟨by rfl, ?_⟩) ?_ ?_
       rotate_left
       ·
        intro w'
        go_simp
        with_reducible rfl
       rotate_left
       ·
        simp only [Act.put, List.setIfInBounds_toArray, List.set_cons_zero, List.set_cons_succ, i64_w, i32_w]
        rfl
       refine pure_ (i := 16) (N := some 32) (v := undef) (a' := ?_) #[true, true, true, true, true, true, true, true, true, true, true, true, true, true, true, true, true, false, false, false, false, false, false, false, false, false] rfl rfl (any_of HT_.out (by kernel_rfl)) (fun _ _ _ h => h) (Or.inr ⟨by rfl, rfl⟩) ?_ ?_
       rotate_left
       ·
        simp only [Act.put, List.setIfInBounds_toArray, List.set_cons_zero, List.set_cons_succ, i64_w, i32_w]
        rfl
       refine pure_ (i := 17) (N := some 33) (v := undef) (a' := ?_) #[true, true, true, true, true, true, true, true, true, true, true, true, true, true, true, true, true, true, false, false, false, false, false, false, false, false] rfl rfl (any_of HT_.out (by kernel_rfl)) (fun _ _ _ h => h) (Or.inr ⟨by rfl, rfl⟩) ?_ ?_
       rotate_left
       ·
        simp only [Act.put, List.setIfInBounds_toArray, List.set_cons_zero, List.set_cons_succ, i64_w, i32_w]
        rfl
       refine pure_ (i := 18) (N := some 34) (v := undef) (a' := ?_) #[true, true, true, true, true, true, true, true, true, true, true, true, true, true, true, true, true, true, true, false, false, false, false, false, false, false] rfl rfl (any_of HT_.out (by kernel_rfl)) (fun _ _ _ h => h) (Or.inr ⟨by rfl, rfl⟩) ?_ ?_
       rotate_left
       ·
        simp only [Act.put, List.setIfInBounds_toArray, List.set_cons_zero, List.set_cons_succ, i64_w, i32_w]
        rfl
       refine pure_ (i := 19) (N := some 35) (v := undef) (a' := ?_) #[true, true, true, true, true, true, true, true, true, true, true, true, true, true, true, true, true, true, true, true, false, false, false, false, false, false] rfl rfl (any_of HT_.out (by kernel_rfl)) (fun _ _ _ h => h) (Or.inr ⟨by rfl, rfl⟩) ?_ ?_
       rotate_left
       ·
        simp only [Act.put, List.setIfInBounds_toArray, List.set_cons_zero, List.set_cons_succ, i64_w, i32_w]
        rfl
       refine pure_ (i := 20) (N := some 36) (v := undef) (a' := ?_) #[true, true, true, true, true, true, true, true, true, true, true, true, true, true, true, true, true, true, true, true, true, false, false, false, false, false] rfl rfl (any_of HT_.out (by kernel_rfl)) (fun _ _ _ h => h) (Or.inr ⟨by rfl, rfl⟩) ?_ ?_
       rotate_left
       ·
        simp only [Act.put, List.setIfInBounds_toArray, List.set_cons_zero, List.set_cons_succ, i64_w, i32_w]
        rfl
       refine pure_ (i := 21) (N := some 37) (v := undef) (a' := ?_) #[true, true, true, true, true, true, true, true, true, true, true, true, true, true, true, true, true, true, true, true, true, true, false, false, false, false] rfl rfl (any_of HT_.out (by kernel_rfl)) (fun _ _ _ h => h) (Or.inr ⟨by rfl, rfl⟩) ?_ ?_
       rotate_left
       ·
        simp only [Act.put, List.setIfInBounds_toArray, List.set_cons_zero, List.set_cons_succ, i64_w, i32_w]
        rfl
       refine pure_ (i := 22) (N := some 38) (v := undef) (a' := ?_) #[true, true, true, true, true, true, true, true, true, true, true, true, true, true, true, true, true, true, true, true, true, true, true, false, false, false] rfl rfl (any_of HT_.out (by kernel_rfl)) (fun _ _ _ h => h) (Or.inr ⟨by rfl, rfl⟩) ?_ ?_
       rotate_left
       ·
        simp only [Act.put, List.setIfInBounds_toArray, List.set_cons_zero, List.set_cons_succ, i64_w, i32_w]
        rfl
       refine pure_ (i := 23) (N := some 39) (v := undef) (a' := ?_) #[true, true, true, true, true, true, true, true, true, true, true, true, true, true, true, true, true, true, true, true, true, true, true, true, false, false] rfl rfl (any_of HT_.out (by kernel_rfl)) (fun _ _ _ h => h) (Or.inr ⟨by rfl, rfl⟩) ?_ ?_
       rotate_left
       ·
        simp only [Act.put, List.setIfInBounds_toArray, List.set_cons_zero, List.set_cons_succ, i64_w, i32_w]
        rfl
       refine pure_ (i := 24) (N := some 40) (v := ?_) (a' := ?_) #[true, true, true, true, true, true, true, true, true, true, true, true, true, true, true, true, true, true, true, true, true, true, true, true, true, false] rfl rfl (any_of HT_.out (by kernel_rfl)) (fun _ _ _ h => h) (Or.inl ⟨by rfl, ?_⟩) ?_ ?_
       rotate_left
       ·
        intro w'
        go_simp
        with_reducible rfl
       rotate_left
       ·
        simp only [Act.put, List.setIfInBounds_toArray, List.set_cons_zero, List.set_cons_succ, i64_w, i32_w]
        rfl
       refine pure_ (i := 25) (N := some 6) (v := ?_) (a' := ?_) #[true, true, true, true, true, true, true, true, true, true, true, true, true, true, true, true, true, true, true, true, true, true, true, true, true, true] rfl rfl (any_of HT_.out (by kernel_rfl)) (fun _ _ _ h => h) (Or.inl ⟨by rfl, ?_⟩) ?_ ?_
       rotate_left
       ·
        intro w'
        go_simp
        with_reducible rfl
       rotate_left
       ·
        simp only [Act.put, List.setIfInBounds_toArray, List.set_cons_zero, List.set_cons_succ, i64_w, i32_w]
        rfl
       refine done_ (done_of HT_.out (by kernel_rfl)) ?_
       try go_wp2
       go_ret
       exact ⟨by first | rfl | (simp [errW_none, errW_some] <;> rfl) | (simp [*, errW_none, errW_some] <;> rfl) | (simp [bneNil]; done), by repeat (first | (with_reducible first | exact HB.out | apply below_alloc | apply pw_below_drewN | apply below_drew1 | refine below_set ?_ GE195.out | refine below_set ?_ GE196.out) | exact HB.out)⟩
     ·
      replace c22 := Bool.eq_false_iff.mpr c22
      subst c22
      have H1 : (some true) = some r := by rw [if_neg (show ¬ (false = true) by decide)] at H; exact H
      clear H
      have H := H1
      clear H1
      obtain rfl := Option.some.inj H
      have hnb49 := NB196_195.out
      have hnc49 := NB195_196.out
      have hcz50_0 : wc.cell? ⟨gb196, 0, none⟩ = some (.int .u64 a1_0) := (blk_cell BK196.out 0).trans rfl
      have hcz50_1 : wc.cell? ⟨gb196, 1, none⟩ = some (.int .u64 a1_1) := (blk_cell BK196.out 1).trans rfl
      have hcz50_2 : wc.cell? ⟨gb196, 2, none⟩ = some (.int .u64 a1_2) := (blk_cell BK196.out 2).trans rfl
      have hcz50_3 : wc.cell? ⟨gb196, 3, none⟩ = some (.string a1_3) := (blk_cell BK196.out 3).trans rfl
      have hcz50_4 : wc.cell? ⟨gb196, 4, none⟩ = some (.string a1_4) := (blk_cell BK196.out 4).trans rfl
      have hfz50_0 := blk_frozen BK196.out 0
      have hfz50_1 := blk_frozen BK196.out 1
      have hfz50_2 := blk_frozen BK196.out 2
      have hfz50_3 := blk_frozen BK196.out 3
      have hfz50_4 := blk_frozen BK196.out 4
      try go_wp2
      have n0_ : Aside0 ((wc.setCell ⟨gb196, 3, none⟩ (.string (⟨#[]⟩ : ByteArray))).heap[gb195]? = some (.cells #[.int .i64 a0_0, .int .i64 a0_1, .int .u64 a0_2, .int .u64 a0_3, .int .u64 a0_4, .string a0_5] 24 (0, 0))) := ⟨by (with_reducible repeat (first | refine blk_drewN ?_ _ | refine blk_drew ?_ | refine blk_alloc ?_ _)); refine blk_far ?_ NB195_196.out _; (with_reducible repeat (first | refine blk_drewN ?_ _ | refine blk_drew ?_ | refine blk_alloc ?_ _)); exact BK195.out⟩
      have n1_ : Aside0 ((wc.setCell ⟨gb196, 3, none⟩ (.string (⟨#[]⟩ : ByteArray))).heap[gb196]? = some (.cells #[.int .u64 a1_0, .int .u64 a1_1, .int .u64 a1_2, .string (⟨#[]⟩ : ByteArray), .string a1_4] 26 (0, 0))) := ⟨by (with_reducible repeat (first | refine blk_drewN ?_ _ | refine blk_drew ?_ | refine blk_alloc ?_ _)); refine blk_put (cs := #[.int .u64 a1_0, .int .u64 a1_1, .int .u64 a1_2, .string a1_3, .string a1_4]) ?_ 3 _ rfl; (with_reducible repeat (first | refine blk_drewN ?_ _ | refine blk_drew ?_ | refine blk_alloc ?_ _)); exact BK196.out⟩
      have n2_ : Aside0 (Below w.heap.size w (wc.setCell ⟨gb196, 3, none⟩ (.string (⟨#[]⟩ : ByteArray)))) := ⟨by repeat (first | (with_reducible first | exact HB.out | apply below_alloc | apply pw_below_drewN | apply below_drew1 | refine below_set ?_ GE195.out | refine below_set ?_ GE196.out) | exact HB.out)⟩
      (try clear BK195)
      (try clear BK196)
      (try clear HB)
      generalize (wc.setCell ⟨gb196, 3, none⟩ (.string (⟨#[]⟩ : ByteArray))) = w51 at n0_ n1_ n2_ ⊢
      have BK195 := n0_
      have BK196 := n1_
      have HB := n2_
      clear n0_ n1_ n2_
      have n0_ := Aside0.mk (blk_drew BK195.out)
      have n1_ := Aside0.mk (blk_drew BK196.out)
      have n2_ := Aside0.mk (below_drew1 HB.out)
      clear BK195
      clear BK196
      clear HB
      have BK195 := n0_
      have BK196 := n1_
      have HB := n2_
      clear n0_ n1_ n2_
      refine start_ (n := 26) (S := fun w' => w'.cell? ⟨gb195, 0, none⟩ = some (.int .i64 a0_0) ∧ w'.cell? ⟨gb195, 1, none⟩ = some (.int .i64 a0_1) ∧ w'.cell? ⟨gb195, 2, none⟩ = some (.int .u64 a0_2) ∧ w'.cell? ⟨gb195, 3, none⟩ = some (.int .u64 a0_3) ∧ w'.cell? ⟨gb195, 4, none⟩ = some (.int .u64 a0_4) ∧ w'.cell? ⟨gb195, 5, none⟩ = some (.string a0_5) ∧ w'.cell? ⟨gb196, 0, none⟩ = some (.int .u64 a1_0) ∧ w'.cell? ⟨gb196, 1, none⟩ = some (.int .u64 a1_1) ∧ w'.cell? ⟨gb196, 2, none⟩ = some (.int .u64 a1_2) ∧ w'.cell? ⟨gb196, 3, none⟩ = some (.string (⟨#[]⟩ : ByteArray)) ∧ w'.cell? ⟨gb196, 4, none⟩ = some (.string a1_4)) (ds := []) #[false, false, false, false, false, false, false, false, false, false, false, false, false, false, false, false, false, false, false, false, false, false, false, false, false, false] (by kernel_rfl) rfl rfl ⟨(blk_cell BK195.out 0).trans rfl, (blk_cell BK195.out 1).trans rfl, (blk_cell BK195.out 2).trans rfl, (blk_cell BK195.out 3).trans rfl, (blk_cell BK195.out 4).trans rfl, (blk_cell BK195.out 5).trans rfl, (blk_cell BK196.out 0).trans rfl, (blk_cell BK196.out 1).trans rfl, (blk_cell BK196.out 2).trans rfl, (blk_cell BK196.out 3).trans rfl, (blk_cell BK196.out 4).trans rfl⟩ (fun hHeld => ?_); refine with_tabW laws_FnSemverTermHolds.tab4 laws_FnSemverTermHolds.bits4 (fun HT_ HW_ => ?_)
      generalize w51.drew = w52 at BK195 BK196 HB hHeld ⊢
      refine take_ (i := 0) (N := some 16) (v := ?_) (a' := ?_) #[true, false, false, false, false, false, false, false, false, false, false, false, false, false, false, false, false, false, false, false, false, false, false, false, false, false] rfl rfl (take_ofW HT_.out HW_.out (by kernel_rfl)) (fun _ _ _ h => h) (Or.inl ⟨by rfl, ?_⟩) hHeld ?_ ?_
      rotate_left
      ·
       rintro w' ⟨s0, s1, s2, s3, s4, s5, s6, s7, s8, s9, s10⟩
       go_simp
       with_reducible rfl
      rotate_left
      ·
       simp only [Act.put, List.setIfInBounds_toArray, List.set_cons_zero, List.set_cons_succ, i64_w, i32_w]
       rfl
      refine one_ (i := 1) (N := some 17) #[true, true, false, false, false, false, false, false, false, false, false, false, false, false, false, false, false, false, false, false, false, false, false, false, false, false] rfl rfl (one_of HT_.out (by kernel_rfl)) (by decide) (fun K hK => ?_)
      refine goes_ Tryd.func15 (by kernel_rfl) rfl #[.agg #[.int .i64 a0_0, .int .i64 a0_1, .int .u64 a0_2, .int .u64 a0_3, .int .u64 a0_4, .string a0_5]] (by rfl) rfl rfl (by (try simp only [List.map_toArray, List.map_cons, List.map_nil]); first | done | rfl | (simp only [List.length_drop, List.length_take]; rfl)) ?_
      with_reducible refine (spec_GoodTerm.calls kj3 a0_0 a0_1 a0_2 a0_3 a0_4 a0_5 true _ A19.out).mono ?_
      rintro e w53 ⟨rfl, hb⟩
      refine ⟨_, rfl, ?_⟩
      have n0_ := Aside0.mk (blk_below (g := gb195) (o := .cells #[.int .i64 a0_0, .int .i64 a0_1, .int .u64 a0_2, .int .u64 a0_3, .int .u64 a0_4, .string a0_5] 24 (0, 0)) (by (with_reducible repeat (first | refine blk_drewN ?_ _ | refine blk_drew ?_ | refine blk_alloc ?_ _)); exact BK195.out) hb)
      have n1_ := Aside0.mk (blk_below (g := gb196) (o := .cells #[.int .u64 a1_0, .int .u64 a1_1, .int .u64 a1_2, .string (⟨#[]⟩ : ByteArray), .string a1_4] 26 (0, 0)) (by (with_reducible repeat (first | refine blk_drewN ?_ _ | refine blk_drew ?_ | refine blk_alloc ?_ _)); exact BK196.out) hb)
      have n2_ := Aside0.mk (below_step (by repeat (first | (with_reducible first | exact HB.out | apply below_alloc | apply pw_below_drewN | apply below_drew1 | refine below_set ?_ GE195.out | refine below_set ?_ GE196.out) | exact HB.out)) hb)
      clear BK195
      clear BK196
      clear HB
      have BK195 := n0_
      have BK196 := n1_
      have HB := n2_
      clear n0_ n1_ n2_
      (try clear hb)
      (try clear hb2)
      (try clear hk)
      (try clear hi)
      refine hK.out _ _ ⟨(blk_cell BK195.out 0).trans rfl, (blk_cell BK195.out 1).trans rfl, (blk_cell BK195.out 2).trans rfl, (blk_cell BK195.out 3).trans rfl, (blk_cell BK195.out 4).trans rfl, (blk_cell BK195.out 5).trans rfl, (blk_cell BK196.out 0).trans rfl, (blk_cell BK196.out 1).trans rfl, (blk_cell BK196.out 2).trans rfl, (blk_cell BK196.out 3).trans rfl, (blk_cell BK196.out 4).trans rfl⟩ (fun hHeld => ?_)
      clear hK K
      refine norm_ (a' := ?_) ?_ ?_
      rotate_left
      ·
       show Act.put _ (some 17) _ = _
       simp only [Act.put, List.setIfInBounds_toArray, List.set_cons_zero, List.set_cons_succ, i64_w, i32_w]
       rfl
      refine pure_ (i := 2) (N := some 18) (v := ?_) (a' := ?_) #[true, true, true, false, false, false, false, false, false, false, false, false, false, false, false, false, false, false, false, false, false, false, false, false, false, false] rfl rfl (any_of HT_.out (by kernel_rfl)) (fun _ _ _ h => h) (Or.inl ⟨by rfl, ?_⟩) ?_ ?_
      rotate_left
      ·
       intro w'
       go_simp
       with_reducible rfl
      rotate_left
      ·
       simp only [Act.put, List.setIfInBounds_toArray, List.set_cons_zero, List.set_cons_succ, i64_w, i32_w]
       rfl
      refine pure_ (i := 3) (N := some 19) (v := ?_) (a' := ?_) #[true, true, true, true, false, false, false, false, false, false, false, false, false, false, false, false, false, false, false, false, false, false, false, false, false, false] rfl rfl (any_of HT_.out (by kernel_rfl)) (fun _ _ _ h => h) (Or.inl ⟨by rfl, ?_⟩) ?_ ?_
      rotate_left
      ·
       intro w'
       go_simp
       with_reducible rfl
      rotate_left
      ·
       simp only [Act.put, List.setIfInBounds_toArray, List.set_cons_zero, List.set_cons_succ, i64_w, i32_w]
       rfl
      refine take_ (i := 4) (N := some 20) (v := ?_) (a' := ?_) #[true, true, true, true, true, false, false, false, false, false, false, false, false, false, false, false, false, false, false, false, false, false, false, false, false, false] rfl rfl (take_ofW HT_.out HW_.out (by kernel_rfl)) (fun _ _ _ h => h) (Or.inl ⟨by rfl, ?_⟩) hHeld ?_ ?_
      rotate_left
      ·
       rintro w' ⟨s0, s1, s2, s3, s4, s5, s6, s7, s8, s9, s10⟩
       go_simp
       with_reducible rfl
      rotate_left
      ·
       simp only [Act.put, List.setIfInBounds_toArray, List.set_cons_zero, List.set_cons_succ, i64_w, i32_w]
       rfl
      refine one_ (i := 5) (N := some 21) #[true, true, true, true, true, true, false, false, false, false, false, false, false, false, false, false, false, false, false, false, false, false, false, false, false, false] rfl rfl (one_of HT_.out (by kernel_rfl)) (by decide) (fun K hK => ?_)
      refine Kd.R_lit_step k26 _ 26 ?hg (N := 21) ?hd (xs := ([(⟨a1_0, a1_1, a1_2, (⟨#[]⟩ : ByteArray), a1_4⟩ : S26)] : List (S26))) (inner := [.int .u64 a1_0, .int .u64 a1_1, .int .u64 a1_2, .string (⟨#[]⟩ : ByteArray), .string a1_4]) (ok := fun _ => True) (okp := fun _ => True) ?hr ?hp (fun _ hk => hk) trivial (Below.refl _ _) (Nat.le_refl _) (by simp) ?_; (case hd => rfl); (case hg => rfl); (case hr => first | (go_simp; done) | (go_simp; rfl) | (go_simp; simp [u8w]; done)); (case hp => exact (Reps.c5 (show Kd.M k26 _ _ _ (⟨a1_0, a1_1, a1_2, (⟨#[]⟩ : ByteArray), a1_4⟩ : S26) [.int .u64 a1_0, .int .u64 a1_1, .int .u64 a1_2, .string (⟨#[]⟩ : ByteArray), .string a1_4] from (k26_mkM _ _ _ (⟨a1_0, a1_1, a1_2, (⟨#[]⟩ : ByteArray), a1_4⟩ : S26) )) (Reps.none _ _)))
      intro v201 w54 ho55 hb hg_ hnew_
      clear hg_ hnew_
      (first | rw [← Ny200.out] at ho55 | (simp only [Int.reduceToNat] at ho55; rw [← Ny200.out] at ho55))
      have n0_ := Aside0.mk (Kd.R_lower (Kd.R_newB ho55 (g := gb196) (o := .cells #[.int .u64 a1_0, .int .u64 a1_1, .int .u64 a1_2, .string (⟨#[]⟩ : ByteArray), .string a1_4] 26 (0, 0)) (by (with_reducible repeat (first | refine blk_drewN ?_ _ | refine blk_drew ?_ | refine blk_alloc ?_ _)); exact BK196.out)) (below_size (by repeat (first | (with_reducible first | exact HB.out | apply below_alloc | apply pw_below_drewN | apply below_drew1 | refine below_set ?_ GE195.out | refine below_set ?_ GE196.out) | exact HB.out))))
      have n1_ := Aside0.mk (blk_below (g := gb195) (o := .cells #[.int .i64 a0_0, .int .i64 a0_1, .int .u64 a0_2, .int .u64 a0_3, .int .u64 a0_4, .string a0_5] 24 (0, 0)) (by (with_reducible repeat (first | refine blk_drewN ?_ _ | refine blk_drew ?_ | refine blk_alloc ?_ _)); exact BK195.out) hb)
      have n2_ := Aside0.mk (blk_below (g := gb196) (o := .cells #[.int .u64 a1_0, .int .u64 a1_1, .int .u64 a1_2, .string (⟨#[]⟩ : ByteArray), .string a1_4] 26 (0, 0)) (by (with_reducible repeat (first | refine blk_drewN ?_ _ | refine blk_drew ?_ | refine blk_alloc ?_ _)); exact BK196.out) hb)
      have n3_ := Aside0.mk (below_step (by repeat (first | (with_reducible first | exact HB.out | apply below_alloc | apply pw_below_drewN | apply below_drew1 | refine below_set ?_ GE195.out | refine below_set ?_ GE196.out) | exact HB.out)) hb)
      clear BK195
      clear BK196
      clear HB
      have HO202 := n0_
      have BK195 := n1_
      have BK196 := n2_
      have HB := n3_
      clear n0_ n1_ n2_ n3_
      clear hb ho55
      obtain ⟨Ao56, co56, eo56⟩ := Kd.R_slice HO202.out
      (first | subst eo56 | (injection eo56 with f1_ f2_ f3_; have f4_ := f1_.symm; have f5_ := f3_.symm; clear f1_ f2_ f3_; subst f4_; subst f5_))
      refine hK.out _ _ ⟨(blk_cell BK195.out 0).trans rfl, (blk_cell BK195.out 1).trans rfl, (blk_cell BK195.out 2).trans rfl, (blk_cell BK195.out 3).trans rfl, (blk_cell BK195.out 4).trans rfl, (blk_cell BK195.out 5).trans rfl, (blk_cell BK196.out 0).trans rfl, (blk_cell BK196.out 1).trans rfl, (blk_cell BK196.out 2).trans rfl, (blk_cell BK196.out 3).trans rfl, (blk_cell BK196.out 4).trans rfl⟩ (fun hHeld => ?_)
      clear hK K
      refine norm_ (a' := ?_) ?_ ?_
      rotate_left
      ·
       show Act.put _ (some 21) _ = _
       simp only [Act.put, List.setIfInBounds_toArray, List.set_cons_zero, List.set_cons_succ, i64_w, i32_w]
       rfl
      refine one_ (i := 6) (N := some 22) #[true, true, true, true, true, true, true, false, false, false, false, false, false, false, false, false, false, false, false, false, false, false, false, false, false, false] rfl rfl (one_of HT_.out (by kernel_rfl)) (by decide) (fun K hK => ?_)
      refine goes_ Tryd.func16 (by kernel_rfl) rfl #[.slice Ao56 y200.length co56] (by rfl) rfl rfl (by (try simp only [List.map_toArray, List.map_cons, List.map_nil]); first | done | rfl | (simp only [List.length_drop, List.length_take]; rfl)) ?_
      with_reducible refine (laws_svGood.calls kj3 _ _ y200 false _ ?side1 ?side2 A21.out).mono ?_
      (case side1 => repeat (first | exact (Kd.R_reads' HO202.out).2.2 | (with_reducible refine Kd.C_alloc ?_ _) | (with_reducible refine Kd.C_drewN ?_ _) | (with_reducible refine Kd.C_drew ?_)))
      (case side2 => exact (Kd.R_reads' HO202.out).2.1)
      rintro e w57 ⟨rfl, hb⟩
      refine ⟨_, rfl, ?_⟩
      have n0_ := Aside0.mk (Kd.R_below (by (with_reducible repeat (first | apply Kd.R_alloc | apply Kd.R_drewN | apply Kd.R_drew)); exact HO202.out) hb)
      have n1_ := Aside0.mk (blk_below (g := gb195) (o := .cells #[.int .i64 a0_0, .int .i64 a0_1, .int .u64 a0_2, .int .u64 a0_3, .int .u64 a0_4, .string a0_5] 24 (0, 0)) (by (with_reducible repeat (first | refine blk_drewN ?_ _ | refine blk_drew ?_ | refine blk_alloc ?_ _)); exact BK195.out) hb)
      have n2_ := Aside0.mk (blk_below (g := gb196) (o := .cells #[.int .u64 a1_0, .int .u64 a1_1, .int .u64 a1_2, .string (⟨#[]⟩ : ByteArray), .string a1_4] 26 (0, 0)) (by (with_reducible repeat (first | refine blk_drewN ?_ _ | refine blk_drew ?_ | refine blk_alloc ?_ _)); exact BK196.out) hb)
      have n3_ := Aside0.mk (below_step (by repeat (first | (with_reducible first | exact HB.out | apply below_alloc | apply pw_below_drewN | apply below_drew1 | refine below_set ?_ GE195.out | refine below_set ?_ GE196.out) | exact HB.out)) hb)
      clear HO202
      clear BK195
      clear BK196
      clear HB
      have HO202 := n0_
      have BK195 := n1_
      have BK196 := n2_
      have HB := n3_
      clear n0_ n1_ n2_ n3_
      (try clear hb)
      (try clear hb2)
      (try clear hk)
      (try clear hi)
      refine hK.out _ _ ⟨(blk_cell BK195.out 0).trans rfl, (blk_cell BK195.out 1).trans rfl, (blk_cell BK195.out 2).trans rfl, (blk_cell BK195.out 3).trans rfl, (blk_cell BK195.out 4).trans rfl, (blk_cell BK195.out 5).trans rfl, (blk_cell BK196.out 0).trans rfl, (blk_cell BK196.out 1).trans rfl, (blk_cell BK196.out 2).trans rfl, (blk_cell BK196.out 3).trans rfl, (blk_cell BK196.out 4).trans rfl⟩ (fun hHeld => ?_)
      clear hK K
      refine norm_ (a' := ?_) ?_ ?_
      rotate_left
      ·
       show Act.put _ (some 22) _ = _
       simp only [Act.put, List.setIfInBounds_toArray, List.set_cons_zero, List.set_cons_succ, i64_w, i32_w]
       rfl
      refine pure_ (i := 7) (N := some 23) (v := ?_) (a' := ?_) #[true, true, true, true, true, true, true, true, false, false, false, false, false, false, false, false, false, false, false, false, false, false, false, false, false, false] rfl rfl (any_of HT_.out (by kernel_rfl)) (fun _ _ _ h => h) (Or.inl ⟨by rfl, ?_⟩) ?_ ?_
      rotate_left
      ·
       intro w'
       go_simp
       with_reducible rfl
      rotate_left
      ·
       simp only [Act.put, List.setIfInBounds_toArray, List.set_cons_zero, List.set_cons_succ, i64_w, i32_w]
       rfl
      refine pure_ (i := 8) (N := some 24) (v := ?_) (a' := ?_) #[true, true, true, true, true, true, true, true, true, false, false, false, false, false, false, false, false, false, false, false, false, false, false, false, false, false] rfl rfl (any_of HT_.out (by kernel_rfl)) (fun _ _ _ h => h) (Or.inl ⟨by rfl, ?_⟩) ?_ ?_
      rotate_left
      ·
       intro w'
       go_simp
       with_reducible rfl
      rotate_left
      ·
       simp only [Act.put, List.setIfInBounds_toArray, List.set_cons_zero, List.set_cons_succ, i64_w, i32_w]
       rfl
      refine pure_ (i := 9) (N := some 25) (v := ?_) (a' := ?_) #[true, true, true, true, true, true, true, true, true, true, false, false, false, false, false, false, false, false, false, false, false, false, false, false, false, false] rfl rfl (any_of HT_.out (by kernel_rfl)) (fun _ _ _ h => h) (Or.inl ⟨by rfl, ?_⟩) ?_ ?_
      rotate_left
      ·
       intro w'
       go_simp
       with_reducible rfl
      rotate_left
      ·
       simp only [Act.put, List.setIfInBounds_toArray, List.set_cons_zero, List.set_cons_succ, i64_w, i32_w]
       rfl
      refine pure_ (i := 10) (N := some 26) (v := undef) (a' := ?_) #[true, true, true, true, true, true, true, true, true, true, true, false, false, false, false, false, false, false, false, false, false, false, false, false, false, false] rfl rfl (any_of HT_.out (by kernel_rfl)) (fun _ _ _ h => h) (Or.inr ⟨by rfl, rfl⟩) ?_ ?_
      rotate_left
      ·
       simp only [Act.put, List.setIfInBounds_toArray, List.set_cons_zero, List.set_cons_succ, i64_w, i32_w]
       rfl
      refine pure_ (i := 11) (N := some 27) (v := undef) (a' := ?_) #[true, true, true, true, true, true, true, true, true, true, true, true, false, false, false, false, false, false, false, false, false, false, false, false, false, false] rfl rfl (any_of HT_.out (by kernel_rfl)) (fun _ _ _ h => h) (Or.inr ⟨by rfl, rfl⟩) ?_ ?_
      rotate_left
      ·
       simp only [Act.put, List.setIfInBounds_toArray, List.set_cons_zero, List.set_cons_succ, i64_w, i32_w]
       rfl
      refine pure_ (i := 12) (N := some 28) (v := undef) (a' := ?_) #[true, true, true, true, true, true, true, true, true, true, true, true, true, false, false, false, false, false, false, false, false, false, false, false, false, false] rfl rfl (any_of HT_.out (by kernel_rfl)) (fun _ _ _ h => h) (Or.inr ⟨by rfl, rfl⟩) ?_ ?_
      rotate_left
      ·
       simp only [Act.put, List.setIfInBounds_toArray, List.set_cons_zero, List.set_cons_succ, i64_w, i32_w]
       rfl
      refine pure_ (i := 13) (N := some 29) (v := undef) (a' := ?_) #[true, true, true, true, true, true, true, true, true, true, true, true, true, true, false, false, false, false, false, false, false, false, false, false, false, false] rfl rfl (any_of HT_.out (by kernel_rfl)) (fun _ _ _ h => h) (Or.inr ⟨by rfl, rfl⟩) ?_ ?_
      rotate_left
      ·
       simp only [Act.put, List.setIfInBounds_toArray, List.set_cons_zero, List.set_cons_succ, i64_w, i32_w]
       rfl
      refine pure_ (i := 14) (N := some 30) (v := ?_) (a' := ?_) #[true, true, true, true, true, true, true, true, true, true, true, true, true, true, true, false, false, false, false, false, false, false, false, false, false, false] rfl rfl (any_of HT_.out (by kernel_rfl)) (fun _ _ _ h => h) (Or.inl ⟨by rfl, ?_⟩) ?_ ?_
      rotate_left
      ·
       intro w'
       go_simp
       with_reducible rfl
      rotate_left
      ·
       simp only [Act.put, List.setIfInBounds_toArray, List.set_cons_zero, List.set_cons_succ, i64_w, i32_w]
       rfl
      refine pure_ (i := 15) (N := some 31) (v := ?_) (a' := ?_) #[true, true, true, true, true, true, true, true, true, true, true, true, true, true, true, true, false, false, false, false, false, false, false, false, false, false] rfl rfl (any_of HT_.out (by kernel_rfl)) (fun _ _ _ h => h) (Or.inl ⟨by rfl, ?_⟩) ?_ ?_
      rotate_left
      ·
       intro w'
       go_simp
       with_reducible rfl
      rotate_left
      ·
       simp only [Act.put, List.setIfInBounds_toArray, List.set_cons_zero, List.set_cons_succ, i64_w, i32_w]
       rfl
      refine pure_ (i := 16) (N := some 32) (v := undef) (a' := ?_) #[true, true, true, true, true, true, true, true, true, true, true, true, true, true, true, true, true, false, false, false, false, false, false, false, false, false] rfl rfl (any_of HT_.out (by kernel_rfl)) (fun _ _ _ h => h) (Or.inr ⟨by rfl, rfl⟩) ?_ ?_
      rotate_left
      ·
       simp only [Act.put, List.setIfInBounds_toArray, List.set_cons_zero, List.set_cons_succ, i64_w, i32_w]
       rfl
      refine pure_ (i := 17) (N := some 33) (v := undef) (a' := ?_) #[true, true, true, true, true, true, true, true, true, true, true, true, true, true, true, true, true, true, false, false, false, false, false, false, false, false] rfl rfl (any_of HT_.out (by kernel_rfl)) (fun _ _ _ h => h) (Or.inr ⟨by rfl, rfl⟩) ?_ ?_
      rotate_left
      ·
       simp only [Act.put, List.setIfInBounds_toArray, List.set_cons_zero, List.set_cons_succ, i64_w, i32_w]
       rfl
      refine pure_ (i := 18) (N := some 34) (v := undef) (a' := ?_) #[true, true, true, true, true, true, true, true, true, true, true, true, true, true, true, true, true, true, true, false, false, false, false, false, false, false] rfl rfl (any_of HT_.out (by kernel_rfl)) (fun _ _ _ h => h) (Or.inr ⟨by rfl, rfl⟩) ?_ ?_
      rotate_left
      ·
       simp only [Act.put, List.setIfInBounds_toArray, List.set_cons_zero, List.set_cons_succ, i64_w, i32_w]
       rfl
      refine pure_ (i := 19) (N := some 35) (v := undef) (a' := ?_) #[true, true, true, true, true, true, true, true, true, true, true, true, true, true, true, true, true, true, true, true, false, false, false, false, false, false] rfl rfl (any_of HT_.out (by kernel_rfl)) (fun _ _ _ h => h) (Or.inr ⟨by rfl, rfl⟩) ?_ ?_
      rotate_left
      ·
       simp only [Act.put, List.setIfInBounds_toArray, List.set_cons_zero, List.set_cons_succ, i64_w, i32_w]
       rfl
      refine pure_ (i := 20) (N := some 36) (v := undef) (a' := ?_) #[true, true, true, true, true, true, true, true, true, true, true, true, true, true, true, true, true, true, true, true, true, false, false, false, false, false] rfl rfl (any_of HT_.out (by kernel_rfl)) (fun _ _ _ h => h) (Or.inr ⟨by rfl, rfl⟩) ?_ ?_
      rotate_left
      ·
       simp only [Act.put, List.setIfInBounds_toArray, List.set_cons_zero, List.set_cons_succ, i64_w, i32_w]
       rfl
      refine pure_ (i := 21) (N := some 37) (v := undef) (a' := ?_) #[true, true, true, true, true, true, true, true, true, true, true, true, true, true, true, true, true, true, true, true, true, true, false, false, false, false] rfl rfl (any_of HT_.out (by kernel_rfl)) (fun _ _ _ h => h) (Or.inr ⟨by rfl, rfl⟩) ?_ ?_
      rotate_left
      ·
       simp only [Act.put, List.setIfInBounds_toArray, List.set_cons_zero, List.set_cons_succ, i64_w, i32_w]
       rfl
      refine pure_ (i := 22) (N := some 38) (v := undef) (a' := ?_) #[true, true, true, true, true, true, true, true, true, true, true, true, true, true, true, true, true, true, true, true, true, true, true, false, false, false] rfl rfl (any_of HT_.out (by kernel_rfl)) (fun _ _ _ h => h) (Or.inr ⟨by rfl, rfl⟩) ?_ ?_
      rotate_left
      ·
       simp only [Act.put, List.setIfInBounds_toArray, List.set_cons_zero, List.set_cons_succ, i64_w, i32_w]
       rfl
      refine pure_ (i := 23) (N := some 39) (v := undef) (a' := ?_) #[true, true, true, true, true, true, true, true, true, true, true, true, true, true, true, true, true, true, true, true, true, true, true, true, false, false] rfl rfl (any_of HT_.out (by kernel_rfl)) (fun _ _ _ h => h) (Or.inr ⟨by rfl, rfl⟩) ?_ ?_
      rotate_left
      ·
       simp only [Act.put, List.setIfInBounds_toArray, List.set_cons_zero, List.set_cons_succ, i64_w, i32_w]
       rfl
      refine pure_ (i := 24) (N := some 40) (v := ?_) (a' := ?_) #[true, true, true, true, true, true, true, true, true, true, true, true, true, true, true, true, true, true, true, true, true, true, true, true, true, false] rfl rfl (any_of HT_.out (by kernel_rfl)) (fun _ _ _ h => h) (Or.inl ⟨by rfl, ?_⟩) ?_ ?_
      rotate_left
      ·
       intro w'
       go_simp
       with_reducible rfl
      rotate_left
      ·
       simp only [Act.put, List.setIfInBounds_toArray, List.set_cons_zero, List.set_cons_succ, i64_w, i32_w]
       rfl
      refine pure_ (i := 25) (N := some 6) (v := ?_) (a' := ?_) #[true, true, true, true, true, true, true, true, true, true, true, true, true, true, true, true, true, true, true, true, true, true, true, true, true, true] rfl rfl (any_of HT_.out (by kernel_rfl)) (fun _ _ _ h => h) (Or.inl ⟨by rfl, ?_⟩) ?_ ?_
      rotate_left
      ·
       intro w'
       go_simp
       with_reducible rfl
      rotate_left
      ·
       simp only [Act.put, List.setIfInBounds_toArray, List.set_cons_zero, List.set_cons_succ, i64_w, i32_w]
       rfl
      refine done_ (done_of HT_.out (by kernel_rfl)) ?_
      try go_wp2
      go_ret
      exact ⟨by first | rfl | (simp [errW_none, errW_some] <;> rfl) | (simp [*, errW_none, errW_some] <;> rfl) | (simp [bneNil]; done), by repeat (first | (with_reducible first | exact HB.out | apply below_alloc | apply pw_below_drewN | apply below_drew1 | refine below_set ?_ GE195.out | refine below_set ?_ GE196.out) | exact HB.out)⟩
    ·
     replace c20 := Bool.eq_false_iff.mpr c20
     subst c20
     have H1 : (some true) = some r := by rw [if_neg (show ¬ (false = true) by decide)] at H; exact H
     clear H
     have H := H1
     clear H1
     obtain rfl := Option.some.inj H
     have hnb58 := NB196_195.out
     have hnc58 := NB195_196.out
     have hcz59_0 : wc.cell? ⟨gb196, 0, none⟩ = some (.int .u64 a1_0) := (blk_cell BK196.out 0).trans rfl
     have hcz59_1 : wc.cell? ⟨gb196, 1, none⟩ = some (.int .u64 a1_1) := (blk_cell BK196.out 1).trans rfl
     have hcz59_2 : wc.cell? ⟨gb196, 2, none⟩ = some (.int .u64 a1_2) := (blk_cell BK196.out 2).trans rfl
     have hcz59_3 : wc.cell? ⟨gb196, 3, none⟩ = some (.string a1_3) := (blk_cell BK196.out 3).trans rfl
     have hcz59_4 : wc.cell? ⟨gb196, 4, none⟩ = some (.string a1_4) := (blk_cell BK196.out 4).trans rfl
     have hfz59_0 := blk_frozen BK196.out 0
     have hfz59_1 := blk_frozen BK196.out 1
     have hfz59_2 := blk_frozen BK196.out 2
     have hfz59_3 := blk_frozen BK196.out 3
     have hfz59_4 := blk_frozen BK196.out 4
     try go_wp2
     have n0_ : Aside0 ((wc.setCell ⟨gb196, 3, none⟩ (.string (⟨#[]⟩ : ByteArray))).heap[gb195]? = some (.cells #[.int .i64 a0_0, .int .i64 a0_1, .int .u64 a0_2, .int .u64 a0_3, .int .u64 a0_4, .string a0_5] 24 (0, 0))) := ⟨by (with_reducible repeat (first | refine blk_drewN ?_ _ | refine blk_drew ?_ | refine blk_alloc ?_ _)); refine blk_far ?_ NB195_196.out _; (with_reducible repeat (first | refine blk_drewN ?_ _ | refine blk_drew ?_ | refine blk_alloc ?_ _)); exact BK195.out⟩
     have n1_ : Aside0 ((wc.setCell ⟨gb196, 3, none⟩ (.string (⟨#[]⟩ : ByteArray))).heap[gb196]? = some (.cells #[.int .u64 a1_0, .int .u64 a1_1, .int .u64 a1_2, .string (⟨#[]⟩ : ByteArray), .string a1_4] 26 (0, 0))) := ⟨by (with_reducible repeat (first | refine blk_drewN ?_ _ | refine blk_drew ?_ | refine blk_alloc ?_ _)); refine blk_put (cs := #[.int .u64 a1_0, .int .u64 a1_1, .int .u64 a1_2, .string a1_3, .string a1_4]) ?_ 3 _ rfl; (with_reducible repeat (first | refine blk_drewN ?_ _ | refine blk_drew ?_ | refine blk_alloc ?_ _)); exact BK196.out⟩
     have n2_ : Aside0 (Below w.heap.size w (wc.setCell ⟨gb196, 3, none⟩ (.string (⟨#[]⟩ : ByteArray)))) := ⟨by repeat (first | (with_reducible first | exact HB.out | apply below_alloc | apply pw_below_drewN | apply below_drew1 | refine below_set ?_ GE195.out | refine below_set ?_ GE196.out) | exact HB.out)⟩
     (try clear BK195)
     (try clear BK196)
     (try clear HB)
     generalize (wc.setCell ⟨gb196, 3, none⟩ (.string (⟨#[]⟩ : ByteArray))) = w60 at n0_ n1_ n2_ ⊢
     have BK195 := n0_
     have BK196 := n1_
     have HB := n2_
     clear n0_ n1_ n2_
     have n0_ := Aside0.mk (blk_drew BK195.out)
     have n1_ := Aside0.mk (blk_drew BK196.out)
     have n2_ := Aside0.mk (below_drew1 HB.out)
     clear BK195
     clear BK196
     clear HB
     have BK195 := n0_
     have BK196 := n1_
     have HB := n2_
     clear n0_ n1_ n2_
     refine start_ (n := 26) (S := fun w' => w'.cell? ⟨gb195, 0, none⟩ = some (.int .i64 a0_0) ∧ w'.cell? ⟨gb195, 1, none⟩ = some (.int .i64 a0_1) ∧ w'.cell? ⟨gb195, 2, none⟩ = some (.int .u64 a0_2) ∧ w'.cell? ⟨gb195, 3, none⟩ = some (.int .u64 a0_3) ∧ w'.cell? ⟨gb195, 4, none⟩ = some (.int .u64 a0_4) ∧ w'.cell? ⟨gb195, 5, none⟩ = some (.string a0_5)) (ds := []) #[false, false, false, false, false, false, false, false, false, false, false, false, false, false, false, false, false, false, false, false, false, false, false, false, false, false] (by kernel_rfl) rfl rfl ⟨(blk_cell BK195.out 0).trans rfl, (blk_cell BK195.out 1).trans rfl, (blk_cell BK195.out 2).trans rfl, (blk_cell BK195.out 3).trans rfl, (blk_cell BK195.out 4).trans rfl, (blk_cell BK195.out 5).trans rfl⟩ (fun hHeld => ?_); refine with_tabW laws_FnSemverTermHolds.tab4 laws_FnSemverTermHolds.bits4 (fun HT_ HW_ => ?_)
     generalize w60.drew = w61 at BK195 BK196 HB hHeld ⊢
     refine take_ (i := 0) (N := some 16) (v := ?_) (a' := ?_) #[true, false, false, false, false, false, false, false, false, false, false, false, false, false, false, false, false, false, false, false, false, false, false, false, false, false] rfl rfl (take_ofW HT_.out HW_.out (by kernel_rfl)) (fun _ _ _ h => h) (Or.inl ⟨by rfl, ?_⟩) hHeld ?_ ?_
     rotate_left
     ·
      rintro w' ⟨s0, s1, s2, s3, s4, s5⟩
      go_simp
      with_reducible rfl
     rotate_left
     ·
      simp only [Act.put, List.setIfInBounds_toArray, List.set_cons_zero, List.set_cons_succ, i64_w, i32_w]
      rfl
     refine one_ (i := 1) (N := some 17) #[true, true, false, false, false, false, false, false, false, false, false, false, false, false, false, false, false, false, false, false, false, false, false, false, false, false] rfl rfl (one_of HT_.out (by kernel_rfl)) (by decide) (fun K hK => ?_)
     refine goes_ Tryd.func15 (by kernel_rfl) rfl #[.agg #[.int .i64 a0_0, .int .i64 a0_1, .int .u64 a0_2, .int .u64 a0_3, .int .u64 a0_4, .string a0_5]] (by rfl) rfl rfl (by (try simp only [List.map_toArray, List.map_cons, List.map_nil]); first | done | rfl | (simp only [List.length_drop, List.length_take]; rfl)) ?_
     with_reducible refine (spec_GoodTerm.calls kj3 a0_0 a0_1 a0_2 a0_3 a0_4 a0_5 false _ A19.out).mono ?_
     rintro e w62 ⟨rfl, hb⟩
     refine ⟨_, rfl, ?_⟩
     have n0_ := Aside0.mk (blk_below (g := gb195) (o := .cells #[.int .i64 a0_0, .int .i64 a0_1, .int .u64 a0_2, .int .u64 a0_3, .int .u64 a0_4, .string a0_5] 24 (0, 0)) (by (with_reducible repeat (first | refine blk_drewN ?_ _ | refine blk_drew ?_ | refine blk_alloc ?_ _)); exact BK195.out) hb)
     have n1_ := Aside0.mk (blk_below (g := gb196) (o := .cells #[.int .u64 a1_0, .int .u64 a1_1, .int .u64 a1_2, .string (⟨#[]⟩ : ByteArray), .string a1_4] 26 (0, 0)) (by (with_reducible repeat (first | refine blk_drewN ?_ _ | refine blk_drew ?_ | refine blk_alloc ?_ _)); exact BK196.out) hb)
     have n2_ := Aside0.mk (below_step (by repeat (first | (with_reducible first | exact HB.out | apply below_alloc | apply pw_below_drewN | apply below_drew1 | refine below_set ?_ GE195.out | refine below_set ?_ GE196.out) | exact HB.out)) hb)
     clear BK195
     clear BK196
     clear HB
     have BK195 := n0_
     have BK196 := n1_
     have HB := n2_
     clear n0_ n1_ n2_
     (try clear hb)
     (try clear hb2)
     (try clear hk)
     (try clear hi)
     refine hK.out _ _ ⟨(blk_cell BK195.out 0).trans rfl, (blk_cell BK195.out 1).trans rfl, (blk_cell BK195.out 2).trans rfl, (blk_cell BK195.out 3).trans rfl, (blk_cell BK195.out 4).trans rfl, (blk_cell BK195.out 5).trans rfl⟩ (fun hHeld => ?_)
     clear hK K
     refine norm_ (a' := ?_) ?_ ?_
     rotate_left
     ·
      show Act.put _ (some 17) _ = _
      simp only [Act.put, List.setIfInBounds_toArray, List.set_cons_zero, List.set_cons_succ, i64_w, i32_w]
      rfl
     refine pure_ (i := 2) (N := some 18) (v := ?_) (a' := ?_) #[true, true, true, false, false, false, false, false, false, false, false, false, false, false, false, false, false, false, false, false, false, false, false, false, false, false] rfl rfl (any_of HT_.out (by kernel_rfl)) (fun _ _ _ h => h) (Or.inl ⟨by rfl, ?_⟩) ?_ ?_
     rotate_left
     ·
      intro w'
      go_simp
      with_reducible rfl
     rotate_left
     ·
      simp only [Act.put, List.setIfInBounds_toArray, List.set_cons_zero, List.set_cons_succ, i64_w, i32_w]
      rfl
     refine pure_ (i := 3) (N := some 19) (v := ?_) (a' := ?_) #[true, true, true, true, false, false, false, false, false, false, false, false, false, false, false, false, false, false, false, false, false, false, false, false, false, false] rfl rfl (any_of HT_.out (by kernel_rfl)) (fun _ _ _ h => h) (Or.inl ⟨by rfl, ?_⟩) ?_ ?_
     rotate_left
     ·
      intro w'
      go_simp
      with_reducible rfl
     rotate_left
     ·
      simp only [Act.put, List.setIfInBounds_toArray, List.set_cons_zero, List.set_cons_succ, i64_w, i32_w]
      rfl
     refine pure_ (i := 4) (N := some 20) (v := undef) (a' := ?_) #[true, true, true, true, true, false, false, false, false, false, false, false, false, false, false, false, false, false, false, false, false, false, false, false, false, false] rfl rfl (any_of HT_.out (by kernel_rfl)) (fun _ _ _ h => h) (Or.inr ⟨by rfl, rfl⟩) ?_ ?_
     rotate_left
     ·
      simp only [Act.put, List.setIfInBounds_toArray, List.set_cons_zero, List.set_cons_succ, i64_w, i32_w]
      rfl
     refine pure_ (i := 5) (N := some 21) (v := undef) (a' := ?_) #[true, true, true, true, true, true, false, false, false, false, false, false, false, false, false, false, false, false, false, false, false, false, false, false, false, false] rfl rfl (any_of HT_.out (by kernel_rfl)) (fun _ _ _ h => h) (Or.inr ⟨by rfl, rfl⟩) ?_ ?_
     rotate_left
     ·
      simp only [Act.put, List.setIfInBounds_toArray, List.set_cons_zero, List.set_cons_succ, i64_w, i32_w]
      rfl
     refine pure_ (i := 6) (N := some 22) (v := undef) (a' := ?_) #[true, true, true, true, true, true, true, false, false, false, false, false, false, false, false, false, false, false, false, false, false, false, false, false, false, false] rfl rfl (any_of HT_.out (by kernel_rfl)) (fun _ _ _ h => h) (Or.inr ⟨by rfl, rfl⟩) ?_ ?_
     rotate_left
     ·
      simp only [Act.put, List.setIfInBounds_toArray, List.set_cons_zero, List.set_cons_succ, i64_w, i32_w]
      rfl
     refine pure_ (i := 7) (N := some 23) (v := undef) (a' := ?_) #[true, true, true, true, true, true, true, true, false, false, false, false, false, false, false, false, false, false, false, false, false, false, false, false, false, false] rfl rfl (any_of HT_.out (by kernel_rfl)) (fun _ _ _ h => h) (Or.inr ⟨by rfl, rfl⟩) ?_ ?_
     rotate_left
     ·
      simp only [Act.put, List.setIfInBounds_toArray, List.set_cons_zero, List.set_cons_succ, i64_w, i32_w]
      rfl
     refine pure_ (i := 8) (N := some 24) (v := ?_) (a' := ?_) #[true, true, true, true, true, true, true, true, true, false, false, false, false, false, false, false, false, false, false, false, false, false, false, false, false, false] rfl rfl (any_of HT_.out (by kernel_rfl)) (fun _ _ _ h => h) (Or.inl ⟨by rfl, ?_⟩) ?_ ?_
     rotate_left
     ·
      intro w'
      go_simp
      with_reducible rfl
     rotate_left
     ·
      simp only [Act.put, List.setIfInBounds_toArray, List.set_cons_zero, List.set_cons_succ, i64_w, i32_w]
      rfl
     refine pure_ (i := 9) (N := some 25) (v := ?_) (a' := ?_) #[true, true, true, true, true, true, true, true, true, true, false, false, false, false, false, false, false, false, false, false, false, false, false, false, false, false] rfl rfl (any_of HT_.out (by kernel_rfl)) (fun _ _ _ h => h) (Or.inl ⟨by rfl, ?_⟩) ?_ ?_
     rotate_left
     ·
      intro w'
      go_simp
      with_reducible rfl
     rotate_left
     ·
      simp only [Act.put, List.setIfInBounds_toArray, List.set_cons_zero, List.set_cons_succ, i64_w, i32_w]
      rfl
     refine pure_ (i := 10) (N := some 26) (v := undef) (a' := ?_) #[true, true, true, true, true, true, true, true, true, true, true, false, false, false, false, false, false, false, false, false, false, false, false, false, false, false] rfl rfl (any_of HT_.out (by kernel_rfl)) (fun _ _ _ h => h) (Or.inr ⟨by rfl, rfl⟩) ?_ ?_
     rotate_left
     ·
      simp only [Act.put, List.setIfInBounds_toArray, List.set_cons_zero, List.set_cons_succ, i64_w, i32_w]
      rfl
     refine pure_ (i := 11) (N := some 27) (v := undef) (a' := ?_) #[true, true, true, true, true, true, true, true, true, true, true, true, false, false, false, false, false, false, false, false, false, false, false, false, false, false] rfl rfl (any_of HT_.out (by kernel_rfl)) (fun _ _ _ h => h) (Or.inr ⟨by rfl, rfl⟩) ?_ ?_
     rotate_left
     ·
      simp only [Act.put, List.setIfInBounds_toArray, List.set_cons_zero, List.set_cons_succ, i64_w, i32_w]
      rfl
     refine pure_ (i := 12) (N := some 28) (v := undef) (a' := ?_) #[true, true, true, true, true, true, true, true, true, true, true, true, true, false, false, false, false, false, false, false, false, false, false, false, false, false] rfl rfl (any_of HT_.out (by kernel_rfl)) (fun _ _ _ h => h) (Or.inr ⟨by rfl, rfl⟩) ?_ ?_
     rotate_left
     ·
      simp only [Act.put, List.setIfInBounds_toArray, List.set_cons_zero, List.set_cons_succ, i64_w, i32_w]
      rfl
     refine pure_ (i := 13) (N := some 29) (v := undef) (a' := ?_) #[true, true, true, true, true, true, true, true, true, true, true, true, true, true, false, false, false, false, false, false, false, false, false, false, false, false] rfl rfl (any_of HT_.out (by kernel_rfl)) (fun _ _ _ h => h) (Or.inr ⟨by rfl, rfl⟩) ?_ ?_
     rotate_left
     ·
      simp only [Act.put, List.setIfInBounds_toArray, List.set_cons_zero, List.set_cons_succ, i64_w, i32_w]
      rfl
     refine pure_ (i := 14) (N := some 30) (v := ?_) (a' := ?_) #[true, true, true, true, true, true, true, true, true, true, true, true, true, true, true, false, false, false, false, false, false, false, false, false, false, false] rfl rfl (any_of HT_.out (by kernel_rfl)) (fun _ _ _ h => h) (Or.inl ⟨by rfl, ?_⟩) ?_ ?_
     rotate_left
     ·
      intro w'
      go_simp
      with_reducible rfl
     rotate_left
     ·
      simp only [Act.put, List.setIfInBounds_toArray, List.set_cons_zero, List.set_cons_succ, i64_w, i32_w]
      rfl
     refine pure_ (i := 15) (N := some 31) (v := ?_) (a' := ?_) #[true, true, true, true, true, true, true, true, true, true, true, true, true, true, true, true, false, false, false, false, false, false, false, false, false, false] rfl rfl (any_of HT_.out (by kernel_rfl)) (fun _ _ _ h => h) (Or.inl ⟨by rfl, ?_⟩) ?_ ?_
     rotate_left
     ·
      intro w'
      go_simp
      with_reducible rfl
     rotate_left
     ·
      simp only [Act.put, List.setIfInBounds_toArray, List.set_cons_zero, List.set_cons_succ, i64_w, i32_w]
      rfl
     refine pure_ (i := 16) (N := some 32) (v := undef) (a' := ?_) #[true, true, true, true, true, true, true, true, true, true, true, true, true, true, true, true, true, false, false, false, false, false, false, false, false, false] rfl rfl (any_of HT_.out (by kernel_rfl)) (fun _ _ _ h => h) (Or.inr ⟨by rfl, rfl⟩) ?_ ?_
     rotate_left
     ·
      simp only [Act.put, List.setIfInBounds_toArray, List.set_cons_zero, List.set_cons_succ, i64_w, i32_w]
      rfl
     refine pure_ (i := 17) (N := some 33) (v := undef) (a' := ?_) #[true, true, true, true, true, true, true, true, true, true, true, true, true, true, true, true, true, true, false, false, false, false, false, false, false, false] rfl rfl (any_of HT_.out (by kernel_rfl)) (fun _ _ _ h => h) (Or.inr ⟨by rfl, rfl⟩) ?_ ?_
     rotate_left
     ·
      simp only [Act.put, List.setIfInBounds_toArray, List.set_cons_zero, List.set_cons_succ, i64_w, i32_w]
      rfl
     refine pure_ (i := 18) (N := some 34) (v := undef) (a' := ?_) #[true, true, true, true, true, true, true, true, true, true, true, true, true, true, true, true, true, true, true, false, false, false, false, false, false, false] rfl rfl (any_of HT_.out (by kernel_rfl)) (fun _ _ _ h => h) (Or.inr ⟨by rfl, rfl⟩) ?_ ?_
     rotate_left
     ·
      simp only [Act.put, List.setIfInBounds_toArray, List.set_cons_zero, List.set_cons_succ, i64_w, i32_w]
      rfl
     refine pure_ (i := 19) (N := some 35) (v := undef) (a' := ?_) #[true, true, true, true, true, true, true, true, true, true, true, true, true, true, true, true, true, true, true, true, false, false, false, false, false, false] rfl rfl (any_of HT_.out (by kernel_rfl)) (fun _ _ _ h => h) (Or.inr ⟨by rfl, rfl⟩) ?_ ?_
     rotate_left
     ·
      simp only [Act.put, List.setIfInBounds_toArray, List.set_cons_zero, List.set_cons_succ, i64_w, i32_w]
      rfl
     refine pure_ (i := 20) (N := some 36) (v := undef) (a' := ?_) #[true, true, true, true, true, true, true, true, true, true, true, true, true, true, true, true, true, true, true, true, true, false, false, false, false, false] rfl rfl (any_of HT_.out (by kernel_rfl)) (fun _ _ _ h => h) (Or.inr ⟨by rfl, rfl⟩) ?_ ?_
     rotate_left
     ·
      simp only [Act.put, List.setIfInBounds_toArray, List.set_cons_zero, List.set_cons_succ, i64_w, i32_w]
      rfl
     refine pure_ (i := 21) (N := some 37) (v := undef) (a' := ?_) #[true, true, true, true, true, true, true, true, true, true, true, true, true, true, true, true, true, true, true, true, true, true, false, false, false, false] rfl rfl (any_of HT_.out (by kernel_rfl)) (fun _ _ _ h => h) (Or.inr ⟨by rfl, rfl⟩) ?_ ?_
     rotate_left
     ·
      simp only [Act.put, List.setIfInBounds_toArray, List.set_cons_zero, List.set_cons_succ, i64_w, i32_w]
      rfl
     refine pure_ (i := 22) (N := some 38) (v := undef) (a' := ?_) #[true, true, true, true, true, true, true, true, true, true, true, true, true, true, true, true, true, true, true, true, true, true, true, false, false, false] rfl rfl (any_of HT_.out (by kernel_rfl)) (fun _ _ _ h => h) (Or.inr ⟨by rfl, rfl⟩) ?_ ?_
     rotate_left
     ·
      simp only [Act.put, List.setIfInBounds_toArray, List.set_cons_zero, List.set_cons_succ, i64_w, i32_w]
      rfl
     refine pure_ (i := 23) (N := some 39) (v := undef) (a' := ?_) #[true, true, true, true, true, true, true, true, true, true, true, true, true, true, true, true, true, true, true, true, true, true, true, true, false, false] rfl rfl (any_of HT_.out (by kernel_rfl)) (fun _ _ _ h => h) (Or.inr ⟨by rfl, rfl⟩) ?_ ?_
     rotate_left
     ·
      simp only [Act.put, List.setIfInBounds_toArray, List.set_cons_zero, List.set_cons_succ, i64_w, i32_w]
      rfl
     refine pure_ (i := 24) (N := some 40) (v := ?_) (a' := ?_) #[true, true, true, true, true, true, true, true, true, true, true, true, true, true, true, true, true, true, true, true, true, true, true, true, true, false] rfl rfl (any_of HT_.out (by kernel_rfl)) (fun _ _ _ h => h) (Or.inl ⟨by rfl, ?_⟩) ?_ ?_
     rotate_left
     ·
      intro w'
      go_simp
      with_reducible rfl
     rotate_left
     ·
      simp only [Act.put, List.setIfInBounds_toArray, List.set_cons_zero, List.set_cons_succ, i64_w, i32_w]
      rfl
     refine pure_ (i := 25) (N := some 6) (v := ?_) (a' := ?_) #[true, true, true, true, true, true, true, true, true, true, true, true, true, true, true, true, true, true, true, true, true, true, true, true, true, true] rfl rfl (any_of HT_.out (by kernel_rfl)) (fun _ _ _ h => h) (Or.inl ⟨by rfl, ?_⟩) ?_ ?_
     rotate_left
     ·
      intro w'
      go_simp
      with_reducible rfl
     rotate_left
     ·
      simp only [Act.put, List.setIfInBounds_toArray, List.set_cons_zero, List.set_cons_succ, i64_w, i32_w]
      rfl
     refine done_ (done_of HT_.out (by kernel_rfl)) ?_
     try go_wp2
     go_ret
     exact ⟨by first | rfl | (simp [errW_none, errW_some] <;> rfl) | (simp [*, errW_none, errW_some] <;> rfl) | (simp [bneNil]; done), by repeat (first | (with_reducible first | exact HB.out | apply below_alloc | apply pw_below_drewN | apply below_drew1 | refine below_set ?_ GE195.out | refine below_set ?_ GE196.out) | exact HB.out)⟩

end Go.Proofs.YtllkoadcpobdaaaDoor.PX
namespace Go.Proofs.YtllkoadcpobdaaaDoor.KX

open Go.RowKit Go.Lib Go.Proofs Go.Proofs.YtllkoadcpobdaaaDoor.Base Go.Proofs.YtllkoadcpobdaaaDoor.L Go.Proofs.YtllkoadcpobdaaaDoor.Bt Go.Proofs.YtllkoadcpobdaaaDoor.PX

theorem beqI (a b : Nat) : ((a : Int) == (b : Int)) = decide (a = b) := by
  rw [Bool.eq_iff_iff, beq_iff_eq, decide_eq_true_eq]; omega

theorem beqI0 (a : Nat) : ((a : Int) == 0) = decide (a = 0) := beqI a 0

theorem tilde_law (v n : Ver) (gv : Int) (pre : Bool) (h1 : 1 ≤ gv) (h3 : gv ≤ 3) (hz : gv = 3 → ¬ (n.ma = 0 ∧ n.mi = 0 ∧ n.pa = 0)) (hs : (pre || (v.pre.toList == [])) = true) :
    tildeB v n (gv == 1) (decide (gv < 3)) (gv == 2) pre = (decide (0 ≤ verC v n) && (decide (v.ma = n.ma) && (decide (gv = 1) || decide (v.mi = n.mi)))) := by
  unfold tildeB lessB cTilde_r
  have e : decide (verC v n < 0) = !decide (0 ≤ verC v n) := by
    rw [Bool.eq_iff_iff, Bool.not_eq_true', decide_eq_true_eq, decide_eq_false_iff_not]; omega
  rw [beqI0, beqI0, beqI0, beqI, beqI, e]
  generalize decide (0 ≤ verC v n) = L
  generalize (v.pre.toList == []) = q at *
  obtain rfl | rfl | rfl : gv = 1 ∨ gv = 2 ∨ gv = 3 := by omega
  · generalize decide (v.ma = n.ma) = M; generalize decide (v.mi = n.mi) = I; generalize decide (n.ma = 0) = Z0; generalize decide (n.mi = 0) = Z1; generalize decide (n.pa = 0) = Z2
    revert hs L q pre M I Z0 Z1 Z2; decide
  · generalize decide (v.ma = n.ma) = M; generalize decide (v.mi = n.mi) = I; generalize decide (n.ma = 0) = Z0; generalize decide (n.mi = 0) = Z1; generalize decide (n.pa = 0) = Z2
    revert hs L q pre M I Z0 Z1 Z2; decide
  · have hz := hz rfl
    have hz' : (decide (n.ma = 0) && decide (n.mi = 0) && decide (n.pa = 0)) = false := by
      rw [Bool.eq_false_iff]
      intro h
      simp only [Bool.and_eq_true, decide_eq_true_eq] at h
      exact hz ⟨h.1.1, h.1.2, h.2⟩
    clear hz
    generalize decide (v.ma = n.ma) = M; generalize decide (v.mi = n.mi) = I; generalize decide (n.ma = 0) = Z0 at *; generalize decide (n.mi = 0) = Z1 at *; generalize decide (n.pa = 0) = Z2 at *
    revert hs hz' L q pre M I Z0 Z1 Z2; decide

end Go.Proofs.YtllkoadcpobdaaaDoor.KX
