/- The statement FnRefFamiliarTwice: what the inner making of familiar names gives it does not change again. For every domain and path. -/
import Derived.Test.YtekmeoemnekmcaaRuneRef
import Derived.Test.YtekmeoemnekmcaaPFnRefFamiliarTwicex1
import Derived.Test.YtekmeoemnekmcaaBase
namespace Go.Proofs.Ytekmeoemnekmcaa.Fam
open Go.RowKit Go.Lib Go.Proofs Go.Proofs.Ytekmeoemnekmcaa.PFnRefFamiliarTwice Go.Proofs.Ytekmeoemnekmcaa.RuneRef
open Go.Proofs.YtekmeoemnekmcaaW.PrintWords Go.Proofs.YtekmeoemnekmcaaW.PrintLast Go.Proofs.YtekmeoemnekmcaaW.PrintMore
open Go.Proofs.Ytekmeoemnekmcaa.Base
attribute [local go_sem] setCell_drewN alloc_drewN

def hub : List UInt8 := [100, 111, 99, 107, 101, 114, 46, 105, 111]
def lib : ByteArray := ⟨#[108, 105, 98, 114, 97, 114, 121, 47]⟩
def hasP (p : ByteArray) : Bool := (strings_HasPrefix.f p lib).getD false
def trimP (p : ByteArray) : ByteArray := (strings_TrimPrefix.f p lib).getD p
def sl (s : ByteArray) : Bool := decide (0 ≤ Lib.idxFunc (fun c => decide (c = 47)) true s)
theorem hasP_eq (p : ByteArray) : strings_HasPrefix.f p lib = some (hasP p) := by
  unfold hasP
  have : ∃ r, strings_HasPrefix.f p lib = some r := by
    unfold strings_HasPrefix.f stringslite_HasPrefix.f
    split
    · split <;> (try (exfalso; omega)) <;> first | exact ⟨_, rfl⟩ | (split <;> first | exact ⟨_, rfl⟩ | (exfalso; omega))
    · exact ⟨_, rfl⟩
  obtain ⟨r, hr⟩ := this
  rw [hr]; rfl
theorem trimP_eq (p : ByteArray) : strings_TrimPrefix.f p lib = some (trimP p) := by
  unfold trimP
  have : ∃ r, strings_TrimPrefix.f p lib = some r := by
    have h := hasP_eq p
    unfold strings_HasPrefix.f at h
    obtain ⟨b, h1, h2⟩ := Option.bind_eq_some_iff.1 h
    unfold strings_TrimPrefix.f stringslite_TrimPrefix.f
    rw [h1]
    unfold stringslite_HasPrefix.f at h1
    cases b
    · exact ⟨_, rfl⟩
    · split at h1
      · rename_i hs
        have e : 0 ≤ (lib.size : Int) := by omega
        have e2 : (lib.size : Int) ≤ (p.size : Int) := by omega
        simp only [Option.bind_some, if_true, e, e2]; exact ⟨_, rfl⟩
      · simp at h1
  obtain ⟨r, hr⟩ := this
  rw [hr]; rfl
/-- The path behind it, where the domain is the hub. -/
def pth (p : ByteArray) : ByteArray := if hasP p = true then (if sl (trimP p) = true then p else trimP p) else p

set_option maxHeartbeats 1000000 in
set_option maxRecDepth 100000 in
theorem fam_other (d p : ByteArray) (h : d.toList ≠ hub) (w : World) :
    Calls Try.prog 6 #[.iface 26 (.agg #[.string d, .string p])] w fun e w' => e = .returned (.agg #[.string d, .string p]) ∧ Below w.heap.size w w' := by
  have hb : (d.toList == [100, 111, 99, 107, 101, 114, 46, 105, 111]) = false := beq_eq_false_iff_ne.2 h
  have hm : ∀ w : World, (method 150 26 (.agg #[.string d, .string p]) "Domain").run Try.prog w = .ok (28, .agg #[.string d, .string p]) w := fun _ => by kernel_rfl
  have hn : ∀ w : World, (method 150 26 (.agg #[.string d, .string p]) "Path").run Try.prog w = .ok (29, .agg #[.string d, .string p]) w := fun _ => by kernel_rfl
  clear h
  go_enter Try.func6, Try.ntmps6
  go_wp2
  exact bodyPost_ret (v := .agg #[.string d, .string p]) (by simp [results, Try.results6, go_sem]) rfl ⟨rfl, by first | (go_grown; done) | ((with_reducible refine dN ?_ _); go_grown)⟩

set_option maxHeartbeats 1000000 in
set_option maxRecDepth 100000 in
theorem fam_hub (d p : ByteArray) (h : d.toList = hub) (w : World) :
    Calls Try.prog 6 #[.iface 26 (.agg #[.string d, .string p])] w fun e w' => e = .returned (.agg #[.string ⟨#[]⟩, .string (pth p)]) ∧ Below w.heap.size w w' := by
  have hb : (d.toList == [100, 111, 99, 107, 101, 114, 46, 105, 111]) = true := beq_iff_eq.2 h
  have hm : ∀ w : World, (method 150 26 (.agg #[.string d, .string p]) "Domain").run Try.prog w = .ok (28, .agg #[.string d, .string p]) w := fun _ => by kernel_rfl
  have hn : ∀ w : World, (method 150 26 (.agg #[.string d, .string p]) "Path").run Try.prog w = .ok (29, .agg #[.string d, .string p]) w := fun _ => by kernel_rfl
  clear h
  have HP := Lib.hid (hasP_eq p)
  have HT := Lib.hid (trimP_eq p)
  cases hp : hasP p
  · have HF : Hid (pth p = p) := Lib.hid (by simp [pth, hp])
    rw [hp] at HP
    clear hp
    generalize pth p = q at *
    go_enter Try.func6, Try.ntmps6
    go_wp2_with (first | (go_at_call 7; refine (strings_HasPrefix.calls p lib false _ HP.out).mono ?_; rintro e w' ⟨rfl, ⟨nd, rfl⟩⟩) | go_in)
    exact bodyPost_ret (v := .agg #[.string ⟨#[]⟩, .string q]) (by simp [results, Try.results6, go_sem, HF.out]) rfl ⟨rfl, by first | (go_grown; done) | ((with_reducible refine dN ?_ _); go_grown)⟩
  · generalize htp : trimP p = t at *
    have cR := fun W => containsRune t 47 (by omega) W
    have HF : Hid (pth p = if sl t = true then p else t) := Lib.hid (by simp [pth, hp, htp])
    rw [hp] at HP
    clear hp htp
    generalize pth p = q at *
    cases hs : sl t
    · have HG : Hid (q = t) := Lib.hid (by rw [HF.out, hs]; rfl)
      clear HF
      unfold sl at hs
      rw [hs] at cR
      have CR := Lib.hid cR
      clear hs cR
      go_enter Try.func6, Try.ntmps6
      go_wp2_with (first | (go_at_call 7; refine (strings_HasPrefix.calls p lib true _ HP.out).mono ?_; rintro e w' ⟨rfl, ⟨nd, rfl⟩⟩) | (go_at_call 8; refine (strings_TrimPrefix.calls p lib t _ HT.out).mono ?_; rintro e w' ⟨rfl, ⟨ne, rfl⟩⟩) | (go_at_call 9; refine (CR.out _).mono ?_; rintro e w' ⟨rfl, hb2⟩; obtain ⟨hc, hf⟩ := bcell hb2; have hz := hb2.size; simp at hz) | go_in)
      have hbw : Below w.heap.size w w' := (show Below w.heap.size w _ by first | (go_grown; done) | ((with_reducible refine dN ?_ _); go_grown)).trans (hb2.mono (by simp; omega))
      have c0 : w'.cell? ⟨w.heap.size, 0, none⟩ = some (.string ⟨#[]⟩) := by rw [hc _ _ (by simp; omega)]; simp [go_sem]
      have c1 : w'.cell? ⟨w.heap.size, 1, none⟩ = some (.string ⟨#[]⟩) := by rw [hc _ _ (by simp; omega)]; simp [go_sem]
      clear hc hf hb2
      exact bodyPost_ret (v := .agg #[.string ⟨#[]⟩, .string q]) (by simp [results, Try.results6, go_sem, HG.out, c0, c1]) rfl ⟨rfl, by first | (go_grown; done) | ((with_reducible refine dN ?_ _); go_grown)⟩
    · have HG : Hid (q = p) := Lib.hid (by rw [HF.out, hs]; rfl)
      clear HF
      unfold sl at hs
      rw [hs] at cR
      have CR := Lib.hid cR
      clear hs cR
      go_enter Try.func6, Try.ntmps6
      go_wp2_with (first | (go_at_call 7; refine (strings_HasPrefix.calls p lib true _ HP.out).mono ?_; rintro e w' ⟨rfl, ⟨nd, rfl⟩⟩) | (go_at_call 8; refine (strings_TrimPrefix.calls p lib t _ HT.out).mono ?_; rintro e w' ⟨rfl, ⟨ne, rfl⟩⟩) | (go_at_call 9; refine (CR.out _).mono ?_; rintro e w' ⟨rfl, hb2⟩; obtain ⟨hc, hf⟩ := bcell hb2; have hz := hb2.size; simp at hz) | go_in)
      have hbw : Below w.heap.size w w' := (show Below w.heap.size w _ by first | (go_grown; done) | ((with_reducible refine dN ?_ _); go_grown)).trans (hb2.mono (by simp; omega))
      have c0 : w'.cell? ⟨w.heap.size, 0, none⟩ = some (.string ⟨#[]⟩) := by rw [hc _ _ (by simp; omega)]; simp [go_sem]
      have c1 : w'.cell? ⟨w.heap.size, 1, none⟩ = some (.string ⟨#[]⟩) := by rw [hc _ _ (by simp; omega)]; simp [go_sem]
      clear hc hf hb2
      exact bodyPost_ret (v := .agg #[.string ⟨#[]⟩, .string q]) (by simp [results, Try.results6, go_sem, HG.out, c0, c1]) rfl ⟨rfl, by first | (go_grown; done) | ((with_reducible refine dN ?_ _); go_grown)⟩

end Go.Proofs.Ytekmeoemnekmcaa.Fam
