/- The row and the tied card of FnSemverSetOriginal, out of its printed walk and its plain law. For every input that the statement lets in. -/
import Derived.Test.YtjgedenoaocfjaaGreatDoorZCardSemverSetOriginal0
import Derived.Test.YtjgedenoaocfjaaGreatDoorZCardSemverSetOriginal38
import Derived.Test.YtjgedenoaocfjaaGreatDoorZCardSemverSetOriginal39
namespace Go.Proofs.YtjgedenoaocfjaaGreatDoor.Base
end Go.Proofs.YtjgedenoaocfjaaGreatDoor.Base
namespace Go.Proofs.YtjgedenoaocfjaaGreatDoor.L
end Go.Proofs.YtjgedenoaocfjaaGreatDoor.L
namespace Go.Proofs.YtjgedenoaocfjaaGreatDoor.Rx
end Go.Proofs.YtjgedenoaocfjaaGreatDoor.Rx
namespace Go.Proofs.YtjgedenoaocfjaaGreatDoor.Rxw

open Go Go.RowKit Go.Lib Go.Proofs Go.Proofs.YtjgedenoaocfjaaGreatDoor.Base Go.Proofs.YtjgedenoaocfjaaGreatDoor.Rx

/-- An instruction as a run of one; its letters lie in one of the blocks behind B. -/
def riOf (C : List (List Int)) (B : Nat) (i : Ins) : RI := if i.cls = [] then ⟨i.op, i.out, i.arg, none, 0, 0⟩ else ⟨i.op, i.out, i.arg, some ⟨B + C.idxOf i.cls, 0, none⟩, i.cls.length, i.cls.length⟩

theorem riOf_op (C B i) : (riOf C B i).op = i.op := by unfold riOf; split <;> rfl

theorem riOf_out (C B i) : (riOf C B i).out = i.out := by unfold riOf; split <;> rfl

theorem riOf_arg (C B i) : (riOf C B i).arg = i.arg := by unfold riOf; split <;> rfl

theorem flat9 : ∀ (rs : List RI) (j : Nat) (r : RI) (i : Nat), rs[j]? = some r → i < 9 → (rs.flatMap RI.cells)[j * 9 + i]? = r.cells[i]?
  | [], _, _, _, h, _ => by simp at h
  | x :: rs, 0, r, i, h, hi => by
    simp at h
    subst h
    rw [List.flatMap_cons, List.getElem?_append_left (by simp [RI.cells]; omega)]
    simp
  | x :: rs, j + 1, r, i, h, hi => by
    rw [List.flatMap_cons, List.getElem?_append_right (by simp [RI.cells]; omega)]
    have := flat9 rs j r i (by simpa using h) hi
    rw [← this]
    congr 1
    simp [RI.cells]
    omega

theorem flat4 : ∀ (rs : List RI) (j : Nat) (r : RI) (i : Nat), rs[j]? = some r → i < 4 → (rs.flatMap RI.inst)[j * 4 + i]? = r.inst[i]?
  | [], _, _, _, h, _ => by simp at h
  | x :: rs, 0, r, i, h, hi => by
    simp at h
    subst h
    rw [List.flatMap_cons, List.getElem?_append_left (by simp [RI.inst]; omega)]
    simp
  | x :: rs, j + 1, r, i, h, hi => by
    rw [List.flatMap_cons, List.getElem?_append_right (by simp [RI.inst]; omega)]
    have := flat4 rs j r i (by simpa using h) hi
    rw [← this]
    congr 1
    simp [RI.inst]
    omega

theorem own_some4 {w : World} {B n : Nat} {e : TypeId} {v : Value} {xs : List Value} (h : w.ownsRow B e 4 v n xs) (hn : 0 < n) : ∃ g c, v = .slice (some ⟨g, 0, none⟩) n c ∧ B ≤ g ∧ g < w.heap.size ∧ ∀ j u, xs[j]? = some u → w.cell? ⟨g, j, none⟩ = some u := by
  have hc := fun g (hg : v.ownBlock = some g) => h.cells hg
  rcases h.2 with ⟨rfl, h0⟩ | ⟨g, cap, cur, rfl, h1, h2, h3⟩
  · omega
  · refine ⟨g, cap, rfl, h1, (Array.getElem?_eq_some_iff.1 h2).1, fun j u hu => ?_⟩
    have := hc g rfl j u hu
    have e : (⟨g, 0, none⟩ : Addr).add j = ⟨g, j, none⟩ := by
      unfold Addr.add
      split
      · rename_i h0; subst h0; rfl
      · simp
    rwa [e] at this

/-- The checks of a program's classes that the kernel can run. -/
def clsOk (C : List (List Int)) (P : List Ins) : Bool := P.all fun i => if i.op = 7 ∨ i.op = 8 then decide (i.cls ≠ [] ∧ C.idxOf i.cls < C.length ∧ i.out < 4294967296 ∧ i.arg < 4294967296) else decide (i.cls = [] ∧ i.out < 4294967296 ∧ i.arg < 4294967296)

theorem clsOk_small {C P} (h : clsOk C P = true) (B : Nat) : ∀ r ∈ P.map (riOf C B), r.out < 4294967296 ∧ r.arg < 4294967296 := by
  intro r hr
  obtain ⟨i, hi, rfl⟩ := List.mem_map.1 hr
  rw [riOf_out, riOf_arg]
  have := List.all_eq_true.1 h i hi
  split at this
  · rw [decide_eq_true_iff] at this; exact this.2.2
  · rw [decide_eq_true_iff] at this; exact this.2

/-- What lies where the instructions were laid. -/
theorem laid_at {P : List Ins} {C : List (List Int)} {B ib : Nat} {w : World} (hcell : ∀ j u, ((P.map (riOf C B)).flatMap RI.inst)[j]? = some u → w.cell? ⟨ib, j, none⟩ = some u) (hC : clsOk C P = true)
    (hB : B + C.length ≤ w.heap.size) (hcl : ∀ k (l : List Int), C[k]? = some l → Cells w (B + k) l) (pc : Nat) (i : Ins) (hi : P[pc]? = some i) :
    w.cell? ⟨ib, pc * 4, none⟩ = some (.int .u8 i.op) ∧ w.cell? ⟨ib, pc * 4 + 1, none⟩ = some (.int .u32 i.out) ∧ w.cell? ⟨ib, pc * 4 + 2, none⟩ = some (.int .u32 i.arg) ∧
      (i.op = 7 ∨ i.op = 8 → ∃ rb c, rb < w.heap.size ∧ w.cell? ⟨ib, pc * 4 + 3, none⟩ = some (.slice (some ⟨rb, 0, none⟩) i.cls.length c) ∧ Cells w rb i.cls) := by
  have hr : (P.map (riOf C B))[pc]? = some (riOf C B i) := by rw [List.getElem?_map, hi]; rfl
  have h0 := hcell (pc * 4 + 0) _ ((flat4 _ pc _ 0 hr (by decide)).trans rfl)
  have h1 := hcell (pc * 4 + 1) _ ((flat4 _ pc _ 1 hr (by decide)).trans rfl)
  have h2 := hcell (pc * 4 + 2) _ ((flat4 _ pc _ 2 hr (by decide)).trans rfl)
  have h3 := hcell (pc * 4 + 3) _ ((flat4 _ pc _ 3 hr (by decide)).trans rfl)
  rw [riOf_op] at h0
  rw [riOf_out] at h1
  rw [riOf_arg] at h2
  refine ⟨h0, h1, h2, fun ho => ?_⟩
  have hk := List.all_eq_true.1 hC i (List.mem_of_getElem? hi)
  rw [if_pos ho, decide_eq_true_iff] at hk
  have e : riOf C B i = ⟨i.op, i.out, i.arg, some ⟨B + C.idxOf i.cls, 0, none⟩, i.cls.length, i.cls.length⟩ := by unfold riOf; rw [if_neg hk.1]
  rw [e] at h3
  refine ⟨B + C.idxOf i.cls, i.cls.length, by omega, h3, hcl _ _ ?_⟩
  rw [List.getElem?_eq_getElem hk.2.1, List.getElem_idxOf]

theorem seg (t : List Value) : ∀ (x z done : List Value) (n off : Nat), x.length = z.length → off + n = done.length →
    (x.zipIdx n).foldl (fun (cs : Array Value) (p : Value × Nat) => cs.setIfInBounds (off + p.2) p.1) (done ++ (z ++ t)).toArray = (done ++ (x ++ t)).toArray
  | [], [], _, _, _, _, _ => rfl
  | [], _ :: _, _, _, _, h, _ => by simp at h
  | _ :: _, [], _, _, _, h, _ => by simp at h
  | c :: x, d :: z, done, n, off, h, ho => by
    rw [List.zipIdx_cons, List.foldl_cons]
    have e : (done ++ (d :: z ++ t)).toArray.setIfInBounds (off + n) c = ((done ++ [c]) ++ (z ++ t)).toArray := by
      rw [ho]
      simp
    dsimp only
    rw [e, seg t x z (done ++ [c]) (n + 1) off (by simpa using h) (by simp; omega)]
    simp

theorem fill_step (place : Nat → Option (Nat × Nat)) (cells : Array Value) (i : Nat) (x : List Value) (rest : List (Nat × Value)) (off size : Nat) (hp : place i = some (off, size)) (hx : x.length = size) (hle : off + size ≤ cells.size) :
    Instr.fill place cells ((i, .agg x.toArray) :: rest) = Instr.fill place (x.toArray.zipIdx.foldl (fun (cs : Array Value) (p : Value × Nat) => cs.setIfInBounds (off + p.2) p.1) cells) rest := by
  conv => lhs; unfold Instr.fill
  rw [hp]
  refine if_neg ?_
  have h1 : (Value.agg x.toArray).cells.size = size := by show x.toArray.size = size; simpa using hx
  rw [h1]
  simp
  omega

theorem fill_all (size : Nat) : ∀ (L : List (List Value)) (k : Nat) (done z : List Value), (∀ l ∈ L, l.length = size) → done.length = k * size → z.length = L.length * size →
    Instr.fill (fun i => some (i * size, size)) (done ++ z).toArray ((L.zipIdx k).map fun (x, k) => (k, Value.agg x.toArray)) = some (done ++ L.flatten).toArray
  | [], k, done, z, _, _, hz => by
    have : z = [] := List.eq_nil_of_length_eq_zero (by simpa using hz)
    subst this
    rfl
  | x :: L, k, done, z, hL, hd, hz => by
    have hx := hL x (List.mem_cons_self ..)
    have hz2 : z.length = size + L.length * size := by rw [hz, List.length_cons, Nat.add_mul]; omega
    obtain ⟨z1, z2, rfl, h1⟩ : ∃ z1 z2, z = z1 ++ z2 ∧ z1.length = size := ⟨z.take size, z.drop size, (List.take_append_drop _ _).symm, by rw [List.length_take]; omega⟩
    rw [List.zipIdx_cons, List.map_cons]
    rw [fill_step _ _ _ x _ (k * size) size rfl hx (by simp at hz2 ⊢; omega)]
    have := seg z2 x z1 done 0 (k * size) (by omega) (by omega)
    have e : (x.toArray.zipIdx.foldl (fun (cs : Array Value) (p : Value × Nat) => cs.setIfInBounds (k * size + p.2) p.1) (done ++ (z1 ++ z2)).toArray) = (done ++ (x ++ z2)).toArray := by
      rw [← this]
      simp
    rw [e]
    have ih := fill_all size L (k + 1) (done ++ x) z2 (fun l hl => hL l (List.mem_cons_of_mem _ hl)) (by rw [List.length_append, hd, hx, Nat.add_mul]; omega) (by rw [List.length_append] at hz2; omega)
    rw [List.append_assoc] at ih
    rw [ih]
    simp

def partsOf (rs : List RI) : Array (Nat × Value) := ((rs.map RI.cells).zipIdx.map fun (x, k) => (k, Value.agg x.toArray)).toArray

theorem runInfo : (Tryz.prog.info? 114).map (fun i => (i.zero, i.size, i.bytes)) = some (some (.agg #[.int .i64 0, .int .u8 0, .int .i64 0, .int .i64 0, .int .i64 0, .int .i64 0, nilS, nilS, .int .i64 0]), 9, 104) := by kernel_rfl

/-- The runs of a program in a row. -/
theorem buildRuns (rs : List RI) (h0 : 0 < rs.length) (hl : rs.length ≤ 1000) (W : World) :
    (Instr.buildSlice 115 rs.length (partsOf rs)).run Tryz.prog W = .ok (.slice (some ⟨W.heap.size, 0, none⟩) rs.length rs.length) (W.alloc (.cells (rs.flatMap RI.cells).toArray 114)) := by
  obtain ⟨i, hi, hz, hs, hb⟩ := info_parts runInfo
  have hfill := fill_all 9 (rs.map RI.cells) 0 [] ((Array.range (rs.length * 9)).map (fun q => (#[Value.int .i64 0, .int .u8 0, .int .i64 0, .int .i64 0, .int .i64 0, .int .i64 0, nilS, nilS, .int .i64 0] : Array Value)[q % 9]!)).toList (by intro l hl; obtain ⟨r, _, rfl⟩ := List.mem_map.1 hl; rfl) (by simp) (by simp)
  rw [List.nil_append, List.nil_append, Array.toArray_toList] at hfill
  have hu : (underlying 115).run Tryz.prog W = .ok (.slice 114) W := by
    simp [underlying, Tryz.underlying115, go_sem]
  have hsz : (sizeOf 114).run Tryz.prog W = .ok 9 W := by simp [sizeOf, typeInfo, hi, hs, go_sem]
  have hzv : (zeroValue 114).run Tryz.prog W = .ok (.agg #[.int .i64 0, .int .u8 0, .int .i64 0, .int .i64 0, .int .i64 0, .int .i64 0, nilS, nilS, .int .i64 0]) W := by simp [zeroValue, typeInfo, hi, hz, go_sem]
  have hpt : (partsOf rs).toList = ((rs.map RI.cells).zipIdx.map fun (x, k) => (k, Value.agg x.toArray)) := by simp [partsOf]
  unfold Instr.buildSlice
  simp only [Sem.run_bind, hu, Result.andThen_ok, hsz]
  rw [if_neg (by omega), if_neg (by omega)]
  simp only [Sem.run_bind, hzv, Result.andThen_ok, Sem.run_pure, Value.cells]
  rw [hpt]
  have e : (Array.map (fun x => (#[Value.int .i64 0, .int .u8 0, .int .i64 0, .int .i64 0, .int .i64 0, .int .i64 0, nilS, nilS, .int .i64 0] : Array Value)[x % (#[Value.int .i64 0, .int .u8 0, .int .i64 0, .int .i64 0, .int .i64 0, .int .i64 0, nilS, nilS, .int .i64 0] : Array Value).size]!) (Array.range (rs.length * 9))) = ((Array.range (rs.length * 9)).map (fun q => (#[Value.int .i64 0, .int .u8 0, .int .i64 0, .int .i64 0, .int .i64 0, .int .i64 0, nilS, nilS, .int .i64 0] : Array Value)[q % 9]!)) := rfl
  rw [e, hfill]
  simp only [Sem.run_bind, newRow, go_sem]
  rw [List.flatMap_def]
  rfl

theorem wpList_buildRuns {ops : Array Oper} {rest : List Oper} {o : Oper} {a : Act} {W : World} {Q : Exit → Act → World → Prop} (hg : o.guard = none) (n : Nat) (parts : Array (Nat × Operand)) (ho : o.op = Op.buildSlice 115 n parts)
    (rs : List RI) (hn : n = rs.length) (h0 : 0 < rs.length) (hl : rs.length ≤ 1000) (A : Array Value) (hA : A = (rs.flatMap RI.cells).toArray) (hp : (parts.map fun (i, x) => (i, a.eval x)) = partsOf rs)
    (h : wpList Tryz.prog ops Q rest (a.put o.dst (.slice (some ⟨W.heap.size, 0, none⟩) n n)) (W.alloc (.cells A 114))) : wpList Tryz.prog ops Q (o :: rest) a W := by
  refine wpList_plain hg fun K hK => ?_
  have hr := buildRuns rs h0 hl W
  rw [← hA, ← hn, ← hp] at hr
  unfold Oper.wp
  simp [execOp, ho, hr, Result.andThen]
  exact hK _ _ h

/-- What a function leaves that makes an expression: the expression of these instructions and numbers. -/
structure Rgx (w : World) (re pr ib cN : Nat) (P : List Ins) (st nc ns cd mi : Nat) : Prop extends PR w re pr ib P cN where
  start : w.cell? ⟨pr, 1, none⟩ = some (.int .i64 st)
  ncap : w.cell? ⟨pr, 2, none⟩ = some (.int .i64 nc)
  nsub : w.cell? ⟨re, 3, none⟩ = some (.int .i64 ns)
  pfx : w.cell? ⟨re, 6, none⟩ = some (.string ⟨#[]⟩)
  cond : w.cell? ⟨re, 13, none⟩ = some (.int .u8 cd)
  least : w.cell? ⟨re, 14, none⟩ = some (.int .i64 mi)

theorem Rgx.below {w w' : World} {re pr ib cN B : Nat} {P : List Ins} {st nc ns cd mi : Nat} (h : Rgx w re pr ib cN P st nc ns cd mi) (hB : w.heap.size ≤ B) (hb : Below B w w') : Rgx w' re pr ib cN P st nc ns cd mi where
  toPR := h.toPR.below hB hb
  start := (hb.cell (p := ⟨pr, 1, none⟩) (Nat.lt_of_lt_of_le h.lpr hB)).trans h.start
  ncap := (hb.cell (p := ⟨pr, 2, none⟩) (Nat.lt_of_lt_of_le h.lpr hB)).trans h.ncap
  nsub := (hb.cell (p := ⟨re, 3, none⟩) (Nat.lt_of_lt_of_le h.lre hB)).trans h.nsub
  pfx := (hb.cell (p := ⟨re, 6, none⟩) (Nat.lt_of_lt_of_le h.lre hB)).trans h.pfx
  cond := (hb.cell (p := ⟨re, 13, none⟩) (Nat.lt_of_lt_of_le h.lre hB)).trans h.cond
  least := (hb.cell (p := ⟨re, 14, none⟩) (Nat.lt_of_lt_of_le h.lre hB)).trans h.least

theorem Rgx.heap {w W : World} {re pr ib cN : Nat} {P : List Ins} {st nc ns cd mi : Nat} (h : Rgx w re pr ib cN P st nc ns cd mi) (e : W.heap = w.heap) : Rgx W re pr ib cN P st nc ns cd mi := by
  have hc : ∀ a, W.cell? a = w.cell? a := fun a => by simp [World.cell?, e]
  exact { toPR := h.toPR.heap e, start := (hc _).trans h.start, ncap := (hc _).trans h.ncap, nsub := (hc _).trans h.nsub, pfx := (hc _).trans h.pfx, cond := (hc _).trans h.cond, least := (hc _).trans h.least }

theorem laid_runs (W : World) (rs : List RI) (A : Array Value) (hA : A = (rs.flatMap RI.cells).toArray) (R : Nat) (hR : W.heap.size = R) :
    ∀ j r, rs[j]? = some r → ∀ i v, r.cells[i]? = some v → (W.alloc (.cells A 114)).cell? ⟨R, j * 9 + i, none⟩ = some v := by
  intro j r hr i v hv
  have h := Row.new W A 114
  rw [hR] at h
  refine h.cell _ _ ?_
  rw [hA]
  have hi : i < 9 := by have := (List.getElem?_eq_some_iff.1 hv).1; simpa [RI.cells] using this
  rw [show (rs.flatMap RI.cells).toArray.toList = rs.flatMap RI.cells from rfl, flat9 rs j r i hr hi]
  exact hv

/-- The classes of letters, each in a block of its own. -/
def clsWorld (w : World) : List (List Int) → World
  | [] => w
  | l :: C => clsWorld (w.alloc (.cells (l.map fun x => Value.int .i32 x).toArray 21)) C

theorem cls_size : ∀ (C : List (List Int)) (w : World), (clsWorld w C).heap.size = w.heap.size + C.length
  | [], _ => rfl
  | l :: C, w => by
    show (clsWorld _ C).heap.size = _
    rw [cls_size C]
    simp
    omega

theorem cls_below : ∀ (C : List (List Int)) (w : World), Below w.heap.size w (clsWorld w C)
  | [], w => Below.refl _ w
  | l :: C, w => ((Below.refl w.heap.size w).alloc (Nat.le_refl _) _).trans ((cls_below C _).mono (by simp))

theorem cls_at : ∀ (C : List (List Int)) (w : World) (k : Nat) (l : List Int), C[k]? = some l → Cells (clsWorld w C) (w.heap.size + k) l
  | [], _, _, _, h => by simp at h
  | x :: C, w, 0, l, h => by
    simp at h
    subst h
    intro j y hj
    have hr := Row.new w (x.map fun y => Value.int .i32 y).toArray 21
    exact ((cls_below C _).cell (p := ⟨w.heap.size, j, none⟩) (by simp)).trans (hr.cell j _ (by simp [hj]))
  | x :: C, w, k + 1, l, h => by
    have := cls_at C (w.alloc (.cells (x.map fun y => Value.int .i32 y).toArray 21)) k l (by simpa using h)
    have e : (w.alloc (.cells (x.map fun y => Value.int .i32 y).toArray 21)).heap.size + k = w.heap.size + (k + 1) := by simp; omega
    rwa [e] at this

theorem Cells.below {w w' : World} {rb : Nat} {l : List Int} (h : Cells w rb l) (hb : Below w.heap.size w w') (hlt : rb < w.heap.size) : Cells w' rb l := fun j x hj => (hb.cell (p := ⟨rb, j, none⟩) hlt).trans (h j x hj)

/-- An expression that was made out of instructions that lie. -/
theorem rgx_new {w1 : World} {P : List Ins} {ib cN n st nc ns cd mi : Nat} {o2 : Obj} {f0 f2 f4 f5 f7 f8 f9 f10 f11 f12 : Value} (hn : P.length = n) (hib : ib < w1.heap.size)
    (hl : ∀ (pc : Nat) (i : Ins), P[pc]? = some i → w1.cell? ⟨ib, pc * 4, none⟩ = some (.int .u8 i.op) ∧ w1.cell? ⟨ib, pc * 4 + 1, none⟩ = some (.int .u32 i.out) ∧ w1.cell? ⟨ib, pc * 4 + 2, none⟩ = some (.int .u32 i.arg) ∧
      (i.op = 7 ∨ i.op = 8 → ∃ rb c, rb < w1.heap.size ∧ w1.cell? ⟨ib, pc * 4 + 3, none⟩ = some (.slice (some ⟨rb, 0, none⟩) i.cls.length c) ∧ Cells w1 rb i.cls)) :
    Rgx (((w1.alloc (.cells #[.slice (some ⟨ib, 0, none⟩) n cN, .int .i64 st, .int .i64 nc] 117)).alloc o2).alloc (.cells #[f0, .pointer (some ⟨w1.heap.size, 0, none⟩), f2, .int .i64 ns, f4, f5, .string ⟨#[]⟩, f7, f8, f9, f10, f11, f12, .int .u8 cd, .int .i64 mi, .bool false] 122))
      (w1.heap.size + 2) w1.heap.size ib cN P st nc ns cd mi := by
  have b1 : Below w1.heap.size w1 (w1.alloc (.cells #[.slice (some ⟨ib, 0, none⟩) n cN, .int .i64 st, .int .i64 nc] 117)) := (Below.refl _ w1).alloc (Nat.le_refl _) _
  have r1 := Row.new w1 #[.slice (some ⟨ib, 0, none⟩) n cN, .int .i64 st, .int .i64 nc] 117
  have z1 : (w1.alloc (.cells #[.slice (some ⟨ib, 0, none⟩) n cN, .int .i64 st, .int .i64 nc] 117)).heap.size = w1.heap.size + 1 := by simp
  generalize w1.alloc (.cells #[.slice (some ⟨ib, 0, none⟩) n cN, .int .i64 st, .int .i64 nc] 117) = w2 at *
  have b2 : Below w2.heap.size w2 (w2.alloc o2) := (Below.refl _ w2).alloc (Nat.le_refl _) _
  have z2 : (w2.alloc o2).heap.size = w2.heap.size + 1 := by simp
  generalize w2.alloc o2 = w3 at *
  have b3 : Below w3.heap.size w3 (w3.alloc (.cells #[f0, .pointer (some ⟨w1.heap.size, 0, none⟩), f2, .int .i64 ns, f4, f5, .string ⟨#[]⟩, f7, f8, f9, f10, f11, f12, .int .u8 cd, .int .i64 mi, .bool false] 122)) := (Below.refl _ w3).alloc (Nat.le_refl _) _
  have r3 := Row.new w3 #[f0, .pointer (some ⟨w1.heap.size, 0, none⟩), f2, .int .i64 ns, f4, f5, .string ⟨#[]⟩, f7, f8, f9, f10, f11, f12, .int .u8 cd, .int .i64 mi, .bool false] 122
  have z3 : (w3.alloc (.cells #[f0, .pointer (some ⟨w1.heap.size, 0, none⟩), f2, .int .i64 ns, f4, f5, .string ⟨#[]⟩, f7, f8, f9, f10, f11, f12, .int .u8 cd, .int .i64 mi, .bool false] 122)).heap.size = w3.heap.size + 1 := by simp
  generalize w3.alloc _ = w4 at *
  have e3 : w3.heap.size = w1.heap.size + 2 := by omega
  rw [e3] at r3
  have r1' := (r1.below b2).below b3
  have b : Below w1.heap.size w1 w4 := (b1.trans (b2.mono (by omega))).trans (b3.mono (by omega))
  have q : ∀ o v, w1.cell? ⟨ib, o, none⟩ = some v → w4.cell? ⟨ib, o, none⟩ = some v := fun o v h => (b.cell (p := ⟨ib, o, none⟩) hib).trans h
  exact { prog := r3.cell 1 _ rfl, longest := r3.cell 15 _ rfl, insts := by rw [hn]; exact r1'.cell 0 _ rfl, op := fun pc i hi => q _ _ (hl pc i hi).1, out := fun pc i hi => q _ _ (hl pc i hi).2.1, arg := fun pc i hi => q _ _ (hl pc i hi).2.2.1,
          cls := fun pc i hi ho => by
            obtain ⟨rb, c, h1, h2, h3⟩ := (hl pc i hi).2.2.2 ho
            exact ⟨rb, c, by omega, q _ _ h2, h3.below b h1⟩,
          lre := by omega, lpr := by omega, lib := by omega,
          start := r1'.cell 1 _ rfl, ncap := r1'.cell 2 _ rfl, nsub := r3.cell 3 _ rfl, pfx := r3.cell 6 _ rfl, cond := r3.cell 13 _ rfl, least := r3.cell 14 _ rfl }

end Go.Proofs.YtjgedenoaocfjaaGreatDoor.Rxw
namespace Go.Proofs.YtjgedenoaocfjaaGreatDoor.Rxw

open Go Go.RowKit Go.Lib Go.Proofs Go.Proofs.YtjgedenoaocfjaaGreatDoor.Base Go.Proofs.YtjgedenoaocfjaaGreatDoor.Rx

def looseC : List (List Int) := [[118], [48, 57], [46], [45], [45, 45, 48, 57, 65, 90, 97, 122], [43]]

theorem loose_cls : clsOk looseC loose = true := by decide +kernel

def SomeRgx (P : List Ins) (st nc ns cd mi : Nat) (w : World) (e : Ending) (w' : World) : Prop := ∃ re pr ib cN, e = .returned (ptr re) ∧ Rgx w' re pr ib cN P st nc ns cd mi ∧ Below w.heap.size w w'

theorem loose_below (w : World) (A : Array Value) (w1 : World) (hb : Below ((clsWorld w looseC).alloc (.cells A 114)).heap.size ((clsWorld w looseC).alloc (.cells A 114)) w1) : Hid (Below w.heap.size w w1 ∧ w.heap.size + 7 ≤ w1.heap.size) := by
  have hz := cls_size looseC w
  have hz2 : ((clsWorld w looseC).alloc (.cells A 114)).heap.size = w.heap.size + 7 := by rw [World.size_alloc, hz]; rfl
  refine Lib.hid ⟨((cls_below looseC w).alloc (by omega) _).trans (hb.mono (by omega)), by have := hb.size; omega⟩

theorem loose_laid (w : World) (A : Array Value) (w1 : World) (hb : Below ((clsWorld w looseC).alloc (.cells A 114)).heap.size ((clsWorld w looseC).alloc (.cells A 114)) w1) {rs : List RI} (hrs : rs = loose.map (riOf looseC w.heap.size)) {ib : Nat}
    (hcell : ∀ j u, (rs.flatMap RI.inst)[j]? = some u → w1.cell? ⟨ib, j, none⟩ = some u) (pc : Nat) (i : Ins) (hi : loose[pc]? = some i) :
    w1.cell? ⟨ib, pc * 4, none⟩ = some (.int .u8 i.op) ∧ w1.cell? ⟨ib, pc * 4 + 1, none⟩ = some (.int .u32 i.out) ∧ w1.cell? ⟨ib, pc * 4 + 2, none⟩ = some (.int .u32 i.arg) ∧
      (i.op = 7 ∨ i.op = 8 → ∃ rb c, rb < w1.heap.size ∧ w1.cell? ⟨ib, pc * 4 + 3, none⟩ = some (.slice (some ⟨rb, 0, none⟩) i.cls.length c) ∧ Cells w1 rb i.cls) := by
  subst hrs
  have hz := cls_size looseC w
  have hz2 : ((clsWorld w looseC).alloc (.cells A 114)).heap.size = w.heap.size + 7 := by rw [World.size_alloc, hz]; rfl
  have hL : looseC.length = 6 := rfl
  have h1 := hb.size
  refine laid_at hcell loose_cls (by omega) (fun k l hk => ?_) pc i hi
  have hkl : k < 6 := (List.getElem?_eq_some_iff.1 hk).1
  have hc := (cls_at looseC w k l hk).below ((Below.refl _ _).alloc (Nat.le_refl _) (.cells A 114)) (by omega)
  exact hc.below hb (by omega)

set_option maxHeartbeats 8000000 in
set_option maxRecDepth 100000 in
theorem zzLoose (w : World) : Calls Tryz.prog 82 #[] w (SomeRgx loose 1 20 9 4 1 w) := by
  obtain ⟨rs, hrs⟩ : ∃ rs, rs = loose.map (riOf looseC w.heap.size) := ⟨_, rfl⟩
  have hn : rs.length = 50 := by rw [hrs]; rfl
  obtain ⟨A, hA⟩ : ∃ A, A = (rs.flatMap RI.cells).toArray := ⟨_, rfl⟩
  have C : Hid (∀ W : World, (∀ j r, rs[j]? = some r → ∀ i v, r.cells[i]? = some v → W.cell? ⟨w.heap.size + 1 + 1 + 1 + 1 + 1 + 1, j * 9 + i, none⟩ = some v) → w.heap.size + 1 + 1 + 1 + 1 + 1 + 1 < W.heap.size → Calls Tryz.prog 84 #[.slice (some ⟨w.heap.size + 1 + 1 + 1 + 1 + 1 + 1, 0, none⟩) 50 50] W fun e w' => ∃ v, e = .returned v ∧ w'.ownsRow W.heap.size 144 4 v 50 (rs.flatMap RI.inst) ∧ Below W.heap.size W w') := by
    refine Lib.hid fun W hc hR => ?_
    have := insts rs _ W hR hc (by rw [hrs]; exact clsOk_small loose_cls _) (by omega)
    rw [hn] at this
    exact this
  have HRS := Lib.hid hrs; have HN := Lib.hid hn; have HA := Lib.hid hA
  clear hrs hn hA
  go_enter Tryz.func82, Tryz.ntmps82
  go_wp2_with (first
    | (refine wpList_buildRuns rfl _ _ rfl rs HN.out.symm ?q1 ?q2 A HA.out ?q3 ?_; (case q1 => rw [HN.out]; decide); (case q2 => rw [HN.out]; decide); (case q3 => rw [HRS.out]; kernel_rfl))
    | (go_at_call 84; (with_reducible refine (C.out _ ?q4 ?q5).mono ?_); (case q4 => exact laid_runs (clsWorld w looseC) rs A HA.out _ (by rw [cls_size]; rfl)); (case q5 => simp); rintro e w1 ⟨v, rfl, ho, hb⟩;
        obtain ⟨ib, cN, rfl, hge, hlt, hcell⟩ := own_some4 ho (by decide); have HB1 : Hid (Below w.heap.size w w1 ∧ w.heap.size + 7 ≤ w1.heap.size) := (loose_below w A w1 hb); have HC1 := Lib.hid (loose_laid w A w1 hb HRS.out hcell); have HLT := Lib.hid hlt; clear ho hb hge hcell hlt))
  go_ret
  refine ⟨w1.heap.size + 2, w1.heap.size, ib, cN, rfl, rgx_new (P := loose) (n := 50) (st := 1) (nc := 20) (ns := 9) (cd := 4) (mi := 1) rfl HLT.out HC1.out, ?_⟩
  exact HB1.out.1.trans ((((Below.refl w1.heap.size w1).alloc (Nat.le_refl _) _).alloc (by simp) _).alloc (by simp; omega) _ |>.mono HB1.out.1.size)

end Go.Proofs.YtjgedenoaocfjaaGreatDoor.Rxw
namespace Go.Proofs.YtjgedenoaocfjaaGreatDoor.Rxw

open Go Go.RowKit Go.Lib Go.Proofs Go.Proofs.YtjgedenoaocfjaaGreatDoor.Base Go.Proofs.YtjgedenoaocfjaaGreatDoor.Rx Go.Proofs.YtjgedenoaocfjaaGreatDoor.L

/-- What an ASCII text tells the machine. -/
def inpOf (s : ByteArray) : Inp := { stp := fun q => match (bl s)[q]? with | some x => ((x.toNat : Int), 1) | none => (-1, 0), emp := fun q k => if k = 4 then decide (q = 0) else decide (s.size ≤ q), fin := s.size }

def Ascii (s : ByteArray) : Prop := ∀ x ∈ bl s, x.toNat < 128

theorem fit_of {s : ByteArray} (ha : Ascii s) : Fit (inpOf s) (bl s) where
  low := fun pos b h _ => by show (match (bl s)[pos]? with | some x => ((x.toNat : Int), 1) | none => (-1, 0)) = _; rw [h]
  high := fun pos b h h2 => absurd (ha b (List.mem_of_getElem? h)) h2
  off := fun pos h => by show (match (bl s)[pos]? with | some x => ((x.toNat : Int), 1) | none => (-1, 0)) = _; rw [List.getElem?_eq_none h]
  beg := fun pos => rfl
  nil := fun pos => by show decide (s.size ≤ pos) = _; rw [bl_len]
  fin := by show s.size = _; rw [bl_len]
  fit := fun pos h => by
    show pos + (match (bl s)[pos]? with | some x => ((x.toNat : Int), 1) | none => (-1, 0) : Int × Nat).2 ≤ _
    by_cases hp : pos < (bl s).length
    · rw [List.getElem?_eq_getElem hp]; dsimp only; omega
    · rw [List.getElem?_eq_none (by omega)]; dsimp only; omega

def tgtB (P : List Ins) (p : Nat) : Bool := match P[p]? with | some j => decide (j.op ≠ 5) | none => false

theorem tgtB_of {P p} (h : tgtB P p = true) : Tgt P p := by
  unfold tgtB at h
  split at h
  · rename_i j e; exact ⟨j, e, by simpa using h⟩
  · cases h

def srtB (l : List Int) : Bool := decide (l.Pairwise (· ≤ ·))

def envI (P : List Ins) (K : Nat) (i : Ins) : Bool :=
  decide (i.op = 0 ∨ i.op = 2 ∨ i.op = 3 ∨ i.op = 4 ∨ i.op = 5 ∨ i.op = 6 ∨ i.op = 7 ∨ i.op = 8) && (decide (i.op = 4 ∨ i.op = 5) || tgtB P i.out) && (decide (i.op ≠ 0) || tgtB P i.arg) && (decide (i.op ≠ 3) || decide (i.arg = 4 ∨ i.arg = 8)) &&
  (decide (i.op ≠ 7) || (decide (i.cls.length = 2 * (i.cls.length / 2) ∧ 0 < i.cls.length / 2 ∧ i.cls.length / 2 ≤ K) && srtB i.cls && (i.cls.all fun x => decide (0 ≤ x)))) && (decide (i.op ≠ 8) || (decide (i.cls.length = 1) && (i.cls.all fun x => decide (0 ≤ x))))

def envB (P : List Ins) (K : Nat) : Bool := P.all (envI P K)

theorem env_of {P : List Ins} {s : ByteArray} {h : Sh} (hP : envB P 4 = true) (hl : P.length ≤ 1000) (hs : s.size ≤ 600) (ha : Ascii s) (hM : P.length * (s.size + 1) ≤ 260000) (h1 : h.fin = s.size) (h2 : h.s = s) (h3 : h.nv = (P.length * (s.size + 1) + 31) / 32) (h4 : 2 ≤ h.L ∧ h.L ≤ 1000) :
    Env P (inpOf s) h (P.length * (s.size + 1)) := by
  have at_ : ∀ (pc : Nat) (i : Ins), P[pc]? = some i → envI P 4 i = true := fun pc i hi => List.all_eq_true.1 hP i (List.mem_of_getElem? hi)
  constructor
  · intro pc i hi
    have := at_ pc i hi
    unfold envI at this
    simp only [Bool.and_eq_true, decide_eq_true_iff] at this
    exact this.1.1.1.1.1
  · intro pc i hi h4 h5
    have := at_ pc i hi
    unfold envI at this
    simp only [Bool.and_eq_true, Bool.or_eq_true, decide_eq_true_iff] at this
    exact tgtB_of (this.1.1.1.1.2.resolve_left (by omega))
  · intro pc i hi h0
    have := at_ pc i hi
    unfold envI at this
    simp only [Bool.and_eq_true, Bool.or_eq_true, decide_eq_true_iff] at this
    exact tgtB_of (this.1.1.1.2.resolve_left (by omega))
  · intro pc i hi h0
    have := at_ pc i hi
    unfold envI at this
    simp only [Bool.and_eq_true, Bool.or_eq_true, decide_eq_true_iff] at this
    exact this.1.1.2.resolve_left (by omega)
  · intro pc i hi h0
    have := at_ pc i hi
    unfold envI at this
    simp only [Bool.and_eq_true, Bool.or_eq_true, decide_eq_true_iff] at this
    obtain ⟨⟨⟨a1, a2, a3⟩, a4⟩, _⟩ := this.1.2.resolve_left (by omega)
    exact ⟨i.cls.length / 2, a1, a2, a3, srt_of _ (by simpa [srtB] using a4)⟩
  · intro pc i hi h0
    have := at_ pc i hi
    unfold envI at this
    simp only [Bool.and_eq_true, Bool.or_eq_true, decide_eq_true_iff] at this
    exact List.length_eq_one_iff.1 (this.2.resolve_left (by omega)).1
  · intro pc i hi h0 k
    have := at_ pc i hi
    unfold envI at this
    simp only [Bool.and_eq_true, Bool.or_eq_true, decide_eq_true_iff] at this
    obtain ⟨_, a5⟩ := this.1.2.resolve_left (by omega)
    rw [List.getD_eq_getElem?_getD]
    cases e : i.cls[k]? with
    | none => exact Int.le_refl _
    | some x => have := List.all_eq_true.1 a5 x (List.mem_of_getElem? e); simpa using this
  · intro pc i hi h0 x hx
    have := at_ pc i hi
    unfold envI at this
    simp only [Bool.and_eq_true, Bool.or_eq_true, decide_eq_true_iff] at this
    have := List.all_eq_true.1 (this.2.resolve_left (by omega)).2 x hx
    simpa using this
  · omega
  · omega
  · rw [h2, h1]
  · rw [h1]
  · omega
  · intro n hn; rw [h3]; omega
  · rw [h2]; exact ha
  · rw [h1]; rfl
  · intro q; rw [h2]; rfl
  · intro q; rfl
  · intro q; rw [h1]; rfl
  · exact h4

set_option maxRecDepth 100000 in
theorem fssOf {P : List Ins} {re pr ib cN st nc n mi : Nat} {s : ByteArray} {r : Option (List Int)} {U : Nat → Bool} (w : World) (hR : Rgx w re pr ib cN P st nc (n - 1) 4 mi)
    (hO : Out P (inpOf s) (.chk st 0) [] (fun _ => false) (caps0 nc) r U) (hE : envB P 4 = true) (hT : tgtB P st = true) (hN : P.length ≤ 1000) (hN0 : 0 < P.length) (ha : Ascii s) (hs : s.size ≤ 600) (hM : P.length * (s.size + 1) ≤ 260000)
    (hn0 : 2 < n) (hnc : nc = 2 * n) (hn : n ≤ 400) (hst : st < 4294967296) (hsm : s.size < mi → r = none) (hlen : ∀ d, r = some d → d.length = nc)
    (hd : ∀ d, r = some d → ∀ k, k < n → 0 ≤ d.getD (2 * k) 0 → d.getD (2 * k) 0 ≤ d.getD (2 * k + 1) 0 ∧ d.getD (2 * k + 1) 0 ≤ s.size) :
    Calls Tryz.prog 70 #[ptr re, .string s] w (FssR n s w r) := by
  refine fssA w hR.prog hR.ncap (by rw [hR.nsub, show ((n - 1 : Nat) : Int) = (n : Int) - 1 by omega]) hR.lre hR.lpr (by omega) hnc hn (by omega) hd hlen fun w1 he => ?_
  have hR1 := (hR.below (Nat.le_refl _) ((Below.refl w.heap.size w).alloc (Nat.le_refl _) (.cells #[.int .i64 0, .int .i64 0, .int .i64 0, .int .i64 0] 123))).heap he
  have hB : w.heap.size ≤ w1.heap.size := by rw [he]; simp
  refine findA w1 hR1.least hsm (by omega) ?_
  exact backA (vs := (P.length * (s.size + 1) + 31) / 32) w1 hR1.toPR hR1.cond hR1.start hst (fun h h1 h2 h3 h4 => env_of hE hN hs ha hM h1 h2 h3 (by omega)) hO (tgtB_of hT) hN hN0 (by omega) (by omega) (by omega) rfl (by omega) hlen hB (by omega)

end Go.Proofs.YtjgedenoaocfjaaGreatDoor.Rxw
