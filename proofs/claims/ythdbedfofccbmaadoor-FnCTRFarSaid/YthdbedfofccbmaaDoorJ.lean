/-
  The zero values of the two structs, the stream's struct as it is built, and the contracts that make it.
-/
import Derived.Test.YthdbedfofccbmaaDoorI
import Derived.Test.YthdbedfofccbmaaDoorQ
open Go Go.RowKit
namespace Go.Proofs.YthdbedfofccbmaaDoor
/-- The zero values of the cipher's block and of the stream, as cells. -/
def zs54 : Array Value := #[Value.int .i64 0] ++ Array.replicate 120 (Value.int .u32 0)
def zs56 : Array Value := zs54 ++ #[Value.int .u64 0, Value.int .u64 0, Value.int .u64 0]
theorem zs56_size : zs56.size = 124 := by kernel_rfl
theorem zero56 (w : World) : (zeroValue 56).run Tryd.prog w = .ok (.agg zs56) w := by kernel_rfl
theorem size56 : (Tryd.prog.info? 56).map (·.size) = some 124 := by kernel_rfl
theorem size54 : (Tryd.prog.info? 54).map (·.size) = some 121 := by kernel_rfl
theorem zs54_size : zs54.size = 121 := by kernel_rfl
theorem zero54 (w : World) : (zeroValue 54).run Tryd.prog w = .ok (.agg zs54) w := by kernel_rfl
theorem zs54_one : zs54.all (·.oneCell') = true := by kernel_rfl
theorem zs56_one : zs56.all (·.oneCell') = true := by kernel_rfl
theorem foldl_set : ∀ (l : List Value) (k : Nat) (A : Array Value) (i : Nat),
    ((l.zipIdx k).foldl (fun (cs : Array Value) (x : Value × Nat) => cs.setIfInBounds x.snd x.fst) A)[i]? = if k ≤ i ∧ i < k + l.length ∧ i < A.size then l[i - k]? else A[i]?
  | [], k, A, i => by
    rw [if_neg (fun h => by have h1 := h.1; have h2 := h.2.1; simp only [List.length_nil] at h2; omega)]
    rfl
  | c :: l, k, A, i => by
    rw [List.zipIdx_cons, List.foldl_cons, foldl_set l (k + 1) (A.setIfInBounds k c) i]
    simp only [Array.size_setIfInBounds, List.length_cons, Array.getElem?_setIfInBounds]
    by_cases h : i = k
    · subst h
      have hn : ¬ (i + 1 ≤ i ∧ i < i + 1 + l.length ∧ i < A.size) := by omega
      rw [if_neg hn]
      by_cases h2 : i < A.size
      · have hn2 : i ≤ i ∧ i < i + (l.length + 1) ∧ i < A.size := ⟨Nat.le_refl _, by omega, h2⟩
        rw [if_pos hn2]; simp [h2]
      · have hn2 : ¬ (i ≤ i ∧ i < i + (l.length + 1) ∧ i < A.size) := fun hh => h2 hh.2.2
        rw [if_neg hn2]; simp [h2]
    · by_cases h3 : k ≤ i ∧ i < k + (l.length + 1) ∧ i < A.size
      · rw [if_pos (by omega), if_pos h3, show i - k = (i - (k + 1)) + 1 from by omega, List.getElem?_cons_succ]
      · rw [if_neg (by omega), if_neg h3, if_neg (by omega)]
theorem foldl_size : ∀ (l : List Value) (k : Nat) (A : Array Value), ((l.zipIdx k).foldl (fun (cs : Array Value) (x : Value × Nat) => cs.setIfInBounds x.snd x.fst) A).size = A.size
  | [], _, _ => rfl
  | c :: l, k, A => by rw [List.zipIdx_cons, List.foldl_cons, foldl_size l (k + 1)]; simp
def over (l : List Value) (A : Array Value) : Array Value := (l.zipIdx 0).foldl (fun (cs : Array Value) (x : Value × Nat) => cs.setIfInBounds x.snd x.fst) A
theorem places56 (fs : Array Field) (hf : Tryd.prog.underlying 56 = some (.struct fs)) (w : World) :
    (fs.mapM fun (f : Field) => do pure (f.offset, ← sizeOf f.type)).run Tryd.prog w = .ok #[(0, 121), (121, 1), (122, 1), (123, 1)] w := by
  rw [Tryd.underlying56] at hf
  injection hf with hf
  injection hf with hf
  subst hf
  kernel_rfl
/-- What the stream's struct is built of: the block's cells, two halves of a counter, an offset of zero. -/
structure Ctr (X cs : Array Value) (lo hi : Value) : Prop where
  size : X.size = 124
  block : ∀ i, i < 121 → X[i]? = cs[i]?
  lo : X[121]? = some lo
  hi : X[122]? = some hi
  off : X[123]? = some (.int .u64 0)
theorem run_build56 (cs : Array Value) (hcs : cs.size = 121) (lo hi : Int) :
    ∃ X, Ctr X cs (.int .u64 lo) (.int .u64 hi) ∧ ∀ w, (Instr.build 56 #[(0, .agg cs), (1, .int .u64 lo), (2, .int .u64 hi), (3, .int .u64 0)]).run Tryd.prog w = .ok (.agg X) w := by
  have h := Tryd.underlying56
  have hp := places56 _ h
  generalize hF : (#[{ name := "b", type := 54, offset := 0, embedded := false, tag := "", pkgPath := "loop.example/pub-g03026/pub/aes", byteOffset := 0 },
        { name := "ivlo", type := 24, offset := 121, embedded := false, tag := "", pkgPath := "loop.example/pub-g03026/pub/aes", byteOffset := 488 },
        { name := "ivhi", type := 24, offset := 122, embedded := false, tag := "", pkgPath := "loop.example/pub-g03026/pub/aes", byteOffset := 496 },
        { name := "offset", type := 24, offset := 123, embedded := false, tag := "", pkgPath := "loop.example/pub-g03026/pub/aes", byteOffset := 504 }] : Array Field) = F at h hp
  generalize hX : (((over cs.toList zs56).setIfInBounds 121 (.int .u64 lo)).setIfInBounds 122 (.int .u64 hi)).setIfInBounds 123 (.int .u64 0) = X
  have hs : (over cs.toList zs56).size = 124 := (foldl_size cs.toList 0 zs56).trans zs56_size
  refine ⟨X, ?_, fun w => ?_⟩
  · have hg : ∀ i, (over cs.toList zs56)[i]? = _ := fun i => foldl_set cs.toList 0 zs56 i
    have hl : cs.toList.length = 121 := by rw [Array.length_toList, hcs]
    generalize over cs.toList zs56 = A at *
    subst hX
    refine ⟨by simp [hs], fun i hi => ?_, by simp [hs], by simp [hs], by simp [hs]⟩
    rw [Array.getElem?_setIfInBounds, if_neg (by omega), Array.getElem?_setIfInBounds, if_neg (by omega), Array.getElem?_setIfInBounds, if_neg (by omega), hg i, if_pos ⟨by omega, by omega, by rw [zs56_size]; omega⟩]
    simp
  · unfold Instr.build
    simp only [Sem.run_bind, zero56, Result.andThen_ok, run_underlying h]
    rw [hp]
    simp only [Result.andThen_ok]
    have hfill : Instr.fill (fun x => (#[(0, 121), (121, 1), (122, 1), (123, 1)] : Array (Nat × Nat))[x]?) (Value.agg zs56).cells [(0, Value.agg cs), (1, Value.int IntKind.u64 lo), (2, Value.int IntKind.u64 hi), (3, Value.int IntKind.u64 0)] = some X := by
      have hz := zs56_size
      have hA : Array.foldl (fun (cs : Array Value) (x : Value × Nat) => cs.setIfInBounds x.snd x.fst) zs56 cs.zipIdx 0 121 = over cs.toList zs56 := by
        have e := Array.foldl_toList (fun (cs : Array Value) (x : Value × Nat) => cs.setIfInBounds x.snd x.fst) (init := zs56) (xs := cs.zipIdx)
        rw [Array.toList_zipIdx, Array.size_zipIdx, hcs] at e
        exact e.symm
      simp [Instr.fill, Value.cells, hcs, hz, hA, hs, hX]
    rw [hfill]
    rfl
theorem quiet_load_row {P : Program} {o : Oper} {a : Act} {C : World → Prop} {K : Act → Prop} (ty : TypeId) (x : Operand) (ho : o.op = .load ty x)
    (g : Nat) (hx : a.eval x = .pointer (some ⟨g, 0, none⟩)) (cs : Array Value) (d : TypeDesc) (hg : ∀ w, C w → ∃ t fr, w.heap[g]? = some (.cells cs t fr))
    (hu : P.underlying ty = some d) (hd : (match d with | .struct _ | .array _ _ => true | _ => false) = true) (hi : (P.info? ty).map (·.size) = some cs.size)
    (hk : K (a.put o.dst (.agg cs))) : o.quiet P a C K := by
  refine ⟨.agg cs, fun w hw => ?_, hk⟩
  obtain ⟨t, fr, hg'⟩ := hg w hw
  unfold Oper.quietAt execOp
  simp only [ho, hx, Instr.loadAt, Instr.sureAddr, Sem.run_bind, Sem.run_pure, Result.andThen_ok, run_loadVar_row w g t ty cs fr d hg' hu hd hi]
  exact ⟨rfl, rfl⟩
theorem quiet_build {P : Program} {o : Oper} {a : Act} {C : World → Prop} {K : Act → Prop} (t : TypeId) (parts : Array (Nat × Operand)) (ho : o.op = .build t parts) (X : Array Value)
    (hr : ∀ w, (Instr.build t (parts.map fun (i, x) => (i, a.eval x))).run P w = .ok (.agg X) w) (hk : K (a.put o.dst (.agg X))) : o.quiet P a C K := by
  refine ⟨.agg X, fun w _ => ?_, hk⟩
  unfold Oper.quietAt execOp
  simp only [ho, Sem.run_bind, Sem.run_pure, Result.andThen_ok, hr w]
  exact ⟨rfl, rfl⟩
/-- What newCTR hands back. -/
def NewC (w : World) (cs : Array Value) (lo hi : Int) (e : Ending) (w' : World) : Prop :=
  ∃ X, e = .returned (.agg X) ∧ Ctr X cs (.int .u64 lo) (.int .u64 hi) ∧ X.all (·.oneCell') = true ∧ w.grownBy w' none
theorem Ctr.one {X cs : Array Value} {lo hi : Int} (h : Ctr X cs (.int .u64 lo) (.int .u64 hi)) (h1 : cs.all (·.oneCell') = true) (hs : cs.size = 121) : X.all (·.oneCell') = true := by
  rw [Array.all_eq_true]
  intro i hi'
  have hX := h.size
  by_cases hb : i < 121
  · have e := h.block i hb
    have hcs : i < cs.size := by omega
    rw [Array.getElem?_eq_getElem hi', Array.getElem?_eq_getElem hcs] at e
    injection e with e
    rw [e]
    exact (Array.all_eq_true.1 h1) i hcs
  · have : i = 121 ∨ i = 122 ∨ i = 123 := by omega
    rcases this with rfl | rfl | rfl
    · have e := h.lo
      rw [Array.getElem?_eq_getElem hi'] at e
      injection e with e
      rw [e]
      rfl
    · have e := h.hi
      rw [Array.getElem?_eq_getElem hi'] at e
      injection e with e
      rw [e]
      rfl
    · have e := h.off
      rw [Array.getElem?_eq_getElem hi'] at e
      injection e with e
      rw [e]
      rfl
end Go.Proofs.YthdbedfofccbmaaDoor
