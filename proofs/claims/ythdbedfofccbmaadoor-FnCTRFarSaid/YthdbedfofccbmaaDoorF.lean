/-
  Copying bytes into a block, a made block of zeros, and the contract of the counter's blocks.
-/
import Derived.Test.YthdbedfofccbmaaDoorE
import Derived.Laws.CopyOwn
open Go Go.RowKit
namespace Go.Proofs.YthdbedfofccbmaaDoor

theorem u8_info : (Tryd.prog.info? 5).map (fun i => (i.zero, i.size, i.bytes)) = some (some (.int .u8 0), 1, 1) := by kernel_rfl
theorem u8_size : (Tryd.prog.info? 5).map (·.size) = some 1 := by kernel_rfl
/-- n values, bytes. -/
def bytesL (n : Nat) (h : Nat → Int) : List Value := (List.range n).map fun i => Value.int .u8 (h i)
theorem bytesL_length (n : Nat) (h : Nat → Int) : (bytesL n h).length = n := by simp [bytesL]
theorem bytesL_get (n : Nat) (h : Nat → Int) (i : Nat) : (bytesL n h)[i]? = if i < n then some (.int .u8 (h i)) else none := by
  simp only [bytesL, List.getElem?_map]
  by_cases hi : i < n
  · simp [hi]
  · simp [hi]
theorem bytesL_one (n : Nat) (h : Nat → Int) : ∀ v ∈ bytesL n h, v.oneCell' = true := by
  intro v hv
  simp only [bytesL, List.mem_map] at hv
  obtain ⟨i, _, rfl⟩ := hv
  rfl
theorem bytesA_splice (N : Nat) (f : Nat → Int) (o n : Nat) (h : Nat → Int) (hfit : o + n ≤ N) :
    ((bytesA N f).toList.take o ++ bytesL n h ++ (bytesA N f).toList.drop (o + n)).toArray = bytesA N (wr f o n h) := by
  apply Array.ext_getElem?
  intro i
  rw [bytesA_get, List.getElem?_toArray]
  have hl : (bytesA N f).toList.length = N := by rw [Array.length_toList, bytesA_size]
  have hg : ∀ j, (bytesA N f).toList[j]? = if j < N then some (.int .u8 (f j)) else none := fun j => by rw [Array.getElem?_toList, bytesA_get]
  have ht : ((bytesA N f).toList.take o).length = o := by rw [List.length_take, hl]; omega
  unfold wr
  by_cases h1 : i < o
  · rw [List.append_assoc, List.getElem?_append_left (by omega), List.getElem?_take, if_pos h1, hg, if_pos (by omega), if_pos (by omega), if_neg (by omega)]
  · by_cases h2 : i < o + n
    · rw [List.append_assoc, List.getElem?_append_right (by omega), ht, List.getElem?_append_left (by rw [bytesL_length]; omega), bytesL_get, if_pos (by omega), if_pos (by omega), if_pos (by omega)]
    · rw [List.getElem?_append_right (by rw [List.length_append, ht, bytesL_length]; omega), List.length_append, ht, bytesL_length, List.getElem?_drop, hg]
      rw [show o + n + (i - (o + n)) = i from by omega]
      by_cases h3 : i < N
      · rw [if_pos h3, if_pos h3, if_neg (by omega)]
      · rw [if_neg h3, if_neg h3]
theorem run_copyB (w : World) (ty D o dLen dCap G go sLen sCap n : Nat) (t : TypeId) (N : Nat) (f h : Nat → Int) (hn : n = Nat.min sLen dLen) (hD : Byt w D t N f) (hfit : o + n ≤ N)
    (hs : ∀ i, i < n → w.cell? ⟨G, go + i, none⟩ = some (.int .u8 (h i))) :
    ∃ w', (Builtin.copy_ #[22, 22] ty #[.slice (some ⟨D, o, none⟩) dLen dCap, .slice (some ⟨G, go, none⟩) sLen sCap]).run Tryd.prog w = .ok (.int .i64 n) w' ∧ UpB w w' D t N (wr f o n h) := by
  have hr := run_copy_row Tryd.prog w 22 22 ty 5 D o dLen dCap ⟨G, go, none⟩ sLen sCap (bytesA N f) t (bytesL n h) Tryd.underlying22 u8_size hD (by rw [bytesL_length]; exact hn)
    (fun j v hj => by
      rw [bytesL_get] at hj
      by_cases hj' : j < n
      · rw [if_pos hj'] at hj
        injection hj with hj
        subst hj
        have e : (⟨G, go, none⟩ : Addr).add j = ⟨G, go + j, none⟩ := by unfold Addr.add; split <;> simp_all
        rw [e]
        exact hs j hj'
      · rw [if_neg hj'] at hj
        cases hj)
    (by rw [bytesL_length, bytesA_size]; exact hfit) (bytesL_one n h)
  rw [bytesL_length, bytesA_splice N f o n h hfit] at hr
  refine ⟨_, hr, ?_, ⟨rfl, rfl, rfl, by simp, fun k _ hk => setRow_other w D k _ (fun e => hk (by rw [e]))⟩⟩
  exact setRow_heap w D (bytesA N f) _ t (0, 0) hD
theorem madeB (n : Nat) : madeCells (Value.int .u8 0).cells n = bytesA n (fun _ => 0) := by
  apply Array.ext_getElem?
  intro i
  rw [bytesA_get]
  unfold madeCells
  simp only [Value.cells, Array.getElem?_map, Array.getElem?_range]
  by_cases hi : i < n
  · rw [if_pos hi, if_pos hi]
    simp [Nat.mod_one]
  · rw [if_neg hi, if_neg hi]
    rfl
/-- A made slice of bytes. -/
theorem run_makeB (w : World) (l c : Nat) (hl : l ≤ c) (hc : c ≤ 2147483647) :
    ∃ w', (Instr.makeSlice 22 (.int .i64 (l : Int)) (.int .i64 (c : Int))).run Tryd.prog w = .ok (.slice (some ⟨w.heap.size, 0, none⟩) l c) w' ∧ Byt w' w.heap.size 5 c (fun _ => 0) ∧ w.grownBy w' none := by
  obtain ⟨i0, hi, hz0, hz1, hz2⟩ := info_parts u8_info
  have hr := run_make (P := Tryd.prog) w 22 5 i0 (.int .u8 0) Tryd.underlying22 hi hz0 .i64 .i64 (l : Int) (c : Int) (by omega) (by omega) (by rw [hz2]; omega) (by omega)
  rw [hz1] at hr
  simp only [Int.toNat_natCast, Nat.mul_one] at hr
  rw [madeB] at hr
  exact ⟨_, hr, Blk.new w 5 _, World.grownBy_alloc w _ none⟩
end Go.Proofs.YthdbedfofccbmaaDoor
