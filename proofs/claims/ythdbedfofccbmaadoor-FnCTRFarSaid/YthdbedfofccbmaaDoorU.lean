/-
  Two slices of the same bytes are told the same.
-/
import Derived.Test.YthdbedfofccbmaaDoorS
import Derived.Laws.BytesArg
open Go Go.RowKit
namespace Go.Proofs.YthdbedfofccbmaaDoor
/-- The n numbers as a list. -/
def ints (n : Nat) (f : Nat → Int) : List Int := (List.range n).map f
theorem ints_len (n : Nat) (f : Nat → Int) : (ints n f).length = n := by simp [ints]
theorem ints_get (n : Nat) (f : Nat → Int) (i : Nat) (h : i < n) : (ints n f).getD i 0 = f i := by simp [ints, List.getD, h]
theorem ints_congr (n : Nat) (f g : Nat → Int) (h : ∀ i, i < n → f i = g i) : ints n f = ints n g := by
  unfold ints
  exact List.map_congr_left fun i hi => h i (List.mem_range.1 hi)
/-- A value that is a slice of these n bytes. -/
def Sq (w : World) (v : Value) (n : Nat) (f : Nat → Int) : Prop :=
  (n = 0 ∧ v = .slice none 0 0) ∨ ∃ S c : Nat, v = .slice (some ⟨S, 0, none⟩) n c ∧ ∀ i, i < n → w.cell? ⟨S, i, none⟩ = some (.int .u8 (f i))
theorem Sq.run {w : World} {v : Value} {n : Nat} {f : Nat → Int} (h : Sq w v n f) : (convert 22 9 v).run Tryd.prog w = .ok (.string (strOfNums (ints n f))) w := by
  rcases h with ⟨rfl, rfl⟩ | ⟨S, c, rfl, hc⟩
  · exact run_convert_bytes_nil w 22 5 Tryd.underlying22 Tryd.underlying5 0 0 9 Tryd.underlying9
  · exact run_convert_bytes_arg w 22 5 Tryd.underlying22 Tryd.underlying5 S 0 n c (ints n f) (ints_len n f) (fun i hi => by rw [Nat.zero_add, ints_get n f i hi]; exact hc i hi) 9 Tryd.underlying9
theorem Sq.of {w : World} {B : Nat} {v : Value} {n : Nat} {f : Nat → Int} (h : Src w B v n f) : Sq w v n f := by
  rcases h with ⟨h0, hv⟩ | ⟨_, S, sc, hv, _, _, _, hc⟩
  · exact .inl ⟨h0, hv⟩
  · exact .inr ⟨S, sc, hv, hc⟩
set_option maxHeartbeats 1000000 in
theorem c9 (w : World) (v1 v2 : Value) (n : Nat) (f g : Nat → Int) (h1 : Sq w v1 n f) (h2 : Sq w v2 n g) (h : ∀ i, i < n → f i = g i) :
    Calls Tryd.prog 9 #[v1, v2] w fun e w' => e = .returned (.bool true) ∧ w = w' := by
  have r1 := h1.run
  have r2 := h2.run
  rw [← ints_congr n f g h] at r2
  generalize strOfNums (ints n f) = s at *
  clear h1 h2 h
  go_enter Tryd.func9, Tryd.ntmps9
  go_wp2_with (fail)
  go_ret
  exact ⟨rfl, rfl⟩
end Go.Proofs.YthdbedfofccbmaaDoor
