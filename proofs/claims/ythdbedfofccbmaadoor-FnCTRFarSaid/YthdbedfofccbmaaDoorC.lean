/-
  The contract of the function that adds bytes to bytes.
-/
import Derived.Test.YthdbedfofccbmaaDoorB
import Derived.StillTailTactics
open Go Go.RowKit
namespace Go.Proofs.YthdbedfofccbmaaDoor
def xr (f s : Nat → Int) (k : Nat) : Nat → Int := fun j => if j < k then bits .xor .u8 (s j) (f j) else f j
set_option maxHeartbeats 1000000 in
theorem c29 (w : World) (g : Nat) (t : TypeId) (N n cap : Nat) (f s : Nat → Int) (S so cap' : Nat) (hn : 0 < n) (hm : n ≤ 128) (hN : n ≤ N) (hSg : S ≠ g) (hSl : S < w.heap.size)
    (hB : Byt w g t N f) (hs : ∀ i, i < n → w.cell? ⟨S, so + i, none⟩ = some (.int .u8 (s i))) :
    Calls Tryd.prog 29 #[.slice (some ⟨g, 0, none⟩) n cap, .slice (some ⟨S, so, none⟩) n cap', .slice (some ⟨g, 0, none⟩) n cap] w
      fun e w' => e = .returned (.int .i64 n) ∧ UpB w w' g t N (xr f s n) := by
  have HB : Hid (UpB w w g t N (xr f s 0)) := (UpB.start hB).congr (fun i _ => by simp [xr])
  have Hs : Hid (∀ i, i < n → w.cell? ⟨S, so + i, none⟩ = some (.int .u8 (s i))) := hs
  have h0 : ((n : Int) == 0) = false := by simp; omega
  clear hB hs
  go_enter Tryd.func29, Tryd.ntmps29
  go_wp2
  go_loopw [8] (fun i wr => ∃ k : Nat, k ≤ n ∧ i = .int .i64 k ∧ UpB w wr g t N (xr f s k)) (fun i _ => n - (intOf i).toNat)
  case atStart => exact ⟨0, Nat.zero_le _, rfl, HB.out⟩
  case round =>
    obtain ⟨k, hk, rfl, hU⟩ := hrel
    by_cases hlt : k < n
    · have c1 := hU.1.cell (i := k) (by omega)
      have e1 : xr f s k k = f k := by simp [xr]
      rw [e1] at c1
      have c2 := (World.cell?_of_block (hU.2.block S hSl (by simpa using hSg))).trans (Hs.out k hlt)
      have hf : ∀ i, wr.frozen? ⟨g, i, none⟩ = false := Blk.frozen hU.1
      have HU : Hid (UpB w wr g t N (xr f s k)) := hU
      clear hU e1
      go_wp2
      go_still_tail 12, (by kernel_rfl)
      go_wp2
      go_roundw
      case rel =>
        refine ⟨k + 1, by omega, by go_num, ?_⟩
        refine ((HU.out.drew).set_ k _).congr (fun i _ => ?_)
        show _ = _
        unfold upd xr
        by_cases hik : i = k
        · subst hik; simp
        · rw [if_neg hik]
          by_cases h2 : i < k
          · rw [if_pos h2, if_pos (by omega)]
          · rw [if_neg h2, if_neg (by omega)]
      case measure => simp [intOf]; omega
    · have : k = n := by omega
      subst this
      have HU : Hid (UpB w wr g t N (xr f s k)) := hU
      clear hU
      go_wp2
      go_ret
      exact ⟨rfl, HU.out⟩
end Go.Proofs.YthdbedfofccbmaaDoor
