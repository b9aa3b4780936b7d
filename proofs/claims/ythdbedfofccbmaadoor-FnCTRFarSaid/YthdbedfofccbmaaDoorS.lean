/-
  The counter carried on, as the program does it.
-/
import Derived.Test.YthdbedfofccbmaaDoorR
import Derived.Laws.Rows
open Go Go.RowKit
namespace Go.Proofs.YthdbedfofccbmaaDoor
attribute [local go_sem] u32_and255
theorem size30 : (Tryd.prog.info? 30).map (·.size) = some 16 := by kernel_rfl
theorem zero30 (w : World) : (zeroValue 30).run Tryd.prog w = .ok (.agg (bytesA 16 (fun _ => 0))) w := by kernel_rfl
theorem bytesA_one (n : Nat) (f : Nat → Int) : (bytesA n f).all (·.oneCell') = true := by
  rw [Array.all_eq_true]
  intro i hi
  simp [bytesA, Value.oneCell']
/-- The bytes behind k rounds. -/
def nf (d : Nat → Nat) (x k : Nat) : Nat → Int := fun i => if 16 ≤ i + k then (dig d x (15 - i) : Int) else (d (15 - i) : Int)
set_option maxHeartbeats 2000000 in
set_option maxRecDepth 100000 in
theorem c8 (w : World) (d : Nat → Nat) (hd : ∀ k, d k < 256) (x : Nat) (hx : x ≤ 72057594037927936) :
    Calls Tryd.prog 8 #[.agg (bytesA 16 (fun i => (d (15 - i) : Int))), .int .u64 x, .int .i64 16] w
      fun e w' => e = .returned (.agg (bytesA 16 (fun i => (dig d x (15 - i) : Int)))) ∧ w.grownBy w' none := by
  have hz := zero30
  have o16 := bytesA_size 16 (fun i => (d (15 - i) : Int))
  have HD := Lib.hid hd
  clear hd
  go_enter Tryd.func8, Tryd.ntmps8
  go_wp2_with (fail)
  have b1 : Byt ((w.alloc (Obj.cells (bytesA 16 (fun i => (d (15 - i) : Int))) 30)).alloc (Obj.cells (bytesA 16 fun _ => 0) 30)) w.heap.size 30 16 (fun i => (d (15 - i) : Int)) := Blk.alloc (Blk.new w 30 _) _
  have b2 : Byt ((w.alloc (Obj.cells (bytesA 16 (fun i => (d (15 - i) : Int))) 30)).alloc (Obj.cells (bytesA 16 fun _ => 0) 30)) (w.heap.size + 1) 30 16 (fun _ => 0) := by
    have := Blk.new (w.alloc (Obj.cells (bytesA 16 (fun i => (d (15 - i) : Int))) 30)) 30 (bytesA 16 fun _ => 0)
    rwa [show (w.alloc (Obj.cells (bytesA 16 (fun i => (d (15 - i) : Int))) 30)).heap.size = w.heap.size + 1 from by show (w.heap.push _).size = _; rw [Array.size_push]] at this
  have g1 : w.grownBy ((w.alloc (Obj.cells (bytesA 16 (fun i => (d (15 - i) : Int))) 30)).alloc (Obj.cells (bytesA 16 fun _ => 0) 30)) none := grownBy_trans (World.grownBy_alloc w _ none) (World.grownBy_alloc _ _ none)
  generalize (w.alloc (Obj.cells (bytesA 16 (fun i => (d (15 - i) : Int))) 30)).alloc (Obj.cells (bytesA 16 fun _ => 0) 30) = w1 at *
  obtain ⟨K0, hK0⟩ : ∃ K0, w.heap.size = K0 := ⟨_, rfl⟩
  rw [hK0] at b1 b2 ⊢
  have HK0 := Lib.hid hK0
  have B1 := Lib.hid b1
  have B2 := Lib.hid b2
  have G1 := Lib.hid g1
  clear b1 b2 g1 hK0 hz o16
  go_loopw [1, 7] (fun n i wz => ∃ k : Nat, k ≤ 16 ∧ i = .int .i64 (15 - (k : Int)) ∧ n = .int .u64 (car d x k) ∧ UpB w1 wz K0 30 16 (nf d x k)) (fun _ i _ => (intOf i + 1).toNat)
  case atStart => exact ⟨0, Nat.zero_le _, rfl, rfl, UpB.congr (UpB.start B1.out) (fun i hi => by unfold nf; rw [if_neg (by omega)])⟩
  case round =>
    obtain ⟨k, hk, rfl, rfl, hU⟩ := hrel
    have HU := Lib.hid hU
    clear hU
    by_cases hlt : k < 16
    · obtain ⟨q, hq⟩ : ∃ q : Nat, (15 : Int) - (k : Int) = (q : Int) := ⟨15 - k, by omega⟩
      have hqk : q + k = 15 := by omega
      have HQ := Lib.hid hqk
      have hq15 : q ≤ 15 := by omega
      have hc := car_le d HD.out x 72057594037927936 hx (by omega) k
      have hdk := HD.out k
      have ld : wr.cell? ⟨K0, q, none⟩ = some (.int .u8 (d k)) := by
        rw [Byt.cell HU.out.1 (by omega)]
        unfold nf
        rw [if_neg (by omega), show 15 - q = k from by omega]
      have st2 : wr.frozen? ⟨K0, q, none⟩ = false := Blk.frozen HU.out.1 q
      clear hqk
      go_wp2_with (fail)
      go_roundw
      case rel =>
        refine ⟨k + 1, by omega, by go_num, ?_, UpB.congr (UpB.set_ HU.out q _) (fun i hi => ?_)⟩
        · congr 1
        · have := HQ.out
          unfold upd nf dig
          by_cases e : i = q
          · subst e
            rw [if_pos rfl, if_pos (by omega), show 15 - i = k from by omega]
            omega
          · rw [if_neg e]
            by_cases e2 : 16 ≤ i + k
            · rw [if_pos e2, if_pos (by omega)]
            · rw [if_neg e2, if_neg (by omega)]
      case measure => simp [intOf]; omega
    · have hk16 : k = 16 := by omega
      subst hk16
      obtain ⟨wo, rfl⟩ : ∃ wo : World, wo = wr := ⟨_, rfl⟩
      have b2 : Byt wo (K0 + 1) 30 16 (fun _ => 0) := B2.out.keep HU.out.2 (by simp)
      have HB2 := Lib.hid b2
      clear b2
      go_wp2_with (first
        | (refine wpList_load_row rfl 30 (.tmp 3) rfl K0 rfl 30 (bytesA 16 (nf d x 16)) (0, 0) _ (by exact HU.out.1) Tryd.underlying30 rfl (by rw [bytesA_size]; exact size30) ?_)
        | (refine wpList_store_row rfl 30 (.tmp 6) (.tmp 26) rfl (K0 + 1) (bytesA 16 (nf d x 16)) rfl rfl 30 (bytesA 16 fun _ => 0) (by exact HB2.out) (by rw [bytesA_size]; exact size30) (by rw [bytesA_size, bytesA_size]) (bytesA_one _ _) ?_)
        | fail)
      have hrow := setRow_heap wo (K0 + 1) (bytesA 16 fun _ => 0) (bytesA 16 (nf d x 16)) 30 (0, 0) (by exact HB2.out)
      refine bodyPost_ret (v := .agg (bytesA 16 (nf d x 16))) (results_cell_row rfl _ _ (K0 + 1) 30 (bytesA 16 (nf d x 16)) (0, 0) _ rfl hrow Tryd.underlying30 rfl (by rw [bytesA_size]; exact size30)) rfl ⟨?_, ?_⟩
      · rw [show bytesA 16 (nf d x 16) = bytesA 16 (fun i => (dig d x (15 - i) : Int)) from bytesA_congr fun i hi => by unfold nf; rw [if_pos (by omega)]]
      · have := HK0.out
        exact grownBy_new (grownBy_new G1.out HU.out.2 (by omega)) (grownBy_setRow _ _ _) (by omega)
end Go.Proofs.YthdbedfofccbmaaDoor
