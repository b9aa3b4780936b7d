/-
  The stream over one piece: a new slice of what the bytes are encrypted to.
-/
import Derived.Test.YthdbedfofccbmaaDoorV
open Go Go.RowKit
namespace Go.Proofs.YthdbedfofccbmaaDoor
attribute [local go_sem] u32_and255
set_option maxHeartbeats 2000000 in
set_option maxRecDepth 100000 in
theorem c7 (T : Tabs) (w : World) (hT : TabOK T w) (A : Option Addr) (klen kc : Nat) (y : Nat → Int) (nk R : Nat) (hk : Key klen nk R) (hA : Rd w A klen y) (d : Nat → Nat) (hd : ∀ k, d k < 256)
    (Ab : Option Addr) (n cb : Nat) (s : Nat → Int) (hB : Rd w Ab n s) (hn : n ≤ 16384) (G gc : Nat) (h0 : w.cell? ⟨G, 0, none⟩ = some (.slice Ab n cb)) :
    Calls Tryd.prog 7 #[.slice A klen kc, .agg (bytesA 16 (fun i => (d (15 - i) : Int))), .slice (some ⟨G, 0, none⟩) 1 gc] w
      fun e w' => ∃ v, e = .returned (.tuple #[v, .bool true]) ∧ Sq w' v n (ks T y nk R (num d 16) s) ∧ w.grownBy w' none := by
  have HT := Lib.hid hT
  have HK := Lib.hid hk
  have HA := Lib.hid hA
  have HD := Lib.hid hd
  have HB := Lib.hid hB
  have H0 := Lib.hid h0
  clear hT hk hA hd hB h0
  go_enter Tryd.func7, Tryd.ntmps7
  go_wp2_with (fail)
  have b1 : Byt (w.alloc (Obj.cells (bytesA 16 (fun i => (d (15 - i) : Int))) 23)) w.heap.size 23 16 (fun i => (d (15 - i) : Int)) := Blk.new w 23 _
  have g1 : w.grownBy (w.alloc (Obj.cells (bytesA 16 (fun i => (d (15 - i) : Int))) 23)) none := World.grownBy_alloc w _ none
  generalize w.alloc (Obj.cells (bytesA 16 (fun i => (d (15 - i) : Int))) 23) = w1 at *
  generalize w.heap.size = V at *
  have B1 := Lib.hid b1
  have G1 := Lib.hid g1
  clear b1 g1
  refine (c11 w1 A klen kc y (HA.out.grown G1.out) (by have := HK.out.pos; omega)).mono ?_
  rintro e w2 ⟨v2, rfl, hs, hg⟩
  obtain ⟨S, sc, rfl, hS1, hS2, hS3, hS4⟩ := hs.pos (by have := HK.out.pos; omega)
  have G2 := Lib.hid (grownBy_trans G1.out hg)
  have V2 := Lib.hid (Byt.keep B1.out hg (by simp))
  have HS4 := Lib.hid hS4
  clear hs hg hS4
  go_wp2_with (fail)
  refine (c10 T w2 klen nk R HK.out (HT.out.grown G2.out (by simp)) (Nat.le_trans HT.out.size G2.out.size) S sc y hS2 hS3 HS4.out (World.block_lt_of_cell? w2 ⟨S, 0, none⟩ (HS4.out 0 (by have := HK.out.pos; omega)))).mono ?_
  rintro e w3 ⟨K, cs, rfl, hK, hC, hP, hg⟩
  have G3 := Lib.hid (grownBy_trans G2.out hg)
  have V3 := Lib.hid (Byt.keep V2.out hg (by simp))
  have HC := Lib.hid hC
  have HP := Lib.hid hP
  clear hg hC hP HS4 hS2 hS3 hS1
  go_wp2_with (fail)
  refine (c11 w3 (some ⟨V, 0, none⟩) 16 16 _ (Byt.rd V3.out) (by omega)).mono ?_
  rintro e w5 ⟨v5, rfl, hs, hg⟩
  obtain ⟨S5, sc5, rfl, hS1, hS2, hS3, hS4⟩ := hs.pos (by omega)
  have G5 := Lib.hid (grownBy_trans G3.out hg)
  have C5 := Lib.hid (Blk.grown HC.out hg (by simp))
  have HS4 := Lib.hid hS4
  clear hs hg hS4 hS1
  go_wp2_with (fail)
  refine (c12 w5 K 54 S5 sc5 _ cs HP.out.size C5.out HP.out.one hS2 hS3 HS4.out).mono ?_
  rintro e w6 ⟨K6, X, rfl, hK6, hX, hCt, hg⟩
  have G6 := Lib.hid (grownBy_trans G5.out hg)
  have X6 := Lib.hid hX
  have Ct := Lib.hid hCt
  have HK6 : w.heap.size ≤ K6 := Nat.le_trans G5.out.size hK6
  clear hX hCt hg HS4 hS2 hS3 hK6
  go_wp2_with (fail)
  have ldp : w6.cell? ⟨G, 0, none⟩ = some (.slice Ab n cb) := G6.out.cell H0.out (by simp)
  refine wp_loop_rounds 2 ?_
  rw [rounds_succ]
  obtain ⟨w7, hmk, hD, g7⟩ := run_makeB w6 n n (Nat.le_refl _) (by omega)
  go_wp2_with (fail)
  have hKD : K6 < w6.heap.size := X6.out.lt
  have hwD : w.heap.size ≤ w6.heap.size := G6.out.size
  generalize w6.heap.size = D at *
  have G7 := Lib.hid (grownBy_trans G6.out g7)
  have X7 := Lib.hid (Blk.grown X6.out g7 (by simp))
  have D7 := Lib.hid hD
  have hlt := hD.lt
  clear hmk hD g7 ldp
  refine (c11 w7 Ab n cb s (HB.out.grown G7.out) (by omega)).mono ?_
  rintro e w8 ⟨v8, rfl, hs, hg⟩
  have G8 := Lib.hid (grownBy_trans G7.out hg)
  have D8 := Lib.hid (Byt.keep D7.out hg (by simp))
  have X8 := Lib.hid (Blk.grown X7.out hg (by simp))
  have S8 := Lib.hid (hs.more (B' := D + 1) (by omega))
  clear hs hg hlt
  have HE := Lib.hid (Env.of (HT.out.grown G8.out (by simp)) X8.out Ct.out HP.out HK.out.rounds)
  have hlo : w8.cell? ⟨K6, 121, none⟩ = some (.int .u64 (lo64 (num d 16))) := by
    rw [← (halves d HD.out).1]
    exact (Blk.cell X8.out 121).trans Ct.out.lo
  have hhi : w8.cell? ⟨K6, 122, none⟩ = some (.int .u64 (hi64 (num d 16))) := by
    rw [← (halves d HD.out).2]
    exact (Blk.cell X8.out 122).trans Ct.out.hi
  have hof : w8.cell? ⟨K6, 123, none⟩ = some (.int .u64 0) := (Blk.cell X8.out 123).trans Ct.out.off
  have LO := Lib.hid hlo
  have HI := Lib.hid hhi
  have HF := Lib.hid hof
  clear hlo hhi hof
  go_wp2_with (fail)
  refine (c14u T w8 K6 R _ HE.out (num d 16) LO.out HI.out HF.out (Blk.frozen X8.out 123) D n _ D8.out hn v8 s S8.out (by omega) (Nat.le_trans HT.out.size hwD) w.heap.size HK6 hwD).mono ?_
  rintro e w9 ⟨rfl, hb, hbe⟩
  have B9 := Lib.hid hb
  have G9 := Lib.hid (grownBy_below G8.out hbe (Nat.le_refl _) hbe.size)
  clear hb hbe
  obtain ⟨v', w10, hrun, hs, hg⟩ := run_app w9 (some ⟨D, 0, none⟩) n n _ (Byt.rd B9.out) (by omega)
  have HRun := Lib.hid hrun
  have S10 := Lib.hid hs
  have G10 := Lib.hid (grownBy_trans G9.out hg)
  clear hrun hs hg
  go_wp2_with (first | (refine wpList_append_run rfl (.tmp 41) (.tmp 42) 22 rfl (.slice none 0 0) (.slice (some ⟨D, 0, none⟩) n n) v' w10 rfl rfl HRun.out ?_) | fail)
  rw [rounds_succ]
  go_wp2_with (fail)
  go_ret2
  exact ⟨_, rfl, Sq.of S10.out, G10.out⟩
end Go.Proofs.YthdbedfofccbmaaDoor
