/-
  The stream at an offset: a new slice of what the bytes are encrypted to.
-/
import Derived.Test.YthdbedfofccbmaaDoorU
open Go Go.RowKit
namespace Go.Proofs.YthdbedfofccbmaaDoor
attribute [local go_sem] u32_and255
theorem Rd.grown {w w' : World} {A : Option Addr} {n : Nat} {s : Nat → Int} (h : Rd w A n s) (k : w.grownBy w' none) : Rd w' A n s := fun h0 => by
  obtain ⟨ad, e, hb, hc⟩ := h h0
  exact ⟨ad, e, Nat.lt_of_lt_of_le hb k.size, fun i hi => k.cell (hc i hi) (by simp)⟩
theorem Byt.rd {w : World} {g n : Nat} {t : TypeId} {f : Nat → Int} (h : Byt w g t n f) : Rd w (some ⟨g, 0, none⟩) n f := fun _ =>
  ⟨⟨g, 0, none⟩, rfl, h.lt, fun i hi => by rw [addr_add, Nat.zero_add]; exact h.cell hi⟩
theorem Src.more {w : World} {B B' : Nat} {v : Value} {n : Nat} {s : Nat → Int} (h : Src w B v n s) (hB : B' ≤ B) : Src w B' v n s := by
  rcases h with h | ⟨h0, S, sc, hv, hb, h⟩
  · exact .inl h
  · exact .inr ⟨h0, S, sc, hv, Nat.le_trans hB hb, h⟩
theorem Env.of {T : Tabs} {w : World} {K R nk : Nat} {X cs : Array Value} {lo hi : Value} {y : Nat → Int} (hT : TabOK T w) (hX : Blk w K 56 X) (hC : Ctr X cs lo hi) (hk : KP T y nk R cs) (hR : R = 10 ∨ R = 12 ∨ R = 14) :
    Env T w K R (encF T y nk (4 * (R + 1))) :=
  ⟨hT, (Blk.cell hX 0).trans ((hC.block 0 (by omega)).trans hk.r), fun i hi => (Blk.cell hX (1 + i)).trans ((hC.block (1 + i) (by omega)).trans (hk.w i hi)), hR⟩
theorem grownBy_below {w w7 w8 : World} {B : Nat} (h : w.grownBy w7 none) (k : Below B w7 w8) (hB : w.heap.size ≤ B) (hs : w7.heap.size ≤ w8.heap.size) : w.grownBy w8 none :=
  ⟨k.os.trans h.os, k.tape.trans h.tape, k.output.trans h.output, Nat.le_trans h.size hs, fun i hi hr => (k.block i (by omega)).trans (h.block i hi hr)⟩
/-- What the stream makes of the bytes s, from block c on. -/
def ks (T : Tabs) (y : Nat → Int) (nk R c : Nat) (s : Nat → Int) : Nat → Int := fun i => bits .xor .u8 (s i) (kb T R (encF T y nk (4 * (R + 1))) (c + i / 16) (i % 16))
theorem Key.rounds {klen nk R : Nat} (h : Key klen nk R) : R = 10 ∨ R = 12 ∨ R = 14 := by have := h.h; omega
theorem Key.pos {klen nk R : Nat} (h : Key klen nk R) : 16 ≤ klen ∧ klen ≤ 32 := by have := h.h; omega
theorem Src.pos {w : World} {B : Nat} {v : Value} {n : Nat} {s : Nat → Int} (h : Src w B v n s) (h0 : 0 < n) :
    ∃ S sc : Nat, v = .slice (some ⟨S, 0, none⟩) n sc ∧ B ≤ S ∧ n ≤ sc ∧ (sc : Int) ≤ 9223372036854775807 ∧ ∀ i, i < n → w.cell? ⟨S, i, none⟩ = some (.int .u8 (s i)) := by
  rcases h with ⟨h1, _⟩ | ⟨_, h⟩
  · omega
  · exact h
set_option maxHeartbeats 2000000 in
set_option maxRecDepth 100000 in
theorem c6 (T : Tabs) (w : World) (hT : TabOK T w) (A : Option Addr) (klen kc : Nat) (y : Nat → Int) (nk R : Nat) (hk : Key klen nk R) (hA : Rd w A klen y) (d : Nat → Nat) (hd : ∀ k, d k < 256)
    (Ab : Option Addr) (n cb : Nat) (s : Nat → Int) (hB : Rd w Ab n s) (hn : n ≤ 16384) (bl off : Nat) (hbl : bl < 2 ^ 64) (hoff : off = 16 * bl) :
    Calls Tryd.prog 6 #[.slice A klen kc, .agg (bytesA 16 (fun i => (d (15 - i) : Int))), .slice Ab n cb, .int .u64 (off : Int)] w
      fun e w' => ∃ v, e = .returned (.tuple #[v, .bool true]) ∧ Sq w' v n (ks T y nk R (num d 16 + bl) s) ∧ w.grownBy w' none := by
  have HT := Lib.hid hT
  have HK := Lib.hid hk
  have HA := Lib.hid hA
  have HD := Lib.hid hd
  have HB := Lib.hid hB
  have HO := Lib.hid hoff
  have HL := Lib.hid hbl
  clear hT hk hA hd hB hoff hbl
  go_enter Tryd.func6, Tryd.ntmps6
  go_wp2_with (fail)
  have b1 : Byt (w.alloc (Obj.cells (bytesA 16 (fun i => (d (15 - i) : Int))) 23)) w.heap.size 23 16 (fun i => (d (15 - i) : Int)) := Blk.new w 23 _
  have g1 : w.grownBy (w.alloc (Obj.cells (bytesA 16 (fun i => (d (15 - i) : Int))) 23)) none := World.grownBy_alloc w _ none
  generalize w.alloc (Obj.cells (bytesA 16 (fun i => (d (15 - i) : Int))) 23) = w1 at *
  generalize w.heap.size = V at *
  have B1 := Lib.hid b1
  have G1 := Lib.hid g1
  clear b1 g1
  refine (c11 w1 A klen kc y (HA.out.grown G1.out) (by have := HK.out.pos; omega)).mono ?_
  rintro e w2 ⟨v2, rfl, hs, hg⟩
  obtain ⟨S, sc, rfl, hS1, hS2, hS3, hS4⟩ := hs.pos (by have := HK.out.pos; omega)
  have G2 := Lib.hid (grownBy_trans G1.out hg)
  have V2 := Lib.hid (Byt.keep B1.out hg (by simp))
  have HS4 := Lib.hid hS4
  clear hs hg hS4
  go_wp2_with (fail)
  refine (c10 T w2 klen nk R HK.out (HT.out.grown G2.out (by simp)) (Nat.le_trans HT.out.size G2.out.size) S sc y hS2 hS3 HS4.out (World.block_lt_of_cell? w2 ⟨S, 0, none⟩ (HS4.out 0 (by have := HK.out.pos; omega)))).mono ?_
  rintro e w3 ⟨K, cs, rfl, hK, hC, hP, hg⟩
  have G3 := Lib.hid (grownBy_trans G2.out hg)
  have V3 := Lib.hid (Byt.keep V2.out hg (by simp))
  have HC := Lib.hid hC
  have HP := Lib.hid hP
  clear hg hC hP HS4 hS2 hS3 hS1
  obtain ⟨w4, hmk, hD, g4⟩ := run_makeB w3 n n (Nat.le_refl _) (by omega)
  go_wp2_with (fail)
  have hKD : K < w3.heap.size := HC.out.lt
  have hwD : w.heap.size ≤ w3.heap.size := G3.out.size
  generalize w3.heap.size = D at *
  have G4 := Lib.hid (grownBy_trans G3.out g4)
  have HC4 := Lib.hid (Blk.grown HC.out g4 (by simp))
  have HDb := Lib.hid hD
  have V4 := Lib.hid (Byt.keep V3.out g4 (by simp))
  clear hmk hD g4
  refine (c11 w4 (some ⟨V, 0, none⟩) 16 16 _ (Byt.rd V4.out) (by omega)).mono ?_
  rintro e w5 ⟨v5, rfl, hs, hg⟩
  obtain ⟨S5, sc5, rfl, hS1, hS2, hS3, hS4⟩ := hs.pos (by omega)
  have G5 := Lib.hid (grownBy_trans G4.out hg)
  have C5 := Lib.hid (Blk.grown HC4.out hg (by simp))
  have D5 := Lib.hid (Byt.keep HDb.out hg (by simp))
  have HS4 := Lib.hid hS4
  clear hs hg hS4 hS1
  go_wp2_with (fail)
  refine (c12 w5 K 54 S5 sc5 _ cs HP.out.size C5.out HP.out.one hS2 hS3 HS4.out).mono ?_
  rintro e w6 ⟨K6, X, rfl, hK6, hX, hCt, hg⟩
  have G6 := Lib.hid (grownBy_trans G5.out hg)
  have D6 := Lib.hid (Byt.keep D5.out hg (by simp))
  have X6 := Lib.hid hX
  have Ct := Lib.hid hCt
  have hDK : D < K6 := Nat.lt_of_lt_of_le D5.out.lt hK6
  have D5lt := D6.out.lt
  clear hX hCt hg HS4 hS2 hS3 hK6
  go_wp2_with (fail)
  refine (c11 w6 Ab n cb s (HB.out.grown G6.out) (by omega)).mono ?_
  rintro e w7 ⟨v7, rfl, hs, hg⟩
  have G7 := Lib.hid (grownBy_trans G6.out hg)
  have D7 := Lib.hid (Byt.keep D6.out hg (by simp))
  have X7 := Lib.hid (Blk.grown X6.out hg (by simp))
  have S7 := Lib.hid (hs.more (B' := D + 1) (by omega))
  clear hs hg
  have HE := Lib.hid (Env.of (HT.out.grown G7.out (by simp)) X7.out Ct.out HP.out HK.out.rounds)
  have hlo : w7.cell? ⟨K6, 121, none⟩ = some (.int .u64 (lo64 (num d 16))) := by
    rw [← (halves d HD.out).1]
    exact (Blk.cell X7.out 121).trans Ct.out.lo
  have hhi : w7.cell? ⟨K6, 122, none⟩ = some (.int .u64 (hi64 (num d 16))) := by
    rw [← (halves d HD.out).2]
    exact (Blk.cell X7.out 122).trans Ct.out.hi
  have LO := Lib.hid hlo
  have HI := Lib.hid hhi
  clear hlo hhi
  go_wp2_with (fail)
  refine (c13u T w7 K6 R _ HE.out (num d 16) bl off HL.out HO.out LO.out HI.out D n _ D7.out hn v7 s S7.out (by omega) (Nat.le_trans HT.out.size hwD) w.heap.size hwD).mono ?_
  rintro e w8 ⟨rfl, hb, hbe⟩
  have B8 := Lib.hid hb
  have E8 := Lib.hid hbe
  clear hb hbe
  go_wp2_with (fail)
  go_ret2
  refine ⟨_, rfl, .inr ⟨D, n, rfl, fun i hi => B8.out.cell hi⟩, grownBy_below G7.out E8.out (Nat.le_refl _) E8.out.size⟩
end Go.Proofs.YthdbedfofccbmaaDoor
