/-
  The contract of the counter's blocks: key bytes are made in a block of the call's own, added to the source and copied to the destination.
-/
import Derived.Test.YthdbedfofccbmaaDoorF
import Derived.StillTailTactics
open Go Go.RowKit
namespace Go.Proofs.YthdbedfofccbmaaDoor
/-- The first j blocks of key bytes. -/
def ksf (T : Tabs) (R : Nat) (ek : Nat → Int) (c j : Nat) : Nat → Int := fun i => if i < 16 * j then kb T R ek (c + i / 16) (i % 16) else 0
theorem grownBy_fresh {w w' : World} {g : Nat} (h : w.grownBy w' (some g)) (hg : w.heap.size ≤ g) : w.grownBy w' none :=
  ⟨h.os, h.tape, h.output, h.size, fun k hk _ => h.block k hk (fun e => by injection e with e; omega)⟩
theorem grownBy_drew (w : World) (row : Option Nat) : w.grownBy w.drew row := ⟨rfl, rfl, rfl, Nat.le_refl _, fun _ _ _ => rfl⟩
theorem Env.drew {T : Tabs} {w : World} {C R : Nat} {ek : Nat → Int} (h : Env T w C R ek) : Env T w.drew C R ek := h.grown (grownBy_drew _ none) (by simp) (by simp)
theorem ks_step (T : Tabs) (R : Nat) (ek : Nat → Int) (c j q : Nat) (hq : q = 16 * j) (i : Nat) :
    wr (wr (wr (ksf T R ek c j) q 8 (w8 (hi64 (c + j)))) (q + 8) 8 (w8 (lo64 (c + j)))) q 16
      (fun i => w4 (en T R ek (fun k => wr (wr (ksf T R ek c j) q 8 (w8 (hi64 (c + j)))) (q + 8) 8 (w8 (lo64 (c + j))) (q + k)) (i / 4)) (i % 4)) i = ksf T R ek c (j + 1) i := by
  have hx : ∀ k, k < 16 → wr (wr (ksf T R ek c j) q 8 (w8 (hi64 (c + j)))) (q + 8) 8 (w8 (lo64 (c + j))) (q + k) = cb (c + j) k := by
    intro k hk
    unfold wr cb
    by_cases h8 : k < 8
    · rw [if_neg (by omega), if_pos (by omega), if_pos h8, show q + k - q = k from by omega]
    · rw [if_pos (by omega), if_neg h8, show q + k - (q + 8) = k - 8 from by omega]
  have hy : ¬ (q ≤ i ∧ i < q + 16) → wr (wr (ksf T R ek c j) q 8 (w8 (hi64 (c + j)))) (q + 8) 8 (w8 (lo64 (c + j))) i = ksf T R ek c j i := by
    intro h
    unfold wr
    rw [if_neg (by omega), if_neg (by omega)]
  generalize wr (wr (ksf T R ek c j) q 8 (w8 (hi64 (c + j)))) (q + 8) 8 (w8 (lo64 (c + j))) = F at *
  unfold wr
  by_cases h : q ≤ i ∧ i < q + 16
  · rw [if_pos h]
    unfold ksf
    rw [if_pos (by omega)]
    show w4 (en T R ek (fun k => F (q + k)) ((i - q) / 4)) ((i - q) % 4) = kb T R ek (c + i / 16) (i % 16)
    rw [en_congr T R ek _ (cb (c + j)) hx _ (by omega)]
    unfold kb
    rw [show i / 16 = j from by omega, show i % 16 = i - q from by omega]
  · rw [if_neg h, hy h]
    unfold ksf
    by_cases h2 : i < 16 * j
    · rw [if_pos h2, if_pos (by omega)]
    · rw [if_neg h2, if_neg (by omega)]
set_option maxHeartbeats 1000000 in
theorem c25 (T : Tabs) (w : World) (C R : Nat) (ek : Nat → Int) (hE : Env T w C R ek) (c nb n : Nat) (hn : n = 16 * nb) (hnb : 1 ≤ nb) (hnb8 : nb ≤ 8)
    (D o dcap : Nat) (t : TypeId) (N : Nat) (f : Nat → Int) (hD : Byt w D t N f) (hfit : o + n ≤ N)
    (S so scap : Nat) (s : Nat → Int) (hs : ∀ i, i < n → w.cell? ⟨S, so + i, none⟩ = some (.int .u8 (s i))) :
    Calls Tryd.prog 25 #[.pointer (some ⟨C, 0, none⟩), .slice (some ⟨D, o, none⟩) n dcap, .slice (some ⟨S, so, none⟩) n scap, .int .u64 (lo64 c), .int .u64 (hi64 c)] w
      fun e w' => e = .returned (.tuple #[]) ∧ UpB w w' D t N (wr f o n (fun i => bits .xor .u8 (s i) (kb T R ek (c + i / 16) (i % 16)))) := by
  obtain ⟨w1, hmk, hB1, hG1⟩ := run_makeB w n 128 (by omega) (by omega)
  have hmk2 : (Instr.makeSlice 22 (.int .i64 (n : Int)) (.int .i64 128)).run Tryd.prog w = .ok (.slice (some ⟨w.heap.size, 0, none⟩) n 128) w1 := hmk
  clear hmk
  generalize hGe : w.heap.size = G at hmk2 hB1
  have HGe := Lib.hid hGe
  clear hGe
  have hn1 : n ≤ 128 := by omega
  have hn16 : 16 ≤ n := by omega
  have Hn := Lib.hid hn
  have HE := Lib.hid hE
  have HD := Lib.hid hD
  have HS := Lib.hid hs
  have HB1 := Lib.hid hB1
  have HG1 := Lib.hid hG1
  clear hn hE hD hs hB1 hG1
  go_enter Tryd.func25, Tryd.ntmps25
  go_wp2
  go_loopw [3, 4, 11] (fun lo hi i wr => ∃ j q : Nat, Hid (q = 16 * j) ∧ j ≤ nb ∧ q ≤ n ∧ i = .int .i64 q ∧ lo = .int .u64 (lo64 (c + j)) ∧ hi = .int .u64 (hi64 (c + j)) ∧
      Byt wr G 5 128 (ksf T R ek c j) ∧ w1.grownBy wr (some G)) (fun _ _ i _ => n - (intOf i).toNat)
  case atStart => exact ⟨0, 0, rfl, by omega, by omega, rfl, rfl, rfl, HB1.out.congr (fun i _ => by simp [ksf]), grownBy_refl _ _⟩
  case round =>
    obtain ⟨j, q, hq, hj, hqn, rfl, rfl, rfl, hB, hG⟩ := hrel
    have HB := Lib.hid hB
    have HG := Lib.hid hG
    clear hB hG
    by_cases hlt : q < n
    · have hq16 : q + 16 ≤ n := by have := hq.out; have := Hn.out; omega
      go_wp2_with (fail)
      refine (c27 _ G 5 128 q _ _ _ _ (by omega) (by omega) (by exact HB.out) (by omega)).mono ?_
      rintro e w2 ⟨rfl, U2⟩
      have V2 := Lib.hid U2
      clear U2
      go_wp2_with (fail)
      refine (c27 _ G 5 128 (q + 8) _ _ _ _ (by omega) (by omega) (by exact V2.out.1) (by omega)).mono ?_
      rintro e w3 ⟨rfl, U3⟩
      have V3 := Lib.hid U3
      clear U3
      go_wp2_with (fail)
      refine (c17 _ (c + j) 1 (by omega)).mono ?_
      rintro e w3' ⟨rfl, rfl⟩
      go_wp2_with (fail)
      go_still_tail 7, (by kernel_rfl)
      go_wp2_with (fail)
      have hw3 : w.grownBy w3 (some G) := grownBy_trans (grownBy_trans (grownBy_trans (grownBy_none HG1.out) HG.out) V2.out.2) V3.out.2
      have hE3 : Env T w3 C R ek := HE.out.grown hw3 (fun g e => by injection e with e; have := HE.out.tab.size; have := HGe.out; omega) (fun e => by injection e with e; have := HE.out.lt; have := HGe.out; omega)
      have HE3 := Lib.hid hE3
      have Hw3 := Lib.hid hw3
      clear hE3 hw3
      refine (c28 T _ C R ek (by exact Env.drew HE3.out) G 5 128 q _ _ _ (by omega) (by omega) (by omega) (by omega) (by exact V3.out.1) (by omega)).mono ?_
      rintro e w4 ⟨rfl, U4⟩
      have V4 := Lib.hid U4
      clear U4
      go_wp2_with (fail)
      go_roundw
      case rel =>
        refine ⟨j + 1, q + 16, (show q + 16 = 16 * (j + 1) from by have := hq.out; omega), by have := hq.out; have := Hn.out; omega, by omega, by go_num, rfl, rfl, ?_, ?_⟩
        · refine V4.out.1.congr (fun i _ => ?_)
          exact ks_step T R ek c j q hq.out i
        · exact grownBy_trans (grownBy_trans (grownBy_trans HG.out V2.out.2) V3.out.2) (grownBy_trans (grownBy_drew _ _) V4.out.2)
      case measure => simp [intOf]; omega
    · have hqe : q = n := by omega
      subst hqe
      go_wp2_with (fail)
      have hw2 : w.grownBy wr (some G) := grownBy_trans (grownBy_none HG1.out) HG.out
      have Hw2 := Lib.hid hw2
      clear hw2
      have hSlt : S < w.heap.size := World.block_lt_of_cell? w ⟨S, so + 0, none⟩ (HS.out 0 (by omega))
      have hSG : S ≠ G := by have := HGe.out; omega
      have hDlt : D < w.heap.size := Blk.lt HD.out
      have hDG : D ≠ G := by have := HGe.out; omega
      have hjn : j = nb := by have := hq.out; have := Hn.out; omega
      subst hjn
      refine (c29 wr G 5 128 q 128 (ksf T R ek c j) s S so scap (by omega) (by omega) (by omega) hSG (by have := Hw2.out.size; omega) HB.out
        (fun i hi => (World.cell?_of_block (Hw2.out.block S hSlt (fun e => by injection e with e; exact hSG e))).trans (HS.out i hi))).mono ?_
      rintro e w2 ⟨rfl, U2⟩
      have hw3 : w.grownBy w2 (some G) := grownBy_trans Hw2.out U2.2
      have hD2 : Byt w2 D t N f := HD.out.keep hw3 (fun e => by injection e with e; exact hDG e)
      obtain ⟨w3, hcp, U3⟩ := run_copyB w2 3 D o q dcap G 0 q 128 q t N f (xr (ksf T R ek c j) s q) (by simp) hD2 hfit (fun i hi => by rw [Nat.zero_add]; exact U2.1.cell (by omega))
      have V3 := Lib.hid U3
      have HD3 := Lib.hid hw3
      clear U2 U3 hw3 hD2 hq
      go_wp2
      go_end0
      refine ⟨rfl, UpB.congr ⟨V3.out.1, grownBy_trans (grownBy_none (grownBy_fresh HD3.out (by have := HGe.out; omega))) V3.out.2⟩ fun i _ => ?_⟩
      unfold Go.Proofs.YthdbedfofccbmaaDoor.wr
      by_cases h : o ≤ i ∧ i < o + q
      · rw [if_pos h, if_pos h]
        show xr (ksf T R ek c j) s q (i - o) = _
        unfold xr ksf
        rw [if_pos (by omega), if_pos (by have := Hn.out; omega)]
      · rw [if_neg h, if_neg h]
set_option maxHeartbeats 400000 in
theorem c18 (T : Tabs) (w : World) (C R : Nat) (ek : Nat → Int) (hE : Env T w C R ek) (c : Nat)
    (D o : Nat) (t : TypeId) (N : Nat) (f : Nat → Int) (hD : Byt w D t N f) (hfit : o + 16 ≤ N)
    (S so : Nat) (s : Nat → Int) (hs : ∀ i, i < 16 → w.cell? ⟨S, so + i, none⟩ = some (.int .u8 (s i))) :
    Calls Tryd.prog 18 #[.pointer (some ⟨C, 0, none⟩), .pointer (some ⟨D, o, none⟩), .pointer (some ⟨S, so, none⟩), .int .u64 (lo64 c), .int .u64 (hi64 c)] w
      fun e w' => e = .returned (.tuple #[]) ∧ UpB w w' D t N (wr f o 16 (fun i => bits .xor .u8 (s i) (kb T R ek (c + i / 16) (i % 16)))) := by
  have H := Lib.hid (c25 T w.drew C R ek hE.drew c 1 16 (by omega) (by omega) (by omega) D o 16 t N f (show Byt w.drew D t N f from hD) hfit S so 16 s hs)
  clear hE hD hs
  go_enter Tryd.func18, Tryd.ntmps18
  go_still_tail 9, (by kernel_rfl)
  go_wp2_with (fail)
  refine H.out.mono ?_
  rintro e w' ⟨rfl, U⟩
  have V := Lib.hid U
  clear U
  go_wp2_with (fail)
  go_end0
  exact ⟨rfl, V.out.1, grownBy_trans (grownBy_drew _ _) V.out.2⟩
set_option maxHeartbeats 400000 in
theorem c19 (T : Tabs) (w : World) (C R : Nat) (ek : Nat → Int) (hE : Env T w C R ek) (c : Nat)
    (D o : Nat) (t : TypeId) (N : Nat) (f : Nat → Int) (hD : Byt w D t N f) (hfit : o + 128 ≤ N)
    (S so : Nat) (s : Nat → Int) (hs : ∀ i, i < 128 → w.cell? ⟨S, so + i, none⟩ = some (.int .u8 (s i))) :
    Calls Tryd.prog 19 #[.pointer (some ⟨C, 0, none⟩), .pointer (some ⟨D, o, none⟩), .pointer (some ⟨S, so, none⟩), .int .u64 (lo64 c), .int .u64 (hi64 c)] w
      fun e w' => e = .returned (.tuple #[]) ∧ UpB w w' D t N (wr f o 128 (fun i => bits .xor .u8 (s i) (kb T R ek (c + i / 16) (i % 16)))) := by
  have H := Lib.hid (c25 T w.drew C R ek hE.drew c 8 128 (by omega) (by omega) (by omega) D o 128 t N f (show Byt w.drew D t N f from hD) hfit S so 128 s hs)
  clear hE hD hs
  go_enter Tryd.func19, Tryd.ntmps19
  go_still_tail 9, (by kernel_rfl)
  go_wp2_with (fail)
  refine H.out.mono ?_
  rintro e w' ⟨rfl, U⟩
  have V := Lib.hid U
  clear U
  go_wp2_with (fail)
  go_end0
  exact ⟨rfl, V.out.1, grownBy_trans (grownBy_drew _ _) V.out.2⟩
set_option maxHeartbeats 400000 in
theorem c20 (T : Tabs) (w : World) (C R : Nat) (ek : Nat → Int) (hE : Env T w C R ek) (c : Nat)
    (D o : Nat) (t : TypeId) (N : Nat) (f : Nat → Int) (hD : Byt w D t N f) (hfit : o + 64 ≤ N)
    (S so : Nat) (s : Nat → Int) (hs : ∀ i, i < 64 → w.cell? ⟨S, so + i, none⟩ = some (.int .u8 (s i))) :
    Calls Tryd.prog 20 #[.pointer (some ⟨C, 0, none⟩), .pointer (some ⟨D, o, none⟩), .pointer (some ⟨S, so, none⟩), .int .u64 (lo64 c), .int .u64 (hi64 c)] w
      fun e w' => e = .returned (.tuple #[]) ∧ UpB w w' D t N (wr f o 64 (fun i => bits .xor .u8 (s i) (kb T R ek (c + i / 16) (i % 16)))) := by
  have H := Lib.hid (c25 T w.drew C R ek hE.drew c 4 64 (by omega) (by omega) (by omega) D o 64 t N f (show Byt w.drew D t N f from hD) hfit S so 64 s hs)
  clear hE hD hs
  go_enter Tryd.func20, Tryd.ntmps20
  go_still_tail 9, (by kernel_rfl)
  go_wp2_with (fail)
  refine H.out.mono ?_
  rintro e w' ⟨rfl, U⟩
  have V := Lib.hid U
  clear U
  go_wp2_with (fail)
  go_end0
  exact ⟨rfl, V.out.1, grownBy_trans (grownBy_drew _ _) V.out.2⟩
set_option maxHeartbeats 400000 in
theorem c21 (T : Tabs) (w : World) (C R : Nat) (ek : Nat → Int) (hE : Env T w C R ek) (c : Nat)
    (D o : Nat) (t : TypeId) (N : Nat) (f : Nat → Int) (hD : Byt w D t N f) (hfit : o + 32 ≤ N)
    (S so : Nat) (s : Nat → Int) (hs : ∀ i, i < 32 → w.cell? ⟨S, so + i, none⟩ = some (.int .u8 (s i))) :
    Calls Tryd.prog 21 #[.pointer (some ⟨C, 0, none⟩), .pointer (some ⟨D, o, none⟩), .pointer (some ⟨S, so, none⟩), .int .u64 (lo64 c), .int .u64 (hi64 c)] w
      fun e w' => e = .returned (.tuple #[]) ∧ UpB w w' D t N (wr f o 32 (fun i => bits .xor .u8 (s i) (kb T R ek (c + i / 16) (i % 16)))) := by
  have H := Lib.hid (c25 T w.drew C R ek hE.drew c 2 32 (by omega) (by omega) (by omega) D o 32 t N f (show Byt w.drew D t N f from hD) hfit S so 32 s hs)
  clear hE hD hs
  go_enter Tryd.func21, Tryd.ntmps21
  go_still_tail 9, (by kernel_rfl)
  go_wp2_with (fail)
  refine H.out.mono ?_
  rintro e w' ⟨rfl, U⟩
  have V := Lib.hid U
  clear U
  go_wp2_with (fail)
  go_end0
  exact ⟨rfl, V.out.1, grownBy_trans (grownBy_drew _ _) V.out.2⟩
end Go.Proofs.YthdbedfofccbmaaDoor
