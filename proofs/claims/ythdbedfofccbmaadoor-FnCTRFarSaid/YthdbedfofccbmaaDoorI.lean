/-
  The contracts of the key stream, for a source that may be nil.
-/
import Derived.Test.YthdbedfofccbmaaDoorH
open Go Go.RowKit
namespace Go.Proofs.YthdbedfofccbmaaDoor
theorem below_of_grown {w w' : World} {row : Option Nat} (h : w.grownBy w' row) {B : Nat} (hB : B ≤ w.heap.size) (hr : ∀ g, row = some g → B ≤ g) : Below B w w' :=
  (Below.refl B w).grown h hB hr
set_option maxHeartbeats 1000000 in
theorem c14 (T : Tabs) (w : World) (K R : Nat) (ek : Nat → Int) (hE : Env T w K R ek) (c0 : Nat)
    (hlo : w.cell? ⟨K, 121, none⟩ = some (.int .u64 (lo64 c0))) (hhi : w.cell? ⟨K, 122, none⟩ = some (.int .u64 (hi64 c0))) (hof : w.cell? ⟨K, 123, none⟩ = some (.int .u64 0)) (hfz : w.frozen? ⟨K, 123, none⟩ = false)
    (D n dc : Nat) (f : Nat → Int) (hD : Byt w D 5 n f) (hdc : n ≤ dc) (hdm : (dc : Int) ≤ 9223372036854775807) (hn : n ≤ 16384)
    (S sc : Nat) (s : Nat → Int) (hs : ∀ i, i < n → w.cell? ⟨S, i, none⟩ = some (.int .u8 (s i))) (hsc : n ≤ sc) (hsm : (sc : Int) ≤ 9223372036854775807) (hSD : S ≠ D) (hKD : K ≠ D) (hD10 : 10 ≤ D) (B : Nat) (hBK : B ≤ K) (hBD : B ≤ D) :
    Calls Tryd.prog 14 #[.pointer (some ⟨K, 0, none⟩), .slice (some ⟨D, 0, none⟩) n dc, .slice (some ⟨S, 0, none⟩) n sc] w
      fun e w' => e = .returned (.tuple #[]) ∧ Byt w' D 5 n (fun i => bits .xor .u8 (s i) (kb T R ek (c0 + i / 16) (i % 16))) ∧ Below B w w' := by
  have H := Lib.hid (c13 T w K R ek hE c0 0 0 (by omega) (by omega) hlo hhi D n dc f hD hdc hdm hn S sc s hs hsc hsm hSD hKD hD10)
  have HE := Lib.hid hE
  have q1 := run_add64_off n hn
  have q2 : IntKind.u64.wrap (n : Int) = (n : Int) := u64_wrap_nat n (by omega)
  clear hE hD hs hlo hhi
  go_enter Tryd.func14, Tryd.ntmps14
  go_wp2_with (fail)
  refine H.out.mono ?_
  rintro e w2 ⟨rfl, U2⟩
  have g1 : w2.cell? ⟨K, 123, none⟩ = some (.int .u64 0) := (World.cell?_of_block (U2.2.block K HE.out.lt (fun e => by injection e with e; exact hKD e))).trans hof
  have g2 : w2.frozen? ⟨K, 123, none⟩ = false := (World.frozen?_of_block (U2.2.block K HE.out.lt (fun e => by injection e with e; exact hKD e))).trans hfz
  have V2 := Lib.hid U2
  clear U2 H hof hfz
  go_wp2_with (fail)
  go_end0
  exact ⟨rfl, Blk.far V2.out.1 (p := ⟨K, 123, none⟩) (fun e => hKD e.symm) _, (below_of_grown V2.out.2 (by have := HE.out.lt; omega) (fun g e => by injection e with e; omega)).setCell hBK _⟩
set_option maxHeartbeats 1000000 in
theorem c14z (w : World) (K c0 : Nat)
    (hlo : w.cell? ⟨K, 121, none⟩ = some (.int .u64 (lo64 c0))) (hhi : w.cell? ⟨K, 122, none⟩ = some (.int .u64 (hi64 c0))) (hof : w.cell? ⟨K, 123, none⟩ = some (.int .u64 0)) (hfz : w.frozen? ⟨K, 123, none⟩ = false) (D : Nat) :
    Calls Tryd.prog 14 #[.pointer (some ⟨K, 0, none⟩), .slice (some ⟨D, 0, none⟩) 0 0, .slice none 0 0] w
      fun e w' => e = .returned (.tuple #[]) ∧ ∃ m, w' = (w.drewN m).setCell ⟨K, 123, none⟩ (.int .u64 0) := by
  have H := Lib.hid (c13z w K c0 0 0 (by omega) (by omega) hlo hhi D)
  have q1 : ∀ w, (callFunc 22 #[.int .u64 0, .int .u64 0, .int .u64 0]).run Tryd.prog w = .ok (.value (.tuple #[.int .u64 0, .int .u64 0])) w := run_add64_off 0 (by omega)
  clear hlo hhi
  go_enter Tryd.func14, Tryd.ntmps14
  go_wp2_with (fail)
  refine H.out.mono ?_
  rintro e w2 ⟨rfl, m, rfl⟩
  go_wp2_with (fail)
  go_end0
  exact ⟨rfl, m, rfl⟩
/-- What a copy of n bytes is: nil if there are none, else the head of a block from B on. -/
def Src (w : World) (B : Nat) (v : Value) (n : Nat) (s : Nat → Int) : Prop :=
  (n = 0 ∧ v = .slice none 0 0) ∨ (0 < n ∧ ∃ S sc : Nat, v = .slice (some ⟨S, 0, none⟩) n sc ∧ B ≤ S ∧ n ≤ sc ∧ (sc : Int) ≤ 9223372036854775807 ∧ ∀ i, i < n → w.cell? ⟨S, i, none⟩ = some (.int .u8 (s i)))
theorem c13u (T : Tabs) (w : World) (K R : Nat) (ek : Nat → Int) (hE : Env T w K R ek) (c0 bl off : Nat) (hbl : bl < 2 ^ 64) (hoff : off = 16 * bl)
    (hlo : w.cell? ⟨K, 121, none⟩ = some (.int .u64 (lo64 c0))) (hhi : w.cell? ⟨K, 122, none⟩ = some (.int .u64 (hi64 c0)))
    (D n : Nat) (f : Nat → Int) (hD : Byt w D 5 n f) (hn : n ≤ 16384) (v : Value) (s : Nat → Int) (hs : Src w (D + 1) v n s) (hKD : K ≠ D) (hD10 : 10 ≤ D) (B : Nat) (hBD : B ≤ D) :
    Calls Tryd.prog 13 #[.pointer (some ⟨K, 0, none⟩), .slice (some ⟨D, 0, none⟩) n n, v, .int .u64 (off : Int)] w
      fun e w' => e = .returned (.tuple #[]) ∧ Byt w' D 5 n (fun i => bits .xor .u8 (s i) (kb T R ek (c0 + bl + i / 16) (i % 16))) ∧ Below B w w' := by
  rcases hs with ⟨rfl, rfl⟩ | ⟨hn0, S, sc, rfl, hS, hsc, hsm, hc⟩
  · refine (c13z w K c0 bl off hbl hoff hlo hhi D).mono ?_
    rintro e w' ⟨rfl, m, rfl⟩
    exact ⟨rfl, Byt.congr (w := w.drewN m) hD (fun i hi => absurd hi (by omega)), below_of_grown (grownBy_drewN w m none) (by have := hD.lt; omega) (by simp)⟩
  · refine (c13 T w K R ek hE c0 bl off hbl hoff hlo hhi D n n f hD (Nat.le_refl _) (by omega) hn S sc s hc hsc hsm (by omega) hKD hD10).mono ?_
    rintro e w' ⟨rfl, U⟩
    exact ⟨rfl, U.1, below_of_grown U.2 (by have := hD.lt; omega) (fun g e => by injection e with e; omega)⟩
theorem c14u (T : Tabs) (w : World) (K R : Nat) (ek : Nat → Int) (hE : Env T w K R ek) (c0 : Nat)
    (hlo : w.cell? ⟨K, 121, none⟩ = some (.int .u64 (lo64 c0))) (hhi : w.cell? ⟨K, 122, none⟩ = some (.int .u64 (hi64 c0))) (hof : w.cell? ⟨K, 123, none⟩ = some (.int .u64 0)) (hfz : w.frozen? ⟨K, 123, none⟩ = false)
    (D n : Nat) (f : Nat → Int) (hD : Byt w D 5 n f) (hn : n ≤ 16384) (v : Value) (s : Nat → Int) (hs : Src w (D + 1) v n s) (hKD : K ≠ D) (hD10 : 10 ≤ D) (B : Nat) (hBK : B ≤ K) (hBD : B ≤ D) :
    Calls Tryd.prog 14 #[.pointer (some ⟨K, 0, none⟩), .slice (some ⟨D, 0, none⟩) n n, v] w
      fun e w' => e = .returned (.tuple #[]) ∧ Byt w' D 5 n (fun i => bits .xor .u8 (s i) (kb T R ek (c0 + i / 16) (i % 16))) ∧ Below B w w' := by
  rcases hs with ⟨rfl, rfl⟩ | ⟨hn0, S, sc, rfl, hS, hsc, hsm, hc⟩
  · refine (c14z w K c0 hlo hhi hof hfz D).mono ?_
    rintro e w' ⟨rfl, m, rfl⟩
    exact ⟨rfl, Byt.congr (w := (w.drewN m).setCell ⟨K, 123, none⟩ (.int .u64 0)) (Blk.far (w := w.drewN m) hD (p := ⟨K, 123, none⟩) (fun e => hKD e.symm) _) (fun i hi => absurd hi (by omega)),
      (below_of_grown (grownBy_drewN w m none) (by have := hD.lt; omega) (by simp)).setCell hBK _⟩
  · exact c14 T w K R ek hE c0 hlo hhi hof hfz D n n f hD (Nat.le_refl _) (by omega) hn S sc s hc hsc hsm (by omega) hKD hD10 B hBK hBD
end Go.Proofs.YthdbedfofccbmaaDoor
