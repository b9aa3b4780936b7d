/-
  The counter in two halves, the key's block and the tables together (Env), and the contract of the cipher's step on a block of bytes.
-/
import Derived.Test.YthdbedfofccbmaaDoorD
open Go Go.RowKit
namespace Go.Proofs.YthdbedfofccbmaaDoor
/-- The two halves of a counter, as the code holds them. -/
def lo64 (c : Nat) : Int := ((c % 2 ^ 64 : Nat) : Int)
def hi64 (c : Nat) : Int := ((c / 2 ^ 64 % 2 ^ 64 : Nat) : Int)
def cy64 (c x : Nat) : Int := (((c % 2 ^ 64 + x) / 2 ^ 64 : Nat) : Int)
def cz64 (c x : Nat) : Int := (((c / 2 ^ 64 % 2 ^ 64 + 0 + (c % 2 ^ 64 + x) / 2 ^ 64) / 2 ^ 64 : Nat) : Int)
theorem run_add64_nat (x y c : Nat) (hc : c ≤ 1) (w : World) :
    (callFunc 22 #[.int .u64 (x : Int), .int .u64 (y : Int), .int .u64 (c : Int)]).run Tryd.prog w =
      .ok (.value (.tuple #[.int .u64 (((x + y + c) % 2 ^ 64 : Nat) : Int), .int .u64 (((x + y + c) / 2 ^ 64 : Nat) : Int)])) w := by
  have he : Extern.find Tryd.f22 = some add64Entry := by rfl
  rw [run_callFunc_extern Tryd.func22 (by kernel_rfl) rfl (by rfl) he]
  have : c = 0 ∨ c = 1 := by omega
  rcases this with rfl | rfl <;> rfl
theorem run_lo (c x : Nat) (w : World) :
    (callFunc 22 #[.int .u64 (lo64 c), .int .u64 (x : Int), .int .u64 0]).run Tryd.prog w = .ok (.value (.tuple #[.int .u64 (lo64 (c + x)), .int .u64 (cy64 c x)])) w := by
  have h := run_add64_nat (c % 2 ^ 64) x 0 (by omega) w
  rw [show (c % 2 ^ 64 + x + 0) % 2 ^ 64 = (c + x) % 2 ^ 64 from by omega, show (c % 2 ^ 64 + x + 0) / 2 ^ 64 = (c % 2 ^ 64 + x) / 2 ^ 64 from by omega] at h
  exact h
theorem run_hi (c x : Nat) (hx : x < 2 ^ 64) (w : World) :
    (callFunc 22 #[.int .u64 (hi64 c), .int .u64 0, .int .u64 (cy64 c x)]).run Tryd.prog w = .ok (.value (.tuple #[.int .u64 (hi64 (c + x)), .int .u64 (cz64 c x)])) w := by
  have h := run_add64_nat (c / 2 ^ 64 % 2 ^ 64) 0 ((c % 2 ^ 64 + x) / 2 ^ 64) (by omega) w
  rw [show (c / 2 ^ 64 % 2 ^ 64 + 0 + (c % 2 ^ 64 + x) / 2 ^ 64) % 2 ^ 64 = (c + x) / 2 ^ 64 % 2 ^ 64 from by omega] at h
  exact h
set_option maxHeartbeats 400000 in
theorem c17 (w : World) (c x : Nat) (hx : x < 2 ^ 64) :
    Calls Tryd.prog 17 #[.int .u64 (lo64 c), .int .u64 (hi64 c), .int .u64 (x : Int)] w fun e w' => e = .returned (.tuple #[.int .u64 (lo64 (c + x)), .int .u64 (hi64 (c + x))]) ∧ w = w' := by
  have h1 := run_lo c x
  have h2 := run_hi c x hx
  clear hx
  go_enter Tryd.func17, Tryd.ntmps17
  go_wp2
  go_ret2
  exact ⟨rfl, rfl⟩

/-- The bytes of a counter, and what they are encrypted to. -/
def cb (c : Nat) (j : Nat) : Int := if j < 8 then w8 (hi64 c) j else w8 (lo64 c) (j - 8)
def kb (T : Tabs) (R : Nat) (ek : Nat → Int) (c i : Nat) : Int := w4 (en T R ek (cb c) (i / 4)) (i % 4)
theorem rs_congr (T : Tabs) (ek x y : Nat → Int) (h : ∀ i, i < 16 → x i = y i) (k : Nat) : ∀ j, j < 4 → rs T ek x k j = rs T ek y k j := by
  induction k with
  | zero =>
    intro j hj
    unfold rs
    rw [h (4 * j) (by omega), h (4 * j + 1) (by omega), h (4 * j + 2) (by omega), h (4 * j + 3) (by omega)]
  | succ k ih =>
    intro j hj
    unfold rs
    rw [ih j hj, ih ((j + 1) % 4) (by omega), ih ((j + 2) % 4) (by omega), ih ((j + 3) % 4) (by omega)]
theorem en_congr (T : Tabs) (R : Nat) (ek x y : Nat → Int) (h : ∀ i, i < 16 → x i = y i) (j : Nat) (hj : j < 4) : en T R ek x j = en T R ek y j := by
  unfold en
  rw [rs_congr T ek x y h _ j hj, rs_congr T ek x y h _ ((j + 1) % 4) (by omega), rs_congr T ek x y h _ ((j + 2) % 4) (by omega), rs_congr T ek x y h _ ((j + 3) % 4) (by omega)]

/-- The tables, and a block that begins with an expanded key. -/
structure Env (T : Tabs) (w : World) (C R : Nat) (ek : Nat → Int) : Prop where
  tab : TabOK T w
  r : w.cell? ⟨C, 0, none⟩ = some (.int .i64 R)
  ek : ∀ i, i < 4 * (R + 1) → w.cell? ⟨C, 1 + i, none⟩ = some (.int .u32 (ek i))
  rounds : R = 10 ∨ R = 12 ∨ R = 14
theorem TabOK.size {T : Tabs} {w : World} (h : TabOK T w) : 10 ≤ w.heap.size := World.block_lt_of_cell? w ⟨9, 0, none⟩ (h.te3 0 (by decide))
theorem TabOK.grown {T : Tabs} {w w' : World} {row : Option Nat} (h : TabOK T w) (k : w.grownBy w' row) (hr : ∀ g, row = some g → 10 ≤ g) : TabOK T w' :=
  h.keep fun p hp => World.cell?_of_block (k.block p.block (by have := h.size; omega) (fun e => by have := hr _ e.symm; omega))
theorem Env.lt {T : Tabs} {w : World} {C R : Nat} {ek : Nat → Int} (h : Env T w C R ek) : C < w.heap.size := World.block_lt_of_cell? w ⟨C, 0, none⟩ h.r
theorem Env.grown {T : Tabs} {w w' : World} {C R : Nat} {ek : Nat → Int} {row : Option Nat} (h : Env T w C R ek) (k : w.grownBy w' row) (hr : ∀ g, row = some g → 10 ≤ g) (hC : some C ≠ row) : Env T w' C R ek :=
  ⟨h.tab.grown k hr, (World.cell?_of_block (k.block C h.lt hC)).trans h.r, fun i hi => (World.cell?_of_block (k.block C h.lt hC)).trans (h.ek i hi), h.rounds⟩
theorem Env.drewN {T : Tabs} {w : World} {C R : Nat} {ek : Nat → Int} (h : Env T w C R ek) (n : Nat) : Env T (w.drewN n) C R ek :=
  h.grown (grownBy_drewN _ _ none) (by simp) (by simp)
set_option maxHeartbeats 400000 in
theorem c28 (T : Tabs) (w : World) (C R : Nat) (ek : Nat → Int) (hE : Env T w C R ek)
    (g : Nat) (t : TypeId) (N o len cap : Nat) (f : Nat → Int) (hl : 16 ≤ len) (hc : len ≤ cap) (hm : (len : Int) ≤ 9223372036854775807) (hm' : (cap : Int) ≤ 9223372036854775807)
    (hB : Byt w g t N f) (hN : o + 16 ≤ N) :
    Calls Tryd.prog 28 #[.pointer (some ⟨C, 0, none⟩), .slice (some ⟨g, o, none⟩) len cap, .slice (some ⟨g, o, none⟩) len cap] w
      fun e w' => e = .returned (.tuple #[]) ∧ UpB w w' g t N (wr f o 16 (fun i => w4 (en T R ek (fun j => f (o + j)) (i / 4)) (i % 4))) := by
  have H := Lib.hid (c31 T w C R ek hE.rounds hE.tab hE.r hE.ek g t N o len cap f hl hc hm hm' hB hN)
  clear hE hB
  go_enter Tryd.func28, Tryd.ntmps28
  go_wp2_with (fail)
  refine H.out.mono ?_
  rintro e w' ⟨rfl, U⟩
  have V := Lib.hid U
  clear U
  go_wp2_with (fail)
  go_end0
  exact ⟨rfl, V.out⟩
end Go.Proofs.YthdbedfofccbmaaDoor
