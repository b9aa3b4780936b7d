/-
  Numbers written in bytes: a counter's two halves, and a counter carried on; no program in sight.
-/
import Derived.Test.YthdbedfofccbmaaDoorO
open Go Go.RowKit
namespace Go.Proofs.YthdbedfofccbmaaDoor
/-- The number that the first k of the bytes d write, the least first. -/
def num (d : Nat → Nat) : Nat → Nat
  | 0 => 0
  | k + 1 => num d k + d k * 256 ^ k
theorem num_lt (d : Nat → Nat) (h : ∀ k, d k < 256) : ∀ k, num d k < 256 ^ k
  | 0 => by show 0 < 1; omega
  | k + 1 => by
    have ih := num_lt d h k
    have hd := h k
    show num d k + d k * 256 ^ k < 256 ^ (k + 1)
    rw [Nat.pow_succ]
    generalize 256 ^ k = P at *
    have : d k * P ≤ 255 * P := Nat.mul_le_mul_right P (by omega)
    omega
/-- What is carried into place k, and what then stands there. -/
def car (d : Nat → Nat) (x : Nat) : Nat → Nat
  | 0 => x
  | k + 1 => (car d x k + d k) / 256
def dig (d : Nat → Nat) (x k : Nat) : Nat := (car d x k + d k) % 256
theorem car_le (d : Nat → Nat) (h : ∀ k, d k < 256) (x M : Nat) (hx : x ≤ M) (hM : 256 ≤ M) : ∀ k, car d x k ≤ M
  | 0 => hx
  | k + 1 => by
    have ih := car_le d h x M hx hM k
    have hd := h k
    show (car d x k + d k) / 256 ≤ M
    omega
theorem num_car (d : Nat → Nat) (x : Nat) : ∀ k, num d k + x = num (dig d x) k + car d x k * 256 ^ k
  | 0 => by show 0 + x = 0 + x * 1; omega
  | k + 1 => by
    have ih := num_car d x k
    show num d k + d k * 256 ^ k + x = num (dig d x) k + dig d x k * 256 ^ k + (car d x k + d k) / 256 * 256 ^ (k + 1)
    unfold dig
    rw [Nat.pow_succ]
    generalize 256 ^ k = P at *
    have e : car d x k + d k = (car d x k + d k) % 256 + 256 * ((car d x k + d k) / 256) := by omega
    have e2 : car d x k * P + d k * P = (car d x k + d k) % 256 * P + (car d x k + d k) / 256 * (P * 256) := by
      rw [← Nat.add_mul, Nat.mul_comm P 256, ← Nat.mul_assoc, ← Nat.add_mul]
      congr 1
      omega
    unfold dig at ih
    omega
theorem wrap64 (b : Nat) (h : b < 18446744073709551616) : IntKind.u64.wrap (b : Int) = (b : Int) := u64_wrap_nat b (by omega)
theorem or_step (a b k : Nat) (P : Int) (hk : k ≤ 56) (hP : P = ((2 ^ k : Nat) : Int)) (ha : a < 2 ^ k) (hb : b < 256) :
    bits .or .u64 (a : Int) (IntKind.u64.wrap (IntKind.u64.wrap (b : Int) * P)) = ((a + b * 2 ^ k : Nat) : Int) := by
  have hp : 2 ^ k ≤ 72057594037927936 := Nat.pow_le_pow_right (n := 2) (by omega) hk
  have hq : b * 2 ^ k < 18446744073709551616 := Nat.lt_of_le_of_lt (Nat.mul_le_mul (Nat.le_of_lt_succ hb) hp) (by omega)
  subst hP
  rw [wrap64 b (by omega), ← Int.natCast_mul, wrap64 _ hq, u64_or_nat a (b * 2 ^ k) (by omega) hq]
  congr 1
  rw [Nat.or_comm, Nat.mul_comm, ← Nat.two_pow_add_eq_or_of_lt ha, Nat.add_comm]
theorem b64_nat (x0 x1 x2 x3 x4 x5 x6 x7 : Nat) (h0 : x0 < 256) (h1 : x1 < 256) (h2 : x2 < 256) (h3 : x3 < 256) (h4 : x4 < 256) (h5 : x5 < 256) (h6 : x6 < 256) (h7 : x7 < 256) :
    b64 (x0 : Int) (x1 : Int) (x2 : Int) (x3 : Int) (x4 : Int) (x5 : Int) (x6 : Int) (x7 : Int) =
      ((x7 + x6 * 256 + x5 * 65536 + x4 * 16777216 + x3 * 4294967296 + x2 * 1099511627776 + x1 * 281474976710656 + x0 * 72057594037927936 : Nat) : Int) := by
  unfold b64
  rw [wrap64 x7 (by omega), or_step x7 x6 8 256 (by omega) (by decide) (by omega) h6, or_step _ x5 16 65536 (by omega) (by decide) (by omega) h5, or_step _ x4 24 16777216 (by omega) (by decide) (by omega) h4,
    or_step _ x3 32 4294967296 (by omega) (by decide) (by omega) h3, or_step _ x2 40 1099511627776 (by omega) (by decide) (by omega) h2, or_step _ x1 48 281474976710656 (by omega) (by decide) (by omega) h1,
    or_step _ x0 56 72057594037927936 (by omega) (by decide) (by omega) h0]
theorem num16 (d : Nat → Nat) : num d 16 = (d 0 + d 1 * 256 + d 2 * 65536 + d 3 * 16777216 + d 4 * 4294967296 + d 5 * 1099511627776 + d 6 * 281474976710656 + d 7 * 72057594037927936) +
    18446744073709551616 * (d 8 + d 9 * 256 + d 10 * 65536 + d 11 * 16777216 + d 12 * 4294967296 + d 13 * 1099511627776 + d 14 * 281474976710656 + d 15 * 72057594037927936) := by
  simp only [num]
  omega
theorem halves (d : Nat → Nat) (h : ∀ k, d k < 256) :
    b64 (d 7) (d 6) (d 5) (d 4) (d 3) (d 2) (d 1) (d 0) = lo64 (num d 16) ∧ b64 (d 15) (d 14) (d 13) (d 12) (d 11) (d 10) (d 9) (d 8) = hi64 (num d 16) := by
  rw [b64_nat _ _ _ _ _ _ _ _ (h _) (h _) (h _) (h _) (h _) (h _) (h _) (h _), b64_nat _ _ _ _ _ _ _ _ (h _) (h _) (h _) (h _) (h _) (h _) (h _) (h _)]
  have e := num16 d
  have h0 := h 0
  have h1 := h 1
  have h2 := h 2
  have h3 := h 3
  have h4 := h 4
  have h5 := h 5
  have h6 := h 6
  have h7 := h 7
  have h8 := h 8
  have h9 := h 9
  have h10 := h 10
  have h11 := h 11
  have h12 := h 12
  have h13 := h 13
  have h14 := h 14
  have h15 := h 15
  unfold lo64 hi64
  constructor <;> (congr 1; omega)
theorem kb_mod (T : Tabs) (R : Nat) (ek : Nat → Int) (a b r i : Nat) (h : a = b + r * 340282366920938463463374607431768211456) : kb T R ek a i = kb T R ek b i := by
  unfold kb
  have e : cb a = cb b := by
    funext j
    unfold cb
    have e1 : lo64 a = lo64 b := by unfold lo64; congr 1; omega
    have e2 : hi64 a = hi64 b := by unfold hi64; congr 1; omega
    rw [e1, e2]
  rw [e]
/-- The counter carried on by x, and i blocks on: the same keystream. -/
theorem kb_next (T : Tabs) (R : Nat) (ek : Nat → Int) (d : Nat → Nat) (x q i : Nat) : kb T R ek (num (dig d x) 16 + q) i = kb T R ek (num d 16 + x + q) i := by
  have e := num_car d x 16
  exact (kb_mod T R ek (num d 16 + x + q) (num (dig d x) 16 + q) (car d x 16) i (by omega)).symm
end Go.Proofs.YthdbedfofccbmaaDoor
