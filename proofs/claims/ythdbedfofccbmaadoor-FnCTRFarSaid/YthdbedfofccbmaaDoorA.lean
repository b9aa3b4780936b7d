/-
  The plain functions of the cipher over tables that are left open (words as Int, in the walk's own forms), and the contracts of the small functions.
-/
import Derived.WalkKit
import Derived.WalkLawsBesides
import Derived.WalkSpells
import Derived.BigQuiet
import Derived.Deep.QuietTactic
import Derived.Test.YthdbedfofccbmaaDoorRows
import Derived.Test.YthdbedfofccbmaaDoorMem
open Go Go.RowKit
namespace Go.Proofs.YthdbedfofccbmaaDoor

theorem u32_wrap (n : Int) : IntKind.u32.wrap n = n % 4294967296 := rfl
theorem u32_and255 (x : Int) : bits .and .u32 x 255 = x % 256 := by
  have h : bits .and .u32 x 255 = IntKind.u32.wrap ((BitVec.ofInt 32 x &&& BitVec.ofInt 32 255).toNat : Int) := rfl
  have h2 : (BitVec.ofInt 32 x &&& BitVec.ofInt 32 255).toNat = (x % 256).toNat := by
    rw [BitVec.toNat_and]
    have e : (BitVec.ofInt 32 255).toNat = 2 ^ 8 - 1 := by decide
    rw [e, Nat.and_two_pow_sub_one_eq_mod, BitVec.toNat_ofInt]
    have e2 : ((2 ^ 32 : Nat) : Int) = 4294967296 := by decide
    have e3 : (2 : Nat) ^ 8 = 256 := by decide
    rw [e2, e3]
    omega
  rw [h, h2, u32_wrap]
  omega
theorem u32_bits_range (op : BinOp) (a b : Int) : 0 ≤ bits op .u32 a b ∧ bits op .u32 a b ≤ 4294967295 := by
  have h : ∃ n : Int, bits op .u32 a b = IntKind.u32.wrap n := ⟨_, rfl⟩
  obtain ⟨n, hn⟩ := h
  rw [hn, u32_wrap]
  omega
attribute [local go_sem] u32_and255

/-- The tables, as whatever numbers they hold. -/
structure Tabs where
  te0 : Nat → Int
  te1 : Nat → Int
  te2 : Nat → Int
  te3 : Nat → Int
  td0 : Nat → Int
  td1 : Nat → Int
  td2 : Nat → Int
  td3 : Nat → Int
  sb : Nat → Int
  pw : Nat → Int

/-- Four bytes as a word. -/
def p32 (a b c d : Int) : Int :=
  bits .or .u32 (bits .or .u32 (bits .or .u32 (a % 4294967296 * 16777216 % 4294967296) (b % 4294967296 * 65536 % 4294967296)) (c % 4294967296 * 256 % 4294967296)) (d % 4294967296)
theorem p32_range (a b c d : Int) : 0 ≤ p32 a b c d ∧ p32 a b c d ≤ 4294967295 := u32_bits_range _ _ _
/-- The same, as the reading of four bytes has it. -/
def b32 (a b c d : Int) : Int :=
  bits .or .u32 (bits .or .u32 (bits .or .u32 (d % 4294967296) (c % 4294967296 * 256 % 4294967296)) (b % 4294967296 * 65536 % 4294967296)) (a % 4294967296 * 16777216 % 4294967296)
theorem b32_range (a b c d : Int) : 0 ≤ b32 a b c d ∧ b32 a b c d ≤ 4294967295 := u32_bits_range _ _ _
def subw (S : Nat → Int) (x : Int) : Int := p32 (S (x / 16777216).toNat) (S (x / 65536 % 256).toNat) (S (x / 256 % 256).toNat) (S (x % 256).toNat)
def rotw (x : Int) : Int := bits .or .u32 (x * 256 % 4294967296) (x / 16777216)
theorem rotw_range (x : Int) : 0 ≤ rotw x ∧ rotw x ≤ 4294967295 := u32_bits_range _ _ _
theorem subw_range (S : Nat → Int) (x : Int) : 0 ≤ subw S x ∧ subw S x ≤ 4294967295 := p32_range _ _ _ _

/-- What the world's variables read as. -/
structure TabOK (T : Tabs) (w : World) : Prop where
  te0 : ∀ i : Nat, i < 256 → w.cell? ⟨6, i, none⟩ = some (.int .u32 (T.te0 i))
  te1 : ∀ i : Nat, i < 256 → w.cell? ⟨7, i, none⟩ = some (.int .u32 (T.te1 i))
  te2 : ∀ i : Nat, i < 256 → w.cell? ⟨8, i, none⟩ = some (.int .u32 (T.te2 i))
  te3 : ∀ i : Nat, i < 256 → w.cell? ⟨9, i, none⟩ = some (.int .u32 (T.te3 i))
  td0 : ∀ i : Nat, i < 256 → w.cell? ⟨1, i, none⟩ = some (.int .u32 (T.td0 i))
  td1 : ∀ i : Nat, i < 256 → w.cell? ⟨3, i, none⟩ = some (.int .u32 (T.td1 i))
  td2 : ∀ i : Nat, i < 256 → w.cell? ⟨4, i, none⟩ = some (.int .u32 (T.td2 i))
  td3 : ∀ i : Nat, i < 256 → w.cell? ⟨5, i, none⟩ = some (.int .u32 (T.td3 i))
  sb : ∀ i : Nat, i < 256 → w.cell? ⟨2, i, none⟩ = some (.int .u8 (T.sb i))
  pw : ∀ i : Nat, i < 16 → w.cell? ⟨0, i, none⟩ = some (.int .u8 (T.pw i))
  sbr : ∀ i : Nat, 0 ≤ T.sb i ∧ T.sb i ≤ 255
theorem TabOK.keep {T : Tabs} {w w' : World} (h : TabOK T w) (k : ∀ p : Addr, p.block < 10 → w'.cell? p = w.cell? p) : TabOK T w' :=
  ⟨fun i hi => (k _ (by decide : 6 < 10)).trans (h.te0 i hi), fun i hi => (k _ (by decide : 7 < 10)).trans (h.te1 i hi), fun i hi => (k _ (by decide : 8 < 10)).trans (h.te2 i hi),
   fun i hi => (k _ (by decide : 9 < 10)).trans (h.te3 i hi), fun i hi => (k _ (by decide : 1 < 10)).trans (h.td0 i hi), fun i hi => (k _ (by decide : 3 < 10)).trans (h.td1 i hi),
   fun i hi => (k _ (by decide : 4 < 10)).trans (h.td2 i hi), fun i hi => (k _ (by decide : 5 < 10)).trans (h.td3 i hi), fun i hi => (k _ (by decide : 2 < 10)).trans (h.sb i hi),
   fun i hi => (k _ (by decide : 0 < 10)).trans (h.pw i hi), h.sbr⟩

set_option maxHeartbeats 400000 in
theorem c36 (w : World) (x : Int) (_h1 : 0 ≤ x) (_h2 : x ≤ 4294967295) :
    Calls Tryd.prog 36 #[.int .u32 x] w fun e w' => e = .returned (.int .u32 (rotw x)) ∧ w = w' := by
  go_enter Tryd.func36, Tryd.ntmps36
  go_wp2
  go_ret
  exact ⟨rfl, rfl⟩
set_option maxHeartbeats 400000 in
theorem c35 (w : World) (x : Int) (S : Nat → Int) (h1 : 0 ≤ x) (h2 : x ≤ 4294967295) (hS : ∀ i : Nat, i < 256 → w.cell? ⟨2, i, none⟩ = some (.int .u8 (S i))) :
    Calls Tryd.prog 35 #[.int .u32 x] w fun e w' => e = .returned (.int .u32 (subw S x)) ∧ ∃ n, w' = w.drewN n := by
  have a0 := hS (x / 16777216).toNat (by omega)
  have a1 := hS (x / 65536 % 256).toNat (by omega)
  have a2 := hS (x / 256 % 256).toNat (by omega)
  have a3 := hS (x % 256).toNat (by omega)
  clear hS
  go_enter Tryd.func35, Tryd.ntmps35
  go_wp2
  go_quiet (fail)
  go_wp2
  go_ret
  exact ⟨rfl, nq, rfl⟩
set_option maxHeartbeats 400000 in
theorem c34 (w : World) (b : Nat) (r : Int) (h0 : w.cell? ⟨b, 0, none⟩ = some (.int .i64 r)) (h1 : 0 ≤ r) (h2 : r ≤ 14) :
    Calls Tryd.prog 34 #[.pointer (some ⟨b, 0, none⟩)] w fun e w' => e = .returned (.int .i64 ((r + 1) * 4)) ∧ w = w' := by
  go_enter Tryd.func34, Tryd.ntmps34
  go_wp2
  go_ret
  exact ⟨rfl, rfl⟩
set_option maxHeartbeats 400000 in
theorem c33 (w : World) (b off len cap : Nat) (x0 x1 x2 x3 : Int) (hl : 4 ≤ len) (hm : (len : Int) ≤ 9223372036854775807)
    (h0 : w.cell? ⟨b, off, none⟩ = some (.int .u8 x0))
    (h1 : w.cell? ⟨b, off + 1, none⟩ = some (.int .u8 x1))
    (h2 : w.cell? ⟨b, off + 2, none⟩ = some (.int .u8 x2))
    (h3 : w.cell? ⟨b, off + 3, none⟩ = some (.int .u8 x3)) :
    Calls Tryd.prog 33 #[.slice (some ⟨b, off, none⟩) len cap] w fun e w' => e = .returned (.int .u32 (b32 x0 x1 x2 x3)) ∧ ∃ n, w' = w.drewN n := by
  go_enter Tryd.func33, Tryd.ntmps33
  go_wp2
  go_quiet (fail)
  go_wp2
  go_ret
  exact ⟨rfl, nq, rfl⟩
/-- Eight bytes as a number, as the reading has it. -/
def b64 (x0 x1 x2 x3 x4 x5 x6 x7 : Int) : Int :=
  bits .or .u64 (bits .or .u64 (bits .or .u64 (bits .or .u64 (bits .or .u64 (bits .or .u64 (bits .or .u64 (IntKind.u64.wrap x7) (IntKind.u64.wrap (IntKind.u64.wrap x6 * 256)))
    (IntKind.u64.wrap (IntKind.u64.wrap x5 * 65536))) (IntKind.u64.wrap (IntKind.u64.wrap x4 * 16777216))) (IntKind.u64.wrap (IntKind.u64.wrap x3 * 4294967296)))
    (IntKind.u64.wrap (IntKind.u64.wrap x2 * 1099511627776))) (IntKind.u64.wrap (IntKind.u64.wrap x1 * 281474976710656))) (IntKind.u64.wrap (IntKind.u64.wrap x0 * 72057594037927936))
set_option maxHeartbeats 400000 in
theorem c24 (w : World) (b off len cap : Nat) (x0 x1 x2 x3 x4 x5 x6 x7 : Int) (hl : 8 ≤ len) (hm : (len : Int) ≤ 9223372036854775807)
    (h0 : w.cell? ⟨b, off, none⟩ = some (.int .u8 x0))
    (h1 : w.cell? ⟨b, off + 1, none⟩ = some (.int .u8 x1))
    (h2 : w.cell? ⟨b, off + 2, none⟩ = some (.int .u8 x2))
    (h3 : w.cell? ⟨b, off + 3, none⟩ = some (.int .u8 x3))
    (h4 : w.cell? ⟨b, off + 4, none⟩ = some (.int .u8 x4))
    (h5 : w.cell? ⟨b, off + 5, none⟩ = some (.int .u8 x5))
    (h6 : w.cell? ⟨b, off + 6, none⟩ = some (.int .u8 x6))
    (h7 : w.cell? ⟨b, off + 7, none⟩ = some (.int .u8 x7)) :
    Calls Tryd.prog 24 #[.slice (some ⟨b, off, none⟩) len cap] w fun e w' => e = .returned (.int .u64 (b64 x0 x1 x2 x3 x4 x5 x6 x7)) ∧ ∃ n, w' = w.drewN n := by
  go_enter Tryd.func24, Tryd.ntmps24
  go_wp2
  go_quiet (fail)
  go_wp2
  go_ret
  exact ⟨rfl, nq, rfl⟩
end Go.Proofs.YthdbedfofccbmaaDoor
