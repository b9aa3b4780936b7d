/-
  The contract of the cipher's block: sixteen bytes of a block become what en says, whatever the tables hold.
-/
import Derived.Test.YthdbedfofccbmaaDoorC
import Derived.Lib.Hide
open Go Go.RowKit
namespace Go.Proofs.YthdbedfofccbmaaDoor
attribute [local go_sem] u32_and255
def x4 (T : Tabs) (k a b c d : Int) : Int :=
  bits .xor .u32 (bits .xor .u32 (bits .xor .u32 (bits .xor .u32 k (T.te0 (a / 16777216).toNat)) (T.te1 (b / 65536 % 256).toNat)) (T.te2 (c / 256 % 256).toNat)) (T.te3 (d % 256).toNat)
def rs (T : Tabs) (ek x : Nat → Int) : Nat → Nat → Int
  | 0, j => bits .xor .u32 (b32 (x (4 * j)) (x (4 * j + 1)) (x (4 * j + 2)) (x (4 * j + 3))) (ek j)
  | k + 1, j => x4 T (ek (4 + 4 * k + j)) (rs T ek x k j) (rs T ek x k ((j + 1) % 4)) (rs T ek x k ((j + 2) % 4)) (rs T ek x k ((j + 3) % 4))
theorem rs_range (T : Tabs) (ek x : Nat → Int) (k j : Nat) : 0 ≤ rs T ek x k j ∧ rs T ek x k j ≤ 4294967295 := by
  cases k <;> (unfold rs; first | exact u32_bits_range _ _ _ | (unfold x4; exact u32_bits_range _ _ _))
def en (T : Tabs) (R : Nat) (ek x : Nat → Int) (j : Nat) : Int :=
  bits .xor .u32 (p32 (T.sb (rs T ek x (R - 1) j / 16777216).toNat) (T.sb (rs T ek x (R - 1) ((j + 1) % 4) / 65536 % 256).toNat) (T.sb (rs T ek x (R - 1) ((j + 2) % 4) / 256 % 256).toNat) (T.sb (rs T ek x (R - 1) ((j + 3) % 4) % 256).toNat)) (ek (4 * R + j))
theorem wr16 (f : Nat → Int) (o : Nat) (E : Nat → Int) (v0 v1 v2 v3 : Int) (e0 : E 0 = v0) (e1 : E 1 = v1) (e2 : E 2 = v2) (e3 : E 3 = v3) (i : Nat) :
    wr (wr (wr (wr f o 4 (w4 v0)) (o + 4) 4 (w4 v1)) (o + 8) 4 (w4 v2)) (o + 12) 4 (w4 v3) i = wr f o 16 (fun i => w4 (E (i / 4)) (i % 4)) i := by
  subst e0 e1 e2 e3
  unfold wr
  by_cases hi : o ≤ i ∧ i < o + 16
  · rw [if_pos hi]
    obtain ⟨j, rfl⟩ : ∃ j, i = o + j := ⟨i - o, by omega⟩
    have hj : j < 16 := by omega
    have e : o + j - o = j := by omega
    rw [e]
    show _ = w4 (E (j / 4)) (j % 4)
    by_cases h3 : 12 ≤ j
    · rw [if_pos (by omega), show o + j - (o + 12) = j % 4 from by omega, show j / 4 = 3 from by omega]
    · rw [if_neg (by omega)]
      by_cases h2 : 8 ≤ j
      · rw [if_pos (by omega), show o + j - (o + 8) = j % 4 from by omega, show j / 4 = 2 from by omega]
      · rw [if_neg (by omega)]
        by_cases h1 : 4 ≤ j
        · rw [if_pos (by omega), show o + j - (o + 4) = j % 4 from by omega, show j / 4 = 1 from by omega]
        · rw [if_neg (by omega), if_pos (by omega), show j % 4 = j from by omega, show j / 4 = 0 from by omega]
  · rw [if_neg hi, if_neg (by omega), if_neg (by omega), if_neg (by omega), if_neg (by omega)]
set_option maxHeartbeats 4000000 in
set_option maxRecDepth 100000 in
theorem c31 (T : Tabs) (w : World) (C : Nat) (R : Nat) (ek : Nat → Int) (hR : R = 10 ∨ R = 12 ∨ R = 14)
    (hT : TabOK T w) (hr : w.cell? ⟨C, 0, none⟩ = some (.int .i64 R)) (hek : ∀ i, i < 4 * (R + 1) → w.cell? ⟨C, 1 + i, none⟩ = some (.int .u32 (ek i)))
    (g : Nat) (t : TypeId) (N o len cap : Nat) (f : Nat → Int) (hl : 16 ≤ len) (hc : len ≤ cap) (hm : (len : Int) ≤ 9223372036854775807) (hm' : (cap : Int) ≤ 9223372036854775807)
    (hB : Byt w g t N f) (hN : o + 16 ≤ N) :
    Calls Tryd.prog 31 #[.pointer (some ⟨C, 0, none⟩), .slice (some ⟨g, o, none⟩) len cap, .slice (some ⟨g, o, none⟩) len cap] w
      fun e w' => e = .returned (.tuple #[]) ∧ UpB w w' g t N (wr f o 16 (fun i => w4 (en T R ek (fun j => f (o + j)) (i / 4)) (i % 4))) := by
  have k0 := hek 0 (by omega)
  have k1 := hek 1 (by omega)
  have k2 := hek 2 (by omega)
  have k3 := hek 3 (by omega)
  have y15 := hB.cell (i := o + 15) (by omega)
  have HB : Hid (Byt w g t N f) := hB
  have HT : Hid (TabOK T w) := hT
  have HK : Hid (∀ i, i < 4 * (R + 1) → w.cell? ⟨C, 1 + i, none⟩ = some (.int .u32 (ek i))) := hek
  clear hB hT hek
  have HR : Hid (R = 10 ∨ R = 12 ∨ R = 14) := hR
  have hR1 : 10 ≤ R := by omega
  have hR2 : R ≤ 14 := by omega
  clear hR
  go_enter Tryd.func31, Tryd.ntmps31
  go_wp2_with (fail)
  refine (c32 _).mono ?_
  rintro e w' ⟨rfl, rfl⟩
  go_wp2_with (fail)
  refine (c33c w g t N _ _ _ f (by omega) (by omega) HB.out (by omega)).mono ?_
  rintro e w' ⟨rfl, n1, rfl⟩
  go_wp2_with (fail)
  refine (c33b w n1 g t N _ _ _ f (by omega) (by omega) HB.out (by omega)).mono ?_
  rintro e w' ⟨rfl, n2, rfl⟩
  go_wp2_with (fail)
  refine (c33b w n2 g t N _ _ _ f (by omega) (by omega) HB.out (by omega)).mono ?_
  rintro e w' ⟨rfl, n3, rfl⟩
  go_wp2_with (fail)
  refine (c33b w n3 g t N _ _ _ f (by omega) (by omega) HB.out (by omega)).mono ?_
  rintro e w' ⟨rfl, n4, rfl⟩
  go_wp2_with (fail)
  go_loopw [7, 8, 9, 10, 11, 12, 13, 14, 15, 16] (fun a b c d q ta tb tc td i wr => ∃ k qq : Nat, Hid (qq = 4 + 4 * k) ∧ k + 1 ≤ R ∧ qq ≤ 4 * R ∧ i = .int .i64 k ∧ q = .int .i64 qq ∧
      a = .int .u32 (rs T ek (fun j => f (o + j)) k 0) ∧ b = .int .u32 (rs T ek (fun j => f (o + j)) k 1) ∧ c = .int .u32 (rs T ek (fun j => f (o + j)) k 2) ∧ d = .int .u32 (rs T ek (fun j => f (o + j)) k 3) ∧
      (0 < k → ta = a ∧ tb = b ∧ tc = c ∧ td = d) ∧ ∃ m, wr = w.drewN m) (fun _ _ _ _ _ _ _ _ _ i _ => R - (intOf i).toNat)
  case atStart => exact ⟨0, 4, rfl, by omega, by omega, rfl, rfl, rfl, rfl, rfl, rfl, fun h => absurd h (by omega), n4, rfl⟩
  case round =>
    obtain ⟨k, q, hq, hk, hq2, rfl, rfl, rfl, rfl, rfl, rfl, ht, m, rfl⟩ := hrel
    have ra := rs_range T ek (fun j => f (o + j)) k 0
    have rb := rs_range T ek (fun j => f (o + j)) k 1
    have rc := rs_range T ek (fun j => f (o + j)) k 2
    have rd := rs_range T ek (fun j => f (o + j)) k 3
    have E0 : Hid (x4 T (ek q) (rs T ek (fun j => f (o + j)) k 0) (rs T ek (fun j => f (o + j)) k 1) (rs T ek (fun j => f (o + j)) k 2) (rs T ek (fun j => f (o + j)) k 3) = rs T ek (fun j => f (o + j)) (k + 1) 0) := by
      rw [hq.out]; rfl
    have E1 : Hid (x4 T (ek (q + 1)) (rs T ek (fun j => f (o + j)) k 1) (rs T ek (fun j => f (o + j)) k 2) (rs T ek (fun j => f (o + j)) k 3) (rs T ek (fun j => f (o + j)) k 0) = rs T ek (fun j => f (o + j)) (k + 1) 1) := by
      rw [hq.out]; rfl
    have E2 : Hid (x4 T (ek (q + 2)) (rs T ek (fun j => f (o + j)) k 2) (rs T ek (fun j => f (o + j)) k 3) (rs T ek (fun j => f (o + j)) k 0) (rs T ek (fun j => f (o + j)) k 1) = rs T ek (fun j => f (o + j)) (k + 1) 2) := by
      rw [hq.out]; rfl
    have E3 : Hid (x4 T (ek (q + 3)) (rs T ek (fun j => f (o + j)) k 3) (rs T ek (fun j => f (o + j)) k 0) (rs T ek (fun j => f (o + j)) k 1) (rs T ek (fun j => f (o + j)) k 2) = rs T ek (fun j => f (o + j)) (k + 1) 3) := by
      rw [hq.out]; rfl
    by_cases hlt : k < R - 1
    · have hq1 : q + 3 < 4 * (R + 1) := by have := hq.out; omega
      have ht' : Hid (0 < k → _) := ht
      clear ht ht'
      generalize rs T ek (fun j => f (o + j)) k 0 = A at *
      generalize rs T ek (fun j => f (o + j)) k 1 = B at *
      generalize rs T ek (fun j => f (o + j)) k 2 = Cc at *
      generalize rs T ek (fun j => f (o + j)) k 3 = D at *
      have l0 := HK.out q (by omega)
      have l1 := HK.out (q + 1) (by omega)
      have l2 := HK.out (q + 2) (by omega)
      have l3 := HK.out (q + 3) (by omega)
      have z0 := HT.out.te0 (A / 16777216).toNat (by omega)
      have z1 := HT.out.te0 (B / 16777216).toNat (by omega)
      have z2 := HT.out.te0 (Cc / 16777216).toNat (by omega)
      have z3 := HT.out.te0 (D / 16777216).toNat (by omega)
      have z4 := HT.out.te1 (A / 65536 % 256).toNat (by omega)
      have z5 := HT.out.te1 (B / 65536 % 256).toNat (by omega)
      have z6 := HT.out.te1 (Cc / 65536 % 256).toNat (by omega)
      have z7 := HT.out.te1 (D / 65536 % 256).toNat (by omega)
      have z8 := HT.out.te2 (A / 256 % 256).toNat (by omega)
      have z9 := HT.out.te2 (B / 256 % 256).toNat (by omega)
      have z10 := HT.out.te2 (Cc / 256 % 256).toNat (by omega)
      have z11 := HT.out.te2 (D / 256 % 256).toNat (by omega)
      have z12 := HT.out.te3 (A % 256).toNat (by omega)
      have z13 := HT.out.te3 (B % 256).toNat (by omega)
      have z14 := HT.out.te3 (Cc % 256).toNat (by omega)
      have z15 := HT.out.te3 (D % 256).toNat (by omega)
      go_wp2
      go_quiet (fail)
      go_wp2
      go_quiet (fail)
      go_wp2
      go_quiet (fail)
      go_wp2
      go_quiet (fail)
      go_wp2
      go_roundw
      case rel =>
        exact ⟨k + 1, q + 4, (show q + 4 = 4 + 4 * (k + 1) from by have := hq.out; omega), by omega, (by have := hq.out; omega), by go_num, by go_num,
          congrArg (Value.int .u32) E0.out, congrArg (Value.int .u32) E1.out, congrArg (Value.int .u32) E2.out, congrArg (Value.int .u32) E3.out, fun _ => ⟨rfl, rfl, rfl, rfl⟩, _, rfl⟩
      case measure => simp [intOf]; omega
    · obtain ⟨rfl, rfl, rfl, rfl⟩ := ht (by omega)
      have hkR : k = R - 1 := by omega
      have hq1 : q = 4 * R := by have := hq.out; omega
      have D0 : Hid (∀ j, en T R ek (fun j => f (o + j)) j = bits .xor .u32 (p32 (T.sb (rs T ek (fun j => f (o + j)) k j / 16777216).toNat) (T.sb (rs T ek (fun j => f (o + j)) k ((j + 1) % 4) / 65536 % 256).toNat) (T.sb (rs T ek (fun j => f (o + j)) k ((j + 2) % 4) / 256 % 256).toNat) (T.sb (rs T ek (fun j => f (o + j)) k ((j + 3) % 4) % 256).toNat)) (ek (q + j))) := by
        intro j; rw [hq1, hkR]; rfl
      have D00 := D0.out 0
      have D01 := D0.out 1
      have D02 := D0.out 2
      have D03 := D0.out 3
      simp only [Nat.reduceAdd, Nat.reduceMod] at D00 D01 D02 D03
      clear ht E0 E1 E2 E3 hkR D0
      generalize rs T ek (fun j => f (o + j)) k 0 = A at *
      generalize rs T ek (fun j => f (o + j)) k 1 = B at *
      generalize rs T ek (fun j => f (o + j)) k 2 = Cc at *
      generalize rs T ek (fun j => f (o + j)) k 3 = D at *
      have F0 := Lib.hid D00
      have F1 := Lib.hid D01
      have F2 := Lib.hid D02
      have F3 := Lib.hid D03
      clear D00 D01 D02 D03
      have l0 := HK.out q (by omega)
      have l1 := HK.out (q + 1) (by omega)
      have l2 := HK.out (q + 2) (by omega)
      have l3 := HK.out (q + 3) (by omega)
      clear hq1
      have z0 := HT.out.sb (A / 16777216).toNat (by omega)
      have z1 := HT.out.sb (B / 16777216).toNat (by omega)
      have z2 := HT.out.sb (Cc / 16777216).toNat (by omega)
      have z3 := HT.out.sb (D / 16777216).toNat (by omega)
      have z4 := HT.out.sb (A / 65536 % 256).toNat (by omega)
      have z5 := HT.out.sb (B / 65536 % 256).toNat (by omega)
      have z6 := HT.out.sb (Cc / 65536 % 256).toNat (by omega)
      have z7 := HT.out.sb (D / 65536 % 256).toNat (by omega)
      have z8 := HT.out.sb (A / 256 % 256).toNat (by omega)
      have z9 := HT.out.sb (B / 256 % 256).toNat (by omega)
      have z10 := HT.out.sb (Cc / 256 % 256).toNat (by omega)
      have z11 := HT.out.sb (D / 256 % 256).toNat (by omega)
      have z12 := HT.out.sb (A % 256).toNat (by omega)
      have z13 := HT.out.sb (B % 256).toNat (by omega)
      have z14 := HT.out.sb (Cc % 256).toNat (by omega)
      have z15 := HT.out.sb (D % 256).toNat (by omega)
      go_wp2_with (fail)
      go_quiet (fail)
      go_wp2_with (fail)
      go_quiet (fail)
      go_wp2_with (fail)
      go_quiet (fail)
      go_wp2_with (fail)
      go_quiet (fail)
      go_wp2_with (fail)
      refine (c37 _ g t N o _ _ f _ (u32_bits_range _ _ _).1 (u32_bits_range _ _ _).2 (by omega) (by omega) (by exact HB.out) (by omega)).mono ?_
      rintro e w1 ⟨rfl, U1⟩
      have V1 := Lib.hid U1
      clear U1
      go_wp2_with (fail)
      refine (c37 w1 g t N (o + 4) _ _ _ _ (u32_bits_range _ _ _).1 (u32_bits_range _ _ _).2 (by omega) (by omega) V1.out.1 (by omega)).mono ?_
      rintro e w2 ⟨rfl, U2⟩
      have V2 := Lib.hid U2
      clear U2
      go_wp2_with (fail)
      refine (c37 w2 g t N (o + 8) _ _ _ _ (u32_bits_range _ _ _).1 (u32_bits_range _ _ _).2 (by omega) (by omega) V2.out.1 (by omega)).mono ?_
      rintro e w3 ⟨rfl, U3⟩
      have V3 := Lib.hid U3
      clear U3
      go_wp2_with (fail)
      refine (c37 w3 g t N (o + 12) _ _ _ _ (u32_bits_range _ _ _).1 (u32_bits_range _ _ _).2 (by omega) (by omega) V3.out.1 (by omega)).mono ?_
      rintro e w4 ⟨rfl, U4⟩
      have V4 := Lib.hid U4
      clear U4
      go_wp2_with (fail)
      go_end0
      refine ⟨rfl, (UpB.congr ⟨V4.out.1, ?_⟩ fun i _ => wr16 f o _ _ _ _ _ F0.out F1.out F2.out F3.out i)⟩
      exact grownBy_trans (grownBy_trans (grownBy_trans (grownBy_trans (grownBy_drewN _ _ _) V1.out.2) V2.out.2) V3.out.2) V4.out.2
end Go.Proofs.YthdbedfofccbmaaDoor
