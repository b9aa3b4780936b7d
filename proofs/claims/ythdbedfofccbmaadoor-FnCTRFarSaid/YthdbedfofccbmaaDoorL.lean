/-
  The contract of the key's schedule: a cipher's block receives the rounds' words, and whatever else.
-/
import Derived.Test.YthdbedfofccbmaaDoorK
open Go Go.RowKit
namespace Go.Proofs.YthdbedfofccbmaaDoor
attribute [local go_sem] u32_and255
/-- One word of the key's schedule, out of those ahead of it. -/
def stp (T : Tabs) (y : Nat → Int) (nk : Nat) (F : Nat → Int) (i : Nat) : Int :=
  if i < nk then b32 (y (4 * i)) (y (4 * i + 1)) (y (4 * i + 2)) (y (4 * i + 3))
  else bits .xor .u32 (F (i - nk))
    (if i % nk = 0 then bits .xor .u32 (subw T.sb (rotw (F (i - 1)))) (T.pw (i / nk - 1) % 4294967296 * 16777216 % 4294967296)
     else if 6 < nk ∧ i % nk = 4 then subw T.sb (F (i - 1)) else F (i - 1))
/-- The first i words. -/
def encF (T : Tabs) (y : Nat → Int) (nk : Nat) : Nat → Nat → Int
  | 0 => fun _ => 0
  | i + 1 => upd (encF T y nk i) i (stp T y nk (encF T y nk i) i)
theorem stp_range (T : Tabs) (y : Nat → Int) (nk : Nat) (F : Nat → Int) (i : Nat) : 0 ≤ stp T y nk F i ∧ stp T y nk F i ≤ 4294967295 := by
  unfold stp
  split
  · exact b32_range _ _ _ _
  · exact u32_bits_range _ _ _
theorem encF_range (T : Tabs) (y : Nat → Int) (nk i : Nat) : ∀ j, 0 ≤ encF T y nk i j ∧ encF T y nk i j ≤ 4294967295 := by
  induction i with
  | zero => intro j; exact ⟨Int.le_refl _, by show (0 : Int) ≤ _; omega⟩
  | succ i ih =>
    intro j
    unfold encF upd
    split
    · exact stp_range _ _ _ _ _
    · exact ih j
theorem encF_key (T : Tabs) (y : Nat → Int) (nk k p : Nat) (hk : k < nk) (hp : p = 4 * k) : encF T y nk (k + 1) = upd (encF T y nk k) k (b32 (y p) (y (p + 1)) (y (p + 2)) (y (p + 3))) := by
  subst hp
  show upd (encF T y nk k) k (stp T y nk (encF T y nk k) k) = _
  unfold stp
  rw [if_pos hk]
/-- A cipher's block: the rounds, n words of the schedule. -/
structure KB (cs : Array Value) (r : Int) (F : Nat → Int) (n : Nat) : Prop where
  size : cs.size = 121
  r : cs[0]? = some (.int .i64 r)
  w : ∀ j, j < n → cs[1 + j]? = some (.int .u32 (F j))
  one : cs.all (·.oneCell') = true
theorem all_set {cs : Array Value} (h : cs.all (·.oneCell') = true) (i : Nat) (v : Value) (hv : v.oneCell' = true) : (cs.setIfInBounds i v).all (·.oneCell') = true := by
  rw [Array.all_eq_true] at h ⊢
  intro j hj
  have hj' : j < cs.size := by simpa using hj
  have e : (cs.setIfInBounds i v)[j]? = if i = j then (if i < cs.size then some v else none) else cs[j]? := Array.getElem?_setIfInBounds
  rw [Array.getElem?_eq_getElem hj] at e
  by_cases hij : i = j
  · rw [if_pos hij, if_pos (by omega)] at e
    injection e with e
    rw [e]
    exact hv
  · rw [if_neg hij, Array.getElem?_eq_getElem hj'] at e
    injection e with e
    rw [e]
    exact h j hj'
theorem KB.put {cs : Array Value} {r : Int} {F : Nat → Int} {n : Nat} (h : KB cs r F n) (hn : n < 60) (v : Int) : KB (cs.setIfInBounds (1 + n) (.int .u32 v)) r (upd F n v) (n + 1) := by
  refine ⟨by simp [h.size], ?_, fun j hj => ?_, all_set h.one _ _ rfl⟩
  · rw [Array.getElem?_setIfInBounds, if_neg (by omega)]
    exact h.r
  · rw [Array.getElem?_setIfInBounds]
    unfold upd
    by_cases hjn : j = n
    · subst hjn
      rw [if_pos rfl, if_pos (by rw [h.size]; omega), if_pos rfl]
    · rw [if_neg (by omega), if_neg hjn]
      exact h.w j (by omega)
theorem KB.far {cs : Array Value} {r : Int} {F : Nat → Int} {n : Nat} (h : KB cs r F n) (hn : n ≤ 60) (i : Nat) (hi : 61 ≤ i) (v : Value) (hv : v.oneCell' = true) : KB (cs.setIfInBounds i v) r F n := by
  refine ⟨by simp [h.size], ?_, fun j hj => ?_, all_set h.one _ _ hv⟩
  · rw [Array.getElem?_setIfInBounds, if_neg (by omega)]
    exact h.r
  · rw [Array.getElem?_setIfInBounds, if_neg (by omega)]
    exact h.w j hj
theorem c35b (w : World) (x : Int) (S : Nat → Int) (h1 : 0 ≤ x) (h2 : x ≤ 4294967295) (hS : ∀ i : Nat, i < 256 → w.cell? ⟨2, i, none⟩ = some (.int .u8 (S i))) (m : Nat) :
    Calls Tryd.prog 35 #[.int .u32 x] (w.drewN m) fun e w' => e = .returned (.int .u32 (subw S x)) ∧ ∃ n, w' = w.drewN n :=
  (c35 (w.drewN m) x S h1 h2 hS).mono fun _ _ ⟨he, n, hn⟩ => ⟨he, m + n, by rw [hn, World.drewN_drewN]⟩
theorem c33d (w : World) (V o len cap : Nat) (y : Nat → Int) (hl : 4 ≤ len) (hm : (len : Int) ≤ 9223372036854775807) (hy : ∀ i, i < 4 → w.cell? ⟨V, o + i, none⟩ = some (.int .u8 (y i))) (m : Nat) :
    Calls Tryd.prog 33 #[.slice (some ⟨V, o, none⟩) len cap] (w.drewN m) fun e w' => e = .returned (.int .u32 (b32 (y 0) (y 1) (y 2) (y 3))) ∧ ∃ n, w' = w.drewN n :=
  (c33 (w.drewN m) V o len cap _ _ _ _ hl hm (hy 0 (by omega)) (hy 1 (by omega)) (hy 2 (by omega)) (hy 3 (by omega))).mono fun _ _ ⟨he, n, hn⟩ => ⟨he, m + n, by rw [hn, World.drewN_drewN]⟩
set_option maxHeartbeats 2000000 in
set_option maxRecDepth 100000 in
theorem t30 (T : Tabs) (w : World) (C : Nat) (tc : TypeId) (cs : Array Value) (nk klen : Nat) (hnk : nk = 4 ∨ nk = 6 ∨ nk = 8) (hkl : klen = 4 * nk) (R : Nat) (hR : R = nk + 6) (hC : Blk w C tc cs) (hKB : KB cs R (fun _ => 0) 0)
    (hT : TabOK T w) (hC10 : 10 ≤ C) (Kb cap : Nat) (y : Nat → Int) (hcap : klen ≤ cap) (hcm : (cap : Int) ≤ 9223372036854775807) (hy : ∀ i, i < klen → w.cell? ⟨Kb, i, none⟩ = some (.int .u8 (y i))) (hKC : Kb ≠ C) :
    Calls Tryd.prog 30 #[.pointer (some ⟨C, 0, none⟩), .slice (some ⟨Kb, 0, none⟩) klen cap] w
      fun e w' => e = .returned (.tuple #[]) ∧ ∃ cs', Blk w' C tc cs' ∧ KB cs' R (encF T y nk (4 * (R + 1))) (4 * (R + 1)) ∧ w.grownBy w' (some C) := by
  have q1 : (klen : Int) / 4 = (nk : Int) := by omega
  have hk1 : 4 ≤ nk := by omega
  have hk2 : nk ≤ 8 := by omega
  have Hn := Lib.hid hnk
  have Hl := Lib.hid hkl
  have HR := Lib.hid hR
  have HC := Lib.hid hC
  have HK := Lib.hid hKB
  have HT := Lib.hid hT
  have HY := Lib.hid hy
  clear hnk hkl hR hC hKB hT hy
  go_enter Tryd.func30, Tryd.ntmps30
  go_wp2_with (fail)
  refine (c32 _).mono ?_
  rintro e w' ⟨rfl, rfl⟩
  go_wp2_with (fail)
  clear q1
  have hk0 : decide ((nk : Int) ≤ 0) = false := by simp; omega
  go_loopw [4] (fun i wr => ∃ (k : Nat) (cs' : Array Value), k ≤ nk ∧ i = .int .i64 k ∧ Blk wr C tc cs' ∧ KB cs' R (encF T y nk k) k ∧ w.grownBy wr (some C)) (fun i _ => nk - (intOf i).toNat)
  case atStart => exact ⟨0, cs, Nat.zero_le _, rfl, HC.out, HK.out, grownBy_refl _ _⟩
  case round =>
    obtain ⟨k, cs', hk, rfl, hB, hKB, hg⟩ := hrel
    have HB := Lib.hid hB
    have HKB := Lib.hid hKB
    have HG := Lib.hid hg
    have cK : ∀ i, i < klen → wr.cell? ⟨Kb, i, none⟩ = some (.int .u8 (y i)) := fun i hi => hg.cell (HY.out i hi) (fun e => by injection e with e; exact hKC e)
    have CK := Lib.hid cK
    clear hB hKB hg cK
    by_cases hlt : k < nk
    · obtain ⟨k4, e4, h4⟩ : ∃ k4 : Nat, 4 * (k : Int) = (k4 : Int) ∧ k4 = 4 * k := ⟨4 * k, by omega, rfl⟩
      have hk4 : k4 + 4 ≤ klen := by have := Hl.out; omega
      obtain ⟨p', hp, sl⟩ := slice_cut Kb 0 klen cap k4 (by omega)
      have hp' : p' = k4 := by have := hp (by omega) hcap; omega
      subst hp'
      have H4 := Lib.hid h4
      clear hp h4
      obtain ⟨v0, hv0⟩ : ∃ v, cs'[1 + k]? = some v := ⟨_, Array.getElem?_eq_getElem (by have := HKB.out.size; omega)⟩
      have st1 : wr.cell? ⟨C, 1 + k, none⟩ = some v0 := (Blk.cell HB.out (1 + k)).trans hv0
      have st2 : wr.frozen? ⟨C, 1 + k, none⟩ = false := Blk.frozen HB.out (1 + k)
      clear hv0
      go_wp2_with (fail)
      refine wp_region_quiet_tail 10 (by kernel_rfl) (by kernel_rfl) ?_
      simp only [List.take_succ_cons, List.take_zero, List.drop_succ_cons, List.drop_zero]
      repeat (go_big_quiet_step ((go_at_call 33; exact c33d wr Kb p' (klen - p') (cap - p') (fun i => y (p' + i)) (by omega) (by omega) (fun i hi => CK.out (p' + i) (by omega)) _)))
      refine wpQuiet_nil ?_
      rintro w2 ⟨m, rfl⟩
      go_wp2_with (fail)
      go_roundw
      case rel =>
        refine ⟨k + 1, _, by omega, by go_num, Blk.set_ (Blk.drewN HB.out m) (1 + k) _, ?_, grownBy_trans HG.out (grownBy_trans (grownBy_drewN wr m _) (grownBy_setCell _ _ _))⟩
        rw [encF_key T y nk k p' hlt H4.out]
        exact HKB.out.put (by omega) _
      case measure => simp [intOf]; omega
    · have hkn : k = nk := by omega
      subst hkn
      clear CK hlt
      obtain ⟨wo, rfl⟩ : ∃ wo : World, wo = wr := ⟨_, rfl⟩
      go_wp2_with (fail)
      go_loopw [4, 6] (fun i t wz => ∃ (j : Nat) (cs' : Array Value), k ≤ j ∧ j ≤ 4 * (R + 1) ∧ i = .int .i64 j ∧ Blk wz C tc cs' ∧ KB cs' R (encF T y k j) j ∧ w.grownBy wz (some C)) (fun i _ _ => 60 - (intOf i).toNat)
      case atStart => exact ⟨k, cs', Nat.le_refl _, by have := HR.out; omega, rfl, HB.out, HKB.out, HG.out⟩
      case round =>
        clear HB HKB HG
        obtain ⟨j, cs2, hkj, hjN, rfl, hB, hKB, hg⟩ := hrel
        have HB := Lib.hid hB
        have HKB := Lib.hid hKB
        have HG := Lib.hid hg
        have hR14 : R ≤ 14 := by have := HR.out; omega
        have hR6 : 10 ≤ R := by have := HR.out; omega
        have r0 : wr.cell? ⟨C, 0, none⟩ = some (.int .i64 R) := (Blk.cell hB 0).trans hKB.r
        clear hB hKB hg
        by_cases hlt : j < 4 * (R + 1)
        · have ld1 : wr.cell? ⟨C, 1 + (j - 1), none⟩ = some (.int .u32 (encF T y k j (j - 1))) := (Blk.cell HB.out _).trans (HKB.out.w (j - 1) (by omega))
          have ld2 : wr.cell? ⟨C, 1 + (j - k), none⟩ = some (.int .u32 (encF T y k j (j - k))) := (Blk.cell HB.out _).trans (HKB.out.w (j - k) (by omega))
          obtain ⟨v0, hv0⟩ : ∃ v, cs2[1 + j]? = some v := ⟨_, Array.getElem?_eq_getElem (by have := HKB.out.size; omega)⟩
          have st1 : wr.cell? ⟨C, 1 + j, none⟩ = some v0 := (Blk.cell HB.out (1 + j)).trans hv0
          have st2 : wr.frozen? ⟨C, 1 + j, none⟩ = false := Blk.frozen HB.out (1 + j)
          have xr1 := encF_range T y k j (j - 1)
          have HT1 : Hid (TabOK T wr) := HT.out.grown HG.out (fun g e => by injection e with e; omega)
          have HF : Hid (∀ v, v = stp T y k (encF T y k j) j → encF T y k (j + 1) = upd (encF T y k j) j v) := fun v hv => by rw [hv]; rfl
          clear hv0
          have hjk : 1 ≤ j / k := (Nat.le_div_iff_mul_le (by omega)).2 (by omega)
          have hjk2 : j / k ≤ 15 := Nat.le_trans (Nat.div_le_div_left (c := 4) (by omega) (by omega)) (by omega)
          have hjk3 : (1 : Int) ≤ (j : Int) / (k : Int) := by rw [← Int.natCast_ediv]; omega
          have hjk4 : (j : Int) / (k : Int) ≤ 15 := by rw [← Int.natCast_ediv]; omega
          have pw1 : wr.cell? ⟨0, j / k - 1, none⟩ = some (.int .u8 (T.pw (j / k - 1))) := HT1.out.pw _ (by omega)
          have sbf := Lib.hid HT1.out.sb
          by_cases hA : j % k = 0
          · have hA1 : ((j : Int) % (k : Int) == 0) = true := by rw [← Int.natCast_emod, hA]; rfl
            have HA := Lib.hid hA
            clear hA
            go_wp2_with (fail)
            refine (c34 _ C R (by exact r0) (by omega) (by omega)).mono ?_
            rintro e w' ⟨rfl, rfl⟩
            go_wp2_with (fail)
            go_quiet (first
              | (go_at_call 36; exact (c36 _ _ xr1.1 xr1.2).mono fun e w' ⟨he, hw⟩ => ⟨he, _, hw.symm⟩)
              | (go_at_call 35; exact c35b wr _ T.sb (rotw_range _).1 (rotw_range _).2 sbf.out _))
            go_wp2_with (fail)
            refine wp_region_quiet_tail 15 (by kernel_rfl) (by kernel_rfl) ?_
            simp only [List.take_succ_cons, List.take_zero, List.drop_succ_cons, List.drop_zero]
            repeat (go_big_quiet_step (fail))
            refine wpQuiet_nil ?_
            rintro w2 ⟨m, rfl⟩
            go_wp2_with (fail)
            go_roundw
            case rel =>
              refine ⟨j + 1, _, by omega, by omega, by go_num, Blk.set_ (Blk.drewN HB.out _) (1 + j) _, ?_, grownBy_trans HG.out (grownBy_trans (grownBy_drewN wr _ _) (grownBy_setCell _ _ _))⟩
              rw [HF.out _ ?_]
              · exact HKB.out.put (by omega) _
              · unfold stp
                rw [if_neg (by omega), if_pos HA.out]
            case measure => simp [intOf]; omega
          · have hA1 : ((j : Int) % (k : Int) == 0) = false := by
              rw [← Int.natCast_emod]
              exact beq_false_of_ne (by omega)
            by_cases hC6 : 6 < k
            · have hC61 : decide ((k : Int) > 6) = true := decide_eq_true (by omega)
              by_cases hD : j % k = 4
              · have hD1 : ((j : Int) % (k : Int) == 4) = true := by rw [← Int.natCast_emod, hD]; rfl
                have HA := Lib.hid hA
                have HD := Lib.hid hD
                clear hA hD
                go_wp2_with (fail)
                refine (c34 _ C R (by exact r0) (by omega) (by omega)).mono ?_
                rintro e w' ⟨rfl, rfl⟩
                go_wp2_with (fail)
                refine (c35 _ _ T.sb xr1.1 xr1.2 (by exact sbf.out)).mono ?_
                rintro e w' ⟨rfl, n, rfl⟩
                go_wp2_with (fail)
                refine wp_region_quiet_tail 15 (by kernel_rfl) (by kernel_rfl) ?_
                simp only [List.take_succ_cons, List.take_zero, List.drop_succ_cons, List.drop_zero]
                repeat (go_big_quiet_step (fail))
                refine wpQuiet_nil ?_
                rintro w2 ⟨m, rfl⟩
                go_wp2_with (fail)
                go_roundw
                case rel =>
                  refine ⟨j + 1, _, by omega, by omega, by go_num, Blk.set_ (Blk.drewN HB.out _) (1 + j) _, ?_, grownBy_trans HG.out (grownBy_trans (grownBy_drewN wr _ _) (grownBy_setCell _ _ _))⟩
                  rw [HF.out _ ?_]
                  · exact HKB.out.put (by omega) _
                  · unfold stp
                    rw [if_neg (by omega), if_neg HA.out, if_pos ⟨hC6, HD.out⟩]
                case measure => simp [intOf]; omega
              · have hD1 : ((j : Int) % (k : Int) == 4) = false := by
                  rw [← Int.natCast_emod]
                  exact beq_false_of_ne (by omega)
                have HA := Lib.hid hA
                have HD := Lib.hid hD
                clear hA hD
                go_wp2_with (fail)
                refine (c34 _ C R (by exact r0) (by omega) (by omega)).mono ?_
                rintro e w' ⟨rfl, rfl⟩
                go_wp2_with (fail)
                refine wp_region_quiet_tail 15 (by kernel_rfl) (by kernel_rfl) ?_
                simp only [List.take_succ_cons, List.take_zero, List.drop_succ_cons, List.drop_zero]
                repeat (go_big_quiet_step (fail))
                refine wpQuiet_nil ?_
                rintro w2 ⟨m, rfl⟩
                go_wp2_with (fail)
                go_roundw
                case rel =>
                  refine ⟨j + 1, _, by omega, by omega, by go_num, Blk.set_ (Blk.drewN HB.out _) (1 + j) _, ?_, grownBy_trans HG.out (grownBy_trans (grownBy_drewN wr _ _) (grownBy_setCell _ _ _))⟩
                  rw [HF.out _ ?_]
                  · exact HKB.out.put (by omega) _
                  · unfold stp
                    rw [if_neg (by omega), if_neg HA.out, if_neg (fun h => HD.out h.2)]
                case measure => simp [intOf]; omega
            · have hC61 : decide ((k : Int) > 6) = false := decide_eq_false (by omega)
              have HA := Lib.hid hA
              clear hA
              go_wp2_with (fail)
              refine (c34 _ C R (by exact r0) (by omega) (by omega)).mono ?_
              rintro e w' ⟨rfl, rfl⟩
              go_wp2_with (fail)
              refine wp_region_quiet_tail 15 (by kernel_rfl) (by kernel_rfl) ?_
              simp only [List.take_succ_cons, List.take_zero, List.drop_succ_cons, List.drop_zero]
              repeat (go_big_quiet_step (fail))
              refine wpQuiet_nil ?_
              rintro w2 ⟨m, rfl⟩
              go_wp2_with (fail)
              go_roundw
              case rel =>
                refine ⟨j + 1, _, by omega, by omega, by go_num, Blk.set_ (Blk.drewN HB.out _) (1 + j) _, ?_, grownBy_trans HG.out (grownBy_trans (grownBy_drewN wr _ _) (grownBy_setCell _ _ _))⟩
                rw [HF.out _ ?_]
                · exact HKB.out.put (by omega) _
                · unfold stp
                  rw [if_neg (by omega), if_neg HA.out, if_neg (fun h => hC6 h.1)]
              case measure => simp [intOf]; omega
        · have HJ : Hid (j = 4 * (R + 1)) := by show j = 4 * (R + 1); omega
          have nE : ((R : Int) + 1) * 4 = (j : Int) := by omega
          obtain ⟨wo, rfl⟩ : ∃ wo : World, wo = wr := ⟨_, rfl⟩
          go_wp2_with (fail)
          refine (c34 _ C R (by exact r0) (by omega) (by omega)).mono ?_
          rintro e w' ⟨he, rfl⟩
          rw [nE] at he
          subst he
          have hjj : decide ((j : Int) < (j : Int)) = false := decide_eq_false (by omega)
          go_wp2_with (fail)
          refine (c34 _ C R (by exact r0) (by omega) (by omega)).mono ?_
          rintro e w' ⟨he, rfl⟩
          rw [nE] at he
          subst he
          go_wp2_with (fail)
          clear r0 hlt hjN hkj nE hjj
          go_loopw [8, 9, 10, 11] (fun i a b c wz => ∃ (q p : Nat) (cs' : Array Value), Hid (p = 4 * q) ∧ p ≤ j ∧ i = .int .i64 p ∧ Blk wz C tc cs' ∧ KB cs' R (encF T y k j) j ∧ w.grownBy wz (some C)) (fun i _ _ _ _ => 60 - (intOf i).toNat)
          case atStart => exact ⟨0, 0, cs2, rfl, Nat.zero_le _, rfl, HB.out, HKB.out, HG.out⟩
          case round =>
            clear HB HKB HG
            obtain ⟨q, p, cs3, hq, hpj, rfl, hB, hKB, hg⟩ := hrel
            have HB := Lib.hid hB
            have HKB := Lib.hid hKB
            have HG := Lib.hid hg
            clear hB hKB hg
            obtain ⟨wo2, rfl⟩ : ∃ wo : World, wo = wr := ⟨_, rfl⟩
            by_cases hlt : p < j
            · have hp4 : p + 4 ≤ j := by have := HJ.out; have := hq.out; omega
              obtain ⟨ei, hei⟩ : ∃ ei : Nat, (j : Int) - (p : Int) - 4 = (ei : Int) := ⟨j - p - 4, by omega⟩
              have hej : ei + 4 ≤ j := by omega
              have hj60 : j ≤ 60 := by have := HJ.out; omega
              go_wp2_with (fail)
              go_loopw [10, 11] (fun b c wz => ∃ (jj : Nat) (cs' : Array Value), jj ≤ 4 ∧ b = .int .i64 jj ∧ Blk wz C tc cs' ∧ KB cs' R (encF T y k j) j ∧ w.grownBy wz (some C)) (fun b _ _ => 4 - (intOf b).toNat)
              case atStart => exact ⟨0, cs3, Nat.zero_le _, rfl, HB.out, HKB.out, HG.out⟩
              case round =>
                clear HB HKB HG
                obtain ⟨jj, cs4, hjj, rfl, hB, hKB, hg⟩ := hrel
                have HB2 := Lib.hid hB
                have HKB2 := Lib.hid hKB
                have HG2 := Lib.hid hg
                clear hB hKB hg hei
                by_cases hl4 : jj < 4
                · have ld1 : wr.cell? ⟨C, 1 + (ei + jj), none⟩ = some (.int .u32 (encF T y k j (ei + jj))) := (Blk.cell HB2.out _).trans (HKB2.out.w (ei + jj) (by omega))
                  obtain ⟨v0, hv0⟩ : ∃ v, cs4[61 + (p + jj)]? = some v := ⟨_, Array.getElem?_eq_getElem (by have := HKB2.out.size; omega)⟩
                  have st1 : wr.cell? ⟨C, 61 + (p + jj), none⟩ = some v0 := (Blk.cell HB2.out (61 + (p + jj))).trans hv0
                  have st2 : wr.frozen? ⟨C, 61 + (p + jj), none⟩ = false := Blk.frozen HB2.out (61 + (p + jj))
                  clear hv0
                  have xr1 := encF_range T y k j (ei + jj)
                  by_cases hP : 0 < p ∧ p + 4 < j
                  · have hT1 : TabOK T wr := HT.out.grown HG2.out (fun g e => by injection e with e; omega)
                    generalize encF T y k j (ei + jj) = X at *
                    have s0 := hT1.sb (X / 16777216).toNat (by omega)
                    have s1 := hT1.sb (X / 65536 % 256).toNat (by omega)
                    have s2 := hT1.sb (X / 256 % 256).toNat (by omega)
                    have s3 := hT1.sb (X % 256).toNat (by omega)
                    have b0 := hT1.sbr (X / 16777216).toNat
                    have b1 := hT1.sbr (X / 65536 % 256).toNat
                    have b2 := hT1.sbr (X / 256 % 256).toNat
                    have b3 := hT1.sbr (X % 256).toNat
                    generalize T.sb (X / 16777216).toNat = S0 at *
                    generalize T.sb (X / 65536 % 256).toNat = S1 at *
                    generalize T.sb (X / 256 % 256).toNat = S2 at *
                    generalize T.sb (X % 256).toNat = S3 at *
                    have z0 := hT1.td0 S0.toNat (by omega)
                    have z1 := hT1.td1 S1.toNat (by omega)
                    have z2 := hT1.td2 S2.toNat (by omega)
                    have z3 := hT1.td3 S3.toNat (by omega)
                    clear hT1
                    go_wp2_with (fail)
                    go_quiet (fail)
                    go_wp2_with (fail)
                    go_roundw
                    case rel =>
                      exact ⟨jj + 1, _, by omega, by go_num, Blk.set_ (Blk.drewN HB2.out _) (61 + (p + jj)) _, HKB2.out.far (by omega) _ (by omega) _ rfl, grownBy_trans HG2.out (grownBy_trans (grownBy_drewN wr _ _) (grownBy_setCell _ _ _))⟩
                    case measure => simp [intOf]; omega
                  · by_cases hP1 : 0 < p
                    · go_wp2_with (fail)
                      go_roundw
                      case rel =>
                        exact ⟨jj + 1, _, by omega, by go_num, Blk.set_ HB2.out (61 + (p + jj)) _, HKB2.out.far (by omega) _ (by omega) _ rfl, grownBy_trans HG2.out (grownBy_setCell _ _ _)⟩
                      case measure => simp [intOf]; omega
                    · go_wp2_with (fail)
                      go_roundw
                      case rel =>
                        exact ⟨jj + 1, _, by omega, by go_num, Blk.set_ HB2.out (61 + (p + jj)) _, HKB2.out.far (by omega) _ (by omega) _ rfl, grownBy_trans HG2.out (grownBy_setCell _ _ _)⟩
                      case measure => simp [intOf]; omega
                · go_wp2_with (fail)
                  go_roundw
                  case rel => exact ⟨q + 1, p + 4, _, (show p + 4 = 4 * (q + 1) from by have := hq.out; omega), by omega, by go_num, HB2.out, HKB2.out, HG2.out⟩
                  case measure => simp [intOf]; omega
            · have hpj2 : p = j := by omega
              subst hpj2
              go_wp2_with (fail)
              go_end0
              refine ⟨rfl, cs3, HB.out, ?_, HG.out⟩
              have := HKB.out
              rw [HJ.out] at this
              exact this
end Go.Proofs.YthdbedfofccbmaaDoor
