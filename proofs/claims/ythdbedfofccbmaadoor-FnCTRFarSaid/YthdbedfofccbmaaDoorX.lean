/-
  The law's function: it returns true, whatever the tables hold.
-/
import Derived.Test.YthdbedfofccbmaaDoorW
open Go Go.RowKit
namespace Go.Proofs.YthdbedfofccbmaaDoor
attribute [local go_sem] u32_and255
theorem size23 : (Tryd.prog.info? 23).map (·.size) = some 16 := by kernel_rfl
theorem key_of (n : Nat) (h : n = 16 ∨ n = 24 ∨ n = 32) : ∃ nk R, Key n nk R := by
  rcases h with rfl | rfl | rfl
  · exact ⟨4, 10, ⟨.inl ⟨rfl, rfl, rfl⟩⟩⟩
  · exact ⟨6, 12, ⟨.inr (.inl ⟨rfl, rfl, rfl⟩)⟩⟩
  · exact ⟨8, 14, ⟨.inr (.inr ⟨rfl, rfl, rfl⟩)⟩⟩
theorem Sq.grown {w w' : World} {v : Value} {n : Nat} {f : Nat → Int} (h : Sq w v n f) (k : w.grownBy w' none) : Sq w' v n f := by
  rcases h with h | ⟨S, c, hv, hc⟩
  · exact .inl h
  · exact .inr ⟨S, c, hv, fun i hi => k.cell (hc i hi) (by simp)⟩
set_option maxHeartbeats 2000000 in
set_option maxRecDepth 100000 in
theorem c3 (T : Tabs) (w : World) (hT : TabOK T w) (A : Option Addr) (klen kc : Nat) (hkm : klen ≤ 9223372036854775807) (y : Nat → Int) (hA : Rd w A klen y) (d : Nat → Nat) (hd : ∀ k, d k < 256)
    (Ab : Option Addr) (n cb : Nat) (hnm : n ≤ 9223372036854775807) (s : Nat → Int) (hB : Rd w Ab n s) (bl : Nat) (hbl : bl < 18446744073709551616) :
    Calls Tryd.prog 3 #[.slice A klen kc, .agg (bytesA 16 (fun i => (d (15 - i) : Int))), .slice Ab n cb, .int .u64 (bl : Int)] w
      fun e w' => e = .returned (.bool true) ∧ w.grownBy w' none := by
  have HT := Lib.hid hT
  have HA := Lib.hid hA
  have HD := Lib.hid hd
  have HB := Lib.hid hB
  clear hT hA hd hB
  have b1 : Byt (w.alloc (Obj.cells (bytesA 16 (fun i => (d (15 - i) : Int))) 23)) w.heap.size 23 16 (fun i => (d (15 - i) : Int)) := Blk.new w 23 _
  have g1 : w.grownBy (w.alloc (Obj.cells (bytesA 16 (fun i => (d (15 - i) : Int))) 23)) none := World.grownBy_alloc w _ none
  have B1 := Lib.hid b1
  have G1 := Lib.hid g1
  clear b1 g1
  go_enter Tryd.func3, Tryd.ntmps3
  by_cases h1 : klen ≤ 2147483647
  · by_cases h2 : n ≤ 2147483647
    · go_wp2_with (fail)
      generalize w.alloc (Obj.cells (bytesA 16 (fun i => (d (15 - i) : Int))) 23) = w1 at *
      generalize w.heap.size = V at *
      by_cases hk : klen = 16 ∨ klen = 24 ∨ klen = 32
      · refine (c4 w1 A klen kc true (decide_eq_true hk).symm).mono ?_
        rintro e w' ⟨rfl, rfl⟩
        obtain ⟨nk, R, hKey⟩ := key_of klen hk
        have HK := Lib.hid hKey
        clear hKey hk
        go_wp2_with (fail)
        have g2 : w1.grownBy (w1.alloc (Obj.cells #[Value.slice Ab n cb] 22)) none := World.grownBy_alloc w1 _ none
        have G2 := Lib.hid (grownBy_trans G1.out g2)
        have B2 := Lib.hid (Byt.keep B1.out g2 (by simp))
        have P2 := Lib.hid (Blk.new w1 22 #[Value.slice Ab n cb])
        generalize w1.alloc (Obj.cells #[Value.slice Ab n cb] 22) = w2 at *
        generalize w1.heap.size = P at *
        clear g2 G1 B1
        by_cases hn : n ≤ 16384
        · refine (c5 w2 P 1 n cb Ab (Blk.cell P2.out 0) true (decide_eq_true hn).symm).mono ?_
          rintro e w' ⟨rfl, rfl⟩
          by_cases hb : bl ≤ 72057594037927936
          · obtain ⟨off, ho⟩ : ∃ off : Nat, 16 * (bl : Int) = (off : Int) := ⟨16 * bl, by omega⟩
            have HO : Hid (off = 16 * bl) := by show off = 16 * bl; omega
            have hoff : off < 18446744073709551616 := by omega
            have hb0 : decide ((bl : Int) > 72057594037927936) = false := decide_eq_false (by omega)
            go_wp2_with (first
              | (refine wpList_load_row rfl 23 (.tmp 5) rfl V rfl 23 (bytesA 16 (fun i => (d (15 - i) : Int))) (0, 0) _ (by exact B2.out) Tryd.underlying23 rfl (by rw [bytesA_size]; exact size23) ?_)
              | fail)
            refine (c6 T w2 (HT.out.grown G2.out (by simp)) A klen kc y nk R HK.out (HA.out.grown G2.out) d HD.out Ab n cb s (HB.out.grown G2.out) hn bl off (by omega) HO.out).mono ?_
            rintro e w3 ⟨v1, rfl, hs, hg⟩
            have S3 := Lib.hid hs
            have G3 := Lib.hid (grownBy_trans G2.out hg)
            have B3 := Lib.hid (Byt.keep B2.out hg (by simp))
            clear hs hg ho
            go_wp2_with (first
              | (refine wpList_load_row rfl 23 (.tmp 5) rfl V rfl 23 (bytesA 16 (fun i => (d (15 - i) : Int))) (0, 0) _ (by exact B3.out) Tryd.underlying23 rfl (by rw [bytesA_size]; exact size23) ?_)
              | fail)
            refine (c8 w3 d HD.out bl hb).mono ?_
            rintro e w4 ⟨rfl, hg⟩
            have S4 := Lib.hid (S3.out.grown hg)
            have G4 := Lib.hid (grownBy_trans G3.out hg)
            clear hg
            go_wp2_with (fail)
            have g5 : w4.grownBy (w4.alloc (Obj.cells #[Value.slice Ab n cb] 22)) none := World.grownBy_alloc w4 _ none
            have G5 := Lib.hid (grownBy_trans G4.out g5)
            have S5 := Lib.hid (S4.out.grown g5)
            have P5 := Lib.hid (Blk.new w4 22 #[Value.slice Ab n cb])
            generalize w4.alloc (Obj.cells #[Value.slice Ab n cb] 22) = w5 at *
            generalize w4.heap.size = P' at *
            clear g5
            refine (c7 T w5 (HT.out.grown G5.out (by simp)) A klen kc y nk R HK.out (HA.out.grown G5.out) (dig d bl) (fun k => Nat.mod_lt _ (by decide)) Ab n cb s (HB.out.grown G5.out) hn P' 1 (Blk.cell P5.out 0)).mono ?_
            rintro e w6 ⟨v2, rfl, hs, hg⟩
            have S6 := Lib.hid (S5.out.grown hg)
            have Z6 := Lib.hid hs
            have G6 := Lib.hid (grownBy_trans G5.out hg)
            clear hs hg
            go_wp2_with (fail)
            refine (c9 w6 v1 v2 n _ _ S6.out Z6.out (fun i _ => ?_)).mono ?_
            · unfold ks
              rw [kb_next]
            · rintro e w' ⟨rfl, rfl⟩
              go_wp2_with (fail)
              go_ret
              exact ⟨rfl, G6.out⟩
          · go_wp2_with (fail)
            go_ret
            exact ⟨rfl, G2.out⟩
        · refine (c5 w2 P 1 n cb Ab (Blk.cell P2.out 0) false (decide_eq_false hn).symm).mono ?_
          rintro e w' ⟨rfl, rfl⟩
          go_wp2_with (fail)
          go_ret
          exact ⟨rfl, G2.out⟩
      · refine (c4 w1 A klen kc false (decide_eq_false hk).symm).mono ?_
        rintro e w' ⟨rfl, rfl⟩
        clear hk
        go_wp2_with (fail)
        go_ret
        exact ⟨rfl, G1.out⟩
    · go_wp2_with (fail)
      go_ret
      exact ⟨rfl, G1.out⟩
  · go_wp2_with (fail)
    go_ret
    exact ⟨rfl, G1.out⟩
end Go.Proofs.YthdbedfofccbmaaDoor
