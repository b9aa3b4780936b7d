/-
  A new cipher: its block holds the rounds and the key's schedule.
-/
import Derived.Test.YthdbedfofccbmaaDoorL
open Go Go.RowKit
namespace Go.Proofs.YthdbedfofccbmaaDoor
attribute [local go_sem] u32_and255
/-- A key's length, its words and its rounds. -/
structure Key (klen nk R : Nat) : Prop where
  h : (klen = 16 ∧ nk = 4 ∧ R = 10) ∨ (klen = 24 ∧ nk = 6 ∧ R = 12) ∨ (klen = 32 ∧ nk = 8 ∧ R = 14)
/-- A block that holds a key's schedule. -/
def KP (T : Tabs) (y : Nat → Int) (nk R : Nat) (cs : Array Value) : Prop := KB cs R (encF T y nk (4 * (R + 1))) (4 * (R + 1))
theorem kb_start {cs : Array Value} (hsz : cs.size = 121) (h1 : cs.all (·.oneCell') = true) (r : Int) (F : Nat → Int) : KB (cs.setIfInBounds 0 (.int .i64 r)) r F 0 := by
  refine ⟨by simp [hsz], ?_, fun j hj => absurd hj (Nat.not_lt_zero j), all_set h1 _ _ rfl⟩
  rw [Array.getElem?_setIfInBounds, if_pos rfl, if_pos (by omega)]
set_option maxHeartbeats 2000000 in
set_option maxRecDepth 100000 in
theorem c26 (T : Tabs) (w : World) (C : Nat) (tc : TypeId) (cs : Array Value) (klen nk R : Nat) (hk : Key klen nk R) (hC : Blk w C tc cs) (hsz : cs.size = 121) (h1 : cs.all (·.oneCell') = true)
    (hT : TabOK T w) (hC10 : 10 ≤ C) (Kb cap : Nat) (y : Nat → Int) (hcap : klen ≤ cap) (hcm : (cap : Int) ≤ 9223372036854775807) (hy : ∀ i, i < klen → w.cell? ⟨Kb, i, none⟩ = some (.int .u8 (y i))) (hKC : Kb ≠ C) :
    Calls Tryd.prog 26 #[.pointer (some ⟨C, 0, none⟩), .slice (some ⟨Kb, 0, none⟩) klen cap] w
      fun e w' => e = .returned (.tuple #[]) ∧ ∃ cs', Blk w' C tc cs' ∧ KP T y nk R cs' ∧ w.grownBy w' (some C) := by
  obtain ⟨v0, hv0⟩ : ∃ v, cs[0]? = some v := ⟨_, Array.getElem?_eq_getElem (by omega)⟩
  have st1 : w.cell? ⟨C, 0, none⟩ = some v0 := (Blk.cell hC 0).trans hv0
  have st2 : w.frozen? ⟨C, 0, none⟩ = false := Blk.frozen hC 0
  have HF : Hid (Calls Tryd.prog 30 #[.pointer (some ⟨C, 0, none⟩), .slice (some ⟨Kb, 0, none⟩) klen cap] (w.setCell ⟨C, 0, none⟩ (.int .i64 R))
      fun e w' => e = .returned (.tuple #[]) ∧ ∃ cs', Blk w' C tc cs' ∧ KP T y nk R cs' ∧ (w.setCell ⟨C, 0, none⟩ (.int .i64 R)).grownBy w' (some C)) := by
    have hg := grownBy_setCell (w := w) (g := C) 0 (.int .i64 R)
    have hk' := hk.h
    exact t30 T _ C tc (cs.setIfInBounds 0 (.int .i64 R)) nk klen (by omega) (by omega) R (by omega) (Blk.set_ hC 0 _) (kb_start hsz h1 _ _) (hT.grown hg (fun g e => by injection e with e; omega)) hC10 Kb cap y hcap hcm
      (fun i hi => hg.cell (hy i hi) (fun e => by injection e with e; exact hKC e)) hKC
  have HK := Lib.hid hk
  clear hC hsz h1 hT hy hk hv0
  go_enter Tryd.func26, Tryd.ntmps26
  rcases HK.out.h with ⟨ha, hb, hc⟩ | ⟨ha, hb, hc⟩ | ⟨ha, hb, hc⟩
  · have e1 : ((klen : Int) == 16) = true := by rw [ha]; rfl
    have e4 : (R : Int) = 10 := by omega
    have HF1 := HF
    rw [e4] at HF1
    clear ha hb hc e4
    go_wp2_with (fail)
    refine HF1.out.mono ?_
    rintro e w' ⟨rfl, hh⟩
    have HH := Lib.hid hh
    clear hh
    go_wp2_with (fail)
    go_end0
    obtain ⟨cs', x1, x2, x3⟩ := HH.out
    exact ⟨rfl, cs', x1, x2, grownBy_trans (grownBy_setCell _ _ _) x3⟩
  · have e1 : ((klen : Int) == 16) = false := by rw [ha]; rfl
    have e2 : ((klen : Int) == 24) = true := by rw [ha]; rfl
    have e4 : (R : Int) = 12 := by omega
    have HF1 := HF
    rw [e4] at HF1
    clear ha hb hc e4
    go_wp2_with (fail)
    refine HF1.out.mono ?_
    rintro e w' ⟨rfl, hh⟩
    have HH := Lib.hid hh
    clear hh
    go_wp2_with (fail)
    go_end0
    obtain ⟨cs', x1, x2, x3⟩ := HH.out
    exact ⟨rfl, cs', x1, x2, grownBy_trans (grownBy_setCell _ _ _) x3⟩
  · have e1 : ((klen : Int) == 16) = false := by rw [ha]; rfl
    have e2 : ((klen : Int) == 24) = false := by rw [ha]; rfl
    have e3 : ((klen : Int) == 32) = true := by rw [ha]; rfl
    have e4 : (R : Int) = 14 := by omega
    have HF1 := HF
    rw [e4] at HF1
    clear ha hb hc e4
    go_wp2_with (fail)
    refine HF1.out.mono ?_
    rintro e w' ⟨rfl, hh⟩
    have HH := Lib.hid hh
    clear hh
    go_wp2_with (fail)
    go_end0
    obtain ⟨cs', x1, x2, x3⟩ := HH.out
    exact ⟨rfl, cs', x1, x2, grownBy_trans (grownBy_setCell _ _ _) x3⟩
/-- What a constructor of a cipher leaves. -/
def KQ (T : Tabs) (w : World) (C : Nat) (tc : TypeId) (y : Nat → Int) (nk R : Nat) (w' : World) : Prop := ∃ cs', Blk w' C tc cs' ∧ KP T y nk R cs' ∧ w.grownBy w' (some C)
set_option maxHeartbeats 1000000 in
theorem c23 (T : Tabs) (w : World) (C : Nat) (tc : TypeId) (cs : Array Value) (klen nk R : Nat) (hk : Key klen nk R) (hC : Blk w C tc cs) (hsz : cs.size = 121) (h1 : cs.all (·.oneCell') = true)
    (hT : TabOK T w) (hC10 : 10 ≤ C) (Kb cap : Nat) (y : Nat → Int) (hcap : klen ≤ cap) (hcm : (cap : Int) ≤ 9223372036854775807) (hy : ∀ i, i < klen → w.cell? ⟨Kb, i, none⟩ = some (.int .u8 (y i))) (hKC : Kb ≠ C) :
    Calls Tryd.prog 23 #[.pointer (some ⟨C, 0, none⟩), .slice (some ⟨Kb, 0, none⟩) klen cap] w
      fun e w' => e = .returned (.pointer (some ⟨C, 0, none⟩)) ∧ KQ T w C tc y nk R w' := by
  have HF := Lib.hid (c26 T w C tc cs klen nk R hk hC hsz h1 hT hC10 Kb cap y hcap hcm hy hKC)
  clear hC hsz h1 hT hy hk
  go_enter Tryd.func23, Tryd.ntmps23
  go_wp2_with (fail)
  refine HF.out.mono ?_
  rintro e w' ⟨rfl, hh⟩
  have HH := Lib.hid hh
  clear hh
  go_wp2_with (fail)
  go_ret
  exact ⟨rfl, HH.out⟩
set_option maxHeartbeats 1000000 in
theorem c15 (T : Tabs) (w : World) (C : Nat) (tc : TypeId) (cs : Array Value) (klen nk R : Nat) (hk : Key klen nk R) (hC : Blk w C tc cs) (hsz : cs.size = 121) (h1 : cs.all (·.oneCell') = true)
    (hT : TabOK T w) (hC10 : 10 ≤ C) (Kb cap : Nat) (y : Nat → Int) (hcap : klen ≤ cap) (hcm : (cap : Int) ≤ 9223372036854775807) (hy : ∀ i, i < klen → w.cell? ⟨Kb, i, none⟩ = some (.int .u8 (y i))) (hKC : Kb ≠ C) :
    Calls Tryd.prog 15 #[.pointer (some ⟨C, 0, none⟩), .slice (some ⟨Kb, 0, none⟩) klen cap] w
      fun e w' => e = .returned (.tuple #[.pointer (some ⟨C, 0, none⟩), .nilIface]) ∧ KQ T w C tc y nk R w' := by
  have HF := Lib.hid (c23 T w C tc cs klen nk R hk hC hsz h1 hT hC10 Kb cap y hcap hcm hy hKC)
  have HK := Lib.hid hk
  clear hC hsz h1 hT hy hk
  go_enter Tryd.func15, Tryd.ntmps15
  rcases HK.out.h with ⟨ha, hb, hc⟩ | ⟨ha, hb, hc⟩ | ⟨ha, hb, hc⟩
  · have e1 : ((klen : Int) == 16) = true := by rw [ha]; rfl
    clear ha hb hc
    go_wp2_with (fail)
    refine HF.out.mono ?_
    rintro e w' ⟨rfl, hh⟩
    have HH := Lib.hid hh
    clear hh
    go_wp2_with (fail)
    go_ret2
    exact ⟨rfl, HH.out⟩
  · have e1 : ((klen : Int) == 16) = false := by rw [ha]; rfl
    have e2 : ((klen : Int) == 24) = true := by rw [ha]; rfl
    clear ha hb hc
    go_wp2_with (fail)
    refine HF.out.mono ?_
    rintro e w' ⟨rfl, hh⟩
    have HH := Lib.hid hh
    clear hh
    go_wp2_with (fail)
    go_ret2
    exact ⟨rfl, HH.out⟩
  · have e1 : ((klen : Int) == 16) = false := by rw [ha]; rfl
    have e2 : ((klen : Int) == 24) = false := by rw [ha]; rfl
    have e3 : ((klen : Int) == 32) = true := by rw [ha]; rfl
    clear ha hb hc
    go_wp2_with (fail)
    refine HF.out.mono ?_
    rintro e w' ⟨rfl, hh⟩
    have HH := Lib.hid hh
    clear hh
    go_wp2_with (fail)
    go_ret2
    exact ⟨rfl, HH.out⟩
set_option maxHeartbeats 1000000 in
theorem c10 (T : Tabs) (w : World) (klen nk R : Nat) (hk : Key klen nk R)
    (hT : TabOK T w) (h10 : 10 ≤ w.heap.size) (Kb cap : Nat) (y : Nat → Int) (hcap : klen ≤ cap) (hcm : (cap : Int) ≤ 9223372036854775807) (hy : ∀ i, i < klen → w.cell? ⟨Kb, i, none⟩ = some (.int .u8 (y i))) (hKC : Kb < w.heap.size) :
    Calls Tryd.prog 10 #[.slice (some ⟨Kb, 0, none⟩) klen cap] w
      fun e w' => ∃ K cs', e = .returned (.tuple #[.pointer (some ⟨K, 0, none⟩), .nilIface]) ∧ w.heap.size ≤ K ∧ Blk w' K 54 cs' ∧ KP T y nk R cs' ∧ w.grownBy w' none := by
  have hz := zero54
  have HF : Hid (Calls Tryd.prog 15 #[.pointer (some ⟨w.heap.size, 0, none⟩), .slice (some ⟨Kb, 0, none⟩) klen cap] (w.alloc (Obj.cells zs54 54))
      fun e w' => e = .returned (.tuple #[.pointer (some ⟨w.heap.size, 0, none⟩), .nilIface]) ∧ KQ T (w.alloc (Obj.cells zs54 54)) w.heap.size 54 y nk R w') := by
    have hg := World.grownBy_alloc w (Obj.cells zs54 54) none
    exact c15 T _ _ 54 zs54 klen nk R hk (Blk.new w 54 zs54) (by rw [zs54_size]) zs54_one (hT.grown hg (fun g e => by cases e)) h10 Kb cap y hcap hcm
      (fun i hi => hg.cell (hy i hi) (fun e => by cases e)) (by omega)
  clear hT hy hk
  go_enter Tryd.func10, Tryd.ntmps10
  go_wp2_with (fail)
  refine HF.out.mono ?_
  rintro e w' ⟨rfl, cs', x1, x2, x3⟩
  have X1 := Lib.hid x1
  have X2 := Lib.hid x2
  have X3 := Lib.hid x3
  clear x1 x2 x3
  go_wp2_with (fail)
  go_ret2
  exact ⟨w.heap.size, cs', rfl, Nat.le_refl _, X1.out, X2.out, grownBy_new (World.grownBy_alloc w (Obj.cells zs54 54) none) X3.out (Nat.le_refl _)⟩
end Go.Proofs.YthdbedfofccbmaaDoor
