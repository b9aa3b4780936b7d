/-
  A slice copied into a new block; the law's tests of its input.
-/
import Derived.Test.YthdbedfofccbmaaDoorN
open Go Go.RowKit
namespace Go.Proofs.YthdbedfofccbmaaDoor
attribute [local go_sem] u32_and255
theorem wpList_append_run {P : Program} {w : World} {ops : Array Oper} {rest : List Oper} {o : Oper} {a : Act} {Q : Exit → Act → World → Prop} (hgd : o.guard = none) (s x : Operand) (t : TypeId)
    (ho : o.op = .call { callee := .builtin .append, args := #[s, x], argTypes := #[t, t] })
    (v u v' : Value) (w' : World) (hs : a.eval s = v) (hx : a.eval x = u) (hrun : (Builtin.append_ #[t, t] o.type #[v, u]).run P w = .ok v' w')
    (h : wpList P ops Q rest (a.put o.dst v') w') : wpList P ops Q (o :: rest) a w :=
  wpList_plain hgd fun _ hK => by
    unfold Oper.wp execOp
    simp only [ho, resolve, invoke, builtin, Sem.run_bind, Sem.run_pure, Result.andThen_ok, List.map_toArray, List.map_cons, List.map_nil, hs, hx, hrun]
    exact hK _ _ h
/-- n bytes lie at an address. -/
def Rd (w : World) (A : Option Addr) (n : Nat) (s : Nat → Int) : Prop := 0 < n → ∃ ad, A = some ad ∧ ad.block < w.heap.size ∧ ∀ i, i < n → w.cell? (ad.add i) = some (.int .u8 (s i))
theorem run_app (w : World) (A : Option Addr) (n c : Nat) (s : Nat → Int) (h : Rd w A n s) (hn : n ≤ 2147483647) :
    ∃ v' w', (Builtin.append_ #[22, 22] 22 #[.slice none 0 0, .slice A n c]).run Tryd.prog w = .ok v' w' ∧ Src w' w.heap.size v' n s ∧ w.grownBy w' none := by
  obtain ⟨i, hi, hz⟩ : ∃ i, Tryd.prog.info? 5 = some i ∧ i.zero = some (.int .u8 0) ∧ i.size = 1 ∧ i.bytes = 1 := by
    have := u8_info
    cases h : Tryd.prog.info? 5 with
    | none => rw [h] at this; cases this
    | some i => rw [h] at this; simp at this; exact ⟨i, rfl, this⟩
  have ht : Tryd.prog.underlying 22 = some (.slice 5) := by kernel_rfl
  rcases Nat.eq_zero_or_pos n with h0 | h0
  · subst h0
    refine ⟨.slice none 0 0, w, ?_, .inl ⟨rfl, rfl⟩, grownBy_refl _ _⟩
    cases A with
    | none => exact run_append_of_nil w w.heap.size 22 22 5 i 1 ht hi _ 0 [] ⟨by simp, .inl ⟨rfl, rfl⟩⟩ c
    | some ad =>
      simp [Builtin.append_, run_underlying ht, sizeOf, typeInfo, hi, Builtin.lenOf, Builtin.firstCells]
      rfl
  · obtain ⟨ad, rfl, hb, hc⟩ := h h0
    have hr : Reads w w.heap.size 1 (some ad) n (bytesL n s) := ⟨by rw [bytesL_length, Nat.mul_one], fun _ => ⟨ad, rfl, hb, fun j u hu => by
      rw [bytesL_get] at hu
      split at hu
      · rename_i hj
        injection hu with hu
        rw [← hu]
        exact hc j hj
      · cases hu⟩⟩
    obtain ⟨v', w', hrun, how, hg, _⟩ := run_append_any (P := Tryd.prog) w w.heap.size 22 22 5 i (.int .u8 0) 1 1 ht hi hz.1 hz.2.1 hz.2.2 (by rfl) (by decide) (.slice none 0 0) 0 [] ⟨by simp, .inl ⟨rfl, rfl⟩⟩
      w.heap.size (some ad) n c (bytesL n s) hr (bytesL_one n s) (by unfold maxLen; omega) (by omega) (Nat.le_refl _)
    refine ⟨v', w', hrun, ?_, hg⟩
    rcases how.2 with ⟨_, h1⟩ | ⟨g, cap, cur, rfl, hbg, hh, h1, h2, h3, h4⟩
    · omega
    · refine .inr ⟨h0, g, cap, by rw [Nat.zero_add], hbg, by omega, by unfold maxLen at h2; omega, fun k hk => ?_⟩
      rw [Blk.cell (cs := cur) hh k]
      have : (cur.toList.take ((0 + n) * 1))[k]? = some (.int .u8 (s k)) := by rw [h4, List.nil_append, bytesL_get, if_pos hk]
      rw [List.getElem?_take, if_pos (by omega)] at this
      rw [← Array.getElem?_toList]
      exact this
set_option maxHeartbeats 1000000 in
theorem c11 (w : World) (A : Option Addr) (n c : Nat) (s : Nat → Int) (h : Rd w A n s) (hn : n ≤ 2147483647) :
    Calls Tryd.prog 11 #[.slice A n c] w fun e w' => ∃ v', e = .returned v' ∧ Src w' w.heap.size v' n s ∧ w.grownBy w' none := by
  obtain ⟨v', w', hrun, h1, h2⟩ := run_app w A n c s h hn
  have H1 := Lib.hid h1
  have H2 := Lib.hid h2
  have HR := Lib.hid hrun
  clear h h1 h2 hrun hn
  go_enter Tryd.func11, Tryd.ntmps11
  go_wp2_with (first | (refine wpList_append_run rfl (.const (.slice none 0 0)) (.tmp 3) 22 rfl (.slice none 0 0) (.slice A n c) v' w' rfl rfl HR.out ?_) | fail)
  go_ret
  exact ⟨v', rfl, H1.out, H2.out⟩
theorem beqn {a b : Nat} (h : a = b) : ((a : Int) == (b : Int)) = true := by rw [h]; exact beq_self_eq_true _
theorem beqf {a b : Nat} (h : a ≠ b) : ((a : Int) == (b : Int)) = false := beq_false_of_ne (by omega)
set_option maxHeartbeats 1000000 in
theorem c4 (w : World) (A : Option Addr) (n c : Nat) (b : Bool) (hb : b = decide (n = 16 ∨ n = 24 ∨ n = 32)) :
    Calls Tryd.prog 4 #[.slice A n c] w fun e w' => e = .returned (.bool b) ∧ w = w' := by
  go_enter Tryd.func4, Tryd.ntmps4
  by_cases h1 : n = 16
  · have e1 : ((n : Int) == 16) = true := beqn (b := 16) h1
    have hb' : b = true := by rw [hb]; exact decide_eq_true (.inl h1)
    clear hb h1
    subst hb'
    go_wp2_with (fail)
    go_ret
    exact ⟨rfl, rfl⟩
  · have e1 : ((n : Int) == 16) = false := beqf (b := 16) h1
    by_cases h2 : n = 24
    · have e2 : ((n : Int) == 24) = true := beqn (b := 24) h2
      have hb' : b = true := by rw [hb]; exact decide_eq_true (.inr (.inl h2))
      clear hb h1 h2
      subst hb'
      go_wp2_with (fail)
      go_ret
      exact ⟨rfl, rfl⟩
    · have e2 : ((n : Int) == 24) = false := beqf (b := 24) h2
      by_cases h3 : n = 32
      · have e3 : ((n : Int) == 32) = true := beqn (b := 32) h3
        have hb' : b = true := by rw [hb]; exact decide_eq_true (.inr (.inr h3))
        clear hb h1 h2 h3
        subst hb'
        go_wp2_with (fail)
        go_ret
        exact ⟨rfl, rfl⟩
      · have e3 : ((n : Int) == 32) = false := beqf (b := 32) h3
        have hb' : b = false := by rw [hb]; exact decide_eq_false (by omega)
        clear hb h1 h2 h3
        subst hb'
        go_wp2_with (fail)
        go_ret
        exact ⟨rfl, rfl⟩
set_option maxHeartbeats 1000000 in
theorem c5 (w : World) (G cap n c : Nat) (A : Option Addr) (h0 : w.cell? ⟨G, 0, none⟩ = some (.slice A n c)) (b : Bool) (hb : b = decide (n ≤ 16384)) :
    Calls Tryd.prog 5 #[.slice (some ⟨G, 0, none⟩) 1 cap] w fun e w' => e = .returned (.bool b) ∧ w = w' := by
  go_enter Tryd.func5, Tryd.ntmps5
  go_wp2_with (fail)
  by_cases h1 : n ≤ 16384
  · have hb' : b = true := by rw [hb]; exact decide_eq_true h1
    clear hb
    subst hb'
    refine wp_loop_rounds 2 ?_
    rw [rounds_succ]
    go_wp2_with (fail)
    rw [rounds_succ]
    go_wp2_with (fail)
    go_ret
    exact ⟨rfl, rfl⟩
  · have hb' : b = false := by rw [hb]; exact decide_eq_false h1
    clear hb
    subst hb'
    refine wp_loop_rounds 2 ?_
    rw [rounds_succ]
    go_wp2_with (fail)
    go_ret
    exact ⟨rfl, rfl⟩
end Go.Proofs.YthdbedfofccbmaaDoor
