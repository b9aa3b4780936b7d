/-
  The statement FnCTRFarSaid: for every input, and for whatever the package's tables hold, the law FnCTRFar returns true, and what it was handed reads as it did. No condition.
-/
import Derived.Test.YthdbedfofccbmaaDoorRows
import Derived.Test.YthdbedfofccbmaaDoorY
import Derived.WalkKit
import Derived.ShutString
import Derived.ChangeOld
import Derived.Below
import Derived.Carry
namespace Go.Proofs.YthdbedfofccbmaaDoor
open Go.ChangeShapes Go.WideShapes Go.ChangeAt Go.RowKit
theorem far_own : ownKnob Tryd.prog.godebug = none := by kernel_rfl
theorem far_laid : laidOutB Tryd.prog = true := by kernel_rfl
theorem n0 : Tryd.prog.globalNamed "loop.example/pub-g03026/pub/aes.powx" = some 0 := by kernel_rfl
theorem n1 : Tryd.prog.globalNamed "loop.example/pub-g03026/pub/aes.td0" = some 1 := by kernel_rfl
theorem n2 : Tryd.prog.globalNamed "loop.example/pub-g03026/pub/aes.sbox0" = some 2 := by kernel_rfl
theorem n3 : Tryd.prog.globalNamed "loop.example/pub-g03026/pub/aes.td1" = some 3 := by kernel_rfl
theorem n4 : Tryd.prog.globalNamed "loop.example/pub-g03026/pub/aes.td2" = some 4 := by kernel_rfl
theorem n5 : Tryd.prog.globalNamed "loop.example/pub-g03026/pub/aes.td3" = some 5 := by kernel_rfl
theorem n6 : Tryd.prog.globalNamed "loop.example/pub-g03026/pub/aes.te0" = some 6 := by kernel_rfl
theorem n7 : Tryd.prog.globalNamed "loop.example/pub-g03026/pub/aes.te1" = some 7 := by kernel_rfl
theorem n8 : Tryd.prog.globalNamed "loop.example/pub-g03026/pub/aes.te2" = some 8 := by kernel_rfl
theorem n9 : Tryd.prog.globalNamed "loop.example/pub-g03026/pub/aes.te3" = some 9 := by kernel_rfl
theorem y0 : (Tryd.prog.globals[0]?).map (·.type) = some 23 := by kernel_rfl
theorem y1 : (Tryd.prog.globals[1]?).map (·.type) = some 81 := by kernel_rfl
theorem y2 : (Tryd.prog.globals[2]?).map (·.type) = some 82 := by kernel_rfl
theorem y3 : (Tryd.prog.globals[3]?).map (·.type) = some 81 := by kernel_rfl
theorem y4 : (Tryd.prog.globals[4]?).map (·.type) = some 81 := by kernel_rfl
theorem y5 : (Tryd.prog.globals[5]?).map (·.type) = some 81 := by kernel_rfl
theorem y6 : (Tryd.prog.globals[6]?).map (·.type) = some 81 := by kernel_rfl
theorem y7 : (Tryd.prog.globals[7]?).map (·.type) = some 81 := by kernel_rfl
theorem y8 : (Tryd.prog.globals[8]?).map (·.type) = some 81 := by kernel_rfl
theorem y9 : (Tryd.prog.globals[9]?).map (·.type) = some 81 := by kernel_rfl
theorem ce5 : Tryd.prog.cellsOf 5 = 1 := by kernel_rfl
theorem ce47 : Tryd.prog.cellsOf 47 = 1 := by kernel_rfl
theorem ce23 : Tryd.prog.cellsOf 23 = 16 := by kernel_rfl
theorem ce81 : Tryd.prog.cellsOf 81 = 256 := by kernel_rfl
theorem ce82 : Tryd.prog.cellsOf 82 = 256 := by kernel_rfl
section
variable {H : Type} {enc : TypeId × Value → H} {w : World} {sp : Nat → Bool} {d : DataW H} {p : List MemPlace}
theorem slice_rd {a : Option Addr} {len cap : Nat} (h : DataW.Trod enc Tryd.prog w 0 sp true 22 (.slice a len cap) d p) : ∃ z : Nat → Int, len ≤ 9223372036854775807 ∧ Rd w a len z := by
  obtain ⟨fuel, hf⟩ := h
  rcases open_ints Tryd.underlying22 Tryd.underlying5 ce5 hf with ⟨hcs, _⟩ | ⟨x, l, c, zs, hcs, _, hl, hm, hz, _, hcell, _⟩
  · simp [Value.cells] at hcs
    obtain ⟨rfl, rfl, rfl⟩ := hcs
    exact ⟨fun _ => 0, by decide, fun h0 => absurd h0 (by decide)⟩
  · simp [Value.cells] at hcs
    obtain ⟨rfl, rfl, rfl⟩ := hcs
    have hz' : len ≤ zs.length := by
      have hq := hz
      split at hq <;> omega
    refine ⟨fun i => zs.getD i 0, by unfold maxLen at hm; omega, fun h0 => ⟨x, rfl, ?_, fun i hi => hcell i (by omega)⟩⟩
    have hb := World.block_lt_of_cell? w (x.add 0) (hcell 0 (by omega))
    have e : (x.add 0).block = x.block := by unfold Addr.add; split <;> rfl
    rwa [e] at hb
theorem iv_open {v : Value} {base : Nat} (hv : Value.okWide Tryd.prog w .any base 23 v) (h : DataW.Trod enc Tryd.prog w 0 sp true 23 v d p) :
    ∃ b : Nat → Nat, (∀ k, b k < 256) ∧ v = .agg (bytesA 16 (fun i => (b (15 - i) : Int))) := by
  simp only [Value.okWide, Tryd.underlying23] at hv
  obtain ⟨cs, rfl, hsz, _⟩ := hv
  obtain ⟨fuel, hf⟩ := h
  obtain ⟨_, ha⟩ := arr_open Tryd.underlying23 Tryd.underlying5 ce5 ce23 hf
  have hc : (Value.agg cs).cells.toList = cs.toList := rfl
  rw [hc] at ha
  refine ⟨fun k => (tz cs.toList (15 - k)).toNat, fun k => ?_, ?_⟩
  · have := bounds_u8 (ha (15 - k) (by omega)).2
    show (tz cs.toList (15 - k)).toNat < 256
    omega
  · congr 1
    apply Array.ext_getElem?
    intro i
    rw [bytesA_get]
    by_cases hi : i < 16
    · have h1 := ha i hi
      have h2 := bounds_u8 h1.2
      have e := h1.1
      rw [Array.getElem?_toList] at e
      rw [e, if_pos hi]
      show some (Value.int .u8 (tz cs.toList i)) = some (Value.int .u8 ((tz cs.toList (15 - (15 - i))).toNat : Int))
      rw [show 15 - (15 - i) = i from by omega, Int.toNat_of_nonneg h2.1]
    · rw [if_neg hi, Array.getElem?_eq_none (by rw [hsz, ce23]; omega)]
end
set_option maxRecDepth 100000 in
theorem far_lifted (os : Os) (started : os.Started) (H : Type) (enc : TypeId × Value → H) :
    ReturnsInHanded {} Tryd.checked os 3 .any (Rows.fnCTRFarSpec.pre6 enc Tryd.prog Tryd.f3 Rows.fnCTRFarRow.domain false) (Rows.fnCTRFarSpec.post enc Tryd.prog Tryd.f3 false true false false) := by
  refine returnsInHanded_of_change (C := Tryd.checked) far_own started (by kernel_rfl) Tryd.func3
    (ChangeSpec.witness6 (enc := enc) (C := Tryd.checked) false ⟨#[], #[.slice none 0 0, .agg (Array.replicate 16 (.int .u8 0)), .slice none 0 0, .int .u64 0], []⟩ 8 (by kernel_rfl) (by kernel_rfl) (by kernel_rfl) (by kernel_rfl)) ?_
  intro W base args ds gs before hval0 hW hcnd _
  have hval : ∀ (j : Nat) t v, Tryd.f3.params[j]? = some t → args[j]? = some v → Value.okWide Tryd.prog W .any base t v := hval0
  have hW' := hW
  obtain ⟨p, q, hA0, hV0, rfl, hfz, hnd⟩ := hW
  have hA : DataW.TrodAll enc Tryd.prog W 0 (fun _ => true) true Tryd.f3.params.toList args.toList ds p := hA0
  have hV : DataW.TrodVars enc Tryd.prog W (fun _ => true) Rows.fnCTRFarSpec.vars gs q := hV0
  have hVk := hV
  rw [Tryd.params3] at hA hval
  obtain ⟨v0, vs0, d0, ds0, p0, q0, hargs, rfl, rfl, h0, r0⟩ := trodAll_cons hA
  obtain ⟨v1, vs1, d1, ds1, p1, q1, rfl, rfl, rfl, h1, r1⟩ := trodAll_cons r0
  obtain ⟨v2, vs2, d2, ds2, p2, q2, rfl, rfl, rfl, h2, r2⟩ := trodAll_cons r1
  obtain ⟨v3, vs3, d3, ds3, p3, q3, rfl, rfl, rfl, h3, r3⟩ := trodAll_cons r2
  obtain ⟨rfl, rfl, rfl⟩ := trodAll_nil r3
  obtain rfl : args = #[v0, v1, v2, v3] := by cases args; simp_all
  obtain ⟨g0, gs0, x0, rfl, hV1, f0, c0, _⟩ := var_open 0 n0 y0 Tryd.underlying23 Tryd.underlying5 ce5 ce23 hV
  obtain ⟨g1, gs1, x1, rfl, hV2, f1, c1, b1⟩ := var_open 2 n2 y2 Tryd.underlying82 Tryd.underlying5 ce5 ce82 hV1
  obtain ⟨g2, gs2, x2, rfl, hV3, f2, c2, _⟩ := var_open 1 n1 y1 Tryd.underlying81 Tryd.underlying47 ce47 ce81 hV2
  obtain ⟨g3, gs3, x3, rfl, hV4, f3, c3', _⟩ := var_open 3 n3 y3 Tryd.underlying81 Tryd.underlying47 ce47 ce81 hV3
  obtain ⟨g4, gs4, x4, rfl, hV5, f4, c4', _⟩ := var_open 4 n4 y4 Tryd.underlying81 Tryd.underlying47 ce47 ce81 hV4
  obtain ⟨g5, gs5, x5, rfl, hV6, f5, c5', _⟩ := var_open 5 n5 y5 Tryd.underlying81 Tryd.underlying47 ce47 ce81 hV5
  obtain ⟨g6, gs6, x6, rfl, hV7, f6, c6', _⟩ := var_open 6 n6 y6 Tryd.underlying81 Tryd.underlying47 ce47 ce81 hV6
  obtain ⟨g7, gs7, x7, rfl, hV8, f7, c7', _⟩ := var_open 7 n7 y7 Tryd.underlying81 Tryd.underlying47 ce47 ce81 hV7
  obtain ⟨g8, gs8, x8, rfl, hV9, f8, c8', _⟩ := var_open 8 n8 y8 Tryd.underlying81 Tryd.underlying47 ce47 ce81 hV8
  obtain ⟨g9, gs9, x9, rfl, hV10, f9, c9', _⟩ := var_open 9 n9 y9 Tryd.underlying81 Tryd.underlying47 ce47 ce81 hV9
  obtain ⟨rfl, _⟩ := trodVars_none hV10
  have hT : TabOK ⟨f6, f7, f8, f9, f2, f3, f4, f5, f1, f0⟩ W := ⟨c6', c7', c8', c9', c2, c3', c4', c5', c1, c0, fun i => bounds_u8 (b1 i)⟩
  obtain ⟨a0, len0, cap0, rfl⟩ := okWide_slice Tryd.underlying22 (hval 0 22 v0 rfl rfl)
  obtain ⟨z0, hl0, rd0⟩ := slice_rd h0
  obtain ⟨b, hb, rfl⟩ := iv_open (hval 1 23 v1 rfl rfl) h1
  obtain ⟨a2, len2, cap2, rfl⟩ := okWide_slice Tryd.underlying22 (hval 2 22 v2 rfl rfl)
  obtain ⟨z2, hl2, rd2⟩ := slice_rd h2
  have lt0 : ∀ x ∈ p0, x.block < W.heap.size := by obtain ⟨m, hm⟩ := h0; exact DataW.trod_lt m _ _ _ hm
  have lt1 : ∀ x ∈ p1, x.block < W.heap.size := by obtain ⟨m, hm⟩ := h1; exact DataW.trod_lt m _ _ _ hm
  have lt2 : ∀ x ∈ p2, x.block < W.heap.size := by obtain ⟨m, hm⟩ := h2; exact DataW.trod_lt m _ _ _ hm
  have k3 := h3
  have lt3 : ∀ x ∈ p3, x.block < W.heap.size := by obtain ⟨m, hm⟩ := k3; exact DataW.trod_lt m _ _ _ hm
  obtain ⟨a3, rfl, rfl, rfl, w3⟩ := open_int Tryd.underlying24 (hval 3 24 v3 rfl rfl) h3
  have hb3 := bounds_u64 w3
  obtain ⟨bl, rfl⟩ : ∃ bl : Nat, a3 = (bl : Int) := ⟨a3.toNat, (Int.toNat_of_nonneg hb3.1).symm⟩
  clear hA0 hval0
  refine (c3 _ W hT a0 len0 cap0 hl0 z0 rd0 b hb a2 len2 cap2 hl2 z2 rd2 bl (by omega)).mono fun e W' ⟨he, hg⟩ => ?_
  subst he
  have bel : Below W.heap.size W W' := below_of_grown hg (Nat.le_refl _) (by simp)
  have hvars : DataW.TrodVars enc Tryd.prog W' (fun b => decide (b < W.heap.size)) Rows.fnCTRFarSpec.vars [g0, g1, g2, g3, g4, g5, g6, g7, g8, g9] q := by
    refine vars_keep bel.block ?_ hVk
    intro m hm
    simp only [Rows.fnCTRFarSpec, List.mem_cons, List.not_mem_nil, or_false] at hm
    rcases hm with rfl | rfl | rfl | rfl | rfl | rfl | rfl | rfl | rfl | rfl
    · exact ⟨0, 23, 16, 5, .u8, n0, y0, Tryd.underlying23, Tryd.underlying5⟩
    · exact ⟨2, 82, 256, 5, .u8, n2, y2, Tryd.underlying82, Tryd.underlying5⟩
    · exact ⟨1, 81, 256, 47, .u32, n1, y1, Tryd.underlying81, Tryd.underlying47⟩
    · exact ⟨3, 81, 256, 47, .u32, n3, y3, Tryd.underlying81, Tryd.underlying47⟩
    · exact ⟨4, 81, 256, 47, .u32, n4, y4, Tryd.underlying81, Tryd.underlying47⟩
    · exact ⟨5, 81, 256, 47, .u32, n5, y5, Tryd.underlying81, Tryd.underlying47⟩
    · exact ⟨6, 81, 256, 47, .u32, n6, y6, Tryd.underlying81, Tryd.underlying47⟩
    · exact ⟨7, 81, 256, 47, .u32, n7, y7, Tryd.underlying81, Tryd.underlying47⟩
    · exact ⟨8, 81, 256, 47, .u32, n8, y8, Tryd.underlying81, Tryd.underlying47⟩
    · exact ⟨9, 81, 256, 47, .u32, n9, y9, Tryd.underlying81, Tryd.underlying47⟩
  have t0 := Below.trod far_laid (by kernel_rfl) (of_decide_eq_true (by kernel_rfl)) h0 bel lt0
  have t1 := Below.trod far_laid (by kernel_rfl) (of_decide_eq_true (by kernel_rfl)) h1 bel lt1
  have t2 := Below.trod far_laid (by kernel_rfl) (of_decide_eq_true (by kernel_rfl)) h2 bel lt2
  have t3 := Below.trod far_laid (by kernel_rfl) (of_decide_eq_true (by kernel_rfl)) k3 bel lt3
  exact ⟨_, rfl, _, _, _, [], _, q, hW', trodAll_mk1 (shut_bool Tryd.underlying4 _), trodAll_cons_mk t0 (trodAll_cons_mk t1 (trodAll_cons_mk t2 (trodAll_cons_mk t3 trodAll_mk0))), hvars, bel.frame _, fun h => by cases h⟩
theorem far_over : Rows.fnCTRFarRow.holds Tryd.pinned (OpenSpec.ofChange Rows.fnCTRFarSpec) :=
  OpenClaim.holds_of_wide 3 Tryd.f3 rfl rfl rfl rfl rfl rfl rfl ⟨rfl, rfl, rfl, rfl, rfl⟩ rfl rfl rfl rfl rfl (by kernel_rfl) Tryd.func3 (by kernel_rfl)
    (of_decide_eq_true (by kernel_rfl)) (by unfold Func.isWrapper; first | (rw [if_pos (by decide +kernel)]; kernel_rfl) | (rw [if_neg (by decide +kernel)]; exact ⟨rfl, rfl⟩))
    (fun os started H enc _ => far_lifted os started H enc)
/-- The statement. -/
theorem fnCTRFar_holds : Rows.FnCTRFarSaid := far_over
#print axioms fnCTRFar_holds
end Go.Proofs.YthdbedfofccbmaaDoor
