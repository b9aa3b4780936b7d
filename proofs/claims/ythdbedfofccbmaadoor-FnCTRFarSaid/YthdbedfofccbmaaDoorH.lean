/-
  The contract of the key stream at an offset of whole blocks.
-/
import Derived.Test.YthdbedfofccbmaaDoorG
import Derived.Deep.DeepCutAuto
open Go Go.RowKit
namespace Go.Proofs.YthdbedfofccbmaaDoor
theorem addr_add (D p K : Nat) : (⟨D, p, none⟩ : Addr).add K = ⟨D, p + K, none⟩ := by unfold Addr.add; split <;> simp_all
theorem slice_cut (D p r c K : Nat) (hK : K ≤ r) : ∃ p', (0 < r - K → r ≤ c → p' = p + K) ∧
    ∀ w, (Instr.slice 22 (.slice (some ⟨D, p, none⟩) r c) (some (.int .i64 (K : Int))) none none).run Tryd.prog w = .ok (.slice (some ⟨D, p', none⟩) (r - K) (c - K)) w := by
  obtain ⟨i0, hi, hz0, hz1, hz2⟩ := info_parts u8_info
  refine ⟨if c = K then p else p + K, fun h h2 => by rw [if_neg (by omega)], fun w => ?_⟩
  have h1 : (0 : Int) ≤ K ∧ (K : Int) ≤ r := ⟨by omega, by omega⟩
  by_cases hc : c = K
  · simp [Instr.slice, run_underlying Tryd.underlying22, Instr.sliceBounds, Instr.sliceBound, asIntOf, sizeOf, typeInfo, hi, hc, hK]
  · simp [Instr.slice, run_underlying Tryd.underlying22, Instr.sliceBounds, Instr.sliceBound, asIntOf, sizeOf, typeInfo, hi, hz1, hc, hK, addr_add]
theorem u64_wrap_nat (b : Nat) (h : b < 2 ^ 64) : IntKind.u64.wrap (b : Int) = (b : Int) := by
  have e : IntKind.u64.wrap (b : Int) = (b : Int) % ((2 ^ 64 : Nat) : Int) := rfl
  rw [e]
  omega
def lenOf : Value → Nat | .slice _ n _ => n | _ => 0
/-- Where the key stream stands, and what has been written: pos bytes are done, rem bytes (fewer than M) are left. -/
def XS (T : Tabs) (R : Nat) (ek : Nat → Int) (w0 : World) (c0 n D S : Nat) (f s : Nat → Int) (M : Nat) (dv sv lo hi : Value) (wx : World) : Prop :=
  ∃ pos rem pd ps dc sc : Nat, pos + rem = n ∧ pos % 16 = 0 ∧ rem < M ∧ (0 < rem → pd = pos ∧ ps = pos) ∧ rem ≤ dc ∧ rem ≤ sc ∧ (dc : Int) ≤ 9223372036854775807 ∧ (sc : Int) ≤ 9223372036854775807 ∧
    dv = .slice (some ⟨D, pd, none⟩) rem dc ∧ sv = .slice (some ⟨S, ps, none⟩) rem sc ∧ lo = .int .u64 (lo64 (c0 + pos / 16)) ∧ hi = .int .u64 (hi64 (c0 + pos / 16)) ∧
    UpB w0 wx D 5 n (wr f 0 pos (fun i => bits .xor .u8 (s i) (kb T R ek (c0 + i / 16) (i % 16))))
theorem XS_step (T : Tabs) (R : Nat) (ek : Nat → Int) (w0 wx wx' : World) (c1 n D S : Nat) (f s : Nat → Int) (K : Nat) (hK16 : K % 16 = 0) {pos rem pd ps dc sc : Nat} (h1 : pos + rem = n) (h2 : pos % 16 = 0) (hKr : K ≤ rem) (hK0 : 0 < K)
    (h3 : 0 < rem → pd = pos ∧ ps = pos) (hdc : rem ≤ dc) (hsc : rem ≤ sc) (hdm : (dc : Int) ≤ 9223372036854775807) (hsm : (sc : Int) ≤ 9223372036854775807)
    (hU : UpB w0 wx D 5 n (wr f 0 pos (fun i => bits .xor .u8 (s i) (kb T R ek (c1 + i / 16) (i % 16)))))
    (hU' : UpB wx wx' D 5 n (wr (wr f 0 pos (fun i => bits .xor .u8 (s i) (kb T R ek (c1 + i / 16) (i % 16)))) pd K (fun i => bits .xor .u8 (s (ps + i)) (kb T R ek (c1 + pos / 16 + i / 16) (i % 16)))))
    (pd' ps' : Nat) (hpd' : 0 < rem - K → rem ≤ dc → pd' = pd + K) (hps' : 0 < rem - K → rem ≤ sc → ps' = ps + K) (M' : Nat) (hM : rem - K < M') :
    XS T R ek w0 c1 n D S f s M' (.slice (some ⟨D, pd', none⟩) (rem - K) (dc - K)) (.slice (some ⟨S, ps', none⟩) (rem - K) (sc - K)) (.int .u64 (lo64 (c1 + pos / 16 + K / 16))) (.int .u64 (hi64 (c1 + pos / 16 + K / 16))) wx' := by
  obtain ⟨rfl, rfl⟩ := h3 (by omega)
  refine ⟨ps + K, rem - K, pd', ps', dc - K, sc - K, by omega, by omega, hM, fun h => ⟨hpd' h hdc, hps' h hsc⟩, by omega, by omega, by omega, by omega, rfl, rfl, ?_, ?_, ?_⟩
  · rw [show c1 + (ps + K) / 16 = c1 + ps / 16 + K / 16 from by omega]
  · rw [show c1 + (ps + K) / 16 = c1 + ps / 16 + K / 16 from by omega]
  · refine (hU.trans hU').congr (fun i _ => ?_)
    unfold wr
    by_cases hi : ps ≤ i ∧ i < ps + K
    · rw [if_pos hi, if_pos (by omega)]
      show bits .xor .u8 (s (ps + (i - ps))) (kb T R ek (c1 + ps / 16 + (i - ps) / 16) ((i - ps) % 16)) = bits .xor .u8 (s (i - 0)) (kb T R ek (c1 + (i - 0) / 16) ((i - 0) % 16))
      rw [show ps + (i - ps) = i - 0 from by omega, show c1 + ps / 16 + (i - ps) / 16 = c1 + (i - 0) / 16 from by omega, show (i - ps) % 16 = (i - 0) % 16 from by omega]
    · rw [if_neg hi]
      by_cases hi2 : i < ps
      · rw [if_pos (by omega), if_pos (by omega)]
      · rw [if_neg (by omega), if_neg (by omega)]
theorem z16 : (#[.int .u8 0, .int .u8 0, .int .u8 0, .int .u8 0, .int .u8 0, .int .u8 0, .int .u8 0, .int .u8 0, .int .u8 0, .int .u8 0, .int .u8 0, .int .u8 0, .int .u8 0, .int .u8 0, .int .u8 0, .int .u8 0] : Array Value) = bytesA 16 (fun _ => 0) := by rfl
theorem tail_in (wc : World) (S ps rem sc : Nat) (hr0 : 0 < rem) (hr : rem < 16) (s : Nat → Int) (hs : ∀ i, i < rem → wc.cell? ⟨S, ps + i, none⟩ = some (.int .u8 (s (ps + i)))) (hS : S < wc.heap.size) :
    ∃ w1, (Builtin.copy_ #[22, 22] 3 #[.slice (some ⟨wc.heap.size, 0, none⟩) 16 16, .slice (some ⟨S, ps, none⟩) rem sc]).run Tryd.prog
        ((wc.alloc (Obj.cells #[.int .u8 0, .int .u8 0, .int .u8 0, .int .u8 0, .int .u8 0, .int .u8 0, .int .u8 0, .int .u8 0, .int .u8 0, .int .u8 0, .int .u8 0, .int .u8 0, .int .u8 0, .int .u8 0, .int .u8 0, .int .u8 0] 23)).alloc (Obj.cells #[.int .u8 0, .int .u8 0, .int .u8 0, .int .u8 0, .int .u8 0, .int .u8 0, .int .u8 0, .int .u8 0, .int .u8 0, .int .u8 0, .int .u8 0, .int .u8 0, .int .u8 0, .int .u8 0, .int .u8 0, .int .u8 0] 23)) = .ok (.int .i64 rem) w1 ∧
      Byt w1 wc.heap.size 23 16 (wr (fun _ => 0) 0 rem (fun i => s (ps + i))) ∧ wc.heap.size + 2 ≤ w1.heap.size ∧ wc.grownBy w1 none ∧ Byt w1 (wc.heap.size + 1) 23 16 (fun _ => 0) := by
  rw [z16]
  have b1 : Byt (wc.alloc (Obj.cells (bytesA 16 (fun _ => 0)) 23)) wc.heap.size 23 16 (fun _ => 0) := Blk.new wc 23 _
  have b2 : Byt ((wc.alloc (Obj.cells (bytesA 16 (fun _ => 0)) 23)).alloc (Obj.cells (bytesA 16 (fun _ => 0)) 23)) wc.heap.size 23 16 (fun _ => 0) := Blk.alloc b1 _
  have hsz : (wc.alloc (Obj.cells (bytesA 16 (fun _ => 0)) 23)).heap.size = wc.heap.size + 1 := by simp
  have b3 : Byt ((wc.alloc (Obj.cells (bytesA 16 (fun _ => 0)) 23)).alloc (Obj.cells (bytesA 16 (fun _ => 0)) 23)) (wc.heap.size + 1) 23 16 (fun _ => 0) := by
    have := Blk.new (wc.alloc (Obj.cells (bytesA 16 (fun _ => 0)) 23)) 23 (bytesA 16 (fun _ => 0))
    rw [hsz] at this
    exact this
  have gg : wc.grownBy ((wc.alloc (Obj.cells (bytesA 16 (fun _ => 0)) 23)).alloc (Obj.cells (bytesA 16 (fun _ => 0)) 23)) none :=
    grownBy_trans (World.grownBy_alloc wc _ none) (World.grownBy_alloc _ _ none)
  have hsz2 : ((wc.alloc (Obj.cells (bytesA 16 (fun _ => 0)) 23)).alloc (Obj.cells (bytesA 16 (fun _ => 0)) 23)).heap.size = wc.heap.size + 2 := by simp
  generalize (wc.alloc (Obj.cells (bytesA 16 (fun _ => 0)) 23)).alloc (Obj.cells (bytesA 16 (fun _ => 0)) 23) = W at *
  obtain ⟨w1, hr1, U⟩ := run_copyB W 3 wc.heap.size 0 16 16 S ps rem sc rem 23 16 (fun _ => 0) (fun i => s (ps + i)) (by show rem = Nat.min rem 16; simp only [Nat.min_def]; split <;> omega) b2 (by omega)
    (fun i hi => (World.cell?_of_block (gg.block S hS (by simp))).trans (hs i hi))
  refine ⟨w1, hr1, U.1, by have := U.2.size; omega, grownBy_new gg U.2 (Nat.le_refl _), b3.keep U.2 (fun e => by injection e with e; omega)⟩
theorem tail_fin (T : Tabs) (R : Nat) (ek : Nat → Int) (c1 n : Nat) (f s : Nat → Int) {pos rem pd ps : Nat} (h1 : pos + rem = n) (h2 : pos % 16 = 0) (hr0 : 0 < rem) (hr : rem < 16) (h4 : pd = pos) (h5 : ps = pos) (i : Nat) (hi : i < n) :
    wr (wr f 0 pos (fun i => bits .xor .u8 (s i) (kb T R ek (c1 + i / 16) (i % 16)))) pd rem
      (wr (fun _ => 0) 0 16 (fun i => bits .xor .u8 (wr (fun _ => 0) 0 rem (fun i => s (ps + i)) i) (kb T R ek (c1 + pos / 16 + i / 16) (i % 16)))) i =
    bits .xor .u8 (s i) (kb T R ek (c1 + i / 16) (i % 16)) := by
  subst h4
  subst h5
  unfold wr
  by_cases h : ps ≤ i
  · rw [if_pos (by omega), if_pos (by omega)]
    show bits .xor .u8 (if 0 ≤ i - ps - 0 ∧ i - ps - 0 < 0 + rem then s (ps + (i - ps - 0 - 0)) else 0) (kb T R ek (c1 + ps / 16 + (i - ps - 0) / 16) ((i - ps - 0) % 16)) = _
    rw [if_pos (by omega), show ps + (i - ps - 0 - 0) = i from by omega, show c1 + ps / 16 + (i - ps - 0) / 16 = c1 + i / 16 from by omega, show (i - ps - 0) % 16 = i % 16 from by omega]
  · rw [if_neg (by omega), if_pos (by omega)]
    rfl
set_option maxHeartbeats 4000000 in
set_option maxRecDepth 100000 in
theorem c13 (T : Tabs) (w : World) (K R : Nat) (ek : Nat → Int) (hE : Env T w K R ek) (c0 bl off : Nat) (hbl : bl < 2 ^ 64) (hoff : off = 16 * bl)
    (hlo : w.cell? ⟨K, 121, none⟩ = some (.int .u64 (lo64 c0))) (hhi : w.cell? ⟨K, 122, none⟩ = some (.int .u64 (hi64 c0)))
    (D n dc : Nat) (f : Nat → Int) (hD : Byt w D 5 n f) (hdc : n ≤ dc) (hdm : (dc : Int) ≤ 9223372036854775807) (hn : n ≤ 16384)
    (S sc : Nat) (s : Nat → Int) (hs : ∀ i, i < n → w.cell? ⟨S, i, none⟩ = some (.int .u8 (s i))) (hsc : n ≤ sc) (hsm : (sc : Int) ≤ 9223372036854775807) (hSD : S ≠ D) (hKD : K ≠ D) (hD10 : 10 ≤ D) :
    Calls Tryd.prog 13 #[.pointer (some ⟨K, 0, none⟩), .slice (some ⟨D, 0, none⟩) n dc, .slice (some ⟨S, 0, none⟩) n sc, .int .u64 (off : Int)] w
      fun e w' => e = .returned (.tuple #[]) ∧ UpB w w' D 5 n (fun i => bits .xor .u8 (s i) (kb T R ek (c0 + bl + i / 16) (i % 16))) := by
  have q1 : (off : Int) / 16 = (bl : Int) := by omega
  have q2 : (off : Int) % 16 = 0 := by omega
  have q3 : IntKind.u64.wrap (bl : Int) = (bl : Int) := u64_wrap_nat bl hbl
  have HE := Lib.hid hE
  have HD := Lib.hid hD
  have HS := Lib.hid hs
  have Hb := Lib.hid hbl
  clear hE hD hs hbl hoff
  go_enter Tryd.func13, Tryd.ntmps13
  go_wp2
  go_quiet ((go_at_call 17; exact (c17 _ c0 bl Hb.out).mono fun e w' ⟨he, hw⟩ => ⟨he, _, hw.symm⟩))
  go_wp2_with (fail)
  clear q1 q2 q3
  go_loopw [1, 2, 8, 9] (fun dv sv lo hi wr => XS T R ek w (c0 + bl) n D S f s 16385 dv sv lo hi wr) (fun dv _ _ _ _ => lenOf dv)
  case atStart =>
    exact ⟨0, n, 0, 0, dc, sc, by omega, rfl, by omega, fun _ => ⟨rfl, rfl⟩, hdc, hsc, hdm, hsm, rfl, rfl, rfl, rfl, ((UpB.start HD.out).drewN nq).congr (fun i _ => by unfold wr; rw [if_neg (by omega)])⟩
  case round =>
    obtain ⟨pos, rem, pd, ps, dc', sc', h1, h2, h3, h4, h5, h6, h7, h8, rfl, rfl, rfl, rfl, hU⟩ := hrel
    have H1 := Lib.hid h1
    have H2 := Lib.hid h2
    have H4 := Lib.hid h4
    have HU := Lib.hid hU
    clear h1 h2 h4 hU
    by_cases hge : 128 ≤ rem
    · have ar1 : ∀ w, (Instr.arrayAt 100 (.slice (some ⟨D, pd, none⟩) rem dc')).run Tryd.prog w = .ok (.pointer (some ⟨D, pd, none⟩)) w := fun w => run_arrayAt w 100 _ 128 _ rem dc' Tryd.underlying100 hge
      have ar2 : ∀ w, (Instr.arrayAt 100 (.slice (some ⟨S, ps, none⟩) rem sc')).run Tryd.prog w = .ok (.pointer (some ⟨S, ps, none⟩)) w := fun w => run_arrayAt w 100 _ 128 _ rem sc' Tryd.underlying100 hge
      obtain ⟨pd', hp1, sl1⟩ := slice_cut D pd rem dc' 128 hge
      obtain ⟨ps', hp2, sl2⟩ := slice_cut S ps rem sc' 128 hge
      have sl1' : ∀ w, (Instr.slice 22 (.slice (some ⟨D, pd, none⟩) rem dc') (some (.int .i64 128)) none none).run Tryd.prog w = .ok (.slice (some ⟨D, pd', none⟩) (rem - 128) (dc' - 128)) w := sl1
      have sl2' : ∀ w, (Instr.slice 22 (.slice (some ⟨S, ps, none⟩) rem sc') (some (.int .i64 128)) none none).run Tryd.prog w = .ok (.slice (some ⟨S, ps', none⟩) (rem - 128) (sc' - 128)) w := sl2
      have HP1 := Lib.hid hp1
      have HP2 := Lib.hid hp2
      clear sl1 sl2 hp1 hp2
      go_wp2_with (fail)
      go_still_tail 9, (by kernel_rfl)
      go_wp2_with (fail)
      refine (c19 T _ K R ek (by exact Env.drew (HE.out.grown HU.out.2 (fun g e => by injection e with e; omega) (fun e => by injection e with e; exact hKD e))) (c0 + bl + pos / 16) D pd 5 n _ (by exact HU.out.1) (by have := H1.out; have := H4.out; omega) S ps (fun i => s (ps + i))
        (by intro i hi; exact (World.cell?_of_block (HU.out.2.block S (World.block_lt_of_cell? w ⟨S, ps + i, none⟩ (HS.out (ps + i) (by have := H1.out; have := H4.out; omega))) (fun e => by injection e with e; exact hSD e))).trans (HS.out (ps + i) (by have := H1.out; have := H4.out; omega)))).mono ?_
      rintro e w2 ⟨rfl, U2⟩
      have V2 := Lib.hid U2
      clear U2 ar1 ar2
      go_wp2_with (fail)
      refine (c17 _ (c0 + bl + pos / 16) 8 (by omega)).mono ?_
      rintro e w2' ⟨rfl, rfl⟩
      go_wp2_with (fail)
      go_roundw
      case rel => exact XS_step T R ek w wr w2 (c0 + bl) n D S f s 128 rfl H1.out H2.out hge (by omega) H4.out h5 h6 h7 h8 HU.out ⟨V2.out.1, grownBy_trans (grownBy_drew _ _) V2.out.2⟩ pd' ps' HP1.out HP2.out 16385 (by omega)
      case measure => simp [lenOf]; omega
    · have hlt : rem < 128 := by omega
      have hge0 : decide (128 ≤ rem) = false := by simp; omega
      go_upto_if 95 with fail
      go_cut [1, 2, 8, 9] from 16 (fun dv sv lo hi wz => XS T R ek w (c0 + bl) n D S f s 64 dv sv lo hi wz)
      case first =>
        by_cases hge : 64 ≤ rem
        · have ar1 : ∀ w, (Instr.arrayAt 101 (.slice (some ⟨D, pd, none⟩) rem dc')).run Tryd.prog w = .ok (.pointer (some ⟨D, pd, none⟩)) w := fun w => run_arrayAt w 101 _ 64 _ rem dc' Tryd.underlying101 hge
          have ar2 : ∀ w, (Instr.arrayAt 101 (.slice (some ⟨S, ps, none⟩) rem sc')).run Tryd.prog w = .ok (.pointer (some ⟨S, ps, none⟩)) w := fun w => run_arrayAt w 101 _ 64 _ rem sc' Tryd.underlying101 hge
          obtain ⟨pd', hp1, sl1⟩ := slice_cut D pd rem dc' 64 hge
          obtain ⟨ps', hp2, sl2⟩ := slice_cut S ps rem sc' 64 hge
          have sl1' : ∀ w, (Instr.slice 22 (.slice (some ⟨D, pd, none⟩) rem dc') (some (.int .i64 64)) none none).run Tryd.prog w = .ok (.slice (some ⟨D, pd', none⟩) (rem - 64) (dc' - 64)) w := sl1
          have sl2' : ∀ w, (Instr.slice 22 (.slice (some ⟨S, ps, none⟩) rem sc') (some (.int .i64 64)) none none).run Tryd.prog w = .ok (.slice (some ⟨S, ps', none⟩) (rem - 64) (sc' - 64)) w := sl2
          have HP1 := Lib.hid hp1
          have HP2 := Lib.hid hp2
          clear sl1 sl2 hp1 hp2
          go_wp2_with (fail)
          go_still_tail 9, (by kernel_rfl)
          go_wp2_with (fail)
          refine (c20 T _ K R ek (by exact Env.drew (HE.out.grown HU.out.2 (fun g e => by injection e with e; omega) (fun e => by injection e with e; exact hKD e))) (c0 + bl + pos / 16) D pd 5 n _ (by exact HU.out.1) (by have := H1.out; have := H4.out; omega) S ps (fun i => s (ps + i))
            (by intro i hi; exact (World.cell?_of_block (HU.out.2.block S (World.block_lt_of_cell? w ⟨S, ps + i, none⟩ (HS.out (ps + i) (by have := H1.out; have := H4.out; omega))) (fun e => by injection e with e; exact hSD e))).trans (HS.out (ps + i) (by have := H1.out; have := H4.out; omega)))).mono ?_
          rintro e w2 ⟨rfl, U2⟩
          have V2 := Lib.hid U2
          clear U2 ar1 ar2
          go_wp2_with (fail)
          refine (c17 _ (c0 + bl + pos / 16) 4 (by omega)).mono ?_
          rintro e w2' ⟨rfl, rfl⟩
          go_wp2_with (fail)
          go_meet
          case rel => exact XS_step T R ek w wr w2 (c0 + bl) n D S f s 64 rfl H1.out H2.out hge (by omega) H4.out h5 h6 h7 h8 HU.out ⟨V2.out.1, grownBy_trans (grownBy_drew _ _) V2.out.2⟩ pd' ps' HP1.out HP2.out 64 (by omega)
        · go_wp2_with (fail)
          go_meet
          case rel => exact ⟨pos, rem, pd, ps, dc', sc', H1.out, H2.out, by omega, H4.out, h5, h6, h7, h8, rfl, rfl, rfl, rfl, HU.out⟩
      case rest =>
        clear HU H1 H2 H4 h3 h5 h6 h7 h8
        obtain ⟨pos, rem, pd, ps, dc', sc', h1, h2, h3, h4, h5, h6, h7, h8, rfl, rfl, rfl, rfl, hU⟩ := hcut
        have H1 := Lib.hid h1
        have H2 := Lib.hid h2
        have H4 := Lib.hid h4
        have HU := Lib.hid hU
        clear h1 h2 h4 hU
        go_upto_if 118 with fail
        go_cut [1, 2, 8, 9] from 16 (fun dv sv lo hi wz => XS T R ek w (c0 + bl) n D S f s 32 dv sv lo hi wz)
        case first =>
          by_cases hge : 32 ≤ rem
          · have ar1 : ∀ w, (Instr.arrayAt 102 (.slice (some ⟨D, pd, none⟩) rem dc')).run Tryd.prog w = .ok (.pointer (some ⟨D, pd, none⟩)) w := fun w => run_arrayAt w 102 _ 32 _ rem dc' Tryd.underlying102 hge
            have ar2 : ∀ w, (Instr.arrayAt 102 (.slice (some ⟨S, ps, none⟩) rem sc')).run Tryd.prog w = .ok (.pointer (some ⟨S, ps, none⟩)) w := fun w => run_arrayAt w 102 _ 32 _ rem sc' Tryd.underlying102 hge
            obtain ⟨pd', hp1, sl1⟩ := slice_cut D pd rem dc' 32 hge
            obtain ⟨ps', hp2, sl2⟩ := slice_cut S ps rem sc' 32 hge
            have sl1' : ∀ w, (Instr.slice 22 (.slice (some ⟨D, pd, none⟩) rem dc') (some (.int .i64 32)) none none).run Tryd.prog w = .ok (.slice (some ⟨D, pd', none⟩) (rem - 32) (dc' - 32)) w := sl1
            have sl2' : ∀ w, (Instr.slice 22 (.slice (some ⟨S, ps, none⟩) rem sc') (some (.int .i64 32)) none none).run Tryd.prog w = .ok (.slice (some ⟨S, ps', none⟩) (rem - 32) (sc' - 32)) w := sl2
            have HP1 := Lib.hid hp1
            have HP2 := Lib.hid hp2
            clear sl1 sl2 hp1 hp2
            go_wp2_with (fail)
            go_still_tail 9, (by kernel_rfl)
            go_wp2_with (fail)
            refine (c21 T _ K R ek (by exact Env.drew (HE.out.grown HU.out.2 (fun g e => by injection e with e; omega) (fun e => by injection e with e; exact hKD e))) (c0 + bl + pos / 16) D pd 5 n _ (by exact HU.out.1) (by have := H1.out; have := H4.out; omega) S ps (fun i => s (ps + i))
              (by intro i hi; exact (World.cell?_of_block (HU.out.2.block S (World.block_lt_of_cell? w ⟨S, ps + i, none⟩ (HS.out (ps + i) (by have := H1.out; have := H4.out; omega))) (fun e => by injection e with e; exact hSD e))).trans (HS.out (ps + i) (by have := H1.out; have := H4.out; omega)))).mono ?_
            rintro e w2 ⟨rfl, U2⟩
            have V2 := Lib.hid U2
            clear U2 ar1 ar2
            go_wp2_with (fail)
            refine (c17 _ (c0 + bl + pos / 16) 2 (by omega)).mono ?_
            rintro e w2' ⟨rfl, rfl⟩
            go_wp2_with (fail)
            go_meet
            case rel => exact XS_step T R ek w wc w2 (c0 + bl) n D S f s 32 rfl H1.out H2.out hge (by omega) H4.out h5 h6 h7 h8 HU.out ⟨V2.out.1, grownBy_trans (grownBy_drew _ _) V2.out.2⟩ pd' ps' HP1.out HP2.out 32 (by omega)
          · go_wp2_with (fail)
            go_meet
            case rel => exact ⟨pos, rem, pd, ps, dc', sc', H1.out, H2.out, by omega, H4.out, h5, h6, h7, h8, rfl, rfl, rfl, rfl, HU.out⟩
        case rest =>
          clear HU H1 H2 H4 h3 h5 h6 h7 h8
          obtain ⟨pos, rem, pd, ps, dc', sc', h1, h2, h3, h4, h5, h6, h7, h8, rfl, rfl, rfl, rfl, hU⟩ := hcut
          have H1 := Lib.hid h1
          have H2 := Lib.hid h2
          have H4 := Lib.hid h4
          have HU := Lib.hid hU
          clear h1 h2 h4 hU
          go_upto_if 141 with fail
          go_cut [1, 2, 8, 9] from 16 (fun dv sv lo hi wz => XS T R ek w (c0 + bl) n D S f s 16 dv sv lo hi wz)
          case first =>
            by_cases hge : 16 ≤ rem
            · have ar1 : ∀ w, (Instr.arrayAt 23 (.slice (some ⟨D, pd, none⟩) rem dc')).run Tryd.prog w = .ok (.pointer (some ⟨D, pd, none⟩)) w := fun w => run_arrayAt w 23 _ 16 _ rem dc' Tryd.underlying23 hge
              have ar2 : ∀ w, (Instr.arrayAt 23 (.slice (some ⟨S, ps, none⟩) rem sc')).run Tryd.prog w = .ok (.pointer (some ⟨S, ps, none⟩)) w := fun w => run_arrayAt w 23 _ 16 _ rem sc' Tryd.underlying23 hge
              obtain ⟨pd', hp1, sl1⟩ := slice_cut D pd rem dc' 16 hge
              obtain ⟨ps', hp2, sl2⟩ := slice_cut S ps rem sc' 16 hge
              have sl1' : ∀ w, (Instr.slice 22 (.slice (some ⟨D, pd, none⟩) rem dc') (some (.int .i64 16)) none none).run Tryd.prog w = .ok (.slice (some ⟨D, pd', none⟩) (rem - 16) (dc' - 16)) w := sl1
              have sl2' : ∀ w, (Instr.slice 22 (.slice (some ⟨S, ps, none⟩) rem sc') (some (.int .i64 16)) none none).run Tryd.prog w = .ok (.slice (some ⟨S, ps', none⟩) (rem - 16) (sc' - 16)) w := sl2
              have HP1 := Lib.hid hp1
              have HP2 := Lib.hid hp2
              clear sl1 sl2 hp1 hp2
              go_wp2_with (fail)
              go_still_tail 9, (by kernel_rfl)
              go_wp2_with (fail)
              refine (c18 T _ K R ek (by exact Env.drew (HE.out.grown HU.out.2 (fun g e => by injection e with e; omega) (fun e => by injection e with e; exact hKD e))) (c0 + bl + pos / 16) D pd 5 n _ (by exact HU.out.1) (by have := H1.out; have := H4.out; omega) S ps (fun i => s (ps + i))
                (by intro i hi; exact (World.cell?_of_block (HU.out.2.block S (World.block_lt_of_cell? w ⟨S, ps + i, none⟩ (HS.out (ps + i) (by have := H1.out; have := H4.out; omega))) (fun e => by injection e with e; exact hSD e))).trans (HS.out (ps + i) (by have := H1.out; have := H4.out; omega)))).mono ?_
              rintro e w2 ⟨rfl, U2⟩
              have V2 := Lib.hid U2
              clear U2 ar1 ar2
              go_wp2_with (fail)
              refine (c17 _ (c0 + bl + pos / 16) 1 (by omega)).mono ?_
              rintro e w2' ⟨rfl, rfl⟩
              go_wp2_with (fail)
              go_meet
              case rel => exact XS_step T R ek w wc w2 (c0 + bl) n D S f s 16 rfl H1.out H2.out hge (by omega) H4.out h5 h6 h7 h8 HU.out ⟨V2.out.1, grownBy_trans (grownBy_drew _ _) V2.out.2⟩ pd' ps' HP1.out HP2.out 16 (by omega)
            · go_wp2_with (fail)
              go_meet
              case rel => exact ⟨pos, rem, pd, ps, dc', sc', H1.out, H2.out, by omega, H4.out, h5, h6, h7, h8, rfl, rfl, rfl, rfl, HU.out⟩
          case rest =>
            clear HU H1 H2 H4 h3 h5 h6 h7 h8
            obtain ⟨pos, rem, pd, ps, dc', sc', h1, h2, h3, h4, h5, h6, h7, h8, rfl, rfl, rfl, rfl, hU⟩ := hcut
            have H1 := Lib.hid h1
            have H2 := Lib.hid h2
            have H4 := Lib.hid h4
            have HU := Lib.hid hU
            clear h1 h2 h4 hU
            by_cases h0 : rem = 0
            · have hb : ((rem : Int) != 0) = false := by simp [h0]
              have H0 := Lib.hid h0
              clear h0
              go_wp2_with (fail)
              go_end0
              exact ⟨rfl, HU.out.congr (fun i hi => by
                unfold Go.Proofs.YthdbedfofccbmaaDoor.wr
                rw [if_pos (by have := H1.out; have := H0.out; omega)]
                rfl)⟩
            · have hb : ((rem : Int) != 0) = true := by simp [h0]
              have hr0 : 0 < rem := by omega
              clear h0
              have hwc : 10 ≤ wc.heap.size := by have := HU.out.2.size; have := HE.out.tab.size; omega
              have hDlt : D < wc.heap.size := HU.out.1.lt
              have hSlt : S < w.heap.size := World.block_lt_of_cell? w ⟨S, 0, none⟩ (HS.out 0 (by have := H1.out; omega))
              have hSlt2 : S < wc.heap.size := by have := HU.out.2.size; omega
              have hKlt : K < w.heap.size := HE.out.lt
              have hKlt2 : K < wc.heap.size := by have := HU.out.2.size; omega
              have hsrc : ∀ i, i < rem → wc.cell? ⟨S, ps + i, none⟩ = some (.int .u8 (s (ps + i))) := fun i hi =>
                (World.cell?_of_block (HU.out.2.block S hSlt (fun e => by injection e with e; exact hSD e))).trans (HS.out (ps + i) (by have := H1.out; have := H4.out hr0; omega))
              obtain ⟨w1, hcp1, B1, G1, g1, hB2⟩ := tail_in wc S ps rem sc' hr0 h3 s hsrc hSlt2
              have hE1 : Env T w1 K R ek := (HE.out.grown HU.out.2 (fun g e => by injection e with e; omega) (fun e => by injection e with e; exact hKD e)).grown g1 (by simp) (by simp)
              obtain ⟨B, hBdef⟩ : ∃ B, B = wc.heap.size := ⟨_, rfl⟩
              have HE1 := Lib.hid hE1
              have HB1 := Lib.hid B1
              have HB2 := Lib.hid hB2
              have Hg1 := Lib.hid g1
              have HG1 := Lib.hid G1
              clear hE1 B1 hB2 g1 hsrc hBdef G1
              go_wp2_with (fail)
              refine (c18 T w1 K R ek HE1.out (c0 + bl + pos / 16) (wc.heap.size + 1) 0 23 16 (fun _ => 0) HB2.out (by omega) wc.heap.size 0 _ (by intro i hi; rw [Nat.zero_add]; exact HB1.out.cell hi)).mono ?_
              rintro e w2 ⟨rfl, U2⟩
              have hD2 : Byt w2 D 5 n (Go.Proofs.YthdbedfofccbmaaDoor.wr f 0 pos (fun i => bits .xor .u8 (s i) (kb T R ek (c0 + bl + i / 16) (i % 16)))) :=
                (HU.out.1.keep Hg1.out (by simp)).keep U2.2 (fun e => by injection e with e; omega)
              obtain ⟨w3, hcp2, U3⟩ := run_copyB w2 3 D pd rem dc' (wc.heap.size + 1) 0 16 16 rem 5 n _ _ (by show rem = Nat.min 16 rem; simp only [Nat.min_def]; split <;> omega) hD2 (by have := H1.out; have := H4.out hr0; omega) (fun i hi => by rw [Nat.zero_add]; exact U2.1.cell (by omega))
              have V2 := Lib.hid U2
              have V3 := Lib.hid U3
              clear U2 U3 hD2 hcp1
              go_wp2_with (fail)
              go_end0
              refine ⟨rfl, UpB.congr ⟨V3.out.1, grownBy_trans HU.out.2 (grownBy_trans (grownBy_none (grownBy_new Hg1.out V2.out.2 (by omega))) V3.out.2)⟩ fun i hi => ?_⟩
              exact tail_fin T R ek (c0 + bl) n f s H1.out H2.out hr0 h3 (H4.out hr0).1 (H4.out hr0).2 i hi

set_option maxHeartbeats 1000000 in
set_option maxRecDepth 100000 in
theorem c13z (w : World) (K c0 bl off : Nat) (hbl : bl < 2 ^ 64) (hoff : off = 16 * bl)
    (hlo : w.cell? ⟨K, 121, none⟩ = some (.int .u64 (lo64 c0))) (hhi : w.cell? ⟨K, 122, none⟩ = some (.int .u64 (hi64 c0))) (D : Nat) :
    Calls Tryd.prog 13 #[.pointer (some ⟨K, 0, none⟩), .slice (some ⟨D, 0, none⟩) 0 0, .slice none 0 0, .int .u64 (off : Int)] w
      fun e w' => e = .returned (.tuple #[]) ∧ ∃ m, w' = w.drewN m := by
  have q1 : (off : Int) / 16 = (bl : Int) := by omega
  have q2 : (off : Int) % 16 = 0 := by omega
  have q3 : IntKind.u64.wrap (bl : Int) = (bl : Int) := u64_wrap_nat bl hbl
  have Hb := Lib.hid hbl
  clear hbl hoff
  go_enter Tryd.func13, Tryd.ntmps13
  go_wp2
  go_quiet ((go_at_call 17; exact (c17 _ c0 bl Hb.out).mono fun e w' ⟨he, hw⟩ => ⟨he, _, hw.symm⟩))
  go_wp2_with (fail)
  refine wp_loop_rounds 1 ?_
  rw [rounds_succ]
  go_wp2_with (fail)
  go_end0
  exact ⟨rfl, nq, rfl⟩
theorem run_add64_off (n : Nat) (hn : n ≤ 16384) (w : World) :
    (callFunc 22 #[.int .u64 0, .int .u64 (n : Int), .int .u64 0]).run Tryd.prog w = .ok (.value (.tuple #[.int .u64 (n : Int), .int .u64 0])) w := by
  have h := run_add64_nat 0 n 0 (by omega) w
  rw [show (0 + n + 0) % 2 ^ 64 = n from by omega, show (0 + n + 0) / 2 ^ 64 = 0 from by omega] at h
  exact h
end Go.Proofs.YthdbedfofccbmaaDoor
