/-
  The contracts of newCTR and NewCTR.
-/
import Derived.Test.YthdbedfofccbmaaDoorJ
open Go Go.RowKit
namespace Go.Proofs.YthdbedfofccbmaaDoor
theorem grownBy_setRow (w : World) (g : Nat) (cs : Array Value) : w.grownBy (w.setRow g cs) (some g) :=
  ⟨rfl, rfl, rfl, by simp, fun k _ hk => setRow_other w g k cs (fun e => hk (by rw [e]))⟩
theorem c24b (w : World) (V o len cap : Nat) (y : Nat → Int) (hl : 8 ≤ len) (hm : (len : Int) ≤ 9223372036854775807) (hy : ∀ i, i < 8 → w.cell? ⟨V, o + i, none⟩ = some (.int .u8 (y i))) (m : Nat) :
    Calls Tryd.prog 24 #[.slice (some ⟨V, o, none⟩) len cap] (w.drewN m) fun e w' => e = .returned (.int .u64 (b64 (y 0) (y 1) (y 2) (y 3) (y 4) (y 5) (y 6) (y 7))) ∧ ∃ n, w' = w.drewN n :=
  (c24 (w.drewN m) V o len cap _ _ _ _ _ _ _ _ hl hm (hy 0 (by omega)) (hy 1 (by omega)) (hy 2 (by omega)) (hy 3 (by omega)) (hy 4 (by omega)) (hy 5 (by omega)) (hy 6 (by omega)) (hy 7 (by omega))).mono
    fun _ _ ⟨he, n, hn⟩ => ⟨he, m + n, by rw [hn, World.drewN_drewN]⟩
set_option maxHeartbeats 1000000 in
set_option maxRecDepth 100000 in
theorem c16 (w : World) (Bk : Nat) (tb : TypeId) (V cap : Nat) (x : Nat → Int) (cs : Array Value) (hsz : cs.size = 121) (hcs : Blk w Bk tb cs) (h1 : cs.all (·.oneCell') = true) (hcap : 16 ≤ cap) (hcm : (cap : Int) ≤ 9223372036854775807)
   (hx : ∀ i, i < 16 → w.cell? ⟨V, i, none⟩ = some (.int .u8 (x i))) :
    Calls Tryd.prog 16 #[.pointer (some ⟨Bk, 0, none⟩), .slice (some ⟨V, 0, none⟩) 16 cap] w
      (NewC w cs (b64 (x 8) (x 9) (x 10) (x 11) (x 12) (x 13) (x 14) (x 15)) (b64 (x 0) (x 1) (x 2) (x 3) (x 4) (x 5) (x 6) (x 7))) := by
  have hz := zero56
  have HX := Lib.hid hx
  have HC := Lib.hid hcs
  have HS := Lib.hid hsz
  have H1 := Lib.hid h1
  clear hx hcs hsz h1
  go_enter Tryd.func16, Tryd.ntmps16
  go_wp2_with (fail)
  have g1 : w.grownBy (w.alloc (Obj.cells zs56 56)) none := World.grownBy_alloc w _ none
  have b1 : Blk (w.alloc (Obj.cells zs56 56)) Bk tb cs := HC.out.grown g1 (by simp)
  have b2 : Blk (w.alloc (Obj.cells zs56 56)) w.heap.size 56 zs56 := Blk.new w 56 zs56
  have x1 : ∀ i, i < 16 → (w.alloc (Obj.cells zs56 56)).cell? ⟨V, i, none⟩ = some (.int .u8 (x i)) := fun i hi => (g1.cell (HX.out i hi) (by simp))
  generalize w.alloc (Obj.cells zs56 56) = w1 at *
  generalize hG : w.heap.size = G at *
  obtain ⟨X, hX, hb⟩ := run_build56 cs HS.out (b64 (x 8) (x 9) (x 10) (x 11) (x 12) (x 13) (x 14) (x 15)) (b64 (x 0) (x 1) (x 2) (x 3) (x 4) (x 5) (x 6) (x 7))
  have HG := Lib.hid hG
  have B1 := Lib.hid b1
  have B2 := Lib.hid b2
  have X1 := Lib.hid x1
  have HCt := Lib.hid hX
  have G1 := Lib.hid g1
  have Hb := Lib.hid hb
  clear b1 b2 x1 hX g1 hG hz hb
  refine wp_region_quiet_tail 10 (by kernel_rfl) (by kernel_rfl) ?_
  simp only [List.take_succ_cons, List.take_zero, List.drop_succ_cons, List.drop_zero]
  go_big_quiet_step (fail)
  go_big_quiet_step (fail)
  refine BigFrame.wpQuiet_want rfl ?_
  intro K hK
  refine quiet_load_row 54 _ rfl Bk rfl cs _ (fun w hw => ?_) Tryd.underlying54 rfl (by rw [HS.out]; exact size54) ?_
  · obtain ⟨m, rfl⟩ := hw
    exact ⟨tb, (0, 0), B1.out⟩
  refine hK _ ?_
  clear hK K
  simp only [Act.put, List.setIfInBounds_toArray, List.set_cons_succ, List.set_cons_zero]
  go_big_quiet_step (fail)
  go_big_quiet_step (fail)
  go_big_quiet_step ((go_at_call 24; exact c24b w1 V 8 8 (cap - 8) (fun i => x (8 + i)) (by omega) (by omega) (fun i hi => X1.out (8 + i) (by omega)) _))
  go_big_quiet_step (fail)
  go_big_quiet_step (fail)
  go_big_quiet_step ((go_at_call 24; exact c24b w1 V 0 8 cap x (by omega) (by omega) (fun i hi => by rw [Nat.zero_add]; exact X1.out i (by omega)) _))
  refine BigFrame.wpQuiet_want rfl ?_
  intro K hK
  refine quiet_build 56 _ rfl X (by intro w; simpa [Act.eval] using Hb.out w) ?_
  refine hK _ ?_
  clear hK K
  simp only [Act.put, List.setIfInBounds_toArray, List.set_cons_succ, List.set_cons_zero]
  refine wpQuiet_nil ?_
  rintro w2 ⟨m, rfl⟩
  have hone : X.all (·.oneCell') = true := HCt.out.one H1.out HS.out
  refine wpList_store_row rfl 56 (.tmp 4) (.tmp 18) rfl G X rfl rfl 56 zs56 (by exact B2.out) (by rw [HCt.out.size]; exact size56) (by rw [HCt.out.size]; exact zs56_size) hone ?_
  go_wp2_with (fail)
  have hrow : ((w1.drewN m).setRow G X).heap[G]? = some (.cells X 56 (0, 0)) := setRow_heap (w1.drewN m) G zs56 X 56 (0, 0) (by exact B2.out)
  refine bodyPost_ret (v := .agg X) (results_cell_row rfl _ _ G 56 X (0, 0) _ rfl hrow Tryd.underlying56 rfl (by rw [HCt.out.size]; exact size56)) rfl ⟨X, rfl, HCt.out, hone, ?_⟩
  exact grownBy_new (grownBy_trans G1.out (grownBy_drewN w1 m none)) (grownBy_setRow _ G X) (by have := HG.out; omega)
/-- What NewCTR hands back: a new block, the stream. -/
def NewP (w : World) (cs : Array Value) (lo hi : Int) (e : Ending) (w' : World) : Prop :=
  ∃ K X, e = .returned (.pointer (some ⟨K, 0, none⟩)) ∧ w.heap.size ≤ K ∧ Blk w' K 56 X ∧ Ctr X cs (.int .u64 lo) (.int .u64 hi) ∧ w.grownBy w' none
set_option maxHeartbeats 1000000 in
set_option maxRecDepth 100000 in
theorem c12 (w : World) (Bk : Nat) (tb : TypeId) (V cap : Nat) (x : Nat → Int) (cs : Array Value) (hsz : cs.size = 121) (hcs : Blk w Bk tb cs) (h1 : cs.all (·.oneCell') = true) (hcap : 16 ≤ cap) (hcm : (cap : Int) ≤ 9223372036854775807)
   (hx : ∀ i, i < 16 → w.cell? ⟨V, i, none⟩ = some (.int .u8 (x i))) :
    Calls Tryd.prog 12 #[.pointer (some ⟨Bk, 0, none⟩), .slice (some ⟨V, 0, none⟩) 16 cap] w
      (NewP w cs (b64 (x 8) (x 9) (x 10) (x 11) (x 12) (x 13) (x 14) (x 15)) (b64 (x 0) (x 1) (x 2) (x 3) (x 4) (x 5) (x 6) (x 7))) := by
  have hz := zero56
  have H := Lib.hid (c16 w Bk tb V cap x cs hsz hcs h1 hcap hcm hx)
  clear hx hcs hsz h1
  go_enter Tryd.func12, Tryd.ntmps12
  go_wp2_with (fail)
  refine H.out.mono ?_
  rintro e w1 ⟨X, rfl, hC, hone, hg⟩
  have HC := Lib.hid hC
  have HG := Lib.hid hg
  have HO := Lib.hid hone
  clear hC hg hone
  have b2 : Blk (w1.alloc (Obj.cells zs56 56)) w1.heap.size 56 zs56 := Blk.new w1 56 zs56
  have HB2 := Lib.hid b2
  clear b2
  go_wp2_with (first | (refine wpList_store_row rfl 56 (.tmp 5) (.tmp 8) rfl w1.heap.size X rfl rfl 56 zs56 (by exact HB2.out) (by rw [HC.out.size]; exact size56) (by rw [HC.out.size]; exact zs56_size) HO.out ?_) | fail)
  go_ret
  refine ⟨w1.heap.size, X, rfl, HG.out.size, setRow_heap _ _ zs56 X 56 (0, 0) HB2.out, HC.out, ?_⟩
  exact grownBy_new (grownBy_trans HG.out (World.grownBy_alloc w1 _ none)) (grownBy_setRow _ _ X) HG.out.size
end Go.Proofs.YthdbedfofccbmaaDoor
