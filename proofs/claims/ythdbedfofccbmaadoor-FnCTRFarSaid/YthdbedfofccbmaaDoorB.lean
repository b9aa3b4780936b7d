/-
  A block of bytes, known whole (Byt), and the contracts of the functions that write words into one.
-/
import Derived.Test.YthdbedfofccbmaaDoorA
import Derived.LoopN
open Go Go.RowKit
namespace Go.Proofs.YthdbedfofccbmaaDoor

/-- n bytes, the i-th one f i. -/
def bytesA (n : Nat) (f : Nat → Int) : Array Value := Array.ofFn (n := n) fun i => Value.int .u8 (f i)
theorem bytesA_size (n : Nat) (f : Nat → Int) : (bytesA n f).size = n := by simp [bytesA]
theorem bytesA_get (n : Nat) (f : Nat → Int) (i : Nat) : (bytesA n f)[i]? = if i < n then some (.int .u8 (f i)) else none := by
  simp only [bytesA, Array.getElem?_ofFn]
  split <;> rfl
theorem bytesA_congr {n : Nat} {f g : Nat → Int} (h : ∀ i, i < n → f i = g i) : bytesA n f = bytesA n g := by
  apply Array.ext_getElem?
  intro i
  rw [bytesA_get, bytesA_get]
  by_cases hi : i < n
  · rw [if_pos hi, if_pos hi, h i hi]
  · rw [if_neg hi, if_neg hi]
def upd (f : Nat → Int) (j : Nat) (v : Int) : Nat → Int := fun i => if i = j then v else f i
theorem bytesA_set (n : Nat) (f : Nat → Int) (j : Nat) (v : Int) : (bytesA n f).setIfInBounds j (.int .u8 v) = bytesA n (upd f j v) := by
  apply Array.ext_getElem?
  intro i
  rw [Array.getElem?_setIfInBounds, bytesA_get, bytesA_get, bytesA_size]
  unfold upd
  by_cases hij : j = i
  · subst hij
    by_cases hj : j < n
    · simp [hj]
    · simp [hj]
  · rw [if_neg hij]
    by_cases hi : i < n
    · rw [if_pos hi, if_pos hi, if_neg (fun e => hij e.symm)]
    · rw [if_neg hi, if_neg hi]
/-- Block g is n bytes. -/
def Byt (w : World) (g : Nat) (t : TypeId) (n : Nat) (f : Nat → Int) : Prop := Blk w g t (bytesA n f)
section
variable {w w' w'' : World} {g n : Nat} {t : TypeId} {f f' : Nat → Int}
theorem Byt.cell (h : Byt w g t n f) {i : Nat} (hi : i < n) : w.cell? ⟨g, i, none⟩ = some (.int .u8 (f i)) := by
  rw [Blk.cell h, bytesA_get, if_pos hi]
theorem Byt.congr (h : Byt w g t n f) (k : ∀ i, i < n → f i = f' i) : Byt w g t n f' := by
  unfold Byt
  rw [← bytesA_congr k]
  exact h
theorem Byt.set_ (h : Byt w g t n f) (j : Nat) (v : Int) : Byt (w.setCell ⟨g, j, none⟩ (.int .u8 v)) g t n (upd f j v) := by
  have := Blk.set_ h j (.int .u8 v)
  rw [bytesA_set] at this
  exact this
theorem Byt.lt (h : Byt w g t n f) : g < w.heap.size := Blk.lt h
theorem Byt.keep {row : Option Nat} (h : Byt w g t n f) (k : w.grownBy w' row) (hr : some g ≠ row) : Byt w' g t n f := Blk.grown h k hr
/-- The world w' is w with block g now the bytes f (and new blocks). -/
def UpB (w w' : World) (g : Nat) (t : TypeId) (n : Nat) (f : Nat → Int) : Prop := Byt w' g t n f ∧ w.grownBy w' (some g)
theorem grownBy_refl (w : World) (row : Option Nat) : w.grownBy w row := ⟨rfl, rfl, rfl, Nat.le_refl _, fun _ _ _ => rfl⟩
theorem grownBy_setCell (w : World) (j : Nat) (u : Value) : w.grownBy (w.setCell ⟨g, j, none⟩ u) (some g) :=
  ⟨rfl, rfl, rfl, by simp [World.setCell], fun k _ hr => Below.heap_setCell _ _ _ _ (fun e => hr (by rw [e]))⟩
theorem UpB.start (h : Byt w g t n f) : UpB w w g t n f := ⟨h, grownBy_refl _ _⟩
theorem UpB.set_ (h : UpB w w' g t n f) (j : Nat) (v : Int) : UpB w (w'.setCell ⟨g, j, none⟩ (.int .u8 v)) g t n (upd f j v) :=
  ⟨h.1.set_ j v, grownBy_trans h.2 (grownBy_setCell _ _ _)⟩
theorem UpB.congr (h : UpB w w' g t n f) (k : ∀ i, i < n → f i = f' i) : UpB w w' g t n f' := ⟨h.1.congr k, h.2⟩
theorem UpB.trans (h : UpB w w' g t n f) (k : UpB w' w'' g t n f') : UpB w w'' g t n f' := ⟨k.1, grownBy_trans h.2 k.2⟩
theorem UpB.drewN (h : UpB w w' g t n f) (m : Nat) : UpB w (w'.drewN m) g t n f := ⟨h.1, grownBy_trans h.2 (grownBy_drewN _ _ _)⟩
theorem UpB.drew (h : UpB w w' g t n f) : UpB w w'.drew g t n f := ⟨h.1, grownBy_trans h.2 ⟨rfl, rfl, rfl, Nat.le_refl _, fun _ _ _ => rfl⟩⟩
theorem UpB.from (h : Byt w' g t n f) (k : w.grownBy w' (some g)) : UpB w w' g t n f := ⟨h, k⟩
end
/-- The bytes f, with m of h from o on. -/
def wr (f : Nat → Int) (o m : Nat) (h : Nat → Int) : Nat → Int := fun i => if o ≤ i ∧ i < o + m then h (i - o) else f i

/-- The bytes of a word. -/
def w4 (v : Int) (i : Nat) : Int := match i with
  | 0 => v / 16777216
  | 1 => v / 65536 % 256
  | 2 => v / 256 % 256
  | _ => v % 256
theorem wr4 (f : Nat → Int) (o : Nat) (a0 a1 a2 a3 : Int) (h : Nat → Int) (e0 : h 0 = a0) (e1 : h 1 = a1) (e2 : h 2 = a2) (e3 : h 3 = a3) (i : Nat) :
    upd (upd (upd (upd f o a0) (o + 1) a1) (o + 2) a2) (o + 3) a3 i = wr f o 4 h i := by
  unfold upd wr
  by_cases hi : o ≤ i ∧ i < o + 4
  · rw [if_pos hi]
    have : i = o ∨ i = o + 1 ∨ i = o + 2 ∨ i = o + 3 := by omega
    rcases this with rfl | rfl | rfl | rfl <;> simp [*]
  · rw [if_neg hi, if_neg (by omega), if_neg (by omega), if_neg (by omega), if_neg (by omega)]
set_option maxHeartbeats 400000 in
theorem c37 (w : World) (g : Nat) (t : TypeId) (N o len cap : Nat) (f : Nat → Int) (v : Int) (hv0 : 0 ≤ v) (hv1 : v ≤ 4294967295) (hl : 4 ≤ len) (hm : (len : Int) ≤ 9223372036854775807)
    (hB : Byt w g t N f) (hN : o + 4 ≤ N) :
    Calls Tryd.prog 37 #[.slice (some ⟨g, o, none⟩) len cap, .int .u32 v] w fun e w' => e = .returned (.tuple #[]) ∧ UpB w w' g t N (wr f o 4 (w4 v)) := by
  have h0 := hB.cell (i := o) (by omega)
  have h1 := hB.cell (i := o + 1) (by omega)
  have h2 := hB.cell (i := o + 2) (by omega)
  have h3 := hB.cell (i := o + 3) (by omega)
  have hf : ∀ i, w.frozen? ⟨g, i, none⟩ = false := Blk.frozen hB
  have HB : Hid (UpB w w g t N f) := UpB.start hB
  clear hB
  go_enter Tryd.func37, Tryd.ntmps37
  go_wp2
  go_end0
  exact ⟨rfl, ((((HB.out.set_ o _).set_ (o + 1) _).set_ (o + 2) _).set_ (o + 3) _).congr fun i _ => wr4 f o _ _ _ _ (w4 v) rfl rfl rfl rfl i⟩

/-- The bytes of a number of 64 bits. -/
def w8 (v : Int) (i : Nat) : Int := match i with
  | 0 => v / 72057594037927936 % 256
  | 1 => v / 281474976710656 % 256
  | 2 => v / 1099511627776 % 256
  | 3 => v / 4294967296 % 256
  | 4 => v / 16777216 % 256
  | 5 => v / 65536 % 256
  | 6 => v / 256 % 256
  | _ => v % 256
theorem wr8 (f : Nat → Int) (o : Nat) (a0 a1 a2 a3 a4 a5 a6 a7 : Int) (h : Nat → Int) (e0 : h 0 = a0) (e1 : h 1 = a1) (e2 : h 2 = a2) (e3 : h 3 = a3) (e4 : h 4 = a4) (e5 : h 5 = a5) (e6 : h 6 = a6) (e7 : h 7 = a7) (i : Nat) :
    upd (upd (upd (upd (upd (upd (upd (upd f o a0) (o + 1) a1) (o + 2) a2) (o + 3) a3) (o + 4) a4) (o + 5) a5) (o + 6) a6) (o + 7) a7 i = wr f o 8 h i := by
  unfold upd wr
  by_cases hi : o ≤ i ∧ i < o + 8
  · rw [if_pos hi]
    have : i = o ∨ i = o + 1 ∨ i = o + 2 ∨ i = o + 3 ∨ i = o + 4 ∨ i = o + 5 ∨ i = o + 6 ∨ i = o + 7 := by omega
    rcases this with rfl | rfl | rfl | rfl | rfl | rfl | rfl | rfl <;> simp [*]
  · rw [if_neg hi, if_neg (by omega), if_neg (by omega), if_neg (by omega), if_neg (by omega), if_neg (by omega), if_neg (by omega), if_neg (by omega), if_neg (by omega)]
set_option maxHeartbeats 1000000 in
theorem c27 (w : World) (g : Nat) (t : TypeId) (N o len cap : Nat) (f : Nat → Int) (v : Int) (hl : 8 ≤ len) (hm : (len : Int) ≤ 9223372036854775807)
    (hB : Byt w g t N f) (hN : o + 8 ≤ N) :
    Calls Tryd.prog 27 #[.slice (some ⟨g, o, none⟩) len cap, .int .u64 v] w fun e w' => e = .returned (.tuple #[]) ∧ UpB w w' g t N (wr f o 8 (w8 v)) := by
  have h0 := hB.cell (i := o) (by omega)
  have h1 := hB.cell (i := o + 1) (by omega)
  have h2 := hB.cell (i := o + 2) (by omega)
  have h3 := hB.cell (i := o + 3) (by omega)
  have h4 := hB.cell (i := o + 4) (by omega)
  have h5 := hB.cell (i := o + 5) (by omega)
  have h6 := hB.cell (i := o + 6) (by omega)
  have h7 := hB.cell (i := o + 7) (by omega)
  have hf : ∀ i, w.frozen? ⟨g, i, none⟩ = false := Blk.frozen hB
  have HB : Hid (UpB w w g t N f) := UpB.start hB
  clear hB
  go_enter Tryd.func27, Tryd.ntmps27
  go_wp2
  refine wp_loop_rounds 9 ?_
  iterate 9 (rw [rounds_succ]; go_wp2)
  go_end0
  exact ⟨rfl, ((((((((HB.out.set_ o _).set_ (o + 1) _).set_ (o + 2) _).set_ (o + 3) _).set_ (o + 4) _).set_ (o + 5) _).set_ (o + 6) _).set_ (o + 7) _).congr fun i _ => wr8 f o _ _ _ _ _ _ _ _ (w8 v) rfl rfl rfl rfl rfl rfl rfl rfl i⟩

set_option maxHeartbeats 400000 in
theorem c32 (w : World) : Calls Tryd.prog 32 #[] w fun e w' => e = .returned (.tuple #[]) ∧ w = w' := by
  go_enter Tryd.func32, Tryd.ntmps32
  go_wp2
  go_end0
  exact ⟨rfl, rfl⟩
theorem c33b (w : World) (m g : Nat) (t : TypeId) (N o len cap : Nat) (f : Nat → Int) (hl : 4 ≤ len) (hm : (len : Int) ≤ 9223372036854775807) (hB : Byt w g t N f) (hN : o + 4 ≤ N) :
    Calls Tryd.prog 33 #[.slice (some ⟨g, o, none⟩) len cap] (w.drewN m) fun e w' => e = .returned (.int .u32 (b32 (f o) (f (o + 1)) (f (o + 2)) (f (o + 3)))) ∧ ∃ n, w' = w.drewN n :=
  (c33 (w.drewN m) g o len cap _ _ _ _ hl hm (hB.cell (i := o) (by omega)) (hB.cell (i := o + 1) (by omega)) (hB.cell (i := o + 2) (by omega)) (hB.cell (i := o + 3) (by omega))).mono
    fun _ _ ⟨he, n, hn⟩ => ⟨he, m + n, by rw [hn, World.drewN_drewN]⟩
theorem c33c (w : World) (g : Nat) (t : TypeId) (N o len cap : Nat) (f : Nat → Int) (hl : 4 ≤ len) (hm : (len : Int) ≤ 9223372036854775807) (hB : Byt w g t N f) (hN : o + 4 ≤ N) :
    Calls Tryd.prog 33 #[.slice (some ⟨g, o, none⟩) len cap] w fun e w' => e = .returned (.int .u32 (b32 (f o) (f (o + 1)) (f (o + 2)) (f (o + 3)))) ∧ ∃ n, w' = w.drewN n :=
  c33 w g o len cap _ _ _ _ hl hm (hB.cell (i := o) (by omega)) (hB.cell (i := o + 1) (by omega)) (hB.cell (i := o + 2) (by omega)) (hB.cell (i := o + 3) (by omega))
end Go.Proofs.YthdbedfofccbmaaDoor
