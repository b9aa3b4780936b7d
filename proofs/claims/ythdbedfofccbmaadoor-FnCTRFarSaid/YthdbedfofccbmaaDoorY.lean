/-
  What the row's reading gives the walk: arrays of whole numbers, the package's tables, a slice's bytes; and that they read the same behind the call.
-/
import Derived.Test.YthdbedfofccbmaaDoorX
import Derived.ProofKit
import Derived.OpenShut
import Derived.ChangeBears2
open Go Go.RowKit
namespace Go.Proofs.YthdbedfofccbmaaDoor
section
variable {H : Type} {enc : TypeId × Value → H} {P : Program} {w w' : World} {base base' : Nat} {spare spare' : Nat → Bool} {held : Bool} {fuel : Nat} {t e : TypeId} {n : Nat} {k : IntKind} {cs : List Value} {x : DataW H × List MemPlace}
theorem trod_int_any (he : P.underlying e = some (.int k)) : DataW.trod enc P w base spare held fuel e cs = DataW.trod enc P w' base' spare' held fuel e cs := by
  cases fuel with
  | zero => rfl
  | succ m =>
    unfold DataW.trod
    rw [he]
    rcases cs with _ | ⟨v, _ | ⟨u, r⟩⟩
    · rfl
    · cases v <;> rfl
    · cases v <;> rfl
theorem trod_arr_any (ht : P.underlying t = some (.array n e)) (he : P.underlying e = some (.int k)) : DataW.trod enc P w base spare held fuel t cs = DataW.trod enc P w' base' spare' held fuel t cs := by
  cases fuel with
  | zero => rfl
  | succ m =>
    unfold DataW.trod
    rw [ht]
    have : (fun i => DataW.trod enc P w base spare held m e ((cs.drop (i * P.cellsOf e)).take (P.cellsOf e))) = fun i => DataW.trod enc P w' base' spare' held m e ((cs.drop (i * P.cellsOf e)).take (P.cellsOf e)) := by
      funext i
      exact trod_int_any he
    show (if cs.length = P.cellsOf t then ((List.range n).mapM fun i => DataW.trod enc P w base spare held m e ((cs.drop (i * P.cellsOf e)).take (P.cellsOf e))).map (fun xs => (DataW.agg (xs.map (·.1)), xs.flatMap (·.2))) else none) = _
    rw [this]
/-- The number in a cell of a row, or nought. -/
def tz (cs : List Value) (i : Nat) : Int := match cs[i]? with
  | some (.int _ z) => z
  | _ => 0
theorem arr_open (ht : P.underlying t = some (.array n e)) (he : P.underlying e = some (.int k)) (hce : P.cellsOf e = 1) (hct : P.cellsOf t = n) (h : DataW.trod enc P w base spare held fuel t cs = some x) :
    cs.length = n ∧ ∀ i, i < n → cs[i]? = some (.int k (tz cs i)) ∧ (Lit.int k (tz cs i)).wf = true := by
  obtain ⟨xs, m, rfl, rfl, hl, hx, hi⟩ := DataW.trod_array ht h
  rw [hct] at hl
  refine ⟨hl, fun i hin => ?_⟩
  have h1 := hi i hin
  rw [hce, Nat.mul_one] at h1
  have hlt : i < cs.length := by omega
  rw [List.getElem?_eq_getElem (show i < xs.length from by omega), List.drop_eq_getElem_cons hlt, List.take_succ_cons, List.take_zero] at h1
  obtain ⟨a, e0, _, wa⟩ := DataW.trod_int he h1
  have e1 : cs[i]? = some (.int k a) := by
    rw [List.getElem?_eq_getElem hlt]
    simpa using e0
  have e2 : tz cs i = a := by unfold tz; rw [e1]
  rw [e2]
  exact ⟨e1, wa⟩
theorem vars_keep (hw : ∀ i, i < w.heap.size → w'.heap[i]? = w.heap[i]?) : ∀ {ns : List String} {ds : List (DataW H)} {ps : List MemPlace},
    (∀ m, m ∈ ns → ∃ g t n e k, P.globalNamed m = some g ∧ (P.globals[g]?).map (·.type) = some t ∧ P.underlying t = some (.array n e) ∧ P.underlying e = some (.int k)) →
    DataW.TrodVars enc P w spare ns ds ps → DataW.TrodVars enc P w' spare' ns ds ps
  | [], [], _, _, h => h
  | m :: ns, d :: ds, ps, hn, h => by
    obtain ⟨g, t, cs, fuel, p, q, h1, h2, h3, h4, hs, e⟩ := h
    obtain ⟨g', t', n', e', k', a1, a2, a3, a4⟩ := hn m (List.mem_cons_self ..)
    have eg : g' = g := Option.some.inj (a1.symm.trans h1)
    subst eg
    have et : t' = t := Option.some.inj (a2.symm.trans h2)
    subst et
    refine ⟨g', t', cs, fuel, p, q, h1, h2, ?_, (trod_arr_any a3 a4).symm.trans h4, vars_keep hw (fun m hm => hn m (List.mem_cons_of_mem _ hm)) hs, e⟩
    unfold World.var? at h3 ⊢
    simp only [h1, Option.bind_some] at h3 ⊢
    have hlt : g' < w.heap.size := by
      rcases Nat.lt_or_ge g' w.heap.size with hlt | hge
      · exact hlt
      · rw [Array.getElem?_eq_none hge] at h3
        cases h3
    rw [hw g' hlt]
    exact h3
  | [], _ :: _, _, _, h => h.elim
  | _ :: _, [], _, _, h => h.elim
theorem var_open {m : String} {ns : List String} {gs : List (DataW H)} {ps : List MemPlace} (g : Nat) (hg : P.globalNamed m = some g) (hty : (P.globals[g]?).map (·.type) = some t)
    (ht : P.underlying t = some (.array n e)) (he : P.underlying e = some (.int k)) (hce : P.cellsOf e = 1) (hct : P.cellsOf t = n) (h : DataW.TrodVars enc P w spare (m :: ns) gs ps) :
    ∃ d ds q, gs = d :: ds ∧ DataW.TrodVars enc P w spare ns ds q ∧ ∃ f : Nat → Int, (∀ i, i < n → w.cell? ⟨g, i, none⟩ = some (.int k (f i))) ∧ ∀ i, (Lit.int k (f i)).wf = true := by
  cases gs with
  | nil => exact h.elim
  | cons d ds =>
    obtain ⟨g', t', cs, fuel, p, q, h1, h2, h3, h4, hs, _⟩ := h
    have eg : g = g' := Option.some.inj (hg.symm.trans h1)
    subst eg
    have et : t = t' := Option.some.inj (hty.symm.trans h2)
    subst et
    obtain ⟨_, ha⟩ := arr_open ht he hce hct h4
    refine ⟨d, ds, q, rfl, hs, fun i => if i < n then tz cs.toList i else 0, fun i hi => ?_, fun i => ?_⟩
    · rw [var?_cell h1 h3 i]
      have := (ha i hi).1
      rw [Array.getElem?_toList] at this
      rw [this]
      simp [hi]
    · by_cases hi : i < n
      · simp only [hi, if_true]
        exact (ha i hi).2
      · simp only [hi, if_false]
        cases k <;> decide
end
end Go.Proofs.YthdbedfofccbmaaDoor
