import PyProof.Rows.All
import Wide.All
import OpenK.AllK
import Wide.FinOn
import KE.KNestM
import PySem.Challenge.RW_yd0002_02
open PySem PySem.W PyProof.Rows
namespace Mine
/-- the top's run over a tree heap -/
noncomputable def treeRun (st : SharedT → Thread → Option (SharedT × Thread)) (n₀ : Nat) (ann : Option Value) : Nat → SharedT → Thread → Option SharedT
  | 0, _, _ => none
  | n + 1, s, t => match through t with
    | true => some s
    | false => match PySem.W.stepOk n₀ ann t with
      | false => none
      | true => match st s t with
        | some (s', t') => treeRun st n₀ ann n s' t'
        | none => none
theorem treeRun_topRun {tb : String → Option Builtin} {p : Program} {w : World} {n₀ : Nat} {ann : Option Value} :
    ∀ (n : Nat) (s s' : SharedT) (t : Thread), treeRun (stepT (denote tb) p w) n₀ ann n s t = some s' → topRun tb p w n₀ ann n s.abs t = some s'.abs
  | 0, _, _, _, h => by cases h
  | n + 1, s, s', t, h => by
    unfold treeRun at h
    unfold topRun
    cases h1 : through t with
    | true => rw [h1] at h; cases h; rfl
    | false =>
      rw [h1] at h
      cases h2 : PySem.W.stepOk n₀ ann t with
      | false => rw [h2] at h; cases h
      | true =>
        rw [h2] at h
        cases h3 : stepT (denote tb) p w s t with
        | none => rw [h3] at h; cases h
        | some r =>
          obtain ⟨s₂, t₂⟩ := r
          rw [h3] at h
          dsimp only
          rw [stepT_spec h3]
          exact treeRun_topRun n s₂ s' t₂ h
def growT (l : List Obj) : BT := (l.foldl (fun (x : BT × Nat) o => (x.1.ins x.2 o, x.2 + 1)) (BT.nil, 0)).1
theorem left_once {p q : Program} {loose : List Str} {Xt : Shared → Bool} {α : Type} {Yf : Shared → α} {Ya : World → α} {N m₀ : Nat} {ann : Option Value} {g0 : Bool}
    {H₀ : Params → Heap} {T₀ : Params → BT} {life : Life} {gs₀ : Array GenState} {d₀ : Drawn} {k₀ : Nat}
    (o : ∀ w : World, (fencedOpening treeTable p w N).map (fun s => (s.heap, s.gens, s.drawn, s.toks)) = some (H₀ w.params, gs₀, d₀, k₀))
    (hT : ∀ P, H₀ P = absHeap (T₀ P) m₀ life) (hz : gs₀.size = 0)
    (size : ∀ P, ((H₀ P).isNs mainGlobals, (H₀ P).objs.size, (H₀ P).nsMap mainGlobals "__annotations__") = (true, m₀, ann))
    (h : ∀ (w : World) (os : OsState), (treeRun (stepT (denote treeTable) p w) m₀ ann N ⟨T₀ w.params, m₀, life, gs₀, d₀, k₀, os⟩ (topStub p)).map
      (fun s => (((staticsOk (importedModules p.main.body) (H₀ w.params) s.abs.heap && namesBound p s.abs.heap) && gensDone s.abs && laidKept (H₀ w.params) s.abs.heap), openSeen q loose (importedModules p.main.body) Xt g0 s.abs, Yf s.abs)) = some (true, openGood q loose, Ya w)) :
    LeftO p q loose Xt Yf Ya N g0 := fun w => by
  obtain ⟨⟨hp, gs, d, k, os⟩, e, e'⟩ := Option.map_eq_some_iff.mp (o w)
  cases e'
  obtain ⟨s', r1, r2⟩ := Option.map_eq_some_iff.mp (h w os)
  have r3 := treeRun_topRun _ _ _ _ r1
  have es : (⟨H₀ w.params, gs, d, k, os⟩ : Shared) = SharedT.abs ⟨T₀ w.params, m₀, life, gs, d, k, os⟩ := by
    show Shared.mk _ _ _ _ _ = Shared.mk _ _ _ _ _
    rw [hT w.params]
  obtain ⟨z1, z2⟩ := Prod.mk.inj (size w.params)
  obtain ⟨z2, z3⟩ := Prod.mk.inj z2
  obtain ⟨y1, y2⟩ := Prod.mk.inj r2
  have F : topFrom treeTable p w N ⟨H₀ w.params, gs, d, k, os⟩ = some s'.abs := by
    unfold topFrom
    show (match (H₀ w.params).isNs mainGlobals && gs.size == 0 with
      | true => (topRun treeTable p w (H₀ w.params).objs.size ((H₀ w.params).nsMap mainGlobals "__annotations__") N ⟨H₀ w.params, gs, d, k, os⟩ (topStub p)).bind fun s₁ =>
          match staticsOk (importedModules p.main.body) (H₀ w.params) s₁.heap && namesBound p s₁.heap && gensDone s₁ && laidKept (H₀ w.params) s₁.heap with | true => some s₁ | false => none
      | false => none) = some s'.abs
    rw [z1, hz, z2, z3, es, r3]
    show (match staticsOk (importedModules p.main.body) (H₀ w.params) s'.abs.heap && namesBound p s'.abs.heap && gensDone s'.abs && laidKept (H₀ w.params) s'.abs.heap with | true => some s'.abs | false => none) = some s'.abs
    rw [y1]
  unfold openEnds
  rw [e]
  show Option.map _ (topFrom treeTable p w N _) = _
  rw [F]
  exact congrArg some y2
set_option Elab.async false
noncomputable def hd.view_39 : Program := view PySem.Challenge.pw_yd0002_02 [0,2,3,5,6,7,8]
local macro_rules | `(tactic| o_head $H) => `(tactic|
  refine holds_open (q := hd.view_39) (loose := []) (Xt := fun s => xlAt hd.view_39 [] s && recOk (RowW.records (PySem.Challenge.rw_yd0002_02.row.toRowW)) s)
    (XP := XL hd.view_39 []) (Yf := Hook.obs $H) (Ya := Hook.val $H) (YP := Hook.says $H) (N := 2940)
    (left_once (m₀ := 11) (ann := some (.ref 6)) (life := {}) (T₀ := fun P => growT (boot_heap P).objs.toList) (boot_open (by kernel_rfl) (by kernel_rfl) (fun s => by kernel_rfl)) (fun P => by kernel_rfl) rfl (fun P => by kernel_rfl)
      (by intro w os; rw [PySem.W.Fast.te10156331382660048174, PySem.W.Fast.te11892475500146522536, PySem.W.Fast.te14364793385576792824, PySem.W.Fast.te4187177175401517315]; kernel_rfl)) (Hook.of $H) (Hook.keeps $H)
    (fun s e => xl_of s (Bool.and_eq_true_iff.mp e).1) XL.keeps (by rfl) (by rfl) (by rfl) (fun s e => recFacts_of (Bool.and_eq_true_iff.mp e).2)
    (by rfl) (by first | assumption | decide +kernel) (by decide +kernel) ⟨rfl, rfl, rfl, rfl, rfl, by decide +kernel⟩ ?hw ?hc)
local macro_rules | `(tactic| o_head (kHook $K $as $e)) => `(tactic| o_head (kmHook $K $as $e [235]))
set_option maxRecDepth 100000 in
set_option maxHeartbeats 20000000 in
open_top hd for PySem.Challenge.rw_yd0002_02
theorem calm : True := by
  w_top off
  exact trivial
end Mine
section
open PySem PySem.W PyProof.Rows
namespace Mine
/-- the value of a row of digits at w -/
noncomputable def ev (w : Int) : List Int → Int
  | [] => 0
  | c :: r => c + w * ev w r
def gg (a : List Int) (i : Nat) : Int := a.getD i 0
def lowK (a b : List Int) (k : Nat) : Int := ((List.range (k + 1)).map fun i => gg a i * gg b (k - i)).sum
def highK (n : Nat) (a b : List Int) (k : Nat) : Int := ((List.range (n - 1 - k)).map fun t => gg a (n - 1 - t) * gg b (k + 1 + t)).sum
/-- coefficient k of the product modulo x^n + 1 -/
def convK (n : Nat) (a b : List Int) (k : Nat) : Int := lowK a b k - highK n a b k
def conv (n : Nat) (a b : List Int) : List Int := (List.range n).map (convK n a b)
def hiL (n : Nat) (a b : List Int) : List Int := (List.range n).map (highK n a b)

theorem conv_length (n : Nat) (a b : List Int) : (conv n a b).length = n := by simp [conv]
theorem gg_conv {n : Nat} {a b : List Int} {k : Nat} (h : k < n) : gg (conv n a b) k = convK n a b k := by
  simp [gg, conv, List.getD, h]

theorem len1 {a : List Int} (h : a.length = 1) : ∃ x, a = [x] := by
  match a, h with
  | [x], _ => exact ⟨x, rfl⟩
theorem conv_ev {n : Nat} (h0 : 1 ≤ n) (h1 : n ≤ 6) {w : Int} {a b : List Int} (ha : a.length = n) (hb : b.length = n) :
    ev w a * ev w b = ev w (conv n a b) + (w ^ n + 1) * ev w (hiL n a b) := by
  have hn : n = 1 ∨ n = 2 ∨ n = 3 ∨ n = 4 ∨ n = 5 ∨ n = 6 := by omega
  rcases hn with rfl | rfl | rfl | rfl | rfl | rfl
  · match a, b, ha, hb with
    | [a0], [b0], _, _ =>
      simp [conv, convK, lowK, hiL, highK, gg, ev, List.range, List.range.loop]
  · match a, b, ha, hb with
    | [a0, a1], [b0, b1], _, _ =>
      simp [conv, convK, lowK, hiL, highK, gg, ev, List.range, List.range.loop]
      grind
  · match a, b, ha, hb with
    | [a0, a1, a2], [b0, b1, b2], _, _ =>
      simp [conv, convK, lowK, hiL, highK, gg, ev, List.range, List.range.loop]
      grind
  · match a, b, ha, hb with
    | [a0, a1, a2, a3], [b0, b1, b2, b3], _, _ =>
      simp [conv, convK, lowK, hiL, highK, gg, ev, List.range, List.range.loop]
      grind
  · match a, b, ha, hb with
    | [a0, a1, a2, a3, a4], [b0, b1, b2, b3, b4], _, _ =>
      simp [conv, convK, lowK, hiL, highK, gg, ev, List.range, List.range.loop]
      grind
  · match a, b, ha, hb with
    | [a0, a1, a2, a3, a4, a5], [b0, b1, b2, b3, b4, b5], _, _ =>
      simp [conv, convK, lowK, hiL, highK, gg, ev, List.range, List.range.loop]
      grind

/-- congruent modulo q -/
def Cong (q x y : Int) : Prop := ∃ t, x = y + q * t
theorem Cong.refl (q x : Int) : Cong q x x := ⟨0, by simp⟩
theorem Cong.symm {q x y : Int} (h : Cong q x y) : Cong q y x := by
  obtain ⟨t, e⟩ := h
  exact ⟨-t, by rw [e, Int.mul_neg]; omega⟩
theorem Cong.trans {q x y z : Int} (h : Cong q x y) (h' : Cong q y z) : Cong q x z := by
  obtain ⟨t, e⟩ := h
  obtain ⟨u, e'⟩ := h'
  exact ⟨u + t, by rw [e, e', Int.mul_add]; omega⟩
theorem Cong.add {q x y x' y' : Int} (h : Cong q x y) (h' : Cong q x' y') : Cong q (x + x') (y + y') := by
  obtain ⟨t, e⟩ := h
  obtain ⟨u, e'⟩ := h'
  exact ⟨t + u, by rw [e, e', Int.mul_add]; omega⟩
theorem Cong.sub {q x y x' y' : Int} (h : Cong q x y) (h' : Cong q x' y') : Cong q (x - x') (y - y') := by
  obtain ⟨t, e⟩ := h
  obtain ⟨u, e'⟩ := h'
  exact ⟨t - u, by rw [e, e', Int.mul_sub]; omega⟩
theorem Cong.mul {q x y x' y' : Int} (h : Cong q x y) (h' : Cong q x' y') : Cong q (x * x') (y * y') := by
  obtain ⟨t, e⟩ := h
  obtain ⟨u, e'⟩ := h'
  exact ⟨y * u + t * y' + t * (q * u), by rw [e, e']; grind⟩
theorem fmod_cong {q : Int} (hq : 0 < q) (x : Int) : Cong q (x.fmod q) x := by
  refine ⟨-(x.fdiv q), ?_⟩
  have h := Int.mul_fdiv_add_fmod x q
  rw [Int.mul_neg]
  omega
theorem Cong.fmod {q x y : Int} (hq : 0 < q) (h : Cong q x y) : x.fmod q = y.fmod q := by
  obtain ⟨t, e⟩ := h
  rw [e, Int.fmod_eq_emod_of_nonneg _ (Int.le_of_lt hq), Int.fmod_eq_emod_of_nonneg _ (Int.le_of_lt hq), Int.add_mul_emod_self_left]
theorem cong_sum {q : Int} {f g : Nat → Int} : ∀ {l : List Nat}, (∀ i ∈ l, Cong q (f i) (g i)) → Cong q (l.map f).sum (l.map g).sum
  | [], _ => .refl _ _
  | i :: r, h => by
    rw [List.map_cons, List.map_cons, List.sum_cons, List.sum_cons]
    exact (h i (.head _)).add (cong_sum fun j hj => h j (.tail _ hj))
theorem conv_cong {q : Int} {n : Nat} {a b a' b' : List Int} (ha : ∀ u, Cong q (gg a u) (gg a' u)) (hb : ∀ u, Cong q (gg b u) (gg b' u)) (k : Nat) : Cong q (convK n a b k) (convK n a' b' k) :=
  (cong_sum fun i _ => (ha i).mul (hb _)).sub (cong_sum fun t _ => (ha _).mul (hb _))

/-- bounds -/
def Bd (B x : Int) : Prop := -B ≤ x ∧ x ≤ B
theorem bd_sum {B : Int} {f : Nat → Int} : ∀ {l : List Nat}, (∀ i ∈ l, Bd B (f i)) → Bd (l.length * B) (l.map f).sum
  | [], _ => by simp [Bd]
  | i :: r, h => by
    have h1 := h i (.head _)
    have h2 := bd_sum (l := r) fun j hj => h j (.tail _ hj)
    rw [List.map_cons, List.sum_cons, List.length_cons]
    unfold Bd at *
    rw [show ((r.length + 1 : Nat) : Int) * B = (r.length : Int) * B + B by rw [Int.natCast_add, Int.add_mul]; simp]
    omega
theorem bd_mul {A B x y : Int} (hA : 0 ≤ A) (hx : Bd A x) (hy : Bd B y) : Bd (A * B) (x * y) := by
  unfold Bd at *
  have hB : 0 ≤ B := by omega
  constructor
  · have h1 : 0 ≤ (A - x) * (B + y) := Int.mul_nonneg (by omega) (by omega)
    have h2 : 0 ≤ (A + x) * (B - y) := Int.mul_nonneg (by omega) (by omega)
    have h3 : 0 ≤ (A - x) * (B - y) := Int.mul_nonneg (by omega) (by omega)
    have h4 : 0 ≤ (A + x) * (B + y) := Int.mul_nonneg (by omega) (by omega)
    grind
  · have h1 : 0 ≤ (A - x) * (B + y) := Int.mul_nonneg (by omega) (by omega)
    have h2 : 0 ≤ (A + x) * (B - y) := Int.mul_nonneg (by omega) (by omega)
    grind
theorem bd_conv {n : Nat} {a b : List Int} {A B : Int} {k : Nat} (hk : k < n) (hA : 0 ≤ A) (ha : ∀ u, Bd A (gg a u)) (hb : ∀ u, Bd B (gg b u)) : Bd (n * (A * B)) (convK n a b k) := by
  have h1 := bd_sum (l := List.range (k + 1)) fun i _ => bd_mul hA (ha i) (hb (k - i))
  have h2 := bd_sum (l := List.range (n - 1 - k)) fun t _ => bd_mul hA (ha (n - 1 - t)) (hb (k + 1 + t))
  rw [List.length_range] at h1 h2
  have e : ((k + 1 : Nat) : Int) * (A * B) + ((n - 1 - k : Nat) : Int) * (A * B) = (n : Int) * (A * B) := by
    rw [← Int.add_mul]
    congr 1
    omega
  unfold convK lowK highK
  unfold Bd at *
  generalize A * B = P at *
  omega

end Mine
end
section
open PySem PySem.W PyProof.Rows
namespace Mine
/-- L stands, modulo q, for an exact product of k rows whose value at w is V -/
def Rep (q : Int) (n : Nat) (C w : Int) (k : Nat) (V : Int) (L : List Int) : Prop :=
  ∃ E : List Int, L.length = n ∧ E.length = n ∧ (∀ u, Cong q (gg L u) (gg E u)) ∧ (∀ u, Bd (C ^ k) (n * gg E u)) ∧ Cong (w ^ n + 1) (ev w E) V
theorem gg_out {L : List Int} {u : Nat} (h : L.length ≤ u) : gg L u = 0 := by simp [gg, List.getD, h]
theorem rep_row {q : Int} {n : Nat} {B w : Int} {L : List Int} (hn : 1 ≤ n) (hL : L.length = n) (hB : ∀ u, Bd B (gg L u)) : Rep q n (n * B) w 1 (ev w L) L := by
  refine ⟨L, hL, hL, fun _ => .refl _ _, fun u => ?_, .refl _ _⟩
  have h := hB u
  rw [Int.pow_one]
  have h0 : 0 ≤ (n : Int) := Int.natCast_nonneg n
  unfold Bd at *
  constructor
  · have := Int.mul_le_mul_of_nonneg_left h.1 h0
    rw [Int.mul_neg] at this
    exact this
  · exact Int.mul_le_mul_of_nonneg_left h.2 h0
theorem gg_map {f : Int → Int} {L : List Int} {u : Nat} (h : u < L.length) : gg (L.map f) u = f (gg L u) := by simp [gg, List.getD, h]
theorem bd_up {A B x : Int} (h : Bd A x) (hAB : A ≤ B) : Bd B x := by unfold Bd at *; omega
theorem rep_mul {q : Int} {n : Nat} {C w : Int} {k k' : Nat} {V V' : Int} {L L' : List Int} (hq : 0 < q) (hn : 1 ≤ n) (hn6 : n ≤ 6) (hC : 0 ≤ C) (h : Rep q n C w k V L) (h' : Rep q n C w k' V' L') :
    Rep q n C w (k + k') (V * V') ((conv n L L').map (fun c => c.fmod q)) := by
  obtain ⟨E, l1, e1, c1, b1, v1⟩ := h
  obtain ⟨E', l2, e2, c2, b2, v2⟩ := h'
  refine ⟨conv n E E', by rw [List.length_map, conv_length], conv_length _ _ _, fun u => ?_, fun u => ?_, ?_⟩
  · by_cases hu : u < n
    · rw [gg_map (by rw [conv_length]; exact hu), gg_conv hu, gg_conv hu]
      exact (fmod_cong hq _).trans (conv_cong c1 c2 u)
    · rw [gg_out (by rw [List.length_map, conv_length]; omega), gg_out (by rw [conv_length]; omega)]
      exact .refl _ _
  · have hp : (0 : Int) ≤ C ^ k := Int.pow_nonneg hC
    have hp' : (0 : Int) ≤ C ^ k' := Int.pow_nonneg hC
    by_cases hu : u < n
    · rw [gg_conv hu, Int.pow_add]
      have hnp : (0 : Int) < n := by omega
      -- scale both rows by n
      have ha : ∀ v, Bd (C ^ k) (gg (E.map (fun c => n * c)) v) := fun v => by
        by_cases hv : v < E.length
        · rw [gg_map hv]; exact b1 v
        · rw [gg_out (by rw [List.length_map]; omega)]
          unfold Bd; omega
      have hb : ∀ v, Bd (C ^ k') (gg (E'.map (fun c => n * c)) v) := fun v => by
        by_cases hv : v < E'.length
        · rw [gg_map hv]; exact b2 v
        · rw [gg_out (by rw [List.length_map]; omega)]
          unfold Bd; omega
      have h3 := bd_conv (k := u) hu hp ha hb
      have e : convK n (E.map (fun c => n * c)) (E'.map (fun c => n * c)) u = n * (n * convK n E E' u) := by
        have g1 : ∀ v, gg (E.map (fun c => n * c)) v = n * gg E v := fun v => by
          by_cases hv : v < E.length
          · rw [gg_map hv]
          · rw [gg_out (by rw [List.length_map]; omega), gg_out (by omega), Int.mul_zero]
        have g2 : ∀ v, gg (E'.map (fun c => n * c)) v = n * gg E' v := fun v => by
          by_cases hv : v < E'.length
          · rw [gg_map hv]
          · rw [gg_out (by rw [List.length_map]; omega), gg_out (by omega), Int.mul_zero]
        have s : ∀ (l : List Nat) (f g : Nat → Nat), (l.map fun i => gg (E.map (fun c => n * c)) (f i) * gg (E'.map (fun c => n * c)) (g i)).sum = n * (n * (l.map fun i => gg E (f i) * gg E' (g i)).sum) := by
          intro l f g
          induction l with
          | nil => simp
          | cons i r ih =>
            rw [List.map_cons, List.map_cons, List.sum_cons, List.sum_cons, ih, g1, g2]
            grind
        unfold convK lowK highK
        rw [s (List.range (u + 1)) (fun i => i) (fun i => u - i), s (List.range (n - 1 - u)) (fun t => n - 1 - t) (fun t => u + 1 + t)]
        grind
      rw [e] at h3
      unfold Bd at *
      generalize C ^ k * C ^ k' = P at *
      generalize n * convK n E E' u = Z at *
      constructor
      · have : -((n : Int) * P) ≤ n * Z := h3.1
        rw [← Int.mul_neg] at this
        exact Int.le_of_mul_le_mul_left this hnp
      · exact Int.le_of_mul_le_mul_left h3.2 hnp
    · rw [gg_out (by rw [conv_length]; omega), Int.mul_zero, Int.pow_add]
      have := Int.mul_nonneg hp hp'
      unfold Bd; omega
  · have h3 := conv_ev hn hn6 (w := w) e1 e2
    have : Cong (w ^ n + 1) (ev w (conv n E E')) (ev w E * ev w E') := ⟨-(ev w (hiL n E E')), by rw [h3, Int.mul_neg]; omega⟩
    exact this.trans (v1.mul v2)

/-- the digits of a number to the base w, each nearest to nought, modulo q -/
noncomputable def digs (w q : Int) : Nat → Int → List Int
  | 0, _ => []
  | n + 1, v => (if 2 * v.fmod w > w then v.fmod w - w else v.fmod w).fmod q :: digs w q n ((v - (if 2 * v.fmod w > w then v.fmod w - w else v.fmod w)).fdiv w)
theorem digs_ev {C w q : Int} (hC : 0 ≤ C) (hw : w = 2 * C + 2) : ∀ {E : List Int}, (∀ u, Bd C (gg E u)) → digs w q E.length (ev w E) = E.map (fun c => c.fmod q)
  | [], _ => rfl
  | c :: r, h => by
    have hc : Bd C c := h 0
    have ih := digs_ev (q := q) hC hw (E := r) fun u => h (u + 1)
    have hw0 : 0 < w := by omega
    unfold Bd at hc
    have e1 : (if 2 * (ev w (c :: r)).fmod w > w then (ev w (c :: r)).fmod w - w else (ev w (c :: r)).fmod w) = c := by
      have ee : ev w (c :: r) = c + w * ev w r := rfl
      have em : (c + w * ev w r).fmod w = c.fmod w := Cong.fmod hw0 ⟨ev w r, rfl⟩
      rw [ee, em]
      by_cases h0 : 0 ≤ c
      · have : c.fmod w = c := by rw [Int.fmod_eq_emod_of_nonneg _ (by omega)]; exact Int.emod_eq_of_lt h0 (by omega)
        rw [this, if_neg (by omega)]
      · have : c.fmod w = c + w := by
          have e3 : c.fmod w = (c + w * 1).fmod w := (Cong.fmod hw0 ⟨1, rfl⟩).symm
          rw [e3, Int.mul_one, Int.fmod_eq_emod_of_nonneg _ (by omega)]
          exact Int.emod_eq_of_lt (by omega) (by omega)
        rw [this, if_pos (by omega)]
        omega
    have e2 : (ev w (c :: r) - c).fdiv w = ev w r := by
      have ee : ev w (c :: r) - c = w * ev w r := by show c + w * ev w r - c = _; omega
      rw [ee, Int.fdiv_eq_ediv_of_nonneg _ (by omega)]
      exact Int.mul_ediv_cancel_left _ (by omega)
    rw [List.length_cons]
    unfold digs
    rw [e1, e2, ih, List.map_cons]
theorem ev_small {C w : Int} (hC : 0 ≤ C) (hw : w = 2 * C + 2) : ∀ {E : List Int}, (∀ u, Bd C (gg E u)) → Bd (C * (w ^ E.length - 1)) (ev w E * (w - 1))
  | [], _ => by simp [Bd, ev]
  | c :: r, h => by
    have hc : Bd C c := h 0
    have ih := ev_small hC hw (E := r) fun u => h (u + 1)
    have hw0 : 0 < w := by omega
    rw [List.length_cons, Int.pow_succ]
    have e : ev w (c :: r) * (w - 1) = c * (w - 1) + w * (ev w r * (w - 1)) := by show (c + w * ev w r) * (w - 1) = _; grind
    rw [e]
    have h1 := bd_mul (A := C) (B := w - 1) hC hc (y := w - 1) (by unfold Bd; omega)
    have h2 := bd_mul (A := w) (x := w) (by omega) (by unfold Bd; omega) ih
    unfold Bd at *
    generalize ev w r * (w - 1) = Z at *
    generalize w ^ r.length = P at *
    have e2 : C * (P * w - 1) = C * (w - 1) + w * (C * (P - 1)) := by grind
    rw [e2]
    omega
/-- nearest to nought -/
def nearest (m v : Int) : Int := if 2 * v > m then v - m else v
theorem nearest_ev {C w V v : Int} {E : List Int} (hC : 0 ≤ C) (hw : w = 2 * C + 2) (hE : ∀ u, Bd C (gg E u)) (hV : Cong (w ^ E.length + 1) (ev w E) V) (hv : Cong (w ^ E.length + 1) v V) (h0 : 0 ≤ v) (h1 : v < w ^ E.length + 1) :
    nearest (w ^ E.length + 1) v = ev w E := by
  have hs := ev_small hC hw hE
  have hP : (0 : Int) < w ^ E.length := Int.pow_pos (by omega)
  generalize w ^ E.length = P at *
  generalize ev w E = Z at *
  unfold Bd at hs
  have k1 : 2 * Z < P + 1 := by
    apply Int.not_le.mp
    intro hle
    have q1 : (P + 1) * (w - 1) ≤ 2 * Z * (w - 1) := Int.mul_le_mul_of_nonneg_right hle (by omega)
    have q2 : 2 * Z * (w - 1) = 2 * (Z * (w - 1)) := by grind
    have q3 : 2 * (C * (P - 1)) = (w - 2) * (P - 1) := by subst hw; grind
    have q4 : (P + 1) * (w - 1) = (w - 2) * (P - 1) + P + 2 * w - 3 := by grind
    omega
  have k2 : -(P + 1) < 2 * Z := by
    apply Int.not_le.mp
    intro hle
    have q1 : 2 * Z * (w - 1) ≤ -(P + 1) * (w - 1) := Int.mul_le_mul_of_nonneg_right hle (by omega)
    have q2 : 2 * Z * (w - 1) = 2 * (Z * (w - 1)) := by grind
    have q3 : 2 * (C * (P - 1)) = (w - 2) * (P - 1) := by subst hw; grind
    have q4 : -(P + 1) * (w - 1) = -((w - 2) * (P - 1) + P + 2 * w - 3) := by grind
    omega
  obtain ⟨t, e⟩ := hv.trans hV.symm
  have ht : t = 0 ∨ t = 1 := by
    have t1 : -1 < t := by
      apply Int.not_le.mp
      intro hle
      have : (P + 1) * t ≤ (P + 1) * (-1) := Int.mul_le_mul_of_nonneg_left hle (by omega)
      omega
    have t2 : t < 2 := by
      apply Int.not_le.mp
      intro hle
      have : (P + 1) * 2 ≤ (P + 1) * t := Int.mul_le_mul_of_nonneg_left hle (by omega)
      omega
    omega
  unfold nearest
  rcases ht with rfl | rfl
  · rw [Int.mul_zero] at e
    rw [if_neg (by omega)]
    omega
  · rw [Int.mul_one] at e
    rw [if_pos (by omega)]
    omega
/-- the whole law, in plain numbers -/
theorem rep_digs {q : Int} {n k : Nat} {C w V v : Int} {L : List Int} (hq : 0 < q) (hn : 1 ≤ n) (hC : 0 ≤ C) (hw : w = 2 * C ^ k + 2) (h : Rep q n C w k V L) (hL : ∀ u, u < n → (gg L u).fmod q = gg L u)
    (hv : Cong (w ^ n + 1) v V) (h0 : 0 ≤ v) (h1 : v < w ^ n + 1) : L = digs w q n (nearest (w ^ n + 1) v) := by
  obtain ⟨E, l1, e1, c1, b1, v1⟩ := h
  have hb : ∀ u, Bd (C ^ k) (gg E u) := fun u => by
    have h3 := b1 u
    have hn0 : (1 : Int) ≤ n := by omega
    have hp : (0 : Int) ≤ C ^ k := Int.pow_nonneg hC
    unfold Bd at *
    generalize C ^ k = P at *
    generalize gg E u = Z at *
    constructor
    · apply Int.not_lt.mp
      intro hlt
      have : (n : Int) * Z ≤ n * (-P - 1) := Int.mul_le_mul_of_nonneg_left (by omega) (by omega)
      have q1 : (n : Int) * (-P - 1) ≤ 1 * (-P - 1) := by
        have := Int.mul_le_mul_of_nonneg_right hn0 (show (0 : Int) ≤ P + 1 by omega)
        have q2 : (n : Int) * (-P - 1) = -(n * (P + 1)) := by grind
        omega
      omega
    · apply Int.not_lt.mp
      intro hlt
      have : (n : Int) * (P + 1) ≤ n * Z := Int.mul_le_mul_of_nonneg_left (by omega) (by omega)
      have := Int.mul_le_mul_of_nonneg_right hn0 (show (0 : Int) ≤ P + 1 by omega)
      omega
  have hP : (0 : Int) ≤ C ^ k := Int.pow_nonneg hC
  rw [← e1] at v1 hv h1 ⊢
  rw [nearest_ev hP hw hb v1 hv h0 h1, digs_ev hP hw hb]
  apply List.ext_getElem
  · rw [List.length_map]; omega
  · intro i i1 i2
    rw [List.getElem_map]
    have g1 : gg L i = L[i] := by simp [gg, List.getD, i1]
    have g2 : gg E i = E[i]'(by omega) := by simp [gg, List.getD, show i < E.length by omega]
    have := hL i (by omega)
    rw [← g1, ← g2, ← this]
    exact Cong.fmod hq (c1 i)

end Mine
end
section
open PySem PySem.W PySem.Spec PySem.Calls PyProof.Rows
namespace Mine
theorem genCode2 {M : Model} {A : Around} {E : Value → Shared → Prop} {s : Shared} {env : Env} {c P : Addr} {ps : Array Value} {pos : Pos} {qn : Str} {scope : Scope} {Q : Value → Shared → Prop}
    (hc : env.code = .ref c) (C : CodeHd s.heap c P) (hP : s.heap.get? P = some (tabObj ps)) (ht : TriplesOk ps.toList)
    (hQ : ∀ code ps' h' tk, Heap.ExtBut P s.heap h' → s.heap.objs.size ≤ h'.objs.size → h'.get? P = some (tabObj ps') → TriplesOk ps'.toList → Q code { s with heap := h', toks := tk }) :
    wpAny M A (genexprCode env pos qn scope) Q E s := by
  cases e : codeAmong pos ps.toList with
  | some c' => exact wpAny_genexprCode_hit hc (C.code hP ht) e (hQ c' ps s.heap s.toks (fun _ _ _ e => e) (Nat.le_refl _) hP ht)
  | none =>
    refine wpAny_genexprCodeX hc (C.code hP ht) (C.tab hP) e fun c' h' tk hx hge hlt hcode _ htab _ => hQ _ _ h' tk hx (Nat.le_trans hge (Nat.le_of_lt hlt)) htab.2 ?_
    obtain ⟨_, _, _, _, _, _, _, _, _, op, _, _, _, _, _, _, _, hop, hpd, htr, _⟩ := hcode
    exact htr
theorem passing_tt (n : Nat) : passing (fun _ => true) n 0 = List.range n := by simp [passing]
def GenSrc (prog : Program) (w : World) (A : Around) (h₀ : Heap) (L : Addr) (m : Str → Option Value) (P : Addr) (x : Str) (elt : Expr) (scope : Scope) (cl : List (Str × Addr)) (env : Env) (n : Nat) (Q : Value → Shared → Prop) (it : Value) (s₂ : Shared) : Prop :=
  ∃ (I K : Addr) (news : List (Addr × Obj)) (g : Obj → List (Addr × Obj)) (ps : Array Value) (F : Nat → Value → Prop), it = .ref I ∧ Fr h₀ L s₂.heap m ∧ News h₀ L s₂.heap news ∧ UpdF P (tabObj ps) news g ∧ TriplesOk ps.toList ∧ AllBare s₂.gens ∧
    IsRangeIter s₂.heap I 0 n 1 ∧ @LE.le Nat _ L K ∧ @LT.lt Nat _ K I ∧ (∀ p ∈ news, @LE.le Nat _ p.1 K) ∧
    (∀ (code : Value) (C : Addr) (A' : Around) E' (i : Nat) (tk : Tok) (t : Shared) m₂, A'.handled = none → A'.depth ≤ A.depth + 1 → A'.units ≤ A.units + 8 → i < n → t.heap.Ns C m₂ → m₂ x = some (.int i tk) →
      (∀ p ∈ news, p.1 ≠ P → t.heap.get? p.1 = some p.2) → (∀ b o, h₀.get? b = some o → t.heap.get? b = some o) →
      wpAny (model prog w) A' (eval elt (genEnv scope cl C code builtinsNs env)) (fun y s₃ => F i y ∧ Keeps t s₃) E' t) ∧
    (∀ (ps' : Array Value) (a : Addr) (s₅ : Shared), TriplesOk ps'.toList → Fr h₀ L s₅.heap m → News h₀ L s₅.heap (g (tabObj ps')) → AllBare s₅.gens → s₅.os = s₂.os →
      Gen prog w A K a n F s₅ → Q (.ref a) s₅)
theorem gen_K {prog p : Program} {w : World} {A : Around} {E : Value → Shared → Prop} {s : Shared} {h₀ : Heap} {L a₀ c P : Addr} {m mg mb : Str → Option Value} {mean : ExcName → Option Value} {loose : List Str} {cn : Str} {cs : Scope} {ccd : Value} {cl₀ : List (Str × Addr)}
    {elt iter : Expr} {x : Str} {px : Pos} {scope : Scope} {cl : List (Str × Addr)} {pos : Pos} {Q : Value → Shared → Prop} {n : Nat}
    (_F₀ : Fr h₀ L s.heap m) (T : Top p loose mean mg mb h₀) (C : CodeHd h₀ c P) (hcd : ccd = .ref c) (hh : A.handled = none) (hco : scope.isCoroutine = false) (hclos : closureFor scope (envX cn cs L a₀ ccd cl₀) = pure cl)
    (hcell : ∀ y ∈ scope.names, y.2 ≠ .cell) (h0 : scope.names.lookup (".0" : Str) = some NameKind.local)
    (hx : scope.names.lookup x = some .local) (hkind : scope.kind = .function) (hroom : A.depth < recursionLimit) (hs : ∀ x, genFold iter (envX cn cs L a₀ ccd cl₀) x = pure x)
    (h : wpAny (model prog w) A (eval iter (envX cn cs L a₀ ccd cl₀)) (fun xv s₁ => wpAny (model prog w) A (pyIter xv) (GenSrc prog w A h₀ L m P x elt scope cl (envX cn cs L a₀ ccd cl₀) n Q) E s₁) E s) :
    wpAny (model prog w) A (eval (.GeneratorExp elt [⟨.Name x px, iter, [], 0⟩] scope pos) (envX cn cs L a₀ ccd cl₀)) Q E s := by
  refine wpAny_GeneratorExp_walksQD hh hco hclos hcell h0 hx hkind hroom (wpAny_mono h (fun xv s₁ h₁' => wpAny_mono h₁' (fun it s₂ h₂ => ?_) fun _ _ e => e) fun _ _ e => e) hs
  obtain ⟨I, K, news, g, ps, F, rfl, F₂, N₂, U, ht, G₂, hit, hLK, hKI, hNK, hel, hQ⟩ := h₂
  obtain ⟨own, rest, rfl, hgr, u1, u2⟩ := U.split
  have hm := N₂ (P, tabObj ps) (List.mem_append_right _ (.head _))
  have hPK : @LE.le Nat _ P K := hNK (P, tabObj ps) (List.mem_append_right _ (.head _))
  have hPI : P ≠ I := fun q => by
    rw [q] at hPK
    exact Nat.lt_irrefl _ (Nat.lt_of_lt_of_le hKI hPK)
  have hlim₀ := T.nolimit
  have hlim := T.nolimit.keeps F₂.keep
  have hcs : @LT.lt Nat _ cStatics L := Nat.lt_of_lt_of_le (let ⟨_, hns, _⟩ := T.nolimit; hns.lt) F₂.above
  have hcI : cStatics ≠ I := fun q => by
    rw [q] at hcs
    exact Nat.lt_irrefl _ (Nat.lt_trans (Nat.lt_of_lt_of_le hcs hLK) hKI)
  have hcP : cStatics ≠ P := fun e => by
    obtain ⟨_, hns, _⟩ := hlim₀
    obtain ⟨o, es, ep, ho, hd, _⟩ := hns
    rw [e, hm.2.2] at ho; cases ho
  have hIlt : I < s₂.heap.objs.size := Heap.lt_size hit
  have hgs := T.g.keeps F₂.keep
  obtain ⟨bm, ob, b1, b2, b3, b4, b5, b6⟩ := T.bmain
  have hgP : mainGlobals ≠ P := fun q => by
    obtain ⟨o, es, ep, e, hd, _⟩ := T.g
    rw [q, hm.2.2] at e; cases e
  have hbP : bm ≠ P := fun q => by rw [q, hm.2.2] at b3; cases b3
  refine ⟨hlim, genCode2 hcd (C.keeps F₂.keep) hm.1 ht fun code ps' h₃ tk₃ hx₃ hsz hP₃ ht' => ?_⟩
  have old : ∀ b o, h₀.get? b = some o → h₃.get? b = some o := fun b o e => hx₃ b o (fun q => by rw [q, hm.2.2] at e; cases e) (F₂.keep b o e)
  have hl₃ : h₃.NoLimit := hlim.extBut hx₃ hcP
  have bb : bm ≠ builtinsNs := b2
  refine wpAny_builtinsFor (T.g.keeps old) b1 b2 (old _ _ b3) b4 b5 b6 ?_
  have hIsz : I < h₃.objs.size := Nat.lt_of_lt_of_le hIlt hsz
  have F₃ : Fr h₀ L h₃ m := ⟨F₂.ns.extBut hx₃ hm.2.1.symm, old, F₂.above⟩
  have N₃ : News h₀ L h₃ (g (tabObj ps')) := fun q hq => by
    rw [hgr] at hq
    rcases List.mem_append.mp hq with hq | hq
    · have n := N₂ q (List.mem_append_left _ hq)
      exact ⟨hx₃ _ _ (u1 q hq) n.1, n.2⟩
    · rcases List.mem_cons.mp hq with rfl | hq
      · exact ⟨hP₃, hm.2⟩
      · have n := N₂ q (List.mem_append_right _ (.tail _ hq))
        exact ⟨hx₃ _ _ (u2 q hq) n.1, n.2⟩
  refine ⟨I, [I], [I], n, _, _, fun _ => true, F, rfl, (fun A' hA => (Walks.range hA I 0 1 n).bound), ?_, ?_, hl₃, (fun hm => hcI (List.mem_singleton.mp hm)),
    (fun href hhref => ?_), fun a h₅ tk gs hgb hag hsz₅ hk₅ W hat => ?_⟩
  · have e1 : ((0 : Int) + ((0 : Nat) : Int) * 1) = 0 := by omega
    have e2 : ((n : Int) - ((0 : Nat) : Int)) = n := by omega
    show IsRangeIter h₃ I ((0 : Int) + ((0 : Nat) : Int) * 1) ((n : Int) - ((0 : Nat) : Int)) 1
    rw [e1, e2]
    exact (Walks.range (prog := prog) (w := w) (A := A) hh I 0 1 n).frame 0 s₂.heap h₃ (by rw [e1, e2]; exact hit) (fun b hb o e => hx₃ b o (fun q => hPI (by rw [← q]; exact List.mem_singleton.mp hb)) e) |> fun z => by rw [e1, e2] at z; exact z
  · intro b hb
    rw [List.mem_singleton.mp hb]
    exact hIsz
  · refine ⟨fun A' E' i v t m₂ hA hD hU hP hn hm' hkp => ?_, fun A' E' i v t m₂ hA hD hU hP hp hn hm' hkp => ?_⟩
    · exact wpAny_pure ⟨rfl, _, _, rfl, fun _ _ e => e⟩
    · obtain ⟨hiI, tk, rfl⟩ := hP
      have hkp' : ∀ b o, b ≠ I → h₃.get? b = some o → t.heap.get? b = some o := fun b o hb e => hkp b (List.mem_range.mpr (Heap.lt_size e)) (fun q => hb (List.mem_singleton.mp q)) o (hhref b o e)
      have e0 : ((0 : Int) + (i : Int) * 1) = (i : Int) := by omega
      rw [e0] at hm'
      refine hel code _ A' E' i tk t m₂ hA hD hU hiI hn hm' (fun p hp hpP => ?_) (fun b o e => hkp' b o (fun q => ?_) (old b o e))
      · have hpI : p.1 ≠ I := fun q => by
          have h1 := hNK p hp
          rw [q] at h1
          exact Nat.lt_irrefl _ (Nat.lt_of_lt_of_le hKI h1)
        exact hkp' _ _ hpI (hx₃ _ _ hpP (N₂ p hp).1)
      · have h1 : @LT.lt Nat _ b L := Nat.lt_of_lt_of_le (Heap.lt_size e) F₂.above
        rw [q] at h1
        exact Nat.lt_irrefl _ (Nat.lt_trans (Nat.lt_of_lt_of_le h1 hLK) hKI)
  rw [passing_tt, List.length_range] at W
  have W' := W.imp (P' := F) (fun j y => by
    rintro ⟨i, hi, hF⟩
    obtain ⟨_, e⟩ := List.getElem?_eq_some_iff.mp hi
    rw [List.getElem_range] at e
    rw [e]
    exact hF)
  refine hQ ps' a _ ht' (F₃.keeps hk₅) (fun p hp => ⟨hk₅ _ _ (N₃ p hp).1, (N₃ p hp).2⟩) (G₂.push hgb) rfl ⟨_, _, _, _, W', hat, (fun i s' st => st.1.typeIs), List.mem_cons_self, ?_, ?_⟩
  · intro b hb
    show b < h₅.objs.size
    rw [hsz₅]
    rcases List.mem_cons.mp hb with rfl | hb
    · exact Nat.lt_succ_self _
    · rcases List.mem_cons.mp hb with rfl | hb
      · exact Nat.lt_succ_of_lt hag
      · exact Nat.lt_succ_of_lt (Nat.lt_trans (List.mem_range.mp hb) hag)
  · intro b hb
    rcases List.mem_cons.mp hb with rfl | hb
    · exact Nat.lt_trans hKI hIsz
    · rw [List.mem_singleton.mp hb]; exact hKI

end Mine
end
section
open PySem PySem.W PySem.Spec PySem.Calls PyProof.Rows
namespace Mine
noncomputable abbrev TL : List Str := looseW hd.view_39 [] ++ (recsOf hd.view_39).map (·.name) ++ (litsOf hd.view_39).map (·.1) ++ (clssOf hd.view_39 (looseW hd.view_39 [])).map (·.name)
abbrev P2 : Program := Challenge.rw_yd0002_02.row.prog
def Site (k : Nat) (w : World) (mean : ExcName → Option Value) (mg mb : Str → Option Value) (A : Around) (base h₀ : Heap) (L : Addr) (m : Str → Option Value) (news : List (Addr × Obj)) (s : Shared) : Prop :=
  ∃ (dp un : Nat) (gd : Option (List Code)) (cn : Str) (cs : Scope) (a : Addr) (ccd : Value) (cl : List (Str × Addr)) (outer : List Env) (A₀ : Around),
    A = ktrTop dp un gd cn cs L a ccd cl outer ∧ Below A₀ base outer h₀ ∧ Fr h₀ L s.heap m ∧ (hd.heap_39 w.params).In h₀ ∧ News h₀ L s.heap news ∧
    Top topProg TL mean mg mb h₀ ∧ CodeHd h₀ 239 235 ∧ cs.kind = .function ∧ dp + k < recursionLimit ∧ un + 8 * k < cLine
abbrev polyD (P : Params) (t1 t2 : Tok) (ring l : Addr) : Obj := dictOf [⟨PyData.keyHash P (Str.ofString "parent"), .str (Str.ofString "parent") t1, .ref ring⟩, ⟨PyData.keyHash P (Str.ofString "coeffs"), .str (Str.ofString "coeffs") t2, .ref l⟩] 2
theorem retI {h₀ : Heap} {L : Addr} {m : Str → Option Value} {news : List (Addr × Obj)} {s : Shared} {Q : Value → Shared → Prop} {x y : Int} {t : Tok} {h' : Heap} {tk' : Nat}
  (ret : ∀ (t : Tok) (h' : Heap) (tk' : Nat), Fr h₀ L h' m → News h₀ L h' news → Q (.int x t) { s with heap := h', toks := tk' }) (e : y = x) (F : Fr h₀ L h' m) (N : News h₀ L h' news) : Q (.int y t) { s with heap := h', toks := tk' } := e ▸ ret t h' tk' F N
theorem off1_mem {D a : Addr} {o : Obj} {l : List (Addr × Obj)} (h : LCg.Off1 D l) (hm : (a, o) ∈ l) : a ≠ D := by
  induction l with
  | nil => cases hm
  | cons p r ih =>
    rcases List.mem_cons.mp hm with e | hm
    · have h1 : p.1 ≠ D := h.1
      rw [← e] at h1
      exact h1
    · exact ih h.2 hm
theorem upd_mid {d : Addr} {o o' : Obj} {post : List (Addr × Obj)} (h2 : ∀ q ∈ post, q.1 ≠ d) : ∀ {pre : List (Addr × Obj)}, (∀ q ∈ pre, q.1 ≠ d) → Upd d o o' (pre ++ (d, o) :: post) (pre ++ (d, o') :: post)
  | [], _ => .head h2
  | q :: r, h => .tail (h q (.head _)) (upd_mid h2 fun p hp => h p (.tail _ hp))
theorem updF_upd {d : Addr} {o : Obj} {news : List (Addr × Obj)} {g : Obj → List (Addr × Obj)} (U : UpdF d o news g) (o' : Obj) : Upd d o o' news (g o') := by
  obtain ⟨own, rest, rfl, hg, h1, h2⟩ := U.split
  rw [hg]
  exact upd_mid h2 h1
theorem sub3 {α : Type} {a b c : α} {l : List α} : ∀ p ∈ a :: l, p ∈ a :: b :: c :: l := by
  intro p hp
  rcases List.mem_cons.mp hp with rfl | hp
  · exact .head _
  · exact .tail _ (.tail _ (.tail _ hp))
theorem Site.of {k : Nat} {w : World} {mean : ExcName → Option Value} {mg mb : Str → Option Value} {base h₀ : Heap} {L : Addr} {m : Str → Option Value} {news : List (Addr × Obj)} {s : Shared}
    {dp un : Nat} {gd : Option (List Code)} {cn : Str} {cs : Scope} {a : Addr} {ccd : Value} {cl : List (Str × Addr)} {outer : List Env} {A₀ : Around}
    (B : Below A₀ base outer h₀) (F : Fr h₀ L s.heap m) (X : (hd.heap_39 w.params).In h₀) (N : News h₀ L s.heap news) (T : Top topProg TL mean mg mb h₀) (C9 : CodeHd h₀ 239 235)
    (hk : cs.kind = .function) (hdp : dp + k < recursionLimit) (hun : un + 8 * k < cLine) : Site k w mean mg mb (ktrTop dp un gd cn cs L a ccd cl outer) base h₀ L m news s :=
  ⟨dp, un, gd, cn, cs, a, ccd, cl, outer, A₀, rfl, B, F, X, N, T, C9, hk, hdp, hun⟩

end Mine
end
section
open PySem PySem.W PySem.Spec PySem.Calls PyProof.Rows
namespace Mine
def at2 (ns : List Int) (i : Int) : Int := if i < ns.length then (if ns.getD i.toNat 0 < 0 then -((-(ns.getD i.toNat 0)).fmod (10 ^ Int.toNat 60 + 7)) else (ns.getD i.toNat 0).fmod (10 ^ Int.toNat 60 + 7)) else (i * (i + 1)).fdiv 2 + 4
set_option maxRecDepth 100000 in
set_option maxHeartbeats 20000000 in
theorem at_ok {w : World} {mean : ExcName → Option Value} {mg mb : Str → Option Value} {A : Around} {base h₀ : Heap} {L : Addr} {m : Str → Option Value} {news : List (Addr × Obj)} {s : Shared} {Q E : Value → Shared → Prop} {i : Int} {u : Tok} {l : Addr} {vs : List Value} {ns : List Int}
    (S : Site 2 w mean mg mb A base h₀ L m news s) (hl : base.IsList l vs.toArray) (hi : IntsAre vs ns) (hlen : ns.length ≤ 63) (h1 : 0 ≤ i) (h2 : i ≤ 1000)
    (ret : ∀ t h' tk', Fr h₀ L h' m → News h₀ L h' news → Q (.int (at2 ns i) t) { s with heap := h', toks := tk' }) :
    wpAny (model P2 w) A (call (.ref 233) [.ref l, .int i u]) Q E s := by
  unfold Site P2 at *
  obtain ⟨dp, un, gd, cn, cs, a, ccd, cl, outer, A₀, rfl, B, F, X, N, T, C9, hk, hdp, hun⟩ := S
  revert X; k_fill; intro X
  k_with_none
  refine wpAny_call ?_
  k_dflt cell_enter
  repeat' (first | (k_unfold; (try dsimp only)) | (k_end; wrow_close) | ((try dsimp only); walk1) | (leave1; (try dsimp only)))
  · exact retI ret (by rw [at2, if_pos (by assumption), if_pos (by assumption)]) (by k_asm) (by k_asm)
  · exact retI ret (by rw [at2, if_pos (by assumption), if_neg (by assumption)]) (by k_asm) (by k_asm)
  · exact retI ret (by rw [at2, if_neg (by assumption)]) (by k_asm) (by k_asm)
theorem at2_bd (ns : List Int) {i : Int} (h0 : 0 ≤ i) (h1 : i ≤ 1000) : Bd (10 ^ 60 + 6) (at2 ns i) := by
  have hM : (0 : Int) < 10 ^ Int.toNat 60 + 7 := by decide
  have e : (10 : Int) ^ Int.toNat 60 = 10 ^ 60 := rfl
  unfold at2 Bd
  split
  · split
    · have h3 := Int.fmod_nonneg_of_pos (-(ns.getD i.toNat 0)) hM
      have h4 := Int.fmod_lt_of_pos (-(ns.getD i.toNat 0)) hM
      rw [e] at *
      omega
    · have h3 := Int.fmod_nonneg_of_pos (ns.getD i.toNat 0) hM
      have h4 := Int.fmod_lt_of_pos (ns.getD i.toNat 0) hM
      rw [e] at *
      omega
  · have h2 : 0 ≤ i * i := Int.mul_nonneg h0 h0
    have h3 : i * i ≤ 1000 * i := Int.mul_le_mul_of_nonneg_right h1 h0
    have h4 : i * (i + 1) = i * i + i := by rw [Int.mul_add, Int.mul_one]
    rw [h4]
    have h5 : (i * i + i).fdiv 2 = (i * i + i) / 2 := Int.fdiv_eq_ediv_of_nonneg _ (by decide)
    rw [h5]
    have h6 : (2000000 : Int) < 10 ^ 60 := by decide
    generalize (10 : Int) ^ 60 = T at *
    omega

end Mine
end
section
open PySem PySem.W PySem.Spec PySem.Calls PyProof.Rows
namespace Mine
theorem pre_ev {W : Int} : ∀ (ns : List Int), preSum (fun j => gg ns j * W ^ j) ns.length = ev W ns
  | [] => rfl
  | x :: r => by
    have h : ∀ k, preSum (fun j => gg (x :: r) j * W ^ j) (k + 1) = x + W * preSum (fun j => gg r j * W ^ j) k := by
      intro k
      induction k with
      | zero => simp [preSum, gg]
      | succ k ih =>
        show preSum (fun j => gg (x :: r) j * W ^ j) (k + 1) + gg (x :: r) (k + 1) * W ^ (k + 1) = x + W * (preSum (fun j => gg r j * W ^ j) k + gg r k * W ^ k)
        rw [ih]
        have e : gg (x :: r) (k + 1) = gg r k := rfl
        rw [e, Int.mul_add, Int.pow_succ, Int.add_assoc]
        congr 2
        rw [Int.mul_comm (W ^ k) W, ← Int.mul_assoc, ← Int.mul_assoc, Int.mul_comm W]
    rw [List.length_cons, h, pre_ev r]
    rfl
section
variable {prog : Program} {w : World} {A : Around} {E : Value → Shared → Prop} {t : Shared} {scope : Scope} {cl : List (Str × Addr)} {C : Addr} {code : Value} {env : Env}
theorem elt_ok {p1 p2 p3 p4 p5 p6 p7 : Pos} {xr xu xw : Str} {c1 c2 l : Addr} {i : Nat} {tk u : Tok} {W : Int} {vs : List Value} {ns : List Int} {nn : Nat} {m₂ : Str → Option Value}
    (hk : scope.kind = .function) (hr : (genEnv scope cl C code builtinsNs env).kindOf xr = some .free) (hw : (genEnv scope cl C code builtinsNs env).kindOf xw = some .free) (hu : (genEnv scope cl C code builtinsNs env).kindOf xu = some .local)
    (dr : (xr == ("__debug__" : Str)) = false) (dw : (xw == ("__debug__" : Str)) = false) (du : (xu == ("__debug__" : Str)) = false) (nr : (xr == ("__classdict__" : Str)) = false) (nw : (xw == ("__classdict__" : Str)) = false)
    (l1 : cl.lookup xr = some c1) (l2 : cl.lookup xw = some c2) (k1 : t.heap.IsCell c1 (some (.ref l))) (k2 : t.heap.IsCell c2 (some (.int W u))) (hl : t.heap.get? l = some (listOf vs.toArray nn)) (hi : IntsAre vs ns)
    (hn : t.heap.Ns (genEnv scope cl C code builtinsNs env).locals m₂) (hm : m₂ xu = some (.int i tk)) (hlt : i < ns.length) (h6 : ns.length ≤ 6) (hb : ∀ z ∈ ns, Builtin.Int.intBits z ≤ 300) (hW : Builtin.Int.intBits W ≤ 10000) :
    wpAny (model prog w) A (eval (.BinOp (.Subscript (.Name xr p1) (.Name xu p2) p3) .Mult (.BinOp (.Name xw p4) .Pow (.Name xu p5) p6) p7) (genEnv scope cl C code builtinsNs env))
      (fun y s₃ => (∃ q, y = .int (gg ns i * W ^ i) q) ∧ Keeps t s₃) E t := by
  have hz : ns[i]? = some (gg ns i) := by simp [gg, List.getD, hlt]
  obtain ⟨tz, hv⟩ := hi.get i _ hz
  refine wpAny_BinOp ?_
  refine wpAny_Subscript_Name_late ?_
  refine ldFreeG l1 k1 ?_ hk hr dr nr
  refine wpAny_Name (wpAny_loadName_local hk hu hn hm ?_) du
  refine ⟨_, _, rfl, ⟨_, hl, rfl⟩, ?_⟩
  refine wpAny_getItem_list (items := vs.toArray) ⟨_, hl, rfl, _, rfl⟩ (by omega) (by omega) (x := .int (gg ns i) tz) (by simpa using hv) ?_
  refine wpAny_BinOp ?_
  refine ldFreeG l2 k2 ?_ hk hw dw nw
  refine wpAny_Name (wpAny_loadName_local hk hu hn hm ?_) du
  have hWi : ((Builtin.Int.intBits W : Nat) : Int) * (i : Int) ≤ 10000 * 6 := by
    have a1 : ((Builtin.Int.intBits W : Nat) : Int) * (i : Int) ≤ ((Builtin.Int.intBits W : Nat) : Int) * 6 := Int.mul_le_mul_of_nonneg_left (by omega) (by omega)
    omega
  refine pow_int (by omega) (by omega) ?_
  refine mul_int ?_ ?_
  · exact ⟨⟨t.toks + 1, by rw [Int.toNat_natCast]⟩, _, _, rfl, fun _ _ e => e⟩
  · have hn0 : gg ns i ∈ ns := List.mem_of_getElem? hz
    have hp := PySem.intBits_pow_le hW i
    refine IntMulOk.of_le (hb _ hn0) (Nat.le_trans (by rw [Int.toNat_natCast]; exact hp) (show 10000 * i + 1 ≤ 60001 by omega)) (by decide)
end

end Mine
end
section
open PySem PySem.W PySem.Spec PySem.Calls PyProof.Rows
namespace Mine
section
local macro_rules | `(tactic| k_mem) => `(tactic| first | (with_reducible assumption) | assumption | exact List.mem_cons_self | (refine' List.mem_cons_of_mem _ ?_; k_mem))
local macro_rules | `(tactic| walk_at "call builtin:len") => `(tactic| (k_here; (with_reducible show wpAny _ _ (call (Value.builtin "len") [Value.ref _]) _ _ _); k_dflt (refine' kst_len ?k1 ?k2 rfl ?k4 ?_; (case k1 => k_asm); (case k2 => k_mem); (case k4 => omega); k_whole)))
set_option maxRecDepth 100000 in
set_option maxHeartbeats 20000000 in
theorem num_ok {w : World} {mean : ExcName → Option Value} {mg mb : Str → Option Value} {A : Around} {base h₀ : Heap} {L : Addr} {m : Str → Option Value} {news : List (Addr × Obj)} {s : Shared} {Q E : Value → Shared → Prop} {W : Int} {u : Tok} {l : Addr} {vs : List Value} {ns : List Int} {nn : Nat}
    {g : Obj → List (Addr × Obj)} {ps : Array Value} (S : Site 6 w mean mg mb A base h₀ L m news s) (U : UpdF 235 (tabObj ps) news g) (ht : TriplesOk ps.toList) (hG : AllBare s.gens) (hl : (l, listOf vs.toArray nn) ∈ news) (hi : IntsAre vs ns) (hlen : ns.length ≤ 6) (hb : ∀ z ∈ ns, Builtin.Int.intBits z ≤ 300) (hW : Builtin.Int.intBits W ≤ 10000)
    (ret : ∀ t ps' s', TriplesOk ps'.toList → Fr h₀ L s'.heap m → News h₀ L s'.heap (g (tabObj ps')) → AllBare s'.gens → s'.os = s.os → Q (.int (ev W ns) t) s') :
    wpAny (model P2 w) A (call (.ref 240) [.ref l, .int W u]) Q E s := by
  have hyl : vs.length = ns.length := hi.length
  unfold Site P2 at *
  obtain ⟨dp, un, gd, cn, cs, a, ccd, cl, outer, A₀, rfl, B, F, X, N, T, C9, hk, hdp, hun⟩ := S
  revert X; k_fill; intro X
  k_with_none
  refine wpAny_call ?_
  k_dflt (refine' code_defC ?k1 ?k2 ?k3 ?k4 ?k5 ?kA ?kF ?kK ?k6 ?k7 ?k8 ?k9 ?kB ?kD ?_ ?c2 ?c3 ?c4; (case kA => exact rfl); (case kF => exact rfl); (case kK => assumption); (case k1 => k_asm); (case k2 => k_asm); (case k3 => k_asm); (case k4 => k_asm); (case k5 => k_asm); (case k6 => k_is); (case k7 => k_is); (case k8 => ktr_room); (case k9 => first | exact BindsTo.of_eq rfl | exact binds_K (by k_in) rfl (by k_is) rfl rfl rfl); (case kB => exact rfl); (case kD => decide +kernel); (case c2 => exact rfl); (case c3 => exact rfl); (case c4 => exact rfl); k_whole; intro g' L' h' tk' cells' FG' F' N' Y' B' X' T' l1; (try k_lt l1); k_cells Y'; (try simp only [List.cons_append, List.nil_append] at N'); (try dsimp only); (try k_lift B'); (try k_fold))
  repeat' (first | (k_unfold; (try dsimp only)) | (k_end; wrow_close) | ((try dsimp only); walk1) | (leave1; (try dsimp only)))
  (with_reducible rename Fr _ L' _ _ => F5)
  refine gen_K (n := ns.length) (P := 235) F5 T' (C9.keeps FG'.keep) rfl ?hh ?hco rfl ?hcell ?h0 ?hx ?hkind ?hroom ?hs ?h
  case hh => rfl
  case hco => rfl
  case hcell => decide
  case h0 => rfl
  case hx => rfl
  case hkind => rfl
  case hroom => ktr_room
  case hs => intro _; rfl
  repeat' (first | (k_unfold; (try dsimp only)) | (k_end; wrow_close) | ((try dsimp only); walk1) | (leave1; (try dsimp only)))
  (with_reducible rename IsRange _ _ _ _ _ _ _ _ => R6)
  (with_reducible rename News g' L' _ _ => N6)
  (with_reducible rename Fr g' L' _ _ => F6)
  refine wpAny_pyIter_range R6 (small_one (by decide) (by decide) (by omega) (by omega)) ?_
  have q1 : @LT.lt Nat _ 235 L' := by
    obtain ⟨own, rest, e, _, _, _⟩ := U.split
    exact l1 (235, tabObj ps) (by rw [e]; exact List.mem_append_right _ (.head _))
  have hlL := ltN (l1 _ hl)
  dsimp only at hlL
  have qL2 : @LE.le Nat _ L' (L' + 1 + 1) := Nat.le_trans (Nat.le_succ L') (Nat.le_succ _)
  have qI := Heap.lt_size (N6 _ (.head _)).1
  have hl6 : (l, listOf vs.toArray nn) ∈ news := hl
  unfold GenSrc
  refine ⟨_, L' + 1 + 1, _, _, ps, fun j y => ∃ q, y = .int (gg ns j * W ^ j) q, rfl, F6.push _, (fun p hp => ⟨Heap.get?_push_of_some _ (N6 p hp).1, (N6 p hp).2⟩), .tail ?n1 (.tail ?n2 U), ht, hG, ?hit, ?hLK, qI, ?hle, ?elt, ?fin⟩
  case n1 => exact Nat.ne_of_gt (Nat.lt_succ_of_lt (Nat.lt_succ_of_lt q1))
  case n2 => exact Nat.ne_of_gt (Nat.lt_succ_of_lt q1)
  case hit =>
    show IsRangeIter _ _ _ _ _
    have e : Builtin.Range.rangeSize 0 (ns.length : Int) 1 = (ns.length : Int) := by rw [rangeSize_nat]; omega
    dsimp only
    rw [e]
    exact Heap.get?_push_size _ rfl
  case hLK => exact qL2
  case hle =>
    intro p hp
    rcases List.mem_cons.mp hp with rfl | hp
    · exact Nat.le_refl _
    · rcases List.mem_cons.mp hp with rfl | hp
      · exact Nat.le_succ _
      · exact Nat.le_trans (Nat.le_of_lt (l1 p hp)) qL2
  case elt =>
    intro code C A' E' i tk t m₂ hA' hD hU' hi hns hm hnw hold
    have c1 := hnw _ (.head _) (Nat.ne_of_gt (Nat.lt_succ_of_lt (Nat.lt_succ_of_lt q1)))
    have c2 := hnw _ (.tail _ (.head _)) (Nat.ne_of_gt (Nat.lt_succ_of_lt q1))
    have c3 := hnw (l, listOf vs.toArray nn) (.tail _ (.tail _ hl6)) (fun q => by
      obtain ⟨own, rest, e, _, u1, u2⟩ := U.split
      rw [e] at hl6
      rcases List.mem_append.mp hl6 with h | h
      · exact u1 _ h q
      · rcases List.mem_cons.mp h with h | h
        · cases (Prod.mk.inj h).2
        · exact u2 _ h q)
    refine elt_ok (u := u) rfl rfl rfl rfl (by decide) (by decide) (by decide) (by decide) (by decide) rfl rfl (k1 := ⟨_, c2, ?e1⟩) (k2 := ⟨_, c1, ?e2⟩) c3 (by assumption) hns hm hi hlen hb hW
    all_goals assumption
  case fin =>
    intro ps' a5 s5 ht5 F5' N5 G5 hos5 X5
    clear N6 F6 R6
    repeat' (first | (k_unfold; (try dsimp only)) | (k_end; wrow_close) | ((try dsimp only); walk1) | (leave1; (try dsimp only)))
    refine sum_rowsKA F5' G5 X5 qL2 (fun j => gg ns j * W ^ j) (fun j v h => h) fun s' t' F7 G7 hos7 hk7 => ?_
    have N7 := News.kept (K := L' + 1 + 1) N5 (by
      intro p hp
      rcases List.mem_cons.mp hp with rfl | hp
      · exact Nat.le_refl _
      · rcases List.mem_cons.mp hp with rfl | hp
        · exact Nat.le_succ _
        · refine Nat.le_trans (Nat.le_of_lt (?_ : @LT.lt Nat _ p.1 L')) qL2
          obtain ⟨own, rest, e, e2, _, _⟩ := U.split
          rw [e2] at hp
          rcases List.mem_append.mp hp with h | h
          · exact l1 p (by rw [e]; exact List.mem_append_left _ h)
          · rcases List.mem_cons.mp h with rfl | h
            · exact q1
            · exact l1 p (by rw [e]; exact List.mem_append_right _ (.tail _ h))) hk7
    repeat' (first | (k_unfold; (try dsimp only)) | (k_end; wrow_close) | ((try dsimp only); walk1) | (leave1; (try dsimp only)))
    · (with_reducible rename News h₀ L _ _ => N8)
      rw [pre_ev]
      exact ret _ ps' s' ht5 (by k_asm) (fun p hp => N8 p (.tail _ (.tail _ hp))) G7 (hos7.trans hos5)
end

end Mine
end
section
open PySem PySem.W PySem.Spec PySem.Calls PyProof.Rows
namespace Mine
theorem kst_self {m : Str → Option Value} {ps : List (Str × Value)} (h : ∀ p ∈ ps, m p.1 = some p.2) : m = kstB m ps := by
  funext z
  exact (kstB_eq h fun _ => rfl).symm
/-- what a turn leaves behind -/
def TurnEnd {σ : Type} (h₀ : Heap) (L I : Addr) (o : Obj) (Led : σ → List (Addr × Obj)) (ps : σ → List (Str × Value)) (Inv : σ → Prop) (s₂ : Shared) (f : Flow) (s' : Shared) : Prop :=
  f = .next ∧ ∃ c m, Fr h₀ L s'.heap m ∧ (∀ p ∈ ps c, m p.1 = some p.2) ∧ News h₀ L s'.heap ((I, o) :: Led c) ∧ (∀ p ∈ Led c, p.1 ≠ I) ∧ AllBare s'.gens ∧ s'.os = s₂.os ∧ Inv c
section
variable {prog : Program} {w : World} {A : Around} {s : Shared} {env : Env} {h₀ : Heap}
theorem loopG {σ : Type} {x : Str} {px : Pos} {body : List Stmt} {I : Addr} {fp : List Addr} {n : Nat} {P : Nat → Value → Prop} {St : Nat → Heap → Prop} {E : Value → Shared → Prop} {Q : Flow → Shared → Prop}
    (Led : σ → List (Addr × Obj)) (ps : σ → List (Str × Value)) (Inv : Nat → σ → Prop) (c₀ : σ) {m₀ : Str → Option Value}
    (W : Walks prog w A I fp [I] n P St) (hSt : ∀ i h, St i h → ∃ o, h.get? I = some o) (hfp : ∀ b ∈ fp, b = I ∨ ∃ o, ∀ c, (b, o) ∈ Led c) (hLf : env.locals ∉ fp)
    (hx : env.kindOf x = some .local) (hp : (env.scope.kind == .class || (env.scope.kind == .module && env.locals != env.globals)) = false)
    (hI : h₀.get? I = none) (hst : St 0 s.heap) (F : Fr h₀ env.locals s.heap m₀) (N : News h₀ env.locals s.heap (Led c₀)) (hoff : ∀ p ∈ Led c₀, p.1 ≠ I) (hG : AllBare s.gens) (hps : ∀ p ∈ ps c₀, m₀ p.1 = some p.2) (h0 : Inv 0 c₀)
    (hE : PassesOwn (model prog w) A env E)
    (turn : ∀ i v (c : σ) o rest s₁, i < n → P i v → Inv i c → (∀ p ∈ Led c, p.1 ≠ I) → Fr h₀ env.locals s₁.heap (fun y => if y = x then some v else kstB rest (ps c) y) → News h₀ env.locals s₁.heap ((I, o) :: Led c) → AllBare s₁.gens → s₁.os = s.os →
      wpAny (model prog w) A (execs body env) (TurnEnd h₀ env.locals I o Led ps (Inv (i + 1)) s) E s₁)
    (done : ∀ (c : σ) rest s₁, Inv n c → (∀ p ∈ Led c, p.1 ≠ I) → Fr h₀ env.locals s₁.heap (kstB rest (ps c)) → News h₀ env.locals s₁.heap (Led c) → AllBare s₁.gens → s₁.os = s.os → Q .next s₁) :
    codeAny (model prog w) A (.forLoop (.Name x px) (.ref I) body [] env) (fun r s' => match r with | .ok f => Q f s' | .error e => cameBackBy (model prog w) A env E e s') s := by
  have hIf : I ∈ fp := W.sub _ (.head _)
  have hLI : env.locals ≠ I := fun q => hLf (q ▸ hIf)
  have step : ∀ {h h' : Heap} {m : Str → Option Value} {nx : List (Addr × Obj)}, (∀ b o, b ∉ [I] → h.get? b = some o → h'.get? b = some o) → Fr h₀ env.locals h m → News h₀ env.locals h nx → (∀ p ∈ nx, p.1 ≠ I) → Fr h₀ env.locals h' m ∧ News h₀ env.locals h' nx := by
    intro h h' m nx hk F N ho
    refine ⟨⟨F.ns.at' fun o e => hk _ o (fun q => hLI (List.mem_singleton.mp q)) e, fun b o e => hk b o (fun q => ?_) (F.keep b o e), F.above⟩, fun p hp => ⟨hk _ _ (fun q => ho p hp (List.mem_singleton.mp q)) (N p hp).1, (N p hp).2⟩⟩
    rw [List.mem_singleton.mp q, hI] at e
    cases e
  refine codeAny_forLoop
    (fun k s' => ∃ i c m, St i s'.heap ∧ Fr h₀ env.locals s'.heap m ∧ (∀ p ∈ ps c, m p.1 = some p.2) ∧ News h₀ env.locals s'.heap (Led c) ∧ (∀ p ∈ Led c, p.1 ≠ I) ∧ AllBare s'.gens ∧ s'.os = s.os ∧ Inv i c ∧ i ≤ n ∧ k = n + 1 - i) ?_ (n + 1)
    ⟨0, c₀, m₀, hst, F, hps, N, hoff, hG, rfl, h0, Nat.zero_le _, rfl⟩
  rintro k s' ⟨i, c, m, hst', F', hps', N', hoff', hG', hos', hinv, hi, rfl⟩
  by_cases hlt : i < n
  · refine W.item i _ _ _ hlt hst' fun v h₁ tk₁ hP hst₁ hk₁ => ?_
    obtain ⟨F₁, N₁⟩ := step hk₁ F' N' hoff'
    refine wpAny_assign_Name (wpAny_storeName_local hx F₁.ns (fun h₂ hn₂ hs₂ => ?_) hp)
    have F₂ := F₁.set hn₂ hs₂
    have N₂ := N₁.set hs₂
    have hst₂ : St (i + 1) h₂ := W.frame _ _ _ hst₁ fun b hb o e => (hs₂.2 b fun q => hLf (q ▸ hb)).trans e
    obtain ⟨o, ho⟩ := hSt _ _ hst₂
    have NI : News h₀ env.locals h₂ ((I, o) :: Led c) := fun p hp => by
      rcases List.mem_cons.mp hp with rfl | hp
      · exact ⟨ho, hLI.symm, hI⟩
      · exact N₂ p hp
    have F₃ : Fr h₀ env.locals h₂ (fun y => if y = x then some v else kstB m (ps c) y) := by
      have e := kst_self hps'
      rw [← e]
      exact F₂
    refine wpAny_passesOwn hE (wpAny_mono (turn i v c o m _ hlt hP hinv hoff' F₃ NI hG' hos') (fun f s₃ h₃ => ?_) fun _ _ e => e)
    obtain ⟨rfl, c', m', F₄, hps₄, N₄, hoff₄, hG₄, hos₄, hinv₄⟩ := h₃
    refine ⟨n + 1 - (i + 1), by omega, i + 1, c', m', ?_, F₄, hps₄, (fun p hp => N₄ p (.tail _ hp)), hoff₄, hG₄, hos₄, hinv₄, hlt, rfl⟩
    refine W.frame _ _ _ hst₂ fun b hb o' e => ?_
    rcases hfp b hb with rfl | ⟨o₂, ho₂⟩
    · have e2 : h₂.get? b = some o' := e
      rw [ho] at e2
      cases e2
      exact (N₄ _ (.head _)).1
    · have e2 := (N₂ _ (ho₂ c)).1
      have e3 : h₂.get? b = some o' := e
      rw [e3] at e2
      cases e2
      exact (N₄ _ (.tail _ (ho₂ c'))).1
  · have hin : i = n := by omega
    subst hin
    refine W.done _ _ _ hst' fun h₁ tk₁ hk₁ => wpAny_execs_nil ?_
    obtain ⟨F₁, N₁⟩ := step hk₁ F' N' hoff'
    have e := kst_self hps'
    rw [e] at F₁
    exact done c m _ hinv hoff' F₁ N₁ hG' hos'
/-- a for over range, what the iterable's value must bring -/
def OverRange {σ : Type} (prog : Program) (w : World) (A : Around) (h₀ : Heap) (env : Env) (x : Str) (body : List Stmt) (Q : Flow → Shared → Prop) (E : Value → Shared → Prop) (Led : σ → List (Addr × Obj)) (ps : σ → List (Str × Value)) (Inv : Nat → σ → Prop) (a : Int) (n : Nat) (xv : Value) (s₁ : Shared) : Prop :=
  ∃ r b m₀ t₀ u₀ v₀ c₀, xv = .ref r ∧ IsRange s₁.heap r a b 1 t₀ u₀ v₀ ∧ b = a + n ∧ Fr h₀ env.locals s₁.heap m₀ ∧ News h₀ env.locals s₁.heap (Led c₀) ∧ AllBare s₁.gens ∧ (∀ p ∈ ps c₀, m₀ p.1 = some p.2) ∧ Inv 0 c₀ ∧
    (∀ (i : Nat) (t : Tok) (c : σ) (I : Addr) o rest s₂, i < n → Inv i c → (∀ p ∈ Led c₀, @LT.lt Nat _ p.1 I) → (∀ p ∈ Led c, p.1 ≠ I) → Fr h₀ env.locals s₂.heap (fun y => if y = x then some (.int (a + i) t) else kstB rest (ps c) y) → News h₀ env.locals s₂.heap ((I, o) :: Led c) → AllBare s₂.gens → s₂.os = s₁.os →
      wpAny (model prog w) A (execs body env) (TurnEnd h₀ env.locals I o Led ps (Inv (i + 1)) s₁) E s₂) ∧
    (∀ (c : σ) rest s₂, Inv n c → Fr h₀ env.locals s₂.heap (kstB rest (ps c)) → News h₀ env.locals s₂.heap (Led c) → AllBare s₂.gens → s₂.os = s₁.os → Q .next s₂)
theorem for_range {σ : Type} {E : Value → Shared → Prop} {Q : Flow → Shared → Prop} {x : Str} {px pos : Pos} {iter : Expr} {body : List Stmt} {h₀ : Heap} {mF : Str → Option Value} (_F : Fr h₀ env.locals s.heap mF) (Led : σ → List (Addr × Obj)) (ps : σ → List (Str × Value)) (Inv : Nat → σ → Prop) (a : Int) (n : Nat)
    (hx : env.kindOf x = some .local) (hp : (env.scope.kind == .class || (env.scope.kind == .module && env.locals != env.globals)) = false) (hh : A.handled = none) (ha0 : -1000000 ≤ a) (ha1 : a ≤ 1000000) (hn : n ≤ 1000000)
    (h : wpAny (model prog w) A (eval iter env) (OverRange prog w A h₀ env x body Q E Led ps Inv a n) E s)
    (hs : ∀ x, foldedSetIterable iter env x = pure x := by intro _; rfl)
    (hE : PassesOwn (model prog w) A env E := by passes_own) :
    wpAny (model prog w) A (exec (.For (.Name x px) iter body [] pos) env) Q E s := by
  refine wpAny_For (wpAny_mono h (fun xv s₁ h₁ => ?_) fun _ _ e => e) hs
  obtain ⟨r, b, m₀, t₀, u₀, v₀, c₀, rfl, R, rfl, F, N, hG, hps, h0, turn, done⟩ := h₁
  refine wpAny_pyIter_range R (small_one (by omega) (by omega) (by omega) (by omega)) ?_
  have hlt : ∀ p ∈ Led c₀, @LT.lt Nat _ p.1 s₁.heap.objs.size := fun p hp => Heap.lt_size (N p hp).1
  have e0 : Builtin.Range.rangeSize a (a + n) 1 = (n : Int) := by rw [rangeSize_nat]; omega
  refine loopG (I := s₁.heap.objs.size) (fp := [s₁.heap.objs.size]) Led ps Inv c₀ (Walks.range hh _ a 1 n) (fun i h q => ⟨_, q⟩) (fun b hb => .inl (List.mem_singleton.mp hb)) ?_ hx hp (next_is_new F) ?_ (F.push _)
    (fun p hp => ⟨Heap.get?_push_of_some _ (N p hp).1, (N p hp).2⟩) (fun p hp => Nat.ne_of_lt (hlt p hp)) hG hps h0 hE ?_ ?_
  · intro hm
    exact absurd F.ns.lt ((List.mem_singleton.mp hm) ▸ Nat.lt_irrefl _)
  · show IsRangeIter _ _ _ _ _
    rw [e0]
    simpa using Heap.get?_push_size _ rfl
  · rintro i v c o rest s₂ hi ⟨t, rfl⟩ hinv ho F₂ N₂ G₂ os₂
    rw [Int.mul_one] at F₂
    exact turn i t c _ o rest s₂ hi hinv hlt ho F₂ N₂ G₂ os₂
  · exact fun c rest s₂ hinv _ F₂ N₂ G₂ os₂ => done c rest s₂ hinv F₂ N₂ G₂ os₂
/-- a for over a list that stands in the ledger -/
def OverList {σ : Type} (prog : Program) (w : World) (A : Around) (h₀ : Heap) (env : Env) (x : Str) (body : List Stmt) (Q : Flow → Shared → Prop) (E : Value → Shared → Prop) (Led : σ → List (Addr × Obj)) (ps : σ → List (Str × Value)) (Inv : Nat → σ → Prop) (vs : List Value) (xv : Value) (s₁ : Shared) : Prop :=
  ∃ l nn m₀ c₀, xv = .ref l ∧ (∀ c, (l, listOf vs.toArray nn) ∈ Led c) ∧ Fr h₀ env.locals s₁.heap m₀ ∧ News h₀ env.locals s₁.heap (Led c₀) ∧ AllBare s₁.gens ∧ (∀ p ∈ ps c₀, m₀ p.1 = some p.2) ∧ Inv 0 c₀ ∧
    (∀ (i : Nat) (v : Value) (c : σ) (I : Addr) o rest s₂, vs[i]? = some v → Inv i c → (∀ p ∈ Led c₀, @LT.lt Nat _ p.1 I) → (∀ p ∈ Led c, p.1 ≠ I) → Fr h₀ env.locals s₂.heap (fun y => if y = x then some v else kstB rest (ps c) y) → News h₀ env.locals s₂.heap ((I, o) :: Led c) → AllBare s₂.gens → s₂.os = s₁.os →
      wpAny (model prog w) A (execs body env) (TurnEnd h₀ env.locals I o Led ps (Inv (i + 1)) s₁) E s₂) ∧
    (∀ (c : σ) rest s₂, Inv vs.length c → Fr h₀ env.locals s₂.heap (kstB rest (ps c)) → News h₀ env.locals s₂.heap (Led c) → AllBare s₂.gens → s₂.os = s₁.os → Q .next s₂)
theorem for_list {σ : Type} {E : Value → Shared → Prop} {Q : Flow → Shared → Prop} {x : Str} {px pos : Pos} {iter : Expr} {body : List Stmt} {h₀ : Heap} {mF : Str → Option Value} (_F : Fr h₀ env.locals s.heap mF) (Led : σ → List (Addr × Obj)) (ps : σ → List (Str × Value)) (Inv : Nat → σ → Prop) (vs : List Value)
    (hx : env.kindOf x = some .local) (hp : (env.scope.kind == .class || (env.scope.kind == .module && env.locals != env.globals)) = false) (hh : A.handled = none)
    (h : wpAny (model prog w) A (eval iter env) (OverList prog w A h₀ env x body Q E Led ps Inv vs) E s)
    (hs : ∀ x, foldedSetIterable iter env x = pure x := by intro _; rfl)
    (hE : PassesOwn (model prog w) A env E := by passes_own) :
    wpAny (model prog w) A (exec (.For (.Name x px) iter body [] pos) env) Q E s := by
  refine wpAny_For (wpAny_mono h (fun xv s₁ h₁ => ?_) fun _ _ e => e) hs
  obtain ⟨l, nn, m₀, c₀, rfl, hl, F, N, hG, hps, h0, turn, done⟩ := h₁
  have hll := N _ (hl c₀)
  have hlist : s₁.heap.IsList l vs.toArray := ⟨_, hll.1, rfl, _, rfl⟩
  have hne : l ≠ s₁.heap.objs.size := Nat.ne_of_lt (Heap.lt_size hll.1)
  have hlt : ∀ p ∈ Led c₀, @LT.lt Nat _ p.1 s₁.heap.objs.size := fun p hp => Heap.lt_size (N p hp).1
  refine wpAny_pyIter_list hlist ?_
  refine loopG (I := s₁.heap.objs.size) (fp := [s₁.heap.objs.size, l]) Led ps Inv c₀ (Walks.list hh _ _ hne vs.toArray) (fun i h q => ?_) (fun b hb => ?_) ?_ hx hp (next_is_new F) ⟨⟨_, Heap.get?_push_size _ rfl, rfl, rfl⟩, hlist.push _⟩ (F.push _)
    (fun p hp => ⟨Heap.get?_push_of_some _ (N p hp).1, (N p hp).2⟩) (fun p hp => Nat.ne_of_lt (hlt p hp)) hG hps h0 hE ?_ ?_
  · obtain ⟨⟨o, ho, _⟩, _⟩ := q
    exact ⟨o, ho⟩
  · rcases List.mem_cons.mp hb with rfl | hb
    · exact .inl rfl
    · rw [List.mem_singleton.mp hb]
      exact .inr ⟨_, hl⟩
  · intro hm
    rcases List.mem_cons.mp hm with q | hm
    · exact absurd F.ns.lt (q ▸ Nat.lt_irrefl _)
    · exact hll.2.1 (List.mem_singleton.mp hm).symm
  · rintro i v c o rest s₂ hi hP hinv ho F₂ N₂ G₂ os₂
    exact turn i v c _ o rest s₂ (by simpa using hP) hinv hlt ho F₂ N₂ G₂ os₂
  · exact fun c rest s₂ hinv _ F₂ N₂ G₂ os₂ => done c rest s₂ (by simpa using hinv) F₂ N₂ G₂ os₂
end

end Mine
end
section
open PySem PySem.W PySem.Spec PySem.Calls PyProof.Rows
namespace Mine
theorem hide1 {M : Model} {A : Around} {env : Env} {Q : Flow → Shared → Prop} {E : Value → Shared → Prop} {s : Shared} {a : Stmt} {R : List Stmt} (h : ∀ R', R' = R → wpAny M A (execs (a :: R') env) Q E s) : wpAny M A (execs (a :: R) env) Q E s := h R rfl
theorem hide2 {M : Model} {A : Around} {env : Env} {Q : Flow → Shared → Prop} {E : Value → Shared → Prop} {s : Shared} {a b : Stmt} {R : List Stmt} (h : ∀ R', R' = R → wpAny M A (execs (a :: b :: R') env) Q E s) : wpAny M A (execs (a :: b :: R) env) Q E s := h R rfl
theorem hide3 {M : Model} {A : Around} {env : Env} {Q : Flow → Shared → Prop} {E : Value → Shared → Prop} {s : Shared} {a b c : Stmt} {R : List Stmt} (h : ∀ R', R' = R → wpAny M A (execs (a :: b :: c :: R') env) Q E s) : wpAny M A (execs (a :: b :: c :: R) env) Q E s := h R rfl
theorem hide4 {M : Model} {A : Around} {env : Env} {Q : Flow → Shared → Prop} {E : Value → Shared → Prop} {s : Shared} {a b c d : Stmt} {R : List Stmt} (h : ∀ R', R' = R → wpAny M A (execs (a :: b :: c :: d :: R') env) Q E s) : wpAny M A (execs (a :: b :: c :: d :: R) env) Q E s := h R rfl
theorem frM {h₀ h : Heap} {L : Addr} {m m' : Str → Option Value} (F : Fr h₀ L h m) (e : m = m') : Fr h₀ L h m' := e ▸ F
/-- the rows' lists stand in the ledger -/
noncomputable def RowsAt (news : List (Addr × Obj)) : List Addr → List (List Int) → Prop
  | [], [] => True
  | r :: rs, z :: Z => (∃ vs nn, (r, listOf vs.toArray nn) ∈ news ∧ IntsAre vs z) ∧ RowsAt news rs Z
  | _, _ => False
theorem RowsAt.get {news : List (Addr × Obj)} : ∀ {rs : List Addr} {Z : List (List Int)}, RowsAt news rs Z → ∀ {i : Nat} {v : Value}, (rs.map Value.ref)[i]? = some v → ∃ r z vs nn, v = .ref r ∧ Z[i]? = some z ∧ (r, listOf vs.toArray nn) ∈ news ∧ IntsAre vs z
  | [], [], _, i, v, h => by simp at h
  | r :: rs, z :: Z, h, 0, v, e => by
    obtain ⟨⟨vs, nn, h1, h2⟩, _⟩ := h
    cases e
    exact ⟨r, z, vs, nn, rfl, rfl, h1, h2⟩
  | r :: rs, z :: Z, h, i + 1, v, e => h.2.get (i := i) e
  | [], _ :: _, h, _, _, _ => h.elim
  | _ :: _, [], h, _, _, _ => h.elim
theorem RowsAt.length {news : List (Addr × Obj)} : ∀ {rs : List Addr} {Z : List (List Int)}, RowsAt news rs Z → rs.length = Z.length
  | [], [], _ => rfl
  | _ :: _, _ :: _, h => by simp [h.2.length]
  | [], _ :: _, h => h.elim
  | _ :: _, [], h => h.elim
theorem RowsAt.mono {news news' : List (Addr × Obj)} (hs : ∀ p ∈ news, (∃ vs n, p.2 = listOf vs n) → p ∈ news') : ∀ {rs : List Addr} {Z : List (List Int)}, RowsAt news rs Z → RowsAt news' rs Z
  | [], [], _ => trivial
  | _ :: _, _ :: _, h => ⟨let ⟨vs, nn, h1, h2⟩ := h.1; ⟨vs, nn, hs _ h1 ⟨_, _, rfl⟩, h2⟩, h.2.mono hs⟩
  | [], _ :: _, h => h.elim
  | _ :: _, [], h => h.elim
theorem intsGet {i : Nat} {v : Value} : ∀ {vs : List Value} {ns : List Int}, IntsAre vs ns → vs[i]? = some v → ∃ x t, v = .int x t ∧ ns[i]? = some x := by
  intro vs ns h e
  have hl := h.length
  obtain ⟨hlt, e2⟩ := List.getElem?_eq_some_iff.mp e
  have hz : ns[i]? = some (ns[i]'(hl ▸ hlt)) := List.getElem?_eq_getElem _
  obtain ⟨t, ht⟩ := h.get i _ hz
  rw [ht] at e
  cases e
  exact ⟨_, t, rfl, hz⟩
theorem updF_mk {d : Addr} {o : Obj} {post : List (Addr × Obj)} (h2 : ∀ q ∈ post, q.1 ≠ d) : ∀ {pre : List (Addr × Obj)}, (∀ q ∈ pre, q.1 ≠ d) → UpdF d o (pre ++ (d, o) :: post) (fun o' => pre ++ (d, o') :: post)
  | [], _ => .head h2
  | q :: r, h => .tail (h q (.head _)) (updF_mk h2 fun p hp => h p (.tail _ hp))
theorem updF_again {d : Addr} {o : Obj} {news : List (Addr × Obj)} {g : Obj → List (Addr × Obj)} (U : UpdF d o news g) (o' : Obj) : UpdF d o' (g o') g := by
  obtain ⟨own, rest, rfl, hg, h1, h2⟩ := U.split
  have e : g = fun o' => own ++ (d, o') :: rest := funext hg
  rw [e]
  exact updF_mk h2 h1
theorem updF_mem {d : Addr} {o : Obj} {news : List (Addr × Obj)} {g : Obj → List (Addr × Obj)} (U : UpdF d o news g) (o' : Obj) {p : Addr × Obj} (hp : p ∈ news) (hn : p.2 ≠ o) : p ∈ g o' := by
  obtain ⟨own, rest, rfl, hg, h1, h2⟩ := U.split
  rw [hg]
  rcases List.mem_append.mp hp with h | h
  · exact List.mem_append_left _ h
  · rcases List.mem_cons.mp h with rfl | h
    · exact absurd rfl hn
    · exact List.mem_append_right _ (.tail _ h)
theorem updF_addr {d : Addr} {o o' : Obj} {news : List (Addr × Obj)} {g : Obj → List (Addr × Obj)} (U : UpdF d o news g) {p : Addr × Obj} (hp : p ∈ g o') : ∃ q ∈ news, q.1 = p.1 := by
  obtain ⟨own, rest, rfl, hg, h1, h2⟩ := U.split
  rw [hg] at hp
  rcases List.mem_append.mp hp with h | h
  · exact ⟨p, List.mem_append_left _ h, rfl⟩
  · rcases List.mem_cons.mp h with rfl | h
    · exact ⟨(d, o), List.mem_append_right _ (.head _), rfl⟩
    · exact ⟨p, List.mem_append_right _ (.tail _ h), rfl⟩
theorem updF_self {d : Addr} {o : Obj} {news : List (Addr × Obj)} {g : Obj → List (Addr × Obj)} (U : UpdF d o news g) (o' : Obj) : (d, o') ∈ g o' := by
  obtain ⟨own, rest, rfl, hg, h1, h2⟩ := U.split
  rw [hg]
  exact List.mem_append_right _ (.head _)
theorem updF_same {d : Addr} {o : Obj} {news : List (Addr × Obj)} {g : Obj → List (Addr × Obj)} (U : UpdF d o news g) : g o = news := by
  obtain ⟨own, rest, e, hg, _, _⟩ := U.split
  rw [hg, e]
theorem list_ne_tab {a : Array Value} {n : Nat} {ps : Array Value} : listOf a n ≠ tabObj ps := fun h => by cases h
abbrev M60 : Int := 10 ^ 60 + 7
abbrev WW (n b : Int) (k : Nat) : Int := 2 * (n * b) ^ k + 2
theorem bits_of_bd {x B : Int} {k : Nat} (h : Bd B x) (hB : B < 2 ^ k) : Builtin.Int.intBits x ≤ k := by
  refine intBits_le_iff.mpr ?_
  unfold Bd at h
  have e : ((2 : Int) ^ k) = ((2 ^ k : Nat) : Int) := by norm_cast
  rw [e] at hB
  generalize 2 ^ k = T at *
  omega
theorem bits_nb {n b : Int} (h1 : 1 ≤ n) (h6 : n ≤ 6) (b1 : 1 ≤ b) (b2 : b ≤ M60) : Builtin.Int.intBits (n * b) ≤ 203 := by
  have hn : Builtin.Int.intBits n ≤ 3 := bits_of_bd (B := 6) ⟨by omega, h6⟩ (by decide)
  have hb : Builtin.Int.intBits b ≤ 200 := bits_of_bd (B := M60) ⟨Int.le_trans (by decide : -M60 ≤ (1 : Int)) b1, b2⟩ (by decide)
  exact intBits_mul_le hn hb
theorem bits_WW {n b : Int} {k : Nat} (h1 : 1 ≤ n) (h6 : n ≤ 6) (b1 : 1 ≤ b) (b2 : b ≤ M60) (hk : k ≤ 16) : Builtin.Int.intBits (WW n b k) ≤ 3252 := by
  have h := intBits_pow_le (bits_nb h1 h6 b1 b2) k
  have h' : Builtin.Int.intBits ((n * b) ^ k) ≤ 3249 := Nat.le_trans h (by omega)
  have h2 : Builtin.Int.intBits (2 : Int) ≤ 2 := by decide
  exact Nat.le_trans (intBits_add_le (intBits_mul_le h2 h') h2) (by decide)
theorem bits_in {x M : Int} {k : Nat} (h0 : 0 ≤ x) (h1 : x < M) (h : Builtin.Int.intBits M ≤ k) : Builtin.Int.intBits x ≤ k := intBits_le_of_natAbs (by omega) h
theorem bits_300 {x : Int} (h : Bd (10 ^ 60 + 6) x) : Builtin.Int.intBits x ≤ 300 := bits_of_bd h (by decide)
theorem log2_bits {x : Int} {k : Nat} (h : Builtin.Int.intBits x ≤ k) (hk : k ≤ 8999) : x.natAbs.log2 < 9000 := by
  have h1 := intBits_le_iff.mp h
  by_cases h0 : x.natAbs = 0
  · rw [h0]; decide
  · exact (Nat.log2_lt h0).mpr (Nat.lt_of_lt_of_le h1 (Nat.pow_le_pow_right (by decide) (by omega)))
theorem pow_room {a e : Int} {k : Nat} (h : Builtin.Int.intBits a ≤ k) (hk : k ≤ 100000) (h0 : 0 ≤ e) (h1 : e ≤ 16) : (Builtin.Int.intBits a : Int) * e ≤ 2 ^ 27 := by
  have h2 : ((Builtin.Int.intBits a : Nat) : Int) * e ≤ ((Builtin.Int.intBits a : Nat) : Int) * 16 := Int.mul_le_mul_of_nonneg_left h1 (by omega)
  have h3 : (2 : Int) ^ 27 = 134217728 := by decide
  omega
theorem bits_mm {w n : Int} (h : Builtin.Int.intBits w ≤ 3252) (h1 : 1 ≤ n) (h6 : n ≤ 6) : Builtin.Int.intBits (w ^ n.toNat + 1) ≤ 20000 := by
  have h' := intBits_pow_le h n.toNat
  have h2 : Builtin.Int.intBits (1 : Int) ≤ 1 := by decide
  have h3 : Builtin.Int.intBits (w ^ n.toNat) ≤ 19513 := Nat.le_trans h' (by omega)
  exact Nat.le_trans (intBits_add_le h3 h2) (by decide)
theorem bits_ev {w : Int} (h : Builtin.Int.intBits w ≤ 3252) : ∀ {z : List Int}, (∀ x ∈ z, Builtin.Int.intBits x ≤ 300) → Builtin.Int.intBits (ev w z) ≤ 3253 * z.length + 300
  | [], _ => Nat.le_trans (by decide : Builtin.Int.intBits (0 : Int) ≤ 300) (Nat.le_add_left _ _)
  | c :: r, hz => by
    have ih := bits_ev h (z := r) fun x hx => hz x (.tail _ hx)
    have hc := hz c (.head _)
    refine Nat.le_trans (intBits_add_le hc (intBits_mul_le h ih)) ?_
    rw [List.length_cons]
    omega
theorem frEx1 {h₀ h : Heap} {L : Addr} {m rest : Str → Option Value} (F : Fr h₀ L h m) (psf : Tok → List (Str × Value)) (e : ∃ a, m = kstB rest (psf a)) : ∃ a, Fr h₀ L h (kstB rest (psf a)) := let ⟨a, e⟩ := e; ⟨a, e ▸ F⟩
theorem frEx2 {h₀ h : Heap} {L : Addr} {m rest : Str → Option Value} (F : Fr h₀ L h m) (psf : Tok → Tok → List (Str × Value)) (e : ∃ a b, m = kstB rest (psf a b)) : ∃ a b, Fr h₀ L h (kstB rest (psf a b)) := let ⟨a, b, e⟩ := e; ⟨a, b, e ▸ F⟩
theorem frEx3 {h₀ h : Heap} {L : Addr} {m rest : Str → Option Value} (F : Fr h₀ L h m) (psf : Tok → Tok → Tok → List (Str × Value)) (e : ∃ a b c, m = kstB rest (psf a b c)) : ∃ a b c, Fr h₀ L h (kstB rest (psf a b c)) := let ⟨a, b, c, e⟩ := e; ⟨a, b, c, e ▸ F⟩
theorem nearA {h₀ h : Heap} {L : Addr} {rest : Str → Option Value} {x : Str} {M v0 : Int} {tk t0 : Tok} {ps : List (Str × Value)} (F : Fr h₀ L h (fun y => if y = x then some (.int (v0 - M) tk) else kstB rest ((x, .int v0 t0) :: ps) y)) (hc : M < 2 * v0) :
    ∃ tv, Fr h₀ L h (kstB rest ((x, .int (nearest M v0) tv) :: ps)) := by
  refine ⟨tk, ?_⟩
  have e : nearest M v0 = v0 - M := if_pos hc
  have em : kstB rest ((x, .int (nearest M v0) tk) :: ps) = (fun y => if y = x then some (.int (v0 - M) tk) else kstB rest ((x, .int v0 t0) :: ps) y) := by
    funext y
    show (if y = x then some (.int (nearest M v0) tk) else kstB rest ps y) = (if y = x then some (.int (v0 - M) tk) else if y = x then some (.int v0 t0) else kstB rest ps y)
    rw [e]
    by_cases h : y = x
    · rw [if_pos h, if_pos h]
    · rw [if_neg h, if_neg h, if_neg h]
  rw [em]
  exact F
theorem nearB {h₀ h : Heap} {L : Addr} {rest : Str → Option Value} {x : Str} {M v0 : Int} {t0 : Tok} {ps : List (Str × Value)} (F : Fr h₀ L h (kstB rest ((x, .int v0 t0) :: ps))) (hc : ¬ M < 2 * v0) :
    ∃ tv, Fr h₀ L h (kstB rest ((x, .int (nearest M v0) tv) :: ps)) := by
  have e : nearest M v0 = v0 := if_neg hc
  rw [e]
  exact ⟨t0, F⟩
theorem digs_step {W q V v : Int} {i n : Nat} {D : List Int} {d : Int} (hi : i < n) (hd : d = if 2 * v.fmod W > W then v.fmod W - W else v.fmod W) (h1 : D.length = i) (h : D ++ digs W q (n - i) v = digs W q n V) :
    (D ++ [d.fmod q]).length = i + 1 ∧ (D ++ [d.fmod q]) ++ digs W q (n - (i + 1)) ((v - d).fdiv W) = digs W q n V := by
  obtain ⟨k, hk⟩ : ∃ k, n - i = k + 1 := ⟨n - i - 1, by omega⟩
  have hk2 : n - (i + 1) = k := by omega
  refine ⟨by simp [h1], ?_⟩
  rw [hk2, ← h, hk, List.append_assoc]
  subst hd
  rfl
theorem digs_end {W q V v : Int} {n : Nat} {D : List Int} (h : D ++ digs W q (n - n) v = digs W q n V) : D = digs W q n V := by
  rw [Nat.sub_self] at h
  rw [← h]
  exact (List.append_nil D).symm
theorem intsAdd {t : Tok} {x : Int} : ∀ {vs : List Value} {ns : List Int}, IntsAre vs ns → IntsAre (vs ++ [.int x t]) (ns ++ [x])
  | _, _, .nil => .cons _ _ .nil
  | _, _, .cons n t h => .cons n t (intsAdd h)
/-- the product of the rows' values -/
noncomputable def pe (w : Int) : List (List Int) → Int
  | [] => 1
  | z :: r => ev w z * pe w r
theorem pe_append {w : Int} : ∀ {a b : List (List Int)}, pe w (a ++ b) = pe w a * pe w b
  | [], b => (Int.one_mul _).symm
  | z :: r, b => by
    show ev w z * pe w (r ++ b) = ev w z * pe w r * pe w b
    rw [pe_append, Int.mul_assoc]
theorem pe_take {w : Int} {Z : List (List Int)} {z : List Int} {i : Nat} (h : Z[i]? = some z) : pe w (Z.take (i + 1)) = pe w (Z.take i) * ev w z := by
  rw [List.take_add_one, h, pe_append]
  show _ * (ev w z * 1) = _
  rw [Int.mul_one]
theorem ww_pos {n b : Int} (h1 : 1 ≤ n) (b1 : 1 ≤ b) (k : Nat) : 4 ≤ WW n b k := by
  have h : 1 ≤ n * b := by
    have := Int.mul_le_mul_of_nonneg_right h1 (show 0 ≤ b by omega)
    omega
  have h2 : 0 < (n * b) ^ k := Int.pow_pos (by omega)
  unfold WW
  omega
theorem mm_pos {w n : Int} (h : 4 ≤ w) (h1 : 1 ≤ n) : 4 < w ^ n.toNat + 1 := by
  obtain ⟨k, hk⟩ : ∃ k, n.toNat = k + 1 := ⟨n.toNat - 1, by omega⟩
  have h2 : 0 < w ^ k := Int.pow_pos (by omega)
  rw [hk, Int.pow_succ]
  have : 1 * w ≤ w ^ k * w := Int.mul_le_mul_of_nonneg_right h2 (by omega)
  omega
theorem step_v {m v V e : Int} (hm : 0 < m) (h : Cong m v V) : 0 ≤ (v * e).fmod m ∧ (v * e).fmod m < m ∧ Cong m ((v * e).fmod m) (V * e) :=
  ⟨Int.fmod_nonneg_of_pos _ hm, Int.fmod_lt_of_pos _ hm, (fmod_cong hm _).trans (h.mul (.refl _ _))⟩

end Mine
end
section
open PySem PySem.W PySem.Spec PySem.Calls PyProof.Rows
namespace Mine
/-- what the first loop brings: a bound above every entry -/
def Big (Z : List (List Int)) (b : Int) : Prop := 1 ≤ b ∧ b ≤ M60 ∧ ∀ z ∈ Z, ∀ x ∈ z, Bd b x
/-- what _law_digits gives back -/
def DigSpec (Z : List (List Int)) (q n : Int) (D : List Int) : Prop :=
  ∃ b v, Big Z b ∧ Cong (WW n b Z.length ^ n.toNat + 1) v (pe (WW n b Z.length) Z) ∧ 0 ≤ v ∧ v < WW n b Z.length ^ n.toNat + 1 ∧ D = digs (WW n b Z.length) q n.toNat (nearest (WW n b Z.length ^ n.toNat + 1) v)
theorem big_grow {Z : List (List Int)} {z : List Int} {b x : Int} {i j : Nat} (h : Big (Z.take i) b ∧ ∀ y ∈ z.take j, Bd b y) (hx : z[j]? = some x) (hb : Bd (10 ^ 60 + 6) x) (hc : b ≤ if x < 0 then -x else x) :
    Big (Z.take i) ((if x < 0 then -x else x) + 1) ∧ ∀ y ∈ z.take (j + 1), Bd ((if x < 0 then -x else x) + 1) y := by
  obtain ⟨⟨h1, h2, h3⟩, h4⟩ := h
  have hb1 : (if x < 0 then -x else x) ≤ 10 ^ 60 + 6 := by
    unfold Bd at hb
    generalize (10 : Int) ^ 60 = T at *
    split <;> omega
  have hM : M60 = (10 : Int) ^ 60 + 7 := rfl
  refine ⟨⟨by omega, ?_, fun z' hz y hy => bd_up (h3 z' hz y hy) (by omega)⟩, fun y hy => ?_⟩
  · rw [hM]; generalize (10 : Int) ^ 60 = T at *; omega
  · rw [List.take_add_one, hx] at hy
    rcases List.mem_append.mp hy with hy | hy
    · exact bd_up (h4 y hy) (by omega)
    · have : y = x := by simpa using hy
      subst this
      unfold Bd
      split <;> omega
theorem big_stay {Z : List (List Int)} {z : List Int} {b x : Int} {i j : Nat} (h : Big (Z.take i) b ∧ ∀ y ∈ z.take j, Bd b y) (hx : z[j]? = some x) (hc : ¬ b ≤ if x < 0 then -x else x) :
    Big (Z.take i) b ∧ ∀ y ∈ z.take (j + 1), Bd b y := by
  obtain ⟨h1, h4⟩ := h
  refine ⟨h1, fun y hy => ?_⟩
  rw [List.take_add_one, hx] at hy
  rcases List.mem_append.mp hy with hy | hy
  · exact h4 y hy
  · have : y = x := by simpa using hy
    subst this
    unfold Bd
    split at hc <;> omega
theorem big_next {Z : List (List Int)} {z : List Int} {b : Int} {i k : Nat} (h : Big (Z.take i) b ∧ ∀ y ∈ z.take k, Bd b y) (hz : Z[i]? = some z) (hk : k = z.length) : Big (Z.take (i + 1)) b := by
  obtain ⟨⟨h1, h2, h3⟩, h4⟩ := h
  subst hk
  rw [List.take_length] at h4
  refine ⟨h1, h2, fun z' hz' => ?_⟩
  rw [List.take_add_one, hz] at hz'
  rcases List.mem_append.mp hz' with hz' | hz'
  · exact h3 z' hz'
  · have : z' = z := by simpa using hz'
    subst this
    exact h4
section
local macro_rules | `(tactic| k_mem) => `(tactic| first | (with_reducible assumption) | assumption | exact List.mem_cons_self | (refine' List.mem_cons_of_mem _ ?_; k_mem))
local macro_rules | `(tactic| walk_at "call builtin:len") => `(tactic| (k_here; (with_reducible show wpAny _ _ (call (Value.builtin "len") [Value.ref _]) _ _ _); k_dflt (refine' kst_len ?k1 ?k2 rfl ?k4 ?_; (case k1 => k_asm); (case k2 => k_mem); (case k4 => omega); k_whole)))
local macro_rules | `(tactic| walk_at "binaryOp Pow int int") => `(tactic| (k_here; (with_reducible refine pow_int ?kb1 ?kb2 ?_); (case kb1 => omega); (case kb2 => exact pow_room (by assumption) (by omega) (by omega) (by omega))))
local macro_rules | `(tactic| walk_at "binaryOp Mult int int") => `(tactic| (k_here; (with_reducible refine mul_int ?_ (by assumption))))
local macro_rules | `(tactic| tb_start) => `(tactic| exact Site.of (by k_asm) (by k_asm) (by k_asm) (by k_asm) (by k_asm) (by k_asm) (by first | rfl | assumption) (by first | ((try simp only [depth_under_make, depth_under_kw, depth_in1, depth_deeper, depth_caller]); (try dsimp only [ktrTop]); omega) | ktr_room) (by first | ((have hcL9 := cLine_is); (try simp only [units_under_make, units_in1, units_deeper, Around.mark_units, units_caller]); (try dsimp only [ktrTop]); omega) | ktr_units))
local macro_rules | `(tactic| k_upd) => `(tactic| exact Upd.tail (by assumption) (Upd.head (by assumption)))
local macro_rules | `(tactic| walk_at "binaryOp FloorDiv int int") => `(tactic| (k_here; (with_reducible refine floordiv_int (by omega) ?_ (Or.inl (PyProof.noPylong_of_log2 (by assumption))))))
local macro_rules | `(tactic| walk_at "look") => `(tactic| (repeat (first | exact List.forall_mem_nil _ | refine List.forall_mem_cons.mpr ⟨rfl, ?_⟩)))
set_option maxRecDepth 100000 in
set_option maxHeartbeats 20000000 in
theorem dig_ok {w : World} {mean : ExcName → Option Value} {mg mb : Str → Option Value} {A : Around} {base h₀ : Heap} {L : Addr} {m : Str → Option Value} {news : List (Addr × Obj)} {s : Shared} {Q E : Value → Shared → Prop} {R : Addr} {rs : List Addr} {Z : List (List Int)} {nR : Nat} {q n : Int} {t1 t2 : Tok}
    {g : Obj → List (Addr × Obj)} {ps : Array Value} (S : Site 8 w mean mg mb A base h₀ L m news s) (U : UpdF 235 (tabObj ps) news g) (ht : TriplesOk ps.toList) (hG : AllBare s.gens) (hR : (R, listOf (rs.map Value.ref).toArray nR) ∈ news) (hZ : RowsAt news rs Z) (hB : ∀ z ∈ Z, ∀ x ∈ z, Bd (10 ^ 60 + 6) x) (hn1 : 1 ≤ n) (hn6 : n ≤ 6) (hZ1 : 1 ≤ Z.length) (hZ16 : Z.length ≤ 16) (hlen : ∀ z ∈ Z, (z.length : Int) = n) (hq : 1 ≤ q)
    (ret : ∀ lo vs' nn' ps' s' D, TriplesOk ps'.toList → Fr h₀ L s'.heap m → News h₀ L s'.heap ((lo, listOf vs'.toArray nn') :: g (tabObj ps')) → (∀ p ∈ news, @LT.lt Nat _ p.1 lo) → IntsAre vs' D → DigSpec Z q n D → AllBare s'.gens → s'.os = s.os → Q (.ref lo) s') :
    wpAny (model P2 w) A (call (.ref 247) [.ref R, .int q t1, .int n t2]) Q E s := by
  have hrl := hZ.length
  have hvl : (rs.map Value.ref).length = rs.length := List.length_map _
  unfold Site P2 at *
  obtain ⟨dp, un, gd, cn, cs, a, ccd, cl, outer, A₀, rfl, B, F, X, N, T, C9, hk, hdp, hun⟩ := S
  revert X; k_fill; intro X
  k_with_none
  refine wpAny_call ?_
  k_dflt cell_enter
  (with_reducible rename Fr h₀ L _ m => FG)
  have C9' := C9.keeps FG.keep
  refine hide1 fun R1 hR1 => ?_
  repeat' (first | (k_unfold; (try dsimp only)) | (k_end; wrow_close) | ((try dsimp only); walk1) | (leave1; (try dsimp only)))
  (with_reducible rename Fr _ _ _ _ => F1)
  (with_reducible rename News _ _ _ _ => N1)
  (with_reducible rename Top _ _ _ _ _ _ => T1)
  subst hR1
  refine hide1 fun R2 hR2 => ?_
  refine wpAny_execs_cons ?_
  refine for_list F1 (fun _ : Int × Tok => news) (fun c => [(Str.ofString "big", .int c.1 c.2), (Str.ofString "rows", .ref R), (Str.ofString "q", .int q t1), (Str.ofString "n", .int n t2)])
    (fun i c => Big (Z.take i) c.1) (rs.map Value.ref) (by rfl) (by rfl) (by rfl) ?_
  repeat' (first | (k_unfold; (try dsimp only)) | (k_end; wrow_close) | ((try dsimp only); walk1) | (leave1; (try dsimp only)))
  unfold OverList
  refine ⟨_, nR, _, (1, _), rfl, fun _ => hR, F1, N1, hG, by walk_at "look", ⟨Int.le_refl 1, (by decide : (1 : Int) ≤ M60), fun z hz => nomatch hz⟩, ?t1, ?d1⟩
  case t1 =>
    rintro i v ⟨b, tb⟩ I o rest s₂ hv hinv hlt hoff F2 N2 G2 os2
    obtain ⟨r, z, vs, nn, rfl, hz, hr, hi⟩ := hZ.get hv
    have hlen := (List.getElem?_eq_some_iff.mp hz).1
    refine hide1 fun R3 hR3 => ?_
    refine wpAny_execs_cons ?_
    refine for_list F2 (fun _ : Int × Tok => (I, o) :: news) (fun c => [(Str.ofString "row", .ref r), (Str.ofString "big", .int c.1 c.2), (Str.ofString "rows", .ref R), (Str.ofString "q", .int q t1), (Str.ofString "n", .int n t2)])
      (fun j c => Big (Z.take i) c.1 ∧ ∀ x ∈ z.take j, Bd c.1 x) vs (by rfl) (by rfl) (by rfl) ?_
    repeat' (first | (k_unfold; (try dsimp only)) | (k_end; wrow_close) | ((try dsimp only); walk1) | (leave1; (try dsimp only)))
    unfold OverList
    refine ⟨_, nn, _, (b, tb), rfl, fun _ => .tail _ hr, F2, N2, G2, by walk_at "look", ⟨hinv, fun x hx => nomatch hx⟩, ?t2, ?d2⟩
    case t2 =>
      rintro j v ⟨b, tb⟩ I2 o2 rest2 s₃ hv2 hinv2 hlt2 hoff2 F3 N3 G3 os3
      obtain ⟨x, tx, rfl, hx⟩ := intsGet hi hv2
      dsimp only at F3 N3
      repeat' (first | (k_unfold; (try dsimp only)) | (k_end; wrow_close) | ((try dsimp only); walk1) | (leave1; (try dsimp only)))
      · exact ⟨rfl, (_, _), _, (by assumption), (by walk_at "look"), (by assumption), hoff2, G3, os3, big_grow hinv2 hx (hB z (List.mem_of_getElem? hz) x (List.mem_of_getElem? hx)) (by assumption)⟩
      · exact ⟨rfl, (_, _), _, (by assumption), (by walk_at "look"), (by assumption), hoff2, G3, os3, big_stay hinv2 hx (by assumption)⟩
    case d2 =>
      rintro ⟨b, tb⟩ rest2 s₃ hinv2 F3 N3 G3 os3
      dsimp only at F3 N3
      subst hR3
      repeat' (first | (k_unfold; (try dsimp only)) | (k_end; wrow_close) | ((try dsimp only); walk1) | (leave1; (try dsimp only)))
      exact ⟨rfl, (_, _), _, (by assumption), (by walk_at "look"), (by assumption), hoff, G3, os3.trans os2, big_next hinv2 hz hi.length⟩
  case d1 =>
    rintro ⟨b, tb⟩ rest s₂ hinv F2 N2 G2 os2
    dsimp only at F2 N2
    rw [List.length_map, hZ.length, List.take_length] at hinv
    have q0 := bits_nb hn1 hn6 hinv.1 hinv.2.1
    have hkk : (((rs.map Value.ref).length : Nat) : Int).toNat = Z.length := by rw [Int.toNat_natCast, hvl, hrl]
    have q1 := bits_WW hn1 hn6 hinv.1 hinv.2.1 (hkk ▸ hZ16)
    unfold WW at q1
    have q2 := bits_mm q1 hn1 hn6
    subst hR2
    refine hide3 fun R3 hR3 => ?_
    repeat' (first | (k_unfold; (try dsimp only)) | (k_end; wrow_close) | ((try dsimp only); walk1) | (leave1; (try dsimp only)))
    (try clear F1); (try clear F2); (try clear N1)
    (with_reducible rename Fr _ _ _ _ => F3)
    (with_reducible rename News _ _ _ _ => N3)
    obtain ⟨tv, tm, tw, F3⟩ := frEx3 (rest := rest) F3 (fun tv tm tw => [(Str.ofString "v", .int 1 tv), (Str.ofString "m", .int ((2 * (n * b) ^ (((rs.map Value.ref).length : Nat) : Int).toNat + 2) ^ n.toNat + 1) tm), (Str.ofString "w", .int (2 * (n * b) ^ (((rs.map Value.ref).length : Nat) : Int).toNat + 2) tw),
      (Str.ofString "big", .int b tb), (Str.ofString "rows", .ref R), (Str.ofString "q", .int q t1), (Str.ofString "n", .int n t2)]) ⟨_, _, _, rfl⟩
    have w4 := ww_pos hn1 hinv.1 (((rs.map Value.ref).length : Nat) : Int).toNat
    unfold WW at w4
    have hm4 := mm_pos w4 hn1
    generalize hW : 2 * (n * b) ^ (((rs.map Value.ref).length : Nat) : Int).toNat + 2 = W at *
    generalize hM : W ^ n.toNat + 1 = M at *
    rw [hkk] at hW
    subst hR3
    refine hide1 fun R3 hR3 => ?_
    refine wpAny_execs_cons ?_
    refine for_list F3 (fun c : Int × Tok × Array Value => g (tabObj c.2.2)) (fun c => [(Str.ofString "v", .int c.1 c.2.1), (Str.ofString "m", .int M tm), (Str.ofString "w", .int W tw), (Str.ofString "rows", .ref R), (Str.ofString "q", .int q t1), (Str.ofString "n", .int n t2)])
      (fun i c => 0 ≤ c.1 ∧ c.1 < M ∧ Cong M c.1 (pe W (Z.take i)) ∧ TriplesOk c.2.2.toList) (rs.map Value.ref) (by rfl) (by rfl) (by rfl) ?_
    repeat' (first | (k_unfold; (try dsimp only)) | (k_end; wrow_close) | ((try dsimp only); walk1) | (leave1; (try dsimp only)))
    have hRg : ∀ ps', (R, listOf (rs.map Value.ref).toArray nR) ∈ g (tabObj ps') := fun ps' => updF_mem U _ hR list_ne_tab
    unfold OverList
    refine ⟨_, nR, _, (1, tv, ps), rfl, fun c => hRg _, F3, (by dsimp only; rw [updF_same U]; exact N3), G2, by walk_at "look", ⟨(by decide : (0 : Int) ≤ 1), by omega, .refl _ _, ht⟩, ?t3, ?d3⟩
    case t3 =>
      rintro i v ⟨v0, t0, ps0⟩ I o rest3 s₃ hv hinv3 hlt hoff F4 N4 G4 os4
      obtain ⟨r, z, vs, nn, rfl, hz, hr, hi⟩ := hZ.get hv
      dsimp only at F4 N4 hinv3
      have hr' : ∀ ps', (r, listOf vs.toArray nn) ∈ (I, o) :: g (tabObj ps') := fun ps' => .tail _ (updF_mem U _ hr list_ne_tab)
      repeat' (first | (k_unfold; (try dsimp only)) | (k_end; wrow_close) | ((try dsimp only); walk1) | (leave1; (try dsimp only)))
      have hI235 : I ≠ 235 := (hoff _ (updF_self U _)).symm
      have hzm := List.mem_of_getElem? hz
      have hz6 : z.length ≤ 6 := by have := hlen z hzm; omega
      refine' num_ok (W := W) (ns := z) ?S (.tail hI235 (updF_again U (tabObj ps0))) hinv3.2.2.2 G4 (hr' ps0) hi hz6 (fun x hx => bits_300 (hB z hzm x hx)) (Nat.le_trans q1 (by decide)) ?_
      case S => tb_start
      intro t5 ps5 s5 ht5 F5 N5 G5 os5
      have hmul : IntMulOk v0 (ev W z) := IntMulOk.of_le (bits_in hinv3.1 hinv3.2.1 q2) (bits_ev q1 fun x hx => bits_300 (hB z hzm x hx)) (by omega)
      repeat' (first | (k_unfold; (try dsimp only)) | (k_end; wrow_close) | ((try dsimp only); walk1) | (leave1; (try dsimp only)))
      obtain ⟨e1, e2, e3⟩ := step_v (e := ev W z) (by omega) hinv3.2.2.1
      exact ⟨rfl, (_, _, ps5), _, (by assumption), (by walk_at "look"), (by assumption), (fun p hp => by
        obtain ⟨q, hq, e⟩ := updF_addr (updF_again U (tabObj ps0)) hp
        rw [← e]
        exact hoff q hq), G5, os5.trans os4, e1, e2, (pe_take hz).symm ▸ e3, ht5⟩
    case d3 =>
      rintro ⟨v0, t0, ps0⟩ rest3 s₃ hinv3 F4 N4 G4 os4
      rw [hvl, hrl, List.take_length] at hinv3
      dsimp only at F4 N4 hinv3
      subst hR3
      refine hide1 fun R3 hR3 => ?_
      repeat' (first | (k_unfold; (try dsimp only)) | (k_end; wrow_close) | ((try dsimp only); walk1) | (leave1; (try dsimp only)))
      all_goals (try dsimp only)
      all_goals intros
      all_goals (
        (with_reducible rename Fr _ _ _ _ => F5)
        (with_reducible rename News _ _ _ _ => N5)
        obtain ⟨tv5, F6⟩ := (by first | exact nearA F5 (by first | assumption | omega) | exact nearB F5 (by first | assumption | omega) : ∃ tv, Fr _ _ _ (kstB _ ((_, .int (nearest M v0) tv) :: _)))
        clear F5
        generalize hV : nearest M v0 = V at *
        subst hR3
        refine hide1 fun R3 hR3 => ?_
        repeat' (first | (k_unfold; (try dsimp only)) | (k_end; wrow_close) | ((try dsimp only); walk1) | (leave1; (try dsimp only)))
        all_goals (try dsimp only)
        (with_reducible rename Addr => lo)
        (with_reducible rename ∀ p : Addr × Obj, p ∈ g (tabObj ps0) → p.1 < lo => l1f)
        (with_reducible rename Fr _ _ _ _ => F7)
        (with_reducible rename News _ _ _ _ => N7)
        subst hR3
        refine hide1 fun R3 hR3 => ?_
        refine wpAny_execs_cons ?_
        refine for_range F7 (fun c : Int × Tok × List Value × Nat => (lo, listOf c.2.2.1.toArray c.2.2.2) :: g (tabObj ps0)) (fun c => [(Str.ofString "out", .ref lo), (Str.ofString "v", .int c.1 c.2.1), (Str.ofString "w", .int W tw), (Str.ofString "q", .int q t1)])
          (fun i c => ∃ D, IntsAre c.2.2.1 D ∧ D.length = i ∧ D ++ digs W q (n.toNat - i) c.1 = digs W q n.toNat V) 0 n.toNat (by rfl) (by rfl) (by rfl) (by omega) (by omega) (by omega) ?_
        repeat' (first | (k_unfold; (try dsimp only)) | (k_end; wrow_close) | ((try dsimp only); walk1) | (leave1; (try dsimp only)))
        all_goals (try dsimp only)
        (with_reducible rename IsRange _ _ _ _ _ _ _ _ => R8)
        (with_reducible rename Fr _ _ _ _ => F8)
        (with_reducible rename News _ _ _ _ => N8)
        unfold OverRange
        refine ⟨_, _, _, _, _, _, (V, tv5, [], 0), rfl, R8, by omega, F8, N8, G4, by walk_at "look", ⟨[], .nil, rfl, rfl⟩, ?t4, ?d4⟩
        case t4 =>
          rintro i ti ⟨v1, t1', vs1, nn1⟩ I o rest4 s₄ hi ⟨D, hD1, hD2, hD3⟩ hlt hoff F9 N9 G9 os9
          dsimp only at F9 N9 hD1 hD2 hD3
          have hlog := log2_bits q1 (by decide)
          have hIl : I ≠ lo := (hoff _ (.head _)).symm
          have hgl : ∀ q ∈ g (tabObj ps0), q.1 ≠ lo := fun q hq => Nat.ne_of_lt (l1f q hq)
          repeat' (first | (k_unfold; (try dsimp only)) | (k_end; wrow_close) | ((try dsimp only); walk1) | (leave1; (try dsimp only)))
          all_goals (
            (with_reducible rename News _ _ _ _ => N10)
            rw [List.push_toArray] at N10
            first
            | exact ⟨rfl, (_, _, _, _), _, (by assumption), (by walk_at "look"), N10, (fun p hp => by rcases List.mem_cons.mp hp with rfl | hp; exact hIl.symm; exact hoff p (.tail _ hp)), G9, os9, _, intsAdd hD1, digs_step (d := v1.fmod W - W) hi (by rw [if_pos (by omega)]) hD2 hD3⟩
            | exact ⟨rfl, (_, _, _, _), _, (by assumption), (by walk_at "look"), N10, (fun p hp => by rcases List.mem_cons.mp hp with rfl | hp; exact hIl.symm; exact hoff p (.tail _ hp)), G9, os9, _, intsAdd hD1, digs_step (d := v1.fmod W) hi (by rw [if_neg (by omega)]) hD2 hD3⟩)
        case d4 =>
          rintro ⟨v1, t1', vs1, nn1⟩ rest4 s₄ ⟨D, hD1, hD2, hD3⟩ F9 N9 G9 os9
          dsimp only at F9 N9 hD1 hD2 hD3
          subst hR3
          repeat' (first | (k_unfold; (try dsimp only)) | (k_end; wrow_close) | ((try dsimp only); walk1) | (leave1; (try dsimp only)))
          (with_reducible rename News h₀ L _ _ => N10)
          have hsp : DigSpec Z q n D := by
            subst hV
            subst hM
            subst hW
            exact ⟨b, v0, hinv, hinv3.2.2.1, hinv3.1, hinv3.2.1, digs_end hD3⟩
          refine ret lo vs1 nn1 ps0 s₄ D hinv3.2.2.2 (by k_asm) N10 (fun p hp => ?_) hD1 hsp G9 (os9.trans (os4.trans os2))
          obtain ⟨q9, hq9, e9⟩ := updF_addr (updF_again U (tabObj ps0)) (o' := tabObj ps) (by rw [updF_same U]; exact hp)
          exact e9 ▸ l1f q9 hq9)
end

end Mine
end
section
open PySem PySem.W PySem.Spec PySem.Calls PyProof.Rows
namespace Mine
section
local macro_rules | `(tactic| k_mem) => `(tactic| first | (with_reducible assumption) | assumption | exact List.mem_cons_self | (refine' List.mem_cons_of_mem _ ?_; k_mem))
local macro_rules | `(tactic| walk_at "call builtin:len") => `(tactic| (k_here; (with_reducible show wpAny _ _ (call (Value.builtin "len") [Value.ref _]) _ _ _); k_dflt (refine' kst_len ?k1 ?k2 rfl ?k4 ?_; (case k1 => k_asm); (case k2 => k_mem); (case k4 => omega); k_whole)))
local macro_rules | `(tactic| walk_at "no key 1: the lines' count") => `(tactic| skip)
local macro_rules | `(tactic| walk_at "no key 2: the lines' count") => `(tactic| skip)
local macro_rules | `(tactic| tb_start) => `(tactic| exact Site.of (by k_asm) (by k_asm) (by k_asm) (by k_asm) (by k_asm) (by k_asm) (by first | rfl | assumption) (by first | ((try simp only [depth_under_make, depth_under_kw, depth_in1, depth_deeper, depth_caller]); (try dsimp only [ktrTop]); omega) | ktr_room) (by first | ((have hcL9 := cLine_is); (try simp only [units_under_make, units_in1, units_deeper, Around.mark_units, units_caller]); (try dsimp only [ktrTop]); omega) | ktr_units))
abbrev ringD (P : Params) (t1 t2 t3 t4 : Tok) (q n : Int) : Obj := dictOf [⟨PyData.keyHash P (Str.ofString "q"), .str (Str.ofString "q") t1, .int q t3⟩, ⟨PyData.keyHash P (Str.ofString "n"), .str (Str.ofString "n") t2, .int n t4⟩] 2
set_option maxRecDepth 100000 in
set_option maxHeartbeats 20000000 in
theorem parse_ok {w : World} {mean : ExcName → Option Value} {mg mb : Str → Option Value} {A : Around} {base h₀ : Heap} {L : Addr} {m : Str → Option Value} {news : List (Addr × Obj)} {s : Shared} {Q E : Value → Shared → Prop}
    {x dx ring rdx l : Addr} {t0 t1 t2 t3 t4 : Tok} {vs : List Value} {nn : Nat} {q n : Int}
    (S : Site 2 w mean mg mb A base h₀ L m news s) (hx : (x, instObj 222 dx) ∈ news) (hdx : (dx, dictOf [⟨PyData.keyHash w.params (Str.ofString "parent"), .str (Str.ofString "parent") t0, .ref ring⟩] 1) ∈ news)
    (hr : (ring, instObj 59 rdx) ∈ news) (hrd : (rdx, ringD w.params t1 t2 t3 t4 q n) ∈ news) (hl : (l, listOf vs.toArray nn) ∈ news) (hn : (vs.length : Int) = n) (hsz : n ≤ 100)
    (ret : ∀ h' tk', Fr h₀ L h' m → News h₀ L h' news → Q (.ref l) { s with heap := h', toks := tk' }) :
    wpAny (model P2 w) A (call (.ref 96) [.ref x, .ref l]) Q E s := by
  unfold Site P2 at *
  obtain ⟨dp, un, gd, cn, cs, a, ccd, cl, outer, A₀, rfl, B, F, X, N, T, C9, hk, hdp, hun⟩ := S
  revert X; k_fill; intro X
  refine wpAny_call ?_
  k_dflt cell_enter
  repeat' (first | (k_unfold; (try dsimp only)) | (k_end; wrow_close) | ((try dsimp only); walk1) | (leave1; (try dsimp only)))
  all_goals (exact ret _ _ (by k_asm) (by k_asm))
local macro_rules | `(tactic| walk_at "call ref") => `(tactic| (k_here; (with_reducible show wpAny _ _ (call (Value.ref 96) _) _ _ _); k_dflt (refine' parse_ok ?S ?hx ?hdx ?hr ?hrd ?hl ?hn ?hsz ?_; (case S => tb_start); (case hx => k_mem); (case hdx => k_mem); (case hr => k_mem); (case hrd => k_mem); (case hl => k_mem); (case hn => assumption); (case hsz => assumption); k_whole; intro h9 tk9 F9 N9; (try dsimp only); (try k_fold))))
set_option maxRecDepth 100000 in
set_option maxHeartbeats 20000000 in
theorem poly_ok {w : World} {mean : ExcName → Option Value} {mg mb : Str → Option Value} {A : Around} {base h₀ : Heap} {L : Addr} {m : Str → Option Value} {news : List (Addr × Obj)} {s : Shared} {Q E : Value → Shared → Prop}
    {ring rdx l : Addr} {t1 t2 t3 t4 : Tok} {vs : List Value} {nn : Nat} {q n : Int}
    (S : Site 6 w mean mg mb A base h₀ L m news s) (hr : (ring, instObj 59 rdx) ∈ news) (hrd : (rdx, ringD w.params t1 t2 t3 t4 q n) ∈ news) (hl : (l, listOf vs.toArray nn) ∈ news) (hn : (vs.length : Int) = n) (hsz : n ≤ 100)
    (ret : ∀ h' tk' x dx t1 t2, Fr h₀ L h' m → News h₀ L h' ((x, instObj 222 dx) :: (dx, polyD w.params t1 t2 ring l) :: news) → (∀ p ∈ news, p.1 < dx) → dx < x → Q (.ref x) { s with heap := h', toks := tk' }) :
    wpAny (model P2 w) A (call (.ref 222) [.ref ring, .ref l]) Q E s := by
  unfold Site P2 at *
  obtain ⟨dp, un, gd, cn, cs, a, ccd, cl, outer, A₀, rfl, B, F, X, N, T, C9, hk, hdp, hun⟩ := S
  revert X; k_fill; intro X
  k_dflt (refine' call_cls ?k1 ?k2 ?k3 ?k4 ?k5 ?k6 ?_; (case k1 => k_asm); (case k2 => k_asm); (case k3 => k_asm); (case k4 => k_is); (case k5 => k_is); (case k6 => k_is); k_whole; intro x' d' h' F' N' l1 l2; (try k_lt l1); (try k_lt2 l2); (try k_sweep))
  k_dflt cell_enter
  (with_reducible rename Fr h₀ L _ m => FG)
  have C9' := C9.keeps FG.keep
  repeat' (first | (k_unfold; (try dsimp only)) | (k_end; wrow_close) | ((try dsimp only); walk1) | (leave1; (try dsimp only)))
  exact ret _ _ _ _ _ _ (by k_asm) (by k_asm) l1 l2
local macro_rules | `(tactic| walk_at "call ref") => `(tactic| (k_here; (with_reducible show wpAny _ _ (call (Value.ref 222) _) _ _ _); k_dflt (refine' poly_ok ?S ?hr ?hrd ?hl ?hn ?hsz ?_; (case S => tb_start); (case hr => k_mem); (case hrd => k_mem); (case hl => k_mem); (case hn => assumption); (case hsz => assumption); k_whole; intro h9 tk9 x9 d9 t91 t92 F9 N9 l91 l92; (try dsimp only); (try k_fold))))
set_option maxRecDepth 100000 in
set_option maxHeartbeats 20000000 in
theorem ring_ok {w : World} {mean : ExcName → Option Value} {mg mb : Str → Option Value} {A : Around} {base h₀ : Heap} {L : Addr} {m : Str → Option Value} {news : List (Addr × Obj)} {s : Shared} {Q E : Value → Shared → Prop}
    {ring rdx l : Addr} {t1 t2 t3 t4 : Tok} {vs : List Value} {nn : Nat} {q n : Int}
    (S : Site 8 w mean mg mb A base h₀ L m news s) (hr : (ring, instObj 59 rdx) ∈ news) (hrd : (rdx, ringD w.params t1 t2 t3 t4 q n) ∈ news) (hl : (l, listOf vs.toArray nn) ∈ news) (hn : (vs.length : Int) = n) (hsz : n ≤ 100)
    (ret : ∀ h' tk' x dx t1 t2, Fr h₀ L h' m → News h₀ L h' ((x, instObj 222 dx) :: (dx, polyD w.params t1 t2 ring l) :: news) → (∀ p ∈ news, p.1 < dx) → dx < x → Q (.ref x) { s with heap := h', toks := tk' }) :
    wpAny (model P2 w) A (call (.ref ring) [.ref l]) Q E s := by
  unfold Site P2 at *
  obtain ⟨dp, un, gd, cn, cs, a, ccd, cl, outer, A₀, rfl, B, F, X, N, T, C9, hk, hdp, hun⟩ := S
  revert X; k_fill; intro X
  k_dflt (refine wpAny_call ?_; refine' kco_code ?k1 ?k2 ?k3 ?k4 ?k5 ?k6 ?_; (case k1 => k_in); (case k2 => k_inst); (case k3 => rfl); (case k4 => k_is); (case k5 => k_is); (case k6 => k_is); (try dsimp only))
  k_dflt cell_enter
  (with_reducible rename Fr h₀ L _ m => FG)
  have C9' := C9.keeps FG.keep
  repeat' (first | (k_unfold; (try dsimp only)) | (k_end; wrow_close) | ((try dsimp only); walk1) | (leave1; (try dsimp only)))
  exact ret _ _ _ _ _ _ (by k_asm) (by k_asm) (by assumption) (by assumption)
end

end Mine
end
section
open PySem PySem.W PyProof.Rows
namespace Mine
def lowI (A B : List Int) (i k : Nat) : Int := ((List.range i).map fun t => if t ≤ k then gg A t * gg B (k - t) else 0).sum
def highP (n : Nat) (A B : List Int) (t k : Nat) : Int := ((List.range t).map fun u => if k < u + 1 then gg A (n + k - (u + 1)) * gg B (u + 1) else 0).sum
theorem sum_succ (f : Nat → Int) (m : Nat) : ((List.range (m + 1)).map f).sum = ((List.range m).map f).sum + f m := by
  rw [List.range_succ, List.map_append, List.sum_append]
  simp
theorem gg_set {D : List Int} {i k : Nat} {v : Int} (h : i < D.length) : gg (D.set i v) k = if k = i then v else gg D k := by
  unfold gg
  rw [List.getD_eq_getElem?_getD, List.getD_eq_getElem?_getD, List.getElem?_set]
  by_cases e : i = k
  · subst e
    simp [h]
  · rw [if_neg e, if_neg fun q => e q.symm]
def SbA (A B D : List Int) (n i j : Nat) : Prop := D.length = n ∧ ∀ k, k < n → gg D k = lowI A B i k + if i ≤ k ∧ k < i + j then gg A i * gg B (k - i) else 0
theorem sbA_step {A B D : List Int} {n i j : Nat} (h : SbA A B D n i j) (hj : i + j < n) : SbA A B (D.set (i + j) (gg D (i + j) + gg A i * gg B j)) n i (j + 1) := by
  obtain ⟨h1, h2⟩ := h
  refine ⟨by rw [List.length_set]; exact h1, fun k hk => ?_⟩
  rw [gg_set (by omega)]
  by_cases e : k = i + j
  · rw [if_pos e, h2 (i + j) hj, if_neg (by omega), if_pos (by omega)]
    subst e
    have e2 : i + j - i = j := by omega
    rw [e2, Int.add_zero]
  · rw [if_neg e, h2 k hk]
    by_cases c : i ≤ k ∧ k < i + j
    · rw [if_pos c, if_pos (by omega)]
    · rw [if_neg c, if_neg (by omega)]
theorem sbA_next {A B D : List Int} {n i : Nat} (h : SbA A B D n i (n - i)) (hi : i < n) : SbA A B D n (i + 1) 0 := by
  obtain ⟨h1, h2⟩ := h
  refine ⟨h1, fun k hk => ?_⟩
  rw [h2 k hk, if_neg (show ¬ (i + 1 ≤ k ∧ k < i + 1 + 0) by omega)]
  show _ = ((List.range (i + 1)).map _).sum + 0
  rw [sum_succ, Int.add_zero]
  by_cases c : i ≤ k
  · rw [if_pos (by omega), if_pos c]
    rfl
  · rw [if_neg (by omega), if_neg c]
    rfl
theorem sbA_start {A B : List Int} {n : Nat} {D : List Int} (hD : D.length = n) (h0 : ∀ k, gg D k = 0) : SbA A B D n 0 0 := by
  refine ⟨hD, fun k hk => ?_⟩
  rw [h0, if_neg (by omega)]
  rfl
theorem lowI_end {A B : List Int} {n k : Nat} (hk : k < n) : lowI A B n k = lowK A B k := by
  unfold lowI lowK
  obtain ⟨d, rfl⟩ : ∃ d, n = k + 1 + d := ⟨n - (k + 1), by omega⟩
  induction d with
  | zero =>
    congr 1
    exact List.map_congr_left fun t ht => if_pos (by have := List.mem_range.mp ht; omega)
  | succ d ih =>
    rw [← Nat.add_assoc, sum_succ, ih (by omega), if_neg (by omega), Int.add_zero]
def SbB (A B D : List Int) (n t u : Nat) : Prop := D.length = n ∧ ∀ k, k < n → gg D k = lowK A B k - highP n A B t k - if k < u then gg A (n - (t + 1) + k) * gg B (t + 1) else 0
theorem sbB_start {A B D : List Int} {n : Nat} (h : SbA A B D n n 0) : SbB A B D n 0 0 := by
  obtain ⟨h1, h2⟩ := h
  refine ⟨h1, fun k hk => ?_⟩
  rw [h2 k hk, if_neg (by omega), if_neg (by omega), lowI_end hk]
  show _ = lowK A B k - 0 - 0
  omega
theorem sbB_step {A B D : List Int} {n t u : Nat} (h : SbB A B D n t u) (hu : u < n) : SbB A B (D.set u (gg D u - gg A (n - (t + 1) + u) * gg B (t + 1))) n t (u + 1) := by
  obtain ⟨h1, h2⟩ := h
  refine ⟨by rw [List.length_set]; exact h1, fun k hk => ?_⟩
  rw [gg_set (by omega)]
  by_cases e : k = u
  · subst e
    rw [if_pos rfl, h2 k hk, if_neg (by omega), if_pos (by omega)]
    omega
  · rw [if_neg e, h2 k hk]
    by_cases c : k < u
    · rw [if_pos c, if_pos (by omega)]
    · rw [if_neg c, if_neg (by omega)]
theorem sbB_next {A B D : List Int} {n t : Nat} (h : SbB A B D n t (t + 1)) (ht : t + 1 < n) : SbB A B D n (t + 1) 0 := by
  obtain ⟨h1, h2⟩ := h
  refine ⟨h1, fun k hk => ?_⟩
  rw [h2 k hk, if_neg (show ¬ k < 0 by omega)]
  have e : highP n A B (t + 1) k = highP n A B t k + if k < t + 1 then gg A (n + k - (t + 1)) * gg B (t + 1) else 0 := sum_succ _ t
  have e2 : n + k - (t + 1) = n - (t + 1) + k := by omega
  rw [e, e2]
  generalize (if k < t + 1 then gg A (n - (t + 1) + k) * gg B (t + 1) else 0) = z
  omega
theorem highP_end {A B : List Int} {n k : Nat} (hk : k < n) : highP n A B (n - 1) k = highK n A B k := by
  have key : ∀ m, k ≤ m → highP n A B m k = ((List.range (m - k)).map fun t => gg A (n - 1 - t) * gg B (k + 1 + t)).sum := by
    intro m hm
    obtain ⟨d, rfl⟩ : ∃ d, m = k + d := ⟨m - k, by omega⟩
    clear hm
    induction d with
    | zero =>
      have e : k + 0 - k = 0 := by omega
      rw [e]
      show ((List.range (k + 0)).map _).sum = 0
      have : ∀ (l : List Nat), (∀ x ∈ l, x < k) → (l.map fun u => if k < u + 1 then gg A (n + k - (u + 1)) * gg B (u + 1) else 0).sum = 0 := by
        intro l
        induction l with
        | nil => intro _; rfl
        | cons x r ih =>
          intro h
          have hx := h x (.head _)
          rw [List.map_cons, List.sum_cons, if_neg (by omega), ih fun y hy => h y (.tail _ hy)]
          rfl
      exact this _ fun x hx => by have := List.mem_range.mp hx; omega
    | succ d ih =>
      have e1 : k + (d + 1) - k = (k + d - k) + 1 := by omega
      have e : highP n A B (k + d + 1) k = highP n A B (k + d) k + if k < (k + d) + 1 then gg A (n + k - ((k + d) + 1)) * gg B ((k + d) + 1) else 0 := sum_succ _ (k + d)
      rw [e1, sum_succ, ← ih]
      show highP n A B (k + d + 1) k = _
      rw [e, if_pos (by omega)]
      have e3 : n + k - (k + d + 1) = n - 1 - (k + d - k) := by omega
      have e4 : k + d + 1 = k + 1 + (k + d - k) := by omega
      rw [e3, e4]
  rw [key (n - 1) (by omega)]
  rfl
theorem sb_end {A B D : List Int} {n : Nat} (h : SbB A B D n (n - 1) 0) : D = conv n A B := by
  obtain ⟨h1, h2⟩ := h
  refine List.ext_getElem (by rw [h1, conv_length]) fun k hk hk' => ?_
  have e : gg D k = gg (conv n A B) k := by
    rw [h2 k (by omega), if_neg (by omega), highP_end (by omega), gg_conv (by omega)]
    unfold convK
    omega
  unfold gg at e
  rw [List.getD_eq_getElem?_getD, List.getD_eq_getElem?_getD, List.getElem?_eq_getElem hk, List.getElem?_eq_getElem hk'] at e
  exact e

end Mine
end
section
open PySem PySem.W PySem.Spec PySem.Calls PyProof.Rows
namespace Mine
theorem getD_mem {X : List Int} {i : Nat} (h : i < X.length) : X.getD i 0 ∈ X := by
  rw [List.getD_eq_getElem?_getD, List.getElem?_eq_getElem h]
  exact List.getElem_mem h
section
local macro_rules | `(tactic| k_mem) => `(tactic| first | (with_reducible assumption) | assumption | exact List.mem_cons_self | (refine' List.mem_cons_of_mem _ ?_; k_mem))
local macro_rules | `(tactic| walk_at "binaryOp Mult int int") => `(tactic| (k_here; (with_reducible refine mul_int ?_ (by assumption))))
local macro_rules | `(tactic| k_upd) => `(tactic| exact Upd.tail (by assumption) (Upd.tail (by assumption) (Upd.head (by assumption))))
local macro_rules | `(tactic| walk_at "look") => `(tactic| (repeat (first | exact List.forall_mem_nil _ | refine List.forall_mem_cons.mpr ⟨rfl, ?_⟩)))
set_option maxRecDepth 100000 in
set_option maxHeartbeats 20000000 in
theorem sb_ok {w : World} {mean : ExcName → Option Value} {mg mb : Str → Option Value} {A : Around} {base h₀ : Heap} {L : Addr} {m : Str → Option Value} {news : List (Addr × Obj)} {s : Shared} {Q E : Value → Shared → Prop}
    {ring rdx x dx y dy la lb : Addr} {t1 t2 t3 t4 t5 t6 t7 t8 : Tok} {va vb : List Value} {na nb : Nat} {q n : Int} {X Y : List Int}
    (S : Site 6 w mean mg mb A base h₀ L m news s) (hG : AllBare s.gens) (hr : (ring, instObj 59 rdx) ∈ news) (hrd : (rdx, ringD w.params t1 t2 t3 t4 q n) ∈ news)
    (hx : (x, instObj 222 dx) ∈ news) (hdx : (dx, polyD w.params t5 t6 ring la) ∈ news) (hy : (y, instObj 222 dy) ∈ news) (hdy : (dy, polyD w.params t7 t8 ring lb) ∈ news)
    (ha : (la, listOf va.toArray na) ∈ news) (hb : (lb, listOf vb.toArray nb) ∈ news) (hX : IntsAre va X) (hY : IntsAre vb Y) (hX1 : (X.length : Int) = n) (hY1 : (Y.length : Int) = n) (hn1 : 1 ≤ n) (hn6 : n ≤ 6) (hq : 1 ≤ q)
    (hbX : ∀ z ∈ X, Builtin.Int.intBits z ≤ 300) (hbY : ∀ z ∈ Y, Builtin.Int.intBits z ≤ 300)
    (ret : ∀ s' l' vs' nn', Fr h₀ L s'.heap m → News h₀ L s'.heap ((l', listOf vs'.toArray nn') :: news) → LCg.Off1 l' news → IntsAre vs' ((conv n.toNat X Y).map fun k => k.fmod q) → (vs'.length : Int) = n → AllBare s'.gens → s'.os = s.os → Q (.ref l') s') :
    wpAny (model P2 w) A (call (.ref 122) [.ref x, .ref y]) Q E s := by
  unfold Site P2 at *
  obtain ⟨dp, un, gd, cn, cs, a, ccd, cl, outer, A₀, rfl, B, F, Xk, N, T, C9, hk, hdp, hun⟩ := S
  revert Xk; k_fill; intro Xk
  refine wpAny_call ?_
  k_dflt (refine' code_defC ?k1 ?k2 ?k3 ?k4 ?k5 ?kA ?kF ?kK ?k6 ?k7 ?k8 ?k9 ?kB ?kD ?_ ?c2 ?c3 ?c4; (case kA => exact rfl); (case kF => exact rfl); (case kK => assumption); (case k1 => k_asm); (case k2 => k_asm); (case k3 => k_asm); (case k4 => k_asm); (case k5 => k_asm); (case k6 => k_is); (case k7 => k_is); (case k8 => ktr_room); (case k9 => first | exact BindsTo.of_eq rfl | exact binds_K (by k_in) rfl (by k_is) rfl rfl rfl); (case kB => exact rfl); (case kD => decide +kernel); (case c2 => exact rfl); (case c3 => exact rfl); (case c4 => exact rfl); k_whole; intro g' L' h' tk' cells' FG' F' N' Y' B' X' T' l1; (try k_lt l1); k_cells Y'; (try simp only [List.cons_append, List.nil_append] at N'); (try dsimp only); (try k_lift B'); (try k_fold))
  have C9' := C9.keeps FG'.keep
  (with_reducible rename Obj => o5)
  refine hide4 fun R1 hR1 => ?_
  repeat' (first | (k_unfold; (try dsimp only)) | (k_end; wrow_close) | ((try dsimp only); walk1) | (leave1; (try dsimp only)))
  rename_i hys hLy lc hpc tkc F1 N1 o1
  have hqc : ∀ q ∈ (L' + 1, o5) :: news, q.1 ≠ lc := fun q hq => by
    rcases List.mem_cons.mp hq with rfl | hq
    · exact o1.1
    · exact (off1_mem o1.2 hq)
  have hXl : X.length = n.toNat := by omega
  have hYl : Y.length = n.toNat := by omega
  have hys' : ∃ D, IntsAre ys D ∧ SbA X Y D n.toNat 0 0 := ⟨_, hys, sbA_start (by simp [rangeKs_length]) (fun k => by simp [gg, List.getD_eq_getElem?_getD]; cases (rangeKs 0 n.toNat)[k]? <;> rfl)⟩
  obtain ⟨cap, hcap⟩ : ∃ cap, cap = ys.length := ⟨_, rfl⟩
  have N1' : News g' L' hpc ((lc, listOf ys.toArray cap) :: (L' + 1, o5) :: news) := by rw [hcap]; exact N1
  clear N1 hcap
  subst hR1
  refine hide1 fun R2 hR2 => ?_
  refine wpAny_execs_cons ?_
  refine for_range F1 (fun c : List Value => (lc, listOf c.toArray cap) :: (L' + 1, o5) :: news) (fun c => [(Str.ofString "new_coeffs", .ref lc), (Str.ofString "b", .ref lb), (Str.ofString "a", .ref la), (Str.ofString "n", .int n t4)])
    (fun i c => ∃ D, IntsAre c D ∧ SbA X Y D n.toNat i 0) 0 n.toNat (by rfl) (by rfl) (by rfl) (by omega) (by omega) (by omega) ?_
  repeat' (first | (k_unfold; (try dsimp only)) | (k_end; wrow_close) | ((try dsimp only); walk1) | (leave1; (try dsimp only)))
  (with_reducible rename IsRange _ _ _ _ _ _ _ _ => R8)
  (with_reducible rename Fr _ _ _ _ => F8)
  (with_reducible rename News _ _ _ _ => N8)
  unfold OverRange
  refine ⟨_, _, _, _, _, _, ys, rfl, R8, by omega, F8, N8, hG, by walk_at "look", hys', ?t1, ?d1⟩
  case t1 =>
    rintro i ti c1 I o rest s₂ hi ⟨D, hD1, hD2⟩ hlt hoff F2 N2 G2 os2
    rw [Int.zero_add] at F2
    have hIl : I ≠ lc := (hoff _ (.head _)).symm
    refine hide1 fun R3 hR3 => ?_
    refine wpAny_execs_cons ?_
    refine for_range F2 (fun c : List Value => (I, o) :: (lc, listOf c.toArray cap) :: (L' + 1, o5) :: news) (fun c => [(Str.ofString "i", .int i ti), (Str.ofString "new_coeffs", .ref lc), (Str.ofString "b", .ref lb), (Str.ofString "a", .ref la), (Str.ofString "n", .int n t4)])
      (fun j c => ∃ D, IntsAre c D ∧ SbA X Y D n.toNat i j) 0 (n.toNat - i) (by rfl) (by rfl) (by rfl) (by omega) (by omega) (by omega) ?_
    repeat' (first | (k_unfold; (try dsimp only)) | (k_end; wrow_close) | ((try dsimp only); walk1) | (leave1; (try dsimp only)))
    (with_reducible rename IsRange _ _ _ _ _ _ _ _ => R9)
    (with_reducible rename Fr _ _ _ _ => F9)
    (with_reducible rename News _ _ _ _ => N9)
    unfold OverRange
    refine ⟨_, _, _, _, _, _, c1, rfl, R9, by omega, F9, N9, G2, by walk_at "look", ⟨D, hD1, hD2⟩, ?t2, ?d2⟩
    case t2 =>
      rintro j tj c2 I2 o2 rest2 s₃ hj ⟨D, hD1, hD2⟩ hlt2 hoff2 F3 N3 G3 os3
      rw [Int.zero_add] at F3
      have hI2l : I2 ≠ lc := (hoff2 _ (.tail _ (.head _))).symm
      have hDl := hD2.1
      have hDl2 := hD1.length
      have hmul : IntMulOk (X.getD (i : Int).toNat 0) (Y.getD (j : Int).toNat 0) := IntMulOk.of_le (hbX _ (getD_mem (by omega))) (hbY _ (getD_mem (by omega))) (by decide)
      repeat' (first | (k_unfold; (try dsimp only)) | (k_end; wrow_close) | ((try dsimp only); walk1) | (leave1; (try dsimp only)))
      have e1 : ((i : Int) + (j : Int)).toNat = i + j := by omega
      have e2 : (i : Int).toNat = i := Int.toNat_natCast i
      have e3 : (j : Int).toNat = j := Int.toNat_natCast j
      exact ⟨rfl, _, _, (by assumption), (by walk_at "look"), (by assumption), (fun p hp => by
        rcases List.mem_cons.mp hp with rfl | hp
        · exact hoff2 _ (.head _)
        · rcases List.mem_cons.mp hp with rfl | hp
          · exact hI2l.symm
          · exact hoff2 p (.tail _ (.tail _ hp))), G3, os3, _, (by assumption), by rw [e1, e2, e3]; exact sbA_step hD2 (by omega)⟩
    case d2 =>
      rintro c2 rest2 s₃ ⟨D, hD1, hD2⟩ F3 N3 G3 os3
      subst hR3
      repeat' (first | (k_unfold; (try dsimp only)) | (k_end; wrow_close) | ((try dsimp only); walk1) | (leave1; (try dsimp only)))
      exact ⟨rfl, c2, _, (by assumption), (by walk_at "look"), (by assumption), (fun p hp => by
        rcases List.mem_cons.mp hp with rfl | hp
        · exact hIl.symm
        · exact hoff p (.tail _ hp)), G3, os3.trans os2, D, hD1, sbA_next hD2 hi⟩
  case d1 =>
    rintro c1 rest s₂ ⟨D, hD1, hD2⟩ F2 N2 G2 os2
    (try clear F8 N8 R8); (try clear F1); (try clear N1')
    subst hR2
    refine hide1 fun R2 hR2 => ?_
    refine wpAny_execs_cons ?_
    refine for_range F2 (fun c : List Value => (lc, listOf c.toArray cap) :: (L' + 1, o5) :: news) (fun c => [(Str.ofString "new_coeffs", .ref lc), (Str.ofString "b", .ref lb), (Str.ofString "a", .ref la), (Str.ofString "n", .int n t4)])
      (fun i c => ∃ D, IntsAre c D ∧ SbB X Y D n.toNat i 0) 1 (n.toNat - 1) (by rfl) (by rfl) (by rfl) (by omega) (by omega) (by omega) ?_
    repeat' (first | (k_unfold; (try dsimp only)) | (k_end; wrow_close) | ((try dsimp only); walk1) | (leave1; (try dsimp only)))
    (with_reducible rename IsRange _ _ _ _ _ _ _ _ => R8)
    (with_reducible rename Fr _ _ _ _ => F8)
    (with_reducible rename News _ _ _ _ => N8)
    unfold OverRange
    refine ⟨_, _, _, _, _, _, c1, rfl, R8, by omega, F8, N8, G2, by walk_at "look", ⟨D, hD1, sbB_start hD2⟩, ?t3, ?d3⟩
    case t3 =>
      rintro i ti c1 I o rest s₂ hi ⟨D, hD1, hD2⟩ hlt hoff F2 N2 G2 os2
      have hIl : I ≠ lc := (hoff _ (.head _)).symm
      refine hide1 fun R3 hR3 => ?_
      refine wpAny_execs_cons ?_
      refine for_range F2 (fun c : List Value => (I, o) :: (lc, listOf c.toArray cap) :: (L' + 1, o5) :: news) (fun c => [(Str.ofString "j", .int (1 + (i : Int)) ti), (Str.ofString "new_coeffs", .ref lc), (Str.ofString "b", .ref lb), (Str.ofString "a", .ref la), (Str.ofString "n", .int n t4)])
        (fun j c => ∃ D, IntsAre c D ∧ SbB X Y D n.toNat i j) (n - (1 + (i : Int))) (i + 1) (by rfl) (by rfl) (by rfl) (by omega) (by omega) (by omega) ?_
      repeat' (first | (k_unfold; (try dsimp only)) | (k_end; wrow_close) | ((try dsimp only); walk1) | (leave1; (try dsimp only)))
      (with_reducible rename IsRange _ _ _ _ _ _ _ _ => R9)
      (with_reducible rename Fr _ _ _ _ => F9)
      (with_reducible rename News _ _ _ _ => N9)
      unfold OverRange
      refine ⟨_, _, _, _, _, _, c1, rfl, R9, by omega, F9, N9, G2, by walk_at "look", ⟨D, hD1, hD2⟩, ?t4, ?d4⟩
      case t4 =>
        rintro j tj c2 I2 o2 rest2 s₃ hj ⟨D, hD1, hD2⟩ hlt2 hoff2 F3 N3 G3 os3
        have hI2l : I2 ≠ lc := (hoff2 _ (.tail _ (.head _))).symm
        have hDl := hD2.1
        have hDl2 := hD1.length
        have hmul : IntMulOk (X.getD (n - (1 + (i : Int)) + (j : Int)).toNat 0) (Y.getD (1 + (i : Int)).toNat 0) := IntMulOk.of_le (hbX _ (getD_mem (by omega))) (hbY _ (getD_mem (by omega))) (by decide)
        repeat' (first | (k_unfold; (try dsimp only)) | (k_end; wrow_close) | ((try dsimp only); walk1) | (leave1; (try dsimp only)))
        have e1 : (n - (1 + (i : Int)) + (j : Int) + (1 + (i : Int)) - n).toNat = j := by omega
        have e2 : (n - (1 + (i : Int)) + (j : Int)).toNat = n.toNat - (i + 1) + j := by omega
        have e3 : (1 + (i : Int)).toNat = i + 1 := by omega
        exact ⟨rfl, _, _, (by assumption), (by walk_at "look"), (by assumption), (fun p hp => by
          rcases List.mem_cons.mp hp with rfl | hp
          · exact hoff2 _ (.head _)
          · rcases List.mem_cons.mp hp with rfl | hp
            · exact hI2l.symm
            · exact hoff2 p (.tail _ (.tail _ hp))), G3, os3, _, (by assumption), by rw [e1, e2, e3]; exact sbB_step hD2 (by omega)⟩
      case d4 =>
        rintro c2 rest2 s₃ ⟨D, hD1, hD2⟩ F3 N3 G3 os3
        subst hR3
        repeat' (first | (k_unfold; (try dsimp only)) | (k_end; wrow_close) | ((try dsimp only); walk1) | (leave1; (try dsimp only)))
        exact ⟨rfl, c2, _, (by assumption), (by walk_at "look"), (by assumption), (fun p hp => by
          rcases List.mem_cons.mp hp with rfl | hp
          · exact hIl.symm
          · exact hoff p (.tail _ hp)), G3, os3.trans os2, D, hD1, sbB_next hD2 (by omega)⟩
    case d3 =>
      rintro c2 rest2 s₃ ⟨D, hD1, hD2⟩ F3 N3 G3 os3
      have hDl := hD2.1
      have hDl2 := hD1.length
      have hDl3 : c2.length ≤ 6 := by omega
      have hD3 := sb_end hD2
      subst hR2
      repeat' (first | (k_unfold; (try dsimp only)) | (k_end; wrow_close) | ((try dsimp only); walk1) | (leave1; (try dsimp only)))
      (with_reducible rename News h₀ L _ _ => N9)
      (with_reducible rename IntsAre _ (List.map _ D) => I9)
      rw [hD3] at I9
      exact ret _ _ _ _ (by k_asm) (cb_drop N9 sub3) (by (rename _ ∧ _ ∧ LCg.Off1 _ _ => o9); exact o9.2.2) I9 (by rw [I9.length, List.length_map, conv_length]; omega) G3 (os3.trans os2)
end

end Mine
end
section
open PySem PySem.W PySem.Spec PySem.Calls PyProof.Rows
namespace Mine
theorem sub33 {α : Type} {a b c d e : α} {l : List α} : ∀ p ∈ a :: b :: c :: l, p ∈ a :: b :: c :: d :: e :: l := by
  intro p hp
  simp only [List.mem_cons] at *
  rcases hp with h | h | h | h <;> simp [h]
section
local macro_rules | `(tactic| k_mem) => `(tactic| first | (with_reducible assumption) | assumption | exact List.mem_cons_self | (refine' List.mem_cons_of_mem _ ?_; k_mem))
local macro_rules | `(tactic| tb_start) => `(tactic| exact Site.of (by k_asm) (by k_asm) (by k_asm) (by k_asm) (by k_asm) (by k_asm) (by first | rfl | assumption) (by first | ((try simp only [depth_under_make, depth_under_kw, depth_in1, depth_deeper, depth_caller]); (try dsimp only [ktrTop]); omega) | ktr_room) (by first | ((have hcL9 := cLine_is); (try simp only [units_under_make, units_in1, units_deeper, Around.mark_units, units_caller]); (try dsimp only [ktrTop]); omega) | ktr_units))
local macro_rules | `(tactic| walk_at "no key 1: the lines' count") => `(tactic| skip)
local macro_rules | `(tactic| walk_at "no key 2: the lines' count") => `(tactic| skip)
local macro_rules | `(tactic| walk_at "no key 3: the lines' count") => `(tactic| skip)
local macro_rules | `(tactic| walk_at "call ref") => `(tactic| (k_here; (with_reducible show wpAny _ _ (call (Value.ref 122) _) _ _ _); k_dflt (refine' sb_ok ?S ?hG ?hr ?hrd ?hx ?hdx ?hy ?hdy ?ha ?hb ?hX ?hY ?hX1 ?hY1 ?hn1 ?hn6 ?hq ?hbX ?hbY ?_; (case S => tb_start); (case hG => assumption); (case hr => k_mem); (case hrd => k_mem); (case hx => k_mem); (case hdx => k_mem); (case hy => k_mem); (case hdy => k_mem); (case ha => k_mem); (case hb => k_mem); (case hX => assumption); (case hY => assumption); (case hX1 => assumption); (case hY1 => assumption); (case hn1 => assumption); (case hn6 => assumption); (case hq => assumption); (case hbX => assumption); (case hbY => assumption); k_whole; intro s9 l9 vs9 nn9 F9 N9 o9 I9 hl9 G9 os9; (try dsimp only); (try k_fold))))
local macro_rules | `(tactic| walk_at "call ref") => `(tactic| (k_here; (with_reducible show wpAny _ _ (call (Value.ref _) [Value.ref _]) _ _ _); k_dflt (refine' ring_ok ?S ?hr ?hrd ?hl ?hn ?hsz ?_; (case S => tb_start); (case hr => k_mem); (case hrd => k_mem); (case hl => k_mem); (case hn => assumption); (case hsz => omega); k_whole; intro h9 tk9 x9 d9 t91 t92 F9 N9 l91 l92; (try dsimp only); (try k_fold))))
set_option maxRecDepth 100000 in
set_option maxHeartbeats 20000000 in
theorem mul_ok {w : World} {mean : ExcName → Option Value} {mg mb : Str → Option Value} {A : Around} {base h₀ : Heap} {L : Addr} {m : Str → Option Value} {news : List (Addr × Obj)} {s : Shared} {Q E : Value → Shared → Prop}
    {ring rdx x dx y dy la lb : Addr} {t1 t2 t3 t4 t5 t6 t7 t8 : Tok} {va vb : List Value} {na nb : Nat} {q n : Int} {X Y : List Int}
    (S : Site 10 w mean mg mb A base h₀ L m news s) (hG : AllBare s.gens) (hr : (ring, instObj 59 rdx) ∈ news) (hrd : (rdx, ringD w.params t1 t2 t3 t4 q n) ∈ news)
    (hx : (x, instObj 222 dx) ∈ news) (hdx : (dx, polyD w.params t5 t6 ring la) ∈ news) (hy : (y, instObj 222 dy) ∈ news) (hdy : (dy, polyD w.params t7 t8 ring lb) ∈ news)
    (ha : (la, listOf va.toArray na) ∈ news) (hb : (lb, listOf vb.toArray nb) ∈ news) (hX : IntsAre va X) (hY : IntsAre vb Y) (hX1 : (X.length : Int) = n) (hY1 : (Y.length : Int) = n) (hn1 : 1 ≤ n) (hn6 : n ≤ 6) (hq : 1 ≤ q)
    (hbX : ∀ z ∈ X, Builtin.Int.intBits z ≤ 300) (hbY : ∀ z ∈ Y, Builtin.Int.intBits z ≤ 300)
    (ret : ∀ s' l' vs' nn' x' dx' u1 u2, Fr h₀ L s'.heap m → News h₀ L s'.heap ((x', instObj 222 dx') :: (dx', polyD w.params u1 u2 ring l') :: (l', listOf vs'.toArray nn') :: news) → LCg.Off1 l' news → (∀ p ∈ news, @LT.lt Nat _ p.1 dx') → @LT.lt Nat _ l' dx' → @LT.lt Nat _ dx' x' → IntsAre vs' ((conv n.toNat X Y).map fun k => k.fmod q) → (vs'.length : Int) = n → AllBare s'.gens → s'.os = s.os → Q (.ref x') s') :
    wpAny (model P2 w) A (call (.ref 184) [.ref x, .ref y]) Q E s := by
  unfold Site P2 at *
  obtain ⟨dp, un, gd, cn, cs, a, ccd, cl, outer, A₀, rfl, B, F, Xk, N, T, C9, hk, hdp, hun⟩ := S
  revert Xk; k_fill; intro Xk
  refine wpAny_call ?_
  k_dflt (refine' code_defC ?k1 ?k2 ?k3 ?k4 ?k5 ?kA ?kF ?kK ?k6 ?k7 ?k8 ?k9 ?kB ?kD ?_ ?c2 ?c3 ?c4; (case kA => exact rfl); (case kF => exact rfl); (case kK => assumption); (case k1 => k_asm); (case k2 => k_asm); (case k3 => k_asm); (case k4 => k_asm); (case k5 => k_asm); (case k6 => k_is); (case k7 => k_is); (case k8 => ktr_room); (case k9 => first | exact BindsTo.of_eq rfl | exact binds_K (by k_in) rfl (by k_is) rfl rfl rfl); (case kB => exact rfl); (case kD => decide +kernel); (case c2 => exact rfl); (case c3 => exact rfl); (case c4 => exact rfl); k_whole; intro g' L' h' tk' cells' FG' F' N' Y' B' X' T' l1; (try k_lt l1); k_cells Y'; (try simp only [List.cons_append, List.nil_append] at N'); (try dsimp only); (try k_lift B'); (try k_fold))
  have C9' := C9.keeps FG'.keep
  repeat' (first | (k_unfold; (try dsimp only)) | (k_end; wrow_close) | ((try dsimp only); walk1) | (leave1; (try dsimp only)))
  (with_reducible rename News h₀ L _ _ => N9)
  (with_reducible rename LCg.Off1 _ _ => o9)
  (with_reducible rename ∀ p : Addr × Obj, p ∈ _ :: _ → _ => l91)
  exact ret _ _ _ _ _ _ _ _ (by k_asm) (cb_drop N9 sub33) o9.2.2 (fun p hp => l91 p (.tail _ (.tail _ (.tail _ hp)))) (l91 _ (.head _)) (by assumption) (by assumption) (by assumption) (by assumption) (by assumption)
local macro_rules | `(tactic| walk_at "call ref") => `(tactic| (k_here; (with_reducible show wpAny _ _ (call (Value.ref 184) _) _ _ _); k_dflt (refine' mul_ok ?S ?hG ?hr ?hrd ?hx ?hdx ?hy ?hdy ?ha ?hb ?hX ?hY ?hX1 ?hY1 ?hn1 ?hn6 ?hq ?hbX ?hbY ?_; (case S => tb_start); (case hG => assumption); (case hr => k_mem); (case hrd => k_mem); (case hx => k_mem); (case hdx => k_mem); (case hy => k_mem); (case hdy => k_mem); (case ha => k_mem); (case hb => k_mem); (case hX => assumption); (case hY => assumption); (case hX1 => assumption); (case hY1 => assumption); (case hn1 => assumption); (case hn6 => assumption); (case hq => assumption); (case hbX => assumption); (case hbY => assumption); k_whole; intro s9 l9 vs9 nn9 x9 d9 t91 t92 F9 N9 o9 l91 l92 l93 I9 hl9 G9 os9; (try dsimp only); (try k_fold))))
set_option maxRecDepth 100000 in
set_option maxHeartbeats 20000000 in
theorem imul_ok {w : World} {mean : ExcName → Option Value} {mg mb : Str → Option Value} {A : Around} {base h₀ : Heap} {L : Addr} {m : Str → Option Value} {news : List (Addr × Obj)} {s : Shared} {Q E : Value → Shared → Prop}
    {ring rdx x dx y dy la lb : Addr} {t1 t2 t3 t4 t5 t6 t7 t8 : Tok} {va vb : List Value} {na nb : Nat} {q n : Int} {X Y : List Int}
    (S : Site 12 w mean mg mb A base h₀ L m news s) (hG : AllBare s.gens) (hr : (ring, instObj 59 rdx) ∈ news) (hrd : (rdx, ringD w.params t1 t2 t3 t4 q n) ∈ news)
    (hx : (x, instObj 222 dx) ∈ news) (hdx : (dx, polyD w.params t5 t6 ring la) ∈ news) (hy : (y, instObj 222 dy) ∈ news) (hdy : (dy, polyD w.params t7 t8 ring lb) ∈ news)
    (ha : (la, listOf va.toArray na) ∈ news) (hb : (lb, listOf vb.toArray nb) ∈ news) (hX : IntsAre va X) (hY : IntsAre vb Y) (hX1 : (X.length : Int) = n) (hY1 : (Y.length : Int) = n) (hn1 : 1 ≤ n) (hn6 : n ≤ 6) (hq : 1 ≤ q)
    (hbX : ∀ z ∈ X, Builtin.Int.intBits z ≤ 300) (hbY : ∀ z ∈ Y, Builtin.Int.intBits z ≤ 300)
    (ret : ∀ s' l' vs' nn' x' dx' u1 u2, Fr h₀ L s'.heap m → News h₀ L s'.heap ((x', instObj 222 dx') :: (dx', polyD w.params u1 u2 ring l') :: (l', listOf vs'.toArray nn') :: news) → LCg.Off1 l' news → (∀ p ∈ news, @LT.lt Nat _ p.1 dx') → @LT.lt Nat _ l' dx' → @LT.lt Nat _ dx' x' → IntsAre vs' ((conv n.toNat X Y).map fun k => k.fmod q) → (vs'.length : Int) = n → AllBare s'.gens → s'.os = s.os → Q (.ref x') s') :
    wpAny (model P2 w) A (call (.ref 198) [.ref x, .ref y]) Q E s := by
  unfold Site P2 at *
  obtain ⟨dp, un, gd, cn, cs, a, ccd, cl, outer, A₀, rfl, B, F, Xk, N, T, C9, hk, hdp, hun⟩ := S
  revert Xk; k_fill; intro Xk
  refine wpAny_call ?_
  k_dflt cell_enter
  (with_reducible rename Fr h₀ L _ m => FG)
  have C9' := C9.keeps FG.keep
  repeat' (first | (k_unfold; (try dsimp only)) | (k_end; wrow_close) | ((try dsimp only); walk1) | (leave1; (try dsimp only)))
  dsimp only [PySem.W.CmpBack]
  repeat' (first | (k_unfold; (try dsimp only)) | (k_end; wrow_close) | ((try dsimp only); walk1) | (leave1; (try dsimp only)))
  exact ret _ _ _ _ _ _ _ _ (by k_asm) (by k_asm) (by assumption) (by assumption) (by assumption) (by assumption) (by assumption) (by assumption) (by assumption) (by assumption)
end

end Mine
end
section
open PySem PySem.W PySem.Spec PySem.Calls PyProof.Rows
namespace Mine
abbrev FnAt (K : Frag) (f : Addr) : Type := List Stmt × Scope
def FnAt.mk' {K : Frag} {f : Addr} {oc : Value} {od : Option Addr} {name qual : Str} {params : Arguments} {body : List Stmt} {scope : Scope} {dV kV doc pm : Value} {an : Option Addr} {cdv ct : Value} {osl : Array (Option Value)}
    (hh : K.lookup f = some ⟨oc, od, .func (fnOf name qual params body scope dV kV doc pm an cdv ct), osl⟩) : FnAt K f := (body, scope)
set_option maxRecDepth 100000 in
noncomputable def lawFn (P : Params) : FnAt (hd.heap_39 P) 252 := by
  have hrow : PySem.Challenge.rw_yd0002_02 = PySem.Challenge.rw_yd0002_02 := rfl
  revert hrow
  k_fill
  intro _
  k_dflt (refine' FnAt.mk' ?h; (case h => k_is))
noncomputable def lawBody (P : Params) : List Stmt := (lawFn P).1
noncomputable def lawScope (P : Params) : Scope := (lawFn P).2
def LawSt (w : World) (mean : ExcName → Option Value) (mg mb : Str → Option Value) (A : Around) (env : Env) (base h₀ : Heap) (L : Addr) : Prop :=
  ∃ (dp un : Nat) (gd : Option (List Code)) (a : Addr) (ccd : Value) (outer : List Env) (A₀ : Around),
    A = ktrTop dp un gd (Str.ofString "law") (lawScope w.params) L a ccd (cellsFrom (L + 1) (lawScope w.params).names []) outer ∧ env = envX (Str.ofString "law") (lawScope w.params) L a ccd (cellsFrom (L + 1) (lawScope w.params).names []) ∧
    Below A₀ base outer h₀ ∧ (hd.heap_39 w.params).In h₀ ∧ Top topProg TL mean mg mb h₀ ∧ CodeHd h₀ 239 235 ∧ dp + 14 < recursionLimit ∧ un + 8 * 14 < cLine
theorem fmod_small (X : Int) (k : Int) (hk : 0 < k) : 0 ≤ X.fmod k ∧ X.fmod k < k := ⟨Int.fmod_nonneg_of_pos _ hk, Int.fmod_lt_of_pos _ hk⟩

end Mine
end
section
open PySem PySem.W PySem.Spec PySem.Calls PyProof.Rows
namespace Mine
theorem fnEnv_cells {M : Model} {A : Around} {E : Value → Shared → Prop} {s : Shared} {scope : Scope} {globals : Addr} {closure : List (Str × Addr)} {qual : Str} {func : Option Addr} {code : Value} {env : Env} {builtins : Addr} {Q : Env → Shared → Prop}
    (hQ : Q (newEnv scope s.heap.objs.size globals (cellsFrom (s.heap.objs.size + 1) scope.names closure) qual func code (some env) builtins) { s with heap := pushCells (s.heap.push { cls := .type "dict", data := .dict #[] }) scope.names }) :
    wpAny M A (newFunctionEnv scope globals closure [] qual func code (some env) builtins) Q E s := by
  simp only [newFunctionEnv, Option.isSome_some, if_true]
  refine wpAny_bind (wpAny_alloc ?_)
  refine wpAny_bind (wpAny_layCells _ (fun name kind cells => by cases hkc : kind == NameKind.cell <;> simp [hkc]) _ _ _ _ ?_)
  rw [show ({ s with heap := s.heap.push { cls := .type "dict", data := .dict #[] } } : Shared).heap.objs.size = s.heap.objs.size + 1 from Heap.size_push ..]
  refine wpAny_bind ?_
  rw [List.forIn_nil]
  exact wpAny_pure (wpAny_pure hQ)
def Off4 (X I C D : Addr) (l : List (Addr × Obj)) : Prop := ∀ p ∈ l, p.1 ≠ X ∧ p.1 ≠ I ∧ p.1 ≠ C ∧ p.1 ≠ D
/-- what an element's turn leaves behind -/
def EltEnd (h₀ : Heap) (L : Addr) (m : Str → Option Value) (X I C D : Addr) (oX oI oC oD : Obj) (J : Value → List (Addr × Obj) → Prop) (s₁ : Shared) (y : Value) (s₂ : Shared) : Prop :=
  ∃ h' tk' news', s₂ = { s₁ with heap := h', toks := tk' } ∧ Fr h₀ L h' m ∧ News h₀ L h' ((X, oX) :: (I, oI) :: (C, oC) :: (D, oD) :: news') ∧ Off4 X I C D news' ∧ J y news'
/-- what the outer iterable's value must bring -/
def CellSrc (prog : Program) (w : World) (A : Around) (h₀ : Heap) (L : Addr) (m : Str → Option Value) (env : Env) (elt : Expr) (x y : Str) (scope : Scope) (cl : List (Str × Addr)) (Q : Flow → Shared → Prop) (a : Int) (n : Nat) (J : Nat → List Value → List (Addr × Obj) → Prop) (xv : Value) (s₁ : Shared) : Prop :=
  ∃ r b t u v news, xv = .ref r ∧ IsRange s₁.heap r a b 1 t u v ∧ b = a + n ∧ Fr h₀ L s₁.heap m ∧ News h₀ L s₁.heap news ∧ J 0 [] news ∧
      (∀ i t I C D X oI oC oX ys news' h tk (E' : Value → Shared → Prop), i < n → J i ys news' → oX.data = .cell (some (.int (a + (i : Int)) t)) → Fr h₀ L h m → News h₀ L h ((X, oX) :: (I, oI) :: (C, oC) :: (D, LCg.lst ys) :: news') → Off4 X I C D news' →
        wpAny (model prog w) A (eval elt (compEnvC scope ((x, X) :: cl) C env)) (EltEnd h₀ L m X I C D oX oI oC (LCg.lst ys) (fun z nw => J (i + 1) (ys ++ [z]) nw) { s₁ with heap := h, toks := tk }) E' { s₁ with heap := h, toks := tk }) ∧
      (∀ D h tk ys news', Fr h₀ L h (fun z => if z = y then some (.ref D) else m z) → News h₀ L h ((D, LCg.lst ys) :: news') → (∀ p ∈ news', p.1 ≠ D) → J n ys news' → Q .next { s₁ with heap := h, toks := tk })
section
variable {prog : Program} {w : World} {A : Around} {E : Value → Shared → Prop} {s : Shared} {h₀ : Heap} {L : Addr} {m : Str → Option Value} {env : Env}
theorem comp_cell {elt iter : Expr} {x y : Str} {px py : Pos} {scope : Scope} {cl : List (Str × Addr)} {pos spos : Pos} {Q : Flow → Shared → Prop} {a : Int} {n : Nat} (J : Nat → List Value → List (Addr × Obj) → Prop) (hLe : env.locals = L)
    (_F₀ : Fr h₀ L s.heap m)
    (hsw : swapsWith (.ListComp elt [⟨.Name x px, iter, [], 0⟩] scope pos) (some (.Name y py)) spos.line env = pure true)
    (hclos : closureFor scope env = pure cl) (hkind : scope.kind = .function)
    (hnames : ∀ z ∈ scope.names, z.2 = .local → scope.names.lookup z.1 = some .local) (hcf : ∀ k, cellsFrom k scope.names cl = (x, k) :: cl) (hpc : ∀ h, pushCells h scope.names = h.push { cls := .type "cell", data := .cell none })
    (hxk : ∀ cl' C, (compEnvC scope cl' C env).kindOf x = some .cell)
    (hy : env.kindOf y = some .local) (hp : (env.scope.kind == .class || (env.scope.kind == .module && env.locals != env.globals)) = false) (hh : A.handled = none) (ha0 : -1000000 ≤ a) (ha1 : a ≤ 1000000) (hn : n ≤ 1000)
    (h : wpAny (model prog w) A (eval iter env) (CellSrc prog w A h₀ L m env elt x y scope cl Q a n J) E s)
    (hs : ∀ x, foldedSetIterable iter env x = pure x := by intro _; rfl) :
    wpAny (model prog w) A (exec (.Assign [.Name y py] (.ListComp elt [⟨.Name x px, iter, [], 0⟩] scope pos) spos) env) Q E s := by
  subst hLe
  rw [exec_Assign_Name_used _ _ _ _ hsw]
  refine wpAny_bind (wpAny_standAt (wpAny_bind ?_))
  show wpAny _ A (do let _ ← comprehension (.ListComp elt [⟨.Name x px, iter, [], 0⟩] scope pos) scope env _ (newList []) false (eval iter env) (some (assign (.Name y py) env))) _ _ s
  refine wpAny_bind (wpAny_mono (wpAny_comprehension_free (use := some (assign (.Name y py) env)) (Q := fun _ s' => Q .next s') rfl hs hclos hkind hnames
    (wpAny_mono h (fun xv s₁ h₁ => ?_) fun _ _ e => e)) (fun _ s' hq => wpAny_pure (wpAny_pure hq)) fun _ _ e => e)
  obtain ⟨r, b, t, u, v, news, rfl, hr, rfl, F, N, hJ, turn, fin⟩ := h₁
  refine wpAny_pyIter_range hr (small_one (by omega) (by omega) (by omega) (by omega)) ?_
  have e0 : Builtin.Range.rangeSize a (a + n) 1 = (n : Int) := by rw [rangeSize_nat]; omega
  rw [e0]
  refine wpAny_newObj_type (fnEnv_cells ?_)
  dsimp only
  rw [hcf, hpc]
  generalize hI : s₁.heap.objs.size = I
  generalize hH1 : s₁.heap.push { cls := .type "range_iterator", data := .fields #[rawInt a, rawInt (n : Int), rawInt 1] } = H1
  generalize hD : H1.objs.size = D
  generalize hH2 : H1.push { cls := .type "list", dict := none, data := .seq ([] : List Value).toArray } = H2
  generalize hC : H2.objs.size = C
  generalize hH3 : H2.push { cls := .type "dict", data := .dict #[] } = H3
  generalize hX : C + 1 = X
  generalize hH4 : H3.push { cls := .type "cell", data := .cell none } = H4
  have sD : D = I + 1 := by rw [← hD, ← hH1, Heap.size_push, hI]
  have sC : C = D + 1 := by rw [← hC, ← hH2, Heap.size_push, hD]
  have sX : H3.objs.size = X := by rw [← hX, ← hC, ← hH3, Heap.size_push]
  have hLI : @LT.lt Nat _ env.locals I := hI ▸ F.ns.lt
  have lID : @LT.lt Nat _ I D := by rw [sD]; exact Nat.lt_succ_self _
  have lDC : @LT.lt Nat _ D C := by rw [sC]; exact Nat.lt_succ_self _
  have lCX : @LT.lt Nat _ C X := by rw [← hX]; exact Nat.lt_succ_self _
  have lIC := Nat.lt_trans lID lDC
  have lIX := Nat.lt_trans lIC lCX
  have lDX := Nat.lt_trans lDC lCX
  have old1 : ∀ b o, s₁.heap.get? b = some o → H1.get? b = some o := fun b o e => hH1 ▸ Heap.get?_push_of_some _ e
  have old2 : ∀ b o, H1.get? b = some o → H2.get? b = some o := fun b o e => hH2 ▸ Heap.get?_push_of_some _ e
  have old3 : ∀ b o, H2.get? b = some o → H3.get? b = some o := fun b o e => hH3 ▸ Heap.get?_push_of_some _ e
  have old4 : ∀ b o, H3.get? b = some o → H4.get? b = some o := fun b o e => hH4 ▸ Heap.get?_push_of_some _ e
  have old : ∀ b o, s₁.heap.get? b = some o → H4.get? b = some o := fun b o e => old4 _ _ (old3 _ _ (old2 _ _ (old1 _ _ e)))
  have gI : H4.get? I = some { cls := .type "range_iterator", data := .fields #[rawInt a, rawInt (n : Int), rawInt 1] } := old4 _ _ (old3 _ _ (old2 _ _ (by rw [← hH1, ← hI]; exact Heap.get?_push_size _ rfl)))
  have gD : H4.get? D = some (LCg.lst []) := old4 _ _ (old3 _ _ (by rw [← hH2, ← hD]; exact Heap.get?_push_size _ rfl))
  have gC : H4.get? C = some { cls := .type "dict", data := .dict #[] } := old4 _ _ (by rw [← hH3, ← hC]; exact Heap.get?_push_size _ rfl)
  have gX : H4.get? X = some { cls := .type "cell", data := .cell none } := by rw [← hH4, ← sX]; exact Heap.get?_push_size _ rfl
  have free : ∀ z, @LE.le Nat _ I z → h₀.get? z = none := fun z hz => Heap.get?_none_of_le (Nat.le_trans F.above (Nat.le_of_lt (Nat.lt_of_lt_of_le hLI hz)))
  have fI := free I (Nat.le_refl _)
  have fD := free D (Nat.le_of_lt lID)
  have fC := free C (Nat.le_of_lt lIC)
  have fX := free X (Nat.le_of_lt lIX)
  have nI : I ≠ env.locals := Nat.ne_of_gt hLI
  have nD : D ≠ env.locals := Nat.ne_of_gt (Nat.lt_trans hLI lID)
  have nC : C ≠ env.locals := Nat.ne_of_gt (Nat.lt_trans hLI lIC)
  have nX : X ≠ env.locals := Nat.ne_of_gt (Nat.lt_trans hLI lIX)
  have off₀ : Off4 X I C D news := fun p hp => by
    have l := Heap.lt_size (N p hp).1
    rw [hI] at l
    exact ⟨Nat.ne_of_lt (Nat.lt_trans l lIX), Nat.ne_of_lt l, Nat.ne_of_lt (Nat.lt_trans l lIC), Nat.ne_of_lt (Nat.lt_trans l lID)⟩
  have W := LCg.range_walks (prog := prog) (w := w) (A := A) (I := I) hh a n
  have loop : codeAny (model prog w) A (.compLoop (.ListComp elt [⟨.Name x px, iter, [], 0⟩] scope pos) 0 (.ref I) (.ref D) (compEnvC scope ((x, X) :: cl) C env))
      (compPost (model prog w) A E (some (assign (.Name y py) env)) (fun _ s' => Q .next s') (.ref D) C) { s₁ with heap := H4 } := by
    refine codeAny_compLoop_tests
      (fun k s' => ∃ h' tk i ys news' oI oX vX, s' = { s₁ with heap := h', toks := tk } ∧ i ≤ n ∧ k = n + 1 - i ∧ ys.length = i ∧ IsRangeIter h' I (a + (i : Nat) * 1) ((n : Int) - (i : Nat)) 1 ∧ Fr h₀ env.locals h' m ∧
        News h₀ env.locals h' ((X, oX) :: (I, oI) :: (C, { cls := .type "dict", data := .dict #[] }) :: (D, LCg.lst ys) :: news') ∧ oX.data = .cell vX ∧ Off4 X I C D news' ∧ J i ys news') ?_ (n + 1)
      ⟨H4, s₁.toks, 0, [], news, { cls := .type "range_iterator", data := .fields #[rawInt a, rawInt (n : Int), rawInt 1] }, { cls := .type "cell", data := .cell none }, none, rfl, Nat.zero_le _, rfl, rfl, ?_, F.keeps old, ?_, rfl, off₀, hJ⟩
    · rintro k s' ⟨h', tk, i, ys, news', oI, oX, vX, rfl, hi, rfl, hyl, hst', F', N', hvX, off', hJ'⟩
      have step : ∀ h₂ : Heap, (∀ b o, b ∉ [I] → h'.get? b = some o → h₂.get? b = some o) → Fr h₀ env.locals h₂ m ∧ News h₀ env.locals h₂ ((X, oX) :: (C, { cls := .type "dict", data := .dict #[] }) :: (D, LCg.lst ys) :: news') := fun h₂ hk₂ =>
        ⟨LCg.fr_but F' hk₂ nI.symm fI, fun p hp => by
          have hpI : p.1 ≠ I := by
            rcases List.mem_cons.mp hp with rfl | hp
            · exact Nat.ne_of_gt lIX
            · rcases List.mem_cons.mp hp with rfl | hp
              · exact Nat.ne_of_gt lIC
              · rcases List.mem_cons.mp hp with rfl | hp
                · exact Nat.ne_of_gt lID
                · exact (off' p hp).2.1
          have hp' : p ∈ (X, oX) :: (I, oI) :: (C, { cls := .type "dict", data := .dict #[] }) :: (D, LCg.lst ys) :: news' := by
            rcases List.mem_cons.mp hp with rfl | hp
            · exact .head _
            · exact .tail _ (.tail _ hp)
          exact ⟨hk₂ _ _ (fun q => hpI (List.mem_singleton.mp q)) (N' p hp').1, (N' p hp').2⟩⟩
      by_cases hlt : i < n
      · refine W.item i _ _ _ hlt hst' fun v h₂ tk₂ hPv hst₂ hk₂ => ?_
        obtain ⟨t, rfl⟩ := hPv
        obtain ⟨F₂, N₂⟩ := step h₂ hk₂
        have X₂ : h₂.IsCell X vX := ⟨oX, (N₂ _ (.head _)).1, hvX⟩
        refine wpAny_assign_Name (wpAny_storeName_cell (c := X) (show (relabel scope env).kind = .function from hkind) (hxk _ _) (by simp [compEnvC]) X₂ fun h₃ hX₃ hs₃ => ?_)
        refine wpAny_tests_nil ?_
        simp only [if_true]
        obtain ⟨oX', eX', dX'⟩ := hX₃
        obtain ⟨oI', gI₂, mk⟩ : ∃ o, h₂.get? I = some o ∧ ∀ hh : Heap, hh.get? I = some o → IsRangeIter hh I (a + ((i + 1 : Nat) : Int) * 1) ((n : Int) - ((i + 1 : Nat) : Int)) 1 := ⟨_, hst₂, fun _ e => e⟩
        have gI₃ := hs₃.extBut I _ (Nat.ne_of_lt lIX) gI₂
        have F₃ := F₂.change hs₃ nX fX
        have N₃ : News h₀ env.locals h₃ ((X, oX') :: (I, oI') :: (C, { cls := .type "dict", data := .dict #[] }) :: (D, LCg.lst ys) :: news') := fun p hp => by
          rcases List.mem_cons.mp hp with rfl | hp
          · exact ⟨eX', nX, fX⟩
          · rcases List.mem_cons.mp hp with rfl | hp
            · exact ⟨gI₃, nI, fI⟩
            · have hpX : p.1 ≠ X := by
                rcases List.mem_cons.mp hp with rfl | hp
                · exact Nat.ne_of_lt lCX
                · rcases List.mem_cons.mp hp with rfl | hp
                  · exact Nat.ne_of_lt lDX
                  · exact (off' p hp).1
              exact ⟨hs₃.extBut _ _ hpX (N₂ p (.tail _ hp)).1, (N₂ p (.tail _ hp)).2⟩
        refine wpAny_mono (turn i t I C D X oI' _ oX' ys news' h₃ _ _ hlt hJ' dX' F₃ N₃ off') (fun z s₄ h₄ => ?_) fun _ _ e => e
        obtain ⟨h₄, tk₄, news₄, rfl, F₄, N₄, off₄, J₄⟩ := h₄
        have zD := (N₄ _ (.tail _ (.tail _ (.tail _ (.head _))))).1
        refine append_at (hsz := by show ys.toArray.size ≤ sizeLine; rw [List.size_toArray, hyl, PySem.sizeLine_eq]; omega) zD fun h₅ hs₅ hD₅ => ?_
        refine ⟨n + 1 - (i + 1), by omega, h₅, tk₄, i + 1, ys ++ [z], news₄, oI', oX', _, rfl, hlt, rfl, by rw [List.length_append, List.length_singleton, hyl], ?_, F₄.change hs₅ nD fD, ?_, dX', off₄, J₄⟩
        · exact mk _ (hs₅.extBut _ _ (Nat.ne_of_lt lID) (N₄ _ (.tail _ (.head _))).1)
        · intro p hp
          rcases List.mem_cons.mp hp with rfl | hp
          · exact ⟨hs₅.extBut _ _ (Nat.ne_of_gt lDX) (N₄ _ (.head _)).1, nX, fX⟩
          · rcases List.mem_cons.mp hp with rfl | hp
            · exact ⟨hs₅.extBut _ _ (Nat.ne_of_lt lID) (N₄ _ (.tail _ (.head _))).1, nI, fI⟩
            · rcases List.mem_cons.mp hp with rfl | hp
              · exact ⟨hs₅.extBut _ _ (Nat.ne_of_gt lDC) (N₄ _ (.tail _ (.tail _ (.head _)))).1, nC, fC⟩
              · rcases List.mem_cons.mp hp with rfl | hp
                · exact ⟨hD₅.trans (congrArg some (LCg.lst_snoc ys z)), nD, fD⟩
                · exact ⟨hs₅.extBut _ _ (off₄ p hp).2.2.2 (N₄ p (.tail _ (.tail _ (.tail _ (.tail _ hp))))).1, (N₄ p (.tail _ (.tail _ (.tail _ (.tail _ hp))))).2⟩
      · obtain rfl : i = n := Nat.le_antisymm hi (Nat.not_lt.mp hlt)
        refine W.done _ _ _ hst' fun h₂ tk₂ hk₂ => ?_
        obtain ⟨F₂, N₂⟩ := step h₂ hk₂
        show wpAny _ A (assign (.Name y py) env (.ref D)) _ _ _
        refine wpAny_assign_Name (wpAny_storeName_local hy F₂.ns (fun h₃ hn₃ hs₃ => ?_) hp)
        have hL₀ : h₀.get? env.locals = none := Heap.get?_none_of_le F₂.above
        have F₃ : Fr h₀ env.locals h₃ (fun z => if z = y then some (.ref D) else m z) := ⟨hn₃, fun b o e => hs₃.extBut b o (fun q => by rw [q, hL₀] at e; cases e) (F₂.keep b o e), F₂.above⟩
        have cC : h₃.Ns C (fun _ => none) := ⟨_, #[], 0, hs₃.extBut _ _ nC (N₂ _ (.tail _ (.head _))).1, rfl, fun _ he => by simp at he, fun _ => rfl⟩
        refine ⟨_, cC, fun h₄ hs₄ => fin D h₄ _ ys news' (F₃.change hs₄ nC fC) (fun p hp => ?_) (fun p hp => (off' p hp).2.2.2) hJ'⟩
        have z : h₃.get? p.1 = some p.2 := hs₃.extBut _ _ (N₂ p (.tail _ (.tail _ hp))).2.1 (N₂ p (.tail _ (.tail _ hp))).1
        refine ⟨hs₄.extBut _ _ ?_ z, (N₂ p (.tail _ (.tail _ hp))).2⟩
        rcases List.mem_cons.mp hp with rfl | hp
        · exact Nat.ne_of_lt lDC
        · exact (off' p hp).2.2.1
    · show IsRangeIter _ _ _ _ _
      simpa using gI
    · intro p hp
      rcases List.mem_cons.mp hp with rfl | hp
      · exact ⟨gX, nX, fX⟩
      · rcases List.mem_cons.mp hp with rfl | hp
        · exact ⟨gI, nI, fI⟩
        · rcases List.mem_cons.mp hp with rfl | hp
          · exact ⟨gC, nC, fC⟩
          · rcases List.mem_cons.mp hp with rfl | hp
            · exact ⟨gD, nD, fD⟩
            · exact ⟨old _ _ (N p hp).1, (N p hp).2⟩
  exact codeAny_compStart_list loop (W.self 0 _ _ _ (by show IsRangeIter _ _ _ _ _; simpa using gI) loop)
end

end Mine
end
section
open PySem PySem.W PySem.Spec PySem.Calls PyProof.Rows
namespace Mine
theorem dup1 {m : Str → Option Value} {x : Str} {a b : Option Value} : (fun y => if y = x then a else if y = x then b else m y) = fun y => if y = x then a else m y := by
  funext y
  by_cases h : y = x
  · rw [if_pos h, if_pos h]
  · rw [if_neg h, if_neg h, if_neg h]
section
local macro_rules | `(tactic| k_mem) => `(tactic| first | (with_reducible assumption) | assumption | exact List.mem_cons_self | (refine' List.mem_cons_of_mem _ ?_; k_mem))
local macro_rules | `(tactic| walk_at "call builtin:len") => `(tactic| (k_here; (with_reducible show wpAny _ _ (call (Value.builtin "len") [Value.ref _]) _ _ _); k_dflt (refine' kst_len ?k1 ?k2 rfl ?k4 ?_; (case k1 => k_asm); (case k2 => k_mem); (case k4 => omega); k_whole)))
local macro_rules | `(tactic| tb_start) => `(tactic| exact Site.of (by k_asm) (by k_asm) (by k_asm) (by k_asm) (by k_asm) (by k_asm) (by first | rfl | assumption) (by first | ((try simp only [depth_under_make, depth_under_kw, depth_in1, depth_deeper, depth_caller]); (try dsimp only [ktrTop]); omega) | ktr_room | decide) (by first | ((have hcL9 := cLine_is); (try simp only [units_under_make, units_in1, units_deeper, Around.mark_units, units_caller]); (try dsimp only [ktrTop]); omega) | ktr_units | decide))
local macro_rules | `(tactic| walk_at "call ref") => `(tactic| (k_here; (with_reducible show wpAny _ _ (call (Value.ref 233) _) _ _ _); k_dflt (refine' at_ok ?S ?hl ?hi ?hlen ?h1 ?h2 ?_; (case S => tb_start); (case hl => k_asm); (case hi => k_asm); (case hlen => omega); (case h1 => omega); (case h2 => omega); k_whole; intro t9 h9 tk9 F9 N9; (try dsimp only); (try k_fold))))
local macro_rules | `(tactic| k_room) => `(tactic| ((try simp only [depth_under_make, depth_under_kw, depth_in1, depth_deeper, depth_caller]); (try dsimp only [ktrTop]); omega))
set_option maxRecDepth 100000 in
set_option maxHeartbeats 20000000 in
theorem seg1 {w : World} {mean : ExcName → Option Value} {mg mb : Str → Option Value} {A : Around} {env : Env} {base h₀ : Heap} {L sc : Addr} {m₀ : Str → Option Value} {od os : Obj} {s : Shared} {Q : Flow → Shared → Prop} {E : Value → Shared → Prop} {vs : List Value} {ns : List Int}
    (St : LawSt w mean mg mb A env base h₀ L) (F : Fr h₀ L s.heap m₀) (N : News h₀ L s.heap [(L + 1 + 1, od), (L + 1, os), (235, tabObj #[])]) (hos : os.data = .cell (some (.ref sc))) (hod : od.data = .cell none)
    (hl : base.IsList sc vs.toArray) (hi : IntsAre vs ns) (hlen : ns.length ≤ 63) (h235 : @LT.lt Nat _ 235 L)
    (next : ∀ (q n many : Int) ring rdx tq tn tm t1 t2 t3 t4 od' h' tk, 1 ≤ q → q ≤ M60 → 1 ≤ n → n ≤ 6 → 2 ≤ many → many ≤ 16 → od'.data = .cell (some (.int n tn)) → Fr h₀ L h' (kstB m₀ [(Str.ofString "many", .int many tm), (Str.ofString "ring", .ref ring), (Str.ofString "q", .int q tq)]) →
      News h₀ L h' [(ring, instObj 59 rdx), (rdx, ringD w.params t1 t2 t3 t4 q n), (L + 1 + 1, od'), (L + 1, os), (235, tabObj #[])] → @LT.lt Nat _ (L + 1 + 1) rdx → @LT.lt Nat _ rdx ring →
      wpAny (model P2 w) A (execs ((lawBody w.params).drop 5) env) Q E { s with heap := h', toks := tk }) :
    wpAny (model P2 w) A (execs (lawBody w.params) env) Q E s := by
  unfold LawSt P2 at *
  obtain ⟨dp, un, gd, a, ccd, outer, A₀, rfl, rfl, B, X, T, C9, hdp, hun⟩ := St
  revert X; k_fill; intro X
  k_with_none
  replace h235 := ltN h235
  unfold lawScope lawBody lawFn at *
  dsimp only [FnAt.mk', List.drop] at *
  refine hide2 fun R hR => ?_
  repeat' (first | (k_unfold; (try dsimp only)) | ((try dsimp only); walk1))
  obtain ⟨nz0, nz1⟩ := fmod_small (at2 ns 1 + 2) 6 (by decide)
  have b0 := at2_bd ns (i := 0) (by decide) (by decide)
  have q1 : 1 ≤ 1 + if at2 ns 0 < 0 then -at2 ns 0 else at2 ns 0 := by split <;> omega
  have q2 : (1 + if at2 ns 0 < 0 then -at2 ns 0 else at2 ns 0) ≤ M60 := by
    have hM : M60 = 10 ^ 60 + 7 := rfl
    unfold Bd at b0
    rw [hM]
    generalize (10 : Int) ^ 60 = T at *
    split <;> omega
  generalize hq : (1 + if at2 ns 0 < 0 then -at2 ns 0 else at2 ns 0) = q at *
  generalize hn : Int.fmod (at2 ns 1 + 2) 6 = n0 at *
  generalize hn' : 1 + n0 = n at *
  have hn1 : 1 ≤ n := by omega
  have hn6 : n ≤ 6 := by omega
  subst hR
  refine hide1 fun R hR => ?_
  repeat' (first | (k_unfold; (try dsimp only)) | ((try dsimp only); walk1))
  (try dsimp only)
  subst hR
  refine hide2 fun R hR => ?_
  repeat' (first | (k_unfold; (try dsimp only)) | ((try dsimp only); walk1))
  all_goals (try dsimp only)
  have hvl := hi.length
  (with_reducible rename Fr h₀ L _ _ => F5)
  have hL5 : Heap.IsList _ sc vs.toArray := let ⟨o, e, r⟩ := hl; ⟨o, F5.keep _ _ (B.stays _ _ e), r⟩
  refine len_list hL5 (by rw [List.size_toArray]; omega) ?_
  repeat' (first | (k_unfold; (try dsimp only)) | ((try dsimp only); walk1))
  all_goals (try dsimp only)
  all_goals subst hR
  have hfd : (vs.toArray.size : Int).fdiv 4 = (vs.toArray.size : Int) / 4 := Int.fdiv_eq_ediv_of_nonneg _ (by decide)
  all_goals (with_reducible rename Fr h₀ L _ _ => F7)
  · rw [dup1] at F7
    refine' next q n 16 _ _ _ _ _ _ _ _ _ _ _ _ q1 q2 hn1 hn6 (by decide) (by decide) ?od F7 ?N ?l1 ?l2
    case N => k_asm
    case od => assumption
    case l1 => first | assumption | omega | (rename ∀ p : Addr × Obj, p ∈ _ → _ => h8; exact h8 _ (.head _)) | (rename AllLt _ _ => h8; exact h8.1)
    case l2 => assumption
  · refine' next q n (2 + (vs.toArray.size : Int).fdiv 4) _ _ _ _ _ _ _ _ _ _ _ _ q1 q2 hn1 hn6 (by rw [Int.fdiv_eq_ediv_of_nonneg _ (by decide)]; omega) (by omega) ?od F7 ?N ?l1 ?l2
    case N => k_asm
    case od => assumption
    case l1 => first | assumption | omega | (rename ∀ p : Addr × Obj, p ∈ _ → _ => h8; exact h8 _ (.head _)) | (rename AllLt _ _ => h8; exact h8.1)
    case l2 => assumption
end

end Mine
end
section
open PySem PySem.W PySem.Spec PySem.Calls PyProof.Rows
namespace Mine
/-- the outer comprehension's state -/
def RowsJ (L : Addr) (n : Int) (news0 : List (Addr × Obj)) (i : Nat) (ys : List Value) (nw : List (Addr × Obj)) : Prop :=
  ∃ rs Z, ys = rs.map Value.ref ∧ rs.length = i ∧ RowsAt nw rs Z ∧ (∀ z ∈ Z, (z.length : Int) = n ∧ ∀ c ∈ z, Bd (10 ^ 60 + 6) c) ∧ (∀ p ∈ news0, p ∈ nw) ∧ ∃ g, UpdF 235 (tabObj #[]) nw g
theorem RowsAt.snoc {nw : List (Addr × Obj)} {r : Addr} {z : List Int} (hr : ∃ vs nn, (r, listOf vs.toArray nn) ∈ nw ∧ IntsAre vs z) : ∀ {rs : List Addr} {Z : List (List Int)}, RowsAt nw rs Z → RowsAt nw (rs ++ [r]) (Z ++ [z])
  | [], [], _ => ⟨hr, trivial⟩
  | _ :: _, _ :: _, h => ⟨h.1, h.2.snoc hr⟩
  | [], _ :: _, h => h.elim
  | _ :: _, [], h => h.elim
section
local macro_rules | `(tactic| k_mem) => `(tactic| first | (with_reducible assumption) | assumption | exact List.mem_cons_self | (refine' List.mem_cons_of_mem _ ?_; k_mem))
local macro_rules | `(tactic| walk_at "call builtin:len") => `(tactic| (k_here; (with_reducible show wpAny _ _ (call (Value.builtin "len") [Value.ref _]) _ _ _); k_dflt (refine' kst_len ?k1 ?k2 rfl ?k4 ?_; (case k1 => k_asm); (case k2 => k_mem); (case k4 => omega); k_whole)))
local macro_rules | `(tactic| tb_start) => `(tactic| exact Site.of (by k_asm) (by k_asm) (by k_asm) (by k_asm) (by k_asm) (by k_asm) (by first | rfl | assumption) (by first | ((try simp only [depth_under_make, depth_under_kw, depth_in1, depth_deeper, depth_caller]); (try dsimp only [ktrTop]); omega) | ktr_room | decide) (by first | ((have hcL9 := cLine_is); (try simp only [units_under_make, units_in1, units_deeper, Around.mark_units, units_caller]); (try dsimp only [ktrTop]); omega) | ktr_units | decide))
local macro_rules | `(tactic| walk_at "call ref") => `(tactic| (k_here; (with_reducible show wpAny _ _ (call (Value.ref 233) _) _ _ _); k_dflt (refine' at_ok ?S ?hl ?hi ?hlen ?h1 ?h2 ?_; (case S => tb_start); (case hl => k_asm); (case hi => k_asm); (case hlen => omega); (case h1 => omega); (case h2 => omega); k_whole; intro t9 h9 tk9 F9 N9; (try dsimp only); (try k_fold))))
local macro_rules | `(tactic| k_room) => `(tactic| ((try simp only [depth_under_make, depth_under_kw, depth_in1, depth_deeper, depth_caller]); (try dsimp only [ktrTop]); omega))
local macro_rules | `(tactic| walk_at "no key 1: the lines' count") => `(tactic| skip)
local macro_rules | `(tactic| walk_at "no key 2: the lines' count") => `(tactic| skip)
local macro_rules | `(tactic| walk_at "no key 3: the lines' count") => `(tactic| skip)
local macro_rules | `(tactic| walk_at "no key 4: the lines' count") => `(tactic| skip)
set_option maxRecDepth 100000 in
set_option maxHeartbeats 20000000 in
theorem seg2 {w : World} {mean : ExcName → Option Value} {mg mb : Str → Option Value} {A : Around} {env : Env} {base h₀ : Heap} {L sc ring rdx : Addr} {m₀ : Str → Option Value} {od os : Obj} {s : Shared} {Q : Flow → Shared → Prop} {E : Value → Shared → Prop} {vs : List Value} {ns : List Int}
    {q n many : Int} {tq tn tm t1 t2 t3 t4 : Tok}
    (St : LawSt w mean mg mb A env base h₀ L) (F : Fr h₀ L s.heap (kstB m₀ [(Str.ofString "many", .int many tm), (Str.ofString "ring", .ref ring), (Str.ofString "q", .int q tq)]))
    (N : News h₀ L s.heap [(ring, instObj 59 rdx), (rdx, ringD w.params t1 t2 t3 t4 q n), (L + 1 + 1, od), (L + 1, os), (235, tabObj #[])]) (hos : os.data = .cell (some (.ref sc))) (hod : od.data = .cell (some (.int n tn)))
    (hl : base.IsList sc vs.toArray) (hi : IntsAre vs ns) (hlen : ns.length ≤ 63) (h235 : @LT.lt Nat _ 235 L) (hn1 : 1 ≤ n) (hn6 : n ≤ 6) (hm2 : 2 ≤ many) (hm16 : many ≤ 16) (a1 : @LT.lt Nat _ (L + 1 + 1) rdx) (a2 : @LT.lt Nat _ rdx ring)
    (next : ∀ R rs Z nR news g h' tk, Fr h₀ L h' (kstB m₀ [(Str.ofString "rows", .ref R), (Str.ofString "many", .int many tm), (Str.ofString "ring", .ref ring), (Str.ofString "q", .int q tq)]) → News h₀ L h' news →
      (R, listOf (rs.map Value.ref).toArray nR) ∈ news → RowsAt news rs Z → (Z.length : Int) = many → (∀ z ∈ Z, (z.length : Int) = n ∧ ∀ c ∈ z, Bd (10 ^ 60 + 6) c) → (ring, instObj 59 rdx) ∈ news → (rdx, ringD w.params t1 t2 t3 t4 q n) ∈ news → (L + 1 + 1, od) ∈ news → (L + 1, os) ∈ news → UpdF 235 (tabObj #[]) news g →
      wpAny (model P2 w) A (execs ((lawBody w.params).drop 6) env) Q E { s with heap := h', toks := tk }) :
    wpAny (model P2 w) A (execs ((lawBody w.params).drop 5) env) Q E s := by
  unfold LawSt P2 at *
  obtain ⟨dp, un, gd, a, ccd, outer, A₀, rfl, rfl, B, X, T, C9, hdp, hun⟩ := St
  revert X; k_fill; intro X
  k_with_none
  replace h235 := ltN h235
  replace a1 := ltN a1
  replace a2 := ltN a2
  unfold lawScope lawBody lawFn at *
  dsimp only [FnAt.mk', List.drop] at *
  refine hide1 fun R hR => ?_
  refine wpAny_execs_cons ?_
  refine comp_cell (a := 0) (n := many.toNat) (RowsJ L n [(ring, instObj 59 rdx), (rdx, ringD w.params t1 t2 t3 t4 q n), (L + 1 + 1, od), (L + 1, os), (235, tabObj #[])]) rfl F ?hsw rfl ?hkind ?hnames ?hcf ?hpc ?hxk ?hy ?hp ?hh (by decide) (by decide) (by omega) ?h
  case hsw => with_unfolding_all rfl
  case hkind => rfl
  case hnames => decide
  case hcf => intro k; rfl
  case hpc => intro h; rfl
  case hxk => intro cl' C; rfl
  case hy => rfl
  case hp => rfl
  case hh => rfl
  repeat' (first | (k_unfold; (try dsimp only)) | ((try dsimp only); walk1))
  (with_reducible rename IsRange _ _ _ _ _ _ _ _ => R8)
  (with_reducible rename Fr _ _ _ _ => F8)
  (with_reducible rename News _ _ _ _ => N8)
  unfold CellSrc
  refine ⟨_, _, _, _, _, _, rfl, R8, by omega, F8, N8, ⟨[], [], rfl, rfl, trivial, (fun z hz => nomatch hz), (fun p hp => hp), ?g⟩, ?turn, ?fin⟩
  case g => exact ⟨_, .tail (Nat.ne_of_gt (by omega)) (.tail (Nat.ne_of_gt (by omega)) (.tail (Nat.ne_of_gt (by omega)) (.tail (Nat.ne_of_gt (by omega)) (.head fun _ h => nomatch h))))⟩
  case turn =>
    clear F8 N8 R8
    rintro i t I C D X oI oC oX ys news' h tk E' hi ⟨rs, Z, rfl, hrs, hRows, hZ, hsub, g, hU⟩ hoX F9 N9 off9
    have m1 := hsub (L + 1 + 1, od) (by k_mem)
    have m2 := hsub (L + 1, os) (by k_mem)
    rw [Int.zero_add] at hoX
    refine LCg.ListComp_U (F₀ := F9) (by with_unfolding_all rfl) (by decide) (by rfl) (by decide) (by rfl) ?_
    repeat' (first | (k_unfold; (try dsimp only)) | ((try dsimp only); walk1))
    (with_reducible rename _ ∧ _ ∧ _ ∧ _ ∧ LCg.Off1 _ _ => o9)
    (with_reducible rename Fr _ _ _ _ => F7)
    (with_reducible rename News _ _ _ _ => N7)
    (with_reducible rename IntsAre _ (List.map _ _) => I7)
    have h5 := hsub (235, tabObj #[]) (by k_mem)
    refine ⟨_, _, (_, LCg.lst ys) :: news', rfl, F7, (fun p hp => N7 p ?sub), ?off, rs ++ [_], Z ++ [_], by rw [List.map_append]; rfl, by rw [List.length_append, hrs]; rfl, (RowsAt.mono (fun p hp _ => .tail _ hp) hRows).snoc ⟨ys, ys.length, .head _, I7⟩, ?zz, (fun p hp => .tail _ (hsub p hp)), _, .tail (off1_mem o9.2.2.2.2 h5).symm hU⟩
    case sub =>
      simp only [List.mem_cons] at *
      rcases hp with h | h | h | h | h | h <;> simp [h]
    case off =>
      intro p hp
      rcases List.mem_cons.mp hp with rfl | hp
      · exact ⟨o9.1.symm, o9.2.1.symm, o9.2.2.1.symm, o9.2.2.2.1.symm⟩
      · exact off9 p hp
    case zz =>
      intro z hz
      rcases List.mem_append.mp hz with hz | hz
      · exact hZ z hz
      · rw [List.mem_singleton.mp hz]
        refine ⟨by rw [List.length_map, rangeKs_length]; omega, fun c hc => ?_⟩
        obtain ⟨k, hk, rfl⟩ := List.mem_map.mp hc
        have hk2 := mem_rangeKs hk
        exact at2_bd ns (by omega) (by omega)
  case fin =>
    rintro D h tk ys news' F7 N7 o7 ⟨rs, Z, rfl, hrs, hRows, hZ, hsub, g, hU⟩
    dsimp only
    subst hR
    have h5 := hsub (235, tabObj #[]) (by k_mem)
    exact next D rs Z _ ((D, _) :: news') _ h tk F7 N7 (.head _) (RowsAt.mono (fun p hp _ => .tail _ hp) hRows) (by rw [← hRows.length, hrs]; omega) hZ (.tail _ (hsub _ (by k_mem))) (.tail _ (hsub _ (by k_mem))) (.tail _ (hsub _ (by k_mem))) (.tail _ (hsub _ (by k_mem))) (.tail (o7 _ h5).symm hU)
end

end Mine
end
section
open PySem PySem.W PySem.Spec PySem.Calls PyProof.Rows
namespace Mine
section
local macro_rules | `(tactic| k_mem) => `(tactic| first | (with_reducible assumption) | assumption | exact List.mem_cons_self | (refine' List.mem_cons_of_mem _ ?_; k_mem))
local macro_rules | `(tactic| walk_at "call builtin:len") => `(tactic| (k_here; (with_reducible show wpAny _ _ (call (Value.builtin "len") [Value.ref _]) _ _ _); k_dflt (refine' kst_len ?k1 ?k2 rfl ?k4 ?_; (case k1 => k_asm); (case k2 => k_mem); (case k4 => omega); k_whole)))
local macro_rules | `(tactic| tb_start) => `(tactic| exact Site.of (by k_asm) (by k_asm) (by k_asm) (by k_asm) (by k_asm) (by k_asm) (by first | rfl | assumption) (by first | ((try simp only [depth_under_make, depth_under_kw, depth_in1, depth_deeper, depth_caller]); (try dsimp only [ktrTop]); omega) | ktr_room | decide) (by first | ((have hcL9 := cLine_is); (try simp only [units_under_make, units_in1, units_deeper, Around.mark_units, units_caller]); (try dsimp only [ktrTop]); omega) | ktr_units | decide))
local macro_rules | `(tactic| walk_at "call ref") => `(tactic| (k_here; (with_reducible show wpAny _ _ (call (Value.ref 233) _) _ _ _); k_dflt (refine' at_ok ?S ?hl ?hi ?hlen ?h1 ?h2 ?_; (case S => tb_start); (case hl => k_asm); (case hi => k_asm); (case hlen => omega); (case h1 => omega); (case h2 => omega); k_whole; intro t9 h9 tk9 F9 N9; (try dsimp only); (try k_fold))))
local macro_rules | `(tactic| k_room) => `(tactic| ((try simp only [depth_under_make, depth_under_kw, depth_in1, depth_deeper, depth_caller]); (try dsimp only [ktrTop]); omega))
local macro_rules | `(tactic| walk_at "call ref") => `(tactic| (k_here; (with_reducible show wpAny _ _ (call (Value.ref 247) _) _ _ _); k_dflt (refine' dig_ok ?S ?U ?ht ?hG ?hR ?hZ ?hB ?hn1 ?hn6 ?hZ1 ?hZ16 ?hlen ?hq ?_; (case S => tb_start); (case U => assumption); (case ht => assumption); (case hG => assumption); (case hR => k_mem); (case hZ => assumption); (case hB => assumption); (case hn1 => assumption); (case hn6 => assumption); (case hZ1 => assumption); (case hZ16 => assumption); (case hlen => assumption); (case hq => assumption); k_whole; intro l9 vs9 nn9 ps9 s9 D9 ht9 F9 N9 l91 I9 D91 G9 os9; (try dsimp only); (try k_fold))))
local macro_rules | `(tactic| walk_at "no key 1: the lines' count") => `(tactic| skip)
set_option maxRecDepth 100000 in
set_option maxHeartbeats 20000000 in
theorem seg3 {w : World} {mean : ExcName → Option Value} {mg mb : Str → Option Value} {A : Around} {env : Env} {base h₀ : Heap} {L ring rdx R sc : Addr} {rs : List Addr} {Z : List (List Int)} {nR : Nat} {news : List (Addr × Obj)} {g : Obj → List (Addr × Obj)} {m₀ : Str → Option Value} {od os : Obj} {s : Shared} {Q : Flow → Shared → Prop} {E : Value → Shared → Prop}
    {q n many : Int} {tq tn tm t1 t2 t3 t4 : Tok}
    (St : LawSt w mean mg mb A env base h₀ L) (hG : AllBare s.gens) (F : Fr h₀ L s.heap (kstB m₀ [(Str.ofString "rows", .ref R), (Str.ofString "many", .int many tm), (Str.ofString "ring", .ref ring), (Str.ofString "q", .int q tq)])) (N : News h₀ L s.heap news)
    (hR : (R, listOf (rs.map Value.ref).toArray nR) ∈ news) (hRows : RowsAt news rs Z) (hZl : (Z.length : Int) = many) (hZ : ∀ z ∈ Z, (z.length : Int) = n ∧ ∀ c ∈ z, Bd (10 ^ 60 + 6) c) (hod : od.data = .cell (some (.int n tn))) (hos : os.data = .cell (some (.ref sc)))
    (hring : (ring, instObj 59 rdx) ∈ news) (hrdx : (rdx, ringD w.params t1 t2 t3 t4 q n) ∈ news) (hn2 : (L + 1 + 1, od) ∈ news) (hsc : (L + 1, os) ∈ news) (U : UpdF 235 (tabObj #[]) news g)
    (q1 : 1 ≤ q) (q2 : q ≤ M60) (hn1 : 1 ≤ n) (hn6 : n ≤ 6) (hm2 : 2 ≤ many) (hm16 : many ≤ 16)
    (next : ∀ lw vw nw D ps' news' s', Fr h₀ L s'.heap (kstB m₀ [(Str.ofString "want", .ref lw), (Str.ofString "rows", .ref R), (Str.ofString "many", .int many tm), (Str.ofString "ring", .ref ring), (Str.ofString "q", .int q tq)]) → News h₀ L s'.heap news' →
      (lw, listOf vw.toArray nw) ∈ news' → IntsAre vw D → DigSpec Z q n D → (235, tabObj ps') ∈ news' → (R, listOf (rs.map Value.ref).toArray nR) ∈ news' → RowsAt news' rs Z → (ring, instObj 59 rdx) ∈ news' → (rdx, ringD w.params t1 t2 t3 t4 q n) ∈ news' → (L + 1 + 1, od) ∈ news' → (L + 1, os) ∈ news' → AllBare s'.gens → s'.os = s.os →
      wpAny (model P2 w) A (execs ((lawBody w.params).drop 7) env) Q E s') :
    wpAny (model P2 w) A (execs ((lawBody w.params).drop 6) env) Q E s := by
  unfold LawSt P2 at *
  obtain ⟨dp, un, gd, a, ccd, outer, A₀, rfl, rfl, B, X, T, C9, hdp, hun⟩ := St
  revert X; k_fill; intro X
  k_with_none
  have ht : TriplesOk (#[] : Array Value).toList := by first | trivial | exact nofun | decide
  have hB : ∀ z ∈ Z, ∀ x ∈ z, Bd (10 ^ 60 + 6) x := fun z hz x hx => (hZ z hz).2 x hx
  have hlenZ : ∀ z ∈ Z, (z.length : Int) = n := fun z hz => (hZ z hz).1
  have hZ1 : 1 ≤ Z.length := by omega
  have hZ16 : Z.length ≤ 16 := by omega
  unfold lawScope lawBody lawFn at *
  dsimp only [FnAt.mk', List.drop] at *
  refine hide1 fun R1 hR1 => ?_
  repeat' (first | (k_unfold; (try dsimp only)) | ((try dsimp only); walk1))
  all_goals (try dsimp only)
  subst hR1
  (with_reducible rename Fr h₀ L _ _ => F7)
  (with_reducible rename News h₀ L _ _ => N7)
  refine next _ _ _ _ _ _ _ F7 N7 (.head _) (by assumption) (by assumption) (.tail _ (updF_self U _)) (.tail _ (updF_mem U _ hR list_ne_tab)) (RowsAt.mono (fun p hp hl => .tail _ (updF_mem U _ hp (by obtain ⟨vs, k, e⟩ := hl; rw [e]; exact list_ne_tab))) hRows)
    (.tail _ (updF_mem U _ hring (fun e => by cases e))) (.tail _ (updF_mem U _ hrdx (fun e => by cases e))) (.tail _ (updF_mem U _ hn2 (fun e => by have e' : od = tabObj #[] := e; rw [e'] at hod; cases hod))) (.tail _ (updF_mem U _ hsc (fun e => by have e' : os = tabObj #[] := e; rw [e'] at hos; cases hos))) (by assumption) (by assumption)
end

end Mine
end
section
open PySem PySem.W PySem.Spec PySem.Calls PyProof.Rows
namespace Mine
/-- what every later part of the law finds in the ledger -/
structure LB (P : Params) (ring rdx R : Addr) (t1 t2 t3 t4 : Tok) (q n : Int) (rs : List Addr) (nR : Nat) (Z : List (List Int)) (news : List (Addr × Obj)) : Prop where
  ring : (ring, instObj 59 rdx) ∈ news
  rdx : (rdx, ringD P t1 t2 t3 t4 q n) ∈ news
  rows : (R, listOf (rs.map Value.ref).toArray nR) ∈ news
  all : RowsAt news rs Z
theorem LB.mono {P : Params} {ring rdx R : Addr} {t1 t2 t3 t4 : Tok} {q n : Int} {rs : List Addr} {nR : Nat} {Z : List (List Int)} {news news' : List (Addr × Obj)} (h : LB P ring rdx R t1 t2 t3 t4 q n rs nR Z news) (hs : ∀ p ∈ news, p ∈ news') :
    LB P ring rdx R t1 t2 t3 t4 q n rs nR Z news' := ⟨hs _ h.ring, hs _ h.rdx, hs _ h.rows, h.all.mono fun p hp _ => hs p hp⟩
/-- an element of the ring in the ledger -/
def PolyAt (P : Params) (ring : Addr) (n : Int) (x : Addr) (X : List Int) (news : List (Addr × Obj)) : Prop :=
  ∃ dx l u1 u2 vs nn, (x, instObj 222 dx) ∈ news ∧ (dx, polyD P u1 u2 ring l) ∈ news ∧ (l, listOf vs.toArray nn) ∈ news ∧ IntsAre vs X ∧ (X.length : Int) = n ∧ ∀ z ∈ X, Builtin.Int.intBits z ≤ 300
theorem PolyAt.mono {P : Params} {ring : Addr} {n : Int} {x : Addr} {X : List Int} {news news' : List (Addr × Obj)} (h : PolyAt P ring n x X news) (hs : ∀ p ∈ news, p ∈ news') : PolyAt P ring n x X news' :=
  let ⟨dx, l, u1, u2, vs, nn, h1, h2, h3, r⟩ := h
  ⟨dx, l, u1, u2, vs, nn, hs _ h1, hs _ h2, hs _ h3, r⟩
theorem RowsAt.at {news : List (Addr × Obj)} {rs : List Addr} {Z : List (List Int)} (h : RowsAt news rs Z) {i : Nat} (hi : i < Z.length) : ∃ r z vs nn, (rs.map Value.ref).toArray[i]? = some (.ref r) ∧ Z[i]? = some z ∧ (r, listOf vs.toArray nn) ∈ news ∧ IntsAre vs z := by
  have hl := h.length
  have hi' : i < (rs.map Value.ref).length := by rw [List.length_map]; omega
  obtain ⟨r, z, vs, nn, e, hz, hm, hI⟩ := h.get (i := i) (List.getElem?_eq_getElem hi')
  refine ⟨r, z, vs, nn, ?_, hz, hm, hI⟩
  rw [List.getElem?_toArray, List.getElem?_eq_getElem hi', e]
theorem row_item {prog : Program} {w : World} {A : Around} {E : Value → Shared → Prop} {s : Shared} {h₀ : Heap} {L R : Addr} {news : List (Addr × Obj)} {its : Array Value} {nn : Nat} {value slice : Expr} {k : Int} {t : Tok} {x : Value} {Q : Value → Shared → Prop}
    (N : News h₀ L s.heap news) (hm : (R, listOf its nn) ∈ news) (h0 : 0 ≤ k) (hf : k < 2 ^ 63) (hx : its[k.toNat]? = some x) (h : Q x s)
    (hs : subscripted slice false (.ref R) (.int k t) = operate [.ref R, .int k t] (getItem (.ref R) (.int k t)) := by with_unfolding_all rfl) (ht : ∀ r, letTemporaryGo value (.ref R) r = pure () := by intro _; with_unfolding_all rfl) :
    wpAny (model prog w) A (subscriptTail value slice (.ref R) (.int k t)) Q E s :=
  subscriptTail_builtin (T := "list") ⟨_, (N _ hm).1, rfl⟩ rfl (wpAny_getItem_list ⟨_, (N _ hm).1, rfl, _, rfl⟩ h0 hf hx h) hs ht
theorem turn_mul {P : Params} {h₀ h : Heap} {L I x d l y dy ring : Addr} {o oy : Obj} {nw : List (Addr × Obj)} {u1 u2 : Tok} {vs : List Value} {nn : Nat} {n : Int} {X : List Int}
    (N : News h₀ L h ((x, instObj 222 d) :: (d, polyD P u1 u2 ring l) :: (l, listOf vs.toArray nn) :: (y, instObj 222 dy) :: (dy, oy) :: (I, o) :: nw))
    (o1 : LCg.Off1 l ((y, instObj 222 dy) :: (dy, oy) :: (I, o) :: nw)) (l1 : ∀ p ∈ (y, instObj 222 dy) :: (dy, oy) :: (I, o) :: nw, @LT.lt Nat _ p.1 d) (l3 : @LT.lt Nat _ d x)
    (l4 : ∀ p ∈ (I, o) :: nw, @LT.lt Nat _ p.1 dy) (l5 : @LT.lt Nat _ dy y) (hoff : ∀ p ∈ nw, p.1 ≠ I) (hI : IntsAre vs X) (hl : (vs.length : Int) = n) (hb : ∀ z ∈ X, Builtin.Int.intBits z ≤ 300) :
    ∃ big, News h₀ L h ((I, o) :: big) ∧ (∀ p ∈ big, p.1 ≠ I) ∧ (∀ p ∈ nw, p ∈ big) ∧ PolyAt P ring n x X big := by
  have hId : @LT.lt Nat _ I d := l1 (I, o) (.tail _ (.tail _ (.head _)))
  have hIdy : @LT.lt Nat _ I dy := l4 (I, o) (.head _)
  refine ⟨(x, instObj 222 d) :: (d, polyD P u1 u2 ring l) :: (l, listOf vs.toArray nn) :: (y, instObj 222 dy) :: (dy, oy) :: nw, fun p hp => N p ?_, fun p hp => ?_, fun p hp => .tail _ (.tail _ (.tail _ (.tail _ (.tail _ hp)))),
    d, l, u1, u2, vs, nn, .head _, .tail _ (.head _), .tail _ (.tail _ (.head _)), hI, by rw [← hI.length]; exact hl, hb⟩
  · simp only [List.mem_cons] at hp ⊢
    rcases hp with h | h | h | h | h | h | h <;> simp [h]
  · rcases List.mem_cons.mp hp with rfl | hp
    · exact Nat.ne_of_gt (Nat.lt_trans hId l3)
    · rcases List.mem_cons.mp hp with rfl | hp
      · exact Nat.ne_of_gt hId
      · rcases List.mem_cons.mp hp with rfl | hp
        · exact (off1_mem o1 (.tail _ (.tail _ (.head _)))).symm
        · rcases List.mem_cons.mp hp with rfl | hp
          · exact Nat.ne_of_gt (Nat.lt_trans hIdy l5)
          · rcases List.mem_cons.mp hp with rfl | hp
            · exact Nat.ne_of_gt hIdy
            · exact hoff p hp
theorem pe_drop {w : Int} {Z : List (List Int)} {z : List Int} {i : Nat} (h : Z[i]? = some z) : pe w (Z.drop i) = ev w z * pe w (Z.drop (i + 1)) := by
  obtain ⟨hlt, e⟩ := List.getElem?_eq_some_iff.mp h
  rw [List.drop_eq_getElem_cons hlt, e]
  rfl
theorem bits_fmod {q : Int} (h1 : 1 ≤ q) (h2 : q ≤ M60) {L : List Int} : ∀ z ∈ L.map (fun c => c.fmod q), Builtin.Int.intBits z ≤ 300 := by
  intro z hz
  obtain ⟨c, _, rfl⟩ := List.mem_map.mp hz
  have a := Int.fmod_nonneg_of_pos c (show 0 < q by omega)
  have b := Int.fmod_lt_of_pos c (show 0 < q by omega)
  refine bits_of_bd (B := M60) ⟨?_, by omega⟩ (by decide)
  exact Int.le_trans (by decide : -M60 ≤ (0 : Int)) a
theorem row_bits {Z : List (List Int)} {n : Int} (hZ : ∀ z ∈ Z, (z.length : Int) = n ∧ ∀ c ∈ z, Bd (10 ^ 60 + 6) c) {z : List Int} (hz : z ∈ Z) : ∀ c ∈ z, Builtin.Int.intBits c ≤ 300 := fun c hc => bits_300 ((hZ z hz).2 c hc)
theorem row_rep {Z : List (List Int)} {n b W q : Int} (hZ : ∀ z ∈ Z, (z.length : Int) = n ∧ ∀ c ∈ z, Bd (10 ^ 60 + 6) c) (hb : Big Z b) (hn1 : 1 ≤ n) {z : List Int} (hz : z ∈ Z) : Rep q n.toNat (n * b) W 1 (ev W z) z := by
  have e : ((n.toNat : Nat) : Int) = n := Int.toNat_of_nonneg (by omega)
  have h := rep_row (q := q) (n := n.toNat) (B := b) (w := W) (L := z) (by omega) (by have := (hZ z hz).1; omega) (fun u => by
    by_cases hu : u < z.length
    · refine hb.2.2 z hz _ ?_
      unfold gg
      rw [List.getD_eq_getElem?_getD, List.getElem?_eq_getElem hu]
      exact List.getElem_mem hu
    · rw [gg_out (by omega)]
      have := hb.1
      unfold Bd
      omega)
  rw [e] at h
  exact h
theorem rep_step {q n C W : Int} {k k' : Nat} {V V' : Int} {X Y : List Int} (hq : 1 ≤ q) (hn1 : 1 ≤ n) (hn6 : n ≤ 6) (hC : 0 ≤ C) (h : Rep q n.toNat C W k V X) (h' : Rep q n.toNat C W k' V' Y) :
    Rep q n.toNat C W (k + k') (V * V') ((conv n.toNat X Y).map fun c => c.fmod q) := rep_mul (by omega) (by omega) (by omega) hC h h'

end Mine
end
section
open PySem PySem.W PySem.Spec PySem.Calls PyProof.Rows
namespace Mine
section
local macro_rules | `(tactic| k_mem) => `(tactic| first | (with_reducible assumption) | assumption | exact List.mem_cons_self | (refine' List.mem_cons_of_mem _ ?_; k_mem))
local macro_rules | `(tactic| walk_at "call builtin:len") => `(tactic| (k_here; (with_reducible show wpAny _ _ (call (Value.builtin "len") [Value.ref _]) _ _ _); k_dflt (refine' kst_len ?k1 ?k2 rfl ?k4 ?_; (case k1 => k_asm); (case k2 => k_mem); (case k4 => omega); k_whole)))
local macro_rules | `(tactic| tb_start) => `(tactic| exact Site.of (by k_asm) (by k_asm) (by k_asm) (by k_asm) (by k_asm) (by k_asm) (by first | rfl | assumption) (by first | ((try simp only [depth_under_make, depth_under_kw, depth_in1, depth_deeper, depth_caller]); (try dsimp only [ktrTop]); omega) | ktr_room | decide) (by first | ((have hcL9 := cLine_is); (try simp only [units_under_make, units_in1, units_deeper, Around.mark_units, units_caller]); (try dsimp only [ktrTop]); omega) | ktr_units | decide))
local macro_rules | `(tactic| walk_at "call ref") => `(tactic| (k_here; (with_reducible show wpAny _ _ (call (Value.ref 233) _) _ _ _); k_dflt (refine' at_ok ?S ?hl ?hi ?hlen ?h1 ?h2 ?_; (case S => tb_start); (case hl => k_asm); (case hi => k_asm); (case hlen => omega); (case h1 => omega); (case h2 => omega); k_whole; intro t9 h9 tk9 F9 N9; (try dsimp only); (try k_fold))))
local macro_rules | `(tactic| k_room) => `(tactic| ((try simp only [depth_under_make, depth_under_kw, depth_in1, depth_deeper, depth_caller]); (try dsimp only [ktrTop]); omega))
local macro_rules | `(tactic| walk_at "look") => `(tactic| (repeat (first | exact List.forall_mem_nil _ | refine List.forall_mem_cons.mpr ⟨rfl, ?_⟩)))
local macro_rules | `(tactic| walk_at "call ref") => `(tactic| (k_here; (with_reducible show wpAny _ _ (call (Value.ref _) [Value.ref _]) _ _ _); k_dflt (refine' ring_ok ?S ?hr ?hrd ?hl ?hn ?hsz ?_; (case S => tb_start); (case hr => k_mem); (case hrd => k_mem); (case hl => k_mem); (case hn => assumption); (case hsz => omega); k_whole; intro h9 tk9 x9 d9 t91 t92 F9 N9 l91 l92; (try dsimp only); (try k_fold))))
local macro_rules | `(tactic| walk_at "call ref") => `(tactic| (k_here; (with_reducible show wpAny _ _ (call (Value.ref 184) _) _ _ _); k_dflt (refine' mul_ok ?S ?hG ?hr ?hrd ?hx ?hdx ?hy ?hdy ?ha ?hb ?hX ?hY ?hX1 ?hY1 ?hn1 ?hn6 ?hq ?hbX ?hbY ?_; (case S => tb_start); (case hG => assumption); (case hr => k_mem); (case hrd => k_mem); (case hx => k_mem); (case hdx => k_mem); (case hy => k_mem); (case hdy => k_mem); (case ha => k_mem); (case hb => k_mem); (case hX => assumption); (case hY => assumption); (case hX1 => assumption); (case hY1 => assumption); (case hn1 => assumption); (case hn6 => assumption); (case hq => assumption); (case hbX => assumption); (case hbY => assumption); k_whole; intro s9 l9 vs9 nn9 x9 d9 t91 t92 F9 N9 o9 l91 l92 l93 I9 hl9 G9 os9; (try dsimp only); (try k_fold))))
local macro_rules | `(tactic| walk_at "subscriptTail") => `(tactic| (k_here; (with_reducible show wpAny _ _ (subscriptTail _ _ (Value.ref _) (Value.int _ _)) _ _ _); (refine row_item (by assumption) (by k_mem) (by omega) (by omega) (by assumption) ?_)))
set_option maxRecDepth 100000 in
set_option maxHeartbeats 20000000 in
theorem seg4 {w : World} {mean : ExcName → Option Value} {mg mb : Str → Option Value} {A : Around} {env : Env} {base h₀ : Heap} {L ring rdx R lw : Addr} {rs : List Addr} {Z : List (List Int)} {nR : Nat} {news : List (Addr × Obj)} {m₀ : Str → Option Value} {s : Shared} {Q : Flow → Shared → Prop} {E : Value → Shared → Prop}
    {q n many b W : Int} {tq tm t1 t2 t3 t4 : Tok}
    (St : LawSt w mean mg mb A env base h₀ L) (hE : PassesOwn (model P2 w) A env E) (hG : AllBare s.gens) (F : Fr h₀ L s.heap (kstB m₀ [(Str.ofString "want", .ref lw), (Str.ofString "rows", .ref R), (Str.ofString "many", .int many tm), (Str.ofString "ring", .ref ring), (Str.ofString "q", .int q tq)])) (N : News h₀ L s.heap news)
    (H : LB w.params ring rdx R t1 t2 t3 t4 q n rs nR Z news) (hZl : (Z.length : Int) = many) (hZ : ∀ z ∈ Z, (z.length : Int) = n ∧ ∀ c ∈ z, Bd (10 ^ 60 + 6) c) (hb : Big Z b)
    (q1 : 1 ≤ q) (q2 : q ≤ M60) (hn1 : 1 ≤ n) (hn6 : n ≤ 6) (hm2 : 2 ≤ many) (hm16 : many ≤ 16)
    (next : ∀ x X news' s' m', Fr h₀ L s'.heap (kstB m' [(Str.ofString "left", .ref x), (Str.ofString "want", .ref lw), (Str.ofString "rows", .ref R), (Str.ofString "many", .int many tm), (Str.ofString "ring", .ref ring)]) → News h₀ L s'.heap news' → (∀ p ∈ news, p ∈ news') →
      PolyAt w.params ring n x X news' → Rep q n.toNat (n * b) W Z.length (pe W Z) X → (∃ Y : List Int, X = Y.map fun c => c.fmod q) → AllBare s'.gens → s'.os = s.os →
      wpAny (model P2 w) A (execs ((lawBody w.params).drop 9) env) Q E s') :
    wpAny (model P2 w) A (execs ((lawBody w.params).drop 7) env) Q E s := by
  unfold LawSt P2 at *
  obtain ⟨dp, un, gd, a, ccd, outer, A₀, rfl, rfl, B, Xk, T, C9, hdp, hun⟩ := St
  revert Xk; k_fill; intro Xk
  k_with_none
  have hring := H.ring
  have hrdx := H.rdx
  have hR := H.rows
  obtain ⟨r0, z0, vs0, nn0, hg0, hz0, hr0, hi0⟩ := H.all.at (i := 0) (by omega)
  have hg0' : (rs.map Value.ref).toArray[(0 : Int).toNat]? = some (.ref r0) := hg0
  have hzm0 := List.mem_of_getElem? hz0
  have hv0 : (vs0.length : Int) = n := by rw [hi0.length]; exact (hZ _ hzm0).1
  unfold lawScope lawBody lawFn at *
  dsimp only [FnAt.mk', List.drop] at *
  refine hide1 fun R1 hR1 => ?_
  repeat' (first | (k_unfold; (try dsimp only)) | ((try dsimp only); walk1))
  (with_reducible rename Fr h₀ L _ _ => F1)
  (with_reducible rename News h₀ L _ _ => N1)
  have hZp : 0 < Z.length := by omega
  subst hR1
  refine hide1 fun R2 hR2 => ?_
  refine wpAny_execs_cons ?_
  refine for_range F1 (fun c : List (Addr × Obj) × Addr => c.1) (fun c => [(Str.ofString "left", .ref c.2), (Str.ofString "want", .ref lw), (Str.ofString "rows", .ref R), (Str.ofString "many", .int many tm), (Str.ofString "ring", .ref ring)])
    (fun i c => (∀ p ∈ news, p ∈ c.1) ∧ ∃ X, PolyAt w.params ring n c.2 X c.1 ∧ Rep q n.toNat (n * b) W (i + 1) (pe W (Z.take (i + 1))) X ∧ (1 ≤ i → ∃ Y : List Int, X = Y.map fun c => c.fmod q)) 1 (Z.length - 1) (by rfl) (by rfl) (by rfl) (by decide) (by decide) (by omega) ?_ (hE := hE)
  repeat' (first | (k_unfold; (try dsimp only)) | ((try dsimp only); walk1))
  (with_reducible rename IsRange _ _ _ _ _ _ _ _ => R8)
  (with_reducible rename Fr _ _ _ _ => F8)
  (with_reducible rename News _ _ _ _ => N8)
  unfold OverRange
  refine ⟨_, _, _, _, _, _, (_, _), rfl, R8, by omega, F8, N8, hG, by walk_at "look", ⟨fun p hp => .tail _ (.tail _ hp), z0, ⟨_, r0, _, _, vs0, nn0, .head _, .tail _ (.head _), .tail _ (.tail _ hr0), hi0, (hZ _ hzm0).1, row_bits hZ hzm0⟩, ?rep0, fun h => absurd h (by decide)⟩, ?t1, ?d1⟩
  case rep0 =>
    have e : pe W (Z.take (0 + 1)) = ev W z0 := by rw [pe_take hz0]; show 1 * ev W z0 = _; exact Int.one_mul _
    rw [e]
    exact row_rep hZ hb hn1 hzm0
  case t1 =>
    rintro i ti ⟨nw, x⟩ I o rest s₂ hi ⟨hsub, X, ⟨dx, l, u1, u2, vx, nx, hx, hdx, hlx, hIx, hXl, hXb⟩, hRep, hred⟩ hlt hoff F2 N2 G2 os2
    dsimp only at hsub hx hdx hlx F2 N2 hoff
    have H2 := H.mono hsub
    have hring2 := H2.ring
    have hrdx2 := H2.rdx
    have hR2 := H2.rows
    obtain ⟨r, z, vz, nz, hg, hz, hr, hiz⟩ := H2.all.at (i := i + 1) (by omega)
    have hg' : (rs.map Value.ref).toArray[(1 + (i : Int)).toNat]? = some (.ref r) := by rw [show (1 + (i : Int)).toNat = i + 1 by omega]; exact hg
    have hzm := List.mem_of_getElem? hz
    have hvz : (vz.length : Int) = n := by rw [hiz.length]; exact (hZ _ hzm).1
    have hzl := (hZ _ hzm).1
    have hzb := row_bits hZ hzm
    clear hring hrdx hR
    repeat' (first | (k_unfold; (try dsimp only)) | ((try dsimp only); walk1) | (dsimp only [PySem.W.CmpBack]))
    (with_reducible rename News h₀ L _ ((_, instObj 222 _) :: (_, polyD _ _ _ _ _) :: (_, listOf _ _) :: _) => N9)
    have hXc := bits_fmod q1 q2 (L := conv n.toNat X z)
    obtain ⟨big, n1, n2, n3, n4⟩ := turn_mul N9 (by assumption) (by assumption) (by assumption) (by assumption) (by assumption) hoff (by assumption) (by assumption) hXc
    have hnew := rep_step q1 hn1 hn6 (by have := hb.1; exact Int.mul_nonneg (by omega) (by omega)) hRep (row_rep (q := q) (W := W) hZ hb hn1 hzm)
    refine ⟨rfl, (big, _), _, (by assumption), (by walk_at "look"), n1, n2, (by assumption), ?os, (fun p hp => n3 p (hsub p hp)), _, n4, ?rep, fun _ => ⟨_, rfl⟩⟩
    case rep =>
      rw [pe_take hz]
      exact hnew
    case os => exact Eq.trans (by assumption) os2
  case d1 =>
    rintro ⟨nw, x⟩ rest s₂ ⟨hsub, X, hP, hRep, hred⟩ F2 N2 G2 os2
    dsimp only at hsub hP F2 N2 ⊢
    have e : Z.length - 1 + 1 = Z.length := by omega
    rw [e, List.take_length] at hRep
    subst hR2
    exact next x X nw s₂ rest F2 N2 hsub hP hRep (hred (by omega)) G2 os2
end

end Mine
end
section
open PySem PySem.W PySem.Spec PySem.Calls PyProof.Rows
namespace Mine
section
local macro_rules | `(tactic| k_mem) => `(tactic| first | (with_reducible assumption) | assumption | exact List.mem_cons_self | (refine' List.mem_cons_of_mem _ ?_; k_mem))
local macro_rules | `(tactic| walk_at "call builtin:len") => `(tactic| (k_here; (with_reducible show wpAny _ _ (call (Value.builtin "len") [Value.ref _]) _ _ _); k_dflt (refine' kst_len ?k1 ?k2 rfl ?k4 ?_; (case k1 => k_asm); (case k2 => k_mem); (case k4 => omega); k_whole)))
local macro_rules | `(tactic| tb_start) => `(tactic| exact Site.of (by k_asm) (by k_asm) (by k_asm) (by k_asm) (by k_asm) (by k_asm) (by first | rfl | assumption) (by first | ((try simp only [depth_under_make, depth_under_kw, depth_in1, depth_deeper, depth_caller]); (try dsimp only [ktrTop]); omega) | ktr_room | decide) (by first | ((have hcL9 := cLine_is); (try simp only [units_under_make, units_in1, units_deeper, Around.mark_units, units_caller]); (try dsimp only [ktrTop]); omega) | ktr_units | decide))
local macro_rules | `(tactic| walk_at "call ref") => `(tactic| (k_here; (with_reducible show wpAny _ _ (call (Value.ref 233) _) _ _ _); k_dflt (refine' at_ok ?S ?hl ?hi ?hlen ?h1 ?h2 ?_; (case S => tb_start); (case hl => k_asm); (case hi => k_asm); (case hlen => omega); (case h1 => omega); (case h2 => omega); k_whole; intro t9 h9 tk9 F9 N9; (try dsimp only); (try k_fold))))
local macro_rules | `(tactic| k_room) => `(tactic| ((try simp only [depth_under_make, depth_under_kw, depth_in1, depth_deeper, depth_caller]); (try dsimp only [ktrTop]); omega))
local macro_rules | `(tactic| walk_at "look") => `(tactic| (repeat (first | exact List.forall_mem_nil _ | refine List.forall_mem_cons.mpr ⟨rfl, ?_⟩)))
local macro_rules | `(tactic| walk_at "call ref") => `(tactic| (k_here; (with_reducible show wpAny _ _ (call (Value.ref _) [Value.ref _]) _ _ _); k_dflt (refine' ring_ok ?S ?hr ?hrd ?hl ?hn ?hsz ?_; (case S => tb_start); (case hr => k_mem); (case hrd => k_mem); (case hl => k_mem); (case hn => assumption); (case hsz => omega); k_whole; intro h9 tk9 x9 d9 t91 t92 F9 N9 l91 l92; (try dsimp only); (try k_fold))))
local macro_rules | `(tactic| walk_at "call ref") => `(tactic| (k_here; (with_reducible show wpAny _ _ (call (Value.ref 184) _) _ _ _); k_dflt (refine' mul_ok ?S ?hG ?hr ?hrd ?hx ?hdx ?hy ?hdy ?ha ?hb ?hX ?hY ?hX1 ?hY1 ?hn1 ?hn6 ?hq ?hbX ?hbY ?_; (case S => tb_start); (case hG => assumption); (case hr => k_mem); (case hrd => k_mem); (case hx => k_mem); (case hdx => k_mem); (case hy => k_mem); (case hdy => k_mem); (case ha => k_mem); (case hb => k_mem); (case hX => assumption); (case hY => assumption); (case hX1 => assumption); (case hY1 => assumption); (case hn1 => assumption); (case hn6 => assumption); (case hq => assumption); (case hbX => assumption); (case hbY => assumption); k_whole; intro s9 l9 vs9 nn9 x9 d9 t91 t92 F9 N9 o9 l91 l92 l93 I9 hl9 G9 os9; (try dsimp only); (try k_fold))))
local macro_rules | `(tactic| walk_at "subscriptTail") => `(tactic| (k_here; (with_reducible show wpAny _ _ (subscriptTail _ _ (Value.ref _) (Value.int _ _)) _ _ _); (refine row_item (by assumption) (by k_mem) (by omega) (by omega) (by assumption) ?_)))
local macro_rules | `(tactic| walk_at "no key 1: the lines' count") => `(tactic| skip)
set_option maxRecDepth 100000 in
set_option maxHeartbeats 20000000 in
theorem seg5 {w : World} {mean : ExcName → Option Value} {mg mb : Str → Option Value} {A : Around} {env : Env} {base h₀ : Heap} {L ring rdx R lw xl : Addr} {rs : List Addr} {Z : List (List Int)} {nR : Nat} {news : List (Addr × Obj)} {m₀ : Str → Option Value} {s : Shared} {Q : Flow → Shared → Prop} {E : Value → Shared → Prop}
    {q n many b W : Int} {tm t1 t2 t3 t4 : Tok}
    (St : LawSt w mean mg mb A env base h₀ L) (hE : PassesOwn (model P2 w) A env E) (hG : AllBare s.gens) (F : Fr h₀ L s.heap (kstB m₀ [(Str.ofString "left", .ref xl), (Str.ofString "want", .ref lw), (Str.ofString "rows", .ref R), (Str.ofString "many", .int many tm), (Str.ofString "ring", .ref ring)])) (N : News h₀ L s.heap news)
    (H : LB w.params ring rdx R t1 t2 t3 t4 q n rs nR Z news) (hZl : (Z.length : Int) = many) (hZ : ∀ z ∈ Z, (z.length : Int) = n ∧ ∀ c ∈ z, Bd (10 ^ 60 + 6) c) (hb : Big Z b)
    (q1 : 1 ≤ q) (q2 : q ≤ M60) (hn1 : 1 ≤ n) (hn6 : n ≤ 6) (hm2 : 2 ≤ many) (hm16 : many ≤ 16)
    (next : ∀ x X news' s' m', Fr h₀ L s'.heap (kstB m' [(Str.ofString "right", .ref x), (Str.ofString "left", .ref xl), (Str.ofString "want", .ref lw), (Str.ofString "rows", .ref R), (Str.ofString "many", .int many tm), (Str.ofString "ring", .ref ring)]) → News h₀ L s'.heap news' → (∀ p ∈ news, p ∈ news') →
      PolyAt w.params ring n x X news' → Rep q n.toNat (n * b) W Z.length (pe W Z) X → (∃ Y : List Int, X = Y.map fun c => c.fmod q) → AllBare s'.gens → s'.os = s.os →
      wpAny (model P2 w) A (execs ((lawBody w.params).drop 11) env) Q E s') :
    wpAny (model P2 w) A (execs ((lawBody w.params).drop 9) env) Q E s := by
  unfold LawSt P2 at *
  obtain ⟨dp, un, gd, a, ccd, outer, A₀, rfl, rfl, B, Xk, T, C9, hdp, hun⟩ := St
  revert Xk; k_fill; intro Xk
  k_with_none
  have hring := H.ring
  have hrdx := H.rdx
  have hR := H.rows
  obtain ⟨r0, z0, vs0, nn0, hg0, hz0, hr0, hi0⟩ := H.all.at (i := Z.length - 1) (by omega)
  have hg0' : (rs.map Value.ref).toArray[(many - 1).toNat]? = some (.ref r0) := by rw [show (many - 1).toNat = Z.length - 1 by omega]; exact hg0
  have hzm0 := List.mem_of_getElem? hz0
  have hv0 : (vs0.length : Int) = n := by rw [hi0.length]; exact (hZ _ hzm0).1
  unfold lawScope lawBody lawFn at *
  dsimp only [FnAt.mk', List.drop] at *
  refine hide1 fun R1 hR1 => ?_
  repeat' (first | (k_unfold; (try dsimp only)) | ((try dsimp only); walk1))
  (with_reducible rename Fr h₀ L _ _ => F1)
  (with_reducible rename News h₀ L _ _ => N1)
  have hZp : 0 < Z.length := by omega
  subst hR1
  refine hide1 fun R2 hR2 => ?_
  refine wpAny_execs_cons ?_
  refine for_range F1 (fun c : List (Addr × Obj) × Addr => c.1) (fun c => [(Str.ofString "right", .ref c.2), (Str.ofString "left", .ref xl), (Str.ofString "want", .ref lw), (Str.ofString "rows", .ref R), (Str.ofString "many", .int many tm), (Str.ofString "ring", .ref ring)])
    (fun i c => (∀ p ∈ news, p ∈ c.1) ∧ ∃ X, PolyAt w.params ring n c.2 X c.1 ∧ Rep q n.toNat (n * b) W (i + 1) (pe W (Z.drop (Z.length - 1 - i))) X ∧ (1 ≤ i → ∃ Y : List Int, X = Y.map fun c => c.fmod q)) 0 (Z.length - 1) (by rfl) (by rfl) (by rfl) (by decide) (by decide) (by omega) ?_ (hE := hE)
  repeat' (first | (k_unfold; (try dsimp only)) | ((try dsimp only); walk1))
  (with_reducible rename IsRange _ _ _ _ _ _ _ _ => R8)
  (with_reducible rename Fr _ _ _ _ => F8)
  (with_reducible rename News _ _ _ _ => N8)
  unfold OverRange
  refine ⟨_, _, _, _, _, _, (_, _), rfl, R8, by omega, F8, N8, hG, by walk_at "look", ⟨fun p hp => .tail _ (.tail _ hp), z0, ⟨_, r0, _, _, vs0, nn0, .head _, .tail _ (.head _), .tail _ (.tail _ hr0), hi0, (hZ _ hzm0).1, row_bits hZ hzm0⟩, ?rep0, fun h => absurd h (by decide)⟩, ?t1, ?d1⟩
  case rep0 =>
    have e : pe W (Z.drop (Z.length - 1 - 0)) = ev W z0 := by rw [Nat.sub_zero, pe_drop hz0, List.drop_of_length_le (by omega)]; exact Int.mul_one _
    rw [e]
    exact row_rep hZ hb hn1 hzm0
  case t1 =>
    rintro i ti ⟨nw, x⟩ I o rest s₂ hi ⟨hsub, X, ⟨dx, l, u1, u2, vx, nx, hx, hdx, hlx, hIx, hXl, hXb⟩, hRep, hred⟩ hlt hoff F2 N2 G2 os2
    dsimp only at hsub hx hdx hlx F2 N2 hoff
    rw [Int.zero_add] at F2
    have H2 := H.mono hsub
    have hring2 := H2.ring
    have hrdx2 := H2.rdx
    have hR2 := H2.rows
    obtain ⟨r, z, vz, nz, hg, hz, hr, hiz⟩ := H2.all.at (i := Z.length - 2 - i) (by omega)
    have hg' : (rs.map Value.ref).toArray[(many - 2 - (i : Int)).toNat]? = some (.ref r) := by rw [show (many - 2 - (i : Int)).toNat = Z.length - 2 - i by omega]; exact hg
    have hzm := List.mem_of_getElem? hz
    have hvz : (vz.length : Int) = n := by rw [hiz.length]; exact (hZ _ hzm).1
    have hzl := (hZ _ hzm).1
    have hzb := row_bits hZ hzm
    clear hring hrdx hR
    repeat' (first | (k_unfold; (try dsimp only)) | ((try dsimp only); walk1) | (dsimp only [PySem.W.CmpBack]))
    (with_reducible rename News h₀ L _ ((_, instObj 222 _) :: (_, polyD _ _ _ _ _) :: (_, listOf _ _) :: _) => N9)
    have hXc := bits_fmod q1 q2 (L := conv n.toNat z X)
    obtain ⟨big, n1, n2, n3, n4⟩ := turn_mul N9 (by assumption) (by assumption) (by assumption) (by assumption) (by assumption) hoff (by assumption) (by assumption) hXc
    have hnew := rep_step q1 hn1 hn6 (by have := hb.1; exact Int.mul_nonneg (by omega) (by omega)) (row_rep (q := q) (W := W) hZ hb hn1 hzm) hRep
    refine ⟨rfl, (big, _), _, (by assumption), (by walk_at "look"), n1, n2, (by assumption), ?os, (fun p hp => n3 p (hsub p hp)), _, n4, ?rep, fun _ => ⟨_, rfl⟩⟩
    case rep =>
      have e1 : Z.length - 2 - i + 1 = Z.length - 1 - i := by omega
      have e2 : Z.length - 1 - (i + 1) = Z.length - 2 - i := by omega
      have e3 : 1 + (i + 1) = i + 1 + 1 := by omega
      rw [e2, pe_drop hz, e1, ← e3]
      exact hnew
    case os => exact Eq.trans (by assumption) os2
  case d1 =>
    rintro ⟨nw, x⟩ rest s₂ ⟨hsub, X, hP, hRep, hred⟩ F2 N2 G2 os2
    dsimp only at hsub hP F2 N2 ⊢
    have e : Z.length - 1 + 1 = Z.length := by omega
    rw [e, Nat.sub_self, List.drop_zero] at hRep
    subst hR2
    exact next x X nw s₂ rest F2 N2 hsub hP hRep (hred (by omega)) G2 os2
end

end Mine
end
section
open PySem PySem.W PySem.Spec PySem.Calls PyProof.Rows
namespace Mine
section
local macro_rules | `(tactic| k_mem) => `(tactic| first | (with_reducible assumption) | assumption | exact List.mem_cons_self | (refine' List.mem_cons_of_mem _ ?_; k_mem))
local macro_rules | `(tactic| walk_at "call builtin:len") => `(tactic| (k_here; (with_reducible show wpAny _ _ (call (Value.builtin "len") [Value.ref _]) _ _ _); k_dflt (refine' kst_len ?k1 ?k2 rfl ?k4 ?_; (case k1 => k_asm); (case k2 => k_mem); (case k4 => omega); k_whole)))
local macro_rules | `(tactic| tb_start) => `(tactic| exact Site.of (by k_asm) (by k_asm) (by k_asm) (by k_asm) (by k_asm) (by k_asm) (by first | rfl | assumption) (by first | ((try simp only [depth_under_make, depth_under_kw, depth_in1, depth_deeper, depth_caller]); (try dsimp only [ktrTop]); omega) | ktr_room | decide) (by first | ((have hcL9 := cLine_is); (try simp only [units_under_make, units_in1, units_deeper, Around.mark_units, units_caller]); (try dsimp only [ktrTop]); omega) | ktr_units | decide))
local macro_rules | `(tactic| walk_at "call ref") => `(tactic| (k_here; (with_reducible show wpAny _ _ (call (Value.ref 233) _) _ _ _); k_dflt (refine' at_ok ?S ?hl ?hi ?hlen ?h1 ?h2 ?_; (case S => tb_start); (case hl => k_asm); (case hi => k_asm); (case hlen => omega); (case h1 => omega); (case h2 => omega); k_whole; intro t9 h9 tk9 F9 N9; (try dsimp only); (try k_fold))))
local macro_rules | `(tactic| k_room) => `(tactic| ((try simp only [depth_under_make, depth_under_kw, depth_in1, depth_deeper, depth_caller]); (try dsimp only [ktrTop]); omega))
local macro_rules | `(tactic| walk_at "look") => `(tactic| (repeat (first | exact List.forall_mem_nil _ | refine List.forall_mem_cons.mpr ⟨rfl, ?_⟩)))
local macro_rules | `(tactic| walk_at "call ref") => `(tactic| (k_here; (with_reducible show wpAny _ _ (call (Value.ref _) [Value.ref _]) _ _ _); k_dflt (refine' ring_ok ?S ?hr ?hrd ?hl ?hn ?hsz ?_; (case S => tb_start); (case hr => k_mem); (case hrd => k_mem); (case hl => k_mem); (case hn => assumption); (case hsz => omega); k_whole; intro h9 tk9 x9 d9 t91 t92 F9 N9 l91 l92; (try dsimp only); (try k_fold))))
local macro_rules | `(tactic| walk_at "call ref") => `(tactic| (k_here; (with_reducible show wpAny _ _ (call (Value.ref 198) _) _ _ _); k_dflt (refine' imul_ok ?S ?hG ?hr ?hrd ?hx ?hdx ?hy ?hdy ?ha ?hb ?hX ?hY ?hX1 ?hY1 ?hn1 ?hn6 ?hq ?hbX ?hbY ?_; (case S => tb_start); (case hG => assumption); (case hr => k_mem); (case hrd => k_mem); (case hx => k_mem); (case hdx => k_mem); (case hy => k_mem); (case hdy => k_mem); (case ha => k_mem); (case hb => k_mem); (case hX => assumption); (case hY => assumption); (case hX1 => assumption); (case hY1 => assumption); (case hn1 => assumption); (case hn6 => assumption); (case hq => assumption); (case hbX => assumption); (case hbY => assumption); k_whole; intro s9 l9 vs9 nn9 x9 d9 t91 t92 F9 N9 o9 l91 l92 l93 I9 hl9 G9 os9; (try dsimp only); (try k_fold))))
local macro_rules | `(tactic| walk_at "call ref") => `(tactic| (k_here; (with_reducible show wpAny _ _ (call (Value.ref 233) _) _ _ _); k_dflt (refine' at_ok ?S ?hl ?hi ?hlen ?h1 ?h2 ?_; (case S => tb_start); (case hl => k_asm); (case hi => k_asm); (case hlen => omega); (case h1 => omega); (case h2 => omega); k_whole; intro t9 h9 tk9 F9 N9; (try dsimp only); (try k_fold))))
local macro_rules | `(tactic| walk_at "subscriptTail") => `(tactic| (k_here; (with_reducible show wpAny _ _ (subscriptTail _ _ (Value.ref _) (Value.int _ _)) _ _ _); (refine row_item (by assumption) (by k_mem) (by omega) (by omega) (by assumption) ?_)))
local macro_rules | `(tactic| walk_at "loadName") => `(tactic| (refine wpAny_loadName_local (by rfl) (by rfl) (Fr.ns (by assumption)) (by rfl) ?_))
set_option maxRecDepth 100000 in
set_option maxHeartbeats 20000000 in
theorem seg6 {w : World} {mean : ExcName → Option Value} {mg mb : Str → Option Value} {A : Around} {env : Env} {base h₀ : Heap} {L ring rdx R lw xl xr sc : Addr} {rs : List Addr} {Z : List (List Int)} {nR : Nat} {news : List (Addr × Obj)} {m₀ : Str → Option Value} {os : Obj} {s : Shared} {Q : Flow → Shared → Prop} {E : Value → Shared → Prop}
    {vs : List Value} {ns : List Int} {q n many b W : Int} {tm t1 t2 t3 t4 : Tok}
    (St : LawSt w mean mg mb A env base h₀ L) (hE : PassesOwn (model P2 w) A env E) (hG : AllBare s.gens) (F : Fr h₀ L s.heap (kstB m₀ [(Str.ofString "right", .ref xr), (Str.ofString "left", .ref xl), (Str.ofString "want", .ref lw), (Str.ofString "rows", .ref R), (Str.ofString "many", .int many tm), (Str.ofString "ring", .ref ring)])) (N : News h₀ L s.heap news)
    (H : LB w.params ring rdx R t1 t2 t3 t4 q n rs nR Z news) (hZl : (Z.length : Int) = many) (hZ : ∀ z ∈ Z, (z.length : Int) = n ∧ ∀ c ∈ z, Bd (10 ^ 60 + 6) c) (hb : Big Z b)
    (q1 : 1 ≤ q) (q2 : q ≤ M60) (hsc : (L + 1, os) ∈ news) (hos : os.data = .cell (some (.ref sc))) (hl : base.IsList sc vs.toArray) (hi : IntsAre vs ns) (hnl : ns.length ≤ 63) (hn1 : 1 ≤ n) (hn6 : n ≤ 6) (hm2 : 2 ≤ many) (hm16 : many ≤ 16)
    (next : ∀ (cut : Int) tc x X news' s' m', 1 ≤ cut → cut ≤ many - 1 → Fr h₀ L s'.heap (kstB m' [(Str.ofString "head", .ref x), (Str.ofString "cut", .int cut tc), (Str.ofString "right", .ref xr), (Str.ofString "left", .ref xl), (Str.ofString "want", .ref lw), (Str.ofString "rows", .ref R), (Str.ofString "many", .int many tm), (Str.ofString "ring", .ref ring)]) → News h₀ L s'.heap news' → (∀ p ∈ news, p ∈ news') →
      PolyAt w.params ring n x X news' → Rep q n.toNat (n * b) W cut.toNat (pe W (Z.take cut.toNat)) X → AllBare s'.gens → s'.os = s.os →
      wpAny (model P2 w) A (execs ((lawBody w.params).drop 14) env) Q E s') :
    wpAny (model P2 w) A (execs ((lawBody w.params).drop 11) env) Q E s := by
  unfold LawSt P2 at *
  obtain ⟨dp, un, gd, a, ccd, outer, A₀, rfl, rfl, B, Xk, T, C9, hdp, hun⟩ := St
  revert Xk; k_fill; intro Xk
  k_with_none
  have hring := H.ring
  have hrdx := H.rdx
  have hR := H.rows
  obtain ⟨r0, z0, vs0, nn0, hg0, hz0, hr0, hi0⟩ := H.all.at (i := 0) (by omega)
  have hg0' : (rs.map Value.ref).toArray[(0 : Int).toNat]? = some (.ref r0) := hg0
  have hzm0 := List.mem_of_getElem? hz0
  have hv0 : (vs0.length : Int) = n := by rw [hi0.length]; exact (hZ _ hzm0).1
  unfold lawScope lawBody lawFn at *
  dsimp only [FnAt.mk', List.drop] at *
  refine hide1 fun R0 hR0 => ?_
  repeat' (first | (k_unfold; (try dsimp only)) | ((try dsimp only); walk1))
  (try dsimp only)
  obtain ⟨c0, c1⟩ := fmod_small (at2 ns 1) (many - 1) (by omega)
  generalize Int.fmod (at2 ns 1) (many - 1) = c' at *
  generalize hcut : 1 + c' = cut at *
  have hc1 : 1 ≤ cut := by omega
  have hc2 : cut ≤ many - 1 := by omega
  (with_reducible rename Fr h₀ L _ _ => F0)
  obtain ⟨tc, F0⟩ := frEx1 (rest := m₀) F0 (fun tc => [(Str.ofString "cut", .int cut tc), (Str.ofString "right", .ref xr), (Str.ofString "left", .ref xl), (Str.ofString "want", .ref lw), (Str.ofString "rows", .ref R), (Str.ofString "many", .int many tm), (Str.ofString "ring", .ref ring)]) ⟨_, rfl⟩
  subst hR0
  refine hide1 fun R1 hR1 => ?_
  repeat' (first | (k_unfold; (try dsimp only)) | ((try dsimp only); walk1))
  (with_reducible rename Fr h₀ L _ _ => F1)
  (with_reducible rename News h₀ L _ _ => N1)
  have hZp : 0 < Z.length := by omega
  subst hR1
  refine hide1 fun R2 hR2 => ?_
  refine wpAny_execs_cons ?_
  refine for_range F1 (fun c : List (Addr × Obj) × Addr => c.1) (fun c => [(Str.ofString "head", .ref c.2), (Str.ofString "cut", .int cut tc), (Str.ofString "right", .ref xr), (Str.ofString "left", .ref xl), (Str.ofString "want", .ref lw), (Str.ofString "rows", .ref R), (Str.ofString "many", .int many tm), (Str.ofString "ring", .ref ring)])
    (fun i c => (∀ p ∈ news, p ∈ c.1) ∧ ∃ X, PolyAt w.params ring n c.2 X c.1 ∧ Rep q n.toNat (n * b) W (i + 1) (pe W (Z.take (i + 1))) X) 1 (cut.toNat - 1) (by rfl) (by rfl) (by rfl) (by decide) (by decide) (by omega) ?_ (hE := hE)
  repeat' (first | (k_unfold; (try dsimp only)) | ((try dsimp only); walk1))
  (with_reducible rename IsRange _ _ _ _ _ _ _ _ => R8)
  (with_reducible rename Fr _ _ _ _ => F8)
  (with_reducible rename News _ _ _ _ => N8)
  unfold OverRange
  refine ⟨_, _, _, _, _, _, (_, _), rfl, R8, by omega, F8, N8, hG, by walk_at "look", ⟨fun p hp => .tail _ (.tail _ hp), z0, ⟨_, r0, _, _, vs0, nn0, .head _, .tail _ (.head _), .tail _ (.tail _ hr0), hi0, (hZ _ hzm0).1, row_bits hZ hzm0⟩, ?rep0⟩, ?t1, ?d1⟩
  case rep0 =>
    have e : pe W (Z.take (0 + 1)) = ev W z0 := by rw [pe_take hz0]; show 1 * ev W z0 = _; exact Int.one_mul _
    rw [e]
    exact row_rep hZ hb hn1 hzm0
  case t1 =>
    rintro i ti ⟨nw, x⟩ I o rest s₂ hi ⟨hsub, X, ⟨dx, l, u1, u2, vx, nx, hx, hdx, hlx, hIx, hXl, hXb⟩, hRep⟩ hlt hoff F2 N2 G2 os2
    dsimp only at hsub hx hdx hlx F2 N2 hoff
    have H2 := H.mono hsub
    have hring2 := H2.ring
    have hrdx2 := H2.rdx
    have hR2 := H2.rows
    obtain ⟨r, z, vz, nz, hg, hz, hr, hiz⟩ := H2.all.at (i := i + 1) (by omega)
    have hg' : (rs.map Value.ref).toArray[(1 + (i : Int)).toNat]? = some (.ref r) := by rw [show (1 + (i : Int)).toNat = i + 1 by omega]; exact hg
    have hzm := List.mem_of_getElem? hz
    have hvz : (vz.length : Int) = n := by rw [hiz.length]; exact (hZ _ hzm).1
    have hzl := (hZ _ hzm).1
    have hzb := row_bits hZ hzm
    clear hring hrdx hR
    repeat' (first | (k_unfold; (try dsimp only)) | ((try dsimp only); walk1) | (dsimp only [PySem.W.CmpBack]))
    (with_reducible rename News h₀ L _ ((_, instObj 222 _) :: (_, polyD _ _ _ _ _) :: (_, listOf _ _) :: _) => N9)
    have hXc := bits_fmod q1 q2 (L := conv n.toNat X z)
    obtain ⟨big, n1, n2, n3, n4⟩ := turn_mul N9 (by assumption) (by assumption) (by assumption) (by assumption) (by assumption) hoff (by assumption) (by assumption) hXc
    have hnew := rep_step q1 hn1 hn6 (by have := hb.1; exact Int.mul_nonneg (by omega) (by omega)) hRep (row_rep (q := q) (W := W) hZ hb hn1 hzm)
    refine ⟨rfl, (big, _), _, (by assumption), (by walk_at "look"), n1, n2, (by assumption), ?os, (fun p hp => n3 p (hsub p hp)), _, n4, ?rep⟩
    case rep =>
      rw [pe_take hz]
      exact hnew
    case os => exact Eq.trans (by assumption) os2
  case d1 =>
    rintro ⟨nw, x⟩ rest s₂ ⟨hsub, X, hP, hRep⟩ F2 N2 G2 os2
    dsimp only at hsub hP F2 N2 ⊢
    have e : cut.toNat - 1 + 1 = cut.toNat := by omega
    rw [e] at hRep
    subst hR2
    exact next cut tc x X nw s₂ rest hc1 hc2 F2 N2 hsub hP hRep G2 os2
end

end Mine
end
section
open PySem PySem.W PySem.Spec PySem.Calls PyProof.Rows
namespace Mine
section
local macro_rules | `(tactic| k_mem) => `(tactic| first | (with_reducible assumption) | assumption | exact List.mem_cons_self | (refine' List.mem_cons_of_mem _ ?_; k_mem))
local macro_rules | `(tactic| walk_at "call builtin:len") => `(tactic| (k_here; (with_reducible show wpAny _ _ (call (Value.builtin "len") [Value.ref _]) _ _ _); k_dflt (refine' kst_len ?k1 ?k2 rfl ?k4 ?_; (case k1 => k_asm); (case k2 => k_mem); (case k4 => omega); k_whole)))
local macro_rules | `(tactic| tb_start) => `(tactic| exact Site.of (by k_asm) (by k_asm) (by k_asm) (by k_asm) (by k_asm) (by k_asm) (by first | rfl | assumption) (by first | ((try simp only [depth_under_make, depth_under_kw, depth_in1, depth_deeper, depth_caller]); (try dsimp only [ktrTop]); omega) | ktr_room | decide) (by first | ((have hcL9 := cLine_is); (try simp only [units_under_make, units_in1, units_deeper, Around.mark_units, units_caller]); (try dsimp only [ktrTop]); omega) | ktr_units | decide))
local macro_rules | `(tactic| walk_at "call ref") => `(tactic| (k_here; (with_reducible show wpAny _ _ (call (Value.ref 233) _) _ _ _); k_dflt (refine' at_ok ?S ?hl ?hi ?hlen ?h1 ?h2 ?_; (case S => tb_start); (case hl => k_asm); (case hi => k_asm); (case hlen => omega); (case h1 => omega); (case h2 => omega); k_whole; intro t9 h9 tk9 F9 N9; (try dsimp only); (try k_fold))))
local macro_rules | `(tactic| k_room) => `(tactic| ((try simp only [depth_under_make, depth_under_kw, depth_in1, depth_deeper, depth_caller]); (try dsimp only [ktrTop]); omega))
local macro_rules | `(tactic| walk_at "look") => `(tactic| (repeat (first | exact List.forall_mem_nil _ | refine List.forall_mem_cons.mpr ⟨rfl, ?_⟩)))
local macro_rules | `(tactic| walk_at "call ref") => `(tactic| (k_here; (with_reducible show wpAny _ _ (call (Value.ref _) [Value.ref _]) _ _ _); k_dflt (refine' ring_ok ?S ?hr ?hrd ?hl ?hn ?hsz ?_; (case S => tb_start); (case hr => k_mem); (case hrd => k_mem); (case hl => k_mem); (case hn => assumption); (case hsz => omega); k_whole; intro h9 tk9 x9 d9 t91 t92 F9 N9 l91 l92; (try dsimp only); (try k_fold))))
local macro_rules | `(tactic| walk_at "call ref") => `(tactic| (k_here; (with_reducible show wpAny _ _ (call (Value.ref 198) _) _ _ _); k_dflt (refine' imul_ok ?S ?hG ?hr ?hrd ?hx ?hdx ?hy ?hdy ?ha ?hb ?hX ?hY ?hX1 ?hY1 ?hn1 ?hn6 ?hq ?hbX ?hbY ?_; (case S => tb_start); (case hG => assumption); (case hr => k_mem); (case hrd => k_mem); (case hx => k_mem); (case hdx => k_mem); (case hy => k_mem); (case hdy => k_mem); (case ha => k_mem); (case hb => k_mem); (case hX => assumption); (case hY => assumption); (case hX1 => assumption); (case hY1 => assumption); (case hn1 => assumption); (case hn6 => assumption); (case hq => assumption); (case hbX => assumption); (case hbY => assumption); k_whole; intro s9 l9 vs9 nn9 x9 d9 t91 t92 F9 N9 o9 l91 l92 l93 I9 hl9 G9 os9; (try dsimp only); (try k_fold))))
local macro_rules | `(tactic| walk_at "call ref") => `(tactic| (k_here; (with_reducible show wpAny _ _ (call (Value.ref 233) _) _ _ _); k_dflt (refine' at_ok ?S ?hl ?hi ?hlen ?h1 ?h2 ?_; (case S => tb_start); (case hl => k_asm); (case hi => k_asm); (case hlen => omega); (case h1 => omega); (case h2 => omega); k_whole; intro t9 h9 tk9 F9 N9; (try dsimp only); (try k_fold))))
local macro_rules | `(tactic| walk_at "subscriptTail") => `(tactic| (k_here; (with_reducible show wpAny _ _ (subscriptTail _ _ (Value.ref _) (Value.int _ _)) _ _ _); (refine row_item (by assumption) (by k_mem) (by omega) (by omega) (by assumption) ?_)))
local macro_rules | `(tactic| walk_at "loadName") => `(tactic| (refine wpAny_loadName_local (by rfl) (by rfl) (Fr.ns (by assumption)) (by rfl) ?_))
local macro_rules | `(tactic| walk_at "no key 1: the lines' count") => `(tactic| skip)
set_option maxRecDepth 100000 in
set_option maxHeartbeats 20000000 in
theorem seg7 {w : World} {mean : ExcName → Option Value} {mg mb : Str → Option Value} {A : Around} {env : Env} {base h₀ : Heap} {L ring rdx R lw xl xr xh : Addr} {rs : List Addr} {Z : List (List Int)} {nR : Nat} {news : List (Addr × Obj)} {m₀ : Str → Option Value} {s : Shared} {Q : Flow → Shared → Prop} {E : Value → Shared → Prop}
    {cut q n many b W : Int} {tc tm t1 t2 t3 t4 : Tok}
    (St : LawSt w mean mg mb A env base h₀ L) (hE : PassesOwn (model P2 w) A env E) (hG : AllBare s.gens) (F : Fr h₀ L s.heap (kstB m₀ [(Str.ofString "head", .ref xh), (Str.ofString "cut", .int cut tc), (Str.ofString "right", .ref xr), (Str.ofString "left", .ref xl), (Str.ofString "want", .ref lw), (Str.ofString "rows", .ref R), (Str.ofString "many", .int many tm), (Str.ofString "ring", .ref ring)])) (N : News h₀ L s.heap news)
    (H : LB w.params ring rdx R t1 t2 t3 t4 q n rs nR Z news) (hZl : (Z.length : Int) = many) (hZ : ∀ z ∈ Z, (z.length : Int) = n ∧ ∀ c ∈ z, Bd (10 ^ 60 + 6) c) (hb : Big Z b)
    (q1 : 1 ≤ q) (q2 : q ≤ M60) (hc1 : 1 ≤ cut) (hc2 : cut ≤ many - 1) (hn1 : 1 ≤ n) (hn6 : n ≤ 6) (hm2 : 2 ≤ many) (hm16 : many ≤ 16)
    (next : ∀ x X news' s' m', Fr h₀ L s'.heap (kstB m' [(Str.ofString "tail", .ref x), (Str.ofString "head", .ref xh), (Str.ofString "right", .ref xr), (Str.ofString "left", .ref xl), (Str.ofString "want", .ref lw), (Str.ofString "rows", .ref R), (Str.ofString "many", .int many tm), (Str.ofString "ring", .ref ring)]) → News h₀ L s'.heap news' → (∀ p ∈ news, p ∈ news') →
      PolyAt w.params ring n x X news' → Rep q n.toNat (n * b) W (Z.length - cut.toNat) (pe W (Z.drop cut.toNat)) X → AllBare s'.gens → s'.os = s.os →
      wpAny (model P2 w) A (execs ((lawBody w.params).drop 16) env) Q E s') :
    wpAny (model P2 w) A (execs ((lawBody w.params).drop 14) env) Q E s := by
  unfold LawSt P2 at *
  obtain ⟨dp, un, gd, a, ccd, outer, A₀, rfl, rfl, B, Xk, T, C9, hdp, hun⟩ := St
  revert Xk; k_fill; intro Xk
  k_with_none
  have hring := H.ring
  have hrdx := H.rdx
  have hR := H.rows
  obtain ⟨r0, z0, vs0, nn0, hg0, hz0, hr0, hi0⟩ := H.all.at (i := cut.toNat) (by omega)
  have hg0' : (rs.map Value.ref).toArray[cut.toNat]? = some (.ref r0) := hg0
  have hzm0 := List.mem_of_getElem? hz0
  have hv0 : (vs0.length : Int) = n := by rw [hi0.length]; exact (hZ _ hzm0).1
  unfold lawScope lawBody lawFn at *
  dsimp only [FnAt.mk', List.drop] at *
  refine hide1 fun R1 hR1 => ?_
  repeat' (first | (k_unfold; (try dsimp only)) | ((try dsimp only); walk1))
  (with_reducible rename Fr h₀ L _ _ => F1)
  (with_reducible rename News h₀ L _ _ => N1)
  have hZp : 0 < Z.length := by omega
  subst hR1
  refine hide1 fun R2 hR2 => ?_
  refine wpAny_execs_cons ?_
  refine for_range F1 (fun c : List (Addr × Obj) × Addr => c.1) (fun c => [(Str.ofString "tail", .ref c.2), (Str.ofString "head", .ref xh), (Str.ofString "right", .ref xr), (Str.ofString "left", .ref xl), (Str.ofString "want", .ref lw), (Str.ofString "rows", .ref R), (Str.ofString "many", .int many tm), (Str.ofString "ring", .ref ring)])
    (fun i c => (∀ p ∈ news, p ∈ c.1) ∧ ∃ X, PolyAt w.params ring n c.2 X c.1 ∧ Rep q n.toNat (n * b) W (i + 1) (pe W ((Z.drop cut.toNat).take (i + 1))) X) (cut + 1) (Z.length - cut.toNat - 1) (by rfl) (by rfl) (by rfl) (by omega) (by omega) (by omega) ?_ (hE := hE)
  repeat' (first | (k_unfold; (try dsimp only)) | ((try dsimp only); walk1))
  (with_reducible rename IsRange _ _ _ _ _ _ _ _ => R8)
  (with_reducible rename Fr _ _ _ _ => F8)
  (with_reducible rename News _ _ _ _ => N8)
  unfold OverRange
  refine ⟨_, _, _, _, _, _, (_, _), rfl, R8, by omega, F8, N8, hG, by walk_at "look", ⟨fun p hp => .tail _ (.tail _ hp), z0, ⟨_, r0, _, _, vs0, nn0, .head _, .tail _ (.head _), .tail _ (.tail _ hr0), hi0, (hZ _ hzm0).1, row_bits hZ hzm0⟩, ?rep0⟩, ?t1, ?d1⟩
  case rep0 =>
    have e : pe W ((Z.drop cut.toNat).take (0 + 1)) = ev W z0 := by
      rw [pe_take (z := z0) (by rw [List.getElem?_drop]; exact hz0)]
      show 1 * ev W z0 = _
      exact Int.one_mul _
    rw [e]
    exact row_rep hZ hb hn1 hzm0
  case t1 =>
    rintro i ti ⟨nw, x⟩ I o rest s₂ hi ⟨hsub, X, ⟨dx, l, u1, u2, vx, nx, hx, hdx, hlx, hIx, hXl, hXb⟩, hRep⟩ hlt hoff F2 N2 G2 os2
    dsimp only at hsub hx hdx hlx F2 N2 hoff
    have H2 := H.mono hsub
    have hring2 := H2.ring
    have hrdx2 := H2.rdx
    have hR2 := H2.rows
    obtain ⟨r, z, vz, nz, hg, hz, hr, hiz⟩ := H2.all.at (i := cut.toNat + (i + 1)) (by omega)
    have hg' : (rs.map Value.ref).toArray[(cut + 1 + (i : Int)).toNat]? = some (.ref r) := by rw [show (cut + 1 + (i : Int)).toNat = cut.toNat + (i + 1) by omega]; exact hg
    have hzm := List.mem_of_getElem? hz
    have hvz : (vz.length : Int) = n := by rw [hiz.length]; exact (hZ _ hzm).1
    have hzl := (hZ _ hzm).1
    have hzb := row_bits hZ hzm
    clear hring hrdx hR
    repeat' (first | (k_unfold; (try dsimp only)) | ((try dsimp only); walk1) | (dsimp only [PySem.W.CmpBack]))
    (with_reducible rename News h₀ L _ ((_, instObj 222 _) :: (_, polyD _ _ _ _ _) :: (_, listOf _ _) :: _) => N9)
    have hXc := bits_fmod q1 q2 (L := conv n.toNat X z)
    obtain ⟨big, n1, n2, n3, n4⟩ := turn_mul N9 (by assumption) (by assumption) (by assumption) (by assumption) (by assumption) hoff (by assumption) (by assumption) hXc
    have hnew := rep_step q1 hn1 hn6 (by have := hb.1; exact Int.mul_nonneg (by omega) (by omega)) hRep (row_rep (q := q) (W := W) hZ hb hn1 hzm)
    refine ⟨rfl, (big, _), _, (by assumption), (by walk_at "look"), n1, n2, (by assumption), ?os, (fun p hp => n3 p (hsub p hp)), _, n4, ?rep⟩
    case rep =>
      rw [pe_take (z := z) (by rw [List.getElem?_drop]; exact hz)]
      exact hnew
    case os => exact Eq.trans (by assumption) os2
  case d1 =>
    rintro ⟨nw, x⟩ rest s₂ ⟨hsub, X, hP, hRep⟩ F2 N2 G2 os2
    dsimp only at hsub hP F2 N2 ⊢
    have e : Z.length - cut.toNat - 1 + 1 = Z.length - cut.toNat := by omega
    have e2 : (Z.drop cut.toNat).take (Z.length - cut.toNat) = Z.drop cut.toNat := List.take_of_length_le (by rw [List.length_drop]; omega)
    rw [e, e2] at hRep
    subst hR2
    exact next x X nw s₂ rest F2 N2 hsub hP hRep G2 os2
end

end Mine
end
section
open PySem PySem.W PySem.Spec PySem.Calls PyProof.Rows
namespace Mine
section
local macro_rules | `(tactic| k_mem) => `(tactic| first | (with_reducible assumption) | assumption | exact List.mem_cons_self | (refine' List.mem_cons_of_mem _ ?_; k_mem))
local macro_rules | `(tactic| walk_at "call builtin:len") => `(tactic| (k_here; (with_reducible show wpAny _ _ (call (Value.builtin "len") [Value.ref _]) _ _ _); k_dflt (refine' kst_len ?k1 ?k2 rfl ?k4 ?_; (case k1 => k_asm); (case k2 => k_mem); (case k4 => omega); k_whole)))
local macro_rules | `(tactic| tb_start) => `(tactic| exact Site.of (by k_asm) (by k_asm) (by k_asm) (by k_asm) (by k_asm) (by k_asm) (by first | rfl | assumption) (by first | ((try simp only [depth_under_make, depth_under_kw, depth_in1, depth_deeper, depth_caller]); (try dsimp only [ktrTop]); omega) | ktr_room | decide) (by first | ((have hcL9 := cLine_is); (try simp only [units_under_make, units_in1, units_deeper, Around.mark_units, units_caller]); (try dsimp only [ktrTop]); omega) | ktr_units | decide))
local macro_rules | `(tactic| walk_at "call ref") => `(tactic| (k_here; (with_reducible show wpAny _ _ (call (Value.ref 233) _) _ _ _); k_dflt (refine' at_ok ?S ?hl ?hi ?hlen ?h1 ?h2 ?_; (case S => tb_start); (case hl => k_asm); (case hi => k_asm); (case hlen => omega); (case h1 => omega); (case h2 => omega); k_whole; intro t9 h9 tk9 F9 N9; (try dsimp only); (try k_fold))))
local macro_rules | `(tactic| k_room) => `(tactic| ((try simp only [depth_under_make, depth_under_kw, depth_in1, depth_deeper, depth_caller]); (try dsimp only [ktrTop]); omega))
local macro_rules | `(tactic| walk_at "call ref") => `(tactic| (k_here; (with_reducible show wpAny _ _ (call (Value.ref _) [Value.ref _]) _ _ _); k_dflt (refine' ring_ok ?S ?hr ?hrd ?hl ?hn ?hsz ?_; (case S => tb_start); (case hr => k_mem); (case hrd => k_mem); (case hl => k_mem); (case hn => assumption); (case hsz => omega); k_whole; intro h9 tk9 x9 d9 t91 t92 F9 N9 l91 l92; (try dsimp only); (try k_fold))))
local macro_rules | `(tactic| walk_at "call ref") => `(tactic| (k_here; (with_reducible show wpAny _ _ (call (Value.ref 198) _) _ _ _); k_dflt (refine' imul_ok ?S ?hG ?hr ?hrd ?hx ?hdx ?hy ?hdy ?ha ?hb ?hX ?hY ?hX1 ?hY1 ?hn1 ?hn6 ?hq ?hbX ?hbY ?_; (case S => tb_start); (case hG => assumption); (case hr => k_mem); (case hrd => k_mem); (case hx => k_mem); (case hdx => k_mem); (case hy => k_mem); (case hdy => k_mem); (case ha => k_mem); (case hb => k_mem); (case hX => assumption); (case hY => assumption); (case hX1 => assumption); (case hY1 => assumption); (case hn1 => assumption); (case hn6 => assumption); (case hq => assumption); (case hbX => assumption); (case hbY => assumption); k_whole; intro s9 l9 vs9 nn9 x9 d9 t91 t92 F9 N9 o9 l91 l92 l93 I9 hl9 G9 os9; (try dsimp only); (try k_fold))))
local macro_rules | `(tactic| walk_at "call ref") => `(tactic| (k_here; (with_reducible show wpAny _ _ (call (Value.ref 233) _) _ _ _); k_dflt (refine' at_ok ?S ?hl ?hi ?hlen ?h1 ?h2 ?_; (case S => tb_start); (case hl => k_asm); (case hi => k_asm); (case hlen => omega); (case h1 => omega); (case h2 => omega); k_whole; intro t9 h9 tk9 F9 N9; (try dsimp only); (try k_fold))))
local macro_rules | `(tactic| walk_at "subscriptTail") => `(tactic| (k_here; (with_reducible show wpAny _ _ (subscriptTail _ _ (Value.ref _) (Value.int _ _)) _ _ _); (refine row_item (by assumption) (by k_mem) (by omega) (by omega) (by assumption) ?_)))
local macro_rules | `(tactic| walk_at "call ref") => `(tactic| (k_here; (with_reducible show wpAny _ _ (call (Value.ref 122) _) _ _ _); k_dflt (refine' sb_ok ?S ?hG ?hr ?hrd ?hx ?hdx ?hy ?hdy ?ha ?hb ?hX ?hY ?hX1 ?hY1 ?hn1 ?hn6 ?hq ?hbX ?hbY ?_; (case S => tb_start); (case hG => assumption); (case hr => k_mem); (case hrd => k_mem); (case hx => k_mem); (case hdx => k_mem); (case hy => k_mem); (case hdy => k_mem); (case ha => k_mem); (case hb => k_mem); (case hX => assumption); (case hY => assumption); (case hX1 => assumption); (case hY1 => assumption); (case hn1 => assumption); (case hn6 => assumption); (case hq => assumption); (case hbX => assumption); (case hbY => assumption); k_whole; intro s9 l9 vs9 nn9 F9 N9 o9 I9 hl9 G9 os9; (try dsimp only); (try k_fold))))
local macro_rules | `(tactic| walk_at "no key 1: the lines' count") => `(tactic| skip)
local macro_rules | `(tactic| walk_at "no key 2: the lines' count") => `(tactic| skip)
local macro_rules | `(tactic| walk_at "compareOp NotEq ref ref") => `(tactic| (k_here; (with_reducible show wpAny _ _ (compareOp CmpOp.NotEq (Value.ref _) (Value.ref _)) _ _ _); (refine ke_ne_ints (News.isList (by assumption) (by k_mem)) (News.isList (by assumption) (by k_mem)) (by assumption) (by assumption) (by first | ((have hcL9 := cLine_is); (try simp only [units_under_make, units_in1, units_deeper, Around.mark_units, units_caller]); (try dsimp only [ktrTop]); omega) | ktr_units | decide) ?_)))
local macro_rules | `(tactic| walk_at "compareOp Eq ref ref") => `(tactic| (k_here; (with_reducible show wpAny _ _ (compareOp CmpOp.Eq (Value.ref _) (Value.ref _)) _ _ _); (refine ke_eq_ints (News.isList (by assumption) (by k_mem)) (News.isList (by assumption) (by k_mem)) (by assumption) (by assumption) (by first | ((have hcL9 := cLine_is); (try simp only [units_under_make, units_in1, units_deeper, Around.mark_units, units_caller]); (try dsimp only [ktrTop]); omega) | ktr_units | decide) ?_)))
set_option maxRecDepth 100000 in
set_option maxHeartbeats 1000000 in
theorem seg8 {w : World} {mean : ExcName → Option Value} {mg mb : Str → Option Value} {A : Around} {env : Env} {base h₀ : Heap} {L ring rdx R lw xl xr xh xt : Addr} {rs : List Addr} {Z : List (List Int)} {nR nw : Nat} {news : List (Addr × Obj)} {m₀ : Str → Option Value} {s : Shared} {Q : Flow → Shared → Prop} {E : Value → Shared → Prop}
    {q n many : Int} {tm t1 t2 t3 t4 : Tok} {D H T : List Int} {vw : List Value}
    (St : LawSt w mean mg mb A env base h₀ L) (hG : AllBare s.gens) (F : Fr h₀ L s.heap (kstB m₀ [(Str.ofString "tail", .ref xt), (Str.ofString "head", .ref xh), (Str.ofString "right", .ref xr), (Str.ofString "left", .ref xl), (Str.ofString "want", .ref lw), (Str.ofString "rows", .ref R), (Str.ofString "many", .int many tm), (Str.ofString "ring", .ref ring)])) (N : News h₀ L s.heap news)
    (HB : LB w.params ring rdx R t1 t2 t3 t4 q n rs nR Z news) (hw : (lw, listOf vw.toArray nw) ∈ news) (hIw : IntsAre vw D) (Pl : PolyAt w.params ring n xl D news) (Pr : PolyAt w.params ring n xr D news) (Ph : PolyAt w.params ring n xh H news) (Pt : PolyAt w.params ring n xt T news)
    (hD : ((conv n.toNat H T).map fun c => c.fmod q) = D) (q1 : 1 ≤ q) (hn1 : 1 ≤ n) (hn6 : n ≤ 6)
    (fin : ∀ s' m' news', Fr h₀ L s'.heap m' → News h₀ L s'.heap news' → (∀ p ∈ news, p ∈ news') → AllBare s'.gens → s'.os = s.os → Q (.ret (.bool true)) s') :
    wpAny (model P2 w) A (execs ((lawBody w.params).drop 16) env) Q E s := by
  unfold LawSt P2 at *
  obtain ⟨dp, un, gd, a, ccd, outer, A₀, rfl, rfl, B, Xk, T9, C9, hdp, hun⟩ := St
  revert Xk; k_fill; intro Xk
  k_with_none
  have hring := HB.ring
  have hrdx := HB.rdx
  obtain ⟨dl, ll, ul1, ul2, vl, nl, hl1, hl2, hl3, hl4, hl5, hl6⟩ := Pl
  obtain ⟨dr, lr, ur1, ur2, vr, nr, hr1, hr2, hr3, hr4, hr5, hr6⟩ := Pr
  obtain ⟨dh, lh, uh1, uh2, vh, nh, hh1, hh2, hh3, hh4, hh5, hh6⟩ := Ph
  obtain ⟨dt, lt, ut1, ut2, vt, nt, ht1, ht2, ht3, ht4, ht5, ht6⟩ := Pt
  unfold lawScope lawBody lawFn at *
  dsimp only [FnAt.mk', List.drop] at *
  refine hide1 fun R1 hR1 => ?_
  repeat' (first | (k_unfold; (try dsimp only)) | ((try dsimp only); walk1) | (dsimp only [PySem.W.CmpBack]))
  all_goals (try dsimp only)
  all_goals first | exact absurd hD (by assumption) | skip
  subst hR1
  repeat' (first | (k_unfold; (try dsimp only)) | ((try dsimp only); walk1) | (dsimp only [PySem.W.CmpBack]))
  all_goals (
    (with_reducible rename Fr h₀ L _ _ => F9)
    (with_reducible rename News h₀ L _ _ => N9)
    rw [show decide (D = D) = true from decide_eq_true rfl]
    exact fin _ _ _ F9 N9 (fun p hp => .tail _ hp) (by assumption) (by assumption))
end

end Mine
end
section
open PySem PySem.W PySem.Spec PySem.Calls PyProof.Rows
namespace Mine
theorem fmod_twice {q : Int} (hq : 1 ≤ q) (c : Int) : (c.fmod q).fmod q = c.fmod q := by
  have a := Int.fmod_nonneg_of_pos c (show 0 < q by omega)
  have b := Int.fmod_lt_of_pos c (show 0 < q by omega)
  exact Int.fmod_eq_of_lt a b
theorem red_gg {q : Int} (hq : 1 ≤ q) {X : List Int} (h : ∃ Y : List Int, X = Y.map fun c => c.fmod q) (u : Nat) : (gg X u).fmod q = gg X u := by
  obtain ⟨Y, rfl⟩ := h
  by_cases hu : u < Y.length
  · rw [gg_map hu]
    exact fmod_twice hq _
  · rw [gg_out (by rw [List.length_map]; omega)]
    exact Int.zero_fmod q
theorem same_digs {Z : List (List Int)} {q n b v : Int} {D X : List Int} (q1 : 1 ≤ q) (hn1 : 1 ≤ n) (hb : Big Z b) (hv : Cong (WW n b Z.length ^ n.toNat + 1) v (pe (WW n b Z.length) Z)) (h0 : 0 ≤ v) (h1 : v < WW n b Z.length ^ n.toNat + 1)
    (hD : D = digs (WW n b Z.length) q n.toNat (nearest (WW n b Z.length ^ n.toNat + 1) v)) (hr : Rep q n.toNat (n * b) (WW n b Z.length) Z.length (pe (WW n b Z.length) Z) X) (hX : ∃ Y : List Int, X = Y.map fun c => c.fmod q) : X = D := by
  rw [hD]
  have := hb.1
  exact rep_digs (by omega) (by omega) (Int.mul_nonneg (by omega) (by omega)) rfl hr (fun u _ => red_gg q1 hX u) hv h0 h1
theorem law_ok {w : World} {mean : ExcName → Option Value} {mg mb : Str → Option Value} {A : Around} {env : Env} {base h₀ : Heap} {L sc : Addr} {m₀ : Str → Option Value} {od os : Obj} {s : Shared} {Q : Flow → Shared → Prop} {E : Value → Shared → Prop} {vs : List Value} {ns : List Int}
    (St : LawSt w mean mg mb A env base h₀ L) (hE : PassesOwn (model P2 w) A env E) (hG : AllBare s.gens) (F : Fr h₀ L s.heap m₀) (N : News h₀ L s.heap [(L + 1 + 1, od), (L + 1, os), (235, tabObj #[])]) (hos : os.data = .cell (some (.ref sc))) (hod : od.data = .cell none)
    (hl : base.IsList sc vs.toArray) (hi : IntsAre vs ns) (hlen : ns.length ≤ 63) (h235 : @LT.lt Nat _ 235 L)
    (fin : ∀ s' m' ps news', Fr h₀ L s'.heap m' → News h₀ L s'.heap news' → (235, tabObj ps) ∈ news' → AllBare s'.gens → s'.os = s.os → Q (.ret (.bool true)) s') :
    wpAny (model P2 w) A (execs (lawBody w.params) env) Q E s := by
  refine seg1 St F N hos hod hl hi hlen h235 fun q n many ring rdx tq tn tm t1 t2 t3 t4 od' h' tk q1 q2 n1 n6 m2 m16 hod' F1 N1 a1 a2 => ?_
  refine seg2 St F1 N1 hos hod' hl hi hlen h235 n1 n6 m2 m16 a1 a2 fun R rs Z nR news g h' tk F2 N2 hR hRows hZl hZ hring hrdx hn2 hsc U => ?_
  refine seg3 St hG F2 N2 hR hRows hZl hZ hod' hos hring hrdx hn2 hsc U q1 q2 n1 n6 m2 m16 fun lw vw nw D ps' news3 s3 F3 N3 hw hIw hDig h235' hR3 hRows3 hring3 hrdx3 hn23 hsc3 G3 os3 => ?_
  obtain ⟨b, v, hb, hv, h0, h1, hD⟩ := hDig
  have H3 : LB w.params ring rdx R t1 t2 t3 t4 q n rs nR Z news3 := ⟨hring3, hrdx3, hR3, hRows3⟩
  refine seg4 (W := WW n b Z.length) St hE G3 F3 N3 H3 hZl hZ hb q1 q2 n1 n6 m2 m16 fun xl XL news4 s4 m4 F4 N4 sub4 Pl hrl hredl G4 os4 => ?_
  have eL := same_digs q1 n1 hb hv h0 h1 hD hrl hredl
  refine seg5 (W := WW n b Z.length) St hE G4 F4 N4 (H3.mono sub4) hZl hZ hb q1 q2 n1 n6 m2 m16 fun xr XR news5 s5 m5 F5 N5 sub5 Pr hrr hredr G5 os5 => ?_
  have eR := same_digs q1 n1 hb hv h0 h1 hD hrr hredr
  refine seg6 (W := WW n b Z.length) St hE G5 F5 N5 ((H3.mono sub4).mono sub5) hZl hZ hb q1 q2 (sub5 _ (sub4 _ hsc3)) hos hl hi hlen n1 n6 m2 m16 fun cut tc xh XH news6 s6 m6 c1 c2 F6 N6 sub6 Ph hrh G6 os6 => ?_
  refine seg7 (W := WW n b Z.length) St hE G6 F6 N6 (((H3.mono sub4).mono sub5).mono sub6) hZl hZ hb q1 q2 c1 c2 n1 n6 m2 m16 fun xt XT news7 s7 m7 F7 N7 sub7 Pt hrt G7 os7 => ?_
  have hC : 0 ≤ n * b := Int.mul_nonneg (by omega) (by have := hb.1; omega)
  have hr := rep_step q1 n1 n6 hC hrh hrt
  have e1 : cut.toNat + (Z.length - cut.toNat) = Z.length := by omega
  have e2 : pe (WW n b Z.length) (Z.take cut.toNat) * pe (WW n b Z.length) (Z.drop cut.toNat) = pe (WW n b Z.length) Z := by rw [← pe_append, List.take_append_drop]
  rw [e1, e2] at hr
  have eT := same_digs q1 n1 hb hv h0 h1 hD hr ⟨_, rfl⟩
  subst eL
  subst eR
  refine seg8 St G7 F7 N7 ((((H3.mono sub4).mono sub5).mono sub6).mono sub7) (sub7 _ (sub6 _ (sub5 _ (sub4 _ hw)))) hIw (((Pl.mono sub5).mono sub6).mono sub7) ((Pr.mono sub6).mono sub7) (Ph.mono sub7) Pt eT q1 n1 n6 fun s' m' news' F9 N9 sub9 G9 os9 => ?_
  exact fin s' m' ps' news' F9 N9 (sub9 _ (sub7 _ (sub6 _ (sub5 _ (sub4 _ h235'))))) G9 (os9.trans (os7.trans (os6.trans (os5.trans (os4.trans os3)))))

end Mine
end
section
open PySem PySem.W PySem.Spec PySem.Calls PyProof.Rows
namespace Mine
/-- the end that is shown of the whole call -/
def EndT (s₁ : Shared) (r : Result) (s' : Shared) : Prop :=
  r = .ok (.ret (.bool true)) ∧ (∀ b o, (ghostOf s₁.heap [((239 : Addr), (235 : Addr))]).get? b = some o → s'.heap.get? b = some o) ∧ s'.os = s₁.os ∧ AllBare s'.gens ∧ ∃ ps, s'.heap.get? 235 = some (tabObj ps)
theorem post_T {M : Model} {A : Around} {cd : Code} {s s₁ : Shared} {cw : ClaimW} {cl : Str → Option Addr} {mean : ExcName → Option Value} {args : List WData} (hT : TabsAt [((239 : Addr), (235 : Addr))] s₁.heap) (hr : ∀ a x, cw.raises a x = false) (hp : cw.post args (.bool true) args = true)
    (h : codeAny M A cd (EndT s₁) s) : codeAny M A cd (GoodWG cw cl mean args s₁) s :=
  codeAny_mono h fun r s' ⟨e, hk, hos, hg, ps, hP⟩ => by
    subst e
    have h9 := hT _ (.head _)
    have split : ∀ b o, s₁.heap.get? b = some o → s'.heap.get? b = some o ∨ (b = 235 ∧ o = tabObj #[]) := fun b o e => by
      by_cases hb : b = 235
      · subst hb
        have e2 := h9.2
        rw [e] at e2
        exact .inr ⟨rfl, Option.some.inj e2⟩
      · exact .inl (hk b o (ghost_ne e (fun hm => hb (List.mem_singleton.mp hm))))
    refine ⟨.inl ⟨.bool true, .bool true, [], rfl, fun cls => hr _ _, .bool true, hp, fun _ => ⟨.nil, fun _ h => nomatch h⟩⟩, ⟨fun b o e => ?_, fun b o e => ?_⟩, hos, hg⟩
    · rcases split b o e with k | ⟨rfl, rfl⟩
      · exact .inl k
      · exact .inr (.inl ⟨(h9.1.tab h9.2).isCodeTable, rfl, #[], ps, rfl, by rw [Array.empty_append]; exact hP⟩)
    · rcases split b o e with k | ⟨rfl, rfl⟩
      · exact ⟨o, k⟩
      · exact ⟨_, hP⟩

end Mine
end
open PySem PySem.W PySem.Spec PySem.Calls PyProof.Rows
set_option maxRecDepth 100000 in
set_option maxHeartbeats 20000000 in
theorem PySem.Challenge.cw_yd0002_02_holds : PySem.Challenge.rw_yd0002_02.Holds := by
  refine Mine.hd ?_
  w_strict (
    k_with_none
    k_fill
    intro w s₀ s₁ mg mb G Y fa o pm cd doc dV kV ho hd hcd hD hmg hg args vals as hpre hlay hrd hwl hlo
    have KX := km_in_of Y
    km_tabs Y
    have X := (Ground.X G).1
    have V := (Ground.X G).2
    refine Ground.open G ?_
    intro T B D TE TW
    try (refine guard_noD D (by decide +kernel) ?_; clear D)
    have hT9 : TabsAt [((239 : Addr), (235 : Addr))] _ := List.forall_mem_cons.mpr ⟨⟨codeHd_of_K (c := 239) (P := 235) KX (by kernel_rfl), hT8 235 (.head _)⟩, fun _ h => nomatch h⟩
    clear hmg
    wrow_args hpre hlay hrd hwl hlo
    all_goals (
      first | refine callC_kw (enter_call ?_) | refine enter_call ?_
      w_top on
      refine Mine.post_T hT9 (fun _ _ => rfl) ?hp ?_
      (case hp => wrow_post)
      w_call any ho hd hcd hD T F
      clear hd
      kn_ghosts F T
      k_drop
      skip))
  (rename Fr _ _ _ (bindL _ _ _) => F)
  (rename IntsAre _ _ => hI)
  (rename Heap.IsList (ghostOf _ _) _ _ => hL)
  (rename Below _ _ _ _ => hB)
  (rename Top topProg _ _ _ _ _ => hT)
  (rename Frag.In _ (ghostOf _ _) => hX)
  (rename News _ _ _ _ => hN)
  (rename CodeHd (ghostOf _ _) _ _ => hC)
  refine wpAny_mono (Mine.law_ok (E := fun _ _ => False) ⟨_, _, _, _, _, _, _, rfl, rfl, hB, hX, hT, hC, ?dp, ?un⟩ ?hE (AllBare.of_eq hg) F hN ?os ?od hL hI ?len (by assumption) ?fin) (fun _ _ x => x) (fun _ _ x => x.elim)
  case dp => first | decide | ((simp only [depth_caller]); decide)
  case un => first | decide | ((simp only [units_caller]); decide)
  case hE => passes_own
  case os => assumption
  case od => assumption
  case len => omega
  case fin =>
    intro s' m' ps news' F9 N9 h9 G9 os9
    exact ⟨rfl, F9.keep, os9, G9, ps, (N9 _ h9).1⟩

