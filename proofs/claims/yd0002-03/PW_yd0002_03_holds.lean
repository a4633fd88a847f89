import PyProof.Rows.All
import Wide.All
import OpenK.AllK
import Wide.FinOn
import PySem.Challenge.RW_yd0002_03
open PySem PySem.W PyProof.Rows
namespace Mine
/-- the top's run over a tree heap -/
noncomputable def treeRun (st : SharedT → Thread → Option (SharedT × Thread)) (n₀ : Nat) (ann : Option Value) : Nat → SharedT → Thread → Option SharedT
  | 0, _, _ => none
  | n + 1, s, t => match through t with
    | true => some s
    | false => match PySem.W.stepOk n₀ ann t with
      | false => none
      | true => match st s t with
        | some (s', t') => treeRun st n₀ ann n s' t'
        | none => none
theorem treeRun_topRun {tb : String → Option Builtin} {p : Program} {w : World} {n₀ : Nat} {ann : Option Value} :
    ∀ (n : Nat) (s s' : SharedT) (t : Thread), treeRun (stepT (denote tb) p w) n₀ ann n s t = some s' → topRun tb p w n₀ ann n s.abs t = some s'.abs
  | 0, _, _, _, h => by cases h
  | n + 1, s, s', t, h => by
    unfold treeRun at h
    unfold topRun
    cases h1 : through t with
    | true => rw [h1] at h; cases h; rfl
    | false =>
      rw [h1] at h
      cases h2 : PySem.W.stepOk n₀ ann t with
      | false => rw [h2] at h; cases h
      | true =>
        rw [h2] at h
        cases h3 : stepT (denote tb) p w s t with
        | none => rw [h3] at h; cases h
        | some r =>
          obtain ⟨s₂, t₂⟩ := r
          rw [h3] at h
          dsimp only
          rw [stepT_spec h3]
          exact treeRun_topRun n s₂ s' t₂ h
def growT (l : List Obj) : BT := (l.foldl (fun (x : BT × Nat) o => (x.1.ins x.2 o, x.2 + 1)) (BT.nil, 0)).1
theorem left_once {p q : Program} {loose : List Str} {Xt : Shared → Bool} {α : Type} {Yf : Shared → α} {Ya : World → α} {N m₀ : Nat} {ann : Option Value} {g0 : Bool}
    {H₀ : Params → Heap} {T₀ : Params → BT} {life : Life} {gs₀ : Array GenState} {d₀ : Drawn} {k₀ : Nat}
    (o : ∀ w : World, (fencedOpening treeTable p w N).map (fun s => (s.heap, s.gens, s.drawn, s.toks)) = some (H₀ w.params, gs₀, d₀, k₀))
    (hT : ∀ P, H₀ P = absHeap (T₀ P) m₀ life) (hz : gs₀.size = 0)
    (size : ∀ P, ((H₀ P).isNs mainGlobals, (H₀ P).objs.size, (H₀ P).nsMap mainGlobals "__annotations__") = (true, m₀, ann))
    (h : ∀ (w : World) (os : OsState), (treeRun (stepT (denote treeTable) p w) m₀ ann N ⟨T₀ w.params, m₀, life, gs₀, d₀, k₀, os⟩ (topStub p)).map
      (fun s => (((staticsOk (importedModules p.main.body) (H₀ w.params) s.abs.heap && namesBound p s.abs.heap) && gensDone s.abs && laidKept (H₀ w.params) s.abs.heap), openSeen q loose (importedModules p.main.body) Xt g0 s.abs, Yf s.abs)) = some (true, openGood q loose, Ya w)) :
    LeftO p q loose Xt Yf Ya N g0 := fun w => by
  obtain ⟨⟨hp, gs, d, k, os⟩, e, e'⟩ := Option.map_eq_some_iff.mp (o w)
  cases e'
  obtain ⟨s', r1, r2⟩ := Option.map_eq_some_iff.mp (h w os)
  have r3 := treeRun_topRun _ _ _ _ r1
  have es : (⟨H₀ w.params, gs, d, k, os⟩ : Shared) = SharedT.abs ⟨T₀ w.params, m₀, life, gs, d, k, os⟩ := by
    show Shared.mk _ _ _ _ _ = Shared.mk _ _ _ _ _
    rw [hT w.params]
  obtain ⟨z1, z2⟩ := Prod.mk.inj (size w.params)
  obtain ⟨z2, z3⟩ := Prod.mk.inj z2
  obtain ⟨y1, y2⟩ := Prod.mk.inj r2
  have F : topFrom treeTable p w N ⟨H₀ w.params, gs, d, k, os⟩ = some s'.abs := by
    unfold topFrom
    show (match (H₀ w.params).isNs mainGlobals && gs.size == 0 with
      | true => (topRun treeTable p w (H₀ w.params).objs.size ((H₀ w.params).nsMap mainGlobals "__annotations__") N ⟨H₀ w.params, gs, d, k, os⟩ (topStub p)).bind fun s₁ =>
          match staticsOk (importedModules p.main.body) (H₀ w.params) s₁.heap && namesBound p s₁.heap && gensDone s₁ && laidKept (H₀ w.params) s₁.heap with | true => some s₁ | false => none
      | false => none) = some s'.abs
    rw [z1, hz, z2, z3, es, r3]
    show (match staticsOk (importedModules p.main.body) (H₀ w.params) s'.abs.heap && namesBound p s'.abs.heap && gensDone s'.abs && laidKept (H₀ w.params) s'.abs.heap with | true => some s'.abs | false => none) = some s'.abs
    rw [y1]
  unfold openEnds
  rw [e]
  show Option.map _ (topFrom treeTable p w N _) = _
  rw [F]
  exact congrArg some y2
set_option Elab.async false
noncomputable def hd.view_39 : Program := view PySem.Challenge.pw_yd0002_03 [0,2,3,5,6,8,9,10,11]
local macro_rules | `(tactic| o_head $H) => `(tactic|
  refine holds_open (q := hd.view_39) (loose := [Str.ofString "PolynomialNTT"]) (Xt := fun s => xlAt hd.view_39 [] s && recOk (RowW.records (PySem.Challenge.rw_yd0002_03.row.toRowW)) s)
    (XP := XL hd.view_39 []) (Yf := Hook.obs $H) (Ya := Hook.val $H) (YP := Hook.says $H) (N := 5198)
    (left_once (m₀ := 11) (ann := some (.ref 6)) (life := {}) (T₀ := fun P => growT (boot_heap P).objs.toList) (boot_open (by kernel_rfl) (by kernel_rfl) (fun s => by kernel_rfl)) (fun P => by kernel_rfl) rfl (fun P => by kernel_rfl)
      (by intro w os; rw [PySem.W.Fast.te10156331382660048174, PySem.W.Fast.te11892475500146522536, PySem.W.Fast.te14364793385576792824, PySem.W.Fast.te4187177175401517315]; kernel_rfl)) (Hook.of $H) (Hook.keeps $H)
    (fun s e => xl_of s (Bool.and_eq_true_iff.mp e).1) XL.keeps (by rfl) (by rfl) (by rfl) (fun s e => recFacts_of (Bool.and_eq_true_iff.mp e).2)
    (by rfl) (by first | assumption | decide +kernel) (by decide +kernel) ⟨rfl, rfl, rfl, rfl, rfl, by decide +kernel⟩ ?hw ?hc)
set_option maxRecDepth 100000 in
set_option maxHeartbeats 20000000 in
open_top hd for PySem.Challenge.rw_yd0002_03
end Mine
section
open PySem PySem.W PyProof.Rows
namespace Mine
theorem fdiv_eq_of {X T b : Int} (hT : 0 < T) (h1 : b * T ≤ X) (h2 : X < b * T + T) : X.fdiv T = b := by
  rw [Int.fdiv_eq_ediv_of_nonneg _ (Int.le_of_lt hT)]
  apply Int.le_antisymm
  · have : X / T < b + 1 := Int.ediv_lt_of_lt_mul hT (by rw [Int.add_mul, Int.one_mul]; exact h2)
    omega
  · exact Int.le_ediv_of_mul_le hT h1
theorem fdiv_bounds (X : Int) {T : Int} (hT : 0 < T) : X.fdiv T * T ≤ X ∧ X < X.fdiv T * T + T := by
  rw [Int.fdiv_eq_ediv_of_nonneg _ (Int.le_of_lt hT)]
  have h := Int.mul_ediv_add_emod X T
  have h1 := Int.emod_nonneg X (Int.ne_of_gt hT)
  have h2 := Int.emod_lt_of_pos X hT
  rw [Int.mul_comm] at h
  omega
theorem fmod_bounds (X : Int) {T : Int} (hT : 0 < T) : 0 ≤ X.fmod T ∧ X.fmod T < T ∧ X = X.fdiv T * T + X.fmod T := by
  rw [Int.fdiv_eq_ediv_of_nonneg _ (Int.le_of_lt hT), Int.fmod_eq_emod_of_nonneg _ (Int.le_of_lt hT)]
  have h := Int.mul_ediv_add_emod X T
  have h1 := Int.emod_nonneg X (Int.ne_of_gt hT)
  have h2 := Int.emod_lt_of_pos X hT
  rw [Int.mul_comm] at h
  omega
theorem fmod_eq_of {X T r k : Int} (hT : 0 < T) (h0 : 0 ≤ r) (h1 : r < T) (h2 : X = k * T + r) : X.fmod T = r := by
  have hd : X.fdiv T = k := fdiv_eq_of hT (by omega) (by omega)
  have := fmod_bounds X hT
  rw [hd] at this
  omega
theorem mul_le_l {a b c : Int} (h : a ≤ b) (hc : 0 ≤ c) : a * c ≤ b * c := Int.mul_le_mul_of_nonneg_right h hc

def compE (d x : Int) : Int := ((1 * 2 ^ d.toNat * x + 1664).fdiv 3329).fmod (1 * 2 ^ d.toNat)
def decE (d x : Int) : Int := (3329 * x + 1 * 2 ^ (d - 1).toNat).fdiv (2 ^ d.toNat)

theorem two_pos (n : Nat) : (0 : Int) < 2 ^ n := Int.pow_pos (by decide)
theorem two_half {d : Int} (h : 1 ≤ d) : (2 : Int) ^ d.toNat = 2 * 2 ^ (d - 1).toNat := by
  have e : d.toNat = (d - 1).toNat + 1 := by omega
  rw [e, Int.pow_succ, Int.mul_comm]

/-- the rounded quotient of the remainder -/
theorem compE_spec {d x : Int} : ∃ q r : Int, 0 ≤ r ∧ r < 3329 ∧ x.fmod 3329 = r ∧ 3329 * q ≤ 2 ^ d.toNat * r + 1664 ∧ 2 ^ d.toNat * r + 1664 < 3329 * q + 3329 ∧ 0 ≤ q ∧ q ≤ 2 ^ d.toNat ∧
    compE d x = if q = 2 ^ d.toNat then 0 else q := by
  have hT := two_pos d.toNat
  generalize hTe : (2 : Int) ^ d.toNat = T at *
  obtain ⟨h0, h1, h2⟩ := fmod_bounds x (T := 3329) (by decide)
  generalize he : x.fmod 3329 = r at *
  generalize hk : x.fdiv 3329 = k at *
  obtain ⟨b1, b2⟩ := fdiv_bounds (T * r + 1664) (T := 3329) (by decide)
  generalize hq : (T * r + 1664).fdiv 3329 = q at *
  have p1 : T * r ≤ T * 3328 := Int.mul_le_mul_of_nonneg_left (by omega) (by omega)
  have p0 : 0 ≤ T * r := Int.mul_nonneg (by omega) h0
  refine ⟨q, r, h0, h1, rfl, by omega, by omega, by omega, by omega, ?_⟩
  unfold compE
  rw [hTe]
  have e : (1 * T * x + 1664).fdiv 3329 = T * k + q := by
    refine fdiv_eq_of (by decide) ?_ ?_
    · rw [h2, Int.one_mul, Int.mul_add, Int.add_mul, ← Int.mul_assoc]; omega
    · rw [h2, Int.one_mul, Int.mul_add, Int.add_mul, ← Int.mul_assoc]; omega
  rw [e, Int.one_mul]
  by_cases hq2 : q = T
  · rw [if_pos hq2]
    exact fmod_eq_of (k := k + 1) hT (by omega) hT (by rw [Int.add_mul, Int.mul_comm k T]; omega)
  · rw [if_neg hq2]
    exact fmod_eq_of (k := k) hT (by omega) (by omega) (by rw [Int.mul_comm k T])

theorem compE_range {d x : Int} : 0 ≤ compE d x ∧ compE d x < 2 ^ d.toNat := by
  obtain ⟨q, r, _, _, _, _, _, h0, h1, e⟩ := compE_spec (d := d) (x := x)
  have hT := two_pos d.toNat
  rw [e]
  split <;> omega

theorem decE_bounds {d y : Int} (h : 1 ≤ d) : decE d y * 2 ^ d.toNat ≤ 3329 * y + 2 ^ (d - 1).toNat ∧ 3329 * y + 2 ^ (d - 1).toNat < decE d y * 2 ^ d.toNat + 2 ^ d.toNat := by
  unfold decE
  rw [Int.one_mul]
  exact fdiv_bounds _ (two_pos _)

/-- the greedy digits of kept -/
def keptF (x d : Int) : Int :=
  (List.foldl
            (fun (σ : Int × Int × Unit) k =>
              if 3329 * (2 * (σ.fst + 2 ^ (d - k).toNat) - 1) < σ.snd.fst then
                (σ.fst + 2 ^ (d - k).toNat, σ.snd.fst, ())
              else (σ.fst, σ.snd.fst, ()))
            (0, 2 ^ (d + 1).toNat * x.fmod 3329, ()) (rangeInts 0 1 (d + 1 - 0).toNat)).fst

theorem rangeInts_succ (n : Nat) : rangeInts 0 1 (n + 1) = rangeInts 0 1 n ++ [(n : Int)] := by
  simp [rangeInts, List.range_succ]

theorem keptF_inv {x d q : Int} (h : 0 ≤ d) (hq1 : 3329 * q ≤ 2 ^ d.toNat * x.fmod 3329 + 1664) (hq2 : 2 ^ d.toNat * x.fmod 3329 + 1664 < 3329 * q + 3329) (hq0 : 0 ≤ q) (hqT : q ≤ 2 ^ d.toNat) :
    ∀ n : Nat, n ≤ d.toNat + 1 → ∀ σ, σ = List.foldl
            (fun (σ : Int × Int × Unit) k =>
              if 3329 * (2 * (σ.fst + 2 ^ (d - k).toNat) - 1) < σ.snd.fst then
                (σ.fst + 2 ^ (d - k).toNat, σ.snd.fst, ())
              else (σ.fst, σ.snd.fst, ()))
            (0, 2 ^ (d + 1).toNat * x.fmod 3329, ()) (rangeInts 0 1 n) →
      σ.2.1 = 2 * (2 ^ d.toNat * x.fmod 3329) ∧ σ.1 ≤ q ∧ q < σ.1 + 2 ^ (d.toNat + 1 - n) := by
  intro n
  induction n with
  | zero =>
    intro _ σ hσ
    subst hσ
    have e : (d + 1).toNat = d.toNat + 1 := by omega
    simp only [rangeInts, List.range_zero, List.map_nil, List.foldl_nil, e, Int.pow_succ, Nat.sub_zero]
    have hT := two_pos d.toNat
    refine ⟨?_, hq0, by omega⟩
    rw [Int.mul_comm _ 2, Int.mul_assoc]
  | succ n ih =>
    intro hn σ hσ
    rw [rangeInts_succ, List.foldl_append] at hσ
    generalize hτ : List.foldl _ _ (rangeInts 0 1 n) = τ at hσ
    obtain ⟨i1, i2, i3⟩ := ih (by omega) τ hτ.symm
    simp only [List.foldl_cons, List.foldl_nil] at hσ
    have e1 : (d - (n : Int)).toNat = d.toNat - n := by omega
    have e2 : d.toNat + 1 - n = (d.toNat - n) + 1 := by omega
    have e3 : d.toNat + 1 - (n + 1) = d.toNat - n := by omega
    rw [e2, Int.pow_succ] at i3
    rw [e1, i1] at hσ
    rw [e3]
    have hT := two_pos (d.toNat - n)
    generalize (2 : Int) ^ (d.toNat - n) = S at *
    split at hσ
    · subst hσ
      refine ⟨rfl, ?_, ?_⟩
      · dsimp only; omega
      · dsimp only; omega
    · subst hσ
      refine ⟨rfl, ?_, ?_⟩
      · dsimp only; omega
      · dsimp only; omega

theorem kept_eq {x d : Int} (h : 0 ≤ d) : (if keptF x d = 2 ^ d.toNat then 0 else keptF x d) = compE d x := by
  obtain ⟨q, r, h0, h1, e, a1, a2, q0, qT, ec⟩ := compE_spec (d := d) (x := x)
  rw [← e] at a1 a2
  have e1 : (d + 1 - 0).toNat = d.toNat + 1 := by omega
  obtain ⟨_, k1, k2⟩ := keptF_inv h a1 a2 q0 qT (d.toNat + 1) (Nat.le_refl _) _ rfl
  have ek : keptF x d = q := by
    unfold keptF
    rw [e1]
    simp only [Nat.sub_self, Int.pow_zero] at k2
    omega
  rw [ek, ec]

/-- back: the turn of its loop -/
theorem back_turn {d y z k : Int} {n : Nat} (hd : 1 ≤ d) (hk : k = (n : Int)) (hn : n < 12) (h0 : 0 ≤ z) (h1 : z ≤ decE d y) (h2 : decE d y < z + 2 ^ (12 - n)) :
    (2 ^ d.toNat * (2 * (z + 2 ^ (11 - k).toNat) - 1) ≤ 6658 * y → 0 ≤ z + 2 ^ (11 - k).toNat ∧ z + 2 ^ (11 - k).toNat ≤ decE d y ∧ decE d y < z + 2 ^ (11 - k).toNat + 2 ^ (12 - (n + 1))) ∧
    (¬ 2 ^ d.toNat * (2 * (z + 2 ^ (11 - k).toNat) - 1) ≤ 6658 * y → 0 ≤ z ∧ z ≤ decE d y ∧ decE d y < z + 2 ^ (12 - (n + 1))) := by
  obtain ⟨b1, b2⟩ := decE_bounds (d := d) (y := y) hd
  have e1 : (11 - k).toNat = 11 - n := by omega
  have e2 : 12 - n = (11 - n) + 1 := by omega
  have e3 : 12 - (n + 1) = 11 - n := by omega
  rw [e2, Int.pow_succ] at h2
  rw [e1, e3]
  have hS := two_pos (11 - n)
  have hH := two_pos (d - 1).toNat
  rw [two_half hd] at *
  generalize (2 : Int) ^ (11 - n) = S at *
  generalize (2 : Int) ^ (d - 1).toNat = H at *
  generalize decE d y = Z at *
  constructor
  · intro hc
    have q : z + S ≤ Z := by
      apply Int.not_lt.mp
      intro hlt
      have : (Z + 1) * (2 * H) ≤ (z + S) * (2 * H) := mul_le_l (by omega) (by omega)
      have e4 : 2 * H * (2 * (z + S) - 1) = 2 * ((z + S) * (2 * H)) - 2 * H := by
        rw [Int.mul_sub, Int.mul_one, Int.mul_comm (2 * H), Int.mul_assoc]
      have e5 : (Z + 1) * (2 * H) = Z * (2 * H) + 2 * H := by rw [Int.add_mul, Int.one_mul]
      omega
    exact ⟨by omega, q, by omega⟩
  · intro hc
    have q : Z < z + S := by
      apply Int.not_le.mp
      intro hle
      have : (z + S) * (2 * H) ≤ Z * (2 * H) := mul_le_l hle (by omega)
      have e4 : 2 * H * (2 * (z + S) - 1) = 2 * ((z + S) * (2 * H)) - 2 * H := by
        rw [Int.mul_sub, Int.mul_one, Int.mul_comm (2 * H), Int.mul_assoc]
      omega
    exact ⟨h0, h1, q⟩
theorem back_start {d y : Int} (hd : 1 ≤ d) (h0 : 0 ≤ y) (h1 : y < 2 ^ d.toNat) : 0 ≤ decE d y ∧ decE d y < 0 + 2 ^ 12 := by
  obtain ⟨b1, b2⟩ := decE_bounds (d := d) (y := y) hd
  have hH := two_pos (d - 1).toNat
  rw [two_half hd] at *
  generalize (2 : Int) ^ (d - 1).toNat = H at *
  generalize decE d y = Z at *
  constructor
  · apply Int.not_lt.mp
    intro hlt
    have : (Z + 1) * (2 * H) ≤ 0 * (2 * H) := mul_le_l (by omega) (by omega)
    have e5 : (Z + 1) * (2 * H) = Z * (2 * H) + 2 * H := by rw [Int.add_mul, Int.one_mul]
    omega
  · apply Int.not_le.mp
    intro hle
    have : (0 + 2 ^ 12) * (2 * H) ≤ Z * (2 * H) := mul_le_l hle (by omega)
    omega
/-- a whole step -/
theorem decE_shift {d x : Int} (hd : 1 ≤ d) : 3329 * x.fdiv (2 ^ d.toNat) + decE d (x.fmod (2 ^ d.toNat)) = decE d x := by
  obtain ⟨c0, c1, c2⟩ := fmod_bounds x (two_pos d.toNat)
  obtain ⟨b1, b2⟩ := decE_bounds (d := d) (y := x.fmod (2 ^ d.toNat)) hd
  have hT := two_pos d.toNat
  generalize he : x.fmod (2 ^ d.toNat) = r at *
  generalize x.fdiv (2 ^ d.toNat) = k at *
  generalize decE d r = Z at *
  unfold decE
  rw [Int.one_mul]
  symm
  refine fdiv_eq_of hT ?_ ?_
  · rw [c2, Int.add_mul, Int.mul_add, Int.mul_assoc]; omega
  · rw [c2, Int.add_mul, Int.mul_add, Int.mul_assoc]; omega
theorem pow_ge {d : Int} (h : 12 ≤ d) : (4096 : Int) ≤ 2 ^ d.toNat := by
  have e : d.toNat = 12 + (d.toNat - 12) := by omega
  rw [e, Int.pow_add]
  have := two_pos (d.toNat - 12)
  omega
theorem pow_le {d : Int} (h : d ≤ 11) : (2 : Int) ^ d.toNat ≤ 2048 := by
  have h : d.toNat ≤ 11 := by omega
  generalize d.toNat = n at *
  have : n = 0 ∨ n = 1 ∨ n = 2 ∨ n = 3 ∨ n = 4 ∨ n = 5 ∨ n = 6 ∨ n = 7 ∨ n = 8 ∨ n = 9 ∨ n = 10 ∨ n = 11 := by omega
  rcases this with rfl | rfl | rfl | rfl | rfl | rfl | rfl | rfl | rfl | rfl | rfl | rfl <;> decide
/-- from width 12 on: back to the remainder -/
theorem dec_comp {d x : Int} (h : 12 ≤ d) : decE d (compE d x) = x.fmod 3329 := by
  obtain ⟨q, r, h0, h1, e, a1, a2, q0, qT, ec⟩ := compE_spec (d := d) (x := x)
  have hT := pow_ge h
  have hh := two_half (d := d) (by omega)
  have hne : q ≠ 2 ^ d.toNat := by
    intro he
    have : 2 ^ d.toNat * r ≤ 2 ^ d.toNat * 3328 := Int.mul_le_mul_of_nonneg_left (by omega) (by omega)
    omega
  rw [ec, if_neg hne, e]
  unfold decE
  rw [Int.one_mul]
  refine fdiv_eq_of (two_pos _) ?_ ?_
  · rw [Int.mul_comm r]; omega
  · rw [Int.mul_comm r]; omega
theorem compE_of_round {d z q : Int} (h0 : 0 ≤ q) (h1 : q < 2 ^ d.toNat) (a1 : 3329 * q ≤ 2 ^ d.toNat * z + 1664) (a2 : 2 ^ d.toNat * z + 1664 < 3329 * q + 3329) : compE d z = q := by
  unfold compE
  rw [Int.one_mul]
  have e : (2 ^ d.toNat * z + 1664).fdiv 3329 = q := fdiv_eq_of (by decide) (by omega) (by omega)
  rw [e]
  exact fmod_eq_of (k := 0) (two_pos _) h0 h1 (by omega)
/-- to width 11: back by 2^d -/
theorem comp_dec {d x : Int} (h1 : 1 ≤ d) (h : d ≤ 11) : compE d (decE d x) = x.fmod (2 ^ d.toNat) := by
  obtain ⟨c0, c1, c2⟩ := fmod_bounds x (two_pos d.toNat)
  rw [← decE_shift h1]
  obtain ⟨b1, b2⟩ := decE_bounds (d := d) (y := x.fmod (2 ^ d.toNat)) h1
  have hT := pow_le h
  have hT0 := two_pos d.toNat
  have hh := two_half h1
  generalize he : x.fmod (2 ^ d.toNat) = r at *
  generalize x.fdiv (2 ^ d.toNat) = k at *
  generalize decE d r = Z at *
  generalize hTe : (2 : Int) ^ d.toNat = T at *
  generalize (2 : Int) ^ (d - 1).toNat = H at *
  unfold compE
  rw [hTe, Int.one_mul]
  have e : (T * (3329 * k + Z) + 1664).fdiv 3329 = k * T + r := by
    refine fdiv_eq_of (by decide) ?_ ?_
    · have : T * (3329 * k + Z) = 3329 * (k * T) + Z * T := by rw [Int.mul_add, Int.mul_comm T Z, Int.mul_left_comm, Int.mul_comm T k]
      omega
    · have : T * (3329 * k + Z) = 3329 * (k * T) + Z * T := by rw [Int.mul_add, Int.mul_comm T Z, Int.mul_left_comm, Int.mul_comm T k]
      omega
  rw [e]
  exact fmod_eq_of (k := k) hT0 c0 c1 rfl
/-- a second compress is the same -/
theorem comp_dec_comp {d x : Int} (h1 : 1 ≤ d) : compE d (decE d (compE d x)) = compE d x := by
  by_cases h : d ≤ 11
  · rw [comp_dec h1 h]
    have := compE_range (d := d) (x := x)
    exact fmod_eq_of (k := 0) (two_pos _) this.1 this.2 (by omega)
  · rw [dec_comp (by omega)]
    obtain ⟨q, r, h0, h1', e, a1, a2, q0, qT, ec⟩ := compE_spec (d := d) (x := x)
    have hT := pow_ge (d := d) (by omega)
    have hne : q ≠ 2 ^ d.toNat := by
      intro he
      have : 2 ^ d.toNat * r ≤ 2 ^ d.toNat * 3328 := Int.mul_le_mul_of_nonneg_left (by omega) (by omega)
      omega
    rw [ec, if_neg hne, e]
    exact compE_of_round q0 (by omega) (by omega) (by omega)
theorem comp_zero (x : Int) : compE 0 x = 0 := by
  unfold compE
  exact fmod_eq_of (k := ((1 * 2 ^ (0 : Int).toNat * x + 1664).fdiv 3329)) (by decide) (by decide) (by decide) (by rw [show (1 * 2 ^ (0 : Int).toNat : Int) = 1 from rfl]; omega)

end Mine
end
section
open PySem PySem.W PyProof.Rows
namespace Mine
abbrev P3 : Program := Challenge.rw_yd0002_03.row.prog
def Site (k : Nat) (w : World) (mean : ExcName → Option Value) (mg mb : Str → Option Value) (A : Around) (base h₀ : Heap) (L : Addr) (m : Str → Option Value) (news : List (Addr × Obj)) (s : Shared) : Prop :=
  ∃ (dp un : Nat) (gd : Option (List Code)) (cn : Str) (cs : Scope) (a : Addr) (ccd : Value) (cl : List (Str × Addr)) (outer : List Env) (A₀ : Around),
    A = ktrTop dp un gd cn cs L a ccd cl outer ∧ Below A₀ base outer h₀ ∧ Fr h₀ L s.heap m ∧ (hd.heap_39 w.params).In h₀ ∧ News h₀ L s.heap news ∧
    Top hd.view_39 (looseW hd.view_39 [Str.ofString "PolynomialNTT"]) mean mg mb h₀ ∧ cs.kind = .function ∧ dp + k < recursionLimit ∧ un + 8 * k < cLine
abbrev polyD (P : Params) (t1 t2 : Tok) (ring l : Addr) : Obj := dictOf [⟨PyData.keyHash P (Str.ofString "parent"), .str (Str.ofString "parent") t1, .ref ring⟩, ⟨PyData.keyHash P (Str.ofString "coeffs"), .str (Str.ofString "coeffs") t2, .ref l⟩] 2
theorem retI {h₀ : Heap} {L : Addr} {m : Str → Option Value} {news : List (Addr × Obj)} {s : Shared} {Q : Value → Shared → Prop} {x y : Int} {t : Tok} {h' : Heap} {tk' : Nat}
  (ret : ∀ (t : Tok) (h' : Heap) (tk' : Nat), Fr h₀ L h' m → News h₀ L h' news → Q (.int x t) { s with heap := h', toks := tk' }) (e : y = x) (F : Fr h₀ L h' m) (N : News h₀ L h' news) : Q (.int y t) { s with heap := h', toks := tk' } := e ▸ ret t h' tk' F N
theorem off1_mem {D a : Addr} {o : Obj} {l : List (Addr × Obj)} (h : LCg.Off1 D l) (hm : (a, o) ∈ l) : a ≠ D := by
  induction l with
  | nil => cases hm
  | cons p r ih =>
    rcases List.mem_cons.mp hm with e | hm
    · have h1 : p.1 ≠ D := h.1
      rw [← e] at h1
      exact h1
    · exact ih h.2 hm
theorem upd_mid {d : Addr} {o o' : Obj} {post : List (Addr × Obj)} (h2 : ∀ q ∈ post, q.1 ≠ d) : ∀ {pre : List (Addr × Obj)}, (∀ q ∈ pre, q.1 ≠ d) → Upd d o o' (pre ++ (d, o) :: post) (pre ++ (d, o') :: post)
  | [], _ => .head h2
  | q :: r, h => .tail (h q (.head _)) (upd_mid h2 fun p hp => h p (.tail _ hp))
theorem updF_upd {d : Addr} {o : Obj} {news : List (Addr × Obj)} {g : Obj → List (Addr × Obj)} (U : UpdF d o news g) (o' : Obj) : Upd d o o' news (g o') := by
  obtain ⟨own, rest, rfl, hg, h1, h2⟩ := U.split
  rw [hg]
  exact upd_mid h2 h1
theorem sub3 {α : Type} {a b c : α} {l : List α} : ∀ p ∈ a :: l, p ∈ a :: b :: c :: l := by
  intro p hp
  rcases List.mem_cons.mp hp with rfl | hp
  · exact .head _
  · exact .tail _ (.tail _ (.tail _ hp))
theorem Site.of {k : Nat} {w : World} {mean : ExcName → Option Value} {mg mb : Str → Option Value} {base h₀ : Heap} {L : Addr} {m : Str → Option Value} {news : List (Addr × Obj)} {s : Shared}
    {dp un : Nat} {gd : Option (List Code)} {cn : Str} {cs : Scope} {a : Addr} {ccd : Value} {cl : List (Str × Addr)} {outer : List Env} {A₀ : Around}
    (B : Below A₀ base outer h₀) (F : Fr h₀ L s.heap m) (X : (hd.heap_39 w.params).In h₀) (N : News h₀ L s.heap news) (T : Top hd.view_39 (looseW hd.view_39 [Str.ofString "PolynomialNTT"]) mean mg mb h₀)
    (hk : cs.kind = .function) (hdp : dp + k < recursionLimit) (hun : un + 8 * k < cLine) : Site k w mean mg mb (ktrTop dp un gd cn cs L a ccd cl outer) base h₀ L m news s :=
  ⟨dp, un, gd, cn, cs, a, ccd, cl, outer, A₀, rfl, B, F, X, N, T, hk, hdp, hun⟩

end Mine
end
section
open PySem PySem.W PyProof.Rows
namespace Mine
section
theorem bits_small {z : Int} (h0 : 0 ≤ z) (h1 : z < 18446744073709551616) : Builtin.Int.intBits z ≤ 64 := intBits_le_iff.mpr (by omega)
local macro_rules | `(tactic| bits_by_make) => `(tactic| first | assumption | (refine bits_small ?_ ?_ <;> omega))
def at3 (ns : List Int) (i : Int) : Int := if i < ns.length then ns.getD i.toNat 0 else (53 * i * i + 29 * i).fdiv 7
set_option maxRecDepth 100000 in
set_option maxHeartbeats 20000000 in
theorem kept_ok {w : World} {mean : ExcName → Option Value} {mg mb : Str → Option Value} {A : Around} {base h₀ : Heap} {L : Addr} {m : Str → Option Value} {news : List (Addr × Obj)} {s : Shared} {Q E : Value → Shared → Prop} {x d : Int} {t u : Tok}
    (S : Site 2 w mean mg mb A base h₀ L m news s) (h1 : 1 ≤ d) (h2 : d ≤ 40)
    (ret : ∀ t h' tk', Fr h₀ L h' m → News h₀ L h' news → Q (.int (compE d x) t) { s with heap := h', toks := tk' }) :
    wpAny (model P3 w) A (call (.ref 380) [.int x t, .int d u]) Q E s := by
  unfold Site P3 at *; 
  obtain ⟨dp, un, gd, cn, cs, a, ccd, cl, outer, A₀, rfl, B, F, X, N, T, hk, hdp, hun⟩ := S
  revert X; k_fill; intro X
  refine wpAny_call ?_
  k_dflt cell_enter
  k_steps
  · exact retI ret ((if_pos (by assumption)).symm.trans (kept_eq (by omega))) (by k_asm) (by k_asm)
  · exact retI ret ((if_neg (by assumption)).symm.trans (kept_eq (by omega))) (by k_asm) (by k_asm)
set_option maxRecDepth 100000 in
set_option maxHeartbeats 20000000 in
theorem at_ok {w : World} {mean : ExcName → Option Value} {mg mb : Str → Option Value} {A : Around} {base h₀ : Heap} {L : Addr} {m : Str → Option Value} {news : List (Addr × Obj)} {s : Shared} {Q E : Value → Shared → Prop} {i : Int} {u : Tok} {l : Addr} {vs : List Value} {ns : List Int}
    (S : Site 2 w mean mg mb A base h₀ L m news s) (hl : base.IsList l vs.toArray) (hi : IntsAre vs ns) (hlen : ns.length ≤ 63) (h1 : 0 ≤ i) (h2 : i ≤ 1000)
    (ret : ∀ t h' tk', Fr h₀ L h' m → News h₀ L h' news → Q (.int (at3 ns i) t) { s with heap := h', toks := tk' }) :
    wpAny (model P3 w) A (call (.ref 373) [.ref l, .int i u]) Q E s := by
  unfold Site P3 at *; 
  obtain ⟨dp, un, gd, cn, cs, a, ccd, cl, outer, A₀, rfl, B, F, X, N, T, hk, hdp, hun⟩ := S
  revert X; k_fill; intro X
  refine wpAny_call ?_
  k_dflt cell_enter
  k_steps
  · exact retI ret (if_pos (by assumption)).symm (by k_asm) (by k_asm)
  · exact retI ret (if_neg (by assumption)).symm (by k_asm) (by k_asm)

end
section
def BackP (d y z : Int) (n : Nat) : Prop := (1 ≤ d ∧ 0 ≤ y ∧ y < 2 ^ d.toNat) ∧ 0 ≤ z ∧ z ≤ decE d y ∧ decE d y < z + 2 ^ (12 - n)
theorem back_last {d y z : Int} {n : Nat} (hn : n = 12) (hP : BackP d y z n) : z = decE d y := by
  obtain ⟨_, _, p2, p3⟩ := hP
  subst hn
  have : (2 : Int) ^ (12 - 12) = 1 := by decide
  omega
theorem back_yes {d y z k : Int} {pre : List Int} (hk : k = 0 + (pre.length : Int)) (hn : pre.length < 12) (hP : 0 ≤ z ∧ z ≤ 4096 ∧ BackP d y z pre.length)
    (hc : 2 ^ d.toNat * (2 * (z + 2 ^ (11 - k).toNat) - 1) ≤ 6658 * y) : 0 ≤ z + 2 ^ (11 - k).toNat ∧ z + 2 ^ (11 - k).toNat ≤ 4096 ∧ BackP d y (z + 2 ^ (11 - k).toNat) (pre ++ [k]).length := by
  obtain ⟨_, _, ⟨hd, y0, y1⟩, p1, p2, p3⟩ := hP
  have h := (back_turn (y := y) hd (show k = (pre.length : Int) by omega) hn p1 p2 p3).1 hc
  have hz := back_start hd y0 y1
  rw [List.length_append]
  exact ⟨h.1, by omega, ⟨hd, y0, y1⟩, h⟩
theorem back_no {d y z k : Int} {pre : List Int} (hk : k = 0 + (pre.length : Int)) (hn : pre.length < 12) (hP : 0 ≤ z ∧ z ≤ 4096 ∧ BackP d y z pre.length)
    (hc : ¬ 2 ^ d.toNat * (2 * (z + 2 ^ (11 - k).toNat) - 1) ≤ 6658 * y) : 0 ≤ z ∧ z ≤ 4096 ∧ BackP d y z (pre ++ [k]).length := by
  obtain ⟨q1, q2, ⟨hd, y0, y1⟩, p1, p2, p3⟩ := hP
  have h := (back_turn (y := y) hd (show k = (pre.length : Int) by omega) hn p1 p2 p3).2 hc
  rw [List.length_append]
  exact ⟨q1, q2, ⟨hd, y0, y1⟩, h⟩
theorem back_first {d y : Int} (hd : 1 ≤ d) (h0 : 0 ≤ y) (h1 : y < 2 ^ d.toNat) : 0 ≤ (0 : Int) ∧ (0 : Int) ≤ 4096 ∧ BackP d y 0 ([] : List Int).length := ⟨Int.le_refl _, by decide, ⟨hd, h0, h1⟩, Int.le_refl _, (back_start hd h0 h1).1, (back_start hd h0 h1).2⟩
set_option maxRecDepth 100000 in
set_option maxHeartbeats 1000000 in
theorem back_ok {w : World} {mean : ExcName → Option Value} {mg mb : Str → Option Value} {A : Around} {base h₀ : Heap} {L : Addr} {m : Str → Option Value} {news : List (Addr × Obj)} {s : Shared} {Q E : Value → Shared → Prop} {y d : Int} {t u : Tok}
    (S : Site 2 w mean mg mb A base h₀ L m news s) (h1 : 1 ≤ d) (h2 : d ≤ 40) (hy0 : 0 ≤ y) (hy1 : y < 2 ^ d.toNat)
    (ret : ∀ t h' tk', Fr h₀ L h' m → News h₀ L h' news → Q (.int (decE d y) t) { s with heap := h', toks := tk' }) :
    wpAny (model P3 w) A (call (.ref 387) [.int y t, .int d u]) Q E s := by
  unfold Site P3 at *; 
  obtain ⟨dp, un, gd, cn, cs, a, ccd, cl, outer, A₀, rfl, B, F, X, N, T, hk, hdp, hun⟩ := S
  revert X; k_fill; intro X
  have hst := back_first h1 hy0 hy1
  clear hy0 hy1
  k_with "state" => first | assumption | exact back_yes (by assumption) (by assumption) ⟨by assumption, by assumption, by assumption⟩ (by assumption) | exact back_no (by assumption) (by assumption) ⟨by assumption, by assumption, by assumption⟩ (by assumption)
  k_with "pyIter ref" => k_state_given ["y", "d"] (fun y d pre z => 0 ≤ z ∧ z ≤ 4096 ∧ BackP d y z pre.length) "z"
  refine wpAny_call ?_
  k_dflt cell_enter
  repeat' (first | (k_unfold; (try dsimp only)) | (k_end; wrow_close) | ((try dsimp only); walk1) | (leave1; (try dsimp only)))
  all_goals (refine retI ret ?_ (by k_asm) (by k_asm))
  (rename BackP _ _ _ _ => hB)
  exact back_last (rangeKs_length _ _) hB

end
section
local macro_rules | `(tactic| bits_by_make) => `(tactic| assumption)
local macro_rules | `(tactic| k_mem) => `(tactic| first | (with_reducible assumption) | assumption | exact List.mem_cons_self | (refine' List.mem_cons_of_mem _ ?_; k_mem))
local macro_rules | `(tactic| k_upd) => `(tactic| k_extra "upd")
set_option maxRecDepth 100000 in
set_option maxHeartbeats 20000000 in
theorem compE_ok {w : World} {mean : ExcName → Option Value} {mg mb : Str → Option Value} {A : Around} {base h₀ : Heap} {L : Addr} {m : Str → Option Value} {news : List (Addr × Obj)} {s : Shared} {Q E : Value → Shared → Prop}
    {x : Addr} {t u : Tok} {z d : Int}
    (S : Site 2 w mean mg mb A base h₀ L m news s) (h0 : 0 ≤ d) (h1 : d ≤ 40) (hb : Builtin.Int.intBits z ≤ 2097152)
    (ret : ∀ t h' tk', Fr h₀ L h' m → News h₀ L h' news → Q (.int (compE d z) t) { s with heap := h', toks := tk' }) :
    wpAny (model P3 w) A (call (.ref 254) [.ref x, .int z t, .int d u]) Q E s := by
  unfold Site P3 at *; 
  obtain ⟨dp, un, gd, cn, cs, a, ccd, cl, outer, A₀, rfl, B, F, X, N, T, hk, hdp, hun⟩ := S
  revert X; k_fill; intro X
  refine wpAny_call ?_
  k_dflt cell_enter
  k_steps
  all_goals (exact retI ret rfl (by k_asm) (by k_asm))
set_option maxRecDepth 100000 in
set_option maxHeartbeats 20000000 in
theorem decE_ok {w : World} {mean : ExcName → Option Value} {mg mb : Str → Option Value} {A : Around} {base h₀ : Heap} {L : Addr} {m : Str → Option Value} {news : List (Addr × Obj)} {s : Shared} {Q E : Value → Shared → Prop}
    {x : Addr} {t u : Tok} {z d : Int}
    (S : Site 2 w mean mg mb A base h₀ L m news s) (h0 : 1 ≤ d) (h1 : d ≤ 40) (hb : Builtin.Int.intBits z ≤ 2097152)
    (ret : ∀ t h' tk', Fr h₀ L h' m → News h₀ L h' news → Q (.int (decE d z) t) { s with heap := h', toks := tk' }) :
    wpAny (model P3 w) A (call (.ref 261) [.ref x, .int z t, .int d u]) Q E s := by
  unfold Site P3 at *; 
  obtain ⟨dp, un, gd, cn, cs, a, ccd, cl, outer, A₀, rfl, B, F, X, N, T, hk, hdp, hun⟩ := S
  revert X; k_fill; intro X
  refine wpAny_call ?_
  k_dflt cell_enter
  k_steps
  all_goals (exact retI ret rfl (by k_asm) (by k_asm))
local macro_rules | `(tactic| tb_start) => `(tactic| exact Site.of (by k_asm) (by k_asm) (by k_asm) (by k_asm) (by k_asm) (by first | rfl | assumption) (by ktr_room) (by ktr_units))
local macro_rules | `(tactic| walk_at "call ref") => `(tactic| (k_here; k_dflt (refine' compE_ok ?S ?h0 ?h1 ?hb ?_; (case S => tb_start); (case h0 => assumption); (case h1 => assumption); (case hb => first | assumption | ((rename ∀ z ∈ _, Builtin.Int.intBits z ≤ _ => hb9); exact hb9 _ (by assumption))); k_whole; intro t9 h9 tk9 F9 N9; (try dsimp only); (try k_fold))))
local macro_rules | `(tactic| walk_at "call ref") => `(tactic| (k_here; k_dflt (refine' decE_ok ?S ?h0 ?h1 ?hb ?_; (case S => tb_start); (case h0 => assumption); (case h1 => assumption); (case hb => first | assumption | ((rename ∀ z ∈ _, Builtin.Int.intBits z ≤ _ => hb9); exact hb9 _ (by assumption))); k_whole; intro t9 h9 tk9 F9 N9; (try dsimp only); (try k_fold))))
set_option maxRecDepth 100000 in
set_option maxHeartbeats 20000000 in
theorem comp_ok {w : World} {mean : ExcName → Option Value} {mg mb : Str → Option Value} {A : Around} {base h₀ : Heap} {L : Addr} {m : Str → Option Value} {news : List (Addr × Obj)} {s : Shared} {Q E : Value → Shared → Prop}
    {C x dx ring l : Addr} {t1 t2 u : Tok} {vs : List Value} {ns : List Int} {nn : Nat} {d : Int} {news' : Obj → List (Addr × Obj)}
    (S : Site 4 w mean mg mb A base h₀ L m news s) (hC : C = 288 ∨ C = 364) (hx : (x, instObj C dx) ∈ news) (hdx : (dx, polyD w.params t1 t2 ring l) ∈ news) (hl : (l, listOf vs.toArray nn) ∈ news) (hi : IntsAre vs ns)
    (h0 : 0 ≤ d) (h1 : d ≤ 40) (hb : ∀ z ∈ ns, Builtin.Int.intBits z ≤ 2097152) (hlen : ns.length ≤ 100)
    (hUF : UpdF dx (polyD w.params t1 t2 ring l) news news')
    (ret : ∀ h' tk' l' vs' nn', Fr h₀ L h' m → News h₀ L h' ((l', listOf vs'.toArray nn') :: news' (polyD w.params t1 t2 ring l')) → LCg.Off1 l' news → IntsAre vs' (ns.map (compE d)) → Q (.ref x) { s with heap := h', toks := tk' }) :
    wpAny (model P3 w) A (call (.ref 266) [.ref x, .int d u]) Q E s := by
  unfold Site P3 at *; 
  obtain ⟨dp, un, gd, cn, cs, a, ccd, cl, outer, A₀, rfl, B, F, X, N, T, hk, hdp, hun⟩ := S
  revert X; k_fill; intro X
  refine wpAny_call ?_
  k_dflt (refine' code_defC ?k1 ?k2 ?k3 ?k4 ?k5 ?kA ?kF ?kK ?k6 ?k7 ?k8 ?k9 ?kB ?kD ?_ ?c2 ?c3 ?c4; (case kA => exact rfl); (case kF => exact rfl); (case kK => assumption); (case k1 => k_asm); (case k2 => k_asm); (case k3 => k_asm); (case k4 => k_asm); (case k5 => k_asm); (case k6 => k_is); (case k7 => k_is); (case k8 => ktr_room); (case k9 => first | exact BindsTo.of_eq rfl | exact binds_K (by k_in) rfl (by k_is) rfl rfl rfl); (case kB => exact rfl); (case kD => decide +kernel); (case c2 => exact rfl); (case c3 => exact rfl); (case c4 => exact rfl); k_whole; intro g' L' h' tk' cells' FG' F' N' Y' B' X' T' l1; (try k_lt l1); k_cells Y'; (try simp only [List.cons_append, List.nil_append] at N'); (try dsimp only); (try k_lift B'); (try k_fold))
  have hU := fun l' => updF_upd hUF (polyD w.params t1 t2 ring l')
  have hdL := ltN (l1 _ hdx)
  dsimp only at hdL
  rcases hC with rfl | rfl
  all_goals (
    k_steps
    rename (_ ≠ _ ∧ _ ≠ _ ∧ LCg.Off1 _ _) => o9
    have hn9 := neN (off1_mem o9.2.2 hdx)
    k_with "upd" => (refine' Upd.tail ?a1 (Upd.tail ?a2 (Upd.tail ?a3 (hU _))); (case a1 => k_ne); (case a2 => k_ne); (case a3 => k_ne))
    walk1
    k_steps)
  all_goals (
    (rename (_ ≠ _ ∧ _ ≠ _ ∧ LCg.Off1 _ _) => o9)
    (rename News h₀ _ _ (_ :: _) => N9)
    exact ret _ _ _ _ _ (by k_asm) (cb_drop N9 sub3) o9.2.2 (by assumption))
set_option maxRecDepth 100000 in
set_option maxHeartbeats 20000000 in
theorem dec_ok {w : World} {mean : ExcName → Option Value} {mg mb : Str → Option Value} {A : Around} {base h₀ : Heap} {L : Addr} {m : Str → Option Value} {news : List (Addr × Obj)} {s : Shared} {Q E : Value → Shared → Prop}
    {C x dx ring l : Addr} {t1 t2 u : Tok} {vs : List Value} {ns : List Int} {nn : Nat} {d : Int} {news' : Obj → List (Addr × Obj)}
    (S : Site 4 w mean mg mb A base h₀ L m news s) (hC : C = 288 ∨ C = 364) (hx : (x, instObj C dx) ∈ news) (hdx : (dx, polyD w.params t1 t2 ring l) ∈ news) (hl : (l, listOf vs.toArray nn) ∈ news) (hi : IntsAre vs ns)
    (h0 : 1 ≤ d) (h1 : d ≤ 40) (hb : ∀ z ∈ ns, Builtin.Int.intBits z ≤ 2097152) (hlen : ns.length ≤ 100)
    (hUF : UpdF dx (polyD w.params t1 t2 ring l) news news')
    (ret : ∀ h' tk' l' vs' nn', Fr h₀ L h' m → News h₀ L h' ((l', listOf vs'.toArray nn') :: news' (polyD w.params t1 t2 ring l')) → LCg.Off1 l' news → IntsAre vs' (ns.map (decE d)) → Q (.ref x) { s with heap := h', toks := tk' }) :
    wpAny (model P3 w) A (call (.ref 271) [.ref x, .int d u]) Q E s := by
  unfold Site P3 at *; 
  obtain ⟨dp, un, gd, cn, cs, a, ccd, cl, outer, A₀, rfl, B, F, X, N, T, hk, hdp, hun⟩ := S
  revert X; k_fill; intro X
  refine wpAny_call ?_
  k_dflt (refine' code_defC ?k1 ?k2 ?k3 ?k4 ?k5 ?kA ?kF ?kK ?k6 ?k7 ?k8 ?k9 ?kB ?kD ?_ ?c2 ?c3 ?c4; (case kA => exact rfl); (case kF => exact rfl); (case kK => assumption); (case k1 => k_asm); (case k2 => k_asm); (case k3 => k_asm); (case k4 => k_asm); (case k5 => k_asm); (case k6 => k_is); (case k7 => k_is); (case k8 => ktr_room); (case k9 => first | exact BindsTo.of_eq rfl | exact binds_K (by k_in) rfl (by k_is) rfl rfl rfl); (case kB => exact rfl); (case kD => decide +kernel); (case c2 => exact rfl); (case c3 => exact rfl); (case c4 => exact rfl); k_whole; intro g' L' h' tk' cells' FG' F' N' Y' B' X' T' l1; (try k_lt l1); k_cells Y'; (try simp only [List.cons_append, List.nil_append] at N'); (try dsimp only); (try k_lift B'); (try k_fold))
  have hU := fun l' => updF_upd hUF (polyD w.params t1 t2 ring l')
  have hdL := ltN (l1 _ hdx)
  dsimp only at hdL
  rcases hC with rfl | rfl
  all_goals (
    k_steps
    rename (_ ≠ _ ∧ _ ≠ _ ∧ LCg.Off1 _ _) => o9
    have hn9 := neN (off1_mem o9.2.2 hdx)
    k_with "upd" => (refine' Upd.tail ?a1 (Upd.tail ?a2 (Upd.tail ?a3 (hU _))); (case a1 => k_ne); (case a2 => k_ne); (case a3 => k_ne))
    walk1
    k_steps)
  all_goals (
    (rename (_ ≠ _ ∧ _ ≠ _ ∧ LCg.Off1 _ _) => o9)
    (rename News h₀ _ _ (_ :: _) => N9)
    exact ret _ _ _ _ _ (by k_asm) (cb_drop N9 sub3) o9.2.2 (by assumption))

end
section
local macro_rules | `(tactic| k_mem) => `(tactic| first | (with_reducible assumption) | assumption | exact List.mem_cons_self | (refine' List.mem_cons_of_mem _ ?_; k_mem))
local macro_rules | `(tactic| walk_at "call builtin:len") => `(tactic| (k_here; (with_reducible show wpAny _ _ (call (Value.builtin "len") [Value.ref _]) _ _ _); k_dflt (refine' kst_len ?k1 ?k2 rfl ?k4 ?_; (case k1 => k_asm); (case k2 => k_mem); (case k4 => omega); k_whole)))
abbrev ringD (P : Params) (t1 t2 t3 t4 : Tok) (q n : Int) : Obj := dictOf [⟨PyData.keyHash P (Str.ofString "q"), .str (Str.ofString "q") t1, .int q t3⟩, ⟨PyData.keyHash P (Str.ofString "n"), .str (Str.ofString "n") t2, .int n t4⟩] 2
set_option maxRecDepth 100000 in
set_option maxHeartbeats 20000000 in
theorem parse_ok {w : World} {mean : ExcName → Option Value} {mg mb : Str → Option Value} {A : Around} {base h₀ : Heap} {L : Addr} {m : Str → Option Value} {news : List (Addr × Obj)} {s : Shared} {Q E : Value → Shared → Prop}
    {C x dx ring rdx l : Addr} {t0 t1 t2 t3 t4 : Tok} {vs : List Value} {nn : Nat} {q n : Int}
    (S : Site 2 w mean mg mb A base h₀ L m news s) (hC : C = 288 ∨ C = 364) (hx : (x, instObj C dx) ∈ news) (hdx : (dx, dictOf [⟨PyData.keyHash w.params (Str.ofString "parent"), .str (Str.ofString "parent") t0, .ref ring⟩] 1) ∈ news)
    (hr : (ring, instObj 59 rdx) ∈ news) (hrd : (rdx, ringD w.params t1 t2 t3 t4 q n) ∈ news) (hl : (l, listOf vs.toArray nn) ∈ news) (hn : (vs.length : Int) = n) (hsz : n ≤ 100)
    (ret : ∀ h' tk', Fr h₀ L h' m → News h₀ L h' news → Q (.ref l) { s with heap := h', toks := tk' }) :
    wpAny (model P3 w) A (call (.ref 96) [.ref x, .ref l]) Q E s := by
  unfold Site P3 at *; 
  obtain ⟨dp, un, gd, cn, cs, a, ccd, cl, outer, A₀, rfl, B, F, X, N, T, hk, hdp, hun⟩ := S
  revert X; k_fill; intro X
  refine wpAny_call ?_
  k_dflt cell_enter
  rcases hC with rfl | rfl
  all_goals (
    repeat' (first | (k_unfold; (try dsimp only)) | (k_end; wrow_close) | ((try dsimp only); walk1) | (leave1; (try dsimp only))))
  all_goals (exact ret _ _ (by k_asm) (by k_asm))
local macro_rules | `(tactic| tb_start) => `(tactic| exact Site.of (by k_asm) (by k_asm) (by k_asm) (by k_asm) (by k_asm) (by first | rfl | assumption) (by first | ((try simp only [depth_under_make, depth_under_kw, depth_in1, depth_deeper, depth_caller]); (try dsimp only [ktrTop]); omega) | ktr_room) (by first | ((have hcL9 := cLine_is); (try simp only [units_under_make, units_in1, units_deeper, Around.mark_units, units_caller]); (try dsimp only [ktrTop]); omega) | ktr_units))
local macro_rules | `(tactic| walk_at "call ref") => `(tactic| (k_here; k_dflt (refine' parse_ok ?S ?hC ?hx ?hdx ?hr ?hrd ?hl ?hn ?hsz ?_; (case S => tb_start); (case hx => k_mem); (case hC => first | exact .inl rfl | exact .inr rfl); (case hdx => k_mem); (case hr => k_mem); (case hrd => k_mem); (case hl => k_mem); (case hn => assumption); (case hsz => assumption); k_whole; intro h9 tk9 F9 N9; (try dsimp only); (try k_fold))))
set_option maxRecDepth 100000 in
set_option maxHeartbeats 20000000 in
theorem poly_ok {w : World} {mean : ExcName → Option Value} {mg mb : Str → Option Value} {A : Around} {base h₀ : Heap} {L : Addr} {m : Str → Option Value} {news : List (Addr × Obj)} {s : Shared} {Q E : Value → Shared → Prop}
    {C ring rdx l : Addr} {t1 t2 t3 t4 : Tok} {vs : List Value} {nn : Nat} {q n : Int}
    (S : Site 6 w mean mg mb A base h₀ L m news s) (hC : C = 288 ∨ C = 364) (hr : (ring, instObj 59 rdx) ∈ news) (hrd : (rdx, ringD w.params t1 t2 t3 t4 q n) ∈ news) (hl : (l, listOf vs.toArray nn) ∈ news) (hn : (vs.length : Int) = n) (hsz : n ≤ 100)
    (ret : ∀ h' tk' x dx t1 t2, Fr h₀ L h' m → News h₀ L h' ((x, instObj C dx) :: (dx, polyD w.params t1 t2 ring l) :: news) → (∀ p ∈ news, p.1 < dx) → dx < x → Q (.ref x) { s with heap := h', toks := tk' }) :
    wpAny (model P3 w) A (call (.ref C) [.ref ring, .ref l]) Q E s := by
  unfold Site P3 at *; 
  obtain ⟨dp, un, gd, cn, cs, a, ccd, cl, outer, A₀, rfl, B, F, X, N, T, hk, hdp, hun⟩ := S
  revert X; k_fill; intro X
  rcases hC with rfl | rfl
  all_goals (
    k_dflt (refine' call_cls ?k1 ?k2 ?k3 ?k4 ?k5 ?k6 ?_; (case k1 => k_asm); (case k2 => k_asm); (case k3 => k_asm); (case k4 => k_is); (case k5 => k_is); (case k6 => k_is); k_whole; intro x' d' h' F' N' l1 l2; (try k_lt l1); (try k_lt2 l2); (try k_sweep))
    k_dflt cell_enter
    repeat' (first | (k_unfold; (try dsimp only)) | (k_end; wrow_close) | ((try dsimp only); walk1) | (leave1; (try dsimp only)))
    exact ret _ _ _ _ _ _ (by k_asm) (by k_asm) l1 l2)

end

end Mine
end
section
open PySem PySem.W PySem.Spec PySem.Calls PyProof.Rows
namespace Mine
section
variable {M : Model} {A : Around} {E : Value → Shared → Prop} {s : Shared}

theorem setFlight_any {base : Heap} {l : List Env} {e : Addr} {cls a0 fl : Value} {f : Option Addr} {Q : Unit → Shared → Prop}
    (hkb : base.StaysIn s.heap) (hl : s.heap.FunFrames base l) (ht : s.heap.TracedAtW base e cls a0 fl)
    (h : ∀ h' fl', base.StaysIn h' → h'.FunFrames base l → h'.TracedAtW base e cls a0 fl' → s.heap.UpToSlots h' → Q () { s with heap := h' }) : wpAny M A (setFlight (.ref e) f) Q E s := by
  obtain ⟨oe, vs, T, oT, ts, he, hc, hd, h1, hnT, hTe, hT, hdT, h3⟩ := ht
  have hsz : 3 < ts.size := (Array.getElem?_eq_some_iff.mp h3).1
  have other : ∀ (g : Obj → Obj) b, b ≠ T → (s.heap.update T g).get? b = s.heap.get? b := fun g b hb => Heap.get?_update_other _ _ (Ne.symm hb)
  have noRec : ∀ b o, s.heap.get? b = some o → (∀ vs, o.data ≠ .fields vs) → b ≠ T := fun b o hb hn q => by
    rw [q, hT] at hb
    exact hn ts ((Option.some.inj hb) ▸ hdT)
  unfold setFlight
  refine wpAny_bind (wpAny_field he hd h1 ?_)
  rw [if_pos (show (Value.ref T != Value.none) = true from by simp)]
  refine wpAny_setField hT hdT hsz (h _ (f.elim .none fun f => rawInt f) (fun b o hb => (other _ b fun q => by rw [q, hnT] at hb; cases hb).trans (hkb b o hb)) (hl.of_keeps fun b o hb hn => ⟨o, (other _ b (noRec b o hb hn)).trans hb, rfl⟩)
    ⟨oe, vs, T, _, _, (other _ e (Ne.symm hTe)).trans he, hc, hd, h1, hnT, hTe, Heap.get?_update_self _ hT (Obj.isFreed_of_fields (Obj.data_mapFields hdT _)), Obj.data_mapFields hdT _, by simp [hsz]⟩
    fun b o hb hn => ⟨o.slots, (other _ b (noRec b o hb hn)).trans hb⟩)

theorem passOn_any {α : Type} {base : Heap} {l : List Env} {e : Addr} {cls a0 fl : Value} {what : String} {env : Env} {Q : α → Shared → Prop}
    (hkb : base.StaysIn s.heap) (hl : s.heap.FunFrames base l) (ht : s.heap.TracedAtW base e cls a0 fl)
    (h : ∀ h' fl', base.StaysIn h' → h'.FunFrames base l → h'.TracedAtW base e cls a0 fl' → s.heap.UpToSlots h' → E (.ref e) { s with heap := h' }) : wpAny M A (PySem.passOn what (.ref e) env : Sem α) Q E s := by
  have ht' := ht
  obtain ⟨oe, vs, T, oT, ts, he, hc, hd, h1, hnT, hTe, hT, hdT, h3⟩ := ht
  unfold PySem.passOn
  refine wpAny_bind (wpAny_field he hd h1 ?_)
  rw [if_neg (show ¬ (Value.ref T == Value.none) = true from by simp)]
  exact wpAny_bind (setFlight_any hkb hl ht' fun h' fl' k1 k2 k3 k4 => wpAny_throw (h h' fl' k1 k2 k3 k4))

theorem leaves_any {base : Heap} {env : Env} {outer : List Env} {L e : Addr} {cls a0 fl : Value} {Q : Unit → Shared → Prop}
    (hfr : A.frames = some (env :: outer)) (hf : env.frame = some L) (hen : base.get? e = none)
    (hkb : base.StaysIn s.heap) (hl : s.heap.FunFrames base (env :: outer)) (ht : s.heap.TracedAtW base e cls a0 fl)
    (hQ : ∀ h', Heap.FlyingW base outer e cls a0 h' → s.heap.UpToSlots h' → Q () { s with heap := h' }) : wpAny M A (leaving env (.ref e)) Q E s := by
  unfold leaving
  have land : ∀ h₁, Heap.HeldW base (env :: outer) e cls a0 L h₁ → s.heap.UpToSlots h₁ → wpAny M A (setFlight (.ref e) none) Q E { s with heap := h₁ } := fun h₁ hh up =>
    wpAny_landsW hh fun h' hfl up' => by
      obtain ⟨k1, k2, ⟨_, _, k3⟩, k4⟩ := hfl
      exact hQ h' ⟨k1, k2, k3, k4⟩ (up.trans up')
  by_cases hfl : fl = rawInt L
  · subst hfl
    exact wpAny_bind (wpAny_noteFrame_againW hf ht (land s.heap ⟨hkb, hen, hl, ht⟩ (.refl _)))
  · refine wpAny_bind ?_
    obtain ⟨oe, vs, T, oT, ts, he, ⟨hcls, h0⟩, hd, h1, hnT, hTe, hT, hdT, h3⟩ := ht
    subst hcls
    have other : ∀ (g : Obj → Obj) b, b ≠ T → (s.heap.update T g).get? b = s.heap.get? b := fun g b hb => Heap.get?_update_other _ _ (Ne.symm hb)
    have noRec : ∀ b o, s.heap.get? b = some o → (∀ vs, o.data ≠ .fields vs) → b ≠ T := fun b o hb hn q => by
      rw [q, hT] at hb
      exact hn ts ((Option.some.inj hb) ▸ hdT)
    unfold noteFrame
    simp only [hf]
    refine wpAny_bind (wpAny_field he hd h1 ?_)
    rw [if_pos (show (Value.ref T != Value.none) = true from by simp)]
    refine wpAny_bind (wpAny_field hT hdT h3 ?_)
    rw [if_neg (show ¬ (fl == rawInt L) = true from fun q => hfl (eq_of_beq q))]
    refine wpAny_bind (wpAny_setField hT hdT (Array.getElem?_eq_some_iff.mp h3).1 ?_)
    refine wpAny_entryW hfr (hl.of_keeps fun b o hb hn => ⟨o, (other _ b (noRec b o hb hn)).trans hb, rfl⟩) hf ((other _ e (Ne.symm hTe)).trans he)
      (fun b o hb => (other _ b fun q => by rw [q, hnT] at hb; cases hb).trans (hkb b o hb)) hen hd (Array.getElem?_eq_some_iff.mp h1).1 h0 fun h' hN => ?_
    obtain ⟨x1, x2, x3, x4⟩ := hN
    exact land h' ⟨x1, hen, x2, x3⟩ fun b o hb hn => x4 b o ((other _ b (noRec b o hb hn)).trans hb) hn

/-- what stands once a frame's comprehension lets the exception through -/
def Thrown (base : Heap) (l : List Env) (e : Addr) (cls : Value) (news : List (Addr × Obj)) (h : Heap) : Prop :=
  ∃ B a0 fl, base.StaysIn B ∧ (∀ q ∈ news, B.get? q.1 = some q.2 ∧ base.get? q.1 = none) ∧ B.StaysIn h ∧ B.get? e = none ∧ h.FunFrames B l ∧ h.TracedAtW B e cls a0 fl

theorem thrown_leaves {base : Heap} {env : Env} {outer : List Env} {L e : Addr} {cls : Value} {news : List (Addr × Obj)} {Q : Unit → Shared → Prop}
    (hfr : A.frames = some (env :: outer)) (hf : env.frame = some L) (T : Thrown base (env :: outer) e cls news s.heap)
    (hQ : ∀ h', RaisedN base outer e cls news h' → s.heap.UpToSlots h' → Q () { s with heap := h' }) : wpAny M A (leaving env (.ref e)) Q E s := by
  obtain ⟨B, a0, fl, k1, k2, k3, k4, k5, k6⟩ := T
  exact leaves_any hfr hf k4 k3 k5 k6 fun h' hfl up => hQ h' ⟨B, a0, k1, k2, hfl⟩ up

theorem funFrames_but {B B' h₁ h₂ : Heap} (k1 : ∀ b, B.get? b = none → h₂.get? b = h₁.get? b) (k2 : ∀ b, B.get? b = none → B'.get? b = none) : ∀ {l : List Env}, h₁.FunFrames B l → h₂.FunFrames B' l
  | [], _ => trivial
  | _ :: _, ⟨hk, ⟨L, o, hf, hn, ho, hd⟩, hr⟩ => ⟨hk, ⟨L, o, hf, k2 L hn, (k1 L hn).trans ho, hd⟩, funFrames_but k1 k2 hr⟩
/-- an element of a comprehension raised: the comprehension's frame note, its variables let go, and on -/
theorem comp_thrown {base : Heap} {env cenv : Env} {outer : List Env} {L e C D : Addr} {oC : Obj} {m₂ : Str → Option Value} {cls : Value} {news news' : List (Addr × Obj)} {Q : Value → Shared → Prop}
    (hfr : A.frames = some (env :: outer)) (hf : env.frame = some L) (hcf : cenv.frame = env.frame) (R : RaisedN base (env :: outer) e cls news s.heap) (hC : (C, oC) ∈ news) (hoC : LCg.NsObj oC m₂)
    (hn : ∀ q ∈ news', q ∈ news ∧ q.1 ≠ C)
    (hE : ∀ h'', Thrown base (env :: outer) e cls news' h'' → (∀ b o, b ≠ C → s.heap.get? b = some o → (∀ vs, o.data ≠ .fields vs) → ∃ sl, h''.get? b = some { o with slots := sl }) → E (.ref e) { s with heap := h'' }) :
    notedBy M A cenv (fun e s' => compPost M A E none Q (.ref D) C (.error e) s') (.ref e) s := by
  obtain ⟨B, a0, k1, k2, hfl⟩ := R
  have hN : noteFrame (.ref e) cenv = noteFrame (.ref e) env := by unfold noteFrame; first | (unfold PySem.frameOf; rw [hcf]) | (unfold PyProof.Rows.frameOf; rw [hcf])
  unfold notedBy
  rw [hN]
  refine wpAny_looks_onW hfr hf hfl fun h₁ hheld up₁ => ?_
  obtain ⟨f1, f2, f3, oe, vs, T, oT, ts, he, hc, hd, h1, hnT, hTe, hT, hdT, h3⟩ := hheld
  have hBC := (k2 _ hC).1
  refine ⟨m₂, hoC.ns (f1 _ _ hBC), fun h₂ hsb cenv' _ => ?_⟩
  have off : ∀ b, B.get? b = none → b ≠ C := fun b hb q => by rw [q, hBC] at hb; cases hb
  have same : ∀ b, B.get? b = none → h₂.get? b = h₁.get? b := fun b hb => hsb.2 b (off b hb)
  have hid : ∀ b, B.get? b = none → (B.hide C).get? b = none := fun b hb => by
    cases q : (B.hide C).get? b with
    | none => rfl
    | some o => have := Heap.of_hide q; rw [hb] at this; cases this
  refine passOn_any (base := B.hide C) (l := env :: outer) (e := e) (cls := cls) (a0 := a0) (fl := rawInt L) (fun b o hb => ?_) (funFrames_but same hid f3)
    ⟨oe, vs, T, oT, ts, (same e f2).trans he, hc, hd, h1, hid T hnT, hTe, (same T hnT).trans hT, hdT, h3⟩ fun h₃ fl' j1 j2 j3 j4 => ?_
  · have hbC : b ≠ C := fun q => by rw [q, Heap.hide_self] at hb; cases hb
    exact (hsb.2 b hbC).trans (f1 b o (Heap.of_hide hb))
  · refine hE h₃ ⟨B.hide C, a0, fl', fun b o hb => ?_, fun q hq => ⟨?_, (k2 q (hn q hq).1).2⟩, j1, hid e f2, j2, j3⟩ fun b o hbC hb hnf => ?_
    · have hbC : b ≠ C := fun q => by rw [q, (k2 _ hC).2] at hb; cases hb
      exact (Heap.hide_ne B hbC).trans (k1 b o hb)
    · exact (Heap.hide_ne B (hn q hq).2).trans (k2 q (hn q hq).1).1
    · obtain ⟨sl, e1⟩ := up₁ b o hb hnf
      have e2 : h₂.get? b = some { o with slots := sl } := (hsb.2 b hbC).trans e1
      obtain ⟨sl', e3⟩ := j4 b _ e2 hnf
      exact ⟨sl', e3⟩
end

end Mine
end
section
open PySem PySem.W PySem.Spec PySem.Calls PyProof.Rows
namespace Mine
/-- the list that a raising comprehension runs over -/
def RSrc (prog : Program) (w : World) (A : Around) (E : Value → Shared → Prop) (h₀ : Heap) (L : Addr) (m : Str → Option Value) (env : Env) (elt : Expr) (x : Str) (scope : Scope) (cl : List (Str × Addr)) (Q : Value → Shared → Prop) (xv : Value) (s₁ : Shared) : Prop :=
  ∃ (ax : Addr) (its : Array Value) (k : Nat) (news : List (Addr × Obj)) (v0 : Value), xv = .ref ax ∧ A.handled = none ∧ Fr h₀ L s₁.heap m ∧ News h₀ L s₁.heap news ∧ (ax, listOf its k) ∈ news ∧ its[0]? = some v0 ∧
      ∀ I oI C oC D m₂ h tk, LCg.NsObj oC m₂ → m₂ x = some v0 → Fr h₀ L h m → News h₀ L h ((I, oI) :: (C, oC) :: (D, LCg.lst []) :: news) → LCg.Off3 I C D news → I ≠ C → D ≠ C →
        wpAny (model prog w) A (eval elt (compEnvC scope cl C env)) (fun _ _ => False) (notedBy (model prog w) A (compEnvC scope cl C env) fun e s' => compPost (model prog w) A E none Q (.ref D) C (.error e) s') { s₁ with heap := h, toks := tk }
section
local macro_rules | `(tactic| tb_rel) => `(tactic| ((try unfold PySem.Addr at *); omega))
variable {prog : Program} {w : World} {A : Around} {E : Value → Shared → Prop} {s : Shared} {h₀ : Heap} {L : Addr} {m : Str → Option Value} {env : Env}
/-- a comprehension over a list that has a first item, whose element never comes back -/
theorem ListComp_raise {elt iter : Expr} {x : Str} {px : Pos} {scope : Scope} {cl : List (Str × Addr)} {pos : Pos} {Q : Value → Shared → Prop} 
    (hF0 : Fr h₀ L s.heap m) (hclos : closureFor scope env = pure cl) (hcell : ∀ y ∈ scope.names, y.2 ≠ .cell) (hkind : scope.kind = .function)
    (hnames : ∀ y ∈ scope.names, y.2 = .local → scope.names.lookup y.1 = some .local) (hx : scope.names.lookup x = some .local)
    (h : wpAny (model prog w) A (eval iter env) (RSrc prog w A E h₀ L m env elt x scope cl Q) E s)
    (hs : ∀ x, foldedSetIterable iter env x = pure x := by intro _; rfl) :
    wpAny (model prog w) A (eval (.ListComp elt [⟨.Name x px, iter, [], 0⟩] scope pos) env) Q E s := by
  rw [eval_ListComp]
  refine wpAny_comprehension_free (use := none) rfl hs hclos hkind hnames (wpAny_mono h (fun xv s₁ h₁ => ?_) fun _ _ e => e)
  obtain ⟨ax, its, k, news, v0, rfl, hh, F, N, hm, hi0, R⟩ := h₁
  have hax := (N _ hm).1
  have hlt : ax < s₁.heap.objs.size := Heap.lt_size hax
  refine wpAny_pyIter_list ⟨_, hax, rfl, k, rfl⟩ ?_
  refine wpAny_newObj_type (wpAny_newFunctionEnv hcell (by intro y hy; simp at hy) (fun h₁ hns hsb => ?_) hkind)
  dsimp only at hns hsb ⊢
  generalize hI : s₁.heap.objs.size = I at *
  generalize hH1 : s₁.heap.push { cls := .type "list_iterator", data := .fields #[.ref ax, .int 0 0] } = H1 at hns hsb ⊢
  have sH1 : H1.objs.size = I + 1 := by rw [← hH1, Heap.size_push, hI]
  generalize hH2 : H1.push { cls := .type "list", dict := none, data := .seq ([] : List Value).toArray } = H2 at hns hsb ⊢
  have sH2 : H2.objs.size = I + 1 + 1 := by rw [← hH2, Heap.size_push, sH1]
  rw [sH2] at hns hsb
  simp only [sH1, sH2]
  have up1 : ∀ b o, s₁.heap.get? b = some o → H1.get? b = some o := fun b o e => hH1 ▸ Heap.get?_push_of_some _ e
  have up2 : ∀ b o, H1.get? b = some o → H2.get? b = some o := fun b o e => hH2 ▸ Heap.get?_push_of_some _ e
  have up3 : ∀ b o, H2.get? b = some o → h₁.get? b = some o := fun b o e => hsb.extBut b o (fun q => by have := Heap.lt_size e; rw [sH2, q] at this; exact Nat.lt_irrefl _ this) (Heap.get?_push_of_some _ e)
  have old : ∀ b o, s₁.heap.get? b = some o → h₁.get? b = some o := fun b o e => up3 b o (up2 b o (up1 b o e))
  have hIt : h₁.get? I = some { cls := .type "list_iterator", data := .fields #[.ref ax, .int 0 0] } := up3 _ _ (up2 _ _ (by rw [← hH1, ← hI]; exact Heap.get?_push_size _ rfl))
  have hDt : h₁.get? (I + 1) = some (LCg.lst []) := up3 _ _ (by rw [← hH2, ← sH1]; exact Heap.get?_push_size _ rfl)
  have hLl : L < I := hI ▸ F.ns.lt
  have new₀ : ∀ a, I ≤ a → h₀.get? a = none := fun a ha => by
    cases q : h₀.get? a with
    | none => rfl
    | some o => exact absurd (Heap.lt_size (F.keep a o q)) (by rw [hI]; exact Nat.not_lt.mpr ha)
  have W := Walks.list (prog := prog) (w := w) hh I ax (Nat.ne_of_lt hlt) its
  have hst : h₁.IsListIter I ax 0 ∧ h₁.IsList ax its := ⟨⟨_, hIt, rfl, rfl⟩, ⟨_, old _ _ hax, rfl, k, rfl⟩⟩
  have hpos : 0 < its.size := (Array.getElem?_eq_some_iff.mp hi0).1
  have below : ∀ p ∈ news, p.1 < I := fun p hp => hI ▸ Heap.lt_size (N p hp).1
  have loop : ∀ s₃ : Shared, s₃ = { s₁ with heap := h₁, toks := s₁.toks + ([] : List (Str × Value)).length } →
      codeAny (model prog w) A (.compLoop (.ListComp elt [⟨.Name x px, iter, [], 0⟩] scope pos) 0 (.ref I) (.ref (I + 1)) (compEnvC scope cl (I + 1 + 1) env))
        (compPost (model prog w) A E none Q (.ref (I + 1)) (I + 1 + 1)) s₃ := by
    rintro s₃ rfl
    refine codeAny_compLoop_tests (fun _ s' => s' = { s₁ with heap := h₁, toks := s₁.toks + ([] : List (Str × Value)).length }) ?_ 0 rfl
    rintro n s' rfl
    refine W.item 0 _ _ _ hpos hst fun v h₂ tk₂ hv hst₂ hk₂ => ?_
    obtain rfl : v0 = v := by
      have hv' : its[0]? = some v := hv
      rw [hi0] at hv'
      exact Option.some.inj hv'
    have nI : ∀ b, b ≠ I → b ∉ [I] := fun b hb hm => hb (List.mem_singleton.mp hm)
    refine wpAny_assign_Name (wpAny_storeName_local (lookup_relabel_local hx) (hns.at' fun o e => hk₂ _ o (nI _ (by tb_rel)) e) (fun h₃ hn₃ hs₃ => ?_) (by simp [compEnvC, relabel, hkind]))
    refine wpAny_tests_nil ?_
    simp only [if_true]
    have st₃ : h₃.IsListIter I ax 1 ∧ h₃.IsList ax its := W.frame _ _ _ hst₂ fun b hb o e => hs₃.extBut b o (fun q => by
      have q' : b = I + 1 + 1 := q
      rw [q'] at hb
      rcases List.mem_cons.mp hb with z | z
      · tb_rel
      · have := List.mem_singleton.mp z; tb_rel) e
    obtain ⟨oI, heI, _⟩ := st₃.1
    obtain ⟨oC, heC, hoC⟩ := LCg.ns_obj hn₃
    have up : ∀ b o, b ≠ I → b ≠ I + 1 + 1 → h₁.get? b = some o → h₃.get? b = some o := fun b o hb hb2 e => hs₃.extBut b o hb2 (hk₂ b o (nI b hb) e)
    have F₃ : Fr h₀ L h₃ m := ⟨F.ns.at' fun o e => up L o (by tb_rel) (by tb_rel) (old L o e), fun b o e => up b o (fun q => by rw [q, new₀ I (Nat.le_refl _)] at e; cases e) (fun q => by rw [q, new₀ _ (by tb_rel)] at e; cases e) (old b o (F.keep b o e)), F.above⟩
    have N₃ : News h₀ L h₃ ((I, oI) :: (I + 1 + 1, oC) :: (I + 1, LCg.lst []) :: news) := fun p hp => by
      rcases List.mem_cons.mp hp with rfl | hp
      · exact ⟨heI, Nat.ne_of_gt hLl, new₀ _ (Nat.le_refl _)⟩
      · rcases List.mem_cons.mp hp with rfl | hp
        · exact ⟨heC, by show I + 1 + 1 ≠ L; tb_rel, new₀ _ (by show I ≤ I + 1 + 1; tb_rel)⟩
        · rcases List.mem_cons.mp hp with rfl | hp
          · exact ⟨up _ _ (by show I + 1 ≠ I; tb_rel) (by show I + 1 ≠ I + 1 + 1; tb_rel) hDt, by show I + 1 ≠ L; tb_rel, new₀ _ (by show I ≤ I + 1; tb_rel)⟩
          · have hb := below p hp
            exact ⟨up _ _ (Nat.ne_of_lt hb) (by have : p.1 < I := hb; tb_rel) (old _ _ (N p hp).1), (N p hp).2⟩
    refine wpAny_mono (R I oI (I + 1 + 1) oC (I + 1) _ h₃ _ hoC (by simp) F₃ N₃ (LCg.Off3.of fun p hp => ?_) (by tb_rel) (by tb_rel)) (fun _ _ f => f.elim) fun _ _ e => e
    have hb : p.1 < I := below p hp
    exact ⟨by tb_rel, by tb_rel, by tb_rel⟩
  exact codeAny_compStart_list (loop _ rfl) (W.self 0 _ _ _ hst (loop _ rfl))
end

end Mine
end
section
open PySem PySem.W PyProof.Rows
namespace Mine
section
local macro_rules | `(tactic| k_mem) => `(tactic| first | (with_reducible assumption) | assumption | exact List.mem_cons_self | (refine' List.mem_cons_of_mem _ ?_; k_mem))
set_option maxRecDepth 100000 in
set_option maxHeartbeats 20000000 in
theorem compE_raise {w : World} {mean : ExcName → Option Value} {mg mb : Str → Option Value} {base h₀ : Heap} {L : Addr} {m : Str → Option Value} {news : List (Addr × Obj)} {s : Shared} {Q E : Value → Shared → Prop}
    {dp un : Nat} {gd : Option (List Code)} {cn : Str} {cs : Scope} {a : Addr} {ccd : Value} {cl : List (Str × Addr)} {outer : List Env} {A₀ : Around} {x : Addr} {t u : Tok} {z d : Int}
    (B : Below A₀ base outer h₀) (F : Fr h₀ L s.heap m) (X : (hd.heap_39 w.params).In h₀) (N : News h₀ L s.heap news) (T : Top hd.view_39 (looseW hd.view_39 [Str.ofString "PolynomialNTT"]) mean mg mb h₀)
    (hk : cs.kind = .function) (hdp : dp + 2 < recursionLimit) (hun : un + 8 * 2 < cLine) (h0 : d < 0) (h1 : -10 ≤ d)
    (hE : ∀ e g h' tk', Fr h₀ L g m → g.UpToSlots h' → RaisedN base (envX cn cs L a ccd cl :: outer) e (.type "ValueError") news h' → E (.ref e) { s with heap := h', toks := tk' }) :
    wpAny (model P3 w) (ktrTop dp un gd cn cs L a ccd cl outer) (call (.ref 254) [.ref x, .int z t, .int d u]) Q E s := by
  unfold P3 at *
  revert X; k_fill; intro X
  refine wpAny_call ?_
  k_dflt cell_enter
  k_steps
  exact hE _ _ _ _ (by assumption) (by assumption) (by assumption)
set_option maxRecDepth 100000 in
set_option maxHeartbeats 20000000 in
theorem decE_raise {w : World} {mean : ExcName → Option Value} {mg mb : Str → Option Value} {base h₀ : Heap} {L : Addr} {m : Str → Option Value} {news : List (Addr × Obj)} {s : Shared} {Q E : Value → Shared → Prop}
    {dp un : Nat} {gd : Option (List Code)} {cn : Str} {cs : Scope} {a : Addr} {ccd : Value} {cl : List (Str × Addr)} {outer : List Env} {A₀ : Around} {x : Addr} {t u : Tok} {z d : Int}
    (B : Below A₀ base outer h₀) (F : Fr h₀ L s.heap m) (X : (hd.heap_39 w.params).In h₀) (N : News h₀ L s.heap news) (T : Top hd.view_39 (looseW hd.view_39 [Str.ofString "PolynomialNTT"]) mean mg mb h₀)
    (hk : cs.kind = .function) (hdp : dp + 2 < recursionLimit) (hun : un + 8 * 2 < cLine) (h0 : d ≤ 0) (h1 : -10 ≤ d)
    (hE : ∀ e g h' tk', Fr h₀ L g m → g.UpToSlots h' → RaisedN base (envX cn cs L a ccd cl :: outer) e (.type "ValueError") news h' → E (.ref e) { s with heap := h', toks := tk' }) :
    wpAny (model P3 w) (ktrTop dp un gd cn cs L a ccd cl outer) (call (.ref 261) [.ref x, .int z t, .int d u]) Q E s := by
  unfold P3 at *
  revert X; k_fill; intro X
  refine wpAny_call ?_
  k_dflt cell_enter
  k_steps
  exact hE _ _ _ _ (by assumption) (by assumption) (by assumption)
set_option maxRecDepth 100000 in
set_option maxHeartbeats 20000000 in
theorem comp_raise {w : World} {mean : ExcName → Option Value} {mg mb : Str → Option Value} {base h₀ : Heap} {L : Addr} {m : Str → Option Value} {news : List (Addr × Obj)} {s : Shared} {Q E : Value → Shared → Prop}
    {dp un : Nat} {gd : Option (List Code)} {cn : Str} {cs : Scope} {a : Addr} {ccd : Value} {cl : List (Str × Addr)} {outer : List Env} {A₀ : Around}
    {C x dx ring l : Addr} {t1 t2 u : Tok} {vs : List Value} {ns : List Int} {nn : Nat} {d : Int}
    (B : Below A₀ base outer h₀) (F : Fr h₀ L s.heap m) (X : (hd.heap_39 w.params).In h₀) (N : News h₀ L s.heap news) (T : Top hd.view_39 (looseW hd.view_39 [Str.ofString "PolynomialNTT"]) mean mg mb h₀)
    (hk : cs.kind = .function) (hdp : dp + 4 < recursionLimit) (hun : un + 8 * 4 < cLine)
    (hC : C = 288 ∨ C = 364) (hx : (x, instObj C dx) ∈ news) (hdx : (dx, polyD w.params t1 t2 ring l) ∈ news) (hl : (l, listOf vs.toArray nn) ∈ news) (hi : IntsAre vs ns) (hpos : 0 < ns.length)
    (h0 : d < 0) (h1 : -10 ≤ d)
    (hE : ∀ e g h' tk', Fr h₀ L g m → g.UpToSlots h' → RaisedN base (envX cn cs L a ccd cl :: outer) e (.type "ValueError") news h' → E (.ref e) { s with heap := h', toks := tk' }) :
    wpAny (model P3 w) (ktrTop dp un gd cn cs L a ccd cl outer) (call (.ref 266) [.ref x, .int d u]) Q E s := by
  unfold P3 at *
  revert X; k_fill; intro X
  obtain ⟨z, rest, rfl⟩ : ∃ z rest, ns = z :: rest := by
    cases ns with
    | nil => exact absurd hpos (by decide)
    | cons z r => exact ⟨z, r, rfl⟩
  obtain ⟨tz, hz⟩ := hi.get 0 z rfl
  refine wpAny_call ?_
  k_dflt (refine' code_defC ?k1 ?k2 ?k3 ?k4 ?k5 ?kA ?kF ?kK ?k6 ?k7 ?k8 ?k9 ?kB ?kD ?_ ?c2 ?c3 ?c4; (case kA => exact rfl); (case kF => exact rfl); (case kK => assumption); (case k1 => k_asm); (case k2 => k_asm); (case k3 => k_asm); (case k4 => k_asm); (case k5 => k_asm); (case k6 => k_is); (case k7 => k_is); (case k8 => ktr_room); (case k9 => first | exact BindsTo.of_eq rfl | exact binds_K (by k_in) rfl (by k_is) rfl rfl rfl); (case kB => exact rfl); (case kD => decide +kernel); (case c2 => exact rfl); (case c3 => exact rfl); (case c4 => exact rfl); k_whole; intro g' L' h' tk' cells' FG' F' N' Y' B' X' T' l1; (try k_lt l1); k_cells Y'; (try simp only [List.cons_append, List.nil_append] at N'); (try dsimp only); (try k_lift B'); (try k_fold))
  rcases hC with rfl | rfl
  · walk1
    walk1
    refine' ListComp_raise F' ?c1p ?c2p ?c3p ?c4p ?c5p ?hp ?hsp
    case hsp => (intro _; rfl)
    case c1p => exact rfl
    case c2p => decide
    case c3p => exact rfl
    case c4p => decide
    case c5p => exact rfl
    case hp =>
      repeat' (first | (k_unfold; (try dsimp only)) | ((try dsimp only); walk1))
      refine' ⟨l, vs.toArray, nn, _, .int z tz, rfl, rfl, F', N', ?hmp, ?h0p, ?_⟩
      case hmp => k_mem
      case h0p => simpa using hz
      intro I oI C9 oC D m₂ h9 tk9 hoC hm2 F9 N9 off ne1 ne2
      repeat' (first | (k_unfold; (try dsimp only)) | ((try dsimp only); walk1))
      refine' compE_raise ?qBp ?qFp ?qXp ?qNp ?qTp ?qkp ?qdp ?qup h0 h1 ?qEp
      case qBp => k_asm
      case qFp => k_asm
      case qXp => k_asm
      case qNp => k_asm
      case qTp => k_asm
      case qkp => rfl
      case qdp => ktr_room
      case qup => ktr_units
      case qEp =>
        intro e g2 h2 tk2 Fg up R
        refine comp_thrown (news' := news) rfl rfl rfl R (List.mem_cons_of_mem _ List.mem_cons_self) hoC (fun q hq => ⟨by simp [hq], (off.mem q (by simp [hq])).2.1⟩) fun h3 Th keep => ?_
        refine thrown_leaves rfl rfl Th fun h4 R4 up4 => ?_
        refine hE e g' h4 _ FG' (fun b o hb hn => ?_) R4
        have hbC : b ≠ C9 := fun q => by
          have := (N9 (C9, oC) (List.mem_cons_of_mem _ List.mem_cons_self)).2.2
          rw [q] at hb
          rw [hb] at this
          cases this
        obtain ⟨sl1, e1⟩ := up b o (Fg.keep b o hb) hn
        obtain ⟨sl2, e2⟩ := keep b _ hbC e1 hn
        obtain ⟨sl3, e3⟩ := up4 b _ e2 hn
        exact ⟨sl3, e3⟩
  · walk1
    walk1
    refine' ListComp_raise F' ?c1q ?c2q ?c3q ?c4q ?c5q ?hq ?hsq
    case hsq => (intro _; rfl)
    case c1q => exact rfl
    case c2q => decide
    case c3q => exact rfl
    case c4q => decide
    case c5q => exact rfl
    case hq =>
      repeat' (first | (k_unfold; (try dsimp only)) | ((try dsimp only); walk1))
      refine' ⟨l, vs.toArray, nn, _, .int z tz, rfl, rfl, F', N', ?hmq, ?h0q, ?_⟩
      case hmq => k_mem
      case h0q => simpa using hz
      intro I oI C9 oC D m₂ h9 tk9 hoC hm2 F9 N9 off ne1 ne2
      repeat' (first | (k_unfold; (try dsimp only)) | ((try dsimp only); walk1))
      refine' compE_raise ?qBq ?qFq ?qXq ?qNq ?qTq ?qkq ?qdq ?quq h0 h1 ?qEq
      case qBq => k_asm
      case qFq => k_asm
      case qXq => k_asm
      case qNq => k_asm
      case qTq => k_asm
      case qkq => rfl
      case qdq => ktr_room
      case quq => ktr_units
      case qEq =>
        intro e g2 h2 tk2 Fg up R
        refine comp_thrown (news' := news) rfl rfl rfl R (List.mem_cons_of_mem _ List.mem_cons_self) hoC (fun q hq => ⟨by simp [hq], (off.mem q (by simp [hq])).2.1⟩) fun h3 Th keep => ?_
        refine thrown_leaves rfl rfl Th fun h4 R4 up4 => ?_
        refine hE e g' h4 _ FG' (fun b o hb hn => ?_) R4
        have hbC : b ≠ C9 := fun q => by
          have := (N9 (C9, oC) (List.mem_cons_of_mem _ List.mem_cons_self)).2.2
          rw [q] at hb
          rw [hb] at this
          cases this
        obtain ⟨sl1, e1⟩ := up b o (Fg.keep b o hb) hn
        obtain ⟨sl2, e2⟩ := keep b _ hbC e1 hn
        obtain ⟨sl3, e3⟩ := up4 b _ e2 hn
        exact ⟨sl3, e3⟩
set_option maxRecDepth 100000 in
set_option maxHeartbeats 20000000 in
theorem dec_raise {w : World} {mean : ExcName → Option Value} {mg mb : Str → Option Value} {base h₀ : Heap} {L : Addr} {m : Str → Option Value} {news : List (Addr × Obj)} {s : Shared} {Q E : Value → Shared → Prop}
    {dp un : Nat} {gd : Option (List Code)} {cn : Str} {cs : Scope} {a : Addr} {ccd : Value} {cl : List (Str × Addr)} {outer : List Env} {A₀ : Around}
    {C x dx ring l : Addr} {t1 t2 u : Tok} {vs : List Value} {ns : List Int} {nn : Nat} {d : Int}
    (B : Below A₀ base outer h₀) (F : Fr h₀ L s.heap m) (X : (hd.heap_39 w.params).In h₀) (N : News h₀ L s.heap news) (T : Top hd.view_39 (looseW hd.view_39 [Str.ofString "PolynomialNTT"]) mean mg mb h₀)
    (hk : cs.kind = .function) (hdp : dp + 4 < recursionLimit) (hun : un + 8 * 4 < cLine)
    (hC : C = 288 ∨ C = 364) (hx : (x, instObj C dx) ∈ news) (hdx : (dx, polyD w.params t1 t2 ring l) ∈ news) (hl : (l, listOf vs.toArray nn) ∈ news) (hi : IntsAre vs ns) (hpos : 0 < ns.length)
    (h0 : d ≤ 0) (h1 : -10 ≤ d)
    (hE : ∀ e g h' tk', Fr h₀ L g m → g.UpToSlots h' → RaisedN base (envX cn cs L a ccd cl :: outer) e (.type "ValueError") news h' → E (.ref e) { s with heap := h', toks := tk' }) :
    wpAny (model P3 w) (ktrTop dp un gd cn cs L a ccd cl outer) (call (.ref 271) [.ref x, .int d u]) Q E s := by
  unfold P3 at *
  revert X; k_fill; intro X
  obtain ⟨z, rest, rfl⟩ : ∃ z rest, ns = z :: rest := by
    cases ns with
    | nil => exact absurd hpos (by decide)
    | cons z r => exact ⟨z, r, rfl⟩
  obtain ⟨tz, hz⟩ := hi.get 0 z rfl
  refine wpAny_call ?_
  k_dflt (refine' code_defC ?k1 ?k2 ?k3 ?k4 ?k5 ?kA ?kF ?kK ?k6 ?k7 ?k8 ?k9 ?kB ?kD ?_ ?c2 ?c3 ?c4; (case kA => exact rfl); (case kF => exact rfl); (case kK => assumption); (case k1 => k_asm); (case k2 => k_asm); (case k3 => k_asm); (case k4 => k_asm); (case k5 => k_asm); (case k6 => k_is); (case k7 => k_is); (case k8 => ktr_room); (case k9 => first | exact BindsTo.of_eq rfl | exact binds_K (by k_in) rfl (by k_is) rfl rfl rfl); (case kB => exact rfl); (case kD => decide +kernel); (case c2 => exact rfl); (case c3 => exact rfl); (case c4 => exact rfl); k_whole; intro g' L' h' tk' cells' FG' F' N' Y' B' X' T' l1; (try k_lt l1); k_cells Y'; (try simp only [List.cons_append, List.nil_append] at N'); (try dsimp only); (try k_lift B'); (try k_fold))
  rcases hC with rfl | rfl
  · walk1
    walk1
    refine' ListComp_raise F' ?c1p ?c2p ?c3p ?c4p ?c5p ?hp ?hsp
    case hsp => (intro _; rfl)
    case c1p => exact rfl
    case c2p => decide
    case c3p => exact rfl
    case c4p => decide
    case c5p => exact rfl
    case hp =>
      repeat' (first | (k_unfold; (try dsimp only)) | ((try dsimp only); walk1))
      refine' ⟨l, vs.toArray, nn, _, .int z tz, rfl, rfl, F', N', ?hmp, ?h0p, ?_⟩
      case hmp => k_mem
      case h0p => simpa using hz
      intro I oI C9 oC D m₂ h9 tk9 hoC hm2 F9 N9 off ne1 ne2
      repeat' (first | (k_unfold; (try dsimp only)) | ((try dsimp only); walk1))
      refine' decE_raise ?qBp ?qFp ?qXp ?qNp ?qTp ?qkp ?qdp ?qup h0 h1 ?qEp
      case qBp => k_asm
      case qFp => k_asm
      case qXp => k_asm
      case qNp => k_asm
      case qTp => k_asm
      case qkp => rfl
      case qdp => ktr_room
      case qup => ktr_units
      case qEp =>
        intro e g2 h2 tk2 Fg up R
        refine comp_thrown (news' := news) rfl rfl rfl R (List.mem_cons_of_mem _ List.mem_cons_self) hoC (fun q hq => ⟨by simp [hq], (off.mem q (by simp [hq])).2.1⟩) fun h3 Th keep => ?_
        refine thrown_leaves rfl rfl Th fun h4 R4 up4 => ?_
        refine hE e g' h4 _ FG' (fun b o hb hn => ?_) R4
        have hbC : b ≠ C9 := fun q => by
          have := (N9 (C9, oC) (List.mem_cons_of_mem _ List.mem_cons_self)).2.2
          rw [q] at hb
          rw [hb] at this
          cases this
        obtain ⟨sl1, e1⟩ := up b o (Fg.keep b o hb) hn
        obtain ⟨sl2, e2⟩ := keep b _ hbC e1 hn
        obtain ⟨sl3, e3⟩ := up4 b _ e2 hn
        exact ⟨sl3, e3⟩
  · walk1
    walk1
    refine' ListComp_raise F' ?c1q ?c2q ?c3q ?c4q ?c5q ?hq ?hsq
    case hsq => (intro _; rfl)
    case c1q => exact rfl
    case c2q => decide
    case c3q => exact rfl
    case c4q => decide
    case c5q => exact rfl
    case hq =>
      repeat' (first | (k_unfold; (try dsimp only)) | ((try dsimp only); walk1))
      refine' ⟨l, vs.toArray, nn, _, .int z tz, rfl, rfl, F', N', ?hmq, ?h0q, ?_⟩
      case hmq => k_mem
      case h0q => simpa using hz
      intro I oI C9 oC D m₂ h9 tk9 hoC hm2 F9 N9 off ne1 ne2
      repeat' (first | (k_unfold; (try dsimp only)) | ((try dsimp only); walk1))
      refine' decE_raise ?qBq ?qFq ?qXq ?qNq ?qTq ?qkq ?qdq ?quq h0 h1 ?qEq
      case qBq => k_asm
      case qFq => k_asm
      case qXq => k_asm
      case qNq => k_asm
      case qTq => k_asm
      case qkq => rfl
      case qdq => ktr_room
      case quq => ktr_units
      case qEq =>
        intro e g2 h2 tk2 Fg up R
        refine comp_thrown (news' := news) rfl rfl rfl R (List.mem_cons_of_mem _ List.mem_cons_self) hoC (fun q hq => ⟨by simp [hq], (off.mem q (by simp [hq])).2.1⟩) fun h3 Th keep => ?_
        refine thrown_leaves rfl rfl Th fun h4 R4 up4 => ?_
        refine hE e g' h4 _ FG' (fun b o hb hn => ?_) R4
        have hbC : b ≠ C9 := fun q => by
          have := (N9 (C9, oC) (List.mem_cons_of_mem _ List.mem_cons_self)).2.2
          rw [q] at hb
          rw [hb] at this
          cases this
        obtain ⟨sl1, e1⟩ := up b o (Fg.keep b o hb) hn
        obtain ⟨sl2, e2⟩ := keep b _ hbC e1 hn
        obtain ⟨sl3, e3⟩ := up4 b _ e2 hn
        exact ⟨sl3, e3⟩
end

end Mine
end
section
open PySem PySem.W PyProof.Rows
namespace Mine
section
local macro_rules | `(tactic| k_mem) => `(tactic| first | (with_reducible assumption) | assumption | exact List.mem_cons_self | (refine' List.mem_cons_of_mem _ ?_; k_mem))
local macro_rules | `(tactic| k_upd) => `(tactic| k_extra "upd")
set_option maxRecDepth 100000 in
set_option maxHeartbeats 20000000 in
theorem comp_nil {w : World} {mean : ExcName → Option Value} {mg mb : Str → Option Value} {A : Around} {base h₀ : Heap} {L : Addr} {m : Str → Option Value} {news : List (Addr × Obj)} {s : Shared} {Q E : Value → Shared → Prop}
    {C x dx ring l : Addr} {t1 t2 u : Tok} {vs : List Value} {ns : List Int} {nn : Nat} {d : Int} {news' : Obj → List (Addr × Obj)}
    (S : Site 4 w mean mg mb A base h₀ L m news s) (hC : C = 288 ∨ C = 364) (hx : (x, instObj C dx) ∈ news) (hdx : (dx, polyD w.params t1 t2 ring l) ∈ news) (hl : (l, listOf vs.toArray nn) ∈ news) (hi : IntsAre vs ns) (hns : ns = [])
    (hUF : UpdF dx (polyD w.params t1 t2 ring l) news news')
    (ret : ∀ h' tk' l' vs' nn', Fr h₀ L h' m → News h₀ L h' ((l', listOf vs'.toArray nn') :: news' (polyD w.params t1 t2 ring l')) → LCg.Off1 l' news → IntsAre vs' [] → Q (.ref x) { s with heap := h', toks := tk' }) :
    wpAny (model P3 w) A (call (.ref 266) [.ref x, .int d u]) Q E s := by
  subst hns
  unfold Site P3 at *; 
  obtain ⟨dp, un, gd, cn, cs, a, ccd, cl, outer, A₀, rfl, B, F, X, N, T, hk, hdp, hun⟩ := S
  revert X; k_fill; intro X
  refine wpAny_call ?_
  k_dflt (refine' code_defC ?k1 ?k2 ?k3 ?k4 ?k5 ?kA ?kF ?kK ?k6 ?k7 ?k8 ?k9 ?kB ?kD ?_ ?c2 ?c3 ?c4; (case kA => exact rfl); (case kF => exact rfl); (case kK => assumption); (case k1 => k_asm); (case k2 => k_asm); (case k3 => k_asm); (case k4 => k_asm); (case k5 => k_asm); (case k6 => k_is); (case k7 => k_is); (case k8 => ktr_room); (case k9 => first | exact BindsTo.of_eq rfl | exact binds_K (by k_in) rfl (by k_is) rfl rfl rfl); (case kB => exact rfl); (case kD => decide +kernel); (case c2 => exact rfl); (case c3 => exact rfl); (case c4 => exact rfl); k_whole; intro g' L' h' tk' cells' FG' F' N' Y' B' X' T' l1; (try k_lt l1); k_cells Y'; (try simp only [List.cons_append, List.nil_append] at N'); (try dsimp only); (try k_lift B'); (try k_fold))
  have hU := fun l' => updF_upd hUF (polyD w.params t1 t2 ring l')
  have hdL := ltN (l1 _ hdx)
  dsimp only at hdL
  rcases hC with rfl | rfl
  all_goals (
    k_steps
    · exact absurd (by assumption) (List.not_mem_nil)
    rename (_ ≠ _ ∧ _ ≠ _ ∧ LCg.Off1 _ _) => o9
    have hn9 := neN (off1_mem o9.2.2 hdx)
    k_with "upd" => (refine' Upd.tail ?a1 (Upd.tail ?a2 (Upd.tail ?a3 (hU _))); (case a1 => k_ne); (case a2 => k_ne); (case a3 => k_ne))
    walk1
    k_steps)
  all_goals (
    (rename (_ ≠ _ ∧ _ ≠ _ ∧ LCg.Off1 _ _) => o9)
    (rename News h₀ _ _ (_ :: _) => N9)
    exact ret _ _ _ _ _ (by k_asm) (cb_drop N9 sub3) o9.2.2 (by assumption))
set_option maxRecDepth 100000 in
set_option maxHeartbeats 20000000 in
theorem dec_nil {w : World} {mean : ExcName → Option Value} {mg mb : Str → Option Value} {A : Around} {base h₀ : Heap} {L : Addr} {m : Str → Option Value} {news : List (Addr × Obj)} {s : Shared} {Q E : Value → Shared → Prop}
    {C x dx ring l : Addr} {t1 t2 u : Tok} {vs : List Value} {ns : List Int} {nn : Nat} {d : Int} {news' : Obj → List (Addr × Obj)}
    (S : Site 4 w mean mg mb A base h₀ L m news s) (hC : C = 288 ∨ C = 364) (hx : (x, instObj C dx) ∈ news) (hdx : (dx, polyD w.params t1 t2 ring l) ∈ news) (hl : (l, listOf vs.toArray nn) ∈ news) (hi : IntsAre vs ns) (hns : ns = [])
    (hUF : UpdF dx (polyD w.params t1 t2 ring l) news news')
    (ret : ∀ h' tk' l' vs' nn', Fr h₀ L h' m → News h₀ L h' ((l', listOf vs'.toArray nn') :: news' (polyD w.params t1 t2 ring l')) → LCg.Off1 l' news → IntsAre vs' [] → Q (.ref x) { s with heap := h', toks := tk' }) :
    wpAny (model P3 w) A (call (.ref 271) [.ref x, .int d u]) Q E s := by
  subst hns
  unfold Site P3 at *; 
  obtain ⟨dp, un, gd, cn, cs, a, ccd, cl, outer, A₀, rfl, B, F, X, N, T, hk, hdp, hun⟩ := S
  revert X; k_fill; intro X
  refine wpAny_call ?_
  k_dflt (refine' code_defC ?k1 ?k2 ?k3 ?k4 ?k5 ?kA ?kF ?kK ?k6 ?k7 ?k8 ?k9 ?kB ?kD ?_ ?c2 ?c3 ?c4; (case kA => exact rfl); (case kF => exact rfl); (case kK => assumption); (case k1 => k_asm); (case k2 => k_asm); (case k3 => k_asm); (case k4 => k_asm); (case k5 => k_asm); (case k6 => k_is); (case k7 => k_is); (case k8 => ktr_room); (case k9 => first | exact BindsTo.of_eq rfl | exact binds_K (by k_in) rfl (by k_is) rfl rfl rfl); (case kB => exact rfl); (case kD => decide +kernel); (case c2 => exact rfl); (case c3 => exact rfl); (case c4 => exact rfl); k_whole; intro g' L' h' tk' cells' FG' F' N' Y' B' X' T' l1; (try k_lt l1); k_cells Y'; (try simp only [List.cons_append, List.nil_append] at N'); (try dsimp only); (try k_lift B'); (try k_fold))
  have hU := fun l' => updF_upd hUF (polyD w.params t1 t2 ring l')
  have hdL := ltN (l1 _ hdx)
  dsimp only at hdL
  rcases hC with rfl | rfl
  all_goals (
    k_steps
    · exact absurd (by assumption) (List.not_mem_nil)
    rename (_ ≠ _ ∧ _ ≠ _ ∧ LCg.Off1 _ _) => o9
    have hn9 := neN (off1_mem o9.2.2 hdx)
    k_with "upd" => (refine' Upd.tail ?a1 (Upd.tail ?a2 (Upd.tail ?a3 (hU _))); (case a1 => k_ne); (case a2 => k_ne); (case a3 => k_ne))
    walk1
    k_steps)
  all_goals (
    (rename (_ ≠ _ ∧ _ ≠ _ ∧ LCg.Off1 _ _) => o9)
    (rename News h₀ _ _ (_ :: _) => N9)
    exact ret _ _ _ _ _ (by k_asm) (cb_drop N9 sub3) o9.2.2 (by assumption))
end

end Mine
end
section
open PySem PySem.W PyProof.Rows
namespace Mine
abbrev FnAt (K : Frag) (f : Addr) : Type := List Stmt × Scope
def FnAt.mk' {K : Frag} {f : Addr} {oc : Value} {od : Option Addr} {name qual : Str} {params : Arguments} {body : List Stmt} {scope : Scope} {dV kV doc pm : Value} {an : Option Addr} {cdv ct : Value} {osl : Array (Option Value)}
    (hh : K.lookup f = some ⟨oc, od, .func (fnOf name qual params body scope dV kV doc pm an cdv ct), osl⟩) : FnAt K f := (body, scope)
set_option maxRecDepth 100000 in
noncomputable def lawFn (P : Params) : FnAt (hd.heap_39 P) 392 := by
  have hrow : PySem.Challenge.rw_yd0002_03 = PySem.Challenge.rw_yd0002_03 := rfl
  revert hrow
  k_fill
  intro _
  k_dflt (refine' FnAt.mk' ?h; (case h => k_is))
noncomputable def lawBody (P : Params) : List Stmt := (lawFn P).1
noncomputable def lawScope (P : Params) : Scope := (lawFn P).2
theorem at3_bits {ns : List Int} {i : Int} (h : PyData.layable0 (.list (ns.map .int)) = true) (h0 : 0 ≤ i) (h1 : i ≤ 1000) : Builtin.Int.intBits (at3 ns i) ≤ 1048576 := by
  unfold at3
  split
  · exact kbm_getD (j := i.toNat) (d := 0) h (by decide)
  · refine Nat.le_trans (show Builtin.Int.intBits _ ≤ 64 from intBits_le_iff.mpr ?_) (by decide)
    have h2 : 0 ≤ i * i := Int.mul_nonneg h0 h0
    have h3 : i * i ≤ 1000 * i := Int.mul_le_mul_of_nonneg_right h1 h0
    have h4 : 53 * i * i = 53 * (i * i) := by rw [Int.mul_assoc]
    rw [h4]
    have := fdiv_bounds (53 * (i * i) + 29 * i) (T := 7) (by decide)
    omega

def LawSt (w : World) (mean : ExcName → Option Value) (mg mb : Str → Option Value) (A : Around) (env : Env) (base h₀ : Heap) (L : Addr) : Prop :=
  ∃ (dp un : Nat) (gd : Option (List Code)) (a : Addr) (ccd : Value) (outer : List Env) (A₀ : Around),
    A = ktrTop dp un gd (Str.ofString "law") (lawScope w.params) L a ccd (cellsFrom (L + 1) (lawScope w.params).names []) outer ∧ env = envX (Str.ofString "law") (lawScope w.params) L a ccd (cellsFrom (L + 1) (lawScope w.params).names []) ∧
    Below A₀ base outer h₀ ∧ (hd.heap_39 w.params).In h₀ ∧ Top hd.view_39 (looseW hd.view_39 [Str.ofString "PolynomialNTT"]) mean mg mb h₀ ∧ dp + 10 < recursionLimit ∧ un + 8 * 10 < cLine
theorem fmod_small (X : Int) (k : Int) (hk : 0 < k) : 0 ≤ X.fmod k ∧ X.fmod k < k := ⟨(fmod_bounds X hk).1, (fmod_bounds X hk).2.1⟩
theorem hide1 {M : Model} {A : Around} {env : Env} {Q : Flow → Shared → Prop} {E : Value → Shared → Prop} {s : Shared} {a : Stmt} {R : List Stmt} (h : ∀ R', R' = R → wpAny M A (execs (a :: R') env) Q E s) : wpAny M A (execs (a :: R) env) Q E s := h R rfl
theorem hide2 {M : Model} {A : Around} {env : Env} {Q : Flow → Shared → Prop} {E : Value → Shared → Prop} {s : Shared} {a b : Stmt} {R : List Stmt} (h : ∀ R', R' = R → wpAny M A (execs (a :: b :: R') env) Q E s) : wpAny M A (execs (a :: b :: R) env) Q E s := h R rfl
theorem hide3 {M : Model} {A : Around} {env : Env} {Q : Flow → Shared → Prop} {E : Value → Shared → Prop} {s : Shared} {a b c : Stmt} {R : List Stmt} (h : ∀ R', R' = R → wpAny M A (execs (a :: b :: c :: R') env) Q E s) : wpAny M A (execs (a :: b :: c :: R) env) Q E s := h R rfl
theorem hide4 {M : Model} {A : Around} {env : Env} {Q : Flow → Shared → Prop} {E : Value → Shared → Prop} {s : Shared} {a b c d : Stmt} {R : List Stmt} (h : ∀ R', R' = R → wpAny M A (execs (a :: b :: c :: d :: R') env) Q E s) : wpAny M A (execs (a :: b :: c :: d :: R) env) Q E s := h R rfl
theorem frM {h₀ h : Heap} {L : Addr} {m m' : Str → Option Value} (F : Fr h₀ L h m) (e : m = m') : Fr h₀ L h m' := e ▸ F
theorem pow40 {d : Int} (h : d ≤ 40) : (2 : Int) ^ d.toNat ≤ 1099511627776 := by
  have h2 : d.toNat ≤ 40 := by omega
  obtain ⟨k, hk⟩ := Nat.exists_eq_add_of_le h2
  have e : (2 : Int) ^ 40 = 2 ^ d.toNat * 2 ^ k := by rw [← Int.pow_add, ← hk]
  have e2 : (2 : Int) ^ 40 = 1099511627776 := by decide
  have hk1 := two_pos k
  have hd1 := two_pos d.toNat
  have : (2 : Int) ^ d.toNat * 1 ≤ 2 ^ d.toNat * 2 ^ k := Int.mul_le_mul_of_nonneg_left (by omega) (by omega)
  omega
theorem comp_mem_bits {X : List Int} {d : Int} (h2 : d ≤ 40) : ∀ z ∈ X.map (compE d), Builtin.Int.intBits z ≤ 2097152 := by
  intro z hz
  obtain ⟨x, _, rfl⟩ := List.mem_map.mp hz
  have h3 := compE_range (d := d) (x := x)
  have h4 := pow40 h2
  exact Nat.le_trans (bits_small h3.1 (by omega)) (by decide)
theorem dec_mem_bits {X : List Int} {d : Int} (h1 : 1 ≤ d) : ∀ z ∈ (X.map (compE d)).map (decE d), Builtin.Int.intBits z ≤ 2097152 := by
  intro z hz
  obtain ⟨y, hy, rfl⟩ := List.mem_map.mp hz
  obtain ⟨x, _, rfl⟩ := List.mem_map.mp hy
  have h3 := compE_range (d := d) (x := x)
  have h4 := back_start h1 h3.1 h3.2
  exact Nat.le_trans (bits_small h4.1 (by omega)) (by decide)
theorem bits_up {X : List Int} (h : ∀ z ∈ X, Builtin.Int.intBits z ≤ 1048576) : ∀ z ∈ X, Builtin.Int.intBits z ≤ 2097152 := fun z hz => Nat.le_trans (h z hz) (by decide)
theorem decE_bits1 {x d : Int} {N : Nat} (h1 : 1 ≤ d) (h2 : d ≤ 40) (hb : Builtin.Int.intBits x ≤ N) : Builtin.Int.intBits (decE d x) ≤ N + 12 := by
  have h3 := two_pos d.toNat
  obtain ⟨b1, b2⟩ := decE_bounds (d := d) (y := x) h1
  have h4 := pow40 h2
  have hh := two_half h1
  have hT := two_pos (d - 1).toNat
  rw [intBits_le_iff] at hb
  rw [intBits_le_iff]
  have p : (2 : Nat) ^ (N + 12) = 2 ^ N * 4096 := by rw [Nat.pow_add]
  rw [p]
  generalize (2 : Nat) ^ N = B at *
  generalize decE d x = Z at *
  generalize (2 : Int) ^ (d - 1).toNat = H at *
  rw [hh] at b1 b2
  have k1 : Z < 3329 * B := by
    apply Int.not_le.mp
    intro hle
    have : (3329 * (B : Int)) * (2 * H) ≤ Z * (2 * H) := mul_le_l hle (by omega)
    have q : (3329 * (B : Int)) * 2 ≤ (3329 * (B : Int)) * (2 * H) := Int.mul_le_mul_of_nonneg_left (by omega) (by omega)
    have q2 : (3329 * (B : Int)) * (2 * H) = (3329 * (B : Int)) * H + (3329 * (B : Int)) * H := by rw [Int.two_mul, Int.mul_add]
    have q3 : H ≤ (3329 * (B : Int)) * H := by
      have : 1 * H ≤ (3329 * (B : Int)) * H := mul_le_l (by omega) (by omega)
      omega
    have q4 : (3329 * (B : Int)) * 1 ≤ (3329 * (B : Int)) * H := Int.mul_le_mul_of_nonneg_left (by omega) (by omega)
    omega
  have k2 : -(3329 * (B : Int)) - 1 < Z := by
    apply Int.not_le.mp
    intro hle
    have : (Z + 1) * (2 * H) ≤ (-(3329 * (B : Int))) * (2 * H) := mul_le_l (by omega) (by omega)
    have e5 : (Z + 1) * (2 * H) = Z * (2 * H) + 2 * H := by rw [Int.add_mul, Int.one_mul]
    have q4 : (3329 * (B : Int)) * 2 ≤ (3329 * (B : Int)) * (2 * H) := Int.mul_le_mul_of_nonneg_left (by omega) (by omega)
    have q5 : (-(3329 * (B : Int))) * (2 * H) = - ((3329 * (B : Int)) * (2 * H)) := Int.neg_mul _ _
    omega
  omega
theorem decE_bits {X : List Int} {d : Int} (h1 : 1 ≤ d) (h2 : d ≤ 40) (h : ∀ z ∈ X, Builtin.Int.intBits z ≤ 1048576) : ∀ z ∈ X.map (decE d), Builtin.Int.intBits z ≤ 2097152 := by
  intro z hz
  obtain ⟨x, hx, rfl⟩ := List.mem_map.mp hz
  exact Nat.le_trans (decE_bits1 h1 h2 (h x hx)) (by decide)
theorem back_map {X : List Int} {d : Int} (h : 1 ≤ d) : X.map (fun x => 3329 * x.fdiv (2 ^ d.toNat) + decE d (x.fmod (2 ^ d.toNat))) = X.map (decE d) := List.map_congr_left fun x _ => decE_shift h
theorem comp_dec_map {X : List Int} {d : Int} (h1 : 1 ≤ d) (h : d ≤ 11) : (X.map (decE d)).map (compE d) = X.map (fun x => x.fmod (2 ^ d.toNat)) := by
  rw [List.map_map]
  exact List.map_congr_left fun x _ => comp_dec h1 h
theorem comp_dec_comp_map {X : List Int} {d : Int} (h : 1 ≤ d) : ((X.map (compE d)).map (decE d)).map (compE d) = X.map (compE d) := by
  rw [List.map_map, List.map_map]
  exact List.map_congr_left fun x _ => comp_dec_comp h
theorem fmod_bits {X : List Int} {d : Int} (h2 : d ≤ 40) : ∀ z ∈ X.map (fun x => x.fmod (2 ^ d.toNat)), Builtin.Int.intBits z ≤ 2097152 := by
  intro z hz
  obtain ⟨x, hx, rfl⟩ := List.mem_map.mp hz
  have h3 := fmod_small x (2 ^ d.toNat) (two_pos _)
  have h4 := pow40 h2
  exact Nat.le_trans (bits_small h3.1 (by omega)) (by decide)

end Mine
end
section
open PySem PySem.W PySem.Spec PySem.Calls PyProof.Rows
namespace Mine
theorem caught_X {prog : Program} {w : World} {A : Around} {E : Value → Shared → Prop} {s' : Shared} {h₀ g : Heap} {env : Env} {outer : List Env} {L e : Addr} {m : Str → Option Value} {news : List (Addr × Obj)} {b₀ : Stmt} {suite : List Stmt} {pos np : Pos} {rest : List ExceptHandler} {Q : Flow → Shared → Prop}
    (hfr : A.frames = some (env :: outer)) (hf : env.frame = some L) (F : Fr h₀ L g m) (hsm : g.UpToSlots s'.heap) (R : RaisedN h₀ (env :: outer) e (.type "ValueError") news s'.heap)
    (hname : ∀ (A' : Around) (E' : Value → Shared → Prop) (s'' : Shared) (Q' : Value → Shared → Prop), Fr h₀ L s''.heap m → Q' (.type "ValueError") s'' → wpAny (model prog w) A' (eval (.Name (Str.ofString "ValueError") np) env) Q' E' s'')
    (k : ∀ h', Fr h₀ L h' m → News h₀ L h' news → wpAny (model prog w) (A.mark (some (.ref e))) (execs (b₀ :: suite) env) Q (fun _ _ => False) { s' with heap := h' }) :
    wpAny (model prog w) A (noteFrame (.ref e) env) (fun _ s₂ => wpAny (model prog w) A (setFlight (.ref e) none) (fun _ s₃ =>
      wpAny (model prog w) A (handleBy (.ref e) env (.ExceptHandler (some (.Name (Str.ofString "ValueError") np)) none (b₀ :: suite) pos :: rest)) Q E s₃) E s₂) E s' := by
  obtain ⟨B, a0, hB, hl, hfl⟩ := R
  have hL : B.get? L = none := by
    obtain ⟨_, ⟨L', _, hf', hn', _⟩, _⟩ := hfl.2.2.1
    rw [hf] at hf'
    obtain rfl : L = L' := Option.some.inj hf'
    exact hn'
  have stay : ∀ {h : Heap}, B.StaysIn h → h₀.StaysIn h := fun x b o q => x b o (hB b o q)
  refine wpAny_looks_onW hfr hf hfl fun h₄ held₄ up₄ => ?_
  refine wpAny_landsW held₄ fun h₅ hfl₅ up₅ => ?_
  obtain ⟨ob, hob, hobc⟩ := hfl₅.there
  refine wpAny_handleBy_builtin (X := "ValueError") (T := "ValueError") (b := true) PySem.F.isExc_ValueError PySem.F.notTuple_ValueError (by rw [isSubtype_type]; kernel_rfl)
    (hname _ _ _ _ (F.of_stays (stay hfl₅.1) (hsm.trans (up₄.trans up₅))) ⟨rfl, ⟨ob, hob, hobc⟩, ?_⟩)
  simp only [if_true]
  refine lands_againW hfl₅ fun h₆ hfl₆ up₆ => ?_
  refine wpAny_mono (k h₆ (F.of_stays (stay hfl₆.1) (hsm.trans (up₄.trans (up₅.trans up₆)))) fun q hq => ⟨hfl₆.1 _ _ (hl q hq).1, fun z => ?_, (hl q hq).2⟩) (fun _ _ x => x) fun _ _ x => x.elim
  have := (hl q hq).1
  rw [z, hL] at this
  cases this

end Mine
end
section
open PySem PySem.W PyProof.Rows
namespace Mine
section
local macro_rules | `(tactic| k_mem) => `(tactic| first | (with_reducible assumption) | assumption | exact List.mem_cons_self | (refine' List.mem_cons_of_mem _ ?_; k_mem))
local macro_rules | `(tactic| walk_at "call builtin:len") => `(tactic| (k_here; (with_reducible show wpAny _ _ (call (Value.builtin "len") [Value.ref _]) _ _ _); k_dflt (refine' kst_len ?k1 ?k2 rfl ?k4 ?_; (case k1 => k_asm); (case k2 => k_mem); (case k4 => omega); k_whole)))
local macro_rules | `(tactic| tb_start) => `(tactic| exact Site.of (by k_asm) (by k_asm) (by k_asm) (by k_asm) (by k_asm) (by first | rfl | assumption) (by first | ((try simp only [depth_under_make, depth_under_kw, depth_in1, depth_deeper, depth_caller]); (try dsimp only [ktrTop]); omega) | ktr_room | decide) (by first | ((have hcL9 := cLine_is); (try simp only [units_under_make, units_in1, units_deeper, Around.mark_units, units_caller]); (try dsimp only [ktrTop]); omega) | ktr_units | decide))
local macro_rules | `(tactic| walk_at "call ref") => `(tactic| (k_here; (with_reducible show wpAny _ _ (call (Value.ref 373) _) _ _ _); k_dflt (refine' at_ok ?S ?hl ?hi ?hlen ?h1 ?h2 ?_; (case S => tb_start); (case hl => k_asm); (case hi => k_asm); (case hlen => omega); (case h1 => omega); (case h2 => omega); k_whole; intro t9 h9 tk9 F9 N9; (try dsimp only); (try k_fold))))
local macro_rules | `(tactic| walk_at "call ref") => `(tactic| (k_here; (with_reducible show wpAny _ _ (call (Value.ref 380) _) _ _ _); k_dflt (refine' kept_ok ?S ?h1 ?h2 ?_; (case S => tb_start); (case h1 => omega); (case h2 => omega); k_whole; intro t9 h9 tk9 F9 N9; (try dsimp only); (try k_fold))))

set_option maxRecDepth 100000 in
set_option maxHeartbeats 20000000 in
theorem seg1 {w : World} {mean : ExcName → Option Value} {mg mb : Str → Option Value} {A : Around} {env : Env} {base h₀ : Heap} {L sc : Addr} {m₀ : Str → Option Value} {od os : Obj} {s : Shared} {Q : Flow → Shared → Prop} {E : Value → Shared → Prop} {vs : List Value} {ns : List Int}
    (St : LawSt w mean mg mb A env base h₀ L) (F : Fr h₀ L s.heap m₀) (N : News h₀ L s.heap [(L + 1 + 1, od), (L + 1, os)]) (hos : os.data = .cell (some (.ref sc))) (hod : od.data = .cell none)
    (hl : base.IsList sc vs.toArray) (hi : IntsAre vs ns) (hlen : ns.length ≤ 63) (hlay : PyData.layable0 (.list (ns.map .int)) = true)
    (next : ∀ (n d : Int) t1 t2 od' lx ys X e h' tk, 0 ≤ n → n ≤ 5 → 1 ≤ d → d ≤ 40 → od'.data = .cell (some (.int d t2)) → Fr h₀ L h' (kstB m₀ [(Str.ofString "xs", .ref lx), (Str.ofString "n", .int n t1)]) →
      News h₀ L h' [(lx, listOf ys.toArray e), (L + 1 + 1, od'), (L + 1, os)] → L + 1 + 1 ≠ lx → L + 1 ≠ lx → IntsAre ys X → (X.length : Int) = n → (∀ z ∈ X, Builtin.Int.intBits z ≤ 1048576) →
      wpAny (model P3 w) A (execs ((lawBody w.params).drop 3) env) Q E { s with heap := h', toks := tk }) :
    wpAny (model P3 w) A (execs (lawBody w.params) env) Q E s := by
  unfold LawSt P3 at *
  obtain ⟨dp, un, gd, a, ccd, outer, A₀, rfl, rfl, B, X, T, hdp, hun⟩ := St
  revert X; k_fill; intro X
  k_with_none
  unfold lawScope lawBody lawFn at *
  dsimp only [FnAt.mk', List.drop] at *
  refine hide2 fun R hR => ?_
  repeat' (first | (k_unfold; (try dsimp only)) | ((try dsimp only); walk1))
  obtain ⟨n0, n1⟩ := fmod_small (3 + at3 ns 0) 6 (by decide)
  obtain ⟨d0, d1⟩ := fmod_small (9 + at3 ns 1) 40 (by decide)
  generalize Int.fmod (3 + at3 ns 0) 6 = n at *
  generalize hdd : 1 + Int.fmod (9 + at3 ns 1) 40 = d at *
  have hd1 : 1 ≤ d := by omega
  have hd2 : d ≤ 40 := by omega
  subst hR
  refine hide1 fun R hR => ?_
  repeat' (first | (k_unfold; (try dsimp only)) | ((try dsimp only); walk1))
  subst hR
  (rename _ ≠ _ ∧ _ ≠ _ => o9)
  refine next n d _ _ _ _ ys _ _ _ _ n0 (by omega) hd1 hd2 (by assumption) (by k_asm) (by k_asm) o9.1 o9.2 (by assumption) ?_ ?_
  · rw [List.length_map, rangeKs_length]
    omega
  · intro z hz
    obtain ⟨k, hk, rfl⟩ := List.mem_map.mp hz
    have hk2 := mem_rangeKs hk
    exact at3_bits hlay (by omega) (by omega)
end

end Mine
end
section
open PySem PySem.W PyProof.Rows
namespace Mine
section
local macro_rules | `(tactic| k_mem) => `(tactic| first | (with_reducible assumption) | assumption | exact List.mem_cons_self | (refine' List.mem_cons_of_mem _ ?_; k_mem))
local macro_rules | `(tactic| walk_at "call builtin:len") => `(tactic| (k_here; (with_reducible show wpAny _ _ (call (Value.builtin "len") [Value.ref _]) _ _ _); k_dflt (refine' kst_len ?k1 ?k2 rfl ?k4 ?_; (case k1 => k_asm); (case k2 => k_mem); (case k4 => omega); k_whole)))
local macro_rules | `(tactic| tb_start) => `(tactic| exact Site.of (by k_asm) (by k_asm) (by k_asm) (by k_asm) (by k_asm) (by first | rfl | assumption) (by first | ((try simp only [depth_under_make, depth_under_kw, depth_in1, depth_deeper, depth_caller]); (try dsimp only [ktrTop]); omega) | ktr_room | decide) (by first | ((have hcL9 := cLine_is); (try simp only [units_under_make, units_in1, units_deeper, Around.mark_units, units_caller]); (try dsimp only [ktrTop]); omega) | ktr_units | decide))
local macro_rules | `(tactic| walk_at "call ref") => `(tactic| (k_here; (with_reducible show wpAny _ _ (call (Value.ref 373) _) _ _ _); k_dflt (refine' at_ok ?S ?hl ?hi ?hlen ?h1 ?h2 ?_; (case S => tb_start); (case hl => k_asm); (case hi => k_asm); (case hlen => omega); (case h1 => omega); (case h2 => omega); k_whole; intro t9 h9 tk9 F9 N9; (try dsimp only); (try k_fold))))
local macro_rules | `(tactic| walk_at "call ref") => `(tactic| (k_here; (with_reducible show wpAny _ _ (call (Value.ref 380) _) _ _ _); k_dflt (refine' kept_ok ?S ?h1 ?h2 ?_; (case S => tb_start); (case h1 => omega); (case h2 => omega); k_whole; intro t9 h9 tk9 F9 N9; (try dsimp only); (try k_fold))))


local macro_rules | `(tactic| k_room) => `(tactic| ((try simp only [depth_under_make, depth_under_kw, depth_in1, depth_deeper, depth_caller]); (try dsimp only [ktrTop]); omega))
local macro_rules | `(tactic| walk_at "call ref") => `(tactic| (k_here; k_dflt (refine' poly_ok ?S ?hC ?hr ?hrd ?hl ?hn ?hsz ?_; (case S => tb_start); (case hC => first | exact .inl rfl | exact .inr rfl); (case hr => k_mem); (case hrd => k_mem); (case hl => k_mem); (case hn => assumption); (case hsz => omega); k_whole; intro h9 tk9 x9 dx9 t19 t29 F9 N9 l9 k9; (try k_lt l9); (try k_lt2 k9); (try dsimp only); (try k_fold))))
theorem kst_dup {m₀ : Str → Option Value} {v1 v2 v3 v4 : Value} {l : List (Str × Value)} : kstB m₀ ((Str.ofString "r", v1) :: (Str.ofString "p", v2) :: (Str.ofString "r", v3) :: (Str.ofString "p", v4) :: l) = kstB m₀ ((Str.ofString "r", v1) :: (Str.ofString "p", v2) :: l) := by
  funext z
  simp only [kstB]
  by_cases h1 : z = Str.ofString "r"
  · simp only [h1, if_true]
  · by_cases h2 : z = Str.ofString "p"
    · simp only [h2, if_true]
    · simp only [h1, h2, if_false]
set_option maxRecDepth 100000 in
set_option maxHeartbeats 20000000 in
theorem seg2 {w : World} {mean : ExcName → Option Value} {mg mb : Str → Option Value} {A : Around} {env : Env} {base h₀ : Heap} {L sc lx : Addr} {m₀ : Str → Option Value} {od os : Obj} {s : Shared} {Q : Flow → Shared → Prop} {E : Value → Shared → Prop} {vs : List Value} {ns : List Int}
    {n d : Int} {t1 t2 : Tok} {ys : List Value} {X : List Int} {e : Nat}
    (St : LawSt w mean mg mb A env base h₀ L) (hos : os.data = .cell (some (.ref sc))) (hl : base.IsList sc vs.toArray) (hi : IntsAre vs ns) (hlen : ns.length ≤ 63)
    (n0 : 0 ≤ n) (n1 : n ≤ 5) (hod : od.data = .cell (some (.int d t2))) (F : Fr h₀ L s.heap (kstB m₀ [(Str.ofString "xs", .ref lx), (Str.ofString "n", .int n t1)]))
    (N : News h₀ L s.heap [(lx, listOf ys.toArray e), (L + 1 + 1, od), (L + 1, os)]) (a1 : L + 1 + 1 ≠ lx) (a2 : L + 1 ≠ lx) (hys : IntsAre ys X) (hX : (X.length : Int) = n)
    (next : ∀ ring rdx lg p dp r dr Cp Cr t3 t4 t5 t6 t7 t8 t9 t10 e' h' tk, ((Cp = 288 ∧ Cr = 364) ∨ (Cp = 364 ∧ Cr = 288)) →
      Fr h₀ L h' (kstB m₀ [(Str.ofString "r", .ref r), (Str.ofString "p", .ref p), (Str.ofString "given", .ref lg), (Str.ofString "ring", .ref ring), (Str.ofString "xs", .ref lx), (Str.ofString "n", .int n t1)]) →
      News h₀ L h' [(r, instObj Cr dr), (dr, polyD w.params t3 t4 ring lg), (p, instObj Cp dp), (dp, polyD w.params t5 t6 ring lg), (lg, listOf ys.toArray e'), (ring, instObj 59 rdx), (rdx, ringD w.params t7 t8 t9 t10 3329 n), (lx, listOf ys.toArray e), (L + 1 + 1, od), (L + 1, os)] → AllLt dp [(lg, listOf ys.toArray e'), (ring, instObj 59 rdx), (rdx, ringD w.params t7 t8 t9 t10 3329 n), (lx, listOf ys.toArray e), (L + 1 + 1, od), (L + 1, os)] →
      dp < p → p < dr → dr < r →
      wpAny (model P3 w) A (execs ((lawBody w.params).drop 8) env) Q E { s with heap := h', toks := tk }) :
    wpAny (model P3 w) A (execs ((lawBody w.params).drop 3) env) Q E s := by
  unfold LawSt P3 at *
  obtain ⟨dpp, un, gd, a, ccd, outer, A₀, rfl, rfl, B, X9, T, hdp, hun⟩ := St
  revert X9; k_fill; intro X9
  k_with_none
  have hyl : (ys.length : Int) = n := by have := hys.length; omega
  unfold lawScope lawBody lawFn at *
  dsimp only [FnAt.mk', List.drop] at *
  refine hide2 fun R hR => ?_
  repeat' (first | (k_unfold; (try dsimp only)) | ((try dsimp only); walk1))
  subst hR
  refine hide3 fun R hR => ?_
  repeat' (first | (k_unfold; (try dsimp only)) | ((try dsimp only); walk1))
  · dsimp only
    subst hR
    refine' next _ _ _ _ _ _ _ 364 288 _ _ _ _ _ _ _ _ _ _ _ (.inr ⟨rfl, rfl⟩) (frM ?F (kst_dup (v1 := _) (v2 := _))) (cb_drop ?N ?sub) ?lt ?l1 ?l2 ?l3
    case N => assumption
    case F => assumption
    case sub => k_allIn
    case lt => (refine ⟨?_, ?_, ?_, ?_, ?_, ?_, trivial⟩ <;> (dsimp only; omega))
    case l1 => omega
    case l2 => exact And.left (by assumption)
    case l3 => omega
  · dsimp only
    subst hR
    refine' next _ _ _ _ _ _ _ 288 364 _ _ _ _ _ _ _ _ _ _ _ (.inl ⟨rfl, rfl⟩) ?Fb ?Nb ?ltb ?l1b ?l2b ?l3b
    case Nb => assumption
    case Fb => assumption
    case ltb => (refine ⟨?_, ?_, ?_, ?_, ?_, ?_, trivial⟩ <;> (dsimp only; omega))
    case l1b => omega
    case l2b => exact And.left (by assumption)
    case l3b => omega
end

end Mine
end
section
open PySem PySem.W PyProof.Rows
namespace Mine
theorem mem_comp {X : List Int} {d k : Int} (h : k ∈ X.map (fun x => compE d x)) : 0 ≤ k ∧ k < 2 ^ d.toNat := by
  obtain ⟨x, _, rfl⟩ := List.mem_map.mp h
  exact compE_range
section
local macro_rules | `(tactic| walk_at "no key 1: the lines' count must differ from the part before") => `(tactic| skip)
local macro_rules | `(tactic| walk_at "no key 2: the lines' count must differ from the part before") => `(tactic| skip)
local macro_rules | `(tactic| walk_at "no key 3: the lines' count must differ from the part before") => `(tactic| skip)
local macro_rules | `(tactic| walk_at "no key 4: the lines' count must differ from the part before") => `(tactic| skip)
local macro_rules | `(tactic| walk_at "no key 5: the lines' count must differ from the part before") => `(tactic| skip)
local macro_rules | `(tactic| k_mem) => `(tactic| first | (with_reducible assumption) | assumption | exact List.mem_cons_self | (refine' List.mem_cons_of_mem _ ?_; k_mem))
local macro_rules | `(tactic| walk_at "call builtin:len") => `(tactic| (k_here; (with_reducible show wpAny _ _ (call (Value.builtin "len") [Value.ref _]) _ _ _); k_dflt (refine' kst_len ?k1 ?k2 rfl ?k4 ?_; (case k1 => k_asm); (case k2 => k_mem); (case k4 => omega); k_whole)))
local macro_rules | `(tactic| tb_start) => `(tactic| exact Site.of (by k_asm) (by k_asm) (by k_asm) (by k_asm) (by k_asm) (by first | rfl | assumption) (by first | ((try simp only [depth_under_make, depth_under_kw, depth_in1, depth_deeper, depth_caller]); (try dsimp only [ktrTop]); omega) | ktr_room | decide) (by first | ((have hcL9 := cLine_is); (try simp only [units_under_make, units_in1, units_deeper, Around.mark_units, units_caller]); (try dsimp only [ktrTop]); omega) | ktr_units | decide))
local macro_rules | `(tactic| walk_at "call ref") => `(tactic| (k_here; (with_reducible show wpAny _ _ (call (Value.ref 373) _) _ _ _); k_dflt (refine' at_ok ?S ?hl ?hi ?hlen ?h1 ?h2 ?_; (case S => tb_start); (case hl => k_asm); (case hi => k_asm); (case hlen => omega); (case h1 => omega); (case h2 => omega); k_whole; intro t9 h9 tk9 F9 N9; (try dsimp only); (try k_fold))))
local macro_rules | `(tactic| walk_at "call ref") => `(tactic| (k_here; (with_reducible show wpAny _ _ (call (Value.ref 380) _) _ _ _); k_dflt (refine' kept_ok ?S ?h1 ?h2 ?_; (case S => tb_start); (case h1 => omega); (case h2 => omega); k_whole; intro t9 h9 tk9 F9 N9; (try dsimp only); (try k_fold))))

local macro_rules | `(tactic| walk_at "call ref") => `(tactic| (k_here; (with_reducible show wpAny _ _ (call (Value.ref 387) _) _ _ _); k_dflt (refine' back_ok ?S ?h1 ?h2 ?h3 ?h4 ?_; (case S => tb_start); (case h1 => omega); (case h2 => omega); (case h3 => first | exact (mem_comp (by assumption)).1 | exact (fmod_small _ _ (two_pos _)).1); (case h4 => first | exact (mem_comp (by assumption)).2 | exact (fmod_small _ _ (two_pos _)).2); k_whole; intro t9 h9 tk9 F9 N9; (try dsimp only); (try k_fold))))
set_option maxRecDepth 100000 in
set_option maxHeartbeats 20000000 in
theorem seg3 {w : World} {mean : ExcName → Option Value} {mg mb : Str → Option Value} {A : Around} {env : Env} {base h₀ : Heap} {L ring rdx lg p dp r dr Cp Cr lx : Addr} {m₀ : Str → Option Value} {od os : Obj} {s : Shared} {Q : Flow → Shared → Prop} {E : Value → Shared → Prop}
    {n d : Int} {t1 t2 t3 t4 t5 t6 t7 t8 t9 t10 : Tok} {ys : List Value} {X : List Int} {e e' : Nat}
    (St : LawSt w mean mg mb A env base h₀ L)
    (n0 : 0 ≤ n) (n1 : n ≤ 5) (d0 : 1 ≤ d) (d1 : d ≤ 40) (hod : od.data = .cell (some (.int d t2))) (hys : IntsAre ys X) (hX : (X.length : Int) = n) (hXb : ∀ z ∈ X, Builtin.Int.intBits z ≤ 2097152)
    (F : Fr h₀ L s.heap (kstB m₀ [(Str.ofString "r", .ref r), (Str.ofString "p", .ref p), (Str.ofString "given", .ref lg), (Str.ofString "ring", .ref ring), (Str.ofString "xs", .ref lx), (Str.ofString "n", .int n t1)]))
    (N : News h₀ L s.heap [(r, instObj Cr dr), (dr, polyD w.params t3 t4 ring lg), (p, instObj Cp dp), (dp, polyD w.params t5 t6 ring lg), (lg, listOf ys.toArray e'), (ring, instObj 59 rdx), (rdx, ringD w.params t7 t8 t9 t10 3329 n), (lx, listOf ys.toArray e), (L + 1 + 1, od), (L + 1, os)])
    (next : ∀ ly lz yv zv e1 e2 h' tk, IntsAre yv (X.map (compE d)) → IntsAre zv ((X.map (compE d)).map (decE d)) →
      Fr h₀ L h' (kstB m₀ [(Str.ofString "zs", .ref lz), (Str.ofString "ys", .ref ly), (Str.ofString "r", .ref r), (Str.ofString "p", .ref p), (Str.ofString "given", .ref lg), (Str.ofString "ring", .ref ring), (Str.ofString "xs", .ref lx), (Str.ofString "n", .int n t1)]) →
      News h₀ L h' [(lz, listOf zv.toArray e1), (ly, listOf yv.toArray e2), (r, instObj Cr dr), (dr, polyD w.params t3 t4 ring lg), (p, instObj Cp dp), (dp, polyD w.params t5 t6 ring lg), (lg, listOf ys.toArray e'), (ring, instObj 59 rdx), (rdx, ringD w.params t7 t8 t9 t10 3329 n), (lx, listOf ys.toArray e), (L + 1 + 1, od), (L + 1, os)] → dr ≠ lz → dp ≠ lz → dr ≠ ly → dp ≠ ly →
      wpAny (model P3 w) A (execs ((lawBody w.params).drop 10) env) Q E { s with heap := h', toks := tk }) :
    wpAny (model P3 w) A (execs ((lawBody w.params).drop 8) env) Q E s := by
  unfold LawSt P3 at *
  obtain ⟨dpp, un, gd, a, ccd, outer, A₀, rfl, rfl, B, X9, T, hdp, hun⟩ := St
  revert X9; k_fill; intro X9
  k_with_none
  have hyl : (ys.length : Int) = n := by have := hys.length; omega
  unfold lawScope lawBody lawFn at *
  dsimp only [FnAt.mk', List.drop] at *
  refine hide1 fun R hR => ?_
  repeat' (first | (k_unfold; (try dsimp only)) | ((try dsimp only); walk1))
  (rename _ ≠ _ ∧ _ ≠ _ ∧ _ ≠ _ ∧ _ ≠ _ ∧ _ => o8)
  have q1 := o8.2.1
  have q2 := o8.2.2.2.1
  clear o8
  subst hR
  refine hide1 fun R hR => ?_
  repeat' (first | (k_unfold; (try dsimp only)) | ((try dsimp only); walk1))
  (rename _ ≠ _ ∧ _ ≠ _ ∧ _ ≠ _ ∧ _ ≠ _ ∧ _ => o9)
  subst hR
  refine' next _ _ _ _ _ _ _ _ ?hy ?hz ?F ?N o9.2.2.1 o9.2.2.2.2.1 q1 q2
  case N => assumption
  case F => assumption
  case hy => assumption
  case hz => assumption
end

end Mine
end
section
open PySem PySem.W PyProof.Rows
namespace Mine
section
local macro_rules | `(tactic| k_mem) => `(tactic| first | (with_reducible assumption) | assumption | exact List.mem_cons_self | (refine' List.mem_cons_of_mem _ ?_; k_mem))
local macro_rules | `(tactic| walk_at "call builtin:len") => `(tactic| (k_here; (with_reducible show wpAny _ _ (call (Value.builtin "len") [Value.ref _]) _ _ _); k_dflt (refine' kst_len ?k1 ?k2 rfl ?k4 ?_; (case k1 => k_asm); (case k2 => k_mem); (case k4 => omega); k_whole)))
local macro_rules | `(tactic| tb_start) => `(tactic| exact Site.of (by k_asm) (by k_asm) (by k_asm) (by k_asm) (by k_asm) (by first | rfl | assumption) (by first | ((try simp only [depth_under_make, depth_under_kw, depth_in1, depth_deeper, depth_caller]); (try dsimp only [ktrTop]); omega) | ktr_room | decide) (by first | ((have hcL9 := cLine_is); (try simp only [units_under_make, units_in1, units_deeper, Around.mark_units, units_caller]); (try dsimp only [ktrTop]); omega) | ktr_units | decide))
local macro_rules | `(tactic| walk_at "call ref") => `(tactic| (k_here; (with_reducible show wpAny _ _ (call (Value.ref 373) _) _ _ _); k_dflt (refine' at_ok ?S ?hl ?hi ?hlen ?h1 ?h2 ?_; (case S => tb_start); (case hl => k_asm); (case hi => k_asm); (case hlen => omega); (case h1 => omega); (case h2 => omega); k_whole; intro t9 h9 tk9 F9 N9; (try dsimp only); (try k_fold))))
local macro_rules | `(tactic| walk_at "call ref") => `(tactic| (k_here; (with_reducible show wpAny _ _ (call (Value.ref 380) _) _ _ _); k_dflt (refine' kept_ok ?S ?h1 ?h2 ?_; (case S => tb_start); (case h1 => omega); (case h2 => omega); k_whole; intro t9 h9 tk9 F9 N9; (try dsimp only); (try k_fold))))

local macro_rules | `(tactic| walk_at "call ref") => `(tactic| (k_here; (with_reducible show wpAny _ _ (call (Value.ref 266) _) _ _ _); k_dflt (refine' comp_ok ?S ?hC ?hx ?hdx ?hl ?hi ?h0 ?h1 ?hb ?hlen ?hU ?_; (case S => tb_start); (case hx => k_mem); (case hC => first | assumption | exact .inl rfl | exact .inr rfl); (case hdx => k_mem); (case hl => k_mem); (case hi => assumption); (case h0 => omega); (case h1 => omega); (case hb => assumption); (case hlen => ((try simp only [List.length_map]); omega)); (case hU => k_updF); k_whole; intro h9 tk9 l9 vs9 nn9 F9 N9 o9 I9; (try dsimp only); (try dsimp only at N9); (try k_fold))))
local macro_rules | `(tactic| walk_at "call ref") => `(tactic| (k_here; (with_reducible show wpAny _ _ (call (Value.ref 271) _) _ _ _); k_dflt (refine' dec_ok ?S ?hC ?hx ?hdx ?hl ?hi ?h0 ?h1 ?hb ?hlen ?hU ?_; (case S => tb_start); (case hx => k_mem); (case hC => first | assumption | exact .inl rfl | exact .inr rfl); (case hdx => k_mem); (case hl => k_mem); (case hi => assumption); (case h0 => omega); (case h1 => omega); (case hb => assumption); (case hlen => ((try simp only [List.length_map]); omega)); (case hU => k_updF); k_whole; intro h9 tk9 l9 vs9 nn9 F9 N9 o9 I9; (try dsimp only); (try dsimp only at N9); (try k_fold))))

theorem dec_comp_map {X : List Int} {d : Int} (h : 12 ≤ d) : (X.map (compE d)).map (decE d) = X.map (fun x => x.fmod 3329) := by
  rw [List.map_map]
  exact List.map_congr_left fun x _ => dec_comp h
set_option maxRecDepth 100000 in
set_option maxHeartbeats 20000000 in
theorem seg4 {w : World} {mean : ExcName → Option Value} {mg mb : Str → Option Value} {A : Around} {env : Env} {base h₀ : Heap} {L ring rdx lg p dp r dr Cp Cr lx ly lz : Addr} {m₀ : Str → Option Value} {od os : Obj} {s : Shared} {Q : Flow → Shared → Prop} {E : Value → Shared → Prop}
    {n d : Int} {t1 t2 t3 t4 t5 t6 t7 t8 t9 t10 : Tok} {ys yv zv : List Value} {X : List Int} {e e' e1 e2 : Nat}
    (St : LawSt w mean mg mb A env base h₀ L) (hC : (Cp = 288 ∧ Cr = 364) ∨ (Cp = 364 ∧ Cr = 288))
    (n0 : 0 ≤ n) (n1 : n ≤ 5) (d0 : 1 ≤ d) (d1 : d ≤ 40) (hod : od.data = .cell (some (.int d t2))) (hys : IntsAre ys X) (hX : (X.length : Int) = n) (hXb : ∀ z ∈ X, Builtin.Int.intBits z ≤ 2097152)
    (hyv : IntsAre yv (X.map (compE d))) (hzv : IntsAre zv ((X.map (compE d)).map (decE d)))
    (F : Fr h₀ L s.heap (kstB m₀ [(Str.ofString "zs", .ref lz), (Str.ofString "ys", .ref ly), (Str.ofString "r", .ref r), (Str.ofString "p", .ref p), (Str.ofString "given", .ref lg), (Str.ofString "ring", .ref ring), (Str.ofString "xs", .ref lx), (Str.ofString "n", .int n t1)]))
    (N : News h₀ L s.heap [(lz, listOf zv.toArray e1), (ly, listOf yv.toArray e2), (r, instObj Cr dr), (dr, polyD w.params t3 t4 ring lg), (p, instObj Cp dp), (dp, polyD w.params t5 t6 ring lg), (lg, listOf ys.toArray e'), (ring, instObj 59 rdx), (rdx, ringD w.params t7 t8 t9 t10 3329 n), (lx, listOf ys.toArray e), (L + 1 + 1, od), (L + 1, os)])
    (a1 : AllLt dp [(lg, listOf ys.toArray e'), (ring, instObj 59 rdx), (rdx, ringD w.params t7 t8 t9 t10 3329 n), (lx, listOf ys.toArray e), (L + 1 + 1, od), (L + 1, os)]) (a2 : dp < p) (a3 : p < dr) (a4 : dr < r) (b1 : dp ≠ lz) (b2 : dp ≠ ly)
    (next : ∀ h' tk l' vs' nn', IntsAre vs' ((X.map (compE d)).map (decE d)) → dp ≠ l' →
      Fr h₀ L h' (kstB m₀ [(Str.ofString "told", .ref p), (Str.ofString "zs", .ref lz), (Str.ofString "ys", .ref ly), (Str.ofString "r", .ref r), (Str.ofString "p", .ref p), (Str.ofString "given", .ref lg), (Str.ofString "ring", .ref ring), (Str.ofString "xs", .ref lx), (Str.ofString "n", .int n t1)]) →
      News h₀ L h' [(l', listOf vs'.toArray nn'), (ly, listOf yv.toArray e2), (r, instObj Cr dr), (dr, polyD w.params t3 t4 ring lg), (p, instObj Cp dp), (dp, polyD w.params t5 t6 ring l'), (lg, listOf ys.toArray e'), (lx, listOf ys.toArray e), (L + 1 + 1, od), (L + 1, os)] →
      wpAny (model P3 w) A (execs ((lawBody w.params).drop 15) env) Q E { s with heap := h', toks := tk }) :
    wpAny (model P3 w) A (execs ((lawBody w.params).drop 10) env) Q E s := by
  unfold LawSt P3 at *
  obtain ⟨dpp, un, gd, a, ccd, outer, A₀, rfl, rfl, B, X9, T, hdp, hun⟩ := St
  revert X9; k_fill; intro X9
  k_with_none
  have hb1 := comp_mem_bits (X := X) d1
  have hb2 := dec_mem_bits (X := X) d0
  simp only [AllLt, and_true] at a1
  replace a2 := ltN a2
  replace a3 := ltN a3
  replace a4 := ltN a4
  replace b1 := neN b1
  replace b2 := neN b2
  unfold lawScope lawBody lawFn at *
  dsimp only [FnAt.mk', List.drop] at *
  rcases hC with ⟨rfl, rfl⟩ | ⟨rfl, rfl⟩
  all_goals (
    refine hide2 fun R hR => ?_
    repeat' (first | (k_unfold; (try dsimp only)) | ((try dsimp only); walk1))
    (try dsimp only)
    (rename LCg.Off1 _ _ => o9)
    have q9 := neN (off1_mem (a := dp) o9 (by k_mem))
    subst hR
    refine hide2 fun R hR => ?_
    repeat' (first | (k_unfold; (try dsimp only)) | ((try dsimp only); walk1))
    (try dsimp only)
    (rename LCg.Off1 _ _ => o8)
    have q8 := neN (off1_mem (a := dp) o8 (by k_mem))
    subst hR
    refine hide1 fun R hR => ?_
    repeat' (first | (k_unfold; (try dsimp only)) | ((try dsimp only); walk1))
    all_goals (try dsimp only)
    all_goals first
      | exact absurd (dec_comp_map (by assumption)) (by assumption)
      | (subst hR; exact next _ _ _ _ _ (by assumption) q8 (by assumption) (cb_drop (by assumption) (by k_allIn))))
end

end Mine
end
section
open PySem PySem.W PyProof.Rows
namespace Mine
section
local macro_rules | `(tactic| k_mem) => `(tactic| first | (with_reducible assumption) | assumption | exact List.mem_cons_self | (refine' List.mem_cons_of_mem _ ?_; k_mem))
local macro_rules | `(tactic| walk_at "call builtin:len") => `(tactic| (k_here; (with_reducible show wpAny _ _ (call (Value.builtin "len") [Value.ref _]) _ _ _); k_dflt (refine' kst_len ?k1 ?k2 rfl ?k4 ?_; (case k1 => k_asm); (case k2 => k_mem); (case k4 => omega); k_whole)))
local macro_rules | `(tactic| tb_start) => `(tactic| exact Site.of (by k_asm) (by k_asm) (by k_asm) (by k_asm) (by k_asm) (by first | rfl | assumption) (by first | ((try simp only [depth_under_make, depth_under_kw, depth_in1, depth_deeper, depth_caller]); (try dsimp only [ktrTop]); omega) | ktr_room | decide) (by first | ((have hcL9 := cLine_is); (try simp only [units_under_make, units_in1, units_deeper, Around.mark_units, units_caller]); (try dsimp only [ktrTop]); omega) | ktr_units | decide))
local macro_rules | `(tactic| walk_at "call ref") => `(tactic| (k_here; (with_reducible show wpAny _ _ (call (Value.ref 373) _) _ _ _); k_dflt (refine' at_ok ?S ?hl ?hi ?hlen ?h1 ?h2 ?_; (case S => tb_start); (case hl => k_asm); (case hi => k_asm); (case hlen => omega); (case h1 => omega); (case h2 => omega); k_whole; intro t9 h9 tk9 F9 N9; (try dsimp only); (try k_fold))))
local macro_rules | `(tactic| walk_at "call ref") => `(tactic| (k_here; (with_reducible show wpAny _ _ (call (Value.ref 380) _) _ _ _); k_dflt (refine' kept_ok ?S ?h1 ?h2 ?_; (case S => tb_start); (case h1 => omega); (case h2 => omega); k_whole; intro t9 h9 tk9 F9 N9; (try dsimp only); (try k_fold))))
local macro_rules | `(tactic| walk_at "call ref") => `(tactic| (k_here; (with_reducible show wpAny _ _ (call (Value.ref 387) _) _ _ _); k_dflt (refine' back_ok ?S ?h1 ?h2 ?h3 ?h4 ?_; (case S => tb_start); (case h1 => omega); (case h2 => omega); (case h3 => exact (fmod_small _ _ (two_pos _)).1); (case h4 => exact (fmod_small _ _ (two_pos _)).2); k_whole; intro t9 h9 tk9 F9 N9; (try dsimp only); (try k_fold))))

local macro_rules | `(tactic| walk_at "call ref") => `(tactic| (k_here; (with_reducible show wpAny _ _ (call (Value.ref 266) _) _ _ _); k_dflt (refine' comp_ok ?S ?hC ?hx ?hdx ?hl ?hi ?h0 ?h1 ?hb ?hlen ?hU ?_; (case S => tb_start); (case hx => k_mem); (case hC => first | assumption | exact .inl rfl | exact .inr rfl); (case hdx => k_mem); (case hl => k_mem); (case hi => assumption); (case h0 => omega); (case h1 => omega); (case hb => assumption); (case hlen => ((try simp only [List.length_map]); omega)); (case hU => k_updF); k_whole; intro h9 tk9 l9 vs9 nn9 F9 N9 o9 I9; (try dsimp only); (try dsimp only at N9); (try k_fold))))
local macro_rules | `(tactic| walk_at "call ref") => `(tactic| (k_here; (with_reducible show wpAny _ _ (call (Value.ref 271) _) _ _ _); k_dflt (refine' dec_ok ?S ?hC ?hx ?hdx ?hl ?hi ?h0 ?h1 ?hb ?hlen ?hU ?_; (case S => tb_start); (case hx => k_mem); (case hC => first | assumption | exact .inl rfl | exact .inr rfl); (case hdx => k_mem); (case hl => k_mem); (case hi => assumption); (case h0 => omega); (case h1 => omega); (case hb => assumption); (case hlen => ((try simp only [List.length_map]); omega)); (case hU => k_updF); k_whole; intro h9 tk9 l9 vs9 nn9 F9 N9 o9 I9; (try dsimp only); (try dsimp only at N9); (try k_fold))))

set_option maxRecDepth 100000 in
set_option maxHeartbeats 20000000 in
theorem seg5 {w : World} {mean : ExcName → Option Value} {mg mb : Str → Option Value} {A : Around} {env : Env} {base h₀ : Heap} {L ring p dp r dr Cp Cr lg lx ly lz l' : Addr} {m₀ : Str → Option Value} {od os : Obj} {s : Shared} {Q : Flow → Shared → Prop} {E : Value → Shared → Prop}
    {n d : Int} {t1 t2 t3 t4 t5 t6 : Tok} {ys yv vs' : List Value} {X : List Int} {e e' e2 nn' : Nat}
    (St : LawSt w mean mg mb A env base h₀ L) (hC : (Cp = 288 ∧ Cr = 364) ∨ (Cp = 364 ∧ Cr = 288))
    (n0 : 0 ≤ n) (n1 : n ≤ 5) (d0 : 1 ≤ d) (d1 : d ≤ 40) (hod : od.data = .cell (some (.int d t2))) (hX : (X.length : Int) = n)
    (hyv : IntsAre yv (X.map (compE d))) (hv' : IntsAre vs' ((X.map (compE d)).map (decE d)))
    (F : Fr h₀ L s.heap (kstB m₀ [(Str.ofString "told", .ref p), (Str.ofString "zs", .ref lz), (Str.ofString "ys", .ref ly), (Str.ofString "r", .ref r), (Str.ofString "p", .ref p), (Str.ofString "given", .ref lg), (Str.ofString "ring", .ref ring), (Str.ofString "xs", .ref lx), (Str.ofString "n", .int n t1)]))
    (N : News h₀ L s.heap [(l', listOf vs'.toArray nn'), (ly, listOf yv.toArray e2), (r, instObj Cr dr), (dr, polyD w.params t3 t4 ring lg), (p, instObj Cp dp), (dp, polyD w.params t5 t6 ring l'), (lg, listOf ys.toArray e'), (lx, listOf ys.toArray e), (L + 1 + 1, od), (L + 1, os)])
    (a1 : AllLt dp [(lg, listOf ys.toArray e'), (lx, listOf ys.toArray e), (L + 1 + 1, od), (L + 1, os)]) (a2 : dp < p) (a3 : p < dr) (a4 : dr < r) (b1 : dp ≠ l') (b2 : dp ≠ ly)
    (next : ∀ h' tk, Fr h₀ L h' (kstB m₀ [(Str.ofString "told", .ref p), (Str.ofString "zs", .ref lz), (Str.ofString "ys", .ref ly), (Str.ofString "r", .ref r), (Str.ofString "p", .ref p), (Str.ofString "given", .ref lg), (Str.ofString "ring", .ref ring), (Str.ofString "xs", .ref lx), (Str.ofString "n", .int n t1)]) →
      News h₀ L h' [(r, instObj Cr dr), (dr, polyD w.params t3 t4 ring lg), (lg, listOf ys.toArray e'), (lx, listOf ys.toArray e), (L + 1 + 1, od), (L + 1, os)] →
      wpAny (model P3 w) A (execs ((lawBody w.params).drop 17) env) Q E { s with heap := h', toks := tk }) :
    wpAny (model P3 w) A (execs ((lawBody w.params).drop 15) env) Q E s := by
  unfold LawSt P3 at *
  obtain ⟨dpp, un, gd, a, ccd, outer, A₀, rfl, rfl, B, X9, T, hdp, hun⟩ := St
  revert X9; k_fill; intro X9
  k_with_none
  have hb2 := dec_mem_bits (X := X) d0
  simp only [AllLt, and_true] at a1
  replace a2 := ltN a2
  replace a3 := ltN a3
  replace a4 := ltN a4
  replace b1 := neN b1
  replace b2 := neN b2
  unfold lawScope lawBody lawFn at *
  dsimp only [FnAt.mk', List.drop] at *
  rcases hC with ⟨rfl, rfl⟩ | ⟨rfl, rfl⟩
  all_goals (
    refine hide1 fun R hR => ?_
    repeat' (first | (k_unfold; (try dsimp only)) | ((try dsimp only); walk1))
    (try dsimp only)
    (rename LCg.Off1 _ _ => o9)
    clear o9
    (rename IntsAre _ (List.map _ (List.map _ (List.map _ _))) => I9)
    rw [comp_dec_comp_map d0] at I9
    subst hR
    refine hide1 fun R hR => ?_
    repeat' (first | (k_unfold; (try dsimp only)) | ((try dsimp only); walk1))
    (try dsimp only)
    subst hR
    exact next _ _ (by assumption) (cb_drop (by assumption) (by k_allIn)))
set_option maxRecDepth 100000 in
set_option maxHeartbeats 20000000 in
theorem seg6 {w : World} {mean : ExcName → Option Value} {mg mb : Str → Option Value} {A : Around} {env : Env} {base h₀ : Heap} {L ring p r dr Cr lg lx ly lz : Addr} {m₀ : Str → Option Value} {od os : Obj} {s : Shared} {Q : Flow → Shared → Prop} {E : Value → Shared → Prop}
    {n d : Int} {t1 t2 t3 t4 : Tok} {ys : List Value} {X : List Int} {e e' : Nat}
    (St : LawSt w mean mg mb A env base h₀ L) (hC : Cr = 288 ∨ Cr = 364)
    (n0 : 0 ≤ n) (n1 : n ≤ 5) (d0 : 1 ≤ d) (d1 : d ≤ 40) (hod : od.data = .cell (some (.int d t2))) (hys : IntsAre ys X) (hX : (X.length : Int) = n) (hXb : ∀ z ∈ X, Builtin.Int.intBits z ≤ 1048576)
    (F : Fr h₀ L s.heap (kstB m₀ [(Str.ofString "told", .ref p), (Str.ofString "zs", .ref lz), (Str.ofString "ys", .ref ly), (Str.ofString "r", .ref r), (Str.ofString "p", .ref p), (Str.ofString "given", .ref lg), (Str.ofString "ring", .ref ring), (Str.ofString "xs", .ref lx), (Str.ofString "n", .int n t1)]))
    (N : News h₀ L s.heap [(r, instObj Cr dr), (dr, polyD w.params t3 t4 ring lg), (lg, listOf ys.toArray e'), (lx, listOf ys.toArray e), (L + 1 + 1, od), (L + 1, os)])
    (a1 : AllLt dr [(lg, listOf ys.toArray e'), (lx, listOf ys.toArray e), (L + 1 + 1, od), (L + 1, os)]) (a4 : dr < r)
    (next : ∀ h' tk lb bv nb l' vs' nn', IntsAre bv (X.map (decE d)) → IntsAre vs' (X.map (decE d)) → dr ≠ lb → dr ≠ l' →
      Fr h₀ L h' (kstB m₀ [(Str.ofString "told", .ref r), (Str.ofString "back", .ref lb), (Str.ofString "told", .ref p), (Str.ofString "zs", .ref lz), (Str.ofString "ys", .ref ly), (Str.ofString "r", .ref r), (Str.ofString "p", .ref p), (Str.ofString "given", .ref lg), (Str.ofString "ring", .ref ring), (Str.ofString "xs", .ref lx), (Str.ofString "n", .int n t1)]) →
      News h₀ L h' [(l', listOf vs'.toArray nn'), (lb, listOf bv.toArray nb), (r, instObj Cr dr), (dr, polyD w.params t3 t4 ring l'), (lx, listOf ys.toArray e), (L + 1 + 1, od), (L + 1, os)] →
      wpAny (model P3 w) A (execs ((lawBody w.params).drop 20) env) Q E { s with heap := h', toks := tk }) :
    wpAny (model P3 w) A (execs ((lawBody w.params).drop 17) env) Q E s := by
  unfold LawSt P3 at *
  obtain ⟨dpp, un, gd, a, ccd, outer, A₀, rfl, rfl, B, X9, T, hdp, hun⟩ := St
  revert X9; k_fill; intro X9
  k_with_none
  have hb2 := bits_up hXb
  have hyl : (ys.length : Int) = n := by have := hys.length; omega
  simp only [AllLt, and_true] at a1
  replace a4 := ltN a4
  unfold lawScope lawBody lawFn at *
  dsimp only [FnAt.mk', List.drop] at *
  rcases hC with rfl | rfl
  all_goals (
    refine hide1 fun R hR => ?_
    repeat' (first | (k_unfold; (try dsimp only)) | ((try dsimp only); walk1))
    (try dsimp only)
    (rename _ ≠ _ ∧ _ ≠ _ ∧ _ => o9)
    have q9 := neN o9.2.1
    clear o9
    (rename IntsAre _ (List.map _ _) => I9)
    rw [back_map d0] at I9
    subst hR
    refine hide2 fun R hR => ?_
    repeat' (first | (k_unfold; (try dsimp only)) | ((try dsimp only); walk1))
    (try dsimp only)
    (rename LCg.Off1 _ _ => o8)
    have q8 := neN (off1_mem (a := dr) o8 (by k_mem))
    subst hR
    exact next _ _ _ _ _ _ _ _ I9 (by assumption) q9 q8 (by assumption) (cb_drop (by assumption) (by k_allIn)))
end

end Mine
end
section
open PySem PySem.W PyProof.Rows
namespace Mine
theorem kst_self {m : Str → Option Value} {ps : List (Str × Value)} (h : ∀ p ∈ ps, m p.1 = some p.2) : m = kstB m ps := by
  funext z
  exact (kstB_eq h fun _ => rfl).symm
section
local macro_rules | `(tactic| k_mem) => `(tactic| first | (with_reducible assumption) | assumption | exact List.mem_cons_self | (refine' List.mem_cons_of_mem _ ?_; k_mem))
local macro_rules | `(tactic| walk_at "call builtin:len") => `(tactic| (k_here; (with_reducible show wpAny _ _ (call (Value.builtin "len") [Value.ref _]) _ _ _); k_dflt (refine' kst_len ?k1 ?k2 rfl ?k4 ?_; (case k1 => k_asm); (case k2 => k_mem); (case k4 => omega); k_whole)))
local macro_rules | `(tactic| tb_start) => `(tactic| exact Site.of (by k_asm) (by k_asm) (by k_asm) (by k_asm) (by k_asm) (by first | rfl | assumption) (by first | ((try simp only [depth_under_make, depth_under_kw, depth_in1, depth_deeper, depth_caller]); (try dsimp only [ktrTop]); omega) | ktr_room | decide) (by first | ((have hcL9 := cLine_is); (try simp only [units_under_make, units_in1, units_deeper, Around.mark_units, units_caller]); (try dsimp only [ktrTop]); omega) | ktr_units | decide))
local macro_rules | `(tactic| walk_at "call ref") => `(tactic| (k_here; (with_reducible show wpAny _ _ (call (Value.ref 373) _) _ _ _); k_dflt (refine' at_ok ?S ?hl ?hi ?hlen ?h1 ?h2 ?_; (case S => tb_start); (case hl => k_asm); (case hi => k_asm); (case hlen => omega); (case h1 => omega); (case h2 => omega); k_whole; intro t9 h9 tk9 F9 N9; (try dsimp only); (try k_fold))))
local macro_rules | `(tactic| walk_at "call ref") => `(tactic| (k_here; (with_reducible show wpAny _ _ (call (Value.ref 380) _) _ _ _); k_dflt (refine' kept_ok ?S ?h1 ?h2 ?_; (case S => tb_start); (case h1 => omega); (case h2 => omega); k_whole; intro t9 h9 tk9 F9 N9; (try dsimp only); (try k_fold))))

local macro_rules | `(tactic| walk_at "call ref") => `(tactic| (k_here; (with_reducible show wpAny _ _ (call (Value.ref 266) _) _ _ _); k_dflt (refine' comp_ok ?S ?hC ?hx ?hdx ?hl ?hi ?h0 ?h1 ?hb ?hlen ?hU ?_; (case S => tb_start); (case hx => k_mem); (case hC => first | assumption | exact .inl rfl | exact .inr rfl); (case hdx => k_mem); (case hl => k_mem); (case hi => assumption); (case h0 => omega); (case h1 => omega); (case hb => assumption); (case hlen => ((try simp only [List.length_map]); omega)); (case hU => k_updF); k_whole; intro h9 tk9 l9 vs9 nn9 F9 N9 o9 I9; (try dsimp only); (try dsimp only at N9); (try k_fold))))
local macro_rules | `(tactic| walk_at "call ref") => `(tactic| (k_here; (with_reducible show wpAny _ _ (call (Value.ref 271) _) _ _ _); k_dflt (refine' dec_ok ?S ?hC ?hx ?hdx ?hl ?hi ?h0 ?h1 ?hb ?hlen ?hU ?_; (case S => tb_start); (case hx => k_mem); (case hC => first | assumption | exact .inl rfl | exact .inr rfl); (case hdx => k_mem); (case hl => k_mem); (case hi => assumption); (case h0 => omega); (case h1 => omega); (case hb => assumption); (case hlen => ((try simp only [List.length_map]); omega)); (case hU => k_updF); k_whole; intro h9 tk9 l9 vs9 nn9 F9 N9 o9 I9; (try dsimp only); (try dsimp only at N9); (try k_fold))))

set_option maxRecDepth 100000 in
set_option maxHeartbeats 20000000 in
theorem seg7 {w : World} {mean : ExcName → Option Value} {mg mb : Str → Option Value} {A : Around} {env : Env} {base h₀ : Heap} {L ring p r dr Cr lx ly lz lg lb l' : Addr} {m₀ : Str → Option Value} {od os : Obj} {s : Shared} {Q : Flow → Shared → Prop} {E : Value → Shared → Prop}
    {n d : Int} {t1 t2 t3 t4 : Tok} {ys bv vs' : List Value} {X : List Int} {e nb nn' : Nat}
    (St : LawSt w mean mg mb A env base h₀ L) (hC : Cr = 288 ∨ Cr = 364)
    (n0 : 0 ≤ n) (n1 : n ≤ 5) (d0 : 1 ≤ d) (d1 : d ≤ 40) (hod : od.data = .cell (some (.int d t2))) (hys : IntsAre ys X) (hX : (X.length : Int) = n) (hXb : ∀ z ∈ X, Builtin.Int.intBits z ≤ 1048576)
    (hbv : IntsAre bv (X.map (decE d))) (hv' : IntsAre vs' (X.map (decE d))) (b1 : dr ≠ lb) (b2 : dr ≠ l')
    (F : Fr h₀ L s.heap (kstB m₀ [(Str.ofString "told", .ref r), (Str.ofString "back", .ref lb), (Str.ofString "told", .ref p), (Str.ofString "zs", .ref lz), (Str.ofString "ys", .ref ly), (Str.ofString "r", .ref r), (Str.ofString "p", .ref p), (Str.ofString "given", .ref lg), (Str.ofString "ring", .ref ring), (Str.ofString "xs", .ref lx), (Str.ofString "n", .int n t1)]))
    (N : News h₀ L s.heap [(l', listOf vs'.toArray nn'), (lb, listOf bv.toArray nb), (r, instObj Cr dr), (dr, polyD w.params t3 t4 ring l'), (lx, listOf ys.toArray e), (L + 1 + 1, od), (L + 1, os)])
    (a1 : AllLt dr [(lx, listOf ys.toArray e), (L + 1 + 1, od), (L + 1, os)]) (a4 : dr < r)
    (next : ∀ h' tk m₁ lb bv nb l' vs' nn' K, IntsAre bv K → IntsAre vs' K → (K.length : Int) = n → (∀ z ∈ K, Builtin.Int.intBits z ≤ 2097152) → dr ≠ lb → dr ≠ l' →
      Fr h₀ L h' (kstB m₁ [(Str.ofString "back", .ref lb), (Str.ofString "r", .ref r), (Str.ofString "n", .int n t1)]) →
      News h₀ L h' [(l', listOf vs'.toArray nn'), (lb, listOf bv.toArray nb), (r, instObj Cr dr), (dr, polyD w.params t3 t4 ring l'), (L + 1 + 1, od), (L + 1, os)] →
      wpAny (model P3 w) A (execs ((lawBody w.params).drop 21) env) Q E { s with heap := h', toks := tk }) :
    wpAny (model P3 w) A (execs ((lawBody w.params).drop 20) env) Q E s := by
  unfold LawSt P3 at *
  obtain ⟨dpp, un, gd, a, ccd, outer, A₀, rfl, rfl, B, X9, T, hdp, hun⟩ := St
  revert X9; k_fill; intro X9
  k_with_none
  have hb2 := decE_bits d0 d1 hXb
  have hyl : (ys.length : Int) = n := by have := hys.length; omega
  have hKl : ((X.map (decE d)).length : Int) = n := by rw [List.length_map]; exact hX
  simp only [AllLt, and_true] at a1
  replace a4 := ltN a4
  replace b1 := neN b1
  replace b2 := neN b2
  unfold lawScope lawBody lawFn at *
  dsimp only [FnAt.mk', List.drop] at *
  rcases hC with rfl | rfl
  all_goals (
    refine hide1 fun R hR => ?_
    repeat' (first | (k_unfold; (try dsimp only)) | ((try dsimp only); walk1))
    all_goals (try dsimp only)
    · (rename LCg.Off1 _ _ => o9)
      have q9 := neN (off1_mem (a := dr) o9 (by k_mem))
      (rename _ ≠ _ ∧ _ ≠ _ ∧ _ ≠ _ ∧ _ ≠ _ ∧ _ ≠ _ ∧ _ => o8)
      have q8 := neN o8.2.2.2.2.1
      (rename IntsAre _ (List.map (compE d) _) => I9)
      rw [comp_dec_map d0 (by assumption)] at I9
      subst hR
      exact next _ _ _ _ _ _ _ _ _ _ (by assumption) I9 (by rw [List.length_map]; exact hX) (fmod_bits d1) q8 q9 (frM (by assumption) (kst_self (List.forall_mem_cons.mpr ⟨rfl, List.forall_mem_cons.mpr ⟨rfl, List.forall_mem_cons.mpr ⟨rfl, List.forall_mem_nil _⟩⟩⟩))) (cb_drop (by assumption) (by k_allIn))
    · exact absurd (comp_dec_map d0 (by assumption)) (by assumption)
    · subst hR
      exact next _ _ _ _ _ _ _ _ _ _ hbv hv' hKl hb2 b1 b2 (frM (by assumption) (kst_self (List.forall_mem_cons.mpr ⟨rfl, List.forall_mem_cons.mpr ⟨rfl, List.forall_mem_cons.mpr ⟨rfl, List.forall_mem_nil _⟩⟩⟩))) (cb_drop (by assumption) (by k_allIn)))
end

end Mine
end
section
open PySem PySem.W PyProof.Rows
namespace Mine
section
local macro_rules | `(tactic| k_mem) => `(tactic| first | (with_reducible assumption) | assumption | exact List.mem_cons_self | (refine' List.mem_cons_of_mem _ ?_; k_mem))
local macro_rules | `(tactic| walk_at "call builtin:len") => `(tactic| (k_here; (with_reducible show wpAny _ _ (call (Value.builtin "len") [Value.ref _]) _ _ _); k_dflt (refine' kst_len ?k1 ?k2 rfl ?k4 ?_; (case k1 => k_asm); (case k2 => k_mem); (case k4 => omega); k_whole)))
local macro_rules | `(tactic| tb_start) => `(tactic| exact Site.of (by k_asm) (by k_asm) (by k_asm) (by k_asm) (by k_asm) (by first | rfl | assumption) (by first | ((try simp only [depth_under_make, depth_under_kw, depth_in1, depth_deeper, depth_caller]); (try dsimp only [ktrTop]); omega) | ktr_room | decide) (by first | ((have hcL9 := cLine_is); (try simp only [units_under_make, units_in1, units_deeper, Around.mark_units, units_caller]); (try dsimp only [ktrTop]); omega) | ktr_units | decide))
local macro_rules | `(tactic| walk_at "call ref") => `(tactic| (k_here; (with_reducible show wpAny _ _ (call (Value.ref 373) _) _ _ _); k_dflt (refine' at_ok ?S ?hl ?hi ?hlen ?h1 ?h2 ?_; (case S => tb_start); (case hl => k_asm); (case hi => k_asm); (case hlen => omega); (case h1 => omega); (case h2 => omega); k_whole; intro t9 h9 tk9 F9 N9; (try dsimp only); (try k_fold))))
local macro_rules | `(tactic| walk_at "call ref") => `(tactic| (k_here; (with_reducible show wpAny _ _ (call (Value.ref 380) _) _ _ _); k_dflt (refine' kept_ok ?S ?h1 ?h2 ?_; (case S => tb_start); (case h1 => omega); (case h2 => omega); k_whole; intro t9 h9 tk9 F9 N9; (try dsimp only); (try k_fold))))

local macro_rules | `(tactic| walk_at "call ref") => `(tactic| (k_here; (with_reducible show wpAny _ _ (call (Value.ref 266) _) _ _ _); k_dflt (refine' comp_nil ?S ?hC ?hx ?hdx ?hl ?hi ?hns ?hU ?_; (case S => tb_start); (case hx => k_mem); (case hC => first | assumption | exact .inl rfl | exact .inr rfl); (case hdx => k_mem); (case hl => k_mem); (case hi => assumption); (case hns => first | rfl | assumption); (case hU => k_updF); k_whole; intro h9 tk9 l9 vs9 nn9 F9 N9 o9 I9; (try dsimp only); (try dsimp only at N9); (try k_fold))))
local macro_rules | `(tactic| walk_at "call ref") => `(tactic| (k_here; (with_reducible show wpAny _ _ (call (Value.ref 271) _) _ _ _); k_dflt (refine' dec_nil ?S ?hC ?hx ?hdx ?hl ?hi ?hns ?hU ?_; (case S => tb_start); (case hx => k_mem); (case hC => first | assumption | exact .inl rfl | exact .inr rfl); (case hdx => k_mem); (case hl => k_mem); (case hi => assumption); (case hns => first | rfl | assumption); (case hU => k_updF); k_whole; intro h9 tk9 l9 vs9 nn9 F9 N9 o9 I9; (try dsimp only); (try dsimp only at N9); (try k_fold))))
local macro_rules | `(tactic| walk_at "exec Try") => `(tactic| (k_here; refine wpAny_Try_except ?_))
set_option maxRecDepth 100000 in
set_option maxHeartbeats 20000000 in
theorem seg8a {w : World} {mean : ExcName → Option Value} {mg mb : Str → Option Value} {A : Around} {env : Env} {base h₀ : Heap} {L ring r dr Cr lb l' : Addr} {m₁ : Str → Option Value} {od os : Obj} {s : Shared} {Q : Flow → Shared → Prop}
    {n j : Int} {t1 t2 t3 t4 : Tok} {bv vs' : List Value} {nb nn' : Nat}
    (St : LawSt w mean mg mb A env base h₀ L) (hC : Cr = 288 ∨ Cr = 364)
    (n0 : n = 0) (hbv : IntsAre bv []) (hv' : IntsAre vs' []) (b1 : dr ≠ lb) (b2 : dr ≠ l') (a4 : dr < r) (a5 : L + 1 + 1 < dr)
    (F : Fr h₀ L s.heap (kstB m₁ [(Str.ofString "refused", .bool false), (Str.ofString "none", .int j t2), (Str.ofString "back", .ref lb), (Str.ofString "r", .ref r), (Str.ofString "n", .int n t1)]))
    (N : News h₀ L s.heap [(l', listOf vs'.toArray nn'), (lb, listOf bv.toArray nb), (r, instObj Cr dr), (dr, polyD w.params t3 t4 ring l'), (L + 1 + 1, od), (L + 1, os)])
    (fin : ∀ h' tk m' news', Fr h₀ L h' m' → News h₀ L h' news' → Q (.ret (.bool true)) { s with heap := h', toks := tk }) :
    wpAny (model P3 w) A (execs ((lawBody w.params).drop 23) env) Q (fun _ _ => False) s := by
  unfold LawSt P3 at *
  obtain ⟨dpp, un, gd, a, ccd, outer, A₀, rfl, rfl, B, X9, T, hdp, hun⟩ := St
  revert X9; k_fill; intro X9
  k_with_none
  subst n0
  replace a4 := ltN a4
  replace a5 := ltN a5
  replace b1 := neN b1
  replace b2 := neN b2
  unfold lawScope lawBody lawFn at *
  dsimp only [FnAt.mk', List.drop] at *
  rcases hC with rfl | rfl
  all_goals (
    refine hide2 fun R hR => ?_
    repeat' (first | (k_unfold; (try dsimp only)) | ((try dsimp only); walk1))
    all_goals (try dsimp only)
    (rename LCg.Off1 _ _ => o9)
    have q9 := neN (off1_mem (a := dr) o9 (by k_mem))
    subst hR
    repeat' (first | (k_unfold; (try dsimp only)) | ((try dsimp only); walk1))
    all_goals (try dsimp only)
    all_goals (exact fin _ _ _ _ (by k_asm) (by k_asm)))
end

end Mine
end
section
open PySem PySem.W PyProof.Rows
namespace Mine
section
local macro_rules | `(tactic| k_mem) => `(tactic| first | (with_reducible assumption) | assumption | exact List.mem_cons_self | (refine' List.mem_cons_of_mem _ ?_; k_mem))
local macro_rules | `(tactic| walk_at "call builtin:len") => `(tactic| (k_here; (with_reducible show wpAny _ _ (call (Value.builtin "len") [Value.ref _]) _ _ _); k_dflt (refine' kst_len ?k1 ?k2 rfl ?k4 ?_; (case k1 => k_asm); (case k2 => k_mem); (case k4 => omega); k_whole)))
local macro_rules | `(tactic| tb_start) => `(tactic| exact Site.of (by k_asm) (by k_asm) (by k_asm) (by k_asm) (by k_asm) (by first | rfl | assumption) (by first | ((try simp only [depth_under_make, depth_under_kw, depth_in1, depth_deeper, depth_caller]); (try dsimp only [ktrTop]); omega) | ktr_room | decide) (by first | ((have hcL9 := cLine_is); (try simp only [units_under_make, units_in1, units_deeper, Around.mark_units, units_caller]); (try dsimp only [ktrTop]); omega) | ktr_units | decide))
local macro_rules | `(tactic| walk_at "call ref") => `(tactic| (k_here; (with_reducible show wpAny _ _ (call (Value.ref 373) _) _ _ _); k_dflt (refine' at_ok ?S ?hl ?hi ?hlen ?h1 ?h2 ?_; (case S => tb_start); (case hl => k_asm); (case hi => k_asm); (case hlen => omega); (case h1 => omega); (case h2 => omega); k_whole; intro t9 h9 tk9 F9 N9; (try dsimp only); (try k_fold))))
local macro_rules | `(tactic| walk_at "call ref") => `(tactic| (k_here; (with_reducible show wpAny _ _ (call (Value.ref 380) _) _ _ _); k_dflt (refine' kept_ok ?S ?h1 ?h2 ?_; (case S => tb_start); (case h1 => omega); (case h2 => omega); k_whole; intro t9 h9 tk9 F9 N9; (try dsimp only); (try k_fold))))
local macro_rules | `(tactic| walk_at "call ref") => `(tactic| (k_here; (with_reducible show wpAny _ _ (call (Value.ref 271) _) _ _ _); k_dflt (refine' dec_raise ?kB ?kF ?kX ?kN ?kT ?kk ?kdp ?kun ?hC ?hx ?hdx ?hl ?hi ?hpos ?h0 ?h1 ?_; (case kB => k_asm); (case kF => k_asm); (case kX => k_asm); (case kN => k_asm); (case kT => k_asm); (case kk => first | rfl | assumption); (case kdp => omega); (case kun => omega); (case hx => k_mem); (case hC => first | assumption | exact .inl rfl | exact .inr rfl); (case hdx => k_mem); (case hl => k_mem); (case hi => assumption); (case hpos => assumption); (case h0 => omega); (case h1 => omega); k_whole); intro e9 g9 h9 tk9 Fg9 up9 R9; (try dsimp only)))
local macro_rules | `(tactic| walk_at "call ref") => `(tactic| (k_here; (with_reducible show wpAny _ _ (call (Value.ref 266) _) _ _ _); k_dflt (refine' comp_raise ?kB ?kF ?kX ?kN ?kT ?kk ?kdp ?kun ?hC ?hx ?hdx ?hl ?hi ?hpos ?h0 ?h1 ?_; (case kB => k_asm); (case kF => k_asm); (case kX => k_asm); (case kN => k_asm); (case kT => k_asm); (case kk => first | rfl | assumption); (case kdp => omega); (case kun => omega); (case hx => k_mem); (case hC => first | assumption | exact .inl rfl | exact .inr rfl); (case hdx => k_mem); (case hl => k_mem); (case hi => assumption); (case hpos => assumption); (case h0 => omega); (case h1 => omega); k_whole); intro e9 g9 h9 tk9 Fg9 up9 R9; (try dsimp only)))
local macro_rules | `(tactic| walk_at "noteFrame ref") => `(tactic| (k_here; k_dflt (refine' caught_X rfl rfl ?cF ?cU ?cR ?cn ?_; (case cF => k_asm); (case cU => k_asm); (case cR => k_asm); (case cn => (intro A9 E9 s9 Q9 F9 q9; refine' nameX_B F9 ?X ?T ?e ?v ?n q9 ?a ?b; (case X => k_asm); (case T => exact topRead_of (by assumption)); (case e => k_is); (case v => exact PyProof.Rows.Boot.«ValueError»); (case n => decide); (case a => rfl); (case b => rfl))); k_whole); intro h9 F9 N9; (try dsimp only)))
local macro_rules | `(tactic| walk_at "exec Try") => `(tactic| (k_here; refine wpAny_Try_except ?_))
set_option maxRecDepth 100000 in
set_option maxHeartbeats 20000000 in
theorem seg8b {w : World} {mean : ExcName → Option Value} {mg mb : Str → Option Value} {A : Around} {env : Env} {h₀ : Heap} {L ring r dr Cr lb l' : Addr} {m₁ : Str → Option Value} {od os : Obj} {s : Shared} {Q : Flow → Shared → Prop}
    {n j : Int} {t1 t2 t3 t4 : Tok} {bv vs' : List Value} {K : List Int} {nb nn' : Nat}
    (St : LawSt w mean mg mb A env h₀ h₀ L) (hC : Cr = 288 ∨ Cr = 364)
    (n0 : 0 < n) (n1 : n ≤ 5) (hK : (K.length : Int) = n) (hKb : ∀ z ∈ K, Builtin.Int.intBits z ≤ 2097152) (j0 : j < 0) (j1 : -3 ≤ j) (hbv : IntsAre bv K) (hv' : IntsAre vs' K) (b1 : dr ≠ lb) (b2 : dr ≠ l') (a4 : dr < r) (a5 : L + 1 + 1 < dr)
    (F : Fr h₀ L s.heap (kstB m₁ [(Str.ofString "refused", .bool false), (Str.ofString "none", .int j t2), (Str.ofString "back", .ref lb), (Str.ofString "r", .ref r), (Str.ofString "n", .int n t1)]))
    (N : News h₀ L s.heap [(l', listOf vs'.toArray nn'), (lb, listOf bv.toArray nb), (r, instObj Cr dr), (dr, polyD w.params t3 t4 ring l'), (L + 1 + 1, od), (L + 1, os)])
    (fin : ∀ h' tk m' news', Fr h₀ L h' m' → News h₀ L h' news' → Q (.ret (.bool true)) { s with heap := h', toks := tk }) :
    wpAny (model P3 w) A (execs ((lawBody w.params).drop 23) env) Q (fun _ _ => False) s := by
  unfold LawSt P3 at *
  obtain ⟨dpp, un, gd, a, ccd, outer, A₀, rfl, rfl, B, X9, T, hdp, hun⟩ := St
  revert X9; k_fill; intro X9
  k_with_none
  have hpos : 0 < K.length := by omega
  replace a4 := ltN a4
  replace a5 := ltN a5
  replace b1 := neN b1
  replace b2 := neN b2
  unfold lawScope lawBody lawFn at *
  dsimp only [FnAt.mk', List.drop] at *
  rcases hC with rfl | rfl
  all_goals (
    refine hide2 fun R hR => ?_
    repeat' (first | (k_unfold; (try dsimp only)) | ((try dsimp only); walk1))
    all_goals (try dsimp only)
    · exfalso
      (rename (true != _) = true => hb9)
      simp [n0] at hb9
    subst hR
    repeat' (first | (k_unfold; (try dsimp only)) | ((try dsimp only); walk1))
    all_goals (try dsimp only)
    · exfalso
      (rename (true != _) = true => hb9)
      simp [j0] at hb9
    · exfalso
      omega
    · exact fin _ _ _ _ (by k_asm) (by k_asm))
end
theorem zeros_eq {K : List Int} {n : Int} (hK : (K.length : Int) = n) : K.map (compE 0) = (rangeKs 0 (n - 0).toNat).map (fun _ => 0) := by
  apply List.ext_getElem
  · simp only [List.length_map, rangeKs_length]
    omega
  · intro i h1 h2
    simp only [List.getElem_map, comp_zero]
section
local macro_rules | `(tactic| k_mem) => `(tactic| first | (with_reducible assumption) | assumption | exact List.mem_cons_self | (refine' List.mem_cons_of_mem _ ?_; k_mem))
local macro_rules | `(tactic| walk_at "call builtin:len") => `(tactic| (k_here; (with_reducible show wpAny _ _ (call (Value.builtin "len") [Value.ref _]) _ _ _); k_dflt (refine' kst_len ?k1 ?k2 rfl ?k4 ?_; (case k1 => k_asm); (case k2 => k_mem); (case k4 => omega); k_whole)))
local macro_rules | `(tactic| tb_start) => `(tactic| exact Site.of (by k_asm) (by k_asm) (by k_asm) (by k_asm) (by k_asm) (by first | rfl | assumption) (by first | ((try simp only [depth_under_make, depth_under_kw, depth_in1, depth_deeper, depth_caller]); (try dsimp only [ktrTop]); omega) | ktr_room | decide) (by first | ((have hcL9 := cLine_is); (try simp only [units_under_make, units_in1, units_deeper, Around.mark_units, units_caller]); (try dsimp only [ktrTop]); omega) | ktr_units | decide))
local macro_rules | `(tactic| walk_at "call ref") => `(tactic| (k_here; (with_reducible show wpAny _ _ (call (Value.ref 373) _) _ _ _); k_dflt (refine' at_ok ?S ?hl ?hi ?hlen ?h1 ?h2 ?_; (case S => tb_start); (case hl => k_asm); (case hi => k_asm); (case hlen => omega); (case h1 => omega); (case h2 => omega); k_whole; intro t9 h9 tk9 F9 N9; (try dsimp only); (try k_fold))))
local macro_rules | `(tactic| walk_at "call ref") => `(tactic| (k_here; (with_reducible show wpAny _ _ (call (Value.ref 380) _) _ _ _); k_dflt (refine' kept_ok ?S ?h1 ?h2 ?_; (case S => tb_start); (case h1 => omega); (case h2 => omega); k_whole; intro t9 h9 tk9 F9 N9; (try dsimp only); (try k_fold))))
local macro_rules | `(tactic| walk_at "call ref") => `(tactic| (k_here; (with_reducible show wpAny _ _ (call (Value.ref 271) _) _ _ _); k_dflt (refine' dec_raise ?kB ?kF ?kX ?kN ?kT ?kk ?kdp ?kun ?hC ?hx ?hdx ?hl ?hi ?hpos ?h0 ?h1 ?_; (case kB => k_asm); (case kF => k_asm); (case kX => k_asm); (case kN => k_asm); (case kT => k_asm); (case kk => first | rfl | assumption); (case kdp => omega); (case kun => omega); (case hx => k_mem); (case hC => first | assumption | exact .inl rfl | exact .inr rfl); (case hdx => k_mem); (case hl => k_mem); (case hi => assumption); (case hpos => assumption); (case h0 => omega); (case h1 => omega); k_whole); intro e9 g9 h9 tk9 Fg9 up9 R9; (try dsimp only)))
local macro_rules | `(tactic| walk_at "call ref") => `(tactic| (k_here; (with_reducible show wpAny _ _ (call (Value.ref 266) _) _ _ _); k_dflt (refine' comp_raise ?kB ?kF ?kX ?kN ?kT ?kk ?kdp ?kun ?hC ?hx ?hdx ?hl ?hi ?hpos ?h0 ?h1 ?_; (case kB => k_asm); (case kF => k_asm); (case kX => k_asm); (case kN => k_asm); (case kT => k_asm); (case kk => first | rfl | assumption); (case kdp => omega); (case kun => omega); (case hx => k_mem); (case hC => first | assumption | exact .inl rfl | exact .inr rfl); (case hdx => k_mem); (case hl => k_mem); (case hi => assumption); (case hpos => assumption); (case h0 => omega); (case h1 => omega); k_whole); intro e9 g9 h9 tk9 Fg9 up9 R9; (try dsimp only)))
local macro_rules | `(tactic| walk_at "noteFrame ref") => `(tactic| (k_here; k_dflt (refine' caught_X rfl rfl ?cF ?cU ?cR ?cn ?_; (case cF => k_asm); (case cU => k_asm); (case cR => k_asm); (case cn => (intro A9 E9 s9 Q9 F9 q9; refine' nameX_B F9 ?X ?T ?e ?v ?n q9 ?a ?b; (case X => k_asm); (case T => exact topRead_of (by assumption)); (case e => k_is); (case v => exact PyProof.Rows.Boot.«ValueError»); (case n => decide); (case a => rfl); (case b => rfl))); k_whole); intro h9 F9 N9; (try dsimp only)))
local macro_rules | `(tactic| walk_at "exec Try") => `(tactic| (k_here; refine wpAny_Try_except ?_))
local macro_rules | `(tactic| walk_at "call ref") => `(tactic| (k_here; (with_reducible show wpAny _ _ (call (Value.ref 266) _) _ _ _); k_dflt (refine' comp_ok ?S ?hC ?hx ?hdx ?hl ?hi ?h0 ?h1 ?hb ?hlen ?hU ?_; (case S => tb_start); (case hx => k_mem); (case hC => first | assumption | exact .inl rfl | exact .inr rfl); (case hdx => k_mem); (case hl => k_mem); (case hi => assumption); (case h0 => omega); (case h1 => omega); (case hb => assumption); (case hlen => ((try simp only [List.length_map]); omega)); (case hU => k_updF); k_whole; intro h9 tk9 l9 vs9 nn9 F9 N9 o9 I9; (try dsimp only); (try dsimp only at N9); (try k_fold))))
set_option maxRecDepth 100000 in
set_option maxHeartbeats 20000000 in
theorem seg8c {w : World} {mean : ExcName → Option Value} {mg mb : Str → Option Value} {A : Around} {env : Env} {h₀ : Heap} {L ring r dr Cr lb l' : Addr} {m₁ : Str → Option Value} {od os : Obj} {s : Shared} {Q : Flow → Shared → Prop}
    {n j : Int} {t1 t2 t3 t4 : Tok} {bv vs' : List Value} {K : List Int} {nb nn' : Nat}
    (St : LawSt w mean mg mb A env h₀ h₀ L) (hC : Cr = 288 ∨ Cr = 364)
    (n0 : 0 < n) (n1 : n ≤ 5) (hK : (K.length : Int) = n) (hKb : ∀ z ∈ K, Builtin.Int.intBits z ≤ 2097152) (j0 : j = 0) (hbv : IntsAre bv K) (hv' : IntsAre vs' K) (b1 : dr ≠ lb) (b2 : dr ≠ l') (a4 : dr < r) (a5 : L + 1 + 1 < dr)
    (F : Fr h₀ L s.heap (kstB m₁ [(Str.ofString "refused", .bool false), (Str.ofString "none", .int j t2), (Str.ofString "back", .ref lb), (Str.ofString "r", .ref r), (Str.ofString "n", .int n t1)]))
    (N : News h₀ L s.heap [(l', listOf vs'.toArray nn'), (lb, listOf bv.toArray nb), (r, instObj Cr dr), (dr, polyD w.params t3 t4 ring l'), (L + 1 + 1, od), (L + 1, os)])
    (fin : ∀ h' tk m' news', Fr h₀ L h' m' → News h₀ L h' news' → Q (.ret (.bool true)) { s with heap := h', toks := tk }) :
    wpAny (model P3 w) A (execs ((lawBody w.params).drop 23) env) Q (fun _ _ => False) s := by
  unfold LawSt P3 at *
  obtain ⟨dpp, un, gd, a, ccd, outer, A₀, rfl, rfl, B, X9, T, hdp, hun⟩ := St
  revert X9; k_fill; intro X9
  k_with_none
  have hpos : 0 < K.length := by omega
  subst j0
  replace a4 := ltN a4
  replace a5 := ltN a5
  replace b1 := neN b1
  replace b2 := neN b2
  unfold lawScope lawBody lawFn at *
  dsimp only [FnAt.mk', List.drop] at *
  rcases hC with rfl | rfl
  all_goals (
    refine hide2 fun R hR => ?_
    repeat' (first | (k_unfold; (try dsimp only)) | ((try dsimp only); walk1))
    all_goals (try dsimp only)
    · exfalso
      (rename (true != _) = true => hb9)
      simp [n0] at hb9
    subst hR
    repeat' (first | (k_unfold; (try dsimp only)) | ((try dsimp only); walk1))
    all_goals (try dsimp only)
    rw [decide_eq_true (zeros_eq hK)]
    exact fin _ _ _ _ (by k_asm) (by k_asm))
end

end Mine
end
section
open PySem PySem.W PyProof.Rows
namespace Mine
section
local macro_rules | `(tactic| k_mem) => `(tactic| first | (with_reducible assumption) | assumption | exact List.mem_cons_self | (refine' List.mem_cons_of_mem _ ?_; k_mem))
local macro_rules | `(tactic| walk_at "call builtin:len") => `(tactic| (k_here; (with_reducible show wpAny _ _ (call (Value.builtin "len") [Value.ref _]) _ _ _); k_dflt (refine' kst_len ?k1 ?k2 rfl ?k4 ?_; (case k1 => k_asm); (case k2 => k_mem); (case k4 => omega); k_whole)))
local macro_rules | `(tactic| tb_start) => `(tactic| exact Site.of (by k_asm) (by k_asm) (by k_asm) (by k_asm) (by k_asm) (by first | rfl | assumption) (by first | ((try simp only [depth_under_make, depth_under_kw, depth_in1, depth_deeper, depth_caller]); (try dsimp only [ktrTop]); omega) | ktr_room | decide) (by first | ((have hcL9 := cLine_is); (try simp only [units_under_make, units_in1, units_deeper, Around.mark_units, units_caller]); (try dsimp only [ktrTop]); omega) | ktr_units | decide))
local macro_rules | `(tactic| walk_at "call ref") => `(tactic| (k_here; (with_reducible show wpAny _ _ (call (Value.ref 373) _) _ _ _); k_dflt (refine' at_ok ?S ?hl ?hi ?hlen ?h1 ?h2 ?_; (case S => tb_start); (case hl => k_asm); (case hi => k_asm); (case hlen => omega); (case h1 => omega); (case h2 => omega); k_whole; intro t9 h9 tk9 F9 N9; (try dsimp only); (try k_fold))))
local macro_rules | `(tactic| walk_at "call ref") => `(tactic| (k_here; (with_reducible show wpAny _ _ (call (Value.ref 380) _) _ _ _); k_dflt (refine' kept_ok ?S ?h1 ?h2 ?_; (case S => tb_start); (case h1 => omega); (case h2 => omega); k_whole; intro t9 h9 tk9 F9 N9; (try dsimp only); (try k_fold))))
set_option maxRecDepth 100000 in
set_option maxHeartbeats 20000000 in
theorem seg8h {w : World} {mean : ExcName → Option Value} {mg mb : Str → Option Value} {A : Around} {env : Env} {base h₀ : Heap} {L sc r lb : Addr} {m₁ : Str → Option Value} {os od : Obj} {s : Shared} {Q : Flow → Shared → Prop} {E : Value → Shared → Prop}
    {n : Int} {t1 : Tok} {vs : List Value} {ns : List Int} {rest : List (Addr × Obj)}
    (St : LawSt w mean mg mb A env base h₀ L) (hos : os.data = .cell (some (.ref sc))) (hl : base.IsList sc vs.toArray) (hi : IntsAre vs ns) (hlen : ns.length ≤ 63)
    (F : Fr h₀ L s.heap (kstB m₁ [(Str.ofString "back", .ref lb), (Str.ofString "r", .ref r), (Str.ofString "n", .int n t1)]))
    (N : News h₀ L s.heap ((L + 1, os) :: rest))
    (next : ∀ j t2 h' tk, -3 ≤ j → j ≤ 0 → Fr h₀ L h' (kstB m₁ [(Str.ofString "refused", .bool false), (Str.ofString "none", .int j t2), (Str.ofString "back", .ref lb), (Str.ofString "r", .ref r), (Str.ofString "n", .int n t1)]) →
      News h₀ L h' ((L + 1, os) :: rest) → wpAny (model P3 w) A (execs ((lawBody w.params).drop 23) env) Q E { s with heap := h', toks := tk }) :
    wpAny (model P3 w) A (execs ((lawBody w.params).drop 21) env) Q E s := by
  unfold LawSt P3 at *
  obtain ⟨dpp, un, gd, a, ccd, outer, A₀, rfl, rfl, B, X9, T, hdp, hun⟩ := St
  revert X9; k_fill; intro X9
  k_with_none
  unfold lawScope lawBody lawFn at *
  dsimp only [FnAt.mk', List.drop] at *
  refine hide2 fun R hR => ?_
  repeat' (first | (k_unfold; (try dsimp only)) | ((try dsimp only); walk1))
  (try dsimp only)
  subst hR
  obtain ⟨j0, j1⟩ := fmod_small (at3 ns 2) 4 (by decide)
  exact next (0 - Int.fmod (at3 ns 2) 4) _ _ _ (by omega) (by omega) (by k_asm) (by k_asm)
end

end Mine
end
section
open PySem PySem.W PyProof.Rows
namespace Mine
theorem law_ok {w : World} {mean : ExcName → Option Value} {mg mb : Str → Option Value} {A : Around} {env : Env} {h₀ : Heap} {L sc : Addr} {m₀ : Str → Option Value} {od os : Obj} {s : Shared} {Q : Flow → Shared → Prop} {vs : List Value} {ns : List Int}
    (St : LawSt w mean mg mb A env h₀ h₀ L) (F : Fr h₀ L s.heap m₀) (N : News h₀ L s.heap [(L + 1 + 1, od), (L + 1, os)]) (hos : os.data = .cell (some (.ref sc))) (hod : od.data = .cell none)
    (hl : h₀.IsList sc vs.toArray) (hi : IntsAre vs ns) (hlen : ns.length ≤ 63) (hlay : PyData.layable0 (.list (ns.map .int)) = true)
    (fin : ∀ h' tk m' news', Fr h₀ L h' m' → News h₀ L h' news' → Q (.ret (.bool true)) { s with heap := h', toks := tk }) :
    wpAny (model P3 w) A (execs (lawBody w.params) env) Q (fun _ _ => False) s := by
  refine seg1 St F N hos hod hl hi hlen hlay fun n d t1 t2 od' lx ys X e h1 tk1 n0 n1 d0 d1 hod' F1 N1 a1 a2 hys hX hXb => ?_
  refine seg2 St hos hl hi hlen n0 n1 hod' F1 N1 a1 a2 hys hX fun ring rdx lg p dp r dr Cp Cr t3 t4 t5 t6 t7 t8 t9 t10 e' h2 tk2 hC F2 N2 lt p1 p2 p3 => ?_
  refine seg3 St n0 n1 d0 d1 hod' hys hX (bits_up hXb) F2 N2 fun ly lz yv zv e1 e2 h3 tk3 hyv hzv F3 N3 q1 q2 q3 q4 => ?_
  refine seg4 St hC n0 n1 d0 d1 hod' hys hX (bits_up hXb) hyv hzv F3 N3 lt p1 p2 p3 q2 q4 fun h4 tk4 l' vs' nn' hv' q5 F4 N4 => ?_
  obtain ⟨k1, k2, k3, k4, k5, k6, _⟩ := lt
  have hdd : @LT.lt Nat _ dp dr := Nat.lt_trans p1 p2
  refine seg5 St hC n0 n1 d0 d1 hod' hX hyv hv' F4 N4 ⟨k1, k4, k5, k6, trivial⟩ p1 p2 p3 q5 q4 fun h5 tk5 F5 N5 => ?_
  have hCr : Cr = 288 ∨ Cr = 364 := by rcases hC with ⟨_, h⟩ | ⟨_, h⟩ <;> simp [h]
  refine seg6 St hCr n0 n1 d0 d1 hod' hys hX hXb F5 N5 ⟨Nat.lt_trans k1 hdd, Nat.lt_trans k4 hdd, Nat.lt_trans k5 hdd, Nat.lt_trans k6 hdd, trivial⟩ p3 fun h6 tk6 lb bv nb l2 vs2 nn2 hbv hv2 q6 q7 F6 N6 => ?_
  refine seg7 St hCr n0 n1 d0 d1 hod' hys hX hXb hbv hv2 q6 q7 F6 N6 ⟨Nat.lt_trans k4 hdd, Nat.lt_trans k5 hdd, Nat.lt_trans k6 hdd, trivial⟩ p3 fun h7 tk7 m₁ lb' bv' nb' l3 vs3 nn3 K hbv' hv3 hK hKb q8 q9 F7 N7 => ?_
  have N7' : News h₀ L h7 ((L + 1, os) :: [(l3, listOf vs3.toArray nn3), (lb', listOf bv'.toArray nb'), (r, instObj Cr dr), (dr, polyD w.params t3 t4 ring l3), (L + 1 + 1, od')]) := cb_drop N7 (by intro p hp; simp only [List.mem_cons] at hp ⊢; rcases hp with h | h | h | h | h | h <;> simp_all)
  refine seg8h (od := od) St hos hl hi hlen F7 N7' fun j t5 h8 tk8 j0 j1 F8 N8 => ?_
  have N8' : News h₀ L h8 [(l3, listOf vs3.toArray nn3), (lb', listOf bv'.toArray nb'), (r, instObj Cr dr), (dr, polyD w.params t3 t4 ring l3), (L + 1 + 1, od'), (L + 1, os)] := cb_drop N8 (by intro p hp; simp only [List.mem_cons] at hp ⊢; rcases hp with h | h | h | h | h | h | h <;> simp_all)
  have k5' : @LT.lt Nat _ (L + 1 + 1) dr := Nat.lt_trans k5 hdd
  by_cases hn : n = 0
  · have hKn : K = [] := List.eq_nil_of_length_eq_zero (by omega)
    subst hKn
    exact seg8a St hCr hn hbv' hv3 q8 q9 p3 k5' F8 N8' fin
  · have hn' : 0 < n := by omega
    by_cases hj : j = 0
    · exact seg8c St hCr hn' n1 hK hKb hj hbv' hv3 q8 q9 p3 k5' F8 N8' fin
    · exact seg8b St hCr hn' n1 hK hKb (by omega) j0 hbv' hv3 q8 q9 p3 k5' F8 N8' fin

end Mine
end
set_option maxRecDepth 100000 in
set_option maxHeartbeats 20000000 in
theorem PySem.Challenge.cw_yd0002_03_holds : PySem.Challenge.rw_yd0002_03.Holds := by
  refine Mine.hd ?_
  w_strict (k_with_none; k_go0; (all_goals try k_fold))
  (rename Fr _ _ _ (bindL _ _ _) => F)
  (rename IntsAre _ _ => hI)
  (rename Heap.IsList _ _ _ => hL)
  (rename Below _ _ _ _ => hB)
  (rename Top _ _ _ _ _ _ => hT)
  (rename Frag.In _ _ => hX)
  (rename News _ _ _ _ => hN)
  refine wpAny_mono (Mine.law_ok ⟨_, _, _, _, _, _, _, rfl, rfl, hB, hX, hT, ?_, ?_⟩ F hN ?_ ?_ hL hI ?_ ?_ ?_) (fun _ _ x => x) (fun _ _ x => x.elim)
  · first | decide | ((simp only [depth_caller]); decide)
  · first | decide | ((simp only [units_caller]); decide)
  · assumption
  · assumption
  · omega
  · assumption
  · intro h9 tk9 m9 n9 F9 N9
    repeat' (first | (k_unfold; (try dsimp only)) | (k_end; wrow_close) | ((try dsimp only); walk1))

