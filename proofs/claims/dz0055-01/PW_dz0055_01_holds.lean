import PyProof.Rows.All
import Wide.All
import OpenK.AllK
import Wide.FinOn
import PySem.Challenge.RW_dz0055_01
section
namespace Mine
/-- a goal as a name: what is taken apart before the goal is asked for again does not repeat it -/
theorem hideG {G : Prop} (h : ∀ P : Prop, (G → P) → P) : G := h G id
@[elab_as_elim] theorem mem_elim {α : Type} {a p : α} {l : List α} {P : α → Prop} (hp : p ∈ a :: l) (h1 : P a) (h2 : p ∈ l → P p) : P p := by
  cases hp with
  | head => exact h1
  | tail _ hp => exact h2 hp
@[elab_as_elim] theorem mem_one {α : Type} {a p : α} {P : α → Prop} (hp : p ∈ [a]) (h1 : P a) : P p := List.mem_singleton.mp hp ▸ h1
theorem qlt1 {a b c k : Nat} (h : a < b) (e : b + k ≤ c) : a + k < c := Nat.lt_of_lt_of_le (Nat.add_lt_add_right h k) e
theorem qlt2 {a b c k l : Nat} (h : a < b) (e : b + k + l ≤ c) : a + k + l < c := Nat.lt_of_lt_of_le (Nat.add_lt_add_right (Nat.add_lt_add_right h k) l) e
theorem qlt3 {a b c k l m : Nat} (h : a < b) (e : b + k + l + m ≤ c) : a + k + l + m < c := Nat.lt_of_lt_of_le (Nat.add_lt_add_right (Nat.add_lt_add_right (Nat.add_lt_add_right h k) l) m) e
theorem qlt0 {a b c : Nat} (h : a < b) (e : b ≤ c) : a < c := Nat.lt_of_lt_of_le h e
theorem qle0 {a b c : Nat} (h : a ≤ b) (e : b ≤ c) : a ≤ c := Nat.le_trans h e
theorem qle1 {a b c : Nat} (h : a ≤ b) (e : b < c) : a < c := Nat.lt_of_le_of_lt h e
theorem num_lt {X i j k n : Nat} (hn : n = X + 1 - i) (hi : i ≤ j) (hj : j < X) : X + 1 - min X (j + 1 + k) < n := by
  subst hn
  exact Nat.sub_lt_sub_left (Nat.lt_succ_of_lt (Nat.lt_of_le_of_lt hi hj)) (Nat.lt_min.mpr ⟨Nat.lt_of_le_of_lt hi hj, Nat.lt_of_lt_of_le (Nat.lt_succ_of_le hi) (Nat.le_add_right _ _)⟩)
theorem num_le {X i j k n r f : Nat} (hn : n = X + 1 - i) (hi : i ≤ j) (hj : j < X) (h : n ≤ r + 1 ∧ n ≤ f + 1) : X + 1 - min X (j + 1 + k) ≤ r ∧ X + 1 - min X (j + 1 + k) ≤ f :=
  ⟨Nat.le_of_lt_succ (Nat.lt_of_lt_of_le (num_lt hn hi hj) h.1), Nat.le_of_lt_succ (Nat.lt_of_lt_of_le (num_lt hn hi hj) h.2)⟩
theorem num_pos {X i n : Nat} (hn : n = X + 1 - i) (hi : i ≤ X) : 0 < n := hn ▸ Nat.sub_pos_of_lt (Nat.lt_succ_of_le hi)
theorem succ_of {n f : Nat} (h : 0 < n) (k : n ≤ f) : ∃ f', f = f' + 1 := Nat.exists_eq_add_one_of_ne_zero (Nat.ne_of_gt (Nat.lt_of_lt_of_le h k))
theorem min_step {X a : Nat} : min X (min X a + 1) = min X (a + 1) := by
  rcases Nat.le_total X a with h | h
  · rw [Nat.min_eq_left h, Nat.min_eq_left (Nat.le_succ X), Nat.min_eq_left (Nat.le_succ_of_le h)]
  · rw [Nat.min_eq_right h]
theorem sub_up {k n : Nat} (h : n + 1 ≤ k) : k - (n + 1) + 1 = k - n := by rw [Nat.sub_add_eq, Nat.sub_add_cancel (Nat.sub_pos_of_lt h)]
theorem num_step {X j k n : Nat} (h : n + 1 ≤ k) : min X (min X (j + 1 + (k - (n + 1))) + 1) = min X (j + 1 + (k - n)) := by rw [min_step, Nat.add_assoc (j + 1), sub_up h]
theorem num_base {X j k : Nat} (h : j < X) : j + 1 = min X (j + 1 + (k - k)) := by rw [Nat.sub_self]; exact (Nat.min_eq_right h).symm
theorem le_num {X i j k t : Nat} (h : t ≤ i) (h2 : i ≤ j) (h3 : j < X) : t + 1 ≤ min X (j + 1 + k) :=
  Nat.le_min.mpr ⟨Nat.lt_of_le_of_lt (Nat.le_trans h h2) h3, Nat.le_trans (Nat.succ_le_succ (Nat.le_trans h h2)) (Nat.le_add_right _ _)⟩
theorem int_pred {n : Nat} : ((n + 1 : Nat) : Int) - 1 = n := by rw [Int.natCast_add]; exact Int.add_sub_cancel _ _
theorem toNat_pred {n : Nat} : (((n + 1 : Nat) : Int) - 1).toNat = n := congrArg Int.toNat int_pred
theorem down_lt {n i : Nat} (h : i < n) : n + 1 - (i + 1) < n + 1 - i := Nat.sub_lt_sub_left (Nat.lt_succ_of_lt h) (Nat.lt_succ_self i)
theorem due_lt {L p q n : Nat} (hn : n = L + 3 - p) (hp : p ≤ L + 2) (h : p < q) : L + 3 - q < n := by
  subst hn
  exact Nat.sub_lt_sub_left (Nat.lt_succ_of_le hp) h
theorem due_le {L p q n f : Nat} (hn : n = L + 3 - p) (hp : p ≤ L + 2) (h : p < q) (hf : n ≤ f + 1) : L + 3 - q ≤ f := Nat.le_of_lt_succ (Nat.lt_of_lt_of_le (due_lt hn hp h) hf)
theorem due_pos {L p n : Nat} (hn : n = L + 3 - p) (hp : p ≤ L + 2) : 0 < n := hn ▸ Nat.sub_pos_of_lt (Nat.lt_succ_of_le hp)
theorem ipred {n : Int} : n + 1 - 1 = n := Int.add_sub_cancel _ _
theorem lt_past {p k : Nat} : p < p + 1 + k := Nat.lt_of_lt_of_le (Nat.lt_succ_self p) (Nat.le_add_right _ _)
theorem i_lt {a b : Nat} (h : (a : Int) < b) : a < b := Int.ofNat_lt.mp h
theorem i_ge {a b : Nat} (h : ¬ (a : Int) < b) : b ≤ a := Nat.le_of_not_lt fun z => h (Int.ofNat_lt.mpr z)
theorem lt2 {j : Nat} (h : j < 2) : j = 0 ∨ j = 1 := (by decide : ∀ j, j < 2 → j = 0 ∨ j = 1) j h
theorem lt3 {j : Nat} (h : j < 3) : j = 0 ∨ j = 1 ∨ j = 2 := (by decide : ∀ j, j < 3 → j = 0 ∨ j = 1 ∨ j = 2) j h
theorem lt4 {j : Nat} (h : j < 4) : j = 0 ∨ j = 1 ∨ j = 2 ∨ j = 3 := (by decide : ∀ j, j < 4 → j = 0 ∨ j = 1 ∨ j = 2 ∨ j = 3) j h
theorem nine {i : Int} (h1 : 0 ≤ i) (h2 : i < 9) : i = 0 ∨ i = 1 ∨ i = 2 ∨ i = 3 ∨ i = 4 ∨ i = 5 ∨ i = 6 ∨ i = 7 ∨ i = 8 := by
  obtain ⟨n, rfl⟩ := Int.eq_ofNat_of_zero_le h1
  exact (by decide : ∀ n : Nat, n < 9 → (n : Int) = 0 ∨ (n : Int) = 1 ∨ (n : Int) = 2 ∨ (n : Int) = 3 ∨ (n : Int) = 4 ∨ (n : Int) = 5 ∨ (n : Int) = 6 ∨ (n : Int) = 7 ∨ (n : Int) = 8) n (Int.ofNat_lt.mp h2)
theorem len_step {p X i : Nat} (h : p + (X - i) ≤ 100) (hi : i < X) : p + 1 + (X - (i + 1)) ≤ 100 := by
  rw [← sub_up hi, Nat.add_comm _ 1, ← Nat.add_assoc] at h; exact h
theorem due_len {a b p L k : Nat} (h : a ≤ p ∧ b ≤ p ∧ p ≤ L + 2) (hp : p < L) (hk : k ≤ 2) : a + 1 ≤ p + 1 + k ∧ b + 1 ≤ p + 1 + k ∧ p + 1 + k ≤ L + 2 :=
  ⟨Nat.le_trans (Nat.succ_le_succ h.1) (Nat.le_add_right _ _), Nat.le_trans (Nat.succ_le_succ h.2.1) (Nat.le_add_right _ _), Nat.add_le_add (Nat.succ_le_of_lt hp) hk⟩
theorem due_len0 {a b p L : Nat} (h : a ≤ p ∧ b ≤ p ∧ p ≤ L + 2) (hp : p < L) : a ≤ p + 1 ∧ b + 1 ≤ p + 1 ∧ p + 1 ≤ L + 2 :=
  ⟨Nat.le_succ_of_le h.1, Nat.succ_le_succ h.2.1, Nat.le_trans (Nat.succ_le_of_lt hp) (Nat.le_add_right _ _)⟩
theorem for_step {n i : Nat} (h : n + i = 2) (hi : ¬ i = 2) : n - 1 + (i + 1) = 2 := by
  cases n with
  | zero => exact absurd ((Nat.zero_add i).symm.trans h) hi
  | succ n => rw [← h, Nat.add_right_comm]; rfl
theorem fs1 {b r k : Nat} (h : k < r + 1 - b) (hb : b ≤ r) : k ≤ r - b := by
  rw [Nat.succ_sub hb] at h; exact Nat.le_of_lt_succ h
theorem fs2 {b r k m : Nat} (h : k < r + 1 - b) (hb : b ≤ r ∧ r ≤ m) : b + k ≤ m := Nat.le_trans (Nat.add_comm b k ▸ Nat.add_le_of_le_sub hb.1 (fs1 h hb.1)) hb.2
theorem fs3 {q K : Nat} (h : ¬ q < K) : ∃ d, q = K + d := Nat.exists_eq_add_of_le (Nat.le_of_not_lt h)
theorem fs4 {b r K d : Nat} (h : K + d < K + (r - b) + 1) (hb : b ≤ r) : d < r + 1 - b := by
  rw [Nat.succ_sub hb]; exact Nat.lt_of_add_lt_add_left h
theorem fs5 {n n' f : Nat} (h : n ≤ n') (h2 : n' - n < f + 1) (ne : n ≠ n') : n' - (n + 1) < f := by
  obtain ⟨d, rfl⟩ := Nat.exists_eq_add_of_le h
  cases d with
  | zero => exact absurd rfl ne
  | succ d =>
    rw [Nat.add_sub_cancel_left] at h2
    rw [Nat.add_sub_add_left, Nat.add_sub_cancel]
    exact Nat.lt_of_succ_lt_succ h2
theorem fuel_of {d f : Nat} (h : d < f) : ∃ f', f = f' + 1 := Nat.exists_eq_add_one_of_ne_zero (Nat.ne_of_gt (Nat.lt_of_le_of_lt (Nat.zero_le d) h))
theorem mid_lo {lo hi : Nat} (h : lo < hi) : lo ≤ (lo + hi) / 2 := (Nat.le_div_iff_mul_le (by decide)).mpr (Nat.mul_two lo ▸ Nat.add_le_add_left (Nat.le_of_lt h) lo)
theorem mid_hi {lo hi : Nat} (h : lo < hi) : (lo + hi) / 2 < hi := (Nat.div_lt_iff_lt_mul (by decide)).mpr (Nat.mul_two hi ▸ Nat.add_lt_add_right h hi)
theorem mid_up {lo hi m f : Nat} (h : hi - lo ≤ f + 1) (hm : lo ≤ m) : hi - (m + 1) ≤ f := Nat.le_trans (Nat.sub_le_sub_left (Nat.succ_le_succ hm) hi) (by rw [Nat.sub_succ]; exact Nat.pred_le_pred h)
theorem mid_dn {lo hi m f : Nat} (h : hi - lo ≤ f + 1) (h1 : lo ≤ m) (hm : m < hi) : m - lo ≤ f := Nat.le_of_lt_succ (Nat.lt_of_lt_of_le (Nat.sub_lt_sub_right h1 hm) h)
theorem inl0 {α : Type} {a : α} {l : List α} : a ∈ a :: l := .head _
theorem inl1 {α : Type} {a b0 : α} {l : List α} : a ∈ b0 :: a :: l := .tail _ (.head _)
theorem inl2 {α : Type} {a b0 b1 : α} {l : List α} : a ∈ b0 :: b1 :: a :: l := .tail _ (.tail _ (.head _))
theorem inl3 {α : Type} {a b0 b1 b2 : α} {l : List α} : a ∈ b0 :: b1 :: b2 :: a :: l := .tail _ (.tail _ (.tail _ (.head _)))
theorem inl4 {α : Type} {a b0 b1 b2 b3 : α} {l : List α} : a ∈ b0 :: b1 :: b2 :: b3 :: a :: l := .tail _ (.tail _ (.tail _ (.tail _ (.head _))))
theorem inl5 {α : Type} {a b0 b1 b2 b3 b4 : α} {l : List α} : a ∈ b0 :: b1 :: b2 :: b3 :: b4 :: a :: l := .tail _ (.tail _ (.tail _ (.tail _ (.tail _ (.head _)))))
theorem inl6 {α : Type} {a b0 b1 b2 b3 b4 b5 : α} {l : List α} : a ∈ b0 :: b1 :: b2 :: b3 :: b4 :: b5 :: a :: l := .tail _ (.tail _ (.tail _ (.tail _ (.tail _ (.tail _ (.head _))))))
theorem inl7 {α : Type} {a b0 b1 b2 b3 b4 b5 b6 : α} {l : List α} : a ∈ b0 :: b1 :: b2 :: b3 :: b4 :: b5 :: b6 :: a :: l := .tail _ (.tail _ (.tail _ (.tail _ (.tail _ (.tail _ (.tail _ (.head _)))))))
end Mine
end
local macro_rules | `(tactic| obtain $p:rcasesPatMed := $e:term) => do
  if ((p.raw.reprint.getD "").splitOn ",").length < 4 then Lean.Macro.throwUnsupported
  `(tactic| first | ((refine Mine.hideG fun P hP => ?_); (rcases $e:term with $p:rcasesPatMed) <;> (refine hP ?_; clear hP P)) | rcases $e:term with $p:rcasesPatMed)
local macro_rules | `(tactic| omega) => `(tactic| first
  | with_reducible assumption
  | exact Mine.qlt0 (by assumption) (by decide) | exact Mine.qlt1 (by assumption) (by decide) | exact Mine.qlt2 (by assumption) (by decide) | exact Mine.qlt3 (by assumption) (by decide)
  | exact Mine.qle0 (by assumption) (by decide) | exact Mine.qle1 (by assumption) (by decide) | exact Nat.le_of_lt (by with_reducible assumption)
  | omega +splitDisjunctions)
section
open PySem PySem.W PyProof.Rows
set_option Elab.async false
set_option maxRecDepth 100000
set_option maxHeartbeats 8000000
namespace Mine
open_top hd for PySem.Challenge.rw_dz0055_01
end Mine
end
section
set_option Elab.async false
local macro_rules | `(tactic| walk_at "idle") => `(tactic| skip)
theorem Mine.off_SetMath : True ∧ True := by
  w_top off
  first | walk1 | skip
  all_goals (first | trivial | exact ⟨trivial, trivial⟩)
end
section
set_option Elab.async false
set_option maxRecDepth 100000
open PySem
namespace Mine
open SetTable

/-! the probe's own walk, by the mask alone -/
noncomputable def adv (m : Nat) (p : Probe) : Probe :=
  if p.more > 0 then { p with j := p.j + 1, more := p.more - 1 } else
  { p with j := (leap m p.i p.perturb).1, more := runEnd m (leap m p.i p.perturb).1 - (leap m p.i p.perturb).1, i := (leap m p.i p.perturb).1, perturb := (leap m p.i p.perturb).2 }
theorem advance_eq (t : SetTable) (p : Probe) : t.advance p = adv t.mask p := rfl
noncomputable def st0 (m : Nat) (h : Int) : Probe :=
  { j := bits h % (m + 1), more := runEnd m (bits h % (m + 1)) - bits h % (m + 1), i := bits h % (m + 1), perturb := bits h, dummy := none }
theorem probeStart_eq (t : SetTable) (h : Int) : t.probeStart h = st0 t.mask h := rfl
noncomputable def sq (m : Nat) (h : Int) : Nat → Probe
  | 0 => st0 m h
  | k + 1 => adv m (sq m h k)
theorem adv_dummy (m : Nat) (p : Probe) : (adv m p).dummy = p.dummy := by unfold adv; split <;> rfl
theorem sq_dummy (m : Nat) (h : Int) (k : Nat) : (sq m h k).dummy = none := by
  induction k with
  | zero => rfl
  | succ k ih => rw [sq, adv_dummy, ih]

noncomputable def blk (m : Nat) (h : Int) : Nat → Nat × Nat
  | 0 => (bits h % (m + 1), bits h)
  | n + 1 => leap m (blk m h n).1 (blk m h n).2
theorem blk_le (m : Nat) (h : Int) (n : Nat) : (blk m h n).1 ≤ m := by
  cases n with
  | zero => exact Nat.le_of_lt_succ (Nat.mod_lt _ (Nat.succ_pos m))
  | succ n => exact Nat.le_of_lt_succ (Nat.mod_lt _ (Nat.succ_pos m))
noncomputable def atBlk (m : Nat) (h : Int) (n : Nat) : Probe :=
  { j := (blk m h n).1, more := runEnd m (blk m h n).1 - (blk m h n).1, i := (blk m h n).1, perturb := (blk m h n).2, dummy := none }
theorem sq_inc (m : Nat) (h : Int) (n K : Nat) (e : sq m h K = atBlk m h n) : ∀ d, d ≤ runEnd m (blk m h n).1 - (blk m h n).1 →
    sq m h (K + d) = { atBlk m h n with j := (blk m h n).1 + d, more := runEnd m (blk m h n).1 - (blk m h n).1 - d } := by
  intro d
  induction d with
  | zero => intro _; rw [Nat.add_zero, e]; rfl
  | succ d ih =>
    intro hd
    rw [← Nat.add_assoc, sq, ih (Nat.le_of_succ_le hd)]
    unfold adv
    rw [if_pos (show runEnd m (blk m h n).1 - (blk m h n).1 - d > 0 from Nat.sub_pos_of_lt hd)]
    simp only [Probe.mk.injEq, true_and, and_true]
    exact ⟨Nat.add_assoc _ _ _, Nat.sub_sub _ _ _⟩
theorem runEnd_le (m i : Nat) : runEnd m i - i ≤ 9 := by
  unfold runEnd; split <;> omega
theorem sq_blk (m : Nat) (h : Int) : ∀ n, ∃ K, K ≤ 10 * n ∧ sq m h K = atBlk m h n := by
  intro n
  induction n with
  | zero => exact ⟨0, by omega, rfl⟩
  | succ n ih =>
    obtain ⟨K, hK, e⟩ := ih
    refine ⟨K + (runEnd m (blk m h n).1 - (blk m h n).1) + 1, by have := runEnd_le m (blk m h n).1; omega, ?_⟩
    rw [sq, sq_inc m h n K e _ (Nat.le_refl _)]
    unfold adv
    rw [if_neg (show ¬ (runEnd m (blk m h n).1 - (blk m h n).1 - (runEnd m (blk m h n).1 - (blk m h n).1) > 0) from fun z => Nat.lt_irrefl 0 (by rwa [Nat.sub_self] at z))]
    rfl

theorem blk_perturb (m : Nat) (h : Int) (n : Nat) : (blk m h n).2 = bits h / 32 ^ n := by
  induction n with
  | zero => simp [blk]
  | succ n ih =>
    show (blk m h n).2 / 32 = _
    rw [ih, Nat.div_div_eq_div_mul, Nat.pow_succ]
theorem bits_lt (h : Int) : bits h < 2 ^ 64 := by
  unfold bits
  have := Int.emod_lt_of_pos h (show (0 : Int) < 2 ^ 64 by decide)
  have := Int.emod_nonneg h (show (2 ^ 64 : Int) ≠ 0 by decide)
  omega
theorem blk_zero (m : Nat) (h : Int) (n : Nat) (hn : 13 ≤ n) : (blk m h n).2 = 0 := by
  rw [blk_perturb]
  refine Nat.div_eq_of_lt (Nat.lt_of_lt_of_le (bits_lt h) ?_)
  calc 2 ^ 64 ≤ 32 ^ 13 := by decide
    _ ≤ 32 ^ n := Nat.pow_le_pow_right (by decide) hn

noncomputable def lcg (m : Nat) : Nat → Nat → Nat
  | 0, i => i
  | n + 1, i => (lcg m n i * 5 + 1) % (m + 1)
theorem blk_lcg (m : Nat) (h : Int) (n : Nat) : (blk m h (13 + n)).1 = lcg m n (blk m h 13).1 := by
  induction n with
  | zero => rfl
  | succ n ih =>
    show ((blk m h (13 + n)).1 * 5 + 1 + (blk m h (13 + n)).2 / 32) % (m + 1) = _
    rw [ih, blk_zero m h (13 + n) (by omega)]
    rfl
theorem lcg_add (m a b i : Nat) : lcg m (a + b) i = lcg m a (lcg m b i) := by
  induction a with
  | zero => rw [Nat.zero_add]; rfl
  | succ a ih => rw [Nat.succ_add]; show (lcg m (a + b) i * 5 + 1) % (m + 1) = _; rw [ih]; rfl

noncomputable def MaskOk (m : Nat) : Prop := m = 7 ∨ m = 31 ∨ m = 127
noncomputable def orbitOk (m : Nat) : Bool := (List.range (m + 1)).all (fun j => (List.range (m + 1)).any fun n => lcg m n 0 == j) && lcg m (m + 1) 0 == 0
noncomputable def lcgs (m : Nat) : Nat → Nat → List Nat
  | 0, _ => []
  | n + 1, i => i :: lcgs m n ((i * 5 + 1) % (m + 1))
theorem lcgs_get (m : Nat) : ∀ (n i k : Nat), k < n → (lcgs m n i)[k]? = some (lcg m k i)
  | 0, _, _, h => by omega
  | n + 1, i, 0, _ => rfl
  | n + 1, i, k + 1, h => by
    show (lcgs m n ((i * 5 + 1) % (m + 1)))[k]? = _
    rw [lcgs_get m n _ k (by omega)]
    have : lcg m (k + 1) i = lcg m k (lcg m 1 i) := lcg_add m k 1 i
    rw [this]; rfl
theorem orbit_of (m : Nat) (h : (List.range (m + 1)).all (fun j => (lcgs m (m + 1) 0).contains j) = true) (h0 : (lcgs m (m + 2) 0)[m + 1]? = some 0) :
    (∀ j, j ≤ m → ∃ n, n ≤ m ∧ lcg m n 0 = j) ∧ lcg m (m + 1) 0 = 0 := by
  refine ⟨fun j hj => ?_, ?_⟩
  · have q := List.all_eq_true.mp h j (List.mem_range.mpr (by omega))
    obtain ⟨k, hk, e⟩ := List.mem_iff_getElem.mp (List.contains_iff_mem.mp q)
    have hl : ∀ (n i : Nat), (lcgs m n i).length = n := by
      intro n; induction n with
      | zero => intro _; rfl
      | succ n ih => intro i; simp [lcgs, ih]
    rw [hl] at hk
    have := lcgs_get m (m + 1) 0 k hk
    rw [List.getElem?_eq_getElem (by rw [hl]; exact hk), e] at this
    exact ⟨k, by omega, (Option.some.inj this).symm⟩
  · have := lcgs_get m (m + 2) 0 (m + 1) (by omega)
    rw [h0] at this
    exact (Option.some.inj this).symm
theorem orbit {m : Nat} (hm : MaskOk m) : (∀ j, j ≤ m → ∃ n, n ≤ m ∧ lcg m n 0 = j) ∧ lcg m (m + 1) 0 = 0 := by
  rcases hm with rfl | rfl | rfl
  · exact orbit_of _ (by decide +kernel) (by decide +kernel)
  · exact orbit_of _ (by decide +kernel) (by decide +kernel)
  · exact orbit_of _ (by decide +kernel) (by decide +kernel)
theorem lcg_cover {m : Nat} (hm : MaskOk m) {i j : Nat} (hi : i ≤ m) (hj : j ≤ m) : ∃ n, n ≤ m ∧ lcg m n i = j := by
  obtain ⟨h1, h2⟩ := orbit hm
  obtain ⟨a, ha, ea⟩ := h1 i hi
  obtain ⟨b, hb, eb⟩ := h1 j hj
  by_cases h : a ≤ b
  · refine ⟨b - a, by omega, ?_⟩
    rw [← ea, ← lcg_add, Nat.sub_add_cancel h, eb]
  · refine ⟨b + (m + 1) - a, by omega, ?_⟩
    rw [← ea, ← lcg_add, show b + (m + 1) - a + a = b + (m + 1) from Nat.sub_add_cancel (Nat.le_trans ha (Nat.le_trans (Nat.le_succ m) (Nat.le_add_left _ _))), lcg_add, h2, eb]
/-- every slot is a head of one of the first m + 14 blocks -/
theorem blk_cover {m : Nat} (hm : MaskOk m) (h : Int) {j : Nat} (hj : j ≤ m) : ∃ n, n ≤ 13 + m ∧ (blk m h n).1 = j := by
  obtain ⟨n, hn, e⟩ := lcg_cover hm (blk_le m h 13) hj
  exact ⟨13 + n, by omega, by rw [blk_lcg, e]⟩
theorem sq_cover {m : Nat} (hm : MaskOk m) (h : Int) {j : Nat} (hj : j ≤ m) : ∃ k, k < 10 * turns m ∧ (sq m h k).j = j := by
  obtain ⟨n, hn, e⟩ := blk_cover hm h hj
  obtain ⟨K, hK, eK⟩ := sq_blk m h n
  refine ⟨K, ?_, by rw [eK]; exact e⟩
  unfold turns; omega
theorem sq_le (m : Nat) (h : Int) : ∀ k, (sq m h k).j ≤ m ∧ (sq m h k).j + (sq m h k).more ≤ m := by
  have key : ∀ i, i ≤ m → i + (runEnd m i - i) ≤ m := by intro i hi; unfold runEnd; split <;> omega
  intro k
  induction k with
  | zero =>
    have : bits h % (m + 1) ≤ m := Nat.le_of_lt_succ (Nat.mod_lt _ (Nat.succ_pos m))
    exact ⟨this, key _ this⟩
  | succ k ih =>
    rw [sq]; unfold adv
    split
    · exact ⟨by show (sq m h k).j + 1 ≤ m; omega, by show (sq m h k).j + 1 + ((sq m h k).more - 1) ≤ m; omega⟩
    · have : (leap m (sq m h k).i (sq m h k).perturb).1 ≤ m := Nat.le_of_lt_succ (Nat.mod_lt _ (Nat.succ_pos m))
      exact ⟨this, key _ this⟩
end Mine
end
section
set_option Elab.async false
set_option maxRecDepth 100000
open PySem
namespace Mine
open SetTable

noncomputable abbrev Rise (l : List Nat) : Prop := l.Pairwise (· < ·)

theorem below_go (xs : Array Nat) (j : Nat) (hr : Rise xs.toList) : ∀ (fuel lo hi : Nat), hi - lo ≤ fuel → lo ≤ hi → hi ≤ xs.size →
    (∀ k (hk : k < xs.size), k < lo → xs[k] < j) → (∀ k (hk : k < xs.size), hi ≤ k → j ≤ xs[k]) →
    below.go xs j fuel lo hi ≤ xs.size ∧ (∀ k (hk : k < xs.size), k < below.go xs j fuel lo hi → xs[k] < j) ∧ (∀ k (hk : k < xs.size), below.go xs j fuel lo hi ≤ k → j ≤ xs[k]) := by
  have mono : ∀ a b (ha : a < xs.size) (hb : b < xs.size), a < b → xs[a] < xs[b] := fun a b ha hb hab => by
    have := List.pairwise_iff_getElem.mp hr a b (by simpa using ha) (by simpa using hb) hab
    simpa using this
  intro fuel
  induction fuel with
  | zero =>
    intro lo hi h1 h2 h3 h4 h5
    have : lo = hi := by omega
    subst this
    exact ⟨h3, h4, h5⟩
  | succ fuel ih =>
    intro lo hi h1 h2 h3 h4 h5
    unfold below.go
    split
    · rename_i hlt
      dsimp only
      have ml := mid_lo hlt
      have mh := mid_hi hlt
      have hmid : (lo + hi) / 2 < xs.size := Nat.lt_of_lt_of_le mh h3
      have hg : xs.getD ((lo + hi) / 2) j = xs[(lo + hi) / 2] := by simp [Array.getD, hmid]
      rw [hg]
      split
      · rename_i hm
        refine ih _ _ (mid_up h1 ml) (Nat.succ_le_of_lt mh) h3 (fun k hk hkl => ?_) h5
        by_cases hkm : k = (lo + hi) / 2
        · subst hkm; exact hm
        · exact Nat.lt_trans (mono k _ hk hmid (Nat.lt_of_le_of_ne (Nat.le_of_lt_succ hkl) hkm)) hm
      · rename_i hm
        refine ih _ _ (mid_dn h1 ml mh) ml (Nat.le_of_lt hmid) h4 (fun k hk hkl => ?_)
        by_cases hkm : k = (lo + hi) / 2
        · subst hkm; exact Nat.le_of_not_lt hm
        · exact Nat.le_trans (Nat.le_of_not_lt hm) (Nat.le_of_lt (mono _ k hmid hk (Nat.lt_of_le_of_ne hkl (Ne.symm hkm))))
    · have : lo = hi := by omega
      subst this
      exact ⟨h3, h4, h5⟩
theorem below_spec (xs : Array Nat) (j : Nat) (hr : Rise xs.toList) :
    below xs j ≤ xs.size ∧ (∀ k (hk : k < xs.size), k < below xs j → xs[k] < j) ∧ (∀ k (hk : k < xs.size), below xs j ≤ k → j ≤ xs[k]) :=
  below_go xs j hr xs.size 0 xs.size (by omega) (by omega) (Nat.le_refl _) (fun _ _ h => absurd h (Nat.not_lt_zero _)) (fun k hk h => by omega)

theorem has_nil (j : Nat) : has #[] j = false := rfl
theorem slot_live {t : SetTable} (hr : Rise t.place.toList) {i j : Nat} (hi : t.place[i]? = some j) : t.slot j = .live i := by
  obtain ⟨hs, he⟩ := Array.getElem?_eq_some_iff.mp hi
  obtain ⟨h1, h2, h3⟩ := below_spec t.place j hr
  have hb : below t.place j = i := by
    rcases Nat.lt_trichotomy (below t.place j) i with h | h | h
    · have a := h3 (below t.place j) (by omega) (Nat.le_refl _)
      have b := List.pairwise_iff_getElem.mp hr (below t.place j) i (by simpa using (by omega : below t.place j < t.place.size)) (by simpa using hs) h
      simp only [Array.getElem_toList] at b
      omega
    · exact h
    · have a := h2 i hs h
      omega
  unfold slot
  dsimp only
  rw [hb, hi]
  simp
theorem slot_empty {t : SetTable} (hd : t.dummies = #[]) {j : Nat} (hj : j ∉ t.place.toList) : t.slot j = .empty := by
  unfold slot
  dsimp only
  rw [hd, has_nil]
  split
  · rename_i h
    have h' := beq_iff_eq.mp h
    exact absurd (Array.mem_toList_iff.mpr (Array.mem_of_getElem? h')) hj
  · simp
theorem slot_cases {t : SetTable} (hr : Rise t.place.toList) (hd : t.dummies = #[]) (j : Nat) :
    (j ∉ t.place.toList ∧ t.slot j = .empty) ∨ ∃ i, t.place[i]? = some j ∧ t.slot j = .live i := by
  by_cases h : j ∈ t.place.toList
  · obtain ⟨i, hi, e⟩ := List.mem_iff_getElem.mp h
    have : t.place[i]? = some j := by rw [← Array.getElem?_toList, List.getElem?_eq_getElem hi, e]
    exact .inr ⟨i, this, slot_live hr this⟩
  · exact .inl ⟨h, slot_empty hd h⟩

/-! the probe's answers -/
section
variable {t : SetTable} {hashAt : Nat → Int} {h : Int} {N : Nat}
theorem go_skip {k : Nat} {i : Nat} (hs : t.slot (sq t.mask h k).j = .live i) (hh : hashAt i ≠ h) (fuel : Nat) :
    probe.go t hashAt h (fuel + 1) (sq t.mask h k) = probe.go t hashAt h fuel (sq t.mask h (k + 1)) := by
  rw [probe.go, hs]
  dsimp only
  rw [if_neg (by simpa using hh), advance_eq]
  rfl
theorem go_empty (he : t.slot (sq t.mask h N).j = .empty) : ∀ (d k fuel : Nat), k + d = N → d < fuel →
    (∀ q, k ≤ q → q < N → ∃ i, t.slot (sq t.mask h q).j = .live i ∧ hashAt i ≠ h) → probe.go t hashAt h fuel (sq t.mask h k) = some (.empty (sq t.mask h N).j none) := by
  intro d
  induction d with
  | zero =>
    intro k fuel hk hf _
    obtain rfl : k = N := by omega
    obtain ⟨f, rfl⟩ := fuel_of (by assumption : _ < fuel)
    rw [probe.go, he]
    dsimp only
    rw [sq_dummy]
  | succ d ih =>
    intro k fuel hk hf hl
    obtain ⟨f, rfl⟩ := fuel_of (by assumption : _ < fuel)
    obtain ⟨i, hs, hh⟩ := hl k (Nat.le_refl _) (by omega)
    rw [go_skip hs hh]
    exact ih (k + 1) f (by omega) (by omega) fun q h1 h2 => hl q (by omega) h2
theorem go_cand {i : Nat} (he : t.slot (sq t.mask h N).j = .live i) (hi : hashAt i = h) : ∀ (d k fuel : Nat), k + d = N → d < fuel →
    (∀ q, k ≤ q → q < N → ∃ i, t.slot (sq t.mask h q).j = .live i ∧ hashAt i ≠ h) → probe.go t hashAt h fuel (sq t.mask h k) = some (.candidate (sq t.mask h N).j i (sq t.mask h (N + 1))) := by
  intro d
  induction d with
  | zero =>
    intro k fuel hk hf _
    obtain rfl : k = N := by omega
    obtain ⟨f, rfl⟩ := fuel_of (by assumption : _ < fuel)
    rw [probe.go, he]
    dsimp only
    rw [if_pos (by simpa using hi), advance_eq]
    rfl
  | succ d ih =>
    intro k fuel hk hf hl
    obtain ⟨f, rfl⟩ := fuel_of (by assumption : _ < fuel)
    obtain ⟨i', hs, hh⟩ := hl k (Nat.le_refl _) (by omega)
    rw [go_skip hs hh]
    exact ih (k + 1) f (by omega) (by omega) fun q h1 h2 => hl q (by omega) h2
end

/-- the least number with a property, up to a bound -/
theorem least {P : Nat → Prop} [DecidablePred P] {n : Nat} (h : P n) : ∃ k, k ≤ n ∧ P k ∧ ∀ q, q < k → ¬ P q := by
  induction n using Nat.strongRecOn with
  | ind n ih =>
    by_cases hq : ∃ q, q < n ∧ P q
    · obtain ⟨q, hq, hp⟩ := hq
      obtain ⟨k, h1, h2, h3⟩ := ih q hq hp
      exact ⟨k, by omega, h2, h3⟩
    · exact ⟨n, Nat.le_refl _, h, fun q hlt hp => hq ⟨q, hlt, hp⟩⟩

theorem pigeon : ∀ (m : Nat) (ps : List Nat), (∀ j, j ≤ m → j ∈ ps) → m + 1 ≤ ps.length := by
  intro m
  induction m with
  | zero =>
    intro ps h
    have := h 0 (Nat.le_refl _)
    cases ps with
    | nil => cases this
    | cons => simp
  | succ m ih =>
    intro ps h
    have hm := h (m + 1) (Nat.le_refl _)
    have := ih (ps.erase (m + 1)) fun j hj => (List.mem_erase_of_ne (by omega)).mpr (h j (by omega))
    rw [List.length_erase_of_mem hm] at this
    have := List.length_pos_of_mem hm
    omega
/-- a table that is not full has an empty slot on every road -/
theorem road_empty {m : Nat} (hm : MaskOk m) (ps : List Nat) (hl : ps.length ≤ m) (h : Int) :
    ∃ N, N < 10 * turns m ∧ (sq m h N).j ∉ ps ∧ ∀ q, q < N → (sq m h q).j ∈ ps := by
  have : ∃ j, j ≤ m ∧ j ∉ ps := by
    by_cases q : ∃ j, j ≤ m ∧ j ∉ ps
    · exact q
    · exfalso
      have := pigeon m ps fun j hj => by
        by_cases hj' : j ∈ ps
        · exact hj'
        · exact absurd ⟨j, hj, hj'⟩ q
      omega
  obtain ⟨j, hj, hjp⟩ := this
  obtain ⟨k, hk, e⟩ := sq_cover hm h hj
  obtain ⟨N, h1, h2, h3⟩ := least (P := fun k => (sq m h k).j ∉ ps) (n := k) (by rw [e]; exact hjp)
  exact ⟨N, by omega, h2, fun q hq => by simpa using h3 q hq⟩

/-- an entry of hash h at slot j is met on its road before an empty slot -/
noncomputable def Reach (m : Nat) (ps : List Nat) (h : Int) (j : Nat) : Prop := ∃ k, (sq m h k).j = j ∧ ∀ q, q < k → (sq m h q).j ∈ ps
theorem Reach.mono {m : Nat} {ps ps' : List Nat} {h : Int} {j : Nat} (r : Reach m ps h j) (s : ∀ x ∈ ps, x ∈ ps') : Reach m ps' h j :=
  let ⟨k, e, q⟩ := r; ⟨k, e, fun x hx => s _ (q x hx)⟩

structure TabCore (t : SetTable) (es : List (Int × Value)) : Prop where
  mask : MaskOk t.mask
  dum : t.dummies = #[]
  rise : Rise t.place.toList
  size : t.place.size = es.length
  le : ∀ j ∈ t.place.toList, j ≤ t.mask
  reach : ∀ (i : Nat) (e : Int × Value) (j : Nat), es[i]? = some e → t.place[i]? = some j → Reach t.mask t.place.toList e.1 j
structure TabOk (t : SetTable) (es : List (Int × Value)) : Prop extends TabCore t es where
  room : es.length * 5 < t.mask * 3
theorem TabCore.fill {t : SetTable} {es : List (Int × Value)} (T : TabCore t es) : t.fill = es.length := by
  unfold SetTable.fill; rw [T.dum, T.size]; rfl
theorem TabCore.fits {t : SetTable} {es : List (Int × Value)} (T : TabCore t es) (r : es.length ≤ t.mask) : t.fits es.length = true := by
  unfold SetTable.fits
  rw [T.fill, T.size]
  simp only [beq_self_eq_true, Bool.true_and, decide_eq_true_eq]
  exact r
theorem TabOk.fits {t : SetTable} {es : List (Int × Value)} (T : TabOk t es) : t.fits es.length = true := T.toTabCore.fits (by have := T.room; omega)
theorem TabCore.notGave {t : SetTable} {es : List (Int × Value)} (T : TabCore t es) : t.gaveWay = false := by
  unfold SetTable.gaveWay
  rcases T.mask with h | h | h <;> rw [h] <;> rfl
theorem TabOk.empty {t : SetTable} {es : List (Int × Value)} (T : TabOk t es) (h : Int) : ∃ N, N < 10 * turns t.mask ∧ (sq t.mask h N).j ∉ t.place.toList ∧ ∀ q, q < N → (sq t.mask h q).j ∈ t.place.toList :=
  road_empty T.mask _ (by rw [Array.length_toList, T.size]; have := T.room; omega) h
theorem tabOk_fresh (f mv : Nat) (led : Bool) : TabOk (SetTable.fresh f mv led) [] where
  mask := .inl rfl
  dum := rfl
  rise := List.Pairwise.nil
  size := rfl
  le := fun j hj => nomatch hj
  room := by show 0 * 5 < 7 * 3; decide
  reach := fun i e j hi => by simp at hi

theorem ins_get {α : Type} (l : List α) (p : Nat) (x : α) (hp : p ≤ l.length) (k : Nat) :
    (l.take p ++ x :: l.drop p)[k]? = if k < p then l[k]? else if k = p then some x else l[k - 1]? := by
  have hlen : (l.take p).length = p := by rw [List.length_take]; exact Nat.min_eq_left hp
  rcases Nat.lt_trichotomy k p with h | h | h
  · rw [if_pos h, List.getElem?_append_left (hlen.symm ▸ h), List.getElem?_take, if_pos h]
  · subst h
    rw [if_neg (Nat.lt_irrefl _), if_pos rfl, List.getElem?_append_right (Nat.le_of_eq hlen), hlen, Nat.sub_self]
    rfl
  · rw [if_neg (Nat.lt_asymm h), if_neg (Nat.ne_of_gt h), List.getElem?_append_right (hlen.symm ▸ Nat.le_of_lt h), hlen]
    obtain ⟨d, rfl⟩ := Nat.exists_eq_add_of_le (Nat.succ_le_of_lt h)
    rw [show p + 1 + d - p = d + 1 by rw [Nat.add_assoc, Nat.add_sub_cancel_left, Nat.add_comm], List.getElem?_cons_succ, List.getElem?_drop]
    rw [show p + 1 + d - 1 = p + d by rw [Nat.add_right_comm]; rfl]
theorem mem_ins {α : Type} (l : List α) (p : Nat) (x y : α) : y ∈ l.take p ++ x :: l.drop p ↔ y = x ∨ y ∈ l := by
  rw [List.mem_append, List.mem_cons]
  constructor
  · rintro (h | h | h)
    · exact .inr (List.mem_of_mem_take h)
    · exact .inl h
    · exact .inr (List.mem_of_mem_drop h)
  · rintro (h | h)
    · exact .inr (.inl h)
    · rw [← List.take_append_drop p l, List.mem_append] at h
      exact h.elim .inl fun h => .inr (.inr h)

theorem put_core {t : SetTable} {es : Array (Int × Value)} (T : TabCore t es.toList) {h : Int} {x : Value} {N : Nat} (he : (sq t.mask h N).j ∉ t.place.toList) (hq : ∀ q, q < N → (sq t.mask h q).j ∈ t.place.toList) :
    TabCore (t.put (sq t.mask h N).j).1 (insertAt es (t.put (sq t.mask h N).j).2 (h, x)).toList := by
  generalize hj : (sq t.mask h N).j = j at he
  obtain ⟨b1, b2, b3⟩ := below_spec t.place j T.rise
  have hplace : (t.put j).1.place.toList = t.place.toList.take (below t.place j) ++ j :: t.place.toList.drop (below t.place j) := SetTable.toList_insertAt ..
  have hes : (insertAt es (t.put j).2 (h, x)).toList = es.toList.take (below t.place j) ++ (h, x) :: es.toList.drop (below t.place j) := SetTable.toList_insertAt ..
  have hdum : (t.put j).1.dummies = #[] := by
    show (if has t.dummies j then _ else t.dummies) = #[]
    rw [T.dum, has_nil]; rfl
  have hmask : (t.put j).1.mask = t.mask := rfl
  have hlen : t.place.toList.length = es.toList.length := by rw [Array.length_toList, T.size]
  have hb : below t.place j ≤ t.place.toList.length := by rw [Array.length_toList]; exact b1
  refine ⟨T.mask, hdum, ?_, ?_, ?_, ?_⟩
  · rw [hplace]
    refine List.pairwise_append.mpr ⟨T.rise.sublist (List.take_sublist ..), List.pairwise_cons.mpr ⟨fun b hbm => ?_, T.rise.sublist (List.drop_sublist ..)⟩, fun a ha b hbm => ?_⟩
    · obtain ⟨k, hk, e⟩ := List.mem_iff_getElem.mp hbm
      rw [List.length_drop] at hk
      rw [List.getElem_drop] at e
      have := b3 (below t.place j + k) (by rw [← Array.length_toList]; omega) (by omega)
      rw [← Array.getElem_toList, e] at this
      exact Nat.lt_of_le_of_ne this fun q => he (q ▸ List.mem_of_mem_drop hbm)
    · obtain ⟨k, hk, e⟩ := List.mem_iff_getElem.mp ha
      rw [List.length_take] at hk
      rw [List.getElem_take] at e
      have q1 := b2 k (by rw [← Array.length_toList]; omega) (by omega)
      rw [← Array.getElem_toList, e] at q1
      refine mem_elim hbm ?_ fun hbm => ?_
      · exact q1
      · obtain ⟨k', hk', e'⟩ := List.mem_iff_getElem.mp hbm
        rw [List.length_drop] at hk'
        rw [List.getElem_drop] at e'
        have := b3 (below t.place j + k') (by rw [← Array.length_toList]; omega) (by omega)
        rw [← Array.getElem_toList, e'] at this
        omega
  · rw [← Array.length_toList, hplace, hes]
    simp only [List.length_append, List.length_cons, List.length_take, List.length_drop]
    rw [hlen]
  · intro y hy
    rw [hplace, mem_ins] at hy
    rcases hy with rfl | hy
    · rw [hmask, ← hj]; exact (sq_le t.mask h N).1
    · exact T.le y hy
  · intro i e j' h1 h2
    rw [hes, ins_get _ _ _ (by rw [← hlen]; exact hb)] at h1
    rw [← Array.getElem?_toList, hplace, ins_get _ _ _ hb] at h2
    rw [hmask, hplace]
    have sub : ∀ y ∈ t.place.toList, y ∈ t.place.toList.take (below t.place j) ++ j :: t.place.toList.drop (below t.place j) := fun y hy => (mem_ins ..).mpr (.inr hy)
    by_cases c1 : i < below t.place j
    · rw [if_pos c1] at h1 h2
      exact (T.reach i e j' h1 (by rw [← Array.getElem?_toList]; exact h2)).mono sub
    · rw [if_neg c1] at h1 h2
      by_cases c2 : i = below t.place j
      · rw [if_pos c2] at h1 h2
        cases h1; cases h2
        exact ⟨N, hj, fun q hlt => sub _ (hq q hlt)⟩
      · rw [if_neg c2] at h1 h2
        exact (T.reach (i - 1) e j' h1 (by rw [← Array.getElem?_toList]; exact h2)).mono sub
end Mine
end
section
set_option Elab.async false
set_option maxRecDepth 100000
open PySem
namespace Mine
open SetTable

structure OwnIs (owner : Array (Option Nat)) (m : Nat) (ps : List Nat) : Prop where
  size : owner.size = m + 1
  get : ∀ j, j ≤ m → owner[j]? = some (if j ∈ ps then some (ps.idxOf j) else none)
theorem OwnIs.getD {owner : Array (Option Nat)} {m : Nat} {ps : List Nat} (O : OwnIs owner m ps) {j : Nat} (hj : j ≤ m) (d : Option Nat) : owner.getD j d = if j ∈ ps then some (ps.idxOf j) else none := by
  rw [Array.getD_eq_getD_getElem?, O.get j hj]; rfl
theorem OwnIs.isNone {owner : Array (Option Nat)} {m : Nat} {ps : List Nat} (O : OwnIs owner m ps) {j : Nat} (hj : j ≤ m) (d : Option Nat) : (owner.getD j d).isNone = true ↔ j ∉ ps := by
  rw [O.getD hj]; by_cases h : j ∈ ps <;> simp [h]

theorem find_range {p : Nat → Bool} {n : Nat} : (∃ k, k < n ∧ p k = true ∧ (∀ q, q < k → p q = false) ∧ (List.range n).find? p = some k) ∨ ((∀ k, k < n → p k = false) ∧ (List.range n).find? p = none) := by
  cases e : (List.range n).find? p with
  | none =>
    right
    refine ⟨fun k hk => ?_, rfl⟩
    have := List.find?_eq_none.mp e k (List.mem_range.mpr hk)
    simpa using this
  | some k =>
    left
    have h1 := List.find?_some e
    have h2 := List.mem_of_find?_eq_some e
    refine ⟨k, List.mem_range.mp h2, h1, fun q hq => ?_, rfl⟩
    have h3 := (List.find?_range_eq_some.mp e).2.2 q hq
    simpa using h3

section
variable {m : Nat} {owner : Array (Option Nat)} {ps : List Nat}
theorem free_spec (O : OwnIs owner m ps) (h : Int) (n' : Nat) (hn' : (blk m h n').1 ∉ ps) : ∀ (fuel n K : Nat), n ≤ n' → n' - n < fuel → sq m h K = atBlk m h n → (∀ q, q < K → (sq m h q).j ∈ ps) →
    ∃ N, layClean.free m owner fuel (blk m h n).1 (blk m h n).2 = some (sq m h N).j ∧ (sq m h N).j ∉ ps ∧ ∀ q, q < N → (sq m h q).j ∈ ps := by
  intro fuel
  induction fuel with
  | zero => intro n K h1 h2; omega
  | succ fuel ih =>
    intro n K h1 h2 hK hq
    have hle := blk_le m h n
    have hend : (blk m h n).1 ≤ runEnd m (blk m h n).1 ∧ runEnd m (blk m h n).1 ≤ m := by unfold runEnd; split <;> omega
    have pos : ∀ k, k < runEnd m (blk m h n).1 + 1 - (blk m h n).1 → (sq m h (K + k)).j = (blk m h n).1 + k := fun k hk => by
      rw [sq_inc m h n K hK k (fs1 hk hend.1)]
    unfold layClean.free
    rcases find_range (p := fun k => (owner.getD ((blk m h n).1 + k) (some 0)).isNone) (n := runEnd m (blk m h n).1 + 1 - (blk m h n).1) with ⟨k, hk, hp, hb, e⟩ | ⟨hb, e⟩
    · rw [e]
      refine ⟨K + k, by rw [pos k hk], ?_, fun q hlt => ?_⟩
      · rw [pos k hk]; exact (O.isNone (fs2 hk hend) _).mp hp
      · by_cases c : q < K
        · exact hq q c
        · obtain ⟨d, rfl⟩ := fs3 c
          have hdk := Nat.lt_of_add_lt_add_left hlt
          rw [pos d (Nat.lt_trans hdk hk)]
          have := hb d hdk
          by_cases z : (blk m h n).1 + d ∈ ps
          · exact z
          · rw [(O.isNone (fs2 (Nat.lt_trans hdk hk) hend) _).mpr z] at this; cases this
    · rw [e]
      dsimp only
      have occ : ∀ d, d < runEnd m (blk m h n).1 + 1 - (blk m h n).1 → (blk m h n).1 + d ∈ ps := fun d hd => by
        have := hb d hd
        by_cases z : (blk m h n).1 + d ∈ ps
        · exact z
        · rw [(O.isNone (fs2 hd hend) _).mpr z] at this; cases this
      have hne : n ≠ n' := by
        rintro rfl
        exact hn' (by have := occ 0 (Nat.sub_pos_of_lt (Nat.lt_succ_of_le hend.1)); rwa [Nat.add_zero] at this)
      have hK' : sq m h (K + (runEnd m (blk m h n).1 - (blk m h n).1) + 1) = atBlk m h (n + 1) := by
        rw [sq, sq_inc m h n K hK _ (Nat.le_refl _)]
        unfold adv
        rw [if_neg (show ¬ (runEnd m (blk m h n).1 - (blk m h n).1 - (runEnd m (blk m h n).1 - (blk m h n).1) > 0) from fun z => Nat.lt_irrefl 0 (by rwa [Nat.sub_self] at z))]
        rfl
      exact ih (n + 1) _ (Nat.lt_of_le_of_ne h1 hne) (fs5 h1 h2 hne) hK' fun q hlt => by
        by_cases c : q < K
        · exact hq q c
        · obtain ⟨d, rfl⟩ := fs3 c
          have hdd := fs4 hlt hend.1
          rw [pos d hdd]
          exact occ d hdd

theorem free_ok (hm : MaskOk m) (O : OwnIs owner m ps) (hl : ps.length ≤ m) (h : Int) :
    ∃ N, layClean.free m owner (turns m) (bits h % (m + 1)) (bits h) = some (sq m h N).j ∧ (sq m h N).j ∉ ps ∧ ∀ q, q < N → (sq m h q).j ∈ ps := by
  have : ∃ j, j ≤ m ∧ j ∉ ps := by
    by_cases q : ∃ j, j ≤ m ∧ j ∉ ps
    · exact q
    · exfalso
      have := pigeon m ps fun j hj => by
        by_cases hj' : j ∈ ps
        · exact hj'
        · exact absurd ⟨j, hj, hj'⟩ q
      omega
  obtain ⟨j, hj, hjp⟩ := this
  obtain ⟨n, hn, e⟩ := blk_cover hm h hj
  exact free_spec O h n (e ▸ hjp) (turns m) 0 0 (Nat.zero_le _) (by unfold turns; omega) rfl (fun q hq => absurd hq (Nat.not_lt_zero _))

theorem OwnIs.put (O : OwnIs owner m ps) {j : Nat} (hj : j ≤ m) (hn : j ∉ ps) : OwnIs (owner.setIfInBounds j (some ps.length)) m (ps ++ [j]) := by
  refine ⟨by rw [Array.size_setIfInBounds, O.size], fun k hk => ?_⟩
  by_cases e : j = k
  · subst e
    rw [Array.getElem?_setIfInBounds_self_of_lt (by rw [O.size]; omega), if_pos (by simp)]
    rw [List.idxOf_append, if_neg hn]; simp
  · rw [Array.getElem?_setIfInBounds_ne e, O.get k hk]
    have : (k ∈ ps ++ [j]) ↔ k ∈ ps := by rw [List.mem_append, List.mem_singleton]; exact ⟨fun h => h.elim id fun h => absurd h.symm e, .inl⟩
    by_cases z : k ∈ ps
    · rw [if_pos z, if_pos (this.mpr z), List.idxOf_append, if_pos z]
    · rw [if_neg z, if_neg (fun h => z (this.mp h))]

noncomputable def layStep (m : Nat) (acc : Option (Array (Option Nat) × Nat)) (h : Int) : Option (Array (Option Nat) × Nat) := do
  let (owner, k) ← acc
  let j ← layClean.free m owner (turns m) (bits h % (m + 1)) (bits h)
  pure (owner.setIfInBounds j (some k), k + 1)
structure LaidIs (m : Nat) (hs : List Int) (owner : Array (Option Nat)) (ps : List Nat) : Prop where
  own : OwnIs owner m ps
  len : ps.length = hs.length
  nodup : ps.Nodup
  le : ∀ j ∈ ps, j ≤ m
  reach : ∀ (i : Nat) (h : Int) (j : Nat), hs[i]? = some h → ps[i]? = some j → Reach m ps h j
theorem lay_fold (hm : MaskOk m) : ∀ (hs done : List Int) (owner : Array (Option Nat)) (ps : List Nat), LaidIs m done owner ps → (done ++ hs).length ≤ m →
    ∃ owner' ps', hs.foldl (layStep m) (some (owner, ps.length)) = some (owner', ps'.length) ∧ LaidIs m (done ++ hs) owner' ps' := by
  intro hs
  induction hs with
  | nil => intro done owner ps L _; exact ⟨owner, ps, rfl, by rw [List.append_nil]; exact L⟩
  | cons h hs ih =>
    intro done owner ps L hl
    rw [List.length_append, List.length_cons] at hl
    obtain ⟨N, e, hn, hq⟩ := free_ok hm L.own (by rw [L.len]; omega) h
    have step : layStep m (some (owner, ps.length)) h = some (owner.setIfInBounds (sq m h N).j (some ps.length), (ps ++ [(sq m h N).j]).length) := by
      unfold layStep
      show (layClean.free m owner (turns m) (bits h % (m + 1)) (bits h) >>= fun j => _) = _
      rw [e, List.length_append]; rfl
    have L' : LaidIs m (done ++ [h]) (owner.setIfInBounds (sq m h N).j (some ps.length)) (ps ++ [(sq m h N).j]) := by
      refine ⟨L.own.put (sq_le m h N).1 hn, by simp [L.len], ?_, ?_, ?_⟩
      · exact List.nodup_append.mpr ⟨L.nodup, by simp, fun a ha b hb => by refine mem_one hb ?_; rintro rfl; exact hn ha⟩
      · intro j hj
        rcases List.mem_append.mp hj with hj | hj
        · exact L.le j hj
        · refine mem_one hj ?_; exact (sq_le m h N).1
      · intro i h' j h1 h2
        have sub : ∀ x ∈ ps, x ∈ ps ++ [(sq m h N).j] := fun x hx => List.mem_append.mpr (.inl hx)
        by_cases c : i < done.length
        · rw [List.getElem?_append_left c] at h1
          rw [List.getElem?_append_left (by rw [L.len]; exact c)] at h2
          exact (L.reach i h' j h1 h2).mono sub
        · rw [List.getElem?_append_right (by omega)] at h1
          rw [List.getElem?_append_right (by rw [L.len]; omega), L.len] at h2
          by_cases z : i - done.length = 0
          · rw [z] at h1 h2
            cases h1; cases h2
            exact ⟨N, rfl, fun q hlt => sub _ (hq q hlt)⟩
          · obtain ⟨d, hd⟩ : ∃ d, i - done.length = d + 1 := Nat.exists_eq_add_one_of_ne_zero (by assumption)
            rw [hd] at h1; simp at h1
    rw [List.foldl_cons, step]
    obtain ⟨o', p', e', L''⟩ := ih (done ++ [h]) _ _ L' (by simp only [List.length_append, List.length_cons, List.length_nil]; omega)
    exact ⟨o', p', e', by rw [List.append_assoc] at L''; exact L''⟩
theorem layClean_ok (hm : MaskOk m) (hs : Array Int) (hl : hs.size ≤ m) : ∃ owner ps, layClean m hs = some owner ∧ LaidIs m hs.toList owner ps := by
  have L0 : LaidIs m [] (Array.replicate (m + 1) none) [] :=
    ⟨⟨Array.size_replicate, fun j hj => by rw [Array.getElem?_replicate, if_pos (by omega)]; simp⟩, rfl, List.nodup_nil, (fun j hj => nomatch hj), fun i h j h1 => by simp at h1⟩
  obtain ⟨o, ps, e, L⟩ := lay_fold hm hs.toList [] _ _ L0 (by simpa using hl)
  refine ⟨o, ps, ?_, by simpa using L⟩
  unfold layClean
  rw [← Array.foldl_toList]
  show Option.map _ (List.foldl (layStep m) (some (Array.replicate (m + 1) none, ([] : List Nat).length)) hs.toList) = _
  rw [e]; rfl

theorem LaidIs.live {hs : List Int} (L : LaidIs m hs owner ps) :
    ((List.range (m + 1)).filterMap fun j => (owner.getD j none).map (j, ·)) = ((List.range (m + 1)).filter (fun j => decide (j ∈ ps))).map fun j => (j, ps.idxOf j) := by
  have : ∀ l : List Nat, (∀ j ∈ l, j ≤ m) → (l.filterMap fun j => (owner.getD j none).map (j, ·)) = (l.filter (fun j => decide (j ∈ ps))).map fun j => (j, ps.idxOf j) := by
    intro l
    induction l with
    | nil => intro _; rfl
    | cons j l ih =>
      intro h
      have ih' := ih fun x hx => h x (.tail _ hx)
      rw [List.filterMap_cons, List.filter_cons, L.own.getD (h j (.head _))]
      by_cases c : j ∈ ps
      · rw [if_pos c, decide_eq_true c, if_pos rfl, List.map_cons, ← ih']; rfl
      · rw [if_neg c, decide_eq_false c, if_neg Bool.false_ne_true, ← ih']; rfl
  exact this _ fun j hj => by have := List.mem_range.mp hj; omega
end

section
variable {m : Nat} {owner : Array (Option Nat)} {ps : List Nat} {es : Array (Int × Value)}
noncomputable def laidPlace (m : Nat) (ps : List Nat) : List Nat := (List.range (m + 1)).filter (fun j => decide (j ∈ ps))
theorem mem_laidPlace {hs : List Int} (L : LaidIs m hs owner ps) (j : Nat) : j ∈ laidPlace m ps ↔ j ∈ ps := by
  unfold laidPlace
  rw [List.mem_filter, List.mem_range, decide_eq_true_eq]
  exact ⟨fun h => h.2, fun h => ⟨by have := L.le j h; omega, h⟩⟩
theorem nodup_laidPlace : (laidPlace m ps).Nodup := List.Nodup.sublist List.filter_sublist List.nodup_range
theorem laid_eq (L : LaidIs m (es.map (·.1)).toList owner ps) (e : layClean m (es.map (·.1)) = some owner) (f mv : Nat) (led plain : Bool) :
    laid m f mv led plain (es.map (·.1)) = some ({ mask := m, place := (laidPlace m ps).toArray, dummies := #[], finger := f, led, moves := mv, plain }, ((laidPlace m ps).map fun j => ps.idxOf j).toArray) := by
  unfold laid
  rw [e]
  show some _ = some _
  rw [L.live]
  simp only [List.map_map]
  congr 2
  · congr 1
    have : (Prod.fst ∘ fun j => (j, List.idxOf j ps)) = id := rfl
    rw [this, List.map_id]; rfl
theorem idxOf_lt_of {l : List Nat} {j : Nat} (h : j ∈ l) : l.idxOf j < l.length := List.idxOf_lt_length_iff.mpr h
theorem order_perm (L : LaidIs m (es.map (·.1)).toList owner ps) : List.Perm ((laidPlace m ps).map fun j => ps.idxOf j) (List.range es.size) := by
  have hlen : ps.length = es.size := by rw [L.len]; simp
  refine (List.perm_ext_iff_of_nodup ?_ List.nodup_range).mpr fun k => ?_
  · refine List.pairwise_map.mpr ?_
    refine List.Pairwise.imp_of_mem (R := (· ≠ ·)) (fun {a b} ha hb hab e => ?_) nodup_laidPlace
    have h1 := List.getElem_idxOf (idxOf_lt_of ((mem_laidPlace L a).mp ha))
    have h2 := List.getElem_idxOf (idxOf_lt_of ((mem_laidPlace L b).mp hb))
    exact hab (by rw [← h1, ← h2]; simp only [e])
  · rw [List.mem_range, List.mem_map]
    constructor
    · rintro ⟨j, hj, rfl⟩
      rw [← hlen]; exact idxOf_lt_of ((mem_laidPlace L j).mp hj)
    · intro hk
      have hk' : k < ps.length := by omega
      exact ⟨ps[k], (mem_laidPlace L _).mpr (List.getElem_mem hk'), L.nodup.idxOf_getElem k hk'⟩
theorem filterMap_all {α β : Type} (f : α → Option β) (g : α → β) : ∀ l : List α, (∀ a ∈ l, f a = some (g a)) → l.filterMap f = l.map g
  | [], _ => rfl
  | a :: l, h => by rw [List.filterMap_cons_some (h a (.head _)), List.map_cons, filterMap_all f g l fun x hx => h x (.tail _ hx)]
theorem laid_core (hm : MaskOk m) (L : LaidIs m (es.map (·.1)).toList owner ps) (f mv : Nat) (led plain : Bool) :
    TabCore { mask := m, place := (laidPlace m ps).toArray, dummies := #[], finger := f, led, moves := mv, plain } (((laidPlace m ps).map fun j => ps.idxOf j).toArray.filterMap (es[·]?)).toList ∧
      ((((laidPlace m ps).map fun j => ps.idxOf j).toArray.filterMap (es[·]?)).size = es.size) := by
  have hlen : ps.length = es.size := by rw [L.len]; simp
  have hidx : ∀ j ∈ laidPlace m ps, ps.idxOf j < es.size := fun j hj => hlen ▸ idxOf_lt_of ((mem_laidPlace L j).mp hj)
  have hes : (((laidPlace m ps).map fun j => ps.idxOf j).toArray.filterMap (es[·]?)).toList = (laidPlace m ps).filterMap fun j => es[ps.idxOf j]? := by
    rw [Array.toList_filterMap, List.filterMap_map]; rfl
  have hpl : (laidPlace m ps).length = es.size := by
    have := (order_perm L).length_eq
    rw [List.length_map, List.length_range] at this; exact this
  have hall : ∀ l : List Nat, (∀ j ∈ l, j ∈ laidPlace m ps) → ∀ k : Nat, (l.filterMap fun j => es[ps.idxOf j]?)[k]? = (l[k]?).bind fun j => es[ps.idxOf j]? := by
    intro l
    induction l with
    | nil => intro _ k; rfl
    | cons j l ih =>
      intro h k
      have hj := hidx j (h j (.head _))
      rw [List.filterMap_cons_some (f := fun j => es[ps.idxOf j]?) (Array.getElem?_eq_getElem hj)]
      cases k with
      | zero => simp [hj]
      | succ k => rw [List.getElem?_cons_succ, List.getElem?_cons_succ]; exact ih (fun x hx => h x (.tail _ hx)) k
  have hsz : ((laidPlace m ps).filterMap fun j => es[ps.idxOf j]?).length = (laidPlace m ps).length := by
    have : ∀ l : List Nat, (∀ j ∈ l, j ∈ laidPlace m ps) → (l.filterMap fun j => es[ps.idxOf j]?).length = l.length := by
      intro l
      induction l with
      | nil => intro _; rfl
      | cons j l ih =>
        intro h
        have hj := hidx j (h j (.head _))
        rw [List.filterMap_cons_some (f := fun j => es[ps.idxOf j]?) (Array.getElem?_eq_getElem hj), List.length_cons, List.length_cons, ih fun x hx => h x (.tail _ hx)]
    exact this _ fun _ h => h
  refine ⟨⟨hm, rfl, ?_, ?_, ?_, ?_⟩, ?_⟩
  · show Rise (laidPlace m ps)
    exact List.Pairwise.sublist List.filter_sublist List.pairwise_lt_range
  · rw [hes, hsz]; exact List.size_toArray
  · intro j hj
    exact L.le j ((mem_laidPlace L j).mp hj)
  · intro i e j h1 h2
    rw [hes, hall _ fun _ h => h] at h1
    have h2' : (laidPlace m ps)[i]? = some j := by simpa using h2
    rw [h2'] at h1
    have hj := (mem_laidPlace L j).mp (List.mem_of_getElem? h2')
    have hi := idxOf_lt_of hj
    have r := L.reach (ps.idxOf j) e.1 j (by
      have h1' : es[ps.idxOf j]? = some e := h1
      rw [Array.getElem?_toList, Array.getElem?_map, h1']; rfl) (by rw [List.getElem?_eq_getElem hi, List.getElem_idxOf])
    exact r.mono fun x hx => (mem_laidPlace L x).mpr hx
  · rw [← Array.length_toList, hes, hsz, hpl]
theorem order_mem (L : LaidIs m (es.map (·.1)).toList owner ps) : List.Perm (((laidPlace m ps).map fun j => ps.idxOf j).toArray.filterMap (es[·]?)).toList es.toList := by
  rw [Array.toList_filterMap]
  exact ((order_perm L).filterMap _).trans (by rw [filterMap_getElem?_range])
end
end Mine
end
section
set_option Elab.async false
set_option maxRecDepth 100000
open PySem
namespace Mine
open SetTable

theorem relay_mask {m n : Nat} (hm : MaskOk m) (hn : n ≤ 76) (h1 : n * 5 ≥ m * 3) (h2 : n * 5 < m * 3 + 5) :
    MaskOk (sizeAbove (grown n) - 1) ∧ n * 5 < (sizeAbove (grown n) - 1) * 3 ∧ n ≤ sizeAbove (grown n) - 1 := by
  rcases hm with rfl | rfl | rfl
  · obtain rfl : n = 5 := by omega
    exact ⟨.inr (.inl (by decide)), by decide, by decide⟩
  · obtain rfl : n = 19 := by omega
    exact ⟨.inr (.inr (by decide)), by decide, by decide⟩
  · omega
theorem relaid_ok {t : SetTable} {es : Array (Int × Value)} (T : TabCore t es.toList) (hn : es.size ≤ 76) (h1 : es.size * 5 ≥ t.mask * 3) (h2 : es.size * 5 < t.mask * 3 + 5) :
    ∃ t' order, t.relaid (es.map (·.1)) (grown es.size) = some (t', order) ∧ TabOk t' (order.filterMap (es[·]?)).toList ∧ (order.filterMap (es[·]?)).size = es.size ∧
      List.Perm order.toList (List.range es.size) ∧ List.Perm (order.filterMap (es[·]?)).toList es.toList ∧ t'.led = t.led ∧ t'.plain = t.plain := by
  obtain ⟨hm, hr, hl⟩ := relay_mask T.mask hn h1 h2
  obtain ⟨owner, ps, e, L⟩ := layClean_ok hm (es.map (·.1)) (by rw [Array.size_map]; exact hl)
  obtain ⟨c1, c2⟩ := laid_core hm L t.finger (t.movedTo (sizeAbove (grown es.size) - 1)) t.led t.plain
  refine ⟨_, _, laid_eq L e _ _ _ _, ⟨c1, ?_⟩, c2, order_perm L, order_mem L, rfl, rfl⟩
  rw [Array.length_toList, c2]
  exact hr
theorem relayAll_ok {t : SetTable} {es : Array (Int × Value)} (T : TabCore t es.toList) (hn : es.size ≤ 76) (h1 : es.size * 5 ≥ t.mask * 3) (h2 : es.size * 5 < t.mask * 3 + 5) :
    ∃ t' es', relayAll t es (grown es.size) = (es', t', false) ∧ TabOk t' es'.toList ∧ es'.size = es.size ∧ List.Perm es'.toList es.toList := by
  obtain ⟨t', order, e, T', hs, hp, hq, _, _⟩ := relaid_ok T hn h1 h2
  refine ⟨t', order.filterMap (es[·]?), ?_, T', hs, hq⟩
  unfold relayAll
  rw [e]
  dsimp only
  rw [if_pos]
  rw [Bool.and_eq_true]
  refine ⟨List.isPerm_iff.mpr hp, ?_⟩
  rw [← Array.length_toList]
  exact T'.fits

open Classical in
/-- the first index from k on with a property, not beyond N -/
theorem firstFrom (P : Nat → Prop) : ∀ (d k N : Nat), k + d = N → P N → ∃ n, k ≤ n ∧ n ≤ N ∧ P n ∧ ∀ q, k ≤ q → q < n → ¬ P q
  | 0, k, N, e, h => ⟨N, by omega, Nat.le_refl _, h, fun q h1 h2 => by omega⟩
  | d + 1, k, N, e, h => by
    by_cases c : P k
    · exact ⟨k, Nat.le_refl _, by omega, c, fun q h1 h2 => by omega⟩
    · obtain ⟨n, h1, h2, h3, h4⟩ := firstFrom P d (k + 1) N (by omega) h
      refine ⟨n, by omega, h2, h3, fun q q1 q2 => ?_⟩
      by_cases z : q = k
      · subst z; exact c
      · exact h4 q (by omega) q2

section
variable {prog : Program} {w : World} {A : Around} {E : Value → Shared → Prop} {s : Shared} {a : Addr} {o : Obj} {es : Array (Int × Value)} {ep : Nat} {t : SetTable} {x : Value} {h : Int} {adding : Bool}

theorem probe_at {hashAt : Nat → Int} (hh : ∀ i, hashAt i = (es[i]?.map (·.1)).getD 0) (T : TabOk t es.toList) {N k : Nat} (hN : (sq t.mask h N).j ∉ t.place.toList) (hq : ∀ q, q < N → (sq t.mask h q).j ∈ t.place.toList) (hb : N < 10 * turns t.mask) (hk : k ≤ N) :
    (t.probe hashAt h (sq t.mask h k) = some (.empty (sq t.mask h N).j none) ∧ (∀ q, k ≤ q → q < N → ∀ (i : Nat) (e : Int × Value), t.place[i]? = some (sq t.mask h q).j → es[i]? = some e → e.1 ≠ h)) ∨
    (∃ (n i : Nat) (y : Value), k ≤ n ∧ n < N ∧ t.place[i]? = some (sq t.mask h n).j ∧ t.slot (sq t.mask h n).j = .live i ∧ es[i]? = some (h, y) ∧ t.probe hashAt h (sq t.mask h k) = some (.candidate (sq t.mask h n).j i (sq t.mask h (n + 1))) ∧
      (∀ q, k ≤ q → q < n → ∀ (i : Nat) (e : Int × Value), t.place[i]? = some (sq t.mask h q).j → es[i]? = some e → e.1 ≠ h)) := by
  have live : ∀ q, q < N → ∃ (i : Nat) (e : Int × Value), t.place[i]? = some (sq t.mask h q).j ∧ es[i]? = some e ∧ t.slot (sq t.mask h q).j = .live i := fun q hlt => by
    obtain ⟨i, hi, e⟩ := List.mem_iff_getElem.mp (hq q hlt)
    have hp : t.place[i]? = some (sq t.mask h q).j := by rw [← Array.getElem?_toList, List.getElem?_eq_getElem hi, e]
    have hie : i < es.size := by rw [← Array.length_toList, ← T.size, ← Array.length_toList]; exact hi
    exact ⟨i, es[i], hp, Array.getElem?_eq_getElem hie, slot_live T.rise hp⟩
  have inj : ∀ {i i' j : Nat}, t.place[i]? = some j → t.place[i']? = some j → i = i' := fun {i i' j} h1 h2 => by
    have e1 := slot_live T.rise h1
    have e2 := slot_live T.rise h2
    rw [e1] at e2
    exact Slot.live.inj e2
  obtain ⟨n, h1, h2, h3, h4⟩ := firstFrom (fun q => q = N ∨ ∃ i, t.slot (sq t.mask h q).j = .live i ∧ hashAt i = h) (N - k) k N (by omega) (.inl rfl)
  have skip : ∀ q, k ≤ q → q < n → ∃ i, t.slot (sq t.mask h q).j = .live i ∧ hashAt i ≠ h := fun q q1 q2 => by
    obtain ⟨i, e, _, _, hs⟩ := live q (by omega)
    exact ⟨i, hs, fun z => h4 q q1 q2 (.inr ⟨i, hs, z⟩)⟩
  have none_ : ∀ q, k ≤ q → q < n → ∀ (i : Nat) (e : Int × Value), t.place[i]? = some (sq t.mask h q).j → es[i]? = some e → e.1 ≠ h := fun q q1 q2 i e hp he z => by
    obtain ⟨i', hs, hne⟩ := skip q q1 q2
    rw [slot_live T.rise hp] at hs
    cases hs
    exact hne (by rw [hh, he]; exact z)
  by_cases c : n = N
  · subst c
    left
    exact ⟨go_empty (slot_empty T.dum hN) (n - k) k _ (by omega) (by omega) skip, none_⟩
  · right
    obtain ⟨i, hs, hi⟩ := h3.resolve_left c
    obtain ⟨i', e, hp, he, hs'⟩ := live n (by omega)
    rw [hs] at hs'
    cases hs'
    rw [hh, he] at hi
    obtain ⟨eh, ey⟩ := e
    have hi' : eh = h := hi
    subst hi'
    exact ⟨n, i, ey, h1, by omega, hp, hs, he, go_cand hs (by rw [hh, he]; rfl) (n - k) k _ (by omega) (by omega) skip, none_⟩

theorem search_from (ho : s.heap.get? a = some o) (hd : o.data = .set es ep t) (T : TabOk t es.toList) (same : Value → Bool)
    (heq : ∀ y, (h, y) ∈ es.toList → ∀ Q : Bool → Shared → Prop, Q (same y) s → wpAny (model prog w) A (eqBool y x) Q E s)
    (hsm : ∀ y, (h, y) ∈ es.toList → ∀ Q : Bool → Shared → Prop, Q true s → wpAny (model prog w) A (isSame y y) Q E s)
    (hun : t.led = false → ∀ Q : Bool → Shared → Prop, Q false s → wpAny (model prog w) A (searchCouldBeSeen x ((es.filter (·.1 == h)).toList.map (·.2))) Q E s)
    {N : Nat} (hN : (sq t.mask h N).j ∉ t.place.toList) (hq : ∀ q, q < N → (sq t.mask h q).j ∈ t.place.toList) (hb : N < 10 * turns t.mask)
    {Q : SetFound → Shared → Prop} (hY : ∀ y, (h, y) ∈ es.toList → same y = true → ∀ r, (adding = false → r.isSome = true) → Q (.there r) s)
    (hNo : (∀ y, (h, y) ∈ es.toList → same y = false) → Q (.free (sq t.mask h N).j false) s) :
    ∀ (d k fuel : Nat) (stand : Option Probe), stand.getD (t.probeStart h) = sq t.mask h k → k + d = N → d < fuel →
      (∀ q, q < k → ∀ (i : Nat) (y : Value), t.place[i]? = some (sq t.mask h q).j → es[i]? = some (h, y) → same y = false) →
      wpAny (model prog w) A (setSearchFrom a x h adding fuel stand) Q E s := by
  intro d
  induction d using Nat.strongRecOn with
  | ind d ih =>
    intro k fuel stand hst hk hf hno
    obtain ⟨fuel, rfl⟩ := fuel_of hf
    unfold setSearchFrom
    refine wpAny_bind (wpAny_setState_of ho hd (by rw [← Array.length_toList]; exact T.fits) ?_)
    dsimp only
    rw [T.notGave]
    simp only [Bool.false_eq_true, ↓reduceIte]
    rw [hst]
    rcases probe_at (hashAt := _) (fun i => rfl) T hN hq hb (show k ≤ N by omega) with ⟨e, hn⟩ | ⟨n, i, y, k1, k2, hp, hs, he, e, hn⟩
    · erw [e]
      dsimp only
      refine wpAny_pure (hNo fun y hy => ?_)
      -- an entry of hash h lies on the road
      obtain ⟨i, hi, ei⟩ := List.mem_iff_getElem.mp hy
      have he : es.toList[i]? = some (h, y) := by rw [List.getElem?_eq_getElem hi, ei]
      have hip : i < t.place.size := by rw [T.size]; exact hi
      obtain ⟨q, e1, e2⟩ := T.reach i (h, y) t.place[i] he (Array.getElem?_eq_getElem hip)
      have hqN : q < N := by
        rcases Nat.lt_or_ge q N with z | z
        · exact z
        · exfalso
          by_cases c : q = N
          · subst c
            exact hN (by rw [e1]; exact Array.getElem_mem_toList hip)
          · exact hN (e2 N (by omega))
      have hpq : t.place[i]? = some (sq t.mask h q).j := by rw [e1]; exact Array.getElem?_eq_getElem hip
      rw [Array.getElem?_toList] at he
      by_cases c : q < k
      · exact hno q c i y hpq he
      · exact absurd rfl (hn q (by omega) hqN i (h, y) hpq he)
    · erw [e]
      dsimp only
      have hmem : (h, y) ∈ es.toList := by rw [Array.mem_toList_iff]; exact Array.mem_of_getElem? he
      have rest : wpAny (model prog w) A (do
          let equal ← holding [y] (eqBool y x)
          let (es', _, t') ← setState a
          if adding && equal then return .there none
          let some same := t'.sameMemory t.moves t.mask | unsupported "set.changed-during-lookup:is-the-new-block-at-the-old-address"
          let still ← match (if same then t'.slot (sq t.mask h n).j else .empty) with
            | .live i' => match es'[i']? with
              | some (_, y') => do pure (if ← isSame y' y then some i' else none)
              | none => pure none
            | _ => pure none
          match still with
          | none => rule "set.search.anew"; setSearchFrom a x h adding fuel none
          | some i' => if equal then return .there (some i') else setSearchFrom a x h adding fuel (some (sq t.mask h (n + 1)))) Q E s := by
        refine wpAny_bind (wpAny_holding (heq y hmem _ ?_))
        refine wpAny_bind (wpAny_setState_of ho hd (by rw [← Array.length_toList]; exact T.fits) ?_)
        dsimp only
        by_cases c : (adding && same y) = true
        · rw [if_pos c]
          obtain ⟨c1, c2⟩ := Bool.and_eq_true_iff.mp c
          exact wpAny_pure (hY y hmem c2 none (fun z => by rw [c1] at z; cases z))
        · rw [if_neg c]
          have hm : t.sameMemory t.moves t.mask = some true := by unfold SetTable.sameMemory; simp
          rw [hm]
          dsimp only
          rw [if_pos rfl, hs]
          dsimp only
          rw [he]
          dsimp only
          refine wpAny_bind (hsm y hmem _ ?_)
          rw [if_pos rfl]
          refine wpAny_bind (wpAny_pure ?_)
          dsimp only
          cases hsy : same y with
          | true =>
            rw [if_pos rfl]
            exact wpAny_pure (hY y hmem hsy (some i) fun _ => rfl)
          | false =>
            rw [if_neg Bool.false_ne_true]
            refine ih (N - (n + 1)) (by omega) (n + 1) fuel _ rfl (by omega) (by omega) fun q q1 i' y' p1 p2 => ?_
            by_cases z : q < k
            · exact hno q z i' y' p1 p2
            · by_cases z' : q < n
              · exact absurd rfl (hn q (by omega) z' i' (h, y') p1 p2)
              · obtain rfl : q = n := by omega
                have : i' = i := by
                  have e2 := slot_live T.rise p1
                  rw [hs] at e2
                  exact (Slot.live.inj e2).symm
                subst this
                rw [he] at p2
                cases p2
                exact hsy
      by_cases hl : t.led = true
      · rw [if_neg (by rw [hl]; decide)]
        rw [he]
        exact rest
      · have hl' : t.led = false := by simpa using hl
        rw [if_pos (by rw [hl']; rfl)]
        refine wpAny_bind (hun hl' _ ?_)
        rw [if_neg Bool.false_ne_true]
        rw [he]
        exact rest
end
end Mine
end
section
set_option Elab.async false
set_option maxRecDepth 100000
open PySem PySem.SeqAt
namespace Mine

inductive Sc where
  | none
  | int (i : Int)
  | str (x : Str)
  deriving DecidableEq
noncomputable def b2i (b : Bool) : Int := if b then 1 else 0
noncomputable def scIs : Sc → Value → Bool
  | .none, .none => true
  | .int i, .int j _ => i == j
  | .int i, .bool b => i == b2i b
  | .str x, .str y _ => y == x
  | _, _ => false
theorem scIs_cases {k : Sc} {v : Value} (h : scIs k v = true) : (k = .none ∧ v = .none) ∨ (∃ i t, k = .int i ∧ v = .int i t) ∨ (∃ b, k = .int (b2i b) ∧ v = .bool b) ∨ ∃ x t, k = .str x ∧ v = .str x t := by
  cases k <;> cases v <;> simp [scIs] at h
  · exact .inl ⟨rfl, rfl⟩
  · exact .inr (.inr (.inl ⟨_, by rw [h], rfl⟩))
  · subst h; exact .inr (.inl ⟨_, _, rfl, rfl⟩)
  · subst h; exact .inr (.inr (.inr ⟨_, _, rfl, rfl⟩))
noncomputable def scHash (w : World) : Sc → Int
  | .none => 0xFCA86420
  | .int i => hashInt i
  | .str x => hashStr w x
section
variable {prog : Program} {w : World} {A : Around} {E : Value → Shared → Prop} {s : Shared}
theorem pyHash_none {Q : Int → Shared → Prop} (h : Q 0xFCA86420 { s with toks := s.toks + 1 }) : wpAny (model prog w) A (pyHash .none) Q E s := by
  have hT : s.TypeIs .none "NoneType" := rfl
  unfold pyHash
  have hv : [Value.none].any Value.onHeap = false := rfl
  refine wpAny_bind ?_
  rw [cRoomFor, if_neg (by rw [hv]; exact Bool.false_ne_true)]; refine wpAny_pure ?_
  refine wpAny_bind (wpAny_specialOf hT F.slot_NoneType_hash.lookup ?_)
  show wpAny _ _ (if (some (Value.builtin "NoneType.__hash__") == some Value.none) = true then _ else _) Q E s
  rw [if_neg (by rw [beq_builtin_none]; exact Bool.false_ne_true)]
  refine wpAny_bind (wpAny_specialOf hT F.slot_NoneType_hash.lookup ?_)
  show wpAny _ _ (callSpecialIfBoundUnlessNone? .none "__hash__" _ >>= _) Q E s
  refine wpAny_bind (wpAny_callSpecialIfBoundUnlessNone?_slot hT F.slot_NoneType_hash
    (wpAny_call_entry F.slot_NoneType_hash hT F.entry_NoneType_hash
      (show wpAny _ _ (do ret (← mkInt 0xFCA86420)) _ _ s from wpAny_ret_mkInt ?_) (F.args_NoneType_hash_1 _)))
  exact wpAny_pure h
theorem pyHash_bool {b : Bool} {Q : Int → Shared → Prop} (h : Q (hashInt (b2i b)) { s with toks := s.toks + 1 }) : wpAny (model prog w) A (pyHash (.bool b)) Q E s := by
  have hT : s.TypeIs (.bool b) "bool" := rfl
  have hr := rawHash_range (b2i b)
  unfold pyHash
  have hv : [Value.bool b].any Value.onHeap = false := rfl
  refine wpAny_bind ?_
  rw [cRoomFor, if_neg (by rw [hv]; exact Bool.false_ne_true)]; refine wpAny_pure ?_
  refine wpAny_bind (wpAny_specialOf hT F.slot_bool_hash.lookup ?_)
  show wpAny _ _ (if (some (Value.builtin "int.__hash__") == some Value.none) = true then _ else _) Q E s
  rw [if_neg (by rw [beq_builtin_none]; exact Bool.false_ne_true)]
  refine wpAny_bind (wpAny_specialOf hT F.slot_bool_hash.lookup ?_)
  show wpAny _ _ (callSpecialIfBoundUnlessNone? (.bool b) "__hash__" _ >>= _) Q E s
  refine wpAny_bind (wpAny_callSpecialIfBoundUnlessNone?_slot hT F.slot_bool_hash
    (wpAny_call_entry F.slot_bool_hash hT entry_int_hash
      (show wpAny _ _ (do ret (← mkInt (rawHash (b2i b)))) _ _ s from wpAny_ret_mkInt ?_) (args_int_hash _)))
  show wpAny _ _ (if (decide (-(2 : Int) ^ 63 ≤ rawHash (b2i b)) && decide (rawHash (b2i b) < 2 ^ 63)) = true then _ else _) Q E _
  rw [if_pos (by rw [decide_eq_true hr.1, decide_eq_true hr.2]; rfl)]
  exact wpAny_pure h
end
inductive ScV : Sc → Value → Prop
  | none : ScV .none .none
  | int (i : Int) (t : Tok) : ScV (.int i) (.int i t)
  | bool (b : Bool) : ScV (.int (b2i b)) (.bool b)
  | str (x : Str) (t : Tok) : ScV (.str x) (.str x t)
theorem scV {k : Sc} {v : Value} (h : scIs k v = true) : ScV k v := by
  cases k <;> cases v <;> simp [scIs] at h
  · exact .none
  · rw [h]; exact .bool _
  · subst h; exact .int _ _
  · subst h; exact .str _ _
theorem dne {a b : Sc} (h : a ≠ b) : false = decide (a = b) := (decide_eq_false h).symm
theorem b2i_inj : ∀ {c d : Bool}, b2i c = b2i d → c = d
  | true, true, _ | false, false, _ => rfl
  | true, false, h | false, true, h => absurd h (by decide)
theorem sc_inj {a b : Sc} {v : Value} (x : ScV a v) (y : ScV b v) : a = b := by
  cases x <;> cases y <;> rfl
theorem eqAt_to {A : Around} {s : Shared} {u v : Value} {c d : Bool} (h : EqAt A s u v c) (e : c = d) : EqAt A s u v d := e ▸ h
theorem int_dec {i j : Int} : (i == j) = decide (Sc.int i = Sc.int j) := by rw [Bool.eq_iff_iff, beq_iff_eq, decide_eq_true_iff]; exact ⟨congrArg _, Sc.int.inj⟩
theorem str_dec {i j : Str} : (i == j) = decide (Sc.str i = Sc.str j) := by rw [Bool.eq_iff_iff, beq_iff_eq, decide_eq_true_iff]; exact ⟨congrArg _, Sc.str.inj⟩
theorem sc_eq {A : Around} {s : Shared} {a b : Sc} {u v : Value} (x : ScV a u) (y : ScV b v) : EqAt A s u v (decide (a = b)) := by
  cases x with
  | none => cases y with
    | none => exact eqAt_to (EqAt.same _) (by simp)
    | int i t => exact eqAt_to (EqAt.none_int _ _) (dne (nomatch ·))
    | bool c => exact eqAt_to (EqAt.none_bool _) (dne (nomatch ·))
    | str x t => exact eqAt_to (EqAt.none_str _ _) (dne (nomatch ·))
  | int i t => cases y with
    | none => exact eqAt_to (EqAt.int_none _ _) (dne (nomatch ·))
    | int i' t' => exact eqAt_to (EqAt.int_int _ _ _ _) int_dec
    | bool c => exact eqAt_to (EqAt.int_bool _ _ _) int_dec
    | str x t' => exact eqAt_to (EqAt.int_str _ _ _ _) (dne (nomatch ·))
  | bool c => cases y with
    | none => exact eqAt_to (EqAt.bool_none _) (dne (nomatch ·))
    | int i t => exact eqAt_to (EqAt.bool_int _ _ _) int_dec
    | bool c' => exact eqAt_to (EqAt.bool_bool _ _) (by cases c <;> cases c' <;> decide)
    | str x t => exact eqAt_to (EqAt.bool_str _ _ _) (dne (nomatch ·))
  | str x t => cases y with
    | none => exact eqAt_to (EqAt.str_none _ _) (dne (nomatch ·))
    | int i t' => exact eqAt_to (EqAt.str_int _ _ _ _) (dne (nomatch ·))
    | bool c => exact eqAt_to (EqAt.str_bool _ _ _) (dne (nomatch ·))
    | str x' t' => exact eqAt_to (EqAt.str_str _ _ _ _) str_dec
noncomputable def scKind (prog : Program) (w : World) : KeyKind prog w Sc where
  is := scIs
  hash := scHash w
  inj := fun v a b ha hb => sc_inj (scV ha) (scV hb)
  byValue := fun k v h => by cases scV h <;> rfl
  pyHash := fun hv h => by
    cases scV hv with
    | none => exact pyHash_none h
    | int i t => exact wpAny_pyHash_int h
    | bool c => exact pyHash_bool h
    | str x t => exact wpAny_pyHash_str h
  eqBool := fun {A E s a b u v Q} hu hv h => sc_eq (scV hu) (scV hv) prog w E Q h
  «strs» := fun k x t v h => by
    cases scV h
    cases v <;> rfl

/-- a key that a set may hold: a plain value, or a tuple of such -/
inductive NK where
  | sc (k : Sc)
  | tup (ks : List Sc)
  deriving DecidableEq
noncomputable def tokOk : Value → Prop
  | .int _ t | .str _ t => t ≠ 0
  | _ => True
inductive KeyIs (prog : Program) (w : World) (g : Heap) : NK → Value → Prop
  | sc {k : Sc} {v : Value} : scIs k v = true → tokOk v → KeyIs prog w g (.sc k) v
  | tup {ks : List Sc} {a : Addr} : IsTupleKey (scKind prog w) g ks a → KeyIs prog w g (.tup ks) (.ref a)
noncomputable def kHash (prog : Program) (w : World) : NK → Int
  | .sc k => scHash w k
  | .tup ks => tupleKeyHash (scKind prog w) ks
section
variable {prog : Program} {w : World} {A : Around} {E : Value → Shared → Prop} {s : Shared} {g : Heap} {k k' : NK} {v v' : Value}
theorem tupStays {ks : List Sc} {a : Addr} {h : Heap} (x : IsTupleKey (scKind prog w) g ks a) (st : g.StaysIn h) : IsTupleKey (scKind prog w) h ks a :=
  let ⟨o, items, n, ho, hc, hd, hi⟩ := x; ⟨o, items, n, st _ _ ho, hc, hd, hi⟩
theorem KeyIs.stays {h : Heap} (x : KeyIs prog w g k v) (st : g.StaysIn h) : KeyIs prog w h k v := by
  cases x with
  | sc h1 h2 => exact .sc h1 h2
  | tup h1 => exact .tup (tupStays h1 st)
theorem scIs_ref {k : Sc} {a : Addr} : scIs k (.ref a) = false := by cases k <;> rfl
theorem KeyIs.inj (x : KeyIs prog w g k v) (y : KeyIs prog w g k' v) : k = k' := by
  cases x with
  | sc h1 _ => cases y with
    | sc h2 _ => rw [(scKind prog w).inj _ _ _ h1 h2]
    | tup _ => rw [scIs_ref] at h1; cases h1
  | tup h1 => cases y with
    | sc h2 _ => rw [scIs_ref] at h2; cases h2
    | tup h2 => rw [h1.inj h2]
theorem key_hash (hu : A.units < cLine) (st : g.StaysIn s.heap) (x : KeyIs prog w g k v) {Q : Int → Shared → Prop} (h : ∀ n, Q (kHash prog w k) { s with toks := s.toks + n }) : wpAny (model prog w) A (pyHash v) Q E s := by
  cases x with
  | sc h1 _ => exact (scKind prog w).pyHash h1 (h 1)
  | tup h1 => exact wpAny_pyHash_tuple hu (tupStays h1 st) (h _)
theorem scIs_scannable {k : Sc} {v : Value} (h : scIs k v = true) : v.scannable = true := by
  rcases scIs_cases h with ⟨rfl, rfl⟩ | ⟨i, t, rfl, rfl⟩ | ⟨c, rfl, rfl⟩ | ⟨x, t, rfl, rfl⟩ <;> rfl
theorem eq_tup_sc (hu : A.units < cLine) {ks : List Sc} {a : Addr} (h1 : IsTupleKey (scKind prog w) s.heap ks a) {k : Sc} (h2 : scIs k v = true) : EqAt A s (.ref a) v false ∧ EqAt A s v (.ref a) false := by
  obtain ⟨o, items, n, ho, hc, hd, hi⟩ := h1
  have hT : s.heap.IsTuple a items := ⟨o, ho, hc, n, hd⟩
  rcases scIs_cases h2 with ⟨rfl, rfl⟩ | ⟨i, t, rfl, rfl⟩ | ⟨c, rfl, rfl⟩ | ⟨x, t, rfl, rfl⟩
  · exact ⟨EqAt.tuple_none hT hu, EqAt.none_tuple hT hu⟩
  · exact ⟨EqAt.tuple_int _ _ hT hu, EqAt.int_tuple _ _ hT hu⟩
  · exact ⟨EqAt.tuple_bool _ hT hu, EqAt.bool_tuple _ hT hu⟩
  · exact ⟨EqAt.tuple_str _ _ hT hu, EqAt.str_tuple _ _ hT hu⟩
theorem key_eq (hu : A.units < cLine) (st : g.StaysIn s.heap) (x : KeyIs prog w g k v) (y : KeyIs prog w g k' v') {Q : Bool → Shared → Prop} (h : Q (decide (k = k')) s) : wpAny (model prog w) A (eqBool v v') Q E s := by
  cases x with
  | sc h1 _ => cases y with
    | sc h2 _ => exact (scKind prog w).eqBool h1 h2 (by simpa using h)
    | tup h2 => exact (eq_tup_sc hu (tupStays h2 st) h1).2 prog w E Q (by simpa using h)
  | tup h1 => cases y with
    | sc h2 _ => exact (eq_tup_sc hu (tupStays h1 st) h2).1 prog w E Q (by simpa using h)
    | tup h2 => exact wpAny_eqBool_tuple hu (tupStays h1 st) (tupStays h2 st) (by simpa using h)
theorem key_same (x : KeyIs prog w g k v) {Q : Bool → Shared → Prop} (h : Q true s) : wpAny (model prog w) A (isSame v v) Q E s := by
  cases x with
  | sc h1 ht =>
    rcases scIs_cases h1 with ⟨rfl, rfl⟩ | ⟨i, t, rfl, rfl⟩ | ⟨c, rfl, rfl⟩ | ⟨x, t, rfl, rfl⟩
    · exact wpAny_pure h
    · have ht : t ≠ 0 := ht
      show wpAny _ _ (if (i == i && smallInt i) = true then isSame.cachedInt t t else isSame.created (i == i) t t) Q E s
      split
      · unfold isSame.cachedInt
        rw [if_neg (by simp [ht])]
        exact wpAny_bind (wpAny_rule (wpAny_pure h))
      · unfold isSame.created
        rw [if_neg (by simp [ht]), if_pos (by simp)]
        exact wpAny_pure h
    · show wpAny _ _ (pure (Value.bool c == Value.bool c)) Q E s
      rw [beq_self_eq_true]; exact wpAny_pure h
    · have ht : t ≠ 0 := ht
      show wpAny _ _ (isSame.created (x == x) t t) Q E s
      unfold isSame.created
      rw [if_neg (by simp [ht]), if_pos (by simp)]
      exact wpAny_pure h
  | @tup ks a h1 =>
    show wpAny _ _ (if (a == a) = true then pure true else _) Q E s
    rw [if_pos (by simp)]
    exact wpAny_pure h
theorem key_quiet (st : g.StaysIn s.heap) (x : KeyIs prog w g k v) {Q : Bool → Shared → Prop} (h : Q true s) : wpAny (model prog w) A (eqIsQuiet 8 v) Q E s := by
  cases x with
  | sc h1 _ => rw [eqIsQuiet_byValue 8 ((scKind prog w).byValue _ _ h1)]; exact wpAny_pure h
  | tup h1 => exact wpAny_eqIsQuiet_tuple (tupStays h1 st) h
theorem ofClass_byValue (n : Nat) {v : Value} (h : carriedByValue v = true) : ofAClassStatement n v = pure false := by
  cases v with
  | ref a => simp [carriedByValue] at h
  | _ => first | rfl | (unfold ofAClassStatement; rfl)
theorem key_ofClass (st : g.StaysIn s.heap) (x : KeyIs prog w g k v) {Q : Bool → Shared → Prop} (h : Q false s) : wpAny (model prog w) A (ofAClassStatement 8 v) Q E s := by
  cases x with
  | sc h1 _ => rw [ofClass_byValue 8 ((scKind prog w).byValue _ _ h1)]; exact wpAny_pure h
  | tup h1 =>
    have h1 := tupStays h1 st
    have hT := h1.typeIs
    obtain ⟨o, items, n, ho, _, hd, hi⟩ := h1
    unfold ofAClassStatement
    refine wpAny_bind (wpAny_typeOf hT ?_)
    dsimp only
    rw [if_pos (by simp)]
    refine wpAny_bind (wpAny_pure ?_)
    rw [if_neg (by simp)]
    refine wpAny_bind (wpAny_seqItems ho hd ?_)
    dsimp only
    refine wpAny_bind ?_
    rw [← Array.forIn_toList]
    refine wpAny_forIn_list _ (fun rest r s' => r.1 = none ∧ s' = s ∧ ∀ v ∈ rest, carriedByValue v = true) _ ?_ ?_ _ _ ⟨rfl, rfl, hi.byValue⟩
    · rintro v rest r s' ⟨hr, rfl, hall⟩
      rw [ofClass_byValue _ (hall v List.mem_cons_self)]
      refine wpAny_bind (wpAny_pure ?_)
      simp only [Bool.false_eq_true, if_false]
      exact wpAny_pure ⟨rfl, rfl, fun u hu' => hall u (List.mem_cons_of_mem _ hu')⟩
    · rintro ⟨r1, r2⟩ s' ⟨hr, rfl, _⟩
      simp only at hr
      subst hr
      exact wpAny_pure h
end
end Mine
end
section
set_option Elab.async false
set_option maxRecDepth 100000
open PySem PySem.SeqAt
namespace Mine
open SetTable

section
variable {prog : Program} {w : World} {A : Around} {E : Value → Shared → Prop} {s : Shared} {g : Heap} {k k' : NK} {v v' : Value}
theorem key_byValue (hu : A.units < cLine) (st : g.StaysIn s.heap) (x : KeyIs prog w g k v) {Q : Bool → Shared → Prop} (h : ∀ b, Q b s) : wpAny (model prog w) A (hashByValue 8 v) Q E s := by
  cases x with
  | sc h1 _ => rw [hashByValue_scannable 8 (scIs_scannable h1)]; exact wpAny_pure (h _)
  | tup h1 =>
    have h1 := tupStays h1 st
    have hT := h1.typeIs
    obtain ⟨o, items, n, ho, _, hd, hi⟩ := h1
    unfold hashByValue
    refine wpAny_bind (wpAny_specialOf hT F.slot_tuple_hash.lookup ?_)
    dsimp only
    refine wpAny_bind (wpAny_seqItems ho hd ?_)
    refine wpAny_bind ?_
    show wpAny _ _ (forIn items _ _) _ _ s
    rw [← Array.forIn_toList]
    have hal : ∀ (ks : List Sc) (vs : List Value), ItemsAre (scKind prog w) ks vs → ∀ v ∈ vs, ∃ c, scIs c v = true := by
      intro ks vs hi
      induction hi with
      | nil => intro v hv; cases hv
      | cons h1 _ ih =>
        intro v hv
        refine mem_elim hv ?_ fun hv => ?_
        · exact ⟨_, h1⟩
        · exact ih v hv
    refine wpAny_forIn_list _ (fun rest r s' => r.1 = none ∧ s' = s ∧ ∀ v ∈ rest, ∃ c, scIs c v = true) _ ?_ ?_ _ _ ⟨rfl, rfl, hal _ _ hi⟩
    · rintro u rest r s' ⟨hr, rfl, hall⟩
      obtain ⟨c, hc⟩ := hall u List.mem_cons_self
      rw [hashByValue_scannable _ (scIs_scannable hc)]
      refine wpAny_bind (wpAny_pure ?_)
      split
      · exact wpAny_pure (wpAny_pure (h _))
      · exact wpAny_pure ⟨rfl, rfl, fun u hu' => hall u (List.mem_cons_of_mem _ hu')⟩
    · rintro ⟨r1, r2⟩ s' ⟨hr, rfl, _⟩
      simp only at hr
      subst hr
      exact wpAny_pure (h _)

/-- what a set holds: for each key whether it is there; its table is in order -/
structure SetIs (prog : Program) (w : World) (g : Heap) (es : Array (Int × Value)) (t : SetTable) (S : NK → Bool) (n : Nat) : Prop where
  tab : TabOk t es.toList
  keys : ∀ e ∈ es.toList, ∃ k, KeyIs prog w g k e.2 ∧ e.1 = kHash prog w k
  mem : ∀ k, S k = true ↔ ∃ e ∈ es.toList, KeyIs prog w g k e.2
  size : es.size = n
noncomputable def setObj (es : Array (Int × Value)) (ep : Nat) (t : SetTable) : Obj := { cls := .type "set", data := .set es ep t }
section
variable {es : Array (Int × Value)} {ep : Nat} {t : SetTable} {S : NK → Bool} {n : Nat} {a : Addr}
theorem SetIs.of_eq (I : SetIs prog w g es t S n) {e : Int × Value} (he : e ∈ es.toList) (x : KeyIs prog w g k e.2) : e.1 = kHash prog w k := by
  obtain ⟨k', h1, h2⟩ := I.keys e he
  rw [x.inj h1]; exact h2
theorem seen_false (hu : A.units < cLine) (st : g.StaysIn s.heap) (x : KeyIs prog w g k v) (ys : List Value) (hy : ∀ y ∈ ys, ∃ k', KeyIs prog w g k' y) {Q : Bool → Shared → Prop} (h : Q false s) :
    wpAny (model prog w) A (searchCouldBeSeen v ys) Q E s := by
  unfold searchCouldBeSeen
  refine wpAny_bind ?_
  refine wpAny_forIn_list _ (fun rest r s' => r.1 = none ∧ s' = s ∧ ∀ y ∈ rest, ∃ k', KeyIs prog w g k' y) _ ?_ ?_ _ _ ⟨rfl, rfl, hy⟩
  · rintro y rest r s' ⟨hr, rfl, hall⟩
    obtain ⟨k', hk'⟩ := hall y List.mem_cons_self
    have next : ∀ s'', s'' = s' → (none : Option Bool) = none ∧ s'' = s' ∧ ∀ y ∈ rest, ∃ k', KeyIs prog w g k' y := fun s'' e => ⟨rfl, e, fun z hz => hall z (.tail _ hz)⟩
    dsimp only
    split <;> split
    all_goals first
      | (refine wpAny_pure ?_; exact next _ rfl)
      | (refine wpAny_bind (key_quiet st x ?_)
         rw [if_neg (by decide)]
         refine wpAny_bind (key_quiet st hk' ?_)
         rw [if_neg (by decide)]
         refine wpAny_bind (key_ofClass st x ?_)
         rw [if_neg (by decide)]
         refine wpAny_bind (key_ofClass st hk' ?_)
         rw [if_neg (by decide)]
         refine wpAny_pure ?_
         exact next _ rfl)
  · rintro ⟨r1, r2⟩ s' ⟨hr, rfl, _⟩
    simp only at hr
    subst hr
    exact wpAny_pure h
theorem SetIs.elems (I : SetIs prog w g es t S n) (hs : es.all (·.2.scannable) = true) : ElemsOf (scKind prog w) es.toList := by
  intro e he
  have hsc : e.2.scannable = true := by
    rw [← Array.all_toList] at hs
    exact List.all_eq_true.mp hs e he
  refine ⟨?_, hsc⟩
  obtain ⟨k, h1, h2⟩ := I.keys e he
  generalize e.2 = u at h1 hsc
  cases h1 with
  | sc h _ => exact ⟨_, h, h2⟩
  | tup _ => cases hsc
theorem sc_of_scannable (x : KeyIs prog w g k v) (hs : v.scannable = true) : ∃ c, k = .sc c ∧ scIs c v = true := by
  cases x with
  | sc h _ => exact ⟨_, rfl, h⟩
  | tup _ => cases hs
theorem filter_hash {h : Int} {y : Value} (hy : y ∈ (es.filter (·.1 == h)).toList.map (·.2)) : ∃ e ∈ es.toList, e.2 = y := by
  obtain ⟨e, he, rfl⟩ := List.mem_map.mp hy
  rw [Array.toList_filter] at he
  exact ⟨e, (List.mem_filter.mp he).1, rfl⟩

open Classical in
theorem find_set (hu : A.units < cLine) (st : g.StaysIn s.heap) (x : KeyIs prog w g k v) (ho : s.heap.get? a = some (setObj es ep t)) (I : SetIs prog w g es t S n) {Q : Option Nat → Shared → Prop}
    (h : ∀ r : Option Nat, r.isSome = S k → Q r s) : wpAny (model prog w) A (setFind a v (kHash prog w k)) Q E s := by
  have hf : t.fits es.size = true := by rw [← Array.length_toList]; exact I.tab.fits
  unfold setFind setFindIn
  refine wpAny_bind (wpAny_setState_of ho rfl hf ?_)
  dsimp only
  cases hb : byScan v es with
  | true =>
    simp only [↓reduceIte]
    unfold byScan at hb
    simp only [Bool.and_eq_true, decide_eq_true_eq] at hb
    obtain ⟨c, rfl, hc⟩ := sc_of_scannable x hb.1.1
    have hel := I.elems hb.2
    refine wpAny_bind (wpAny_rule ?_)
    refine wpAny_bind (wpAny_setScan_of (knd := scKind prog w) hc ho rfl hf hel ?_)
    have hk : S (.sc c) = true ↔ ∃ e ∈ es.toList, (scKind prog w).is c e.2 = true := by
      rw [I.mem]
      constructor
      · rintro ⟨e, he, hx⟩
        generalize hz : e.2 = u at hx
        cases hx with
        | sc h1 _ => exact ⟨e, he, hz ▸ h1⟩
      · rintro ⟨e, he, hx⟩
        obtain ⟨k', h1, h2⟩ := I.keys e he
        have : k' = .sc c := by
          generalize e.2 = u at h1 hx
          cases h1 with
          | sc h3 _ => rw [(scKind prog w).inj _ _ _ hx h3]
          | tup _ => rw [show (scKind prog w).is c (Value.ref _) = scIs c (.ref _) from rfl, scIs_ref] at hx; cases hx
        exact ⟨e, he, this ▸ h1⟩
    cases hr : List.findIdx? (fun e => (scKind prog w).is c e.2) es.toList with
    | none =>
      dsimp only
      refine wpAny_pure (h none ?_)
      rw [Option.isSome_none, eq_comm, ← Bool.not_eq_true, hk]
      rintro ⟨e, he, hpe⟩
      have := List.findIdx?_eq_none_iff.mp hr e he
      rw [hpe] at this; exact Bool.noConfusion this
    | some j =>
      dsimp only
      refine wpAny_pure (h (some (0 + j)) ?_)
      rw [Option.isSome_some, eq_comm, hk]
      obtain ⟨hj, hpj, _⟩ := List.findIdx?_eq_some_iff_getElem.mp hr
      exact ⟨es.toList[j], List.getElem_mem hj, hpj⟩
  | false =>
    simp only [Bool.false_eq_true, ↓reduceIte]
    obtain ⟨N, hN1, hN2, hN3⟩ := I.tab.empty (kHash prog w k)
    unfold setSearch
    refine wpAny_bind ?_
    refine search_from (same := fun y => decide (KeyIs prog w g k y)) ho rfl I.tab ?_ ?_ ?_ hN2 hN3 hN1 ?_ ?_ N 0 100000 none rfl (by omega) ?_ (fun q hq => absurd hq (Nat.not_lt_zero _))
    · intro y hy R hR
      obtain ⟨k', h1, h2⟩ := I.keys _ hy
      refine key_eq hu st h1 x ?_
      have : decide (k' = k) = decide (KeyIs prog w g k y) := by
        by_cases e : k' = k
        · rw [decide_eq_true e, decide_eq_true (e ▸ h1)]
        · rw [decide_eq_false e, decide_eq_false fun z => e (h1.inj z)]
      rw [this]; exact hR
    · intro y hy R hR
      obtain ⟨k', h1, h2⟩ := I.keys _ hy
      exact key_same h1 hR
    · intro _ R hR
      refine seen_false hu st x _ (fun y hy => ?_) hR
      obtain ⟨e, he, rfl⟩ := filter_hash hy
      obtain ⟨k', h1, _⟩ := I.keys e he
      exact ⟨k', h1⟩
    · intro y hy hs r hr
      refine wpAny_pure (h r ?_)
      rw [hr rfl]
      exact ((I.mem k).mpr ⟨_, hy, of_decide_eq_true hs⟩).symm
    · intro hno
      refine wpAny_pure (h none ?_)
      cases hS : S k with
      | false => rfl
      | true =>
        obtain ⟨e, he, hx⟩ := (I.mem k).mp hS
        have := hno e.2 (by rw [← I.of_eq he hx]; exact he)
        rw [decide_eq_true hx] at this
        cases this
    · have : turns t.mask ≤ 142 := by unfold turns; rcases I.tab.mask with h | h | h <;> rw [h] <;> decide
      omega
end
end
end Mine
end
section
set_option Elab.async false
set_option maxRecDepth 100000
open PySem PySem.SeqAt
namespace Mine
open SetTable

structure KeysOk (prog : Program) (w : World) (g : Heap) (l : List (Int × Value)) (S : NK → Bool) : Prop where
  keys : ∀ e ∈ l, ∃ k, KeyIs prog w g k e.2 ∧ e.1 = kHash prog w k
  mem : ∀ k, S k = true ↔ ∃ e ∈ l, KeyIs prog w g k e.2
section
variable {prog : Program} {w : World} {A : Around} {E : Value → Shared → Prop} {s : Shared} {g : Heap} {k : NK} {v : Value} {es : Array (Int × Value)} {ep : Nat} {t : SetTable} {S : NK → Bool} {n : Nat} {a : Addr}
theorem KeysOk.perm {l l' : List (Int × Value)} (K : KeysOk prog w g l S) (p : List.Perm l' l) : KeysOk prog w g l' S :=
  ⟨fun e he => K.keys e (p.mem_iff.mp he), fun k => (K.mem k).trans ⟨fun ⟨e, he, h⟩ => ⟨e, p.mem_iff.mpr he, h⟩, fun ⟨e, he, h⟩ => ⟨e, p.mem_iff.mp he, h⟩⟩⟩
theorem SetIs.ok (I : SetIs prog w g es t S n) : KeysOk prog w g es.toList S := ⟨I.keys, I.mem⟩
theorem KeysOk.ins {p : Nat} (K : KeysOk prog w g es.toList S) (x : KeyIs prog w g k v) : KeysOk prog w g (insertAt es p (kHash prog w k, v)).toList (fun k' => S k' || decide (k' = k)) := by
  rw [SetTable.toList_insertAt]
  refine ⟨fun e he => ?_, fun k' => ?_⟩
  · rcases (mem_ins ..).mp he with rfl | he
    · exact ⟨k, x, rfl⟩
    · exact K.keys e he
  · rw [Bool.or_eq_true, K.mem k', decide_eq_true_eq]
    constructor
    · rintro (⟨e, he, hx⟩ | rfl)
      · exact ⟨e, (mem_ins ..).mpr (.inr he), hx⟩
      · exact ⟨_, (mem_ins ..).mpr (.inl rfl), x⟩
    · rintro ⟨e, he, hx⟩
      rcases (mem_ins ..).mp he with rfl | he
      · exact .inr (hx.inj x)
      · exact .inl ⟨e, he, hx⟩
theorem TabCore.plain {l : List (Int × Value)} (T : TabCore t l) (b : Bool) : TabCore { t with plain := b } l := ⟨T.mask, T.dum, T.rise, T.size, T.le, T.reach⟩
theorem size_insertAt {α : Type} (xs : Array α) (p : Nat) (x : α) : (insertAt xs p x).size = xs.size + 1 := by
  rw [← Array.length_toList, (SetTable.insertAt_perm xs p x).length_eq, Array.length_toList, Array.size_push]

theorem store_set {es' : Array (Int × Value)} {t' : SetTable} {Q : Unit → Shared → Prop} (ho : s.heap.get? a = some (setObj es ep t)) (hz : es'.size ≤ 100)
    (h : ∀ h' ep', h'.get? a = some (setObj es' ep' t') → Heap.SameBut a s.heap h' → Q () { s with heap := h' }) : wpAny (model prog w) A (storeSet a es' t') Q E s := by
  refine wpAny_storeSet_of ho rfl (h _ (ep + 1) ?_ (Heap.SameBut.update ..)) (by rw [sizeLine_eq]; omega)
  have := Heap.get?_update_self (Obj.putSet es' t') ho (by rw [putSet_of es' t' rfl]; rfl)
  rw [putSet_of es' t' rfl] at this
  exact this

/-- the tail of both roads: the grown table is laid anew where it is too full -/
theorem tail_set {es₁ : Array (Int × Value)} {t₁ : SetTable} {S' : NK → Bool} (K : KeysOk prog w g es₁.toList S') (T : TabCore t₁ es₁.toList) (hn : es₁.size ≤ 76) (hp : es₁.size * 5 < t₁.mask * 3 + 5) :
    (t₁.tooFull = false ∧ SetIs prog w g es₁ t₁ S' es₁.size) ∨
    (t₁.tooFull = true ∧ (∃ t' es', relayAll t₁ es₁ (grown es₁.size) = (es', t', false) ∧ SetIs prog w g es' t' S' es₁.size ∧ es'.size = es₁.size) ∧
      ∃ t' order, t₁.relaid (es₁.map (·.1)) (grown es₁.size) = some (t', order) ∧ SetIs prog w g (order.filterMap (es₁[·]?)) t' S' es₁.size ∧ (order.filterMap (es₁[·]?)).size = es₁.size) := by
  have hfill : t₁.fill = es₁.size := by rw [T.fill, Array.length_toList]
  by_cases c : es₁.size * 5 ≥ t₁.mask * 3
  · right
    obtain ⟨t', es', e1, e2, e3, e4⟩ := relayAll_ok T hn c hp
    obtain ⟨t'', order, f1, f2, f3, _, f5, _, _⟩ := relaid_ok T hn c hp
    refine ⟨by unfold tooFull; rw [hfill]; exact decide_eq_true c, ⟨t', es', e1, ?_, e3⟩, t'', order, f1, ?_, f3⟩
    · exact ⟨e2, (K.perm e4).keys, (K.perm e4).mem, e3⟩
    · exact ⟨f2, (K.perm f5).keys, (K.perm f5).mem, f3⟩
  · left
    exact ⟨by unfold tooFull; rw [hfill]; exact decide_eq_false c, ⟨T, by rw [Array.length_toList]; omega⟩, K.keys, K.mem, rfl⟩

theorem freeSlot_of (I : SetIs prog w g es t S n) (h : Int) : ∃ N, t.freeSlot h = some ((sq t.mask h N).j, false) ∧ (sq t.mask h N).j ∉ t.place.toList ∧ ∀ q, q < N → (sq t.mask h q).j ∈ t.place.toList := by
  obtain ⟨N, hN1, hN2, hN3⟩ := I.tab.empty h
  refine ⟨N, ?_, hN2, hN3⟩
  unfold freeSlot
  have : t.probe (fun _ => h + 1) h (t.probeStart h) = some (.empty (sq t.mask h N).j none) := by
    rw [probeStart_eq]
    exact go_empty (slot_empty I.tab.dum hN2) N 0 _ (by omega) hN1 fun q _ hq => by
      rcases slot_cases I.tab.rise I.tab.dum (sq t.mask h q).j with ⟨z, _⟩ | ⟨i, _, e⟩
      · exact absurd (hN3 q hq) z
      · exact ⟨i, e, by omega⟩
  rw [this]
  rfl

theorem add_tail {gw : Bool → Sem Unit} (hg : ∀ (s₁ : Shared) (Q' : Unit → Shared → Prop), Q' () s₁ → wpAny (model prog w) A (gw false) Q' E s₁) {es₁ : Array (Int × Value)} {t₁ : SetTable} {S' : NK → Bool}
    (ho : s.heap.get? a = some (setObj es ep t)) (K : KeysOk prog w g es₁.toList S') (T : TabCore t₁ es₁.toList) (hn : es₁.size ≤ 76) (hp : es₁.size * 5 < t₁.mask * 3 + 5) {R : Option Bool → Shared → Prop}
    (h : ∀ h' es' ep' t', h'.get? a = some (setObj es' ep' t') → Heap.SameBut a s.heap h' → SetIs prog w g es' t' S' es₁.size → R (some true) { s with heap := h' }) :
    wpAny (model prog w) A (do
        storeSet a es₁ t₁
        if (!false && t₁.tooFull) = true then do
            gw (relayAll t₁ es₁ (grown es₁.size)).2.2
            storeSet a (relayAll t₁ es₁ (grown es₁.size)).1 (relayAll t₁ es₁ (grown es₁.size)).2.1
            pure (some true)
          else pure (some true)) R E s := by
  refine wpAny_bind (store_set ho (by omega) fun h₁ ep₁ o₁ sb₁ => ?_)
  rcases tail_set K T hn hp with ⟨c, I⟩ | ⟨c, ⟨t', es', e, I, hs⟩, _⟩
  · rw [c]
    exact wpAny_pure (h _ _ _ _ o₁ sb₁ I)
  · rw [c, e]
    refine wpAny_bind (hg _ _ ?_)
    refine wpAny_bind (store_set o₁ (by dsimp only; omega) fun h₂ ep₂ o₂ sb₂ => ?_)
    exact wpAny_pure (h _ _ _ _ o₂ (sb₁.trans sb₂) I)
theorem add_tail_table {es₁ : Array (Int × Value)} {t₁ : SetTable} {S' : NK → Bool}
    (ho : s.heap.get? a = some (setObj es ep t)) (K : KeysOk prog w g es₁.toList S') (T : TabCore t₁ es₁.toList) (hn : es₁.size ≤ 76) (hp : es₁.size * 5 < t₁.mask * 3 + 5) {R : Bool → Shared → Prop}
    (h : ∀ h' es' ep' t', h'.get? a = some (setObj es' ep' t') → Heap.SameBut a s.heap h' → SetIs prog w g es' t' S' es₁.size → R true { s with heap := h' }) {m : Nat} (hm : m = es₁.size) :
    wpAny (model prog w) A (do
        storeSet a es₁ t₁
        if (!false && t₁.tooFull) = true then do
            setRelay a (grown m)
            pure true
          else pure true) R E s := by
  subst hm
  refine wpAny_bind (store_set ho (by omega) fun h₁ ep₁ o₁ sb₁ => ?_)
  rcases tail_set K T hn hp with ⟨c, I⟩ | ⟨c, _, ⟨t', order, e, I, hs⟩⟩
  · rw [c]
    exact wpAny_pure (h _ _ _ _ o₁ sb₁ I)
  · rw [c]
    refine wpAny_bind ?_
    unfold setRelay
    have hfit : t₁.fits es₁.size = true := by
      rw [← Array.length_toList]
      refine T.fits ?_
      rw [Array.length_toList]
      rcases T.mask with q | q | q <;> rw [q] at hp ⊢ <;> omega
    refine wpAny_bind (wpAny_setState_of o₁ rfl hfit ?_)
    dsimp only
    have hsl : ¬ (sizeAbove (grown es₁.size) > sizeLine) := by
      have : ∀ n : Nat, n ≤ 76 → sizeAbove (grown n) ≤ 512 := by decide +kernel
      have := this _ hn
      rw [sizeLine_eq]; omega
    rw [if_neg hsl, e]
    refine wpAny_bind (m := _) (Q := _) ?_
    show wpAny _ _ (if ((order.filterMap (es₁[·]?)).size != es₁.size) = true then _ else _) _ _ _
    rw [hs, if_neg (by simp)]
    refine wpAny_pure ?_
    dsimp only
    refine store_set o₁ (by omega) fun h₂ ep₂ o₂ sb₂ => ?_
    exact wpAny_pure (h _ _ _ _ o₂ (sb₁.trans sb₂) I)

open Classical in
theorem add_set (hu : A.units < cLine) (st : g.StaysIn s.heap) (x : KeyIs prog w g k v) (ho : s.heap.get? a = some (setObj es ep t)) (I : SetIs prog w g es t S n) (hS : S k = false) (hn : n ≤ 60) {Q : Bool → Shared → Prop}
    (h : ∀ h' es' ep' t', h'.get? a = some (setObj es' ep' t') → Heap.SameBut a s.heap h' → SetIs prog w g es' t' (fun k' => S k' || decide (k' = k)) (n + 1) → Q true { s with heap := h' }) :
    wpAny (model prog w) A (setAddHashed a v (kHash prog w k)) Q E s := by
  have hf : t.fits es.size = true := by rw [← Array.length_toList]; exact I.tab.fits
  have hsz := I.size
  have hroom := I.tab.room
  rw [Array.length_toList] at hroom
  have hk : ∀ e ∈ es.toList, ¬ KeyIs prog w g k e.2 := fun e he hx => by
    have := (I.mem k).mpr ⟨e, he, hx⟩
    rw [hS] at this; cases this
  unfold setAddHashed
  refine wpAny_holding ?_
  unfold setAddHashedIn
  refine wpAny_bind (wpAny_setState_of ho rfl hf ?_)
  dsimp only
  cases hb : byScan v es with
  | true =>
    simp only [↓reduceIte]
    unfold byScan at hb
    simp only [Bool.and_eq_true, decide_eq_true_eq] at hb
    obtain ⟨c, rfl, hc⟩ := sc_of_scannable x hb.1.1
    have hel := I.elems hb.2
    obtain ⟨N, e1, e2, e3⟩ := freeSlot_of I (kHash prog w (.sc c))
    refine wpAny_bind ?_
    unfold setAddByScan
    refine wpAny_bind (wpAny_rule ?_)
    refine wpAny_bind (wpAny_setScan_of (knd := scKind prog w) hc ho rfl hf hel ?_)
    have hno : List.findIdx? (fun e => (scKind prog w).is c e.2) es.toList = none := by
      refine List.findIdx?_eq_none_iff.mpr fun e he => ?_
      cases hz : (scKind prog w).is c e.2 with
      | false => rfl
      | true =>
        exfalso
        obtain ⟨k', h1, h2⟩ := I.keys e he
        have : k' = .sc c := by
          generalize e.2 = u at h1 hz
          cases h1 with
          | sc h3 _ => rw [(scKind prog w).inj _ _ _ hz h3]
          | tup _ => rw [show (scKind prog w).is c (Value.ref _) = scIs c (.ref _) from rfl, scIs_ref] at hz; cases hz
        exact hk e he (this ▸ h1)
    rw [hno]
    dsimp only
    have T₁ := put_core I.tab.toTabCore (x := v) e2 e3
    have hln : layNew t es (kHash prog w (.sc c)) v = (insertAt es (t.put (sq t.mask (kHash prog w (.sc c)) N).j).2 (kHash prog w (.sc c), v), (t.put (sq t.mask (kHash prog w (.sc c)) N).j).1, false, false) := by
      have hfit : (t.put (sq t.mask (kHash prog w (.sc c)) N).j).1.fits (insertAt es (t.put (sq t.mask (kHash prog w (.sc c)) N).j).2 (kHash prog w (.sc c), v)).size = true := by
        rw [← Array.length_toList]
        refine T₁.fits ?_
        rw [Array.length_toList, size_insertAt]
        show es.size + 1 ≤ t.mask
        rcases I.tab.mask with q | q | q <;> rw [q] at hroom ⊢ <;> omega
      unfold layNew
      rw [e1]
      dsimp only
      unfold SetTable.orStandIn
      rw [hfit]
      rfl
    rw [hln]
    dsimp only
    have K₁ := I.ok.ins (p := (t.put (sq t.mask (kHash prog w (.sc c)) N).j).2) x
    have hs₁ : (insertAt es (t.put (sq t.mask (kHash prog w (.sc c)) N).j).2 (kHash prog w (.sc c), v)).size = n + 1 := by rw [size_insertAt, hsz]
    have hm₁ : (t.put (sq t.mask (kHash prog w (.sc c)) N).j).1.mask = t.mask := rfl
    generalize insertAt es (t.put (sq t.mask (kHash prog w (.sc c)) N).j).2 (kHash prog w (.sc c), v) = es₁ at K₁ T₁ hs₁ ⊢
    generalize (t.put (sq t.mask (kHash prog w (.sc c)) N).j).1 = tp at T₁ hm₁ ⊢
    refine wpAny_bind (wpAny_pure (a := ()) ?_)
    have fin := fun (b : Bool) (gw : Bool → Sem Unit) hg => add_tail (A := A) (E := E) (gw := gw) hg ho K₁ (t₁ := if b = true then tp else { tp with plain := false }) (by cases b <;> first | exact T₁ | exact T₁.plain false) (by omega) (by cases b <;> (rw [hs₁]; show _ < tp.mask * 3 + 5; rw [hm₁]; omega))
      (R := fun r s' => wpAny (model prog w) A (match r with | some added => pure added | none => setAddHashedIn a v (kHash prog w (.sc c)) 99999) Q E s') (fun h' es' ep' t' q1 q2 q3 => wpAny_pure (h h' es' ep' t' q1 q2 (by rw [hs₁] at q3; exact q3)))
    split
    · refine wpAny_bind (key_byValue hu st x fun b => ?_)
      exact fin b _ (fun s₁ Q' h => wpAny_pure h)
    · refine wpAny_bind (wpAny_pure ?_)
      exact fin true _ (fun s₁ Q' h => wpAny_pure h)
  | false =>
    simp only [Bool.false_eq_true, ↓reduceIte]
    obtain ⟨N, hN1, hN2, hN3⟩ := I.tab.empty (kHash prog w k)
    unfold setSearch
    refine wpAny_bind ?_
    refine search_from (same := fun y => decide (KeyIs prog w g k y)) ho rfl I.tab ?_ ?_ ?_ hN2 hN3 hN1 ?_ ?_ N 0 100000 none rfl (by omega) ?_ (fun q hq => absurd hq (Nat.not_lt_zero _))
    · intro y hy R hR
      obtain ⟨k', h1, h2⟩ := I.keys _ hy
      refine key_eq hu st h1 x ?_
      have : decide (k' = k) = decide (KeyIs prog w g k y) := by
        by_cases e : k' = k
        · rw [decide_eq_true e, decide_eq_true (e ▸ h1)]
        · rw [decide_eq_false e, decide_eq_false fun z => e (h1.inj z)]
      rw [this]; exact hR
    · intro y hy R hR
      obtain ⟨k', h1, h2⟩ := I.keys _ hy
      exact key_same h1 hR
    · intro _ R hR
      refine seen_false hu st x _ (fun y hy => ?_) hR
      obtain ⟨e, he, rfl⟩ := filter_hash hy
      obtain ⟨k', h1, _⟩ := I.keys e he
      exact ⟨k', h1⟩
    · intro y hy hs r hr
      exact absurd (of_decide_eq_true hs) (hk _ hy)
    · intro _
      dsimp only
      refine wpAny_bind (wpAny_setState_of ho rfl hf ?_)
      dsimp only
      have T₁ := put_core I.tab.toTabCore (x := v) hN2 hN3
      have K₁ := I.ok.ins (p := (t.put (sq t.mask (kHash prog w k) N).j).2) x
      have hs₁ : (insertAt es (t.put (sq t.mask (kHash prog w k) N).j).2 (kHash prog w k, v)).size = n + 1 := by rw [size_insertAt, hsz]
      have hm₁ : (t.put (sq t.mask (kHash prog w k) N).j).1.mask = t.mask := rfl
      generalize insertAt es (t.put (sq t.mask (kHash prog w k) N).j).2 (kHash prog w k, v) = es₁ at K₁ T₁ hs₁ ⊢
      generalize (t.put (sq t.mask (kHash prog w k) N).j).1 = tp at T₁ hm₁ ⊢
      have fin := fun b : Bool => add_tail_table (A := A) (E := E) ho K₁ (t₁ := if b = true then tp else { tp with plain := false }) (by cases b <;> first | exact T₁ | exact T₁.plain false) (by omega) (by cases b <;> (rw [hs₁]; show _ < tp.mask * 3 + 5; rw [hm₁]; omega))
        (R := Q) (fun h' es' ep' t' q1 q2 q3 => h h' es' ep' t' q1 q2 (by rw [hs₁] at q3; exact q3)) (m := es.size + 1) (by omega)
      split
      · refine wpAny_bind (key_byValue hu st x fun b => ?_)
        exact fin b
      · refine wpAny_bind (wpAny_pure ?_)
        exact fin true
    · have : turns t.mask ≤ 142 := by unfold turns; rcases I.tab.mask with h | h | h <;> rw [h] <;> decide
      omega
end
end Mine
end
section
set_option Elab.async false
local macro_rules | `(tactic| walk_at "idle") => `(tactic| skip)
theorem Mine.off_SetCalls : True ∧ True := by
  w_top off
  first | walk1 | skip
  all_goals (first | trivial | exact ⟨trivial, trivial⟩)
end
section
open PySem PySem.W PyProof.Rows PySem.Calls
set_option Elab.async false
set_option maxRecDepth 100000
set_option maxHeartbeats 4000000
namespace Mine
noncomputable abbrev boundObj (id : String) (a : Addr) : Obj := ⟨.type "builtin_function_or_method", none, .fields #[.builtin id, .ref a], #[]⟩
set_option hygiene false in
local macro_rules | `(tactic| x_close) => `(tactic| (refine hq _ _ (fun x o e => D.keep x o e (by rw [show away [] x = true from rfl, Bool.or_true])) (D.nw _ (.head _)).2 (D.nw _ (.head _)).1))
section
variable {prog : Program} {w : World} {A : Around} {E : Value → Shared → Prop} {Q : Value → Shared → Prop} {h : Heap} {g : Array GenState} {d : Drawn} {t : Nat} {os : OsState} {a : Addr} {es : Array (Int × Value)} {ep : Nat} {tb : SetTable} {tk : Tok}
open X in
theorem ga_set_add (ho : h.get? a = some (setObj es ep tb)) (hq : ∀ b h', (∀ x o, h.get? x = some o → h'.get? x = some o) → h.get? b = none → h'.get? b = some (boundObj "set.add" a) → Q (.ref b) ⟨h', g, d, t, os⟩) :
  wpAny (model prog w) A (call (.builtin "set.__getattribute__") [.ref a, .str (Str.ofString "add") tk]) Q E ⟨h, g, d, t, os⟩ := by
  unfold setObj at ho
  x_run
open X in
theorem ga_set_contains (ho : h.get? a = some (setObj es ep tb)) (hq : ∀ b h', (∀ x o, h.get? x = some o → h'.get? x = some o) → h.get? b = none → h'.get? b = some (boundObj "set.__contains__" a) → Q (.ref b) ⟨h', g, d, t, os⟩) :
  wpAny (model prog w) A (call (.builtin "set.__getattribute__") [.ref a, .str (Str.ofString "__contains__") tk]) Q E ⟨h, g, d, t, os⟩ := by
  unfold setObj at ho
  x_run
theorem attr_set_add (ho : h.get? a = some (setObj es ep tb)) (hq : ∀ b h', (∀ x o, h.get? x = some o → h'.get? x = some o) → h.get? b = none → h'.get? b = some (boundObj "set.add" a) → Q (.ref b) ⟨h', g, d, t + 1, os⟩) :
  wpAny (model prog w) A (getAttr (.ref a) "add" true) Q E ⟨h, g, d, t, os⟩ := by
  have hT : ∀ t, (⟨h, g, d, t, os⟩ : Shared).TypeIs (.ref a) "set" := fun _ => ⟨_, ho, rfl⟩
  unfold getAttr getAttrBy
  refine wpAny_bind (wpAny_mkText ?_)
  refine wpAny_holding ?_
  refine wpAny_bind (wpAny_typeOf (hT _) ?_)
  rw [F.slot_set_getattribute.lookup]
  refine wpAny_bind (wpAny_pure ?_)
  dsimp only
  rw [if_neg (by decide)]
  unfold getAttrByItsOwn
  refine wpAny_bind (show wpAny _ _ (pure none) _ _ _ from wpAny_pure ?_)
  refine wpAny_bind (wpAny_attempt ?_)
  refine wpAny_holding ?_
  unfold callGetattribute
  rw [if_neg (by decide)]
  unfold boundAndCalled
  rw [F.slot_set_getattribute.bind]
  refine wpAny_bind (wpAny_pure ?_)
  refine ga_set_add ho fun b h' k1 k2 k3 => ?_
  dsimp only
  rw [handedOut_of rfl]
  exact wpAny_pure (hq _ _ k1 k2 k3)
theorem attr_set_contains (ho : h.get? a = some (setObj es ep tb)) (hq : ∀ b h', (∀ x o, h.get? x = some o → h'.get? x = some o) → h.get? b = none → h'.get? b = some (boundObj "set.__contains__" a) → Q (.ref b) ⟨h', g, d, t + 1, os⟩) :
  wpAny (model prog w) A (getAttr (.ref a) "__contains__" true) Q E ⟨h, g, d, t, os⟩ := by
  have hT : ∀ t, (⟨h, g, d, t, os⟩ : Shared).TypeIs (.ref a) "set" := fun _ => ⟨_, ho, rfl⟩
  unfold getAttr getAttrBy
  refine wpAny_bind (wpAny_mkText ?_)
  refine wpAny_holding ?_
  refine wpAny_bind (wpAny_typeOf (hT _) ?_)
  rw [F.slot_set_getattribute.lookup]
  refine wpAny_bind (wpAny_pure ?_)
  dsimp only
  rw [if_neg (by decide)]
  unfold getAttrByItsOwn
  refine wpAny_bind (show wpAny _ _ (pure none) _ _ _ from wpAny_pure ?_)
  refine wpAny_bind (wpAny_attempt ?_)
  refine wpAny_holding ?_
  unfold callGetattribute
  rw [if_neg (by decide)]
  unfold boundAndCalled
  rw [F.slot_set_getattribute.bind]
  refine wpAny_bind (wpAny_pure ?_)
  refine ga_set_contains ho fun b h' k1 k2 k3 => ?_
  dsimp only
  rw [handedOut_of rfl]
  exact wpAny_pure (hq _ _ k1 k2 k3)
theorem call_boundB {id : String} {b : Addr} {v : Value} {s : Shared} {R : Result → Shared → Prop} (hb : s.heap.get? b = some (boundObj id a))
   (hc : ∀ Q : Unit → Shared → Prop, Q () s → wpAny (model prog w) (A.under (.call (.ref b) ⟨[v], []⟩)) (checkBoundCall id ⟨[.ref a, v], []⟩) Q (fun e s' => R (.error e) s') s) (hp : (Code.builtin id ⟨[.ref a, v], []⟩).quiet = true)
   (hk : codeAny (model prog w) A (.builtin id ⟨[.ref a, v], []⟩) R s) : codeAny (model prog w) A (.call (.ref b) ⟨[v], []⟩) R s := by
  refine codeAny_of_tree ?_
  show wpAny _ _ (callAny (.ref b) _) _ _ _
  unfold callAny
  refine wpAny_bind (wpAny_load hb ?_)
  refine wpAny_bind (hc _ ?_)
  exact wpAny_pure ⟨hp, hk⟩
theorem set_no_module : isSubtype (.type "set") (.type "module") = pure false := by rw [isSubtype_type]; kernel_rfl
theorem set_no_type : isSubtype (.type "set") (.type "type") = pure false := by rw [isSubtype_type]; kernel_rfl
theorem chk_contains (a : Addr) (v : Value) : (∃ sig, Manifest.signature? "set.__contains__" = some sig ∧ Bind.checkArgs "set.__contains__" { sig with full := s!"{Bind.lastOf "set"}.{Bind.lastOf "set.__contains__"}" } ⟨[.ref a, v], []⟩ = pure ()) := ⟨_, rfl, by kernel_rfl⟩
theorem chk_add (a : Addr) (v : Value) : (∃ sig, Manifest.signature? "set.add" = some sig ∧ Bind.checkArgs "set.add" { sig with full := s!"{Bind.lastOf "set"}.{Bind.lastOf "set.add"}" } ⟨[.ref a, v], []⟩ = pure ()) := ⟨_, rfl, by kernel_rfl⟩
theorem check_bound {id : String} {v : Value} {s : Shared} {Q : Unit → Shared → Prop} (ho : s.heap.get? a = some (setObj es ep tb)) (hk : builtinKind id = some .method) (hv : Manifest.varargsMethods.contains id = false) 
   (hs : ∃ sig, Manifest.signature? id = some sig ∧ Bind.checkArgs id { sig with full := s!"{Bind.lastOf "set"}.{Bind.lastOf id}" } ⟨[.ref a, v], []⟩ = pure ()) (hQ : Q () s) : wpAny (model prog w) A (checkBoundCall id ⟨[.ref a, v], []⟩) Q E s := by
  have hT : s.TypeIs (.ref a) "set" := ⟨_, ho, rfl⟩
  obtain ⟨sig, h1, h2⟩ := hs
  unfold checkBoundCall
  rw [h1, hk]
  dsimp only
  rw [if_neg (by decide)]
  refine wpAny_bind (wpAny_isInstance hT set_no_module ?_)
  rw [hv, Bool.or_false, if_neg Bool.false_ne_true]
  refine wpAny_bind ?_
  unfold isType
  refine wpAny_bind (wpAny_bind (wpAny_loadPart ho (wpAny_pure ?_)))
  show wpAny _ _ (pure false) _ _ _
  refine wpAny_pure ?_
  rw [if_neg Bool.false_ne_true]
  refine wpAny_bind (wpAny_typeOf hT ?_)
  dsimp only
  rw [h2]
  exact wpAny_pure hQ
end
end Mine
end
section
open PySem PySem.W PyProof.Rows PySem.Calls
set_option Elab.async false
set_option maxRecDepth 100000
set_option maxHeartbeats 1000000
namespace Mine
section
variable {prog : Program} {w : World} {A : Around} {E : Value → Shared → Prop} {a : Addr} 
theorem list_no_hash : typeLookup (.type "list") "__hash__" = pure (some .none) := by rw [typeLookup_type, builtinLookup_eq_fast]; kernel_rfl
theorem list_hash_raises {l : Addr} {s : Shared} {Q : Int → Shared → Prop} (hu : A.units < cLine) (hh : A.handled = none) (hT : s.TypeIs (.ref l) "list")
   (k : ∀ h' tk e, Heap.NewExc s.heap h' e "TypeError" → E (.ref e) { s with heap := h', toks := tk }) : wpAny (model prog w) A (pyHash (.ref l)) Q E s := by
  show wpAny _ _ (pyHashByItsType (.ref l)) _ _ _
  unfold pyHashByItsType
  refine wpAny_bind (wpAny_cRoomFor hu ?_)
  refine wpAny_bind (wpAny_specialOf hT list_no_hash ?_)
  rw [if_pos (by decide)]
  refine wpAny_bind (wpAny_rule ?_)
  refine wpAny_bind (wpAny_typeNameOf' hT (by decide) ?_)
  refine wpAny_bind (wpAny_raiseTypeError hh k ?_)
  rw [show shownName "list" = "list" by unfold shownName; kernel_rfl]
  have : ((s!"unhashable type: '{"list"}'" : String) : Str).length ≤ 100 := by decide +kernel
  rw [sizeLine_eq]
  exact Nat.le_trans this (by decide)
end
section
variable {prog : Program} {w : World} {A : Around} {s : Shared} {g : Heap} {a : Addr} {es : Array (Int × Value)} {ep : Nat} {t : SetTable} {k : NK} {v : Value} {S : NK → Bool} {n : Nat}
theorem contains_body {E : Value → Shared → Prop} {Q : Fin → Shared → Prop} (hu : A.units < cLine) (st : g.StaysIn s.heap) (ho : s.heap.get? a = some (setObj es ep t)) (x : KeyIs prog w g k v) (I : SetIs prog w g es t S n)
   (h : ∀ m, Q (.done (.ret (.bool (S k)))) { s with toks := s.toks + m }) : wpAny (model prog w) A (Builtin.«frozenset.__contains__» ⟨[.ref a, v], []⟩) Q E s := by
  unfold Builtin.«frozenset.__contains__» Builtin.Frozenset.oneOther
  simp only [List.isEmpty_nil, bind_assoc]
  unfold Builtin.Frozenset.addrOf Builtin.Frozenset.withSetAsKey setContains
  refine wpAny_bind (wpAny_pure ?_)
  try dsimp only
  refine wpAny_bind (wpAny_pure ?_)
  try dsimp only
  refine wpAny_bind (wpAny_tryCatch ?_)
  refine wpAny_holding ?_
  refine wpAny_bind (key_hash hu st x fun m => ?_)
  refine wpAny_bind (find_set (s := { s with toks := s.toks + m }) hu st x ho I fun r hr => ?_)
  refine wpAny_pure ?_
  show wpAny _ _ (ret (Value.bool r.isSome)) _ _ _
  rw [hr]
  exact wpAny_pure (h m)
theorem contains_body_list {E : Value → Shared → Prop} {Q : Fin → Shared → Prop} {l : Addr} (hu : A.units < cLine) (hh : A.handled = none) (hT : s.TypeIs (.ref l) "list")
   (k : ∀ h' tk e, Heap.NewExc s.heap h' e "TypeError" → E (.ref e) { s with heap := h', toks := tk }) : wpAny (model prog w) A (Builtin.«frozenset.__contains__» ⟨[.ref a, .ref l], []⟩) Q E s := by
  unfold Builtin.«frozenset.__contains__» Builtin.Frozenset.oneOther
  simp only [List.isEmpty_nil, bind_assoc]
  unfold Builtin.Frozenset.addrOf Builtin.Frozenset.withSetAsKey setContains
  refine wpAny_bind (wpAny_pure ?_)
  try dsimp only
  refine wpAny_bind (wpAny_pure ?_)
  try dsimp only
  refine wpAny_bind (wpAny_tryCatch ?_)
  refine wpAny_holding ?_
  refine wpAny_bind (list_hash_raises hu hh hT fun h' tk e hx => ?_)
  refine wpAny_bind ?_
  refine wpAny_bind (wpAny_isInstance (T := "list") (b := false) (let ⟨o, h1, h2⟩ := hT; ⟨o, hx.keeps _ _ h1, h2⟩) (by rw [isSubtype_type]; kernel_rfl) ?_)
  show wpAny _ _ (pure false) _ _ _
  refine wpAny_pure ?_
  rw [if_pos (show (!false) = true from rfl)]
  exact wpAny_bind (wpAny_throw (k _ _ _ hx))
open Classical in
theorem add_body {E : Value → Shared → Prop} {Q : Fin → Shared → Prop} (hu : A.units < cLine) (st : g.StaysIn s.heap) (ho : s.heap.get? a = some (setObj es ep t)) (x : KeyIs prog w g k v) (I : SetIs prog w g es t S n) (hS : S k = false) (hn : n ≤ 60)
   (h : ∀ m h' es' ep' t', h'.get? a = some (setObj es' ep' t') → Heap.SameBut a s.heap h' → SetIs prog w g es' t' (fun k' => S k' || decide (k' = k)) (n + 1) → Q (.done (.ret .none)) { s with heap := h', toks := s.toks + m }) :
   wpAny (model prog w) A (Builtin.«set.add» ⟨[.ref a, v], []⟩) Q E s := by
  unfold Builtin.«set.add» Builtin.Frozenset.oneOther
  simp only [List.isEmpty_nil, bind_assoc]
  unfold Builtin.Frozenset.addrOf setAdd
  refine wpAny_bind (wpAny_pure ?_)
  try dsimp only
  refine wpAny_bind (wpAny_pure ?_)
  try dsimp only
  refine wpAny_bind ?_
  refine wpAny_holding ?_
  refine wpAny_bind (key_hash hu st x fun m => ?_)
  refine add_set (s := { s with toks := s.toks + m }) hu st x ho I hS hn fun h' es' ep' t' h1 h2 h3 => ?_
  exact wpAny_pure (h m h' es' ep' t' h1 h2 h3)

theorem codeAny_builtinP {id : String} {args : Args} {b : Builtin} {R : Result → Shared → Prop} (hq : plainId id = true) (hb : entryFor table id = some b)
    (h : wpAny (model prog w) A.in1 (b args) (fun fin s' => match fin with | .done f => R (.ok f) s' | .again c' => c'.quiet = true ∧ codeAny (model prog w) A c' R s') (fun e s' => R (.error e) s') s) :
    codeAny (model prog w) A (.builtin id args) R s := codeAny_builtin hb (by rw [Around.under_plainId hq args]; exact h)
theorem check_boundA {id : String} {v : Value} {s : Shared} {A : Around} {E : Value → Shared → Prop} (ho : s.heap.get? a = some (setObj es ep t)) (hk : builtinKind id = some .method) (hv : Manifest.varargsMethods.contains id = false)
   (hs : ∃ sig, Manifest.signature? id = some sig ∧ Bind.checkArgs id { sig with full := s!"{Bind.lastOf "set"}.{Bind.lastOf id}" } ⟨[.ref a, v], []⟩ = pure ()) : ∀ Q : Unit → Shared → Prop, Q () s → wpAny (model prog w) A (checkBoundCall id ⟨[.ref a, v], []⟩) Q E s :=
  fun Q q => check_bound ho hk hv hs q
theorem kind_contains : builtinKind "set.__contains__" = some .method := by kernel_rfl
theorem kind_add : builtinKind "set.add" = some .method := by kernel_rfl
theorem var_contains : Manifest.varargsMethods.contains "set.__contains__" = false := by kernel_rfl
theorem var_add : Manifest.varargsMethods.contains "set.add" = false := by kernel_rfl
end
end Mine
end
section
open PySem PySem.W PyProof.Rows PySem.Calls
set_option Elab.async false
set_option maxRecDepth 100000
set_option maxHeartbeats 100000
namespace Mine
section
variable {prog : Program} {w : World} {A : Around} {s : Shared} {g : Heap} {a : Addr} {es : Array (Int × Value)} {ep : Nat} {t : SetTable} {k : NK} {v : Value} {S : NK → Bool} {n : Nat}
/-- seen.__contains__ held in a name, and called -/
theorem call_contains {E : Value → Shared → Prop} {Q : Value → Shared → Prop} {b : Addr} (hu : A.in1.units < cLine) (st : g.StaysIn s.heap) (hb : s.heap.get? b = some (boundObj "set.__contains__" a)) (ho : s.heap.get? a = some (setObj es ep t))
   (x : KeyIs prog w g k v) (I : SetIs prog w g es t S n) (h : ∀ m, Q (.bool (S k)) { s with toks := s.toks + m }) : wpAny (model prog w) A (call (.ref b) [v]) Q E s := by
  refine wpAny_call ?_
  refine call_boundB (id := "set.__contains__") hb ?_ ?_ ?_
  · exact check_boundA (id := "set.__contains__") ho kind_contains var_contains (chk_contains a v)
  · exact plainId_quiet (id := "set.__contains__") F.slot_set_contains.plain _
  refine codeAny_builtinP (id := "set.__contains__") F.slot_set_contains.plain entry_set_contains ?_
  exact contains_body (A := A.in1) hu st ho x I fun m => h m
theorem call_contains_list {E : Value → Shared → Prop} {Q : Value → Shared → Prop} {b l : Addr} (hu : A.in1.units < cLine) (hh : A.handled = none) (hb : s.heap.get? b = some (boundObj "set.__contains__" a)) (ho : s.heap.get? a = some (setObj es ep t)) (hT : s.TypeIs (.ref l) "list")
   (k : ∀ h' tk e, Heap.NewExc s.heap h' e "TypeError" → E (.ref e) { s with heap := h', toks := tk }) : wpAny (model prog w) A (call (.ref b) [.ref l]) Q E s := by
  refine wpAny_call (call_boundB (id := "set.__contains__") hb (check_boundA (id := "set.__contains__") ho kind_contains var_contains (chk_contains a _)) (plainId_quiet (id := "set.__contains__") F.slot_set_contains.plain _) (codeAny_builtinP (id := "set.__contains__") F.slot_set_contains.plain entry_set_contains ?_))
  exact contains_body_list (A := A.in1) hu hh hT k
open Classical in
theorem call_add {E : Value → Shared → Prop} {Q : Value → Shared → Prop} {b : Addr} (hu : A.in1.units < cLine) (st : g.StaysIn s.heap) (hb : s.heap.get? b = some (boundObj "set.add" a)) (ho : s.heap.get? a = some (setObj es ep t)) (x : KeyIs prog w g k v) (I : SetIs prog w g es t S n) (hS : S k = false) (hn : n ≤ 60)
   (h : ∀ m h' es' ep' t', h'.get? a = some (setObj es' ep' t') → Heap.SameBut a s.heap h' → SetIs prog w g es' t' (fun k' => S k' || decide (k' = k)) (n + 1) → Q .none { s with heap := h', toks := s.toks + m }) :
   wpAny (model prog w) A (call (.ref b) [v]) Q E s := by
  refine wpAny_call (call_boundB (id := "set.add") hb (check_boundA (id := "set.add") ho kind_add var_add (chk_add a v)) (plainId_quiet (id := "set.add") F.slot_set_add.plain _) (codeAny_builtinP (id := "set.add") F.slot_set_add.plain F.entry_set_add ?_))
  exact add_body (A := A.in1) hu st ho x I hS hn h
/-- k not in seen -/
theorem not_in_set {E : Value → Shared → Prop} {Q : Value → Shared → Prop} (hu : A.in1.units < cLine) (st : g.StaysIn s.heap) (ho : s.heap.get? a = some (setObj es ep t)) (x : KeyIs prog w g k v) (I : SetIs prog w g es t S n)
   (h : ∀ m, Q (.bool (!S k)) { s with toks := s.toks + m }) : wpAny (model prog w) A (compareOp .NotIn v (.ref a)) Q E s := by
  have hT : s.TypeIs (.ref a) "set" := ⟨_, ho, rfl⟩
  show wpAny _ _ (do return .bool (!(← contains (.ref a) v))) Q E s
  refine wpAny_bind ?_
  unfold contains
  try with_reducible refine wpAny_holding ?_
  refine wpAny_bind (wpAny_specialOf hT F.slot_set_contains.lookup ?_)
  show wpAny _ _ (if (some (Value.builtin "set.__contains__") == some Value.none) = true then _ else _) _ E s
  rw [if_neg (by rw [beq_builtin_none]; exact Bool.false_ne_true)]
  refine wpAny_bind (wpAny_callSpecialUnlessNone?_slot (name := Str.ofString "__contains__") hT F.slot_set_contains
    (wpAny_call_entry F.slot_set_contains hT entry_set_contains ?_ (F.args_set_contains_2 _ _)))
  refine contains_body (A := A.in1) hu st ho x I fun m => ?_
  exact ⟨_, rfl, wpAny_truthy_bool (wpAny_pure (h m))⟩
theorem not_in_set_list {E : Value → Shared → Prop} {Q : Value → Shared → Prop} {l : Addr} (hu : A.in1.units < cLine) (hh : A.handled = none) (ho : s.heap.get? a = some (setObj es ep t)) (hl : s.TypeIs (.ref l) "list")
   (k : ∀ h' tk e, Heap.NewExc s.heap h' e "TypeError" → E (.ref e) { s with heap := h', toks := tk }) : wpAny (model prog w) A (compareOp .NotIn (.ref l) (.ref a)) Q E s := by
  have hT : s.TypeIs (.ref a) "set" := ⟨_, ho, rfl⟩
  show wpAny _ _ (do return .bool (!(← contains (.ref a) (.ref l)))) Q E s
  refine wpAny_bind ?_
  unfold contains
  try with_reducible refine wpAny_holding ?_
  refine wpAny_bind (wpAny_specialOf hT F.slot_set_contains.lookup ?_)
  show wpAny _ _ (if (some (Value.builtin "set.__contains__") == some Value.none) = true then _ else _) _ E s
  rw [if_neg (by rw [beq_builtin_none]; exact Bool.false_ne_true)]
  refine wpAny_bind (wpAny_callSpecialUnlessNone?_slot (name := Str.ofString "__contains__") hT F.slot_set_contains
    (wpAny_call_entry F.slot_set_contains hT entry_set_contains ?_ (F.args_set_contains_2 _ _)))
  exact contains_body_list (A := A.in1) hu hh hl k
end
end Mine
end
section
set_option Elab.async false
set_option maxRecDepth 100000
open PySem
namespace Mine

/-- two heaps that differ, of what the first held, in the slots of the frames named -/
noncomputable def Slid (fs : List Addr) (h h' : Heap) : Prop :=
  (∀ b o, h.get? b = some o → b ∉ fs → h'.get? b = some o) ∧ ∀ b o, h.get? b = some o → ∃ sl, h'.get? b = some { o with slots := sl }
theorem Slid.refl (fs : List Addr) (h : Heap) : Slid fs h h := ⟨fun _ _ e _ => e, fun _ o e => ⟨o.slots, e⟩⟩
theorem Slid.keep {fs : List Addr} {h h' h'' : Heap} (x : Slid fs h h') (k : ∀ b o, h'.get? b = some o → (∃ o', h.get? b = some o') → h''.get? b = some o) : Slid fs h h'' :=
  ⟨fun b o e n => k _ _ (x.1 b o e n) ⟨_, e⟩, fun b o e => let ⟨sl, e'⟩ := x.2 b o e; ⟨sl, k _ _ e' ⟨_, e⟩⟩⟩
theorem Slid.slots {fs : List Addr} {S : List Addr} {h h' h'' : Heap} (x : Slid fs h h') (k : Heap.SlotsOnly S h' h'') (hS : ∀ b ∈ S, b ∈ fs) : Slid fs h h'' :=
  ⟨fun b o e n => (k.2.1 b fun hb => n (hS b hb)).trans (x.1 b o e n), fun b o e => let ⟨_, e₁⟩ := x.2 b o e; let ⟨sl, e₂⟩ := k.2.2 b _ e₁; ⟨sl, e₂⟩⟩

/-- the frame of an activation is one of those named -/
noncomputable def FrOk (fs : List Addr) (env : Env) : Prop := env.scope.kind ≠ .module ∧ ∃ L, env.frame = some L ∧ L ∈ fs
/-- the frames named stand in the heap, and are no records -/
noncomputable def FrsIn (h : Heap) (fs : List Addr) : Prop := ∀ a ∈ fs, ∃ o, h.get? a = some o ∧ ∀ vs, o.data ≠ .fields vs
noncomputable def Tr (h : Heap) (e : Addr) (cls : String) (fl : Value) (h' : Heap) : Prop :=
  ∃ oe vs T oT ts, h'.get? e = some oe ∧ oe.cls = .type cls ∧ oe.data = .fields vs ∧ vs[1]? = some (.ref T) ∧ T ≠ e ∧ h.get? T = none ∧ h'.get? T = some oT ∧ oT.data = .fields ts ∧ ts[3]? = some fl
/-- an exception on its way: raised over h; fl says in whose flight it is -/
structure Thrown (h : Heap) (fs : List Addr) (e : Addr) (cls : String) (fl : Value) (h' : Heap) : Prop where
  slid : Slid fs h h'
  frs : FrsIn h fs
  new : h.get? e = none
  tr : Tr h e cls fl h'
/-- an exception just made -/
structure Made (h : Heap) (fs : List Addr) (e : Addr) (cls : String) (h' : Heap) : Prop where
  slid : Slid fs h h'
  frs : FrsIn h fs
  new : h.get? e = none
  tr : ∃ oe vs, h'.get? e = some oe ∧ oe.cls = .type cls ∧ oe.data = .fields vs ∧ vs[1]? = some .none
theorem Made.of_new {h h' : Heap} {fs : List Addr} {e : Addr} {cls : String} (x : Heap.NewExc h h' e cls) (f : FrsIn h fs) : Made h fs e cls h' :=
  ⟨⟨fun b o q _ => x.keeps b o q, fun b o q => ⟨o.slots, x.keeps b o q⟩⟩, f, x.new, let ⟨ob, _, h1, h2, h3⟩ := x.there; ⟨ob, _, h1, h2, h3, rfl⟩⟩
theorem Made.of_made {h h' : Heap} {fs : List Addr} {e : Addr} {cls : String} {args : List Value} (x : Heap.MadeExc h h' e cls args) (f : FrsIn h fs) : Made h fs e cls h' := by
  refine Made.of_new ?_ f
  obtain ⟨h1, h2, t, h3, h4, h5⟩ := x
  exact ⟨h1, h2, _, .ref t, h3, rfl, rfl⟩

section
variable {M : Model} {A : Around} {E : Value → Shared → Prop} {s : Shared} {h : Heap} {fs : List Addr} {e L : Addr} {cls : String} {fl : Value} {env : Env} {outer : List Env}
theorem FrsIn.off (f : FrsIn h fs) {b : Addr} (hb : h.get? b = none) : b ∉ fs := fun m => by
  obtain ⟨o, ho, _⟩ := f b m
  rw [hb] at ho; cases ho
theorem hide_fun {h' : Heap} (sl : Slid fs h h') (f : FrsIn h fs) : ∀ {l : List Env}, (∀ x ∈ l, FrOk fs x) → h'.FunFrames (W.hideAll h fs) l
  | [], _ => trivial
  | env :: rest, hl => by
    obtain ⟨hk, L, hf, hL⟩ := hl env (.head _)
    obtain ⟨o, ho, hd⟩ := f L hL
    obtain ⟨sl', ho'⟩ := sl.2 L o ho
    exact ⟨hk, ⟨L, _, hf, W.hideAll_none _ hL, ho', hd⟩, hide_fun sl f fun x hx => hl x (.tail _ hx)⟩
theorem frames_in {l : List Env} (hl : ∀ x ∈ l, FrOk fs x) : ∀ b ∈ l.filterMap (·.frame), b ∈ fs := fun b hb => by
  obtain ⟨env, he, hf⟩ := List.mem_filterMap.mp hb
  obtain ⟨_, L, hf', hL⟩ := hl env he
  rw [hf] at hf'; cases hf'; exact hL

/-- the frame's entry is laid upon the exception -/
theorem entry_on {oe : Obj} {vs : Array Value} {head : Value} {hadNext : Bool} {Q : Unit → Shared → Prop} (hfr : A.frames = some (env :: outer)) (hl : ∀ x ∈ env :: outer, FrOk fs x) (hf : env.frame = some L)
    (sl : Slid fs h s.heap) (f : FrsIn h fs) (hen : h.get? e = none) (he : s.heap.get? e = some oe) (hc : oe.cls = .type cls) (hd : oe.data = .fields vs) (hsz : 1 < vs.size)
    (k : ∀ h', Thrown h fs e cls (rawInt L) h' → Q () { s with heap := h' }) :
    wpAny M A (do setField (.ref e) 1 (← EntryCells.newEntry head (← frameOf env) .none (rawInt L) .none (← entryPlaceOf L hadNext))) Q E s := by
  have hene : e ∉ fs := f.off hen
  refine wpAny_bind (wpAny_frameOf_fun hfr (hide_fun sl f hl) hf fun h₁ hs₁ => ?_)
  refine wpAny_bind (wpAny_entryPlaceOf fun pl hpl => ?_)
  unfold EntryCells.newEntry newFields
  refine wpAny_bind (wpAny_newObj_type ?_ (hpl.sizeOk5 _ _ _ _ _))
  have sl₁ := sl.slots hs₁ (frames_in hl)
  have he₁ : h₁.get? e = some oe := (hs₁.2.1 e fun m => hene (frames_in hl _ m)).trans he
  have he₂ := Heap.get?_push_of_some (h := h₁) { cls := .type "traceback", dict := none, data := .fields ([head, .ref L, .none, rawInt L, .none] ++ (if pl.isEmpty then List.replicate 6 Value.none else pl)).toArray } he₁
  refine wpAny_setField he₂ hd hsz (k _ ?_)
  have hTe : h₁.objs.size ≠ e := Nat.ne_of_gt (Heap.lt_size he₁)
  have hd₃ := Obj.data_mapFields hd (·.setIfInBounds 1 (Value.ref h₁.objs.size))
  have he₃ := Heap.get?_update_self (Obj.mapFields (·.setIfInBounds 1 (Value.ref h₁.objs.size))) he₂ (Obj.isFreed_of_fields hd₃)
  have hT₃ := (Heap.get?_update_other (h₁.push { cls := .type "traceback", dict := none, data := .fields ([head, .ref L, .none, rawInt L, .none] ++ (if pl.isEmpty then List.replicate 6 Value.none else pl)).toArray })
    (Obj.mapFields (·.setIfInBounds 1 (Value.ref h₁.objs.size))) (Ne.symm hTe)).trans (Heap.get?_push_size h₁ rfl)
  have hnT : h.get? h₁.objs.size = none := by
    cases q : h.get? h₁.objs.size with
    | none => rfl
    | some o =>
      obtain ⟨_, q'⟩ := sl₁.2 _ _ q
      exact absurd (Heap.lt_size q') (Nat.lt_irrefl _)
  refine ⟨sl₁.keep fun b o hb ⟨o', hb'⟩ => ?_, f, hen, _, _, _, _, _, he₃, (Obj.cls_mapFields _ _).trans hc, hd₃, by simp [hsz], hTe, hnT, hT₃, rfl, by simp⟩
  have hbe : e ≠ b := fun q => by rw [← q, hen] at hb'; cases hb'
  rw [Heap.get?_update_other _ _ hbe]
  exact Heap.get?_push_of_some _ hb

theorem flight_on {fr : Option Addr} {Q : Unit → Shared → Prop} (T : Thrown h fs e cls fl s.heap) (k : ∀ h', Thrown h fs e cls (fr.elim .none fun x => rawInt x) h' → Q () { s with heap := h' }) : wpAny M A (setFlight (.ref e) fr) Q E s := by
  obtain ⟨sl, f, hen, oe, vs, T, oT, ts, he, hc, hd, h1, hTe, hnT, hT, hdT, h3⟩ := T
  unfold setFlight
  refine wpAny_bind (wpAny_field he hd h1 ?_)
  rw [if_pos (show (Value.ref T != Value.none) = true from by simp)]
  have hs3 := (Array.getElem?_eq_some_iff.mp h3).1
  refine wpAny_setField hT hdT hs3 (k _ ?_)
  have hd₃ := Obj.data_mapFields hdT (·.setIfInBounds 3 (fr.elim Value.none fun x => rawInt x))
  refine ⟨sl.keep fun b o hb ⟨o', hb'⟩ => ?_, f, hen, oe, vs, T, _, _, ?_, hc, hd, h1, hTe, hnT, Heap.get?_update_self _ hT (Obj.isFreed_of_fields hd₃), hd₃, by simp [hs3]⟩
  · rw [Heap.get?_update_other _ _ fun q => by rw [← q, hnT] at hb'; cases hb']; exact hb
  · rw [Heap.get?_update_other _ _ hTe]; exact he

theorem note_made {Q : Unit → Shared → Prop} (hfr : A.frames = some (env :: outer)) (hl : ∀ x ∈ env :: outer, FrOk fs x) (hf : env.frame = some L) (T : Made h fs e cls s.heap)
    (k : ∀ h', Thrown h fs e cls (rawInt L) h' → Q () { s with heap := h' }) : wpAny M A (noteFrame (.ref e) env) Q E s := by
  obtain ⟨sl, f, hen, oe, vs, he, hc, hd, h1⟩ := T
  unfold noteFrame
  simp only [hf]
  refine wpAny_bind (wpAny_field he hd h1 ?_)
  rw [if_neg (by decide)]
  exact entry_on hfr hl hf sl f hen he hc hd (Array.getElem?_eq_some_iff.mp h1).1 k
theorem note_on {Q : Unit → Shared → Prop} (hfr : A.frames = some (env :: outer)) (hl : ∀ x ∈ env :: outer, FrOk fs x) (hf : env.frame = some L) (T : Thrown h fs e cls fl s.heap)
    (k : ∀ h', Thrown h fs e cls (rawInt L) h' → Q () { s with heap := h' }) : wpAny M A (noteFrame (.ref e) env) Q E s := by
  have T₀ := T
  obtain ⟨sl, f, hen, oe, vs, T, oT, ts, he, hc, hd, h1, hTe, hnT, hT, hdT, h3⟩ := T
  unfold noteFrame
  simp only [hf]
  refine wpAny_bind (wpAny_field he hd h1 ?_)
  rw [if_pos (show (Value.ref T != Value.none) = true from by simp)]
  refine wpAny_bind (wpAny_field hT hdT h3 ?_)
  by_cases q : fl = rawInt L
  · rw [if_pos (by rw [q]; exact beq_self_eq_true _)]
    exact wpAny_pure (k _ (q ▸ T₀))
  · rw [if_neg (by rw [beq_iff_eq]; exact q)]
    have hs3 := (Array.getElem?_eq_some_iff.mp h3).1
    refine wpAny_bind (wpAny_setField hT hdT hs3 ?_)
    refine entry_on hfr hl hf (sl.keep fun b o hb ⟨o', hb'⟩ => ?_) f hen ?_ hc hd (Array.getElem?_eq_some_iff.mp h1).1 k
    · rw [Heap.get?_update_other _ _ fun q => by rw [← q, hnT] at hb'; cases hb']; exact hb
    · rw [Heap.get?_update_other _ _ hTe]; exact he
theorem leave_made {Q : Unit → Shared → Prop} (hfr : A.frames = some (env :: outer)) (hl : ∀ x ∈ env :: outer, FrOk fs x) (hf : env.frame = some L) (T : Made h fs e cls s.heap)
    (k : ∀ h', Thrown h fs e cls .none h' → Q () { s with heap := h' }) : wpAny M A (leaving env (.ref e)) Q E s :=
  wpAny_bind (note_made hfr hl hf T fun h' T' => flight_on (fr := none) (s := { s with heap := h' }) T' k)
theorem leave_on {Q : Unit → Shared → Prop} (hfr : A.frames = some (env :: outer)) (hl : ∀ x ∈ env :: outer, FrOk fs x) (hf : env.frame = some L) (T : Thrown h fs e cls fl s.heap)
    (k : ∀ h', Thrown h fs e cls .none h' → Q () { s with heap := h' }) : wpAny M A (leaving env (.ref e)) Q E s :=
  wpAny_bind (note_on hfr hl hf T fun h' T' => flight_on (fr := none) (s := { s with heap := h' }) T' k)
theorem Thrown.typeIs {s : Shared} (T : Thrown h fs e cls fl s.heap) : s.TypeIs (.ref e) cls := by
  obtain ⟨_, _, _, oe, _, _, _, _, he, hc, _⟩ := T
  exact ⟨oe, he, hc⟩
theorem Made.typeIs {s : Shared} (T : Made h fs e cls s.heap) : s.TypeIs (.ref e) cls := by
  obtain ⟨_, _, _, oe, _, he, hc, _⟩ := T
  exact ⟨oe, he, hc⟩
end
end Mine
end
section
set_option Elab.async false
set_option maxRecDepth 100000
open PySem PySem.W PyProof.Rows PySem.Calls
namespace Mine
noncomputable def itObj (l : Addr) (i : Nat) : Obj := ⟨.type "list_iterator", none, .fields #[.ref l, .int i 0], #[]⟩
noncomputable def itEnd (i : Nat) : Obj := ⟨.type "list_iterator", none, .fields #[.none, .int i 0], #[]⟩
section
variable {prog : Program} {w : World} {A : Around} {E : Value → Shared → Prop} {s : Shared} {it l : Addr} {i : Nat} {xs : Array Value} {x : Value}
theorem it_item {Q : Option Value → Shared → Prop} (ho : s.heap.get? it = some (itObj l i)) (hl : s.heap.IsList l xs) (hx : xs[i]? = some x)
    (k : ∀ h', h'.get? it = some (itObj l (i + 1)) → Heap.SameBut it s.heap h' → Q (some x) { s with heap := h' }) : wpAny (model prog w) A (callSpecial? (.ref it) (Str.ofString "__next__")) Q E s := by
  have hT : s.TypeIs (.ref it) "list_iterator" := ⟨_, ho, rfl⟩
  obtain ⟨ol, hol, _, nl, hdl⟩ := hl
  refine wpAny_callSpecial?_slot (name := Str.ofString "__next__") hT slot_listiter_next (wpAny_call_entry slot_listiter_next hT entry_listiter_next ?_ (args_listiter_next _))
  show wpAny _ _ (field (.ref it) 0 >>= _) _ _ s
  refine wpAny_bind (wpAny_field ho rfl (x := .ref l) rfl ?_)
  show wpAny _ _ (if (Value.ref l == Value.none) = true then _ else _) _ _ s
  rw [if_neg (show ¬ ((Value.ref l == Value.none) = true) from Bool.false_ne_true)]
  show wpAny _ _ (field (.ref it) 1 >>= _) _ _ s
  refine wpAny_bind (wpAny_field ho rfl (x := .int i 0) rfl ?_)
  show wpAny _ _ (seqItems? (.ref l) >>= _) _ _ s
  refine wpAny_bind (wpAny_seqItems hol hdl ?_)
  simp only [Int.toNat_natCast, hx]
  refine wpAny_bind (wpAny_setField ho rfl (by simp) (wpAny_pure ⟨x, rfl, k _ ?_ (Heap.SameBut.update ..)⟩))
  rw [Heap.get?_update_self _ ho rfl]
  rfl
theorem stop_new {α : Type} {Q : α → Shared → Prop} (hh : A.handled = none) (k : ∀ h' e, Heap.NewExc s.heap h' e "StopIteration" → E (.ref e) { s with heap := h' }) :
    wpAny (model prog w) A (newExc (.type "StopIteration") [] >>= fun e => (raiseNew e : Sem α)) Q E s := by
  refine wpAny_bind ?_
  simp only [newExc, newTuple]
  refine wpAny_bind (wpAny_newObj_type ?_ (by size_fits))
  refine wpAny_bind (m := firstArgMember _ _) (wpAny_of_eq (a := Value.none) (by first | rfl | (simp only [firstArgMember]; rfl)) ?_)
  refine wpAny_newObj_type ?_ (by size_fits)
  simp only [raiseNew]
  refine wpAny_bind (wpAny_handled ?_)
  rw [hh]
  refine wpAny_bind (wpAny_pure (wpAny_throw (k _ _ ⟨fun b o hb => Heap.get?_push_of_some _ (Heap.get?_push_of_some _ hb), Heap.get?_none_of_le (by simp), _, .ref s.heap.objs.size, Heap.get?_push_size _ rfl, rfl, ?_⟩)))
  rfl
theorem it_stop {o : Obj} {Q : Option Value → Shared → Prop} (hh : A.handled = none) (ho : s.heap.get? it = some o) (hs : o = itEnd i ∨ (o = itObj l i ∧ s.heap.IsList l xs ∧ xs[i]? = none))
    (k : ∀ h₁ h' e, h₁.get? it = some (itEnd i) → Heap.SameBut it s.heap h₁ → Heap.NewExc h₁ h' e "StopIteration" → E (.ref e) { s with heap := h' }) : wpAny (model prog w) A (callSpecial? (.ref it) (Str.ofString "__next__")) Q E s := by
  have hT : s.TypeIs (.ref it) "list_iterator" := ⟨_, ho, by rcases hs with rfl | ⟨rfl, _⟩ <;> rfl⟩
  refine wpAny_callSpecial?_slot (name := Str.ofString "__next__") hT slot_listiter_next (wpAny_call_entry slot_listiter_next hT entry_listiter_next ?_ (args_listiter_next _))
  rcases hs with rfl | ⟨rfl, hl, hx⟩
  · show wpAny _ _ (field (.ref it) 0 >>= _) _ _ s
    refine wpAny_bind (wpAny_field ho rfl (x := .none) rfl ?_)
    show wpAny _ _ (if (Value.none == Value.none) = true then _ else _) _ _ s
    rw [if_pos (by decide)]
    refine wpAny_bind (wpAny_rule ?_)
    refine wpAny_bind (stop_new (A := A.in1) hh fun h' e hx => k _ _ _ ho (Heap.SameBut.refl ..) hx)
  · obtain ⟨ol, hol, _, nl, hdl⟩ := hl
    show wpAny _ _ (field (.ref it) 0 >>= _) _ _ s
    refine wpAny_bind (wpAny_field ho rfl (x := .ref l) rfl ?_)
    show wpAny _ _ (if (Value.ref l == Value.none) = true then _ else _) _ _ s
    rw [if_neg (show ¬ ((Value.ref l == Value.none) = true) from Bool.false_ne_true)]
    show wpAny _ _ (field (.ref it) 1 >>= _) _ _ s
    refine wpAny_bind (wpAny_field ho rfl (x := .int i 0) rfl ?_)
    show wpAny _ _ (seqItems? (.ref l) >>= _) _ _ s
    refine wpAny_bind (wpAny_seqItems hol hdl ?_)
    simp only [Int.toNat_natCast, hx]
    refine wpAny_bind (wpAny_rule (wpAny_bind (wpAny_setField ho rfl (by simp) ?_)))
    refine stop_new (A := A.in1) (s := { s with heap := _ }) hh fun h' e hx => k _ _ _ ?_ (Heap.SameBut.update ..) hx
    rw [Heap.get?_update_self _ ho rfl]
    rfl
theorem it_type {o : Obj} (ho : s.heap.get? it = some o) (hc : o.cls = .type "list_iterator") : s.TypeIs (.ref it) "list_iterator" := ⟨_, ho, hc⟩
theorem next_item {Q : Value → Shared → Prop} (ho : s.heap.get? it = some (itObj l i)) (hl : s.heap.IsList l xs) (hx : xs[i]? = some x)
    (k : ∀ h', h'.get? it = some (itObj l (i + 1)) → Heap.SameBut it s.heap h' → Q x { s with heap := h' }) : wpAny (model prog w) A (call (.builtin "next") [.ref it]) Q E s := by
  refine call_function_entry (by decide +kernel) (by decide +kernel) kdk_entry_next (kdk_args_next _) ?_
  unfold Builtin.«next»
  refine wpAny_bind (m := someArgs "next" 1 2 _) (wpAny_of_eq (a := [Value.ref it]) (by first | rfl | kernel_rfl!) ?_)
  dsimp only
  refine wpAny_bind (wpAny_specialOf (name := Str.ofString "__next__") (it_type ho rfl) slot_listiter_next.lookup ?_)
  refine wpAny_ite_split (fun hab => absurd hab (by decide)) (fun _ => ?_)
  refine wpAny_bind (it_item ho hl hx fun h' h1 h2 => ?_)
  exact wpAny_pure ⟨_, rfl, k h' h1 h2⟩
theorem next_stop {o : Obj} {Q : Value → Shared → Prop} (hh : A.handled = none) (ho : s.heap.get? it = some o) (hs : o = itEnd i ∨ (o = itObj l i ∧ s.heap.IsList l xs ∧ xs[i]? = none))
    (k : ∀ h₁ h' e, h₁.get? it = some (itEnd i) → Heap.SameBut it s.heap h₁ → Heap.NewExc h₁ h' e "StopIteration" → E (.ref e) { s with heap := h' }) : wpAny (model prog w) A (call (.builtin "next") [.ref it]) Q E s := by
  refine call_function_entry (by decide +kernel) (by decide +kernel) kdk_entry_next (kdk_args_next _) ?_
  unfold Builtin.«next»
  refine wpAny_bind (m := someArgs "next" 1 2 _) (wpAny_of_eq (a := [Value.ref it]) (by first | rfl | kernel_rfl!) ?_)
  dsimp only
  refine wpAny_bind (wpAny_specialOf (name := Str.ofString "__next__") (it_type ho (by rcases hs with rfl | ⟨rfl, _⟩ <;> rfl)) slot_listiter_next.lookup ?_)
  refine wpAny_ite_split (fun hab => absurd hab (by decide)) (fun _ => ?_)
  exact wpAny_bind (it_stop (A := A.in1) hh ho hs k)
theorem pyNext_item {Q : Option Value → Shared → Prop} (ho : s.heap.get? it = some (itObj l i)) (hl : s.heap.IsList l xs) (hx : xs[i]? = some x)
    (k : ∀ h', h'.get? it = some (itObj l (i + 1)) → Heap.SameBut it s.heap h' → Q (some x) { s with heap := h' }) : wpAny (model prog w) A (pyNext (.ref it)) Q E s := by
  unfold pyNext
  refine wpAny_bind (wpAny_attempt (it_item ho hl hx fun h' h1 h2 => ?_))
  exact wpAny_pure (k h' h1 h2)
theorem pyNext_stop {o : Obj} {Q : Option Value → Shared → Prop} (hh : A.handled = none) (ho : s.heap.get? it = some o) (hs : o = itEnd i ∨ (o = itObj l i ∧ s.heap.IsList l xs ∧ xs[i]? = none))
    (k : ∀ h', h'.get? it = some (itEnd i) → Heap.ExtBut it s.heap h' → Q none { s with heap := h' }) : wpAny (model prog w) A (pyNext (.ref it)) Q E s := by
  unfold pyNext
  refine wpAny_bind (wpAny_attempt (it_stop hh ho hs fun h₁ h' e h1 h2 hx => ?_))
  obtain ⟨ob, t, he, hc, _⟩ := hx.there
  refine wpAny_bind (wpAny_isInstance (T := "StopIteration") (b := true) ⟨_, he, hc⟩ isSubtype_stop ?_)
  exact wpAny_pure (k h' (hx.keeps _ _ h1) fun b o hb hbo => hx.keeps _ _ ((h2.2 b hb).trans hbo))
theorem next2_item {d : Value} {Q : Value → Shared → Prop} (ho : s.heap.get? it = some (itObj l i)) (hl : s.heap.IsList l xs) (hx : xs[i]? = some x)
    (k : ∀ h', h'.get? it = some (itObj l (i + 1)) → Heap.SameBut it s.heap h' → Q x { s with heap := h' }) : wpAny (model prog w) A (call (.builtin "next") [.ref it, d]) Q E s := by
  refine call_function_entry (by decide +kernel) (by decide +kernel) kdk_entry_next (kdk_args_next2 _ _) ?_
  unfold Builtin.«next»
  refine wpAny_bind (m := someArgs "next" 1 2 _) (wpAny_of_eq (a := [Value.ref it, d]) (by first | rfl | kernel_rfl!) ?_)
  dsimp only
  refine wpAny_bind (wpAny_specialOf (name := Str.ofString "__next__") (it_type ho rfl) slot_listiter_next.lookup ?_)
  refine wpAny_ite_split (fun hab => absurd hab (by decide)) (fun _ => ?_)
  refine wpAny_bind (pyNext_item ho hl hx fun h' h1 h2 => ?_)
  exact wpAny_pure ⟨_, rfl, k h' h1 h2⟩
theorem next2_stop {d : Value} {o : Obj} {Q : Value → Shared → Prop} (hh : A.handled = none) (ho : s.heap.get? it = some o) (hs : o = itEnd i ∨ (o = itObj l i ∧ s.heap.IsList l xs ∧ xs[i]? = none))
    (k : ∀ h', h'.get? it = some (itEnd i) → Heap.ExtBut it s.heap h' → Q d { s with heap := h' }) : wpAny (model prog w) A (call (.builtin "next") [.ref it, d]) Q E s := by
  refine call_function_entry (by decide +kernel) (by decide +kernel) kdk_entry_next (kdk_args_next2 _ _) ?_
  unfold Builtin.«next»
  refine wpAny_bind (m := someArgs "next" 1 2 _) (wpAny_of_eq (a := [Value.ref it, d]) (by first | rfl | kernel_rfl!) ?_)
  dsimp only
  refine wpAny_bind (wpAny_specialOf (name := Str.ofString "__next__") (it_type ho (by rcases hs with rfl | ⟨rfl, _⟩ <;> rfl)) slot_listiter_next.lookup ?_)
  refine wpAny_ite_split (fun hab => absurd hab (by decide)) (fun _ => ?_)
  refine wpAny_bind (pyNext_stop (A := A.in1) hh ho hs fun h' h1 h2 => ?_)
  exact wpAny_pure ⟨_, rfl, k h' h1 h2⟩
end
end Mine
end
section
open PySem PySem.W PyProof.Rows PySem.Calls
set_option Elab.async false
set_option maxRecDepth 100000
namespace Mine
section
variable {prog : Program} {w : World} {A : Around} {E : Value → Shared → Prop} {s : Shared} {K : Frag} {x C L p : Addr} {h₀ : Heap} {m : Str → Option Value} {ox : Obj} {name : Str} {v : Value} {i : Nat}
theorem inst0_of_news {h₀ h : Heap} {L x C : Addr} {news : List (Addr × Obj)} {sl : Array (Option Value)} (N : News h₀ L h news) (h1 : (x, (⟨.ref C, none, .plain, sl⟩ : Obj)) ∈ news) :
    InstAt h x ⟨.ref C, none, .plain, sl⟩ C none := ⟨(N _ h1).1, rfl, rfl, trivial⟩
theorem findObj_data0 {a g : Value} (hc : (clsIn K C).isSome = true) (ha : findIn K (.ref C) name = some (some a)) (hg : specialIn K a "__get__" = some (some g)) (ht : takesIn K a = some true) : findObj K C none name = some (.bind g a) := by
  obtain ⟨cd, hc⟩ := Option.isSome_iff_exists.mp hc
  unfold findObj
  rw [hc, Option.bind_some, ha, Option.bind_some]
  simp [hg, ht]
theorem get_slot0 {expr : Bool} {Q : Value → Shared → Prop} (F : Fr h₀ L s.heap m) (X₀ : K.In h₀) (I : InstAt s.heap x ox C none) (hg : plainGet K C name = true) (hc : isClsIn K C = true)
    (ha : findIn K (.ref C) name = some (some (.ref p))) (hn : specialIn K (.ref p) "__get__" = some (some (.builtin "member_descriptor.__get__"))) (ht : takesIn K (.ref p) = some true) (hp : slotIn K p C = some i)
    (hv : (ox.slots[i]?).join = some v) (hh : handedIn v = true) (h : Q v { s with toks := s.toks + 1 }) : wpAny (model prog w) A (getAttr (.ref x) name expr) Q E s :=
  get_bind (X₀.keeps F.keep) I (plainGet_of hg).1 (findObj_data0 hc ha hn ht) (plainGet_of hg).2 (wpAny_call (slot_get (s := { s with toks := s.toks + 1 }) (X₀.keeps F.keep) I hp hv (handed_on hh h)))
end
end Mine
end
section
set_option Elab.async false
local macro_rules | `(tactic| walk_at "idle") => `(tactic| skip)
theorem Mine.off_W1 : True ∧ True := by
  w_top off
  first | walk1 | skip
  all_goals (first | trivial | exact ⟨trivial, trivial⟩)
end
section
open PySem PySem.W PyProof.Rows PySem.Calls
set_option Elab.async false
set_option maxRecDepth 100000
namespace Mine
noncomputable def Hold (P : Prop) : Prop := P
theorem hold {P : Prop} (h : Hold P) : P := h
section
variable {M : Model} {A : Around} {E : Value → Shared → Prop} {s : Shared}
theorem hold_call (n : Nat) {a : List Value} {k : List (Str × Value)} {Q : Value → Shared → Prop} (h : Hold (wpAny M A (call (.ref n) a k) Q E s)) : wpAny M A (call (.ref n) a k) Q E s := h
theorem hold_bind (x : String) {env : Env} {v : Value} {Q : Unit → Shared → Prop} (h : Hold (wpAny M A (bindName env (Str.ofString x) v) Q E s)) : wpAny M A (bindName env (Str.ofString x) v) Q E s := h
theorem hold_try {a b c d e} {env : Env} {Q : Flow → Shared → Prop} (h : Hold (wpAny M A (exec (.Try a b c d e) env) Q E s)) : wpAny M A (exec (.Try a b c d e) env) Q E s := h
theorem hold_while {a b c d} {env : Env} {Q : Flow → Shared → Prop} (h : Hold (wpAny M A (exec (.While a b c d) env) Q E s)) : wpAny M A (exec (.While a b c d) env) Q E s := h
theorem hold_slice {p e a b c} {env : Env} {Q : Value → Shared → Prop} (h : Hold (wpAny M A (eval (.Subscript p (.Slice a none b c) e) env) Q E s)) : wpAny M A (eval (.Subscript p (.Slice a none b c) e) env) Q E s := h
theorem hold_store (x : String) {env : Env} {v : Value} {Q : Unit → Shared → Prop} (h : Hold (wpAny M A (storeName env (Str.ofString x) v) Q E s)) : wpAny M A (storeName env (Str.ofString x) v) Q E s := h
theorem hold_name (x : String) {p : Pos} {env : Env} {Q : Value → Shared → Prop} (h : Hold (wpAny M A (eval (.Name (Str.ofString x) p) env) Q E s)) : wpAny M A (eval (.Name (Str.ofString x) p) env) Q E s := h
end
section
variable {prog : Program} {w : World} {A : Around} {E : Value → Shared → Prop} {s : Shared} {env : Env}
theorem while_inv {test : PySem.Expr} {body orelse : List Stmt} {pos : Pos} {Q : Flow → Shared → Prop} (I : Nat → Shared → Prop) (hE : PassesOwn (model prog w) A env E)
    (turn : ∀ n s, I n s → wpAny (model prog w) A (isTrue test env (eval test env)) (fun b s₂ =>
        if b then wpAny (model prog w) A (execs body env) (fun f s₃ => match f with
            | .next | .cont => Hold (∃ m, m < n ∧ I m s₃)
            | .brk => Q .next s₃
            | .ret v => Q (.ret v) s₃) E s₂
        else wpAny (model prog w) A (execs orelse env) Q E s₂) E s)
    (n : Nat) (h : I n s) : wpAny (model prog w) A (exec (.While test body orelse pos) env) Q E s := by
  refine wpAny_While (codeAny_whileLoop I (fun n s hI => ?_) n h)
  refine wpAny_mono (turn n s hI) (fun b s₂ h₂ => ?_) hE
  cases b with
  | true =>
    rw [if_pos rfl] at h₂
    rw [if_pos rfl]
    exact wpAny_mono h₂ (fun f s₃ h₃ => by cases f <;> exact h₃) hE
  | false =>
    rw [if_neg Bool.false_ne_true] at h₂
    rw [if_neg Bool.false_ne_true]
    exact wpAny_mono h₂ (fun f s₃ h₃ => h₃) hE
end
theorem item_lt {prog : Program} {w : World} {A : Around} {E : Value → Shared → Prop} {s : Shared} {value slice : PySem.Expr} {l : Addr} {items : Array Value} {i : Int} {k : Nat} {u : Tok} {x : Value} {Q : Value → Shared → Prop} (e : i = k) (hk : k < 1000) (hl : s.heap.IsList l items)
   (hx : items[k]? = some x) (h : Q x s)
   (hs : subscripted slice false (.ref l) (.int k u) = operate [.ref l, .int k u] (getItem (.ref l) (.int k u))) (hg : ∀ r, letTemporaryGo value (.ref l) r = pure ()) :
   wpAny (model prog w) A (subscriptTail value slice (.ref l) (.int i u)) Q E s := by
  subst e
  exact PyProof.Rows.item_list hl (Int.natCast_nonneg _) (Int.lt_trans (Int.ofNat_lt.mpr hk) (by decide)) hx h hs hg
theorem item_at {prog : Program} {w : World} {A : Around} {E : Value → Shared → Prop} {s : Shared} {value slice : PySem.Expr} {l : Addr} {items : Array Value} {i : Int} {k : Nat} {u : Tok} {x : Value} {Q : Value → Shared → Prop} (e : i = k) (hb : items.size ≤ 1000) (hl : s.heap.IsList l items)
   (hx : items[k]? = some x) (h : Q x s)
   (hs : subscripted slice false (.ref l) (.int k u) = operate [.ref l, .int k u] (getItem (.ref l) (.int k u))) (hg : ∀ r, letTemporaryGo value (.ref l) r = pure ()) :
   wpAny (model prog w) A (subscriptTail value slice (.ref l) (.int i u)) Q E s :=
  item_lt e (Nat.lt_of_lt_of_le (Array.getElem?_eq_some_iff.mp hx).1 hb) hl hx h hs hg
/-- the posts as names: a walk's term repeats the goal at each step -/
theorem hideQE {M : Model} {α : Type} {A : Around} {env : Env} {e : Sem α} {Q : α → Shared → Prop} {E : Value → Shared → Prop} {s : Shared} (hp : PassesOwn M A env E)
    (h : ∀ Q' E', Q' = Q → E' = E → PassesOwn M A env E' → wpAny M A e Q' E' s) : wpAny M A e Q E s := h Q E rfl rfl hp
theorem callWith_fieldsG {M : Model} {A : Around} {E : Value → Shared → Prop} {s : Shared} {pos : Pos} {u a : Addr} {id : String} {first : List Value} {args : List (Bool × Sem Value)} {Q : Value → Shared → Prop} (hplain : args.any (·.1) = false)
    (h : wpAny M A (evalArgs (.ref u) true args []) (fun x s₁ => s₁.heap.get? u = some (boundObj id a) ∧ wpAny M A (call (.ref u) (first ++ x.pos) x.kw) Q E s₁) E s) : wpAny M A (callWith pos (.ref u) first args []) Q E s := by
  unfold callWith
  refine wpAny_bind (wpAny_holding (wpAny_mono h (fun x s₁ h₁ => wpAny_bind (wpAny_standAt ?_)) fun _ _ x => x))
  obtain ⟨ho, hcall⟩ := h₁
  simp only [hplain, List.any_nil, Bool.or_false]
  refine wpAny_bind (m := keeperOf (.ref u)) ?_
  unfold keeperOf
  refine wpAny_bind (wpAny_load ho ?_)
  simp only [show (Value.type "builtin_function_or_method" != Value.type "method") = true by decide, show (Value.type "builtin_function_or_method" == Value.type "builtin_function_or_method" || Value.type "builtin_function_or_method" == Value.type "method-wrapper") = true by decide, if_true]
  refine wpAny_pure ?_
  exact wpAny_bind (wpAny_mono hcall (fun r s₂ hr => wpAny_bind (wpAny_holding (wpAny_point (wpAny_pure hr)))) fun _ _ x => x)
theorem callWith_boundG {M : Model} {A : Around} {E : Value → Shared → Prop} {s : Shared} {pos : Pos} {u a : Addr} {id : String} {first : List Value} {env : Env} {e : PySem.Expr} {rest : List PySem.Expr} {Q : Value → Shared → Prop}
    (h : wpAny M A (spliced (backTo pos (starEach (e :: rest) env))) (fun vs s₁ => s₁.heap.get? u = some (boundObj id a) ∧ wpAny M A (call (.ref u) (first ++ vs)) Q E s₁) E s)
    (he : starEach (e :: rest) env = (false, eval e env) :: starEach rest env) (hplain : (backTo pos (starEach rest env)).any (·.1) = false) :
    wpAny M A (callWith pos (.ref u) first (backTo pos (starEach (e :: rest) env)) []) Q E s := by
  rw [he] at h ⊢
  refine callWith_fieldsG (id := id) (a := a) (by show (false || (backTo pos (starEach rest env)).any (·.1)) = false; rw [hplain]; rfl) ?_
  exact evalArgs_plain h
/-- where a call stands: what it may lean on -/
structure Site (A : Around) (g : Heap) (fs : List Addr) (led : List (Addr × Obj)) (h : Heap) : Prop where
  stay : g.StaysIn h
  size : g.objs.size ≤ h.objs.size
  has : ∀ p ∈ led, h.get? p.1 = some p.2 ∧ g.get? p.1 = none
  frs : ∀ a ∈ fs, ∃ o, (a, o) ∈ led ∧ ∀ vs, o.data ≠ .fields vs
  stack : ∃ outer, A.frames = some outer ∧ ∀ x ∈ outer, FrOk fs x
  handled : A.handled = none
/-- the heap as a call leaves it -/
structure Aft (g : Heap) (led : List (Addr × Obj)) (h : Heap) : Prop where
  stay : g.StaysIn h
  has : ∀ p ∈ led, h.get? p.1 = some p.2
noncomputable def ThingIs (prog : Program) (w : World) (g : Heap) : Option NK → Value → Prop
  | some k, v => KeyIs prog w g k v
  | none, v => ∃ a o, v = .ref a ∧ g.get? a = some o ∧ o.cls = .type "list"
theorem Site.frsIn {A : Around} {g : Heap} {fs : List Addr} {led : List (Addr × Obj)} {h h' : Heap} (x : Site A g fs led h) (l : ∀ p ∈ led, h'.get? p.1 = some p.2) : FrsIn h' fs := fun a ha =>
  let ⟨o, ho, hd⟩ := x.frs a ha; ⟨o, l _ ho, hd⟩
theorem Site.news {A : Around} {g : Heap} {fs : List Addr} {led : List (Addr × Obj)} {h h' : Heap} (x : Site A g fs led h) (k : ∀ b o, h.get? b = some o → h'.get? b = some o) : News g h.objs.size h' led := fun p hp =>
  ⟨k _ _ (x.has p hp).1, fun e => Nat.lt_irrefl _ (e ▸ Heap.lt_size (x.has p hp).1), (x.has p hp).2⟩
theorem hide_thrown {h h' : Heap} {L : Addr} {fs : List Addr} {e : Addr} {cls : String} {fl : Value} (T : Thrown h (L :: fs) e cls fl h') (hL : L ∉ fs) : Thrown (hideAll h [L]) fs e cls fl h' := by
  obtain ⟨sl, f, hen, oe, vs, T, oT, ts, he, hc, hd, h1, hTe, hnT, hT⟩ := T
  have none_of : ∀ b, h.get? b = none → (hideAll h [L]).get? b = none := fun b hb => by
    cases q : (hideAll h [L]).get? b with
    | none => rfl
    | some o => rw [of_hideAll _ q] at hb; cases hb
  refine ⟨⟨fun b o hb hn => sl.1 b o (of_hideAll _ hb) fun m => ?_, fun b o hb => sl.2 b o (of_hideAll _ hb)⟩, fun a ha => ?_, none_of _ hen, oe, vs, T, oT, ts, he, hc, hd, h1, hTe, none_of _ hnT, hT⟩
  · rcases List.mem_cons.mp m with rfl | m
    · rw [hideAll_none _ (.head _)] at hb; cases hb
    · exact hn m
  · obtain ⟨o, ho, hd⟩ := f a (.tail _ ha)
    exact ⟨o, hideAll_get _ ho fun m => hL (List.mem_singleton.mp m ▸ ha), hd⟩
theorem Aft.hide {g : Heap} {led : List (Addr × Obj)} {h : Heap} {L : Addr} (x : Aft g led h) (hg : g.get? L = none) (hl : ∀ p ∈ led, p.1 ≠ L) : Aft g led (hideAll h [L]) :=
  ⟨fun b o hb => hideAll_get _ (x.stay b o hb) fun m => (by rw [List.mem_singleton.mp m, hg] at hb; cases hb), fun p hp => hideAll_get _ (x.has p hp) fun m => hl p hp (List.mem_singleton.mp m)⟩
theorem news_set {g h h' : Heap} {L a : Addr} {o o' : Obj} {led : List (Addr × Obj)} (N : News g L h ((a, o) :: led)) (ho : h'.get? a = some o') (sb : Heap.ExtBut a h h') (ne : ∀ p ∈ led, a ≠ p.1) : News g L h' ((a, o') :: led) := fun p hp => by
  refine mem_elim hp ?_ fun hp => ?_
  · exact ⟨ho, (N _ (.head _)).2⟩
  · exact ⟨sb p.1 p.2 (ne p hp).symm (N _ (.tail _ hp)).1, (N _ (.tail _ hp)).2⟩
theorem fr_set {g h h' : Heap} {L a : Addr} {m : Str → Option Value} {o : Obj} {led : List (Addr × Obj)} (F : Fr g L h m) (N : News g L h ((a, o) :: led)) (sb : Heap.SameBut a h h') : Fr g L h' m := F.change sb (N _ (.head _)).2.1 (N _ (.head _)).2.2
theorem frs_deep {A : Around} {g h : Heap} {fs : List Addr} {led led' : List (Addr × Obj)} {h₀ : Heap} {L : Addr} {m : Str → Option Value} (C : Site A g fs led h₀) (F : Fr g L h m) (N : News g L h led')
   (same : ∀ a o, (∀ vs, o.data ≠ .fields vs) → (a, o) ∈ led → (a, o) ∈ led') : FrsIn h (L :: fs) := fun a ha => by
  refine mem_elim ha ?_ fun ha => ?_
  · obtain ⟨o, _, _, ho, hd, _⟩ := F.ns
    exact ⟨o, ho, fun vs q => by rw [hd] at q; cases q⟩
  · obtain ⟨o, ho, hd⟩ := C.frs a ha
    exact ⟨o, (N _ (same a o hd ho)).1, hd⟩
theorem deep_ok {fs : List Addr} {outer : List Env} {env : Env} {L : Addr} (h : ∀ x ∈ outer, FrOk fs x) (hk : env.scope.kind ≠ .module) (hf : env.frame = some L) : ∀ x ∈ env :: outer, FrOk (L :: fs) x := fun x hx => by
  refine mem_elim hx ?_ fun hx => ?_
  · exact ⟨hk, L, hf, .head _⟩
  · obtain ⟨a, b, c, d⟩ := h x hx
    exact ⟨a, b, c, .tail _ d⟩
theorem Aft.of_news {g h : Heap} {L : Addr} {m : Str → Option Value} {led : List (Addr × Obj)} (F : Fr g L h m) (N : News g L h led) : Aft g led h := ⟨F.keep, fun p hp => (N p hp).1⟩
theorem Site.fresh {A : Around} {g h : Heap} {fs : List Addr} {led : List (Addr × Obj)} (C : Site A g fs led h) : h.objs.size ∉ fs ∧ g.get? h.objs.size = none ∧ ∀ p ∈ led, p.1 ≠ h.objs.size := by
  refine ⟨fun m => ?_, C.stay.fresh, fun p hp e => Nat.lt_irrefl _ (e ▸ Heap.lt_size (C.has p hp).1)⟩
  obtain ⟨o, ho, _⟩ := C.frs _ m
  exact Nat.lt_irrefl _ (Heap.lt_size (C.has _ ho).1)
theorem leave_site {M : Model} {A : Around} {E : Value → Shared → Prop} {s : Shared} {g h₀ h₁ : Heap} {fs : List Addr} {led₀ led : List (Addr × Obj)} {m : Str → Option Value} {env : Env} {e : Addr} {cls : String} {Q : Unit → Shared → Prop}
   (C : Site A g fs led₀ h₀) (F : Fr g h₀.objs.size h₁ m) (N : News g h₀.objs.size h₁ led) (same : ∀ a o, (∀ vs, o.data ≠ .fields vs) → (a, o) ∈ led₀ → (a, o) ∈ led) (x : Heap.NewExc h₁ s.heap e cls)
   (k : ∀ h₂ h', Aft g led h₂ → Thrown h₂ fs e cls .none h' → Q () { s with heap := h' }) (hf : env.frame = some h₀.objs.size) (hk : env.scope.kind ≠ .module) : wpAny M (A.deeper env) (leaving env (.ref e)) Q E s := by
  obtain ⟨outer, st1, st2⟩ := C.stack
  obtain ⟨hf1, hf2, _⟩ := C.fresh
  refine leave_made (Around.frames_deeper st1) (deep_ok st2 hk hf) hf (Made.of_new x (frs_deep C F N same)) fun h' T => ?_
  exact k _ h' ((Aft.of_news F N).hide hf2 fun p hp => (N p hp).2.1) (hide_thrown T hf1)

theorem news_rot {g h : Heap} {L : Addr} {a b c : Addr × Obj} {led : List (Addr × Obj)} (N : News g L h (a :: b :: c :: led)) : News g L h (b :: c :: a :: led) := fun p hp => N p (by
  refine mem_elim hp ?_ fun hp => ?_
  · exact .tail _ (.head _)
  refine mem_elim hp ?_ fun hp => ?_
  · exact .tail _ (.tail _ (.head _))
  refine mem_elim hp ?_ fun hp => ?_
  · exact .head _
  · exact .tail _ (.tail _ (.tail _ hp)))
theorem news_tor {g h : Heap} {L : Addr} {a b c : Addr × Obj} {led : List (Addr × Obj)} (N : News g L h (b :: c :: a :: led)) : News g L h (a :: b :: c :: led) := fun p hp => N p (by
  refine mem_elim hp ?_ fun hp => ?_
  · exact .tail _ (.tail _ (.head _))
  refine mem_elim hp ?_ fun hp => ?_
  · exact .head _
  refine mem_elim hp ?_ fun hp => ?_
  · exact .tail _ (.head _)
  · exact .tail _ (.tail _ (.tail _ hp)))
theorem news_new {g h h' : Heap} {L b : Addr} {m : Str → Option Value} {ob : Obj} {led : List (Addr × Obj)} (F : Fr g L h m) (N : News g L h led) (k1 : ∀ x o, h.get? x = some o → h'.get? x = some o) (k2 : h.get? b = none) (k3 : h'.get? b = some ob) :
    Fr g L h' m ∧ News g L h' ((b, ob) :: led) ∧ ∀ p ∈ led, b ≠ p.1 := by
  refine ⟨⟨F.ns.keeps k1, fun x o e => k1 _ _ (F.keep x o e), F.above⟩, fun p hp => ?_, fun p hp e => by rw [e, (N p hp).1] at k2; cases k2⟩
  refine mem_elim hp ?_ fun hp => ?_
  · refine ⟨k3, fun e => ?_, ?_⟩
    · obtain ⟨o, _, _, ho, _⟩ := F.ns
      rw [show b = L from e, ho] at k2; cases k2
    · cases q : g.get? b with
      | none => rfl
      | some o => rw [F.keep _ _ q] at k2; cases k2
  · exact ⟨k1 _ _ (N p hp).1, (N p hp).2⟩
end Mine
end
section
set_option Elab.async false
local macro_rules | `(tactic| walk_at "idle") => `(tactic| skip)
theorem Mine.off_SegR : True ∧ True := by
  w_top off
  first | walk1 | skip
  all_goals (first | trivial | exact ⟨trivial, trivial⟩)
end
section
open PySem PySem.W PyProof.Rows PySem.Calls PySem.W.X
set_option Elab.async false
set_option maxRecDepth 100000
namespace Mine
section
variable {prog : Program} {w : World} {A : Around} {c : Code} {fs : List Frame} {P : End → Shared → Prop} {s : Shared} {env : Env}
theorem sx_wrap {α : Type} {m : Sem α} {K : α → Sem Fin} {H : Value → Sem Fin} {gd : Bool → Bool} {lv : List Value → List Value}
    (h : wpAny (model prog w) (A.over c fs) m (fun a s' => SegX (model prog w) A c (K a) fs s' P) (fun x s' => SegX (model prog w) A c (H x) fs s' P) s) : SegX (model prog w) A c (m.wrap K H gd lv) fs s P := by
  rintro Γ p rfl hΓ
  obtain ⟨e, s', hr, hq⟩ := runs_wrap_of_wp (Φ := fun e s' => e.quiet = true ∧ P e s') K H gd lv m (h (Γ.over fs) p (hΓ.over fs)) (fun a p' s' h' => h' Γ p' rfl hΓ) (fun x p' s' h' => h' Γ p' rfl hΓ)
  exact ⟨e, s', hr, hq⟩
theorem sx_bind {α : Type} {m : Sem α} {K : α → Sem Fin}
    (h : wpAny (model prog w) (A.over c fs) m (fun a s' => SegX (model prog w) A c (K a) fs s' P) (fun x s' => SegX (model prog w) A c (.raise x) fs s' P) s) : SegX (model prog w) A c (m >>= K) fs s P := by
  rw [Sem.bind_eq_wrap']; exact sx_wrap h
theorem sx_at {p' : Pos} {k : Unit → Sem Fin} (h : SegX (model prog w) A c (k ()) fs s P) : SegX (model prog w) A c (.at p' k) fs s P :=
  sx_wrap (m := standAt p') (K := k) (H := .raise) (gd := id) (lv := id) (wpAny_standAt h)
theorem sx_point {l : List Value} {k : Unit → Sem Fin} (h : SegX (model prog w) A c (k ()) fs s P) : SegX (model prog w) A c (.point l k) fs s P :=
  sx_wrap (m := point) (K := k) (H := .raise) (gd := id) (lv := fun _ => l) (wpAny_point h)
variable {K : Flow → Sem Fin} {H : Value → Sem Fin} {gd : Bool → Bool} {lv : List Value → List Value}
theorem sx_execs_cons {st : Stmt} {rest : List Stmt}
    (h : SegX (model prog w) A c ((exec st env).wrap (fun f => match f with | .next => (execs rest env).wrap K H gd lv | f => K f) H gd lv) fs s P) :
    SegX (model prog w) A c ((execs (st :: rest) env).wrap K H gd lv) fs s P := by rw [execs_cons_wrap]; exact h
/-- a statement that neither yields nor loops -/
theorem sx_stmt {st : Stmt} (h : wpAny (model prog w) (A.over c fs) (exec st env) (fun f s' => SegX (model prog w) A c (K f) fs s' P) (fun x s' => SegX (model prog w) A c (H x) fs s' P) s) :
    SegX (model prog w) A c ((exec st env).wrap K H gd lv) fs s P := sx_wrap h
theorem sx_If {test : PySem.Expr} {body orelse : List Stmt} {pos : Pos}
    (h : wpAny (model prog w) (A.over c fs) (isTrue test env (eval test env)) (fun b s' => if b = true then SegX (model prog w) A c ((execs body env).wrap K H gd lv) fs s' P else SegX (model prog w) A c ((execs orelse env).wrap K H gd lv) fs s' P) (fun x s' => SegX (model prog w) A c (H x) fs s' P) s) :
    SegX (model prog w) A c ((exec (.If test body orelse pos) env).wrap K H gd lv) fs s P := by
  rw [exec_If]
  rw [Sem.bind_eq_wrap', Sem.wrap_wrap]
  refine sx_wrap (wpAny_standAt ?_)
  rw [Sem.bind_eq_wrap', Sem.wrap_wrap]
  refine sx_wrap (wpAny_mono h (fun b s' hb => ?_) fun _ _ x => x)
  cases b with
  | true => rw [if_pos rfl] at hb ⊢; exact hb
  | false => rw [if_neg Bool.false_ne_true] at hb ⊢; exact hb
theorem sx_runOwn {c' : Code} (h : ∀ p, SegX (model prog w) A c' (denote table c')
      (.ret (fun r => ((match r with | .ok f => (.pure f : Sem Flow) | .error e => .raise e).onRaise fun (x : Value) => do
        if (← field x 1) == Value.none then unsupported "frame.own-activation:exception-without-traceback"
        setFlight x env.frame).wrap K H gd lv) none (gd false) (lv []) c p [] :: fs) s P) :
    SegX (model prog w) A c ((runOwn c' env).wrap K H gd lv) fs s P :=
  s_call prog w A c fs P s c' none (gd false) (lv []) _ h
theorem sx_For {target iter : PySem.Expr} {body orelse : List Stmt} {pos : Pos}
    (h : wpAny (model prog w) (A.over c fs) (eval iter env) (fun x s₁ => wpAny (model prog w) (A.over c fs) (pyIter x) (fun it s' => ∀ p, SegX (model prog w) A (.forLoop target it body orelse env) (denote table (.forLoop target it body orelse env))
      (.ret (fun r => ((match r with | .ok f => (.pure f : Sem Flow) | .error e => .raise e).onRaise fun (x : Value) => do
        if (← field x 1) == Value.none then unsupported "frame.own-activation:exception-without-traceback"
        setFlight x env.frame).wrap K H gd lv) none (gd false) (lv []) c p [] :: fs) s' P) (fun x s' => SegX (model prog w) A c (H x) fs s' P) s₁) (fun x s' => SegX (model prog w) A c (H x) fs s' P) s)
    (hf : ∀ x, foldedSetIterable iter env x = pure x) :
    SegX (model prog w) A c ((exec (.For target iter body orelse pos) env).wrap K H gd lv) fs s P := by
  rw [arm_exec_For]
  rw [Sem.bind_eq_wrap', Sem.wrap_wrap]
  refine sx_wrap (wpAny_standAt ?_)
  rw [Sem.bind_eq_wrap', Sem.wrap_wrap]
  refine sx_wrap (wpAny_mono h (fun x s₁ h₁ => ?_) fun _ _ x => x)
  rw [Sem.bind_eq_wrap', Sem.wrap_wrap]
  refine sx_wrap ?_
  rw [hf]
  refine wpAny_pure ?_
  rw [Sem.bind_eq_wrap', Sem.wrap_wrap]
  refine sx_wrap (wpAny_standAt ?_)
  rw [Sem.bind_eq_wrap', Sem.wrap_wrap]
  refine sx_wrap (wpAny_holding (wpAny_mono h₁ (fun it s₂ h₂ => ?_) fun _ _ x => x))
  exact sx_runOwn h₂
/-- one turn of a for statement that may yield -/
theorem sx_forLoop {target : PySem.Expr} {it : Value} {body orelse : List Stmt}
    (h : wpAny (model prog w) (A.over (.forLoop target it body orelse env) fs) (pyNext it) (fun r s₁ => match r with
      | none => SegX (model prog w) A (.block orelse env) (denote table (.block orelse env)) fs s₁ P
      | some v => wpAny (model prog w) (A.over (.forLoop target it body orelse env) fs) (letOwnedTupleGo target it v) (fun _ s₁' => wpAny (model prog w) (A.over (.forLoop target it body orelse env) fs) (assign target env v) (fun _ s₂ =>
          SegX (model prog w) A (.forLoop target it body orelse env) ((execs body env).wrap (fun f => match f with
            | .next | .cont => .pure (.again (.forLoop target it body orelse env))
            | .brk => .pure (.done .next)
            | .ret v => .pure (.done (.ret v))) (fun e => (do noteFrame e env; theTreesLotGoes e : Sem Unit).wrap (fun _ => .raise e) .raise id id) id id) fs s₂ P)
          (fun x s' => SegX (model prog w) A (.forLoop target it body orelse env) ((do noteFrame x env; theTreesLotGoes x : Sem Unit).wrap (fun _ => .raise x) .raise id id) fs s' P) s₁')
          (fun x s' => SegX (model prog w) A (.forLoop target it body orelse env) ((do noteFrame x env; theTreesLotGoes x : Sem Unit).wrap (fun _ => .raise x) .raise id id) fs s' P) s₁)
      (fun x s' => SegX (model prog w) A (.forLoop target it body orelse env) ((do noteFrame x env; theTreesLotGoes x : Sem Unit).wrap (fun _ => .raise x) .raise id id) fs s' P) s) :
    SegX (model prog w) A (.forLoop target it body orelse env) (denote table (.forLoop target it body orelse env)) fs s P := by
  show SegX _ A _ ((forTurn target it body orelse env).onRaise (fun x => do noteFrame x env; theTreesLotGoes x)) fs s P
  unfold forTurn
  rw [Sem.onRaise_eq_wrap, Sem.bind_eq_wrap', Sem.wrap_wrap]
  refine sx_wrap (wpAny_standAt ?_)
  rw [Sem.bind_eq_wrap', Sem.wrap_wrap]
  have hE : ∀ x s', SegX (model prog w) A (.forLoop target it body orelse env) ((do noteFrame x env; theTreesLotGoes x : Sem Unit).wrap (fun _ => .raise x) .raise id id) fs s' P →
      SegX (model prog w) A (.forLoop target it body orelse env) ((do noteFrame x env; theTreesLotGoes x : Sem Unit).bind (fun _ => .raise x)) fs s' P := fun x s' h => by rw [Sem.bind_eq_wrap]; exact h
  refine sx_wrap (wpAny_onRaise (wpAny_mono h (fun r s₁ h₁ => ?_) fun x s' h' => wpAny_standAt (hE x s' h')))
  cases r with
  | none => exact s_again prog w A _ fs P s₁ (.block orelse env) rfl h₁
  | some v =>
    dsimp only at h₁ ⊢
    rw [Sem.bind_eq_wrap', Sem.wrap_wrap]
    refine sx_wrap (wpAny_mono h₁ (fun _ s₂ h₂ => ?_) hE)
    rw [Sem.bind_eq_wrap', Sem.wrap_wrap]
    refine sx_wrap (wpAny_mono h₂ (fun _ s₃ h₃ => ?_) hE)
    rw [Sem.bind_eq_wrap', Sem.wrap_wrap]
    rw [Sem.wrap_congr (execs body env) _ _ (K' := fun f => match f with
            | .next | .cont => .pure (.again (.forLoop target it body orelse env))
            | .brk => .pure (.done .next)
            | .ret v => .pure (.done (.ret v))) (H' := (fun e => (do noteFrame e env; theTreesLotGoes e : Sem Unit).wrap (fun _ => .raise e) .raise id id))
        (fun f => by cases f <;> rfl)
        (fun e => by first | exact Sem.bind_eq_wrap _ _ | (show (do noteFrame e env; theTreesLotGoes e : Sem Unit).bind (fun _ => .raise e) = _; rw [Sem.bind_eq_wrap]))]
    exact h₃
theorem sx_func {body : List Stmt}
    (h : SegX (model prog w) A (.func body env) ((execs body env).wrap (fun f => .pure (.done (.ret (match f with | .ret v => v | _ => .none)))) (fun e => (leaving env e).wrap (fun _ => .raise e) .raise id id) id id) fs s P) :
    SegX (model prog w) A (.func body env) (denote table (.func body env)) fs s P := by
  show SegX _ A _ (.point [] fun _ => ((execs body env).onRaise (leaving env)) >>= _) fs s P
  refine sx_point ?_
  rw [Sem.onRaise_eq_wrap, Sem.bind_eq_wrap', Sem.wrap_wrap]
  rw [Sem.wrap_congr (execs body env) _ _ (K' := fun f => .pure (.done (.ret (match f with | .ret v => v | _ => .none))))
    (H' := fun e => (leaving env e).wrap (fun _ => .raise e) .raise id id) (fun f => by cases f <;> rfl)
    (fun e => by rw [Sem.bind_eq_wrap, Sem.wrap_wrap]; rfl)]
  exact h
/-- yield e as a statement: the value, and how it goes on when it is woken -/
theorem sx_yield {e : PySem.Expr} {ypos pos : Pos} (hfs : splitAtGen fs = none) (hgd : gd false = false) (hfg : fs.any Frame.guarded = false)
    (h : wpAny (model prog w) (A.over c fs) (eval e env) (fun v s' => ∀ k l p, (∀ A' s'' P', SegX (model prog w) A' c (K .next) fs s'' P' → SegX (model prog w) A' c (k (.send .none)) fs s'' P') → P (.susp v false l k c p fs) s')
      (fun x s' => SegX (model prog w) A c (H x) fs s' P) s) (hco : env.scope.isCoroutine = false) (hi : interactive env = false) :
    SegX (model prog w) A c ((exec (.Expr (.Yield (some e) ypos) pos) env).wrap K H gd lv) fs s P := by
  rw [exec_Expr env _ pos hi rfl]
  show SegX (model prog w) A c (.at pos fun _ => ((eval e env >>= fun v => (standAt ypos >>= fun _ => yieldOut env v)) >>= fun x =>
    dropValue (.Yield (some e) ypos) pos x).wrap K H gd lv) fs s P
  have hy : ∀ v, yieldOut env v = yieldValue v := fun v => by simp only [yieldOut, hco, Bool.false_eq_true, if_false]
  simp only [hy]
  refine sx_at ?_
  rw [Sem.bind_eq_wrap', Sem.bind_eq_wrap', Sem.wrap_wrap, Sem.wrap_wrap]
  refine sx_wrap (wpAny_mono h (fun v s' h' => ?_) fun _ _ x => x)
  refine sx_at ?_
  have : ∀ g, gd g = false → g = false → True := fun _ _ _ => trivial
  show SegX (model prog w) A c (.yield v (gd false) _ _) fs s' P
  rw [hgd]
  refine s_yield prog w A c fs P s' v _ _ hfs hfg fun p => h' _ _ p fun A' s'' P' hx => ?_
  exact hx
end
end Mine
end
section
set_option Elab.async false
local macro_rules | `(tactic| walk_at "idle") => `(tactic| skip)
theorem Mine.off_FF : True ∧ True := by
  w_top off
  first | walk1 | skip
  all_goals (first | trivial | exact ⟨trivial, trivial⟩)
end
section
open PySem PySem.W PyProof.Rows PySem.Calls
set_option Elab.async false
set_option maxRecDepth 100000
set_option maxHeartbeats 1000000
set_option pp.deepTerms false
set_option pp.deepTerms.threshold 5
namespace Mine
noncomputable abbrev ffObj (dx it fn : Addr) : Obj := ⟨.ref 47, some dx, .plain, #[some (.ref fn), some (.ref it)]⟩
local macro_rules | `(tactic| walk_at "exec") => `(tactic| (k_here; with_reducible refine hold_while ?_))
noncomputable abbrev m3 (a b c : String) (va vb vc : Option Value) : Str → Option Value := fun y => if y = Str.ofString a then va else if y = Str.ofString b then vb else if y = Str.ofString c then vc else none
theorem fr_congr {g h : Heap} {L : Addr} {m m' : Str → Option Value} (F : Fr g L h m) (e : ∀ y, m y = m' y) : Fr g L h m' := (funext e) ▸ F
theorem ff_next {w : World} {A : Around} {s : Shared} {mean : ExcName → Option Value} {loose : List Str} {mg mb : Str → Option Value} {x dx it fn sa l : Addr} {R : Result → Shared → Prop} {g : Heap}
   {fs : List Addr} {led : List (Addr × Obj)} {o : Obj} {xs : Array Value} {ks : List (Option NK)} {S : NK → Bool} {n i : Nat} {es : Array (Int × Value)} {ep : Nat} {t : SetTable}
   (X : (Mine.hd.heap_39 w.params).In g) (T : Top topProg loose mean mg mb g) (hroom : A.depth < 500) (hu : A.units < 5000)
   (C : Site A g fs ((it, o) :: (x, ffObj dx it fn) :: (dx, dictOf [] 0) :: (fn, boundObj "set.__contains__" sa) :: (sa, setObj es ep t) :: led) s.heap)
   (hl : g.IsList l xs) (hks : ∀ (j : Nat) (v : Value), xs[j]? = some v → ∃ q, ks[j]? = some q ∧ ThingIs PySem.Challenge.rw_dz0055_01.row.prog w g q v) (I : SetIs PySem.Challenge.rw_dz0055_01.row.prog w g es t S n)
   (hit : it ≠ x ∧ it ≠ dx ∧ it ≠ fn ∧ it ≠ sa ∧ ∀ p ∈ led, it ≠ p.1)
   (ho : o = itEnd i ∨ o = itObj l i)
   (R1 : ∀ (j : Nat) v k h' tk, o = itObj l i → i ≤ j → xs[j]? = some v → ks[j]? = some (some k) → S k = false → (∀ m, i ≤ m → m < j → ∃ k', ks[m]? = some (some k') ∧ S k' = true) →
     Aft g ((it, itObj l (j + 1)) :: (x, ffObj dx it fn) :: (dx, dictOf [] 0) :: (fn, boundObj "set.__contains__" sa) :: (sa, setObj es ep t) :: led) h' → R (.ok (.ret v)) { s with heap := h', toks := tk })
   (R2 : ∀ (j : Nat) h₁ h' e tk, o = itObj l i → i ≤ j → ks[j]? = some none → (∀ m, i ≤ m → m < j → ∃ k', ks[m]? = some (some k') ∧ S k' = true) →
     Aft g ((it, itObj l (j + 1)) :: (x, ffObj dx it fn) :: (dx, dictOf [] 0) :: (fn, boundObj "set.__contains__" sa) :: (sa, setObj es ep t) :: led) h₁ → Thrown h₁ fs e "TypeError" .none h' → R (.error (.ref e)) { s with heap := h', toks := tk })
   (R3 : ∀ (j : Nat) h₁ h' e tk, (o = itEnd i ∧ j = i ∨ o = itObj l i ∧ xs[j]? = none ∧ (∀ m, i ≤ m → m < j → ∃ k', ks[m]? = some (some k') ∧ S k' = true)) →
     Aft g ((it, itEnd j) :: (x, ffObj dx it fn) :: (dx, dictOf [] 0) :: (fn, boundObj "set.__contains__" sa) :: (sa, setObj es ep t) :: led) h₁ → Thrown h₁ fs e "StopIteration" .none h' → R (.error (.ref e)) { s with heap := h', toks := tk }) :
   codeAny (model PySem.Challenge.rw_dz0055_01.row.prog w) A (.call (.ref 43) ⟨[.ref x], []⟩) R s := by
  revert X
  k_fill
  intro X
  have X' : ((Mine.hd.heap_39 w.params)).In s.heap := fun a o e => C.stay a o (X a o e)
  refine codeAny_call_def (by show A.depth < 1000; omega) (X' _ _ (by k_is)) rfl (T.nolimit.keeps C.stay) (codeRec_of X' (by k_is)) rfl (.of_eq rfl) (by decide) (locs rfl) (fun h₁ hns keep => ?_)
  have F : Fr g s.heap.objs.size h₁ _ := ⟨hns, fun b o hb => keep _ _ (C.stay _ _ hb), C.size⟩
  have N := C.news keep
  repeat' walk1
  rename_i h₂ F₂ N₂
  have F₃ := fr_congr F₂ (m' := m3 "item" "func" "self" none (some (.ref fn)) (some (.ref x))) (by
    intro y
    by_cases e1 : y = Str.ofString "func"
    · subst e1; rfl
    by_cases e2 : y = Str.ofString "self"
    · subst e2; rfl
    by_cases e3 : y = Str.ofString "item"
    · subst e3; rfl
    show (if _ then _ else List.lookup y [(Str.ofString "self", Value.ref x)]) = _
    have e2' : (y == Str.ofString "self") = false := by rw [beq_eq_false_iff_ne]; exact e2
    simp [m3, e1, e2, e3, List.lookup, e2'])
  clear F₂
  obtain ⟨V, hV1, hV2⟩ : ∃ V : Nat → Shared → Prop, (∀ {h : Heap} {tk j : Nat} {oj : Obj} {vi : Option Value}, Fr g s.heap.objs.size h (m3 "item" "func" "self" vi (some (.ref fn)) (some (.ref x))) → News g s.heap.objs.size h ((it, oj) :: (x, ffObj dx it fn) :: (dx, dictOf [] 0) :: (fn, boundObj "set.__contains__" sa) :: (sa, setObj es ep t) :: led) → (o = itEnd i ∧ oj = itEnd i ∧ j = i ∨ o = itObj l i ∧ oj = itObj l j ∧ i ≤ j ∧ (∀ m, i ≤ m → m < j → ∃ k', ks[m]? = some (some k') ∧ S k' = true)) → V (xs.size + 1 - j) { s with heap := h, toks := tk }) ∧
      (∀ {k : Nat} {s' : Shared} {P : Prop}, V k s' → (∀ (h : Heap) (tk j : Nat) (oj : Obj) (vi : Option Value), s' = { s with heap := h, toks := tk } → k = xs.size + 1 - j → Fr g s.heap.objs.size h (m3 "item" "func" "self" vi (some (.ref fn)) (some (.ref x))) → News g s.heap.objs.size h ((it, oj) :: (x, ffObj dx it fn) :: (dx, dictOf [] 0) :: (fn, boundObj "set.__contains__" sa) :: (sa, setObj es ep t) :: led) → (o = itEnd i ∧ oj = itEnd i ∧ j = i ∨ o = itObj l i ∧ oj = itObj l j ∧ i ≤ j ∧ (∀ m, i ≤ m → m < j → ∃ k', ks[m]? = some (some k') ∧ S k' = true)) → P) → P) :=
    ⟨fun k s' => ∃ h tk j oj vi, s' = { s with heap := h, toks := tk } ∧ k = xs.size + 1 - j ∧ Fr g s.heap.objs.size h (m3 "item" "func" "self" vi (some (.ref fn)) (some (.ref x))) ∧ News g s.heap.objs.size h ((it, oj) :: (x, ffObj dx it fn) :: (dx, dictOf [] 0) :: (fn, boundObj "set.__contains__" sa) :: (sa, setObj es ep t) :: led) ∧ (o = itEnd i ∧ oj = itEnd i ∧ j = i ∨ o = itObj l i ∧ oj = itObj l j ∧ i ≤ j ∧ (∀ m, i ≤ m → m < j → ∃ k', ks[m]? = some (some k') ∧ S k' = true)), fun a b c => ⟨_, _, _, _, _, rfl, rfl, a, b, c⟩, fun z k => by
      obtain ⟨h, tk, j, oj, vi, a, b, c, d, e⟩ := z
      exact k _ _ _ _ _ a b c d e⟩
  refine hideQE (by passes_own) fun Q₁ E₁ hQ₁ hE₁ hP₁ => ?_
  refine while_inv V hP₁ ?_ _ (hV1 (j := i) (oj := o) (vi := none) F₃ N₂ (by
        rcases ho with e | e
        · exact .inl ⟨e, e, rfl⟩
        · exact .inr ⟨e, e, Nat.le_refl _, fun m h1 h2 => absurd h2 (Nat.not_lt_of_le h1)⟩))
  intro k s' hV0
  refine hV2 hV0 fun h tk j oj vi e1 hk F N hj => ?_
  clear hV0 hV2
  subst e1
  clear h₂ F₃ N₂ hns keep h₁
  obtain ⟨hf1, hf2, hf3⟩ := C.fresh
  have hne : ∀ p ∈ ((x, ffObj dx it fn) :: (dx, dictOf [] 0) :: (fn, boundObj "set.__contains__" sa) :: (sa, setObj es ep t) :: led), it ≠ p.1 := by
    intro p hp
    refine mem_elim hp ?_ fun hp => ?_
    · exact hit.1
    refine mem_elim hp ?_ fun hp => ?_
    · exact hit.2.1
    refine mem_elim hp ?_ fun hp => ?_
    · exact hit.2.2.1
    refine mem_elim hp ?_ fun hp => ?_
    · exact hit.2.2.2.1
    · exact hit.2.2.2.2 p hp
  have same : ∀ oj a o', (∀ vs, o'.data ≠ .fields vs) → (a, o') ∈ ((it, o) :: (x, ffObj dx it fn) :: (dx, dictOf [] 0) :: (fn, boundObj "set.__contains__" sa) :: (sa, setObj es ep t) :: led) → (a, o') ∈ ((it, oj) :: (x, ffObj dx it fn) :: (dx, dictOf [] 0) :: (fn, boundObj "set.__contains__" sa) :: (sa, setObj es ep t) :: led) := by
    intro oj a o' hd hm
    rcases List.mem_cons.mp hm with e | hm
    · cases e
      rcases ho with rfl | rfl <;> exact absurd rfl (hd _)
    · exact .tail _ hm
  repeat' walk1
  have key : (∃ j', (oj = itEnd j' ∨ (oj = itObj l j' ∧ h.IsList l xs ∧ xs[j']? = none)) ∧ (o = itEnd i ∧ j' = i ∨ o = itObj l i ∧ xs[j']? = none ∧ (∀ m, i ≤ m → m < j' → ∃ k', ks[m]? = some (some k') ∧ S k' = true))) ∨
      (∃ v, xs[j]? = some v ∧ o = itObj l i ∧ oj = itObj l j ∧ i ≤ j ∧ (∀ m, i ≤ m → m < j → ∃ k', ks[m]? = some (some k') ∧ S k' = true)) := by
    rcases hj with ⟨e1, e2, e3⟩ | ⟨e1, e2, hij, hseen⟩
    · exact .inl ⟨j, .inl (e3 ▸ e2), .inl ⟨e1, e3⟩⟩
    cases hx : xs[j]? with
    | none => exact .inl ⟨j, .inr ⟨e2, stays_list F.keep hl, hx⟩, .inr ⟨e1, hx, hseen⟩⟩
    | some v => exact .inr ⟨v, rfl, e1, e2, hij, hseen⟩
  rcases key with ⟨j', stop, hR⟩ | ⟨v, hx, ho', rfl, hij, hseen⟩
  · subst hQ₁ hE₁
    refine next_stop (A := A.deeper _) C.handled (N _ (.head _)).1 stop fun h₁ h' e k1 k2 k3 => ?_
    exact leave_site C (fr_set F N k2) (news_set N k1 k2.extBut hne) (same _) k3 (fun h₂ h'' A₂ T₂ => R3 j' _ h'' e _ hR A₂ T₂) rfl (fun z => nomatch z)
  · refine next_item (N _ (.head _)).1 (stays_list F.keep hl) hx fun h' k1 k2 => ?_
    replace F := fr_set F N k2
    replace N := news_set N k1 k2.extBut hne
    obtain ⟨q, hq, hv⟩ := hks j v hx
    repeat' walk1
    refine callWith_boundG (he := by rfl) (hplain := by rfl) (id := "set.__contains__") (a := sa) ?_
    repeat' walk1
    · exact (by assumption : News g _ _ _).get (.tail _ (.tail _ (.tail _ (.head _))))
    rename_i h₂ F₂ N₂
    have hxj : j < xs.size := by
      rcases Nat.lt_or_ge j xs.size with z | z
      · exact z
      · rw [Array.getElem?_eq_none z] at hx; cases hx
    cases q with
    | none =>
      subst hQ₁ hE₁
      obtain ⟨la, lo, rfl, hlo, hlc⟩ := hv
      refine call_contains_list (A := A.deeper _) (by show A.units + 3 + 1 < 9900; omega) C.handled (N₂.get (.tail _ (.tail _ (.tail _ (.head _))))) (N₂.get (.tail _ (.tail _ (.tail _ (.tail _ (.head _)))))) ⟨lo, F₂.keep _ _ hlo, hlc⟩ fun h' tk e hx => ?_
      exact leave_site C F₂ N₂ (same _) hx (fun h₂ h'' A₂ T₂ => R2 j _ h'' e _ ho' hij hq hseen A₂ T₂) rfl (fun z => nomatch z)
    | some kk =>
      refine call_contains (A := A.deeper _) (by show A.units + 3 + 1 < 9900; omega) F₂.keep (N₂.get (.tail _ (.tail _ (.tail _ (.head _))))) (N₂.get (.tail _ (.tail _ (.tail _ (.tail _ (.head _)))))) hv I fun mm => ?_
      cases hS : S kk with
      | true =>
        repeat' walk1
        refine hold ⟨_, ?_, hV1 (j := j + 1) (vi := some v) (fr_congr F₂ ?_) N₂ (.inr ⟨ho', rfl, Nat.le_succ_of_le hij, fun m h1 h2 => ?_⟩)⟩
        · exact hk ▸ down_lt hxj
        · intro y
          by_cases e3 : y = Str.ofString "item" <;> simp [m3, e3]
        · by_cases e : m = j
          · exact ⟨kk, e ▸ hq, hS⟩
          · exact hseen m h1 (Nat.lt_of_le_of_ne (Nat.le_of_lt_succ h2) e)
      | false =>
        subst hQ₁ hE₁
        repeat' walk1
        exact R1 j v kk _ _ ho' hij hx hq hS hseen (Aft.of_news F₂ N₂)
end Mine
end
section
set_option Elab.async false
theorem Mine.off_MkFF : True ∧ True := by
  w_top off
  first | walk1 | skip
  all_goals (first | trivial | exact ⟨trivial, trivial⟩)
end
section
open PySem PySem.W PyProof.Rows PySem.Calls
set_option Elab.async false
set_option maxRecDepth 100000
set_option maxHeartbeats 1000000
set_option pp.deepTerms false
set_option pp.deepTerms.threshold 5
namespace Mine
section
variable {prog : Program} {w : World} {A : Around} {E : Value → Shared → Prop} {s : Shared}
theorem pyIter_it {it : Addr} {io : Obj} {Q : Value → Shared → Prop} (ho : s.heap.get? it = some io) (hc : io.cls = .type "list_iterator") (h : Q (.ref it) s) : wpAny (model prog w) A (pyIter (.ref it)) Q E s := by
  have hT : s.TypeIs (.ref it) "list_iterator" := ⟨_, ho, hc⟩
  refine wpAny_pyIter_slot hT slot_listiter_iter (wpAny_call_entry slot_listiter_iter hT entry_listiter_iter ?_ (args_listiter_iter _))
  show wpAny _ _ (ret (.ref it)) _ _ s
  exact wpAny_pure ⟨_, rfl, "list_iterator", _, hT, slot_listiter_next.lookup, h⟩
theorem iter_it {it : Addr} {io : Obj} {Q : Value → Shared → Prop} (ho : s.heap.get? it = some io) (hc : io.cls = .type "list_iterator") (h : Q (.ref it) s) : wpAny (model prog w) A (call (.builtin "iter") [.ref it]) Q E s := by
  refine call_function_entry (by decide +kernel) (by decide +kernel) kdk_entry_iter (kdk_args_iter _) ?_
  unfold Builtin.«iter»
  refine wpAny_bind (m := someArgs "iter" 1 2 _) (wpAny_of_eq (a := [Value.ref it]) (by first | rfl | kernel_rfl!) ?_)
  show wpAny _ _ (pyIter (.ref it) >>= _) _ _ _
  refine wpAny_bind (pyIter_it ho hc ?_)
  exact wpAny_pure ⟨_, rfl, h⟩
end
/-- an activation entered: the ledger over it -/
theorem enter_news {g h h₁ : Heap} {L L' : Addr} {m : Str → Option Value} {led : List (Addr × Obj)} (F : Fr g L h m) (N : News g L h led) (keep : ∀ b o, h.get? b = some o → h₁.get? b = some o) (hL : L' = h.objs.size) :
    ∃ oL, h.get? L = some oL ∧ (∀ h' : Heap, h'.get? L = some oL → h'.Ns L m) ∧ News g L' h₁ ((L, oL) :: led) := by
  subst hL
  obtain ⟨oL, es, ep, ho, hr⟩ := F.ns
  refine ⟨oL, ho, fun h' e => ⟨oL, es, ep, e, hr⟩, fun p hp => ?_⟩
  refine mem_elim hp ?_ fun hp => ?_
  · refine ⟨keep _ _ ho, Nat.ne_of_lt (Heap.lt_size ho), ?_⟩
    cases q : g.get? L with
    | none => rfl
    | some o => exact absurd (Heap.lt_size q) (Nat.not_lt_of_le F.above)
  · exact ⟨keep _ _ (N p hp).1, Nat.ne_of_lt (Heap.lt_size (N p hp).1), (N p hp).2.2⟩
theorem leave_news {g h : Heap} {L L' : Addr} {m m' : Str → Option Value} {oL : Obj} {led : List (Addr × Obj)} (above : g.objs.size ≤ L) (ns : ∀ h' : Heap, h'.get? L = some oL → h'.Ns L m) (F' : Fr g L' h m') (N' : News g L' h ((L, oL) :: led)) (ne : ∀ p ∈ led, p.1 ≠ L) :
    Fr g L h m ∧ News g L h led := ⟨⟨ns _ (N' _ (.head _)).1, F'.keep, above⟩, fun p hp => ⟨(N' _ (.tail _ hp)).1, ne p hp, (N' _ (.tail _ hp)).2.2⟩⟩

local macro_rules | `(tactic| k_all) => `(tactic| first | assumption | (refine' List.forall_mem_cons.mpr ⟨?a, ?b⟩; (case a => k_ne); (case b => k_all)))
theorem make_ff {w : World} {A : Around} {E : Value → Shared → Prop} {s : Shared} {mean : ExcName → Option Value} {loose : List Str} {mg mb : Str → Option Value} {it fn L : Addr} {Q : Value → Shared → Prop} {g : Heap} {m : Str → Option Value}
   {led : List (Addr × Obj)} {io : Obj} (X : (Mine.hd.heap_39 w.params).In g) (T : Top topProg loose mean mg mb g) (hroom : A.depth < 500) (F : Fr g L s.heap m) (N : News g L s.heap led) (hi : (it, io) ∈ led) (hc : io.cls = .type "list_iterator")
   (k : ∀ x dx h' tk, Fr g L h' m → News g L h' ((x, ffObj dx it fn) :: (dx, dictOf [] 0) :: led) → (∀ p ∈ led, p.1 < dx) → dx < x → Q (.ref x) { s with heap := h', toks := tk }) :
   wpAny (model PySem.Challenge.rw_dz0055_01.row.prog w) A (call (.ref 47) [.ref fn, .ref it] []) Q E s := by
  revert X
  k_fill
  intro X
  refine call_cls F X N (by k_is) (by k_is) (by k_is) fun x dx h' F₁ N₁ l1 l2 => ?_
  have X' : ((Mine.hd.heap_39 w.params)).In h' := fun a o e => F₁.keep a o (X a o e)
  refine codeAny_call_def (s := { s with heap := h' }) (by show A.depth + 1 < 1000; omega) (X' _ _ (by k_is)) rfl (T.nolimit.keeps F₁.keep) (codeRec_of X' (by k_is)) rfl (.of_eq rfl) (by decide) (locs rfl) (fun h₁ hns keep => ?_)
  obtain ⟨oL, hoL, nsL, N₂⟩ := enter_news F₁ N₁ keep rfl
  have F₂ : Fr g h'.objs.size h₁ _ := ⟨hns, fun b o hb => keep _ _ (F₁.keep _ _ hb), Nat.le_trans F₁.above (Nat.le_of_lt (Heap.lt_size hoL))⟩
  have N₃ := news_rot N₂
  have hxL : x ≠ L := (N₁ _ (.head _)).2.1
  have hxN : @Ne Nat L x := Ne.symm hxL
  have hdN : @LT.lt Nat _ dx x := l2
  have hdL : dx ≠ L := (N₁ _ (.tail _ (.head _))).2.1
  have hlx : ∀ p ∈ led, p.1 ≠ x := fun p hp => Nat.ne_of_lt (Nat.lt_trans (l1 p hp) l2)
  clear N₂
  repeat' walk1
  refine iter_it (N₃.get (.tail _ (.tail _ (.tail _ hi)))) hc ?_
  repeat' walk1
  rename_i h₂ F₃ N₄
  refine ⟨rfl, ?_⟩
  have hne : ∀ p ∈ ((x, ffObj dx it fn) :: (dx, dictOf [] 0) :: led), p.1 ≠ L := fun p hp => by
    refine mem_elim hp ?_ fun hp => ?_
    · exact hxL
    refine mem_elim hp ?_ fun hp => ?_
    · exact hdL
    · exact (N p hp).2.1
  obtain ⟨a, b⟩ := leave_news F.above nsL F₃ (news_tor N₄) hne
  exact k _ _ _ _ a b l1 l2
theorem iter_ff {w : World} {A : Around} {E : Value → Shared → Prop} {s : Shared} {mean : ExcName → Option Value} {loose : List Str} {mg mb : Str → Option Value} {x dx it fn L : Addr} {Q : Value → Shared → Prop} {g : Heap} {m : Str → Option Value}
   {led : List (Addr × Obj)} (X : (Mine.hd.heap_39 w.params).In g) (T : Top topProg loose mean mg mb g) (hroom : A.depth < 500) (F : Fr g L s.heap m) (N : News g L s.heap ((x, ffObj dx it fn) :: (dx, dictOf [] 0) :: led))
   (k : ∀ h' tk, Fr g L h' m → News g L h' ((x, ffObj dx it fn) :: (dx, dictOf [] 0) :: led) → (∀ b o, s.heap.get? b = some o → h'.get? b = some o) → Q (.ref x) { s with heap := h', toks := tk }) :
   wpAny (model PySem.Challenge.rw_dz0055_01.row.prog w) A (pyIter (.ref x)) Q E s := by
  revert X
  k_fill
  intro X
  have I : InstAt s.heap x (ffObj dx it fn) 47 (some (dictOf [] 0)) := InstAt.of_news N (.head _) (.tail _ (.head _))
  refine owit_iter (f := 36) F X I (by k_is) (by k_is) (wpAny_call ?_)
  have X' : ((Mine.hd.heap_39 w.params)).In s.heap := fun a o e => F.keep a o (X a o e)
  refine codeAny_call_def (by show A.depth < 1000; omega) (X' _ _ (by k_is)) rfl (T.nolimit.keeps F.keep) (codeRec_of X' (by k_is)) rfl (.of_eq rfl) (by decide) (locs rfl) (fun h₁ hns keep => ?_)
  have F₁ : Fr g L h₁ m := ⟨F.ns.keeps keep, fun b o e => keep _ _ (F.keep b o e), F.above⟩
  have N₁ : News g L h₁ ((x, ffObj dx it fn) :: (dx, dictOf [] 0) :: led) := fun p hp => ⟨keep _ _ (N p hp).1, (N p hp).2⟩
  have F₂ : Fr g s.heap.objs.size h₁ _ := ⟨hns, fun b o hb => keep _ _ (F.keep _ _ hb), Nat.le_trans F.above (Nat.le_of_lt F.ns.lt)⟩
  repeat' walk1
  exact k _ _ F₁ N₁ keep
end Mine
end
section
open PySem PySem.W PyProof.Rows PySem.Calls PySem.W.X
set_option Elab.async false
set_option maxRecDepth 100000
namespace Mine
section
variable {prog : Program} {w : World} {A : Around} {s : Shared}
theorem call_gen {R : Result → Shared → Prop} {a : Addr} {o : Obj} {fd : FuncData} {body : List Stmt} {args : Args} {binds : List (Str × Value)}
    (hroom : A.depth < recursionLimit) (ho : s.heap.get? a = some o) (hdata : o.data = .func fd) (hlim : s.heap.NoLimit) (hcd : s.heap.CodeRec fd.code fd.qualname)
    (hbody : fd.body = .stmts body) (hbind : BindsTo s fd args binds)
    (hcell : ∀ x ∈ fd.scope.names, x.2 ≠ .cell) (hloc : ∀ x ∈ binds, fd.scope.names.lookup x.1 = some .local)
    (h : ∀ (h₀ : Heap) (tk : Nat) (n₀ n₁ : Value), h₀.Ns s.heap.objs.size (fun x => binds.reverse.lookup x) → (∀ b o, s.heap.get? b = some o → h₀.get? b = some o) →
      R (.ok (.ret (.ref h₀.objs.size))) { s with heap := h₀.push { cls := .type "generator", data := .fields #[.int s.gens.size 0, n₀, n₁] }, gens := s.gens.push (.fresh (.func body (callEnv fd s.heap.objs.size a))), toks := tk })
    (hco : fd.scope.isCoroutine = false) (hgen : fd.scope.isGenerator = true) (hk : fd.scope.kind = .function) :
    codeAny (model prog w) A (.call (.ref a) args) R s := by
  refine codeAny_call_generator hroom ho hdata hco hgen hbody hcd (hbind _ _ _ _ ?_)
  refine wpAny_newFunctionEnv hcell hloc (fun h₀ hns₀ hsb₀ => ⟨hlim.fresh _ hsb₀, ?_⟩) hk
  exact h h₀ _ _ _ hns₀ fun b o e => hsb₀.extBut b o (Nat.ne_of_lt (Heap.lt_size e)) (Heap.get?_push_of_some _ e)
end
noncomputable def Wakes (prog : Program) (w : World) (gs : GenState) (A : Around) (s : Shared) (P : End → Shared → Prop) : Prop :=
  match gs with
  | .fresh c => SegX (model prog w) A c (denote table c) [] s P
  | .suspended k _ c _ fs _ => SegX (model prog w) A c (k (.send .none)) fs s P
  | _ => False
noncomputable def genObj (n : Nat) (n₀ n₁ : Value) : Obj := { cls := .type "generator", data := .fields #[.int n 0, n₀, n₁] }
section
variable {prog : Program} {w : World} {A : Around} {c : Code} {fs : List Frame} {P : End → Shared → Prop} {s : Shared} {env : Env}
theorem sx_block_nil {k : Result → Sem Fin} {g : Bool} {l : List Value} {c₁ : Code} {p₁ : Pos} (h : SegX (model prog w) A c₁ (k (.ok .next)) fs s P) :
    SegX (model prog w) A (.block [] env) (denote table (.block [] env)) (.ret k none g l c₁ p₁ [] :: fs) s P := by
  refine s_pop prog w A _ fs P s (.ok .next) _ rfl k none g l c₁ p₁ [] h
end
/-- what the generator has found seen, from i up to j -/
noncomputable def Seen (ks : List (Option NK)) (S : NK → Bool) (i j : Nat) : Prop := ∀ m, i ≤ m → m < j → ∃ k', ks[m]? = some (some k') ∧ S k' = true
open Classical in
inductive Post1 (g : Heap) (it l : Addr) (xs : Array Value) (ks : List (Option NK)) (Lv : (NK → Bool) → List (Addr × Obj) → GenState → Prop) (S : NK → Bool) (fs : List Addr) (rest : List (Addr × Obj)) (i : Nat) (o : Obj) (mk : Heap → Nat → Shared) (e : End) (s' : Shared) : Prop
  | told : ∀ h' tk j v k own' S', s' = mk h' tk → o = itObj l i → i ≤ j → xs[j]? = some v → ks[j]? = some (some k) → S k = false → Seen ks S i j → e.result = .yielded v → (∀ k', S' k' = (S k' || decide (k' = k))) → Lv S' own' e.genState →
      (∀ p ∈ own', it ≠ p.1 ∧ g.get? p.1 = none ∧ ∀ q ∈ rest, p.1 ≠ q.1) → Aft g ((it, itObj l (j + 1)) :: (own' ++ rest)) h' → Post1 g it l xs ks Lv S fs rest i o mk e s'
  | err : ∀ h' tk j h₁ e₀, s' = mk h' tk → o = itObj l i → i ≤ j → ks[j]? = some none → Seen ks S i j → e = .ret (.error (.ref e₀)) → Aft g ((it, itObj l (j + 1)) :: rest) h₁ → Thrown h₁ fs e₀ "TypeError" .none h' → Post1 g it l xs ks Lv S fs rest i o mk e s'
  | stop : ∀ h' tk j h₁, s' = mk h' tk → (o = itEnd i ∧ j = i ∨ o = itObj l i ∧ xs[j]? = none ∧ Seen ks S i j) → e = .ret (.ok (.ret .none)) → Aft g ((it, itEnd j) :: rest) h₁ → Slid fs h₁ h' → Post1 g it l xs ks Lv S fs rest i o mk e s'
/-- a generator over the row that lives: what it does each time that it is woken -/
noncomputable def Live1 (prog : Program) (w : World) (g : Heap) (it l : Addr) (xs : Array Value) (ks : List (Option NK)) : Nat → (NK → Bool) → List (Addr × Obj) → GenState → Prop
  | 0, _, _, _ => True
  | r + 1, S, own, gs => ∀ (A : Around) (s : Shared) (fs : List Addr) (rest : List (Addr × Obj)) (i : Nat) (o : Obj),
    A.depth < 400 → A.units < 4000 → Site A g fs ((it, o) :: (own ++ rest)) s.heap → (o = itEnd i ∨ o = itObj l i) → (∀ p ∈ own ++ rest, it ≠ p.1) → (∀ p ∈ own, ∀ q ∈ rest, p.1 ≠ q.1) →
    (∀ a ∈ fs, ∃ ob, (a, ob) ∈ rest ∧ ∀ vs, ob.data ≠ .fields vs) →
    Wakes prog w gs A s (Post1 g it l xs ks (Live1 prog w g it l xs ks r) S fs rest i o fun h tk => { s with heap := h, toks := tk })
theorem use_loop {M : Model} {A : Around} {c : Code} {t : Sem Fin} {fs : List Frame} {s : Shared} {P : End → Shared → Prop} (C : Code → List Frame → Prop) (h1 : C c fs) (h2 : C c fs → SegX M A c t fs s P) : SegX M A c t fs s P := h2 h1
theorem over_loop {A : Around} {env : Env} {tg : PySem.Expr} {iv : Value} {b o body : List Stmt} {k : Result → Sem Fin} {gd : Bool} {l : List Value} {p : Pos} :
    A.over (.forLoop tg iv b o env) [.ret k none gd l (.func body env) p []] = ⟨A.handled, A.depth + 1, A.frames.map (env :: ·), A.guards, A.units + 3⟩ := by
  obtain ⟨a, b, c, d, e⟩ := A
  cases c <;> cases d <;> rfl
theorem over_func {A : Around} {env : Env} {body : List Stmt} : A.over (.func body env) [] = ⟨A.handled, A.depth + 1, A.frames.map (env :: ·), A.guards, A.units + 3⟩ := by
  obtain ⟨a, b, c, d, e⟩ := A
  cases c <;> cases d <;> rfl
theorem news_put {g h h' : Heap} {L a : Addr} {o o' : Obj} {pre post : List (Addr × Obj)} (N : News g L h (pre ++ (a, o) :: post)) (ho : h'.get? a = some o') (sb : Heap.SameBut a h h') (ne : ∀ p ∈ pre ++ post, p.1 ≠ a) : News g L h' (pre ++ (a, o') :: post) := fun p hp => by
  rcases List.mem_append.mp hp with hp | hp
  · exact ⟨(sb.2 _ (ne p (List.mem_append_left _ hp))).trans (N p (List.mem_append_left _ hp)).1, (N p (List.mem_append_left _ hp)).2⟩
  refine mem_elim hp ?_ fun hp => ?_
  · exact ⟨ho, (N (a, o) (List.mem_append_right _ (.head _))).2⟩
  · exact ⟨(sb.2 _ (ne p (List.mem_append_right _ hp))).trans (N p (List.mem_append_right _ (.tail _ hp))).1, (N p (List.mem_append_right _ (.tail _ hp))).2⟩
theorem slid_hide {h h' : Heap} {L : Addr} {fs : List Addr} (T : Slid (L :: fs) h h') : Slid fs (hideAll h [L]) h' := by
  refine ⟨fun b o hb hn => T.1 b o (of_hideAll _ hb) fun m => ?_, fun b o hb => T.2 b o (of_hideAll _ hb)⟩
  rcases List.mem_cons.mp m with rfl | m
  · rw [hideAll_none _ (.head _)] at hb; cases hb
  · exact hn m
noncomputable abbrev m5 (vi : Option Value) (ba sa it : Addr) : Str → Option Value := fun y => if y = Str.ofString "element" then vi else if y = Str.ofString "seen_add" then some (.ref ba) else if y = Str.ofString "seen" then some (.ref sa) else
  if y = Str.ofString "iterable" then some (.ref it) else if y = Str.ofString "key" then some .none else none
noncomputable def Turn1 (prog : Program) (w : World) (g : Heap) (it l : Addr) (xs : Array Value) (ks : List (Option NK)) (x dx fn sa ba Lg : Addr) (r : Nat) (c : Code) (fr : List Frame) : Prop :=
  ∀ (S : NK → Bool) (n : Nat) (es : Array (Int × Value)) (ep : Nat) (t : SetTable) (vi : Option Value) (A : Around) (s : Shared) (fs : List Addr) (rest : List (Addr × Obj)) (i : Nat) (o : Obj),
    SetIs prog w g es t S n → n + r ≤ 60 → A.depth < 400 → A.units < 4000 → Fr g Lg s.heap (m5 vi ba sa it) →
    News g Lg s.heap ((it, o) :: (x, ffObj dx it fn) :: (dx, dictOf [] 0) :: (fn, boundObj "set.__contains__" sa) :: (sa, setObj es ep t) :: (ba, boundObj "set.add" sa) :: rest) →
    (o = itEnd i ∨ o = itObj l i) → (∀ a ∈ [it, x, dx, fn, sa, ba, Lg], ∀ q ∈ rest, a ≠ q.1) →
    (∃ outer, A.frames = some outer ∧ ∀ x ∈ outer, FrOk fs x) → A.handled = none → (∀ a ∈ fs, ∃ ob, (a, ob) ∈ rest ∧ ∀ vs, ob.data ≠ .fields vs) →
    SegX (model prog w) A c (denote table c) fr s (Post1 g it l xs ks (Live1 prog w g it l xs ks r) S fs rest i o fun h tk => { s with heap := h, toks := tk })
theorem turn_rec {T : Nat → Prop} (h : ∀ r, (∀ r', r = r' + 1 → T r') → T r) : ∀ r, T r
  | 0 => h 0 fun _ e => by cases e
  | r + 1 => h (r + 1) fun r' e => by cases e; exact turn_rec h r
theorem apart_of {g h : Heap} {L a b : Addr} {o o' : Obj} {led : List (Addr × Obj)} (N : News g L h led) (h1 : (a, o) ∈ led) (h2 : (b, o') ∈ led) (ne : o ≠ o') : a ≠ b := fun e => by
  have x := (N _ h1).1
  have y := (N _ h2).1
  dsimp only at x y
  rw [e, y] at x
  exact ne (Option.some.inj x).symm
theorem allLt_mem {d : Addr} : ∀ {l : List (Addr × Obj)}, AllLt d l → ∀ p ∈ l, p.1 < d
  | [], _, _, hp => nomatch hp
  | _ :: _, h, _, .head _ => h.1
  | _ :: _, h, _, .tail _ hp => allLt_mem h.2 _ hp
theorem mem_insA {α : Type} {a p : α} {pre post : List α} (h : p ∈ pre ++ post) : p ∈ pre ++ a :: post := by
  rcases List.mem_append.mp h with h | h
  · exact List.mem_append_left _ h
  · exact List.mem_append_right _ (.tail _ h)
theorem news_aft {g h h' : Heap} {L a : Addr} {o o' : Obj} {led : List (Addr × Obj)} (N : News g L h ((a, o) :: led)) (Af : ∀ p ∈ ((a, o') :: led), h'.get? p.1 = some p.2) : News g L h' ((a, o') :: led) := fun p hp => by
  refine ⟨Af p hp, ?_⟩
  refine mem_elim hp ?_ fun hp => ?_
  · exact (N _ (.head _)).2
  · exact (N p (.tail _ hp)).2
section
variable {prog : Program} {w : World} {A : Around} {P : End → Shared → Prop} {s : Shared} {env : Env}
theorem lot_goes {A : Around} {E : Value → Shared → Prop} {v : Value} {Q : Unit → Shared → Prop} (h : Q () s) : wpAny (model prog w) A (theTreesLotGoes v) Q E s := by
  unfold theTreesLotGoes
  refine wpAny_bind (wpAny_stack_any fun st => ?_)
  refine wpAny_bind (wpAny_standAt ?_)
  refine wpAny_bind (wpAny_holding (wpAny_point ?_))
  exact wpAny_standAt h
theorem not_lone {A : Around} {E : Value → Shared → Prop} {h : Heap} {fs : List Addr} {e : Addr} {cls : String} {fl : Value} {Q : Unit → Shared → Prop} {fr : Option Addr} (T : Thrown h fs e cls fl s.heap)
   (k : ∀ h', Thrown h fs e cls (fr.elim .none fun x => rawInt x) h' → Q () { s with heap := h' }) :
   wpAny (model prog w) A (do
        if (← field (.ref e) 1) == Value.none then unsupported "frame.own-activation:exception-without-traceback"
        setFlight (.ref e) fr) Q E s := by
  have T₀ := T
  obtain ⟨sl, f, hen, oe, vs, T, oT, ts, he, hc, hd, h1, _⟩ := T
  refine wpAny_bind (wpAny_field he hd h1 ?_)
  rw [if_neg (show ¬ ((Value.ref T == Value.none) = true) from Bool.false_ne_true)]
  exact flight_on T₀ k
/-- an error leaves a for statement of a generator, and the generator -/
theorem gen_raise {tg : PySem.Expr} {iv : Value} {b ob body : List Stmt} {K : Flow → Sem Fin} {gd : Bool} {gf : Bool → Bool} {lv : List Value → List Value} {l : List Value} {p : Pos} {h : Heap} {fs : List Addr} {e Lg : Addr} {cls : String} {outer : List Env}
   (hfr : A.frames = some outer) (hl : ∀ x ∈ env :: outer, FrOk fs x) (hf : env.frame = some Lg) (T : (∃ fl, Thrown h fs e cls fl s.heap) ∨ Made h fs e cls s.heap)
   (k : ∀ h', Thrown h fs e cls .none h' → P (.ret (.error (.ref e))) { s with heap := h' }) :
   SegX (model prog w) A (.forLoop tg iv b ob env) ((do noteFrame (.ref e) env; theTreesLotGoes (.ref e) : Sem Unit).wrap (fun _ => .raise (.ref e)) .raise id id)
     [.ret (fun r => ((match r with | .ok f => (.pure f : Sem Flow) | .error e => .raise e).onRaise fun (x : Value) => do
        if (← field x 1) == Value.none then unsupported "frame.own-activation:exception-without-traceback"
        setFlight x env.frame).wrap K (fun e => (leaving env e).wrap (fun _ => .raise e) .raise id id) gf lv) none gd l (.func body env) p []] s P := by
  have fr1 : ∀ {gd : Bool} {k : Result → Sem Fin}, (A.over (.forLoop tg iv b ob env) [.ret k none gd l (.func body env) p []]).frames = some (env :: outer) := by intro gd k; rw [over_loop, hfr]; rfl
  have fr2 : (A.over (.func body env) []).frames = some (env :: outer) := by rw [over_func, hfr]; rfl
  have nt : ∀ {A : Around} {E : Value → Shared → Prop} {Q : Unit → Shared → Prop}, A.frames = some (env :: outer) → (∀ h', Thrown h fs e cls (rawInt Lg) h' → Q () { s with heap := h' }) → wpAny (model prog w) A (noteFrame (.ref e) env) Q E s := fun hA k => by
    rcases T with ⟨fl, T⟩ | T
    · exact note_on hA hl hf T k
    · exact note_made hA hl hf T k
  refine sx_wrap (wpAny_bind (nt fr1 fun h₁ T₁ => lot_goes ?_))
  refine s_pop prog w A _ [] P _ (.error (.ref e)) _ rfl _ none gd l _ p [] ?_
  show SegX _ A _ (((do
        if (← field (.ref e) 1) == Value.none then unsupported "frame.own-activation:exception-without-traceback"
        setFlight (.ref e) env.frame : Sem Unit).bind fun _ => (.raise (.ref e) : Sem Flow)).wrap K _ gf lv) [] _ P
  rw [Sem.bind_eq_wrap, Sem.wrap_wrap]
  refine sx_wrap (not_lone (s := { s with heap := h₁ }) T₁ fun h₂ T₂ => ?_)
  show SegX _ A _ ((leaving env (.ref e)).wrap (fun _ => .raise (.ref e)) .raise id id) [] _ P
  refine sx_wrap (leave_on (s := { s with heap := h₂ }) fr2 hl hf T₂ fun h₃ T₃ => ?_)
  exact s_end prog w A _ P _ (.error (.ref e)) _ rfl (k h₃ T₃)
end
end Mine
end
section
set_option Elab.async false
local macro_rules | `(tactic| walk_at "idle") => `(tactic| skip)
theorem Mine.off_U1 : True ∧ True := by
  w_top off
  first | walk1 | skip
  all_goals (first | trivial | exact ⟨trivial, trivial⟩)
end
section
open PySem PySem.W PyProof.Rows PySem.Calls PySem.W.X
set_option Elab.async false
set_option maxRecDepth 100000
set_option maxHeartbeats 1000000
set_option pp.deepTerms false
set_option pp.deepTerms.threshold 5
namespace Mine
local macro_rules | `(tactic| walk_at "call ref") => `(tactic| (k_here; with_reducible refine hold_call 47 ?_))
theorem ue1 {w : World} {A : Around} {s : Shared} {mean : ExcName → Option Value} {loose : List Str} {mg mb : Str → Option Value} {it l : Addr} {R : Result → Shared → Prop} {g : Heap}
   {fs : List Addr} {led : List (Addr × Obj)} {o : Obj} {xs : Array Value} {ks : List (Option NK)} {i : Nat}
   (X : (Mine.hd.heap_39 w.params).In g) (T : Top topProg loose mean mg mb g) (hroom : A.depth < 500) (hu : A.units < 5000)
   (C : Site A g fs ((it, o) :: led) s.heap)
   (hl : g.IsList l xs) (hks : ∀ (j : Nat) (v : Value), xs[j]? = some v → ∃ q, ks[j]? = some q ∧ ThingIs PySem.Challenge.rw_dz0055_01.row.prog w g q v)
   (ho : o = itEnd i ∨ o = itObj l i)
   (k : ∀ (h' : Heap) (tk : Nat) (G Lg : Addr) og gs n₀ n₁, Aft g ((G, genObj s.gens.size n₀ n₁) :: (Lg, og) :: (it, o) :: led) h' → g.get? G = none → g.get? Lg = none → (∀ p ∈ ((it, o) :: led), p.1 < Lg) → Lg < G →
      Live1 PySem.Challenge.rw_dz0055_01.row.prog w g it l xs ks 60 (fun _ => false) [(Lg, og)] gs → R (.ok (.ret (.ref G))) { s with heap := h', gens := s.gens.push gs, toks := tk }) :
   codeAny (model PySem.Challenge.rw_dz0055_01.row.prog w) A (.call (.ref 59) ⟨[.ref it], []⟩) R s := by
  revert X
  k_fill
  intro X
  have X' : ((Mine.hd.heap_39 w.params)).In s.heap := fun a o e => C.stay a o (X a o e)
  refine call_gen (hco := by rfl) (hgen := by rfl) (hk := by rfl) (by show A.depth < 1000; omega) (X' _ _ (by k_is)) rfl (T.nolimit.keeps C.stay) (codeRec_of X' (by k_is)) rfl (.of_defaults rfl (X' 52 _ (by k_is)) rfl rfl rfl) (by decide) (locs rfl) (fun h₁ tk n₀ n₁ hns keep => ?_)
  have hlt := hns.lt
  obtain ⟨og, hog, hnsL⟩ : ∃ og, h₁.get? s.heap.objs.size = some og ∧ ∀ h' : Heap, h'.get? s.heap.objs.size = some og → h'.Ns s.heap.objs.size (m3 "iterable" "key" "seen" (some (.ref it)) (some .none) none) := by
    obtain ⟨og, es, ep, ho, h1, h2, h3⟩ := hns
    refine ⟨og, ho, fun h' e => ⟨og, es, ep, e, h1, h2, fun y => (h3 y).trans ?_⟩⟩
    show List.lookup y [(Str.ofString "key", Value.none), (Str.ofString "iterable", Value.ref it)] = _
    by_cases e1 : y = Str.ofString "key"
    · subst e1; rfl
    by_cases e2 : y = Str.ofString "iterable"
    · subst e2; rfl
    have e1' : (y == Str.ofString "key") = false := by rw [beq_eq_false_iff_ne]; exact e1
    have e2' : (y == Str.ofString "iterable") = false := by rw [beq_eq_false_iff_ne]; exact e2
    simp [m3, e1, e2, List.lookup, e1', e2']
  obtain ⟨hf1, hf2, hf3⟩ := C.fresh
  have kk := fun b o (e : s.heap.get? b = some o) => Heap.get?_push_of_some (genObj s.gens.size n₀ n₁) (keep b o e)
  refine k _ tk h₁.objs.size s.heap.objs.size og _ n₀ n₁ ⟨fun b o e => kk _ _ (C.stay _ _ e), fun p hp => ?_⟩ ?_ hf2 (fun p hp => Heap.lt_size (C.has p hp).1) hlt ?_
  · refine mem_elim hp ?_ fun hp => ?_
    · exact Heap.get?_push_size h₁ rfl
    refine mem_elim hp ?_ fun hp => ?_
    · exact Heap.get?_push_of_some _ hog
    · exact kk _ _ (C.has p hp).1
  · cases q : g.get? h₁.objs.size with
    | none => rfl
    | some o => exact absurd (Heap.lt_size (keep _ _ (C.stay _ _ q))) (Nat.lt_irrefl _)
  intro A s₂ fs₂ rest i₂ o₂ hd₂ hu₂ C₂ ho₂ hit hor hfr
  unfold Wakes
  refine sx_func ?_
  have F : Fr g s.heap.objs.size s₂.heap _ := ⟨hnsL _ (C₂.has _ (.tail _ (.head _))).1, C₂.stay, C.size⟩
  have N : News g s.heap.objs.size s₂.heap ((it, o₂) :: rest) := fun p hp => by
    refine mem_elim hp ?_ fun hp => ?_
    · exact ⟨(C₂.has _ (.head _)).1, hit _ (.head _), (C₂.has _ (.head _)).2⟩
    · exact ⟨(C₂.has p (.tail _ (.tail _ hp))).1, (hor _ (.head _) p hp).symm, (C₂.has p (.tail _ (.tail _ hp))).2⟩
  refine sx_execs_cons ?_
  refine sx_stmt ?_
  repeat' walk1
  rename_i sa h₂ lb hs1 hz1 lt1 h₃ F N
  refine sx_execs_cons ?_
  refine sx_stmt ?_
  repeat' walk1
  refine attr_set_add (N.get (.head _)) fun ba h₄ k1 k2 k3 => ?_
  obtain ⟨F', N', nba⟩ := news_new F N k1 k2 k3
  clear F N
  repeat' walk1
  rename_i h₅ F N
  refine sx_execs_cons ?_
  refine sx_If ?_
  repeat' walk1
  refine sx_execs_cons ?_
  refine sx_For (hf := by intro x; rfl) ?_
  repeat' walk1
  refine attr_set_contains (N.get (.tail _ (.head _))) fun fn h₆ k1 k2 k3 => ?_
  obtain ⟨F', N', nfn⟩ := news_new F N k1 k2 k3
  clear F N
  repeat' walk1
  have hic : o₂.cls = .type "list_iterator" := by rcases ho₂ with rfl | rfl <;> rfl
  refine make_ff X T (by rw [over_func]; show A.depth + 1 < 500; omega) F' N' (.tail _ (.tail _ (.tail _ (.head _)))) hic fun x dx h₇ tk₇ F N l1 l2 => ?_
  repeat' walk1
  refine iter_ff X T (by rw [over_func]; show A.depth + 1 < 500; omega) F N fun h₈ tk₈ F N k4 => ?_
  intro p
  refine use_loop (fun c fr => ∀ r, Turn1 PySem.Challenge.rw_dz0055_01.row.prog w g it l xs ks x dx fn sa ba s.heap.objs.size r c fr) ?_ fun H => ?_
  · clear F' N' F N k4 l1 l2 nfn nba k1 k2 k3 hs1 hz1 lt1 hit hor hfr ho₂ C₂ hd₂ hu₂ hic
    refine turn_rec fun r IH => ?_
    intro S n es ep t vi A s₂ fs rest i o I hn hd hu F N ho hap hst hh hfr
    refine sx_forLoop ?_
    have Ix : InstAt s₂.heap x (ffObj dx it fn) 47 (some (dictOf [] 0)) := InstAt.of_news N (.tail _ (.head _)) (.tail _ (.tail _ (.head _)))
    refine owit_next (f := 43) F X Ix (by k_is) (by k_is) (wpAny_call ?_)
    obtain ⟨ob, es₀, ep₀, hob, hdat, hrest⟩ := F.ns
    have hLob : s₂.heap.get? s.heap.objs.size = some ob := hob
    have hLap : ∀ p ∈ ((it, o) :: (x, ffObj dx it fn) :: (dx, dictOf [] 0) :: (fn, boundObj "set.__contains__" sa) :: (sa, setObj es ep t) :: (ba, boundObj "set.add" sa) :: rest), p.1 ≠ s.heap.objs.size := fun p hp => (N p hp).2.1
    have oit : o ≠ ffObj dx it fn ∧ o ≠ dictOf [] 0 ∧ o ≠ boundObj "set.__contains__" sa ∧ o ≠ setObj es ep t ∧ o ≠ boundObj "set.add" sa := by
      rcases ho with rfl | rfl <;> refine ⟨?_, ?_, ?_, ?_, ?_⟩ <;> (intro z; have z' := congrArg Obj.cls z; simp [itEnd, itObj, setObj] at z')
    have e1 := apart_of N (.head _) (.tail _ (.head _)) oit.1
    have e2 := apart_of N (.head _) (.tail _ (.tail _ (.head _))) oit.2.1
    have e3 := apart_of N (.head _) (.tail _ (.tail _ (.tail _ (.head _)))) oit.2.2.1
    have e4 := apart_of N (.head _) (.tail _ (.tail _ (.tail _ (.tail _ (.head _))))) oit.2.2.2.1
    have e5 := apart_of N (.head _) (.tail _ (.tail _ (.tail _ (.tail _ (.tail _ (.head _)))))) oit.2.2.2.2
    have e6 : it ≠ s.heap.objs.size := hLap _ (.head _)
    obtain ⟨outer, hst1, hst2⟩ := hst
    have CC : ∀ {env : Env}, env.scope.kind ≠ .module → env.frame = some s.heap.objs.size → Site ⟨A.handled, A.depth + 1, A.frames.map (env :: ·), A.guards, A.units + 3⟩ g (s.heap.objs.size :: fs) ((it, o) :: (x, ffObj dx it fn) :: (dx, dictOf [] 0) :: (fn, boundObj "set.__contains__" sa) :: (sa, setObj es ep t) :: (ba, boundObj "set.add" sa) :: (s.heap.objs.size, ob) :: rest) s₂.heap := by
      intro env hk hf
      refine ⟨F.keep, Nat.le_trans F.above (Nat.le_of_lt F.ns.lt), fun p hp => ?_, fun a ha => ?_, ⟨env :: outer, by rw [hst1]; rfl, deep_ok hst2 hk hf⟩, hh⟩
      · refine mem_elim hp ?_ fun hp => ?_
        · exact ⟨(N _ (.head _)).1, (N _ (.head _)).2.2⟩
        have : p ∈ [(x, ffObj dx it fn), (dx, dictOf [] 0), (fn, boundObj "set.__contains__" sa), (sa, setObj es ep t), (ba, boundObj "set.add" sa)] ++ (s.heap.objs.size, ob) :: rest := hp
        rcases List.mem_append.mp this with hp | hp
        · have hp' := N p (.tail _ (List.mem_append_left rest hp))
          exact ⟨hp'.1, hp'.2.2⟩
        refine mem_elim hp ?_ fun hp => ?_
        · exact ⟨hLob, hf2⟩
        · have hp' := N p (.tail _ (List.mem_append_right [(x, ffObj dx it fn), (dx, dictOf [] 0), (fn, boundObj "set.__contains__" sa), (sa, setObj es ep t), (ba, boundObj "set.add" sa)] hp))
          exact ⟨hp'.1, hp'.2.2⟩
      · refine mem_elim ha ?_ fun ha => ?_
        · exact ⟨ob, List.mem_append_right [(it, o), (x, ffObj dx it fn), (dx, dictOf [] 0), (fn, boundObj "set.__contains__" sa), (sa, setObj es ep t), (ba, boundObj "set.add" sa)] (.head _), fun vs q => by rw [hdat] at q; cases q⟩
        · obtain ⟨oa, h1, h2⟩ := hfr a ha
          exact ⟨oa, List.mem_append_right [(it, o), (x, ffObj dx it fn), (dx, dictOf [] 0), (fn, boundObj "set.__contains__" sa), (sa, setObj es ep t), (ba, boundObj "set.add" sa)] (.tail _ h1), h2⟩
    have rest_aft : ∀ {o' : Obj} {h : Heap}, Aft g ((it, o') :: (x, ffObj dx it fn) :: (dx, dictOf [] 0) :: (fn, boundObj "set.__contains__" sa) :: (sa, setObj es ep t) :: (ba, boundObj "set.add" sa) :: (s.heap.objs.size, ob) :: rest) h → Aft g ((it, o') :: rest) h := fun Af =>
      ⟨Af.stay, fun p hp => by
        refine mem_elim hp ?_ fun hp => ?_
        · exact Af.has _ (.head _)
        · exact Af.has p (List.mem_append_right [(it, _), (x, ffObj dx it fn), (dx, dictOf [] 0), (fn, boundObj "set.__contains__" sa), (sa, setObj es ep t), (ba, boundObj "set.add" sa), (s.heap.objs.size, ob)] hp)⟩
    have hLfs : s.heap.objs.size ∉ fs := fun m => by
      obtain ⟨oa, h1, _⟩ := hfr _ m
      exact hap _ (by first | exact inl0 | exact inl1 | exact inl2 | exact inl3 | exact inl4 | exact inl5 | exact inl6 | exact inl7) _ h1 rfl
    have hAl : ∀ {o' : Obj}, ∀ p ∈ ((it, o') :: rest), p.1 ≠ s.heap.objs.size := fun p hp => by
      refine mem_elim hp ?_ fun hp => ?_
      · exact e6
      · exact (hap _ (by first | exact inl0 | exact inl1 | exact inl2 | exact inl3 | exact inl4 | exact inl5 | exact inl6 | exact inl7) p hp).symm
    refine ff_next X T (by rw [over_loop]; show A.depth + 1 < 500; omega) (by rw [over_loop]; show A.units + 3 < 5000; omega) (fs := s.heap.objs.size :: fs) (led := (ba, boundObj "set.add" sa) :: (s.heap.objs.size, ob) :: rest) (by rw [over_loop]; exact CC (fun z => nomatch z) rfl) hl hks I ?_ ho ?_ ?_ ?_
    · refine ⟨e1, e2, e3, e4, fun p hp => ?_⟩
      refine mem_elim hp ?_ fun hp => ?_
      · exact e5
      refine mem_elim hp ?_ fun hp => ?_
      · exact e6
      · exact hap _ (.head _) p hp
    · intro j v kk h' tk e hij hx hk hS hseen Af
      dsimp only
      have F₁ : Fr g s.heap.objs.size h' (m5 vi ba sa it) := ⟨⟨ob, es₀, ep₀, Af.has _ (List.mem_append_right [(it, _), (x, ffObj dx it fn), (dx, dictOf [] 0), (fn, boundObj "set.__contains__" sa), (sa, setObj es ep t), (ba, boundObj "set.add" sa)] (.head _)), hdat, hrest⟩, Af.stay, F.above⟩
      have N₁ := news_aft N fun p hp => Af.has p (mem_insA (pre := [(it, itObj l (j + 1)), (x, ffObj dx it fn), (dx, dictOf [] 0), (fn, boundObj "set.__contains__" sa), (sa, setObj es ep t), (ba, boundObj "set.add" sa)]) hp)
      have y1 := (N _ (.tail _ (.head _))).2
      have y2 := (N _ (.tail _ (.tail _ (.head _)))).2
      have y3 := (N _ (.tail _ (.tail _ (.tail _ (.head _))))).2
      have y4 := (N _ (.tail _ (.tail _ (.tail _ (.tail _ (.head _)))))).2
      have y5 := (N _ (.tail _ (.tail _ (.tail _ (.tail _ (.tail _ (.head _))))))).2
      refine wpAny_pure ?_
      clear F N
      repeat' walk1
      rename_i h₂ F N
      refine sx_execs_cons ?_
      refine sx_stmt ?_
      repeat' walk1
      refine callWith_boundG (he := by rfl) (hplain := by rfl) (id := "set.add") (a := sa) ?_
      repeat' walk1
      · exact N.get (.tail _ (.tail _ (.tail _ (.tail _ (.tail _ (.head _))))))
      obtain ⟨q, hq, hv⟩ := hks j v hx
      rw [hk] at hq
      cases hq
      refine call_add (by rw [over_loop]; show A.units + 3 + 1 < 9900; omega) F.keep (N.get (.tail _ (.tail _ (.tail _ (.tail _ (.tail _ (.head _))))))) (N.get (.tail _ (.tail _ (.tail _ (.tail _ (.head _)))))) hv I hS (by omega) fun mm h₃ es' ep' t' q1 q2 q3 => ?_
      have d1 : ffObj dx it fn ≠ setObj es ep t := fun z => by have z' := congrArg Obj.cls z; simp [setObj] at z'
      have d2 : dictOf [] 0 ≠ setObj es ep t := fun z => by have z' := congrArg Obj.cls z; simp [setObj] at z'
      have d3 : boundObj "set.__contains__" sa ≠ setObj es ep t := fun z => by have z' := congrArg Obj.cls z; simp [setObj] at z'
      have d4 : boundObj "set.add" sa ≠ setObj es ep t := fun z => by have z' := congrArg Obj.cls z; simp [setObj] at z'
      have x1 := apart_of N (.tail _ (.head _)) (.tail _ (.tail _ (.tail _ (.tail _ (.head _))))) d1
      have x2 := apart_of N (.tail _ (.tail _ (.head _))) (.tail _ (.tail _ (.tail _ (.tail _ (.head _))))) d2
      have x3 := apart_of N (.tail _ (.tail _ (.tail _ (.head _)))) (.tail _ (.tail _ (.tail _ (.tail _ (.head _))))) d3
      have x4 := apart_of N (.tail _ (.tail _ (.tail _ (.tail _ (.tail _ (.head _)))))) (.tail _ (.tail _ (.tail _ (.tail _ (.head _))))) d4
      have hsa : ∀ p ∈ [(it, itObj l (j + 1)), (x, ffObj dx it fn), (dx, dictOf [] 0), (fn, boundObj "set.__contains__" sa)] ++ (ba, boundObj "set.add" sa) :: rest, p.1 ≠ sa := by
        intro p hp
        rcases List.mem_append.mp hp with hp | hp
        · refine mem_elim hp ?_ fun hp => mem_elim hp ?_ fun hp => mem_elim hp ?_ fun hp => mem_one hp ?_
          · exact e4
          · exact x1
          · exact x2
          · exact x3
        refine mem_elim hp ?_ fun hp => ?_
        · exact x4
        · exact (hap _ (by first | exact inl0 | exact inl1 | exact inl2 | exact inl3 | exact inl4 | exact inl5 | exact inl6 | exact inl7) p hp).symm
      have N₂ := news_put (pre := [(it, itObj l (j + 1)), (x, ffObj dx it fn), (dx, dictOf [] 0), (fn, boundObj "set.__contains__" sa)]) N q1 q2 hsa
      have F₂ := F.change q2 (N _ (.tail _ (.tail _ (.tail _ (.tail _ (.head _)))))).2.1 (N _ (.tail _ (.tail _ (.tail _ (.tail _ (.head _)))))).2.2
      clear F N
      repeat' walk1
      refine sx_execs_cons ?_
      refine sx_yield (hco := by rfl) (hi := by rfl) rfl rfl rfl ?_
      repeat' walk1
      rename_i kk' ll pp hk'
      have F₃ := fr_congr F₂ (m' := m5 (some v) ba sa it) (by
        intro y
        by_cases z : y = Str.ofString "element"
        · subst z; rfl
        · simp only [m5, if_neg z])
      obtain ⟨ob', es₂, ep₂, hob', hdat', hrest'⟩ := F₃.ns
      refine .told h₃ _ j v kk [(x, ffObj dx it fn), (dx, dictOf [] 0), (fn, boundObj "set.__contains__" sa), (sa, setObj es' ep' t'), (ba, boundObj "set.add" sa), (s.heap.objs.size, ob')] _ rfl e hij hx hk hS hseen rfl (fun k' => rfl) ?_ ?_ ?_
      · cases r with
        | zero => trivial
        | succ r' =>
          intro A' s₃ fs' rest' i' o' hd' hu' C' ho' hit' hor' hfr'
          show SegX _ A' _ (kk' (.send .none)) _ s₃ _
          refine hk' A' s₃ _ ?_
          refine s_again _ w A' _ _ _ s₃ (.forLoop _ _ _ _ _) rfl ?_
          have hL : s₃.heap.get? s.heap.objs.size = some ob' := (C'.has (s.heap.objs.size, ob') (.tail _ (List.mem_append_left rest' (by simp)))).1
          refine IH r' rfl _ (n + 1) es' ep' t' (some v) A' s₃ fs' rest' i' o' q3 (by omega) hd' hu' ⟨⟨ob', es₂, ep₂, hL, hdat', hrest'⟩, C'.stay, F₃.above⟩ (fun p hp => ?_) ho' (fun a ha q hq => ?_) C'.stack C'.handled hfr'
          · refine mem_elim hp ?_ fun hp => ?_
            · exact ⟨(C'.has _ (.head _)).1, e6, (C'.has _ (.head _)).2⟩
            have hp₂ : p ∈ [(x, ffObj dx it fn), (dx, dictOf [] 0), (fn, boundObj "set.__contains__" sa), (sa, setObj es' ep' t'), (ba, boundObj "set.add" sa)] ++ rest' := hp
            have hp₃ : p ∈ (it, o') :: ([(x, ffObj dx it fn), (dx, dictOf [] 0), (fn, boundObj "set.__contains__" sa), (sa, setObj es' ep' t'), (ba, boundObj "set.add" sa), (s.heap.objs.size, ob')] ++ rest') :=
              .tail _ (mem_insA (pre := [(x, ffObj dx it fn), (dx, dictOf [] 0), (fn, boundObj "set.__contains__" sa), (sa, setObj es' ep' t'), (ba, boundObj "set.add" sa)]) hp₂)
            refine ⟨(C'.has p hp₃).1, ?_, (C'.has p hp₃).2⟩
            rcases List.mem_append.mp hp₂ with hp | hp
            · refine mem_elim hp ?_ fun hp => mem_elim hp ?_ fun hp => mem_elim hp ?_ fun hp => mem_elim hp ?_ fun hp => mem_one hp ?_
              · exact y1.1
              · exact y2.1
              · exact y3.1
              · exact y4.1
              · exact y5.1
            · exact (hor' (s.heap.objs.size, ob') (by first | exact inl0 | exact inl1 | exact inl2 | exact inl3 | exact inl4 | exact inl5 | exact inl6 | exact inl7) p hp).symm
          · refine mem_elim ha ?_ fun ha => mem_elim ha ?_ fun ha => mem_elim ha ?_ fun ha => mem_elim ha ?_ fun ha => mem_elim ha ?_ fun ha => mem_elim ha ?_ fun ha => mem_one ha ?_
            · exact hit' q (List.mem_append_right _ hq)
            · exact hor' (_, ffObj dx it fn) (by first | exact inl0 | exact inl1 | exact inl2 | exact inl3 | exact inl4 | exact inl5 | exact inl6 | exact inl7) q hq
            · exact hor' (_, dictOf [] 0) (by first | exact inl0 | exact inl1 | exact inl2 | exact inl3 | exact inl4 | exact inl5 | exact inl6 | exact inl7) q hq
            · exact hor' (_, boundObj "set.__contains__" sa) (by first | exact inl0 | exact inl1 | exact inl2 | exact inl3 | exact inl4 | exact inl5 | exact inl6 | exact inl7) q hq
            · exact hor' (_, setObj es' ep' t') (by first | exact inl0 | exact inl1 | exact inl2 | exact inl3 | exact inl4 | exact inl5 | exact inl6 | exact inl7) q hq
            · exact hor' (_, boundObj "set.add" sa) (by first | exact inl0 | exact inl1 | exact inl2 | exact inl3 | exact inl4 | exact inl5 | exact inl6 | exact inl7) q hq
            · exact hor' (_, ob') (by first | exact inl0 | exact inl1 | exact inl2 | exact inl3 | exact inl4 | exact inl5 | exact inl6 | exact inl7) q hq
      · intro p hp
        refine mem_elim hp ?_ fun hp => mem_elim hp ?_ fun hp => mem_elim hp ?_ fun hp => mem_elim hp ?_ fun hp => mem_elim hp ?_ fun hp => mem_one hp ?_
        · exact ⟨e1, y1.2, hap _ (by first | exact inl0 | exact inl1 | exact inl2 | exact inl3 | exact inl4 | exact inl5 | exact inl6 | exact inl7)⟩
        · exact ⟨e2, y2.2, hap _ (by first | exact inl0 | exact inl1 | exact inl2 | exact inl3 | exact inl4 | exact inl5 | exact inl6 | exact inl7)⟩
        · exact ⟨e3, y3.2, hap _ (by first | exact inl0 | exact inl1 | exact inl2 | exact inl3 | exact inl4 | exact inl5 | exact inl6 | exact inl7)⟩
        · exact ⟨e4, y4.2, hap _ (by first | exact inl0 | exact inl1 | exact inl2 | exact inl3 | exact inl4 | exact inl5 | exact inl6 | exact inl7)⟩
        · exact ⟨e5, y5.2, hap _ (by first | exact inl0 | exact inl1 | exact inl2 | exact inl3 | exact inl4 | exact inl5 | exact inl6 | exact inl7)⟩
        · exact ⟨e6, hf2, hap _ (by first | exact inl0 | exact inl1 | exact inl2 | exact inl3 | exact inl4 | exact inl5 | exact inl6 | exact inl7)⟩
      · refine ⟨F₃.keep, fun p hp => ?_⟩
        refine mem_elim hp ?_ fun hp => ?_
        · exact (N₂ _ (.head _)).1
        rcases List.mem_append.mp hp with hp | hp
        · refine mem_elim hp ?_ fun hp => mem_elim hp ?_ fun hp => mem_elim hp ?_ fun hp => mem_elim hp ?_ fun hp => mem_elim hp ?_ fun hp => mem_one hp ?_
          · exact (N₂ _ (.tail _ (.head _))).1
          · exact (N₂ _ (.tail _ (.tail _ (.head _)))).1
          · exact (N₂ _ (.tail _ (.tail _ (.tail _ (.head _))))).1
          · exact (N₂ _ (.tail _ (.tail _ (.tail _ (.tail _ (.head _)))))).1
          · exact (N₂ _ (.tail _ (.tail _ (.tail _ (.tail _ (.tail _ (.head _))))))).1
          · exact hob'
        · exact (N₂ p (List.mem_append_right [(it, itObj l (j + 1)), (x, ffObj dx it fn), (dx, dictOf [] 0), (fn, boundObj "set.__contains__" sa)] (.tail _ (.tail _ hp)))).1
    · intro j h₁ h' e tk he hij hk hseen Af Th
      dsimp only
      refine wpAny_isInstance (T := "TypeError") (b := false) (Thrown.typeIs (s := { s₂ with heap := h', toks := tk }) Th) (by rw [isSubtype_type]; kernel_rfl) ?_
      rw [if_neg Bool.false_ne_true]
      refine gen_raise (s := { s₂ with heap := h', toks := tk }) hst1 (deep_ok hst2 (fun z => nomatch z) rfl) rfl (.inl ⟨_, Th⟩) fun h₃ T₃ => ?_
      exact .err h₃ tk j _ e rfl he hij hk hseen rfl ((rest_aft Af).hide hf2 hAl) (hide_thrown T₃ hLfs)
    · intro j h₁ h' e tk hR Af Th
      dsimp only
      refine wpAny_isInstance (T := "StopIteration") (b := true) (Thrown.typeIs (s := { s₂ with heap := h', toks := tk }) Th) isSubtype_stop ?_
      rw [if_pos rfl]
      refine sx_block_nil ?_
      refine s_end (model PySem.Challenge.rw_dz0055_01.row.prog w |>.prog) w A _ _ _ (.ok (.ret .none)) _ rfl ?_
      exact .stop h' tk j _ rfl hR rfl ((rest_aft Af).hide hf2 hAl) (slid_hide Th.slid)
  · have F₃ := fr_congr F (m' := m5 none ba sa it) (by
      intro y
      by_cases z1 : y = Str.ofString "seen_add"
      · subst z1; rfl
      by_cases z2 : y = Str.ofString "seen"
      · subst z2; rfl
      by_cases z3 : y = Str.ofString "element"
      · subst z3; rfl
      simp [m5, m3, z1, z2, z3])
    refine H 59 (fun _ => false) 0 #[] 0 (SetTable.fresh 0 0 lb) none A _ fs₂ rest i₂ o₂ ?_ (by omega) hd₂ hu₂ F₃ ?_ ho₂ ?_ C₂.stack C₂.handled hfr
    · exact ⟨tabOk_fresh 0 0 lb, (fun e he => nomatch he), fun k' => ⟨(fun z => nomatch z), (fun ⟨e, he, _⟩ => nomatch he)⟩, rfl⟩
    · intro p hp
      refine N p ?_
      refine mem_elim hp ?_ fun hp => ?_
      · simp
      refine mem_elim hp ?_ fun hp => ?_
      · simp
      refine mem_elim hp ?_ fun hp => ?_
      · simp
      refine mem_elim hp ?_ fun hp => ?_
      · simp
      refine mem_elim hp ?_ fun hp => ?_
      · exact .tail _ (.tail _ (.tail _ (.tail _ (.head _))))
      refine mem_elim hp ?_ fun hp => ?_
      · simp
      · exact .tail _ (.tail _ (.tail _ (.tail _ (.tail _ (.tail _ hp)))))
    · intro a ha q hq
      simp only [List.mem_cons, List.not_mem_nil, or_false] at ha
      have l1q := l1 q (.tail _ (.tail _ (.tail _ (.tail _ hq))))
      rcases ha with rfl | rfl | rfl | rfl | rfl | rfl | rfl
      · exact hit q (List.mem_append_right _ hq)
      · exact Nat.ne_of_gt (Nat.lt_trans l1q l2)
      · exact Nat.ne_of_gt l1q
      · exact nfn q (.tail _ (.tail _ (.tail _ hq)))
      · exact Nat.ne_of_gt (allLt_mem lt1.2 q hq)
      · exact nba q (.tail _ (.tail _ hq))
      · exact hor (_, og) (by first | exact inl0 | exact inl1 | exact inl2 | exact inl3 | exact inl4 | exact inl5 | exact inl6 | exact inl7) q hq
end Mine
end
section
set_option Elab.async false
theorem Mine.off_U2 : True ∧ True := by
  w_top off
  first | walk1 | skip
  all_goals (first | trivial | exact ⟨trivial, trivial⟩)
end
section
open PySem PySem.W PyProof.Rows PySem.Calls PySem.W.X
set_option Elab.async false
set_option maxRecDepth 100000
set_option maxHeartbeats 1000000
set_option pp.deepTerms false
set_option pp.deepTerms.threshold 5
namespace Mine
inductive NumsAre : List Value → List Nat → Prop
  | nil : NumsAre [] []
  | cons {p : Nat} {t : Tok} {vs : List Value} {ps : List Nat} : NumsAre vs ps → NumsAre (.int p t :: vs) (p :: ps)
/-- the list of notes: places, one after the other -/
noncomputable def NotesOk (o : Obj) (ps : List Nat) : Prop := ∃ items n, o = ⟨.type "list", none, .seq items n, #[]⟩ ∧ items.size ≤ 1000 ∧ NumsAre items.toList ps
noncomputable def isB : Option NK → Bool
  | some (.sc (.str x)) => decide (x = Str.ofString "b")
  | _ => false
/-- what the key does -/
noncomputable def KeyFn (prog : Program) (w : World) (g : Heap) (kf nl : Addr) (xs : Array Value) (ks : List (Option NK)) : Prop :=
  ∀ (A : Around) (s : Shared) (fs : List Addr) (led : List (Addr × Obj)) (no : Obj) (ps : List Nat) (j : Nat) (v : Value) (q : Option NK) (R : Result → Shared → Prop),
    A.depth < 500 → A.units < 5000 → Site A g fs ((nl, no) :: led) s.heap → NotesOk no ps → (∀ p ∈ led, nl ≠ p.1) → ps.length ≤ 100 → xs[j]? = some v → ks[j]? = some q →
    (∀ tv no' h' tk, isB q = false → ThingIs prog w g q tv → NotesOk no' (ps ++ [j]) → Aft g ((nl, no') :: led) h' → R (.ok (.ret tv)) { s with heap := h', toks := tk }) →
    (∀ no' h₁ h' e tk, isB q = true → NotesOk no' (ps ++ [j]) → Aft g ((nl, no') :: led) h₁ → Thrown h₁ fs e "KeyError" .none h' → R (.error (.ref e)) { s with heap := h', toks := tk }) →
    codeAny (model prog w) A (.call (.ref kf) ⟨[v], []⟩) R s
/-- what has been asked from i up to j was told before -/
noncomputable def Seen2 (ks : List (Option NK)) (S : NK → Bool) (i j : Nat) : Prop := ∀ m, i ≤ m → m < j → ∃ k', ks[m]? = some (some k') ∧ isB (some k') = false ∧ S k' = true
noncomputable def upto (i j : Nat) : List Nat := List.range' i (j - i)
open Classical in
inductive Post2 (g : Heap) (it l nl : Addr) (xs : Array Value) (ks : List (Option NK)) (Lv : (NK → Bool) → List Nat → List (Addr × Obj) → GenState → Prop) (S : NK → Bool) (ps : List Nat) (fs : List Addr) (rest : List (Addr × Obj)) (i : Nat) (o : Obj) (mk : Heap → Nat → Shared) (e : End) (s' : Shared) : Prop
  | told : ∀ h' tk j v k own' S', s' = mk h' tk → o = itObj l i → i ≤ j → xs[j]? = some v → ks[j]? = some (some k) → isB (some k) = false → S k = false → Seen2 ks S i j → e.result = .yielded v → (∀ k', S' k' = (S k' || decide (k' = k))) →
      Lv S' (ps ++ upto i (j + 1)) own' e.genState → (∃ no, (nl, no) ∈ own') → (∀ p ∈ own', it ≠ p.1 ∧ g.get? p.1 = none ∧ ∀ q ∈ rest, p.1 ≠ q.1) → Aft g ((it, itObj l (j + 1)) :: (own' ++ rest)) h' → Post2 g it l nl xs ks Lv S ps fs rest i o mk e s'
  | err : ∀ h' tk j h₁ e₀ no cls, s' = mk h' tk → o = itObj l i → i ≤ j → (cls = "TypeError" ∧ ks[j]? = some none ∨ cls = "KeyError" ∧ ∃ q, ks[j]? = some q ∧ isB q = true) → Seen2 ks S i j → e = .ret (.error (.ref e₀)) → NotesOk no (ps ++ upto i (j + 1)) →
      Aft g ((it, itObj l (j + 1)) :: (nl, no) :: rest) h₁ → Thrown h₁ fs e₀ cls .none h' → Post2 g it l nl xs ks Lv S ps fs rest i o mk e s'
  | stop : ∀ h' tk j h₁ no, s' = mk h' tk → (o = itEnd i ∧ j = i ∨ o = itObj l i ∧ i ≤ j ∧ xs[j]? = none ∧ Seen2 ks S i j) → e = .ret (.ok (.ret .none)) → NotesOk no (ps ++ upto i j) → Aft g ((it, itEnd j) :: (nl, no) :: rest) h₁ → Slid fs h₁ h' → Post2 g it l nl xs ks Lv S ps fs rest i o mk e s'
noncomputable def Live2 (prog : Program) (w : World) (g : Heap) (it l nl : Addr) (xs : Array Value) (ks : List (Option NK)) : Nat → (NK → Bool) → List Nat → List (Addr × Obj) → GenState → Prop
  | 0, _, _, _, _ => True
  | r + 1, S, ps, own, gs => ∀ (A : Around) (s : Shared) (fs : List Addr) (rest : List (Addr × Obj)) (i : Nat) (o : Obj),
    A.depth < 400 → A.units < 4000 → Site A g fs ((it, o) :: (own ++ rest)) s.heap → (o = itEnd i ∨ o = itObj l i) → (∀ p ∈ own ++ rest, it ≠ p.1) → (∀ p ∈ own, ∀ q ∈ rest, p.1 ≠ q.1) →
    (∀ a ∈ fs, ∃ ob, (a, ob) ∈ rest ∧ ∀ vs, ob.data ≠ .fields vs) → ps.length + (xs.size - i) ≤ 100 →
    Wakes prog w gs A s (Post2 g it l nl xs ks (Live2 prog w g it l nl xs ks r) S ps fs rest i o fun h tk => { s with heap := h, toks := tk })
noncomputable abbrev m6 (vi vk : Option Value) (ba sa it kf : Addr) : Str → Option Value := fun y => if y = Str.ofString "k" then vk else if y = Str.ofString "element" then vi else if y = Str.ofString "seen_add" then some (.ref ba) else if y = Str.ofString "seen" then some (.ref sa) else
  if y = Str.ofString "iterable" then some (.ref it) else if y = Str.ofString "key" then some (.ref kf) else none
noncomputable def Turn2 (prog : Program) (w : World) (g : Heap) (it l nl kf : Addr) (xs : Array Value) (ks : List (Option NK)) (sa ba Lg : Addr) (r : Nat) (c : Code) (fr : List Frame) : Prop :=
  ∀ (mm : Nat) (S : NK → Bool) (n : Nat) (es : Array (Int × Value)) (ep : Nat) (t : SetTable) (vi vk : Option Value) (A : Around) (s : Shared) (fs : List Addr) (rest : List (Addr × Obj)) (i : Nat) (o no : Obj) (ps : List Nat) (i₀ : Nat) (o₀ : Obj) (s₀ : Shared) (ps₀ : List Nat),
    mm = xs.size + 1 - i → SetIs prog w g es t S n → n + r ≤ 60 → A.depth < 400 → A.units < 4000 → Fr g Lg s.heap (m6 vi vk ba sa it kf) →
    News g Lg s.heap ((it, o) :: (nl, no) :: (sa, setObj es ep t) :: (ba, boundObj "set.add" sa) :: rest) → NotesOk no ps →
    (o = itEnd i ∨ o = itObj l i) → (∀ a ∈ [it, nl, sa, ba, Lg], ∀ q ∈ rest, a ≠ q.1) → it ≠ nl → nl ≠ sa → nl ≠ ba →
    (∃ outer, A.frames = some outer ∧ ∀ x ∈ outer, FrOk fs x) → A.handled = none → (∀ a ∈ fs, ∃ ob, (a, ob) ∈ rest ∧ ∀ vs, ob.data ≠ .fields vs) → ps.length + (xs.size - i) ≤ 100 →
    (o₀ = itEnd i₀ ∧ o = itEnd i₀ ∧ i = i₀ ∧ ps = ps₀ ∨ o₀ = itObj l i₀ ∧ o = itObj l i ∧ i₀ ≤ i ∧ Seen2 ks S i₀ i ∧ ps = ps₀ ++ upto i₀ i) → (∃ h tk, s = { s₀ with heap := h, toks := tk }) →
    SegX (model prog w) A c (denote table c) fr s (Post2 g it l nl xs ks (Live2 prog w g it l nl xs ks r) S ps₀ fs rest i₀ o₀ fun h tk => { s₀ with heap := h, toks := tk })
local macro_rules | `(tactic| walk_at "call ref") => `(tactic| (k_here; with_reducible refine hold_call 47 ?_))
theorem upto_succ {i j : Nat} (h : i ≤ j) : upto i (j + 1) = upto i j ++ [j] := by
  unfold upto
  rw [Nat.succ_sub h, List.range'_concat, Nat.one_mul, Nat.add_sub_cancel' h]
theorem upto_self (i : Nat) : upto i i = [] := by unfold upto; rw [Nat.sub_self]; rfl
theorem ue2 {w : World} {A : Around} {s : Shared} {mean : ExcName → Option Value} {loose : List Str} {mg mb : Str → Option Value} {it l kf nl : Addr} {R : Result → Shared → Prop} {g : Heap}
   {fs : List Addr} {led : List (Addr × Obj)} {o no ko : Obj} {fd : FuncData} {xs : Array Value} {ks : List (Option NK)} {i : Nat}
   (X : (Mine.hd.heap_39 w.params).In g) (T : Top topProg loose mean mg mb g) (hroom : A.depth < 500) (hu : A.units < 5000)
   (C : Site A g fs ((it, o) :: (nl, no) :: led) s.heap) (hko : g.get? kf = some ko) (hkd : ko.data = .func fd) (hkey : KeyFn PySem.Challenge.rw_dz0055_01.row.prog w g kf nl xs ks) (hno : NotesOk no [])
   (hl : g.IsList l xs) (hks : ∀ (j : Nat) (v : Value), xs[j]? = some v → ∃ q, ks[j]? = some q)
   (ho : o = itEnd i ∨ o = itObj l i) (hin : it ≠ nl)
   (k : ∀ (h' : Heap) (tk : Nat) (G Lg : Addr) og gs n₀ n₁, Aft g ((G, genObj s.gens.size n₀ n₁) :: (Lg, og) :: (it, o) :: (nl, no) :: led) h' → g.get? G = none → g.get? Lg = none → (∀ p ∈ ((it, o) :: (nl, no) :: led), p.1 < Lg) → Lg < G →
      Live2 PySem.Challenge.rw_dz0055_01.row.prog w g it l nl xs ks 60 (fun _ => false) [] [(nl, no), (Lg, og)] gs → R (.ok (.ret (.ref G))) { s with heap := h', gens := s.gens.push gs, toks := tk }) :
   codeAny (model PySem.Challenge.rw_dz0055_01.row.prog w) A (.call (.ref 59) ⟨[.ref it, .ref kf], []⟩) R s := by
  revert X
  k_fill
  intro X
  have X' : ((Mine.hd.heap_39 w.params)).In s.heap := fun a o e => C.stay a o (X a o e)
  refine call_gen (hco := by rfl) (hgen := by rfl) (hk := by rfl) (by show A.depth < 1000; omega) (X' _ _ (by k_is)) rfl (T.nolimit.keeps C.stay) (codeRec_of X' (by k_is)) rfl (.of_defaults rfl (X' 52 _ (by k_is)) rfl rfl rfl) (by decide) (locs rfl) (fun h₁ tk n₀ n₁ hns keep => ?_)
  have hlt := hns.lt
  obtain ⟨og, hog, hnsL⟩ : ∃ og, h₁.get? s.heap.objs.size = some og ∧ ∀ h' : Heap, h'.get? s.heap.objs.size = some og → h'.Ns s.heap.objs.size (m3 "iterable" "key" "seen" (some (.ref it)) (some (.ref kf)) none) := by
    obtain ⟨og, es, ep, ho, h1, h2, h3⟩ := hns
    refine ⟨og, ho, fun h' e => ⟨og, es, ep, e, h1, h2, fun y => (h3 y).trans ?_⟩⟩
    show List.lookup y [(Str.ofString "key", Value.ref kf), (Str.ofString "iterable", Value.ref it)] = _
    by_cases e1 : y = Str.ofString "key"
    · subst e1; rfl
    by_cases e2 : y = Str.ofString "iterable"
    · subst e2; rfl
    have e1' : (y == Str.ofString "key") = false := by rw [beq_eq_false_iff_ne]; exact e1
    have e2' : (y == Str.ofString "iterable") = false := by rw [beq_eq_false_iff_ne]; exact e2
    simp [m3, e1, e2, List.lookup, e1', e2']
  obtain ⟨hf1, hf2, hf3⟩ := C.fresh
  have kk := fun b o (e : s.heap.get? b = some o) => Heap.get?_push_of_some (genObj s.gens.size n₀ n₁) (keep b o e)
  refine k _ tk h₁.objs.size s.heap.objs.size og _ n₀ n₁ ⟨fun b o e => kk _ _ (C.stay _ _ e), fun p hp => ?_⟩ ?_ hf2 (fun p hp => Heap.lt_size (C.has p hp).1) hlt ?_
  · refine mem_elim hp ?_ fun hp => ?_
    · exact Heap.get?_push_size h₁ rfl
    refine mem_elim hp ?_ fun hp => ?_
    · exact Heap.get?_push_of_some _ hog
    · exact kk _ _ (C.has p hp).1
  · cases q : g.get? h₁.objs.size with
    | none => rfl
    | some o => exact absurd (Heap.lt_size (keep _ _ (C.stay _ _ q))) (Nat.lt_irrefl _)
  have hnL : nl ≠ s.heap.objs.size := hf3 (nl, no) (.tail _ (.head _))
  intro A s₂ fs₂ rest i₂ o₂ hd₂ hu₂ C₂ ho₂ hit hor hfr hlen
  unfold Wakes
  refine sx_func ?_
  have F : Fr g s.heap.objs.size s₂.heap _ := ⟨hnsL _ (C₂.has (s.heap.objs.size, og) (.tail _ (.tail _ (.head _)))).1, C₂.stay, C.size⟩
  have N : News g s.heap.objs.size s₂.heap ((it, o₂) :: (nl, no) :: rest) := fun p hp => by
    refine mem_elim hp ?_ fun hp => ?_
    · exact ⟨(C₂.has _ (.head _)).1, hit (s.heap.objs.size, og) (.tail _ (.head _)), (C₂.has _ (.head _)).2⟩
    refine mem_elim hp ?_ fun hp => ?_
    · exact ⟨(C₂.has _ (.tail _ (.head _))).1, hnL, (C₂.has _ (.tail _ (.head _))).2⟩
    · exact ⟨(C₂.has p (.tail _ (.tail _ (.tail _ hp)))).1, (hor (s.heap.objs.size, og) (.tail _ (.head _)) p hp).symm, (C₂.has p (.tail _ (.tail _ (.tail _ hp)))).2⟩
  refine sx_execs_cons ?_
  refine sx_stmt ?_
  repeat' walk1
  rename_i sa h₂ lb hs1 hz1 lt1 h₃ F N
  refine sx_execs_cons ?_
  refine sx_stmt ?_
  repeat' walk1
  refine attr_set_add (N.get (.head _)) fun ba h₄ k1 k2 k3 => ?_
  obtain ⟨F', N', nba⟩ := news_new F N k1 k2 k3
  clear F N
  repeat' walk1
  rename_i h₅ F N
  refine sx_execs_cons ?_
  refine sx_If ?_
  repeat' walk1
  refine sx_execs_cons ?_
  refine sx_For (hf := by intro x; rfl) ?_
  repeat' walk1
  have hic : o₂.cls = .type "list_iterator" := by rcases ho₂ with rfl | rfl <;> rfl
  refine pyIter_it (N.get (.tail _ (.tail _ (.head _)))) hic ?_
  intro p
  refine use_loop (fun c fr => ∀ r, Turn2 PySem.Challenge.rw_dz0055_01.row.prog w g it l nl kf xs ks sa ba s.heap.objs.size r c fr) ?_ fun H => ?_
  · clear F N nba k1 k2 k3 hs1 hz1 lt1 hit hor hfr ho₂ C₂ hd₂ hu₂ hic hlen
    refine turn_rec fun r IH => ?_
    intro mm
    refine Nat.strongRecOn mm fun mm IHm => ?_
    intro S n es ep t vi vk A s₂ fs rest i o no ps i₀ o₀ s₀ ps₀ hmm I hn hd hu F N hno ho hap hin hns hnb hst hh hfr hlen hprog hs₀
    obtain ⟨outer, hst1, hst2⟩ := hst
    have dIt : it ≠ sa ∧ it ≠ ba := by
      refine ⟨apart_of N (.head _) (.tail _ (.tail _ (.head _))) fun z => ?_, apart_of N (.head _) (.tail _ (.tail _ (.tail _ (.head _)))) fun z => ?_⟩ <;>
      (have z' := congrArg Obj.cls z; rcases ho with rfl | rfl <;> simp [itEnd, itObj, setObj] at z')
    refine sx_forLoop ?_
    have key : (∃ j', (o = itEnd j' ∨ (o = itObj l j' ∧ s₂.heap.IsList l xs ∧ xs[j']? = none)) ∧ (o₀ = itEnd i₀ ∧ j' = i₀ ∧ ps = ps₀ ∨ o₀ = itObj l i₀ ∧ i₀ ≤ j' ∧ xs[j']? = none ∧ Seen2 ks S i₀ j' ∧ ps = ps₀ ++ upto i₀ j')) ∨
        (∃ v, xs[i]? = some v ∧ o = itObj l i ∧ o₀ = itObj l i₀ ∧ i₀ ≤ i ∧ Seen2 ks S i₀ i ∧ ps = ps₀ ++ upto i₀ i) := by
      rcases hprog with ⟨a1, a2, a3, a4⟩ | ⟨a1, a2, a3, a4, a5⟩
      · exact .inl ⟨i₀, .inl a2, .inl ⟨a1, rfl, a4⟩⟩
      · cases hx : xs[i]? with
        | none => exact .inl ⟨i, .inr ⟨a2, stays_list F.keep hl, hx⟩, .inr ⟨a1, a3, hx, a4, a5⟩⟩
        | some v => exact .inr ⟨v, rfl, a2, a1, a3, a4, a5⟩
    obtain ⟨ob, es₀, ep₀, hob, hdat, hrest⟩ := F.ns
    have hne : ∀ p ∈ ((nl, no) :: (sa, setObj es ep t) :: (ba, boundObj "set.add" sa) :: rest), it ≠ p.1 := by
      intro p hp
      refine mem_elim hp ?_ fun hp => ?_
      · exact hin
      refine mem_elim hp ?_ fun hp => ?_
      · exact dIt.1
      refine mem_elim hp ?_ fun hp => ?_
      · exact dIt.2
      · exact hap _ (by first | exact inl0 | exact inl1 | exact inl2 | exact inl3 | exact inl4 | exact inl5 | exact inl6 | exact inl7) p hp
    have e6 : it ≠ s.heap.objs.size := (N _ (.head _)).2.1
    have y1 := (N _ (.tail _ (.head _))).2
    have y2 := (N _ (.tail _ (.tail _ (.head _)))).2
    have y3 := (N _ (.tail _ (.tail _ (.tail _ (.head _))))).2
    have dsb : sa ≠ ba := apart_of N (.tail _ (.tail _ (.head _))) (.tail _ (.tail _ (.tail _ (.head _)))) fun z => by have z' := congrArg Obj.cls z; simp [setObj] at z'
    have hLfs : s.heap.objs.size ∉ fs := fun m => by
      obtain ⟨oa, h1, _⟩ := hfr _ m
      exact hap _ (by first | exact inl0 | exact inl1 | exact inl2 | exact inl3 | exact inl4 | exact inl5 | exact inl6 | exact inl7) _ h1 rfl
    rcases key with ⟨j', stop, hR⟩ | ⟨v, hx, rfl, ho₀, hij, hseen, hps⟩
    · refine pyNext_stop (A := A.over _ _) (by rw [over_loop]; exact hh) (N _ (.head _)).1 stop fun h' k1 k2 => ?_
      dsimp only
      have N₁ := news_set N k1 k2 hne
      have F₁ : g.StaysIn h' := fun b ob hb => k2 b ob (fun z => by rw [z, (N _ (.head _)).2.2] at hb; cases hb) (F.keep b ob hb)
      refine sx_block_nil ?_
      refine s_end _ w A _ _ _ (.ok (.ret .none)) _ rfl ?_
      obtain ⟨hh₀, tk₀, rfl⟩ := hs₀
      refine .stop h' tk₀ j' h' no rfl ?_ rfl ?_ ⟨F₁, fun p hp => ?_⟩ (Slid.refl _ _)
      · rcases hR with ⟨a, b, _⟩ | ⟨a, b, c, d, _⟩
        · exact .inl ⟨a, b⟩
        · exact .inr ⟨a, b, c, d⟩
      · rcases hR with ⟨a, rfl, rfl⟩ | ⟨a, b, c, d, rfl⟩
        · rw [upto_self, List.append_nil]; exact hno
        · exact hno
      · refine mem_elim hp ?_ fun hp => ?_
        · exact k1
        refine mem_elim hp ?_ fun hp => ?_
        · exact (N₁ _ (.tail _ (.head _))).1
        · exact (N₁ p (.tail _ (.tail _ (.tail _ (.tail _ hp))))).1
    · refine pyNext_item (N _ (.head _)).1 (stays_list F.keep hl) hx fun h' k1 k2 => ?_
      dsimp only
      obtain ⟨q, hq⟩ := hks i v hx
      have hxi : i < xs.size := by
        rcases Nat.lt_or_ge i xs.size with z | z
        · exact z
        · rw [Array.getElem?_eq_none z] at hx; cases hx
      have N₁ := news_set N k1 k2.extBut hne
      have F₁ := fr_set F N k2
      have hob₁ : h'.get? s.heap.objs.size = some ob := (k2.2 _ (Ne.symm e6)).trans hob
      clear F N
      refine wpAny_pure ?_
      repeat' walk1
      rename_i h₂ F N
      refine sx_execs_cons ?_
      refine sx_stmt ?_
      repeat' walk1
      refine wpAny_call ?_
      obtain ⟨ob, es₀, ep₀, hob, hdat, hrest⟩ := F.ns
      have CC : ∀ {env : Env}, env.scope.kind ≠ .module → env.frame = some s.heap.objs.size → Site ⟨A.handled, A.depth + 1, A.frames.map (env :: ·), A.guards, A.units + 3⟩ g (s.heap.objs.size :: fs) ((nl, no) :: (it, itObj l (i + 1)) :: (sa, setObj es ep t) :: (ba, boundObj "set.add" sa) :: (s.heap.objs.size, ob) :: rest) h₂ := by
        intro env hk hf
        refine ⟨F.keep, Nat.le_trans F.above (Nat.le_of_lt F.ns.lt), fun p hp => ?_, fun a ha => ?_, ⟨env :: outer, by rw [hst1]; rfl, deep_ok hst2 hk hf⟩, hh⟩
        · refine mem_elim hp ?_ fun hp => ?_
          · exact ⟨(N _ (.tail _ (.head _))).1, (N _ (.tail _ (.head _))).2.2⟩
          refine mem_elim hp ?_ fun hp => ?_
          · exact ⟨(N _ (.head _)).1, (N _ (.head _)).2.2⟩
          refine mem_elim hp ?_ fun hp => ?_
          · exact ⟨(N _ (.tail _ (.tail _ (.head _)))).1, (N _ (.tail _ (.tail _ (.head _)))).2.2⟩
          refine mem_elim hp ?_ fun hp => ?_
          · exact ⟨(N _ (.tail _ (.tail _ (.tail _ (.head _))))).1, (N _ (.tail _ (.tail _ (.tail _ (.head _))))).2.2⟩
          refine mem_elim hp ?_ fun hp => ?_
          · exact ⟨hob, hf2⟩
          · exact ⟨(N p (.tail _ (.tail _ (.tail _ (.tail _ hp))))).1, (N p (.tail _ (.tail _ (.tail _ (.tail _ hp))))).2.2⟩
        · refine mem_elim ha ?_ fun ha => ?_
          · exact ⟨ob, .tail _ (.tail _ (.tail _ (.tail _ (.head _)))), fun vs q => by rw [hdat] at q; cases q⟩
          · obtain ⟨oa, h1, h2⟩ := hfr a ha
            exact ⟨oa, .tail _ (.tail _ (.tail _ (.tail _ (.tail _ h1)))), h2⟩
      have hnap : ∀ p ∈ ((it, itObj l (i + 1)) :: (sa, setObj es ep t) :: (ba, boundObj "set.add" sa) :: (s.heap.objs.size, ob) :: rest), nl ≠ p.1 := by
        intro p hp
        refine mem_elim hp ?_ fun hp => ?_
        · exact Ne.symm hin
        refine mem_elim hp ?_ fun hp => ?_
        · exact hns
        refine mem_elim hp ?_ fun hp => ?_
        · exact hnb
        refine mem_elim hp ?_ fun hp => ?_
        · exact y1.1
        · exact hap _ (by first | exact inl0 | exact inl1 | exact inl2 | exact inl3 | exact inl4 | exact inl5 | exact inl6 | exact inl7) p hp
      refine hkey _ _ (s.heap.objs.size :: fs) ((it, itObj l (i + 1)) :: (sa, setObj es ep t) :: (ba, boundObj "set.add" sa) :: (s.heap.objs.size, ob) :: rest) no ps i v q _ (by rw [over_loop]; show A.depth + 1 < 500; omega) (by rw [over_loop]; show A.units + 3 < 5000; omega) (by rw [over_loop]; exact CC (fun z => nomatch z) rfl) hno hnap (by omega) hx hq ?_ ?_
      · intro tv no' h₃ tk₃ hB hv hno' Af
        dsimp only
        have F₃ : Fr g s.heap.objs.size h₃ _ := ⟨⟨ob, es₀, ep₀, Af.has _ (.tail _ (.tail _ (.tail _ (.tail _ (.head _))))), hdat, hrest⟩, Af.stay, F.above⟩
        have N₃ : News g s.heap.objs.size h₃ ((it, itObj l (i + 1)) :: (nl, no') :: (sa, setObj es ep t) :: (ba, boundObj "set.add" sa) :: rest) := fun p hp => by
          refine mem_elim hp ?_ fun hp => ?_
          · exact ⟨Af.has _ (.tail _ (.head _)), (N _ (.head _)).2⟩
          refine mem_elim hp ?_ fun hp => ?_
          · exact ⟨Af.has _ (.head _), (N _ (.tail _ (.head _))).2⟩
          refine mem_elim hp ?_ fun hp => ?_
          · exact ⟨Af.has _ (.tail _ (.tail _ (.head _))), (N _ (.tail _ (.tail _ (.head _)))).2⟩
          refine mem_elim hp ?_ fun hp => ?_
          · exact ⟨Af.has _ (.tail _ (.tail _ (.tail _ (.head _)))), (N _ (.tail _ (.tail _ (.tail _ (.head _))))).2⟩
          · exact ⟨Af.has p (.tail _ (.tail _ (.tail _ (.tail _ (.tail _ hp))))), (N p (.tail _ (.tail _ (.tail _ (.tail _ hp))))).2⟩
        clear F N CC hob
        repeat' walk1
        rename_i h₄ F N
        refine sx_execs_cons ?_
        refine sx_If ?_
        repeat' walk1
        cases q with
        | none =>
          obtain ⟨la, lo, rfl, hlo, hlc⟩ := hv
          refine not_in_set_list (A := A.over _ _) (by rw [over_loop]; show A.units + 3 + 1 < 9900; omega) (by rw [over_loop]; exact hh) (N.get (.tail _ (.tail _ (.head _)))) ⟨lo, F.keep _ _ hlo, hlc⟩ fun h₅ tk₅ e hxe => ?_
          obtain ⟨hh₀, tk₀, rfl⟩ := hs₀
          have hfrs : FrsIn h₄ (s.heap.objs.size :: fs) := fun a ha => by
            refine mem_elim ha ?_ fun ha => ?_
            · obtain ⟨o, _, _, ho, hd, _⟩ := F.ns
              exact ⟨o, ho, fun vs q => by rw [hd] at q; cases q⟩
            · obtain ⟨oa, h1, h2⟩ := hfr a ha
              exact ⟨oa, (N _ (.tail _ (.tail _ (.tail _ (.tail _ h1))))).1, h2⟩
          refine gen_raise (s := { s₀ with heap := h₅, toks := tk₅ }) hst1 (deep_ok hst2 (fun z => nomatch z) rfl) rfl (.inr (Made.of_new hxe hfrs)) fun h₆ T₆ => ?_
          refine .err h₆ tk₅ i _ e no' _ rfl ho₀ hij (.inl ⟨rfl, hq⟩) hseen rfl ?_ (Aft.hide ⟨F.keep, fun p hp => ?_⟩ hf2 (fun p hp => ?_)) (hide_thrown T₆ hLfs)
          · rw [upto_succ hij, ← List.append_assoc, ← hps]; exact hno'
          · refine mem_elim hp ?_ fun hp => ?_
            · exact (N _ (.head _)).1
            refine mem_elim hp ?_ fun hp => ?_
            · exact (N _ (.tail _ (.head _))).1
            · exact (N p (.tail _ (.tail _ (.tail _ (.tail _ hp))))).1
          · refine mem_elim hp ?_ fun hp => ?_
            · exact e6
            refine mem_elim hp ?_ fun hp => ?_
            · exact y1.1
            · exact (hap _ (by first | exact inl0 | exact inl1 | exact inl2 | exact inl3 | exact inl4 | exact inl5 | exact inl6 | exact inl7) p hp).symm
        | some kk =>
          refine not_in_set (A := A.over _ _) (by rw [over_loop]; show A.units + 3 + 1 < 9900; omega) F.keep (N.get (.tail _ (.tail _ (.head _)))) hv I fun mm₂ => ?_
          have hno₂ : NotesOk no' (ps₀ ++ upto i₀ (i + 1)) := by rw [upto_succ hij, ← List.append_assoc, ← hps]; exact hno'
          cases hS : S kk with
          | true =>
            repeat' walk1
            refine s_again _ w A _ _ _ _ (.forLoop _ _ _ _ _) rfl ?_
            refine IHm (xs.size + 1 - (i + 1)) (hmm ▸ down_lt hxi) S n es ep t (some v) (some tv) A _ fs rest (i + 1) (itObj l (i + 1)) no' (ps ++ [i]) i₀ o₀ s₀ ps₀ rfl I hn hd hu (fr_congr F ?_) N hno' (.inr rfl) hap hin hns hnb ⟨outer, hst1, hst2⟩ hh hfr (by rw [List.length_append, List.length_singleton]; exact len_step hlen hxi) (.inr ⟨ho₀, rfl, by omega, fun m h1 h2 => ?_, ?_⟩) ?_
            · intro y
              by_cases z1 : y = Str.ofString "k"
              · subst z1; rfl
              by_cases z2 : y = Str.ofString "element"
              · subst z2; rfl
              simp only [m6, if_neg z1, if_neg z2]
            · by_cases e : m = i
              · exact ⟨kk, e ▸ hq, hB, hS⟩
              · exact hseen m h1 (Nat.lt_of_le_of_ne (Nat.le_of_lt_succ h2) e)
            · rw [upto_succ hij, ← List.append_assoc, ← hps]
            · obtain ⟨hh₀, tk₀, rfl⟩ := hs₀
              exact ⟨_, _, rfl⟩
          | false =>
            repeat' walk1
            refine sx_execs_cons ?_
            refine sx_stmt ?_
            repeat' walk1
            refine callWith_boundG (he := by rfl) (hplain := by rfl) (id := "set.add") (a := sa) ?_
            repeat' walk1
            · exact N.get (.tail _ (.tail _ (.tail _ (.head _))))
            refine call_add (by rw [over_loop]; show A.units + 3 + 1 < 9900; omega) F.keep (N.get (.tail _ (.tail _ (.tail _ (.head _))))) (N.get (.tail _ (.tail _ (.head _)))) hv I hS (by omega) fun mm₃ h₅ es' ep' t' q1 q2 q3 => ?_
            have hsa : ∀ p ∈ [(it, itObj l (i + 1)), (nl, no')] ++ (ba, boundObj "set.add" sa) :: rest, p.1 ≠ sa := by
              intro p hp
              rcases List.mem_append.mp hp with hp | hp
              · refine mem_elim hp ?_ fun hp => mem_one hp ?_
                · exact dIt.1
                · exact hns
              refine mem_elim hp ?_ fun hp => ?_
              · exact Ne.symm dsb
              · exact (hap _ (by first | exact inl0 | exact inl1 | exact inl2 | exact inl3 | exact inl4 | exact inl5 | exact inl6 | exact inl7) p hp).symm
            have N₂ := news_put (pre := [(it, itObj l (i + 1)), (nl, no')]) N q1 q2 hsa
            have F₂ := F.change q2 y2.1 y2.2
            clear F N
            repeat' walk1
            refine sx_execs_cons ?_
            refine sx_yield (hco := by rfl) (hi := by rfl) rfl rfl rfl ?_
            repeat' walk1
            rename_i kk' ll pp hk'
            have F₄ := fr_congr F₂ (m' := m6 (some v) (some tv) ba sa it kf) (by
              intro y
              by_cases z1 : y = Str.ofString "k"
              · subst z1; rfl
              by_cases z2 : y = Str.ofString "element"
              · subst z2; rfl
              simp only [m6, if_neg z1, if_neg z2])
            obtain ⟨ob', es₂, ep₂, hob', hdat', hrest'⟩ := F₄.ns
            obtain ⟨hh₀, tk₀, rfl⟩ := hs₀
            refine .told h₅ _ i v kk [(nl, no'), (sa, setObj es' ep' t'), (ba, boundObj "set.add" sa), (s.heap.objs.size, ob')] _ rfl ho₀ hij hx hq hB hS hseen rfl (fun k' => rfl) ?_ ⟨no', .head _⟩ ?_ ?_
            · cases r with
              | zero => trivial
              | succ r' =>
                intro A' s₃ fs' rest' i' o' hd' hu' C' ho' hit' hor' hfr' hlen'
                show SegX _ A' _ (kk' (.send .none)) _ s₃ _
                refine hk' A' s₃ _ ?_
                refine s_again _ w A' _ _ _ s₃ (.forLoop _ _ _ _ _) rfl ?_
                have hL : s₃.heap.get? s.heap.objs.size = some ob' := (C'.has (s.heap.objs.size, ob') (.tail _ (List.mem_append_left rest' (by simp)))).1
                refine IH r' rfl (xs.size + 1 - i') _ (n + 1) es' ep' t' (some v) (some tv) A' s₃ fs' rest' i' o' no' (ps₀ ++ upto i₀ (i + 1)) i' o' s₃ _ rfl q3 (by omega) hd' hu' ⟨⟨ob', es₂, ep₂, hL, hdat', hrest'⟩, C'.stay, F₄.above⟩ (fun p hp => ?_) hno₂ ho' (fun a ha q hq => ?_) hin hns hnb C'.stack C'.handled hfr' hlen' ?_ ⟨_, _, rfl⟩
                · refine mem_elim hp ?_ fun hp => ?_
                  · exact ⟨(C'.has _ (.head _)).1, e6, (C'.has _ (.head _)).2⟩
                  have hp₂ : p ∈ [(nl, no'), (sa, setObj es' ep' t'), (ba, boundObj "set.add" sa)] ++ rest' := hp
                  have hp₃ : p ∈ (it, o') :: ([(nl, no'), (sa, setObj es' ep' t'), (ba, boundObj "set.add" sa), (s.heap.objs.size, ob')] ++ rest') :=
                    .tail _ (mem_insA (pre := [(nl, no'), (sa, setObj es' ep' t'), (ba, boundObj "set.add" sa)]) hp₂)
                  refine ⟨(C'.has p hp₃).1, ?_, (C'.has p hp₃).2⟩
                  rcases List.mem_append.mp hp₂ with hp | hp
                  · refine mem_elim hp ?_ fun hp => mem_elim hp ?_ fun hp => mem_one hp ?_
                    · exact y1.1
                    · exact y2.1
                    · exact y3.1
                  · exact (hor' (s.heap.objs.size, ob') (by first | exact inl0 | exact inl1 | exact inl2 | exact inl3 | exact inl4 | exact inl5 | exact inl6 | exact inl7) p hp).symm
                · refine mem_elim ha ?_ fun ha => mem_elim ha ?_ fun ha => mem_elim ha ?_ fun ha => mem_elim ha ?_ fun ha => mem_one ha ?_
                  · exact hit' q (List.mem_append_right _ hq)
                  · exact hor' (_, no') (by first | exact inl0 | exact inl1 | exact inl2 | exact inl3 | exact inl4 | exact inl5 | exact inl6 | exact inl7) q hq
                  · exact hor' (_, setObj es' ep' t') (by first | exact inl0 | exact inl1 | exact inl2 | exact inl3 | exact inl4 | exact inl5 | exact inl6 | exact inl7) q hq
                  · exact hor' (_, boundObj "set.add" sa) (by first | exact inl0 | exact inl1 | exact inl2 | exact inl3 | exact inl4 | exact inl5 | exact inl6 | exact inl7) q hq
                  · exact hor' (_, ob') (by first | exact inl0 | exact inl1 | exact inl2 | exact inl3 | exact inl4 | exact inl5 | exact inl6 | exact inl7) q hq
                · rcases ho' with z | z
                  · exact .inl ⟨z, z, rfl, rfl⟩
                  · exact .inr ⟨z, z, Nat.le_refl _, (fun m h1 h2 => absurd h2 (Nat.not_lt_of_le h1)), by rw [upto_self, List.append_nil]⟩
            · intro p hp
              refine mem_elim hp ?_ fun hp => mem_elim hp ?_ fun hp => mem_elim hp ?_ fun hp => mem_one hp ?_
              · exact ⟨hin, y1.2, hap _ (by first | exact inl0 | exact inl1 | exact inl2 | exact inl3 | exact inl4 | exact inl5 | exact inl6 | exact inl7)⟩
              · exact ⟨dIt.1, y2.2, hap _ (by first | exact inl0 | exact inl1 | exact inl2 | exact inl3 | exact inl4 | exact inl5 | exact inl6 | exact inl7)⟩
              · exact ⟨dIt.2, y3.2, hap _ (by first | exact inl0 | exact inl1 | exact inl2 | exact inl3 | exact inl4 | exact inl5 | exact inl6 | exact inl7)⟩
              · exact ⟨e6, hf2, hap _ (by first | exact inl0 | exact inl1 | exact inl2 | exact inl3 | exact inl4 | exact inl5 | exact inl6 | exact inl7)⟩
            · refine ⟨F₄.keep, fun p hp => ?_⟩
              refine mem_elim hp ?_ fun hp => ?_
              · exact (N₂ _ (.head _)).1
              rcases List.mem_append.mp hp with hp | hp
              · refine mem_elim hp ?_ fun hp => mem_elim hp ?_ fun hp => mem_elim hp ?_ fun hp => mem_one hp ?_
                · exact (N₂ _ (.tail _ (.head _))).1
                · exact (N₂ _ (.tail _ (.tail _ (.head _)))).1
                · exact (N₂ _ (.tail _ (.tail _ (.tail _ (.head _))))).1
                · exact hob'
              · exact (N₂ p (.tail _ (.tail _ (.tail _ (.tail _ hp))))).1
      · intro no' h₃ h₄ e tk₃ hB hno' Af Th
        dsimp only
        obtain ⟨hh₀, tk₀, rfl⟩ := hs₀
        refine gen_raise (s := { s₀ with heap := h₄, toks := tk₃ }) hst1 (deep_ok hst2 (fun z => nomatch z) rfl) rfl (.inl ⟨_, Th⟩) fun h₅ T₅ => ?_
        refine .err h₅ tk₃ i _ e no' _ rfl ho₀ hij (.inr ⟨rfl, q, hq, hB⟩) hseen rfl ?_ (Aft.hide ⟨Af.stay, fun p hp => ?_⟩ hf2 (fun p hp => ?_)) (hide_thrown T₅ hLfs)
        · rw [upto_succ hij, ← List.append_assoc, ← hps]; exact hno'
        · refine mem_elim hp ?_ fun hp => ?_
          · exact Af.has _ (.tail _ (.head _))
          refine mem_elim hp ?_ fun hp => ?_
          · exact Af.has _ (.head _)
          · exact Af.has p (.tail _ (.tail _ (.tail _ (.tail _ (.tail _ hp)))))
        · refine mem_elim hp ?_ fun hp => ?_
          · exact e6
          refine mem_elim hp ?_ fun hp => ?_
          · exact y1.1
          · exact (hap _ (by first | exact inl0 | exact inl1 | exact inl2 | exact inl3 | exact inl4 | exact inl5 | exact inl6 | exact inl7) p hp).symm
  · have F₃ := fr_congr F (m' := m6 none none ba sa it kf) (by
      intro y
      by_cases z1 : y = Str.ofString "seen_add"
      · subst z1; rfl
      by_cases z2 : y = Str.ofString "seen"
      · subst z2; rfl
      by_cases z3 : y = Str.ofString "element"
      · subst z3; rfl
      by_cases z4 : y = Str.ofString "k"
      · subst z4; rfl
      simp [m6, m3, z1, z2, z3, z4])
    refine H 59 (xs.size + 1 - i₂) (fun _ => false) 0 #[] 0 (SetTable.fresh 0 0 lb) none none A _ fs₂ rest i₂ o₂ no [] i₂ o₂ s₂ [] rfl ?_ (by omega) hd₂ hu₂ F₃ ?_ hno ho₂ ?_ hin ?_ ?_ C₂.stack C₂.handled hfr hlen ?_ ⟨_, _, rfl⟩
    · exact ⟨tabOk_fresh 0 0 lb, (fun e he => nomatch he), fun k' => ⟨(fun z => nomatch z), (fun ⟨e, he, _⟩ => nomatch he)⟩, rfl⟩
    · intro p hp
      refine N p ?_
      refine mem_elim hp ?_ fun hp => ?_
      · simp
      refine mem_elim hp ?_ fun hp => ?_
      · simp
      refine mem_elim hp ?_ fun hp => ?_
      · exact .tail _ (.head _)
      refine mem_elim hp ?_ fun hp => ?_
      · simp
      · exact .tail _ (.tail _ (.tail _ (.tail _ hp)))
    · intro a ha q hq
      refine mem_elim ha ?_ fun ha => mem_elim ha ?_ fun ha => mem_elim ha ?_ fun ha => mem_elim ha ?_ fun ha => mem_one ha ?_
      · exact hit q (List.mem_append_right _ hq)
      · exact hor (_, no) (by first | exact inl0 | exact inl1 | exact inl2 | exact inl3 | exact inl4 | exact inl5 | exact inl6 | exact inl7) q hq
      · exact Nat.ne_of_gt (allLt_mem lt1.2.2 q hq)
      · exact nba q (.tail _ (.tail _ (.tail _ hq)))
      · exact hor (_, og) (by first | exact inl0 | exact inl1 | exact inl2 | exact inl3 | exact inl4 | exact inl5 | exact inl6 | exact inl7) q hq
    · exact Nat.ne_of_lt lt1.2.1
    · exact (nba (nl, no) (.tail _ (.tail _ (.head _)))).symm
    · rcases ho₂ with z | z
      · exact .inl ⟨z, z, rfl, rfl⟩
      · exact .inr ⟨z, z, Nat.le_refl _, (fun m h1 h2 => absurd h2 (Nat.not_lt_of_le h1)), by rw [upto_self]; rfl⟩
end Mine
end
section
open PySem PySem.W PyProof.Rows PySem.Calls PySem.W.X
set_option Elab.async false
set_option maxRecDepth 100000
set_option maxHeartbeats 1000000
namespace Mine
section
variable {prog : Program} {w : World} {A : Around} {E : Value → Shared → Prop} {s : Shared}
theorem wp_wake {α : Type} {n : Nat} {gs : GenState} {l : List Value} {k : GenResult → Sem α} {Q : α → Shared → Prop} (hg : s.gens[n]? = some gs)
   (hw : Wakes prog w gs A (s.setGen n .running) (fun e s₁ => wpAny (model prog w) A (k e.result) Q E (s₁.setGen n e.genState))) : wpAny (model prog w) A (.resume n (.send .none) l k) Q E s := by
  cases gs with
  | fresh c => exact fun Γ p hΓ => wake_any α prog w hg (.inl ⟨rfl, rfl, rfl, rfl⟩) (fun Γ => Γ.In A) (fun _ h => h) (SegX.mono hw fun e s₁ h Γ p hΓ => h Γ p hΓ) Γ p hΓ
  | suspended k₀ l₀ c₀ p₀ fs₀ cl => exact fun Γ p hΓ => wake_any α prog w hg (.inr ⟨k₀, l₀, p₀, cl, rfl, rfl⟩) (fun Γ => Γ.In A) (fun _ h => h) (SegX.mono hw fun e s₁ h Γ p hΓ => h Γ p hΓ) Γ p hΓ
  | _ => exact hw.elim
theorem wp_finished {n : Nat} {r : Resume} {Q : GenResult → Shared → Prop} (hg : s.gens[n]? = some .finished) (h : Q .finished s) : wpAny (model prog w) A (resume n r) Q E s := fun Γ p hΓ => by
  show Sem.wp _ _ (.resume n r [] _) _ _ _ _
  rw [Sem.wp_resume]
  exact ⟨.finished, s, by unfold PySem.Wakes; rw [hg]; exact ⟨rfl, rfl⟩, h⟩
theorem SegX.mono' {gs : GenState} {A : Around} {s : Shared} {P P' : End → Shared → Prop} (x : Wakes prog w gs A s P) (h : ∀ e s', P e s' → P' e s') : Wakes prog w gs A s P' := by
  cases gs with
  | fresh c => exact SegX.mono x h
  | suspended k₀ l₀ c₀ p₀ fs₀ cl => exact SegX.mono x h
  | _ => exact x.elim
theorem isGen_of {h : Heap} {G n : Nat} {n₀ n₁ : Value} (ho : h.get? G = some (genObj n n₀ n₁)) : h.IsGen G n := ⟨_, n₀, n₁, ho, rfl, rfl, rfl⟩
theorem gen_left {α : Type} {G n : Nat} {n₀ n₁ : Value} {e : Addr} {ob : Obj} {cls : String} {Q : α → Shared → Prop} (ho : s.heap.get? G = some (genObj n n₀ n₁)) (he : s.heap.get? e = some ob) (hc : ob.cls = .type cls) (hs : isSubtype (.type cls) (.type "StopIteration") = pure false)
   (k : E (.ref e) s) : wpAny (model prog w) A (Builtin.Generator.genLeft (.ref G) (.ref e) : Sem α) Q E s := by
  unfold Builtin.Generator.genLeft Builtin.Generator.madeByALambda
  refine wpAny_bind (wpAny_bind (wpAny_load ho ?_))
  refine wpAny_pure ?_
  refine wpAny_bind (wpAny_isInstance ⟨ob, he, hc⟩ hs ?_)
  rw [Bool.and_false, if_neg Bool.false_ne_true]
  unfold Builtin.Generator.genEscaped
  refine wpAny_bind (wpAny_isInstance ⟨ob, he, hc⟩ hs ?_)
  rw [if_pos (show (!false) = true from rfl)]
  exact wpAny_bind (wpAny_throw k)
/-- what comes of a wake, told to the one who woke -/
noncomputable def Woke (n : Nat) (G : Addr) (n₀ n₁ : Value) (Q : Value → Shared → Prop) (E : Value → Shared → Prop) (e : End) (s₁ : Shared) : Prop :=
    (∃ v, e.result = .yielded v ∧ Q v (s₁.setGen n e.genState)) ∨
    (e = .ret (.ok (.ret .none)) ∧ ∀ h' e', Heap.NewExc s₁.heap h' e' "StopIteration" → E (.ref e') { s₁.setGen n .finished with heap := h' }) ∨
    (∃ e₀ ob cls, e = .ret (.error (.ref e₀)) ∧ s₁.heap.get? e₀ = some ob ∧ ob.cls = .type cls ∧ isSubtype (.type cls) (.type "StopIteration") = pure false ∧ s₁.heap.get? G = some (genObj n n₀ n₁) ∧ E (.ref e₀) (s₁.setGen n .finished))
theorem gen_special {n : Nat} {G : Addr} {n₀ n₁ : Value} {gs : GenState} {Q : Option Value → Shared → Prop} {P : End → Shared → Prop} (hh : A.handled = none) (hlim : s.heap.NoLimit) (hroom : A.depth < recursionLimit)
   (ho : s.heap.get? G = some (genObj n n₀ n₁)) (hg : s.gens[n]? = some gs) (hw : Wakes prog w gs A.in1 (s.setGen n .running) P) (hP : ∀ e s₁, P e s₁ → Woke n G n₀ n₁ (fun v => Q (some v)) E e s₁) :
   wpAny (model prog w) A (callSpecial? (.ref G) (Str.ofString "__next__")) Q E s := by
  have hG := isGen_of ho
  refine wpAny_callSpecial?_slot (name := Str.ofString "__next__") hG.typeIs slot_gen_next (wpAny_call_entry slot_gen_next hG.typeIs entry_gen_next ?_ (args_gen_next _))
  show wpAny _ _ (Builtin.Generator.genWake (.ref G) (.send .none)) _ _ s
  unfold Builtin.Generator.genWake
  refine wpAny_bind (wpAny_holding (wpAny_genNumber hG (wpAny_bind (wpAny_genState hg ?_))))
  have fin : wpAny (model prog w) A.in1 (.resume n (.send .none) [] fun r => (match r with
      | .yielded v => ret v
      | .returned v => do
        if v == .none then raiseNew (← newExc (.type "StopIteration") [])
        rule "generator.return-value"; throw (← newExc (.type "StopIteration") [v])
      | .raised e => Builtin.Generator.genLeft (.ref G) e
      | .running => do rule "generator.already-executing"; raiseError "ValueError" "generator already executing"
      | .justStarted => do rule "generator.send-to-fresh"; raiseError "TypeError" "can't send non-None value to a just-started generator"
      | .finished => do raiseNew (← newExc (.type "StopIteration") []) : Sem PySem.Fin)) (fun fin s' => ∃ v, fin = .done (.ret v) ∧ Q (some v) s') E s := by
    refine wp_wake hg (SegX.mono' hw fun e s₁ he => ?_)
    rcases hP e s₁ he with ⟨v, hv, hq⟩ | ⟨rfl, hq⟩ | ⟨e₀, ob, cls, rfl, h1, h2, h3, h4, h5⟩
    · rw [hv]; exact wpAny_pure ⟨v, rfl, hq⟩
    · show wpAny _ _ (if (Value.none == Value.none) = true then _ else _) _ _ _
      rw [if_pos (by decide)]
      refine (bind_assoc (newExc (.type "StopIteration") []) (fun e => (raiseNew e : Sem Unit)) _) ▸ ?_
      exact wpAny_bind (stop_new (A := A.in1) (s := s₁.setGen n .finished) hh fun h' e' hx => hq h' e' hx)
    · exact gen_left (s := s₁.setGen n .finished) h4 h1 h2 h3 h5
  cases gs with
  | fresh c => exact wpAny_bind (wpAny_roomToWake hlim hroom fin)
  | suspended k₀ l₀ c₀ p₀ fs₀ cl => exact wpAny_bind (wpAny_roomToWake hlim hroom fin)
  | _ => exact hw.elim
theorem next_gen {n : Nat} {G : Addr} {n₀ n₁ : Value} {gs : GenState} {Q : Value → Shared → Prop} {P : End → Shared → Prop} (hh : A.handled = none) (hlim : s.heap.NoLimit) (hroom : A.depth < recursionLimit)
   (ho : s.heap.get? G = some (genObj n n₀ n₁)) (hg : s.gens[n]? = some gs) (hw : Wakes prog w gs A.in1.in1 (s.setGen n .running) P) (hP : ∀ e s₁, P e s₁ → Woke n G n₀ n₁ Q E e s₁) :
   wpAny (model prog w) A (call (.builtin "next") [.ref G]) Q E s := by
  refine call_function_entry (by decide +kernel) (by decide +kernel) kdk_entry_next (kdk_args_next _) ?_
  unfold Builtin.«next»
  refine wpAny_bind (m := someArgs "next" 1 2 _) (wpAny_of_eq (a := [Value.ref G]) (by first | rfl | kernel_rfl!) ?_)
  dsimp only
  refine wpAny_bind (wpAny_specialOf (name := Str.ofString "__next__") (isGen_of ho).typeIs slot_gen_next.lookup ?_)
  refine wpAny_ite_split (fun hab => absurd hab (by decide)) (fun _ => ?_)
  refine wpAny_bind (gen_special (A := A.in1) hh hlim hroom ho hg hw fun e s₁ he => ?_)
  rcases hP e s₁ he with ⟨v, hv, hq⟩ | z | z
  · exact .inl ⟨v, hv, wpAny_pure ⟨_, rfl, hq⟩⟩
  · exact .inr (.inl z)
  · exact .inr (.inr z)
/-- a generator that is over tells nothing more -/
theorem gen_over {n : Nat} {G : Addr} {n₀ n₁ : Value} {Q : Option Value → Shared → Prop} (hh : A.handled = none) (ho : s.heap.get? G = some (genObj n n₀ n₁)) (hg : s.gens[n]? = some .finished)
   (k : ∀ h', (∀ b o, s.heap.get? b = some o → h'.get? b = some o) → Q none { s with heap := h' }) : wpAny (model prog w) A (pyNext (.ref G)) Q E s := by
  have hG := isGen_of ho
  unfold pyNext
  refine wpAny_bind (wpAny_attempt (wpAny_callSpecial?_slot (name := Str.ofString "__next__") hG.typeIs slot_gen_next (wpAny_call_entry slot_gen_next hG.typeIs entry_gen_next ?_ (args_gen_next _))))
  show wpAny _ _ (Builtin.Generator.genWake (.ref G) (.send .none)) _ _ s
  unfold Builtin.Generator.genWake
  refine wpAny_bind (wpAny_holding (wpAny_genNumber hG (wpAny_bind (wpAny_genState hg ?_))))
  dsimp only
  refine wpAny_bind (wp_finished hg ?_)
  dsimp only
  refine stop_new (A := A.in1) hh fun h' e hx => ?_
  obtain ⟨ob, t, he, hc, _⟩ := hx.there
  refine wpAny_bind (wpAny_isInstance (T := "StopIteration") (b := true) ⟨_, he, hc⟩ isSubtype_stop ?_)
  exact wpAny_pure (k h' hx.keeps)
end
end Mine
end
section
open PySem PySem.W PyProof.Rows PySem.Calls PySem.W.X
set_option Elab.async false
set_option maxRecDepth 100000
namespace Mine
inductive Out (σ : Type) where
  | told (j : Nat) (s : σ)
  | err (cls : String) (j : Nat) (s : σ)
  | stop (s : σ)
noncomputable def ItAt (l : Addr) (xs : Array Value) (o : Obj) (i : Nat) : Prop := (o = itObj l i ∧ i ≤ xs.size) ∨ (∃ n, o = itEnd n) ∧ i = xs.size
noncomputable def Apart (it : Addr) (g : Heap) (own rest : List (Addr × Obj)) : Prop := ∀ p ∈ own, it ≠ p.1 ∧ g.get? p.1 = none ∧ ∀ q ∈ rest, p.1 ≠ q.1
inductive TellTold {σ : Type} (g : Heap) (it l : Addr) (xs : Array Value) (Own : σ → List (Addr × Obj) → Prop) (Lv : σ → List (Addr × Obj) → GenState → Prop) (fs : List Addr) (rest : List (Addr × Obj)) (i : Nat) (e : End) (h' : Heap) (j : Nat) (x' : σ) : Prop
  | mk : ∀ (v : Value) (own' : List (Addr × Obj)) (o' : Obj), (i ≤ j) → (xs[j]? = some v) → (e.result = .yielded v) → (ItAt l xs o' (j + 1)) → (Lv x' own' e.genState) → (Apart it g own' rest) → (Aft g ((it, o') :: (own' ++ rest)) h') → TellTold g it l xs Own Lv fs rest i e h' j x'
inductive TellErr {σ : Type} (g : Heap) (it l : Addr) (xs : Array Value) (Own : σ → List (Addr × Obj) → Prop) (Lv : σ → List (Addr × Obj) → GenState → Prop) (fs : List Addr) (rest : List (Addr × Obj)) (i : Nat) (e : End) (h' : Heap) (cls : String) (j : Nat) (x' : σ) : Prop
  | mk : ∀ (h₁ : Heap) (e₀ : Addr) (own' : List (Addr × Obj)) (o' : Obj), (i ≤ j) → (j < xs.size) → (e = .ret (.error (.ref e₀))) → (ItAt l xs o' (j + 1)) → (Own x' own') → (Apart it g own' rest) → (Aft g ((it, o') :: (own' ++ rest)) h₁) → (Thrown h₁ fs e₀ cls .none h') → ((cls = "TypeError" ∨ cls = "KeyError")) → TellErr g it l xs Own Lv fs rest i e h' cls j x'
inductive TellStop {σ : Type} (g : Heap) (it l : Addr) (xs : Array Value) (Own : σ → List (Addr × Obj) → Prop) (Lv : σ → List (Addr × Obj) → GenState → Prop) (fs : List Addr) (rest : List (Addr × Obj)) (i : Nat) (e : End) (h' : Heap) (x' : σ) : Prop
  | mk : ∀ (h₁ : Heap) (own' : List (Addr × Obj)) (o' : Obj), (e = .ret (.ok (.ret .none))) → (ItAt l xs o' xs.size) → (Own x' own') → (Apart it g own' rest) → (Aft g ((it, o') :: (own' ++ rest)) h₁) → (Slid fs h₁ h') → TellStop g it l xs Own Lv fs rest i e h' x'
noncomputable def TellEnd {σ : Type} (g : Heap) (it l : Addr) (xs : Array Value) (Own : σ → List (Addr × Obj) → Prop) (Lv : σ → List (Addr × Obj) → GenState → Prop) (fs : List Addr) (rest : List (Addr × Obj)) (i : Nat) (e : End) (h' : Heap) : Out σ → Prop
  | .told j x' => TellTold g it l xs Own Lv fs rest i e h' j x'
  | .err cls j x' => TellErr g it l xs Own Lv fs rest i e h' cls j x'
  | .stop x' => TellStop g it l xs Own Lv fs rest i e h' x'
/-- a generator that lives, by what it does -/
noncomputable def Teller {σ : Type} (prog : Program) (w : World) (g : Heap) (it l : Addr) (xs : Array Value) (step : σ → Nat → Out σ) (Own : σ → List (Addr × Obj) → Prop) (Pre : σ → Nat → Prop) : Nat → σ → List (Addr × Obj) → GenState → Prop
  | 0, _, _, _ => True
  | r + 1, x, own, gs => ∀ (A : Around) (s : Shared) (fs : List Addr) (rest : List (Addr × Obj)) (i : Nat) (o : Obj),
    A.depth < 400 → A.units < 4000 → Site A g fs ((it, o) :: (own ++ rest)) s.heap → ItAt l xs o i → (∀ p ∈ own ++ rest, it ≠ p.1) → (∀ p ∈ own, ∀ q ∈ rest, p.1 ≠ q.1) →
    (∀ a ∈ fs, ∃ ob, (a, ob) ∈ rest ∧ ∀ vs, ob.data ≠ .fields vs) → Pre x i →
    Wakes prog w gs A s (fun e s' => ∃ h' tk, s' = { s with heap := h', toks := tk } ∧ TellEnd g it l xs Own (Teller prog w g it l xs step Own Pre r) fs rest i e h' (step x i))
open Classical in
noncomputable def scan1 : (NK → Bool) → Nat → List (Option NK) → Out (NK → Bool)
  | S, _, [] => .stop S
  | S, i, none :: _ => .err "TypeError" i S
  | S, i, some k :: r => if S k then scan1 S (i + 1) r else .told i (fun k' => S k' || decide (k' = k))
noncomputable def step1 (ks : List (Option NK)) (S : NK → Bool) (i : Nat) : Out (NK → Bool) := scan1 S i (ks.drop i)
open Classical in
noncomputable def scan2 : (NK → Bool) × List Nat → Nat → List (Option NK) → Out ((NK → Bool) × List Nat)
  | x, _, [] => .stop x
  | x, i, q :: r => if isB q then .err "KeyError" i (x.1, x.2 ++ [i]) else match q with
    | none => .err "TypeError" i (x.1, x.2 ++ [i])
    | some k => if x.1 k then scan2 (x.1, x.2 ++ [i]) (i + 1) r else .told i (fun k' => x.1 k' || decide (k' = k), x.2 ++ [i])
noncomputable def step2 (ks : List (Option NK)) (x : (NK → Bool) × List Nat) (i : Nat) : Out ((NK → Bool) × List Nat) := scan2 x i (ks.drop i)
theorem drop_get {ks : List (Option NK)} {m : Nat} {q : Option NK} (h : ks[m]? = some q) : ks.drop m = q :: ks.drop (m + 1) := by
  obtain ⟨hm, rfl⟩ := List.getElem?_eq_some_iff.mp h
  exact List.drop_eq_getElem_cons hm
theorem step1_seen {ks : List (Option NK)} {S : NK → Bool} {i : Nat} : ∀ d, Seen ks S i (i + d) → step1 ks S i = step1 ks S (i + d)
  | 0, _ => rfl
  | d + 1, h => by
    rw [step1_seen d fun m h1 h2 => h m h1 (by omega)]
    obtain ⟨k, hk, hS⟩ := h (i + d) (by omega) (by omega)
    unfold step1
    rw [drop_get hk, scan1, hS]
    rfl
theorem step2_seen {ks : List (Option NK)} {S : NK → Bool} {ps : List Nat} {i : Nat} : ∀ d, Seen2 ks S i (i + d) → step2 ks (S, ps) i = step2 ks (S, ps ++ upto i (i + d)) (i + d)
  | 0, _ => by rw [Nat.add_zero, upto_self, List.append_nil]
  | d + 1, h => by
    rw [step2_seen d fun m h1 h2 => h m h1 (by omega)]
    obtain ⟨k, hk, hB, hS⟩ := h (i + d) (by omega) (by omega)
    unfold step2
    rw [drop_get hk, scan2, hB, if_neg Bool.false_ne_true]
    dsimp only
    rw [if_pos hS, ← Nat.add_assoc i d 1, upto_succ (by omega), List.append_assoc]
noncomputable def own1 (_ : NK → Bool) (own : List (Addr × Obj)) : Prop := own = []
noncomputable def own2 (nl : Addr) (x : (NK → Bool) × List Nat) (own : List (Addr × Obj)) : Prop := ∃ no, own = [(nl, no)] ∧ NotesOk no x.2
theorem itAt_cases {l : Addr} {xs : Array Value} {o : Obj} {i : Nat} (h : ItAt l xs o i) : ∃ i', (o = itEnd i' ∨ o = itObj l i') ∧ (o = itObj l i' → i = i' ∧ i ≤ xs.size) ∧ (o = itEnd i' → i = xs.size) := by
  rcases h with ⟨rfl, h⟩ | ⟨⟨n, rfl⟩, h⟩
  · exact ⟨i, .inr rfl, fun _ => ⟨rfl, h⟩, fun z => by simp [itEnd, itObj] at z⟩
  · exact ⟨n, .inl rfl, fun z => by simp [itEnd, itObj] at z, fun _ => h⟩
theorem teller1 {prog : Program} {w : World} {g : Heap} {it l : Addr} {xs : Array Value} {ks : List (Option NK)} (hlen : ks.length = xs.size) : ∀ r S own gs, Live1 prog w g it l xs ks r S own gs → Teller prog w g it l xs (step1 ks) own1 (fun _ _ => True) r S own gs
  | 0, _, _, _, _ => trivial
  | r + 1, S, own, gs, H => by
    intro A s fs rest i o hd hu C hit hap hor hfr _
    obtain ⟨i', ho, h1, h2⟩ := itAt_cases hit
    refine SegX.mono' (H A s fs rest i' o hd hu C ho hap hor hfr) fun e s' hp => ?_
    rcases hp with ⟨h', tk, j, v, k, own', S', rfl, e1, e2, e3, e4, e5, e6, e7, e8, e9, e10, e11⟩ | ⟨h', tk, j, h₁, e₀, rfl, e1, e2, e3, e4, e5, e6, e7⟩ | ⟨h', tk, j, h₁, rfl, e1, e2, e3, e4⟩ <;> refine ⟨h', tk, rfl, ?_⟩
    · obtain ⟨rfl, hi⟩ := h1 e1
      obtain ⟨d, rfl⟩ := Nat.exists_eq_add_of_le e2
      have hS : S' = (fun k' => S k' || decide (k' = k)) := funext e8
      subst hS
      rw [show step1 ks S i = .told (i + d) (fun k' => S k' || decide (k' = k)) by rw [step1_seen d e6]; unfold step1; rw [drop_get e4, scan1, e5, if_neg Bool.false_ne_true]]
      have hj : i + d < xs.size := (Array.getElem?_eq_some_iff.mp e3).1
      exact ⟨v, own', _, e2, e3, e7, .inl ⟨rfl, hj⟩, teller1 hlen r _ _ _ e9, e10, e11⟩
    · obtain ⟨rfl, hi⟩ := h1 e1
      obtain ⟨d, rfl⟩ := Nat.exists_eq_add_of_le e2
      rw [show step1 ks S i = .err "TypeError" (i + d) S by rw [step1_seen d e4]; unfold step1; rw [drop_get e3, scan1]]
      have hj : i + d < xs.size := hlen ▸ (List.getElem?_eq_some_iff.mp e3).1
      exact ⟨h₁, e₀, [], _, e2, hj, e5, .inl ⟨rfl, hj⟩, rfl, (fun _ h => nomatch h), e6, e7, .inl rfl⟩
    · have : step1 ks S i = .stop S := by
        rcases e1 with ⟨e1, rfl⟩ | ⟨e1, e5, e6⟩
        · rw [h2 e1]; unfold step1; rw [List.drop_eq_nil_of_le (by omega)]; rfl
        · obtain ⟨rfl, hi⟩ := h1 e1
          have hj : xs.size ≤ j := Array.getElem?_eq_none_iff.mp e5
          obtain ⟨d, rfl⟩ := Nat.exists_eq_add_of_le (Nat.le_trans hi hj)
          rw [step1_seen d e6]; unfold step1; rw [List.drop_eq_nil_of_le (by omega)]; rfl
      rw [this]
      exact ⟨h₁, [], _, e2, .inr ⟨⟨_, rfl⟩, rfl⟩, rfl, (fun _ h => nomatch h), e3, e4⟩
theorem teller2 {prog : Program} {w : World} {g : Heap} {it l nl : Addr} {xs : Array Value} {ks : List (Option NK)} (hlen : ks.length = xs.size) (hin : it ≠ nl) (hgn : g.get? nl = none) (hsz : xs.size ≤ 50) : ∀ r (x : (NK → Bool) × List Nat) own gs, Live2 prog w g it l nl xs ks r x.1 x.2 own gs →
    (∃ no, (nl, no) ∈ own) → Teller prog w g it l xs (step2 ks) (own2 nl) (fun x i => x.2.length ≤ i) r x own gs
  | 0, _, _, _, _, _ => trivial
  | r + 1, (S, ps), own, gs, H, hown => by
    intro A s fs rest i o hd hu C hit hap hor hfr hpre
    obtain ⟨i', ho, h1, h2⟩ := itAt_cases hit
    have hi : i ≤ xs.size := by
      rcases hit with ⟨_, z⟩ | ⟨_, z⟩
      · exact z
      · exact z ▸ Nat.le_refl _
    obtain ⟨no₀, hno₀⟩ := hown
    have hap2 : ∀ no, Apart it g [(nl, no)] rest := fun no p hp => by
      refine mem_one hp ?_
      exact ⟨hin, hgn, hor (nl, no₀) hno₀⟩
    have hlen2 : ps.length + (xs.size - i') ≤ 100 := by
      exact Nat.le_trans (Nat.add_le_add (Nat.le_trans hpre (Nat.le_trans hi hsz)) (Nat.le_trans (Nat.sub_le ..) hsz)) (Nat.le_refl 100)
    refine SegX.mono' (H A s fs rest i' o hd hu C ho hap hor hfr hlen2) fun e s' hp => ?_
    dsimp only at hp
    rcases hp with ⟨h', tk, j, v, k, own', S', rfl, e1, e2, e3, e4, eB, e5, e6, e7, e8, e9, eo, e10, e11⟩ | ⟨h', tk, j, h₁, e₀, no, cls, rfl, e1, e2, e3, e4, e5, en, e6, e7⟩ | ⟨h', tk, j, h₁, no, rfl, e1, e2, en, e3, e4⟩ <;> refine ⟨h', tk, rfl, ?_⟩
    · obtain ⟨rfl, _⟩ := h1 e1
      obtain ⟨d, rfl⟩ := Nat.exists_eq_add_of_le e2
      have hS : S' = (fun k' => S k' || decide (k' = k)) := funext e8
      subst hS
      have hj : i + d < xs.size := (Array.getElem?_eq_some_iff.mp e3).1
      rw [upto_succ (Nat.le_add_right i d), ← List.append_assoc] at e9
      rw [show step2 ks (S, ps) i = .told (i + d) (fun k' => S k' || decide (k' = k), ps ++ upto i (i + d) ++ [i + d]) by rw [step2_seen d e6]; unfold step2; rw [drop_get e4, scan2, eB, if_neg Bool.false_ne_true]; dsimp only; rw [if_neg (by rw [e5]; exact Bool.false_ne_true)]]
      exact ⟨v, own', _, e2, e3, e7, .inl ⟨rfl, hj⟩, teller2 hlen hin hgn hsz r (_, _) _ _ e9 eo, e10, e11⟩
    · obtain ⟨rfl, _⟩ := h1 e1
      obtain ⟨d, rfl⟩ := Nat.exists_eq_add_of_le e2
      rw [upto_succ (Nat.le_add_right i d), ← List.append_assoc] at en
      have hst : step2 ks (S, ps) i = .err cls (i + d) (S, ps ++ upto i (i + d) ++ [i + d]) ∧ i + d < xs.size := by
        rw [step2_seen d e4]
        unfold step2
        rcases e3 with ⟨rfl, e3⟩ | ⟨rfl, q, e3, eB⟩
        · refine ⟨?_, hlen ▸ (List.getElem?_eq_some_iff.mp e3).1⟩
          rw [drop_get e3, scan2.eq_def]
          dsimp only
          rw [if_neg (by decide)]
        · refine ⟨?_, hlen ▸ (List.getElem?_eq_some_iff.mp e3).1⟩
          rw [drop_get e3, scan2.eq_def]
          dsimp only
          rw [if_pos eB]
      rw [hst.1]
      exact ⟨h₁, e₀, [(nl, no)], _, e2, hst.2, e5, .inl ⟨rfl, hst.2⟩, ⟨no, rfl, en⟩, hap2 no, e6, e7, e3.elim (fun z => .inl z.1) fun z => .inr z.1⟩
    · have : ∃ d, step2 ks (S, ps) i = .stop (S, ps ++ upto i d) ∧ NotesOk no (ps ++ upto i d) := by
        rcases e1 with ⟨e1, rfl⟩ | ⟨e1, e7, e5, e6⟩
        · refine ⟨i, ?_, ?_⟩
          · rw [h2 e1]; unfold step2; rw [List.drop_eq_nil_of_le (by omega), upto_self, List.append_nil]; rfl
          · rw [upto_self]; rw [upto_self] at en; exact en
        · obtain ⟨rfl, _⟩ := h1 e1
          have hj : xs.size ≤ j := Array.getElem?_eq_none_iff.mp e5
          obtain ⟨d, rfl⟩ := Nat.exists_eq_add_of_le e7
          refine ⟨_, ?_, en⟩
          rw [step2_seen d e6]; unfold step2; rw [List.drop_eq_nil_of_le (by omega)]; rfl
      obtain ⟨d, this, en'⟩ := this
      rw [this]
      exact ⟨h₁, [(nl, no)], _, e2, .inr ⟨⟨_, rfl⟩, rfl⟩, ⟨no, rfl, en'⟩, hap2 no, e3, e4⟩
end Mine
end
section
open PySem PySem.W PyProof.Rows PySem.Calls PySem.W.X
set_option Elab.async false
set_option maxRecDepth 100000
namespace Mine
section
variable {prog : Program} {w : World} {A : Around} {E : Value → Shared → Prop} {s : Shared} {env : Env}
theorem for_inv {target iter : PySem.Expr} {body orelse : List Stmt} {pos : Pos} {Q : Flow → Shared → Prop} (I : Value → Nat → Shared → Prop) (hE : PassesOwn (model prog w) A env E)
    (hev : wpAny (model prog w) A (eval iter env) (fun x s₁ => wpAny (model prog w) A (pyIter x) (fun itv s₂ => Hold (∃ n, I itv n s₂)) E s₁) E s)
    (turn : ∀ itv n s, I itv n s → wpAny (model prog w) A (pyNext itv) (fun r s₁ => match r with
      | none => wpAny (model prog w) A (execs orelse env) Q E s₁
      | some v => wpAny (model prog w) A (letOwnedTupleGo target itv v) (fun _ s₁' => wpAny (model prog w) A (assign target env v) (fun _ s₂ => wpAny (model prog w) A (execs body env) (fun f s₃ => match f with
            | .next | .cont => Hold (∃ m, m < n ∧ I itv m s₃)
            | .brk => Q .next s₃
            | .ret v => Q (.ret v) s₃) E s₂) E s₁') E s₁) E s)
    (hf : ∀ x, foldedSetIterable iter env x = pure x) : wpAny (model prog w) A (exec (.For target iter body orelse pos) env) Q E s := by
  rw [arm_exec_For]
  refine wpAny_bind (wpAny_standAt ?_)
  refine wpAny_bind (wpAny_mono hev (fun x s₁ h₁ => ?_) fun _ _ z => z)
  rw [hf]
  refine wpAny_bind (wpAny_pure ?_)
  refine wpAny_bind (wpAny_standAt ?_)
  refine wpAny_bind (wpAny_holding (wpAny_mono h₁ (fun itv s₂ h₂ => ?_) fun _ _ z => z))
  obtain ⟨n, hn⟩ := h₂
  refine wpAny_runOwn (codeAny_forLoop_any (I itv) (fun n s hI => ?_) n hn)
  refine wpAny_mono (turn itv n s hI) (fun r s₁ h₁ => ?_) hE
  cases r with
  | none => exact wpAny_mono h₁ (fun f s₃ h₃ => h₃) hE
  | some v =>
    refine wpAny_mono h₁ (fun _ s₂ h₂ => ?_) hE
    refine wpAny_mono h₂ (fun _ s₃ h₃ => ?_) hE
    refine wpAny_mono h₃ (fun f s₄ h₄ => ?_) hE
    cases f <;> exact h₄
theorem range_new {n : Int} {t : Tok} {Q : Value → Shared → Prop}
    (h : ∀ h' r a b tk, IsRange h' r 0 n 1 a t b → s.heap.get? r = none → (∀ x o, s.heap.get? x = some o → h'.get? x = some o) → Q (.ref r) { s with heap := h', toks := tk }) : wpAny (model prog w) A (call (.type "range") [.int n t]) Q E s :=
  PySem.call_range_1 (h _ _ _ _ _ (IsRange.new ..) (Heap.get?_none_of_le (Nat.le_refl _)) fun _ _ e => Heap.get?_push_of_some _ e)
theorem rangeIt_new {r : Addr} {n : Nat} {t u v : Tok} {Q : Value → Shared → Prop} (hr : IsRange s.heap r 0 n 1 t u v) (hn : n ≤ 1000)
    (h : ∀ h' ri, h'.get? ri = some { cls := .type "range_iterator", dict := none, data := .fields #[rawInt 0, rawInt n, rawInt 1], slots := #[] } → s.heap.get? ri = none → (∀ x o, s.heap.get? x = some o → h'.get? x = some o) → Q (.ref ri) { s with heap := h' }) : wpAny (model prog w) A (pyIter (.ref r)) Q E s := by
  refine wpAny_pyIter_range hr (small_one (by omega) (by omega) (by omega) (by omega)) ?_
  rw [rangeSize_one, show (if (0 : Int) < (n : Int) then (n : Int) - 0 else 0) = (n : Int) by split <;> omega]
  exact h _ _ (Heap.get?_push_size _ rfl) (Heap.get?_none_of_le (Nat.le_refl _)) fun _ _ e => Heap.get?_push_of_some _ e
theorem next2_any {it l : Addr} {xs : Array Value} {o : Obj} {i : Nat} {d : Value} {Q : Value → Shared → Prop} (hh : A.handled = none) (ho : s.heap.get? it = some o) (hl : s.heap.IsList l xs) (hi : ItAt l xs o i)
    (k : ∀ v h' o', h'.get? it = some o' → ItAt l xs o' (min xs.size (i + 1)) → Heap.ExtBut it s.heap h' → Q v { s with heap := h' }) : wpAny (model prog w) A (call (.builtin "next") [.ref it, d]) Q E s := by
  rcases hi with ⟨rfl, hi⟩ | ⟨⟨n, rfl⟩, rfl⟩
  · cases hx : xs[i]? with
    | none =>
      have : xs.size ≤ i := Array.getElem?_eq_none_iff.mp hx
      exact next2_stop hh ho (.inr ⟨rfl, hl, hx⟩) fun h' h1 h2 => k _ h' _ h1 (.inr ⟨⟨_, rfl⟩, Nat.min_eq_left (Nat.le_succ_of_le this)⟩) h2
    | some v =>
      have : i < xs.size := (Array.getElem?_eq_some_iff.mp hx).1
      exact next2_item ho hl hx fun h' h1 h2 => k _ h' _ h1 (.inl ⟨by rw [Nat.min_eq_right (Nat.succ_le_of_lt this)], Nat.min_le_left ..⟩) h2.extBut
  · exact next2_stop (l := l) (xs := xs) hh ho (.inl rfl) fun h' h1 h2 => k _ h' _ h1 (.inr ⟨⟨_, rfl⟩, Nat.min_eq_left (Nat.le_succ _)⟩) h2
end
noncomputable abbrev rangeIt (x left : Int) : Obj := { cls := .type "range_iterator", dict := none, data := .fields #[rawInt x, rawInt left, rawInt 1], slots := #[] }
end Mine
end
section
open PySem PySem.W PyProof.Rows PySem.Calls PySem.W.X
set_option Elab.async false
set_option maxRecDepth 100000
namespace Mine
section
variable {prog : Program} {w : World} {A : Around} {E : Value → Shared → Prop} {s : Shared} {env : Env}
/-- a list comprehension over a source that is over at once -/
theorem comp_over {elt iter : PySem.Expr} {x y : Str} {px py : Pos} {ifs : List PySem.Expr} {scope : Scope} {pos spos : Pos} {Q : Flow → Shared → Prop}
    (hsw : swapsWith (.ListComp elt [⟨.Name x px, iter, ifs, 0⟩] scope pos) (some (.Name y py)) spos.line env = pure true)
    (hfree : ∀ z ∈ scope.names, z.2 ≠ .free) (hcell : ∀ z ∈ scope.names, z.2 ≠ .cell) (hkind : scope.kind = .function)
    (hnames : ∀ z ∈ scope.names, z.2 = .local → scope.names.lookup z.1 = some .local)
    (hy : env.kindOf y = some .local) (hp : (env.scope.kind == .class || (env.scope.kind == .module && env.locals != env.globals)) = false)
    (h : wpAny (model prog w) A (eval iter env) (fun xv s₁ => wpAny (model prog w) A (pyIter xv) (fun it s₂ => ∃ m, s₂.heap.Ns env.locals m ∧
      (∀ (h' : Heap) (tk : Nat) (Q' : Option Value → Shared → Prop) (E' : Value → Shared → Prop), (∀ b o, s₂.heap.get? b = some o → h'.get? b = some o) → (∀ h'', (∀ b o, h'.get? b = some o → h''.get? b = some o) → Q' none { s₂ with heap := h'', toks := tk }) →
        wpAny (model prog w) A (pyNext it) Q' E' { s₂ with heap := h', toks := tk }) ∧
      (∀ (h' : Heap) (tk : Nat) (Q' : Value → Shared → Prop) (E' : Value → Shared → Prop), (∀ b o, s₂.heap.get? b = some o → h'.get? b = some o) → Q' it { s₂ with heap := h', toks := tk } → wpAny (model prog w) A (pyIter it) Q' E' { s₂ with heap := h', toks := tk }) ∧
      (∀ D h' tk, s₂.heap.get? D = none → h'.PlainList D #[] → h'.Ns env.locals (fun z => if z = y then some (.ref D) else m z) → (∀ b o, b ≠ env.locals → s₂.heap.get? b = some o → h'.get? b = some o) → Q .next { s₂ with heap := h', toks := tk })) E s₁) E s)
    (hs : ∀ x, foldedSetIterable iter env x = pure x) :
    wpAny (model prog w) A (exec (.Assign [.Name y py] (.ListComp elt [⟨.Name x px, iter, ifs, 0⟩] scope pos) spos) env) Q E s := by
  rw [exec_Assign_Name_used _ _ _ _ hsw]
  refine wpAny_bind (wpAny_standAt (wpAny_bind ?_))
  show wpAny _ A (do let _ ← comprehension (.ListComp elt [⟨.Name x px, iter, ifs, 0⟩] scope pos) scope env _ (newList []) false (eval iter env) (some (assign (.Name y py) env))) _ _ s
  refine wpAny_bind (wpAny_mono (wpAny_comprehension_use (Q := fun _ s' => Q .next s') rfl hs hfree hkind hnames (wpAny_mono h (fun xv s₁ h₁ => wpAny_mono h₁ (fun it s₂ h₂ => ?_) fun _ _ e => e) fun _ _ e => e))
    (fun _ s' hq => wpAny_pure (wpAny_pure hq)) fun _ _ e => e)
  obtain ⟨m, hn, hdone, hself, hQ⟩ := h₂
  refine wpAny_newObj_type (wpAny_newFunctionEnv hcell (by intro y hy; simp at hy) (fun h₁ hns₁ hsb₁ => ?_) hkind)
  dsimp only at hns₁ hsb₁ ⊢
  generalize hH2 : s₂.heap.push { cls := .type "list", dict := none, data := .seq ([] : List Value).toArray } = H2 at hns₁ hsb₁ ⊢
  have hC : H2.objs.size = s₂.heap.objs.size + 1 := by rw [← hH2, Heap.size_push]
  have hDC : s₂.heap.objs.size ≠ H2.objs.size := by rw [hC]; exact Nat.ne_of_lt (Nat.lt_succ_self _)
  have below : ∀ b, b < s₂.heap.objs.size → b ≠ H2.objs.size ∧ b ≠ s₂.heap.objs.size := fun b hb => ⟨by rw [hC]; exact Nat.ne_of_lt (Nat.lt_succ_of_lt hb), Nat.ne_of_lt hb⟩
  have old : ∀ b o, s₂.heap.get? b = some o → h₁.get? b = some o := fun b o e => hsb₁.extBut b o (below b (Heap.lt_size e)).1 (Heap.get?_push_of_some _ (hH2 ▸ Heap.get?_push_of_some _ e))
  have hacc : h₁.PlainList s₂.heap.objs.size #[] := ⟨_, hsb₁.extBut _ _ hDC (Heap.get?_push_of_some _ (hH2 ▸ Heap.get?_push_size _ rfl))⟩
  have hDn : s₂.heap.get? s₂.heap.objs.size = none := Heap.get?_none_of_le (Nat.le_refl _)
  have hCn : s₂.heap.get? H2.objs.size = none := Heap.get?_none_of_le (by rw [hC]; exact Nat.le_succ _)
  have loop : codeAny (model prog w) A (.compLoop (.ListComp elt [⟨.Name x px, iter, ifs, 0⟩] scope pos) 0 it (.ref s₂.heap.objs.size) (compEnv scope H2.objs.size env)) (fun r s' => match r with
          | .ok _ => wpAny (model prog w) A (assign (.Name y py) env (.ref s₂.heap.objs.size)) (fun _ s'' => ∃ m, s''.heap.Ns H2.objs.size m ∧ ∀ h', Heap.SameBut H2.objs.size s''.heap h' → Q .next { s'' with heap := h' }) E s'
          | .error x => ∃ m, s'.heap.Ns H2.objs.size m ∧ ∀ h', Heap.SameBut H2.objs.size s'.heap h' → wpAny (model prog w) A (passOn "comprehension.variables-let-go" x (compEnv scope H2.objs.size env)) (fun (_ : Value) s' => Q .next s') E { s' with heap := h' })
        { s₂ with heap := h₁, toks := s₂.toks + ([] : List (Str × Value)).length } := by
    refine codeAny_compLoop_tests (fun _ s' => s' = { s₂ with heap := h₁, toks := s₂.toks + ([] : List (Str × Value)).length }) ?_ 0 rfl
    rintro k _ rfl
    refine hdone h₁ _ _ _ old fun h₂ up => ?_
    have hLC : env.locals ≠ H2.objs.size := by intro z; obtain ⟨o, _, _, ho, _⟩ := hn; rw [z, hCn] at ho; cases ho
    have hLD : env.locals ≠ s₂.heap.objs.size := by intro z; obtain ⟨o, _, _, ho, _⟩ := hn; rw [z, hDn] at ho; cases ho
    have hn₂ : h₂.Ns env.locals m := (hn.keeps old).keeps up
    dsimp only
    refine wpAny_assign_Name (wpAny_storeName_local hy hn₂ (fun h₃ hn₃ hs₃ => ?_) hp)
    refine ⟨_, (hns₁.keeps up).sameBut hs₃ (Ne.symm hLC), fun h₄ hs₄ => ?_⟩
    refine hQ _ h₄ _ hDn (((hacc.at fun o e => up _ _ e).at fun o e => hs₃.extBut _ _ (Ne.symm hLD) e).at fun o e => hs₄.extBut _ _ hDC e) (hn₃.sameBut hs₄ hLC) fun b o hbL e => ?_
    exact hs₄.extBut b o (fun z => by rw [z, hCn] at e; cases e) (hs₃.extBut b o hbL (up _ _ (old _ _ e)))
  exact codeAny_compStart_list loop (hself h₁ _ _ _ old loop)
end
theorem walks_it {prog : Program} {w : World} {A : Around} (hh : A.handled = none) (it l : Addr) (hne : l ≠ it) (xs : Array Value) (i : Nat) (hi : i ≤ xs.size) :
    Walks prog w A it [it, l] [it] (xs.size - i) (fun j v => xs[i + j]? = some v) (fun j h => ∃ o, h.get? it = some o ∧ ItAt l xs o (i + j) ∧ h.IsList l xs) where
  sub := fun b hb => by simp at hb; simp [hb]
  frame := fun _ _ _ ⟨o, h1, h2, h3⟩ hk => ⟨o, hk it (by simp) o h1, h2, h3.at fun o e => hk l (by simp) o e⟩
  item := fun j s Q E hj ⟨o, h1, h2, h3⟩ hQ => by
    have hlt : i + j < xs.size := by omega
    rcases h2 with ⟨rfl, _⟩ | ⟨_, z⟩
    · refine pyNext_item h1 h3 (x := xs[i + j]) (by simp [hlt]) fun h' k1 k2 => ?_
      exact hQ _ h' s.toks (by simp [hlt]) ⟨_, k1, .inl ⟨rfl, hlt⟩, h3.extBut k2.extBut hne⟩ fun b o hb e => k2.extBut b o (fun h => hb (by simp [h])) e
    · omega
  done := fun s Q E ⟨o, h1, h2, h3⟩ hQ => by
    have key : ∃ n, o = itEnd n ∨ (o = itObj l n ∧ s.heap.IsList l xs ∧ xs[n]? = none) := by
      rcases h2 with ⟨rfl, _⟩ | ⟨⟨n, rfl⟩, _⟩
      · exact ⟨_, .inr ⟨rfl, h3, Array.getElem?_eq_none_iff.mpr (by omega)⟩⟩
      · exact ⟨n, .inl rfl⟩
    obtain ⟨n, key⟩ := key
    exact pyNext_stop hh h1 key fun h' k1 k2 => hQ h' s.toks fun b o hb e => k2 b o (fun h => hb (by simp [h])) e
  self := fun _ _ _ _ ⟨o, h1, h2, h3⟩ hQ => pyIter_it h1 (by rcases h2 with ⟨rfl, _⟩ | ⟨⟨n, rfl⟩, _⟩ <;> rfl) hQ
end Mine
end
section
open PySem PySem.W PyProof.Rows PySem.Calls PySem.W.X
set_option Elab.async false
set_option maxRecDepth 100000
namespace Mine
theorem paired_eq {α : Type} : ∀ {l₁ l₂ : List α}, Paired (fun a b => a = b) l₁ l₂ → l₁ = l₂
  | _, _, .nil => rfl
  | _, _, .cons h t => by rw [h, paired_eq t]
/-- [x for x in walker], inside an expression -/
theorem walker_comp {prog : Program} {w : World} {A : Around} {E : Value → Shared → Prop} {s : Shared} {env : Env} {scope : Scope} {x : Str} {px : Pos} {it l : Addr} {o : Obj} {xs : Array Value} {i : Nat} {Q : Value → Shared → Prop}
   (hh : A.handled = none) (ho : s.heap.get? it = some o) (hat : ItAt l xs o i) (hl : s.heap.IsList l xs) (hne : l ≠ it) (hsz : xs.size ≤ sizeLine) (hk : scope.kind = .function) (hx : scope.names.lookup x = some .local) (hd : (x == ("__debug__" : Str)) = false)
   (k : ∀ D h' tk, s.heap.get? D = none → h'.PlainList D (xs.toList.drop i).toArray → (∀ b o, b ≠ it → s.heap.get? b = some o → h'.get? b = some o) → Q (.ref D) { s with heap := h', toks := tk }) :
   wpAny (model prog w) A (pyIter (.ref it)) (CompPost prog w A env scope x [] (.Name x px) Q) E s := by
  have hi : i ≤ xs.size := by
    rcases hat with ⟨_, z⟩ | ⟨_, z⟩
    · exact z
    · exact Nat.le_of_eq z
  refine pyIter_it ho (by rcases hat with ⟨rfl, _⟩ | ⟨⟨n, rfl⟩, _⟩ <;> rfl) ?_
  refine ⟨fun _ => true, fun a b => a = b, it, [it, l], [it], xs.size - i, _, _, rfl, walks_it hh it l hne xs i hi, Nat.le_trans (Nat.sub_le ..) hsz, ⟨o, ho, hat, hl⟩, ?_, ⟨?_, ?_⟩, ?_⟩
  · intro b hb
    refine mem_elim hb ?_ fun hb => ?_
    · exact Heap.lt_size ho
    · refine mem_one hb ?_
      obtain ⟨_, e, _⟩ := hl
      exact Heap.lt_size e
  · intro C j v s₃ m₃ E' _ _ _ _ _
    exact wpAny_pure ⟨rfl, s₃.heap, s₃.toks, rfl, fun _ _ e => e⟩
  · intro C j v s₃ m₃ E' _ _ hn hm _ _
    exact wpAny_Name (wpAny_loadName_local hk hx hn hm ⟨rfl, s₃.heap, s₃.toks, rfl, fun _ _ e => e⟩) hd
  · intro D h' tk ys vs hD hl' hpl hlen hP hF hk
    have e1 : ys.toList = vs := by exact (paired_eq hF).symm.trans (List.filter_eq_self.mpr fun _ _ => rfl)
    have e2 : vs = xs.toList.drop i := by
      apply List.ext_getElem?
      intro j
      cases e : vs[j]? with
      | some v => rw [List.getElem?_drop]; simpa using (hP j v e).symm
      | none =>
        have h1 : vs.length ≤ j := List.getElem?_eq_none_iff.mp e
        exact (List.getElem?_eq_none_iff.mpr (by simp; omega)).symm
    refine k D h' tk hD ?_ fun b o hb e => hk b o (by simpa using hb) e
    rw [← e2, ← e1, Array.toArray_toList]
    exact hpl
end Mine
end
section
set_option Elab.async false
theorem Mine.off_HL : True ∧ True := by
  w_top off
  first | walk1 | skip
  all_goals (first | trivial | exact ⟨trivial, trivial⟩)
end
section
open PySem PySem.W PyProof.Rows PySem.Calls PySem.W.X
set_option Elab.async false
set_option maxRecDepth 100000
set_option maxHeartbeats 1000000
set_option pp.deepTerms false
set_option pp.deepTerms.threshold 5
namespace Mine
local macro_rules | `(tactic| walk_at $s:str) => if ["exec While Compare", "exec For Name Call cons nil", "call type:range", "exec Assign cons ListComp"].contains s.getString then `(tactic| (k_here; refine hold ?_)) else Lean.Macro.throwUnsupported
local macro_rules | `(tactic| walk_at "exec") => `(tactic| (k_here; with_reducible refine hold_try ?_))
/-- how a hearing goes: the places told, the word, the place behind, the rest -/
noncomputable def heardRun {σ : Type} (step : σ → Nat → Out σ) (takes : Nat → Nat) (size : Nat) : Nat → σ → Nat → List Nat → List Nat × String × Nat × σ
  | 0, x, i, t => (t, "", i, x)
  | f + 1, x, i, t => match step x i with
    | .stop x' => (t, "over", size, x')
    | .err cls j x' => (t, if cls = "TypeError" then "no hash" else "refused", j + 1, x')
    | .told j x' => heardRun step takes size f x' (min size (j + 1 + takes t.length)) (t ++ [j])
noncomputable abbrev mH (vend vone : Option Value) (l tkl it hl G : Addr) (keyv : Value) : Str → Option Value := fun y => if y = Str.ofString "end" then vend else if y = Str.ofString "one" then vone else if y = Str.ofString "teller" then some (.ref G) else if y = Str.ofString "walker" then some (.ref it) else
  if y = Str.ofString "heard" then some (.ref hl) else if y = Str.ofString "row" then some (.ref l) else if y = Str.ofString "key" then some keyv else if y = Str.ofString "takes" then some (.ref tkl) else none
noncomputable def Told (xs : Array Value) (hv : Array Value) (t : List Nat) : Prop := hv.toList.map some = t.map (fun j => xs[j]?)
/-- the frames of the stack below may have been made ready; all else as it was -/
noncomputable def Rel (fs : List Addr) (led led' : List (Addr × Obj)) : Prop := (∀ p' ∈ led', ∃ p ∈ led, p.1 = p'.1) ∧ ∀ p ∈ led, (p.1 ∉ fs → p ∈ led') ∧ ∃ sl, (p.1, { p.2 with slots := sl }) ∈ led'
theorem Rel.refl (fs : List Addr) (led : List (Addr × Obj)) : Rel fs led led := ⟨fun p hp => ⟨p, hp, rfl⟩, fun p hp => ⟨fun _ => hp, p.2.slots, hp⟩⟩
theorem Slid.trans {fs : List Addr} {a b c : Heap} (x : Slid fs a b) (y : Slid fs b c) : Slid fs a c :=
  ⟨fun d o h n => y.1 d o (x.1 d o h n) n, fun d o h => let ⟨_, e⟩ := x.2 d o h; let ⟨sl, e'⟩ := y.2 d _ e; ⟨sl, e'⟩⟩
/-- after an error: the ledger of what slid -/
theorem slid_news {g h h' : Heap} {L : Addr} {fs : List Addr} {led : List (Addr × Obj)} (sl : Slid (L :: fs) h h') (hs : ∀ p ∈ led, h.get? p.1 = some p.2) (hn : ∀ p ∈ led, p.1 ≠ L ∧ g.get? p.1 = none) : ∃ led', Rel fs led led' ∧ News g L h' led' := by
  have key : ∀ p ∈ led, ∃ sl', h'.get? p.1 = some { p.2 with slots := sl' } := fun p hp => sl.2 _ _ (hs p hp)
  refine ⟨led.map fun p => (p.1, (h'.get? p.1).getD p.2), ⟨fun p' hp' => ?_, fun p hp => ⟨fun hf => ?_, ?_⟩⟩, fun p' hp' => ?_⟩
  · obtain ⟨p, hp, rfl⟩ := List.mem_map.mp hp'
    exact ⟨p, hp, rfl⟩
  · have := sl.1 _ _ (hs p hp) fun m => by
      rcases List.mem_cons.mp m with e | m
      · exact (hn p hp).1 e
      · exact hf m
    exact List.mem_map.mpr ⟨p, hp, by rw [this]; rfl⟩
  · obtain ⟨sl', e⟩ := key p hp
    exact ⟨sl', List.mem_map.mpr ⟨p, hp, by rw [e]; rfl⟩⟩
  · obtain ⟨p, hp, rfl⟩ := List.mem_map.mp hp'
    obtain ⟨sl', e⟩ := key p hp
    exact ⟨by dsimp only; rw [e]; rfl, hn p hp⟩
theorem setGen_push {s₀ : Shared} {gs gs' : GenState} {h : Heap} {tk : Nat} : ({ s₀ with heap := h, gens := s₀.gens.push gs, toks := tk } : Shared).setGen s₀.gens.size gs' = { s₀ with heap := h, gens := s₀.gens.push gs', toks := tk } := by
  unfold Shared.setGen
  congr 1
  apply Array.ext'
  simp [List.set_append]
theorem setGen_push2 {s₀ : Shared} {gs gs' : GenState} {h h' : Heap} {tk tk' : Nat} : ({ ({ s₀ with heap := h, gens := s₀.gens.push gs, toks := tk } : Shared).setGen s₀.gens.size .running with heap := h', toks := tk' } : Shared).setGen s₀.gens.size gs' = { s₀ with heap := h', gens := s₀.gens.push gs', toks := tk' } := by
  unfold Shared.setGen
  congr 1
  apply Array.ext'
  simp [List.set_append]
structure HeardRun {σ : Type} (prog : Program) (w : World) (g : Heap) (fs : List Addr) (Lh it l tkl hl G : Addr) (keyv : Value) (n₀ n₁ : Value) (xs : Array Value) (led : List (Addr × Obj)) (step : σ → Nat → Out σ) (takes : Nat → Nat) (Own : σ → List (Addr × Obj) → Prop) (Pre : σ → Nat → Prop) (final : List Nat × String × Nat × σ) (s₀ : Shared)
   (n : Nat) (s' : Shared) (h : Heap) (tk : Nat) (o : Obj) (hv : Array Value) (ep : Nat) (vone : Option Value) (te : Tok) (x : σ) (r f : Nat) (own : List (Addr × Obj)) (gs : GenState) (i : Nat) (t : List Nat) : Prop where
  fr : Fr g Lh h (mH (some (.str (Str.ofString "") te)) vone l tkl it hl G keyv)
  eq : s' = { s₀ with heap := h, gens := s₀.gens.push gs, toks := tk }
  news : News g Lh h ((it, o) :: (hl, W.listOf hv ep) :: (G, genObj s₀.gens.size n₀ n₁) :: (own ++ led))
  itAt : ItAt l xs o i
  tells : Teller prog w g it l xs step Own Pre r x own gs
  pre : Pre x i
  len : t.length ≤ i
  told : Told xs hv t
  num : n = xs.size + 1 - i
  fuel : n ≤ r ∧ n ≤ f
  fin : heardRun step takes xs.size f x i t = final
  apart : ∀ p ∈ own, it ≠ p.1 ∧ hl ≠ p.1 ∧ G ≠ p.1 ∧ Lh ≠ p.1 ∧ ∀ q ∈ led, p.1 ≠ q.1
structure HeardOver {σ : Type} (g : Heap) (fs : List Addr) (Lh it l tkl hl G : Addr) (keyv : Value) (n₀ n₁ : Value) (xs : Array Value) (led : List (Addr × Obj)) (Own : σ → List (Addr × Obj) → Prop) (final : List Nat × String × Nat × σ) (s₀ : Shared)
   (s' : Shared) (h : Heap) (tk : Nat) (o : Obj) (hv : Array Value) (ep : Nat) (vone : Option Value) (te : Tok) (ow led' : List (Addr × Obj)) : Prop where
  fr : Fr g Lh h (mH (some (.str (Str.ofString final.2.1) te)) vone l tkl it hl G keyv)
  word : (Str.ofString final.2.1 == Str.ofString "") = false
  eq : s' = { s₀ with heap := h, gens := s₀.gens.push .finished, toks := tk }
  news : News g Lh h ((it, o) :: (hl, W.listOf hv ep) :: (G, genObj s₀.gens.size n₀ n₁) :: (ow ++ led'))
  rel : Rel fs led led'
  itAt : ItAt l xs o final.2.2.1
  own : Own final.2.2.2 ow
  told : Told xs hv final.1
  apart : ∀ p ∈ ow, it ≠ p.1 ∧ hl ≠ p.1 ∧ G ≠ p.1 ∧ Lh ≠ p.1 ∧ ∀ q ∈ led', p.1 ≠ q.1

inductive HeardEnd {σ : Type} (g : Heap) (fs : List Addr) (xs : Array Value) (led : List (Addr × Obj)) (Own : σ → List (Addr × Obj) → Prop) (final : List Nat × String × Nat × σ) (s₀ : Shared) (r : Result) (s' : Shared) : Prop
  | mk : ∀ h' tk D0 hl D D2 hv ep nD n2 te ow led', (r = .ok (.ret (.ref D0)))
      → (s' = { s₀ with heap := h', gens := s₀.gens.push .finished, toks := tk })
      → (g.StaysIn h')
      → ((∀ p ∈ [(D0, W.listOf #[.ref hl, .str (Str.ofString final.2.1) te, .ref D, .ref D2] 0), (D2, W.listOf (List.drop final.2.2.1 xs.toList).toArray n2), (D, W.listOf #[] nD), (hl, W.listOf hv ep)], h'.get? p.1 = some p.2 ∧ g.get? p.1 = none ∧ (∀ q ∈ led, p.1 ≠ q.1) ∧ ∀ q ∈ ow, p.1 ≠ q.1))
      → (Told xs hv final.1)
      → (Rel fs led led')
      → ((∀ p ∈ ow ++ led', h'.get? p.1 = some p.2))
      → (Own final.2.2.2 ow) → HeardEnd g fs xs led Own final s₀ r s'
local macro_rules | `(tactic| k_all) => `(tactic| first | assumption | (refine' List.forall_mem_cons.mpr ⟨?a, ?b⟩; (case a => k_ne); (case b => k_all)))
noncomputable def bodyOf (fd : FuncData) : List Stmt := match fd.body with | .stmts b => b | _ => []
theorem heard_loop {w : World} {A : Around} {s₀ s : Shared} {mean : ExcName → Option Value} {loose : List Str} {mg mb : Str → Option Value} {l tkl Lh it hl G : Addr} {keyv n₀ n₁ : Value} {R : Result → Shared → Prop} {g : Heap} {fd : FuncData} {oc : Value} {od : Option Addr} {osl : Array (Option Value)}
   {fs : List Addr} {led : List (Addr × Obj)} {xs tks : Array Value} {takes : Nat → Nat} {σ : Type} {step : σ → Nat → Out σ} {Own : σ → List (Addr × Obj) → Prop} {Pre : σ → Nat → Prop} {final : List Nat × String × Nat × σ}
   (X : (Mine.hd.heap_39 w.params).In g) (T : Top topProg loose mean mg mb g) (hfd : ((Mine.hd.heap_39 w.params)).lookup 78 = some ⟨oc, od, .func fd, osl⟩) (hroom : A.depth < 350) (hu : A.units < 3000) (hhn : A.handled = none) (hst : ∃ outer, A.frames = some outer ∧ ∀ x ∈ outer, FrOk fs x) (hfr : ∀ a ∈ fs, ∃ ob, (a, ob) ∈ led ∧ ∀ vs, ob.data ≠ .fields vs)
   (hrow : g.IsList l xs) (hxs : xs.size ≤ 50) (htl : g.IsList tkl tks) (htk : ∀ j, j < xs.size → ∃ t, tks[j]? = some (.int (takes j) t) ∧ takes j ≤ 2)
   (hpre : ∀ x i i', Pre x i → i ≤ i' → Pre x i') (hpre2 : ∀ x i j x', Pre x i → step x i = .told j x' → Pre x' (j + 1))
   (hR : ∀ r s', HeardEnd g fs xs led Own final s₀ r s' → R r s')
   (hap : ∀ a ∈ [it, hl, G, Lh], ∀ q ∈ led, a ≠ q.1) (hap2 : it ≠ hl ∧ it ≠ G ∧ hl ≠ G)
   {n : Nat} {h : Heap} {tk : Nat} {o : Obj} {hv : Array Value} {ep : Nat} {vone : Option Value} {te : Tok} {x : σ} {r f : Nat} {own : List (Addr × Obj)} {gs : GenState} {i : Nat} {t : List Nat}
   (H : HeardRun PySem.Challenge.rw_dz0055_01.row.prog w g fs Lh it l tkl hl G keyv n₀ n₁ xs led step takes Own Pre final s₀ n s h tk o hv ep vone te x r f own gs i t) :
   wpAny (model PySem.Challenge.rw_dz0055_01.row.prog w) (A.deeper (callEnv fd Lh 78)) (execs ((bodyOf fd).drop 2) (callEnv fd Lh 78)) (fun f s' => R (.ok (.ret (match f with | .ret v => v | _ => .none))) s')
        (fun e s' => wpAny (model PySem.Challenge.rw_dz0055_01.row.prog w) (A.deeper (callEnv fd Lh 78)) (leaving (callEnv fd Lh 78) e) (fun _ s'' => R (.error e) s'') (fun e' s'' => R (.error e') s'') s') s := by
  revert X hfd
  k_fill
  intro X hfd
  have e := hfd.symm.trans (show _ = some _ by k_is)
  injection e with e
  injection e with _ _ e _
  injection e with e
  subst e
  clear hfd
  dsimp only [bodyOf, List.drop]
  have F := H.fr
  have N := H.news
  obtain rfl := H.eq
  repeat' walk1
  obtain ⟨I, hI1, hI2, hI⟩ : ∃ I : Nat → Shared → Prop, (∀ {n s' h tk o hv ep vone te x r f own gs i t}, HeardRun PySem.Challenge.rw_dz0055_01.row.prog w g fs Lh it l tkl hl G keyv n₀ n₁ xs led step takes Own Pre final s₀ n s' h tk o hv ep vone te x r f own gs i t → I n s') ∧ (∀ {s' h tk o hv ep vone te ow led'}, HeardOver g fs Lh it l tkl hl G keyv n₀ n₁ xs led Own final s₀ s' h tk o hv ep vone te ow led' → I 0 s') ∧
      (∀ {n s'} {P : Prop}, I n s' → (∀ h tk o hv ep vone te x r f own gs i t, HeardRun PySem.Challenge.rw_dz0055_01.row.prog w g fs Lh it l tkl hl G keyv n₀ n₁ xs led step takes Own Pre final s₀ n s' h tk o hv ep vone te x r f own gs i t → P) → (n = 0 → ∀ h tk o hv ep vone te ow led', HeardOver g fs Lh it l tkl hl G keyv n₀ n₁ xs led Own final s₀ s' h tk o hv ep vone te ow led' → P) → P) :=
    ⟨fun n s' => (∃ h tk o hv ep vone te x r f own gs i t, HeardRun PySem.Challenge.rw_dz0055_01.row.prog w g fs Lh it l tkl hl G keyv n₀ n₁ xs led step takes Own Pre final s₀ n s' h tk o hv ep vone te x r f own gs i t) ∨ (n = 0 ∧ ∃ h tk o hv ep vone te ow led', HeardOver g fs Lh it l tkl hl G keyv n₀ n₁ xs led Own final s₀ s' h tk o hv ep vone te ow led'),
      fun H => .inl ⟨_, _, _, _, _, _, _, _, _, _, _, _, _, _, H⟩, fun H => .inr ⟨rfl, _, _, _, _, _, _, _, _, _, H⟩, fun z a b => by
        rcases z with ⟨h, tk, o, hv, ep, vone, te, x, r, f, own, gs, i, t, H⟩ | ⟨e, h, tk, o, hv, ep, vone, te, ow, led', H⟩
        · exact a _ _ _ _ _ _ _ _ _ _ _ _ _ _ H
        · exact b e _ _ _ _ _ _ _ _ _ H⟩
  refine hideQE (by passes_own) fun Q₁ E₁ hQ₁ hE₁ hP₁ => ?_
  refine while_inv I hP₁ ?_ _ (hI1 H)
  clear F N H
  intro n s' hI0
  refine hI hI0 (fun h tk o hv ep vone te x r f own gs i t H => ?_) (fun hn0 h tk o hv ep vone te ow led' H => ?_) <;> clear hI0 hI
  · have F := H.fr
    have N := H.news
    obtain rfl := H.eq
    repeat' walk1
    refine wpAny_Try_except ?_
    repeat' walk1
    have hi : i ≤ xs.size := by
      rcases H.itAt with ⟨_, z⟩ | ⟨_, z⟩
      · exact z
      · exact Nat.le_of_eq z
    have hnum := H.num
    have hfuel := H.fuel
    have hn0 := num_pos hnum hi
    obtain ⟨r', rfl⟩ := succ_of hn0 hfuel.1
    obtain ⟨f', rfl⟩ := succ_of hn0 hfuel.2
    obtain ⟨oh, es₀, ep₀, hoh, hdat, hns₀⟩ := F.ns
    obtain ⟨outer, st1, st2⟩ := hst
    have hLg : g.get? Lh = none := by
      cases q : g.get? Lh with
      | none => rfl
      | some o => exact absurd (Heap.lt_size q) (Nat.not_lt_of_le F.above)
    have eL : it ≠ Lh ∧ hl ≠ Lh ∧ G ≠ Lh := ⟨(N _ (.head _)).2.1, (N _ (.tail _ (.head _))).2.1, (N _ (.tail _ (.tail _ (.head _)))).2.1⟩
    have hgen : (s₀.gens.push gs)[s₀.gens.size]? = some gs := by simp
    have hSite : ∀ {env : Env}, env.scope.kind ≠ .module → env.frame = some Lh → Site (A.deeper env).in1.in1 g (Lh :: fs) ((it, o) :: (own ++ ((hl, W.listOf hv ep) :: (G, genObj s₀.gens.size n₀ n₁) :: (Lh, oh) :: led))) h := by
      intro env hk hf
      refine ⟨F.keep, Nat.le_trans F.above (Nat.le_of_lt F.ns.lt), fun p hp => ?_, fun a ha => ?_, ⟨env :: outer, Around.frames_deeper st1, deep_ok st2 hk hf⟩, hhn⟩
      · refine mem_elim hp ?_ fun hp => ?_
        · exact ⟨(N _ (.head _)).1, (N _ (.head _)).2.2⟩
        rcases List.mem_append.mp hp with hp | hp
        · exact ⟨(N p (.tail _ (.tail _ (.tail _ (List.mem_append_left _ hp))))).1, (N p (.tail _ (.tail _ (.tail _ (List.mem_append_left _ hp))))).2.2⟩
        refine mem_elim hp ?_ fun hp => ?_
        · exact ⟨(N _ (.tail _ (.head _))).1, (N _ (.tail _ (.head _))).2.2⟩
        refine mem_elim hp ?_ fun hp => ?_
        · exact ⟨(N _ (.tail _ (.tail _ (.head _)))).1, (N _ (.tail _ (.tail _ (.head _)))).2.2⟩
        refine mem_elim hp ?_ fun hp => ?_
        · exact ⟨hoh, hLg⟩
        · exact ⟨(N p (.tail _ (.tail _ (.tail _ (List.mem_append_right _ hp))))).1, (N p (.tail _ (.tail _ (.tail _ (List.mem_append_right _ hp))))).2.2⟩
      · refine mem_elim ha ?_ fun ha => ?_
        · exact ⟨oh, .tail _ (List.mem_append_right _ (.tail _ (.tail _ (.head _)))), fun vs q => by rw [hdat] at q; cases q⟩
        · obtain ⟨o, ho, hd⟩ := hfr a ha
          exact ⟨o, .tail _ (List.mem_append_right _ (.tail _ (.tail _ (.tail _ ho)))), hd⟩
    refine next_gen (A := A.deeper _) hhn (T.nolimit.keeps F.keep) (by show A.depth + 1 < 1000; omega) (N.get (.tail _ (.tail _ (.head _)))) hgen (H.tells _ _ (Lh :: fs) ((hl, W.listOf hv ep) :: (G, genObj s₀.gens.size n₀ n₁) :: (Lh, oh) :: led) i o (by show A.depth + 1 < 400; omega) (by show A.units + 3 + 1 + 1 < 4000; omega) (hSite (fun z => nomatch z) rfl) H.itAt ?_ ?_ ?_ H.pre) fun e s₁ hP => ?_
    · intro p hp
      rcases List.mem_append.mp hp with hp | hp
      · exact (H.apart p hp).1
      refine mem_elim hp ?_ fun hp => ?_
      · exact hap2.1
      refine mem_elim hp ?_ fun hp => ?_
      · exact hap2.2.1
      refine mem_elim hp ?_ fun hp => ?_
      · exact eL.1
      · exact hap _ (by first | exact inl0 | exact inl1 | exact inl2 | exact inl3 | exact inl4 | exact inl5 | exact inl6 | exact inl7) p hp
    · intro p hp q hq
      obtain ⟨a1, a2, a3, a4, a5⟩ := H.apart p hp
      refine mem_elim hq ?_ fun hq => ?_
      · exact a2.symm
      refine mem_elim hq ?_ fun hq => ?_
      · exact a3.symm
      refine mem_elim hq ?_ fun hq => ?_
      · exact a4.symm
      · exact a5 q hq
    · intro a ha
      refine mem_elim ha ?_ fun ha => ?_
      · exact ⟨oh, .tail _ (.tail _ (.head _)), fun vs q => by rw [hdat] at q; cases q⟩
      · obtain ⟨o, ho, hd⟩ := hfr a ha
        exact ⟨o, .tail _ (.tail _ (.tail _ ho)), hd⟩
    obtain ⟨h', tk', rfl, hP⟩ := hP
    have hfin := H.fin
    rw [heardRun] at hfin
    have hfsl : ∀ a ∈ fs, ∃ ob, (a, ob) ∈ led := fun a ha => let ⟨ob, h1, _⟩ := hfr a ha; ⟨ob, h1⟩
    have nofs : ∀ a, (∀ q ∈ led, a ≠ q.1) → a ≠ Lh → a ∉ Lh :: fs := fun a h1 h2 m => by
      rcases List.mem_cons.mp m with e | m
      · exact h2 e
      · obtain ⟨ob, h3⟩ := hfsl a m
        exact h1 _ h3 rfl
    have hGn := nofs G (hap _ (by first | exact inl0 | exact inl1 | exact inl2 | exact inl3 | exact inl4 | exact inl5 | exact inl6 | exact inl7)) eL.2.2
    have mk : ∀ {h₁ h₃ : Heap} {o' : Obj} {own' : List (Addr × Obj)}, Aft g ((it, o') :: (own' ++ ((hl, W.listOf hv ep) :: (G, genObj s₀.gens.size n₀ n₁) :: (Lh, oh) :: led))) h₁ → Slid (Lh :: fs) h₁ h₃ → Fr g Lh h₃ (mH (some (.str (Str.ofString "") te)) vone l tkl it hl G keyv) := fun Af sl => by
      have hob₁ := Af.has _ (.tail _ (List.mem_append_right _ (.tail _ (.tail _ (.head _)))))
      obtain ⟨sl', e'⟩ := sl.2 _ _ hob₁
      refine ⟨⟨_, es₀, ep₀, e', hdat, hns₀⟩, fun b o hb => sl.1 b o (Af.stay b o hb) fun m => ?_, F.above⟩
      rcases List.mem_cons.mp m with e | m
      · rw [e, hLg] at hb; cases hb
      · obtain ⟨ob, h3⟩ := hfsl b m
        have := (N _ (.tail _ (.tail _ (.tail _ (List.mem_append_right _ h3))))).2.2
        rw [this] at hb; cases hb
    have mkN : ∀ {h₁ h₃ : Heap} {o' : Obj} {own' : List (Addr × Obj)}, Aft g ((it, o') :: (own' ++ ((hl, W.listOf hv ep) :: (G, genObj s₀.gens.size n₀ n₁) :: (Lh, oh) :: led))) h₁ → Apart it g own' ((hl, W.listOf hv ep) :: (G, genObj s₀.gens.size n₀ n₁) :: (Lh, oh) :: led) → Slid (Lh :: fs) h₁ h₃ → ∃ led', Rel fs led led' ∧ News g Lh h₃ ((it, o') :: (hl, W.listOf hv ep) :: (G, genObj s₀.gens.size n₀ n₁) :: (own' ++ led')) := fun Af hap' sl => by
      obtain ⟨led', hrel, Nl⟩ := slid_news (led := led) sl (fun p hp => Af.has p (.tail _ (List.mem_append_right _ (.tail _ (.tail _ (.tail _ hp)))))) fun p hp => (N p (.tail _ (.tail _ (.tail _ (List.mem_append_right _ hp))))).2
      refine ⟨led', hrel, fun p hp => ?_⟩
      refine mem_elim hp ?_ fun hp => ?_
      · exact ⟨sl.1 _ _ (Af.has _ (.head _)) (nofs it (hap _ (by first | exact inl0 | exact inl1 | exact inl2 | exact inl3 | exact inl4 | exact inl5 | exact inl6 | exact inl7)) eL.1), (N _ (.head _)).2⟩
      refine mem_elim hp ?_ fun hp => ?_
      · exact ⟨sl.1 _ _ (Af.has _ (.tail _ (List.mem_append_right _ (.head _)))) (nofs hl (hap _ (by first | exact inl0 | exact inl1 | exact inl2 | exact inl3 | exact inl4 | exact inl5 | exact inl6 | exact inl7)) eL.2.1), (N _ (.tail _ (.head _))).2⟩
      refine mem_elim hp ?_ fun hp => ?_
      · exact ⟨sl.1 _ _ (Af.has _ (.tail _ (List.mem_append_right _ (.tail _ (.head _))))) hGn, (N _ (.tail _ (.tail _ (.head _)))).2⟩
      rcases List.mem_append.mp hp with hp | hp
      · obtain ⟨b1, b2, b3⟩ := hap' p hp
        exact ⟨sl.1 _ _ (Af.has _ (.tail _ (List.mem_append_left _ hp))) (nofs _ (fun q hq => b3 q (.tail _ (.tail _ (.tail _ hq)))) (b3 (Lh, oh) (.tail _ (.tail _ (.head _))))), b3 (Lh, oh) (.tail _ (.tail _ (.head _))), b2⟩
      · exact Nl p hp
    have apO : ∀ {own' led' : List (Addr × Obj)}, Apart it g own' ((hl, W.listOf hv ep) :: (G, genObj s₀.gens.size n₀ n₁) :: (Lh, oh) :: led) → Rel fs led led' → ∀ p ∈ own', it ≠ p.1 ∧ hl ≠ p.1 ∧ G ≠ p.1 ∧ Lh ≠ p.1 ∧ ∀ q ∈ led', p.1 ≠ q.1 := fun hap' hrel p hp => by
      obtain ⟨b1, b2, b3⟩ := hap' p hp
      refine ⟨b1, (b3 (hl, W.listOf hv ep) (.head _)).symm, (b3 (G, genObj s₀.gens.size n₀ n₁) (.tail _ (.head _))).symm, (b3 (Lh, oh) (.tail _ (.tail _ (.head _)))).symm, fun q hq => ?_⟩
      obtain ⟨q', hq', e⟩ := hrel.1 q hq
      exact e ▸ b3 q' (.tail _ (.tail _ (.tail _ hq')))
    cases hs : step x i with
    | told j x' =>
      clear mk mkN apO nofs hGn hfsl
      rw [hs] at hP hfin
      dsimp only at hfin
      obtain ⟨v, own', o', hij, hxv, hres, hit', Te', hap', Af⟩ := hP
      refine .inl ⟨v, hres, ?_⟩
      rw [setGen_push2]
      generalize e.genState = gs' at Te'
      have F' : Fr g Lh h' _ := ⟨⟨oh, es₀, ep₀, Af.has _ (.tail _ (List.mem_append_right _ (.tail _ (.tail _ (.head _))))), hdat, hns₀⟩, Af.stay, F.above⟩
      have N' : News g Lh h' ((it, o') :: (hl, W.listOf hv ep) :: (G, genObj s₀.gens.size n₀ n₁) :: (own' ++ led)) := by
        intro p hp
        refine mem_elim hp ?_ fun hp => ?_
        · exact ⟨Af.has _ (.head _), (N _ (.head _)).2⟩
        refine mem_elim hp ?_ fun hp => ?_
        · exact ⟨Af.has _ (.tail _ (List.mem_append_right _ (.head _))), (N _ (.tail _ (.head _))).2⟩
        refine mem_elim hp ?_ fun hp => ?_
        · exact ⟨Af.has _ (.tail _ (List.mem_append_right _ (.tail _ (.head _)))), (N _ (.tail _ (.tail _ (.head _)))).2⟩
        rcases List.mem_append.mp hp with hp | hp
        · obtain ⟨b1, b2, b3⟩ := hap' p hp
          exact ⟨Af.has _ (.tail _ (List.mem_append_left _ hp)), b3 (Lh, oh) (.tail _ (.tail _ (.head _))), b2⟩
        · exact ⟨Af.has _ (.tail _ (List.mem_append_right _ (.tail _ (.tail _ (.tail _ hp))))), (N p (.tail _ (.tail _ (.tail _ (List.mem_append_right _ hp))))).2⟩
      clear F N
      have k1 : @Ne Nat hl it := Ne.symm hap2.1
      have k2 : @Ne Nat hl G := hap2.2.2
      have k3 : ∀ p ∈ own' ++ led, p.1 ≠ hl := by
        intro p hp
        rcases List.mem_append.mp hp with hp | hp
        · exact (hap' p hp).2.2 (hl, W.listOf hv ep) (.head _)
        · exact (hap _ (by first | exact inl0 | exact inl1 | exact inl2 | exact inl3 | exact inl4 | exact inl5 | exact inl6 | exact inl7) p hp).symm
      repeat' walk1
      have htl2 : hv.size = t.length := by have := congrArg List.length H.told; simpa using this
      have hjx : j < xs.size := (Array.getElem?_eq_some_iff.mp hxv).1
      have hlen := H.len
      refine append_K F' N' (by k_upd) (fun h₂ F₂ N₂ => ?_) (by rw [sizeLine_eq]; omega)
      clear F' N'
      repeat' walk1
      rename_i F₂
      have hhv : (hv.push v).size = t.length + 1 := by rw [Array.size_push, htl2]
      obtain ⟨tt, htt, hle⟩ := htk t.length (by omega)
      obtain ⟨J, hJ1, hJ⟩ : ∃ J : Value → Nat → Shared → Prop, (∀ {n : Nat} {ri : Addr} {h : Heap} {tk : Nat} {o₂ : Obj} {i₂ : Nat} {vone : Option Value} {x : Int}, (Fr g Lh h (mH (some (.str (Str.ofString "") te)) vone l tkl it hl G keyv)) → (News g Lh h ((it, o₂) :: (ri, rangeIt x n) :: (hl, W.listOf (hv.push v) (ep + 1)) :: (G, genObj s₀.gens.size n₀ n₁) :: (own' ++ led))) → (ItAt l xs o₂ i₂) → (it ≠ ri) → ((∀ p ∈ ((hl, W.listOf (hv.push v) (ep + 1)) :: (G, genObj s₀.gens.size n₀ n₁) :: (own' ++ led)), p.1 ≠ ri)) → (n ≤ takes t.length) → (i₂ = min xs.size (j + 1 + (takes t.length - n))) → J (.ref ri) n { s₀ with heap := h, gens := s₀.gens.push gs', toks := tk }) ∧
          (∀ {itv : Value} {n : Nat} {s' : Shared} {P : Prop}, J itv n s' → (∀ (ri : Addr) (h : Heap) (tk : Nat) (o₂ : Obj) (i₂ : Nat) (vone : Option Value) (x : Int), (itv = .ref ri) → (s' = { s₀ with heap := h, gens := s₀.gens.push gs', toks := tk }) → Fr g Lh h (mH (some (.str (Str.ofString "") te)) vone l tkl it hl G keyv) → News g Lh h ((it, o₂) :: (ri, rangeIt x n) :: (hl, W.listOf (hv.push v) (ep + 1)) :: (G, genObj s₀.gens.size n₀ n₁) :: (own' ++ led)) → ItAt l xs o₂ i₂ → it ≠ ri → ((∀ p ∈ ((hl, W.listOf (hv.push v) (ep + 1)) :: (G, genObj s₀.gens.size n₀ n₁) :: (own' ++ led)), p.1 ≠ ri)) → n ≤ takes t.length → (i₂ = min xs.size (j + 1 + (takes t.length - n))) → P) → P) :=
        ⟨fun itv n s' => ∃ (ri : Addr) (h : Heap) (tk : Nat) (o₂ : Obj) (i₂ : Nat) (vone : Option Value) (x : Int), itv = .ref ri ∧ s' = { s₀ with heap := h, gens := s₀.gens.push gs', toks := tk } ∧ Fr g Lh h (mH (some (.str (Str.ofString "") te)) vone l tkl it hl G keyv) ∧ News g Lh h ((it, o₂) :: (ri, rangeIt x n) :: (hl, W.listOf (hv.push v) (ep + 1)) :: (G, genObj s₀.gens.size n₀ n₁) :: (own' ++ led)) ∧ ItAt l xs o₂ i₂ ∧ it ≠ ri ∧ (∀ p ∈ ((hl, W.listOf (hv.push v) (ep + 1)) :: (G, genObj s₀.gens.size n₀ n₁) :: (own' ++ led)), p.1 ≠ ri) ∧ n ≤ takes t.length ∧ i₂ = min xs.size (j + 1 + (takes t.length - n)),
          fun a b c d e f g => ⟨_, _, _, _, _, _, _, rfl, rfl, a, b, c, d, e, f, g⟩, fun z k => by
            obtain ⟨ri, h, tk, o₂, i₂, vone, x, z1, z2, a, b, c, d, e, f, g⟩ := z
            exact k _ _ _ _ _ _ _ z1 z2 a b c d e f g⟩
      refine for_inv (hf := by intro x; rfl) J (by passes_own) ?_ ?_
      · repeat' walk1
        refine item_lt (hs := by with_unfolding_all rfl) (hg := by intro _; with_unfolding_all rfl) (x := .int (takes t.length) tt) int_pred (Nat.lt_of_le_of_lt (Nat.le_trans hlen hij) (Nat.lt_of_lt_of_le hjx (Nat.le_trans hxs (by decide)))) (stays_list (Fr.keep (by assumption)) htl) htt ?_
        repeat' walk1
        refine range_new fun h₃ rr ta tb tk₃ r1 r2 r3 => ?_
        obtain ⟨F₃, N₃, nr⟩ := news_new F₂ N₂ r3 r2 r1
        repeat' walk1
        refine rangeIt_new r1 (by omega) fun h₄ ri r4 r5 r6 => ?_
        obtain ⟨F₄, N₄, nri⟩ := news_new F₃ N₃ r6 r5 r4
        refine hold ⟨takes t.length, hJ1 (o₂ := o') (i₂ := j + 1) (vone := vone) (x := 0) F₄ (fun p hp => ?_) hit' (nri _ (.tail _ (.head _))).symm ?_ (Nat.le_refl _) (num_base hjx)⟩
        · refine mem_elim hp ?_ fun hp => ?_
          · exact N₄ _ (.tail _ (.tail _ (.head _)))
          refine mem_elim hp ?_ fun hp => ?_
          · exact N₄ _ (.head _)
          · exact N₄ p (.tail _ (.tail _ (.tail _ hp)))
        · intro p hp
          exact (nri p (.tail _ (.tail _ hp))).symm
      · intro itv n s' hJ0
        refine hJ hJ0 fun ri h₃ tk₃ o₂ i₂ vone₂ xr e1 e2 F₃ N₃ hi₂ hir hri hn e3 => ?_
        clear hJ0 hJ
        subst e1 e2 e3
        cases n with
        | zero =>
          refine wpAny_pyNext_range_end (A := A.deeper _) hhn (N₃ _ (.tail _ (.head _))).1 (by omega) fun h₄ ex => ?_
          dsimp only
          have hgr := (N₃ _ (.tail _ (.head _))).2.2
          have F₄ : Fr g Lh h₄ _ := ⟨F₃.ns.extBut ex (Ne.symm (N₃ _ (.tail _ (.head _))).2.1), fun b ob hb => ex b ob (fun z => by rw [z, hgr] at hb; cases hb) (F₃.keep b ob hb), F₃.above⟩
          have N₄ : News g Lh h₄ ((it, o₂) :: (hl, W.listOf (hv.push v) (ep + 1)) :: (G, genObj s₀.gens.size n₀ n₁) :: (own' ++ led)) := fun p hp => by
            refine mem_elim hp ?_ fun hp => ?_
            · exact ⟨ex _ _ hir (N₃ _ (.head _)).1, (N₃ _ (.head _)).2⟩
            · exact ⟨ex _ _ (hri p hp) (N₃ p (.tail _ (.tail _ hp))).1, (N₃ p (.tail _ (.tail _ hp))).2⟩
          clear F₃ N₃
          repeat' walk1
          refine hold ⟨xs.size + 1 - min xs.size (j + 1 + (takes t.length - 0)), num_lt hnum hij hjx, hI1 (h := h₄) (tk := tk₃) (o := o₂) (hv := hv.push v) (ep := ep + 1) (vone := vone₂) (te := te) (x := x') (r := r') (f := f') (own := own') (gs := gs') (i := min xs.size (j + 1 + (takes t.length - 0))) (t := t ++ [j]) ?_⟩
          refine ⟨F₄, rfl, N₄, hi₂, Te', hpre _ _ _ (hpre2 _ _ _ _ H.pre hs) (Nat.le_trans (Nat.succ_le_succ (Nat.le_refl j)) (le_num (Nat.le_refl j) (Nat.le_refl j) hjx)), by rw [List.length_append, List.length_singleton]; exact le_num hlen hij hjx, ?_, rfl, num_le hnum hij hjx hfuel, by rw [← hfin, Nat.sub_zero], fun p hp => ?_⟩
          · show (hv.push v).toList.map some = (t ++ [j]).map fun j => xs[j]?
            rw [Array.toList_push, List.map_append, List.map_append, show hv.toList.map some = _ from H.told]
            simp [hxv]
          · obtain ⟨b1, b2, b3⟩ := hap' p hp
            exact ⟨b1, (b3 (hl, W.listOf hv ep) (.head _)).symm, (b3 (G, genObj s₀.gens.size n₀ n₁) (.tail _ (.head _))).symm, (b3 (Lh, oh) (.tail _ (.tail _ (.head _)))).symm, fun q hq => b3 q (.tail _ (.tail _ (.tail _ hq)))⟩
        | succ n =>
          refine wpAny_pyNext_range_item (N₃ _ (.tail _ (.head _))).1 (by omega) fun h₄ hr₄ sb₄ => ?_
          dsimp only
          refine wpAny_pure ?_
          have F₄ := F₃.change sb₄ (N₃ _ (.tail _ (.head _))).2.1 (N₃ _ (.tail _ (.head _))).2.2
          have N₄ : News g Lh h₄ ((it, o₂) :: (ri, rangeIt (xr + 1) n) :: (hl, W.listOf (hv.push v) (ep + 1)) :: (G, genObj s₀.gens.size n₀ n₁) :: (own' ++ led)) := fun p hp => by
            refine mem_elim hp ?_ fun hp => ?_
            · exact ⟨(sb₄.2 _ hir).trans (N₃ _ (.head _)).1, (N₃ _ (.head _)).2⟩
            refine mem_elim hp ?_ fun hp => ?_
            · refine ⟨?_, (N₃ _ (.tail _ (.head _))).2⟩
              rw [int_pred] at hr₄
              exact hr₄
            · exact ⟨(sb₄.2 _ (hri p hp)).trans (N₃ p (.tail _ (.tail _ hp))).1, (N₃ p (.tail _ (.tail _ hp))).2⟩
          clear F₃ N₃
          repeat' walk1
          rename_i h₅ F₅ N₅
          refine next2_any (A := A.deeper _) hhn (N₅ _ (.head _)).1 (stays_list F₅.keep hrow) hi₂ fun vv h₆ o₃ k4 k5 k6 => ?_
          have hgi := (N₅ _ (.head _)).2.2
          have F₆ : Fr g Lh h₆ _ := ⟨F₅.ns.extBut k6 (Ne.symm (N₅ _ (.head _)).2.1), fun b ob hb => k6 b ob (fun z => by rw [z, hgi] at hb; cases hb) (F₅.keep b ob hb), F₅.above⟩
          have N₆ := Mine.news_set N₅ k4 k6 (by
            intro p hp
            refine mem_elim hp ?_ fun hp => ?_
            · exact hir
            refine mem_elim hp ?_ fun hp => ?_
            · exact hap2.1
            refine mem_elim hp ?_ fun hp => ?_
            · exact hap2.2.1
            rcases List.mem_append.mp hp with hp | hp
            · exact (hap' p hp).1
            · exact hap _ (by first | exact inl0 | exact inl1 | exact inl2 | exact inl3 | exact inl4 | exact inl5 | exact inl6 | exact inl7) p hp)
          clear F₅ N₅
          repeat' walk1
          refine hold ⟨n, Nat.lt_succ_self n, hJ1 (o₂ := o₃) (vone := some (.int xr tk₃)) (x := xr + 1) (fr_congr F₆ ?_) N₆ k5 hir hri (Nat.le_of_succ_le hn) (num_step hn)⟩
          intro y
          by_cases z1 : y = Str.ofString "end"
          · subst z1; rfl
          by_cases z2 : y = Str.ofString "one"
          · subst z2; rfl
          simp only [mH, if_neg z1, if_neg z2]
    | err cls j x' =>
      rw [hs] at hP hfin
      dsimp only at hfin
      obtain ⟨h₁, e₀, own', o', hij, hjx, rfl, hit', hOwn', hap', Af, Th, hcls⟩ := hP
      obtain ⟨ob, hob, hobc⟩ := Thrown.typeIs (s := { s₀ with heap := h', toks := tk' }) Th
      refine .inr (.inr ⟨e₀, ob, cls, rfl, hob, hobc, ?_, Th.slid.1 G _ (Af.has _ (.tail _ (List.mem_append_right _ (.tail _ (.head _))))) hGn, ?_⟩)
      · rcases hcls with rfl | rfl <;> (rw [isSubtype_type]; kernel_rfl)
      rw [setGen_push2]
      refine note_on (Around.frames_deeper st1) (deep_ok st2 (fun z => nomatch z) rfl) rfl Th fun h₂ T₂ => ?_
      refine flight_on (fr := none) T₂ fun h₃ T₃ => ?_
      have hob₁ : h₁.get? Lh = some oh := Af.has _ (.tail _ (List.mem_append_right _ (.tail _ (.tail _ (.head _)))))
      have F₃ := mk Af T₃.slid
      clear F
      refine wpAny_handleBy_builtin (X := cls) (T := "StopIteration") (b := false) (by rw [isSubtype_type]; kernel_rfl) (by rw [isSubtype_type]; kernel_rfl) (by rcases hcls with rfl | rfl <;> (rw [isSubtype_type]; kernel_rfl)) ?_
      repeat' walk1
      · exact Thrown.typeIs (s := { s₀ with heap := h₃, toks := tk' }) T₃
      rcases hcls with rfl | rfl
      · refine wpAny_handleBy_builtin (X := "TypeError") (T := "TypeError") (b := true) (by rw [isSubtype_type]; kernel_rfl) (by rw [isSubtype_type]; kernel_rfl) (by rw [isSubtype_type]; kernel_rfl) ?_
        repeat' walk1
        · exact Thrown.typeIs (s := { s₀ with heap := h₃, toks := tk' }) T₃
        refine flight_on (fr := none) T₃ fun h₄ T₄ => ?_
        have F₄ := mk Af T₄.slid
        obtain ⟨led', hrel, N₄⟩ := mkN Af hap' T₄.slid
        clear N
        repeat' walk1
        rename_i h₅ F₅ N₅
        refine hold ⟨0, hn0, hI2 (h := h₅) (tk := tk' + 1 + 1) (o := o') (hv := hv) (ep := ep) (vone := vone) (te := tk') (ow := own') (led' := led') ?_⟩
        refine ⟨fr_congr F₅ ?_, by rw [← hfin]; first | exact (show (Str.ofString "no hash" == Str.ofString "") = false by decide) | exact (show (Str.ofString "refused" == Str.ofString "") = false by decide) | exact (show (Str.ofString "over" == Str.ofString "") = false by decide), rfl, N₅, hrel, by rw [← hfin]; exact hit', by rw [← hfin]; exact hOwn', by rw [← hfin]; exact H.told, apO hap' hrel⟩
        intro y
        rw [← hfin]
        by_cases z1 : y = Str.ofString "end"
        · subst z1; rfl
        simp only [mH, if_neg z1]
      · refine wpAny_handleBy_builtin (X := "KeyError") (T := "TypeError") (b := false) (by rw [isSubtype_type]; kernel_rfl) (by rw [isSubtype_type]; kernel_rfl) (by rw [isSubtype_type]; kernel_rfl) ?_
        repeat' walk1
        · exact Thrown.typeIs (s := { s₀ with heap := h₃, toks := tk' }) T₃
        refine wpAny_handleBy_builtin (X := "KeyError") (T := "KeyError") (b := true) (by rw [isSubtype_type]; kernel_rfl) (by rw [isSubtype_type]; kernel_rfl) (by rw [isSubtype_type]; kernel_rfl) ?_
        repeat' walk1
        · exact Thrown.typeIs (s := { s₀ with heap := h₃, toks := tk' }) T₃
        refine flight_on (fr := none) T₃ fun h₄ T₄ => ?_
        have F₄ := mk Af T₄.slid
        obtain ⟨led', hrel, N₄⟩ := mkN Af hap' T₄.slid
        clear N
        repeat' walk1
        rename_i h₅ F₅ N₅
        refine hold ⟨0, hn0, hI2 (h := h₅) (tk := tk' + 1 + 1) (o := o') (hv := hv) (ep := ep) (vone := vone) (te := tk') (ow := own') (led' := led') ?_⟩
        refine ⟨fr_congr F₅ ?_, by rw [← hfin]; first | exact (show (Str.ofString "no hash" == Str.ofString "") = false by decide) | exact (show (Str.ofString "refused" == Str.ofString "") = false by decide) | exact (show (Str.ofString "over" == Str.ofString "") = false by decide), rfl, N₅, hrel, by rw [← hfin]; exact hit', by rw [← hfin]; exact hOwn', by rw [← hfin]; exact H.told, apO hap' hrel⟩
        intro y
        rw [← hfin]
        by_cases z1 : y = Str.ofString "end"
        · subst z1; rfl
        simp only [mH, if_neg z1]
    | stop x' =>
      rw [hs] at hP hfin
      dsimp only at hfin
      obtain ⟨h₁, own', o', rfl, hit', hOwn', hap', Af, Sl⟩ := hP
      refine .inr (.inl ⟨rfl, fun h₂ e₀ hx => ?_⟩)
      rw [setGen_push2]
      have hob₁ : h₁.get? Lh = some oh := Af.has _ (.tail _ (List.mem_append_right _ (.tail _ (.tail _ (.head _)))))
      have hfrs : FrsIn h' (Lh :: fs) := fun a ha => by
        refine mem_elim ha ?_ fun ha => ?_
        · obtain ⟨sl', e'⟩ := Sl.2 _ _ hob₁
          exact ⟨_, e', fun vs q => by rw [show oh.data = _ from hdat] at q; cases q⟩
        · obtain ⟨ob, h3, h4⟩ := hfr a ha
          obtain ⟨sl', e'⟩ := Sl.2 _ _ (Af.has _ (.tail _ (List.mem_append_right _ (.tail _ (.tail _ (.tail _ h3))))))
          exact ⟨_, e', h4⟩
      refine note_made (s := { s₀ with heap := h₂, gens := s₀.gens.push .finished, toks := tk' }) (Around.frames_deeper st1) (deep_ok st2 (fun z => nomatch z) rfl) rfl (Made.of_new hx hfrs) fun h₃ T₂ => ?_
      refine flight_on (fr := none) T₂ fun h₄ T₃ => ?_
      have F₃ := mk Af (Sl.trans T₃.slid)
      clear F
      refine wpAny_handleBy_builtin (X := "StopIteration") (T := "StopIteration") (b := true) (by rw [isSubtype_type]; kernel_rfl) (by rw [isSubtype_type]; kernel_rfl) (by rw [isSubtype_type]; kernel_rfl) ?_
      repeat' walk1
      · exact Thrown.typeIs (s := { s₀ with heap := h₄, toks := tk' }) T₃
      refine flight_on (fr := none) T₃ fun h₅' T₄ => ?_
      have F₄ := mk Af (Sl.trans T₄.slid)
      obtain ⟨led', hrel, N₄⟩ := mkN Af hap' (Sl.trans T₄.slid)
      clear N
      repeat' walk1
      rename_i h₅ F₅ N₅
      refine hold ⟨0, hn0, hI2 (h := h₅) (tk := tk' + 1 + 1) (o := o') (hv := hv) (ep := ep) (vone := vone) (te := tk') (ow := own') (led' := led') ?_⟩
      refine ⟨fr_congr F₅ ?_, by rw [← hfin]; first | exact (show (Str.ofString "no hash" == Str.ofString "") = false by decide) | exact (show (Str.ofString "refused" == Str.ofString "") = false by decide) | exact (show (Str.ofString "over" == Str.ofString "") = false by decide), rfl, N₅, hrel, by rw [← hfin]; exact hit', by rw [← hfin]; exact hOwn', by rw [← hfin]; exact H.told, apO hap' hrel⟩
      intro y
      rw [← hfin]
      by_cases z1 : y = Str.ofString "end"
      · subst z1; rfl
      simp only [mH, if_neg z1]
  · subst hQ₁ hE₁
    have F := H.fr
    have N := H.news
    obtain rfl := H.eq
    repeat' walk1
    · rename_i hw
      rw [H.word] at hw
      cases hw
    have hG := N.get (.tail _ (.tail _ (.head _)))
    have hgen : (s₀.gens.push GenState.finished)[s₀.gens.size]? = some .finished := by simp
    refine comp_over (hs := by intro _; rfl) rfl (by decide) (by decide) rfl (by decide) rfl rfl ?_
    repeat' walk1
    refine wpAny_pyIter_gen (isGen_of hG) ?_
    refine ⟨_, F.ns, fun h' tk Q' E' up k => ?_, fun h' tk Q' E' up q => ?_, fun D h' tk hD hpl hns' up => ?_⟩
    · exact gen_over (s := { s₀ with heap := h', gens := s₀.gens.push .finished, toks := tk }) hhn (up _ _ hG) hgen fun h'' up' => k h'' up'
    · exact wpAny_pyIter_gen (s := { s₀ with heap := h', gens := s₀.gens.push .finished, toks := tk }) (isGen_of (up _ _ hG)) q
    obtain ⟨nD, hD'⟩ := hpl
    have F' : Fr g Lh h' _ := ⟨hns', fun b ob hb => up b ob (Nat.ne_of_lt (Nat.lt_of_lt_of_le (Heap.lt_size hb) F.above)) (F.keep b ob hb), F.above⟩
    have N' : News g Lh h' ((D, W.listOf #[] nD) :: (it, o) :: (hl, W.listOf hv ep) :: (G, genObj s₀.gens.size n₀ n₁) :: (ow ++ led')) := fun p hp => by
      refine mem_elim hp ?_ fun hp => ?_
      · refine ⟨hD', fun z => ?_, ?_⟩
        · obtain ⟨ob, _, _, h1, _⟩ := F.ns
          rw [show D = Lh from z, h1] at hD; cases hD
        · cases q : g.get? D with
          | none => rfl
          | some ob => rw [F.keep _ _ q] at hD; cases hD
      · exact ⟨up _ _ (N p hp).2.1 (N p hp).1, (N p hp).2⟩
    have nD2 : ∀ p ∈ ((it, o) :: (hl, W.listOf hv ep) :: (G, genObj s₀.gens.size n₀ n₁) :: (ow ++ led')), D ≠ p.1 := fun p hp z => by
      rw [z, (N p hp).1] at hD; cases hD
    clear F N
    repeat' walk1
    have hlg : g.get? l ≠ none := by
      obtain ⟨o, ho, _⟩ := hrow
      rw [ho]; exact fun z => nomatch z
    refine walker_comp hhn (N' _ (.tail _ (.head _))).1 H.itAt (stays_list F'.keep hrow) (fun z => hlg (z ▸ (N' _ (.tail _ (.head _))).2.2)) (by rw [sizeLine_eq]; omega) rfl rfl (by decide) fun D2 h₂ tk₂ hD2 hpl2 up2 => ?_
    obtain ⟨n2, hD2'⟩ := hpl2
    have hgi : g.get? it = none := (N' _ (.tail _ (.head _))).2.2
    have hiL : it ≠ Lh := (N' _ (.tail _ (.head _))).2.1
    have relN : ∀ a, (∀ q ∈ led, a ≠ q.1) → ∀ q ∈ led', a ≠ q.1 := fun a ha q hq => by
      obtain ⟨p, hp, e⟩ := H.rel.1 q hq
      exact e ▸ ha p hp
    have relB : ∀ a, (∀ q ∈ led', a ≠ q.1) → ∀ q ∈ led, a ≠ q.1 := fun a ha q hq => by
      obtain ⟨_, sl, e⟩ := H.rel.2 q hq
      have z := ha (q.1, { q.2 with slots := sl }) e
      exact z
    have F2 : Fr g Lh h₂ _ := ⟨F'.ns.at' (fun o e => up2 _ o (Ne.symm hiL) e), fun b ob hb => up2 b ob (fun z => by rw [z, hgi] at hb; cases hb) (F'.keep b ob hb), F'.above⟩
    have oldit : ∀ p ∈ (D, W.listOf #[] nD) :: (hl, W.listOf hv ep) :: (G, genObj s₀.gens.size n₀ n₁) :: (ow ++ led'), p.1 ≠ it := fun p hp => by
      refine mem_elim hp ?_ fun hp => ?_
      · exact nD2 _ (.head _)
      refine mem_elim hp ?_ fun hp => ?_
      · exact hap2.1.symm
      refine mem_elim hp ?_ fun hp => ?_
      · exact hap2.2.1.symm
      rcases List.mem_append.mp hp with hp | hp
      · exact (H.apart p hp).1.symm
      · exact (relN it (hap _ (by first | exact inl0 | exact inl1 | exact inl2 | exact inl3 | exact inl4 | exact inl5 | exact inl6 | exact inl7)) p hp).symm
    have oldm : ∀ p ∈ (D, W.listOf #[] nD) :: (hl, W.listOf hv ep) :: (G, genObj s₀.gens.size n₀ n₁) :: (ow ++ led'), p ∈ (D, W.listOf #[] nD) :: (it, o) :: (hl, W.listOf hv ep) :: (G, genObj s₀.gens.size n₀ n₁) :: (ow ++ led') := fun p hp => by
      refine mem_elim hp ?_ fun hp => ?_
      · exact .head _
      · exact .tail _ (.tail _ hp)
    have nD3 : ∀ p ∈ (D, W.listOf #[] nD) :: (hl, W.listOf hv ep) :: (G, genObj s₀.gens.size n₀ n₁) :: (ow ++ led'), D2 ≠ p.1 := fun p hp z => by
      have := (N' p (oldm p hp)).1
      rw [← z] at this
      rw [show h'.get? D2 = none from hD2] at this; cases this
    have N2 : News g Lh h₂ ((D2, W.listOf (List.drop final.2.2.1 xs.toList).toArray n2) :: (D, W.listOf #[] nD) :: (hl, W.listOf hv ep) :: (G, genObj s₀.gens.size n₀ n₁) :: (ow ++ led')) := fun p hp => by
      refine mem_elim hp ?_ fun hp => ?_
      · refine ⟨hD2', fun z => ?_, ?_⟩
        · obtain ⟨ob, _, _, h1, _⟩ := F'.ns

          rw [show D2 = Lh from z] at hD2
          rw [show h'.get? Lh = none from hD2] at h1; cases h1
        · cases q : g.get? D2 with
          | none => rfl
          | some ob => have := F'.keep _ _ q; rw [show h'.get? D2 = none from hD2] at this; cases this
      · exact ⟨up2 _ _ (oldit p hp) (N' p (oldm p hp)).1, (N' p (oldm p hp)).2⟩
    clear F' N'
    repeat' walk1
    rename_i D0 h₃ F3 N3 l1
    have lD0 : ∀ p ∈ led', p.1 < D0 := fun p hp => allLt_mem l1.2.2.2.2 p (List.mem_append_right _ hp)
    refine hR _ _ ⟨h₃, _, D0, hl, D, D2, hv, ep, nD, n2, te, ow, led', rfl, rfl, F3.keep, ?_, H.told, H.rel, ?_, H.own⟩
    · intro p hp
      refine mem_elim hp ?_ fun hp => ?_
      · exact ⟨(N3 _ (.head _)).1, (N3 _ (.head _)).2.2, relB _ (fun q hq => Nat.ne_of_gt (lD0 q hq)), fun q hq => Nat.ne_of_gt (allLt_mem l1.2.2.2.2 q (List.mem_append_left _ hq))⟩
      refine mem_elim hp ?_ fun hp => ?_
      · exact ⟨(N3 _ (.tail _ (.head _))).1, (N3 _ (.tail _ (.head _))).2.2, relB _ (fun q hq => nD3 q (.tail _ (.tail _ (.tail _ (List.mem_append_right _ hq))))), fun q hq => nD3 q (.tail _ (.tail _ (.tail _ (List.mem_append_left _ hq))))⟩
      refine mem_elim hp ?_ fun hp => ?_
      · exact ⟨(N3 _ (.tail _ (.tail _ (.head _)))).1, (N3 _ (.tail _ (.tail _ (.head _)))).2.2, relB _ (fun q hq => nD2 q (.tail _ (.tail _ (.tail _ (List.mem_append_right _ hq))))), fun q hq => nD2 q (.tail _ (.tail _ (.tail _ (List.mem_append_left _ hq))))⟩
      refine mem_one hp ?_
      exact ⟨(N3 _ (.tail _ (.tail _ (.tail _ (.head _))))).1, (N3 _ (.tail _ (.tail _ (.tail _ (.head _))))).2.2, hap _ (by first | exact inl0 | exact inl1 | exact inl2 | exact inl3 | exact inl4 | exact inl5 | exact inl6 | exact inl7), fun q hq => (H.apart q hq).2.1⟩
    · intro p hp
      exact (N3 p (.tail _ (.tail _ (.tail _ (.tail _ (.tail _ hp)))))).1
end Mine
end
section
set_option Elab.async false
theorem Mine.off_HW : True ∧ True := by
  w_top off
  first | walk1 | skip
  all_goals (first | trivial | exact ⟨trivial, trivial⟩)
end
section
open PySem PySem.W PyProof.Rows PySem.Calls PySem.W.X
set_option Elab.async false
set_option maxRecDepth 100000
set_option maxHeartbeats 1000000
set_option pp.deepTerms false
set_option pp.deepTerms.threshold 5
namespace Mine
local macro_rules | `(tactic| walk_at "eval IfExp") => `(tactic| (k_here; refine hold ?_))
local macro_rules | `(tactic| walk_at "call ref") => `(tactic| (k_here; with_reducible refine hold_call 59 ?_))
local macro_rules | `(tactic| walk_at "execs cons") => `(tactic| (k_here; (with_reducible show wpAny _ _ (execs (Stmt.While _ _ _ _ :: _) _) _ _ _); refine hold ?_))
local macro_rules | `(tactic| walk_at "unpackItems ref") => `(tactic| (k_here; k_dflt (refine' unpackItemsN_ ?k1 ?k2 ?k3 ?k4 ?k5 ?_; (case k1 => k_asm); (case k2 => k_asm); (case k3 => kun_tup); (case k4 => first | exact rfl | assumption); (case k5 => first | exact rfl | assumption); k_whole); intro h' F' N'; (try k_sweep)))
local macro_rules | `(tactic| walk_at "exec") => `(tactic| (k_here; with_reducible refine hold_try ?_))
theorem iter_new {prog : Program} {w : World} {A : Around} {E : Value → Shared → Prop} {s : Shared} {l : Addr} {xs : Array Value} {Q : Value → Shared → Prop} (hl : s.heap.IsList l xs)
   (h : Q (.ref s.heap.objs.size) { s with heap := s.heap.push (itObj l 0) }) : wpAny (model prog w) A (call (.builtin "iter") [.ref l]) Q E s := by
  refine call_function_entry (by decide +kernel) (by decide +kernel) kdk_entry_iter (kdk_args_iter _) ?_
  unfold Builtin.«iter»
  refine wpAny_bind (m := someArgs "iter" 1 2 _) (wpAny_of_eq (a := [Value.ref l]) (by first | rfl | kernel_rfl!) ?_)
  show wpAny _ _ (pyIter (.ref l) >>= _) _ _ _
  refine wpAny_bind (wpAny_pyIter_list hl ?_)
  exact wpAny_pure ⟨_, rfl, h⟩
theorem heard {w : World} {A : Around} {s : Shared} {mean : ExcName → Option Value} {loose : List Str} {mg mb : Str → Option Value} {l tkl : Addr} {keyv : Value} {R : Result → Shared → Prop} {g : Heap}
   {fs : List Addr} {led own₀ : List (Addr × Obj)} {xs tks : Array Value} {takes : Nat → Nat} {σ : Type} {step : σ → Nat → Out σ} {Own : σ → List (Addr × Obj) → Prop} {Pre : σ → Nat → Prop} {x₀ : σ} {args : Addr → List Value}
   (X : (Mine.hd.heap_39 w.params).In g) (T : Top topProg loose mean mg mb g) (hroom : A.depth < 350) (hu : A.units < 3000) (hxs : xs.size ≤ 50)
   (hpre0 : Pre x₀ 0) (hpre : ∀ x i i', Pre x i → i ≤ i' → Pre x i') (hpre2 : ∀ x i j x', Pre x i → step x i = .told j x' → Pre x' (j + 1))
   (hR : ∀ r s', HeardEnd g fs xs led Own (heardRun step takes xs.size 60 x₀ 0 []) s r s' → R r s') (hfs : ∀ a ∈ fs, ∃ ob, (a, ob) ∈ led ∧ ∀ vs, ob.data ≠ .fields vs) (hol : ∀ p ∈ own₀, ∀ q ∈ led, p.1 ≠ q.1)
   (C : Site A g fs (own₀ ++ led) s.heap) (hl : g.IsList l xs) (htl : g.IsList tkl tks) (htk : ∀ j, j < xs.size → ∃ t, tks[j]? = some (.int (takes j) t) ∧ takes j ≤ 2)
   (hkv : keyv = .none ∧ (args = fun it => [.ref it]) ∨ ∃ kf, keyv = .ref kf ∧ (args = fun it => [.ref it, .ref kf]))
   (hmake : ∀ (A : Around) (s : Shared) (fs : List Addr) (led : List (Addr × Obj)) (it : Addr) (R : Result → Shared → Prop), A.depth < 500 → A.units < 5000 → Site A g fs ((it, itObj l 0) :: (own₀ ++ led)) s.heap → (∀ p ∈ own₀, it ≠ p.1) →
      (∀ (h' : Heap) (tk : Nat) (G Lg : Addr) og gs n₀ n₁, Aft g ((G, genObj s.gens.size n₀ n₁) :: (Lg, og) :: (it, itObj l 0) :: (own₀ ++ led)) h' → g.get? G = none → g.get? Lg = none → (∀ p ∈ ((it, itObj l 0) :: (own₀ ++ led)), p.1 < Lg) → Lg < G →
      Teller PySem.Challenge.rw_dz0055_01.row.prog w g it l xs step Own Pre 60 x₀ (own₀ ++ [(Lg, og)]) gs → R (.ok (.ret (.ref G))) { s with heap := h', gens := s.gens.push gs, toks := tk }) →
      codeAny (model PySem.Challenge.rw_dz0055_01.row.prog w) A (.call (.ref 59) ⟨args it, []⟩) R s) :
   codeAny (model PySem.Challenge.rw_dz0055_01.row.prog w) A (.call (.ref 78) ⟨[.ref l, keyv, .ref tkl], []⟩) R s := by
  revert X
  k_fill
  intro X
  have X' : ((Mine.hd.heap_39 w.params)).In s.heap := fun a o e => C.stay a o (X a o e)
  refine codeAny_call_def (by show A.depth < 1000; omega) (X' _ _ (by k_is)) rfl (T.nolimit.keeps C.stay) (codeRec_of X' (by k_is)) rfl (.of_eq rfl) (by decide) (locs rfl) (fun h₁ hns keep => ?_)
  have F : Fr g s.heap.objs.size h₁ _ := ⟨hns, fun b o hb => keep _ _ (C.stay _ _ hb), C.size⟩
  have N := C.news keep
  have hhn : A.handled = none := C.handled
  have hrest : ∃ rest₀, rest₀ = own₀ ++ led := ⟨_, rfl⟩
  obtain ⟨rest₀, hrest⟩ := hrest
  rw [← hrest] at N
  repeat' walk1
  refine iter_new (stays_list F.keep hl) ?_
  have N' := News.push F N (itObj l 0) rfl
  have F' := F.push (itObj l 0)
  have hit : ∀ p ∈ rest₀, p.1 < h₁.objs.size := fun p hp => Heap.lt_size (N p hp).1
  clear F N
  generalize h₁.objs.size = it at N' hit ⊢
  generalize h₁.push (itObj l 0) = h₂ at N' F' ⊢
  repeat' walk1
  rename_i hl' hz5 l1 D hz4 l2 hz3 hz2 hz1 h₃ F N
  have hrs : ∀ p ∈ rest₀, it ≠ p.1 := fun p hp => Nat.ne_of_gt (hit p hp)
  have hown : ∀ p ∈ own₀, it ≠ p.1 := fun p hp => hrs p (hrest ▸ List.mem_append_left _ hp)
  refine hideQE (by passes_own) fun Q₁ E₁ hQ₁ hE₁ hP₁ => ?_
  refine hideG fun P hP => ?_
  obtain ⟨oh, es₀, ep₀, hoh, hdat, hns₀⟩ := F.ns
  have hLhg : g.get? s.heap.objs.size = none := C.fresh.2.1
  have hSite : ∀ {env : Env}, env.scope.kind ≠ .module → env.frame = some s.heap.objs.size → Site (A.deeper env) g (s.heap.objs.size :: fs) ((it, itObj l 0) :: (own₀ ++ ((hl', W.listOf #[] 0) :: (s.heap.objs.size, oh) :: led))) h₃ := by
    intro env hk hf
    obtain ⟨outer, st1, st2⟩ := C.stack
    refine ⟨F.keep, Nat.le_trans F.above (Nat.le_of_lt F.ns.lt), fun p hp => ?_, fun a ha => ?_, ⟨env :: outer, Around.frames_deeper st1, deep_ok st2 hk hf⟩, hhn⟩
    · refine mem_elim hp ?_ fun hp => ?_
      · exact ⟨(N _ (.tail _ (.tail _ (.head _)))).1, (N _ (.tail _ (.tail _ (.head _)))).2.2⟩
      rcases List.mem_append.mp hp with hp | hp
      · exact ⟨(N p (.tail _ (.tail _ (.tail _ (hrest ▸ List.mem_append_left _ hp))))).1, (N p (.tail _ (.tail _ (.tail _ (hrest ▸ List.mem_append_left _ hp))))).2.2⟩
      refine mem_elim hp ?_ fun hp => ?_
      · exact ⟨(N _ (.tail _ (.head _))).1, (N _ (.tail _ (.head _))).2.2⟩
      refine mem_elim hp ?_ fun hp => ?_
      · exact ⟨hoh, hLhg⟩
      · exact ⟨(N p (.tail _ (.tail _ (.tail _ (hrest ▸ List.mem_append_right _ hp))))).1, (N p (.tail _ (.tail _ (.tail _ (hrest ▸ List.mem_append_right _ hp))))).2.2⟩
    · refine mem_elim ha ?_ fun ha => ?_
      · exact ⟨oh, .tail _ (List.mem_append_right _ (.tail _ (.head _))), fun vs q => by rw [hdat] at q; cases q⟩
      · obtain ⟨o, ho, hd⟩ := C.frs a ha
        rcases List.mem_append.mp ho with ho | ho
        · exact ⟨o, .tail _ (List.mem_append_left _ ho), hd⟩
        · exact ⟨o, .tail _ (List.mem_append_right _ (.tail _ (.tail _ ho))), hd⟩
  have cont : ∀ (h₄ : Heap) (tk₄ : Nat) (G Lg : Addr) og gs n₀ n₁, Aft g ((G, genObj s.gens.size n₀ n₁) :: (Lg, og) :: (it, itObj l 0) :: (own₀ ++ ((hl', W.listOf #[] 0) :: (s.heap.objs.size, oh) :: led))) h₄ → g.get? G = none → g.get? Lg = none → (∀ p ∈ ((it, itObj l 0) :: (own₀ ++ ((hl', W.listOf #[] 0) :: (s.heap.objs.size, oh) :: led))), p.1 < Lg) → Lg < G →
      Teller PySem.Challenge.rw_dz0055_01.row.prog w g it l xs step Own Pre 60 x₀ (own₀ ++ [(Lg, og)]) gs → Q₁ (.ref G) { s with heap := h₄, gens := s.gens.push gs, toks := tk₄ } := by
    intro h₄ tk₄ G Lg og gs n₀ n₁ Af gG gL lt4 ltG Te
    subst hQ₁ hE₁
    dsimp only
    have F₄ : Fr g s.heap.objs.size h₄ _ := ⟨⟨oh, es₀, ep₀, Af.has _ (.tail _ (.tail _ (.tail _ (List.mem_append_right _ (.tail _ (.head _)))))), hdat, hns₀⟩, Af.stay, F.above⟩
    have N₄ : News g s.heap.objs.size h₄ ((it, itObj l 0) :: (hl', W.listOf #[] 0) :: (G, genObj s.gens.size n₀ n₁) :: ((own₀ ++ [(Lg, og)]) ++ led)) := by
      have hLg : s.heap.objs.size < Lg := lt4 (s.heap.objs.size, oh) (.tail _ (List.mem_append_right _ (.tail _ (.head _))))
      intro p hp
      refine mem_elim hp ?_ fun hp => ?_
      · exact ⟨Af.has _ (.tail _ (.tail _ (.head _))), (N _ (.tail _ (.tail _ (.head _)))).2⟩
      refine mem_elim hp ?_ fun hp => ?_
      · exact ⟨Af.has _ (.tail _ (.tail _ (.tail _ (List.mem_append_right _ (.head _))))), (N _ (.tail _ (.head _))).2⟩
      refine mem_elim hp ?_ fun hp => ?_
      · exact ⟨Af.has _ (.head _), Nat.ne_of_gt (Nat.lt_trans hLg ltG), gG⟩
      rcases List.mem_append.mp hp with hp | hp
      · rcases List.mem_append.mp hp with hp | hp
        · exact ⟨Af.has _ (.tail _ (.tail _ (.tail _ (List.mem_append_left _ hp)))), (N p (.tail _ (.tail _ (.tail _ (hrest ▸ List.mem_append_left _ hp))))).2⟩
        · refine mem_one hp ?_
          exact ⟨Af.has _ (.tail _ (.head _)), Nat.ne_of_gt hLg, gL⟩
      · exact ⟨Af.has _ (.tail _ (.tail _ (.tail _ (List.mem_append_right _ (.tail _ (.tail _ hp)))))), (N p (.tail _ (.tail _ (.tail _ (hrest ▸ List.mem_append_right _ hp))))).2⟩
    clear F N hP
    repeat' walk1
    rename_i h₅ F N
    obtain ⟨te, F'⟩ : ∃ te, Fr g s.heap.objs.size h₅ (mH (some (.str (Str.ofString "") te)) none l tkl it hl' G keyv) := by
      refine ⟨?te, fr_congr F (fun y => ?_)⟩
      rotate_left
      · by_cases z1 : y = Str.ofString "end"
        · subst z1; rfl
        by_cases z2 : y = Str.ofString "one"
        · subst z2; rfl
        by_cases z3 : y = Str.ofString "teller"
        · subst z3; rfl
        by_cases z4 : y = Str.ofString "walker"
        · subst z4; rfl
        by_cases z5 : y = Str.ofString "heard"
        · subst z5; rfl
        by_cases z6 : y = Str.ofString "row"
        · subst z6; rfl
        by_cases z7 : y = Str.ofString "key"
        · subst z7; rfl
        by_cases z8 : y = Str.ofString "takes"
        · subst z8; rfl
        have e6 : (y == Str.ofString "row") = false := by rw [beq_eq_false_iff_ne]; exact z6
        have e7 : (y == Str.ofString "key") = false := by rw [beq_eq_false_iff_ne]; exact z7
        have e8 : (y == Str.ofString "takes") = false := by rw [beq_eq_false_iff_ne]; exact z8
        simp only [mH, if_neg z1, if_neg z2, if_neg z3, if_neg z4, if_neg z5, if_neg z6, if_neg z7, if_neg z8]
        show List.lookup y [(Str.ofString "takes", Value.ref tkl), (Str.ofString "key", keyv), (Str.ofString "row", Value.ref l)] = none
        simp [List.lookup, e6, e7, e8]
    have e := (show ((Mine.hd.heap_39 w.params)).lookup 78 = some _ by k_is)
    have H : HeardRun PySem.Challenge.rw_dz0055_01.row.prog w g fs s.heap.objs.size it l tkl hl' G keyv n₀ n₁ xs led step takes Own Pre (heardRun step takes xs.size 60 x₀ 0 []) s (xs.size + 1) { s with heap := h₅, gens := s.gens.push gs, toks := tk₄ + 1 } h₅ (tk₄ + 1) (itObj l 0) #[] 0 none te x₀ 60 60 (own₀ ++ [(Lg, og)]) gs 0 [] := by
      refine ⟨F', rfl, N, .inl ⟨rfl, Nat.zero_le _⟩, Te, hpre0, Nat.le_refl _, rfl, rfl, ⟨by omega, by omega⟩, rfl, fun p hp => ?_⟩
      have hLg : s.heap.objs.size < Lg := lt4 (s.heap.objs.size, oh) (.tail _ (List.mem_append_right _ (.tail _ (.head _))))
      have h5 : s.heap.objs.size < G := Nat.lt_trans hLg ltG
      rcases List.mem_append.mp hp with hp | hp
      · have hpl := lt4 p (.tail _ (List.mem_append_left _ hp))
        refine ⟨hown p hp, ?_, Nat.ne_of_gt (Nat.lt_trans hpl ltG), ?_, hol p hp⟩
        · exact Nat.ne_of_gt (allLt_mem l1.2 p (hrest ▸ List.mem_append_left _ hp))
        · exact Nat.ne_of_gt (Heap.lt_size (C.has p (List.mem_append_left _ hp)).1)
      · refine mem_one hp ?_
        refine ⟨Nat.ne_of_lt (lt4 _ (.head _)), Nat.ne_of_lt (lt4 (hl', W.listOf #[] 0) (.tail _ (List.mem_append_right _ (.head _)))), Nat.ne_of_gt ltG, Nat.ne_of_lt hLg, fun q hq => ?_⟩
        exact Nat.ne_of_gt (lt4 q (.tail _ (List.mem_append_right _ (.tail _ (.tail _ hq)))))
    have key := heard_loop X T e hroom hu hhn C.stack hfs hl hxs htl htk hpre hpre2 hR ?hap ?hap2 H
    · exact key
    · intro a ha q hq
      have hq4 := lt4 q (.tail _ (List.mem_append_right _ (.tail _ (.tail _ hq))))
      have hq5 : q ∈ rest₀ := hrest ▸ List.mem_append_right _ hq
      refine mem_elim ha ?_ fun ha => ?_
      · exact hrs q hq5
      refine mem_elim ha ?_ fun ha => ?_
      · exact Nat.ne_of_gt (allLt_mem l1.2 q hq5)
      refine mem_elim ha ?_ fun ha => ?_
      · exact Nat.ne_of_gt (Nat.lt_trans hq4 ltG)
      · refine mem_one ha ?_
        exact Nat.ne_of_gt (Heap.lt_size (C.has q (List.mem_append_right _ hq)).1)
    · have a1 := lt4 _ (.head _)
      have a2 := lt4 (hl', W.listOf #[] 0) (.tail _ (List.mem_append_right _ (.head _)))
      exact ⟨Nat.ne_of_lt l1.1, Nat.ne_of_lt (Nat.lt_trans a1 ltG), Nat.ne_of_lt (Nat.lt_trans a2 ltG)⟩
  refine hP ?_
  clear hP hQ₁ hE₁
  refine PyProof.Rows.IfExp_ ?_
  rcases hkv with ⟨rfl, rfl⟩ | ⟨kf, rfl, rfl⟩
  all_goals (repeat' walk1)
  all_goals (
    refine wpAny_call ?_
    refine hmake (A.deeper _) _ (s.heap.objs.size :: fs) ((hl', W.listOf #[] 0) :: (s.heap.objs.size, oh) :: led) it _ (by show A.depth + 1 < 500; omega) (by show A.units + 3 < 5000; omega) (hSite (fun z => nomatch z) rfl) hown fun h₄ tk₄ G Lg og gs n₀ n₁ Af gG gL lt4 ltG Te => cont h₄ tk₄ G Lg og gs n₀ n₁ Af gG gL lt4 ltG Te)
end Mine
end
section
open PySem PySem.W PyProof.Rows PySem.Calls
set_option Elab.async false
set_option maxRecDepth 100000
namespace Mine
section
variable {prog : Program} {w : World} {A : Around} {E : Value → Shared → Prop} {s : Shared} {env : Env}
/-- what the elements of a comprehension come to -/
noncomputable def Made1 (n : Nat) (El : Nat → Value → List (Addr × Obj) → Prop) (ys : Array Value) (big : List (Addr × Obj)) : Prop :=
  ys.size = n ∧ ∀ i y, ys[i]? = some y → ∃ l, El i y l ∧ ∀ p ∈ l, p ∈ big
theorem made1_snoc {n : Nat} {El : Nat → Value → List (Addr × Obj) → Prop} {ys : Array Value} {big l : List (Addr × Obj)} {y : Value} (x : Made1 n El ys big) (h : El n y l) : Made1 (n + 1) El (ys.push y) (l ++ big) := by
  refine ⟨by rw [Array.size_push, x.1], fun i z hz => ?_⟩
  rw [Array.getElem?_push] at hz
  split at hz
  · rename_i e
    injection hz with hz
    subst hz
    rw [e, x.1]
    exact ⟨l, h, fun p hp => List.mem_append_left _ hp⟩
  · obtain ⟨l', h1, h2⟩ := x.2 i z hz
    exact ⟨l', h1, fun p hp => List.mem_append_right _ (h2 p hp)⟩
noncomputable def Fresh (h₀ h : Heap) (big : List (Addr × Obj)) : Prop := ∀ p ∈ big, h.get? p.1 = some p.2 ∧ h₀.get? p.1 = none
inductive GrowInv (s₂ : Shared) (C : Addr) (n : Nat) (St : Nat → Heap → Prop) (El : Nat → Value → List (Addr × Obj) → Prop) (fp wr : List Addr) (k : Nat) (s' : Shared) : Prop
  | mk : ∀ (h' : Heap) (tk i : Nat) (ys : Array Value) (m' : Str → Option Value) (big : List (Addr × Obj)) (nD : Nat), s' = { s₂ with heap := h', toks := tk } → i ≤ n → k = n + 1 - i → St i h' → h'.Ns C m' → h'.get? s₂.heap.objs.size = some (W.listOf ys nD) →
        Made1 i El ys big → Fresh s₂.heap h' big → (∀ p ∈ big, p.1 ≠ C ∧ p.1 ≠ s₂.heap.objs.size) → (∀ p ∈ big, p.1 ∉ fp) → (∀ b o, b ∉ wr → s₂.heap.get? b = some o → h'.get? b = some o) → GrowInv s₂ C n St El fp wr k s'
theorem block_grow {elt iter : PySem.Expr} {x : Str} {px : Pos} {scope : Scope} {cl : List (Str × Addr)} {pos : Pos} {s₂ : Shared} {I : Addr} {fp wr : List Addr} {n : Nat} {P : Nat → Value → Prop} {St : Nat → Heap → Prop}
    {El : Nat → Value → List (Addr × Obj) → Prop} {RR : Value → Addr → Result → Shared → Prop}
    (Wk : Walks prog w A I fp wr n P St) (hsz : n ≤ sizeLine) (hin : ∀ i h, St i h → ∀ b ∈ fp, ∃ o, h.get? b = some o)
    (hcell : ∀ y ∈ scope.names, y.2 ≠ .cell) (hkind : scope.kind = .function) (hx : scope.names.lookup x = some .local) (hst : St 0 s₂.heap) (hfp : ∀ b ∈ fp, b < s₂.heap.objs.size)
    (helt : ∀ i v C m₂ h tk (E' : Value → Shared → Prop), i < n → P i v → h.Ns C m₂ → m₂ x = some v → s₂.heap.get? C = none → (∀ b o, b ∉ wr → s₂.heap.get? b = some o → h.get? b = some o) →
      wpAny (model prog w) A (eval elt (compEnvC scope cl C env)) (fun y s' => ∃ h' tk' l, s' = { s₂ with heap := h', toks := tk' } ∧ (∀ b o, h.get? b = some o → h'.get? b = some o) ∧ El i y l ∧ Fresh h h' l) E' { s₂ with heap := h, toks := tk })
    (hRR : ∀ D C h tk m' ys big nD, s₂.heap.get? D = none → s₂.heap.get? C = none → C ≠ D → h.Ns C m' → h.get? D = some (W.listOf ys nD) → Made1 n El ys big → Fresh s₂.heap h big → (∀ p ∈ big, p.1 ≠ C ∧ p.1 ≠ D) →
      (∀ b o, b ∉ wr → s₂.heap.get? b = some o → h.get? b = some o) → RR (.ref D) C (.ok .next) { s₂ with heap := h, toks := tk }) :
    wpAny (model prog w) A (newList []) (fun acc s₃ => wpAny (model prog w) A (newFunctionEnv scope env.globals cl [] env.qual none .none (some env)) (fun cenv s₄ =>
      codeAny (model prog w) A (.compStart (.ListComp elt [⟨.Name x px, iter, [], 0⟩] scope pos) 0 (.ref I) acc { cenv with scope := relabel scope env }) (RR acc cenv.locals) s₄) E s₃) E s₂ := by
  refine wpAny_newObj_type (wpAny_newFunctionEnv hcell (by intro y hy; simp at hy) (fun h₁ hns₁ hsb₁ => ?_) hkind)
  dsimp only at hns₁ hsb₁ ⊢
  generalize hH2 : s₂.heap.push { cls := .type "list", dict := none, data := .seq ([] : List Value).toArray } = H2 at hns₁ hsb₁ ⊢
  have hC : H2.objs.size = s₂.heap.objs.size + 1 := by rw [← hH2, Heap.size_push]
  have hDC : s₂.heap.objs.size ≠ H2.objs.size := by rw [hC]; exact Nat.ne_of_lt (Nat.lt_succ_self _)
  have below : ∀ b, b < s₂.heap.objs.size → b ≠ H2.objs.size ∧ b ≠ s₂.heap.objs.size := fun b hb => ⟨by rw [hC]; exact Nat.ne_of_lt (Nat.lt_succ_of_lt hb), Nat.ne_of_lt hb⟩
  have hDf : s₂.heap.objs.size ∉ fp := fun hm => Nat.lt_irrefl _ (hfp _ hm)
  have hCf : H2.objs.size ∉ fp := fun hm => by have := hfp _ hm; rw [hC] at this; exact Nat.lt_irrefl _ (Nat.lt_of_succ_lt this)
  have hCw : H2.objs.size ∉ wr := fun h => hCf (Wk.sub _ h)
  have hDw : s₂.heap.objs.size ∉ wr := fun h => hDf (Wk.sub _ h)
  have old : ∀ b o, s₂.heap.get? b = some o → h₁.get? b = some o := fun b o e => hsb₁.extBut b o (below b (Heap.lt_size e)).1 (Heap.get?_push_of_some _ (hH2 ▸ Heap.get?_push_of_some _ e))
  have hacc : h₁.get? s₂.heap.objs.size = some (W.listOf #[] 0) := hsb₁.extBut _ _ hDC (Heap.get?_push_of_some _ (hH2 ▸ Heap.get?_push_size _ rfl))
  have hst₁ : St 0 h₁ := Wk.frame _ _ _ hst fun b _ o e => old b o e
  have hDn : s₂.heap.get? s₂.heap.objs.size = none := Heap.get?_none_of_le (Nat.le_refl _)
  have hCn : s₂.heap.get? H2.objs.size = none := Heap.get?_none_of_le (by rw [hC]; exact Nat.le_succ _)
  have loop : ∀ s₃ : Shared, s₃ = { s₂ with heap := h₁, toks := s₂.toks + ([] : List (Str × Value)).length } →
      codeAny (model prog w) A (.compLoop (.ListComp elt [⟨.Name x px, iter, [], 0⟩] scope pos) 0 (.ref I) (.ref s₂.heap.objs.size) (compEnvC scope cl H2.objs.size env))
        (RR (.ref s₂.heap.objs.size) H2.objs.size) s₃ := by
    rintro s₃ rfl
    obtain ⟨V, hV1, hV2⟩ : ∃ V : Nat → Shared → Prop, (∀ {k s'}, GrowInv s₂ H2.objs.size n St El fp wr k s' → V k s') ∧ (∀ {k s'}, V k s' → GrowInv s₂ H2.objs.size n St El fp wr k s') := ⟨_, fun z => z, fun z => z⟩
    refine codeAny_compLoop_tests V ?_ (n + 1) (hV1
      ⟨h₁, _, 0, #[], _, [], 0, rfl, Nat.zero_le _, rfl, hst₁, hns₁, hacc, ⟨rfl, fun i y h => by simp at h⟩, (by intro p hp; cases hp), (by intro p hp; cases hp), (by intro p hp; cases hp), fun b o _ e => old b o e⟩)
    intro k s' hV0
    obtain ⟨h', tk, i, ys, m', big, nD, rfl, hi, rfl, hst', hn', hacc', hM, hF, hA, hB, hk⟩ := hV2 hV0
    clear hV0
    by_cases hlt : i < n
    · refine Wk.item i _ _ _ hlt hst' fun v h₂ tk₂ hPv hst₂ hk₂ => ?_
      refine wpAny_assign_Name (wpAny_storeName_local (lookup_relabel_local hx) (hn'.at' fun o e => hk₂ _ o hCw e) (fun h₃ hn₃ hs₃ => ?_) (by simp [compEnvC, relabel, hkind]))
      refine wpAny_tests_nil ?_
      simp only [if_true]
      have hst₃ : St (i + 1) h₃ := Wk.frame _ _ _ hst₂ fun b hb o e => hs₃.extBut b o (fun q => hCf (by have q' : b = H2.objs.size := q; rw [← q']; exact hb)) e
      have hk₃ : ∀ b o, b ∉ wr → s₂.heap.get? b = some o → h₃.get? b = some o := fun b o hb e => hs₃.extBut b o (below b (Heap.lt_size e)).1 (hk₂ b o hb (hk b o hb e))
      have big₃ : ∀ p ∈ big, h₃.get? p.1 = some p.2 := fun p hp => hs₃.extBut _ _ (hA p hp).1 (hk₂ _ _ (fun z => hB p hp (Wk.sub _ z)) (hF p hp).1)
      have acc₃ : h₃.get? s₂.heap.objs.size = some (W.listOf ys nD) := hs₃.extBut _ _ hDC (hk₂ _ _ hDw hacc')
      refine wpAny_mono (helt i v H2.objs.size _ h₃ _ _ hlt hPv hn₃ (by simp) hCn hk₃) (fun y s₄ h₄ => ?_) fun _ _ e => e
      obtain ⟨h₄, tk₄, l, rfl, up₄, hEl, hl⟩ := h₄
      refine append_at (hsz := by rw [hM.1]; exact Nat.le_trans hi hsz) (up₄ _ _ acc₃) fun h₅ hs₅ hD₅ => ?_
      have none3 : ∀ p ∈ l, ∀ o, h₃.get? p.1 ≠ some o := fun p hp o e => by rw [(hl p hp).2] at e; cases e
      have lD : ∀ p ∈ l, p.1 ≠ s₂.heap.objs.size := fun p hp z => none3 p hp _ (z ▸ acc₃)
      have lC : ∀ p ∈ l, p.1 ≠ H2.objs.size := fun p hp z => by
        obtain ⟨oC, _, _, ho, _⟩ := hn₃
        have ho : h₃.get? H2.objs.size = some oC := ho
        exact none3 p hp _ (z ▸ ho)
      have lf : ∀ p ∈ l, p.1 ∉ fp := fun p hp z => by
        obtain ⟨o, e⟩ := hin _ _ hst₃ _ z
        exact none3 p hp o e
      refine ⟨n + 1 - (i + 1), down_lt hlt, hV1 ⟨h₅, tk₄, i + 1, ys.push y, _, l ++ big, nD + 1, rfl, hlt, rfl, Wk.frame _ _ _ hst₃ fun b hb o e => hs₅.extBut b o (fun q => hDf (q ▸ hb)) (up₄ _ _ e),
        (hn₃.keeps up₄).sameBut hs₅ (Ne.symm hDC), hD₅, made1_snoc hM hEl, fun p hp => ?_, fun p hp => ?_, fun p hp => ?_, fun b o hb e => hs₅.extBut b o (below b (Heap.lt_size e)).2 (up₄ _ _ (hk₃ b o hb e))⟩⟩
      · rcases List.mem_append.mp hp with hp | hp
        · refine ⟨hs₅.extBut _ _ (lD p hp) (hl p hp).1, ?_⟩
          cases q : s₂.heap.get? p.1 with
          | none => rfl
          | some o =>
            exact absurd (hk₃ _ _ (fun z => lf p hp (Wk.sub _ z)) q) (none3 p hp o)
        · exact ⟨hs₅.extBut _ _ (hA p hp).2 (up₄ _ _ (big₃ p hp)), (hF p hp).2⟩
      · rcases List.mem_append.mp hp with hp | hp
        · exact ⟨lC p hp, lD p hp⟩
        · exact hA p hp
      · rcases List.mem_append.mp hp with hp | hp
        · exact lf p hp
        · exact hB p hp
    · obtain rfl : i = n := Nat.le_antisymm hi (Nat.not_lt.mp hlt)
      refine Wk.done _ _ _ hst' fun h₂ tk₂ hk₂ => ?_
      exact hRR _ _ h₂ tk₂ _ ys big nD hDn hCn (Ne.symm hDC) (hn'.at' fun o e => hk₂ _ o hCw e) (hk₂ _ _ hDw hacc') hM (fun p hp => ⟨hk₂ _ _ (fun z => hB p hp (Wk.sub _ z)) (hF p hp).1, (hF p hp).2⟩) hA
        fun b o hb e => hk₂ b o hb (hk b o hb e)
  exact codeAny_compStart_list (loop _ rfl) (Wk.self 0 _ _ _ hst₁ (loop _ rfl))
theorem block_pair {elt iter : PySem.Expr} {x x₂ : Str} {px px₂ tp : Pos} {kk : Nat} {scope : Scope} {cl : List (Str × Addr)} {pos : Pos} {s₂ : Shared} {I : Addr} {fp wr : List Addr} {n : Nat} {P : Nat → Value → Value → Prop} {Pt : Nat → Array Value → Prop} {St : Nat → Heap → Prop} {Mid : Nat → Addr → Heap → Prop}
    {El : Nat → Value → List (Addr × Obj) → Prop} {RR : Value → Addr → Result → Shared → Prop}
    (hh : A.handled = none) (Wk : WalksT prog w A I fp wr n Pt St Mid) (hPt : ∀ i vals, Pt i vals → ∃ v₁ v₂, vals = #[v₁, v₂] ∧ P i v₁ v₂) (hsz : n ≤ sizeLine) (hin : ∀ i h, St i h → ∀ b ∈ fp, ∃ o, h.get? b = some o)
    (hcell : ∀ y ∈ scope.names, y.2 ≠ .cell) (hkind : scope.kind = .function) (hx : scope.names.lookup x = some .local) (hx₂ : scope.names.lookup x₂ = some .local) (hxx : x ≠ x₂) (hst : St 0 s₂.heap) (hfp : ∀ b ∈ fp, b < s₂.heap.objs.size)
    (helt : ∀ i v v₂ C m₂ h tk (E' : Value → Shared → Prop), i < n → P i v v₂ → h.Ns C m₂ → m₂ x = some v → m₂ x₂ = some v₂ → s₂.heap.get? C = none → (∀ b o, b ∉ wr → s₂.heap.get? b = some o → h.get? b = some o) →
      wpAny (model prog w) A (eval elt (compEnvC scope cl C env)) (fun y s' => ∃ h' tk' l, s' = { s₂ with heap := h', toks := tk' } ∧ (∀ b o, h.get? b = some o → h'.get? b = some o) ∧ El i y l ∧ Fresh h h' l) E' { s₂ with heap := h, toks := tk })
    (hRR : ∀ D C h tk m' ys big nD, s₂.heap.get? D = none → s₂.heap.get? C = none → C ≠ D → h.Ns C m' → h.get? D = some (W.listOf ys nD) → Made1 n El ys big → Fresh s₂.heap h big → (∀ p ∈ big, p.1 ≠ C ∧ p.1 ≠ D) →
      (∀ b o, b ∉ wr → s₂.heap.get? b = some o → h.get? b = some o) → RR (.ref D) C (.ok .next) { s₂ with heap := h, toks := tk }) :
    wpAny (model prog w) A (newList []) (fun acc s₃ => wpAny (model prog w) A (newFunctionEnv scope env.globals cl [] env.qual none .none (some env)) (fun cenv s₄ =>
      codeAny (model prog w) A (.compStart (.ListComp elt [⟨.Tuple [.Name x px, .Name x₂ px₂] kk tp, iter, [], 0⟩] scope pos) 0 (.ref I) acc { cenv with scope := relabel scope env }) (RR acc cenv.locals) s₄) E s₃) E s₂ := by
  refine wpAny_newObj_type (wpAny_newFunctionEnv hcell (by intro y hy; simp at hy) (fun h₁ hns₁ hsb₁ => ?_) hkind)
  dsimp only at hns₁ hsb₁ ⊢
  generalize hH2 : s₂.heap.push { cls := .type "list", dict := none, data := .seq ([] : List Value).toArray } = H2 at hns₁ hsb₁ ⊢
  have hC : H2.objs.size = s₂.heap.objs.size + 1 := by rw [← hH2, Heap.size_push]
  have hDC : s₂.heap.objs.size ≠ H2.objs.size := by rw [hC]; exact Nat.ne_of_lt (Nat.lt_succ_self _)
  have below : ∀ b, b < s₂.heap.objs.size → b ≠ H2.objs.size ∧ b ≠ s₂.heap.objs.size := fun b hb => ⟨by rw [hC]; exact Nat.ne_of_lt (Nat.lt_succ_of_lt hb), Nat.ne_of_lt hb⟩
  have hDf : s₂.heap.objs.size ∉ fp := fun hm => Nat.lt_irrefl _ (hfp _ hm)
  have hCf : H2.objs.size ∉ fp := fun hm => by have := hfp _ hm; rw [hC] at this; exact Nat.lt_irrefl _ (Nat.lt_of_succ_lt this)
  have hCw : H2.objs.size ∉ wr := fun h => hCf (Wk.sub _ h)
  have hDw : s₂.heap.objs.size ∉ wr := fun h => hDf (Wk.sub _ h)
  have old : ∀ b o, s₂.heap.get? b = some o → h₁.get? b = some o := fun b o e => hsb₁.extBut b o (below b (Heap.lt_size e)).1 (Heap.get?_push_of_some _ (hH2 ▸ Heap.get?_push_of_some _ e))
  have hacc : h₁.get? s₂.heap.objs.size = some (W.listOf #[] 0) := hsb₁.extBut _ _ hDC (Heap.get?_push_of_some _ (hH2 ▸ Heap.get?_push_size _ rfl))
  have hst₁ : St 0 h₁ := Wk.frame _ _ _ hst fun b _ o e => old b o e
  have hDn : s₂.heap.get? s₂.heap.objs.size = none := Heap.get?_none_of_le (Nat.le_refl _)
  have hCn : s₂.heap.get? H2.objs.size = none := Heap.get?_none_of_le (by rw [hC]; exact Nat.le_succ _)
  have loop : ∀ s₃ : Shared, s₃ = { s₂ with heap := h₁, toks := s₂.toks + ([] : List (Str × Value)).length } →
      codeAny (model prog w) A (.compLoop (.ListComp elt [⟨.Tuple [.Name x px, .Name x₂ px₂] kk tp, iter, [], 0⟩] scope pos) 0 (.ref I) (.ref s₂.heap.objs.size) (compEnvC scope cl H2.objs.size env))
        (RR (.ref s₂.heap.objs.size) H2.objs.size) s₃ := by
    rintro s₃ rfl
    obtain ⟨V, hV1, hV2⟩ : ∃ V : Nat → Shared → Prop, (∀ {k s'}, GrowInv s₂ H2.objs.size n St El fp wr k s' → V k s') ∧ (∀ {k s'}, V k s' → GrowInv s₂ H2.objs.size n St El fp wr k s') := ⟨_, fun z => z, fun z => z⟩
    refine kcp_loop V ?_ (n + 1) (hV1
      ⟨h₁, _, 0, #[], _, [], 0, rfl, Nat.zero_le _, rfl, hst₁, hns₁, hacc, ⟨rfl, fun i y h => by simp at h⟩, (by intro p hp; cases hp), (by intro p hp; cases hp), (by intro p hp; cases hp), fun b o _ e => old b o e⟩)
    intro k s' hV0
    obtain ⟨h', tk, i, ys, m', big, nD, rfl, hi, rfl, hst', hn', hacc', hM, hF, hA, hB, hk⟩ := hV2 hV0
    clear hV0
    by_cases hlt : i < n
    · refine Wk.item i _ _ _ hlt hst' fun T vals h₂ tk₂ hPv _ hTt hMid hk₂ => ?_
      obtain ⟨v, v₂, rfl, hPvv⟩ := hPt _ _ hPv
      refine Wk.go _ _ _ _ _ _ _ _ hMid fun h₂' hst₂ hk₂' => ?_
      have hTt' : h₂'.IsTuple T #[v, v₂] := hTt.at fun o e => hk₂' _ o (Wk.apart _ _ _ hMid) e
      refine kcp_assign (m := m') hh hTt' (lookup_relabel_local hx) (lookup_relabel_local hx₂) (by simp [compEnvC, relabel, hkind]) ((hn'.at' fun o e => hk₂ _ o hCw e).at' fun o e => hk₂' _ o hCw e) fun h₃ tk₃ hn₃ hs₃ => ?_
      have hk₂ : ∀ b o, b ∉ wr → h'.get? b = some o → h₂'.get? b = some o := fun b o hb e => hk₂' b o hb (hk₂ b o hb e)
      have hst₃ : St (i + 1) h₃ := Wk.frame _ _ _ hst₂ fun b hb o e => hs₃ b o (fun q => hCf (by have q' : b = H2.objs.size := q; rw [← q']; exact hb)) e
      have hk₃ : ∀ b o, b ∉ wr → s₂.heap.get? b = some o → h₃.get? b = some o := fun b o hb e => hs₃ b o (below b (Heap.lt_size e)).1 (hk₂ b o hb (hk b o hb e))
      have big₃ : ∀ p ∈ big, h₃.get? p.1 = some p.2 := fun p hp => hs₃ _ _ (hA p hp).1 (hk₂ _ _ (fun z => hB p hp (Wk.sub _ z)) (hF p hp).1)
      have acc₃ : h₃.get? s₂.heap.objs.size = some (W.listOf ys nD) := hs₃ _ _ hDC (hk₂ _ _ hDw hacc')
      refine wpAny_mono (helt i v v₂ H2.objs.size _ h₃ _ _ hlt hPvv hn₃ (by simp [hxx]) (by simp) hCn hk₃) (fun y s₄ h₄ => ?_) fun _ _ e => e
      obtain ⟨h₄, tk₄, l, rfl, up₄, hEl, hl⟩ := h₄
      refine append_at (hsz := by rw [hM.1]; exact Nat.le_trans hi hsz) (up₄ _ _ acc₃) fun h₅ hs₅ hD₅ => ?_
      have none3 : ∀ p ∈ l, ∀ o, h₃.get? p.1 ≠ some o := fun p hp o e => by rw [(hl p hp).2] at e; cases e
      have lD : ∀ p ∈ l, p.1 ≠ s₂.heap.objs.size := fun p hp z => none3 p hp _ (z ▸ acc₃)
      have lC : ∀ p ∈ l, p.1 ≠ H2.objs.size := fun p hp z => by
        obtain ⟨oC, _, _, ho, _⟩ := hn₃
        have ho : h₃.get? H2.objs.size = some oC := ho
        exact none3 p hp _ (z ▸ ho)
      have lf : ∀ p ∈ l, p.1 ∉ fp := fun p hp z => by
        obtain ⟨o, e⟩ := hin _ _ hst₃ _ z
        exact none3 p hp o e
      refine ⟨n + 1 - (i + 1), down_lt hlt, hV1 ⟨h₅, tk₄, i + 1, ys.push y, _, l ++ big, nD + 1, rfl, hlt, rfl, Wk.frame _ _ _ hst₃ fun b hb o e => hs₅.extBut b o (fun q => hDf (q ▸ hb)) (up₄ _ _ e),
        (hn₃.keeps up₄).sameBut hs₅ (Ne.symm hDC), hD₅, made1_snoc hM hEl, fun p hp => ?_, fun p hp => ?_, fun p hp => ?_, fun b o hb e => hs₅.extBut b o (below b (Heap.lt_size e)).2 (up₄ _ _ (hk₃ b o hb e))⟩⟩
      · rcases List.mem_append.mp hp with hp | hp
        · refine ⟨hs₅.extBut _ _ (lD p hp) (hl p hp).1, ?_⟩
          cases q : s₂.heap.get? p.1 with
          | none => rfl
          | some o =>
            exact absurd (hk₃ _ _ (fun z => lf p hp (Wk.sub _ z)) q) (none3 p hp o)
        · exact ⟨hs₅.extBut _ _ (hA p hp).2 (up₄ _ _ (big₃ p hp)), (hF p hp).2⟩
      · rcases List.mem_append.mp hp with hp | hp
        · exact ⟨lC p hp, lD p hp⟩
        · exact hA p hp
      · rcases List.mem_append.mp hp with hp | hp
        · exact lf p hp
        · exact hB p hp
    · obtain rfl : i = n := Nat.le_antisymm hi (Nat.not_lt.mp hlt)
      refine Wk.done _ _ _ hst' fun h₂ tk₂ hk₂ => ?_
      exact hRR _ _ h₂ tk₂ _ ys big nD hDn hCn (Ne.symm hDC) (hn'.at' fun o e => hk₂ _ o hCw e) (hk₂ _ _ hDw hacc') hM (fun p hp => ⟨hk₂ _ _ (fun z => hB p hp (Wk.sub _ z)) (hF p hp).1, (hF p hp).2⟩) hA
        fun b o hb e => hk₂ b o hb (hk b o hb e)
  exact codeAny_compStart_list (loop _ rfl) (Wk.self 0 _ _ _ hst₁ (loop _ rfl))
/-- what an element does: it only makes new objects -/
noncomputable def EltG (prog : Program) (w : World) (A : Around) (env : Env) (scope : Scope) (cl : List (Str × Addr)) (x : Str) (elt : PySem.Expr) (P : Nat → Value → Prop) (El : Nat → Value → List (Addr × Obj) → Prop) (s₁ : Shared) : Prop :=
  ∀ i v C m₂ h tk (E' : Value → Shared → Prop), P i v → h.Ns C m₂ → m₂ x = some v → s₁.heap.get? C = none → (∀ b o, s₁.heap.get? b = some o → h.get? b = some o) →
    wpAny (model prog w) A (eval elt (compEnvC scope cl C env)) (fun y s' => ∃ h' tk' l, s' = { s₁ with heap := h', toks := tk' } ∧ (∀ b o, h.get? b = some o → h'.get? b = some o) ∧ El i y l ∧ Fresh h h' l) E' { s₁ with heap := h, toks := tk }
noncomputable def EltP (prog : Program) (w : World) (A : Around) (env : Env) (scope : Scope) (cl : List (Str × Addr)) (x x₂ : Str) (elt : PySem.Expr) (P : Nat → Value → Value → Prop) (El : Nat → Value → List (Addr × Obj) → Prop) (s₁ : Shared) : Prop :=
  ∀ i v v₂ C m₂ h tk (E' : Value → Shared → Prop), P i v v₂ → h.Ns C m₂ → m₂ x = some v → m₂ x₂ = some v₂ → s₁.heap.get? C = none → (∀ b o, s₁.heap.get? b = some o → h.get? b = some o) →
    wpAny (model prog w) A (eval elt (compEnvC scope cl C env)) (fun y s' => ∃ h' tk' l, s' = { s₁ with heap := h', toks := tk' } ∧ (∀ b o, h.get? b = some o → h'.get? b = some o) ∧ El i y l ∧ Fresh h h' l) E' { s₁ with heap := h, toks := tk }
/-- what comes behind -/
noncomputable def FinG (n : Nat) (El : Nat → Value → List (Addr × Obj) → Prop) (s₁ : Shared) (Q : Value → Shared → Prop) : Prop :=
  ∀ D h' tk ys big nD, s₁.heap.get? D = none → h'.get? D = some (W.listOf ys nD) → Made1 n El ys big → Fresh s₁.heap h' big → (∀ p ∈ big, p.1 ≠ D) →
      (∀ b o, s₁.heap.get? b = some o → h'.get? b = some o) → Q (.ref D) { s₁ with heap := h', toks := tk }
inductive PostG (prog : Program) (w : World) (A : Around) (env : Env) (scope : Scope) (cl : List (Str × Addr)) (x : Str) (elt : PySem.Expr) (Q : Value → Shared → Prop) (xv : Value) (s₁ : Shared) : Prop
  | mk : ∀ (ax : Addr) (its : Array Value) (El : Nat → Value → List (Addr × Obj) → Prop), (xv = .ref ax) → (A.handled = none) → (s₁.heap.IsList ax its) → (its.size ≤ sizeLine) → (EltG prog w A env scope cl x elt (fun i v => its[i]? = some v) El s₁) → (FinG its.size El s₁ Q) → PostG prog w A env scope cl x elt Q xv s₁
noncomputable def PostP (prog : Program) (w : World) (A : Around) (E : Value → Shared → Prop) (env : Env) (scope : Scope) (cl : List (Str × Addr)) (x x₂ : Str) (elt : PySem.Expr) (Fin : Nat → (Nat → Value → List (Addr × Obj) → Prop) → Shared → Prop) (xv : Value) (s₁ : Shared) : Prop :=
  wpAny (model prog w) A (pyIter xv) (fun itv s₂ => ∃ s₀ I fp wr n P Pt St Mid El, itv = .ref I ∧ A.handled = none ∧ WalksT prog w A I fp wr n Pt St Mid ∧ (∀ i vals, Pt i vals → ∃ v₁ v₂, vals = #[v₁, v₂] ∧ P i v₁ v₂) ∧ n ≤ sizeLine ∧
    (∀ i h, St i h → ∀ b ∈ fp, ∃ o, h.get? b = some o) ∧ St 0 s₂.heap ∧ (∀ b ∈ fp, b < s₂.heap.objs.size) ∧ (∃ h tk, s₂ = { s₀ with heap := h, toks := tk }) ∧ (∀ b ∈ wr, s₀.heap.get? b = none) ∧ (∀ b o, s₀.heap.get? b = some o → s₂.heap.get? b = some o) ∧
    EltP prog w A env scope cl x x₂ elt P El s₀ ∧ Fin n El s₀) E s₁
theorem grow_none {h h' : Heap} (k : ∀ b o, h.get? b = some o → h'.get? b = some o) {b : Addr} (e : h'.get? b = none) : h.get? b = none := by
  cases q : h.get? b with
  | none => rfl
  | some o => rw [k _ _ q] at e; cases e
theorem FinG.same {n : Nat} {El : Nat → Value → List (Addr × Obj) → Prop} {s₁ : Shared} {Q : Value → Shared → Prop} {C D : Addr} {h : Heap} {tk : Nat} {ys : Array Value} {big : List (Addr × Obj)} {nD : Nat} (fin : FinG n El s₁ Q)
    (hD : s₁.heap.get? D = none) (hC : s₁.heap.get? C = none) (hCD : C ≠ D) (hl : h.get? D = some (W.listOf ys nD)) (hM : Made1 n El ys big) (hF : Fresh s₁.heap h big) (hA : ∀ p ∈ big, p.1 ≠ C ∧ p.1 ≠ D)
    (hk : ∀ b o, s₁.heap.get? b = some o → h.get? b = some o) (h' : Heap) (hs : Heap.SameBut C h h') : Q (.ref D) { s₁ with heap := h', toks := tk } :=
  fin D h' tk ys big nD hD (hs.extBut _ _ (Ne.symm hCD) hl) hM (fun p hp => ⟨hs.extBut _ _ (hA p hp).1 (hF p hp).1, (hF p hp).2⟩) (fun p hp => (hA p hp).2) fun b o e => hs.extBut b o (fun z => by rw [z, hC] at e; cases e) (hk b o e)
theorem ListComp_G {elt iter : PySem.Expr} {x : Str} {px : Pos} {scope : Scope} {cl : List (Str × Addr)} {pos : Pos} {Q : Value → Shared → Prop}
    (hclos : closureFor scope env = pure cl) (hcell : ∀ y ∈ scope.names, y.2 ≠ .cell) (hkind : scope.kind = .function)
    (hnames : ∀ y ∈ scope.names, y.2 = .local → scope.names.lookup y.1 = some .local) (hx : scope.names.lookup x = some .local)
    (h : wpAny (model prog w) A (eval iter env) (PostG prog w A env scope cl x elt Q) E s)
    (hs : ∀ x, foldedSetIterable iter env x = pure x) :
    wpAny (model prog w) A (eval (.ListComp elt [⟨.Name x px, iter, [], 0⟩] scope pos) env) Q E s := by
  rw [eval_ListComp]
  refine wpAny_comprehension_free (use := none) rfl hs hclos hkind hnames (wpAny_mono h (fun xv s₁ h₁ => ?_) fun _ _ e => e)
  obtain ⟨ax, its, El, rfl, hh, hl, hsz, helt, hfin⟩ := h₁
  have hlt : ax < s₁.heap.objs.size := by obtain ⟨_, e, _⟩ := hl; exact Heap.lt_size e
  have hIn : s₁.heap.get? s₁.heap.objs.size = none := Heap.get?_none_of_le (Nat.le_refl _)
  refine wpAny_pyIter_list hl ?_
  have up : ∀ b o, s₁.heap.get? b = some o → (s₁.heap.push { cls := .type "list_iterator", data := .fields #[.ref ax, .int 0 0] }).get? b = some o := fun b o e => Heap.get?_push_of_some _ e
  refine block_grow (s₂ := { s₁ with heap := _ }) (El := El) (Walks.list hh s₁.heap.objs.size ax (Nat.ne_of_lt hlt) its) hsz (fun i h st b hb => ?_) hcell hkind hx ⟨⟨_, Heap.get?_push_size _ rfl, rfl, rfl⟩, hl.push _⟩ (fun b hb => ?_) ?_ ?_
  · refine mem_elim hb ?_ fun hb => ?_
    · obtain ⟨o, e, _⟩ := st.1; exact ⟨o, e⟩
    · refine mem_one hb ?_; obtain ⟨o, e, _⟩ := st.2; exact ⟨o, e⟩
  · show b < (s₁.heap.push _).objs.size
    rw [Heap.size_push]
    refine mem_elim hb ?_ fun hb => ?_
    · exact Nat.lt_succ_self _
    · refine mem_one hb ?_; exact Nat.lt_succ_of_lt hlt
  · intro i v C m₂ h tk E' hi hP hn hm hC hk
    exact helt i v C m₂ h tk E' hP hn hm (grow_none up hC) fun b o e => hk b o (fun z => by rw [List.mem_singleton.mp z, hIn] at e; cases e) (up b o e)
  · intro D C h tk m' ys big nD hD hC hCD hn hlD hM hF hA hk
    exact ⟨m', hn, fun h'' hs'' => hfin.same (grow_none up hD) (grow_none up hC) hCD hlD hM (fun p hp => ⟨(hF p hp).1, grow_none up (hF p hp).2⟩) hA (fun b o e => hk b o (fun z => by rw [List.mem_singleton.mp z, hIn] at e; cases e) (up b o e)) h'' hs''⟩
/-- what comes behind a comprehension that is bound to a local name -/
noncomputable def FinA (L : Addr) (m : Str → Option Value) (y : Str) (n : Nat) (El : Nat → Value → List (Addr × Obj) → Prop) (s₁ : Shared) (Q : Flow → Shared → Prop) : Prop :=
  ∀ D h' tk ys big nD, s₁.heap.get? D = none → h'.get? D = some (W.listOf ys nD) → Made1 n El ys big → Fresh s₁.heap h' big → (∀ p ∈ big, p.1 ≠ D) →
      (∀ b o, b ≠ L → s₁.heap.get? b = some o → h'.get? b = some o) → h'.Ns L (fun z => if z = y then some (.ref D) else m z) → Q .next { s₁ with heap := h', toks := tk }
theorem FinA.same {L : Addr} {m : Str → Option Value} {y : Str} {n : Nat} {El : Nat → Value → List (Addr × Obj) → Prop} {s₁ : Shared} {Q : Flow → Shared → Prop} {C D : Addr} {h h₂ : Heap} {tk : Nat} {ys : Array Value} {big : List (Addr × Obj)} {nD : Nat} (fin : FinA L m y n El s₁ Q)
    (hnL : s₁.heap.Ns L m) (hD : s₁.heap.get? D = none) (hC : s₁.heap.get? C = none) (hCD : C ≠ D) (hl : h.get? D = some (W.listOf ys nD)) (hM : Made1 n El ys big) (hF : Fresh s₁.heap h big) (hA : ∀ p ∈ big, p.1 ≠ C ∧ p.1 ≠ D)
    (hk : ∀ b o, s₁.heap.get? b = some o → h.get? b = some o) (hn₂ : h₂.Ns L (fun z => if z = y then some (.ref D) else m z)) (hs₂ : Heap.SameBut L h h₂) (h' : Heap) (hs : Heap.SameBut C h₂ h') : Q .next { s₁ with heap := h', toks := tk } := by
  obtain ⟨o, _, _, ho, _⟩ := hnL
  have nL : ∀ b, s₁.heap.get? b = none → b ≠ L := fun b hb z => by rw [z, ho] at hb; cases hb
  refine fin D h' tk ys big nD hD (hs.extBut _ _ (Ne.symm hCD) (hs₂.extBut _ _ (nL D hD) hl)) hM (fun p hp => ⟨hs.extBut _ _ (hA p hp).1 (hs₂.extBut _ _ (nL _ (hF p hp).2) (hF p hp).1), (hF p hp).2⟩) (fun p hp => (hA p hp).2)
    (fun b o hb e => hs.extBut b o (fun z => by rw [z, hC] at e; cases e) (hs₂.extBut b o hb (hk b o e))) (hn₂.sameBut hs (Ne.symm (nL C hC)))
theorem Assign_ListComp_G {elt iter : PySem.Expr} {x y : Str} {px py : Pos} {scope : Scope} {cl : List (Str × Addr)} {pos spos : Pos} {Q : Flow → Shared → Prop} {m : Str → Option Value}
    (hsw : swapsWith (.ListComp elt [⟨.Name x px, iter, [], 0⟩] scope pos) (some (.Name y py)) spos.line env = pure true)
    (hclos : closureFor scope env = pure cl) (hcell : ∀ y ∈ scope.names, y.2 ≠ .cell) (hkind : scope.kind = .function)
    (hnames : ∀ y ∈ scope.names, y.2 = .local → scope.names.lookup y.1 = some .local) (hx : scope.names.lookup x = some .local)
    (hy : env.kindOf y = some .local) (hp : (env.scope.kind == .class || (env.scope.kind == .module && env.locals != env.globals)) = false)
    (h : wpAny (model prog w) A (eval iter env) (fun xv s₁ => s₁.heap.Ns env.locals m ∧ ∃ ax its El, xv = .ref ax ∧ A.handled = none ∧ s₁.heap.IsList ax its ∧ its.size ≤ sizeLine ∧ EltG prog w A env scope cl x elt (fun i v => its[i]? = some v) El s₁ ∧ FinA env.locals m y its.size El s₁ Q) E s)
    (hs : ∀ x, foldedSetIterable iter env x = pure x) :
    wpAny (model prog w) A (exec (.Assign [.Name y py] (.ListComp elt [⟨.Name x px, iter, [], 0⟩] scope pos) spos) env) Q E s := by
  rw [exec_Assign_Name_used _ _ _ _ hsw]
  refine wpAny_bind (wpAny_standAt (wpAny_bind ?_))
  show wpAny _ A (do let _ ← comprehension (.ListComp elt [⟨.Name x px, iter, [], 0⟩] scope pos) scope env _ (newList []) false (eval iter env) (some (assign (.Name y py) env))) _ _ s
  refine wpAny_bind (wpAny_mono (wpAny_comprehension_free (use := some (assign (.Name y py) env)) (Q := fun _ s' => Q .next s') rfl hs hclos hkind hnames
    (wpAny_mono h (fun xv s₁ h₁ => ?_) fun _ _ e => e)) (fun _ s' hq => wpAny_pure (wpAny_pure hq)) fun _ _ e => e)
  obtain ⟨hnL, ax, its, El, rfl, hh, hl, hsz, helt, hfin⟩ := h₁
  have hlt : ax < s₁.heap.objs.size := by obtain ⟨_, e, _⟩ := hl; exact Heap.lt_size e
  have hIn : s₁.heap.get? s₁.heap.objs.size = none := Heap.get?_none_of_le (Nat.le_refl _)
  refine wpAny_pyIter_list hl ?_
  have up : ∀ b o, s₁.heap.get? b = some o → (s₁.heap.push { cls := .type "list_iterator", data := .fields #[.ref ax, .int 0 0] }).get? b = some o := fun b o e => Heap.get?_push_of_some _ e
  refine block_grow (s₂ := { s₁ with heap := _ }) (El := El) (Walks.list hh s₁.heap.objs.size ax (Nat.ne_of_lt hlt) its) hsz (fun i h st b hb => ?_) hcell hkind hx ⟨⟨_, Heap.get?_push_size _ rfl, rfl, rfl⟩, hl.push _⟩ (fun b hb => ?_) ?_ ?_
  · refine mem_elim hb ?_ fun hb => ?_
    · obtain ⟨o, e, _⟩ := st.1; exact ⟨o, e⟩
    · refine mem_one hb ?_; obtain ⟨o, e, _⟩ := st.2; exact ⟨o, e⟩
  · show b < (s₁.heap.push _).objs.size
    rw [Heap.size_push]
    refine mem_elim hb ?_ fun hb => ?_
    · exact Nat.lt_succ_self _
    · refine mem_one hb ?_; exact Nat.lt_succ_of_lt hlt
  · intro i v C m₂ h tk E' hi hP hn hm hC hk
    exact helt i v C m₂ h tk E' hP hn hm (grow_none up hC) fun b o e => hk b o (fun z => by rw [List.mem_singleton.mp z, hIn] at e; cases e) (up b o e)
  · intro D C h tk m' ys big nD hD hC hCD hn hlD hM hF hA hk
    have hk' : ∀ b o, s₁.heap.get? b = some o → h.get? b = some o := fun b o e => hk b o (fun z => by rw [List.mem_singleton.mp z, hIn] at e; cases e) (up b o e)
    have hCL : C ≠ env.locals := fun z => by
      obtain ⟨o, _, _, ho, _⟩ := hnL
      have := up _ _ ho
      rw [← z, hC] at this; cases this
    show wpAny _ A (assign (.Name y py) env (.ref D)) _ _ _
    refine wpAny_assign_Name (wpAny_storeName_local hy (hnL.keeps hk') (fun h₂ hn₂ hs₂ => ?_) hp)
    refine ⟨m', hn.sameBut hs₂ hCL, fun h'' hs'' => ?_⟩
    exact hfin.same hnL (grow_none up hD) (grow_none up hC) hCD hlD hM (fun p hp => ⟨(hF p hp).1, grow_none up (hF p hp).2⟩) hA hk' hn₂ hs₂ h'' hs''
theorem ListComp_P {elt iter : PySem.Expr} {x x₂ : Str} {px px₂ tp : Pos} {kk : Nat} {scope : Scope} {cl : List (Str × Addr)} {pos : Pos} {Q : Value → Shared → Prop}
    (hclos : closureFor scope env = pure cl) (hcell : ∀ y ∈ scope.names, y.2 ≠ .cell) (hkind : scope.kind = .function)
    (hnames : ∀ y ∈ scope.names, y.2 = .local → scope.names.lookup y.1 = some .local) (hx : scope.names.lookup x = some .local) (hx₂ : scope.names.lookup x₂ = some .local) (hxx : x ≠ x₂)
    (h : wpAny (model prog w) A (eval iter env) (PostP prog w A E env scope cl x x₂ elt fun n El s₀ => FinG n El s₀ Q) E s)
    (hs : ∀ x, foldedSetIterable iter env x = pure x) :
    wpAny (model prog w) A (eval (.ListComp elt [⟨.Tuple [.Name x px, .Name x₂ px₂] kk tp, iter, [], 0⟩] scope pos) env) Q E s := by
  rw [eval_ListComp]
  refine wpAny_comprehension_free (use := none) rfl hs hclos hkind hnames (wpAny_mono h (fun xv s₁ h₁ => wpAny_mono h₁ (fun itv s₂ h₂ => ?_) fun _ _ e => e) fun _ _ e => e)
  obtain ⟨s₀, I, fp, wr, n, P, Pt, St, Mid, El, rfl, hh, Wk, hPt, hsz, hin, hst, hfp, ⟨g, tg, rfl⟩, hwr, up, helt, hfin⟩ := h₂
  have back : ∀ {h : Heap}, (∀ b o, b ∉ wr → g.get? b = some o → h.get? b = some o) → ∀ b o, s₀.heap.get? b = some o → h.get? b = some o := fun hk b o e => hk b o (fun z => by rw [hwr b z] at e; cases e) (up b o e)
  refine block_pair (El := El) hh Wk hPt hsz hin hcell hkind hx hx₂ hxx hst hfp ?_ ?_
  · intro i v v₂ C m₂ h tk E' hi hP hn hm hm₂ hC hk
    exact helt i v v₂ C m₂ h tk E' hP hn hm hm₂ (grow_none up hC) (back hk)
  · intro D C h tk m' ys big nD hD hC hCD hn hlD hM hF hA hk
    exact ⟨m', hn, fun h'' hs'' => hfin.same (grow_none up hD) (grow_none up hC) hCD hlD hM (fun p hp => ⟨(hF p hp).1, grow_none up (hF p hp).2⟩) hA (back hk) h'' hs''⟩
theorem Assign_ListComp_P {elt iter : PySem.Expr} {x x₂ y : Str} {px px₂ tp py : Pos} {kk : Nat} {scope : Scope} {cl : List (Str × Addr)} {pos spos : Pos} {Q : Flow → Shared → Prop} {m : Str → Option Value}
    (hsw : swapsWith (.ListComp elt [⟨.Tuple [.Name x px, .Name x₂ px₂] kk tp, iter, [], 0⟩] scope pos) (some (.Name y py)) spos.line env = pure true)
    (hclos : closureFor scope env = pure cl) (hcell : ∀ y ∈ scope.names, y.2 ≠ .cell) (hkind : scope.kind = .function)
    (hnames : ∀ y ∈ scope.names, y.2 = .local → scope.names.lookup y.1 = some .local) (hx : scope.names.lookup x = some .local) (hx₂ : scope.names.lookup x₂ = some .local) (hxx : x ≠ x₂)
    (hy : env.kindOf y = some .local) (hp : (env.scope.kind == .class || (env.scope.kind == .module && env.locals != env.globals)) = false)
    (h : wpAny (model prog w) A (eval iter env) (PostP prog w A E env scope cl x x₂ elt fun n El s₀ => s₀.heap.Ns env.locals m ∧ FinA env.locals m y n El s₀ Q) E s)
    (hs : ∀ x, foldedSetIterable iter env x = pure x) :
    wpAny (model prog w) A (exec (.Assign [.Name y py] (.ListComp elt [⟨.Tuple [.Name x px, .Name x₂ px₂] kk tp, iter, [], 0⟩] scope pos) spos) env) Q E s := by
  rw [exec_Assign_Name_used _ _ _ _ hsw]
  refine wpAny_bind (wpAny_standAt (wpAny_bind ?_))
  show wpAny _ A (do let _ ← comprehension (.ListComp elt [⟨.Tuple [.Name x px, .Name x₂ px₂] kk tp, iter, [], 0⟩] scope pos) scope env _ (newList []) false (eval iter env) (some (assign (.Name y py) env))) _ _ s
  refine wpAny_bind (wpAny_mono (wpAny_comprehension_free (use := some (assign (.Name y py) env)) (Q := fun _ s' => Q .next s') rfl hs hclos hkind hnames
    (wpAny_mono h (fun xv s₁ h₁ => wpAny_mono h₁ (fun itv s₂ h₂ => ?_) fun _ _ e => e) fun _ _ e => e)) (fun _ s' hq => wpAny_pure (wpAny_pure hq)) fun _ _ e => e)
  obtain ⟨s₀, I, fp, wr, n, P, Pt, St, Mid, El, rfl, hh, Wk, hPt, hsz, hin, hst, hfp, ⟨g, tg, rfl⟩, hwr, up, helt, hnL, hfin⟩ := h₂
  have back : ∀ {h : Heap}, (∀ b o, b ∉ wr → g.get? b = some o → h.get? b = some o) → ∀ b o, s₀.heap.get? b = some o → h.get? b = some o := fun hk b o e => hk b o (fun z => by rw [hwr b z] at e; cases e) (up b o e)
  refine block_pair (El := El) hh Wk hPt hsz hin hcell hkind hx hx₂ hxx hst hfp ?_ ?_
  · intro i v v₂ C m₂ h tk E' hi hP hn hm hm₂ hC hk
    exact helt i v v₂ C m₂ h tk E' hP hn hm hm₂ (grow_none up hC) (back hk)
  · intro D C h tk m' ys big nD hD hC hCD hn hlD hM hF hA hk
    have hk' : ∀ b o, s₀.heap.get? b = some o → h.get? b = some o := back hk
    have hCL : C ≠ env.locals := fun z => by
      obtain ⟨o, _, _, ho, _⟩ := hnL
      have := up _ _ ho
      rw [← z, hC] at this; cases this
    show wpAny _ A (assign (.Name y py) env (.ref D)) _ _ _
    refine wpAny_assign_Name (wpAny_storeName_local hy (hnL.keeps hk') (fun h₂ hn₂ hs₂ => ?_) hp)
    refine ⟨m', hn.sameBut hs₂ hCL, fun h'' hs'' => ?_⟩
    exact hfin.same hnL (grow_none up hD) (grow_none up hC) hCD hlD hM (fun p hp => ⟨(hF p hp).1, grow_none up (hF p hp).2⟩) hA hk' hn₂ hs₂ h'' hs''
/-- enumerate of a list -/
theorem enum_post {env : Env} {scope : Scope} {cl : List (Str × Addr)} {x x₂ : Str} {elt : PySem.Expr} {Fin : Nat → (Nat → Value → List (Addr × Obj) → Prop) → Shared → Prop} {l : Addr} {its : Array Value} {El : Nat → Value → List (Addr × Obj) → Prop} (hh : A.handled = none) (hl : s.heap.IsList l its) (hsz : its.size ≤ sizeLine)
    (helt : EltP prog w A env scope cl x x₂ elt (fun i v v₂ => ∃ t, v = .int i t ∧ its[i]? = some v₂) El s) (hfin : Fin its.size El s) :
    wpAny (model prog w) A (call (.type "enumerate") [.ref l]) (PostP prog w A E env scope cl x x₂ elt Fin) E s := by
  refine call_enumerate_list hl fun h' he hit hsz' hk => ?_
  have hlt : l < s.heap.objs.size := by obtain ⟨_, e, _⟩ := hl; exact Heap.lt_size e
  have hW := WalksT.enumerate (prog := prog) (w := w) hh (s.heap.objs.size + 1) s.heap.objs.size l (Nat.succ_ne_self _) (Nat.ne_of_lt (Nat.lt_succ_of_lt hlt)) (Nat.ne_of_lt hlt) its
  refine hW.self 0 _ _ _ ⟨⟨_, he⟩, hit, hl.at fun o e => hk l o e⟩ ?_
  refine ⟨s, _, _, _, _, _, _, _, _, El, rfl, hh, hW, fun i vals ⟨t, x, h1, h2⟩ => ⟨_, _, h2, t, rfl, h1⟩, hsz, fun i h st b hb => ?_, ⟨⟨_, he⟩, hit, hl.at fun o e => hk l o e⟩, fun b hb => ?_, ⟨h', s.toks, rfl⟩, fun b hb => ?_, hk, helt, hfin⟩
  · obtain ⟨⟨old, h1⟩, ⟨o2, h2, _⟩, ⟨o3, h3, _⟩⟩ := st
    refine mem_elim hb ?_ fun hb => ?_
    · exact ⟨_, h1⟩
    refine mem_elim hb ?_ fun hb => ?_
    · exact ⟨_, h2⟩
    · refine mem_one hb ?_; exact ⟨_, h3⟩
  · show b < h'.objs.size
    rw [hsz']
    refine mem_elim hb ?_ fun hb => ?_
    · exact Nat.lt_succ_self _
    refine mem_elim hb ?_ fun hb => ?_
    · exact Nat.lt_succ_of_lt (Nat.lt_succ_self _)
    · refine mem_one hb ?_; exact Nat.lt_succ_of_lt (Nat.lt_succ_of_lt hlt)
  · refine mem_elim hb ?_ fun hb => ?_
    · exact Heap.get?_none_of_le (Nat.le_succ _)
    · refine mem_one hb ?_; exact Heap.get?_none_of_le (Nat.le_refl _)
/-- zip of two lists -/
theorem zip_post {env : Env} {scope : Scope} {cl : List (Str × Addr)} {x x₂ : Str} {elt : PySem.Expr} {Fin : Nat → (Nat → Value → List (Addr × Obj) → Prop) → Shared → Prop} {l₁ l₂ : Addr} {xs ys : Array Value} {El : Nat → Value → List (Addr × Obj) → Prop} (hh : A.handled = none) (hl₁ : s.heap.IsList l₁ xs) (hl₂ : s.heap.IsList l₂ ys) (hsz : min xs.size ys.size ≤ sizeLine)
    (helt : EltP prog w A env scope cl x x₂ elt (fun i v v₂ => xs[i]? = some v ∧ ys[i]? = some v₂) El s) (hfin : Fin (min xs.size ys.size) El s) :
    wpAny (model prog w) A (call (.type "zip") [.ref l₁, .ref l₂]) (PostP prog w A E env scope cl x x₂ elt Fin) E s := by
  refine call_zip_2 hl₁ hl₂ fun h' hz hI hO h1 h2 hsz' hk => ?_
  have hlt₁ : l₁ < s.heap.objs.size := by obtain ⟨_, e, _⟩ := hl₁; exact Heap.lt_size e
  have hlt₂ : l₂ < s.heap.objs.size := by obtain ⟨_, e, _⟩ := hl₂; exact Heap.lt_size e
  have hlt₁' : @LT.lt Nat _ l₁ s.heap.objs.size := hlt₁
  have hlt₂' : @LT.lt Nat _ l₂ s.heap.objs.size := hlt₂
  have hap : ZipApart (s.heap.objs.size + 4) (s.heap.objs.size + 2) (s.heap.objs.size + 3) s.heap.objs.size (s.heap.objs.size + 1) l₁ l₂ := by
    constructor <;> (intro z; have z' : @Eq Nat _ _ := z; omega)
  have hW := WalksT.zip2 (prog := prog) (w := w) hh _ _ _ _ _ l₁ l₂ hap xs ys
  have hst : IsZip h' (s.heap.objs.size + 4) (s.heap.objs.size + 2) (s.heap.objs.size + 3) .none ∧ IsPair h' (s.heap.objs.size + 2) (.ref s.heap.objs.size) (.ref (s.heap.objs.size + 1)) ∧ (∃ a b, IsPair h' (s.heap.objs.size + 3) a b) ∧ h'.IsListIter s.heap.objs.size l₁ 0 ∧ h'.IsListIter (s.heap.objs.size + 1) l₂ 0 ∧ h'.IsList l₁ xs ∧ h'.IsList l₂ ys :=
    ⟨hz, hI, ⟨_, _, hO⟩, h1, h2, hl₁.at fun o e => hk _ o e, hl₂.at fun o e => hk _ o e⟩
  refine hW.self 0 _ _ _ hst ?_
  refine ⟨s, _, _, _, _, _, _, _, _, El, rfl, hh, hW, fun i vals ⟨x, y, h1, h2, h3⟩ => ⟨x, y, h3, h1, h2⟩, hsz, fun i h st b hb => ?_, hst, fun b hb => ?_, ⟨h', s.toks, rfl⟩, fun b hb => ?_, hk, helt, hfin⟩
  · obtain ⟨k1, k2, ⟨_, _, k3⟩, ⟨_, k4, _⟩, ⟨_, k5, _⟩, ⟨_, k6, _⟩, ⟨_, k7, _⟩⟩ := st
    refine mem_elim hb ?_ fun hb => mem_elim hb ?_ fun hb => mem_elim hb ?_ fun hb => mem_elim hb ?_ fun hb => mem_elim hb ?_ fun hb => mem_elim hb ?_ fun hb => mem_one hb ?_
    · exact ⟨_, k1⟩
    · exact ⟨_, k2⟩
    · exact ⟨_, k3⟩
    · exact ⟨_, k4⟩
    · exact ⟨_, k5⟩
    · exact ⟨_, k6⟩
    · exact ⟨_, k7⟩
  · show b < h'.objs.size
    rw [hsz']
    simp only [List.mem_cons, List.not_mem_nil, or_false] at hb
    rcases hb with hb | hb | hb | hb | hb | hb | hb <;> (have hb' : @Eq Nat b _ := hb; show @LT.lt Nat _ b _; omega)
  · simp only [List.mem_cons, List.not_mem_nil, or_false] at hb
    rcases hb with rfl | rfl | rfl | rfl <;> (refine Heap.get?_none_of_le ?_; show (_ : Nat) ≤ _; omega)
theorem assign_plain {x : Str} {p pos : Pos} {value : PySem.Expr} {Q : Flow → Shared → Prop} (hsw : swapsWith value (some (.Name x p)) pos.line env = pure false)
    (h : wpAny (model prog w) A (eval value env) (fun v s' => wpAny (model prog w) A (bindName env x v) (fun _ s'' => Q .next s'') E s') E s) : wpAny (model prog w) A (exec (.Assign [.Name x p] value pos) env) Q E s := by
  rw [exec_Assign_Name _ _ _ _ _ hsw]
  exact wpAny_bind (wpAny_standAt (wpAny_bind (wpAny_mono h (fun v s' h' => wpAny_bind (wpAny_standAt (wpAny_bind (wpAny_mono h' (fun _ s'' q => wpAny_pure q) fun _ _ e => e)))) fun _ _ e => e)))
end
end Mine
end
section
set_option Elab.async false
theorem Mine.off_LT : True ∧ True := by
  w_top off
  first | walk1 | skip
  all_goals (first | trivial | exact ⟨trivial, trivial⟩)
end
section
open PySem PySem.W PyProof.Rows PySem.Calls
set_option Elab.async false
set_option maxRecDepth 100000
set_option maxHeartbeats 4000000
set_option pp.deepTerms false
set_option pp.deepTerms.threshold 9
namespace Mine
inductive ThingAt (x : Int) : Value → List (Addr × Obj) → Prop
  | num {t : Tok} : x.fmod 9 < 3 → t ≠ 0 → ThingAt x (.int ((x.fdiv 9).fmod 4) t) []
  | tru : x.fmod 9 = 3 → ThingAt x (.bool true) []
  | fls : x.fmod 9 = 4 → ThingAt x (.bool false) []
  | str {t : Tok} : x.fmod 9 = 5 → t ≠ 0 → ThingAt x (.str (Txt.item (Str.ofString "ab") ((x.fdiv 9).fmod 2)) t) []
  | tup {a : Addr} {t : Tok} {n : Nat} : x.fmod 9 = 6 → ThingAt x (.ref a) [(a, { cls := .type "tuple", data := .seq #[.int ((x.fdiv 9).fmod 2) t, .none] n })]
  | big {t : Tok} : x.fmod 9 = 7 → t ≠ 0 → ThingAt x (.int (x.fdiv 9) t) []
  | lst {a : Addr} {t : Tok} {n : Nat} : x.fmod 9 = 8 → ThingAt x (.ref a) [(a, W.listOf #[.int x t] n)]
theorem item_listE {prog : Program} {w : World} {A : Around} {E : Value → Shared → Prop} {s : Shared} {value slice : Expr} {l : Addr} {items : Array Value} {i k : Int} {u : Tok} {x : Value} {Q : Value → Shared → Prop} (e : i = k) (hl : s.heap.IsList l items)
   (h0 : 0 ≤ k) (hfit : k < 2 ^ 63) (hx : items[k.toNat]? = some x) (h : Q x s)
   (hs : subscripted slice false (.ref l) (.int k u) = operate [.ref l, .int k u] (getItem (.ref l) (.int k u))) (hg : ∀ r, letTemporaryGo value (.ref l) r = pure ()) :
   wpAny (model prog w) A (subscriptTail value slice (.ref l) (.int i u)) Q E s := by
  subst e
  exact PyProof.Rows.item_list hl h0 hfit hx h hs hg
theorem law_thing {w : World} {A : Around} {s : Shared} {mean : ExcName → Option Value} {loose : List Str} {mg mb : Str → Option Value} {x : Int} {t : Tok} {R : Result → Shared → Prop}
   (X : (Mine.hd.heap_39 w.params).In s.heap) (T : Top topProg loose mean mg mb s.heap) (hroom : A.depth < recursionLimit)
   (k : ∀ v h' tk led, ThingAt x v led → (∀ b o, s.heap.get? b = some o → h'.get? b = some o) → (∀ p ∈ led, h'.get? p.1 = some p.2 ∧ s.heap.get? p.1 = none) → R (.ok (.ret v)) { s with heap := h', toks := tk }) :
   codeAny (model PySem.Challenge.rw_dz0055_01.row.prog w) A (.call (.ref 66) ⟨[.int x t], []⟩) R s := by
  revert X
  k_fill
  intro X
  refine codeAny_call_def hroom (X _ _ (by k_is)) rfl T.nolimit (codeRec_of X (by k_is)) rfl (.of_eq rfl) (by decide) (locs rfl) (fun h₁ hns keep => ?_)
  have F : Fr s.heap s.heap.objs.size h₁ _ := ⟨hns, keep, Nat.le_refl _⟩
  have N : News s.heap s.heap.objs.size h₁ [] := News.nil
  repeat' walk1
  rename_i F N _
  have hr := nine (Int.fmod_nonneg_of_pos x (b := 9) (by decide)) (Int.fmod_lt_of_pos x (b := 9) (by decide))
  rcases hr with e | e | e | e | e | e | e | e | e <;> refine item_listE (hs := by with_unfolding_all rfl) (hg := by intro _; with_unfolding_all rfl) e (by is_list) (by decide) (by decide) rfl ?_
  · exact k _ _ _ _ (.num (by rw [e]; decide) (Nat.succ_ne_zero _)) F.keep (fun _ h => nomatch h)
  · exact k _ _ _ _ (.num (by rw [e]; decide) (Nat.succ_ne_zero _)) F.keep (fun _ h => nomatch h)
  · exact k _ _ _ _ (.num (by rw [e]; decide) (Nat.succ_ne_zero _)) F.keep (fun _ h => nomatch h)
  · exact k _ _ _ _ (.tru e) F.keep (fun _ h => nomatch h)
  · exact k _ _ _ _ (.fls e) F.keep (fun _ h => nomatch h)
  · exact k _ _ _ _ (.str e (Nat.succ_ne_zero _)) F.keep (fun _ h => nomatch h)
  · exact k _ _ _ _ (.tup e) F.keep (fun p hp => by refine mem_one hp ?_; exact ⟨(N _ (.tail _ (.tail _ (.head _)))).1, (N _ (.tail _ (.tail _ (.head _)))).2.2⟩)
  · exact k _ _ _ _ (.big e (Nat.succ_ne_zero _)) F.keep (fun _ h => nomatch h)
  · exact k _ _ _ _ (.lst e) F.keep (fun p hp => by refine mem_one hp ?_; exact ⟨(N _ (.tail _ (.head _))).1, (N _ (.tail _ (.head _))).2.2⟩)
end Mine
end
section
open PySem PySem.W PyProof.Rows PySem.Calls PySem.W.X
set_option Elab.async false
set_option maxRecDepth 100000
namespace Mine
section
variable {prog : Program} {w : World} {A : Around} {s : Shared} {R : Result → Shared → Prop} {name qual : Str} {params : Arguments} {body : List Stmt} {scope : Scope} {dV kV doc pm cdv ct : Value} {an : Option Addr} {fo : Obj} {f : Addr} {args : Args} {binds : List (Str × Value)}
/-- a call of a def some of whose names are captured -/
theorem call_cells (hlim : s.heap.NoLimit) (ho : s.heap.get? f = some fo) (hd : fo.data = .func (fnX name qual params body scope [] dV kV doc pm an cdv ct)) (hcd : s.heap.CodeRec cdv qual) (hroom : A.depth < recursionLimit)
    (hbind : BindsTo s (fnX name qual params body scope [] dV kV doc pm an cdv ct) args binds)
    (hkind : ∀ n, ∀ x ∈ binds, scope.names.lookup x.1 = some .local ∨ (scope.names.lookup x.1 = some .cell ∧ ((cellsFrom n scope.names []).lookup x.1).isSome = true))
    (hnd : ((cellsFrom 0 scope.names []).map (·.1)).Nodup)
    (h : ∀ h₁ tk cells, Fr s.heap s.heap.objs.size h₁ (bindL (envOfC qual scope s.heap.objs.size f cdv).kindOf binds fun _ => none) → News s.heap s.heap.objs.size h₁ cells →
      CellsAre (bindC (envOfC qual scope s.heap.objs.size f cdv).kindOf binds fun _ => none) (cellsFrom (s.heap.objs.size + 1) scope.names []) cells →
      wpAny (model prog w) (A.deeper (envOfC qual scope s.heap.objs.size f cdv)) (execs body (envOfC qual scope s.heap.objs.size f cdv))
        (fun fl s' => R (.ok (.ret (match fl with | .ret v => v | _ => .none))) s')
        (fun e s' => wpAny (model prog w) (A.deeper (envOfC qual scope s.heap.objs.size f cdv)) (leaving (envOfC qual scope s.heap.objs.size f cdv) e) (fun _ s'' => R (.error e) s'') (fun e' s'' => R (.error e') s'') s')
        { s with heap := h₁, toks := tk })
    (hco : scope.isCoroutine = false) (hgen : scope.isGenerator = false) (hk : scope.kind = .function) : codeAny (model prog w) A (.call (.ref f) args) R s := by
  refine codeAny_call_function hroom ho hd hco hgen rfl hcd (hbind _ _ _ _ ?_)
  refine wpAny_newFunctionEnv_cells hk (hkind _) fun env' he s' x => ?_
  subst he
  refine ⟨hlim.keeps x.toInCall.keep, codeAny_func ?_⟩
  obtain ⟨h₁, tk, rfl, _⟩ := x.done
  have hk₁ := x.toInCall.keep
  obtain ⟨cells, NC, Y⟩ := Cl.news (h₀ := s.heap) (Nat.le_refl _) fun n c hm => ⟨x.cell n c (lookup_of_mem_nodup (cellsFrom_names scope.names 0 (s.heap.objs.size + 1) [] [] rfl ▸ hnd) hm), x.above n c hm⟩
  exact h h₁ tk cells ⟨x.toInCall.ns, fun b o e => hk₁ b o e, Nat.le_refl _⟩ NC Y
end
theorem nums_len {vs : List Value} {ps : List Nat} (h : NumsAre vs ps) : vs.length = ps.length := by
  induction h with
  | nil => rfl
  | cons _ ih => simp [ih]
theorem nums_get {vs : List Value} {ps : List Nat} (h : NumsAre vs ps) : ∀ (i : Nat) (v : Value), vs[i]? = some v → ∃ j tj, ps[i]? = some j ∧ v = .int (j : Nat) tj := by
  induction h with
  | nil => intro i v h; simp at h
  | cons _ ih =>
    intro i v h
    cases i with
    | zero =>
      simp only [List.getElem?_cons_zero, Option.some.injEq] at h
      exact ⟨_, _, rfl, h.symm⟩
    | succ i => exact ih i v (by simpa using h)
theorem nums_snoc {vs : List Value} {ps : List Nat} (h : NumsAre vs ps) (p : Nat) (t : Tok) : NumsAre (vs ++ [.int p t]) (ps ++ [p]) := by
  induction h with
  | nil => exact .cons .nil
  | cons _ ih => exact .cons ih
end Mine
end
section
set_option Elab.async false
local macro_rules | `(tactic| walk_at "idle") => `(tactic| skip)
theorem Mine.off_DU : True ∧ True := by
  w_top off
  first | walk1 | skip
  all_goals (first | trivial | exact ⟨trivial, trivial⟩)
end
section
open PySem PySem.W PyProof.Rows PySem.Calls PySem.W.X
set_option Elab.async false
set_option maxRecDepth 100000
set_option maxHeartbeats 2000000
set_option pp.deepTerms false
set_option pp.deepTerms.threshold 6
namespace Mine
local macro_rules | `(tactic| walk_at $s:str) => if ["exec While Compare", "eval ListComp"].contains s.getString then `(tactic| (k_here; refine hold ?_)) else Lean.Macro.throwUnsupported
local macro_rules | `(tactic| walk_at "unpackItems ref") => `(tactic| (k_here; k_dflt (refine' unpackItemsN_ ?k1 ?k2 ?k3 ?k4 ?k5 ?_; (case k1 => k_asm); (case k2 => k_asm); (case k3 => kun_tup); (case k4 => first | exact rfl | assumption); (case k5 => first | exact rfl | assumption); k_whole); intro h' F' N'; (try k_sweep)))
noncomputable abbrev mD (vtold vasked vplace vtakes : Option Value) : Str → Option Value := fun y => if y = Str.ofString "told" then vtold else if y = Str.ofString "asked" then vasked else if y = Str.ofString "place" then vplace else if y = Str.ofString "takes" then vtakes else none
/-- a mark: a word alone, or a key -/
noncomputable abbrev Mk := String ⊕ NK
noncomputable def dueRun (mks : List Mk) (takes : Nat → Nat) : Nat → Nat → List Nat → List Nat → List Nat × List Nat × String × Nat
  | 0, place, told, asked => (told, asked, "over", place)
  | f + 1, place, told, asked => match mks[place]? with
    | none => (told, asked, "over", place)
    | some (.inl x) => (told, asked ++ [place], x, place + 1)
    | some (.inr k) => if asked.any (fun j => decide (mks[j]? = some (Sum.inr k))) then dueRun mks takes f (place + 1) told (asked ++ [place])
      else dueRun mks takes f (place + 1 + takes told.length) (told ++ [place]) (asked ++ [place])
noncomputable def MarkAt (h : Heap) (m : Mk) (v : Value) : Prop := match m with
  | .inl x => ∃ a t, v = .ref a ∧ h.IsList a #[.str (Str.ofString x) t]
  | .inr _ => ∃ a u v', v = .ref a ∧ h.IsList a #[u, v']
structure DueAt (h₀ : Heap) (ml tkl L : Addr) (mv : Array Value) (mks : List Mk) (takes : Nat → Nat) (final : List Nat × List Nat × String × Nat) (s₀ : Shared)
   (n : Nat) (s' : Shared) (h : Heap) (tk : Nat) (tl al : Addr) (tv av : Array Value) (e1 e2 : Nat) (co : Obj) (told asked : List Nat) (place f : Nat) (tp : Tok) : Prop where
  fr : Fr h₀ L h (mD (some (.ref tl)) (some (.ref al)) (some (.int place tp)) (some (.ref tkl)))
  eq : s' = { s₀ with heap := h, toks := tk }
  news : News h₀ L h ((tl, W.listOf tv e1) :: (al, W.listOf av e2) :: (L + 1, co) :: [])
  cell : co.data = .cell (some (.ref ml))
  ne : tl ≠ al ∧ tl ≠ L + 1 ∧ al ≠ L + 1
  nums1 : NumsAre tv.toList told
  nums2 : NumsAre av.toList asked
  keys : ∀ j ∈ asked, ∃ k : NK, mks[j]? = some (Sum.inr k)
  len : told.length ≤ place ∧ asked.length ≤ place ∧ place ≤ mks.length + 2
  num : n = mks.length + 3 - place
  fuel : n ≤ f
  fin : dueRun mks takes f place told asked = final
theorem mD_place (a b c d : Option Value) (v v' : Value) (h : v = v') : ∀ y, (if y = Str.ofString "place" then some v else mD a b c d y) = mD a b (some v') d y := fun y => by
  subst h
  by_cases z1 : y = Str.ofString "told"
  · subst z1; rfl
  by_cases z2 : y = Str.ofString "asked"
  · subst z2; rfl
  by_cases z3 : y = Str.ofString "place"
  · subst z3; rfl
  simp only [mD, if_neg z1, if_neg z2, if_neg z3]
theorem mD_place2 (a b c d : Option Value) (v v' v'' : Value) (h : v = v') : ∀ y, (if y = Str.ofString "place" then some v else if y = Str.ofString "place" then some v'' else mD a b c d y) = mD a b (some v') d y := fun y => by
  rw [← mD_place a b c d v v' h y]
  split <;> rfl
theorem bindL_none {kd : Str → Option NameKind} {y : Str} : ∀ (bs : List (Str × Value)) (m : Str → Option Value), (∀ p ∈ bs, y ≠ p.1) → m y = none → bindL kd bs m y = none
  | [], _, _, h => h
  | (n, v) :: r, m, hb, h => bindL_none r _ (fun p hp => hb p (.tail _ hp)) (by
      split
      · have hn : y ≠ n := hb (n, v) (.head _)
        show (if y = n then some v else m y) = none
        rw [if_neg hn]; exact h
      · exact h)
inductive DueEnd (final : List Nat × List Nat × String × Nat) (s₀ : Shared) (r : Result) (s' : Shared) : Prop
  | mk : ∀ h' tk D0 tl al tv av e1 e2 t1 t2, (r = .ok (.ret (.ref D0)))
      → (s' = { s₀ with heap := h', toks := tk })
      → ((∀ b o, s₀.heap.get? b = some o → h'.get? b = some o))
      → ((∀ p ∈ [(D0, W.listOf #[.ref tl, .ref al, .str (Str.ofString final.2.2.1) t1, .int final.2.2.2 t2] 0), (tl, W.listOf tv e1), (al, W.listOf av e2)], h'.get? p.1 = some p.2 ∧ s₀.heap.get? p.1 = none))
      → (NumsAre tv.toList final.1)
      → (NumsAre av.toList final.2.1) → DueEnd final s₀ r s'
theorem due_walk {w : World} {A : Around} {s : Shared} {mean : ExcName → Option Value} {loose : List Str} {mg mb : Str → Option Value} {ml tkl : Addr} {R : Result → Shared → Prop}
   {mv tks : Array Value} {mks : List Mk} {takes : Nat → Nat}
   (X : (Mine.hd.heap_39 w.params).In s.heap) (T : Top topProg loose mean mg mb s.heap) (hroom : A.depth < 350) (hu : A.units < 3000) (hhn : A.handled = none)
   (hml : s.heap.IsList ml mv) (hsz : mv.size = mks.length) (h50 : mks.length ≤ 50) (hmk : ∀ (i : Nat) (m : Mk), mks[i]? = some m → ∃ v, mv[i]? = some v ∧ MarkAt s.heap m v)
   (hEq : ∀ (A : Around) (s' : Shared) (i j : Nat) (k k' : NK) (v v' : Value), A.units < 3500 → s.heap.StaysIn s'.heap → mks[i]? = some (Sum.inr k) → mks[j]? = some (Sum.inr k') → mv[i]? = some v → mv[j]? = some v' → SeqAt.EqAt A s' v v' (decide (k = k')))
   (hInj : ∀ (i j : Nat) (v : Value), mv[i]? = some v → mv[j]? = some v → mks[i]? = mks[j]?)
   (hR : ∀ r s', DueEnd (dueRun mks takes 60 0 [] []) s r s' → R r s') (htl : s.heap.IsList tkl tks) (htk : ∀ j, j < mks.length → ∃ t, tks[j]? = some (.int (takes j) t) ∧ takes j ≤ 2) :
   codeAny (model PySem.Challenge.rw_dz0055_01.row.prog w) A (.call (.ref 83) ⟨[.ref ml, .ref tkl], []⟩) R s := by
  revert X
  k_fill
  intro X
  refine call_cells (hco := by rfl) (hgen := by rfl) (hk := by rfl) T.nolimit (X _ _ (by k_is)) rfl (codeRec_of X (by k_is)) (by show A.depth < 1000; omega) (.of_eq rfl)
    ?hk (by decide) (fun h₁ tk cells F N Y => ?_)
  case hk =>
    intro n y hy
    rcases List.mem_cons.mp (show y ∈ [(Str.ofString "marks", Value.ref ml), (Str.ofString "takes", Value.ref tkl)] from hy) with rfl | hy
    · exact .inr ⟨rfl, rfl⟩
    · refine mem_one hy ?_; exact .inl rfl
  obtain ⟨co, rfl, hco⟩ := CellsAre.one Y
  repeat' walk1
  rename_i lt hh1 q1 la hh2 q2 D' hh3 q3 hh4 hh5 hh6 h₂ F N
  have h1000 : mv.size ≤ 1000 := by omega
  obtain ⟨I, hI1, hI⟩ : ∃ I : Nat → Shared → Prop, (∀ {n s' h tk tl al tv av e1 e2 co told asked place f tp}, DueAt s.heap ml tkl s.heap.objs.size mv mks takes (dueRun mks takes 60 0 [] []) s n s' h tk tl al tv av e1 e2 co told asked place f tp → I n s') ∧
      (∀ {n s'} {P : Prop}, I n s' → (∀ h tk tl al tv av e1 e2 co told asked place f tp, DueAt s.heap ml tkl s.heap.objs.size mv mks takes (dueRun mks takes 60 0 [] []) s n s' h tk tl al tv av e1 e2 co told asked place f tp → P) → P) :=
    ⟨fun n s' => ∃ h tk tl al tv av e1 e2 co told asked place f tp, DueAt s.heap ml tkl s.heap.objs.size mv mks takes (dueRun mks takes 60 0 [] []) s n s' h tk tl al tv av e1 e2 co told asked place f tp, fun H => ⟨_, _, _, _, _, _, _, _, _, _, _, _, _, _, H⟩, fun z a => by
      obtain ⟨h, tk, tl, al, tv, av, e1, e2, co, told, asked, place, f, tp, H⟩ := z
      exact a _ _ _ _ _ _ _ _ _ _ _ _ _ _ H⟩
  refine hideQE (by passes_own) fun Q₁ E₁ hQ₁ hE₁ hP₁ => ?_
  refine while_inv I hP₁ ?_ (mks.length + 3) ?_
  rotate_left
  · refine hI1 (h := h₂) (tk := tk) (tl := lt) (al := la) (tv := #[]) (av := #[]) (e1 := 0) (e2 := 0) (co := co) (told := []) (asked := []) (place := 0) (f := 60) (tp := ?tp) ⟨fr_congr F fun y => ?_, rfl, fun p hp => N p ?_, hco, ⟨?_, ?_, ?_⟩, .nil, .nil, (fun _ h => nomatch h), ⟨Nat.le_refl _, Nat.le_refl _, Nat.zero_le _⟩, rfl, by omega, rfl⟩
    rotate_left
    · by_cases z1 : y = Str.ofString "told"
      · subst z1; rfl
      by_cases z2 : y = Str.ofString "asked"
      · subst z2; rfl
      by_cases z3 : y = Str.ofString "place"
      · subst z3; rfl
      simp only [mD, if_neg z1, if_neg z2, if_neg z3]
      by_cases z4 : y = Str.ofString "takes"
      · subst z4; rfl
      by_cases z5 : y = Str.ofString "marks"
      · subst z5; rfl
      simp only [if_neg z4]
      show bindL _ [(Str.ofString "marks", Value.ref ml), (Str.ofString "takes", Value.ref tkl)] (fun _ => none) y = none
      exact bindL_none _ _ (fun p hp => by
        refine mem_elim hp ?_ fun hp => ?_
        · exact z5
        · refine mem_one hp ?_; exact z4) rfl
    · simp only [List.mem_cons, List.not_mem_nil, or_false] at hp ⊢
      rcases hp with rfl | rfl | rfl <;> simp
    · exact Nat.ne_of_lt q2.1
    · exact Nat.ne_of_gt q1
    · exact Nat.ne_of_gt q2.2
  · clear F N
    intro n s' hI0
    refine hI hI0 fun h tk tl al tv av e1 e2 co told asked place f tp H => ?_
    clear hI0 hI
    have F := H.fr
    have N := H.news
    have hco := H.cell
    obtain ⟨ne1, ne2, ne3⟩ := H.ne
    obtain rfl := H.eq
    have k1 : @Ne Nat al tl := Ne.symm ne1
    have k2 : @Ne Nat tl al := ne1
    have k3 : @Ne Nat tl (s.heap.objs.size + 1) := ne2
    have k4 : @Ne Nat al (s.heap.objs.size + 1) := ne3
    have k5 : @Ne Nat (s.heap.objs.size + 1) al := Ne.symm ne3
    have k6 : @Ne Nat (s.heap.objs.size + 1) tl := Ne.symm ne2
    have ha : av.size = asked.length := by have := nums_len H.nums2; simpa using this
    have ht : tv.size = told.length := by have := nums_len H.nums1; simpa using this
    have hlen := H.len
    repeat' walk1
    · rename_i hlt _ _ _ F₃ N₃
      dsimp only at F₃ N₃ ⊢
      have hpl : place < mks.length := hsz ▸ i_lt hlt
      obtain ⟨m, hm⟩ : ∃ m, mks[place]? = some m := ⟨_, List.getElem?_eq_getElem hpl⟩
      obtain ⟨v, hv, hmk'⟩ := hmk place m hm
      refine item_at (hs := by with_unfolding_all rfl) (hg := by intro _; with_unfolding_all rfl) (x := v) ipred h1000 (stays_list F₃.keep hml) hv ?_
      cases m with
      | inl x =>
        obtain ⟨a, t, rfl, hla⟩ := hmk'
        have hla₃ := stays_list F₃.keep hla
        repeat' walk1
        · refine item_at (hs := by with_unfolding_all rfl) (hg := by intro _; with_unfolding_all rfl) ipred h1000 (stays_list F₃.keep hml) hv ?_
          repeat' walk1
          rename_i D0 h₄ F₄ N₄ _
          have hfin := H.fin
          obtain ⟨f', rfl⟩ := succ_of (due_pos H.num hlen.2.2) H.fuel
          rw [dueRun, hm] at hfin
          dsimp only at hfin
          rw [← hfin] at hR
          subst hQ₁
          dsimp only
          refine hR _ _ ⟨h₄, _, D0, tl, al, tv, av.push (.int place tp), e1, e2 + 1, t, ?t2, rfl, rfl, F₄.keep, fun p hp => ?_, H.nums1, ?_⟩
          rotate_left
          · refine mem_elim hp ?_ fun hp => ?_
            · refine ⟨?_, (N₄ _ (.head _)).2.2⟩
              show h₄.get? D0 = some (W.listOf #[.ref tl, .ref al, .str (Str.ofString x) t, .int ((place + 1 : Nat) : Int) _] 0)
              rw [Int.natCast_add]
              exact (N₄ _ (.head _)).1
            refine mem_elim hp ?_ fun hp => ?_
            · exact ⟨(N₄ _ (.tail _ (.head _))).1, (N₄ _ (.tail _ (.head _))).2.2⟩
            refine mem_one hp ?_
            exact ⟨(N₄ _ (.tail _ (.tail _ (.head _)))).1, (N₄ _ (.tail _ (.tail _ (.head _)))).2.2⟩
          · rw [Array.toList_push]
            exact nums_snoc H.nums2 _ _
        · rename_i z
          exact absurd rfl z
      | inr k =>
        obtain ⟨a, u, v', rfl, hla⟩ := hmk'
        have hla₃ := stays_list F₃.keep hla
        repeat' walk1
        · rename_i z
          exact absurd z (by show ¬ ((2 : Int) = 1); decide)
        · refine item_at (hs := by with_unfolding_all rfl) (hg := by intro _; with_unfolding_all rfl) ipred h1000 (stays_list F₃.keep hml) hv ?_
          repeat' walk1
          refine ListComp_G (hs := by intro _; rfl) (by with_unfolding_all rfl) (by decide) (by rfl) (by decide) (by rfl) ?_
          repeat' walk1
          rename_i h₅ F₅ N₅
          have hsl : slicePick (av.push (.int place tp)) none (some (-1)) none = av := by
            have := slicePick_butLast (av.push (.int place tp)) 1 (Nat.le_refl _)
            rw [show (-((1 : Nat) : Int)) = -1 from rfl] at this
            rw [this]
            simp
          rw [hsl] at N₅
          refine ⟨_, av, fun i y l => l = [] ∧ ∃ j : Nat, asked[i]? = some j ∧ mv[j]? = some y, rfl, hhn, ⟨_, (N₅ _ (.head _)).1, rfl, _, rfl⟩, (by rw [sizeLine_eq]; omega), ?_, ?_⟩
          · intro i v C m₂ h₆ tk₆ E' hv₆ hnC hmx hC hk
            obtain ⟨j, tj, hj1, rfl⟩ : ∃ j tj, asked[i]? = some j ∧ v = .int (j : Nat) tj := nums_get H.nums2 i v (by simpa using hv₆)
            obtain ⟨kj, hkj⟩ := H.keys j (List.mem_of_getElem? hj1)
            obtain ⟨vj, hvj, _⟩ := hmk j _ hkj
            obtain ⟨oC, heC, hoC⟩ := LCg.ns_obj hnC
            have F₆ : Fr s.heap s.heap.objs.size h₆ _ := ⟨F₅.ns.keeps hk, fun b o e => hk _ _ (F₅.keep b o e), F₅.above⟩
            have hCL : C ≠ s.heap.objs.size := fun z => by
              obtain ⟨o, _, _, ho, _⟩ := F₅.ns
              rw [z, ho] at hC; cases hC
            have hCg : s.heap.get? C = none := grow_none F₅.keep hC
            have N₆ : News s.heap s.heap.objs.size h₆ [(C, oC), (s.heap.objs.size + 1, co)] := fun p hp => by
              refine mem_elim hp ?_ fun hp => ?_
              · exact ⟨heC, hCL, hCg⟩
              · refine mem_one hp ?_
                have := N₅ (s.heap.objs.size + 1, co) (.tail _ (.tail _ (.tail _ (.head _))))
                exact ⟨hk _ _ this.1, this.2⟩
            clear F₅ N₅ F₃ N₃
            repeat' walk1
            refine item_at (hs := by with_unfolding_all rfl) (hg := by intro _; with_unfolding_all rfl) (x := vj) rfl h1000 (stays_list F₆.keep hml) hvj ?_
            exact ⟨h₆, _, [], rfl, fun _ _ e => e, ⟨rfl, j, hj1, hvj⟩, fun _ h => nomatch h⟩
          · intro D h₆ tk₆ ys big nD hD hlD hM hF hA hk
            have F₆ : Fr s.heap s.heap.objs.size h₆ _ := ⟨F₅.ns.keeps hk, fun b o e => hk _ _ (F₅.keep b o e), F₅.above⟩
            have N₆ : News s.heap s.heap.objs.size h₆ [(tl, W.listOf tv e1), (al, W.listOf (av.push (.int place tp)) (e2 + 1)), (s.heap.objs.size + 1, co)] := fun p hp => by
              have := N₅ p (.tail _ hp)
              exact ⟨hk _ _ this.1, this.2⟩
            clear F₅ N₅ F₃ N₃
            have hys : ∀ y, y ∈ ys → ∃ (j : Nat) (k' : NK), j ∈ asked ∧ mv[j]? = some y ∧ mks[j]? = some (Sum.inr k') := fun y hy => by
              obtain ⟨i, hi⟩ := Array.getElem?_of_mem hy
              obtain ⟨_, ⟨_, j, hj1, hj2⟩, _⟩ := hM.2 i y hi
              obtain ⟨k', hk'⟩ := H.keys j (List.mem_of_getElem? hj1)
              exact ⟨j, k', List.mem_of_getElem? hj1, hj2, hk'⟩
            obtain ⟨e, he⟩ : ∃ e : Value → Bool, ∀ y, e y = true ↔ ∃ j : Nat, mv[j]? = some y ∧ mks[j]? = some (Sum.inr k) := by
              classical
              exact ⟨fun y => decide (∃ j : Nat, mv[j]? = some y ∧ mks[j]? = some (Sum.inr k)), fun y => by simp⟩
            have hany : ys.any e = asked.any (fun j => decide (mks[j]? = some (Sum.inr k))) := by
              rw [Bool.eq_iff_iff, Array.any_eq_true', List.any_eq_true]
              constructor
              · rintro ⟨y, hy, hey⟩
                obtain ⟨j, k', h1, h2, h3⟩ := hys y hy
                obtain ⟨j', h4, h5⟩ := (he y).mp hey
                refine ⟨j, h1, ?_⟩
                rw [hInj j j' y h2 h4, h5]
                exact decide_eq_true rfl
              · rintro ⟨j, h1, h2⟩
                have h2 := of_decide_eq_true h2
                obtain ⟨i, hi⟩ := List.getElem?_of_mem h1
                have hia : i < ys.size := by
                  rw [hM.1, ha]
                  exact (List.getElem?_eq_some_iff.mp hi).1
                obtain ⟨_, ⟨_, j', hj1, hj2⟩, _⟩ := hM.2 i ys[i] (Array.getElem?_eq_getElem hia)
                obtain rfl : j' = j := Option.some.inj (hj1.symm.trans hi)
                exact ⟨ys[i], Array.getElem_mem hia, (he _).mpr ⟨j', hj2, h2⟩⟩
            refine SeqAt.notIn_listAt (items := ys) e ⟨_, hlD, rfl, _, rfl⟩ (fun y hy => ?_) ?_
            · obtain ⟨j, k', h1, h2, h3⟩ := hys y hy
              have q := fun A' (hA' : A'.units < 3500) => hEq A' { s with heap := h₆, toks := tk₆ } j place k' k y (.ref a) hA' F₆.keep h3 hm h2 hv
              have : decide (k' = k) = e y := by
                rw [Bool.eq_iff_iff, decide_eq_true_iff, he]
                constructor
                · rintro rfl; exact ⟨j, h2, h3⟩
                · rintro ⟨j', h4, h5⟩
                  have := hInj j j' y h2 h4
                  rw [h3, h5] at this
                  injection this with this
                  injection this
              rw [← this]
              exact q _ (by show A.units + 3 + 1 < 3500; omega)
            rw [hany]
            have hfin := H.fin
            obtain ⟨f', rfl⟩ := succ_of (due_pos H.num hlen.2.2) H.fuel
            rw [dueRun, hm] at hfin
            dsimp only at hfin
            have hkeys : ∀ j ∈ asked ++ [place], ∃ k : NK, mks[j]? = some (Sum.inr k) := fun j hj => by
              rcases List.mem_append.mp hj with hj | hj
              · exact H.keys j hj
              · refine mem_one hj ?_; exact ⟨k, hm⟩
            cases hb : asked.any (fun j => decide (mks[j]? = some (Sum.inr k))) with
            | true =>
              rw [hb, if_pos rfl] at hfin
              repeat' walk1
              rename_i F₇ N₇
              refine hold ⟨mks.length + 3 - (place + 1), due_lt H.num hlen.2.2 (Nat.lt_succ_self place), hI1 (tl := tl) (al := al) (tv := tv) (av := av.push (.int place tp)) (e1 := e1) (e2 := e2 + 1) (co := co) (told := told) (asked := asked ++ [place]) (place := place + 1) (f := f') ⟨fr_congr F₆ (mD_place _ _ _ _ _ _ (by rw [Int.natCast_add]; rfl)), rfl, N₆, hco, ⟨ne1, ne2, ne3⟩, H.nums1, ?_, ?_, ?_, rfl, due_le H.num hlen.2.2 (Nat.lt_succ_self place) H.fuel, hfin⟩⟩
              · rw [Array.toList_push]; exact nums_snoc H.nums2 _ _
              · exact hkeys
              · simp only [List.length_append, List.length_singleton]; exact due_len0 hlen hpl
            | false =>
              rw [hb, if_neg Bool.false_ne_true] at hfin
              repeat' walk1
              rename_i F₇ N₇
              generalize hpv : tv.push _ = tv₇ at N₇
              have hsz7 : tv₇.size = told.length + 1 := by rw [← hpv, Array.size_push, ht]
              repeat' walk1
              obtain ⟨tt, htt, hle⟩ := htk told.length (by omega)
              refine item_lt (hs := by with_unfolding_all rfl) (hg := by intro _; with_unfolding_all rfl) (x := .int (takes told.length) tt) int_pred (Nat.lt_of_le_of_lt hlen.1 (Nat.lt_of_lt_of_le hpl (Nat.le_trans h50 (by decide)))) (stays_list F₇.keep htl) htt ?_
              repeat' walk1
              rename_i F₈ N₈
              refine hold ⟨mks.length + 3 - (place + 1 + takes told.length), due_lt H.num hlen.2.2 lt_past, hI1 (tl := tl) (al := al) (tv := tv₇) (av := av.push (.int place tp)) (e1 := e1 + 1) (e2 := e2 + 1) (co := co) (told := told ++ [place]) (asked := asked ++ [place]) (place := place + 1 + takes told.length) (f := f') ⟨fr_congr F₈ (mD_place2 _ _ _ _ _ _ _ (by rw [Int.natCast_add, Int.natCast_add]; rfl)), rfl, N₈, hco, ⟨ne1, ne2, ne3⟩, ?_, ?_, hkeys, ?_, rfl, due_le H.num hlen.2.2 lt_past H.fuel, hfin⟩⟩
              · rw [← hpv, Array.toList_push, show ((place : Int) + 1 - 1) = place from ipred]
                exact nums_snoc H.nums1 _ _
              · rw [Array.toList_push]; exact nums_snoc H.nums2 _ _
              · simp only [List.length_append, List.length_singleton]; exact due_len hlen hpl hle
    · rename_i hge
      subst hQ₁ hE₁
      dsimp only
      repeat' walk1
      rename_i _ D0 h₄ F₄ N₄ _
      have hfin := H.fin
      have hmn : mks[place]? = none := List.getElem?_eq_none (hsz ▸ i_ge hge)
      obtain ⟨f', rfl⟩ := succ_of (due_pos H.num hlen.2.2) H.fuel
      rw [dueRun, hmn] at hfin
      dsimp only at hfin
      rw [← hfin] at hR
      refine hR _ _ ⟨h₄, _, D0, tl, al, tv, av, e1, e2, ?t1, tp, rfl, rfl, F₄.keep, fun p hp => ?_, H.nums1, H.nums2⟩
      rotate_left
      · refine mem_elim hp ?_ fun hp => ?_
        · refine ⟨?_, (N₄ _ (.head _)).2.2⟩
          show h₄.get? D0 = some (W.listOf #[.ref tl, .ref al, .str (Str.ofString "over") _, .int (place : Int) tp] 0)
          exact (N₄ _ (.head _)).1
        refine mem_elim hp ?_ fun hp => ?_
        · exact ⟨(N₄ _ (.tail _ (.head _))).1, (N₄ _ (.tail _ (.head _))).2.2⟩
        refine mem_one hp ?_
        exact ⟨(N₄ _ (.tail _ (.tail _ (.head _)))).1, (N₄ _ (.tail _ (.tail _ (.head _)))).2.2⟩
end Mine
end
section
set_option Elab.async false
theorem Mine.off_KF : True ∧ True := by
  w_top off
  first | walk1 | skip
  all_goals (first | trivial | exact ⟨trivial, trivial⟩)
end
section
open PySem PySem.W PyProof.Rows PySem.Calls PySem.W.X
set_option Elab.async false
set_option maxRecDepth 100000
set_option maxHeartbeats 2000000
set_option pp.deepTerms false
set_option pp.deepTerms.threshold 6
namespace Mine
theorem eq_b {prog : Program} {w : World} {A : Around} {s : Shared} {q : Option NK} {v : Value} {t : Tok} (hu : A.units < cLine) (h : ThingIs prog w s.heap q v) (hl : q = none → ∃ a items, v = .ref a ∧ s.heap.IsList a items) : SeqAt.RcAt A s v (.str (Str.ofString "b") t) (isB q) := by
  cases q with
  | none =>
    obtain ⟨a, items, rfl, hl'⟩ := hl rfl
    exact SeqAt.RcAt.list_str _ _ hl' hu
  | some k =>
    cases h with
    | sc h1 h2 =>
      rcases scIs_cases h1 with ⟨rfl, rfl⟩ | ⟨i, t, rfl, rfl⟩ | ⟨c, rfl, rfl⟩ | ⟨x, t, rfl, rfl⟩
      · exact SeqAt.RcAt.none_str _ _
      · exact SeqAt.RcAt.int_str _ _ _ _
      · exact SeqAt.RcAt.bool_str _ _ _
      · clear h2
        have z : (x == Str.ofString "b") = isB (some (.sc (.str x))) := by
          rw [Bool.eq_iff_iff, beq_iff_eq]
          simp [isB]
        rw [← z]
        exact SeqAt.RcAt.str_str _ _ _ _
    | tup h1 =>
      obtain ⟨o, items, n, ho, hc, hd, hi⟩ := h1
      exact SeqAt.RcAt.tuple_str _ _ ⟨o, ho, hc, n, hd⟩ hu
theorem ThingIs.stays {prog : Program} {w : World} {g h : Heap} {q : Option NK} {v : Value} (x : ThingIs prog w g q v) (st : g.StaysIn h) : ThingIs prog w h q v := by
  cases q with
  | none => obtain ⟨a, o, e, ho, hc⟩ := x; exact ⟨a, o, e, st _ _ ho, hc⟩
  | some k => exact KeyIs.stays x st
theorem frs_of {g h : Heap} {fs : List Addr} {L : Addr} {m : Str → Option Value} {led : List (Addr × Obj)} (F : Fr g L h m) (N : News g L h led) (hfl : ∀ a ∈ fs, ∃ o, (a, o) ∈ led ∧ ∀ vs, o.data ≠ .fields vs) : FrsIn h (L :: fs) := fun a ha => by
  refine mem_elim ha ?_ fun ha => ?_
  · obtain ⟨o, _, _, ho, hd, _⟩ := F.ns
    exact ⟨o, ho, fun vs q => by rw [hd] at q; cases q⟩
  · obtain ⟨o, ho, hd⟩ := hfl a ha
    exact ⟨o, (N _ ho).1, hd⟩
theorem leave_siteF {M : Model} {A : Around} {E : Value → Shared → Prop} {s : Shared} {g h₀ h₁ : Heap} {fs : List Addr} {led₀ led : List (Addr × Obj)} {m : Str → Option Value} {env : Env} {e : Addr} {cls : String} {Q : Unit → Shared → Prop}
   (C : Site A g fs led₀ h₀) (F : Fr g h₀.objs.size h₁ m) (N : News g h₀.objs.size h₁ led) (hfl : ∀ a ∈ fs, ∃ o, (a, o) ∈ led ∧ ∀ vs, o.data ≠ .fields vs) (x : Heap.NewExc h₁ s.heap e cls)
   (k : ∀ h₂ h', Aft g led h₂ → Thrown h₂ fs e cls .none h' → Q () { s with heap := h' }) (hf : env.frame = some h₀.objs.size) (hk : env.scope.kind ≠ .module) : wpAny M (A.deeper env) (leaving env (.ref e)) Q E s := by
  obtain ⟨outer, st1, st2⟩ := C.stack
  obtain ⟨hf1, hf2, _⟩ := C.fresh
  refine leave_made (Around.frames_deeper st1) (deep_ok st2 hk hf) hf (Made.of_new x (frs_of F N hfl)) fun h' T => ?_
  exact k _ h' ((Aft.of_news F N).hide hf2 fun p hp => (N p hp).2.1) (hide_thrown T hf1)
theorem leave_siteT {M : Model} {A : Around} {E : Value → Shared → Prop} {s : Shared} {g h₀ h₁ : Heap} {fs : List Addr} {led₀ led : List (Addr × Obj)} {m : Str → Option Value} {env : Env} {e : Addr} {cls : String} {fl : Value} {Q : Unit → Shared → Prop}
   (C : Site A g fs led₀ h₀) (F : Fr g h₀.objs.size h₁ m) (N : News g h₀.objs.size h₁ led) (x : Thrown h₁ (h₀.objs.size :: fs) e cls fl s.heap)
   (k : ∀ h₂ h', Aft g led h₂ → Thrown h₂ fs e cls .none h' → Q () { s with heap := h' }) (hf : env.frame = some h₀.objs.size) (hk : env.scope.kind ≠ .module) : wpAny M (A.deeper env) (leaving env (.ref e)) Q E s := by
  obtain ⟨outer, st1, st2⟩ := C.stack
  obtain ⟨hf1, hf2, _⟩ := C.fresh
  refine leave_on (Around.frames_deeper st1) (deep_ok st2 hk hf) hf x fun h' T => ?_
  exact k _ h' ((Aft.of_news F N).hide hf2 fun p hp => (N p hp).2.1) (hide_thrown T hf1)
theorem law_key {w : World} {A : Around} {s : Shared} {mean : ExcName → Option Value} {loose : List Str} {mg mb : Str → Option Value} {nl a : Addr} {R : Result → Shared → Prop} {g : Heap}
   {fs : List Addr} {led : List (Addr × Obj)} {no : Obj} {ps : List Nat} {j : Nat} {tj : Tok} {tv : Value} {q : Option NK}
   (X : (Mine.hd.heap_39 w.params).In g) (T : Top topProg loose mean mg mb g) (hroom : A.depth < 600) (hu : A.units < 6000)
   (C : Site A g fs ((nl, no) :: led) s.heap) (hno : NotesOk no ps) (hlen : ps.length ≤ 100) (hd : ∀ p ∈ led, nl ≠ p.1)
   (hl : g.IsList a #[.int (j : Nat) tj, tv]) (hq : ThingIs PySem.Challenge.rw_dz0055_01.row.prog w g q tv) (hql : q = none → ∃ a items, tv = .ref a ∧ g.IsList a items)
   (R1 : ∀ no' h' tk, isB q = false → NotesOk no' (ps ++ [j]) → Aft g ((nl, no') :: led) h' → R (.ok (.ret tv)) { s with heap := h', toks := tk })
   (R2 : ∀ no' h₁ h' e tk, isB q = true → NotesOk no' (ps ++ [j]) → Aft g ((nl, no') :: led) h₁ → Thrown h₁ fs e "KeyError" .none h' → R (.error (.ref e)) { s with heap := h', toks := tk }) :
   codeAny (model PySem.Challenge.rw_dz0055_01.row.prog w) A (.call (.ref 73) ⟨[.ref nl, .ref a], []⟩) R s := by
  revert X
  k_fill
  intro X
  have X' : ((Mine.hd.heap_39 w.params)).In s.heap := fun a o e => C.stay a o (X a o e)
  refine codeAny_call_def (by show A.depth < 1000; omega) (X' _ _ (by k_is)) rfl (T.nolimit.keeps C.stay) (codeRec_of X' (by k_is)) rfl (.of_eq rfl) (by decide) (locs rfl) (fun h₁ hns keep => ?_)
  have F : Fr g s.heap.objs.size h₁ _ := ⟨hns, fun b o hb => keep _ _ (C.stay _ _ hb), C.size⟩
  have N := C.news keep
  have hh := C.handled
  obtain ⟨items, n, rfl, hsz, hnum⟩ := hno
  have hit : items.size = ps.length := by have := nums_len hnum; simpa using this
  repeat' walk1
  refine append_K F N (.head (fun p hp => (hd p hp).symm)) (fun h₂ F₂ N₂ => ?_) (by rw [sizeLine_eq]; omega)
  clear F N
  repeat' walk1
  have he := fun (A' : Around) (hu' : A'.units < cLine) (tk : Nat) (t : Tok) => eq_b (A := A') (s := { s with heap := h₂, toks := tk }) (t := t) hu' (hq.stays F₂.keep) (fun z => by
    obtain ⟨a, items, e1, e2⟩ := hql z
    exact ⟨a, items, e1, stays_list F₂.keep e2⟩)
  refine he _ (by show A.units + 3 < 9900; omega) _ _ _ _ _ _ ?_
  cases hb : isB q with
  | false =>
    repeat' walk1
    exact R1 _ _ _ hb ⟨_, _, rfl, by rw [Array.size_push]; omega, by rw [Array.toList_push]; exact nums_snoc hnum _ _⟩ (Aft.of_news F₂ N₂)
  | true =>
    repeat' walk1
    refine Raise_new hh ?_
    repeat' walk1
    rename_i hx
    refine leave_siteF C F₂ N₂ (fun a ha => ?_) hx (fun h₃ h₄ A₂ T₂ => R2 _ _ _ _ _ hb ⟨_, _, rfl, by rw [Array.size_push]; omega, by rw [Array.toList_push]; exact nums_snoc hnum _ _⟩ A₂ T₂) rfl (fun z => nomatch z)
    obtain ⟨o, ho, hdo⟩ := C.frs a ha
    rcases List.mem_cons.mp ho with e | ho
    · cases e
      exact ⟨_, .head _, fun vs z => nomatch z⟩
    · exact ⟨o, .tail _ ho, hdo⟩
local macro_rules | `(tactic| walk_at "eval Name") => `(tactic| (k_here; with_reducible refine hold_name "notes" ?_))
local macro_rules | `(tactic| walk_at "call ref") => `(tactic| (k_here; with_reducible refine hold_call 73 ?_))
/-- the lambda of the law -/
noncomputable def lamOf (fd : FuncData) : Option (Arguments × PySem.Expr × Scope) := match (bodyOf fd).drop 6 with
  | .For _ _ body _ _ :: _ => match body.drop 5 with
    | .Assign _ (.Call _ [_, .Lambda p b sc _, _] _ _) _ :: _ => some (p, b, sc)
    | _ => none
  | _ => none
theorem nameX_G {M : Model} {A : Around} {E : Value → Shared → Prop} {s : Shared} {L a : Addr} {cn : Str} {cs : Scope} {ccd : Value} {cl : List (Str × Addr)} {x : Str} {pos : Pos} {v : Value} {Q : Value → Shared → Prop} {c : Addr} {o : Obj}
   (hc : cl.lookup x = some c) (ho : s.heap.get? c = some o) (hd : o.data = .cell (some v)) (h : Q v s)
    (hk : cs.kind = .function) (hx : (envX cn cs L a ccd cl).kindOf x = some .free) (hb : (x == ("__debug__" : Str)) = false) (hn : (x == ("__classdict__" : Str)) = false) :
    wpAny M A (eval (.Name x pos) (envX cn cs L a ccd cl)) Q E s := wpAny_Name (wpAny_loadName_free hk hx hc ⟨o, ho, hd⟩ h hn) hb
theorem key_fn {w : World} {mean : ExcName → Option Value} {loose : List Str} {mg mb : Str → Option Value} {nl kf cN c' : Addr} {g : Heap} {xs : Array Value} {ks : List (Option NK)} {fd : FuncData} {oc : Value} {od : Option Addr} {osl : Array (Option Value)}
   {params : Arguments} {body : PySem.Expr} {scope : Scope} {name qual : Str} {pm ctv : Value} {co : Obj}
   (X : (Mine.hd.heap_39 w.params).In g) (T : Top topProg loose mean mg mb g) (hfd : ((Mine.hd.heap_39 w.params)).lookup 88 = some ⟨oc, od, .func fd, osl⟩) (hlam : lamOf fd = some (params, body, scope))
   (hkf : g.get? kf = some (kla_obj name qual params body scope [(Str.ofString "notes", cN)] pm c' ctv)) (hrec : g.CodeRec (.ref c') qual) (hcN : g.get? cN = some co) (hcd : co.data = .cell (some (.ref nl)))
   (hxs : ∀ (j : Nat) (v : Value) (q : Option NK), xs[j]? = some v → ks[j]? = some q → ∃ a tj tv, v = .ref a ∧ g.IsList a #[.int (j : Nat) tj, tv] ∧ ThingIs PySem.Challenge.rw_dz0055_01.row.prog w g q tv ∧ (q = none → ∃ a items, tv = .ref a ∧ g.IsList a items)) :
   KeyFn PySem.Challenge.rw_dz0055_01.row.prog w g kf nl xs ks := by
  revert X hfd
  k_fill
  intro X hfd
  have e := hfd.symm.trans (show _ = some _ by k_is)
  injection e with e
  injection e with _ _ e _
  injection e with e
  subst e
  clear hfd
  dsimp only [lamOf, bodyOf, List.drop] at hlam
  injection hlam with hlam
  injection hlam with e1 hlam
  injection hlam with e2 e3
  subst e1 e2 e3
  intro A s fs led no ps j v q R hroom hu C hno hd hlen hv hq R1 R2
  obtain ⟨a, tj, tv, rfl, hl, hth, hql⟩ := hxs j v q hv hq
  have X' : ((Mine.hd.heap_39 w.params)).In s.heap := fun a o e => C.stay a o (X a o e)
  have hh := C.handled
  refine kla_callFunE (by show A.depth < 1000; omega) (C.stay _ _ hkf) rfl rfl rfl rfl (hrec.keeps C.stay) ?_
  rw [show bindArgs (kla_fn name qual _ _ _ [(Str.ofString "notes", cN)] pm (.ref c') ctv) ⟨[.ref a], []⟩ = pure [(Str.ofString "one", .ref a)] from rfl]
  refine wpAny_pure (wpAny_newFunctionEnv (by dsimp only; decide) (by intro y hy; refine mem_one hy ?_; rfl) (fun h₁ hns hsb => ⟨(T.nolimit.keeps C.stay).fresh _ hsb, ?_⟩) rfl)
  show codeAny _ _ (.expr _ (envX qual _ s.heap.objs.size kf (.ref c') [(Str.ofString "notes", cN)])) _ _
  have keep : ∀ b o, s.heap.get? b = some o → h₁.get? b = some o := fun b o e => hsb.extBut b o (Nat.ne_of_lt (Heap.lt_size e)) (Heap.get?_push_of_some _ e)
  refine kla_codeExpr ?_
  have F : Fr g s.heap.objs.size h₁ _ := ⟨hns, fun b o hb => keep _ _ (C.stay _ _ hb), C.size⟩
  have N := C.news keep
  repeat' walk1
  refine nameX_G (hk := by rfl) (hx := by rfl) (hb := by decide) (hn := by decide) (c := cN) (o := co) rfl (F.keep _ _ hcN) hcd ?_
  repeat' walk1
  obtain ⟨oL, es₀, ep₀, hoL, hdL, hnsL⟩ := F.ns
  have hLg : g.get? s.heap.objs.size = none := C.fresh.2.1
  have hSite : ∀ {env : Env}, env.scope.kind ≠ .module → env.frame = some s.heap.objs.size → Site (A.deeper env) g (s.heap.objs.size :: fs) ((nl, no) :: (s.heap.objs.size, oL) :: led) h₁ := by
    intro env hk hf
    obtain ⟨outer, st1, st2⟩ := C.stack
    refine ⟨F.keep, Nat.le_trans F.above (Nat.le_of_lt F.ns.lt), fun p hp => ?_, fun a ha => ?_, ⟨env :: outer, Around.frames_deeper st1, deep_ok st2 hk hf⟩, hh⟩
    · refine mem_elim hp ?_ fun hp => ?_
      · exact ⟨(N _ (.head _)).1, (N _ (.head _)).2.2⟩
      refine mem_elim hp ?_ fun hp => ?_
      · exact ⟨hoL, hLg⟩
      · exact ⟨(N p (.tail _ hp)).1, (N p (.tail _ hp)).2.2⟩
    · refine mem_elim ha ?_ fun ha => ?_
      · exact ⟨oL, .tail _ (.head _), fun vs q => by rw [hdL] at q; cases q⟩
      · obtain ⟨o, ho, hd⟩ := C.frs a ha
        rcases List.mem_cons.mp ho with e | ho
        · cases e; exact ⟨_, .head _, hd⟩
        · exact ⟨o, .tail _ (.tail _ ho), hd⟩
  have sub : ∀ {no' : Obj} {h : Heap}, Aft g ((nl, no') :: (s.heap.objs.size, oL) :: led) h → Aft g ((nl, no') :: led) h := fun Af => ⟨Af.stay, fun p hp => by
    refine mem_elim hp ?_ fun hp => ?_
    · exact Af.has _ (.head _)
    · exact Af.has p (.tail _ (.tail _ hp))⟩
  refine wpAny_call ?_
  refine law_key (A := A.deeper _) X T (by show A.depth + 1 < 600; omega) (by show A.units + 3 < 6000; omega) (hSite (fun z => nomatch z) rfl) hno hlen (fun p hp => ?_) hl hth hql (fun no' h₂ tk hb hn Af => R1 tv no' h₂ tk hb hth hn (sub Af)) (fun no' h₂ h₃ e tk hb hn Af Th => ?_)
  · refine mem_elim hp ?_ fun hp => ?_
    · exact (N _ (.head _)).2.1
    · exact hd p hp
  · have F₂ : Fr g s.heap.objs.size h₂ _ := ⟨⟨oL, es₀, ep₀, Af.has _ (.tail _ (.head _)), hdL, hnsL⟩, Af.stay, F.above⟩
    have N₂ : News g s.heap.objs.size h₂ ((nl, no') :: led) := fun p hp => by
      refine mem_elim hp ?_ fun hp => ?_
      · exact ⟨Af.has _ (.head _), (N _ (.head _)).2⟩
      · exact ⟨Af.has p (.tail _ (.tail _ hp)), (N p (.tail _ hp)).2⟩
    exact leave_siteT (s := { s with heap := h₃, toks := tk }) C F₂ N₂ Th (fun h₄ h₅ A₂ T₂ => R2 no' h₄ h₅ e tk hb hn A₂ T₂) rfl (fun z => nomatch z)
end Mine
end
section
open PySem PySem.W PyProof.Rows PySem.Calls PySem.W.X
set_option Elab.async false
set_option maxRecDepth 100000
set_option maxHeartbeats 1000000
namespace Mine
theorem scan2_len : ∀ (r : List (Option NK)) (x : (NK → Bool) × List Nat) (i j : Nat) (x' : (NK → Bool) × List Nat), x.2.length ≤ i → scan2 x i r = .told j x' → x'.2.length ≤ j + 1
  | [], x, i, j, x', h, e => by simp [scan2] at e
  | q :: r, x, i, j, x', h, e => by
    rw [scan2.eq_def] at e
    dsimp only at e
    split at e
    · cases e
    · cases q with
      | none => cases e
      | some k =>
        dsimp only at e
        split at e
        · exact scan2_len r _ (i + 1) j x' (by simp; omega) e
        · injection e with e1 e2
          subst e1 e2
          simp; omega
theorem step2_len {ks : List (Option NK)} {x x' : (NK → Bool) × List Nat} {i j : Nat} (h : x.2.length ≤ i) (e : step2 ks x i = .told j x') : x'.2.length ≤ j + 1 := scan2_len _ x i j x' h e
theorem heard1 {w : World} {A : Around} {s : Shared} {mean : ExcName → Option Value} {loose : List Str} {mg mb : Str → Option Value} {l tkl : Addr} {R : Result → Shared → Prop} {g : Heap}
   {fs : List Addr} {led : List (Addr × Obj)} {xs tks : Array Value} {ks : List (Option NK)} {takes : Nat → Nat}
   (X : (Mine.hd.heap_39 w.params).In g) (T : Top topProg loose mean mg mb g) (hroom : A.depth < 350) (hu : A.units < 3000) (hxs : xs.size ≤ 50)
   (hlen : ks.length = xs.size) (hks : ∀ (j : Nat) (v : Value), xs[j]? = some v → ∃ q, ks[j]? = some q ∧ ThingIs PySem.Challenge.rw_dz0055_01.row.prog w g q v)
   (hR : ∀ r s', HeardEnd g fs xs led own1 (heardRun (step1 ks) takes xs.size 60 (fun _ => false) 0 []) s r s' → R r s') (hfs : ∀ a ∈ fs, ∃ ob, (a, ob) ∈ led ∧ ∀ vs, ob.data ≠ .fields vs)
   (C : Site A g fs led s.heap) (hl : g.IsList l xs) (htl : g.IsList tkl tks) (htk : ∀ j, j < xs.size → ∃ t, tks[j]? = some (.int (takes j) t) ∧ takes j ≤ 2) :
   codeAny (model PySem.Challenge.rw_dz0055_01.row.prog w) A (.call (.ref 78) ⟨[.ref l, .none, .ref tkl], []⟩) R s := by
  refine heard (own₀ := []) (step := step1 ks) (Own := own1) (Pre := fun _ _ => True) (x₀ := fun _ => false) (args := fun it => [.ref it]) X T hroom hu hxs trivial (fun _ _ _ _ _ => trivial) (fun _ _ _ _ _ _ => trivial) hR hfs (fun _ h => nomatch h) C hl htl htk (.inl ⟨rfl, rfl⟩) ?_
  intro A s fs led it R hroom hu C _ k
  refine ue1 (i := 0) X T hroom hu C hl hks (.inr rfl) fun h' tk G Lg og gs n₀ n₁ Af gG gL lt1 lt2 Lv => ?_
  exact k h' tk G Lg og gs n₀ n₁ Af gG gL lt1 lt2 (teller1 hlen _ _ _ _ Lv)
theorem heard2 {w : World} {A : Around} {s : Shared} {mean : ExcName → Option Value} {loose : List Str} {mg mb : Str → Option Value} {l tkl nl kf : Addr} {R : Result → Shared → Prop} {g : Heap}
   {fs : List Addr} {led : List (Addr × Obj)} {xs tks : Array Value} {ks : List (Option NK)} {takes : Nat → Nat} {no ko : Obj} {fd : FuncData}
   (X : (Mine.hd.heap_39 w.params).In g) (T : Top topProg loose mean mg mb g) (hroom : A.depth < 350) (hu : A.units < 3000) (hxs : xs.size ≤ 50)
   (hlen : ks.length = xs.size) (hko : g.get? kf = some ko) (hkd : ko.data = .func fd) (hkey : KeyFn PySem.Challenge.rw_dz0055_01.row.prog w g kf nl xs ks) (hno : NotesOk no [])
   (hR : ∀ r s', HeardEnd g fs xs led (own2 nl) (heardRun (step2 ks) takes xs.size 60 (fun _ => false, []) 0 []) s r s' → R r s') (hfs : ∀ a ∈ fs, ∃ ob, (a, ob) ∈ led ∧ ∀ vs, ob.data ≠ .fields vs)
   (hnl : ∀ q ∈ led, nl ≠ q.1)
   (C : Site A g fs ((nl, no) :: led) s.heap) (hl : g.IsList l xs) (htl : g.IsList tkl tks) (htk : ∀ j, j < xs.size → ∃ t, tks[j]? = some (.int (takes j) t) ∧ takes j ≤ 2) :
   codeAny (model PySem.Challenge.rw_dz0055_01.row.prog w) A (.call (.ref 78) ⟨[.ref l, .ref kf, .ref tkl], []⟩) R s := by
  have hgn : g.get? nl = none := (C.has _ (.head _)).2
  refine heard (own₀ := [(nl, no)]) (step := step2 ks) (Own := own2 nl) (Pre := fun x i => x.2.length ≤ i) (x₀ := (fun _ => false, [])) (args := fun it => [.ref it, .ref kf]) X T hroom hu hxs (Nat.le_refl _) (fun _ _ _ h h' => Nat.le_trans h h') (fun x i j x' h e => step2_len h e) hR hfs
    (fun p hp => by refine mem_one hp ?_; exact hnl) C hl htl htk (.inr ⟨kf, rfl, rfl⟩) ?_
  intro A s fs led it R hroom hu C hin k
  have hin' : it ≠ nl := hin (nl, no) (.head _)
  refine ue2 (i := 0) X T hroom hu C hko hkd hkey hno hl (fun j v hv => ?_) (.inr rfl) hin' fun h' tk G Lg og gs n₀ n₁ Af gG gL lt1 lt2 Lv => ?_
  · have : j < ks.length := by rw [hlen]; exact (Array.getElem?_eq_some_iff.mp hv).1
    exact ⟨_, List.getElem?_eq_getElem this⟩
  · exact k h' tk G Lg og gs n₀ n₁ Af gG gL lt1 lt2 (teller2 hlen hin' hgn hxs 60 (fun _ => false, []) _ gs Lv ⟨no, .head _⟩)
end Mine
end
section
open PySem PySem.W PyProof.Rows PySem.Calls PySem.W.X
set_option Elab.async false
set_option maxRecDepth 100000
namespace Mine
noncomputable def mkU : Option NK → Mk
  | none => .inl "no hash"
  | some k => .inr k
noncomputable def mkK (q : Option NK) : Mk := if isB q then .inl "refused" else mkU q
noncomputable def SeenAs (mks : List Mk) (S : NK → Bool) (asked : List Nat) : Prop := ∀ k, S k = true ↔ ∃ j ∈ asked, mks[j]? = some (Sum.inr k)
theorem seenAs_any {mks : List Mk} {S : NK → Bool} {asked : List Nat} (h : SeenAs mks S asked) (k : NK) : (asked.any fun j => decide (mks[j]? = some (Sum.inr k))) = S k := by
  rw [Bool.eq_iff_iff, h k, List.any_eq_true]
  constructor
  · rintro ⟨j, h1, h2⟩; exact ⟨j, h1, of_decide_eq_true h2⟩
  · rintro ⟨j, h1, h2⟩; exact ⟨j, h1, decide_eq_true h2⟩
theorem seenAs_same {mks : List Mk} {S : NK → Bool} {asked : List Nat} {p : Nat} {k : NK} (h : SeenAs mks S asked) (hp : mks[p]? = some (Sum.inr k)) (hS : S k = true) : SeenAs mks S (asked ++ [p]) := fun k' => by
  rw [h k']
  constructor
  · rintro ⟨j, h1, h2⟩; exact ⟨j, List.mem_append_left _ h1, h2⟩
  · rintro ⟨j, h1, h2⟩
    rcases List.mem_append.mp h1 with h1 | h1
    · exact ⟨j, h1, h2⟩
    · rw [List.mem_singleton.mp h1, hp] at h2
      injection h2 with h2; injection h2 with h2
      exact (h k').mp (h2 ▸ hS)
open Classical in
theorem seenAs_new {mks : List Mk} {S : NK → Bool} {asked : List Nat} {p : Nat} {k : NK} (h : SeenAs mks S asked) (hp : mks[p]? = some (Sum.inr k)) : SeenAs mks (fun k' => S k' || decide (k' = k)) (asked ++ [p]) := fun k' => by
  rw [Bool.or_eq_true, h k', decide_eq_true_iff]
  constructor
  · rintro (⟨j, h1, h2⟩ | rfl)
    · exact ⟨j, List.mem_append_left _ h1, h2⟩
    · exact ⟨p, List.mem_append_right _ (.head _), hp⟩
  · rintro ⟨j, h1, h2⟩
    rcases List.mem_append.mp h1 with h1 | h1
    · exact .inl ⟨j, h1, h2⟩
    · rw [List.mem_singleton.mp h1, hp] at h2
      injection h2 with h2; injection h2 with h2
      exact .inr h2.symm
theorem run1 {ks : List (Option NK)} {takes : Nat → Nat} : ∀ (f' f : Nat) (S : NK → Bool) (place : Nat) (told asked : List Nat), ks.length < f' + place → ks.length < f + place → 0 < f → SeenAs (ks.map mkU) S asked →
    (heardRun (step1 ks) takes ks.length f S (min ks.length place) told).1 = (dueRun (ks.map mkU) takes f' place told asked).1 ∧
    (heardRun (step1 ks) takes ks.length f S (min ks.length place) told).2.1 = (dueRun (ks.map mkU) takes f' place told asked).2.2.1 ∧
    (heardRun (step1 ks) takes ks.length f S (min ks.length place) told).2.2.1 = min ks.length (dueRun (ks.map mkU) takes f' place told asked).2.2.2
  | f', 0, _, _, _, _, _, _, h, _ => absurd h (Nat.lt_irrefl _)
  | 0, f + 1, S, place, told, asked, h1, h2, _, hS => by
    have hm : min ks.length place = ks.length := by omega
    rw [hm, heardRun, dueRun]
    unfold step1
    rw [List.drop_length, scan1]
    refine ⟨rfl, rfl, ?_⟩
    dsimp only; omega
  | f' + 1, f + 1, S, place, told, asked, h1, h2, _, hS => by
    by_cases hp : place < ks.length
    · have hm : min ks.length place = place := by omega
      have hq : ks[place]? = some ks[place] := List.getElem?_eq_getElem hp
      have hmk : (ks.map mkU)[place]? = some (mkU ks[place]) := by rw [List.getElem?_map, hq]; rfl
      rw [hm]
      have hstep : step1 ks S place = scan1 S place (ks[place] :: ks.drop (place + 1)) := by unfold step1; rw [drop_get hq]
      cases hk : ks[place] with
      | none =>
        rw [hk] at hstep hmk
        rw [heardRun, hstep, scan1, dueRun, hmk]
        refine ⟨rfl, rfl, ?_⟩
        dsimp only [mkU]; omega
      | some k =>
        rw [hk] at hstep hmk
        rw [scan1] at hstep
        have hD : dueRun (ks.map mkU) takes (f' + 1) place told asked = (if S k = true then dueRun (ks.map mkU) takes f' (place + 1) told (asked ++ [place]) else dueRun (ks.map mkU) takes f' (place + 1 + takes told.length) (told ++ [place]) (asked ++ [place])) := by
          rw [dueRun, hmk]
          dsimp only [mkU]
          rw [seenAs_any hS k]
        rw [hD]
        by_cases hSk : S k = true
        · rw [if_pos hSk] at hstep ⊢
          have hstep' : step1 ks S place = step1 ks S (min ks.length (place + 1)) := by
            rw [hstep, show min ks.length (place + 1) = place + 1 by omega]; rfl
          have e : heardRun (step1 ks) takes ks.length (f + 1) S place told = heardRun (step1 ks) takes ks.length (f + 1) S (min ks.length (place + 1)) told := by
            rw [heardRun, heardRun, hstep']
          rw [e]
          exact run1 f' (f + 1) S (place + 1) told (asked ++ [place]) (by omega) (by omega) (Nat.succ_pos _) (seenAs_same hS hmk hSk)
        · rw [if_neg hSk] at hstep ⊢
          rw [heardRun, hstep]
          dsimp only
          rcases Nat.eq_zero_or_pos f with rfl | hf
          · omega
          · exact run1 f' f _ (place + 1 + takes told.length) (told ++ [place]) (asked ++ [place]) (by omega) (by omega) hf (seenAs_new hS hmk)
    · have hm : min ks.length place = ks.length := by omega
      have hn : (ks.map mkU)[place]? = none := by rw [List.getElem?_eq_none]; simp; omega
      rw [hm, heardRun, dueRun, hn]
      unfold step1
      rw [List.drop_length, scan1]
      refine ⟨rfl, rfl, ?_⟩
      dsimp only; omega
theorem run2 {ks : List (Option NK)} {takes : Nat → Nat} : ∀ (f' f : Nat) (S : NK → Bool) (place : Nat) (told asked : List Nat), ks.length < f' + place → ks.length < f + place → 0 < f → SeenAs (ks.map mkK) S asked →
    (heardRun (step2 ks) takes ks.length f (S, asked) (min ks.length place) told).1 = (dueRun (ks.map mkK) takes f' place told asked).1 ∧
    (heardRun (step2 ks) takes ks.length f (S, asked) (min ks.length place) told).2.1 = (dueRun (ks.map mkK) takes f' place told asked).2.2.1 ∧
    (heardRun (step2 ks) takes ks.length f (S, asked) (min ks.length place) told).2.2.1 = min ks.length (dueRun (ks.map mkK) takes f' place told asked).2.2.2 ∧
    (heardRun (step2 ks) takes ks.length f (S, asked) (min ks.length place) told).2.2.2.2 = (dueRun (ks.map mkK) takes f' place told asked).2.1
  | f', 0, _, _, _, _, _, _, h, _ => absurd h (Nat.lt_irrefl _)
  | 0, f + 1, S, place, told, asked, h1, h2, _, hS => by
    have hm : min ks.length place = ks.length := by omega
    rw [hm, heardRun, dueRun]
    unfold step2
    rw [List.drop_length, scan2]
    refine ⟨rfl, rfl, ?_, rfl⟩
    dsimp only; omega
  | f' + 1, f + 1, S, place, told, asked, h1, h2, _, hS => by
    by_cases hp : place < ks.length
    · have hm : min ks.length place = place := by omega
      have hq : ks[place]? = some ks[place] := List.getElem?_eq_getElem hp
      have hmk : (ks.map mkK)[place]? = some (mkK ks[place]) := by rw [List.getElem?_map, hq]; rfl
      rw [hm]
      have hstep : step2 ks (S, asked) place = scan2 (S, asked) place (ks[place] :: ks.drop (place + 1)) := by unfold step2; rw [drop_get hq]
      rw [scan2.eq_def] at hstep
      dsimp only at hstep
      by_cases hB : isB ks[place] = true
      · rw [if_pos hB] at hstep
        rw [mkK, if_pos hB] at hmk
        rw [heardRun, hstep, dueRun, hmk]
        refine ⟨rfl, rfl, ?_, rfl⟩
        dsimp only; omega
      rw [if_neg hB] at hstep
      rw [mkK, if_neg hB] at hmk
      cases hk : ks[place] with
      | none =>
        rw [hk] at hstep hmk
        rw [heardRun, hstep, dueRun, hmk]
        refine ⟨rfl, rfl, ?_, rfl⟩
        dsimp only [mkU]; omega
      | some k =>
        rw [hk] at hstep hmk
        dsimp only at hstep
        have hD : dueRun (ks.map mkK) takes (f' + 1) place told asked = (if S k = true then dueRun (ks.map mkK) takes f' (place + 1) told (asked ++ [place]) else dueRun (ks.map mkK) takes f' (place + 1 + takes told.length) (told ++ [place]) (asked ++ [place])) := by
          rw [dueRun, hmk]
          dsimp only [mkU]
          rw [seenAs_any hS k]
        rw [hD]
        by_cases hSk : S k = true
        · rw [if_pos hSk] at hstep ⊢
          have hstep' : step2 ks (S, asked) place = step2 ks (S, asked ++ [place]) (min ks.length (place + 1)) := by
            rw [hstep, show min ks.length (place + 1) = place + 1 by omega]; rfl
          have e : heardRun (step2 ks) takes ks.length (f + 1) (S, asked) place told = heardRun (step2 ks) takes ks.length (f + 1) (S, asked ++ [place]) (min ks.length (place + 1)) told := by
            rw [heardRun, heardRun, hstep']
          rw [e]
          exact run2 f' (f + 1) S (place + 1) told (asked ++ [place]) (by omega) (by omega) (Nat.succ_pos _) (seenAs_same hS hmk hSk)
        · rw [if_neg hSk] at hstep ⊢
          rw [heardRun, hstep]
          dsimp only
          rcases Nat.eq_zero_or_pos f with rfl | hf
          · omega
          · exact run2 f' f _ (place + 1 + takes told.length) (told ++ [place]) (asked ++ [place]) (by omega) (by omega) hf (seenAs_new hS hmk)
    · have hm : min ks.length place = ks.length := by omega
      have hn : (ks.map mkK)[place]? = none := by rw [List.getElem?_eq_none]; simp; omega
      rw [hm, heardRun, dueRun, hn]
      unfold step2
      rw [List.drop_length, scan2]
      refine ⟨rfl, rfl, ?_, rfl⟩
      dsimp only; omega
end Mine
end
section
open PySem PySem.W PyProof.Rows PySem.Calls PySem.W.X
set_option Elab.async false
set_option maxRecDepth 100000
namespace Mine
section
variable {A : Around} {s : Shared} {a b : Addr} {xs ys : Array Value}
theorem all_true (n : Nat) : (List.range n).all (fun _ => true) = true := by simp
theorem rc_lists (hl : s.heap.IsList a xs) (hb : s.heap.IsList b ys) (hsz : xs.size = ys.size) (hu : A.units < cLine) (he : ∀ j (h1 : j < xs.size) (h2 : j < ys.size), SeqAt.EqAt A.in1 s xs[j] ys[j] true) : SeqAt.RcAt A s (.ref a) (.ref b) true := by
  have := SeqAt.RcAt.lists (e := fun _ => true) hl hb hsz hu he
  rwa [all_true] at this
theorem ne_lists (hl : s.heap.IsList a xs) (hb : s.heap.IsList b ys) (hsz : xs.size = ys.size) (hu : A.units < cLine) (he : ∀ j (h1 : j < xs.size) (h2 : j < ys.size), SeqAt.EqAt A.in1 s xs[j] ys[j] true) : SeqAt.RcNeAt A s (.ref a) (.ref b) false := by
  have := SeqAt.RcNeAt.lists (e := fun _ => true) hl hb hsz hu he
  rwa [all_true] at this
theorem eq_lists (hl : s.heap.IsList a xs) (hb : s.heap.IsList b ys) (hsz : xs.size = ys.size) (hu : A.units < cLine) (he : ∀ j (h1 : j < xs.size) (h2 : j < ys.size), SeqAt.EqAt A.in1 s xs[j] ys[j] true) : SeqAt.EqAt A s (.ref a) (.ref b) true := by
  by_cases h : a = b
  · subst h; exact SeqAt.EqAt.same _
  · exact SeqAt.EqAt.of_refs h (rc_lists hl hb hsz hu he)
theorem eq_same (hl : s.heap.IsList a xs) (hb : s.heap.IsList b xs) (hu : A.units < cLine) : SeqAt.EqAt A s (.ref a) (.ref b) true :=
  eq_lists hl hb rfl hu fun j h1 h2 => SeqAt.EqAt.same _
end
theorem KeyIs.cast {prog prog' : Program} {w w' : World} {g : Heap} {k : NK} {v : Value} (x : KeyIs prog w g k v) : KeyIs prog' w' g k v := by
  cases x with
  | sc h1 h2 => exact .sc h1 h2
  | tup h1 =>
    obtain ⟨o, items, n, ho, hc, hd, hi⟩ := h1
    refine .tup ⟨o, items, n, ho, hc, hd, ?_⟩
    clear hd
    revert hi
    generalize items.toList = its
    intro hi
    induction hi with
    | nil => exact .nil
    | cons h _ ih => exact .cons h ih
theorem key_eqAt {prog : Program} {w : World} {A : Around} {s : Shared} {k k' : NK} {v v' : Value} (hu : A.units < cLine) (x : KeyIs prog w s.heap k v) (y : KeyIs prog w s.heap k' v') : SeqAt.EqAt A s v v' (decide (k = k')) :=
  fun prog' w' E Q h => key_eq (g := s.heap) hu (fun _ _ e => e) (x.cast (prog' := prog') (w' := w')) y.cast h
/-- two marks that bear keys -/
theorem mark_eq {prog : Program} {w : World} {A : Around} {s : Shared} {a b : Addr} {k k' : NK} {v v' : Value} {t t' : Tok} (hu : A.units + 1 < cLine) (hl : s.heap.IsList a #[.str (Str.ofString "key") t, v]) (hb : s.heap.IsList b #[.str (Str.ofString "key") t', v'])
   (x : KeyIs prog w s.heap k v) (y : KeyIs prog w s.heap k' v') : SeqAt.EqAt A s (.ref a) (.ref b) (decide (k = k')) := by
  by_cases h : a = b
  · subst h
    obtain ⟨o, ho, _, n, hd⟩ := hl
    obtain ⟨o', ho', _, n', hd'⟩ := hb
    rw [ho] at ho'
    obtain rfl := Option.some.inj ho'
    rw [hd] at hd'
    injection hd' with e1
    have e2 : v = v' := by
      have := congrArg (fun z : Array Value => z[1]?) e1
      simpa using this
    subst e2
    rw [x.inj y, decide_eq_true rfl]
    exact SeqAt.EqAt.same _
  · have := SeqAt.RcAt.lists (A := A) (e := fun j => if j = 0 then true else decide (k = k')) hl hb rfl (Nat.lt_of_succ_lt hu) fun j h1 h2 => by
      have h1 : j < 2 := h1
      rcases (lt2 (by omega : j < 2)) with rfl | rfl
      · have := SeqAt.EqAt.str_str (A := A.in1) (s := s) (Str.ofString "key") t (Str.ofString "key") t'
        rw [beq_self_eq_true] at this
        exact this
      · exact key_eqAt (A := A.in1) hu x y
    have e : (List.range (#[Value.str (Str.ofString "key") t, v] : Array Value).size).all (fun j => if j = 0 then true else decide (k = k')) = decide (k = k') := by
      simp [List.range_succ]
    rw [e] at this
    exact SeqAt.EqAt.of_refs h this
/-- the key of a thing -/
noncomputable def thingK (x : Int) : Option NK :=
  if x.fmod 9 < 3 then some (.sc (.int ((x.fdiv 9).fmod 4))) else if x.fmod 9 = 3 then some (.sc (.int 1)) else if x.fmod 9 = 4 then some (.sc (.int 0)) else
  if x.fmod 9 = 5 then some (.sc (.str (Txt.item (Str.ofString "ab") ((x.fdiv 9).fmod 2)))) else if x.fmod 9 = 6 then some (.tup [.int ((x.fdiv 9).fmod 2), .none]) else
  if x.fmod 9 = 7 then some (.sc (.int (x.fdiv 9))) else none
theorem thing_is {prog : Program} {w : World} {h : Heap} {x : Int} {v : Value} {l : List (Addr × Obj)} (T : ThingAt x v l) (hl : ∀ p ∈ l, h.get? p.1 = some p.2) :
   ThingIs prog w h (thingK x) v ∧ (thingK x = none → ∃ a items, v = .ref a ∧ h.IsList a items) := by
  cases T with
  | num h1 h2 =>
    have e : thingK x = some (.sc (.int ((x.fdiv 9).fmod 4))) := by unfold thingK; rw [if_pos h1]
    rw [e]
    exact ⟨.sc (by simp [scIs]) h2, fun z => nomatch z⟩
  | tru h1 =>
    have e : thingK x = some (.sc (.int 1)) := by unfold thingK; rw [if_neg (by omega), if_pos h1]
    rw [e]
    exact ⟨.sc (by decide) trivial, fun z => nomatch z⟩
  | fls h1 =>
    have e : thingK x = some (.sc (.int 0)) := by unfold thingK; rw [if_neg (by omega), if_neg (by omega), if_pos h1]
    rw [e]
    exact ⟨.sc (by decide) trivial, fun z => nomatch z⟩
  | str h1 h2 =>
    have e : thingK x = some (.sc (.str (Txt.item (Str.ofString "ab") ((x.fdiv 9).fmod 2)))) := by unfold thingK; rw [if_neg (by omega), if_neg (by omega), if_neg (by omega), if_pos h1]
    rw [e]
    exact ⟨.sc (by simp [scIs]) h2, fun z => nomatch z⟩
  | @tup a t n h1 =>
    have e : thingK x = some (.tup [.int ((x.fdiv 9).fmod 2), .none]) := by unfold thingK; rw [if_neg (by omega), if_neg (by omega), if_neg (by omega), if_neg (by omega), if_pos h1]
    rw [e]
    refine ⟨.tup ⟨_, _, _, hl _ (.head _), rfl, rfl, ?_⟩, fun z => nomatch z⟩
    exact .cons (by simp [scKind, scIs]) (.cons (by simp [scKind, scIs]) .nil)
  | big h1 h2 =>
    have e : thingK x = some (.sc (.int (x.fdiv 9))) := by unfold thingK; rw [if_neg (by omega), if_neg (by omega), if_neg (by omega), if_neg (by omega), if_neg (by omega), if_pos h1]
    rw [e]
    exact ⟨.sc (by simp [scIs]) h2, fun z => nomatch z⟩
  | @lst a t n h1 =>
    have e : thingK x = none := by unfold thingK; rw [if_neg (by omega), if_neg (by omega), if_neg (by omega), if_neg (by omega), if_neg (by omega), if_neg (by omega)]
    rw [e]
    exact ⟨⟨a, _, rfl, hl _ (.head _), rfl⟩, fun _ => ⟨a, _, rfl, _, hl _ (.head _), rfl, _, rfl⟩⟩
end Mine
end
section
open PySem PySem.W PyProof.Rows PySem.Calls PySem.W.X
set_option Elab.async false
set_option maxRecDepth 100000
set_option maxHeartbeats 4000000
set_option pp.deepTerms false
set_option pp.deepTerms.threshold 6
namespace Mine
theorem comp_ctx {g h h₂ : Heap} {L C : Addr} {m m₂ : Str → Option Value} {led : List (Addr × Obj)} (F : Fr g L h m) (N : News g L h led) (hk : ∀ b o, h.get? b = some o → h₂.get? b = some o) (hnC : h₂.Ns C m₂) (hC : h.get? C = none) :
   ∃ oC, LCg.NsObj oC m₂ ∧ Fr g L h₂ m ∧ News g L h₂ ((C, oC) :: led) := by
  obtain ⟨oC, heC, hoC⟩ := LCg.ns_obj hnC
  refine ⟨oC, hoC, ⟨F.ns.keeps hk, fun b o e => hk _ _ (F.keep b o e), F.above⟩, fun p hp => ?_⟩
  refine mem_elim hp ?_ fun hp => ?_
  · refine ⟨heC, fun z => ?_, grow_none F.keep hC⟩
    obtain ⟨o, _, _, ho, _⟩ := F.ns
    rw [show C = L from z, ho] at hC; cases hC
  · exact ⟨hk _ _ (N p hp).1, (N p hp).2⟩
theorem fr_off {g h : Heap} {L b : Addr} {m : Str → Option Value} (F : Fr g L h m) (hb : h.get? b = none) : b ≠ L ∧ g.get? b = none := by
  refine ⟨fun z => ?_, grow_none F.keep hb⟩
  obtain ⟨o, _, _, ho, _⟩ := F.ns
  rw [z, ho] at hb; cases hb
theorem news_off {g h : Heap} {L a b : Addr} {o : Obj} {led : List (Addr × Obj)} (N : News g L h led) (hm : (a, o) ∈ led) (hb : h.get? b = none) : b ≠ a := fun z => by
  rw [z, (N _ hm).1] at hb; cases hb
theorem fin_ctx {g h h₂ : Heap} {L D : Addr} {m : Str → Option Value} {led big : List (Addr × Obj)} {o : Obj} (F : Fr g L h m) (N : News g L h led) (hk : ∀ b o, h.get? b = some o → h₂.get? b = some o) (hD : h.get? D = none) (hl : h₂.get? D = some o) (hF : Fresh h h₂ big) :
   Fr g L h₂ m ∧ News g L h₂ ((D, o) :: (big ++ led)) := by
  refine ⟨⟨F.ns.keeps hk, fun b o e => hk _ _ (F.keep b o e), F.above⟩, fun p hp => ?_⟩
  refine mem_elim hp ?_ fun hp => ?_
  · exact ⟨hl, fr_off F hD⟩
  rcases List.mem_append.mp hp with hp | hp
  · exact ⟨(hF p hp).1, fr_off F (hF p hp).2⟩
  · exact ⟨hk _ _ (N p hp).1, (N p hp).2⟩
/-- data of the law lies off its cells -/
noncomputable def OffC (L : Addr) (led : List (Addr × Obj)) : Prop := ∀ p ∈ led, p.1 ≠ L + 1 ∧ p.1 ≠ L + 1 + 1 ∧ p.1 ≠ L + 1 + 1 + 1 ∧ p.1 ≠ 85
noncomputable abbrev cellsL (L : Addr) (oN oP oT o85 : Obj) (led : List (Addr × Obj)) : List (Addr × Obj) := (L + 1 + 1 + 1, oN) :: (L + 1 + 1, oP) :: (L + 1, oT) :: (85, o85) :: led
theorem offC_one {g h : Heap} {L b : Addr} {led : List (Addr × Obj)} {oN oP oT o85 : Obj} (N : News g L h (cellsL L oN oP oT o85 led)) (hb : h.get? b = none) : b ≠ L + 1 ∧ b ≠ L + 1 + 1 ∧ b ≠ L + 1 + 1 + 1 ∧ b ≠ 85 :=
  ⟨news_off N (.tail _ (.tail _ (.head _))) hb, news_off N (.tail _ (.head _)) hb, news_off N (.head _) hb, news_off N (.tail _ (.tail _ (.tail _ (.head _)))) hb⟩
theorem offC_new {g h h₂ : Heap} {L D : Addr} {led big : List (Addr × Obj)} {oN oP oT o85 o : Obj} (N : News g L h (cellsL L oN oP oT o85 led)) (ho : OffC L led) (hD : h.get? D = none) (hF : Fresh h h₂ big) : OffC L ((D, o) :: (big ++ led)) := by
  intro p hp
  refine mem_elim hp ?_ fun hp => ?_
  · exact offC_one N hD
  rcases List.mem_append.mp hp with hp | hp
  · exact offC_one N (hF p hp).2
  · exact ho p hp
theorem nn1 (n : Nat) : n + 1 + 1 + 1 ≠ n + 1 := by omega
theorem nn2 (n : Nat) : n + 1 + 1 ≠ n + 1 := by omega
theorem nn3 (n : Nat) : n + 1 + 1 + 1 ≠ n + 1 + 1 := by omega
theorem updT {L : Addr} {oN oP oT o85 : Obj} {led : List (Addr × Obj)} (h85 : (88 : Nat) ≤ L) (ho : OffC L led) : UpdF (L + 1) oT (cellsL L oN oP oT o85 led) (fun o' => cellsL L oN oP o' o85 led) :=
  .tail (nn1 L) (.tail (nn2 L) (.head fun p hp => by
    refine mem_elim hp ?_ fun hp => ?_
    · exact Nat.ne_of_lt (by omega)
    · exact (ho p hp).1))
theorem updP {L : Addr} {oN oP oT o85 : Obj} {led : List (Addr × Obj)} (h85 : (88 : Nat) ≤ L) (ho : OffC L led) : UpdF (L + 1 + 1) oP (cellsL L oN oP oT o85 led) (fun o' => cellsL L oN o' oT o85 led) :=
  .tail (nn3 L) (.head fun p hp => by
    refine mem_elim hp ?_ fun hp => ?_
    · exact (nn2 L).symm
    refine mem_elim hp ?_ fun hp => ?_
    · exact Nat.ne_of_lt (by omega)
    · exact (ho p hp).2.1)
theorem updN {L : Addr} {oN oP oT o85 : Obj} {led : List (Addr × Obj)} (h85 : (88 : Nat) ≤ L) (ho : OffC L led) : UpdF (L + 1 + 1 + 1) oN (cellsL L oN oP oT o85 led) (fun o' => cellsL L o' oP oT o85 led) :=
  .head fun p hp => by
    refine mem_elim hp ?_ fun hp => ?_
    · exact (nn3 L).symm
    refine mem_elim hp ?_ fun hp => ?_
    · exact (nn1 L).symm
    refine mem_elim hp ?_ fun hp => ?_
    · exact Nat.ne_of_lt (by omega)
    · exact (ho p hp).2.2.1
theorem cells_in {L : Addr} {oN oP oT o85 : Obj} {led : List (Addr × Obj)} {x : Addr × Obj} {big : List (Addr × Obj)} : ∀ p ∈ cellsL L oN oP oT o85 (x :: (big ++ led)), p ∈ x :: (big ++ cellsL L oN oP oT o85 led) := fun p hp => by
  have app : ∀ {q}, q ∈ cellsL L oN oP oT o85 led → q ∈ x :: (big ++ cellsL L oN oP oT o85 led) := fun h => .tail _ (List.mem_append_right _ h)
  refine mem_elim hp (app inl0) fun hp => ?_
  refine mem_elim hp (app inl1) fun hp => ?_
  refine mem_elim hp (app inl2) fun hp => ?_
  refine mem_elim hp (app inl3) fun hp => ?_
  refine mem_elim hp (.head _) fun hp => ?_
  exact (List.mem_append.mp hp).elim (fun h => .tail _ (List.mem_append_left _ h)) fun h => app (.tail _ (.tail _ (.tail _ (.tail _ h))))
theorem ints_get {vs : List Value} {ns : List Int} (h : IntsAre vs ns) : ∀ (i : Nat) (v : Value), vs[i]? = some v → ∃ x t, ns[i]? = some x ∧ v = .int x t := by
  induction h with
  | nil => intro i v h; simp at h
  | cons _ _ _ ih =>
    intro i v h
    cases i with
    | zero =>
      simp only [List.getElem?_cons_zero, Option.some.injEq] at h
      exact ⟨_, _, rfl, h.symm⟩
    | succ i => exact ih i v (by simpa using h)
noncomputable abbrev lawEnv (fd : FuncData) (L fa : Addr) : Env := envOfC (Str.ofString "law") fd.scope L fa (.ref 87)
/-- how the law stands -/
structure LawSt (g : Heap) (L : Addr) (h : Heap) (m : Str → Option Value) (vN vP vT : Option Value) (ps : Array Value) (led : List (Addr × Obj)) : Prop where
  fr : Fr g L h m
  news : ∃ oN oP oT, News g L h (cellsL L oN oP oT (tabObj ps) led) ∧ oN.data = .cell vN ∧ oP.data = .cell vP ∧ oT.data = .cell vT
  off : OffC L led
  big : (88 : Nat) ≤ L
noncomputable def Th (ns : List Int) (tv : Array Value) (led : List (Addr × Obj)) : Prop := tv.size = ns.length ∧ ∀ (i : Nat) v, tv[i]? = some v → ∃ x l, ns[i]? = some x ∧ ThingAt x v l ∧ ∀ p ∈ l, p ∈ led
theorem Th.mono {ns : List Int} {tv : Array Value} {led led' : List (Addr × Obj)} (x : Th ns tv led) (h : ∀ p ∈ led, p ∈ led') : Th ns tv led' :=
  ⟨x.1, fun i v e => let ⟨y, l, h1, h2, h3⟩ := x.2 i v e; ⟨y, l, h1, h2, fun p hp => h p (h3 p hp)⟩⟩
noncomputable def Pl (tv pv : Array Value) (led : List (Addr × Obj)) : Prop := pv.size = tv.size ∧ ∀ (i : Nat) y, pv[i]? = some y → ∃ (a : Addr) (t : Tok) (v : Value) (n : Nat), y = .ref a ∧ tv[i]? = some v ∧ (a, W.listOf #[.int i t, v] n) ∈ led
theorem Pl.mono {tv pv : Array Value} {led led' : List (Addr × Obj)} (x : Pl tv pv led) (h : ∀ p ∈ led, p ∈ led') : Pl tv pv led' :=
  ⟨x.1, fun i v e => let ⟨a, t, v, n, h1, h2, h3⟩ := x.2 i v e; ⟨a, t, v, n, h1, h2, h _ h3⟩⟩
noncomputable def markOb (m : Mk) (v : Value) (o : Obj) : Prop := match m with
  | .inl x => ∃ t n, o = W.listOf #[.str (Str.ofString x) t] n
  | .inr _ => ∃ t n, o = W.listOf #[.str (Str.ofString "key") t, v] n
noncomputable def Mks (mk : Option NK → Mk) (ns : List Int) (tv mv : Array Value) (led : List (Addr × Obj)) : Prop := mv.size = tv.size ∧ ∀ (i : Nat) y, mv[i]? = some y → ∃ (a : Addr) (o : Obj) (x : Int) (v : Value), y = .ref a ∧ ns[i]? = some x ∧ tv[i]? = some v ∧ (a, o) ∈ led ∧ markOb (mk (thingK x)) v o
theorem Mks.mono {mk : Option NK → Mk} {ns : List Int} {tv mv : Array Value} {led led' : List (Addr × Obj)} (x : Mks mk ns tv mv led) (h : ∀ p ∈ led, p ∈ led') : Mks mk ns tv mv led' :=
  ⟨x.1, fun i v e => let ⟨a, o, x, v, h1, h2, h3, h4, h5⟩ := x.2 i v e; ⟨a, o, x, v, h1, h2, h3, h _ h4, h5⟩⟩
theorem list_new {prog : Program} {w : World} {A : Around} {E : Value → Shared → Prop} {s : Shared} {vs : List Value} {Q : Value → Shared → Prop} (hsz : vs.length ≤ 100)
   (h : ∀ h' a, h'.get? a = some (W.listOf vs.toArray 0) → s.heap.get? a = none → (∀ b o, s.heap.get? b = some o → h'.get? b = some o) → Q (.ref a) { s with heap := h' }) : wpAny (model prog w) A (newList vs) Q E s := by
  refine wpAny_newObj_type (h _ _ (Heap.get?_push_size _ rfl) (Heap.get?_none_of_le (Nat.le_refl _)) fun _ _ e => Heap.get?_push_of_some _ e) ?_
  show vs.toArray.size ≤ sizeLine
  rw [sizeLine_eq, List.size_toArray]; omega
theorem fin_ctxA {g h h₂ : Heap} {L D : Addr} {m m' : Str → Option Value} {led big : List (Addr × Obj)} {o : Obj} (F : Fr g L h m) (N : News g L h led) (hk : ∀ b o, b ≠ L → h.get? b = some o → h₂.get? b = some o) (hn : h₂.Ns L m') (hD : h.get? D = none) (hl : h₂.get? D = some o) (hF : Fresh h h₂ big) :
   Fr g L h₂ m' ∧ News g L h₂ ((D, o) :: (big ++ led)) := by
  refine ⟨⟨hn, fun b o e => hk _ _ (fun z => ?_) (F.keep b o e), F.above⟩, fun p hp => ?_⟩
  · have := Heap.lt_size e
    rw [z] at this
    exact Nat.lt_irrefl _ (Nat.lt_of_lt_of_le this F.above)
  refine mem_elim hp ?_ fun hp => ?_
  · exact ⟨hl, fr_off F hD⟩
  rcases List.mem_append.mp hp with hp | hp
  · exact ⟨(hF p hp).1, fr_off F (hF p hp).2⟩
  · exact ⟨hk _ _ (N p hp).2.1 (N p hp).1, (N p hp).2⟩
theorem thingK_list {x : Int} : thingK x = none ↔ x.fmod 9 = 8 := by
  unfold thingK
  rcases nine (Int.fmod_nonneg_of_pos x (b := 9) (by decide)) (Int.fmod_lt_of_pos x (b := 9) (by decide)) with e | e | e | e | e | e | e | e | e <;> rw [e] <;> simp
/-- the body of the law's for statement -/
noncomputable def forBody (fd : FuncData) : List Stmt := match (bodyOf fd).drop 6 with
  | .For _ _ body _ _ :: _ => body
  | _ => []
theorem Mks.at {prog : Program} {w : World} {mk : Option NK → Mk} {ns : List Int} {tv mv : Array Value} {led : List (Addr × Obj)} {h : Heap} (hmk : ∀ q, mk q = mkU q ∨ mk q = .inl "refused") (M : Mks mk ns tv mv led) (hth : Th ns tv led) (hl : ∀ p ∈ led, h.get? p.1 = some p.2) :
   mv.size = (ns.map (fun x => mk (thingK x))).length ∧ (∀ (i : Nat) (m : Mk), (ns.map (fun x => mk (thingK x)))[i]? = some m → ∃ v, mv[i]? = some v ∧ MarkAt h m v) ∧
   (∀ (A : Around) (s' : Shared) (i j : Nat) (k k' : NK) (v v' : Value), A.units < 3500 → h.StaysIn s'.heap → (ns.map (fun x => mk (thingK x)))[i]? = some (Sum.inr k) → (ns.map (fun x => mk (thingK x)))[j]? = some (Sum.inr k') → mv[i]? = some v → mv[j]? = some v' → SeqAt.EqAt A s' v v' (decide (k = k'))) ∧
   (∀ (i j : Nat) (v : Value), mv[i]? = some v → mv[j]? = some v → (ns.map (fun x => mk (thingK x)))[i]? = (ns.map (fun x => mk (thingK x)))[j]?) := by
  have hs : mv.size = ns.length := M.1.trans hth.1
  have nsz : mv.size = (ns.map (fun x => mk (thingK x))).length := by rw [List.length_map]; exact hs
  have got : ∀ (i : Nat) (m : Mk), (ns.map (fun x => mk (thingK x)))[i]? = some m → ∃ (a : Addr) (o : Obj) (x : Int) (v : Value) (l : List (Addr × Obj)), mv[i]? = some (.ref a) ∧ ns[i]? = some x ∧ m = mk (thingK x) ∧ h.get? a = some o ∧ markOb m v o ∧ ThingAt x v l ∧ ∀ p ∈ l, h.get? p.1 = some p.2 := fun i m hm => by
    rw [List.getElem?_map] at hm
    obtain ⟨x, hx, rfl⟩ := Option.map_eq_some_iff.mp hm
    have hi : i < mv.size := by rw [hs]; exact (List.getElem?_eq_some_iff.mp hx).1
    obtain ⟨a, o, x', v, h1, h2, h3, h4, h5⟩ := M.2 i mv[i] (Array.getElem?_eq_getElem hi)
    obtain rfl : x' = x := Option.some.inj (h2.symm.trans hx)
    obtain ⟨x'', l, h6, h7, h8⟩ := hth.2 i v h3
    obtain rfl : x'' = x' := Option.some.inj (h6.symm.trans hx)
    exact ⟨a, o, x'', v, l, by rw [Array.getElem?_eq_getElem hi, h1], hx, rfl, hl _ h4, h5, h7, fun p hp => hl p (h8 p hp)⟩
  have key : ∀ (i : Nat) (k : NK), (ns.map (fun x => mk (thingK x)))[i]? = some (Sum.inr k) → ∃ (a : Addr) (t : Tok) (v : Value), mv[i]? = some (.ref a) ∧ h.IsList a #[.str (Str.ofString "key") t, v] ∧ KeyIs prog w h k v := fun i k hk => by
    obtain ⟨a, o, x, v, l, h1, h2, h3, h4, h5, h6, h7⟩ := got i _ hk
    obtain ⟨t, n, rfl⟩ := h5
    have e : thingK x = some k := by
      rcases hmk (thingK x) with e | e
      · rw [e] at h3
        cases hq : thingK x with
        | none => rw [hq] at h3; cases h3
        | some k' => rw [hq] at h3; injection h3 with h3; rw [h3]
      · rw [e] at h3; cases h3
    have his := (thing_is (prog := prog) (w := w) h6 h7).1
    rw [e] at his
    exact ⟨a, t, v, h1, ⟨_, h4, rfl, _, rfl⟩, his⟩
  refine ⟨nsz, fun i m hm => ?_, fun A s' i j k k' v v' hu st hi hj hv hv' => ?_, fun i j v hi hj => ?_⟩
  · obtain ⟨a, o, x, v, l, h1, h2, h3, h4, h5, _⟩ := got i m hm
    refine ⟨.ref a, h1, ?_⟩
    cases m with
    | inl z => obtain ⟨t, n, rfl⟩ := h5; exact ⟨a, t, rfl, _, h4, rfl, _, rfl⟩
    | inr k => obtain ⟨t, n, rfl⟩ := h5; exact ⟨a, _, _, rfl, _, h4, rfl, _, rfl⟩
  · obtain ⟨a, t, u, h1, h2, h3⟩ := key i k hi
    obtain ⟨a', t', u', h4, h5, h6⟩ := key j k' hj
    obtain rfl : Value.ref a = v := Option.some.inj (h1.symm.trans hv)
    obtain rfl : Value.ref a' = v' := Option.some.inj (h4.symm.trans hv')
    exact mark_eq (prog := prog) (w := w) (by show A.units + 1 < 9900; omega) (stays_list st h2) (stays_list st h5) (h3.stays st) (h6.stays st)
  · have hi' : i < ns.length := by rw [← hs]; exact (Array.getElem?_eq_some_iff.mp hi).1
    have hj' : j < ns.length := by rw [← hs]; exact (Array.getElem?_eq_some_iff.mp hj).1
    have ei : (ns.map (fun x => mk (thingK x)))[i]? = some (mk (thingK ns[i])) := by rw [List.getElem?_map, List.getElem?_eq_getElem hi']; rfl
    have ej : (ns.map (fun x => mk (thingK x)))[j]? = some (mk (thingK ns[j])) := by rw [List.getElem?_map, List.getElem?_eq_getElem hj']; rfl
    obtain ⟨a, o, x, u, l, h1, h2, h3, h4, h5, h6, h7⟩ := got i _ ei
    obtain ⟨a', o', x', u', l', k1, k2, k3, k4, k5, k6, k7⟩ := got j _ ej
    rw [hi] at h1
    rw [hj] at k1
    have ea : a = a' := by
      have := h1.symm.trans k1
      injection this with this; injection this
    subst ea
    rw [h4] at k4
    obtain rfl := Option.some.inj k4
    rw [ei, ej]
    cases m1 : mk (thingK ns[i]) with
    | inl z =>
      rw [m1] at h5
      cases m2 : mk (thingK ns[j]) with
      | inl z' =>
        rw [m2] at k5
        obtain ⟨t, n, rfl⟩ := h5
        obtain ⟨t', n', e⟩ := k5
        have e2 : (#[Value.str (Str.ofString z) t] : Array Value) = #[.str (Str.ofString z') t'] := by injection e with _ _ e _; injection e
        have e3 : Str.ofString z = Str.ofString z' := by
          have := congrArg Array.toList e2
          injection this with this; injection this
        have word : ∀ (q : Option NK) (z : String), mk q = .inl z → z = "no hash" ∨ z = "refused" := fun q z e => by
          rcases hmk q with e' | e'
          · rw [e'] at e
            cases q with
            | none => injection e with e; exact .inl e.symm
            | some k => cases e
          · rw [e'] at e; injection e with e; exact .inr e.symm
        rcases word _ _ m1 with rfl | rfl <;> rcases word _ _ m2 with rfl | rfl
        · rfl
        · exact absurd e3 (by decide)
        · exact absurd e3 (by decide)
        · rfl
      | inr k =>
        rw [m2] at k5
        obtain ⟨t, n, rfl⟩ := h5
        obtain ⟨t', n', e⟩ := k5
        have e2 : (#[Value.str (Str.ofString z) t] : Array Value) = #[.str (Str.ofString "key") t', u'] := by injection e with _ _ e _; injection e
        have := congrArg Array.size e2
        simp at this
    | inr k =>
      rw [m1] at h5
      cases m2 : mk (thingK ns[j]) with
      | inl z' =>
        rw [m2] at k5
        obtain ⟨t, n, rfl⟩ := h5
        obtain ⟨t', n', e⟩ := k5
        have e2 : (#[.str (Str.ofString "key") t, u] : Array Value) = #[Value.str (Str.ofString z') t'] := by injection e with _ _ e _; injection e
        have := congrArg Array.size e2
        simp at this
      | inr k' =>
        obtain ⟨b, t, v1, c1, c2, c3⟩ := key i k (by rw [ei, m1])
        obtain ⟨b', t', v2, d1, d2, d3⟩ := key j k' (by rw [ej, m2])
        rw [hi] at c1
        rw [hj] at d1
        have eb : b = b' := by
          have := c1.symm.trans d1
          injection this with this; injection this
        subst eb
        obtain ⟨o1, f1, _, n1, f2⟩ := c2
        obtain ⟨o2, g1, _, n2, g2⟩ := d2
        rw [f1] at g1
        obtain rfl := Option.some.inj g1
        rw [f2] at g2
        injection g2 with g2
        have ev : v1 = v2 := by
          have := congrArg Array.toList g2
          injection this with _ this; injection this
        subst ev
        rw [c3.inj d3]
theorem slice_rule {prog : Program} {w : World} {A : Around} {E : Value → Shared → Prop} {s : Shared} {env : Env} {value : PySem.Expr} {lower : Option PySem.Expr} {p pos : Pos} {Q : Value → Shared → Prop}
   (h : wpAny (model prog w) A (eval value env) (fun o s₁ => wpAny (model prog w) A (evalPart lower env) (fun vl s₂ => Hold (∃ l items a t, o = .ref l ∧ vl = .int a t ∧ s₂.heap.IsList l items ∧ items.size ≤ sizeLine ∧
      ∀ h' b, h'.get? b = some (W.listOf (slicePick items (some a) none none) 0) → s₂.heap.get? b = none → (∀ c o, s₂.heap.get? c = some o → h'.get? c = some o) → Q (.ref b) { s₂ with heap := h' })) E s₁) E s)
   (ht : ∀ o r, letTemporaryGo value o r = pure ()) : wpAny (model prog w) A (eval (.Subscript value (.Slice lower none none p) pos) env) Q E s := by
  refine wpAny_Subscript_list_slice (wpAny_mono h (fun o s₁ h₁ => wpAny_mono h₁ (fun vl s₂ h₂ => ?_) fun _ _ e => e) fun _ _ e => e) ht
  obtain ⟨l, items, a, t, rfl, rfl, hl, hsz, hQ⟩ := h₂
  rw [evalPart_none]
  refine wpAny_pure ⟨l, items, some a, none, rfl, hl, hsz, .int _ _, .none, ?_⟩
  have e : s₂.heap.objs.size + 1 = (s₂.heap.push { cls := .type "slice", data := .fields #[.int a t, .none, .none] }).objs.size := by rw [Heap.size_push]
  rw [e]
  refine hQ _ _ (Heap.get?_push_size _ rfl) ?_ fun c o h => Heap.get?_push_of_some _ (Heap.get?_push_of_some _ h)
  rw [← e]
  exact Heap.get?_none_of_le (Nat.le_succ _)
theorem str_same {A : Around} {s : Shared} (x : Str) (t u : Tok) : SeqAt.EqAt A s (.str x t) (.str x u) true := by
  have := SeqAt.EqAt.str_str (A := A) (s := s) x t x u
  rwa [beq_self_eq_true] at this
theorem int_same {A : Around} {s : Shared} (x : Int) (t u : Tok) : SeqAt.EqAt A s (.int x t) (.int x u) true := by
  have := SeqAt.EqAt.int_int (A := A) (s := s) x t x u
  rwa [beq_self_eq_true] at this
end Mine
end
section
set_option Elab.async false
theorem Mine.off_LS1 : True ∧ True := by
  w_top off
  first | walk1 | skip
  all_goals (first | trivial | exact ⟨trivial, trivial⟩)
end
section
open PySem PySem.W PyProof.Rows PySem.Calls PySem.W.X
set_option Elab.async false
set_option maxRecDepth 100000
set_option maxHeartbeats 4000000
set_option pp.deepTerms false
set_option pp.deepTerms.threshold 6
namespace Mine
local macro_rules | `(tactic| walk_at $s:str) => if ["exec Assign cons ListComp", "call type:enumerate", "call type:zip"].contains s.getString then `(tactic| (k_here; refine hold ?_)) else Lean.Macro.throwUnsupported
local macro_rules | `(tactic| walk_at "call ref") => `(tactic| (k_here; with_reducible refine hold_call 66 ?_))
local macro_rules | `(tactic| walk_at "bindName") => `(tactic| (k_here; with_reducible refine hold_bind "things" ?_))
local macro_rules | `(tactic| walk_at "bindName") => `(tactic| (k_here; with_reducible refine hold_bind "placed" ?_))
inductive ThingsPost (g : Heap) (L nl sl : Addr) (m₀ : Str → Option Value) (vN vP : Option Value) (ps : Array Value) (ns : List Int) (led : List (Addr × Obj)) (s s' : Shared) : Prop
  | mk : ∀ h tk tl tv n led', (s' = { s with heap := h, toks := tk }) → (LawSt g L h (fun y => if y = Str.ofString "numbers" then some (.ref nl) else if y = Str.ofString "script" then some (.ref sl) else m₀ y) vN vP (some (.ref tl)) ps led') → ((∀ p ∈ led, p ∈ led')) → ((tl, W.listOf tv n) ∈ led') → (Th ns tv led') → ThingsPost g L nl sl m₀ vN vP ps ns led s s'
theorem st_things {w : World} {s : Shared} {mean : ExcName → Option Value} {loose : List Str} {mg mb : Str → Option Value} {g : Heap} {L fa nl sl : Addr} {m₀ : Str → Option Value} {vN vP vT : Option Value} {nv ps : Array Value} {ns : List Int} {n₁ : Nat} {led : List (Addr × Obj)}
   {E : Value → Shared → Prop} {fd : FuncData} {oc : Value} {od : Option Addr} {osl : Array (Option Value)} {st : Stmt}
   (X : (Mine.hd.heap_39 w.params).In g) (T : Top topProg loose mean mg mb g) (hfd : ((Mine.hd.heap_39 w.params)).lookup 88 = some ⟨oc, od, .func fd, osl⟩) (hst : (bodyOf fd)[2]? = some st)
   (S : LawSt g L s.heap (fun y => if y = Str.ofString "numbers" then some (.ref nl) else if y = Str.ofString "script" then some (.ref sl) else m₀ y) vN vP vT ps led)
   (hnl : (nl, W.listOf nv n₁) ∈ led) (hI : IntsAre nv.toList ns) (hlen : ns.length ≤ 50) :
   wpAny (model PySem.Challenge.rw_dz0055_01.row.prog w) (callerA.deeper (lawEnv fd L fa)) (exec st (lawEnv fd L fa)) (fun f s' => f = .next ∧ ThingsPost g L nl sl m₀ vN vP ps ns led s s') E s := by
  revert X hfd
  k_fill
  intro X hfd
  have e := hfd.symm.trans (show _ = some _ by k_is)
  injection e with e
  injection e with _ _ e _
  injection e with e
  subst e
  clear hfd
  dsimp only [bodyOf, List.getElem?_cons_succ, List.getElem?_cons_zero] at hst
  injection hst with hst
  subst hst
  have hnv : nv.size = ns.length := by have := hI.length; simpa using this
  have F := S.fr
  obtain ⟨oN, oP, oT, N, hN, hP, hT⟩ := S.news
  have hoff := S.off
  refine assign_plain (by with_unfolding_all rfl) (ListComp_G (hs := by intro _; rfl) (cl := []) (by with_unfolding_all rfl) (by decide) (by rfl) (by decide) (by rfl) ?_)
  repeat' walk1
  refine ⟨nl, nv, fun i v l => ∃ x, ns[i]? = some x ∧ ThingAt x v l, rfl, rfl, ⟨_, (N _ (.tail _ (.tail _ (.tail _ (.tail _ hnl))))).1, rfl, _, rfl⟩, (by rw [sizeLine_eq]; omega), ?_, ?_⟩
  · intro i v C m₂ h₂ tk₂ E' hv hnC hmx hC hk
    obtain ⟨x, t, hx, rfl⟩ := ints_get hI i v (by simpa using hv)
    obtain ⟨oC, hoC, F₂, N₂⟩ := comp_ctx F N hk hnC hC
    clear F N
    repeat' walk1
    refine wpAny_call (law_thing (X.keeps F₂.keep) (T.keeps F₂.keep) (by show callerA.depth + 1 < 1000; decide) fun v h' tk l hTh up fr => ?_)
    exact ⟨h', tk, l, rfl, up, ⟨x, hx, hTh⟩, fr⟩
  · intro D h₂ tk₂ tv big nD hD hl hM hF hA hk
    obtain ⟨F₂, N₂⟩ := fin_ctx F N hk hD hl hF
    have hoff₂ := offC_new (o := W.listOf tv nD) N hoff hD hF
    replace N₂ : News g L h₂ (cellsL L oN oP oT (tabObj ps) ((D, W.listOf tv nD) :: (big ++ led))) := fun p hp => N₂ p (cells_in p hp)
    clear F N
    refine PyProof.Rows.bindName_ (storeX_C F₂ N₂ (c := L + 1) (by rfl) (updT S.big hoff₂) hT (fun h₃ oT' F₃ N₃ hT' => ?_) rfl rfl)
    refine ⟨rfl, h₃, _, D, tv, nD, _, rfl, ⟨F₃, ⟨_, _, _, N₃, hN, hP, hT'⟩, hoff₂, S.big⟩, fun p hp => .tail _ (List.mem_append_right _ hp), .head _, hM.1.trans hnv, fun i v hv => ?_⟩
    obtain ⟨l, ⟨x, hx, hTh⟩, hl⟩ := hM.2 i v hv
    exact ⟨x, l, hx, hTh, fun p hp => .tail _ (List.mem_append_left _ (hl p hp))⟩
end Mine
end
section
set_option Elab.async false
theorem Mine.off_LS2 : True ∧ True := by
  w_top off
  first | walk1 | skip
  all_goals (first | trivial | exact ⟨trivial, trivial⟩)
end
section
open PySem PySem.W PyProof.Rows PySem.Calls PySem.W.X
set_option Elab.async false
set_option maxRecDepth 100000
set_option maxHeartbeats 4000000
set_option pp.deepTerms false
set_option pp.deepTerms.threshold 6
namespace Mine
local macro_rules | `(tactic| walk_at $s:str) => if ["exec Assign cons ListComp", "call type:enumerate", "call type:zip", "newList"].contains s.getString then `(tactic| (k_here; refine hold ?_)) else Lean.Macro.throwUnsupported
local macro_rules | `(tactic| walk_at "call ref") => `(tactic| (k_here; with_reducible refine hold_call 66 ?_))
local macro_rules | `(tactic| walk_at "bindName") => `(tactic| (k_here; with_reducible refine hold_bind "things" ?_))
local macro_rules | `(tactic| walk_at "bindName") => `(tactic| (k_here; with_reducible refine hold_bind "placed" ?_))
inductive PlacedPost (g : Heap) (L tl : Addr) (m : Str → Option Value) (vN : Option Value) (ps tv : Array Value) (led : List (Addr × Obj)) (s s' : Shared) : Prop
  | mk : ∀ h tk pl pv n led', (s' = { s with heap := h, toks := tk }) → (LawSt g L h m vN (some (.ref pl)) (some (.ref tl)) ps led') → ((∀ p ∈ led, p ∈ led')) → ((pl, W.listOf pv n) ∈ led') → (Pl tv pv led') → PlacedPost g L tl m vN ps tv led s s'
theorem st_placed {w : World} {s : Shared} {mean : ExcName → Option Value} {loose : List Str} {mg mb : Str → Option Value} {g : Heap} {L fa tl : Addr} {m : Str → Option Value} {vN vP : Option Value} {tv ps : Array Value} {n₁ : Nat} {led : List (Addr × Obj)}
   {E : Value → Shared → Prop} {fd : FuncData} {oc : Value} {od : Option Addr} {osl : Array (Option Value)} {st : Stmt}
   (X : (Mine.hd.heap_39 w.params).In g) (T : Top topProg loose mean mg mb g) (hfd : ((Mine.hd.heap_39 w.params)).lookup 88 = some ⟨oc, od, .func fd, osl⟩) (hst : (bodyOf fd)[3]? = some st)
   (S : LawSt g L s.heap m vN vP (some (.ref tl)) ps led) (htl : (tl, W.listOf tv n₁) ∈ led) (hlen : tv.size ≤ 50) :
   wpAny (model PySem.Challenge.rw_dz0055_01.row.prog w) (callerA.deeper (lawEnv fd L fa)) (exec st (lawEnv fd L fa)) (fun f s' => f = .next ∧ PlacedPost g L tl m vN ps tv led s s') E s := by
  revert X hfd
  k_fill
  intro X hfd
  have e := hfd.symm.trans (show _ = some _ by k_is)
  injection e with e
  injection e with _ _ e _
  injection e with e
  subst e
  clear hfd
  dsimp only [bodyOf, List.getElem?_cons_succ, List.getElem?_cons_zero] at hst
  injection hst with hst
  subst hst
  have F := S.fr
  obtain ⟨oN, oP, oT, N, hN, hP, hT⟩ := S.news
  have hoff := S.off
  refine assign_plain (by with_unfolding_all rfl) (ListComp_P (hs := by intro _; rfl) (cl := []) (by with_unfolding_all rfl) (by decide) (by rfl) (by decide) (by rfl) (by rfl) (by decide) ?_)
  repeat' walk1
  refine enum_post (its := tv) (El := fun i y l => ∃ (a : Addr) (t : Tok) (v : Value) (n : Nat), y = .ref a ∧ tv[i]? = some v ∧ l = [(a, W.listOf #[.int i t, v] n)]) rfl ⟨_, (N _ (.tail _ (.tail _ (.tail _ (.tail _ htl))))).1, rfl, _, rfl⟩ (by rw [sizeLine_eq]; omega) ?_ ?_
  · intro i v v₂ C m₂ h₂ tk₂ E' hv hnC hmx hmx₂ hC hk
    obtain ⟨t, rfl, hv₂⟩ := hv
    obtain ⟨oC, hoC, F₂, N₂⟩ := comp_ctx F N hk hnC hC
    clear F N
    show wpAny _ _ _ (fun y s' => Hold _) _ _
    repeat' walk1
    refine list_new (by show (2 : Nat) ≤ 100; decide) fun h₃ a ha hn up => ?_
    refine ⟨h₃, _, [(a, W.listOf #[.int i t, v₂] 0)], rfl, up, ⟨a, t, v₂, 0, rfl, hv₂, rfl⟩, fun p hp => ?_⟩
    refine mem_one hp ?_
    exact ⟨ha, hn⟩
  · intro D h₂ tk₂ pv big nD hD hl hM hF hA hk
    obtain ⟨F₂, N₂⟩ := fin_ctx F N hk hD hl hF
    have hoff₂ := offC_new (o := W.listOf pv nD) N hoff hD hF
    replace N₂ : News g L h₂ (cellsL L oN oP oT (tabObj ps) ((D, W.listOf pv nD) :: (big ++ led))) := fun p hp => N₂ p (cells_in p hp)
    clear F N
    refine PyProof.Rows.bindName_ (storeX_C F₂ N₂ (c := L + 1 + 1) (by rfl) (updP S.big hoff₂) hP (fun h₃ oP' F₃ N₃ hP' => ?_) rfl rfl)
    refine ⟨trivial, h₃, _, D, pv, nD, _, rfl, ⟨F₃, ⟨_, _, _, N₃, hN, hP', hT⟩, hoff₂, S.big⟩, fun p hp => .tail _ (List.mem_append_right _ hp), .head _, hM.1, fun i y hy => ?_⟩
    obtain ⟨l, ⟨a, t, v, n, h1, h2, rfl⟩, hl⟩ := hM.2 i y hy
    exact ⟨a, t, v, n, h1, h2, .tail _ (List.mem_append_left _ (hl _ (.head _)))⟩
end Mine
end
section
set_option Elab.async false
theorem Mine.off_LS3 : True ∧ True := by
  w_top off
  first | walk1 | skip
  all_goals (first | trivial | exact ⟨trivial, trivial⟩)
end
section
open PySem PySem.W PyProof.Rows PySem.Calls PySem.W.X
set_option Elab.async false
set_option maxRecDepth 100000
set_option maxHeartbeats 4000000
set_option pp.deepTerms false
set_option pp.deepTerms.threshold 6
namespace Mine
local macro_rules | `(tactic| walk_at $s:str) => if ["exec Assign cons ListComp", "call type:enumerate", "call type:zip", "newList"].contains s.getString then `(tactic| (k_here; refine hold ?_)) else Lean.Macro.throwUnsupported
local macro_rules | `(tactic| walk_at "call ref") => `(tactic| (k_here; with_reducible refine hold_call 66 ?_))
local macro_rules | `(tactic| walk_at "bindName") => `(tactic| (k_here; with_reducible refine hold_bind "things" ?_))
local macro_rules | `(tactic| walk_at "bindName") => `(tactic| (k_here; with_reducible refine hold_bind "placed" ?_))
theorem mark_elt {prog : Program} {w : World} {A : Around} {E : Value → Shared → Prop} {s : Shared} {h : Heap} {tk : Nat} {m : Mk} {v : Value} {x : Int} {vs : List Value} {i : Nat} {ns : List Int} {tv : Array Value} (hsz : vs.length ≤ 100) (hm : markOb m v (W.listOf vs.toArray 0)) (hx : ns[i]? = some x) (hv : tv[i]? = some v) (he : m = mkU (thingK x)) :
   wpAny (model prog w) A (newList vs) (fun y s' => ∃ h' tk' l, s' = { s with heap := h', toks := tk' } ∧ (∀ b o, h.get? b = some o → h'.get? b = some o) ∧
     (∃ (a : Addr) (o : Obj) (x : Int) (v : Value), y = .ref a ∧ ns[i]? = some x ∧ tv[i]? = some v ∧ l = [(a, o)] ∧ markOb (mkU (thingK x)) v o) ∧ Fresh h h' l) E { s with heap := h, toks := tk } := by
  refine list_new hsz fun h₃ a ha hn up => ?_
  refine ⟨h₃, _, [(a, W.listOf vs.toArray 0)], rfl, up, ⟨a, _, x, v, rfl, hx, hv, rfl, he ▸ hm⟩, fun p hp => ?_⟩
  refine mem_one hp ?_
  exact ⟨ha, hn⟩
inductive MarksPost (g : Heap) (L tl : Addr) (m : Str → Option Value) (vN vP : Option Value) (ps : Array Value) (ns : List Int) (tv : Array Value) (led : List (Addr × Obj)) (s s' : Shared) : Prop
  | mk : ∀ h tk ml mv n led', (s' = { s with heap := h, toks := tk }) → (LawSt g L h (fun y => if y = Str.ofString "marks" then some (.ref ml) else m y) vN vP (some (.ref tl)) ps led') → ((∀ p ∈ led, p ∈ led')) → ((ml, W.listOf mv n) ∈ led') → (Mks mkU ns tv mv led') → MarksPost g L tl m vN vP ps ns tv led s s'
theorem st_marks {w : World} {s : Shared} {mean : ExcName → Option Value} {loose : List Str} {mg mb : Str → Option Value} {g : Heap} {L fa tl : Addr} {m : Str → Option Value} {vN vP : Option Value} {tv ps : Array Value} {ns : List Int} {n₁ : Nat} {led : List (Addr × Obj)}
   {E : Value → Shared → Prop} {fd : FuncData} {oc : Value} {od : Option Addr} {osl : Array (Option Value)} {st : Stmt}
   (X : (Mine.hd.heap_39 w.params).In g) (T : Top topProg loose mean mg mb g) (hfd : ((Mine.hd.heap_39 w.params)).lookup 88 = some ⟨oc, od, .func fd, osl⟩) (hst : (bodyOf fd)[4]? = some st)
   (S : LawSt g L s.heap m vN vP (some (.ref tl)) ps led) (htl : (tl, W.listOf tv n₁) ∈ led) (hlen : tv.size ≤ 50) (hth : Th ns tv led) :
   wpAny (model PySem.Challenge.rw_dz0055_01.row.prog w) (callerA.deeper (lawEnv fd L fa)) (exec st (lawEnv fd L fa)) (fun f s' => f = .next ∧ MarksPost g L tl m vN vP ps ns tv led s s') E s := by
  revert X hfd
  k_fill
  intro X hfd
  have e := hfd.symm.trans (show _ = some _ by k_is)
  injection e with e
  injection e with _ _ e _
  injection e with e
  subst e
  clear hfd
  dsimp only [bodyOf, List.getElem?_cons_succ, List.getElem?_cons_zero] at hst
  injection hst with hst
  subst hst
  have F := S.fr
  obtain ⟨oN, oP, oT, N, hN, hP, hT⟩ := S.news
  have hoff := S.off
  refine Assign_ListComp_G (hs := by intro _; rfl) (m := m) (cl := []) (by with_unfolding_all rfl) (by with_unfolding_all rfl) (by decide) (by rfl) (by decide) (by rfl) (by rfl) (by rfl) ?_
  show wpAny _ _ _ (fun xv s₁ => Hold _) _ _
  repeat' walk1
  refine ⟨F.ns, tl, tv, fun i y l => ∃ (a : Addr) (o : Obj) (x : Int) (v : Value), y = .ref a ∧ ns[i]? = some x ∧ tv[i]? = some v ∧ l = [(a, o)] ∧ markOb (mkU (thingK x)) v o, rfl, rfl, ⟨_, (N _ (.tail _ (.tail _ (.tail _ (.tail _ htl))))).1, rfl, _, rfl⟩, (by rw [sizeLine_eq]; omega), ?_, ?_⟩
  · intro i v C m₂ h₂ tk₂ E' hv hnC hmx hC hk
    obtain ⟨x, l, hx, hT', hl⟩ := hth.2 i v hv
    obtain ⟨oC, hoC, F₂, N₂⟩ := comp_ctx F N hk hnC hC
    clear F N
    have N₃ : News g L h₂ ((C, oC) :: (l ++ cellsL L oN oP oT (tabObj ps) led)) := fun p hp => by
      refine mem_elim hp ?_ fun hp => ?_
      · exact N₂ _ (.head _)
      rcases List.mem_append.mp hp with hp | hp
      · exact N₂ _ (.tail _ (.tail _ (.tail _ (.tail _ (.tail _ (hl p hp))))))
      · exact N₂ _ (.tail _ hp)
    clear N₂
    cases hT' with
    | num h1 h2 =>
      have e : thingK x ≠ none := fun z => by rw [thingK_list] at z; omega
      obtain ⟨k, hk'⟩ : ∃ k, thingK x = some k := Option.ne_none_iff_exists'.mp e
      repeat' walk1
      exact mark_elt (m := .inr k) (by show (2 : Nat) ≤ 100; decide) ⟨_, 0, rfl⟩ hx hv (by rw [hk']; rfl)
    | tru h1 =>
      have e : thingK x ≠ none := fun z => by rw [thingK_list] at z; omega
      obtain ⟨k, hk'⟩ : ∃ k, thingK x = some k := Option.ne_none_iff_exists'.mp e
      repeat' walk1
      exact mark_elt (m := .inr k) (by show (2 : Nat) ≤ 100; decide) ⟨_, 0, rfl⟩ hx hv (by rw [hk']; rfl)
    | fls h1 =>
      have e : thingK x ≠ none := fun z => by rw [thingK_list] at z; omega
      obtain ⟨k, hk'⟩ : ∃ k, thingK x = some k := Option.ne_none_iff_exists'.mp e
      repeat' walk1
      exact mark_elt (m := .inr k) (by show (2 : Nat) ≤ 100; decide) ⟨_, 0, rfl⟩ hx hv (by rw [hk']; rfl)
    | str h1 h2 =>
      have e : thingK x ≠ none := fun z => by rw [thingK_list] at z; omega
      obtain ⟨k, hk'⟩ : ∃ k, thingK x = some k := Option.ne_none_iff_exists'.mp e
      repeat' walk1
      exact mark_elt (m := .inr k) (by show (2 : Nat) ≤ 100; decide) ⟨_, 0, rfl⟩ hx hv (by rw [hk']; rfl)
    | tup h1 =>
      have e : thingK x ≠ none := fun z => by rw [thingK_list] at z; omega
      obtain ⟨k, hk'⟩ : ∃ k, thingK x = some k := Option.ne_none_iff_exists'.mp e
      repeat' walk1
      exact mark_elt (m := .inr k) (by show (2 : Nat) ≤ 100; decide) ⟨_, 0, rfl⟩ hx hv (by rw [hk']; rfl)
    | big h1 h2 =>
      have e : thingK x ≠ none := fun z => by rw [thingK_list] at z; omega
      obtain ⟨k, hk'⟩ : ∃ k, thingK x = some k := Option.ne_none_iff_exists'.mp e
      repeat' walk1
      exact mark_elt (m := .inr k) (by show (2 : Nat) ≤ 100; decide) ⟨_, 0, rfl⟩ hx hv (by rw [hk']; rfl)
    | lst h1 =>
      have e : thingK x = none := thingK_list.mpr h1
      repeat' walk1
      exact mark_elt (m := .inl "no hash") (by show (1 : Nat) ≤ 100; decide) ⟨_, 0, rfl⟩ hx hv (by rw [e]; rfl)
  · intro D h₂ tk₂ mv big nD hD hl hM hF hA hk hn
    obtain ⟨F₂, N₂⟩ := fin_ctxA F N hk hn hD hl hF
    have hoff₂ := offC_new (o := W.listOf mv nD) N hoff hD hF
    replace N₂ : News g L h₂ (cellsL L oN oP oT (tabObj ps) ((D, W.listOf mv nD) :: (big ++ led))) := fun p hp => N₂ p (cells_in p hp)
    clear F N
    refine ⟨rfl, h₂, _, D, mv, nD, _, rfl, ⟨F₂, ⟨_, _, _, N₂, hN, hP, hT⟩, hoff₂, S.big⟩, fun p hp => .tail _ (List.mem_append_right _ hp), .head _, hM.1, fun i y hy => ?_⟩
    obtain ⟨l, ⟨a, o, x, v, h1, h2, h3, rfl, h4⟩, hl⟩ := hM.2 i y hy
    exact ⟨a, o, x, v, h1, h2, h3, .tail _ (List.mem_append_left _ (hl _ (.head _))), h4⟩
end Mine
end
section
set_option Elab.async false
theorem Mine.off_LS4 : True ∧ True := by
  w_top off
  first | walk1 | skip
  all_goals (first | trivial | exact ⟨trivial, trivial⟩)
end
section
open PySem PySem.W PyProof.Rows PySem.Calls PySem.W.X
set_option Elab.async false
set_option maxRecDepth 100000
set_option maxHeartbeats 4000000
set_option pp.deepTerms false
set_option pp.deepTerms.threshold 6
namespace Mine
local macro_rules | `(tactic| walk_at $s:str) => if ["compareOp Eq", "exec Assign cons ListComp", "call type:enumerate", "call type:zip", "newList"].contains s.getString then `(tactic| (k_here; refine hold ?_)) else Lean.Macro.throwUnsupported
local macro_rules | `(tactic| walk_at "call ref") => `(tactic| (k_here; with_reducible refine hold_call 66 ?_))
local macro_rules | `(tactic| walk_at "bindName") => `(tactic| (k_here; with_reducible refine hold_bind "things" ?_))
local macro_rules | `(tactic| walk_at "bindName") => `(tactic| (k_here; with_reducible refine hold_bind "placed" ?_))
inductive KeyedPost (g : Heap) (L tl ml : Addr) (m₀ : Str → Option Value) (vN vP : Option Value) (ps : Array Value) (ns : List Int) (tv : Array Value) (led : List (Addr × Obj)) (s s' : Shared) : Prop
  | mk : ∀ h tk kl kv n led', (s' = { s with heap := h, toks := tk }) → (LawSt g L h (fun y => if y = Str.ofString "keyed" then some (.ref kl) else if y = Str.ofString "marks" then some (.ref ml) else m₀ y) vN vP (some (.ref tl)) ps led') → ((∀ p ∈ led, p ∈ led')) → ((kl, W.listOf kv n) ∈ led') → (Mks mkK ns tv kv led') → KeyedPost g L tl ml m₀ vN vP ps ns tv led s s'
theorem st_keyed {w : World} {s : Shared} {mean : ExcName → Option Value} {loose : List Str} {mg mb : Str → Option Value} {g : Heap} {L fa tl ml : Addr} {m₀ : Str → Option Value} {vN vP : Option Value} {tv mv ps : Array Value} {ns : List Int} {n₁ n₂ : Nat} {led : List (Addr × Obj)}
   {E : Value → Shared → Prop} {fd : FuncData} {oc : Value} {od : Option Addr} {osl : Array (Option Value)} {st : Stmt}
   (X : (Mine.hd.heap_39 w.params).In g) (T : Top topProg loose mean mg mb g) (hfd : ((Mine.hd.heap_39 w.params)).lookup 88 = some ⟨oc, od, .func fd, osl⟩) (hst : (bodyOf fd)[5]? = some st)
   (S : LawSt g L s.heap (fun y => if y = Str.ofString "marks" then some (.ref ml) else m₀ y) vN vP (some (.ref tl)) ps led) (htl : (tl, W.listOf tv n₁) ∈ led) (hml : (ml, W.listOf mv n₂) ∈ led) (hlen : tv.size ≤ 50) (hth : Th ns tv led) (hmk : Mks mkU ns tv mv led) :
   wpAny (model PySem.Challenge.rw_dz0055_01.row.prog w) (callerA.deeper (lawEnv fd L fa)) (exec st (lawEnv fd L fa)) (fun f s' => f = .next ∧ KeyedPost g L tl ml m₀ vN vP ps ns tv led s s') E s := by
  revert X hfd
  k_fill
  intro X hfd
  have e := hfd.symm.trans (show _ = some _ by k_is)
  injection e with e
  injection e with _ _ e _
  injection e with e
  subst e
  clear hfd
  dsimp only [bodyOf, List.getElem?_cons_succ, List.getElem?_cons_zero] at hst
  injection hst with hst
  subst hst
  have F := S.fr
  obtain ⟨oN, oP, oT, N, hN, hP, hT⟩ := S.news
  have hoff := S.off
  have hzs : min tv.size mv.size = tv.size := by rw [hmk.1]; exact Nat.min_self _
  refine Assign_ListComp_P (hs := by intro _; rfl) (m := fun y => if y = Str.ofString "marks" then some (.ref ml) else m₀ y) (cl := []) (by with_unfolding_all rfl) (by with_unfolding_all rfl) (by decide) (by rfl) (by decide) (by rfl) (by rfl) (by decide) (by rfl) (by rfl) ?_
  repeat' walk1
  refine zip_post (xs := tv) (ys := mv) (El := fun i y l => ∃ (a : Addr) (o : Obj) (x : Int) (v : Value), y = .ref a ∧ ns[i]? = some x ∧ tv[i]? = some v ∧ (l = [(a, o)] ∨ (a, o) ∈ led) ∧ markOb (mkK (thingK x)) v o) rfl
    ⟨_, (N _ (.tail _ (.tail _ (.tail _ (.tail _ htl))))).1, rfl, _, rfl⟩ ⟨_, (N _ (.tail _ (.tail _ (.tail _ (.tail _ hml))))).1, rfl, _, rfl⟩ (by rw [hzs, sizeLine_eq]; omega) ?_ ?_
  · intro i v v₂ C m₂ h₂ tk₂ E' hv hnC hmx hmx₂ hC hk
    obtain ⟨hv, hv₂⟩ := hv
    obtain ⟨x, l, hx, hT', hl⟩ := hth.2 i v hv
    obtain ⟨a, o, x', v', rfl, hx', hv', hao, hob⟩ := hmk.2 i v₂ hv₂
    obtain rfl : x' = x := Option.some.inj (hx'.symm.trans hx)
    obtain rfl : v' = v := Option.some.inj (hv'.symm.trans hv)
    obtain ⟨oC, hoC, F₂, N₂⟩ := comp_ctx F N hk hnC hC
    clear F N
    obtain ⟨his, hil⟩ := thing_is (prog := PySem.Challenge.rw_dz0055_01.row.prog) (w := w) (h := h₂) hT' fun p hp => (N₂ _ (.tail _ (.tail _ (.tail _ (.tail _ (.tail _ (hl p hp))))))).1
    show wpAny _ _ _ (fun y s' => Hold _) _ _
    repeat' walk1
    refine eq_b (by show callerA.units + 3 < cLine; decide) his hil _ _ _ _ ?_
    cases hB : isB (thingK x') with
    | true =>
      repeat' walk1
      refine list_new (by show (1 : Nat) ≤ 100; decide) fun h₃ a ha hn up => ?_
      obtain ⟨o9, ha, hob9⟩ : ∃ o9, h₃.get? a = some o9 ∧ markOb (.inl "refused") v' o9 := ⟨_, ha, _, 0, rfl⟩
      refine ⟨h₃, _, [(a, o9)], rfl, up, ⟨a, o9, x', v', rfl, hx, hv, .inl rfl, by rw [mkK, if_pos hB]; exact hob9⟩, fun p hp => ?_⟩
      refine mem_one hp ?_
      exact ⟨ha, hn⟩
    | false =>
      repeat' walk1
      exact ⟨h₂, _, [], rfl, fun _ _ e => e, ⟨a, o, x', v', rfl, hx, hv, .inr hao, by rw [mkK, if_neg (by rw [hB]; exact Bool.false_ne_true)]; exact hob⟩, fun _ h => nomatch h⟩
  · refine ⟨F.ns, ?_⟩
    intro D h₂ tk₂ kv big nD hD hl hM hF hA hk hn
    obtain ⟨F₂, N₂⟩ := fin_ctxA F N hk hn hD hl hF
    have hoff₂ := offC_new (o := W.listOf kv nD) N hoff hD hF
    replace N₂ : News g L h₂ (cellsL L oN oP oT (tabObj ps) ((D, W.listOf kv nD) :: (big ++ led))) := fun p hp => N₂ p (cells_in p hp)
    clear F N
    refine ⟨rfl, h₂, _, D, kv, nD, _, rfl, ⟨F₂, ⟨_, _, _, N₂, hN, hP, hT⟩, hoff₂, S.big⟩, fun p hp => .tail _ (List.mem_append_right _ hp), .head _, hM.1.trans hzs, fun i y hy => ?_⟩
    obtain ⟨l, ⟨a, o, x, v, h1, h2, h3, h4, h5⟩, hl⟩ := hM.2 i y hy
    refine ⟨a, o, x, v, h1, h2, h3, ?_, h5⟩
    rcases h4 with rfl | h4
    · exact .tail _ (List.mem_append_left _ (hl _ (.head _)))
    · exact .tail _ (List.mem_append_right _ h4)
end Mine
end
section
set_option Elab.async false
theorem Mine.off_LS5 : True ∧ True := by
  w_top off
  first | walk1 | skip
  all_goals (first | trivial | exact ⟨trivial, trivial⟩)
end
section
open PySem PySem.W PyProof.Rows PySem.Calls PySem.W.X
set_option Elab.async false
set_option maxRecDepth 100000
set_option maxHeartbeats 4000000
set_option pp.deepTerms false
set_option pp.deepTerms.threshold 6
namespace Mine
local macro_rules | `(tactic| walk_at "eval Name") => `(tactic| (k_here; refine nameX_L (by assumption) (by assumption) ?_))
local macro_rules | `(tactic| walk_at "call ref") => `(tactic| (k_here; with_reducible refine hold_call 83 ?_))
inductive DuePost (g : Heap) (L : Addr) (vN vP vT : Option Value) (ps : Array Value) (led : List (Addr × Obj)) (m : Str → Option Value) (final : List Nat × List Nat × String × Nat) (s s' : Shared) : Prop
  | mk : ∀ h tk m' tl' al' tv' av' e1 e2 t1 t2 led', (s' = { s with heap := h, toks := tk })
      → (LawSt g L h m' vN vP vT ps led')
      → ((∀ p ∈ led, p ∈ led'))
      → ((tl', W.listOf tv' e1) ∈ led')
      → ((al', W.listOf av' e2) ∈ led')
      → (NumsAre tv'.toList final.1)
      → (NumsAre av'.toList final.2.1)
      → (m' (Str.ofString "told") = some (.ref tl'))
      → (m' (Str.ofString "asked") = some (.ref al'))
      → (m' (Str.ofString "due") = some (.str (Str.ofString final.2.2.1) t1))
      → (m' (Str.ofString "place") = some (.int final.2.2.2 t2))
      → (∀ y, y ≠ Str.ofString "told" → y ≠ Str.ofString "asked" → y ≠ Str.ofString "due" → y ≠ Str.ofString "place" → m' y = m y) → DuePost g L vN vP vT ps led m final s s'
theorem st_due1 {w : World} {s : Shared} {mean : ExcName → Option Value} {loose : List Str} {mg mb : Str → Option Value} {g : Heap} {L fa tl ml tkl : Addr} {m : Str → Option Value} {vN vP : Option Value} {tv mv tks ps : Array Value} {ns : List Int} {n₂ n₃ : Nat} {led : List (Addr × Obj)}
   {E : Value → Shared → Prop} {fd : FuncData} {oc : Value} {od : Option Addr} {osl : Array (Option Value)} {st : Stmt} {takes : Nat → Nat}
   (X : (Mine.hd.heap_39 w.params).In g) (T : Top topProg loose mean mg mb g) (hfd : ((Mine.hd.heap_39 w.params)).lookup 88 = some ⟨oc, od, .func fd, osl⟩) (hst : (forBody fd)[1]? = some st)
   (S : LawSt g L s.heap m vN vP (some (.ref tl)) ps led) (hml : (ml, W.listOf mv n₂) ∈ led) (htk : (tkl, W.listOf tks n₃) ∈ led) (hlen : ns.length ≤ 50) (hth : Th ns tv led) (hmk : Mks mkU ns tv mv led)
   (hm1 : m (Str.ofString "marks") = some (.ref ml)) (hm2 : m (Str.ofString "takes") = some (.ref tkl)) (hts : ∀ j, j < ns.length → ∃ t, tks[j]? = some (.int (takes j) t) ∧ takes j ≤ 2) :
   wpAny (model PySem.Challenge.rw_dz0055_01.row.prog w) (callerA.deeper (lawEnv fd L fa)) (exec st (lawEnv fd L fa)) (fun f s' => f = .next ∧ DuePost g L vN vP (some (.ref tl)) ps led m (dueRun (ns.map fun x => mkU (thingK x)) takes 60 0 [] []) s s') E s := by
  revert X hfd
  k_fill
  intro X hfd
  have e := hfd.symm.trans (show _ = some _ by k_is)
  injection e with e
  injection e with _ _ e _
  injection e with e
  subst e
  clear hfd
  dsimp only [forBody, bodyOf, List.drop, List.getElem?_cons_succ, List.getElem?_cons_zero] at hst
  injection hst with hst
  subst hst
  have F := S.fr
  obtain ⟨oN, oP, oT, N, hN, hP, hT⟩ := S.news
  have hoff := S.off
  have hat : ∀ p ∈ led, s.heap.get? p.1 = some p.2 := fun p hp => (N _ (.tail _ (.tail _ (.tail _ (.tail _ hp))))).1
  obtain ⟨a1, a2, a3, a4⟩ := hmk.at (prog := PySem.Challenge.rw_dz0055_01.row.prog) (w := w) (h := s.heap) (by intro q; exact .inl rfl) hth hat
  repeat' walk1
  refine wpAny_call (due_walk (X.keeps F.keep) (T.keeps F.keep) (by show callerA.depth + 1 < 350; decide) (by show callerA.units + 3 < 3000; decide) rfl ⟨_, hat _ hml, rfl, _, rfl⟩ a1 (by rw [List.length_map]; exact hlen) a2 a3 a4 (fun r s' hD => ?_) ⟨_, hat _ htk, rfl, _, rfl⟩ (fun j hj => hts j (by rw [List.length_map] at hj; exact hj)))
  obtain ⟨h', tk, D0, tl', al', tv', av', e1, e2, t1, t2, rfl, rfl, up, hn, hnum1, hnum2⟩ := hD
  have hD0 := hn _ (.head _)
  have hFr : Fresh s.heap h' [(tl', W.listOf tv' e1), (al', W.listOf av' e2)] := fun p hp => hn p (.tail _ hp)
  obtain ⟨F₂, N₂⟩ := fin_ctx F N up hD0.2 hD0.1 hFr
  have hoff₂ := offC_new (o := W.listOf #[.ref tl', .ref al', .str (Str.ofString (dueRun (ns.map fun x => mkU (thingK x)) takes 60 0 [] []).2.2.1) t1, .int (dueRun (ns.map fun x => mkU (thingK x)) takes 60 0 [] []).2.2.2 t2] 0) N hoff hD0.2 hFr
  replace N₂ := fun p hp => N₂ p (cells_in (o85 := tabObj ps) p hp)
  clear F N
  show wpAny _ _ (assign _ _ (Value.ref D0)) (fun _ s₁ => Hold _) _ _
  have N₃ : News g L h' (cellsL L oN oP oT (tabObj ps) _) := N₂
  clear N₂
  repeat' walk1
  rename_i h₄ F₄ N₄
  refine ⟨trivial, h₄, _, _, tl', al', tv', av', e1, e2, t1, t2, _, rfl, ⟨F₄, ⟨_, _, _, N₄, hN, hP, hT⟩, hoff₂, S.big⟩, fun p hp => .tail _ (List.mem_append_right _ hp), .tail _ (.head _), .tail _ (.tail _ (.head _)), hnum1, hnum2, rfl, rfl, rfl, rfl, fun y h1 h2 h3 h4 => ?_⟩
  simp only [if_neg h1, if_neg h2, if_neg h3, if_neg h4]
theorem st_due2 {w : World} {s : Shared} {mean : ExcName → Option Value} {loose : List Str} {mg mb : Str → Option Value} {g : Heap} {L fa tl ml tkl : Addr} {m : Str → Option Value} {vN vP : Option Value} {tv mv tks ps : Array Value} {ns : List Int} {n₂ n₃ : Nat} {led : List (Addr × Obj)}
   {E : Value → Shared → Prop} {fd : FuncData} {oc : Value} {od : Option Addr} {osl : Array (Option Value)} {st : Stmt} {takes : Nat → Nat}
   (X : (Mine.hd.heap_39 w.params).In g) (T : Top topProg loose mean mg mb g) (hfd : ((Mine.hd.heap_39 w.params)).lookup 88 = some ⟨oc, od, .func fd, osl⟩) (hst : (forBody fd)[6]? = some st)
   (S : LawSt g L s.heap m vN vP (some (.ref tl)) ps led) (hml : (ml, W.listOf mv n₂) ∈ led) (htk : (tkl, W.listOf tks n₃) ∈ led) (hlen : ns.length ≤ 50) (hth : Th ns tv led) (hmk : Mks mkK ns tv mv led)
   (hm1 : m (Str.ofString "keyed") = some (.ref ml)) (hm2 : m (Str.ofString "takes") = some (.ref tkl)) (hts : ∀ j, j < ns.length → ∃ t, tks[j]? = some (.int (takes j) t) ∧ takes j ≤ 2) :
   wpAny (model PySem.Challenge.rw_dz0055_01.row.prog w) (callerA.deeper (lawEnv fd L fa)) (exec st (lawEnv fd L fa)) (fun f s' => f = .next ∧ DuePost g L vN vP (some (.ref tl)) ps led m (dueRun (ns.map fun x => mkK (thingK x)) takes 60 0 [] []) s s') E s := by
  revert X hfd
  k_fill
  intro X hfd
  have e := hfd.symm.trans (show _ = some _ by k_is)
  injection e with e
  injection e with _ _ e _
  injection e with e
  subst e
  clear hfd
  dsimp only [forBody, bodyOf, List.drop, List.getElem?_cons_succ, List.getElem?_cons_zero] at hst
  injection hst with hst
  subst hst
  have F := S.fr
  obtain ⟨oN, oP, oT, N, hN, hP, hT⟩ := S.news
  have hoff := S.off
  have hat : ∀ p ∈ led, s.heap.get? p.1 = some p.2 := fun p hp => (N _ (.tail _ (.tail _ (.tail _ (.tail _ hp))))).1
  obtain ⟨a1, a2, a3, a4⟩ := hmk.at (prog := PySem.Challenge.rw_dz0055_01.row.prog) (w := w) (h := s.heap) (by intro q; by_cases hB : isB q = true; exact .inr (by rw [mkK, if_pos hB]); exact .inl (by rw [mkK, if_neg hB])) hth hat
  repeat' walk1
  refine wpAny_call (due_walk (X.keeps F.keep) (T.keeps F.keep) (by show callerA.depth + 1 < 350; decide) (by show callerA.units + 3 < 3000; decide) rfl ⟨_, hat _ hml, rfl, _, rfl⟩ a1 (by rw [List.length_map]; exact hlen) a2 a3 a4 (fun r s' hD => ?_) ⟨_, hat _ htk, rfl, _, rfl⟩ (fun j hj => hts j (by rw [List.length_map] at hj; exact hj)))
  obtain ⟨h', tk, D0, tl', al', tv', av', e1, e2, t1, t2, rfl, rfl, up, hn, hnum1, hnum2⟩ := hD
  have hD0 := hn _ (.head _)
  have hFr : Fresh s.heap h' [(tl', W.listOf tv' e1), (al', W.listOf av' e2)] := fun p hp => hn p (.tail _ hp)
  obtain ⟨F₂, N₂⟩ := fin_ctx F N up hD0.2 hD0.1 hFr
  have hoff₂ := offC_new (o := W.listOf #[.ref tl', .ref al', .str (Str.ofString (dueRun (ns.map fun x => mkK (thingK x)) takes 60 0 [] []).2.2.1) t1, .int (dueRun (ns.map fun x => mkK (thingK x)) takes 60 0 [] []).2.2.2 t2] 0) N hoff hD0.2 hFr
  replace N₂ := fun p hp => N₂ p (cells_in (o85 := tabObj ps) p hp)
  clear F N
  show wpAny _ _ (assign _ _ (Value.ref D0)) (fun _ s₁ => Hold _) _ _
  have N₃ : News g L h' (cellsL L oN oP oT (tabObj ps) _) := N₂
  clear N₂
  repeat' walk1
  rename_i h₄ F₄ N₄
  refine ⟨trivial, h₄, _, _, tl', al', tv', av', e1, e2, t1, t2, _, rfl, ⟨F₄, ⟨_, _, _, N₄, hN, hP, hT⟩, hoff₂, S.big⟩, fun p hp => .tail _ (List.mem_append_right _ hp), .tail _ (.head _), .tail _ (.tail _ (.head _)), hnum1, hnum2, rfl, rfl, rfl, rfl, fun y h1 h2 h3 h4 => ?_⟩
  simp only [if_neg h1, if_neg h2, if_neg h3, if_neg h4]
end Mine
end
section
set_option Elab.async false
theorem Mine.off_LS6 : True ∧ True := by
  w_top off
  first | walk1 | skip
  all_goals (first | trivial | exact ⟨trivial, trivial⟩)
end
section
open PySem PySem.W PyProof.Rows PySem.Calls PySem.W.X
set_option Elab.async false
set_option maxRecDepth 100000
set_option maxHeartbeats 4000000
set_option pp.deepTerms false
set_option pp.deepTerms.threshold 6
namespace Mine
local macro_rules | `(tactic| walk_at "eval Name") => `(tactic| (k_here; refine nameX_L (by assumption) (by assumption) ?_))
local macro_rules | `(tactic| walk_at "call ref") => `(tactic| (k_here; with_reducible refine hold_call 78 ?_))
inductive HeardPost (g : Heap) (L : Addr) (vN vP vT : Option Value) (ps : Array Value) (led : List (Addr × Obj)) (m : Str → Option Value) (xs : Array Value) (fin1 : List Nat) (fin2 : String) (fin3 : Nat) (s s' : Shared) : Prop
  | mk : ∀ h gens' tk m' hl D D2 hv ep nD n2 te led', (s' = { s with heap := h, gens := gens', toks := tk })
      → ((AllBare s.gens → AllBare gens'))
      → (LawSt g L h m' vN vP vT ps led')
      → ((∀ p ∈ led, p ∈ led'))
      → ((hl, W.listOf hv ep) ∈ led')
      → ((D, W.listOf #[] nD) ∈ led')
      → ((D2, W.listOf (List.drop fin3 xs.toList).toArray n2) ∈ led')
      → (Told xs hv fin1)
      → (m' (Str.ofString "heard") = some (.ref hl))
      → (m' (Str.ofString "end") = some (.str (Str.ofString fin2) te))
      → (m' (Str.ofString "after") = some (.ref D))
      → (m' (Str.ofString "left") = some (.ref D2))
      → (∀ y, y ≠ Str.ofString "heard" → y ≠ Str.ofString "end" → y ≠ Str.ofString "after" → y ≠ Str.ofString "left" → m' y = m y) → HeardPost g L vN vP vT ps led m xs fin1 fin2 fin3 s s'
theorem hide_get {h : Heap} {L b : Addr} {o : Obj} (e : h.get? b = some o) (hb : b ≠ L) : (hideAll h [L]).get? b = some o := hideAll_get _ e fun z => hb (List.mem_singleton.mp z)
theorem hide_keep {g h : Heap} {L : Addr} {m : Str → Option Value} (F : Fr g L h m) : g.StaysIn (hideAll h [L]) := fun b o e => hide_get (F.keep b o e) fun z => by
  have := Heap.lt_size e
  rw [z] at this
  exact Nat.lt_irrefl _ (Nat.lt_of_lt_of_le this F.above)
theorem st_heard1 {w : World} {s : Shared} {mean : ExcName → Option Value} {loose : List Str} {mg mb : Str → Option Value} {g : Heap} {L fa tl tkl : Addr} {m : Str → Option Value} {vN vP : Option Value} {tv tks ps : Array Value} {ns : List Int} {n₁ n₃ : Nat} {led : List (Addr × Obj)}
   {E : Value → Shared → Prop} {fd : FuncData} {oc : Value} {od : Option Addr} {osl : Array (Option Value)} {st : Stmt} {takes : Nat → Nat}
   (X : (Mine.hd.heap_39 w.params).In g) (T : Top topProg loose mean mg mb g) (hfd : ((Mine.hd.heap_39 w.params)).lookup 88 = some ⟨oc, od, .func fd, osl⟩) (hst : (forBody fd)[0]? = some st)
   (S : LawSt g L s.heap m vN vP (some (.ref tl)) ps led) (htl : (tl, W.listOf tv n₁) ∈ led) (htk : (tkl, W.listOf tks n₃) ∈ led) (hlen : ns.length ≤ 50) (hth : Th ns tv led)
   (hm2 : m (Str.ofString "takes") = some (.ref tkl)) (hts : ∀ j, j < ns.length → ∃ t, tks[j]? = some (.int (takes j) t) ∧ takes j ≤ 2) :
   wpAny (model PySem.Challenge.rw_dz0055_01.row.prog w) (callerA.deeper (lawEnv fd L fa)) (exec st (lawEnv fd L fa)) (fun f s' => f = .next ∧
     HeardPost g L vN vP (some (.ref tl)) ps led m tv (heardRun (step1 (ns.map thingK)) takes tv.size 60 (fun _ => false) 0 []).1 (heardRun (step1 (ns.map thingK)) takes tv.size 60 (fun _ => false) 0 []).2.1 (heardRun (step1 (ns.map thingK)) takes tv.size 60 (fun _ => false) 0 []).2.2.1 s s') E s := by
  revert X hfd
  k_fill
  intro X hfd
  have e := hfd.symm.trans (show _ = some _ by k_is)
  injection e with e
  injection e with _ _ e _
  injection e with e
  subst e
  clear hfd
  dsimp only [forBody, bodyOf, List.drop, List.getElem?_cons_succ, List.getElem?_cons_zero] at hst
  injection hst with hst
  subst hst
  have F := S.fr
  obtain ⟨oN, oP, oT, N, hN, hP, hT⟩ := S.news
  have hoff := S.off
  repeat' walk1
  obtain ⟨oL, es₀, ep₀, hoL, hdL, hnsL⟩ := F.ns
  have hat : ∀ p ∈ led, (hideAll s.heap [L]).get? p.1 = some p.2 := fun p hp => by
    have := N _ (.tail _ (.tail _ (.tail _ (.tail _ hp))))
    exact hide_get this.1 this.2.1
  have st := hide_keep F
  have hsz : tv.size = ns.length := hth.1
  refine wpAny_call (heard1 (g := hideAll s.heap [L]) (fs := [L]) (led := [(L, oL)]) (ks := ns.map thingK) (X.keeps st) (T.keeps st) (by show callerA.depth + 1 < 350; decide) (by show callerA.units + 3 < 3000; decide) (by omega) (by rw [List.length_map, hsz])
    (fun j v hv => ?_) (fun r s' hD => ?_) ?_ ?_ ⟨_, hat _ htl, rfl, _, rfl⟩ ⟨_, hat _ htk, rfl, _, rfl⟩ (fun j hj => hts j (by omega)))
  · obtain ⟨x, l, hx, hT', hl⟩ := hth.2 j v hv
    exact ⟨thingK x, by rw [List.getElem?_map, hx]; rfl, (thing_is hT' fun p hp => hat p (hl p hp)).1⟩
  · obtain ⟨h', tk, D0, hl, D, D2, hv, ep, nD, n2, te, ow, led', rfl, rfl, st', hnew, htold, hrel, hhas, hown⟩ := hD
    obtain ⟨sl, hsl⟩ := (hrel.2 (L, oL) (.head _)).2
    have hL' := hhas _ (List.mem_append_right _ hsl)
    have kp : ∀ b o, b ≠ L → s.heap.get? b = some o → h'.get? b = some o := fun b o hb e => st' b o (hide_get e hb)
    have F₁ : Fr g L h' m := ⟨⟨_, es₀, ep₀, hL', hdL, hnsL⟩, fun b o e => st' b o (st b o e), F.above⟩
    have N₁ : News g L h' (cellsL L oN oP oT (tabObj ps) led) := fun p hp => ⟨kp _ _ (N p hp).2.1 (N p hp).1, (N p hp).2⟩
    have new : ∀ p ∈ [(D0, W.listOf #[.ref hl, .str (Str.ofString (heardRun (step1 (ns.map thingK)) takes tv.size 60 (fun _ => false) 0 []).2.1) te, .ref D, .ref D2] 0), (D2, W.listOf (List.drop (heardRun (step1 (ns.map thingK)) takes tv.size 60 (fun _ => false) 0 []).2.2.1 tv.toList).toArray n2), (D, W.listOf #[] nD), (hl, W.listOf hv ep)], h'.get? p.1 = some p.2 ∧ s.heap.get? p.1 = none := fun p hp => by
      obtain ⟨q1, q2, q3⟩ := hnew p hp
      refine ⟨q1, ?_⟩
      cases q : s.heap.get? p.1 with
      | none => rfl
      | some o =>
        have := hide_get (L := L) q (q3.1 (L, oL) (.head _))
        rw [this] at q2; cases q2
    have N₂ : News g L h' (cellsL L oN oP oT (tabObj ps) ((D0, W.listOf #[.ref hl, .str (Str.ofString (heardRun (step1 (ns.map thingK)) takes tv.size 60 (fun _ => false) 0 []).2.1) te, .ref D, .ref D2] 0) :: ([(D2, W.listOf (List.drop (heardRun (step1 (ns.map thingK)) takes tv.size 60 (fun _ => false) 0 []).2.2.1 tv.toList).toArray n2), (D, W.listOf #[] nD), (hl, W.listOf hv ep)] ++ led))) := fun p hp => by
      have hp := cells_in p hp
      refine mem_elim hp ?_ fun hp => ?_
      · exact ⟨(new _ (.head _)).1, fr_off F (new _ (.head _)).2⟩
      rcases List.mem_append.mp hp with hp | hp
      · exact ⟨(new p (.tail _ hp)).1, fr_off F (new p (.tail _ hp)).2⟩
      · exact N₁ p hp
    have hFr : Fresh s.heap h' [(D2, W.listOf (List.drop (heardRun (step1 (ns.map thingK)) takes tv.size 60 (fun _ => false) 0 []).2.2.1 tv.toList).toArray n2), (D, W.listOf #[] nD), (hl, W.listOf hv ep)] := fun p hp => new p (.tail _ hp)
    have hoff₂ := offC_new (o := W.listOf #[.ref hl, .str (Str.ofString (heardRun (step1 (ns.map thingK)) takes tv.size 60 (fun _ => false) 0 []).2.1) te, .ref D, .ref D2] 0) N hoff (new _ (.head _)).2 hFr
    clear F N N₁
    show wpAny _ _ (assign _ _ (Value.ref D0)) (fun _ s₁ => Hold _) _ _
    repeat' walk1
    rename_i h₄ F₄ N₄
    refine ⟨trivial, h₄, _, _, _, hl, D, D2, hv, ep, nD, n2, te, _, rfl, fun z => z.push rfl, ⟨F₄, ⟨_, _, _, N₄, hN, hP, hT⟩, hoff₂, S.big⟩, fun p hp => .tail _ (List.mem_append_right _ hp), .tail _ (.tail _ (.tail _ (.head _))), .tail _ (.tail _ (.head _)), .tail _ (.head _), htold, rfl, rfl, rfl, rfl, fun y h1 h2 h3 h4 => ?_⟩
    simp only [if_neg h1, if_neg h2, if_neg h3, if_neg h4]
  · intro a ha
    refine mem_one ha ?_
    exact ⟨oL, .head _, fun vs q => by rw [hdL] at q; cases q⟩
  · refine ⟨fun b o e => of_hideAll _ e, Nat.le_of_eq (hideAll_size _ _), fun p hp => ?_, fun a ha => ?_, ⟨_, rfl, fun x hx => ?_⟩, rfl⟩
    · refine mem_one hp ?_
      exact ⟨hoL, hideAll_none _ (.head _)⟩
    · refine mem_one ha ?_
      exact ⟨oL, .head _, fun vs q => by rw [hdL] at q; cases q⟩
    · refine mem_one hx ?_
      exact ⟨(fun z => nomatch z), L, rfl, .head _⟩
end Mine
end
section
set_option Elab.async false
theorem Mine.off_LS7 : True ∧ True := by
  w_top off
  first | walk1 | skip
  all_goals (first | trivial | exact ⟨trivial, trivial⟩)
end
section
open PySem PySem.W PyProof.Rows PySem.Calls PySem.W.X
set_option Elab.async false
set_option maxRecDepth 100000
set_option maxHeartbeats 4000000
set_option pp.deepTerms false
set_option pp.deepTerms.threshold 6
namespace Mine
local macro_rules | `(tactic| walk_at "eval Name") => `(tactic| (k_here; refine nameX_L (by assumption) (by assumption) ?_))
local macro_rules | `(tactic| walk_at $s:str) => if ["eval ListComp", "newList", "compareOp NotEq ref ref", "subscriptTail"].contains s.getString then `(tactic| (k_here; refine hold ?_)) else Lean.Macro.throwUnsupported
noncomputable def tyN (k : Int) : Value := if k < 3 then .type "int" else if k = 3 then .type "bool" else if k = 4 then .type "bool" else if k = 5 then .type "str" else if k = 6 then .type "tuple" else if k = 7 then .type "int" else .type "list"
noncomputable def tyOf (x : Int) : Value := tyN (x.fmod 9)
theorem ty_eq {x k : Int} {T : Value} (h : x.fmod 9 = k) (e : tyN k = T) : T = tyOf x := e.symm.trans (congrArg tyN h).symm
theorem told_get {xs hv : Array Value} {t : List Nat} (h : Told xs hv t) {i : Nat} {v : Value} (e : hv[i]? = some v) : ∃ j : Nat, t[i]? = some j ∧ xs[j]? = some v := by
  have h1 : (hv.toList.map some)[i]? = some (some v) := by rw [List.getElem?_map, Array.getElem?_toList, e]; rfl
  rw [show hv.toList.map some = _ from h, List.getElem?_map] at h1
  obtain ⟨j, hj, e2⟩ := Option.map_eq_some_iff.mp h1
  exact ⟨j, hj, e2⟩
theorem told_of {xs hv : Array Value} {t : List Nat} (h : Told xs hv t) {i j : Nat} (e : t[i]? = some j) : ∃ v, hv[i]? = some v ∧ xs[j]? = some v := by
  have h1 : (t.map (fun j => xs[j]?))[i]? = some xs[j]? := by rw [List.getElem?_map, e]; rfl
  rw [← show hv.toList.map some = _ from h, List.getElem?_map] at h1
  obtain ⟨v, hv', e2⟩ := Option.map_eq_some_iff.mp h1
  exact ⟨v, by rw [← Array.getElem?_toList]; exact hv', e2.symm⟩
noncomputable def Typed (ns : List Int) (tv : Array Value) (t : List Nat) (i : Nat) (y : Value) (l : List (Addr × Obj)) : Prop :=
  ∃ (a : Addr) (j : Nat) (x : Int) (v : Value) (n : Nat), y = .ref a ∧ t[i]? = some j ∧ tv[j]? = some v ∧ ns[j]? = some x ∧ l = [(a, W.listOf #[tyOf x, v] n)]
theorem typed_elt {prog : Program} {w : World} {A : Around} {E : Value → Shared → Prop} {s : Shared} {h : Heap} {tk : Nat} {v T : Value} {x : Int} {i j : Nat} {ns : List Int} {tv : Array Value} {t : List Nat} (hT : T = tyOf x) (hj : t[i]? = some j) (hx : ns[j]? = some x) (hv : tv[j]? = some v) :
   wpAny (model prog w) A (newList [T, v]) (fun y s' => ∃ h' tk' l, s' = { s with heap := h', toks := tk' } ∧ (∀ b o, h.get? b = some o → h'.get? b = some o) ∧ Typed ns tv t i y l ∧ Fresh h h' l) E { s with heap := h, toks := tk } := by
  subst hT
  refine list_new (by show (2 : Nat) ≤ 100; decide) fun h₃ a ha hn up => ?_
  refine ⟨h₃, _, [(a, _)], rfl, up, ⟨a, j, x, v, 0, rfl, hj, hv, hx, rfl⟩, fun p hp => ?_⟩
  refine mem_one hp ?_
  exact ⟨ha, hn⟩
theorem st_cmp1 {w : World} {s : Shared} {mean : ExcName → Option Value} {loose : List Str} {mg mb : Str → Option Value} {g : Heap} {L fa tl hl tol : Addr} {m : Str → Option Value} {vN vP : Option Value} {tv hv tov ps : Array Value} {ns : List Int} {n₁ n₂ n₃ : Nat} {led : List (Addr × Obj)} {t : List Nat}
   {E : Value → Shared → Prop} {fd : FuncData} {oc : Value} {od : Option Addr} {osl : Array (Option Value)} {st : Stmt}
   (X : (Mine.hd.heap_39 w.params).In g) (T : Top topProg loose mean mg mb g) (hfd : ((Mine.hd.heap_39 w.params)).lookup 88 = some ⟨oc, od, .func fd, osl⟩) (hst : (forBody fd)[2]? = some st)
   (S : LawSt g L s.heap m vN vP (some (.ref tl)) ps led) (htl : (tl, W.listOf tv n₁) ∈ led) (hhl : (hl, W.listOf hv n₂) ∈ led) (htol : (tol, W.listOf tov n₃) ∈ led) (hlen : ns.length ≤ 50) (hth : Th ns tv led)
   (htold : Told tv hv t) (hnum : NumsAre tov.toList t) (ht50 : t.length ≤ 100) (hm1 : m (Str.ofString "heard") = some (.ref hl)) (hm2 : m (Str.ofString "told") = some (.ref tol)) :
   wpAny (model PySem.Challenge.rw_dz0055_01.row.prog w) (callerA.deeper (lawEnv fd L fa)) (exec st (lawEnv fd L fa)) (fun f s' => f = .next ∧ ∃ h tk, s' = { s with heap := h, toks := tk } ∧ LawSt g L h m vN vP (some (.ref tl)) ps led) E s := by
  revert X hfd
  k_fill
  intro X hfd
  have e := hfd.symm.trans (show _ = some _ by k_is)
  injection e with e
  injection e with _ _ e _
  injection e with e
  subst e
  clear hfd
  dsimp only [forBody, bodyOf, List.drop, List.getElem?_cons_succ, List.getElem?_cons_zero] at hst
  injection hst with hst
  subst hst
  have F := S.fr
  obtain ⟨oN, oP, oT, N, hN, hP, hT⟩ := S.news
  have hoff := S.off
  have hsz : tv.size = ns.length := hth.1
  have hhv : hv.size = t.length := by have := congrArg List.length htold; simpa using this
  have htov : tov.size = t.length := by have := nums_len hnum; simpa using this
  show wpAny _ _ _ (fun f s' => Hold _) _ _
  repeat' walk1
  refine ListComp_G (hs := by intro _; rfl) (cl := []) (by with_unfolding_all rfl) (by decide) (by rfl) (by decide) (by rfl) ?_
  repeat' walk1
  refine ⟨hl, hv, Typed ns tv t, rfl, rfl, ⟨_, (N _ (.tail _ (.tail _ (.tail _ (.tail _ hhl))))).1, rfl, _, rfl⟩, (by rw [sizeLine_eq]; omega), ?_, ?_⟩
  · intro i v C m₂ h₂ tk₂ E' hv' hnC hmx hC hk
    obtain ⟨j, hj, hvj⟩ := told_get htold hv'
    obtain ⟨x, l, hx, hT', hl'⟩ := hth.2 j v hvj
    obtain ⟨oC, hoC, F₂, N₂⟩ := comp_ctx F N hk hnC hC
    clear F N
    have N₃ : News g L h₂ ((C, oC) :: (l ++ cellsL L oN oP oT (tabObj ps) led)) := fun p hp => by
      refine mem_elim hp ?_ fun hp => ?_
      · exact N₂ _ (.head _)
      rcases List.mem_append.mp hp with hp | hp
      · exact N₂ _ (.tail _ (.tail _ (.tail _ (.tail _ (.tail _ (hl' p hp))))))
      · exact N₂ _ (.tail _ hp)
    clear N₂
    cases hT' with
    | num h1 h2 =>
      repeat' walk1
      exact typed_elt ((if_pos h1).symm) hj hx hvj
    | tru h1 =>
      repeat' walk1
      exact typed_elt (ty_eq h1 rfl) hj hx hvj
    | fls h1 =>
      repeat' walk1
      exact typed_elt (ty_eq h1 rfl) hj hx hvj
    | str h1 h2 =>
      repeat' walk1
      exact typed_elt (ty_eq h1 rfl) hj hx hvj
    | tup h1 =>
      repeat' walk1
      exact typed_elt (ty_eq h1 rfl) hj hx hvj
    | big h1 h2 =>
      repeat' walk1
      exact typed_elt (ty_eq h1 rfl) hj hx hvj
    | lst h1 =>
      repeat' walk1
      exact typed_elt (ty_eq h1 rfl) hj hx hvj
  · intro D h₂ tk₂ av big nD hD hlD hM hF hA hk
    obtain ⟨F₂, N₂⟩ := fin_ctx F N hk hD hlD hF
    have N₀ : News g L h₂ (cellsL L oN oP oT (tabObj ps) led) := fun p hp => N₂ p (.tail _ (List.mem_append_right _ hp))
    have hDl : (D, W.listOf av nD) ∈ [(D, W.listOf av nD)] ++ big := .head _
    have keepA : ∀ p ∈ (D, W.listOf av nD) :: big, h₂.get? p.1 = some p.2 := fun p hp => by
      refine mem_elim hp ?_ fun hp => ?_
      · exact hlD
      · exact (hF p hp).1
    clear F N N₂
    repeat' walk1
    refine ListComp_G (hs := by intro _; rfl) (by with_unfolding_all rfl) (by decide) (by rfl) (by decide) (by rfl) ?_
    repeat' walk1
    refine ⟨tol, tov, Typed ns tv t, rfl, rfl, ⟨_, (N₀ _ (.tail _ (.tail _ (.tail _ (.tail _ htol))))).1, rfl, _, rfl⟩, (by rw [sizeLine_eq]; omega), ?_, ?_⟩
    · intro i v C m₂ h₃ tk₃ E' hv' hnC hmx hC hk
      obtain ⟨j, tj, hj, rfl⟩ := nums_get hnum i v (by simpa using hv')
      obtain ⟨v, _, hvj⟩ := told_of htold hj
      obtain ⟨x, l, hx, hT', hl'⟩ := hth.2 j v hvj
      obtain ⟨oC, hoC, F₃, N₂⟩ := comp_ctx F₂ N₀ hk hnC hC
      have htv1000 : tv.size ≤ 1000 := by omega
      clear F₂ N₀
      have N₃ : News g L h₃ ((C, oC) :: (l ++ cellsL L oN oP oT (tabObj ps) led)) := fun p hp => by
        refine mem_elim hp ?_ fun hp => ?_
        · exact N₂ _ (.head _)
        rcases List.mem_append.mp hp with hp | hp
        · exact N₂ _ (.tail _ (.tail _ (.tail _ (.tail _ (.tail _ (hl' p hp))))))
        · exact N₂ _ (.tail _ hp)
      clear N₂
      have hmem : (tl, W.listOf tv n₁) ∈ (C, oC) :: (l ++ cellsL L oN oP oT (tabObj ps) led) := .tail _ (List.mem_append_right _ (.tail _ (.tail _ (.tail _ (.tail _ htl)))))
      cases hT' with
      | num h1 h2 =>
        repeat' walk1
        refine item_at (hs := by with_unfolding_all rfl) (hg := by intro _; with_unfolding_all rfl) (items := tv) rfl htv1000 ⟨_, (N₃ _ hmem).1, rfl, _, rfl⟩ hvj ?_
        repeat' walk1
        refine item_at (hs := by with_unfolding_all rfl) (hg := by intro _; with_unfolding_all rfl) (items := tv) rfl htv1000 ⟨_, (N₃ _ hmem).1, rfl, _, rfl⟩ hvj ?_
        repeat' walk1
        exact typed_elt ((if_pos h1).symm) hj hx hvj
      | tru h1 =>
        repeat' walk1
        refine item_at (hs := by with_unfolding_all rfl) (hg := by intro _; with_unfolding_all rfl) (items := tv) rfl htv1000 ⟨_, (N₃ _ hmem).1, rfl, _, rfl⟩ hvj ?_
        repeat' walk1
        refine item_at (hs := by with_unfolding_all rfl) (hg := by intro _; with_unfolding_all rfl) (items := tv) rfl htv1000 ⟨_, (N₃ _ hmem).1, rfl, _, rfl⟩ hvj ?_
        repeat' walk1
        exact typed_elt (ty_eq h1 rfl) hj hx hvj
      | fls h1 =>
        repeat' walk1
        refine item_at (hs := by with_unfolding_all rfl) (hg := by intro _; with_unfolding_all rfl) (items := tv) rfl htv1000 ⟨_, (N₃ _ hmem).1, rfl, _, rfl⟩ hvj ?_
        repeat' walk1
        refine item_at (hs := by with_unfolding_all rfl) (hg := by intro _; with_unfolding_all rfl) (items := tv) rfl htv1000 ⟨_, (N₃ _ hmem).1, rfl, _, rfl⟩ hvj ?_
        repeat' walk1
        exact typed_elt (ty_eq h1 rfl) hj hx hvj
      | str h1 h2 =>
        repeat' walk1
        refine item_at (hs := by with_unfolding_all rfl) (hg := by intro _; with_unfolding_all rfl) (items := tv) rfl htv1000 ⟨_, (N₃ _ hmem).1, rfl, _, rfl⟩ hvj ?_
        repeat' walk1
        refine item_at (hs := by with_unfolding_all rfl) (hg := by intro _; with_unfolding_all rfl) (items := tv) rfl htv1000 ⟨_, (N₃ _ hmem).1, rfl, _, rfl⟩ hvj ?_
        repeat' walk1
        exact typed_elt (ty_eq h1 rfl) hj hx hvj
      | tup h1 =>
        repeat' walk1
        refine item_at (hs := by with_unfolding_all rfl) (hg := by intro _; with_unfolding_all rfl) (items := tv) rfl htv1000 ⟨_, (N₃ _ hmem).1, rfl, _, rfl⟩ hvj ?_
        repeat' walk1
        refine item_at (hs := by with_unfolding_all rfl) (hg := by intro _; with_unfolding_all rfl) (items := tv) rfl htv1000 ⟨_, (N₃ _ hmem).1, rfl, _, rfl⟩ hvj ?_
        repeat' walk1
        exact typed_elt (ty_eq h1 rfl) hj hx hvj
      | big h1 h2 =>
        repeat' walk1
        refine item_at (hs := by with_unfolding_all rfl) (hg := by intro _; with_unfolding_all rfl) (items := tv) rfl htv1000 ⟨_, (N₃ _ hmem).1, rfl, _, rfl⟩ hvj ?_
        repeat' walk1
        refine item_at (hs := by with_unfolding_all rfl) (hg := by intro _; with_unfolding_all rfl) (items := tv) rfl htv1000 ⟨_, (N₃ _ hmem).1, rfl, _, rfl⟩ hvj ?_
        repeat' walk1
        exact typed_elt (ty_eq h1 rfl) hj hx hvj
      | lst h1 =>
        repeat' walk1
        refine item_at (hs := by with_unfolding_all rfl) (hg := by intro _; with_unfolding_all rfl) (items := tv) rfl htv1000 ⟨_, (N₃ _ hmem).1, rfl, _, rfl⟩ hvj ?_
        repeat' walk1
        refine item_at (hs := by with_unfolding_all rfl) (hg := by intro _; with_unfolding_all rfl) (items := tv) rfl htv1000 ⟨_, (N₃ _ hmem).1, rfl, _, rfl⟩ hvj ?_
        repeat' walk1
        exact typed_elt (ty_eq h1 rfl) hj hx hvj
    · intro D₂ h₃ tk₃ bv big₂ nD₂ hD₂ hlD₂ hM₂ hF₂ hA₂ hk₂
      obtain ⟨F₃, N₂⟩ := fin_ctx F₂ N₀ hk₂ hD₂ hlD₂ hF₂
      have N₃ : News g L h₃ (cellsL L oN oP oT (tabObj ps) led) := fun p hp => N₂ p (.tail _ (List.mem_append_right _ hp))
      clear N₂
      repeat' walk1
      refine ne_lists (xs := av) (ys := bv) ⟨_, hk₂ _ _ hlD, rfl, _, rfl⟩ ⟨_, hlD₂, rfl, _, rfl⟩ (by rw [hM.1, hM₂.1, hhv, htov]) (by show callerA.units + 3 < cLine; decide) (fun j j1 j2 => ?_) _ _ _ _ ?_
      · obtain ⟨l, ⟨a, i, x, v, n, e1, e2, e3, e4, rfl⟩, hl⟩ := hM.2 j av[j] (Array.getElem?_eq_getElem j1)
        obtain ⟨l', ⟨a', i', x', v', n', e1', e2', e3', e4', rfl⟩, hl'⟩ := hM₂.2 j bv[j] (Array.getElem?_eq_getElem j2)
        rw [e1, e1']
        obtain rfl : i' = i := Option.some.inj (e2'.symm.trans e2)
        obtain rfl : v' = v := Option.some.inj (e3'.symm.trans e3)
        obtain rfl : x' = x := Option.some.inj (e4'.symm.trans e4)
        exact eq_same (xs := #[tyOf x', v']) ⟨_, hk₂ _ _ (hF _ (hl _ (.head _))).1, rfl, _, rfl⟩ ⟨_, (hF₂ _ (hl' _ (.head _))).1, rfl, _, rfl⟩ (by show callerA.units + 3 + 1 < cLine; decide)
      clear F₂ N₀
      repeat' walk1
      exact ⟨rfl, h₃, _, rfl, ⟨F₃, ⟨_, _, _, N₃, hN, hP, hT⟩, hoff, S.big⟩⟩
end Mine
end
section
set_option Elab.async false
theorem Mine.off_LS8 : True ∧ True := by
  w_top off
  first | walk1 | skip
  all_goals (first | trivial | exact ⟨trivial, trivial⟩)
end
section
open PySem PySem.W PyProof.Rows PySem.Calls PySem.W.X
set_option Elab.async false
set_option maxRecDepth 100000
set_option maxHeartbeats 4000000
set_option pp.deepTerms false
set_option pp.deepTerms.threshold 6
namespace Mine
local macro_rules | `(tactic| walk_at "eval Name") => `(tactic| (k_here; refine nameX_L (by assumption) (by assumption) ?_))
local macro_rules | `(tactic| walk_at "compareOp NotEq ref ref") => `(tactic| (k_here; refine hold ?_))
local macro_rules | `(tactic| walk_at "eval Subscript") => `(tactic| (k_here; with_reducible refine hold_slice ?_))
theorem st_cmp2 {w : World} {s : Shared} {mean : ExcName → Option Value} {loose : List Str} {mg mb : Str → Option Value} {g : Heap} {L fa tl D D2 : Addr} {m : Str → Option Value} {vN vP : Option Value} {tv ps : Array Value} {n₁ n₂ n₃ : Nat} {led : List (Addr × Obj)} {i p : Nat} {wd : String} {t1 t2 t3 : Tok}
   {E : Value → Shared → Prop} {fd : FuncData} {oc : Value} {od : Option Addr} {osl : Array (Option Value)} {st : Stmt} {Q : Flow → Shared → Prop}
   (X : (Mine.hd.heap_39 w.params).In g) (T : Top topProg loose mean mg mb g) (hfd : ((Mine.hd.heap_39 w.params)).lookup 88 = some ⟨oc, od, .func fd, osl⟩) (hst : (forBody fd)[3]? = some st)
   (S : LawSt g L s.heap m vN vP (some (.ref tl)) ps led) (htl : (tl, W.listOf tv n₁) ∈ led) (hD : (D, W.listOf #[] n₂) ∈ led) (hD2 : (D2, W.listOf (List.drop i tv.toList).toArray n₃) ∈ led) (hlen : tv.size ≤ 50) (hp : p ≤ 100)
   (hdrop : List.drop i tv.toList = List.drop p tv.toList)
   (hm1 : m (Str.ofString "end") = some (.str (Str.ofString wd) t1)) (hm2 : m (Str.ofString "after") = some (.ref D)) (hm3 : m (Str.ofString "left") = some (.ref D2)) (hm4 : m (Str.ofString "due") = some (.str (Str.ofString wd) t2)) (hm5 : m (Str.ofString "place") = some (.int (p : Nat) t3)) :
   wpAny (model PySem.Challenge.rw_dz0055_01.row.prog w) (callerA.deeper (lawEnv fd L fa)) (exec st (lawEnv fd L fa)) (fun f s' => f = .next ∧ ∃ h tk, s' = { s with heap := h, toks := tk } ∧ LawSt g L h m vN vP (some (.ref tl)) ps led) E s := by
  revert X hfd
  k_fill
  intro X hfd
  have e := hfd.symm.trans (show _ = some _ by k_is)
  injection e with e
  injection e with _ _ e _
  injection e with e
  subst e
  clear hfd
  dsimp only [forBody, bodyOf, List.drop, List.getElem?_cons_succ, List.getElem?_cons_zero] at hst
  injection hst with hst
  subst hst
  have F := S.fr
  obtain ⟨oN, oP, oT, N, hN, hP, hT⟩ := S.news
  have hoff := S.off
  have mem : ∀ {x : Addr × Obj}, x ∈ led → x ∈ cellsL L oN oP oT (tabObj ps) led := fun h => .tail _ (.tail _ (.tail _ (.tail _ h)))
  show wpAny _ _ _ (fun f s' => Hold _) _ _
  have htlN := mem htl
  have F₀ := F
  repeat' walk1
  refine slice_rule (ht := by intro _ _; rfl) ?_
  repeat' walk1
  rename_i l1 h₁ _ l2 h₂ F₂ N₂ _
  refine ⟨tl, tv, (p : Nat), t3, rfl, rfl, ⟨_, (N₂ _ (.tail _ (.tail _ htlN))).1, rfl, _, rfl⟩, (by rw [sizeLine_eq]; omega), fun h₃ b hb hbn up => ?_⟩
  rw [slicePick_from'] at hb
  obtain ⟨F₃, N₃⟩ := fin_ctx (big := []) F₂ N₂ up hbn hb (fun _ h => nomatch h)
  clear F₂ N₂
  repeat' walk1
  rename_i l3 h₄ F₄ N₄ _
  have inl : ∀ {x : Addr × Obj}, x ∈ led → h₄.get? x.1 = some x.2 := fun hx => (N₄ _ (.tail _ (.tail _ (List.mem_append_right _ (.tail _ (.tail _ (mem hx))))))).1
  rw [hdrop] at hD2
  refine ne_lists (xs := #[.str (Str.ofString wd) t1, .ref D, .ref D2]) (ys := #[.str (Str.ofString wd) t2, .ref l2, .ref b]) ⟨_, (N₄ _ (.tail _ (.tail _ (List.mem_append_right _ (.tail _ (.head _)))))).1, rfl, _, rfl⟩ ⟨_, (N₄ _ (.head _)).1, rfl, _, rfl⟩ rfl (by show callerA.units + 3 < cLine; decide) (fun j j1 j2 => ?_) _ _ _ _ ?_
  · have j1 : j < 3 := j1
    rcases (lt3 (by omega : j < 3)) with rfl | rfl | rfl
    · exact str_same _ _ _
    · exact eq_same (xs := #[]) ⟨_, inl hD, rfl, _, rfl⟩ ⟨_, (N₄ _ (.tail _ (.tail _ (List.mem_append_right _ (.head _))))).1, rfl, _, rfl⟩ (by show callerA.units + 3 + 1 < cLine; decide)
    · exact eq_same (xs := (List.drop p tv.toList).toArray) ⟨_, inl hD2, rfl, _, rfl⟩ ⟨_, (N₄ _ (.tail _ (.head _))).1, rfl, _, rfl⟩ (by show callerA.units + 3 + 1 < cLine; decide)
  replace N₄ : News g L h₄ (cellsL L oN oP oT (tabObj ps) led) := fun p hp => N₄ p (.tail _ (.tail _ (List.mem_append_right _ (.tail _ (.tail _ hp)))))
  repeat' walk1
  exact ⟨rfl, h₄, _, rfl, ⟨F₄, ⟨_, _, _, N₄, hN, hP, hT⟩, hoff, S.big⟩⟩
end Mine
end
section
set_option Elab.async false
theorem Mine.off_LS9 : True ∧ True := by
  w_top off
  first | walk1 | skip
  all_goals (first | trivial | exact ⟨trivial, trivial⟩)
end
section
open PySem PySem.W PyProof.Rows PySem.Calls PySem.W.X
set_option Elab.async false
set_option maxRecDepth 100000
set_option maxHeartbeats 4000000
set_option pp.deepTerms false
set_option pp.deepTerms.threshold 6
namespace Mine
local macro_rules | `(tactic| walk_at "eval Name") => `(tactic| (k_here; refine nameX_L (by assumption) (by assumption) ?_))
local macro_rules | `(tactic| walk_at "call ref") => `(tactic| (k_here; with_reducible refine hold_call 78 ?_))
local macro_rules | `(tactic| walk_at $s:str) => if ["eval Lambda", "newList"].contains s.getString then `(tactic| (k_here; refine hold ?_)) else Lean.Macro.throwUnsupported
local macro_rules | `(tactic| walk_at "storeName") => `(tactic| (k_here; with_reducible refine hold_store "notes" ?_))
theorem st_notes {w : World} {s : Shared} {mean : ExcName → Option Value} {loose : List Str} {mg mb : Str → Option Value} {g : Heap} {L fa : Addr} {m : Str → Option Value} {vN vP vT : Option Value} {ps : Array Value} {led : List (Addr × Obj)}
   {E : Value → Shared → Prop} {fd : FuncData} {oc : Value} {od : Option Addr} {osl : Array (Option Value)} {st : Stmt}
   (X : (Mine.hd.heap_39 w.params).In g) (T : Top topProg loose mean mg mb g) (hfd : ((Mine.hd.heap_39 w.params)).lookup 88 = some ⟨oc, od, .func fd, osl⟩) (hst : (forBody fd)[4]? = some st)
   (S : LawSt g L s.heap m vN vP vT ps led) :
   wpAny (model PySem.Challenge.rw_dz0055_01.row.prog w) (callerA.deeper (lawEnv fd L fa)) (exec st (lawEnv fd L fa)) (fun f s' => f = .next ∧ ∃ h tk nl, s' = { s with heap := h, toks := tk } ∧ LawSt g L h m (some (.ref nl)) vP vT ps ((nl, W.listOf #[] 0) :: led) ∧ ∀ p ∈ led, p.1 ≠ nl) E s := by
  revert X hfd
  k_fill
  intro X hfd
  have e := hfd.symm.trans (show _ = some _ by k_is)
  injection e with e
  injection e with _ _ e _
  injection e with e
  subst e
  clear hfd
  dsimp only [forBody, bodyOf, List.drop, List.getElem?_cons_succ, List.getElem?_cons_zero] at hst
  injection hst with hst
  subst hst
  have F := S.fr
  obtain ⟨oN, oP, oT, N, hN, hP, hT⟩ := S.news
  have hoff := S.off
  show wpAny _ _ _ (fun f s' => Hold _) _ _
  repeat' walk1
  refine list_new (by show (0 : Nat) ≤ 100; decide) fun h₂ nl hl hn up => ?_
  obtain ⟨F₂, N₂⟩ := fin_ctx (big := []) F N up hn hl (fun _ h => nomatch h)
  have hoff₂ := offC_new (o := W.listOf #[] 0) (big := []) (h₂ := h₂) N hoff hn (fun _ h => nomatch h)
  replace N₂ : News g L h₂ (cellsL L oN oP oT (tabObj ps) ((nl, W.listOf #[] 0) :: ([] ++ led))) := fun p hp => N₂ p (cells_in p hp)
  have hne : ∀ p ∈ led, p.1 ≠ nl := fun p hp z => by
    have := (N _ (.tail _ (.tail _ (.tail _ (.tail _ hp))))).1
    rw [z] at this
    rw [this] at hn; cases hn
  clear F N
  repeat' walk1
  refine storeX_C F₂ N₂ (c := L + 1 + 1 + 1) (by rfl) (updN S.big hoff₂) hN (fun h₃ oN' F₃ N₃ hN' => ?_) rfl rfl
  repeat' walk1
  exact ⟨trivial, h₃, _, nl, rfl, ⟨F₃, ⟨_, _, _, N₃, hN', hP, hT⟩, hoff₂, S.big⟩, hne⟩
/-- where the lambda stands -/
noncomputable def lamPos (fd : FuncData) : Pos := match (forBody fd).drop 5 with
  | .Assign _ (.Call _ [_, .Lambda _ _ _ p, _] _ _) _ :: _ => p
  | _ => default
noncomputable def lamQual : Str := (Str.ofString "law" ++ ".<locals>.") ++ Str.ofString "<lambda>"
theorem upd85 {L : Addr} {oN oP oT o85 : Obj} {led : List (Addr × Obj)} (h85 : (88 : Nat) ≤ L) (ho : OffC L led) : UpdF 85 o85 (cellsL L oN oP oT o85 led) (fun o' => cellsL L oN oP oT o' led) :=
  .tail (Nat.ne_of_gt ((by omega : ∀ n : Nat, 88 ≤ n → 85 < n + 1 + 1 + 1) L h85)) (.tail (Nat.ne_of_gt ((by omega : ∀ n : Nat, 88 ≤ n → 85 < n + 1 + 1) L h85)) (.tail (Nat.ne_of_gt ((by omega : ∀ n : Nat, 88 ≤ n → 85 < n + 1) L h85)) (.head fun p hp => (ho p hp).2.2.2)))
/-- the table of the law's code: the lambda's code made, or not yet -/
noncomputable def LamTab (p : Pos) (qual : Str) (ps : Array Value) (led : List (Addr × Obj)) : Prop := ps = #[] ∨ ∃ (c' : Addr) (oc : Obj) (vs : Array Value) (t : Tok), ps = #[rawInt p.line, rawInt p.col, .ref c'] ∧ (c', oc) ∈ led ∧ oc.data = .fields vs ∧ vs[1]? = some (.str qual t)
theorem LamTab.mono {p : Pos} {qual : Str} {ps : Array Value} {led led' : List (Addr × Obj)} (x : LamTab p qual ps led) (h : ∀ q ∈ led, q ∈ led') : LamTab p qual ps led' := by
  rcases x with e | ⟨c', oc, vs, t, h1, h2, h3⟩
  · exact .inl e
  · exact .inr ⟨c', oc, vs, t, h1, h _ h2, h3⟩
theorem among_self (p : Pos) (c : Value) : codeAmong p [rawInt p.line, rawInt p.col, c] = some c := by simp [codeAmong, rawInt]
theorem lam_made {M : Model} {A : Around} {E : Value → Shared → Prop} {s : Shared} {g : Heap} {L a nl : Addr} {m mg mb : Str → Option Value} {cn : Str} {cs : Scope} {ccd : Value} {cl : List (Str × Addr)} {p : Program} {loose : List Str} {mean : ExcName → Option Value} {name qual : Str} {params : Arguments} {body : PySem.Expr} {scope : Scope} {ps : Array Value} {pos : Pos} {firstLine : Nat} {clos : List (Str × Addr)}
   {oN oP oT o₀ : Obj} {led : List (Addr × Obj)} {Q : Value → Shared → Prop}
   (F : Fr g L s.heap m) (N : News g L s.heap (cellsL L oN oP oT (tabObj ps) ((nl, o₀) :: led))) (T : Top p loose mean mg mb g) (C : CodeHd g 87 85) (hcd : ccd = .ref 87) (big : (88 : Nat) ≤ L) (hoff : OffC L ((nl, o₀) :: led)) (hnl : ∀ q ∈ led, q.1 ≠ nl)
   (htab : LamTab pos qual ps led) (hcl : closureFor scope (envX cn cs L a ccd cl) = pure clos)
   (h : ∀ f c' ctv h' tk ps' led'', Fr g L h' m → News g L h' (cellsL L oN oP oT (tabObj ps') ((nl, o₀) :: led'')) → OffC L ((nl, o₀) :: led'') → (∀ q ∈ led, q ∈ led'') → (∀ q ∈ led'', q.1 ≠ nl) → LamTab pos qual ps' led'' →
      (f, kla_obj name qual params body scope clos ((mg "__name__").getD .none) c' ctv) ∈ led'' → (∃ oc vs t, (c', oc) ∈ led'' ∧ oc.data = .fields vs ∧ vs[1]? = some (.str qual t)) → Q (.ref f) { s with heap := h', toks := tk }) :
   wpAny M A (makeFunction name qual params (.expr body) scope (envX cn cs L a ccd cl) [] [] [] pos firstLine) Q E s := by
  have off1 : ∀ b, (∀ q ∈ cellsL L oN oP oT (tabObj ps) ((nl, o₀) :: led), q.1 < b) → b ≠ L + 1 ∧ b ≠ L + 1 + 1 ∧ b ≠ L + 1 + 1 + 1 ∧ b ≠ 85 := fun b hb =>
    ⟨Nat.ne_of_gt (hb _ (.tail _ (.tail _ (.head _)))), Nat.ne_of_gt (hb _ (.tail _ (.head _))), Nat.ne_of_gt (hb _ (.head _)), Nat.ne_of_gt (hb _ (.tail _ (.tail _ (.tail _ (.head _)))))⟩
  have nl1 : ∀ b, (∀ q ∈ cellsL L oN oP oT (tabObj ps) ((nl, o₀) :: led), q.1 < b) → b ≠ nl := fun b hb => Nat.ne_of_gt (hb (nl, o₀) (.tail _ (.tail _ (.tail _ (.tail _ (.head _))))))
  rcases htab with rfl | ⟨c', oc, vs, t, rfl, hm, hd, hv⟩
  · refine kla_nest F N T C hcd (upd85 big hoff) trivial rfl hcl fun f c' oc vs t ctv h' tk F' N' hd hv l1 l2 => ?_
    have lf : ∀ q ∈ cellsL L oN oP oT (tabObj #[]) ((nl, o₀) :: led), q.1 < f := fun q hq => Nat.lt_trans (l1 q hq) l2
    refine h f c' ctv h' tk _ ((f, kla_obj name qual params body scope clos ((mg "__name__").getD .none) c' ctv) :: (c', oc) :: led) F' (fun q hq => N' q ?_) (fun q hq => ?_) (fun q hq => .tail _ (.tail _ hq)) (fun q hq => ?_) (.inr ⟨c', oc, vs, t, rfl, .tail _ (.head _), hd, hv⟩) (.head _) ⟨oc, vs, t, .tail _ (.head _), hd, hv⟩
    · refine mem_elim hq (by first | exact inl0 | exact inl1 | exact inl2 | exact inl3 | exact inl4 | exact inl5 | exact inl6 | exact inl7) fun hq => ?_
      refine mem_elim hq (by first | exact inl0 | exact inl1 | exact inl2 | exact inl3 | exact inl4 | exact inl5 | exact inl6 | exact inl7) fun hq => ?_
      refine mem_elim hq (by first | exact inl0 | exact inl1 | exact inl2 | exact inl3 | exact inl4 | exact inl5 | exact inl6 | exact inl7) fun hq => ?_
      refine mem_elim hq (by first | exact inl0 | exact inl1 | exact inl2 | exact inl3 | exact inl4 | exact inl5 | exact inl6 | exact inl7) fun hq => ?_
      refine mem_elim hq (by first | exact inl0 | exact inl1 | exact inl2 | exact inl3 | exact inl4 | exact inl5 | exact inl6 | exact inl7) fun hq => ?_
      refine mem_elim hq (by first | exact inl0 | exact inl1 | exact inl2 | exact inl3 | exact inl4 | exact inl5 | exact inl6 | exact inl7) fun hq => ?_
      refine mem_elim hq (by first | exact inl0 | exact inl1 | exact inl2 | exact inl3 | exact inl4 | exact inl5 | exact inl6 | exact inl7) fun hq => ?_
      exact .tail _ (.tail _ (.tail _ (.tail _ (.tail _ (.tail _ (.tail _ hq))))))
    · refine mem_elim hq ?_ fun hq => ?_
      · exact hoff _ (.head _)
      refine mem_elim hq ?_ fun hq => ?_
      · exact off1 _ lf
      refine mem_elim hq ?_ fun hq => ?_
      · exact off1 _ l1
      · exact hoff _ (.tail _ hq)
    · refine mem_elim hq ?_ fun hq => ?_
      · exact nl1 _ lf
      refine mem_elim hq ?_ fun hq => ?_
      · exact nl1 _ l1
      · exact hnl _ hq
  · refine kla_hit F N T C hcd (ps := #[rawInt pos.line, rawInt pos.col, .ref c']) (c' := c') (.tail _ (.tail _ (.tail _ (.head _)))) trivial (among_self _ _) hcl fun f ctv h' tk F' N' l1 => ?_
    refine h f c' ctv h' tk _ ((f, kla_obj name qual params body scope clos ((mg "__name__").getD .none) c' ctv) :: led) F' (fun q hq => N' q ?_) (fun q hq => ?_) (fun q hq => .tail _ hq) (fun q hq => ?_) (.inr ⟨c', oc, vs, t, rfl, .tail _ hm, hd, hv⟩) (.head _) ⟨oc, vs, t, .tail _ hm, hd, hv⟩
    · refine mem_elim hq (by first | exact inl0 | exact inl1 | exact inl2 | exact inl3 | exact inl4 | exact inl5 | exact inl6 | exact inl7) fun hq => ?_
      refine mem_elim hq (by first | exact inl0 | exact inl1 | exact inl2 | exact inl3 | exact inl4 | exact inl5 | exact inl6 | exact inl7) fun hq => ?_
      refine mem_elim hq (by first | exact inl0 | exact inl1 | exact inl2 | exact inl3 | exact inl4 | exact inl5 | exact inl6 | exact inl7) fun hq => ?_
      refine mem_elim hq (by first | exact inl0 | exact inl1 | exact inl2 | exact inl3 | exact inl4 | exact inl5 | exact inl6 | exact inl7) fun hq => ?_
      refine mem_elim hq (by first | exact inl0 | exact inl1 | exact inl2 | exact inl3 | exact inl4 | exact inl5 | exact inl6 | exact inl7) fun hq => ?_
      refine mem_elim hq (by first | exact inl0 | exact inl1 | exact inl2 | exact inl3 | exact inl4 | exact inl5 | exact inl6 | exact inl7) fun hq => ?_
      exact .tail _ (.tail _ (.tail _ (.tail _ (.tail _ (.tail _ hq)))))
    · refine mem_elim hq ?_ fun hq => ?_
      · exact hoff _ (.head _)
      refine mem_elim hq ?_ fun hq => ?_
      · exact off1 _ l1
      · exact hoff _ (.tail _ hq)
    · refine mem_elim hq ?_ fun hq => ?_
      · exact nl1 _ l1
      · exact hnl _ hq
inductive HeardPost2 (g : Heap) (L : Addr) (vN vP vT : Option Value) (p : Pos) (nl : Addr) (led : List (Addr × Obj)) (m : Str → Option Value) (xs : Array Value) (fin1 : List Nat) (fin2 : String) (fin3 : Nat) (fin4 : List Nat) (s s' : Shared) : Prop
  | mk : ∀ h gens' tk m' ps no hl D D2 hv ep nD n2 te led', (s' = { s with heap := h, gens := gens', toks := tk })
      → ((AllBare s.gens → AllBare gens'))
      → (LawSt g L h m' vN vP vT ps led')
      → ((∀ p ∈ led, p ∈ led'))
      → ((nl, no) ∈ led')
      → (NotesOk no fin4)
      → (LamTab p lamQual ps led')
      → ((hl, W.listOf hv ep) ∈ led')
      → ((D, W.listOf #[] nD) ∈ led')
      → ((D2, W.listOf (List.drop fin3 xs.toList).toArray n2) ∈ led')
      → (Told xs hv fin1)
      → (m' (Str.ofString "heard") = some (.ref hl))
      → (m' (Str.ofString "end") = some (.str (Str.ofString fin2) te))
      → (m' (Str.ofString "after") = some (.ref D))
      → (m' (Str.ofString "left") = some (.ref D2))
      → (∀ y, y ≠ Str.ofString "heard" → y ≠ Str.ofString "end" → y ≠ Str.ofString "after" → y ≠ Str.ofString "left" → m' y = m y) → HeardPost2 g L vN vP vT p nl led m xs fin1 fin2 fin3 fin4 s s'
theorem st_heard2 {w : World} {s : Shared} {mean : ExcName → Option Value} {loose : List Str} {mg mb : Str → Option Value} {g : Heap} {L fa tl pl tkl nl : Addr} {m : Str → Option Value} {tv pv tks ps : Array Value} {ns : List Int} {n₁ n₂ n₃ : Nat} {led : List (Addr × Obj)}
   {E : Value → Shared → Prop} {fd : FuncData} {oc : Value} {od : Option Addr} {osl : Array (Option Value)} {st : Stmt} {takes : Nat → Nat}
   (X : (Mine.hd.heap_39 w.params).In g) (T : Top topProg loose mean mg mb g) (CH : CodeHd g 87 85) (hfd : ((Mine.hd.heap_39 w.params)).lookup 88 = some ⟨oc, od, .func fd, osl⟩) (hst : (forBody fd)[5]? = some st)
   (S : LawSt g L s.heap m (some (.ref nl)) (some (.ref pl)) (some (.ref tl)) ps ((nl, W.listOf #[] 0) :: led)) (hnl : ∀ p ∈ led, p.1 ≠ nl) (hpl : (pl, W.listOf pv n₂) ∈ led) (htk : (tkl, W.listOf tks n₃) ∈ led) (hlen : ns.length ≤ 50) (hth : Th ns tv led) (hplc : Pl tv pv led) (htab : LamTab (lamPos fd) lamQual ps led)
   (hm2 : m (Str.ofString "takes") = some (.ref tkl)) (hts : ∀ j, j < ns.length → ∃ t, tks[j]? = some (.int (takes j) t) ∧ takes j ≤ 2) :
   wpAny (model PySem.Challenge.rw_dz0055_01.row.prog w) (callerA.deeper (lawEnv fd L fa)) (exec st (lawEnv fd L fa)) (fun f s' => f = .next ∧
     HeardPost2 g L (some (.ref nl)) (some (.ref pl)) (some (.ref tl)) (lamPos fd) nl led m pv (heardRun (step2 (ns.map thingK)) takes pv.size 60 (fun _ => false, []) 0 []).1 (heardRun (step2 (ns.map thingK)) takes pv.size 60 (fun _ => false, []) 0 []).2.1 (heardRun (step2 (ns.map thingK)) takes pv.size 60 (fun _ => false, []) 0 []).2.2.1 (heardRun (step2 (ns.map thingK)) takes pv.size 60 (fun _ => false, []) 0 []).2.2.2.2 s s') E s := by
  have hfd₀ := hfd
  revert X hfd hfd₀
  k_fill
  intro X hfd hfd₀
  have e := hfd.symm.trans (show _ = some _ by k_is)
  injection e with e
  injection e with _ _ e _
  injection e with e
  subst e
  clear hfd
  dsimp only [forBody, bodyOf, List.drop, List.getElem?_cons_succ, List.getElem?_cons_zero] at hst
  injection hst with hst
  subst hst
  have F := S.fr
  obtain ⟨oN, oP, oT, N, hN, hP, hT⟩ := S.news
  have hoff := S.off
  repeat' walk1
  refine kla_eval rfl (lam_made (name := Str.ofString "<lambda>") (clos := [(Str.ofString "notes", L + 1 + 1 + 1)]) F N T CH rfl S.big hoff hnl htab (by with_unfolding_all rfl) fun f c' ctv h₂ tk₂ ps' led'' F₂ N₂ hoff₂ sub hnl₂ htab₂ hf hrec => ?_)
  clear F N
  repeat' walk1
  obtain ⟨oL, es₀, ep₀, hoL, hdL, hnsL⟩ := F₂.ns
  have inC : ∀ {x : Addr × Obj}, x ∈ led'' → x ∈ cellsL L oN oP oT (tabObj ps') ((nl, W.listOf #[] 0) :: led'') := fun h => .tail _ (.tail _ (.tail _ (.tail _ (.tail _ h))))
  have nlC : (nl, W.listOf #[] 0) ∈ cellsL L oN oP oT (tabObj ps') ((nl, W.listOf #[] 0) :: led'') := .tail _ (.tail _ (.tail _ (.tail _ (.head _))))
  have nlL : nl ≠ L := (N₂ _ nlC).2.1
  have hget : ∀ {b : Addr} {o : Obj}, h₂.get? b = some o → b ≠ L → b ≠ nl → (hideAll h₂ [L, nl]).get? b = some o := fun e h1 h2 => hideAll_get _ e fun z => by
    rcases List.mem_cons.mp z with z | z
    · exact h1 z
    · exact h2 (List.mem_singleton.mp z)
  have hat : ∀ p ∈ led'', (hideAll h₂ [L, nl]).get? p.1 = some p.2 := fun p hp => hget (N₂ _ (inC hp)).1 (N₂ _ (inC hp)).2.1 (hnl₂ p hp)
  have st : g.StaysIn (hideAll h₂ [L, nl]) := fun b o e => hget (F₂.keep b o e) (fun z => by
      have := Heap.lt_size e
      rw [z] at this
      exact Nat.lt_irrefl _ (Nat.lt_of_lt_of_le this F₂.above)) (fun z => by
      have := (N₂ _ nlC).2.2
      rw [z, this] at e; cases e)
  have hsz : tv.size = ns.length := hth.1
  have hszp : pv.size = ns.length := hplc.1.trans hsz
  have hcell : (hideAll h₂ [L, nl]).get? (L + 1 + 1 + 1) = some oN := hget (N₂ _ (.head _)).1 (N₂ _ (.head _)).2.1 (hoff₂ _ (.head _)).2.2.1.symm
  obtain ⟨oc, vs, t, hoc, hdc, hvc⟩ := hrec
  have hpart : ∀ (j : Nat) (v : Value) (q : Option NK), pv[j]? = some v → (ns.map thingK)[j]? = some q → ∃ a tj tv, v = .ref a ∧ (hideAll h₂ [L, nl]).IsList a #[.int (j : Nat) tj, tv] ∧ ThingIs PySem.Challenge.rw_dz0055_01.row.prog w (hideAll h₂ [L, nl]) q tv ∧ (q = none → ∃ a items, tv = .ref a ∧ (hideAll h₂ [L, nl]).IsList a items) := fun j v q hv hq => by
    obtain ⟨a, tj, v', n, rfl, hv', hal⟩ := hplc.2 j v hv
    obtain ⟨x, l, hx, hT', hl⟩ := hth.2 j v' hv'
    rw [List.getElem?_map, hx] at hq
    obtain rfl : thingK x = q := Option.some.inj hq
    obtain ⟨r1, r2⟩ := thing_is (prog := PySem.Challenge.rw_dz0055_01.row.prog) (w := w) hT' fun p hp => hat p (sub p (hl p hp))
    exact ⟨a, tj, v', rfl, ⟨_, hat _ (sub _ hal), rfl, _, rfl⟩, r1, r2⟩
  refine wpAny_call (heard2 (g := hideAll h₂ [L, nl]) (fs := [L]) (led := [(L, oL)]) (ks := ns.map thingK) (nl := nl) (no := W.listOf #[] 0) (X.keeps st) (T.keeps st) (by show callerA.depth + 1 < 350; decide) (by show callerA.units + 3 < 3000; decide) (by omega) (by rw [List.length_map, hszp])
    (hat _ hf) rfl (key_fn (X.keeps st) (T.keeps st) hfd₀ rfl (hat _ hf) ⟨c', oc, vs, t, rfl, hat _ hoc, hdc, hvc⟩ hcell hN hpart) ⟨#[], 0, rfl, Nat.zero_le _, .nil⟩ (fun r s' hD => ?_) ?_ ?_ ?_ ⟨_, hat _ (sub _ hpl), rfl, _, rfl⟩ ⟨_, hat _ (sub _ htk), rfl, _, rfl⟩ (fun j hj => hts j (by omega)))
  · obtain ⟨h', tk, D0, hl, D, D2, hv, ep, nD, n2, te, ow, led', rfl, rfl, st', hnew, htold, hrel, hhas, no, rfl, hno⟩ := hD
    obtain ⟨sl, hsl⟩ := (hrel.2 (L, oL) (.head _)).2
    have hL' := hhas _ (List.mem_append_right _ hsl)
    have hnl' := hhas (nl, no) (List.mem_append_left _ (.head _))
    have kp : ∀ b o, b ≠ L → b ≠ nl → h₂.get? b = some o → h'.get? b = some o := fun b o h1 h2 e => st' b o (hget e h1 h2)
    have F₁ : Fr g L h' m := ⟨⟨_, es₀, ep₀, hL', hdL, hnsL⟩, fun b o e => st' b o (st b o e), F₂.above⟩
    have cne : ∀ b, (b = L + 1 ∨ b = L + 1 + 1 ∨ b = L + 1 + 1 + 1 ∨ b = 85) → b ≠ nl := fun b hb => by
      obtain ⟨k1, k2, k3, k4⟩ := hoff₂ _ (.head _)
      rcases hb with rfl | rfl | rfl | rfl
      · exact k1.symm
      · exact k2.symm
      · exact k3.symm
      · exact k4.symm
    have N₁ : News g L h' (cellsL L oN oP oT (tabObj ps') ((nl, no) :: led'')) := fun p hp => by
      have old : p ∈ cellsL L oN oP oT (tabObj ps') ((nl, W.listOf #[] 0) :: led'') → p.1 ≠ nl → h'.get? p.1 = some p.2 ∧ p.1 ≠ L ∧ g.get? p.1 = none := fun hp hn => ⟨kp _ _ (N₂ p hp).2.1 hn (N₂ p hp).1, (N₂ p hp).2⟩
      rcases List.mem_cons.mp hp with rfl | hp
      · exact old (.head _) (cne _ (.inr (.inr (.inl rfl))))
      rcases List.mem_cons.mp hp with rfl | hp
      · exact old (.tail _ (.head _)) (cne _ (.inr (.inl rfl)))
      rcases List.mem_cons.mp hp with rfl | hp
      · exact old (.tail _ (.tail _ (.head _))) (cne _ (.inl rfl))
      rcases List.mem_cons.mp hp with rfl | hp
      · exact old (.tail _ (.tail _ (.tail _ (.head _)))) (cne _ (.inr (.inr (.inr rfl))))
      refine mem_elim hp ?_ fun hp => ?_
      · exact ⟨hnl', (N₂ _ nlC).2⟩
      · exact old (inC hp) (hnl₂ p hp)
    have new : ∀ p ∈ [(D0, W.listOf #[.ref hl, .str (Str.ofString (heardRun (step2 (ns.map thingK)) takes pv.size 60 (fun _ => false, []) 0 []).2.1) te, .ref D, .ref D2] 0), (D2, W.listOf (List.drop (heardRun (step2 (ns.map thingK)) takes pv.size 60 (fun _ => false, []) 0 []).2.2.1 pv.toList).toArray n2), (D, W.listOf #[] nD), (hl, W.listOf hv ep)], h'.get? p.1 = some p.2 ∧ h₂.get? p.1 = none := fun p hp => by
      obtain ⟨q1, q2, q3⟩ := hnew p hp
      refine ⟨q1, ?_⟩
      cases q : h₂.get? p.1 with
      | none => rfl
      | some o =>
        by_cases hpn : p.1 = nl
        · exact absurd hpn (q3.2 (nl, no) (.head _))
        · have := hget q (q3.1 (L, oL) (.head _)) hpn
          rw [this] at q2; cases q2
    have hFr : Fresh h₂ h' [(D2, W.listOf (List.drop (heardRun (step2 (ns.map thingK)) takes pv.size 60 (fun _ => false, []) 0 []).2.2.1 pv.toList).toArray n2), (D, W.listOf #[] nD), (hl, W.listOf hv ep)] := fun p hp => new p (.tail _ hp)
    have hoff₃ := offC_new (o := W.listOf #[.ref hl, .str (Str.ofString (heardRun (step2 (ns.map thingK)) takes pv.size 60 (fun _ => false, []) 0 []).2.1) te, .ref D, .ref D2] 0) N₂ hoff₂ (new _ (.head _)).2 hFr
    have N₃ : News g L h' (cellsL L oN oP oT (tabObj ps') ((D0, W.listOf #[.ref hl, .str (Str.ofString (heardRun (step2 (ns.map thingK)) takes pv.size 60 (fun _ => false, []) 0 []).2.1) te, .ref D, .ref D2] 0) :: ([(D2, W.listOf (List.drop (heardRun (step2 (ns.map thingK)) takes pv.size 60 (fun _ => false, []) 0 []).2.2.1 pv.toList).toArray n2), (D, W.listOf #[] nD), (hl, W.listOf hv ep)] ++ ((nl, no) :: led'')))) := fun p hp => by
      have hp := cells_in p hp
      refine mem_elim hp ?_ fun hp => ?_
      · exact ⟨(new _ (.head _)).1, fr_off F₂ (new _ (.head _)).2⟩
      rcases List.mem_append.mp hp with hp | hp
      · exact ⟨(new p (.tail _ hp)).1, fr_off F₂ (new p (.tail _ hp)).2⟩
      · exact N₁ p hp
    have hoff₄ : OffC L ((D0, W.listOf #[.ref hl, .str (Str.ofString (heardRun (step2 (ns.map thingK)) takes pv.size 60 (fun _ => false, []) 0 []).2.1) te, .ref D, .ref D2] 0) :: ([(D2, W.listOf (List.drop (heardRun (step2 (ns.map thingK)) takes pv.size 60 (fun _ => false, []) 0 []).2.2.1 pv.toList).toArray n2), (D, W.listOf #[] nD), (hl, W.listOf hv ep)] ++ ((nl, no) :: led''))) := fun p hp => by
      refine mem_elim hp ?_ fun hp => ?_
      · exact hoff₃ _ (.head _)
      rcases List.mem_append.mp hp with hp | hp
      · exact hoff₃ _ (.tail _ (List.mem_append_left _ hp))
      refine mem_elim hp ?_ fun hp => ?_
      · exact hoff₂ (nl, W.listOf #[] 0) (.head _)
      · exact hoff₂ _ (.tail _ hp)
    clear F₂ N₂ N₁
    show wpAny _ _ (assign _ _ (Value.ref D0)) (fun _ s₁ => Hold _) _ _
    repeat' walk1
    rename_i h₄ F₄ N₄
    refine ⟨trivial, h₄, _, _, _, ps', no, hl, D, D2, hv, ep, nD, n2, te, _, rfl, fun z => z.push rfl, ⟨F₄, ⟨_, _, _, N₄, hN, hP, hT⟩, hoff₄, S.big⟩, fun p hp => .tail _ (List.mem_append_right _ (.tail _ (sub p hp))), .tail _ (List.mem_append_right _ (.head _)), hno, htab₂.mono (fun p hp => .tail _ (List.mem_append_right _ (.tail _ hp))), .tail _ (.tail _ (.tail _ (.head _))), .tail _ (.tail _ (.head _)), .tail _ (.head _), htold, rfl, rfl, rfl, rfl, fun y h1 h2 h3 h4 => ?_⟩
    simp only [if_neg h1, if_neg h2, if_neg h3, if_neg h4]
  · intro a ha
    refine mem_one ha ?_
    exact ⟨oL, .head _, fun vs q => by rw [hdL] at q; cases q⟩
  · intro q hq
    refine mem_one hq ?_
    exact nlL
  · refine ⟨fun b o e => of_hideAll _ e, Nat.le_of_eq (hideAll_size _ _), fun p hp => ?_, fun a ha => ?_, ⟨_, rfl, fun x hx => ?_⟩, rfl⟩
    · refine mem_elim hp ?_ fun hp => ?_
      · exact ⟨(N₂ _ nlC).1, hideAll_none _ (.tail _ (.head _))⟩
      refine mem_one hp ?_
      exact ⟨hoL, hideAll_none _ (.head _)⟩
    · refine mem_one ha ?_
      exact ⟨oL, .tail _ (.head _), fun vs q => by rw [hdL] at q; cases q⟩
    · refine mem_one hx ?_
      exact ⟨(fun z => nomatch z), L, rfl, .head _⟩
end Mine
end
section
set_option Elab.async false
theorem Mine.off_LS10 : True ∧ True := by
  w_top off
  first | walk1 | skip
  all_goals (first | trivial | exact ⟨trivial, trivial⟩)
end
section
open PySem PySem.W PyProof.Rows PySem.Calls PySem.W.X
set_option Elab.async false
set_option maxRecDepth 100000
set_option maxHeartbeats 4000000
set_option pp.deepTerms false
set_option pp.deepTerms.threshold 6
namespace Mine
local macro_rules | `(tactic| walk_at "eval Name") => `(tactic| (k_here; refine nameX_L (by assumption) (by assumption) ?_))
local macro_rules | `(tactic| walk_at $s:str) => if ["compareOp NotEq ref ref", "eval ListComp", "subscriptTail"].contains s.getString then `(tactic| (k_here; refine hold ?_)) else Lean.Macro.throwUnsupported
local macro_rules | `(tactic| walk_at "eval Subscript") => `(tactic| (k_here; with_reducible refine hold_slice ?_))
theorem st_cmp3 {w : World} {s : Shared} {mean : ExcName → Option Value} {loose : List Str} {mg mb : Str → Option Value} {g : Heap} {L fa pl hl tol al nl D D2 : Addr} {m : Str → Option Value} {vT : Option Value} {pv hv tov aov ps : Array Value} {n₁ n₂ n₃ n₄ n₅ n₆ : Nat} {led : List (Addr × Obj)} {i p : Nat} {wd : String} {t1 t2 t3 : Tok} {t asked : List Nat} {no : Obj}
   {E : Value → Shared → Prop} {fd : FuncData} {oc : Value} {od : Option Addr} {osl : Array (Option Value)} {st : Stmt}
   (X : (Mine.hd.heap_39 w.params).In g) (T : Top topProg loose mean mg mb g) (hfd : ((Mine.hd.heap_39 w.params)).lookup 88 = some ⟨oc, od, .func fd, osl⟩) (hst : (forBody fd)[7]? = some st)
   (S : LawSt g L s.heap m (some (.ref nl)) (some (.ref pl)) vT ps led) (hpl : (pl, W.listOf pv n₁) ∈ led) (hD : (D, W.listOf #[] n₂) ∈ led) (hD2 : (D2, W.listOf (List.drop i pv.toList).toArray n₃) ∈ led) (hlen : pv.size ≤ 50) (hp : p ≤ 100)
   (hhl : (hl, W.listOf hv n₄) ∈ led) (htol : (tol, W.listOf tov n₅) ∈ led) (hal : (al, W.listOf aov n₆) ∈ led) (hnl : (nl, no) ∈ led)
   (hdrop : List.drop i pv.toList = List.drop p pv.toList) (htold : Told pv hv t) (hnum : NumsAre tov.toList t) (ht50 : t.length ≤ 100) (hno : NotesOk no asked) (hask : NumsAre aov.toList asked)
   (hm1 : m (Str.ofString "end") = some (.str (Str.ofString wd) t1)) (hm2 : m (Str.ofString "after") = some (.ref D)) (hm3 : m (Str.ofString "left") = some (.ref D2)) (hm4 : m (Str.ofString "due") = some (.str (Str.ofString wd) t2)) (hm5 : m (Str.ofString "place") = some (.int (p : Nat) t3))
   (hm6 : m (Str.ofString "heard") = some (.ref hl)) (hm7 : m (Str.ofString "told") = some (.ref tol)) (hm8 : m (Str.ofString "asked") = some (.ref al)) :
   wpAny (model PySem.Challenge.rw_dz0055_01.row.prog w) (callerA.deeper (lawEnv fd L fa)) (exec st (lawEnv fd L fa)) (fun f s' => f = .next ∧ ∃ h tk, s' = { s with heap := h, toks := tk } ∧ LawSt g L h m (some (.ref nl)) (some (.ref pl)) vT ps led) E s := by
  revert X hfd
  k_fill
  intro X hfd
  have e := hfd.symm.trans (show _ = some _ by k_is)
  injection e with e
  injection e with _ _ e _
  injection e with e
  subst e
  clear hfd
  dsimp only [forBody, bodyOf, List.drop, List.getElem?_cons_succ, List.getElem?_cons_zero] at hst
  injection hst with hst
  subst hst
  have F := S.fr
  obtain ⟨oN, oP, oT, N, hN, hP, hT⟩ := S.news
  have hoff := S.off
  have mem : ∀ {x : Addr × Obj}, x ∈ led → x ∈ cellsL L oN oP oT (tabObj ps) led := fun h => .tail _ (.tail _ (.tail _ (.tail _ h)))
  have hhv : hv.size = t.length := by have := congrArg List.length htold; simpa using this
  have htov : tov.size = t.length := by have := nums_len hnum; simpa using this
  show wpAny _ _ _ (fun f s' => Hold _) _ _
  repeat' walk1
  rename_i l1 h₁ F₁ N₁ _
  refine ListComp_G (hs := by intro _; rfl) (by with_unfolding_all rfl) (by decide) (by rfl) (by decide) (by rfl) ?_
  repeat' walk1
  refine ⟨tol, tov, fun i y l => l = [] ∧ hv[i]? = some y, rfl, rfl, ⟨_, (N₁ _ (.tail _ (mem htol))).1, rfl, _, rfl⟩, (by rw [sizeLine_eq]; omega), ?_, ?_⟩
  · intro i v C m₂ h₃ tk₃ E' hv' hnC hmx hC hk
    obtain ⟨j, tj, hj, rfl⟩ := nums_get hnum i v (by simpa using hv')
    obtain ⟨v, hvi, hvj⟩ := told_of htold hj
    obtain ⟨oC, hoC, F₃, N₃⟩ := comp_ctx F₁ N₁ hk hnC hC
    have hjs : j < pv.size := (Array.getElem?_eq_some_iff.mp hvj).1
    clear F₁ N₁
    repeat' walk1
    refine PyProof.Rows.item_list (items := pv) (x := v) ⟨_, (N₃ _ (.tail _ (.tail _ (mem hpl)))).1, rfl, _, rfl⟩ (by omega) (by omega) (by simpa using hvj) ?_
    exact ⟨h₃, _, [], rfl, fun _ _ e => e, ⟨rfl, hvi⟩, fun _ h => nomatch h⟩
  · intro Dc h₂ tk₂ cv big nD hDc hlD hM hF hA hk
    obtain ⟨F₂, N₂⟩ := fin_ctx (big := []) F₁ N₁ hk hDc hlD (fun _ h => nomatch h)
    clear F₁ N₁
    repeat' walk1
    refine slice_rule (ht := by intro _ _; rfl) ?_
    repeat' walk1
    rename_i l2 h₃ F₃ N₃ _
    have N₃' : News g L h₃ ((l2, W.listOf #[] 0) :: (Dc, W.listOf cv nD) :: (l1, _) :: cellsL L oN oP oT (tabObj ps) led) := N₃
    clear N₃
    refine ⟨pl, pv, (p : Nat), t3, rfl, rfl, ⟨_, (N₃' _ (.tail _ (.tail _ (.tail _ (mem hpl))))).1, rfl, _, rfl⟩, (by rw [sizeLine_eq]; omega), fun h₄ b hb hbn up => ?_⟩
    rw [slicePick_from'] at hb
    obtain ⟨F₄, N₄⟩ := fin_ctx (big := []) F₃ N₃' up hbn hb (fun _ h => nomatch h)
    clear F₃ N₃'
    repeat' walk1
    rename_i l3 h₅ F₅ N₅ _
    have inl : ∀ {x : Addr × Obj}, x ∈ led → h₅.get? x.1 = some x.2 := fun hx => (N₅ _ (.tail _ (.tail _ (List.mem_append_right _ (.tail _ (.tail _ (.tail _ (mem hx)))))))).1
    rw [hdrop] at hD2
    refine ne_lists (xs := #[.ref hl, .str (Str.ofString wd) t1, .ref D, .ref D2]) (ys := #[.ref Dc, .str (Str.ofString wd) t2, .ref l2, .ref b]) ⟨_, (N₅ _ (.tail _ (.tail _ (List.mem_append_right _ (.tail _ (.tail _ (.head _))))))).1, rfl, _, rfl⟩ ⟨_, (N₅ _ (.head _)).1, rfl, _, rfl⟩ rfl (by show callerA.units + 3 < cLine; decide) (fun j j1 j2 => ?_) _ _ _ _ ?_
    · have j1 : j < 4 := j1
      rcases (lt4 (by omega : j < 4)) with rfl | rfl | rfl | rfl
      · refine eq_lists (xs := hv) (ys := cv) ⟨_, inl hhl, rfl, _, rfl⟩ ⟨_, (N₅ _ (.tail _ (.tail _ (List.mem_append_right _ (.tail _ (.head _)))))).1, rfl, _, rfl⟩ (by rw [hM.1, hhv, htov]) (by show callerA.units + 3 + 1 < cLine; decide) fun k k1 k2 => ?_
        obtain ⟨_, ⟨_, e⟩, _⟩ := hM.2 k cv[k] (Array.getElem?_eq_getElem k2)
        rw [Array.getElem?_eq_getElem k1] at e
        rw [Option.some.inj e]
        exact SeqAt.EqAt.same _
      · exact str_same _ _ _
      · exact eq_same (xs := #[]) ⟨_, inl hD, rfl, _, rfl⟩ ⟨_, (N₅ _ (.tail _ (.tail _ (List.mem_append_right _ (.head _))))).1, rfl, _, rfl⟩ (by show callerA.units + 3 + 1 < cLine; decide)
      · exact eq_same (xs := (List.drop p pv.toList).toArray) ⟨_, inl hD2, rfl, _, rfl⟩ ⟨_, (N₅ _ (.tail _ (.head _))).1, rfl, _, rfl⟩ (by show callerA.units + 3 + 1 < cLine; decide)
    replace N₅ : News g L h₅ (cellsL L oN oP oT (tabObj ps) led) := fun p hp => N₅ p (.tail _ (.tail _ (List.mem_append_right _ (.tail _ (.tail _ (.tail _ hp))))))
    repeat' walk1
    obtain ⟨items, nn, rfl, hsz9, hnn⟩ := hno
    have e1 : items.size = asked.length := by have := nums_len hnn; simpa using this
    have e2 : aov.size = asked.length := by have := nums_len hask; simpa using this
    refine ne_lists (xs := items) (ys := aov) ⟨_, inl hnl, rfl, _, rfl⟩ ⟨_, inl hal, rfl, _, rfl⟩ (by rw [e1, e2]) (by show callerA.units + 3 < cLine; decide) (fun j j1 j2 => ?_) _ _ _ _ ?_
    · obtain ⟨k, tk, h1, h2⟩ := nums_get hnn j items[j] (by simp)
      obtain ⟨k', tk', h3, h4⟩ := nums_get hask j aov[j] (by simp)
      obtain rfl : k' = k := Option.some.inj (h3.symm.trans h1)
      rw [h2, h4]
      exact int_same _ _ _
    repeat' walk1
    exact ⟨rfl, h₅, _, rfl, ⟨F₅, ⟨_, _, _, N₅, hN, hP, hT⟩, hoff, S.big⟩⟩
end Mine
end
section
open PySem PySem.W PyProof.Rows PySem.Calls PySem.W.X
set_option Elab.async false
set_option maxRecDepth 100000
set_option maxHeartbeats 1000000
namespace Mine
theorem due_bound {mks : List Mk} {takes : Nat → Nat} (ht : ∀ j, j < mks.length → takes j ≤ 2) : ∀ (f place : Nat) (told asked : List Nat), told.length ≤ place → place ≤ mks.length + 2 →
    (dueRun mks takes f place told asked).1.length ≤ (dueRun mks takes f place told asked).2.2.2 ∧ (dueRun mks takes f place told asked).2.2.2 ≤ mks.length + 3
  | 0, place, told, asked, h1, h2 => ⟨h1, by show place ≤ _; omega⟩
  | f + 1, place, told, asked, h1, h2 => by
    rw [dueRun]
    cases hm : mks[place]? with
    | none => exact ⟨h1, by show place ≤ _; omega⟩
    | some m =>
      have hp : place < mks.length := (List.getElem?_eq_some_iff.mp hm).1
      cases m with
      | inl x => exact ⟨by show told.length ≤ place + 1; omega, by show place + 1 ≤ _; omega⟩
      | inr k =>
        dsimp only
        split
        · exact due_bound ht f (place + 1) told _ (by omega) (by omega)
        · have := ht told.length (by omega)
          exact due_bound ht f _ _ _ (by rw [List.length_append, List.length_singleton]; omega) (by omega)
theorem drop_min {α : Type} {l : List α} {n p : Nat} (h : l.length = n) : l.drop (min n p) = l.drop p := by
  rcases Nat.le_total p n with h1 | h1
  · rw [Nat.min_eq_right h1]
  · rw [Nat.min_eq_left h1, List.drop_eq_nil_of_le (by omega), List.drop_eq_nil_of_le (by omega)]
noncomputable def Fin1 (ns : List Int) (takes : Nat → Nat) := dueRun (ns.map fun x => mkU (thingK x)) takes 60 0 [] []
noncomputable def Fin2 (ns : List Int) (takes : Nat → Nat) := dueRun (ns.map fun x => mkK (thingK x)) takes 60 0 [] []
theorem fin1 {ns : List Int} {takes : Nat → Nat} {n : Nat} (hn : n = ns.length) (hlen : ns.length ≤ 50) :
    (heardRun (step1 (ns.map thingK)) takes n 60 (fun _ => false) 0 []).1 = (Fin1 ns takes).1 ∧ (heardRun (step1 (ns.map thingK)) takes n 60 (fun _ => false) 0 []).2.1 = (Fin1 ns takes).2.2.1 ∧
    (heardRun (step1 (ns.map thingK)) takes n 60 (fun _ => false) 0 []).2.2.1 = min n (Fin1 ns takes).2.2.2 := by
  subst hn
  have := run1 (ks := ns.map thingK) (takes := takes) 60 60 (fun _ => false) 0 [] [] (by rw [List.length_map]; omega) (by rw [List.length_map]; omega) (by omega) (fun k => ⟨fun h => (by cases h), fun ⟨j, h, _⟩ => (by cases h)⟩)
  rw [List.length_map, Nat.min_zero, List.map_map] at this
  exact this
theorem fin2 {ns : List Int} {takes : Nat → Nat} {n : Nat} (hn : n = ns.length) (hlen : ns.length ≤ 50) :
    (heardRun (step2 (ns.map thingK)) takes n 60 (fun _ => false, []) 0 []).1 = (Fin2 ns takes).1 ∧ (heardRun (step2 (ns.map thingK)) takes n 60 (fun _ => false, []) 0 []).2.1 = (Fin2 ns takes).2.2.1 ∧
    (heardRun (step2 (ns.map thingK)) takes n 60 (fun _ => false, []) 0 []).2.2.1 = min n (Fin2 ns takes).2.2.2 ∧ (heardRun (step2 (ns.map thingK)) takes n 60 (fun _ => false, []) 0 []).2.2.2.2 = (Fin2 ns takes).2.1 := by
  subst hn
  have := run2 (ks := ns.map thingK) (takes := takes) 60 60 (fun _ => false) 0 [] [] (by rw [List.length_map]; omega) (by rw [List.length_map]; omega) (by omega) (fun k => ⟨fun h => (by cases h), fun ⟨j, h, _⟩ => (by cases h)⟩)
  rw [List.length_map, Nat.min_zero, List.map_map] at this
  exact this
section
variable {prog : Program} {w : World} {A : Around} {E : Value → Shared → Prop} {s : Shared} {env : Env}
theorem execs_next {st : Stmt} {rest : List Stmt} {Q : Flow → Shared → Prop} (h : wpAny (model prog w) A (exec st env) (fun f s' => f = .next ∧ wpAny (model prog w) A (execs rest env) Q E s') E s) : wpAny (model prog w) A (execs (st :: rest) env) Q E s := by
  rw [execs_cons]
  exact wpAny_bind (wpAny_mono h (fun f s' h' => by obtain ⟨rfl, h'⟩ := h'; exact h') fun _ _ e => e)
theorem execs_nil {Q : Flow → Shared → Prop} (h : Q .next s) : wpAny (model prog w) A (execs [] env) Q E s := wpAny_pure h
end
/-- one turn of the for statement -/
inductive TurnPost (g : Heap) (L pl tl ml kl : Addr) (lp : Pos) (led : List (Addr × Obj)) (s s' : Shared) : Prop
  | mk : ∀ h gens' tk m' vN' ps' led', s' = { s with heap := h, gens := gens', toks := tk } → (AllBare s.gens → AllBare gens') → LawSt g L h m' vN' (some (.ref pl)) (some (.ref tl)) ps' led' → (∀ p ∈ led, p ∈ led') →
      LamTab lp lamQual ps' led' → m' (Str.ofString "marks") = some (.ref ml) → m' (Str.ofString "keyed") = some (.ref kl) → TurnPost g L pl tl ml kl lp led s s'
theorem st_turn {w : World} {s : Shared} {mean : ExcName → Option Value} {loose : List Str} {mg mb : Str → Option Value} {g : Heap} {L fa tl pl ml kl tkl : Addr} {m : Str → Option Value} {vN : Option Value} {tv pv mv kv tks ps : Array Value} {ns : List Int} {n₁ n₂ n₃ n₄ n₅ : Nat} {led : List (Addr × Obj)}
   {E : Value → Shared → Prop} {fd : FuncData} {oc : Value} {od : Option Addr} {osl : Array (Option Value)} {takes : Nat → Nat}
   (X : (Mine.hd.heap_39 w.params).In g) (T : Top topProg loose mean mg mb g) (CH : CodeHd g 87 85) (hfd : ((Mine.hd.heap_39 w.params)).lookup 88 = some ⟨oc, od, .func fd, osl⟩) (hb8 : (forBody fd).length = 8)
   (S : LawSt g L s.heap m vN (some (.ref pl)) (some (.ref tl)) ps led) (htl : (tl, W.listOf tv n₁) ∈ led) (hpl : (pl, W.listOf pv n₂) ∈ led) (hml : (ml, W.listOf mv n₃) ∈ led) (hkl : (kl, W.listOf kv n₄) ∈ led) (htk : (tkl, W.listOf tks n₅) ∈ led)
   (hlen : ns.length ≤ 50) (hth : Th ns tv led) (hplc : Pl tv pv led) (hmk : Mks mkU ns tv mv led) (hkk : Mks mkK ns tv kv led) (htab : LamTab (lamPos fd) lamQual ps led)
   (hm1 : m (Str.ofString "takes") = some (.ref tkl)) (hm2 : m (Str.ofString "marks") = some (.ref ml)) (hm3 : m (Str.ofString "keyed") = some (.ref kl)) (hts : ∀ j, j < ns.length → ∃ t, tks[j]? = some (.int (takes j) t) ∧ takes j ≤ 2) :
   wpAny (model PySem.Challenge.rw_dz0055_01.row.prog w) (callerA.deeper (lawEnv fd L fa)) (execs (forBody fd) (lawEnv fd L fa)) (fun f s' => f = .next ∧ TurnPost g L pl tl ml kl (lamPos fd) led s s') E s := by
  obtain ⟨s0, s1, s2, s3, s4, s5, s6, s7, hb⟩ : ∃ s0 s1 s2 s3 s4 s5 s6 s7, forBody fd = [s0, s1, s2, s3, s4, s5, s6, s7] := by
    generalize forBody fd = b at hb8
    match b, hb8 with
    | [s0, s1, s2, s3, s4, s5, s6, s7], _ => exact ⟨s0, s1, s2, s3, s4, s5, s6, s7, rfl⟩
  have hsz : tv.size = ns.length := hth.1
  have hszp : pv.size = ns.length := hplc.1.trans hsz
  have ht2 : ∀ j, j < ns.length → takes j ≤ 2 := fun j hj => (hts j hj).choose_spec.2
  have b1 := due_bound (mks := ns.map fun x => mkU (thingK x)) (takes := takes) (by rw [List.length_map]; exact ht2) 60 0 [] [] (Nat.le_refl _) (Nat.zero_le _)
  have b2 := due_bound (mks := ns.map fun x => mkK (thingK x)) (takes := takes) (by rw [List.length_map]; exact ht2) 60 0 [] [] (Nat.le_refl _) (Nat.zero_le _)
  rw [List.length_map] at b1 b2
  obtain ⟨q1, q2, q3⟩ := fin1 (takes := takes) hsz hlen
  obtain ⟨r1, r2, r3, r4⟩ := fin2 (takes := takes) hszp hlen
  rw [hb]
  -- the first hearing
  refine execs_next (wpAny_mono (st_heard1 X T hfd (by rw [hb]; rfl) S htl htk hlen hth hm1 hts) (fun f s₁ hp => ?_) fun _ _ e => e)
  obtain ⟨rfl, h₁, g₁, k₁, m₁, hl, D, D2, hv, ep, nD, n2, te, led₁, rfl, ga₁, S₁, sub₁, a1, a2, a3, a4, a5, a6, a7, a8, o₁⟩ := hp
  rw [q1] at a4
  rw [q2] at a6
  rw [q3] at a3
  refine ⟨rfl, execs_next (wpAny_mono (st_due1 (s := { s with heap := h₁, gens := g₁, toks := k₁ }) X T hfd (by rw [hb]; rfl) S₁ (sub₁ _ hml) (sub₁ _ htk) hlen (hth.mono sub₁) (hmk.mono sub₁) ((o₁ _ (by decide) (by decide) (by decide) (by decide)).trans hm2) ((o₁ _ (by decide) (by decide) (by decide) (by decide)).trans hm1) hts) (fun f s₂ hp => ?_) fun _ _ e => e)⟩
  obtain ⟨rfl, h₂, k₂, m₂, tl', al', tv', av', e1, e2, t1, t2, led₂, rfl, S₂, sub₂, c1, c2, c3, c4, c5, c6, c7, c8, o₂⟩ := hp
  have p1 : (Fin1 ns takes).2.2.2 ≤ 100 := by have := b1.2; show (dueRun _ _ _ _ _ _).2.2.2 ≤ 100; omega
  have p1' : (Fin1 ns takes).1.length ≤ 100 := by have := b1; show (dueRun _ _ _ _ _ _).1.length ≤ 100; omega
  have sub12 : ∀ p ∈ led, p ∈ led₂ := fun p hp => sub₂ p (sub₁ p hp)
  refine ⟨rfl, execs_next (wpAny_mono (st_cmp1 (s := { s with heap := h₂, gens := g₁, toks := k₂ }) X T hfd (by rw [hb]; rfl) S₂ (sub12 _ htl) (sub₂ _ a1) c1 hlen (hth.mono sub12) a4 c3 p1' ((o₂ _ (by decide) (by decide) (by decide) (by decide)).trans a5) c5) (fun f s₃ hp => ?_) fun _ _ e => e)⟩
  obtain ⟨rfl, h₃, k₃, rfl, S₃⟩ := hp
  refine ⟨rfl, execs_next (wpAny_mono (st_cmp2 (s := { s with heap := h₃, gens := g₁, toks := k₃ }) (wd := (Fin1 ns takes).2.2.1) (i := min tv.size (Fin1 ns takes).2.2.2) (p := (Fin1 ns takes).2.2.2) (Q := fun _ _ => True) X T hfd (by rw [hb]; rfl) S₃ (sub12 _ htl) (sub₂ _ a2) (sub₂ _ a3) (by omega) p1 (drop_min (by simp))
    ((o₂ _ (by decide) (by decide) (by decide) (by decide)).trans a6) ((o₂ _ (by decide) (by decide) (by decide) (by decide)).trans a7) ((o₂ _ (by decide) (by decide) (by decide) (by decide)).trans a8) c7 c8) (fun f s₄ hp => ?_) fun _ _ e => e)⟩
  obtain ⟨rfl, h₄, k₄, rfl, S₄⟩ := hp
  -- the second hearing
  refine ⟨rfl, execs_next (wpAny_mono (st_notes (s := { s with heap := h₄, gens := g₁, toks := k₄ }) X T hfd (by rw [hb]; rfl) S₄) (fun f s₅ hp => ?_) fun _ _ e => e)⟩
  obtain ⟨rfl, h₅, k₅, nl, rfl, S₅, hnl⟩ := hp
  have mt : m₂ (Str.ofString "takes") = some (.ref tkl) := (o₂ _ (by decide) (by decide) (by decide) (by decide)).trans ((o₁ _ (by decide) (by decide) (by decide) (by decide)).trans hm1)
  have mm : m₂ (Str.ofString "marks") = some (.ref ml) := (o₂ _ (by decide) (by decide) (by decide) (by decide)).trans ((o₁ _ (by decide) (by decide) (by decide) (by decide)).trans hm2)
  have mk : m₂ (Str.ofString "keyed") = some (.ref kl) := (o₂ _ (by decide) (by decide) (by decide) (by decide)).trans ((o₁ _ (by decide) (by decide) (by decide) (by decide)).trans hm3)
  refine ⟨rfl, execs_next (wpAny_mono (st_heard2 (n₁ := 0) (s := { s with heap := h₅, gens := g₁, toks := k₅ }) X T CH hfd (by rw [hb]; rfl) S₅ hnl (sub12 _ hpl) (sub12 _ htk) hlen (hth.mono sub12) (hplc.mono sub12) (htab.mono sub12) mt hts) (fun f s₆ hp => ?_) fun _ _ e => e)⟩
  obtain ⟨rfl, h₆, g₆, k₆, m₆, ps₆, no, hl6, D6, D26, hv6, ep6, nD6, n26, te6, led₆, rfl, ga₆, S₆, sub₆, d0, d00, d000, d1, d2, d3, d4, d5, d6, d7, d8, o₆⟩ := hp
  rw [r1] at d4
  rw [r2] at d6
  rw [r3] at d3
  rw [r4] at d00
  have sub16 : ∀ p ∈ led, p ∈ led₆ := fun p hp => sub₆ p (sub12 p hp)
  refine ⟨rfl, execs_next (wpAny_mono (st_due2 (s := { s with heap := h₆, gens := g₆, toks := k₆ }) X T hfd (by rw [hb]; rfl) S₆ (sub16 _ hkl) (sub16 _ htk) hlen (hth.mono sub16) (hkk.mono sub16) ((o₆ _ (by decide) (by decide) (by decide) (by decide)).trans mk) ((o₆ _ (by decide) (by decide) (by decide) (by decide)).trans mt) hts) (fun f s₇ hp => ?_) fun _ _ e => e)⟩
  obtain ⟨rfl, h₇, k₇, m₇, tl7, al7, tv7, av7, e17, e27, t17, t27, led₇, rfl, S₇, sub₇, f1, f2, f3, f4, f5, f6, f7, f8, o₇⟩ := hp
  have p2 : (Fin2 ns takes).2.2.2 ≤ 100 := by have := b2.2; show (dueRun _ _ _ _ _ _).2.2.2 ≤ 100; omega
  have p2' : (Fin2 ns takes).1.length ≤ 100 := by have := b2; show (dueRun _ _ _ _ _ _).1.length ≤ 100; omega
  have sub17 : ∀ p ∈ led, p ∈ led₇ := fun p hp => sub₇ p (sub16 p hp)
  refine ⟨rfl, execs_next (wpAny_mono (st_cmp3 (s := { s with heap := h₇, gens := g₆, toks := k₇ }) (wd := (Fin2 ns takes).2.2.1) (i := min pv.size (Fin2 ns takes).2.2.2) (p := (Fin2 ns takes).2.2.2) (t := (Fin2 ns takes).1) (asked := (Fin2 ns takes).2.1) X T hfd (by rw [hb]; rfl) S₇ (sub17 _ hpl) (sub₇ _ d2) (sub₇ _ d3) (by omega) p2 (sub₇ _ d1) f1 f2 (sub₇ _ d0) (drop_min (by simp)) d4 f3 p2' d00 f4
    ((o₇ _ (by decide) (by decide) (by decide) (by decide)).trans d6) ((o₇ _ (by decide) (by decide) (by decide) (by decide)).trans d7) ((o₇ _ (by decide) (by decide) (by decide) (by decide)).trans d8) f7 f8 ((o₇ _ (by decide) (by decide) (by decide) (by decide)).trans d5) f5 f6) (fun f s₈ hp => ?_) fun _ _ e => e)⟩
  obtain ⟨rfl, h₈, k₈, rfl, S₈⟩ := hp
  exact ⟨rfl, execs_nil ⟨rfl, h₈, g₆, k₈, m₇, _, ps₆, led₇, rfl, fun z => ga₆ (ga₁ z), S₈, sub17, d000.mono sub₇, (o₇ _ (by decide) (by decide) (by decide) (by decide)).trans ((o₆ _ (by decide) (by decide) (by decide) (by decide)).trans mm), (o₇ _ (by decide) (by decide) (by decide) (by decide)).trans ((o₆ _ (by decide) (by decide) (by decide) (by decide)).trans mk)⟩⟩
end Mine
end
section
set_option Elab.async false
theorem Mine.off_LS12 : True ∧ True := by
  w_top off
  first | walk1 | skip
  all_goals (first | trivial | exact ⟨trivial, trivial⟩)
end
section
open PySem PySem.W PyProof.Rows PySem.Calls PySem.W.X
set_option Elab.async false
set_option maxRecDepth 100000
set_option maxHeartbeats 4000000
set_option pp.deepTerms false
set_option pp.deepTerms.threshold 6
namespace Mine
local macro_rules | `(tactic| walk_at "eval Name") => `(tactic| (k_here; refine nameX_L (by assumption) (by assumption) ?_))
local macro_rules | `(tactic| walk_at "eval ListComp") => `(tactic| (k_here; refine hold ?_))
theorem LawSt.sub {g : Heap} {L : Addr} {h : Heap} {m : Str → Option Value} {vN vP vT : Option Value} {ps : Array Value} {led led' : List (Addr × Obj)} (S : LawSt g L h m vN vP vT ps led) (k : ∀ p ∈ led', p ∈ led) : LawSt g L h m vN vP vT ps led' := by
  obtain ⟨oN, oP, oT, N, r⟩ := S.news
  refine ⟨S.fr, ⟨oN, oP, oT, fun p hp => N p ?_, r⟩, fun p hp => S.off p (k p hp), S.big⟩
  simp only [cellsL, List.mem_cons] at hp ⊢
  rcases hp with hp | hp | hp | hp | hp
  · exact .inl hp
  · exact .inr (.inl hp)
  · exact .inr (.inr (.inl hp))
  · exact .inr (.inr (.inr (.inl hp)))
  · exact .inr (.inr (.inr (.inr (k p hp))))
theorem LawSt.but {g : Heap} {L it : Addr} {h h' : Heap} {m : Str → Option Value} {vN vP vT : Option Value} {ps : Array Value} {led : List (Addr × Obj)} (S : LawSt g L h m vN vP vT ps led) (k : Heap.ExtBut it h h') (h1 : it ≠ L) (h2 : g.get? it = none)
   (h3 : it ≠ L + 1 ∧ it ≠ L + 1 + 1 ∧ it ≠ L + 1 + 1 + 1 ∧ it ≠ 85) (h4 : ∀ p ∈ led, p.1 ≠ it) : LawSt g L h' m vN vP vT ps led := by
  obtain ⟨oN, oP, oT, N, r⟩ := S.news
  refine ⟨⟨S.fr.ns.extBut k h1.symm, fun b o e => k b o (fun z => by rw [z, h2] at e; cases e) (S.fr.keep b o e), S.fr.above⟩, ⟨oN, oP, oT, fun p hp => ⟨k _ _ ?_ (N p hp).1, (N p hp).2⟩, r⟩, S.off, S.big⟩
  refine mem_elim hp ?_ fun hp => ?_
  · exact h3.2.2.1.symm
  refine mem_elim hp ?_ fun hp => ?_
  · exact h3.2.1.symm
  refine mem_elim hp ?_ fun hp => ?_
  · exact h3.1.symm
  refine mem_elim hp ?_ fun hp => ?_
  · exact h3.2.2.2.symm
  · exact h4 p hp
theorem LawSt.get {g : Heap} {L : Addr} {h : Heap} {m : Str → Option Value} {vN vP vT : Option Value} {ps : Array Value} {led : List (Addr × Obj)} (S : LawSt g L h m vN vP vT ps led) {p : Addr × Obj} (hp : p ∈ led) : h.get? p.1 = some p.2 := by
  obtain ⟨oN, oP, oT, N, r⟩ := S.news
  exact (N _ (.tail _ (.tail _ (.tail _ (.tail _ hp))))).1
theorem LawSt.more {g : Heap} {L it : Addr} {h : Heap} {m : Str → Option Value} {vN vP vT : Option Value} {ps : Array Value} {led : List (Addr × Obj)} {o : Obj} (S : LawSt g L h m vN vP vT ps led) (h0 : h.get? it = some o) (h1 : it ≠ L) (h2 : g.get? it = none)
   (h3 : it ≠ L + 1 ∧ it ≠ L + 1 + 1 ∧ it ≠ L + 1 + 1 + 1 ∧ it ≠ 85) : LawSt g L h m vN vP vT ps ((it, o) :: led) := by
  obtain ⟨oN, oP, oT, N, r⟩ := S.news
  refine ⟨S.fr, ⟨oN, oP, oT, fun p hp => ?_, r⟩, fun p hp => ?_, S.big⟩
  · have : p = (it, o) ∨ p ∈ cellsL L oN oP oT (tabObj ps) led := by
      refine mem_elim hp (.inr inl0) fun hp => ?_
      refine mem_elim hp (.inr inl1) fun hp => ?_
      refine mem_elim hp (.inr inl2) fun hp => ?_
      refine mem_elim hp (.inr inl3) fun hp => ?_
      refine mem_elim hp (.inl rfl) fun hp => ?_
      exact .inr (.tail _ (.tail _ (.tail _ (.tail _ hp))))
    rcases this with rfl | hp
    · exact ⟨h0, h1, h2⟩
    · exact N p hp
  · refine mem_elim hp ?_ fun hp => ?_
    · exact h3
    · exact S.off p hp
theorem LawSt.name {g : Heap} {L : Addr} {h h' : Heap} {m m' : Str → Option Value} {vN vP vT : Option Value} {ps : Array Value} {led : List (Addr × Obj)} (S : LawSt g L h m vN vP vT ps led) (hn : h'.Ns L m') (hs : Heap.SameBut L h h') : LawSt g L h' m' vN vP vT ps led := by
  obtain ⟨oN, oP, oT, N, r⟩ := S.news
  exact ⟨S.fr.set hn hs, ⟨oN, oP, oT, N.set hs, r⟩, S.off, S.big⟩
inductive ForPost (g : Heap) (L pl tl : Addr) (s s' : Shared) : Prop
  | mk : ∀ h gens' tk m' vN' ps' led', s' = { s with heap := h, gens := gens', toks := tk } → (AllBare s.gens → AllBare gens') → LawSt g L h m' vN' (some (.ref pl)) (some (.ref tl)) ps' led' → ForPost g L pl tl s s'
inductive ForI (s : Shared) (g : Heap) (L pl tl ml kl : Addr) (led : List (Addr × Obj)) (lp : Pos) (ns : List Int) (itv : Value) (n : Nat) (s' : Shared) : Prop
  | mk : ∀ (it ll tk0 tk1 : Addr) (h : Heap) (gens : Array GenState) (tk : Nat) (m : Str → Option Value) (vN : Option Value) (ps : Array Value) (led' : List (Addr × Obj)) (i : Nat) (lv : Array Value) (e0 e1 e2 : Nat) (ta tb : Array Value), (itv = .ref it) → (s' = { s with heap := h, gens := gens, toks := tk }) → ((AllBare s.gens → AllBare gens)) → (LawSt g L h m vN (some (.ref pl)) (some (.ref tl)) ps led') → (h.get? it = some (itObj ll i)) → (it ≠ L) → (g.get? it = none) → ((it ≠ L + 1 ∧ it ≠ L + 1 + 1 ∧ it ≠ L + 1 + 1 + 1 ∧ it ≠ 85)) → ((∀ p ∈ led', p.1 ≠ it)) → ((∀ p ∈ led, p ∈ led')) → (LamTab lp lamQual ps led') → (m (Str.ofString "marks") = some (.ref ml)) → (m (Str.ofString "keyed") = some (.ref kl)) → ((ll, W.listOf lv e0) ∈ led') → (lv = #[.ref tk0, .ref tk1]) → ((tk0, W.listOf ta e1) ∈ led') → ((tk1, W.listOf tb e2) ∈ led') → ((∀ j : Nat, j < ns.length → ∃ t, ta[j]? = some (Value.int ((0 : Nat) : Int) t))) → ((∀ (j : Nat) (x : Int), ns[j]? = some x → ∃ t, tb[j]? = some (Value.int (x.fmod 3) t))) → (n + i = 2) → ForI s g L pl tl ml kl led lp ns itv n s'
theorem st_for {w : World} {s : Shared} {mean : ExcName → Option Value} {loose : List Str} {mg mb : Str → Option Value} {g : Heap} {L fa tl pl ml kl nl : Addr} {m : Str → Option Value} {vN : Option Value} {tv pv mv kv nv ps : Array Value} {ns : List Int} {n₁ n₂ n₃ n₄ n₅ : Nat} {led : List (Addr × Obj)}
   {E : Value → Shared → Prop} {fd : FuncData} {oc : Value} {od : Option Addr} {osl : Array (Option Value)} {st : Stmt}
   (X : (Mine.hd.heap_39 w.params).In g) (T : Top topProg loose mean mg mb g) (CH : CodeHd g 87 85) (hfd : ((Mine.hd.heap_39 w.params)).lookup 88 = some ⟨oc, od, .func fd, osl⟩) (hst : (bodyOf fd)[6]? = some st)
   (S : LawSt g L s.heap m vN (some (.ref pl)) (some (.ref tl)) ps led) (htl : (tl, W.listOf tv n₁) ∈ led) (hpl : (pl, W.listOf pv n₂) ∈ led) (hml : (ml, W.listOf mv n₃) ∈ led) (hkl : (kl, W.listOf kv n₄) ∈ led) (hnl : (nl, W.listOf nv n₅) ∈ led)
   (hI : IntsAre nv.toList ns) (hlen : ns.length ≤ 50) (hth : Th ns tv led) (hplc : Pl tv pv led) (hmk : Mks mkU ns tv mv led) (hkk : Mks mkK ns tv kv led) (htab : LamTab (lamPos fd) lamQual ps led)
   (hE : PassesOwn (model PySem.Challenge.rw_dz0055_01.row.prog w) (callerA.deeper (lawEnv fd L fa)) (lawEnv fd L fa) E)
   (hm1 : m (Str.ofString "numbers") = some (.ref nl)) (hm2 : m (Str.ofString "marks") = some (.ref ml)) (hm3 : m (Str.ofString "keyed") = some (.ref kl)) :
   wpAny (model PySem.Challenge.rw_dz0055_01.row.prog w) (callerA.deeper (lawEnv fd L fa)) (exec st (lawEnv fd L fa)) (fun f s' => f = .next ∧ ForPost g L pl tl s s') E s := by
  obtain ⟨lp, hlp⟩ : ∃ lp, lp = lamPos fd := ⟨_, rfl⟩
  rw [← hlp] at htab
  have hfd₀ := hfd
  revert X hfd hfd₀
  k_fill
  intro X hfd hfd₀
  have e := hfd.symm.trans (show _ = some _ by k_is)
  injection e with e
  injection e with _ _ e _
  injection e with e
  subst e
  clear hfd
  dsimp only [bodyOf, List.drop, List.getElem?_cons_succ, List.getElem?_cons_zero] at hst
  injection hst with hst
  subst hst
  have F := S.fr
  obtain ⟨oN, oP, oT, N, hN, hP, hT⟩ := S.news
  have hoff := S.off
  have hnv : nv.size = ns.length := by have := hI.length; simpa using this
  have mem : ∀ {x : Addr × Obj}, x ∈ led → x ∈ cellsL L oN oP oT (tabObj ps) led := fun h => .tail _ (.tail _ (.tail _ (.tail _ h)))
  obtain ⟨I, hI1, hI2⟩ : ∃ I : Value → Nat → Shared → Prop, (∀ {itv n s'}, ForI s g L pl tl ml kl led lp ns itv n s' → I itv n s') ∧ (∀ {itv n s'}, I itv n s' → ForI s g L pl tl ml kl led lp ns itv n s') := ⟨_, fun z => z, fun z => z⟩
  refine for_inv (hf := by intro x; rfl) I hE ?_ ?_
  · show wpAny _ _ _ (fun x s₁ => wpAny _ _ _ (fun itv s₂ => Hold _) _ _) _ _
    repeat' walk1
    refine ListComp_G (hs := by intro _; rfl) (cl := []) (by with_unfolding_all rfl) (by decide) (by rfl) (by decide) (by rfl) ?_
    repeat' walk1
    refine ⟨nl, nv, fun i y l => l = [] ∧ ∃ t, y = Value.int ((0 : Nat) : Int) t, rfl, rfl, ⟨_, (N _ (mem hnl)).1, rfl, _, rfl⟩, (by rw [sizeLine_eq]; omega), ?_, ?_⟩
    · intro i v C m₂ h₃ tk₃ E' hv' hnC hmx hC hk
      obtain ⟨oC, hoC, F₃, N₃⟩ := comp_ctx F N hk hnC hC
      clear F N
      show wpAny _ _ _ (fun y s' => Hold _) _ _
      repeat' walk1
      exact ⟨h₃, _, [], rfl, fun _ _ e => e, ⟨rfl, _, rfl⟩, fun _ h => nomatch h⟩
    · intro D0 h₁ tk₁ ta big nD hD hlD hM hF hA hk
      obtain ⟨F₁, N₁⟩ := fin_ctx (big := []) F N hk hD hlD (fun _ h => nomatch h)
      have oD0 := offC_one N hD
      clear F N
      repeat' walk1
      refine ListComp_G (hs := by intro _; rfl) (cl := []) (by with_unfolding_all rfl) (by decide) (by rfl) (by decide) (by rfl) ?_
      repeat' walk1
      refine ⟨nl, nv, fun i y l => l = [] ∧ ∃ x t, ns[i]? = some x ∧ y = Value.int (x.fmod 3) t, rfl, rfl, ⟨_, (N₁ _ (.tail _ (mem hnl))).1, rfl, _, rfl⟩, (by rw [sizeLine_eq]; omega), ?_, ?_⟩
      · intro i v C m₂ h₃ tk₃ E' hv' hnC hmx hC hk
        obtain ⟨x, t, hx, rfl⟩ := ints_get hI i v (by simpa using hv')
        obtain ⟨oC, hoC, F₃, N₃⟩ := comp_ctx F₁ N₁ hk hnC hC
        clear F₁ N₁
        show wpAny _ _ _ (fun y s' => Hold _) _ _
        repeat' walk1
        exact ⟨h₃, _, [], rfl, fun _ _ e => e, ⟨rfl, x, _, hx, rfl⟩, fun _ h => nomatch h⟩
      · intro D1 h₂ tk₂ tb big₂ nD₂ hD₂ hlD₂ hM₂ hF₂ hA₂ hk₂
        obtain ⟨F₂, N₂⟩ := fin_ctx (big := []) F₁ N₁ hk₂ hD₂ hlD₂ (fun _ h => nomatch h)
        have oD1 := offC_one (g := g) (oN := oN) (oP := oP) (oT := oT) (o85 := tabObj ps) (led := led) (fun p hp => N₁ p (.tail _ hp)) hD₂
        clear F₁ N₁
        repeat' walk1
        rename_i l3 h₃ F₃ N₃ hlt
        refine wpAny_pyIter_list ⟨_, (N₃ _ (.head _)).1, rfl, _, rfl⟩ ?_
        have hnone : h₃.get? h₃.objs.size = none := Heap.get?_none_of_le (Nat.le_refl _)
        have N₃' : News g L h₃ (cellsL L oN oP oT (tabObj ps) ((l3, W.listOf #[.ref D0, .ref D1] 0) :: (D1, W.listOf tb nD₂) :: (D0, W.listOf ta nD) :: led)) := fun p hp => N₃ p (by
          refine mem_elim hp inl3 fun hp => ?_
          refine mem_elim hp inl4 fun hp => ?_
          refine mem_elim hp inl5 fun hp => ?_
          refine mem_elim hp inl6 fun hp => ?_
          refine mem_elim hp inl0 fun hp => ?_
          refine mem_elim hp inl1 fun hp => ?_
          refine mem_elim hp inl2 fun hp => ?_
          exact .tail _ (.tail _ (.tail _ (.tail _ (.tail _ (.tail _ (.tail _ hp)))))))
        have ol3 : l3 ≠ L + 1 ∧ l3 ≠ L + 1 + 1 ∧ l3 ≠ L + 1 + 1 + 1 ∧ l3 ≠ 85 := by
          have lt : ∀ p ∈ cellsL L oN oP oT (tabObj ps) led, p.1 < l3 := fun p hp => allLt_mem hlt.2 p (List.mem_append_right _ (.tail _ (List.mem_append_right _ hp)))
          exact ⟨Nat.ne_of_gt (lt _ (.tail _ (.tail _ (.head _)))), Nat.ne_of_gt (lt _ (.tail _ (.head _))), Nat.ne_of_gt (lt _ (.head _)), Nat.ne_of_gt (lt _ (.tail _ (.tail _ (.tail _ (.head _)))))⟩
        have hoff₃ : OffC L ((l3, W.listOf #[.ref D0, .ref D1] 0) :: (D1, W.listOf tb nD₂) :: (D0, W.listOf ta nD) :: led) := fun p hp => by
          refine mem_elim hp ?_ fun hp => ?_
          · exact ol3
          refine mem_elim hp ?_ fun hp => ?_
          · exact oD1
          refine mem_elim hp ?_ fun hp => ?_
          · exact oD0
          · exact hoff p hp
        refine hold ⟨2, hI1 ⟨h₃.objs.size, l3, D0, D1, _, _, _, m, vN, ps, (l3, W.listOf #[.ref D0, .ref D1] 0) :: (D1, W.listOf tb nD₂) :: (D0, W.listOf ta nD) :: led, 0, _, 0, nD, nD₂, ta, tb, rfl, rfl, fun z => z,
          ⟨F₃.keeps fun _ _ e => Heap.get?_push_of_some _ e, ⟨oN, oP, oT, N₃'.grown fun _ _ e => Heap.get?_push_of_some _ e, hN, hP, hT⟩, hoff₃, S.big⟩, Heap.get?_push_size _ rfl, (fr_off F₃ hnone).1, (fr_off F₃ hnone).2, offC_one N₃' hnone,
          fun p hp => Nat.ne_of_lt (Heap.lt_size (N₃' _ (.tail _ (.tail _ (.tail _ (.tail _ hp))))).1), fun p hp => .tail _ (.tail _ (.tail _ hp)), htab.mono (fun p hp => .tail _ (.tail _ (.tail _ hp))), hm2, hm3, .head _, rfl, .tail _ (.tail _ (.head _)), .tail _ (.head _), fun j hj => ?_, fun j x hx => ?_, rfl⟩⟩
        · have hj' : j < ta.size := by rw [hM.1, hnv]; exact hj
          obtain ⟨_, ⟨_, t, e⟩, _⟩ := hM.2 j ta[j] (Array.getElem?_eq_getElem hj')
          exact ⟨t, by rw [Array.getElem?_eq_getElem hj', e]⟩
        · have hj' : j < tb.size := by rw [hM₂.1, hnv]; exact (List.getElem?_eq_some_iff.mp hx).1
          obtain ⟨_, ⟨_, x', t, hx', e⟩, _⟩ := hM₂.2 j tb[j] (Array.getElem?_eq_getElem hj')
          obtain rfl : x' = x := Option.some.inj (hx'.symm.trans hx)
          exact ⟨t, by rw [Array.getElem?_eq_getElem hj', e]⟩
  · clear F N
    intro itv n s₁ hI0
    obtain ⟨it, ll, tk0, tk1, h, gens, tk, m, vN, ps, led', i, lv, e0, e1, e2, ta, tb, rfl, rfl, hga, S', hit, hiL, hig, hic, hne, sub, htab', hm2', hm3', hll, rfl, htk0, htk1, hta, htb, hni⟩ := hI2 hI0
    have hl : h.IsList ll #[.ref tk0, .ref tk1] := ⟨_, S'.get hll, rfl, _, rfl⟩
    by_cases hi : i = 2
    · subst hi
      refine pyNext_stop rfl hit (.inr ⟨rfl, hl, rfl⟩) fun h' k1 k2 => ?_
      exact execs_nil ⟨rfl, h', gens, tk, m, vN, ps, led', rfl, hga, S'.but k2 hiL hig hic hne⟩
    · obtain ⟨tki, tks, ei, takes, hx, htki, hts⟩ : ∃ (tki : Addr) (tks : Array Value) (ei : Nat) (takes : Nat → Nat), (#[Value.ref tk0, .ref tk1] : Array Value)[i]? = some (.ref tki) ∧ (tki, W.listOf tks ei) ∈ led' ∧ ∀ j, j < ns.length → ∃ t, tks[j]? = some (.int (takes j) t) ∧ takes j ≤ 2 := by
        rcases (lt2 (by omega : i < 2)) with rfl | rfl
        · exact ⟨tk0, ta, e1, fun _ => 0, rfl, htk0, fun j hj => let ⟨t, e⟩ := hta j hj; ⟨t, e, Nat.zero_le _⟩⟩
        · refine ⟨tk1, tb, e2, fun j => ((ns.getD j 0).fmod 3).toNat, rfl, htk1, fun j hj => ?_⟩
          obtain ⟨t, e⟩ := htb j ns[j] (List.getElem?_eq_getElem hj)
          have q1 := Int.fmod_nonneg_of_pos ns[j] (b := 3) (by decide)
          have q2 := Int.fmod_lt_of_pos ns[j] (b := 3) (by decide)
          have q3 : ns.getD j 0 = ns[j] := by rw [List.getD_eq_getElem?_getD, List.getElem?_eq_getElem hj]; rfl
          refine ⟨t, ?_, by dsimp only; rw [q3]; omega⟩
          rw [e]; dsimp only; rw [q3, Int.toNat_of_nonneg q1]
      refine pyNext_item hit hl hx fun h' k1 k2 => ?_
      dsimp only
      refine wpAny_pure ?_
      have S₂ := (S'.but k2.extBut hiL hig hic hne).more k1 hiL hig hic
      refine wpAny_assign_Name (wpAny_storeName_local (m := m) rfl S₂.fr.ns (fun h'' hn'' hs'' => ?_) rfl)
      have S₃ := S₂.name hn'' hs''
      refine wpAny_mono (st_turn (s := { s with heap := h'', gens := gens, toks := _ }) (tkl := tki) (takes := takes) X T CH hfd₀ rfl S₃ (.tail _ (sub _ htl)) (.tail _ (sub _ hpl)) (.tail _ (sub _ hml)) (.tail _ (sub _ hkl)) (.tail _ htki) hlen (hth.mono fun p hp => .tail _ (sub p hp)) (hplc.mono fun p hp => .tail _ (sub p hp)) (hmk.mono fun p hp => .tail _ (sub p hp)) (hkk.mono fun p hp => .tail _ (sub p hp))
        (hlp ▸ htab'.mono fun p hp => .tail _ hp) (if_pos rfl) ((if_neg (by decide)).trans hm2') ((if_neg (by decide)).trans hm3') hts) (fun f s₃ hp => ?_) fun _ _ e => e
      obtain ⟨rfl, h3, g3, k3, m3, vN3, ps3, led3, rfl, hga3, S3, sub3, htab3, hm23, hm33⟩ := hp
      have hit3 : h3.get? it = some (itObj ll (i + 1)) := S3.get (sub3 _ (.head _))
      have inF : ∀ {p : Addr × Obj}, p ∈ led3 → p.1 ≠ it → p ∈ led3.filter (fun p => decide (p.1 ≠ it)) := fun h1 h2 => List.mem_filter.mpr ⟨h1, decide_eq_true h2⟩
      have subF : ∀ p ∈ led', p ∈ led3.filter (fun p => decide (p.1 ≠ it)) := fun p hp => inF (sub3 p (.tail _ hp)) (hne p hp)
      refine hold ⟨n - 1, by omega, hI1 ⟨it, ll, tk0, tk1, h3, g3, k3, m3, vN3, ps3, led3.filter (fun p => decide (p.1 ≠ it)), i + 1, _, e0, e1, e2, ta, tb, rfl, rfl, fun z => hga3 (hga z), S3.sub (fun p hp => (List.mem_filter.mp hp).1), hit3, hiL, hig, hic, fun p hp => of_decide_eq_true (List.mem_filter.mp hp).2, fun p hp => subF p (sub p hp), ?_, hm23, hm33, subF _ hll, rfl, subF _ htk0, subF _ htk1, hta, htb, for_step hni hi⟩⟩
      rw [hlp]
      rcases htab3 with e | ⟨c', oc, vs, t, q1, q2, q3, q4⟩
      · exact .inl e
      · refine .inr ⟨c', oc, vs, t, q1, inF q2 fun z => ?_, q3, q4⟩
        have := S3.get q2
        rw [show (c', oc).1 = it from z, hit3] at this
        obtain rfl := Option.some.inj this
        injection q3 with q3
        rw [← q3] at q4
        cases q4
end Mine
end
section
set_option Elab.async false
theorem Mine.off_LS13 : True ∧ True := by
  w_top off
  first | walk1 | skip
  all_goals (first | trivial | exact ⟨trivial, trivial⟩)
end
section
open PySem PySem.W PyProof.Rows PySem.Calls PySem.W.X
set_option Elab.async false
set_option maxRecDepth 100000
set_option maxHeartbeats 4000000
set_option pp.deepTerms false
set_option pp.deepTerms.threshold 6
namespace Mine
theorem st_return {w : World} {s : Shared} {L fa : Addr} {g : Heap} {E : Value → Shared → Prop} {fd : FuncData} {oc : Value} {od : Option Addr} {osl : Array (Option Value)} {st : Stmt}
   (X : (Mine.hd.heap_39 w.params).In g) (hfd : ((Mine.hd.heap_39 w.params)).lookup 88 = some ⟨oc, od, .func fd, osl⟩) (hst : (bodyOf fd)[7]? = some st) {Q : Flow → Shared → Prop} (hQ : Q (.ret (.bool true)) s) :
   wpAny (model PySem.Challenge.rw_dz0055_01.row.prog w) (callerA.deeper (lawEnv fd L fa)) (exec st (lawEnv fd L fa)) Q E s := by
  revert X hfd
  k_fill
  intro X hfd
  have e := hfd.symm.trans (show _ = some _ by k_is)
  injection e with e
  injection e with _ _ e _
  injection e with e
  subst e
  clear hfd
  dsimp only [bodyOf, List.drop, List.getElem?_cons_succ, List.getElem?_cons_zero] at hst
  injection hst with hst
  subst hst
  repeat' walk1
  exact hQ
theorem law_rest {w : World} {s : Shared} {mean : ExcName → Option Value} {loose : List Str} {mg mb : Str → Option Value} {g : Heap} {L fa nl sl : Addr} {m₀ : Str → Option Value} {oN oP oT : Obj} {vN vP vT : Option Value} {nv : Array Value} {ns : List Int} {n₁ : Nat}
   {Q : Flow → Shared → Prop} {E : Value → Shared → Prop} {fd : FuncData} {oc : Value} {od : Option Addr} {osl : Array (Option Value)}
   (X : (Mine.hd.heap_39 w.params).In g) (T : Top topProg loose mean mg mb g) (hfd : ((Mine.hd.heap_39 w.params)).lookup 88 = some ⟨oc, od, .func fd, osl⟩) (CH : CodeHd g 87 85)
   (F : Fr g L s.heap (fun y => if y = Str.ofString "numbers" then some (.ref nl) else if y = Str.ofString "script" then some (.ref sl) else m₀ y))
   (N : News g L s.heap (cellsL L oN oP oT (tabObj #[]) [(nl, W.listOf nv n₁)])) (hlt : L + 1 + 1 + 1 < nl)
   (hN : oN.data = .cell vN) (hP : oP.data = .cell vP) (hT : oT.data = .cell vT) (hI : IntsAre nv.toList ns) (hlen : ns.length ≤ 50)
   (hE : PassesOwn (model PySem.Challenge.rw_dz0055_01.row.prog w) (callerA.deeper (lawEnv fd L fa)) (lawEnv fd L fa) E)
   (hQ : ∀ h' tk gens' m' led' ps', (AllBare s.gens → AllBare gens') → Fr g L h' m' → News g L h' ((85, tabObj ps') :: led') → Q (.ret (.bool true)) { s with heap := h', gens := gens', toks := tk }) :
   wpAny (model PySem.Challenge.rw_dz0055_01.row.prog w) (callerA.deeper (lawEnv fd L fa)) (execs ((bodyOf fd).drop 2) (lawEnv fd L fa)) Q E s := by
  have h85 : (88 : Nat) ≤ L := by
    have X₀ := X
    revert X₀
    k_fill
    intro X₀
    have h1 : (88 : Nat) < g.objs.size := Heap.lt_size (X₀ 88 _ (by k_is))
    have h2 : (g.objs.size : Nat) ≤ L := F.above
    omega
  obtain ⟨s0, s1, s2, s3, s4, s5, s6, s7, hb⟩ : ∃ s0 s1 s2 s3 s4 s5 s6 s7, bodyOf fd = [s0, s1, s2, s3, s4, s5, s6, s7] := by
    have hfd₀ := hfd
    revert hfd₀
    revert X
    k_fill
    intro X hfd₀
    have e := hfd₀.symm.trans (show _ = some _ by k_is)
    injection e with e
    injection e with _ _ e _
    injection e with e
    subst e
    exact ⟨_, _, _, _, _, _, _, _, rfl⟩
  have hb8 : (forBody fd).length = 8 := by
    have hfd₀ := hfd
    revert hfd₀
    revert X
    k_fill
    intro X hfd₀
    have e := hfd₀.symm.trans (show _ = some _ by k_is)
    injection e with e
    injection e with _ _ e _
    injection e with e
    subst e
    rfl
  have S₀ : LawSt g L s.heap (fun y => if y = Str.ofString "numbers" then some (.ref nl) else if y = Str.ofString "script" then some (.ref sl) else m₀ y) vN vP vT #[] [(nl, W.listOf nv n₁)] :=
    ⟨F, ⟨oN, oP, oT, N, hN, hP, hT⟩, fun p hp => by
      refine mem_one hp ?_
      exact ⟨Nat.ne_of_gt (Nat.lt_of_succ_lt (Nat.lt_of_succ_lt hlt)), Nat.ne_of_gt (Nat.lt_of_succ_lt hlt), Nat.ne_of_gt hlt, Nat.ne_of_gt (Nat.lt_of_lt_of_le (show (85 : Nat) < 88 by decide) (Nat.le_trans h85 (Nat.le_of_lt (Nat.lt_of_succ_lt (Nat.lt_of_succ_lt (Nat.lt_of_succ_lt hlt))))))⟩, h85⟩
  rw [hb]
  show wpAny _ _ (execs [s2, s3, s4, s5, s6, s7] _) _ _ _
  refine execs_next (wpAny_mono (st_things X T hfd (by rw [hb]; rfl) S₀ (.head _) hI hlen) (fun f s₁ hp => ?_) fun _ _ e => e)
  obtain ⟨rfl, h₁, k₁, tl, tv, n1, led₁, rfl, S₁, sub₁, a1, hth⟩ := hp
  have htv : tv.size ≤ 50 := by rw [hth.1]; exact hlen
  refine ⟨rfl, execs_next (wpAny_mono (st_placed (s := { s with heap := h₁, toks := k₁ }) X T hfd (by rw [hb]; rfl) S₁ a1 htv) (fun f s₂ hp => ?_) fun _ _ e => e)⟩
  obtain ⟨rfl, h₂, k₂, pl, pv, n2, led₂, rfl, S₂, sub₂, a2, hpl⟩ := hp
  refine ⟨rfl, execs_next (wpAny_mono (st_marks (s := { s with heap := h₂, toks := k₂ }) X T hfd (by rw [hb]; rfl) S₂ (sub₂ _ a1) htv (hth.mono sub₂)) (fun f s₃ hp => ?_) fun _ _ e => e)⟩
  obtain ⟨rfl, h₃, k₃, ml, mv, n3, led₃, rfl, S₃, sub₃, a3, hmk⟩ := hp
  have sub23 : ∀ p ∈ led₁, p ∈ led₃ := fun p hp => sub₃ p (sub₂ p hp)
  refine ⟨rfl, execs_next (wpAny_mono (st_keyed (s := { s with heap := h₃, toks := k₃ }) X T hfd (by rw [hb]; rfl) S₃ (sub23 _ a1) a3 htv (hth.mono sub23) hmk) (fun f s₄ hp => ?_) fun _ _ e => e)⟩
  obtain ⟨rfl, h₄, k₄, kl, kv, n4, led₄, rfl, S₄, sub₄, a4, hkk⟩ := hp
  have sub14 : ∀ p ∈ led₁, p ∈ led₄ := fun p hp => sub₄ p (sub23 p hp)
  refine ⟨rfl, execs_next (wpAny_mono (st_for (s := { s with heap := h₄, toks := k₄ }) X T CH hfd (by rw [hb]; rfl) S₄ (sub14 _ a1) (sub₄ _ (sub₃ _ a2)) (sub₄ _ a3) a4 (sub14 _ (sub₁ _ (.head _))) hI hlen (hth.mono sub14) (hpl.mono fun p hp => sub₄ p (sub₃ p hp)) (hmk.mono sub₄) hkk (.inl rfl) hE
    ((if_neg (by decide)).trans ((if_neg (by decide)).trans (if_pos rfl))) ((if_neg (by decide)).trans (if_pos rfl)) (if_pos rfl)) (fun f s₅ hp => ?_) fun _ _ e => e)⟩
  obtain ⟨rfl, h₅, g₅, k₅, m₅, vN₅, ps₅, led₅, rfl, hga, S₅⟩ := hp
  refine ⟨rfl, ?_⟩
  obtain ⟨oN', oP', oT', N₅, _⟩ := S₅.news
  have fin := hQ h₅ k₅ g₅ m₅ led₅ ps₅ hga S₅.fr (fun p hp => N₅ p (.tail _ (.tail _ (.tail _ hp))))
  rw [execs_cons]
  refine wpAny_bind (st_return X hfd (by rw [hb]; rfl) ?_)
  exact wpAny_pure fin
end Mine
end
section
set_option Elab.async false
local macro_rules | `(tactic| walk_at "idle") => `(tactic| skip)
theorem Mine.off_L1 : True ∧ True := by
  w_top off
  first | walk1 | skip
  all_goals (first | trivial | exact ⟨trivial, trivial⟩)
end
section
open PySem PySem.W PyProof.Rows PySem.Calls PySem.W.X
set_option Elab.async false
set_option maxRecDepth 100000
set_option maxHeartbeats 8000000
set_option pp.deepTerms false
set_option pp.deepTerms.threshold 6
namespace Mine
local macro_rules | `(tactic| walk_at "execs cons") => `(tactic| (k_here; (with_reducible show wpAny _ _ (execs (Stmt.Assign [Expr.Name (Str.ofString "things") _] _ _ :: _) _) _ _ _); refine hold ?_))
theorem kn_postG {M : Model} {A : Around} {cd : Code} {s s₁ : Shared} {cw : ClaimW} {cl : Str → Option Addr} {mean : ExcName → Option Value} {args : List WData} {tabs : List (Addr × Addr)} (hT : TabsAt tabs s₁.heap) (hr : ∀ a x, cw.raises a x = false)
    (h : codeAny M A cd (fun r s' => (∃ b, r = .ok (.ret (.bool b)) ∧ cw.post args (.bool b) args = true) ∧ (∀ b o, (ghostOf s₁.heap tabs).get? b = some o → s'.heap.get? b = some o) ∧ s'.os = s₁.os ∧ AllBare s'.gens ∧ GrownAll tabs s'.heap) s) :
    codeAny M A cd (GoodWG cw cl mean args s₁) s := by
  refine codeAny_mono h fun r s' hp => ?_
  obtain ⟨⟨b, rfl, hb⟩, hk, hos, hga, hgr⟩ := hp
  have tab : ∀ c o, c ∈ tabs.map (·.2) → s₁.heap.get? c = some o → isCodeTable s₁.heap c ∧ o = tabObj #[] ∧ ∃ ps, s'.heap.get? c = some (tabObj ps) := fun c o hc e => by
    obtain ⟨q, hq, rfl⟩ := List.mem_map.mp hc
    have e2 := (hT q hq).2
    exact ⟨((hT q hq).1.tab e2).isCodeTable, Option.some.inj (e.symm.trans e2), hgr.get q hq⟩
  refine ⟨.inl ⟨_, .bool b, [], rfl, fun x => hr args x, ReadsW.bool b, hb, fun _ => ⟨.nil, fun _ z => nomatch z⟩⟩, ⟨fun c o e => ?_, fun c o e => ?_⟩, hos, hga⟩
  · by_cases hc : c ∈ tabs.map (·.2)
    · obtain ⟨t1, rfl, ps, t2⟩ := tab c o hc e
      exact .inr (.inl ⟨t1, rfl, #[], ps, rfl, by rw [Array.empty_append]; exact t2⟩)
    · exact .inl (hk c o (ghost_ne e hc))
  · by_cases hc : c ∈ tabs.map (·.2)
    · obtain ⟨_, _, ps, t2⟩ := tab c o hc e
      exact ⟨_, t2⟩
    · exact ⟨o, hk c o (ghost_ne e hc)⟩
local macro_rules | `(tactic| kn_posts) => `(tactic| refine kn_postG (by assumption) (fun _ _ => rfl) ?_)
theorem law_holds : PySem.Challenge.rw_dz0055_01.Holds := hd (by
  k_go0
  (all_goals try k_fold)
  k_steps
  rename_i o3 o2 o1 q3 q2 q1 X0 X' T' K' l0 D1 ws1 h1 hI1 hC1 hL1 l1 h2 l2 h3 l3 D' ws' h4 hI' l4 h5 F' N'
  have hfd := fun (w : World) => (show ((Mine.hd.heap_39 w.params)).lookup 88 = some _ by k_is)
  refine law_rest (oN := o3) (oP := o2) (oT := o1) (nv := ws'.toArray) (n₁ := 0) X' T' (hfd _) codeHd F' ?N l4.2.2.1 q3 q2 q1 (by simpa using hI') ?_ (by passes_own) (fun h' tk gens' m' led' ps' hga F N => ?_)
  case N =>
    intro p hp
    refine N' p ?_
    refine mem_elim hp ?_ fun hp => ?_
    · exact .tail _ (.tail _ (.tail _ (.head _)))
    refine mem_elim hp ?_ fun hp => ?_
    · exact .tail _ (.tail _ (.tail _ (.tail _ (.head _))))
    refine mem_elim hp ?_ fun hp => ?_
    · exact .tail _ (.tail _ (.tail _ (.tail _ (.tail _ (.head _)))))
    refine mem_elim hp ?_ fun hp => ?_
    · exact .tail _ (.tail _ (.tail _ (.tail _ (.tail _ (.tail _ (.head _))))))
    · refine mem_one hp ?_; exact .head _
  · rw [List.length_append, hC1]
    show min 24 _ + 14 ≤ 50
    omega
  · dsimp only
    refine ⟨⟨true, rfl, ?_⟩, F.keep, rfl, hga (AllBare.of_eq ?_), GrownAt.of N (.head _), trivial⟩
    · first | rfl | wrow_post | exact postW_of rfl rfl rfl
    · first | assumption | (dsimp only; assumption) | k_steps)
end Mine
end
set_option Elab.async false
theorem PySem.Challenge.cw_dz0055_01_holds : PySem.Challenge.rw_dz0055_01.Holds :=
  Mine.law_holds
