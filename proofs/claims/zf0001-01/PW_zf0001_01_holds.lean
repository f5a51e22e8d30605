import PyProof.Rows.All
import Wide.All
import OpenK.AllK
import Wide.FinOn
import PySem.Challenge.RW_zf0001_01
open PySem PySem.W PyProof.Rows PySem.Spec PySem.Calls
set_option Elab.async false
set_option maxRecDepth 100000
set_option maxHeartbeats 8000000
/-! part Hd -/
namespace Mine
open_top hd for PySem.Challenge.rw_zf0001_01
end Mine

/-! part Base -/
namespace Mine
theorem fmod_less (g : Int) {w : Int} (h : w ≠ 0) : (g.fmod w).natAbs < w.natAbs := by
  obtain ⟨_, _, h1, h2⟩ := fdiv_fmod_facts g w
  rcases Int.lt_or_gt_of_ne h with hw | hw
  · have := h2 hw; omega
  · have := h1 hw; omega
/-- the loop of extgcd; its first letter counts down, abs(w) turns are enough -/
def eloop : Nat → Int → Int → Int → Int → Int → Int → Int × Int × Int
  | 0, a, b, g, _, _, _ => (a, b, g)
  | n + 1, a, b, g, u, v, w => if w = 0 then (a, b, g) else eloop n u v w (a - (g.fdiv w) * u) (b - (g.fdiv w) * v) (g.fmod w)
theorem eloop_end (n : Nat) (a b g u v : Int) : eloop n a b g u v 0 = (a, b, g) := by
  cases n with
  | zero => rfl
  | succ n => rfl
theorem eloop_turn (n : Nat) {a b g u v w : Int} (h : w ≠ 0) : eloop (n + 1) a b g u v w = eloop n u v w (a - (g.fdiv w) * u) (b - (g.fdiv w) * v) (g.fmod w) := by
  show (if w = 0 then (a, b, g) else eloop n u v w (a - (g.fdiv w) * u) (b - (g.fdiv w) * v) (g.fmod w)) = _
  rw [if_neg h]
theorem eloop_fuel : ∀ (n m : Nat) (a b g u v w : Int), w.natAbs ≤ n → w.natAbs ≤ m → eloop n a b g u v w = eloop m a b g u v w := by
  intro n
  induction n with
  | zero =>
    intro m a b g u v w h _
    have e : w = 0 := by omega
    subst e
    rw [eloop_end, eloop_end]
  | succ n ih =>
    intro m a b g u v w hn hm
    by_cases h : w = 0
    · subst h
      rw [eloop_end, eloop_end]
    · have hl := fmod_less g h
      cases m with
      | zero => omega
      | succ m =>
        rw [eloop_turn n h, eloop_turn m h]
        exact ih m _ _ _ _ _ _ (by omega) (by omega)
def egcd (x y : Int) : Int × Int × Int :=
  let r := eloop y.natAbs 1 0 x 0 1 y
  if r.2.2 ≥ 0 then r else (-r.1, -r.2.1, -r.2.2)
/-- a state that the loop of extgcd(x, y) reaches -/
inductive Reach (x y : Int) : Int → Int → Int → Int → Int → Int → Prop
  | start : Reach x y 1 0 x 0 1 y
  | step {a b g u v w : Int} : Reach x y a b g u v w → w ≠ 0 → Reach x y u v w (a - (g.fdiv w) * u) (b - (g.fdiv w) * v) (g.fmod w)
theorem Reach.same {x y a b g u v w : Int} (h : Reach x y a b g u v w) : ∀ n : Nat, w.natAbs ≤ n → eloop n a b g u v w = eloop y.natAbs 1 0 x 0 1 y := by
  induction h with
  | start => exact fun n hn => eloop_fuel _ _ _ _ _ _ _ _ hn (Nat.le_refl _)
  | @step a b g u v w _ hw ih =>
    intro n hn
    have hl := fmod_less g hw
    rw [← ih (n + 1 + w.natAbs) (by omega), ← eloop_turn n hw]
    have e : n + 1 + w.natAbs = (n + w.natAbs) + 1 := by omega
    rw [e, eloop_turn _ hw, eloop_turn _ hw]
    exact eloop_fuel _ _ _ _ _ _ _ _ hn (by omega)
theorem Reach.last {x y a b g u v w : Int} (h : Reach x y a b g u v w) (hw : w = 0) : eloop y.natAbs 1 0 x 0 1 y = (a, b, g) := by
  subst hw
  rw [← h.same 0 (Nat.le_refl _)]
  rfl
end Mine
namespace Mine
def Stop (P : Prop) : Prop := P
theorem stopHere {P : Prop} (h : Stop P) : P := h
theorem goOn {P : Prop} (h : P) : Stop P := h
end Mine

/-! part MathA -/
namespace Mine
/-- the state of extgcd's loop behind its first turn, its signs made even: Y = abs(y), G = abs(g), W = abs(w) -/
structure Good (Y a G u W : Int) : Prop where
  gpos : 0 < G
  wnn : 0 ≤ W
  lt : W < G
  sgn : a * u ≤ 0
  det : (a.natAbs : Int) * W + (u.natAbs : Int) * G = Y
  une : u ≠ 0
  first : a = 0 → u = 1
  last : W = 0 → -(u.natAbs : Int) < 2 * a ∧ 2 * a ≤ (u.natAbs : Int)
theorem natAbs_alt {a q u : Int} (h : a * u ≤ 0) (hq : 1 ≤ q) (hu : u ≠ 0) : ((a - q * u).natAbs : Int) = (a.natAbs : Int) + q * (u.natAbs : Int) := by
  rcases Int.lt_or_gt_of_ne hu with hu' | hu'
  · have ha : 0 ≤ a := by
      rcases Int.lt_or_le a 0 with h1 | h1
      · have := Int.mul_pos_of_neg_of_neg h1 hu'
        omega
      · exact h1
    have e1 : ((a.natAbs : Nat) : Int) = a := by omega
    have e2 : ((u.natAbs : Nat) : Int) = -u := by omega
    rw [e1, e2]
    have : q * u ≤ 0 := Int.mul_nonpos_of_nonneg_of_nonpos (by omega) (by omega)
    rw [Int.mul_neg]
    omega
  · have ha : a ≤ 0 := by
      rcases Int.lt_or_le 0 a with h1 | h1
      · have := Int.mul_pos h1 hu'
        omega
      · exact h1
    have e1 : ((a.natAbs : Nat) : Int) = -a := by omega
    have e2 : ((u.natAbs : Nat) : Int) = u := by omega
    rw [e1, e2]
    have : 0 ≤ q * u := Int.mul_nonneg (by omega) (by omega)
    omega
theorem quot_one {G W q T : Int} (h : W < G) (hT : 0 ≤ T) (hW : T < W) (e : q * W + T = G) : 1 ≤ q := by
  rcases Int.lt_or_le q 1 with h1 | h1
  · have : q * W ≤ 0 := Int.mul_nonpos_of_nonpos_of_nonneg (by omega) (by omega)
    omega
  · exact h1
theorem quot_two {G W q : Int} (h : W < G) (hW : 0 < W) (e : q * W = G) : 2 ≤ q := by
  rcases Int.lt_or_le q 2 with h1 | h1
  · have : q * W ≤ 1 * W := Int.mul_le_mul_of_nonneg_right (by omega) (by omega)
    omega
  · exact h1
theorem Good.step {Y a G u W q T : Int} (h : Good Y a G u W) (hT : 0 ≤ T) (hTW : T < W) (e : q * W + T = G) : Good Y u W (a - q * u) T := by
  have hq := quot_one h.lt hT hTW e
  have hab := natAbs_alt h.sgn hq h.une
  have hup : 0 < (u.natAbs : Int) := by have := h.une; omega
  have hqu : (u.natAbs : Int) ≤ q * (u.natAbs : Int) := by
    have := Int.mul_le_mul_of_nonneg_right hq (Int.le_of_lt hup)
    omega
  refine ⟨by omega, hT, hTW, ?_, ?_, ?_, fun hu => absurd hu h.une, fun h0 => ?_⟩
  · have e1 : u * (a - q * u) = a * u - q * (u * u) := by
      rw [Int.mul_sub, Int.mul_comm u a, Int.mul_left_comm]
    have : 0 ≤ q * (u * u) := Int.mul_nonneg (by omega) (by
      rcases Int.le_total 0 u with hu | hu
      · exact Int.mul_nonneg hu hu
      · exact Int.mul_nonneg_of_nonpos_of_nonpos hu hu)
    have := h.sgn
    omega
  · rw [hab, Int.add_mul, Int.mul_assoc, Int.mul_left_comm q]
    have e2 : (u.natAbs : Int) * (q * W + T) = (u.natAbs : Int) * (q * W) + (u.natAbs : Int) * T := Int.mul_add _ _ _
    rw [e] at e2
    have := h.det
    omega
  · omega
  · rw [hab]
    subst h0
    have hq2 : 2 ≤ q := quot_two h.lt (by omega) (by omega)
    have h2u : 2 * (u.natAbs : Int) ≤ q * (u.natAbs : Int) := Int.mul_le_mul_of_nonneg_right hq2 (Int.le_of_lt hup)
    refine ⟨?_, by omega⟩
    rcases Int.lt_or_le u 0 with hu | hu
    · have : a ≠ 0 := fun ha => by have := h.first ha; omega
      omega
    · omega
/-- the loop's own states -/
inductive Stand (x y : Int) : Int → Int → Int → Int → Int → Int → Prop
  | start : Stand x y 1 0 x 0 1 y
  | on {a b g u v w : Int} (s : Int) : (s = 1 ∨ s = -1) → 0 < s * y → Good (s * y) a (s * g) u (s * w) → a * x + b * y = g → u * x + v * y = w → (∀ e, e ∣ g → e ∣ w → e ∣ x ∧ e ∣ y) → Stand x y a b g u v w
theorem fmod_signed {g w s : Int} (hs : s = 1 ∨ s = -1) (hw : 0 < s * w) : 0 ≤ s * g.fmod w ∧ s * g.fmod w < s * w ∧ g.fdiv w * (s * w) + s * g.fmod w = s * g := by
  obtain ⟨e, _, h1, h2⟩ := fdiv_fmod_facts g w
  rcases hs with rfl | rfl
  · have := h1 (by omega); refine ⟨by omega, by omega, ?_⟩; rw [Int.one_mul, Int.one_mul, Int.one_mul]; exact e
  · have := h2 (by omega)
    refine ⟨by omega, by omega, ?_⟩
    have : g.fdiv w * (-1 * w) = -(g.fdiv w * w) := by rw [Int.neg_mul, Int.one_mul, Int.mul_neg]
    omega
theorem Reach.stand {x y a b g u v w : Int} (h : Reach x y a b g u v w) : Stand x y a b g u v w := by
  induction h with
  | start => exact .start
  | @step a b g u v w _ hw ih =>
    cases ih with
    | start =>
      have hs : ∃ s : Int, (s = 1 ∨ s = -1) ∧ 0 < s * y := by
        rcases Int.lt_or_gt_of_ne hw with h | h
        · exact ⟨-1, .inr rfl, by omega⟩
        · exact ⟨1, .inl rfl, by omega⟩
      obtain ⟨s, hs, hy⟩ := hs
      obtain ⟨h1, h2, h3⟩ := fmod_signed (g := x) hs hy
      obtain ⟨e0, _⟩ := fdiv_fmod_facts x y
      refine .on s hs hy ⟨hy, h1, h2, by omega, ?_, by omega, by omega, fun _ => ⟨by omega, by omega⟩⟩ (by omega) ?_ (fun e d1 d2 => ⟨?_, d1⟩)
      · simp
      · rw [Int.mul_zero, Int.sub_zero, Int.one_mul, Int.mul_one, Int.zero_sub, Int.neg_mul]; omega
      · have : x = x.fdiv y * y + x.fmod y := by omega
        rw [this]; exact Int.dvd_add (Int.dvd_mul_of_dvd_right d1) d2
    | on s hs hy G e1 e2 hd =>
      have hws : 0 < s * w := by
        have := G.wnn
        rcases hs with rfl | rfl <;> omega
      obtain ⟨h1, h2, h3⟩ := fmod_signed (g := g) hs hws
      obtain ⟨e0, _⟩ := fdiv_fmod_facts g w
      refine .on s hs hy (G.step h1 h2 h3) e2 ?_ (fun e d1 d2 => hd e ?_ d1)
      · have e4 : (a - g.fdiv w * u) * x + (b - g.fdiv w * v) * y = (a * x + b * y) - g.fdiv w * (u * x + v * y) := by
          rw [Int.sub_mul, Int.sub_mul, Int.mul_add, Int.mul_assoc, Int.mul_assoc]; omega
        rw [e4, e1, e2]; omega
      · have : g = g.fdiv w * w + g.fmod w := by omega
        rw [this]; exact Int.dvd_add (Int.dvd_mul_of_dvd_right d1) d2
theorem Reach.ends {x y : Int} : ∀ (n : Nat) {a b g u v w : Int}, w.natAbs ≤ n → Reach x y a b g u v w → ∃ a' b' g' u' v', Reach x y a' b' g' u' v' 0
  | 0, a, b, g, u, v, w, hn, h => by
    have e : w = 0 := by omega
    subst e
    exact ⟨a, b, g, u, v, h⟩
  | n + 1, a, b, g, u, v, w, hn, h => by
    by_cases hw : w = 0
    · subst hw; exact ⟨a, b, g, u, v, h⟩
    · have hl := fmod_less g hw
      exact Reach.ends n (by omega) (h.step hw)
/-- what extgcd hands back for a second number that is not 0 -/
structure IsGcd (x y a b d : Int) : Prop where
  pos : 0 < d
  dx : d ∣ x
  dy : d ∣ y
  bez : a * x + b * y = d
  low : -(y.natAbs : Int) < (if y < 0 then -(2 * a * d) else 2 * a * d)
  high : (if y < 0 then -(2 * a * d) else 2 * a * d) ≤ (y.natAbs : Int)
  aY : a.natAbs ≤ y.natAbs
  dY : d.natAbs ≤ y.natAbs
theorem le_mul_pos {u G : Int} (hu : 0 < u) (hG : 0 < G) : u ≤ u * G ∧ G ≤ u * G := by
  have h1 : u * 1 ≤ u * G := Int.mul_le_mul_of_nonneg_left (by omega) (by omega)
  have h2 : 1 * G ≤ u * G := Int.mul_le_mul_of_nonneg_right (by omega) (by omega)
  omega
theorem egcd_isGcd (x : Int) {y : Int} (hy : y ≠ 0) : IsGcd x y (egcd x y).1 (egcd x y).2.1 (egcd x y).2.2 := by
  obtain ⟨a, b, g, u, v, h⟩ := Reach.ends y.natAbs (Nat.le_refl _) (Reach.start (x := x) (y := y))
  have hl := h.last rfl
  cases h.stand with
  | start => exact absurd rfl hy
  | on s hs hsy G e1 e2 hd =>
    have hup : 0 < (u.natAbs : Int) := by have := G.une; omega
    have hdet : (u.natAbs : Int) * (s * g) = s * y := by have := G.det; rw [Int.mul_zero, Int.mul_zero, Int.zero_add] at this; exact this
    obtain ⟨b1, b2⟩ := le_mul_pos hup G.gpos
    rw [hdet] at b1 b2
    obtain ⟨l1, l2⟩ := G.last (by omega)
    have m1 : -(u.natAbs : Int) * (s * g) < 2 * a * (s * g) := Int.mul_lt_mul_of_pos_right l1 G.gpos
    have m2 : 2 * a * (s * g) ≤ (u.natAbs : Int) * (s * g) := Int.mul_le_mul_of_nonneg_right l2 (Int.le_of_lt G.gpos)
    rw [Int.neg_mul, hdet] at m1
    rw [hdet] at m2
    obtain ⟨dx, dy⟩ := hd g ⟨1, by omega⟩ ⟨0, by omega⟩
    rcases hs with rfl | rfl
    · have hg : g ≥ 0 := by have := G.gpos; omega
      have e : egcd x y = (a, b, g) := by unfold egcd; rw [hl]; simp only [hg, if_true]
      rw [e]
      show IsGcd x y a b g
      rw [Int.one_mul] at hsy m1 m2 b1 b2
      rw [Int.one_mul] at m1 m2 b2
      exact ⟨by have := G.gpos; omega, dx, dy, e1, by rw [if_neg (by omega)]; omega, by rw [if_neg (by omega)]; omega, by omega, by omega⟩
    · have hg : ¬ (g ≥ 0) := by have := G.gpos; omega
      have e : egcd x y = (-a, -b, -g) := by unfold egcd; rw [hl]; simp only [hg, if_false]
      rw [e]
      show IsGcd x y (-a) (-b) (-g)
      have e3 : 2 * -a * -g = 2 * a * g := by rw [Int.mul_neg, Int.mul_neg, Int.neg_mul, Int.neg_neg]
      have e4 : 2 * a * (-1 * g) = -(2 * a * g) := by rw [Int.neg_mul, Int.one_mul, Int.mul_neg]
      refine ⟨by have := G.gpos; omega, Int.neg_dvd.mpr dx, Int.neg_dvd.mpr dy, ?_, ?_, ?_, by omega, by omega⟩
      · show -a * x + -b * y = -g
        rw [Int.neg_mul, Int.neg_mul]; omega
      · show _ < (if y < 0 then -(2 * -a * -g) else _)
        rw [if_pos (by omega), e3]; omega
      · show (if y < 0 then -(2 * -a * -g) else _) ≤ _
        rw [if_pos (by omega), e3]; omega
theorem egcd_zero (x : Int) (hx : 0 ≤ x) : egcd x 0 = (1, 0, x) := by
  unfold egcd
  rw [eloop_end]
  simp only [ge_iff_le, hx, if_true]
theorem egcd_of_zero {y : Int} (hy : y ≠ 0) : egcd 0 y = (0, (if 0 < y then 1 else -1), (y.natAbs : Int)) := by
  unfold egcd
  obtain ⟨n, hn⟩ : ∃ n, y.natAbs = n + 1 := ⟨y.natAbs - 1, by omega⟩
  rw [hn, eloop_turn n hy, Int.zero_fdiv, Int.zero_fmod, eloop_end, ← hn]
  dsimp only
  by_cases h : 0 < y
  · have h' : y ≥ 0 := by omega
    have e : ((y.natAbs : Nat) : Int) = y := by omega
    rw [if_pos h', if_pos h, e]
  · have h' : ¬ y ≥ 0 := by omega
    have e : ((y.natAbs : Nat) : Int) = -y := by omega
    rw [if_neg h', if_neg h, e]
    simp
open Builtin.Int (intBits)
theorem bits_of_lt {x : Int} {k : Nat} (h : x.natAbs < 2 ^ k) : intBits x ≤ k := intBits_le_iff.mpr h
/-- one bound for all -/
def big : Nat := 2 ^ 450
theorem big_is : 2 ^ 220 + 2 ^ 220 * 2 ^ 220 < big := by decide +kernel
theorem bits_of_big {x : Int} (h : x.natAbs < big) : intBits x ≤ 450 := intBits_le_iff.mpr h
/-- the numbers of a state, w not 0, stay small -/
theorem Stand.small {x y a b g u v w : Int} (h : Stand x y a b g u v w) (hx : x.natAbs < 2 ^ 220) (hy : y.natAbs < 2 ^ 220) : g.natAbs < 2 ^ 220 ∧ w.natAbs < 2 ^ 220 ∧ u.natAbs < 2 ^ 220 ∧ v.natAbs < big := by
  cases h with
  | start => exact ⟨hx, hy, by decide, by decide +kernel⟩
  | on s hs hsy G e1 e2 hd =>
    have hup : 0 < (u.natAbs : Int) := by have := G.une; omega
    obtain ⟨b1, b2⟩ := le_mul_pos hup G.gpos
    have hle : (u.natAbs : Int) * (s * g) ≤ s * y := by
      have := G.det
      have : 0 ≤ (a.natAbs : Int) * (s * w) := Int.mul_nonneg (by omega) G.wnn
      omega
    have hgp := G.gpos
    have hgn : g.natAbs < 2 ^ 220 := by rcases hs with rfl | rfl <;> omega
    have hwn : w.natAbs < 2 ^ 220 := by have := G.lt; have := G.wnn; rcases hs with rfl | rfl <;> omega
    have hun : u.natAbs < 2 ^ 220 := by rcases hs with rfl | rfl <;> omega
    refine ⟨hgn, hwn, hun, ?_⟩
    have hyp : y.natAbs ≠ 0 := by rcases hs with rfl | rfl <;> omega
    have hv : v * y = w - u * x := by omega
    have h1 : v.natAbs * y.natAbs ≤ w.natAbs + u.natAbs * x.natAbs := by
      rw [← Int.natAbs_mul, hv, ← Int.natAbs_mul]; omega
    have h2 : v.natAbs ≤ v.natAbs * y.natAbs := Nat.le_mul_of_pos_right _ (by omega)
    have h3 : u.natAbs * x.natAbs ≤ 2 ^ 220 * 2 ^ 220 := Nat.mul_le_mul (by omega) (by omega)
    have h4 := big_is
    omega
theorem Reach.okU {x y a b g u v w : Int} (h : Reach x y a b g u v w) (hx : x.natAbs < 2 ^ 220) (hy : y.natAbs < 2 ^ 220) : IntMulOk (g.fdiv w) u := by
  obtain ⟨h1, _, h3, _⟩ := h.stand.small hx hy
  exact IntMulOk.of_le (intBits_fdiv_le (bits_of_lt h1)) (bits_of_lt h3) (by decide)
theorem Reach.okV {x y a b g u v w : Int} (h : Reach x y a b g u v w) (hx : x.natAbs < 2 ^ 220) (hy : y.natAbs < 2 ^ 220) : IntMulOk (g.fdiv w) v := by
  obtain ⟨h1, _, _, h3⟩ := h.stand.small hx hy
  exact IntMulOk.of_le (intBits_fdiv_le (bits_of_lt h1)) (bits_of_big h3) (by decide)
theorem Reach.noPy {x y a b g u v w : Int} (h : Reach x y a b g u v w) (hw : w ≠ 0) (hx : x.natAbs < 2 ^ 220) (hy : y.natAbs < 2 ^ 220) : Builtin.divisionGoesByPylong g w = false := by
  obtain ⟨_, h1, _, _⟩ := h.stand.small hx hy
  refine PyProof.noPylong_of_log2 ?_
  have : w.natAbs.log2 < 220 := (Nat.log2_lt (by omega)).mpr h1
  omega
/-- what extgcd gives stays small -/
theorem egcd_small {x y : Int} (hx0 : 0 ≤ x) (hx : x.natAbs < 2 ^ 220) (hy : y.natAbs < 2 ^ 220) :
    0 ≤ (egcd x y).2.2 ∧ (egcd x y).2.2.natAbs < 2 ^ 220 ∧ (egcd x y).1.natAbs < big ∧ (egcd x y).2.1.natAbs < big := by
  by_cases h : y = 0
  · subst h
    rw [egcd_zero x hx0]
    exact ⟨hx0, hx, by show (1 : Int).natAbs < big; decide +kernel, by show (0 : Int).natAbs < big; decide +kernel⟩
  · have H := egcd_isGcd x h
    generalize (egcd x y).1 = a at H ⊢
    generalize (egcd x y).2.1 = b at H ⊢
    generalize (egcd x y).2.2 = d at H ⊢
    have h450 := big_is
    refine ⟨Int.le_of_lt H.pos, Nat.lt_of_le_of_lt H.dY hy, by have := H.aY; omega, ?_⟩
    have hv : b * y = d - a * x := by have := H.bez; omega
    have h1 : b.natAbs * y.natAbs ≤ d.natAbs + a.natAbs * x.natAbs := by
      rw [← Int.natAbs_mul, hv, ← Int.natAbs_mul]; omega
    have h2 : b.natAbs ≤ b.natAbs * y.natAbs := Nat.le_mul_of_pos_right _ (by omega)
    have h3 : a.natAbs * x.natAbs ≤ 2 ^ 220 * 2 ^ 220 := Nat.mul_le_mul (by have := H.aY; omega) (by omega)
    have h4 := big_is
    have := H.dY
    omega
end Mine

/-! part MathB -/
open Builtin.Int (intBits)
namespace Mine
/-- one turn of gcd_of_list's loop; behind a divisor 1 there come noughts only -/
def gnext (z : Int × List Int) (n : Int) : Int × List Int := if z.1 = 1 then (1, z.2 ++ [0]) else ((egcd z.1 n).2.2, z.2.map (fun c => c * (egcd z.1 n).1) ++ [(egcd z.1 n).2.1])
def golF (ns : List Int) : Int × List Int := ns.foldl gnext (0, [])
theorem golF_snoc (ns : List Int) (n : Int) : golF (ns ++ [n]) = gnext (golF ns) n := by unfold golF; rw [List.foldl_append]; rfl
theorem gnext_one (cs : List Int) : ∀ ns : List Int, ns.foldl gnext (1, cs) = (1, cs ++ List.replicate ns.length 0)
  | [] => by simp
  | n :: r => by
    rw [List.foldl_cons]
    have e : gnext (1, cs) n = (1, cs ++ [0]) := by unfold gnext; rw [if_pos rfl]
    rw [e, gnext_one _ r, List.append_assoc, List.length_cons, List.replicate_succ]
    rfl
/-- what is so of the answer for ns: a divisor not below 0, a coefficient a number, all of small size -/
structure Sound (ns : List Int) (g : Int) (cs : List Int) : Prop where
  at_ : golF ns = (g, cs)
  g0 : 0 ≤ g
  gs : g.natAbs < 2 ^ 220
  cl : cs.length = ns.length
  cb : ∀ c ∈ cs, intBits c ≤ 450 * ns.length
theorem Sound.nil : Sound [] 0 [] := ⟨rfl, by decide, by decide, rfl, fun _ h => nomatch h⟩
theorem bits_zero {k : Nat} : intBits 0 ≤ k := intBits_le_iff.mpr (by show (0 : Int).natAbs < 2 ^ k; exact Nat.two_pow_pos k)
theorem Sound.next {ns : List Int} {g : Int} {cs : List Int} (h : Sound ns g cs) {n : Int} (hn : n.natAbs < 2 ^ 220) : Sound (ns ++ [n]) (gnext (g, cs) n).1 (gnext (g, cs) n).2 := by
  have e : golF (ns ++ [n]) = gnext (g, cs) n := by rw [golF_snoc, h.at_]
  have ll : (ns ++ [n]).length = ns.length + 1 := by simp
  by_cases h1 : g = 1
  · subst h1
    have e2 : gnext (1, cs) n = (1, cs ++ [0]) := by unfold gnext; rw [if_pos rfl]
    rw [e2] at e ⊢
    refine ⟨e, by show (0 : Int) ≤ 1; decide, by show (1 : Int).natAbs < 2 ^ 220; decide, by simp [h.cl], fun c hc => ?_⟩
    rw [ll]
    rcases List.mem_append.mp hc with hc | hc
    · exact Nat.le_trans (h.cb c hc) (by omega)
    · rw [List.mem_singleton.mp hc]; exact bits_zero
  · have e2 : gnext (g, cs) n = ((egcd g n).2.2, cs.map (fun c => c * (egcd g n).1) ++ [(egcd g n).2.1]) := by unfold gnext; rw [if_neg h1]
    rw [e2] at e ⊢
    obtain ⟨s1, s2, s3, s4⟩ := egcd_small h.g0 h.gs hn
    refine ⟨e, s1, s2, by simp [h.cl], fun c hc => ?_⟩
    rw [ll]
    rcases List.mem_append.mp hc with hc | hc
    · obtain ⟨c', hc', rfl⟩ := List.mem_map.mp hc
      exact Nat.le_trans (intBits_mul_le (h.cb c' hc') (bits_of_big s3)) (by omega)
    · rw [List.mem_singleton.mp hc]; exact Nat.le_trans (bits_of_big s4) (by omega)
theorem sound : ∀ (ns : List Int), (∀ n ∈ ns, n.natAbs < 2 ^ 220) → Sound ns (golF ns).1 (golF ns).2 := by
  have key : ∀ (ms ns : List Int), (∀ n ∈ ns ++ ms, n.natAbs < 2 ^ 220) → Sound ns (golF ns).1 (golF ns).2 → Sound (ns ++ ms) (golF (ns ++ ms)).1 (golF (ns ++ ms)).2 := by
    intro ms
    induction ms with
    | nil => intro ns _ h; rw [List.append_nil]; exact h
    | cons m r ih =>
      intro ns hs h
      have h1 := h.next (n := m) (hs m (by simp))
      have e : gnext ((golF ns).1, (golF ns).2) m = golF (ns ++ [m]) := by rw [golF_snoc]
      rw [e] at h1
      have h2 := ih (ns ++ [m]) (by rw [List.append_assoc]; exact hs) h1
      rw [List.append_assoc] at h2
      exact h2
  intro ns hs
  exact key ns [] hs Sound.nil
/-- the loop of gcd_of_list behind pre -/
structure Going (pre : List Int) (g : Int) (cs : List Int) (len : Int) : Prop where
  so : Sound pre g cs
  num : len = (cs.length : Int)
  on : g ≠ 1
theorem Going.start : Going [] 0 [] 0 := ⟨Sound.nil, rfl, by decide⟩
theorem Going.cstep {pre : List Int} {g : Int} {cs : List Int} {len : Int} (h : Going pre g cs len) (n : Int) : gnext (g, cs) n = ((egcd g n).2.2, cs.map (fun c => c * (egcd g n).1) ++ [(egcd g n).2.1]) := by
  unfold gnext; rw [if_neg h.on]
theorem Going.of_next {pre : List Int} {g : Int} {cs cs' : List Int} {len : Int} {n : Int} (h : Going pre g cs len) (hn : n.natAbs < 2 ^ 220) (hc : cs' = cs.map (fun c => c * (egcd g n).1)) (h1 : (egcd g n).2.2 ≠ 1) : Going (pre ++ [n]) (egcd g n).2.2 (cs' ++ [(egcd g n).2.1]) (len + 1) := by
  have S := h.so.next hn
  rw [h.cstep, ← hc] at S
  have e : cs'.length = cs.length := by rw [hc, List.length_map]
  exact ⟨S, by have := h.num; simp only [List.length_append, List.length_singleton]; omega, h1⟩
theorem map_same {cs : List Int} {m : Int} (hm : m = 1) : cs = cs.map (fun c => c * m) := by
  subst hm
  simp
theorem Going.same {pre : List Int} {g : Int} {cs : List Int} {len : Int} {n : Int} (h : Going pre g cs len) (hn : n.natAbs < 2 ^ 220) (hm : (egcd g n).1 = 1) (h1 : (egcd g n).2.2 ≠ 1) : Going (pre ++ [n]) (egcd g n).2.2 (cs ++ [(egcd g n).2.1]) (len + 1) :=
  h.of_next hn (map_same hm) h1
/-- the loop is left behind n: the divisor is 1 -/
theorem Going.left {ns pre post : List Int} {g : Int} {cs cs' : List Int} {len : Int} {n : Int} (h : Going pre g cs len) (e : ns = pre ++ n :: post) (hn : n.natAbs < 2 ^ 220) (hc : cs' = cs.map (fun c => c * (egcd g n).1)) (h1 : (egcd g n).2.2 = 1) :
    golF ns = ((egcd g n).2.2, (cs' ++ [(egcd g n).2.1]) ++ List.replicate ((ns.length : Int) - (len + 1)).toNat 0) := by
  have S := h.so.next hn
  rw [h.cstep, ← hc] at S
  have e2 : golF ns = post.foldl gnext (golF (pre ++ [n])) := by
    rw [e, show pre ++ n :: post = (pre ++ [n]) ++ post by simp]
    unfold golF
    rw [List.foldl_append]
  have e3 : ((ns.length : Int) - (len + 1)).toNat = post.length := by
    have := h.num
    have := h.so.cl
    have : ns.length = pre.length + (post.length + 1) := by rw [e]; simp
    omega
  rw [e2, S.at_, e3, h1, gnext_one]
/-- coefficients, the first k of them multiplied -/
structure Scaled (m : Int) (cs₀ : List Int) (k : Nat) (cs : List Int) : Prop where
  eq : cs = (cs₀.take k).map (fun c => c * m) ++ cs₀.drop k
theorem Scaled.whole {m : Int} {cs cs' : List Int} {k : Nat} (h : Scaled m cs k cs') (hk : cs.length = k) : cs' = cs.map (fun c => c * m) := by
  rw [h.eq, ← hk, List.take_length, List.drop_length, List.append_nil]
theorem Going.scaled {pre : List Int} {g : Int} {cs cs' : List Int} {len : Int} {n : Int} {k : Nat} (h : Going pre g cs len) (hn : n.natAbs < 2 ^ 220) (hs : Scaled (egcd g n).1 cs k cs') (hk : cs.length = k) (h1 : (egcd g n).2.2 ≠ 1) : Going (pre ++ [n]) (egcd g n).2.2 (cs' ++ [(egcd g n).2.1]) (len + 1) :=
  h.of_next hn (hs.whole hk) h1
theorem Scaled.len {m : Int} {cs cs' : List Int} {k : Nat} (h : Scaled m cs k cs') : cs'.length = cs.length := by
  rw [h.eq, List.length_append, List.length_map, List.length_take, List.length_drop]
  omega
theorem Scaled.step {m k : Int} {cs cs' pre : List Int} (h : Scaled m cs pre.length cs') (hk : k = 0 + (pre.length : Int)) (hl : pre.length < cs.length) : Scaled m cs (pre ++ [k]).length (cs'.set k.toNat (cs'.getD k.toNat 0 * m)) := by
  have e : k.toNat = pre.length := by omega
  have h1 := h.len
  refine ⟨?_⟩
  rw [e, List.length_append, List.length_singleton]
  apply List.ext_getElem?
  intro j
  rw [List.getElem?_set, List.getD_eq_getElem?_getD, h.eq]
  have htl : ((cs.take pre.length).map (fun c => c * m)).length = pre.length := by rw [List.length_map, List.length_take]; omega
  have htl2 : ((cs.take (pre.length + 1)).map (fun c => c * m)).length = pre.length + 1 := by rw [List.length_map, List.length_take]; omega
  by_cases hj : pre.length = j
  · subst hj
    rw [if_pos rfl, if_pos (by rw [List.length_append, htl, List.length_drop]; omega)]
    rw [List.getElem?_append_right (by omega), htl, List.getElem?_append_left (by omega), List.getElem?_map, List.getElem?_take_of_lt (by omega), List.getElem?_drop]
    simp [hl]
  · rw [if_neg hj]
    by_cases hj2 : j < pre.length
    · rw [List.getElem?_append_left (by omega), List.getElem?_append_left (by omega), List.getElem?_map, List.getElem?_map, List.getElem?_take_of_lt hj2, List.getElem?_take_of_lt (by omega)]
    · rw [List.getElem?_append_right (by omega), List.getElem?_append_right (by omega), htl, htl2, List.getElem?_drop, List.getElem?_drop]
      congr 1
      omega
theorem Scaled.bits {pre : List Int} {g : Int} {cs cs' : List Int} {len : Int} {n : Int} {k : Nat} (h : Going pre g cs len) (hn : n.natAbs < 2 ^ 220) (hs : Scaled (egcd g n).1 cs k cs') : ∀ c ∈ cs', intBits c ≤ 450 * pre.length + 450 := by
  intro c hc
  rw [hs.eq] at hc
  rcases List.mem_append.mp hc with hc | hc
  · obtain ⟨c', hc', rfl⟩ := List.mem_map.mp hc
    exact intBits_mul_le (h.so.cb c' (List.mem_of_mem_take hc')) (bits_of_big (egcd_small h.so.g0 h.so.gs hn).2.2.1)
  · exact Nat.le_trans (h.so.cb c (List.mem_of_mem_drop hc)) (by omega)
theorem bits_getD {cs : List Int} {k : Nat} (h : ∀ c ∈ cs, intBits c ≤ k) (j : Nat) : intBits (cs.getD j 0) ≤ k := by
  rw [List.getD_eq_getElem?_getD]
  cases e : cs[j]? with
  | none => exact bits_zero
  | some c => exact h c (List.mem_of_getElem? e)
theorem Scaled.ok {ns pre post : List Int} {g : Int} {cs cs' : List Int} {len : Int} {n : Int} {k : Nat} (h : Going pre g cs len) (hn : n.natAbs < 2 ^ 220) (hs : Scaled (egcd g n).1 cs k cs') (hp : ns = pre ++ n :: post) (hl : ns.length ≤ 70) (j : Nat) : IntMulOk (cs'.getD j 0) (egcd g n).1 := by
  have e : ns.length = pre.length + (post.length + 1) := by rw [hp]; simp
  exact IntMulOk.of_le (bits_getD (Scaled.bits h hn hs) j) (bits_of_big (egcd_small h.so.g0 h.so.gs hn).2.2.1) (by omega)
theorem Scaled.start {m : Int} {cs : List Int} : Scaled m cs ([] : List Int).length cs := ⟨by simp⟩
end Mine

/-! part Ext1 -/
namespace Mine
theorem filled (w : World) : hd.heap_39 w.params = hd.heap_39 w.params ∧ Challenge.rw_zf0001_01.row.prog = Challenge.rw_zf0001_01.row.prog := by
  k_fill
  exact ⟨rfl, rfl⟩
theorem egcd_pos {x y a b g u v w : Int} (h : Reach x y a b g u v w) (hw : ¬ w ≠ 0) (hg : 0 ≤ g) : egcd x y = (a, b, g) := by
  unfold egcd
  rw [h.last (Decidable.not_not.mp hw)]
  simp only [ge_iff_le, hg, if_true]
theorem egcd_neg {x y a b g u v w : Int} (h : Reach x y a b g u v w) (hw : ¬ w ≠ 0) (hg : ¬ 0 ≤ g) : egcd x y = (-a, -b, -g) := by
  unfold egcd
  rw [h.last (Decidable.not_not.mp hw)]
  simp only [ge_iff_le, hg, if_false]
theorem tl_two {h₀ h : Heap} {L : Addr} {q x : Addr × Obj} {news : List (Addr × Obj)} (N : News h₀ L h (q :: x :: news)) : News h₀ L h (news ++ [q]) := fun p hp => N p ((List.mem_append.mp hp).elim (fun h => .tail _ (.tail _ h)) fun h => by rw [List.mem_singleton.mp h]; exact .head _)
theorem news_two {h₀ h : Heap} {L : Addr} {q x : Addr × Obj} {news : List (Addr × Obj)} (N : News h₀ L h (q :: x :: news)) : News h₀ L h (q :: news) := fun p hp => N p ((List.mem_cons.mp hp).elim (fun h => h ▸ .head _) fun h => .tail _ (.tail _ h))
local macro_rules | `(tactic| walk_at "exec") => `(tactic| ((with_reducible show wpAny _ _ (exec (Stmt.While _ _ _ _) _) _ _ _); refine stopHere ?_))
local macro_rules | `(tactic| walk_at "call builtin:divmod") => `(tactic| ((with_reducible show wpAny _ _ (call (Value.builtin _) [Value.int _ _, Value.int _ _]) _ _ _); refine divmod_N (by assumption) (by assumption) (by assumption) ?_ (Or.inl (Reach.noPy (by assumption) (by assumption) (by assumption) (by assumption))); intro _ _ _))
local macro_rules | `(tactic| mul_fits) => `(tactic| first | exact Reach.okU (by assumption) (by assumption) (by assumption) | exact Reach.okV (by assumption) (by assumption) (by assumption))
theorem ext_call {w : World} {loose : List Str} {mean : ExcName → Option Value} {mg mb : Str → Option Value} {dp un : Nat} {gd : Option (List Code)} {cn : Str} {cs : Scope} {a : Addr} {ccd : Value} {cl : List (Str × Addr)} {outer : List Env}
    {A₀ : Around} {base h₀ : Heap} {L : Addr} {m : Str → Option Value} {news : List (Addr × Obj)} {s : Shared} {Q E : Value → Shared → Prop} {x y : Int} {t u : Tok}
    (B : Below A₀ base outer h₀) (F : Fr h₀ L s.heap m) (X : (hd.heap_39 w.params).In h₀) (N : News h₀ L s.heap news) (T : Top hd.view_39 loose mean mg mb h₀) (hk : cs.kind = .function)
    (hx : x.natAbs < 2 ^ 220) (hy : y.natAbs < 2 ^ 220) (hd : dp + 2 < recursionLimit) (hu : un + 16 < cLine)
    (hret : ∀ D t1 t2 t3 c h' tk', Fr h₀ L h' m → News h₀ L h' ((D, ({ cls := .type "tuple", data := .seq #[.int (egcd x y).1 t1, .int (egcd x y).2.1 t2, .int (egcd x y).2.2 t3] c } : Obj)) :: news) → AllLt D news → Q (.ref D) { s with heap := h', toks := tk' }) :
    wpAny (model Challenge.rw_zf0001_01.row.prog w) (ktrTop dp un gd cn cs L a ccd cl outer) (call (.ref 21) [.int x t, .int y u]) Q E s := by
  k_with_none
  w_top off
  refine wpAny_call ?_
  k_dflt ktr_enter
  k_with "state" => first | exact Reach.start | exact Reach.step (by assumption) (by assumption)
  k_with "measure" => exact fmod_less _ (by assumption)
  k_steps
  refine goOn ?_
  k_while_given ["x", "y"] (fun x y script a b g u v w => Reach x y a b g u v w) (fun x y script a b g u v w => w.natAbs) "a" "b" "g" "u" "v" "w"
  k_steps
  · have e := egcd_pos (by assumption) (by first | assumption | omega) (by first | assumption | omega)
    rw [e] at hret
    exact hret _ _ _ _ _ _ _ (by assumption) (news_two (by assumption)) (by exact And.right (by assumption))
  · have e := egcd_neg (by assumption) (by first | assumption | omega) (by first | assumption | omega)
    rw [e] at hret
    exact hret _ _ _ _ _ _ _ (by assumption) (news_two (by assumption)) (by exact And.right (by assumption))
end Mine

/-! part Gol1 -/
namespace Mine
theorem ok_item {ns : List Int} {n : Int} (hx : ∀ x ∈ ns, x.natAbs < 2 ^ 220) (h : n ∈ ns) : n.natAbs < 2 ^ 220 := hx n h
-- the walk keeps its table of lines by their number: one line more here than in the part before
local macro_rules | `(tactic| walk_at "no key of mine") => `(tactic| fail "none")
local macro_rules | `(tactic| walk_at "call ref") => `(tactic| (
  (with_reducible show wpAny _ _ (call (Value.ref 21) [Value.int _ _, Value.int _ _]) _ _ _)
  refine' ext_call ?k1 ?k2 ?k3 ?k4 ?k5 ?kK ?kx ?ky ?kd ?ku ?_
  (case k1 => k_asm); (case k2 => k_asm); (case k3 => k_asm); (case k4 => k_asm); (case k5 => k_asm); (case kK => first | exact rfl | assumption)
  (case kx => exact Sound.gs (Going.so (by assumption))); (case ky => exact ok_item (by assumption) (by assumption)); (case kd => ktr_room); (case ku => ktr_units)
  k_whole
  intro D' t1' t2' t3' c' h' tk' F' N' l1
  simp only [AllLt] at l1))
theorem allNe_append {d : Addr} {a b : List (Addr × Obj)} (h1 : ∀ p ∈ a, p.1 ≠ d) (h2 : ∀ p ∈ b, p.1 ≠ d) : ∀ p ∈ a ++ b, p.1 ≠ d := fun p hp => (List.mem_append.mp hp).elim (h1 p) (h2 p)
theorem allNe_lt {d : Addr} {l : List (Addr × Obj)} (h : AllLt d l) : ∀ p ∈ l, p.1 ≠ d := fun p hp => Nat.ne_of_lt (ktn_ltOf h p hp)
local macro_rules | `(tactic| k_all) => `(tactic| first | exact allNe_lt (by first | assumption | exact And.right (by assumption)) | exact OwnOff.ne (by assumption) (by k_memK) | exact allNe_append (by k_all) (by k_all))
local macro_rules | `(tactic| mul_fits) => `(tactic| exact Scaled.ok (by assumption) (ok_item (by assumption) (by assumption)) (by assumption) (by assumption) (by assumption) _)
theorem my_extend {prog : Program} {w : World} {A : Around} {E : Value → Shared → Prop} {s : Shared} {h₀ : Heap} {L D b : Addr} {m : Str → Option Value} {news news' : List (Addr × Obj)} {its its2 : Array Value} {n n2 : Nat} {Q : Value → Shared → Prop}
    (F : Fr h₀ L s.heap m) (N : News h₀ L s.heap news) (hb : (b, W.listOf its2 n2) ∈ news)
    (U : Upd D (W.listOf its n) (W.listOf (its.toList ++ its2.toList).toArray (if its2.toList.length = 0 then n else n + 1)) news news') (hz : its.size + its2.size ≤ 1000)
    (h : ∀ h', Fr h₀ L h' m → News h₀ L h' news' → Q .none { s with heap := h' }) : wpAny (model prog w) A (call (.builtin "list.extend") [.ref D, .ref b]) Q E s := by
  have hd : ¬(!its.isEmpty && Builtin.List.listTooLong (its.size + its2.size)) = true := by
    have : Builtin.List.listTooLong (its.size + its2.size) = false := by simp [Builtin.List.listTooLong, sizeLine_eq]; omega
    rw [this]; simp
  by_cases e : its2.toList.length = 0
  · have e0 : its2.toList = [] := List.length_eq_zero_iff.mp e
    rw [if_pos e, e0, List.append_nil, Array.toArray_toList] at U
    exact kxn_extend F N hb e0 U hd (by rw [Array.length_toList, sizeLine_eq]; omega) (by rw [sizeLine_eq]; omega) h
  · rw [if_neg e] at U
    exact kl_extend F N hb rfl e U hd (by rw [Array.length_toList, sizeLine_eq]; omega) (by rw [sizeLine_eq]; omega) h
local macro_rules | `(tactic| walk_at "call builtin:list.extend") => `(tactic| (
  (with_reducible show wpAny _ _ (call (Value.builtin "list.extend") [Value.ref _, Value.ref _]) _ _ _)
  k_dflt (refine' my_extend ?F ?N ?b ?U ?z ?_; (case F => k_asm); (case N => k_asm); (case b => k_mem); (case U => k_upd); (case z => (simp only [Array.size_push, List.size_toArray] at *); omega))
  intro h' F' N'))
theorem ints_left {us ws : List Value} {cs : List Int} {b : Int} {t : Tok} {k : Nat} (hi : IntsAre us cs) (i1 : IntsAre ws (List.replicate k [0]).flatten) : IntsAre ((us.toArray.push (.int b t)).toList ++ ws.toArray.toList) ((cs ++ [b]) ++ List.replicate k 0) := by
  rw [List.flatten_replicate_singleton] at i1
  have e : (us.toArray.push (.int b t)).toList = us ++ [.int b t] := by simp
  rw [e]
  exact IntsAre.append (IntsAre.append hi (IntsAre.cons b t .nil)) i1
theorem sub_left {r x1 x2 x3 c l : Addr × Obj} {news own : List (Addr × Obj)} : ∀ p ∈ r :: c :: news, p ∈ r :: x1 :: x2 :: x3 :: c :: l :: (news ++ own) := by
  intro p hp
  simp only [List.mem_cons, List.mem_append] at hp ⊢
  rcases hp with h | h | h <;> simp [h]
theorem sub_done {r c l : Addr × Obj} {news : List (Addr × Obj)} : ∀ p ∈ r :: c :: news, p ∈ r :: c :: l :: news := by
  intro p hp
  simp only [List.mem_cons] at hp ⊢
  rcases hp with h | h | h <;> simp [h]
theorem gol_call {w : World} {loose : List Str} {mean : ExcName → Option Value} {mg mb : Str → Option Value} {dp un : Nat} {gd : Option (List Code)} {cn : Str} {cs : Scope} {a : Addr} {ccd : Value} {cl : List (Str × Addr)} {outer : List Env}
    {A₀ : Around} {base h₀ : Heap} {L : Addr} {m : Str → Option Value} {news : List (Addr × Obj)} {s : Shared} {Q E : Value → Shared → Prop} {l : Addr} {us : List Value} {n : Nat} {ns : List Int}
    (B : Below A₀ base outer h₀) (F : Fr h₀ L s.heap m) (X : (hd.heap_39 w.params).In h₀) (N : News h₀ L s.heap news) (T : Top hd.view_39 loose mean mg mb h₀) (hk : cs.kind = .function)
    (hl : (l, listOf us.toArray n) ∈ news) (hi : IntsAre us ns) (hx : ∀ x ∈ ns, x.natAbs < 2 ^ 220) (hlen : ns.length ≤ 70) (hd : dp + 6 < recursionLimit) (hu : un + 48 < cLine)
    (hret : ∀ R C t us' c h' tk', Fr h₀ L h' m → News h₀ L h' ((R, W.listOf #[.int (golF ns).1 t, .ref C] 0) :: (C, W.listOf us'.toArray c) :: news) → @LT.lt Nat _ C R → AllLt C news → IntsAre us' (golF ns).2 → Q (.ref R) { s with heap := h', toks := tk' }) :
    wpAny (model Challenge.rw_zf0001_01.row.prog w) (ktrTop dp un gd cn cs L a ccd cl outer) (call (.ref 28) [.ref l]) Q E s := by
  replace N : News h₀ L s.heap ((l, listOf us.toArray n) :: news) := fun p hp => (List.mem_cons.mp hp).elim (fun h => h ▸ N _ hl) (N p)
  k_with_none
  w_top off
  refine wpAny_call ?_
  k_dflt ktr_enter
  k_with "state" => first | exact Going.start | exact Scaled.start | exact Going.same (by assumption) (ok_item (by assumption) (by assumption)) (by assumption) (by assumption) | exact Scaled.step (by assumption) (by assumption) (by omega) | exact Going.scaled (by assumption) (ok_item (by assumption) (by assumption)) (by assumption) (by simp only [rangeKs_length]; omega) (by assumption)
  k_with "pyIter ref" => refine stopHere ?_
  k_steps
  refine goOn ?_
  k_state (fun pre g cs len => Going pre g cs len) "the_gcd" "coeffs" "coeffs_length"
  case' refine'_1 =>
    have hLp := kInv.so.cl
    have hLn := kInv.num
    have hLs := congrArg List.length kEq
    rw [List.length_append, List.length_cons] at hLs
  k_steps
  · refine goOn ?_
    k_state_given ["multiplier", "coeffs!"] (fun m cs₀ pre cs => Scaled m cs₀ pre.length cs) "coeffs"
    all_goals have hSl := kInv.len
    k_steps
    have e := Going.left (by assumption) (by assumption) (ok_item hx (by assumption)) (Scaled.whole (by assumption) (by simp only [rangeKs_length]; omega)) (by assumption)
    rw [e] at hret
    exact hret _ _ _ _ _ _ _ (by assumption) (kst_newsOf (by assumption) sub_left) (by omega) (And.right (by assumption)) (ints_left (by assumption) (by assumption))
  · have e := Going.left (by assumption) (by assumption) (ok_item hx (by assumption)) (map_same (by assumption)) (by assumption)
    rw [e] at hret
    exact hret _ _ _ _ _ _ _ (by assumption) (kst_newsOf (by assumption) sub_left) (by omega) (And.right (by assumption)) (ints_left (by assumption) (by assumption))
  · rw [kInv.so.at_] at hret
    exact hret _ _ _ _ _ _ _ (by assumption) (kst_newsOf (by assumption) sub_done) (by omega) (And.right (by assumption)) (by assumption)
end Mine

/-! part Row1 -/
namespace Mine
open Builtin.Int (intBits)
/-- a script as the law has it -/
structure Script (h₀ : Heap) (l : Addr) (us : List Value) (ns : List Int) : Prop where
  isl : h₀.IsList l us.toArray
  its : IntsAre us ns
  small : ∀ x ∈ ns, intBits x ≤ 1048576
  short : ns.length ≤ 63
theorem bits_small {x : Int} (h : x.natAbs < 1000) : intBits x ≤ 1048576 := Nat.le_trans (bits_of_lt (k := 20) (by omega)) (by decide)
theorem at_call {w : World} {loose : List Str} {mean : ExcName → Option Value} {mg mb : Str → Option Value} {dp un : Nat} {gd : Option (List Code)} {cn : Str} {cs : Scope} {a : Addr} {ccd : Value} {cl : List (Str × Addr)} {outer : List Env}
    {A₀ : Around} {base h₀ : Heap} {L : Addr} {m : Str → Option Value} {news : List (Addr × Obj)} {s : Shared} {Q E : Value → Shared → Prop} {l : Addr} {us : List Value} {ns : List Int} {k : Int} {t : Tok}
    (B : Below A₀ base outer h₀) (F : Fr h₀ L s.heap m) (X : (hd.heap_39 w.params).In h₀) (N : News h₀ L s.heap news) (T : Top hd.view_39 loose mean mg mb h₀) (hk : cs.kind = .function)
    (hs : Script h₀ l us ns) (hk0 : 0 ≤ k) (hk1 : k ≤ 200) (hd : dp + 2 < recursionLimit) (hu : un + 16 < cLine)
    (hret : ∀ v t' h' tk', Fr h₀ L h' m → News h₀ L h' news → intBits v ≤ 1048576 → Q (.int v t') { s with heap := h', toks := tk' }) :
    wpAny (model Challenge.rw_zf0001_01.row.prog w) (ktrTop dp un gd cn cs L a ccd cl outer) (call (.ref 35) [.ref l, .int k t]) Q E s := by
  k_with_none
  w_top off
  refine wpAny_call ?_
  k_dflt ktr_enter
  have hlen := hs.short
  have hi := hs.its
  rename Fr h₀ L _ m => FG
  have hl := stays_list FG.keep hs.isl
  k_steps
  · exact hret _ _ _ _ (by assumption) (by assumption) (bits_getD hs.small _)
  · refine hret _ _ _ _ (by assumption) (by assumption) (bits_small ?_)
    have h1 := Int.fmod_nonneg_of_pos (k * k * 29 + 17 * k + 3) (b := 83) (by decide)
    have h2 := Int.fmod_lt_of_pos (k * k * 29 + 17 * k + 3) (b := 83) (by decide)
    omega
local macro_rules | `(tactic| walk_at "call ref") => `(tactic| (
  (with_reducible show wpAny _ _ (call (Value.ref 35) [Value.ref _, Value.int _ _]) _ _ _)
  refine' at_call ?k1 ?k2 ?k3 ?k4 ?k5 ?kK ?ks ?kx ?ky ?kd ?ku ?_
  (case k1 => k_asm); (case k2 => k_asm); (case k3 => k_asm); (case k4 => k_asm); (case k5 => k_asm); (case kK => first | exact rfl | assumption)
  (case ks => assumption); (case kx => omega); (case ky => omega); (case kd => ktr_room); (case ku => ktr_units)
  k_whole
  intro v' t' h' tk' F' N' hb'))
theorem Script.keep {h₀ g : Heap} {L l : Addr} {m : Str → Option Value} {us : List Value} {ns : List Int} (F : Fr h₀ L g m) (hs : Script h₀ l us ns) : Script g l us ns := ⟨stays_list F.keep hs.isl, hs.its, hs.small, hs.short⟩
theorem drawn_small (x : Int) : (x.fmod (10 ^ Int.toNat 30 + 7)).natAbs < 10 ^ 30 + 7 := by
  have e : (10 : Int) ^ Int.toNat 30 + 7 = 1000000000000000000000000000007 := by decide +kernel
  rw [e]
  have h1 := Int.fmod_nonneg_of_pos x (b := 1000000000000000000000000000007) (by decide)
  have h2 := Int.fmod_lt_of_pos x (b := 1000000000000000000000000000007) (by decide)
  omega
theorem drawn_call {w : World} {loose : List Str} {mean : ExcName → Option Value} {mg mb : Str → Option Value} {dp un : Nat} {gd : Option (List Code)} {cn : Str} {cs : Scope} {a : Addr} {ccd : Value} {cl : List (Str × Addr)} {outer : List Env}
    {A₀ : Around} {base h₀ : Heap} {L : Addr} {m : Str → Option Value} {news : List (Addr × Obj)} {s : Shared} {Q E : Value → Shared → Prop} {l : Addr} {us : List Value} {ns : List Int} {k : Int} {t : Tok}
    (B : Below A₀ base outer h₀) (F : Fr h₀ L s.heap m) (X : (hd.heap_39 w.params).In h₀) (N : News h₀ L s.heap news) (T : Top hd.view_39 loose mean mg mb h₀) (hk : cs.kind = .function)
    (hs : Script h₀ l us ns) (hk0 : 0 ≤ k) (hk1 : k ≤ 200) (hd : dp + 4 < recursionLimit) (hu : un + 32 < cLine)
    (hret : ∀ v t' h' tk', Fr h₀ L h' m → News h₀ L h' news → v.natAbs < 10 ^ 30 + 7 → Q (.int v t') { s with heap := h', toks := tk' }) :
    wpAny (model Challenge.rw_zf0001_01.row.prog w) (ktrTop dp un gd cn cs L a ccd cl outer) (call (.ref 42) [.ref l, .int k t]) Q E s := by
  k_with_none
  w_top off
  refine wpAny_call ?_
  k_dflt ktr_enter
  rename Fr h₀ L _ m => FG
  have hsg := hs.keep FG
  k_steps
  · exact hret _ _ _ _ (by assumption) (by assumption) (by rw [Int.natAbs_neg]; exact drawn_small _)
  · exact hret _ _ _ _ (by assumption) (by assumption) (drawn_small _)
end Mine

/-! part Row2 -/
namespace Mine
open Builtin.Int (intBits)
/-- a row as far as it is built -/
structure RowOk (n : Nat) (row : List Int) : Prop where
  num : row.length = n
  small : ∀ x ∈ row, x.natAbs < 2 ^ 220
theorem RowOk.start : RowOk ([] : List Int).length [] := ⟨rfl, fun _ h => nomatch h⟩
local macro_rules | `(tactic| walk_at "call ref") => `(tactic| (
  (with_reducible show wpAny _ _ (call (Value.ref 35) [Value.ref _, Value.int _ _]) _ _ _)
  refine' at_call ?k1 ?k2 ?k3 ?k4 ?k5 ?kK ?ks ?kx ?ky ?kd ?ku ?_
  (case k1 => k_asm); (case k2 => k_asm); (case k3 => k_asm); (case k4 => k_asm); (case k5 => k_asm); (case kK => first | exact rfl | assumption)
  (case ks => assumption); (case kx => omega); (case ky => omega); (case kd => ktr_room); (case ku => ktr_units)
  k_whole
  intro v' t' h' tk' F' N' hb'))
local macro_rules | `(tactic| walk_at "call ref") => `(tactic| (
  (with_reducible show wpAny _ _ (call (Value.ref 42) [Value.ref _, Value.int _ _]) _ _ _)
  refine' drawn_call ?k1 ?k2 ?k3 ?k4 ?k5 ?kK ?ks ?kx ?ky ?kd ?ku ?_
  (case k1 => k_asm); (case k2 => k_asm); (case k3 => k_asm); (case k4 => k_asm); (case k5 => k_asm); (case kK => first | exact rfl | assumption)
  (case ks => assumption); (case kx => omega); (case ky => omega); (case kd => ktr_room); (case ku => ktr_units)
  k_whole
  intro v' t' h' tk' F' N' hb'))
local macro_rules | `(tactic| walk_at "eval Call") => `(tactic| k_dflt (refine Call_ ?_))
theorem half_bound {v : Int} (hv : intBits v ≤ 1048576) : 0 ≤ (v.fmod 8).fdiv 2 ∧ (v.fmod 8).fdiv 2 ≤ 3 := by
  have h1 := Int.fmod_nonneg_of_pos v (b := 8) (by decide)
  have h2 := Int.fmod_lt_of_pos v (b := 8) (by decide)
  generalize v.fmod 8 = r at h1 h2 ⊢
  have h3 : r = 0 ∨ r = 1 ∨ r = 2 ∨ r = 3 ∨ r = 4 ∨ r = 5 ∨ r = 6 ∨ r = 7 := by omega
  rcases h3 with h | h | h | h | h | h | h | h <;> subst h <;> decide
theorem RowOk.step {pre row : List Int} {k x : Int} (h : RowOk pre.length row) (hx : x.natAbs < 2 ^ 220) : RowOk (pre ++ [k]).length (row ++ [x]) := by
  refine ⟨by rw [List.length_append, List.length_append, h.num]; rfl, fun y hy => ?_⟩
  rcases List.mem_append.mp hy with hy | hy
  · exact h.small y hy
  · rw [List.mem_singleton.mp hy]; exact hx
theorem prod_small {a b : Int} (ha : a.natAbs < 10 ^ 30 + 7) (hb : b.natAbs < 10 ^ 30 + 7) : (a * b).natAbs < 2 ^ 220 := by
  rw [Int.natAbs_mul]
  have h := Nat.mul_le_mul (Nat.le_of_lt ha) (Nat.le_of_lt hb)
  have h2 : (10 ^ 30 + 7) * (10 ^ 30 + 7) < 2 ^ 220 := by decide +kernel
  exact Nat.lt_of_le_of_lt h h2
theorem prod_one {b : Int} (hb : b.natAbs < 10 ^ 30 + 7) : (1 * b).natAbs < 2 ^ 220 := prod_small (by decide) hb
theorem prod_ok {a b : Int} (ha : a.natAbs < 10 ^ 30 + 7) (hb : b.natAbs < 10 ^ 30 + 7) : IntMulOk a b := by
  have h : (10 : Nat) ^ 30 + 7 < 2 ^ 100 := by decide +kernel
  exact IntMulOk.of_le (bits_of_lt (k := 100) (by omega)) (bits_of_lt (k := 100) (by omega)) (by decide)
local macro_rules | `(tactic| mul_fits) => `(tactic| exact prod_ok (by assumption) (by assumption))
theorem row_call {w : World} {loose : List Str} {mean : ExcName → Option Value} {mg mb : Str → Option Value} {dp un : Nat} {gd : Option (List Code)} {cn : Str} {cs : Scope} {a : Addr} {ccd : Value} {cl : List (Str × Addr)} {outer : List Env}
    {A₀ : Around} {base h₀ : Heap} {L : Addr} {m : Str → Option Value} {news : List (Addr × Obj)} {s : Shared} {Q E : Value → Shared → Prop} {l : Addr} {us : List Value} {ns : List Int}
    (B : Below A₀ base outer h₀) (F : Fr h₀ L s.heap m) (X : (hd.heap_39 w.params).In h₀) (N : News h₀ L s.heap news) (T : Top hd.view_39 loose mean mg mb h₀) (hk : cs.kind = .function)
    (hs : Script h₀ l us ns) (hd : dp + 6 < recursionLimit) (hu : un + 48 < cLine)
    (hret : ∀ R c us' rs h' tk', Fr h₀ L h' m → News h₀ L h' ((R, W.listOf us'.toArray c) :: news) → AllLt R news → IntsAre us' rs → RowOk rs.length rs → rs.length ≤ 70 → Q (.ref R) { s with heap := h', toks := tk' }) :
    wpAny (model Challenge.rw_zf0001_01.row.prog w) (ktrTop dp un gd cn cs L a ccd cl outer) (call (.ref 49) [.ref l]) Q E s := by
  k_with_none
  w_top off
  refine wpAny_call ?_
  k_dflt ktr_enter
  rename Fr h₀ L _ m => FG
  have hsg := hs.keep FG
  have hlen := hs.short
  have hi := hs.its
  have hl := hsg.isl
  k_with "state" => first | exact RowOk.start | exact RowOk.step (by assumption) (prod_small (by assumption) (by assumption)) | exact RowOk.step (by assumption) (prod_one (by assumption))
  k_with "pyIter ref" => refine stopHere ?_
  k_steps
  all_goals
    have hv := half_bound (by assumption)
    refine goOn ?_
    k_state (fun pre row => RowOk pre.length row) "row"
    all_goals have hn := kInv.num
    k_steps
  all_goals exact hret _ _ _ _ _ _ (by assumption) (by assumption) (allLt_of (by assumption)) (by assumption) ⟨rfl, kInv.small⟩ (by rw [hn]; simp only [rangeKs_length]; omega)
end Mine

/-! part MathC -/
open Builtin.Int (intBits)
namespace Mine
theorem fmod_of_dvd {a d : Int} (h : d ∣ a) : a.fmod d = 0 := by
  obtain ⟨k, rfl⟩ := h
  exact Int.mul_fmod_right d k
theorem fdiv_of_mul {a g x : Int} (hg : g ≠ 0) (h : x = a * g) : x.fdiv g = a := by
  rw [h]; exact Int.mul_fdiv_cancel a hg
/-- what the law asks behind a divisor above 1 and a number that is not 0 -/
structure GenFacts (g : Int) (old : List Int) (y d : Int) (nw : List Int) (place w m : Int) : Prop where
  pos : ¬ d ≤ 0
  gd : g.fmod d = 0
  yd : y.fmod d = 0
  num : (nw.length : Int) = place + 1
  rest : (d - w * y).fmod g = 0
  negLow : y < 0 → ¬ (-(2 * m * d) ≤ -(if y < 0 then -y else y))
  negHigh : y < 0 → ¬ ((if y < 0 then -y else y) < -(2 * m * d))
  posLow : ¬ y < 0 → ¬ (2 * m * d ≤ -(if y < 0 then -y else y))
  posHigh : ¬ y < 0 → ¬ ((if y < 0 then -y else y) < 2 * m * d)
  all : nw = old.map (fun c => m * c) ++ [w]
theorem genFacts {g : Int} {old : List Int} {y d : Int} {nw : List Int} {place : Int} (e : (d, nw) = gnext (g, old) y) (hp : place = (old.length : Int)) (h0 : g ≠ 0) (h1 : g ≠ 1) (hy : y ≠ 0) :
    GenFacts g old y d nw place (nw.getD place.toNat 0) ((d - nw.getD place.toNat 0 * y).fdiv g) := by
  have e2 : gnext (g, old) y = ((egcd g y).2.2, old.map (fun c => c * (egcd g y).1) ++ [(egcd g y).2.1]) := by unfold gnext; rw [if_neg h1]
  rw [e2] at e
  have H := egcd_isGcd g hy
  generalize (egcd g y).1 = a at H e
  generalize (egcd g y).2.1 = b at H e
  generalize (egcd g y).2.2 = d' at H e
  obtain ⟨e3, e4⟩ := Prod.mk.inj e
  subst e3
  have hw : nw.getD place.toNat 0 = b := by
    have hn : place.toNat = (old.map (fun c => c * a)).length := by rw [List.length_map]; omega
    rw [e4, hn]
    simp
  have hm0 : d - b * y = a * g := by have := H.bez; omega
  have hm : (d - b * y).fdiv g = a := fdiv_of_mul h0 hm0
  rw [hw, hm]
  have hl := H.low
  have hh := H.high
  refine ⟨by have := H.pos; omega, fmod_of_dvd H.dx, fmod_of_dvd H.dy, ?_, ?_, fun hneg => ?_, fun hneg => ?_, fun hneg => ?_, fun hneg => ?_, ?_⟩
  · rw [e4]; simp; omega
  · rw [hm0]; exact fmod_of_dvd ⟨a, Int.mul_comm _ _⟩
  · rw [if_pos hneg] at hl ⊢; omega
  · rw [if_pos hneg] at hh ⊢; omega
  · rw [if_neg hneg] at hl ⊢; omega
  · rw [if_neg hneg] at hh ⊢; omega
  · rw [e4]
    congr 1
    apply List.map_congr_left
    intro c _
    exact Int.mul_comm _ _
theorem map_times_one (l : List Int) : l.map (fun c => c * 1) = l := by simp
theorem map_times_zero {l : List Int} (h : l = List.replicate l.length 0) : l.map (fun c => c * 0) = l := by
  have e : l.map (fun c => c * 0) = List.replicate l.length 0 := by
    rw [List.eq_replicate_iff]
    exact ⟨by simp, fun b hb => by
      obtain ⟨c, _, rfl⟩ := List.mem_map.mp hb
      exact Int.mul_zero c⟩
  rw [e]; exact h.symm
/-- behind noughts alone -/
theorem next_zero {old nw : List Int} {y d : Int} (e : (d, nw) = gnext (0, old) y) (ho : old = List.replicate old.length 0) :
    d = (if y < 0 then -y else y) ∧ nw = old ++ [if y < 0 then -1 else if 0 < y then 1 else 0] := by
  have e2 : gnext (0, old) y = ((egcd 0 y).2.2, old.map (fun c => c * (egcd 0 y).1) ++ [(egcd 0 y).2.1]) := by unfold gnext; rw [if_neg (by show ¬ (0 : Int) = 1; decide)]
  rw [e2] at e
  obtain ⟨e3, e4⟩ := Prod.mk.inj e
  by_cases hy : y = 0
  · subst hy
    rw [egcd_zero 0 (by decide)] at e3 e4
    dsimp only at e3 e4
    rw [map_times_one] at e4
    exact ⟨by rw [e3]; rfl, by rw [e4]; rfl⟩
  · rw [egcd_of_zero hy] at e3 e4
    dsimp only at e3 e4
    rw [map_times_zero ho] at e4
    by_cases h : 0 < y
    · rw [if_pos h] at e4
      rw [if_neg (by omega), if_neg (by omega), if_pos h]
      exact ⟨by omega, e4⟩
    · rw [if_neg h] at e4
      rw [if_pos (by omega), if_pos (by omega)]
      exact ⟨by omega, e4⟩
theorem next_one {old nw : List Int} {y d : Int} (e : (d, nw) = gnext (1, old) y) : d = 1 ∧ nw = old ++ [0] := by
  have e2 : gnext (1, old) y = (1, old ++ [0]) := by unfold gnext; rw [if_pos rfl]
  rw [e2] at e
  exact Prod.mk.inj e
theorem next_same {old nw : List Int} {g d : Int} (e : (d, nw) = gnext (g, old) 0) (h1 : g ≠ 1) (h0 : 0 ≤ g) : d = g ∧ nw = old ++ [0] := by
  have e2 : gnext (g, old) 0 = ((egcd g 0).2.2, old.map (fun c => c * (egcd g 0).1) ++ [(egcd g 0).2.1]) := by unfold gnext; rw [if_neg h1]
  rw [e2, egcd_zero g h0] at e
  dsimp only at e
  rw [map_times_one] at e
  exact Prod.mk.inj e
/-- a divisor 0 stands behind noughts alone -/
theorem zeros : ∀ (ns : List Int), (∀ n ∈ ns, n.natAbs < 2 ^ 220) → (golF ns).1 = 0 → (golF ns).2 = List.replicate (golF ns).2.length 0 := by
  have key : ∀ (ms ns : List Int), (∀ n ∈ ns ++ ms, n.natAbs < 2 ^ 220) → ((golF ns).1 = 0 → (golF ns).2 = List.replicate (golF ns).2.length 0) → (golF (ns ++ ms)).1 = 0 → (golF (ns ++ ms)).2 = List.replicate (golF (ns ++ ms)).2.length 0 := by
    intro ms
    induction ms with
    | nil => intro ns _ h; rw [List.append_nil]; exact h
    | cons m r ih =>
      intro ns hs h
      have e : ns ++ m :: r = (ns ++ [m]) ++ r := by simp
      rw [e]
      refine ih (ns ++ [m]) (by rw [← e]; exact hs) ?_
      intro hz
      have S := sound ns fun n hn => hs n (List.mem_append.mpr (.inl hn))
      rw [golF_snoc] at hz ⊢
      have hh : ((gnext (golF ns) m).1, (gnext (golF ns) m).2) = gnext ((golF ns).1, (golF ns).2) m := rfl
      generalize hd : (gnext (golF ns) m).1 = d at hh hz
      generalize hn : (gnext (golF ns) m).2 = nw at hh
      generalize hg : (golF ns).1 = g at hh S h
      generalize ho : (golF ns).2 = old at hh S h
      by_cases h0 : g = 0
      · subst h0
        have hold := h rfl
        obtain ⟨e1, e2⟩ := next_zero hh hold
        have hm : m = 0 := by
          rw [hz] at e1
          by_cases hneg : m < 0
          · rw [if_pos hneg] at e1; omega
          · rw [if_neg hneg] at e1; omega
        subst hm
        rw [e2, List.length_append, List.length_singleton, List.replicate_succ']
        rw [← hold]
        rfl
      · by_cases h1 : g = 1
        · subst h1
          obtain ⟨e1, _⟩ := next_one hh
          omega
        · by_cases hm : m = 0
          · subst hm
            obtain ⟨e1, _⟩ := next_same hh h1 S.g0
            omega
          · have G := genFacts (place := (old.length : Int)) hh rfl h0 h1 hm
            have := G.pos
            omega
  intro ns hs
  exact key ns [] hs fun _ => rfl
/-- the last coefficient is small -/
theorem last_small {g : Int} {old : List Int} {y d : Int} {nw : List Int} {place : Int} (e : (d, nw) = gnext (g, old) y) (hp : place = (old.length : Int)) (hg : 0 ≤ g) (hgs : g.natAbs < 2 ^ 220) (hy : y.natAbs < 2 ^ 220) : intBits (nw.getD place.toNat 0) ≤ 450 := by
  by_cases h1 : g = 1
  · subst h1
    obtain ⟨_, e2⟩ := next_one e
    have hn : place.toNat = old.length := by omega
    rw [e2, hn]
    simp
    exact bits_zero
  · have e2 : gnext (g, old) y = ((egcd g y).2.2, old.map (fun c => c * (egcd g y).1) ++ [(egcd g y).2.1]) := by unfold gnext; rw [if_neg h1]
    rw [e2] at e
    obtain ⟨_, e4⟩ := Prod.mk.inj e
    have hn : place.toNat = (old.map (fun c => c * (egcd g y).1)).length := by rw [List.length_map]; omega
    rw [e4, hn]
    simp
    exact bits_of_big (egcd_small hg hgs hy).2.2.2
end Mine

/-! part Step1 -/
namespace Mine
open Builtin.Int (intBits)
section
variable {prog : Program} {w : World} {A : Around} {E : Value → Shared → Prop} {s : Shared} {h₀ : Heap} {L a b ca cb : Addr} {news : List (Addr × Obj)} {us vs : List Value} {xs ys : List Int} {n2 n4 : Nat} {Q : Value → Shared → Prop}
theorem isl_of (N : News h₀ L s.heap news) (m2 : (ca, W.listOf us.toArray n2) ∈ news) : s.heap.IsList ca us.toArray := ⟨_, (N _ m2).1, rfl, n2, rfl⟩
theorem ne_list (N : News h₀ L s.heap news) (m2 : (ca, W.listOf us.toArray n2) ∈ news) (m4 : (cb, W.listOf vs.toArray n4) ∈ news) (i : IntsAre us xs) (j : IntsAre vs ys) (hu : A.units + 64 < cLine)
    (h : Q (.bool (!decide (xs = ys))) s) : wpAny (model prog w) A (compareOp .NotEq (.ref ca) (.ref cb)) Q E s :=
  ke_ne_ints (isl_of N m2) (isl_of N m4) i j hu h
theorem eq_pair {g g' : Int} {t t' : Tok} (N : News h₀ L s.heap news) (m1 : (a, W.listOf #[.int g t, .ref ca] 0) ∈ news) (m3 : (b, W.listOf #[.int g' t', .ref cb] 0) ∈ news) (m2 : (ca, W.listOf us.toArray n2) ∈ news) (m4 : (cb, W.listOf vs.toArray n4) ∈ news) (i : IntsAre us xs) (j : IntsAre vs ys) (hu : A.units + 64 < cLine)
    (h : Q (.bool (decide (g = g') && decide (xs = ys))) s) : wpAny (model prog w) A (compareOp .Eq (.ref a) (.ref b)) Q E s := by
  have r1 : Reads s.heap (.ref a) (.list [.int g, .list (xs.map .int)]) _ := reads_list_at (N _ m1).1 rfl rfl (ReadsAll.cons (Reads.int _ _) (ReadsAll.cons (reads_of_ints (isl_of N m2) i) .nil))
  have r2 : Reads s.heap (.ref b) (.list [.int g', .list (ys.map .int)]) _ := reads_list_at (N _ m3).1 rfl rfl (ReadsAll.cons (Reads.int _ _) (ReadsAll.cons (reads_of_ints (isl_of N m4) j) .nil))
  have sh : ∀ (z : Int) (zs : List Int), SeqAt.shaped (.list [.int z, .list (zs.map .int)]) = true := fun z zs => by
    simp [SeqAt.shaped, PyData.canLay0, PyData.canLayAll0, PyData.depth, PyData.depthAll, ke_canLayAll0, ke_depthAll]
  refine eq_dataH r1 r2 (sh _ _) (sh _ _) hu ?_
  have e : PyData.eqv (.list [.int g, .list (xs.map .int)]) (.list [.int g', .list (ys.map .int)]) = (decide (g = g') && decide (xs = ys)) := by
    simp only [PyData.eqv, PyData.eqvAll, ked_eqvAll, Bool.and_true]
    by_cases h1 : g = g' <;> simp [h1]
  rw [e]
  exact h
end
-- the walk keeps its table of lines by their number: one line more here than in the part before
local macro_rules | `(tactic| walk_at "no key of mine") => `(tactic| fail "none")
local macro_rules | `(tactic| walk_at "compareOp NotEq ref ref") => `(tactic| k_dflt (
  (with_reducible show wpAny _ _ (compareOp CmpOp.NotEq (Value.ref _) (Value.ref _)) _ _ _)
  refine' ne_list ?N ?m2 ?m4 ?i ?j ?hu ?_
  (case N => k_asm); (case m2 => k_mem); (case m4 => k_mem); (case i => assumption); (case j => assumption); (case hu => ktr_units)))
local macro_rules | `(tactic| walk_at "compareOp Eq ref ref") => `(tactic| k_dflt (
  (with_reducible show wpAny _ _ (compareOp CmpOp.Eq (Value.ref _) (Value.ref _)) _ _ _)
  refine' eq_pair ?N ?m1 ?m3 ?m2 ?m4 ?i ?j ?hu ?_
  (case N => k_asm); (case m1 => k_mem); (case m3 => k_mem); (case m2 => k_mem); (case m4 => k_mem); (case i => assumption); (case j => assumption); (case hu => ktr_units)))
theorem noPy_small {x y : Int} (h : y.natAbs < 2 ^ 220) : Builtin.divisionGoesByPylong x y = false := by
  refine PyProof.noPylong_of_log2 ?_
  by_cases h0 : y.natAbs = 0
  · rw [h0]; decide +kernel
  · have : y.natAbs.log2 < 220 := (Nat.log2_lt h0).mpr h
    omega
theorem ok_wy {w y : Int} (hw : intBits w ≤ 450) (hy : y.natAbs < 2 ^ 220) : IntMulOk w y := IntMulOk.of_le hw (bits_of_lt hy) (by decide)
theorem bits_m {d w y g : Int} (hd : d.natAbs < 2 ^ 220) (hw : intBits w ≤ 450) (hy : y.natAbs < 2 ^ 220) : intBits ((d - w * y).fdiv g) ≤ 700 :=
  intBits_fdiv_le (Nat.le_trans (intBits_sub_le (bits_of_lt hd) (intBits_mul_le hw (bits_of_lt hy))) (by decide))
theorem ok_md {d w y g : Int} (hd : d.natAbs < 2 ^ 220) (hw : intBits w ≤ 450) (hy : y.natAbs < 2 ^ 220) : IntMulOk (2 * (d - w * y).fdiv g) d :=
  IntMulOk.of_le (intBits_mul_le (m := 2) (n := 700) (by decide) (bits_m hd hw hy)) (bits_of_lt hd) (by decide)
theorem ok_mc {d w y g c : Int} {old : List Int} (hd : d.natAbs < 2 ^ 220) (hw : intBits w ≤ 450) (hy : y.natAbs < 2 ^ 220) (ho : ∀ c ∈ old, intBits c ≤ 31500) (hc : c ∈ old) : IntMulOk ((d - w * y).fdiv g) c :=
  IntMulOk.of_le (bits_m hd hw hy) (ho c hc) (by decide)
local macro_rules | `(tactic| mul_fits) => `(tactic| first | exact ok_wy (by assumption) (by assumption) | exact ok_md (by assumption) (by assumption) (by assumption) | exact ok_mc (by assumption) (by assumption) (by assumption) (by assumption) (by assumption))
local macro_rules | `(tactic| walk_at "binaryOp FloorDiv int int") => `(tactic| k_dflt (refine floordiv_int (by omega) ?_ (Or.inl (noPy_small (by assumption)))))
/-- new as far as it is built -/
structure Timed (m : Int) (pre new : List Int) : Prop where
  eq : new = pre.map (fun c => m * c)
theorem Timed.start {m : Int} : Timed m [] [] := ⟨rfl⟩
theorem Timed.step {m c : Int} {pre new : List Int} (h : Timed m pre new) : Timed m (pre ++ [c]) (new ++ [m * c]) := ⟨by rw [h.eq]; simp⟩
theorem Timed.len {m : Int} {pre new : List Int} (h : Timed m pre new) : new.length = pre.length := by rw [h.eq, List.length_map]
theorem both {p q : Prop} [Decidable p] [Decidable q] (hp : p) (hq : q) : (decide p && decide q) = true := by simp [hp, hq]
theorem step_call {w : World} {loose : List Str} {mean : ExcName → Option Value} {mg mb : Str → Option Value} {dp un : Nat} {gd : Option (List Code)} {cn : Str} {cs : Scope} {a : Addr} {ccd : Value} {cl : List (Str × Addr)} {outer : List Env}
    {A₀ : Around} {base h₀ : Heap} {L : Addr} {m : Str → Option Value} {news : List (Addr × Obj)} {s : Shared} {Q E : Value → Shared → Prop}
    {Rb Cb Ra Ca : Addr} {ub ua : List Value} {old nw : List Int} {g y d place : Int} {tg td ty tp : Tok} {c1 c2 : Nat}
    (B : Below A₀ base outer h₀) (F : Fr h₀ L s.heap m) (X : (hd.heap_39 w.params).In h₀)
    (N : News h₀ L s.heap ((Rb, W.listOf #[.int g tg, .ref Cb] 0) :: (Cb, W.listOf ub.toArray c1) :: (Ra, W.listOf #[.int d td, .ref Ca] 0) :: (Ca, W.listOf ua.toArray c2) :: news)) (T : Top hd.view_39 loose mean mg mb h₀) (hk : cs.kind = .function)
    (ib : IntsAre ub old) (ia : IntsAre ua nw) (hp : place = (old.length : Int)) (h70 : old.length ≤ 70) (hl2 : nw.length = old.length + 1)
    (hd : dp + 6 < recursionLimit) (hu : un + 100 < cLine)
    (hret : ∀ h' tk', Fr h₀ L h' m → News h₀ L h' ((Rb, W.listOf #[.int g tg, .ref Cb] 0) :: (Cb, W.listOf ub.toArray c1) :: (Ra, W.listOf #[.int d td, .ref Ca] 0) :: (Ca, W.listOf ua.toArray c2) :: news) → Q (.bool true) { s with heap := h', toks := tk' })
    (hn : (d, nw) = gnext (g, old) y) (hz : g = 0 → old = List.replicate old.length 0) (hd1 : d.natAbs < 2 ^ 220) (hg1 : g.natAbs < 2 ^ 220) (hy1 : y.natAbs < 2 ^ 220) (ho1 : ∀ c ∈ old, intBits c ≤ 31500) (hg0 : 0 ≤ g) :
    wpAny (model Challenge.rw_zf0001_01.row.prog w) (ktrTop dp un gd cn cs L a ccd cl outer) (call (.ref 56) [.ref Rb, .int y ty, .ref Ra, .int place tp]) Q E s := by
  have hw1 := last_small hn hp hg0 hg1 hy1
  have hG := genFacts hn hp
  k_with_none
  w_top off
  refine wpAny_call ?_
  k_dflt ktr_enter
  k_with "state" => first | exact Timed.start | exact Timed.step (by assumption)
  k_with "pyIter ref" => refine stopHere ?_
  k_steps
  · exact absurd hp.symm (by assumption)
  · have hr := next_zero (d := d) (nw := nw) (old := old) (y := y) (by rw [hn, ‹g = 0›]) (hz (by assumption))
    rw [both hr.1 (by rw [hr.2]; congr 2; split <;> (try split) <;> omega)]
    exact hret _ _ (by assumption) (kst_newsOf (by assumption) (by intro p hp9; repeat (first | exact hp9 | refine List.mem_cons_of_mem _ ?_)))
  · exact absurd (by rw [List.flatten_replicate_singleton, hp, Int.toNat_natCast]; exact hz (by assumption)) ‹¬ old = (List.replicate place.toNat [0]).flatten›
  · have hr := next_one (d := d) (nw := nw) (old := old) (y := y) (by rw [hn, ‹g = 1›])
    rw [both hr.1 hr.2]
    exact hret _ _ (by assumption) (kst_newsOf (by assumption) (by intro p hp9; repeat (first | exact hp9 | refine List.mem_cons_of_mem _ ?_)))
  · have hr := next_same (d := d) (nw := nw) (old := old) (g := g) (by rw [hn, ‹y = 0›]) (by assumption) hg0
    rw [both hr.1 hr.2]
    exact hret _ _ (by assumption) (kst_newsOf (by assumption) (by intro p hp9; repeat (first | exact hp9 | refine List.mem_cons_of_mem _ ?_)))
  · exact absurd (by assumption) (hG (by assumption) (by assumption) (by assumption)).pos
  · exact absurd (hG (by assumption) (by assumption) (by assumption)).gd (by assumption)
  · exact absurd (hG (by assumption) (by assumption) (by assumption)).yd (by assumption)
  · exact absurd (hG (by assumption) (by assumption) (by assumption)).num (by assumption)
  · exact absurd (hG (by assumption) (by assumption) (by assumption)).rest (by assumption)
  · exact absurd (by assumption) ((hG (by assumption) (by assumption) (by assumption)).negLow (by assumption))
  · exact absurd (by assumption) ((hG (by assumption) (by assumption) (by assumption)).negHigh (by assumption))
  rotate_left
  · exact absurd (by assumption) ((hG (by assumption) (by assumption) (by assumption)).posLow (by assumption))
  · exact absurd (by assumption) ((hG (by assumption) (by assumption) (by assumption)).posHigh (by assumption))
  all_goals
    have hG2 := hG (by assumption) (by assumption) (by assumption)
    refine goOn ?_
    k_state_given ["m"] (fun m pre new => Timed m pre new) "new"
    all_goals have hTl := kInv.len
    k_steps
  all_goals
    rw [both rfl (by rw [kInv.eq]; exact hG2.all)]
    exact hret _ _ (by assumption) (kst_newsOf (by assumption) (by intro p hp9; repeat (first | exact hp9 | refine List.mem_cons_of_mem _ ?_)))
end Mine

/-! part Loop1 -/
namespace Mine
open Builtin.Int (intBits)
theorem golF_take {rs : List Int} {k : Int} (h0 : 0 ≤ k) (h1 : k < (rs.length : Int)) : golF (rs.take (k + 1).toNat) = gnext (golF (rs.take k.toNat)) (rs.getD k.toNat 0) := by
  have e : (k + 1).toNat = k.toNat + 1 := by omega
  have hl : k.toNat < rs.length := by omega
  rw [e, ← golF_snoc]
  congr 1
  rw [List.take_add_one, List.getD_eq_getElem?_getD, List.getElem?_eq_getElem hl]
  rfl
/-- the answer for ns stands at R in the ledger -/
structure Bef (ns : List Int) (led : List (Addr × Obj)) (R C : Addr) (t : Tok) (ub : List Value) (cb : Nat) : Prop where
  one : (R, W.listOf #[.int (golF ns).1 t, .ref C] 0) ∈ led
  two : (C, W.listOf ub.toArray cb) ∈ led
  its : IntsAre ub (golF ns).2
theorem Bef.mono {ns : List Int} {led led' : List (Addr × Obj)} {R C : Addr} {t : Tok} {ub : List Value} {cb : Nat} (h : Bef ns led R C t ub cb) (hs : ∀ p ∈ led, p ∈ led') : Bef ns led' R C t ub cb := ⟨hs _ h.one, hs _ h.two, h.its⟩
/-- how a turn of the law's loop ends -/
structure TurnEnd (h₀ : Heap) (L : Addr) (m₀ : Str → Option Value) (rs : List Int) (k : Int) (X : List (Addr × Obj)) (s₁ s₂ : Shared) : Prop where
  ex : ∃ h' tk m' R C t ub cb, s₂ = { s₁ with heap := h', toks := tk } ∧ Fr h₀ L h' m' ∧ News h₀ L h' ((R, W.listOf #[.int (golF (rs.take (k + 1).toNat)).1 t, .ref C] 0) :: (C, W.listOf ub.toArray cb) :: X) ∧ AllLt C X ∧ @LT.lt Nat _ C R ∧
    IntsAre ub (golF (rs.take (k + 1).toNat)).2 ∧ m' (Str.ofString "before") = some (.ref R) ∧ ∀ z, z ≠ Str.ofString "k" → z ≠ Str.ofString "before" → z ≠ Str.ofString "after" → m' z = m₀ z
def TurnPost (h₀ : Heap) (L : Addr) (m₀ : Str → Option Value) (rs : List Int) (k : Int) (X : List (Addr × Obj)) (s₁ : Shared) (Q : Flow → Shared → Prop) (f : Flow) (s₂ : Shared) : Prop := match f with
  | .ret v => Q (.ret v) s₂
  | .brk => Q .next s₂
  | _ => TurnEnd h₀ L m₀ rs k X s₁ s₂
theorem turn_end {h₀ : Heap} {L : Addr} {m₀ m' : Str → Option Value} {rs : List Int} {k : Int} {X : List (Addr × Obj)} {s₁ : Shared} {Q : Flow → Shared → Prop} {h' : Heap} {tk : Nat} {R C : Addr} {t : Tok} {ub : List Value} {cb : Nat} {q : Addr × Obj}
    (F : Fr h₀ L h' m') (N : News h₀ L h' ((R, W.listOf #[.int (golF (rs.take (k + 1).toNat)).1 t, .ref C] 0) :: (C, W.listOf ub.toArray cb) :: q :: X)) (hl : AllLt C X) (hlR : @LT.lt Nat _ C R) (hi : IntsAre ub (golF (rs.take (k + 1).toNat)).2)
    (hm : m' (Str.ofString "before") = some (.ref R)) (hr : ∀ z, z ≠ Str.ofString "k" → z ≠ Str.ofString "before" → z ≠ Str.ofString "after" → m' z = m₀ z) : TurnPost h₀ L m₀ rs k X s₁ Q .next { s₁ with heap := h', toks := tk } := by
  refine TurnEnd.mk ⟨h', tk, m', R, C, t, ub, cb, rfl, F, fun p hp => N p ?_, hl, hlR, hi, hm, hr⟩
  rcases List.mem_cons.mp hp with h | hp
  · exact h ▸ .head _
  rcases List.mem_cons.mp hp with h | hp
  · exact .tail _ (h ▸ .head _)
  exact .tail _ (.tail _ (.tail _ hp))
theorem law_loop {prog : Program} {w : World} {A : Around} {E : Value → Shared → Prop} {s : Shared} {env : Env} {h₀ : Heap} {body : List Stmt} {Q : Flow → Shared → Prop} {r R C Row : Addr} {a₀ : Int} {t₀ u₀ v₀ t : Tok} {m₀ : Str → Option Value} {news : List (Addr × Obj)} {rs : List Int} {ur ub : List Value} {cr cb : Nat}
    (hh : A.handled = none) (hr : IsRange s.heap r a₀ (rs.length : Int) 1 t₀ u₀ v₀) (F : Fr h₀ env.locals s.heap m₀) (N : News h₀ env.locals s.heap news) (iRow : IntsAre ur rs) (mRow : (Row, W.listOf ur.toArray cr) ∈ news) (h70 : rs.length ≤ 70) (ha0 : 0 ≤ a₀) (ha1 : a₀ ≤ (rs.length : Int))
    (hb : Bef (rs.take a₀.toNat) news R C t ub cb) (hm : m₀ (Str.ofString "before") = some (.ref R))
    (turn : ∀ (R C : Addr) (tb : Tok) (ub : List Value) (cb : Nat) (X : List (Addr × Obj)) (k : Int) (tk' : Tok) (u : Str → Option Value) (h : Heap) (tk : Nat), 0 ≤ k → k < (rs.length : Int) →
      (R, W.listOf #[.int (golF (rs.take k.toNat)).1 tb, .ref C] 0) ∈ X → (C, W.listOf ub.toArray cb) ∈ X → IntsAre ub (golF (rs.take k.toNat)).2 → (Row, W.listOf ur.toArray cr) ∈ X →
      Fr h₀ env.locals h (fun y => if y = Str.ofString "k" then some (.int k tk') else if y = Str.ofString "before" then some (.ref R) else if [Str.ofString "after"].contains y = true then u y else m₀ y) → News h₀ env.locals h X →
      wpAny (model prog w) A (execs body env) (TurnPost h₀ env.locals m₀ rs k X { s with heap := h, toks := tk } Q) E { s with heap := h, toks := tk })
    (done : ∀ (R : Addr) X tk' (u : Str → Option Value) h tk, Fr h₀ env.locals h (fun y => if y = Str.ofString "k" then u y else if y = Str.ofString "before" then some (.ref R) else if [Str.ofString "after"].contains y = true then u y else m₀ y) → News h₀ env.locals h X → tk' = (0 : Nat) → Q .next { s with heap := h, toks := tk }) :
    wpAny (model prog w) A (pyIter (.ref r)) (fun it s₂ => LoopAtV prog w A h₀ env (Str.ofString "k") body Q E it s₂) E s := by
  refine kd_range (σ := Int × Addr) (n := ((rs.length : Int) - a₀).toNat) (fun _ => []) news (fun c => [(Str.ofString "before", .ref c.2)]) (fun led c => ∃ C t ub cb, Bef (rs.take c.1.toNat) led c.2 C t ub cb) [Str.ofString "after"] (fun pre c => c.1 = a₀ + (pre.length : Int)) (news.map (·.1)) (a₀, R) hh hr ?_ ?_ F N ?_ ?_ ?_ ?_ ?_ ?_ ?_
  · exact small_one (by omega) (by omega) (by omega) (by omega)
  · rw [rangeSize_nat]
  · intro p hp
    simpa using hp
  · intro c; rfl
  · exact ⟨C, t, ub, cb, by rw [List.append_nil]; exact hb⟩
  · intro p hp
    rw [List.mem_singleton.mp hp]
    exact hm
  · simp
  · rintro ⟨k₀, R₀⟩ tl pre k tk' u h tk own hk hlt hsep hoff ⟨C₀, tb, ub₀, cb₀, hB⟩ hp F₁ N₁
    dsimp only at hB hp F₁
    have ek : k₀ = k := by rw [hp, hk]
    subst ek
    have hsub : ∀ p ∈ news ++ tl, p ∈ ([] : List (Addr × Obj)) ++ (news ++ (tl ++ own)) := by
      intro p hp
      rw [List.nil_append, ← List.append_assoc]
      exact List.mem_append.mpr (.inl hp)
    have F₂ : Fr h₀ env.locals h (fun y => if y = Str.ofString "k" then some (.int k₀ tk') else if y = Str.ofString "before" then some (.ref R₀) else if [Str.ofString "after"].contains y = true then u y else m₀ y) := F₁
    refine wpAny_mono (turn R₀ C₀ tb ub₀ cb₀ _ k₀ tk' u h tk (by omega) (by omega) (hsub _ hB.one) (hsub _ hB.two) hB.its (hsub _ (List.mem_append.mpr (.inl mRow))) F₂ N₁) (fun f s₂ p => ?_) fun _ _ x => x
    have fin : TurnEnd h₀ env.locals m₀ rs k₀ ([] ++ (news ++ (tl ++ own))) { s with heap := h, toks := tk } s₂ →
        InvEndG h₀ env.locals (KdS (fun _ => []) news (fun c : Int × Addr => [(Str.ofString "before", .ref c.2)]) (fun led c => ∃ C t ub cb, Bef (rs.take c.1.toNat) led c.2 C t ub cb) (Str.ofString "k") [Str.ofString "after"] m₀ (fun pre c => c.1 = a₀ + (pre.length : Int)) (news.map (·.1)) (pre ++ [k₀])) own { s with heap := h, toks := tk } s₂ := by
      rintro ⟨h', tk2, m', R', C', t', ub', cb', rfl, F', N', hl, hlR, hi, hm', hr'⟩
      have hC : ∀ p ∈ news ++ (tl ++ own), @LT.lt Nat _ p.1 C' := fun p hp => ktn_ltOf hl p (by rw [List.nil_append]; exact hp)
      refine kd_end (k₀ + 1, R') [(R', W.listOf #[.int (golF (rs.take (k₀ + 1).toNat)).1 t', .ref C'] 0), (C', W.listOf ub'.toArray cb')] hsep F' N' ?_ ?_ rfl ?_ ?_ ?_ ?_ ?_ ?_
      · intro p hp
        simp only [List.nil_append, List.mem_append, List.mem_cons, List.not_mem_nil, or_false] at hp ⊢
        rcases hp with h | (h | h) | h <;> simp [h]
      · intro p hp
        simp only [List.nil_append, List.mem_append, List.mem_cons]
        simp [hp]
      · intro q hq b hb'
        obtain ⟨p, hp, rfl⟩ := List.mem_map.mp hb'
        have h1 := hC p (List.mem_append.mpr (.inl hp))
        rcases List.mem_cons.mp hq with rfl | hq
        · show p.1 ≠ R'
          exact Nat.ne_of_lt (Nat.lt_trans h1 hlR)
        · rw [List.mem_singleton.mp hq]
          exact Nat.ne_of_lt h1
      · intro q hq p hp
        have h1 := hC p (List.mem_append.mpr (.inr (List.mem_append.mpr (.inr hp))))
        rcases List.mem_cons.mp hq with rfl | hq
        · show p.1 ≠ R'
          exact Nat.ne_of_lt (Nat.lt_trans h1 hlR)
        · rw [List.mem_singleton.mp hq]
          exact Nat.ne_of_lt h1
      · intro p hp
        rw [List.mem_singleton.mp hp]
        exact hm'
      · intro z hz hz2 hz3
        have h2 : z ≠ Str.ofString "before" := hz2 _ (List.mem_singleton.mpr rfl)
        have h3 : z ≠ Str.ofString "after" := by
          simpa [List.contains_cons] using hz3
        exact hr' z hz h2 h3
      · exact ⟨C', t', ub', cb', List.mem_append.mpr (.inr (List.mem_append.mpr (.inl (.head _)))), List.mem_append.mpr (.inr (List.mem_append.mpr (.inl (.tail _ (.head _))))), hi⟩
      · show k₀ + 1 = a₀ + ((pre ++ [k₀]).length : Int)
        rw [List.length_append, List.length_singleton]
        omega
    cases f with
    | ret v => exact p
    | brk => exact p
    | next => exact fin p
    | cont => exact fin p
  · rintro ⟨k₀, R₀⟩ tl u h tk hoff _ hp F₁ N₁
    exact done R₀ _ 0 u h tk F₁ N₁ rfl
theorem step_at {w : World} {loose : List Str} {mean : ExcName → Option Value} {mg mb : Str → Option Value} {dp un : Nat} {gd : Option (List Code)} {cn : Str} {cs : Scope} {a : Addr} {ccd : Value} {cl : List (Str × Addr)} {outer : List Env}
    {A₀ : Around} {base h₀ : Heap} {L : Addr} {m : Str → Option Value} {news : List (Addr × Obj)} {s : Shared} {Q E : Value → Shared → Prop}
    {Rb Cb Ra Ca : Addr} {ub ua : List Value} {rs : List Int} {k : Int} {tg td ty tp : Tok} {c1 c2 : Nat}
    (B : Below A₀ base outer h₀) (F : Fr h₀ L s.heap m) (X : (hd.heap_39 w.params).In h₀) (N : News h₀ L s.heap news) (T : Top hd.view_39 loose mean mg mb h₀) (hk : cs.kind = .function)
    (m1 : (Rb, W.listOf #[.int (golF (rs.take k.toNat)).1 tg, .ref Cb] 0) ∈ news) (m2 : (Cb, W.listOf ub.toArray c1) ∈ news) (m3 : (Ra, W.listOf #[.int (golF (rs.take (k + 1).toNat)).1 td, .ref Ca] 0) ∈ news) (m4 : (Ca, W.listOf ua.toArray c2) ∈ news)
    (ib : IntsAre ub (golF (rs.take k.toNat)).2) (ia : IntsAre ua (golF (rs.take (k + 1).toNat)).2) (h0 : 0 ≤ k) (h1 : k < (rs.length : Int)) (h70 : rs.length ≤ 70) (hR : RowOk rs.length rs)
    (hd : dp + 6 < recursionLimit) (hu : un + 100 < cLine)
    (hret : ∀ h' tk', Fr h₀ L h' m → News h₀ L h' news → Q (.bool true) { s with heap := h', toks := tk' }) :
    wpAny (model Challenge.rw_zf0001_01.row.prog w) (ktrTop dp un gd cn cs L a ccd cl outer) (call (.ref 56) [.ref Rb, .int (rs.getD k.toNat 0) ty, .ref Ra, .int k tp]) Q E s := by
  have hkl : k.toNat < rs.length := by omega
  have hmem : rs.getD k.toNat 0 ∈ rs := by
    rw [List.getD_eq_getElem?_getD, List.getElem?_eq_getElem hkl]
    exact List.getElem_mem hkl
  have S1 := sound (rs.take k.toNat) fun x hx => hR.small x (List.mem_of_mem_take hx)
  have S2 := sound (rs.take (k + 1).toNat) fun x hx => hR.small x (List.mem_of_mem_take hx)
  have hz := zeros (rs.take k.toNat) fun x hx => hR.small x (List.mem_of_mem_take hx)
  have hlk : (rs.take k.toNat).length = k.toNat := by rw [List.length_take]; omega
  have hlk2 : (rs.take (k + 1).toNat).length = k.toNat + 1 := by rw [List.length_take]; omega
  have c1' := S1.cl
  have c2' := S2.cl
  rw [hlk] at c1'
  rw [hlk2] at c2'
  refine step_call (news := news) (Cb := Cb) (Ca := Ca) (tg := tg) (td := td) (c1 := c1) (c2 := c2) B F X ?_ T hk ib ia (by omega) (by omega) (by omega) hd hu ?_ ?_ hz S2.gs S1.gs (hR.small _ hmem) ?_ S1.g0
  · intro p hp
    rcases List.mem_cons.mp hp with rfl | hp
    · exact N _ m1
    rcases List.mem_cons.mp hp with rfl | hp
    · exact N _ m2
    rcases List.mem_cons.mp hp with rfl | hp
    · exact N _ m3
    rcases List.mem_cons.mp hp with rfl | hp
    · exact N _ m4
    exact N _ hp
  · intro h' tk' F' N'
    exact hret h' tk' F' fun p hp => N' p (.tail _ (.tail _ (.tail _ (.tail _ hp))))
  · exact golF_take h0 h1
  · intro c hc
    exact Nat.le_trans (S1.cb c hc) (by rw [hlk]; omega)
end Mine

/-! part Law1 -/
namespace Mine
open Builtin.Int (intBits)
section
variable {prog : Program} {w : World} {A : Around} {E : Value → Shared → Prop} {s : Shared} {h₀ : Heap} {L a b ca cb : Addr} {news : List (Addr × Obj)} {us vs : List Value} {xs ys : List Int} {n2 n4 : Nat} {Q : Value → Shared → Prop}
theorem ne_pair {g g' : Int} {t t' : Tok} (N : News h₀ L s.heap news) (m1 : (a, W.listOf #[.int g t, .ref ca] 0) ∈ news) (m3 : (b, W.listOf #[.int g' t', .ref cb] 0) ∈ news) (m2 : (ca, W.listOf us.toArray n2) ∈ news) (m4 : (cb, W.listOf vs.toArray n4) ∈ news) (i : IntsAre us xs) (j : IntsAre vs ys) (hu : A.units + 64 < cLine)
    (hg : g = g') (hx : xs = ys) (h : Q (.bool false) s) : wpAny (model prog w) A (compareOp .NotEq (.ref a) (.ref b)) Q E s := by
  have r1 : Reads s.heap (.ref a) (.list [.int g, .list (xs.map .int)]) _ := reads_list_at (N _ m1).1 rfl rfl (ReadsAll.cons (Reads.int _ _) (ReadsAll.cons (reads_of_ints (isl_of N m2) i) .nil))
  have r2 : Reads s.heap (.ref b) (.list [.int g', .list (ys.map .int)]) _ := reads_list_at (N _ m3).1 rfl rfl (ReadsAll.cons (Reads.int _ _) (ReadsAll.cons (reads_of_ints (isl_of N m4) j) .nil))
  have sh : ∀ (z : Int) (zs : List Int), SeqAt.shaped (.list [.int z, .list (zs.map .int)]) = true := fun z zs => by
    simp [SeqAt.shaped, PyData.canLay0, PyData.canLayAll0, PyData.depth, PyData.depthAll, ke_canLayAll0, ke_depthAll]
  refine ne_dataH r1 r2 (sh _ _) (sh _ _) hu ?_
  have e : PyData.eqv (.list [.int g, .list (xs.map .int)]) (.list [.int g', .list (ys.map .int)]) = true := by
    simp only [PyData.eqv, PyData.eqvAll, ked_eqvAll, Bool.and_true]
    simp [hg, hx]
  rw [e]
  exact h
end
theorem small_nil : ∀ x ∈ ([] : List Int), x.natAbs < 2 ^ 220 := fun _ h => nomatch h
theorem small_take {rs : List Int} {k : Nat} (h : RowOk rs.length rs) : ∀ x ∈ rs.take k, x.natAbs < 2 ^ 220 := fun x hx => h.small x (List.mem_of_mem_take hx)
theorem short_take {rs : List Int} {k : Nat} (h : rs.length ≤ 70) : (rs.take k).length ≤ 70 := by rw [List.length_take]; omega
local macro_rules | `(tactic| k_mem) => `(tactic| first | exact List.Mem.head _ | ktr_member | (refine List.mem_cons_of_mem _ ?_; k_mem))
local macro_rules | `(tactic| walk_at "eval Call") => `(tactic| k_dflt (refine Call_ ?_))
local macro_rules | `(tactic| walk_at "call ref") => `(tactic| k_dflt (
  (with_reducible show wpAny _ _ (call (Value.ref 49) [Value.ref _]) _ _ _)
  refine' row_call ?k1 ?k2 ?k3 ?k4 ?k5 ?kK ?ks ?kd ?ku ?_
  (case k1 => k_asm); (case k2 => k_asm); (case k3 => k_asm); (case k4 => k_asm); (case k5 => k_asm); (case kK => first | exact rfl | assumption)
  (case ks => assumption); (case kd => ktr_room); (case ku => ktr_units)
  k_whole
  intro R' c' us' rs' h' tk' F' N' l1 iR' kR' lR'
  simp only [AllLt] at l1))
local macro_rules | `(tactic| walk_at "call ref") => `(tactic| k_dflt (
  (with_reducible show wpAny _ _ (call (Value.ref 28) [Value.ref _]) _ _ _)
  refine' gol_call ?k1 ?k2 ?k3 ?k4 ?k5 ?kK ?kl ?ki ?kx ?kn ?kd ?ku ?_
  (case k1 => k_asm); (case k2 => k_asm); (case k3 => k_asm); (case k4 => k_asm); (case k5 => k_asm); (case kK => first | exact rfl | assumption)
  (case kl => k_mem); (case ki => first | assumption | exact IntsAre.nil); (case kx => first | exact small_nil | exact small_take (by assumption)); (case kn => first | exact Nat.zero_le _ | exact short_take (by assumption))
  (case kd => ktr_room); (case ku => ktr_units)
  k_whole
  intro R' C' t' us' c' h' tk' F' N' lR' l1 iC'
  simp only [AllLt] at l1))
local macro_rules | `(tactic| walk_at "call ref") => `(tactic| k_dflt (
  (with_reducible show wpAny _ _ (call (Value.ref 56) [Value.ref _, Value.int _ _, Value.ref _, Value.int _ _]) _ _ _)
  refine' step_at ?k1 ?k2 ?k3 ?k4 ?k5 ?kK ?m1 ?m2 ?m3 ?m4 ?ib ?ia ?h0 ?h1 ?h7 ?hR ?kd ?ku ?_
  (case k1 => k_asm); (case k2 => k_asm); (case k3 => k_asm); (case k4 => k_asm); (case k5 => k_asm); (case kK => first | exact rfl | assumption)
  (case m1 => k_mem); (case m2 => k_mem); (case m3 => k_mem); (case m4 => k_mem); (case ib => assumption); (case ia => assumption); (case h0 => assumption); (case h1 => assumption); (case h7 => assumption); (case hR => assumption)
  (case kd => ktr_room); (case ku => ktr_units)
  k_whole
  intro h' tk' F' N'))
local macro_rules | `(tactic| walk_at "compareOp NotEq ref ref") => `(tactic| k_dflt (
  (with_reducible show wpAny _ _ (compareOp CmpOp.NotEq (Value.ref _) (Value.ref _)) _ _ _)
  refine' ne_pair ?N ?m1 ?m3 ?m2 ?m4 ?i ?j ?hu ?hg ?hx ?_
  (case N => k_asm); (case m1 => k_mem); (case m3 => k_mem); (case m2 => k_mem); (case m4 => k_mem); (case i => assumption); (case j => exact IntsAre.nil); (case hu => first | units_room | ktr_units); (case hg => rfl); (case hx => rfl)))
local macro_rules | `(tactic| walk_at "subscriptTail") => `(tactic| k_dflt (
  (with_reducible show wpAny _ _ (subscriptTail _ _ (Value.ref _) (Value.int _ _)) _ _ _)
  refine' ksa_sub ?k1 ?k2 ?k3 ?k4 ?k5 ?k6 ?_ ?k7
  (case k1 => k_asm); (case k2 => k_mem); (case k3 => assumption); (case k4 => assumption); (case k5 => assumption); (case k6 => omega); (case k7 => with_unfolding_all rfl)
  k_whole
  intro _))
theorem law_walk : PySem.Challenge.rw_zf0001_01.Holds := hd (by
  k_with_none
  k_go0
  all_goals try k_fold
  rename (PyData.list (List.map PyData.int _)).layable0 = true => hlay
  rename ¬ _ < _ => h63
  rename Heap.IsList _ _ _ => hIsl
  rename IntsAre _ _ => hInt
  have hS := Script.mk hIsl hInt (fun x hx => intBits_le_of_item hx hlay) (by omega)
  k_with "pyIter ref" => refine stopHere ?_
  k_steps
  refine goOn ?_
  refine' law_loop ?hh ?hr ?F ?N ?iRow ?mRow ?h7 ?ha0 ?ha1 ?hb ?hm ?turn ?done
  (case hh => rfl); (case hr => assumption); (case F => assumption); (case N => assumption); (case iRow => assumption); (case mRow => k_mem); (case h7 => assumption)
  (case ha0 => split <;> omega); (case ha1 => split <;> omega)
  (case hm => rfl)
  (case hb => exact ⟨by k_mem, by k_mem, by assumption⟩)
  case turn =>
    intro R C tb ub cb X k tk' u h tk hk0 hk1 m1 m2 ib mRow F9 N9
    k_fold
    k_steps
    refine turn_end (by assumption) (by assumption) (And.right (by assumption)) (by assumption) (by assumption) rfl ?_
    intro z z1 z2 z3
    have z4 : [Str.ofString "after"].contains z = false := by simp [z3]
    simp only [if_neg z1, if_neg z2, if_neg z3, z4, Bool.false_eq_true, if_false]
  case done =>
    intro R X tk' u h tk F9 N9 e9
    k_steps)
end Mine

theorem PySem.Challenge.cw_zf0001_01_holds : PySem.Challenge.rw_zf0001_01.Holds := by
  exact Mine.law_walk
