import PyProof.Rows.All
import Wide.All
import OpenK.AllK
import Wide.FinOn
import KE.TryLedger
import Wide.BytesRules
import PyProof.P3Eq
import KE.KTurns
import PyProof.ZipIter
import Lean
import PySem.Challenge.RW_pd0097_01
set_option Elab.async false
set_option compiler.extract_closed false
set_option rowWalk.seconds 0
set_option maxRecDepth 100000
set_option linter.unusedVariables false
namespace Mine
section
theorem ar1 {a b n : Nat} (h : a < b) (k : a < n) : n - b < n - a := Nat.sub_lt_sub_left k h
theorem ar2 {i n : Nat} (h : i ≤ n) : n - i + 1 = n + 1 - i := (Nat.succ_sub h).symm
theorem ar3 {i n : Nat} (h : i ≤ n) : i + (n - i) = n := Nat.add_sub_cancel' h
theorem ar4 {i t n : Nat} (hi : i ≤ n) (h : t ≤ n - i) : i + t ≤ n := ar3 hi ▸ Nat.add_le_add_left h i
theorem ar5 {i t n : Nat} (h : t < n - i) : i + t < n := Nat.add_lt_of_lt_sub' h
theorem ar6 {i t n : Nat} (hi : i ≤ n) (h : t ≤ n - i) (k : ¬ t < n - i) : i + t = n := Nat.le_antisymm h (Nat.le_of_not_lt k) ▸ ar3 hi
theorem ar7 {a b n : Nat} (h : min a n - min b n = n) : min a n - b = n := by
  rcases Nat.le_total b n with k | k
  · rwa [Nat.min_eq_left k] at h
  · rw [Nat.min_eq_right k, Nat.sub_eq_zero_of_le (Nat.min_le_right ..)] at h
    subst h
    exact Nat.sub_eq_zero_of_le (Nat.le_trans (Nat.min_le_right ..) (Nat.zero_le _))
theorem ar8 {a n : Nat} (h : a < n) : n - a = n - (a + 1) + 1 := (Nat.sub_one_add_one (Nat.sub_ne_zero_of_lt h)).symm
theorem ar9 {a b n : Nat} : min a n + (min b n - min a n) ≤ n :=
  (Nat.le_total (min a n) (min b n)).elim (fun h => by rw [Nat.add_sub_cancel' h]; exact Nat.min_le_right ..) (fun h => by rw [Nat.sub_eq_zero_of_le h]; exact Nat.min_le_right ..)
theorem ar10 {a n : Nat} : max 0 (min (a : Int) n) = ((min a n : Nat) : Int) := by lia
theorem ar11 {a k : Nat} : ((a : Int) + 1 * k).toNat = a + k := by rw [Int.one_mul]; rfl
theorem ar12 {a b : Nat} : ((b : Int) - a + 1 - 1).toNat = b - a := by rw [Int.add_sub_cancel]; exact Int.toNat_sub b a
theorem ar13 {a b : Nat} (h : ¬ (a : Int) < b) : Int.toNat 0 = b - a := (Nat.sub_eq_zero_of_le (Int.ofNat_le.mp (Int.not_lt.mp h))).symm
theorem ar14 {i : Nat} : (max 0 (i : Int)).toNat = i := by rw [Int.max_eq_right (Int.natCast_nonneg i)]; rfl
theorem ar15 {i n m : Nat} (h : i + (n + 1) = m) : i < m := h ▸ Nat.lt_add_of_pos_right (Nat.succ_pos n)
theorem ar16 {a i k : Nat} (h : a - i = k + 1) : a - (i + 1) = k := congrArg Nat.pred h
theorem ar17 {a i k : Nat} (h : a - i = k + 1) : i < a := Nat.lt_of_sub_pos (h ▸ Nat.succ_pos k)
theorem ar18 {hi n b a : Nat} (h : hi ≤ n) (hb : b + a + 1 = min hi n) : a = hi - 1 - b := by
  rw [Nat.min_eq_left h] at hb; subst hb; exact (Nat.add_sub_cancel_left ..).symm
theorem ar19 {i hi n : Nat} (h : i < min hi n) : i < hi := Nat.lt_of_lt_of_le h (Nat.min_le_left ..)
theorem ar20 {a l m : Nat} (h : a + (l + 1) ≤ m) : a < m := Nat.lt_of_lt_of_le (Nat.lt_add_of_pos_right (Nat.succ_pos l)) h
theorem ar21 {a l m : Nat} (h : a + (l + 1) ≤ m) : a + 1 + l ≤ m := Nat.le_trans (Nat.le_of_eq (Nat.succ_add_eq_add_succ a l)) h
theorem ar22 {i h : Nat} (k : 0 ≤ i ∧ i < 0 + h) : i < h := Nat.zero_add h ▸ k.2
theorem ar23 {c : Nat} (h : c ≤ 24) : (c : Int) + 1 < 10 ^ 10 := by lia
theorem ar24 {k i t n : Nat} (h : k - i + 1 ≤ t) (hle : t ≤ n - i) : k < n := Nat.lt_of_not_le fun q => Nat.not_lt.mpr (Nat.sub_le_sub_right q i) (Nat.lt_of_lt_of_le h hle)
theorem ar25 {i t n k : Nat} (hi : i ≤ 24) (h : t ≤ n - i) (hx : n ≤ 24) (hk : k ≤ i + t) : k < 2 ^ 62 := by lia
theorem ar26 {i t n k : Nat} (hle : t ≤ n - i) (hik : i ≤ k) (hkr : k ≤ i + t) (hxn : n ≤ k) : k = i + t := by lia
theorem ar27 {k i t : Nat} (h : k - i + 1 ≤ t) : k + 1 ≤ i + t := Nat.le_trans (Nat.succ_le_succ (Nat.sub_le_iff_le_add'.mp (Nat.le_refl _))) (Nat.add_le_add_left h i)
theorem ar28 {k i t : Nat} (h : i ≤ k) (e : k - i = t) : k = i + t := e ▸ (Nat.add_sub_cancel' h).symm
theorem ar29 {a b t : Nat} (e : t = min a b) (h : ¬ a < b) (k : t < b) : False := by rw [e, Nat.min_eq_right (Nat.not_lt.mp h)] at k; exact Nat.lt_irrefl _ k
theorem ar30 {t r : Nat} (h : t < r) : 1 + t ≠ r + 1 := fun e => Nat.ne_of_lt h (Nat.succ.inj ((Nat.add_comm t 1).trans e))
theorem ar31 {b c : Nat} (h : b + 1 = c) : (b : Int) + 1 = c := by rw [← h]; rfl
theorem ar32 {m r : Nat} (h : m ≤ r) : min (1 + m) (r + 1) + 1 = 2 + m := by rw [Nat.add_comm 1 m, Nat.min_eq_left (Nat.succ_le_succ h), Nat.add_comm 2 m]
theorem ar33 {t : Nat} : 1 + t + 1 = t + 2 := by rw [Nat.add_comm 1 t]
theorem ar34 {i n g : Nat} (h : n - i + 2 ≤ g) : n - (i + 1) + 2 ≤ g := Nat.le_trans (Nat.add_le_add_right (Nat.sub_le_sub_left (Nat.le_succ i) n) 2) h
theorem ar35 {i n g : Nat} (h : i < n) (k : n - i + 2 ≤ g + 1) : n - (i + 1) + 2 ≤ g := by rw [ar8 h] at k; exact Nat.le_of_succ_le_succ k
theorem ar36 {i n g j : Nat} (h : i < n) (k : n - i + 2 ≤ g + 1) (e : i + 1 ≤ j) : n - j + 2 ≤ g := Nat.le_trans (Nat.add_le_add_right (Nat.sub_le_sub_left e n) 2) (ar35 h k)
theorem ar37 {n st l m : Nat} (hn : n - st = m) (h : st + l < n) : n - (st + l + 1) < m := hn ▸ ar1 (Nat.lt_succ_of_le (Nat.le_add_right st l)) (Nat.lt_of_le_of_lt (Nat.le_add_right st l) h)
theorem ar39 {a b n : Nat} (h : a + b = n) : a = n - b := Nat.eq_sub_of_add_eq h
theorem ar41 {k : Nat} (h : k < 6) : k = 0 ∨ k = 1 ∨ k = 2 ∨ k = 3 ∨ k = 4 ∨ k = 5 :=
  match k, h with
  | 0, _ => .inl rfl
  | 1, _ => .inr (.inl rfl)
  | 2, _ => .inr (.inr (.inl rfl))
  | 3, _ => .inr (.inr (.inr (.inl rfl)))
  | 4, _ => .inr (.inr (.inr (.inr (.inl rfl))))
  | 5, _ => .inr (.inr (.inr (.inr (.inr rfl))))
theorem ar42 {a f : Nat} (h : a + 2 ≤ f) : f = f - 1 + 1 := (Nat.sub_add_cancel (Nat.le_trans (Nat.le_add_left 1 (a + 1)) h)).symm
theorem ar43 {a f : Nat} (h : a + 2 ≤ f) : f = f - 2 + 2 := (Nat.sub_add_cancel (Nat.le_trans (Nat.le_add_left 2 a) h)).symm
theorem ar45 {a b n : Nat} (h : a + b = n) : a ≤ n := h ▸ Nat.le_add_right a b
theorem ar46 {k j n : Nat} (h : k < j) (hj : k < n) (hn : n ≤ 24) : 48 - j < 48 - k := ar1 h (Nat.lt_of_lt_of_le hj (Nat.le_trans hn (by decide)))
theorem ar47 {k t j : Nat} (h : k + t ≤ j) (n : (j : Int) ≠ k) : k < j := Nat.lt_of_le_of_ne (Nat.le_trans (Nat.le_add_right k t) h) fun e => n (congrArg Int.ofNat e.symm)
theorem ar48 {n k j g : Nat} (h : n - k < g + 1) (kj : k < j) (jn : j ≤ n) : n - j < g := Nat.lt_of_lt_of_le (ar1 kj (Nat.lt_of_lt_of_le kj jn)) (Nat.le_of_lt_succ h)
theorem ar49 {a g : Nat} (h : a < g) : g = g - 1 + 1 := (Nat.sub_add_cancel (Nat.lt_of_le_of_lt (Nat.zero_le a) h)).symm
theorem ar50 {n i : Nat} (h : n ≤ 24) : n - i < 48 := Nat.lt_of_le_of_lt (Nat.sub_le n i) (Nat.lt_of_le_of_lt h (by decide))
theorem ar51 {a n : Nat} (h : n ≤ 24) : min a n ≤ 24 := Nat.le_trans (Nat.min_le_right ..) h
theorem ar52 {a n : Nat} (h : ¬ (n : Int) ≤ a) : a ≤ n := Nat.le_of_lt (Int.ofNat_lt.mp (Int.not_le.mp h))
theorem ar53 {n : Nat} (h : n ≠ 0) : ((-1 : Int) + (n : Int)).toNat = n - 1 := by lia
theorem ar54 {a b : Nat} (h : a ≠ 0) (k : b ≤ a - 1) : b < a := Nat.lt_of_le_of_lt k (Nat.sub_lt (Nat.pos_of_ne_zero h) Nat.one_pos)
theorem ar55 {d n : Nat} (h : d ≤ n) : (n : Int) - d = ((n - d : Nat) : Int) := (Int.ofNat_sub h).symm
theorem ar56 {n f : Nat} : n - max 1 f ≤ n - 1 := Nat.sub_le_sub_left (Nat.le_max_left ..) n
theorem ar57 {p n s q c : Nat} (hx : n ≤ 24) (h : s = n + 1) (k : s = p + 1 + q) : p - c ≤ 24 := Nat.le_trans (Nat.sub_le p c) (Nat.le_trans (Nat.le_of_succ_le_succ (Nat.le_trans (Nat.le_add_right (p + 1) q) (Nat.le_of_eq (k.symm.trans h)))) hx)
theorem ar58 {p n s pl q d c : Nat} (hx : n ≤ 24) (h : pl + s = n + 1) (k : s = p + 1 + q) (hd : d ≤ p) : d - c ≤ 24 := by lia
theorem ar59 {p n s pl q : Nat} (h : pl + s = n + 1) (k : s = p + 1 + q) : pl + (p + 1) + q = n + 1 := by rw [Nat.add_assoc, ← k]; exact h
theorem ar60 {i m n : Nat} (hl : n ≤ 25) (e : m = n) (h : i < m) : i + 1 ≤ 25 := Nat.le_trans h (Nat.le_trans (Nat.le_of_eq e) hl)
theorem ar61 {p : Nat} {n s : Nat} (h : p + s = n + 1) (h0 : s = 0) : (p : Int) - 1 = ((p - 1 : Nat) : Int) := by subst h0; cases (show p = n + 1 from h); exact Int.add_sub_cancel (n : Int) 1
theorem ar62 {z : Int} : z.fmod 13 = 0 ∨ z.fmod 13 = 1 ∨ z.fmod 13 = 2 ∨ z.fmod 13 = 3 ∨ z.fmod 13 = 4 ∨ z.fmod 13 = 5 ∨ z.fmod 13 = 6 ∨ z.fmod 13 = 7 ∨ z.fmod 13 = 8 ∨ z.fmod 13 = 9 ∨ z.fmod 13 = 10 ∨ z.fmod 13 = 11 ∨ z.fmod 13 = 12 := by lia
theorem ar63 {a b c d : Nat} {n : Nat} (h : n = a * 4096 + b * 256 + c * 16 + d) : (a : Int) * 4096 + (b : Int) * 256 + (c : Int) * 16 + (d : Int) = n := by subst h; rfl
theorem ar64 {n : Nat} (h : n < 6) : n < 2 ^ 62 := Nat.lt_trans h (by decide)
theorem ar65 {k i T t n : Nat} (h : k ≤ i + T) (e : true = decide (T < t)) (g : i + t ≤ n) : k < n := Nat.lt_of_le_of_lt h (Nat.lt_of_lt_of_le (Nat.add_lt_add_left (of_decide_eq_true e.symm) i) g)
theorem ar67 {c : Nat} (h : (c : Int) + 1 ≠ 1) : 0 < c := Nat.pos_of_ne_zero fun e => h (by rw [e]; rfl)
theorem ar68 {n a b m : Nat} (ih : n + a ≤ m) (h1 : a ≠ 0) (h2 : b ≤ a - 1) : n + 1 + b ≤ m := Nat.le_trans (Nat.le_of_eq (Nat.succ_add_eq_add_succ n b)) (Nat.le_trans (Nat.add_le_add_left (ar54 h1 h2) n) ih)
theorem ar69 {f : Nat} (h : (f : Int) ≤ 1) : (1 : Int) = ((max 1 f : Nat) : Int) := congrArg Int.ofNat (Nat.max_eq_left (Int.ofNat_le.mp h)).symm
theorem ar70 {M : Int} {f a : Nat} (g1 : 1 ≤ M) (g3 : (f : Int) ≤ M) (e : (a : Int) = M) (h : a ≤ f) : M = ((max 1 f : Nat) : Int) := by
  subst e
  have k : a = f := Nat.le_antisymm h (Int.ofNat_le.mp g3)
  subst k
  exact congrArg Int.ofNat (Nat.max_eq_right (Int.ofNat_le.mp g1)).symm
theorem ar71 {n v t : Nat} {y : List Nat} (hx : n ≤ 24) (h : y ≠ [] → v + t ≤ n) (k : y ≠ []) : v ≤ 24 := Nat.le_trans (Nat.le_add_right v t) (Nat.le_trans (h k) hx)
theorem ar72 {a b c d f p q : Nat} {L : Nat} (h2 : d < a) (h3 : a < b) (h4 : b < c) (l2 : q ≠ f) (hq : q < d) (hL : L + 1 + 1 ≠ q) (hM : L + 1 ≠ q) (hp : p = f ∨ p = c ∨ p = b ∨ p = a ∨ p = d ∨ p = L + 1 + 1 ∨ p = L + 1) : ¬ p = q := fun e => by
  subst e
  rcases hp with h | h | h | h | h | h | h
  · exact l2 h
  · exact Nat.ne_of_lt (Nat.lt_trans hq (Nat.lt_trans h2 (Nat.lt_trans h3 h4))) h
  · exact Nat.ne_of_lt (Nat.lt_trans hq (Nat.lt_trans h2 h3)) h
  · exact Nat.ne_of_lt (Nat.lt_trans hq h2) h
  · exact Nat.ne_of_lt hq h
  · exact hL h.symm
  · exact hM h.symm
theorem ar73 {z : Int} : z.fmod 6 = 0 ∨ z.fmod 6 = 1 ∨ z.fmod 6 = 2 ∨ z.fmod 6 = 3 ∨ z.fmod 6 = 4 ∨ z.fmod 6 = 5 := by lia
theorem ar74 {M a b : Nat} (ha : a < M) (q : ¬ a ≤ b) : M - a + b < M := by lia
theorem ar75 {L dx x u l c f q p : Nat} (h2 : dx < x) (h3 : x < u) (h4 : u < l) (g1 : L + 1 + 1 < dx) (g3 : 202 < dx) (n1 : L + 1 + 1 ≠ 202) (n2 : L + 1 ≠ 202) (l2 : c < f) (m1 : l < c) (hq : q = 202 ∨ q = c ∨ (q < dx ∧ q < c ∧ L + 1 + 1 ≠ q ∧ L + 1 ≠ q)) (hp : p = f ∨ p = l ∨ p = u ∨ p = x ∨ p = dx ∨ p = L + 1 + 1 ∨ p = L + 1) : ¬ p = q := by
  have a1 : u < c := Nat.lt_trans h4 m1
  have a2 : x < c := Nat.lt_trans h3 a1
  have a3 : dx < c := Nat.lt_trans h2 a2
  rcases hq with e | e | ⟨a, b, c1, d⟩
  · subst e; exact ar72 h2 h3 h4 (Nat.ne_of_lt (Nat.lt_trans g3 (Nat.lt_trans a3 l2))) g3 n1 n2 hp
  · subst e
    intro e
    subst e
    rcases hp with h | h | h | h | h | h | h
    · exact Nat.ne_of_lt l2 h
    · exact Nat.ne_of_gt m1 h
    · exact Nat.ne_of_gt a1 h
    · exact Nat.ne_of_gt a2 h
    · exact Nat.ne_of_gt a3 h
    · exact Nat.ne_of_gt (Nat.lt_trans g1 a3) h
    · exact Nat.ne_of_gt (Nat.lt_trans (Nat.lt_succ_self _) (Nat.lt_trans g1 a3)) h
  · exact ar72 h2 h3 h4 (Nat.ne_of_lt (Nat.lt_trans b l2)) a c1 d hp
theorem ar76 {L dx x u l c f q p : Nat} (h2 : dx < x) (h3 : x < u) (h4 : u < l) (g3 : 202 < dx) (n1 : L + 1 + 1 ≠ 202) (n2 : L + 1 ≠ 202) (g4 : c < dx) (n3 : L + 1 + 1 ≠ c) (n4 : L + 1 ≠ c) (m2 : 202 < f) (m3 : c < f) (hq : q = 202 ∨ q = c ∨ (q < dx ∧ q < f ∧ L + 1 + 1 ≠ q ∧ L + 1 ≠ q)) (hp : p = f ∨ p = l ∨ p = u ∨ p = x ∨ p = dx ∨ p = L + 1 + 1 ∨ p = L + 1) : ¬ p = q := by
  rcases hq with e | e | ⟨a, b, c1, d⟩
  · subst e; exact ar72 h2 h3 h4 (Nat.ne_of_lt m2) g3 n1 n2 hp
  · subst e; exact ar72 h2 h3 h4 (Nat.ne_of_lt m3) g4 n3 n4 hp
  · exact ar72 h2 h3 h4 (Nat.ne_of_lt b) a c1 d hp

end
section
theorem X0_2 {P1 P2 G : Prop} (h : P1 ∧ P2) (k : P1 → P2 → G) : G := k h.1 h.2
theorem X0_3 {P1 P2 P3 G : Prop} (h : P1 ∧ P2 ∧ P3) (k : P1 → P2 → P3 → G) : G := k h.1 h.2.1 h.2.2
theorem X0_4 {P1 P2 P3 P4 G : Prop} (h : P1 ∧ P2 ∧ P3 ∧ P4) (k : P1 → P2 → P3 → P4 → G) : G := k h.1 h.2.1 h.2.2.1 h.2.2.2
theorem X0_5 {P1 P2 P3 P4 P5 G : Prop} (h : P1 ∧ P2 ∧ P3 ∧ P4 ∧ P5) (k : P1 → P2 → P3 → P4 → P5 → G) : G := k h.1 h.2.1 h.2.2.1 h.2.2.2.1 h.2.2.2.2
theorem X0_6 {P1 P2 P3 P4 P5 P6 G : Prop} (h : P1 ∧ P2 ∧ P3 ∧ P4 ∧ P5 ∧ P6) (k : P1 → P2 → P3 → P4 → P5 → P6 → G) : G := k h.1 h.2.1 h.2.2.1 h.2.2.2.1 h.2.2.2.2.1 h.2.2.2.2.2
theorem X0_7 {P1 P2 P3 P4 P5 P6 P7 G : Prop} (h : P1 ∧ P2 ∧ P3 ∧ P4 ∧ P5 ∧ P6 ∧ P7) (k : P1 → P2 → P3 → P4 → P5 → P6 → P7 → G) : G := k h.1 h.2.1 h.2.2.1 h.2.2.2.1 h.2.2.2.2.1 h.2.2.2.2.2.1 h.2.2.2.2.2.2
theorem X1_1 {A1 : Type} {P1 : A1 → Prop} {G : Prop} (h : ∃ x1, P1 x1) (k : ∀ x1, P1 x1 → G) : G := h.elim fun x1 h' => k x1 h'
theorem X1_2 {A1 : Type} {P1 P2 : A1 → Prop} {G : Prop} (h : ∃ x1, P1 x1 ∧ P2 x1) (k : ∀ x1, P1 x1 → P2 x1 → G) : G := h.elim fun x1 h' => k x1 h'.1 h'.2
theorem X1_3 {A1 : Type} {P1 P2 P3 : A1 → Prop} {G : Prop} (h : ∃ x1, P1 x1 ∧ P2 x1 ∧ P3 x1) (k : ∀ x1, P1 x1 → P2 x1 → P3 x1 → G) : G := h.elim fun x1 h' => k x1 h'.1 h'.2.1 h'.2.2
theorem X1_4 {A1 : Type} {P1 P2 P3 P4 : A1 → Prop} {G : Prop} (h : ∃ x1, P1 x1 ∧ P2 x1 ∧ P3 x1 ∧ P4 x1) (k : ∀ x1, P1 x1 → P2 x1 → P3 x1 → P4 x1 → G) : G := h.elim fun x1 h' => k x1 h'.1 h'.2.1 h'.2.2.1 h'.2.2.2
theorem X1_14 {A1 : Type} {P1 P2 P3 P4 P5 P6 P7 P8 P9 P10 P11 P12 P13 P14 : A1 → Prop} {G : Prop} (h : ∃ x1, P1 x1 ∧ P2 x1 ∧ P3 x1 ∧ P4 x1 ∧ P5 x1 ∧ P6 x1 ∧ P7 x1 ∧ P8 x1 ∧ P9 x1 ∧ P10 x1 ∧ P11 x1 ∧ P12 x1 ∧ P13 x1 ∧ P14 x1) (k : ∀ x1, P1 x1 → P2 x1 → P3 x1 → P4 x1 → P5 x1 → P6 x1 → P7 x1 → P8 x1 → P9 x1 → P10 x1 → P11 x1 → P12 x1 → P13 x1 → P14 x1 → G) : G := h.elim fun x1 h' => k x1 h'.1 h'.2.1 h'.2.2.1 h'.2.2.2.1 h'.2.2.2.2.1 h'.2.2.2.2.2.1 h'.2.2.2.2.2.2.1 h'.2.2.2.2.2.2.2.1 h'.2.2.2.2.2.2.2.2.1 h'.2.2.2.2.2.2.2.2.2.1 h'.2.2.2.2.2.2.2.2.2.2.1 h'.2.2.2.2.2.2.2.2.2.2.2.1 h'.2.2.2.2.2.2.2.2.2.2.2.2.1 h'.2.2.2.2.2.2.2.2.2.2.2.2.2
theorem X2_1 {A1 A2 : Type} {P1 : A1 → A2 → Prop} {G : Prop} (h : ∃ x1 x2, P1 x1 x2) (k : ∀ x1 x2, P1 x1 x2 → G) : G := h.elim fun x1 h' => h'.elim fun x2 h' => k x1 x2 h'
theorem X2_2 {A1 A2 : Type} {P1 P2 : A1 → A2 → Prop} {G : Prop} (h : ∃ x1 x2, P1 x1 x2 ∧ P2 x1 x2) (k : ∀ x1 x2, P1 x1 x2 → P2 x1 x2 → G) : G := h.elim fun x1 h' => h'.elim fun x2 h' => k x1 x2 h'.1 h'.2
theorem X2_3 {A1 A2 : Type} {P1 P2 P3 : A1 → A2 → Prop} {G : Prop} (h : ∃ x1 x2, P1 x1 x2 ∧ P2 x1 x2 ∧ P3 x1 x2) (k : ∀ x1 x2, P1 x1 x2 → P2 x1 x2 → P3 x1 x2 → G) : G := h.elim fun x1 h' => h'.elim fun x2 h' => k x1 x2 h'.1 h'.2.1 h'.2.2
theorem X2_4 {A1 A2 : Type} {P1 P2 P3 P4 : A1 → A2 → Prop} {G : Prop} (h : ∃ x1 x2, P1 x1 x2 ∧ P2 x1 x2 ∧ P3 x1 x2 ∧ P4 x1 x2) (k : ∀ x1 x2, P1 x1 x2 → P2 x1 x2 → P3 x1 x2 → P4 x1 x2 → G) : G := h.elim fun x1 h' => h'.elim fun x2 h' => k x1 x2 h'.1 h'.2.1 h'.2.2.1 h'.2.2.2
theorem X2_5 {A1 A2 : Type} {P1 P2 P3 P4 P5 : A1 → A2 → Prop} {G : Prop} (h : ∃ x1 x2, P1 x1 x2 ∧ P2 x1 x2 ∧ P3 x1 x2 ∧ P4 x1 x2 ∧ P5 x1 x2) (k : ∀ x1 x2, P1 x1 x2 → P2 x1 x2 → P3 x1 x2 → P4 x1 x2 → P5 x1 x2 → G) : G := h.elim fun x1 h' => h'.elim fun x2 h' => k x1 x2 h'.1 h'.2.1 h'.2.2.1 h'.2.2.2.1 h'.2.2.2.2
theorem X2_7 {A1 A2 : Type} {P1 P2 P3 P4 P5 P6 P7 : A1 → A2 → Prop} {G : Prop} (h : ∃ x1 x2, P1 x1 x2 ∧ P2 x1 x2 ∧ P3 x1 x2 ∧ P4 x1 x2 ∧ P5 x1 x2 ∧ P6 x1 x2 ∧ P7 x1 x2) (k : ∀ x1 x2, P1 x1 x2 → P2 x1 x2 → P3 x1 x2 → P4 x1 x2 → P5 x1 x2 → P6 x1 x2 → P7 x1 x2 → G) : G := h.elim fun x1 h' => h'.elim fun x2 h' => k x1 x2 h'.1 h'.2.1 h'.2.2.1 h'.2.2.2.1 h'.2.2.2.2.1 h'.2.2.2.2.2.1 h'.2.2.2.2.2.2
theorem X3_2 {A1 A2 A3 : Type} {P1 P2 : A1 → A2 → A3 → Prop} {G : Prop} (h : ∃ x1 x2 x3, P1 x1 x2 x3 ∧ P2 x1 x2 x3) (k : ∀ x1 x2 x3, P1 x1 x2 x3 → P2 x1 x2 x3 → G) : G := h.elim fun x1 h' => h'.elim fun x2 h' => h'.elim fun x3 h' => k x1 x2 x3 h'.1 h'.2
theorem X3_3 {A1 A2 A3 : Type} {P1 P2 P3 : A1 → A2 → A3 → Prop} {G : Prop} (h : ∃ x1 x2 x3, P1 x1 x2 x3 ∧ P2 x1 x2 x3 ∧ P3 x1 x2 x3) (k : ∀ x1 x2 x3, P1 x1 x2 x3 → P2 x1 x2 x3 → P3 x1 x2 x3 → G) : G := h.elim fun x1 h' => h'.elim fun x2 h' => h'.elim fun x3 h' => k x1 x2 x3 h'.1 h'.2.1 h'.2.2
theorem X3_4 {A1 A2 A3 : Type} {P1 P2 P3 P4 : A1 → A2 → A3 → Prop} {G : Prop} (h : ∃ x1 x2 x3, P1 x1 x2 x3 ∧ P2 x1 x2 x3 ∧ P3 x1 x2 x3 ∧ P4 x1 x2 x3) (k : ∀ x1 x2 x3, P1 x1 x2 x3 → P2 x1 x2 x3 → P3 x1 x2 x3 → P4 x1 x2 x3 → G) : G := h.elim fun x1 h' => h'.elim fun x2 h' => h'.elim fun x3 h' => k x1 x2 x3 h'.1 h'.2.1 h'.2.2.1 h'.2.2.2
theorem X3_5 {A1 A2 A3 : Type} {P1 P2 P3 P4 P5 : A1 → A2 → A3 → Prop} {G : Prop} (h : ∃ x1 x2 x3, P1 x1 x2 x3 ∧ P2 x1 x2 x3 ∧ P3 x1 x2 x3 ∧ P4 x1 x2 x3 ∧ P5 x1 x2 x3) (k : ∀ x1 x2 x3, P1 x1 x2 x3 → P2 x1 x2 x3 → P3 x1 x2 x3 → P4 x1 x2 x3 → P5 x1 x2 x3 → G) : G := h.elim fun x1 h' => h'.elim fun x2 h' => h'.elim fun x3 h' => k x1 x2 x3 h'.1 h'.2.1 h'.2.2.1 h'.2.2.2.1 h'.2.2.2.2
theorem X3_6 {A1 A2 A3 : Type} {P1 P2 P3 P4 P5 P6 : A1 → A2 → A3 → Prop} {G : Prop} (h : ∃ x1 x2 x3, P1 x1 x2 x3 ∧ P2 x1 x2 x3 ∧ P3 x1 x2 x3 ∧ P4 x1 x2 x3 ∧ P5 x1 x2 x3 ∧ P6 x1 x2 x3) (k : ∀ x1 x2 x3, P1 x1 x2 x3 → P2 x1 x2 x3 → P3 x1 x2 x3 → P4 x1 x2 x3 → P5 x1 x2 x3 → P6 x1 x2 x3 → G) : G := h.elim fun x1 h' => h'.elim fun x2 h' => h'.elim fun x3 h' => k x1 x2 x3 h'.1 h'.2.1 h'.2.2.1 h'.2.2.2.1 h'.2.2.2.2.1 h'.2.2.2.2.2
theorem X3_7 {A1 A2 A3 : Type} {P1 P2 P3 P4 P5 P6 P7 : A1 → A2 → A3 → Prop} {G : Prop} (h : ∃ x1 x2 x3, P1 x1 x2 x3 ∧ P2 x1 x2 x3 ∧ P3 x1 x2 x3 ∧ P4 x1 x2 x3 ∧ P5 x1 x2 x3 ∧ P6 x1 x2 x3 ∧ P7 x1 x2 x3) (k : ∀ x1 x2 x3, P1 x1 x2 x3 → P2 x1 x2 x3 → P3 x1 x2 x3 → P4 x1 x2 x3 → P5 x1 x2 x3 → P6 x1 x2 x3 → P7 x1 x2 x3 → G) : G := h.elim fun x1 h' => h'.elim fun x2 h' => h'.elim fun x3 h' => k x1 x2 x3 h'.1 h'.2.1 h'.2.2.1 h'.2.2.2.1 h'.2.2.2.2.1 h'.2.2.2.2.2.1 h'.2.2.2.2.2.2
theorem X4_1 {A1 A2 A3 A4 : Type} {P1 : A1 → A2 → A3 → A4 → Prop} {G : Prop} (h : ∃ x1 x2 x3 x4, P1 x1 x2 x3 x4) (k : ∀ x1 x2 x3 x4, P1 x1 x2 x3 x4 → G) : G := h.elim fun x1 h' => h'.elim fun x2 h' => h'.elim fun x3 h' => h'.elim fun x4 h' => k x1 x2 x3 x4 h'
theorem X4_3 {A1 A2 A3 A4 : Type} {P1 P2 P3 : A1 → A2 → A3 → A4 → Prop} {G : Prop} (h : ∃ x1 x2 x3 x4, P1 x1 x2 x3 x4 ∧ P2 x1 x2 x3 x4 ∧ P3 x1 x2 x3 x4) (k : ∀ x1 x2 x3 x4, P1 x1 x2 x3 x4 → P2 x1 x2 x3 x4 → P3 x1 x2 x3 x4 → G) : G := h.elim fun x1 h' => h'.elim fun x2 h' => h'.elim fun x3 h' => h'.elim fun x4 h' => k x1 x2 x3 x4 h'.1 h'.2.1 h'.2.2
theorem X4_4 {A1 A2 A3 A4 : Type} {P1 P2 P3 P4 : A1 → A2 → A3 → A4 → Prop} {G : Prop} (h : ∃ x1 x2 x3 x4, P1 x1 x2 x3 x4 ∧ P2 x1 x2 x3 x4 ∧ P3 x1 x2 x3 x4 ∧ P4 x1 x2 x3 x4) (k : ∀ x1 x2 x3 x4, P1 x1 x2 x3 x4 → P2 x1 x2 x3 x4 → P3 x1 x2 x3 x4 → P4 x1 x2 x3 x4 → G) : G := h.elim fun x1 h' => h'.elim fun x2 h' => h'.elim fun x3 h' => h'.elim fun x4 h' => k x1 x2 x3 x4 h'.1 h'.2.1 h'.2.2.1 h'.2.2.2
theorem X4_5 {A1 A2 A3 A4 : Type} {P1 P2 P3 P4 P5 : A1 → A2 → A3 → A4 → Prop} {G : Prop} (h : ∃ x1 x2 x3 x4, P1 x1 x2 x3 x4 ∧ P2 x1 x2 x3 x4 ∧ P3 x1 x2 x3 x4 ∧ P4 x1 x2 x3 x4 ∧ P5 x1 x2 x3 x4) (k : ∀ x1 x2 x3 x4, P1 x1 x2 x3 x4 → P2 x1 x2 x3 x4 → P3 x1 x2 x3 x4 → P4 x1 x2 x3 x4 → P5 x1 x2 x3 x4 → G) : G := h.elim fun x1 h' => h'.elim fun x2 h' => h'.elim fun x3 h' => h'.elim fun x4 h' => k x1 x2 x3 x4 h'.1 h'.2.1 h'.2.2.1 h'.2.2.2.1 h'.2.2.2.2
theorem X4_6 {A1 A2 A3 A4 : Type} {P1 P2 P3 P4 P5 P6 : A1 → A2 → A3 → A4 → Prop} {G : Prop} (h : ∃ x1 x2 x3 x4, P1 x1 x2 x3 x4 ∧ P2 x1 x2 x3 x4 ∧ P3 x1 x2 x3 x4 ∧ P4 x1 x2 x3 x4 ∧ P5 x1 x2 x3 x4 ∧ P6 x1 x2 x3 x4) (k : ∀ x1 x2 x3 x4, P1 x1 x2 x3 x4 → P2 x1 x2 x3 x4 → P3 x1 x2 x3 x4 → P4 x1 x2 x3 x4 → P5 x1 x2 x3 x4 → P6 x1 x2 x3 x4 → G) : G := h.elim fun x1 h' => h'.elim fun x2 h' => h'.elim fun x3 h' => h'.elim fun x4 h' => k x1 x2 x3 x4 h'.1 h'.2.1 h'.2.2.1 h'.2.2.2.1 h'.2.2.2.2.1 h'.2.2.2.2.2
theorem X4_7 {A1 A2 A3 A4 : Type} {P1 P2 P3 P4 P5 P6 P7 : A1 → A2 → A3 → A4 → Prop} {G : Prop} (h : ∃ x1 x2 x3 x4, P1 x1 x2 x3 x4 ∧ P2 x1 x2 x3 x4 ∧ P3 x1 x2 x3 x4 ∧ P4 x1 x2 x3 x4 ∧ P5 x1 x2 x3 x4 ∧ P6 x1 x2 x3 x4 ∧ P7 x1 x2 x3 x4) (k : ∀ x1 x2 x3 x4, P1 x1 x2 x3 x4 → P2 x1 x2 x3 x4 → P3 x1 x2 x3 x4 → P4 x1 x2 x3 x4 → P5 x1 x2 x3 x4 → P6 x1 x2 x3 x4 → P7 x1 x2 x3 x4 → G) : G := h.elim fun x1 h' => h'.elim fun x2 h' => h'.elim fun x3 h' => h'.elim fun x4 h' => k x1 x2 x3 x4 h'.1 h'.2.1 h'.2.2.1 h'.2.2.2.1 h'.2.2.2.2.1 h'.2.2.2.2.2.1 h'.2.2.2.2.2.2
theorem X5_1 {A1 A2 A3 A4 A5 : Type} {P1 : A1 → A2 → A3 → A4 → A5 → Prop} {G : Prop} (h : ∃ x1 x2 x3 x4 x5, P1 x1 x2 x3 x4 x5) (k : ∀ x1 x2 x3 x4 x5, P1 x1 x2 x3 x4 x5 → G) : G := h.elim fun x1 h' => h'.elim fun x2 h' => h'.elim fun x3 h' => h'.elim fun x4 h' => h'.elim fun x5 h' => k x1 x2 x3 x4 x5 h'
theorem X5_4 {A1 A2 A3 A4 A5 : Type} {P1 P2 P3 P4 : A1 → A2 → A3 → A4 → A5 → Prop} {G : Prop} (h : ∃ x1 x2 x3 x4 x5, P1 x1 x2 x3 x4 x5 ∧ P2 x1 x2 x3 x4 x5 ∧ P3 x1 x2 x3 x4 x5 ∧ P4 x1 x2 x3 x4 x5) (k : ∀ x1 x2 x3 x4 x5, P1 x1 x2 x3 x4 x5 → P2 x1 x2 x3 x4 x5 → P3 x1 x2 x3 x4 x5 → P4 x1 x2 x3 x4 x5 → G) : G := h.elim fun x1 h' => h'.elim fun x2 h' => h'.elim fun x3 h' => h'.elim fun x4 h' => h'.elim fun x5 h' => k x1 x2 x3 x4 x5 h'.1 h'.2.1 h'.2.2.1 h'.2.2.2
theorem X5_5 {A1 A2 A3 A4 A5 : Type} {P1 P2 P3 P4 P5 : A1 → A2 → A3 → A4 → A5 → Prop} {G : Prop} (h : ∃ x1 x2 x3 x4 x5, P1 x1 x2 x3 x4 x5 ∧ P2 x1 x2 x3 x4 x5 ∧ P3 x1 x2 x3 x4 x5 ∧ P4 x1 x2 x3 x4 x5 ∧ P5 x1 x2 x3 x4 x5) (k : ∀ x1 x2 x3 x4 x5, P1 x1 x2 x3 x4 x5 → P2 x1 x2 x3 x4 x5 → P3 x1 x2 x3 x4 x5 → P4 x1 x2 x3 x4 x5 → P5 x1 x2 x3 x4 x5 → G) : G := h.elim fun x1 h' => h'.elim fun x2 h' => h'.elim fun x3 h' => h'.elim fun x4 h' => h'.elim fun x5 h' => k x1 x2 x3 x4 x5 h'.1 h'.2.1 h'.2.2.1 h'.2.2.2.1 h'.2.2.2.2
theorem X5_6 {A1 A2 A3 A4 A5 : Type} {P1 P2 P3 P4 P5 P6 : A1 → A2 → A3 → A4 → A5 → Prop} {G : Prop} (h : ∃ x1 x2 x3 x4 x5, P1 x1 x2 x3 x4 x5 ∧ P2 x1 x2 x3 x4 x5 ∧ P3 x1 x2 x3 x4 x5 ∧ P4 x1 x2 x3 x4 x5 ∧ P5 x1 x2 x3 x4 x5 ∧ P6 x1 x2 x3 x4 x5) (k : ∀ x1 x2 x3 x4 x5, P1 x1 x2 x3 x4 x5 → P2 x1 x2 x3 x4 x5 → P3 x1 x2 x3 x4 x5 → P4 x1 x2 x3 x4 x5 → P5 x1 x2 x3 x4 x5 → P6 x1 x2 x3 x4 x5 → G) : G := h.elim fun x1 h' => h'.elim fun x2 h' => h'.elim fun x3 h' => h'.elim fun x4 h' => h'.elim fun x5 h' => k x1 x2 x3 x4 x5 h'.1 h'.2.1 h'.2.2.1 h'.2.2.2.1 h'.2.2.2.2.1 h'.2.2.2.2.2
theorem X5_7 {A1 A2 A3 A4 A5 : Type} {P1 P2 P3 P4 P5 P6 P7 : A1 → A2 → A3 → A4 → A5 → Prop} {G : Prop} (h : ∃ x1 x2 x3 x4 x5, P1 x1 x2 x3 x4 x5 ∧ P2 x1 x2 x3 x4 x5 ∧ P3 x1 x2 x3 x4 x5 ∧ P4 x1 x2 x3 x4 x5 ∧ P5 x1 x2 x3 x4 x5 ∧ P6 x1 x2 x3 x4 x5 ∧ P7 x1 x2 x3 x4 x5) (k : ∀ x1 x2 x3 x4 x5, P1 x1 x2 x3 x4 x5 → P2 x1 x2 x3 x4 x5 → P3 x1 x2 x3 x4 x5 → P4 x1 x2 x3 x4 x5 → P5 x1 x2 x3 x4 x5 → P6 x1 x2 x3 x4 x5 → P7 x1 x2 x3 x4 x5 → G) : G := h.elim fun x1 h' => h'.elim fun x2 h' => h'.elim fun x3 h' => h'.elim fun x4 h' => h'.elim fun x5 h' => k x1 x2 x3 x4 x5 h'.1 h'.2.1 h'.2.2.1 h'.2.2.2.1 h'.2.2.2.2.1 h'.2.2.2.2.2.1 h'.2.2.2.2.2.2
theorem X5_8 {A1 A2 A3 A4 A5 : Type} {P1 P2 P3 P4 P5 P6 P7 P8 : A1 → A2 → A3 → A4 → A5 → Prop} {G : Prop} (h : ∃ x1 x2 x3 x4 x5, P1 x1 x2 x3 x4 x5 ∧ P2 x1 x2 x3 x4 x5 ∧ P3 x1 x2 x3 x4 x5 ∧ P4 x1 x2 x3 x4 x5 ∧ P5 x1 x2 x3 x4 x5 ∧ P6 x1 x2 x3 x4 x5 ∧ P7 x1 x2 x3 x4 x5 ∧ P8 x1 x2 x3 x4 x5) (k : ∀ x1 x2 x3 x4 x5, P1 x1 x2 x3 x4 x5 → P2 x1 x2 x3 x4 x5 → P3 x1 x2 x3 x4 x5 → P4 x1 x2 x3 x4 x5 → P5 x1 x2 x3 x4 x5 → P6 x1 x2 x3 x4 x5 → P7 x1 x2 x3 x4 x5 → P8 x1 x2 x3 x4 x5 → G) : G := h.elim fun x1 h' => h'.elim fun x2 h' => h'.elim fun x3 h' => h'.elim fun x4 h' => h'.elim fun x5 h' => k x1 x2 x3 x4 x5 h'.1 h'.2.1 h'.2.2.1 h'.2.2.2.1 h'.2.2.2.2.1 h'.2.2.2.2.2.1 h'.2.2.2.2.2.2.1 h'.2.2.2.2.2.2.2
theorem X5_9 {A1 A2 A3 A4 A5 : Type} {P1 P2 P3 P4 P5 P6 P7 P8 P9 : A1 → A2 → A3 → A4 → A5 → Prop} {G : Prop} (h : ∃ x1 x2 x3 x4 x5, P1 x1 x2 x3 x4 x5 ∧ P2 x1 x2 x3 x4 x5 ∧ P3 x1 x2 x3 x4 x5 ∧ P4 x1 x2 x3 x4 x5 ∧ P5 x1 x2 x3 x4 x5 ∧ P6 x1 x2 x3 x4 x5 ∧ P7 x1 x2 x3 x4 x5 ∧ P8 x1 x2 x3 x4 x5 ∧ P9 x1 x2 x3 x4 x5) (k : ∀ x1 x2 x3 x4 x5, P1 x1 x2 x3 x4 x5 → P2 x1 x2 x3 x4 x5 → P3 x1 x2 x3 x4 x5 → P4 x1 x2 x3 x4 x5 → P5 x1 x2 x3 x4 x5 → P6 x1 x2 x3 x4 x5 → P7 x1 x2 x3 x4 x5 → P8 x1 x2 x3 x4 x5 → P9 x1 x2 x3 x4 x5 → G) : G := h.elim fun x1 h' => h'.elim fun x2 h' => h'.elim fun x3 h' => h'.elim fun x4 h' => h'.elim fun x5 h' => k x1 x2 x3 x4 x5 h'.1 h'.2.1 h'.2.2.1 h'.2.2.2.1 h'.2.2.2.2.1 h'.2.2.2.2.2.1 h'.2.2.2.2.2.2.1 h'.2.2.2.2.2.2.2.1 h'.2.2.2.2.2.2.2.2
theorem X6_3 {A1 A2 A3 A4 A5 A6 : Type} {P1 P2 P3 : A1 → A2 → A3 → A4 → A5 → A6 → Prop} {G : Prop} (h : ∃ x1 x2 x3 x4 x5 x6, P1 x1 x2 x3 x4 x5 x6 ∧ P2 x1 x2 x3 x4 x5 x6 ∧ P3 x1 x2 x3 x4 x5 x6) (k : ∀ x1 x2 x3 x4 x5 x6, P1 x1 x2 x3 x4 x5 x6 → P2 x1 x2 x3 x4 x5 x6 → P3 x1 x2 x3 x4 x5 x6 → G) : G := h.elim fun x1 h' => h'.elim fun x2 h' => h'.elim fun x3 h' => h'.elim fun x4 h' => h'.elim fun x5 h' => h'.elim fun x6 h' => k x1 x2 x3 x4 x5 x6 h'.1 h'.2.1 h'.2.2
theorem X6_7 {A1 A2 A3 A4 A5 A6 : Type} {P1 P2 P3 P4 P5 P6 P7 : A1 → A2 → A3 → A4 → A5 → A6 → Prop} {G : Prop} (h : ∃ x1 x2 x3 x4 x5 x6, P1 x1 x2 x3 x4 x5 x6 ∧ P2 x1 x2 x3 x4 x5 x6 ∧ P3 x1 x2 x3 x4 x5 x6 ∧ P4 x1 x2 x3 x4 x5 x6 ∧ P5 x1 x2 x3 x4 x5 x6 ∧ P6 x1 x2 x3 x4 x5 x6 ∧ P7 x1 x2 x3 x4 x5 x6) (k : ∀ x1 x2 x3 x4 x5 x6, P1 x1 x2 x3 x4 x5 x6 → P2 x1 x2 x3 x4 x5 x6 → P3 x1 x2 x3 x4 x5 x6 → P4 x1 x2 x3 x4 x5 x6 → P5 x1 x2 x3 x4 x5 x6 → P6 x1 x2 x3 x4 x5 x6 → P7 x1 x2 x3 x4 x5 x6 → G) : G := h.elim fun x1 h' => h'.elim fun x2 h' => h'.elim fun x3 h' => h'.elim fun x4 h' => h'.elim fun x5 h' => h'.elim fun x6 h' => k x1 x2 x3 x4 x5 x6 h'.1 h'.2.1 h'.2.2.1 h'.2.2.2.1 h'.2.2.2.2.1 h'.2.2.2.2.2.1 h'.2.2.2.2.2.2
theorem X6_10 {A1 A2 A3 A4 A5 A6 : Type} {P1 P2 P3 P4 P5 P6 P7 P8 P9 P10 : A1 → A2 → A3 → A4 → A5 → A6 → Prop} {G : Prop} (h : ∃ x1 x2 x3 x4 x5 x6, P1 x1 x2 x3 x4 x5 x6 ∧ P2 x1 x2 x3 x4 x5 x6 ∧ P3 x1 x2 x3 x4 x5 x6 ∧ P4 x1 x2 x3 x4 x5 x6 ∧ P5 x1 x2 x3 x4 x5 x6 ∧ P6 x1 x2 x3 x4 x5 x6 ∧ P7 x1 x2 x3 x4 x5 x6 ∧ P8 x1 x2 x3 x4 x5 x6 ∧ P9 x1 x2 x3 x4 x5 x6 ∧ P10 x1 x2 x3 x4 x5 x6) (k : ∀ x1 x2 x3 x4 x5 x6, P1 x1 x2 x3 x4 x5 x6 → P2 x1 x2 x3 x4 x5 x6 → P3 x1 x2 x3 x4 x5 x6 → P4 x1 x2 x3 x4 x5 x6 → P5 x1 x2 x3 x4 x5 x6 → P6 x1 x2 x3 x4 x5 x6 → P7 x1 x2 x3 x4 x5 x6 → P8 x1 x2 x3 x4 x5 x6 → P9 x1 x2 x3 x4 x5 x6 → P10 x1 x2 x3 x4 x5 x6 → G) : G := h.elim fun x1 h' => h'.elim fun x2 h' => h'.elim fun x3 h' => h'.elim fun x4 h' => h'.elim fun x5 h' => h'.elim fun x6 h' => k x1 x2 x3 x4 x5 x6 h'.1 h'.2.1 h'.2.2.1 h'.2.2.2.1 h'.2.2.2.2.1 h'.2.2.2.2.2.1 h'.2.2.2.2.2.2.1 h'.2.2.2.2.2.2.2.1 h'.2.2.2.2.2.2.2.2.1 h'.2.2.2.2.2.2.2.2.2
theorem X7_8 {A1 A2 A3 A4 A5 A6 A7 : Type} {P1 P2 P3 P4 P5 P6 P7 P8 : A1 → A2 → A3 → A4 → A5 → A6 → A7 → Prop} {G : Prop} (h : ∃ x1 x2 x3 x4 x5 x6 x7, P1 x1 x2 x3 x4 x5 x6 x7 ∧ P2 x1 x2 x3 x4 x5 x6 x7 ∧ P3 x1 x2 x3 x4 x5 x6 x7 ∧ P4 x1 x2 x3 x4 x5 x6 x7 ∧ P5 x1 x2 x3 x4 x5 x6 x7 ∧ P6 x1 x2 x3 x4 x5 x6 x7 ∧ P7 x1 x2 x3 x4 x5 x6 x7 ∧ P8 x1 x2 x3 x4 x5 x6 x7) (k : ∀ x1 x2 x3 x4 x5 x6 x7, P1 x1 x2 x3 x4 x5 x6 x7 → P2 x1 x2 x3 x4 x5 x6 x7 → P3 x1 x2 x3 x4 x5 x6 x7 → P4 x1 x2 x3 x4 x5 x6 x7 → P5 x1 x2 x3 x4 x5 x6 x7 → P6 x1 x2 x3 x4 x5 x6 x7 → P7 x1 x2 x3 x4 x5 x6 x7 → P8 x1 x2 x3 x4 x5 x6 x7 → G) : G := h.elim fun x1 h' => h'.elim fun x2 h' => h'.elim fun x3 h' => h'.elim fun x4 h' => h'.elim fun x5 h' => h'.elim fun x6 h' => h'.elim fun x7 h' => k x1 x2 x3 x4 x5 x6 x7 h'.1 h'.2.1 h'.2.2.1 h'.2.2.2.1 h'.2.2.2.2.1 h'.2.2.2.2.2.1 h'.2.2.2.2.2.2.1 h'.2.2.2.2.2.2.2
theorem X8_6 {A1 A2 A3 A4 A5 A6 A7 A8 : Type} {P1 P2 P3 P4 P5 P6 : A1 → A2 → A3 → A4 → A5 → A6 → A7 → A8 → Prop} {G : Prop} (h : ∃ x1 x2 x3 x4 x5 x6 x7 x8, P1 x1 x2 x3 x4 x5 x6 x7 x8 ∧ P2 x1 x2 x3 x4 x5 x6 x7 x8 ∧ P3 x1 x2 x3 x4 x5 x6 x7 x8 ∧ P4 x1 x2 x3 x4 x5 x6 x7 x8 ∧ P5 x1 x2 x3 x4 x5 x6 x7 x8 ∧ P6 x1 x2 x3 x4 x5 x6 x7 x8) (k : ∀ x1 x2 x3 x4 x5 x6 x7 x8, P1 x1 x2 x3 x4 x5 x6 x7 x8 → P2 x1 x2 x3 x4 x5 x6 x7 x8 → P3 x1 x2 x3 x4 x5 x6 x7 x8 → P4 x1 x2 x3 x4 x5 x6 x7 x8 → P5 x1 x2 x3 x4 x5 x6 x7 x8 → P6 x1 x2 x3 x4 x5 x6 x7 x8 → G) : G := h.elim fun x1 h' => h'.elim fun x2 h' => h'.elim fun x3 h' => h'.elim fun x4 h' => h'.elim fun x5 h' => h'.elim fun x6 h' => h'.elim fun x7 h' => h'.elim fun x8 h' => k x1 x2 x3 x4 x5 x6 x7 x8 h'.1 h'.2.1 h'.2.2.1 h'.2.2.2.1 h'.2.2.2.2.1 h'.2.2.2.2.2
theorem X8_11 {A1 A2 A3 A4 A5 A6 A7 A8 : Type} {P1 P2 P3 P4 P5 P6 P7 P8 P9 P10 P11 : A1 → A2 → A3 → A4 → A5 → A6 → A7 → A8 → Prop} {G : Prop} (h : ∃ x1 x2 x3 x4 x5 x6 x7 x8, P1 x1 x2 x3 x4 x5 x6 x7 x8 ∧ P2 x1 x2 x3 x4 x5 x6 x7 x8 ∧ P3 x1 x2 x3 x4 x5 x6 x7 x8 ∧ P4 x1 x2 x3 x4 x5 x6 x7 x8 ∧ P5 x1 x2 x3 x4 x5 x6 x7 x8 ∧ P6 x1 x2 x3 x4 x5 x6 x7 x8 ∧ P7 x1 x2 x3 x4 x5 x6 x7 x8 ∧ P8 x1 x2 x3 x4 x5 x6 x7 x8 ∧ P9 x1 x2 x3 x4 x5 x6 x7 x8 ∧ P10 x1 x2 x3 x4 x5 x6 x7 x8 ∧ P11 x1 x2 x3 x4 x5 x6 x7 x8) (k : ∀ x1 x2 x3 x4 x5 x6 x7 x8, P1 x1 x2 x3 x4 x5 x6 x7 x8 → P2 x1 x2 x3 x4 x5 x6 x7 x8 → P3 x1 x2 x3 x4 x5 x6 x7 x8 → P4 x1 x2 x3 x4 x5 x6 x7 x8 → P5 x1 x2 x3 x4 x5 x6 x7 x8 → P6 x1 x2 x3 x4 x5 x6 x7 x8 → P7 x1 x2 x3 x4 x5 x6 x7 x8 → P8 x1 x2 x3 x4 x5 x6 x7 x8 → P9 x1 x2 x3 x4 x5 x6 x7 x8 → P10 x1 x2 x3 x4 x5 x6 x7 x8 → P11 x1 x2 x3 x4 x5 x6 x7 x8 → G) : G := h.elim fun x1 h' => h'.elim fun x2 h' => h'.elim fun x3 h' => h'.elim fun x4 h' => h'.elim fun x5 h' => h'.elim fun x6 h' => h'.elim fun x7 h' => h'.elim fun x8 h' => k x1 x2 x3 x4 x5 x6 x7 x8 h'.1 h'.2.1 h'.2.2.1 h'.2.2.2.1 h'.2.2.2.2.1 h'.2.2.2.2.2.1 h'.2.2.2.2.2.2.1 h'.2.2.2.2.2.2.2.1 h'.2.2.2.2.2.2.2.2.1 h'.2.2.2.2.2.2.2.2.2.1 h'.2.2.2.2.2.2.2.2.2.2
theorem X9_5 {A1 A2 A3 A4 A5 A6 A7 A8 A9 : Type} {P1 P2 P3 P4 P5 : A1 → A2 → A3 → A4 → A5 → A6 → A7 → A8 → A9 → Prop} {G : Prop} (h : ∃ x1 x2 x3 x4 x5 x6 x7 x8 x9, P1 x1 x2 x3 x4 x5 x6 x7 x8 x9 ∧ P2 x1 x2 x3 x4 x5 x6 x7 x8 x9 ∧ P3 x1 x2 x3 x4 x5 x6 x7 x8 x9 ∧ P4 x1 x2 x3 x4 x5 x6 x7 x8 x9 ∧ P5 x1 x2 x3 x4 x5 x6 x7 x8 x9) (k : ∀ x1 x2 x3 x4 x5 x6 x7 x8 x9, P1 x1 x2 x3 x4 x5 x6 x7 x8 x9 → P2 x1 x2 x3 x4 x5 x6 x7 x8 x9 → P3 x1 x2 x3 x4 x5 x6 x7 x8 x9 → P4 x1 x2 x3 x4 x5 x6 x7 x8 x9 → P5 x1 x2 x3 x4 x5 x6 x7 x8 x9 → G) : G := h.elim fun x1 h' => h'.elim fun x2 h' => h'.elim fun x3 h' => h'.elim fun x4 h' => h'.elim fun x5 h' => h'.elim fun x6 h' => h'.elim fun x7 h' => h'.elim fun x8 h' => h'.elim fun x9 h' => k x1 x2 x3 x4 x5 x6 x7 x8 x9 h'.1 h'.2.1 h'.2.2.1 h'.2.2.2.1 h'.2.2.2.2
theorem X9_6 {A1 A2 A3 A4 A5 A6 A7 A8 A9 : Type} {P1 P2 P3 P4 P5 P6 : A1 → A2 → A3 → A4 → A5 → A6 → A7 → A8 → A9 → Prop} {G : Prop} (h : ∃ x1 x2 x3 x4 x5 x6 x7 x8 x9, P1 x1 x2 x3 x4 x5 x6 x7 x8 x9 ∧ P2 x1 x2 x3 x4 x5 x6 x7 x8 x9 ∧ P3 x1 x2 x3 x4 x5 x6 x7 x8 x9 ∧ P4 x1 x2 x3 x4 x5 x6 x7 x8 x9 ∧ P5 x1 x2 x3 x4 x5 x6 x7 x8 x9 ∧ P6 x1 x2 x3 x4 x5 x6 x7 x8 x9) (k : ∀ x1 x2 x3 x4 x5 x6 x7 x8 x9, P1 x1 x2 x3 x4 x5 x6 x7 x8 x9 → P2 x1 x2 x3 x4 x5 x6 x7 x8 x9 → P3 x1 x2 x3 x4 x5 x6 x7 x8 x9 → P4 x1 x2 x3 x4 x5 x6 x7 x8 x9 → P5 x1 x2 x3 x4 x5 x6 x7 x8 x9 → P6 x1 x2 x3 x4 x5 x6 x7 x8 x9 → G) : G := h.elim fun x1 h' => h'.elim fun x2 h' => h'.elim fun x3 h' => h'.elim fun x4 h' => h'.elim fun x5 h' => h'.elim fun x6 h' => h'.elim fun x7 h' => h'.elim fun x8 h' => h'.elim fun x9 h' => k x1 x2 x3 x4 x5 x6 x7 x8 x9 h'.1 h'.2.1 h'.2.2.1 h'.2.2.2.1 h'.2.2.2.2.1 h'.2.2.2.2.2
theorem X9_11 {A1 A2 A3 A4 A5 A6 A7 A8 A9 : Type} {P1 P2 P3 P4 P5 P6 P7 P8 P9 P10 P11 : A1 → A2 → A3 → A4 → A5 → A6 → A7 → A8 → A9 → Prop} {G : Prop} (h : ∃ x1 x2 x3 x4 x5 x6 x7 x8 x9, P1 x1 x2 x3 x4 x5 x6 x7 x8 x9 ∧ P2 x1 x2 x3 x4 x5 x6 x7 x8 x9 ∧ P3 x1 x2 x3 x4 x5 x6 x7 x8 x9 ∧ P4 x1 x2 x3 x4 x5 x6 x7 x8 x9 ∧ P5 x1 x2 x3 x4 x5 x6 x7 x8 x9 ∧ P6 x1 x2 x3 x4 x5 x6 x7 x8 x9 ∧ P7 x1 x2 x3 x4 x5 x6 x7 x8 x9 ∧ P8 x1 x2 x3 x4 x5 x6 x7 x8 x9 ∧ P9 x1 x2 x3 x4 x5 x6 x7 x8 x9 ∧ P10 x1 x2 x3 x4 x5 x6 x7 x8 x9 ∧ P11 x1 x2 x3 x4 x5 x6 x7 x8 x9) (k : ∀ x1 x2 x3 x4 x5 x6 x7 x8 x9, P1 x1 x2 x3 x4 x5 x6 x7 x8 x9 → P2 x1 x2 x3 x4 x5 x6 x7 x8 x9 → P3 x1 x2 x3 x4 x5 x6 x7 x8 x9 → P4 x1 x2 x3 x4 x5 x6 x7 x8 x9 → P5 x1 x2 x3 x4 x5 x6 x7 x8 x9 → P6 x1 x2 x3 x4 x5 x6 x7 x8 x9 → P7 x1 x2 x3 x4 x5 x6 x7 x8 x9 → P8 x1 x2 x3 x4 x5 x6 x7 x8 x9 → P9 x1 x2 x3 x4 x5 x6 x7 x8 x9 → P10 x1 x2 x3 x4 x5 x6 x7 x8 x9 → P11 x1 x2 x3 x4 x5 x6 x7 x8 x9 → G) : G := h.elim fun x1 h' => h'.elim fun x2 h' => h'.elim fun x3 h' => h'.elim fun x4 h' => h'.elim fun x5 h' => h'.elim fun x6 h' => h'.elim fun x7 h' => h'.elim fun x8 h' => h'.elim fun x9 h' => k x1 x2 x3 x4 x5 x6 x7 x8 x9 h'.1 h'.2.1 h'.2.2.1 h'.2.2.2.1 h'.2.2.2.2.1 h'.2.2.2.2.2.1 h'.2.2.2.2.2.2.1 h'.2.2.2.2.2.2.2.1 h'.2.2.2.2.2.2.2.2.1 h'.2.2.2.2.2.2.2.2.2.1 h'.2.2.2.2.2.2.2.2.2.2
theorem X9_12 {A1 A2 A3 A4 A5 A6 A7 A8 A9 : Type} {P1 P2 P3 P4 P5 P6 P7 P8 P9 P10 P11 P12 : A1 → A2 → A3 → A4 → A5 → A6 → A7 → A8 → A9 → Prop} {G : Prop} (h : ∃ x1 x2 x3 x4 x5 x6 x7 x8 x9, P1 x1 x2 x3 x4 x5 x6 x7 x8 x9 ∧ P2 x1 x2 x3 x4 x5 x6 x7 x8 x9 ∧ P3 x1 x2 x3 x4 x5 x6 x7 x8 x9 ∧ P4 x1 x2 x3 x4 x5 x6 x7 x8 x9 ∧ P5 x1 x2 x3 x4 x5 x6 x7 x8 x9 ∧ P6 x1 x2 x3 x4 x5 x6 x7 x8 x9 ∧ P7 x1 x2 x3 x4 x5 x6 x7 x8 x9 ∧ P8 x1 x2 x3 x4 x5 x6 x7 x8 x9 ∧ P9 x1 x2 x3 x4 x5 x6 x7 x8 x9 ∧ P10 x1 x2 x3 x4 x5 x6 x7 x8 x9 ∧ P11 x1 x2 x3 x4 x5 x6 x7 x8 x9 ∧ P12 x1 x2 x3 x4 x5 x6 x7 x8 x9) (k : ∀ x1 x2 x3 x4 x5 x6 x7 x8 x9, P1 x1 x2 x3 x4 x5 x6 x7 x8 x9 → P2 x1 x2 x3 x4 x5 x6 x7 x8 x9 → P3 x1 x2 x3 x4 x5 x6 x7 x8 x9 → P4 x1 x2 x3 x4 x5 x6 x7 x8 x9 → P5 x1 x2 x3 x4 x5 x6 x7 x8 x9 → P6 x1 x2 x3 x4 x5 x6 x7 x8 x9 → P7 x1 x2 x3 x4 x5 x6 x7 x8 x9 → P8 x1 x2 x3 x4 x5 x6 x7 x8 x9 → P9 x1 x2 x3 x4 x5 x6 x7 x8 x9 → P10 x1 x2 x3 x4 x5 x6 x7 x8 x9 → P11 x1 x2 x3 x4 x5 x6 x7 x8 x9 → P12 x1 x2 x3 x4 x5 x6 x7 x8 x9 → G) : G := h.elim fun x1 h' => h'.elim fun x2 h' => h'.elim fun x3 h' => h'.elim fun x4 h' => h'.elim fun x5 h' => h'.elim fun x6 h' => h'.elim fun x7 h' => h'.elim fun x8 h' => h'.elim fun x9 h' => k x1 x2 x3 x4 x5 x6 x7 x8 x9 h'.1 h'.2.1 h'.2.2.1 h'.2.2.2.1 h'.2.2.2.2.1 h'.2.2.2.2.2.1 h'.2.2.2.2.2.2.1 h'.2.2.2.2.2.2.2.1 h'.2.2.2.2.2.2.2.2.1 h'.2.2.2.2.2.2.2.2.2.1 h'.2.2.2.2.2.2.2.2.2.2.1 h'.2.2.2.2.2.2.2.2.2.2.2
theorem X9_13 {A1 A2 A3 A4 A5 A6 A7 A8 A9 : Type} {P1 P2 P3 P4 P5 P6 P7 P8 P9 P10 P11 P12 P13 : A1 → A2 → A3 → A4 → A5 → A6 → A7 → A8 → A9 → Prop} {G : Prop} (h : ∃ x1 x2 x3 x4 x5 x6 x7 x8 x9, P1 x1 x2 x3 x4 x5 x6 x7 x8 x9 ∧ P2 x1 x2 x3 x4 x5 x6 x7 x8 x9 ∧ P3 x1 x2 x3 x4 x5 x6 x7 x8 x9 ∧ P4 x1 x2 x3 x4 x5 x6 x7 x8 x9 ∧ P5 x1 x2 x3 x4 x5 x6 x7 x8 x9 ∧ P6 x1 x2 x3 x4 x5 x6 x7 x8 x9 ∧ P7 x1 x2 x3 x4 x5 x6 x7 x8 x9 ∧ P8 x1 x2 x3 x4 x5 x6 x7 x8 x9 ∧ P9 x1 x2 x3 x4 x5 x6 x7 x8 x9 ∧ P10 x1 x2 x3 x4 x5 x6 x7 x8 x9 ∧ P11 x1 x2 x3 x4 x5 x6 x7 x8 x9 ∧ P12 x1 x2 x3 x4 x5 x6 x7 x8 x9 ∧ P13 x1 x2 x3 x4 x5 x6 x7 x8 x9) (k : ∀ x1 x2 x3 x4 x5 x6 x7 x8 x9, P1 x1 x2 x3 x4 x5 x6 x7 x8 x9 → P2 x1 x2 x3 x4 x5 x6 x7 x8 x9 → P3 x1 x2 x3 x4 x5 x6 x7 x8 x9 → P4 x1 x2 x3 x4 x5 x6 x7 x8 x9 → P5 x1 x2 x3 x4 x5 x6 x7 x8 x9 → P6 x1 x2 x3 x4 x5 x6 x7 x8 x9 → P7 x1 x2 x3 x4 x5 x6 x7 x8 x9 → P8 x1 x2 x3 x4 x5 x6 x7 x8 x9 → P9 x1 x2 x3 x4 x5 x6 x7 x8 x9 → P10 x1 x2 x3 x4 x5 x6 x7 x8 x9 → P11 x1 x2 x3 x4 x5 x6 x7 x8 x9 → P12 x1 x2 x3 x4 x5 x6 x7 x8 x9 → P13 x1 x2 x3 x4 x5 x6 x7 x8 x9 → G) : G := h.elim fun x1 h' => h'.elim fun x2 h' => h'.elim fun x3 h' => h'.elim fun x4 h' => h'.elim fun x5 h' => h'.elim fun x6 h' => h'.elim fun x7 h' => h'.elim fun x8 h' => h'.elim fun x9 h' => k x1 x2 x3 x4 x5 x6 x7 x8 x9 h'.1 h'.2.1 h'.2.2.1 h'.2.2.2.1 h'.2.2.2.2.1 h'.2.2.2.2.2.1 h'.2.2.2.2.2.2.1 h'.2.2.2.2.2.2.2.1 h'.2.2.2.2.2.2.2.2.1 h'.2.2.2.2.2.2.2.2.2.1 h'.2.2.2.2.2.2.2.2.2.2.1 h'.2.2.2.2.2.2.2.2.2.2.2.1 h'.2.2.2.2.2.2.2.2.2.2.2.2
theorem X12_1 {A1 A2 A3 A4 A5 A6 A7 A8 A9 A10 A11 A12 : Type} {P1 : A1 → A2 → A3 → A4 → A5 → A6 → A7 → A8 → A9 → A10 → A11 → A12 → Prop} {G : Prop} (h : ∃ x1 x2 x3 x4 x5 x6 x7 x8 x9 x10 x11 x12, P1 x1 x2 x3 x4 x5 x6 x7 x8 x9 x10 x11 x12) (k : ∀ x1 x2 x3 x4 x5 x6 x7 x8 x9 x10 x11 x12, P1 x1 x2 x3 x4 x5 x6 x7 x8 x9 x10 x11 x12 → G) : G := h.elim fun x1 h' => h'.elim fun x2 h' => h'.elim fun x3 h' => h'.elim fun x4 h' => h'.elim fun x5 h' => h'.elim fun x6 h' => h'.elim fun x7 h' => h'.elim fun x8 h' => h'.elim fun x9 h' => h'.elim fun x10 h' => h'.elim fun x11 h' => h'.elim fun x12 h' => k x1 x2 x3 x4 x5 x6 x7 x8 x9 x10 x11 x12 h'
theorem Y2 {A1 A2 : Type} {P : A1 → A2 → Prop} (x1 : A1) (x2 : A2) (h : P x1 x2) : ∃ x1 x2, P x1 x2 := ⟨x1, x2, h⟩
theorem Y3 {A1 A2 A3 : Type} {P : A1 → A2 → A3 → Prop} (x1 : A1) (x2 : A2) (x3 : A3) (h : P x1 x2 x3) : ∃ x1 x2 x3, P x1 x2 x3 := ⟨x1, x2, x3, h⟩
theorem Y4 {A1 A2 A3 A4 : Type} {P : A1 → A2 → A3 → A4 → Prop} (x1 : A1) (x2 : A2) (x3 : A3) (x4 : A4) (h : P x1 x2 x3 x4) : ∃ x1 x2 x3 x4, P x1 x2 x3 x4 := ⟨x1, x2, x3, x4, h⟩
theorem Y5 {A1 A2 A3 A4 A5 : Type} {P : A1 → A2 → A3 → A4 → A5 → Prop} (x1 : A1) (x2 : A2) (x3 : A3) (x4 : A4) (x5 : A5) (h : P x1 x2 x3 x4 x5) : ∃ x1 x2 x3 x4 x5, P x1 x2 x3 x4 x5 := ⟨x1, x2, x3, x4, x5, h⟩
theorem Y6 {A1 A2 A3 A4 A5 A6 : Type} {P : A1 → A2 → A3 → A4 → A5 → A6 → Prop} (x1 : A1) (x2 : A2) (x3 : A3) (x4 : A4) (x5 : A5) (x6 : A6) (h : P x1 x2 x3 x4 x5 x6) : ∃ x1 x2 x3 x4 x5 x6, P x1 x2 x3 x4 x5 x6 := ⟨x1, x2, x3, x4, x5, x6, h⟩
theorem Y7 {A1 A2 A3 A4 A5 A6 A7 : Type} {P : A1 → A2 → A3 → A4 → A5 → A6 → A7 → Prop} (x1 : A1) (x2 : A2) (x3 : A3) (x4 : A4) (x5 : A5) (x6 : A6) (x7 : A7) (h : P x1 x2 x3 x4 x5 x6 x7) : ∃ x1 x2 x3 x4 x5 x6 x7, P x1 x2 x3 x4 x5 x6 x7 := ⟨x1, x2, x3, x4, x5, x6, x7, h⟩
theorem Y8 {A1 A2 A3 A4 A5 A6 A7 A8 : Type} {P : A1 → A2 → A3 → A4 → A5 → A6 → A7 → A8 → Prop} (x1 : A1) (x2 : A2) (x3 : A3) (x4 : A4) (x5 : A5) (x6 : A6) (x7 : A7) (x8 : A8) (h : P x1 x2 x3 x4 x5 x6 x7 x8) : ∃ x1 x2 x3 x4 x5 x6 x7 x8, P x1 x2 x3 x4 x5 x6 x7 x8 := ⟨x1, x2, x3, x4, x5, x6, x7, x8, h⟩
theorem Y9 {A1 A2 A3 A4 A5 A6 A7 A8 A9 : Type} {P : A1 → A2 → A3 → A4 → A5 → A6 → A7 → A8 → A9 → Prop} (x1 : A1) (x2 : A2) (x3 : A3) (x4 : A4) (x5 : A5) (x6 : A6) (x7 : A7) (x8 : A8) (x9 : A9) (h : P x1 x2 x3 x4 x5 x6 x7 x8 x9) : ∃ x1 x2 x3 x4 x5 x6 x7 x8 x9, P x1 x2 x3 x4 x5 x6 x7 x8 x9 := ⟨x1, x2, x3, x4, x5, x6, x7, x8, x9, h⟩
theorem Y12 {A1 A2 A3 A4 A5 A6 A7 A8 A9 A10 A11 A12 : Type} {P : A1 → A2 → A3 → A4 → A5 → A6 → A7 → A8 → A9 → A10 → A11 → A12 → Prop} (x1 : A1) (x2 : A2) (x3 : A3) (x4 : A4) (x5 : A5) (x6 : A6) (x7 : A7) (x8 : A8) (x9 : A9) (x10 : A10) (x11 : A11) (x12 : A12) (h : P x1 x2 x3 x4 x5 x6 x7 x8 x9 x10 x11 x12) : ∃ x1 x2 x3 x4 x5 x6 x7 x8 x9 x10 x11 x12, P x1 x2 x3 x4 x5 x6 x7 x8 x9 x10 x11 x12 := ⟨x1, x2, x3, x4, x5, x6, x7, x8, x9, x10, x11, x12, h⟩
section
variable {A : Type} {a : A} {x y : List A} {G : A → Prop} {g : Prop}
@[elab_as_elim] theorem mem_c (p : A) (h : p ∈ a :: x) (k : G a) (r : p ∈ x → G p) : G p := (List.mem_cons.mp h).elim (fun e => e ▸ k) r
@[elab_as_elim] theorem mem_1 (p : A) (h : p ∈ [a]) (k : G a) : G p := List.mem_singleton.mp h ▸ k
theorem mem_e {p : A} (h : p ∈ a :: x) (k : p = a → g) (r : p ∈ x → g) : g := (List.mem_cons.mp h).elim k r
theorem mem_z {p : A} (h : p ∈ [a]) (k : p = a → g) : g := k (List.mem_singleton.mp h)
theorem mem_a {p : A} (h : p ∈ x ++ y) (k : p ∈ x → g) (r : p ∈ y → g) : g := (List.mem_append.mp h).elim k r
end

end
section
open PySem PySem.W PyProof.Rows
variable {α β : Type}
noncomputable def loc (S : Setting) (n₀ : Nat) : Sem α → Heap → Nat → Option (α × Heap × Nat)
  | .pure a, h, t => some (a, h, t)
  | .rule _ k, h, t => loc S n₀ (k ()) h t
  | .point _ k, h, t => loc S n₀ (k ()) h t
  | .ask k, h, t => loc S n₀ (k S) h t
  | .load a _ k, h, t => match h.get? a with
    | some o => loc S n₀ (k o) h t
    | none => none
  | .update a _ f k, h, t => match decide (n₀ ≤ a), (h.get? a).isSome with
    | true, true => loc S n₀ (k ()) (h.update a f) t
    | _, _ => none
  | .alloc o k, h, t => loc S n₀ (k h.objs.size) (h.push o) t
  | .fresh k, h, t => loc S n₀ (k t) h (t + 1)
  | _, _, _ => none
variable {S : Setting} {n₀ : Nat}
theorem loc_P (a : α) (h : Heap) (t : Nat) : loc S n₀ (.pure a) h t = some (a, h, t) := rfl
theorem loc_L (a : Addr) (p : Option Value) (k : Obj → Sem α) (h : Heap) (t : Nat) : loc S n₀ (.load a p k) h t = (match h.get? a with | some o => loc S n₀ (k o) h t | none => none) := by kernel_rfl!
theorem loc_U (a : Addr) (p : Option Value) (f : Obj → Obj) (k : Unit → Sem α) (h : Heap) (t : Nat) : loc S n₀ (.update a p f k) h t = (match decide (n₀ ≤ a), (h.get? a).isSome with | true, true => loc S n₀ (k ()) (h.update a f) t | _, _ => none) := by kernel_rfl!
theorem loc_bind (m : Sem α) (f : α → Sem β) (h : Heap) (t : Nat) : loc S n₀ (m >>= f) h t = (loc S n₀ m h t).bind fun r => loc S n₀ (f r.1) r.2.1 r.2.2 := by
  show loc S n₀ (m.bind f) h t = _
  induction m generalizing h t with
  | pure a => rfl
  | rule _ k ih => exact ih () h t
  | point _ k ih => exact ih () h t
  | ask k ih => exact ih S h t
  | fresh k ih => exact ih t h (t + 1)
  | alloc o k ih => exact ih _ _ t
  | load a p k ih =>
    simp only [Sem.bind, loc_L]
    cases h.get? a with
    | none => rfl
    | some o => exact ih o h t
  | update a p g k ih =>
    simp only [Sem.bind, loc_U]
    cases decide (n₀ ≤ a) <;> cases (h.get? a).isSome <;> first | rfl | exact ih () _ t
  | _ => rfl
theorem loc_bind_some {m : Sem α} {f : α → Sem β} {h h' : Heap} {t t' : Nat} {a : α} (e : loc S n₀ m h t = some (a, h', t')) : loc S n₀ (m >>= f) h t = loc S n₀ (f a) h' t' := by
  rw [loc_bind, e]; rfl
theorem loc_pure (a : α) (h : Heap) (t : Nat) : loc S n₀ (pure a : Sem α) h t = some (a, h, t) := rfl
theorem loc_keep (vs : List Value) (m : Sem α) (h : Heap) (t : Nat) : loc S n₀ (m.keep vs) h t = loc S n₀ m h t := by
  induction m generalizing h t with
  | pure a => rfl
  | rule _ k ih => exact ih () h t
  | point _ k ih => exact ih () h t
  | ask k ih => exact ih S h t
  | fresh k ih => exact ih t h (t + 1)
  | alloc o k ih => exact ih _ _ t
  | load a p k ih =>
    simp only [Sem.keep, loc_L]
    cases h.get? a with
    | none => rfl
    | some o => exact ih o h t
  | update a p g k ih =>
    simp only [Sem.keep, loc_U]
    cases decide (n₀ ≤ a) <;> cases (h.get? a).isSome <;> first | rfl | exact ih () _ t
  | _ => rfl
theorem loc_holding (vs : List Value) (m : Sem α) (h : Heap) (t : Nat) : loc S n₀ (holding vs m) h t = loc S n₀ m h t := by
  unfold holding
  split
  · rfl
  · exact loc_keep _ _ _ _
theorem loc_load {a : Addr} {o : Obj} {h : Heap} {t : Nat} (e : h.get? a = some o) : loc S n₀ (load a) h t = some (o, h, t) := by
  simp only [PySem.load, loc_L, loc_P, e]
theorem loc_update {a : Addr} {f : Obj → Obj} {h : Heap} {t : Nat} (hn : n₀ ≤ a) (e : (h.get? a).isSome = true) : loc S n₀ (update a f) h t = some ((), h.update a f, t) := by
  show (match decide (n₀ ≤ a), (h.get? a).isSome with | true, true => loc S n₀ (Sem.pure ()) (h.update a f) t | _, _ => none) = _
  rw [decide_eq_true hn, e]; rfl
theorem loc_ask (h : Heap) (t : Nat) : loc S n₀ ask h t = some (S, h, t) := rfl
theorem loc_rule (s : String) (h : Heap) (t : Nat) : loc S n₀ (rule s) h t = some ((), h, t) := rfl
theorem loc_point (h : Heap) (t : Nat) : loc S n₀ point h t = some ((), h, t) := rfl
theorem loc_alloc (o : Obj) (h : Heap) (t : Nat) : loc S n₀ (alloc o) h t = some (h.objs.size, h.push o, t) := rfl
theorem wp_of_loc {M : Model} {Γ : Ctx} {Q : α → Pos → Shared → Prop} {E : Value → Pos → Shared → Prop} (p : Pos) {g : Array GenState} {d : Drawn} {os : OsState} :
    ∀ (m : Sem α) (h : Heap) (t : Nat) {a : α} {h' : Heap} {t' : Nat}, loc ⟨M.prog, M.w.params⟩ n₀ m h t = some (a, h', t') → Q a p ⟨h', g, d, t', os⟩ → Sem.wp M Γ m Q E p ⟨h, g, d, t, os⟩ := by
  intro m
  induction m with
  | pure a => intro h t a h' t' e q; simp only [loc_P, Option.some.injEq, Prod.mk.injEq] at e; refine X0_3 e ?_; clear e; intro z0 z1 z2; subst z0; subst z1; subst z2; exact q
  | rule _ k ih => intro h t a h' t' e q; exact ih () h t e q
  | point _ k ih => intro h t a h' t' e q; exact ih () h t e q
  | ask k ih => intro h t a h' t' e q; exact ih _ h t e q
  | fresh k ih => intro h t a h' t' e q; exact ih t h (t + 1) e q
  | alloc o k ih => intro h t a h' t' e q; exact ih _ _ t e q
  | load a p k ih =>
    intro h t a' h' t' e q
    simp only [loc_L] at e
    cases ho : h.get? a with
    | none => rw [ho] at e; cases e
    | some o => rw [ho] at e; exact ⟨o, ho, ih o h t e q⟩
  | update a p f k ih =>
    intro h t a' h' t' e q
    simp only [loc_U] at e
    cases h1 : decide (n₀ ≤ a) <;> cases h2 : (h.get? a).isSome <;> rw [h1, h2] at e <;> first | (cases e; done) | exact ⟨h2, ih () _ t e q⟩
  | _ => intro h t a h' t' e q; cases e
theorem wpAny_of_loc {M : Model} {A : Around} {m : Sem α} {Q : α → Shared → Prop} {E : Value → Shared → Prop} {s : Shared} {a : α} {h' : Heap} {t' : Nat}
    (e : loc ⟨M.prog, M.w.params⟩ n₀ m s.heap s.toks = some (a, h', t')) (q : Q a { s with heap := h', toks := t' }) : wpAny M A m Q E s :=
  fun _ p _ => wp_of_loc p m s.heap s.toks e q
noncomputable def Reach (w : World) (p : Program) (s : Shared) (t : Thread) (s' : Shared) (t' : Thread) : Prop := ∃ n, segGo treeTable p w 11 (some (.ref 6)) 1 n s t = some (s', t')
theorem segGo_add {tb : String → Option Builtin} {p : Program} {w : World} {n₀ : Nat} {ann : Option Value} {b : Nat} : ∀ {n N : Nat} {s s' : Shared} {t t' : Thread} {r : Shared × Thread}, segGo tb p w n₀ ann b n s t = some (s', t') →
    segGo tb p w n₀ ann b N s' t' = some r → segGo tb p w n₀ ann b (n + N) s t = some r
  | 0, N, s, s', t, t', r, h, k => by
    obtain ⟨rfl, rfl⟩ : s = s' ∧ t = t' := by simpa [segGo] using h
    rw [Nat.zero_add]; exact k
  | n + 1, N, s, s', t, t', r, h, k => by
    rw [show n + 1 + N = n + N + 1 by lia]
    unfold segGo at h ⊢
    cases he : endAt b t with
    | some f => rw [he] at h; cases h
    | none =>
      rw [he] at h
      cases hk : stepOk n₀ ann t with
      | false => rw [hk] at h; cases h
      | true =>
        rw [hk] at h
        cases hs : step (denote tb) p w s t with
        | halt o s₂ => rw [hs] at h; cases h
        | go s₂ t₂ => rw [hs] at h; exact segGo_add h k
theorem Reach.refl {w : World} {p : Program} (s : Shared) (t : Thread) : Reach w p s t s t := ⟨0, rfl⟩
theorem Reach.trans {w : World} {p : Program} {s s₁ s₂ : Shared} {t t₁ t₂ : Thread} (a : Reach w p s t s₁ t₁) (b : Reach w p s₁ t₁ s₂ t₂) : Reach w p s t s₂ t₂ :=
  let ⟨n, h⟩ := a; let ⟨k, i⟩ := b; ⟨n + k, segGo_add h i⟩
theorem Reach.step {w : World} {p : Program} {s s₁ : Shared} {t t₁ : Thread} (he : endAt 1 t = none) (hk : stepOk 11 (some (.ref 6)) t = true) (hs : step (denote treeTable) p w s t = .go s₁ t₁) : Reach w p s t s₁ t₁ :=
  ⟨1, by unfold segGo; rw [he, hk, hs]; rfl⟩
theorem Reach.ofT {w : World} {p : Program} {n : Nat} {s s' : SharedT} {t t' : Thread} (h : segGoT treeTable p w 11 (some (.ref 6)) 1 n s t = some (s', t')) : Reach w p s.abs t s'.abs t' := ⟨n, segGo_of h⟩
theorem reach_loc {w : World} {p : Program} {g : Array GenState} {d : Drawn} {os : OsState} {c : Code} {q : Pos} {st : List Frame} (f : α → Sem Fin) :
    ∀ (m : Sem α) (h : Heap) (t : Nat) {a : α} {h' : Heap} {t' : Nat}, loc ⟨p, w.params⟩ 11 m h t = some (a, h', t') → Reach w p ⟨h, g, d, t, os⟩ ⟨m.bind f, c, q, st⟩ ⟨h', g, d, t', os⟩ ⟨f a, c, q, st⟩ := by
  intro m
  induction m with
  | pure a => intro h t a h' t' e; simp only [loc_P, Option.some.injEq, Prod.mk.injEq] at e; refine X0_3 e ?_; clear e; intro z0 z1 z2; subst z0; subst z1; subst z2; exact .refl _ _
  | rule _ k ih => intro h t a h' t' e; exact (Reach.step (by simp [endAt, Sem.bind]) rfl rfl).trans (ih () h t e)
  | point _ k ih => intro h t a h' t' e; exact (Reach.step (by simp [endAt, Sem.bind]) rfl rfl).trans (ih () h t e)
  | ask k ih => intro h t a h' t' e; exact (Reach.step (by simp [endAt, Sem.bind]) rfl rfl).trans (ih _ h t e)
  | fresh k ih => intro h t a h' t' e; exact (Reach.step (by simp [endAt, Sem.bind]) rfl rfl).trans (ih t h (t + 1) e)
  | alloc o k ih => intro h t a h' t' e; exact (Reach.step (by simp [endAt, Sem.bind]) rfl rfl).trans (ih _ _ t e)
  | load a p k ih =>
    intro h t a' h' t' e
    simp only [loc_L] at e
    cases ho : h.get? a with
    | none => rw [ho] at e; cases e
    | some o => rw [ho] at e; exact (Reach.step (by simp [endAt, Sem.bind]) rfl (by simp only [Sem.bind, PySem.step, ho])).trans (ih o h t e)
  | update a p f k ih =>
    intro h t a' h' t' e
    simp only [loc_U] at e
    cases h1 : decide (11 ≤ a) <;> cases h2 : (h.get? a).isSome <;> rw [h1, h2] at e <;> first | (cases e; done) | skip
    refine (Reach.step (by simp [endAt, Sem.bind]) ?_ (by simp only [Sem.bind, PySem.step, h2, if_true])).trans (ih () _ t e)
    simp [stepOk, Thread.calm, Thread.atCollectorCode, Thread.yieldsInsideHandler, Sem.bind]
    exact .inl (.inl (.inl (of_decide_eq_true h1)))
  | _ => intro h t a h' t' e; cases e

end
section
open PySem PySem.W PyProof.Rows
section
variable {α : Type}
theorem insertAt_toList (xs : Array α) (p : Nat) (x : α) : (SetTable.insertAt xs p x).toList = xs.toList.take p ++ x :: xs.toList.drop p := by
  unfold SetTable.insertAt
  simp [Array.toList_append, List.append_assoc, List.take_of_length_le]
theorem insertAt_perm (xs : Array α) (p : Nat) (x : α) : (SetTable.insertAt xs p x).toList.Perm (x :: xs.toList) := by
  rw [insertAt_toList]
  refine List.perm_middle.trans ?_
  rw [List.take_append_drop]
theorem insertAt_size (xs : Array α) (p : Nat) (x : α) : (SetTable.insertAt xs p x).size = xs.size + 1 := by
  have := (insertAt_perm xs p x).length_eq
  simpa using this
theorem eraseAt_toList (xs : Array α) (p : Nat) : (SetTable.eraseAt xs p).toList = xs.toList.take p ++ xs.toList.drop (p + 1) := by
  unfold SetTable.eraseAt
  simp [Array.toList_append, List.take_of_length_le]
theorem eraseAt_perm (xs : Array α) (p : Nat) (x : α) (h : xs[p]? = some x) : xs.toList.Perm (x :: (SetTable.eraseAt xs p).toList) := by
  rw [eraseAt_toList]
  have hx : xs.toList[p]? = some x := by simpa using h
  obtain ⟨hp, hx⟩ := List.getElem?_eq_some_iff.mp hx
  have : xs.toList = xs.toList.take p ++ x :: xs.toList.drop (p + 1) := by
    conv => lhs; rw [← List.take_append_drop p xs.toList]
    rw [List.drop_eq_getElem_cons hp, hx]
  conv => lhs; rw [this]
  exact List.perm_middle
theorem eraseAt_size (xs : Array α) (p : Nat) (h : p < xs.size) : (SetTable.eraseAt xs p).size + 1 = xs.size := by
  have := (eraseAt_perm xs p xs[p] (by simp [h])).length_eq
  simp at this
  lia
end
noncomputable abbrev Ent := Int × Value
noncomputable def Fit (es : Array Ent) (t : SetTable) : Prop := t.place.size = es.size ∧ t.fill ≤ t.mask
theorem fits_iff {es : Array Ent} {t : SetTable} : t.fits es.size = true ↔ Fit es t := by
  unfold SetTable.fits Fit
  simp
theorem standIn_fit (es : Array Ent) (t : SetTable) : Fit es (t.standIn es.size) := by
  unfold Fit SetTable.standIn SetTable.fill
  simp
  lia
theorem orStandIn_fit (es : Array Ent) (t : SetTable) : Fit es (t.orStandIn es.size) := by
  unfold SetTable.orStandIn
  cases h : t.fits es.size with
  | true => simpa using fits_iff.mp h
  | false => simpa using standIn_fit es t
theorem layNew_ok (t : SetTable) (es : Array Ent) (h : Int) (x : Value) : (layNew t es h x).1.toList.Perm ((h, x) :: es.toList) ∧ Fit (layNew t es h x).1 (layNew t es h x).2.1 := by
  unfold layNew
  cases t.freeSlot h with
  | none =>
    dsimp only
    have hf := standIn_fit (es.push (h, x)) t
    rw [Array.size_push] at hf
    refine ⟨?_, hf⟩
    rw [Array.toList_push]
    exact List.perm_append_singleton _ _
  | some r =>
    obtain ⟨slot, wd⟩ := r
    exact ⟨insertAt_perm _ _ _, orStandIn_fit _ _⟩
theorem range_get {α : Type} : ∀ l : List α, (List.range l.length).filterMap (l[·]?) = l
  | [] => rfl
  | x :: l => by
    rw [List.length_cons, List.range_succ_eq_map, List.filterMap_cons]
    simp only [List.getElem?_cons_zero, List.filterMap_map]
    congr 1
    exact range_get l
theorem filterMap_perm {es : Array Ent} {order : Array Nat} (h : order.toList.Perm (List.range es.size)) : (order.filterMap (es[·]?)).toList.Perm es.toList := by
  rw [Array.toList_filterMap]
  refine (h.filterMap _).trans ?_
  have := range_get es.toList
  simp only [Array.length_toList, Array.getElem?_toList] at this
  rw [this]
theorem relayAll_ok (t : SetTable) (es : Array Ent) (wanted : Nat) : (relayAll t es wanted).1.toList.Perm es.toList ∧ Fit (relayAll t es wanted).1 (relayAll t es wanted).2.1 := by
  unfold relayAll
  cases t.relaid (es.map (·.1)) wanted with
  | none => exact ⟨.refl _, standIn_fit es t⟩
  | some r =>
    obtain ⟨t', order⟩ := r
    dsimp only
    split
    · rename_i hc
      rw [Bool.and_eq_true] at hc
      refine ⟨filterMap_perm ?_, fits_iff.mp hc.2⟩
      have := hc.1
      unfold coversAll at this
      exact List.isPerm_iff.mp this
    · exact ⟨.refl _, standIn_fit es t⟩
/-! the clean road: a free slot is always found -/
noncomputable def nx (M i : Nat) : Nat := (i * 5 + 1) % M
noncomputable def it (M : Nat) : Nat → Nat → Nat
  | 0, i => i
  | k + 1, i => it M k (nx M i)
theorem it_add (M : Nat) : ∀ a b i, it M (a + b) i = it M b (it M a i)
  | 0, b, i => by rw [Nat.zero_add]; rfl
  | a + 1, b, i => by rw [show a + 1 + b = (a + b) + 1 by lia]; exact it_add M a b (nx M i)
noncomputable def Full (M : Nat) : Prop := ∀ i, i < M → ∀ j, j < M → ∃ k, k < M ∧ it M k i = j
theorem full_of {M : Nat} (cyc : it M M 0 = 0) (all : ∀ j, j < M → ∃ k, k < M ∧ it M k 0 = j) : Full M := by
  intro i hi j hj
  refine X1_2 (all i hi) ?_; intro a ha z0; subst z0
  refine X1_2 (all j hj) ?_; intro b hb z0; subst z0
  by_cases q : a ≤ b
  · exact ⟨b - a, by exact Nat.lt_of_le_of_lt (Nat.sub_le ..) hb, by rw [← it_add]; congr 1; exact ar3 q⟩
  · refine ⟨M - a + b, by exact ar74 ha q, ?_⟩
    rw [it_add, ← it_add M a (M - a), show a + (M - a) = M by exact ar3 (Nat.le_of_lt ha), cyc]
theorem full8 : Full 8 := full_of (by decide) (by decide)
theorem full128 : Full 128 := full_of (by decide +kernel) (by decide +kernel)
noncomputable abbrev freeOf := @SetTable.layClean.free
theorem runEnd_ge (mask i : Nat) : i ≤ SetTable.runEnd mask i := by
  unfold SetTable.runEnd
  split <;> lia
theorem free_here {mask : Nat} {owner : Array (Option Nat)} {fuel i pt : Nat} (h : owner[i]? = some none) : ∃ j, freeOf mask owner (fuel + 1) i pt = some j := by
  unfold freeOf SetTable.layClean.free
  have hge := runEnd_ge mask i
  have : ((List.range (SetTable.runEnd mask i + 1 - i)).find? fun k => (owner.getD (i + k) (some 0)).isNone).isSome = true := by
    rw [List.find?_isSome]
    refine ⟨0, by simp; exact Nat.sub_pos_of_lt (Nat.lt_succ_of_le hge), ?_⟩
    simp [h]
  refine X1_1 (Option.isSome_iff_exists.mp this) ?_; intro k hk
  rw [hk]
  exact ⟨_, rfl⟩
theorem free_zero {mask : Nat} {owner : Array (Option Nat)} : ∀ (k fuel i : Nat), k < fuel → owner[it (mask + 1) k i]? = some none → ∃ j, freeOf mask owner fuel i 0 = some j
  | 0, fuel, i, hf, h => by
    obtain ⟨f, rfl⟩ : ∃ f, fuel = f + 1 := ⟨fuel - 1, by exact ar49 hf⟩
    exact free_here h
  | k + 1, fuel, i, hf, h => by
    obtain ⟨f, rfl⟩ : ∃ f, fuel = f + 1 := ⟨fuel - 1, by exact ar49 hf⟩
    unfold freeOf SetTable.layClean.free
    split
    · exact ⟨_, rfl⟩
    · have e : SetTable.leap mask i 0 = (nx (mask + 1) i, 0) := by unfold SetTable.leap nx; simp
      rw [e]
      exact free_zero k f _ (by exact Nat.lt_of_succ_lt_succ hf) h
theorem free_pert {mask : Nat} {owner : Array (Option Nat)} (hF : Full (mask + 1)) {j : Nat} (hj : j < mask + 1) (h : owner[j]? = some none) : ∀ (n fuel i pt : Nat), i < mask + 1 → pt < 32 ^ n → n + (mask + 1) ≤ fuel → ∃ j, freeOf mask owner fuel i pt = some j
  | 0, fuel, i, pt, hi, hp, hf => by
    obtain rfl : pt = 0 := by simpa using hp
    refine X1_2 (hF i hi j hj) ?_; intro k hk e
    exact free_zero k fuel i (by lia) (by rw [e]; exact h)
  | n + 1, fuel, i, pt, hi, hp, hf => by
    obtain ⟨f, rfl⟩ : ∃ f, fuel = f + 1 := ⟨fuel - 1, by exact ar49 (Nat.lt_of_lt_of_le (Nat.lt_succ_self _) (Nat.le_trans (Nat.le_add_left ..) hf))⟩
    unfold freeOf SetTable.layClean.free
    split
    · exact ⟨_, rfl⟩
    · refine free_pert hF hj h n f _ _ ?_ ?_ (by lia)
      · exact Nat.mod_lt _ (by lia)
      · show pt / 32 < 32 ^ n
        rw [Nat.div_lt_iff_lt_mul (by decide)]
        rwa [Nat.pow_succ] at hp
theorem free_spec {mask : Nat} {owner : Array (Option Nat)} : ∀ (fuel i pt j : Nat), freeOf mask owner fuel i pt = some j → owner[j]? = some none
  | 0, i, pt, j, h => by unfold freeOf SetTable.layClean.free at h; cases h
  | f + 1, i, pt, j, h => by
    unfold freeOf SetTable.layClean.free at h
    split at h
    · rename_i k hk
      cases h
      have := List.find?_some hk
      simp only [Array.getD_eq_getD_getElem?] at this
      cases q : owner[i + k]? with
      | none => rw [q] at this; simp at this
      | some v => rw [q] at this; simp at this; rw [this]
    · exact free_spec f _ _ j h
theorem bits_lt (h : Int) : SetTable.bits h < 32 ^ 13 := by
  unfold SetTable.bits
  have h1 := Int.emod_nonneg h (b := (2 ^ 64 : Int)) (by decide)
  have h2 := Int.emod_lt_of_pos h (b := (2 ^ 64 : Int)) (by decide)
  have h3 : (2 ^ 64 : Int) < 32 ^ 13 := by decide
  have h4 : ((32 ^ 13 : Nat) : Int) = 32 ^ 13 := by decide
  lia
theorem set_filterMap {α : Type} : ∀ (l : List (Option α)) (j : Nat) (v : α), l[j]? = some none → ((l.set j (some v)).filterMap id).Perm (v :: l.filterMap id)
  | [], j, v, h => by simp at h
  | x :: l, 0, v, h => by
    simp only [List.getElem?_cons_zero, Option.some.injEq] at h
    subst h
    exact .refl _
  | x :: l, j + 1, v, h => by
    simp only [List.getElem?_cons_succ] at h
    have ih := set_filterMap l j v h
    cases x with
    | none => exact ih
    | some y =>
      show (y :: (l.set j (some v)).filterMap id).Perm (v :: y :: l.filterMap id)
      exact (ih.cons y).trans (.swap _ _ _)
theorem none_of_short {α : Type} : ∀ (l : List (Option α)), (l.filterMap id).length < l.length → ∃ j : Nat, j < l.length ∧ l[j]? = some none
  | [], h => by simp at h
  | none :: l, h => ⟨0, by simp, rfl⟩
  | some y :: l, h => by
    have h' : (l.filterMap id).length < l.length := by
      have e : (some y :: l).filterMap id = y :: l.filterMap id := rfl
      rw [e] at h
      simpa using h
    refine X1_2 (none_of_short l h') ?_; intro j h1 h2
    exact ⟨j + 1, by simpa using h1, h2⟩
theorem layClean_ok {mask : Nat} (hF : Full (mask + 1)) (hashes : Array Int) (hn : hashes.size ≤ mask) : ∃ owner, SetTable.layClean mask hashes = some owner ∧ owner.size = mask + 1 ∧ (owner.toList.filterMap id).Perm (List.range hashes.size) := by
  have key : ∀ (l : List Int) (owner : Array (Option Nat)) (k : Nat), k + l.length ≤ mask → owner.size = mask + 1 → (owner.toList.filterMap id).Perm (List.range k) →
      ∃ owner', l.foldl (fun (acc : Option (Array (Option Nat) × Nat)) h => do
        let (owner, k) ← acc
        let j ← freeOf mask owner (SetTable.turns mask) (SetTable.bits h % (mask + 1)) (SetTable.bits h)
        pure (owner.setIfInBounds j (some k), k + 1)) (some (owner, k)) = some (owner', k + l.length) ∧ owner'.size = mask + 1 ∧ (owner'.toList.filterMap id).Perm (List.range (k + l.length)) := by
    intro l
    induction l with
    | nil => intro owner k _ hs hp; exact ⟨owner, rfl, hs, hp⟩
    | cons h l ih =>
      intro owner k hk hs hp
      rw [List.length_cons] at hk
      refine X1_2 (none_of_short owner.toList (by rw [hp.length_eq]; simp [hs]; exact Nat.lt_succ_of_lt (ar20 hk))) ?_; intro j hj hjn
      rw [Array.length_toList, hs] at hj
      rw [Array.getElem?_toList] at hjn
      refine X1_1 (free_pert hF hj hjn 13 (SetTable.turns mask) (SetTable.bits h % (mask + 1)) (SetTable.bits h) (Nat.mod_lt _ (by lia)) (bits_lt h) (by unfold SetTable.turns; lia)) ?_; intro j' hj'
      have hjn' := free_spec _ _ _ _ hj'
      refine X1_3 (ih (owner.setIfInBounds j' (some k)) (k + 1) (by exact ar21 hk) (by simp [hs]) (by
        rw [Array.toList_setIfInBounds]
        refine (set_filterMap _ _ _ (by simpa using hjn')).trans ?_
        rw [List.range_succ]
        exact (hp.cons k).trans (List.perm_append_singleton _ _).symm)) ?_; intro owner' h1 h2 h3
      refine ⟨owner', ?_, h2, ?_⟩
      · rw [List.foldl_cons]
        have e : (do
          let (owner, k) ← some (owner, k)
          let j ← freeOf mask owner (SetTable.turns mask) (SetTable.bits h % (mask + 1)) (SetTable.bits h)
          pure (owner.setIfInBounds j (some k), k + 1) : Option (Array (Option Nat) × Nat)) = some (owner.setIfInBounds j' (some k), k + 1) := by
          show (freeOf mask owner _ _ _).bind _ = _
          rw [hj']; rfl
        rw [e, h1, List.length_cons]
        congr 2; lia
      · rw [List.length_cons, show k + (l.length + 1) = k + 1 + l.length by lia]; exact h3
  refine X1_3 (key hashes.toList (Array.replicate (mask + 1) none) 0 (by simpa using hn) (by simp) (by
    have : (List.replicate (mask + 1) (none : Option Nat)).filterMap id = [] := by
      rw [List.filterMap_eq_nil_iff]; intro a ha; exact (List.mem_replicate.mp ha).2
    simp [this])) ?_; intro owner h1 h2 h3
  refine ⟨owner, ?_, h2, by simpa using h3⟩
  unfold SetTable.layClean
  rw [← Array.foldl_toList]
  exact congrArg (Option.map (·.1)) h1
theorem laid_ok {mask : Nat} (hF : Full (mask + 1)) (hashes : Array Int) (hn : hashes.size ≤ mask) (fg mv : Nat) (led pl : Bool) : ∃ t order, SetTable.laid mask fg mv led pl hashes = some (t, order) ∧ order.toList.Perm (List.range hashes.size) ∧ t.mask = mask ∧ t.place.size = hashes.size ∧ t.dummies = #[] := by
  refine X1_3 (layClean_ok hF hashes hn) ?_; intro owner h1 h2 h3
  have live : ((List.range (mask + 1)).filterMap fun j => (owner.getD j none).map (j, ·)).map (·.2) = owner.toList.filterMap id := by
    rw [List.map_filterMap]
    have e : ∀ j, Option.map (·.2) ((owner.getD j none).map (j, ·)) = (owner.toList[j]?).bind id := by
      intro j
      simp only [Array.getD_eq_getD_getElem?, Array.getElem?_toList]
      cases owner[j]? with
      | none => rfl
      | some v => cases v <;> rfl
    simp only [e]
    have := range_get owner.toList
    rw [Array.length_toList, h2] at this
    conv => rhs; rw [← this]
    rw [List.filterMap_filterMap]
  refine ⟨_, _, by unfold SetTable.laid; rw [h1]; rfl, ?_, rfl, ?_, rfl⟩
  · show (((List.range (mask + 1)).filterMap fun j => (owner.getD j none).map (j, ·)).map (·.2)).Perm _
    rw [live]; exact h3
  · have := congrArg List.length live
    rw [h3.length_eq] at this
    simpa using this

end
section
open PySem PySem.W PyProof.Rows
theorem bind_assoc' {α β γ : Type} (m : Sem α) (f : α → Sem β) (g : β → Sem γ) : (m.bind f).bind g = m.bind fun x => (f x).bind g := by
  rw [Sem.bind_eq_wrap, Sem.bind_eq_wrap m f, Sem.wrap_wrap, Sem.bind_eq_wrap]
  refine Sem.wrap_congr _ _ _ (fun a => ?_) fun _ => rfl
  rw [Sem.bind_eq_wrap]
theorem bind_pure' {α : Type} (m : Sem α) : m.bind Sem.pure = m := by
  induction m with
  | await a t d l k ih => simp only [Sem.bind]; congr 1; funext x; exact ih x
  | _ => simp_all [Sem.bind]
section
variable {α : Type} {p : Program} {w : World} {B : List Frame} {K' : α → Sem Fin} {H' : Value → Sem Fin} {gd : Bool → Bool} {lv : List Value → List Value} {res : α → Flow}
theorem seg_reach (hB : splitAtGen B = none) (hl : 2 ≤ B.length) : ∀ (n : Nat) (s : Shared) (t t' : Thread) (f : Flow) (s' : Shared) (c' : Code) (p' : Pos), Rel2 (fun a => .pure (.done (res a))) K' deadEnd H' gd lv B t t' →
    segRun treeTable p w 11 (some (.ref 6)) B.length n s t = some (f, s', c', p') → ∃ a, res a = f ∧ Reach w p s t' s' ⟨K' a, c', p', B⟩
  | 0, _, _, _, _, _, _, _, _, h => by simp [segRun] at h
  | n + 1, s, ⟨cur, code, pos, st⟩, ⟨cur', code', pos', st'⟩, f, s', c', p', R, h => by
    refine X0_3 R ?_; clear R; intro e1 e2 R
    dsimp only at e1 e2 R
    subst e1 e2
    unfold segRun at h
    cases he : endAt B.length ⟨cur, code, pos, st⟩ with
    | some g =>
      rw [he] at h
      obtain ⟨rfl, rfl, rfl, rfl⟩ : g = f ∧ s = s' ∧ code = c' ∧ pos = p' := by simpa using h
      rcases R with ⟨rfl, rfl, x, rfl, rfl⟩ | ⟨rfl, F⟩
      · have hx : ∃ a, x = .pure a ∧ res a = g := by
          cases x with
          | pure a => simp only [endAt, Sem.wrap, beq_self_eq_true, Option.some.injEq] at he; exact ⟨a, rfl, he⟩
          | _ => simp [endAt, Sem.wrap] at he
        refine X1_2 hx ?_; clear hx; intro a z0 z1; subst z0; subst z1
        exact ⟨a, rfl, .refl _ _⟩
      · have l := F.longer.1
        have : ((st.length == B.length) = false) := beq_eq_false_iff_ne.mpr (Nat.ne_of_gt l)
        simp only [endAt, this] at he
        cases he
    | none =>
      rw [he] at h
      cases hk : stepOk 11 (some (.ref 6)) ⟨cur, code, pos, st⟩ with
      | false => rw [hk] at h; cases h
      | true =>
        rw [hk] at h
        cases hs : step (denote treeTable) p w s ⟨cur, code, pos, st⟩ with
        | halt o s₂ => rw [hs] at h; cases h
        | go s₂ t₂ =>
          rw [hs] at h
          have key : endAt 1 ⟨cur', code, pos, st'⟩ = none ∧ stepOk 11 (some (.ref 6)) ⟨cur', code, pos, st'⟩ = true ∧ ∃ t₂', step (denote treeTable) p w s ⟨cur', code, pos, st'⟩ = .go s₂ t₂' ∧ Rel2 (fun a => .pure (.done (res a))) K' deadEnd H' gd lv B t₂ t₂' := by
            rcases R with ⟨rfl, rfl, x, rfl, rfl⟩ | ⟨rfl, F⟩
            · have hp : ∀ a, x ≠ .pure a := by
                rintro a rfl
                simp [endAt, Sem.wrap] at he
              have hr : ∀ e, x ≠ .raise e := by
                rintro e rfl
                obtain ⟨heap, gens, drawn, toks, os⟩ := s
                simp only [Sem.wrap, step] at hs
                cases hs
              refine X0_2 (okOuter (K' := K') (H' := H') hp hr hk) ?_; intro k1 _
              refine ⟨?_, k1, step_outer hB hp hs⟩
              have : (st'.length == 1) = false := beq_eq_false_iff_ne.mpr (by lia)
              simp only [endAt, this]
            · refine X0_2 (okInner hB F hk) ?_; intro k1 _
              refine ⟨?_, k1, step_inner hB F hs⟩
              have := F.longer.2
              have : (st'.length == 1) = false := beq_eq_false_iff_ne.mpr (by lia)
              simp only [endAt, this]
          refine X0_3 key ?_; clear key; intro k1 k2 z0; refine X1_2 z0 ?_; clear z0; intro t₂' k3 R'
          refine X1_2 (seg_reach hB hl n s₂ t₂ t₂' f s' c' p' R' h) ?_; intro a ha hr
          exact ⟨a, ha, (Reach.step k1 k2 k3).trans hr⟩
end
/-! the loop of set.update, by parts -/
noncomputable def lpc (a b : Addr) : Code := .builtin "set.update.loop" ⟨[.ref a, .ref b], []⟩
noncomputable def hashAsk : Value → Sem Unit
  | .str s t => (callSpecialIfBound? (.str s t) "__hash__").bind fun _ => .pure ()
  | _ => .pure ()
noncomputable def nextT (b : Addr) : Sem (Option Value) := (pyNext (.ref b)).bind fun o => match o with
  | none => .pure none
  | some x => (hashAsk x).bind fun _ => .pure (some x)
noncomputable def addS (a : Addr) (s : Str) (t : Tok) : Sem Bool := (strHash s).bind fun h => setAddHashed a (.str s t) h
noncomputable def restT (a b : Addr) : Option Value → Sem Fin
  | none => ret .none
  | some (.str s t) => (addS a s t).bind fun _ => again (lpc a b)
  | some x => (holding [x] (setAdd a x)).bind fun _ => again (lpc a b)
theorem entry_loop : entryFor treeTable "set.update.loop" = some Builtin.«set.update.loop» := by rw [← table_eq_tree]; exact entryFor_of_tree (by kernel_rfl!)
theorem loop_eq (a b : Addr) : denote treeTable (lpc a b) = (nextT b).bind (restT a b) := by
  have e : denote treeTable (lpc a b) = Builtin.«set.update.loop» ⟨[.ref a, .ref b], []⟩ := by
    unfold lpc denote
    dsimp only
    rw [entry_loop]
  rw [e]
  unfold nextT
  rw [bind_assoc']
  show (pyNext (.ref b)).bind _ = _
  congr 1
  funext o
  cases o with
  | none => rfl
  | some x =>
    show (holding [x] (setAdd a x)).bind (fun _ => again (lpc a b)) = ((hashAsk x).bind fun _ => .pure (some x)).bind (restT a b)
    rw [bind_assoc']
    cases x with
    | str s t =>
      show (Sem.bind (Sem.bind (callSpecialIfBound? (.str s t) "__hash__") fun _ => strHash s) fun h => setAddHashed a (.str s t) h).bind _ = (Sem.bind (callSpecialIfBound? (.str s t) "__hash__") fun _ => Sem.pure ()).bind _
      rw [bind_assoc', bind_assoc', bind_assoc']
      congr 1
    | _ => rfl
noncomputable def resF : Option Value → Flow
  | none => .brk
  | some x => .ret x
theorem resF_inj {x y : Option Value} (h : resF x = resF y) : x = y := by cases x <;> cases y <;> simp_all [resF]

end
section
open PySem PySem.W PyProof.Rows
noncomputable def setO (es : Array Ent) (n : Nat) (t : SetTable) : Obj := ⟨.type "frozenset", none, .set es n t, #[]⟩
noncomputable def ChsL (l : List Ent) (cs : List (Nat × Tok)) : Prop := ∃ ks : List (Int × Nat × Tok), l = ks.map (fun k => (k.1, Value.str ⟨#[k.2.1]⟩ k.2.2)) ∧ (ks.map (·.2)).Perm cs
noncomputable def IsSS (cs : List (Nat × Tok)) (o : Obj) : Prop := ∃ es n t, o = setO es n t ∧ Fit es t ∧ ChsL es.toList cs
theorem ChsL.perm {l l' : List Ent} {cs : List (Nat × Tok)} (h : ChsL l cs) (p : l'.Perm l) : ChsL l' cs := by
  refine X1_2 h ?_; clear h; intro ks z0 hp; subst z0
  obtain ⟨ks', h1, h2⟩ : ∃ ks' : List (Int × Nat × Tok), l' = ks'.map (fun k => (k.1, Value.str ⟨#[k.2.1]⟩ k.2.2)) ∧ ks'.Perm ks := by
    clear hp
    have key : ∀ {l' m : List Ent}, l'.Perm m → ∀ ks : List (Int × Nat × Tok), m = ks.map (fun k => (k.1, Value.str ⟨#[k.2.1]⟩ k.2.2)) → ∃ ks' : List (Int × Nat × Tok), l' = ks'.map (fun k => (k.1, Value.str ⟨#[k.2.1]⟩ k.2.2)) ∧ ks'.Perm ks := by
      intro l' m hp
      induction hp with
      | nil => intro ks e; cases ks with
        | nil => exact ⟨[], rfl, .refl _⟩
        | cons _ _ => cases e
      | cons x _ ih => intro ks e; cases ks with
        | nil => cases e
        | cons k ks =>
          simp only [List.map_cons, List.cons.injEq] at e
          refine X0_2 e ?_; clear e; intro z0 e; subst z0
          refine X1_2 (ih ks e) ?_; intro ks' h1 h2
          exact ⟨k :: ks', by rw [h1]; rfl, h2.cons k⟩
      | swap x y l => intro ks e; cases ks with
        | nil => cases e
        | cons k ks => cases ks with
          | nil => simp at e
          | cons k2 ks =>
            simp only [List.map_cons, List.cons.injEq] at e
            refine X0_3 e ?_; clear e; intro z0 z1 z2; subst z0; subst z1; subst z2
            exact ⟨k2 :: k :: ks, rfl, .swap _ _ _⟩
      | trans _ _ ih1 ih2 => intro ks e; refine X1_2 (ih2 ks e) ?_; intro ks1 h1 h2; refine X1_2 (ih1 ks1 h1) ?_; intro ks2 h3 h4; exact ⟨ks2, h3, h4.trans h2⟩
    exact key p ks rfl
  exact ⟨ks', h1, (h2.map _).trans hp⟩
theorem ChsL.cons {l : List Ent} {cs : List (Nat × Tok)} (h : ChsL l cs) (i : Int) (c : Nat) (t : Tok) : ChsL ((i, .str ⟨#[c]⟩ t) :: l) ((c, t) :: cs) := by
  refine X1_2 h ?_; clear h; intro ks z0 hp; subst z0
  exact ⟨(i, c, t) :: ks, rfl, hp.cons (c, t)⟩
theorem ChsL.length {l : List Ent} {cs : List (Nat × Tok)} (h : ChsL l cs) : l.length = cs.length := by
  refine X1_2 h ?_; clear h; intro ks z0 hp; subst z0
  have := hp.length_eq
  simpa using this
theorem ChsL.strs {l : List Ent} {cs : List (Nat × Tok)} (h : ChsL l cs) : ∀ e ∈ l, ∃ c t, e.2 = .str ⟨#[c]⟩ t ∧ (c, t) ∈ cs := by
  refine X1_2 h ?_; clear h; intro ks z0 hp; subst z0
  intro e he
  refine X1_2 (List.mem_map.mp he) ?_; intro k hk z0; subst z0
  exact (Y2 k.2.1 k.2.2 ⟨rfl, hp.mem_iff.mp (List.mem_map.mpr ⟨k, hk, rfl⟩)⟩)
theorem ChsL.has {l : List Ent} {cs : List (Nat × Tok)} (h : ChsL l cs) {c : Nat} {t : Tok} (hc : (c, t) ∈ cs) : ∃ e ∈ l, e.2 = .str ⟨#[c]⟩ t := by
  refine X1_2 h ?_; clear h; intro ks z0 hp; subst z0
  refine X1_2 (List.mem_map.mp (hp.mem_iff.mpr hc)) ?_; intro k hk e
  exact ⟨_, List.mem_map.mpr ⟨k, hk, rfl⟩, by rw [e]⟩
theorem str1_inj {c d : Nat} : (⟨#[c]⟩ : Str) = ⟨#[d]⟩ ↔ c = d := by simp
theorem isStr1 (c d : Nat) (t : Tok) : (Value.str ⟨#[c]⟩ t).isStr ⟨#[d]⟩ = decide (c = d) := by
  show ((⟨#[c]⟩ : Str) == ⟨#[d]⟩) = _
  by_cases h : c = d
  · subst h; simp
  · rw [decide_eq_false h]
    exact beq_eq_false_iff_ne.mpr (fun e => h (str1_inj.mp e))
section
variable {S : Setting} {h : Heap} {tk : Nat} {a : Addr}
theorem loc_setState {es : Array Ent} {n : Nat} {t : SetTable} (e : h.get? a = some (setO es n t)) (f : Fit es t) : loc S 11 (setState a) h tk = some ((es, n, t), h, tk) := by
  unfold setState
  rw [loc_bind_some (loc_load e)]
  have c : (t.place.size != es.size || decide (t.fill > t.mask)) = false := by
    rw [f.1]; simp; exact f.2
  simp only [setO, c, Bool.false_eq_true, if_false]
  rfl
theorem update_eq {o : Obj} {f : Obj → Obj} (e : h.get? a = some o) : h.update a f = h.update a fun _ => f o := by
  obtain ⟨objs, l⟩ := h
  show Heap.mk _ _ = Heap.mk _ _
  congr 1
  apply Array.ext_getElem?
  intro i
  rw [Array.getElem?_modify, Array.getElem?_modify]
  by_cases q : a = i
  · subst q
    have : objs[a]? = some o := by
      unfold Heap.get? at e
      revert e
      dsimp only
      cases objs[a]? with
      | none => intro e; cases e
      | some x => obtain ⟨c, d, dt, sl⟩ := x; cases dt <;> intro e <;> first | exact e | cases e
    simp [this]
  · simp [q]
theorem update_update (f g : Obj → Obj) : (h.update a f).update a g = h.update a (g ∘ f) := by
  obtain ⟨objs, l⟩ := h
  show Heap.mk _ _ = Heap.mk _ _
  congr 1
  apply Array.ext_getElem?
  intro i
  simp only [Array.getElem?_modify]
  by_cases q : a = i
  · subst q; simp
  · simp [q]
theorem loc_storeSet {es es' : Array Ent} {n : Nat} {t t' : SetTable} (hn : 11 ≤ a) (e : h.get? a = some (setO es n t)) (hz : es'.size ≤ sizeLine) :
    loc S 11 (storeSet a es' t') h tk = some ((), h.update a (fun _ => setO es' (n + 1) t'), tk) := by
  unfold storeSet
  rw [loc_bind_some (loc_load e)]
  have c : ¬ es'.size > sizeLine := Nat.not_lt.mpr hz
  simp only [setO, c, if_false]
  rw [loc_update hn (by rw [e]; rfl), update_eq e]
  rfl
theorem get_put {o o' : Obj} (e : h.get? a = some o) (hf : o'.isFreed = false) : (h.update a fun _ => o').get? a = some o' := Heap.get?_update_self _ e hf
theorem byScan_of {es : Array Ent} {cs : List (Nat × Tok)} (hc : ChsL es.toList cs) (hl : cs.length < 4096) (s : Str) (t : Tok) : byScan (.str s t) es = true := by
  unfold byScan
  simp only [Bool.and_eq_true, decide_eq_true_eq]
  refine ⟨⟨rfl, ?_⟩, ?_⟩
  · have := hc.length
    simp at this
    show es.size < 4096
    lia
  · rw [Array.all_eq_true_iff_forall_mem]
    intro e he
    refine X2_2 (hc.strs e (Array.mem_toList_iff.mpr he)) ?_; intro c t h _
    rw [h]; rfl
theorem allStr_of {es : Array Ent} {cs : List (Nat × Tok)} (hc : ChsL es.toList cs) : es.all (fun e => isExactStrKey e.2) = true := by
  rw [Array.all_eq_true_iff_forall_mem]
  intro e he
  refine X2_2 (hc.strs e (Array.mem_toList_iff.mpr he)) ?_; intro c t h _
  rw [h]; rfl
theorem findIdx_none {es : Array Ent} {cs : List (Nat × Tok)} (hc : ChsL es.toList cs) {c : Nat} (hn : c ∉ cs.map (·.1)) : es.findIdx? (·.2.isStr ⟨#[c]⟩) = none := by
  rw [Array.findIdx?_eq_none_iff]
  intro e he
  refine X2_2 (hc.strs e (Array.mem_toList_iff.mpr he)) ?_; intro d t h hd
  rw [h, isStr1]
  exact decide_eq_false fun q => hn (List.mem_map.mpr ⟨(d, t), hd, q⟩)
theorem loc_scan_absent {es : Array Ent} {cs : List (Nat × Tok)} (hc : ChsL es.toList cs) {c : Nat} (hn : c ∉ cs.map (·.1)) (t : Tok) (i : Int) (ad : Bool) : loc S 11 (setScan a (.str ⟨#[c]⟩ t) i ad es) h tk = some (.absent, h, tk) := by
  unfold setScan
  simp only [allStr_of hc, if_true]
  unfold setScanStrs
  rw [findIdx_none hc hn]
  rfl
theorem loc_tail {es es1 : Array Ent} {n : Nat} {t t2 : SetTable} {cs : List (Nat × Tok)} (hn : 11 ≤ a) (e : h.get? a = some (setO es n t)) (f1 : Fit es1 t2) (c1 : ChsL es1.toList cs) (hl : cs.length ≤ 4000) (wd : Bool) (W : Nat) (Y : Sem Unit)
    (hY : ∀ h tk, loc S 11 Y h tk = some ((), h, tk)) :
    ∃ o', IsSS cs o' ∧ loc S 11 (storeSet a es1 t2 >>= fun _ => if (!wd && t2.tooFull) = true then (Y >>= fun _ => storeSet a (relayAll t2 es1 W).1 (relayAll t2 es1 W).2.1 >>= fun _ => pure (some true)) else pure (some true)) h tk = some (some true, h.update a (fun _ => o'), tk) := by
  have hL : 4096 ≤ sizeLine := by decide
  have s1 : es1.size ≤ sizeLine := by have := c1.length; simp at this; lia
  rw [loc_bind_some (loc_storeSet hn e s1)]
  cases hb : (!wd && t2.tooFull) with
  | false => exact ⟨_, (Y3 _ _ _ ⟨rfl, f1, c1⟩), rfl⟩
  | true =>
    rw [if_pos rfl, loc_bind_some (hY _ _)]
    refine X0_2 (relayAll_ok t2 es1 W) ?_; intro p2 f2
    have c2 := c1.perm p2
    have s2 : (relayAll t2 es1 W).1.size ≤ sizeLine := by have := c2.length; simp at this; lia
    rw [loc_bind_some (loc_storeSet hn (get_put e rfl) s2)]
    refine ⟨_, (Y3 _ (n + 1 + 1) _ ⟨rfl, f2, c2⟩), ?_⟩
    rw [update_update]
    rfl
theorem loc_addIn {es : Array Ent} {n : Nat} {t : SetTable} {cs : List (Nat × Tok)} (hn : 11 ≤ a) (e : h.get? a = some (setO es n t)) (hc : ChsL es.toList cs) (hl : cs.length < 4000) {c : Nat} (hcs : c ∉ cs.map (·.1)) (tok : Tok) (i : Int) :
    ∃ o', IsSS ((c, tok) :: cs) o' ∧ loc S 11 (setAddByScan a (.str ⟨#[c]⟩ tok) i es t) h tk = some (some true, h.update a (fun _ => o'), tk) := by
  unfold setAddByScan
  simp only [loc_bind_some (loc_rule _ _ _), loc_bind_some (loc_scan_absent hc hcs tok i true)]
  refine X0_2 (layNew_ok t es i (.str ⟨#[c]⟩ tok)) ?_; intro p1 f1
  rcases hr : layNew t es i (.str ⟨#[c]⟩ tok) with ⟨es1, t1, wd, gave⟩
  rw [hr] at p1 f1
  dsimp only at p1 f1 ⊢
  have c1 : ChsL es1.toList ((c, tok) :: cs) := (hc.cons i c tok).perm p1
  have hl1 : ((c, tok) :: cs).length ≤ 4000 := by simp; lia
  have fin : ∀ (g : Bool) (X : Bool → Sem Unit), X true = rule "set.scan.the-table-gave-way" → X false = pure () → ∀ h tk, loc S 11 (X g) h tk = some ((), h, tk) := by
    intro g X h1 h2 h tk
    cases g
    · rw [h2]; rfl
    · rw [h1]; rfl
  rw [loc_bind_some (fin _ _ rfl rfl _ _)]
  cases hp : t1.plain with
  | true =>
    simp only [if_true]
    have hv : loc S 11 (hashByValue 8 (Value.str ⟨#[c]⟩ tok)) h tk = some (false, h, tk) := rfl
    simp only [loc_bind_some hv, Bool.false_eq_true, if_false]
    have f2 : Fit es1 { t1 with plain := false } := f1
    refine loc_tail hn e f2 c1 hl1 wd _ _ ?_
    exact fin _ _ rfl rfl
  | false =>
    simp only [Bool.false_eq_true, if_false, loc_bind_some (loc_pure true h tk), if_true]
    refine loc_tail hn e f1 c1 hl1 wd _ _ ?_
    exact fin _ _ rfl rfl
theorem loc_addHashed {o : Obj} {cs : List (Nat × Tok)} (hn : 11 ≤ a) (e : h.get? a = some o) (hs : IsSS cs o) (hl : cs.length < 4000) {c : Nat} (hcs : c ∉ cs.map (·.1)) (tok : Tok) (i : Int) :
    ∃ o', IsSS ((c, tok) :: cs) o' ∧ loc S 11 (setAddHashed a (.str ⟨#[c]⟩ tok) i) h tk = some (true, h.update a (fun _ => o'), tk) := by
  refine X3_3 hs ?_; clear hs; intro es n t z0 f hc; subst z0
  refine X1_2 (loc_addIn (S := S) (tk := tk) hn e hc hl hcs tok i) ?_; intro o' h1 h2
  refine ⟨o', h1, ?_⟩
  unfold setAddHashed
  rw [loc_holding]
  show loc S 11 (setAddHashedIn a _ i (99999 + 1)) h tk = _
  unfold setAddHashedIn
  rw [loc_bind_some (loc_setState e f)]
  simp only [byScan_of hc (by lia : cs.length < 4096), if_true]
  rw [loc_bind_some h2]
  rfl
theorem loc_addS {o : Obj} {cs : List (Nat × Tok)} (hn : 11 ≤ a) (e : h.get? a = some o) (hs : IsSS cs o) (hl : cs.length < 4000) {c : Nat} (hcs : c ∉ cs.map (·.1)) (tok : Tok) :
    ∃ o', IsSS ((c, tok) :: cs) o' ∧ loc S 11 (addS a ⟨#[c]⟩ tok) h tk = some (true, h.update a (fun _ => o'), tk) := by
  refine X1_2 (loc_addHashed (S := S) (tk := tk) hn e hs hl hcs tok (if (⟨#[c]⟩ : Str).cps.isEmpty = true then 0 else reduceHash (S.params.strHash (⟨#[c]⟩ : Str).cps))) ?_; intro o' h1 h2
  exact ⟨o', h1, h2⟩
end

end
section
open PySem PySem.W PyProof.Rows PySem.Builtin.Frozenset
theorem sub_set : isSubtype (.type "frozenset") (.type "set") = pure false := by kernel_rfl!
theorem sub_fset : isSubtype (.type "frozenset") (.type "frozenset") = pure true := by kernel_rfl!
noncomputable def IsSSm (cs : List (Nat × Tok)) (m : Nat) (o : Obj) : Prop := ∃ es n t, o = setO es n t ∧ Fit es t ∧ ChsL es.toList cs ∧ t.mask = m ∧ t.dummies = #[]
theorem IsSSm.ss {cs : List (Nat × Tok)} {m : Nat} {o : Obj} (h : IsSSm cs m o) : IsSS cs o := let ⟨es, n, t, a, b, c, _⟩ := h; ⟨es, n, t, a, b, c⟩
section
variable {S : Setting} {h : Heap} {tk : Nat} {a b : Addr}
theorem loc_loadPart {o : Obj} (p : Option Value) (e : h.get? a = some o) : loc S 11 (loadPart a p) h tk = some (o, h, tk) := by
  simp only [PySem.loadPart, loc_L, loc_P, e]
theorem loc_typeOf {es : Array Ent} {n : Nat} {t : SetTable} (e : h.get? a = some (setO es n t)) : loc S 11 (typeOf (.ref a)) h tk = some (.type "frozenset", h, tk) := by
  show loc S 11 (loadPart a (some headPart) >>= fun o => pure o.cls) h tk = _
  rw [loc_bind_some (loc_loadPart _ e)]
  rfl
theorem loc_isInst {es : Array Ent} {n : Nat} {t : SetTable} (e : h.get? a = some (setO es n t)) : loc S 11 (isInstance (.ref a) (.type "set")) h tk = some (false, h, tk) := by
  unfold isInstance
  rw [loc_bind_some (loc_typeOf e), sub_set]
  rfl
theorem loc_isInstF {es : Array Ent} {n : Nat} {t : SetTable} (e : h.get? a = some (setO es n t)) : loc S 11 (isInstance (.ref a) (.type "frozenset")) h tk = some (true, h, tk) := by
  unfold isInstance
  rw [loc_bind_some (loc_typeOf e), sub_fset]
  rfl
theorem loc_isAnySet {es : Array Ent} {n : Nat} {t : SetTable} (e : h.get? a = some (setO es n t)) : loc S 11 (isAnySet (.ref a)) h tk = some (true, h, tk) := by
  unfold isAnySet orM
  rw [loc_bind_some (loc_isInst e)]
  exact loc_isInstF e
theorem loc_baseOf {es : Array Ent} {n : Nat} {t : SetTable} (e : h.get? a = some (setO es n t)) : loc S 11 (baseOf a) h tk = some (.type "frozenset", h, tk) := by
  unfold baseOf
  rw [loc_bind_some (loc_isInst e)]
  rfl
theorem loc_newSet : loc S 11 (newSet (.type "frozenset")) h tk = some (.ref h.objs.size, h.push (setO #[] 0 (.fresh 0 0 (!S.params.followText "set-order"))), tk) := rfl
theorem push_put (o o' : Obj) : (h.push o).update h.objs.size (fun _ => o') = h.push o' := by
  obtain ⟨objs, l⟩ := h
  show Heap.mk _ _ = Heap.mk _ _
  congr 1
  apply Array.ext_getElem?
  intro i
  rw [Array.getElem?_modify, Array.getElem?_push, Array.getElem?_push]
  by_cases q : objs.size = i
  · subst q; simp
  · simp [q, Ne.symm q]
theorem ChsL.size {es : Array Ent} {cs : List (Nat × Tok)} (h : ChsL es.toList cs) : es.size = cs.length := by have := h.length; simpa using this
theorem fresh_fit (b : Bool) : Fit #[] (SetTable.fresh 0 0 b) := ⟨rfl, Nat.zero_le _⟩
theorem loc_setRoomFor_none {es : Array Ent} {n k : Nat} {t : SetTable} (e : h.get? a = some (setO es n t)) (f : Fit es t) (hr : t.roomFor k = none) : loc S 11 (setRoomFor a k) h tk = some ((), h, tk) := by
  unfold setRoomFor
  rw [loc_bind_some (loc_setState e f)]
  simp only [hr]
  rfl
theorem loc_setRoomFor_fresh {n k W m : Nat} {t : SetTable} (hn : 11 ≤ a) (e : h.get? a = some (setO #[] n t)) (f : Fit #[] t) (hr : t.roomFor k = some W) (hW : SetTable.sizeAbove W = m + 1) (hm : m < sizeLine) :
    ∃ t', t'.mask = m ∧ t'.dummies = #[] ∧ Fit #[] t' ∧ loc S 11 (setRoomFor a k) h tk = some ((), h.update a (fun _ => setO #[] (n + 1) t'), tk) := by
  unfold setRoomFor
  rw [loc_bind_some (loc_setState e f)]
  simp only [hr]
  unfold setRelay
  rw [loc_bind_some (loc_setState e f)]
  have c : ¬ SetTable.sizeAbove W > sizeLine := by rw [hW]; lia
  simp only [c, if_false]
  have hl : ∃ t', SetTable.laid m t.finger (t.movedTo m) t.led t.plain #[] = some (t', #[]) ∧ t'.mask = m ∧ t'.dummies = #[] ∧ t'.place = #[] := by
    have e1 : SetTable.layClean m #[] = some (Array.replicate (m + 1) none) := rfl
    have e2 : ((List.range (m + 1)).filterMap fun j => ((Array.replicate (m + 1) (none : Option Nat)).getD j none).map (j, ·)) = [] := by
      rw [List.filterMap_eq_nil_iff]
      intro j _
      have : (Array.replicate (m + 1) (none : Option Nat)).getD j none = none := by
        rw [Array.getD_eq_getD_getElem?, Array.getElem?_replicate]
        split <;> rfl
      rw [this]; rfl
    refine ⟨_, by unfold SetTable.laid; rw [e1]; show some _ = some _; rw [e2]; rfl, rfl, rfl, rfl⟩
  refine X1_4 hl ?_; clear hl; intro t' hl hm' hd' hp'
  have hf' : Fit #[] t' := ⟨by rw [hp']; rfl, by unfold SetTable.fill; rw [hp', hd']; simp⟩
  refine ⟨t', hm', hd', hf', ?_⟩
  have e3 : t.relaid ((#[] : Array Ent).map (·.1)) W = some (t', #[]) := by
    unfold SetTable.relaid
    rw [hW, Nat.add_sub_cancel, Array.map_empty]
    exact hl
  rw [e3]
  show loc S 11 ((pure ((#[] : Array Ent), t') : Sem _) >>= fun x => storeSet a x.1 x.2) h tk = _
  rw [loc_bind_some (loc_pure _ _ _)]
  exact loc_storeSet hn e (Nat.zero_le _)
theorem loc_merge_fresh {o : Obj} {cs : List (Nat × Tok)} {n m : Nat} {t : SetTable} (hn : 11 ≤ a) (hab : a ≠ b) (e : h.get? a = some (setO #[] n t)) (f : Fit #[] t) (hb : h.get? b = some o) (hs : IsSS cs o) (hne : cs ≠ [])
    (hF : Full (m + 1)) (hm : cs.length ≤ m) (hmL : m < sizeLine) (hd : t.dummies = #[])
    (hr : (t.roomFor cs.length = none ∧ t.mask = m) ∨ ∃ W, t.roomFor cs.length = some W ∧ SetTable.sizeAbove W = m + 1) :
    ∃ o', IsSSm cs m o' ∧ loc S 11 (setMerge a b) h tk = some ((), h.update a (fun _ => o'), tk) := by
  refine X3_3 hs ?_; clear hs; intro es nb tb z0 fb hc; subst z0
  have hsz := hc.size
  unfold setMerge
  have c1 : (a == b) = false := beq_eq_false_iff_ne.mpr hab
  simp only [c1, Bool.false_eq_true, if_false]
  rw [loc_bind_some (loc_setState hb fb)]
  have c2 : es.isEmpty = false := by
    rw [Array.isEmpty_eq_false_iff]
    intro q
    rw [q] at hsz
    simp at hsz
    exact hne (List.length_eq_zero_iff.mp hsz.symm)
  simp only [c2, Bool.false_eq_true, if_false]
  -- room
  have room : ∃ n' t', t'.mask = m ∧ t'.dummies = #[] ∧ Fit #[] t' ∧ loc S 11 (setRoomFor a es.size) h tk = some ((), h.update a (fun _ => setO #[] n' t'), tk) := by
    rcases hr with ⟨h1, h2⟩ | ⟨W, h1, h2⟩
    · refine (Y2 n t ⟨h2, hd, f, ?_⟩)
      rw [hsz, loc_setRoomFor_none e f h1]
      congr 3
      have := update_eq (f := fun x => x) e
      rw [← this]
      obtain ⟨objs, l⟩ := h
      show Heap.mk _ _ = Heap.mk _ _
      congr 1
      apply Array.ext_getElem?
      intro i
      rw [Array.getElem?_modify]
      simp
    · refine X1_4 (loc_setRoomFor_fresh (S := S) (tk := tk) (m := m) hn e f (k := es.size) (by rw [hsz]; exact h1) h2 hmL) ?_; intro t' q1 q2 q3 q4
      exact (Y2 (n + 1) t' ⟨q1, q2, q3, q4⟩)
  refine X2_4 room ?_; clear room; intro n' t' q1 q2 q3 q4
  rw [loc_bind_some q4]
  have ea := get_put (o' := setO #[] n' t') e rfl
  have eb : (h.update a fun _ => setO #[] n' t').get? b = some (setO es nb tb) := (Heap.get?_update_ne _ _ _ _ (Ne.symm hab)).trans hb
  rw [loc_bind_some (loc_setState ea q3)]
  have hL : 4096 ≤ sizeLine := by decide
  have hsl : es.size ≤ sizeLine := by lia
  have hfill : t'.fill = 0 := by
    have := q3.1
    unfold SetTable.fill
    rw [q2]
    simpa using this
  dsimp only
  cases hroad : t'.road tb with
  | oneByOne =>
    exfalso
    unfold SetTable.road at hroad
    rw [hfill] at hroad
    simp at hroad
    split at hroad <;> cases hroad
  | slotForSlot =>
    have hk : tb.mask = m ∧ tb.dummies = #[] := by
      unfold SetTable.road at hroad
      rw [hfill] at hroad
      simp only [bne_self_eq_false, Bool.false_eq_true, if_false] at hroad
      split at hroad
      · rename_i hq
        simp only [Bool.and_eq_true, beq_iff_eq, Array.isEmpty_iff] at hq
        exact ⟨hq.1.symm.trans q1, hq.2⟩
      · cases hroad
    dsimp only
    rw [loc_storeSet hn ea hsl, update_update]
    refine ⟨_, (Y3 es (n' + 1) _ ⟨rfl, ?_, hc, ?_, ?_⟩), rfl⟩
    · exact fb
    · exact hk.1
    · exact hk.2
  | clean =>
    dsimp only
    refine X2_5 (laid_ok hF (es.map (·.1)) (by rw [Array.size_map]; lia) t'.finger t'.moves (t'.led && tb.led) (t'.plain && tb.plain)) ?_; intro t2 order l1 l2 l3 l4 l5
    rw [Array.size_map] at l2 l4
    have pm := filterMap_perm l2
    have sz2 : (order.filterMap (es[·]?)).size = es.size := by have := pm.length_eq; rwa [Array.length_toList, Array.length_toList] at this
    rw [q1, l1]
    have e5 : loc S 11 (do
        let es' := order.filterMap (es[·]?)
        if es'.size != es.size then unsupported "internal:set-table-lost-an-element"
        pure (es', t2) : Sem (Array Ent × SetTable)) (h.update a fun _ => setO #[] n' t') tk = some ((order.filterMap (es[·]?), t2), h.update a fun _ => setO #[] n' t', tk) := by
      have c3 : ((order.filterMap (es[·]?)).size != es.size) = false := by rw [sz2]; simp
      simp only [c3, Bool.false_eq_true, if_false]
      rfl
    refine ⟨setO (order.filterMap (es[·]?)) (n' + 1) t2, (Y3 _ _ _ ⟨rfl, ⟨l4.trans sz2.symm, ?_⟩, hc.perm pm, l3, l5⟩), ?_⟩
    · unfold SetTable.fill
      rw [l4, l5, l3]
      simp
      lia
    · refine (loc_bind_some e5).trans ?_
      rw [loc_storeSet hn ea (by rw [sz2]; exact hsl), update_update]
      rfl
theorem get_push_size (o : Obj) (hf : o.isFreed = false) : (h.push o).get? h.objs.size = some o := Heap.get?_push_size _ hf
theorem loc_copyOf {o : Obj} {cs : List (Nat × Tok)} {m : Nat} (hsz : 11 ≤ h.objs.size) (hb : h.get? b = some o) (hs : IsSS cs o) (hne : cs ≠ [])
    (hF : Full (m + 1)) (hm : cs.length ≤ m) (hmL : m < sizeLine)
    (hr : ∀ led, ((SetTable.fresh 0 0 led).roomFor cs.length = none ∧ (SetTable.fresh 0 0 led).mask = m) ∨ ∃ W, (SetTable.fresh 0 0 led).roomFor cs.length = some W ∧ SetTable.sizeAbove W = m + 1) :
    ∃ o', IsSSm cs m o' ∧ loc S 11 (copyOf b) h tk = some (.ref h.objs.size, h.push o', tk) := by
  unfold copyOf
  have hs' := hs
  refine X3_3 hs' ?_; clear hs'; intro es nb tb z0 fb hc; subst z0
  rw [loc_bind_some (loc_baseOf hb), loc_bind_some loc_newSet]
  obtain ⟨o', h1, h2⟩ := loc_merge_fresh (S := S) (tk := tk) (a := h.objs.size) (b := b) hsz (Nat.ne_of_gt (Heap.lt_size hb)) (get_push_size _ rfl) (fresh_fit _) (Heap.get?_push_of_some _ hb) hs hne hF hm hmL rfl (hr _)
  refine ⟨o', h1, ?_⟩
  show loc S 11 (setMerge h.objs.size b >>= fun _ => pure (Value.ref h.objs.size)) _ tk = _
  rw [loc_bind_some h2, push_put]
  rfl
theorem single_of {es : Array Ent} {c : Nat} {t : Tok} (hc : ChsL es.toList [(c, t)]) : ∃ i, es = #[(i, .str ⟨#[c]⟩ t)] := by
  refine X1_2 hc ?_; clear hc; intro ks h1 hp
  have hk := List.perm_singleton.mp hp
  cases ks with
  | nil => cases hk
  | cons k ks =>
    cases ks with
    | cons _ _ => simp at hk
    | nil =>
      simp only [List.map_cons, List.map_nil, List.cons.injEq, and_true] at hk
      exact ⟨k.1, Array.ext' (by rw [h1]; simp [hk])⟩
theorem loc_setEpoch {es : Array Ent} {n : Nat} {t : SetTable} (e : h.get? a = some (setO es n t)) (f : Fit es t) : loc S 11 (setEpoch a) h tk = some (n, h, tk) := by
  unfold setEpoch
  rw [loc_bind_some (loc_setState e f)]
  rfl
theorem loc_setWalk1 {x : Ent} {n : Nat} {t : SetTable} (e : h.get? a = some (setO #[x] n t)) (f : Fit #[x] t) : loc S 11 (setWalk a) h tk = some (#[x], h, tk) := by
  unfold setWalk
  rw [loc_bind_some (loc_setState e f)]
  unfold setsByText
  dsimp only
  rw [loc_bind_some (show loc S 11 (do return (← ask).params.followText "set-order" : Sem Bool) h tk = some (S.params.followText "set-order", h, tk) from rfl)]
  cases S.params.followText "set-order" with
  | true =>
    simp only [if_true]
    rw [loc_bind_some (loc_ask h tk)]
    have : pickOrder (S.params.setOrder a n) #[x] = #[x] := by
      unfold pickOrder
      show pickOrder.go (S.params.setOrder a n) 1 0 [x] #[] = _
      unfold pickOrder.go
      have : S.params.setOrder a n 0 % 1 = 0 := Nat.mod_one _
      simp [this, pickOrder.go]
    rw [this]
    rfl
  | false =>
    simp only [Bool.false_eq_true, if_false]
    obtain ⟨mk, pl, dm, fg, led, mv, pn⟩ := t
    cases pn <;> cases led <;> rfl
theorem loc_walkUnseen1 {x : Ent} {n : Nat} {t : SetTable} (e : h.get? a = some (setO #[x] n t)) (f : Fit #[x] t) (l : List Addr) (fl : Option Addr) : loc S 11 (setWalkUnseen a l fl) h tk = some (#[x], h, tk) := by
  unfold setWalkUnseen
  rw [loc_bind_some (loc_setState e f)]
  dsimp only
  rw [loc_bind_some (show loc S 11 setsByText h tk = some (S.params.followText "set-order", h, tk) from rfl)]
  have c : (S.params.followText "set-order" || t.led && t.plain || decide ((#[x] : Array Ent).size ≤ 1)) = true := by simp
  simp only [c, if_true]
  exact loc_setWalk1 e f
theorem loc_merge1 {o : Obj} {x : Ent} {c : Nat} {tok : Tok} {cs : List (Nat × Tok)} {m n : Nat} {t : SetTable} (each : Sem Unit) (hn : 11 ≤ a) (hab : a ≠ b) (e : h.get? a = some o) (hs : IsSSm cs m o) (hne : cs ≠ []) (hl : cs.length < 4000) (hr : (cs.length + 1) * 5 < m * 3)
    (hx : x.2 = .str ⟨#[c]⟩ tok) (hcn : c ∉ cs.map (·.1)) (hb : h.get? b = some (setO #[x] n t)) (fb : Fit #[x] t) (hE : ∀ h' tk, h'.get? b = some (setO #[x] n t) → loc S 11 each h' tk = some ((), h', tk)) :
    ∃ o', IsSS ((c, tok) :: cs) o' ∧ loc S 11 (setMerge a b each) h tk = some ((), h.update a (fun _ => o'), tk) := by
  obtain ⟨i, v⟩ := x
  dsimp only at hx
  subst hx
  have hs' := hs.ss
  refine X3_5 hs ?_; clear hs; intro es na ta z0 fa hc hm hd; subst z0
  have hfill : ta.fill = cs.length := by
    have := fa.1
    have := hc.size
    unfold SetTable.fill
    rw [hd]
    simp
    lia
  have hroom : ta.roomFor 1 = none := by
    unfold SetTable.roomFor
    rw [hfill, hm, if_neg (by lia)]
  unfold setMerge
  have c1 : (a == b) = false := beq_eq_false_iff_ne.mpr hab
  simp only [c1, Bool.false_eq_true, if_false]
  rw [loc_bind_some (loc_setState hb fb)]
  have c2 : (#[((i, Value.str ⟨#[c]⟩ tok) : Ent)]).isEmpty = false := rfl
  simp only [c2, Bool.false_eq_true, if_false]
  rw [loc_bind_some (show loc S 11 (setRoomFor a (#[((i, Value.str ⟨#[c]⟩ tok) : Ent)]).size) h tk = some ((), h, tk) from loc_setRoomFor_none e fa hroom)]
  rw [loc_bind_some (loc_setState e fa)]
  dsimp only
  have hroad : ta.road t = .oneByOne := by
    unfold SetTable.road
    rw [hfill]
    have : cs.length ≠ 0 := fun q => hne (List.length_eq_zero_iff.mp q)
    simp [this]
  rw [hroad]
  dsimp only
  rw [loc_bind_some (loc_walkUnseen1 hb fb _ _)]
  refine X1_2 (loc_addHashed (S := S) (tk := tk) hn e hs' hl hcn tok i) ?_; intro o' h1 h2
  refine ⟨o', h1, ?_⟩
  have hb' : (h.update a fun _ => o').get? b = some (setO #[(i, Value.str ⟨#[c]⟩ tok)] n t) := (Heap.get?_update_ne _ _ _ _ (Ne.symm hab)).trans hb
  have body : ∀ g : Unit → Sem (ForInStep PUnit), (∀ u, g u = pure (ForInStep.yield PUnit.unit)) → loc S 11 (do
      let _ ← holding [Value.str ⟨#[c]⟩ tok] (setAddHashed a (Value.str ⟨#[c]⟩ tok) i)
      each
      let r ← setState b
      if (r.2.1 != n) = true then do
        unsupported "set.changed-during-merge"
        pure (ForInStep.yield PUnit.unit)
      else pure (ForInStep.yield PUnit.unit) : Sem (ForInStep PUnit)) h tk = some (ForInStep.yield PUnit.unit, h.update a (fun _ => o'), tk) := by
    intro g hg
    rw [loc_bind_some ((loc_holding _ _ _ _).trans h2), loc_bind_some (hE _ _ hb'), loc_bind_some (loc_setState hb' fb)]
    have : (n != n) = false := by simp
    simp only [this, Bool.false_eq_true, if_false]
    rfl
  rw [← Array.forIn_toList]
  show loc S 11 ((forIn [((i, Value.str ⟨#[c]⟩ tok) : Ent)] PUnit.unit _) >>= fun _ => pure ()) h tk = _
  rw [List.forIn_cons]
  rw [loc_bind_some (a := PUnit.unit) (h' := h.update a fun _ => o') (t' := tk) ?_]
  · rfl
  · refine (loc_bind_some (body (fun _ => pure (ForInStep.yield PUnit.unit)) (fun _ => rfl))).trans ?_
    rfl
end

end
section
open PySem PySem.W PyProof.Rows PySem.Builtin.Frozenset
section
variable {S : Setting} {h : Heap} {tk : Nat} {a b : Addr}
theorem loc_unchanged {es : Array Ent} {n : Nat} {t : SetTable} (id : String) (e : h.get? b = some (setO es n t)) (f : Fit es t) : loc S 11 (unchanged id b n) h tk = some ((), h, tk) := by
  unfold unchanged
  rw [loc_bind_some (loc_setEpoch e f)]
  have : (n != n) = false := by simp
  simp only [this, Bool.false_eq_true, if_false]
  rfl
theorem loc_updateFrom {oa ob : Obj} {c : Nat} {tok : Tok} {cs : List (Nat × Tok)} {m : Nat} (id : String) (hn : 11 ≤ a) (hab : a ≠ b) (e : h.get? a = some oa) (hs : IsSSm cs m oa) (hne : cs ≠ []) (hl : cs.length < 4000) (hr : (cs.length + 1) * 5 < m * 3)
    (hcn : c ∉ cs.map (·.1)) (hb : h.get? b = some ob) (hsb : IsSS [(c, tok)] ob) : ∃ o', IsSS ((c, tok) :: cs) o' ∧ loc S 11 (updateFrom id a (.ref b)) h tk = some ((), h.update a (fun _ => o'), tk) := by
  refine X3_3 hsb ?_; clear hsb; intro es n t z0 f hc; subst z0
  refine X1_1 (single_of hc) ?_; intro i z0; subst z0
  refine X1_2 (loc_merge1 (S := S) (tk := tk) (unchanged id b n) hn hab e hs hne hl hr (c := c) (tok := tok) rfl hcn hb f (fun h' tk q => loc_unchanged id q f)) ?_; intro o' h1 h2
  refine ⟨o', h1, ?_⟩
  unfold updateFrom
  rw [loc_bind_some (loc_isAnySet hb)]
  simp only [if_true]
  show loc S 11 (merge id a b) h tk = _
  unfold merge
  rw [loc_bind_some (loc_setEpoch hb f)]
  exact h2
theorem or_eq (a b : Addr) : Builtin.«frozenset.__or__» ⟨[.ref a, .ref b], []⟩ = ((isAnySet (.ref a) <&&> isAnySet (.ref b)) >>= fun c => if (!c) = true then (do rule (s!"frozenset.{"__or__"}.declined"); ret .notImplemented) else ((copyOf a >>= fun result => (if (Value.ref b != .ref a) = true then (addrOf result >>= fun r => holding [result] (updateFrom (s!"frozenset.{"__or__"}") r (.ref b)) >>= fun _ => pure result) else pure result)) >>= fun v => ret v)) := by kernel_rfl!
theorem loc_or {oa ob : Obj} {c : Nat} {tok : Tok} {cs : List (Nat × Tok)} {m : Nat} (hsz : 11 ≤ h.objs.size) (hab : a ≠ b) (e : h.get? a = some oa) (hs : IsSS cs oa) (hne : cs ≠ []) (hl : cs.length < 4000) (hF : Full (m + 1)) (hm : cs.length ≤ m) (hmL : m < sizeLine)
    (hr : ∀ led, ((SetTable.fresh 0 0 led).roomFor cs.length = none ∧ (SetTable.fresh 0 0 led).mask = m) ∨ ∃ W, (SetTable.fresh 0 0 led).roomFor cs.length = some W ∧ SetTable.sizeAbove W = m + 1)
    (hr' : (cs.length + 1) * 5 < m * 3) (hcn : c ∉ cs.map (·.1)) (hb : h.get? b = some ob) (hsb : IsSS [(c, tok)] ob) :
    ∃ o', IsSS ((c, tok) :: cs) o' ∧ loc S 11 (Builtin.«frozenset.__or__» ⟨[.ref a, .ref b], []⟩) h tk = some (.done (.ret (.ref h.objs.size)), h.push o', tk) := by
  refine X1_2 (loc_copyOf (S := S) (tk := tk) hsz e hs hne hF hm hmL hr) ?_; intro o1 k1 k2
  have hlt := Heap.lt_size hb
  obtain ⟨o', q1, q2⟩ := loc_updateFrom (S := S) (tk := tk) (h := h.push o1) (a := h.objs.size) (b := b) "frozenset.__or__" hsz (Nat.ne_of_gt hlt) (get_push_size _ (by refine X3_2 k1 ?_; clear k1; intro _ _ _ z0 _; subst z0; rfl)) k1 hne hl hr' hcn (Heap.get?_push_of_some _ hb) hsb
  refine ⟨o', q1, ?_⟩
  refine X3_3 hs ?_; clear hs; intro es n t z0 f hc; subst z0
  refine X3_3 hsb ?_; clear hsb; intro es2 n2 t2 z0 f2 hc2; subst z0
  have hba : (Value.ref b != Value.ref a) = true := by
    rw [bne_iff_ne]; intro q; exact hab (by cases q; rfl)
  have e1 : loc S 11 (isAnySet (.ref a) <&&> isAnySet (.ref b)) h tk = some (true, h, tk) := by
    unfold andM
    rw [loc_bind_some (loc_isAnySet e)]
    exact loc_isAnySet hb
  rw [or_eq]
  rw [loc_bind_some e1]
  simp only [Bool.not_true, Bool.false_eq_true, if_false, hba, if_true]
  have e2 : loc S 11 (copyOf a >>= fun result => addrOf result >>= fun r => holding [result] (updateFrom (s!"frozenset.{"__or__"}") r (.ref b)) >>= fun _ => pure result) h tk = some (.ref h.objs.size, h.push o', tk) := by
    rw [loc_bind_some k2]
    have q3 : loc S 11 (holding [Value.ref h.objs.size] (updateFrom (s!"frozenset.{"__or__"}") h.objs.size (.ref b))) (h.push o1) tk = some ((), h.push o', tk) := by
      rw [loc_holding]
      have : (s!"frozenset.{"__or__"}") = "frozenset.__or__" := by decide
      rw [this]
      refine Eq.trans q2 ?_
      rw [push_put]
    refine (loc_bind_some q3).trans ?_
    rfl
  rw [loc_bind_some e2]
  rfl
end

end
section
open PySem PySem.W PyProof.Rows PySem.Builtin.Frozenset
variable {α β : Type}
theorem keep_bind (vs : List Value) (m : Sem α) (f : α → Sem β) : (m.bind f).keep vs = (m.keep vs).bind fun a => (f a).keep vs := by
  induction m with
  | pure a => rfl
  | raise e => rfl
  | unsupported w => rfl
  | finish e => rfl
  | await a t d l k ih => simp only [Sem.bind, Sem.keep]; congr 1; funext x; exact ih x
  | _ => simp_all [Sem.bind, Sem.keep]
noncomputable def kp : List (List Value) → Sem α → Sem α
  | [], m => m
  | vs :: L, m => kp L (m.keep vs)
theorem kp_bind : ∀ (L : List (List Value)) (m : Sem α) (f : α → Sem β), kp L (m.bind f) = (kp L m).bind fun a => kp L (f a)
  | [], _, _ => rfl
  | vs :: L, m, f => by
    show kp L ((m.bind f).keep vs) = _
    rw [keep_bind, kp_bind L]
    rfl
theorem kp_pure : ∀ (L : List (List Value)) (a : α), kp L (.pure a : Sem α) = .pure a
  | [], _ => rfl
  | _ :: L, a => kp_pure L a
theorem loc_kp {S : Setting} : ∀ (L : List (List Value)) (m : Sem α) (h : Heap) (t : Nat), loc S 11 (kp L m) h t = loc S 11 m h t
  | [], _, _, _ => rfl
  | vs :: L, m, h, t => (loc_kp L (m.keep vs) h t).trans (loc_keep vs m h t)
section
variable (w : World) (p : Program) (c : Code) (q : Pos) (B : List Frame)
noncomputable def Go (L : List (List Value)) (m : Sem α) (s : Shared) (a : α) (s' : Shared) : Prop := ∀ K : α → Sem Fin, Reach w p s ⟨(kp L m).bind K, c, q, B⟩ s' ⟨K a, c, q, B⟩
variable {w p c q B}
theorem Go.bind {L : List (List Value)} {m : Sem α} {f : α → Sem β} {s s' s'' : Shared} {a : α} {b : β} (h1 : Go w p c q B L m s a s') (h2 : Go w p c q B L (f a) s' b s'') : Go w p c q B L (m >>= f) s b s'' := by
  intro K
  show Reach w p s ⟨(kp L (m.bind f)).bind K, c, q, B⟩ s'' ⟨K b, c, q, B⟩
  rw [kp_bind, bind_assoc']
  exact (h1 _).trans (h2 K)
theorem Go.loc {L : List (List Value)} {m : Sem α} {h h' : Heap} {g : Array GenState} {d : Drawn} {t t' : Nat} {os : OsState} {a : α} (e : loc ⟨p, w.params⟩ 11 m h t = some (a, h', t')) : Go w p c q B L m ⟨h, g, d, t, os⟩ a ⟨h', g, d, t', os⟩ := by
  intro K
  exact reach_loc K (kp L m) h t ((loc_kp L m h t).trans e)
theorem Go.pure {L : List (List Value)} {s : Shared} (a : α) : Go w p c q B L (pure a) s a s := by
  intro K
  show Reach w p s ⟨(kp L (.pure a)).bind K, c, q, B⟩ s ⟨K a, c, q, B⟩
  rw [kp_pure]
  exact .refl _ _
theorem Go.holdRef {L : List (List Value)} {r : Addr} {m : Sem α} {s s' : Shared} {a : α} (h : Go w p c q B ([.ref r] :: L) m s a s') : Go w p c q B L (holding [.ref r] m) s a s' := h
theorem Go.holdStr {L : List (List Value)} {x : Str} {t : Tok} {m : Sem α} {s s' : Shared} {a : α} (h : Go w p c q B L m s a s') : Go w p c q B L (holding [.str x t] m) s a s' := h
theorem Go.congr {L : List (List Value)} {m m' : Sem α} {s s' : Shared} {a : α} (e : m = m') (h : Go w p c q B L m' s a s') : Go w p c q B L m s a s' := e ▸ h
theorem Go.seg {L : List (List Value)} {m : Sem α} {n : Nat} {s s' : SharedT} (res : α → Flow) (hres : ∀ x y, res x = res y → x = y) {a : α} (hB : splitAtGen B = none) (hl : 2 ≤ B.length)
    (h : segRunT treeTable p w 11 (some (.ref 6)) B.length n s ⟨(kp L m).wrap (fun a => .pure (.done (res a))) deadEnd id id, c, q, B⟩ = some (res a, s', c, q)) : Go w p c q B L m s.abs a s'.abs := by
  intro K
  refine X1_2 (seg_reach (K' := K) (H' := .raise) (gd := id) (lv := id) (res := res) hB hl n s.abs ⟨(kp L m).wrap (fun a => .pure (.done (res a))) deadEnd id id, c, q, B⟩ ⟨(kp L m).wrap K .raise id id, c, q, B⟩ _ _ _ _ ⟨rfl, rfl, .inl ⟨rfl, rfl, _, rfl, rfl⟩⟩ (segRun_of h)) ?_; intro a' ha hr
  obtain rfl := hres _ _ ha
  rw [Sem.bind_eq_wrap]
  exact hr
end

end
section
open PySem PySem.W PyProof.Rows PySem.Builtin.Frozenset
theorem sub_eq (a b : Addr) : Builtin.«frozenset.__sub__» ⟨[.ref a, .ref b], []⟩ = ((isAnySet (.ref a) <&&> isAnySet (.ref b)) >>= fun c => if (!c) = true then (do rule (s!"frozenset.{"__sub__"}.declined"); ret .notImplemented) else (difference (s!"frozenset.{"__sub__"}") a (.ref b) >>= fun v => ret v)) := by kernel_rfl!
theorem findIdx_some {es : Array Ent} {cs : List (Nat × Tok)} (hc : ChsL es.toList cs) (hnd : (cs.map (·.1)).Nodup) {c : Nat} {t : Tok} (hm : (c, t) ∈ cs) : ∃ i j, es.findIdx? (·.2.isStr ⟨#[c]⟩) = some i ∧ es[i]? = some (j, .str ⟨#[c]⟩ t) := by
  refine X1_2 (hc.has hm) ?_; intro e he h1
  cases hf : es.findIdx? (·.2.isStr ⟨#[c]⟩) with
  | none =>
    rw [Array.findIdx?_eq_none_iff] at hf
    have := hf e (Array.mem_toList_iff.mp he)
    rw [h1, isStr1] at this
    simp at this
  | some i =>
    obtain ⟨hi, hp, _⟩ := Array.findIdx?_eq_some_iff_getElem.mp hf
    refine X2_2 (hc.strs es[i] (by simp)) ?_; intro d t' h2 h3
    rw [h2, isStr1] at hp
    have hdc := of_decide_eq_true hp
    subst hdc
    have htt : t' = t := by
      have : ∀ (l : List (Nat × Tok)), (l.map (·.1)).Nodup → (d, t') ∈ l → (d, t) ∈ l → t' = t := by
        intro l
        induction l with
        | nil => intro _ h; cases h
        | cons x l ih =>
          intro hn ha hb
          rw [List.map_cons, List.nodup_cons] at hn
          refine mem_e ha (fun ha1 => ?_) fun ha1 => ?_
          · subst ha1
            refine mem_e hb (fun hb1 => ?_) fun hb1 => ?_
            · cases hb1; rfl
            · exact absurd (List.mem_map.mpr ⟨_, hb1, rfl⟩) hn.1
          · refine mem_e hb (fun hb1 => ?_) fun hb1 => ?_
            · subst hb1; exact absurd (List.mem_map.mpr ⟨_, ha1, rfl⟩) hn.1
            · exact ih hn.2 ha1 hb1
      exact this cs hnd h3 hm
    subst htt
    exact (Y2 i (es[i].1) ⟨rfl, by rw [Array.getElem?_eq_getElem hi, ← h2]⟩)
section
variable {w : World} {p : Program} {c : Code} {q : Pos} {B : List Frame} {L : List (List Value)} {h : Heap} {g : Array GenState} {dr : Drawn} {tk : Nat} {os : OsState} {a b : Addr}
noncomputable def EqOk (w : World) (p : Program) (c : Code) (q : Pos) (B : List Frame) (L : List (List Value)) (y x : Value) (s : Shared) : Prop := Go w p c q B L (eqBool y x) s true s
theorem go_find {es : Array Ent} {n : Nat} {t : SetTable} {cs : List (Nat × Tok)} (e : h.get? a = some (setO es n t)) (f : Fit es t) (hc : ChsL es.toList cs) (hnd : (cs.map (·.1)).Nodup) (hl : cs.length < 4000) {k : Nat} {tok tok' : Tok} (hm : (k, tok) ∈ cs) (j : Int)
    (hE : EqOk w p c q B L (.str ⟨#[k]⟩ tok) (.str ⟨#[k]⟩ tok') ⟨h, g, dr, tk, os⟩) :
    ∃ i j', es[i]? = some (j', Value.str ⟨#[k]⟩ tok) ∧ Go w p c q B L (setFind a (.str ⟨#[k]⟩ tok') j) ⟨h, g, dr, tk, os⟩ (some i) ⟨h, g, dr, tk, os⟩ := by
  refine X2_2 (findIdx_some hc hnd hm) ?_; intro i j' hf hi
  refine (Y2 i j' ⟨hi, ?_⟩)
  unfold setFind
  show Go w p c q B L (setFindIn a _ j (99999 + 1)) _ _ _
  unfold setFindIn
  refine Go.bind (Go.loc (loc_setState e f)) ?_
  simp only [byScan_of hc (by exact Nat.lt_trans hl (by decide) : cs.length < 4096), if_true]
  refine Go.bind (Go.loc (loc_rule _ _ _)) ?_
  have sc : Go w p c q B L (setScan a (.str ⟨#[k]⟩ tok') j false es) ⟨h, g, dr, tk, os⟩ (.found i) ⟨h, g, dr, tk, os⟩ := by
    unfold setScan
    simp only [allStr_of hc, if_true]
    unfold setScanStrs
    simp only [hf, hi]
    refine Go.bind (Go.loc (loc_setEpoch e f)) ?_
    refine Go.bind hE ?_
    simp only [Bool.false_and, Bool.false_eq_true, if_false]
    refine Go.bind (Go.loc (loc_setEpoch e f)) ?_
    have : (n != n) = false := by simp
    simp only [this, Bool.false_eq_true, if_false, if_true]
    exact Go.pure _
  refine Go.bind sc ?_
  exact Go.pure _
theorem drop_fit {es : Array Ent} {t : SetTable} {i : Nat} (hi : i < es.size) (f : Fit es t) : Fit (SetTable.eraseAt es i) (t.drop i) ∧ (t.drop i).mask = t.mask ∧ (t.drop i).dummies.size = t.dummies.size + 1 := by
  refine X0_2 f ?_; clear f; intro f1 f2
  have hp : i < t.place.size := by exact f1 ▸ hi
  unfold SetTable.drop
  rw [Array.getElem?_eq_getElem hp]
  have h1 := eraseAt_size t.place i hp
  have h2 := eraseAt_size es i hi
  refine ⟨⟨?_, ?_⟩, rfl, insertAt_size _ _ _⟩
  · show (SetTable.eraseAt t.place i).size = _
    lia
  · unfold SetTable.fill at f2 ⊢
    show (SetTable.eraseAt t.place i).size + (SetTable.insertAt t.dummies _ _).size ≤ t.mask
    rw [insertAt_size]
    lia
theorem ChsL.erase {es : Array Ent} {cs : List (Nat × Tok)} (hc : ChsL es.toList cs) {i : Nat} {j : Int} {k : Nat} {tok : Tok} (hi : es[i]? = some (j, .str ⟨#[k]⟩ tok)) : ChsL (SetTable.eraseAt es i).toList (cs.erase (k, tok)) := by
  have p1 := eraseAt_perm es i _ hi
  refine X1_2 (hc.perm p1.symm) ?_; intro ks h1 h2
  cases ks with
  | nil => cases h1
  | cons x ks =>
    simp only [List.map_cons, List.cons.injEq] at h1
    refine ⟨ks, h1.2, ?_⟩
    have e : x.2 = (k, tok) := by
      have := h1.1
      simp only [Prod.mk.injEq, Value.str.injEq, Str.mk.injEq] at this
      refine X0_3 this ?_; clear this; intro _ h3 h4
      obtain ⟨a1, a2, a3⟩ := x
      simp at h3 h4
      simp [h3, h4]
    have := h2.erase (k, tok)
    rw [List.map_cons, e, List.erase_cons_head] at this
    exact this
theorem go_discard {o : Obj} {cs : List (Nat × Tok)} {m : Nat} (hn : 11 ≤ a) (e : h.get? a = some o) (hs : IsSSm cs m o) (hnd : (cs.map (·.1)).Nodup) (hl : cs.length < 4000) {k : Nat} {tok tok' : Tok} (hm : (k, tok) ∈ cs) (j : Int)
    (hE : EqOk w p c q B L (.str ⟨#[k]⟩ tok) (.str ⟨#[k]⟩ tok') ⟨h, g, dr, tk, os⟩) :
    ∃ es n t, IsSS (cs.erase (k, tok)) (setO es n t) ∧ Fit es t ∧ t.mask = m ∧ t.dummies.size = 1 ∧ Go w p c q B L (setDiscardHashed a (.str ⟨#[k]⟩ tok') j) ⟨h, g, dr, tk, os⟩ true ⟨h.update a (fun _ => setO es n t), g, dr, tk, os⟩ := by
  refine X3_5 hs ?_; clear hs; intro es n t z0 f hc hmask hd; subst z0
  refine X2_2 (go_find (w := w) (p := p) (c := c) (q := q) (B := B) (L := L) (g := g) (dr := dr) (tk := tk) (os := os) e f hc hnd hl hm j hE) ?_; intro i j' hi hf
  have hilt : i < es.size := by
    rcases Nat.lt_or_ge i es.size with q | q
    · exact q
    · rw [Array.getElem?_eq_none q] at hi; cases hi
  refine X0_3 (drop_fit hilt f) ?_; intro f' m' d'
  refine (Y3 (SetTable.eraseAt es i) (n + 1) (t.drop i) ⟨(Y3 _ _ _ ⟨rfl, f', hc.erase hi⟩), f', m'.trans hmask, by rw [d', hd]; rfl, ?_⟩)
  unfold setDiscardHashed
  refine Go.bind hf ?_
  dsimp only
  refine Go.bind (Go.loc (loc_setState e f)) ?_
  have hL : 4096 ≤ sizeLine := by decide
  have hsz := hc.size
  have h2 := eraseAt_size es i hilt
  refine Go.bind (Go.loc (loc_storeSet hn e (by show (SetTable.eraseAt es i).size ≤ sizeLine; lia))) ?_
  refine Go.bind (Go.loc (loc_point _ _)) ?_
  exact Go.pure _
theorem loc_sizeOf {S : Setting} {es : Array Ent} {n : Nat} {t : SetTable} (e : h.get? a = some (setO es n t)) (f : Fit es t) : loc S 11 (sizeOf a) h tk = some (es.size, h, tk) := by
  unfold Builtin.Frozenset.sizeOf setEntries
  rw [loc_bind_some (show loc S 11 (do return (← setState a).1 : Sem (Array Ent)) h tk = some (es, h, tk) from by rw [loc_bind_some (loc_setState e f)]; rfl)]
  rfl
theorem go_diffUpdate {oa ob : Obj} {cs : List (Nat × Tok)} {m : Nat} {k : Nat} {tok tok' : Tok} (id : String) (hn : 11 ≤ a) (hab : a ≠ b) (e : h.get? a = some oa) (hs : IsSSm cs m oa) (hnd : (cs.map (·.1)).Nodup) (hl : cs.length < 4000) (hm : (k, tok) ∈ cs) (hmask : 8 ≤ m)
    (hb : h.get? b = some ob) (hsb : IsSS [(k, tok')] ob) (hE : EqOk w p c q B ([.ref b] :: L) (.str ⟨#[k]⟩ tok) (.str ⟨#[k]⟩ tok') ⟨h, g, dr, tk, os⟩) :
    ∃ o', IsSS (cs.erase (k, tok)) o' ∧ Go w p c q B L (differenceUpdate id a (.ref b)) ⟨h, g, dr, tk, os⟩ () ⟨h.update a (fun _ => o'), g, dr, tk, os⟩ := by
  refine X3_3 hsb ?_; clear hsb; intro eb nb tb z0 fb hcb; subst z0
  refine X1_1 (single_of hcb) ?_; intro j z0; subst z0
  refine X3_5 (go_discard (w := w) (p := p) (c := c) (q := q) (B := B) (L := [.ref b] :: L) (g := g) (dr := dr) (tk := tk) (os := os) hn e hs hnd hl hm j hE) ?_; intro es n t h1 h2 h3 h4 h5
  refine ⟨_, h1, ?_⟩
  have hs2 := hs
  refine X3_5 hs2 ?_; clear hs2; intro ea na ta z0 fa hca _ _; subst z0
  have hb' : (h.update a fun _ => setO es n t).get? b = some (setO #[(j, Value.str ⟨#[k]⟩ tok')] nb tb) := (Heap.get?_update_ne _ _ _ _ (Ne.symm hab)).trans hb
  unfold differenceUpdate
  have c1 : (Value.ref b == Value.ref a) = false := by
    rw [beq_eq_false_iff_ne]; intro q; exact hab (by cases q; rfl)
  simp only [c1, Bool.false_eq_true, if_false]
  refine Go.bind (Go.loc (loc_isAnySet hb)) ?_
  simp only [if_true]
  refine Go.bind (Go.pure b) ?_
  refine Go.bind (Go.loc (loc_sizeOf hb fb)) ?_
  refine Go.bind (Go.loc (loc_sizeOf e fa)) ?_
  have c2 : ¬ (#[((j, Value.str ⟨#[k]⟩ tok') : Ent)]).size / 8 > ea.size := by show ¬ 1 / 8 > ea.size; lia
  simp only [c2, if_false]
  refine Go.bind (Go.loc (loc_setEpoch hb fb)) ?_
  refine Go.bind (a := ()) (s' := ⟨h.update a (fun _ => setO es n t), g, dr, tk, os⟩) (Go.holdRef ?_) ?_
  · refine Go.bind (Go.loc (loc_walkUnseen1 hb fb _ _)) ?_
    rw [← Array.forIn_toList]
    show Go w p c q B ([.ref b] :: L) ((forIn [((j, Value.str ⟨#[k]⟩ tok') : Ent)] PUnit.unit _) >>= fun _ => pure ()) _ _ _
    rw [List.forIn_cons]
    refine Go.bind (a := PUnit.unit) (s' := ⟨h.update a (fun _ => setO es n t), g, dr, tk, os⟩) ?_ (Go.pure _)
    refine Go.bind (a := ForInStep.yield PUnit.unit) (s' := ⟨h.update a (fun _ => setO es n t), g, dr, tk, os⟩) ?_ ?_
    · refine Go.bind (Go.holdStr h5) ?_
      refine Go.bind (Go.loc (loc_unchanged id hb' fb)) ?_
      exact Go.pure _
    · exact Go.pure _
  · have ea' := get_put (o' := setO es n t) e rfl
    unfold setTidy
    refine Go.bind (Go.loc (loc_setState ea' h2)) ?_
    have c3 : t.tooManyDummies = false := by
      unfold SetTable.tooManyDummies
      rw [h3, h4]
      simp
      lia
    simp only [c3, Bool.false_eq_true, if_false]
    exact Go.pure _
theorem go_difference {oa ob : Obj} {cs : List (Nat × Tok)} {m : Nat} {k : Nat} {tok tok' : Tok} (id : String) (hsz : 11 ≤ h.objs.size) (e : h.get? a = some oa) (hs : IsSS cs oa) (hnd : (cs.map (·.1)).Nodup) (hl : cs.length < 4000) (hl8 : 8 ≤ cs.length) (hm : (k, tok) ∈ cs) (hmask : 8 ≤ m)
    (hF : Full (m + 1)) (hmc : cs.length ≤ m) (hmL : m < sizeLine)
    (hr : ∀ led, ((SetTable.fresh 0 0 led).roomFor cs.length = none ∧ (SetTable.fresh 0 0 led).mask = m) ∨ ∃ W, (SetTable.fresh 0 0 led).roomFor cs.length = some W ∧ SetTable.sizeAbove W = m + 1)
    (hb : h.get? b = some ob) (hsb : IsSS [(k, tok')] ob)
    (hE : ∀ o1, EqOk w p c q B ([.ref b] :: [.ref h.objs.size] :: L) (.str ⟨#[k]⟩ tok) (.str ⟨#[k]⟩ tok') ⟨h.push o1, g, dr, tk, os⟩) :
    ∃ o', IsSS (cs.erase (k, tok)) o' ∧ Go w p c q B L (difference id a (.ref b)) ⟨h, g, dr, tk, os⟩ (.ref h.objs.size) ⟨h.push o', g, dr, tk, os⟩ := by
  have hne : cs ≠ [] := by intro q; rw [q] at hl8; simp at hl8
  refine X1_2 (loc_copyOf (S := ⟨p, w.params⟩) (tk := tk) hsz e hs hne hF hmc hmL hr) ?_; intro o1 k1 k2
  have hlt := Heap.lt_size hb
  obtain ⟨o', q1, q2⟩ := go_diffUpdate (w := w) (p := p) (c := c) (q := q) (B := B) (L := [.ref h.objs.size] :: L) (g := g) (dr := dr) (tk := tk) (os := os) (h := h.push o1) (a := h.objs.size) (b := b) id hsz (Nat.ne_of_gt hlt) (get_push_size _ (by refine X3_2 k1 ?_; clear k1; intro _ _ _ z0 _; subst z0; rfl)) k1 hnd hl hm hmask (Heap.get?_push_of_some _ hb) hsb (hE o1)
  rw [push_put] at q2
  refine ⟨o', q1, ?_⟩
  refine X3_3 hs ?_; clear hs; intro ea na ta z0 fa hca; subst z0
  refine X3_3 hsb ?_; clear hsb; intro eb nb tb z0 fb hcb; subst z0
  have hsa := hca.size
  have hsb := hcb.size
  unfold difference
  refine Go.bind (Go.loc (loc_isAnySet hb)) ?_
  simp only [Bool.not_true, Bool.false_eq_true, if_false, Bool.false_and, if_true]
  refine Go.bind (Go.pure b) ?_
  refine Go.bind (Go.loc (loc_sizeOf hb fb)) ?_
  refine Go.bind (Go.loc (loc_sizeOf e fa)) ?_
  have c2 : ea.size / 4 > eb.size := by rw [hsa, hsb]; show cs.length / 4 > 1; lia
  simp only [c2, if_true]
  refine Go.bind (Go.loc (loc_rule _ _ _)) ?_
  refine Go.bind (Go.loc k2) ?_
  refine Go.bind (Go.pure h.objs.size) ?_
  refine Go.bind (Go.holdRef q2) ?_
  exact Go.pure _
theorem go_sub {oa ob : Obj} {cs : List (Nat × Tok)} {m : Nat} {k : Nat} {tok tok' : Tok} (hsz : 11 ≤ h.objs.size) (e : h.get? a = some oa) (hs : IsSS cs oa) (hnd : (cs.map (·.1)).Nodup) (hl : cs.length < 4000) (hl8 : 8 ≤ cs.length) (hm : (k, tok) ∈ cs) (hmask : 8 ≤ m)
    (hF : Full (m + 1)) (hmc : cs.length ≤ m) (hmL : m < sizeLine)
    (hr : ∀ led, ((SetTable.fresh 0 0 led).roomFor cs.length = none ∧ (SetTable.fresh 0 0 led).mask = m) ∨ ∃ W, (SetTable.fresh 0 0 led).roomFor cs.length = some W ∧ SetTable.sizeAbove W = m + 1)
    (hb : h.get? b = some ob) (hsb : IsSS [(k, tok')] ob)
    (hE : ∀ o1, EqOk w p c q B ([.ref b] :: [.ref h.objs.size] :: L) (.str ⟨#[k]⟩ tok) (.str ⟨#[k]⟩ tok') ⟨h.push o1, g, dr, tk, os⟩) :
    ∃ o', IsSS (cs.erase (k, tok)) o' ∧ Go w p c q B L (Builtin.«frozenset.__sub__» ⟨[.ref a, .ref b], []⟩) ⟨h, g, dr, tk, os⟩ (.done (.ret (.ref h.objs.size))) ⟨h.push o', g, dr, tk, os⟩ := by
  refine X1_2 (go_difference (w := w) (p := p) (c := c) (q := q) (B := B) (L := L) (g := g) (dr := dr) (tk := tk) (os := os) (s!"frozenset.{"__sub__"}") hsz e hs hnd hl hl8 hm hmask hF hmc hmL hr hb hsb hE) ?_; intro o' q1 q2
  refine ⟨o', q1, ?_⟩
  rw [sub_eq]
  refine X3_3 hs ?_; clear hs; intro ea na ta z0 fa hca; subst z0
  refine X3_3 hsb ?_; clear hsb; intro eb nb tb z0 fb hcb; subst z0
  have e1 : loc ⟨p, w.params⟩ 11 (isAnySet (.ref a) <&&> isAnySet (.ref b)) h tk = some (true, h, tk) := by
    unfold andM
    rw [loc_bind_some (loc_isAnySet e)]
    exact loc_isAnySet hb
  refine Go.bind (Go.loc e1) ?_
  simp only [Bool.not_true, Bool.false_eq_true, if_false]
  exact Go.bind q2 (Go.pure _)
end

end
section
open PySem PySem.W PyProof.Rows
noncomputable section
noncomputable abbrev prg : Program := PySem.Challenge.pw_pd0097_01
noncomputable def bodyL : List Stmt := prg.main.body
noncomputable def asDef : Option Stmt → Arguments × List Stmt × Scope
  | some (.FunctionDef _ a b _ _ _ sc _ _ _) => (a, b, sc)
  | _ => default
noncomputable def dfn (i : Nat) : Arguments × List Stmt × Scope := asDef bodyL[i]?
noncomputable def clsBody : Option Stmt → List Stmt
  | some (.ClassDef _ _ _ b _ _ _ _ _ _ _) => b
  | _ => []
noncomputable def dfm (i j : Nat) : Arguments × List Stmt × Scope := asDef (clsBody bodyL[i]?)[j]?
structure Sets where
  s64 : Obj
  s69 : Obj
  s73 : Obj
  s74 : Obj
  s78 : Obj
  s79 : Obj
  s83 : Obj
  s87 : Obj
  s88 : Obj
noncomputable def mkT (i : Nat) (t : BT) : List Obj → BT
  | [] => t
  | o :: r => mkT (i + 1) (t.ins i o) r
noncomputable def mEnts (P : Params) : List DictEntry := [⟨PyData.keyHash P (Str.ofString "__doc__"), (.str (Str.ofString "__doc__") 166), .none⟩,
  ⟨PyData.keyHash P (Str.ofString "__package__"), (.str (Str.ofString "__package__") 167), .none⟩,
  ⟨PyData.keyHash P (Str.ofString "__loader__"), (.str (Str.ofString "__loader__") 168), (.builtin "__main__.__loader__#opaque")⟩,
  ⟨PyData.keyHash P (Str.ofString "__spec__"), (.str (Str.ofString "__spec__") 169), .none⟩,
  ⟨PyData.keyHash P (Str.ofString "__annotations__"), (.str (Str.ofString "__annotations__") 170), (.ref 6)⟩,
  ⟨PyData.keyHash P (Str.ofString "__builtins__"), (.str (Str.ofString "__builtins__") 171), (.ref 4)⟩,
  ⟨PyData.keyHash P (Str.ofString "__file__"), (.str (Str.ofString "__file__") 173), (.str (Str.ofString "/claim/cut.py") 172)⟩,
  ⟨PyData.keyHash P (Str.ofString "__cached__"), (.str (Str.ofString "__cached__") 174), .none⟩,
  ⟨PyData.keyHash P (Str.ofString "Entry"), (.str (Str.ofString "Entry") 250), (.ref 52)⟩,
  ⟨PyData.keyHash P (Str.ofString "ASCII_CTRL"), (.str (Str.ofString "ASCII_CTRL") 396), (.ref 73)⟩,
  ⟨PyData.keyHash P (Str.ofString "ILLEGAL_BASIC_STR_CHARS"), (.str (Str.ofString "ILLEGAL_BASIC_STR_CHARS") 400), (.ref 78)⟩,
  ⟨PyData.keyHash P (Str.ofString "ILLEGAL_LITERAL_STR_CHARS"), (.str (Str.ofString "ILLEGAL_LITERAL_STR_CHARS") 401), (.ref 78)⟩,
  ⟨PyData.keyHash P (Str.ofString "ILLEGAL_COMMENT_CHARS"), (.str (Str.ofString "ILLEGAL_COMMENT_CHARS") 402), (.ref 78)⟩,
  ⟨PyData.keyHash P (Str.ofString "TOML_WS"), (.str (Str.ofString "TOML_WS") 408), (.ref 79)⟩,
  ⟨PyData.keyHash P (Str.ofString "TOML_WS_AND_NEWLINE"), (.str (Str.ofString "TOML_WS_AND_NEWLINE") 412), (.ref 87)⟩,
  ⟨PyData.keyHash P (Str.ofString "digits"), (.str (Str.ofString "digits") 414), (.str (Str.ofString "0123456789") 413)⟩,
  ⟨PyData.keyHash P (Str.ofString "hexdigits"), (.str (Str.ofString "hexdigits") 419), (.str (Str.ofString "0123456789abcdefABCDEF") 418)⟩,
  ⟨PyData.keyHash P (Str.ofString "HEXDIGIT_CHARS"), (.str (Str.ofString "HEXDIGIT_CHARS") 464), (.ref 88)⟩,
  ⟨PyData.keyHash P (Str.ofString "TOMLDecodeError"), (.str (Str.ofString "TOMLDecodeError") 482), (.ref 101)⟩,
  ⟨PyData.keyHash P (Str.ofString "skip_chars"), (.str (Str.ofString "skip_chars") 491), (.ref 111)⟩,
  ⟨PyData.keyHash P (Str.ofString "skip_until"), (.str (Str.ofString "skip_until") 503), (.ref 118)⟩,
  ⟨PyData.keyHash P (Str.ofString "skip_comment"), (.str (Str.ofString "skip_comment") 512), (.ref 125)⟩,
  ⟨PyData.keyHash P (Str.ofString "skip_comments_and_array_ws"), (.str (Str.ofString "skip_comments_and_array_ws") 521), (.ref 132)⟩,
  ⟨PyData.keyHash P (Str.ofString "parse_hex_char"), (.str (Str.ofString "parse_hex_char") 532), (.ref 139)⟩,
  ⟨PyData.keyHash P (Str.ofString "parse_literal_str"), (.str (Str.ofString "parse_literal_str") 541), (.ref 146)⟩,
  ⟨PyData.keyHash P (Str.ofString "suffixed_err"), (.str (Str.ofString "suffixed_err") 551), (.ref 153)⟩,
  ⟨PyData.keyHash P (Str.ofString "is_unicode_scalar_value"), (.str (Str.ofString "is_unicode_scalar_value") 558), (.ref 160)⟩,
  ⟨PyData.keyHash P (Str.ofString "_law_cells"), (.str (Str.ofString "_law_cells") 569), (.ref 167)⟩,
  ⟨PyData.keyHash P (Str.ofString "_law_text"), (.str (Str.ofString "_law_text") 575), (.ref 172)⟩,
  ⟨PyData.keyHash P (Str.ofString "_law_order"), (.str (Str.ofString "_law_order") 584), (.ref 179)⟩,
  ⟨PyData.keyHash P (Str.ofString "_law_verdicts"), (.str (Str.ofString "_law_verdicts") 596), (.ref 186)⟩,
  ⟨PyData.keyHash P (Str.ofString "_law_read"), (.str (Str.ofString "_law_read") 604), (.ref 193)⟩,
  ⟨PyData.keyHash P (Str.ofString "_law_size"), (.str (Str.ofString "_law_size") 611), (.ref 200)⟩,
  ⟨PyData.keyHash P (Str.ofString "_law_rule"), (.str (Str.ofString "_law_rule") 624), (.ref 207)⟩,
  ⟨PyData.keyHash P (Str.ofString "_law_record"), (.str (Str.ofString "_law_record") 633), (.ref 214)⟩,
  ⟨PyData.keyHash P (Str.ofString "_law_tokens"), (.str (Str.ofString "_law_tokens") 639), (.ref 219)⟩,
  ⟨PyData.keyHash P (Str.ofString "_law_fault"), (.str (Str.ofString "_law_fault") 650), (.ref 226)⟩,
  ⟨PyData.keyHash P (Str.ofString "_law_gap"), (.str (Str.ofString "_law_gap") 663), (.ref 233)⟩,
  ⟨PyData.keyHash P (Str.ofString "_law_four"), (.str (Str.ofString "_law_four") 669), (.ref 238)⟩,
  ⟨PyData.keyHash P (Str.ofString "_law_told"), (.str (Str.ofString "_law_told") 679), (.ref 245)⟩,
  ⟨PyData.keyHash P (Str.ofString "_law_due"), (.str (Str.ofString "_law_due") 685), (.ref 250)⟩,
  ⟨PyData.keyHash P (Str.ofString "law"), (.str (Str.ofString "law") 691), (.ref 255)⟩]
noncomputable def nameE (P : Params) (v : Value) : DictEntry := ⟨PyData.keyHash P (Str.ofString "__name__"), (.str (Str.ofString "__name__") 165), v⟩
noncomputable def mainO (P : Params) (v : Value) (n e : Nat) : Obj := ⟨(.type "dict"), none, (.dict (nameE P v :: (mEnts P).take n).toArray e), #[]⟩
noncomputable def tabL : List Value := [(.int (2) 0), (.int (0) 0), (.ref 20), (.int (51) 0), (.int (23) 0), (.ref 61), (.int (60) 0), (.int (0) 0), (.ref 97), (.int (62) 0), (.int (0) 0), (.ref 110), (.int (69) 0), (.int (0) 0), (.ref 117), (.int (81) 0), (.int (0) 0), (.ref 124), (.int (89) 0), (.int (0) 0), (.ref 131), (.int (96) 0), (.int (0) 0), (.ref 138), (.int (105) 0), (.int (0) 0), (.ref 145), (.int (110) 0), (.int (0) 0), (.ref 152), (.int (122) 0), (.int (0) 0), (.ref 159), (.int (125) 0), (.int (0) 0), (.ref 166), (.int (130) 0), (.int (0) 0), (.ref 171), (.int (133) 0), (.int (0) 0), (.ref 178), (.int (137) 0), (.int (0) 0), (.ref 185), (.int (144) 0), (.int (0) 0), (.ref 192), (.int (156) 0), (.int (0) 0), (.ref 199), (.int (160) 0), (.int (0) 0), (.ref 206), (.int (175) 0), (.int (0) 0), (.ref 213), (.int (180) 0), (.int (0) 0), (.ref 218), (.int (189) 0), (.int (0) 0), (.ref 225), (.int (195) 0), (.int (0) 0), (.ref 232), (.int (208) 0), (.int (0) 0), (.ref 237), (.int (218) 0), (.int (0) 0), (.ref 244), (.int (236) 0), (.int (0) 0), (.ref 249), (.int (250) 0), (.int (0) 0), (.ref 254)]
noncomputable def tabO (n : Nat) : Obj := ⟨.none, none, (.fields (tabL.take n).toArray), #[]⟩
noncomputable def o11 (P : Params) : Obj := ⟨(.type "tuple"), none, (.seq #[] 0), #[]⟩
noncomputable def o13 (P : Params) : Obj := ⟨(.type "code"), none, (.fields #[(.str (Str.ofString "<module>") 182), (.str (Str.ofString "<module>") 183), (.str (Str.ofString "/claim/cut.py") 184), (.int (1) 0), (.int (0) 0), (.int (0) 0), (.int (0) 0), (.int (0) 0), (.ref 11), (.bool false), (.int (181) 0), (.ref 12), .none, .none, .none, .none, (.int (185) 0), (.int (1) 0), (.str (Str.ofString "/claim/cut.py") 186)]), #[]⟩
noncomputable def o14 (P : Params) : Obj := ⟨(.type "frame"), none, .plain, #[some (.ref 13), some (.ref 3), some (.ref 3), none, some (.str (Str.ofString "__main__") 164), none, some (.ref 0)]⟩
noncomputable def o15 (P : Params) : Obj := ⟨(.type "tuple"), none, (.seq #[] 0), #[]⟩
noncomputable def o16 (P : Params) : Obj := ⟨(.type "builtin_function_or_method"), none, (.fields #[(.builtin "type.__prepare__"), (.type "type")]), #[]⟩
noncomputable def o17 (P : Params) : Obj := ⟨(.type "dict"), none, (.dict #[⟨PyData.keyHash P (Str.ofString "__module__"), (.str (Str.ofString "__module__") 196), (.str (Str.ofString "cpy313.urllib.robotparser") 187)⟩, ⟨PyData.keyHash P (Str.ofString "__qualname__"), (.str (Str.ofString "__qualname__") 198), (.str (Str.ofString "Entry") 197)⟩, ⟨PyData.keyHash P (Str.ofString "__firstlineno__"), (.str (Str.ofString "__firstlineno__") 200), (.int (2) 199)⟩, ⟨PyData.keyHash P (Str.ofString "__init__"), (.str (Str.ofString "__init__") 207), (.ref 28)⟩, ⟨PyData.keyHash P (Str.ofString "__str__"), (.str (Str.ofString "__str__") 217), (.ref 35)⟩, ⟨PyData.keyHash P (Str.ofString "applies_to"), (.str (Str.ofString "applies_to") 226), (.ref 42)⟩, ⟨PyData.keyHash P (Str.ofString "allowance"), (.str (Str.ofString "allowance") 238), (.ref 49)⟩, ⟨PyData.keyHash P (Str.ofString "__static_attributes__"), (.str (Str.ofString "__static_attributes__") 243), (.ref 50)⟩] 8), #[]⟩
noncomputable def o18 (P : Params) : Obj := ⟨(.type "tuple"), none, (.seq #[] 0), #[]⟩
noncomputable def o19 (P : Params) : Obj := ⟨.none, none, (.fields #[(.int (4) 0), (.int (4) 0), (.ref 27), (.int (10) 0), (.int (4) 0), (.ref 34), (.int (27) 0), (.int (4) 0), (.ref 41), (.int (38) 0), (.int (4) 0), (.ref 48)]), #[]⟩
noncomputable def o20 (P : Params) : Obj := ⟨(.type "code"), none, (.fields #[(.str (Str.ofString "Entry") 191), (.str (Str.ofString "Entry") 192), (.str (Str.ofString "/claim/cut.py") 193), (.int (2) 0), (.int (0) 0), (.int (0) 0), (.int (0) 0), (.int (0) 0), (.ref 18), (.bool false), (.int (181) 0), (.ref 19), .none, .none, .none, .none, (.int (194) 0), (.int (2) 0), (.str (Str.ofString "/claim/cut.py") 195)]), #[]⟩
noncomputable def o21 (P : Params) : Obj := ⟨(.type "frame"), none, .plain, #[some (.ref 20), some (.ref 3), some (.ref 17), none, some (.str (Str.ofString "cpy313.urllib.robotparser") 187), none, some (.ref 0)]⟩
noncomputable def o22 (P : Params) : Obj := ⟨(.type "tuple"), none, (.seq #[] 0), #[]⟩
noncomputable def o23 (P : Params) : Obj := ⟨.none, none, (.fields #[]), #[]⟩
noncomputable def o24 (P : Params) : Obj := ⟨(.type "tuple"), none, (.seq #[(.str (Str.ofString "self") 204)] 0), #[]⟩
noncomputable def o25 (P : Params) : Obj := ⟨(.type "tuple"), none, (.seq #[] 0), #[]⟩
noncomputable def o26 (P : Params) : Obj := ⟨.none, none, (.func { name := (Str.ofString "__init__"), qualname := (Str.ofString "Entry.__init__"), params := (dfm 1 0).1, body := .stmts (dfm 1 0).2.1, scope := (dfm 1 0).2.2, globals := 0, closure := [], defaults := .none, kwdefaults := .none, doc := .none, pyModule := .none, annotations := none, code := .none, closureTuple := .none, builtins := 0 }), #[]⟩
noncomputable def o27 (P : Params) : Obj := ⟨(.type "code"), none, (.fields #[(.str (Str.ofString "__init__") 201), (.str (Str.ofString "Entry.__init__") 202), (.str (Str.ofString "/claim/cut.py") 203), (.int (4) 0), (.int (1) 0), (.int (0) 0), (.int (0) 0), (.int (3) 0), (.ref 22), (.bool true), (.int (181) 0), (.ref 23), .none, (.ref 24), (.ref 25), (.ref 26), (.int (205) 0), (.int (4) 0), (.str (Str.ofString "/claim/cut.py") 206)]), #[]⟩
noncomputable def o28 (P : Params) : Obj := ⟨(.type "function"), none, (.func { name := (Str.ofString "__init__"), qualname := (Str.ofString "Entry.__init__"), params := (dfm 1 0).1, body := .stmts (dfm 1 0).2.1, scope := (dfm 1 0).2.2, globals := 3, closure := [], defaults := .none, kwdefaults := .none, doc := .none, pyModule := (.str (Str.ofString "cpy313.urllib.robotparser") 187), annotations := none, code := (.ref 27), closureTuple := .none, builtins := 0 }), #[]⟩
noncomputable def o29 (P : Params) : Obj := ⟨(.type "tuple"), none, (.seq #[] 0), #[]⟩
noncomputable def o30 (P : Params) : Obj := ⟨.none, none, (.fields #[]), #[]⟩
noncomputable def o31 (P : Params) : Obj := ⟨(.type "tuple"), none, (.seq #[(.str (Str.ofString "self") 211), (.str (Str.ofString "ret") 212), (.str (Str.ofString "agent") 213), (.str (Str.ofString "rate") 214)] 0), #[]⟩
noncomputable def o32 (P : Params) : Obj := ⟨(.type "tuple"), none, (.seq #[] 0), #[]⟩
noncomputable def o33 (P : Params) : Obj := ⟨.none, none, (.func { name := (Str.ofString "__str__"), qualname := (Str.ofString "Entry.__str__"), params := (dfm 1 1).1, body := .stmts (dfm 1 1).2.1, scope := (dfm 1 1).2.2, globals := 0, closure := [], defaults := .none, kwdefaults := .none, doc := .none, pyModule := .none, annotations := none, code := .none, closureTuple := .none, builtins := 0 }), #[]⟩
noncomputable def o34 (P : Params) : Obj := ⟨(.type "code"), none, (.fields #[(.str (Str.ofString "__str__") 208), (.str (Str.ofString "Entry.__str__") 209), (.str (Str.ofString "/claim/cut.py") 210), (.int (10) 0), (.int (1) 0), (.int (0) 0), (.int (0) 0), (.int (3) 0), (.ref 29), (.bool true), (.int (181) 0), (.ref 30), .none, (.ref 31), (.ref 32), (.ref 33), (.int (215) 0), (.int (10) 0), (.str (Str.ofString "/claim/cut.py") 216)]), #[]⟩
noncomputable def o35 (P : Params) : Obj := ⟨(.type "function"), none, (.func { name := (Str.ofString "__str__"), qualname := (Str.ofString "Entry.__str__"), params := (dfm 1 1).1, body := .stmts (dfm 1 1).2.1, scope := (dfm 1 1).2.2, globals := 3, closure := [], defaults := .none, kwdefaults := .none, doc := .none, pyModule := (.str (Str.ofString "cpy313.urllib.robotparser") 187), annotations := none, code := (.ref 34), closureTuple := .none, builtins := 0 }), #[]⟩
noncomputable def o36 (P : Params) : Obj := ⟨(.type "tuple"), none, (.seq #[] 0), #[]⟩
noncomputable def o37 (P : Params) : Obj := ⟨.none, none, (.fields #[]), #[]⟩
noncomputable def o38 (P : Params) : Obj := ⟨(.type "tuple"), none, (.seq #[(.str (Str.ofString "self") 221), (.str (Str.ofString "useragent") 222), (.str (Str.ofString "agent") 223)] 0), #[]⟩
noncomputable def o39 (P : Params) : Obj := ⟨(.type "tuple"), none, (.seq #[] 0), #[]⟩
noncomputable def o40 (P : Params) : Obj := ⟨.none, none, (.func { name := (Str.ofString "applies_to"), qualname := (Str.ofString "Entry.applies_to"), params := (dfm 1 2).1, body := .stmts (dfm 1 2).2.1, scope := (dfm 1 2).2.2, globals := 0, closure := [], defaults := .none, kwdefaults := .none, doc := .none, pyModule := .none, annotations := none, code := .none, closureTuple := .none, builtins := 0 }), #[]⟩
noncomputable def o41 (P : Params) : Obj := ⟨(.type "code"), none, (.fields #[(.str (Str.ofString "applies_to") 218), (.str (Str.ofString "Entry.applies_to") 219), (.str (Str.ofString "/claim/cut.py") 220), (.int (27) 0), (.int (2) 0), (.int (0) 0), (.int (0) 0), (.int (3) 0), (.ref 36), (.bool true), (.int (181) 0), (.ref 37), .none, (.ref 38), (.ref 39), (.ref 40), (.int (224) 0), (.int (27) 0), (.str (Str.ofString "/claim/cut.py") 225)]), #[]⟩
noncomputable def o42 (P : Params) : Obj := ⟨(.type "function"), none, (.func { name := (Str.ofString "applies_to"), qualname := (Str.ofString "Entry.applies_to"), params := (dfm 1 2).1, body := .stmts (dfm 1 2).2.1, scope := (dfm 1 2).2.2, globals := 3, closure := [], defaults := .none, kwdefaults := .none, doc := .none, pyModule := (.str (Str.ofString "cpy313.urllib.robotparser") 187), annotations := none, code := (.ref 41), closureTuple := .none, builtins := 0 }), #[]⟩
noncomputable def o43 (P : Params) : Obj := ⟨(.type "tuple"), none, (.seq #[] 0), #[]⟩
noncomputable def o44 (P : Params) : Obj := ⟨.none, none, (.fields #[]), #[]⟩
noncomputable def o45 (P : Params) : Obj := ⟨(.type "tuple"), none, (.seq #[(.str (Str.ofString "self") 230), (.str (Str.ofString "filename") 231), (.str (Str.ofString "best_match") 232), (.str (Str.ofString "allowance") 233), (.str (Str.ofString "line") 234), (.str (Str.ofString "m") 235)] 0), #[]⟩
noncomputable def o46 (P : Params) : Obj := ⟨(.type "tuple"), none, (.seq #[] 0), #[]⟩
noncomputable def o47 (P : Params) : Obj := ⟨.none, none, (.func { name := (Str.ofString "allowance"), qualname := (Str.ofString "Entry.allowance"), params := (dfm 1 3).1, body := .stmts (dfm 1 3).2.1, scope := (dfm 1 3).2.2, globals := 0, closure := [], defaults := .none, kwdefaults := .none, doc := .none, pyModule := .none, annotations := none, code := .none, closureTuple := .none, builtins := 0 }), #[]⟩
noncomputable def o48 (P : Params) : Obj := ⟨(.type "code"), none, (.fields #[(.str (Str.ofString "allowance") 227), (.str (Str.ofString "Entry.allowance") 228), (.str (Str.ofString "/claim/cut.py") 229), (.int (38) 0), (.int (2) 0), (.int (0) 0), (.int (0) 0), (.int (3) 0), (.ref 43), (.bool true), (.int (181) 0), (.ref 44), .none, (.ref 45), (.ref 46), (.ref 47), (.int (236) 0), (.int (38) 0), (.str (Str.ofString "/claim/cut.py") 237)]), #[]⟩
noncomputable def o49 (P : Params) : Obj := ⟨(.type "function"), none, (.func { name := (Str.ofString "allowance"), qualname := (Str.ofString "Entry.allowance"), params := (dfm 1 3).1, body := .stmts (dfm 1 3).2.1, scope := (dfm 1 3).2.2, globals := 3, closure := [], defaults := .none, kwdefaults := .none, doc := .none, pyModule := (.str (Str.ofString "cpy313.urllib.robotparser") 187), annotations := none, code := (.ref 48), closureTuple := .none, builtins := 0 }), #[]⟩
noncomputable def o50 (P : Params) : Obj := ⟨(.type "tuple"), none, (.seq #[(.str (Str.ofString "delay") 239), (.str (Str.ofString "req_rate") 240), (.str (Str.ofString "rulelines") 241), (.str (Str.ofString "useragents") 242)] 0), #[]⟩
noncomputable def o51 (P : Params) : Obj := ⟨(.type "dict"), none, (.dict #[⟨PyData.keyHash P (Str.ofString "__module__"), (.str (Str.ofString "__module__") 196), (.str (Str.ofString "cpy313.urllib.robotparser") 187)⟩, ⟨PyData.keyHash P (Str.ofString "__firstlineno__"), (.str (Str.ofString "__firstlineno__") 200), (.int (2) 199)⟩, ⟨PyData.keyHash P (Str.ofString "__init__"), (.str (Str.ofString "__init__") 207), (.ref 28)⟩, ⟨PyData.keyHash P (Str.ofString "__str__"), (.str (Str.ofString "__str__") 217), (.ref 35)⟩, ⟨PyData.keyHash P (Str.ofString "applies_to"), (.str (Str.ofString "applies_to") 226), (.ref 42)⟩, ⟨PyData.keyHash P (Str.ofString "allowance"), (.str (Str.ofString "allowance") 238), (.ref 49)⟩, ⟨PyData.keyHash P (Str.ofString "__static_attributes__"), (.str (Str.ofString "__static_attributes__") 243), (.ref 50)⟩, ⟨PyData.keyHash P (Str.ofString "__dict__"), (.str (Str.ofString "__dict__") 245), (.ref 53)⟩, ⟨PyData.keyHash P (Str.ofString "__weakref__"), (.str (Str.ofString "__weakref__") 247), (.ref 54)⟩, ⟨PyData.keyHash P (Str.ofString "__doc__"), (.str (Str.ofString "__doc__") 248), .none⟩] 4), #[]⟩
noncomputable def o52 (P : Params) : Obj := ⟨(.type "type"), none, (.cls { name := (Str.ofString "Entry"), bases := [(.type "object")], mro := [(.ref 52), (.type "object")], ns := 51, qualname := (Str.ofString "Entry"), hasDict := true, slotNames := [], subclasses := [], abstract := false, collection := none, hasDel := false }), #[none, none, some (.str (Str.ofString "Entry") 189), some (.str (Str.ofString "Entry") 197), some (.builtin "object.__new__"), some (.bool true)]⟩
noncomputable def o53 (P : Params) : Obj := ⟨(.type "getset_descriptor"), none, (.fields #[(.str (Str.ofString "__dict__") 244), (.ref 52), (.builtin "function.__dict__"), (.builtin "function.__dict__#set")]), #[]⟩
noncomputable def o54 (P : Params) : Obj := ⟨(.type "getset_descriptor"), none, (.fields #[(.str (Str.ofString "__weakref__") 246), (.ref 52), (.builtin "ExceptionGroup.__weakref__"), .none]), #[]⟩
noncomputable def o55 (P : Params) : Obj := ⟨(.type "super"), none, (.fields #[(.ref 52), (.ref 52), (.ref 52)]), #[]⟩
noncomputable def o56 (P : Params) : Obj := ⟨(.type "builtin_function_or_method"), none, (.fields #[(.builtin "object.__init_subclass__"), (.ref 52)]), #[]⟩
noncomputable def o57 (P : Params) : Obj := ⟨(.type "range"), none, (.fields #[(.int (0) 254), (.int (32) 253), (.int (1) 255)]), #[]⟩
noncomputable def o58 (P : Params) : Obj := ⟨(.type "range_iterator"), none, (.fields #[(.int (32) 0), (.int (0) 0), (.int (1) 0)]), #[]⟩
noncomputable def o59 (P : Params) : Obj := ⟨(.type "tuple"), none, (.seq #[] 0), #[]⟩
noncomputable def o60 (P : Params) : Obj := ⟨.none, none, (.fields #[]), #[]⟩
noncomputable def o61 (P : Params) : Obj := ⟨(.type "code"), none, (.fields #[(.str (Str.ofString "<genexpr>") 256), (.str (Str.ofString "<genexpr>") 257), (.str (Str.ofString "/claim/cut.py") 258), (.int (51) 0), (.int (1) 0), (.int (0) 0), (.int (0) 0), (.int (35) 0), (.ref 59), (.bool true), (.int (181) 0), (.ref 60), .none, .none, .none, .none, (.int (259) 0), (.int (51) 0), (.str (Str.ofString "/claim/cut.py") 260)]), #[]⟩
noncomputable def o62 (P : Params) : Obj := ⟨(.type "frame"), none, (.dict #[⟨PyData.keyHash P (Str.ofString ".0"), (.str (Str.ofString ".0") 261), (.ref 58)⟩, ⟨PyData.keyHash P (Str.ofString "i"), (.str (Str.ofString "i") 265), (.int (31) 388)⟩] 2), #[]⟩
noncomputable def o63 (P : Params) : Obj := ⟨(.type "generator"), none, (.fields #[(.int (0) 0), (.str (Str.ofString "<genexpr>") 262), (.str (Str.ofString "<genexpr>") 263)]), #[]⟩
noncomputable def o65 (P : Params) : Obj := ⟨(.type "tuple"), none, (.seq #[] 0), #[]⟩
noncomputable def o66 (P : Params) : Obj := ⟨(.type "StopIteration"), none, (.fields #[(.ref 65), .none, .none, .none, (.bool false), .none]), #[]⟩
noncomputable def o67 (P : Params) : Obj := ⟨(.type "tuple"), none, (.seq #[] 0), #[]⟩
noncomputable def o68 (P : Params) : Obj := ⟨(.type "StopIteration"), none, (.fields #[(.ref 67), .none, .none, .none, (.bool false), .none]), #[]⟩
noncomputable def o70 (P : Params) : Obj := ⟨(.type "str_ascii_iterator"), none, (.fields #[.none, (.int (1) 0)]), #[]⟩
noncomputable def o71 (P : Params) : Obj := ⟨(.type "tuple"), none, (.seq #[] 0), #[]⟩
noncomputable def o72 (P : Params) : Obj := ⟨(.type "StopIteration"), none, (.fields #[(.ref 71), .none, .none, .none, (.bool false), .none]), #[]⟩
noncomputable def o75 (P : Params) : Obj := ⟨(.type "str_ascii_iterator"), none, (.fields #[.none, (.int (1) 0)]), #[]⟩
noncomputable def o76 (P : Params) : Obj := ⟨(.type "tuple"), none, (.seq #[] 0), #[]⟩
noncomputable def o77 (P : Params) : Obj := ⟨(.type "StopIteration"), none, (.fields #[(.ref 76), .none, .none, .none, (.bool false), .none]), #[]⟩
noncomputable def o80 (P : Params) : Obj := ⟨(.type "str_ascii_iterator"), none, (.fields #[.none, (.int (2) 0)]), #[]⟩
noncomputable def o81 (P : Params) : Obj := ⟨(.type "tuple"), none, (.seq #[] 0), #[]⟩
noncomputable def o82 (P : Params) : Obj := ⟨(.type "StopIteration"), none, (.fields #[(.ref 81), .none, .none, .none, (.bool false), .none]), #[]⟩
noncomputable def o84 (P : Params) : Obj := ⟨(.type "str_ascii_iterator"), none, (.fields #[.none, (.int (1) 0)]), #[]⟩
noncomputable def o85 (P : Params) : Obj := ⟨(.type "tuple"), none, (.seq #[] 0), #[]⟩
noncomputable def o86 (P : Params) : Obj := ⟨(.type "StopIteration"), none, (.fields #[(.ref 85), .none, .none, .none, (.bool false), .none]), #[]⟩
noncomputable def o89 (P : Params) : Obj := ⟨(.type "str_ascii_iterator"), none, (.fields #[.none, (.int (22) 0)]), #[]⟩
noncomputable def o90 (P : Params) : Obj := ⟨(.type "tuple"), none, (.seq #[] 0), #[]⟩
noncomputable def o91 (P : Params) : Obj := ⟨(.type "StopIteration"), none, (.fields #[(.ref 90), .none, .none, .none, (.bool false), .none]), #[]⟩
noncomputable def o92 (P : Params) : Obj := ⟨(.type "tuple"), none, (.seq #[(.type "ValueError")] 0), #[]⟩
noncomputable def o93 (P : Params) : Obj := ⟨(.type "builtin_function_or_method"), none, (.fields #[(.builtin "type.__prepare__"), (.type "type")]), #[]⟩
noncomputable def o94 (P : Params) : Obj := ⟨(.type "dict"), none, (.dict #[⟨PyData.keyHash P (Str.ofString "__module__"), (.str (Str.ofString "__module__") 472), (.str (Str.ofString "cpy313.tomllib._parser") 251)⟩, ⟨PyData.keyHash P (Str.ofString "__qualname__"), (.str (Str.ofString "__qualname__") 474), (.str (Str.ofString "TOMLDecodeError") 473)⟩, ⟨PyData.keyHash P (Str.ofString "__firstlineno__"), (.str (Str.ofString "__firstlineno__") 476), (.int (60) 475)⟩, ⟨PyData.keyHash P (Str.ofString "__static_attributes__"), (.str (Str.ofString "__static_attributes__") 477), (.ref 99)⟩] 4), #[]⟩
noncomputable def o95 (P : Params) : Obj := ⟨(.type "tuple"), none, (.seq #[] 0), #[]⟩
noncomputable def o96 (P : Params) : Obj := ⟨.none, none, (.fields #[]), #[]⟩
noncomputable def o97 (P : Params) : Obj := ⟨(.type "code"), none, (.fields #[(.str (Str.ofString "TOMLDecodeError") 467), (.str (Str.ofString "TOMLDecodeError") 468), (.str (Str.ofString "/claim/cut.py") 469), (.int (60) 0), (.int (0) 0), (.int (0) 0), (.int (0) 0), (.int (0) 0), (.ref 95), (.bool false), (.int (181) 0), (.ref 96), .none, .none, .none, .none, (.int (470) 0), (.int (60) 0), (.str (Str.ofString "/claim/cut.py") 471)]), #[]⟩
noncomputable def o98 (P : Params) : Obj := ⟨(.type "frame"), none, .plain, #[some (.ref 97), some (.ref 3), some (.ref 94), none, some (.str (Str.ofString "cpy313.tomllib._parser") 251), none, some (.ref 0)]⟩
noncomputable def o99 (P : Params) : Obj := ⟨(.type "tuple"), none, (.seq #[] 0), #[]⟩
noncomputable def o100 (P : Params) : Obj := ⟨(.type "dict"), none, (.dict #[⟨PyData.keyHash P (Str.ofString "__module__"), (.str (Str.ofString "__module__") 472), (.str (Str.ofString "cpy313.tomllib._parser") 251)⟩, ⟨PyData.keyHash P (Str.ofString "__firstlineno__"), (.str (Str.ofString "__firstlineno__") 476), (.int (60) 475)⟩, ⟨PyData.keyHash P (Str.ofString "__static_attributes__"), (.str (Str.ofString "__static_attributes__") 477), (.ref 99)⟩, ⟨PyData.keyHash P (Str.ofString "__weakref__"), (.str (Str.ofString "__weakref__") 479), (.ref 102)⟩, ⟨PyData.keyHash P (Str.ofString "__doc__"), (.str (Str.ofString "__doc__") 480), .none⟩] 3), #[]⟩
noncomputable def o101 (P : Params) : Obj := ⟨(.type "type"), none, (.cls { name := (Str.ofString "TOMLDecodeError"), bases := [(.type "ValueError")], mro := [(.ref 101), (.type "ValueError"), (.type "Exception"), (.type "BaseException"), (.type "object")], ns := 100, qualname := (Str.ofString "TOMLDecodeError"), hasDict := true, slotNames := [], subclasses := [], abstract := false, collection := none, hasDel := false }), #[some (.ref 92), none, some (.str (Str.ofString "TOMLDecodeError") 465), some (.str (Str.ofString "TOMLDecodeError") 473), some (.builtin "ValueError.__new__"), some (.bool true)]⟩
noncomputable def o102 (P : Params) : Obj := ⟨(.type "getset_descriptor"), none, (.fields #[(.str (Str.ofString "__weakref__") 478), (.ref 101), (.builtin "ExceptionGroup.__weakref__"), .none]), #[]⟩
noncomputable def o103 (P : Params) : Obj := ⟨(.type "super"), none, (.fields #[(.ref 101), (.ref 101), (.ref 101)]), #[]⟩
noncomputable def o104 (P : Params) : Obj := ⟨(.type "builtin_function_or_method"), none, (.fields #[(.builtin "object.__init_subclass__"), (.ref 101)]), #[]⟩
noncomputable def o105 (P : Params) : Obj := ⟨(.type "tuple"), none, (.seq #[] 0), #[]⟩
noncomputable def o106 (P : Params) : Obj := ⟨.none, none, (.fields #[]), #[]⟩
noncomputable def o107 (P : Params) : Obj := ⟨(.type "tuple"), none, (.seq #[(.str (Str.ofString "src") 486), (.str (Str.ofString "pos") 487), (.str (Str.ofString "chars") 488)] 0), #[]⟩
noncomputable def o108 (P : Params) : Obj := ⟨(.type "tuple"), none, (.seq #[] 0), #[]⟩
noncomputable def o109 (P : Params) : Obj := ⟨.none, none, (.func { name := (Str.ofString "skip_chars"), qualname := (Str.ofString "skip_chars"), params := (dfn 13).1, body := .stmts (dfn 13).2.1, scope := (dfn 13).2.2, globals := 0, closure := [], defaults := .none, kwdefaults := .none, doc := .none, pyModule := .none, annotations := none, code := .none, closureTuple := .none, builtins := 0 }), #[]⟩
noncomputable def o110 (P : Params) : Obj := ⟨(.type "code"), none, (.fields #[(.str (Str.ofString "skip_chars") 483), (.str (Str.ofString "skip_chars") 484), (.str (Str.ofString "/claim/cut.py") 485), (.int (62) 0), (.int (3) 0), (.int (0) 0), (.int (0) 0), (.int (3) 0), (.ref 105), (.bool true), (.int (181) 0), (.ref 106), .none, (.ref 107), (.ref 108), (.ref 109), (.int (489) 0), (.int (62) 0), (.str (Str.ofString "/claim/cut.py") 490)]), #[]⟩
noncomputable def o111 (P : Params) : Obj := ⟨(.type "function"), none, (.func { name := (Str.ofString "skip_chars"), qualname := (Str.ofString "skip_chars"), params := (dfn 13).1, body := .stmts (dfn 13).2.1, scope := (dfn 13).2.2, globals := 3, closure := [], defaults := .none, kwdefaults := .none, doc := .none, pyModule := (.str (Str.ofString "cpy313.tomllib._parser") 251), annotations := none, code := (.ref 110), closureTuple := .none, builtins := 0 }), #[]⟩
noncomputable def o112 (P : Params) : Obj := ⟨(.type "tuple"), none, (.seq #[] 0), #[]⟩
noncomputable def o113 (P : Params) : Obj := ⟨.none, none, (.fields #[]), #[]⟩
noncomputable def o114 (P : Params) : Obj := ⟨(.type "tuple"), none, (.seq #[(.str (Str.ofString "src") 495), (.str (Str.ofString "pos") 496), (.str (Str.ofString "expect") 497), (.str (Str.ofString "error_on") 498), (.str (Str.ofString "error_on_eof") 499), (.str (Str.ofString "new_pos") 500)] 0), #[]⟩
noncomputable def o115 (P : Params) : Obj := ⟨(.type "tuple"), none, (.seq #[] 0), #[]⟩
noncomputable def o116 (P : Params) : Obj := ⟨.none, none, (.func { name := (Str.ofString "skip_until"), qualname := (Str.ofString "skip_until"), params := (dfn 14).1, body := .stmts (dfn 14).2.1, scope := (dfn 14).2.2, globals := 0, closure := [], defaults := .none, kwdefaults := .none, doc := .none, pyModule := .none, annotations := none, code := .none, closureTuple := .none, builtins := 0 }), #[]⟩
noncomputable def o117 (P : Params) : Obj := ⟨(.type "code"), none, (.fields #[(.str (Str.ofString "skip_until") 492), (.str (Str.ofString "skip_until") 493), (.str (Str.ofString "/claim/cut.py") 494), (.int (69) 0), (.int (3) 0), (.int (0) 0), (.int (2) 0), (.int (3) 0), (.ref 112), (.bool true), (.int (181) 0), (.ref 113), .none, (.ref 114), (.ref 115), (.ref 116), (.int (501) 0), (.int (69) 0), (.str (Str.ofString "/claim/cut.py") 502)]), #[]⟩
noncomputable def o118 (P : Params) : Obj := ⟨(.type "function"), none, (.func { name := (Str.ofString "skip_until"), qualname := (Str.ofString "skip_until"), params := (dfn 14).1, body := .stmts (dfn 14).2.1, scope := (dfn 14).2.2, globals := 3, closure := [], defaults := .none, kwdefaults := .none, doc := .none, pyModule := (.str (Str.ofString "cpy313.tomllib._parser") 251), annotations := none, code := (.ref 117), closureTuple := .none, builtins := 0 }), #[]⟩
noncomputable def o119 (P : Params) : Obj := ⟨(.type "tuple"), none, (.seq #[] 0), #[]⟩
noncomputable def o120 (P : Params) : Obj := ⟨.none, none, (.fields #[]), #[]⟩
noncomputable def o121 (P : Params) : Obj := ⟨(.type "tuple"), none, (.seq #[(.str (Str.ofString "src") 507), (.str (Str.ofString "pos") 508), (.str (Str.ofString "char") 509)] 0), #[]⟩
noncomputable def o122 (P : Params) : Obj := ⟨(.type "tuple"), none, (.seq #[] 0), #[]⟩
noncomputable def o123 (P : Params) : Obj := ⟨.none, none, (.func { name := (Str.ofString "skip_comment"), qualname := (Str.ofString "skip_comment"), params := (dfn 15).1, body := .stmts (dfn 15).2.1, scope := (dfn 15).2.2, globals := 0, closure := [], defaults := .none, kwdefaults := .none, doc := .none, pyModule := .none, annotations := none, code := .none, closureTuple := .none, builtins := 0 }), #[]⟩
noncomputable def o124 (P : Params) : Obj := ⟨(.type "code"), none, (.fields #[(.str (Str.ofString "skip_comment") 504), (.str (Str.ofString "skip_comment") 505), (.str (Str.ofString "/claim/cut.py") 506), (.int (81) 0), (.int (2) 0), (.int (0) 0), (.int (0) 0), (.int (3) 0), (.ref 119), (.bool true), (.int (181) 0), (.ref 120), .none, (.ref 121), (.ref 122), (.ref 123), (.int (510) 0), (.int (81) 0), (.str (Str.ofString "/claim/cut.py") 511)]), #[]⟩
noncomputable def o125 (P : Params) : Obj := ⟨(.type "function"), none, (.func { name := (Str.ofString "skip_comment"), qualname := (Str.ofString "skip_comment"), params := (dfn 15).1, body := .stmts (dfn 15).2.1, scope := (dfn 15).2.2, globals := 3, closure := [], defaults := .none, kwdefaults := .none, doc := .none, pyModule := (.str (Str.ofString "cpy313.tomllib._parser") 251), annotations := none, code := (.ref 124), closureTuple := .none, builtins := 0 }), #[]⟩
noncomputable def o126 (P : Params) : Obj := ⟨(.type "tuple"), none, (.seq #[] 0), #[]⟩
noncomputable def o127 (P : Params) : Obj := ⟨.none, none, (.fields #[]), #[]⟩
noncomputable def o128 (P : Params) : Obj := ⟨(.type "tuple"), none, (.seq #[(.str (Str.ofString "src") 516), (.str (Str.ofString "pos") 517), (.str (Str.ofString "pos_before_skip") 518)] 0), #[]⟩
noncomputable def o129 (P : Params) : Obj := ⟨(.type "tuple"), none, (.seq #[] 0), #[]⟩
noncomputable def o130 (P : Params) : Obj := ⟨.none, none, (.func { name := (Str.ofString "skip_comments_and_array_ws"), qualname := (Str.ofString "skip_comments_and_array_ws"), params := (dfn 16).1, body := .stmts (dfn 16).2.1, scope := (dfn 16).2.2, globals := 0, closure := [], defaults := .none, kwdefaults := .none, doc := .none, pyModule := .none, annotations := none, code := .none, closureTuple := .none, builtins := 0 }), #[]⟩
noncomputable def o131 (P : Params) : Obj := ⟨(.type "code"), none, (.fields #[(.str (Str.ofString "skip_comments_and_array_ws") 513), (.str (Str.ofString "skip_comments_and_array_ws") 514), (.str (Str.ofString "/claim/cut.py") 515), (.int (89) 0), (.int (2) 0), (.int (0) 0), (.int (0) 0), (.int (3) 0), (.ref 126), (.bool true), (.int (181) 0), (.ref 127), .none, (.ref 128), (.ref 129), (.ref 130), (.int (519) 0), (.int (89) 0), (.str (Str.ofString "/claim/cut.py") 520)]), #[]⟩
noncomputable def o132 (P : Params) : Obj := ⟨(.type "function"), none, (.func { name := (Str.ofString "skip_comments_and_array_ws"), qualname := (Str.ofString "skip_comments_and_array_ws"), params := (dfn 16).1, body := .stmts (dfn 16).2.1, scope := (dfn 16).2.2, globals := 3, closure := [], defaults := .none, kwdefaults := .none, doc := .none, pyModule := (.str (Str.ofString "cpy313.tomllib._parser") 251), annotations := none, code := (.ref 131), closureTuple := .none, builtins := 0 }), #[]⟩
noncomputable def o133 (P : Params) : Obj := ⟨(.type "tuple"), none, (.seq #[] 0), #[]⟩
noncomputable def o134 (P : Params) : Obj := ⟨.none, none, (.fields #[]), #[]⟩
noncomputable def o135 (P : Params) : Obj := ⟨(.type "tuple"), none, (.seq #[(.str (Str.ofString "src") 525), (.str (Str.ofString "pos") 526), (.str (Str.ofString "hex_len") 527), (.str (Str.ofString "hex_str") 528), (.str (Str.ofString "hex_int") 529)] 0), #[]⟩
noncomputable def o136 (P : Params) : Obj := ⟨(.type "tuple"), none, (.seq #[] 0), #[]⟩
noncomputable def o137 (P : Params) : Obj := ⟨.none, none, (.func { name := (Str.ofString "parse_hex_char"), qualname := (Str.ofString "parse_hex_char"), params := (dfn 17).1, body := .stmts (dfn 17).2.1, scope := (dfn 17).2.2, globals := 0, closure := [], defaults := .none, kwdefaults := .none, doc := .none, pyModule := .none, annotations := none, code := .none, closureTuple := .none, builtins := 0 }), #[]⟩
noncomputable def o138 (P : Params) : Obj := ⟨(.type "code"), none, (.fields #[(.str (Str.ofString "parse_hex_char") 522), (.str (Str.ofString "parse_hex_char") 523), (.str (Str.ofString "/claim/cut.py") 524), (.int (96) 0), (.int (3) 0), (.int (0) 0), (.int (0) 0), (.int (3) 0), (.ref 133), (.bool true), (.int (181) 0), (.ref 134), .none, (.ref 135), (.ref 136), (.ref 137), (.int (530) 0), (.int (96) 0), (.str (Str.ofString "/claim/cut.py") 531)]), #[]⟩
noncomputable def o139 (P : Params) : Obj := ⟨(.type "function"), none, (.func { name := (Str.ofString "parse_hex_char"), qualname := (Str.ofString "parse_hex_char"), params := (dfn 17).1, body := .stmts (dfn 17).2.1, scope := (dfn 17).2.2, globals := 3, closure := [], defaults := .none, kwdefaults := .none, doc := .none, pyModule := (.str (Str.ofString "cpy313.tomllib._parser") 251), annotations := none, code := (.ref 138), closureTuple := .none, builtins := 0 }), #[]⟩
noncomputable def o140 (P : Params) : Obj := ⟨(.type "tuple"), none, (.seq #[] 0), #[]⟩
noncomputable def o141 (P : Params) : Obj := ⟨.none, none, (.fields #[]), #[]⟩
noncomputable def o142 (P : Params) : Obj := ⟨(.type "tuple"), none, (.seq #[(.str (Str.ofString "src") 536), (.str (Str.ofString "pos") 537), (.str (Str.ofString "start_pos") 538)] 0), #[]⟩
noncomputable def o143 (P : Params) : Obj := ⟨(.type "tuple"), none, (.seq #[] 0), #[]⟩
noncomputable def o144 (P : Params) : Obj := ⟨.none, none, (.func { name := (Str.ofString "parse_literal_str"), qualname := (Str.ofString "parse_literal_str"), params := (dfn 18).1, body := .stmts (dfn 18).2.1, scope := (dfn 18).2.2, globals := 0, closure := [], defaults := .none, kwdefaults := .none, doc := .none, pyModule := .none, annotations := none, code := .none, closureTuple := .none, builtins := 0 }), #[]⟩
noncomputable def o145 (P : Params) : Obj := ⟨(.type "code"), none, (.fields #[(.str (Str.ofString "parse_literal_str") 533), (.str (Str.ofString "parse_literal_str") 534), (.str (Str.ofString "/claim/cut.py") 535), (.int (105) 0), (.int (2) 0), (.int (0) 0), (.int (0) 0), (.int (3) 0), (.ref 140), (.bool true), (.int (181) 0), (.ref 141), .none, (.ref 142), (.ref 143), (.ref 144), (.int (539) 0), (.int (105) 0), (.str (Str.ofString "/claim/cut.py") 540)]), #[]⟩
noncomputable def o146 (P : Params) : Obj := ⟨(.type "function"), none, (.func { name := (Str.ofString "parse_literal_str"), qualname := (Str.ofString "parse_literal_str"), params := (dfn 18).1, body := .stmts (dfn 18).2.1, scope := (dfn 18).2.2, globals := 3, closure := [], defaults := .none, kwdefaults := .none, doc := .none, pyModule := (.str (Str.ofString "cpy313.tomllib._parser") 251), annotations := none, code := (.ref 145), closureTuple := .none, builtins := 0 }), #[]⟩
noncomputable def o147 (P : Params) : Obj := ⟨(.type "tuple"), none, (.seq #[] 0), #[]⟩
noncomputable def o148 (P : Params) : Obj := ⟨.none, none, (.fields #[]), #[]⟩
noncomputable def o149 (P : Params) : Obj := ⟨(.type "tuple"), none, (.seq #[(.str (Str.ofString "src") 545), (.str (Str.ofString "pos") 546), (.str (Str.ofString "msg") 547), (.str (Str.ofString "coord_repr") 548)] 0), #[]⟩
noncomputable def o150 (P : Params) : Obj := ⟨(.type "tuple"), none, (.seq #[] 0), #[]⟩
noncomputable def o151 (P : Params) : Obj := ⟨.none, none, (.func { name := (Str.ofString "suffixed_err"), qualname := (Str.ofString "suffixed_err"), params := (dfn 19).1, body := .stmts (dfn 19).2.1, scope := (dfn 19).2.2, globals := 0, closure := [], defaults := .none, kwdefaults := .none, doc := .none, pyModule := .none, annotations := none, code := .none, closureTuple := .none, builtins := 0 }), #[]⟩
noncomputable def o152 (P : Params) : Obj := ⟨(.type "code"), none, (.fields #[(.str (Str.ofString "suffixed_err") 542), (.str (Str.ofString "suffixed_err") 543), (.str (Str.ofString "/claim/cut.py") 544), (.int (110) 0), (.int (3) 0), (.int (0) 0), (.int (0) 0), (.int (3) 0), (.ref 147), (.bool true), (.int (181) 0), (.ref 148), .none, (.ref 149), (.ref 150), (.ref 151), (.int (549) 0), (.int (110) 0), (.str (Str.ofString "/claim/cut.py") 550)]), #[]⟩
noncomputable def o153 (P : Params) : Obj := ⟨(.type "function"), none, (.func { name := (Str.ofString "suffixed_err"), qualname := (Str.ofString "suffixed_err"), params := (dfn 19).1, body := .stmts (dfn 19).2.1, scope := (dfn 19).2.2, globals := 3, closure := [], defaults := .none, kwdefaults := .none, doc := .none, pyModule := (.str (Str.ofString "cpy313.tomllib._parser") 251), annotations := none, code := (.ref 152), closureTuple := .none, builtins := 0 }), #[]⟩
noncomputable def o154 (P : Params) : Obj := ⟨(.type "tuple"), none, (.seq #[] 0), #[]⟩
noncomputable def o155 (P : Params) : Obj := ⟨.none, none, (.fields #[]), #[]⟩
noncomputable def o156 (P : Params) : Obj := ⟨(.type "tuple"), none, (.seq #[(.str (Str.ofString "codepoint") 555)] 0), #[]⟩
noncomputable def o157 (P : Params) : Obj := ⟨(.type "tuple"), none, (.seq #[] 0), #[]⟩
noncomputable def o158 (P : Params) : Obj := ⟨.none, none, (.func { name := (Str.ofString "is_unicode_scalar_value"), qualname := (Str.ofString "is_unicode_scalar_value"), params := (dfn 20).1, body := .stmts (dfn 20).2.1, scope := (dfn 20).2.2, globals := 0, closure := [], defaults := .none, kwdefaults := .none, doc := .none, pyModule := .none, annotations := none, code := .none, closureTuple := .none, builtins := 0 }), #[]⟩
noncomputable def o159 (P : Params) : Obj := ⟨(.type "code"), none, (.fields #[(.str (Str.ofString "is_unicode_scalar_value") 552), (.str (Str.ofString "is_unicode_scalar_value") 553), (.str (Str.ofString "/claim/cut.py") 554), (.int (122) 0), (.int (1) 0), (.int (0) 0), (.int (0) 0), (.int (3) 0), (.ref 154), (.bool true), (.int (181) 0), (.ref 155), .none, (.ref 156), (.ref 157), (.ref 158), (.int (556) 0), (.int (122) 0), (.str (Str.ofString "/claim/cut.py") 557)]), #[]⟩
noncomputable def o160 (P : Params) : Obj := ⟨(.type "function"), none, (.func { name := (Str.ofString "is_unicode_scalar_value"), qualname := (Str.ofString "is_unicode_scalar_value"), params := (dfn 20).1, body := .stmts (dfn 20).2.1, scope := (dfn 20).2.2, globals := 3, closure := [], defaults := .none, kwdefaults := .none, doc := .none, pyModule := (.str (Str.ofString "cpy313.tomllib._parser") 251), annotations := none, code := (.ref 159), closureTuple := .none, builtins := 0 }), #[]⟩
noncomputable def o161 (P : Params) : Obj := ⟨(.type "tuple"), none, (.seq #[] 0), #[]⟩
noncomputable def o162 (P : Params) : Obj := ⟨.none, none, (.fields #[]), #[]⟩
noncomputable def o163 (P : Params) : Obj := ⟨(.type "tuple"), none, (.seq #[(.str (Str.ofString "script") 564), (.str (Str.ofString "cells") 565), (.str (Str.ofString "place") 566)] 0), #[]⟩
noncomputable def o164 (P : Params) : Obj := ⟨(.type "tuple"), none, (.seq #[] 0), #[]⟩
noncomputable def o165 (P : Params) : Obj := ⟨.none, none, (.func { name := (Str.ofString "_law_cells"), qualname := (Str.ofString "_law_cells"), params := (dfn 22).1, body := .stmts (dfn 22).2.1, scope := (dfn 22).2.2, globals := 0, closure := [], defaults := .none, kwdefaults := .none, doc := .none, pyModule := .none, annotations := none, code := .none, closureTuple := .none, builtins := 0 }), #[]⟩
noncomputable def o166 (P : Params) : Obj := ⟨(.type "code"), none, (.fields #[(.str (Str.ofString "_law_cells") 561), (.str (Str.ofString "_law_cells") 562), (.str (Str.ofString "/claim/cut.py") 563), (.int (125) 0), (.int (1) 0), (.int (0) 0), (.int (0) 0), (.int (3) 0), (.ref 161), (.bool true), (.int (181) 0), (.ref 162), .none, (.ref 163), (.ref 164), (.ref 165), (.int (567) 0), (.int (125) 0), (.str (Str.ofString "/claim/cut.py") 568)]), #[]⟩
noncomputable def o167 (P : Params) : Obj := ⟨(.type "function"), none, (.func { name := (Str.ofString "_law_cells"), qualname := (Str.ofString "_law_cells"), params := (dfn 22).1, body := .stmts (dfn 22).2.1, scope := (dfn 22).2.2, globals := 3, closure := [], defaults := .none, kwdefaults := .none, doc := .none, pyModule := (.str (Str.ofString "law_pd0097_01") 559), annotations := none, code := (.ref 166), closureTuple := .none, builtins := 0 }), #[]⟩
noncomputable def o168 (P : Params) : Obj := ⟨(.type "tuple"), none, (.seq #[] 0), #[]⟩
noncomputable def o169 (P : Params) : Obj := ⟨.none, none, (.fields #[]), #[]⟩
noncomputable def o170 (P : Params) : Obj := ⟨.none, none, (.func { name := (Str.ofString "_law_text"), qualname := (Str.ofString "_law_text"), params := (dfn 23).1, body := .stmts (dfn 23).2.1, scope := (dfn 23).2.2, globals := 0, closure := [], defaults := .none, kwdefaults := .none, doc := .none, pyModule := .none, annotations := none, code := .none, closureTuple := .none, builtins := 0 }), #[]⟩
noncomputable def o171 (P : Params) : Obj := ⟨(.type "code"), none, (.fields #[(.str (Str.ofString "_law_text") 570), (.str (Str.ofString "_law_text") 571), (.str (Str.ofString "/claim/cut.py") 572), (.int (130) 0), (.int (1) 0), (.int (0) 0), (.int (0) 0), (.int (3) 0), (.ref 168), (.bool true), (.int (181) 0), (.ref 169), .none, .none, .none, (.ref 170), (.int (573) 0), (.int (130) 0), (.str (Str.ofString "/claim/cut.py") 574)]), #[]⟩
noncomputable def o172 (P : Params) : Obj := ⟨(.type "function"), none, (.func { name := (Str.ofString "_law_text"), qualname := (Str.ofString "_law_text"), params := (dfn 23).1, body := .stmts (dfn 23).2.1, scope := (dfn 23).2.2, globals := 3, closure := [], defaults := .none, kwdefaults := .none, doc := .none, pyModule := (.str (Str.ofString "law_pd0097_01") 559), annotations := none, code := (.ref 171), closureTuple := .none, builtins := 0 }), #[]⟩
noncomputable def o173 (P : Params) : Obj := ⟨(.type "tuple"), none, (.seq #[] 0), #[]⟩
noncomputable def o174 (P : Params) : Obj := ⟨.none, none, (.fields #[]), #[]⟩
noncomputable def o175 (P : Params) : Obj := ⟨(.type "tuple"), none, (.seq #[(.str (Str.ofString "cell") 579), (.str (Str.ofString "kinds") 580), (.str (Str.ofString "turned") 581)] 0), #[]⟩
noncomputable def o176 (P : Params) : Obj := ⟨(.type "tuple"), none, (.seq #[] 0), #[]⟩
noncomputable def o177 (P : Params) : Obj := ⟨.none, none, (.func { name := (Str.ofString "_law_order"), qualname := (Str.ofString "_law_order"), params := (dfn 24).1, body := .stmts (dfn 24).2.1, scope := (dfn 24).2.2, globals := 0, closure := [], defaults := .none, kwdefaults := .none, doc := .none, pyModule := .none, annotations := none, code := .none, closureTuple := .none, builtins := 0 }), #[]⟩
noncomputable def o178 (P : Params) : Obj := ⟨(.type "code"), none, (.fields #[(.str (Str.ofString "_law_order") 576), (.str (Str.ofString "_law_order") 577), (.str (Str.ofString "/claim/cut.py") 578), (.int (133) 0), (.int (1) 0), (.int (0) 0), (.int (0) 0), (.int (3) 0), (.ref 173), (.bool true), (.int (181) 0), (.ref 174), .none, (.ref 175), (.ref 176), (.ref 177), (.int (582) 0), (.int (133) 0), (.str (Str.ofString "/claim/cut.py") 583)]), #[]⟩
noncomputable def o179 (P : Params) : Obj := ⟨(.type "function"), none, (.func { name := (Str.ofString "_law_order"), qualname := (Str.ofString "_law_order"), params := (dfn 24).1, body := .stmts (dfn 24).2.1, scope := (dfn 24).2.2, globals := 3, closure := [], defaults := .none, kwdefaults := .none, doc := .none, pyModule := (.str (Str.ofString "law_pd0097_01") 559), annotations := none, code := (.ref 178), closureTuple := .none, builtins := 0 }), #[]⟩
noncomputable def o180 (P : Params) : Obj := ⟨(.type "tuple"), none, (.seq #[] 0), #[]⟩
noncomputable def o181 (P : Params) : Obj := ⟨.none, none, (.fields #[]), #[]⟩
noncomputable def o182 (P : Params) : Obj := ⟨(.type "tuple"), none, (.seq #[(.str (Str.ofString "cell") 588), (.str (Str.ofString "falses") 589), (.str (Str.ofString "verdicts") 590), (.str (Str.ofString "j") 591), (.str (Str.ofString "kind") 592), (.str (Str.ofString "nothing") 593)] 0), #[]⟩
noncomputable def o183 (P : Params) : Obj := ⟨(.type "tuple"), none, (.seq #[] 0), #[]⟩
noncomputable def o184 (P : Params) : Obj := ⟨.none, none, (.func { name := (Str.ofString "_law_verdicts"), qualname := (Str.ofString "_law_verdicts"), params := (dfn 25).1, body := .stmts (dfn 25).2.1, scope := (dfn 25).2.2, globals := 0, closure := [], defaults := .none, kwdefaults := .none, doc := .none, pyModule := .none, annotations := none, code := .none, closureTuple := .none, builtins := 0 }), #[]⟩
noncomputable def o185 (P : Params) : Obj := ⟨(.type "code"), none, (.fields #[(.str (Str.ofString "_law_verdicts") 585), (.str (Str.ofString "_law_verdicts") 586), (.str (Str.ofString "/claim/cut.py") 587), (.int (137) 0), (.int (1) 0), (.int (0) 0), (.int (0) 0), (.int (3) 0), (.ref 180), (.bool true), (.int (181) 0), (.ref 181), .none, (.ref 182), (.ref 183), (.ref 184), (.int (594) 0), (.int (137) 0), (.str (Str.ofString "/claim/cut.py") 595)]), #[]⟩
noncomputable def o186 (P : Params) : Obj := ⟨(.type "function"), none, (.func { name := (Str.ofString "_law_verdicts"), qualname := (Str.ofString "_law_verdicts"), params := (dfn 25).1, body := .stmts (dfn 25).2.1, scope := (dfn 25).2.2, globals := 3, closure := [], defaults := .none, kwdefaults := .none, doc := .none, pyModule := (.str (Str.ofString "law_pd0097_01") 559), annotations := none, code := (.ref 185), closureTuple := .none, builtins := 0 }), #[]⟩
noncomputable def o187 (P : Params) : Obj := ⟨(.type "tuple"), none, (.seq #[] 0), #[]⟩
noncomputable def o188 (P : Params) : Obj := ⟨.none, none, (.fields #[]), #[]⟩
noncomputable def o189 (P : Params) : Obj := ⟨(.type "tuple"), none, (.seq #[(.str (Str.ofString "kind") 600), (.str (Str.ofString "rest") 601)] 0), #[]⟩
noncomputable def o190 (P : Params) : Obj := ⟨(.type "tuple"), none, (.seq #[] 0), #[]⟩
noncomputable def o191 (P : Params) : Obj := ⟨.none, none, (.func { name := (Str.ofString "_law_read"), qualname := (Str.ofString "_law_read"), params := (dfn 26).1, body := .stmts (dfn 26).2.1, scope := (dfn 26).2.2, globals := 0, closure := [], defaults := .none, kwdefaults := .none, doc := .none, pyModule := .none, annotations := none, code := .none, closureTuple := .none, builtins := 0 }), #[]⟩
noncomputable def o192 (P : Params) : Obj := ⟨(.type "code"), none, (.fields #[(.str (Str.ofString "_law_read") 597), (.str (Str.ofString "_law_read") 598), (.str (Str.ofString "/claim/cut.py") 599), (.int (144) 0), (.int (2) 0), (.int (0) 0), (.int (0) 0), (.int (3) 0), (.ref 187), (.bool true), (.int (181) 0), (.ref 188), .none, (.ref 189), (.ref 190), (.ref 191), (.int (602) 0), (.int (144) 0), (.str (Str.ofString "/claim/cut.py") 603)]), #[]⟩
noncomputable def o193 (P : Params) : Obj := ⟨(.type "function"), none, (.func { name := (Str.ofString "_law_read"), qualname := (Str.ofString "_law_read"), params := (dfn 26).1, body := .stmts (dfn 26).2.1, scope := (dfn 26).2.2, globals := 3, closure := [], defaults := .none, kwdefaults := .none, doc := .none, pyModule := (.str (Str.ofString "law_pd0097_01") 559), annotations := none, code := (.ref 192), closureTuple := .none, builtins := 0 }), #[]⟩
noncomputable def o194 (P : Params) : Obj := ⟨(.type "tuple"), none, (.seq #[] 0), #[]⟩
noncomputable def o195 (P : Params) : Obj := ⟨.none, none, (.fields #[]), #[]⟩
noncomputable def o196 (P : Params) : Obj := ⟨(.type "tuple"), none, (.seq #[(.str (Str.ofString "answer") 608)] 0), #[]⟩
noncomputable def o197 (P : Params) : Obj := ⟨(.type "tuple"), none, (.seq #[] 0), #[]⟩
noncomputable def o198 (P : Params) : Obj := ⟨.none, none, (.func { name := (Str.ofString "_law_size"), qualname := (Str.ofString "_law_size"), params := (dfn 27).1, body := .stmts (dfn 27).2.1, scope := (dfn 27).2.2, globals := 0, closure := [], defaults := .none, kwdefaults := .none, doc := .none, pyModule := .none, annotations := none, code := .none, closureTuple := .none, builtins := 0 }), #[]⟩
noncomputable def o199 (P : Params) : Obj := ⟨(.type "code"), none, (.fields #[(.str (Str.ofString "_law_size") 605), (.str (Str.ofString "_law_size") 606), (.str (Str.ofString "/claim/cut.py") 607), (.int (156) 0), (.int (1) 0), (.int (0) 0), (.int (0) 0), (.int (3) 0), (.ref 194), (.bool true), (.int (181) 0), (.ref 195), .none, (.ref 196), (.ref 197), (.ref 198), (.int (609) 0), (.int (156) 0), (.str (Str.ofString "/claim/cut.py") 610)]), #[]⟩
noncomputable def o200 (P : Params) : Obj := ⟨(.type "function"), none, (.func { name := (Str.ofString "_law_size"), qualname := (Str.ofString "_law_size"), params := (dfn 27).1, body := .stmts (dfn 27).2.1, scope := (dfn 27).2.2, globals := 3, closure := [], defaults := .none, kwdefaults := .none, doc := .none, pyModule := (.str (Str.ofString "law_pd0097_01") 559), annotations := none, code := (.ref 199), closureTuple := .none, builtins := 0 }), #[]⟩
noncomputable def o201 (P : Params) : Obj := ⟨(.type "tuple"), none, (.seq #[] 0), #[]⟩
noncomputable def o202 (P : Params) : Obj := ⟨.none, none, (.fields #[]), #[]⟩
noncomputable def o203 (P : Params) : Obj := ⟨(.type "tuple"), none, (.seq #[(.str (Str.ofString "kind") 615), (.str (Str.ofString "verdict") 616), (.str (Str.ofString "notes") 617), (.str (Str.ofString "rule") 618), (.str (Str.ofString "_law_asked") 619)] 0), #[]⟩
noncomputable def o204 (P : Params) : Obj := ⟨(.type "tuple"), none, (.seq #[(.str (Str.ofString "kind") 620), (.str (Str.ofString "notes") 621)] 0), #[]⟩
noncomputable def o205 (P : Params) : Obj := ⟨.none, none, (.func { name := (Str.ofString "_law_rule"), qualname := (Str.ofString "_law_rule"), params := (dfn 28).1, body := .stmts (dfn 28).2.1, scope := (dfn 28).2.2, globals := 0, closure := [], defaults := .none, kwdefaults := .none, doc := .none, pyModule := .none, annotations := none, code := .none, closureTuple := .none, builtins := 0 }), #[]⟩
noncomputable def o206 (P : Params) : Obj := ⟨(.type "code"), none, (.fields #[(.str (Str.ofString "_law_rule") 612), (.str (Str.ofString "_law_rule") 613), (.str (Str.ofString "/claim/cut.py") 614), (.int (160) 0), (.int (3) 0), (.int (0) 0), (.int (0) 0), (.int (3) 0), (.ref 201), (.bool true), (.int (181) 0), (.ref 202), .none, (.ref 203), (.ref 204), (.ref 205), (.int (622) 0), (.int (160) 0), (.str (Str.ofString "/claim/cut.py") 623)]), #[]⟩
noncomputable def o207 (P : Params) : Obj := ⟨(.type "function"), none, (.func { name := (Str.ofString "_law_rule"), qualname := (Str.ofString "_law_rule"), params := (dfn 28).1, body := .stmts (dfn 28).2.1, scope := (dfn 28).2.2, globals := 3, closure := [], defaults := .none, kwdefaults := .none, doc := .none, pyModule := (.str (Str.ofString "law_pd0097_01") 559), annotations := none, code := (.ref 206), closureTuple := .none, builtins := 0 }), #[]⟩
noncomputable def o208 (P : Params) : Obj := ⟨(.type "tuple"), none, (.seq #[] 0), #[]⟩
noncomputable def o209 (P : Params) : Obj := ⟨.none, none, (.fields #[]), #[]⟩
noncomputable def o210 (P : Params) : Obj := ⟨(.type "tuple"), none, (.seq #[(.str (Str.ofString "rules") 628), (.str (Str.ofString "entry") 629), (.str (Str.ofString "rule") 630)] 0), #[]⟩
noncomputable def o211 (P : Params) : Obj := ⟨(.type "tuple"), none, (.seq #[] 0), #[]⟩
noncomputable def o212 (P : Params) : Obj := ⟨.none, none, (.func { name := (Str.ofString "_law_record"), qualname := (Str.ofString "_law_record"), params := (dfn 29).1, body := .stmts (dfn 29).2.1, scope := (dfn 29).2.2, globals := 0, closure := [], defaults := .none, kwdefaults := .none, doc := .none, pyModule := .none, annotations := none, code := .none, closureTuple := .none, builtins := 0 }), #[]⟩
noncomputable def o213 (P : Params) : Obj := ⟨(.type "code"), none, (.fields #[(.str (Str.ofString "_law_record") 625), (.str (Str.ofString "_law_record") 626), (.str (Str.ofString "/claim/cut.py") 627), (.int (175) 0), (.int (1) 0), (.int (0) 0), (.int (0) 0), (.int (3) 0), (.ref 208), (.bool true), (.int (181) 0), (.ref 209), .none, (.ref 210), (.ref 211), (.ref 212), (.int (631) 0), (.int (175) 0), (.str (Str.ofString "/claim/cut.py") 632)]), #[]⟩
noncomputable def o214 (P : Params) : Obj := ⟨(.type "function"), none, (.func { name := (Str.ofString "_law_record"), qualname := (Str.ofString "_law_record"), params := (dfn 29).1, body := .stmts (dfn 29).2.1, scope := (dfn 29).2.2, globals := 3, closure := [], defaults := .none, kwdefaults := .none, doc := .none, pyModule := (.str (Str.ofString "law_pd0097_01") 559), annotations := none, code := (.ref 213), closureTuple := .none, builtins := 0 }), #[]⟩
noncomputable def o215 (P : Params) : Obj := ⟨(.type "tuple"), none, (.seq #[] 0), #[]⟩
noncomputable def o216 (P : Params) : Obj := ⟨.none, none, (.fields #[]), #[]⟩
noncomputable def o217 (P : Params) : Obj := ⟨.none, none, (.func { name := (Str.ofString "_law_tokens"), qualname := (Str.ofString "_law_tokens"), params := (dfn 30).1, body := .stmts (dfn 30).2.1, scope := (dfn 30).2.2, globals := 0, closure := [], defaults := .none, kwdefaults := .none, doc := .none, pyModule := .none, annotations := none, code := .none, closureTuple := .none, builtins := 0 }), #[]⟩
noncomputable def o218 (P : Params) : Obj := ⟨(.type "code"), none, (.fields #[(.str (Str.ofString "_law_tokens") 634), (.str (Str.ofString "_law_tokens") 635), (.str (Str.ofString "/claim/cut.py") 636), (.int (180) 0), (.int (3) 0), (.int (0) 0), (.int (0) 0), (.int (3) 0), (.ref 215), (.bool true), (.int (181) 0), (.ref 216), .none, .none, .none, (.ref 217), (.int (637) 0), (.int (180) 0), (.str (Str.ofString "/claim/cut.py") 638)]), #[]⟩
noncomputable def o219 (P : Params) : Obj := ⟨(.type "function"), none, (.func { name := (Str.ofString "_law_tokens"), qualname := (Str.ofString "_law_tokens"), params := (dfn 30).1, body := .stmts (dfn 30).2.1, scope := (dfn 30).2.2, globals := 3, closure := [], defaults := .none, kwdefaults := .none, doc := .none, pyModule := (.str (Str.ofString "law_pd0097_01") 559), annotations := none, code := (.ref 218), closureTuple := .none, builtins := 0 }), #[]⟩
noncomputable def o220 (P : Params) : Obj := ⟨(.type "tuple"), none, (.seq #[] 0), #[]⟩
noncomputable def o221 (P : Params) : Obj := ⟨.none, none, (.fields #[]), #[]⟩
noncomputable def o222 (P : Params) : Obj := ⟨(.type "tuple"), none, (.seq #[(.str (Str.ofString "part") 643), (.str (Str.ofString "line") 644), (.str (Str.ofString "column") 645), (.str (Str.ofString "place") 646), (.str (Str.ofString "told") 647)] 0), #[]⟩
noncomputable def o223 (P : Params) : Obj := ⟨(.type "tuple"), none, (.seq #[] 0), #[]⟩
noncomputable def o224 (P : Params) : Obj := ⟨.none, none, (.func { name := (Str.ofString "_law_fault"), qualname := (Str.ofString "_law_fault"), params := (dfn 31).1, body := .stmts (dfn 31).2.1, scope := (dfn 31).2.2, globals := 0, closure := [], defaults := .none, kwdefaults := .none, doc := .none, pyModule := .none, annotations := none, code := .none, closureTuple := .none, builtins := 0 }), #[]⟩
noncomputable def o225 (P : Params) : Obj := ⟨(.type "code"), none, (.fields #[(.str (Str.ofString "_law_fault") 640), (.str (Str.ofString "_law_fault") 641), (.str (Str.ofString "/claim/cut.py") 642), (.int (189) 0), (.int (3) 0), (.int (0) 0), (.int (0) 0), (.int (3) 0), (.ref 220), (.bool true), (.int (181) 0), (.ref 221), .none, (.ref 222), (.ref 223), (.ref 224), (.int (648) 0), (.int (189) 0), (.str (Str.ofString "/claim/cut.py") 649)]), #[]⟩
noncomputable def o226 (P : Params) : Obj := ⟨(.type "function"), none, (.func { name := (Str.ofString "_law_fault"), qualname := (Str.ofString "_law_fault"), params := (dfn 31).1, body := .stmts (dfn 31).2.1, scope := (dfn 31).2.2, globals := 3, closure := [], defaults := .none, kwdefaults := .none, doc := .none, pyModule := (.str (Str.ofString "law_pd0097_01") 559), annotations := none, code := (.ref 225), closureTuple := .none, builtins := 0 }), #[]⟩
noncomputable def o227 (P : Params) : Obj := ⟨(.type "tuple"), none, (.seq #[] 0), #[]⟩
noncomputable def o228 (P : Params) : Obj := ⟨.none, none, (.fields #[]), #[]⟩
noncomputable def o229 (P : Params) : Obj := ⟨(.type "tuple"), none, (.seq #[(.str (Str.ofString "rest") 654), (.str (Str.ofString "lines") 655), (.str (Str.ofString "place") 656), (.str (Str.ofString "k") 657), (.str (Str.ofString "bare") 658), (.str (Str.ofString "blanks") 659), (.str (Str.ofString "words") 660)] 0), #[]⟩
noncomputable def o230 (P : Params) : Obj := ⟨(.type "tuple"), none, (.seq #[] 0), #[]⟩
noncomputable def o231 (P : Params) : Obj := ⟨.none, none, (.func { name := (Str.ofString "_law_gap"), qualname := (Str.ofString "_law_gap"), params := (dfn 32).1, body := .stmts (dfn 32).2.1, scope := (dfn 32).2.2, globals := 0, closure := [], defaults := .none, kwdefaults := .none, doc := .none, pyModule := .none, annotations := none, code := .none, closureTuple := .none, builtins := 0 }), #[]⟩
noncomputable def o232 (P : Params) : Obj := ⟨(.type "code"), none, (.fields #[(.str (Str.ofString "_law_gap") 651), (.str (Str.ofString "_law_gap") 652), (.str (Str.ofString "/claim/cut.py") 653), (.int (195) 0), (.int (1) 0), (.int (0) 0), (.int (0) 0), (.int (3) 0), (.ref 227), (.bool true), (.int (181) 0), (.ref 228), .none, (.ref 229), (.ref 230), (.ref 231), (.int (661) 0), (.int (195) 0), (.str (Str.ofString "/claim/cut.py") 662)]), #[]⟩
noncomputable def o233 (P : Params) : Obj := ⟨(.type "function"), none, (.func { name := (Str.ofString "_law_gap"), qualname := (Str.ofString "_law_gap"), params := (dfn 32).1, body := .stmts (dfn 32).2.1, scope := (dfn 32).2.2, globals := 3, closure := [], defaults := .none, kwdefaults := .none, doc := .none, pyModule := (.str (Str.ofString "law_pd0097_01") 559), annotations := none, code := (.ref 232), closureTuple := .none, builtins := 0 }), #[]⟩
noncomputable def o234 (P : Params) : Obj := ⟨(.type "tuple"), none, (.seq #[] 0), #[]⟩
noncomputable def o235 (P : Params) : Obj := ⟨.none, none, (.fields #[]), #[]⟩
noncomputable def o236 (P : Params) : Obj := ⟨.none, none, (.func { name := (Str.ofString "_law_four"), qualname := (Str.ofString "_law_four"), params := (dfn 33).1, body := .stmts (dfn 33).2.1, scope := (dfn 33).2.2, globals := 0, closure := [], defaults := .none, kwdefaults := .none, doc := .none, pyModule := .none, annotations := none, code := .none, closureTuple := .none, builtins := 0 }), #[]⟩
noncomputable def o237 (P : Params) : Obj := ⟨(.type "code"), none, (.fields #[(.str (Str.ofString "_law_four") 664), (.str (Str.ofString "_law_four") 665), (.str (Str.ofString "/claim/cut.py") 666), (.int (208) 0), (.int (1) 0), (.int (0) 0), (.int (0) 0), (.int (3) 0), (.ref 234), (.bool true), (.int (181) 0), (.ref 235), .none, .none, .none, (.ref 236), (.int (667) 0), (.int (208) 0), (.str (Str.ofString "/claim/cut.py") 668)]), #[]⟩
noncomputable def o238 (P : Params) : Obj := ⟨(.type "function"), none, (.func { name := (Str.ofString "_law_four"), qualname := (Str.ofString "_law_four"), params := (dfn 33).1, body := .stmts (dfn 33).2.1, scope := (dfn 33).2.2, globals := 3, closure := [], defaults := .none, kwdefaults := .none, doc := .none, pyModule := (.str (Str.ofString "law_pd0097_01") 559), annotations := none, code := (.ref 237), closureTuple := .none, builtins := 0 }), #[]⟩
noncomputable def o239 (P : Params) : Obj := ⟨(.type "tuple"), none, (.seq #[] 0), #[]⟩
noncomputable def o240 (P : Params) : Obj := ⟨.none, none, (.fields #[]), #[]⟩
noncomputable def o241 (P : Params) : Obj := ⟨(.type "tuple"), none, (.seq #[(.str (Str.ofString "kind") 673), (.str (Str.ofString "rest") 674), (.str (Str.ofString "line") 675), (.str (Str.ofString "parts") 676)] 0), #[]⟩
noncomputable def o242 (P : Params) : Obj := ⟨(.type "tuple"), none, (.seq #[] 0), #[]⟩
noncomputable def o243 (P : Params) : Obj := ⟨.none, none, (.func { name := (Str.ofString "_law_told"), qualname := (Str.ofString "_law_told"), params := (dfn 34).1, body := .stmts (dfn 34).2.1, scope := (dfn 34).2.2, globals := 0, closure := [], defaults := .none, kwdefaults := .none, doc := .none, pyModule := .none, annotations := none, code := .none, closureTuple := .none, builtins := 0 }), #[]⟩
noncomputable def o244 (P : Params) : Obj := ⟨(.type "code"), none, (.fields #[(.str (Str.ofString "_law_told") 670), (.str (Str.ofString "_law_told") 671), (.str (Str.ofString "/claim/cut.py") 672), (.int (218) 0), (.int (2) 0), (.int (0) 0), (.int (0) 0), (.int (3) 0), (.ref 239), (.bool true), (.int (181) 0), (.ref 240), .none, (.ref 241), (.ref 242), (.ref 243), (.int (677) 0), (.int (218) 0), (.str (Str.ofString "/claim/cut.py") 678)]), #[]⟩
noncomputable def o245 (P : Params) : Obj := ⟨(.type "function"), none, (.func { name := (Str.ofString "_law_told"), qualname := (Str.ofString "_law_told"), params := (dfn 34).1, body := .stmts (dfn 34).2.1, scope := (dfn 34).2.2, globals := 3, closure := [], defaults := .none, kwdefaults := .none, doc := .none, pyModule := (.str (Str.ofString "law_pd0097_01") 559), annotations := none, code := (.ref 244), closureTuple := .none, builtins := 0 }), #[]⟩
noncomputable def o246 (P : Params) : Obj := ⟨(.type "tuple"), none, (.seq #[] 0), #[]⟩
noncomputable def o247 (P : Params) : Obj := ⟨.none, none, (.fields #[]), #[]⟩
noncomputable def o248 (P : Params) : Obj := ⟨.none, none, (.func { name := (Str.ofString "_law_due"), qualname := (Str.ofString "_law_due"), params := (dfn 35).1, body := .stmts (dfn 35).2.1, scope := (dfn 35).2.2, globals := 0, closure := [], defaults := .none, kwdefaults := .none, doc := .none, pyModule := .none, annotations := none, code := .none, closureTuple := .none, builtins := 0 }), #[]⟩
noncomputable def o249 (P : Params) : Obj := ⟨(.type "code"), none, (.fields #[(.str (Str.ofString "_law_due") 680), (.str (Str.ofString "_law_due") 681), (.str (Str.ofString "/claim/cut.py") 682), (.int (236) 0), (.int (3) 0), (.int (0) 0), (.int (0) 0), (.int (3) 0), (.ref 246), (.bool true), (.int (181) 0), (.ref 247), .none, .none, .none, (.ref 248), (.int (683) 0), (.int (236) 0), (.str (Str.ofString "/claim/cut.py") 684)]), #[]⟩
noncomputable def o250 (P : Params) : Obj := ⟨(.type "function"), none, (.func { name := (Str.ofString "_law_due"), qualname := (Str.ofString "_law_due"), params := (dfn 35).1, body := .stmts (dfn 35).2.1, scope := (dfn 35).2.2, globals := 3, closure := [], defaults := .none, kwdefaults := .none, doc := .none, pyModule := (.str (Str.ofString "law_pd0097_01") 559), annotations := none, code := (.ref 249), closureTuple := .none, builtins := 0 }), #[]⟩
noncomputable def o251 (P : Params) : Obj := ⟨(.type "tuple"), none, (.seq #[] 0), #[]⟩
noncomputable def o252 (P : Params) : Obj := ⟨.none, none, (.fields #[]), #[]⟩
noncomputable def o253 (P : Params) : Obj := ⟨.none, none, (.func { name := (Str.ofString "law"), qualname := (Str.ofString "law"), params := (dfn 36).1, body := .stmts (dfn 36).2.1, scope := (dfn 36).2.2, globals := 0, closure := [], defaults := .none, kwdefaults := .none, doc := .none, pyModule := .none, annotations := none, code := .none, closureTuple := .none, builtins := 0 }), #[]⟩
noncomputable def o254 (P : Params) : Obj := ⟨(.type "code"), none, (.fields #[(.str (Str.ofString "law") 686), (.str (Str.ofString "law") 687), (.str (Str.ofString "/claim/cut.py") 688), (.int (250) 0), (.int (1) 0), (.int (0) 0), (.int (0) 0), (.int (3) 0), (.ref 251), (.bool true), (.int (181) 0), (.ref 252), .none, .none, .none, (.ref 253), (.int (689) 0), (.int (250) 0), (.str (Str.ofString "/claim/cut.py") 690)]), #[]⟩
noncomputable def o255 (P : Params) : Obj := ⟨(.type "function"), none, (.func { name := (Str.ofString "law"), qualname := (Str.ofString "law"), params := (dfn 36).1, body := .stmts (dfn 36).2.1, scope := (dfn 36).2.2, globals := 3, closure := [], defaults := .none, kwdefaults := .none, doc := .none, pyModule := (.str (Str.ofString "law_pd0097_01") 559), annotations := none, code := (.ref 254), closureTuple := .none, builtins := 0 }), #[]⟩
noncomputable def objL (P : Params) (X : Sets) : List Obj := [boot_o_0 P, boot_o_1 P, boot_o_2 P, boot_o_2 P, boot_o_4 P, boot_o_5 P, boot_o_6 P, boot_o_7 P, boot_o_8 P, boot_o_9 P, boot_o_10 P, o11 P, boot_o_2 P, o13 P, o14 P, o15 P, o16 P, o17 P, o18 P, o19 P, o20 P, o21 P, o22 P, o23 P, o24 P, o25 P, o26 P, o27 P, o28 P, o29 P, o30 P, o31 P, o32 P, o33 P, o34 P, o35 P, o36 P, o37 P, o38 P, o39 P, o40 P, o41 P, o42 P, o43 P, o44 P, o45 P, o46 P, o47 P, o48 P, o49 P, o50 P, o51 P, o52 P, o53 P, o54 P, o55 P, o56 P, o57 P, o58 P, o59 P, o60 P, o61 P, o62 P, o63 P, X.s64, o65 P, o66 P, o67 P, o68 P, X.s69, o70 P, o71 P, o72 P, X.s73, X.s74, o75 P, o76 P, o77 P, X.s78, X.s79, o80 P, o81 P, o82 P, X.s83, o84 P, o85 P, o86 P, X.s87, X.s88, o89 P, o90 P, o91 P, o92 P, o93 P, o94 P, o95 P, o96 P, o97 P, o98 P, o99 P, o100 P, o101 P, o102 P, o103 P, o104 P, o105 P, o106 P, o107 P, o108 P, o109 P, o110 P, o111 P, o112 P, o113 P, o114 P, o115 P, o116 P, o117 P, o118 P, o119 P, o120 P, o121 P, o122 P, o123 P, o124 P, o125 P, o126 P, o127 P, o128 P, o129 P, o130 P, o131 P, o132 P, o133 P, o134 P, o135 P, o136 P, o137 P, o138 P, o139 P, o140 P, o141 P, o142 P, o143 P, o144 P, o145 P, o146 P, o147 P, o148 P, o149 P, o150 P, o151 P, o152 P, o153 P, o154 P, o155 P, o156 P, o157 P, o158 P, o159 P, o160 P, o161 P, o162 P, o163 P, o164 P, o165 P, o166 P, o167 P, o168 P, o169 P, o170 P, o171 P, o172 P, o173 P, o174 P, o175 P, o176 P, o177 P, o178 P, o179 P, o180 P, o181 P, o182 P, o183 P, o184 P, o185 P, o186 P, o187 P, o188 P, o189 P, o190 P, o191 P, o192 P, o193 P, o194 P, o195 P, o196 P, o197 P, o198 P, o199 P, o200 P, o201 P, o202 P, o203 P, o204 P, o205 P, o206 P, o207 P, o208 P, o209 P, o210 P, o211 P, o212 P, o213 P, o214 P, o215 P, o216 P, o217 P, o218 P, o219 P, o220 P, o221 P, o222 P, o223 P, o224 P, o225 P, o226 P, o227 P, o228 P, o229 P, o230 P, o231 P, o232 P, o233 P, o234 P, o235 P, o236 P, o237 P, o238 P, o239 P, o240 P, o241 P, o242 P, o243 P, o244 P, o245 P, o246 P, o247 P, o248 P, o249 P, o250 P, o251 P, o252 P, o253 P, o254 P, o255 P]
noncomputable def TT (P : Params) (X : Sets) (n : Nat) (m t : Obj) : BT := mkT 0 .nil ((((objL P X).take n).set 3 m).set 12 t)
noncomputable def envT : Env := { scope := prg.main.scope, locals := 3, globals := 3, cells := [], code := .ref 13, frame := some 14 }
noncomputable def codeT : Code := .body bodyL envT
noncomputable def st0 (P : Params) (X : Sets) (os : OsState) : SharedT := ⟨TT P X 15 (boot_o_3 P) (tabO 0), 15, {}, Array.mk [], boot_drawn, 187, os⟩
noncomputable def ps0 : Pos := ⟨0, 0, 0, 0⟩
noncomputable def st1 (P : Params) (X : Sets) (os : OsState) : SharedT := ⟨TT P X 15 (mainO P (.str (Str.ofString "cpy313.urllib.robotparser") 187) 8 9) (tabO 0), 15, {}, Array.mk [], boot_drawn, 189, os⟩
noncomputable def ps1 : Pos := ⟨1, 0, 1, 8⟩
noncomputable def st2 (P : Params) (X : Sets) (os : OsState) : SharedT := ⟨TT P X 57 (mainO P (.str (Str.ofString "cpy313.urllib.robotparser") 187) 9 10) (tabO 3), 57, {}, Array.mk [], boot_drawn, 251, os⟩
noncomputable def ps2 : Pos := ⟨2, 0, 49, 24⟩
noncomputable def st3 (P : Params) (X : Sets) (os : OsState) : SharedT := ⟨TT P X 57 (mainO P (.str (Str.ofString "cpy313.tomllib._parser") 251) 9 10) (tabO 3), 57, {}, Array.mk [], boot_drawn, 253, os⟩
noncomputable def ps3 : Pos := ⟨50, 0, 50, 8⟩
noncomputable def st4 (P : Params) (X : Sets) (os : OsState) : SharedT := ⟨TT P X 74 (mainO P (.str (Str.ofString "cpy313.tomllib._parser") 251) 10 11) (tabO 6), 74, {}, Array.mk [GenState.finished], boot_drawn, 397, os⟩
noncomputable def ps4 : Pos := ⟨51, 0, 51, 10⟩
noncomputable def st5 (P : Params) (X : Sets) (os : OsState) : SharedT := ⟨TT P X 79 (mainO P (.str (Str.ofString "cpy313.tomllib._parser") 251) 11 12) (tabO 6), 79, {}, Array.mk [GenState.finished], boot_drawn, 401, os⟩
noncomputable def ps5 : Pos := ⟨52, 0, 52, 23⟩
noncomputable def st6 (P : Params) (X : Sets) (os : OsState) : SharedT := ⟨TT P X 79 (mainO P (.str (Str.ofString "cpy313.tomllib._parser") 251) 12 13) (tabO 6), 79, {}, Array.mk [GenState.finished], boot_drawn, 402, os⟩
noncomputable def ps6 : Pos := ⟨53, 0, 53, 25⟩
noncomputable def st7 (P : Params) (X : Sets) (os : OsState) : SharedT := ⟨TT P X 79 (mainO P (.str (Str.ofString "cpy313.tomllib._parser") 251) 13 14) (tabO 6), 79, {}, Array.mk [GenState.finished], boot_drawn, 403, os⟩
noncomputable def ps7 : Pos := ⟨54, 0, 54, 21⟩
noncomputable def st8 (P : Params) (X : Sets) (os : OsState) : SharedT := ⟨TT P X 83 (mainO P (.str (Str.ofString "cpy313.tomllib._parser") 251) 14 15) (tabO 6), 83, {}, Array.mk [GenState.finished], boot_drawn, 409, os⟩
noncomputable def ps8 : Pos := ⟨55, 0, 55, 7⟩
noncomputable def st9 (P : Params) (X : Sets) (os : OsState) : SharedT := ⟨TT P X 88 (mainO P (.str (Str.ofString "cpy313.tomllib._parser") 251) 15 16) (tabO 6), 88, {}, Array.mk [GenState.finished], boot_drawn, 413, os⟩
noncomputable def ps9 : Pos := ⟨56, 0, 56, 19⟩
noncomputable def st10 (P : Params) (X : Sets) (os : OsState) : SharedT := ⟨TT P X 88 (mainO P (.str (Str.ofString "cpy313.tomllib._parser") 251) 16 17) (tabO 6), 88, {}, Array.mk [GenState.finished], boot_drawn, 415, os⟩
noncomputable def ps10 : Pos := ⟨57, 0, 57, 6⟩
noncomputable def st11 (P : Params) (X : Sets) (os : OsState) : SharedT := ⟨TT P X 88 (mainO P (.str (Str.ofString "cpy313.tomllib._parser") 251) 17 18) (tabO 6), 88, {}, Array.mk [GenState.finished], boot_drawn, 420, os⟩
noncomputable def ps11 : Pos := ⟨58, 0, 58, 9⟩
noncomputable def st12 (P : Params) (X : Sets) (os : OsState) : SharedT := ⟨TT P X 92 (mainO P (.str (Str.ofString "cpy313.tomllib._parser") 251) 18 19) (tabO 6), 92, {}, Array.mk [GenState.finished], boot_drawn, 465, os⟩
noncomputable def ps12 : Pos := ⟨59, 0, 59, 14⟩
noncomputable def st13 (P : Params) (X : Sets) (os : OsState) : SharedT := ⟨TT P X 105 (mainO P (.str (Str.ofString "cpy313.tomllib._parser") 251) 19 20) (tabO 9), 105, {}, Array.mk [GenState.finished], boot_drawn, 483, os⟩
noncomputable def ps13 : Pos := ⟨60, 0, 61, 8⟩
noncomputable def st14 (P : Params) (X : Sets) (os : OsState) : SharedT := ⟨TT P X 112 (mainO P (.str (Str.ofString "cpy313.tomllib._parser") 251) 20 21) (tabO 12), 112, {}, Array.mk [GenState.finished], boot_drawn, 492, os⟩
noncomputable def ps14 : Pos := ⟨62, 0, 68, 14⟩
noncomputable def st15 (P : Params) (X : Sets) (os : OsState) : SharedT := ⟨TT P X 119 (mainO P (.str (Str.ofString "cpy313.tomllib._parser") 251) 21 22) (tabO 15), 119, {}, Array.mk [GenState.finished], boot_drawn, 504, os⟩
noncomputable def ps15 : Pos := ⟨69, 0, 80, 18⟩
noncomputable def st16 (P : Params) (X : Sets) (os : OsState) : SharedT := ⟨TT P X 126 (mainO P (.str (Str.ofString "cpy313.tomllib._parser") 251) 22 23) (tabO 18), 126, {}, Array.mk [GenState.finished], boot_drawn, 513, os⟩
noncomputable def ps16 : Pos := ⟨81, 0, 88, 14⟩
noncomputable def st17 (P : Params) (X : Sets) (os : OsState) : SharedT := ⟨TT P X 133 (mainO P (.str (Str.ofString "cpy313.tomllib._parser") 251) 23 24) (tabO 21), 133, {}, Array.mk [GenState.finished], boot_drawn, 522, os⟩
noncomputable def ps17 : Pos := ⟨89, 0, 95, 22⟩
noncomputable def st18 (P : Params) (X : Sets) (os : OsState) : SharedT := ⟨TT P X 140 (mainO P (.str (Str.ofString "cpy313.tomllib._parser") 251) 24 25) (tabO 24), 140, {}, Array.mk [GenState.finished], boot_drawn, 533, os⟩
noncomputable def ps18 : Pos := ⟨96, 0, 104, 30⟩
noncomputable def st19 (P : Params) (X : Sets) (os : OsState) : SharedT := ⟨TT P X 147 (mainO P (.str (Str.ofString "cpy313.tomllib._parser") 251) 25 26) (tabO 27), 147, {}, Array.mk [GenState.finished], boot_drawn, 542, os⟩
noncomputable def ps19 : Pos := ⟨105, 0, 109, 40⟩
noncomputable def st20 (P : Params) (X : Sets) (os : OsState) : SharedT := ⟨TT P X 154 (mainO P (.str (Str.ofString "cpy313.tomllib._parser") 251) 26 27) (tabO 30), 154, {}, Array.mk [GenState.finished], boot_drawn, 552, os⟩
noncomputable def ps20 : Pos := ⟨110, 0, 121, 64⟩
noncomputable def st21 (P : Params) (X : Sets) (os : OsState) : SharedT := ⟨TT P X 161 (mainO P (.str (Str.ofString "cpy313.tomllib._parser") 251) 27 28) (tabO 33), 161, {}, Array.mk [GenState.finished], boot_drawn, 559, os⟩
noncomputable def ps21 : Pos := ⟨122, 0, 123, 67⟩
noncomputable def st22 (P : Params) (X : Sets) (os : OsState) : SharedT := ⟨TT P X 161 (mainO P (.str (Str.ofString "law_pd0097_01") 559) 27 28) (tabO 33), 161, {}, Array.mk [GenState.finished], boot_drawn, 561, os⟩
noncomputable def ps22 : Pos := ⟨124, 0, 124, 8⟩
noncomputable def st23 (P : Params) (X : Sets) (os : OsState) : SharedT := ⟨TT P X 168 (mainO P (.str (Str.ofString "law_pd0097_01") 559) 28 29) (tabO 36), 168, {}, Array.mk [GenState.finished], boot_drawn, 570, os⟩
noncomputable def ps23 : Pos := ⟨125, 0, 129, 16⟩
noncomputable def st24 (P : Params) (X : Sets) (os : OsState) : SharedT := ⟨TT P X 173 (mainO P (.str (Str.ofString "law_pd0097_01") 559) 29 30) (tabO 39), 173, {}, Array.mk [GenState.finished], boot_drawn, 576, os⟩
noncomputable def ps24 : Pos := ⟨130, 0, 132, 70⟩
noncomputable def st25 (P : Params) (X : Sets) (os : OsState) : SharedT := ⟨TT P X 180 (mainO P (.str (Str.ofString "law_pd0097_01") 559) 30 31) (tabO 42), 180, {}, Array.mk [GenState.finished], boot_drawn, 585, os⟩
noncomputable def ps25 : Pos := ⟨133, 0, 136, 52⟩
noncomputable def st26 (P : Params) (X : Sets) (os : OsState) : SharedT := ⟨TT P X 187 (mainO P (.str (Str.ofString "law_pd0097_01") 559) 31 32) (tabO 45), 187, {}, Array.mk [GenState.finished], boot_drawn, 597, os⟩
noncomputable def ps26 : Pos := ⟨137, 0, 143, 19⟩
noncomputable def st27 (P : Params) (X : Sets) (os : OsState) : SharedT := ⟨TT P X 194 (mainO P (.str (Str.ofString "law_pd0097_01") 559) 32 33) (tabO 48), 194, {}, Array.mk [GenState.finished], boot_drawn, 605, os⟩
noncomputable def ps27 : Pos := ⟨144, 0, 155, 62⟩
noncomputable def st28 (P : Params) (X : Sets) (os : OsState) : SharedT := ⟨TT P X 201 (mainO P (.str (Str.ofString "law_pd0097_01") 559) 33 34) (tabO 51), 201, {}, Array.mk [GenState.finished], boot_drawn, 612, os⟩
noncomputable def ps28 : Pos := ⟨156, 0, 159, 57⟩
noncomputable def st29 (P : Params) (X : Sets) (os : OsState) : SharedT := ⟨TT P X 208 (mainO P (.str (Str.ofString "law_pd0097_01") 559) 34 35) (tabO 54), 208, {}, Array.mk [GenState.finished], boot_drawn, 625, os⟩
noncomputable def ps29 : Pos := ⟨160, 0, 174, 15⟩
noncomputable def st30 (P : Params) (X : Sets) (os : OsState) : SharedT := ⟨TT P X 215 (mainO P (.str (Str.ofString "law_pd0097_01") 559) 35 36) (tabO 57), 215, {}, Array.mk [GenState.finished], boot_drawn, 634, os⟩
noncomputable def ps30 : Pos := ⟨175, 0, 179, 16⟩
noncomputable def st31 (P : Params) (X : Sets) (os : OsState) : SharedT := ⟨TT P X 220 (mainO P (.str (Str.ofString "law_pd0097_01") 559) 36 37) (tabO 60), 220, {}, Array.mk [GenState.finished], boot_drawn, 640, os⟩
noncomputable def ps31 : Pos := ⟨180, 0, 188, 17⟩
noncomputable def st32 (P : Params) (X : Sets) (os : OsState) : SharedT := ⟨TT P X 227 (mainO P (.str (Str.ofString "law_pd0097_01") 559) 37 38) (tabO 63), 227, {}, Array.mk [GenState.finished], boot_drawn, 651, os⟩
noncomputable def ps32 : Pos := ⟨189, 0, 194, 13⟩
noncomputable def st33 (P : Params) (X : Sets) (os : OsState) : SharedT := ⟨TT P X 234 (mainO P (.str (Str.ofString "law_pd0097_01") 559) 38 39) (tabO 66), 234, {}, Array.mk [GenState.finished], boot_drawn, 664, os⟩
noncomputable def ps33 : Pos := ⟨195, 0, 207, 20⟩
noncomputable def st34 (P : Params) (X : Sets) (os : OsState) : SharedT := ⟨TT P X 239 (mainO P (.str (Str.ofString "law_pd0097_01") 559) 39 40) (tabO 69), 239, {}, Array.mk [GenState.finished], boot_drawn, 670, os⟩
noncomputable def ps34 : Pos := ⟨208, 0, 217, 27⟩
noncomputable def st35 (P : Params) (X : Sets) (os : OsState) : SharedT := ⟨TT P X 246 (mainO P (.str (Str.ofString "law_pd0097_01") 559) 40 41) (tabO 72), 246, {}, Array.mk [GenState.finished], boot_drawn, 680, os⟩
noncomputable def ps35 : Pos := ⟨218, 0, 235, 70⟩
noncomputable def st36 (P : Params) (X : Sets) (os : OsState) : SharedT := ⟨TT P X 251 (mainO P (.str (Str.ofString "law_pd0097_01") 559) 41 42) (tabO 75), 251, {}, Array.mk [GenState.finished], boot_drawn, 686, os⟩
noncomputable def ps36 : Pos := ⟨236, 0, 249, 17⟩
noncomputable def st37 (P : Params) (X : Sets) (os : OsState) : SharedT := ⟨TT P X 256 (mainO P (.str (Str.ofString "law_pd0097_01") 559) 42 43) (tabO 78), 256, {}, Array.mk [GenState.finished], boot_drawn, 692, os⟩
noncomputable def ps37 : Pos := ⟨250, 0, 261, 61⟩
end

end
section
open PySem PySem.W PyProof.Rows PySem.Builtin.Frozenset
set_option maxHeartbeats 0
noncomputable section
theorem bt_set_set (f g : Obj → Obj) : ∀ (t : BT) (a : Nat), (t.set a f).set a g = t.set a (g ∘ f)
  | .nil, a => rfl
  | .node v l r, a => by
    rw [BT.set_node, BT.set_node]
    by_cases h : a = 0
    · subst h; simp [BT.set_node]
    · by_cases q : a % 2 = 1
      · simp [h, q, BT.set_node, bt_set_set f g l]
      · simp [h, q, BT.set_node, bt_set_set f g r]
noncomputable def sT (T : BT) (N tk : Nat) (g : Array GenState) (os : OsState) : SharedT := ⟨T, N, {}, g, boot_drawn, tk, os⟩
theorem sT_abs (T : BT) (N tk : Nat) (g : Array GenState) (os : OsState) : (sT T N tk g os).abs = ⟨absHeap T N {}, g, boot_drawn, tk, os⟩ := rfl
theorem alive_set {cs : List (Nat × Tok)} {o : Obj} (h : IsSS cs o) : alive o = some o := by refine X3_2 h ?_; clear h; intro _ _ _ z0 _; subst z0; rfl
theorem get_setT {T : BT} {N a : Nat} {o o0 : Obj} (hN : a < N) (h0 : T.get a = some o0) (ha : alive o = some o) : (absHeap (T.set a fun _ => o) N {}).get? a = some o := by
  rw [abs_get hN (o := o) (by rw [BT.get_set, if_pos rfl, h0]; rfl), ha]
theorem put_setT {T : BT} {N a : Nat} {o o' o0 : Obj} (h0 : T.get a = some o0) : (absHeap (T.set a fun _ => o) N {}).update a (fun _ => o') = absHeap (T.set a fun _ => o') N {} := by
  rw [← absHeap_set (o := o) (by rw [BT.get_set, if_pos rfl, h0]; rfl), bt_set_set]
  rfl
theorem loop_quiet : ("set.update.loop".startsWith "lifetime.") = false := by decide +kernel
noncomputable abbrev SGR : String := "special-get-raises"
noncomputable def resU : Unit → Flow := fun _ => .next
theorem hash_piece (w : World) (b : Bool) (T : BT) (N tk : Nat) (g : Array GenState) (os : OsState) (s : Str) (t : Tok) (a c : Addr) (q : Pos) (F1 F2 F3 F4 : Frame) :
    segRunT treeTable prg (w.withFollow SGR b) 11 (some (.ref 6)) 4 40 (sT T N tk g os) ⟨(hashAsk (.str s t)).wrap (fun x => .pure (.done (resU x))) deadEnd id id, lpc a c, q, [F1, F2, F3, F4]⟩ =
   some (.next, sT T N (tk + 1) g os, lpc a c, q) := by
  rw [PySem.W.Fast.te10110043849684766642, PySem.W.Fast.te14364793385576792824]
  cases b <;> kernel_rfl!
theorem go_hash (w : World) {T : BT} {N tk : Nat} {g : Array GenState} {os : OsState} {s : Str} {t : Tok} {a c : Addr} {q : Pos} {F1 F2 F3 F4 : Frame} (hB : splitAtGen [F1, F2, F3, F4] = none) :
    Go w prg (lpc a c) q [F1, F2, F3, F4] [] (hashAsk (.str s t)) (sT T N tk g os).abs () (sT T N (tk + 1) g os).abs := by
  have h := hash_piece w (w.params.followText SGR) T N tk g os s t a c q F1 F2 F3 F4
  rw [World.withFollow_self] at h
  exact Go.seg resU (fun _ _ _ => rfl) hB (by simp) h
theorem turn {w : World} {F1 F2 F3 F4 : Frame} {q : Pos} {os : OsState} {a b : Addr} {T T' : BT} {N N' tk tk' n : Nat} {g g' : Array GenState} {ch : Nat} {tok : Tok} {cs : List (Nat × Tok)} {o o0 : Obj}
    (hB : splitAtGen [F1, F2, F3, F4] = none) (ha : 11 ≤ a) (haN : a < N') (h0 : T'.get a = some o0)
    (piece : ∀ o, segRunT treeTable prg w 11 (some (.ref 6)) 4 n (sT (T.set a fun _ => o) N tk g os) ⟨(pyNext (.ref b)).wrap (fun x => .pure (.done (resF x))) deadEnd id id, lpc a b, q, [F1, F2, F3, F4]⟩ = some (.ret (.str ⟨#[ch]⟩ tok), sT (T'.set a fun _ => o) N' tk' g' os, lpc a b, q))
    (hs : IsSS cs o) (hlen : cs.length < 4000) (hc : ch ∉ cs.map (·.1)) :
    ∃ o', IsSS ((ch, tok) :: cs) o' ∧ Reach w prg (sT (T.set a fun _ => o) N tk g os).abs ⟨denote treeTable (lpc a b), lpc a b, q, [F1, F2, F3, F4]⟩ (sT (T'.set a fun _ => o') N' (tk' + 1) g' os).abs ⟨denote treeTable (lpc a b), lpc a b, q, [F1, F2, F3, F4]⟩ := by
  have G1 : Go w prg (lpc a b) q [F1, F2, F3, F4] [] (pyNext (.ref b)) (sT (T.set a fun _ => o) N tk g os).abs (some (.str ⟨#[ch]⟩ tok)) (sT (T'.set a fun _ => o) N' tk' g' os).abs := Go.seg resF (fun _ _ h => resF_inj h) hB (by simp) (piece o)
  have G : Go w prg (lpc a b) q [F1, F2, F3, F4] [] (nextT b) (sT (T.set a fun _ => o) N tk g os).abs (some (.str ⟨#[ch]⟩ tok)) (sT (T'.set a fun _ => o) N' (tk' + 1) g' os).abs := by
    refine Go.bind (m := pyNext (.ref b)) G1 ?_
    exact Go.bind (m := hashAsk (.str ⟨#[ch]⟩ tok)) (go_hash w hB) (Go.pure _)
  have e := get_setT haN h0 (alive_set hs)
  refine X1_2 (loc_addS (S := ⟨prg, w.params⟩) (tk := tk' + 1) ha e hs hlen hc tok) ?_; intro o' h1 h2
  refine ⟨o', h1, ?_⟩
  rw [loop_eq]
  refine (G _).trans ?_
  have r := reach_loc (w := w) (p := prg) (g := g') (d := boot_drawn) (os := os) (c := lpc a b) (q := q) (st := [F1, F2, F3, F4]) (fun _ => again (lpc a b)) (addS a ⟨#[ch]⟩ tok) _ (tk' + 1) h2
  rw [put_setT h0] at r
  refine Reach.trans r (Reach.step rfl ?_ ?_)
  · show (((!("set.update.loop".startsWith "lifetime.") || _) && !false && true) && true) = true
    rw [loop_quiet]; rfl
  · cases F1 <;> (rw [← loop_eq]; rfl)
noncomputable def popT (F : Frame) (v : Value) (rest : List Frame) : Thread := match F with
  | .ret k _ _ _ c p _ => ⟨k (.ok (.ret v)), c, p, rest⟩
  | .gen .. => ⟨.unsupported "", .builtin "" {}, default, rest⟩
theorem reach_pop {w : World} {s : Shared} {v : Value} {c : Code} {q : Pos} {F F2 : Frame} {rest : List Frame} (hF : splitAtGen (F :: F2 :: rest) = none) : Reach w prg s ⟨ret v, c, q, F :: F2 :: rest⟩ s (popT F v (F2 :: rest)) := by
  cases F with
  | gen => cases hF
  | ret k h g l c' p' kp =>
    refine Reach.step ?_ rfl rfl
    show (match (rest.length + 1 + 1 == 1), (Sem.pure (Fin.done (.ret v)) : Sem Fin) with | true, .pure (.done f) => some f | _, _ => none) = none
    have : (rest.length + 1 + 1 == 1) = false := beq_eq_false_iff_ne.mpr (by lia)
    rw [this]
noncomputable def PieceAt (w : World) (F1 F2 F3 F4 : Frame) (q : Pos) (os : OsState) (a b : Addr) (n N : Nat) (T : Nat → BT) (tk tk' : Nat → Nat) (g : Nat → Array GenState) (ch tok : Nat → Nat) (j : Nat) : Prop :=
  ∀ o, segRunT treeTable prg w 11 (some (.ref 6)) 4 n (sT ((T j).set a fun _ => o) N (tk j) (g j) os) ⟨(pyNext (.ref b)).wrap (fun x => .pure (.done (resF x))) deadEnd id id, lpc a b, q, [F1, F2, F3, F4]⟩ = some (.ret (.str ⟨#[ch j]⟩ (tok j)), sT ((T (j + 1)).set a fun _ => o) N (tk' j) (g (j + 1)) os, lpc a b, q)
noncomputable def codesTo (ch tok : Nat → Nat) : Nat → List (Nat × Tok)
  | 0 => []
  | k + 1 => (ch k, tok k) :: codesTo ch tok k
theorem codesTo_in {ch tok : Nat → Nat} {x : Nat} : ∀ {k : Nat}, x ∈ (codesTo ch tok k).map (·.1) → ∃ j, j < k ∧ x = ch j
  | 0, h => nomatch h
  | k + 1, h => (List.mem_cons.mp h).elim (fun e => ⟨k, Nat.lt_succ_self k, e⟩) fun h => (codesTo_in h).elim fun j z => ⟨j, Nat.lt_succ_of_lt z.1, z.2⟩
theorem codesTo_len {ch tok : Nat → Nat} : ∀ k, (codesTo ch tok k).length = k
  | 0 => rfl
  | k + 1 => congrArg (· + 1) (codesTo_len k)
theorem all_succ {P : Nat → Prop} {n : Nat} (h : P n) (k : ∀ j < n, P j) : ∀ j < n + 1, P j := fun j hj => (Nat.lt_succ_iff_lt_or_eq.mp hj).elim (k j) fun e => e ▸ h
theorem all_zero {P : Nat → Prop} : ∀ j < 0, P j := fun j hj => absurd hj (Nat.not_lt_zero j)
theorem turns {w : World} {F1 F2 F3 F4 : Frame} {q : Pos} {os : OsState} {a b : Addr} {n N : Nat} {T : Nat → BT} {tk tk' : Nat → Nat} {g : Nat → Array GenState} {ch tok : Nat → Nat} {f : Obj}
    (hB : splitAtGen [F1, F2, F3, F4] = none) (ha : 11 ≤ a) (haN : a < N) (h0 : ∀ j, ∃ o0, (T j).get a = some o0) (hf : IsSS [] f) (ht : ∀ j, tk' j + 1 = tk (j + 1)) :
    ∀ k, k < 4000 → (∀ j < k, PieceAt w F1 F2 F3 F4 q os a b n N T tk tk' g ch tok j) → (∀ i < k, ∀ j < i, ch i ≠ ch j) →
    ∃ o, IsSS (codesTo ch tok k) o ∧ Reach w prg (sT ((T 0).set a fun _ => f) N (tk 0) (g 0) os).abs ⟨denote treeTable (lpc a b), lpc a b, q, [F1, F2, F3, F4]⟩ (sT ((T k).set a fun _ => o) N (tk k) (g k) os).abs ⟨denote treeTable (lpc a b), lpc a b, q, [F1, F2, F3, F4]⟩
  | 0, _, _, _ => ⟨f, hf, .refl _ _⟩
  | k + 1, hk, hp, hd => by
    refine X1_2 (turns hB ha haN h0 hf ht k (Nat.lt_of_succ_lt hk) (fun j hj => hp j (Nat.lt_succ_of_lt hj)) fun i hi => hd i (Nat.lt_succ_of_lt hi)) ?_; intro o s r
    refine X1_1 (h0 (k + 1)) ?_; intro o0 h1
    refine X1_2 (turn hB ha haN h1 (hp k (Nat.lt_succ_self k)) s (by rw [codesTo_len]; exact Nat.lt_of_succ_lt hk) fun z => (codesTo_in z).elim fun j y => hd k (Nat.lt_succ_self k) j y.1 y.2) ?_; intro o' s' r'
    rw [ht] at r'
    exact ⟨o', s', r.trans r'⟩
theorem turn_end {w : World} {F1 F2 F3 F4 : Frame} {q : Pos} {os : OsState} {a b : Addr} {T T' : BT} {N N' tk tk' n : Nat} {g g' : Array GenState} (hB : splitAtGen [F1, F2, F3, F4] = none)
    (piece : segRunT treeTable prg w 11 (some (.ref 6)) 4 n (sT T N tk g os) ⟨(pyNext (.ref b)).wrap (fun x => .pure (.done (resF x))) deadEnd id id, lpc a b, q, [F1, F2, F3, F4]⟩ = some (.brk, sT T' N' tk' g' os, lpc a b, q)) :
    Reach w prg (sT T N tk g os).abs ⟨denote treeTable (lpc a b), lpc a b, q, [F1, F2, F3, F4]⟩ (sT T' N' tk' g' os).abs (popT F1 .none [F2, F3, F4]) := by
  have G1 : Go w prg (lpc a b) q [F1, F2, F3, F4] [] (pyNext (.ref b)) (sT T N tk g os).abs none (sT T' N' tk' g' os).abs := Go.seg resF (fun _ _ h => resF_inj h) hB (by simp) piece
  have G : Go w prg (lpc a b) q [F1, F2, F3, F4] [] (nextT b) (sT T N tk g os).abs none (sT T' N' tk' g' os).abs := Go.bind (m := pyNext (.ref b)) G1 (Go.pure _)
  rw [loop_eq]
  exact (G _).trans (reach_pop hB)
structure FrD where
  k : Result → Sem Fin
  g : Bool
  l : List Value
  c : Code
  p : Pos
  kp : List Value
noncomputable def FrD.fr (D : FrD) : Frame := .ret D.k none D.g D.l D.c D.p D.kp
noncomputable def frAt (r : Option (SharedT × Thread)) (i : Nat) : FrD := match r with
  | some (_, t) => match t.stack.getD i (topFrame ps0) with
    | .ret k _ g l c p kp => ⟨k, g, l, c, p, kp⟩
    | .gen .. => ⟨topAfter, false, [], .builtin "" {}, default, []⟩
  | none => ⟨topAfter, false, [], .builtin "" {}, default, []⟩
theorem op_or {w : World} {F1 F2 : Frame} {q : Pos} {os : OsState} {a b : Addr} {T : BT} {N tk : Nat} {g : Array GenState} {ch m : Nat} {tok : Tok} {cs : List (Nat × Tok)} {oa ob : Obj}
    (hB : splitAtGen [F1, F2] = none) (hN : 11 ≤ N) (hab : a ≠ b) (ha : a < N) (hb : b < N) (ga : T.get a = some oa) (gb : T.get b = some ob) (sa : IsSS cs oa) (sb : IsSS [(ch, tok)] ob) (hne : cs ≠ []) (hl : cs.length < 4000) (hF : Full (m + 1)) (hm : cs.length ≤ m) (hmL : m < sizeLine)
    (hr : ∀ led, ((SetTable.fresh 0 0 led).roomFor cs.length = none ∧ (SetTable.fresh 0 0 led).mask = m) ∨ ∃ W, (SetTable.fresh 0 0 led).roomFor cs.length = some W ∧ SetTable.sizeAbove W = m + 1)
    (hr' : (cs.length + 1) * 5 < m * 3) (hcn : ch ∉ cs.map (·.1)) (hins : ∀ o, ((T.ins N o).get N).isSome = true) :
    ∃ o', IsSS ((ch, tok) :: cs) o' ∧ Reach w prg (sT T N tk g os).abs ⟨denote treeTable (.builtin "frozenset.__or__" ⟨[.ref a, .ref b], []⟩), .builtin "frozenset.__or__" ⟨[.ref a, .ref b], []⟩, q, [F1, F2]⟩ (sT (T.ins N o') (N + 1) tk g os).abs (popT F1 (.ref N) [F2]) := by
  have ea : (absHeap T N {}).get? a = some oa := by rw [abs_get ha ga, alive_set sa]
  have eb : (absHeap T N {}).get? b = some ob := by rw [abs_get hb gb, alive_set sb]
  have hsz := absHeap_size T N {}
  refine X1_2 (loc_or (S := ⟨prg, w.params⟩) (tk := tk) (h := absHeap T N {}) (by rw [hsz]; exact hN) hab ea sa hne hl hF hm hmL hr hr' hcn eb sb) ?_; intro o' h1 h2
  refine ⟨o', h1, ?_⟩
  rw [hsz, ← absHeap_ins (hins o')] at h2
  have en : denote treeTable (.builtin "frozenset.__or__" ⟨[.ref a, .ref b], []⟩) = Builtin.«frozenset.__or__» ⟨[.ref a, .ref b], []⟩ := by
    unfold denote
    dsimp only
    rw [show entryFor treeTable "frozenset.__or__" = some Builtin.«frozenset.__or__» from by rw [← table_eq_tree]; exact entryFor_of_tree (by kernel_rfl!)]
  rw [en]
  have r := reach_loc (w := w) (p := prg) (g := g) (d := boot_drawn) (os := os) (c := .builtin "frozenset.__or__" ⟨[.ref a, .ref b], []⟩) (q := q) (st := [F1, F2]) Sem.pure _ _ tk h2
  rw [bind_pure'] at r
  exact r.trans (reach_pop hB)
noncomputable def resB : Bool → Flow := fun b => .ret (.bool b)
theorem resB_inj (x y : Bool) (h : resB x = resB y) : x = y := by cases x <;> cases y <;> simp_all [resB]
theorem entry_sub2 : entryFor treeTable "frozenset.__sub__" = some Builtin.«frozenset.__sub__» := by rw [← table_eq_tree]; exact entryFor_of_tree (by kernel_rfl!)
noncomputable def subC (a b : Addr) : Code := .builtin "frozenset.__sub__" ⟨[.ref a, .ref b], []⟩
theorem op_sub {w : World} {F1 F2 : Frame} {q : Pos} {os : OsState} {a b : Addr} {T : BT} {N tk n : Nat} {g : Array GenState} {k m : Nat} {tok tok' : Tok} {cs : List (Nat × Tok)} {oa ob : Obj}
    (hB : splitAtGen [F1, F2] = none) (hN : 11 ≤ N) (ha : a < N) (hb : b < N) (ga : T.get a = some oa) (gb : T.get b = some ob) (sa : IsSS cs oa) (sb : IsSS [(k, tok')] ob) (hnd : (cs.map (·.1)).Nodup) (hl : cs.length < 4000) (hl8 : 8 ≤ cs.length) (hm : (k, tok) ∈ cs) (hmask : 8 ≤ m)
    (hF : Full (m + 1)) (hmc : cs.length ≤ m) (hmL : m < sizeLine)
    (hr : ∀ led, ((SetTable.fresh 0 0 led).roomFor cs.length = none ∧ (SetTable.fresh 0 0 led).mask = m) ∨ ∃ W, (SetTable.fresh 0 0 led).roomFor cs.length = some W ∧ SetTable.sizeAbove W = m + 1)
    (hins : ∀ o, ((T.ins N o).get N).isSome = true)
    (piece : ∀ (T' : BT) (N' : Nat), segRunT treeTable prg w 11 (some (.ref 6)) 2 n (sT T' N' tk g os) ⟨(kp [[.ref b], [.ref N]] (eqBool (.str ⟨#[k]⟩ tok) (.str ⟨#[k]⟩ tok'))).wrap (fun x => .pure (.done (resB x))) deadEnd id id, subC a b, q, [F1, F2]⟩ = some (.ret (.bool true), sT T' N' tk g os, subC a b, q)) :
    ∃ o', IsSS (cs.erase (k, tok)) o' ∧ Reach w prg (sT T N tk g os).abs ⟨denote treeTable (subC a b), subC a b, q, [F1, F2]⟩ (sT (T.ins N o') (N + 1) tk g os).abs (popT F1 (.ref N) [F2]) := by
  have ea : (absHeap T N {}).get? a = some oa := by rw [abs_get ha ga, alive_set sa]
  have eb : (absHeap T N {}).get? b = some ob := by rw [abs_get hb gb, alive_set sb]
  have hsz := absHeap_size T N {}
  refine X1_2 (go_sub (w := w) (p := prg) (c := subC a b) (q := q) (B := [F1, F2]) (L := []) (g := g) (dr := boot_drawn) (tk := tk) (os := os) (h := absHeap T N {}) (by rw [hsz]; exact hN) ea sa hnd hl hl8 hm hmask hF hmc hmL hr eb sb
    (fun o1 => by
      have := Go.seg (L := [[.ref b], [.ref N]]) (m := eqBool (.str ⟨#[k]⟩ tok) (.str ⟨#[k]⟩ tok')) resB resB_inj (a := true) hB (by simp) (piece (T.ins N o1) (N + 1))
      unfold EqOk
      rw [hsz, ← absHeap_ins (hins o1)]
      exact this)) ?_; intro o' h1 h2
  refine ⟨o', h1, ?_⟩
  have en : denote treeTable (subC a b) = Builtin.«frozenset.__sub__» ⟨[.ref a, .ref b], []⟩ := by
    unfold denote subC
    dsimp only
    rw [entry_sub2]
  rw [hsz, ← absHeap_ins (hins o')] at h2
  have r := h2 Sem.pure
  rw [bind_pure'] at r
  rw [en]
  exact Reach.trans r (reach_pop hB)
end

end
section
open PySem PySem.W PyProof.Rows
set_option maxHeartbeats 0
theorem pc0 (w : World) (X : Sets) (os : OsState) : segRunT treeTable prg w 11 (some (.ref 6)) 1 10 (st0 w.params X os) (piecesOf [bodyL[0]?.getD default] envT codeT ps0 [topFrame ps0]) = some (.next, st1 w.params X os, codeT, ps1) := by rw [Fast.te10110043849684766642, Fast.te14364793385576792824]; unfold piecesOf; rw [Fast.te12563942051412417395]; kernel_rfl!
theorem pc1 (w : World) (X : Sets) (os : OsState) : segRunT treeTable prg w 11 (some (.ref 6)) 1 328 (st1 w.params X os) (piecesOf [bodyL[1]?.getD default] envT codeT ps1 [topFrame ps0]) = some (.next, st2 w.params X os, codeT, ps2) := by rw [Fast.te10110043849684766642, Fast.te14364793385576792824]; unfold piecesOf; rw [Fast.te12563942051412417395]; kernel_rfl!
theorem pc2 (w : World) (X : Sets) (os : OsState) : segRunT treeTable prg w 11 (some (.ref 6)) 1 10 (st2 w.params X os) (piecesOf [bodyL[2]?.getD default] envT codeT ps2 [topFrame ps0]) = some (.next, st3 w.params X os, codeT, ps3) := by rw [Fast.te10110043849684766642, Fast.te14364793385576792824]; unfold piecesOf; rw [Fast.te12563942051412417395]; kernel_rfl!
theorem pc5 (w : World) (X : Sets) (os : OsState) : segRunT treeTable prg w 11 (some (.ref 6)) 1 11 (st5 w.params X os) (piecesOf [bodyL[5]?.getD default] envT codeT ps5 [topFrame ps0]) = some (.next, st6 w.params X os, codeT, ps6) := by rw [Fast.te10110043849684766642, Fast.te14364793385576792824]; unfold piecesOf; rw [Fast.te12563942051412417395]; kernel_rfl!
theorem pc6 (w : World) (X : Sets) (os : OsState) : segRunT treeTable prg w 11 (some (.ref 6)) 1 11 (st6 w.params X os) (piecesOf [bodyL[6]?.getD default] envT codeT ps6 [topFrame ps0]) = some (.next, st7 w.params X os, codeT, ps7) := by rw [Fast.te10110043849684766642, Fast.te14364793385576792824]; unfold piecesOf; rw [Fast.te12563942051412417395]; kernel_rfl!
theorem pc9 (w : World) (X : Sets) (os : OsState) : segRunT treeTable prg w 11 (some (.ref 6)) 1 10 (st9 w.params X os) (piecesOf [bodyL[9]?.getD default] envT codeT ps9 [topFrame ps0]) = some (.next, st10 w.params X os, codeT, ps10) := by rw [Fast.te10110043849684766642, Fast.te14364793385576792824]; unfold piecesOf; rw [Fast.te12563942051412417395]; kernel_rfl!
theorem pc10 (w : World) (X : Sets) (os : OsState) : segRunT treeTable prg w 11 (some (.ref 6)) 1 25 (st10 w.params X os) (piecesOf [bodyL[10]?.getD default] envT codeT ps10 [topFrame ps0]) = some (.next, st11 w.params X os, codeT, ps11) := by rw [Fast.te10110043849684766642, Fast.te14364793385576792824]; unfold piecesOf; rw [Fast.te12563942051412417395]; kernel_rfl!
theorem pc12 (w : World) (X : Sets) (os : OsState) : segRunT treeTable prg w 11 (some (.ref 6)) 1 187 (st12 w.params X os) (piecesOf [bodyL[12]?.getD default] envT codeT ps12 [topFrame ps0]) = some (.next, st13 w.params X os, codeT, ps13) := by rw [Fast.te10110043849684766642, Fast.te14364793385576792824]; unfold piecesOf; rw [Fast.te12563942051412417395]; kernel_rfl!
theorem pc13 (w : World) (X : Sets) (os : OsState) : segRunT treeTable prg w 11 (some (.ref 6)) 1 32 (st13 w.params X os) (piecesOf [bodyL[13]?.getD default] envT codeT ps13 [topFrame ps0]) = some (.next, st14 w.params X os, codeT, ps14) := by rw [Fast.te10110043849684766642, Fast.te14364793385576792824]; unfold piecesOf; rw [Fast.te12563942051412417395]; kernel_rfl!
theorem pc14 (w : World) (X : Sets) (os : OsState) : segRunT treeTable prg w 11 (some (.ref 6)) 1 35 (st14 w.params X os) (piecesOf [bodyL[14]?.getD default] envT codeT ps14 [topFrame ps0]) = some (.next, st15 w.params X os, codeT, ps15) := by rw [Fast.te10110043849684766642, Fast.te14364793385576792824]; unfold piecesOf; rw [Fast.te12563942051412417395]; kernel_rfl!
theorem pc15 (w : World) (X : Sets) (os : OsState) : segRunT treeTable prg w 11 (some (.ref 6)) 1 32 (st15 w.params X os) (piecesOf [bodyL[15]?.getD default] envT codeT ps15 [topFrame ps0]) = some (.next, st16 w.params X os, codeT, ps16) := by rw [Fast.te10110043849684766642, Fast.te14364793385576792824]; unfold piecesOf; rw [Fast.te12563942051412417395]; kernel_rfl!
theorem pc16 (w : World) (X : Sets) (os : OsState) : segRunT treeTable prg w 11 (some (.ref 6)) 1 32 (st16 w.params X os) (piecesOf [bodyL[16]?.getD default] envT codeT ps16 [topFrame ps0]) = some (.next, st17 w.params X os, codeT, ps17) := by rw [Fast.te10110043849684766642, Fast.te14364793385576792824]; unfold piecesOf; rw [Fast.te12563942051412417395]; kernel_rfl!
theorem pc17 (w : World) (X : Sets) (os : OsState) : segRunT treeTable prg w 11 (some (.ref 6)) 1 34 (st17 w.params X os) (piecesOf [bodyL[17]?.getD default] envT codeT ps17 [topFrame ps0]) = some (.next, st18 w.params X os, codeT, ps18) := by rw [Fast.te10110043849684766642, Fast.te14364793385576792824]; unfold piecesOf; rw [Fast.te12563942051412417395]; kernel_rfl!
theorem pc18 (w : World) (X : Sets) (os : OsState) : segRunT treeTable prg w 11 (some (.ref 6)) 1 32 (st18 w.params X os) (piecesOf [bodyL[18]?.getD default] envT codeT ps18 [topFrame ps0]) = some (.next, st19 w.params X os, codeT, ps19) := by rw [Fast.te10110043849684766642, Fast.te14364793385576792824]; unfold piecesOf; rw [Fast.te12563942051412417395]; kernel_rfl!
theorem pc19 (w : World) (X : Sets) (os : OsState) : segRunT treeTable prg w 11 (some (.ref 6)) 1 33 (st19 w.params X os) (piecesOf [bodyL[19]?.getD default] envT codeT ps19 [topFrame ps0]) = some (.next, st20 w.params X os, codeT, ps20) := by rw [Fast.te10110043849684766642, Fast.te14364793385576792824]; unfold piecesOf; rw [Fast.te12563942051412417395]; kernel_rfl!
theorem pc20 (w : World) (X : Sets) (os : OsState) : segRunT treeTable prg w 11 (some (.ref 6)) 1 30 (st20 w.params X os) (piecesOf [bodyL[20]?.getD default] envT codeT ps20 [topFrame ps0]) = some (.next, st21 w.params X os, codeT, ps21) := by rw [Fast.te10110043849684766642, Fast.te14364793385576792824]; unfold piecesOf; rw [Fast.te12563942051412417395]; kernel_rfl!
theorem pc21 (w : World) (X : Sets) (os : OsState) : segRunT treeTable prg w 11 (some (.ref 6)) 1 10 (st21 w.params X os) (piecesOf [bodyL[21]?.getD default] envT codeT ps21 [topFrame ps0]) = some (.next, st22 w.params X os, codeT, ps22) := by rw [Fast.te10110043849684766642, Fast.te14364793385576792824]; unfold piecesOf; rw [Fast.te12563942051412417395]; kernel_rfl!
theorem pc22 (w : World) (X : Sets) (os : OsState) : segRunT treeTable prg w 11 (some (.ref 6)) 1 32 (st22 w.params X os) (piecesOf [bodyL[22]?.getD default] envT codeT ps22 [topFrame ps0]) = some (.next, st23 w.params X os, codeT, ps23) := by rw [Fast.te10110043849684766642, Fast.te14364793385576792824]; unfold piecesOf; rw [Fast.te12563942051412417395]; kernel_rfl!
theorem pc23 (w : World) (X : Sets) (os : OsState) : segRunT treeTable prg w 11 (some (.ref 6)) 1 27 (st23 w.params X os) (piecesOf [bodyL[23]?.getD default] envT codeT ps23 [topFrame ps0]) = some (.next, st24 w.params X os, codeT, ps24) := by rw [Fast.te10110043849684766642, Fast.te14364793385576792824]; unfold piecesOf; rw [Fast.te12563942051412417395]; kernel_rfl!
theorem pc24 (w : World) (X : Sets) (os : OsState) : segRunT treeTable prg w 11 (some (.ref 6)) 1 32 (st24 w.params X os) (piecesOf [bodyL[24]?.getD default] envT codeT ps24 [topFrame ps0]) = some (.next, st25 w.params X os, codeT, ps25) := by rw [Fast.te10110043849684766642, Fast.te14364793385576792824]; unfold piecesOf; rw [Fast.te12563942051412417395]; kernel_rfl!
theorem pc25 (w : World) (X : Sets) (os : OsState) : segRunT treeTable prg w 11 (some (.ref 6)) 1 35 (st25 w.params X os) (piecesOf [bodyL[25]?.getD default] envT codeT ps25 [topFrame ps0]) = some (.next, st26 w.params X os, codeT, ps26) := by rw [Fast.te10110043849684766642, Fast.te14364793385576792824]; unfold piecesOf; rw [Fast.te12563942051412417395]; kernel_rfl!
theorem pc26 (w : World) (X : Sets) (os : OsState) : segRunT treeTable prg w 11 (some (.ref 6)) 1 31 (st26 w.params X os) (piecesOf [bodyL[26]?.getD default] envT codeT ps26 [topFrame ps0]) = some (.next, st27 w.params X os, codeT, ps27) := by rw [Fast.te10110043849684766642, Fast.te14364793385576792824]; unfold piecesOf; rw [Fast.te12563942051412417395]; kernel_rfl!
theorem pc27 (w : World) (X : Sets) (os : OsState) : segRunT treeTable prg w 11 (some (.ref 6)) 1 30 (st27 w.params X os) (piecesOf [bodyL[27]?.getD default] envT codeT ps27 [topFrame ps0]) = some (.next, st28 w.params X os, codeT, ps28) := by rw [Fast.te10110043849684766642, Fast.te14364793385576792824]; unfold piecesOf; rw [Fast.te12563942051412417395]; kernel_rfl!
theorem pc28 (w : World) (X : Sets) (os : OsState) : segRunT treeTable prg w 11 (some (.ref 6)) 1 36 (st28 w.params X os) (piecesOf [bodyL[28]?.getD default] envT codeT ps28 [topFrame ps0]) = some (.next, st29 w.params X os, codeT, ps29) := by rw [Fast.te10110043849684766642, Fast.te14364793385576792824]; unfold piecesOf; rw [Fast.te12563942051412417395]; kernel_rfl!
theorem pc29 (w : World) (X : Sets) (os : OsState) : segRunT treeTable prg w 11 (some (.ref 6)) 1 32 (st29 w.params X os) (piecesOf [bodyL[29]?.getD default] envT codeT ps29 [topFrame ps0]) = some (.next, st30 w.params X os, codeT, ps30) := by rw [Fast.te10110043849684766642, Fast.te14364793385576792824]; unfold piecesOf; rw [Fast.te12563942051412417395]; kernel_rfl!
theorem pc30 (w : World) (X : Sets) (os : OsState) : segRunT treeTable prg w 11 (some (.ref 6)) 1 27 (st30 w.params X os) (piecesOf [bodyL[30]?.getD default] envT codeT ps30 [topFrame ps0]) = some (.next, st31 w.params X os, codeT, ps31) := by rw [Fast.te10110043849684766642, Fast.te14364793385576792824]; unfold piecesOf; rw [Fast.te12563942051412417395]; kernel_rfl!
theorem pc31 (w : World) (X : Sets) (os : OsState) : segRunT treeTable prg w 11 (some (.ref 6)) 1 34 (st31 w.params X os) (piecesOf [bodyL[31]?.getD default] envT codeT ps31 [topFrame ps0]) = some (.next, st32 w.params X os, codeT, ps32) := by rw [Fast.te10110043849684766642, Fast.te14364793385576792824]; unfold piecesOf; rw [Fast.te12563942051412417395]; kernel_rfl!
theorem pc32 (w : World) (X : Sets) (os : OsState) : segRunT treeTable prg w 11 (some (.ref 6)) 1 36 (st32 w.params X os) (piecesOf [bodyL[32]?.getD default] envT codeT ps32 [topFrame ps0]) = some (.next, st33 w.params X os, codeT, ps33) := by rw [Fast.te10110043849684766642, Fast.te14364793385576792824]; unfold piecesOf; rw [Fast.te12563942051412417395]; kernel_rfl!
theorem pc33 (w : World) (X : Sets) (os : OsState) : segRunT treeTable prg w 11 (some (.ref 6)) 1 27 (st33 w.params X os) (piecesOf [bodyL[33]?.getD default] envT codeT ps33 [topFrame ps0]) = some (.next, st34 w.params X os, codeT, ps34) := by rw [Fast.te10110043849684766642, Fast.te14364793385576792824]; unfold piecesOf; rw [Fast.te12563942051412417395]; kernel_rfl!
theorem pc34 (w : World) (X : Sets) (os : OsState) : segRunT treeTable prg w 11 (some (.ref 6)) 1 33 (st34 w.params X os) (piecesOf [bodyL[34]?.getD default] envT codeT ps34 [topFrame ps0]) = some (.next, st35 w.params X os, codeT, ps35) := by rw [Fast.te10110043849684766642, Fast.te14364793385576792824]; unfold piecesOf; rw [Fast.te12563942051412417395]; kernel_rfl!
theorem pc35 (w : World) (X : Sets) (os : OsState) : segRunT treeTable prg w 11 (some (.ref 6)) 1 27 (st35 w.params X os) (piecesOf [bodyL[35]?.getD default] envT codeT ps35 [topFrame ps0]) = some (.next, st36 w.params X os, codeT, ps36) := by rw [Fast.te10110043849684766642, Fast.te14364793385576792824]; unfold piecesOf; rw [Fast.te12563942051412417395]; kernel_rfl!
theorem pc36 (w : World) (X : Sets) (os : OsState) : segRunT treeTable prg w 11 (some (.ref 6)) 1 27 (st36 w.params X os) (piecesOf [bodyL[36]?.getD default] envT codeT ps36 [topFrame ps0]) = some (.next, st37 w.params X os, codeT, ps37) := by rw [Fast.te10110043849684766642, Fast.te14364793385576792824]; unfold piecesOf; rw [Fast.te12563942051412417395]; kernel_rfl!

end
section
open PySem PySem.W PyProof.Rows
set_option maxHeartbeats 0
noncomputable section
noncomputable def itO (s : Value) (i : Int) : Obj := ⟨(.type "str_ascii_iterator"), none, (.fields #[s, (.int i 0)]), #[]⟩
noncomputable def freshO (P : Params) : Obj := setO #[] 0 (SetTable.fresh 0 0 (!P.followText "set-order"))
theorem fresh_ss (P : Params) : IsSS [] (freshO P) := ⟨_, _, _, rfl, fresh_fit _, [], rfl, .refl _⟩
noncomputable def segN (i : Nat) : Stmt := bodyL[i]?.getD default
theorem byRow (r : String) {P : World → Prop} (h : ∀ (w : World) (b : Bool), P (w.withFollow r b)) : ∀ w, P w := fun w => by have := h w (w.params.followText r); rwa [World.withFollow_self] at this
noncomputable def T7 (P : Params) (X : Sets) (i : Int) : BT := (TT P X 81 (mainO P (.str (Str.ofString "cpy313.tomllib._parser") 251) 13 14) (tabO 6)).set 80 (fun _ => itO (.str ⟨#[32, 9]⟩ 403) i)
noncomputable def E7 (P : Params) (X : Sets) : BT := TT P X 83 (mainO P (.str (Str.ofString "cpy313.tomllib._parser") 251) 13 14) (tabO 6)
theorem p7_0 (w : World) (X : Sets) (os : OsState) (D1 D2 D3 D4 : FrD) (o : Obj) : segRunT treeTable prg w 11 (some (.ref 6)) 4 40 (sT ((T7 w.params X 0).set 79 fun _ => o) 81 404 (Array.mk [GenState.finished]) os) ⟨(pyNext (.ref 80)).wrap (fun x => .pure (.done (resF x))) deadEnd id id, lpc 79 80, ⟨55, 10, 55, 26⟩, [D1.fr, D2.fr, D3.fr, D4.fr]⟩ = some (.ret (.str ⟨#[32]⟩ 404), sT ((T7 w.params X 1).set 79 fun _ => o) 81 405 (Array.mk [GenState.finished]) os, lpc 79 80, ⟨55, 10, 55, 26⟩) := by rw [Fast.te10110043849684766642, Fast.te14364793385576792824, Fast.te9404975358583537561]; kernel_rfl!
theorem p7_1 (w : World) (X : Sets) (os : OsState) (D1 D2 D3 D4 : FrD) (o : Obj) : segRunT treeTable prg w 11 (some (.ref 6)) 4 40 (sT ((T7 w.params X 1).set 79 fun _ => o) 81 406 (Array.mk [GenState.finished]) os) ⟨(pyNext (.ref 80)).wrap (fun x => .pure (.done (resF x))) deadEnd id id, lpc 79 80, ⟨55, 10, 55, 26⟩, [D1.fr, D2.fr, D3.fr, D4.fr]⟩ = some (.ret (.str ⟨#[9]⟩ 406), sT ((T7 w.params X 2).set 79 fun _ => o) 81 407 (Array.mk [GenState.finished]) os, lpc 79 80, ⟨55, 10, 55, 26⟩) := by rw [Fast.te10110043849684766642, Fast.te14364793385576792824, Fast.te9404975358583537561]; kernel_rfl!
theorem p7_e (w : World) (X : Sets) (os : OsState) (D1 D2 D3 D4 : FrD) (o : Obj) : segRunT treeTable prg w 11 (some (.ref 6)) 4 40 (sT ((T7 w.params X 2).set 79 fun _ => o) 81 408 (Array.mk [GenState.finished]) os) ⟨(pyNext (.ref 80)).wrap (fun x => .pure (.done (resF x))) deadEnd id id, lpc 79 80, ⟨55, 10, 55, 26⟩, [D1.fr, D2.fr, D3.fr, D4.fr]⟩ = some (.brk, sT ((E7 w.params X).set 79 fun _ => o) 83 408 (Array.mk [GenState.finished]) os, lpc 79 80, ⟨55, 10, 55, 26⟩) := by
  revert w; refine byRow SGR ?_; intro w b; rw [Fast.te10110043849684766642, Fast.te14364793385576792824, Fast.te9404975358583537561]; cases b <;> kernel_rfl!
theorem lp7 (w : World) (X : Sets) (os : OsState) (D1 D2 D3 D4 : FrD) : ∃ o, IsSS [(9, 406), (32, 404)] o ∧ Reach w prg (sT ((T7 w.params X 0).set 79 fun _ => freshO w.params) 81 404 (Array.mk [GenState.finished]) os).abs ⟨denote treeTable (lpc 79 80), lpc 79 80, ⟨55, 10, 55, 26⟩, [D1.fr, D2.fr, D3.fr, D4.fr]⟩ (sT ((E7 w.params X).set 79 fun _ => o) 83 408 (Array.mk [GenState.finished]) os).abs (popT D1.fr .none [D2.fr, D3.fr, D4.fr]) := by
  have g : ∀ i, ∃ o0, (T7 w.params X i).get 79 = some o0 := fun i => ⟨_, by unfold T7; rw [BT.get_set, if_neg (by decide)]; exact (by kernel_rfl! : (TT w.params X 81 (mainO w.params (.str (Str.ofString "cpy313.tomllib._parser") 251) 13 14) (tabO 6)).get 79 = some ((objL w.params X).getD 79 default))⟩
  have s0 := fresh_ss w.params
  refine X1_2 (turn (F1 := D1.fr) (F2 := D2.fr) (F3 := D3.fr) (F4 := D4.fr) rfl (by decide) (by decide) (g 1).choose_spec (p7_0 w X os D1 D2 D3 D4) s0 (by simp) (by simp)) ?_; intro o1 s1 r1
  refine X1_2 (turn (F1 := D1.fr) (F2 := D2.fr) (F3 := D3.fr) (F4 := D4.fr) rfl (by decide) (by decide) (g 2).choose_spec (p7_1 w X os D1 D2 D3 D4) s1 (by simp) (by simp)) ?_; intro o2 s2 r2
  refine ⟨_, s2, ?_⟩
  exact r1.trans (r2.trans (turn_end rfl (p7_e w X os D1 D2 D3 D4 _)))
noncomputable def r7 (w : World) (X : Sets) (os : OsState) := segGoT treeTable prg w 11 (some (.ref 6)) 1 19 (st7 w.params X os) (piecesOf [segN 7] envT codeT ps7 [topFrame ps0])
theorem a7 (w : World) (X : Sets) (os : OsState) : r7 w X os = some (sT ((T7 w.params X 0).set 79 fun _ => freshO w.params) 81 404 (Array.mk [GenState.finished]) os, ⟨denote treeTable (lpc 79 80), lpc 79 80, ⟨55, 10, 55, 26⟩, [(frAt (r7 w X os) 0).fr, (frAt (r7 w X os) 1).fr, (frAt (r7 w X os) 2).fr, (frAt (r7 w X os) 3).fr]⟩) := by
  revert w; refine byRow SGR ?_; intro w b; unfold r7 piecesOf; rw [Fast.te10295753902157049106, Fast.te14364793385576792824, Fast.te12563942051412417395, Fast.te11892475500146522536]; cases b <;> kernel_rfl!
theorem z7 (w : World) (X : Sets) (os : OsState) (es : Array Ent) (n : Nat) (t : SetTable) : segRunT treeTable prg w 11 (some (.ref 6)) 1 60 (sT ((E7 w.params X).set 79 fun _ => (setO es n t)) 83 408 (Array.mk [GenState.finished]) os) (popT (frAt (r7 w X os) 0).fr .none [(frAt (r7 w X os) 1).fr, (frAt (r7 w X os) 2).fr, (frAt (r7 w X os) 3).fr]) = some (.next, st8 w.params { X with s79 := (setO es n t) } os, codeT, ps8) := by
  revert w; refine byRow SGR ?_; intro w b; unfold r7 piecesOf; rw [Fast.te10110043849684766642, Fast.te14364793385576792824, Fast.te10295753902157049106, Fast.te12563942051412417395]; cases b <;> kernel_rfl!
theorem B7 (w : World) (X : Sets) (os : OsState) : ∃ o, IsSS [(9, 406), (32, 404)] o ∧ ∃ n, segRun treeTable prg w 11 (some (.ref 6)) 1 n (st7 w.params X os).abs (piecesOf [segN 7] envT codeT ps7 [topFrame ps0]) = some (.next, (st8 w.params { X with s79 := o } os).abs, codeT, ps8) := by
  refine X1_2 (lp7 w X os (frAt (r7 w X os) 0) (frAt (r7 w X os) 1) (frAt (r7 w X os) 2) (frAt (r7 w X os) 3)) ?_; intro o s r
  refine X3_2 (id s) ?_; intro es m t e _
  subst e
  refine X1_1 ((Reach.ofT (a7 w X os)).trans r) ?_; intro n hn
  exact ⟨_, s, _, seg_go hn (segRun_of (z7 w X os es m t))⟩
noncomputable def T11 (P : Params) (X : Sets) (i : Int) : BT := (TT P X 90 (mainO P (.str (Str.ofString "cpy313.tomllib._parser") 251) 17 18) (tabO 6)).set 89 (fun _ => itO (.str ⟨#[48, 49, 50, 51, 52, 53, 54, 55, 56, 57, 97, 98, 99, 100, 101, 102, 65, 66, 67, 68, 69, 70]⟩ 418) i)
noncomputable def E11 (P : Params) (X : Sets) : BT := TT P X 92 (mainO P (.str (Str.ofString "cpy313.tomllib._parser") 251) 17 18) (tabO 6)
noncomputable def ch11 (j : Nat) : Nat := [48, 49, 50, 51, 52, 53, 54, 55, 56, 57, 97, 98, 99, 100, 101, 102, 65, 66, 67, 68, 69, 70].getD j 0
theorem p11 (w : World) (X : Sets) (os : OsState) (D1 D2 D3 D4 : FrD) : ∀ j < 22, PieceAt w D1.fr D2.fr D3.fr D4.fr ⟨59, 17, 59, 37⟩ os 88 89 40 90 (fun j => T11 w.params X j) (fun j => 420 + 2 * j) (fun j => 421 + 2 * j) (fun _ => Array.mk [GenState.finished]) ch11 (fun j => 420 + 2 * j) j := by
  unfold PieceAt; rw [Fast.te10110043849684766642, Fast.te14364793385576792824, Fast.te9404975358583537561]
  iterate 22 refine all_succ (fun o => by kernel_rfl!) ?_
  exact all_zero
theorem p11_e (w : World) (X : Sets) (os : OsState) (D1 D2 D3 D4 : FrD) (o : Obj) : segRunT treeTable prg w 11 (some (.ref 6)) 4 40 (sT ((T11 w.params X 22).set 88 fun _ => o) 90 464 (Array.mk [GenState.finished]) os) ⟨(pyNext (.ref 89)).wrap (fun x => .pure (.done (resF x))) deadEnd id id, lpc 88 89, ⟨59, 17, 59, 37⟩, [D1.fr, D2.fr, D3.fr, D4.fr]⟩ = some (.brk, sT ((E11 w.params X).set 88 fun _ => o) 92 464 (Array.mk [GenState.finished]) os, lpc 88 89, ⟨59, 17, 59, 37⟩) := by
  revert w; refine byRow SGR ?_; intro w b; rw [Fast.te10110043849684766642, Fast.te14364793385576792824, Fast.te9404975358583537561]; cases b <;> kernel_rfl!
theorem lp11 (w : World) (X : Sets) (os : OsState) (D1 D2 D3 D4 : FrD) : ∃ o, IsSS [(70, 462), (69, 460), (68, 458), (67, 456), (66, 454), (65, 452), (102, 450), (101, 448), (100, 446), (99, 444), (98, 442), (97, 440), (57, 438), (56, 436), (55, 434), (54, 432), (53, 430), (52, 428), (51, 426), (50, 424), (49, 422), (48, 420)] o ∧ Reach w prg (sT ((T11 w.params X 0).set 88 fun _ => freshO w.params) 90 420 (Array.mk [GenState.finished]) os).abs ⟨denote treeTable (lpc 88 89), lpc 88 89, ⟨59, 17, 59, 37⟩, [D1.fr, D2.fr, D3.fr, D4.fr]⟩ (sT ((E11 w.params X).set 88 fun _ => o) 92 464 (Array.mk [GenState.finished]) os).abs (popT D1.fr .none [D2.fr, D3.fr, D4.fr]) := by
  have g : ∀ i, ∃ o0, (T11 w.params X i).get 88 = some o0 := fun i => ⟨_, by unfold T11; rw [BT.get_set, if_neg (by decide)]; exact (by kernel_rfl! : (TT w.params X 90 (mainO w.params (.str (Str.ofString "cpy313.tomllib._parser") 251) 17 18) (tabO 6)).get 88 = some ((objL w.params X).getD 88 default))⟩
  refine X1_2 (turns (F1 := D1.fr) (F2 := D2.fr) (F3 := D3.fr) (F4 := D4.fr) (T := fun j => T11 w.params X j) (tk := fun j => 420 + 2 * j) rfl (by decide) (by decide) (fun j => g j) (fresh_ss w.params) (fun j => by lia) 22 (by decide) (p11 w X os D1 D2 D3 D4) (by decide +kernel)) ?_; intro o s r
  exact ⟨o, s, r.trans (turn_end rfl (p11_e w X os D1 D2 D3 D4 o))⟩
noncomputable def r11 (w : World) (X : Sets) (os : OsState) := segGoT treeTable prg w 11 (some (.ref 6)) 1 20 (st11 w.params X os) (piecesOf [segN 11] envT codeT ps11 [topFrame ps0])
theorem a11 (w : World) (X : Sets) (os : OsState) : r11 w X os = some (sT ((T11 w.params X 0).set 88 fun _ => freshO w.params) 90 420 (Array.mk [GenState.finished]) os, ⟨denote treeTable (lpc 88 89), lpc 88 89, ⟨59, 17, 59, 37⟩, [(frAt (r11 w X os) 0).fr, (frAt (r11 w X os) 1).fr, (frAt (r11 w X os) 2).fr, (frAt (r11 w X os) 3).fr]⟩) := by
  revert w; refine byRow SGR ?_; intro w b; unfold r11 piecesOf; rw [Fast.te10295753902157049106, Fast.te14364793385576792824, Fast.te12563942051412417395, Fast.te11892475500146522536]; cases b <;> kernel_rfl!
theorem z11 (w : World) (X : Sets) (os : OsState) (es : Array Ent) (n : Nat) (t : SetTable) : segRunT treeTable prg w 11 (some (.ref 6)) 1 60 (sT ((E11 w.params X).set 88 fun _ => (setO es n t)) 92 464 (Array.mk [GenState.finished]) os) (popT (frAt (r11 w X os) 0).fr .none [(frAt (r11 w X os) 1).fr, (frAt (r11 w X os) 2).fr, (frAt (r11 w X os) 3).fr]) = some (.next, st12 w.params { X with s88 := (setO es n t) } os, codeT, ps12) := by
  revert w; refine byRow SGR ?_; intro w b; unfold r11 piecesOf; rw [Fast.te10110043849684766642, Fast.te14364793385576792824, Fast.te10295753902157049106, Fast.te12563942051412417395]; cases b <;> kernel_rfl!
theorem B11 (w : World) (X : Sets) (os : OsState) : ∃ o, IsSS [(70, 462), (69, 460), (68, 458), (67, 456), (66, 454), (65, 452), (102, 450), (101, 448), (100, 446), (99, 444), (98, 442), (97, 440), (57, 438), (56, 436), (55, 434), (54, 432), (53, 430), (52, 428), (51, 426), (50, 424), (49, 422), (48, 420)] o ∧ ∃ n, segRun treeTable prg w 11 (some (.ref 6)) 1 n (st11 w.params X os).abs (piecesOf [segN 11] envT codeT ps11 [topFrame ps0]) = some (.next, (st12 w.params { X with s88 := o } os).abs, codeT, ps12) := by
  refine X1_2 (lp11 w X os (frAt (r11 w X os) 0) (frAt (r11 w X os) 1) (frAt (r11 w X os) 2) (frAt (r11 w X os) 3)) ?_; intro o s r
  refine X3_2 (id s) ?_; intro es m t e _
  subst e
  refine X1_1 ((Reach.ofT (a11 w X os)).trans r) ?_; intro n hn
  exact ⟨_, s, _, seg_go hn (segRun_of (z11 w X os es m t))⟩
noncomputable def T8 (P : Params) (X : Sets) (i : Int) : BT := (TT P X 85 (mainO P (.str (Str.ofString "cpy313.tomllib._parser") 251) 14 15) (tabO 6)).set 84 (fun _ => itO (.str ⟨#[10]⟩ 409) i)
noncomputable def E8 (P : Params) (X : Sets) : BT := TT P X 87 (mainO P (.str (Str.ofString "cpy313.tomllib._parser") 251) 14 15) (tabO 6)
theorem p8_0 (w : World) (X : Sets) (os : OsState) (D1 D2 D3 D4 : FrD) (o : Obj) : segRunT treeTable prg w 11 (some (.ref 6)) 4 40 (sT ((T8 w.params X 0).set 83 fun _ => o) 85 410 (Array.mk [GenState.finished]) os) ⟨(pyNext (.ref 84)).wrap (fun x => .pure (.done (resF x))) deadEnd id id, lpc 83 84, ⟨56, 32, 56, 47⟩, [D1.fr, D2.fr, D3.fr, D4.fr]⟩ = some (.ret (.str ⟨#[10]⟩ 410), sT ((T8 w.params X 1).set 83 fun _ => o) 85 411 (Array.mk [GenState.finished]) os, lpc 83 84, ⟨56, 32, 56, 47⟩) := by rw [Fast.te10110043849684766642, Fast.te14364793385576792824, Fast.te9404975358583537561]; kernel_rfl!
theorem p8_e (w : World) (X : Sets) (os : OsState) (D1 D2 D3 D4 : FrD) (o : Obj) : segRunT treeTable prg w 11 (some (.ref 6)) 4 40 (sT ((T8 w.params X 1).set 83 fun _ => o) 85 412 (Array.mk [GenState.finished]) os) ⟨(pyNext (.ref 84)).wrap (fun x => .pure (.done (resF x))) deadEnd id id, lpc 83 84, ⟨56, 32, 56, 47⟩, [D1.fr, D2.fr, D3.fr, D4.fr]⟩ = some (.brk, sT ((E8 w.params X).set 83 fun _ => o) 87 412 (Array.mk [GenState.finished]) os, lpc 83 84, ⟨56, 32, 56, 47⟩) := by
  revert w; refine byRow SGR ?_; intro w b; rw [Fast.te10110043849684766642, Fast.te14364793385576792824, Fast.te9404975358583537561]; cases b <;> kernel_rfl!
theorem lp8 (w : World) (X : Sets) (os : OsState) (D1 D2 D3 D4 : FrD) : ∃ o, IsSS [(10, 410)] o ∧ Reach w prg (sT ((T8 w.params X 0).set 83 fun _ => freshO w.params) 85 410 (Array.mk [GenState.finished]) os).abs ⟨denote treeTable (lpc 83 84), lpc 83 84, ⟨56, 32, 56, 47⟩, [D1.fr, D2.fr, D3.fr, D4.fr]⟩ (sT ((E8 w.params X).set 83 fun _ => o) 87 412 (Array.mk [GenState.finished]) os).abs (popT D1.fr .none [D2.fr, D3.fr, D4.fr]) := by
  have g : ∀ i, ∃ o0, (T8 w.params X i).get 83 = some o0 := fun i => ⟨_, by unfold T8; rw [BT.get_set, if_neg (by decide)]; exact (by kernel_rfl! : (TT w.params X 85 (mainO w.params (.str (Str.ofString "cpy313.tomllib._parser") 251) 14 15) (tabO 6)).get 83 = some ((objL w.params X).getD 83 default))⟩
  have s0 := fresh_ss w.params
  refine X1_2 (turn (F1 := D1.fr) (F2 := D2.fr) (F3 := D3.fr) (F4 := D4.fr) rfl (by decide) (by decide) (g 1).choose_spec (p8_0 w X os D1 D2 D3 D4) s0 (by simp) (by simp)) ?_; intro o1 s1 r1
  refine ⟨_, s1, ?_⟩
  exact r1.trans (turn_end rfl (p8_e w X os D1 D2 D3 D4 _))
noncomputable def r8 (w : World) (X : Sets) (os : OsState) := segGoT treeTable prg w 11 (some (.ref 6)) 1 21 (st8 w.params X os) (piecesOf [segN 8] envT codeT ps8 [topFrame ps0])
theorem a8 (w : World) (X : Sets) (os : OsState) : r8 w X os = some (sT ((T8 w.params X 0).set 83 fun _ => freshO w.params) 85 410 (Array.mk [GenState.finished]) os, ⟨denote treeTable (lpc 83 84), lpc 83 84, ⟨56, 32, 56, 47⟩, [(frAt (r8 w X os) 0).fr, (frAt (r8 w X os) 1).fr, (frAt (r8 w X os) 2).fr, (frAt (r8 w X os) 3).fr]⟩) := by
  revert w; refine byRow SGR ?_; intro w b; unfold r8 piecesOf; rw [Fast.te10295753902157049106, Fast.te14364793385576792824, Fast.te12563942051412417395, Fast.te11892475500146522536]; cases b <;> kernel_rfl!
noncomputable def q8 (w : World) (X : Sets) (os : OsState) (es : Array Ent) (n : Nat) (t : SetTable) := segGoT treeTable prg w 11 (some (.ref 6)) 1 17 (sT ((E8 w.params X).set 83 fun _ => (setO es n t)) 87 412 (Array.mk [GenState.finished]) os) (popT (frAt (r8 w X os) 0).fr .none [(frAt (r8 w X os) 1).fr, (frAt (r8 w X os) 2).fr, (frAt (r8 w X os) 3).fr])
theorem c8 (w : World) (X : Sets) (os : OsState) (e0 : Array Ent) (n0 : Nat) (t0 : SetTable) (es : Array Ent) (n : Nat) (t : SetTable) : q8 w { X with s79 := setO e0 n0 t0 } os es n t = some ((sT ((E8 w.params { X with s79 := setO e0 n0 t0 }).set 83 fun _ => (setO es n t)) 87 412 (Array.mk [GenState.finished]) os), ⟨denote treeTable (.builtin "frozenset.__or__" ⟨[.ref 79, .ref 83], []⟩), .builtin "frozenset.__or__" ⟨[.ref 79, .ref 83], []⟩, ⟨56, 22, 56, 47⟩, [(frAt (q8 w { X with s79 := setO e0 n0 t0 } os es n t) 0).fr, (frAt (q8 w { X with s79 := setO e0 n0 t0 } os es n t) 1).fr]⟩) := by
  revert w; refine byRow SGR ?_; intro w b; unfold q8 r8 piecesOf; rw [Fast.te10295753902157049106, Fast.te14364793385576792824, Fast.te12563942051412417395, Fast.te11892475500146522536]; cases b <;> kernel_rfl!
theorem z8 (w : World) (X : Sets) (os : OsState) (e0 : Array Ent) (n0 : Nat) (t0 : SetTable) (es : Array Ent) (n : Nat) (t : SetTable) (o2 : Obj) : segRunT treeTable prg w 11 (some (.ref 6)) 1 60 (sT (((E8 w.params { X with s79 := setO e0 n0 t0 }).set 83 fun _ => (setO es n t)).ins 87 o2) 88 412 (Array.mk [GenState.finished]) os) (popT (frAt (q8 w { X with s79 := setO e0 n0 t0 } os es n t) 0).fr (.ref 87) [(frAt (q8 w { X with s79 := setO e0 n0 t0 } os es n t) 1).fr]) = some (.next, st9 w.params { X with s79 := setO e0 n0 t0, s83 := (setO es n t), s87 := o2 } os, codeT, ps9) := by
  revert w; refine byRow SGR ?_; intro w b; unfold q8 r8 piecesOf; rw [Fast.te10110043849684766642, Fast.te14364793385576792824, Fast.te10295753902157049106, Fast.te12563942051412417395]; cases b <;> kernel_rfl!
theorem B8 (w : World) (X : Sets) (os : OsState) (e0 : Array Ent) (n0 : Nat) (t0 : SetTable) (hX : IsSS [(9, 406), (32, 404)] (setO e0 n0 t0)) : ∃ o o2, IsSS ((10, 410) :: [(9, 406), (32, 404)]) o2 ∧ ∃ n, segRun treeTable prg w 11 (some (.ref 6)) 1 n (st8 w.params { X with s79 := setO e0 n0 t0 } os).abs (piecesOf [segN 8] envT codeT ps8 [topFrame ps0]) = some (.next, (st9 w.params { X with s79 := setO e0 n0 t0, s83 := o, s87 := o2 } os).abs, codeT, ps9) := by
  refine X1_2 (lp8 w { X with s79 := setO e0 n0 t0 } os (frAt (r8 w { X with s79 := setO e0 n0 t0 } os) 0) (frAt (r8 w { X with s79 := setO e0 n0 t0 } os) 1) (frAt (r8 w { X with s79 := setO e0 n0 t0 } os) 2) (frAt (r8 w { X with s79 := setO e0 n0 t0 } os) 3)) ?_; intro o s r
  refine X3_2 (id s) ?_; intro es n t e _
  subst e
  refine X1_2 (op_or (w := w) (F1 := (frAt (q8 w { X with s79 := setO e0 n0 t0 } os es n t) 0).fr) (F2 := (frAt (q8 w { X with s79 := setO e0 n0 t0 } os es n t) 1).fr) (q := ⟨56, 22, 56, 47⟩) (os := os) (a := 79) (b := 83) (T := (E8 w.params { X with s79 := setO e0 n0 t0 }).set 83 fun _ => (setO es n t)) (N := 87) (tk := 412) (g := Array.mk [GenState.finished]) (m := 7) (oa := setO e0 n0 t0) rfl (by decide) (by decide) (by decide) (by decide) (by kernel_rfl!) (by kernel_rfl!) hX s (by simp) (by decide) full8 (by decide) (by decide) (fun led => .inl ⟨by cases led <;> decide, by cases led <;> rfl⟩) (by decide) (by decide) (fun o => by kernel_rfl!)) ?_; intro o2 s2 r2
  refine X1_1 (((Reach.ofT (a8 w { X with s79 := setO e0 n0 t0 } os)).trans r).trans ((Reach.ofT (c8 w X os e0 n0 t0 es n t)).trans r2)) ?_; intro k hk
  exact ⟨_, o2, s2, _, seg_go hk (segRun_of (z8 w X os e0 n0 t0 es n t o2))⟩
noncomputable def T4 (P : Params) (X : Sets) (i : Int) : BT := (TT P X 76 (mainO P (.str (Str.ofString "cpy313.tomllib._parser") 251) 10 11) (tabO 6)).set 75 (fun _ => itO (.str ⟨#[9]⟩ 397) i)
noncomputable def E4 (P : Params) (X : Sets) : BT := TT P X 78 (mainO P (.str (Str.ofString "cpy313.tomllib._parser") 251) 10 11) (tabO 6)
theorem p4_0 (w : World) (X : Sets) (os : OsState) (D1 D2 D3 D4 : FrD) (o : Obj) : segRunT treeTable prg w 11 (some (.ref 6)) 4 40 (sT ((T4 w.params X 0).set 74 fun _ => o) 76 398 (Array.mk [GenState.finished]) os) ⟨(pyNext (.ref 75)).wrap (fun x => .pure (.done (resF x))) deadEnd id id, lpc 74 75, ⟨52, 39, 52, 54⟩, [D1.fr, D2.fr, D3.fr, D4.fr]⟩ = some (.ret (.str ⟨#[9]⟩ 398), sT ((T4 w.params X 1).set 74 fun _ => o) 76 399 (Array.mk [GenState.finished]) os, lpc 74 75, ⟨52, 39, 52, 54⟩) := by rw [Fast.te10110043849684766642, Fast.te14364793385576792824, Fast.te9404975358583537561]; kernel_rfl!
theorem p4_e (w : World) (X : Sets) (os : OsState) (D1 D2 D3 D4 : FrD) (o : Obj) : segRunT treeTable prg w 11 (some (.ref 6)) 4 40 (sT ((T4 w.params X 1).set 74 fun _ => o) 76 400 (Array.mk [GenState.finished]) os) ⟨(pyNext (.ref 75)).wrap (fun x => .pure (.done (resF x))) deadEnd id id, lpc 74 75, ⟨52, 39, 52, 54⟩, [D1.fr, D2.fr, D3.fr, D4.fr]⟩ = some (.brk, sT ((E4 w.params X).set 74 fun _ => o) 78 400 (Array.mk [GenState.finished]) os, lpc 74 75, ⟨52, 39, 52, 54⟩) := by
  revert w; refine byRow SGR ?_; intro w b; rw [Fast.te10110043849684766642, Fast.te14364793385576792824, Fast.te9404975358583537561]; cases b <;> kernel_rfl!
theorem lp4 (w : World) (X : Sets) (os : OsState) (D1 D2 D3 D4 : FrD) : ∃ o, IsSS [(9, 398)] o ∧ Reach w prg (sT ((T4 w.params X 0).set 74 fun _ => freshO w.params) 76 398 (Array.mk [GenState.finished]) os).abs ⟨denote treeTable (lpc 74 75), lpc 74 75, ⟨52, 39, 52, 54⟩, [D1.fr, D2.fr, D3.fr, D4.fr]⟩ (sT ((E4 w.params X).set 74 fun _ => o) 78 400 (Array.mk [GenState.finished]) os).abs (popT D1.fr .none [D2.fr, D3.fr, D4.fr]) := by
  have g : ∀ i, ∃ o0, (T4 w.params X i).get 74 = some o0 := fun i => ⟨_, by unfold T4; rw [BT.get_set, if_neg (by decide)]; exact (by kernel_rfl! : (TT w.params X 76 (mainO w.params (.str (Str.ofString "cpy313.tomllib._parser") 251) 10 11) (tabO 6)).get 74 = some ((objL w.params X).getD 74 default))⟩
  have s0 := fresh_ss w.params
  refine X1_2 (turn (F1 := D1.fr) (F2 := D2.fr) (F3 := D3.fr) (F4 := D4.fr) rfl (by decide) (by decide) (g 1).choose_spec (p4_0 w X os D1 D2 D3 D4) s0 (by simp) (by simp)) ?_; intro o1 s1 r1
  refine ⟨_, s1, ?_⟩
  exact r1.trans (turn_end rfl (p4_e w X os D1 D2 D3 D4 _))
noncomputable def r4 (w : World) (X : Sets) (os : OsState) := segGoT treeTable prg w 11 (some (.ref 6)) 1 21 (st4 w.params X os) (piecesOf [segN 4] envT codeT ps4 [topFrame ps0])
theorem a4 (w : World) (X : Sets) (os : OsState) : r4 w X os = some (sT ((T4 w.params X 0).set 74 fun _ => freshO w.params) 76 398 (Array.mk [GenState.finished]) os, ⟨denote treeTable (lpc 74 75), lpc 74 75, ⟨52, 39, 52, 54⟩, [(frAt (r4 w X os) 0).fr, (frAt (r4 w X os) 1).fr, (frAt (r4 w X os) 2).fr, (frAt (r4 w X os) 3).fr]⟩) := by
  revert w; refine byRow SGR ?_; intro w b; unfold r4 piecesOf; rw [Fast.te10295753902157049106, Fast.te14364793385576792824, Fast.te12563942051412417395, Fast.te11892475500146522536]; cases b <;> kernel_rfl!
noncomputable def q4 (w : World) (X : Sets) (os : OsState) (es : Array Ent) (n : Nat) (t : SetTable) := segGoT treeTable prg w 11 (some (.ref 6)) 1 17 (sT ((E4 w.params X).set 74 fun _ => (setO es n t)) 78 400 (Array.mk [GenState.finished]) os) (popT (frAt (r4 w X os) 0).fr .none [(frAt (r4 w X os) 1).fr, (frAt (r4 w X os) 2).fr, (frAt (r4 w X os) 3).fr])
theorem c4 (w : World) (X : Sets) (os : OsState) (e0 : Array Ent) (n0 : Nat) (t0 : SetTable) (es : Array Ent) (n : Nat) (t : SetTable) : q4 w { X with s73 := setO e0 n0 t0 } os es n t = some ((sT ((E4 w.params { X with s73 := setO e0 n0 t0 }).set 74 fun _ => (setO es n t)) 78 400 (Array.mk [GenState.finished]) os), ⟨denote treeTable (.builtin "frozenset.__sub__" ⟨[.ref 73, .ref 74], []⟩), .builtin "frozenset.__sub__" ⟨[.ref 73, .ref 74], []⟩, ⟨52, 26, 52, 54⟩, [(frAt (q4 w { X with s73 := setO e0 n0 t0 } os es n t) 0).fr, (frAt (q4 w { X with s73 := setO e0 n0 t0 } os es n t) 1).fr]⟩) := by
  revert w; refine byRow SGR ?_; intro w b; unfold q4 r4 piecesOf; rw [Fast.te10295753902157049106, Fast.te14364793385576792824, Fast.te12563942051412417395, Fast.te11892475500146522536]; cases b <;> kernel_rfl!
theorem z4 (w : World) (X : Sets) (os : OsState) (e0 : Array Ent) (n0 : Nat) (t0 : SetTable) (es : Array Ent) (n : Nat) (t : SetTable) (o2 : Obj) : segRunT treeTable prg w 11 (some (.ref 6)) 1 60 (sT (((E4 w.params { X with s73 := setO e0 n0 t0 }).set 74 fun _ => (setO es n t)).ins 78 o2) 79 400 (Array.mk [GenState.finished]) os) (popT (frAt (q4 w { X with s73 := setO e0 n0 t0 } os es n t) 0).fr (.ref 78) [(frAt (q4 w { X with s73 := setO e0 n0 t0 } os es n t) 1).fr]) = some (.next, st5 w.params { X with s73 := setO e0 n0 t0, s74 := (setO es n t), s78 := o2 } os, codeT, ps5) := by
  revert w; refine byRow SGR ?_; intro w b; unfold q4 r4 piecesOf; rw [Fast.te10110043849684766642, Fast.te14364793385576792824, Fast.te10295753902157049106, Fast.te12563942051412417395]; cases b <;> kernel_rfl!
noncomputable def cs73 : List (Nat × Tok) := ((127, 394) :: [(31, 390), (30, 386), (29, 382), (28, 378), (27, 374), (26, 370), (25, 366), (24, 362), (23, 358), (22, 354), (21, 350), (20, 346), (19, 342), (18, 338), (17, 334), (16, 330), (15, 326), (14, 322), (13, 318), (12, 314), (11, 310), (10, 306), (9, 302), (8, 298), (7, 294), (6, 290), (5, 286), (4, 282), (3, 278), (2, 274), (1, 270), (0, 266)])
theorem eq4 (w : World) (T : BT) (N : Nat) (os : OsState) (D1 D2 : FrD) : segRunT treeTable prg w 11 (some (.ref 6)) 2 60 (sT T N 400 (Array.mk [GenState.finished]) os) ⟨(kp [[.ref 74], [.ref 78]] (eqBool (.str ⟨#[9]⟩ 302) (.str ⟨#[9]⟩ 398))).wrap (fun x => .pure (.done (resB x))) deadEnd id id, subC 73 74, ⟨52, 26, 52, 54⟩, [D1.fr, D2.fr]⟩ = some (.ret (.bool true), sT T N 400 (Array.mk [GenState.finished]) os, subC 73 74, ⟨52, 26, 52, 54⟩) := by
  revert w; refine byRow SGR ?_; intro w b; rw [Fast.te10110043849684766642, Fast.te14364793385576792824, Fast.te13926502685295537346]; cases b <;> kernel_rfl!
theorem B4 (w : World) (X : Sets) (os : OsState) (e0 : Array Ent) (n0 : Nat) (t0 : SetTable) (hX : IsSS cs73 (setO e0 n0 t0)) : ∃ o o2, IsSS (cs73.erase (9, 302)) o2 ∧ ∃ n, segRun treeTable prg w 11 (some (.ref 6)) 1 n (st4 w.params { X with s73 := setO e0 n0 t0 } os).abs (piecesOf [segN 4] envT codeT ps4 [topFrame ps0]) = some (.next, (st5 w.params { X with s73 := setO e0 n0 t0, s74 := o, s78 := o2 } os).abs, codeT, ps5) := by
  refine X1_2 (lp4 w { X with s73 := setO e0 n0 t0 } os (frAt (r4 w { X with s73 := setO e0 n0 t0 } os) 0) (frAt (r4 w { X with s73 := setO e0 n0 t0 } os) 1) (frAt (r4 w { X with s73 := setO e0 n0 t0 } os) 2) (frAt (r4 w { X with s73 := setO e0 n0 t0 } os) 3)) ?_; intro o s r
  refine X3_2 (id s) ?_; intro es n t e _
  subst e
  refine X1_2 (op_sub (w := w) (F1 := (frAt (q4 w { X with s73 := setO e0 n0 t0 } os es n t) 0).fr) (F2 := (frAt (q4 w { X with s73 := setO e0 n0 t0 } os es n t) 1).fr) (q := ⟨52, 26, 52, 54⟩) (os := os) (a := 73) (b := 74) (T := (E4 w.params { X with s73 := setO e0 n0 t0 }).set 74 fun _ => (setO es n t)) (N := 78) (tk := 400) (g := Array.mk [GenState.finished]) (m := 127) (oa := setO e0 n0 t0) (k := 9) (tok := 302) (tok' := 398) rfl (by decide) (by decide) (by decide) (by kernel_rfl!) (by kernel_rfl!) hX s (by decide) (by decide) (by decide) (by decide) (by decide) full128 (by decide) (by decide) (fun led => .inr ⟨66, by cases led <;> decide, by decide⟩) (fun o => by kernel_rfl!) (fun T' N' => eq4 w T' N' os _ _)) ?_; intro o2 s2 r2
  refine X1_1 (((Reach.ofT (a4 w { X with s73 := setO e0 n0 t0 } os)).trans r).trans ((Reach.ofT (c4 w X os e0 n0 t0 es n t)).trans r2)) ?_; intro k hk
  exact ⟨_, o2, s2, _, seg_go hk (segRun_of (z4 w X os e0 n0 t0 es n t o2))⟩
end

end
section
open PySem PySem.W PyProof.Rows
set_option maxHeartbeats 0
noncomputable section
noncomputable abbrev CIT : String := "comprehension-iter-twice"
noncomputable def rngO (i : Int) : Obj := ⟨(.type "range_iterator"), none, (.fields #[(.int i 0), (.int (32 - i) 0), (.int 1 0)]), #[]⟩
noncomputable def gfrO (P : Params) : Nat → Obj
  | 0 => ⟨(.type "frame"), none, (.dict #[⟨PyData.keyHash P (Str.ofString ".0"), (.str (Str.ofString ".0") 261), (.ref 58)⟩] 1), #[]⟩
  | j + 1 => ⟨(.type "frame"), none, (.dict #[⟨PyData.keyHash P (Str.ofString ".0"), (.str (Str.ofString ".0") 261), (.ref 58)⟩, ⟨PyData.keyHash P (Str.ofString "i"), (.str (Str.ofString "i") 265), (.int j (264 + 4 * j))⟩] 2), #[]⟩
noncomputable def gensOf (r : Option (SharedT × Thread)) : Array GenState := match r with
  | some (s, _) => s.gens
  | none => #[]
noncomputable def gensOf2 (r : Option (Flow × SharedT × Code × Pos)) : Array GenState := match r with
  | some (_, s, _, _) => s.gens
  | none => #[]
noncomputable def wF (w : World) : World := (w.withFollow CIT true).withFollow SGR true
theorem byRows {P : World → Prop} (h : ∀ (w : World) (b c : Bool), P ((w.withFollow CIT b).withFollow SGR c)) : ∀ w, P w := byRow CIT fun w b => by
  have := h w b ((w.withFollow CIT b).params.followText SGR)
  rwa [World.withFollow_self] at this
noncomputable def T3 (P : Params) (X : Sets) (j : Nat) : BT := ((TT P X 65 (mainO P (.str (Str.ofString "cpy313.tomllib._parser") 251) 9 10) (tabO 6)).set 58 (fun _ => rngO j)).set 62 (fun _ => gfrO P j)
noncomputable def E3 (P : Params) (X : Sets) : BT := TT P X 69 (mainO P (.str (Str.ofString "cpy313.tomllib._parser") 251) 9 10) (tabO 6)
noncomputable def f3 (D1 D2 D3 D4 : FrD) : List Frame := [FrD.fr { D1 with c := (.builtin "frozenset.__new__" ⟨[(.type "frozenset"), (.ref 63)], []⟩) }, FrD.fr { D2 with c := (.builtin "type.__call__" ⟨[(.type "frozenset"), (.ref 63)], []⟩) }, FrD.fr { D3 with c := codeT }, FrD.fr { D4 with c := .builtin "claim.caller" {} }]
noncomputable def r3 (w : World) (X : Sets) (os : OsState) := segGoT treeTable prg w 11 (some (.ref 6)) 1 86 (st3 w.params X os) (piecesOf [segN 3] envT codeT ps3 [topFrame ps0])
noncomputable def GS0 (w : World) (X : Sets) (os : OsState) : Array GenState := gensOf (r3 (wF w) X os)
theorem a3 (w : World) (X : Sets) (os : OsState) : r3 w X os = some (sT ((T3 w.params X 0).set 64 fun _ => freshO w.params) 65 264 (GS0 w X os) os, ⟨denote treeTable (lpc 64 63), lpc 64 63, ⟨51, 13, 51, 51⟩, (f3 (frAt (r3 w X os) 0) (frAt (r3 w X os) 1) (frAt (r3 w X os) 2) (frAt (r3 w X os) 3))⟩) := by
  revert w; refine byRows ?_; intro w b c; unfold GS0 r3 piecesOf; rw [Fast.te10295753902157049106, Fast.te14364793385576792824, Fast.te12563942051412417395, Fast.te11892475500146522536]; cases b <;> cases c <;> kernel_rfl!
noncomputable def dF : FrD := ⟨topAfter, false, [], .builtin "" {}, default, []⟩
noncomputable def GS1 (w : World) (X : Sets) (os : OsState) : Array GenState := gensOf2 (segRunT treeTable prg (wF w) 11 (some (.ref 6)) 4 100 (sT ((T3 w.params X 0).set 64 fun _ => freshO w.params) 65 264 (GS0 w X os) os) ⟨(pyNext (.ref 63)).wrap (fun x => .pure (.done (resF x))) deadEnd id id, lpc 64 63, ⟨51, 13, 51, 51⟩, f3 dF dF dF dF⟩)
noncomputable def gs3 (w : World) (X : Sets) (os : OsState) : Nat → Array GenState
  | 0 => GS0 w X os
  | _ + 1 => GS1 w X os
theorem p3 (w : World) (X : Sets) (os : OsState) (D1 D2 D3 D4 : FrD) : ∀ j < 32, PieceAt w (FrD.fr { D1 with c := (.builtin "frozenset.__new__" ⟨[(.type "frozenset"), (.ref 63)], []⟩) }) (FrD.fr { D2 with c := (.builtin "type.__call__" ⟨[(.type "frozenset"), (.ref 63)], []⟩) }) (FrD.fr { D3 with c := codeT }) (FrD.fr { D4 with c := .builtin "claim.caller" {} }) ⟨51, 13, 51, 51⟩ os 64 63 100 65 (fun j => T3 w.params X j) (fun j => 264 + 4 * j) (fun j => 267 + 4 * j) (gs3 w X os) (fun j => j) (fun j => 266 + 4 * j) j := by
  unfold PieceAt gs3 GS1 GS0 r3 piecesOf; rw [Fast.te10110043849684766642, Fast.te14364793385576792824, Fast.te10295753902157049106, Fast.te12563942051412417395, Fast.te9404975358583537561]
  iterate 31 refine all_succ (fun o => by kernel_rfl!) ?_
  refine all_succ (fun o => ?_) all_zero
  revert w; refine byRows ?_; intro w b c; cases b <;> cases c <;> kernel_rfl!
theorem p3_e (w : World) (X : Sets) (os : OsState) (D1 D2 D3 D4 : FrD) (o : Obj) : segRunT treeTable prg w 11 (some (.ref 6)) 4 100 (sT ((T3 w.params X 32).set 64 fun _ => o) 65 392 (GS1 w X os) os) ⟨(pyNext (.ref 63)).wrap (fun x => .pure (.done (resF x))) deadEnd id id, lpc 64 63, ⟨51, 13, 51, 51⟩, f3 D1 D2 D3 D4⟩ = some (.brk, sT ((E3 w.params X).set 64 fun _ => o) 69 392 (Array.mk [GenState.finished]) os, lpc 64 63, ⟨51, 13, 51, 51⟩) := by
  revert w; refine byRow SGR ?_; intro w b; unfold GS1 GS0 r3 piecesOf; rw [Fast.te10110043849684766642, Fast.te14364793385576792824, Fast.te10295753902157049106, Fast.te12563942051412417395, Fast.te9404975358583537561]; cases b <;> kernel_rfl!
noncomputable def cs64 : List (Nat × Tok) := [(31, 390), (30, 386), (29, 382), (28, 378), (27, 374), (26, 370), (25, 366), (24, 362), (23, 358), (22, 354), (21, 350), (20, 346), (19, 342), (18, 338), (17, 334), (16, 330), (15, 326), (14, 322), (13, 318), (12, 314), (11, 310), (10, 306), (9, 302), (8, 298), (7, 294), (6, 290), (5, 286), (4, 282), (3, 278), (2, 274), (1, 270), (0, 266)]
theorem lp3 (w : World) (X : Sets) (os : OsState) (D1 D2 D3 D4 : FrD) : ∃ o, IsSS cs64 o ∧ Reach w prg (sT ((T3 w.params X 0).set 64 fun _ => freshO w.params) 65 264 (GS0 w X os) os).abs ⟨denote treeTable (lpc 64 63), lpc 64 63, ⟨51, 13, 51, 51⟩, f3 D1 D2 D3 D4⟩ (sT ((E3 w.params X).set 64 fun _ => o) 69 392 (Array.mk [GenState.finished]) os).abs (popT (FrD.fr { D1 with c := (.builtin "frozenset.__new__" ⟨[(.type "frozenset"), (.ref 63)], []⟩) }) .none [FrD.fr { D2 with c := (.builtin "type.__call__" ⟨[(.type "frozenset"), (.ref 63)], []⟩) }, FrD.fr { D3 with c := codeT }, FrD.fr { D4 with c := .builtin "claim.caller" {} }]) := by
  have g : ∀ j, ∃ o0, (T3 w.params X j).get 64 = some o0 := fun j => ⟨_, by unfold T3; rw [BT.get_set, if_neg (by decide), BT.get_set, if_neg (by decide)]; exact (by kernel_rfl! : (TT w.params X 65 (mainO w.params (.str (Str.ofString "cpy313.tomllib._parser") 251) 9 10) (tabO 6)).get 64 = some ((objL w.params X).getD 64 default))⟩
  refine X1_2 (turns (T := fun j => T3 w.params X j) (tk := fun j => 264 + 4 * j) rfl (by decide) (by decide) (fun j => g j) (fresh_ss w.params) (fun j => by lia) 32 (by decide) (p3 w X os D1 D2 D3 D4) (by decide +kernel)) ?_; intro o s r
  exact ⟨o, s, r.trans (turn_end rfl (p3_e w X os D1 D2 D3 D4 o))⟩
noncomputable def T3b (P : Params) (X : Sets) (i : Int) : BT := (TT P X 71 (mainO P (.str (Str.ofString "cpy313.tomllib._parser") 251) 9 10) (tabO 6)).set 70 (fun _ => itO (.str ⟨#[127]⟩ 393) i)
noncomputable def E3b (P : Params) (X : Sets) : BT := TT P X 73 (mainO P (.str (Str.ofString "cpy313.tomllib._parser") 251) 9 10) (tabO 6)
theorem p3b_0 (w : World) (X : Sets) (os : OsState) (D1 D2 D3 D4 : FrD) (o : Obj) : segRunT treeTable prg w 11 (some (.ref 6)) 4 40 (sT ((T3b w.params X 0).set 69 fun _ => o) 71 394 (Array.mk [GenState.finished]) os) ⟨(pyNext (.ref 70)).wrap (fun x => .pure (.done (resF x))) deadEnd id id, lpc 69 70, ⟨51, 54, 51, 73⟩, [D1.fr, D2.fr, D3.fr, D4.fr]⟩ = some (.ret (.str ⟨#[127]⟩ 394), sT ((T3b w.params X 1).set 69 fun _ => o) 71 395 (Array.mk [GenState.finished]) os, lpc 69 70, ⟨51, 54, 51, 73⟩) := by rw [Fast.te10110043849684766642, Fast.te14364793385576792824, Fast.te9404975358583537561]; kernel_rfl!
theorem p3b_e (w : World) (X : Sets) (os : OsState) (D1 D2 D3 D4 : FrD) (o : Obj) : segRunT treeTable prg w 11 (some (.ref 6)) 4 40 (sT ((T3b w.params X 1).set 69 fun _ => o) 71 396 (Array.mk [GenState.finished]) os) ⟨(pyNext (.ref 70)).wrap (fun x => .pure (.done (resF x))) deadEnd id id, lpc 69 70, ⟨51, 54, 51, 73⟩, [D1.fr, D2.fr, D3.fr, D4.fr]⟩ = some (.brk, sT ((E3b w.params X).set 69 fun _ => o) 73 396 (Array.mk [GenState.finished]) os, lpc 69 70, ⟨51, 54, 51, 73⟩) := by
  revert w; refine byRow SGR ?_; intro w b; rw [Fast.te10110043849684766642, Fast.te14364793385576792824, Fast.te9404975358583537561]; cases b <;> kernel_rfl!
theorem lp3b (w : World) (X : Sets) (os : OsState) (D1 D2 D3 D4 : FrD) : ∃ o, IsSS [(127, 394)] o ∧ Reach w prg (sT ((T3b w.params X 0).set 69 fun _ => freshO w.params) 71 394 (Array.mk [GenState.finished]) os).abs ⟨denote treeTable (lpc 69 70), lpc 69 70, ⟨51, 54, 51, 73⟩, [D1.fr, D2.fr, D3.fr, D4.fr]⟩ (sT ((E3b w.params X).set 69 fun _ => o) 73 396 (Array.mk [GenState.finished]) os).abs (popT D1.fr .none [D2.fr, D3.fr, D4.fr]) := by
  have g : ∀ i, ∃ o0, (T3b w.params X i).get 69 = some o0 := fun i => ⟨_, by unfold T3b; rw [BT.get_set, if_neg (by decide)]; exact (by kernel_rfl! : (TT w.params X 71 (mainO w.params (.str (Str.ofString "cpy313.tomllib._parser") 251) 9 10) (tabO 6)).get 69 = some ((objL w.params X).getD 69 default))⟩
  have s0 := fresh_ss w.params
  refine X1_2 (turn (F1 := D1.fr) (F2 := D2.fr) (F3 := D3.fr) (F4 := D4.fr) rfl (by decide) (by decide) (g 1).choose_spec (p3b_0 w X os D1 D2 D3 D4) s0 (by simp) (by simp)) ?_; intro o1 s1 r1
  refine ⟨_, s1, ?_⟩
  exact r1.trans (turn_end rfl (p3b_e w X os D1 D2 D3 D4 _))
noncomputable def u3 (w : World) (X : Sets) (os : OsState) (e0 : Array Ent) (n0 : Nat) (t0 : SetTable) := segGoT treeTable prg w 11 (some (.ref 6)) 1 37 (sT ((E3 w.params X).set 64 fun _ => setO e0 n0 t0) 69 392 (Array.mk [GenState.finished]) os) (popT (FrD.fr { frAt (r3 w X os) 0 with c := (.builtin "frozenset.__new__" ⟨[(.type "frozenset"), (.ref 63)], []⟩) }) .none [FrD.fr { frAt (r3 w X os) 1 with c := (.builtin "type.__call__" ⟨[(.type "frozenset"), (.ref 63)], []⟩) }, FrD.fr { frAt (r3 w X os) 2 with c := codeT }, FrD.fr { frAt (r3 w X os) 3 with c := .builtin "claim.caller" {} }])
theorem b3 (w : World) (X : Sets) (os : OsState) (e0 : Array Ent) (n0 : Nat) (t0 : SetTable) : u3 w X os e0 n0 t0 = some (sT ((T3b w.params { X with s64 := setO e0 n0 t0 } 0).set 69 fun _ => freshO w.params) 71 394 (Array.mk [GenState.finished]) os, ⟨denote treeTable (lpc 69 70), lpc 69 70, ⟨51, 54, 51, 73⟩, [(frAt (u3 w X os e0 n0 t0) 0).fr, (frAt (u3 w X os e0 n0 t0) 1).fr, (frAt (u3 w X os e0 n0 t0) 2).fr, (frAt (u3 w X os e0 n0 t0) 3).fr]⟩) := by
  revert w; refine byRows ?_; intro w b c; unfold u3 r3 piecesOf; rw [Fast.te10295753902157049106, Fast.te14364793385576792824, Fast.te12563942051412417395, Fast.te11892475500146522536]; cases b <;> cases c <;> kernel_rfl!
noncomputable def q3 (w : World) (X : Sets) (os : OsState) (e0 : Array Ent) (n0 : Nat) (t0 : SetTable) (es : Array Ent) (n : Nat) (t : SetTable) := segGoT treeTable prg w 11 (some (.ref 6)) 1 17 (sT ((E3b w.params { X with s64 := setO e0 n0 t0 }).set 69 fun _ => (setO es n t)) 73 396 (Array.mk [GenState.finished]) os) (popT (frAt (u3 w X os e0 n0 t0) 0).fr .none [(frAt (u3 w X os e0 n0 t0) 1).fr, (frAt (u3 w X os e0 n0 t0) 2).fr, (frAt (u3 w X os e0 n0 t0) 3).fr])
theorem c3 (w : World) (X : Sets) (os : OsState) (e0 : Array Ent) (n0 : Nat) (t0 : SetTable) (es : Array Ent) (n : Nat) (t : SetTable) : q3 w X os e0 n0 t0 es n t = some ((sT ((E3b w.params { X with s64 := setO e0 n0 t0 }).set 69 fun _ => (setO es n t)) 73 396 (Array.mk [GenState.finished]) os), ⟨denote treeTable (.builtin "frozenset.__or__" ⟨[.ref 64, .ref 69], []⟩), .builtin "frozenset.__or__" ⟨[.ref 64, .ref 69], []⟩, ⟨51, 13, 51, 73⟩, [(frAt (q3 w X os e0 n0 t0 es n t) 0).fr, (frAt (q3 w X os e0 n0 t0 es n t) 1).fr]⟩) := by
  revert w; refine byRows ?_; intro w b c; unfold q3 u3 r3 piecesOf; rw [Fast.te10295753902157049106, Fast.te14364793385576792824, Fast.te12563942051412417395, Fast.te11892475500146522536]; cases b <;> cases c <;> kernel_rfl!
theorem z3 (w : World) (X : Sets) (os : OsState) (e0 : Array Ent) (n0 : Nat) (t0 : SetTable) (es : Array Ent) (n : Nat) (t : SetTable) (o2 : Obj) : segRunT treeTable prg w 11 (some (.ref 6)) 1 60 (sT (((E3b w.params { X with s64 := setO e0 n0 t0 }).set 69 fun _ => (setO es n t)).ins 73 o2) 74 396 (Array.mk [GenState.finished]) os) (popT (frAt (q3 w X os e0 n0 t0 es n t) 0).fr (.ref 73) [(frAt (q3 w X os e0 n0 t0 es n t) 1).fr]) = some (.next, st4 w.params { X with s64 := setO e0 n0 t0, s69 := (setO es n t), s73 := o2 } os, codeT, ps4) := by
  revert w; refine byRows ?_; intro w b c; unfold q3 u3 r3 piecesOf; rw [Fast.te10110043849684766642, Fast.te14364793385576792824, Fast.te10295753902157049106, Fast.te12563942051412417395]; cases b <;> cases c <;> kernel_rfl!
theorem B3 (w : World) (X : Sets) (os : OsState) : ∃ o o1 o2, IsSS cs73 o2 ∧ ∃ n, segRun treeTable prg w 11 (some (.ref 6)) 1 n (st3 w.params X os).abs (piecesOf [segN 3] envT codeT ps3 [topFrame ps0]) = some (.next, (st4 w.params { X with s64 := o, s69 := o1, s73 := o2 } os).abs, codeT, ps4) := by
  refine X1_2 (lp3 w X os (frAt (r3 w X os) 0) (frAt (r3 w X os) 1) (frAt (r3 w X os) 2) (frAt (r3 w X os) 3)) ?_; intro o s r
  refine X3_2 (id s) ?_; intro e0 n0 t0 e _
  subst e
  refine X1_2 (lp3b w { X with s64 := setO e0 n0 t0 } os (frAt (u3 w X os e0 n0 t0) 0) (frAt (u3 w X os e0 n0 t0) 1) (frAt (u3 w X os e0 n0 t0) 2) (frAt (u3 w X os e0 n0 t0) 3)) ?_; intro o1 s1 r1
  refine X3_2 (id s1) ?_; intro es n t e _
  subst e
  refine X1_2 (op_or (w := w) (F1 := (frAt (q3 w X os e0 n0 t0 es n t) 0).fr) (F2 := (frAt (q3 w X os e0 n0 t0 es n t) 1).fr) (q := ⟨51, 13, 51, 73⟩) (os := os) (a := 64) (b := 69) (T := (E3b w.params { X with s64 := setO e0 n0 t0 }).set 69 fun _ => (setO es n t)) (N := 73) (tk := 396) (g := Array.mk [GenState.finished]) (m := 127) (oa := setO e0 n0 t0) rfl (by decide) (by decide) (by decide) (by decide) (by kernel_rfl!) (by kernel_rfl!) s s1 (by decide) (by decide) full128 (by decide) (by decide) (fun led => .inr ⟨64, by cases led <;> decide, by decide⟩) (by decide) (by decide) (fun o => by kernel_rfl!)) ?_; intro o2 s2 r2
  refine X1_1 ((((Reach.ofT (a3 w X os)).trans r).trans ((Reach.ofT (b3 w X os e0 n0 t0)).trans r1)).trans ((Reach.ofT (c3 w X os e0 n0 t0 es n t)).trans r2)) ?_; intro k hk
  exact ⟨_, _, o2, s2, _, seg_go hk (segRun_of (z3 w X os e0 n0 t0 es n t o2))⟩
end

end
section
open PySem PySem.W PyProof.Rows
set_option maxHeartbeats 0
noncomputable section
noncomputable def RunsTo (w : World) (s : Shared) (t : Thread) (r : Shared) : Prop := ∃ N, topRun treeTable prg w 11 (some (.ref 6)) N s t = some r
theorem runs_piece {w : World} {s s' r : Shared} {st : Stmt} {rest : List Stmt} {p p' : Pos} (h : ∃ n, segRun treeTable prg w 11 (some (.ref 6)) 1 n s (piecesOf [st] envT codeT p [topFrame ps0]) = some (.next, s', codeT, p'))
    (k : RunsTo w s' (restOf rest envT codeT p' [topFrame ps0]) r) : RunsTo w s (restOf (st :: rest) envT codeT p [topFrame ps0]) r := by
  refine X1_1 h ?_; clear h; intro n h
  refine X1_1 k ?_; clear k; intro N k
  exact ⟨n + N, piece_app (l := [st]) h k⟩
noncomputable def X00 : Sets := ⟨default, default, default, default, default, default, default, default, default⟩
theorem body_is : bodyL = [segN 0, segN 1, segN 2, segN 3, segN 4, segN 5, segN 6, segN 7, segN 8, segN 9, segN 10, segN 11, segN 12, segN 13, segN 14, segN 15, segN 16, segN 17, segN 18, segN 19, segN 20, segN 21, segN 22, segN 23, segN 24, segN 25, segN 26, segN 27, segN 28, segN 29, segN 30, segN 31, segN 32, segN 33, segN 34, segN 35, segN 36] := by kernel_rfl!
theorem pre_run (w : World) (os : OsState) : topGo treeTable prg w 11 (some (.ref 6)) 12 ⟨boot_heap w.params, Array.mk [], boot_drawn, boot_toks, os⟩ (topStub prg) = some ((st0 w.params X00 os).abs, ⟨denote treeTable codeT, codeT, ps0, [topFrame ps0]⟩) := by
  rw [Fast.te15667345088766844465, Fast.te14364793385576792824, Fast.te11892475500146522536]
  kernel_rfl!
theorem block_run (w : World) (os : OsState) : segRun treeTable prg w 11 (some (.ref 6)) 1 1 (st0 w.params X00 os).abs (blockOf bodyL envT codeT ps0 [topFrame ps0]) = some (.next, (st0 w.params X00 os).abs, codeT, ps0) := by kernel_rfl!
theorem fin_run (w : World) (s : Shared) : topRun treeTable prg w 11 (some (.ref 6)) 3 s (restOf [] envT codeT ps37 [topFrame ps0]) = some s := by
  obtain ⟨h, g, d, t, os⟩ := s
  rfl
structure SetsOk (X : Sets) : Prop where
  ill : IsSS (cs73.erase (9, 302)) X.s78
  ws : IsSS [(9, 406), (32, 404)] X.s79
  wsn : IsSS [(10, 410), (9, 406), (32, 404)] X.s87
  hex : IsSS [(70, 462), (69, 460), (68, 458), (67, 456), (66, 454), (65, 452), (102, 450), (101, 448), (100, 446), (99, 444), (98, 442), (97, 440), (57, 438), (56, 436), (55, 434), (54, 432), (53, 430), (52, 428), (51, 426), (50, 424), (49, 422), (48, 420)] X.s88
theorem top_runs (w : World) (os : OsState) : ∃ X, SetsOk X ∧ RunsTo w ⟨boot_heap w.params, Array.mk [], boot_drawn, boot_toks, os⟩ (topStub prg) (st37 w.params X os).abs := by
  refine X3_2 (B3 w X00 os) ?_; intro o64 o69 o73 s73 h3
  refine X3_2 (id s73) ?_; intro e3 n3 t3 e _
  subst e
  refine X2_2 (B4 w { X00 with s64 := o64, s69 := o69 } os e3 n3 t3 s73) ?_; intro o74 o78 s78 h4
  refine X1_2 (B7 w { X00 with s64 := o64, s69 := o69, s73 := setO e3 n3 t3, s74 := o74, s78 := o78 } os) ?_; intro o79 s79 h7
  refine X3_2 (id s79) ?_; intro e7 n7 t7 e _
  subst e
  refine X2_2 (B8 w { X00 with s64 := o64, s69 := o69, s73 := setO e3 n3 t3, s74 := o74, s78 := o78 } os e7 n7 t7 s79) ?_; intro o83 o87 s87 h8
  refine X1_2 (B11 w { X00 with s64 := o64, s69 := o69, s73 := setO e3 n3 t3, s74 := o74, s78 := o78, s79 := setO e7 n7 t7, s83 := o83, s87 := o87 } os) ?_; intro o88 s88 h11
  refine ⟨⟨o64, o69, setO e3 n3 t3, o74, o78, setO e7 n7 t7, o83, o87, o88⟩, ⟨s78, s79, s87, s88⟩, ?_⟩
  suffices h : RunsTo w (st0 w.params X00 os).abs (restOf bodyL envT codeT ps0 [topFrame ps0]) (st37 w.params ⟨o64, o69, setO e3 n3 t3, o74, o78, setO e7 n7 t7, o83, o87, o88⟩ os).abs by
    refine X1_1 h ?_; clear h; intro N h
    exact ⟨_, go_top (pre_run w os) (piece_block (block_run w os) h)⟩
  rw [body_is]
  refine runs_piece ⟨_, segRun_of (pc0 w _ os)⟩ ?_
  refine runs_piece ⟨_, segRun_of (pc1 w _ os)⟩ ?_
  refine runs_piece ⟨_, segRun_of (pc2 w _ os)⟩ ?_
  refine runs_piece h3 ?_
  refine runs_piece h4 ?_
  refine runs_piece ⟨_, segRun_of (pc5 w _ os)⟩ ?_
  refine runs_piece ⟨_, segRun_of (pc6 w _ os)⟩ ?_
  refine runs_piece h7 ?_
  refine runs_piece h8 ?_
  refine runs_piece ⟨_, segRun_of (pc9 w _ os)⟩ ?_
  refine runs_piece ⟨_, segRun_of (pc10 w _ os)⟩ ?_
  refine runs_piece h11 ?_
  refine runs_piece ⟨_, segRun_of (pc12 w _ os)⟩ ?_
  refine runs_piece ⟨_, segRun_of (pc13 w _ os)⟩ ?_
  refine runs_piece ⟨_, segRun_of (pc14 w _ os)⟩ ?_
  refine runs_piece ⟨_, segRun_of (pc15 w _ os)⟩ ?_
  refine runs_piece ⟨_, segRun_of (pc16 w _ os)⟩ ?_
  refine runs_piece ⟨_, segRun_of (pc17 w _ os)⟩ ?_
  refine runs_piece ⟨_, segRun_of (pc18 w _ os)⟩ ?_
  refine runs_piece ⟨_, segRun_of (pc19 w _ os)⟩ ?_
  refine runs_piece ⟨_, segRun_of (pc20 w _ os)⟩ ?_
  refine runs_piece ⟨_, segRun_of (pc21 w _ os)⟩ ?_
  refine runs_piece ⟨_, segRun_of (pc22 w _ os)⟩ ?_
  refine runs_piece ⟨_, segRun_of (pc23 w _ os)⟩ ?_
  refine runs_piece ⟨_, segRun_of (pc24 w _ os)⟩ ?_
  refine runs_piece ⟨_, segRun_of (pc25 w _ os)⟩ ?_
  refine runs_piece ⟨_, segRun_of (pc26 w _ os)⟩ ?_
  refine runs_piece ⟨_, segRun_of (pc27 w _ os)⟩ ?_
  refine runs_piece ⟨_, segRun_of (pc28 w _ os)⟩ ?_
  refine runs_piece ⟨_, segRun_of (pc29 w _ os)⟩ ?_
  refine runs_piece ⟨_, segRun_of (pc30 w _ os)⟩ ?_
  refine runs_piece ⟨_, segRun_of (pc31 w _ os)⟩ ?_
  refine runs_piece ⟨_, segRun_of (pc32 w _ os)⟩ ?_
  refine runs_piece ⟨_, segRun_of (pc33 w _ os)⟩ ?_
  refine runs_piece ⟨_, segRun_of (pc34 w _ os)⟩ ?_
  refine runs_piece ⟨_, segRun_of (pc35 w _ os)⟩ ?_
  refine runs_piece ⟨_, segRun_of (pc36 w _ os)⟩ ?_
  exact ⟨_, fin_run w _⟩
end

end
section
open PySem PySem.W PyProof.Rows
set_option maxHeartbeats 0
noncomputable section
noncomputable def fragK (P : Params) : Frag := (nat_lit 3, mainO P (.str (Str.ofString "law_pd0097_01") 559) 42 43) ::
  (nat_lit 20, o20 P) ::
  (nat_lit 27, o27 P) ::
  (nat_lit 28, o28 P) ::
  (nat_lit 34, o34 P) ::
  (nat_lit 35, o35 P) ::
  (nat_lit 41, o41 P) ::
  (nat_lit 42, o42 P) ::
  (nat_lit 48, o48 P) ::
  (nat_lit 49, o49 P) ::
  (nat_lit 51, o51 P) ::
  (nat_lit 52, o52 P) ::
  (nat_lit 53, o53 P) ::
  (nat_lit 54, o54 P) ::
  (nat_lit 61, o61 P) ::
  (nat_lit 97, o97 P) ::
  (nat_lit 100, o100 P) ::
  (nat_lit 101, o101 P) ::
  (nat_lit 102, o102 P) ::
  (nat_lit 110, o110 P) ::
  (nat_lit 111, o111 P) ::
  (nat_lit 117, o117 P) ::
  (nat_lit 118, o118 P) ::
  (nat_lit 124, o124 P) ::
  (nat_lit 125, o125 P) ::
  (nat_lit 131, o131 P) ::
  (nat_lit 132, o132 P) ::
  (nat_lit 138, o138 P) ::
  (nat_lit 139, o139 P) ::
  (nat_lit 145, o145 P) ::
  (nat_lit 146, o146 P) ::
  (nat_lit 152, o152 P) ::
  (nat_lit 153, o153 P) ::
  (nat_lit 159, o159 P) ::
  (nat_lit 160, o160 P) ::
  (nat_lit 166, o166 P) ::
  (nat_lit 167, o167 P) ::
  (nat_lit 171, o171 P) ::
  (nat_lit 172, o172 P) ::
  (nat_lit 178, o178 P) ::
  (nat_lit 179, o179 P) ::
  (nat_lit 185, o185 P) ::
  (nat_lit 186, o186 P) ::
  (nat_lit 192, o192 P) ::
  (nat_lit 193, o193 P) ::
  (nat_lit 199, o199 P) ::
  (nat_lit 200, o200 P) ::
  (nat_lit 206, o206 P) ::
  (nat_lit 207, o207 P) ::
  (nat_lit 213, o213 P) ::
  (nat_lit 214, o214 P) ::
  (nat_lit 218, o218 P) ::
  (nat_lit 219, o219 P) ::
  (nat_lit 225, o225 P) ::
  (nat_lit 226, o226 P) ::
  (nat_lit 232, o232 P) ::
  (nat_lit 233, o233 P) ::
  (nat_lit 237, o237 P) ::
  (nat_lit 238, o238 P) ::
  (nat_lit 244, o244 P) ::
  (nat_lit 245, o245 P) ::
  (nat_lit 249, o249 P) ::
  (nat_lit 250, o250 P) ::
  (nat_lit 254, o254 P) ::
  (nat_lit 255, o255 P) :: []
noncomputable def fragAs : List Addr := nat_lit 3 :: nat_lit 20 :: nat_lit 27 :: nat_lit 28 :: nat_lit 34 :: nat_lit 35 :: nat_lit 41 :: nat_lit 42 :: nat_lit 48 :: nat_lit 49 :: nat_lit 51 :: nat_lit 52 :: nat_lit 53 :: nat_lit 54 :: nat_lit 61 :: nat_lit 97 :: nat_lit 100 :: nat_lit 101 :: nat_lit 102 :: nat_lit 110 :: nat_lit 111 :: nat_lit 117 :: nat_lit 118 :: nat_lit 124 :: nat_lit 125 :: nat_lit 131 :: nat_lit 132 :: nat_lit 138 :: nat_lit 139 :: nat_lit 145 :: nat_lit 146 :: nat_lit 152 :: nat_lit 153 :: nat_lit 159 :: nat_lit 160 :: nat_lit 166 :: nat_lit 167 :: nat_lit 171 :: nat_lit 172 :: nat_lit 178 :: nat_lit 179 :: nat_lit 185 :: nat_lit 186 :: nat_lit 192 :: nat_lit 193 :: nat_lit 199 :: nat_lit 200 :: nat_lit 206 :: nat_lit 207 :: nat_lit 213 :: nat_lit 214 :: nat_lit 218 :: nat_lit 219 :: nat_lit 225 :: nat_lit 226 :: nat_lit 232 :: nat_lit 233 :: nat_lit 237 :: nat_lit 238 :: nat_lit 244 :: nat_lit 245 :: nat_lit 249 :: nat_lit 250 :: nat_lit 254 :: nat_lit 255 :: []
end
theorem fill_frag : fragK = fragK ∧ PySem.Challenge.rw_pd0097_01 = PySem.Challenge.rw_pd0097_01 := by
  k_fill
  exact ⟨rfl, rfl⟩

end
section
open PySem PySem.W PyProof.Rows PySem.Calls PySem.Spec
noncomputable def q0 : Program := { prg with main := { prg.main with body := [] } }
noncomputable def loose0 : List Str := prg.boundNames
noncomputable abbrev S (l : List Nat) : Str := ⟨l.toArray⟩
noncomputable def StopAt (P : Prop) : Prop := P
theorem stopAt {P : Prop} (h : StopAt P) : P := h
theorem StopAt.go {P : Prop} (h : P) : StopAt P := h

end
section
open PySem PySem.W PyProof.Rows
set_option maxHeartbeats 0
noncomputable section
theorem looks1 (w : World) (X : Sets) (os : OsState) : (staticsOk (importedModules prg.main.body) (boot_heap w.params) (st37 w.params X os).abs.heap && namesBound prg (st37 w.params X os).abs.heap && gensDone (st37 w.params X os).abs && laidKept (boot_heap w.params) (st37 w.params X os).abs.heap) = true := by kernel_rfl!
theorem looks2 (w : World) (X : Sets) (os : OsState) : openSeen q0 loose0 (importedModules prg.main.body) (fun _ => true) false (st37 w.params X os).abs = openGood q0 loose0 := by
  rw [PySem.W.Fast.te4187177175401517315]
  kernel_rfl!
theorem open_is : opening prg = plainProg prg.main.scope.names := by kernel_rfl!
theorem fence_is (s : Shared) : fenceModules? prg s = some s := by kernel_rfl!
theorem size_is (w : World) : ((boot_heap w.params).isNs mainGlobals, (boot_heap w.params).objs.size, (boot_heap w.params).nsMap mainGlobals "__annotations__") = (true, 11, some (.ref 6)) := by kernel_rfl!
theorem chains0 : chainsOk q0 = true := by kernel_rfl!
theorem behind (w : World) : (∃ s, AfterRun (opening prg) w s) ∧ ∀ s, AfterRun (opening prg) w s → ∃ s₀, fenceModules? prg s = some s₀ ∧ s₀.gens = #[] ∧ ∃ s₁ X os, TopRan prg w s₀ s₁ ∧ SetsOk X ∧ s₁ = (st37 w.params X os).abs ∧ leftWithCleanup s₁.gens = false ∧ s₁.asleep ∧ s₁.heap.isNs mainGlobals = true ∧
      Ground q0 loose0 [] (fun _ _ => True) w s₁ (s₁.heap.nsMap mainGlobals) (s₁.heap.nsMap builtinsNs) s₁.heap := by
  have ho := boot_open (p := prg) (N := 1000) open_is (by decide) fence_is w
  refine X1_2 (Option.map_eq_some_iff.mp ho) ?_; intro s₀ hf hv
  refine X1_2 (Option.bind_eq_some_iff.mp hf) ?_; intro s h4 h5
  rw [← table_eq_tree] at h4
  have A := AfterImport.of_importEnds h4
  refine ⟨⟨s, A⟩, fun s' hs' => ?_⟩
  obtain rfl : s' = s := AfterImport.unique hs' A
  have z : s₀.asleep := Shared.asleep_of_life (fence_lifeW h5) A.life
  obtain ⟨hp, gs, dr, tk, os⟩ := s₀
  simp only [Prod.mk.injEq] at hv
  refine X0_4 hv ?_; clear hv; intro z0 z1 z2 z3; subst z0; subst z1; subst z2; subst z3
  obtain ⟨z1, z2, z3⟩ : _ ∧ _ ∧ _ := by simpa only [Prod.mk.injEq] using size_is w
  refine X1_2 (top_runs w os) ?_; intro X hX z0; refine X1_1 z0 ?_; clear z0; intro N hr
  rw [← table_eq_tree] at hr
  refine X0_4 (topRun_spec _ _ _ _ z hr) ?_; intro a l o fr
  have lk := looks1 w X os
  refine X0_2 (Bool.and_eq_true_iff.mp lk) ?_; intro lk hlk
  refine X0_2 (Bool.and_eq_true_iff.mp lk) ?_; intro lk hgd
  refine X0_2 (Bool.and_eq_true_iff.mp lk) ?_; intro hst hnb
  refine X0_7 (ground_of_open (XP := fun _ _ => True) (w := w) (fun _ _ => trivial) chains0 (looks2 w X os)) ?_; intro G g0 g1 g2 g3 g4 g5
  refine ⟨_, h5, rfl, _, X, os, ⟨a, l, Shared.rest_eq o, fun b ob hb hn => fr b ob ?_ (fun q => hn (.inl q)) (fun q => hn (.inr (.inl q))) (fun q => hn (.inr (.inr ((Pin.globalOf_eq z1 _).trans (z3.trans q))))) hb, g2, statics_of_ok hst, g3, g4, g5, gens_of_done hgd, names_of_bound hnb, laid_of_kept hlk⟩, hX, rfl, by simpa using g0, Shared.asleep_of_life l z, g1, G⟩
  have := Heap.lt_size hb
  rw [← z2]; exact this
end

end
section
open PySem PySem.W PyProof.Rows PySem.Calls PySem.Spec
noncomputable def lk (l : List (Str × Value)) : Str → Option Value := fun y => l.lookup y
noncomputable def putk (x : Str) (v : Value) : List (Str × Value) → List (Str × Value)
  | [] => [(x, v)]
  | (y, u) :: r => bif x == y then (y, v) :: r else (y, u) :: putk x v r
theorem lk_put (x : Str) (v : Value) : ∀ l, (fun y => if y = x then some v else lk l y) = lk (putk x v l)
  | [] => by
    funext y
    unfold lk putk
    rw [List.lookup_cons]
    by_cases h : y = x
    · subst h; simp
    · have : (y == x) = false := by simpa using h
      simp [h, this]
  | (z, u) :: r => by
    funext y
    have ih := congrFun (lk_put x v r) y
    unfold lk at ih ⊢
    unfold putk
    by_cases hz : x = z
    · subst hz
      simp only [beq_self_eq_true, cond_true, List.lookup_cons]
      by_cases h : y = x
      · subst h; simp
      · have : (y == x) = false := by simpa using h
        simp [h, this]
    · have hz' : (x == z) = false := by simpa using hz
      simp only [hz', cond_false, List.lookup_cons]
      rw [← ih]
      by_cases h : y = x
      · subst h
        simp [hz']
      · simp only [if_neg h]
section
variable {w : World} {A : Around} {E : Value → Shared → Prop} {s : Shared} {Q : Value → Shared → Prop} {value slice : Expr} {t u : Tok} {x : List Nat}
theorem S_len (x : List Nat) : (S x).length = x.length := rfl
theorem item_S_eq {k : Nat} {c : Nat} (hx : x[k]? = some c) : Txt.item (S x) (k : Int) = S [c] := by
  have hlt : k < x.length := by
    rw [List.getElem?_eq_some_iff] at hx
    exact hx.1
  have e1 : (S x).length = x.length := rfl
  have : seqIndex? (k : Int) (S x).length = some k := by
    unfold seqIndex?
    rw [e1]
    have h1 : ¬ ((k : Int) < 0) := by lia
    simp [h1, hlt]
  unfold Txt.item Txt.charAt
  rw [this]
  simp [hx]
theorem item_or {k : Nat} (hA : A.handled = none) (hk : k < 2 ^ 62)
    (h0 : x[k]? = none → ∀ h' tk e, Heap.NewExc s.heap h' e "IndexError" → E (.ref e) { s with heap := h', toks := tk })
    (h1 : ∀ c, x[k]? = some c → Q (.str (S [c]) s.toks) { s with toks := s.toks + 1 })
    (hs : subscripted slice false (.str (S x) t) (.int k u) = operate [.str (S x) t, .int k u] (getItem (.str (S x) t) (.int k u)) := by with_unfolding_all rfl)
    (ht : ∀ r, letTemporaryGo value (.str (S x) t) r = pure () := by intro _; with_unfolding_all rfl) :
    wpAny (model prg w) A (subscriptTail value slice (.str (S x) t) (.int k u)) Q E s := by
  refine item_str_or hA (fitsSsize_of (N := 9223372036854775808) (by lia) (by lia) (Int.le_refl _)) (fun hn => h0 ?_) (fun _ hh => ?_) hs ht
  · rw [List.getElem?_eq_none_iff]
    rw [S_len] at hn
    lia
  · rw [S_len] at hh
    have hlt : k < x.length := by lia
    have e : x[k]? = some x[k] := List.getElem?_eq_getElem hlt
    rw [item_S_eq e]
    exact h1 _ e
end
noncomputable def MemOf (w : World) (v : Value) (p : Nat → Bool) (h : Heap) : Prop :=
  ∀ (A : Around) (Q E : Value → Shared → Prop) (s : Shared) (c : Nat) (t : Tok), A.handled = none → (∀ b o, h.get? b = some o → s.heap.get? b = some o) →
    (∀ tk, Q (.bool (p c)) { s with toks := tk }) → wpAny (model prg w) A (compareOp .In (.str (S [c]) t) v) Q E s
theorem MemOf.keeps {w : World} {v : Value} {p : Nat → Bool} {h h' : Heap} (x : MemOf w v p h) (k : ∀ b o, h.get? b = some o → h'.get? b = some o) : MemOf w v p h' :=
  fun A Q E s c t hA k' q => x A Q E s c t hA (fun b o e => k' _ _ (k _ _ e)) q

end
section
theorem tw_stop {α : Type} {p : α → Bool} : ∀ {l : List α} {j : Nat} {c : α}, j ≤ (l.takeWhile p).length → l[j]? = some c → p c = false → j = (l.takeWhile p).length
  | [], j, c, _, h, _ => by simp at h
  | a :: l, 0, c, hj, h, hp => by
    simp at h
    subst h
    simp [List.takeWhile_cons, hp]
  | a :: l, j + 1, c, hj, h, hp => by
    cases ha : p a with
    | false => simp [List.takeWhile_cons, ha] at hj
    | true =>
      simp only [List.takeWhile_cons, ha, if_true, List.length_cons] at hj ⊢
      have := tw_stop (l := l) (j := j) (c := c) (by lia) (by simpa using h) hp
      lia
theorem tw_go {α : Type} {p : α → Bool} : ∀ {l : List α} {j : Nat} {c : α}, j ≤ (l.takeWhile p).length → l[j]? = some c → p c = true → j + 1 ≤ (l.takeWhile p).length
  | [], j, c, _, h, _ => by simp at h
  | a :: l, 0, c, hj, h, hp => by
    simp at h
    subst h
    simp [List.takeWhile_cons, hp]
  | a :: l, j + 1, c, hj, h, hp => by
    cases ha : p a with
    | false => simp [List.takeWhile_cons, ha] at hj
    | true =>
      simp only [List.takeWhile_cons, ha, if_true, List.length_cons] at hj ⊢
      have := tw_go (l := l) (j := j) (c := c) (by lia) (by simpa using h) hp
      lia
theorem tw_le {α : Type} {p : α → Bool} {l : List α} {i : Nat} : ((l.drop i).takeWhile p).length ≤ l.length - i := by
  have h1 := (List.takeWhile_sublist (l := l.drop i) p).length_le
  rwa [List.length_drop] at h1
theorem drop_at {α : Type} {l : List α} {i k : Nat} (h : i ≤ k) : (l.drop i)[k - i]? = l[k]? := by
  rw [List.getElem?_drop]
  congr 1
  lia

end
section
open PySem PySem.W PyProof.Rows PySem.Calls PySem.Spec PySem.StrLaws PySem.Builtin PySem.Builtin.Str
theorem S1_len (c : Nat) : (S [c]).length = 1 := rfl
theorem subAt_S {x : List Nat} {c i : Nat} : (subAt (S x) (S [c]) i = true) ↔ x[i]? = some c := by
  rw [subAt_eq]
  exact take1_drop (l := x) (c := c) (i := i)
theorem occ_go {x : List Nat} {c hi limit : Nat} : ∀ (l : List Nat) (acc : Array Nat) (free : Nat), l.Pairwise (· < ·) → (∀ i ∈ l, free ≤ i) → acc.size + l.length ≤ limit →
    (forIn l (acc, free) (occBody (S x) (S [c]) hi limit)).run.fst.toList = acc.toList ++ l.filter (fun i => decide (i + 1 ≤ hi) && (x[i]? == some c))
  | [], acc, free, _, _, _ => by simp
  | a :: l, acc, free, hp, hf, hs => by
    rw [List.forIn_cons]
    unfold occBody
    have hp' := (List.pairwise_cons.mp hp)
    simp only [List.length_cons] at hs
    have e : (((acc.size < limit ∧ free ≤ a) ∧ a + (S [c]).length ≤ hi) ∧ subAt (S x) (S [c]) a = true) ↔ (a + 1 ≤ hi ∧ x[a]? = some c) := by
      rw [subAt_S, S1_len]
      have := hf a List.mem_cons_self
      constructor
      · intro h; exact ⟨h.1.2, h.2⟩
      · intro h; exact ⟨⟨⟨by exact ar20 hs, this⟩, h.1⟩, h.2⟩
    by_cases hc : a + 1 ≤ hi ∧ x[a]? = some c
    · rw [if_pos (e.mpr hc)]
      have ih := occ_go (x := x) (c := c) (hi := hi) (limit := limit) l (acc.push a) (a + (S [c]).length) hp'.2 (fun i hi => by have := hp'.1 i hi; rw [S1_len]; lia) (by rw [Array.size_push]; exact ar21 hs)
      refine Eq.trans ih ?_
      rw [List.filter_cons]
      simp [hc.1, hc.2]
    · rw [if_neg (fun h => hc (e.mp h))]
      have ih := occ_go (x := x) (c := c) (hi := hi) (limit := limit) l acc free hp'.2 (fun i hi => hf i (List.mem_cons_of_mem _ hi)) (by exact Nat.le_of_succ_le hs)
      refine Eq.trans ih ?_
      rw [List.filter_cons]
      have : (decide (a + 1 ≤ hi) && (x[a]? == some c)) = false := by
        cases h : (decide (a + 1 ≤ hi) && (x[a]? == some c)) with
        | false => rfl
        | true =>
          simp only [Bool.and_eq_true, decide_eq_true_eq, beq_iff_eq] at h
          exact absurd h hc
      rw [this]
      simp
theorem range'_pw (lo : Nat) : ∀ n, (List.range' lo n).Pairwise (· < ·) := fun n => List.pairwise_lt_range'
theorem occ_S {x : List Nat} {c lo hi limit : Nat} (h : hi + 1 - lo ≤ limit) : occurrences (S x) (S [c]) lo hi limit = (List.range' lo (hi + 1 - lo)).filter (fun i => decide (i + 1 ≤ hi) && (x[i]? == some c)) := by
  rw [occ_eq]
  have := occ_go (x := x) (c := c) (hi := hi) (limit := limit) (List.range' lo (hi + 1 - lo)) #[] lo (range'_pw lo _) (fun i hi => by have := List.mem_range'_1.mp hi; exact this.1) (by simp; exact Nat.sub_le_iff_le_add.mp h)
  simpa using this
theorem count_take {x : List Nat} {c : Nat} : ∀ {hi : Nat}, hi ≤ x.length → ((List.range' 0 hi).filter (fun i => x[i]? == some c)).length = (x.take hi).count c
  | 0, _ => by simp
  | hi + 1, h => by
    have ih := count_take (x := x) (c := c) (hi := hi) (by lia)
    have hlt : hi < x.length := by exact h
    rw [List.range'_1_concat, List.filter_append, List.length_append, ih, List.take_succ_eq_append_getElem hlt, List.count_append, List.filter_cons]
    simp only [Nat.zero_add, List.getElem?_eq_getElem hlt]
    by_cases hc : x[hi] = c
    · simp [hc]
    · have : (some x[hi] == some c) = false := by simpa using hc
      simp [this, hc]
theorem count_S {x : List Nat} {c hi : Nat} (h : hi ≤ x.length) : (occurrences (S x) (S [c]) 0 hi (x.length + 1)).length = (x.take hi).count c := by
  rw [occ_S (by exact Nat.succ_le_succ h), ← count_take h]
  have e : hi + 1 - 0 = hi + 1 := rfl
  rw [e, List.range'_1_concat, List.filter_append]
  have h2 : List.filter (fun i => decide (i + 1 ≤ hi) && (x[i]? == some c)) [0 + hi] = [] := by
    simp
    intro h'
    lia
  rw [h2, List.append_nil]
  congr 1
  refine List.filter_congr fun i hi' => ?_
  have := List.mem_range'_1.mp hi'
  have : i + 1 ≤ hi := by exact ar22 this
  simp [this]
noncomputable def back (c : Nat) (l : List Nat) : Nat := (l.reverse.takeWhile (fun a => a != c)).length
theorem back_at {c : Nat} {l : List Nat} {a : Nat} (ha : l[a]? = some c) (h : ∀ i, a < i → i < l.length → l[i]? ≠ some c) : back c l + a + 1 = l.length := by
  have hlt : a < l.length := by
    rw [List.getElem?_eq_some_iff] at ha; exact ha.1
  have hget : l[a] = c := by
    rw [List.getElem?_eq_getElem hlt] at ha; exact Option.some.inj ha
  have e : l = l.take a ++ (c :: l.drop (a + 1)) := by
    rw [← hget, List.getElem_cons_drop, List.take_append_drop]
  have hall : ∀ y ∈ (l.drop (a + 1)).reverse, (y != c) = true := by
    intro y hy
    rw [List.mem_reverse] at hy
    refine X1_1 (List.mem_iff_getElem?.mp hy) ?_; intro j hj
    rw [List.getElem?_drop] at hj
    have hlt2 : a + 1 + j < l.length := by
      rw [List.getElem?_eq_some_iff] at hj; exact hj.1
    have := h (a + 1 + j) (by lia) hlt2
    rw [hj] at this
    simpa using this
  have e2 : l.reverse = (l.drop (a + 1)).reverse ++ (c :: (l.take a).reverse) := by
    conv => lhs; rw [e]
    simp
  unfold back
  rw [e2, List.takeWhile_append_of_pos hall]
  simp
  exact Nat.sub_add_cancel hlt
theorem last_S {x : List Nat} {c hi : Nat} (h : hi ≤ x.length) (hc : c ∈ x.take hi) : lastOccurrence (S x) (S [c]) 0 hi = some (hi - 1 - back c (x.take hi)) := by
  rw [last_eq]
  have hr := last_run (S x) (S [c]) hi (List.range' 0 (hi + 1 - 0)) [] none (fun i hi => nomatch hi) (fun i hi => nomatch hi) (range'_pw 0 _)
  have hAt : ∀ i, At (S x) (S [c]) hi i ↔ (i + 1 ≤ hi ∧ x[i]? = some c) := fun i => by
    unfold At
    rw [subAt_S, S1_len]
  refine X1_1 (List.mem_iff_getElem?.mp hc) ?_; intro j hj
  have hjl : j < hi := by
    rw [List.getElem?_eq_some_iff] at hj
    have := hj.1
    rw [List.length_take] at this
    exact ar19 this
  have hjx : x[j]? = some c := by
    rw [List.getElem?_take] at hj
    simpa [hjl] using hj
  cases hst : (forIn (List.range' 0 (hi + 1 - 0)) none (lastBody (S x) (S [c]) hi)).run with
  | none =>
    rw [hst] at hr
    exfalso
    have := hr j (by simp [List.mem_range'_1]; exact Nat.lt_succ_of_lt hjl)
    rw [hAt] at this
    exact this ⟨by exact hjl, hjx⟩
  | some a =>
    rw [hst] at hr
    refine X0_2 hr ?_; clear hr; intro h1 h2
    rw [hAt] at h1
    have ha : (x.take hi)[a]? = some c := by
      rw [List.getElem?_take]
      have : a < hi := by exact h1.1
      simp [this, h1.2]
    have hb := back_at ha fun i hia hil hx => by
      rw [List.length_take] at hil
      refine h2 i ?_ hia ?_
      · simp [List.mem_range'_1]; exact Nat.lt_succ_of_lt (ar19 hil)
      · rw [hAt]
        refine ⟨by exact ar19 hil, ?_⟩
        rw [List.getElem?_take] at hx
        have : i < hi := by exact ar19 hil
        simpa [this] using hx
    rw [List.length_take] at hb
    congr 1
    exact ar18 h hb

theorem gives_count4 (x y : Str) (i j : Nat) (t u v v' : Tok) : Gives («str.count» ⟨[.str x t, .str y u, .int i v, .int j v'], []⟩) (.int (occurrences x y i (min j x.length) (x.length + 1)).length) := by
  have e1 : (max 0 (if (i : Int) < 0 then (i : Int) + x.length else i)).toNat = i := by
    have : ¬ ((i : Int) < 0) := by lia
    rw [if_neg this]; exact ar14
  have e2 : (max 0 (if (j : Int) < 0 then (j : Int) + x.length else j)).toNat = j := by
    have : ¬ ((j : Int) < 0) := by lia
    rw [if_neg this]; exact ar14
  show Gives (retInt (occurrences x y (max 0 (if (i : Int) < 0 then (i : Int) + x.length else i)).toNat (min (max 0 (if (j : Int) < 0 then (j : Int) + x.length else j)).toNat x.length) (x.length + 1)).length) _
  rw [e1, e2]
  exact .of_eq rfl
theorem gives_rindex4 (x y : Str) (i j k : Nat) (t u v v' : Tok) (h : lastOccurrence x y i (min j x.length) = some k) : Gives («str.rindex» ⟨[.str x t, .str y u, .int i v, .int j v'], []⟩) (.int k) := by
  have e1 : (max 0 (if (i : Int) < 0 then (i : Int) + x.length else i)).toNat = i := by
    have : ¬ ((i : Int) < 0) := by lia
    rw [if_neg this]; exact ar14
  have e2 : (max 0 (if (j : Int) < 0 then (j : Int) + x.length else j)).toNat = j := by
    have : ¬ ((j : Int) < 0) := by lia
    rw [if_neg this]; exact ar14
  show Gives (match lastOccurrence x y (max 0 (if (i : Int) < 0 then (i : Int) + x.length else i)).toNat (min (max 0 (if (j : Int) < 0 then (j : Int) + x.length else j)).toNat x.length) with | some i => retInt i | none => _) _
  rw [e1, e2, h]
  exact .of_eq rfl
section
variable {w : World} {A : Around} {E : Value → Shared → Prop} {s : Shared} {Q : Value → Shared → Prop} {t u v v' : Tok} {x : List Nat} {c : Nat}
theorem count_K {y : Str} {j : Nat} (hy : y = S [c]) (hj : j ≤ x.length) (h : ∀ t' tk, Q (.int ((x.take j).count c : Nat) t') { s with toks := tk }) :
    wpAny (model prg w) A (call (.builtin "str.count") [.str (S x) t, .str y u, .int 0 v, .int j v']) Q E s := by
  subst hy
  refine call_gives F.slot_str_count (typeIs_str _ _ _) F.entry_str_count (F.args_str_count_4 _ _ _ _) (gives_count4 (S x) (S [c]) 0 j t u v v') ?_
  have e : (occurrences (S x) (S [c]) 0 (min j (S x).length) ((S x).length + 1)).length = (x.take j).count c := by
    rw [S_len, Nat.min_eq_left hj, count_S hj]
  rw [e]
  exact h _ _
theorem rindex_K {y : Str} {j : Nat} (hy : y = S [c]) (hj : j ≤ x.length) (hc : c ∈ x.take j) (h : ∀ t' tk, Q (.int (j - 1 - back c (x.take j) : Nat) t') { s with toks := tk }) :
    wpAny (model prg w) A (call (.builtin "str.rindex") [.str (S x) t, .str y u, .int 0 v, .int j v']) Q E s := by
  subst hy
  refine call_gives F.slot_str_rindex (typeIs_str _ _ _) F.entry_str_rindex (F.args_str_rindex_4 _ _ _ _) (gives_rindex4 (S x) (S [c]) 0 j (j - 1 - back c (x.take j)) t u v v' ?_) (h _ _)
  rw [S_len, Nat.min_eq_left hj]
  exact last_S hj hc
theorem len_K (hx : x.length ≤ 1000) (h : ∀ t' tk, Q (.int (x.length : Nat) t') { s with toks := tk }) : wpAny (model prg w) A (call (.builtin "len") [.str (S x) t]) Q E s :=
  P.len_str (by rw [S_len]; lia) (h _ _)
end

theorem back_none {c : Nat} {l : List Nat} (h : c ∉ l) : back c l = l.length := by
  unfold back
  have hall : ∀ y ∈ l.reverse, (y != c) = true := fun y hy => by
    rw [List.mem_reverse] at hy
    have : y ≠ c := fun e => h (e ▸ hy)
    simpa using this
  have := List.takeWhile_append_of_pos (l₂ := []) hall
  simp at this
  rw [this]; simp
theorem back_le {c : Nat} {l : List Nat} : back c l ≤ l.length := by
  unfold back
  have h1 := (List.takeWhile_sublist (l := l.reverse) (fun a => a != c)).length_le
  simpa using h1
theorem back_lt {c : Nat} : ∀ {l : List Nat}, c ∈ l → back c l + 1 ≤ l.length := by
  intro l h
  rcases Nat.lt_or_ge (back c l) l.length with h1 | h1
  · exact h1
  · exfalso
    have e : back c l = l.length := Nat.le_antisymm back_le h1
    unfold back at e
    have h2 : l.reverse.takeWhile (fun a => a != c) = l.reverse := by
      have h3 := List.takeWhile_prefix (l := l.reverse) (fun a => a != c)
      exact h3.eq_of_length (by simpa using e)
    have h4 : ∀ y ∈ l.reverse.takeWhile (fun a => a != c), (y != c) = true := fun y hy => List.all_eq_true.mp (List.all_takeWhile) y hy
    rw [h2] at h4
    have := h4 c (List.mem_reverse.mpr h)
    simp at this
noncomputable def coordS (x : List Nat) (i : Nat) : Str := if x.length ≤ i then Str.ofString "end of document" else
  Str.empty ++ Str.ofString "line " ++ Str.ofString (toString (((x.take i).count 10 : Nat) + 1 : Int)) ++ Str.ofString ", column " ++ Str.ofString (toString ((back 10 (x.take i) : Nat) + 1 : Int))
theorem coordS_len {x : List Nat} {i : Nat} (hx : x.length ≤ 24) (hi : i ≤ 30) : (coordS x i).length ≤ 40 := by
  unfold coordS
  split
  · decide
  · have h1 : (x.take i).count 10 ≤ 24 := Nat.le_trans List.count_le_length (by rw [List.length_take]; exact ar51 hx)
    have h2 : back 10 (x.take i) ≤ 24 := Nat.le_trans back_le (by rw [List.length_take]; exact ar51 hx)
    have e1 := KT.len_num (n := (((x.take i).count 10 : Nat) + 1 : Int)) (by lia) (by exact ar23 h1)
    have e2 := KT.len_num (n := ((back 10 (x.take i) : Nat) + 1 : Int)) (by lia) (by exact ar23 h2)
    have e3 : (Str.ofString "line ").length = 5 := by decide
    have e4 : (Str.ofString ", column ").length = 9 := by decide
    have e5 : Str.empty.length = 0 := by decide
    simp only [Str.length_append]
    lia

end
section
open PySem PySem.W PyProof.Rows PySem.Calls PySem.Spec PySem.StrLaws PySem.Builtin PySem.Builtin.Str
theorem occ_goL {x : List Nat} {c hi limit : Nat} : ∀ (l : List Nat) (acc : Array Nat) (free : Nat), l.Pairwise (· < ·) → (∀ i ∈ l, free ≤ i) →
    (forIn l (acc, free) (occBody (S x) (S [c]) hi limit)).run.fst.toList = acc.toList ++ (l.filter (fun i => decide (i + 1 ≤ hi) && (x[i]? == some c))).take (limit - acc.size)
  | [], acc, free, _, _ => by simp
  | a :: l, acc, free, hp, hf => by
    rw [List.forIn_cons]
    unfold occBody
    have hp' := (List.pairwise_cons.mp hp)
    have e : (((acc.size < limit ∧ free ≤ a) ∧ a + (S [c]).length ≤ hi) ∧ subAt (S x) (S [c]) a = true) ↔ (acc.size < limit ∧ a + 1 ≤ hi ∧ x[a]? = some c) := by
      rw [subAt_S, S1_len]
      have := hf a List.mem_cons_self
      constructor
      · intro h; exact ⟨h.1.1.1, h.1.2, h.2⟩
      · intro h; exact ⟨⟨⟨h.1, this⟩, h.2.1⟩, h.2.2⟩
    by_cases hc : acc.size < limit ∧ a + 1 ≤ hi ∧ x[a]? = some c
    · rw [if_pos (e.mpr hc)]
      have ih := occ_goL (x := x) (c := c) (hi := hi) (limit := limit) l (acc.push a) (a + (S [c]).length) hp'.2 (fun i hi => by have := hp'.1 i hi; rw [S1_len]; exact this)
      refine Eq.trans ih ?_
      rw [List.filter_cons]
      have e2 : limit - acc.size = limit - (acc.size + 1) + 1 := by exact ar8 hc.1
      simp [hc.2.1, hc.2.2, e2]
    · rw [if_neg (fun h => hc (e.mp h))]
      have ih := occ_goL (x := x) (c := c) (hi := hi) (limit := limit) l acc free hp'.2 (fun i hi => hf i (List.mem_cons_of_mem _ hi))
      refine Eq.trans ih ?_
      rw [List.filter_cons]
      by_cases hl : acc.size < limit
      · have : (decide (a + 1 ≤ hi) && (x[a]? == some c)) = false := by
          cases h : (decide (a + 1 ≤ hi) && (x[a]? == some c)) with
          | false => rfl
          | true =>
            simp only [Bool.and_eq_true, decide_eq_true_eq, beq_iff_eq] at h
            exact absurd ⟨hl, h⟩ hc
        rw [this]
        simp
      · have : limit - acc.size = 0 := by exact Nat.sub_eq_zero_of_le (Nat.le_of_not_lt hl)
        simp [this]
noncomputable def till (c : Nat) (x : List Nat) (i : Nat) : Nat := ((x.drop i).takeWhile (fun a => a != c)).length
theorem first_S {x : List Nat} {c : Nat} : ∀ (n i : Nat), i + n = x.length → ((List.range' i (n + 1)).filter (fun j => decide (j + 1 ≤ x.length) && (x[j]? == some c))).take 1 = if till c x i < n then [i + till c x i] else []
  | 0, i, h => by
    have e : x.drop i = [] := List.drop_eq_nil_of_le (by exact Nat.le_of_eq h.symm)
    simp [till, e, List.range'_succ, List.filter_cons, show ¬ (i + 1 ≤ x.length) by exact Nat.not_lt.mpr (Nat.le_of_eq h.symm)]
  | n + 1, i, h => by
    have hlt : i < x.length := by exact ar15 h
    have e : x.drop i = x[i] :: x.drop (i + 1) := List.drop_eq_getElem_cons hlt
    have ih := first_S (x := x) (c := c) n (i + 1) (by exact (Nat.succ_add_eq_add_succ i n).trans h)
    rw [List.range'_succ, List.filter_cons]
    have h1 : i + 1 ≤ x.length := by exact ar15 h
    by_cases hc : x[i] = c
    · have et : till c x i = 0 := by
        unfold till; rw [e, List.takeWhile_cons]; simp [hc]
      simp [List.getElem?_eq_getElem hlt, hc, h1, et]
    · have et : till c x i = till c x (i + 1) + 1 := by
        unfold till; rw [e, List.takeWhile_cons]; simp [hc]
      have hne : (x[i]? == some c) = false := by rw [List.getElem?_eq_getElem hlt]; simpa using hc
      rw [hne, Bool.and_false, if_neg (by simp), ih, et]
      by_cases hk : till c x (i + 1) < n
      · rw [if_pos hk, if_pos (by exact Nat.succ_lt_succ hk)]; congr 1; lia
      · rw [if_neg hk, if_neg (by exact fun q => hk (Nat.lt_of_succ_lt_succ q))]
theorem occ_S1 {x : List Nat} {c i : Nat} (h : i ≤ x.length) : occurrences (S x) (S [c]) i x.length 1 = if till c x i < x.length - i then [i + till c x i] else [] := by
  rw [occ_eq]
  have h1 := occ_goL (x := x) (c := c) (hi := x.length) (limit := 1) (List.range' i (x.length + 1 - i)) #[] i (range'_pw i _) (fun j hj => by have := List.mem_range'_1.mp hj; exact this.1)
  have h2 := first_S (x := x) (c := c) (x.length - i) i (by exact ar3 h)
  have e : x.length - i + 1 = x.length + 1 - i := by exact ar2 h
  rw [e] at h2
  simp only [List.size_toArray, List.length_nil, Nat.sub_zero, List.nil_append] at h1
  rw [h2] at h1
  exact h1
section
variable {w : World} {A : Around} {E : Value → Shared → Prop} {s : Shared} {Q : Value → Shared → Prop} {t u v v' : Tok} {x : List Nat} {c : Nat}
theorem gives_index3 (x y : Str) (i j : Nat) (t u v : Tok) (rest : List Nat) (h : occurrences x y i x.length 1 = j :: rest) : Gives («str.index» ⟨[.str x t, .str y u, .int i v], []⟩) (.int j) := by
  have e1 : (max 0 (if (i : Int) < 0 then (i : Int) + x.length else i)).toNat = i := by
    have : ¬ ((i : Int) < 0) := by lia
    rw [if_neg this]; exact ar14
  show Gives (match occurrences x y (max 0 (if (i : Int) < 0 then (i : Int) + x.length else i)).toNat (min x.length x.length) 1 with | i :: _ => retInt i | [] => (do rule "str.index.not-found"; raiseError "ValueError" "substring not found")) _
  rw [e1, Nat.min_self, h]
  exact .of_eq rfl
theorem raises_index3 (x y : Str) (i : Nat) (t u v : Tok) (h : occurrences x y i x.length 1 = []) : Meets («str.index» ⟨[.str x t, .str y u, .int i v], []⟩) (raisesNew "ValueError") := by
  have e1 : (max 0 (if (i : Int) < 0 then (i : Int) + x.length else i)).toNat = i := by
    have : ¬ ((i : Int) < 0) := by lia
    rw [if_neg this]; exact ar14
  intro prog w A R s hS
  show wpAny _ _ (match occurrences x y (max 0 (if (i : Int) < 0 then (i : Int) + x.length else i)).toNat (min x.length x.length) 1 with | i :: _ => retInt i | [] => _) _ _ s
  rw [e1, Nat.min_self, h]
  first
    | exact wpAny_bind (wpAny_rule (by exact_raiseError plainExc_ValueError hS.1 hS.2))
    | exact wpAny_bind (wpAny_rule (wpAny_bind (by exact_raiseError plainExc_ValueError hS.1 hS.2)))
theorem index_K {y : Str} {i : Nat} (hA : A.handled = none) (hy : y = S [c]) (hi : i ≤ x.length)
    (h0 : i + till c x i = x.length → ∀ h' tk e, Heap.NewExc s.heap h' e "ValueError" → E (.ref e) { s with heap := h', toks := tk })
    (h1 : i + till c x i < x.length → ∀ t' tk, Q (.int (i + till c x i : Nat) t') { s with toks := tk }) :
    wpAny (model prg w) A (call (.builtin "str.index") [.str (S x) t, .str y u, .int i v]) Q E s := by
  subst hy
  have hle : till c x i ≤ x.length - i := by
    unfold till
    have h1 := (List.takeWhile_sublist (l := x.drop i) (fun a => a != c)).length_le
    rwa [List.length_drop] at h1
  have ho := occ_S1 (x := x) (c := c) hi
  by_cases hk : till c x i < x.length - i
  · rw [if_pos hk] at ho
    exact call_gives F.slot_str_index (typeIs_str _ _ _) F.entry_str_index (F.args_str_index_3 _ _ _) (gives_index3 (S x) (S [c]) i _ t u v [] ho) (h1 (by exact ar5 hk) _ _)
  · rw [if_neg hk] at ho
    exact call_meets F.slot_str_index (typeIs_str _ _ _) F.entry_str_index (F.args_str_index_3 _ _ _) (raises_index3 (S x) (S [c]) i t u v ho) ⟨hA, fun h' tk e hx => h0 (by exact ar6 hi hle hk) h' tk e hx⟩
end
theorem fm_range (x : List Nat) (i n : Nat) (h : i + n ≤ x.length) : (List.range n).filterMap (fun k => x[i + k]?) = (x.drop i).take n := by
  induction n with
  | zero => simp
  | succ n ih =>
    have hlt : i + n < x.length := by exact h
    rw [List.range_succ, List.filterMap_append, ih (by exact Nat.le_of_succ_le h), List.take_succ]
    simp [List.getElem?_drop, List.getElem?_eq_getElem hlt]
theorem idx_eq (lo hi : Option Nat) (n : Nat) : strSliceIndices (lo.map (fun k : Nat => (k : Int))) (hi.map (fun k : Nat => (k : Int))) 1 n = (List.range (min (hi.getD n) n - min (lo.getD 0) n)).map (fun k => min (lo.getD 0) n + k) := by
  unfold strSliceIndices sliceRange
  have hA : ∀ a : Nat, (if (1 : Int) > 0 then max 0 (min (if (a : Int) < 0 then (a : Int) + (n : Int) else (a : Int)) n) else max (-1) (min (if (a : Int) < 0 then (a : Int) + (n : Int) else (a : Int)) ((n : Int) - 1))) = ((min a n : Nat) : Int) := fun a => by
    rw [if_pos (by decide), if_neg (by lia)]; exact ar10
  have fin : ∀ a b : Nat, ((List.range (if (1 : Int) > 0 then (if (a : Int) < (b : Int) then ((b : Int) - a + 1 - 1) / 1 else 0) else (if (a : Int) > b then ((a : Int) - b - 1 - 1) / (-1) else 0)).toNat).map fun (k : Nat) => ((a : Int) + 1 * (k : Int)).toNat) = (List.range (b - a)).map (fun k => a + k) := fun a b => by
    have e1 : (if (1 : Int) > 0 then (if (a : Int) < (b : Int) then ((b : Int) - a + 1 - 1) / 1 else 0) else (if (a : Int) > b then ((a : Int) - b - 1 - 1) / (-1) else 0)).toNat = b - a := by
      rw [if_pos (by decide), Int.ediv_one]
      split <;> first | exact ar12 | exact ar13 (by assumption)
    rw [e1]
    refine List.map_congr_left fun k _ => ?_
    exact ar11
  have fin' : ∀ (X Y : Int) (a b : Nat), X = a → Y = b → ((List.range (if (1 : Int) > 0 then (if X < Y then (Y - X + 1 - 1) / 1 else 0) else (if X > Y then (X - Y - 1 - 1) / (-1) else 0)).toNat).map fun (k : Nat) => (X + 1 * (k : Int)).toNat) = (List.range (b - a)).map (fun k => a + k) := fun X Y a b h1 h2 => by
    subst h1; subst h2; exact fin a b
  refine fin' _ _ _ _ ?_ ?_
  · cases lo with
    | none => simp
    | some a => exact hA a
  · cases hi with
    | none => simp
    | some a => exact hA a
theorem slice_S (x : List Nat) (lo hi : Option Nat) : Txt.slice (S x) (lo.map (fun k : Nat => (k : Int))) (hi.map (fun k : Nat => (k : Int))) = S ((x.take (hi.getD x.length)).drop (lo.getD 0)) := by
  have hf : ∀ a b : Nat, (((List.range (min b x.length - min a x.length)).map (fun k => min a x.length + k)).filterMap (fun k => (S x).cps[k]?)) = (x.take b).drop a := fun a b => by
    rw [List.filterMap_map]
    have h1 := fm_range x (min a x.length) (min b x.length - min a x.length) (by exact ar9)
    have h2 : (fun k => (S x).cps[k]?) ∘ (fun k => min a x.length + k) = fun k => x[min a x.length + k]? := by
      funext k; simp
    rw [h2, h1, List.drop_take]
    rcases Nat.le_total a x.length with ha | ha
    · rw [Nat.min_eq_left ha]
      rcases Nat.le_total b x.length with hb | hb
      · rw [Nat.min_eq_left hb]
      · rw [Nat.min_eq_right hb, List.take_of_length_le (by rw [List.length_drop]; lia), List.take_of_length_le (by rw [List.length_drop]; exact Nat.sub_le_sub_right hb a)]
    · rw [Nat.min_eq_right ha, List.drop_of_length_le (l := x) (by lia), List.drop_of_length_le (by lia)]; simp
  have key := hf (lo.getD 0) (hi.getD x.length)
  unfold Txt.slice
  rw [S_len, idx_eq]
  split
  · rename_i hc
    have hlen : ((x.take (hi.getD x.length)).drop (lo.getD 0)).length = x.length := by
      simp at hc
      rw [List.length_drop, List.length_take]
      exact ar7 hc
    have hsub : ((x.take (hi.getD x.length)).drop (lo.getD 0)).Sublist x := (List.drop_sublist _ _).trans (List.take_sublist _ _)
    rw [hsub.eq_of_length hlen]
  · rw [key]
section
variable {w : World} {b : Heap} {L : Addr} {m : Str → Option Value} {news : List (Addr × Obj)} {A : Around} {E : Value → Shared → Prop} {s : Shared} {Q : Value → Shared → Prop} {t ui uj : Tok} {x : List Nat} {value slice : Expr} {i j : Nat}
theorem sub_ss (F : Fr b L s.heap m) (N : News b L s.heap news) (hx : x.length ≤ 1000) (h : ∀ h' t' k, Fr b L h' m → News b L h' news → Q (.str (S ((x.take j).drop i)) t') { s with heap := h', toks := k })
    (hs : subscripted slice false (.str (S x) t) (.ref s.heap.objs.size) = operate [.ref s.heap.objs.size, .str (S x) t] (getItem (.str (S x) t) (.ref s.heap.objs.size)) := by with_unfolding_all rfl)
    (ht : ∀ r, letTemporaryGo value (.str (S x) t) r = pure () := by intro _; with_unfolding_all rfl) :
    wpAny (model prg w) A (subscriptTail value slice (.str (S x) t) (.ref s.heap.objs.size)) Q E { s with heap := s.heap.push { cls := .type "slice", data := .fields #[.int i ui, .int j uj, .none] } } := by
  refine slice_strN_ss F N (fun h' t' k a c => ?_) hs ht (by rw [S_len]; exact Nat.le_trans hx (by decide))
  have e := slice_S x (some i) (some j)
  have e' : Txt.slice (S x) (some (i : Int)) (some (j : Int)) = S ((x.take j).drop i) := e
  rw [e']
  exact h h' t' k a c
theorem sub_ns (F : Fr b L s.heap m) (N : News b L s.heap news) (hx : x.length ≤ 1000) (h : ∀ h' t' k, Fr b L h' m → News b L h' news → Q (.str (S (x.take j)) t') { s with heap := h', toks := k })
    (hs : subscripted slice false (.str (S x) t) (.ref s.heap.objs.size) = operate [.ref s.heap.objs.size, .str (S x) t] (getItem (.str (S x) t) (.ref s.heap.objs.size)) := by with_unfolding_all rfl)
    (ht : ∀ r, letTemporaryGo value (.str (S x) t) r = pure () := by intro _; with_unfolding_all rfl) :
    wpAny (model prg w) A (subscriptTail value slice (.str (S x) t) (.ref s.heap.objs.size)) Q E { s with heap := s.heap.push { cls := .type "slice", data := .fields #[.none, .int j uj, .none] } } := by
  refine slice_strN_ns F N (fun h' t' k a c => ?_) hs ht (by rw [S_len]; exact Nat.le_trans hx (by decide))
  have e' : Txt.slice (S x) none (some (j : Int)) = S (x.take j) := slice_S x none (some j)
  rw [e']
  exact h h' t' k a c
theorem sub_sn (F : Fr b L s.heap m) (N : News b L s.heap news) (hx : x.length ≤ 1000) (h : ∀ h' t' k, Fr b L h' m → News b L h' news → Q (.str (S (x.drop i)) t') { s with heap := h', toks := k })
    (hs : subscripted slice false (.str (S x) t) (.ref s.heap.objs.size) = operate [.ref s.heap.objs.size, .str (S x) t] (getItem (.str (S x) t) (.ref s.heap.objs.size)) := by with_unfolding_all rfl)
    (ht : ∀ r, letTemporaryGo value (.str (S x) t) r = pure () := by intro _; with_unfolding_all rfl) :
    wpAny (model prg w) A (subscriptTail value slice (.str (S x) t) (.ref s.heap.objs.size)) Q E { s with heap := s.heap.push { cls := .type "slice", data := .fields #[.int i ui, .none, .none] } } := by
  refine slice_strN_sn F N (fun h' t' k a c => ?_) hs ht (by rw [S_len]; exact Nat.le_trans hx (by decide))
  have e' : Txt.slice (S x) (some (i : Int)) none = S (x.drop i) := by
    have e2 := slice_S x (some i) none
    simp only [Option.map, Option.getD, List.take_length] at e2
    exact e2
  rw [e']
  exact h h' t' k a c
end
noncomputable def reprC (c : Nat) : Str := if c = 10 then Str.ofString "'\\n'" else Str.ofString "'\\x01'"
theorem repr39 : reprText (S [39]) = Str.ofString "\"'\"" := by decide +kernel
theorem repr10 : reprText (S [10]) = reprC 10 := by decide +kernel
theorem repr1 : reprText (S [1]) = reprC 1 := by decide +kernel
theorem repr_bad {c : Nat} (h : c = 10 ∨ c = 1) : reprText (S [c]) = reprC c ∧ (reprC c).length ≤ 10 := by
  rcases h with rfl | rfl
  · exact ⟨repr10, by decide +kernel⟩
  · exact ⟨repr1, by decide +kernel⟩
theorem repr_K {w : World} {A : Around} {E : Value → Shared → Prop} {s : Shared} {Q : Value → Shared → Prop} {y z : Str} {t : Tok} (hy : reprText y = z) (hz : z.length ≤ 100) (h : ∀ t' tk, Q (.str z t') { s with toks := tk }) : wpAny (model prg w) A (pyReprObj (.str y t)) Q E s := by
  subst hy
  exact pyReprObj_str (h _ _) (Nat.le_trans hz (by decide))
theorem any_take {p : Nat → Bool} : ∀ (l : List Nat) (n : Nat), n ≤ l.length → (l.take n).any p = decide ((l.takeWhile (fun a => !p a)).length < n)
  | l, 0, _ => by simp
  | [], n + 1, h => by simp at h
  | a :: l, n + 1, h => by
    have ih := any_take (p := p) l n (by simpa using h)
    rw [List.take_succ_cons, List.any_cons, ih, List.takeWhile_cons]
    cases hp : p a <;> simp

end
section
open PySem PySem.W PyProof.Rows PySem.Calls PySem.Spec
noncomputable abbrev JA (hd : Option Value) (dp un : Nat) (env : Env) (outer : List Env) : Around := { handled := hd, depth := dp, frames := some (env :: outer), guards := some [], units := un }
structure Gd (w : World) (mean : ExcName → Option Value) (mg mb : Str → Option Value) (b : Heap) : Prop where
  K : (fragK w.params).In b
  T : Top topProg (loose0 ++ (recsOf q0).map (·.name) ++ (litsOf q0).map (·.1) ++ (clssOf q0 loose0).map (·.name)) mean mg mb b
  C1 : CodeHd b 152 148
  C2 : CodeHd b 206 202
noncomputable def Sep (news frs : List (Addr × Obj)) : Prop := ∀ q ∈ news, ∀ p ∈ frs, q.1 ≠ p.1
structure Fly (b : Heap) (env : Env) (outer : List Env) (L : Addr) (m : Str → Option Value) (news frs : List (Addr × Obj)) (e : Addr) (cls : Value) (args : List Value) (h : Heap) : Prop where
  fr : Fr b L h m
  ns : News b L h (news ++ frs)
  frs : TI.Frs outer frs
  fly : ∃ B t, b.StaysIn B ∧ (∀ q ∈ news, B.get? q.1 = some q.2) ∧ B.get? t = some { cls := .type "tuple", data := .seq args.toArray } ∧ Heap.FlyingW B (env :: outer) e cls (.ref t) h
structure FlyB (b : Heap) (outer : List Env) (L : Addr) (lg frs : List (Addr × Obj)) (e : Addr) (cls : Value) (args : List Value) (h : Heap) : Prop where
  kb : ∀ c o, b.get? c = some o → h.get? c = some o
  ns : News b L h (lg ++ frs)
  fly : ∃ B t, b.StaysIn B ∧ (∀ q ∈ lg, B.get? q.1 = some q.2) ∧ B.get? t = some { cls := .type "tuple", data := .seq args.toArray } ∧ Heap.FlyingW B outer e cls (.ref t) h
noncomputable def Fresh (news fr lg : List (Addr × Obj)) : Prop := ∀ p ∈ lg, p.1 ∈ news.map (·.1) ∨ ∀ q ∈ news ++ fr, p.1 ≠ q.1
theorem Fresh.refl {news fr : List (Addr × Obj)} : Fresh news fr news := fun p hp => .inl (List.mem_map_of_mem hp)
noncomputable def JSpec (w : World) (b : Heap) (hd : Option Value) (k : Nat) (f : Value) (pos : List Value) (kw : List (Str × Value)) (news : List (Addr × Obj)) (post : Value → List (Addr × Obj) → Prop) (exc : Str → List (Addr × Obj) → Prop) : Prop :=
  ∀ (dp un : Nat) (env : Env) (outer : List Env) (L : Addr) (m : Str → Option Value) (frs : List (Addr × Obj)) (s : Shared) (Q E : Value → Shared → Prop),
    env.frame = some L → env.scope.kind = .function → TI.Frs outer frs → Fr b L s.heap m → News b L s.heap (news ++ frs) → Sep news frs → dp + k < recursionLimit → un + 16 * k < cLine →
    (∀ v lg frs' h' tk, post v lg → TI.SameUp frs frs' → (∀ p ∈ lg, p.1 ∈ news.map (·.1) ∨ (∀ q ∈ news ++ frs, p.1 ≠ q.1) ∧ p.1 ≠ L) → Fr b L h' m → News b L h' (lg ++ frs') → Q v { s with heap := h', toks := tk }) →
    (∀ e msg tm lg frs' h' tk, exc msg lg → TI.SameUp frs frs' → (∀ p ∈ lg, p.1 ∈ news.map (·.1) ∨ (∀ q ∈ news ++ frs, p.1 ≠ q.1) ∧ p.1 ≠ L) → Fly b env outer L m lg frs' e (.ref 101) [.str msg tm] h' → E (.ref e) { s with heap := h', toks := tk }) →
    wpAny (model prg w) (JA hd dp un env outer) (call f pos kw) Q E s

section
variable {w : World} {b : Heap} {hd : Option Value} {dp un : Nat} {env : Env} {outer : List Env} {L : Addr} {m : Str → Option Value} {news frs : List (Addr × Obj)} {s : Shared}
theorem frs_cons {oL : Obj} (hf : env.frame = some L) (hk : env.scope.kind = .function) (hd : ∃ es ep, oL.data = .dict es ep) (h : TI.Frs outer frs) : TI.Frs (env :: outer) ((L, oL) :: frs) :=
  ⟨by rw [hk]; decide, hf, hd, h⟩
theorem sameUp_cons {p : Addr × Obj} {l l' : List (Addr × Obj)} (h : TI.SameUp (p :: l) l') : ∃ sl r, l' = (p.1, { p.2 with slots := sl }) :: r ∧ TI.SameUp l r := by
  cases l' with
  | nil => exact False.elim h
  | cons q r =>
    refine X0_3 h ?_; clear h; intro h1 z0 h3; refine X1_1 z0 ?_; clear z0; intro sl h2
    refine ⟨sl, r, ?_, h3⟩
    obtain ⟨a, o⟩ := q
    dsimp only at h1 h2
    rw [h1, h2]
theorem back_frame {oL : Obj} {h' : Heap} {L' : Addr} {lg fr' : List (Addr × Obj)} (F : Fr b L s.heap m) (N : News b L s.heap (news ++ frs)) (hns : ∀ (hh : Heap) sl, hh.get? L = some { oL with slots := sl } → hh.Ns L m)
    (hfr : TI.SameUp ((L, oL) :: frs) fr') (kb : ∀ c o, b.get? c = some o → h'.get? c = some o) (N' : News b L' h' (lg ++ fr')) (hF : Fresh news ((L, oL) :: frs) lg) :
    ∃ frs', TI.SameUp frs frs' ∧ (∀ p ∈ lg, p.1 ∈ news.map (·.1) ∨ (∀ q ∈ news ++ frs, p.1 ≠ q.1) ∧ p.1 ≠ L) ∧ Fr b L h' m ∧ News b L h' (lg ++ frs') := by
  refine X2_2 (sameUp_cons hfr) ?_; intro sl r z0 hr; subst z0
  have hL := (N' (L, { oL with slots := sl }) (List.mem_append_right _ (List.mem_cons_self))).1
  have hF' : ∀ p ∈ lg, p.1 ∈ news.map (·.1) ∨ (∀ q ∈ news ++ frs, p.1 ≠ q.1) ∧ p.1 ≠ L := fun p hp => (hF p hp).imp id fun z => ⟨fun q hq => z q ((List.mem_append.mp hq).elim (fun y => List.mem_append_left _ y) fun y => List.mem_append_right _ (List.mem_cons_of_mem _ y)), z (L, oL) (List.mem_append_right _ List.mem_cons_self)⟩
  refine ⟨r, hr, hF', ⟨hns _ _ hL, kb, F.above⟩, fun p hp => ?_⟩
  have hp' : p ∈ lg ++ ((L, { oL with slots := sl }) :: r) := by
    refine mem_a hp (fun q => ?_) fun q => ?_
    · exact List.mem_append_left _ q
    · exact List.mem_append_right _ (List.mem_cons_of_mem _ q)
  refine ⟨(N' p hp').1, ?_, (N' p hp').2.2⟩
  refine mem_a hp (fun q => ?_) fun q => ?_
  · rcases hF' p q with z | z
    · refine X1_2 (List.mem_map.mp z) ?_; intro p' h1 h2
      rw [← h2]; exact (N p' (List.mem_append_left _ h1)).2.1
    · exact z.2
  · refine X1_2 (TI.SameUp.fwd hr p q) ?_; intro p' hp1 hp2
    rw [hp2]; exact (N p' (List.mem_append_right _ hp1)).2.1
end
section
variable {w : World} {b : Heap} {hd : Option Value} {dp un : Nat} {env : Env} {outer : List Env} {L : Addr} {m : Str → Option Value} {news frs : List (Addr × Obj)} {s : Shared}
theorem j_def {k : Nat} {name qual : Str} {params : Arguments} {body : List Stmt} {scope : Scope} {dV kV doc pm cdv ct : Value} {an : Option Addr} {cl : List (Str × Addr)} {fo : Obj} {f : Addr}
    {pos : List Value} {kw : List (Str × Value)} {binds : List (Str × Value)} {post : Value → List (Addr × Obj) → Prop} {exc : Str → List (Addr × Obj) → Prop}
    (hlim : b.NoLimit) (ho : ∀ h : Heap, (∀ c o, b.get? c = some o → h.get? c = some o) → (∀ p ∈ news, h.get? p.1 = some p.2) → h.get? f = some fo ∧ h.CodeRec cdv qual) (hdt : fo.data = .func (fnX name qual params body scope cl dV kV doc pm an cdv ct))
    (hbind : ∀ s : Shared, (∀ c o, b.get? c = some o → s.heap.get? c = some o) → BindsTo s (fnX name qual params body scope cl dV kV doc pm an cdv ct) ⟨pos, kw⟩ binds)
    (hloc : (binds.all fun x => decide (scope.names.lookup x.1 = some .local)) = true) (hcell : ∀ x ∈ scope.names, x.2 ≠ .cell)
    (hco : scope.isCoroutine = false) (hgen : scope.isGenerator = false) (hk : scope.kind = .function)
    (h : ∀ (dp un : Nat) (outer : List Env) (L : Addr) (fr : List (Addr × Obj)) (s : Shared) (Q Ec : Value → Shared → Prop), TI.Frs outer fr → Fr b L s.heap (lk binds.reverse) → News b L s.heap (news ++ fr) → Sep news fr → dp + k < recursionLimit → un + 16 * k < cLine →
      (∀ v lg fr' L' m' h' tk, post v lg → TI.SameUp fr fr' → Fresh news fr lg → Fr b L' h' m' → News b L' h' (lg ++ fr') → Q v { s with heap := h', toks := tk }) →
      (∀ e msg tm lg fr' h' tk, exc msg lg → TI.SameUp fr fr' → Fresh news fr lg → FlyB b outer L lg fr' e (.ref 101) [.str msg tm] h' → Ec (.ref e) { s with heap := h', toks := tk }) →
      wpAny (model prg w) (JA hd dp un (envX qual scope L f cdv cl) outer) (execs body (envX qual scope L f cdv cl)) (fun fl s' => Q (match fl with | .ret v => v | _ => .none) s')
        (fun e s' => wpAny (model prg w) (JA hd dp un (envX qual scope L f cdv cl) outer) (leaving (envX qual scope L f cdv cl) e) (fun _ s'' => Ec e s'') (fun e' s'' => Ec e' s'') s') s) :
    JSpec w b hd (k + 1) (.ref f) pos kw news post exc := by
  intro dp un env outer L m frs s Q E hf hke hfrs F N hsep hdp hun ret rai
  refine wpAny_call ?_
  have kb : ∀ c o, b.get? c = some o → s.heap.get? c = some o := F.keep
  refine X0_2 (ho s.heap kb fun p hp => (N p (List.mem_append_left _ hp)).1) ?_; intro ho1 ho2
  refine X3_4 F.ns ?_; intro oL es ep hL hLd hLk hLf
  have hLt := Heap.lt_size hL
  refine codeAny_call_def (fd := fnX name qual params body scope cl dV kV doc pm an cdv ct) (body := body) (binds := binds) (by show dp < _; lia) ho1 hdt (hlim.keeps kb) ho2 rfl (hbind s kb) hcell (locs hloc) (fun h₁ hns hk₁ => ?_) hco hgen hk
  have F₁ : Fr b s.heap.objs.size h₁ (lk binds.reverse) := ⟨hns, fun c o e => hk₁ c o (kb c o e), Nat.le_trans F.above (Nat.le_of_lt hLt)⟩
  have N₁ : News b s.heap.objs.size h₁ (news ++ ((L, oL) :: frs)) := fun p hp => by
    refine mem_a hp (fun q => ?_) fun q => ?_
    · have z := N p (List.mem_append_left _ q)
      exact ⟨hk₁ _ _ z.1, Nat.ne_of_lt (Heap.lt_size z.1), z.2.2⟩
    · refine mem_c p q ?_ fun q => ?_
      · exact ⟨hk₁ _ _ hL, Nat.ne_of_lt hLt, Heap.get?_none_of_le F.above⟩
      · have z := N p (List.mem_append_right _ q)
        exact ⟨hk₁ _ _ z.1, Nat.ne_of_lt (Heap.lt_size z.1), z.2.2⟩
  have hns' : ∀ (hh : Heap) sl, hh.get? L = some { oL with slots := sl } → hh.Ns L m := fun hh sl e => ⟨_, es, ep, e, hLd, hLk, hLf⟩
  have nn : ∀ q ∈ news, q.1 ≠ L := fun q hq => (N q (List.mem_append_left _ hq)).2.1
  have hsep₁ : Sep news ((L, oL) :: frs) := fun q hq p hp => by
    refine mem_c p hp ?_ fun hp => ?_
    · exact nn q hq
    · exact hsep q hq p hp
  refine wpAny_mono (h (dp + 1) (un + 3) (env :: outer) s.heap.objs.size ((L, oL) :: frs) { s with heap := h₁, toks := s.toks + binds.length }
    (fun v s' => match (Except.ok (Flow.ret v) : Result) with | .ok (.ret v) => Q v s' | .ok _ => False | .error e => E e s') E (frs_cons hf hke ⟨es, ep, hLd⟩ hfrs) F₁ N₁ hsep₁ (by lia) (by lia) ?_ ?_) (fun fl s' hq => ?_) (fun e s' hq => ?_)
  · intro v lg fr' L' m' h' tk hp hsu hfresh F' N'
    refine X1_4 (back_frame F N hns' hsu F'.keep N' hfresh) ?_; intro frs' h1 h0 h2 h3
    exact ret v lg frs' h' tk hp h1 h0 h2 h3
  · intro e msg tm lg fr' h' tk hx hsu hfresh hfly
    obtain ⟨kb', N', B, t, hB, hnB, htB, hfl⟩ := hfly
    refine X1_4 (back_frame F N hns' hsu kb' N' hfresh) ?_; intro frs' h1 h0 h2 h3
    exact rai e msg tm lg frs' h' _ hx h1 h0 ⟨h2, h3, hfrs.up h1, B, t, hB, hnB, htB, hfl⟩
  · exact hq
  · exact hq
end
section
variable {M : Model} {A : Around} {s : Shared} {E : Value → Shared → Prop}
theorem let_all {env : Env} {body : List Stmt} {Q : Flow → Shared → Prop} (h : let aV := A; let eV := env; let eX := E; let qX := Q; wpAny M aV (execs body eV) qX eX s) : wpAny M A (execs body env) Q E s := h
theorem execs_let {st : Stmt} {rest : List Stmt} {env : Env} {Q : Flow → Shared → Prop} (h : let qX := (fun (f : Flow) (s' : Shared) => match f with | .next => wpAny M A (execs rest env) Q E s' | f => Q f s'); let sX := s; wpAny M A (exec st env) qX E sX) : wpAny M A (execs (st :: rest) env) Q E s := wpAny_execs_cons h
end
theorem q_let {M : Model} {A : Around} {s : Shared} {E : Value → Shared → Prop} {α : Type} {T : Sem α} {Q : α → Shared → Prop} (h : let qX := Q; wpAny M A T qX E s) : wpAny M A T Q E s := h
theorem if_t {a b : Prop} (h : a) : if true = true then a else b := by rw [if_pos rfl]; exact h
theorem if_f {a b : Prop} (h : b) : if false = true then a else b := by rw [if_neg (by decide)]; exact h
theorem meq {a : Addr × Obj} {l l' : List (Addr × Obj)} (e : l = l') (h : a ∈ l') : a ∈ l := e ▸ h
theorem sub_nil {l : List (Addr × Obj)} : ∀ p ∈ ([] : List (Addr × Obj)), p ∈ l := fun _ h => nomatch h
theorem sub_cons {a : Addr × Obj} {r l : List (Addr × Obj)} (h : a ∈ l) (k : ∀ p ∈ r, p ∈ l) : ∀ p ∈ a :: r, p ∈ l := fun _ hp => (List.mem_cons.mp hp).elim (fun e => e ▸ h) (k _)
theorem sub_app {x y l : List (Addr × Obj)} (h : ∀ p ∈ x, p ∈ l) (k : ∀ p ∈ y, p ∈ l) : ∀ p ∈ x ++ y, p ∈ l := fun _ hp => (List.mem_append.mp hp).elim (h _) (k _)
theorem dp_lt {dp k j N : Nat} (h : dp + k < N) (hj : j ≤ k) : dp + j < N := Nat.lt_of_le_of_lt (Nat.add_le_add_left hj _) h
theorem un_lt {un k j N : Nat} (h : un + 16 * k < N) (hj : j ≤ k) : un + 16 * j < N := Nat.lt_of_le_of_lt (Nat.add_le_add_left (Nat.mul_le_mul_left _ hj) _) h

end
section
open PySem PySem.W PyProof.Rows PySem.Calls PySem.Spec
theorem Sep.up {news frs frs' : List (Addr × Obj)} (h : Sep news frs) (u : TI.SameUp frs frs') : Sep news frs' := fun q hq p hp => by
  refine X1_2 (TI.SameUp.fwd u p hp) ?_; intro p' h1 h2
  rw [h2]; exact h q hq p' h1
theorem Sep.map {news news' frs : List (Addr × Obj)} (h : Sep news frs) (e : news'.map (·.1) = news.map (·.1)) : Sep news' frs := fun q hq p hp => by
  have : q.1 ∈ news'.map (·.1) := List.mem_map.mpr ⟨q, hq, rfl⟩
  rw [e] at this
  refine X1_2 (List.mem_map.mp this) ?_; intro q' h1 h2
  rw [← h2]; exact h q' h1 p hp
section
variable {w : World} {mean : ExcName → Option Value} {mg mb : Str → Option Value} {b : Heap} {hd : Option Value} {dp un : Nat} {env : Env} {outer : List Env} {L : Addr} {m : Str → Option Value} {news frs : List (Addr × Obj)} {s : Shared} {E : Value → Shared → Prop}
theorem frames_eq (hf : env.frame = some L) (h : TI.Frs outer frs) : (env :: outer).filterMap (·.frame) = L :: frs.map (·.1) := by
  rw [List.filterMap_cons, hf, TI.Frs.addrs h]
theorem frs_step {h h' : Heap} (hfrs : TI.Frs outer frs) (hg : ∀ q ∈ frs, h.get? q.1 = some q.2) (up : h.UpToSlots h') : ∃ frs', TI.SameUp frs frs' ∧ ∀ q ∈ frs', h'.get? q.1 = some q.2 :=
  TI.sameUp_of fun p hp => by
    refine X2_1 (hfrs.dict p hp) ?_; intro es ep hd
    exact up p.1 p.2 (hg p hp) (fun vs q => by rw [hd] at q; cases q)
theorem stand {B h h' : Heap} (hf : env.frame = some L) (hfrs : TI.Frs outer frs) (F : Fr b L h m) (N : News b L h (news ++ frs)) (up : h.UpToSlots h') (hbB : b.StaysIn B) (hBn : ∀ q ∈ news, B.get? q.1 = some q.2) (hB : B.StaysIn h') :
    ∃ frs', TI.SameUp frs frs' ∧ Fr b L h' m ∧ News b L h' (news ++ frs') ∧ TI.Frs outer frs' := by
  refine X1_2 (frs_step hfrs (fun q hq => (N q (List.mem_append_right _ hq)).1) up) ?_; intro frs' u hg
  refine ⟨frs', u, ⟨up.ns F.ns, fun c o e => hB _ _ (hbB _ _ e), F.above⟩, fun p hp => ?_, hfrs.up u⟩
  refine mem_a hp (fun q => ?_) fun q => ?_
  · exact ⟨hB _ _ (hBn p q), (N p (List.mem_append_left _ q)).2⟩
  · refine X1_2 (TI.SameUp.fwd u p q) ?_; intro p' h1 h2
    have z := N p' (List.mem_append_right _ h1)
    exact ⟨hg p q, by rw [h2]; exact z.2⟩
theorem noted_new {e : Addr} {oe : Obj} {vs : Array Value} {a0 : Value} {cls : Value} {h : Heap} {Q : Unit → Shared → Prop} {rs : List (Addr × Obj)} (hf : env.frame = some L) (hk : env.scope.kind = .function) (hfrs : TI.Frs outer frs) (F : Fr b L h m) (N : News b L h (news ++ frs)) (hsep : Sep news frs)
    (keeps : ∀ c o, h.get? c = some o → s.heap.get? c = some o) (new : h.get? e = none) (he : s.heap.get? e = some oe) (hcls : oe.cls = cls) (hd' : oe.data = .fields vs) (h0 : vs[0]? = some a0) (h1 : vs[1]? = some .none)
    (hrs : ∀ q ∈ rs, s.heap.get? q.1 = some q.2 ∧ q.1 ≠ e ∧ q.1 ≠ L ∧ q.1 ∉ frs.map (·.1))
    (hQ : ∀ h' B, b.StaysIn B → (∀ q ∈ news, B.get? q.1 = some q.2) → (∀ q ∈ rs, B.get? q.1 = some q.2) → Heap.HeldW B (env :: outer) e cls a0 L h' → h.UpToSlots h' → Q () { s with heap := h' }) :
    wpAny (model prg w) (JA hd dp un env outer) (noteFrame (.ref e) env) Q E s := by
  have hfa := frames_eq (env := env) hf hfrs
  have hne : ∀ c o, h.get? c = some o → c ≠ e := fun c o q z => by rw [z, new] at q; cases q
  have hLh : ∃ oL es ep, h.get? L = some oL ∧ oL.data = .dict es ep := by
    refine X3_3 F.ns ?_; intro oL es ep a c _
    exact ⟨oL, es, ep, a, c⟩
  have hfs : ∀ q ∈ frs, h.get? q.1 = some q.2 := fun q hq => (N q (List.mem_append_right _ hq)).1
  let fs := e :: L :: frs.map (·.1)
  have inB : ∀ c o, s.heap.get? c = some o → c ≠ e → c ≠ L → c ∉ frs.map (·.1) → (hideAll s.heap fs).get? c = some o := fun c o q h1 h2 h3 => hideAll_get _ q fun z => by
    refine mem_e z (fun z => ?_) fun z => ?_
    · exact h1 z
    refine mem_e z (fun z => ?_) fun z => ?_
    · exact h2 z
    · exact h3 z
  have hbn : ∀ c o, b.get? c = some o → c ≠ L ∧ c ∉ frs.map (·.1) := fun c o q => by
    refine ⟨fun z => ?_, fun z => ?_⟩
    · rw [z] at q; exact absurd (Nat.lt_of_lt_of_le (Heap.lt_size q) F.above) (Nat.lt_irrefl _)
    · refine X1_2 (List.mem_map.mp z) ?_; intro p hp z0; subst z0
      rw [(N p (List.mem_append_right _ hp)).2.2] at q; cases q
  have hbB : b.StaysIn (hideAll s.heap fs) := fun c o q => inB c o (keeps c o (F.keep c o q)) (hne c o (F.keep c o q)) (hbn c o q).1 (hbn c o q).2
  have hnB : ∀ q ∈ news, (hideAll s.heap fs).get? q.1 = some q.2 := fun q hq => by
    have z := N q (List.mem_append_left _ hq)
    refine inB q.1 q.2 (keeps _ _ z.1) (hne _ _ z.1) z.2.1 fun y => ?_
    refine X1_2 (List.mem_map.mp y) ?_; intro p hp y
    exact hsep q hq p hp y.symm
  have hrB : ∀ q ∈ rs, (hideAll s.heap fs).get? q.1 = some q.2 := fun q hq => by
    refine X0_4 (hrs q hq) ?_; intro z1 z2 z3 z4
    exact inB _ _ z1 z2 z3 z4
  have hfun : s.heap.FunFrames (hideAll s.heap fs) (env :: outer) := by
    refine X3_2 hLh ?_; clear hLh; intro oL es ep a c
    refine TI.Frs.fun (a := (L, oL) :: frs) (frs_cons hf hk ⟨es, ep, c⟩ hfrs) fun p hp => ?_
    refine mem_c p hp ?_ fun hp => ?_
    · exact ⟨keeps _ _ a, hideAll_none _ (List.mem_cons_of_mem _ List.mem_cons_self)⟩
    · exact ⟨keeps _ _ (hfs p hp), hideAll_none _ (List.mem_cons_of_mem _ (List.mem_cons_of_mem _ (List.mem_map_of_mem hp)))⟩
  have hen : (hideAll s.heap fs).get? e = none := hideAll_none _ List.mem_cons_self
  unfold noteFrame
  simp only [hf]
  refine wpAny_bind (wpAny_field he hd' h1 ?_)
  rw [if_neg (show ¬ ((Value.none != Value.none) = true) from by simp)]
  refine wpAny_entryW (base := hideAll s.heap fs) (outer := outer) (a0 := a0) (vs := vs) (oe := oe) rfl hfun hf he (fun c o q => of_hideAll _ q) hen hd' (Array.getElem?_eq_some_iff.mp h1).1 h0 fun h' hN => ?_
  refine X0_4 hN ?_; clear hN; intro x1 x2 x3 x4
  exact hQ h' _ hbB hnB hrB ⟨x1, hen, x2, by rw [← hcls]; exact x3⟩ ((Heap.UpToSlots.of_keeps keeps).trans x4)

theorem catch_new {K : Frag} {loose : List Str} {p : Program} {qual : Str} {scope : Scope} {f : Addr} {cdv : Value} {cl : List (Str × Addr)} {e : Addr} {X : String} {h : Heap} {Q : Flow → Shared → Prop} {b₀ : Stmt} {suite : List Stmt} {pos np : Pos} {rest : List ExceptHandler} {x : Str}
    (hfrs : TI.Frs outer frs) (F : Fr b L h m) (N : News b L h (news ++ frs)) (hsep : Sep news frs) (hx : Heap.NewExc h s.heap e X)
    (XK : K.In b) (T : TopRead p loose mg mb b) (ex : nsIn K mainGlobals x = some none) (hv : bootBuiltins x = some (.type X)) (hn' : x ≠ "__name__")
    (hexc : isSubtype (.type X) (.type "BaseException") = pure true) (hnt : isSubtype (.type ((Manifest.find? X).elim "type" fun y => y.metatype)) (.type "tuple") = pure false) (hsub : isSubtype (.type X) (.type X) = pure true)
    (k : ∀ h' frs', TI.SameUp frs frs' → TI.Frs outer frs' → Fr b L h' m → News b L h' (news ++ frs') → Sep news frs' → 
      wpAny (model prg w) ((JA hd dp un (envX qual scope L f cdv cl) outer).mark (some (.ref e))) (execs (b₀ :: suite) (envX qual scope L f cdv cl)) Q E { s with heap := h' })
    (hk : scope.kind = .function := by rfl) (hxk : (envX qual scope L f cdv cl).kindOf x = some .globalImplicit := by rfl) (hdb : (x == ("__debug__" : Str)) = false := by decide)
    (hE : PassesOwnAt (model prg w) ((JA hd dp un (envX qual scope L f cdv cl) outer).mark (some (.ref e))) (JA hd dp un (envX qual scope L f cdv cl) outer) (envX qual scope L f cdv cl) E := by passes_own) :
    wpAny (model prg w) (JA hd dp un (envX qual scope L f cdv cl) outer) (noteFrame (.ref e) (envX qual scope L f cdv cl))
      (fun _ s₂ => wpAny (model prg w) (JA hd dp un (envX qual scope L f cdv cl) outer) (setFlight (.ref e) none) (fun _ s₃ =>
        wpAny (model prg w) (JA hd dp un (envX qual scope L f cdv cl) outer) (handleBy (.ref e) (envX qual scope L f cdv cl) (.ExceptHandler (some (.Name x np)) none (b₀ :: suite) pos :: rest)) Q E s₃) E s₂) E s := by
  refine X2_3 hx.there ?_; intro ob tp he hcls hdt
  refine noted_new (env := envX qual scope L f cdv cl) (rs := []) (vs := #[tp, .none, .none, .none, .bool false, .none]) rfl hk hfrs F N hsep hx.keeps hx.new he hcls hdt rfl rfl (fun q hq => nomatch hq) fun h₄ B hbB hnB _ hheld₄ up₄ => ?_
  refine wpAny_landsW hheld₄ fun h₅ hfl up₅ => ?_
  refine X1_4 (stand (env := envX qual scope L f cdv cl) rfl hfrs F N (up₄.trans up₅) hbB hnB hfl.1) ?_; intro frs₅ u₅ F₅ N₅ FS₅
  refine X1_2 hfl.there ?_; intro ob' hob' hobc'
  refine wpAny_handleBy_builtin (X := X) (T := X) (b := true) hexc hnt hsub (nameX_B (s := { s with heap := h₅ }) F₅ XK T ex hv hn' ⟨rfl, ⟨ob', hob', hobc'⟩, ?_⟩ hk hxk hdb)
  rw [if_pos rfl]
  refine lands_againW hfl fun h₆ hfl₆ up₆ => ?_
  refine X1_4 (stand (env := envX qual scope L f cdv cl) rfl hfrs F N ((up₄.trans up₅).trans up₆) hbB hnB hfl₆.1) ?_; intro frs₆ u₆ F₆ N₆ FS₆
  exact wpAny_passesOwnAt hE (k h₆ frs₆ u₆ FS₆ F₆ N₆ (hsep.up u₆))
end

end
section
open PySem PySem.W PyProof.Rows PySem.Calls PySem.Spec
theorem j_defK {w : World} {b : Heap} {hd : Option Value} {news : List (Addr × Obj)} {k : Nat} {mean : ExcName → Option Value} {mg mb : Str → Option Value} {name qual : Str} {params : Arguments} {body : List Stmt} {scope : Scope} {dV kV doc pm cdv ct oc : Value} {an od : Option Addr} {osl : Array (Option Value)} {f : Addr}
    {pos : List Value} {kw : List (Str × Value)} {binds ms : List (Str × Value)} {post : Value → List (Addr × Obj) → Prop} {exc : Str → List (Addr × Obj) → Prop}
    (G : Gd w mean mg mb b) (hlk : (fragK w.params).lookup f = some ⟨oc, od, .func (fnOf name qual params body scope dV kV doc pm an cdv ct), osl⟩) (hcd : codeIn (fragK w.params) cdv qual = true)
    (hbind : ∀ s : Shared, BindsTo s (fnOf name qual params body scope dV kV doc pm an cdv ct) ⟨pos, kw⟩ binds) (hms : binds.reverse = ms)
    (hloc : (binds.all fun x => decide (scope.names.lookup x.1 = some .local)) = true) (hcell : ∀ x ∈ scope.names, x.2 ≠ .cell)
    (hco : scope.isCoroutine = false) (hgen : scope.isGenerator = false) (hk : scope.kind = .function)
    (h : ∀ (dp un : Nat) (outer : List Env) (L : Addr) (fr : List (Addr × Obj)) (s : Shared) (Q Ec : Value → Shared → Prop), TI.Frs outer fr → Fr b L s.heap (lk ms) → News b L s.heap (news ++ fr) → Sep news fr → dp + k < recursionLimit → un + 16 * k < cLine →
      (∀ v lg fr' L' m' h' tk, post v lg → TI.SameUp fr fr' → Fresh news fr lg → Fr b L' h' m' → News b L' h' (lg ++ fr') → Q v { s with heap := h', toks := tk }) →
      (∀ e msg tm lg fr' h' tk, exc msg lg → TI.SameUp fr fr' → Fresh news fr lg → FlyB b outer L lg fr' e (.ref 101) [.str msg tm] h' → Ec (.ref e) { s with heap := h', toks := tk }) →
      wpAny (model prg w) (JA hd dp un (envOf qual scope L f cdv) outer) (execs body (envOf qual scope L f cdv)) (fun fl s' => Q (match fl with | .ret v => v | _ => .none) s')
        (fun e s' => wpAny (model prg w) (JA hd dp un (envOf qual scope L f cdv) outer) (leaving (envOf qual scope L f cdv) e) (fun _ s'' => Ec e s'') (fun e' s'' => Ec e' s'') s') s) :
    JSpec w b hd (k + 1) (.ref f) pos kw news post exc := by
  subst hms
  exact j_def (cl := []) G.T.nolimit (fun h hb _ => ⟨hb _ _ (G.K _ _ hlk), codeRec_of (G.K.keeps hb) hcd⟩) rfl (fun s _ => hbind s) hloc hcell hco hgen hk h

end
section
open PySem PySem.W PyProof.Rows PySem.Calls PySem.Spec
theorem j_defN {w : World} {b : Heap} {hd : Option Value} {news : List (Addr × Obj)} {k : Nat} {mean : ExcName → Option Value} {mg mb : Str → Option Value} {name qual : Str} {params : Arguments} {body : List Stmt} {scope : Scope} {cl : List (Str × Addr)} {doc pm ctv : Value} {c' : Addr} {f : Addr} {oc' : Obj} {vs' : Array Value} {t' : Tok}
    {pos : List Value} {kw : List (Str × Value)} {binds ms : List (Str × Value)} {post : Value → List (Addr × Obj) → Prop} {exc : Str → List (Addr × Obj) → Prop}
    (G : Gd w mean mg mb b) (hmem : (f, fnMade name qual params body scope cl doc pm c' ctv) ∈ news) (hcm : (c', oc') ∈ news) (hod : oc'.data = .fields vs') (hv : vs'[1]? = some (.str qual t'))
    (hbind : ∀ s : Shared, BindsTo s (fnX name qual params body scope cl .none .none doc pm none (.ref c') ctv) ⟨pos, kw⟩ binds) (hms : binds.reverse = ms)
    (hloc : (binds.all fun x => decide (scope.names.lookup x.1 = some .local)) = true) (hcell : ∀ x ∈ scope.names, x.2 ≠ .cell)
    (hco : scope.isCoroutine = false) (hgen : scope.isGenerator = false) (hk : scope.kind = .function)
    (h : ∀ (dp un : Nat) (outer : List Env) (L : Addr) (fr : List (Addr × Obj)) (s : Shared) (Q Ec : Value → Shared → Prop), TI.Frs outer fr → Fr b L s.heap (lk ms) → News b L s.heap (news ++ fr) → Sep news fr → dp + k < recursionLimit → un + 16 * k < cLine →
      (∀ v lg fr' L' m' h' tk, post v lg → TI.SameUp fr fr' → Fresh news fr lg → Fr b L' h' m' → News b L' h' (lg ++ fr') → Q v { s with heap := h', toks := tk }) →
      (∀ e msg tm lg fr' h' tk, exc msg lg → TI.SameUp fr fr' → Fresh news fr lg → FlyB b outer L lg fr' e (.ref 101) [.str msg tm] h' → Ec (.ref e) { s with heap := h', toks := tk }) →
      wpAny (model prg w) (JA hd dp un (envX qual scope L f (.ref c') cl) outer) (execs body (envX qual scope L f (.ref c') cl)) (fun fl s' => Q (match fl with | .ret v => v | _ => .none) s')
        (fun e s' => wpAny (model prg w) (JA hd dp un (envX qual scope L f (.ref c') cl) outer) (leaving (envX qual scope L f (.ref c') cl) e) (fun _ s'' => Ec e s'') (fun e' s'' => Ec e' s'') s') s) :
    JSpec w b hd (k + 1) (.ref f) pos kw news post exc := by
  subst hms
  exact j_def (cl := cl) G.T.nolimit (fun h hb hn => ⟨hn _ hmem, ⟨c', oc', vs', t', rfl, hn _ hcm, hod, hv⟩⟩) rfl (fun s _ => hbind s) hloc hcell hco hgen hk h

end
section
open PySem PySem.W PyProof.Rows PySem.Calls PySem.Spec
section
variable {w : World} {b : Heap} {hd : Option Value} {dp un : Nat} {env : Env} {outer : List Env} {L : Addr} {m : Str → Option Value} {lg frs : List (Addr × Obj)} {s : Shared} {E : Value → Shared → Prop}
theorem leave_fly {e : Addr} {cls : Value} {args : List Value} {Q : Unit → Shared → Prop} (hf : env.frame = some L) (x : Fly b env outer L m lg frs e cls args s.heap)
    (k : ∀ h' frs', TI.SameUp frs frs' → FlyB b outer L lg frs' e cls args h' → Q () { s with heap := h' }) :
    wpAny (model prg w) (JA hd dp un env outer) (leaving env (.ref e)) Q E s := by
  obtain ⟨F', N', FS, B, t, hB, hnB, htB, hfl⟩ := x
  refine wpAny_leaves_onW rfl hf hfl fun h'' hfl' hup => ?_
  refine X1_2 (frs_step FS (fun q hq => (N' q (List.mem_append_right _ hq)).1) hup) ?_; intro fr'' hsu2 hg2
  refine k h'' fr'' hsu2 ⟨fun c o e => hfl'.1 _ _ (hB c o e), fun p hp => ?_, B, t, hB, hnB, htB, hfl'⟩
  refine mem_a hp (fun q => ?_) fun q => ?_
  · exact ⟨hfl'.1 _ _ (hnB p q), (N' p (List.mem_append_left _ q)).2⟩
  · refine X1_2 (TI.SameUp.fwd hsu2 p q) ?_; intro p' hp1 hp2
    have z := N' p' (List.mem_append_right _ hp1)
    exact ⟨hg2 p q, by rw [hp2]; exact z.2⟩
theorem hide_fr {e : Addr} {oe : Obj} {h : Heap} (F : Fr b L h m) (N : News b L h ((e, oe) :: (lg ++ frs))) (hne : ∀ p ∈ lg ++ frs, p.1 ≠ e) :
    Fr b L (hideAll h [e]) m ∧ News b L (hideAll h [e]) (lg ++ frs) ∧ (hideAll h [e]).get? e = none ∧ ∀ c o, (hideAll h [e]).get? c = some o → h.get? c = some o := by
  have he := N (e, oe) List.mem_cons_self
  have keep : ∀ c o, h.get? c = some o → c ≠ e → (hideAll h [e]).get? c = some o := fun c o q n => hideAll_get _ q fun z => by simp at z; exact n z
  refine ⟨⟨?_, fun c o q => keep c o (F.keep c o q) (fun z => by rw [z, he.2.2] at q; cases q), F.above⟩, fun p hp => ?_, hideAll_none _ List.mem_cons_self, fun c o q => of_hideAll _ q⟩
  · refine X3_2 F.ns ?_; intro oL es ep a r
    exact (Y3 oL es ep ⟨keep _ _ a (Ne.symm he.2.1), r⟩)
  · have z := N p (List.mem_cons_of_mem _ hp)
    exact ⟨keep _ _ z.1 (hne p hp), z.2⟩
theorem leave_made {e t : Addr} {oe : Obj} {vs : Array Value} {cls : Value} {args : List Value} {Q : Unit → Shared → Prop} (hf : env.frame = some L) (hk : env.scope.kind = .function) (hfrs : TI.Frs outer frs) (F : Fr b L s.heap m)
    (N : News b L s.heap ((e, oe) :: (((t, { cls := .type "tuple", data := .seq args.toArray }) :: lg) ++ frs))) (hsep : Sep ((t, ({ cls := .type "tuple", data := .seq args.toArray } : Obj)) :: lg) frs) (hne : ∀ p ∈ ((t, ({ cls := .type "tuple", data := .seq args.toArray } : Obj)) :: lg) ++ frs, p.1 ≠ e)
    (hcls : oe.cls = cls) (hdt : oe.data = .fields vs) (h0 : vs[0]? = some (.ref t)) (h1 : vs[1]? = some .none)
    (k : ∀ h' frs', TI.SameUp frs frs' → FlyB b outer L lg frs' e cls args h' → Q () { s with heap := h' }) :
    wpAny (model prg w) (JA hd dp un env outer) (leaving env (.ref e)) Q E s := by
  refine X0_4 (hide_fr F N hne) ?_; intro F₀ N₀ hn₀ kp₀
  unfold leaving
  refine wpAny_bind (noted_new (rs := []) hf hk hfrs F₀ N₀ hsep kp₀ hn₀ (N _ List.mem_cons_self).1 hcls hdt h0 h1 (fun q hq => nomatch hq) fun h₄ B hbB hnB _ hheld up₄ => ?_)
  refine wpAny_landsW hheld fun h₅ hfl up₅ => ?_
  refine X1_4 (stand (env := env) hf hfrs F₀ N₀ (up₄.trans up₅) hbB hnB hfl.1) ?_; intro frs₅ u₅ F₅ N₅ FS₅
  refine X0_4 hfl ?_; clear hfl; intro k1 k2 z0 k4; refine X0_3 z0 ?_; clear z0; intro _ _ k3
  refine k h₅ frs₅ u₅ ⟨F₅.keep, fun p hp => N₅ p ?_, B, t, hbB, fun q hq => hnB q (List.mem_cons_of_mem _ hq), hnB _ List.mem_cons_self, k1, k2, k3, k4⟩
  exact List.mem_cons_of_mem _ hp

theorem own_toml {w : World} {mean : ExcName → Option Value} {mg mb : Str → Option Value} {b : Heap} (G : Gd w mean mg mb b) : OwnCls (Str.ofString "TOMLDecodeError") 101 [.type "ValueError", .type "Exception", .type "BaseException", .type "object"] "ValueError.__new__" mg b :=
  own_of_in (K := fragK w.params) G.K (topRead_of G.T) (by kernel_rfl) (by kernel_rfl)
noncomputable abbrev made (t : Addr) (c : Value) (u : Value) (f : Bool) : Obj := { cls := .ref 101, data := .fields #[.ref t, .none, c, u, .bool f, .none] }
theorem raise_plain {w : World} {mean : ExcName → Option Value} {mg mb : Str → Option Value} {A : Around} {env : Env} {x : Expr} {pos : Pos} {Q : Flow → Shared → Prop} (G : Gd w mean mg mb b) (hh : A.handled = none)
    (h : wpAny (model prg w) A (eval x env) (fun v s₁ => ∃ e t, v = .ref e ∧ (∀ c o, b.get? c = some o → s₁.heap.get? c = some o) ∧ s₁.heap.get? e = some (made t .none .none false) ∧ E (.ref e) s₁) E s) :
    wpAny (model prg w) A (exec (.Raise (some x) none pos) env) Q E s := by
  refine X12_1 ((own_toml G).obj) ?_; intro tl N nm q bs hdct sn sub ab col dd k0 z0; refine X5_4 z0 ?_; clear z0; intro k1 k2 k3 k5 mN hC hN hni T
  rw [arm_exec_Raise]
  refine wpAny_bind (wpAny_standAt (wpAny_raiseStmt_made_sub (C := 101) (nm := nm) (q := q) (N := N) (bs := bs) (bm := tl) (hdct := hdct) (sn := sn) (sub := sub) (ab := ab) (col := col) (dd := dd) (k0 := k0) (k1 := k1) (k2 := k2) (k3 := k3) (k5 := k5) (newId := "ValueError.__new__") (T.hasType (by decide)) hh ?_))
  refine wpAny_bind (wpAny_mono h (fun v s₁ h₁ => wpAny_bind (wpAny_standAt (wpAny_pure ?_))) fun _ _ x => x)
  refine X2_4 h₁ ?_; clear h₁; intro e t z0 hk he hE; subst z0
  exact (Y2 e t ⟨rfl, hk _ _ hC, he, hE⟩)
theorem call_toml {w : World} {mean : ExcName → Option Value} {mg mb : Str → Option Value} {A : Around} {v : Value} {Q : Value → Shared → Prop} {news : List (Addr × Obj)} (G : Gd w mean mg mb b) (F : Fr b L s.heap m) (N : News b L s.heap news)
    (h : ∀ e t h', Fr b L h' m → News b L h' ((e, made t .none .none false) :: (t, { cls := .type "tuple", data := .seq [v].toArray }) :: news) → e ≠ t → (∀ p ∈ news, p.1 ≠ e) → (∀ p ∈ news, p.1 ≠ t) → Q (.ref e) { s with heap := h' }) :
    wpAny (model prg w) A (call (.ref 101) [v]) Q E s := by
  refine X12_1 (((own_toml G).keeps F.keep).obj) ?_; intro tl N' nm q bs hdct sn sub ab col dd k0 z0; refine X5_4 z0 ?_; clear z0; intro k1 k2 k3 k5 mN hC hN hni T
  obtain ⟨hp, g, d, tk, os⟩ := s
  refine wpAny_call_exc_subT PySem.F.excBase_ValueError T hC hN hni (fun h' e hm => ?_) (by show 1 ≤ sizeLine; decide)
  refine X1_3 hm.there ?_; intro t ht1 ht2 ht3
  refine X3_2 F.ns ?_; intro oL es ep hL _
  have ne : ∀ c o, hp.get? c = some o → c ≠ e := fun c o y z => by rw [z, hm.new] at y; cases y
  have nt : ∀ c o, hp.get? c = some o → c ≠ t := fun c o y z => by rw [z, ht2] at y; cases y
  have bn : ∀ c, hp.get? c = none → b.get? c = none := fun c y => by
    cases z : b.get? c with
    | none => rfl
    | some o => have := F.keep c o z; rw [y] at this; cases this
  refine h e t h' ⟨F.ns.keeps hm.keeps, fun c o y => hm.keeps _ _ (F.keep c o y), F.above⟩ (fun p hp' => ?_) (fun z => ?_) (fun p hp' => ne _ _ (N p hp').1) (fun p hp' => nt _ _ (N p hp').1)
  · refine mem_c p hp' ?_ fun hp' => ?_
    · exact ⟨ht1, Ne.symm (ne _ _ hL), bn _ hm.new⟩
    · refine mem_c p hp' ?_ fun hp' => ?_
      · exact ⟨ht3, Ne.symm (nt _ _ hL), bn _ ht2⟩
      · exact ⟨hm.keeps _ _ (N p hp').1, (N p hp').2⟩
  · rw [z] at ht1
    rw [ht1] at ht3
    cases ht3
end

end
section
open PySem PySem.W PyProof.Rows PySem.Calls PySem.Spec
theorem fast_fs : fastTable "frozenset.__contains__" = some Builtin.«frozenset.__contains__» ∧ fastTable "frozenset.isdisjoint" = some Builtin.«frozenset.isdisjoint» ∧ fastTable "frozenset.isdisjoint.loop" = some Builtin.«frozenset.isdisjoint.loop» ∧ fastTable "frozenset.issuperset" = some Builtin.«frozenset.issuperset» ∧ fastTable "frozenset.issuperset.loop" = some Builtin.«frozenset.issuperset.loop» ∧ fastTable "proto.unchain" = some Builtin.«proto.unchain» := ⟨by kernel_rfl, by kernel_rfl, by kernel_rfl, by kernel_rfl, by kernel_rfl, by kernel_rfl⟩

end
section
open PySem PySem.W PyProof.Rows PySem.Calls PySem.Spec
structure SetAt (h : Heap) (a : Addr) (cs : List (Nat × Tok)) : Prop where
  ob : ∃ o, h.get? a = some o ∧ IsSS cs o
  nd : (cs.map (·.1)).Nodup
  len : cs.length < 4000
theorem SetAt.keeps {h h' : Heap} {a : Addr} {cs : List (Nat × Tok)} (x : SetAt h a cs) (k : ∀ b o, h.get? b = some o → h'.get? b = some o) : SetAt h' a cs :=
  let ⟨o, h1, h2⟩ := x.ob; ⟨⟨o, k _ _ h1, h2⟩, x.nd, x.len⟩
theorem slot_fs_contains : Slot "frozenset" "__contains__" "frozenset.__contains__" :=
  .of (owner := "frozenset") (n := "__contains__") (by rw [typeLookup_type, builtinLookup_eq_fast]; kernel_rfl) (by decide +kernel) (by decide +kernel) (by decide +kernel)
    (by first | exact .inl (by decide +kernel) | exact .inr (by decide +kernel)) (by rw [isSubtype_type]; kernel_rfl)
theorem slot_fs_isdisjoint : Slot "frozenset" "isdisjoint" "frozenset.isdisjoint" :=
  .of (owner := "frozenset") (n := "isdisjoint") (by rw [typeLookup_type, builtinLookup_eq_fast]; kernel_rfl) (by decide +kernel) (by decide +kernel) (by decide +kernel)
    (by first | exact .inl (by decide +kernel) | exact .inr (by decide +kernel)) (by rw [isSubtype_type]; kernel_rfl)
theorem slot_fs_issuperset : Slot "frozenset" "issuperset" "frozenset.issuperset" :=
  .of (owner := "frozenset") (n := "issuperset") (by rw [typeLookup_type, builtinLookup_eq_fast]; kernel_rfl) (by decide +kernel) (by decide +kernel) (by decide +kernel)
    (by first | exact .inl (by decide +kernel) | exact .inr (by decide +kernel)) (by rw [isSubtype_type]; kernel_rfl)
theorem entry_fs_contains : entryFor table "frozenset.__contains__" = some Builtin.«frozenset.__contains__» := entryFor_of_fast fast_fs.1
theorem entry_fs_isdisjoint : entryFor table "frozenset.isdisjoint" = some Builtin.«frozenset.isdisjoint» := entryFor_of_fast fast_fs.2.1
theorem entry_fs_isdisjoint_loop : entryFor table "frozenset.isdisjoint.loop" = some Builtin.«frozenset.isdisjoint.loop» := entryFor_of_fast fast_fs.2.2.1
theorem entry_fs_issuperset : entryFor table "frozenset.issuperset" = some Builtin.«frozenset.issuperset» := entryFor_of_fast fast_fs.2.2.2.1
theorem entry_fs_issuperset_loop : entryFor table "frozenset.issuperset.loop" = some Builtin.«frozenset.issuperset.loop» := entryFor_of_fast fast_fs.2.2.2.2.1
theorem args_fs_contains (a b : Value) : argsOk "frozenset.__contains__" ⟨[a, b], []⟩ := by unfold argsOk; kernel_rfl
theorem args_fs_isdisjoint (a b : Value) : argsOk "frozenset.isdisjoint" ⟨[a, b], []⟩ := by unfold argsOk; kernel_rfl
theorem args_fs_issuperset (a b : Value) : argsOk "frozenset.issuperset" ⟨[a, b], []⟩ := by unfold argsOk; kernel_rfl
theorem plain_dl : plainId "frozenset.isdisjoint.loop" = true := by decide +kernel
theorem plain_sl : plainId "frozenset.issuperset.loop" = true := by decide +kernel
section
variable {w : World} {A : Around} {E : Value → Shared → Prop} {s : Shared} {a : Addr} {cs : List (Nat × Tok)}
noncomputable def hasS (cs : List (Nat × Tok)) (c : Nat) : Bool := (cs.map (·.1)).contains c
theorem set_find {c : Nat} {t : Tok} {i : Int} {Q : Option Nat → Shared → Prop} (hS : SetAt s.heap a cs) (h : ∀ r, r.isSome = hasS cs c → Q r s) : wpAny (model prg w) A (setFind a (.str (S [c]) t) i) Q E s := by
  obtain ⟨⟨o, ho, es, n, tb, rfl, f, hc⟩, hnd, hl⟩ := hS
  unfold setFind
  show wpAny _ _ (setFindIn a _ i (99999 + 1)) _ _ _
  unfold setFindIn
  refine wpAny_bind (wpAny_of_loc (loc_setState ho f) ?_)
  have hb : byScan (.str (S [c]) t) es = true := byScan_of hc (by exact Nat.lt_trans hl (by decide)) _ _
  simp only [hb, if_true]
  refine wpAny_bind (wpAny_rule ?_)
  unfold setScan
  simp only [allStr_of hc, if_true]
  unfold setScanStrs
  by_cases hm : c ∈ cs.map (·.1)
  · have hp : hasS cs c = true := by unfold hasS; simpa using hm
    obtain ⟨⟨c', tok⟩, h1, h2⟩ := List.mem_map.mp hm
    cases h2
    refine X2_2 (findIdx_some hc hnd h1) ?_; intro i' j' hf hi
    have hf' : es.findIdx? (fun x => x.2.isStr (S [c'])) = some i' := hf
    simp only [hf', hi]
    refine wpAny_bind (wpAny_bind (wpAny_of_loc (loc_setEpoch ho f) ?_))
    refine wpAny_bind (wpAny_eqBool_str ?_)
    have e1 : decide ((⟨#[c']⟩ : Str) = S [c']) = true := by simp
    rw [e1]
    simp only [Bool.false_and, Bool.false_eq_true, if_false]
    refine wpAny_bind (wpAny_of_loc (loc_setEpoch ho f) ?_)
    have : (n != n) = false := by simp
    simp only [this, Bool.false_eq_true, if_false, if_true]
    exact wpAny_pure (wpAny_pure (h _ hp.symm))
  · have hp : hasS cs c = false := by unfold hasS; simpa using hm
    have hf' : es.findIdx? (fun x => x.2.isStr (S [c])) = none := findIdx_none hc hm
    simp only [hf']
    exact wpAny_bind (wpAny_pure (wpAny_pure (h _ hp.symm)))
theorem set_contains {c : Nat} {t : Tok} {Q : Bool → Shared → Prop} (hS : SetAt s.heap a cs) (h : Q (hasS cs c) { s with toks := s.toks + 1 }) : wpAny (model prg w) A (setContains a (.str (S [c]) t)) Q E s := by
  unfold setContains
  refine wpAny_holding ?_
  refine wpAny_bind (wpAny_pyHash_str ?_)
  refine wpAny_bind (set_find (s := { s with toks := s.toks + 1 }) hS fun r hr => ?_)
  rw [hr]
  exact wpAny_pure h
theorem SetAt.typeIs (hS : SetAt s.heap a cs) : s.TypeIs (.ref a) "frozenset" := by
  obtain ⟨⟨o, ho, es, n, tb, rfl, _⟩, _⟩ := hS
  exact ⟨_, ho, rfl⟩
theorem call_fs_contains {c : Nat} {t : Tok} {Q : Value → Shared → Prop} (hS : SetAt s.heap a cs) (h : Q (.bool (hasS cs c)) { s with toks := s.toks + 1 }) : wpAny (model prg w) A (call (.builtin "frozenset.__contains__") [.ref a, .str (S [c]) t]) Q E s := by
  refine wpAny_call_entry slot_fs_contains hS.typeIs entry_fs_contains ?_ (args_fs_contains _ _)
  unfold Builtin.«frozenset.__contains__» Builtin.Frozenset.oneOther
  simp only [List.isEmpty_nil, bind_assoc]
  unfold Builtin.Frozenset.addrOf Builtin.Frozenset.withSetAsKey
  refine wpAny_bind (wpAny_pure ?_)
  try dsimp only
  refine wpAny_bind (wpAny_pure ?_)
  try dsimp only
  refine wpAny_bind (wpAny_tryCatch (set_contains hS ?_))
  exact wpAny_pure ⟨_, rfl, h⟩
theorem in_set {c : Nat} {t : Tok} {Q : Value → Shared → Prop} (hS : SetAt s.heap a cs) (h : Q (.bool (hasS cs c)) { s with toks := s.toks + 1 }) : wpAny (model prg w) A (compareOp .In (.str (S [c]) t) (.ref a)) Q E s :=
  In_slot hS.typeIs slot_fs_contains (call_fs_contains hS (wpAny_truthy_bool h))
theorem notin_set {c : Nat} {t : Tok} {Q : Value → Shared → Prop} (hS : SetAt s.heap a cs) (h : Q (.bool (!hasS cs c)) { s with toks := s.toks + 1 }) : wpAny (model prg w) A (compareOp .NotIn (.str (S [c]) t) (.ref a)) Q E s :=
  NotIn_slot hS.typeIs slot_fs_contains (call_fs_contains hS (wpAny_truthy_bool h))
theorem memOf_set {h : Heap} (hS : SetAt h a cs) : MemOf w (.ref a) (hasS cs) h := fun A Q E s c t _ k q => in_set (hS.keeps k) (q _)
theorem SameBut.get {it : Addr} {h h' : Heap} (x : Heap.SameBut it h h') : ∀ b o, b ≠ it → h.get? b = some o → h'.get? b = some o := fun b o hb ho => by rw [x.2 b hb]; exact ho
theorem next_item {it : Addr} {y : Str} {t : Tok} {i c : Nat} {Q : Option Value → Shared → Prop} (hit : s.heap.IsStrIter it (strIterType y) y t i) (hx : y.cps[i]? = some c)
    (hQ : ∀ h', h'.IsStrIter it (strIterType y) y t (i + 1) → Heap.SameBut it s.heap h' → Q (some (.str ⟨#[c]⟩ s.toks)) { s with heap := h', toks := s.toks + 1 }) :
    wpAny (model prg w) A (pyNext (.ref it)) Q E s := by
  cases ha : y.cps.all (· < 128)
  · have e : strIterType y = "str_iterator" := by simp [strIterType, ha]
    rw [e] at hit hQ
    exact wpAny_pyNext_wide_item hit hx hQ
  · have e : strIterType y = "str_ascii_iterator" := by simp [strIterType, ha]
    rw [e] at hit hQ
    exact wpAny_pyNext_ascii_item hit hx hQ
theorem next_end {it : Addr} {y : Str} {t : Tok} {i : Nat} {Q : Option Value → Shared → Prop} (hh : A.handled = none) (hit : s.heap.IsStrIter it (strIterType y) y t i) (hx : y.cps[i]? = none)
    (hQ : ∀ h', Heap.ExtBut it s.heap h' → Q none { s with heap := h' }) :
    wpAny (model prg w) A (pyNext (.ref it)) Q E s := by
  cases ha : y.cps.all (· < 128)
  · have e : strIterType y = "str_iterator" := by simp [strIterType, ha]
    rw [e] at hit
    exact wpAny_pyNext_wide_end hh hit hx hQ
  · have e : strIterType y = "str_ascii_iterator" := by simp [strIterType, ha]
    rw [e] at hit
    exact wpAny_pyNext_ascii_end hh hit hx hQ
theorem disjoint_loop {it : Addr} {y : List Nat} {t : Tok} {R : Result → Shared → Prop} (hh : A.handled = none) (hia : a ≠ it) : ∀ (k i : Nat) (s : Shared), y.length - i = k → SetAt s.heap a cs → s.heap.IsStrIter it (strIterType (S y)) (S y) t i →
    (∀ h' tk, (∀ b o, b ≠ it → s.heap.get? b = some o → h'.get? b = some o) → R (.ok (.ret (.bool (!(y.drop i).any (hasS cs))))) { s with heap := h', toks := tk }) →
    codeAny (model prg w) A (.builtin "frozenset.isdisjoint.loop" ⟨[.ref a, .ref it], []⟩) R s := by
  intro k
  induction k with
  | zero =>
    intro i s hk hS hit hR
    refine codeAny_builtin entry_fs_isdisjoint_loop ?_
    rw [Around.under_plainId plain_dl _]
    show wpAny _ A.in1 (pyNext (.ref it) >>= _) _ _ s
    have hx : y[i]? = none := List.getElem?_eq_none (by exact Nat.le_of_sub_eq_zero hk)
    refine wpAny_bind (next_end hh hit (by simpa using hx) fun h' hb => ?_)
    have e : y.drop i = [] := List.drop_eq_nil_of_le (by exact Nat.le_of_sub_eq_zero hk)
    rw [e] at hR
    exact wpAny_pure (hR h' s.toks fun b o hne ho => hb b o hne ho)
  | succ k ih =>
    intro i s hk hS hit hR
    refine codeAny_builtin entry_fs_isdisjoint_loop ?_
    rw [Around.under_plainId plain_dl _]
    show wpAny _ A.in1 (pyNext (.ref it) >>= _) _ _ s
    have hlt : i < y.length := by exact ar17 hk
    have hx : y[i]? = some y[i] := List.getElem?_eq_getElem hlt
    refine wpAny_bind (next_item hit (c := y[i]) (by simpa using hx) fun h' hit' hsb => ?_)
    have kp : ∀ b o, b ≠ it → s.heap.get? b = some o → h'.get? b = some o := SameBut.get hsb
    obtain ⟨⟨o, ho, hI⟩, hnd, hl⟩ := id hS
    have hS' : SetAt h' a cs := ⟨⟨o, kp _ _ hia ho, hI⟩, hnd, hl⟩
    show wpAny _ A.in1 (holding _ (setContains a (.str (S [y[i]]) s.toks)) >>= _) _ _ _
    refine wpAny_bind (wpAny_holding (set_contains (s := { s with heap := h', toks := s.toks + 1 }) hS' ?_))
    have e : y.drop i = y[i] :: y.drop (i + 1) := List.drop_eq_getElem_cons hlt
    rw [e] at hR
    cases hc : hasS cs y[i]
    · rw [if_neg (by simp)]
      simp only [List.any_cons, hc, Bool.false_or] at hR
      refine wpAny_pure ⟨plainId_quiet plain_dl _, ih (i + 1) _ (by exact ar16 hk) hS' hit' fun h'' tk k2 => hR h'' tk fun b o hne ho => k2 b o hne (kp b o hne ho)⟩
    · rw [if_pos rfl]
      simp only [List.any_cons, hc, Bool.true_or, Bool.not_true] at hR
      exact wpAny_pure (hR h' _ kp)
theorem superset_loop {it : Addr} {y : List Nat} {t : Tok} {R : Result → Shared → Prop} (hh : A.handled = none) (hia : a ≠ it) : ∀ (k i : Nat) (s : Shared), y.length - i = k → SetAt s.heap a cs → s.heap.IsStrIter it (strIterType (S y)) (S y) t i →
    (∀ h' tk, (∀ b o, b ≠ it → s.heap.get? b = some o → h'.get? b = some o) → R (.ok (.ret (.bool ((y.drop i).all (hasS cs))))) { s with heap := h', toks := tk }) →
    codeAny (model prg w) A (.builtin "frozenset.issuperset.loop" ⟨[.ref a, .ref it], []⟩) R s := by
  intro k
  induction k with
  | zero =>
    intro i s hk hS hit hR
    refine codeAny_builtin entry_fs_issuperset_loop ?_
    rw [Around.under_plainId plain_sl _]
    show wpAny _ A.in1 (pyNext (.ref it) >>= _) _ _ s
    have hx : y[i]? = none := List.getElem?_eq_none (by exact Nat.le_of_sub_eq_zero hk)
    refine wpAny_bind (next_end hh hit (by simpa using hx) fun h' hb => ?_)
    have e : y.drop i = [] := List.drop_eq_nil_of_le (by exact Nat.le_of_sub_eq_zero hk)
    rw [e] at hR
    exact wpAny_pure (hR h' s.toks fun b o hne ho => hb b o hne ho)
  | succ k ih =>
    intro i s hk hS hit hR
    refine codeAny_builtin entry_fs_issuperset_loop ?_
    rw [Around.under_plainId plain_sl _]
    show wpAny _ A.in1 (pyNext (.ref it) >>= _) _ _ s
    have hlt : i < y.length := by exact ar17 hk
    have hx : y[i]? = some y[i] := List.getElem?_eq_getElem hlt
    refine wpAny_bind (next_item hit (c := y[i]) (by simpa using hx) fun h' hit' hsb => ?_)
    have kp : ∀ b o, b ≠ it → s.heap.get? b = some o → h'.get? b = some o := SameBut.get hsb
    obtain ⟨⟨o, ho, hI⟩, hnd, hl⟩ := id hS
    have hS' : SetAt h' a cs := ⟨⟨o, kp _ _ hia ho, hI⟩, hnd, hl⟩
    show wpAny _ A.in1 (holding _ (setContains a (.str (S [y[i]]) s.toks)) >>= _) _ _ _
    refine wpAny_bind (wpAny_holding (set_contains (s := { s with heap := h', toks := s.toks + 1 }) hS' ?_))
    have e : y.drop i = y[i] :: y.drop (i + 1) := List.drop_eq_getElem_cons hlt
    rw [e] at hR
    cases hc : hasS cs y[i]
    · rw [if_neg (by simp)]
      simp only [List.all_cons, hc, Bool.false_and] at hR
      exact wpAny_pure (hR h' _ kp)
    · rw [if_pos rfl]
      simp only [List.all_cons, hc, Bool.true_and] at hR
      refine wpAny_pure ⟨plainId_quiet plain_sl _, ih (i + 1) _ (by exact ar16 hk) hS' hit' fun h'' tk k2 => hR h'' tk fun b o hne ho => k2 b o hne (kp b o hne ho)⟩
theorem sub_str_set' : isSubtype (.type "str") (.type "set") = pure false := by rw [isSubtype_type]; kernel_rfl
theorem sub_str_fs' : isSubtype (.type "str") (.type "frozenset") = pure false := by rw [isSubtype_type]; kernel_rfl
theorem call_isdisjoint {y : List Nat} {t : Tok} {Q : Value → Shared → Prop} (hh : A.handled = none) (hS : SetAt s.heap a cs)
    (h : ∀ h' tk, (∀ b o, s.heap.get? b = some o → h'.get? b = some o) → Q (.bool (!y.any (hasS cs))) { s with heap := h', toks := tk }) :
    wpAny (model prg w) A (call (.builtin "frozenset.isdisjoint") [.ref a, .str (S y) t]) Q E s := by
  refine wpAny_call (codeAny_call_builtin slot_fs_isdisjoint.plain entry_fs_isdisjoint (slot_fs_isdisjoint.check _ _ _ _ _ _ _ _ hS.typeIs (args_fs_isdisjoint _ _) ?_))
  unfold Builtin.«frozenset.isdisjoint» Builtin.Frozenset.oneOther
  simp only [List.isEmpty_nil, bind_assoc]
  unfold Builtin.Frozenset.addrOf
  refine wpAny_bind (wpAny_pure ?_)
  try dsimp only
  refine wpAny_bind (wpAny_pure ?_)
  try dsimp only
  rw [if_neg (by simp)]
  refine wpAny_bind (wpAny_typeOf (T := "str") rfl ?_)
  rw [if_neg (by decide)]
  refine wpAny_bind (wpAny_pyIter_strU ?_)
  have hlt : ∀ b o, s.heap.get? b = some o → b ≠ s.heap.objs.size := fun b o hb => Nat.ne_of_lt (Heap.lt_size hb)
  have kp : ∀ b o, s.heap.get? b = some o → (s.heap.push { cls := .type (strIterType (S y)), data := .fields #[.str (S y) t, .int 0 0] }).get? b = some o := fun b o hb => Heap.get?_push_of_some _ hb
  refine X1_2 hS.ob ?_; intro o ho _
  refine wpAny_pure ⟨plainId_quiet plain_dl _, disjoint_loop hh (hlt _ _ ho) y.length 0 _ rfl (hS.keeps kp) ⟨_, Heap.get?_push_size _ rfl, rfl, rfl⟩ fun h' tk k => ?_⟩
  exact h h' tk fun b o hb => k b o (hlt b o hb) (kp b o hb)
theorem call_issuperset {y : List Nat} {t : Tok} {Q : Value → Shared → Prop} (hh : A.handled = none) (hS : SetAt s.heap a cs)
    (h : ∀ h' tk, (∀ b o, s.heap.get? b = some o → h'.get? b = some o) → Q (.bool (y.all (hasS cs))) { s with heap := h', toks := tk }) :
    wpAny (model prg w) A (call (.builtin "frozenset.issuperset") [.ref a, .str (S y) t]) Q E s := by
  refine wpAny_call (codeAny_call_builtin slot_fs_issuperset.plain entry_fs_issuperset (slot_fs_issuperset.check _ _ _ _ _ _ _ _ hS.typeIs (args_fs_issuperset _ _) ?_))
  unfold Builtin.«frozenset.issuperset» Builtin.Frozenset.oneOther
  simp only [List.isEmpty_nil, bind_assoc]
  unfold Builtin.Frozenset.addrOf
  refine wpAny_bind (wpAny_pure ?_)
  try dsimp only
  refine wpAny_bind (wpAny_pure ?_)
  try dsimp only
  unfold Builtin.Frozenset.isAnySet
  refine wpAny_bind (wpAny_bind (wpAny_isInstance (T := "str") rfl sub_str_set' ?_))
  refine wpAny_isInstance (T := "str") rfl sub_str_fs' ?_
  rw [if_neg (by simp)]
  refine wpAny_bind (wpAny_pyIter_strU ?_)
  have hlt : ∀ b o, s.heap.get? b = some o → b ≠ s.heap.objs.size := fun b o hb => Nat.ne_of_lt (Heap.lt_size hb)
  have kp : ∀ b o, s.heap.get? b = some o → (s.heap.push { cls := .type (strIterType (S y)), data := .fields #[.str (S y) t, .int 0 0] }).get? b = some o := fun b o hb => Heap.get?_push_of_some _ hb
  refine X1_2 hS.ob ?_; intro o ho _
  refine wpAny_pure ⟨plainId_quiet plain_sl _, superset_loop hh (hlt _ _ ho) y.length 0 _ rfl (hS.keeps kp) ⟨_, Heap.get?_push_size _ rfl, rfl, rfl⟩ fun h' tk k => ?_⟩
  exact h h' tk fun b o hb => k b o (hlt b o hb) (kp b o hb)
theorem plainAttrs_fs : PlainAttrs "frozenset" :=
  ⟨⟨"object.__getattribute__", by rw [typeLookup_type, builtinLookup_eq_fast]; kernel_rfl, by decide +kernel⟩, by rw [typeLookup_type, builtinLookup_eq_fast]; kernel_rfl⟩
theorem type_fs_isdisjoint : typeOf (.builtin "frozenset.isdisjoint") = pure (.type "method_descriptor") := by show builtinType _ = _; rw [builtinType_eq_fast]; kernel_rfl
theorem type_fs_issuperset : typeOf (.builtin "frozenset.issuperset") = pure (.type "method_descriptor") := by show builtinType _ = _; rw [builtinType_eq_fast]; kernel_rfl
theorem SetAt.noDict (hS : SetAt s.heap a cs) : ∀ b, Value.ref a = .ref b → ∃ ob, s.heap.get? b = some ob ∧ ob.dict = none := fun b e => by
  injection e with e; subst e
  obtain ⟨⟨o, ho, es, n, tb, rfl, _⟩, _⟩ := hS
  exact ⟨_, ho, rfl⟩
theorem meth_isdisjoint {M : Model} {pl : Sem Bool} {Q : Value × List Value → Shared → Prop} (hS : SetAt s.heap a cs) (h : Q (.builtin "frozenset.isdisjoint", [.ref a]) s) : wpAny M A (getMethod (.ref a) "isdisjoint" pl) Q E s :=
  getMethod_builtin hS.typeIs plainAttrs_fs slot_fs_isdisjoint type_fs_isdisjoint hS.noDict h
theorem meth_issuperset {M : Model} {pl : Sem Bool} {Q : Value × List Value → Shared → Prop} (hS : SetAt s.heap a cs) (h : Q (.builtin "frozenset.issuperset", [.ref a]) s) : wpAny M A (getMethod (.ref a) "issuperset" pl) Q E s :=
  getMethod_builtin hS.typeIs plainAttrs_fs slot_fs_issuperset type_fs_issuperset hS.noDict h
end

end
section
open PySem PySem.W PyProof.Rows PySem.Calls PySem.Spec PySem.StrLaws PySem.Builtin PySem.Builtin.Str
inductive Ans where
  | int (n : Nat)
  | tup (n : Nat) (y : List Nat)
  | str (m : Str)
noncomputable abbrev tup2 (n : Nat) (y : List Nat) (ta tb : Tok) : Obj := { cls := .type "tuple", data := .seq [.int n ta, .str (S y) tb].toArray }
noncomputable def IsAns : Ans → Value → List (Addr × Obj) → List (Addr × Obj) → Prop
  | .int n, r, lg, base => (∃ t, r = .int n t) ∧ lg = base
  | .tup n y, r, lg, base => ∃ a ta tb, r = .ref a ∧ lg = (a, tup2 n y ta tb) :: base ∧ ∀ p ∈ base, p.1 ≠ a
  | .str m, r, lg, base => (∃ t, r = .str m t) ∧ lg = base
noncomputable def Ans.size : Ans → Nat
  | .int n => n
  | .tup n _ => n
  | .str _ => 0
noncomputable def kindS (k : Nat) : Str := [Str.ofString "white", Str.ofString "remark", Str.ofString "gap", Str.ofString "literal", Str.ofString "four", Str.ofString "word"].getD k Str.empty
noncomputable def inL5 (c : Nat) : Bool := [97, 102, 48, 100, 56].contains c
theorem till_lt {c : Nat} : ∀ {x : List Nat}, till c x 0 < x.length ↔ c ∈ x
  | [] => by simp [till]
  | a :: x => by
    have ih := till_lt (c := c) (x := x)
    unfold till at ih ⊢
    simp only [List.drop_zero] at ih ⊢
    by_cases h : a = c
    · subst h; simp
    · rw [List.takeWhile_cons]
      have h1 : (a != c) = true := by simpa using h
      rw [if_pos h1]
      simp only [List.length_cons, List.mem_cons, Nat.add_lt_add_iff_right, ih]
      constructor
      · exact .inr
      · rintro (e | e)
        · exact absurd e.symm h
        · exact e
theorem memOf_str {w : World} {y : List Nat} {t : Tok} {b : Heap} : MemOf w (.str (S y) t) (fun c => y.contains c) b := fun A Q E s c t' hA k q => by
  refine P.in_str ?_
  have e : (!(occurrences (S y) (S [c]) 0 (S y).length 1).isEmpty) = y.contains c := by
    have h := occ_S1 (x := y) (c := c) (i := 0) (Nat.zero_le _)
    rw [S_len, h]
    by_cases hc : c ∈ y
    · have h1 := till_lt.mpr hc
      rw [if_pos (by lia)]
      simp [hc]
    · have h1 : ¬ till c y 0 < y.length := fun h => hc (till_lt.mp h)
      rw [if_neg (by lia)]
      simp [hc]
  rw [e]
  exact q _

end
section
open PySem PySem.W PyProof.Rows PySem.Calls PySem.Spec
section
variable {w : World} {mean : ExcName → Option Value} {mg mb : Str → Option Value} {b : Heap} {hd : Option Value} {dp un : Nat} {env : Env} {outer : List Env} {L : Addr} {m : Str → Option Value} {news frs : List (Addr × Obj)} {s : Shared} {E : Value → Shared → Prop}
noncomputable def Third (v : Value) (o : Obj) : Prop := ∃ ws, o.data = .fields ws ∧ ws[2]? = some v
theorem entryX {base : Heap} {A : Around} {e : Addr} {oe : Obj} {vs : Array Value} {a0 v2 : Value} {Q : Unit → Shared → Prop}
    (hfr : A.frames = some (env :: outer)) (hl : s.heap.FunFrames base (env :: outer)) (hf : env.frame = some L)
    (he : s.heap.get? e = some oe) (hkb : base.StaysIn s.heap) (hen : base.get? e = none) (hd' : oe.data = .fields vs) (h0 : vs[0]? = some a0) (h1 : vs[1]? = some .none) (h2 : vs[2]? = some v2)
    (h : ∀ h' o1, Heap.NotedW base (env :: outer) e oe.cls a0 (rawInt L) s.heap h' → h'.get? e = some o1 → Third v2 o1 → Q () { s with heap := h' }) :
    wpAny (model prg w) A (noteFrame (.ref e) env) Q E s := by
  have hsz := (Array.getElem?_eq_some_iff.mp h1).1
  unfold noteFrame
  simp only [hf]
  refine wpAny_bind (wpAny_field he hd' h1 ?_)
  rw [if_neg (show ¬ ((Value.none != Value.none) = true) from by simp)]
  have hene : e ∉ (env :: outer).filterMap (·.frame) := fun hm => by
    refine X0_2 (hl.mem hm) ?_; intro _ z0; refine X1_2 z0 ?_; clear z0; intro o ho hnf
    rw [he] at ho; injection ho with ho; subst ho; exact hnf vs hd'
  refine wpAny_bind (wpAny_frameOf_fun hfr hl hf fun h₁ hs₁ => ?_)
  refine wpAny_bind (wpAny_entryPlaceOf fun pl hpl => ?_)
  unfold EntryCells.newEntry newFields
  refine wpAny_bind (wpAny_newObj_type ?_ (hpl.sizeOk5 _ _ _ _ _))
  have he₁ : h₁.get? e = some oe := (hs₁.2.1 e hene).trans he
  have kb₁ : base.StaysIn h₁ := fun b o hbo => (hs₁.2.1 b fun hm => by rw [(hl.mem hm).1] at hbo; cases hbo).trans (hkb b o hbo)
  have he₂ := Heap.get?_push_of_some (h := h₁) { cls := .type "traceback", dict := none, data := .fields ([Value.none, .ref L, .none, rawInt L, .none] ++ (if pl.isEmpty then List.replicate 6 Value.none else pl)).toArray } he₁
  have hTe : h₁.objs.size ≠ e := Nat.ne_of_gt (Heap.lt_size he₁)
  have hd₃ := Obj.data_mapFields hd' (·.setIfInBounds 1 (Value.ref h₁.objs.size))
  have he₃ := Heap.get?_update_self (Obj.mapFields (·.setIfInBounds 1 (Value.ref h₁.objs.size))) he₂ (Obj.isFreed_of_fields hd₃)
  refine wpAny_setField he₂ hd' hsz (h _ _ ?_ he₃ ⟨_, hd₃, by rw [Array.getElem?_setIfInBounds_ne (by decide)]; exact h2⟩)
  have hT₃ := (Heap.get?_update_other (h₁.push { cls := .type "traceback", dict := none, data := .fields ([Value.none, .ref L, .none, rawInt L, .none] ++ (if pl.isEmpty then List.replicate 6 Value.none else pl)).toArray })
    (Obj.mapFields (·.setIfInBounds 1 (Value.ref h₁.objs.size))) (Ne.symm hTe)).trans (Heap.get?_push_size h₁ rfl)
  have keep : ∀ b o, b ≠ e → h₁.get? b = some o →
      ((h₁.push { cls := .type "traceback", dict := none, data := .fields ([Value.none, .ref L, .none, rawInt L, .none] ++ (if pl.isEmpty then List.replicate 6 Value.none else pl)).toArray }).update e (Obj.mapFields (·.setIfInBounds 1 (Value.ref h₁.objs.size)))).get? b = some o :=
    fun b o hbe hb => by
      rw [Heap.get?_update_other _ _ (Ne.symm hbe)]
      exact Heap.get?_push_of_some _ hb
  have noRecord : ∀ b o, s.heap.get? b = some o → (∀ vs, o.data ≠ .fields vs) → b ≠ e := fun b o hb hnf q => by
    rw [q, he] at hb; injection hb with hb; subst hb; exact hnf vs hd'
  refine ⟨fun b o hbo => keep b o (fun q => by rw [q, hen] at hbo; cases hbo) (kb₁ b o hbo), hl.of_keeps fun b o hb hnf => ?_, ?_, fun b o hb hnf => ?_⟩
  · refine X1_1 (hs₁.2.2 b o hb) ?_; intro sl hs
    exact ⟨_, keep b _ (noRecord b o hb hnf) hs, rfl⟩
  · exact (Y5 _ _ h₁.objs.size _ _ ⟨he₃, ⟨Obj.cls_mapFields _ _, by rw [Array.getElem?_setIfInBounds_ne (by decide)]; exact h0⟩, hd₃, by simp [hsz], kb₁.fresh, hTe, hT₃, rfl, by first | (simp; done) | (rcases hpl with rfl | ⟨_, _, _, _, _, _, _, rfl⟩ <;> simp)⟩)
  · refine X1_1 (hs₁.2.2 b o hb) ?_; intro sl hs
    exact ⟨sl, keep b _ (noRecord b o hb hnf) hs⟩
theorem flightX {base : Heap} {A : Around} {l : List Env} {e : Addr} {cls a0 fl : Value} {o1 : Obj} {Q : Unit → Shared → Prop} (hkb : base.StaysIn s.heap) (hen : base.get? e = none) (hl : s.heap.FunFrames base l) (ht : s.heap.TracedAtW base e cls a0 fl) (h1 : s.heap.get? e = some o1)
    (hQ : ∀ h', Heap.FlyingW base l e cls a0 h' → s.heap.UpToSlots h' → h'.get? e = some o1 → Q () { s with heap := h' }) : wpAny (model prg w) A (setFlight (.ref e) none) Q E s := by
  refine X5_9 ht ?_; clear ht; intro oe vs T oT ts he hcls hd hv1 hnT hTe hT hdT h3
  have heq : oe = o1 := by rw [he] at h1; exact Option.some.inj h1
  subst heq
  have hsz3 : 3 < ts.size := (Array.getElem?_eq_some_iff.mp h3).1
  have other : ∀ b, b ≠ T → (s.heap.update T (Obj.mapFields (·.setIfInBounds 3 ((none : Option Addr).elim Value.none fun f => rawInt f)))).get? b = s.heap.get? b :=
    fun b hb => Heap.get?_update_other _ _ (Ne.symm hb)
  have noRecord : ∀ b o, s.heap.get? b = some o → (∀ vs, o.data ≠ .fields vs) → b ≠ T := fun b o hb hnf q => by
    rw [q, hT] at hb; injection hb with hb; subst hb; exact hnf ts hdT
  unfold setFlight
  refine wpAny_bind (wpAny_field he hd hv1 ?_)
  rw [if_pos (show (Value.ref T != Value.none) = true from by simp)]
  refine wpAny_setField hT hdT hsz3 (hQ _ ⟨fun b o hbo => (other b fun q => by rw [q, hnT] at hbo; cases hbo).trans (hkb b o hbo), hen,
    hl.of_keeps fun b o hb hnf => ⟨o, (other b (noRecord b o hb hnf)).trans hb, rfl⟩, ?_⟩ (fun b o hb hnf => ⟨o.slots, (other b (noRecord b o hb hnf)).trans hb⟩) ((other e (Ne.symm hTe)).trans he))
  exact (Y5 oe vs T _ _ ⟨(other e (Ne.symm hTe)).trans he, hcls, hd, hv1, hnT, hTe, Heap.get?_update_self _ hT (Obj.isFreed_of_fields (Obj.data_mapFields hdT _)), Obj.data_mapFields hdT _, by simp [hsz3]⟩)
theorem catch_newX {K : Frag} {loose : List Str} {p : Program} {qual : Str} {scope : Scope} {f : Addr} {cdv : Value} {cl : List (Str × Addr)} {e : Addr} {X : String} {h : Heap} {Q : Flow → Shared → Prop} {b₀ : Stmt} {suite : List Stmt} {pos np : Pos} {rest : List ExceptHandler} {x : Str}
    (hfrs : TI.Frs outer frs) (F : Fr b L h m) (N : News b L h (news ++ frs)) (hsep : Sep news frs) (hx : Heap.NewExc h s.heap e X)
    (XK : K.In b) (T : TopRead p loose mg mb b) (ex : nsIn K mainGlobals x = some none) (hv : bootBuiltins x = some (.type X)) (hn' : x ≠ "__name__")
    (hexc : isSubtype (.type X) (.type "BaseException") = pure true) (hnt : isSubtype (.type ((Manifest.find? X).elim "type" fun y => y.metatype)) (.type "tuple") = pure false) (hsub : isSubtype (.type X) (.type X) = pure true)
    (k : ∀ h' frs' o1, TI.SameUp frs frs' → TI.Frs outer frs' → Fr b L h' m → News b L h' ((e, o1) :: (news ++ frs')) → Third .none o1 → (∀ q ∈ news ++ frs, q.1 ≠ e) → Sep news frs' →
      wpAny (model prg w) ((JA hd dp un (envX qual scope L f cdv cl) outer).mark (some (.ref e))) (execs (b₀ :: suite) (envX qual scope L f cdv cl)) Q E { s with heap := h' })
    (hk : scope.kind = .function := by rfl) (hxk : (envX qual scope L f cdv cl).kindOf x = some .globalImplicit := by rfl) (hdb : (x == ("__debug__" : Str)) = false := by decide)
    (hE : PassesOwnAt (model prg w) ((JA hd dp un (envX qual scope L f cdv cl) outer).mark (some (.ref e))) (JA hd dp un (envX qual scope L f cdv cl) outer) (envX qual scope L f cdv cl) E := by passes_own) :
    wpAny (model prg w) (JA hd dp un (envX qual scope L f cdv cl) outer) (noteFrame (.ref e) (envX qual scope L f cdv cl))
      (fun _ s₂ => wpAny (model prg w) (JA hd dp un (envX qual scope L f cdv cl) outer) (setFlight (.ref e) none) (fun _ s₃ =>
        wpAny (model prg w) (JA hd dp un (envX qual scope L f cdv cl) outer) (handleBy (.ref e) (envX qual scope L f cdv cl) (.ExceptHandler (some (.Name x np)) none (b₀ :: suite) pos :: rest)) Q E s₃) E s₂) E s := by
  refine X2_3 hx.there ?_; intro ob tp he hcls hdt
  have hneh : ∀ c o, h.get? c = some o → c ≠ e := fun c o q z => by rw [z, hx.new] at q; cases q
  have hbe : b.get? e = none := by
    cases z : b.get? e with
    | none => rfl
    | some o => have := F.keep e o z; rw [hx.new] at this; cases this
  let fs := e :: L :: frs.map (·.1)
  have hLh : ∃ oL es ep, h.get? L = some oL ∧ oL.data = .dict es ep := by
    refine X3_3 F.ns ?_; intro oL es ep a c _
    exact (Y3 oL es ep ⟨a, c⟩)
  have hLe : e ≠ L := by
    refine X3_2 hLh ?_; clear hLh; intro oL es ep a _
    exact Ne.symm (hneh _ _ a)
  have hfs : ∀ q ∈ frs, h.get? q.1 = some q.2 := fun q hq => (N q (List.mem_append_right _ hq)).1
  have inB : ∀ c o, s.heap.get? c = some o → c ≠ e → c ≠ L → c ∉ frs.map (·.1) → (hideAll s.heap fs).get? c = some o := fun c o q h1 h2 h3 => hideAll_get _ q fun z => by
    refine mem_e z (fun z => ?_) fun z => ?_
    · exact h1 z
    refine mem_e z (fun z => ?_) fun z => ?_
    · exact h2 z
    · exact h3 z
  have hbn : ∀ c o, b.get? c = some o → c ≠ L ∧ c ∉ frs.map (·.1) := fun c o q => by
    refine ⟨fun z => ?_, fun z => ?_⟩
    · rw [z] at q; exact absurd (Nat.lt_of_lt_of_le (Heap.lt_size q) F.above) (Nat.lt_irrefl _)
    · refine X1_2 (List.mem_map.mp z) ?_; intro p hp z0; subst z0
      rw [(N p (List.mem_append_right _ hp)).2.2] at q; cases q
  have hbB : b.StaysIn (hideAll s.heap fs) := fun c o q => inB c o (hx.keeps c o (F.keep c o q)) (hneh c o (F.keep c o q)) (hbn c o q).1 (hbn c o q).2
  have hnB : ∀ q ∈ news, (hideAll s.heap fs).get? q.1 = some q.2 := fun q hq => by
    have z := N q (List.mem_append_left _ hq)
    refine inB q.1 q.2 (hx.keeps _ _ z.1) (hneh _ _ z.1) z.2.1 fun y => ?_
    refine X1_2 (List.mem_map.mp y) ?_; intro p hp y
    exact hsep q hq p hp y.symm
  have hfun : s.heap.FunFrames (hideAll s.heap fs) (envX qual scope L f cdv cl :: outer) := by
    refine X3_2 hLh ?_; clear hLh; intro oL es ep a c
    refine TI.Frs.fun (a := (L, oL) :: frs) (frs_cons rfl hk (Y2 es ep c) hfrs) fun p hp => ?_
    refine mem_c p hp ?_ fun hp => ?_
    · exact ⟨hx.keeps _ _ a, hideAll_none _ (List.mem_cons_of_mem _ List.mem_cons_self)⟩
    · exact ⟨hx.keeps _ _ (hfs p hp), hideAll_none _ (List.mem_cons_of_mem _ (List.mem_cons_of_mem _ (List.mem_map_of_mem hp)))⟩
  have hen : (hideAll s.heap fs).get? e = none := hideAll_none _ List.mem_cons_self
  refine entryX (env := envX qual scope L f cdv cl) (base := hideAll s.heap fs) (outer := outer) (a0 := tp) (vs := #[tp, .none, .none, .none, .bool false, .none]) (oe := ob) rfl hfun rfl he (fun c o q => of_hideAll _ q) hen hdt rfl rfl rfl fun h₄ o1 hN₄ hat₄ hth => ?_
  refine X0_4 hN₄ ?_; clear hN₄; intro x1 x2 x3 x4
  rw [hcls] at x3
  have up₄ : h.UpToSlots h₄ := (Heap.UpToSlots.of_keeps hx.keeps).trans x4
  refine flightX x1 hen x2 x3 hat₄ fun h₅ hfl up₅ hat₅ => ?_
  refine X1_4 (stand (env := envX qual scope L f cdv cl) rfl hfrs F N (up₄.trans up₅) hbB hnB hfl.1) ?_; intro frs₅ u₅ F₅ N₅ FS₅
  refine X1_2 hfl.there ?_; intro ob' hob' hobc'
  refine wpAny_handleBy_builtin (X := X) (T := X) (b := true) hexc hnt hsub (nameX_B (s := { s with heap := h₅ }) F₅ XK T ex hv hn' ⟨rfl, ⟨ob', hob', hobc'⟩, ?_⟩ hk hxk hdb)
  rw [if_pos rfl]
  refine flightX hfl.1 hen hfl.2.2.1 hfl.2.2.2.at hat₅ fun h₆ hfl₆ up₆ hat₆ => ?_
  refine X1_4 (stand (env := envX qual scope L f cdv cl) rfl hfrs F N ((up₄.trans up₅).trans up₆) hbB hnB hfl₆.1) ?_; intro frs₆ u₆ F₆ N₆ FS₆
  refine wpAny_passesOwnAt hE (k h₆ frs₆ o1 u₆ FS₆ F₆ (fun p hp => ?_) hth (fun q hq => hneh _ _ (N q hq).1) (hsep.up u₆))
  refine mem_c p hp ?_ fun hp => ?_
  · exact ⟨hat₆, hLe, hbe⟩
  · exact N₆ p hp
noncomputable abbrev madeC (t : Addr) (c : Value) : Obj := { cls := .ref 101, data := .fields #[.ref t, .none, c, .none, .bool true, .none] }
theorem plain_unchain : plainId "proto.unchain" = true := by decide +kernel
theorem entry_unchain : entryFor table "proto.unchain" = some Builtin.«proto.unchain» := entryFor_of_fast fast_fs.2.2.2.2.2
theorem raise_none {A : Around} {x : Expr} {pos np : Pos} {ct : Nat} {e1 : Addr} {o1 : Obj} {Q : Flow → Shared → Prop} (G : Gd w mean mg mb b) (hh : A.handled = some (.ref e1)) (h1 : Third .none o1)
    (h : wpAny (model prg w) A (eval x env) (fun v s₁ => ∃ e t, v = .ref e ∧ e ≠ e1 ∧ b.get? e = none ∧ (∀ c o, b.get? c = some o → s₁.heap.get? c = some o) ∧ s₁.heap.get? e1 = some o1 ∧ s₁.heap.get? e = some (made t .none .none false) ∧
      (∀ h', (∀ c o, c ≠ e → s₁.heap.get? c = some o → h'.get? c = some o) → h'.get? e = some (madeC t (.ref e1)) → E (.ref e) { s₁ with heap := h' })) E s) :
    wpAny (model prg w) A (exec (.Raise (some x) (some (.Constant .none ct np)) pos) env) Q E s := by
  refine X12_1 ((own_toml G).obj) ?_; intro tl N nm q bs hdct sn sub ab col dd k0 z0; refine X5_4 z0 ?_; clear z0; intro k1 k2 k3 k5 mN hC hN hni T
  have hbase : tl.contains (.type "BaseException") = true := T.hasType (by decide)
  have hcB : (Value.ref 101 :: tl).contains (.type "BaseException") = true := by rw [List.contains_cons, hbase, Bool.or_true]
  rw [arm_exec_Raise]
  refine wpAny_bind (wpAny_standAt ?_)
  unfold raiseStmt
  dsimp only [evalOpt, Option.map]
  refine wpAny_bind (wpAny_bind (wpAny_mono h (fun v s₁ h₁ => wpAny_bind (wpAny_standAt (wpAny_pure ?_))) fun _ _ x => x))
  refine X2_7 h₁ ?_; clear h₁; intro e t z0 hne hbe hkb ho1 he hE; subst z0
  have hC' := hkb _ _ hC
  obtain ⟨hp, g, d, tk, os⟩ := s₁
  have hne' : (Value.none == Value.none) = true := rfl
  repeat (first | with_reducible refine wpAny_loadPart_at he ?_ | with_reducible refine wpAny_loadPart_at hC' ?_ | (with_reducible refine wpAny_isSubtype_exc hC' ?_; rw [hcB]) | with_reducible refine wpAny_setField he rfl (by decide) ?_ | wp_step)
  have hC101 : (101 : Addr) ≠ e := fun z => by rw [← z, hC] at hbe; cases hbe
  have g1 := Heap.get?_update_self (Obj.mapFields fun x => x.setIfInBounds 3 Value.none) he rfl
  have g2 := Heap.get?_update_self (Obj.mapFields fun x => x.setIfInBounds 4 (.bool true)) g1 rfl
  have oth : ∀ c, c ≠ e → ((hp.update e (Obj.mapFields fun x => x.setIfInBounds 3 Value.none)).update e (Obj.mapFields fun x => x.setIfInBounds 4 (Value.bool true))).get? c = hp.get? c := fun c hc => by
    rw [Heap.get?_update_other _ _ (Ne.symm hc), Heap.get?_update_other _ _ (Ne.symm hc)]
  have hC2 := (oth 101 hC101).trans hC'
  have ho2 := (oth e1 (Ne.symm hne)).trans ho1
  refine wpAny_loadPart_at hC2 (wpAny_pure ?_)
  rw [if_pos (show ((excClassObj nm q 101 N bs tl hdct sn sub ab col dd k0 k1 k2 k3 k5 "ValueError.__new__").cls == Value.type "type") = true from rfl)]
  refine wpAny_pure (wpAny_bind ?_)
  unfold setFlight
  refine wpAny_bind (wpAny_field g2 rfl (x := .none) rfl ?_)
  rw [if_neg (by simp)]
  refine wpAny_pure ?_
  unfold raiseNew
  refine wpAny_bind (wpAny_handled ?_)
  rw [hh]
  dsimp only
  rw [if_pos (by simpa using Ne.symm hne)]
  refine X1_2 h1 ?_; clear h1; intro ws hd1 hd2
  refine wpAny_bind (wpAny_holding (wpAny_runValue (codeAny_builtin entry_unchain ?_)))
  rw [Around.under_plainId plain_unchain _]
  unfold Builtin.«proto.unchain»
  dsimp only
  refine wpAny_bind (wpAny_field ho2 hd1 hd2 ?_)
  rw [if_pos (by rfl)]
  refine wpAny_pure ?_
  dsimp only
  refine wpAny_bind ?_
  unfold updateField
  refine wpAny_bind (wpAny_load g2 ?_)
  dsimp only [Obj.mapFields]
  rw [if_pos (by simp)]
  refine wpAny_update g2 (wpAny_throw (hE _ (fun c o hc ho => ?_) ?_))
  · rw [Heap.get?_update_other _ _ (Ne.symm hc), oth c hc]; exact ho
  · exact Heap.get?_update_self _ g2 rfl
end

end
section
open PySem PySem.W PyProof.Rows
set_option maxHeartbeats 0
theorem said1 : looksOpen PySem.Challenge.pw_pd0097_01 = true := by
  unfold looksOpen
  repeat' with_reducible refine look_both ?_ ?_
  all_goals decide +kernel
theorem said2 : PySem.Challenge.rw_pd0097_01.row.wellSaid = true := by
  unfold OpenRow.wellSaid OpenRow.partSaid
  repeat' with_reducible refine look_both ?_ ?_
  exact said1
  all_goals decide +kernel
theorem said3 : PySem.Challenge.rw_pd0097_01.wellSaid = true := by
  unfold OpenLaw.wellSaid
  repeat' with_reducible refine look_both ?_ ?_
  exact said2
  all_goals decide +kernel

end
section
open PySem PySem.W PyProof.Rows PySem.Calls PySem.Spec
local macro_rules | `(tactic| walk_at "o") => `(tactic| first | with_reducible assumption | with_reducible exact dp_lt (by with_reducible assumption) (by decide) | with_reducible exact un_lt (by with_reducible assumption) (by decide) | (with_reducible refine Nat.lt_of_le_of_lt (by with_reducible assumption) ?_; decide) | (with_reducible refine Nat.le_trans (by with_reducible assumption) ?_; decide) | lia)
local macro_rules | `(tactic| walk_at "J def") => `(tactic| (refine' j_defK (by assumption) ?lk ?cd ?bind ?ms ?loc ?cell ?co ?gen ?k ?_; (case lk => k_dflt k_is); (case cd => k_dflt k_is); (case bind => exact fun _ => BindsTo.of_eq rfl); (case ms => exact rfl); (case loc => exact rfl); (case cell => decide); (case co => exact rfl); (case gen => exact rfl); (case k => exact rfl)))
local macro_rules | `(tactic| walk_at "exec While Compare cons nil") => `(tactic| k_dflt (refine stopAt ?_))
local macro_rules | `(tactic| walk_at "subscriptTail Name Name str int") => `(tactic| k_dflt (refine item_or (by exact rfl) (by walk_at "o") (fun hx' h' tk' e' x' => ?_) (fun c' hc' => ?_)))
local macro_rules | `(tactic| walk_at "J defN") => `(tactic| (refine' j_defN (by assumption) ?me ?cm ?od ?hv ?bind ?ms ?loc ?cell ?co ?gen ?k ?_; (case me => assumption); (case cm => assumption); (case od => assumption); (case hv => assumption); (case bind => exact fun _ => BindsTo.of_eq rfl); (case ms => exact rfl); (case loc => exact rfl); (case cell => decide); (case co => exact rfl); (case gen => exact rfl); (case k => exact rfl)))
local macro_rules | `(tactic| walk_at "call builtin:len") => `(tactic| k_dflt (refine len_K (by walk_at "o") (fun t' tk' => ?_)))
local macro_rules | `(tactic| walk_at "call builtin:str.count") => `(tactic| k_dflt (refine count_K (c := 10) (by decide) (by walk_at "o") (fun t' tk' => ?_)))
local macro_rules | `(tactic| walk_at "call ref") => `(tactic| k_dflt (refine stopAt ?_))
local macro_rules | `(tactic| walk_at "call builtin:str.index") => `(tactic| k_dflt (refine index_K (by exact rfl) (by exact rfl) (by walk_at "o") (fun hx' h' tk' e' x' => ?_) (fun hx' t' tk' => ?_)))
local macro_rules | `(tactic| walk_at "subscriptTail Name Slice str ref") => `(tactic| k_dflt ((with_reducible show wpAny _ _ (subscriptTail _ (Expr.Slice (some _) (some _) none _) _ _) _ _ _); (with_reducible rename Fr _ _ _ _ => F'); (with_reducible rename News _ _ _ _ => N'); (refine sub_ss (s := ⟨_, _, _, _, _⟩) F' N' (by walk_at "o") ?_); intro _ _ _ _ _))
local macro_rules | `(tactic| walk_at "subscriptTail Name Slice str ref") => `(tactic| k_dflt ((with_reducible show wpAny _ _ (subscriptTail _ (Expr.Slice none (some _) none _) _ _) _ _ _); (with_reducible rename Fr _ _ _ _ => F'); (with_reducible rename News _ _ _ _ => N'); (refine sub_ns (s := ⟨_, _, _, _, _⟩) F' N' (by walk_at "o") ?_); intro _ _ _ _ _))
local macro_rules | `(tactic| walk_at "subscriptTail Name Slice str ref") => `(tactic| k_dflt ((with_reducible show wpAny _ _ (subscriptTail _ (Expr.Slice (some _) none none _) _ _) _ _ _); (with_reducible rename Fr _ _ _ _ => F'); (with_reducible rename News _ _ _ _ => N'); (refine sub_sn (s := ⟨_, _, _, _, _⟩) F' N' (by walk_at "o") ?_); intro _ _ _ _ _))
local macro_rules | `(tactic| walk_at "exec Raise some none") => `(tactic| k_dflt (refine stopAt ?_))
local macro_rules | `(tactic| walk_at "execs cons") => `(tactic| ((try k_fold); (with_reducible refine execs_let ?_); intro qX sX))
local macro_rules | `(tactic| walk_at "m") => `(tactic| first | with_reducible exact List.mem_cons_self | with_reducible assumption | (with_reducible refine List.mem_cons_of_mem _ ?_; walk_at "m") | (with_reducible refine List.mem_append_left _ ?_; walk_at "m") | (with_reducible refine List.mem_append_right _ ?_; walk_at "m") | (with_reducible refine meq (by assumption) ?_; walk_at "m"))
local macro_rules | `(tactic| walk_at "q") => `(tactic| (refine q_let ?_; intro qY))
local macro_rules | `(tactic| walk_at "s") => `(tactic| first | (with_reducible refine sub_cons ?_ ?_ <;> first | walk_at "m" | walk_at "s") | (with_reducible refine sub_app ?_ ?_ <;> walk_at "s") | with_reducible exact sub_nil | (intro p hp; walk_at "m"))

section
open PySem PySem.W PyProof.Rows PySem.Calls PySem.Spec
set_option maxHeartbeats 4000000
variable {w : World} {mean : ExcName → Option Value} {mg mb : Str → Option Value} {b : Heap} {news : List (Addr × Obj)}
noncomputable def crD : Arguments × List Stmt × Scope := asDef ((dfn 19).2.1[0]?)
theorem coord_repr (G : Gd w mean mg mb b) {hd : Option Value} {x : List Nat} {i : Nat} {t1 t2 : Tok} {f c' : Addr} {oc' : Obj} {vs' : Array Value} {t' : Tok} {doc pm ctv : Value} (hx : x.length ≤ 24) (hi : i ≤ 30)
    (hm : (f, fnMade "coord_repr" "suffixed_err.<locals>.coord_repr" crD.1 crD.2.1 crD.2.2 [] doc pm c' ctv) ∈ news) (hc : (c', oc') ∈ news) (hod : oc'.data = .fields vs') (hv : vs'[1]? = some (.str "suffixed_err.<locals>.coord_repr" t')) :
    JSpec w b hd 9 (.ref f) [.str (S x) t1, .int i t2] [] news (fun r lg => (∃ t, r = .str (coordS x i) t) ∧ lg = news) (fun _ _ => False) := by
  walk_at "J defN"
  intro dp un outer L fr s Q Ec hfr F N hsep hdp hun ret rai
  refine let_all ?_
  intro aV eV eX qX
  have X := G.K
  have hcnt : (x.take i).count 10 ≤ 24 := Nat.le_trans List.count_le_length (by rw [List.length_take]; exact ar51 hx)
  have T := G.T
  k_steps
  · refine ret (.str _ _) news fr _ _ _ _ ⟨⟨_, congrArg (fun z => Value.str z _) ?_⟩, rfl⟩ (TI.SameUp.refl _) Fresh.refl (by assumption) (by assumption)
    rw [coordS, if_pos (by walk_at "o")]
  · rename_i hlt _ _ _ hc0
    refine ret (.str _ _) news fr _ _ _ _ ⟨⟨_, congrArg (fun z => Value.str z _) ?_⟩, rfl⟩ (TI.SameUp.refl _) Fresh.refl (by assumption) (by assumption)
    have hno : 10 ∉ x.take i := fun h => by have := List.count_pos_iff.mpr h; lia
    rw [coordS, if_neg (by walk_at "o"), back_none hno, List.length_take, Nat.min_eq_left (by exact ar52 (by assumption))]
  · rename_i hlt _ _ _ hc0
    have hmem : 10 ∈ x.take i := List.count_pos_iff.mp (by exact ar67 (by assumption))
    have hb := back_lt hmem
    rw [List.length_take] at hb
    refine rindex_K (c := 10) (by decide) (by exact ar52 (by assumption)) hmem (fun t' tk' => ?_)
    have hle : i - 1 - back 10 (x.take i) ≤ 30 := by exact Nat.le_trans (Nat.sub_le ..) (Nat.le_trans (Nat.sub_le ..) (Nat.le_trans (ar52 (by assumption)) (Nat.le_trans hx (by decide))))
    k_steps
    refine ret (.str _ _) news fr _ _ _ _ ⟨⟨_, congrArg (fun z => Value.str z _) ?_⟩, rfl⟩ (TI.SameUp.refl _) Fresh.refl (by assumption) (by assumption)
    have e : ((i : Int) - ((i - 1 - back 10 (x.take i) : Nat) : Int)) = ((back 10 (x.take i) : Nat) : Int) + 1 := by lia
    rw [coordS, if_neg (by walk_at "o"), e]

end
section
open PySem PySem.W PyProof.Rows PySem.Calls PySem.Spec
set_option maxHeartbeats 4000000
variable {w : World} {mean : ExcName → Option Value} {mg mb : Str → Option Value} {b : Heap} {news : List (Addr × Obj)}
noncomputable def TS (T : List (Addr × Obj)) : Prop := T = [(148, tabObj #[])] ∨ ∃ c' oc' vs' t', T = [(148, tabObj #[rawInt 112, rawInt 4, .ref c']), (c', oc')] ∧ oc'.data = .fields vs' ∧ vs'[1]? = some (.str "suffixed_err.<locals>.coord_repr" t')
noncomputable def TS2 (T0 T' : List (Addr × Obj)) : Prop := TS T' ∧ ∀ p ∈ T0, p.1 ∈ T'.map (·.1)
noncomputable def errS (x : List Nat) (i : Nat) (msg : Str) : Str := Str.empty ++ msg ++ Str.ofString " (at " ++ coordS x i ++ Str.ofString ")"
theorem sep_cons {p : Addr × Obj} {l fr : List (Addr × Obj)} (h : ∀ q ∈ fr, p.1 ≠ q.1) (hl : Sep l fr) : Sep (p :: l) fr := fun q hq r hr => by
  refine mem_c q hq ?_ fun hq => ?_
  · exact h r hr
  · exact hl q hq r hr
theorem sameUp_ne {fr frs' : List (Addr × Obj)} {e : Addr} (u : TI.SameUp fr frs') (h : ∀ q ∈ frs', q.1 ≠ e) : ∀ p ∈ fr, p.1 ≠ e := fun p hp => by
  refine X1_1 (TI.SameUp.back u p hp) ?_; intro sl y
  have := h _ y
  exact this
noncomputable abbrev tup1 (y : Str) (t : Tok) : Obj := { cls := .type "tuple", data := .seq [.str y t].toArray }
theorem tok_out {b h : Heap} {L e te : Addr} {o : Obj} {y : Str} {t : Tok} {r : List (Addr × Obj)} (N : News b L h ((e, o) :: (te, tup1 y t) :: r)) : ∃ tm, News b L h ((e, o) :: (te, tup1 y tm) :: r) := ⟨t, N⟩
theorem suffixed_err (G : Gd w mean mg mb b) {hd : Option Value} {x : List Nat} {i : Nat} {msg : Str} {t1 t2 t3 : Tok} {T0 : List (Addr × Obj)} (hx : x.length ≤ 24) (hi : i ≤ 30) (hmsg : msg.length ≤ 100) (hT : TS T0) (hr : ∀ p ∈ news, p.1 ≠ 148) :
    JSpec w b hd 20 (.ref 153) [.str (S x) t1, .int i t2, .str msg t3] [] (news ++ T0) (fun r lg => ∃ e t tm T', r = .ref e ∧ TS2 T0 T' ∧ lg = (e, made t .none .none false) :: (t, { cls := .type "tuple", data := .seq [.str (errS x i msg) tm].toArray }) :: (news ++ T') ∧ (∀ p ∈ (t, ({ cls := .type "tuple", data := .seq [.str (errS x i msg) tm].toArray } : Obj)) :: (news ++ T'), p.1 ≠ e)) (fun _ _ => False) := by
  walk_at "J def"
  intro dp un outer L fr s Q Ec hfr F N hsep hdp hun ret rai
  refine let_all ?_
  intro aV eV eX qX
  have X := G.K
  have T := G.T
  have C1 := G.C1
  have hcl := coordS_len hx hi
  have hsn : Sep news fr := fun q hq p hp => hsep q (List.mem_append_left _ hq) p hp
  rcases hT with rfl | ⟨c', oc', vs', t', rfl, hod, hv⟩
  · replace N : News b L s.heap ((148, tabObj #[]) :: (news ++ fr)) := fun p hp => N p (by revert p hp; walk_at "s")
    have h148 : ∀ p ∈ fr, 148 ≠ p.1 := fun p hp => hsep (148, tabObj #[]) (by walk_at "m") p hp
    have hr2 : ∀ p ∈ news ++ fr, p.1 ≠ 148 := fun p hp => (List.mem_append.mp hp).elim (hr p) fun q => Ne.symm (h148 p q)
    refine wpAny_execs_cons ?_
    refine nestDef_K (by exact rfl) (by exact rfl) (by exact rfl) ?_
    refine nest_K (c := 152) (P := 148) (cl := []) (g := fun o => (148, o) :: (news ++ fr)) F N T C1 rfl (UpdF.head hr2) trivial rfl rfl ?_
    intro f' c' oc' vs' t' ct' dc' h' tk' F' N' d1' d2' l1 l2
    k_steps
    refine StopAt.go ?_
    have hfr1 : ∀ p ∈ fr, p.1 < c' := fun p hp => l1 p (List.mem_cons_of_mem _ (List.mem_append_right _ hp))
    refine coord_repr G (news := (f', _) :: (c', oc') :: (148, _) :: news) hx hi List.mem_cons_self (List.mem_cons_of_mem _ List.mem_cons_self) d1' d2' _ _ _ _ _ _ fr _ _ _ rfl rfl hfr (by assumption) (by assumption) ?_ (by walk_at "o") (by walk_at "o") ?_ ?_
    · exact sep_cons (fun p hp => Nat.ne_of_gt (Nat.lt_trans (hfr1 p hp) l2)) (sep_cons (fun p hp => Nat.ne_of_gt (hfr1 p hp)) (sep_cons h148 hsn))
    · intro v lg frs' h'' tk'' y0 hsu _ F'' N''; refine X0_2 y0 ?_; clear y0; intro z0 z2; refine X1_1 z0 ?_; clear z0; intro t z1; subst z1; subst z2
      k_steps
      refine StopAt.go ?_
      refine call_toml G (by assumption) (by assumption) ?_
      intro e te h3 F3 N3 het hne hnt
      k_steps
      refine X1_1 (tok_out (y := errS x i msg) N3) ?_; intro tm N4
      have hfr2 : ∀ p ∈ frs', p.1 < c' ∧ 148 ≠ p.1 := fun p hp => by
        refine X1_2 (TI.SameUp.fwd hsu p hp) ?_; intro p' y1 y2
        exact ⟨y2 ▸ hfr1 p' y1, y2 ▸ h148 p' y1⟩
      have hnw : ∀ p ∈ news, p.1 < c' := fun p hp => l1 p (List.mem_cons_of_mem _ (List.mem_append_left _ hp))
      have hfre : ∀ p ∈ fr, p.1 ≠ e ∧ p.1 ≠ te := fun p hp => ⟨sameUp_ne hsu (fun q hq => hne q (List.mem_append_right _ hq)) p hp, sameUp_ne hsu (fun q hq => hnt q (List.mem_append_right _ hq)) p hp⟩
      refine ret (.ref e) ((e, made te .none .none false) :: (te, tup1 (errS x i msg) tm) :: (news ++ [(148, tabObj #[rawInt 112, rawInt 4, .ref c']), (c', oc')])) frs' _ _ _ _ ?_ hsu ?_ F3 ?_
      · refine (Y4 e te tm [(148, tabObj #[rawInt 112, rawInt 4, .ref c']), (c', oc')] ⟨rfl, ⟨.inr (Y4 c' oc' vs' t' ⟨rfl, d1', d2'⟩), fun p hp => by rw [List.mem_singleton.mp hp]; exact List.mem_cons_self⟩, rfl, ?_⟩)
        intro p hp
        refine mem_c p hp ?_ fun hp => ?_
        · exact Ne.symm het
        · refine mem_a hp (fun y => ?_) fun y => ?_
          · exact hne p (by walk_at "m")
          · refine mem_c p y ?_ fun y => ?_
            · exact hne _ (List.mem_cons_of_mem _ (List.mem_cons_of_mem _ List.mem_cons_self))
            · refine mem_c p y ?_ fun y => ?_
              · exact hne (c', _) (by walk_at "m")
              · cases y
      · intro p hp
        refine mem_c p hp ?_ fun hp => ?_
        · refine .inr fun q hq => ?_
          refine mem_a hq (fun y => ?_) fun y => ?_
          · refine mem_a y (fun y => ?_) fun y => ?_
            · exact Ne.symm (hne q (by walk_at "m"))
            · rw [List.mem_singleton.mp y]; have z := hne _ (List.mem_cons_of_mem _ (List.mem_cons_of_mem _ List.mem_cons_self)); exact Ne.symm z
          · exact Ne.symm (hfre q y).1
        · refine mem_c p hp ?_ fun hp => ?_
          · refine .inr fun q hq => ?_
            refine mem_a hq (fun y => ?_) fun y => ?_
            · refine mem_a y (fun y => ?_) fun y => ?_
              · exact Ne.symm (hnt q (by walk_at "m"))
              · rw [List.mem_singleton.mp y]; have z := hnt _ (List.mem_cons_of_mem _ (List.mem_cons_of_mem _ List.mem_cons_self)); exact Ne.symm z
            · exact Ne.symm (hfre q y).2
          · refine mem_a hp (fun y => ?_) fun y => ?_
            · exact .inl (List.mem_map_of_mem (by walk_at "m"))
            · refine mem_c p y ?_ fun y => ?_
              · exact .inl (List.mem_map.mpr ⟨(148, tabObj #[]), by walk_at "m", rfl⟩)
              · refine mem_c p y ?_ fun y => ?_
                · refine .inr fun q hq => ?_
                  refine mem_a hq (fun z => ?_) fun z => ?_
                  · refine mem_a z (fun z => ?_) fun z => ?_
                    · exact Nat.ne_of_gt (hnw q z)
                    · rw [List.mem_singleton.mp z]; exact Nat.ne_of_gt (l1 (148, _) List.mem_cons_self)
                  · exact Nat.ne_of_gt (hfr1 q z)
                · cases y
      · intro p hp
        refine N4 p ?_
        refine mem_a hp (fun hp => ?_) fun y => ?_
        · refine mem_c p hp ?_ fun hp => ?_
          · walk_at "m"
          · refine mem_c p hp ?_ fun hp => ?_
            · walk_at "m"
            · refine mem_a hp (fun y => ?_) fun hp => ?_
              · walk_at "m"
              · refine mem_c p hp ?_ fun hp => ?_
                · exact List.mem_cons_of_mem _ (List.mem_cons_of_mem _ (List.mem_cons_of_mem _ (List.mem_cons_of_mem _ List.mem_cons_self)))
                · refine mem_1 p hp ?_
                  walk_at "m"
        · walk_at "m"
    · rintro _ _ _ _ _ _ _ ⟨⟩
  · have h148 : ∀ p ∈ fr, 148 ≠ p.1 := fun p hp => hsep (148, tabObj #[rawInt 112, rawInt 4, .ref c']) (by walk_at "m") p hp
    have hc' : ∀ p ∈ fr, c' ≠ p.1 := fun p hp => hsep (c', oc') (by walk_at "m") p hp
    refine wpAny_execs_cons ?_
    refine nestDef_K (by exact rfl) (by exact rfl) (by exact rfl) ?_
    refine nestHit_K (c := 152) (P := 148) (cl := []) (c' := c') (ps := #[rawInt 112, rawInt 4, .ref c']) F N T C1 rfl (by walk_at "m") (by simp [TriplesOk, rawInt]) (by simp [codeAmong, rawInt]) rfl ?_
    intro f' ct' dc' h' tk' F' N' l1
    k_steps
    refine StopAt.go ?_
    have hfr1 : ∀ p ∈ fr, p.1 < f' := fun p hp => l1 p (List.mem_append_right _ hp)
    refine coord_repr G (news := (f', _) :: (news ++ [(148, tabObj #[rawInt 112, rawInt 4, .ref c']), (c', oc')])) hx hi List.mem_cons_self (List.mem_cons_of_mem _ (List.mem_append_right _ (List.mem_cons_of_mem _ List.mem_cons_self))) hod hv _ _ _ _ _ _ fr _ _ _ rfl rfl hfr (by assumption) (by assumption) ?_ (by walk_at "o") (by walk_at "o") ?_ ?_
    · exact sep_cons (fun p hp => Nat.ne_of_gt (hfr1 p hp)) hsep
    · intro v lg frs' h'' tk'' y0 hsu _ F'' N''; refine X0_2 y0 ?_; clear y0; intro z0 z2; refine X1_1 z0 ?_; clear z0; intro t z1; subst z1; subst z2
      k_steps
      refine StopAt.go ?_
      refine call_toml G (by assumption) (by assumption) ?_
      intro e te h3 F3 N3 het hne hnt
      k_steps
      refine X1_1 (tok_out (y := errS x i msg) N3) ?_; intro tm N4
      have hfre : ∀ p ∈ fr, p.1 ≠ e ∧ p.1 ≠ te := fun p hp => ⟨sameUp_ne hsu (fun q hq => hne q (List.mem_append_right _ hq)) p hp, sameUp_ne hsu (fun q hq => hnt q (List.mem_append_right _ hq)) p hp⟩
      refine ret (.ref e) ((e, made te .none .none false) :: (te, tup1 (errS x i msg) tm) :: (news ++ [(148, tabObj #[rawInt 112, rawInt 4, .ref c']), (c', oc')])) frs' _ _ _ _ ?_ hsu ?_ F3 ?_
      · refine (Y4 e te tm [(148, tabObj #[rawInt 112, rawInt 4, .ref c']), (c', oc')] ⟨rfl, ⟨.inr (Y4 c' oc' vs' t' ⟨rfl, hod, hv⟩), fun p hp => List.mem_map_of_mem hp⟩, rfl, ?_⟩)
        intro p hp
        refine mem_c p hp ?_ fun hp => ?_
        · exact Ne.symm het
        · exact hne p (List.mem_append_left _ (List.mem_cons_of_mem _ hp))
      · intro p hp
        refine mem_c p hp ?_ fun hp => ?_
        · refine .inr fun q hq => ?_
          refine mem_a hq (fun y => ?_) fun y => ?_
          · exact Ne.symm (hne q (List.mem_append_left _ (List.mem_cons_of_mem _ y)))
          · exact Ne.symm (hfre q y).1
        · refine mem_c p hp ?_ fun hp => ?_
          · refine .inr fun q hq => ?_
            refine mem_a hq (fun y => ?_) fun y => ?_
            · exact Ne.symm (hnt q (List.mem_append_left _ (List.mem_cons_of_mem _ y)))
            · exact Ne.symm (hfre q y).2
          · exact .inl (List.mem_map_of_mem hp)
      · intro p hp
        refine N4 p ?_
        refine mem_a hp (fun y => ?_) fun y => ?_
        · refine mem_c p y ?_ fun y => ?_
          · exact List.mem_cons_self
          · refine mem_c p y ?_ fun y => ?_
            · exact List.mem_cons_of_mem _ List.mem_cons_self
            · exact List.mem_cons_of_mem _ (List.mem_cons_of_mem _ (List.mem_append_left _ (List.mem_cons_of_mem _ y)))
        · exact List.mem_cons_of_mem _ (List.mem_cons_of_mem _ (List.mem_append_right _ y))
    · rintro _ _ _ _ _ _ _ ⟨⟩

end
section
open PySem PySem.W PyProof.Rows PySem.Calls PySem.Spec
section
variable {b h h' : Heap} {L : Addr} {m : Str → Option Value} {news news' : List (Addr × Obj)}
theorem fr_keeps (F : Fr b L h m) (k : ∀ c o, h.get? c = some o → h'.get? c = some o) : Fr b L h' m := ⟨F.ns.keeps k, fun c o y => k _ _ (F.keep c o y), F.above⟩
theorem news_keeps (N : News b L h news) (k : ∀ c o, h.get? c = some o → h'.get? c = some o) : News b L h' news := fun p hp => ⟨k _ _ (N p hp).1, (N p hp).2⟩
theorem news_sub (N : News b L h news) (k : ∀ p ∈ news', p ∈ news) : News b L h news' := fun p hp => N p (k p hp)
theorem fr_but {e : Addr} (F : Fr b L h m) (hb : b.get? e = none) (hL : L ≠ e) (k : ∀ c o, c ≠ e → h.get? c = some o → h'.get? c = some o) : Fr b L h' m := by
  obtain ⟨⟨oL, es, ep, a, r⟩, kp, ab⟩ := F
  exact ⟨(Y3 oL es ep ⟨k _ _ hL a, r⟩), fun c o y => k _ _ (fun z => by rw [z, hb] at y; cases y) (kp c o y), ab⟩
theorem news_but {e : Addr} (N : News b L h news) (hn : ∀ p ∈ news, p.1 ≠ e) (k : ∀ c o, c ≠ e → h.get? c = some o → h'.get? c = some o) : News b L h' news := fun p hp => ⟨k _ _ (hn p hp) (N p hp).1, (N p hp).2⟩
theorem news_head {e : Addr} {oe o' : Obj} (N : News b L h ((e, oe) :: news)) (hn : ∀ p ∈ news, p.1 ≠ e) (k : ∀ c o, c ≠ e → h.get? c = some o → h'.get? c = some o) (he : h'.get? e = some o') : News b L h' ((e, o') :: news) := fun p hp => by
  refine mem_c p hp ?_ fun hp => ?_
  · exact ⟨he, (N _ List.mem_cons_self).2⟩
  · exact ⟨k _ _ (hn p hp) (N p (List.mem_cons_of_mem _ hp)).1, (N p (List.mem_cons_of_mem _ hp)).2⟩
theorem sep_fresh {inp lg frs frs' : List (Addr × Obj)} (hsep : Sep inp frs) (hF : ∀ p ∈ lg, p.1 ∈ inp.map (·.1) ∨ (∀ q ∈ inp ++ frs, p.1 ≠ q.1) ∧ p.1 ≠ L) (hu : TI.SameUp frs frs') : Sep lg frs' := by
  refine Sep.up (fun q hq p hp => ?_) hu
  rcases hF q hq with z | z
  · refine X1_2 (List.mem_map.mp z) ?_; intro q' h1 h2
    rw [← h2]; exact hsep q' h1 p hp
  · exact z.1 p (List.mem_append_right _ hp)
theorem fresh_via {inp inp' lg lg' fr fr' : List (Addr × Obj)} (hu : TI.SameUp fr fr') (hF : ∀ p ∈ lg, p.1 ∈ inp'.map (·.1) ∨ (∀ q ∈ inp' ++ fr', p.1 ≠ q.1) ∧ p.1 ≠ L) (hsub : ∀ p ∈ lg', p ∈ lg)
    (hin : ∀ p ∈ inp, ∃ q ∈ inp', q.1 = p.1) (hx : ∀ q ∈ inp', q.1 ∈ inp.map (·.1) ∨ ∀ p ∈ inp ++ fr, q.1 ≠ p.1) : Fresh inp fr lg' := fun p hp => by
  rcases hF p (hsub p hp) with z | z
  · refine X1_2 (List.mem_map.mp z) ?_; intro q h1 h2
    rcases hx q h1 with y | y
    · left; rw [← h2]; exact y
    · right; intro r hr; rw [← h2]; exact y r hr
  · right
    intro r hr
    refine mem_a hr (fun y => ?_) fun y => ?_
    · refine X1_2 (hin r y) ?_; intro q h1 h2
      rw [← h2]; exact z.1 q (List.mem_append_left _ h1)
    · refine X1_1 (TI.SameUp.back hu r y) ?_; intro sl h1
      have := z.1 _ (List.mem_append_right _ h1)
      exact this
theorem TS.mem148 {T : List (Addr × Obj)} (h : TS T) : ∃ o, (148, o) ∈ T := by
  rcases h with rfl | ⟨c', oc', vs', t', rfl, _⟩
  · exact ⟨_, List.mem_cons_self⟩
  · exact ⟨_, List.mem_cons_self⟩
theorem sameUp_ne' {fr frs' : List (Addr × Obj)} {e : Addr} (u : TI.SameUp fr frs') (h : ∀ q ∈ fr, q.1 ≠ e) : ∀ p ∈ frs', e ≠ p.1 := fun p hp => by
  refine X1_2 (TI.SameUp.fwd u p hp) ?_; intro q h1 h2
  rw [h2]; exact Ne.symm (h q h1)
theorem fresh_same {inp lg fr fr' : List (Addr × Obj)} (hu : TI.SameUp fr fr') (hF : Fresh inp fr' lg) : Fresh inp fr lg := fun p hp => (hF p hp).imp id fun z r hr => by
  refine mem_a hr (fun y => ?_) fun y => ?_
  · exact z r (List.mem_append_left _ y)
  · refine X1_1 (TI.SameUp.back hu r y) ?_; intro sl h1
    have := z _ (List.mem_append_right _ h1)
    exact this
theorem fr_put {x : Str} {v : Value} {l : List (Str × Value)} (F : Fr b L h (fun y => if y = x then some v else lk l y)) : Fr b L h (lk (putk x v l)) := lk_put x v l ▸ F
end
section
variable {w : World} {mean : ExcName → Option Value} {mg mb : Str → Option Value} {b : Heap} {hd : Option Value} {dp un : Nat} {env : Env} {outer : List Env} {L : Addr} {m : Str → Option Value} {news fr : List (Addr × Obj)} {s : Shared} {E : Value → Shared → Prop}
theorem suf_out {x : List Nat} {i : Nat} {msg : Str} {T0 lg fr2 : List (Addr × Obj)} {v : Value} {Ec : Value → Shared → Prop} (hf : env.frame = some L) (hk : env.scope.kind = .function) (hfr : TI.Frs outer fr) (hsep : Sep (news ++ T0) fr)
    (hp : ∃ e t tm T', v = .ref e ∧ TS2 T0 T' ∧ lg = (e, made t .none .none false) :: (t, { cls := .type "tuple", data := .seq [.str (errS x i msg) tm].toArray }) :: (news ++ T') ∧ (∀ p ∈ (t, ({ cls := .type "tuple", data := .seq [.str (errS x i msg) tm].toArray } : Obj)) :: (news ++ T'), p.1 ≠ e))
    (hsu : TI.SameUp fr fr2) (hF : ∀ p ∈ lg, p.1 ∈ (news ++ T0).map (·.1) ∨ (∀ q ∈ (news ++ T0) ++ fr, p.1 ≠ q.1) ∧ p.1 ≠ L) (F6 : Fr b L s.heap m) (N6 : News b L s.heap (lg ++ fr2))
    (rai : ∀ e tm T' fr3 h8, TS2 T0 T' → TI.SameUp fr fr3 → Fresh (news ++ T0) fr (news ++ T') → FlyB b outer L (news ++ T') fr3 e (.ref 101) [.str (errS x i msg) tm] h8 → Ec (.ref e) { s with heap := h8 }) :
    ∃ e t, v = .ref e ∧ (∀ c o, b.get? c = some o → s.heap.get? c = some o) ∧ s.heap.get? e = some (made t .none .none false) ∧ wpAny (model prg w) (JA hd dp un env outer) (leaving env (.ref e)) (fun _ s'' => Ec (.ref e) s'') E s := by
  refine X4_4 hp ?_; clear hp; intro e t tm T' z0 hT' z1 hnew; subst z0; subst z1
  have hs6 : Sep _ fr2 := sep_fresh hsep hF hsu
  have hnf : ∀ p ∈ fr2, p.1 ≠ e := fun p hp => Ne.symm (hs6 (e, made t .none .none false) List.mem_cons_self p hp)
  refine (Y2 e t ⟨rfl, F6.keep, (N6 _ List.mem_cons_self).1, leave_made hf hk (hfr.up hsu) F6 N6 (fun q hq => hs6 q (List.mem_cons_of_mem _ hq)) (fun p hp => ?_) rfl rfl rfl rfl ?_⟩)
  · refine mem_a hp (fun q => ?_) fun q => ?_
    · exact hnew p q
    · exact hnf p q
  · intro h8 fr3 hsu4 hfly
    refine rai e tm T' fr3 h8 hT' (hsu.trans hsu4) ?_ hfly
    exact fresh_via (TI.SameUp.refl _) hF (fun p hp => List.mem_cons_of_mem _ (List.mem_cons_of_mem _ hp)) (fun p hp => ⟨p, hp, rfl⟩) (fun q hq => .inl (List.mem_map_of_mem hq))
theorem raise_plainS {A : Around} {x : Expr} {pos : Pos} {Q : Flow → Shared → Prop} (G : Gd w mean mg mb b) (hh : A.handled = none)
    (h : wpAny (model prg w) A (eval x env) (fun v s₁ => StopAt (∃ e t, v = .ref e ∧ (∀ c o, b.get? c = some o → s₁.heap.get? c = some o) ∧ s₁.heap.get? e = some (made t .none .none false) ∧ E (.ref e) s₁)) E s) :
    wpAny (model prg w) A (exec (.Raise (some x) none pos) env) Q E s := raise_plain G hh h
end
theorem beqS {c d : Nat} {y : Str} (hy : y = S [d]) : (S [c] == y) = decide (c = d) := by
  subst hy
  by_cases h : c = d
  · subst h; simp
  · rw [decide_eq_false h]
    exact beq_eq_false_iff_ne.mpr fun e => h (by simpa using e)
theorem fresh_of {inp lg fr : List (Addr × Obj)} {L : Addr} (hF : ∀ p ∈ lg, p.1 ∈ inp.map (·.1) ∨ (∀ q ∈ inp ++ fr, p.1 ≠ q.1) ∧ p.1 ≠ L) : Fresh inp fr lg := fun p hp => (hF p hp).imp id And.left
theorem lk_put2 (a b : Str) (u v : Value) (l : List (Str × Value)) : (fun y => if y = a then some u else if y = b then some v else lk l y) = lk (putk a u (putk b v l)) := by rw [← lk_put, ← lk_put]
theorem lk_put3 (a b c : Str) (u v x : Value) (l : List (Str × Value)) : (fun y => if y = a then some u else if y = b then some v else if y = c then some x else lk l y) = lk (putk a u (putk b v (putk c x l))) := by rw [← lk_put, ← lk_put, ← lk_put]
theorem lk_put4 (a b c d : Str) (u v x z : Value) (l : List (Str × Value)) : (fun y => if y = a then some u else if y = b then some v else if y = c then some x else if y = d then some z else lk l y) = lk (putk a u (putk b v (putk c x (putk d z l)))) := by rw [← lk_put, ← lk_put, ← lk_put, ← lk_put]

end
section
open PySem PySem.W PyProof.Rows PySem.Calls PySem.Spec
theorem fresh_cons {inp fr fr2 lg : List (Addr × Obj)} {D : Addr} {o : Obj} (hu : TI.SameUp fr fr2) (h : ∀ p ∈ inp ++ fr2, p.1 < D) (hF : Fresh inp fr lg) : Fresh inp fr ((D, o) :: lg) := fun p hp => by
  refine mem_c p hp ?_ fun hp => ?_
  · right
    intro q hq
    refine mem_a hq (fun y => ?_) fun y => ?_
    · exact Ne.symm (Nat.ne_of_lt (h q (List.mem_append_left _ y)))
    · refine X1_1 (TI.SameUp.back hu q y) ?_; intro sl h1
      have := h _ (List.mem_append_right _ h1)
      exact Ne.symm (Nat.ne_of_lt this)
  · exact hF p hp

end
section
open PySem PySem.W PyProof.Rows PySem.Calls PySem.Spec
set_option maxHeartbeats 4000000
variable {w : World} {mean : ExcName → Option Value} {mg mb : Str → Option Value} {b : Heap} {news : List (Addr × Obj)}
noncomputable def untilV (p : Nat → Bool) (x : List Nat) (i c : Nat) (eof : Bool) : Except Str Nat :=
  let j := i + till c x i
  let k := i + ((x.drop i).takeWhile (fun a => !p a)).length
  if j = x.length ∧ eof = true then .error (errS x x.length (Str.empty ++ Str.ofString "Expected " ++ Str.ofString "\"'\"")) else
  if k < j then .error (errS x k (Str.empty ++ Str.ofString "Found invalid character " ++ reprC ((x[k]?).getD 0))) else .ok j
theorem skip_until (G : Gd w mean mg mb b) {x : List Nat} {i c : Nat} {eof : Bool} {cs : List (Nat × Tok)} {t1 t2 t3 : Tok} {T0 : List (Addr × Obj)} (hS : SetAt b 78 cs) (hx : x.length ≤ 24) (hi : i ≤ x.length) (hT : TS T0) (hr : ∀ p ∈ news, p.1 ≠ 148)
    (hbad : ∀ a ∈ x, hasS cs a = true → a = 10 ∨ a = 1) (hc : eof = true → c = 39) :
    JSpec w b none 40 (.ref 118) [.str (S x) t1, .int i t2, .str (S [c]) t3] [(Str.ofString "error_on", .ref 78), (Str.ofString "error_on_eof", .bool eof)] (news ++ T0)
      (fun r lg => ∃ j t, untilV (hasS cs) x i c eof = .ok j ∧ r = .int j t ∧ lg = news ++ T0) (fun msg lg => untilV (hasS cs) x i c eof = .error msg ∧ ∃ T', TS2 T0 T' ∧ lg = news ++ T') := by
  have htl : till c x i ≤ x.length - i := tw_le
  refine X1_1 hT.mem148 ?_; intro o148 h148
  walk_at "J def"
  intro dp un outer L fr s Q Ec hfr F N hsep hdp hun ret rai
  refine let_all ?_
  intro aV eV eX qX
  have X := G.K
  have T := G.T
  replace F : Fr b L s.heap (lk [(Str.ofString "error_on_eof", .bool eof), (Str.ofString "error_on", .ref 78), (Str.ofString "expect", .str (S [c]) t3), (Str.ofString "pos", .int i t2), (Str.ofString "src", .str (S x) t1)]) := F
  refine wpAny_execs_cons ?_
  refine wpAny_mono (Q := fun (f : Flow) (s' : Shared) => StopAt (f = Flow.next ∧ ∃ (j : Nat) (fr' : List (Addr × Obj)) (h' : Heap) (tk : Nat) (tj : Tok), s' = { s with heap := h', toks := tk } ∧ TI.SameUp fr fr' ∧ j = i + till c x i ∧ (¬ (j = x.length ∧ eof = true)) ∧
    Fr b L h' (lk [(Str.ofString "error_on_eof", .bool eof), (Str.ofString "error_on", .ref 78), (Str.ofString "expect", .str (S [c]) t3), (Str.ofString "pos", .int i t2), (Str.ofString "src", .str (S x) t1), (Str.ofString "new_pos", .int j tj)]) ∧ News b L h' ((news ++ T0) ++ fr'))) ?tr ?rest (fun _ _ h => h)
  case tr =>
    k_steps
    · refine catch_newX (x := Str.ofString "ValueError") (X := "ValueError") hfr F N hsep (by assumption) X (topRead_of T) (by k_dflt k_is) PyProof.Rows.Boot.«ValueError» (by decide) PySem.F.isExc_ValueError PySem.F.notTuple_ValueError (by rw [isSubtype_type]; kernel_rfl) ?_
      rename_i hxl _ _ e1 _
      intro h'' fr' o1 hsu hfr' F3 N3 hth hne hsep3
      k_steps
      · refine raise_none G rfl hth ?_
        have hc39 := hc (by assumption)
        subst hc39
        k_steps
        refine repr_K repr39 (by decide) fun t5 tk5 => ?_
        k_steps
        refine StopAt.go ?_
        have hs1 : Sep (((e1, o1) :: news) ++ T0) fr' := sep_cons (sameUp_ne' hsu fun q hq => hne q (List.mem_append_right _ hq)) hsep3
        refine suffixed_err G (news := (e1, o1) :: news) hx (by walk_at "o") (by decide) hT ?_ _ _ _ _ _ _ fr' _ _ _ rfl rfl hfr' (by assumption) (by assumption) hs1 (by show dp + 20 < _; exact dp_lt hdp (by decide)) (by show un + 16 * 20 < _; exact un_lt hun (by decide)) ?_ ?_
        · intro p hp
          refine mem_c p hp ?_ fun hp => ?_
          · exact Ne.symm (hne _ (List.mem_append_left _ (List.mem_append_right _ h148)))
          · exact hr p hp
        · intro v lg fr2 h6 tk6 y0 hsu2 hF F6 N6; refine X4_4 y0 ?_; clear y0; intro e t tm T' z0 hT' z1 hnew; subst z0; subst z1
          have hs6 : Sep _ fr2 := sep_fresh hs1 hF hsu2
          have hsu3 := hsu.trans hsu2
          have hnf : ∀ p ∈ fr2, p.1 ≠ e := fun p hp => Ne.symm (hs6 (e, made t .none .none false) List.mem_cons_self p hp)
          have hne1 : e ≠ e1 := Ne.symm (hnew (e1, o1) (by walk_at "m"))
          have he6 := N6 (e, made t .none .none false) (by walk_at "m")
          refine (Y2 e t ⟨rfl, hne1, he6.2.2, F6.keep, (N6 (e1, o1) (by walk_at "m")).1, he6.1, fun h7 k7 he7 => ?_⟩)
          have F7 := fr_but F6 he6.2.2 (Ne.symm he6.2.1) k7
          have N6' : News b L h6 ((e, made t .none .none false) :: (((t, tup1 (errS x x.length (Str.empty ++ Str.ofString "Expected " ++ Str.ofString "\"'\"")) tm) :: (news ++ T')) ++ fr2)) := news_sub N6 (by intro p hp; (revert p hp; walk_at "s"))
          have N7 : News b L h7 ((e, madeC t (.ref e1)) :: (((t, tup1 (errS x x.length (Str.empty ++ Str.ofString "Expected " ++ Str.ofString "\"'\"")) tm) :: (news ++ T')) ++ fr2)) := news_head N6'
            (fun p hp => by
              simp only [List.mem_append, List.mem_cons, List.cons_append] at hp
              rcases hp with q | (q | q) | q
              · exact hnew p (by simp [q])
              · exact hnew p (by walk_at "m")
              · exact hnew p (by walk_at "m")
              · exact hnf p q) k7 he7
          refine leave_made rfl rfl (hfr.up hsu3) F7 N7 (fun q hq => hs6 q (by (revert q hq; walk_at "s"))) (fun p hp => ?_) rfl rfl rfl rfl ?_
          · refine mem_a hp (fun q => ?_) fun q => ?_
            · exact hnew p (by simp only [List.mem_append, List.mem_cons, List.cons_append] at q ⊢; rcases q with q | q | q <;> simp [q])
            · exact hnf p q
          · intro h8 fr3 hsu4 hfly
            refine rai e _ tm (news ++ T') fr3 h8 _ ⟨?_, T', hT', rfl⟩ (hsu3.trans hsu4) ?_ hfly
            · unfold untilV; rw [if_pos ⟨hxl, by assumption⟩]
            · refine fresh_via hsu hF (fun p hp => List.mem_cons_of_mem _ (List.mem_cons_of_mem _ (List.mem_cons_of_mem _ hp))) (fun p hp => ⟨p, List.mem_cons_of_mem _ hp, rfl⟩) (fun q hq => ?_)
              refine mem_c q hq ?_ fun hq => ?_
              · right; intro p hp; exact Ne.symm (hne p hp)
              · left; exact List.mem_map_of_mem hq
        · rintro _ _ _ _ _ _ _ ⟨⟩
      · rename Fr _ _ _ _ => F4
        rename News _ _ _ _ => N4
        refine StopAt.go ?_
        exact ⟨rfl, (Y5 x.length fr' _ _ _ ⟨rfl, hsu, hxl.symm, by simp_all, fr_put F4, fun p hp => N4 p (List.mem_cons_of_mem _ hp)⟩)⟩
    · rename Fr _ _ _ _ => F4
      rename News _ _ _ _ => N4
      rename _ < x.length => hlt
      refine StopAt.go ?_
      exact ⟨rfl, (Y5 (i + till c x i) fr _ _ _ ⟨rfl, TI.SameUp.refl _, rfl, by exact fun q => Nat.ne_of_lt hlt q.1, fr_put F4, N4⟩)⟩
  case rest =>
    intro f s' y0; refine X0_2 y0 ?_; clear y0; intro z0 z1; subst z0; refine X5_6 z1 ?_; clear z1; intro j fr' h' tk tj z2 hsu z3 hnj F3 N3; subst z2; subst z3
    try dsimp only
    have hjle : i + till c x i ≤ x.length := by exact ar4 hi htl
    have hany : ((x.take (i + till c x i)).drop i).any (hasS cs) = decide (((x.drop i).takeWhile (fun a => !hasS cs a)).length < till c x i) := by
      rw [List.drop_take, Nat.add_sub_cancel_left]
      exact any_take _ _ (by rw [List.length_drop]; lia)
    have hfr' := hfr.up hsu
    have hsep' := hsep.up hsu
    clear F N
    k_steps
    refine meth_isdisjoint (hS.keeps (by rename Fr _ _ _ _ => F'; exact F'.keep)) ?_
    k_steps
    rename Fr _ _ _ _ => F3
    rename News _ _ _ _ => N3
    refine call_isdisjoint rfl (hS.keeps F3.keep) fun h4 tk4 kp4 => ?_
    have F4 := fr_keeps F3 kp4
    have N4 := news_keeps N3 kp4
    clear F3 N3
    cases hb : ((x.take (i + till c x i)).drop i).any (hasS cs)
    · k_steps
      rw [hb] at hany
      have hge := of_decide_eq_false hany.symm
      refine ret _ _ fr' L _ _ _ (Y2 (i + till c x i) _ ⟨?_, rfl, rfl⟩) hsu Fresh.refl F4 N4
      unfold untilV
      rw [if_neg (by walk_at "o"), if_neg (by exact fun q => of_decide_eq_false hany.symm (Nat.lt_of_add_lt_add_left q))]
    · rw [hb] at hany
      have hlt := of_decide_eq_true hany.symm
      k_steps
      refine StopAt.go ?_
      refine While_inv2 (fun n m₁ nx => nx = (news ++ T0) ++ fr' ∧ ∃ (k : Nat) (t : Tok), m₁ = lk [(Str.ofString "error_on_eof", .bool eof), (Str.ofString "error_on", .ref 78), (Str.ofString "expect", .str (S [c]) t3), (Str.ofString "pos", .int k t), (Str.ofString "src", .str (S x) t1), (Str.ofString "new_pos", .int (i + till c x i : Nat) tj)] ∧ i ≤ k ∧ k ≤ i + ((x.drop i).takeWhile (fun a => !hasS cs a)).length ∧ n = 48 - k) F4 N4 ⟨rfl, (Y2 i t2 ⟨rfl, Nat.le_refl _, by lia, rfl⟩)⟩ ?_
      intro n m₁ nx h₁ tk₁ F2 N2 hj; walk_at "q"
      refine X0_2 hj ?_; clear hj; intro z0 z1; subst z0; refine X2_4 z1 ?_; clear z1; intro k t z2 hik hkr z3; subst z2; subst z3
      have hk62 : k < 2 ^ 62 := Nat.lt_of_lt_of_le (ar65 hkr hany hjle) (Nat.le_trans hx (by decide))
      clear F4 N4
      k_steps
      · exfalso
        rename_i hxn _ _ _ _
        rw [List.getElem?_eq_none_iff] at hxn
        exact Nat.not_lt.mpr hxn (ar65 hkr hany hjle)
      · rename_i c' hc'
        refine notin_set (hS.keeps F2.keep) ?_
        cases hp : hasS cs c'
        · k_steps
          rename Fr _ _ _ _ => F5
          rename News _ _ _ _ => N5
          have := tw_go (p := fun a => !hasS cs a) (l := x.drop i) (j := k - i) (by exact Nat.sub_le_iff_le_add'.mpr hkr) (by rw [drop_at hik]; exact hc') (by rw [hp]; rfl)
          exact (Y5 _ _ _ _ _ ⟨rfl, F5, N5, (by exact ar1 (Nat.lt_succ_self k) (Nat.lt_of_lt_of_le (ar65 hkr hany hjle) (Nat.le_trans hx (by decide))) : 48 - (k + 1) < 48 - k), rfl, (Y2 (k + 1) _ ⟨lk_put _ _ _, by lia, by exact ar27 this, rfl⟩)⟩)
        · k_steps
          have hcb := repr_bad (hbad c' (List.mem_of_getElem? hc') hp)
          refine StopAt.go ?_
          refine raise_plainS G rfl ?_
          k_steps
          · exfalso
            rename_i hxn _ _ _ _
            rw [hxn] at hc'; cases hc'
          · rename_i c2 hc2
            have : c2 = c' := by rw [hc'] at hc2; exact (Option.some.inj hc2).symm
            subst this
            refine repr_K hcb.1 (Nat.le_trans hcb.2 (by decide)) fun t5 tk5 => ?_
            k_steps
            refine StopAt.go ?_
            rename Fr _ _ _ _ => F5
            rename News _ _ _ _ => N5
            refine suffixed_err G (news := news) hx (by exact Nat.le_of_lt (Nat.lt_of_lt_of_le (ar65 hkr hany hjle) (Nat.le_trans hx (by decide)))) ?_ hT hr _ _ _ _ _ _ fr' _ _ _ rfl rfl hfr' F5 N5 hsep' (by walk_at "o") (by walk_at "o") ?_ ?_
            · have := hcb.2
              have e1 : (Str.empty ++ Str.ofString "Found invalid character ").length = 24 := by decide
              rw [Str.length_append, e1]; exact Nat.le_trans (Nat.add_le_add_left hcb.2 24) (by decide)
            · intro v lg fr2 h6 tk6 hp6 hsu2 hF F6 N6
              k_steps
              refine StopAt.go ?_
              refine suf_out (env := envOf (Str.ofString "skip_until") (dfn 14).snd.snd L 118 (Value.ref 117)) (s := ⟨h6, s.gens, s.drawn, tk6, s.os⟩) rfl rfl hfr' hsep' hp6 hsu2 hF F6 N6 ?_
              intro e' tm' T'' fr3 h8 hT'' hsu3 hfresh hfly
              refine rai e' _ tm' (news ++ T'') fr3 h8 _ ⟨?_, T'', hT'', rfl⟩ (hsu.trans hsu3) ?_ hfly
              · unfold untilV
                have ek : i + ((x.drop i).takeWhile (fun a => !hasS cs a)).length = k := by
                  have := tw_stop (p := fun a => !hasS cs a) (l := x.drop i) (j := k - i) (by exact Nat.sub_le_iff_le_add'.mpr hkr) (by rw [drop_at hik]; exact hc') (by rw [hp]; rfl)
                  exact (ar28 hik this).symm
                rw [if_neg hnj, ek, if_pos (by exact ek ▸ Nat.add_lt_add_left (of_decide_eq_true hany.symm) i), hc']
                rfl
              · exact fresh_same hsu hfresh
            · rintro _ _ _ _ _ _ _ ⟨⟩

end
section
open PySem PySem.W PyProof.Rows PySem.Calls PySem.Spec
set_option maxHeartbeats 4000000
variable {w : World} {mean : ExcName → Option Value} {mg mb : Str → Option Value} {b : Heap} {news : List (Addr × Obj)}
noncomputable def uniOk (n : Int) : Bool := (decide (0 ≤ n) && decide (n ≤ 55295)) || (decide (57344 ≤ n) && decide (n ≤ 1114111))
theorem is_uni (G : Gd w mean mg mb b) {n : Int} {t1 : Tok} (h0 : 0 ≤ n) (h1 : n < 65536) :
    JSpec w b none 4 (.ref 160) [.int n t1] [] news (fun r lg => r = .bool (uniOk n) ∧ lg = news) (fun _ _ => False) := by
  walk_at "J def"
  intro dp un outer L fr s Q Ec hfr F N hsep hdp hun ret rai
  refine let_all ?_
  intro aV eV eX qX
  have X := G.K
  have T := G.T
  k_steps
  all_goals
    refine ret _ news fr L _ _ _ ⟨?_, rfl⟩ (TI.SameUp.refl _) Fresh.refl F N
    refine congrArg Value.bool ?_
    unfold uniOk
    rw [Bool.eq_iff_iff]
    simp
    try first | exact ⟨fun h => .inr ⟨by assumption, h⟩, fun _ => Int.le_trans (Int.le_of_lt h1) (by decide)⟩ | exact ⟨fun _ => .inl ⟨h0, by assumption⟩, fun _ => by assumption⟩ | exact ⟨fun h => absurd h (by assumption), fun h => h.elim (fun q => absurd q.2 (by assumption)) fun q => q.1⟩ | lia

end
section
open PySem PySem.W PyProof.Rows PySem.Calls PySem.Spec PySem.NumText
noncomputable def hexD (c : Nat) : Nat := if c ≤ 57 then c - 48 else c - 87
noncomputable def numH (h : List Nat) : Nat := h.foldl (fun a c => a * 16 + hexD c) 0
noncomputable def L5 : List Nat := [97, 102, 48, 100, 56]
theorem read_tab : (L5.map fun a => L5.map fun b => L5.map fun c => L5.map fun d => (int_private% "readNumeral") 0 16 [a, b, c, d]) = (L5.map fun a => L5.map fun b => L5.map fun c => L5.map fun d => (int_private% "Numeral.value") (numH [a, b, c, d] : Nat)) := by kernel_rfl
theorem read16 {a b c d : Nat} (ha : a ∈ L5) (hb : b ∈ L5) (hc : c ∈ L5) (hd : d ∈ L5) : (int_private% "readNumeral") 0 16 [a, b, c, d] = (int_private% "Numeral.value") (numH [a, b, c, d] : Nat) :=
  List.map_inj_left.mp (List.map_inj_left.mp (List.map_inj_left.mp (List.map_inj_left.mp read_tab a ha) b hb) c hc) d hd
theorem typeCall_int_2 (a b : Value) : checkTypeCall "int" ⟨[a, b], []⟩ = pure () := by kernel_rfl
theorem newCall_int_2 (a b : Value) : checkBuiltinCall "int.__new__" ⟨[.type "int", a, b], []⟩ = pure () := by kernel_rfl
theorem wp_hex {M : Model} {A : Around} {E : Value → Shared → Prop} {s : Shared} {Q : Value → Shared → Prop} {v : Value} {text : List Nat} {n : Int}
    (hs : (text.takeWhile (· != 0)).length ≤ 640) (hr : (int_private% "readNumeral") 0 16 (text.takeWhile (· != 0)) = (int_private% "Numeral.value") n)
    (ha : ((text.takeWhile (· != 0)).length == text.length) = true) (h : Q (.int n s.toks) { s with toks := s.toks + 1 }) :
    wpAny M A ((int_private% "intFromText") v text 16) Q E s := by
  obtain ⟨hp, g, d, tk, os⟩ := s
  repeat (any_goals (first
    | assumption
    | (with_reducible refine wpAny_ite_true (decide_eq_true hs) ?_)
    | (with_reducible refine wpAny_ite_true (decide_eq_true ha) ?_)
    | wp_step))
  all_goals (try rw [hr])
  all_goals (try dsimp only)
  repeat (any_goals (first
    | assumption
    | (with_reducible refine wpAny_ite_true (decide_eq_true hs) ?_)
    | (with_reducible refine wpAny_ite_true (decide_eq_true ha) ?_)
    | wp_step))
set_option maxHeartbeats 1000000 in
theorem gives_hex {a b c d : Nat} {u v : Tok} (ha : a ∈ L5) (hb : b ∈ L5) (hc : c ∈ L5) (hd : d ∈ L5) : Gives (Builtin.«int.__new__» ⟨[.type "int", .str (S [a, b, c, d]) u, .int 16 v], []⟩) (.int (numH [a, b, c, d] : Nat)) :=
  .of_wp fun M A E s Q h => by
    obtain ⟨hp, g, dr, tk, os⟩ := s
    have f1 := F.conv_sub_int
    have f2 := F.madeHere_int
    have f6 : typeOf (.str (S [a, b, c, d]) u) = pure (.type "str") := rfl
    have hne : ∀ z ∈ L5, (z != 0) = true ∧ (decide (z < 128)) = true := by decide
    have e0 : [a, b, c, d].takeWhile (· != 0) = [a, b, c, d] := by simp [List.takeWhile_cons, (hne a ha).1, (hne b hb).1, (hne c hc).1, (hne d hd).1]
    have e1 : ((S [a, b, c, d]).cps.all (· < 128)) = true := by
      have h1 := (hne a ha).2; have h2 := (hne b hb).2; have h3 := (hne c hc).2; have h4 := (hne d hd).2
      simp only [decide_eq_true_eq] at h1 h2 h3 h4
      simp [h1, h2, h3, h4]
    have hr := read16 ha hb hc hd
    clear ha hb hc hd hne
    repeat (any_goals (first
      | assumption
      | (with_reducible refine wpAny_ite_true e1 ?_)
      | ((with_reducible show wpAny _ _ ((int_private% "intFromText") _ _ _) _ _ _); refine wp_hex (n := (numH [a, b, c, d] : Nat)) (by rw [if_pos e1, e0]; exact (by decide : 4 ≤ 640)) (by rw [if_pos e1, e0]; exact hr) (by rw [if_pos e1, e0]; exact (by decide : (4 == 4) = true)) ?_)
      | wp_step))
    all_goals exact ⟨_, rfl, h⟩
theorem args_oi_3 (a b c : Value) : argsOk "object.__init__" ⟨[a, b, c], []⟩ := by unfold argsOk; kernel_rfl
theorem call_hex {w : World} {A : Around} {E : Value → Shared → Prop} {s : Shared} {Q : Value → Shared → Prop} {a b c d : Nat} {u v : Tok} (ha : a ∈ L5) (hb : b ∈ L5) (hc : c ∈ L5) (hd : d ∈ L5) (h : ∀ t' tk, Q (.int (numH [a, b, c, d] : Nat) t') { s with toks := tk }) :
    wpAny (model prg w) A (call (.type "int") [.str (S [a, b, c, d]) u, .int 16 v]) Q E s :=
  callType_new F.called_int F.newNe_int (typeCall_int_2 _ _) (newCall_int_2 _ _) (fun obj => args_oi_3 obj _ _) F.entry_int_new (gives_hex ha hb hc hd).meets (show (Made.int _).post _ s from ⟨rfl, h _ _⟩)
theorem numH_lt {a b c d : Nat} (ha : a ∈ L5) (hb : b ∈ L5) (hc : c ∈ L5) (hd : d ∈ L5) : numH [a, b, c, d] < 65536 := by
  have h5 : ∀ z ∈ L5, hexD z ≤ 15 := by decide
  have h1 := h5 a ha; have h2 := h5 b hb; have h3 := h5 c hc; have h4 := h5 d hd
  show (((0 * 16 + hexD a) * 16 + hexD b) * 16 + hexD c) * 16 + hexD d < 65536
  lia

end
section
open PySem PySem.W PyProof.Rows PySem.Calls PySem.Spec
set_option maxHeartbeats 4000000
variable {w : World} {mean : ExcName → Option Value} {mg mb : Str → Option Value} {b : Heap} {news : List (Addr × Obj)}
noncomputable def hexV (q : Nat → Bool) (x : List Nat) : Except Str Nat :=
  if (x.take 4).length ≠ 4 ∨ (x.take 4).all q = false then .error (errS x 0 (Str.ofString "Invalid hex value")) else
  if uniOk (numH (x.take 4)) = true then .ok (numH (x.take 4)) else .error (errS x 4 (Str.ofString "Escaped character is not a Unicode scalar value"))
theorem parse_hex (G : Gd w mean mg mb b) {x : List Nat} {hs : List (Nat × Tok)} {t1 t2 t3 : Tok} {T0 : List (Addr × Obj)} (hS : SetAt b 88 hs) (hx : x.length ≤ 24) (hT : TS T0) (hr : ∀ p ∈ news, p.1 ≠ 148)
    (hhex : ∀ a ∈ x, hasS hs a = true → a ∈ L5) :
    JSpec w b none 44 (.ref 139) [.str (S x) t1, .int 0 t2, .int 4 t3] [] (news ++ T0)
      (fun r lg => ∃ n ta tb a, hexV (hasS hs) x = .ok n ∧ r = .ref a ∧ lg = (a, { cls := .type "tuple", data := .seq [.int 4 ta, .str (S [n]) tb].toArray }) :: (news ++ T0) ∧ ∀ p ∈ news ++ T0, p.1 ≠ a) (fun msg lg => hexV (hasS hs) x = .error msg ∧ ∃ T', TS2 T0 T' ∧ lg = news ++ T') := by
  walk_at "J def"
  intro dp un outer L fr s Q Ec hfr F N hsep hdp hun ret rai
  refine let_all ?_
  intro aV eV eX qX
  have X := G.K
  have T := G.T
  have hlen : (x.take 4).length ≤ 4 := by rw [List.length_take]; lia
  have hlen' : (List.drop 0 (List.take (0 + 4) x)).length ≤ 4 := hlen
  have h1 : (List.take 4 x).length ≠ 4 → hexV (hasS hs) x = .error (errS x 0 (Str.ofString "Invalid hex value")) := fun h => by unfold hexV; rw [if_pos (.inl h)]
  have h2 : (List.take 4 x).all (hasS hs) = false → hexV (hasS hs) x = .error (errS x 0 (Str.ofString "Invalid hex value")) := fun h => by unfold hexV; rw [if_pos (.inr h)]
  k_steps
  · rename _ ≠ (4 : Int) => hne
    have hne' : (List.take 4 x).length ≠ 4 := fun h => hne (by show (((List.take 4 x).length : Nat) : Int) = 4; rw [h]; rfl)
    clear hne
    refine StopAt.go ?_
    refine raise_plainS G rfl ?_
    k_steps
    refine StopAt.go ?_
    rename Fr _ _ _ _ => F5
    rename News _ _ _ _ => N5
    refine suffixed_err G (news := news) (i := 0) hx (by decide) (by decide) hT hr _ _ _ _ _ _ fr _ _ _ rfl rfl hfr F5 N5 hsep (by walk_at "o") (by walk_at "o") ?_ ?_
    · intro v lg fr2 h6 tk6 hp6 hsu2 hF F6 N6
      k_steps
      refine StopAt.go ?_
      refine suf_out (env := envOf (Str.ofString "parse_hex_char") (dfn 17).snd.snd L 139 (.ref 138)) (s := ⟨h6, s.gens, s.drawn, tk6, s.os⟩) rfl rfl hfr hsep hp6 hsu2 hF F6 N6 ?_
      intro e' tm' T'' fr3 h8 hT'' hsu3 hfresh hfly
      exact rai e' _ tm' (news ++ T'') fr3 h8 _ ⟨h1 hne', T'', hT'', rfl⟩ hsu3 hfresh hfly
    · rintro _ _ _ _ _ _ _ ⟨⟩
  · rename _ = (4 : Int) => heq
    have heq' : (List.take 4 x).length = 4 := by have h : (((List.take 4 x).length : Nat) : Int) = 4 := heq; lia
    refine meth_issuperset (hS.keeps (by rename Fr _ _ _ _ => F'; exact F'.keep)) ?_
    k_steps
    rename Fr _ _ _ _ => F3
    rename News _ _ _ _ => N3
    refine call_issuperset rfl (hS.keeps F3.keep) fun h4 tk4 kp4 => ?_
    have F4 := fr_keeps F3 kp4
    have N4 := news_keeps N3 kp4
    clear F3 N3
    obtain ⟨a, b', c, d, hx4⟩ : ∃ a b c d, List.take 4 x = [a, b, c, d] := by
      match hq : List.take 4 x, heq' with
      | [a, b, c, d], _ => exact ⟨a, b, c, d, rfl⟩
    have hx4' : List.drop 0 (List.take (0 + 4) x) = [a, b', c, d] := hx4
    rw [hx4']
    cases hb : [a, b', c, d].all (hasS hs)
    · k_steps
      refine StopAt.go ?_
      refine raise_plainS G rfl ?_
      k_steps
      refine StopAt.go ?_
      rename Fr _ _ _ _ => F5
      rename News _ _ _ _ => N5
      refine suffixed_err G (news := news) (i := 0) hx (by decide) (by decide) hT hr _ _ _ _ _ _ fr _ _ _ rfl rfl hfr F5 N5 hsep (by walk_at "o") (by walk_at "o") ?_ ?_
      · intro v lg fr2 h6 tk6 hp6 hsu2 hF F6 N6
        k_steps
        refine StopAt.go ?_
        refine suf_out (env := envOf (Str.ofString "parse_hex_char") (dfn 17).snd.snd L 139 (.ref 138)) (s := ⟨h6, s.gens, s.drawn, tk6, s.os⟩) rfl rfl hfr hsep hp6 hsu2 hF F6 N6 ?_
        intro e' tm' T'' fr3 h8 hT'' hsu3 hfresh hfly
        exact rai e' _ tm' (news ++ T'') fr3 h8 _ ⟨h2 (by rw [hx4]; exact hb), T'', hT'', rfl⟩ hsu3 hfresh hfly
      · rintro _ _ _ _ _ _ _ ⟨⟩
    · have hin : ∀ z ∈ [a, b', c, d], z ∈ L5 := fun z hz => hhex z (List.take_subset 4 x (by rw [hx4]; exact hz)) (List.all_eq_true.mp hb z hz)
      have ia := hin a (by simp)
      have ib := hin b' (by simp)
      have ic := hin c (by simp)
      have id' := hin d (by simp)
      have hlt := numH_lt ia ib ic id'
      have hn0 : (0 : Int) ≤ (numH [a, b', c, d] : Nat) := Int.natCast_nonneg _
      have hn1 : ((numH [a, b', c, d] : Nat) : Int) < 65536 := by lia
      have hv : hexV (hasS hs) x = if uniOk (numH [a, b', c, d] : Nat) = true then .ok (numH [a, b', c, d]) else .error (errS x 4 (Str.ofString "Escaped character is not a Unicode scalar value")) := by
        unfold hexV; rw [if_neg (by rw [hx4, hb]; simp), hx4]
      k_steps
      rw [hx4']
      refine call_hex ia ib ic id' fun t5 tk5 => ?_
      k_steps
      refine StopAt.go ?_
      rename Fr _ _ _ _ => F5
      rename News _ _ _ _ => N5
      refine is_uni G (n := (numH [a, b', c, d] : Nat)) hn0 hn1 _ _ _ _ _ _ fr _ _ _ rfl rfl hfr F5 N5 hsep (by walk_at "o") (by walk_at "o") ?_ ?_
      · intro v lg fr2 h6 tk6 y0 hsu hF F6 N6; refine X0_2 y0 ?_; clear y0; intro z0 z1; subst z0; subst z1
        have hfr2 := hfr.up hsu
        have hsep2 := hsep.up hsu
        clear F5 N5
        cases hu : uniOk (numH [a, b', c, d] : Nat)
        · k_steps
          refine StopAt.go ?_
          refine raise_plainS G rfl ?_
          k_steps
          refine StopAt.go ?_
          rename Fr _ _ _ _ => F5
          rename News _ _ _ _ => N5
          refine suffixed_err G (news := news) (i := 4) hx (by decide) (by decide) hT hr _ _ _ _ _ _ fr2 _ _ _ rfl rfl hfr2 F5 N5 hsep2 (by walk_at "o") (by walk_at "o") ?_ ?_
          · intro v lg fr3 h6 tk6 hp6 hsu2 hF F6 N6
            k_steps
            refine StopAt.go ?_
            refine suf_out (env := envOf (Str.ofString "parse_hex_char") (dfn 17).snd.snd L 139 (.ref 138)) (s := ⟨h6, s.gens, s.drawn, tk6, s.os⟩) rfl rfl hfr2 hsep2 hp6 hsu2 hF F6 N6 ?_
            intro e' tm' T'' fr4 h8 hT'' hsu3 hfresh hfly
            exact rai e' _ tm' (news ++ T'') fr4 h8 _ ⟨by rw [hv, if_neg (by rw [hu]; simp)], T'', hT'', rfl⟩ (hsu.trans hsu3) (fresh_same hsu hfresh) hfly
          · rintro _ _ _ _ _ _ _ ⟨⟩
        · k_steps
          rename Fr _ _ _ _ => F7
          rename News _ _ _ _ => N7
          rename ∀ p ∈ news ++ T0 ++ fr2, _ => l1
          exact ret _ _ fr2 L _ _ _ ⟨numH [a, b', c, d], _, _, _, by rw [hv, if_pos hu], rfl, rfl, fun p hp => Nat.ne_of_lt (l1 p (List.mem_append_left _ hp))⟩ hsu (fresh_cons hsu l1 Fresh.refl) F7 N7
      · rintro _ _ _ _ _ _ _ ⟨⟩

end
section
open PySem PySem.W PyProof.Rows PySem.Calls PySem.Spec
set_option maxHeartbeats 4000000
variable {w : World} {mean : ExcName → Option Value} {mg mb : Str → Option Value} {b : Heap} {news : List (Addr × Obj)}
theorem parse_literal (G : Gd w mean mg mb b) {x : List Nat} {cs : List (Nat × Tok)} {t1 t2 : Tok} {T0 : List (Addr × Obj)} (hS : SetAt b 78 cs) (hx : x.length ≤ 24) (hi : 1 ≤ x.length) (hT : TS T0) (hr : ∀ p ∈ news, p.1 ≠ 148)
    (hbad : ∀ a ∈ x, hasS cs a = true → a = 10 ∨ a = 1) :
    JSpec w b none 44 (.ref 146) [.str (S x) t1, .int 0 t2] [] (news ++ T0)
      (fun r lg => ∃ j ta tb a, untilV (hasS cs) x 1 39 true = .ok j ∧ r = .ref a ∧ lg = (a, { cls := .type "tuple", data := .seq [.int (j + 1 : Nat) ta, .str (S ((x.take j).drop 1)) tb].toArray }) :: (news ++ T0) ∧ ∀ p ∈ news ++ T0, p.1 ≠ a) (fun msg lg => untilV (hasS cs) x 1 39 true = .error msg ∧ ∃ T', TS2 T0 T' ∧ lg = news ++ T') := by
  walk_at "J def"
  intro dp un outer L fr s Q Ec hfr F N hsep hdp hun ret rai
  refine let_all ?_
  intro aV eV eX qX
  have X := G.K
  have T := G.T
  k_steps
  refine StopAt.go ?_
  rename Fr _ _ _ _ => F4
  rename News _ _ _ _ => N4
  refine skip_until G (i := 1) (c := 39) (eof := true) hS hx hi hT hr hbad (fun _ => rfl) _ _ _ _ _ _ fr _ _ _ rfl rfl hfr F4 N4 hsep (by walk_at "o") (by walk_at "o") ?_ ?_
  · intro v lg fr2 h6 tk6 y0 hsu hF F6 N6; refine X2_3 y0 ?_; clear y0; intro j t hj z0 z1; subst z0; subst z1
    have hfr2 := hfr.up hsu
    have hsep2 := hsep.up hsu
    clear F4 N4
    k_steps
    rename Fr _ _ _ _ => F7
    rename News _ _ _ _ => N7
    rename ∀ p ∈ news ++ T0 ++ fr2, _ => l1
    exact ret _ _ fr2 L _ _ _ (Y4 j _ _ _ ⟨hj, rfl, rfl, fun p hp => Nat.ne_of_lt (l1 p (List.mem_append_left _ hp))⟩) hsu (fresh_cons hsu l1 Fresh.refl) F7 N7
  · intro e msg tm lg fr2 h6 tk6 y0 hsu hF hfly; refine X0_2 y0 ?_; clear y0; intro hj z0; refine X1_2 z0 ?_; clear z0; intro T' hT' z1; subst z1
    refine leave_fly (s := ⟨_, _, _, _, _⟩) rfl hfly fun h7 fr3 hsu3 hfb => ?_
    exact rai e msg tm _ fr3 h7 _ ⟨hj, T', hT', rfl⟩ (hsu.trans hsu3) (fresh_of hF) hfb

end
section
open PySem PySem.W PyProof.Rows PySem.Calls PySem.Spec
set_option maxHeartbeats 4000000
variable {w : World} {mean : ExcName → Option Value} {mg mb : Str → Option Value} {b : Heap} {news : List (Addr × Obj)}
noncomputable def commentV (p : Nat → Bool) (x : List Nat) (i : Nat) : Except Str Nat := if x[i]? = some 35 then untilV p x (i + 1) 10 false else .ok i
theorem skip_comment (G : Gd w mean mg mb b) {x : List Nat} {i : Nat} {cs : List (Nat × Tok)} {t1 t2 : Tok} {T0 : List (Addr × Obj)} (hS : SetAt b 78 cs) (hx : x.length ≤ 24) (hi : i ≤ x.length) (hT : TS T0) (hr : ∀ p ∈ news, p.1 ≠ 148)
    (hbad : ∀ a ∈ x, hasS cs a = true → a = 10 ∨ a = 1) :
    JSpec w b none 44 (.ref 125) [.str (S x) t1, .int i t2] [] (news ++ T0)
      (fun r lg => ∃ j t, commentV (hasS cs) x i = .ok j ∧ r = .int j t ∧ lg = news ++ T0) (fun msg lg => commentV (hasS cs) x i = .error msg ∧ ∃ T', TS2 T0 T' ∧ lg = news ++ T') := by
  walk_at "J def"
  intro dp un outer L fr s Q Ec hfr F N hsep hdp hun ret rai
  refine let_all ?_
  intro aV eV eX qX
  have X := G.K
  have T := G.T
  k_steps
  · rename_i hxn h' tk' e' x'
    refine catch_new (x := Str.ofString "IndexError") (X := "IndexError") hfr F N hsep x' X (topRead_of T) (by k_dflt k_is) PyProof.Rows.Boot.«IndexError» (by decide) PySem.F.isExc_IndexError PySem.F.notTuple_IndexError (by rw [isSubtype_type]; kernel_rfl) ?_
    intro h'' fr' hsu hfr' F3 N3 hsep3
    k_steps
    rename Fr _ _ _ _ => F4
    rename News _ _ _ _ => N4
    exact ret _ (news ++ T0) fr' L _ _ _ (Y2 i t2 ⟨by unfold commentV; rw [if_neg (by rw [hxn]; simp)], rfl, rfl⟩) hsu Fresh.refl F4 N4
  · rename_i c' hc'
    k_steps
    · rename Fr _ _ _ _ => F4
      rename News _ _ _ _ => N4
      rename (S [_] == Str.ofString "#") = true => he
      rename x[i]? = some _ => hx35
      have he' := (beqS (d := 35) (y := Str.ofString "#") rfl).symm.trans he
      rw [of_decide_eq_true he'] at hx35
      have hlt : i < x.length := (List.getElem?_eq_some_iff.mp hx35).1
      have hcv : commentV (hasS cs) x i = untilV (hasS cs) x (i + 1) 10 false := by unfold commentV; rw [if_pos hx35]
      refine StopAt.go ?_
      refine skip_until G (i := i + 1) (c := 10) (eof := false) hS hx hlt hT hr hbad (fun h => nomatch h) _ _ _ _ _ _ fr _ _ _ rfl rfl hfr F4 N4 hsep (by walk_at "o") (by walk_at "o") ?_ ?_
      · intro v lg fr2 h6 tk6 y0 hsu hF F6 N6; refine X2_3 y0 ?_; clear y0; intro j t hj z0 z1; subst z0; subst z1
        exact ret _ (news ++ T0) fr2 L _ _ _ (Y2 j t ⟨by rw [hcv]; exact hj, rfl, rfl⟩) hsu Fresh.refl F6 N6
      · intro e msg tm lg fr2 h6 tk6 y0 hsu hF hfly; refine X0_2 y0 ?_; clear y0; intro hj z0; refine X1_2 z0 ?_; clear z0; intro T' hT' z1; subst z1
        refine leave_fly (s := ⟨_, _, _, _, _⟩) rfl hfly fun h7 fr3 hsu3 hfb => ?_
        exact rai e msg tm _ fr3 h7 _ ⟨by rw [hcv]; exact hj, T', hT', rfl⟩ (hsu.trans hsu3) (fresh_of hF) hfb
  rename Fr _ _ _ _ => F4
  rename News _ _ _ _ => N4
  rename x[i]? = some _ => hx35
  rename (S [_] == Str.ofString "#") = false => he
  have he' := (beqS (d := 35) (y := Str.ofString "#") rfl).symm.trans he
  exact ret _ (news ++ T0) fr L _ _ _ (Y2 i t2 ⟨by unfold commentV; rw [if_neg (fun h => of_decide_eq_false he' (by rw [hx35] at h; exact Option.some.inj h))], rfl, rfl⟩) (TI.SameUp.refl _) Fresh.refl F4 N4

end
section
open PySem PySem.W PyProof.Rows PySem.Calls PySem.Spec
set_option maxHeartbeats 4000000
variable {w : World} {mean : ExcName → Option Value} {mg mb : Str → Option Value} {b : Heap} {news : List (Addr × Obj)}
theorem skip_chars (G : Gd w mean mg mb b) {x : List Nat} {i : Nat} {v : Value} {p : Nat → Bool} {t1 t2 : Tok} (hm : MemOf w v p b) (hx : x.length ≤ 24) (hi : i ≤ 24) :
    JSpec w b none 9 (.ref 111) [.str (S x) t1, .int i t2, v] [] news (fun r lg => (∃ t, r = .int (i + ((x.drop i).takeWhile p).length : Nat) t) ∧ lg = news) (fun _ _ => False) := by
  have hle : ((x.drop i).takeWhile p).length ≤ x.length - i := tw_le
  walk_at "J def"
  intro dp un outer L fr s Q Ec hfr F N hsep hdp hun ret rai
  refine let_all ?_
  intro aV eV eX qX
  have X := G.K
  have T := G.T
  k_steps
  refine StopAt.go ?_
  refine While_inv2 (fun n m₁ nx => nx = news ++ fr ∧ ∃ (k : Nat) (t : Tok), m₁ = lk [(Str.ofString "chars", v), (Str.ofString "pos", .int k t), (Str.ofString "src", .str (S x) t1)] ∧ i ≤ k ∧ k ≤ i + ((x.drop i).takeWhile p).length ∧ n = 48 - k) F N ⟨rfl, (Y2 i t2 ⟨rfl, Nat.le_refl _, by lia, rfl⟩)⟩ ?_
  intro n m₁ nx h₁ tk₁ F2 N2 hj; walk_at "q"
  refine X0_2 hj ?_; clear hj; intro z0 z1; subst z0; refine X2_4 z1 ?_; clear z1; intro k t z2 hik hkr z3; subst z2; subst z3
  clear F N
  have hk62 : k < 2 ^ 62 := ar25 hi hle hx hkr
  k_steps
  · rename_i hxn h' tk' e' x'
    refine catch_new (x := Str.ofString "IndexError") (X := "IndexError") hfr F2 N2 hsep x' X (topRead_of T) (by k_dflt k_is) PyProof.Rows.Boot.«IndexError» (by decide) PySem.F.isExc_IndexError PySem.F.notTuple_IndexError (by rw [isSubtype_type]; kernel_rfl) ?_
    intro h'' fr' hsu hfr' F3 N3 hsep3
    k_steps
    have e : k = i + ((x.drop i).takeWhile p).length := by
      rw [List.getElem?_eq_none_iff] at hxn
      exact ar26 hle hik hkr hxn
    exact ret _ news fr' L _ _ _ ⟨⟨t, by rw [← e]⟩, rfl⟩ hsu Fresh.refl F3 N3
  · rename_i c' hc'
    refine hm _ _ _ _ _ _ rfl F2.keep ?_
    intro tk
    cases hp : p c'
    · k_steps
      have e : k = i + ((x.drop i).takeWhile p).length := by
        have := tw_stop (l := x.drop i) (j := k - i) (by exact Nat.sub_le_iff_le_add'.mpr hkr) (by rw [drop_at hik]; exact hc') hp
        exact ar28 hik this
      exact ret _ news fr L _ _ _ ⟨⟨t, by rw [← e]⟩, rfl⟩ (TI.SameUp.refl _) Fresh.refl F2 N2
    · k_steps
      rename Fr _ _ _ _ => F3
      rename News _ _ _ _ => N3
      have := tw_go (l := x.drop i) (j := k - i) (by exact Nat.sub_le_iff_le_add'.mpr hkr) (by rw [drop_at hik]; exact hc') hp
      exact (Y5 _ _ _ _ _ ⟨rfl, F3, N3, (by exact ar1 (Nat.lt_succ_self k) (Nat.lt_of_lt_of_le (ar24 this hle) (Nat.le_trans hx (by decide))) : 48 - (k + 1) < 48 - k), rfl, (Y2 (k + 1) _ ⟨lk_put _ _ _, by lia, by exact ar27 this, rfl⟩)⟩)

end
section
open PySem PySem.W PyProof.Rows PySem.Calls PySem.Spec
set_option maxHeartbeats 4000000
variable {w : World} {mean : ExcName → Option Value} {mg mb : Str → Option Value} {b : Heap} {news : List (Addr × Obj)}
theorem untilV_le {p : Nat → Bool} {x : List Nat} {i c : Nat} {eof : Bool} {k : Nat} (hi : i ≤ x.length) (h : untilV p x i c eof = .ok k) : i ≤ k ∧ k ≤ x.length := by
  have htl : till c x i ≤ x.length - i := tw_le
  unfold untilV at h
  dsimp only at h
  split at h
  · cases h
  · split at h
    · cases h
    · cases h; exact ⟨Nat.le_add_right _ _, ar4 hi htl⟩
theorem commentV_le {p : Nat → Bool} {x : List Nat} {i : Nat} {k : Nat} (hi : i ≤ x.length) (h : commentV p x i = .ok k) : i ≤ k ∧ k ≤ x.length := by
  unfold commentV at h
  split at h
  · rename_i hx
    have hlt : i < x.length := (List.getElem?_eq_some_iff.mp hx).1
    have := untilV_le (by walk_at "o") h
    exact ⟨Nat.le_of_succ_le this.1, this.2⟩
  · cases h; exact ⟨Nat.le_refl _, hi⟩
noncomputable def gapV (p q : Nat → Bool) (x : List Nat) : Nat → Nat → Except Str Nat
  | 0, i => .ok i
  | f + 1, i => match commentV p x (i + ((x.drop i).takeWhile q).length) with
    | .error m => .error m
    | .ok k => if k = i then .ok i else gapV p q x f k
theorem gap_ok {p q : Nat → Bool} {x : List Nat} {g k j : Nat} (h : commentV p x (k + ((x.drop k).takeWhile q).length) = .ok j) : gapV p q x (g + 1) k = if j = k then .ok k else gapV p q x g j := by
  simp only [gapV, h]
theorem gap_err {p q : Nat → Bool} {x : List Nat} {g k : Nat} {m : Str} (h : commentV p x (k + ((x.drop k).takeWhile q).length) = .error m) : gapV p q x (g + 1) k = .error m := by
  simp only [gapV, h]
theorem skip_gap (G : Gd w mean mg mb b) {x : List Nat} {i : Nat} {cs ds : List (Nat × Tok)} {t1 t2 : Tok} {T0 : List (Addr × Obj)} (hS : SetAt b 78 cs) (hW : SetAt b 87 ds) (hx : x.length ≤ 24) (hi : i ≤ x.length) (hT : TS T0) (hr : ∀ p ∈ news, p.1 ≠ 148)
    (hbad : ∀ a ∈ x, hasS cs a = true → a = 10 ∨ a = 1) :
    JSpec w b none 48 (.ref 132) [.str (S x) t1, .int i t2] [] (news ++ T0)
      (fun r lg => ∃ j t, gapV (hasS cs) (hasS ds) x 48 i = .ok j ∧ r = .int j t ∧ lg = news ++ T0) (fun msg lg => gapV (hasS cs) (hasS ds) x 48 i = .error msg ∧ ∃ T', TS2 T0 T' ∧ lg = news ++ T') := by
  walk_at "J def"
  intro dp un outer L fr s Q Ec hfr F N hsep hdp hun ret rai
  refine let_all ?_
  intro aV eV eX qX
  have X := G.K
  have T := G.T
  replace F : Fr b L s.heap (lk [(Str.ofString "pos", .int i t2), (Str.ofString "src", .str (S x) t1)]) := F
  refine wpAny_execs_cons ?_
  refine While_inv2 (fun n m₁ nx => ∃ fr', nx = (news ++ T0) ++ fr' ∧ TI.SameUp fr fr' ∧ ∃ (k g : Nat) (t : Tok), (m₁ = lk [(Str.ofString "pos", .int k t), (Str.ofString "src", .str (S x) t1)] ∨ ∃ v, m₁ = lk [(Str.ofString "pos", .int k t), (Str.ofString "src", .str (S x) t1), (Str.ofString "pos_before_skip", v)]) ∧ i ≤ k ∧ k ≤ x.length ∧ gapV (hasS cs) (hasS ds) x g k = gapV (hasS cs) (hasS ds) x 48 i ∧ x.length - k < g ∧ n = 48 - k) F N ⟨fr, rfl, TI.SameUp.refl _, (Y3 i 48 t2 ⟨.inl rfl, Nat.le_refl _, hi, rfl, by exact ar50 hx, rfl⟩)⟩ ?_
  intro n m₁ nx h₁ tk₁ F2 N2 hj; walk_at "q"
  refine X1_3 hj ?_; clear hj; intro fr' z0 hsu z1; subst z0; refine X3_6 z1 ?_; clear z1; intro k g t hm₁ hik hkx hg hlg z2; subst z2
  clear F N
  have hfr' := hfr.up hsu
  have hsep' := hsep.up hsu
  have hk48 : k ≤ 24 := by lia
  have htw : ((x.drop k).takeWhile (hasS ds)).length ≤ x.length - k := tw_le
  rcases hm₁ with rfl | ⟨u, rfl⟩
  all_goals
    k_steps
    refine StopAt.go ?_
    rename Fr _ _ _ _ => F3
    rename News _ _ _ _ => N3
    refine skip_chars G (news := news ++ T0) (v := .ref 87) (memOf_set hW) hx (by walk_at "o") _ _ _ _ _ _ fr' _ _ _ rfl rfl hfr' F3 N3 hsep' (by walk_at "o") (by walk_at "o") ?_ ?_
    · intro v lg fr2 h6 tk6 y0 hsu2 hF F6 N6; refine X0_2 y0 ?_; clear y0; intro z0 z2; refine X1_1 z0 ?_; clear z0; intro t6 z1; subst z1; subst z2
      clear F3 N3
      have hfr2 := hfr'.up hsu2
      have hsep2 := hsep'.up hsu2
      have hj24 : k + ((x.drop k).takeWhile (hasS ds)).length ≤ x.length := by exact ar4 hkx htw
      k_steps
      refine StopAt.go ?_
      rename Fr _ _ _ _ => F7
      rename News _ _ _ _ => N7
      refine skip_comment G (i := k + ((x.drop k).takeWhile (hasS ds)).length) hS hx hj24 hT hr hbad _ _ _ _ _ _ fr2 _ _ _ rfl rfl hfr2 F7 N7 hsep2 (by walk_at "o") (by walk_at "o") ?_ ?_
      · intro v lg fr3 h8 tk8 y0 hsu3 hF3 F8 N8; refine X2_3 y0 ?_; clear y0; intro j t8 hcv z0 z1; subst z0; subst z1
        clear F7 N7
        have hcl := commentV_le hj24 hcv
        have hj48 : j ≤ 24 := by exact Nat.le_trans hcl.2 hx
        have hsu4 := (hsu.trans hsu2).trans hsu3
        obtain ⟨g', rfl⟩ : ∃ g', g = g' + 1 := ⟨g - 1, by exact ar49 hlg⟩
        have hgs := gap_ok (g := g') hcv
        k_steps
        · rename Fr _ _ _ _ => F9
          rename News _ _ _ _ => N9
          rename (j : Int) = (k : Int) => he
          have hjk : j = k := by lia
          refine ret _ (news ++ T0) fr3 L _ _ _ (Y2 j t8 ⟨?_, rfl, rfl⟩) hsu4 Fresh.refl F9 N9
          rw [← hg, hgs, if_pos hjk, hjk]
        · rename Fr _ _ _ _ => F9
          rename News _ _ _ _ => N9
          have hjk : j ≠ k := by lia
          exact (Y5 _ _ _ _ _ ⟨rfl, F9, N9, (by exact ar46 (ar47 hcl.1 (by assumption)) (Nat.lt_of_lt_of_le (ar47 hcl.1 (by assumption)) hcl.2) hx : 48 - j < 48 - k), fr3, rfl, hsu4, (Y3 j g' _ ⟨.inr ⟨_, lk_put3 _ _ _ _ _ _ _⟩, by exact Nat.le_trans hik (Nat.le_trans (Nat.le_add_right _ _) hcl.1), by exact hcl.2, by rw [← hg, hgs, if_neg hjk], by exact ar48 hlg (ar47 hcl.1 (by assumption)) hcl.2, rfl⟩)⟩)
      · intro e msg tm lg fr3 h8 tk8 y0 hsu3 hF3 hfly; refine X0_2 y0 ?_; clear y0; intro hcv z0; refine X1_2 z0 ?_; clear z0; intro T' hT' z1; subst z1
        obtain ⟨g', rfl⟩ : ∃ g', g = g' + 1 := ⟨g - 1, by exact ar49 hlg⟩
        refine leave_fly (s := ⟨_, _, _, _, _⟩) rfl hfly fun h9 fr4 hsu4 hfb => ?_
        refine rai e msg tm _ fr4 h9 _ ⟨?_, T', hT', rfl⟩ (((hsu.trans hsu2).trans hsu3).trans hsu4) (fresh_same (hsu.trans hsu2) (fresh_of hF3)) hfb
        rw [← hg, gap_err hcv]
    · rintro _ _ _ _ _ _ _ ⟨⟩

end
section
open PySem PySem.W PyProof.Rows PySem.Calls PySem.Spec
set_option maxHeartbeats 4000000
variable {w : World} {mean : ExcName → Option Value} {mg mb : Str → Option Value} {b : Heap} {news : List (Addr × Obj)}
structure ZSets (b : Heap) where
  c78 : List (Nat × Tok)
  c79 : List (Nat × Tok)
  c87 : List (Nat × Tok)
  c88 : List (Nat × Tok)
  s78 : SetAt b 78 c78
  s79 : SetAt b 79 c79
  s87 : SetAt b 87 c87
  s88 : SetAt b 88 c88
noncomputable def signs13 : List Nat := [97, 102, 48, 100, 56, 32, 9, 10, 35, 39, 1, 45]
structure ZSets.Ok {b : Heap} (Z : ZSets b) : Prop where
  h78 : ∀ a ∈ signs13, hasS Z.c78 a = (a == 10 || a == 1)
  h79 : ∀ a ∈ signs13, hasS Z.c79 a = (a == 32 || a == 9)
  h87 : ∀ a ∈ signs13, hasS Z.c87 a = (a == 32 || a == 9 || a == 10)
  h88 : ∀ a ∈ signs13, hasS Z.c88 a = inL5 a
noncomputable def ofN : Except Str Nat → Except Str Ans
  | .ok n => .ok (.int n)
  | .error m => .error m
noncomputable def readV {b : Heap} (Z : ZSets b) (k : Nat) (x : List Nat) : Except Str Ans :=
  if k = 0 then .ok (.int (x.takeWhile (hasS Z.c79)).length) else
  if k = 5 then .ok (.int (x.takeWhile (fun c => inL5 c)).length) else
  if k = 1 then ofN (commentV (hasS Z.c78) x 0) else
  if k = 2 then ofN (gapV (hasS Z.c78) (hasS Z.c87) x 48 0) else
  if k = 4 then (match hexV (hasS Z.c88) x with | .ok n => .ok (.tup 4 [n]) | .error m => .error m) else
  if x[0]? = some 39 then (match untilV (hasS Z.c78) x 1 39 true with | .ok j => .ok (.tup (j + 1) ((x.take j).drop 1)) | .error m => .error m) else .ok (.int 0)
theorem law_read (G : Gd w mean mg mb b) (Z : ZSets b) (ZK : Z.Ok) {x : List Nat} {k : Nat} {t1 t2 : Tok} {T0 : List (Addr × Obj)} (hk : k < 6) (hx : x.length ≤ 24) (h1 : 1 ≤ x.length) (hx13 : ∀ a ∈ x, a ∈ signs13) (hT : TS T0) (hr : ∀ p ∈ news, p.1 ≠ 148) :
    JSpec w b none 52 (.ref 193) [.str (kindS k) t1, .str (S x) t2] [] (news ++ T0)
      (fun r lg => ∃ ans, readV Z k x = .ok ans ∧ IsAns ans r lg (news ++ T0)) (fun msg lg => readV Z k x = .error msg ∧ ∃ T', TS2 T0 T' ∧ lg = news ++ T') := by
  walk_at "J def"
  intro dp un outer L fr s Q Ec hfr F N hsep hdp hun ret rai
  refine let_all ?_
  intro aV eV eX qX
  have X := G.K
  have T := G.T
  have hbad : ∀ a ∈ x, hasS Z.c78 a = true → a = 10 ∨ a = 1 := fun a ha h => by rw [ZK.h78 a (hx13 a ha)] at h; simpa using h
  have hhex : ∀ a ∈ x, hasS Z.c88 a = true → a ∈ L5 := fun a ha h => by rw [ZK.h88 a (hx13 a ha)] at h; simpa [inL5, L5] using h
  have six : k = 0 ∨ k = 1 ∨ k = 2 ∨ k = 3 ∨ k = 4 ∨ k = 5 := by lia
  rcases six with rfl | rfl | rfl | rfl | rfl | rfl
  · k_steps
    refine StopAt.go ?_
    refine skip_chars G (i := 0) (news := news ++ T0) (v := .ref 79) (memOf_set Z.s79) hx (by decide) _ _ _ _ _ _ fr _ _ _ rfl rfl hfr (by assumption) (by assumption) hsep (by walk_at "o") (by walk_at "o") ?_ ?_
    · intro v lg fr2 h6 tk6 y0 hsu hF F6 N6; refine X0_2 y0 ?_; clear y0; intro z0 z2; refine X1_1 z0 ?_; clear z0; intro t z1; subst z1; subst z2
      exact ret _ _ fr2 L _ _ _ ⟨.int _, by unfold readV; simp, ⟨t, rfl⟩, rfl⟩ hsu Fresh.refl F6 N6
    · rintro _ _ _ _ _ _ _ ⟨⟩
  · k_steps
    refine StopAt.go ?_
    refine skip_comment G (i := 0) Z.s78 hx (Nat.zero_le _) hT hr hbad _ _ _ _ _ _ fr _ _ _ rfl rfl hfr (by assumption) (by assumption) hsep (by walk_at "o") (by walk_at "o") ?_ ?_
    · intro v lg fr2 h6 tk6 y0 hsu hF F6 N6; refine X2_3 y0 ?_; clear y0; intro j t hj z0 z1; subst z0; subst z1
      exact ret _ _ fr2 L _ _ _ ⟨.int j, by unfold readV; simp [hj, ofN], ⟨t, rfl⟩, rfl⟩ hsu Fresh.refl F6 N6
    · intro e msg tm lg fr2 h6 tk6 y0 hsu hF hfly; refine X0_2 y0 ?_; clear y0; intro hj z0; refine X1_2 z0 ?_; clear z0; intro T' hT' z1; subst z1
      refine leave_fly (s := ⟨_, _, _, _, _⟩) rfl hfly fun h7 fr3 hsu3 hfb => ?_
      exact rai e msg tm _ fr3 h7 _ ⟨by unfold readV; simp [hj, ofN], T', hT', rfl⟩ (hsu.trans hsu3) (fresh_of hF) hfb
  · k_steps
    refine StopAt.go ?_
    refine skip_gap G (i := 0) Z.s78 Z.s87 hx (Nat.zero_le _) hT hr hbad _ _ _ _ _ _ fr _ _ _ rfl rfl hfr (by assumption) (by assumption) hsep (by walk_at "o") (by walk_at "o") ?_ ?_
    · intro v lg fr2 h6 tk6 y0 hsu hF F6 N6; refine X2_3 y0 ?_; clear y0; intro j t hj z0 z1; subst z0; subst z1
      exact ret _ _ fr2 L _ _ _ ⟨.int j, by unfold readV; simp [hj, ofN], ⟨t, rfl⟩, rfl⟩ hsu Fresh.refl F6 N6
    · intro e msg tm lg fr2 h6 tk6 y0 hsu hF hfly; refine X0_2 y0 ?_; clear y0; intro hj z0; refine X1_2 z0 ?_; clear z0; intro T' hT' z1; subst z1
      refine leave_fly (s := ⟨_, _, _, _, _⟩) rfl hfly fun h7 fr3 hsu3 hfb => ?_
      exact rai e msg tm _ fr3 h7 _ ⟨by unfold readV; simp [hj, ofN], T', hT', rfl⟩ (hsu.trans hsu3) (fresh_of hF) hfb
  · obtain ⟨c0, hx0⟩ : ∃ c0, x[0]? = some c0 := ⟨x[0], List.getElem?_eq_getElem (by walk_at "o")⟩
    have hi0 : Txt.item (S x) 0 = S [c0] := item_S_eq (k := 0) hx0
    k_steps
    · rename (Txt.item (S x) 0 == Str.ofString "'") = true => he
      rw [hi0] at he
      have he' := (beqS (d := 39) (y := Str.ofString "'") rfl).symm.trans he
      rw [of_decide_eq_true he'] at hx0
      refine StopAt.go ?_
      refine parse_literal G Z.s78 hx h1 hT hr hbad _ _ _ _ _ _ fr _ _ _ rfl rfl hfr (by assumption) (by assumption) hsep (by walk_at "o") (by walk_at "o") ?_ ?_
      · intro v lg fr2 h6 tk6 y0 hsu hF F6 N6; refine X4_4 y0 ?_; clear y0; intro j ta tb a hj z0 z1 hne; subst z0; subst z1
        exact ret _ _ fr2 L _ _ _ ⟨.tup (j + 1) ((x.take j).drop 1), by unfold readV; simp [hx0, hj], a, ta, tb, rfl, rfl, hne⟩ hsu (fresh_of hF) F6 N6
      · intro e msg tm lg fr2 h6 tk6 y0 hsu hF hfly; refine X0_2 y0 ?_; clear y0; intro hj z0; refine X1_2 z0 ?_; clear z0; intro T' hT' z1; subst z1
        refine leave_fly (s := ⟨_, _, _, _, _⟩) rfl hfly fun h7 fr3 hsu3 hfb => ?_
        exact rai e msg tm _ fr3 h7 _ ⟨by unfold readV; simp [hx0, hj], T', hT', rfl⟩ (hsu.trans hsu3) (fresh_of hF) hfb
    · rename (Txt.item (S x) 0 == Str.ofString "'") = false => he
      rw [hi0] at he
      have he' := (beqS (d := 39) (y := Str.ofString "'") rfl).symm.trans he
      have hne := of_decide_eq_false he'
      refine ret _ _ fr L _ _ _ ⟨.int 0, ?_, ⟨_, rfl⟩, rfl⟩ (TI.SameUp.refl _) Fresh.refl (by assumption) (by assumption)
      unfold readV
      simp [hx0, hne]
  · k_steps
    refine StopAt.go ?_
    refine parse_hex G Z.s88 hx hT hr hhex _ _ _ _ _ _ fr _ _ _ rfl rfl hfr (by assumption) (by assumption) hsep (by walk_at "o") (by walk_at "o") ?_ ?_
    · intro v lg fr2 h6 tk6 y0 hsu hF F6 N6; refine X4_4 y0 ?_; clear y0; intro n ta tb a hj z0 z1 hne; subst z0; subst z1
      exact ret _ _ fr2 L _ _ _ ⟨.tup 4 [n], by unfold readV; simp [hj], a, ta, tb, rfl, rfl, hne⟩ hsu (fresh_of hF) F6 N6
    · intro e msg tm lg fr2 h6 tk6 y0 hsu hF hfly; refine X0_2 y0 ?_; clear y0; intro hj z0; refine X1_2 z0 ?_; clear z0; intro T' hT' z1; subst z1
      refine leave_fly (s := ⟨_, _, _, _, _⟩) rfl hfly fun h7 fr3 hsu3 hfb => ?_
      exact rai e msg tm _ fr3 h7 _ ⟨by unfold readV; simp [hj], T', hT', rfl⟩ (hsu.trans hsu3) (fresh_of hF) hfb
  · k_steps
    refine StopAt.go ?_
    refine skip_chars G (i := 0) (news := news ++ T0) (v := .str (S [97, 102, 48, 100, 56]) _) (memOf_str) hx (by decide) _ _ _ _ _ _ fr _ _ _ rfl rfl hfr (by assumption) (by assumption) hsep (by walk_at "o") (by walk_at "o") ?_ ?_
    · intro v lg fr2 h6 tk6 y0 hsu hF F6 N6; refine X0_2 y0 ?_; clear y0; intro z0 z2; refine X1_1 z0 ?_; clear z0; intro t z1; subst z1; subst z2
      exact ret _ _ fr2 L _ _ _ ⟨.int _, by have h : readV Z 5 x = .ok (.int (x.takeWhile (fun c => inL5 c)).length) := rfl; rw [h, List.drop_zero, Nat.zero_add]; rfl, ⟨t, rfl⟩, rfl⟩ hsu Fresh.refl F6 N6
    · rintro _ _ _ _ _ _ _ ⟨⟩

end
section
open PySem PySem.W PyProof.Rows PySem.Calls PySem.Spec
set_option maxHeartbeats 4000000
variable {w : World} {mean : ExcName → Option Value} {mg mb : Str → Option Value} {b : Heap} {news : List (Addr × Obj)}
theorem size_str (G : Gd w mean mg mb b) {hd : Option Value} {y : Str} {t1 : Tok} :
    JSpec w b hd 4 (.ref 200) [.str y t1] [] news (fun r lg => (∃ t, r = .int 0 t) ∧ lg = news) (fun _ _ => False) := by
  walk_at "J def"
  intro dp un outer L fr s Q Ec hfr F N hsep hdp hun ret rai
  refine let_all ?_
  intro aV eV eX qX
  have X := G.K
  have T := G.T
  k_steps
  exact ret _ _ fr L _ _ _ ⟨⟨_, rfl⟩, rfl⟩ (TI.SameUp.refl _) Fresh.refl F N
theorem size_int (G : Gd w mean mg mb b) {hd : Option Value} {n : Nat} {t1 : Tok} :
    JSpec w b hd 4 (.ref 200) [.int n t1] [] news (fun r lg => (∃ t, r = .int n t) ∧ lg = news) (fun _ _ => False) := by
  walk_at "J def"
  intro dp un outer L fr s Q Ec hfr F N hsep hdp hun ret rai
  refine let_all ?_
  intro aV eV eX qX
  have X := G.K
  have T := G.T
  k_steps
  exact ret _ _ fr L _ _ _ ⟨⟨_, rfl⟩, rfl⟩ (TI.SameUp.refl _) Fresh.refl F N
theorem size_tup (G : Gd w mean mg mb b) {hd : Option Value} {n : Nat} {y : List Nat} {a : Addr} {ta tb : Tok} (ha : (a, tup2 n y ta tb) ∈ news) :
    JSpec w b hd 4 (.ref 200) [.ref a] [] news (fun r lg => (∃ t, r = .int n t) ∧ lg = news) (fun _ _ => False) := by
  walk_at "J def"
  intro dp un outer L fr s Q Ec hfr F N hsep hdp hun ret rai
  refine let_all ?_
  intro aV eV eX qX
  have X := G.K
  have T := G.T
  have ha' := N (a, tup2 n y ta tb) (List.mem_append_left _ ha)
  k_steps
  exact ret _ _ fr L _ _ _ ⟨⟨_, rfl⟩, rfl⟩ (TI.SameUp.refl _) Fresh.refl F N

end
section
open PySem PySem.W PyProof.Rows PySem.Calls PySem.Spec
noncomputable def StepJ (b : Heap) (L I : Addr) (own : List (Addr × Obj)) (Jn : (Str → Option Value) → List (Addr × Obj) → Prop) (s₀ : Shared) (Q : Flow → Shared → Prop) (f : Flow) (s₂ : Shared) : Prop :=
  match f with
  | .ret v => Q (.ret v) s₂
  | .brk => Q .next s₂
  | _ => ∃ h' tk m₂ news₂, s₂ = { s₀ with heap := h', toks := tk } ∧ Fr b L h' m₂ ∧ News b L h' (own ++ news₂) ∧ (∀ p ∈ news₂, p.1 ≠ I) ∧ Jn m₂ news₂
section
variable {w : World} {A : Around} {s : Shared} {env : Env} {h₀ : Heap} {L : Addr}
theorem forLoop_J {R : Result → Shared → Prop} {Q : Flow → Shared → Prop} {x : Str} {px : Pos} {body : List Stmt} {I : Addr} {fp : List Addr} {n : Nat} {P : Nat → Value → Prop} {St : Nat → Heap → Prop} {m : Str → Option Value}
    {news : List (Addr × Obj)} (W : Walks prg w A I fp [I] n P St) (hx : env.kindOf x = some .local)
    (hp : (env.scope.kind == .class || (env.scope.kind == .module && env.locals != env.globals)) = false)
    (hLf : env.locals ∉ fp) (hI : h₀.get? I = none) (hnw : ∀ p ∈ news, p.1 ≠ I)
    (hst : St 0 s.heap) (F : Fr h₀ env.locals s.heap m) (N : News h₀ env.locals s.heap news)
    (J : Nat → (Str → Option Value) → List (Addr × Obj) → Prop) (h0 : J 0 m news)
    (step : ∀ i v m₁ news₁ h₁ tk₁ own, i < n → P i v → J i m₁ news₁ → (∀ p ∈ news₁, p.1 ≠ I) → (∀ p ∈ own, p.1 ∈ fp) → (∀ b ∈ fp, h₀.get? b = none → ∀ o, h₁.get? b = some o → (b, o) ∈ own) → St (i + 1) h₁ →
      Fr h₀ env.locals h₁ (fun y => if y = x then some v else m₁ y) → News h₀ env.locals h₁ (own ++ news₁) →
      wpAny (model prg w) A (execs body env) (StepJ h₀ env.locals I own (J (i + 1)) s Q) (notedBy (model prg w) A env fun e s' => R (.error e) s') { s with heap := h₁, toks := tk₁ })
    (hQ : ∀ f s', Q f s' → R (.ok f) s')
    (hR : ∀ h' tk m' news', Fr h₀ env.locals h' m' → News h₀ env.locals h' news' → (∀ p ∈ news', p.1 ≠ I) → J n m' news' → Q .next { s with heap := h', toks := tk }) :
    codeAny (model prg w) A (.forLoop (.Name x px) (.ref I) body [] env) R s := by
  have hLw : env.locals ∉ [I] := fun h => hLf (W.sub _ h)
  have hwr : ∀ b ∈ [I], h₀.get? b = none := fun b hb => by rw [List.mem_singleton.mp hb]; exact hI
  have old : ∀ b o, h₀.get? b = some o → b ∉ [I] := fun b o e hb => by rw [hwr b hb] at e; cases e
  refine codeAny_forLoop
    (fun k s' => ∃ h' tk m' news' i, s' = { s with heap := h', toks := tk } ∧ St i h' ∧ Fr h₀ env.locals h' m' ∧ News h₀ env.locals h' news' ∧ (∀ p ∈ news', p.1 ≠ I) ∧ J i m' news' ∧ i ≤ n ∧ k = n + 1 - i) ?_ (n + 1)
    (Y5 s.heap s.toks m news 0 ⟨rfl, hst, F, N, hnw, h0, Nat.zero_le _, rfl⟩)
  intro k s' y0; refine X5_8 y0 ?_; clear y0; intro h' tk m' news' i z0 hst' F' N' hnw' hJ hi z1; subst z0; subst z1
  have next : ∀ h₁ : Heap, (∀ b o, b ∉ [I] → h'.get? b = some o → h₁.get? b = some o) → Fr h₀ env.locals h₁ m' ∧ News h₀ env.locals h₁ news' := fun h₁ hk₁ =>
    ⟨⟨F'.ns.at' fun o e => hk₁ _ o hLw e, fun b o e => hk₁ b o (old b o e) (F'.keep b o e), F'.above⟩, fun p hp => ⟨hk₁ _ _ (fun z => hnw' p hp (List.mem_singleton.mp z)) (N' p hp).1, (N' p hp).2⟩⟩
  by_cases hlt : i < n
  · refine W.item i _ _ _ hlt hst' fun v h₁ tk₁ hP hst₁ hk₁ => ?_
    refine X0_2 (next h₁ hk₁) ?_; intro F₁ N₁
    refine wpAny_assign_Name (wpAny_storeName_local hx F₁.ns (fun h₂ hn₂ hs₂ => ?_) hp)
    have F₂ := F₁.set hn₂ hs₂
    have Nown : News h₀ env.locals h₂ (ownOf h₀ fp h₂) := news_ownOf hLf
    have hst₂ : St (i + 1) h₂ := W.frame _ _ _ hst₁ fun b hb o e => (hs₂.2 b fun q => hLf (q ▸ hb)).trans e
    have back : ∀ (h₃ : Heap) (m₂) (news₂), Fr h₀ env.locals h₃ m₂ → News h₀ env.locals h₃ (ownOf h₀ fp h₂ ++ news₂) → St (i + 1) h₃ := fun h₃ m₂ news₂ F₃ N₃ => by
      refine W.frame _ _ _ hst₁ fun b hb o e => ?_
      have e₂ : h₂.get? b = some o := (hs₂.2 b fun q => hLf (q ▸ hb)).trans e
      cases hn : h₀.get? b with
      | some o₀ =>
        have : o₀ = o := by have := F₂.keep b o₀ hn; rw [e₂] at this; exact (Option.some.inj this).symm
        exact this ▸ F₃.keep b o₀ hn
      | none => exact (N₃ _ (List.mem_append_left _ (mem_ownOf hb hn e₂))).1
    refine wpAny_mono (step i v m' news' h₂ _ (ownOf h₀ fp h₂) hlt hP hJ hnw' ownOf_sub (fun b hb hn o e => mem_ownOf hb hn e) hst₂ F₂ (Nown.append (N₁.set hs₂))) (fun f s₃ h₃ => ?_) fun _ _ e => e
    cases f with
    | ret v => exact hQ _ _ h₃
    | brk => exact hQ _ _ h₃
    | cont =>
      refine X4_5 h₃ ?_; clear h₃; intro h₃' tk₃ m₂ news₂ z0 F₃ N₃ ha₃ hJ₃; subst z0
      exact ⟨n + 1 - (i + 1), by exact ar1 (Nat.lt_succ_self i) (Nat.lt_succ_of_le hi), (Y5 h₃' tk₃ m₂ news₂ (i + 1) ⟨rfl, back _ _ _ F₃ N₃, F₃, N₃.right, ha₃, hJ₃, hlt, rfl⟩)⟩
    | next =>
      refine X4_5 h₃ ?_; clear h₃; intro h₃' tk₃ m₂ news₂ z0 F₃ N₃ ha₃ hJ₃; subst z0
      exact ⟨n + 1 - (i + 1), by exact ar1 (Nat.lt_succ_self i) (Nat.lt_succ_of_le hi), (Y5 h₃' tk₃ m₂ news₂ (i + 1) ⟨rfl, back _ _ _ F₃ N₃, F₃, N₃.right, ha₃, hJ₃, hlt, rfl⟩)⟩
  · have hin : i = n := by lia
    subst hin
    refine W.done _ _ _ hst' fun h₁ tk₁ hk₁ => wpAny_execs_nil (hQ _ _ ?_)
    refine X0_2 (next h₁ hk₁) ?_; intro F₁ N₁
    exact hR h₁ tk₁ m' news' F₁ N₁ hnw' hJ
noncomputable def LoopAtJ (w : World) (A : Around) (h₀ : Heap) (env : Env) (x : Str) (body : List Stmt) (Q : Flow → Shared → Prop) (E : Value → Shared → Prop) (it : Value) (s₂ : Shared) : Prop :=
  ∃ (I : Addr) (fp : List Addr) (n : Nat) (P : Nat → Value → Prop) (St : Nat → Heap → Prop) (m : Str → Option Value) (news : List (Addr × Obj)) (J : Nat → (Str → Option Value) → List (Addr × Obj) → Prop),
    it = .ref I ∧ Walks prg w A I fp [I] n P St ∧ env.locals ∉ fp ∧ h₀.get? I = none ∧ (∀ p ∈ news, p.1 ≠ I) ∧ St 0 s₂.heap ∧ Fr h₀ env.locals s₂.heap m ∧ News h₀ env.locals s₂.heap news ∧ J 0 m news ∧
    (∀ i v m₁ news₁ h₁ tk₁ own, i < n → P i v → J i m₁ news₁ → (∀ p ∈ news₁, p.1 ≠ I) → (∀ p ∈ own, p.1 ∈ fp) → (∀ b ∈ fp, h₀.get? b = none → ∀ o, h₁.get? b = some o → (b, o) ∈ own) → St (i + 1) h₁ → Fr h₀ env.locals h₁ (fun y => if y = x then some v else m₁ y) → News h₀ env.locals h₁ (own ++ news₁) →
      wpAny (model prg w) A (execs body env) (StepJ h₀ env.locals I own (J (i + 1)) s₂ Q) E { s₂ with heap := h₁, toks := tk₁ }) ∧
    ∀ h' tk m' news', Fr h₀ env.locals h' m' → News h₀ env.locals h' news' → (∀ p ∈ news', p.1 ≠ I) → J n m' news' → Q .next { s₂ with heap := h', toks := tk }
theorem For_J {E : Value → Shared → Prop} {Q : Flow → Shared → Prop} {x : Str} {px pos : Pos} {iter : Expr} {body : List Stmt} (h₀ : Heap) 
    (h : wpAny (model prg w) A (eval iter env) (fun xv s₁ => wpAny (model prg w) A (pyIter xv) (fun it s₂ => StopAt (LoopAtJ w A h₀ env x body Q E it s₂)) E s₁) E s)
    (hx : env.kindOf x = some .local := by rfl)
    (hp : (env.scope.kind == .class || (env.scope.kind == .module && env.locals != env.globals)) = false := by rfl)
    (hs : ∀ x, foldedSetIterable iter env x = pure x := by intro _; rfl)
    (hE : PassesOwn (model prg w) A env E := by passes_own) :
    wpAny (model prg w) A (exec (.For (.Name x px) iter body [] pos) env) Q E s := by
  refine wpAny_For (wpAny_mono h (fun xv s₁ h₁ => wpAny_mono h₁ (fun it s₂ h₂ => ?_) fun _ _ e => e) fun _ _ e => e) hs
  refine X8_11 h₂ ?_; clear h₂; intro I fp n P St m news J z0 W hLf hwr hnw hst F N h0 step hQ; subst z0
  exact forLoop_J (R := fun r s' => match r with | .ok f => Q f s' | .error e => cameBackBy (model prg w) A env E e s') (Q := Q) W hx hp hLf hwr hnw hst F N J h0 (by intros; exact wpAny_passesOwn hE (by apply step <;> assumption)) (fun _ _ h => h) hQ
theorem over_range {E : Value → Shared → Prop} {Q : Flow → Shared → Prop} {x : Str} {body : List Stmt} {r : Addr} {n : Nat} {t u v : Tok} {m : Str → Option Value} {news : List (Addr × Obj)} (hh : A.handled = none)
    (F : Fr h₀ env.locals s.heap m) (N : News h₀ env.locals s.heap news) (hr : IsRange s.heap r 0 n 1 t u v) (hn : n ≤ 1000)
    (J : Nat → (Str → Option Value) → List (Addr × Obj) → Prop) (h0 : J 0 m news)
    (step : ∀ (i : Nat) ti m₁ news₁ h₁ tk₁ I oI, i < n → J i m₁ news₁ → (∀ p ∈ news₁, p.1 ≠ I) → Fr h₀ env.locals h₁ (fun y => if y = x then some (.int i ti) else m₁ y) → News h₀ env.locals h₁ ((I, oI) :: news₁) →
      wpAny (model prg w) A (execs body env) (StepJ h₀ env.locals I [(I, oI)] (J (i + 1)) s Q) E { s with heap := h₁, toks := tk₁ })
    (hQ : ∀ h' tk m' news', Fr h₀ env.locals h' m' → News h₀ env.locals h' news' → J n m' news' → Q .next { s with heap := h', toks := tk }) :
    wpAny (model prg w) A (pyIter (.ref r)) (fun it s₂ => LoopAtJ w A h₀ env x body Q E it s₂) E s := by
  have hsz : Builtin.Range.rangeSize 0 n 1 = n := by
    unfold Builtin.Range.rangeSize
    simp
    try lia
  have hsmall : Builtin.Range.small 0 n 1 = true := by
    unfold Builtin.Range.small
    rw [hsz]
    unfold Builtin.Range.rangeFitsLong
    simp
    try lia
  refine wpAny_pyIter_range hr hsmall ?_
  rw [hsz]
  have hlt : ∀ c o, s.heap.get? c = some o → c ≠ s.heap.objs.size := fun c o e => Nat.ne_of_lt (Heap.lt_size e)
  have hb : h₀.get? s.heap.objs.size = none := by
    cases z : h₀.get? s.heap.objs.size with
    | none => rfl
    | some o => exact absurd rfl (hlt _ _ (F.keep _ _ z))
  have hLI : env.locals ≠ s.heap.objs.size := by
    refine X3_2 F.ns ?_; intro oL es ep hL _
    exact hlt _ _ hL
  have kp : ∀ c o, s.heap.get? c = some o → (s.heap.push { cls := .type "range_iterator", data := .fields #[rawInt 0, rawInt n, rawInt 1] }).get? c = some o := fun c o e => Heap.get?_push_of_some _ e
  refine (Y8 s.heap.objs.size [s.heap.objs.size] n _ _ m news J ⟨rfl, Walks.range hh s.heap.objs.size 0 1 n, fun h => hLI (List.mem_singleton.mp h), hb, fun p hp => hlt _ _ (N p hp).1, ?_, fr_keeps F kp, news_keeps N kp, h0, ?_, fun h' tk m' news' F' N' _ hJ => hQ h' tk m' news' F' N' hJ⟩)
  · have := Heap.get?_push_size s.heap (o := { cls := .type "range_iterator", data := .fields #[rawInt 0, rawInt n, rawInt 1] }) rfl
    simpa using this
  · intro i v m₁ news₁ h₁ tk₁ own hi y0 hJ hnI hown hall hst F₁ N₁; refine X1_1 y0 ?_; clear y0; intro ti z0; subst z0
    obtain ⟨oI, hst', hit⟩ : ∃ oI, h₁.get? s.heap.objs.size = some oI ∧ (s.heap.objs.size, oI) ∈ own := ⟨_, hst, hall _ (List.mem_singleton.mpr rfl) hb _ hst⟩
    have e : (0 + (i : Int) * 1) = (i : Int) := by lia
    rw [e] at F₁
    refine wpAny_mono (step i ti m₁ news₁ h₁ tk₁ s.heap.objs.size oI hi hJ hnI F₁ (fun p hp => ?_)) (fun f s₃ h₃ => ?_) fun _ _ x => x
    · refine mem_c p hp ?_ fun hp => ?_
      · exact N₁ _ (List.mem_append_left _ hit)
      · exact N₁ _ (List.mem_append_right _ hp)
    · have up : ∀ {h' : Heap} {news₂}, News h₀ env.locals h' ((s.heap.objs.size, oI) :: news₂) → News h₀ env.locals h' (own ++ news₂) := fun {h' news₂} N₂ p hp => by
        refine mem_a hp (fun q => ?_) fun q => ?_
        · have ha := List.mem_singleton.mp (hown p q)
          have hpo := (N₁ p (List.mem_append_left _ q)).1
          rw [ha, hst'] at hpo
          have := N₂ _ List.mem_cons_self
          obtain ⟨pa, po⟩ := p
          dsimp only at ha hpo ⊢
          subst ha
          rw [← Option.some.inj hpo]
          exact this
        · exact N₂ p (List.mem_cons_of_mem _ q)
      cases f with
      | ret v => exact h₃
      | brk => exact h₃
      | cont => refine X4_4 h₃ ?_; clear h₃; intro h' tk m₂ news₂ z0 F₂ N₂ r; subst z0; exact (Y4 h' tk m₂ news₂ ⟨rfl, F₂, up N₂, r⟩)
      | next => refine X4_4 h₃ ?_; clear h₃; intro h' tk m₂ news₂ z0 F₂ N₂ r; subst z0; exact (Y4 h' tk m₂ news₂ ⟨rfl, F₂, up N₂, r⟩)
end

end
section
open PySem PySem.W PyProof.Rows PySem.Calls PySem.Spec PySem.StrLaws PySem.Builtin PySem.Builtin.Str
theorem signs_S (l : List Nat) : signs (S l) = l.map (fun c => S [c]) := by
  unfold signs; simp
theorem has_L5 (c : Nat) : (!(occurrences (Str.ofString "af0d8") (S [c]) 0 (Str.ofString "af0d8").length 1).isEmpty) = inL5 c := by
  have h := occ_S1 (x := [97, 102, 48, 100, 56]) (c := c) (i := 0) (Nat.zero_le _)
  have e : Str.ofString "af0d8" = S [97, 102, 48, 100, 56] := by decide
  rw [e, S_len, h]
  unfold inL5
  by_cases hc : c ∈ [97, 102, 48, 100, 56]
  · have h1 := till_lt.mpr hc
    rw [if_pos (by lia)]
    simp only [List.isEmpty_cons, Bool.not_false]
    exact (by simpa using hc : ([97, 102, 48, 100, 56].contains c = true)).symm
  · have h1 : ¬ till c [97, 102, 48, 100, 56] 0 < [97, 102, 48, 100, 56].length := fun h => hc (till_lt.mp h)
    rw [if_neg (by lia)]
    simp only [List.isEmpty_nil, Bool.not_true]
    exact (by simpa using hc : ([97, 102, 48, 100, 56].contains c = false)).symm
theorem all_carried {w : World} {A : Around} {E : Value → Shared → Prop} {s : Shared} {b : Heap} {L D : Addr} {m : Str → Option Value} {news : List (Addr × Obj)} {ys : List Value} {l : List Nat} {Q : Value → Shared → Prop} (hh : A.handled = none) (F : Fr b L s.heap m) (N : News b L s.heap news) (hl : s.heap.IsList D ys.toArray)
    (hc : CarriedAll ys (List.map (fun a => PyData.bool !(occurrences (Str.ofString "af0d8") a 0 (Str.ofString "af0d8").length 1).isEmpty) (List.filter (fun a => true) (signs (S l)))))
    (h : ∀ h' tk, Fr b L h' m → News b L h' news → Q (.bool (l.all inL5)) { s with heap := h', toks := tk }) : wpAny (model prg w) A (call (.builtin "all") [.ref D]) Q E s := by
  refine LSm.all_bools F N hh hl (LSm.BoolsAre.of_carried hc) fun h' tk F' N' => ?_
  have e : (List.map (fun a => !(occurrences (Str.ofString "af0d8") a 0 (Str.ofString "af0d8").length 1).isEmpty) (List.filter (fun a => true) (signs (S l)))).all id = l.all inL5 := by
    rw [signs_S, filter_allG, List.map_map, List.all_map]
    congr 1
    funext c
    exact has_L5 c
  rw [e]
  exact h h' tk F' N'
theorem worth_at {w : World} {A : Around} {E : Value → Shared → Prop} {s : Shared} {Q : Value → Shared → Prop} {value slice : Expr} {D : Addr} {kvs : List (Str × Value)} {y : Str} {t : Tok} {v : Value} (hD : s.heap.DictOf (PySem.strKind prg w) D kvs) (hv : valueAt kvs y = some v)
    (h : ∀ tk, Q v { s with toks := tk })
    (hs : subscripted slice false (.ref D) (.str y t) = operate [.ref D, .str y t] (getItem (.ref D) (.str y t)) := by with_unfolding_all rfl) (hg : ∀ r, letTemporaryGo value (.ref D) r = pure () := by intro _; with_unfolding_all rfl) :
    wpAny (model prg w) A (subscriptTail value slice (.ref D) (.str y t)) Q E s :=
  subscriptTail_builtin hD.typeIs slot_dict_getitem.lookup (wpAny_getItem_of (strKind_is prg w y t) hD.mapOf hv (h _)) hs hg

end
section
open PySem PySem.W PyProof.Rows PySem.Calls PySem.Spec PySem.StrLaws PySem.Builtin PySem.Builtin.Str
noncomputable def splitL (c : Nat) : List Nat → List (List Nat)
  | [] => [[]]
  | a :: r => if a = c then [] :: splitL c r else match splitL c r with
    | [] => [[a]]
    | p :: q => (a :: p) :: q
noncomputable def preL (l : List Nat) : List (List Nat) → List (List Nat)
  | [] => [l]
  | p :: q => (l ++ p) :: q
theorem preL_pre (l m : List Nat) (z : List (List Nat)) : preL l (preL m z) = preL (l ++ m) z := by
  cases z <;> simp [preL]
theorem splitL_ne (c : Nat) (x : List Nat) : ∃ p q, splitL c x = p :: q := by
  cases x with
  | nil => exact ⟨_, _, rfl⟩
  | cons a r =>
    unfold splitL
    split
    · exact ⟨_, _, rfl⟩
    · cases splitL c r <;> exact ⟨_, _, rfl⟩
theorem preL_nil (c : Nat) (x : List Nat) : preL [] (splitL c x) = splitL c x := by
  refine X2_1 (splitL_ne c x) ?_; intro p q e
  rw [e]; rfl
theorem strSub_S (x : List Nat) (i j : Nat) : strSub (S x) i j = S ((x.take j).drop i) := by
  unfold strSub S
  congr 1
  rw [List.extract_toArray]
  congr 1
  rw [List.extract_eq_take_drop, List.drop_take]
theorem parts_S (c : Nat) (x : List Nat) : ∀ (d k a : Nat), k + d = x.length → a ≤ k →
    partsFrom (S x) 1 a ((List.range' k (d + 1)).filter (fun i => decide (i + 1 ≤ x.length) && (x[i]? == some c))) = (preL ((x.take k).drop a) (splitL c (x.drop k))).map S
  | 0, k, a, hk, ha => by
    have e : k = x.length := by lia
    subst e
    have h0 : (List.range' x.length 1).filter (fun i => decide (i + 1 ≤ x.length) && (x[i]? == some c)) = [] := by
      rw [List.filter_eq_nil_iff]
      intro i hi
      rw [List.mem_range'_1] at hi
      simp
      lia
    rw [h0, List.drop_length]
    simp only [partsFrom, splitL, preL, List.append_nil, List.map_cons, List.map_nil]
    rw [S_len, strSub_S]
  | d + 1, k, a, hk, ha => by
    have hlt : k < x.length := by lia
    have hx : x[k]? = some x[k] := List.getElem?_eq_getElem hlt
    rw [List.range'_succ, List.filter_cons, hx, List.drop_eq_getElem_cons hlt]
    by_cases h : x[k] = c
    · rw [if_pos (by simp [h]; lia)]
      simp only [partsFrom]
      rw [parts_S c x d (k + 1) (k + 1) (by lia) (Nat.le_refl _), strSub_S]
      have e : (List.take (k + 1) x).drop (k + 1) = [] := List.drop_eq_nil_of_le (by rw [List.length_take]; lia)
      rw [e, preL_nil]
      simp only [splitL, h, if_true, preL, List.append_nil, List.map_cons]
    · rw [if_neg (by simp [h]), parts_S c x d (k + 1) a (by lia) (by lia)]
      have e : (List.take (k + 1) x).drop a = (List.take k x).drop a ++ [x[k]] := by
        rw [List.take_succ_eq_append_getElem hlt, List.drop_append_of_le_length (by rw [List.length_take]; lia)]
      rw [e, ← preL_pre]
      congr 2
      refine X2_1 (splitL_ne c (x.drop (k + 1))) ?_; intro p q e2
      simp only [splitL, if_neg h, e2]
      rfl
theorem kind_pos (x : Str) : 1 ≤ PySem.Builtin.Str.strKind x := by
  unfold PySem.Builtin.Str.strKind; split <;> try split
  all_goals decide
theorem split_S {c : Nat} (hc : c < 256) (x : List Nat) : Txt.split (S x) (S [c]) = (splitL c x).map S := by
  have hp : partsBetween (S x) (occurrences (S x) (S [c]) 0 (S x).length ((S x).length + 1)) (S [c]).length = (splitL c x).map S := by
    rw [partsBetween_eq, S1_len, S_len, occ_S (by lia)]
    have := parts_S c x x.length 0 0 (by lia) (Nat.le_refl _)
    simp only [List.take_zero, List.drop_nil, List.drop_zero] at this
    rw [preL_nil] at this
    exact this
  have hk : PySem.Builtin.Str.strKind (S [c]) = 1 := by
    unfold PySem.Builtin.Str.strKind S
    simp [hc]
  unfold Txt.split
  have h2 : decide (PySem.Builtin.Str.strKind (S x) < PySem.Builtin.Str.strKind (S [c])) = false := by
    rw [hk]; have := kind_pos (S x); simp; lia
  rw [h2, Bool.or_false]
  by_cases h : x.length = 0
  · have : x = [] := List.length_eq_zero_iff.mp h
    subst this
    simp [S_len, splitL]
  · have h1 : decide ((S x).length < (S [c]).length) = false := decide_eq_false (by show ¬ (x.length < 1); lia)
    rw [h1, if_neg (by simp)]
    split
    · rename_i he
      rw [List.isEmpty_iff] at he
      rw [← hp, he, partsBetween_eq]
      simp only [partsFrom]
      rw [strSub_S, S_len, List.take_length, List.drop_zero]
    · exact hp
theorem lstripC_S (x z : List Nat) : Txt.lstripChars (S x) (S z) = S (x.dropWhile z.contains) := by
  have e0 : (S z).cps.contains = z.contains := by
    funext a
    unfold S
    simp
  have hd : ∀ l : List Nat, l.drop (l.takeWhile z.contains).length = l.dropWhile z.contains := fun l => by
    have := List.takeWhile_append_dropWhile (p := z.contains) (l := l)
    conv => lhs; arg 2; rw [← this]
    rw [List.drop_left]
  unfold Txt.lstripChars Txt.stripBy stripSame PySem.stripped stripHi stripLo
  rw [e0]
  simp only [if_true]
  have e1 : (S x).cps.toList = x := rfl
  simp only [Bool.false_eq_true, if_false, S_len, strSub_S, List.take_length, hd]
  split
  · rename_i h
    have : (List.takeWhile z.contains x).length = 0 := by simpa using h
    have h2 := hd x
    rw [this, List.drop_zero] at h2
    rw [← h2]
  · rfl
section
variable {w : World} {A : Around} {E : Value → Shared → Prop} {s : Shared} {Q : Value → Shared → Prop} {b : Heap} {L : Addr} {m : Str → Option Value} {news : List (Addr × Obj)} {x z : List Nat} {t u : Tok}
theorem lstrip_K {y : Str} (hy : y = S z) (hx : x.length ≤ 1000) (h : ∀ t' tk, Q (.str (S (x.dropWhile z.contains)) t') { s with toks := tk }) : wpAny (model prg w) A (call (.builtin "str.lstrip") [.str (S x) t, .str y u]) Q E s := by
  subst hy
  refine SC.lstripChars (fun t' k => ?_) (by rw [S_len]; exact Nat.le_trans hx (by decide))
  rw [lstripC_S]; exact h t' k
noncomputable def textsV (l : List (List Nat × Tok)) : List Value := l.map fun p => .str (S p.1) p.2
theorem split_K {c : Nat} {y : Str} (hy : y = S [c]) (hc : c < 256) (hx : x.length ≤ 1000) (F : Fr b L s.heap m) (N : News b L s.heap news)
    (h : ∀ D l h' k, l.map (·.1) = splitL c x → Fr b L h' m → News b L h' ((D, listOf (textsV l).toArray 0) :: news) → (∀ p ∈ news, p.1 < D) → Q (.ref D) { s with heap := h', toks := k }) :
    wpAny (model prg w) A (call (.builtin "str.split") [.str (S x) t, .str y u]) Q E s := by
  subst hy
  have hlen : (S x).length = x.length := rfl
  refine KSpl.split1 F N rfl (fun D l h' k e _ F' N' l1 => ?_) (by rw [hlen]; exact Nat.le_trans (Nat.add_le_add_right hx 2) (by decide))
  rw [split_S hc] at e
  obtain ⟨l2, e2, e3⟩ : ∃ l2 : List (List Nat × Tok), l2.map (·.1) = splitL c x ∧ strValues l = textsV l2 := by
    clear N' h F' l1
    rename_i hstr
    clear hstr
    generalize splitL c x = z at e
    induction z generalizing l with
    | nil =>
      have : l = [] := by cases l with | nil => rfl | cons p q => cases e
      subst this
      exact ⟨[], rfl, rfl⟩
    | cons a r ih =>
      cases l with
      | nil => cases e
      | cons p q =>
        obtain ⟨y, ty⟩ := p
        have e1 : y = S a := (List.cons.inj e).1
        refine X1_2 (ih q (List.cons.inj e).2) ?_; intro l2 h1 h2
        refine ⟨(a, ty) :: l2, by rw [List.map_cons, h1], ?_⟩
        subst e1
        show _ :: strValues q = _ :: textsV l2
        rw [h2]
  rw [e3] at N'
  exact h D l2 h' k e2 F' N' l1
end

end
section
open PySem PySem.W PyProof.Rows PySem.Calls PySem.Spec PySem.Builtin PySem.Builtin.Str
theorem lk_many : ∀ (us : List (Str × Value)) (l : List (Str × Value)), us.foldr (fun p f => fun y => if y = p.1 then some p.2 else f y) (lk l) = lk (us.foldr (fun p l => putk p.1 p.2 l) l)
  | [], _ => rfl
  | p :: us, l => by
    show (fun y => if y = p.1 then some p.2 else (us.foldr (fun p f => fun y => if y = p.1 then some p.2 else f y) (lk l)) y) = lk (putk p.1 p.2 (us.foldr (fun p l => putk p.1 p.2 l) l))
    rw [lk_many us l]
    exact lk_put _ _ _
section
variable {w : World} {A : Around} {E : Value → Shared → Prop} {s : Shared} {Q : Value → Shared → Prop} {b : Heap} {L D : Addr} {m : Str → Option Value} {news : List (Addr × Obj)} {ys : List Value} {n : Nat}
theorem isList_mem (N : News b L s.heap news) (hm : (D, listOf ys.toArray n) ∈ news) : s.heap.IsList D ys.toArray := ⟨_, (N _ hm).1, rfl, n, rfl⟩
theorem item_L {k : Nat} {u : Tok} {value slice : Expr} (N : News b L s.heap news) (hm : (D, listOf ys.toArray n) ∈ news) (hk : k < 2 ^ 62) {v : Value} (hv : ys[k]? = some v) (h : Q v s)
    (hs : subscripted slice false (.ref D) (.int k u) = operate [.ref D, .int k u] (getItem (.ref D) (.int k u)) := by with_unfolding_all rfl) :
    wpAny (model prg w) A (subscriptTail value slice (.ref D) (.int k u)) Q E s :=
  tail_any (isList_mem N hm).typeIs slot_list_getitem.lookup (wpAny_getItem_list (isList_mem N hm) (Int.natCast_nonneg _) (by lia) (by simpa using hv) h) hs
theorem len_L (N : News b L s.heap news) (hm : (D, listOf ys.toArray n) ∈ news) (hz : ys.length ≤ 1000) (h : ∀ t' tk, Q (.int (ys.length : Nat) t') { s with toks := tk }) :
    wpAny (model prg w) A (call (.builtin "len") [.ref D]) Q E s := by
  refine len_list (isList_mem N hm) (by rw [List.size_toArray]; lia) ?_
  rw [List.size_toArray]
  exact h _ _
theorem truthy_or {y : Str} {t : Tok} {Q : Bool → Shared → Prop} (hy : y.length ≤ 1000) (h1 : y.length ≠ 0 → ∀ tk, Q true { s with toks := tk }) (h0 : y.length = 0 → ∀ tk, Q false { s with toks := tk }) :
    wpAny (model prg w) A (truthy (.str y t)) Q E s := by
  refine SBL.truthy (by lia) ?_
  by_cases h : y.length = 0
  · have e : ((y.length : Int) != 0) = false := by rw [h]; rfl
    rw [e]; exact h0 h _
  · have e : ((y.length : Int) != 0) = true := by
      have : (y.length : Int) ≠ 0 := by lia
      simpa using this
    rw [e]; exact h1 h _
end

end
section
open PySem PySem.W PyProof.Rows PySem.Calls PySem.Spec
theorem j_defC {w : World} {b : Heap} {hd : Option Value} {news : List (Addr × Obj)} {k : Nat} {mean : ExcName → Option Value} {mg mb : Str → Option Value} {name qual : Str} {params : Arguments} {body : List Stmt} {scope : Scope} {dV kV doc pm cdv ct oc : Value} {an od : Option Addr} {osl : Array (Option Value)} {f : Addr}
    {pos : List Value} {kw : List (Str × Value)} {binds : List (Str × Value)} {post : Value → List (Addr × Obj) → Prop} {exc : Str → List (Addr × Obj) → Prop}
    (G : Gd w mean mg mb b) (hlk : (fragK w.params).lookup f = some ⟨oc, od, .func (fnX name qual params body scope [] dV kV doc pm an cdv ct), osl⟩) (hcd : codeIn (fragK w.params) cdv qual = true)
    (hbind : ∀ s : Shared, BindsTo s (fnX name qual params body scope [] dV kV doc pm an cdv ct) ⟨pos, kw⟩ binds)
    (hkind : ∀ n, ∀ x ∈ binds, scope.names.lookup x.1 = some .local ∨ (scope.names.lookup x.1 = some .cell ∧ ((cellsFrom n scope.names []).lookup x.1).isSome = true))
    (hnd : ((cellsFrom 0 scope.names []).map (·.1)).Nodup)
    (hco : scope.isCoroutine = false) (hgen : scope.isGenerator = false) (hk : scope.kind = .function)
    (h : ∀ (dp un : Nat) (outer : List Env) (L : Addr) (fr cells : List (Addr × Obj)) (s : Shared) (Q Ec : Value → Shared → Prop), TI.Frs outer fr → Fr b L s.heap (bindL (envOfC qual scope L f cdv).kindOf binds fun _ => none) →
      CellsAre (bindC (envOfC qual scope L f cdv).kindOf binds fun _ => none) (cellsFrom (L + 1) scope.names []) cells →
      News b L s.heap ((cells ++ news) ++ fr) → Sep (cells ++ news) fr → (∀ c ∈ cells, ∀ q ∈ news, c.1 ≠ q.1) → dp + k < recursionLimit → un + 16 * k < cLine →
      (∀ v lg fr' L' m' h' tk, post v lg → TI.SameUp fr fr' → Fresh (cells ++ news) fr lg → Fr b L' h' m' → News b L' h' (lg ++ fr') → Q v { s with heap := h', toks := tk }) →
      (∀ e msg tm lg fr' h' tk, exc msg lg → TI.SameUp fr fr' → Fresh (cells ++ news) fr lg → FlyB b outer L lg fr' e (.ref 101) [.str msg tm] h' → Ec (.ref e) { s with heap := h', toks := tk }) →
      wpAny (model prg w) (JA hd dp un (envOfC qual scope L f cdv) outer) (execs body (envOfC qual scope L f cdv)) (fun fl s' => Q (match fl with | .ret v => v | _ => .none) s')
        (fun e s' => wpAny (model prg w) (JA hd dp un (envOfC qual scope L f cdv) outer) (leaving (envOfC qual scope L f cdv) e) (fun _ s'' => Ec e s'') (fun e' s'' => Ec e' s'') s') s) :
    JSpec w b hd (k + 1) (.ref f) pos kw news post exc := by
  intro dp un env outer L m frs s Q E hf hke hfrs F N hsep hdp hun ret rai
  refine wpAny_call ?_
  have kb : ∀ c o, b.get? c = some o → s.heap.get? c = some o := F.keep
  have ho1 := kb _ _ (G.K _ _ hlk)
  have ho2 : s.heap.CodeRec cdv qual := codeRec_of (G.K.keeps kb) hcd
  refine X3_4 F.ns ?_; intro oL es ep hL hLd hLk hLf
  have hLt := Heap.lt_size hL
  have hns' : ∀ (hh : Heap) sl, hh.get? L = some { oL with slots := sl } → hh.Ns L m := fun hh sl e => ⟨_, es, ep, e, hLd, hLk, hLf⟩
  refine codeAny_call_function (show (JA hd dp un env outer).depth < recursionLimit by show dp < recursionLimit; lia) ho1 rfl hco hgen rfl ho2 (hbind _ _ _ _ _ ?_)
  refine wpAny_newFunctionEnv_cells hk (hkind _) fun env' he s' x => ?_
  subst he
  refine ⟨(G.T.nolimit.keeps kb).keeps x.toInCall.keep, codeAny_func ?_⟩
  refine X2_2 x.done ?_; intro h₁ tk z0 _; subst z0
  have hk₁ := x.toInCall.keep
  refine X1_2 (Cl.news (h₀ := s.heap) (Nat.le_refl _) fun n c hm => ⟨x.cell n c (lookup_of_mem_nodup (cellsFrom_names scope.names 0 (s.heap.objs.size + 1) [] [] rfl ▸ hnd) hm), x.above n c hm⟩) ?_; intro cells NC Y
  have F₁ : Fr b s.heap.objs.size h₁ (bindL (envOfC qual scope s.heap.objs.size f cdv).kindOf binds fun _ => none) := ⟨x.toInCall.ns, fun c o e => hk₁ c o (kb c o e), Nat.le_trans F.above (Nat.le_of_lt hLt)⟩
  have cnew : ∀ c ∈ cells, ∀ q o, s.heap.get? q = some o → c.1 ≠ q := fun c hc q o e z => by have := (NC c hc).2.2; rw [z, e] at this; cases this
  have N₁ : News b s.heap.objs.size h₁ ((cells ++ news) ++ ((L, oL) :: frs)) := fun p hp => by
    refine mem_a hp (fun q => ?_) fun q => ?_
    · refine mem_a q (fun q => ?_) fun q => ?_
      · refine ⟨(NC p q).1, (NC p q).2.1, ?_⟩
        cases z : b.get? p.1 with
        | none => rfl
        | some o => have := kb _ _ z; rw [(NC p q).2.2] at this; cases this
      · have z := N p (List.mem_append_left _ q)
        exact ⟨hk₁ _ _ z.1, Nat.ne_of_lt (Heap.lt_size z.1), z.2.2⟩
    · refine mem_c p q ?_ fun q => ?_
      · exact ⟨hk₁ _ _ hL, Nat.ne_of_lt hLt, Heap.get?_none_of_le F.above⟩
      · have z := N p (List.mem_append_right _ q)
        exact ⟨hk₁ _ _ z.1, Nat.ne_of_lt (Heap.lt_size z.1), z.2.2⟩
  have nn : ∀ q ∈ news, q.1 ≠ L := fun q hq => (N q (List.mem_append_left _ hq)).2.1
  have hsep₁ : Sep (cells ++ news) ((L, oL) :: frs) := fun q hq p hp => by
    have pin : s.heap.get? p.1 = some p.2 := by
      refine mem_c p hp ?_ fun hp => ?_
      · exact hL
      · exact (N p (List.mem_append_right _ hp)).1
    refine mem_a hq (fun y => ?_) fun y => ?_
    · exact cnew q y _ _ pin
    · refine mem_c p hp ?_ fun hp => ?_
      · exact nn q y
      · exact hsep q y p hp
  have hcn : ∀ c ∈ cells, ∀ q ∈ news, c.1 ≠ q.1 := fun c hc q hq => cnew c hc _ _ (N q (List.mem_append_left _ hq)).1
  have hfr' : ∀ {lg : List (Addr × Obj)}, Fresh (cells ++ news) ((L, oL) :: frs) lg → Fresh news ((L, oL) :: frs) lg := fun hF p hp => by
    rcases hF p hp with z | z
    · rw [List.map_append] at z
      refine mem_a z (fun z => ?_) fun z => ?_
      · refine X1_2 (List.mem_map.mp z) ?_; intro c hc hce
        right
        intro q hq
        rw [← hce]
        refine mem_a hq (fun y => ?_) fun y => ?_
        · exact hcn c hc q y
        · exact hsep₁ c (List.mem_append_left _ hc) q y
      · exact .inl z
    · exact .inr fun q hq => z q (by
        refine mem_a hq (fun y => ?_) fun y => ?_
        · exact List.mem_append_left _ (List.mem_append_right _ y)
        · exact List.mem_append_right _ y)
  refine wpAny_mono (h (dp + 1) (un + 3) (env :: outer) s.heap.objs.size ((L, oL) :: frs) cells { s with heap := h₁, toks := tk }
    (fun v s' => match (Except.ok (Flow.ret v) : Result) with | .ok (.ret v) => Q v s' | .ok _ => False | .error e => E e s') E (frs_cons hf hke ⟨es, ep, hLd⟩ hfrs) F₁ Y N₁ hsep₁ hcn (by lia) (by lia) ?_ ?_) (fun fl s' hq => ?_) (fun e s' hq => ?_)
  · intro v lg fr' L' m' h' tk hp hsu hfresh F' N'
    refine X1_4 (back_frame F N hns' hsu F'.keep N' (hfr' hfresh)) ?_; intro frs' h1 h0 h2 h3
    exact ret v lg frs' h' tk hp h1 h0 h2 h3
  · intro e msg tm lg fr' h' tk hx hsu hfresh hfly
    obtain ⟨kb', N', B, t, hB, hnB, htB, hfl⟩ := hfly
    refine X1_4 (back_frame F N hns' hsu kb' N' (hfr' hfresh)) ?_; intro frs' h1 h0 h2 h3
    exact rai e msg tm lg frs' h' _ hx h1 h0 ⟨h2, h3, hfrs.up h1, B, t, hB, hnB, htB, hfl⟩
  · exact hq
  · exact hq

end
section
open PySem PySem.W PyProof.Rows PySem.Calls PySem.Spec
noncomputable def JCode (w : World) (b : Heap) (hd : Option Value) (k : Nat) (f : Value) (pos : List Value) (kw : List (Str × Value)) (news : List (Addr × Obj)) (post : Value → List (Addr × Obj) → Prop) (exc : Str → List (Addr × Obj) → Prop) : Prop :=
  ∀ (dp un : Nat) (env : Env) (outer : List Env) (L : Addr) (m : Str → Option Value) (frs : List (Addr × Obj)) (s : Shared) (Q E : Value → Shared → Prop),
    env.frame = some L → env.scope.kind = .function → TI.Frs outer frs → Fr b L s.heap m → News b L s.heap (news ++ frs) → Sep news frs → dp + k < recursionLimit → un + 16 * k < cLine →
    (∀ v lg frs' h' tk, post v lg → TI.SameUp frs frs' → (∀ p ∈ lg, p.1 ∈ news.map (·.1) ∨ (∀ q ∈ news ++ frs, p.1 ≠ q.1) ∧ p.1 ≠ L) → Fr b L h' m → News b L h' (lg ++ frs') → Q v { s with heap := h', toks := tk }) →
    (∀ e msg tm lg frs' h' tk, exc msg lg → TI.SameUp frs frs' → (∀ p ∈ lg, p.1 ∈ news.map (·.1) ∨ (∀ q ∈ news ++ frs, p.1 ≠ q.1) ∧ p.1 ≠ L) → Fly b env outer L m lg frs' e (.ref 101) [.str msg tm] h' → E (.ref e) { s with heap := h', toks := tk }) →
    codeAny (model prg w) (JA hd dp un env outer) (.call f ⟨pos, kw⟩) (fun r s' => match r with | .ok (.ret v) => Q v s' | .ok _ => False | .error e => E e s') s

section
variable {w : World} {b : Heap} {hd : Option Value} {dp un : Nat} {env : Env} {outer : List Env} {L : Addr} {m : Str → Option Value} {news frs : List (Addr × Obj)} {s : Shared}
theorem j_code {k : Nat} {name qual : Str} {params : Arguments} {body : List Stmt} {scope : Scope} {dV kV doc pm cdv ct : Value} {an : Option Addr} {cl : List (Str × Addr)} {fo : Obj} {f : Addr}
    {pos : List Value} {kw : List (Str × Value)} {binds : List (Str × Value)} {post : Value → List (Addr × Obj) → Prop} {exc : Str → List (Addr × Obj) → Prop}
    (hlim : b.NoLimit) (ho : ∀ h : Heap, (∀ c o, b.get? c = some o → h.get? c = some o) → (∀ p ∈ news, h.get? p.1 = some p.2) → h.get? f = some fo ∧ h.CodeRec cdv qual) (hdt : fo.data = .func (fnX name qual params body scope cl dV kV doc pm an cdv ct))
    (hbind : ∀ s : Shared, (∀ c o, b.get? c = some o → s.heap.get? c = some o) → BindsTo s (fnX name qual params body scope cl dV kV doc pm an cdv ct) ⟨pos, kw⟩ binds)
    (hloc : (binds.all fun x => decide (scope.names.lookup x.1 = some .local)) = true) (hcell : ∀ x ∈ scope.names, x.2 ≠ .cell)
    (hco : scope.isCoroutine = false) (hgen : scope.isGenerator = false) (hk : scope.kind = .function)
    (h : ∀ (dp un : Nat) (outer : List Env) (L : Addr) (fr : List (Addr × Obj)) (s : Shared) (Q Ec : Value → Shared → Prop), TI.Frs outer fr → Fr b L s.heap (lk binds.reverse) → News b L s.heap (news ++ fr) → Sep news fr → dp + k < recursionLimit → un + 16 * k < cLine →
      (∀ v lg fr' L' m' h' tk, post v lg → TI.SameUp fr fr' → Fresh news fr lg → Fr b L' h' m' → News b L' h' (lg ++ fr') → Q v { s with heap := h', toks := tk }) →
      (∀ e msg tm lg fr' h' tk, exc msg lg → TI.SameUp fr fr' → Fresh news fr lg → FlyB b outer L lg fr' e (.ref 101) [.str msg tm] h' → Ec (.ref e) { s with heap := h', toks := tk }) →
      wpAny (model prg w) (JA hd dp un (envX qual scope L f cdv cl) outer) (execs body (envX qual scope L f cdv cl)) (fun fl s' => Q (match fl with | .ret v => v | _ => .none) s')
        (fun e s' => wpAny (model prg w) (JA hd dp un (envX qual scope L f cdv cl) outer) (leaving (envX qual scope L f cdv cl) e) (fun _ s'' => Ec e s'') (fun e' s'' => Ec e' s'') s') s) :
    JCode w b hd (k + 1) (.ref f) pos kw news post exc := by
  intro dp un env outer L m frs s Q E hf hke hfrs F N hsep hdp hun ret rai
  have kb : ∀ c o, b.get? c = some o → s.heap.get? c = some o := F.keep
  refine X0_2 (ho s.heap kb fun p hp => (N p (List.mem_append_left _ hp)).1) ?_; intro ho1 ho2
  refine X3_4 F.ns ?_; intro oL es ep hL hLd hLk hLf
  have hLt := Heap.lt_size hL
  refine codeAny_call_def (fd := fnX name qual params body scope cl dV kV doc pm an cdv ct) (body := body) (binds := binds) (by show dp < _; lia) ho1 hdt (hlim.keeps kb) ho2 rfl (hbind s kb) hcell (locs hloc) (fun h₁ hns hk₁ => ?_) hco hgen hk
  have F₁ : Fr b s.heap.objs.size h₁ (lk binds.reverse) := ⟨hns, fun c o e => hk₁ c o (kb c o e), Nat.le_trans F.above (Nat.le_of_lt hLt)⟩
  have N₁ : News b s.heap.objs.size h₁ (news ++ ((L, oL) :: frs)) := fun p hp => by
    refine mem_a hp (fun q => ?_) fun q => ?_
    · have z := N p (List.mem_append_left _ q)
      exact ⟨hk₁ _ _ z.1, Nat.ne_of_lt (Heap.lt_size z.1), z.2.2⟩
    · refine mem_c p q ?_ fun q => ?_
      · exact ⟨hk₁ _ _ hL, Nat.ne_of_lt hLt, Heap.get?_none_of_le F.above⟩
      · have z := N p (List.mem_append_right _ q)
        exact ⟨hk₁ _ _ z.1, Nat.ne_of_lt (Heap.lt_size z.1), z.2.2⟩
  have hns' : ∀ (hh : Heap) sl, hh.get? L = some { oL with slots := sl } → hh.Ns L m := fun hh sl e => ⟨_, es, ep, e, hLd, hLk, hLf⟩
  have nn : ∀ q ∈ news, q.1 ≠ L := fun q hq => (N q (List.mem_append_left _ hq)).2.1
  have hsep₁ : Sep news ((L, oL) :: frs) := fun q hq p hp => by
    refine mem_c p hp ?_ fun hp => ?_
    · exact nn q hq
    · exact hsep q hq p hp
  refine wpAny_mono (h (dp + 1) (un + 3) (env :: outer) s.heap.objs.size ((L, oL) :: frs) { s with heap := h₁, toks := s.toks + binds.length }
    (fun v s' => match (Except.ok (Flow.ret v) : Result) with | .ok (.ret v) => Q v s' | .ok _ => False | .error e => E e s') E (frs_cons hf hke ⟨es, ep, hLd⟩ hfrs) F₁ N₁ hsep₁ (by lia) (by lia) ?_ ?_) (fun fl s' hq => ?_) (fun e s' hq => ?_)
  · intro v lg fr' L' m' h' tk hp hsu hfresh F' N'
    refine X1_4 (back_frame F N hns' hsu F'.keep N' hfresh) ?_; intro frs' h1 h0 h2 h3
    exact ret v lg frs' h' tk hp h1 h0 h2 h3
  · intro e msg tm lg fr' h' tk hx hsu hfresh hfly
    obtain ⟨kb', N', B, t, hB, hnB, htB, hfl⟩ := hfly
    refine X1_4 (back_frame F N hns' hsu kb' N' hfresh) ?_; intro frs' h1 h0 h2 h3
    exact rai e msg tm lg frs' h' _ hx h1 h0 ⟨h2, h3, hfrs.up h1, B, t, hB, hnB, htB, hfl⟩
  · exact hq
  · exact hq
end
theorem j_codeK {w : World} {b : Heap} {hd : Option Value} {news : List (Addr × Obj)} {k : Nat} {mean : ExcName → Option Value} {mg mb : Str → Option Value} {name qual : Str} {params : Arguments} {body : List Stmt} {scope : Scope} {dV kV doc pm cdv ct oc : Value} {an od : Option Addr} {osl : Array (Option Value)} {f : Addr}
    {pos : List Value} {kw : List (Str × Value)} {binds ms : List (Str × Value)} {post : Value → List (Addr × Obj) → Prop} {exc : Str → List (Addr × Obj) → Prop}
    (G : Gd w mean mg mb b) (hlk : (fragK w.params).lookup f = some ⟨oc, od, .func (fnOf name qual params body scope dV kV doc pm an cdv ct), osl⟩) (hcd : codeIn (fragK w.params) cdv qual = true)
    (hbind : ∀ s : Shared, BindsTo s (fnOf name qual params body scope dV kV doc pm an cdv ct) ⟨pos, kw⟩ binds) (hms : binds.reverse = ms)
    (hloc : (binds.all fun x => decide (scope.names.lookup x.1 = some .local)) = true) (hcell : ∀ x ∈ scope.names, x.2 ≠ .cell)
    (hco : scope.isCoroutine = false) (hgen : scope.isGenerator = false) (hk : scope.kind = .function)
    (h : ∀ (dp un : Nat) (outer : List Env) (L : Addr) (fr : List (Addr × Obj)) (s : Shared) (Q Ec : Value → Shared → Prop), TI.Frs outer fr → Fr b L s.heap (lk ms) → News b L s.heap (news ++ fr) → Sep news fr → dp + k < recursionLimit → un + 16 * k < cLine →
      (∀ v lg fr' L' m' h' tk, post v lg → TI.SameUp fr fr' → Fresh news fr lg → Fr b L' h' m' → News b L' h' (lg ++ fr') → Q v { s with heap := h', toks := tk }) →
      (∀ e msg tm lg fr' h' tk, exc msg lg → TI.SameUp fr fr' → Fresh news fr lg → FlyB b outer L lg fr' e (.ref 101) [.str msg tm] h' → Ec (.ref e) { s with heap := h', toks := tk }) →
      wpAny (model prg w) (JA hd dp un (envOf qual scope L f cdv) outer) (execs body (envOf qual scope L f cdv)) (fun fl s' => Q (match fl with | .ret v => v | _ => .none) s')
        (fun e s' => wpAny (model prg w) (JA hd dp un (envOf qual scope L f cdv) outer) (leaving (envOf qual scope L f cdv) e) (fun _ s'' => Ec e s'') (fun e' s'' => Ec e' s'') s') s) :
    JCode w b hd (k + 1) (.ref f) pos kw news post exc := by
  subst hms
  exact j_code (cl := []) G.T.nolimit (fun h hb _ => ⟨hb _ _ (G.K _ _ hlk), codeRec_of (G.K.keeps hb) hcd⟩) rfl (fun s _ => hbind s) hloc hcell hco hgen hk h

end
section
open PySem PySem.W PyProof.Rows PySem.Calls PySem.Spec
section
variable {w : World} {A : Around} {s : Shared} {env : Env} {h₀ : Heap} {L : Addr}
theorem over_list {E : Value → Shared → Prop} {Q : Flow → Shared → Prop} {x : Str} {body : List Stmt} {D : Addr} {ys : List Value} {n : Nat} {m : Str → Option Value} {news : List (Addr × Obj)} (hh : A.handled = none)
    (F : Fr h₀ env.locals s.heap m) (N : News h₀ env.locals s.heap news) (hm : (D, W.listOf ys.toArray n) ∈ news)
    (J : Nat → (Str → Option Value) → List (Addr × Obj) → Prop) (h0 : J 0 m news) (hJm : ∀ i m nx, J i m nx → (D, W.listOf ys.toArray n) ∈ nx)
    (step : ∀ (i : Nat) v m₁ news₁ h₁ tk₁ I oI, (∃ n, oI.data = .fields #[.ref D, .int n 0]) → ys[i]? = some v → J i m₁ news₁ → (∀ p ∈ news₁, p.1 ≠ I) → Fr h₀ env.locals h₁ (fun y => if y = x then some v else m₁ y) → News h₀ env.locals h₁ ((I, oI) :: news₁) →
      wpAny (model prg w) A (execs body env) (StepJ h₀ env.locals I [(I, oI)] (J (i + 1)) s Q) E { s with heap := h₁, toks := tk₁ })
    (hQ : ∀ h' tk m' news', Fr h₀ env.locals h' m' → News h₀ env.locals h' news' → J ys.length m' news' → Q .next { s with heap := h', toks := tk }) :
    wpAny (model prg w) A (pyIter (.ref D)) (fun it s₂ => LoopAtJ w A h₀ env x body Q E it s₂) E s := by
  have hl : s.heap.IsList D ys.toArray := isList_mem N hm
  refine wpAny_pyIter_list hl ?_
  have hlt : ∀ c o, s.heap.get? c = some o → c ≠ s.heap.objs.size := fun c o e => Nat.ne_of_lt (Heap.lt_size e)
  have hb : h₀.get? s.heap.objs.size = none := by
    cases z : h₀.get? s.heap.objs.size with
    | none => rfl
    | some o => exact absurd rfl (hlt _ _ (F.keep _ _ z))
  have hLI : env.locals ≠ s.heap.objs.size := by
    refine X3_2 F.ns ?_; intro oL es ep hL _
    exact hlt _ _ hL
  have hDI : D ≠ s.heap.objs.size := hlt _ _ (N _ hm).1
  have hLD : env.locals ≠ D := Ne.symm (N _ hm).2.1
  have kp : ∀ c o, s.heap.get? c = some o → (s.heap.push { cls := .type "list_iterator", data := .fields #[.ref D, .int 0 0] }).get? c = some o := fun c o e => Heap.get?_push_of_some _ e
  have hsz : ys.toArray.size = ys.length := List.size_toArray
  refine (Y8 s.heap.objs.size [s.heap.objs.size, D] ys.toArray.size (fun i v => ys.toArray[i]? = some v) (fun i h => h.IsListIter s.heap.objs.size D i ∧ h.IsList D ys.toArray) m news J ⟨rfl, Walks.list hh s.heap.objs.size D hDI ys.toArray, fun h => ?_, hb, fun p hp => hlt _ _ (N p hp).1, ⟨⟨_, Heap.get?_push_size _ rfl, rfl, rfl⟩, hl.push _⟩, fr_keeps F kp, news_keeps N kp, h0, ?_, fun h' tk m' news' F' N' _ hJ => hQ h' tk m' news' F' N' (by rw [hsz] at hJ; exact hJ)⟩)
  · refine mem_e h (fun h => ?_) fun h => ?_
    · exact hLI h
    · exact hLD (List.mem_singleton.mp h)
  · rintro i v m₁ news₁ h₁ tk₁ own hi hv hJ hnI hown hall hst F₁ N₁
    obtain ⟨oI, hoI, hdI⟩ : ∃ oI, h₁.get? s.heap.objs.size = some oI ∧ ∃ n, oI.data = .fields #[.ref D, .int n 0] := by refine X1_3 hst.1 ?_; intro o e _ r; exact ⟨o, e, _, r⟩
    have hit : (s.heap.objs.size, oI) ∈ own := hall _ List.mem_cons_self hb _ hoI
    have hv' : ys[i]? = some v := by simpa using hv
    refine wpAny_mono (step i v m₁ news₁ h₁ tk₁ s.heap.objs.size oI hdI hv' hJ hnI F₁ (fun p hp => ?_)) (fun f s₃ h₃ => ?_) fun _ _ x => x
    · refine mem_c p hp ?_ fun hp => ?_
      · exact N₁ _ (List.mem_append_left _ hit)
      · exact N₁ _ (List.mem_append_right _ hp)
    · have hD1 := (N₁ _ (List.mem_append_right _ (hJm _ _ _ hJ))).1
      have up : ∀ {h' : Heap} {m₂ news₂}, J (i + 1) m₂ news₂ → News h₀ env.locals h' ((s.heap.objs.size, oI) :: news₂) → News h₀ env.locals h' (own ++ news₂) := fun {h' m₂ news₂} hJ₂ N₂ p hp => by
        refine mem_a hp (fun q => ?_) fun q => ?_
        · have hpo := (N₁ p (List.mem_append_left _ q)).1
          obtain ⟨pa, po⟩ := p
          refine mem_e ((hown _ q)) (fun ha => ?_) fun ha => ?_
          · dsimp only at ha hpo ⊢
            subst ha
            rw [hoI] at hpo
            rw [← Option.some.inj hpo]
            exact N₂ _ List.mem_cons_self
          · have ha' := List.mem_singleton.mp ha
            dsimp only at ha' hpo ⊢
            subst ha'
            rw [hD1] at hpo
            rw [← Option.some.inj hpo]
            exact N₂ _ (List.mem_cons_of_mem _ (hJm _ _ _ hJ₂))
        · exact N₂ p (List.mem_cons_of_mem _ q)
      cases f with
      | ret v => exact h₃
      | brk => exact h₃
      | cont => refine X4_5 h₃ ?_; clear h₃; intro h' tk m₂ news₂ z0 F₂ N₂ r1 r2; subst z0; exact (Y4 h' tk m₂ news₂ ⟨rfl, F₂, up r2 N₂, r1, r2⟩)
      | next => refine X4_5 h₃ ?_; clear h₃; intro h' tk m₂ news₂ z0 F₂ N₂ r1 r2; subst z0; exact (Y4 h' tk m₂ news₂ ⟨rfl, F₂, up r2 N₂, r1, r2⟩)
end

end
section
open PySem PySem.W PyProof.Rows PySem.Calls PySem.Spec
set_option maxHeartbeats 4000000
variable {w : World} {mean : ExcName → Option Value} {mg mb : Str → Option Value} {b : Heap} {news : List (Addr × Obj)}
theorem tup_out {b h : Heap} {L a : Addr} {n : Nat} {y : List Nat} {ta tb : Tok} {r : List (Addr × Obj)} (N : News b L h ((a, tup2 n y ta tb) :: r)) : ∃ ta tb, News b L h ((a, tup2 n y ta tb) :: r) := (Y2 ta tb N)
noncomputable def fourT (x : List Nat) : Ans :=
  if (x.take 4).length < 4 ∨ (x.take 4).all inL5 = false then .str (Str.ofString "Invalid hex value (at line 1, column 1)") else
  let n := numH (x.take 4)
  if 55296 ≤ n ∧ n ≤ 57343 then .str (Str.ofString "Escaped character is not a Unicode scalar value (at " ++ (if x.length = 4 then Str.ofString "end of document" else Str.ofString "line 1, column 5") ++ Str.ofString ")") else .tup 4 [n]
local macro_rules | `(tactic| walk_at "call builtin:all") => `(tactic| k_dflt (refine stopAt ?_))
local macro_rules | `(tactic| walk_at "subscriptTail Name Subscript ref str") => `(tactic| k_dflt (refine stopAt ?_))
local macro_rules | `(tactic| walk_at "subscriptTail Name Subscript") => `(tactic| k_dflt (refine stopAt ?_))
local macro_rules | `(tactic| walk_at "subscriptTail") => `(tactic| ((show wpAny _ _ (subscriptTail (Expr.Name (Str.ofString "worth") _) _ _ _) _ _ _); (refine stopAt ?_)))
theorem law_four (G : Gd w mean mg mb b) {x : List Nat} {t1 : Tok} (hx : x.length ≤ 24) :
    JSpec w b none 6 (.ref 238) [.str (S x) t1] [] news (fun r lg => IsAns (fourT x) r lg news) (fun _ _ => False) := by
  walk_at "J def"
  intro dp un outer L fr s Q Ec hfr F N hsep hdp hun ret rai
  refine let_all ?_
  intro aV eV eX qX
  have X := G.K
  have T := G.T
  have hlen : (x.take 4).length ≤ 4 := by rw [List.length_take]; exact Nat.min_le_left ..
  replace F : Fr b L s.heap (lk [(Str.ofString "rest", .str (S x) t1)]) := F
  k_steps
  · rename _ < (4 : Int) => hlt
    rename Fr _ _ _ _ => F5
    rename News _ _ _ _ => N5
    have hlt' : (List.take 4 x).length < 4 := by have h : (((List.take 4 x).length : Nat) : Int) < 4 := hlt; exact Int.ofNat_lt.mp h
    have e1 : fourT x = .str (Str.ofString "Invalid hex value (at line 1, column 1)") := by unfold fourT; rw [if_pos (.inl hlt')]
    exact ret _ news fr L _ _ _ (by rw [e1]; exact ⟨⟨_, rfl⟩, rfl⟩) (TI.SameUp.refl _) Fresh.refl F5 N5
  · rename ¬ _ < (4 : Int) => hge
    have hge' : (List.take 4 x).length = 4 := by have h : ¬ (((List.take 4 x).length : Nat) : Int) < 4 := hge; exact Nat.le_antisymm hlen (Nat.le_of_not_lt fun q => h (Int.ofNat_lt.mpr q))
    rename CarriedAll _ _ => hca
    rename Heap.IsList _ _ _ => hls
    rename Fr _ _ _ _ => F5
    rename News _ _ _ _ => N5
    refine StopAt.go ?_
    refine all_carried rfl F5 N5 hls hca fun h6 tk6 F6 N6 => ?_
    obtain ⟨a, b', c, d, hx4⟩ : ∃ a b c d, List.take 4 x = [a, b, c, d] := by
      match hq : List.take 4 x, hge' with
      | [a, b, c, d], _ => exact (Y4 a b c d rfl)
    cases hb : (List.take 4 x).all inL5
    · k_steps
      rename Fr b L h6 _ => F7
      rename News b L h6 (news ++ fr) => N7
      have e1 : fourT x = .str (Str.ofString "Invalid hex value (at line 1, column 1)") := by unfold fourT; rw [if_pos (.inr hb)]
      exact ret _ news fr L _ _ _ (by rw [e1]; exact ⟨⟨_, rfl⟩, rfl⟩) (TI.SameUp.refl _) Fresh.refl F7 N7
    · refine wpAny_truthy_bool ?_
      have hnt : (!true) = true ↔ False := by simp
      refine if_f ?_
      clear hca hls
      refine isTrue_or_nil ?_
      refine if_f ?_
      refine wpAny_execs_nil ?_
      try dsimp only
      refine wpAny_execs_cons ?_
      walk1
      walk1
      iterate 16 (first | (dsimp only; walk1) | walk1)
      try dsimp only
      refine ⟨_, carries_strPairs _ _ _ rfl, ?_⟩
      refine ⟨Heap.DictOf.new _, fun h' hD hSB => ?_⟩
      have kp : ∀ c o, h6.get? c = some o → h'.get? c = some o := fun c o e => hSB.extBut c o (Nat.ne_of_lt (Heap.lt_size e)) (Heap.get?_push_of_some _ e)
      have F8 := fr_keeps F6 kp
      have N8 := news_keeps N6 kp
      have F6' := F6
      have N6' := N6
      clear F5 N5 F6 N6
      have ia : ∀ z ∈ [a, b', c, d], z ∈ L5 := fun z hz => by
        have := List.all_eq_true.mp hb z (by rw [hx4]; exact hz)
        unfold inL5 at this
        simpa [L5] using this
      have hDx : Heap.DictOf (PySem.strKind prg w) h' h6.objs.size [(Str.ofString "0", .int 0 (tk6 + 1)), (Str.ofString "8", .int 8 (tk6 + 1 + 1 + 1)), (Str.ofString "a", .int 10 (tk6 + 1 + 1 + 1 + 1 + 1)), (Str.ofString "d", .int 13 (tk6 + 1 + 1 + 1 + 1 + 1 + 1 + 1)), (Str.ofString "f", .int 15 (tk6 + 1 + 1 + 1 + 1 + 1 + 1 + 1 + 1 + 1))] := by
        exact hD
      clear hD
      obtain ⟨oD, hoD⟩ : ∃ oD, h'.get? h6.objs.size = some oD := by refine X3_2 hDx ?_; clear hDx; intro o _ _ e _; exact ⟨o, e⟩
      have hbD : b.get? h6.objs.size = none := Heap.get?_none_of_le (Nat.le_of_lt (Nat.lt_of_le_of_lt F6'.above F6'.ns.lt))
      have N9 : News b L h' ((h6.objs.size, oD) :: (news ++ fr)) := fun p hp => by
        refine mem_c p hp ?_ fun hp => ?_
        · exact ⟨hoD, Ne.symm (Nat.ne_of_lt F6'.ns.lt), hbD⟩
        · exact N8 p hp
      have dict : ∀ h'' : Heap, h''.get? h6.objs.size = some oD → h''.DictOf (PySem.strKind prg w) h6.objs.size [(Str.ofString "0", .int 0 (tk6 + 1)), (Str.ofString "8", .int 8 (tk6 + 1 + 1 + 1)), (Str.ofString "a", .int 10 (tk6 + 1 + 1 + 1 + 1 + 1)), (Str.ofString "d", .int 13 (tk6 + 1 + 1 + 1 + 1 + 1 + 1 + 1)), (Str.ofString "f", .int 15 (tk6 + 1 + 1 + 1 + 1 + 1 + 1 + 1 + 1 + 1))] := fun h'' e => hDx.at fun o q => by rw [hoD] at q; rw [← Option.some.inj q]; exact e
      clear hDx N8 hSB kp F6' N6'
      iterate 14 (first | (dsimp only; walk1) | walk1)
      have i0 : Txt.item (S (List.take 4 x)) 0 = S [a] := item_S_eq (k := 0) (by rw [hx4]; rfl)
      have i1 : Txt.item (S (List.take 4 x)) 1 = S [b'] := item_S_eq (k := 1) (by rw [hx4]; rfl)
      have i2 : Txt.item (S (List.take 4 x)) 2 = S [c] := item_S_eq (k := 2) (by rw [hx4]; rfl)
      have i3 : Txt.item (S (List.take 4 x)) 3 = S [d] := item_S_eq (k := 3) (by rw [hx4]; rfl)
      have look5 : ∀ z ∈ L5, ∃ tz, valueAt [(Str.ofString "0", Value.int 0 (tk6 + 1)), (Str.ofString "8", .int 8 (tk6 + 1 + 1 + 1)), (Str.ofString "a", .int 10 (tk6 + 1 + 1 + 1 + 1 + 1)), (Str.ofString "d", .int 13 (tk6 + 1 + 1 + 1 + 1 + 1 + 1 + 1)), (Str.ofString "f", .int 15 (tk6 + 1 + 1 + 1 + 1 + 1 + 1 + 1 + 1 + 1))] (S [z]) = some (.int (hexD z : Nat) tz) := by
        intro z hz
        simp only [L5, List.mem_cons, List.not_mem_nil, or_false] at hz
        rcases hz with rfl | rfl | rfl | rfl | rfl <;> exact ⟨_, rfl⟩
      refine X1_1 (look5 a (ia a (by simp))) ?_; intro ta va
      refine X1_1 (look5 b' (ia b' (by simp))) ?_; intro tb vb
      refine X1_1 (look5 c (ia c (by simp))) ?_; intro tc vc
      refine X1_1 (look5 d (ia d (by simp))) ?_; intro td vd
      try dsimp only
      rw [i0]
      refine worth_at (dict _ (by rename News _ _ _ _ => N'; exact (N' _ List.mem_cons_self).1)) va fun tk7 => ?_
      repeat (first | (dsimp only; walk1) | walk1)
      refine StopAt.go ?_
      rw [i1]
      refine worth_at (dict _ (by rename News _ _ _ _ => N'; exact (N' _ List.mem_cons_self).1)) vb fun tk8 => ?_
      repeat (first | (dsimp only; walk1) | walk1)
      refine StopAt.go ?_
      rw [i2]
      refine worth_at (dict _ (by rename News _ _ _ _ => N'; exact (N' _ List.mem_cons_self).1)) vc fun tk9 => ?_
      repeat (first | (dsimp only; walk1) | walk1)
      refine StopAt.go ?_
      rw [i3]
      refine worth_at (dict _ (by rename News _ _ _ _ => N'; exact (N' _ List.mem_cons_self).1)) vd fun tk10 => ?_
      have h4 : ∀ z ∈ L5, hexD z ≤ 15 := by decide
      have ha := h4 a (ia a (by simp))
      have hb' := h4 b' (ia b' (by simp))
      have hc := h4 c (ia c (by simp))
      have hd := h4 d (ia d (by simp))
      have hnum : numH (x.take 4) = hexD a * 4096 + hexD b' * 256 + hexD c * 16 + hexD d := by
        rw [hx4]
        show (((0 * 16 + hexD a) * 16 + hexD b') * 16 + hexD c) * 16 + hexD d = _
        lia
      have f1 : fourT x = if 55296 ≤ numH (x.take 4) ∧ numH (x.take 4) ≤ 57343 then .str (Str.ofString "Escaped character is not a Unicode scalar value (at " ++ (if x.length = 4 then Str.ofString "end of document" else Str.ofString "line 1, column 5") ++ Str.ofString ")") else .tup 4 [numH (x.take 4)] := by
        unfold fourT; rw [if_neg (fun h => h.elim (fun h => by exact absurd (Int.ofNat_lt.mpr h) hge) (fun h => by rw [hb] at h; cases h))]
      repeat' (first | (dsimp only; walk1) | walk1)
      · rename Fr _ _ _ _ => F10
        rename News _ _ _ _ => N10
        exact ret _ news fr L _ _ _ (by rw [f1, if_pos ⟨by exact Int.ofNat_le.mp (Int.le_trans (by assumption) (Int.le_of_eq (ar63 hnum))), by exact Int.ofNat_le.mp (Int.le_trans (Int.le_of_eq (ar63 hnum).symm) (by assumption))⟩, if_pos (by walk_at "o")]; exact ⟨⟨_, rfl⟩, rfl⟩) (TI.SameUp.refl _) Fresh.refl F10 (fun q hq => N10 q (List.mem_cons_of_mem _ hq))
      · rename Fr _ _ _ _ => F10
        rename News _ _ _ _ => N10
        exact ret _ news fr L _ _ _ (by rw [f1, if_pos ⟨by exact Int.ofNat_le.mp (Int.le_trans (by assumption) (Int.le_of_eq (ar63 hnum))), by exact Int.ofNat_le.mp (Int.le_trans (Int.le_of_eq (ar63 hnum).symm) (by assumption))⟩, if_neg (by walk_at "o")]; exact ⟨⟨_, rfl⟩, rfl⟩) (TI.SameUp.refl _) Fresh.refl F10 (fun q hq => N10 q (List.mem_cons_of_mem _ hq))
      all_goals
        rename News b L _ ((h6.objs.size, oD) :: (news ++ fr)) => N10
        rename Fr _ _ _ _ => F11
        rename News _ _ _ _ => N11
        have hfin : fourT x = .tup 4 [(((hexD a : Nat) : Int) * 4096 + ((hexD b' : Nat) : Int) * 256 + ((hexD c : Nat) : Int) * 16 + ((hexD d : Nat) : Int)).toNat] := by
          have e : (((hexD a : Nat) : Int) * 4096 + ((hexD b' : Nat) : Int) * 256 + ((hexD c : Nat) : Int) * 16 + ((hexD d : Nat) : Int)).toNat = numH (x.take 4) := by exact congrArg Int.toNat (ar63 hnum)
          rw [f1, if_neg (by first | exact fun q => absurd (Int.le_trans (Int.ofNat_le.mpr q.1) (Int.le_of_eq (ar63 hnum).symm)) (by assumption) | exact fun q => absurd (Int.le_trans (Int.le_of_eq (ar63 hnum)) (Int.ofNat_le.mpr q.2)) (by assumption)), e]
        refine X2_1 (tup_out (n := 4) (y := [(((hexD a : Nat) : Int) * 4096 + ((hexD b' : Nat) : Int) * 256 + ((hexD c : Nat) : Int) * 16 + ((hexD d : Nat) : Int)).toNat]) N11) ?_; intro ua ub N12
        exact ret _ ((_, tup2 4 [(((hexD a : Nat) : Int) * 4096 + ((hexD b' : Nat) : Int) * 256 + ((hexD c : Nat) : Int) * 16 + ((hexD d : Nat) : Int)).toNat] ua ub) :: news) fr L _ _ _ (by rw [hfin]; exact (Y3 _ ua ub ⟨rfl, rfl, fun p hp => Nat.ne_of_lt (Heap.lt_size (N10 p (List.mem_cons_of_mem _ (List.mem_append_left _ hp))).1)⟩)) (TI.SameUp.refl _) (fresh_cons (TI.SameUp.refl _) (fun p hp => Heap.lt_size (N10 p (List.mem_cons_of_mem _ hp)).1) Fresh.refl) F11 (fun q hq => by
          refine mem_c q hq ?_ fun hq => ?_
          · exact N12 _ List.mem_cons_self
          · exact N12 q (List.mem_cons_of_mem _ (List.mem_cons_of_mem _ hq)))

end
section
open PySem PySem.W PyProof.Rows PySem.Calls PySem.Spec
set_option maxHeartbeats 4000000
variable {w : World} {mean : ExcName → Option Value} {mg mb : Str → Option Value} {b : Heap} {news : List (Addr × Obj)}
noncomputable def ill (c : Nat) : Bool := c == 10 || c == 1
noncomputable def faultV (p : List Nat) (line col : Nat) : Str :=
  let k := (p.takeWhile (fun a => !ill a)).length
  if k < p.length then Str.ofString "Found invalid character " ++ reprC ((p[k]?).getD 0) ++ Str.ofString " (at line " ++ Str.ofString (toString (line : Int)) ++ Str.ofString ", column " ++ Str.ofString (toString ((col + k : Nat) : Int)) ++ Str.ofString ")" else Str.ofString ""
local macro_rules | `(tactic| walk_at "compareOp In str str") => `(tactic| k_dflt (refine stopAt ?_))
theorem law_fault (G : Gd w mean mg mb b) {p : List Nat} {line col : Nat} {t1 t2 t3 : Tok} (hp : p.length ≤ 24) (hl : line ≤ 40) (hc : col ≤ 40) :
    JSpec w b none 6 (.ref 226) [.str (S p) t1, .int line t2, .int col t3] [] news (fun r lg => (∃ t, r = .str (faultV p line col) t) ∧ lg = news) (fun _ _ => False) := by
  walk_at "J def"
  intro dp un outer L fr s Q Ec hfr F N hsep hdp hun ret rai
  refine let_all ?_
  intro aV eV eX qX
  have X := G.K
  have T := G.T
  replace F : Fr b L s.heap (lk [(Str.ofString "column", .int col t3), (Str.ofString "line", .int line t2), (Str.ofString "part", .str (S p) t1)]) := F
  refine wpAny_execs_cons ?_
  refine For_J b ?_
  k_steps
  rename IsRange _ _ _ _ _ _ _ _ => hr
  rename Fr _ _ _ _ => F2
  rename News _ _ _ _ => N2
  refine over_range (s := ⟨_, _, _, _, _⟩) rfl F2 N2 hr (by walk_at "o") (fun i m₁ nx => nx = news ++ fr ∧ (∀ v, (fun y => if y = Str.ofString "place" then some v else m₁ y) = lk [(Str.ofString "column", .int col t3), (Str.ofString "line", .int line t2), (Str.ofString "part", .str (S p) t1), (Str.ofString "place", v)]) ∧ i ≤ (p.takeWhile (fun a => !ill a)).length) ⟨rfl, fun v => lk_put _ _ _, Nat.zero_le _⟩ ?_ ?_
  · intro i ti m₁ nx h₁ tk₁ I oI hi y0 hnI F3 N3; walk_at "q"; refine X0_3 y0 ?_; clear y0; intro z0 hm hik; subst z0
    rw [hm] at F3
    clear F2 N2
    k_steps
    · exfalso
      rename p[_]? = none => hn
      rw [List.getElem?_eq_none_iff] at hn; lia
    · rename p[_]? = some _ => hpc
      refine StopAt.go ?_
      refine memOf_str (y := [1, 10]) (b := b) _ _ _ _ _ _ rfl F3.keep fun tk => ?_
      obtain ⟨c', hpc'⟩ : ∃ c', p[i]? = some c' := ⟨_, hpc⟩
      obtain rfl := Option.some.inj (hpc'.symm.trans hpc)
      have e : [1, 10].contains c' = ill c' := by
        unfold ill
        rw [Bool.eq_iff_iff]
        simp
        lia
      change wpAny _ _ (truthy (.bool ([1, 10].contains c'))) _ _ _
      rw [e]
      have hl0 : (0 : Int) ≤ (line : Int) ∧ (line : Int) < 10 ^ 10 := by lia
      have hc0 : (0 : Int) ≤ (col : Int) + (i : Int) ∧ (col : Int) + (i : Int) < 10 ^ 10 := by lia
      have n1 := KT.len_num hl0.1 hl0.2
      have n2 := KT.len_num hc0.1 hc0.2
      cases hill : ill c'
      · k_steps
        rename Fr _ _ _ _ => F5
        rename News _ _ _ _ => N5
        have := tw_go (p := fun a => !ill a) (l := p) (j := i) hik hpc' (by rw [hill]; rfl)
        exact (Y4 _ _ _ _ ⟨rfl, F5, N5, hnI, rfl, fun v => lk_put _ _ _, this⟩)
      · have hk : i = (p.takeWhile (fun a => !ill a)).length := tw_stop (p := fun a => !ill a) hik hpc' (by rw [hill]; rfl)
        have fin : faultV p line col = Str.ofString "Found invalid character " ++ reprC c' ++ Str.ofString " (at line " ++ Str.ofString (toString (line : Int)) ++ Str.ofString ", column " ++ Str.ofString (toString ((col : Int) + (i : Int))) ++ Str.ofString ")" := by
          unfold faultV
          rw [← hk, if_pos hi, hpc']
          rfl
        have h2 : c' = 10 ∨ c' = 1 := by unfold ill at hill; simpa using hill
        rcases h2 with rfl | rfl
        · k_steps
          all_goals first
            | (exfalso; rename p[_]? = none => hn; rw [hpc'] at hn; cases hn)
            | (exfalso; rename p[_]? = some _ => hn; obtain rfl := Option.some.inj (hpc'.symm.trans hn); rename (S [_] == Str.ofString "\n") = _ => he; revert he; decide)
            | skip
          rename Fr _ _ _ _ => F5
          rename News _ _ _ _ => N5
          exact ret _ news fr L _ _ _ ⟨⟨_, congrArg (fun z => Value.str z _) fin.symm⟩, rfl⟩ (TI.SameUp.refl _) Fresh.refl F5 (fun q hq => N5 q (List.mem_cons_of_mem _ hq))
        · k_steps
          all_goals first
            | (exfalso; rename p[_]? = none => hn; rw [hpc'] at hn; cases hn)
            | (exfalso; rename p[_]? = some _ => hn; obtain rfl := Option.some.inj (hpc'.symm.trans hn); rename (S [_] == Str.ofString "\n") = _ => he; revert he; decide)
            | skip
          rename Fr _ _ _ _ => F5
          rename News _ _ _ _ => N5
          exact ret _ news fr L _ _ _ ⟨⟨_, congrArg (fun z => Value.str z _) fin.symm⟩, rfl⟩ (TI.SameUp.refl _) Fresh.refl F5 (fun q hq => N5 q (List.mem_cons_of_mem _ hq))
  · intro h' tk' m' nx F3 N3 y0; refine X0_3 y0 ?_; clear y0; intro z0 hm hik; subst z0
    have hk : (p.takeWhile (fun a => !ill a)).length = p.length := Nat.le_antisymm (List.takeWhile_sublist _).length_le hik
    have fin : faultV p line col = Str.ofString "" := by
      unfold faultV
      rw [hk, if_neg (Nat.lt_irrefl _)]
    clear F2 N2
    k_steps
    rename Fr _ _ _ _ => F5
    rename News _ _ _ _ => N5
    exact ret _ news fr L _ _ _ ⟨⟨_, congrArg (fun z => Value.str z _) fin.symm⟩, rfl⟩ (TI.SameUp.refl _) Fresh.refl F5 N5

end
section
open PySem PySem.W PyProof.Rows PySem.Calls PySem.Spec PyProof.Rows.LCg
section
variable {w : World} {A : Around} {E : Value → Shared → Prop} {s : Shared} {env : Env} {h₀ : Heap} {L : Addr} {m : Str → Option Value}
noncomputable def testsOf (ifs : List Expr) (env : Env) : Sem Bool := forIn ifs true fun c r => if r = true then do let ok ← isTrue c env (eval c env); pure (ForInStep.yield ok) else pure (ForInStep.yield r)
theorem tests_none {e : Expr} {Q1 : Value → Shared → Prop} {Q2 : Shared → Prop} (h : let qY := Q1; wpAny (model prg w) A (eval e env) qY E s) : wpAny (model prg w) A (testsOf [] env) (fun ok s₃ => if ok = true then wpAny (model prg w) A (eval e env) Q1 E s₃ else Q2 s₃) E s := by
  refine wpAny_tests_nil ?_
  rw [if_pos rfl]; exact h
theorem comp_loop {elt target iter : Expr} {ifs : List Expr} {scope : Scope} {pos : Pos} {it acc : Value} {env : Env} {R : Result → Shared → Prop} (I : Nat → Shared → Prop)
    (turn : ∀ n s (X : Value → Shared → Prop), I n s → wpAny (model prg w) A (pyNext it) (fun r s₁ => match r with
      | none => R (.ok .next) s₁
      | some v => wpAny (model prg w) A (letOwnedTupleGo target it v) (fun _ s₀ => wpAny (model prg w) A (assign target env v) (fun _ s₂ => wpAny (model prg w) A (testsOf ifs env) (fun ok s₃ =>
          if ok = true then wpAny (model prg w) A (eval elt env) (fun x s₄ => wpAny (model prg w) A (call (.builtin "list.append") [acc, x]) (fun _ s₅ => ∃ m, m < n ∧ I m s₅) X s₄) X s₃
          else ∃ m, m < n ∧ I m s₃) X s₂) X s₀) X s₁) X s)
    (n : Nat) (h : I n s) : codeAny (model prg w) A (.compLoop (.ListComp elt [⟨target, iter, ifs, 0⟩] scope pos) 0 it acc env) R s := by
  refine codeAny_loop rfl I (fun n s hI => ?_) n h
  show wpAny _ A ((compTurn (.ListComp elt [⟨target, iter, ifs, 0⟩] scope pos) 0 it acc env).onRaise (fun x => do noteFrame x env; theTreesLotGoes x)) _ _ s
  refine wpAny_noted ?_
  rw [compTurn_list]
  refine wpAny_bind (wpAny_standAt (wpAny_bind (wpAny_mono (turn n s (notedBy (model prg w) A env fun e s' => R (.error e) s') hI) (fun r s₁ h₁ => ?_) fun _ _ h' => h')))
  cases r with
  | none => exact wpAny_pure h₁
  | some v =>
    refine wpAny_bind (wpAny_mono h₁ (fun _ s₀ h₀ => wpAny_bind (wpAny_mono h₀ (fun _ s₂ h₂ => wpAny_bind (wpAny_mono h₂ (fun ok s₃ h₃ => ?_) fun _ _ h' => h')) fun _ _ h' => h')) fun _ _ h' => h')
    cases ok with
    | false => exact wpAny_pure ⟨rfl, h₃⟩
    | true => exact wpAny_bind (wpAny_bind (wpAny_mono h₃ (fun x s₄ h₄ => wpAny_bind (wpAny_mono h₄ (fun _ s₅ h₅ => wpAny_pure (wpAny_pure ⟨rfl, h₅⟩)) fun _ _ h' => h')) fun _ _ h' => h'))
noncomputable def CEnd (h₀ : Heap) (L : Addr) (m : Str → Option Value) (s₀ : Shared) (ia : List Addr) (own : List (Addr × Obj)) (C : Addr) (oC : Obj) (D : Addr) (ys : List Value) (Jn : List (Addr × Obj) → Prop) (s₂ : Shared) : Prop :=
  ∃ h' tk news', s₂ = { s₀ with heap := h', toks := tk } ∧ Fr h₀ L h' m ∧ News h₀ L h' ((C, oC) :: (D, lst ys) :: (news' ++ own)) ∧ (∀ p ∈ news', p.1 ∉ ia ∧ p.1 ≠ C ∧ p.1 ≠ D) ∧ Jn news'
noncomputable def CStep (w : World) (A : Around) (h₀ : Heap) (L : Addr) (m : Str → Option Value) (env : Env) (elt : Expr) (ifs : List Expr) (scope : Scope) (cl : List (Str × Addr)) (s₂ : Shared) (ia : List Addr) (OP : Obj → Prop) (n : Nat) (Asg : Nat → (Str → Option Value) → Prop) (J : Nat → List Value → List (Addr × Obj) → Prop) : Prop :=
  ∀ i ys C D oC m₂ news₁ own h₁ tk₁ (X : Value → Shared → Prop), i < n → J i ys news₁ → Asg i m₂ → own.map (·.1) = ia → (∀ p ∈ own, OP p.2) → (∀ p ∈ news₁, p.1 ∉ ia ∧ p.1 ≠ C ∧ p.1 ≠ D) → (∀ a ∈ ia, a ≠ C ∧ a ≠ D) → @Ne Nat C D → NsObj oC m₂ → Fr h₀ L h₁ m → News h₀ L h₁ ((C, oC) :: (D, lst ys) :: (news₁ ++ own)) →
    wpAny (model prg w) A (testsOf ifs (compEnvC scope cl C env)) (fun ok s₃ =>
      if ok = true then wpAny (model prg w) A (eval elt (compEnvC scope cl C env)) (fun y => CEnd h₀ L m s₂ ia own C oC D ys (J (i + 1) (ys ++ [y]))) X s₃
      else CEnd h₀ L m s₂ ia own C oC D ys (J (i + 1) ys) s₃) X { s₂ with heap := h₁, toks := tk₁ }
theorem objs_of {h : Heap} {OP : Obj → Prop} : ∀ {ia : List Addr}, (∀ a ∈ ia, ∃ o, h.get? a = some o ∧ OP o) → ∃ own : List (Addr × Obj), own.map (·.1) = ia ∧ (∀ p ∈ own, h.get? p.1 = some p.2) ∧ ∀ p ∈ own, OP p.2
  | [], _ => ⟨[], rfl, (fun _ h => nomatch h), fun _ h => nomatch h⟩
  | a :: r, k => by
    refine X1_2 (k a List.mem_cons_self) ?_; intro o ho hp0
    refine X1_3 (objs_of fun b hb => k b (List.mem_cons_of_mem _ hb)) ?_; intro own h1 h2 h3
    refine ⟨(a, o) :: own, by simp [h1], fun p hp => ?_, fun p hp => ?_⟩
    · refine mem_c p hp ?_ fun hp => ?_
      · exact ho
      · exact h2 p hp
    · refine mem_c p hp ?_ fun hp => ?_
      · exact hp0
      · exact h3 p hp
theorem comp_block {elt target iter : Expr} {ifs : List Expr} {scope : Scope} {cl : List (Str × Addr)} {pos : Pos} {s₂ : Shared} {I : Addr} {ia fp wr : List Addr} {n : Nat} {P Md : Nat → Value → Heap → Prop} {St : Nat → Heap → Prop} {keep news : List (Addr × Obj)} {OP : Obj → Prop} {Asg : Nat → (Str → Option Value) → Prop} {RR : Value → Addr → Result → Shared → Prop}
    (W : KTurns prg w A target I fp wr n P Md St) (hself : ∀ (s : Shared) (Q : Value → Shared → Prop) (E : Value → Shared → Prop), St 0 s.heap → Q (.ref I) s → wpAny (model prg w) A (pyIter (.ref I)) Q E s) (hsz : n ≤ sizeLine)
    (hobj : ∀ i h, St i h → ∀ a ∈ ia, ∃ o, h.get? a = some o ∧ OP o) (hia : ∀ a ∈ ia, h₀.get? a = none ∧ a ≠ L) (hwr : ∀ a ∈ wr, a ∈ ia) (hfp : ∀ a ∈ fp, a ∈ ia ∨ ∃ o, (a, o) ∈ keep)
    (hasg : ∀ i v C (s : Shared) m' (Q : Unit → Shared → Prop) (E : Value → Shared → Prop), P i v s.heap → s.heap.Ns C m' → (∀ h' tk m₂, h'.Ns C m₂ → Asg i m₂ → (∀ c o, c ≠ C → s.heap.get? c = some o → h'.get? c = some o) → Q () { s with heap := h', toks := tk }) → wpAny (model prg w) A (assign target (compEnvC scope cl C env) v) Q E s)
    (hcell : ∀ y ∈ scope.names, y.2 ≠ .cell) (hkind : scope.kind = .function) (hst : St 0 s₂.heap)
    (F : Fr h₀ L s₂.heap m) (N : News h₀ L s₂.heap news) (off : ∀ p ∈ news, p.1 ∉ ia)
    (J : Nat → List Value → List (Addr × Obj) → Prop) (hJk : ∀ i ys nx, J i ys nx → ∀ p ∈ keep, p ∈ nx) (h0 : J 0 [] news)
    (step : CStep w A h₀ L m env elt ifs scope cl s₂ ia OP n Asg J)
    (hRR : ∀ D C h tk m' ys news', Fr h₀ L h m → News h₀ L h ((D, lst ys) :: news') → (∀ p ∈ news', p.1 ≠ D) → h.Ns C m' → h₀.get? C = none → h₀.get? D = none → C ≠ L → D ≠ L → C ≠ D → (∀ p ∈ news', p.1 ≠ C) → J n ys news' → RR (.ref D) C (.ok .next) { s₂ with heap := h, toks := tk }) :
    wpAny (model prg w) A (newList []) (fun acc s₃ => wpAny (model prg w) A (newFunctionEnv scope env.globals cl [] env.qual none .none (some env)) (fun cenv s₄ =>
      codeAny (model prg w) A (.compStart (.ListComp elt [⟨target, iter, ifs, 0⟩] scope pos) 0 (.ref I) acc { cenv with scope := relabel scope env }) (RR acc cenv.locals) s₄) E s₃) E s₂ := by
  refine wpAny_newObj_type (wpAny_newFunctionEnv hcell (by intro y hy; simp at hy) (fun h₁ hns₁ hsb₁ => ?_) hkind)
  dsimp only at hns₁ hsb₁ ⊢
  generalize hH2 : s₂.heap.push { cls := .type "list", dict := none, data := .seq ([] : List Value).toArray } = H2 at hns₁ hsb₁ ⊢
  have hC : H2.objs.size = s₂.heap.objs.size + 1 := by rw [← hH2, Heap.size_push]
  generalize hDD : s₂.heap.objs.size = D at hC ⊢
  generalize hCC : H2.objs.size = C at hC hns₁ hsb₁ ⊢
  have hCD : C ≠ D := by rw [hC]; exact Nat.succ_ne_self _
  have lt : ∀ b o, s₂.heap.get? b = some o → b ≠ C ∧ b ≠ D := fun b o e => by
    have h := Heap.lt_size e
    rw [hDD] at h
    exact ⟨by rw [hC]; exact Nat.ne_of_lt (Nat.lt_succ_of_lt h), Nat.ne_of_lt h⟩
  have old : ∀ b o, s₂.heap.get? b = some o → h₁.get? b = some o := fun b o e => hsb₁.extBut b o (lt b o e).1 (Heap.get?_push_of_some _ (hH2 ▸ Heap.get?_push_of_some _ e))
  have hacc : h₁.get? D = some (lst []) := hsb₁.extBut _ _ (Ne.symm hCD) (Heap.get?_push_of_some _ (hDD ▸ hH2 ▸ Heap.get?_push_size _ rfl))
  have fresh₀ : ∀ a, D ≤ a → h₀.get? a = none := fun a ha => by
    cases e : h₀.get? a with
    | none => rfl
    | some o' => have := Heap.lt_size (F.keep a o' e); rw [hDD] at this; exact absurd this (Nat.not_lt.mpr ha)
  have hD₀ : h₀.get? D = none := fresh₀ _ (Nat.le_refl _)
  have hC₀ : h₀.get? C = none := fresh₀ _ (by rw [hC]; exact Nat.le_succ _)
  refine X3_2 F.ns ?_; intro oL _ _ hLo _
  have hDL : D ≠ L := Ne.symm (lt _ _ hLo).2
  have hCL : C ≠ L := Ne.symm (lt _ _ hLo).1
  have hiaC : ∀ a ∈ ia, a ≠ C ∧ a ≠ D := fun a ha => by
    refine X1_2 (hobj _ _ hst a ha) ?_; intro o e _
    exact lt a o e
  have hst₁ : St 0 h₁ := W.frame _ _ _ hst fun b _ o e => old b o e
  have loop : ∀ s₃ : Shared, s₃ = { s₂ with heap := h₁, toks := s₂.toks + ([] : List (Str × Value)).length } →
      codeAny (model prg w) A (.compLoop (.ListComp elt [⟨target, iter, ifs, 0⟩] scope pos) 0 (.ref I) (.ref D) (compEnvC scope cl C env)) (RR (.ref D) C) s₃ := by
    rintro s₃ rfl
    refine comp_loop
      (fun k s' => ∃ h' tk i ys m' news', s' = { s₂ with heap := h', toks := tk } ∧ i ≤ n ∧ k = n + 1 - i ∧ ys.length ≤ i ∧ St i h' ∧ Fr h₀ L h' m ∧ h'.Ns C m' ∧ News h₀ L h' ((D, lst ys) :: news') ∧
        (∀ p ∈ news', p.1 ∉ ia ∧ p.1 ≠ C ∧ p.1 ≠ D) ∧ J i ys news') ?_ (n + 1)
      (Y6 h₁ _ 0 [] _ news ⟨rfl, Nat.zero_le _, rfl, Nat.le_refl _, hst₁, F.keeps old, hns₁, fun p hp => ?_, fun p hp => ⟨off p hp, lt _ _ (N p hp).1⟩, h0⟩)
    · intro k s' X y0; refine X6_10 y0 ?_; clear y0; intro h' tk i ys m' news' z0 hi z1 hyl hst' F' hn' N' off' hJ; subst z0; subst z1
      have kIA : ∀ {h1 h2 : Heap}, (∀ b o, b ∉ wr → h1.get? b = some o → h2.get? b = some o) → ∀ b o, b ∉ ia → h1.get? b = some o → h2.get? b = some o := fun k b o hb e => k b o (fun q => hb (hwr b q)) e
      have hCi : C ∉ ia := fun q => (hiaC C q).1 rfl
      have hDi : D ∉ ia := fun q => (hiaC D q).2 rfl
      have hLi : L ∉ ia := fun q => (hia L q).2 rfl
      have frB : ∀ {h1 h2 : Heap}, (∀ b o, b ∉ wr → h1.get? b = some o → h2.get? b = some o) → Fr h₀ L h1 m → Fr h₀ L h2 m := fun {h1 h2} k F1 =>
        ⟨F1.ns.at' fun o e => kIA k L o hLi e, fun b o e => kIA k b o (fun q => by rw [(hia b q).1] at e; cases e) (F1.keep b o e), F1.above⟩
      have nwB : ∀ {h1 h2 : Heap}, (∀ b o, b ∉ wr → h1.get? b = some o → h2.get? b = some o) → News h₀ L h1 ((D, lst ys) :: news') → News h₀ L h2 ((D, lst ys) :: news') := fun {h1 h2} k N1 p hp =>
        ⟨kIA k _ _ (by
          refine mem_c p hp ?_ fun hp => ?_
          · exact hDi
          · exact (off' p hp).1) (N1 p hp).1, (N1 p hp).2⟩
      by_cases hlt : i < n
      · refine W.item i _ _ _ hlt hst' fun v h₂ tk₂ hMd hk₂ => ?_
        refine W.go i v _ _ _ hMd fun h₃ hP hst₃ hk₃ => ?_
        have F₃ := frB hk₃ (frB hk₂ F')
        have N₃ := nwB hk₃ (nwB hk₂ N')
        have hn₃ : h₃.Ns C m' := (hn'.at' fun o e => kIA hk₂ C o hCi e).at' fun o e => kIA hk₃ C o hCi e
        refine hasg i v C _ m' _ _ hP hn₃ fun h₄ tk₄ m₂ hn₄ hA hk₄ => ?_
        have F₄ : Fr h₀ L h₄ m := ⟨F₃.ns.at' fun o e => hk₄ L o (Ne.symm hCL) e, fun b o e => hk₄ b o (fun q => by rw [q, hC₀] at e; cases e) (F₃.keep b o e), F₃.above⟩
        have hst₄ : St (i + 1) h₄ := W.frame _ _ _ hst₃ fun b hb o e => hk₄ b o (fun q => by
          rcases hfp b hb with h | ⟨ob, h⟩
          · exact (hiaC b h).1 q
          · exact (off' _ (hJk _ _ _ hJ _ h)).2.1 q) e
        refine X1_3 (objs_of (hobj _ _ hst₄)) ?_; intro own hown hownv hop
        refine X1_2 (ns_obj hn₄) ?_; intro oC heC hoC
        have N₄ : News h₀ L h₄ ((C, oC) :: (D, lst ys) :: (news' ++ own)) := fun p hp => by
          refine mem_c p hp ?_ fun hp => ?_
          · exact ⟨heC, hCL, hC₀⟩
          · refine mem_a (show p ∈ ((D, lst ys) :: news') ++ own from hp) (fun hp => ?_) fun hp => ?_
            · have z := N₃ p hp
              refine ⟨hk₄ _ _ ?_ z.1, z.2⟩
              refine mem_c p hp ?_ fun hp => ?_
              · exact Ne.symm hCD
              · exact (off' p hp).2.1
            · have hpi : p.1 ∈ ia := by rw [← hown]; exact List.mem_map_of_mem hp
              exact ⟨hownv p hp, (hia _ hpi).2, (hia _ hpi).1⟩
        have back : ∀ {h₅ : Heap} {ys' : List Value} {news₅ : List (Addr × Obj)} {oD : Obj}, Fr h₀ L h₅ m → News h₀ L h₅ ((C, oC) :: (D, oD) :: (news₅ ++ own)) → J (i + 1) ys' news₅ → St (i + 1) h₅ := fun {h₅ ys' news₅ oD} F₅ N₅ hJ₅ => by
          refine W.frame _ _ _ hst₄ fun b hb o e => ?_
          rcases hfp b hb with h | ⟨ob, h⟩
          · rw [← hown] at h
            refine X1_2 (List.mem_map.mp h) ?_; intro q hq z0; subst z0
            rw [hownv q hq] at e
            rw [← Option.some.inj e]
            exact (N₅ q (by simp [hq])).1
          · have h4 := (N₄ (b, ob) (by simp [hJk _ _ _ hJ _ h])).1
            rw [h4] at e
            rw [← Option.some.inj e]
            exact (N₅ (b, ob) (by simp [hJk _ _ _ hJ₅ _ h])).1
        refine wpAny_mono (step i ys C D oC m₂ news' own h₄ tk₄ X hlt hJ hA hown hop off' hiaC hCD hoC F₄ N₄) (fun ok s₅ h₅ => ?_) fun _ _ e => e
        cases ok with
        | false =>
          simp only [Bool.false_eq_true, if_false] at h₅ ⊢
          refine X3_5 h₅ ?_; clear h₅; intro h₅ tk₅ news₅ z0 F₅ N₅ off₅ hJ₅; subst z0
          exact ⟨n + 1 - (i + 1), by exact ar1 (Nat.lt_succ_self i) (Nat.lt_succ_of_le hi), (Y6 h₅ tk₅ (i + 1) ys _ news₅ ⟨rfl, hlt, rfl, Nat.le_succ_of_le hyl, back F₅ N₅ hJ₅, F₅, hoC.ns (N₅ (C, oC) List.mem_cons_self).1, fun p hp => N₅ p (by
            refine mem_c p hp ?_ fun hp => ?_
            · simp
            · simp [hp]), off₅, hJ₅⟩)⟩
        | true =>
          simp only [if_true] at h₅ ⊢
          refine wpAny_mono h₅ (fun y s₆ h₆ => ?_) fun _ _ e => e
          refine X3_5 h₆ ?_; clear h₆; intro h₅ tk₅ news₅ z0 F₅ N₅ off₅ hJ₅; subst z0
          refine append_at (hsz := by show ys.toArray.size ≤ sizeLine; rw [List.size_toArray]; exact Nat.le_trans hyl (Nat.le_trans hi hsz)) (N₅ (D, lst ys) (by simp)).1 fun h₆ hs₆ hD₆ => ?_
          have F₆ := F₅.change hs₆ hDL hD₀
          have N₆ : News h₀ L h₆ ((C, oC) :: (D, lst (ys ++ [y])) :: (news₅ ++ own)) := fun p hp => by
            refine mem_c p hp ?_ fun hp => ?_
            · exact ⟨hs₆.extBut _ _ hCD (N₅ (C, oC) List.mem_cons_self).1, hCL, hC₀⟩
            · refine mem_c p hp ?_ fun hp => ?_
              · exact ⟨hD₆.trans (congrArg some (lst_snoc ys y)), hDL, hD₀⟩
              · have z := N₅ p (by simp only [List.mem_cons]; exact .inr (.inr hp))
                refine ⟨hs₆.extBut _ _ ?_ z.1, z.2⟩
                refine mem_a hp (fun hp => ?_) fun hp => ?_
                · exact (off₅ p hp).2.2
                · exact (hiaC p.1 (by rw [← hown]; exact List.mem_map_of_mem hp)).2
          exact ⟨n + 1 - (i + 1), by exact ar1 (Nat.lt_succ_self i) (Nat.lt_succ_of_le hi), (Y6 h₆ tk₅ (i + 1) (ys ++ [y]) _ news₅ ⟨rfl, hlt, rfl, by rw [List.length_append, List.length_singleton]; exact Nat.succ_le_succ hyl, back F₆ N₆ hJ₅, F₆, hoC.ns (N₆ (C, oC) List.mem_cons_self).1, fun p hp => N₆ p (by
            refine mem_c p hp ?_ fun hp => ?_
            · simp
            · simp [hp]), off₅, hJ₅⟩)⟩
      · have hin : i = n := by lia
        subst hin
        refine W.done _ _ _ hst' fun h₂ tk₂ hk₂ => ?_
        exact hRR D C h₂ tk₂ m' ys news' (frB hk₂ F') (nwB hk₂ N') (fun p hp => (off' p hp).2.2) (hn'.at' fun o e => kIA hk₂ C o hCi e) hC₀ hD₀ hCL hDL hCD (fun p hp => (off' p hp).2.1) hJ
    · refine mem_c p hp ?_ fun hp => ?_
      · exact ⟨hacc, hDL, hD₀⟩
      · exact ⟨old _ _ (N p hp).1, (N p hp).2⟩
  exact codeAny_compStart_list (loop _ rfl) (hself _ _ _ hst₁ (loop _ rfl))
noncomputable def CompAtJ (w : World) (A : Around) (h₀ : Heap) (L : Addr) (m : Str → Option Value) (env : Env) (elt target : Expr) (ifs : List Expr) (scope : Scope) (cl : List (Str × Addr)) (Fin : Shared → List Value → List (Addr × Obj) → Prop) (it : Value) (s₂ : Shared) : Prop :=
  ∃ (I : Addr) (ia fp wr : List Addr) (n : Nat) (P Md : Nat → Value → Heap → Prop) (St : Nat → Heap → Prop) (keep news : List (Addr × Obj)) (OP : Obj → Prop) (Asg : Nat → (Str → Option Value) → Prop) (J : Nat → List Value → List (Addr × Obj) → Prop),
    it = .ref I ∧ KTurns prg w A target I fp wr n P Md St ∧ (∀ (s : Shared) (Q : Value → Shared → Prop) (E : Value → Shared → Prop), St 0 s.heap → Q (.ref I) s → wpAny (model prg w) A (pyIter (.ref I)) Q E s) ∧ n ≤ sizeLine ∧
    (∀ i h, St i h → ∀ a ∈ ia, ∃ o, h.get? a = some o ∧ OP o) ∧ (∀ a ∈ ia, h₀.get? a = none ∧ a ≠ L) ∧ (∀ a ∈ wr, a ∈ ia) ∧ (∀ a ∈ fp, a ∈ ia ∨ ∃ o, (a, o) ∈ keep) ∧
    (∀ i v C (s : Shared) m' (Q : Unit → Shared → Prop) (E : Value → Shared → Prop), P i v s.heap → s.heap.Ns C m' → (∀ h' tk m₂, h'.Ns C m₂ → Asg i m₂ → (∀ c o, c ≠ C → s.heap.get? c = some o → h'.get? c = some o) → Q () { s with heap := h', toks := tk }) → wpAny (model prg w) A (assign target (compEnvC scope cl C env) v) Q E s) ∧
    St 0 s₂.heap ∧ Fr h₀ L s₂.heap m ∧ News h₀ L s₂.heap news ∧ (∀ p ∈ news, p.1 ∉ ia) ∧ (∀ i ys nx, J i ys nx → ∀ p ∈ keep, p ∈ nx) ∧ J 0 [] news ∧ CStep w A h₀ L m env elt ifs scope cl s₂ ia OP n Asg J ∧
    ∀ ys nx, J n ys nx → Fin s₂ ys nx
noncomputable def FinJ (h₀ : Heap) (L : Addr) (m : Str → Option Value) (Q : Value → Shared → Prop) (s : Shared) (ys : List Value) (news : List (Addr × Obj)) : Prop :=
  ∀ D h tk, Fr h₀ L h m → News h₀ L h ((D, lst ys) :: news) → (∀ p ∈ news, p.1 ≠ D) → Q (.ref D) { s with heap := h, toks := tk }
noncomputable def FinB (h₀ : Heap) (L : Addr) (m : Str → Option Value) (y : Str) (Q : Flow → Shared → Prop) (s : Shared) (ys : List Value) (news : List (Addr × Obj)) : Prop :=
  ∀ D h tk, Fr h₀ L h (fun z => if z = y then some (.ref D) else m z) → News h₀ L h ((D, lst ys) :: news) → (∀ p ∈ news, p.1 ≠ D) → Q .next { s with heap := h, toks := tk }
theorem ListComp_J {elt target iter : Expr} {ifs : List Expr} {scope : Scope} {cl : List (Str × Addr)} {pos : Pos} {Q : Value → Shared → Prop} (F₀ : Fr h₀ L s.heap m)
    (hclos : closureFor scope env = pure cl) (hcell : ∀ y ∈ scope.names, y.2 ≠ .cell) (hkind : scope.kind = .function) (hnames : ∀ y ∈ scope.names, y.2 = .local → scope.names.lookup y.1 = some .local)
    (h : wpAny (model prg w) A (eval iter env) (fun xv s₁ => wpAny (model prg w) A (pyIter xv) (fun it s₂ => StopAt (CompAtJ w A h₀ L m env elt target ifs scope cl (FinJ h₀ L m Q) it s₂)) E s₁) E s)
    (hs : ∀ x, foldedSetIterable iter env x = pure x := by intro _; rfl) :
    wpAny (model prg w) A (eval (.ListComp elt [⟨target, iter, ifs, 0⟩] scope pos) env) Q E s := by
  rw [eval_ListComp]
  refine wpAny_comprehension_free (use := none) rfl hs hclos hkind hnames (wpAny_mono h (fun xv s₁ h₁ => wpAny_mono h₁ (fun it s₂ h₂ => ?_) fun _ _ e => e) fun _ _ e => e)
  refine X12_1 h₂ ?_; clear h₂; intro I ia fp wr n P Md St keep news OP Asg z0; refine X1_14 z0 ?_; clear z0; intro J z1 W hself hsz hobj hia hwr hfp hasg hst F N off z2; subst z1; refine X0_4 z2 ?_; clear z2; intro hJk h0 step fin
  refine comp_block W hself hsz hobj hia hwr hfp hasg hcell hkind hst F N off J hJk h0 step ?_
  intro D C h tk m' ys news' F' N' o1 hn hC₀ hD₀ hCL hDL hCD offC hJ
  refine ⟨m', hn, fun h'' hs'' => fin ys news' hJ D h'' tk (F'.change hs'' hCL hC₀) (fun p hp => ?_) o1⟩
  refine ⟨hs''.extBut _ _ ?_ (N' p hp).1, (N' p hp).2⟩
  refine mem_c p hp ?_ fun hp => ?_
  · exact Ne.symm hCD
  · exact offC p hp
theorem Assign_ListComp_J {elt target iter : Expr} {ifs : List Expr} {y : Str} {py : Pos} {scope : Scope} {cl : List (Str × Addr)} {pos spos : Pos} {Q : Flow → Shared → Prop} (F₀ : Fr h₀ L s.heap m) (hLe : env.locals = L)
    (hsw : swapsWith (.ListComp elt [⟨target, iter, ifs, 0⟩] scope pos) (some (.Name y py)) spos.line env = pure true)
    (hclos : closureFor scope env = pure cl) (hcell : ∀ z ∈ scope.names, z.2 ≠ .cell) (hkind : scope.kind = .function) (hnames : ∀ z ∈ scope.names, z.2 = .local → scope.names.lookup z.1 = some .local)
    (hy : env.kindOf y = some .local) (hp : (env.scope.kind == .class || (env.scope.kind == .module && env.locals != env.globals)) = false)
    (h : wpAny (model prg w) A (eval iter env) (fun xv s₁ => wpAny (model prg w) A (pyIter xv) (fun it s₂ => StopAt (CompAtJ w A h₀ L m env elt target ifs scope cl (FinB h₀ L m y Q) it s₂)) E s₁) E s)
    (hs : ∀ x, foldedSetIterable iter env x = pure x := by intro _; rfl) :
    wpAny (model prg w) A (exec (.Assign [.Name y py] (.ListComp elt [⟨target, iter, ifs, 0⟩] scope pos) spos) env) Q E s := by
  subst hLe
  rw [exec_Assign_Name_used _ _ _ _ hsw]
  refine wpAny_bind (wpAny_standAt (wpAny_bind ?_))
  show wpAny _ A (do let _ ← comprehension (.ListComp elt [⟨target, iter, ifs, 0⟩] scope pos) scope env _ (newList []) false (eval iter env) (some (assign (.Name y py) env))) _ _ s
  refine wpAny_bind (wpAny_mono (wpAny_comprehension_free (use := some (assign (.Name y py) env)) (Q := fun _ s' => Q .next s') rfl hs hclos hkind hnames
    (wpAny_mono h (fun xv s₁ h₁ => wpAny_mono h₁ (fun it s₂ h₂ => ?_) fun _ _ e => e) fun _ _ e => e)) (fun _ s' hq => wpAny_pure (wpAny_pure hq)) fun _ _ e => e)
  refine X12_1 h₂ ?_; clear h₂; intro I ia fp wr n P Md St keep news OP Asg z0; refine X1_14 z0 ?_; clear z0; intro J z1 W hself hsz hobj hia hwr hfp hasg hst F N off z2; subst z1; refine X0_4 z2 ?_; clear z2; intro hJk h0 step fin
  refine comp_block W hself hsz hobj hia hwr hfp hasg hcell hkind hst F N off J hJk h0 step ?_
  intro D C h' tk m' ys news' F' N' o1 hn hC₀ hD₀ hCL hDL hCD offC hJ
  show wpAny _ A (assign (.Name y py) env (.ref D)) _ _ _
  refine wpAny_assign_Name (wpAny_storeName_local hy F'.ns (fun h₂ hn₂ hs₂ => ?_) hp)
  have hL₀ : h₀.get? env.locals = none := Heap.get?_none_of_le F'.above
  have F₂ : Fr h₀ env.locals h₂ (fun z => if z = y then some (.ref D) else m z) := ⟨hn₂, fun b o e => hs₂.extBut b o (fun q => by rw [q, hL₀] at e; cases e) (F'.keep b o e), F'.above⟩
  refine ⟨m', hn.sameBut hs₂ hCL, fun h'' hs'' => fin ys news' hJ D h'' _ (F₂.change hs'' hCL hC₀) (fun p hp => ?_) o1⟩
  have z : h₂.get? p.1 = some p.2 := hs₂.extBut _ _ (N' p hp).2.1 (N' p hp).1
  refine ⟨hs''.extBut _ _ ?_ z, (N' p hp).2⟩
  refine mem_c p hp ?_ fun hp => ?_
  · exact Ne.symm hCD
  · exact offC p hp
theorem comp_list {elt : Expr} {ifs : List Expr} {x : Str} {px : Pos} {scope : Scope} {cl : List (Str × Addr)} {D : Addr} {ys : List Value} {k : Nat} {news : List (Addr × Obj)} {Fin : Shared → List Value → List (Addr × Obj) → Prop} (hh : A.handled = none)
    (F : Fr h₀ L s.heap m) (N : News h₀ L s.heap news) (hm : (D, W.listOf ys.toArray k) ∈ news) (hx : scope.names.lookup x = some .local) (hkind : scope.kind = .function) (hsz : ys.length ≤ sizeLine)
    (J : Nat → List Value → List (Addr × Obj) → Prop) (hJm : ∀ i zs nx, J i zs nx → (D, W.listOf ys.toArray k) ∈ nx) (h0 : J 0 [] news)
    (step : ∀ (I : Addr) (hI : ∀ p ∈ news, @LT.lt Nat _ p.1 I) (h : Heap), CStep w A h₀ L m env elt ifs scope cl { s with heap := h } [I] (fun o => o.cls = .type "list_iterator") ys.length (fun i m₂ => ∃ v, ys[i]? = some v ∧ m₂ x = some v) J)
    (fin : ∀ (h : Heap) zs nx, J ys.length zs nx → Fin { s with heap := h } zs nx) :
    wpAny (model prg w) A (pyIter (.ref D)) (fun it s₂ => CompAtJ w A h₀ L m env elt (.Name x px) ifs scope cl Fin it s₂) E s := by
  have hl : s.heap.IsList D ys.toArray := isList_mem N hm
  refine wpAny_pyIter_list hl ?_
  have hlt : ∀ c o, s.heap.get? c = some o → c ≠ s.heap.objs.size := fun c o e => Nat.ne_of_lt (Heap.lt_size e)
  have hb : h₀.get? s.heap.objs.size = none := by
    cases z : h₀.get? s.heap.objs.size with
    | none => rfl
    | some o => exact absurd rfl (hlt _ _ (F.keep _ _ z))
  have hLI : L ≠ s.heap.objs.size := by
    refine X3_2 F.ns ?_; intro oL es ep hL _
    exact hlt _ _ hL
  have kp : ∀ c o, s.heap.get? c = some o → (s.heap.push { cls := .type "list_iterator", data := .fields #[.ref D, .int 0 0] }).get? c = some o := fun c o e => Heap.get?_push_of_some _ e
  have hn : ys.toArray.size = ys.length := List.size_toArray
  have WW := KTurns.ofWalks (target := .Name x px) (Walks.list (prog := prg) (w := w) hh s.heap.objs.size D (hlt _ _ (N _ hm).1) ys.toArray) (fun i v s Q E _ q => wpAny_pure q)
  rw [hn] at WW
  refine (Y12 s.heap.objs.size [s.heap.objs.size] [s.heap.objs.size, D] [s.heap.objs.size] ys.length _ _ _ [(D, W.listOf ys.toArray k)] news _ _ ⟨J, rfl, WW, ?_, hsz, ?_, ?_, fun a h => h, ?_, ?_, ⟨⟨_, Heap.get?_push_size _ rfl, rfl, rfl⟩, hl.push _⟩, fr_keeps F kp, news_keeps N kp, ?_, ?_, h0, step _ (fun p hp => Heap.lt_size (N p hp).1) _, fin _⟩)
  · exact fun s Q E st hQ => wpAny_pyIter_listiter st.1 hQ
  · intro i h st a ha
    rw [List.mem_singleton.mp ha]
    refine X1_3 st.1 ?_; intro o e hc _
    exact ⟨o, e, hc⟩
  · intro a ha
    rw [List.mem_singleton.mp ha]
    exact ⟨hb, Ne.symm hLI⟩
  · intro a ha
    refine mem_c a ha ?_ fun ha => ?_
    · exact .inl List.mem_cons_self
    · rw [List.mem_singleton.mp ha]; exact .inr ⟨_, List.mem_singleton.mpr rfl⟩
  · intro i v C s' m' Q E hP hn' hQ
    refine wpAny_assign_Name (wpAny_storeName_local (lookup_relabel_local hx) hn' (fun h₂ hn₂ hs₂ => ?_) (by simp [compEnvC, relabel, hkind]))
    exact hQ h₂ _ _ hn₂ ⟨v, by simpa using hP, by simp⟩ fun c o hc e => hs₂.extBut c o hc e
  · intro p hp q
    exact hlt _ _ (N p hp).1 (List.mem_singleton.mp q)
  · intro i zs nx hJ p hp
    rw [List.mem_singleton.mp hp]
    exact hJm i zs nx hJ
theorem comp_zip {elt : Expr} {ifs : List Expr} {xa xb : Str} {pa pb pt : Pos} {kt : Nat} {scope : Scope} {cl : List (Str × Addr)} {l1 l2 : Addr} {xs ys : List Value} {k1 k2 n : Nat} {news : List (Addr × Obj)} {Fin : Shared → List Value → List (Addr × Obj) → Prop} (hh : A.handled = none)
    (F : Fr h₀ L s.heap m) (N : News h₀ L s.heap news) (hm1 : (l1, W.listOf xs.toArray k1) ∈ news) (hm2 : (l2, W.listOf ys.toArray k2) ∈ news) (hx : scope.names.lookup xa = some .local) (hx2 : scope.names.lookup xb = some .local) (hab : ¬ xa = xb) (hkind : scope.kind = .function) (hn1 : xs.length = n) (hn2 : ys.length = n) (hsz : n ≤ sizeLine)
    (J : Nat → List Value → List (Addr × Obj) → Prop) (hJm : ∀ i zs nx, J i zs nx → (l1, W.listOf xs.toArray k1) ∈ nx ∧ (l2, W.listOf ys.toArray k2) ∈ nx) (h0 : J 0 [] news)
    (step : ∀ (I : Addr) (hI : ∀ p ∈ news, @LT.lt Nat _ p.1 I) (h : Heap), CStep w A h₀ L m env elt ifs scope cl { s with heap := h } [I + 4, I + 2, I + 3, I, I + 1] (fun _ => True) n (fun i m₂ => ∃ v u, xs[i]? = some v ∧ ys[i]? = some u ∧ m₂ xa = some v ∧ m₂ xb = some u) J)
    (fin : ∀ (h : Heap) zs nx, J n zs nx → Fin { s with heap := h } zs nx) :
    wpAny (model prg w) A (call (.type "zip") [.ref l1, .ref l2]) (fun xv s₁ => wpAny (model prg w) A (pyIter xv) (fun it s₂ => CompAtJ w A h₀ L m env elt (.Tuple [.Name xa pa, .Name xb pb] kt pt) ifs scope cl Fin it s₂) E s₁) E s := by
  have hl1 : s.heap.IsList l1 xs.toArray := isList_mem N hm1
  have hl2 : s.heap.IsList l2 ys.toArray := isList_mem N hm2
  have lt1 : l1 < s.heap.objs.size := Heap.lt_size (N _ hm1).1
  have lt2 : l2 < s.heap.objs.size := Heap.lt_size (N _ hm2).1
  have hLs : L < s.heap.objs.size := F.ns.lt
  have D : ZipApart (s.heap.objs.size + 4) (s.heap.objs.size + 2) (s.heap.objs.size + 3) s.heap.objs.size (s.heap.objs.size + 1) l1 l2 := ktu_apart _ _ _ lt1 lt2
  have hnew : ∀ a, s.heap.objs.size ≤ a → h₀.get? a = none := fun a ha => by
    cases e : h₀.get? a with
    | none => rfl
    | some o' => exact absurd (Heap.lt_size (F.keep a o' e)) (Nat.not_lt.mpr ha)
  have hmin : min xs.toArray.size ys.toArray.size = n := by rw [List.size_toArray, List.size_toArray, hn1, hn2, Nat.min_self]
  refine call_zip_2 hl1 hl2 fun h' hz hTI hTO hi1 hi2 hsz' hk => ?_
  refine wpAny_pyIter_zip hz ?_
  have WW := KTurns.ofWalksU (elts := [.Name xa pa, .Name xb pb]) (k := kt) (pos := pt) (WalksT.zip2 (prog := prg) (w := w) hh _ _ _ _ _ _ _ D xs.toArray ys.toArray).toU
  rw [hmin] at WW
  have mem5 : ∀ {a : Addr}, a ∈ [s.heap.objs.size + 4, s.heap.objs.size + 2, s.heap.objs.size + 3, s.heap.objs.size, s.heap.objs.size + 1] → s.heap.objs.size ≤ a := fun {a} ha => by
    have ha' : @Eq Nat a (s.heap.objs.size + 4) ∨ @Eq Nat a (s.heap.objs.size + 2) ∨ @Eq Nat a (s.heap.objs.size + 3) ∨ @Eq Nat a s.heap.objs.size ∨ @Eq Nat a (s.heap.objs.size + 1) := by simpa using ha
    show @LE.le Nat _ _ _
    lia
  refine (Y12 _ [s.heap.objs.size + 4, s.heap.objs.size + 2, s.heap.objs.size + 3, s.heap.objs.size, s.heap.objs.size + 1] _ _ n _ _ _ [(l1, W.listOf xs.toArray k1), (l2, W.listOf ys.toArray k2)] news _ _ ⟨J, rfl, WW, ?_, hsz, ?_, ?_, ?_, ?_, ?_, ⟨hz, hTI, (Y2 _ _ hTO), hi1, hi2, hl1.at fun o e => hk _ o e, hl2.at fun o e => hk _ o e⟩, F.keeps hk, N.grown hk, ?_, ?_, h0, step _ (fun p hp => Heap.lt_size (N p hp).1) _, fin _⟩)
  · exact fun s Q E st hQ => wpAny_pyIter_zip st.1 hQ
  · intro i h y0 c hc; refine X0_6 y0 ?_; clear y0; intro hz hTI z0 z1 z2 _; refine X2_1 z0 ?_; clear z0; intro a b hTO; refine X1_2 z1 ?_; clear z1; intro o1 ho1 _; refine X1_2 z2 ?_; clear z2; intro o2 ho2 _
    refine mem_c c hc ?_ fun hm => mem_c c hm ?_ fun hm => mem_c c hm ?_ fun hm => mem_c c hm ?_ fun hm => mem_1 c hm ?_
    · exact ⟨_, hz, trivial⟩
    · exact ⟨_, hTI, trivial⟩
    · exact ⟨_, hTO, trivial⟩
    · exact ⟨_, ho1, trivial⟩
    · exact ⟨_, ho2, trivial⟩
  · intro a ha
    have := mem5 ha
    exact ⟨hnew a this, Nat.ne_of_gt (Nat.lt_of_lt_of_le hLs this)⟩
  · intro a ha
    simp only [List.mem_cons, List.not_mem_nil, or_false] at ha ⊢
    rcases ha with rfl | rfl | rfl | rfl <;> simp
  · intro a ha
    refine mem_c a ha ?_ fun hm => mem_c a hm ?_ fun hm => mem_c a hm ?_ fun hm => mem_c a hm ?_ fun hm => mem_c a hm ?_ fun hm => mem_c a hm ?_ fun hm => mem_1 a hm ?_
    · exact .inl (by simp)
    · exact .inl (by simp)
    · exact .inl (by simp)
    · exact .inl (by simp)
    · exact .inl (by simp)
    · exact .inr ⟨_, List.mem_cons_self⟩
    · exact .inr ⟨_, List.mem_cons_of_mem _ List.mem_cons_self⟩
  · intro i v C s' m' Q E y0 hn' hQ; refine X2_3 y0 ?_; clear y0; intro T vals z0 z1 hT; subst z0; refine X2_3 z1 ?_; clear z1; intro x y hx' hy' z2; subst z2
    refine kcp_assign (env := compEnvC scope cl C env) hh hT (lookup_relabel_local hx) (lookup_relabel_local hx2) (by simp [compEnvC, relabel, hkind]) hn' fun h₄ tk₄ hn₄ hs₄ => ?_
    exact hQ h₄ tk₄ _ hn₄ (Y2 x y ⟨by simpa using hx', by simpa using hy', by simp [hab], by simp⟩) hs₄
  · intro p hp q
    exact Nat.not_lt.mpr (mem5 q) (Heap.lt_size (N p hp).1)
  · intro i zs nx hJ p hp
    refine X0_2 (hJm i zs nx hJ) ?_; intro q1 q2
    refine mem_c p hp ?_ fun hp => mem_1 p hp ?_
    · exact q1
    · exact q2
end

end
section
open PySem PySem.W PyProof.Rows PySem.Calls PySem.Spec
noncomputable def BodyC (w : World) (b : Heap) (hd : Option Value) (news : List (Addr × Obj)) (k : Nat) (qual : Str) (scope : Scope) (body : List Stmt) (f : Addr) (cdv : Value) (binds : List (Str × Value)) (post : Value → List (Addr × Obj) → Prop) (exc : Str → List (Addr × Obj) → Prop) : Prop :=
  ∀ (dp un : Nat) (outer : List Env) (L : Addr) (fr cells : List (Addr × Obj)) (s : Shared) (Q Ec : Value → Shared → Prop), TI.Frs outer fr → Fr b L s.heap (bindL (envOfC qual scope L f cdv).kindOf binds fun _ => none) →
      CellsAre (bindC (envOfC qual scope L f cdv).kindOf binds fun _ => none) (cellsFrom (L + 1) scope.names []) cells →
      News b L s.heap ((cells ++ news) ++ fr) → Sep (cells ++ news) fr → (∀ c ∈ cells, ∀ q ∈ news, c.1 ≠ q.1) → dp + k < recursionLimit → un + 16 * k < cLine →
      (∀ v lg fr' L' m' h' tk, post v lg → TI.SameUp fr fr' → Fresh (cells ++ news) fr lg → Fr b L' h' m' → News b L' h' (lg ++ fr') → Q v { s with heap := h', toks := tk }) →
      (∀ e msg tm lg fr' h' tk, exc msg lg → TI.SameUp fr fr' → Fresh (cells ++ news) fr lg → FlyB b outer L lg fr' e (.ref 101) [.str msg tm] h' → Ec (.ref e) { s with heap := h', toks := tk }) →
      wpAny (model prg w) (JA hd dp un (envOfC qual scope L f cdv) outer) (execs body (envOfC qual scope L f cdv)) (fun fl s' => Q (match fl with | .ret v => v | _ => .none) s')
        (fun e s' => wpAny (model prg w) (JA hd dp un (envOfC qual scope L f cdv) outer) (leaving (envOfC qual scope L f cdv) e) (fun _ s'' => Ec e s'') (fun e' s'' => Ec e' s'') s') s
theorem j_topC {w : World} {b : Heap} {news : List (Addr × Obj)} {k : Nat} {mean : ExcName → Option Value} {mg mb : Str → Option Value} {name qual : Str} {params : Arguments} {body : List Stmt} {scope : Scope} {dV kV doc pm cdv ct oc : Value} {an od : Option Addr} {osl : Array (Option Value)} {f : Addr}
    {pos : List Value} {kw : List (Str × Value)} {binds : List (Str × Value)} {post : Value → List (Addr × Obj) → Prop} {exc : Str → List (Addr × Obj) → Prop} {s : Shared} {R : Result → Shared → Prop}
    (G : Gd w mean mg mb b) (hlk : (fragK w.params).lookup f = some ⟨oc, od, .func (fnX name qual params body scope [] dV kV doc pm an cdv ct), osl⟩) (hcd : codeIn (fragK w.params) cdv qual = true)
    (hbind : ∀ s : Shared, BindsTo s (fnX name qual params body scope [] dV kV doc pm an cdv ct) ⟨pos, kw⟩ binds)
    (hkind : ∀ n, ∀ x ∈ binds, scope.names.lookup x.1 = some .local ∨ (scope.names.lookup x.1 = some .cell ∧ ((cellsFrom n scope.names []).lookup x.1).isSome = true))
    (hnd : ((cellsFrom 0 scope.names []).map (·.1)).Nodup)
    (hco : scope.isCoroutine = false) (hgen : scope.isGenerator = false) (hk : scope.kind = .function)
    (h : BodyC w b none news k qual scope body f cdv binds post exc)
    (kb : ∀ c o, b.get? c = some o → s.heap.get? c = some o) (hsz : b.objs.size ≤ s.heap.objs.size) (NB : ∀ p ∈ news, s.heap.get? p.1 = some p.2 ∧ b.get? p.1 = none)
    (hdp : 1 + claimMargin + 1 + k < recursionLimit) (hun : 7 + 16 * k < cLine) (hx : ∀ msg lg, ¬ exc msg lg)
    (ret : ∀ v lg L' m' h' tk, post v lg → Fr b L' h' m' → News b L' h' lg → R (.ok (.ret v)) { s with heap := h', toks := tk }) :
    codeAny (model prg w) callerA (.call (.ref f) ⟨pos, kw⟩) R s := by
  have ho1 := kb _ _ (G.K _ _ hlk)
  have ho2 : s.heap.CodeRec cdv qual := codeRec_of (G.K.keeps kb) hcd
  refine codeAny_call_function (show callerA.depth < recursionLimit by show 1 + claimMargin < recursionLimit; lia) ho1 rfl hco hgen rfl ho2 (hbind _ _ _ _ _ ?_)
  refine wpAny_newFunctionEnv_cells hk (hkind _) fun env' he s' x => ?_
  subst he
  refine ⟨(G.T.nolimit.keeps kb).keeps x.toInCall.keep, codeAny_func ?_⟩
  refine X2_2 x.done ?_; intro h₁ tk z0 _; subst z0
  have hk₁ := x.toInCall.keep
  refine X1_2 (Cl.news (h₀ := s.heap) (Nat.le_refl _) fun n c hm => ⟨x.cell n c (lookup_of_mem_nodup (cellsFrom_names scope.names 0 (s.heap.objs.size + 1) [] [] rfl ▸ hnd) hm), x.above n c hm⟩) ?_; intro cells NC Y
  have F₁ : Fr b s.heap.objs.size h₁ (bindL (envOfC qual scope s.heap.objs.size f cdv).kindOf binds fun _ => none) := ⟨x.toInCall.ns, fun c o e => hk₁ c o (kb c o e), hsz⟩
  have cnew : ∀ c ∈ cells, ∀ q o, s.heap.get? q = some o → c.1 ≠ q := fun c hc q o e z => by have := (NC c hc).2.2; rw [z, e] at this; cases this
  have N₁ : News b s.heap.objs.size h₁ ((cells ++ news) ++ []) := fun p hp => by
    rw [List.append_nil] at hp
    refine mem_a hp (fun q => ?_) fun q => ?_
    · refine ⟨(NC p q).1, (NC p q).2.1, ?_⟩
      cases z : b.get? p.1 with
      | none => rfl
      | some o => have := kb _ _ z; rw [(NC p q).2.2] at this; cases this
    · have z := NB p q
      exact ⟨hk₁ _ _ z.1, Nat.ne_of_lt (Heap.lt_size z.1), z.2⟩
  have hcn : ∀ c ∈ cells, ∀ q ∈ news, c.1 ≠ q.1 := fun c hc q hq => cnew c hc _ _ (NB q hq).1
  refine wpAny_mono (h (1 + claimMargin + 1) 7 [] s.heap.objs.size [] cells { s with heap := h₁, toks := tk }
    (fun v s' => R (.ok (.ret v)) s') (fun e s' => R (.error e) s') trivial F₁ Y N₁ (fun q hq p hp => nomatch hp) hcn hdp hun ?_ ?_) (fun fl s' hq => ?_) (fun e s' hq => ?_)
  · intro v lg fr' L' m' h' tk hp hsu hfresh F' N'
    exact ret v lg L' m' h' tk hp F' (fun p hp => N' p (List.mem_append_left _ hp))
  · intro e msg tm lg fr' h' tk hx'
    exact absurd hx' (hx msg lg)
  · exact hq
  · exact hq

end
local macro_rules | `(tactic| walk_at "call builtin:str.lstrip") => `(tactic| k_dflt (refine lstrip_K (z := [32, 9]) (by exact rfl) (by walk_at "o") (fun t' tk' => ?_)))
local macro_rules | `(tactic| walk_at "call builtin:str.lstrip") => `(tactic| k_dflt (refine lstrip_K (z := [97, 102, 48, 100, 56]) (by exact rfl) (by walk_at "o") (fun t' tk' => ?_)))
local macro_rules | `(tactic| walk_at "call builtin:str.split") => `(tactic| k_dflt (refine stopAt ?_))
local macro_rules | `(tactic| walk_at "call builtin:len") => `(tactic| ((with_reducible show wpAny _ _ (call (Value.builtin "len") [Value.ref _]) _ _ _); k_dflt (refine len_L (by k_asm) (by k_mem) (by walk_at "o") (fun t' tk' => ?_))))
local macro_rules | `(tactic| walk_at "exec For Name Call cons nil") => `(tactic| k_dflt (refine stopAt ?_))
local macro_rules | `(tactic| walk_at "subscriptTail Name Name ref int") => `(tactic| k_dflt (refine item_L (by k_asm) (by k_mem) (by walk_at "o") (by assumption) ?_))
local macro_rules | `(tactic| walk_at "truthy str") => `(tactic| k_dflt (refine stopAt ?_))
local macro_rules | `(tactic| walk_at "J code") => `(tactic| (refine' j_codeK (by assumption) ?lk ?cd ?bind ?ms ?loc ?cell ?co ?gen ?k ?_; (case lk => k_dflt k_is); (case cd => k_dflt k_is); (case bind => exact fun _ => BindsTo.of_eq rfl); (case ms => exact rfl); (case loc => exact rfl); (case cell => decide); (case co => exact rfl); (case gen => exact rfl); (case k => exact rfl)))
local macro_rules | `(tactic| k_all) => `(tactic| (with_reducible assumption))
local macro_rules | `(tactic| k_mem) => `(tactic| first | (with_reducible assumption) | (refine List.mem_append_left _ ?_; k_mem))
local macro_rules | `(tactic| walk_at "J defC") => `(tactic| (refine' j_defC (by assumption) ?lk ?cd ?bind ?kind ?nd ?co ?gen ?k ?_; (case lk => k_dflt k_is); (case cd => k_dflt k_is); (case bind => exact fun _ => BindsTo.of_eq rfl); (case kind => exact kindsX rfl); (case nd => decide); (case co => exact rfl); (case gen => exact rfl); (case k => exact rfl)))

section
open PySem PySem.W PyProof.Rows PySem.Calls PySem.Spec
set_option maxHeartbeats 4000000
variable {w : World} {mean : ExcName → Option Value} {mg mb : Str → Option Value} {b : Heap} {news : List (Addr × Obj)}
open Builtin Builtin.BaseException Builtin.Exceptions
noncomputable def TErr (h : Heap) (e : Addr) (msg : Str) (tm : Tok) : Prop := ∃ oe vs t ot n, h.get? e = some oe ∧ oe.cls = .ref 101 ∧ oe.data = .fields vs ∧ vs[0]? = some (.ref t) ∧ h.get? t = some ot ∧ ot.cls = .type "tuple" ∧ ot.data = .seq [.str msg tm].toArray n
section
variable {A : Around} {E : Value → Shared → Prop} {s : Shared} {e : Addr} {msg : Str} {tm : Tok}
theorem own_bexcStr {p' : Program} {w' : World} {Q : Fin → Shared → Prop} (x : TErr s.heap e msg tm) (hq : Q (.done (.ret (.str msg tm))) s) :
    wpAny (model p' w') A (Builtin.«BaseException.__str__» ⟨[.ref e], []⟩) Q E s := by
  refine X5_7 x ?_; clear x; intro oe vs t ot n he hc hd h0 ht htc htd
  have args : ∀ {Q' : Value × List Value → Shared → Prop}, Q' (.ref t, [.str msg tm]) s → wpAny (model p' w') A (bexcArgs (.ref e)) Q' E s := fun hq' => by
    unfold bexcArgs
    refine wpAny_bind (wpAny_field he hd h0 (wpAny_bind (wpAny_seqItems ht htd ?_)))
    exact wpAny_pure hq'
  unfold Builtin.«BaseException.__str__»
  repeat (first | with_reducible refine args ?_ | wp_step)
  exact hq
theorem strOf_own {p' : Program} {w' : World} (G : Gd w mean mg mb b) (kb : ∀ c o, b.get? c = some o → s.heap.get? c = some o) (hu : A.units < cLine) {Q : Value → Shared → Prop} (x : TErr s.heap e msg tm) (hq : Q (.str msg tm) s) :
    wpAny (model p' w') A (PySem.Builtin.Str.strOf (.ref e)) Q E s := by
  have X := G.K.keeps kb
  refine X5_7 (id x) ?_; intro oe vs t ot n he hc hd h0 ht htc htd
  have L0 : Looks (model p' w') s.heap (typeOf (.ref e)) (.ref 101) := by
    obtain ⟨oc, od, da, sl⟩ := oe
    dsimp only at hc
    subst hc
    exact (Looks.ld he).andThen .now
  have L1 : Looks (model p' w') s.heap (typeLookup (.ref 101) "__str__") (some (.builtin "BaseException.__str__")) := looks_findIn X (by k_dflt k_is)
  have L2 : Looks (model p' w') s.heap (isInstance (.ref e) (.type "BaseException")) true := L0.andThen (looks_mroIn X (by k_dflt k_is))
  have cs : ∀ {A'' : Around} {Q'' : Value → Shared → Prop}, Q'' (.str msg tm) s → wpAny (model p' w') A'' (call (.builtin "BaseException.__str__") [.ref e]) Q'' E s := fun hq'' => by
    refine wpAny_call (codeAny_call_builtin PySem.F.excStr_ValueError.str.plain F.entry_bexc_str (@check_slot (model p' w') _ _ s "BaseException.__str__" "BaseException" "__str__" (.ref e) [] [] _ (by decide +kernel) (by decide +kernel) L2 (F.args_bexc_str _) ?_))
    exact own_bexcStr x hq''
  have hcs : ∀ {A'' : Around} {Q'' : Option Value → Shared → Prop}, Q'' (some (.str msg tm)) s → wpAny (model p' w') A'' (callSpecial? (.ref e) "__str__") Q'' E s := fun hq'' => by
    unfold callSpecial? specialOf
    refine wpAny_bind (wpAny_bind (L0.here (L1.here ?_)))
    try dsimp only
    rw [PySem.F.excStr_ValueError.str.bind]
    exact wpAny_holding (wpAny_bind (wpAny_pure (wpAny_bind (wpAny_mono (cs hq'') (fun _ _ h => wpAny_pure h) fun _ _ h => h))))
  unfold PySem.Builtin.Str.strOf
  repeat (first | with_reducible refine wpAny_cRoomFor hu ?_ | with_reducible refine hcs ?_ | wp_step)
  exact hq
theorem str_own (G : Gd w mean mg mb b) (kb : ∀ c o, b.get? c = some o → s.heap.get? c = some o) (hu : A.units + 2 < cLine) {Q : Value → Shared → Prop} (x : TErr s.heap e msg tm) (hq : Q (.str msg tm) s) :
    wpAny (model prg w) A (call (.type "str") [.ref e]) Q E s :=
  callType_new F.called_str (by decide) (F.typeCall_str_1 _) (F.newCall_str_1 _) (fun obj => F.args_object_init_2 obj _) F.entry_str_new
    (PySem.meets_str_new (S := fun A' R s' => A'.units + 1 < cLine ∧ s'.heap = s.heap ∧ R (.ok (.ret (.str msg tm))) s')
      fun _ _ A' _ s' hq => strOf_own (A := A'.in1) G (by rw [hq.2.1]; exact kb) hq.1 (by rw [hq.2.1]; exact x) hq.2.2)
    ⟨(show A.units + 1 + 1 < cLine from hu), rfl, typeIs_str _ _ _, hq⟩
end

end
section
open PySem PySem.W PyProof.Rows PySem.Calls PySem.Spec
set_option maxHeartbeats 4000000
variable {w : World} {mean : ExcName → Option Value} {mg mb : Str → Option Value} {b : Heap} {news : List (Addr × Obj)}
theorem catch_own (G : Gd w mean mg mb b) {hd : Option Value} {dp un : Nat} {outer : List Env} {L : Addr} {m : Str → Option Value} {lg frs : List (Addr × Obj)} {s : Shared} {E : Value → Shared → Prop} {qual : Str} {scope : Scope} {f : Addr} {cdv : Value} {cl : List (Str × Addr)} {e : Addr} {msg : Str} {tm : Tok} {Q : Flow → Shared → Prop} {b₀ : Stmt} {suite : List Stmt} {pos np : Pos} {rest : List ExceptHandler} {n : Str}
    (hfl : Fly b (envX qual scope L f cdv cl) outer L m lg frs e (.ref 101) [.str msg tm] s.heap)
    (k : ∀ h' frs' tk (E' : Value → Shared → Prop), TI.SameUp frs frs' → TI.Frs outer frs' → Fr b L h' (fun y => if y = n then some (.ref e) else m y) → News b L h' (lg ++ frs') → TErr h' e msg tm →
      wpAny (model prg w) ((JA hd dp un (envX qual scope L f cdv cl) outer).mark (some (.ref e))) (execs (b₀ :: suite) (envX qual scope L f cdv cl))
        (fun fl s₄ => wpAny (model prg w) (JA hd dp un (envX qual scope L f cdv cl) outer) (do bindName (envX qual scope L f cdv cl) n .none; unbindBehindTheSuite (envX qual scope L f cdv cl) n pos) (fun _ s₅ => Q fl s₅) E s₄) E' { s with heap := h', toks := tk })
    (hk : scope.kind = .function := by rfl) (hxk : (envX qual scope L f cdv cl).kindOf (Str.ofString "TOMLDecodeError") = some .globalImplicit := by rfl) (hn : (envX qual scope L f cdv cl).kindOf n = some .local := by rfl) :
    wpAny (model prg w) (JA hd dp un (envX qual scope L f cdv cl) outer) (noteFrame (.ref e) (envX qual scope L f cdv cl))
      (fun _ s₂ => wpAny (model prg w) (JA hd dp un (envX qual scope L f cdv cl) outer) (setFlight (.ref e) none) (fun _ s₃ =>
        wpAny (model prg w) (JA hd dp un (envX qual scope L f cdv cl) outer) (handleBy (.ref e) (envX qual scope L f cdv cl) (.ExceptHandler (some (.Name (Str.ofString "TOMLDecodeError") np)) (some n) (b₀ :: suite) pos :: rest)) Q E s₃) E s₂) E s := by
  obtain ⟨F, N, FS, B, t, hbB, hnB, htB, hfly⟩ := hfl
  refine wpAny_looks_onW (outer := outer) rfl rfl hfly fun h₁ hheld up₁ => ?_
  refine wpAny_landsW hheld fun h₂ hfl₂ up₂ => ?_
  refine X1_4 (stand (env := envX qual scope L f cdv cl) rfl FS F N (up₁.trans up₂) hbB hnB hfl₂.1) ?_; intro frs₂ u₂ F₂ N₂ FS₂
  refine X12_1 ((own_toml G).obj) ?_; intro tl Nn nm q bs hdct sn sub ab col dd k0 z0; refine X5_4 z0 ?_; clear z0; intro k1 k2 k3 k5 mN hC hN hni T
  have hbase : tl.contains (.type "BaseException") = true := T.hasType (by decide)
  refine X1_2 hfl₂.there ?_; intro oe₂ he₂ hcls₂
  refine wpAny_handleBy_cons (codeAny_handlers_test (nameX_K (v := .ref 101) (s := { s with heap := h₂ }) F₂ G.K (topRead_of G.T) (by k_dflt k_is) ?_ hk hxk)) (by intro q; cases q)
  refine wpAny_excMatches_sub_self (F₂.keep _ _ hC) he₂ hcls₂ hbase (codeAny_handlers_suite_as ?_)
  refine lands_againW hfl₂ fun h₃ hfl₃ up₃ => ?_
  refine X1_4 (stand (env := envX qual scope L f cdv cl) rfl FS F N ((up₁.trans up₂).trans up₃) hbB hnB hfl₃.1) ?_; intro frs₃ u₃ F₃ N₃ FS₃
  refine X2_4 hfl₃.first ?_; intro oe vs he hce hde h0
  have ht : h₃.get? t = some { cls := .type "tuple", data := .seq [.str msg tm].toArray } := hfl₃.1 _ _ htB
  refine X3_3 F₃.ns ?_; intro oL es ep hL hLd hLr
  have hLe : e ≠ L := fun z => by rw [← z, he] at hL; cases hL; rw [hLd] at hde; cases hde
  have hLt : t ≠ L := fun z => by rw [← z, ht] at hL; cases hL; cases hLd
  refine wpAny_storeName_local hn F₃.ns (fun h₄ hn₄ hs₄ => ?_) (by show (scope.kind == .class || (scope.kind == .module && L != mainGlobals)) = false; rw [hk]; rfl)
  exact k h₄ frs₃ _ _ u₃ FS₃ (F₃.set hn₄ hs₄) (N₃.set hs₄) (Y5 oe vs t _ _ ⟨(hs₄.2 e hLe).trans he, hce, hde, h0, (hs₄.2 t hLt).trans ht, rfl, rfl⟩)

end
section
open PySem PySem.W PyProof.Rows PySem.Calls PySem.Spec
set_option maxHeartbeats 4000000
variable {w : World} {mean : ExcName → Option Value} {mg mb : Str → Option Value} {b : Heap} {news : List (Addr × Obj)}
noncomputable def gapGo : List (List Nat) → Nat → Nat → Ans
  | [], _, place => .int (place - 1)
  | l :: r, k, place =>
    if (l.dropWhile [32, 9].contains).length ≠ 0 ∧ (l.dropWhile [32, 9].contains)[0]? ≠ some 35 then .int (place + (l.length - (l.dropWhile [32, 9].contains).length)) else
    if (faultV ((l.dropWhile [32, 9].contains).drop 1) (k + 1) (l.length - (l.dropWhile [32, 9].contains).length + 2)).length ≠ 0 then .str (faultV ((l.dropWhile [32, 9].contains).drop 1) (k + 1) (l.length - (l.dropWhile [32, 9].contains).length + 2)) else gapGo r (k + 1) (place + l.length + 1)
noncomputable def gapT (x : List Nat) : Ans := gapGo (splitL 10 x) 0 0
noncomputable def sumL (ls : List (List Nat)) : Nat := (ls.map (fun l => l.length + 1)).sum
theorem sumL_split (c : Nat) : ∀ x : List Nat, sumL (splitL c x) = x.length + 1
  | [] => rfl
  | a :: x => by
    have ih := sumL_split c x
    unfold splitL
    split
    · show 0 + 1 + sumL (splitL c x) = _
      rw [ih]; simp; lia
    · refine X2_1 (splitL_ne c x) ?_; intro p q e
      rw [e] at ih ⊢
      show (p.length + 1) + 1 + sumL q = _
      have : sumL (p :: q) = p.length + 1 + sumL q := rfl
      rw [this] at ih
      simp; lia
theorem sumL_len : ∀ ls : List (List Nat), ls.length ≤ sumL ls
  | [] => Nat.le_refl _
  | l :: r => by
    have := sumL_len r
    have e : sumL (l :: r) = l.length + 1 + sumL r := rfl
    rw [e, List.length_cons]; lia
theorem faultV_len {p : List Nat} {line col : Nat} (hp : p.length ≤ 30) (hl : line ≤ 40) (hc : col ≤ 40) : (faultV p line col).length ≤ 100 := by
  unfold faultV
  try dsimp only
  split
  · rename_i h
    have n1 := KT.len_num (n := (line : Int)) (by walk_at "o") (by walk_at "o")
    have n2 := KT.len_num (n := ((col + (p.takeWhile (fun a => !ill a)).length : Nat) : Int)) (by walk_at "o") (by walk_at "o")
    have n3 : (reprC ((p[(p.takeWhile (fun a => !ill a)).length]?).getD 0)).length ≤ 10 := by unfold reprC; split <;> decide
    have e1 : (Str.ofString "Found invalid character ").length = 24 := by decide
    have e2 : (Str.ofString " (at line ").length = 10 := by decide
    have e3 : (Str.ofString ", column ").length = 9 := by decide
    have e4 : (Str.ofString ")").length = 1 := by decide
    simp only [Str.length_append, e1, e2, e3, e4]
    lia
  · decide
theorem ne_up {D I : Addr} {o : Obj} {news fr fr2 : List (Addr × Obj)} (h : ∀ p ∈ (D, o) :: (news ++ fr), p.1 ≠ I) (u : TI.SameUp fr fr2) : ∀ p ∈ (D, o) :: (news ++ fr2), p.1 ≠ I := fun p hp => by
  refine mem_c p hp ?_ fun hp => ?_
  · exact h (D, o) List.mem_cons_self
  · refine mem_a hp (fun q => ?_) fun q => ?_
    · exact h p (List.mem_cons_of_mem _ (List.mem_append_left _ q))
    · refine X1_2 (TI.SameUp.fwd u p q) ?_; intro p' h1 h2
      rw [h2]; exact h p' (List.mem_cons_of_mem _ (List.mem_append_right _ h1))
theorem bneS {c d : Nat} {y : Str} (hy : y = S [d]) : (S [c] != y) = decide (c ≠ d) := by
  show (!(S [c] == y)) = _
  rw [beqS hy]
  by_cases h : c = d <;> simp [h]
theorem law_gap (G : Gd w mean mg mb b) {x : List Nat} {t1 : Tok} (hx : x.length ≤ 24) :
    JSpec w b none 12 (.ref 233) [.str (S x) t1] [] news (fun r lg => ∃ D os, (∀ p ∈ news, p.1 ≠ D) ∧ lg = (D, os) :: news ∧ IsAns (gapT x) r lg lg) (fun _ _ => False) := by
  walk_at "J def"
  intro dp un outer L fr s Q Ec hfr F N hsep hdp hun ret rai
  refine let_all ?_
  intro aV eV eX qX
  have X := G.K
  have T := G.T
  replace F : Fr b L s.heap (lk [(Str.ofString "rest", .str (S x) t1)]) := F
  k_steps
  refine StopAt.go ?_
  refine split_K (c := 10) rfl (by decide) (by walk_at "o") F N ?_
  intro D l h1 k1 he F1 N1 l1
  have hsum := sumL_split 10 x
  rw [← he] at hsum
  have hlen : l.length ≤ 25 := by have := sumL_len (l.map (·.1)); rw [List.length_map] at this; lia
  have hlen' : (textsV l).length = l.length := by unfold textsV; rw [List.length_map]
  have hlen2 : (textsV l).length ≤ 25 := by lia
  k_steps
  refine StopAt.go ?_
  rename Fr _ _ _ _ => F2
  rename News _ _ _ _ => N2
  refine For_J b ?_
  k_steps
  rename IsRange _ _ _ _ _ _ _ _ => hr
  rename Fr _ _ _ _ => F3
  rename News _ _ _ _ => N3
  try clear F2
  try clear N2
  try clear F1
  try clear N1
  refine over_range (s := ⟨_, _, _, _, _⟩) rfl F3 N3 hr (by walk_at "o") (fun i m₁ nx => ∃ fr', nx = (D, listOf (textsV l).toArray 0) :: (news ++ fr') ∧ TI.SameUp fr fr' ∧ ∃ place tp ext, m₁ = lk ((Str.ofString "rest", .str (S x) t1) :: (Str.ofString "lines", .ref D) :: (Str.ofString "place", .int (place : Nat) tp) :: ext) ∧ i ≤ l.length ∧ place + sumL ((l.map (·.1)).drop i) = x.length + 1 ∧ gapGo ((l.map (·.1)).drop i) i place = gapT x) ⟨fr, rfl, TI.SameUp.refl _, (Y3 0 _ [] ⟨lk_many [(_, _), (_, _)] _, Nat.zero_le _, by simpa using hsum, by rw [List.drop_zero, he]; rfl⟩)⟩ ?_ ?_
  all_goals (clear hr F3 N3; (repeat (rename Fr _ _ _ _ => FF; clear FF)); (repeat (rename News _ _ _ _ => NN; clear NN)))
  · intro i ti m₁ nx h₁ tk₁ I oI hi y0 hnI F4 N4; walk_at "q"; refine X1_3 y0 ?_; clear y0; intro fr' z0 hsu0 z1; subst z0; refine X3_4 z1 ?_; clear z1; intro place tp ext z2 hil hpl hgo; subst z2
    obtain ⟨lk', tq⟩ : ∃ q, q = l[i]'(by exact hlen' ▸ hi) := ⟨_, rfl⟩
    obtain ⟨lv, lt⟩ := lk'
    have hget : l[i]? = some (lv, lt) := by rw [tq]; exact List.getElem?_eq_getElem _
    have hitem : (textsV l)[i]? = some (.str (S lv) lt) := by unfold textsV; rw [List.getElem?_map, hget]; rfl
    have hdrop : (l.map (·.1)).drop i = lv :: (l.map (·.1)).drop (i + 1) := by
      have h : (l.map (·.1))[i]? = some lv := by rw [List.getElem?_map, hget]; rfl
      obtain ⟨h1, h2⟩ := List.getElem?_eq_some_iff.mp h
      rw [List.drop_eq_getElem_cons h1, h2]
    rw [hdrop] at hpl hgo
    have hsl : sumL (lv :: (l.map (·.1)).drop (i + 1)) = lv.length + 1 + sumL ((l.map (·.1)).drop (i + 1)) := rfl
    have hlv : lv.length ≤ 24 := by exact ar58 (c := 0) hx hpl hsl (Nat.le_refl _)
    have hbl : (lv.dropWhile [32, 9].contains).length ≤ lv.length := (List.dropWhile_sublist _).length_le
    have hd0 : (List.dropWhile [32, 9].contains lv).length ≤ 1000 := Nat.le_trans (ar58 (c := 0) hx hpl hsl hbl) (by decide)
    have hi62 : i < 2 ^ 62 := Nat.lt_of_lt_of_le (ar60 hlen hlen' hi) (by decide)
    k_steps
    have hl0 : (S (lv.dropWhile [32, 9].contains)).length ≤ 1000 := by rw [S_len]; exact Nat.le_trans (ar58 (c := 0) hx hpl hsl hbl) (by decide)
    refine StopAt.go ?_
    have hblk : ((lv.length : Int) - ((lv.dropWhile [32, 9].contains).length : Int)) = ((lv.length - (lv.dropWhile [32, 9].contains).length : Nat) : Int) := by exact ar55 hbl
    refine truthy_or hl0 (fun hne tk => ?_) (fun hz tk => ?_)
    · obtain ⟨c0, r0, hbr⟩ : ∃ c0 r0, lv.dropWhile [32, 9].contains = c0 :: r0 := by
        cases hq : lv.dropWhile [32, 9].contains with
        | nil => rw [hq] at hne; exact absurd rfl hne
        | cons c r => exact (Y2 c r rfl)
      have hi0 : Txt.item (S (lv.dropWhile [32, 9].contains)) 0 = S [c0] := item_S_eq (k := 0) (by rw [hbr]; rfl)
      k_steps
      · rename Fr _ _ _ _ => F5
        rename News _ _ _ _ => N5
        rename (Txt.item _ 0 != Str.ofString "#") = true => hsh
        rw [hi0] at hsh
        have hc35 : c0 ≠ 35 := of_decide_eq_true ((bneS (d := 35) (y := Str.ofString "#") rfl).symm.trans hsh)
        have hg : gapT x = .int (place + (lv.length - (lv.dropWhile [32, 9].contains).length)) := by
          rw [← hgo]
          unfold gapGo
          rw [if_pos ⟨hne, by rw [hbr]; simpa using hc35⟩]
        exact ret _ ((D, listOf (textsV l).toArray 0) :: news) fr' L _ _ _ (Y2 D _ ⟨fun p hp => Nat.ne_of_lt (l1 p (List.mem_append_left _ hp)), rfl, by rw [hg]; exact ⟨⟨_, congrArg (fun z => Value.int z _) (by walk_at "o")⟩, rfl⟩⟩) hsu0 (fresh_cons (TI.SameUp.refl _) l1 Fresh.refl) F5 (fun q hq => N5 q (List.mem_cons_of_mem _ hq))
      have hcond : ¬ ((lv.dropWhile [32, 9].contains).length ≠ 0 ∧ (lv.dropWhile [32, 9].contains)[0]? ≠ some 35) := by
        rename (Txt.item _ 0 != Str.ofString "#") = false => hsh
        rw [hi0] at hsh
        have hc35 := of_decide_eq_false ((bneS (d := 35) (y := Str.ofString "#") rfl).symm.trans hsh)
        rw [hbr]
        simp only [Classical.not_not] at hc35
        simp [hc35]
      have hfl := faultV_len (p := (lv.dropWhile [32, 9].contains).drop 1) (line := i + 1) (col := lv.length - (lv.dropWhile [32, 9].contains).length + 2) (by rw [List.length_drop]; exact Nat.le_trans (ar58 hx hpl hsl hbl) (by decide)) (Nat.le_trans (ar60 hlen hlen' hi) (by decide)) (Nat.le_trans (Nat.add_le_add_right (Nat.le_trans (Nat.sub_le ..) hlv) 2) (by decide))
      rename News _ _ _ _ => N5
      rename Fr _ _ _ _ => F5
      refine StopAt.go ?_
      rw [hblk]
      have hsep5 : Sep ((I, oI) :: (D, listOf (textsV l).toArray 0) :: news) fr' := sep_cons (fun q hq => Ne.symm (hnI q (List.mem_cons_of_mem _ (List.mem_append_right _ hq)))) (Sep.up (sep_cons (fun q hq => Nat.ne_of_gt (l1 q (List.mem_append_right _ hq))) hsep) hsu0)
      refine law_fault G (news := (I, oI) :: (D, listOf (textsV l).toArray 0) :: news) (p := (lv.dropWhile [32, 9].contains).drop 1) (line := i + 1) (col := lv.length - (lv.dropWhile [32, 9].contains).length + 2) (by rw [List.length_drop]; exact ar58 hx hpl hsl hbl) (Nat.le_trans (ar60 hlen hlen' hi) (by decide)) (Nat.le_trans (Nat.add_le_add_right (Nat.le_trans (Nat.sub_le ..) hlv) 2) (by decide)) _ _ _ _ _ _ fr' _ _ _ rfl rfl (hfr.up hsu0) F5 N5 hsep5 (by walk_at "o") (by walk_at "o") ?_ ?_
      · intro v lg fr2 h6 tk6 y0 hsu hF F6 N6; refine X0_2 y0 ?_; clear y0; intro z0 z2; refine X1_1 z0 ?_; clear z0; intro t z1; subst z1; subst z2
        clear F5 N5
        k_steps
        refine StopAt.go ?_
        rename News _ _ _ _ => N7
        rename Fr _ _ _ _ => F7
        clear F4 N4
        have hsu1 := hsu0.trans hsu
        refine truthy_or (Nat.le_trans hfl (by decide)) (fun hne2 tk => ?_) (fun hz2 tk => ?_)
        · k_steps
          rename News _ _ _ _ => N8
          rename Fr _ _ _ _ => F8
          have hg : gapT x = .str (faultV ((lv.dropWhile [32, 9].contains).drop 1) (i + 1) (lv.length - (lv.dropWhile [32, 9].contains).length + 2)) := by
            rw [← hgo]; unfold gapGo; rw [if_neg hcond, if_pos hne2]
          exact ret _ ((D, listOf (textsV l).toArray 0) :: news) fr2 L _ _ _ (Y2 D _ ⟨fun p hp => Nat.ne_of_lt (l1 p (List.mem_append_left _ hp)), rfl, by rw [hg]; exact ⟨⟨_, rfl⟩, rfl⟩⟩) hsu1 (fresh_cons (TI.SameUp.refl _) l1 Fresh.refl) F8 (fun q hq => N8 q (List.mem_cons_of_mem _ hq))
        · k_steps
          rename News _ _ _ _ => N8
          rename Fr _ _ _ _ => F8
          have hg : gapGo ((l.map (·.1)).drop (i + 1)) (i + 1) (place + (lv.length + 1)) = gapT x := by
            rw [← hgo]; conv => rhs; unfold gapGo
            rw [if_neg hcond, if_neg (fun h => h hz2)]
            rfl

          refine (Y4 _ _ _ _ ⟨rfl, F8, N8, ?_, fr2, rfl, hsu1, (Y3 (place + (lv.length + 1)) _ _ ⟨lk_many [(_, _), (_, _), (_, _), (_, _), (_, _)] _, hlen' ▸ hi, ar59 hpl hsl, hg⟩)⟩)
          exact ne_up hnI hsu
      · rintro _ _ _ _ _ _ _ ⟨⟩
    · k_steps
      have hcond : ¬ ((lv.dropWhile [32, 9].contains).length ≠ 0 ∧ (lv.dropWhile [32, 9].contains)[0]? ≠ some 35) := by
        rw [S_len] at hz
        exact fun h => h.1 hz
      have hfl := faultV_len (p := (lv.dropWhile [32, 9].contains).drop 1) (line := i + 1) (col := lv.length - (lv.dropWhile [32, 9].contains).length + 2) (by rw [List.length_drop]; exact Nat.le_trans (ar58 hx hpl hsl hbl) (by decide)) (Nat.le_trans (ar60 hlen hlen' hi) (by decide)) (Nat.le_trans (Nat.add_le_add_right (Nat.le_trans (Nat.sub_le ..) hlv) 2) (by decide))
      rename News _ _ _ _ => N5
      rename Fr _ _ _ _ => F5
      refine StopAt.go ?_
      rw [hblk]
      have hsep5 : Sep ((I, oI) :: (D, listOf (textsV l).toArray 0) :: news) fr' := sep_cons (fun q hq => Ne.symm (hnI q (List.mem_cons_of_mem _ (List.mem_append_right _ hq)))) (Sep.up (sep_cons (fun q hq => Nat.ne_of_gt (l1 q (List.mem_append_right _ hq))) hsep) hsu0)
      refine law_fault G (news := (I, oI) :: (D, listOf (textsV l).toArray 0) :: news) (p := (lv.dropWhile [32, 9].contains).drop 1) (line := i + 1) (col := lv.length - (lv.dropWhile [32, 9].contains).length + 2) (by rw [List.length_drop]; exact ar58 hx hpl hsl hbl) (Nat.le_trans (ar60 hlen hlen' hi) (by decide)) (Nat.le_trans (Nat.add_le_add_right (Nat.le_trans (Nat.sub_le ..) hlv) 2) (by decide)) _ _ _ _ _ _ fr' _ _ _ rfl rfl (hfr.up hsu0) F5 N5 hsep5 (by walk_at "o") (by walk_at "o") ?_ ?_
      · intro v lg fr2 h6 tk6 y0 hsu hF F6 N6; refine X0_2 y0 ?_; clear y0; intro z0 z2; refine X1_1 z0 ?_; clear z0; intro t z1; subst z1; subst z2
        clear F5 N5
        k_steps
        refine StopAt.go ?_
        rename News _ _ _ _ => N7
        rename Fr _ _ _ _ => F7
        clear F4 N4
        have hsu1 := hsu0.trans hsu
        refine truthy_or (Nat.le_trans hfl (by decide)) (fun hne2 tk => ?_) (fun hz2 tk => ?_)
        · k_steps
          rename News _ _ _ _ => N8
          rename Fr _ _ _ _ => F8
          have hg : gapT x = .str (faultV ((lv.dropWhile [32, 9].contains).drop 1) (i + 1) (lv.length - (lv.dropWhile [32, 9].contains).length + 2)) := by
            rw [← hgo]; unfold gapGo; rw [if_neg hcond, if_pos hne2]
          exact ret _ ((D, listOf (textsV l).toArray 0) :: news) fr2 L _ _ _ (Y2 D _ ⟨fun p hp => Nat.ne_of_lt (l1 p (List.mem_append_left _ hp)), rfl, by rw [hg]; exact ⟨⟨_, rfl⟩, rfl⟩⟩) hsu1 (fresh_cons (TI.SameUp.refl _) l1 Fresh.refl) F8 (fun q hq => N8 q (List.mem_cons_of_mem _ hq))
        · k_steps
          rename News _ _ _ _ => N8
          rename Fr _ _ _ _ => F8
          have hg : gapGo ((l.map (·.1)).drop (i + 1)) (i + 1) (place + (lv.length + 1)) = gapT x := by
            rw [← hgo]; conv => rhs; unfold gapGo
            rw [if_neg hcond, if_neg (fun h => h hz2)]
            rfl

          refine (Y4 _ _ _ _ ⟨rfl, F8, N8, ?_, fr2, rfl, hsu1, (Y3 (place + (lv.length + 1)) _ _ ⟨lk_many [(_, _), (_, _), (_, _), (_, _), (_, _)] _, hlen' ▸ hi, ar59 hpl hsl, hg⟩)⟩)
          exact ne_up hnI hsu
      · rintro _ _ _ _ _ _ _ ⟨⟩
  · intro h' tk' m' nx F4 N4 y0; refine X1_3 y0 ?_; clear y0; intro fr' z0 hsu0 z1; subst z0; refine X3_4 z1 ?_; clear z1; intro place tp ext z2 hil hpl hgo; subst z2
    have hdr : (l.map (·.1)).drop (textsV l).length = [] := List.drop_eq_nil_of_le (by rw [List.length_map]; lia)
    rw [hdr] at hpl hgo
    have h0 : sumL [] = 0 := rfl
    k_steps
    rename News _ _ _ _ => N8
    rename Fr _ _ _ _ => F8
    have hg : gapT x = .int (place - 1) := by rw [← hgo]; rfl
    exact ret _ ((D, listOf (textsV l).toArray 0) :: news) fr' L _ _ _ (Y2 D _ ⟨fun p hp => Nat.ne_of_lt (l1 p (List.mem_append_left _ hp)), rfl, by rw [hg]; exact ⟨⟨_, congrArg (fun z => Value.int z _) (by exact ar61 hpl h0)⟩, rfl⟩⟩) hsu0 (fresh_cons (TI.SameUp.refl _) l1 Fresh.refl) F8 N8

end
section
open PySem PySem.W PyProof.Rows PySem.Calls PySem.Spec
set_option maxHeartbeats 4000000
variable {w : World} {mean : ExcName → Option Value} {mg mb : Str → Option Value} {b : Heap} {news : List (Addr × Obj)}
noncomputable def AnsIn (lg : List (Addr × Obj)) : Ans → Value → Prop
  | .int n, r => ∃ t, r = .int n t
  | .tup n y, r => ∃ a ta tb, r = .ref a ∧ (a, tup2 n y ta tb) ∈ lg
  | .str m, r => ∃ t, r = .str m t
theorem AnsIn.of {an : Ans} {r : Value} {lg base : List (Addr × Obj)} (h : IsAns an r lg base) : AnsIn lg an r := by
  cases an with
  | int n => exact h.1
  | tup n y => refine X3_3 h ?_; clear h; intro a ta tb z0 z1 _; subst z0; subst z1; exact (Y3 a ta tb ⟨rfl, List.mem_cons_self⟩)
  | str m => exact h.1
theorem AnsIn.mono {an : Ans} {r : Value} {lg lg' : List (Addr × Obj)} (h : AnsIn lg an r) (k : ∀ p ∈ lg, p ∈ lg') : AnsIn lg' an r := by
  cases an with
  | int n => exact h
  | tup n y => refine X3_2 h ?_; clear h; intro a ta tb z0 h; subst z0; exact (Y3 a ta tb ⟨rfl, k _ h⟩)
  | str m => exact h
noncomputable def Grew (news lg : List (Addr × Obj)) : Prop := ∃ ex, lg = ex ++ news ∧ ∀ p ∈ ex, ∀ q ∈ news, p.1 ≠ q.1
theorem Grew.refl {news : List (Addr × Obj)} : Grew news news := ⟨[], rfl, fun p hp => nomatch hp⟩
theorem Grew.cons {news : List (Addr × Obj)} {D : Addr} {o : Obj} (h : ∀ p ∈ news, p.1 ≠ D) : Grew news ((D, o) :: news) := ⟨[(D, o)], rfl, fun p hp q hq => by rw [List.mem_singleton.mp hp]; exact Ne.symm (h q hq)⟩
theorem Grew.trans {a b c : List (Addr × Obj)} (h1 : Grew a b) (h2 : Grew b c) : Grew a c := by
  refine X1_2 h1 ?_; clear h1; intro e1 z0 k1; subst z0
  refine X1_2 h2 ?_; clear h2; intro e2 z0 k2; subst z0
  refine ⟨e2 ++ e1, by rw [List.append_assoc], fun p hp q hq => ?_⟩
  refine mem_a hp (fun y => ?_) fun y => ?_
  · exact k2 p y q (List.mem_append_right _ hq)
  · exact k1 p y q hq
theorem Grew.of {an : Ans} {r : Value} {lg base : List (Addr × Obj)} (h : IsAns an r lg base) : Grew base lg := by
  cases an with
  | int n => rw [h.2]; exact Grew.refl
  | tup n y => refine X3_3 h ?_; clear h; intro a ta tb z0 z1 k; subst z0; subst z1; exact Grew.cons k
  | str m => rw [h.2]; exact Grew.refl
noncomputable def toldV (k : Nat) (x : List Nat) : Ans :=
  if k = 0 then .int (x.length - (x.dropWhile [32, 9].contains).length) else
  if k = 5 then .int (x.length - (x.dropWhile [97, 102, 48, 100, 56].contains).length) else
  if k = 2 then gapT x else
  if k = 4 then fourT x else
  if k = 1 then (if x[0]? = some 35 then (if (faultV (((splitL 10 x).headD []).drop 1) 1 2).length ≠ 0 then .str (faultV (((splitL 10 x).headD []).drop 1) 1 2) else .int ((splitL 10 x).headD []).length) else .int 0) else
  if x[0]? ≠ some 39 then .int 0 else
  if (splitL 39 x).length = 2 then .str (Str.ofString "Expected \"'\" (at end of document)") else
  if (faultV ((splitL 39 x).getD 1 []) 1 2).length ≠ 0 then .str (faultV ((splitL 39 x).getD 1 []) 1 2) else .tup (((splitL 39 x).getD 1 []).length + 2) ((splitL 39 x).getD 1 [])
theorem item_Lz {w : World} {A : Around} {E : Value → Shared → Prop} {s : Shared} {Q : Value → Shared → Prop} {b : Heap} {L D : Addr} {news : List (Addr × Obj)} {ys : List Value} {n : Nat} {ki : Int} {k : Nat} {u : Tok} {value slice : Expr} (hki : ki = (k : Int)) (N : News b L s.heap news) (hm : (D, listOf ys.toArray n) ∈ news) (hk : k < 2 ^ 62) {v : Value} (hv : ys[k]? = some v) (h : Q v s)
    (hs : subscripted slice false (.ref D) (.int ki u) = operate [.ref D, .int ki u] (getItem (.ref D) (.int ki u)) := by with_unfolding_all rfl) :
    wpAny (model prg w) A (subscriptTail value slice (.ref D) (.int ki u)) Q E s := by
  subst hki
  exact item_L N hm hk hv h hs
local macro_rules | `(tactic| walk_at "subscriptTail") => `(tactic| k_dflt (refine item_Lz (k := 0) (by exact rfl) (by k_asm) (by k_mem) (by walk_at "o") (by assumption) ?_))
local macro_rules | `(tactic| walk_at "subscriptTail") => `(tactic| k_dflt (refine item_Lz (k := 1) (by exact rfl) (by k_asm) (by k_mem) (by walk_at "o") (by assumption) ?_))
theorem texts_at {l : List (List Nat × Tok)} {z : List (List Nat)} (h : l.map (·.1) = z) {k : Nat} {p : List Nat} (hp : z[k]? = some p) : ∃ t, (textsV l)[k]? = some (.str (S p) t) := by
  subst h
  rw [List.getElem?_map] at hp
  unfold textsV
  rw [List.getElem?_map]
  cases hl : l[k]? with
  | none => rw [hl] at hp; cases hp
  | some a => rw [hl] at hp; cases hp; exact ⟨a.2, rfl⟩
theorem law_told (G : Gd w mean mg mb b) {x : List Nat} {k : Nat} {t1 t2 : Tok} (hk : k < 6) (hx : x.length ≤ 24) (h1 : 1 ≤ x.length) :
    JSpec w b none 14 (.ref 245) [.str (kindS k) t1, .str (S x) t2] [] news (fun r lg => Grew news lg ∧ AnsIn lg (toldV k x) r) (fun _ _ => False) := by
  walk_at "J def"
  intro dp un outer L fr s Q Ec hfr F N hsep hdp hun ret rai
  refine let_all ?_
  intro aV eV eX qX
  have X := G.K
  have T := G.T
  have hd1 : (x.dropWhile [32, 9].contains).length ≤ x.length := (List.dropWhile_sublist _).length_le
  have hd2 : (x.dropWhile [97, 102, 48, 100, 56].contains).length ≤ x.length := (List.dropWhile_sublist _).length_le
  have six : k = 0 ∨ k = 1 ∨ k = 2 ∨ k = 3 ∨ k = 4 ∨ k = 5 := by exact ar41 hk
  rcases six with rfl | rfl | rfl | rfl | rfl | rfl
  all_goals replace F : Fr b L s.heap (lk [(Str.ofString "rest", .str (S x) t2), (Str.ofString "kind", .str (kindS _) t1)]) := F
  all_goals k_steps
  · exact ret _ news fr L _ _ _ ⟨Grew.refl, ⟨_, congrArg (fun z => Value.int z _) (show _ = ((x.length - (x.dropWhile [32, 9].contains).length : Nat) : Int) by exact ar55 hd1)⟩⟩ (TI.SameUp.refl _) Fresh.refl F N
  · refine StopAt.go ?_
    refine split_K (c := 10) rfl (by decide) (by walk_at "o") F N ?_
    intro D l h1' k1 he F1 N1 l1
    refine X2_1 (splitL_ne 10 x) ?_; intro p' q hpq
    refine X1_1 (texts_at he (k := 0) (p := p') (by rw [hpq]; rfl)) ?_; intro tp hitem
    have hsum := sumL_split 10 x
    rw [hpq] at hsum
    have hs2 : sumL (p' :: q) = p'.length + 1 + sumL q := rfl
    have hp24 : p'.length ≤ 24 := by exact ar57 (c := 0) hx hsum hs2
    have hhd : (splitL 10 x).headD [] = p' := by rw [hpq]; rfl
    obtain ⟨c0, hx0⟩ : ∃ c0, x[0]? = some c0 := ⟨x[0], List.getElem?_eq_getElem (by walk_at "o")⟩
    have hi0 : Txt.item (S x) 0 = S [c0] := item_S_eq (k := 0) hx0
    have hfl := faultV_len (p := p'.drop 1) (line := 1) (col := 2) (by rw [List.length_drop]; exact Nat.le_trans (ar57 hx hsum hs2) (by decide)) (by walk_at "o") (by walk_at "o")
    k_steps
    · rename News _ _ _ _ => N5
      rename Fr _ _ _ _ => F5
      rename (Txt.item (S x) 0 == Str.ofString "#") = true => hsh
      rw [hi0] at hsh
      have hc35 : c0 = 35 := of_decide_eq_true ((beqS (d := 35) (y := Str.ofString "#") rfl).symm.trans hsh)
      have hv : toldV 1 x = if (faultV (p'.drop 1) 1 2).length ≠ 0 then .str (faultV (p'.drop 1) 1 2) else .int p'.length := by
        show (if x[0]? = some 35 then _ else _) = _
        rw [if_pos (by rw [hx0, hc35]), hhd]
      refine StopAt.go ?_
      have hsep5 : Sep ((D, listOf (textsV l).toArray 0) :: news) fr := sep_cons (fun q hq => Nat.ne_of_gt (l1 q (List.mem_append_right _ hq))) hsep
      refine law_fault G (news := (D, listOf (textsV l).toArray 0) :: news) (p := p'.drop 1) (line := 1) (col := 2) (by rw [List.length_drop]; exact ar57 hx hsum hs2) (by walk_at "o") (by walk_at "o") _ _ _ _ _ _ fr _ _ _ rfl rfl hfr F5 N5 hsep5 (by walk_at "o") (by walk_at "o") ?_ ?_
      · intro v lg fr2 h6 tk6 y0 hsu hF F6 N6; refine X0_2 y0 ?_; clear y0; intro z0 z2; refine X1_1 z0 ?_; clear z0; intro t z1; subst z1; subst z2
        clear F5 N5
        refine truthy_or (Nat.le_trans hfl (by decide)) (fun hne2 tk => ?_) (fun hz2 tk => ?_)
        · refine ret _ ((D, listOf (textsV l).toArray 0) :: news) fr2 _ _ _ _ ⟨Grew.cons (fun p hp => Nat.ne_of_lt (l1 p (List.mem_append_left _ hp))), by rw [hv, if_pos hne2]; exact ⟨_, rfl⟩⟩ hsu (fresh_cons (TI.SameUp.refl _) l1 Fresh.refl) F6 N6
        · refine if_f ?_
          k_steps
          rename News _ _ _ _ => N8
          rename Fr _ _ _ _ => F8
          refine ret _ ((D, listOf (textsV l).toArray 0) :: news) fr2 _ _ _ _ ⟨Grew.cons (fun p hp => Nat.ne_of_lt (l1 p (List.mem_append_left _ hp))), by rw [hv, if_neg (fun h => h hz2)]; exact ⟨_, rfl⟩⟩ hsu (fresh_cons (TI.SameUp.refl _) l1 Fresh.refl) F8 N8
      · rintro _ _ _ _ _ _ _ ⟨⟩
    · rename News _ _ _ _ => N5
      rename Fr _ _ _ _ => F5
      rename (Txt.item (S x) 0 == Str.ofString "#") = false => hsh
      rw [hi0] at hsh
      have hc35 : c0 ≠ 35 := of_decide_eq_false ((beqS (d := 35) (y := Str.ofString "#") rfl).symm.trans hsh)
      have hv : toldV 1 x = .int 0 := by
        show (if x[0]? = some 35 then _ else _) = _
        rw [if_neg (by rw [hx0]; simpa using hc35)]
      refine ret _ ((D, listOf (textsV l).toArray 0) :: news) fr _ _ _ _ ⟨Grew.cons (fun p hp => Nat.ne_of_lt (l1 p (List.mem_append_left _ hp))), by rw [hv]; exact ⟨_, rfl⟩⟩ (TI.SameUp.refl _) (fresh_cons (TI.SameUp.refl _) l1 Fresh.refl) F5 N5
  · refine StopAt.go ?_
    refine law_gap G (news := news) hx _ _ _ _ _ _ fr _ _ _ rfl rfl hfr F N hsep (by walk_at "o") (by walk_at "o") ?_ ?_
    · intro v lg fr2 h6 tk6 y0 hsu hF F6 N6; refine X2_3 y0 ?_; clear y0; intro D os hD z0 hA; subst z0
      exact ret _ _ fr2 L _ _ _ ⟨Grew.cons hD, AnsIn.of hA⟩ hsu (fresh_of hF) F6 N6
    · rintro _ _ _ _ _ _ _ ⟨⟩
  · rename (Txt.item (S x) 0 != Str.ofString "'") = true => hsh
    obtain ⟨c0, hx0⟩ : ∃ c0, x[0]? = some c0 := ⟨x[0], List.getElem?_eq_getElem (by walk_at "o")⟩
    have hi0 : Txt.item (S x) 0 = S [c0] := item_S_eq (k := 0) hx0
    rw [hi0] at hsh
    have hc39 : c0 ≠ 39 := of_decide_eq_true ((bneS (d := 39) (y := Str.ofString "'") rfl).symm.trans hsh)
    have hv : toldV 3 x = .int 0 := by
      show (if x[0]? ≠ some 39 then _ else _) = _
      rw [if_pos (by rw [hx0]; simpa using hc39)]
    rename News _ _ _ _ => N5
    rename Fr _ _ _ _ => F5
    refine ret _ news fr _ _ _ _ ⟨Grew.refl, by rw [hv]; exact ⟨_, rfl⟩⟩ (TI.SameUp.refl _) Fresh.refl F5 N5
  · rename (Txt.item (S x) 0 != Str.ofString "'") = false => hsh
    obtain ⟨c0, hx0⟩ : ∃ c0, x[0]? = some c0 := ⟨x[0], List.getElem?_eq_getElem (by walk_at "o")⟩
    have hi0 : Txt.item (S x) 0 = S [c0] := item_S_eq (k := 0) hx0
    rw [hi0] at hsh
    have hc39 : c0 = 39 := Classical.not_not.mp (of_decide_eq_false ((bneS (d := 39) (y := Str.ofString "'") rfl).symm.trans hsh))
    subst hc39
    rename News _ _ _ _ => N5
    rename Fr _ _ _ _ => F5
    refine StopAt.go ?_
    refine split_K (c := 39) rfl (by decide) (by walk_at "o") F5 N5 ?_
    intro D l h1' k1 he F1 N1 l1
    clear F5 N5
    obtain ⟨r, hxr⟩ : ∃ r, x = 39 :: r := by
      cases x with
      | nil => cases hx0
      | cons a r => cases hx0; exact ⟨r, rfl⟩
    refine X2_1 (splitL_ne 39 r) ?_; intro p' q hpq
    have hsp : splitL 39 x = [] :: p' :: q := by rw [hxr]; show [] :: splitL 39 r = _; rw [hpq]
    refine X1_1 (texts_at he (k := 1) (p := p') (by rw [hsp]; rfl)) ?_; intro tp hitem
    have hll : l.length = q.length + 2 := by have := congrArg List.length he; rw [List.length_map, hsp] at this; simpa using this
    have hsum := sumL_split 39 x
    rw [hsp] at hsum
    have hs2 : sumL ([] :: p' :: q) = 0 + 1 + (p'.length + 1 + sumL q) := rfl
    have hp24 : p'.length ≤ 24 := by lia
    have hq24 := sumL_len q
    have hlen2 : (textsV l).length = q.length + 2 := by unfold textsV; rw [List.length_map, hll]
    have hgd : (splitL 39 x).getD 1 [] = p' := by rw [hsp]; rfl
    have hfl := faultV_len (p := p') (line := 1) (col := 2) (by walk_at "o") (by walk_at "o") (by walk_at "o")
    have hv : toldV 3 x = if q.length = 0 then .str (Str.ofString "Expected \"'\" (at end of document)") else if (faultV p' 1 2).length ≠ 0 then .str (faultV p' 1 2) else .tup (p'.length + 2) p' := by
      show (if x[0]? ≠ some 39 then _ else if (splitL 39 x).length = 2 then _ else _) = _
      rw [if_neg (fun h => h hx0), hgd, hsp]
      by_cases h : q.length = 0
      · rw [if_pos (by simp [h]), if_pos h]
      · rw [if_neg (by simp; exact fun e => h (by rw [e]; rfl)), if_neg h]
    k_steps
    · rename News _ _ _ _ => N5
      rename Fr _ _ _ _ => F5
      rename _ = (2 : Int) => he2
      have hq0 : q.length = 0 := by lia
      refine ret _ ((D, listOf (textsV l).toArray 0) :: news) fr _ _ _ _ ⟨Grew.cons (fun p hp => Nat.ne_of_lt (l1 p (List.mem_append_left _ hp))), by rw [hv, if_pos hq0]; exact ⟨_, rfl⟩⟩ (TI.SameUp.refl _) (fresh_cons (TI.SameUp.refl _) l1 Fresh.refl) F5 N5
    · rename News _ _ _ _ => N5
      rename Fr _ _ _ _ => F5
      rename _ ≠ (2 : Int) => he2
      have hq0 : q.length ≠ 0 := by lia
      rw [if_neg hq0] at hv
      refine StopAt.go ?_
      have hsep5 : Sep ((D, listOf (textsV l).toArray 0) :: news) fr := sep_cons (fun q hq => Nat.ne_of_gt (l1 q (List.mem_append_right _ hq))) hsep
      refine law_fault G (news := (D, listOf (textsV l).toArray 0) :: news) (p := p') (line := 1) (col := 2) hp24 (by walk_at "o") (by walk_at "o") _ _ _ _ _ _ fr _ _ _ rfl rfl hfr F5 N5 hsep5 (by walk_at "o") (by walk_at "o") ?_ ?_
      · intro v lg fr2 h6 tk6 y0 hsu hF F6 N6; refine X0_2 y0 ?_; clear y0; intro z0 z2; refine X1_1 z0 ?_; clear z0; intro t z1; subst z1; subst z2
        clear F5 N5
        refine truthy_or (Nat.le_trans hfl (by decide)) (fun hne2 tk => ?_) (fun hz2 tk => ?_)
        · refine ret _ ((D, listOf (textsV l).toArray 0) :: news) fr2 _ _ _ _ ⟨Grew.cons (fun p hp => Nat.ne_of_lt (l1 p (List.mem_append_left _ hp))), by rw [hv, if_pos hne2]; exact ⟨_, rfl⟩⟩ hsu (fresh_cons (TI.SameUp.refl _) l1 Fresh.refl) F6 N6
        · refine if_f ?_
          k_steps
          rename News _ _ _ _ => N8
          rename Fr _ _ _ _ => F8
          rename ∀ p ∈ (D, listOf (textsV l).toArray 0) :: news ++ fr2, _ => l2
          refine X2_1 (tup_out (n := p'.length + 2) (y := p') N8) ?_; intro ua ub N9
          exact ret _ ((_, tup2 (p'.length + 2) p' ua ub) :: (D, listOf (textsV l).toArray 0) :: news) fr2 _ _ _ _ ⟨Grew.trans (Grew.cons (fun p hp => Nat.ne_of_lt (l1 p (List.mem_append_left _ hp)))) (Grew.cons (fun p hp => Nat.ne_of_lt (l2 p (List.mem_append_left _ hp)))), by rw [hv, if_neg (fun h => h hz2)]; exact (Y3 _ _ _ ⟨rfl, List.mem_cons_self⟩)⟩ hsu (fresh_cons hsu (fun p hp => l2 p (List.mem_cons_of_mem _ hp)) (fresh_cons (TI.SameUp.refl _) l1 Fresh.refl)) F8 N9
      · rintro _ _ _ _ _ _ _ ⟨⟩
  · refine StopAt.go ?_
    refine law_four G (news := news) hx _ _ _ _ _ _ fr _ _ _ rfl rfl hfr F N hsep (by walk_at "o") (by walk_at "o") ?_ ?_
    · rintro v lg fr2 h6 tk6 hA hsu hF F6 N6
      exact ret _ _ fr2 L _ _ _ ⟨Grew.of hA, AnsIn.of hA⟩ hsu (fresh_of hF) F6 N6
    · rintro _ _ _ _ _ _ _ ⟨⟩
  · exact ret _ news fr L _ _ _ ⟨Grew.refl, ⟨_, congrArg (fun z => Value.int z _) (show _ = ((x.length - (x.dropWhile [97, 102, 48, 100, 56].contains).length : Nat) : Int) by exact ar55 hd2)⟩⟩ (TI.SameUp.refl _) Fresh.refl F N

end
section
open PySem PySem.W PyProof.Rows PySem.Calls PySem.Spec
set_option maxHeartbeats 4000000
variable {w : World} {mean : ExcName → Option Value} {mg mb : Str → Option Value} {b : Heap} {news : List (Addr × Obj)}
noncomputable abbrev entD (P : Params) (u l : Addr) (t1 t2 t3 t4 : Tok) : List DictEntry :=
  [⟨PyData.keyHash P (Str.ofString "useragents"), .str (Str.ofString "useragents") t1, .ref u⟩, ⟨PyData.keyHash P (Str.ofString "rulelines"), .str (Str.ofString "rulelines") t2, .ref l⟩,
    ⟨PyData.keyHash P (Str.ofString "delay"), .str (Str.ofString "delay") t3, .none⟩, ⟨PyData.keyHash P (Str.ofString "req_rate"), .str (Str.ofString "req_rate") t4, .none⟩]
theorem fresh_lt {inp lg fr : List (Addr × Obj)} {D : Addr} {o : Obj} (h : ∀ p ∈ inp ++ fr, p.1 < D) (hF : Fresh inp fr lg) : Fresh inp fr ((D, o) :: lg) := fun p hp => by
  refine mem_c p hp ?_ fun hp => ?_
  · exact .inr fun q hq => Ne.symm (Nat.ne_of_lt (h q hq))
  · exact hF p hp
theorem lt_tail {l : List (Addr × Obj)} {D : Addr} (h : AllLt D l) : ∀ p ∈ l, p.1 < D := by
  induction l with
  | nil => intro p hp; cases hp
  | cons a r ih => intro p hp; refine mem_c p hp ?_ fun hp => ?_; exact h.1; exact ih h.2 p hp
theorem ent_out {w : World} {b h : Heap} {L l u x dx : Addr} {t1 t2 t3 t4 : Tok} {r : List (Addr × Obj)} (N : News b L h ((l, listOf #[] 0) :: (u, listOf #[] 0) :: (x, instObj 52 dx) :: (dx, dictOf (entD w.params u l t1 t2 t3 t4) 4) :: r)) :
    ∃ t1 t2 t3 t4, News b L h ((l, listOf #[] 0) :: (u, listOf #[] 0) :: (x, instObj 52 dx) :: (dx, dictOf (entD w.params u l t1 t2 t3 t4) 4) :: r) := (Y4 _ _ _ _ N)
theorem entry_init (G : Gd w mean mg mb b) {hd : Option Value} {x dx : Addr} (hne : ∀ p ∈ news, p.1 ≠ x ∧ p.1 ≠ dx) (hxd : @LT.lt Nat _ dx x) :
    JCode w b hd 4 (.ref 28) [.ref x] [] ((x, instObj 52 dx) :: (dx, dictOf [] 0) :: news)
      (fun r lg => r = .none ∧ ∃ u l t1 t2 t3 t4, lg = (l, listOf #[] 0) :: (u, listOf #[] 0) :: (x, instObj 52 dx) :: (dx, dictOf (entD w.params u l t1 t2 t3 t4) 4) :: news ∧ @LT.lt Nat _ x u ∧ @LT.lt Nat _ u l) (fun _ _ => False) := by
  walk_at "J code"
  intro dp un outer L fr s Q Ec hfr F N hsep hdp hun ret rai
  refine let_all ?_
  intro aV eV eX qX
  have X := G.K
  have T := G.T
  replace F : Fr b L s.heap (lk [(Str.ofString "self", .ref x)]) := F
  replace N : News b L s.heap ((x, instObj 52 dx) :: (dx, dictOf [] 0) :: (news ++ fr)) := N
  have hr1 : ∀ p ∈ news ++ fr, p.1 ≠ dx := fun p hp => (List.mem_append.mp hp).elim (fun q => (hne p q).2) fun q => Ne.symm (hsep (dx, dictOf [] 0) (List.mem_cons_of_mem _ List.mem_cons_self) p q)
  have hr2 : ∀ p ∈ news ++ fr, p.1 ≠ x := fun p hp => (List.mem_append.mp hp).elim (fun q => (hne p q).1) fun q => Ne.symm (hsep (x, instObj 52 dx) (List.mem_cons_self) p q)
  k_steps
  rename Fr _ _ _ _ => F5
  rename News _ _ _ _ => N5
  rename _ < _ ∧ x < _ ∧ _ => lt2
  rename x < _ ∧ _ => lt1
  refine X4_1 (ent_out N5) ?_; intro t1 t2 t3 t4 N6
  refine ret _ _ fr _ _ _ _ ⟨rfl, (Y6 _ _ t1 t2 t3 t4 ⟨rfl, lt1.1, lt2.1⟩)⟩ (TI.SameUp.refl _) ?_ F5 N6
  refine fresh_lt (fun p hp => ?_) (fresh_lt (fun p hp => ?_) ?_)
  · refine mem_c p hp ?_ fun hp => ?_
    · exact lt2.2.1
    · refine mem_c p hp ?_ fun hp => ?_
      · exact lt2.2.2.1
      · exact lt_tail lt2.2.2.2 p hp
  · refine mem_c p hp ?_ fun hp => ?_
    · exact lt1.1
    · refine mem_c p hp ?_ fun hp => ?_
      · exact lt1.2.1
      · exact lt_tail lt1.2.2 p hp
  · intro p hp
    left
    refine mem_c p hp ?_ fun hp => ?_
    · exact List.mem_cons_self
    · refine mem_c p hp ?_ fun hp => ?_
      · exact List.mem_cons_of_mem _ List.mem_cons_self
      · exact List.mem_cons_of_mem _ (List.mem_cons_of_mem _ (List.mem_map_of_mem hp))
theorem new_entry (G : Gd w mean mg mb b) {hd : Option Value} :
    JSpec w b hd 6 (.ref 52) [] [] news
      (fun r lg => ∃ x dx u l t1 t2 t3 t4, r = .ref x ∧ lg = (l, listOf #[] 0) :: (u, listOf #[] 0) :: (x, instObj 52 dx) :: (dx, dictOf (entD w.params u l t1 t2 t3 t4) 4) :: news ∧ (∀ p ∈ news, @LT.lt Nat _ p.1 dx) ∧ @LT.lt Nat _ dx x ∧ @LT.lt Nat _ x u ∧ @LT.lt Nat _ u l) (fun _ _ => False) := by
  intro dp un env outer L m frs s Q E hf hke hfrs F N hsep hdp hun ret rai
  refine call_cls F G.K N (by k_dflt k_is) (by k_dflt k_is) (by k_dflt k_is) ?_
  intro x dx h' F' N' l1 hdx
  have ln : ∀ p ∈ news, p.1 < dx := fun p hp => l1 p (List.mem_append_left _ hp)
  have lf : ∀ p ∈ frs, p.1 < dx := fun p hp => l1 p (List.mem_append_right _ hp)
  have hs2 : Sep ((x, instObj 52 dx) :: (dx, dictOf [] 0) :: news) frs := sep_cons (fun q hq => Nat.ne_of_gt (Nat.lt_trans (lf q hq) hdx)) (sep_cons (fun q hq => Nat.ne_of_gt (lf q hq)) hsep)
  refine entry_init G (news := news) (x := x) (dx := dx) (fun p hp => ⟨Nat.ne_of_lt (Nat.lt_trans (ln p hp) hdx), Nat.ne_of_lt (ln p hp)⟩) hdx (dp + 1) (un + 1) env outer L m frs { s with heap := h' } _ _ hf hke hfrs F' N' hs2 (by walk_at "o") (by walk_at "o") ?_ ?_
  · intro v lg frs' h6 tk6 y0 hsu hF F6 N6; refine X0_2 y0 ?_; clear y0; intro z0 z1; subst z0; refine X6_3 z1 ?_; clear z1; intro u l t1 t2 t3 t4 z2 h1 h2; subst z2
    refine ⟨rfl, ret _ _ frs' _ _ (Y8 x dx u l t1 t2 t3 t4 ⟨rfl, rfl, ln, hdx, h1, h2⟩) hsu ?_ F6 N6⟩
    intro p hp
    rcases hF p hp with z | z
    · refine mem_e z (fun z => ?_) fun z => ?_
      · exact .inr ⟨fun q hq => by rw [z]; exact Nat.ne_of_gt (Nat.lt_trans (l1 q hq) hdx), by rw [z]; exact (N' _ List.mem_cons_self).2.1⟩
      · refine mem_e z (fun z => ?_) fun z => ?_
        · exact .inr ⟨fun q hq => by rw [z]; exact Nat.ne_of_gt (l1 q hq), by rw [z]; exact (N' _ (List.mem_cons_of_mem _ List.mem_cons_self)).2.1⟩
        · exact .inl z
    · exact .inr ⟨fun q hq => z.1 q (List.mem_cons_of_mem _ (List.mem_cons_of_mem _ hq)), z.2⟩
  · rintro _ _ _ _ _ _ _ ⟨⟩

end
section
open PySem PySem.W PyProof.Rows PySem.Calls PySem.Spec
set_option maxHeartbeats 4000000
variable {w : World} {mean : ExcName → Option Value} {mg mb : Str → Option Value} {b : Heap} {news : List (Addr × Obj)}
local macro_rules | `(tactic| walk_at "exec For Name Name cons nil") => `(tactic| k_dflt (refine stopAt ?_))
theorem fresh_map {inp fr lg lg' : List (Addr × Obj)} (e : lg'.map (·.1) = lg.map (·.1)) (hF : Fresh inp fr lg) : Fresh inp fr lg' := fun p hp => by
  have : p.1 ∈ lg'.map (·.1) := List.mem_map_of_mem hp
  rw [e] at this
  refine X1_2 (List.mem_map.mp this) ?_; intro q h1 h2
  rw [← h2]; exact hF q h1
theorem take_push {rs : List Value} {i : Nat} {v : Value} (h : rs[i]? = some v) : (rs.take i).toArray.push v = (rs.take (i + 1)).toArray := by
  rw [List.push_toArray, List.take_add_one, h]; rfl
theorem law_record (G : Gd w mean mg mb b) {hd : Option Value} {Dr : Addr} {rs : List Value} {nr : Nat} (hm : (Dr, W.listOf rs.toArray nr) ∈ news) (hrs : rs.length ≤ 8) :
    JSpec w b none 9 (.ref 214) [.ref Dr] [] news
      (fun r lg => ∃ x dx u l t1 t2 t3 t4 n, r = .ref x ∧ lg = (l, W.listOf rs.toArray n) :: (u, W.listOf #[] 0) :: (x, instObj 52 dx) :: (dx, dictOf (entD w.params u l t1 t2 t3 t4) 4) :: news ∧ (∀ p ∈ news, @LT.lt Nat _ p.1 dx) ∧ @LT.lt Nat _ dx x ∧ @LT.lt Nat _ x u ∧ @LT.lt Nat _ u l) (fun _ _ => False) := by
  walk_at "J def"
  intro dp un outer L fr s Q Ec hfr F N hsep hdp hun ret rai
  refine let_all ?_
  intro aV eV eX qX
  have X := G.K
  have T := G.T
  replace F : Fr b L s.heap (lk [(Str.ofString "rules", .ref Dr)]) := F
  k_steps
  refine StopAt.go ?_
  refine new_entry G (news := news) _ _ _ _ _ _ fr _ _ _ rfl rfl hfr F N hsep (by walk_at "o") (by walk_at "o") ?_ ?_
  · intro v lg fr2 h6 tk6 y0 hsu hF F6 N6; refine X8_6 y0 ?_; clear y0; intro x dx u l t1 t2 t3 t4 z0 z1 h1 h2 h3 h4; subst z0; subst z1
    clear F N
    have hsp := sep_fresh hsep hF hsu
    replace N6 : News b L h6 ((l, W.listOf #[] 0) :: (u, W.listOf #[] 0) :: (x, instObj 52 dx) :: (dx, dictOf (entD w.params u l t1 t2 t3 t4) 4) :: (news ++ fr2)) := N6
    have hal : ∀ p ∈ news ++ fr2, p.1 ≠ l := fun p hp => (List.mem_append.mp hp).elim (fun q => Nat.ne_of_lt (Nat.lt_trans (h1 p q) (Nat.lt_trans h2 (Nat.lt_trans h3 h4)))) fun q => Ne.symm (hsp (l, W.listOf #[] 0) List.mem_cons_self p q)
    k_steps
    refine StopAt.go ?_
    refine For_J b ?_
    k_steps
    rename Fr _ _ _ _ => F7
    rename News _ _ _ _ => N7
    refine over_list (s := ⟨_, _, _, _, _⟩) (D := Dr) (ys := rs) (n := nr) rfl F7 N7 (by walk_at "m") (fun i m₁ nx => ∃ n ext, nx = (l, W.listOf (rs.take i).toArray n) :: (u, W.listOf #[] 0) :: (x, instObj 52 dx) :: (dx, dictOf (entD w.params u l t1 t2 t3 t4) 4) :: (news ++ fr2) ∧ m₁ = lk ((Str.ofString "rules", .ref Dr) :: (Str.ofString "entry", .ref x) :: ext)) (Y2 0 [] ⟨rfl, lk_many [(_, _)] _⟩) ?_ ?_ ?_
    · intro i m₁ nx y0; refine X2_2 y0 ?_; clear y0; intro n ext z0 _; subst z0
      simp [hm]
    · intro i v m₁ nx h₁ tk₁ I oI _ hv y0 hnI F8 N8; walk_at "q"; refine X2_2 y0 ?_; clear y0; intro n ext z0 z1; subst z0; subst z1
      have hIl : @Ne Nat l I := hnI (l, _) List.mem_cons_self
      have hIx : @Ne Nat x I := hnI (x, instObj 52 dx) (by walk_at "m")
      have hIdx : @Ne Nat dx I := hnI (dx, dictOf (entD w.params u l t1 t2 t3 t4) 4) (by walk_at "m")
      clear F7 N7
      k_steps
      rename Fr _ _ _ _ => F9
      rename News _ _ _ _ => N9
      rw [take_push hv] at N9
      refine (Y4 _ _ _ _ ⟨rfl, F9, N9, fun p hp => ?_, (Y2 _ _ ⟨rfl, lk_many [(_, _)] _⟩)⟩)
      refine mem_c p hp ?_ fun hp => ?_
      · exact hIl
      · exact hnI p (List.mem_cons_of_mem _ hp)
    · intro h' tk' m' nx F8 N8 y0; refine X2_2 y0 ?_; clear y0; intro n ext z0 z1; subst z0; subst z1
      rw [List.take_length] at N8
      clear F7 N7
      k_steps
      rename Fr _ _ _ _ => F9
      rename News _ _ _ _ => N9
      exact ret _ _ fr2 _ _ _ _ (Y9 x dx u l t1 t2 t3 t4 n ⟨rfl, rfl, h1, h2, h3, h4⟩) hsu (fresh_map (lg := (l, W.listOf #[] 0) :: (u, W.listOf #[] 0) :: (x, instObj 52 dx) :: (dx, dictOf (entD w.params u l t1 t2 t3 t4) 4) :: news) rfl (fresh_of hF)) F9 N9
  · rintro _ _ _ _ _ _ _ ⟨⟩

end
section
open PySem PySem.W PyProof.Rows PySem.Calls PySem.Spec
set_option maxHeartbeats 4000000
local macro_rules | `(tactic| walk_at "zz") => `(tactic| skip)
variable {w : World} {mean : ExcName → Option Value} {mg mb : Str → Option Value} {b : Heap} {news : List (Addr × Obj)}
noncomputable def askD : Arguments × List Stmt × Scope := asDef ((dfn 28).2.1[1]?)
noncomputable def TR1 (c' : Addr) (R : List (Addr × Obj)) : Prop := ∃ oc' vs' t', R = [(202, tabObj #[rawInt 163, rawInt 4, .ref c']), (c', oc')] ∧ oc'.data = .fields vs' ∧ vs'[1]? = some (.str "_law_rule.<locals>._law_asked" t')
noncomputable abbrev rulD (P : Params) (u l f : Addr) (v : Value) (t1 t2 t3 t4 t5 t6 : Tok) : List DictEntry :=
  [⟨PyData.keyHash P (Str.ofString "useragents"), .str (Str.ofString "useragents") t1, .ref u⟩, ⟨PyData.keyHash P (Str.ofString "rulelines"), .str (Str.ofString "rulelines") t2, .ref l⟩,
    ⟨PyData.keyHash P (Str.ofString "delay"), .str (Str.ofString "delay") t3, .none⟩, ⟨PyData.keyHash P (Str.ofString "req_rate"), .str (Str.ofString "req_rate") t4, .none⟩,
    ⟨PyData.keyHash P (Str.ofString "applies_to"), .str (Str.ofString "applies_to") t5, .ref f⟩, ⟨PyData.keyHash P (Str.ofString "allowance"), .str (Str.ofString "allowance") t6, v⟩]
noncomputable abbrev askO (c' cn ck : Addr) (doc pm ctv : Value) : Obj := fnMade "_law_asked" "_law_rule.<locals>._law_asked" askD.1 askD.2.1 askD.2.2 [("notes", cn), ("kind", ck)] doc pm c' ctv
noncomputable def RuleAt (w : World) (lg : List (Addr × Obj)) (c' x : Addr) (k : Nat) (v : Value) (nt : Addr) : Prop :=
  ∃ dx u l f ck cn ock ocn tk0 doc pm ctv t1 t2 t3 t4 t5 t6, (x, instObj 52 dx) ∈ lg ∧ (dx, dictOf (rulD w.params u l f v t1 t2 t3 t4 t5 t6) 6) ∈ lg ∧ (f, askO c' cn ck doc pm ctv) ∈ lg ∧
    (ck, ock) ∈ lg ∧ ock.data = .cell (some (.str (kindS k) tk0)) ∧ (cn, ocn) ∈ lg ∧ ocn.data = .cell (some (.ref nt))
theorem RuleAt.mono {w : World} {lg lg' : List (Addr × Obj)} {c' x : Addr} {k : Nat} {v : Value} {nt : Addr} (h : RuleAt w lg c' x k v nt) (s : ∀ p ∈ lg, p ∈ lg') : RuleAt w lg' c' x k v nt := by
  refine X12_1 h ?_; clear h; intro dx u l f ck cn ock ocn tk0 doc pm ctv z0; refine X6_7 z0 ?_; clear z0; intro t1 t2 t3 t4 t5 t6 a1 a2 a3 a4 a5 a6 a7
  exact (Y12 dx u l f ck cn ock ocn tk0 doc pm ctv (Y6 t1 t2 t3 t4 t5 t6 ⟨s _ a1, s _ a2, s _ a3, s _ a4, a5, s _ a6, a7⟩))
noncomputable def RulePost (w : World) (k : Nat) (v : Value) (nt : Addr) (R0 news : List (Addr × Obj)) (r : Value) (lg : List (Addr × Obj)) : Prop :=
  ∃ c' R' ex x, TR1 c' R' ∧ (∀ c0, TR1 c0 R0 → c' = c0 ∧ R' = R0) ∧ ((∃ c0, TR1 c0 R0) ∨ ∀ q ∈ news, q.1 ≠ c') ∧ r = .ref x ∧ lg = ex ++ (R' ++ news) ∧ (∀ p ∈ ex, ∀ q ∈ R' ++ news, p.1 ≠ q.1) ∧ RuleAt w ex c' x k v nt
theorem rule_out {w : World} {b h : Heap} {L f c' l u x dx cn ck : Addr} {oc' o1 o2 T : Obj} {v doc pm ctv : Value} {t1 t2 t3 t4 t5 t6 : Tok} {r : List (Addr × Obj)}
    (N : News b L h ((f, askO c' cn ck doc pm ctv) :: (c', oc') :: (202, T) :: (l, W.listOf #[] 0) :: (u, W.listOf #[] 0) :: (x, instObj 52 dx) :: (dx, dictOf (rulD w.params u l f v t1 t2 t3 t4 t5 t6) 6) :: (cn, o1) :: (ck, o2) :: r)) :
    ∃ doc pm ctv t5 t6, News b L h ((f, askO c' cn ck doc pm ctv) :: (c', oc') :: (202, T) :: (l, W.listOf #[] 0) :: (u, W.listOf #[] 0) :: (x, instObj 52 dx) :: (dx, dictOf (rulD w.params u l f v t1 t2 t3 t4 t5 t6) 6) :: (cn, o1) :: (ck, o2) :: r) := (Y5 _ _ _ _ _ N)
theorem fresh_sub {inp fr lg lg' : List (Addr × Obj)} (h : ∀ p ∈ lg', ∃ q ∈ lg, q.1 = p.1) (hF : Fresh inp fr lg) : Fresh inp fr lg' := fun p hp => by
  refine X1_2 (h p hp) ?_; intro q h1 h2
  rw [← h2]; exact hF q h1
local macro_rules | `(tactic| walk_at "exec FunctionDef") => `(tactic| k_dflt (refine stopAt ?_))
theorem law_rule0 (G : Gd w mean mg mb b) {k : Nat} {v : Value} {nt : Addr} {t1 : Tok} (hr : ∀ p ∈ news, p.1 ≠ 202) :
    JSpec w b none 12 (.ref 207) [.str (kindS k) t1, v, .ref nt] [] ((202, tabObj #[]) :: news) (RulePost w k v nt [(202, tabObj #[])] news) (fun _ _ => False) := by
  walk_at "J defC"
  intro dp un outer L fr cells s Q Ec hfr F hcells N hsep hcn hdp hun ret rai
  refine let_all ?_
  intro aV eV eX qX
  have X := G.K
  have T := G.T
  have C2 := G.C2
  have hY := PyProof.Rows.CellsAre.two hcells
  refine X2_3 hY ?_; clear hY; intro o1 o2 hE d1 d2
  subst hE
  clear hcells
  have e1 : o1.data = .cell (some (.ref nt)) := d1.trans (by rfl)
  have e2 : o2.data = .cell (some (.str (kindS k) t1)) := d2.trans (by rfl)
  replace F : Fr b L s.heap (fun y => if y = Str.ofString "verdict" then some v else lk [] y) := F
  replace N : News b L s.heap ((L + 1 + 1, o1) :: (L + 1, o2) :: (202, tabObj #[]) :: (news ++ fr)) := N
  have hsep1 : Sep ((L + 1 + 1, o1) :: (L + 1, o2) :: (202, tabObj #[]) :: news) fr := hsep
  k_steps
  refine StopAt.go ?_
  refine new_entry G (news := (L + 1 + 1, o1) :: (L + 1, o2) :: (202, tabObj #[]) :: news) _ _ _ _ _ _ fr _ _ _ rfl rfl hfr F N hsep1 (by walk_at "o") (by walk_at "o") ?_ ?_
  · intro v' lg fr2 h6 tk6 y0 hsu hF F6 N6; refine X8_6 y0 ?_; clear y0; intro x dx u l t1' t2 t3 t4 z0 z1 h1 h2 h3 h4; subst z0; subst z1
    clear F N
    have hs2 := sep_fresh hsep1 hF hsu
    have hfr2 := hfr.up hsu
    have g1 : @LT.lt Nat _ (L + 1 + 1) dx := h1 _ (List.mem_cons_self)
    have g2 : @LT.lt Nat _ (L + 1) dx := h1 _ (List.mem_cons_of_mem _ List.mem_cons_self)
    have g3 : @LT.lt Nat _ 202 dx := h1 (202, tabObj #[]) (by walk_at "m")
    have n1 : @Ne Nat (L + 1 + 1) 202 := hcn (L + 1 + 1, o1) (by walk_at "m") (202, tabObj #[]) (by walk_at "m")
    have n2 : @Ne Nat (L + 1) 202 := hcn (L + 1, o2) (by walk_at "m") (202, tabObj #[]) (by walk_at "m")
    have r1 : ∀ p ∈ news ++ fr2, p.1 ≠ 202 := fun p hp => (List.mem_append.mp hp).elim (hr p) fun q => Ne.symm (hs2 (202, tabObj #[]) (by walk_at "m") p q)
    have r2 : ∀ p ∈ news ++ fr2, p.1 ≠ dx := fun p hp => (List.mem_append.mp hp).elim (fun q => Nat.ne_of_lt (h1 p (by walk_at "m"))) fun q => Ne.symm (hs2 (dx, dictOf (entD w.params u l t1' t2 t3 t4) 4) (by walk_at "m") p q)
    replace N6 : News b L h6 ((l, W.listOf #[] 0) :: (u, W.listOf #[] 0) :: (x, instObj 52 dx) :: (dx, dictOf (entD w.params u l t1' t2 t3 t4) 4) :: (L + 1 + 1, o1) :: (L + 1, o2) :: (202, tabObj #[]) :: (news ++ fr2)) := N6
    k_steps
    refine StopAt.go ?_
    rename Fr _ _ _ _ => F7
    rename News _ _ _ _ => N7
    have N8 : News b L _ ((202, tabObj #[]) :: (l, W.listOf #[] 0) :: (u, W.listOf #[] 0) :: (x, instObj 52 dx) :: (dx, dictOf (entD w.params u l t1' t2 t3 t4) 4) :: (L + 1 + 1, o1) :: (L + 1, o2) :: (news ++ fr2)) := news_sub N7 (by walk_at "s")
    refine nestDef_K (by exact rfl) (by exact rfl) (by exact rfl) ?_
    refine nest_K (c := 206) (P := 202) (g := fun o => (202, o) :: (l, W.listOf #[] 0) :: (u, W.listOf #[] 0) :: (x, instObj 52 dx) :: (dx, dictOf (entD w.params u l t1' t2 t3 t4) 4) :: (L + 1 + 1, o1) :: (L + 1, o2) :: (news ++ fr2)) F7 N8 T C2 rfl (UpdF.head ?_) trivial rfl rfl ?_
    · intro p hp
      refine mem_c p hp ?_ fun hp => mem_c p hp ?_ fun hp => mem_c p hp ?_ fun hp => mem_c p hp ?_ fun hp => mem_c p hp ?_ fun hp => mem_c p hp ?_ fun hp => ?_
      · exact Nat.ne_of_gt (Nat.lt_trans g3 (Nat.lt_trans h2 (Nat.lt_trans h3 h4)))
      · exact Nat.ne_of_gt (Nat.lt_trans g3 (Nat.lt_trans h2 h3))
      · exact Nat.ne_of_gt (Nat.lt_trans g3 h2)
      · exact Nat.ne_of_gt g3
      · exact n1
      · exact n2
      · exact r1 p hp
    intro f' c' oc' vs' t' ct' dc' h' tk' F' N' d1' d2' l1 l2
    have m1 : @LT.lt Nat _ l c' := l1 (l, W.listOf #[] 0) (by walk_at "m")
    have m2 : @LT.lt Nat _ 202 c' := l1 (202, tabObj #[]) (by walk_at "m")
    have m3 : @LT.lt Nat _ c' f' := l2
    k_steps
    rename Fr _ _ _ _ => F9
    rename News _ _ _ _ => N9
    refine X5_1 (rule_out N9) ?_; intro doc pm ctv t5 t6 N10
    have hle : ∀ q ∈ news ++ fr2, @LT.lt Nat _ q.1 c' := fun q hq => l1 q (by walk_at "m")
    refine ret _ ([(f', askO c' (L + 1 + 1) (L + 1) doc pm ctv), (l, W.listOf #[] 0), (u, W.listOf #[] 0), (x, instObj 52 dx), (dx, dictOf (rulD w.params u l f' v t1' t2 t3 t4 t5 t6) 6), (L + 1 + 1, o1), (L + 1, o2)] ++ ([(202, tabObj #[rawInt 163, rawInt 4, .ref c']), (c', oc')] ++ news)) fr2 _ _ _ _
      (Y4 c' [(202, tabObj #[rawInt 163, rawInt 4, .ref c']), (c', oc')] _ x ⟨(Y3 oc' vs' t' ⟨rfl, d1', d2'⟩), ?_, .inr fun q hq => Nat.ne_of_lt (hle q (List.mem_append_left _ hq)), rfl, rfl, ?_, ?_⟩) hsu ?_ F9 (news_sub N10 ?_)
    · intro c0 y0; refine X3_2 y0 ?_; clear y0; intro _ _ _ h _
      cases h
    · intro p hp q hq
      have hq3 : @Eq Nat q.1 202 ∨ @Eq Nat q.1 c' ∨ (@LT.lt Nat _ q.1 dx ∧ @LT.lt Nat _ q.1 c' ∧ @Ne Nat (L + 1 + 1) q.1 ∧ @Ne Nat (L + 1) q.1) := by
        refine mem_a hq (fun y => ?_) fun y => ?_
        · refine mem_c q y ?_ fun y => ?_
          · exact .inl rfl
          · rw [List.mem_singleton.mp y]; exact .inr (.inl rfl)
        · exact .inr (.inr ⟨h1 q (by walk_at "m"), hle q (List.mem_append_left _ y), hcn (L + 1 + 1, o1) (by walk_at "m") q (by walk_at "m"), hcn (L + 1, o2) (by walk_at "m") q (by walk_at "m")⟩)
      have hp7 : @Eq Nat p.1 f' ∨ @Eq Nat p.1 l ∨ @Eq Nat p.1 u ∨ @Eq Nat p.1 x ∨ @Eq Nat p.1 dx ∨ @Eq Nat p.1 (L + 1 + 1) ∨ @Eq Nat p.1 (L + 1) := by
        refine mem_c p hp ?_ fun hp => mem_c p hp ?_ fun hp => mem_c p hp ?_ fun hp => mem_c p hp ?_ fun hp => mem_c p hp ?_ fun hp => mem_c p hp ?_ fun hp => mem_1 p hp ?_ <;> repeat' first | exact .inl rfl | exact rfl | refine .inr ?_
      show @Ne Nat p.1 q.1
      exact ar75 h2 h3 h4 g1 g3 n1 n2 l2 m1 hq3 hp7
    · exact (Y12 dx u l f' (L + 1) (L + 1 + 1) o2 o1 t1 doc pm ctv (Y6 t1' t2 t3 t4 t5 t6 ⟨by walk_at "m", by walk_at "m", by walk_at "m", by walk_at "m", e2, by walk_at "m", e1⟩))
    · refine fresh_sub (lg := (f', askO c' (L + 1 + 1) (L + 1) doc pm ctv) :: (c', oc') :: (l, W.listOf #[] 0) :: (u, W.listOf #[] 0) :: (x, instObj 52 dx) :: (dx, dictOf (entD w.params u l t1' t2 t3 t4) 4) :: (L + 1 + 1, o1) :: (L + 1, o2) :: (202, tabObj #[]) :: news) (fun p hp => ?_) (fresh_cons hsu (fun p hp => ?_) (fresh_cons hsu (fun p hp => ?_) (fresh_of hF)))
      · refine mem_a hp (fun hp => ?_) fun hp => ?_; refine mem_c p hp ?_ fun hp => mem_c p hp ?_ fun hp => mem_c p hp ?_ fun hp => mem_c p hp ?_ fun hp => mem_c p hp ?_ fun hp => mem_c p hp ?_ fun hp => mem_1 p hp ?_; rotate_left 7; refine mem_a hp (fun hp => ?_) fun hp => ?_; refine mem_c p hp ?_ fun hp => mem_1 p hp ?_; rotate_right 7
        · exact ⟨_, List.mem_cons_self, rfl⟩
        · exact ⟨(l, W.listOf #[] 0), by walk_at "m", rfl⟩
        · exact ⟨(u, W.listOf #[] 0), by walk_at "m", rfl⟩
        · exact ⟨(x, instObj 52 dx), by walk_at "m", rfl⟩
        · exact ⟨(dx, dictOf (entD w.params u l t1' t2 t3 t4) 4), by walk_at "m", rfl⟩
        · exact ⟨(L + 1 + 1, o1), by walk_at "m", rfl⟩
        · exact ⟨(L + 1, o2), by walk_at "m", rfl⟩
        · exact ⟨(202, tabObj #[]), by walk_at "m", rfl⟩
        · exact ⟨(c', oc'), by walk_at "m", rfl⟩
        · exact ⟨p, by walk_at "m", rfl⟩
      all_goals
        have hp9 : @LT.lt Nat _ p.1 c' := by
          refine mem_a hp (fun y => ?_) fun y => ?_
          · refine mem_c p y ?_ fun y => ?_
            · exact Nat.lt_trans g1 (Nat.lt_trans h2 (Nat.lt_trans h3 (Nat.lt_trans h4 m1)))
            · refine mem_c p y ?_ fun y => ?_
              · exact Nat.lt_trans g2 (Nat.lt_trans h2 (Nat.lt_trans h3 (Nat.lt_trans h4 m1)))
              · refine mem_c p y ?_ fun y => ?_
                · exact m2
                · exact hle p (List.mem_append_left _ y)
          · exact hle p (List.mem_append_right _ y)
        first | exact hp9 | exact Nat.lt_trans hp9 m3
    · intro p hp
      (revert p hp; show ∀ p ∈ _, p ∈ _ :: _ :: (202, tabObj #[rawInt 163, rawInt 4, .ref c']) :: _; walk_at "s")
  · rintro _ _ _ _ _ _ _ ⟨⟩

end
section
open PySem PySem.W PyProof.Rows PySem.Calls PySem.Spec
set_option maxHeartbeats 4000000
variable {w : World} {mean : ExcName → Option Value} {mg mb : Str → Option Value} {b : Heap} {news : List (Addr × Obj)}
noncomputable def askA {b : Heap} (Z : ZSets b) (k : Nat) (x : List Nat) : Ans := match readV Z k x with
  | .ok a => a
  | .error m => .str m
noncomputable def askR {b : Heap} (Z : ZSets b) (k : Nat) (x : List Nat) : Bool := match readV Z k x with
  | .ok _ => false
  | .error _ => true
noncomputable def Ans.isInt : Ans → Bool
  | .int _ => true
  | _ => false
noncomputable def NoteIn (lg : List (Addr × Obj)) (k : Nat) (x : List Nat) (a : Ans) (rz : Bool) (v : Value) : Prop :=
  ∃ c t1 t2 av, v = .ref c ∧ (c, ({ cls := .type "tuple", data := .seq #[.str (kindS k) t1, .str (S x) t2, av, .bool a.isInt, .bool rz] } : Obj)) ∈ lg ∧ AnsIn lg a av
local macro_rules | `(tactic| walk_at "exec Try") => `(tactic| (refine wpAny_Try_except ?_))
local macro_rules | `(tactic| walk_at "eval Name") => `(tactic| k_dflt (refine nameX_F (by k_asm) (by exact rfl) (by k_mem) (by assumption) ?_))
noncomputable def AskPost {b : Heap} (Z : ZSets b) (k : Nat) (x : List Nat) (nt : Addr) (ns : List Value) (nn : Nat) (news T0 : List (Addr × Obj)) (r : Value) (lg : List (Addr × Obj)) : Prop :=
  ∃ t tup ex nn' T', TS2 T0 T' ∧ r = .int (askA Z k x).size t ∧ lg = ex ++ ((nt, W.listOf (ns ++ [tup]).toArray nn') :: (news ++ T')) ∧ (∀ p ∈ ex, ∀ q ∈ (nt, W.listOf ns.toArray nn) :: (news ++ T'), p.1 ≠ q.1) ∧ NoteIn ex k x (askA Z k x) (askR Z k x) tup
local macro_rules | `(tactic| walk_at "call type:str") => `(tactic| k_dflt (refine stopAt ?_))
theorem ok_not_str {b : Heap} {Z : ZSets b} {k : Nat} {x : List Nat} {m : Str} (h : readV Z k x = .ok (.str m)) : False := by
  unfold readV ofN at h
  repeat' split at h
  all_goals first | (cases h; done) | (simp at h; done)
noncomputable abbrev noteO (k : Nat) (x : List Nat) (av : Value) (i z : Bool) (t1 t2 : Tok) : Obj := { cls := .type "tuple", data := .seq #[.str (kindS k) t1, .str (S x) t2, av, .bool i, .bool z] }
theorem asked_out {b : Heap} {Z : ZSets b} {k : Nat} {x : List Nat} {nt D : Addr} {ns : List Value} {nn nn' : Nat} {news ex T0 T' : List (Addr × Obj)} {a : Ans} {z : Bool} {av : Value} {t t1 t2 : Tok}
    (ha : askA Z k x = a) (hz : askR Z k x = z) (hT : TS2 T0 T') (hD : ∀ p ∈ (nt, W.listOf ns.toArray nn) :: (news ++ T'), p.1 < D) (hex : ∀ p ∈ ex, ∀ q ∈ (nt, W.listOf ns.toArray nn) :: (news ++ T'), p.1 ≠ q.1)
    (hA : ∀ lg, (∀ p ∈ ex, p ∈ lg) → AnsIn lg a av) :
    AskPost Z k x nt ns nn news T0 (.int (a.size : Nat) t) ((D, noteO k x av a.isInt z t1 t2) :: (ex ++ ((nt, W.listOf (ns ++ [Value.ref D]).toArray nn') :: (news ++ T')))) := by
  subst ha
  subst hz
  refine (Y5 t (.ref D) ((D, noteO k x av (askA Z k x).isInt (askR Z k x) t1 t2) :: ex) nn' T' ⟨hT, rfl, rfl, fun p hp q hq => ?_, (Y4 D t1 t2 av ⟨rfl, List.mem_cons_self, hA _ fun p hp => List.mem_cons_of_mem _ hp⟩)⟩)
  refine mem_c p hp ?_ fun hp => ?_
  · exact Nat.ne_of_gt (hD q hq)
  · exact hex p hp q hq
theorem lt_of_up {news fr2 : List (Addr × Obj)} {nt D : Addr} {o : Obj} (h : @LT.lt Nat _ nt D ∧ AllLt D (news ++ fr2)) : ∀ p ∈ (nt, o) :: news, p.1 < D := fun p hp => by
  refine mem_c p hp ?_ fun hp => ?_
  · exact h.1
  · exact lt_tail h.2 p (List.mem_append_left _ hp)
theorem lt_all {news fr2 : List (Addr × Obj)} {nt D : Addr} {o : Obj} (h : @LT.lt Nat _ nt D ∧ AllLt D (news ++ fr2)) : ∀ p ∈ ((nt, o) :: news) ++ fr2, p.1 < D := fun p hp => by
  refine mem_c p hp ?_ fun hp => ?_
  · exact h.1
  · exact lt_tail h.2 p hp
theorem note_out {k : Nat} {x : List Nat} {av : Value} {i z : Bool} {t1 t2 : Tok} {b h : Heap} {L D nt : Addr} {vs : List Value} {v : Value} {n : Nat} {r : List (Addr × Obj)} (N : News b L h ((D, noteO k x av i z t1 t2) :: (nt, W.listOf (vs.toArray.push v) n) :: r)) :
    News b L h ((D, noteO k x av i z t1 t2) :: (nt, W.listOf (vs ++ [v]).toArray n) :: r) := by rw [← List.push_toArray]; exact N
theorem note_out2 {k : Nat} {x : List Nat} {av : Value} {i z : Bool} {t1 t2 : Tok} {b h : Heap} {L D nt a : Addr} {o : Obj} {vs : List Value} {v : Value} {n : Nat} {r : List (Addr × Obj)} (N : News b L h ((D, noteO k x av i z t1 t2) :: (a, o) :: (nt, W.listOf (vs.toArray.push v) n) :: r)) :
    News b L h ((D, noteO k x av i z t1 t2) :: (a, o) :: (nt, W.listOf (vs ++ [v]).toArray n) :: r) := by rw [← List.push_toArray]; exact N
theorem name_goesX {A : Around} {E : Value → Shared → Prop} {s : Shared} {L : Addr} {m : Str → Option Value} {qual : Str} {scope : Scope} {f : Addr} {cdv : Value} {cl : List (Str × Addr)} {n : Str} {pos : Pos} {Q : Unit → Shared → Prop} (F : Fr b L s.heap m) (N : News b L s.heap news)
    (h : ∀ h' v, Fr b L h' (fun x => if x = n then v else m x) → News b L h' news → Q () { s with heap := h', toks := s.toks + 1 })
    (hk : scope.kind = .function := by rfl) (hl : (envX qual scope L f cdv cl).kindOf n = some .local := by rfl) :
    wpAny (model prg w) A (do bindName (envX qual scope L f cdv cl) n .none; unbindBehindTheSuite (envX qual scope L f cdv cl) n pos) Q E s :=
  wpAny_nameGoes_keeps hl F.ns (by show (scope.kind == .class || (scope.kind == .module && L != mainGlobals)) = false; rw [hk]; rfl) fun h' v hn hs => h h' v (F.set hn hs) (N.set hs)
theorem law_asked (G : Gd w mean mg mb b) (Z : ZSets b) (ZK : Z.Ok) {x : List Nat} {k : Nat} {t1 tk0 : Tok} {T0 : List (Addr × Obj)} {f c' ck cn nt : Addr} {oc' ock ocn : Obj} {vs' : Array Value} {t' : Tok} {doc pm ctv : Value} {ns : List Value} {nn : Nat}
    (hk : k < 6) (hx : x.length ≤ 24) (h1 : 1 ≤ x.length) (hx13 : ∀ a ∈ x, a ∈ signs13) (hT : TS T0) (hr : ∀ p ∈ news, p.1 ≠ 148) (hnt : nt ≠ 148) (hns : ns.length ≤ 6) (hnn : ∀ p ∈ news ++ T0, p.1 ≠ nt)
    (hm : (f, askO c' cn ck doc pm ctv) ∈ news) (hc : (c', oc') ∈ news) (hod : oc'.data = .fields vs') (hv : vs'[1]? = some (.str "_law_rule.<locals>._law_asked" t'))
    (hck : (ck, ock) ∈ news) (hkd : ock.data = .cell (some (.str (kindS k) tk0))) (hcn : (cn, ocn) ∈ news) (hnd : ocn.data = .cell (some (.ref nt))) :
    JSpec w b none 60 (.ref f) [.str (S x) t1] [] ((nt, W.listOf ns.toArray nn) :: (news ++ T0)) (AskPost Z k x nt ns nn news T0) (fun _ _ => False) := by
  have hm' := List.mem_cons_of_mem (nt, W.listOf ns.toArray nn) (List.mem_append_left T0 hm)
  have hc2 := List.mem_cons_of_mem (nt, W.listOf ns.toArray nn) (List.mem_append_left T0 hc)
  have hck2 := List.mem_cons_of_mem (nt, W.listOf ns.toArray nn) (List.mem_append_left T0 hck)
  have hcn2 := List.mem_cons_of_mem (nt, W.listOf ns.toArray nn) (List.mem_append_left T0 hcn)
  walk_at "J defN"
  intro dp un outer L fr s Q Ec hfr F N hsep hdp hun ret rai
  refine let_all ?_
  intro aV eV eX qX
  have X := G.K
  have T := G.T
  replace F : Fr b L s.heap (lk [(Str.ofString "rest", .str (S x) t1)]) := F
  replace N : News b L s.heap ((nt, W.listOf ns.toArray nn) :: (news ++ T0 ++ fr)) := N
  k_steps
  refine StopAt.go ?_
  rename Fr _ _ _ _ => F1
  rename News _ _ _ _ => N1
  refine law_read G Z ZK (news := (nt, W.listOf ns.toArray nn) :: news) hk hx h1 hx13 hT (fun p hp => ?_) _ _ _ _ _ _ fr _ _ _ rfl rfl hfr F1 N1 hsep (by walk_at "o") (by walk_at "o") ?_ ?_
  · refine mem_c p hp ?_ fun hp => ?_
    · exact hnt
    · exact hr p hp
  · intro v lg fr2 h6 tk6 y0 hsu hF F6 N6; refine X1_2 y0 ?_; clear y0; intro a ha hA
    clear F1 N1
    have hsep2 := hsep.up hsu
    have hfr2 := hfr.up hsu
    cases a with
    | int n =>
      refine X0_2 hA ?_; clear hA; intro z0 z2; refine X1_1 z0 ?_; clear z0; intro tn z1; subst z1; subst z2
      have hnt2 : ∀ p ∈ news ++ T0 ++ fr2, p.1 ≠ nt := fun p hp => (List.mem_append.mp hp).elim (hnn p) fun q => Ne.symm (hsep2 (nt, W.listOf ns.toArray nn) List.mem_cons_self p q)
      replace N6 : News b L h6 ((nt, W.listOf ns.toArray nn) :: (news ++ T0 ++ fr2)) := N6
      k_steps
      refine StopAt.go ?_
      rename Fr _ _ _ _ => F7
      rename News _ _ _ _ => N7
      rename _ < _ ∧ AllLt _ _ => lt1
      have N8 := note_out N7
      have hq : askA Z k x = .int n := by unfold askA; rw [ha]
      have hq2 : askR Z k x = false := by unfold askR; rw [ha]
      refine size_int G (news := _ :: _ :: (news ++ T0)) _ _ _ _ _ _ fr2 _ _ _ rfl rfl hfr2 F7 N8 (sep_cons (fun q hq => Nat.ne_of_gt (lt_tail lt1.2 q (List.mem_append_right _ hq))) (Sep.map (news := (nt, W.listOf ns.toArray nn) :: (news ++ T0)) hsep2 rfl)) (by walk_at "o") (by walk_at "o") ?_ ?_
      · intro v lg fr3 h8 tk8 y0 hsu3 hF3 F8 N9; refine X0_2 y0 ?_; clear y0; intro z0 z2; refine X1_1 z0 ?_; clear z0; intro t z1; subst z1; subst z2
        exact ret _ _ fr3 _ _ _ _ (asked_out (ex := []) hq hq2 ⟨hT, fun p hp => List.mem_map_of_mem hp⟩ (lt_of_up lt1) (fun p hp => nomatch hp) (fun lg _ => ⟨tn, rfl⟩)) (hsu.trans hsu3) (fresh_cons hsu (lt_all lt1) (fresh_map (lg := (nt, W.listOf ns.toArray nn) :: (news ++ T0)) rfl Fresh.refl)) F8 N9
      · rintro _ _ _ _ _ _ _ ⟨⟩
    | str m => exact absurd ha (fun h => ok_not_str h)
    | tup n y =>
      refine X3_3 hA ?_; clear hA; intro a' ta tb z0 z1 hne; subst z0; subst z1
      have hnt2 : ∀ p ∈ news ++ T0 ++ fr2, p.1 ≠ nt := fun p hp => (List.mem_append.mp hp).elim (hnn p) fun q => Ne.symm (hsep2 (nt, W.listOf ns.toArray nn) List.mem_cons_self p q)
      have hsep6 := sep_fresh hsep hF hsu
      have hant : @Ne Nat a' nt := Ne.symm (hne (nt, W.listOf ns.toArray nn) List.mem_cons_self)
      replace N6 : News b L h6 ((a', tup2 n y ta tb) :: (nt, W.listOf ns.toArray nn) :: (news ++ T0 ++ fr2)) := N6
      k_steps
      refine StopAt.go ?_
      rename Fr _ _ _ _ => F7
      rename News _ _ _ _ => N7
      rename a' < _ ∧ _ => lt1
      have N8 := note_out2 N7
      have hq : askA Z k x = .tup n y := by unfold askA; rw [ha]
      have hq2 : askR Z k x = false := by unfold askR; rw [ha]
      refine size_tup G (news := _ :: _ :: _ :: (news ++ T0)) (n := n) (y := y) (a := a') (List.mem_cons_of_mem _ List.mem_cons_self) _ _ _ _ _ _ fr2 _ _ _ rfl rfl hfr2 F7 N8 (sep_cons (fun q hq => Nat.ne_of_gt (lt_tail lt1.2.2 q (List.mem_append_right _ hq))) (Sep.map (news := (a', tup2 n y ta tb) :: (nt, W.listOf ns.toArray nn) :: (news ++ T0)) hsep6 rfl)) (by walk_at "o") (by walk_at "o") ?_ ?_
      · intro v lg fr3 h8 tk8 y0 hsu3 hF3 F8 N9; refine X0_2 y0 ?_; clear y0; intro z0 z2; refine X1_1 z0 ?_; clear z0; intro t z1; subst z1; subst z2
        exact ret _ _ fr3 _ _ _ _ (asked_out (ex := [(a', tup2 n y ta tb)]) hq hq2 ⟨hT, fun p hp => List.mem_map_of_mem hp⟩ (lt_of_up lt1.2) (fun p hp q hq => by rw [List.mem_singleton.mp hp]; exact Ne.symm (hne q hq)) (fun lg h => (Y3 a' ta tb ⟨rfl, h _ (List.mem_singleton.mpr rfl)⟩))) (hsu.trans hsu3) (fresh_cons hsu (lt_all lt1.2) (fresh_map (lg := (a', tup2 n y ta tb) :: (nt, W.listOf ns.toArray nn) :: (news ++ T0)) rfl (fresh_of hF))) F8 N9
      · rintro _ _ _ _ _ _ _ ⟨⟩
  · intro e msg tm lg fr2 h6 tk6 y0 hsu hF hfly; refine X0_2 y0 ?_; clear y0; intro ha z0; refine X1_2 z0 ?_; clear z0; intro T' hT' z1; subst z1
    clear F1 N1
    refine X0_2 hT' ?_; clear hT'; intro hT' hTin
    refine catch_own G hfly ?_
    intro h7 fr3 tk7 E' hsu3 hfr3 F7 N7 hterr
    have hsep6 := sep_fresh hsep hF hsu
    have hnT : ∀ p ∈ news ++ T', p.1 ≠ nt := fun p hp => (List.mem_append.mp hp).elim (fun q => hnn p (List.mem_append_left _ q)) fun q => (by
      have hp7 := (N7 p (List.mem_append_left _ (List.mem_append_right _ q))).1
      have hn7 := (N7 (nt, W.listOf ns.toArray nn) (List.mem_append_left _ (List.mem_append_left _ List.mem_cons_self))).1
      intro z
      rw [z, hn7] at hp7
      rcases hT' with rfl | ⟨c', oc', vs', t', rfl, hod, _⟩
      · rw [List.mem_singleton.mp q] at z; exact hnt z.symm
      · rcases List.mem_cons.mp q with rfl | q
        · exact hnt z.symm
        · rw [List.mem_singleton.mp q] at hp7
          have e := Option.some.inj hp7
          dsimp only at e
          rw [← e] at hod
          cases hod)
    have hnt2 : ∀ p ∈ news ++ T' ++ fr3, p.1 ≠ nt := fun p hp => (List.mem_append.mp hp).elim (hnT p) fun q => Ne.symm (hsep6.up hsu3 (nt, W.listOf ns.toArray nn) List.mem_cons_self p q)
    replace N7 : News b L h7 ((nt, W.listOf ns.toArray nn) :: (news ++ T' ++ fr3)) := N7
    k_steps
    refine StopAt.go ?_
    refine str_own G F7.keep (by show un + 2 < cLine; lia) hterr ?_
    k_steps
    rename Fr _ _ _ _ => F8
    rename News _ _ _ _ => N8
    refine name_goesX F8 N8 ?_
    intro h9 v9 F9 N9
    try clear F8
    try clear N8
    try clear F7
    try clear N7
    have hfr3 := hfr3
    k_steps
    refine StopAt.go ?_
    rename Fr _ _ _ _ => F7
    rename News _ _ _ _ => N7
    rename _ < _ ∧ AllLt _ _ => lt1
    have N8 := note_out N7
    have hq : askA Z k x = .str msg := by unfold askA; rw [ha]
    have hq2 : askR Z k x = true := by unfold askR; rw [ha]
    refine size_str G (news := _ :: _ :: (news ++ T')) _ _ _ _ _ _ fr3 _ _ _ rfl rfl hfr3 F7 N8 (sep_cons (fun q hq => Nat.ne_of_gt (lt_tail lt1.2 q (List.mem_append_right _ hq))) (Sep.map (news := (nt, W.listOf ns.toArray nn) :: (news ++ T')) (hsep6.up hsu3) rfl)) (by walk_at "o") (by walk_at "o") ?_ ?_
    · intro v lg fr4 h8 tk8 y0 hsu4 hF4 F8 N9; refine X0_2 y0 ?_; clear y0; intro z0 z2; refine X1_1 z0 ?_; clear z0; intro t z1; subst z1; subst z2
      refine ret _ _ fr4 _ _ _ _ (asked_out (ex := []) hq hq2 ⟨hT', hTin⟩ (lt_of_up lt1) (fun p hp => nomatch hp) (fun lg _ => ⟨tm, rfl⟩)) ((hsu.trans hsu3).trans hsu4) (fresh_cons (hsu.trans hsu3) (fun p hp => ?_) (fresh_map (lg := (nt, W.listOf ns.toArray nn) :: (news ++ T')) rfl (fresh_of hF))) F8 N9
      have hlt : ∀ q ∈ (nt, W.listOf ns.toArray nn) :: (news ++ T'), q.1 < _ := lt_of_up lt1
      refine mem_a hp (fun y => ?_) fun y => ?_
      · refine mem_c p y ?_ fun y => ?_
        · exact lt1.1
        · refine mem_a y (fun y => ?_) fun y => ?_
          · exact hlt p (List.mem_cons_of_mem _ (List.mem_append_left _ y))
          · refine X1_2 (List.mem_map.mp (hTin p y)) ?_; intro q h1 h2
            rw [← h2]; exact hlt q (List.mem_cons_of_mem _ (List.mem_append_right _ h1))
      · exact lt_tail lt1.2 p (List.mem_append_right _ y)
    · rintro _ _ _ _ _ _ _ ⟨⟩

end
section
open PySem PySem.W PyProof.Rows PySem.Calls PySem.Spec
set_option maxHeartbeats 4000000
variable {w : World} {mean : ExcName → Option Value} {mg mb : Str → Option Value} {b : Heap} {news : List (Addr × Obj)}
noncomputable def TruthIs (w : World) (lg : List (Addr × Obj)) (v : Value) (p : Bool) : Prop :=
  ∀ (A : Around) (Q : Bool → Shared → Prop) (E : Value → Shared → Prop) (s : Shared), A.handled = none → (∀ q ∈ lg, s.heap.get? q.1 = some q.2) → (∀ tk, Q p { s with toks := tk }) → wpAny (model prg w) A (truthy v) Q E s
noncomputable def pickB (tv : Nat → Bool) : Option Nat → Bool
  | none => true
  | some j => tv j
noncomputable def pickS {b : Heap} (Z : ZSets b) (tv : Nat → Bool) (x : List Nat) (st : Int × Option Nat) (k : Nat) : Int × Option Nat :=
  if (askA Z k x).size = 0 then st else
  if st.1 < (askA Z k x).size then ((askA Z k x).size, some k) else
  if ((askA Z k x).size : Int) = st.1 ∧ pickB tv st.2 = false then (st.1, some k) else st
noncomputable def pickV (V : Nat → Value) : Option Nat → Value
  | none => .bool true
  | some k => V k
theorem pick_truthy {V : Nat → Value} {tv : Nat → Bool} {al : Option Nat} {A : Around} {E : Value → Shared → Prop} {s : Shared} {Q : Bool → Shared → Prop} (h6 : ∀ j, al = some j → j < 6) (htv : ∀ k, k < 6 → TruthIs w news (V k) (tv k)) (hh : A.handled = none) (hm : ∀ q ∈ news, s.heap.get? q.1 = some q.2)
    (h : ∀ tk, Q (pickB tv al) { s with toks := tk }) : wpAny (model prg w) A (truthy (pickV V al)) Q E s := by
  cases al with
  | none => exact wpAny_truthy_bool (h s.toks)
  | some j => exact htv j (h6 j rfl) _ _ _ _ hh hm h
noncomputable def pick {b : Heap} (Z : ZSets b) (tv : Nat → Bool) (x : List Nat) (ks : List Nat) : Option Nat := (ks.foldl (pickS Z tv x) (-1, none)).2
noncomputable def NotesIn {b : Heap} (Z : ZSets b) (x : List Nat) (lg : List (Addr × Obj)) : List Nat → List Value → Prop
  | [], [] => True
  | k :: ks, v :: vs => NoteIn lg k x (askA Z k x) (askR Z k x) v ∧ NotesIn Z x lg ks vs
  | _, _ => False
theorem NoteIn.mono {lg lg' : List (Addr × Obj)} {k : Nat} {x : List Nat} {a : Ans} {z : Bool} {v : Value} (h : NoteIn lg k x a z v) (s : ∀ p ∈ lg, p ∈ lg') : NoteIn lg' k x a z v := by
  refine X4_3 h ?_; clear h; intro c t1 t2 av z0 h1 h2; subst z0
  exact (Y4 c t1 t2 av ⟨rfl, s _ h1, h2.mono s⟩)
theorem NotesIn.mono {b : Heap} {Z : ZSets b} {x : List Nat} {lg lg' : List (Addr × Obj)} (s : ∀ p ∈ lg, p ∈ lg') : ∀ {ks : List Nat} {vs : List Value}, NotesIn Z x lg ks vs → NotesIn Z x lg' ks vs
  | [], [], _ => trivial
  | _ :: _, _ :: _, h => ⟨h.1.mono s, NotesIn.mono s h.2⟩
  | [], _ :: _, h => h.elim
  | _ :: _, [], h => h.elim
theorem NotesIn.len {b : Heap} {Z : ZSets b} {x : List Nat} {lg : List (Addr × Obj)} : ∀ {ks : List Nat} {vs : List Value}, NotesIn Z x lg ks vs → vs.length = ks.length
  | [], [], _ => rfl
  | _ :: _, _ :: _, h => by simp [NotesIn.len h.2]
  | [], _ :: _, h => h.elim
  | _ :: _, [], h => h.elim
theorem NotesIn.snoc {b : Heap} {Z : ZSets b} {x : List Nat} {lg : List (Addr × Obj)} {k : Nat} {v : Value} (hn : NoteIn lg k x (askA Z k x) (askR Z k x) v) : ∀ {ks : List Nat} {vs : List Value}, NotesIn Z x lg ks vs → NotesIn Z x lg (ks ++ [k]) (vs ++ [v])
  | [], [], _ => ⟨hn, trivial⟩
  | _ :: _, _ :: _, h => ⟨h.1, NotesIn.snoc hn h.2⟩
  | [], _ :: _, h => h.elim
  | _ :: _, [], h => h.elim
theorem Grew.sub {a c : List (Addr × Obj)} (h : Grew a c) : ∀ p ∈ a, p ∈ c := by
  refine X1_2 h ?_; clear h; intro e z0 _; subst z0
  exact fun p hp => List.mem_append_right _ hp
noncomputable def AllowPost {b : Heap} (Z : ZSets b) (V : Nat → Value) (tv : Nat → Bool) (x : List Nat) (ks : List Nat) (nt : Addr) (base T0 : List (Addr × Obj)) (r : Value) (lg : List (Addr × Obj)) : Prop :=
  ∃ B T' ns nn', TS2 T0 T' ∧ Grew base B ∧ lg = (nt, W.listOf ns.toArray nn') :: (B ++ T') ∧ r = pickV V (pick Z tv x ks) ∧ NotesIn Z x B ks ns ∧ (∀ p ∈ B ++ T', p.1 ≠ nt) ∧ (∀ p ∈ B, p.1 ≠ 148)
local macro_rules | `(tactic| walk_at "exec For Name Attribute cons nil") => `(tactic| k_dflt (refine stopAt ?_))
local macro_rules | `(tactic| walk_at "exec For") => `(tactic| k_dflt (refine stopAt ?_))
theorem findObj_shadow {K : Frag} {C : Addr} {o : Obj} {name : Str} {a g v : Value} (hh : hasDictIn K C = true) (ha : findIn K (.ref C) name = some (some a)) (hg : specialIn K a "__get__" = some (some g)) (ht : takesIn K a = some false) (hl : lookIn name o = some (some v)) : findObj K C (some o) name = some (.value v) := by
  unfold hasDictIn at hh
  unfold findObj
  cases hc : clsIn K C with
  | none => rw [hc] at hh; cases hh
  | some cd =>
    rw [hc] at hh
    have hd : cd.hasDict = true := hh
    rw [Option.bind_some, ha, Option.bind_some]
    try dsimp only
    rw [hg, Option.bind_some]
    try dsimp only
    rw [ht, Option.bind_some]
    unfold W.ownOf
    rw [hd, if_pos rfl]
    try dsimp only
    rw [hl]
    rfl
theorem method_shadow {p' : Program} {A : Around} {E : Value → Shared → Prop} {s : Shared} {K : Frag} {x C f : Addr} {ox o : Obj} {name : Str} {pl : Sem Bool} {Q : Value × List Value → Shared → Prop} {v : Value} (X : K.In s.heap) (I : InstAt s.heap x ox C (some o)) (hga : findIn K (.ref C) "__getattribute__" = some (some (.builtin "object.__getattribute__"))) (hk : findIn K (.ref C) "__getattr__" = some none)
    (hf : findIn K (.ref C) name = some (some (.ref f))) (ht : typeIn K (.ref f) = some (.type "function")) (hs : lookIn name o = some (some v))
    (h : wpAny (model p' w) A (getAttr (.ref x) name) (fun v => Q (v, [])) E s) :
    wpAny (model p' w) A (getMethod (.ref x) name pl) Q E s := by
  have hcan := PySem.F.canon_object_ga
  have u : wpAny (model p' w) A (do return (← getAttr (.ref x) name, ([] : List Value))) Q E s := wpAny_bind (wpAny_mono h (fun _ _ z => wpAny_pure z) fun _ _ z => z)
  unfold getMethod specialOf
  refine wpAny_bind (wpAny_bind (I.type.here ((looks_findIn X hga).here ?_)))
  try dsimp only
  rw [hcan, if_neg (by decide)]
  refine wpAny_bind (wpAny_bind (I.type.here ((looks_findIn X hk).here ?_)))
  refine wpAny_bind (wpAny_bind (I.type.here ((looks_findIn X hf).here (wpAny_bind ((looks_typeIn X ht).here ?_)))))
  rw [if_neg (by decide +kernel)]
  refine wpAny_bind (wpAny_loadPart I.at_ ?_)
  have hd := I.dict
  cases e : ox.dict with
  | none => rw [e] at hd; cases hd
  | some dx =>
    rw [e] at hd
    refine wpAny_bind (wpAny_bind (wpAny_loadPart hd ?_))
    rw [nsLook_of hs]
    refine wpAny_pure ?_
    exact u
theorem rule_method (G : Gd w mean mg mb b) {A : Around} {E : Value → Shared → Prop} {s : Shared} {L x dx u l f : Addr} {m : Str → Option Value} {nn : List (Addr × Obj)} {v : Value} {t1 t2 t3 t4 t5 t6 : Tok} {pl : Sem Bool} {Q : Value × List Value → Shared → Prop} (F : Fr b L s.heap m) (N : News b L s.heap nn) (h1 : (x, instObj 52 dx) ∈ nn) (h2 : (dx, dictOf (rulD w.params u l f v t1 t2 t3 t4 t5 t6) 6) ∈ nn)
    (h : Q (.ref f, []) { s with toks := s.toks + 1 }) : wpAny (model prg w) A (getMethod (.ref x) "applies_to" pl) Q E s := by
  have X := G.K.keeps F.keep
  have I := InstAt.of_news N h1 h2
  refine method_shadow X I (by k_dflt k_is) (by k_dflt k_is) (by k_dflt k_is) (by k_dflt k_is) (v := .ref f) rfl ?_
  exact get_value X I (by k_dflt k_is) (findObj_shadow (by k_dflt k_is) (by k_dflt k_is) (by k_dflt k_is) (by k_dflt k_is) rfl) rfl h
theorem rule_allow (G : Gd w mean mg mb b) {A : Around} {E : Value → Shared → Prop} {s : Shared} {L x dx u l f : Addr} {m : Str → Option Value} {nn : List (Addr × Obj)} {v : Value} {t1 t2 t3 t4 t5 t6 : Tok} {expr : Bool} {Q : Value → Shared → Prop} (hv : handedIn v = true) (F : Fr b L s.heap m) (N : News b L s.heap nn) (h1 : (x, instObj 52 dx) ∈ nn) (h2 : (dx, dictOf (rulD w.params u l f v t1 t2 t3 t4 t5 t6) 6) ∈ nn)
    (h : Q v { s with toks := s.toks + 1 }) : wpAny (model prg w) A (getAttr (.ref x) "allowance" expr) Q E s := by
  have X := G.K.keeps F.keep
  have I := InstAt.of_news N h1 h2
  exact get_value X I (by k_dflt k_is) (findObj_shadow (by k_dflt k_is) (by k_dflt k_is) (by k_dflt k_is) (by k_dflt k_is) rfl) hv h
theorem allowance (G : Gd w mean mg mb b) (Z : ZSets b) (ZK : Z.Ok) {V : Nat → Value} {tv : Nat → Bool} {x : List Nat} {ks : List Nat} {rs : List Value} {t1 : Tok} {T0 : List (Addr × Obj)} {ex dx u l c' nt : Addr} {nn nr : Nat} {t1' t2 t3 t4 : Tok} {oc' : Obj} {vs' : Array Value} {t' : Tok}
    (hx : x.length ≤ 24) (h1 : 1 ≤ x.length) (hx13 : ∀ a ∈ x, a ∈ signs13) (hT : TS T0) (hr : ∀ p ∈ news, p.1 ≠ 148) (hnt : nt ≠ 148) (hnn : ∀ p ∈ news ++ T0, p.1 ≠ nt)
    (he : (ex, instObj 52 dx) ∈ news) (hed : (dx, dictOf (entD w.params u l t1' t2 t3 t4) 4) ∈ news) (hel : (l, W.listOf rs.toArray nr) ∈ news) (hks : ks.length ≤ 6) (hlen : rs.length = ks.length)
    (hrul : ∀ (i k : Nat), ks[i]? = some k → ∃ rx, rs[i]? = some (Value.ref rx) ∧ k < 6 ∧ RuleAt w news c' rx k (V k) nt) (hc : (c', oc') ∈ news) (hod : oc'.data = .fields vs') (hv : vs'[1]? = some (.str "_law_rule.<locals>._law_asked" t'))
    (htv : ∀ k, k < 6 → TruthIs w news (V k) (tv k)) (hhd : ∀ k, k < 6 → handedIn (V k) = true) :
    JSpec w b none 66 (.ref 49) [.ref ex, .str (S x) t1] [] ((nt, W.listOf #[] nn) :: (news ++ T0)) (AllowPost Z V tv x ks nt news T0) (fun _ _ => False) := by
  walk_at "J def"
  intro dp un outer L fr s Q Ec hfr F N hsep hdp hun ret rai
  refine let_all ?_
  intro aV eV eX qX
  have X := G.K
  have T := G.T
  replace F : Fr b L s.heap (lk [(Str.ofString "filename", .str (S x) t1), (Str.ofString "self", .ref ex)]) := F
  replace N : News b L s.heap ((nt, W.listOf #[] nn) :: (news ++ T0 ++ fr)) := N
  k_steps
  refine StopAt.go ?_
  refine For_J b ?_
  k_steps
  rename Fr _ _ _ _ => F2
  rename News _ _ _ _ => N2
  refine over_list (s := ⟨_, _, _, _, _⟩) (D := l) (ys := rs) (n := nr) rfl F2 N2 (by walk_at "m") (fun i m₁ nx => ∃ B T' ns nn' fr' best al tb ext, nx = (nt, W.listOf ns.toArray nn') :: (B ++ T' ++ fr') ∧ TI.SameUp fr fr' ∧ TS2 T0 T' ∧ Grew news B ∧
    m₁ = lk ((Str.ofString "filename", .str (S x) t1) :: (Str.ofString "self", .ref ex) :: (Str.ofString "best_match", .int best tb) :: (Str.ofString "allowance", pickV V al) :: ext) ∧ NotesIn Z x B (ks.take i) ns ∧ (ks.take i).foldl (pickS Z tv x) (-1, none) = (best, al) ∧ (∀ j, al = some j → j < 6) ∧
    (∀ p ∈ B ++ T', p.1 ≠ nt) ∧ (∀ p ∈ B, p.1 ≠ 148) ∧ Fresh ((nt, W.listOf #[] nn) :: (news ++ T0)) fr ((nt, W.listOf ns.toArray nn') :: (B ++ T')) ∧ Sep ((nt, W.listOf ns.toArray nn') :: (B ++ T')) fr')
    (Y9 news T0 [] nn fr (-1) none _ [] ⟨rfl, TI.SameUp.refl _, ⟨hT, fun p hp => List.mem_map_of_mem hp⟩, Grew.refl, lk_many [(_, _), (_, _)] _, trivial, rfl, (fun j h => nomatch h), hnn, hr, Fresh.refl, hsep⟩) ?_ ?_ ?_
  · intro i m₁ nx y0; refine X9_5 y0 ?_; clear y0; intro B T' ns nn' fr' best al tb ext z0 _ _ hg _; subst z0
    simp [hg.sub _ hel]
  · intro i v m₁ nx h₁ tk₁ I oI hIt hvi y0 hnI F3 N3; walk_at "q"; refine X9_12 y0 ?_; clear y0; intro B T' ns nn' fr' best al tb ext z0 hsu hT2 hg z1 hno hfo hal6 hBn hB1 hfre hsepJ; subst z0; subst z1
    obtain ⟨k, hk⟩ : ∃ k, ks[i]? = some k := by
      have : i < ks.length := by rw [← hlen]; exact (List.getElem?_eq_some_iff.mp hvi).1
      exact ⟨ks[i], List.getElem?_eq_getElem this⟩
    refine X1_3 (hrul i k hk) ?_; intro rx hrx hk6 hrule
    obtain rfl : v = .ref rx := by rw [hvi] at hrx; exact Option.some.inj hrx
    have hrule2 := hrule.mono hg.sub
    refine X12_1 hrule2 ?_; clear hrule2; intro rdx ru rl rf ck cn ock ocn tk0 doc pm ctv z0; refine X6_7 z0 ?_; clear z0; intro s1 s2 s3 s4 s5 s6 a1 a2 a3 a4 a5 a6 a7
    have hIn : @Ne Nat nt I := hnI (nt, W.listOf ns.toArray nn') List.mem_cons_self
    clear F2 N2
    replace N3 : News b L h₁ ((I, oI) :: (nt, W.listOf ns.toArray nn') :: (B ++ T' ++ fr')) := N3
    k_steps
    rename Fr _ _ _ _ => F4
    rename News _ _ _ _ => N4
    have up : ∀ p ∈ B, p ∈ (I, oI) :: (nt, W.listOf ns.toArray nn') :: (B ++ T' ++ fr') := fun p hp => List.mem_cons_of_mem _ (List.mem_cons_of_mem _ (List.mem_append_left _ (List.mem_append_left _ hp)))
    refine rule_method G F4 N4 (up _ a1) (up _ a2) ?_
    try dsimp only
    have hfn := FnAt.of N4 (up _ a3)
    refine callWith_F hfn ?_ rfl rfl
    k_steps
    refine StopAt.go ?_
    rename Fr _ _ _ _ => F5
    rename News _ _ _ _ => N5
    have hfr' := hfr.up hsu
    have hnsl : ns.length ≤ 6 := by have := hno.len; rw [List.length_take] at this; lia
    have N6 : News b L _ (((nt, W.listOf ns.toArray nn') :: (((I, oI) :: B) ++ T')) ++ fr') := news_sub N5 (by walk_at "s")
    have hsep6 : Sep ((nt, W.listOf ns.toArray nn') :: (((I, oI) :: B) ++ T')) fr' := fun q hq p hp => by
      refine mem_c q hq ?_ fun hq => ?_
      · exact hsepJ _ List.mem_cons_self p hp
      · refine mem_a hq (fun hq => ?_) fun hq => ?_
        · refine mem_c q hq ?_ fun hq => ?_
          · exact Ne.symm (hnI p (List.mem_cons_of_mem _ (List.mem_append_right _ hp)))
          · exact hsepJ q (by walk_at "m") p hp
        · exact hsepJ q (by walk_at "m") p hp
    have hI148 : @Ne Nat I 148 := by
      refine X1_1 hT2.1.mem148 ?_; intro o148 h148
      exact Ne.symm (hnI (148, o148) (by walk_at "m"))
    refine law_asked G Z ZK (news := (I, oI) :: B) (T0 := T') (k := k) hk6 hx h1 hx13 hT2.1 (fun p hp => ?_) hnt hnsl (fun p hp => ?_) (List.mem_cons_of_mem _ a3) (List.mem_cons_of_mem _ (hg.sub _ hc)) hod hv (List.mem_cons_of_mem _ a4) a5 (List.mem_cons_of_mem _ a6) a7 _ _ _ _ _ _ fr' _ _ _ rfl rfl hfr' F5 N6 hsep6 (by walk_at "o") (by walk_at "o") ?_ ?_
    · refine mem_c p hp ?_ fun hp => ?_
      · exact hI148
      · exact hB1 p hp
    · refine mem_c p hp ?_ fun hp => ?_
      · exact Ne.symm hIn
      · exact hBn p hp
    · intro v lg fr2 h6 tk6 y0 hsu2 hF2 F7 N7; refine X5_5 y0 ?_; clear y0; intro t tup exs nn2 T2 hT3 z0 z1 hex hnote; subst z0; subst z1
      try clear F5
      try clear N5
      try clear F4
      try clear N4
      clear N6
      have N8 : News b L h6 ((I, oI) :: (nt, W.listOf (ns ++ [tup]).toArray nn2) :: (exs ++ B ++ T2 ++ fr2)) := news_sub N7 (by walk_at "s")
      clear N7
      have hg2 : Grew B (exs ++ B) := ⟨exs, rfl, fun p hp q hq => hex p hp q (by walk_at "m")⟩
      have hg3 := Grew.trans hg hg2
      have b1 := hg2.sub _ a1
      have b2 := hg2.sub _ a2
      have up2 : ∀ p ∈ exs ++ B, p ∈ (I, oI) :: (nt, W.listOf (ns ++ [tup]).toArray nn2) :: (exs ++ B ++ T2 ++ fr2) := fun p hp => List.mem_cons_of_mem _ (List.mem_cons_of_mem _ (List.mem_append_left _ (List.mem_append_left _ hp)))
      have c1 := up2 _ b1
      have c2 := up2 _ b2
      have hT2I : ∀ p ∈ T2, p.1 ≠ I := fun p hp z => by
        have hp8 := (N8 p (by walk_at "m")).1
        have hI8 := (N8 (I, oI) List.mem_cons_self).1
        rw [z, hI8] at hp8
        have e := Option.some.inj hp8
        refine X1_1 hIt ?_; clear hIt; intro nI hdI
        rcases hT3.1 with rfl | ⟨c2', oc2, vs2, t2', rfl, hod2, hv2⟩
        · rw [List.mem_singleton.mp hp] at z; exact hI148 z.symm
        · rcases List.mem_cons.mp hp with rfl | hp
          · exact hI148 z.symm
          · rw [List.mem_singleton.mp hp] at e
            dsimp only at e
            rw [← e, hdI] at hod2
            injection hod2 with e2
            rw [← e2] at hv2
            cases hv2
      have hT2n : ∀ p ∈ T2, p.1 ≠ nt := fun p hp z => by
        have hp8 := (N8 p (by walk_at "m")).1
        have hI8 := (N8 (nt, W.listOf (ns ++ [tup]).toArray nn2) (by walk_at "m")).1
        rw [z, hI8] at hp8
        have e := Option.some.inj hp8
        rcases hT3.1 with rfl | ⟨c2', oc2, vs2, t2', rfl, hod2, hv2⟩
        · rw [List.mem_singleton.mp hp] at z; exact hnt z.symm
        · rcases List.mem_cons.mp hp with rfl | hp
          · exact hnt z.symm
          · rw [List.mem_singleton.mp hp] at e
            dsimp only at e
            rw [← e] at hod2
            cases hod2
      have hsep7 := sep_fresh hsep6 hF2 hsu2
      have q1 : ∀ p ∈ (nt, W.listOf (ns ++ [tup]).toArray nn2) :: (exs ++ B ++ T2 ++ fr2), p.1 ≠ I := fun p hp => by
        refine mem_c p hp ?_ fun hp => ?_
        · exact hIn
        · refine mem_a hp (fun hp => ?_) fun hp => ?_
          · refine mem_a hp (fun hp => ?_) fun hp => ?_
            · refine mem_a hp (fun hp => ?_) fun hp => ?_
              · exact hex p hp (I, oI) (by walk_at "m")
              · exact hnI p (List.mem_cons_of_mem _ (List.mem_append_left _ (List.mem_append_left _ hp)))
            · exact hT2I p hp
          · exact Ne.symm (hsep7 (I, oI) (by walk_at "m") p hp)
      have q2 : ∀ p ∈ exs ++ B ++ T2, p.1 ≠ nt := fun p hp => by
        refine mem_a hp (fun hp => ?_) fun hp => ?_
        · refine mem_a hp (fun hp => ?_) fun hp => ?_
          · exact hex p hp (nt, W.listOf ns.toArray nn') List.mem_cons_self
          · exact hBn p (List.mem_append_left _ hp)
        · exact hT2n p hp
      have q3 : ∀ p ∈ exs ++ B, p.1 ≠ 148 := fun p hp => by
        refine mem_a hp (fun hp => ?_) fun hp => ?_
        · refine X1_1 hT3.1.mem148 ?_; intro o148 h148
          exact hex p hp (148, o148) (by walk_at "m")
        · exact hB1 p hp
      have q4 : NotesIn Z x (exs ++ B) (ks.take (i + 1)) (ns ++ [tup]) := by
        rw [List.take_add_one, hk]
        exact NotesIn.snoc (hnote.mono fun p hp => List.mem_append_left _ hp) (hno.mono fun p hp => List.mem_append_right _ hp)
      have q5 : Sep ((nt, W.listOf (ns ++ [tup]).toArray nn2) :: (exs ++ B ++ T2)) fr2 := fun q hq p hp => hsep7 q (by revert q hq; walk_at "s") p hp
      have q6 : Fresh ((nt, W.listOf #[] nn) :: (news ++ T0)) fr ((nt, W.listOf (ns ++ [tup]).toArray nn2) :: (exs ++ B ++ T2)) := by
        have inpsub : ∀ q ∈ ((nt, W.listOf #[] nn) :: (news ++ T0)) ++ fr, ∃ q' ∈ ((nt, W.listOf ns.toArray nn') :: (((I, oI) :: B) ++ T')) ++ fr', q'.1 = q.1 := fun q hq => by
          refine mem_a hq (fun hq => ?_) fun hq => ?_
          · refine mem_c q hq ?_ fun hq => ?_
            · exact ⟨(nt, W.listOf ns.toArray nn'), by walk_at "m", rfl⟩
            · refine mem_a hq (fun hq => ?_) fun hq => ?_
              · exact ⟨q, by have hz := hg.sub q hq; walk_at "m", rfl⟩
              · refine X1_2 (List.mem_map.mp (hT2.2 q hq)) ?_; intro q2 y1 y2
                exact ⟨q2, by walk_at "m", y2⟩
          · refine X1_1 (TI.SameUp.back hsu q hq) ?_; intro sl y
            exact ⟨_, List.mem_append_right _ y, rfl⟩
        have far : ∀ p : Addr × Obj, (∀ q ∈ ((nt, W.listOf ns.toArray nn') :: (((I, oI) :: B) ++ T')) ++ fr', p.1 ≠ q.1) → ∀ q ∈ ((nt, W.listOf #[] nn) :: (news ++ T0)) ++ fr, p.1 ≠ q.1 := fun p h q hq => by
          refine X1_2 (inpsub q hq) ?_; intro q' y1 y2
          rw [← y2]; exact h q' y1
        intro p hp
        refine mem_c p hp ?_ fun hp => ?_
        · exact .inl (by simp)
        · refine mem_a hp (fun hp => ?_) fun hp => ?_
          · refine mem_a hp (fun hp => ?_) fun hp => ?_
            · rcases hF2 p (by walk_at "m") with z | z
              · exfalso
                refine X1_2 (List.mem_map.mp z) ?_; intro q y1 y2
                rcases List.mem_cons.mp y1 with rfl | y1
                · exact hex p hp _ List.mem_cons_self y2.symm
                · refine mem_a y1 (fun y1 => ?_) fun y1 => ?_
                  · exact hex p hp (nt, W.listOf ns.toArray nn') List.mem_cons_self (by
                      exact absurd y2.symm (hex p hp q (List.mem_cons_of_mem _ (List.mem_append_left _ y1))))
                  · refine X1_2 (List.mem_map.mp (hT3.2 q y1)) ?_; intro q2 y3 y4
                    exact hex p hp q2 (List.mem_cons_of_mem _ (List.mem_append_right _ y3)) (by rw [y4]; exact y2.symm)
              · exact .inr (far p z.1)
            · exact hfre p (by walk_at "m")
          · rcases hF2 p (by walk_at "m") with z | z
            · refine X1_2 (List.mem_map.mp z) ?_; intro q y1 y2
              rcases List.mem_cons.mp y1 with rfl | y1
              · exact absurd y2.symm (hT2n p hp)
              · refine mem_a y1 (fun y1 => ?_) fun y1 => ?_
                · rcases List.mem_cons.mp y1 with rfl | y1
                  · exact absurd y2.symm (hT2I p hp)
                  · rw [← y2]; exact hfre q (by walk_at "m")
                · rw [← y2]; exact hfre q (by walk_at "m")
            · exact .inr (far p z.1)
      have q7 : TS2 T0 T2 := ⟨hT3.1, fun p hp => by
        refine X1_2 (List.mem_map.mp (hT2.2 p hp)) ?_; intro p2 h1 h2
        rw [← h2]; exact hT3.2 p2 h1⟩
      have q8 : ∀ st, pickS Z tv x (best, al) k = st → (ks.take (i + 1)).foldl (pickS Z tv x) (-1, none) = st := fun st h => by
        rw [List.take_add_one, hk, Option.toList_some, List.foldl_append, hfo]; exact h
      k_steps
      · rename (_ : Int) ≠ 0 => hm0
        rename best < _ => hmb
        rename Fr _ _ _ _ => F9
        rename News _ _ _ _ => N9
        refine rule_allow G (hhd k hk6) F9 N9 c1 c2 ?_
        k_steps
        rename Fr _ _ _ _ => F10
        rename News _ _ _ _ => N10
        refine (Y4 _ _ _ _ ⟨rfl, F10, N10, q1, (Y9 (exs ++ B) T2 (ns ++ [tup]) nn2 fr2 _ (some k) _ _ ⟨rfl, hsu.trans hsu2, q7, hg3, lk_many [(_, _), (_, _), (_, _), (_, _)] _, q4, q8 _ ?_, (fun j h => by cases h; exact hk6), q2, q3, q6, q5⟩)⟩)
        unfold pickS
        rw [if_neg (by walk_at "o"), if_pos hmb]
      · rename (_ : Int) ≠ 0 => hm0
        rename ¬ best < _ => hmb
        rename (_ : Int) = best => hme
        rename Fr _ _ _ _ => F9
        rename News _ _ _ _ => N9
        refine pick_truthy hal6 htv rfl (fun q hq => (N9 q (up2 q (hg3.sub q hq))).1) fun tk => ?_
        cases hal : pickB tv al
        · k_steps
          rename Fr _ _ _ _ => F9
          rename News _ _ _ _ => N9
          refine rule_allow G (hhd k hk6) F9 N9 c1 c2 ?_
          k_steps
          rename Fr _ _ _ _ => F10
          rename News _ _ _ _ => N10
          refine (Y4 _ _ _ _ ⟨rfl, F10, N10, q1, (Y9 (exs ++ B) T2 (ns ++ [tup]) nn2 fr2 best (some k) _ _ ⟨rfl, hsu.trans hsu2, q7, hg3, lk_many [(_, _), (_, _), (_, _)] _, q4, q8 _ ?_, (fun j h => by cases h; exact hk6), q2, q3, q6, q5⟩)⟩)
          unfold pickS
          rw [if_neg (by walk_at "o"), if_neg hmb, if_pos ⟨hme, hal⟩]
        · k_steps
          rename Fr _ _ _ _ => F10
          rename News _ _ _ _ => N10
          refine (Y4 _ _ _ _ ⟨rfl, F10, N10, q1, (Y9 (exs ++ B) T2 (ns ++ [tup]) nn2 fr2 best al _ _ ⟨rfl, hsu.trans hsu2, q7, hg3, lk_many [(_, _), (_, _)] _, q4, q8 _ ?_, hal6, q2, q3, q6, q5⟩)⟩)
          unfold pickS
          rw [if_neg (by walk_at "o"), if_neg hmb, if_neg (fun h => by rw [hal] at h; cases h.2)]
      · rename (_ : Int) ≠ 0 => hm0
        rename ¬ best < _ => hmb
        rename (_ : Int) ≠ best => hme
        rename Fr _ _ _ _ => F10
        rename News _ _ _ _ => N10
        refine (Y4 _ _ _ _ ⟨rfl, F10, N10, q1, (Y9 (exs ++ B) T2 (ns ++ [tup]) nn2 fr2 best al _ _ ⟨rfl, hsu.trans hsu2, q7, hg3, lk_many [(_, _), (_, _)] _, q4, q8 _ ?_, hal6, q2, q3, q6, q5⟩)⟩)
        unfold pickS
        rw [if_neg (by walk_at "o"), if_neg hmb, if_neg (fun h => hme h.1)]
      · rename (_ : Int) = 0 => hm0
        rename Fr _ _ _ _ => F10
        rename News _ _ _ _ => N10
        refine (Y4 _ _ _ _ ⟨rfl, F10, N10, q1, (Y9 (exs ++ B) T2 (ns ++ [tup]) nn2 fr2 best al _ _ ⟨rfl, hsu.trans hsu2, q7, hg3, lk_many [(_, _), (_, _)] _, q4, q8 _ ?_, hal6, q2, q3, q6, q5⟩)⟩)
        unfold pickS
        rw [if_pos (by walk_at "o")]
    · rintro _ _ _ _ _ _ _ ⟨⟩
  · intro h' tk' m' nx F3 N3 y0; refine X9_12 y0 ?_; clear y0; intro B T' ns nn' fr' best al tb ext z0 hsu hT2 hg z1 hno hfo hal6 hBn hB1 hfre hsepJ; subst z0; subst z1
    clear F2 N2
    rw [show rs.length = ks.length from hlen, List.take_length] at hno hfo
    k_steps
    rename Fr _ _ _ _ => F9
    rename News _ _ _ _ => N9
    exact ret _ _ fr' _ _ _ _ (Y4 B T' ns nn' ⟨hT2, hg, rfl, by unfold pick; rw [hfo], hno, hBn, hB1⟩) hsu hfre F9 N9

end
section
open PySem PySem.W PyProof.Rows PySem.Calls PySem.Spec
set_option maxHeartbeats 4000000
variable {w : World} {mean : ExcName → Option Value} {mg mb : Str → Option Value} {b : Heap} {news : List (Addr × Obj)}
noncomputable def KindsAre : List Value → List Nat → Prop
  | [], [] => True
  | v :: vs, k :: ks => (k < 6 ∧ ∃ t, v = .str (kindS k) t) ∧ KindsAre vs ks
  | _, _ => False
noncomputable def Above (pre rest : List (Addr × Obj)) : Prop := ∀ p ∈ pre, ∀ q ∈ rest, @LT.lt Nat _ q.1 p.1
theorem Above.grew {pre news fr : List (Addr × Obj)} (h : Above pre (news ++ fr)) : Grew news (pre ++ news) := ⟨pre, rfl, fun p hp q hq => Nat.ne_of_gt (h p hp q (List.mem_append_left _ hq))⟩
theorem Above.fresh {pre news fr : List (Addr × Obj)} (h : Above pre (news ++ fr)) : Fresh news fr (pre ++ news) := fun p hp => by
  refine mem_a hp (fun hp => ?_) fun hp => ?_
  · exact .inr fun q hq => Nat.ne_of_gt (h p hp q hq)
  · exact .inl (List.mem_map_of_mem hp)
theorem Above.cons {D : Addr} {o : Obj} {pre rest : List (Addr × Obj)} (h1 : ∀ q ∈ rest, @LT.lt Nat _ q.1 D) (h : Above pre rest) : Above ((D, o) :: pre) rest := fun p hp q hq => by
  refine mem_c p hp ?_ fun hp => ?_
  · exact h1 q hq
  · exact h p hp q hq
theorem Above.nil {rest : List (Addr × Obj)} : Above [] rest := fun p hp => nomatch hp
theorem lt_of_lt {l D : Addr} {rest : List (Addr × Obj)} (h : ∀ q ∈ rest, q.1 < l) (h2 : @LT.lt Nat _ l D) : ∀ q ∈ rest, @LT.lt Nat _ q.1 D := fun q hq => Nat.lt_trans (h q hq) h2
theorem KindsAre.of : ∀ {vs : List Value}, (∀ v ∈ vs, ∃ k, k < 6 ∧ ∃ t, v = .str (kindS k) t) → ∃ ks, KindsAre vs ks ∧ ks.length = vs.length
  | [], _ => ⟨[], trivial, rfl⟩
  | v :: vs, h => by
    refine X1_1 (h v List.mem_cons_self) ?_; intro k hk
    refine X1_2 (KindsAre.of fun u hu => h u (List.mem_cons_of_mem _ hu)) ?_; intro ks h1 h2
    exact ⟨k :: ks, ⟨hk, h1⟩, by simp [h2]⟩
theorem order_end {D : Addr} {ys : List Value} {n : Nat} {news lg : List (Addr × Obj)} (hg : Grew news lg) (hm : (D, W.listOf ys.toArray n) ∈ lg) (hk : ∀ v ∈ ys, ∃ k, k < 6 ∧ ∃ t, v = .str (kindS k) t) (h6 : ys.length = 6) :
    ∃ D' ys ks n, Value.ref D = .ref D' ∧ (D', W.listOf ys.toArray n) ∈ lg ∧ Grew news lg ∧ KindsAre ys ks ∧ ks.length = 6 := by
  refine X1_2 (KindsAre.of hk) ?_; intro ks h1 h2
  exact ⟨D, ys, ks, n, rfl, hm, hg, h1, h2.trans h6⟩
theorem mem6 {a b c d e f : Value} (ha : ∃ k, k < 6 ∧ ∃ t, a = .str (kindS k) t) (hb : ∃ k, k < 6 ∧ ∃ t, b = .str (kindS k) t) (hc : ∃ k, k < 6 ∧ ∃ t, c = .str (kindS k) t) (hd : ∃ k, k < 6 ∧ ∃ t, d = .str (kindS k) t) (he : ∃ k, k < 6 ∧ ∃ t, e = .str (kindS k) t) (hf : ∃ k, k < 6 ∧ ∃ t, f = .str (kindS k) t) :
    ∀ v ∈ [a, b, c, d, e, f], ∃ k, k < 6 ∧ ∃ t, v = .str (kindS k) t := fun v hv => by
  refine mem_c v hv ?_ fun hm => mem_c v hm ?_ fun hm => mem_c v hm ?_ fun hm => mem_c v hm ?_ fun hm => mem_c v hm ?_ fun hm => mem_1 v hm ?_ <;> assumption
local macro_rules | `(tactic| walk_at "binaryOp Mod int int") => `(tactic| k_dflt (refine stopAt ?_))
theorem law_order (G : Gd w mean mg mb b) {z : Int} {t1 : Tok} :
    JSpec w b none 6 (.ref 179) [.int z t1] [] news (fun r lg => ∃ D ys ks n, r = .ref D ∧ (D, W.listOf ys.toArray n) ∈ lg ∧ Grew news lg ∧ KindsAre ys ks ∧ ks.length = 6) (fun _ _ => False) := by
  walk_at "J def"
  intro dp un outer L fr s Q Ec hfr F N hsep hdp hun ret rai
  refine let_all ?_
  intro aV eV eX qX
  have X := G.K
  have T := G.T
  replace F : Fr b L s.heap (lk [(Str.ofString "cell", .int z t1)]) := F
  have hz : z.fmod 6 = 0 ∨ z.fmod 6 = 1 ∨ z.fmod 6 = 2 ∨ z.fmod 6 = 3 ∨ z.fmod 6 = 4 ∨ z.fmod 6 = 5 := by
    have := Int.fmod_eq_emod_of_nonneg z (show (0 : Int) ≤ 6 by decide)
    exact ar73
  k_steps
  refine StopAt.go ?_
  refine mod_int' (by decide) ?_
  rcases hz with e | e | e | e | e | e
  all_goals
    rw [e]
    k_steps
    refine StopAt.go ?_
    refine mod_int' (by decide) ?_
    rw [e]
    k_steps
    refine StopAt.go ?_
    refine mod_int' (by decide) ?_
    have h2 : (z.fdiv 6).fmod 2 = 0 ∨ (z.fdiv 6).fmod 2 = 1 := by
      have := Int.fmod_eq_emod_of_nonneg (z.fdiv 6) (show (0 : Int) ≤ 2 by decide)
      lia
    rcases h2 with e2 | e2 <;> rw [e2]
  all_goals k_steps
  all_goals
    rename Fr _ _ _ _ => F9
    rename News _ _ _ _ => N9
    rename ∀ p ∈ news ++ fr, _ => l1
    first
    | refine ret _ ([_, _, _, _] ++ news) fr _ _ _ _ (order_end (Above.grew (fr := fr) ?ab) List.mem_cons_self (mem6 ?_ ?_ ?_ ?_ ?_ ?_) rfl) (TI.SameUp.refl _) (Above.fresh ?ab) F9 N9
    | refine ret _ ([_, _, _, _, _] ++ news) fr _ _ _ _ (order_end (Above.grew (fr := fr) ?ab) List.mem_cons_self (mem6 ?_ ?_ ?_ ?_ ?_ ?_) rfl) (TI.SameUp.refl _) (Above.fresh ?ab) F9 N9
    case ab =>
      repeat (first | exact Above.nil | refine Above.cons (lt_of_lt l1 (by first | exact And.left (by assumption) | exact And.left (And.right (by assumption)) | exact And.left (And.right (And.right (by assumption))) | exact And.left (And.right (And.right (And.right (by assumption)))) | exact And.left (And.right (And.right (And.right (And.right (by assumption))))) | walk_at "o")) ?_ | refine Above.cons l1 ?_)
  all_goals first
    | exact ⟨0, by decide, _, rfl⟩ | exact ⟨1, by decide, _, rfl⟩ | exact ⟨2, by decide, _, rfl⟩ | exact ⟨3, by decide, _, rfl⟩ | exact ⟨4, by decide, _, rfl⟩ | exact ⟨5, by decide, _, rfl⟩

end
section
open PySem PySem.W PyProof.Rows PySem.Calls PySem.Spec
set_option maxHeartbeats 4000000
local macro_rules | `(tactic| walk_at "zz") => `(tactic| skip)
variable {w : World} {mean : ExcName → Option Value} {mg mb : Str → Option Value} {b : Heap} {news : List (Addr × Obj)}
noncomputable def NothIs (w : World) (lg : List (Addr × Obj)) : Nat → Value → Prop
  | 0, v => ∃ t, v = .str (Str.ofString "") t
  | 1, v => ∃ a, v = .ref a ∧ (a, ({ cls := .type "tuple", data := .seq #[] } : Obj)) ∈ lg
  | 2, v => v = .none
  | 3, v => ∃ a, v = .ref a ∧ (a, W.listOf #[] 0) ∈ lg
  | 4, v => ∃ a o, v = .ref a ∧ (a == sysModules) = false ∧ (a, o) ∈ lg ∧ Obj.IsDictOf (PySem.strKind prg w) o []
  | _, v => ∃ t, v = .bytes #[] t
noncomputable def VerdIs (w : World) (lg : List (Addr × Obj)) (k : Nat) (v : Value) : Prop := (∃ t, v = .str (kindS k) t) ∨ NothIs w lg k v
noncomputable def verdKvs (V : Nat → Value) (i : Nat) : List (Str × Value) := (List.range i).map fun k => (kindS k, V k)
noncomputable def FalsesIs (w : World) (ex : List (Addr × Obj)) (lf : Addr) : Prop :=
  ∃ as : List Addr, as.length = 6 ∧ (lf, W.listOf (as.map Value.ref).toArray 0) ∈ ex ∧ ∀ k a, as[k]? = some a → ∃ t nv, (a, ({ cls := .type "tuple", data := .seq #[.str (kindS k) t, nv] } : Obj)) ∈ ex ∧ NothIs w ex k nv
theorem kindS_inj : ∀ i < 6, ∀ k < 6, kindS i = kindS k → i = k := by decide +kernel
theorem verd_step {V : Nat → Value} {i : Nat} (hi : i < 6) (v : Value) : PySem.stored (verdKvs V i) (kindS i) v = verdKvs (fun k => if k = i then v else V k) (i + 1) := by
  have h1 : (verdKvs V i).any (fun kv => decide (kv.1 = kindS i)) = false := by
    rw [List.any_eq_false]
    intro p hp
    unfold verdKvs at hp
    refine X1_2 (List.mem_map.mp hp) ?_; intro k hk z0; subst z0
    have hk' := List.mem_range.mp hk
    simp only [decide_eq_true_eq]
    intro e
    have := kindS_inj k (by walk_at "o") i hi e
    lia
  unfold PySem.stored
  rw [h1, if_neg (by simp)]
  unfold verdKvs
  rw [List.range_succ, List.map_append]
  congr 1
  · apply List.map_congr_left
    intro k hk
    have := List.mem_range.mp hk
    simp only [show k ≠ i by lia, if_false]
  · simp
theorem set_kind {w : World} {A : Around} {E : Value → Shared → Prop} {s : Shared} {Q : Unit → Shared → Prop} {b : Heap} {L D I : Addr} {m : Str → Option Value} {od oI : Obj} {rest : List (Addr × Obj)} {kvs : List (Str × Value)} {y : Str} {t : Tok} {v : Value} (F : Fr b L s.heap m) (N : News b L s.heap ((I, oI) :: (D, od) :: rest)) (hI : I ≠ D) (hoff : ∀ p ∈ rest, p.1 ≠ D)
    (hd : Obj.IsDictOf (PySem.strKind prg w) od kvs) (hlen : kvs.length ≤ sizeLine)
    (h : ∀ h' o' tk, Fr b L h' m → News b L h' ((I, oI) :: (D, o') :: rest) → Obj.IsDictOf (PySem.strKind prg w) o' (PySem.stored kvs y v) → Q () { s with heap := h', toks := tk }) :
    wpAny (model prg w) A (setItem (.ref D) (.str y t) v) Q E s := by
  have hD := N (D, od) (by walk_at "m")
  refine wpAny_setItem_pairs (hsz := hlen) (strKind_is prg w y t) (Heap.dictOf_iff.mpr ⟨od, hD.1, hd⟩) fun h' hmm hs => ?_
  refine X1_2 (Heap.dictOf_iff.mp hmm) ?_; intro o' ho' hd'
  refine h h' o' _ (F.change hs hD.2.1 hD.2.2) (fun p hp => ?_) hd'
  refine mem_c p hp ?_ fun hp => ?_
  · exact ⟨hs.extBut _ _ hI (N _ List.mem_cons_self).1, (N _ List.mem_cons_self).2⟩
  · refine mem_c p hp ?_ fun hp => ?_
    · exact ⟨ho', hD.2⟩
    · exact ⟨hs.extBut _ _ (hoff p hp) (N p (by walk_at "m")).1, (N p (by walk_at "m")).2⟩
local macro_rules | `(tactic| walk_at "setItem") => `(tactic| k_dflt (refine stopAt ?_))
theorem law_verdicts (G : Gd w mean mg mb b) {z : Int} {t1 : Tok} :
    JSpec w b none 6 (.ref 186) [.int z t1] [] news (fun r lg => ∃ D o ex V, r = .ref D ∧ lg = (D, o) :: (ex ++ news) ∧ (∀ p ∈ (D, o) :: ex, ∀ q ∈ news, @LT.lt Nat _ q.1 p.1) ∧ Obj.IsDictOf (PySem.strKind prg w) o (verdKvs V 6) ∧ ∀ k, k < 6 → VerdIs w ex k (V k)) (fun _ _ => False) := by
  walk_at "J def"
  intro dp un outer L fr s Q Ec hfr F N hsep hdp hun ret rai
  refine let_all ?_
  intro aV eV eX qX
  have X := G.K
  have T := G.T
  replace F : Fr b L s.heap (lk [(Str.ofString "cell", .int z t1)]) := F
  k_steps
  refine StopAt.go ?_
  refine For_J b ?_
  rename ∀ p ∈ news ++ fr, _ => l1
  have lts : ∀ {D D' : Addr}, (∀ p ∈ news ++ fr, p.1 < D) → @LT.lt Nat _ D D' → ∀ p ∈ news ++ fr, @LT.lt Nat _ p.1 D' := fun h1 h2 p hp => Nat.lt_trans (h1 p hp) h2
  rename Fr _ _ _ _ => F2
  rename News _ _ _ _ => N2
  obtain ⟨d, od0, lf, ex, N2, F2, hfal, hab, hdn, hdd⟩ : ∃ (d : Addr) (od : Obj) (lf : Addr) (ex : List (Addr × Obj)), News b L _ ((d, od) :: (ex ++ (news ++ fr))) ∧ Fr b L _ (fun y => if y = Str.ofString "verdicts" then some (.ref d) else if y = Str.ofString "falses" then some (.ref lf) else lk [(Str.ofString "cell", .int z t1)] y) ∧ FalsesIs w ex lf ∧ (∀ p ∈ (d, od) :: ex, ∀ q ∈ news ++ fr, @LT.lt Nat _ q.1 p.1) ∧ (∀ p ∈ ex, @LT.lt Nat _ p.1 d) ∧ Obj.IsDictOf (PySem.strKind prg w) od [] := by
    refine (Y4 _ _ _ [_, _, _, _, _, _, _, _, _, _] ⟨N2, F2, ⟨[_, _, _, _, _, _], rfl, List.mem_cons_self, ?_⟩, ?_, ?_, by assumption⟩)
    · intro k a hk
      match k, hk with
      | 0, hk => cases hk; exact (Y2 _ _ ⟨(by repeat (first | exact List.mem_cons_self | refine List.mem_cons_of_mem _ ?_)), by exact ⟨_, rfl⟩⟩)
      | 1, hk => cases hk; exact (Y2 _ _ ⟨(by repeat (first | exact List.mem_cons_self | refine List.mem_cons_of_mem _ ?_)), by exact ⟨_, rfl, (by repeat (first | exact List.mem_cons_self | refine List.mem_cons_of_mem _ ?_))⟩⟩)
      | 2, hk => cases hk; exact (Y2 _ _ ⟨(by repeat (first | exact List.mem_cons_self | refine List.mem_cons_of_mem _ ?_)), by exact rfl⟩)
      | 3, hk => cases hk; exact (Y2 _ _ ⟨(by repeat (first | exact List.mem_cons_self | refine List.mem_cons_of_mem _ ?_)), by exact ⟨_, rfl, (by repeat (first | exact List.mem_cons_self | refine List.mem_cons_of_mem _ ?_))⟩⟩)
      | 4, hk => cases hk; exact (Y2 _ _ ⟨(by repeat (first | exact List.mem_cons_self | refine List.mem_cons_of_mem _ ?_)), by exact (Y2 _ _ ⟨rfl, by assumption, (by repeat (first | exact List.mem_cons_self | refine List.mem_cons_of_mem _ ?_)), by assumption⟩)⟩)
      | 5, hk => cases hk; exact (Y2 _ _ ⟨(by repeat (first | exact List.mem_cons_self | refine List.mem_cons_of_mem _ ?_)), by exact ⟨_, rfl⟩⟩)
    · intro p hp q hq
      have l1q : @LT.lt Nat _ q.1 _ := l1 q hq
      show @LT.lt Nat _ q.1 p.1
      clear l1
      refine mem_c p hp ?_ fun hp => mem_c p hp ?_ fun hp => mem_c p hp ?_ fun hp => mem_c p hp ?_ fun hp => mem_c p hp ?_ fun hp => mem_c p hp ?_ fun hp => mem_c p hp ?_ fun hp => mem_c p hp ?_ fun hp => mem_c p hp ?_ fun hp => mem_c p hp ?_ fun hp => mem_1 p hp ?_ <;> dsimp only at * <;> first | exact l1q | (refine Nat.lt_trans l1q ?_; first | exact And.left (by assumption) | exact And.left (And.right (by assumption)) | exact And.left (And.right (And.right (by assumption))) | exact And.left (And.right (And.right (And.right (by assumption)))) | exact And.left (And.right (And.right (And.right (And.right (by assumption))))) | exact And.left (And.right (And.right (And.right (And.right (And.right (by assumption)))))) | exact And.left (And.right (And.right (And.right (And.right (And.right (And.right (by assumption))))))) | exact And.left (And.right (And.right (And.right (And.right (And.right (And.right (And.right (by assumption)))))))) | exact And.left (And.right (And.right (And.right (And.right (And.right (And.right (And.right (And.right (by assumption))))))))) | exact And.left (And.right (And.right (And.right (And.right (And.right (And.right (And.right (And.right (And.right (by assumption)))))))))) | exact And.left (And.right (And.right (And.right (And.right (And.right (And.right (And.right (And.right (And.right (And.right (by assumption))))))))))) | lia)
    · intro p hp
      show @LT.lt Nat _ p.1 _
      refine mem_c p hp ?_ fun hp => mem_c p hp ?_ fun hp => mem_c p hp ?_ fun hp => mem_c p hp ?_ fun hp => mem_c p hp ?_ fun hp => mem_c p hp ?_ fun hp => mem_c p hp ?_ fun hp => mem_c p hp ?_ fun hp => mem_c p hp ?_ fun hp => mem_1 p hp ?_ <;> dsimp only at * <;> first | exact And.left (by assumption) | exact And.left (And.right (by assumption)) | exact And.left (And.right (And.right (by assumption))) | exact And.left (And.right (And.right (And.right (by assumption)))) | exact And.left (And.right (And.right (And.right (And.right (by assumption))))) | exact And.left (And.right (And.right (And.right (And.right (And.right (by assumption)))))) | exact And.left (And.right (And.right (And.right (And.right (And.right (And.right (by assumption))))))) | exact And.left (And.right (And.right (And.right (And.right (And.right (And.right (And.right (by assumption)))))))) | exact And.left (And.right (And.right (And.right (And.right (And.right (And.right (And.right (And.right (by assumption))))))))) | exact And.left (And.right (And.right (And.right (And.right (And.right (And.right (And.right (And.right (And.right (by assumption)))))))))) | exact And.left (And.right (And.right (And.right (And.right (And.right (And.right (And.right (And.right (And.right (And.right (by assumption))))))))))) | lia
  k_steps
  rename IsRange _ _ _ _ _ _ _ _ => hr
  rename Fr _ _ _ _ => F3
  rename News _ _ _ _ => N3
  refine over_range (n := 6) (s := ⟨_, _, _, _, _⟩) rfl F3 N3 hr (by decide) (fun i m₁ nx => ∃ od V ext, nx = (d, od) :: (ex ++ (news ++ fr)) ∧ m₁ = lk ((Str.ofString "cell", .int z t1) :: (Str.ofString "falses", .ref lf) :: (Str.ofString "verdicts", .ref d) :: ext) ∧ Obj.IsDictOf (PySem.strKind prg w) od (verdKvs V i) ∧ ∀ k, k < i → VerdIs w ex k (V k)) (Y3 od0 (fun _ => .none) [] ⟨rfl, lk_many [(_, _), (_, _)] _, hdd, fun k hk => absurd hk (Nat.not_lt_zero k)⟩) ?_ ?_
  · intro i ti m₁ nx h₁ tk₁ I oI hi' y0 hnI F4 N4; walk_at "q"; refine X3_4 y0 ?_; clear y0; intro od V ext z0 z1 hd2 hV; subst z0; subst z1
    clear F2 N2 F3 N3 hr
    refine X1_3 hfal ?_; clear hfal; intro as has hlf hel
    obtain ⟨a, ha⟩ : ∃ a, as[i]? = some a := ⟨as[i]'(by walk_at "o"), List.getElem?_eq_getElem _⟩
    refine X2_2 (hel i a ha) ?_; intro tt nv hae hnv
    have hitem : (as.map Value.ref)[i]? = some (.ref a) := by rw [List.getElem?_map, ha]; rfl
    have hval : (as.map Value.ref).length = 6 := by rw [List.length_map, has]
    have hI : @Ne Nat d I := hnI (d, od) List.mem_cons_self
    have hoff : ∀ p ∈ ex ++ (news ++ fr), p.1 ≠ d := fun p hp => (List.mem_append.mp hp).elim (fun q => Nat.ne_of_lt (hdn p q)) fun q => Nat.ne_of_lt (hab (d, od0) List.mem_cons_self p q)
    have hnI2 : ∀ o, ∀ p ∈ (d, o) :: (ex ++ (news ++ fr)), p.1 ≠ I := fun o p hp => by
      refine mem_c p hp ?_ fun hp => ?_
      · exact hI
      · exact hnI p (List.mem_cons_of_mem _ hp)
    k_steps
    all_goals
      refine StopAt.go ?_
      rename Fr _ _ _ _ => F6
      rename News b L _ ((I, oI) :: _) => N6
      refine set_kind F6 N6 (Ne.symm hI) hoff hd2 (by unfold verdKvs; rw [List.length_map, List.length_range]; exact Nat.le_trans (Nat.le_of_lt hi') (by decide)) ?_
      intro h7 o7 tk7 F7 N7 hd7
      rw [verd_step hi'] at hd7
      k_steps
      rename Fr _ _ _ _ => F8
      rename News b L _ ((I, oI) :: _) => N8
    · refine (Y4 _ _ _ _ ⟨rfl, F8, N8, hnI2 _, (Y3 _ _ _ ⟨rfl, lk_many [(_, _), (_, _), (_, _)] _, hd7, fun k hk => ?_⟩)⟩)
      try dsimp only
      by_cases hki : k = i
      · rw [if_pos hki, hki]; exact .inl ⟨_, rfl⟩
      · rw [if_neg hki]; exact hV k (by walk_at "o")
    · refine (Y4 _ _ _ _ ⟨rfl, F8, N8, hnI2 _, (Y3 _ _ _ ⟨rfl, lk_many [(_, _), (_, _), (_, _)] _, hd7, fun k hk => ?_⟩)⟩)
      try dsimp only
      by_cases hki : k = i
      · rw [if_pos hki, hki]; exact .inr hnv
      · rw [if_neg hki]; exact hV k (by walk_at "o")
  · intro h' tk' m' nx F5 N5 y0; refine X3_4 y0 ?_; clear y0; intro od V ext z0 z1 hd2 hV; subst z0; subst z1
    clear F2 N2 F3 N3 hr
    k_steps
    rename Fr _ _ _ _ => F6
    rename News b L h' _ => N6
    exact ret _ ((d, od) :: (ex ++ news)) fr _ _ _ _ (Y4 d od ex V ⟨rfl, rfl, fun p hp q hq => by
      refine mem_c p hp ?_ fun hp => ?_
      · exact hab (_, od0) List.mem_cons_self q (List.mem_append_left _ hq)
      · exact hab p (List.mem_cons_of_mem _ hp) q (List.mem_append_left _ hq), hd2, hV⟩) (TI.SameUp.refl _) (fun p hp => by
      refine mem_c p hp ?_ fun hp => ?_
      · exact .inr fun q hq => Nat.ne_of_gt (hab (_, od0) List.mem_cons_self q hq)
      · refine mem_a hp (fun hp => ?_) fun hp => ?_
        · exact .inr fun q hq => Nat.ne_of_gt (hab p (List.mem_cons_of_mem _ hp) q hq)
        · exact .inl (List.mem_map_of_mem hp)) F6 (news_sub N6 (by intro p hp; simpa using hp))

end
section
open PySem PySem.W PyProof.Rows PySem.Calls PySem.Spec PySem.SeqAt
noncomputable def tvOf : Value → Bool
  | .str y _ => y.length != 0
  | _ => false
theorem kindS_len : ∀ k < 6, (kindS k).length ≠ 0 ∧ (kindS k).length ≤ 1000 := by decide +kernel
theorem NothIs.elim {w : World} {lg : List (Addr × Obj)} {v : Value} {G : Prop} {k : Nat} (h : NothIs w lg k v) (c0 : ∀ t, v = .str (Str.ofString "") t → G) (c1 : ∀ a, v = .ref a → (a, ({ cls := .type "tuple", data := .seq #[] } : Obj)) ∈ lg → G) (c2 : v = .none → G) (c3 : ∀ a, v = .ref a → (a, W.listOf #[] 0) ∈ lg → G)
    (c4 : ∀ a o, v = .ref a → (a == sysModules) = false → (a, o) ∈ lg → Obj.IsDictOf (PySem.strKind prg w) o [] → G) (c5 : ∀ t, v = .bytes #[] t → G) : G :=
  match k, h with
  | 0, h => X1_1 h c0
  | 1, h => X1_2 h c1
  | 2, h => c2 h
  | 3, h => X1_2 h c3
  | 4, h => X2_4 h c4
  | _ + 5, h => X1_1 h c5
theorem truth_verd {w : World} {lg : List (Addr × Obj)} {k : Nat} {v : Value} (hk : k < 6) (h : VerdIs w lg k v) : TruthIs w lg v (tvOf v) := by
  intro A Q E s hh hm hq
  rcases h with ⟨t, rfl⟩ | h
  · refine X0_2 (kindS_len k hk) ?_; intro h1 h2
    have e : tvOf (.str (kindS k) t) = true := by unfold tvOf; simpa using h1
    rw [e] at hq
    exact truthy_or h2 (fun _ tk => hq tk) fun h0 => absurd h0 h1
  · refine h.elim (fun t hv => ?_) (fun a hv ha => ?_) (fun hv => ?_) (fun a hv ha => ?_) (fun a o hv hs ha hd => ?_) (fun t hv => ?_) <;> subst hv
    · exact truthy_or (by decide) (fun h0 => absurd (by decide) h0) fun _ tk => hq tk
    · exact truthy_tuple (items := #[]) ⟨_, hm _ ha, rfl, _, rfl⟩ (by decide) (hq _)
    · exact truthy_none (hq _)
    · exact wpAny_truthy_list (items := #[]) ⟨_, hm _ ha, rfl, _, rfl⟩ (by decide) (hq _)
    · exact wpAny_truthy_dict (knd := PySem.strKind prg w) (kvs := []) hs (Heap.dictOf_iff.mpr ⟨o, hm _ ha, hd⟩) (by decide) (hq _)
    · exact PySem.W.truthy_bytes (by decide) (hq _)
theorem handed_verd {w : World} {lg : List (Addr × Obj)} {k : Nat} {v : Value} (hk : k < 6) (h : VerdIs w lg k v) : handedIn v = true := by
  rcases h with ⟨t, rfl⟩ | h
  · rfl
  · exact h.elim (fun t hv => hv ▸ rfl) (fun a hv _ => hv ▸ rfl) (fun hv => hv ▸ rfl) (fun a hv _ => hv ▸ rfl) (fun a _ hv _ _ _ => hv ▸ rfl) fun t hv => hv ▸ rfl
theorem is_pick {w : World} {lg : List (Addr × Obj)} {V : Nat → Value} {al : Option Nat} {A : Around} {E : Value → Shared → Prop} {s : Shared} {Q : Value → Shared → Prop} (h6 : ∀ j, al = some j → j < 6) (hV : ∀ k, k < 6 → VerdIs w lg k (V k))
    (h : Q (.bool al.isNone) s) : wpAny (model prg w) A (compareOp .Is (pickV V al) (.bool true)) Q E s := by
  cases al with
  | none => exact wpAny_is_self rfl h
  | some j =>
    show wpAny _ _ (compareOp .Is (V j) (.bool true)) _ _ _
    have hj := h6 j rfl
    rcases hV j hj with ⟨t, e⟩ | hn
    · rw [e]; exact wpAny_is_other rfl (fun h => nomatch h) h
    · generalize V j = v at hn
      refine hn.elim (fun t hv => ?_) (fun a hv _ => ?_) (fun hv => ?_) (fun a hv _ => ?_) (fun a _ hv _ _ _ => ?_) (fun t hv => ?_) <;> (subst hv; exact wpAny_is_other rfl (fun h => nomatch h) h)
theorem VerdIs.mono {w : World} {lg lg' : List (Addr × Obj)} {k : Nat} {v : Value} (h : VerdIs w lg k v) (s : ∀ p ∈ lg, p ∈ lg') : VerdIs w lg' k v := by
  rcases h with h | h
  · exact .inl h
  · right
    match k, h with
    | 0, h => exact h
    | 1, ⟨a, hv, ha⟩ => exact ⟨a, hv, s _ ha⟩
    | 2, h => exact h
    | 3, ⟨a, hv, ha⟩ => exact ⟨a, hv, s _ ha⟩
    | 4, ⟨a, o, hv, hs, ha, hd⟩ => exact (Y2 a o ⟨hv, hs, s _ ha, hd⟩)
    | _ + 5, h => exact h
noncomputable def farX {b : Heap} (Z : ZSets b) (ks x : List Nat) : Nat := ks.foldl (fun m k => max m (askA Z k x).size) 0
noncomputable def nextX {b : Heap} (Z : ZSets b) (ks x : List Nat) : List Nat := x.drop (max 1 (farX Z ks x))
noncomputable def iterX {b : Heap} (Z : ZSets b) (ks : List Nat) : Nat → List Nat → List Nat
  | 0, x => x
  | n + 1, x => nextX Z ks (iterX Z ks n x)
noncomputable abbrev tokO (v : Value) (z : Bool) (l : Addr) : Obj := { cls := .type "tuple", data := .seq #[v, .bool z, .ref l] }
noncomputable def TokIs {b : Heap} (Z : ZSets b) (V : Nat → Value) (tv : Nat → Bool) (lg : List (Addr × Obj)) (ks x : List Nat) (v : Value) : Prop :=
  ∃ c l nl ns, v = .ref c ∧ (c, tokO (pickV V (pick Z tv x ks)) (pick Z tv x ks).isNone l) ∈ lg ∧ (l, W.listOf ns.toArray nl) ∈ lg ∧ NotesIn Z x lg ks ns
noncomputable def ToksIn {b : Heap} (Z : ZSets b) (V : Nat → Value) (tv : Nat → Bool) (lg : List (Addr × Obj)) (ks x : List Nat) (vs : List Value) : Prop :=
  ∀ j v, vs[j]? = some v → iterX Z ks j x ≠ [] ∧ TokIs Z V tv lg ks (iterX Z ks j x) v
theorem TokIs.mono {b : Heap} {Z : ZSets b} {V : Nat → Value} {tv : Nat → Bool} {lg lg' : List (Addr × Obj)} {ks x : List Nat} {v : Value} (h : TokIs Z V tv lg ks x v) (s : ∀ p ∈ lg, p ∈ lg') : TokIs Z V tv lg' ks x v := by
  refine X4_4 h ?_; clear h; intro c l nl ns h1 h2 h3 h4
  exact (Y4 c l nl ns ⟨h1, s _ h2, s _ h3, h4.mono s⟩)
theorem ToksIn.mono {b : Heap} {Z : ZSets b} {V : Nat → Value} {tv : Nat → Bool} {lg lg' : List (Addr × Obj)} {ks x : List Nat} {vs : List Value} (h : ToksIn Z V tv lg ks x vs) (s : ∀ p ∈ lg, p ∈ lg') : ToksIn Z V tv lg' ks x vs := fun j v e => ⟨(h j v e).1, (h j v e).2.mono s⟩
theorem ToksIn.nil {b : Heap} {Z : ZSets b} {V : Nat → Value} {tv : Nat → Bool} {lg : List (Addr × Obj)} {ks x : List Nat} : ToksIn Z V tv lg ks x [] := fun j v e => by simp at e
theorem ToksIn.snoc {b : Heap} {Z : ZSets b} {V : Nat → Value} {tv : Nat → Bool} {lg : List (Addr × Obj)} {ks x : List Nat} {vs : List Value} {v : Value} (h : ToksIn Z V tv lg ks x vs) (h0 : iterX Z ks vs.length x ≠ []) (hv : TokIs Z V tv lg ks (iterX Z ks vs.length x) v) : ToksIn Z V tv lg ks x (vs ++ [v]) := fun j u e => by
  rcases Nat.lt_trichotomy j vs.length with hj | hj | hj
  · rw [List.getElem?_append_left hj] at e
    exact h j u e
  · subst hj
    simp at e
    subst e
    exact ⟨h0, hv⟩
  · rw [List.getElem?_eq_none (by rw [List.length_append, List.length_singleton]; lia)] at e
    cases e
section
variable {A : Around} {s : Shared}
theorem all_true (n : Nat) : (List.range n).all (fun _ => true) = true := by simp
theorem eq_tuples {a c : Addr} {xs ys : Array Value} (ha : s.heap.IsTuple a xs) (hb : s.heap.IsTuple c ys) (hs : xs.size = ys.size) (hu : A.units < cLine) (he : ∀ j (h1 : j < xs.size) (h2 : j < ys.size), EqAt A.in1 s xs[j] ys[j] true) : EqAt A s (.ref a) (.ref c) true := by
  by_cases e : a = c
  · subst e; exact EqAt.same _
  · have h := RcAt.tuples (e := fun _ => true) ha hb hu he
    rw [all_true, hs, Bool.true_and, beq_self_eq_true] at h
    exact EqAt.of_refs e h
theorem rc_lists {a c : Addr} {xs ys : Array Value} (ha : s.heap.IsList a xs) (hb : s.heap.IsList c ys) (hs : xs.size = ys.size) (hu : A.units < cLine) (he : ∀ j (h1 : j < xs.size) (h2 : j < ys.size), EqAt A.in1 s xs[j] ys[j] true) : RcAt A s (.ref a) (.ref c) true := by
  have h := RcAt.lists (e := fun _ => true) ha hb hs hu he
  rw [all_true] at h
  exact h
theorem eq_lists {a c : Addr} {xs ys : Array Value} (ha : s.heap.IsList a xs) (hb : s.heap.IsList c ys) (hs : xs.size = ys.size) (hu : A.units < cLine) (he : ∀ j (h1 : j < xs.size) (h2 : j < ys.size), EqAt A.in1 s xs[j] ys[j] true) : EqAt A s (.ref a) (.ref c) true := by
  by_cases e : a = c
  · subst e; exact EqAt.same _
  · exact EqAt.of_refs e (rc_lists ha hb hs hu he)
theorem eq_str {y : Str} {t u : Tok} : EqAt A s (.str y t) (.str y u) true := by
  have h := EqAt.str_str (A := A) (s := s) y t y u
  rwa [beq_self_eq_true] at h
theorem eq_int {n : Int} {t u : Tok} : EqAt A s (.int n t) (.int n u) true := by
  have h := EqAt.int_int (A := A) (s := s) n t n u
  rwa [beq_self_eq_true] at h
noncomputable def Has (h : Heap) (lg : List (Addr × Obj)) : Prop := ∀ p ∈ lg, h.get? p.1 = some p.2
theorem ans_eq {lg lg' : List (Addr × Obj)} {a : Ans} {u v : Value} (h1 : Has s.heap lg) (h2 : Has s.heap lg') (hu : A.units < cLine) (ha : AnsIn lg a u) (hb : AnsIn lg' a v) : EqAt A s u v true := by
  cases a with
  | int n => refine X1_1 ha ?_; clear ha; intro t z0; subst z0; refine X1_1 hb ?_; clear hb; intro t' z0; subst z0; exact eq_int
  | str m => refine X1_1 ha ?_; clear ha; intro t z0; subst z0; refine X1_1 hb ?_; clear hb; intro t' z0; subst z0; exact eq_str
  | tup n y =>
    refine X3_2 ha ?_; clear ha; intro a ta tb z0 ha; subst z0
    refine X3_2 hb ?_; clear hb; intro a' ta' tb' z0 hb; subst z0
    refine eq_tuples ⟨_, h1 _ ha, rfl, _, rfl⟩ ⟨_, h2 _ hb, rfl, _, rfl⟩ rfl hu fun j j1 j2 => ?_
    match j, j1 with
    | 0, _ => exact eq_int
    | 1, _ => exact eq_str
    | q + 2, j1 => exact absurd (show q + 2 < 2 from j1) (by lia)
theorem note_eq {lg lg' : List (Addr × Obj)} {k : Nat} {x : List Nat} {a : Ans} {z : Bool} {u v : Value} (h1 : Has s.heap lg) (h2 : Has s.heap lg') (hu : A.units + 1 < cLine) (ha : NoteIn lg k x a z u) (hb : NoteIn lg' k x a z v) : EqAt A s u v true := by
  refine X4_3 ha ?_; clear ha; intro c t1 t2 av z0 hc hav; subst z0
  refine X4_3 hb ?_; clear hb; intro c' t1' t2' av' z0 hc' hav'; subst z0
  refine eq_tuples ⟨_, h1 _ hc, rfl, _, rfl⟩ ⟨_, h2 _ hc', rfl, _, rfl⟩ rfl (by exact Nat.lt_of_le_of_lt (Nat.le_add_right ..) hu) fun j j1 j2 => ?_
  match j, j1 with
  | 0, _ => exact eq_str
  | 1, _ => exact eq_str
  | 2, _ => exact ans_eq h1 h2 hu hav hav'
  | 3, _ => exact EqAt.same _
  | 4, _ => exact EqAt.same _
  | q + 5, j1 => exact absurd (show q + 5 < 5 from j1) (by lia)
theorem NotesIn.get {b : Heap} {Z : ZSets b} {x : List Nat} {lg : List (Addr × Obj)} : ∀ {ks : List Nat} {vs : List Value} {j : Nat} (h : NotesIn Z x lg ks vs) (h1 : j < vs.length) (h2 : j < ks.length), NoteIn lg ks[j] x (askA Z ks[j] x) (askR Z ks[j] x) vs[j]
  | _ :: _, _ :: _, 0, h, _, _ => h.1
  | _ :: _, _ :: _, j + 1, h, h1, h2 => NotesIn.get h.2 (by simpa using h1) (by simpa using h2)
theorem notes_eq {b : Heap} {Z : ZSets b} {lg lg' : List (Addr × Obj)} {ks x : List Nat} {l l' : Addr} {n n' : Nat} {us vs : List Value} (h1 : Has s.heap lg) (h2 : Has s.heap lg') (hu : A.units + 2 < cLine) (hl : (l, W.listOf us.toArray n) ∈ lg) (hl' : (l', W.listOf vs.toArray n') ∈ lg') (ha : NotesIn Z x lg ks us) (hb : NotesIn Z x lg' ks vs) : EqAt A s (.ref l) (.ref l') true := by
  have e1 := ha.len
  have e2 := hb.len
  refine eq_lists (xs := us.toArray) (ys := vs.toArray) ⟨_, h1 _ hl, rfl, _, rfl⟩ ⟨_, h2 _ hl', rfl, _, rfl⟩ (by simp [e1, e2]) (by exact Nat.lt_of_le_of_lt (Nat.le_add_right ..) hu) fun j j1 j2 => ?_
  have j1' : j < us.length := by simpa using j1
  have j2' : j < vs.length := by simpa using j2
  have := note_eq (A := A.in1) (s := s) h1 h2 (by show A.units + 1 + 1 < cLine; exact hu) (ha.get j1' (by lia)) (hb.get j2' (by exact e1 ▸ j1'))
  simpa using this
theorem tok_eq {b : Heap} {Z : ZSets b} {V : Nat → Value} {tv : Nat → Bool} {lg lg' : List (Addr × Obj)} {ks x : List Nat} {u v : Value} (h1 : Has s.heap lg) (h2 : Has s.heap lg') (hu : A.units + 3 < cLine) (ha : TokIs Z V tv lg ks x u) (hb : TokIs Z V tv lg' ks x v) : EqAt A s u v true := by
  refine X4_4 ha ?_; clear ha; intro c l nl ns z0 hc hl hn; subst z0
  refine X4_4 hb ?_; clear hb; intro c' l' nl' ns' z0 hc' hl' hn'; subst z0
  refine eq_tuples ⟨_, h1 _ hc, rfl, _, rfl⟩ ⟨_, h2 _ hc', rfl, _, rfl⟩ rfl (by exact Nat.lt_of_le_of_lt (Nat.le_add_right ..) hu) fun j j1 j2 => ?_
  match j, j1 with
  | 0, _ => exact EqAt.same _
  | 1, _ => exact EqAt.same _
  | 2, _ => exact notes_eq (A := A.in1) h1 h2 (by show A.units + 1 + 2 < cLine; exact hu) hl hl' hn hn'
  | q + 3, j1 => exact absurd (show q + 3 < 3 from j1) (by lia)
theorem toks_eq {w : World} {E : Value → Shared → Prop} {Q : Value → Shared → Prop} {b : Heap} {Z : ZSets b} {V : Nat → Value} {tv : Nat → Bool} {lg lg' : List (Addr × Obj)} {ks x : List Nat} {a c : Addr} {us vs : List Value} {n n' : Nat} (h1 : Has s.heap lg) (h2 : Has s.heap lg') (hu : A.units + 4 < cLine)
    (hl : (a, W.listOf us.toArray n) ∈ lg) (hl' : (c, W.listOf vs.toArray n') ∈ lg') (ha : ToksIn Z V tv lg ks x us) (hb : ToksIn Z V tv lg' ks x vs) (ea : iterX Z ks us.length x = []) (eb : iterX Z ks vs.length x = [])
    (h : Q (.bool true) s) : wpAny (model prg w) A (compareOp .Eq (.ref a) (.ref c)) Q E s := by
  have hlen : us.length = vs.length := by
    rcases Nat.lt_trichotomy us.length vs.length with hj | hj | hj
    · exact absurd ea (hb us.length _ (List.getElem?_eq_getElem hj)).1
    · exact hj
    · exact absurd eb (ha vs.length _ (List.getElem?_eq_getElem hj)).1
  refine rc_lists (A := A) (s := s) (xs := us.toArray) (ys := vs.toArray) ⟨_, h1 _ hl, rfl, _, rfl⟩ ⟨_, h2 _ hl', rfl, _, rfl⟩ (by simp [hlen]) (by exact Nat.lt_of_le_of_lt (Nat.le_add_right ..) hu) (fun j j1 j2 => ?_) prg w E Q h
  have j1' : j < us.length := by simpa using j1
  have j2' : j < vs.length := by simpa using j2
  have := tok_eq (A := A.in1) (s := s) h1 h2 (by show A.units + 1 + 3 < cLine; exact hu) (ha j _ (List.getElem?_eq_getElem j1')).2 (hb j _ (List.getElem?_eq_getElem j2')).2
  simpa using this
end

end
section
open PySem PySem.W PyProof.Rows PySem.Calls PySem.Spec PySem.SeqAt
theorem TS2.trans {a c d : List (Addr × Obj)} (h1 : TS2 a c) (h2 : TS2 c d) : TS2 a d := ⟨h2.1, fun p hp => by
  refine X1_2 (List.mem_map.mp (h1.2 p hp)) ?_; intro p2 y1 y2
  rw [← y2]; exact h2.2 p2 y1⟩
theorem TruthIs.mono {w : World} {lg lg' : List (Addr × Obj)} {v : Value} {p : Bool} (h : TruthIs w lg v p) (s : ∀ q ∈ lg, q ∈ lg') : TruthIs w lg' v p := fun A Q E s' hh hm hq => h A Q E s' hh (fun q hq' => hm q (s q hq')) hq
theorem AnsIn.strip {lg lg' : List (Addr × Obj)} {a : Ans} {v : Value} (h : AnsIn lg a v) (s : ∀ p ∈ lg, p.2.cls = .type "tuple" → p ∈ lg') : AnsIn lg' a v := by
  cases a with
  | int n => exact h
  | tup n y => refine X3_2 h ?_; clear h; intro a ta tb z0 h; subst z0; exact (Y3 a ta tb ⟨rfl, s _ h rfl⟩)
  | str m => exact h
theorem NotesIn.strip {b : Heap} {Z : ZSets b} {x : List Nat} {lg lg' : List (Addr × Obj)} (s : ∀ p ∈ lg, p.2.cls = .type "tuple" → p ∈ lg') : ∀ {ks : List Nat} {vs : List Value}, NotesIn Z x lg ks vs → NotesIn Z x lg' ks vs
  | [], [], _ => trivial
  | _ :: _, _ :: _, h => by
    refine X0_2 h ?_; clear h; intro z0 h3; refine X4_3 z0 ?_; clear z0; intro c t1 t2 av z1 h1 h2; subst z1
    exact ⟨(Y4 c t1 t2 av ⟨rfl, s _ h1 rfl, h2.strip s⟩), NotesIn.strip s h3⟩
  | [], _ :: _, h => h.elim
  | _ :: _, [], h => h.elim
theorem fresh_step {inp inp' lg fr fr' : List (Addr × Obj)} {L : Addr} (hu : TI.SameUp fr fr') (hbase : ∀ q ∈ inp, ∃ q' ∈ inp', q'.1 = q.1) (hfre : Fresh inp fr inp') (hF : ∀ p ∈ lg, p.1 ∈ inp'.map (·.1) ∨ (∀ q ∈ inp' ++ fr', p.1 ≠ q.1) ∧ p.1 ≠ L) : Fresh inp fr lg := fun p hp => by
  rcases hF p hp with z | z
  · refine X1_2 (List.mem_map.mp z) ?_; intro q y1 y2
    rw [← y2]; exact hfre q y1
  · refine .inr fun q hq => ?_
    refine mem_a hq (fun hq => ?_) fun hq => ?_
    · refine X1_2 (hbase q hq) ?_; intro q' y1 y2
      rw [← y2]; exact z.1 q' (List.mem_append_left _ y1)
    · refine X1_1 (TI.SameUp.back hu q hq) ?_; intro sl y
      have h := z.1 _ (List.mem_append_right _ y)
      exact h
theorem fresh_add {inp cur lg fr fr' : List (Addr × Obj)} {D : Addr} {o : Obj} (hu : TI.SameUp fr fr') (hbase : ∀ q ∈ inp, ∃ q' ∈ cur, q'.1 = q.1) (hlt : ∀ p ∈ cur ++ fr', @LT.lt Nat _ p.1 D) (hfre : Fresh inp fr lg) : Fresh inp fr ((D, o) :: lg) := fun p hp => by
  refine mem_c p hp ?_ fun hp => ?_
  · refine .inr fun q hq => ?_
    refine mem_a hq (fun hq => ?_) fun hq => ?_
    · refine X1_2 (hbase q hq) ?_; intro q' y1 y2
      rw [← y2]; exact Nat.ne_of_gt (hlt q' (List.mem_append_left _ y1))
    · refine X1_1 (TI.SameUp.back hu q hq) ?_; intro sl y
      have h := hlt _ (List.mem_append_right _ y)
      exact Nat.ne_of_gt h
  · exact hfre p hp
theorem TS.tab {T : List (Addr × Obj)} (h : TS T) : ∀ p ∈ T, p.1 = 148 ∨ ∃ vs, p.2.data = .fields vs := fun p hp => by
  rcases h with rfl | ⟨c', oc', vs', t', rfl, hod, _⟩
  · exact .inl (by rw [List.mem_singleton.mp hp])
  · refine mem_c p hp ?_ fun hp => ?_
    · exact .inl rfl
    · rw [List.mem_singleton.mp hp]; exact .inr ⟨vs', hod⟩
theorem TS.off {b h : Heap} {L a : Addr} {nx T : List (Addr × Obj)} {xs : Array Value} {n : Nat} (N : News b L h nx) (hT : TS T) (hs : ∀ p ∈ T, p ∈ nx) (ha : (a, W.listOf xs n) ∈ nx) (h148 : a ≠ 148) : ∀ p ∈ T, p.1 ≠ a := fun p hp z => by
  rcases hT.tab p hp with e | ⟨vs, e⟩
  · exact h148 (z.symm.trans e)
  · have h1 := (N p (hs p hp)).1
    have h2 := (N _ ha).1
    rw [z, h2] at h1
    rw [← Option.some.inj h1] at e
    cases e
theorem size_ans {w : World} {mean : ExcName → Option Value} {mg mb : Str → Option Value} {b : Heap} {news : List (Addr × Obj)} (G : Gd w mean mg mb b) {hd : Option Value} {a : Ans} {av : Value} (h : AnsIn news a av) :
    JSpec w b hd 4 (.ref 200) [av] [] news (fun r lg => (∃ t, r = .int (a.size : Nat) t) ∧ lg = news) (fun _ _ => False) := by
  cases a with
  | int n => refine X1_1 h ?_; clear h; intro t z0; subst z0; exact size_int G
  | str m => refine X1_1 h ?_; clear h; intro t z0; subst z0; exact size_str G
  | tup n y => refine X3_2 h ?_; clear h; intro a ta tb z0 h; subst z0; exact size_tup G h
theorem ints_snoc : ∀ {zs : List Value} {ns : List Int} {n : Int} {t : Tok}, IntsAre zs ns → IntsAre (zs ++ [.int n t]) (ns ++ [n])
  | _, _, n, t, .nil => .cons n t .nil
  | _, _, n, t, .cons k u h => .cons k u (ints_snoc h)
theorem up_off {P : Addr → Prop} {cur fr3 fr4 : List (Addr × Obj)} (u : TI.SameUp fr3 fr4) (h : ∀ p ∈ cur ++ fr3, P p.1) : ∀ p ∈ cur ++ fr4, P p.1 := fun p hp => by
  refine mem_a hp (fun hp => ?_) fun hp => ?_
  · exact h p (List.mem_append_left _ hp)
  · refine X1_2 (TI.SameUp.fwd u p hp) ?_; intro p' y1 y2
    rw [y2]; exact h p' (List.mem_append_right _ y1)
theorem news_eq {b h : Heap} {L : Addr} {nx nx' : List (Addr × Obj)} (N : News b L h nx) (e : nx' = nx) : News b L h nx' := e ▸ N
theorem take_snoc {α β : Type} {f : α → β} {l : List α} {i : Nat} (h : i < l.length) : (l.take (i + 1)).map f = (l.take i).map f ++ [f l[i]] := by
  rw [List.take_add_one, List.getElem?_eq_getElem h, List.map_append]; rfl

end
section
open PySem PySem.W PyProof.Rows PySem.Calls PySem.Spec
set_option maxHeartbeats 4000000
variable {w : World} {mean : ExcName → Option Value} {mg mb : Str → Option Value} {b : Heap} {news : List (Addr × Obj)}
local macro_rules | `(tactic| walk_at "eval ListComp") => `(tactic| k_dflt (refine stopAt ?_))
local macro_rules | `(tactic| walk_at "exec Assign cons ListComp") => `(tactic| k_dflt (refine stopAt ?_))
local macro_rules | `(tactic| walk_at "exec While") => `(tactic| k_dflt (refine stopAt ?_))
local macro_rules | `(tactic| walk_at "exec While Name cons nil") => `(tactic| k_dflt (refine stopAt ?_))
theorem clear_J {w : World} {A : Around} {E : Value → Shared → Prop} {s : Shared} {Q : Value → Shared → Prop} {b : Heap} {L D : Addr} {m : Str → Option Value} {its : Array Value} {n : Nat} {p0 : Addr × Obj} {rest : List (Addr × Obj)} (F : Fr b L s.heap m) (N : News b L s.heap (p0 :: (D, W.listOf its n) :: rest)) (h0 : p0.1 ≠ D) (hc : ∀ p ∈ rest, p.1 ≠ D) (hz : its.size ≤ sizeLine)
    (h : ∀ h' n', Fr b L h' m → News b L h' (p0 :: (D, W.listOf #[] n') :: rest) → Q .none { s with heap := h' }) : wpAny (model prg w) A (call (.builtin "list.clear") [.ref D]) Q E s := by
  have z := N (D, W.listOf its n) (by walk_at "m")
  have ha : ∀ p ∈ [p0], p.1 ≠ D := fun p hp => by rw [List.mem_singleton.mp hp]; exact h0
  refine call_meets PySem.F.slot_list_clear ⟨_, z.1, rfl⟩ PySem.F.entry_list_clear (PySem.F.args_list_clear_1 _) (PySem.AutoSeq1.list_clear_list_0 D its n hz) ⟨z.1, ?_⟩
  by_cases hs : its.size = 0
  · exact h _ n (F.change (Heap.SameBut.update ..) z.2.1 z.2.2) (kl_turn0 (pre := [p0]) (fun _ => #[]) N ha hc rfl (by simp [hs]))
  · exact h _ (n + 1) (F.change (Heap.SameBut.update ..) z.2.1 z.2.2) (kl_turn (pre := [p0]) (fun _ => #[]) N ha hc rfl (fun q => hs q.symm))
local macro_rules | `(tactic| walk_at "binaryOp Add ref ref") => `(tactic| k_dflt (refine stopAt ?_))
local macro_rules | `(tactic| walk_at "call builtin:max") => `(tactic| k_dflt (refine stopAt ?_))
local macro_rules | `(tactic| walk_at "compareOp Is") => `(tactic| k_dflt (refine stopAt ?_))
local macro_rules | `(tactic| walk_at "call builtin:list.clear") => `(tactic| k_dflt (refine stopAt ?_))
noncomputable def TokPost {b : Heap} (Z : ZSets b) (V : Nat → Value) (tv : Nat → Bool) (x : List Nat) (ks : List Nat) (nt : Addr) (base T0 : List (Addr × Obj)) (r : Value) (lg : List (Addr × Obj)) : Prop :=
  ∃ (B T' : List (Addr × Obj)) (ns : List Value) (nn' : Nat) (D : Addr) (nd : Nat) (vs : List Value), TS2 T0 T' ∧ Grew base B ∧ lg = (nt, W.listOf ns.toArray nn') :: (D, W.listOf vs.toArray nd) :: (B ++ T') ∧ r = .ref D ∧ ToksIn Z V tv B ks x vs ∧ iterX Z ks vs.length x = [] ∧ (∀ p ∈ (D, W.listOf vs.toArray nd) :: (B ++ T'), p.1 ≠ nt) ∧ (∀ p ∈ B ++ T', p.1 ≠ D)
theorem next_len {b : Heap} (Z : ZSets b) (ks x : List Nat) : (nextX Z ks x).length ≤ x.length - 1 := by unfold nextX; rw [List.length_drop]; exact ar56
theorem iter_len {b : Heap} (Z : ZSets b) (ks : List Nat) : ∀ (n : Nat) (x : List Nat), (iterX Z ks n x).length ≤ x.length
  | 0, x => Nat.le_refl _
  | n + 1, x => Nat.le_trans (next_len Z ks _) (Nat.le_trans (Nat.sub_le _ _) (iter_len Z ks n x))
theorem iter_sub {b : Heap} (Z : ZSets b) (ks : List Nat) : ∀ (n : Nat) (x : List Nat), ∀ a ∈ iterX Z ks n x, a ∈ x
  | 0, x, a, h => h
  | n + 1, x, a, h => iter_sub Z ks n x a (List.mem_of_mem_drop h)
theorem foldS_mem {b : Heap} {Z : ZSets b} {tv : Nat → Bool} {x : List Nat} {j : Nat} : ∀ {ks : List Nat} {st : Int × Option Nat}, (ks.foldl (pickS Z tv x) st).2 = some j → st.2 = some j ∨ j ∈ ks
  | [], st, h => .inl h
  | k :: ks, st, h => by
    rcases foldS_mem (ks := ks) h with h1 | h1
    · unfold pickS at h1
      split at h1
      · exact .inl h1
      · split at h1
        · cases h1; exact .inr List.mem_cons_self
        · split at h1
          · cases h1; exact .inr List.mem_cons_self
          · exact .inl h1
    · exact .inr (List.mem_cons_of_mem _ h1)
theorem pick_mem {b : Heap} {Z : ZSets b} {tv : Nat → Bool} {x ks : List Nat} {j : Nat} (h : pick Z tv x ks = some j) : j ∈ ks := by
  rcases foldS_mem h with h | h
  · cases h
  · exact h
theorem iter_cut {b : Heap} (Z : ZSets b) (ks : List Nat) : ∀ (n : Nat) (x : List Nat), iterX Z ks n x ≠ [] → n + (iterX Z ks n x).length ≤ x.length
  | 0, x, _ => by simp [iterX]
  | n + 1, x, h => by
    have h0 : iterX Z ks n x ≠ [] := fun e => h (by show nextX Z ks (iterX Z ks n x) = []; rw [e]; unfold nextX; simp)
    have ih := iter_cut Z ks n x h0
    have h1 : (iterX Z ks n x).length ≠ 0 := fun e => h0 (List.eq_nil_of_length_eq_zero e)
    have h2 := next_len Z ks (iterX Z ks n x)
    show n + 1 + (nextX Z ks (iterX Z ks n x)).length ≤ _
    exact ar68 ih h1 h2
theorem fold_max {f : Nat → Nat} : ∀ {ks : List Nat} {m : Nat}, m ≤ ks.foldl (fun m k => max m (f k)) m ∧ (∀ k ∈ ks, f k ≤ ks.foldl (fun m k => max m (f k)) m) ∧ (ks.foldl (fun m k => max m (f k)) m = m ∨ ∃ k ∈ ks, ks.foldl (fun m k => max m (f k)) m = f k)
  | [], m => ⟨Nat.le_refl _, (fun k hk => nomatch hk), .inl rfl⟩
  | k :: ks, m => by
    refine X0_3 (fold_max (f := f) (ks := ks) (m := max m (f k))) ?_; intro h1 h2 h3
    refine ⟨Nat.le_trans (Nat.le_max_left _ _) h1, fun j hj => ?_, ?_⟩
    · refine mem_c j hj ?_ fun hj => ?_
      · exact Nat.le_trans (Nat.le_max_right _ _) h1
      · exact h2 j hj
    · rcases h3 with h3 | ⟨j, hj, h3⟩
      · rcases Nat.le_total m (f k) with hm | hm
        · right; exact ⟨k, List.mem_cons_self, by show ks.foldl _ (max m (f k)) = _; rw [h3, Nat.max_eq_right hm]⟩
        · left; show ks.foldl _ (max m (f k)) = _; rw [h3, Nat.max_eq_left hm]
      · right; exact ⟨j, List.mem_cons_of_mem _ hj, h3⟩
theorem max_is {b : Heap} {Z : ZSets b} {ks y : List Nat} {M : Int} (h1 : M ∈ [(1 : Int)] ++ ks.map fun k => ((askA Z k y).size : Int)) (h2 : ∀ a ∈ [(1 : Int)] ++ ks.map fun k => ((askA Z k y).size : Int), a ≤ M) : M = ((max 1 (farX Z ks y) : Nat) : Int) := by
  refine X0_3 (fold_max (f := fun k => (askA Z k y).size) (ks := ks) (m := 0)) ?_; intro f1 f2 f3
  change _ ≤ farX Z ks y at f1
  change ∀ k ∈ ks, _ ≤ farX Z ks y at f2
  change farX Z ks y = _ ∨ ∃ k ∈ ks, farX Z ks y = _ at f3
  have g1 : (1 : Int) ≤ M := h2 1 (by walk_at "m")
  have g2 : ∀ k ∈ ks, ((askA Z k y).size : Int) ≤ M := fun k hk => h2 _ (List.mem_append_right _ (List.mem_map.mpr ⟨k, hk, rfl⟩))
  have g3 : (farX Z ks y : Int) ≤ M := by
    rcases f3 with e | ⟨k, hk, e⟩
    · rw [e]; lia
    · rw [e]; exact g2 k hk
  refine mem_a h1 (fun h => ?_) fun h => ?_
  · rw [List.mem_singleton.mp h] at g3 ⊢
    exact ar69 g3
  · refine X1_2 (List.mem_map.mp h) ?_; intro k hk e
    have := f2 k hk
    exact ar70 g1 g3 e this
theorem tok_open {h : Heap} {L one c nl D nt : Addr} {v : Value} {z : Bool} {ns : Array Value} {vs : List Value} {c0 nd : Nat} {tk0 : Tok} {o : Obj} {r : List (Addr × Obj)} (N : News b L h ((one, W.listOf #[.int 1 tk0] 0) :: (c, tokO v z nl) :: (nl, W.listOf ns c0) :: (D, W.listOf (vs.toArray.push (Value.ref c)) nd) :: (nt, o) :: r)) :
    ∃ (one' c' nl' : Addr) (c0' : Nat) (tk0' : Tok), one' = one ∧ c' = c ∧ nl' = nl ∧ News b L h ((one', W.listOf #[.int 1 tk0'] 0) :: (c', tokO v z nl') :: (nl', W.listOf ns c0') :: (D, W.listOf (vs ++ [Value.ref c']).toArray nd) :: (nt, o) :: r) :=
  (Y5 one c nl c0 tk0 ⟨rfl, rfl, rfl, by rw [← List.push_toArray]; exact N⟩)
theorem law_tokens (G : Gd w mean mg mb b) (Z : ZSets b) (ZK : Z.Ok) {V : Nat → Value} {tv : Nat → Bool} {x : List Nat} {ks : List Nat} {rs : List Value} {t1 : Tok} {T0 : List (Addr × Obj)} {ex dx u l c' nt : Addr} {nn nr : Nat} {t1' t2 t3 t4 : Tok} {oc' : Obj} {vs' : Array Value} {t' : Tok}
    (hx : x.length ≤ 24) (hx13 : ∀ a ∈ x, a ∈ signs13) (hT : TS T0) (hr : ∀ p ∈ news, p.1 ≠ 148) (hnt : nt ≠ 148) (hnn : ∀ p ∈ news ++ T0, p.1 ≠ nt)
    (he : (ex, instObj 52 dx) ∈ news) (hed : (dx, dictOf (entD w.params u l t1' t2 t3 t4) 4) ∈ news) (hel : (l, W.listOf rs.toArray nr) ∈ news) (hks : ks.length ≤ 6) (hlen : rs.length = ks.length)
    (hrul : ∀ (i k : Nat), ks[i]? = some k → ∃ rx, rs[i]? = some (Value.ref rx) ∧ k < 6 ∧ RuleAt w news c' rx k (V k) nt) (hc : (c', oc') ∈ news) (hod : oc'.data = .fields vs') (hv : vs'[1]? = some (.str "_law_rule.<locals>._law_asked" t'))
    (hV : ∀ k, k < 6 → VerdIs w news k (V k)) (htv : ∀ k, k < 6 → TruthIs w news (V k) (tv k)) :
    JSpec w b none 76 (.ref 219) [.str (S x) t1, .ref ex, .ref nt] [] ((nt, W.listOf #[] nn) :: (news ++ T0)) (TokPost Z V tv x ks nt news T0) (fun _ _ => False) := by
  walk_at "J def"
  intro dp un outer L fr s Q Ec hfr F N hsep hdp hun ret rai
  refine let_all ?_
  intro aV eV eX qX
  have X := G.K
  have T := G.T
  replace F : Fr b L s.heap (lk [(Str.ofString "notes", .ref nt), (Str.ofString "entry", .ref ex), (Str.ofString "text", .str (S x) t1)]) := F
  replace N : News b L s.heap ((nt, W.listOf #[] nn) :: (news ++ T0 ++ fr)) := N
  k_steps
  refine StopAt.go ?_
  rename _ < _ ∧ AllLt _ _ => l1
  replace l1 := lt_all (o := W.listOf #[] nn) l1
  rename Fr _ _ _ _ => F2
  rename News _ _ _ _ => N2
  obtain ⟨D, l2, F2, N2⟩ : ∃ D : Addr, (∀ p ∈ (nt, W.listOf #[] nn) :: (news ++ T0 ++ fr), @LT.lt Nat _ p.1 D) ∧ Fr b L _ (fun y => if y = Str.ofString "rest" then some (.str (S x) t1) else if y = Str.ofString "tokens" then some (.ref D) else lk [(Str.ofString "notes", .ref nt), (Str.ofString "entry", .ref ex), (Str.ofString "text", .str (S x) t1)] y) ∧ News b L _ ((D, W.listOf ([] : List Value).toArray 0) :: (nt, W.listOf #[] nn) :: (news ++ T0 ++ fr)) := ⟨_, l1, F2, N2⟩
  refine While_inv2 (fun n m₁ nx => ∃ (B T' : List (Addr × Obj)) (ns : List Value) (nn' nd : Nat) (vs : List Value) (fr' : List (Addr × Obj)) (tr : Tok) (ext : List (Str × Value)), nx = (D, W.listOf vs.toArray nd) :: (nt, W.listOf ns.toArray nn') :: (B ++ T' ++ fr') ∧ TI.SameUp fr fr' ∧ TS2 T0 T' ∧ Grew news B ∧
    m₁ = lk ((Str.ofString "notes", .ref nt) :: (Str.ofString "entry", .ref ex) :: (Str.ofString "text", .str (S x) t1) :: (Str.ofString "tokens", .ref D) :: (Str.ofString "rest", .str (S (iterX Z ks vs.length x)) tr) :: ext) ∧ ToksIn Z V tv B ks x vs ∧ n = (iterX Z ks vs.length x).length ∧
    (∀ p ∈ B ++ T', p.1 ≠ nt) ∧ (∀ p ∈ B ++ T' ++ fr', p.1 ≠ D) ∧ (∀ p ∈ B, p.1 ≠ 148) ∧ Fresh ((nt, W.listOf #[] nn) :: (news ++ T0)) fr ((D, W.listOf vs.toArray nd) :: (nt, W.listOf ns.toArray nn') :: (B ++ T')) ∧ Sep ((D, W.listOf vs.toArray nd) :: (nt, W.listOf ns.toArray nn') :: (B ++ T')) fr' ∧ ns.length ≤ 6)
    F2 N2 (Y9 news T0 [] nn 0 [] fr t1 [] ⟨rfl, TI.SameUp.refl _, ⟨hT, fun p hp => List.mem_map_of_mem hp⟩, Grew.refl, lk_many [(_, _), (_, _)] _, ToksIn.nil, rfl, hnn, fun p hp => Nat.ne_of_lt (l2 p (List.mem_cons_of_mem _ hp)), hr, fresh_lt l2 Fresh.refl, sep_cons (fun q hq => Nat.ne_of_gt (l2 q (by walk_at "m"))) hsep, by decide⟩) ?_
  intro n m₁ nx h₁ tk₁ F3 N3 y0; walk_at "q"; refine X9_13 y0 ?_; clear y0; intro B T' ns nn' nd vs fr' tr ext z0 hsu hT2 hg z1 hto z2 hBn hBD hB1 hfre hsepJ hns6; subst z0; subst z1; subst z2
  clear F2 N2
  have hrl : (iterX Z ks vs.length x).length ≤ 24 := Nat.le_trans (iter_len Z ks vs.length x) hx
  have hr13 : ∀ a ∈ iterX Z ks vs.length x, a ∈ signs13 := fun a ha => hx13 a (iter_sub Z ks vs.length x a ha)
  have hrll : (S (iterX Z ks vs.length x)).length ≤ 1000 := by rw [S_len]; lia
  have hDnt : @Ne Nat D nt := Nat.ne_of_gt (l2 (nt, _) List.mem_cons_self)
  k_steps
  refine StopAt.go ?_
  refine truthy_or hrll (fun hne tk => ?_) (fun hz tk => ?_)
  · rw [S_len] at hne
    refine if_t ?_
    try clear F2
    try clear N2
    have hD' : ∀ p ∈ B ++ T' ++ fr', @Ne Nat p.1 D := hBD
    have hnt' : ∀ p ∈ B ++ T' ++ fr', @Ne Nat p.1 nt := fun p hp => (List.mem_append.mp hp).elim (hBn p) fun q => Ne.symm (hsepJ (nt, W.listOf ns.toArray nn') (by walk_at "m") p q)
    have he2 := hg.sub _ he
    have hed2 := hg.sub _ hed
    have mB : ∀ p ∈ B, p ∈ (D, W.listOf vs.toArray nd) :: (nt, W.listOf ns.toArray nn') :: (B ++ T' ++ fr') := fun p hp => by walk_at "m"
    k_steps
    refine StopAt.go ?_
    have hnt2 : ∀ p ∈ B ++ T' ++ fr', p.1 ≠ nt := hnt'
    refine clear_J F3 N3 hDnt hnt2 (by rw [List.size_toArray]; exact Nat.le_trans hns6 (by decide)) ?_
    intro h4 n4 F4 N4
    clear F3 N3
    k_steps
    refine StopAt.go ?_
    rename Fr _ _ _ _ => F5
    rename News _ _ _ _ => N5
    have hfr' := hfr.up hsu
    refine X1_1 hT2.1.mem148 ?_; intro o148 h148
    have hD148 : D ≠ 148 := Ne.symm (hBD (148, o148) (by walk_at "m"))
    have N6 : News b L _ (((nt, W.listOf #[] n4) :: (((D, W.listOf vs.toArray nd) :: B) ++ T')) ++ fr') := news_sub N5 (by
      intro p hp
      (revert p hp; walk_at "s"))
    have hsep6 : Sep ((nt, W.listOf #[] n4) :: (((D, W.listOf vs.toArray nd) :: B) ++ T')) fr' := Sep.map (news := (nt, W.listOf ns.toArray nn') :: (((D, W.listOf vs.toArray nd) :: B) ++ T')) (fun q hq p hp => hsepJ q (by
      (revert q hq; walk_at "s")) p hp) rfl
    have hsubB : ∀ p ∈ news, p ∈ (D, W.listOf vs.toArray nd) :: B := fun p hp => List.mem_cons_of_mem _ (hg.sub p hp)
    refine allowance G Z ZK (V := V) (tv := tv) (x := iterX Z ks vs.length x) (ks := ks) (rs := rs) (T0 := T') (news := (D, W.listOf vs.toArray nd) :: B) hrl (by exact Nat.pos_of_ne_zero hne) hr13 hT2.1 (fun p hp => ?_) hnt (fun p hp => ?_) (List.mem_cons_of_mem _ he2) (List.mem_cons_of_mem _ hed2) (hsubB _ hel) hks hlen (fun i k hk => ?_) (hsubB _ hc) hod hv (fun k hk => (htv k hk).mono hsubB) (fun k hk => handed_verd hk (hV k hk)) _ _ _ _ _ _ fr' _ _ _ rfl rfl hfr' F5 N6 hsep6 (by walk_at "o") (by walk_at "o") ?_ ?_
    · refine mem_c p hp ?_ fun hp => ?_
      · exact hD148
      · exact hB1 p hp
    · refine mem_c p hp ?_ fun hp => ?_
      · exact hDnt
      · exact hBn p hp
    · refine X1_3 (hrul i k hk) ?_; intro rx y1 y2 y3
      exact ⟨rx, y1, y2, y3.mono hsubB⟩
    · intro v lg fr2 h6 tk6 y0 hsu2 hF2 F7 N7; refine X4_7 y0 ?_; clear y0; intro B2 T2 ns2 nn2 hT3 hg2 z0 z1 hno hBn2 hB12; subst z0; subst z1
      refine X1_2 hg2 ?_; clear hg2; intro exs z0 hex; subst z0
      clear N6
      try clear F5
      try clear N5
      try clear F4
      try clear N4
      have hsu3 := hsu.trans hsu2
      have hT4 := hT2.trans hT3
      have N8 : News b L h6 ((D, W.listOf vs.toArray nd) :: (nt, W.listOf ns2.toArray nn2) :: (exs ++ B ++ T2 ++ fr2)) := news_sub N7 (by
        intro p hp
        (revert p hp; walk_at "s"))
      clear N7
      have hno2 : NotesIn Z (iterX Z ks vs.length x) (exs ++ B) ks ns2 := NotesIn.strip (fun p hp hc => by
        refine mem_a hp (fun hp => ?_) fun hp => ?_
        · walk_at "m"
        · rcases List.mem_cons.mp hp with rfl | hp
          · exact absurd (Value.type.inj hc) (by decide)
          · walk_at "m") hno
      have hT2D : ∀ p ∈ T2, p.1 ≠ D := TS.off N8 hT3.1 (by walk_at "s") (xs := vs.toArray) (n := nd) List.mem_cons_self hD148
      have hg3 : Grew B (exs ++ B) := ⟨exs, rfl, fun p hp q hq => hex p hp q (List.mem_cons_of_mem _ hq)⟩
      have hg4 := Grew.trans hg hg3
      have hns2 : ns2.length ≤ 6 := by rw [hno2.len]; exact hks
      have hk6 : ∀ k ∈ ks, k < 6 := fun k hk => by
        refine X1_1 (List.getElem_of_mem hk) ?_; intro i z0; obtain ⟨hi, rfl⟩ := z0
        refine X1_3 (hrul i _ (List.getElem?_eq_getElem hi)) ?_; intro _ _ h _
        exact h
      k_steps
      refine StopAt.go ?_
      rename Fr _ _ _ _ => F9
      rename News _ _ _ _ => N9
      refine is_pick (lg := news) (fun j hj => hk6 j (pick_mem hj)) hV ?_
      have hsepD : ∀ p ∈ fr2, p.1 ≠ D := fun p hp => Ne.symm ((hsepJ.up hsu2) (D, W.listOf vs.toArray nd) List.mem_cons_self p hp)
      have hDall : ∀ p ∈ exs ++ B ++ T2 ++ fr2, p.1 ≠ D := fun p hp => by
        refine mem_a hp (fun hp => ?_) fun hp => ?_; refine mem_a hp (fun hp => ?_) fun hp => ?_; refine mem_a hp (fun hp => ?_) fun hp => ?_
        · exact hex p hp (D, W.listOf vs.toArray nd) List.mem_cons_self
        · exact hBD p (by walk_at "m")
        · exact hT2D p hp
        · exact hsepD p hp
      have hntD : @Ne Nat nt D := Ne.symm hDnt
      have hvl : vs.length ≤ 24 := by
        have := iter_cut Z ks vs.length x (fun h => hne (by rw [h]; rfl))
        lia
      k_steps
      refine StopAt.go ?_
      rename _ < _ ∧ _ < _ ∧ _ < _ ∧ _ < _ ∧ AllLt _ _ => q3
      rename _ < _ ∧ _ < _ ∧ _ < _ ∧ AllLt _ _ => q2
      rename D < _ ∧ _ < _ ∧ AllLt _ _ => q1
      rename Fr _ _ _ _ => F10
      rename News _ _ _ _ => N10
      refine X5_4 (tok_open N10) ?_; intro one c nl c0 tk0 z0 z1 z2 N11; subst z0; subst z1; subst z2
      clear N10
      try clear F9
      try clear N9
      try clear N8
      obtain ⟨al, hal⟩ : ∃ al, al = pick Z tv (iterX Z ks vs.length x) ks := ⟨_, rfl⟩
      obtain ⟨y, hy⟩ : ∃ y, y = iterX Z ks vs.length x := ⟨_, rfl⟩
      obtain ⟨cur, hcur⟩ : ∃ cur : List (Addr × Obj), cur = (one, W.listOf #[.int 1 tk0] 0) :: (c, tokO (pickV V (pick Z tv (iterX Z ks vs.length x) ks)) (pick Z tv (iterX Z ks vs.length x) ks).isNone nl) :: (nl, W.listOf ns2.toArray c0) :: (D, W.listOf (vs ++ [Value.ref c]).toArray (nd + 1)) :: (nt, W.listOf ns2.toArray nn2) :: (exs ++ B ++ T2) := ⟨_, rfl⟩
      have N12 := news_eq (nx' := cur ++ fr2) N11 (by rw [hcur]; rfl)
      have hcnt : (nt, W.listOf ns2.toArray nn2) ∈ cur := by walk_at "m"
      have hcB : ∀ p ∈ exs ++ B, p ∈ cur := fun p hp => by walk_at "m"
      have hsepc : Sep cur fr2 := by
        rw [hcur]
        refine sep_cons (fun q hq => Nat.ne_of_gt (lt_tail q3.2.2.2.2 q (List.mem_append_right _ hq))) (sep_cons (fun q hq => Nat.ne_of_gt (lt_tail q2.2.2.2 q (List.mem_append_right _ hq))) (sep_cons (fun q hq => Nat.ne_of_gt (lt_tail q1.2.2 q (List.mem_append_right _ hq))) ?_))
        intro q hq p hp
        have hs9 := sep_fresh hsep6 hF2 hsu2
        refine mem_c q hq ?_ fun hm => mem_c q hm ?_ fun hm => ?_; rotate_left 2; refine mem_a hm (fun hm => ?_) fun hq => ?_; refine mem_a hm (fun hq => ?_) fun hq => ?_; rotate_right 2
        · exact Ne.symm (hsepD p hp)
        · exact hs9 (nt, W.listOf ns2.toArray nn2) (by walk_at "m") p hp
        · exact hs9 q (by walk_at "m") p hp
        · exact hs9 q (by walk_at "m") p hp
        · exact hs9 q (by walk_at "m") p hp
      clear N11
      refine ListComp_J F10 (by with_unfolding_all rfl) (by decide) (by rfl) (by decide) ?_
      k_steps
      rename Fr _ _ _ _ => F11
      rename News _ _ _ _ => N13
      have hfr2 := hfr'.up hsu2
      have hnl := hno2.len
      refine comp_list (s := ⟨_, _, _, _, _⟩) (D := nt) (ys := ns2) (k := nn2) rfl F11 N13 (by walk_at "m") (by rfl) (by rfl) (Nat.le_trans hns2 (by decide)) (fun i zs nx => ∃ fr3, nx = cur ++ fr3 ∧ TI.SameUp fr2 fr3 ∧ IntsAre zs ((ks.take i).map fun k => ((askA Z k (iterX Z ks vs.length x)).size : Int))) (fun i zs nx ⟨fr3, e, _⟩ => by walk_at "m") ⟨fr2, rfl, TI.SameUp.refl _, .nil⟩ ?_ ?_
      · intro I hI h i zs C D2 oC m₂ news₁ own h₁ tk₁ X' hin y0 y1 hown hop hoff2 hia hCD hoC F3 N3; refine tests_none ?_; intro qY; refine X1_3 y0 ?_; clear y0; intro fr3 z0 hsu4 hzs; subst z0; refine X1_2 y1 ?_; clear y1; intro v hv1 hx2
        have hik : i < ks.length := by exact hnl ▸ hin
        have hnote := hno2.get hin hik
        refine X4_3 hnote ?_; clear hnote; intro cn tn1 tn2 av hve hcn hav
        obtain rfl : v = .ref cn := by
          rw [List.getElem?_eq_getElem hin] at hv1
          exact (Option.some.inj hv1).symm.trans hve
        have hcn2 := hcB _ hcn
        have hcn3 : (cn, noteO ks[i] (iterX Z ks vs.length x) av (askA Z ks[i] (iterX Z ks vs.length x)).isInt (askR Z ks[i] (iterX Z ks vs.length x)) tn1 tn2) ∈ (C, oC) :: (D2, LCg.lst zs) :: (cur ++ fr3 ++ own) := by walk_at "m"
        try clear F11
        try clear N13
        try clear N12
        try dsimp only
        k_steps
        refine StopAt.go ?_
        rename Fr _ _ _ _ => F4
        rename News _ _ _ _ => N4
        have hIfr : ∀ q ∈ fr3, @Ne Nat I q.1 := fun q hq => Ne.symm (fun z => (hoff2 q (List.mem_append_right _ hq)).1 (by rw [show q.1 = I from z]; simp))
        have hownfr : ∀ p ∈ own, ∀ q ∈ fr3, p.1 ≠ q.1 := fun p hp q hq => by
          have : p.1 ∈ [I] := by rw [← hown]; exact List.mem_map_of_mem hp
          rw [List.mem_singleton.mp this]; exact hIfr q hq
        have hsep5 : Sep ((C, oC) :: (D2, LCg.lst zs) :: (cur ++ own)) fr3 := sep_cons (fun q hq => Ne.symm (hoff2 q (List.mem_append_right _ hq)).2.1) (sep_cons (fun q hq => Ne.symm (hoff2 q (List.mem_append_right _ hq)).2.2) (fun q hq p hp => by
          refine mem_a hq (fun hq => ?_) fun hq => ?_
          · exact (hsepc.up hsu4) q hq p hp
          · exact hownfr q hq p hp))
        have N5 : News b L h₁ (((C, oC) :: (D2, LCg.lst zs) :: (cur ++ own)) ++ fr3) := news_sub N4 (by
          intro p hp
          (revert p hp; walk_at "s"))
        refine size_ans G (news := (C, oC) :: (D2, LCg.lst zs) :: (cur ++ own)) (hav.mono fun p hp => by have hz := hcB p hp; walk_at "m") _ _ _ _ _ _ fr3 _ _ _ rfl rfl (hfr2.up hsu4) F4 N5 hsep5 (by walk_at "o") (by walk_at "o") ?_ ?_
        · intro v lg fr4 h8 tk8 y0 hsu5 hF5 F8 N8; refine X0_2 y0 ?_; clear y0; intro z0 z2; refine X1_1 z0 ?_; clear z0; intro t8 z1; subst z1; subst z2
          exact (Y3 h8 tk8 (cur ++ fr4) ⟨rfl, F8, news_sub N8 (by
            intro p hp
            (revert p hp; walk_at "s")), up_off (P := fun a => a ∉ [I] ∧ a ≠ C ∧ a ≠ D2) hsu5 hoff2, fr4, rfl, hsu4.trans hsu5, by rw [take_snoc hik]; exact ints_snoc hzs⟩)
        · rintro _ _ _ _ _ _ _ ⟨⟩
      · intro h zs nx y0; refine X1_3 y0 ?_; clear y0; intro fr3 z0 hsu4 hzs; subst z0
        intro D2 h' tk' F14 N14 hD2
        rw [hnl, List.take_length] at hzs
        try dsimp only
        try clear F11
        try clear N13
        try clear N12
        k_steps
        refine StopAt.go ?_
        have hsz15 : [(1 : Int)].length + (ks.map fun k => ((askA Z k (iterX Z ks vs.length x)).size : Int)).length ≤ sizeLine := by rw [List.length_map]; exact Nat.le_trans (Nat.add_le_add_left hks 1) (by decide)
        refine add_lists_ints (s := ⟨_, _, _, _, _⟩) (hsz := hsz15) F14 N14 (isList_mem (ys := [Value.int 1 tk0]) (n := 0) N14 (by walk_at "m")) (isList_mem N14 (n := zs.length) List.mem_cons_self) (.cons 1 tk0 .nil) hzs ?_
        intro h15 F15 N15 hI15
        clear F14 N14
        dsimp only at N15 ⊢
        k_steps
        refine StopAt.go ?_
        rename Fr _ _ _ _ => F16
        rename News _ _ _ _ => N16
        refine kso_max (s := ⟨_, _, _, _, _⟩) F16 N16 (isList_mem N16 (n := 0) List.mem_cons_self) hI15 (by simp) rfl ?_
        intro h17 M tM tk17 F17 N17 hM1 hM2
        obtain rfl : M = ((max 1 (farX Z ks (iterX Z ks vs.length x)) : Nat) : Int) := max_is hM1 hM2
        try clear F15
        try clear N15
        try clear F16
        try clear N16
        k_steps
        rename Fr _ _ _ _ => F20
        rename News _ _ _ _ => N20
        have hsu6 := hsu3.trans hsu4
        have lc : ∀ p ∈ exs ++ B ++ T2 ++ fr2, @LT.lt Nat _ p.1 c := lt_tail q2.2.2.2
        have ln : ∀ p ∈ exs ++ B ++ T2 ++ fr2, @LT.lt Nat _ p.1 nl := lt_tail q1.2.2
        refine X1_1 hT3.1.mem148 ?_; intro o149 h149
        have hbase : ∀ q ∈ (nt, W.listOf #[] nn) :: (news ++ T0), ∃ q' ∈ (nt, W.listOf #[] n4) :: (((D, W.listOf vs.toArray nd) :: B) ++ T'), q'.1 = q.1 := fun q hq => by
          refine mem_c q hq ?_ fun hq => ?_
          · exact ⟨(nt, W.listOf #[] n4), List.mem_cons_self, rfl⟩
          · refine mem_a hq (fun hq => ?_) fun hq => ?_
            · exact ⟨q, by have hz := hg.sub q hq; walk_at "m", rfl⟩
            · refine X1_2 (List.mem_map.mp (hT2.2 q hq)) ?_; intro q2 y1 y2
              exact ⟨q2, by walk_at "m", y2⟩
        have hbase2 : ∀ q ∈ (nt, W.listOf #[] nn) :: (news ++ T0), ∃ q' ∈ (nt, W.listOf ns2.toArray nn2) :: (D, W.listOf vs.toArray nd) :: (exs ++ B ++ T2), q'.1 = q.1 := fun q hq => by
          refine X1_2 (hbase q hq) ?_; intro q' y1 y2
          revert y2; refine mem_c q' y1 ?_ fun hm => ?_; rotate_left; refine mem_a hm (fun hm => ?_) fun y1 => ?_; refine mem_c q' hm ?_ fun y1 => ?_; rotate_right
          · intro y2; exact ⟨(nt, W.listOf ns2.toArray nn2), List.mem_cons_self, y2⟩
          · intro y2; exact ⟨(D, W.listOf vs.toArray nd), by walk_at "m", y2⟩
          · intro y2; exact ⟨q', by walk_at "m", y2⟩
          · intro y2; refine X1_2 (List.mem_map.mp (hT3.2 q' y1)) ?_; intro q3 y3 y4
            exact ⟨q3, by walk_at "m", y4.trans y2⟩
        have hfreA := fresh_step hsu hbase (fresh_sub (lg := (D, W.listOf vs.toArray nd) :: (nt, W.listOf ns.toArray nn') :: (B ++ T')) (fun p hp => by
          refine mem_c p hp ?_ fun hp => ?_; rotate_left; refine mem_a hp (fun hp => ?_) fun hp => ?_; refine mem_c p hp ?_ fun hp => ?_; rotate_right
          · exact ⟨(nt, W.listOf ns.toArray nn'), by walk_at "m", rfl⟩
          · exact ⟨(D, W.listOf vs.toArray nd), by walk_at "m", rfl⟩
          · exact ⟨p, by walk_at "m", rfl⟩
          · exact ⟨p, by walk_at "m", rfl⟩) hfre) hF2
        have ltall : ∀ z : Addr, @LT.lt Nat _ nt z → @LT.lt Nat _ D z → (∀ p ∈ exs ++ B ++ T2 ++ fr2, @LT.lt Nat _ p.1 z) → ∀ p ∈ ((nt, W.listOf ns2.toArray nn2) :: (D, W.listOf vs.toArray nd) :: (exs ++ B ++ T2)) ++ fr2, @LT.lt Nat _ p.1 z := fun z h1 h2 h3 p hp => by
          refine mem_a hp (fun hp => ?_) fun hp => ?_; refine mem_c p hp ?_ fun hp => mem_c p hp ?_ fun hp => ?_
          · exact h1
          · exact h2
          · exact h3 p (by walk_at "m")
          · exact h3 p (by walk_at "m")
        have hfreB := fresh_add (D := c) (o := tokO (pickV V (pick Z tv (iterX Z ks vs.length x) ks)) (pick Z tv (iterX Z ks vs.length x) ks).isNone nl) hsu3 hbase2 (ltall c q2.2.2.1 q2.2.1 lc) (fresh_add (D := nl) (o := W.listOf ns2.toArray c0) hsu3 hbase2 (ltall nl q1.2.1 q1.1 ln) hfreA)
        refine (Y5 _ _ _ _ ((iterX Z ks (vs ++ [Value.ref c]).length x).length) ⟨rfl, F20, news_sub N20 (news' := (D, W.listOf (vs ++ [Value.ref c]).toArray (nd + 1)) :: (nt, W.listOf ns2.toArray nn2) :: (((c, tokO (pickV V (pick Z tv (iterX Z ks vs.length x) ks)) (pick Z tv (iterX Z ks vs.length x) ks).isNone nl) :: (nl, W.listOf ns2.toArray c0) :: (exs ++ B)) ++ T2 ++ fr3)) ?_, ?_, (Y9 ((c, tokO (pickV V (pick Z tv (iterX Z ks vs.length x) ks)) (pick Z tv (iterX Z ks vs.length x) ks).isNone nl) :: (nl, W.listOf ns2.toArray c0) :: (exs ++ B)) T2 ns2 nn2 (nd + 1) (vs ++ [Value.ref c]) fr3 _ _ ⟨rfl, hsu6, hT4, ?_, (lk_many [(_, _), (_, _)] _).trans (congrArg lk (by rw [List.length_append]; rfl)), ?_, rfl, ?_, ?_, ?_, ?_, ?_, hns2⟩)⟩)
        · intro p hp
          rw [hcur]
          (revert p hp; walk_at "s")
        · rw [List.length_append]
          have := next_len Z ks (iterX Z ks vs.length x)
          show (nextX Z ks (iterX Z ks vs.length x)).length < _
          exact ar54 hne this
        · refine Grew.trans hg4 ⟨[_, _], rfl, fun p hp q hq => ?_⟩
          refine mem_c p hp ?_ fun hp => mem_1 p hp ?_
          · exact Nat.ne_of_gt (lc q (by walk_at "m"))
          · exact Nat.ne_of_gt (ln q (by walk_at "m"))
        · refine ToksIn.snoc (hto.mono fun p hp => by walk_at "m") (fun e => hne (by rw [e]; rfl)) (Y4 c nl c0 ns2 ⟨rfl, by walk_at "m", by walk_at "m", hno2.mono fun p hp => by simp only [List.mem_cons]; exact .inr (.inr hp)⟩)
        · intro p hp
          refine mem_a hp (fun hp => ?_) fun hp => ?_; refine mem_c p hp ?_ fun hp => mem_c p hp ?_ fun hp => ?_; rotate_left 2; refine mem_a hp (fun hp => ?_) fun hp => ?_; rotate_right 2
          · exact Nat.ne_of_gt q2.2.2.1
          · exact Nat.ne_of_gt q1.2.1
          · exact hBn2 p (by walk_at "m")
          · exact hBn2 p (by walk_at "m")
          · exact hBn2 p (by walk_at "m")
        · intro p hp
          simp only [List.mem_append, List.mem_cons] at hp
          have hD3 := up_off (P := fun a => a ≠ D) hsu4 hDall
          rcases hp with ((rfl | rfl | hp | hp) | hp) | hp
          · exact Nat.ne_of_gt q2.2.1
          · exact Nat.ne_of_gt q1.1
          · exact hD3 p (by walk_at "m")
          · exact hD3 p (by walk_at "m")
          · exact hD3 p (by walk_at "m")
          · exact hD3 p (by walk_at "m")
        · intro p hp
          refine mem_c p hp ?_ fun hp => mem_c p hp ?_ fun hp => ?_; rotate_left 2; refine mem_a hp (fun hp => ?_) fun hp => ?_; rotate_right 2
          · exact Nat.ne_of_gt (lc (148, o149) (by walk_at "m"))
          · exact Nat.ne_of_gt (ln (148, o149) (by walk_at "m"))
          · exact hB12 p (by walk_at "m")
          · exact hB12 p (by walk_at "m")
        · refine fresh_sub (fun p hp => ?_) hfreB
          refine mem_c p hp ?_ fun hp => mem_c p hp ?_ fun hp => ?_; rotate_left 2; refine mem_a hp (fun hp => ?_) fun hp => ?_; refine mem_c p hp ?_ fun hp => mem_c p hp ?_ fun hp => ?_; rotate_left 2; refine mem_a hp (fun hp => ?_) fun hp => ?_; rotate_right 2; rotate_right 2
          · exact ⟨(D, W.listOf vs.toArray nd), by walk_at "m", rfl⟩
          · exact ⟨(nt, W.listOf ns2.toArray nn2), by walk_at "m", rfl⟩
          · exact ⟨_, List.mem_cons_self, rfl⟩
          · exact ⟨_, List.mem_cons_of_mem _ List.mem_cons_self, rfl⟩
          · exact ⟨p, by walk_at "m", rfl⟩
          · exact ⟨p, by walk_at "m", rfl⟩
          · exact ⟨p, by walk_at "m", rfl⟩
        · intro q hq p hp
          refine (hsepc.up hsu4) q ?_ p hp
          rw [hcur]
          (revert q hq; walk_at "s")
    · rintro _ _ _ _ _ _ _ ⟨⟩
  · rw [S_len] at hz
    refine if_f ?_
    try clear F2
    try clear N2
    have he0 : iterX Z ks vs.length x = [] := List.eq_nil_of_length_eq_zero hz
    k_steps
    rename Fr _ _ _ _ => F4
    rename News _ _ _ _ => N4
    refine ret _ ((nt, W.listOf ns.toArray nn') :: (D, W.listOf vs.toArray nd) :: (B ++ T')) fr' _ _ _ _ (Y7 B T' ns nn' D nd vs ⟨hT2, hg, rfl, rfl, hto, he0, fun p hp => ?_, fun p hp => hBD p (List.mem_append_left _ hp)⟩) hsu (fresh_sub (fun p hp => ⟨p, ?_, rfl⟩) hfre) F4 (news_sub N4 ?_)
    · refine mem_c p hp ?_ fun hp => ?_
      · exact hDnt
      · exact hBn p hp
    · (revert p hp; walk_at "s")
    · intro p hp
      (revert p hp; walk_at "s")

end
section
open PySem PySem.W PyProof.Rows PySem.Calls PySem.Spec
noncomputable def pickR (tv : Nat → Bool) (bs : List Nat) : Option Nat :=
  match bs.filter tv with
  | k :: _ => some k
  | [] => bs.getLast?
noncomputable def bestX {b : Heap} (Z : ZSets b) (y ks : List Nat) : List Nat := ks.filter fun k => decide ((askA Z k y).size = farX Z ks y)
noncomputable def PInv {b : Heap} (Z : ZSets b) (tv : Nat → Bool) (y l : List Nat) (st : Int × Option Nat) : Prop :=
  (farX Z l y = 0 ∧ st = (-1, none)) ∨ (0 < farX Z l y ∧ st.1 = (farX Z l y : Int) ∧ st.2 = pickR tv (bestX Z y l))
theorem pickR_snoc {tv : Nat → Bool} {bs : List Nat} {k : Nat} : pickR tv (bs ++ [k]) = match bs.filter tv with
    | j :: _ => some j
    | [] => some k := by
  unfold pickR
  rw [List.filter_append]
  cases h : bs.filter tv with
  | cons j r => rfl
  | nil =>
    cases hk : tv k with
    | true => simp [List.filter_cons, hk]
    | false => simp [List.filter_cons, hk]
theorem pickR_tv {tv : Nat → Bool} {bs : List Nat} (h : bs ≠ []) : ∃ j, pickR tv bs = some j ∧ (tv j = true ↔ bs.filter tv ≠ []) := by
  unfold pickR
  cases hf : bs.filter tv with
  | cons j r =>
    have : j ∈ bs.filter tv := by rw [hf]; exact List.mem_cons_self
    exact ⟨j, rfl, by simp [(List.mem_filter.mp this).2]⟩
  | nil =>
    obtain ⟨j, hj⟩ : ∃ j, bs.getLast? = some j := by
      cases hl : bs.getLast? with
      | none => exact absurd (List.getLast?_eq_none_iff.mp hl) h
      | some j => exact ⟨j, rfl⟩
    refine ⟨j, hj, ?_⟩
    have hm : j ∈ bs := List.mem_of_getLast? hj
    constructor
    · intro ht
      have : j ∈ bs.filter tv := List.mem_filter.mpr ⟨hm, ht⟩
      rw [hf] at this; cases this
    · intro h2; exact absurd rfl h2
theorem PInv.step {b : Heap} {Z : ZSets b} {tv : Nat → Bool} {y l : List Nat} {st : Int × Option Nat} {k : Nat} (h : PInv Z tv y l st) : PInv Z tv y (l ++ [k]) (pickS Z tv y st k) := by
  have hf : farX Z (l ++ [k]) y = max (farX Z l y) (askA Z k y).size := by unfold farX; rw [List.foldl_append]; rfl
  refine X0_3 (fold_max (f := fun k => (askA Z k y).size) (ks := l) (m := 0)) ?_; intro _ f2 f3
  change ∀ j ∈ l, _ ≤ farX Z l y at f2
  change farX Z l y = 0 ∨ ∃ j ∈ l, farX Z l y = _ at f3
  have hbig : farX Z l y < (askA Z k y).size → bestX Z y (l ++ [k]) = [k] := fun hlt => by
    unfold bestX
    rw [hf, Nat.max_eq_right (Nat.le_of_lt hlt), List.filter_append]
    have : l.filter (fun j => decide ((askA Z j y).size = (askA Z k y).size)) = [] := by
      rw [List.filter_eq_nil_iff]
      intro j hj
      have := f2 j hj
      simp; lia
    rw [this]
    simp [List.filter_cons]
  have hone : pickR tv [k] = some k := by
    unfold pickR
    cases hk : tv k <;> simp [List.filter_cons, hk]
  unfold pickS
  by_cases h0 : (askA Z k y).size = 0
  · rw [if_pos h0]
    rw [h0, Nat.max_zero] at hf
    rcases h with ⟨h1, h2⟩ | ⟨h1, h2, h3⟩
    · exact .inl ⟨by rw [hf]; exact h1, h2⟩
    · refine .inr ⟨by rw [hf]; exact h1, by rw [hf]; exact h2, ?_⟩
      rw [h3]
      unfold bestX
      rw [hf, List.filter_append, List.filter_cons, if_neg (by simp; lia)]
      simp
  · rw [if_neg h0]
    rcases h with ⟨h1, h2⟩ | ⟨h1, h2, h3⟩
    · have hlt : farX Z l y < (askA Z k y).size := by lia
      rw [if_pos (by rw [h2]; simp; lia)]
      refine .inr ⟨by rw [hf]; lia, by rw [hf, Nat.max_eq_right (Nat.le_of_lt hlt)], ?_⟩
      rw [hbig hlt, hone]
    · by_cases hlt : farX Z l y < (askA Z k y).size
      · rw [if_pos (by rw [h2]; lia)]
        refine .inr ⟨by rw [hf]; lia, by rw [hf, Nat.max_eq_right (Nat.le_of_lt hlt)], ?_⟩
        rw [hbig hlt, hone]
      · rw [if_neg (by rw [h2]; lia)]
        have hmx : farX Z (l ++ [k]) y = farX Z l y := by rw [hf, Nat.max_eq_left (Nat.le_of_not_lt hlt)]
        have hbn : bestX Z y l ≠ [] := by
          rcases f3 with e | ⟨j, hj, e⟩
          · lia
          · intro hn
            have : j ∈ bestX Z y l := List.mem_filter.mpr ⟨hj, by simpa using e.symm⟩
            rw [hn] at this; cases this
        refine X1_2 (pickR_tv (tv := tv) hbn) ?_; intro j hj hjt
        by_cases heq : ((askA Z k y).size : Int) = st.1
        · have heq' : (askA Z k y).size = farX Z l y := by rw [h2] at heq; lia
          have hb : bestX Z y (l ++ [k]) = bestX Z y l ++ [k] := by
            unfold bestX
            rw [hmx, List.filter_append]
            simp [List.filter_cons, heq']
          cases ht : tv j with
          | true =>
            rw [if_neg (by rw [h3, hj]; simp [pickB, ht])]
            refine .inr ⟨by rw [hmx]; exact h1, by rw [hmx]; exact h2, ?_⟩
            rw [h3, hb, pickR_snoc]
            unfold pickR
            cases hfl : (bestX Z y l).filter tv with
            | cons a r => rfl
            | nil => exact absurd hfl (hjt.mp ht)
          | false =>
            rw [if_pos ⟨heq, by rw [h3, hj]; simp [pickB, ht]⟩]
            refine .inr ⟨by rw [hmx]; exact h1, by rw [hmx]; exact h2, ?_⟩
            rw [hb, pickR_snoc]
            cases hfl : (bestX Z y l).filter tv with
            | cons a r => exact absurd (hjt.mpr (by rw [hfl]; simp)) (by simp [ht])
            | nil => rfl
        · rw [if_neg (fun h => heq h.1)]
          refine .inr ⟨by rw [hmx]; exact h1, by rw [hmx]; exact h2, ?_⟩
          rw [h3]
          unfold bestX
          have hne : ¬ (askA Z k y).size = farX Z l y := fun e => heq (by rw [h2, e])
          rw [hmx, List.filter_append, List.filter_cons, if_neg (by simpa using hne)]
          simp
theorem PInv.fold {b : Heap} {Z : ZSets b} {tv : Nat → Bool} {y : List Nat} : ∀ {ks l : List Nat} {st : Int × Option Nat}, PInv Z tv y l st → PInv Z tv y (l ++ ks) (ks.foldl (pickS Z tv y) st)
  | [], l, st, h => by simpa using h
  | k :: ks, l, st, h => by
    have := PInv.fold (ks := ks) (h.step (k := k))
    simpa using this
theorem pick_due {b : Heap} {Z : ZSets b} {tv : Nat → Bool} {y ks : List Nat} : pick Z tv y ks = if farX Z ks y = 0 then none else pickR tv (bestX Z y ks) := by
  have h := PInv.fold (Z := Z) (tv := tv) (y := y) (ks := ks) (l := []) (st := (-1, none)) (.inl ⟨rfl, rfl⟩)
  rw [List.nil_append] at h
  unfold pick
  rcases h with ⟨h1, h2⟩ | ⟨h1, _, h3⟩
  · rw [if_pos h1, h2]
  · rw [if_neg (by lia), h3]

end
section
open PySem PySem.W PyProof.Rows PySem.Calls PySem.Spec
set_option maxHeartbeats 4000000
local macro_rules | `(tactic| walk_at "zz") => `(tactic| skip)
variable {w : World} {mean : ExcName → Option Value} {mg mb : Str → Option Value} {b : Heap} {news : List (Addr × Obj)}
local macro_rules | `(tactic| walk_at "eval ListComp") => `(tactic| k_dflt (refine stopAt ?_))
local macro_rules | `(tactic| walk_at "exec Assign cons ListComp") => `(tactic| k_dflt (refine stopAt ?_))
local macro_rules | `(tactic| walk_at "exec While Name cons nil") => `(tactic| k_dflt (refine stopAt ?_))
local macro_rules | `(tactic| walk_at "call builtin:max") => `(tactic| k_dflt (refine stopAt ?_))
local macro_rules | `(tactic| walk_at "compareOp Is") => `(tactic| ((with_reducible show wpAny _ _ (compareOp _ _ (Value.bool true)) _ _ _); k_dflt (refine stopAt ?_)))
local macro_rules | `(tactic| walk_at "truthy ref") => `(tactic| k_dflt (refine stopAt ?_))
local macro_rules | `(tactic| walk_at "subscriptTail") => `(tactic| ((with_reducible show wpAny _ _ (subscriptTail _ _ (Value.ref _) (Value.int _ _)) _ _ _); k_dflt (refine stopAt ?_)))
local macro_rules | `(tactic| walk_at "eval IfExp") => `(tactic| k_dflt (refine stopAt ?_))
noncomputable def Ans.isStr : Ans → Bool
  | .str _ => true
  | _ => false
noncomputable def PlainLaw {b : Heap} (Z : ZSets b) : Prop := ∀ y : List Nat, y.length ≤ 24 → 1 ≤ y.length → (∀ a ∈ y, a ∈ signs13) → ∀ k, k < 6 → toldV k y = askA Z k y ∧ askR Z k y = (askA Z k y).isStr
noncomputable def DuePost {b : Heap} (Z : ZSets b) (V : Nat → Value) (tv : Nat → Bool) (x : List Nat) (ks : List Nat) (base : List (Addr × Obj)) (r : Value) (lg : List (Addr × Obj)) : Prop :=
  ∃ (B : List (Addr × Obj)) (D : Addr) (nd : Nat) (vs : List Value), Grew base B ∧ lg = (D, W.listOf vs.toArray nd) :: B ∧ (∀ p ∈ B, p.1 ≠ D) ∧ r = .ref D ∧ ToksIn Z V tv B ks x vs ∧ iterX Z ks vs.length x = []
noncomputable def AnsAll {b : Heap} (Z : ZSets b) (lg : List (Addr × Obj)) (y : List Nat) : List Nat → List Value → Prop
  | [], [] => True
  | k :: ks, v :: vs => AnsIn lg (askA Z k y) v ∧ AnsAll Z lg y ks vs
  | _, _ => False
theorem name_D {h : Heap} {L D : Addr} {o : Obj} {r : List (Addr × Obj)} (N : News b L h ((D, o) :: r)) : ∃ D', D' = D ∧ News b L h ((D', o) :: r) := ⟨D, rfl, N⟩
theorem KindsAre.len : ∀ {vs : List Value} {ks : List Nat}, KindsAre vs ks → vs.length = ks.length
  | [], [], _ => rfl
  | _ :: _, _ :: _, h => by simp [KindsAre.len h.2]
  | [], _ :: _, h => h.elim
  | _ :: _, [], h => h.elim
theorem KindsAre.at : ∀ {vs : List Value} {ks : List Nat} {i : Nat} {v : Value}, KindsAre vs ks → vs[i]? = some v → ∃ k t, ks[i]? = some k ∧ k < 6 ∧ v = .str (kindS k) t
  | [], [], i, v, _, h => by simp at h
  | _ :: _, k :: _, 0, v, h, e => by
    refine X0_2 h ?_; clear h; intro z0 _; refine X0_2 z0 ?_; clear z0; intro h1 z1; refine X1_1 z1 ?_; clear z1; intro t h2
    simp at e
    exact (Y2 k t ⟨rfl, h1, e ▸ h2⟩)
  | _ :: _, _ :: _, i + 1, v, h, e => by simpa using KindsAre.at h.2 (by simpa using e)
  | [], _ :: _, _, _, h, _ => h.elim
  | _ :: _, [], _, _, h, _ => h.elim
theorem AnsIn.strip2 {lg lg' : List (Addr × Obj)} {a : Ans} {v : Value} (h : AnsIn lg a v) (s : ∀ p ∈ lg, (∃ xs, p.2.data = .seq xs) → p.2.cls = .type "tuple" → p ∈ lg') : AnsIn lg' a v := by
  cases a with
  | int n => exact h
  | tup n y => refine X3_2 h ?_; clear h; intro a ta tb z0 h; subst z0; exact (Y3 a ta tb ⟨rfl, s _ h ⟨_, rfl⟩ rfl⟩)
  | str m => exact h
theorem AnsAll.mono {b : Heap} {Z : ZSets b} {y : List Nat} {lg lg' : List (Addr × Obj)} (s : ∀ p ∈ lg, p ∈ lg') : ∀ {ks : List Nat} {vs : List Value}, AnsAll Z lg y ks vs → AnsAll Z lg' y ks vs
  | [], [], _ => trivial
  | _ :: _, _ :: _, h => ⟨h.1.mono s, AnsAll.mono s h.2⟩
  | [], _ :: _, h => h.elim
  | _ :: _, [], h => h.elim
theorem AnsAll.snoc {b : Heap} {Z : ZSets b} {y : List Nat} {lg : List (Addr × Obj)} {k : Nat} {v : Value} (hn : AnsIn lg (askA Z k y) v) : ∀ {ks : List Nat} {vs : List Value}, AnsAll Z lg y ks vs → AnsAll Z lg y (ks ++ [k]) (vs ++ [v])
  | [], [], _ => ⟨hn, trivial⟩
  | _ :: _, _ :: _, h => ⟨h.1, AnsAll.snoc hn h.2⟩
  | [], _ :: _, h => h.elim
  | _ :: _, [], h => h.elim
theorem AnsAll.len {b : Heap} {Z : ZSets b} {y : List Nat} {lg : List (Addr × Obj)} : ∀ {ks : List Nat} {vs : List Value}, AnsAll Z lg y ks vs → vs.length = ks.length
  | [], [], _ => rfl
  | _ :: _, _ :: _, h => by simp [AnsAll.len h.2]
  | [], _ :: _, h => h.elim
  | _ :: _, [], h => h.elim
theorem AnsAll.get {b : Heap} {Z : ZSets b} {y : List Nat} {lg : List (Addr × Obj)} : ∀ {ks : List Nat} {vs : List Value} {j : Nat} (h : AnsAll Z lg y ks vs) (h1 : j < vs.length) (h2 : j < ks.length), AnsIn lg (askA Z ks[j] y) vs[j]
  | _ :: _, _ :: _, 0, h, _, _ => h.1
  | _ :: _, _ :: _, j + 1, h, h1, h2 => AnsAll.get h.2 (by simpa using h1) (by simpa using h2)
theorem max_is2 {b : Heap} {Z : ZSets b} {ks y : List Nat} {M : Int} (h1 : M ∈ ks.map fun k => ((askA Z k y).size : Int)) (h2 : ∀ a ∈ ks.map fun k => ((askA Z k y).size : Int), a ≤ M) : M = ((farX Z ks y : Nat) : Int) := by
  refine X0_3 (fold_max (f := fun k => (askA Z k y).size) (ks := ks) (m := 0)) ?_; intro f1 f2 f3
  change _ ≤ farX Z ks y at f1
  change ∀ k ∈ ks, _ ≤ farX Z ks y at f2
  change farX Z ks y = _ ∨ ∃ k ∈ ks, farX Z ks y = _ at f3
  have g2 : ∀ k ∈ ks, ((askA Z k y).size : Int) ≤ M := fun k hk => h2 _ (List.mem_map.mpr ⟨k, hk, rfl⟩)
  refine X1_2 (List.mem_map.mp h1) ?_; intro k hk e
  have h4 := f2 k hk
  have g3 : (farX Z ks y : Int) ≤ M := by
    rcases f3 with e | ⟨k, hk, e⟩
    · rw [e]; lia
    · rw [e]; exact g2 k hk
  lia
theorem name_O {h : Heap} {L c : Addr} {o : Obj} {v : Option Value} {r : List (Addr × Obj)} (N : News b L h ((c, o) :: r)) (hd : o.data = .cell v) : ∃ o', o' = o ∧ News b L h ((c, o') :: r) ∧ o'.data = .cell v := ⟨o, rfl, N, hd⟩
theorem verd_at {V : Nat → Value} : ∀ k, k < 6 → valueAt (verdKvs V 6) (kindS k) = some (V k)
  | 0, _ => rfl
  | 1, _ => rfl
  | 2, _ => rfl
  | 3, _ => rfl
  | 4, _ => rfl
  | 5, _ => rfl
  | n + 6, h => absurd h (by walk_at "o")
theorem KindsAre.lt : ∀ {vs : List Value} {ks : List Nat}, KindsAre vs ks → ∀ k ∈ ks, k < 6
  | [], [], _, k, h => nomatch h
  | _ :: _, _ :: _, h, k, hk => by
    refine mem_c k hk ?_ fun hk => ?_
    · exact h.1.1
    · exact KindsAre.lt h.2 k hk
  | [], _ :: _, h, _, _ => h.elim
  | _ :: _, [], h, _, _ => h.elim
noncomputable def JoinV (b : Heap) (L : Addr) (m : Str → Option Value) (nx : List (Addr × Obj)) (v0 : Value) (s : Shared) (v : Value) (s' : Shared) : Prop := v = v0 ∧ ∃ h' tk, s' = { s with heap := h', toks := tk } ∧ Fr b L h' m ∧ News b L h' nx
theorem JoinV.mk {b : Heap} {L : Addr} {m : Str → Option Value} {nx : List (Addr × Obj)} {v0 v : Value} {s : Shared} {h' : Heap} {tk : Nat} (e : v = v0) (F : Fr b L h' m) (N : News b L h' nx) : JoinV b L m nx v0 s v { s with heap := h', toks := tk } := ⟨e, (Y2 h' tk ⟨rfl, F, N⟩)⟩
theorem join_val {w : World} {A : Around} {tree : Sem Value} {Q : Value → Shared → Prop} {E : Value → Shared → Prop} {s : Shared} {b : Heap} {L : Addr} {m : Str → Option Value} {nx : List (Addr × Obj)} {v0 : Value} (F : Fr b L s.heap m) (N : News b L s.heap nx)
    (h1 : wpAny (model prg w) A tree (JoinV b L m nx v0 s) E s) (h2 : ∀ h' tk, Fr b L h' m → News b L h' nx → Q v0 { s with heap := h', toks := tk }) : wpAny (model prg w) A tree Q E s :=
  wpAny_mono h1 (fun v s' ⟨e, h', tk, e2, F', N'⟩ => by rw [e, e2]; exact h2 h' tk F' N') fun _ _ e => e
theorem item_Ln {w : World} {A : Around} {E : Value → Shared → Prop} {s : Shared} {Q : Value → Shared → Prop} {L D : Addr} {nx : List (Addr × Obj)} {ys : List Value} {n : Nat} {u : Tok} {value slice : Expr} (N : News b L s.heap nx) (hm : (D, W.listOf ys.toArray n) ∈ nx) {v : Value} (hv : ys.getLast? = some v) (hl : ys.length ≤ 1000) (h : Q v s)
    (hs : subscripted slice false (.ref D) (.int (-1) u) = operate [.ref D, .int (-1) u] (getItem (.ref D) (.int (-1) u)) := by with_unfolding_all rfl) :
    wpAny (model prg w) A (subscriptTail value slice (.ref D) (.int (-1) u)) Q E s := by
  have hne : ys.length ≠ 0 := fun e => by rw [List.eq_nil_of_length_eq_zero e] at hv; cases hv
  refine tail_any (isList_mem N hm).typeIs slot_list_getitem.lookup (wpAny_getItem_list_neg (isList_mem N hm) (by decide) (by rw [List.size_toArray]; lia) (by decide) ?_ h) hs
  rw [List.size_toArray, show ((-1 : Int) + (ys.length : Int)).toNat = ys.length - 1 by exact ar53 hne]
  rw [List.getLast?_eq_getElem?] at hv
  simpa using hv
theorem due_end {Z : ZSets b} {L I C D2 c : Addr} {m : Str → Option Value} {s : Shared} {own exn cur5 fr4 : List (Addr × Obj)} {oC : Obj} {ns : List Value} {i k : Nat} {y ks : List Nat} {h' : Heap} {tk : Nat} {t7 tR : Tok} {av : Value} {bi bz : Bool}
    (hk : ks[i]? = some k) (hpl : askR Z k y = (askA Z k y).isStr) (hbi : bi = (askA Z k y).isInt) (hbz : bz = (askA Z k y).isStr) (hav : AnsIn cur5 (askA Z k y) av) (hexn : ∀ p ∈ exn, ∀ q ∈ cur5 ++ fr4, @LT.lt Nat _ q.1 p.1) (hI : ∀ p ∈ cur5 ++ fr4, @LT.lt Nat _ p.1 I)
    (hoff : ∀ p ∈ exn ++ (cur5 ++ fr4), p.1 ∉ [I + 4, I + 2, I + 3, I, I + 1] ∧ p.1 ≠ C ∧ p.1 ≠ D2) (hns : NotesIn Z y (exn ++ cur5) (ks.take i) ns) (lt : C < c ∧ D2 < c ∧ AllLt c (exn ++ (cur5 ++ fr4) ++ own)) (hown : own.map (·.1) = [I + 4, I + 2, I + 3, I, I + 1])
    (F : Fr b L h' m) (N : News b L h' ((c, { cls := .type "tuple", data := .seq #[.str (kindS k) t7, .str (S y) tR, av, .bool bi, .bool bz] }) :: (C, oC) :: (D2, LCg.lst ns) :: (exn ++ (cur5 ++ fr4) ++ own))) :
    CEnd b L m s [I + 4, I + 2, I + 3, I, I + 1] own C oC D2 ns (fun nx => ∃ exn', nx = exn' ++ (cur5 ++ fr4) ∧ (∀ p ∈ exn', ∀ q ∈ cur5 ++ fr4, @LT.lt Nat _ q.1 p.1) ∧ NotesIn Z y (exn' ++ cur5) (ks.take (i + 1)) (ns ++ [.ref c])) { s with heap := h', toks := tk } := by
  have hlt := lt_tail lt.2.2
  refine (Y3 h' tk ((c, { cls := .type "tuple", data := .seq #[.str (kindS k) t7, .str (S y) tR, av, .bool bi, .bool bz] }) :: exn ++ (cur5 ++ fr4)) ⟨rfl, F, news_sub N ?_, ?_, _ :: exn, rfl, ?_, ?_⟩)
  · intro p hp
    (revert p hp; walk_at "s")
  · intro p hp
    refine mem_c p hp ?_ fun hp => ?_
    · refine ⟨fun z => ?_, Nat.ne_of_gt lt.1, Nat.ne_of_gt lt.2.1⟩
      rw [← hown] at z
      refine X1_2 (List.mem_map.mp z) ?_; intro q y1 y2
      exact Nat.ne_of_lt (hlt q (List.mem_append_right _ y1)) y2
    · exact hoff p hp
  · intro p hp q hq
    refine mem_c p hp ?_ fun hp => ?_
    · exact hlt q (List.mem_append_left _ (List.mem_append_right _ hq))
    · exact hexn p hp q hq
  · rw [List.take_add_one, hk]
    refine NotesIn.snoc (Y4 c t7 tR av ⟨rfl, ?_, hav.mono fun p hp => by walk_at "m"⟩) (hns.mono fun p hp => by (revert p hp; walk_at "s"))
    rw [hpl, ← hbi, ← hbz]
    exact List.mem_cons_self
theorem name_c {h : Heap} {L c D Dn : Addr} {v : Value} {z : Bool} {vs : List Value} {nd : Nat} {r : List (Addr × Obj)} (N : News b L h ((c, tokO v z Dn) :: (D, W.listOf (vs.toArray.push (Value.ref c)) nd) :: r)) : ∃ c', c' = c ∧ News b L h ((c', tokO v z Dn) :: (D, W.listOf (vs ++ [Value.ref c']).toArray nd) :: r) := ⟨c, rfl, by rw [← List.push_toArray]; exact N⟩
theorem max_one {a : Nat} {t u : Tok} : Value.int (if (1 : Int) > (a : Int) then 1 else (a : Int)) (if (1 : Int) > (a : Int) then u else t) = .int ((max 1 a : Nat) : Int) (if (1 : Int) > (a : Int) then u else t) := by
  have e : (if (1 : Int) > (a : Int) then (1 : Int) else (a : Int)) = ((max 1 a : Nat) : Int) := by split <;> lia
  rw [e]
theorem NotesIn.strip2 {Z : ZSets b} {x : List Nat} {lg lg' : List (Addr × Obj)} (s : ∀ p ∈ lg, (∃ xs, p.2.data = .seq xs) → p.2.cls = .type "tuple" → p ∈ lg') : ∀ {ks : List Nat} {vs : List Value}, NotesIn Z x lg ks vs → NotesIn Z x lg' ks vs
  | [], [], _ => trivial
  | _ :: _, _ :: _, h => by
    refine X0_2 h ?_; clear h; intro z0 h3; refine X4_3 z0 ?_; clear z0; intro c t1 t2 av z1 h1 h2; subst z1
    exact ⟨(Y4 c t1 t2 av ⟨rfl, s _ h1 ⟨_, rfl⟩ rfl, h2.strip2 s⟩), NotesIn.strip2 s h3⟩
  | [], _ :: _, h => h.elim
  | _ :: _, [], h => h.elim
theorem law_due (G : Gd w mean mg mb b) (Z : ZSets b) (ZK : Z.Ok) (PL : PlainLaw Z) {V : Nat → Value} {tv : Nat → Bool} {x : List Nat} {ks : List Nat} {ys : List Value} {t1 : Tok} {Do Dv : Addr} {no : Nat} {ov : Obj}
    (hx : x.length ≤ 24) (hx13 : ∀ a ∈ x, a ∈ signs13) (hor : (Do, W.listOf ys.toArray no) ∈ news) (hks : KindsAre ys ks) (h6 : ks.length = 6) (hvd : (Dv, ov) ∈ news) (hvk : Obj.IsDictOf (PySem.strKind prg w) ov (verdKvs V 6))
    (hV : ∀ k, k < 6 → VerdIs w news k (V k)) (htv : ∀ k, k < 6 → TruthIs w news (V k) (tv k)) :
    JSpec w b none 30 (.ref 250) [.str (S x) t1, .ref Do, .ref Dv] [] news (DuePost Z V tv x ks news) (fun _ _ => False) := by
  walk_at "J defC"
  intro dp un outer L fr cells s Q Ec hfr F hcells N hsep hcn hdp hun ret rai
  refine let_all ?_
  intro aV eV eX qX
  have X := G.K
  have T := G.T
  have hY := PyProof.Rows.CellsAre.three hcells
  refine X3_4 hY ?_; clear hY; intro o1 o2 o3 hE d1 d2 d3
  subst hE
  clear hcells
  have e1 : o1.data = .cell none := d1.trans (by rfl)
  have e2 : o2.data = .cell none := d2.trans (by rfl)
  have e3 : o3.data = .cell (some (.ref Dv)) := d3.trans (by rfl)
  clear d1 d2 d3
  replace F : Fr b L s.heap (fun y => if y = Str.ofString "order" then some (.ref Do) else if y = Str.ofString "text" then some (.str (S x) t1) else lk [] y) := F
  replace N : News b L s.heap ((L + 1 + 1 + 1, o1) :: (L + 1 + 1, o2) :: (L + 1, o3) :: (news ++ fr)) := N
  have hsep1 : Sep ((L + 1 + 1 + 1, o1) :: (L + 1 + 1, o2) :: (L + 1, o3) :: news) fr := hsep
  have off1 : ∀ p ∈ news ++ fr, p.1 ≠ L + 1 + 1 + 1 := fun p hp => (List.mem_append.mp hp).elim (fun q => Ne.symm (hcn (L + 1 + 1 + 1, o1) (by walk_at "m") p q)) fun q => Ne.symm (hsep1 (L + 1 + 1 + 1, o1) (by walk_at "m") p q)
  have off2 : ∀ p ∈ news ++ fr, p.1 ≠ L + 1 + 1 := fun p hp => (List.mem_append.mp hp).elim (fun q => Ne.symm (hcn (L + 1 + 1, o2) (by walk_at "m") p q)) fun q => Ne.symm (hsep1 (L + 1 + 1, o2) (by walk_at "m") p q)
  have off3 : ∀ p ∈ news ++ fr, p.1 ≠ L + 1 := fun p hp => (List.mem_append.mp hp).elim (fun q => Ne.symm (hcn (L + 1, o3) (by walk_at "m") p q)) fun q => Ne.symm (hsep1 (L + 1, o3) (by walk_at "m") p q)
  k_steps
  refine StopAt.go ?_
  rename _ < _ ∧ _ < _ ∧ _ < _ ∧ AllLt _ _ => l1
  rename Fr _ _ _ _ => F2
  rename News _ _ _ _ => N2
  rename _ = Data.cell (some (Value.str (S x) t1)) => e2'
  refine X1_2 (name_D N2) ?_; intro D z0 N2'; subst z0
  clear N2
  refine X0_4 l1 ?_; clear l1; intro lD3 lD2 lD1 lD
  have lD := lt_tail lD
  have hDr : ∀ p ∈ news ++ fr, p.1 ≠ D := fun p hp => Nat.ne_of_lt (lD p hp)
  refine While_inv2 (fun n m₁ nx => ∃ (oF oR : Obj) (B : List (Addr × Obj)) (nd : Nat) (vs : List Value) (fr' : List (Addr × Obj)) (tr : Tok) (ext : List (Str × Value)) (fv : Option Value), nx = (D, W.listOf vs.toArray nd) :: (L + 1 + 1 + 1, oF) :: (L + 1 + 1, oR) :: (L + 1, o3) :: (B ++ fr') ∧ TI.SameUp fr fr' ∧ Grew news B ∧
    m₁ = lk ((Str.ofString "text", .str (S x) t1) :: (Str.ofString "order", .ref Do) :: (Str.ofString "tokens", .ref D) :: ext) ∧ oF.data = .cell fv ∧ oR.data = .cell (some (.str (S (iterX Z ks vs.length x)) tr)) ∧ ToksIn Z V tv B ks x vs ∧ n = (iterX Z ks vs.length x).length ∧
    (∀ p ∈ B ++ fr', p.1 ≠ D ∧ p.1 ≠ L + 1 + 1 + 1 ∧ p.1 ≠ L + 1 + 1 ∧ p.1 ≠ L + 1) ∧ Fresh news fr ((D, W.listOf vs.toArray nd) :: B) ∧ Sep ((D, W.listOf vs.toArray nd) :: (L + 1 + 1 + 1, oF) :: (L + 1 + 1, oR) :: (L + 1, o3) :: B) fr')
    F2 N2' (Y9 o1 _ news 0 [] fr t1 [] none ⟨rfl, TI.SameUp.refl _, Grew.refl, lk_many [(_, _), (_, _), (_, _)] [], e1, e2', ToksIn.nil, rfl, fun p hp => ⟨hDr p hp, off1 p hp, off2 p hp, off3 p hp⟩, fresh_lt lD Fresh.refl, sep_cons (fun q hq => Nat.ne_of_gt (lD q (List.mem_append_right _ hq))) (Sep.map (news := (L + 1 + 1 + 1, o1) :: (L + 1 + 1, o2) :: (L + 1, o3) :: news) hsep1 rfl)⟩) ?_
  intro n m₁ nx h₁ tk₁ F3 N3 y0; walk_at "q"; refine X9_11 y0 ?_; clear y0; intro oF oR B nd vs fr' tr ext fv z0 hsu hg z1 hoF hoR hto z2 hoffs hfre hsepJ; subst z0; subst z1; subst z2
  try clear F2
  try clear N2'
  obtain ⟨y, hy⟩ : ∃ y, y = iterX Z ks vs.length x := ⟨_, rfl⟩
  have hy24 : y.length ≤ 24 := by rw [hy]; exact Nat.le_trans (iter_len Z ks vs.length x) hx
  have hy13 : ∀ a ∈ y, a ∈ signs13 := fun a ha => hx13 a (iter_sub Z ks vs.length x a (by rw [← hy]; exact ha))
  have hycut : y ≠ [] → vs.length + y.length ≤ x.length := by rw [hy]; exact iter_cut Z ks vs.length x
  rw [← hy] at hoR
  have hyl : (S y).length ≤ 1000 := by rw [S_len]; lia
  k_steps
  refine StopAt.go ?_
  refine truthy_or hyl (fun hne tk => ?_) (fun hz tk => ?_)
  · rw [S_len] at hne
    refine if_t ?_
    have hyne : y ≠ [] := fun h => hne (by rw [h]; rfl)
    have hfr' := hfr.up hsu
    k_steps
    refine StopAt.go ?_
    rename Fr _ _ _ _ => F4
    rename News _ _ _ _ => N4
    obtain ⟨cur, hcur⟩ : ∃ cur : List (Addr × Obj), cur = (D, W.listOf vs.toArray nd) :: (L + 1 + 1 + 1, oF) :: (L + 1 + 1, oR) :: (L + 1, o3) :: B := ⟨_, rfl⟩
    have N5 := news_eq (nx' := cur ++ fr') N4 (by rw [hcur]; rfl)
    have hsepc : Sep cur fr' := by rw [hcur]; exact hsepJ
    have hcR : (L + 1 + 1, oR) ∈ cur := by walk_at "m"
    have hcV : (L + 1, o3) ∈ cur := by walk_at "m"
    have hcB : ∀ p ∈ B, p ∈ cur := fun p hp => by walk_at "m"
    have hcn2 : ∀ p ∈ news, p ∈ cur := fun p hp => hcB p (hg.sub p hp)
    have hcO := hcn2 _ hor
    clear N4
    refine Assign_ListComp_J F4 rfl (by with_unfolding_all rfl) (by with_unfolding_all rfl) (by decide) (by rfl) (by decide) (by rfl) (by rfl) ?_
    k_steps
    rename Fr _ _ _ _ => F6
    rename News _ _ _ _ => N6
    have hkl := hks.len
    refine comp_list (s := ⟨_, _, _, _, _⟩) (D := Do) (ys := ys) (k := no) rfl F6 N6 (by walk_at "m") (by rfl) (by rfl) (by rw [hkl, h6]; decide) (fun i zs nx => ∃ exs fr3, nx = exs ++ cur ++ fr3 ∧ (∀ p ∈ exs, ∀ q ∈ cur, p.1 ≠ q.1) ∧ TI.SameUp fr' fr3 ∧ Sep exs fr3 ∧ AnsAll Z (exs ++ cur) y (ks.take i) zs) (fun i zs nx ⟨exs, fr3, e, _⟩ => by walk_at "m") (Y2 [] fr' ⟨rfl, (fun p hp => nomatch hp), TI.SameUp.refl _, (fun q hq => nomatch hq), trivial⟩) ?_ ?_
    · intro I hI h i zs C D2 oC m₂ news₁ own h₁ tk₁ X' hin y0 y1 hown hop hoff2 hia hCD hoC F7 N7; refine tests_none ?_; intro qY; refine X2_5 y0 ?_; clear y0; intro exs fr3 z0 hex hsu3 hsep3 hzs; subst z0; refine X1_2 y1 ?_; clear y1; intro v hv1 hx2
      refine X2_3 (hks.at hv1) ?_; intro k tk7 hk hk6 z0; subst z0
      have hcR2 : (L + 1 + 1, oR) ∈ (C, oC) :: (D2, LCg.lst zs) :: (exs ++ cur ++ fr3 ++ own) := by walk_at "m"
      try clear F6
      try clear N6
      try clear F4
      try clear N5
      try dsimp only
      k_steps
      refine StopAt.go ?_
      rename Fr _ _ _ _ => F8
      rename News _ _ _ _ => N8
      have hIfr : ∀ q ∈ fr3, @Ne Nat I q.1 := fun q hq => Ne.symm (fun z => (hoff2 q (List.mem_append_right _ hq)).1 (by rw [show q.1 = I from z]; simp))
      have hownfr : ∀ p ∈ own, ∀ q ∈ fr3, p.1 ≠ q.1 := fun p hp q hq => by
        have : p.1 ∈ [I] := by rw [← hown]; exact List.mem_map_of_mem hp
        rw [List.mem_singleton.mp this]; exact hIfr q hq
      have hsep5 : Sep ((C, oC) :: (D2, LCg.lst zs) :: (exs ++ cur ++ own)) fr3 := sep_cons (fun q hq => Ne.symm (hoff2 q (List.mem_append_right _ hq)).2.1) (sep_cons (fun q hq => Ne.symm (hoff2 q (List.mem_append_right _ hq)).2.2) (fun q hq p hp => by
        refine mem_a hq (fun hq => ?_) fun hq => ?_
        · refine mem_a hq (fun hq => ?_) fun hq => ?_
          · exact hsep3 q hq p hp
          · exact (hsepc.up hsu3) q hq p hp
        · exact hownfr q hq p hp))
      have N9 : News b L h₁ (((C, oC) :: (D2, LCg.lst zs) :: (exs ++ cur ++ own)) ++ fr3) := news_sub N8 (by
        intro p hp
        (revert p hp; walk_at "s"))
      refine law_told G (news := (C, oC) :: (D2, LCg.lst zs) :: (exs ++ cur ++ own)) hk6 hy24 (by walk_at "o") _ _ _ _ _ _ fr3 _ _ _ rfl rfl (hfr'.up hsu3) F8 N9 hsep5 (by walk_at "o") (by walk_at "o") ?_ ?_
      · intro v lg fr4 h8 tk8 y0 hsu5 hF5 F9 N10; refine X0_2 y0 ?_; clear y0; intro z0 hA; refine X1_2 z0 ?_; clear z0; intro ex2 z1 hex2; subst z1
        rw [(PL y hy24 (by walk_at "o") hy13 k hk6).1] at hA
        have hs6 := sep_fresh hsep5 hF5 hsu5
        have hA2 : AnsIn (ex2 ++ exs ++ cur) (askA Z k y) v := hA.strip2 fun p hp ⟨xs, hxs⟩ hc => by
          refine mem_a hp (fun hp => by walk_at "m") fun hp => mem_e hp (fun e => ?_) fun hp => mem_e hp (fun e => ?_) fun hp => mem_a hp (fun hp => mem_a hp (fun hp => by walk_at "m") fun hp => by walk_at "m") fun hp => ?_
          · subst e
            refine X2_2 hoC ?_; clear hoC; intro es ep hd _
            rw [hd] at hxs; cases hxs
          · subst e
            exact absurd (Value.type.inj hc) (by decide)
          · rw [hop p hp] at hc
            exact absurd (Value.type.inj hc) (by decide)
        refine (Y3 h8 tk8 (ex2 ++ exs ++ cur ++ fr4) ⟨rfl, F9, news_sub N10 ?_, ?_, (Y2 (ex2 ++ exs) fr4 ⟨rfl, ?_, hsu3.trans hsu5, ?_, ?_⟩)⟩)
        · intro p hp
          (revert p hp; walk_at "s")
        · intro p hp
          refine mem_a hp (fun hp => ?_) fun hp => ?_; refine mem_a hp (fun hp => ?_) fun hp => ?_; refine mem_a hp (fun hp => ?_) fun hp => ?_
          · refine ⟨fun z => ?_, hex2 p hp (C, oC) (by walk_at "m"), hex2 p hp (D2, LCg.lst zs) (by walk_at "m")⟩
            rw [← hown] at z
            refine X1_2 (List.mem_map.mp z) ?_; intro q y1 y2
            exact hex2 p hp q (by walk_at "m") y2.symm
          · exact hoff2 p (by walk_at "m")
          · exact hoff2 p (by walk_at "m")
          · exact up_off (P := fun a => a ∉ [I] ∧ a ≠ C ∧ a ≠ D2) hsu5 hoff2 p (by walk_at "m")
        · intro p hp q hq
          refine mem_a hp (fun hp => ?_) fun hp => ?_
          · exact hex2 p hp q (by walk_at "m")
          · exact hex p hp q hq
        · intro p hp q hq
          refine mem_a hp (fun hp => ?_) fun hp => ?_
          · exact hs6 p (by walk_at "m") q hq
          · exact hs6 p (by walk_at "m") q hq
        · have hik : i < ks.length := by rw [← hkl]; exact hin
          have hk2 : ks[i] = k := by rw [List.getElem?_eq_getElem hik] at hk; exact Option.some.inj hk
          rw [List.take_add_one, hk]
          exact AnsAll.snoc hA2 (hzs.mono fun p hp => by (revert p hp; walk_at "s"))
      · rintro _ _ _ _ _ _ _ ⟨⟩
    · intro h zs nx y0; refine X2_5 y0 ?_; clear y0; intro exs fr3 z0 hex hsu3 hsep3 hzs; subst z0
      intro Da h8 tk8 F8 N8 hDa
      rw [hkl, List.take_length] at hzs
      try dsimp only
      try clear F6
      try clear N6
      try clear F4
      try clear N5
      k_steps
      refine StopAt.go ?_
      rename Fr _ _ _ _ => F10
      rename News _ _ _ _ => N10
      have hzl := hzs.len
      obtain ⟨cur2, hcur2⟩ : ∃ cur2 : List (Addr × Obj), cur2 = (Da, W.listOf zs.toArray zs.length) :: (exs ++ cur) := ⟨_, rfl⟩
      have N11 := news_eq (nx' := cur2 ++ fr3) N10 (by rw [hcur2]; rfl)
      have hsep4 : Sep cur2 fr3 := by
        rw [hcur2]
        refine sep_cons (fun q hq => Ne.symm (hDa q (List.mem_append_right _ hq))) fun q hq p hp => ?_
        refine mem_a hq (fun hq => ?_) fun hq => ?_
        · exact hsep3 q hq p hp
        · exact (hsepc.up hsu3) q hq p hp
      have hcA : (Da, W.listOf zs.toArray zs.length) ∈ cur2 := by rw [hcur2]; exact List.mem_cons_self
      have hc12 : ∀ p ∈ exs ++ cur, p ∈ cur2 := fun p hp => by rw [hcur2]; exact List.mem_cons_of_mem _ hp
      have hfr3 := hfr'.up hsu3
      clear N10
      refine Assign_ListComp_J F10 rfl (by with_unfolding_all rfl) (by with_unfolding_all rfl) (by decide) (by rfl) (by decide) (by rfl) (by rfl) ?_
      k_steps
      rename Fr _ _ _ _ => F12
      rename News _ _ _ _ => N12
      refine comp_list (s := ⟨_, _, _, _, _⟩) (D := Da) (ys := zs) (k := zs.length) rfl F12 N12 (by walk_at "m") (by rfl) (by rfl) (by rw [hzl, h6]; decide) (fun i ws nx => ∃ fr4, nx = cur2 ++ fr4 ∧ TI.SameUp fr3 fr4 ∧ IntsAre ws ((ks.take i).map fun k => ((askA Z k y).size : Int))) (fun i ws nx ⟨fr4, e, _⟩ => by walk_at "m") ⟨fr3, rfl, TI.SameUp.refl _, .nil⟩ ?_ ?_
      · intro I hI h i ws C D2 oC m₂ news₁ own h₁ tk₁ X' hin y0 y1 hown hop hoff2 hia hCD hoC F13 N13; refine tests_none ?_; intro qY; refine X1_3 y0 ?_; clear y0; intro fr4 z0 hsu4 hws; subst z0; refine X1_2 y1 ?_; clear y1; intro v hv1 hx2
        have hik : i < ks.length := by rw [← hzl]; exact hin
        have hav := hzs.get hin hik
        obtain rfl : v = zs[i] := by
          rw [List.getElem?_eq_getElem hin] at hv1
          exact (Option.some.inj hv1).symm
        try clear F12
        try clear N12
        try clear N11
        try clear F10
        try dsimp only
        generalize hgv : zs[i] = v at *
        k_steps
        refine StopAt.go ?_
        rename Fr _ _ _ _ => F14
        rename News _ _ _ _ => N14
        have hIfr : ∀ q ∈ fr4, @Ne Nat I q.1 := fun q hq => Ne.symm (fun z => (hoff2 q (List.mem_append_right _ hq)).1 (by rw [show q.1 = I from z]; simp))
        have hownfr : ∀ p ∈ own, ∀ q ∈ fr4, p.1 ≠ q.1 := fun p hp q hq => by
          have : p.1 ∈ [I] := by rw [← hown]; exact List.mem_map_of_mem hp
          rw [List.mem_singleton.mp this]; exact hIfr q hq
        have hsep5 : Sep ((C, oC) :: (D2, LCg.lst ws) :: (cur2 ++ own)) fr4 := sep_cons (fun q hq => Ne.symm (hoff2 q (List.mem_append_right _ hq)).2.1) (sep_cons (fun q hq => Ne.symm (hoff2 q (List.mem_append_right _ hq)).2.2) (fun q hq p hp => by
          refine mem_a hq (fun hq => ?_) fun hq => ?_
          · exact (hsep4.up hsu4) q hq p hp
          · exact hownfr q hq p hp))
        have N15 : News b L h₁ (((C, oC) :: (D2, LCg.lst ws) :: (cur2 ++ own)) ++ fr4) := news_sub N14 (by
          intro p hp
          (revert p hp; walk_at "s"))
        refine size_ans G (news := (C, oC) :: (D2, LCg.lst ws) :: (cur2 ++ own)) (hav.mono fun p hp => by have hz := hc12 p hp; walk_at "m") _ _ _ _ _ _ fr4 _ _ _ rfl rfl (hfr3.up hsu4) F14 N15 hsep5 (by walk_at "o") (by walk_at "o") ?_ ?_
        · intro v lg fr5 h8 tk8 y0 hsu5 hF5 F8 N8; refine X0_2 y0 ?_; clear y0; intro z0 z2; refine X1_1 z0 ?_; clear z0; intro t8 z1; subst z1; subst z2
          exact (Y3 h8 tk8 (cur2 ++ fr5) ⟨rfl, F8, news_sub N8 (by
            intro p hp
            (revert p hp; walk_at "s")), up_off (P := fun a => a ∉ [I] ∧ a ≠ C ∧ a ≠ D2) hsu5 hoff2, fr5, rfl, hsu4.trans hsu5, by rw [take_snoc hik]; exact ints_snoc hws⟩)
        · rintro _ _ _ _ _ _ _ ⟨⟩
      · intro h ws nx y0; refine X1_3 y0 ?_; clear y0; intro fr4 z0 hsu4 hws; subst z0
        intro Ds h15 tk15 F15 N15 hDs
        rw [hzl, List.take_length] at hws
        try dsimp only
        try clear F12
        try clear N12
        try clear N11
        try clear F10
        k_steps
        refine StopAt.go ?_
        rename Fr _ _ _ _ => F16
        rename News _ _ _ _ => N16
        have hwl : ws.length = 6 := by rw [hws.length, List.length_map, h6]
        refine kso_max (s := ⟨_, _, _, _, _⟩) F16 N16 (isList_mem N16 (n := ws.length) List.mem_cons_self) hws (by rw [List.length_map, h6]; decide) rfl ?_
        intro h17 M tM tk17 F17 N17 hM1 hM2
        obtain rfl : M = ((farX Z ks y : Nat) : Int) := max_is2 hM1 hM2
        try clear F16
        try clear N16
        try clear F15
        try clear N15
        obtain ⟨curR, hcurR⟩ : ∃ curR : List (Addr × Obj), curR = (Ds, W.listOf ws.toArray ws.length) :: (Da, W.listOf zs.toArray zs.length) :: (exs ++ (D, W.listOf vs.toArray nd) :: (L + 1 + 1, oR) :: (L + 1, o3) :: B) := ⟨_, rfl⟩
        have N18 : News b L h17 ((L + 1 + 1 + 1, oF) :: (curR ++ fr4)) := news_sub N17 (by
          intro p hp
          rw [hcurR] at hp
          rw [hcur2, hcur]
          (revert p hp; walk_at "s"))
        have hoffs4 := up_off (P := fun a => a ≠ D ∧ a ≠ L + 1 + 1 + 1 ∧ a ≠ L + 1 + 1 ∧ a ≠ L + 1) (hsu3.trans hsu4) hoffs
        have hoffF : ∀ p ∈ curR ++ fr4, p.1 ≠ L + 1 + 1 + 1 := by
          intro p hp
          rw [hcurR] at hp
          refine mem_a hp (fun hp => ?_) fun hp => ?_; refine mem_c p hp ?_ fun hp => mem_c p hp ?_ fun hp => ?_; rotate_left 2; refine mem_a hp (fun hp => ?_) fun hp => ?_; rotate_left; refine mem_c p hp ?_ fun hp => mem_c p hp ?_ fun hp => mem_c p hp ?_ fun hp => ?_; rotate_right; rotate_right 2
          · exact Ne.symm (hDs (L + 1 + 1 + 1, oF) (by walk_at "m"))
          · exact Ne.symm (hDa (L + 1 + 1 + 1, oF) (by walk_at "m"))
          · exact hex p hp (L + 1 + 1 + 1, oF) (by walk_at "m")
          · exact Nat.ne_of_gt lD3
          · show @Ne Nat _ _; lia
          · show @Ne Nat _ _; lia
          · exact (hoffs4 p (by walk_at "m")).2.1
          · exact (hoffs4 p (by walk_at "m")).2.1
        clear N17
        k_steps
        refine StopAt.go ?_
        rename Fr _ _ _ _ => F19
        rename News _ _ _ _ => N19
        rename _ = Data.cell (some (Value.int _ tM)) => hoF2
        refine X1_3 (name_O N19 hoF2) ?_; intro oF2 z0 N20 hoF2; subst z0
        clear N19
        obtain ⟨cur3, hcur3⟩ : ∃ cur3 : List (Addr × Obj), cur3 = (L + 1 + 1 + 1, oF2) :: curR := ⟨_, rfl⟩
        have N21 := news_eq (nx' := cur3 ++ fr4) N20 (by rw [hcur3]; rfl)
        clear N20
        have hcO3 : (Do, W.listOf ys.toArray no) ∈ cur3 := by have hz := hg.sub _ hor; walk_at "m"
        have hcS3 : (Ds, W.listOf ws.toArray ws.length) ∈ cur3 := by walk_at "m"
        have hcF3 : (L + 1 + 1 + 1, oF2) ∈ cur3 := by walk_at "m"
        have hcV3 : (L + 1, o3) ∈ cur3 := by walk_at "m"
        have hcD3 : (Dv, ov) ∈ cur3 := by have hz := hg.sub _ hvd; walk_at "m"
        refine Assign_ListComp_J F19 rfl (by with_unfolding_all rfl) (by with_unfolding_all rfl) (by decide) (by rfl) (by decide) (by rfl) (by rfl) ?_
        k_steps
        rename Fr _ _ _ _ => F22
        rename News _ _ _ _ => N22
        refine comp_zip (s := ⟨_, _, _, _, _⟩) (l1 := Do) (l2 := Ds) (xs := ys) (ys := ws) (k1 := no) (k2 := ws.length) (n := 6) rfl F22 N22 (by walk_at "m") (by walk_at "m") (by rfl) (by rfl) (by decide) (by rfl) (by rw [hkl, h6]) hwl (by decide)
          (fun i zs nx => nx = cur3 ++ fr4 ∧ zs = ((ks.take i).filter fun k => decide ((askA Z k y).size = farX Z ks y)).map V) (fun i zs nx ⟨e, _⟩ => by rw [e]; simp [hcO3, hcS3]) ⟨rfl, rfl⟩ ?_ ?_
        · intro I hI h i zs C D2 oC m₂ news₁ own h₁ tk₁ X' hin y0 y1 hown hop hoff2 hia hCD hoC F23 N23; walk_at "q"; refine X0_2 y0 ?_; clear y0; intro z0 z1; subst z0; subst z1; refine X2_4 y1 ?_; clear y1; intro v u hv1 hu1 hxa hxb
          refine wpAny_tests_one ?_
          refine X2_3 (hks.at hv1) ?_; intro k tk7 hk hk6 z0; subst z0
          refine X2_2 (hws.at i u hu1) ?_; intro zu tu z0 hzu; subst z0
          obtain rfl : zu = ((askA Z k y).size : Int) := by
            rw [List.getElem?_map, hk] at hzu
            exact (Option.some.inj hzu).symm
          obtain ⟨lst2, hlst2⟩ : ∃ l, l = ((ks.take i).filter fun k => decide ((askA Z k y).size = farX Z ks y)).map V := ⟨_, rfl⟩
          rw [← hlst2] at N23
          have hcF4 : (L + 1 + 1 + 1, oF2) ∈ (C, oC) :: (D2, LCg.lst lst2) :: (cur3 ++ fr4 ++ own) := by walk_at "m"
          have hcV4 : (L + 1, o3) ∈ (C, oC) :: (D2, LCg.lst lst2) :: (cur3 ++ fr4 ++ own) := by walk_at "m"
          try clear F22
          try clear N22
          try clear F19
          try clear N21
          try dsimp only
          k_steps
          · rename _ = _ => he
            rename Fr _ _ _ _ => F24
            rename News _ _ _ _ => N24
            have he' : (askA Z k y).size = farX Z ks y := Int.ofNat.inj he
            refine worth_at (s := ⟨_, _, _, _, _⟩) (Heap.dictOf_iff.mpr ⟨ov, (N24 (Dv, ov) (by walk_at "m")).1, hvk⟩) (verd_at k hk6) (fun tk9 => ?_)
            refine (Y3 _ _ (cur3 ++ fr4) ⟨rfl, F24, by rw [← hlst2]; exact N24, hoff2, rfl, ?_⟩)
            rw [List.take_add_one, hk, Option.toList_some, List.filter_append, List.map_append, List.filter_cons, if_pos (by simpa using he')]
            rfl
          · rename _ ≠ _ => he
            rename Fr _ _ _ _ => F24
            rename News _ _ _ _ => N24
            have he' : (askA Z k y).size ≠ farX Z ks y := fun e => he (by rw [e])
            refine (Y3 _ _ (cur3 ++ fr4) ⟨rfl, F24, by rw [← hlst2]; exact N24, hoff2, rfl, ?_⟩)
            rw [List.take_add_one, hk, Option.toList_some, List.filter_append, List.map_append, List.filter_cons, if_neg (by simpa using he')]
            simp
        · intro h zs nx y0; refine X0_2 y0 ?_; clear y0; intro z0 z1; subst z0; subst z1
          intro Db h25 tk25 F25 N25 hDb
          rw [show ks.take 6 = ks from List.take_of_length_le (by walk_at "o")] at N25
          obtain ⟨bs, hbs⟩ : ∃ bs, bs = ks.filter fun k => decide ((askA Z k y).size = farX Z ks y) := ⟨_, rfl⟩
          rw [← hbs] at N25
          try dsimp only
          try clear F22
          try clear N22
          try clear F19
          try clear N21
          have hbk : ∀ k ∈ bs, k ∈ ks := fun k hk => by rw [hbs] at hk; exact (List.mem_filter.mp hk).1
          have hb6 : ∀ k ∈ bs, k < 6 := fun k hk => hks.lt k (hbk k hk)
          have hbl : bs.length ≤ 6 := by rw [hbs]; exact Nat.le_trans (List.length_filter_le _ _) (Nat.le_of_eq h6)
          k_steps
          refine StopAt.go ?_
          rename Fr _ _ _ _ => F26
          rename News _ _ _ _ => N26
          obtain ⟨cur4, hcur4⟩ : ∃ cur4 : List (Addr × Obj), cur4 = (Db, W.listOf (bs.map V).toArray (bs.map V).length) :: cur3 := ⟨_, rfl⟩
          have N27 := news_eq (nx' := cur4 ++ fr4) N26 (by rw [hcur4]; rfl)
          clear N26
          have hcB4 : (Db, W.listOf (bs.map V).toArray (bs.map V).length) ∈ cur4 := by rw [hcur4]; exact List.mem_cons_self
          have hc34 : ∀ p ∈ cur3, p ∈ cur4 := fun p hp => by rw [hcur4]; exact List.mem_cons_of_mem _ hp
          have hn3 : ∀ p ∈ news, p ∈ cur3 := fun p hp => by have hz := hg.sub p hp; walk_at "m"
          refine Assign_ListComp_J F26 rfl (by with_unfolding_all rfl) (by with_unfolding_all rfl) (by decide) (by rfl) (by decide) (by rfl) (by rfl) ?_
          k_steps
          rename Fr _ _ _ _ => F28
          rename News _ _ _ _ => N28
          refine comp_list (s := ⟨_, _, _, _, _⟩) (D := Db) (ys := bs.map V) (k := (bs.map V).length) rfl F28 N28 (List.mem_append_left _ hcB4) (by rfl) (by rfl) (by rw [List.length_map]; exact Nat.le_trans hbl (by decide)) (fun i zs nx => nx = cur4 ++ fr4 ∧ zs = ((bs.take i).filter tv).map V) (fun i zs nx ⟨e, _⟩ => by rw [e]; exact List.mem_append_left _ hcB4) ⟨rfl, rfl⟩ ?_ ?_
          · intro I hI h i zs C D2 oC m₂ news₁ own h₁ tk₁ X' hin y0 y1 hown hop hoff2 hia hCD hoC F29 N29; walk_at "q"; refine X0_2 y0 ?_; clear y0; intro z0 z1; subst z0; subst z1; refine X1_2 y1 ?_; clear y1; intro v hv1 hx2
            refine wpAny_tests_one ?_
            obtain ⟨k, hk, rfl⟩ : ∃ k, bs[i]? = some k ∧ v = V k := by
              rw [List.getElem?_map] at hv1
              cases hb : bs[i]? with
              | none => rw [hb] at hv1; cases hv1
              | some k => rw [hb] at hv1; exact ⟨k, rfl, (Option.some.inj hv1).symm⟩
            have hk6 := hb6 k (List.mem_of_getElem? hk)
            obtain ⟨lst2, hlst2⟩ : ∃ l, l = ((bs.take i).filter tv).map V := ⟨_, rfl⟩
            rw [← hlst2] at N29
            try clear F28
            try clear N28
            try clear F26
            try clear N27
            try dsimp only
            k_steps
            rename Fr _ _ _ _ => F30
            rename News _ _ _ _ => N30
            refine htv k hk6 _ _ _ _ rfl (fun q hq => (N30 q (by have hz := hc34 _ (hn3 q hq); walk_at "m")).1) (fun tk9 => ?_)
            cases hb : tv k with
            | true =>
              refine if_t ?_
              k_steps
              rename Fr _ _ _ _ => F31
              rename News _ _ _ _ => N31
              refine (Y3 _ _ (cur4 ++ fr4) ⟨rfl, F31, by rw [← hlst2]; exact N31, hoff2, rfl, ?_⟩)
              rw [List.take_add_one, hk, Option.toList_some, List.filter_append, List.map_append, List.filter_cons, if_pos hb]
              rfl
            | false =>
              refine if_f ?_
              refine (Y3 _ _ (cur4 ++ fr4) ⟨rfl, F30, by rw [← hlst2]; exact N30, hoff2, rfl, ?_⟩)
              rw [List.take_add_one, hk, Option.toList_some, List.filter_append, List.map_append, List.filter_cons, if_neg (by simp [hb])]
              simp
          · intro h zs nx y0; refine X0_2 y0 ?_; clear y0; intro z0 z1; subst z0; subst z1
            intro Dq h31 tk31 F31 N31 hDq
            rw [show bs.take (bs.map V).length = bs from List.take_of_length_le (by simp)] at N31
            obtain ⟨sq, hsq⟩ : ∃ sq, sq = bs.filter tv := ⟨_, rfl⟩
            rw [← hsq] at N31
            try dsimp only
            try clear F28
            try clear N28
            try clear F26
            try clear N27
            obtain ⟨cur5, hcur5⟩ : ∃ cur5 : List (Addr × Obj), cur5 = (Dq, W.listOf (sq.map V).toArray (sq.map V).length) :: cur4 := ⟨_, rfl⟩
            have N32 := news_eq (nx' := cur5 ++ fr4) N31 (by rw [hcur5]; rfl)
            clear N31
            have hc45 : ∀ p ∈ cur4, p ∈ cur5 := fun p hp => by rw [hcur5]; exact List.mem_cons_of_mem _ hp
            have hc35 : ∀ p ∈ cur3, p ∈ cur5 := fun p hp => hc45 p (hc34 p hp)
            have hcQ5 : (Dq, W.listOf (sq.map V).toArray (sq.map V).length) ∈ cur5 ++ fr4 := by walk_at "m"
            have hcB5 : (Db, W.listOf (bs.map V).toArray (bs.map V).length) ∈ cur5 ++ fr4 := List.mem_append_left _ (hc45 _ hcB4)
            have hcF5 : (L + 1 + 1 + 1, oF2) ∈ cur5 ++ fr4 := List.mem_append_left _ (hc35 _ hcF3)
            k_steps
            refine StopAt.go ?_
            rename Fr _ _ _ _ => F33
            rename News _ _ _ _ => N33
            have hbx : bs = bestX Z y ks := hbs
            have hpd := pick_due (Z := Z) (tv := tv) (y := y) (ks := ks)
            refine join_val (v0 := pickV V (pick Z tv y ks)) F33 N33 ?_ ?_
            · refine wpAny_IfExp ?_
              k_steps
              · rename _ = (0 : Int) => he
                have he0 : farX Z ks y = 0 := by lia
                rename Fr _ _ _ _ => F34
                rename News _ _ _ _ => N34
                exact JoinV.mk (by rw [hpd, if_pos he0]; rfl) F34 N34
              · rename _ ≠ (0 : Int) => he
                have he0 : farX Z ks y ≠ 0 := by lia
                rw [if_neg he0] at hpd
                refine StopAt.go ?_
                refine wpAny_IfExp ?_
                k_steps
                refine StopAt.go ?_
                rename Fr _ _ _ _ => F35
                rename News _ _ _ _ => N35
                have hsl : sq.length ≤ 6 := by rw [hsq]; exact Nat.le_trans (List.length_filter_le _ _) hbl
                refine wpAny_truthy_list (isList_mem N35 hcQ5) (by rw [List.size_toArray, List.length_map]; lia) ?_
                cases hsq2 : sq with
                | cons j r =>
                  have hpr : pick Z tv y ks = some j := by
                    rw [hpd, ← hbx]; unfold pickR; rw [← hsq, hsq2]
                  rw [if_pos (by simp [Array.isEmpty])]
                  k_steps
                  refine StopAt.go ?_
                  rename Fr _ _ _ _ => F36
                  rename News _ _ _ _ => N36
                  refine item_L (k := 0) N36 hcQ5 (by decide) (v := V j) (by rw [hsq2]; rfl) ?_
                  exact JoinV.mk (by rw [hpr]; rfl) F36 N36
                | nil =>
                  rw [if_neg (by simp [Array.isEmpty])]
                  k_steps
                  refine StopAt.go ?_
                  rename Fr _ _ _ _ => F36
                  rename News _ _ _ _ => N36
                  have hbne : bs ≠ [] := by
                    refine X0_3 (fold_max (f := fun k => (askA Z k y).size) (ks := ks) (m := 0)) ?_; intro _ _ f3
                    rcases f3 with e | ⟨j, hj, e⟩
                    · exact absurd e he0
                    · intro hn
                      have : j ∈ bs := by rw [hbs]; exact List.mem_filter.mpr ⟨hj, decide_eq_true (show (askA Z j y).size = farX Z ks y from e.symm)⟩
                      rw [hn] at this; cases this
                  obtain ⟨j, hj⟩ : ∃ j, bs.getLast? = some j := by
                    cases hl : bs.getLast? with
                    | none => exact absurd (List.getLast?_eq_none_iff.mp hl) hbne
                    | some j => exact ⟨j, rfl⟩
                  have hpr : pick Z tv y ks = some j := by
                    rw [hpd, ← hbx]; unfold pickR; rw [← hsq, hsq2]; exact hj
                  refine item_Ln N36 hcB5 (v := V j) (by rw [List.getLast?_map, hj]; rfl) (by rw [List.length_map]; lia) ?_
                  exact JoinV.mk (by rw [hpr]; rfl) F36 N36
            · intro h37 tk37 F37 N37
              try clear F33
              try clear N33
              try clear N32
              k_steps
              refine StopAt.go ?_
              rename Fr _ _ _ _ => F38
              rename News _ _ _ _ => N38
              have hcA5 : (Da, W.listOf zs.toArray zs.length) ∈ cur5 := hc35 _ (by walk_at "m")
              have hcO5 : (Do, W.listOf ys.toArray no) ∈ cur5 := hc35 _ hcO3
              have hcR5 : (L + 1 + 1, oR) ∈ cur5 := hc35 _ (by walk_at "m")
              refine Assign_ListComp_J F38 rfl (by with_unfolding_all rfl) (by with_unfolding_all rfl) (by decide) (by rfl) (by decide) (by rfl) (by rfl) ?_
              k_steps
              rename Fr _ _ _ _ => F39
              rename News _ _ _ _ => N39
              refine comp_zip (s := ⟨_, _, _, _, _⟩) (l1 := Do) (l2 := Da) (xs := ys) (ys := zs) (k1 := no) (k2 := zs.length) (n := 6) rfl F39 N39 (List.mem_append_left _ hcO5) (List.mem_append_left _ hcA5) (by rfl) (by rfl) (by decide) (by rfl) (by rw [hkl, h6]) (by rw [hzl, h6]) (by decide)
                (fun i zs nx => ∃ exn, nx = exn ++ (cur5 ++ fr4) ∧ (∀ p ∈ exn, ∀ q ∈ cur5 ++ fr4, @LT.lt Nat _ q.1 p.1) ∧ NotesIn Z y (exn ++ cur5) (ks.take i) zs) (fun i zs nx ⟨exn, e, _⟩ => by rw [e]; exact ⟨List.mem_append_right _ (List.mem_append_left _ hcO5), List.mem_append_right _ (List.mem_append_left _ hcA5)⟩) ⟨[], rfl, (fun p hp => nomatch hp), trivial⟩ ?_ ?_
              · intro I hI h i ns C D2 oC m₂ news₁ own h₁ tk₁ X' hin y0 y1 hown hop hoff2 hia hCD hoC F40 N40; refine tests_none ?_; intro qY; refine X1_3 y0 ?_; clear y0; intro exn z0 hexn hns; subst z0; refine X2_4 y1 ?_; clear y1; intro v u hv1 hu1 hxa hxb
                refine X2_3 (hks.at hv1) ?_; intro k tk7 hk hk6 z0; subst z0
                have hik : i < ks.length := by rw [h6]; exact hin
                have hiz : i < zs.length := by rw [hzl, h6]; exact hin
                have hk2 : ks[i] = k := by rw [List.getElem?_eq_getElem hik] at hk; exact Option.some.inj hk
                have hav := hzs.get hiz hik
                rw [hk2] at hav
                obtain rfl : u = zs[i] := by
                  rw [List.getElem?_eq_getElem hiz] at hu1
                  exact (Option.some.inj hu1).symm
                generalize hgv : zs[i] = av at *
                have hpl := (PL y hy24 (by walk_at "o") hy13 k hk6).2
                have hav5 : AnsIn cur5 (askA Z k y) av := hav.strip2 fun p hp ⟨xs, hxs⟩ hc => hc35 p (by
                  rw [hcur3, hcurR]
                  rw [hcur] at hp
                  refine mem_a hp (fun hp => by walk_at "m") fun hp => mem_e hp (fun e => e ▸ by walk_at "m") fun hp => mem_e hp (fun e => ?_) fun hp => mem_e hp (fun e => e ▸ by walk_at "m") fun hp => mem_e hp (fun e => e ▸ by walk_at "m") fun hp => by walk_at "m"
                  subst e; rw [hoF] at hxs; cases hxs)
                have hav6 := hav5
                have hcR6 : (L + 1 + 1, oR) ∈ (C, oC) :: (D2, LCg.lst ns) :: (exn ++ (cur5 ++ fr4) ++ own) := by walk_at "m"
                try clear F39
                try clear N39
                try clear F38
                try clear N38
                try clear F37
                try clear N37
                try dsimp only
                cases hak : askA Z k y with
                | int n =>
                  rw [hak] at hav5
                  refine X1_1 hav5 ?_; clear hav5; intro tn z0; subst z0
                  k_steps
                  rename Fr _ _ _ _ => F41
                  rename News _ _ _ _ => N41
                  rename C < _ ∧ _ => lt1
                  exact due_end hk hpl (by rw [hak]; rfl) (by rw [hak]; rfl) hav6 hexn hI (fun p hp => (hoff2 p hp)) hns lt1 hown F41 N41
                | str m =>
                  rw [hak] at hav5
                  refine X1_1 hav5 ?_; clear hav5; intro tn z0; subst z0
                  k_steps
                  rename Fr _ _ _ _ => F41
                  rename News _ _ _ _ => N41
                  rename C < _ ∧ _ => lt1
                  exact due_end hk hpl (by rw [hak]; rfl) (by rw [hak]; rfl) hav6 hexn hI (fun p hp => (hoff2 p hp)) hns lt1 hown F41 N41
                | tup n z =>
                  rw [hak] at hav5
                  refine X3_2 hav5 ?_; clear hav5; intro ta tt1 tt2 z0 hta; subst z0
                  have hta6 : (ta, tup2 n z tt1 tt2) ∈ (C, oC) :: (D2, LCg.lst ns) :: (exn ++ (cur5 ++ fr4) ++ own) := by walk_at "m"
                  k_steps
                  rename Fr _ _ _ _ => F41
                  rename News _ _ _ _ => N41
                  rename C < _ ∧ _ => lt1
                  exact due_end hk hpl (by rw [hak]; rfl) (by rw [hak]; rfl) hav6 hexn hI (fun p hp => (hoff2 p hp)) hns lt1 hown F41 N41
              · intro h ns nx y0; refine X1_3 y0 ?_; clear y0; intro exn z0 hexn hns; subst z0
                intro Dn h42 tk42 F42 N42 hDn
                rw [show ks.take 6 = ks from List.take_of_length_le (by walk_at "o")] at hns
                try dsimp only
                try clear F39
                try clear N39
                try clear F38
                try clear N38
                try clear F37
                try clear N37
                obtain ⟨rest6, hrest6⟩ : ∃ r : List (Addr × Obj), r = (Dn, W.listOf ns.toArray ns.length) :: (exn ++ ((Dq, W.listOf (sq.map V).toArray (sq.map V).length) :: (Db, W.listOf (bs.map V).toArray (bs.map V).length) :: (Ds, W.listOf ws.toArray ws.length) :: (Da, W.listOf zs.toArray zs.length) :: (exs ++ (L + 1, o3) :: B)) ++ fr4) := ⟨_, rfl⟩
                have mD3 : (D, W.listOf vs.toArray nd) ∈ cur3 := by walk_at "m"
                have mR3 : (L + 1 + 1, oR) ∈ cur3 := by walk_at "m"
                have N43 : News b L h42 ((D, W.listOf vs.toArray nd) :: (L + 1 + 1 + 1, oF2) :: (L + 1 + 1, oR) :: rest6) := news_sub N42 (by
                  intro p hp
                  rw [hrest6] at hp
                  rw [hcur5, hcur4, hcur3, hcurR]
                  (revert p hp; walk_at "s"))
                have hoff6 : ∀ (z : Addr) (o : Obj), (z, o) ∈ cur3 → (z, o) ∈ cur → (∀ p ∈ B ++ fr4, p.1 ≠ z) → z ≠ L + 1 → ∀ p ∈ rest6, p.1 ≠ z := by
                  intro z o hz3 hzc hzB hz1 p hp
                  rw [hrest6] at hp
                  refine mem_c p hp ?_ fun hp => ?_; rotate_left; refine mem_a hp (fun hp => ?_) fun hp => ?_; refine mem_a hp (fun hp => ?_) fun hp => ?_; rotate_left; refine mem_c p hp ?_ fun hp => mem_c p hp ?_ fun hp => mem_c p hp ?_ fun hp => mem_c p hp ?_ fun hp => ?_; rotate_left 4; refine mem_a hp (fun hp => ?_) fun hp => ?_; rotate_left; refine mem_c p hp ?_ fun hp => ?_; rotate_right; rotate_right 4; rotate_right; rotate_right
                  · exact Ne.symm (hDn (z, o) (List.mem_append_right _ (List.mem_append_left _ (hc35 _ hz3))))
                  · exact Nat.ne_of_gt (hexn p hp (z, o) (List.mem_append_left _ (hc35 _ hz3)))
                  · exact Ne.symm (hDq (z, o) (List.mem_append_left _ (hc34 _ hz3)))
                  · exact Ne.symm (hDb (z, o) (List.mem_append_left _ hz3))
                  · exact Ne.symm (hDs (z, o) (by walk_at "m"))
                  · exact Ne.symm (hDa (z, o) (by walk_at "m"))
                  · exact hex p hp (z, o) hzc
                  · exact Ne.symm hz1
                  · exact hzB p (by walk_at "m")
                  · exact hzB p (by walk_at "m")
                have hoffD6 : ∀ p ∈ rest6, p.1 ≠ D := hoff6 D _ mD3 (by walk_at "m") (fun p hp => (hoffs4 p hp).1) (Nat.ne_of_gt lD1)
                have hoffR6 : ∀ p ∈ rest6, p.1 ≠ L + 1 + 1 := hoff6 (L + 1 + 1) _ mR3 (by walk_at "m") (fun p hp => (hoffs4 p hp).2.2.1) (show @Ne Nat _ _ by lia)
                have hvl : vs.length ≤ 24 := by have := hycut hyne; exact ar71 hx hycut hyne
                clear N42
                k_steps
                refine StopAt.go ?_
                rename Fr _ _ _ _ => F44
                rename News _ _ _ _ => N44
                refine is_pick (lg := news) (fun j hj => hks.lt j (pick_mem hj)) hV ?_
                k_steps
                refine StopAt.go ?_
                rename Fr _ _ _ _ => F45
                rename News _ _ _ _ => N45
                rename D < _ ∧ _ => ltc
                refine X1_2 (name_c N45) ?_; intro c z0 N46; subst z0
                clear N45
                refine max_two_N (s := ⟨_, _, _, _, _⟩) rfl F45 N46 ?_
                intro h47 tk47 F47 N47
                rw [max_one]
                try clear F45
                clear N46
                k_steps
                rename Fr _ _ _ _ => F48
                rename News _ _ _ _ => N48
                rename _ = Data.cell (some (Value.str (S (List.drop _ y)) _)) => hoR2
                subst hy
                have hsu7 := (hsu.trans hsu3).trans hsu4
                have hcu := lt_tail ltc.2.2.2
                have m36 : ∀ p ∈ B ++ fr4, p ∈ rest6 := fun p hp => by
                  rw [hrest6]
                  (revert p hp; walk_at "s")
                have m35 : ∀ p ∈ B ++ fr4, p ∈ cur5 ++ fr4 := fun p hp => by
                  refine mem_a hp (fun hp => ?_) fun hp => ?_
                  · exact List.mem_append_left _ (hc35 _ (by walk_at "m"))
                  · exact List.mem_append_right _ hp
                have hnew : ∀ p ∈ (c, tokO (pickV V (pick Z tv (iterX Z ks vs.length x) ks)) (pick Z tv (iterX Z ks vs.length x) ks).isNone Dn) :: (Dn, W.listOf ns.toArray ns.length) :: (exn ++ exs), ∀ q ∈ B ++ fr4, p.1 ≠ q.1 := fun p hp q hq => by
                  refine mem_c p hp ?_ fun hp => mem_c p hp ?_ fun hp => ?_; rotate_left 2; refine mem_a hp (fun hp => ?_) fun hp => ?_; rotate_right 2
                  · exact Nat.ne_of_gt (hcu q (m36 q hq))
                  · exact Ne.symm (hDn q (List.mem_append_right _ (m35 q hq)))
                  · exact Nat.ne_of_gt (hexn p hp q (m35 q hq))
                  · refine mem_a hq (fun hq => ?_) fun hq => ?_
                    · exact hex p hp q (by walk_at "m")
                    · exact (hsep3.up hsu4) p hp q hq
                have hoff7 : ∀ (z : Addr) (o o' : Obj), (z, o) ∈ cur3 → (z, o') ∈ cur → (∀ p ∈ B ++ fr4, p.1 ≠ z) → @LT.lt Nat _ z c → ∀ p ∈ (c, tokO (pickV V (pick Z tv (iterX Z ks vs.length x) ks)) (pick Z tv (iterX Z ks vs.length x) ks).isNone Dn) :: (Dn, W.listOf ns.toArray ns.length) :: (exn ++ (exs ++ B)) ++ fr4, p.1 ≠ z := by
                  intro z o o' hz3 hzc hzB hzl p hp
                  refine mem_a hp (fun hp => ?_) fun hp => ?_; refine mem_c p hp ?_ fun hp => mem_c p hp ?_ fun hp => ?_; rotate_left 2; refine mem_a hp (fun hp => ?_) fun hp => ?_; rotate_left; refine mem_a hp (fun hp => ?_) fun hp => ?_; rotate_right; rotate_right 2
                  · exact Nat.ne_of_gt hzl
                  · exact Ne.symm (hDn (z, o) (List.mem_append_right _ (List.mem_append_left _ (hc35 _ hz3))))
                  · exact Nat.ne_of_gt (hexn p hp (z, o) (List.mem_append_left _ (hc35 _ hz3)))
                  · exact hex p hp (z, o') hzc
                  · exact hzB p (by walk_at "m")
                  · exact hzB p (by walk_at "m")
                have z1 := hoff7 D _ (W.listOf vs.toArray nd) mD3 (by walk_at "m") (fun p hp => (hoffs4 p hp).1) ltc.1
                have z2 := hoff7 (L + 1 + 1 + 1) _ oF hcF3 (by walk_at "m") (fun p hp => (hoffs4 p hp).2.1) ltc.2.1
                have z3 := hoff7 (L + 1 + 1) _ oR mR3 (by walk_at "m") (fun p hp => (hoffs4 p hp).2.2.1) ltc.2.2.1
                have z4 := hoff7 (L + 1) _ o3 hcV3 (by walk_at "m") (fun p hp => (hoffs4 p hp).2.2.2) (Nat.lt_trans (show @LT.lt Nat _ (L + 1) (L + 1 + 1) by lia) ltc.2.2.1)
                have hno3 : NotesIn Z (iterX Z ks vs.length x) (exn ++ (exs ++ B)) ks ns := NotesIn.strip2 (fun p hp ⟨xs, hxs⟩ hc => by
                  rw [hcur5, hcur4, hcur3, hcurR] at hp
                  refine mem_a hp (fun hp => by walk_at "m") fun hp => mem_e hp (fun e => ?_) fun hp => mem_e hp (fun e => ?_) fun hp => mem_e hp (fun e => ?_) fun hp => mem_e hp (fun e => ?_) fun hp => mem_e hp (fun e => ?_) fun hp => mem_a hp (fun hp => by walk_at "m") fun hp => mem_e hp (fun e => ?_) fun hp => mem_e hp (fun e => ?_) fun hp => mem_e hp (fun e => ?_) fun hp => by walk_at "m"
                  all_goals subst e
                  · exact absurd (Value.type.inj hc) (by decide)
                  · exact absurd (Value.type.inj hc) (by decide)
                  · rw [hoF2] at hxs; cases hxs
                  · exact absurd (Value.type.inj hc) (by decide)
                  · exact absurd (Value.type.inj hc) (by decide)
                  · exact absurd (Value.type.inj hc) (by decide)
                  · rw [hoR] at hxs; cases hxs
                  · rw [e3] at hxs; cases hxs) hns
                refine (Y5 _ _ _ _ ((iterX Z ks (vs ++ [Value.ref c]).length x).length) ⟨rfl, F48, news_sub N48 (news' := (D, W.listOf (vs ++ [Value.ref c]).toArray (nd + 1)) :: (L + 1 + 1 + 1, oF2) :: (L + 1 + 1, _) :: (L + 1, o3) :: (((c, tokO (pickV V (pick Z tv (iterX Z ks vs.length x) ks)) (pick Z tv (iterX Z ks vs.length x) ks).isNone Dn) :: (Dn, W.listOf ns.toArray ns.length) :: (exn ++ (exs ++ B))) ++ fr4)) ?_, ?_, (Y9 oF2 _ ((c, tokO (pickV V (pick Z tv (iterX Z ks vs.length x) ks)) (pick Z tv (iterX Z ks vs.length x) ks).isNone Dn) :: (Dn, W.listOf ns.toArray ns.length) :: (exn ++ (exs ++ B))) (nd + 1) (vs ++ [Value.ref c]) fr4 _ _ _ ⟨rfl, hsu7, ?_, lk_many [(_, _), (_, _), (_, _), (_, _), (_, _), (_, _)] _, hoF2, hoR2.trans (congrArg (fun z => Data.cell (some (Value.str (S z) _))) (by rw [List.length_append]; rfl)), ?_, rfl, fun p hp => ⟨z1 p hp, z2 p hp, z3 p hp, z4 p hp⟩, ?_, ?_⟩)⟩)
                · intro p hp
                  rw [hrest6]
                  (revert p hp; walk_at "s")
                · rw [List.length_append]
                  have := next_len Z ks (iterX Z ks vs.length x)
                  show (nextX Z ks (iterX Z ks vs.length x)).length < _
                  exact ar54 hne this
                · refine Grew.trans hg ⟨(c, tokO (pickV V (pick Z tv (iterX Z ks vs.length x) ks)) (pick Z tv (iterX Z ks vs.length x) ks).isNone Dn) :: (Dn, W.listOf ns.toArray ns.length) :: (exn ++ exs), by simp, fun p hp q hq => hnew p hp q (List.mem_append_left _ hq)⟩
                · exact ToksIn.snoc (hto.mono fun p hp => by walk_at "m") hyne (Y4 c Dn ns.length ns ⟨rfl, by walk_at "m", by walk_at "m", hno3.mono fun p hp => by simp only [List.mem_cons]; exact .inr (.inr hp)⟩)
                · intro p hp
                  have hfar : ∀ p ∈ (c, tokO (pickV V (pick Z tv (iterX Z ks vs.length x) ks)) (pick Z tv (iterX Z ks vs.length x) ks).isNone Dn) :: (Dn, W.listOf ns.toArray ns.length) :: (exn ++ exs), ∀ q ∈ news ++ fr, p.1 ≠ q.1 := fun p hp q hq => by
                    refine mem_a hq (fun hq => ?_) fun hq => ?_
                    · exact hnew p hp q (List.mem_append_left _ (hg.sub q hq))
                    · refine X1_1 (TI.SameUp.back hsu7 q hq) ?_; intro sl yy
                      have h := hnew p hp _ (List.mem_append_right _ yy)
                      exact h
                  refine mem_c p hp ?_ fun hp => ?_; rotate_left; refine mem_e hp (fun hp => ?_) fun hp => ?_; rotate_left; refine mem_e hp (fun hp => ?_) fun hp => ?_; rotate_left; refine mem_a hp (fun hp => ?_) fun hp => ?_; rotate_left; refine mem_a hp (fun hp => ?_) fun hp => ?_; rotate_right; rotate_right; rotate_right; rotate_right
                  · exact hfre (D, W.listOf vs.toArray nd) (by walk_at "m")
                  · exact .inr (hfar p (by simp [hp]))
                  · exact .inr (hfar p (by simp [hp]))
                  · exact .inr (hfar p (by walk_at "m"))
                  · exact .inr (hfar p (by walk_at "m"))
                  · exact hfre p (by walk_at "m")
                · have hsJ := (hsepJ.up hsu3).up hsu4
                  intro q hq p hp
                  refine mem_c q hq ?_ fun hm => mem_c q hm ?_ fun hm => mem_c q hm ?_ fun hm => mem_c q hm ?_ fun hm => ?_; rotate_left 4; refine mem_e hm (fun hq => ?_) fun hm => ?_; rotate_left; refine mem_e hm (fun hq => ?_) fun hm => ?_; rotate_left; refine mem_a hm (fun hq => ?_) fun hm => ?_; rotate_left; refine mem_a hm (fun hq => ?_) fun hq => ?_; rotate_right; rotate_right; rotate_right; rotate_right 4
                  · exact hsJ (D, W.listOf vs.toArray nd) (by walk_at "m") p hp
                  · exact hsJ (L + 1 + 1 + 1, oF) (by walk_at "m") p hp
                  · exact hsJ (L + 1 + 1, oR) (by walk_at "m") p hp
                  · exact hsJ (L + 1, o3) (by walk_at "m") p hp
                  · exact hnew q (by simp [hq]) p (List.mem_append_right _ hp)
                  · exact hnew q (by simp [hq]) p (List.mem_append_right _ hp)
                  · exact hnew q (by walk_at "m") p (List.mem_append_right _ hp)
                  · exact hnew q (by walk_at "m") p (List.mem_append_right _ hp)
                  · exact hsJ q (by walk_at "m") p hp
  · rw [S_len] at hz
    refine if_f ?_
    have he0 : iterX Z ks vs.length x = [] := by rw [← hy]; exact List.eq_nil_of_length_eq_zero hz
    k_steps
    rename Fr _ _ _ _ => F4
    rename News _ _ _ _ => N4
    refine ret _ ((D, W.listOf vs.toArray nd) :: B) fr' _ _ _ _ (Y4 B D nd vs ⟨hg, rfl, fun p hp => (hoffs p (List.mem_append_left _ hp)).1, rfl, hto, he0⟩) hsu (fun p hp => ?_) F4 (news_sub N4 ?_)
    · rcases hfre p hp with z | z
      · exact .inl (by rw [List.map_append]; exact List.mem_append_right _ z)
      · refine .inr fun q hq => ?_
        simp only [List.mem_append, List.mem_cons, List.not_mem_nil, or_false] at hq
        have hcl : ∀ q' : Addr × Obj, q' ∈ [(L + 1 + 1 + 1, o1), (L + 1 + 1, o2), (L + 1, o3)] → p.1 ≠ q'.1 := fun q' hq' => by
          refine mem_c p hp ?_ fun hp => ?_
          · simp only [List.mem_cons, List.not_mem_nil, or_false] at hq'
            rcases hq' with rfl | rfl | rfl
            · exact Nat.ne_of_gt lD3
            · exact Nat.ne_of_gt lD2
            · exact Nat.ne_of_gt lD1
          · have h4 := hoffs p (List.mem_append_left _ hp)
            simp only [List.mem_cons, List.not_mem_nil, or_false] at hq'
            rcases hq' with rfl | rfl | rfl
            · exact h4.2.1
            · exact h4.2.2.1
            · exact h4.2.2.2
        rcases hq with ((hq | hq | hq) | hq) | hq
        · exact hcl q (by simp [hq])
        · exact hcl q (by simp [hq])
        · exact hcl q (by simp [hq])
        · exact z q (List.mem_append_left _ hq)
        · exact z q (List.mem_append_right _ hq)
    · intro p hp
      (revert p hp; walk_at "s")

end
section
open PySem PySem.W PyProof.Rows PySem.Calls PySem.Spec
set_option maxHeartbeats 4000000
variable {w : World} {mean : ExcName → Option Value} {mg mb : Str → Option Value} {b : Heap} {news : List (Addr × Obj)}
theorem law_cells (G : Gd w mean mg mb b) {D0 : Addr} {vs : List Value} {zs : List Int} (hl : b.IsList D0 vs.toArray) (hi : IntsAre vs zs) (hz : zs.length ≤ 63) :
    JSpec w b none 6 (.ref 167) [.ref D0] [] news (fun r lg => ∃ D ys ns n, r = .ref D ∧ lg = (D, W.listOf ys.toArray n) :: news ∧ (∀ p ∈ news, @LT.lt Nat _ p.1 D) ∧ IntsAre ys ns ∧ ns.length = 26) (fun _ _ => False) := by
  have hvz : vs.length = zs.length := hi.length
  walk_at "J def"
  intro dp un outer L fr s Q Ec hfr F N hsep hdp hun ret rai
  refine let_all ?_
  intro aV eV eX qX
  have X := G.K
  have T := G.T
  replace F : Fr b L s.heap (lk [(Str.ofString "script", .ref D0)]) := F
  k_steps
  refine StopAt.go ?_
  rename ∀ p ∈ news ++ fr, _ => l1
  refine For_J b ?_
  k_steps
  rename IsRange _ _ _ _ _ _ _ _ => hr
  rename Fr _ _ _ _ => F3
  rename News _ _ _ _ => N3
  obtain ⟨D, ys, ns, l2, hys, h26, N4, F4⟩ : ∃ (D : Addr) (ys : List Value) (ns : List Int), (∀ p ∈ news ++ fr, @LT.lt Nat _ p.1 D) ∧ IntsAre ys ns ∧ ns.length = 26 ∧ News b L _ ((D, W.listOf ys.toArray 0) :: (news ++ fr)) ∧ Fr b L _ (fun y => if y = Str.ofString "cells" then some (.ref D) else lk [(Str.ofString "script", .ref D0)] y) :=
    (Y3 _ _ [3, 4, 2, 1, 9, 0, 9, 5, 8, 0, 7, 6, 11, 0, 2, 1, 4, 9, 8, 10, 7, 9, 8, 2, 0, 57] ⟨l1, by repeat (first | exact IntsAre.nil | refine IntsAre.cons _ _ ?_), rfl, N3, F3⟩)
  refine over_range (s := ⟨_, _, _, _, _⟩) rfl F4 N4 hr (by walk_at "o") (fun i m₁ nx => ∃ ys ns n ext, nx = (D, W.listOf ys.toArray n) :: (news ++ fr) ∧ m₁ = lk ((Str.ofString "script", .ref D0) :: (Str.ofString "cells", .ref D) :: ext) ∧ IntsAre ys ns ∧ ns.length = 26) (Y4 ys ns 0 [] ⟨rfl, lk_many [(_, _)] _, hys, h26⟩) ?_ ?_
  · intro i ti m₁ nx h₁ tk₁ I oI hi' y0 hnI F5 N5; walk_at "q"; refine X4_4 y0 ?_; clear y0; intro ys ns n ext z0 z1 hys h26; subst z0; subst z1
    clear F3 N3 F4 N4 hr
    have hDI : @Ne Nat D I := hnI (D, W.listOf ys.toArray n) List.mem_cons_self
    have hDn : ∀ p ∈ news ++ fr, p.1 ≠ D := fun p hp => Nat.ne_of_lt (l2 p hp)
    k_steps
    rename IntsAre (List.set _ _ _) _ => hys2
    rename Fr _ _ _ _ => F6
    rename News b L _ ((I, oI) :: _) => N6
    refine (Y4 _ _ _ _ ⟨rfl, F6, N6, fun p hp => ?_, (Y4 _ _ _ _ ⟨rfl, lk_many [(_, _)] _, hys2, ?_⟩)⟩)
    · refine mem_c p hp ?_ fun hp => ?_
      · exact hDI
      · exact hnI p (List.mem_cons_of_mem _ hp)
    · rw [← hys2.length, List.length_set, hys.length, h26]
  · intro h' tk' m' nx F5 N5 y0; refine X4_4 y0 ?_; clear y0; intro ys ns n ext z0 z1 hys h26; subst z0; subst z1
    clear F3 N3 F4 N4 hr
    k_steps
    rename Fr _ _ _ _ => F6
    rename News b L h' _ => N6
    exact ret _ _ fr _ _ _ _ (Y4 D ys ns n ⟨rfl, rfl, fun p hp => l2 p (List.mem_append_left _ hp), hys, h26⟩) (TI.SameUp.refl _) (fresh_lt l2 Fresh.refl) F6 N6

end
section
open PySem PySem.W PyProof.Rows PySem.Calls PySem.Spec
set_option maxHeartbeats 4000000
variable {w : World} {mean : ExcName → Option Value} {mg mb : Str → Option Value} {b : Heap} {news : List (Addr × Obj)}
local macro_rules | `(tactic| walk_at "eval ListComp") => `(tactic| k_dflt (refine stopAt ?_))
local macro_rules | `(tactic| walk_at "exec Assign cons ListComp") => `(tactic| k_dflt (refine stopAt ?_))
local macro_rules | `(tactic| walk_at "binaryOp Mod int int") => `(tactic| k_dflt (refine stopAt ?_))
local macro_rules | `(tactic| walk_at "call builtin:str.join") => `(tactic| k_dflt (refine stopAt ?_))
theorem strsAre_texts : ∀ l : List (List Nat × Tok), StrsAre (textsV l) (l.map fun p => S p.1)
  | [] => .nil
  | p :: r => .cons _ _ (strsAre_texts r)
theorem app_S (x y : List Nat) : (S x ++ S y : Str) = S (x ++ y) := by
  show Str.mk (x.toArray ++ y.toArray) = _
  rw [List.append_toArray]
theorem join_S : ∀ l : List (List Nat × Tok), Txt.join (Str.ofString "") (l.map fun p => S p.1) = S (l.map (·.1)).flatten := by
  intro l
  have e0 : Str.ofString "" = S [] := by decide
  rw [e0]
  show Builtin.Str.glued _ _ = _
  rw [StrLaws.glued_eq_join]
  induction l with
  | nil => rfl
  | cons p r ih =>
    cases r with
    | nil => simp [Str.join]
    | cons q r =>
      show S p.1 ++ S [] ++ Str.join (S []) ((q :: r).map fun p => S p.1) = _
      rw [ih, app_S, app_S]
      simp
theorem join_K {w : World} {A : Around} {E : Value → Shared → Prop} {s : Shared} {Q : Value → Shared → Prop} {b : Heap} {L D : Addr} {nn : List (Addr × Obj)} {l : List (List Nat × Tok)} {n : Nat} {t : Tok} (N : News b L s.heap nn) (hm : (D, W.listOf (textsV l).toArray n) ∈ nn) (hl : l.length ≤ 24) (h1 : ∀ p ∈ l, p.1.length ≤ 1)
    (h : ∀ t' k, Q (.str (S (l.map (·.1)).flatten) t') { s with toks := k }) : wpAny (model prg w) A (call (.builtin "str.join") [.str (Str.ofString "") t, .ref D]) Q E s := by
  refine join_listW (isList_mem N hm) (by simpa using strsAre_texts l) (by decide) ?_ (fun t' k => by rw [join_S]; exact h t' k)
  have : ((l.map fun p => S p.1).map (·.length)).sum ≤ l.length := by
    clear h hl hm
    induction l with
    | nil => simp
    | cons p r ih =>
      have hp := h1 p List.mem_cons_self
      have := ih fun q hq => h1 q (List.mem_cons_of_mem _ hq)
      simp only [List.map_cons, List.sum_cons, List.length_cons]
      have e : (S p.1).length = p.1.length := S_len _
      lia
  rw [List.length_map]
  lia
theorem flat_len {l : List (List Nat × Tok)} (h1 : ∀ p ∈ l, p.1.length ≤ 1 ∧ ∀ a ∈ p.1, a ∈ signs13) : (l.map (·.1)).flatten.length ≤ l.length ∧ ∀ a ∈ (l.map (·.1)).flatten, a ∈ signs13 := by
  induction l with
  | nil => simp
  | cons p r ih =>
    refine X0_2 (ih fun q hq => h1 q (List.mem_cons_of_mem _ hq)) ?_; intro i1 i2
    refine X0_2 (h1 p List.mem_cons_self) ?_; intro p1 p2
    constructor
    · simp only [List.map_cons, List.flatten_cons, List.length_append, List.length_cons]; lia
    · intro a ha
      simp only [List.map_cons, List.flatten_cons, List.mem_append] at ha
      rcases ha with ha | ha
      · exact p2 a ha
      · exact i2 a ha
theorem off_cell {c : Addr} {o : Obj} {fr : List (Addr × Obj)} (h1 : ∀ q ∈ news, c ≠ q.1) (hs : Sep ((c, o) :: news) fr) : ∀ p ∈ news ++ fr, p.1 ≠ c := fun p hp => (List.mem_append.mp hp).elim (fun q => Ne.symm (h1 p q)) fun q => Ne.symm (hs (c, o) List.mem_cons_self p q)
theorem slice13 (k : Fin 13) : Txt.slice (Str.ofString "af0d8 \t\n#'\x01-") (some (k.val : Int)) (some ((k.val : Int) + 1)) = S ((signs13.drop k.val).take 1) := by
  revert k; decide +kernel
theorem text_end {L : Addr} {m : Str → Option Value} {s : Shared} {h' : Heap} {tk : Nat} {I C D : Addr} {own nx : List (Addr × Obj)} {oC : Obj} {l : List (List Nat × Tok)} {i : Nat} {k : Fin 13} {ty : Tok}
    (hl : l.length = i) (hq : ∀ p ∈ l, p.1.length ≤ 1 ∧ ∀ a ∈ p.1, a ∈ signs13) (ho : ∀ p ∈ nx, p.1 ∉ [I] ∧ p.1 ≠ C ∧ p.1 ≠ D) (F : Fr b L h' m) (N : News b L h' ((C, oC) :: (D, LCg.lst (textsV l)) :: (nx ++ own)))
    (hs : ∀ k : Fin 13, Txt.slice (Str.ofString "af0d8 \t\n#'\x01-") (some (k.val : Int)) (some ((k.val : Int) + 1)) = S ((signs13.drop k.val).take 1)) :
    CEnd b L m s [I] own C oC D (textsV l) (fun nx' => nx' = nx ∧ ∃ l', textsV l ++ [.str (Txt.slice (Str.ofString "af0d8 \t\n#'\x01-") (some (k.val : Int)) (some ((k.val : Int) + 1))) ty] = textsV l' ∧ l'.length = i + 1 ∧ ∀ p ∈ l', p.1.length ≤ 1 ∧ ∀ a ∈ p.1, a ∈ signs13) { s with heap := h', toks := tk } := by
  refine (Y3 h' tk nx ⟨rfl, F, N, ho, rfl, l ++ [((signs13.drop k.val).take 1, ty)], ?_, by simp [hl], fun p hp => ?_⟩)
  · rw [hs k]; unfold textsV; rw [List.map_append]; rfl
  · refine mem_a hp (fun hp => ?_) fun hp => ?_
    · exact hq p hp
    · rw [List.mem_singleton.mp hp]
      exact ⟨by simp [List.length_take]; lia, fun a ha => List.mem_of_mem_drop (List.mem_of_mem_take ha)⟩
theorem law_text (G : Gd w mean mg mb b) {D0 : Addr} {vs : List Value} {zs : List Int} {n0 : Nat} (hm : (D0, W.listOf vs.toArray n0) ∈ news) (hi : IntsAre vs zs) (hz : zs.length ≤ 24) :
    JSpec w b none 6 (.ref 172) [.ref D0] [] news (fun r lg => ∃ x t, r = .str (S x) t ∧ lg = news ∧ x.length ≤ 24 ∧ ∀ a ∈ x, a ∈ signs13) (fun _ _ => False) := by
  have hvz : vs.length = zs.length := hi.length
  walk_at "J defC"
  intro dp un outer L fr cells s Q Ec hfr F hcells N hsep hcn hdp hun ret rai
  refine let_all ?_
  intro aV eV eX qX
  have X := G.K
  have T := G.T
  refine X1_2 (PyProof.Rows.CellsAre.one hcells) ?_; intro o1 hE d1
  subst hE
  clear hcells
  have e1 : o1.data = .cell none := d1.trans (by rfl)
  replace F : Fr b L s.heap (fun y => if y = Str.ofString "cells" then some (.ref D0) else lk [] y) := F
  replace N : News b L s.heap ((L + 1, o1) :: (news ++ fr)) := N
  have hsep1 : Sep ((L + 1, o1) :: news) fr := hsep
  have hoff := off_cell (fun q hq => hcn (L + 1, o1) (by simp) q hq) hsep1
  clear d1
  k_steps
  refine StopAt.go ?_
  rename_i hd1
  rename Fr _ _ _ _ => F1
  refine ListComp_J F1 (by with_unfolding_all rfl) (by decide) (by rfl) (by decide) ?_
  k_steps
  rename Fr _ _ _ _ => F2
  rename News _ _ _ _ => N2
  refine comp_list (s := ⟨_, _, _, _, _⟩) (D := D0) (ys := vs) (k := n0) rfl F2 N2 (by simp [hm]) (by rfl) (by rfl) (by rw [hvz]; exact Nat.le_trans hz (by decide)) (fun i ys nx => nx = (L + 1, _) :: (news ++ fr) ∧ ∃ l : List (List Nat × Tok), ys = textsV l ∧ l.length = i ∧ ∀ p ∈ l, p.1.length ≤ 1 ∧ ∀ a ∈ p.1, a ∈ signs13) ?_ ⟨rfl, [], rfl, rfl, fun p hp => nomatch hp⟩ ?_ ?_
  · intro i zs nx y0; refine X0_2 y0 ?_; clear y0; intro z0 _; subst z0
    simp [hm]
  · intro I hI h i ys C D oC m₂ news₁ own h₁ tk₁ X' hin y0 y1 hown hop hoff2 hia hCD hoC F3 N3; refine tests_none ?_; intro qY; refine X0_2 y0 ?_; clear y0; intro z0 z1; subst z0; refine X1_3 z1 ?_; clear z1; intro l z2 hl hq; subst z2; refine X1_2 y1 ?_; clear y1; intro v hv hx
    clear F2 N2
    refine X2_2 (hi.at i v hv) ?_; intro z tz z0 hzi; subst z0
    try dsimp only
    replace N3 : News b L h₁ ((C, oC) :: (D, LCg.lst (textsV l)) :: (L + 1, _) :: (news ++ fr ++ own)) := N3
    have hz13 : z.fmod 13 = 0 ∨ z.fmod 13 = 1 ∨ z.fmod 13 = 2 ∨ z.fmod 13 = 3 ∨ z.fmod 13 = 4 ∨ z.fmod 13 = 5 ∨ z.fmod 13 = 6 ∨ z.fmod 13 = 7 ∨ z.fmod 13 = 8 ∨ z.fmod 13 = 9 ∨ z.fmod 13 = 10 ∨ z.fmod 13 = 11 ∨ z.fmod 13 = 12 := by
      have := Int.fmod_eq_emod_of_nonneg z (show (0 : Int) ≤ 13 by decide)
      exact ar62
    k_steps
    refine StopAt.go ?_
    refine mod_int' (by decide) ?_
    rcases hz13 with e | e | e | e | e | e | e | e | e | e | e | e | e
    all_goals
      rw [e]
      k_steps
      refine StopAt.go ?_
      refine mod_int' (by decide) ?_
      rw [e]
      k_steps
    all_goals
      rename Fr _ _ _ _ => F5
      rename News _ _ _ _ => N5
    · exact text_end (k := 0) hl hq hoff2 F5 N5 slice13
    · exact text_end (k := 1) hl hq hoff2 F5 N5 slice13
    · exact text_end (k := 2) hl hq hoff2 F5 N5 slice13
    · exact text_end (k := 3) hl hq hoff2 F5 N5 slice13
    · exact text_end (k := 4) hl hq hoff2 F5 N5 slice13
    · exact text_end (k := 5) hl hq hoff2 F5 N5 slice13
    · exact text_end (k := 6) hl hq hoff2 F5 N5 slice13
    · exact text_end (k := 7) hl hq hoff2 F5 N5 slice13
    · exact text_end (k := 8) hl hq hoff2 F5 N5 slice13
    · exact text_end (k := 9) hl hq hoff2 F5 N5 slice13
    · exact text_end (k := 10) hl hq hoff2 F5 N5 slice13
    · exact text_end (k := 11) hl hq hoff2 F5 N5 slice13
    · exact text_end (k := 12) hl hq hoff2 F5 N5 slice13
  · intro h zs nx y0; refine X0_2 y0 ?_; clear y0; intro z0 z1; subst z0; refine X1_3 z1 ?_; clear z1; intro l z2 hl hq; subst z2
    intro D h' tk F5 N5 hD
    try dsimp only
    try clear F2
    try clear N2
    k_steps
    refine StopAt.go ?_
    rename Fr _ _ _ _ => F6
    rename News _ _ _ _ => N6
    refine X0_2 (flat_len hq) ?_; intro f1 f2
    refine join_K (D := D) (l := l) (n := (textsV l).length) N6 List.mem_cons_self (by walk_at "o") (fun p hp => (hq p hp).1) ?_
    intro t' k
    exact ret _ news fr _ _ _ _ (Y2 _ _ ⟨rfl, rfl, by lia, f2⟩) (TI.SameUp.refl _) (fun p hp => .inl (List.mem_map_of_mem (List.mem_append_right _ hp))) F6 (news_sub N6 (by intro p hp; simp only [List.mem_cons]; exact .inr (.inr hp)))

end
section
open PySem PySem.W PyProof.Rows PySem.Calls PySem.Spec
set_option maxHeartbeats 4000000
variable {w : World} {mean : ExcName → Option Value} {mg mb : Str → Option Value} {b : Heap} {news : List (Addr × Obj)}
local macro_rules | `(tactic| walk_at "exec FunctionDef") => `(tactic| k_dflt (refine stopAt ?_))
theorem rule_out1 {w : World} {b h : Heap} {L f c' l u x dx cn ck : Addr} {o1 o2 : Obj} {v doc pm ctv : Value} {t1 t2 t3 t4 t5 t6 : Tok} {r : List (Addr × Obj)}
    (N : News b L h ((f, askO c' cn ck doc pm ctv) :: (l, W.listOf #[] 0) :: (u, W.listOf #[] 0) :: (x, instObj 52 dx) :: (dx, dictOf (rulD w.params u l f v t1 t2 t3 t4 t5 t6) 6) :: (cn, o1) :: (ck, o2) :: r)) :
    ∃ doc pm ctv t5 t6, News b L h ((f, askO c' cn ck doc pm ctv) :: (l, W.listOf #[] 0) :: (u, W.listOf #[] 0) :: (x, instObj 52 dx) :: (dx, dictOf (rulD w.params u l f v t1 t2 t3 t4 t5 t6) 6) :: (cn, o1) :: (ck, o2) :: r) := (Y5 _ _ _ _ _ N)
theorem law_rule1 (G : Gd w mean mg mb b) {k : Nat} {v : Value} {nt : Addr} {t1 : Tok} {c' : Addr} {oc' : Obj} {vs' : Array Value} {t' : Tok} (hod : oc'.data = .fields vs') (hv : vs'[1]? = some (.str "_law_rule.<locals>._law_asked" t')) :
    JSpec w b none 12 (.ref 207) [.str (kindS k) t1, v, .ref nt] [] ((202, tabObj #[rawInt 163, rawInt 4, .ref c']) :: (c', oc') :: news) (RulePost w k v nt [(202, tabObj #[rawInt 163, rawInt 4, .ref c']), (c', oc')] news) (fun _ _ => False) := by
  walk_at "J defC"
  intro dp un outer L fr cells s Q Ec hfr F hcells N hsep hcn hdp hun ret rai
  refine let_all ?_
  intro aV eV eX qX
  have X := G.K
  have T := G.T
  have C2 := G.C2
  have hY := PyProof.Rows.CellsAre.two hcells
  refine X2_3 hY ?_; clear hY; intro o1 o2 hE d1 d2
  subst hE
  clear hcells
  have e1 : o1.data = .cell (some (.ref nt)) := d1.trans (by rfl)
  have e2 : o2.data = .cell (some (.str (kindS k) t1)) := d2.trans (by rfl)
  replace F : Fr b L s.heap (fun y => if y = Str.ofString "verdict" then some v else lk [] y) := F
  replace N : News b L s.heap ((L + 1 + 1, o1) :: (L + 1, o2) :: (202, tabObj #[rawInt 163, rawInt 4, .ref c']) :: (c', oc') :: (news ++ fr)) := N
  have hsep1 : Sep ((L + 1 + 1, o1) :: (L + 1, o2) :: (202, tabObj #[rawInt 163, rawInt 4, .ref c']) :: (c', oc') :: news) fr := hsep
  k_steps
  refine StopAt.go ?_
  refine new_entry G (news := (L + 1 + 1, o1) :: (L + 1, o2) :: (202, tabObj #[rawInt 163, rawInt 4, .ref c']) :: (c', oc') :: news) _ _ _ _ _ _ fr _ _ _ rfl rfl hfr F N hsep1 (by walk_at "o") (by walk_at "o") ?_ ?_
  · intro v' lg fr2 h6 tk6 y0 hsu hF F6 N6; refine X8_6 y0 ?_; clear y0; intro x dx u l t1' t2 t3 t4 z0 z1 h1 h2 h3 h4; subst z0; subst z1
    clear F N
    have hs2 := sep_fresh hsep1 hF hsu
    have hfr2 := hfr.up hsu
    have g1 : @LT.lt Nat _ (L + 1 + 1) dx := h1 _ (List.mem_cons_self)
    have g2 : @LT.lt Nat _ (L + 1) dx := h1 _ (List.mem_cons_of_mem _ List.mem_cons_self)
    have g3 : @LT.lt Nat _ 202 dx := h1 (202, tabObj #[rawInt 163, rawInt 4, .ref c']) (by walk_at "m")
    have n1 : @Ne Nat (L + 1 + 1) 202 := hcn (L + 1 + 1, o1) (by walk_at "m") (202, tabObj #[rawInt 163, rawInt 4, .ref c']) (by walk_at "m")
    have n2 : @Ne Nat (L + 1) 202 := hcn (L + 1, o2) (by walk_at "m") (202, tabObj #[rawInt 163, rawInt 4, .ref c']) (by walk_at "m")
    have g4 : @LT.lt Nat _ c' dx := h1 (c', oc') (by walk_at "m")
    have n3 : @Ne Nat (L + 1 + 1) c' := hcn (L + 1 + 1, o1) (by walk_at "m") (c', oc') (by walk_at "m")
    have n4 : @Ne Nat (L + 1) c' := hcn (L + 1, o2) (by walk_at "m") (c', oc') (by walk_at "m")
    have r2 : ∀ p ∈ news ++ fr2, p.1 ≠ dx := fun p hp => (List.mem_append.mp hp).elim (fun q => Nat.ne_of_lt (h1 p (by walk_at "m"))) fun q => Ne.symm (hs2 (dx, dictOf (entD w.params u l t1' t2 t3 t4) 4) (by walk_at "m") p q)
    replace N6 : News b L h6 ((l, W.listOf #[] 0) :: (u, W.listOf #[] 0) :: (x, instObj 52 dx) :: (dx, dictOf (entD w.params u l t1' t2 t3 t4) 4) :: (L + 1 + 1, o1) :: (L + 1, o2) :: (202, tabObj #[rawInt 163, rawInt 4, .ref c']) :: (c', oc') :: (news ++ fr2)) := N6
    k_steps
    refine StopAt.go ?_
    rename Fr _ _ _ _ => F7
    rename News _ _ _ _ => N7
    refine nestDef_K (by exact rfl) (by exact rfl) (by exact rfl) ?_
    refine nestHit_K (c := 206) (P := 202) (c' := c') (ps := #[rawInt 163, rawInt 4, .ref c']) F7 N7 T C2 rfl (by walk_at "m") (by simp [TriplesOk, rawInt]) (by simp [codeAmong, rawInt]) rfl ?_
    intro f' ct' dc' h' tk' F' N' l1
    have m1 : @LT.lt Nat _ l f' := l1 (l, W.listOf #[] 0) (by walk_at "m")
    have m2 : @LT.lt Nat _ 202 f' := l1 (202, tabObj #[rawInt 163, rawInt 4, .ref c']) (by walk_at "m")
    have m3 : @LT.lt Nat _ c' f' := l1 (c', oc') (by walk_at "m")
    k_steps
    rename Fr _ _ _ _ => F9
    rename News _ _ _ _ => N9
    refine X5_1 (rule_out1 N9) ?_; intro doc pm ctv t5 t6 N10
    have hle : ∀ q ∈ news ++ fr2, @LT.lt Nat _ q.1 f' := fun q hq => l1 q (by walk_at "m")
    refine ret _ ([(f', askO c' (L + 1 + 1) (L + 1) doc pm ctv), (l, W.listOf #[] 0), (u, W.listOf #[] 0), (x, instObj 52 dx), (dx, dictOf (rulD w.params u l f' v t1' t2 t3 t4 t5 t6) 6), (L + 1 + 1, o1), (L + 1, o2)] ++ ([(202, tabObj #[rawInt 163, rawInt 4, .ref c']), (c', oc')] ++ news)) fr2 _ _ _ _
      (Y4 c' [(202, tabObj #[rawInt 163, rawInt 4, .ref c']), (c', oc')] _ x ⟨(Y3 oc' vs' t' ⟨rfl, hod, hv⟩), ?_, .inl (Y4 c' oc' vs' t' ⟨rfl, hod, hv⟩), rfl, rfl, ?_, ?_⟩) hsu ?_ F9 (news_sub N10 ?_)
    · intro c0 y0; refine X3_2 y0 ?_; clear y0; intro oc0 vs0 t0 h _
      have := (Prod.mk.inj (List.cons.inj (List.cons.inj h).2).1).1
      exact ⟨this, rfl⟩
    · intro p hp q hq
      have hq3 : @Eq Nat q.1 202 ∨ @Eq Nat q.1 c' ∨ (@LT.lt Nat _ q.1 dx ∧ @LT.lt Nat _ q.1 f' ∧ @Ne Nat (L + 1 + 1) q.1 ∧ @Ne Nat (L + 1) q.1) := by
        refine mem_a hq (fun y => ?_) fun y => ?_
        · refine mem_c q y ?_ fun y => ?_
          · exact .inl rfl
          · rw [List.mem_singleton.mp y]; exact .inr (.inl rfl)
        · exact .inr (.inr ⟨h1 q (by walk_at "m"), hle q (List.mem_append_left _ y), hcn (L + 1 + 1, o1) (by walk_at "m") q (by walk_at "m"), hcn (L + 1, o2) (by walk_at "m") q (by walk_at "m")⟩)
      have hp7 : @Eq Nat p.1 f' ∨ @Eq Nat p.1 l ∨ @Eq Nat p.1 u ∨ @Eq Nat p.1 x ∨ @Eq Nat p.1 dx ∨ @Eq Nat p.1 (L + 1 + 1) ∨ @Eq Nat p.1 (L + 1) := by
        refine mem_c p hp ?_ fun hp => mem_c p hp ?_ fun hp => mem_c p hp ?_ fun hp => mem_c p hp ?_ fun hp => mem_c p hp ?_ fun hp => mem_c p hp ?_ fun hp => mem_1 p hp ?_ <;> repeat' first | exact .inl rfl | exact rfl | refine .inr ?_
      show @Ne Nat p.1 q.1
      exact ar76 h2 h3 h4 g3 n1 n2 g4 n3 n4 m2 m3 hq3 hp7
    · exact (Y12 dx u l f' (L + 1) (L + 1 + 1) o2 o1 t1 doc pm ctv (Y6 t1' t2 t3 t4 t5 t6 ⟨by walk_at "m", by walk_at "m", by walk_at "m", by walk_at "m", e2, by walk_at "m", e1⟩))
    · refine fresh_sub (lg := (f', askO c' (L + 1 + 1) (L + 1) doc pm ctv) :: (l, W.listOf #[] 0) :: (u, W.listOf #[] 0) :: (x, instObj 52 dx) :: (dx, dictOf (entD w.params u l t1' t2 t3 t4) 4) :: (L + 1 + 1, o1) :: (L + 1, o2) :: (202, tabObj #[rawInt 163, rawInt 4, .ref c']) :: (c', oc') :: news) (fun p hp => ?_) (fresh_cons hsu (fun p hp => ?_) (fresh_of hF))
      · refine mem_a hp (fun hp => ?_) fun hp => ?_; refine mem_c p hp ?_ fun hp => mem_c p hp ?_ fun hp => mem_c p hp ?_ fun hp => mem_c p hp ?_ fun hp => mem_c p hp ?_ fun hp => mem_c p hp ?_ fun hp => mem_1 p hp ?_; rotate_left 7; refine mem_a hp (fun hp => ?_) fun hp => ?_; refine mem_c p hp ?_ fun hp => mem_1 p hp ?_; rotate_right 7
        · exact ⟨_, List.mem_cons_self, rfl⟩
        · exact ⟨(l, W.listOf #[] 0), by walk_at "m", rfl⟩
        · exact ⟨(u, W.listOf #[] 0), by walk_at "m", rfl⟩
        · exact ⟨(x, instObj 52 dx), by walk_at "m", rfl⟩
        · exact ⟨(dx, dictOf (entD w.params u l t1' t2 t3 t4) 4), by walk_at "m", rfl⟩
        · exact ⟨(L + 1 + 1, o1), by walk_at "m", rfl⟩
        · exact ⟨(L + 1, o2), by walk_at "m", rfl⟩
        · exact ⟨(202, tabObj #[rawInt 163, rawInt 4, .ref c']), by walk_at "m", rfl⟩
        · exact ⟨(c', oc'), by walk_at "m", rfl⟩
        · exact ⟨p, by walk_at "m", rfl⟩
      · refine mem_a hp (fun y => ?_) fun y => ?_
        · refine mem_c p y ?_ fun y => ?_
          · exact Nat.lt_trans g1 (Nat.lt_trans h2 (Nat.lt_trans h3 (Nat.lt_trans h4 m1)))
          · refine mem_c p y ?_ fun y => ?_
            · exact Nat.lt_trans g2 (Nat.lt_trans h2 (Nat.lt_trans h3 (Nat.lt_trans h4 m1)))
            · refine mem_c p y ?_ fun y => ?_
              · exact m2
              · refine mem_c p y ?_ fun y => ?_
                · exact m3
                · exact hle p (List.mem_append_left _ y)
        · exact hle p (List.mem_append_right _ y)
    · intro p hp
      (revert p hp; walk_at "s")
  · rintro _ _ _ _ _ _ _ ⟨⟩

end
section
open PySem PySem.W PyProof.Rows PySem.Calls PySem.Spec
set_option maxHeartbeats 4000000
variable {w : World} {mean : ExcName → Option Value} {mg mb : Str → Option Value} {b : Heap} {news : List (Addr × Obj)}
local macro_rules | `(tactic| walk_at "eval ListComp") => `(tactic| k_dflt (refine stopAt ?_))
local macro_rules | `(tactic| walk_at "exec Assign cons ListComp") => `(tactic| k_dflt (refine stopAt ?_))
theorem name_W {h : Heap} {L D : Addr} {ws : List Value} {n : Nat} {r : List (Addr × Obj)} (N : News b L h ((D, W.listOf ws.toArray n) :: r)) : ∃ (D' : Addr) (ws' : List Value), D' = D ∧ ws' = ws ∧ News b L h ((D', W.listOf ws'.toArray n) :: r) := (Y2 D ws ⟨rfl, rfl, N⟩)
theorem name_N {h : Heap} {L D a c : Addr} {Dv : Addr} {oV oN : Obj} {ws : Array Value} {n : Nat} {r : List (Addr × Obj)} (N : News b L h ((D, W.listOf ws n) :: (a, oV) :: (c, oN) :: r)) (hV : oV.data = .cell (some (.ref Dv))) (hN : oN.data = .cell (some (.ref D))) :
    ∃ (D' : Addr) (oV' oN' : Obj), D' = D ∧ oV'.data = .cell (some (.ref Dv)) ∧ oN'.data = .cell (some (.ref D')) ∧ News b L h ((D', W.listOf ws n) :: (a, oV') :: (c, oN') :: r) := (Y3 D oV oN ⟨rfl, hV, hN, N⟩)
theorem tok_call (G : Gd w mean mg mb b) (Z : ZSets b) (ZK : Z.Ok) {x : List Nat} {tx : Tok} {ks : List Nat} {V : Nat → Value} {nw exs : List (Addr × Obj)} {nt l xe dx u c' : Addr} {rs os : List Value} {s1 s2 s3 s4 : Tok} {nl : Nat} {oc' : Obj} {vs' : Array Value} {t' : Tok}
  (hx : x.length ≤ 24) (hx13 : ∀ a ∈ x, a ∈ signs13) (hr148 : ∀ p ∈ nw, p.1 ≠ 148) (hnt148 : nt ≠ 148) (hrnt : ∀ p ∈ nw, p.1 ≠ nt) 
  (a1 : (xe, instObj 52 dx) ∈ nw)  (a2 : (dx, dictOf (entD w.params u l s1 s2 s3 s4) 4) ∈ nw) (a3 : (l, W.listOf rs.toArray nl) ∈ nw) (hks : KindsAre os ks) (hol : os.length = 6) (hrl : rs.length = os.length)
  (hrul : ∀ j k, j < os.length → ks[j]? = some k → ∃ rx, rs[j]? = some (Value.ref rx) ∧ RuleAt w exs c' rx k (V k) nt) (hwX : ∀ p ∈ exs, p ∈ nw)
  (hcn : (c', oc') ∈ nw) (hod : oc'.data = .fields vs') (hvc : vs'[1]? = some (.str "_law_rule.<locals>._law_asked" t')) (hVn : ∀ k, k < 6 → VerdIs w nw k (V k)) :
  JSpec w b none 76 (.ref 219) [.str (S x) tx, .ref xe, .ref nt] [] ((nt, W.listOf #[] 0) :: (nw ++ [(148, tabObj #[])])) (TokPost Z V (fun k => tvOf (V k)) x ks nt nw [(148, tabObj #[])]) (fun _ _ => False) := by
  have hkl : rs.length = ks.length := by rw [hrl, hks.len]
  have hk6 : ks.length ≤ 6 := by rw [← hks.len, hol]; decide
  refine law_tokens G Z ZK (V := V) (tv := fun k => tvOf (V k)) (x := x) (ks := ks) (rs := rs) (T0 := [(148, tabObj #[])]) (nn := 0) (oc' := oc') (vs' := vs') (c' := c') (t' := t') (l := l) (dx := dx) (u := u) (t1' := s1) (t2 := s2) (t3 := s3) (t4 := s4) (nr := nl) hx hx13 ?_ hr148 hnt148 ?_ a1 a2 a3 hk6 hkl ?_ hcn hod hvc hVn ?_
  · exact .inl rfl
  · intro p hp
    refine mem_a hp (fun hp => ?_) fun hp => ?_
    · exact hrnt p hp
    · rw [List.mem_singleton.mp hp]; exact Ne.symm hnt148
  · intro i k hk
    have hik : i < os.length := by
      have := (List.getElem?_eq_some_iff.mp hk).1
      have := hks.len
      lia
    refine X1_2 (hrul i k hik hk) ?_; intro rx y1 y2
    exact ⟨rx, y1, hks.lt k (List.mem_of_getElem? hk), y2.mono hwX⟩
  · exact fun k hk => truth_verd hk (hVn k hk)
theorem law_law (G : Gd w mean mg mb b) (Z : ZSets b) (ZK : Z.Ok) (PL : PlainLaw Z) {D0 : Addr} {vs : List Value} {zs : List Int} (hl : b.IsList D0 vs.toArray) (hi : IntsAre vs zs) (hz : zs.length ≤ 63) :
    BodyC w b none [(202, tabObj #[]), (148, tabObj #[])] 99 (Str.ofString "law") (dfn 36).2.2 (dfn 36).2.1 255 (.ref 254) [(Str.ofString "script", .ref D0)] (fun r lg => r = .bool true ∧ ∃ x y, (148, tabObj x) ∈ lg ∧ (202, tabObj y) ∈ lg) (fun _ _ => False) := by
  intro dp un outer L fr cells s Q Ec hfr F hcells N hsep hcn hdp hun ret rai
  refine let_all ?_
  intro aV eV eX qX
  have X := G.K
  have T := G.T
  have hY := PyProof.Rows.CellsAre.two hcells
  refine X2_3 hY ?_; clear hY; intro o1 o2 hE d1 d2
  subst hE
  clear hcells
  have e1 : o1.data = .cell none := d1.trans (by rfl)
  have e2 : o2.data = .cell none := d2.trans (by rfl)
  clear d1 d2
  replace F : Fr b L s.heap (fun y => if y = Str.ofString "script" then some (.ref D0) else lk [] y) := F
  replace N : News b L s.heap ((L + 1 + 1, o1) :: (L + 1, o2) :: (202, tabObj #[]) :: (148, tabObj #[]) :: fr) := N
  have hsep1 : Sep ((L + 1 + 1, o1) :: (L + 1, o2) :: (202, tabObj #[]) :: (148, tabObj #[]) :: []) fr := hsep
  k_steps
  refine StopAt.go ?_
  refine law_cells G (news := (L + 1 + 1, o1) :: (L + 1, o2) :: (202, tabObj #[]) :: (148, tabObj #[]) :: []) hl hi hz _ _ _ _ _ _ fr _ _ _ rfl rfl hfr F N hsep1 (by walk_at "o") (by walk_at "o") ?_ (by rintro _ _ _ _ _ _ _ ⟨⟩)
  intro v lg fr1 h1 tk1 y0 hsu1 hF1 F1 N1; refine X4_5 y0 ?_; clear y0; intro Dc ys ns n1 z0 z1 hltc hys h26; subst z0; subst z1
  clear F N
  have hsep2 := sep_fresh hsep1 hF1 hsu1
  have hfr1 := hfr.up hsu1
  have hyl : ys.length = 26 := by rw [hys.length, h26]
  replace N1 : News b L h1 ((Dc, W.listOf ys.toArray n1) :: (L + 1 + 1, o1) :: (L + 1, o2) :: (202, tabObj #[]) :: (148, tabObj #[]) :: fr1) := N1
  k_steps
  refine StopAt.go ?_
  rename Fr _ _ _ _ => F2
  rename News _ _ _ _ => N2
  rename IntsAre _ (List.take 24 ns) => hws
  rename Dc < _ ∧ _ => lt2
  refine X2_3 (name_W N2) ?_; intro Dt ws z0 z1 N3; subst z0; subst z1
  try clear N2
  have hDt : ∀ q ∈ fr1, Dt ≠ q.1 := fun q hq => Nat.ne_of_gt (lt_tail lt2.2.2.2.2.2 q hq)
  have hsep3 : Sep ((Dt, W.listOf ws.toArray 0) :: (Dc, W.listOf ys.toArray n1) :: (L + 1 + 1, o1) :: (L + 1, o2) :: (202, tabObj #[]) :: (148, tabObj #[]) :: []) fr1 := sep_cons hDt hsep2
  refine law_text G (news := (Dt, W.listOf ws.toArray 0) :: (Dc, W.listOf ys.toArray n1) :: (L + 1 + 1, o1) :: (L + 1, o2) :: (202, tabObj #[]) :: (148, tabObj #[]) :: []) List.mem_cons_self hws (by rw [List.length_take]; exact Nat.min_le_left ..) _ _ _ _ _ _ fr1 _ _ _ rfl rfl hfr1 F2 N3 hsep3 (by walk_at "o") (by walk_at "o") ?_ (by rintro _ _ _ _ _ _ _ ⟨⟩)
  intro v lg fr2 h3 tk3 y0 hsu2 hF2 F4 N4; refine X2_4 y0 ?_; clear y0; intro x tx z0 z1 hx hx13; subst z0; subst z1
  try clear N3
  try clear F2
  have hsep4 := hsep2.up hsu2
  have hfr2 := hfr1.up hsu2
  replace N4 : News b L h3 ((Dc, W.listOf ys.toArray n1) :: (L + 1 + 1, o1) :: (L + 1, o2) :: (202, tabObj #[]) :: (148, tabObj #[]) :: fr2) := fun p hp => N4 p (List.mem_cons_of_mem _ hp)
  obtain ⟨v24, hv24⟩ : ∃ v, ys[24]? = some v := ⟨ys[24]'(by walk_at "o"), List.getElem?_eq_getElem _⟩
  refine X2_2 (hys.at 24 v24 hv24) ?_; intro z24 t24 z0 _; subst z0
  obtain ⟨v25, hv25⟩ : ∃ v, ys[25]? = some v := ⟨ys[25]'(by walk_at "o"), List.getElem?_eq_getElem _⟩
  refine X2_2 (hys.at 25 v25 hv25) ?_; intro z25 t25 z0 _; subst z0
  k_steps
  refine StopAt.go ?_
  rename Fr _ _ _ _ => F5
  rename News _ _ _ _ => N5
  refine law_order G (news := (Dc, W.listOf ys.toArray n1) :: (L + 1 + 1, o1) :: (L + 1, o2) :: (202, tabObj #[]) :: (148, tabObj #[]) :: []) _ _ _ _ _ _ fr2 _ _ _ rfl rfl hfr2 F5 N5 hsep4 (by walk_at "o") (by walk_at "o") ?_ (by rintro _ _ _ _ _ _ _ ⟨⟩)
  intro v lg fr3 h5 tk5 y0 hsu3 hF3 F6 N6; refine X4_5 y0 ?_; clear y0; intro Do os ks no z0 hom hog hks h6; subst z0
  try clear N5
  try clear F5
  try clear F4
  try clear N4
  refine X1_2 hog ?_; clear hog; intro ex1 z0 hex1; subst z0
  have hsep5 := sep_fresh hsep4 hF3 hsu3
  have hfr3 := hfr2.up hsu3
  have hol : os.length = 6 := by rw [hks.len, h6]
  have hcv : (Dc, W.listOf ys.toArray n1) ∈ ex1 ++ [(Dc, W.listOf ys.toArray n1), (L + 1 + 1, o1), (L + 1, o2), (202, tabObj #[]), (148, tabObj #[])] ++ fr3 := by walk_at "m"
  k_steps
  refine StopAt.go ?_
  rename Fr _ _ _ _ => F7
  rename News _ _ _ _ => N7
  refine law_verdicts G (news := ex1 ++ [(Dc, W.listOf ys.toArray n1), (L + 1 + 1, o1), (L + 1, o2), (202, tabObj #[]), (148, tabObj #[])]) _ _ _ _ _ _ fr3 _ _ _ rfl rfl hfr3 F7 N7 hsep5 (by walk_at "o") (by walk_at "o") ?_ (by rintro _ _ _ _ _ _ _ ⟨⟩)
  intro v lg fr4 h7 tk7 y0 hsu4 hF4 F8 N8; refine X4_5 y0 ?_; clear y0; intro Dv ov exv V z0 z1 hltv hvk hV; subst z0; subst z1
  try clear N7
  try clear F7
  try clear N6
  try clear F6
  have hsep6 := sep_fresh hsep5 hF4 hsu4
  have hfr4 := hfr3.up hsu4
  obtain ⟨A, hA⟩ : ∃ A : List (Addr × Obj), A = (Dv, ov) :: (exv ++ (ex1 ++ [(Dc, W.listOf ys.toArray n1)])) := ⟨_, rfl⟩
  have N9 : News b L h7 ((L + 1, o2) :: (L + 1 + 1, o1) :: (A ++ (202, tabObj #[]) :: (148, tabObj #[]) :: fr4)) := news_sub N8 (by
    intro p hp
    rw [hA] at hp
    (revert p hp; walk_at "s"))
  have hsepA : Sep (A ++ [(L + 1 + 1, o1), (L + 1, o2), (202, tabObj #[]), (148, tabObj #[])]) fr4 := fun q hq p hp => hsep6 q (by
    rw [hA] at hq
    (revert q hq; walk_at "s")) p hp
  have hoA : ∀ z o, (z, o) ∈ [(L + 1 + 1, o1), (L + 1, o2), (202, tabObj #[]), (148, tabObj #[])] → ∀ p ∈ A, @Ne Nat p.1 z := fun z o hz p hp => by
    rw [hA] at hp
    simp only [List.mem_append, List.mem_cons, List.not_mem_nil, or_false] at hp
    have hm : (z, o) ∈ ex1 ++ [(Dc, W.listOf ys.toArray n1), (L + 1 + 1, o1), (L + 1, o2), (202, tabObj #[]), (148, tabObj #[])] := List.mem_append_right _ (List.mem_cons_of_mem _ hz)
    rcases hp with rfl | hp | hp | rfl
    · exact Nat.ne_of_gt (hltv _ List.mem_cons_self (z, o) hm)
    · exact Nat.ne_of_gt (hltv p (List.mem_cons_of_mem _ hp) (z, o) hm)
    · exact hex1 p hp (z, o) (List.mem_cons_of_mem _ hz)
    · exact Nat.ne_of_gt (hltc (z, o) hz)
  have hc1 : ∀ q ∈ [(202, tabObj #[]), (148, tabObj #[])], @Ne Nat (L + 1 + 1) q.1 := fun q hq => hcn (L + 1 + 1, o1) (by walk_at "m") q hq
  have hc2 : ∀ q ∈ [(202, tabObj #[]), (148, tabObj #[])], @Ne Nat (L + 1) q.1 := fun q hq => hcn (L + 1, o2) (by walk_at "m") q hq
  have t1 : ∀ p ∈ A ++ (202, tabObj #[]) :: (148, tabObj #[]) :: fr4, p.1 ≠ L + 1 := fun p hp => by
    refine mem_a hp (fun hp => ?_) fun hp => ?_; rotate_left; refine mem_c p hp ?_ fun hp => mem_c p hp ?_ fun hp => ?_; rotate_right
    · exact hoA (L + 1) o2 (by walk_at "m") p hp
    · exact Ne.symm (hc2 _ (by walk_at "m"))
    · exact Ne.symm (hc2 _ (by walk_at "m"))
    · exact Ne.symm (hsepA (L + 1, o2) (by walk_at "m") p hp)
  have t2 : ∀ p ∈ A ++ (202, tabObj #[]) :: (148, tabObj #[]) :: fr4, p.1 ≠ L + 1 + 1 := fun p hp => by
    refine mem_a hp (fun hp => ?_) fun hp => ?_; rotate_left; refine mem_c p hp ?_ fun hp => mem_c p hp ?_ fun hp => ?_; rotate_right
    · exact hoA (L + 1 + 1) o1 (by walk_at "m") p hp
    · exact Ne.symm (hc1 _ (by walk_at "m"))
    · exact Ne.symm (hc1 _ (by walk_at "m"))
    · exact Ne.symm (hsepA (L + 1 + 1, o1) (by walk_at "m") p hp)
  try clear N8
  k_steps
  refine StopAt.go ?_
  rename Fr _ _ _ _ => F10
  rename News _ _ _ _ => N10
  rename _ = Data.cell (some (Value.ref Dv)) => hoV
  rename L + 1 < _ ∧ _ => lt10
  rename _ = Data.cell (some (Value.ref _)) => hoN
  refine X3_4 (name_N N10 hoV hoN) ?_; intro nt oV oN z0 hoV hoN N11; subst z0
  try clear N10
  clear t1 t2
  obtain ⟨base, hbase⟩ : ∃ base : List (Addr × Obj), base = (nt, W.listOf #[] 0) :: (L + 1, oV) :: (L + 1 + 1, oN) :: (A ++ [(148, tabObj #[])]) := ⟨_, rfl⟩
  have N12 : News b L _ ([] ++ ([(202, tabObj #[])] ++ base) ++ fr4) := news_sub N11 (by
    intro p hp
    rw [hbase] at hp
    (revert p hp; walk_at "s"))
  have hm4 : ∀ z o, (z, o) ∈ [(L + 1 + 1, o1), (L + 1, o2), (202, tabObj #[]), (148, tabObj #[])] → @LT.lt Nat _ z nt := fun z o hz => by
    simp only [List.mem_cons, List.not_mem_nil, or_false] at hz
    have h3 := lt_tail lt10.2.2
    rcases hz with h | h | h | h
    · rw [(Prod.mk.inj h).1]; exact lt10.2.1
    · rw [(Prod.mk.inj h).1]; exact lt10.1
    · rw [(Prod.mk.inj h).1]; exact h3 (202, tabObj #[]) (by walk_at "m")
    · rw [(Prod.mk.inj h).1]; exact h3 (148, tabObj #[]) (by walk_at "m")
  have hb202 : ∀ p ∈ base, p.1 ≠ 202 := fun p hp => by
    rw [hbase] at hp
    refine mem_c p hp ?_ fun hp => mem_c p hp ?_ fun hp => mem_c p hp ?_ fun hp => ?_; rotate_left 3; refine mem_a hp (fun hp => ?_) fun hp => ?_; rotate_left; refine mem_1 p hp ?_; rotate_right; rotate_right 3
    · exact Nat.ne_of_gt (hm4 202 (tabObj #[]) (by walk_at "m"))
    · exact hc2 (202, tabObj #[]) (by walk_at "m")
    · exact hc1 (202, tabObj #[]) (by walk_at "m")
    · exact hoA 202 (tabObj #[]) (by walk_at "m") p hp
    · show @Ne Nat _ _; decide
  have hsepB : Sep base fr4 := fun q hq p hp => by
    rw [hbase] at hq
    refine mem_c q hq ?_ fun hm => mem_c q hm ?_ fun hm => mem_c q hm ?_ fun hm => ?_; rotate_left 3; refine mem_a hm (fun hq => ?_) fun hm => ?_; rotate_left; refine mem_1 q hm ?_; rotate_right; rotate_right 3
    · exact Nat.ne_of_gt (lt_tail lt10.2.2 p (by walk_at "m"))
    · exact hsepA (L + 1, o2) (by walk_at "m") p hp
    · exact hsepA (L + 1 + 1, o1) (by walk_at "m") p hp
    · exact hsepA q (by walk_at "m") p hp
    · exact hsepA (148, tabObj #[]) (by walk_at "m") p hp
  have hAO : (Do, W.listOf os.toArray no) ∈ A := by
    rw [hA]
    refine mem_a hom (fun h => ?_) fun h => ?_
    · simp [h]
    · refine mem_e h (fun h => ?_) fun hm => ?_; rotate_left; refine mem_e hm (fun h => ?_) fun hm => ?_; rotate_left; refine mem_e hm (fun h => ?_) fun hm => ?_; rotate_left; refine mem_e hm (fun h => ?_) fun hm => ?_; rotate_left; refine mem_z hm fun h => ?_; rotate_right; rotate_right; rotate_right; rotate_right
      · simp [h]
      · have h := congrArg (fun z : Addr × Obj => z.2.data) h
        dsimp only at h
        rw [e1] at h; cases h
      · have h := congrArg (fun z : Addr × Obj => z.2.data) h
        dsimp only at h
        rw [e2] at h; cases h
      · have h := congrArg (fun z : Addr × Obj => z.2.data) h
        cases h
      · have h := congrArg (fun z : Addr × Obj => z.2.data) h
        cases h
  have hAV : (Dv, ov) ∈ A := by walk_at "m"
  have hbA : ∀ p ∈ A, p ∈ base := fun p hp => by walk_at "m"
  have hVA : ∀ k, k < 6 → VerdIs w A k (V k) := fun k hk => (hV k hk).mono fun p hp => by walk_at "m"
  refine Assign_ListComp_J F10 rfl (by with_unfolding_all rfl) (by with_unfolding_all rfl) (by decide) (by rfl) (by decide) (by rfl) (by rfl) ?_
  k_steps
  rename Fr _ _ _ _ => F13
  rename News _ _ _ _ => N13
  refine comp_list (s := ⟨_, _, _, _, _⟩) (D := Do) (ys := os) (k := no) rfl F13 N13 (by have hz := hbA _ hAO; walk_at "m") (by rfl) (by rfl) (by rw [hol]; decide)
    (fun i zs nx => ∃ (exs R fr5 : List (Addr × Obj)), nx = exs ++ (R ++ base) ++ fr5 ∧ (∀ p ∈ exs ++ R, ∀ q ∈ base, p.1 ≠ q.1) ∧ TI.SameUp fr4 fr5 ∧ Sep (exs ++ R) fr5 ∧ ((i = 0 ∧ exs = [] ∧ R = [(202, tabObj #[])] ∧ zs = []) ∨ ∃ c', TR1 c' R ∧ zs.length = i ∧ ∀ j k, j < i → ks[j]? = some k → ∃ rx, zs[j]? = some (Value.ref rx) ∧ RuleAt w exs c' rx k (V k) nt))
    (fun i zs nx ⟨exs, R, fr5, e, _⟩ => by have hz := hbA _ hAO; walk_at "m") (Y3 [] [(202, tabObj #[])] fr4 ⟨rfl, fun p hp q hq => by rw [show p = (202, tabObj #[]) by simpa using hp]; exact Ne.symm (hb202 q hq), TI.SameUp.refl _, fun q hq p hp => by rw [show q = (202, tabObj #[]) by simpa using hq]; exact hsepA (202, tabObj #[]) (by walk_at "m") p hp, .inl ⟨rfl, rfl, rfl, rfl⟩⟩) ?_ ?_
  · intro I hI h i zs C D2 oC m₂ news₁ own h₁ tk₁ X' hin y0 y1 hown hop hoff2 hia hCD hoC F14 N14; refine tests_none ?_; intro qY; refine X3_5 y0 ?_; clear y0; intro exs R fr5 z0 hxb hsu5 hsepX hJ; subst z0; refine X1_2 y1 ?_; clear y1; intro v hv1 hx2
    refine X2_3 (hks.at hv1) ?_; intro k tk7 hk hk6 z0; subst z0
    have hoN6 : (L + 1 + 1, oN) ∈ (C, oC) :: (D2, LCg.lst zs) :: (exs ++ (R ++ base) ++ fr5 ++ own) := by walk_at "m"
    have hoV6 : (L + 1, oV) ∈ (C, oC) :: (D2, LCg.lst zs) :: (exs ++ (R ++ base) ++ fr5 ++ own) := by walk_at "m"
    try clear F13
    try clear N13
    try clear N12
    try clear F10
    try clear N11
    try dsimp only
    k_steps
    rename Fr _ _ _ _ => F15
    rename News _ _ _ _ => N15
    refine worth_at (s := ⟨_, _, _, _, _⟩) (Heap.dictOf_iff.mpr ⟨ov, (N15 (Dv, ov) (by have hz := hbA _ hAV; walk_at "m")).1, hvk⟩) (verd_at k hk6) (fun tk9 => ?_)
    k_steps
    refine StopAt.go ?_
    rename Fr _ _ _ _ => F16
    rename News _ _ _ _ => N16
    have hIo : ∀ p ∈ own, p.1 = I := fun p hp => by
      have : p.1 ∈ [I] := by rw [← hown]; exact List.mem_map_of_mem hp
      exact List.mem_singleton.mp this
    have hofr : ∀ q ∈ own, ∀ p ∈ fr5, q.1 ≠ p.1 := fun q hq p hp => by
      rw [hIo q hq]
      exact fun z => (hoff2 p (by walk_at "m")).1 (by rw [← z]; simp)
    have hsep7 : Sep ((C, oC) :: (D2, LCg.lst zs) :: (exs ++ base ++ own)) fr5 := sep_cons (fun q hq => Ne.symm (hoff2 q (by walk_at "m")).2.1) (sep_cons (fun q hq => Ne.symm (hoff2 q (by walk_at "m")).2.2) (fun q hq p hp => by
      refine mem_a hq (fun hm => ?_) fun hq => ?_; refine mem_a hm (fun hq => ?_) fun hq => ?_
      · exact hsepX q (by walk_at "m") p hp
      · exact (hsepB.up hsu5) q hq p hp
      · exact hofr q hq p hp))
    have hsep8 : Sep (R ++ ((C, oC) :: (D2, LCg.lst zs) :: (exs ++ base ++ own))) fr5 := fun q hq p hp => by
      refine mem_a hq (fun hq => ?_) fun hq => ?_
      · exact hsepX q (by walk_at "m") p hp
      · exact hsep7 q hq p hp
    have N17 : News b L h₁ ((R ++ ((C, oC) :: (D2, LCg.lst zs) :: (exs ++ base ++ own))) ++ fr5) := news_sub N16 (by
      intro p hp
      (revert p hp; walk_at "s"))
    have hfr5 := hfr4.up hsu5
    have hrule : JSpec w b none 12 (.ref 207) [.str (kindS k) tk7, V k, .ref nt] [] (R ++ ((C, oC) :: (D2, LCg.lst zs) :: (exs ++ base ++ own))) (RulePost w k (V k) nt R ((C, oC) :: (D2, LCg.lst zs) :: (exs ++ base ++ own))) (fun _ _ => False) := by
      rcases hJ with ⟨rfl, rfl, rfl, rfl⟩ | ⟨c', ⟨oc', vs', t', rfl, hod, hvc⟩, _, _⟩
      · refine law_rule0 G fun p hp => ?_
        have h202 := hoff2 (202, tabObj #[]) (by walk_at "m")
        refine mem_c p hp ?_ fun hp => ?_
        · exact Ne.symm h202.2.1
        · refine mem_c p hp ?_ fun hp => ?_
          · exact Ne.symm h202.2.2
          · refine mem_a hp (fun hp => ?_) fun hp => ?_
            · exact hb202 p (by simpa using hp)
            · rw [hIo p hp]; exact fun z => h202.1 (by rw [← z]; simp)
      · exact law_rule1 G hod hvc
    refine hrule _ _ _ _ _ _ fr5 _ _ _ rfl rfl hfr5 F16 N17 hsep8 (by walk_at "o") (by walk_at "o") ?_ (by rintro _ _ _ _ _ _ _ ⟨⟩)
    intro v lg fr6 h8 tk8 y0 hsu6 hF6 F18 N18; refine X4_7 y0 ?_; clear y0; intro c' R' ex xr hT1 hsame hfirst z0 z1 hexo hrul; subst z0; subst z1
    have hsep9 := sep_fresh hsep8 hF6 hsu6
    have hRR : (i = 0 ∧ zs = [] ∧ ∀ p ∈ R', p.1 = 202 ∨ (p.1 = c' ∧ ∀ q ∈ (C, oC) :: (D2, LCg.lst zs) :: (exs ++ base ++ own), q.1 ≠ c')) ∨ (R' = R ∧ TR1 c' R) := by
      rcases hJ with ⟨h0, _, hR, hzz⟩ | ⟨c0, hT0, _⟩
      · refine .inl ⟨h0, hzz, fun p hp => ?_⟩
        refine X3_2 hT1 ?_; clear hT1; intro oc' vs' t' z0 _; subst z0
        have hne : ∀ q ∈ (C, oC) :: (D2, LCg.lst zs) :: (exs ++ base ++ own), q.1 ≠ c' := by
          rcases hfirst with ⟨c0, oc, vs, t, hR0, _⟩ | h
          · rw [hR] at hR0; cases hR0
          · exact h
        refine mem_c p hp ?_ fun hp => mem_1 p hp ?_
        · exact .inl rfl
        · exact .inr ⟨rfl, hne⟩
      · have := hsame c0 hT0
        exact .inr ⟨this.2, by rw [this.1]; exact hT0⟩
    have h202R : ∃ o, (202, o) ∈ R := by
      rcases hJ with ⟨_, _, rfl, _⟩ | ⟨c0, ⟨_, _, _, rfl, _⟩, _⟩
      · exact ⟨_, List.mem_cons_self⟩
      · exact ⟨_, List.mem_cons_self⟩
    refine X1_1 h202R ?_; clear h202R; intro o202 h202R
    refine (Y3 h8 tk8 ((ex ++ exs) ++ (R' ++ base) ++ fr6) ⟨rfl, F18, news_sub N18 ?_, ?_, (Y3 (ex ++ exs) R' fr6 ⟨rfl, ?_, hsu5.trans hsu6, ?_, .inr ⟨c', hT1, ?_, ?_⟩⟩)⟩)
    · intro p hp
      (revert p hp; walk_at "s")
    · have hIm : ∃ o, (I, o) ∈ own := by
        cases own with
        | nil => cases hown
        | cons q r =>
          obtain ⟨a, o⟩ := q
          have : a = I := (List.cons.inj hown).1
          exact ⟨o, by rw [this]; exact List.mem_cons_self⟩
      refine X1_1 hIm ?_; clear hIm; intro oI hIm
      have hq : ∀ p ∈ (ex ++ exs) ++ (R' ++ base), p.1 ∉ [I] ∧ p.1 ≠ C ∧ p.1 ≠ D2 := by
        intro p hp
        refine mem_a hp (fun hp => ?_) fun hp => ?_; refine mem_a hp (fun hp => ?_) fun hp => ?_; rotate_left 2; refine mem_a hp (fun hp => ?_) fun hp => ?_; rotate_right 2
        · refine ⟨fun z => hexo p hp (I, oI) (by walk_at "m") (List.mem_singleton.mp z), hexo p hp (C, oC) (by walk_at "m"), hexo p hp (D2, LCg.lst zs) (by walk_at "m")⟩
        · exact hoff2 p (by walk_at "m")
        · rcases hRR with ⟨_, _, h⟩ | ⟨rfl, _⟩
          · rcases h p hp with e | ⟨e, h2⟩
            · rw [e]; exact hoff2 (202, o202) (by walk_at "m")
            · rw [e]
              exact ⟨fun z => h2 (I, oI) (by walk_at "m") (List.mem_singleton.mp z).symm, Ne.symm (h2 (C, oC) (by walk_at "m")), Ne.symm (h2 (D2, LCg.lst zs) (by walk_at "m"))⟩
          · exact hoff2 p (by walk_at "m")
        · exact hoff2 p (by walk_at "m")
      intro p hp
      refine mem_a hp (fun hp => ?_) fun hp => ?_
      · exact hq p hp
      · exact up_off (P := fun a => a ∉ [I] ∧ a ≠ C ∧ a ≠ D2) hsu6 hoff2 p (List.mem_append_right _ hp)
    · intro p hp q hq
      refine mem_a hp (fun hp => ?_) fun hp => ?_; refine mem_a hp (fun hp => ?_) fun hp => ?_
      · exact hexo p hp q (by walk_at "m")
      · exact hxb p (by walk_at "m") q hq
      · rcases hRR with ⟨_, _, h⟩ | ⟨rfl, _⟩
        · rcases h p hp with e | ⟨e, h2⟩
          · rw [e]; exact Ne.symm (hb202 q hq)
          · rw [e]; exact Ne.symm (h2 q (by walk_at "m"))
        · exact hxb p (by walk_at "m") q hq
    · intro q hq p hp
      refine mem_a hq (fun hm => ?_) fun hq => ?_; refine mem_a hm (fun hq => ?_) fun hq => ?_
      · exact hsep9 q (by walk_at "m") p hp
      · exact hsep9 q (by walk_at "m") p hp
      · exact hsep9 q (by walk_at "m") p hp
    · rcases hJ with ⟨h0, _, _, hzz⟩ | ⟨_, _, hz2, _⟩
      · rw [h0, hzz]; rfl
      · rw [List.length_append, hz2]; rfl
    · intro j k' hj hkj
      rcases Nat.lt_or_ge j i with hji | hji
      · rcases hJ with ⟨h0, _⟩ | ⟨c0, hT0, hz2, hall⟩
        · lia
        · refine X1_2 (hall j k' hji hkj) ?_; intro rx y1 y2
          have := (hsame c0 hT0).1
          refine ⟨rx, by rw [List.getElem?_append_left (by walk_at "o")]; exact y1, ?_⟩
          rw [this]
          exact y2.mono fun p hp => List.mem_append_right _ hp
      · have hji2 : j = i := by lia
        subst hji2
        rw [hk] at hkj
        cases hkj
        have hzl : zs.length = j := by
          rcases hJ with ⟨h0, _, _, hzz⟩ | ⟨_, _, hz2, _⟩
          · rw [h0, hzz]; rfl
          · exact hz2
        refine ⟨xr, by rw [← hzl]; simp, hrul.mono fun p hp => List.mem_append_left _ hp⟩
  · intro h rs nx y0; refine X3_5 y0 ?_; clear y0; intro exs R fr5 z0 hxb hsu5 hsepX hJ; subst z0
    intro Dr h9 tk9 F19 N19 hDr
    obtain ⟨c', hT1, hrl, hrul⟩ : ∃ c', TR1 c' R ∧ rs.length = os.length ∧ ∀ j k, j < os.length → ks[j]? = some k → ∃ rx, rs[j]? = some (Value.ref rx) ∧ RuleAt w exs c' rx k (V k) nt := by
      rcases hJ with ⟨h0, _⟩ | h
      · lia
      · exact h
    have hfr5 := hfr4.up hsu5
    try dsimp only
    try clear F13
    try clear N13
    try clear N12
    try clear F10
    try clear N11
    k_steps
    refine StopAt.go ?_
    rename Fr _ _ _ _ => F20
    rename News _ _ _ _ => N20
    have hsep10 : Sep ((Dr, W.listOf rs.toArray rs.length) :: (exs ++ (R ++ base))) fr5 := sep_cons (fun q hq => Ne.symm (hDr q (List.mem_append_right _ hq))) (fun q hq p hp => by
      refine mem_a hq (fun hq => ?_) fun hm => ?_; rotate_left; refine mem_a hm (fun hq => ?_) fun hq => ?_; rotate_right
      · exact hsepX q (by walk_at "m") p hp
      · exact hsepX q (by walk_at "m") p hp
      · exact (hsepB.up hsu5) q hq p hp)
    have hrs6 : rs.length = 6 := by rw [hrl, hol]
    refine law_record G (hd := none) (news := (Dr, W.listOf rs.toArray rs.length) :: (exs ++ (R ++ base))) List.mem_cons_self (by walk_at "o") _ _ _ _ _ _ fr5 _ _ _ rfl rfl hfr5 F20 N20 hsep10 (by walk_at "o") (by walk_at "o") ?_ (by rintro _ _ _ _ _ _ _ ⟨⟩)
    intro v lg fr6 h10 tk10 y0 hsu6 hF6 F21 N21; refine X9_6 y0 ?_; clear y0; intro xe dx u l s1 s2 s3 s4 nl z0 z1 hlt1 hlt2 hlt3 hlt4; subst z0; subst z1
    try clear N20
    try clear F20
    try clear N19
    try clear F19
    have hsep11 := sep_fresh hsep10 hF6 hsu6
    have hfr6 := hfr5.up hsu6
    obtain ⟨nw, hnw⟩ : ∃ nw : List (Addr × Obj), nw = (l, W.listOf rs.toArray nl) :: (u, W.listOf #[] 0) :: (xe, instObj 52 dx) :: (dx, dictOf (entD w.params u l s1 s2 s3 s4) 4) :: (Dr, W.listOf rs.toArray rs.length) :: (exs ++ (R ++ (L + 1, oV) :: (L + 1 + 1, oN) :: A)) := ⟨_, rfl⟩
    have N22 : News b L h10 (((nt, W.listOf #[] 0) :: (nw ++ [(148, tabObj #[])])) ++ fr6) := news_sub N21 (by
      intro p hp
      rw [hnw] at hp
      rw [hbase]
      (revert p hp; walk_at "s"))
    have hsep12 : Sep ((nt, W.listOf #[] 0) :: (nw ++ [(148, tabObj #[])])) fr6 := fun q hq p hp => hsep11 q (by
      rw [hnw] at hq
      rw [hbase]
      (revert q hq; walk_at "s")) p hp
    have m148 : (148, tabObj #[]) ∈ base := by walk_at "m"
    have mnt : (nt, W.listOf #[] 0) ∈ base := by walk_at "m"
    have hz : ∀ z o, (z, o) ∈ base → (∀ p ∈ (L + 1, oV) :: (L + 1 + 1, oN) :: A, p.1 ≠ z) → ∀ p ∈ nw, p.1 ≠ z := fun z o hzb hzA p hp => by
      have hld := hlt1 (z, o) (by walk_at "m")
      rw [hnw] at hp
      simp only [List.mem_append, List.mem_cons] at hp
      rcases hp with rfl | rfl | rfl | rfl | rfl | hp | hp | hp
      · exact Nat.ne_of_gt (Nat.lt_trans hld (Nat.lt_trans hlt2 (Nat.lt_trans hlt3 hlt4)))
      · exact Nat.ne_of_gt (Nat.lt_trans hld (Nat.lt_trans hlt2 hlt3))
      · exact Nat.ne_of_gt (Nat.lt_trans hld hlt2)
      · exact Nat.ne_of_gt hld
      · exact Ne.symm (hDr (z, o) (by walk_at "m"))
      · exact hxb p (by walk_at "m") (z, o) hzb
      · exact hxb p (by walk_at "m") (z, o) hzb
      · exact hzA p (by simpa using hp)
    have hr148 : ∀ p ∈ nw, p.1 ≠ 148 := hz 148 _ m148 fun p hp => by
      refine mem_c p hp ?_ fun hp => mem_c p hp ?_ fun hp => ?_
      · exact hc2 (148, tabObj #[]) (by walk_at "m")
      · exact hc1 (148, tabObj #[]) (by walk_at "m")
      · exact hoA 148 (tabObj #[]) (by walk_at "m") p hp
    have hrnt : ∀ p ∈ nw, p.1 ≠ nt := hz nt _ mnt fun p hp => by
      refine mem_c p hp ?_ fun hp => mem_c p hp ?_ fun hp => ?_
      · exact Nat.ne_of_lt lt10.1
      · exact Nat.ne_of_lt lt10.2.1
      · exact Nat.ne_of_lt (lt_tail lt10.2.2 p (by walk_at "m"))
    have hnt148 : nt ≠ 148 := Nat.ne_of_gt (hm4 148 (tabObj #[]) (by walk_at "m"))
    refine X3_3 hT1 ?_; clear hT1; intro oc' vs' t' hReq hod hvc
    have hcn : (c', oc') ∈ nw := by walk_at "m"
    have hwA : ∀ p ∈ A, p ∈ nw := fun p hp => by walk_at "m"
    have hwX : ∀ p ∈ exs, p ∈ nw := fun p hp => by walk_at "m"
    have hVn : ∀ k, k < 6 → VerdIs w nw k (V k) := fun k hk => (hVA k hk).mono hwA
    have m22 : (L + 1 + 1, oN) ∈ (nt, W.listOf #[] 0) :: (nw ++ [(148, tabObj #[])]) ++ fr6 := by walk_at "m"
    k_steps
    refine StopAt.go ?_
    rename Fr _ _ _ _ => F23
    rename News _ _ _ _ => N23
    refine tok_call G Z ZK (dx := dx) (u := u) (l := l) (nl := nl) (s1 := s1) (s2 := s2) (s3 := s3) (s4 := s4) hx hx13 hr148 hnt148 hrnt (by walk_at "m") (by walk_at "m") (by rw [hnw]; exact List.mem_cons_self) hks hol hrl hrul hwX hcn hod hvc hVn _ _ _ _ _ _ fr6 _ _ _ rfl rfl hfr6 F23 N23 hsep12 (by walk_at "o") (by walk_at "o") ?_ (by rintro _ _ _ _ _ _ _ ⟨⟩)
    intro v lg fr7 h11 tk11 y0 hsu7 hF7 F24 N24; refine X7_8 y0 ?_; clear y0; intro B T' nts nn' D nd tvs hT2 hgB z0 z1 htoks hend hBn hBD; subst z0; subst z1
    try clear F23
    try clear N23
    try clear N22
    try clear N21
    try clear F21
    have hsep13 := sep_fresh hsep12 hF7 hsu7
    have hfr7 := hfr6.up hsu7
    obtain ⟨all1, hall1⟩ : ∃ a : List (Addr × Obj), a = (nt, W.listOf nts.toArray nn') :: (D, W.listOf tvs.toArray nd) :: (B ++ T') := ⟨_, rfl⟩
    have N25 := news_eq (nx' := all1 ++ fr7) N24 (by rw [hall1])
    clear N24
    have mB : ∀ p ∈ B, p ∈ all1 := fun p hp => by walk_at "m"
    have mnw : ∀ p ∈ nw, p ∈ all1 := fun p hp => mB p (hgB.sub p hp)
    have mal : ∀ p ∈ nw, p ∈ all1 ++ fr7 := fun p hp => List.mem_append_left _ (mnw p hp)
    have a1 : (xe, instObj 52 dx) ∈ all1 ++ fr7 := mal _ (by walk_at "m")
    have a2 : (dx, dictOf (entD w.params u l s1 s2 s3 s4) 4) ∈ all1 ++ fr7 := mal _ (by walk_at "m")
    have a3 : (l, W.listOf rs.toArray nl) ∈ all1 ++ fr7 := mal _ (by walk_at "m")
    have a4 : (Dr, W.listOf rs.toArray rs.length) ∈ all1 ++ fr7 := mal _ (by walk_at "m")
    have a5 : (L + 1, oV) ∈ all1 ++ fr7 := mal _ (by walk_at "m")
    clear m22
    k_steps
    rename Fr _ _ _ _ => F26
    rename News _ _ _ _ => N26
    rotate_left
    · exfalso; lia
    refine ListComp_J F26 (by with_unfolding_all rfl) (by decide) (by rfl) (by decide) ?_
    k_steps
    rename Fr _ _ _ _ => F27
    rename News _ _ _ _ => N27
    have q1 : (Do, W.listOf os.toArray no) ∈ all1 := mnw _ (hwA _ hAO)
    have q2 : (Dv, ov) ∈ all1 := mnw _ (hwA _ hAV)
    refine comp_zip (s := ⟨_, _, _, _, _⟩) (l1 := l) (l2 := Dr) (xs := rs) (ys := rs) (k1 := nl) (k2 := rs.length) (n := 6) rfl F27 N27 a3 a4 (by rfl) (by rfl) (by decide) (by rfl) hrs6 hrs6 (by decide)
      (fun i zs nx => nx = all1 ++ fr7 ∧ zs = List.replicate i (.bool true)) (fun i zs nx ⟨e, _⟩ => by rw [e]; exact ⟨a3, a4⟩) ⟨rfl, rfl⟩ ?_ ?_
    · intro I hI h i zs C D2 oC m₂ news₁ own h₁ tk₁ X' hin y0 y1 hown hop hoff2 hia hCD hoC F28 N28; refine tests_none ?_; intro qY; refine X0_2 y0 ?_; clear y0; intro z0 z1; subst z0; subst z1; refine X2_4 y1 ?_; clear y1; intro v y hv1 hu1 hxa hxb
      obtain rfl : v = y := Option.some.inj (hv1.symm.trans hu1)
      have hik : i < ks.length := by rw [h6]; exact hin
      refine X1_2 (hrul i ks[i] (by rw [hol]; exact hin) (List.getElem?_eq_getElem hik)) ?_; intro rx y1 _
      obtain rfl : v = .ref rx := Option.some.inj (hv1.symm.trans y1)
      try clear F27
      try clear N27
      try clear F26
      try clear N26
      try dsimp only
      k_steps
      rename Fr _ _ _ _ => F29
      rename News _ _ _ _ => N29
      exact (Y3 _ _ (all1 ++ fr7) ⟨rfl, F29, N29, hoff2, rfl, by rw [List.replicate_succ']⟩)
    · intro h zs nx y0; refine X0_2 y0 ?_; clear y0; intro z0 z1; subst z0; subst z1
      intro Da h20 tk20 F30 N30 hDa
      try clear F27
      try clear N27
      try clear F26
      try clear N26
      try dsimp only
      have hoV7 : (L + 1, oV) ∈ (Da, LCg.lst (List.replicate 6 (.bool true))) :: (all1 ++ fr7) := List.mem_cons_of_mem _ a5
      clear a5
      k_steps
      refine StopAt.go ?_
      rename Fr _ _ _ _ => F31
      rename News _ _ _ _ => N31
      obtain ⟨all2, hall2⟩ : ∃ a : List (Addr × Obj), a = (Da, LCg.lst (List.replicate 6 (.bool true))) :: all1 := ⟨_, rfl⟩
      have N32 := news_eq (nx' := all2 ++ fr7) N31 (by rw [hall2]; rfl)
      have m12 : ∀ p ∈ all1, p ∈ all2 := fun p hp => by rw [hall2]; exact List.mem_cons_of_mem _ hp
      have hsep14 : Sep all2 fr7 := by
        rw [hall2]
        exact sep_cons (fun q hq => Ne.symm (hDa q (List.mem_append_right _ hq))) (by rw [hall1]; exact hsep13)
      have hV2 : ∀ k, k < 6 → VerdIs w all2 k (V k) := fun k hk => (hVn k hk).mono fun p hp => m12 p (mnw p hp)
      have hDue := law_due G Z ZK PL (V := V) (tv := fun k => tvOf (V k)) (x := x) (ks := ks) (ys := os) (t1 := tx) (Do := Do) (Dv := Dv) (no := no) (ov := ov) (news := all2) hx hx13 (m12 _ q1) hks h6 (m12 _ q2) hvk hV2 (fun k hk => truth_verd hk (hV2 k hk))
      refine hDue _ _ _ _ _ _ fr7 _ _ _ rfl rfl hfr7 F31 N32 hsep14 (by walk_at "o") (by walk_at "o") ?_ (by rintro _ _ _ _ _ _ _ ⟨⟩)
      intro v lg fr8 h22 tk22 y0 hsu8 hF8 F33 N33; refine X4_6 y0 ?_; clear y0; intro B2 D9 nd9 vs9 hg9 z0 hBD9 z1 htoks9 hend9; subst z0; subst z1
      try clear N30
      try clear F30
      try clear N31
      try clear F31
      try clear N32
      have hmA : ∀ p ∈ all1, p ∈ (D9, W.listOf vs9.toArray nd9) :: B2 := fun p hp => List.mem_cons_of_mem _ (hg9.sub p (m12 p hp))
      have hHas : Has h22 ((D9, W.listOf vs9.toArray nd9) :: B2) := fun p hp => (N33 p (List.mem_append_left _ hp)).1
      refine toks_eq (s := ⟨_, _, _, _, _⟩) (Z := Z) (V := V) (tv := fun k => tvOf (V k)) (ks := ks) (x := x) hHas hHas (by show un + 4 < cLine; exact Nat.lt_of_le_of_lt (Nat.add_le_add_left (by decide) un) hun) (hmA (D, W.listOf tvs.toArray nd) (by walk_at "m")) List.mem_cons_self (fun j v hj => ⟨(htoks j v hj).1, (htoks j v hj).2.mono fun p hp => hmA p (mB p hp)⟩) (fun j v hj => ⟨(htoks9 j v hj).1, (htoks9 j v hj).2.mono fun p hp => List.mem_cons_of_mem _ hp⟩) hend hend9 ?_
      k_steps
      rename Fr _ _ _ _ => F34
      rename News _ _ _ _ => N34
      obtain ⟨z1, hz1⟩ : ∃ z, (148, tabObj z) ∈ T' := by
        rcases hT2.1 with e | ⟨c', oc', vs', t', e, _⟩
        · rw [e]; exact ⟨_, List.mem_cons_self⟩
        · rw [e]; exact ⟨_, List.mem_cons_self⟩
      have hz2 : (202, tabObj #[rawInt 163, rawInt 4, Value.ref c']) ∈ all1 := mnw _ (by walk_at "m")
      have hz3 : (148, tabObj z1) ∈ all1 := by walk_at "m"
      exact ret _ [(148, tabObj z1), (202, tabObj #[rawInt 163, rawInt 4, Value.ref c'])] fr8 _ _ _ _ ⟨rfl, (Y2 z1 (#[rawInt 163, rawInt 4, Value.ref c']) ⟨List.mem_cons_self, List.mem_cons_of_mem _ List.mem_cons_self⟩)⟩ (hsu1.trans (hsu2.trans (hsu3.trans (hsu4.trans (hsu5.trans (hsu6.trans (hsu7.trans hsu8)))))))
        (fun p hp => .inl (by
          refine mem_c p hp ?_ fun hp => ?_
          · simp
          · rw [List.mem_singleton.mp hp]; simp))
        F34 (news_sub N34 fun p hp => by
          refine mem_a hp (fun hp => ?_) fun hp => ?_
          · refine List.mem_append_left _ (hmA p ?_)
            refine mem_c p hp ?_ fun hp => ?_
            · exact hz3
            · rw [List.mem_singleton.mp hp]; exact hz2
          · exact List.mem_append_right _ hp)

end
section
open PySem PySem.W PyProof.Rows PySem.Calls PySem.Spec
set_option linter.unusedSimpArgs false
theorem tw_congr {p q : Nat → Bool} : ∀ {l : List Nat}, (∀ a ∈ l, p a = q a) → l.takeWhile p = l.takeWhile q
  | [], _ => rfl
  | a :: l, h => by
    rw [List.takeWhile_cons, List.takeWhile_cons, h a List.mem_cons_self, tw_congr fun b hb => h b (List.mem_cons_of_mem _ hb)]
theorem tw_dw {p : Nat → Bool} : ∀ l : List Nat, (l.takeWhile p).length + (l.dropWhile p).length = l.length
  | [] => rfl
  | a :: l => by
    have := tw_dw (p := p) l
    rw [List.takeWhile_cons, List.dropWhile_cons]
    split <;> simp_all <;> lia
theorem dw_congr {p q : Nat → Bool} : ∀ {l : List Nat}, (∀ a ∈ l, p a = q a) → l.dropWhile p = l.dropWhile q
  | [], _ => rfl
  | a :: l, h => by
    rw [List.dropWhile_cons, List.dropWhile_cons, h a List.mem_cons_self, dw_congr fun b hb => h b (List.mem_cons_of_mem _ hb)]
theorem split_head (c : Nat) : ∀ x : List Nat, ∃ r, splitL c x = x.takeWhile (fun a => a != c) :: r ∧ ((r = [] ∧ x.takeWhile (fun a => a != c) = x) ∨ ∃ y, x = x.takeWhile (fun a => a != c) ++ c :: y ∧ r = splitL c y)
  | [] => ⟨[], rfl, .inl ⟨rfl, rfl⟩⟩
  | a :: x => by
    by_cases h : a = c
    · subst h
      refine ⟨splitL a x, by simp [splitL], .inr ⟨x, by simp, rfl⟩⟩
    · refine X1_2 (split_head c x) ?_; intro r h1 h2
      have hb : (a != c) = true := by simpa using h
      refine ⟨r, ?_, ?_⟩
      · unfold splitL
        rw [if_neg h, h1, List.takeWhile_cons, hb]
        rfl
      · rw [List.takeWhile_cons, hb]
        rcases h2 with ⟨h2, h3⟩ | ⟨y, h2, h3⟩
        · exact .inl ⟨h2, by simp [h3]⟩
        · exact .inr ⟨y, by simp only [if_true, List.cons_append]; rw [← h2], h3⟩
theorem ill_tw (l : List Nat) : (l.takeWhile (fun a => !ill a)).length ≤ (l.takeWhile (fun a => a != 10)).length ∧ l.takeWhile (fun a => !ill a) = (l.takeWhile (fun a => a != 10)).takeWhile (fun a => !ill a) := by
  induction l with
  | nil => simp
  | cons a l ih =>
    by_cases h : ill a = true
    · rw [List.takeWhile_cons]
      simp only [h, Bool.not_true, Bool.false_eq_true, if_false]
      refine ⟨Nat.zero_le _, ?_⟩
      rw [List.takeWhile_cons (p := fun a => a != 10)]
      split
      · rw [List.takeWhile_cons]; simp [h]
      · rfl
    · have h10 : (a != 10) = true := by
        unfold ill at h
        simp only [Bool.or_eq_true, beq_iff_eq, not_or] at h
        simpa using h.1
      have hi : (!ill a) = true := by simpa using h
      rw [List.takeWhile_cons, List.takeWhile_cons (p := fun a => a != 10), h10, hi]
      simp only [if_true, List.length_cons, Nat.add_le_add_iff_right]
      refine ⟨ih.1, ?_⟩
      rw [List.takeWhile_cons, hi]
      simp only [if_true]
      rw [← ih.2]
theorem str_app3 (a c d : Str) : a ++ c ++ d = a ++ (c ++ d) := Str.append_assoc a c d
theorem e_app (a : Str) : Str.empty ++ a = a := Str.append_left_empty (by decide)
theorem errS_eq {x : List Nat} {i : Nat} {m : Str} (hi : i < x.length) : errS x i m = m ++ Str.ofString " (at line " ++ Str.ofString (toString (((x.take i).count 10 : Nat) + 1 : Int)) ++ Str.ofString ", column " ++ Str.ofString (toString ((back 10 (x.take i) : Nat) + 1 : Int)) ++ Str.ofString ")" := by
  have e1 : Str.ofString " (at line " = Str.ofString " (at " ++ Str.ofString "line " := by decide
  unfold errS coordS
  rw [if_neg (by lia), e_app, e_app, e1]
  simp only [str_app3]
theorem errS_end {x : List Nat} {i : Nat} {m : Str} (hi : x.length ≤ i) : errS x i m = m ++ Str.ofString " (at " ++ Str.ofString "end of document" ++ Str.ofString ")" := by
  unfold errS coordS
  rw [if_pos hi, e_app]
theorem fault_eq {x : List Nat} {i line col m : Nat} {c : List Nat} (hm : m < c.length) (hx : ∀ j, j ≤ m → x[i + j]? = c[j]?) (hl : (x.take (i + m)).count 10 + 1 = line) (hb : back 10 (x.take (i + m)) + 1 = col + m) (htw : (c.takeWhile (fun a => !ill a)).length = m) (hlt : i + m < x.length) :
    errS x (i + m) (Str.empty ++ Str.ofString "Found invalid character " ++ reprC ((x[i + m]?).getD 0)) = faultV c line col := by
  unfold faultV
  dsimp only
  rw [htw, if_pos hm, errS_eq hlt, e_app, hx m (Nat.le_refl _)]
  have e1 : (((x.take (i + m)).count 10 : Nat) + 1 : Int) = (line : Int) := by exact ar31 hl
  have e2 : ((back 10 (x.take (i + m)) : Nat) + 1 : Int) = ((col + m : Nat) : Int) := by exact ar31 hb
  rw [e1, e2]
theorem fault_len {c : List Nat} {line col : Nat} : (faultV c line col).length ≠ 0 ↔ (c.takeWhile (fun a => !ill a)).length < c.length := by
  unfold faultV
  dsimp only
  split
  · rename_i h
    refine ⟨fun _ => h, fun _ => ?_⟩
    have : (Str.ofString "Found invalid character ").length = 24 := by decide
    simp only [Str.length_append]
    lia
  · rename_i h
    exact ⟨fun h2 => absurd (by decide) h2, fun h2 => absurd h2 h⟩
theorem tw_tw {p q : Nat → Bool} : ∀ l : List Nat, ((l.takeWhile q).takeWhile p).length = min (l.takeWhile p).length (l.takeWhile q).length
  | [] => rfl
  | a :: l => by
    have ih := tw_tw (p := p) (q := q) l
    rw [List.takeWhile_cons (p := q)]
    by_cases hq : q a = true
    · rw [if_pos hq, List.takeWhile_cons, List.takeWhile_cons (p := p)]
      by_cases hp : p a = true
      · rw [if_pos hp, if_pos hp]; simp only [List.length_cons, ih]; exact (Nat.succ_min_succ _ _).symm
      · rw [if_neg hp, if_neg hp]; simp
    · rw [if_neg hq]; simp
theorem tw_get {q : Nat → Bool} : ∀ {l : List Nat} {j : Nat}, j < (l.takeWhile q).length → (l.takeWhile q)[j]? = l[j]?
  | [], j, h => by simp at h
  | a :: l, j, h => by
    rw [List.takeWhile_cons] at h ⊢
    split at h
    · rename_i hq
      rw [if_pos hq]
      cases j with
      | zero => rfl
      | succ j => simpa using tw_get (l := l) (j := j) (by simpa using h)
    · simp at h
theorem until_eq {p : Nat → Bool} {x : List Nat} {i s line col : Nat} {eof : Bool} (hi : i ≤ x.length) (hp : ∀ a ∈ x, p a = ill a) (he : eof = true → i + ((x.drop i).takeWhile (fun a => a != s)).length ≠ x.length)
    (hl : ∀ m, m = ((x.drop i).takeWhile (fun a => !ill a)).length → m < ((x.drop i).takeWhile (fun a => a != s)).length → (x.take (i + m)).count 10 + 1 = line ∧ back 10 (x.take (i + m)) + 1 = col + m) :
    untilV p x i s eof = if (faultV ((x.drop i).takeWhile (fun a => a != s)) line col).length ≠ 0 then .error (faultV ((x.drop i).takeWhile (fun a => a != s)) line col) else .ok (i + ((x.drop i).takeWhile (fun a => a != s)).length) := by
  have hpn : (x.drop i).takeWhile (fun a => !p a) = (x.drop i).takeWhile (fun a => !ill a) := tw_congr fun a ha => by rw [hp a (List.mem_of_mem_drop ha)]
  have htt := tw_tw (p := fun a => !ill a) (q := fun a => a != s) (x.drop i)
  unfold untilV till
  dsimp only
  rw [if_neg (fun h => he h.2 h.1), hpn]
  by_cases h : ((x.drop i).takeWhile (fun a => !ill a)).length < ((x.drop i).takeWhile (fun a => a != s)).length
  · have hm : (((x.drop i).takeWhile (fun a => a != s)).takeWhile (fun a => !ill a)).length = ((x.drop i).takeWhile (fun a => !ill a)).length := by rw [htt]; exact Nat.min_eq_left (Nat.le_of_lt h)
    have hlt : i + ((x.drop i).takeWhile (fun a => !ill a)).length < x.length := by
      have := (List.takeWhile_sublist (l := x.drop i) (fun a => a != s)).length_le
      rw [List.length_drop] at this
      exact ar5 (Nat.lt_of_lt_of_le h this)
    refine X0_2 (hl _ rfl h) ?_; intro l1 l2
    rw [if_pos (by exact Nat.add_lt_add_left h i), if_pos (fault_len.mpr (by exact Nat.lt_of_le_of_lt (Nat.le_of_eq hm) h))]
    congr 1
    exact fault_eq h (fun j hj => by rw [tw_get (by exact Nat.lt_of_le_of_lt hj h), List.getElem?_drop]) l1 l2 hm hlt
  · rw [if_neg (by exact fun q => h (Nat.lt_of_add_lt_add_left q)), if_neg (fun h2 => by have := fault_len.mp h2; exact ar29 htt h this)]
theorem back_self {l : List Nat} (h : (10 : Nat) ∉ l) : back 10 l = l.length := back_none h
theorem tw_not {q : Nat → Bool} : ∀ {l : List Nat}, ∀ a ∈ l.takeWhile q, q a = true
  | [], a, h => nomatch h
  | b :: l, a, h => by
    rw [List.takeWhile_cons] at h
    split at h
    · rename_i hq
      refine mem_c a h ?_ fun h => ?_
      · exact hq
      · exact tw_not a h
    · simp at h
theorem tw_take {q : Nat → Bool} : ∀ {l : List Nat} {m : Nat}, m ≤ (l.takeWhile q).length → ∀ a ∈ l.take m, q a = true
  | [], m, _, a, ha => by simp at ha
  | b :: l, 0, _, a, ha => by simp at ha
  | b :: l, m + 1, h, a, ha => by
    rw [List.takeWhile_cons] at h
    split at h
    · rename_i hq
      rw [List.take_succ_cons] at ha
      refine mem_c a ha ?_ fun ha => ?_
      · exact hq
      · exact tw_take (l := l) (m := m) (by simpa using h) a ha
    · simp at h
theorem line1 {a : Nat} {r : List Nat} {m : Nat} (ha : a ≠ 10) (hm : m = (r.takeWhile (fun a => !ill a)).length) (hle : m ≤ r.length) : ((a :: r).take (1 + m)).count 10 + 1 = 1 ∧ back 10 ((a :: r).take (1 + m)) + 1 = 2 + m := by
  have hn : (10 : Nat) ∉ (a :: r).take (1 + m) := by
    rw [Nat.add_comm, List.take_succ_cons]
    intro h
    refine mem_e h (fun h => ?_) fun h => ?_
    · exact ha h.symm
    · have := tw_take (q := fun a => !ill a) (Nat.le_of_eq hm) 10 h
      simp [ill] at this
  refine ⟨by rw [List.count_eq_zero_of_not_mem hn], ?_⟩
  rw [back_self hn, List.length_take]
  simp only [List.length_cons]
  exact ar32 hle
noncomputable def toE : Ans → Except Str Ans
  | .int n => .ok (.int n)
  | .tup n y => .ok (.tup n y)
  | .str m => .error m
theorem told1 (x : List Nat) : toldV 1 x = if x[0]? = some 35 then (if (faultV (((splitL 10 x).headD []).drop 1) 1 2).length ≠ 0 then .str (faultV (((splitL 10 x).headD []).drop 1) 1 2) else .int ((splitL 10 x).headD []).length) else .int 0 := rfl
theorem told3 (x : List Nat) : toldV 3 x = if x[0]? ≠ some 39 then .int 0 else
  if (splitL 39 x).length = 2 then .str (Str.ofString "Expected \"'\" (at end of document)") else
  if (faultV ((splitL 39 x).getD 1 []) 1 2).length ≠ 0 then .str (faultV ((splitL 39 x).getD 1 []) 1 2) else .tup (((splitL 39 x).getD 1 []).length + 2) ((splitL 39 x).getD 1 []) := rfl
theorem remark_is {p : Nat → Bool} {x : List Nat} (h1 : 1 ≤ x.length) (hp : ∀ a ∈ x, p a = ill a) :
    ofN (commentV p x 0) = toE (toldV 1 x) := by
  obtain ⟨a, r, rfl⟩ : ∃ a r, x = a :: r := by cases x with | nil => simp at h1 | cons a r => exact ⟨a, r, rfl⟩
  unfold commentV
  by_cases h : a = 35
  · subst h
    refine X1_2 (split_head 10 (35 :: r)) ?_; intro s hs _
    have hh : (splitL 10 (35 :: r)).headD [] = 35 :: r.takeWhile (fun a => a != 10) := by rw [hs]; rfl
    have hd : ((35 : Nat) :: r).drop 1 = r := rfl
    rw [if_pos (show (35 :: r)[0]? = some 35 from rfl), until_eq (line := 1) (col := 2) (by simp) hp (fun h => by cases h) (fun m hm hlt => by
      rw [hd] at hm hlt
      exact line1 (by decide) hm (by rw [hm]; exact (List.takeWhile_sublist _).length_le)), hd]
    rw [told1, if_pos (show (35 :: r)[0]? = some 35 from rfl), hh]
    show _ = toE (if (faultV (r.takeWhile (fun a => a != 10)) 1 2).length ≠ 0 then Ans.str (faultV (r.takeWhile (fun a => a != 10)) 1 2) else .int (35 :: r.takeWhile (fun a => a != 10)).length)
    by_cases hf : (faultV (r.takeWhile (fun a => a != 10)) 1 2).length ≠ 0
    · rw [if_pos hf, if_pos hf]; rfl
    · rw [if_neg hf, if_neg hf]
      show Except.ok (Ans.int _) = Except.ok (Ans.int _)
      rw [List.length_cons, Nat.zero_add, Nat.add_comm]
  · have hx : (a :: r)[0]? ≠ some 35 := by simpa using h
    rw [if_neg hx]
    rw [told1, if_neg hx]
    rfl
theorem take_tw {q : Nat → Bool} : ∀ l : List Nat, l.take (l.takeWhile q).length = l.takeWhile q
  | [] => rfl
  | a :: l => by
    rw [List.takeWhile_cons]
    split
    · rw [List.length_cons, List.take_succ_cons, take_tw l]
    · rfl
theorem split39 {r : List Nat} : (splitL 39 (39 :: r)) = [] :: splitL 39 r := by simp [splitL]
theorem literal_is {p : Nat → Bool} {x : List Nat} (h1 : 1 ≤ x.length) (hp : ∀ a ∈ x, p a = ill a) :
    (if x[0]? = some 39 then (match untilV p x 1 39 true with | .ok j => .ok (.tup (j + 1) ((x.take j).drop 1)) | .error m => .error m) else .ok (.int 0) : Except Str Ans) = toE (toldV 3 x) := by
  obtain ⟨a, r, rfl⟩ : ∃ a r, x = a :: r := by cases x with | nil => simp at h1 | cons a r => exact ⟨a, r, rfl⟩
  by_cases h : a = 39
  · subst h
    have hd : ((39 : Nat) :: r).drop 1 = r := rfl
    rw [if_pos (show (39 :: r)[0]? = some 39 from rfl)]
    rw [told3, if_neg (fun h => h (show (39 :: r)[0]? = some 39 from rfl))]
    refine X1_2 (split_head 39 r) ?_; intro s hs hs2
    rw [split39, hs]
    have hg : ([] :: r.takeWhile (fun a => a != 39) :: s).getD 1 [] = r.takeWhile (fun a => a != 39) := rfl
    rw [hg]
    rcases hs2 with ⟨rfl, hr⟩ | ⟨y, hr, rfl⟩
    · rw [if_pos (show ([] :: r.takeWhile (fun a => a != 39) :: ([] : List (List Nat))).length = 2 from rfl)]
      have ht : 1 + till 39 (39 :: r) 1 = (39 :: r).length := by
        unfold till
        rw [hd, hr, List.length_cons, Nat.add_comm]
      unfold untilV
      dsimp only
      rw [if_pos ⟨ht, rfl⟩]
      show Except.error _ = Except.error _
      rw [errS_end (Nat.le_refl _), e_app]
      congr 1
    · refine X2_1 (splitL_ne 39 y) ?_; intro q u hq
      have hne : ([] :: r.takeWhile (fun a => a != 39) :: splitL 39 y).length ≠ 2 := by rw [hq]; simp
      rw [if_neg hne]
      have hlen : (r.takeWhile (fun a => a != 39)).length < r.length := by
        have := congrArg List.length hr
        rw [List.length_append, List.length_cons] at this
        exact ar15 this.symm
      rw [until_eq (line := 1) (col := 2) (by simp) hp (fun _ => by rw [hd, List.length_cons]; exact ar30 hlen) (fun m hm hlt => by
        rw [hd] at hm hlt
        exact line1 (by decide) hm (by exact Nat.le_of_lt (Nat.lt_trans hlt hlen))), hd]
      by_cases hf : (faultV (r.takeWhile (fun a => a != 39)) 1 2).length ≠ 0
      · rw [if_pos hf, if_pos hf]; rfl
      · rw [if_neg hf, if_neg hf]
        show Except.ok (Ans.tup _ _) = Except.ok (Ans.tup _ _)
        congr 2
        · exact ar33
        · rw [Nat.add_comm 1, List.take_succ_cons, List.drop_succ_cons, List.drop_zero, take_tw]
  · have hx : (a :: r)[0]? ≠ some 39 := by simpa using h
    rw [if_neg hx]
    rw [told3, if_pos hx]
    rfl

end
section
open PySem PySem.W PyProof.Rows PySem.Calls PySem.Spec
set_option linter.unusedSimpArgs false
theorem back_app {c : Nat} {l m : List Nat} (h : c ∉ m) : back c (l ++ m) = m.length + back c l := by
  unfold back
  rw [List.reverse_append, List.takeWhile_append_of_pos (fun a ha => by
    have : a ∈ m := List.mem_reverse.mp ha
    simpa using fun z : a = c => h (z ▸ this)), List.length_append, List.length_reverse]
noncomputable def GapR (p q : Nat → Bool) (x : List Nat) (i : Nat) (r : Except Str Nat) : Prop := ∀ f, x.length - i + 2 ≤ f → gapV p q x f i = r
theorem tw_drop {q : Nat → Bool} {x : List Nat} {i a : Nat} (h : x[i]? = some a) (hq : q a = true) : i + ((x.drop i).takeWhile q).length = (i + 1) + ((x.drop (i + 1)).takeWhile q).length := by
  have hlt : i < x.length := (List.getElem?_eq_some_iff.mp h).1
  have e : x.drop i = a :: x.drop (i + 1) := by
    rw [List.drop_eq_getElem_cons hlt]
    rw [List.getElem?_eq_getElem hlt] at h
    rw [Option.some.inj h]
  rw [e, List.takeWhile_cons, if_pos hq, List.length_cons]
  lia
theorem GapR.step {p q : Nat → Bool} {x : List Nat} {i a : Nat} {r : Except Str Nat} (h : x[i]? = some a) (hq : q a = true) (hr : GapR p q x (i + 1) r) : GapR p q x i r := by
  intro f hf
  have hlt : i < x.length := (List.getElem?_eq_some_iff.mp h).1
  obtain ⟨g, rfl⟩ : ∃ g, f = g + 2 := ⟨f - 2, by exact ar43 hf⟩
  have hj := tw_drop h hq
  have h1 := hr (g + 2) (by exact ar34 hf)
  have h2 := hr (g + 1) (by exact ar35 hlt hf)
  cases hc : commentV p x ((i + 1) + ((x.drop (i + 1)).takeWhile q).length) with
  | error m =>
    rw [gap_err (by rw [hj]; exact hc), ← h1, gap_err hc]
  | ok k =>
    have hle : i + 1 ≤ k := by
      have htl : ((x.drop (i + 1)).takeWhile q).length ≤ (x.drop (i + 1)).length := (List.takeWhile_sublist _).length_le
      rw [List.length_drop] at htl
      have := commentV_le (by exact ar4 hlt htl) hc
      exact Nat.le_trans (Nat.le_add_right _ _) this.1
    rw [gap_ok (by rw [hj]; exact hc), if_neg (by lia)]
    rw [gap_ok hc] at h1
    by_cases hk : k = i + 1
    · subst hk
      exact h2
    · rw [if_neg hk] at h1; exact h1
theorem GapR.run {p q : Nat → Bool} {x : List Nat} {r : Except Str Nat} : ∀ {m i : Nat}, (∀ j, j < m → ∃ a, x[i + j]? = some a ∧ q a = true) → GapR p q x (i + m) r → GapR p q x i r
  | 0, i, _, hr => hr
  | m + 1, i, h, hr => by
    refine X1_2 (h 0 (by lia)) ?_; intro a h1 h2
    refine GapR.step h1 h2 (GapR.run (m := m) (fun j hj => ?_) ?_)
    · refine X1_2 (h (j + 1) (by exact Nat.succ_lt_succ hj)) ?_; intro b h3 h4
      exact ⟨b, by rw [← h3]; congr 1; lia, h4⟩
    · rw [show i + 1 + m = i + (m + 1) by lia]; exact hr
theorem tw_halt {q : Nat → Bool} {x : List Nat} {i : Nat} (h : ∀ a, x[i]? = some a → q a = false) : ((x.drop i).takeWhile q).length = 0 := by
  cases e : x.drop i with
  | nil => rfl
  | cons a r =>
    have : x[i]? = some a := by
      have := congrArg (fun l => l[0]?) e
      simpa using this
    rw [List.takeWhile_cons, h a this]
    rfl
theorem GapR.stop {p q : Nat → Bool} {x : List Nat} {i : Nat} (h : ∀ a, x[i]? = some a → q a = false) (h35 : x[i]? ≠ some 35) : GapR p q x i (.ok i) := by
  intro f hf
  obtain ⟨g, rfl⟩ : ∃ g, f = g + 1 := ⟨f - 1, by exact ar42 hf⟩
  have hc : commentV p x (i + ((x.drop i).takeWhile q).length) = .ok i := by
    rw [tw_halt h]
    unfold commentV
    rw [Nat.add_zero, if_neg h35]
  rw [gap_ok hc, if_pos rfl]
theorem GapR.fail {p q : Nat → Bool} {x : List Nat} {i : Nat} {m : Str} (hq : q 35 = false) (h35 : x[i]? = some 35) (hu : untilV p x (i + 1) 10 false = .error m) : GapR p q x i (.error m) := by
  intro f hf
  obtain ⟨g, rfl⟩ : ∃ g, f = g + 1 := ⟨f - 1, by exact ar42 hf⟩
  have hc : commentV p x (i + ((x.drop i).takeWhile q).length) = .error m := by
    rw [tw_halt fun a h => by rw [h35] at h; cases h; exact hq]
    unfold commentV
    rw [Nat.add_zero, if_pos h35, hu]
  rw [gap_err hc]
theorem GapR.over {p q : Nat → Bool} {x : List Nat} {i e : Nat} {r : Except Str Nat} (hq : q 35 = false) (h35 : x[i]? = some 35) (hu : untilV p x (i + 1) 10 false = .ok e) (hr : GapR p q x e r) : GapR p q x i r := by
  intro f hf
  have hlt : i < x.length := (List.getElem?_eq_some_iff.mp h35).1
  obtain ⟨g, rfl⟩ : ∃ g, f = g + 1 := ⟨f - 1, by exact ar42 hf⟩
  have he := untilV_le (by lia) hu
  have hc : commentV p x (i + ((x.drop i).takeWhile q).length) = .ok e := by
    rw [tw_halt fun a h => by rw [h35] at h; cases h; exact hq]
    unfold commentV
    rw [Nat.add_zero, if_pos h35, hu]
  rw [gap_ok hc, if_neg (by lia)]
  exact hr g (by exact ar36 hlt hf he.1)
theorem tw_all {q : Nat → Bool} : ∀ {l : List Nat}, (∀ a ∈ l, q a = true) → l.takeWhile q = l
  | [], _ => rfl
  | a :: l, h => by rw [List.takeWhile_cons, if_pos (h a List.mem_cons_self), tw_all fun b hb => h b (List.mem_cons_of_mem _ hb)]
theorem dw_drop {q : Nat → Bool} : ∀ l : List Nat, l.dropWhile q = l.drop (l.takeWhile q).length
  | [] => rfl
  | a :: l => by
    rw [List.dropWhile_cons, List.takeWhile_cons]
    split
    · rw [List.length_cons, List.drop_succ_cons]; exact dw_drop l
    · rfl
theorem dw_head {q : Nat → Bool} : ∀ {l : List Nat} {a : Nat} {r : List Nat}, l.dropWhile q = a :: r → q a = false
  | [], a, r, h => by cases h
  | b :: l, a, r, h => by
    rw [List.dropWhile_cons] at h
    split at h
    · exact dw_head h
    · rename_i hb
      cases h
      simpa using hb
theorem gap_line {p q : Nat → Bool} {x : List Nat} (hp : ∀ a ∈ x, p a = ill a) (hq : ∀ a ∈ x, q a = (a == 32 || a == 9 || a == 10)) :
    ∀ (n st k : Nat), x.length - st = n → st ≤ x.length → k = (x.take st).count 10 → back 10 (x.take st) = 0 → ∃ r, GapR p q x st r ∧ ofN r = toE (gapGo (splitL 10 (x.drop st)) k st) := by
  intro n
  induction n using Nat.strongRecOn with
  | ind n ih =>
    intro st k hn hst hk hb
    refine X1_2 (split_head 10 (x.drop st)) ?_; intro s hs hs2
    obtain ⟨l, hl⟩ : ∃ l, l = (x.drop st).takeWhile (fun a => a != 10) := ⟨_, rfl⟩
    rw [← hl] at hs hs2
    have hl10 : ∀ a ∈ l, a ≠ 10 := fun a ha => by
      rw [hl] at ha
      simpa using tw_not a ha
    have hxl : ∀ j, j < l.length → x[st + j]? = l[j]? := fun j hj => by
      rw [hl] at hj ⊢
      rw [tw_get hj, List.getElem?_drop]
    have hlx : st + l.length ≤ x.length := by
      have := (List.takeWhile_sublist (l := x.drop st) (fun a => a != 10)).length_le
      rw [List.length_drop, ← hl] at this
      exact ar4 hst this
    obtain ⟨B, hB⟩ : ∃ B, B = l.takeWhile [32, 9].contains := ⟨_, rfl⟩
    have hBl := tw_dw (p := [32, 9].contains) l
    rw [← hB] at hBl
    have hbl : l.length - (l.dropWhile [32, 9].contains).length = B.length := by exact (ar39 hBl).symm
    have hrun : ∀ j, j < B.length → ∃ a, x[st + j]? = some a ∧ q a = true := fun j hj => by
      have h1 : l[j]? = some B[j] := by
        have e1 := tw_get (q := [32, 9].contains) (l := l) (j := j) (by rw [← hB]; exact hj)
        rw [← hB] at e1
        rw [← e1]
        exact List.getElem?_eq_getElem hj
      have h2 : x[st + j]? = some B[j] := by rw [hxl j (by exact Nat.lt_of_lt_of_le hj (ar45 hBl)), h1]
      have h3 : [32, 9].contains B[j] = true := tw_not (q := [32, 9].contains) (l := l) B[j] (by rw [← hB]; exact List.getElem_mem hj)
      refine ⟨_, h2, ?_⟩
      rw [hq _ (List.mem_of_getElem? h2)]
      simp only [List.contains_cons, List.contains_nil, Bool.or_false] at h3
      rw [h3]; rfl
    -- behind a line
    have next : ∃ r, GapR p q x (st + l.length) r ∧ ofN r = toE (gapGo s (k + 1) (st + l.length + 1)) := by
      rcases hs2 with ⟨rfl, hx⟩ | ⟨y, hx, rfl⟩
      · have he : st + l.length = x.length := by rw [hx, List.length_drop]; exact ar3 hst
        refine ⟨.ok (st + l.length), GapR.stop (fun a h => ?_) (fun h => ?_), ?_⟩
        · rw [he, List.getElem?_eq_none (Nat.le_refl _)] at h; cases h
        · rw [he, List.getElem?_eq_none (Nat.le_refl _)] at h; cases h
        · show Except.ok (Ans.int _) = Except.ok (Ans.int _)
          rw [Nat.add_sub_cancel]
      · have h10 : x[st + l.length]? = some 10 := by
          rw [← List.getElem?_drop, hx, List.getElem?_append_right (Nat.le_refl _), Nat.sub_self]
          rfl
        have hlt : st + l.length < x.length := (List.getElem?_eq_some_iff.mp h10).1
        have ht : x.take (st + l.length + 1) = x.take st ++ (l ++ [10]) := by
          rw [Nat.add_assoc, List.take_add, hx]
          congr 1
          rw [List.take_append, List.take_of_length_le (Nat.le_succ _), Nat.add_sub_cancel_left]
          rfl
        have hd : x.drop (st + l.length + 1) = y := by
          have : x.drop (st + l.length + 1) = (x.drop st).drop (l.length + 1) := by rw [List.drop_drop]; congr 1
          rw [this, hx, List.drop_append, List.drop_of_length_le (by lia), show l.length + 1 - l.length = 1 by exact Nat.add_sub_cancel_left ..]
          rfl
        refine X1_2 (ih (x.length - (st + l.length + 1)) (by exact ar37 hn hlt) (st + l.length + 1) (k + 1) rfl (by exact hlt)
          (by rw [ht, List.count_append, List.count_append, ← hk, List.count_eq_zero_of_not_mem (fun h => hl10 10 h rfl)]; rfl)
          (by rw [ht, ← List.append_assoc]; unfold back; rw [List.reverse_append]; rfl)) ?_; intro r h1 h2
        rw [hd] at h2
        refine ⟨r, GapR.step h10 ?_ h1, h2⟩
        rw [hq 10 (List.mem_of_getElem? h10)]
        rfl
    rw [hs]
    unfold gapGo
    rw [hbl]
    cases hd : l.dropWhile [32, 9].contains with
    | nil =>
      rw [if_neg (by simp), if_neg (by unfold faultV; simp; decide)]
      refine X1_2 next ?_; clear next; intro r h1 h2
      rw [hd] at hBl
      have hlb : B.length = l.length := by simpa using hBl
      exact ⟨r, GapR.run hrun (by rw [hlb]; exact h1), h2⟩
    | cons a c =>
      have hal : l[B.length]? = some a := by
        have h1 := dw_drop (q := [32, 9].contains) l
        rw [hd, ← hB] at h1
        have := congrArg (fun z => z[0]?) h1
        simpa using this.symm
      have hBlt : B.length < l.length := (List.getElem?_eq_some_iff.mp hal).1
      have hax : x[st + B.length]? = some a := by rw [hxl _ hBlt, hal]
      have haq : [32, 9].contains a = false := dw_head hd
      have ha10 : a ≠ 10 := hl10 a (List.mem_of_getElem? hal)
      have hqa : q a = false := by
        rw [hq a (List.mem_of_getElem? hax)]
        simp only [List.contains_cons, List.contains_nil, Bool.or_false] at haq
        rw [haq]
        simpa using ha10
      by_cases h35 : a = 35
      · subst h35
        have hlc : l.length = B.length + (c.length + 1) := by rw [hd] at hBl; simp at hBl; lia
        have hc : (x.drop (st + B.length + 1)).takeWhile (fun a => a != 10) = c := by
          have h1 := dw_drop (q := [32, 9].contains) l
          rw [hd, ← hB] at h1
          have h2 : c = l.drop (B.length + 1) := by
            have := congrArg (List.drop 1) h1
            rw [List.drop_drop] at this
            simpa using this
          have h3 : x.drop (st + B.length + 1) = (x.drop st).drop (B.length + 1) := by rw [List.drop_drop]; congr 1
          rw [h3, h2]
          rcases hs2 with ⟨_, hx⟩ | ⟨y, hx, _⟩
          · rw [← hx]
            exact tw_all fun b hb => by simpa using hl10 b (List.mem_of_mem_drop hb)
          · rw [hx, List.drop_append_of_le_length (by exact hBlt), List.takeWhile_append_of_pos (fun b hb => by simpa using hl10 b (List.mem_of_mem_drop hb)), List.takeWhile_cons]
            simp
        have hu := until_eq (p := p) (x := x) (i := st + B.length + 1) (s := 10) (line := k + 1) (col := B.length + 2) (eof := false) (by exact Nat.lt_of_lt_of_le (Nat.add_lt_add_left hBlt st) hlx) hp (fun h => by cases h) (fun m hm hlt => by
          rw [hc] at hlt
          have ht : x.take (st + B.length + 1 + m) = x.take st ++ l.take (B.length + 1 + m) := by
            rw [Nat.add_assoc, Nat.add_assoc, List.take_add]
            congr 1
            rw [← Nat.add_assoc]
            rcases hs2 with ⟨_, hx⟩ | ⟨y, hx, _⟩
            · rw [← hx]
            · rw [hx, List.take_append_of_le_length (by lia)]
          have hn : (10 : Nat) ∉ l.take (B.length + 1 + m) := fun h => hl10 10 (List.mem_of_mem_take h) rfl
          rw [ht, List.count_append, back_app hn, hb, ← hk, List.count_eq_zero_of_not_mem hn, List.length_take]
          lia)
        rw [hc] at hu
        rw [if_neg (by simp)]
        have hdr : ((35 : Nat) :: c).drop 1 = c := rfl
        rw [hdr]
        by_cases hf : (faultV c (k + 1) (B.length + 2)).length ≠ 0
        · rw [if_pos hf] at hu ⊢
          exact ⟨.error _, GapR.run hrun (GapR.fail hqa hax hu), rfl⟩
        · rw [if_neg hf] at hu ⊢
          refine X1_2 next ?_; clear next; intro r h1 h2
          refine ⟨r, GapR.run hrun (GapR.over hqa hax hu ?_), h2⟩
          rw [show st + B.length + 1 + c.length = st + l.length by lia]
          exact h1
      · rw [if_pos ⟨by simp, by simpa using h35⟩]
        refine ⟨.ok (st + B.length), GapR.run hrun (GapR.stop (fun b hb => ?_) (fun h => ?_)), rfl⟩
        · rw [hax] at hb; cases hb; exact hqa
        · rw [hax] at h; exact h35 (Option.some.inj h)
theorem gap_is {p q : Nat → Bool} {x : List Nat} (hx : x.length ≤ 24) (hp : ∀ a ∈ x, p a = ill a) (hq : ∀ a ∈ x, q a = (a == 32 || a == 9 || a == 10)) : ofN (gapV p q x 48 0) = toE (gapT x) := by
  refine X1_2 (gap_line hp hq (x.length - 0) 0 0 rfl (Nat.zero_le _) rfl rfl) ?_; intro r h1 h2
  rw [h1 48 (by exact Nat.le_trans (Nat.add_le_add_right hx 2) (by decide))]
  exact h2
theorem all_congr {p q : Nat → Bool} : ∀ {l : List Nat}, (∀ a ∈ l, p a = q a) → l.all p = l.all q
  | [], _ => rfl
  | a :: l, h => by
    rw [List.all_cons, List.all_cons, h a List.mem_cons_self, all_congr fun b hb => h b (List.mem_cons_of_mem _ hb)]
theorem four_is {q : Nat → Bool} {x : List Nat} (h1 : 1 ≤ x.length) (hq : ∀ a ∈ x, q a = inL5 a) :
    (match hexV q x with | .ok n => .ok (.tup 4 [n]) | .error m => .error m : Except Str Ans) = toE (fourT x) := by
  have hall : (x.take 4).all q = (x.take 4).all inL5 := all_congr fun a ha => hq a (List.mem_of_mem_take ha)
  have hlen : (x.take 4).length ≤ 4 := by rw [List.length_take]; exact Nat.min_le_left ..
  unfold hexV fourT
  rw [hall]
  by_cases h : (x.take 4).length < 4 ∨ (x.take 4).all inL5 = false
  · rw [if_pos h, if_pos (by rcases h with h | h; exact .inl (by lia); exact .inr h)]
    show Except.error _ = Except.error _
    rw [errS_eq (by lia), List.take_zero]
    congr 1
  · rw [if_neg h, if_neg (fun z => h (by rcases z with z | z; exact .inl (by exact Nat.lt_of_le_of_ne hlen z); exact .inr z))]
    have h4 : (x.take 4).length = 4 := Nat.le_antisymm hlen (Nat.not_lt.mp fun z => h (.inl z))
    have ha : (x.take 4).all inL5 = true := by
      cases hz : (x.take 4).all inL5
      · exact absurd (.inr hz) h
      · rfl
    have hx4 : 4 ≤ x.length := by rw [List.length_take] at h4; exact h4 ▸ Nat.min_le_right 4 _
    obtain ⟨a, b, c, d, he⟩ : ∃ a b c d, x.take 4 = [a, b, c, d] := by
      match hq : x.take 4, h4 with
      | [a, b, c, d], _ => exact ⟨a, b, c, d, rfl⟩
    have hm : ∀ z ∈ x.take 4, z ∈ L5 := fun z hz => by
      have := List.all_eq_true.mp ha z hz
      simpa [inL5, L5] using this
    have hn : numH (x.take 4) < 65536 := by
      rw [he] at hm ⊢
      exact numH_lt (hm a (by simp)) (hm b (by simp)) (hm c (by simp)) (hm d (by simp))
    have h10 : (10 : Nat) ∉ x.take 4 := fun z => absurd (hm 10 z) (by decide)
    dsimp only
    by_cases hs : 55296 ≤ numH (x.take 4) ∧ numH (x.take 4) ≤ 57343
    · rw [if_pos hs, if_neg (by
        unfold uniOk
        intro z
        simp only [Bool.or_eq_true, Bool.and_eq_true, decide_eq_true_eq] at z
        lia)]
      show Except.error _ = Except.error _
      by_cases hl : x.length = 4
      · have e1 : Str.ofString "Escaped character is not a Unicode scalar value (at " = Str.ofString "Escaped character is not a Unicode scalar value" ++ Str.ofString " (at " := by decide
        rw [errS_end (by lia), if_pos hl, e1]
      · rw [if_neg hl, errS_eq (by exact Nat.lt_of_le_of_ne hx4 (Ne.symm hl)), List.count_eq_zero_of_not_mem h10, back_self h10, h4]
        congr 1
    · rw [if_neg hs, if_pos (by
        unfold uniOk
        simp only [Bool.or_eq_true, Bool.and_eq_true, decide_eq_true_eq]
        lia)]
      rfl
theorem ans_of {r : Except Str Ans} {a : Ans} : r = toE a → (match r with | .ok a => a | .error m => .str m) = a ∧ (match r with | .ok _ => false | .error _ => true) = a.isStr := by
  rintro rfl
  cases a <;> exact ⟨rfl, rfl⟩
theorem plain_law {b : Heap} (Z : ZSets b) (ZK : Z.Ok) : PlainLaw Z := by
  intro x hx h1 hx13 k hk
  have hp : ∀ a ∈ x, hasS Z.c78 a = ill a := fun a ha => ZK.h78 a (hx13 a ha)
  have h79 : ∀ a ∈ x, hasS Z.c79 a = [32, 9].contains a := fun a ha => by rw [ZK.h79 a (hx13 a ha)]; simp only [List.contains_cons, List.contains_nil, Bool.or_false]
  have h : readV Z k x = toE (toldV k x) := by
    have six : k = 0 ∨ k = 1 ∨ k = 2 ∨ k = 3 ∨ k = 4 ∨ k = 5 := by exact ar41 hk
    rcases six with rfl | rfl | rfl | rfl | rfl | rfl
    · show Except.ok (Ans.int _) = Except.ok (Ans.int _)
      have := tw_dw (p := [32, 9].contains) x
      rw [tw_congr h79]
      congr 2
      exact ar39 this
    · show ofN (commentV _ x 0) = _
      exact remark_is h1 hp
    · show ofN (gapV _ _ x 48 0) = toE (gapT x)
      exact gap_is hx hp fun a ha => ZK.h87 a (hx13 a ha)
    · exact literal_is h1 hp
    · exact four_is h1 fun a ha => ZK.h88 a (hx13 a ha)
    · show Except.ok (Ans.int _) = Except.ok (Ans.int _)
      have := tw_dw (p := [97, 102, 48, 100, 56].contains) x
      have e : x.takeWhile (fun c => inL5 c) = x.takeWhile [97, 102, 48, 100, 56].contains := tw_congr fun a _ => rfl
      rw [e]
      congr 2
      exact ar39 this
  unfold askA askR
  have := ans_of h
  exact ⟨this.1.symm, this.2.trans (congrArg Ans.isStr this.1.symm)⟩

end
section
open PySem PySem.W PyProof.Rows PySem.Calls PySem.Spec
set_option maxHeartbeats 4000000
variable {w : World} {mean : ExcName → Option Value} {mg mb : Str → Option Value} {b : Heap} {news : List (Addr × Obj)}
noncomputable abbrev lawRow : OpenRow := PySem.Challenge.rw_pd0097_01.row
noncomputable def lwAs : List Addr := [78, 79, 87, 88, 148, 202]
theorem heap_at1 (P : Params) (X : Sets) (os : OsState) : (fragAs.map fun a => (st37 P X os).abs.heap.get? a) = (fragK P).map (fun p => some p.2) := by kernel_rfl!
theorem heap_at2 (P : Params) (X : Sets) (os : OsState) : (lwAs.map fun a => (st37 P X os).abs.heap.get? a) = [alive X.s78, alive X.s79, alive X.s87, alive X.s88, some (tabObj #[]), some (tabObj #[])] := by kernel_rfl!
theorem alive_ss {cs : List (Nat × Tok)} {o : Obj} (h : IsSS cs o) : alive o = some o := by
  refine X3_2 h ?_; clear h; intro es n t z0 _; subst z0
  rfl
theorem frag_as (P : Params) : fragAs = (fragK P).map (·.1) := by kernel_rfl!
theorem frag_tabs (P : Params) : noTabs (fragK P) = true := by kernel_rfl!
theorem law_at (P : Params) (X : Sets) (os : OsState) : (st37 P X os).abs.heap.nsMap mainGlobals (Str.ofString "law") = some (.ref 255) := by kernel_rfl!
theorem loose_is : looseW q0 loose0 = loose0 := by kernel_rfl!
theorem frag_st (P : Params) (X : Sets) (os : OsState) : (fragK P).In (st37 P X os).abs.heap := Frag.in_of (frag_as P) (heap_at1 P X os)
theorem ints_of_reads {cl : Str → Option Addr} {h : Heap} : ∀ {ns : List Int} {vs : List Value} {as : List Addr}, ReadsAllW [] cl h vs (ns.map WData.int) as → IntsAre vs ns
  | [], vs, as, r => by cases r; exact .nil
  | n :: ns, vs, as, r => by
    cases r with
    | cons r1 r2 =>
      cases r1
      exact .cons n _ (ints_of_reads r2)
theorem heads_in {P : Params} {h : Heap} (X : (fragK P).In h) : CodeHd h 152 148 ∧ CodeHd h 206 202 :=
  ⟨(Y9 (o152 P) _ _ _ _ _ _ _ _ ⟨X 152 _ (by rfl), by rfl, by rfl, by rfl, by rfl, by rfl, by rfl, by rfl, by rfl, by decide⟩),
   (Y9 (o206 P) _ _ _ _ _ _ _ _ ⟨X 206 _ (by rfl), by rfl, by rfl, by rfl, by rfl, by rfl, by rfl, by rfl, by rfl, by decide⟩)⟩
noncomputable abbrev lwTabs : List (Addr × Addr) := [(152, 148), (206, 202)]
theorem pre_is {xs : List WData} (h : lawRow.pre.holds [] { args := [.list xs] } = true) : xs.length ≤ 63 := by
  have e : lawRow.pre.holds [] { args := [.list xs] } = (!decide ((63 : Int) < (xs.length : Int)) && true) := by
    show WTm.holds [] (.and (.not (.lt (.lit (.int 63)) (.len (.arg 0)))) (.lit (.bool true))) { args := [.list xs] } = _
    unfold WTm.holds
    simp [WTm.value]
    rw [show W.less? (WData.int 63) (WData.int (xs.length : Int)) = some (decide ((63 : Int) < (xs.length : Int))) from rfl]
    cases decide ((63 : Int) < (xs.length : Int)) <;> rfl
  rw [e] at h
  simp at h
  lia
theorem post_is (args : List WData) : lawRow.toRowW.claim.post args (.bool true) args = true := by
  show (WShape.has [] (.bool true) .bool && WTm.holds [] (.eq .res (.lit (.bool true))) { args := args, res := some (.bool true), after := args }) = true
  first
    | kernel_rfl
    | simp [WShape.has, WShape.arms, WTm.holds, WTm.value]
theorem head_at {args : List WData} (h : lawRow.toRowW.claim.pre args = true) : ∃ ns : List Int, args = [.list (ns.map .int)] ∧ ns.length ≤ 63 := by
  refine X0_2 (pre_splitW h) ?_; intro h1 h2
  refine X2_3 (hasAllW_cons h1) ?_; intro d r z0 h3 h4; subst z0
  have hr : r = [] := by
    cases r with
    | nil => rfl
    | cons a b => simp [WShape.hasAll] at h4
  subst hr
  refine X1_2 (hasW_list h3) ?_; intro xs z0 h5; subst z0
  refine X1_1 (items_int h5) ?_; intro ns z0; subst z0
  refine ⟨ns, rfl, ?_⟩
  have := pre_is h2
  simpa using this
theorem ok78 : ∀ a ∈ signs13, hasS (cs73.erase (9, 302)) a = (a == 10 || a == 1) := by decide
theorem ok79 : ∀ a ∈ signs13, hasS [(9, 406), (32, 404)] a = (a == 32 || a == 9) := by decide
theorem ok87 : ∀ a ∈ signs13, hasS [(10, 410), (9, 406), (32, 404)] a = (a == 32 || a == 9 || a == 10) := by decide
theorem ok88 : ∀ a ∈ signs13, hasS [(70, 462), (69, 460), (68, 458), (67, 456), (66, 454), (65, 452), (102, 450), (101, 448), (100, 446), (99, 444), (98, 442), (97, 440), (57, 438), (56, 436), (55, 434), (54, 432), (53, 430), (52, 428), (51, 426), (50, 424), (49, 422), (48, 420)] a = inL5 a := by decide
theorem sets_at {P : Params} {X : Sets} {os : OsState} {b : Heap} (SX : SetsOk X) (k : ∀ a ∈ [78, 79, 87, 88], ∀ o, (st37 P X os).abs.heap.get? a = some o → b.get? a = some o) : ∃ Z : ZSets b, Z.Ok := by
  have h2 := heap_at2 P X os
  simp only [lwAs, List.map_cons, List.map_nil, List.cons.injEq] at h2
  refine X0_5 h2 ?_; clear h2; intro e1 e2 e3 e4 _
  refine ⟨⟨_, _, _, _, ⟨⟨_, k 78 (by decide) _ (e1.trans (alive_ss SX.ill)), SX.ill⟩, by decide, by decide⟩, ⟨⟨_, k 79 (by decide) _ (e2.trans (alive_ss SX.ws)), SX.ws⟩, by decide, by decide⟩, ⟨⟨_, k 87 (by decide) _ (e3.trans (alive_ss SX.wsn)), SX.wsn⟩, by decide, by decide⟩, ⟨⟨_, k 88 (by decide) _ (e4.trans (alive_ss SX.hex)), SX.hex⟩, by decide, by decide⟩⟩, ?_⟩
  exact ⟨ok78, ok79, ok87, ok88⟩
theorem law_pin (P : Params) (X : Sets) (os : OsState) (hg : (st37 P X os).abs.heap.isNs mainGlobals = true) : isTheDefsW prg (st37 P X os).abs.heap (Str.ofString "law") := by
  refine (Y6 255 (o255 P) _ _ _ _ ⟨(Pin.globalOf_eq hg _).trans (law_at P X os), frag_st P X os 255 _ (by rfl), by rfl, by kernel_rfl, by rfl, by rfl, by rfl, by rfl, by rfl, by rfl, by rfl, by rfl, .inl ⟨by rfl, by rfl⟩, [], by rfl, .inl ⟨rfl, by rfl⟩⟩)
theorem law_called {w : World} {b : Heap} {s : Shared} {R : Result → Shared → Prop} {D0 : Addr} {vs : List Value} {zs : List Int} {mean : ExcName → Option Value} {mg mb : Str → Option Value} (G : Gd w mean mg mb b) (Z : ZSets b) (ZK : Z.Ok) (hl : b.IsList D0 vs.toArray) (hi : IntsAre vs zs) (hz : zs.length ≤ 63)
    (kb : ∀ c o, b.get? c = some o → s.heap.get? c = some o) (hsz : b.objs.size ≤ s.heap.objs.size) (NB : ∀ p ∈ [(202, tabObj #[]), (148, tabObj #[])], s.heap.get? p.1 = some p.2 ∧ b.get? p.1 = none)
    (ret : ∀ h' tk x y, (∀ c o, b.get? c = some o → h'.get? c = some o) → h'.get? 148 = some (tabObj x) → h'.get? 202 = some (tabObj y) → R (.ok (.ret (.bool true))) { s with heap := h', toks := tk }) :
    codeAny (model prg w) callerA (.call (.ref 255) ⟨[.ref D0], []⟩) R s := by
  refine' j_topC G ?lk ?cd ?bind ?kind ?nd ?co ?gen ?k (law_law G Z ZK (plain_law Z ZK) hl hi hz) kb hsz NB (by decide) (by decide) (fun _ _ h => h) ?_
  case lk => k_dflt k_is
  case cd => k_dflt k_is
  case bind => exact fun _ => BindsTo.of_eq rfl
  case kind => exact kindsX rfl
  case nd => decide
  case co => exact rfl
  case gen => exact rfl
  case k => exact rfl
  intro v lg L' m' h' tk y0 F' N'; refine X0_2 y0 ?_; clear y0; intro z0 z1; subst z0; refine X2_2 z1 ?_; clear z1; intro x y h1 h2
  exact ret h' tk x y F'.keep (N' _ h1).1 (N' _ h2).1
theorem row_holds (k1 : lawRow.wellSaid = true) : lawRow.Holds := by
  have hw : lawRow.toRowW.promised := ⟨[.list []], by decide +kernel, by decide +kernel⟩
  refine ⟨k1, hw, ⟨⟨rfl, rfl, rfl, rfl, rfl, by decide +kernel⟩, by decide +kernel, rfl⟩, hw.witness, fun w => ⟨(behind w).1, fun s' hs' => ?_⟩⟩
  refine X1_3 ((behind w).2 s' hs') ?_; intro s₀ hf hg0 z0; refine X3_7 z0 ?_; clear z0; intro s X os hT SX z1 hG hz hg G0; subst z1
  refine ⟨s₀, hf, hg0, _, hT, ?_, (fun x hx => nomatch hx), (fun x hx => nomatch hx), ?_⟩
  · intro n hn
    obtain rfl : n = Str.ofString "law" := List.mem_singleton.mp hn
    exact law_pin w.params X os hg
  refine ClaimW.callFrom_of_specN (c := lawRow.toRowW.claim) (tree := fun vs => do match ← nsGet mainNs lawRow.name with
      | some f => do ret (← PySem.call f vs)
      | none => unsupported "claim.caller:no-such-global") hz hG fun args hpre hlay ord hord => ?_
  obtain ⟨⟨vs, s₁⟩, hlaid⟩ := Option.isSome_iff_exists.mp (layAllW_isSome (P := w.params) (ord := ord) G0.has args lawRow.toRowW.args _ (pre_splitW hpre).1)
  have keeps := layAllW_keeps _ _ _ hlaid
  have hal := layAllW_rest _ _ _ hlaid
  refine X1_3 (reads_layAllW hord _ _ _ hlaid hlay s₁.heap (fun _ _ e => e)) ?_; intro as hrd hin hold
  have G₁ := G0.keeps (fun _ _ _ _ _ => trivial) keeps
  refine X1_2 (head_at hpre) ?_; intro ns z0 hn; subst z0
  have X1 : (fragK w.params).In s₁.heap := (frag_st w.params X os).keeps keeps
  have e2 := heap_at2 w.params X os
  simp only [lwAs, List.map_cons, List.map_nil, List.cons.injEq] at e2
  refine X0_7 e2 ?_; clear e2; intro g1 g2 g3 g4 g5 g6 _
  have hTb : TabsAt lwTabs s₁.heap := by
    intro q hq
    refine mem_c q hq ?_ fun hq => ?_
    · exact ⟨(heads_in X1).1, keeps _ _ g5⟩
    · rw [List.mem_singleton.mp hq]
      exact ⟨(heads_in X1).2, keeps _ _ g6⟩
  cases hrd with
  | cons r1 r2 =>
  cases r2
  cases r1 with
  | @list D0 o its n _ as' ho hc hd hr =>
  have hi := ints_of_reads hr
  have hl : (ghostOf s₁.heap lwTabs).IsList D0 its.toList.toArray := ghost_list hTb ⟨o, ho, hc, n, by simpa using hd⟩
  have T := ghost_top hTb G₁.T
  rw [loose_is] at T
  have Gg : Gd w _ _ _ (ghostOf s₁.heap lwTabs) := ⟨ghost_K hTb X1 (frag_tabs _), T, (ghost_code hTb).1, (ghost_code hTb).2.1⟩
  obtain ⟨Z, ZK⟩ := sets_at (b := ghostOf s₁.heap lwTabs) SX fun a ha o e => ghost_ne (keeps _ _ e) (by
    intro hm
    simp only [lwTabs, List.map_cons, List.map_nil, List.mem_cons, List.not_mem_nil, or_false] at ha hm
    rcases ha with rfl | rfl | rfl | rfl <;> revert hm <;> decide)
  have old : ∀ h' x y, (∀ c o, (ghostOf s₁.heap lwTabs).get? c = some o → h'.get? c = some o) → h'.get? 148 = some (tabObj x) → h'.get? 202 = some (tabObj y) → ∀ b o, s₁.heap.get? b = some o → asItWas s₁.heap h' b o := by
    intro h' x y kb' h1 h2 b o e
    by_cases hb1 : b = 148
    · subst hb1
      have h3 := hTb (152, 148) (by simp [lwTabs])
      rw [h3.2] at e
      cases e
      exact .inr (.inl ⟨(h3.1.tab h3.2).isCodeTable, rfl, (Y2 (#[]) x ⟨rfl, by rw [Array.empty_append]; exact h1⟩)⟩)
    · by_cases hb2 : b = 202
      · subst hb2
        have h3 := hTb (206, 202) (by simp [lwTabs])
        rw [h3.2] at e
        cases e
        exact .inr (.inl ⟨(h3.1.tab h3.2).isCodeTable, rfl, (Y2 (#[]) y ⟨rfl, by rw [Array.empty_append]; exact h2⟩)⟩)
      · exact .inl (kb' _ _ (ghost_ne e (by simp [lwTabs, hb1, hb2])))
  refine (Y2 _ s₁ ⟨hlaid, ?_⟩)
  refine wpAny_bind (wpAny_nsGet G₁.T.g ?_)
  rw [show (st37 w.params X os).abs.heap.nsMap mainGlobals lawRow.name = some (.ref 255) from law_at w.params X os]
  refine wpAny_bind (wpAny_call (law_called Gg Z ZK hl hi hn (fun c o e => of_hideAll _ e) (Nat.le_of_eq (hideAll_size _ _)) (fun p hp => ?_) fun h' tk x y kb' h1 h2 => ?_))
  · refine mem_c p hp ?_ fun hp => ?_
    · exact ⟨(hTb (206, 202) (by simp [lwTabs])).2, hideAll_none _ (by simp [lwTabs])⟩
    · rw [List.mem_singleton.mp hp]
      exact ⟨(hTb (152, 148) (by simp [lwTabs])).2, hideAll_none _ (by simp [lwTabs])⟩
  · refine wpAny_pure ⟨_, rfl, ?_, hal.2.2.1, rfl, fun q => nomatch q⟩
    have hold' := old h' x y kb' h1 h2
    refine .inl ⟨.bool true, rfl, fun _ => rfl, (Y4 (.bool true) [.list (ns.map .int)] [] ((D0 :: as') ++ []) ⟨.bool true, ?_, post_is _, fun _ => ⟨List.nodup_nil, fun a ha => (nomatch ha), fun a ha => (nomatch ha)⟩, fun _ _ => ident_freeW rfl rfl rfl _ _⟩), (fun i hi => nomatch hi), (fun b o hb _ _ => hold' b o hb), fun i hi => nomatch hi⟩
    refine .cons (.list (kb' _ _ (ghost_get hTb ho (fun q => by rw [q] at hc; cases hc))) hc hd (ReadsAllW.keepsK (fun b o e hc' => ?_) hr)) .nil
    exact kb' _ _ (ghost_get hTb e (fun q => hc' (by rw [q])))

end
end
end Mine
theorem PySem.Challenge.cw_pd0097_01_holds : PySem.Challenge.rw_pd0097_01.Holds :=
  PySem.W.holds_law Mine.said3 fun said => Mine.row_holds said
