import PyProof.Rows.All
import Wide.All
import OpenK.AllK
import Wide.FinOn
import PySem.Challenge.RW_wu0057_01
set_option compiler.extract_closed false
set_option linter.all false
section OfL1
set_option Elab.async false
set_option maxRecDepth 100000
namespace Mine
/-- does the road from post k to post k + 1 lie between the posts p and q? -/
noncomputable def crossB (p q k : Nat) : Nat := if Nat.ble p k = Nat.ble q k then 0 else 1
noncomputable def gP (bs : List Bool) : List Nat := ((List.range 8).filter fun i => bs.getD i false).map (· + 1)
noncomputable def kP (bs : List Bool) : List Nat := ((List.range 8).filter fun i => !bs.getD i false).map (· + 1)
noncomputable def coef (g t r : List Nat) (k : Nat) : Nat := crossB (g.getD 0 0) (t.getD (r.getD 0 0) 0) k + crossB (g.getD 1 0) (t.getD (r.getD 1 0) 0) k + crossB (g.getD 2 0) (t.getD (r.getD 2 0) 0) k + crossB (g.getD 3 0) (t.getD (r.getD 3 0) 0) k
noncomputable def upTo (g : List Nat) (k : Nat) : Nat := (g.filter fun p => Nat.ble p k).length
noncomputable def absd (g : List Nat) (k : Nat) : Nat := (2 * upTo g k - k) + (k - 2 * upTo g k)
noncomputable def waysB (g : List Nat) : Nat → Nat
  | 0 => 1
  | i + 1 => if Nat.blt (absd g (i + 1)) (absd g i) then waysB g i * absd g i else waysB g i
noncomputable def perms : List (List Nat) := [[0, 1, 2, 3], [0, 1, 3, 2], [0, 2, 1, 3], [0, 2, 3, 1], [0, 3, 1, 2], [0, 3, 2, 1], [1, 0, 2, 3], [1, 0, 3, 2], [1, 2, 0, 3], [1, 2, 3, 0], [1, 3, 0, 2], [1, 3, 2, 0], [2, 0, 1, 3], [2, 0, 3, 1], [2, 1, 0, 3], [2, 1, 3, 0], [2, 3, 0, 1], [2, 3, 1, 0], [3, 0, 1, 2], [3, 0, 2, 1], [3, 1, 0, 2], [3, 1, 2, 0], [3, 2, 0, 1], [3, 2, 1, 0]]
noncomputable def ks : List Nat := [1, 2, 3, 4, 5, 6, 7]
noncomputable def check (g t : List Nat) : Bool :=
  perms.all (fun r => ks.all fun k => Nat.ble (absd g k) (coef g t r k) && Nat.ble (coef g t r k) (min k (8 - k))) &&
  Nat.beq (perms.countP fun r => ks.all fun k => Nat.beq (coef g t r k) (absd g k)) (waysB g 8) && Nat.blt 0 (waysB g 8) &&
  Nat.beq (perms.countP fun r => ks.all fun k => Nat.beq (coef g t r k) (min k (8 - k))) ([24, 6, 4, 6, 24].getD (upTo g 4) 0) && Nat.blt 0 ([24, 6, 4, 6, 24].getD (upTo g 4) 0)
noncomputable def bitsOf : Nat → List (List Bool)
  | 0 => [[]]
  | n + 1 => (bitsOf n).map (true :: ·) ++ (bitsOf n).map (false :: ·)
noncomputable def okBits (bs : List Bool) : Bool := !(Nat.beq (bs.countP id) 4) || (Nat.beq (gP bs).length 4 && Nat.beq (kP bs).length 4 && check (gP bs) (kP bs))
theorem ok0 : ((bitsOf 6).map (fun l => true :: true :: l)).all okBits = true := by decide +kernel
theorem ok1 : ((bitsOf 6).map (fun l => true :: false :: l)).all okBits = true := by decide +kernel
theorem ok2 : ((bitsOf 6).map (fun l => false :: true :: l)).all okBits = true := by decide +kernel
theorem ok3 : ((bitsOf 6).map (fun l => false :: false :: l)).all okBits = true := by decide +kernel
end Mine
end OfL1
section OfL2
set_option Elab.async false
set_option maxRecDepth 100000
set_option maxHeartbeats 4000000
local macro_rules | `(tactic| omega) => `(tactic| lia)
namespace Mine
theorem mem_bitsOf : ∀ (n : Nat) (l : List Bool), l.length = n → l ∈ bitsOf n
  | 0, l, h => by
    obtain rfl := List.length_eq_zero_iff.mp h
    exact List.mem_singleton_self _
  | n + 1, [], h => by cases h
  | n + 1, b :: l, h => by
    have ih := mem_bitsOf n l (by simpa using h)
    cases b with
    | true => exact List.mem_append_left _ (List.mem_map.mpr ⟨l, ih, rfl⟩)
    | false => exact List.mem_append_right _ (List.mem_map.mpr ⟨l, ih, rfl⟩)
theorem ok_all (bs : List Bool) (hl : bs.length = 8) : okBits bs = true := by
  match bs, hl with
  | b0 :: b1 :: l, hl =>
    have hm : l ∈ bitsOf 6 := mem_bitsOf 6 l (by simpa using hl)
    cases b0 <;> cases b1
    · exact List.all_eq_true.mp ok3 _ (List.mem_map.mpr ⟨l, hm, rfl⟩)
    · exact List.all_eq_true.mp ok2 _ (List.mem_map.mpr ⟨l, hm, rfl⟩)
    · exact List.all_eq_true.mp ok1 _ (List.mem_map.mpr ⟨l, hm, rfl⟩)
    · exact List.all_eq_true.mp ok0 _ (List.mem_map.mpr ⟨l, hm, rfl⟩)
theorem bits_ok (bs : List Bool) (hl : bs.length = 8) (h4 : bs.countP id = 4) : (gP bs).length = 4 ∧ (kP bs).length = 4 ∧ check (gP bs) (kP bs) = true := by
  have h := ok_all bs hl
  unfold okBits at h
  rw [h4] at h
  have h2 : (Nat.beq (gP bs).length 4 && Nat.beq (kP bs).length 4 && check (gP bs) (kP bs)) = true := h
  rw [Bool.and_eq_true, Bool.and_eq_true] at h2
  exact ⟨Nat.eq_of_beq_eq_true h2.1.1, Nat.eq_of_beq_eq_true h2.1.2, h2.2⟩
noncomputable def f7 (gap : Nat → Int) (c : Nat → Nat) : Int := gap 1 * (c 1 : Int) + gap 2 * (c 2 : Int) + gap 3 * (c 3 : Int) + gap 4 * (c 4 : Int) + gap 5 * (c 5 : Int) + gap 6 * (c 6 : Int) + gap 7 * (c 7 : Int)
noncomputable def dist (X : Nat → Int) (p q : Nat) : Int := 2 * (if X p ≤ X q then X q - X p else X p - X q)
theorem f7_add (gap : Nat → Int) (a b : Nat → Nat) : f7 gap (fun k => a k + b k) = f7 gap a + f7 gap b := by
  unfold f7
  simp only [Int.natCast_add, Int.mul_add]
  ac_rfl
theorem f7_one (gap : Nat → Int) (q : Nat) (h : 1 ≤ q ∧ q ≤ 7) : f7 gap (fun k => if k = q then 1 else 0) = gap q := by
  obtain ⟨d, rfl, h2⟩ : ∃ d, q = d + 1 ∧ d < 7 := ⟨q - 1, (Nat.succ_pred_eq_of_pos h.1).symm, Nat.lt_of_lt_of_le (Nat.pred_lt (Nat.ne_of_gt h.1)) h.2⟩
  match d, h2 with
  | 0, _ | 1, _ | 2, _ | 3, _ | 4, _ | 5, _ | 6, _ => simp [f7]
theorem cross_self (p k : Nat) : crossB p p k = 0 := if_pos rfl
theorem cross_comm (p q k : Nat) : crossB p q k = crossB q p k := by
  unfold crossB
  by_cases h : Nat.ble p k = Nat.ble q k
  · rw [if_pos h, if_pos h.symm]
  · rw [if_neg h, if_neg (fun e => h e.symm)]
theorem cross_succ (p q k : Nat) (h : p ≤ q) : crossB p (q + 1) k = crossB p q k + if k = q then 1 else 0 := by
  unfold crossB
  rcases Nat.lt_trichotomy k q with hk | rfl | hk
  · have e1 : Nat.ble (q + 1) k = false := Bool.eq_false_iff.mpr fun e => Nat.not_lt.mpr (Nat.le_of_ble_eq_true e) (Nat.lt_succ_of_lt hk)
    have e2 : Nat.ble q k = false := Bool.eq_false_iff.mpr fun e => Nat.not_lt.mpr (Nat.le_of_ble_eq_true e) hk
    rw [e1, e2, if_neg (Nat.ne_of_lt hk)]; rfl
  · have e1 : Nat.ble (k + 1) k = false := Bool.eq_false_iff.mpr fun e => Nat.not_lt.mpr (Nat.le_of_ble_eq_true e) (Nat.lt_succ_self k)
    have e2 : Nat.ble k k = true := Nat.ble_eq_true_of_le (Nat.le_refl k)
    have e3 : Nat.ble p k = true := Nat.ble_eq_true_of_le h
    rw [e1, e2, e3]; simp
  · have e1 : Nat.ble (q + 1) k = true := Nat.ble_eq_true_of_le hk
    have e2 : Nat.ble q k = true := Nat.ble_eq_true_of_le (Nat.le_of_lt hk)
    rw [e1, e2, if_neg (Nat.ne_of_gt hk)]; rfl
theorem X_le {X gap : Nat → Int} (hX : ∀ k, X (k + 1) = X k + gap k) (hg : ∀ k, 1 ≤ gap k) (p : Nat) (hp : 1 ≤ p) : ∀ d, p + d ≤ 8 → X (p + d) = X p + f7 gap (crossB p (p + d)) ∧ X p ≤ X (p + d)
  | 0, _ => by
    have e : f7 gap (crossB p (p + 0)) = 0 := by
      rw [show crossB p (p + 0) = fun _ => 0 from funext fun k => cross_self p k]
      simp [f7]
    rw [e]; exact ⟨(Int.add_zero _).symm, Int.le_refl _⟩
  | d + 1, h => by
    obtain ⟨e, l⟩ := X_le hX hg p hp d (Nat.le_of_succ_le h)
    have e2 : f7 gap (crossB p (p + (d + 1))) = f7 gap (crossB p (p + d)) + gap (p + d) := by
      rw [← f7_one gap (p + d) ⟨Nat.le_trans hp (Nat.le_add_right p d), Nat.le_of_succ_le_succ h⟩, ← f7_add]
      exact congrArg (f7 gap) (funext fun k => cross_succ p (p + d) k (Nat.le_add_right p d))
    have hs := hX (p + d)
    have hgd := hg (p + d)
    rw [e2, show p + (d + 1) = p + d + 1 from rfl, hs, ← Int.add_assoc, ← e]
    exact ⟨rfl, by omega⟩
theorem dist_cross {X gap : Nat → Int} (hX : ∀ k, X (k + 1) = X k + gap k) (hg : ∀ k, 1 ≤ gap k) (p q : Nat) (hp : 1 ≤ p ∧ p ≤ 8) (hq : 1 ≤ q ∧ q ≤ 8) : dist X p q = 2 * f7 gap (crossB p q) := by
  unfold dist
  rcases Nat.le_total p q with h | h
  · obtain ⟨d, rfl⟩ := Nat.exists_eq_add_of_le h
    obtain ⟨e, l⟩ := X_le hX hg p hp.1 d hq.2
    rw [if_pos l]
    omega
  · obtain ⟨d, rfl⟩ := Nat.exists_eq_add_of_le h
    obtain ⟨e, l⟩ := X_le hX hg q hq.1 d hp.2
    rw [show crossB (q + d) q = crossB q (q + d) from funext fun k => cross_comm _ _ k]
    split <;> omega
end Mine
end OfL2
section OfL3
set_option Elab.async false
set_option maxRecDepth 100000
set_option maxHeartbeats 4000000
local macro_rules | `(tactic| omega) => `(tactic| lia)
namespace Mine
theorem f7_coef (gap : Nat → Int) (g t r : List Nat) : f7 gap (coef g t r) = f7 gap (crossB (g.getD 0 0) (t.getD (r.getD 0 0) 0)) + f7 gap (crossB (g.getD 1 0) (t.getD (r.getD 1 0) 0)) + f7 gap (crossB (g.getD 2 0) (t.getD (r.getD 2 0) 0)) + f7 gap (crossB (g.getD 3 0) (t.getD (r.getD 3 0) 0)) := by
  rw [← f7_add, ← f7_add, ← f7_add]
  rfl
noncomputable def tot (X : Nat → Int) (g t r : List Nat) : Int := dist X (g.getD 0 0) (t.getD (r.getD 0 0) 0) + dist X (g.getD 1 0) (t.getD (r.getD 1 0) 0) + dist X (g.getD 2 0) (t.getD (r.getD 2 0) 0) + dist X (g.getD 3 0) (t.getD (r.getD 3 0) 0)
theorem getD_in (l : List Nat) (j : Nat) (hj : j < l.length) : l.getD j 0 ∈ l := by
  rw [List.getD_eq_getElem?_getD, List.getElem?_eq_getElem hj]
  exact List.getElem_mem _
theorem gP_in (bs : List Bool) (p : Nat) (h : p ∈ gP bs) : 1 ≤ p ∧ p ≤ 8 := by
  obtain ⟨i, hi, rfl⟩ := List.mem_map.mp h
  have := List.mem_range.mp (List.mem_filter.mp hi).1
  omega
theorem kP_in (bs : List Bool) (p : Nat) (h : p ∈ kP bs) : 1 ≤ p ∧ p ≤ 8 := by
  obtain ⟨i, hi, rfl⟩ := List.mem_map.mp h
  have := List.mem_range.mp (List.mem_filter.mp hi).1
  omega
theorem perms_small : ∀ r ∈ perms, r.getD 0 0 < 4 ∧ r.getD 1 0 < 4 ∧ r.getD 2 0 < 4 ∧ r.getD 3 0 < 4 := by decide +kernel
theorem tot_lin {X gap : Nat → Int} (hX : ∀ k, X (k + 1) = X k + gap k) (hg : ∀ k, 1 ≤ gap k) {g t r : List Nat} (g4 : g.length = 4) (t4 : t.length = 4) (hgi : ∀ p ∈ g, 1 ≤ p ∧ p ≤ 8) (hti : ∀ p ∈ t, 1 ≤ p ∧ p ≤ 8) (hr : r ∈ perms) : tot X g t r = 2 * f7 gap (coef g t r) := by
  obtain ⟨r0, r1, r2, r3⟩ := perms_small r hr
  unfold tot
  rw [f7_coef, dist_cross hX hg _ _ (hgi _ (getD_in g 0 (by omega))) (hti _ (getD_in t _ (by omega))), dist_cross hX hg _ _ (hgi _ (getD_in g 1 (by omega))) (hti _ (getD_in t _ (by omega))), dist_cross hX hg _ _ (hgi _ (getD_in g 2 (by omega))) (hti _ (getD_in t _ (by omega))), dist_cross hX hg _ _ (hgi _ (getD_in g 3 (by omega))) (hti _ (getD_in t _ (by omega)))]
  omega
theorem term_le {x : Int} (hx : 1 ≤ x) {a b : Nat} (h : a ≤ b) : x * (a : Int) ≤ x * (b : Int) ∧ (x * (a : Int) = x * (b : Int) → a = b) := by
  refine ⟨Int.mul_le_mul_of_nonneg_left (Int.ofNat_le.mpr h) (Int.le_trans (by decide) hx), fun e => ?_⟩
  exact Int.ofNat_inj.mp (Int.eq_of_mul_eq_mul_left (by omega) e)
theorem sum_le {a b c d : Int} (h : a ≤ b) (h2 : c ≤ d) : a + c ≤ b + d ∧ (a + c = b + d → a = b ∧ c = d) := ⟨Int.add_le_add h h2, fun e => by omega⟩
theorem f7_le {gap : Nat → Int} (hg : ∀ k, 1 ≤ gap k) {a b : Nat → Nat} (h : ∀ k ∈ ks, a k ≤ b k) : f7 gap a ≤ f7 gap b ∧ (f7 gap a = f7 gap b → ∀ k ∈ ks, a k = b k) := by
  have t := fun k hk => term_le (hg k) (h k hk)
  have s2 := sum_le (t 1 (by decide)).1 (t 2 (by decide)).1
  have s3 := sum_le s2.1 (t 3 (by decide)).1
  have s4 := sum_le s3.1 (t 4 (by decide)).1
  have s5 := sum_le s4.1 (t 5 (by decide)).1
  have s6 := sum_le s5.1 (t 6 (by decide)).1
  have s7 := sum_le s6.1 (t 7 (by decide)).1
  refine ⟨s7.1, fun e k hk => (t k hk).2 ?_⟩
  obtain ⟨e6, q7⟩ := s7.2 e
  obtain ⟨e5, q6⟩ := s6.2 e6
  obtain ⟨e4, q5⟩ := s5.2 e5
  obtain ⟨e3, q4⟩ := s4.2 e4
  obtain ⟨e2, q3⟩ := s3.2 e3
  obtain ⟨q1, q2⟩ := s2.2 e2
  simp only [ks, List.mem_cons, List.not_mem_nil, or_false] at hk
  rcases hk with rfl | rfl | rfl | rfl | rfl | rfl | rfl <;> assumption
theorem f7_ext {gap : Nat → Int} {a b : Nat → Nat} (h : ∀ k ∈ ks, a k = b k) : f7 gap a = f7 gap b := by
  unfold f7
  rw [h 1 (by decide), h 2 (by decide), h 3 (by decide), h 4 (by decide), h 5 (by decide), h 6 (by decide), h 7 (by decide)]
theorem count_map (T : List Nat → Int) (c : Int) (P : List Nat → Bool) : ∀ l : List (List Nat), (∀ r ∈ l, (T r = c ↔ P r = true)) → (l.map T).count c = l.countP P
  | [], _ => rfl
  | r :: l, h => by
    have ih := count_map T c P l fun r hr => h r (List.mem_cons_of_mem _ hr)
    have h1 := h r (List.mem_cons_self ..)
    rw [List.map_cons, List.count_cons, List.countP_cons, ih]
    cases hP : P r with
    | true =>
      have : T r = c := h1.mpr hP
      simp [this]
    | false =>
      have : ¬ T r = c := fun e => by rw [h1.mp e] at hP; cases hP
      simp [this]
/-- the plain law: of all ways the cheapest costs so much, and there are so many of these; the dearest likewise -/
theorem plain {bs : List Bool} (hl : bs.length = 8) (h4 : bs.countP id = 4) {X gap : Nat → Int} (hX : ∀ k, X (k + 1) = X k + gap k) (hg : ∀ k, 1 ≤ gap k) :
    ((∀ a ∈ perms.map (tot X (gP bs) (kP bs)), 2 * f7 gap (absd (gP bs)) ≤ a) ∧ 2 * f7 gap (absd (gP bs)) ∈ perms.map (tot X (gP bs) (kP bs)) ∧ (perms.map (tot X (gP bs) (kP bs))).count (2 * f7 gap (absd (gP bs))) = waysB (gP bs) 8) ∧
    ((∀ a ∈ perms.map (tot X (gP bs) (kP bs)), a ≤ 2 * f7 gap (fun k => min k (8 - k))) ∧ 2 * f7 gap (fun k => min k (8 - k)) ∈ perms.map (tot X (gP bs) (kP bs)) ∧ (perms.map (tot X (gP bs) (kP bs))).count (2 * f7 gap (fun k => min k (8 - k))) = [24, 6, 4, 6, 24].getD (upTo (gP bs) 4) 0) := by
  obtain ⟨g4, t4, hc⟩ := bits_ok bs hl h4
  have hgi := gP_in bs
  have hti := kP_in bs
  generalize gP bs = g at *
  generalize kP bs = t at *
  have lin : ∀ r ∈ perms, tot X g t r = 2 * f7 gap (coef g t r) := fun r hr => tot_lin hX hg g4 t4 hgi hti hr
  simp only [check, Bool.and_eq_true] at hc
  obtain ⟨⟨⟨⟨c1, c2⟩, c3⟩, c4⟩, c5⟩ := hc
  have b1 : ∀ r ∈ perms, (∀ k ∈ ks, absd g k ≤ coef g t r k) ∧ ∀ k ∈ ks, coef g t r k ≤ min k (8 - k) := fun r hr => by
    have := List.all_eq_true.mp (List.all_eq_true.mp c1 r hr)
    refine ⟨fun k hk => ?_, fun k hk => ?_⟩
    · have := this k hk
      rw [Bool.and_eq_true] at this
      exact Nat.le_of_ble_eq_true this.1
    · have := this k hk
      rw [Bool.and_eq_true] at this
      exact Nat.le_of_ble_eq_true this.2
  have e1 : (perms.map (tot X g t)).count (2 * f7 gap (absd g)) = waysB g 8 := by
    rw [count_map _ _ (fun r => ks.all fun k => Nat.beq (coef g t r k) (absd g k)), Nat.eq_of_beq_eq_true c2]
    intro r hr
    rw [lin r hr]
    obtain ⟨q1, q2⟩ := f7_le hg (b1 r hr).1
    constructor
    · intro e
      have e2 := q2 (by omega)
      exact List.all_eq_true.mpr fun k hk => by rw [e2 k hk]; exact Nat.beq_refl _
    · intro e
      have e2 := List.all_eq_true.mp e
      rw [f7_ext fun k hk => Nat.eq_of_beq_eq_true (e2 k hk)]
  have e2 : (perms.map (tot X g t)).count (2 * f7 gap (fun k => min k (8 - k))) = [24, 6, 4, 6, 24].getD (upTo g 4) 0 := by
    rw [count_map _ _ (fun r => ks.all fun k => Nat.beq (coef g t r k) (min k (8 - k))), Nat.eq_of_beq_eq_true c4]
    intro r hr
    rw [lin r hr]
    obtain ⟨q1, q2⟩ := f7_le hg (b1 r hr).2
    constructor
    · intro e
      have e2 := q2 (by omega)
      exact List.all_eq_true.mpr fun k hk => by rw [e2 k hk]; exact Nat.beq_refl _
    · intro e
      have e2 := List.all_eq_true.mp e
      rw [f7_ext fun k hk => Nat.eq_of_beq_eq_true (e2 k hk)]
  refine ⟨⟨fun a ha => ?_, ?_, e1⟩, fun a ha => ?_, ?_, e2⟩
  · obtain ⟨r, hr, rfl⟩ := List.mem_map.mp ha
    rw [lin r hr]
    have := (f7_le hg (b1 r hr).1).1
    omega
  · have h : 0 < waysB g 8 := Nat.le_of_ble_eq_true c3
    rw [← e1] at h
    exact List.count_pos_iff.mp h
  · obtain ⟨r, hr, rfl⟩ := List.mem_map.mp ha
    rw [lin r hr]
    have := (f7_le hg (b1 r hr).2).1
    omega
  · have h : 0 < [24, 6, 4, 6, 24].getD (upTo g 4) 0 := Nat.le_of_ble_eq_true c5
    rw [← e2] at h
    exact List.count_pos_iff.mp h
end Mine
end OfL3
open PySem PySem.W PySem.W.X PySem.Calls PyProof.Rows
section OfHdx
open PySem PySem.W PySem.W.X PyProof.Rows
set_option Elab.async false
set_option maxRecDepth 100000
set_option maxHeartbeats 8000000
namespace Mine
section
local macro_rules | `(tactic| o_head $_t) => `(tactic| assumption)
theorem kk (h : PySem.Challenge.rw_wu0057_01.row.Holds) : PySem.Challenge.rw_wu0057_01.row.Holds := by k_head
end
section
local macro_rules | `(tactic| k_head) => `(tactic| x_head)
open_top hd for PySem.Challenge.rw_wu0057_01
end
end Mine
end OfHdx
open Mine
section OfA1
open PySem PySem.W PySem.Calls PyProof.Rows
set_option Elab.async false
set_option maxRecDepth 100000
set_option maxHeartbeats 8000000
set_option pp.maxSteps 1500
local macro_rules | `(tactic| omega) => `(tactic| lia)
namespace Mine
noncomputable section
noncomputable abbrev RW := PySem.Challenge.rw_wu0057_01
noncomputable abbrev PG : Program := PySem.Challenge.rw_wu0057_01.prog
noncomputable abbrev LO : List Str := looseW hd.view_39 [Str.ofString "_safe_string", Str.ofString "_Accumulator", Str.ofString "_quoted", Str.ofString "_paren_depth"]
noncomputable abbrev Keep (h h' : Heap) : Prop := ∀ b o, h.get? b = some o → h'.get? b = some o

/-- the whole top, but the two tables of code that a generator expression makes grow -/
noncomputable def KX (P : Params) : Frag := (hd.heap_39 P).filter fun p => p.1 != 101 && p.1 != 108
structure St (w : World) (mean : ExcName → Option Value) (mg mb : Str → Option Value) (h : Heap) : Prop where
  X : (kk.heap_1 w.params).In h
  Y : (KX w.params).In h
  T : Top hd.view_39 LO mean mg mb h

structure AOk (n : Nat) (A : Around) : Prop where
  hd : A.handled = none
  dp : A.depth + n < 900
  un : A.units + 8 * n < 9000
theorem AOk.deeper {n : Nat} {A : Around} {env : Env} (h : AOk (n + 1) A) : AOk n (A.deeper env) :=
  ⟨h.hd, by have := h.dp; show A.depth + 1 + n < 900; omega, by have := h.un; show A.units + 3 + 8 * n < 9000; omega⟩
theorem AOk.le {n k : Nat} {A : Around} (h : AOk n A) (hk : k ≤ n) : AOk k A :=
  ⟨h.hd, by have := h.dp; omega, by have := h.un; omega⟩
theorem AOk.room {n : Nat} {A : Around} (h : AOk n A) : A.depth < recursionLimit := by have := h.dp; simp only [recursionLimit]; omega

theorem St.keeps {w : World} {mean : ExcName → Option Value} {mg mb : Str → Option Value} {h h' : Heap} (S : St w mean mg mb h) (k : Keep h h') : St w mean mg mb h' := ⟨S.X.keeps k, S.Y.keeps k, S.T.keeps k⟩

noncomputable def W0 : World := ⟨fun _ _ => 0, { strHash := fun _ => 0, shareClass := fun _ => 0, mergeTok := fun t => t, idOf := fun _ => 0, idOfShared := fun _ _ => 0, followText := fun _ => false, idOfImm := fun _ => 0 }⟩
/-- what holds of one chosen worst case holds of all -/
theorem skolem {T : Type} (t : Nonempty T) (P : T → Prop) (h : P (@Classical.epsilon T t fun x => ¬ P x)) (x : T) : P x := Classical.byContradiction fun hx => @Classical.epsilon_spec T (fun x => ¬ P x) ⟨x, hx⟩ h
set_option genInjectivity false in
set_option genSizeOf false in
structure PV where
  w : World
  mean : ExcName → Option Value
  mg : Str → Option Value
  mb : Str → Option Value
  num : Int
  tk : Nat
  dp : Nat
  fr : Option (List Env)
  gd : Option (List Code)
  un : Nat
  s : Shared
  Q : Value → Shared → Prop
  E : Value → Shared → Prop
  a : Str
  b : Str
  t1 : Nat
  t2 : Nat
  t3 : Nat
  n : Nat
  x : List Nat
  bbx : Nat
  mkF : Nat
  v : Nat
  d : Int
theorem pv0 : Nonempty PV := ⟨⟨W0, fun _ => none, fun _ => none, fun _ => none, 0, 0, 0, none, none, 0, {}, fun _ _ => True, fun _ _ => True, ⟨#[]⟩, ⟨#[]⟩, 0, 0, 0, 0, [], 0, 0, 0, 0⟩⟩
noncomputable def Pure (n : Nat) (w : World) (mean : ExcName → Option Value) (mg mb : Str → Option Value) (f : Addr) (args : List Value) (R : Value → Prop) : Prop :=
  ∀ (A : Around) (s : Shared) (Q E : Value → Shared → Prop), AOk n A → St w mean mg mb s.heap →
    (∀ v h' tk', R v → Keep s.heap h' → Q v { s with heap := h', toks := tk' }) → wpAny (model PG w) A (call (.ref f) args) Q E s

theorem Pure.use {n : Nat} {w : World} {mean : ExcName → Option Value} {mg mb : Str → Option Value} {f : Addr} {args : List Value} {R : Value → Prop} (P : Pure n w mean mg mb f args R)
    {A : Around} {s : Shared} {Q E : Value → Shared → Prop} {h₀ : Heap} {L : Addr} {m : Str → Option Value} {news : List (Addr × Obj)} (hA : AOk n A) (S : St w mean mg mb h₀) (F : Fr h₀ L s.heap m) (N : News h₀ L s.heap news)
    (h : ∀ v h' tk', R v → Fr h₀ L h' m → News h₀ L h' news → Q v { s with heap := h', toks := tk' }) : wpAny (model PG w) A (call (.ref f) args) Q E s :=
  P A s Q E hA (S.keeps F.keep) fun v h' tk' r k => h v h' tk' r (F.keeps k) (N.grown k)

section
variable {prog : Program} {w : World} {A : Around} {s : Shared} {K : Frag}
  {R : Result → Shared → Prop} {name qual : Str} {params : Arguments} {body : List Stmt} {scope : Scope} {dV kV doc pm cdv ct oc : Value} {an od : Option Addr} {osl : Array (Option Value)} {f : Addr} {args : List Value} {binds : List (Str × Value)}
theorem enterP (X : K.In s.heap) (hlim : s.heap.NoLimit) (hroom : A.depth < recursionLimit)
    (ho : K.lookup f = some ⟨oc, od, .func (fnOf name qual params body scope dV kV doc pm an cdv ct), osl⟩) (hcd : codeIn K cdv qual = true)
    (hbind : BindsTo s (fnOf name qual params body scope dV kV doc pm an cdv ct) ⟨args, []⟩ binds) (hloc : ∀ y ∈ binds, scope.names.lookup y.1 = some .local)
    (h : ∀ h₁, Fr s.heap s.heap.objs.size h₁ (fun y => binds.reverse.lookup y) →
      wpAny (model prog w) (A.deeper (envOf qual scope s.heap.objs.size f cdv)) (execs body (envOf qual scope s.heap.objs.size f cdv))
        (fun fl s' => R (.ok (.ret (match fl with | .ret v => v | _ => .none))) s')
        (fun e s' => wpAny (model prog w) (A.deeper (envOf qual scope s.heap.objs.size f cdv)) (leaving (envOf qual scope s.heap.objs.size f cdv) e) (fun _ s'' => R (.error e) s'') (fun e' s'' => R (.error e') s'') s')
        { s with heap := h₁, toks := s.toks + binds.length })
    (hco : scope.isCoroutine = false := by rfl) (hgen : scope.isGenerator = false := by rfl) (hk : scope.kind = .function := by rfl)
    (hcell : ∀ x ∈ scope.names, x.2 ≠ .cell := by decide) : codeAny (model prog w) A (.call (.ref f) ⟨args, []⟩) R s := by
  refine codeAny_call_def (fd := fnOf name qual params body scope dV kV doc pm an cdv ct) (body := body) (binds := binds) hroom (X _ _ ho) rfl hlim (codeRec_of X hcd) rfl hbind hcell hloc (fun h₁ hns hk₁ => ?_) hco hgen hk
  exact h h₁ ⟨hns, hk₁, Nat.le_refl _⟩
end

noncomputable def Halt (P : Prop) : Prop := P
theorem halt {P : Prop} (h : Halt P) : P := h
theorem unhalt {P : Prop} (h : P) : Halt P := h
local macro_rules | `(tactic| walk_at "call ref cons nil") => `(tactic| refine halt ?_)
local macro_rules | `(tactic| walk_at "kst") => `(tactic| first | (k_unfold; (try dsimp only)) | walk1 | (dsimp only; walk1) | (leave1; (try dsimp only)))
theorem filled : kk.heap_1 = kk.heap_1 ∧ PySem.Challenge.rw_wu0057_01.name = PySem.Challenge.rw_wu0057_01.name := by
  k_fill
  exact ⟨rfl, rfl⟩

local macro_rules | `(tactic| walk_at "mine_enter") => `(tactic| (
  refine enterP (St.X (by assumption)) (Top.nolimit (St.T (by assumption))) (AOk.room (by assumption)) (by k_is) (by k_is) (by exact BindsTo.of_eq rfl) (by exact locs rfl) ?_))

/-- the word of a number, as the law writes it -/
noncomputable def wd : Nat → Nat → List Nat
  | 0, _ => []
  | n + 1, v => if v = 0 then [] else wd n (v / 16) ++ [65 + v % 16]
noncomputable def Wd (v : Nat) : Str := ⟨(wd 3 v).toArray⟩

theorem wd_len (v : Nat) : (Wd v).length ≤ 3 := by
  have key : ∀ n v, (wd n v).length ≤ n := by
    intro n
    induction n with
    | zero => intro v; simp [wd]
    | succ n ih => intro v; simp only [wd]; split <;> simp; exact ih _
  have := key 3 v
  simpa [Wd, Str.length] using this
theorem wd_step (v : Nat) (h : v < 272) (h0 : v ≠ 0) : Wd (v / 16) ++ ⟨#[65 + v % 16]⟩ = Wd v := by
  have key : ∀ x : Fin 272, x.val = 0 ∨ Wd (x.val / 16) ++ ⟨#[65 + x.val % 16]⟩ = Wd x.val := by decide +kernel
  rcases key ⟨v, h⟩ with e | e
  · exact absurd e h0
  · exact e
theorem law_digit (v : Nat) : Txt.item (Str.ofString "ABCDEFGHIJKLMNOP") ((v : Int).fmod 16) = ⟨#[65 + v % 16]⟩ := by
  have e : (v : Int).fmod 16 = ((v % 16 : Nat) : Int) := by rw [Int.fmod_eq_emod_of_nonneg _ (by omega)]; rfl
  rw [e]
  have key : ∀ x : Fin 16, Txt.item (Str.ofString "ABCDEFGHIJKLMNOP") ((x.val : Nat) : Int) = ⟨#[65 + x.val]⟩ := by decide +kernel
  exact key ⟨v % 16, Nat.mod_lt _ (by omega)⟩

theorem law_word (w : World) (mean : ExcName → Option Value) (mg mb : Str → Option Value) : ∀ (n v : Nat) (tk : Tok), v < 272 → v < 16 ^ n →
    Pure (n + 1) w mean mg mb 201 [.int v tk] (fun r => ∃ t, r = .str (Wd v) t) := by
  intro n
  induction n with
  | zero =>
    intro v tk h1 h2 A s Q E hA hS hret
    have hv : v = 0 := by simpa using h2
    subst hv
    have X := hS.X
    have T := hS.T
    refine wpAny_call ?_
    walk_at "mine_enter"
    intro h₁ F
    have N : News s.heap s.heap.objs.size h₁ [] := News.nil
    (try dsimp only)
    k_steps
    exact hret _ _ _ ⟨_, congrArg (Value.str · _) (by decide +kernel)⟩ F.keep
  | succ n ih =>
    intro v tk h1 h2 A s Q E hA hS hret
    have X := hS.X
    have T := hS.T
    refine wpAny_call ?_
    walk_at "mine_enter"
    intro h₁ F
    have N : News s.heap s.heap.objs.size h₁ [] := News.nil
    (try dsimp only)
    k_steps
    · have hv : v = 0 := by omega
      subst hv
      exact hret _ _ _ ⟨_, congrArg (Value.str · _) (by decide +kernel)⟩ F.keep
    · refine unhalt ?_
      have hd : ((v : Int)).fdiv 16 = ((v / 16 : Nat) : Int) := by
        rw [Int.fdiv_eq_ediv_of_nonneg _ (by omega)]; rfl
      rw [hd]
      refine (ih (v / 16) _ (by omega) (by have := Nat.pow_succ 16 n; omega)).use hA.deeper hS F N fun r h' tk' hr F' N' => ?_
      obtain ⟨t, rfl⟩ := hr
      (try dsimp only)
      iterate 7 walk_at "kst"
      rw [law_digit v]
      refine add_str (fun t' tk => ?_) ?_
      · exact hret _ _ _ ⟨_, congrArg (Value.str · _) (wd_step v h1 (by omega))⟩ F'.keep
      · have := wd_len (v / 16)
        have e : (⟨#[65 + v % 16]⟩ : Str).length = 1 := rfl
        rw [e, sizeLine_eq]; omega
end
end Mine
end OfA1
local macro_rules | `(tactic| omega) => `(tactic| lia)
local macro_rules | `(tactic| walk_at "kst") => `(tactic| first | (k_unfold; (try dsimp only)) | walk1 | (dsimp only; walk1) | (leave1; (try dsimp only)))
local macro_rules | `(tactic| walk_at "mine_enter") => `(tactic| (
  refine enterP (St.X (by assumption)) (Top.nolimit (St.T (by assumption))) (AOk.room (by assumption)) (by k_is) (by k_is) (by exact BindsTo.of_eq rfl) (by exact locs rfl) ?_))
section OfA2
open PySem PySem.W PySem.Calls PyProof.Rows
set_option Elab.async false
set_option maxRecDepth 100000
set_option maxHeartbeats 8000000
set_option pp.maxSteps 1500
namespace Mine
noncomputable section
local macro_rules | `(tactic| walk_at "subscriptTail Name Slice bytes ref") => `(tactic| refine halt ?_)
theorem filled2 : kk.heap_1 = kk.heap_1 ∧ PySem.Challenge.rw_wu0057_01.name = PySem.Challenge.rw_wu0057_01.name := by
  k_fill
  exact ⟨rfl, rfl⟩
theorem fr_congr {h₀ h : Heap} {L : Addr} {m m' : Str → Option Value} (F : Fr h₀ L h m) (e : ∀ y, m y = m' y) : Fr h₀ L h m' := by
  have : m = m' := funext e
  exact this ▸ F

theorem whileH {prog : Program} {w : World} {A : Around} {R : Result → Shared → Prop} {s : Shared} {test : Expr} {body orelse : List Stmt} {env : Env} (I : Nat → Shared → Prop)
    (turn : ∀ n s, I n s →
      wpAny (model prog w) A (isTrue test env (eval test env)) (fun b s₂ =>
        if b then wpAny (model prog w) A (execs body env) (fun f s₃ => match f with
            | .next | .cont => Halt (∃ m, m < n ∧ I m s₃)
            | .brk => R (.ok .next) s₃
            | .ret v => R (.ok (.ret v)) s₃) (notedBy (model prog w) A env fun e s' => R (.error e) s') s₂
        else wpAny (model prog w) A (execs orelse env) (fun f s₃ => R (.ok f) s₃) (notedBy (model prog w) A env fun e s' => R (.error e) s') s₂)
        (notedBy (model prog w) A env fun e s' => R (.error e) s') s)
    (n : Nat) (h : I n s) : codeAny (model prog w) A (.whileLoop test body orelse env) R s := codeAny_whileLoop I turn n h

noncomputable def AP : Array UInt8 := #[65, 66, 67, 68, 69, 70, 71, 72, 73, 74, 75, 76, 77, 78, 79, 80]
noncomputable def wb : Nat → Nat → List UInt8
  | 0, _ => []
  | n + 1, v => if v = 0 then [] else wb n (v / 16) ++ [(65 + v % 16).toUInt8]
noncomputable def Wb (v : Nat) : Array UInt8 := (wb 3 v).toArray

local macro_rules | `(tactic| walk_at "eval Name") => `(tactic| (k_here; (first | refine nameX_L (by k_asm) (by assumption) ?_ | refine nameX_L (by k_asm) (by first | (with_unfolding_all rfl) | exact Eq.trans (by with_unfolding_all rfl) (by assumption)) ?_)))
theorem wb_len (v : Nat) : (Wb v).size ≤ 3 := by
  have key : ∀ n v, (wb n v).length ≤ n := by
    intro n
    induction n with
    | zero => intro v; simp [wb]
    | succ n ih => intro v; simp only [wb]; split <;> simp; exact ih _
  have := key 3 v
  simpa [Wb] using this
theorem wb_step (v : Nat) (h : v < 272) (h0 : v ≠ 0) : Wb (v / 16) ++ #[(65 + v % 16).toUInt8] = Wb v := by
  have key : ∀ x : Fin 272, x.val = 0 ∨ Wb (x.val / 16) ++ #[(65 + x.val % 16).toUInt8] = Wb x.val := by decide +kernel
  rcases key ⟨v, h⟩ with e | e
  · exact absurd e h0
  · exact e
section
local macro_rules | `(tactic| walk_at "exec While Name cons nil") => `(tactic| refine halt ?_)
@[reducible] noncomputable def NumI (s : Shared) (num : Int) (j : Nat) (s' : Shared) : Prop :=
  ∃ m' x t1 b t2 t3 h' tk, s' = { s with heap := h', toks := tk } ∧ Fr s.heap s.heap.objs.size h' m' ∧ m' (Str.ofString "num") = some (.int ((x : Nat) : Int) t1) ∧ m' (Str.ofString "val") = some (.bytes b t2) ∧ m' (Str.ofString "AP") = some (.bytes AP t3) ∧ j = x ∧ x < 272 ∧ Wb x ++ b = Wb num.natAbs
noncomputable def Sint2ap (w : World) (mean : ExcName → Option Value) (mg : Str → Option Value) (mb : Str → Option Value) (num : Int) (tk : Tok) (dp : Nat) (fr : Option (List Env)) (gd : Option (List Code)) (un : Nat) (s : Shared) (Q : Value → Shared → Prop) (E : Value → Shared → Prop) : Prop := ∀ (h1 : num.natAbs < 272) (hA : AOk 3 (Around.mk none dp fr gd un)) (hS : St w mean mg mb s.heap) (hret : ∀ v h' tk', (∃ t, v = .bytes (Wb num.natAbs) t) → Keep s.heap h' → Q v { s with heap := h', toks := tk' }),
    wpAny (model PG w) (Around.mk none dp fr gd un) (call (.ref 194) [.int num tk]) Q E s
noncomputable def cint2ap : PV := @Classical.epsilon PV pv0 fun x => ¬ Sint2ap x.w x.mean x.mg x.mb x.num x.tk x.dp x.fr x.gd x.un x.s x.Q x.E
namespace Kint2ap
@[irreducible] noncomputable def w : World := cint2ap.w
@[irreducible] noncomputable def mean : ExcName → Option Value := cint2ap.mean
@[irreducible] noncomputable def mg : Str → Option Value := cint2ap.mg
@[irreducible] noncomputable def mb : Str → Option Value := cint2ap.mb
@[irreducible] noncomputable def num : Int := cint2ap.num
@[irreducible] noncomputable def tk : Tok := cint2ap.tk
@[irreducible] noncomputable def dp : Nat := cint2ap.dp
@[irreducible] noncomputable def fr : Option (List Env) := cint2ap.fr
@[irreducible] noncomputable def gd : Option (List Code) := cint2ap.gd
@[irreducible] noncomputable def un : Nat := cint2ap.un
@[irreducible] noncomputable def s : Shared := cint2ap.s
@[irreducible] noncomputable def Q : Value → Shared → Prop := cint2ap.Q
@[irreducible] noncomputable def E : Value → Shared → Prop := cint2ap.E
theorem holds : Sint2ap w mean mg mb num tk dp fr gd un s Q E := by
  intro h1 hA hS hret
  have X := hS.X
  have T := hS.T
  refine wpAny_call ?_
  walk_at "mine_enter"
  intro h₁ F
  have N : News s.heap s.heap.objs.size h₁ [] := News.nil
  (try dsimp only)
  k_steps
  refine unhalt ?_
  rename Fr _ _ _ _ => F1
  refine wpAny_While ?_
  have e0 : (if num < 0 then -num else num) = (num.natAbs : Int) := by split <;> omega
  rw [e0] at F1
  refine whileH (NumI s num) ?turn num.natAbs
    ⟨_, _, _, #[], _, _, _, _, rfl, F1, by with_unfolding_all rfl, by with_unfolding_all rfl, by with_unfolding_all rfl, rfl, h1, by simp⟩
  rintro j s' ⟨m', x, t1, b, t2, t3, h', tk', rfl, F', eNum, eVal, eAP, rfl, hx, hb⟩
  have N' : News s.heap s.heap.objs.size h' [] := News.nil
  k_steps
  · refine unhalt ?_
    rename Fr _ _ _ _ => F5
    rename News _ _ _ _ => N5
    refine KBc.slice_K (s := ⟨_, _, _, _, _⟩) F5 N5 (ks := (AP.toList.map fun c => (c.toNat : Int))) rfl (by constructor) (by constructor) (by decide) ?_
    intro h6 t6 k6 F6 N6 _
    have ed : ((j : Nat) : Int).fmod 16 = ((j % 16 : Nat) : Int) := by rw [Int.fmod_eq_emod_of_nonneg _ (by omega)]; rfl
    have ep : KBy.picked AP (some (((j : Nat) : Int).fmod 16)) (some (((j : Nat) : Int).fmod 16 + 1)) = #[(65 + j % 16).toUInt8] := by
      rw [ed]
      have key : ∀ d : Fin 16, KBy.picked AP (some ((d.val : Nat) : Int)) (some (((d.val : Nat) : Int) + 1)) = #[(65 + d.val).toUInt8] := by decide +kernel
      exact key ⟨j % 16, Nat.mod_lt _ (by omega)⟩
    rw [ep]
    (try dsimp only)
    clear F5 N5
    iterate 1 walk_at "kst"
    have hbs : b.size ≤ 3 := by
      have h2 := congrArg Array.size hb
      have h3 := wb_len num.natAbs
      simp only [Array.size_append] at h2
      omega
    refine KBa.add_K rfl rfl (by rw [KBw.ints_length, KBw.ints_length]; show 1 + b.size ≤ _; omega) (fun t7 k7 _ => ?_)
    (try dsimp only)
    k_steps
    rename Fr _ _ _ _ => F8
    have efd : ((j : Nat) : Int).fdiv 16 = ((j / 16 : Nat) : Int) := by rw [Int.fdiv_eq_ediv_of_nonneg _ (by omega)]; rfl
    have hj0 : j ≠ 0 := by omega
    rw [efd] at F8
    refine' unhalt ⟨j / 16, ?za, _, j / 16, _, _, _, t3, _, _, rfl, F8, ?zn, ?zv, ?zp, rfl, ?zq, ?zr⟩
    case zn => with_unfolding_all rfl
    case zv => with_unfolding_all rfl
    case zp => exact Eq.trans (b := m' (Str.ofString "AP")) (by with_unfolding_all rfl) eAP
    case za => omega
    case zq => omega
    case zr => rw [← hb, ← wb_step j hx hj0, Array.append_assoc]
  · have hj : j = 0 := by omega
    subst hj
    rename Fr _ _ _ _ => F8
    exact hret _ _ _ ⟨_, congrArg (Value.bytes · _) (Eq.trans (by simp [Wb, wb]) hb)⟩ F8.keep
end Kint2ap
theorem int2ap (w : World) (mean : ExcName → Option Value) (mg mb : Str → Option Value) (num : Int) (tk : Tok) (h1 : num.natAbs < 272) :
    Pure 3 w mean mg mb 194 [.int num tk] (fun r => ∃ t, r = .bytes (Wb num.natAbs) t) := by
  intro A s Q E hA hS hret
  obtain ⟨hd0, dp, fr, gd, un⟩ := A
  obtain rfl : hd0 = none := hA.hd
  exact skolem pv0 (fun x => Sint2ap x.w x.mean x.mg x.mb x.num x.tk x.dp x.fr x.gd x.un x.s x.Q x.E) (by with_unfolding_all exact Kint2ap.holds) ⟨w, mean, mg, mb, num, tk, dp, fr, gd, un, s, Q, E, (Classical.choice pv0).a, (Classical.choice pv0).b, (Classical.choice pv0).t1, (Classical.choice pv0).t2, (Classical.choice pv0).t3, (Classical.choice pv0).n, (Classical.choice pv0).x, (Classical.choice pv0).bbx, (Classical.choice pv0).mkF, (Classical.choice pv0).v, (Classical.choice pv0).d⟩ h1 hA hS hret
end
end
end Mine
end OfA2
section OfA3
open PySem PySem.W PySem.Calls PyProof.Rows
set_option Elab.async false
set_option maxRecDepth 100000
set_option maxHeartbeats 8000000
set_option pp.maxSteps 1500
namespace Mine
noncomputable section
theorem filled3 : kk.heap_1 = kk.heap_1 ∧ PySem.Challenge.rw_wu0057_01.name = PySem.Challenge.rw_wu0057_01.name := by
  k_fill
  exact ⟨rfl, rfl⟩
local macro_rules | `(tactic| walk_at "eval Name") => `(tactic| (k_here; (first | refine nameX_L (by k_asm) (by assumption) ?_ | refine nameX_L (by k_asm) (by first | (with_unfolding_all rfl) | exact Eq.trans (by with_unfolding_all rfl) (by assumption)) ?_)))
local macro_rules | `(tactic| walk_at "loadName") => `(tactic| (k_here; (refine ldn (by k_asm) (by assumption) ?_)))
local macro_rules | `(tactic| walk_at "subscriptTail Name Slice str ref") => `(tactic| (k_here; (rename Fr _ _ _ _ => F'); (rename News _ _ _ _ => N'); first
  | (refine slice_strN_sn_len (hsz := by rw [sizeLine_eq]; omega) (s := ⟨_, _, _, _, _⟩) F' N' fun _ _ _ _ _ _ => ?_)
  | (refine slice_strN_ns_len (hsz := by rw [sizeLine_eq]; omega) (s := ⟨_, _, _, _, _⟩) F' N' fun _ _ _ _ _ _ => ?_)
  | (refine slice_strN_ss_len (hsz := by rw [sizeLine_eq]; omega) (s := ⟨_, _, _, _, _⟩) F' N' fun _ _ _ _ _ _ => ?_)
  | (refine slice_strN_nn_len (hsz := by rw [sizeLine_eq]; omega) (s := ⟨_, _, _, _, _⟩) F' N' fun _ _ _ _ _ _ => ?_)))
theorem slice_from (x : Str) (i : Nat) (h : i ≤ x.length) : Txt.slice x (some (i : Int)) none = ⟨(x.cps.toList.drop i).toArray⟩ := by
  have e := slice_closes_fromL (x := x) (i := (i : Int)) (b := (x.length : Int)) (by omega) (by omega) rfl
  rw [beq_iff_eq] at e
  rw [e]
  have : ((x.length : Int) - (i : Int)).toNat = x.cps.toList.length - i := by show ((x.cps.size : Int) - i).toNat = _; simp
  rw [this, Int.toNat_natCast, List.take_of_length_le (by simp)]
theorem slice_len (x : Str) (i : Nat) (h : i ≤ x.length) : ((Txt.slice x (some (i : Int)) none).length : Int) = x.length - i := by
  rw [slice_from x i h]
  simp only [Str.length] at h ⊢
  simp
  omega
theorem slice_all (x : Str) : Txt.slice x none none = x := by
  have e : (Builtin.Str.strSliceIndices none none 1 x.length).length = x.length := by
    unfold Builtin.Str.strSliceIndices sliceRange
    simp only [show (1 : Int) > 0 by decide, if_true]
    split
    · simp
    · simp; omega
  unfold Txt.slice
  rw [if_pos (by rw [e]; simp)]
theorem txt_item (x : Str) (i : Nat) (h : i < x.length) : Txt.item x (i : Int) = ⟨#[(x.cps[i]?).getD 0]⟩ := by
  have h' : (i : Int) < (x.cps.size : Int) := by simp only [Str.length] at h; omega
  have h2 : ¬ ((i : Int) < 0) := by omega
  unfold Txt.item Txt.charAt
  simp [seqIndex?, h', h2, Str.length]
section
local macro_rules | `(tactic| walk_at "exec While") => `(tactic| refine halt ?_)
@[reducible] noncomputable def LevI (s : Shared) (a b : Str) (n : Nat) (j : Nat) (s' : Shared) : Prop :=
  ∃ m' i u1 u2 u3 u4 h' tk, s' = { s with heap := h', toks := tk } ∧ Fr s.heap s.heap.objs.size h' m' ∧ m' (Str.ofString "a") = some (.str a u1) ∧ m' (Str.ofString "b") = some (.str b u2) ∧ m' (Str.ofString "pre") = some (.int ((i : Nat) : Int) u3) ∧ m' (Str.ofString "max_cost") = some (.int 0 u4) ∧ j = n - i ∧ i ≤ n
@[reducible] noncomputable def LevJ (s : Shared) (a b : Str) (n : Nat) (j : Nat) (s' : Shared) : Prop :=
  ∃ m' u1 u2 u3 h' tk, s' = { s with heap := h', toks := tk } ∧ Fr s.heap s.heap.objs.size h' m' ∧ m' (Str.ofString "a") = some (.str (Txt.slice a (some (n : Int)) none) u1) ∧ m' (Str.ofString "b") = some (.str (Txt.slice b (some (n : Int)) none) u2) ∧ m' (Str.ofString "post") = some (.int 0 u3)
@[reducible] noncomputable def LevR1 (s : Shared) (a b : Str) (n : Nat) (r : Result) (s' : Shared) : Prop :=
  r = .ok .next ∧ ∃ m' u1 u2 u3 u4 h' tk, s' = { s with heap := h', toks := tk } ∧ Fr s.heap s.heap.objs.size h' m' ∧ m' (Str.ofString "a") = some (.str a u1) ∧ m' (Str.ofString "b") = some (.str b u2) ∧ m' (Str.ofString "pre") = some (.int ((n : Nat) : Int) u3) ∧ m' (Str.ofString "max_cost") = some (.int 0 u4)
@[reducible] noncomputable def LevR2 (s : Shared) (a b : Str) (n : Nat) (r : Result) (s' : Shared) : Prop :=
  r = .ok .next ∧ ∃ m' u1 u2 u3 h' tk, s' = { s with heap := h', toks := tk } ∧ Fr s.heap s.heap.objs.size h' m' ∧ m' (Str.ofString "a") = some (.str (Txt.slice a (some (n : Int)) none) u1) ∧ m' (Str.ofString "b") = some (.str (Txt.slice b (some (n : Int)) none) u2) ∧ m' (Str.ofString "post") = some (.int 0 u3)
noncomputable def Slev (w : World) (mean : ExcName → Option Value) (mg : Str → Option Value) (mb : Str → Option Value) (dp : Nat) (fr : Option (List Env)) (gd : Option (List Code)) (un : Nat) (s : Shared) (Q : Value → Shared → Prop) (E : Value → Shared → Prop) : Prop := ∀ (a : Str) (b : Str) (t1 : Tok) (t2 : Tok) (t3 : Tok) (n : Nat) (ha : n ≤ a.length) (hb : n ≤ b.length) (hab : a ≠ b) (hp : ∀ i, i < n → a.cps[i]? = b.cps[i]?) (hz : a.length = n ∨ b.length = n) (hla : a.length ≤ 100) (hlb : b.length ≤ 100) (hA : AOk 3 (Around.mk none dp fr gd un)) (hS : St w mean mg mb s.heap) (hret : ∀ v h' tk', (∃ t, v = .int (2 * ((a.length : Int) + b.length - 2 * n)) t) → Keep s.heap h' → Q v { s with heap := h', toks := tk' }),
    wpAny (model PG w) (Around.mk none dp fr gd un) (call (.ref 60) [.str a t1, .str b t2, .int 0 t3]) Q E s
noncomputable def clev : PV := @Classical.epsilon PV pv0 fun x => ¬ Slev x.w x.mean x.mg x.mb x.dp x.fr x.gd x.un x.s x.Q x.E
namespace Klev
@[irreducible] noncomputable def w : World := clev.w
@[irreducible] noncomputable def mean : ExcName → Option Value := clev.mean
@[irreducible] noncomputable def mg : Str → Option Value := clev.mg
@[irreducible] noncomputable def mb : Str → Option Value := clev.mb
@[irreducible] noncomputable def dp : Nat := clev.dp
@[irreducible] noncomputable def fr : Option (List Env) := clev.fr
@[irreducible] noncomputable def gd : Option (List Code) := clev.gd
@[irreducible] noncomputable def un : Nat := clev.un
@[irreducible] noncomputable def s : Shared := clev.s
@[irreducible] noncomputable def Q : Value → Shared → Prop := clev.Q
@[irreducible] noncomputable def E : Value → Shared → Prop := clev.E
theorem holds : Slev w mean mg mb dp fr gd un s Q E := by
  intro a b t1 t2 t3 n ha hb hab hp hz hla hlb hA hS hret
  have X := hS.X
  have T := hS.T
  refine wpAny_call ?_
  walk_at "mine_enter"
  intro h₁ F
  have N : News s.heap s.heap.objs.size h₁ [] := News.nil
  (try dsimp only)
  k_steps
  all_goals try (exfalso; rename (a == b) = true => hq; exact hab (by simpa using hq); done)
  refine unhalt ?_
  rename Fr _ _ _ _ => F1
  rename News _ _ _ _ => N1
  refine wpAny_While ?_
  refine codeAny_mono (R := fun r s' => Halt (LevR1 s a b n r s')) ?loop1 ?rest1
  case loop1 =>
    refine whileH (LevI s a b n) ?turn n
      ⟨_, 0, _, _, _, _, _, _, rfl, F1, by with_unfolding_all rfl, by with_unfolding_all rfl, by with_unfolding_all rfl, by with_unfolding_all rfl, rfl, Nat.zero_le _⟩
    clear F1 N1
    rintro j s' ⟨m', i, u1, u2, u3, u4, h', tk', rfl, F', eA, eB, ePre, eMax, rfl, hi⟩
    have N' : News s.heap s.heap.objs.size h' [] := News.nil
    k_steps
    · rename Fr _ _ _ _ => F9
      have hin : i < n := by omega
      refine' unhalt ⟨n - (i + 1), ?za, _, i + 1, u1, u2, _, u4, _, _, rfl, F9, ?z1, ?z2, ?z3, ?z4, rfl, ?zb⟩
      case z1 => exact Eq.trans (b := m' (Str.ofString "a")) (by with_unfolding_all rfl) eA
      case z2 => exact Eq.trans (b := m' (Str.ofString "b")) (by with_unfolding_all rfl) eB
      case z3 => with_unfolding_all rfl
      case z4 => exact Eq.trans (b := m' (Str.ofString "max_cost")) (by with_unfolding_all rfl) eMax
      case za => omega
      case zb => omega
    · exfalso
      have hin : i < n := by omega
      rename (_ == _) = false => hne
      have e := hp i hin
      rw [txt_item _ _ (by omega), txt_item _ _ (by omega), e] at hne
      simp at hne
    · rename Fr _ _ _ _ => F9
      obtain rfl : i = n := by omega
      exact unhalt ⟨rfl, m', u1, u2, u3, u4, _, _, rfl, F9, eA, eB, ePre, eMax⟩
    · rename Fr _ _ _ _ => F9
      obtain rfl : i = n := by omega
      exact unhalt ⟨rfl, m', u1, u2, u3, u4, _, _, rfl, F9, eA, eB, ePre, eMax⟩
  case rest1 =>
    rintro r s' ⟨rfl, m', u1, u2, u3, u4, h', tk', rfl, F', eA, eB, ePre, eMax⟩
    clear F1 N1
    have N' : News s.heap s.heap.objs.size h' [] := News.nil
    (try dsimp only)
    k_steps
    refine unhalt ?_
    rename Fr _ _ _ _ => F1
    rename News _ _ _ _ => N1
    refine wpAny_While ?_
    have la : ((Txt.slice a (some (n : Int)) none).length : Int) = a.length - n := slice_len a n ha
    have lb : ((Txt.slice b (some (n : Int)) none).length : Int) = b.length - n := slice_len b n hb
    refine codeAny_mono (R := fun r s' => Halt (LevR2 s a b n r s')) ?loop2 ?rest2
    case loop2 =>
      refine whileH (LevJ s a b n) ?turn2 0
        ⟨_, _, _, _, _, _, rfl, F1, by with_unfolding_all rfl, by with_unfolding_all rfl, by with_unfolding_all rfl⟩
      clear F1 N1
      rintro j s' ⟨m', u1, u2, u3, h', tk', rfl, F', eA, eB, ePost⟩
      have N' : News s.heap s.heap.objs.size h' [] := News.nil
      k_steps
      all_goals first
        | (rename Fr _ _ _ _ => F9; exact unhalt ⟨rfl, m', u1, u2, u3, _, _, rfl, F9, eA, eB, ePost⟩)
        | (exfalso; rw [slice_all] at *; omega)
    case rest2 =>
      clear F1 N1
      rintro r s' ⟨rfl, m', u1, u2, u3, h', tk', rfl, F', eA, eB, ePost⟩
      have N' : News s.heap s.heap.objs.size h' [] := News.nil
      (try dsimp only)
      k_steps
      all_goals first
        | (rename Fr _ _ _ _ => F9; refine hret _ _ _ ⟨_, congrArg (Value.int · _) ?_⟩ F9.keep; rw [slice_all, slice_all, la, lb]; omega)
        | (exfalso; omega)
end Klev
theorem lev (w : World) (mean : ExcName → Option Value) (mg mb : Str → Option Value) (a b : Str) (t1 t2 t3 : Tok) (n : Nat) (ha : n ≤ a.length) (hb : n ≤ b.length) (hab : a ≠ b)
    (hp : ∀ i, i < n → a.cps[i]? = b.cps[i]?) (hz : a.length = n ∨ b.length = n) (hla : a.length ≤ 100) (hlb : b.length ≤ 100) :
    Pure 3 w mean mg mb 60 [.str a t1, .str b t2, .int 0 t3] (fun r => ∃ t, r = .int (2 * ((a.length : Int) + b.length - 2 * n)) t) := by
  intro A s Q E hA hS hret
  obtain ⟨hd0, dp, fr, gd, un⟩ := A
  obtain rfl : hd0 = none := hA.hd
  exact skolem pv0 (fun x => Slev x.w x.mean x.mg x.mb x.dp x.fr x.gd x.un x.s x.Q x.E) (by with_unfolding_all exact Klev.holds) ⟨w, mean, mg, mb, (Classical.choice pv0).num, (Classical.choice pv0).tk, dp, fr, gd, un, s, Q, E, (Classical.choice pv0).a, (Classical.choice pv0).b, (Classical.choice pv0).t1, (Classical.choice pv0).t2, (Classical.choice pv0).t3, (Classical.choice pv0).n, (Classical.choice pv0).x, (Classical.choice pv0).bbx, (Classical.choice pv0).mkF, (Classical.choice pv0).v, (Classical.choice pv0).d⟩ a b t1 t2 t3 n ha hb hab hp hz hla hlb hA hS hret
end
end
end Mine
end OfA3
section OfA4
open PySem PySem.W PySem.Calls PyProof.Rows
set_option Elab.async false
set_option maxRecDepth 100000
set_option maxHeartbeats 8000000
set_option pp.maxSteps 1500
namespace Mine
noncomputable section

/-- the heap with the objects of a list hidden -/
noncomputable def hide (l : List Addr) (h : Heap) : Heap := ⟨(h.objs.mapIdx fun i o => if i ∈ l then { o with data := .freed } else o), h.life⟩
theorem hide_size (l : List Addr) (h : Heap) : (hide l h).objs.size = h.objs.size := by simp [hide]
theorem hide_get (l : List Addr) (h : Heap) (b : Addr) : (hide l h).get? b = if b ∈ l then none else h.get? b := by
  unfold hide Heap.get?
  simp only [Array.getElem?_mapIdx]
  cases e : h.objs[b]? with
  | none => simp
  | some o =>
    by_cases hb : b ∈ l
    · simp [hb]
    · simp [hb]
theorem hide_keep (l : List Addr) (h : Heap) : Keep (hide l h) h := by
  intro b o e
  rw [hide_get] at e
  split at e
  · cases e
  · exact e

noncomputable def tabP (K : Frag) (x : Str) : Option Addr :=
  match K.lookup mainGlobals with
  | some ⟨_, _, .dict es _, _⟩ => match nsFind es x with
    | some (.ref a) => match K.lookup a with
      | some ⟨_, _, .func fd, _⟩ => match fd.code with
        | .ref c => match K.lookup c with
          | some ⟨_, _, .fields vs, _⟩ => match ((vs : Array Value)[11]? : Option Value) with
            | some (.ref P) => some P
            | _ => none
          | _ => none
        | _ => none
      | _ => none
    | _ => none
  | _ => none
theorem tabP_ok {K : Frag} {h : Heap} {mg : Str → Option Value} {x : Str} {a c P Pz : Addr} {o : Obj} {fd : FuncData} {ps : Array Value} (X : K.In h) (g : h.Ns mainGlobals mg) (h1 : mg x = some (.ref a)) (h2 : h.get? a = some o) (h3 : o.data = .func fd)
    (h4 : fd.code = .ref c) (h6 : h.TableAt c P ps) (e : tabP K x = some Pz) : P = Pz := by
  unfold tabP at e
  split at e
  case h_2 => cases e
  case h_1 ca da es ep sl e1 =>
  have q1 := X _ _ e1
  obtain ⟨o', es', ep', g1, g2, _, g4⟩ := g
  rw [q1] at g1; cases g1; cases g2
  rw [g4 x, h1] at e
  dsimp only at e
  split at e
  case h_2 => cases e
  case h_1 e2 =>
  have q2 := X _ _ e2
  rw [h2] at q2; cases q2; cases h3
  rw [h4] at e
  dsimp only at e
  split at e
  case h_2 => cases e
  case h_1 e3 =>
  have q3 := X _ _ e3
  obtain ⟨⟨o', vs', t1, _, t2, t3⟩, _⟩ := h6
  rw [q3] at t1; cases t1; cases t2
  rw [t3] at e
  cases e
  rfl

theorem tabs_checked (P : Params) : ∀ x ∈ (recsOf hd.view_39).map (·.name), ∃ z, tabP (hd.heap_39 P) x = some z ∧ z ≠ 101 ∧ z ≠ 108 := by
  have key : (((recsOf hd.view_39).map (·.name)).all fun x => match tabP (hd.heap_39 P) x with | some z => z != 101 && z != 108 | none => false) = true := by
    with_unfolding_all rfl
  intro x hx
  have := List.all_eq_true.mp key x hx
  split at this
  · rename_i z e
    refine ⟨z, e, ?_, ?_⟩ <;> (rintro rfl; cases this)
  · cases this
theorem heap_39_101 (P : Params) : ∃ c d s, (hd.heap_39 P).lookup 101 = some ⟨c, d, .fields #[], s⟩ := ⟨_, _, _, by with_unfolding_all rfl⟩
theorem heap_39_108 (P : Params) : ∃ c d s, (hd.heap_39 P).lookup 108 = some ⟨c, d, .fields #[], s⟩ := ⟨_, _, _, by with_unfolding_all rfl⟩

noncomputable def KeepT (h h' : Heap) : Prop := ∀ b o, o.data ≠ .fields #[] → h.get? b = some o → h'.get? b = some o
theorem hide_keepT {P : Params} {h : Heap} (Y : (hd.heap_39 P).In h) : KeepT h (hide [101, 108] h) := by
  intro b o hn e
  rw [hide_get]
  split
  · rename_i hb
    exfalso
    rcases List.mem_cons.mp hb with rfl | hb
    · obtain ⟨c, d, s, e1⟩ := heap_39_101 P
      have := Y _ _ e1
      rw [e] at this; cases this
      exact hn rfl
    · rcases List.mem_cons.mp hb with rfl | hb
      · obtain ⟨c, d, s, e1⟩ := heap_39_108 P
        have := Y _ _ e1
        rw [e] at this; cases this
        exact hn rfl
      · cases hb
  · exact e
theorem nsT {h h' : Heap} {a : Addr} {m : Str → Option Value} (x : h.Ns a m) (k : KeepT h h') : h'.Ns a m := by
  obtain ⟨o, es, ep, e, d, r⟩ := x
  exact ⟨o, es, ep, k _ _ (by rw [d]; intro q; cases q) e, d, r⟩
theorem tailT {h h' : Heap} {bmB tl : List Value} (T : OwnTailQ h bmB tl) (k : KeepT h h') : OwnTailQ h' bmB tl := by
  induction T with
  | base => exact .base
  | own hA hN hq _ ih => exact .own (k _ _ (by intro q; cases q) hA) (nsT hN k) hq ih
theorem codeT {h h' : Heap} {cd : Value} {q : Str} (x : h.CodeRec cd q) (k : KeepT h h') : h'.CodeRec cd q := by
  obtain ⟨c, o, vs, t, e, g, d, r⟩ := x
  refine ⟨c, o, vs, t, e, k _ _ (by rw [d]; intro q; cases q; cases r) g, d, r⟩
theorem Top.hidden {w : World} {h : Heap} {mean : ExcName → Option Value} {mg mb : Str → Option Value} (Y : (hd.heap_39 w.params).In h) (T : Top hd.view_39 LO mean mg mb h) :
    Top hd.view_39 LO mean mg mb (hide [101, 108] h) := by
  have k := hide_keepT Y
  refine ⟨nsT T.g k, nsT T.b k, ?_, ?_, ?_, ?_, T.const, T.free, T.builtins, ?_, ?_, ?_⟩
  · obtain ⟨mc, a, b⟩ := T.nolimit
    exact ⟨mc, nsT a k, b⟩
  · obtain ⟨mc, a, b⟩ := T.nodigits
    exact ⟨mc, nsT a k, b⟩
  · intro d hd
    obtain ⟨a, o, pm, code, doc, h1, h2, h3, h4⟩ := T.fn d hd
    exact ⟨a, o, pm, code, doc, h1, k _ _ (by rw [h3]; intro q; cases q) h2, h3, codeT h4 k⟩
  · intro o ho
    obtain ⟨C, ⟨b, bm, N, nm, q, bs, hdct, sn, sub, ab, col, dd, k0, k1, k2, k3, k5, mN, hC, hN, hq, T'⟩, hm⟩ := T.own o ho
    exact ⟨C, ⟨b, bm, N, nm, q, bs, hdct, sn, sub, ab, col, dd, k0, k1, k2, k3, k5, mN, k _ _ (by intro q; cases q) hC, nsT hN k, hq, tailT T' k⟩, hm⟩
  · intro d hd
    obtain ⟨a, o, fd, c, P, h1, h2, h3, h4, h5, h6⟩ := T.tab d hd
    obtain ⟨z, ez, z1, z2⟩ := tabs_checked w.params d.name (List.mem_map_of_mem hd)
    obtain rfl : P = z := tabP_ok Y T.g h1 h2 h3 h4 h6 ez
    obtain ⟨⟨o1, vs, t1, t2, t3, t4⟩, t5⟩ := h6
    have hP : (hide [101, 108] h).get? P = some { cls := .none, data := .fields #[] } := by
      rw [hide_get, if_neg (by simp [z1, z2])]; exact t5
    have hC : (hide [101, 108] h).get? c = some o1 := k _ _ (by rw [t3]; intro q; cases q; cases t4) t1
    refine ⟨a, o, fd, c, P, h1, k _ _ (by rw [h3]; intro q; cases q) h2, h3, h4, ?_, ⟨⟨o1, vs, hC, t2, t3, t4⟩, hP⟩⟩
    obtain ⟨o', vs', file, tf, flags, tg, inF, text, tt, op, q1, q2, q3, q4, q5, q6, q7, q8, q9, q10⟩ := h5
    rw [t1] at q1; cases q1
    rw [t5] at q8; cases q8
    exact ⟨_, vs', file, tf, flags, tg, inF, text, tt, _, hC, q2, q3, q4, q5, q6, q7, hP, q9, q10⟩
  · obtain ⟨bm, ob, h1, h2, h3, h4, h5, h6⟩ := T.bmain
    exact ⟨bm, ob, h1, h2, k _ _ (by rw [h6]; intro q; cases q) h3, h4, h5, h6⟩
  · intro hi
    have S := T.seer hi
    refine ⟨?_, ?_, ?_, ?_⟩
    · obtain ⟨mc, a, b⟩ := S.statics
      exact ⟨mc, nsT a k, b⟩
    · obtain ⟨mc, a, b⟩ := S.mods
      exact ⟨mc, nsT a k, b⟩
    · obtain ⟨mc, a, b⟩ := S.imp
      exact ⟨mc, nsT a k, b⟩
    · obtain ⟨mg', bm', ob', a, b, c, d, e⟩ := S.main
      obtain ⟨bm, ob, h1, h2, h3, h4, h5, h6⟩ := T.bmain
      have eg : mg' = mg := by
        obtain ⟨o, es, ep, g1, g2, _, g4⟩ := a
        obtain ⟨o', es', ep', g1', g2', _, g4'⟩ := T.g
        rw [g1] at g1'; cases g1'; rw [g2] at g2'; cases g2'
        funext x; rw [← g4, ← g4']
      subst eg
      rw [h1] at b; cases b
      rw [h3] at c; cases c
      exact ⟨_, _, _, nsT a k, h1, k _ _ (by rw [h6]; intro q; cases q) h3, d, e⟩

theorem in_hidden {K : Frag} {h : Heap} {l : List Addr} (X : K.In h) (e : ∀ a ∈ l, K.lookup a = none) : K.In (hide l h) := by
  intro a o q
  rw [hide_get, if_neg ?_]
  · exact X a o q
  · intro ha
    rw [e a ha] at q; cases q
theorem kx_in {P : Params} {h : Heap} (Y : (hd.heap_39 P).In h) : (KX P).In h := by
  intro a o q
  refine Y a o ?_
  have key : ∀ (K : Frag), (K.filter fun p => p.1 != 101 && p.1 != 108).lookup a = some o → K.lookup a = some o := by
    intro K
    induction K with
    | nil => intro q; cases q
    | cons p r ih =>
      obtain ⟨b, x⟩ := p
      intro q
      rw [List.filter_cons] at q
      by_cases hab : a = b
      · subst hab
        split at q
        · simpa [List.lookup] using q
        · rename_i hne
          exfalso
          have hlk : ∀ (K : Frag), (∀ p ∈ K, (p.1 != 101 && p.1 != 108) = true) → ¬ (a != 101 && a != 108) = true → K.lookup a = none := by
            intro K hK hb
            induction K with
            | nil => rfl
            | cons p r ih =>
              obtain ⟨c, y⟩ := p
              rw [List.lookup]
              have hac : (a == c) = false := by
                rw [beq_eq_false_iff_ne]; rintro rfl
                exact hb (hK _ (List.mem_cons_self ..))
              rw [hac]
              exact ih fun p hp => hK p (List.mem_cons_of_mem _ hp)
          rw [hlk _ (fun p hp => (List.mem_filter.mp hp).2) hne] at q
          cases q
      · have hab' : (a == b) = false := beq_eq_false_iff_ne.mpr hab
        rw [List.lookup, hab']
        dsimp only
        refine ih ?_
        split at q
        · rw [List.lookup, hab'] at q; exact q
        · exact q
  exact key _ q
theorem st_entry {w : World} {h : Heap} {mean : ExcName → Option Value} {mg mb : Str → Option Value} (X : (kk.heap_1 w.params).In h) (Y : (hd.heap_39 w.params).In h) (T : Top hd.view_39 LO mean mg mb h) :
    St w mean mg mb (hide [101, 108] h) := by
  refine ⟨in_hidden X ?_, in_hidden (kx_in Y) ?_, Top.hidden Y T⟩
  · intro a ha
    rcases List.mem_cons.mp ha with rfl | ha
    · with_unfolding_all rfl
    · rcases List.mem_cons.mp ha with rfl | ha
      · with_unfolding_all rfl
      · cases ha
  · intro a ha
    rcases List.mem_cons.mp ha with rfl | ha
    · with_unfolding_all rfl
    · rcases List.mem_cons.mp ha with rfl | ha
      · with_unfolding_all rfl
      · cases ha
theorem k_sub (P : Params) : (kk.heap_1 P).map (fun p => (hd.heap_39 P).lookup p.1) = (kk.heap_1 P).map (fun p => some p.2) := by with_unfolding_all rfl
theorem k_in {P : Params} {h : Heap} (Y : (hd.heap_39 P).In h) : (kk.heap_1 P).In h := by
  intro a o q
  refine Y a o ?_
  have key : ∀ (K : Frag), K.map (fun p => (hd.heap_39 P).lookup p.1) = K.map (fun p => some p.2) → K.lookup a = some o → (hd.heap_39 P).lookup a = some o := by
    intro K
    induction K with
    | nil => intro _ q; cases q
    | cons p r ih =>
      obtain ⟨b, x⟩ := p
      intro e q
      simp only [List.map_cons, List.cons.injEq] at e
      simp only [List.lookup] at q
      split at q
      · rename_i hq; cases q
        rw [beq_iff_eq.mp hq]; exact e.1
      · exact ih e.2 q
  exact key _ (k_sub P) q
end
end Mine
end OfA4
section OfA13
open PySem PySem.W PySem.Calls PyProof.Rows
set_option Elab.async false
set_option maxRecDepth 100000
set_option maxHeartbeats 8000000
set_option pp.maxSteps 1500
namespace Mine
noncomputable section
theorem filled13 : kk.heap_1 = kk.heap_1 ∧ PySem.Challenge.rw_wu0057_01.name = PySem.Challenge.rw_wu0057_01.name := by
  k_fill
  exact ⟨rfl, rfl⟩
local macro_rules | `(tactic| walk_at "pad") => `(tactic| skip)
local macro_rules | `(tactic| walk_at "eval Name") => `(tactic| (k_here; (first | refine nameX_L (by k_asm) (by assumption) ?_ | refine nameX_L (by k_asm) (by first | (with_unfolding_all rfl) | exact Eq.trans (by with_unfolding_all rfl) (by assumption)) ?_)))
local macro_rules | `(tactic| walk_at "loadName") => `(tactic| (k_here; (refine ldn (by k_asm) (by assumption) ?_)))
local macro_rules | `(tactic| walk_at "subscriptTail Name Slice str ref") => `(tactic| (k_here; (rename Fr _ _ _ _ => F'); (rename News _ _ _ _ => N'); first
  | (refine slice_strN_sn_len (hsz := by rw [sizeLine_eq]; omega) (s := ⟨_, _, _, _, _⟩) F' N' fun _ _ _ _ _ _ => ?_)
  | (refine slice_strN_ns_len (hsz := by rw [sizeLine_eq]; omega) (s := ⟨_, _, _, _, _⟩) F' N' fun _ _ _ _ _ _ => ?_)
  | (refine slice_strN_ss_len (hsz := by rw [sizeLine_eq]; omega) (s := ⟨_, _, _, _, _⟩) F' N' fun _ _ _ _ _ _ => ?_)
  | (refine slice_strN_nn_len (hsz := by rw [sizeLine_eq]; omega) (s := ⟨_, _, _, _, _⟩) F' N' fun _ _ _ _ _ _ => ?_)))
noncomputable def dbl (l : List Nat) : List Nat := l.flatMap fun c => if c = 34 then [34, 34] else [c]
noncomputable def good (l : List Nat) : Str := ⟨([50, 53, 55, 32, 34] ++ dbl l ++ [34, 32, 104, 97, 115, 32, 105, 116]).toArray⟩
theorem good_slice1 (x : List Nat) : Txt.slice (good x) none (some 3) = Str.ofString "257" := by
  have e := slice_closes_toL (x := good x) (j := 3) (by omega) (by simp [good, Str.length]; omega)
  rw [beq_iff_eq] at e
  rw [e]
  simp [good]
  with_unfolding_all rfl
theorem good_slice2 (x : List Nat) : Txt.slice (good x) (some 3) (some 5) = Str.ofString " \"" := by
  have e := slice_closesL (x := good x) (i := 3) (j := 5) (by omega) (by omega) (by simp [good, Str.length]; omega)
  rw [beq_iff_eq] at e
  rw [e]
  simp [good]
  with_unfolding_all rfl
theorem dbl_app (p r : List Nat) : dbl (p ++ r) = dbl p ++ dbl r := by simp [dbl]
theorem good_len (x : List Nat) : (good x).length = 13 + (dbl x).length := by simp [good, Str.length]; omega
theorem good_at (p r : List Nat) (k : Nat) : (good (p ++ r)).cps[5 + (dbl p).length + k]? = (dbl r ++ [34, 32, 104, 97, 115, 32, 105, 116])[k]? := by
  have e : (good (p ++ r)).cps = (([50, 53, 55, 32, 34] ++ dbl p) ++ (dbl r ++ [34, 32, 104, 97, 115, 32, 105, 116])).toArray := by simp [good, dbl_app]
  rw [e, List.getElem?_toArray, List.getElem?_append_right (by simp; omega)]
  congr 1
  simp
  omega
section
local macro_rules | `(tactic| walk_at "exec While") => `(tactic| refine halt ?_)
@[reducible] noncomputable def ParseI (s : Shared) (g : Str) (x : List Nat) (j : Nat) (s' : Shared) : Prop :=
  ∃ m' p r u1 u2 u3 u4 h' tk, s' = { s with heap := h', toks := tk } ∧ Fr s.heap s.heap.objs.size h' m' ∧ m' (Str.ofString "resp") = some (.str g u1) ∧ m' (Str.ofString "dirname") = some (.str ⟨List.toArray p⟩ u2) ∧ m' (Str.ofString "i") = some (.int ((5 + (dbl p).length : Nat) : Int) u3) ∧ m' (Str.ofString "n") = some (.int g.length u4) ∧ j = r.length ∧ x = p ++ r
@[reducible] noncomputable def ParseR (s : Shared) (x : List Nat) (r : Result) (s' : Shared) : Prop :=
  r = .ok .next ∧ ∃ m' u2 h' tk, s' = { s with heap := h', toks := tk } ∧ Fr s.heap s.heap.objs.size h' m' ∧ m' (Str.ofString "dirname") = some (.str ⟨x.toArray⟩ u2)
noncomputable def Sparse_ok (w : World) (mean : ExcName → Option Value) (mg : Str → Option Value) (mb : Str → Option Value) (dp : Nat) (fr : Option (List Env)) (gd : Option (List Code)) (un : Nat) (s : Shared) (Q : Value → Shared → Prop) (E : Value → Shared → Prop) : Prop := ∀ (x : List Nat) (t1 : Tok) (hl : x.length ≤ 100) (hlen : (good x).length ≤ 300) (hA : AOk 3 (Around.mk none dp fr gd un)) (hS : St w mean mg mb s.heap) (hret : ∀ v h' tk', (∃ t, v = .str ⟨x.toArray⟩ t) → Keep s.heap h' → Q v { s with heap := h', toks := tk' }),
    wpAny (model PG w) (Around.mk none dp fr gd un) (call (.ref 174) [.str (good x) t1]) Q E s
noncomputable def cparse_ok : PV := @Classical.epsilon PV pv0 fun x => ¬ Sparse_ok x.w x.mean x.mg x.mb x.dp x.fr x.gd x.un x.s x.Q x.E
namespace Kparse_ok
@[irreducible] noncomputable def w : World := cparse_ok.w
@[irreducible] noncomputable def mean : ExcName → Option Value := cparse_ok.mean
@[irreducible] noncomputable def mg : Str → Option Value := cparse_ok.mg
@[irreducible] noncomputable def mb : Str → Option Value := cparse_ok.mb
@[irreducible] noncomputable def dp : Nat := cparse_ok.dp
@[irreducible] noncomputable def fr : Option (List Env) := cparse_ok.fr
@[irreducible] noncomputable def gd : Option (List Code) := cparse_ok.gd
@[irreducible] noncomputable def un : Nat := cparse_ok.un
@[irreducible] noncomputable def s : Shared := cparse_ok.s
@[irreducible] noncomputable def Q : Value → Shared → Prop := cparse_ok.Q
@[irreducible] noncomputable def E : Value → Shared → Prop := cparse_ok.E
theorem holds : Sparse_ok w mean mg mb dp fr gd un s Q E := by
  intro x t1 hl hlen hA hS hret
  have X := hS.X
  have T := hS.T
  generalize hg : good x = g at *
  refine wpAny_call ?_
  walk_at "mine_enter"
  intro h₁ F
  have N : News s.heap s.heap.objs.size h₁ [] := News.nil
  (try dsimp only)
  k_steps
  · exfalso
    rename (Txt.slice g none (some 3) != _) = true => hx
    rw [← hg, good_slice1] at hx
    simp at hx
  · exfalso
    rename (Txt.slice g (some 3) (some 5) != _) = true => hx
    rw [← hg, good_slice2] at hx
    simp at hx
  refine unhalt ?_
  rename Fr _ _ _ _ => F1
  rename News _ _ _ _ => N1
  refine wpAny_While ?_
  have hgl : g.length = 13 + (dbl x).length := by rw [← hg]; exact good_len x
  refine codeAny_mono (R := fun r s' => Halt (ParseR s x r s')) ?loop1 ?rest1
  case loop1 =>
    refine whileH (ParseI s g x) ?turn x.length
      ⟨_, [], x, _, _, _, _, _, _, rfl, F1, by with_unfolding_all rfl, by with_unfolding_all rfl, by with_unfolding_all rfl, by with_unfolding_all rfl, rfl, rfl⟩
    clear F1 N1
    rintro j s' ⟨m', p, r, u1, u2, u3, u4, h', tk', rfl, F', eR, eD, eI, eN, rfl, hpr⟩
    have N' : News s.heap s.heap.objs.size h' [] := News.nil
    have hlp : p.length ≤ 100 := by rw [hpr] at hl; simp at hl; omega
    have hdl : (dbl x).length = (dbl p).length + (dbl r).length := by rw [hpr, dbl_app]; simp
    have i0 : Txt.item g ((5 + (dbl p).length : Nat) : Int) = ⟨#[((dbl r ++ [34, 32, 104, 97, 115, 32, 105, 116])[0]?).getD 0]⟩ := by
      rw [txt_item _ _ (by omega), ← hg, hpr, ← good_at p r 0]; rfl
    have i1 : Txt.item g (((5 + (dbl p).length : Nat) : Int) + 1) = ⟨#[((dbl r ++ [34, 32, 104, 97, 115, 32, 105, 116])[1]?).getD 0]⟩ := by
      rw [show (((5 + (dbl p).length : Nat) : Int) + 1) = ((5 + (dbl p).length + 1 : Nat) : Int) by omega, txt_item _ _ (by omega), ← hg, hpr, ← good_at p r 1]
    have q34 : Str.ofString "\"" = ⟨#[34]⟩ := by with_unfolding_all rfl
    have hcase : (r = [] ∧ (dbl r ++ [34, 32, 104, 97, 115, 32, 105, 116])[0]? = some 34 ∧ (dbl r ++ [34, 32, 104, 97, 115, 32, 105, 116])[1]? = some 32) ∨ (∃ r', r = 34 :: r' ∧ (dbl r ++ [34, 32, 104, 97, 115, 32, 105, 116])[0]? = some 34 ∧ (dbl r ++ [34, 32, 104, 97, 115, 32, 105, 116])[1]? = some 34) ∨ (∃ c r', c ≠ 34 ∧ r = c :: r' ∧ (dbl r ++ [34, 32, 104, 97, 115, 32, 105, 116])[0]? = some c) := by
      cases r with
      | nil => exact .inl ⟨rfl, rfl, rfl⟩
      | cons c r' =>
        by_cases hc : c = 34
        · subst hc; exact .inr (.inl ⟨r', rfl, by simp [dbl], by simp [dbl]⟩)
        · exact .inr (.inr ⟨c, r', hc, rfl, by simp [dbl, hc]⟩)
    k_steps
    · rename (_ == _) = true => c0
      rename (_ != _) = true => c1
      rename Fr _ _ _ _ => F9
      rw [i0, q34] at c0
      rw [i1, q34] at c1
      rcases hcase with ⟨rfl, e0, e1⟩ | ⟨r', rfl, e0, e1⟩ | ⟨c, r', hc, rfl, e0⟩
      · refine unhalt ⟨rfl, _, u2, _, _, rfl, F9, ?_⟩
        rw [hpr, List.append_nil]
        exact Eq.trans (b := m' (Str.ofString "dirname")) (by with_unfolding_all rfl) eD
      · rw [e1] at c1; simp at c1
      · rw [e0] at c0; simp at c0; exact absurd c0 hc
    · rename (_ == _) = true => c0
      rename (_ != _) = false => c1
      rename Fr _ _ _ _ => F9
      rw [i0] at F9
      rw [i0, q34] at c0
      rw [i1, q34] at c1
      rcases hcase with ⟨rfl, e0, e1⟩ | ⟨r', rfl, e0, e1⟩ | ⟨c, r', hc, rfl, e0⟩
      · rw [e1] at c1; simp at c1
      · refine' unhalt ⟨r'.length, ?za, _, p ++ [34], r', u1, _, _, u4, _, _, rfl, F9, ?z1, ?z2, ?z3, ?z4, rfl, ?zb⟩
        case z1 => exact Eq.trans (b := m' (Str.ofString "resp")) (by with_unfolding_all rfl) eR
        case z4 => exact Eq.trans (b := m' (Str.ofString "n")) (by with_unfolding_all rfl) eN
        case za => simp
        case zb => rw [hpr]; simp
        case z2 =>
          refine (show _ = some (Value.str ((⟨List.toArray p⟩ : Str) ++ ⟨#[((dbl (34 :: r') ++ [34, 32, 104, 97, 115, 32, 105, 116])[0]?).getD 0]⟩) _) from by with_unfolding_all rfl).trans (congrArg (fun z => some (Value.str z _)) ?_)
          rw [e0]
          show (⟨p.toArray ++ #[34]⟩ : Str) = _
          simp
        case z3 =>
          refine (show _ = some (Value.int (((5 + (dbl p).length : Nat) : Int) + 1 + 1) _) from by with_unfolding_all rfl).trans (congrArg (fun z => some (Value.int z _)) ?_)
          rw [dbl_app, List.length_append, show (dbl [34]).length = 2 from rfl]
          omega
      · rw [e0] at c0; simp at c0; exact absurd c0 hc
    · rename (_ == _) = false => c0
      rename Fr _ _ _ _ => F9
      rw [i0] at F9
      rw [i0, q34] at c0
      rcases hcase with ⟨rfl, e0, e1⟩ | ⟨r', rfl, e0, e1⟩ | ⟨c, r', hc, rfl, e0⟩
      · rw [e0] at c0; simp at c0
      · rw [e0] at c0; simp at c0
      · refine' unhalt ⟨r'.length, ?ya, _, p ++ [c], r', u1, _, _, u4, _, _, rfl, F9, ?y1, ?y2, ?y3, ?y4, rfl, ?yb⟩
        case y1 => exact Eq.trans (b := m' (Str.ofString "resp")) (by with_unfolding_all rfl) eR
        case y4 => exact Eq.trans (b := m' (Str.ofString "n")) (by with_unfolding_all rfl) eN
        case ya => simp
        case yb => rw [hpr]; simp
        case y2 =>
          refine (show _ = some (Value.str ((⟨List.toArray p⟩ : Str) ++ ⟨#[((dbl (c :: r') ++ [34, 32, 104, 97, 115, 32, 105, 116])[0]?).getD 0]⟩) _) from by with_unfolding_all rfl).trans (congrArg (fun z => some (Value.str z _)) ?_)
          rw [e0]
          show (⟨p.toArray ++ #[c]⟩ : Str) = _
          simp
        case y3 =>
          refine (show _ = some (Value.int (((5 + (dbl p).length : Nat) : Int) + 1) _) from by with_unfolding_all rfl).trans (congrArg (fun z => some (Value.int z _)) ?_)
          rw [dbl_app, List.length_append, show (dbl [c]).length = 1 by simp [dbl, hc]]
          omega
  case rest1 =>
    clear F1 N1
    rintro r s' ⟨rfl, m', u2, h', tk', rfl, F', eD⟩
    have N' : News s.heap s.heap.objs.size h' [] := News.nil
    (try dsimp only)
    k_steps
    rename Fr _ _ _ _ => F9
    exact hret _ _ _ ⟨_, rfl⟩ F9.keep
end Kparse_ok
theorem parse_ok (w : World) (mean : ExcName → Option Value) (mg mb : Str → Option Value) (x : List Nat) (t1 : Tok) (hl : x.length ≤ 100) (hlen : (good x).length ≤ 300) :
    Pure 3 w mean mg mb 174 [.str (good x) t1] (fun r => ∃ t, r = .str ⟨x.toArray⟩ t) := by
  intro A s Q E hA hS hret
  obtain ⟨hd0, dp, fr, gd, un⟩ := A
  obtain rfl : hd0 = none := hA.hd
  exact skolem pv0 (fun x => Sparse_ok x.w x.mean x.mg x.mb x.dp x.fr x.gd x.un x.s x.Q x.E) (by with_unfolding_all exact Kparse_ok.holds) ⟨w, mean, mg, mb, (Classical.choice pv0).num, (Classical.choice pv0).tk, dp, fr, gd, un, s, Q, E, (Classical.choice pv0).a, (Classical.choice pv0).b, (Classical.choice pv0).t1, (Classical.choice pv0).t2, (Classical.choice pv0).t3, (Classical.choice pv0).n, (Classical.choice pv0).x, (Classical.choice pv0).bbx, (Classical.choice pv0).mkF, (Classical.choice pv0).v, (Classical.choice pv0).d⟩ x t1 hl hlen hA hS hret
end
end
end Mine
end OfA13
section OfA15
open PySem PySem.W PySem.Calls PyProof.Rows Builtin Builtin.Re
set_option Elab.async false
set_option maxRecDepth 100000
set_option maxHeartbeats 4000000
set_option pp.maxSteps 1500
namespace Mine
section
/-- a tree that only says its rules -/
noncomputable def run0 {α : Type} : Sem α → Option α
  | .pure a => some a
  | .rule _ k => run0 (k ())
  | _ => none
theorem of_run0 {α : Type} {M : Model} {A : Around} {Q : α → Shared → Prop} {E : Value → Shared → Prop} {s : Shared} {a : α} (q : Q a s) (t : Sem α) : run0 t = some a → wpAny M A t Q E s := by
  induction t with
  | pure b => intro e; cases e; exact wpAny_pure q
  | rule r k ih => intro e; exact fun Γ p hΓ => ih () e Γ p hΓ
  | _ => intro e; cases e
noncomputable def qcode : Array Nat := #[14, 8, 1, 2, 4294967295, 1, 1, 34, 0, 16, 34, 28, 22, 0, 4294967295, 7, 11, 13, 7, 21, 16, 34, 16, 92, 0, 15, 8, 6, 16, 92, 2, 15, 2, 0, 1, 16, 34, 1]
noncomputable def esc (l : List Nat) : List Nat := l.flatMap fun c => if c = 92 then [92, 92] else if c = 34 then [92, 34] else [c]
noncomputable def mark4 : Nat → Nat
  | 0 => 32
  | 1 => 34
  | 2 => 40
  | _ => 92
noncomputable def sub (t : Array Nat) (m : Sre.M) : Sre.M := { m with text := t }
/-- the places of the code where a step may stand -/
noncomputable def okPc (pc : Nat) : Bool := [0, 9, 11, 15, 17, 25, 28, 30, 31, 33, 34, 35, 37].contains pc
noncomputable def okWait : Sre.Wait → Bool
  | .nextStart | .nextBranch | .possMore => true
  | _ => false
noncomputable def okStep (m : Sre.M) : Bool := match m.answer, m.frames with
  | some _, [] => true
  | some _, f :: _ => okWait f.wait
  | none, _ => okPc m.pc
noncomputable def okRun : Nat → Sre.M → Bool
  | 0, _ => true
  | n + 1, m => m.outcome.isSome || (okStep m && okRun n m.step)
noncomputable def okDrive : Nat → Sre.M → Bool
  | 0, _ => false
  | n + 1, m => okRun 4 m && ((m.runFor 4).outcome.isSome || okDrive n (m.runFor 4))
theorem attempt_sub (t : Array Nat) (m : Sre.M) (f : Sre.Frame) (a b : Nat) (o : Bool) : (sub t m).attempt f a b o = sub t (m.attempt f a b o) := by
  unfold Sre.M.attempt
  show (if m.weight + 1 + f.kept.marks.size > 16777216 then _ else _) = _
  split <;> rfl
theorem attemptAt_sub (t : Array Nat) (m : Sre.M) (s : Nat) (o : Bool) : (sub t m).attemptAt s o = sub t (m.attemptAt s o) := attempt_sub t { m with start := s, pos := s, lastmark := -1, lastindex := -1 } _ _ _ _
theorem attemptFrom_sub (t : Array Nat) (m : Sre.M) (hc : m.code = qcode) (s : Nat) (o : Bool) : (sub t m).attemptFrom s o = sub t (m.attemptFrom s o) := by
  unfold Sre.M.attemptFrom
  have e1 : m.hasFirstSet = false := by unfold Sre.M.hasFirstSet; rw [hc]; rfl
  have e2 : (sub t m).hasFirstSet = false := e1
  rw [e1, e2]
  exact attemptAt_sub t m s o
theorem alternative_sub (t : Array Nat) (m : Sre.M) (a : Nat) (k : Sre.Kept) : (sub t m).alternative a k = sub t (m.alternative a k) := by
  unfold Sre.M.alternative
  show (if m.code.getD a 0 == 0 then _ else _) = _
  split
  · rfl
  · exact attempt_sub t m _ _ _ _
theorem afterRun_sub (t : Array Nat) (m : Sre.M) (wt : Sre.Wait) (c : Int) (k : Sre.Kept) : (sub t m).afterRun wt c k = sub t (m.afterRun wt c k) := attempt_sub t m _ _ _ _
theorem afterLoop_sub (t : Array Nat) (m : Sre.M) (wt : Sre.Wait) (i : Nat) (c : Int) (wh : Option Nat → Bool) : (sub t m).afterLoop wt i c wh = sub t (m.afterLoop wt i c wh) := attempt_sub t { m with inner := (m.loopAt i).outer } _ _ _ _
theorem round_sub (t : Array Nat) (m : Sre.M) (wt : Sre.Wait) (i : Nat) (c : Int) (g : Bool) (k : Sre.Kept) : (sub t m).round wt i c g k = sub t (m.round wt i c g k) := attempt_sub t (m.setLoop i fun l => { l with count := c, began := if g then some m.pos else l.began }) _ _ _ _
theorem possessive_sub (t : Array Nat) (m : Sre.M) (i : Nat) (c : Int) (b : Option Nat) : (sub t m).possessive i c b = sub t (m.possessive i c b) := by
  unfold Sre.M.possessive
  dsimp only
  show (if c < ((m.word 2 : Nat) : Int) then (sub t m).attempt { m.frame .possBelow with loop := i, count := c } (m.pc + 4) m.handed false
    else if ((c < ((m.word 3 : Nat) : Int) || m.word 3 == Sre.maxRepeat) && b != some m.handed) = true then (sub t m).attempt { m.frame .possMore with pos := m.handed, loop := i, count := c, kept := m.keep true } (m.pc + 4) m.handed false
    else sub t { m with inner := (m.loopAt i).outer, loops := m.loops.pop, pc := m.pc + 2 + m.word 1, pos := m.handed }) = _
  rw [attempt_sub, attempt_sub]
  split
  · rfl
  · split
    · rfl
    · rfl
theorem resume_sub (t : Array Nat) (m : Sre.M) (hc : m.code = qcode) (f : Sre.Frame) (y : Bool) (hw : okWait f.wait = true) : (sub t m).resume f y = sub t (m.resume f y) := by
  obtain ⟨wt, pc, pos, om, ct, kp, lp, bg⟩ := f
  cases wt <;> try (cases hw)
  · cases y
    · show (if pos < m.lastStart then (sub t { m with mustAdvance := false }).attemptFrom (pos + 1) false else sub t (m.say false)) = sub t (if pos < m.lastStart then { m with mustAdvance := false }.attemptFrom (pos + 1) false else m.say false)
      rw [attemptFrom_sub t { m with mustAdvance := false } hc]
      split <;> rfl
    · rfl
  · cases y
    · exact alternative_sub t (m.putBack kp) _ _
    · rfl
  · cases y
    · exact possessive_sub t { m.putBack kp with handed := pos } _ _ _
    · exact possessive_sub t m _ _ _
noncomputable def Like (t t' : Array Nat) : Prop := ∀ p pc seen, okPc pc = true → Sre.accepts qcode pc (t'.getD p 0) seen = Sre.accepts qcode pc (t.getD p 0) seen
noncomputable def accF (m : Sre.M) : Sre.M :=
  if m.pos ≥ m.lim then { m with seen := m.seen.add (m.word 0) }.say false else
    match Sre.accepts m.code m.pc (m.text.getD m.pos 0) (m.seen.add (m.word 0)) with
    | .error why => { m with seen := m.seen.add (m.word 0) }.stick why
    | .ok (false, seen) => { m with seen }.say false
    | .ok (true, seen) => { m with seen, pc := m.pc + Sre.itemWidth m.code m.pc, pos := m.pos + 1 }
theorem accF_sub (t : Array Nat) (m : Sre.M) (hl : ∀ seen, Sre.accepts m.code m.pc (t.getD m.pos 0) seen = Sre.accepts m.code m.pc (m.text.getD m.pos 0) seen) : accF (sub t m) = sub t (accF m) := by
  unfold accF
  show (if m.pos ≥ m.lim then _ else (match Sre.accepts m.code m.pc (t.getD m.pos 0) (m.seen.add (m.word 0)) with
    | .error why => _
    | .ok (false, seen) => _
    | .ok (true, seen) => _)) = _
  rw [hl]
  split
  · rfl
  · split <;> rfl
theorem exec_sub (t : Array Nat) (m : Sre.M) (hc : m.code = qcode) (hl : Like m.text t) (hp : okPc m.pc = true) : (sub t m).exec = sub t m.exec := by
  obtain ⟨code, text, lim, start, lst, wt, ma, pc, pos, hd, om, mk, lm, li, lo, inn, fr, wg, an, sn, oc⟩ := m
  dsimp only at hc hl hp
  subst hc
  have hl' := fun p sn => hl p pc sn hp
  have key : pc = 0 ∨ pc = 9 ∨ pc = 11 ∨ pc = 15 ∨ pc = 17 ∨ pc = 25 ∨ pc = 28 ∨ pc = 30 ∨ pc = 31 ∨ pc = 33 ∨ pc = 34 ∨ pc = 35 ∨ pc = 37 := by
    unfold okPc at hp
    simpa using hp
  rcases key with rfl | rfl | rfl | rfl | rfl | rfl | rfl | rfl | rfl | rfl | rfl | rfl | rfl
  · rfl
  · exact accF_sub t ⟨qcode, text, lim, start, lst, wt, ma, 9, pos, hd, om, mk, lm, li, lo, inn, fr, wg, an, sn, oc⟩ (hl' pos)
  · exact possessive_sub t { code := qcode, text := text, lim := lim, start := start, lastStart := lst, wholeText := wt, mustAdvance := ma, pc := 11, pos := pos, handed := pos, outermost := om, marks := mk, lastmark := lm, lastindex := li, loops := lo.push { pc := 0, outer := inn }, inner := some lo.size, frames := fr, weight := wg, answer := an, seen := sn.add 28, outcome := oc } lo.size 0 none
  · exact alternative_sub t { code := qcode, text := text, lim := lim, start := start, lastStart := lst, wholeText := wt, mustAdvance := ma, pc := 15, pos := pos, handed := hd, outermost := om, marks := mk, lastmark := lm, lastindex := li, loops := lo, inner := inn, frames := fr, weight := wg, answer := an, seen := sn.add 7, outcome := oc } _ _
  · exact accF_sub t ⟨qcode, text, lim, start, lst, wt, ma, 17, pos, hd, om, mk, lm, li, lo, inn, fr, wg, an, sn, oc⟩ (hl' pos)
  · rfl
  · exact accF_sub t ⟨qcode, text, lim, start, lst, wt, ma, 28, pos, hd, om, mk, lm, li, lo, inn, fr, wg, an, sn, oc⟩ (hl' pos)
  · exact accF_sub t ⟨qcode, text, lim, start, lst, wt, ma, 30, pos, hd, om, mk, lm, li, lo, inn, fr, wg, an, sn, oc⟩ (hl' pos)
  · rfl
  · rfl
  · show (if (om && ((wt && pos != lim) || (ma && pos == start))) = true then _ else _) = sub t (if (om && ((wt && pos != lim) || (ma && pos == start))) = true then _ else _)
    split <;> rfl
  · exact accF_sub t ⟨qcode, text, lim, start, lst, wt, ma, 35, pos, hd, om, mk, lm, li, lo, inn, fr, wg, an, sn, oc⟩ (hl' pos)
  · show (if (om && ((wt && pos != lim) || (ma && pos == start))) = true then _ else _) = sub t (if (om && ((wt && pos != lim) || (ma && pos == start))) = true then _ else _)
    split <;> rfl
theorem attempt_code (m : Sre.M) (f : Sre.Frame) (a b : Nat) (o : Bool) : (m.attempt f a b o).code = m.code := by
  unfold Sre.M.attempt
  split <;> rfl
theorem attemptAt_code (m : Sre.M) (s : Nat) (o : Bool) : (m.attemptAt s o).code = m.code := attempt_code { m with start := s, pos := s, lastmark := -1, lastindex := -1 } _ _ _ _
theorem attemptFrom_code (m : Sre.M) (hc : m.code = qcode) (s : Nat) (o : Bool) : (m.attemptFrom s o).code = m.code := by
  unfold Sre.M.attemptFrom
  have e1 : m.hasFirstSet = false := by unfold Sre.M.hasFirstSet; rw [hc]; rfl
  rw [e1]
  exact attemptAt_code m s o
theorem alternative_code (m : Sre.M) (a : Nat) (k : Sre.Kept) : (m.alternative a k).code = m.code := by
  unfold Sre.M.alternative
  split
  · rfl
  · exact attempt_code m _ _ _ _
theorem possessive_code (m : Sre.M) (i : Nat) (c : Int) (b : Option Nat) : (m.possessive i c b).code = m.code := by
  unfold Sre.M.possessive
  dsimp only
  split
  · exact attempt_code m _ _ _ _
  · split
    · exact attempt_code m _ _ _ _
    · rfl
theorem resume_code (m : Sre.M) (hc : m.code = qcode) (f : Sre.Frame) (y : Bool) (hw : okWait f.wait = true) : (m.resume f y).code = m.code := by
  obtain ⟨wt, pc, pos, om, ct, kp, lp, bg⟩ := f
  cases wt <;> try (cases hw)
  · cases y
    · show (if pos < m.lastStart then { m with mustAdvance := false }.attemptFrom (pos + 1) false else m.say false).code = _
      split
      · exact attemptFrom_code { m with mustAdvance := false } hc _ _
      · rfl
    · rfl
  · cases y
    · exact alternative_code (m.putBack kp) _ _
    · rfl
  · cases y
    · exact possessive_code { m.putBack kp with handed := pos } _ _ _
    · exact possessive_code m _ _ _
theorem accF_code (m : Sre.M) : (accF m).code = m.code := by
  unfold accF
  split
  · rfl
  · split <;> rfl
theorem exec_code (m : Sre.M) (hc : m.code = qcode) (hp : okPc m.pc = true) : m.exec.code = m.code := by
  obtain ⟨code, text, lim, start, lst, wt, ma, pc, pos, hd, om, mk, lm, li, lo, inn, fr, wg, an, sn, oc⟩ := m
  dsimp only at hc hp
  subst hc
  have key : pc = 0 ∨ pc = 9 ∨ pc = 11 ∨ pc = 15 ∨ pc = 17 ∨ pc = 25 ∨ pc = 28 ∨ pc = 30 ∨ pc = 31 ∨ pc = 33 ∨ pc = 34 ∨ pc = 35 ∨ pc = 37 := by
    unfold okPc at hp
    simpa using hp
  rcases key with rfl | rfl | rfl | rfl | rfl | rfl | rfl | rfl | rfl | rfl | rfl | rfl | rfl
  · rfl
  · exact accF_code ⟨qcode, text, lim, start, lst, wt, ma, 9, pos, hd, om, mk, lm, li, lo, inn, fr, wg, an, sn, oc⟩
  · exact possessive_code { code := qcode, text := text, lim := lim, start := start, lastStart := lst, wholeText := wt, mustAdvance := ma, pc := 11, pos := pos, handed := pos, outermost := om, marks := mk, lastmark := lm, lastindex := li, loops := lo.push { pc := 0, outer := inn }, inner := some lo.size, frames := fr, weight := wg, answer := an, seen := sn.add 28, outcome := oc } lo.size 0 none
  · exact alternative_code { code := qcode, text := text, lim := lim, start := start, lastStart := lst, wholeText := wt, mustAdvance := ma, pc := 15, pos := pos, handed := hd, outermost := om, marks := mk, lastmark := lm, lastindex := li, loops := lo, inner := inn, frames := fr, weight := wg, answer := an, seen := sn.add 7, outcome := oc } _ _
  · exact accF_code ⟨qcode, text, lim, start, lst, wt, ma, 17, pos, hd, om, mk, lm, li, lo, inn, fr, wg, an, sn, oc⟩
  · rfl
  · exact accF_code ⟨qcode, text, lim, start, lst, wt, ma, 28, pos, hd, om, mk, lm, li, lo, inn, fr, wg, an, sn, oc⟩
  · exact accF_code ⟨qcode, text, lim, start, lst, wt, ma, 30, pos, hd, om, mk, lm, li, lo, inn, fr, wg, an, sn, oc⟩
  · rfl
  · rfl
  · show (if (om && ((wt && pos != lim) || (ma && pos == start))) = true then (_ : Sre.M) else _).code = _
    split <;> rfl
  · exact accF_code ⟨qcode, text, lim, start, lst, wt, ma, 35, pos, hd, om, mk, lm, li, lo, inn, fr, wg, an, sn, oc⟩
  · show (if (om && ((wt && pos != lim) || (ma && pos == start))) = true then (_ : Sre.M) else _).code = _
    split <;> rfl
theorem step_sub (t : Array Nat) (m : Sre.M) (hc : m.code = qcode) (hl : Like m.text t) (ho : okStep m = true) : (sub t m).step = sub t m.step := by
  unfold Sre.M.step
  show (if m.outcome.isSome = true then sub t m else match m.answer, m.frames with
    | some yes, [] => _
    | some yes, f :: rest => _
    | none, _ => _) = _
  unfold okStep at ho
  split
  · rfl
  · cases ea : m.answer with
    | none =>
      rw [ea] at ho
      dsimp only
      show (if m.pc < m.code.size then (sub t m).exec else sub t (m.stick "code:ran-off")) = _
      rw [exec_sub t m hc hl ho]
      split <;> rfl
    | some y =>
      rw [ea] at ho
      cases ef : m.frames with
      | nil => simp only [sub, ea, ef]
      | cons f r =>
        rw [ef] at ho
        dsimp only
        exact resume_sub t { m with answer := none, frames := r, weight := m.weight - (1 + f.kept.marks.size), pc := f.pc, pos := f.pos, outermost := f.outermost } hc f y ho
theorem sub_self (m : Sre.M) : sub m.text m = m := rfl
theorem step_text (m : Sre.M) (hc : m.code = qcode) (ho : okStep m = true) : m.step.text = m.text := by
  have := step_sub m.text m hc (fun _ _ _ _ => rfl) ho
  rw [sub_self] at this
  rw [this]; rfl
theorem step_code (m : Sre.M) (hc : m.code = qcode) (ho : okStep m = true) : m.step.code = m.code := by
  unfold Sre.M.step
  unfold okStep at ho
  split
  · rfl
  · cases ea : m.answer with
    | none =>
      rw [ea] at ho
      dsimp only
      split
      · exact exec_code m hc ho
      · rfl
    | some y =>
      rw [ea] at ho
      cases ef : m.frames with
      | nil => rfl
      | cons f r =>
        rw [ef] at ho
        exact resume_code { m with answer := none, frames := r, weight := m.weight - (1 + f.kept.marks.size), pc := f.pc, pos := f.pos, outermost := f.outermost } hc f y ho
theorem runFor_sub (t : Array Nat) : ∀ (n : Nat) (m : Sre.M), m.code = qcode → Like m.text t → okRun n m = true → (sub t m).runFor n = sub t (m.runFor n) ∧ (m.runFor n).code = qcode ∧ (m.runFor n).text = m.text
  | 0, m, hc, _, _ => ⟨rfl, hc, rfl⟩
  | n + 1, m, hc, hl, ho => by
    unfold okRun at ho
    unfold Sre.M.runFor
    show (if m.outcome.isSome = true then sub t m else (sub t m).step.runFor n) = _ ∧ _
    by_cases h : m.outcome.isSome = true
    · rw [if_pos h, if_pos h]; exact ⟨rfl, hc, rfl⟩
    · rw [if_neg h, if_neg h]
      rw [Bool.or_eq_true] at ho
      rcases ho with ho | ho
      · exact absurd ho h
      · rw [Bool.and_eq_true] at ho
        have e := step_text m hc ho.1
        have := runFor_sub t n m.step ((step_code m hc ho.1).trans hc) (by rw [e]; exact hl) ho.2
        rw [step_sub t m hc hl ho.1]
        exact ⟨this.1, this.2.1, this.2.2.trans e⟩
theorem drive_sub (t : Array Nat) : ∀ (k turns : Nat) (m : Sre.M), k ≤ turns → m.code = qcode → Like m.text t → okDrive k m = true → ∃ m', run0 (reDrive turns m) = some m' ∧ run0 (reDrive turns (sub t m)) = some (sub t m')
  | 0, _, _, _, _, _, ho => by cases ho
  | k + 1, 0, _, hk, _, _, _ => by omega
  | k + 1, turns + 1, m, hk, hc, hl, ho => by
    unfold okDrive at ho
    rw [Bool.and_eq_true] at ho
    obtain ⟨e1, e2, e3⟩ := runFor_sub t 4 m hc hl ho.1
    unfold reDrive
    show ∃ m', run0 (if (m.runFor 4).outcome.isSome = true then pure (m.runFor 4) else (rule "sre.turn" >>= fun _ => reDrive turns (m.runFor 4))) = some m' ∧ run0 (if ((sub t m).runFor 4).outcome.isSome = true then pure ((sub t m).runFor 4) else (rule "sre.turn" >>= fun _ => reDrive turns ((sub t m).runFor 4))) = some (sub t m')
    rw [e1]
    by_cases h : (m.runFor 4).outcome.isSome = true
    · rw [if_pos h, if_pos (show (sub t (m.runFor 4)).outcome.isSome = true from h)]
      exact ⟨_, rfl, rfl⟩
    · rw [if_neg h, if_neg (show ¬ (sub t (m.runFor 4)).outcome.isSome = true from h)]
      have ho2 : okDrive k (m.runFor 4) = true := by
        rcases Bool.or_eq_true_iff.mp ho.2 with q | q
        · exact absurd q h
        · exact q
      exact drive_sub t k turns (m.runFor 4) (by omega) e2 (by rw [e3]; exact hl) ho2
theorem run0_bind {α β : Type} (f : α → Sem β) : ∀ {a : α} (t : Sem α), run0 t = some a → run0 (t >>= f) = run0 (f a) := by
  intro a t
  induction t with
  | pure b => intro e; cases e; rfl
  | rule r k ih => intro e; exact ih () e
  | _ => intro e; cases e
theorem says_run (sn : Sre.Seen) : ∀ l : List Nat, run0 (forIn l PUnit.unit fun i (_ : PUnit) => (if sn.has i then (do rule (Sre.names.getD i ""); pure (ForInStep.yield PUnit.unit)) else pure (ForInStep.yield PUnit.unit) : Sem (ForInStep PUnit))) = some PUnit.unit
  | [] => rfl
  | i :: l => by
    rw [List.forIn_cons]
    by_cases h : sn.has i = true
    · rw [if_pos h]; exact says_run sn l
    · rw [if_neg h]; exact says_run sn l
theorem reRun_eq (m : Sre.M) : reRunToEnd m = (do
    let m ← reDrive (2 ^ 64) m
    forIn (List.range Sre.names.size) PUnit.unit fun i (_ : PUnit) => (if m.seen.has i then (do rule (Sre.names.getD i ""); pure (ForInStep.yield PUnit.unit)) else pure (ForInStep.yield PUnit.unit) : Sem (ForInStep PUnit))
    match m.outcome with
    | some .matched => pure (some m)
    | some .failed => pure none
    | some (.stuck why) => unsupported s!"_sre:{why}"
    | none => unsupported "internal:sre:no-outcome") := rfl
theorem reRun_sub (t : Array Nat) (m : Sre.M) (hc : m.code = qcode) (hl : Like m.text t) (ho : okDrive 100 m = true) : run0 (reRunToEnd (sub t m)) = (run0 (reRunToEnd m)).map (Option.map (sub t)) := by
  obtain ⟨m', e1, e2⟩ := drive_sub t 100 (2 ^ 64) m (by decide) hc hl ho
  rw [reRun_eq, reRun_eq, run0_bind _ _ e1, run0_bind _ _ e2, run0_bind _ _ (says_run _ _), run0_bind _ _ (says_run _ _)]
  show run0 (match m'.outcome with | some .matched => pure (some (sub t m')) | some .failed => pure none | some (.stuck why) => unsupported s!"_sre:{why}" | none => unsupported "internal:sre:no-outcome") = _
  cases m'.outcome with
  | none => rfl
  | some o => cases o <;> rfl
theorem search_sub (t t' : Array Nat) (s lim : Nat) (b : Bool) : Sre.forSearch qcode t' 0 s lim b = sub t' (Sre.forSearch qcode t 0 s lim b) := by
  unfold Sre.forSearch
  dsimp only
  split
  · rfl
  · refine Eq.trans ?_ (attemptFrom_sub t' _ ?hc0 _ _)
    case hc0 => rfl
    rfl
theorem search_code (t : Array Nat) (s lim : Nat) (b : Bool) : (Sre.forSearch qcode t 0 s lim b).code = qcode ∧ (Sre.forSearch qcode t 0 s lim b).text = t := by
  constructor
  · unfold Sre.forSearch
    dsimp only
    split
    · rfl
    · refine Eq.trans (attemptFrom_code _ ?_ _ _) ?_
      · rfl
      · rfl
  · have := search_sub t t s lim b
    rw [this]; rfl
theorem accepts_one (c : Nat) (h1 : 65 ≤ c) (h2 : c ≤ 80) {α : Type} (F : Nat → α) (k : [65, 66, 67, 68, 69, 70, 71, 72, 73, 74, 75, 76, 77, 78, 79, 80].map F = [65, 66, 67, 68, 69, 70, 71, 72, 73, 74, 75, 76, 77, 78, 79, 80].map (fun _ => F 65)) : F c = F 65 := by
  refine List.map_inj_left.mp k c ?_
  have e : c = 65 + (c - 65) := (Nat.add_sub_cancel' h1).symm
  have : ∀ d : Fin 16, 65 + d.val ∈ [65, 66, 67, 68, 69, 70, 71, 72, 73, 74, 75, 76, 77, 78, 79, 80] := by decide
  rw [e]; exact this ⟨c - 65, by omega⟩
theorem accepts_like (pc : Nat) (hp : okPc pc = true) (sn : Sre.Seen) (c : Nat) (h1 : 65 ≤ c) (h2 : c ≤ 80) : Sre.accepts qcode pc c sn = Sre.accepts qcode pc 65 sn := by
  have hm : pc ∈ [0, 9, 11, 15, 17, 25, 28, 30, 31, 33, 34, 35, 37] := by simpa [okPc] using hp
  refine accepts_one c h1 h2 (fun c => Sre.accepts qcode pc c sn) ?_
  clear hp
  simp only [List.mem_cons, List.not_mem_nil, or_false] at hm
  rcases hm with rfl | rfl | rfl | rfl | rfl | rfl | rfl | rfl | rfl | rfl | rfl | rfl | rfl <;> rfl
noncomputable def canon (b mk n : Nat) : List Nat := [b, 34] ++ esc (mark4 mk :: List.replicate n 65) ++ [34]
noncomputable def ptext (b mk v : Nat) : List Nat := [b, 34] ++ esc (mark4 mk :: wd 3 v) ++ [34]
noncomputable def found (b mk n : Nat) : Bool := let l := canon b mk n
  (okDrive 100 (Sre.forSearch qcode l.toArray 0 0 l.length false)) && (match run0 (reRunToEnd (Sre.forSearch qcode l.toArray 0 0 l.length false)) with
    | some (some m) => m.start == 1 && m.handed == l.length
    | _ => false) &&
  (okDrive 100 (Sre.forSearch qcode l.toArray 0 l.length l.length false)) && (match run0 (reRunToEnd (Sre.forSearch qcode l.toArray 0 l.length l.length false)) with
    | some none => true
    | _ => false)
theorem found_40_0 : ([0, 1, 2, 3].all fun n => found 40 0 n) = true := by decide +kernel
theorem found_40_1 : ([0, 1, 2, 3].all fun n => found 40 1 n) = true := by decide +kernel
theorem found_40_2 : ([0, 1, 2, 3].all fun n => found 40 2 n) = true := by decide +kernel
theorem found_40_3 : ([0, 1, 2, 3].all fun n => found 40 3 n) = true := by decide +kernel
theorem found_41_0 : ([0, 1, 2, 3].all fun n => found 41 0 n) = true := by decide +kernel
theorem found_41_1 : ([0, 1, 2, 3].all fun n => found 41 1 n) = true := by decide +kernel
theorem found_41_2 : ([0, 1, 2, 3].all fun n => found 41 2 n) = true := by decide +kernel
theorem found_41_3 : ([0, 1, 2, 3].all fun n => found 41 3 n) = true := by decide +kernel
theorem found_all (b mk : Nat) (hb : b = 40 ∨ b = 41) (hm : mk = 0 ∨ mk = 1 ∨ mk = 2 ∨ mk = 3) : ([0, 1, 2, 3].all fun n => found b mk n) = true := by
  rcases hb with rfl | rfl <;> rcases hm with rfl | rfl | rfl | rfl
  · exact found_40_0
  · exact found_40_1
  · exact found_40_2
  · exact found_40_3
  · exact found_41_0
  · exact found_41_1
  · exact found_41_2
  · exact found_41_3
end
end Mine
end OfA15
section OfA16
open PySem PySem.W PySem.Calls PyProof.Rows Builtin Builtin.Re
set_option Elab.async false
set_option maxRecDepth 100000
set_option maxHeartbeats 4000000
set_option pp.maxSteps 1500
namespace Mine
section
theorem wd_letters : ∀ n v, ∀ c ∈ wd n v, 65 ≤ c ∧ c ≤ 80
  | 0, v, c, h => by simp [wd] at h
  | n + 1, v, c, h => by
    simp only [wd] at h
    split at h
    · simp at h
    · rcases List.mem_append.mp h with h | h
      · exact wd_letters n _ c h
      · have : c = 65 + v % 16 := by simpa using h
        omega
theorem wd_length : ∀ n v, (wd n v).length ≤ n
  | 0, v => by simp [wd]
  | n + 1, v => by
    simp only [wd]
    split
    · simp
    · have := wd_length n (v / 16); simp; omega
theorem esc_letters : ∀ w : List Nat, (∀ c ∈ w, 65 ≤ c ∧ c ≤ 80) → esc w = w
  | [], _ => rfl
  | c :: w, h => by
    have h1 := h c (List.mem_cons_self ..)
    have h2 := esc_letters w fun d hd => h d (List.mem_cons_of_mem _ hd)
    unfold esc at h2 ⊢
    rw [List.flatMap_cons, h2, if_neg (by omega), if_neg (by omega)]
    rfl
theorem like_mid (P w : List Nat) (hw : ∀ c ∈ w, 65 ≤ c ∧ c ≤ 80) (R : List Nat) : Like (P ++ List.replicate w.length 65 ++ R).toArray (P ++ w ++ R).toArray := by
  intro p pc seen hp
  have e : ((P ++ w ++ R).toArray.getD p 0 = (P ++ List.replicate w.length 65 ++ R).toArray.getD p 0) ∨ ((P ++ List.replicate w.length 65 ++ R).toArray.getD p 0 = 65 ∧ 65 ≤ (P ++ w ++ R).toArray.getD p 0 ∧ (P ++ w ++ R).toArray.getD p 0 ≤ 80) := by
    simp only [Array.getD_eq_getD_getElem?, List.getElem?_toArray]
    rcases Nat.lt_or_ge p P.length with h1 | h1
    · left
      rw [List.append_assoc, List.append_assoc, List.getElem?_append_left h1, List.getElem?_append_left h1]
    · rcases Nat.lt_or_ge p (P.length + w.length) with h2 | h2
      · right
        have hj : p - P.length < w.length := by omega
        rw [List.append_assoc, List.append_assoc, List.getElem?_append_right h1, List.getElem?_append_right h1, List.getElem?_append_left (by simpa using hj), List.getElem?_append_left hj]
        rw [List.getElem?_replicate, if_pos hj, List.getElem?_eq_getElem hj]
        exact ⟨rfl, hw _ (List.getElem_mem hj)⟩
      · left
        rw [List.getElem?_append_right (by simp; omega), List.getElem?_append_right (by simp; omega)]
        simp
  rcases e with e | ⟨e1, e2, e3⟩
  · rw [e]
  · rw [e1]; exact accepts_like pc hp seen _ e2 e3
theorem search_at (b mk v : Nat) (hb : b = 40 ∨ b = 41) (hm : mk < 4) :
    (∃ m, run0 (reRunToEnd (Sre.forSearch qcode (ptext b mk v).toArray 0 0 (ptext b mk v).length false)) = some (some m) ∧ m.start = 1 ∧ m.handed = (ptext b mk v).length) ∧
    run0 (reRunToEnd (Sre.forSearch qcode (ptext b mk v).toArray 0 (ptext b mk v).length (ptext b mk v).length false)) = some none := by
  have hn : (wd 3 v).length ≤ 3 := wd_length 3 v
  have hf : found b mk (wd 3 v).length = true := by
    have h2 := found_all b mk hb (by omega)
    exact List.all_eq_true.mp h2 (wd 3 v).length (by have : (wd 3 v).length = 0 ∨ (wd 3 v).length = 1 ∨ (wd 3 v).length = 2 ∨ (wd 3 v).length = 3 := by omega
                                                     rcases this with h | h | h | h <;> simp [h])
  have ep : ptext b mk v = ([b, 34] ++ esc [mark4 mk]) ++ wd 3 v ++ [34] := by
    have : esc (mark4 mk :: wd 3 v) = esc [mark4 mk] ++ esc (wd 3 v) := by simp [esc]
    rw [ptext, this, esc_letters (wd 3 v) (wd_letters 3 v)]; simp
  have ec : canon b mk (wd 3 v).length = ([b, 34] ++ esc [mark4 mk]) ++ List.replicate (wd 3 v).length 65 ++ [34] := by
    have : esc (mark4 mk :: List.replicate (wd 3 v).length 65) = esc [mark4 mk] ++ esc (List.replicate (wd 3 v).length 65) := by simp [esc]
    rw [canon, this, esc_letters (List.replicate (wd 3 v).length 65) (fun c hc => by have := (List.mem_replicate.mp hc).2; omega)]; simp
  have hlike : Like (canon b mk (wd 3 v).length).toArray (ptext b mk v).toArray := by rw [ep, ec]; exact like_mid _ _ (wd_letters 3 v) _
  have hlen : (ptext b mk v).length = (canon b mk (wd 3 v).length).length := by rw [ep, ec]; simp
  unfold found at hf
  simp only [Bool.and_eq_true] at hf
  obtain ⟨⟨⟨f1, f2⟩, f3⟩, f4⟩ := hf
  rw [hlen]
  constructor
  · have s1 := search_code (canon b mk (wd 3 v).length).toArray 0 (canon b mk (wd 3 v).length).length false
    rw [search_sub (canon b mk (wd 3 v).length).toArray, reRun_sub _ _ s1.1 (by rw [s1.2]; exact hlike) f1]
    split at f2
    · rename_i m0 e0
      rw [e0]
      simp only [Bool.and_eq_true, beq_iff_eq] at f2
      exact ⟨_, rfl, f2.1, f2.2⟩
    · cases f2
  · have s1 := search_code (canon b mk (wd 3 v).length).toArray (canon b mk (wd 3 v).length).length (canon b mk (wd 3 v).length).length false
    rw [search_sub (canon b mk (wd 3 v).length).toArray, reRun_sub _ _ s1.1 (by rw [s1.2]; exact hlike) f3]
    split at f4
    · rename_i e0
      rw [e0]; rfl
    · cases f4
end
end Mine
end OfA16
section OfA13n
open PySem PySem.W PySem.Calls PyProof.Rows Builtin Builtin.ObjectAttr Builtin.Getset_descriptor
set_option Elab.async false
set_option maxRecDepth 100000
set_option maxHeartbeats 1000000
set_option pp.maxSteps 1500
namespace Mine
noncomputable section
theorem fn_find {w : World} {h : Heap} (X : (kk.heap_1 w.params).In h) : Looks (model PG w) h (find (.ref 174) (.type "function") "__name__") (.bind (.builtin "getset_descriptor.__get__") (.builtin "function.__name__")) := Looks.of_peek X (by with_unfolding_all rfl)
theorem slot_foga : Slot "function" "__getattribute__" "object.__getattribute__" := .of (owner := "object") (n := "__getattribute__") (by rw [typeLookup_type, builtinLookup_eq_fast]; kernel_rfl) (by decide +kernel) (by decide +kernel) (by decide +kernel)
  (by first | exact .inl (by decide +kernel) | exact .inr (by decide +kernel)) (by rw [isSubtype_type]; kernel_rfl)
theorem entry_oga : entryFor table "object.__getattribute__" = some Builtin.«object.__getattribute__» := entryFor_of_tree (by kernel_rfl)
theorem args_oga (a b : Value) : argsOk "object.__getattribute__" ⟨[a, b], []⟩ := by unfold argsOk; kernel_rfl
theorem fname_entry : entryFor table "function.__name__" = some Builtin.«function.__name__» := entryFor_of_tree (by kernel_rfl)
theorem fname_type : typeOf (.builtin "function.__name__") = pure (.type "getset_descriptor") := by show builtinType _ = _; rw [builtinType_eq_fast]; kernel_rfl
theorem fname_owner : descrOwnerAndName "function.__name__" = ("function", "__name__") := by decide +kernel
theorem fname_dga (d tp : Value) (r : Addr) : descrGetArgs ⟨[d, .ref r, tp], []⟩ = pure (d, some (.ref r), given tp) := by kernel_rfl
theorem fn_obj (P : Params) : ∃ oc od fd sl, (kk.heap_1 P).lookup 174 = some ⟨oc, od, .func fd, sl⟩ ∧ oc = .type "function" ∧ fd.name = "parse257" := ⟨_, _, _, _, by with_unfolding_all rfl, rfl, by with_unfolding_all rfl⟩
theorem getattr_fname {w : World} {A : Around} {E : Value → Shared → Prop} {s : Shared} {b : Bool} {Q : Value → Shared → Prop} (X : (kk.heap_1 w.params).In s.heap)
    (h : ∀ t' tk, Q (.str "parse257" t') { s with toks := tk }) : wpAny (model PG w) A (getAttr (.ref 174) "__name__" b) Q E s := by
  obtain ⟨oc, od, fd, sl, ho, e1, e2⟩ := fn_obj w.params
  have hf := X _ _ ho
  subst e1
  have L3 := fn_find X
  obtain ⟨hh, g, dd, t, os⟩ := s
  have L0 : Looks (model PG w) hh (typeOf (.ref 174)) (.type "function") := (Looks.ld hf).andThen .now
  have L1 : Looks (model PG w) hh (isSubtype (.type "function") (.type "function")) true := Looks.of_pure (by rw [isSubtype_type]; kernel_rfl)
  have hT : ∀ t', (⟨hh, g, dd, t', os⟩ : Shared).TypeIs (.ref 174) "function" := fun _ => ⟨_, hf, rfl⟩
  unfold getAttr getAttrBy
  refine wpAny_bind (wpAny_mkText (wpAny_holding (wpAny_bind (L0.at (wpAny_bind (wpAny_of_eq slot_foga.lookup ?_))))))
  show wpAny _ _ (getAttrByItsOwn (.ref 174) (.str "__name__" t) (.type "function") (.builtin "object.__getattribute__") true b) _ _ _
  unfold getAttrByItsOwn hookBefore
  refine wpAny_bind (wpAny_of_eq (show (if onTheHeap (.type "function") then typeLookup (.type "function") "__getattr__" else pure none) = pure none from rfl) ?_)
  refine wpAny_bind (wpAny_attempt (wpAny_holding ?_))
  unfold callGetattribute
  rw [show onTheHeap (.builtin "object.__getattribute__") = false from rfl, Bool.and_false, if_neg (by decide)]
  unfold boundAndCalled
  rw [slot_foga.bind]
  refine wpAny_bind (wpAny_pure (wpAny_call ?_))
  show codeAny _ _ (.call (.builtin "object.__getattribute__") ⟨[.ref 174, .str "__name__" t], []⟩) _ _
  refine codeAny_call_builtin slot_foga.plain entry_oga (slot_foga.check _ _ _ _ _ _ _ _ (hT _) (args_oga (.ref 174) (.str "__name__" t)) ?_)
  show wpAny _ _ (Builtin.«object.__getattribute__» ⟨[.ref 174, .str "__name__" t], []⟩) _ _ _
  unfold Builtin.«object.__getattribute__»
  refine wpAny_bind (wpAny_of_eq (a := (.ref 174, [.str "__name__" t])) (by kernel_rfl) ?_)
  refine wpAny_bind (wpAny_of_eq (show Builtin.ObjectAttr.attrName (.str "__name__" t) = pure ("__name__" : Str) from rfl) ?_)
  refine wpAny_bind (L0.at (wpAny_bind (L3.at ?_)))
  show wpAny _ _ (do ret (← holding [Value.builtin "function.__name__"] (call (.builtin "getset_descriptor.__get__") [.builtin "function.__name__", .ref 174, .type "function"]))) _ _ _
  refine wpAny_bind (wpAny_holding (wpAny_call ?_))
  refine codeAny_call_builtin KF.slot_gs.plain KF.entry_gs (KF.slot_gs.check _ _ _ _ _ _ _ _ fname_type (KF.args_gs _ _ _) ?_)
  unfold Builtin.«getset_descriptor.__get__» descrGet
  rw [fname_dga]
  refine wpAny_bind (wpAny_pure ?_)
  unfold descrGetter descrCheckInstance descrNameAndClass isInstance
  simp only [fname_owner]
  repeat lk
  refine ⟨Code.quiet_builtin _ (by decide +kernel), codeAny_builtin fname_entry ?_⟩
  unfold Builtin.«function.__name__» funcData retStr
  refine wpAny_bind (wpAny_bind (wpAny_load hf ?_))
  refine wpAny_pure ?_
  dsimp only
  rw [e2]
  refine wpAny_bind (wpAny_mkStr (wpAny_pure ?_) (by rw [sizeLine_eq]; show 8 ≤ 16777216; omega))
  exact wpAny_pure (wpAny_pure (h _ _))
end
end Mine
end OfA13n
section OfA14
open PySem PySem.W PySem.Calls PyProof.Rows
set_option Elab.async false
set_option maxRecDepth 100000
set_option maxHeartbeats 8000000
set_option pp.maxSteps 1500
namespace Mine
noncomputable section
theorem filled14 : kk.heap_1 = kk.heap_1 ∧ PySem.Challenge.rw_wu0057_01.name = PySem.Challenge.rw_wu0057_01.name := by
  k_fill
  exact ⟨rfl, rfl⟩
section
local macro_rules | `(tactic| walk_at "call ref") => `(tactic| refine halt ?_)
local macro_rules | `(tactic| walk_at "exec While") => `(tactic| refine halt ?_)
theorem safe_ok (w : World) (mean : ExcName → Option Value) (mg mb : Str → Option Value) (x : List Nat) (t1 t2 : Tok) (hl : x.length ≤ 100) (hlen : (good x).length ≤ 300) :
    Pure 5 w mean mg mb 46 [.str (good x) t1, .str "post" t2, .ref 174] (fun r => ∃ t, r = .str ⟨x.toArray⟩ t) := by
  intro A s Q E hA hS hret
  obtain ⟨hd0, dp, fr, gd, un⟩ := A
  obtain rfl : hd0 = none := hA.hd
  have X := hS.X
  have T := hS.T
  generalize hg : good x = g at *
  refine wpAny_call ?_
  refine' enterP ?kX ?kL ?kroom ?kho ?khcd ?khb ?khl ?kbody ?khco ?khgen ?khk ?khcell
  (case kX => exact St.X (by assumption))
  (case kL => exact Top.nolimit (St.T (by assumption)))
  (case kroom => exact AOk.room (by assumption))
  (case kho => k_is)
  (case khcd => k_is)
  (case khb => exact binds_K hS.X rfl (by k_is) rfl rfl rfl)
  (case khl => exact locs rfl)
  (case khco => rfl)
  (case khgen => rfl)
  (case khk => rfl)
  (case khcell => decide)
  intro h₁ F
  have N : News s.heap s.heap.objs.size h₁ [] := News.nil
  (try dsimp only)
  k_steps
  subst hg
  refine unhalt ?_
  rename Fr _ _ _ _ => F1
  rename News _ _ _ _ => N1
  refine (parse_ok w mean mg mb x t1 hl hlen).use (AOk.le (AOk.deeper hA) (by omega)) hS F1 N1 fun r h' tk' hr F' N' => ?_
  exact hret _ _ _ hr F'.keep
local macro_rules | `(tactic| walk_at "eval Name") => `(tactic| (k_here; (first | refine nameX_L (by k_asm) (by assumption) ?_ | refine nameX_L (by k_asm) (by first | (with_unfolding_all rfl) | exact Eq.trans (by with_unfolding_all rfl) (by assumption)) ?_)))
structure Box (P : Prop) : Prop where
  out : P
theorem rebase {h base base' : Heap} : ∀ {l : List Env}, (∀ b ∈ l.filterMap (·.frame), base'.get? b = none) → h.FunFrames base l → h.FunFrames base' l
  | [], _, _ => trivial
  | env :: rest, hb, ⟨hk, ⟨L, o, hf, _, ho, hd⟩, hr⟩ => ⟨hk, ⟨L, o, hf, hb L (List.mem_filterMap.mpr ⟨env, List.mem_cons_self .., hf⟩), ho, hd⟩, rebase (fun b hm => hb b (by
      obtain ⟨e, he, hef⟩ := List.mem_filterMap.mp hm
      exact List.mem_filterMap.mpr ⟨e, List.mem_cons_of_mem _ he, hef⟩)) hr⟩
@[reducible] def BV : Type := (World) × (ExcName → Option Value) × (Str → Option Value) × (Str → Option Value) × (Nat) × (Nat) × (Env) × (Nat) × (Obj) × (Array DictEntry) × (Nat) × (Nat) × (Option (List Code)) × (Nat) × (Shared) × (Value → Shared → Prop) × (Value → Shared → Prop)
theorem bv0 : Nonempty BV := ⟨⟨W0, fun _ => none, fun _ => none, fun _ => none, 0, 0, default, 0, { cls := .none, data := .fields #[] }, #[], 0, 0, none, 0, {}, fun _ _ => True, fun _ _ => True⟩⟩
noncomputable def Ssafe_bad (w : World) (mean : ExcName → Option Value) (mg : Str → Option Value) (mb : Str → Option Value) (t1 : Tok) (t2 : Tok) (env : Env) (L : Addr) (oL : Obj) (es : Array DictEntry) (en : Nat) (dp : Nat) (gd : Option (List Code)) (un : Nat) (s : Shared) (Q : Value → Shared → Prop) (E : Value → Shared → Prop) : Prop := ∀ (g : Str) (hlen : g.length ≤ 300) (hg3 : Txt.slice g none (some 3) ≠ Str.ofString "257") (hA : AOk 5 (Around.mk none dp (some [env]) gd un)) (hef : env.frame = some L) (hek : env.scope.kind ≠ .module) (hL : s.heap.get? L = some oL) (hLd : oL.data = .dict es en) (hS : St w mean mg mb (hide [L] s.heap)) (hret : ∀ t h' tk', (∀ b o, b ≠ L → s.heap.get? b = some o → h'.get? b = some o) → (∃ sl, h'.get? L = some { oL with slots := sl }) → Q (.str "<post parse257() failed>" t) { s with heap := h', toks := tk' }),
    wpAny (model PG w) (Around.mk none dp (some [env]) gd un) (call (.ref 46) [.str g t1, .str "post" t2, .ref 174]) Q E s
noncomputable def csafe_bad : BV := @Classical.epsilon BV bv0 fun x => ¬ Ssafe_bad x.1 x.2.1 x.2.2.1 x.2.2.2.1 x.2.2.2.2.1 x.2.2.2.2.2.1 x.2.2.2.2.2.2.1 x.2.2.2.2.2.2.2.1 x.2.2.2.2.2.2.2.2.1 x.2.2.2.2.2.2.2.2.2.1 x.2.2.2.2.2.2.2.2.2.2.1 x.2.2.2.2.2.2.2.2.2.2.2.1 x.2.2.2.2.2.2.2.2.2.2.2.2.1 x.2.2.2.2.2.2.2.2.2.2.2.2.2.1 x.2.2.2.2.2.2.2.2.2.2.2.2.2.2.1 x.2.2.2.2.2.2.2.2.2.2.2.2.2.2.2.1 x.2.2.2.2.2.2.2.2.2.2.2.2.2.2.2.2
namespace Ksafe_bad
@[irreducible] noncomputable def w : World := csafe_bad.1
@[irreducible] noncomputable def mean : ExcName → Option Value := csafe_bad.2.1
@[irreducible] noncomputable def mg : Str → Option Value := csafe_bad.2.2.1
@[irreducible] noncomputable def mb : Str → Option Value := csafe_bad.2.2.2.1
@[irreducible] noncomputable def t1 : Tok := csafe_bad.2.2.2.2.1
@[irreducible] noncomputable def t2 : Tok := csafe_bad.2.2.2.2.2.1
@[irreducible] noncomputable def env : Env := csafe_bad.2.2.2.2.2.2.1
@[irreducible] noncomputable def L : Addr := csafe_bad.2.2.2.2.2.2.2.1
@[irreducible] noncomputable def oL : Obj := csafe_bad.2.2.2.2.2.2.2.2.1
@[irreducible] noncomputable def es : Array DictEntry := csafe_bad.2.2.2.2.2.2.2.2.2.1
@[irreducible] noncomputable def en : Nat := csafe_bad.2.2.2.2.2.2.2.2.2.2.1
@[irreducible] noncomputable def dp : Nat := csafe_bad.2.2.2.2.2.2.2.2.2.2.2.1
@[irreducible] noncomputable def gd : Option (List Code) := csafe_bad.2.2.2.2.2.2.2.2.2.2.2.2.1
@[irreducible] noncomputable def un : Nat := csafe_bad.2.2.2.2.2.2.2.2.2.2.2.2.2.1
@[irreducible] noncomputable def s : Shared := csafe_bad.2.2.2.2.2.2.2.2.2.2.2.2.2.2.1
@[irreducible] noncomputable def Q : Value → Shared → Prop := csafe_bad.2.2.2.2.2.2.2.2.2.2.2.2.2.2.2.1
@[irreducible] noncomputable def E : Value → Shared → Prop := csafe_bad.2.2.2.2.2.2.2.2.2.2.2.2.2.2.2.2
theorem holds : Ssafe_bad w mean mg mb t1 t2 env L oL es en dp gd un s Q E := by
  intro g hlen hg3 hA hef hek hL hLd hS hret
  have hS0 : St w mean mg mb s.heap := hS.keeps (hide_keep _ _)
  have X := hS0.X
  have T := hS0.T
  refine wpAny_call ?_
  refine' enterP ?kX ?kL ?kroom ?kho ?khcd ?khb ?khl ?kbody ?khco ?khgen ?khk ?khcell
  (case kX => exact X)
  (case kL => exact Top.nolimit T)
  (case kroom => exact AOk.room (by assumption))
  (case kho => k_is)
  (case khcd => k_is)
  (case khb => exact binds_K X rfl (by k_is) rfl rfl rfl)
  (case khl => exact locs rfl)
  (case khco => rfl)
  (case khgen => rfl)
  (case khk => rfl)
  (case khcell => decide)
  intro h₁ F
  have N : News s.heap s.heap.objs.size h₁ [] := News.nil
  (try dsimp only)
  k_steps
  refine unhalt ?_
  rename Fr _ _ _ _ => F1
  rename News _ _ _ _ => N1
  clear N1
  rename Heap => h1
  obtain ⟨m1, F1, hwhat, hfunc⟩ : ∃ m1, Fr s.heap s.heap.objs.size h1 m1 ∧ m1 (Str.ofString "what") = some (.str "post" t2) ∧ m1 (Str.ofString "func") = some (.ref 174) := ⟨_, F1, by with_unfolding_all rfl, by with_unfolding_all rfl⟩
  have FB : Box (Fr s.heap s.heap.objs.size h1 m1) := ⟨F1⟩
  have S1 : St w mean mg mb h1 := hS0.keeps F1.keep
  clear F1 X T
  (try clear N)
  (try clear F)
  have X := S1.X
  have T := S1.T
  refine wpAny_call ?_
  refine' enterP ?jX ?jL ?jroom ?jho ?jhcd ?jhb ?jhl ?jbody ?jhco ?jhgen ?jhk ?jhcell
  (case jX => exact X)
  (case jL => exact Top.nolimit T)
  (case jroom => exact AOk.room (AOk.deeper hA))
  (case jho => k_is)
  (case jhcd => k_is)
  (case jhb => exact BindsTo.of_eq rfl)
  (case jhl => exact locs rfl)
  (case jhco => rfl)
  (case jhgen => rfl)
  (case jhk => rfl)
  (case jhcell => decide)
  intro h₂ F
  (try dsimp only)
  (try dsimp only at F)
  have N : News h1 h1.objs.size h₂ [] := News.nil
  k_steps
  · rename Fr _ _ _ _ => F3
    rename Heap.MadeExcOf _ _ _ _ _ => hx
    have F1 := FB.out
    have hLlt : L < s.heap.objs.size := Heap.lt_size hL
    have hffL : ∀ b ∈ [env].filterMap (·.frame), b = L := by
      intro b hb
      obtain ⟨e', he', hb'⟩ := List.mem_filterMap.mp hb
      rw [List.mem_singleton.mp he', hef] at hb'
      exact (Option.some.inj hb').symm
    have keep3 : ∀ {hz : Heap} {mz : Str → Option Value}, Fr h1 h1.objs.size hz mz → Keep s.heap hz := fun Fz b o q => Fz.keep b o (F1.keep b o q)
    refine wpAny_leaves_madeW (base := hide [L, s.heap.objs.size, h1.objs.size] _) (outer := [envOf _ _ s.heap.objs.size 46 _, env]) rfl rfl (hide_keep _ _) ?hl hx ?hq
    case hl =>
      refine Heap.FunFrames.cons (by intro q; cases q) rfl F3.ns (by rw [hide_get]; simp) ?_
      refine Heap.FunFrames.cons (by intro q; cases q) rfl (F1.ns.keeps F3.keep) (by rw [hide_get]; simp) ?_
      exact ⟨hek, ⟨L, oL, hef, by rw [hide_get]; simp, keep3 F3 _ _ hL, fun vs q => by rw [hLd] at q; cases q⟩, trivial⟩
    case hq =>
      intro h5 t hfl htup hnt hsm5
      refine wpAny_looks_onW rfl rfl hfl fun h6 hheld hsm6 => ?_
      refine wpAny_landsW hheld fun h7 hfl7 hsm7 => ?_
      refine handleBy_bare (by intro q; cases q) ?_
      refine lands_againW hfl7 fun h8 hfl8 hsm8 => ?_
      refine wpAny_passesOwnAt (by passes_own) ?_
      have sm := ((hsm5.trans hsm6).trans hsm7).trans hsm8
      have ka : ∀ b o, b ≠ L → s.heap.get? b = some o → h8.get? b = some o := by
        intro b o hb q
        have hlt : b < s.heap.objs.size := Heap.lt_size q
        refine hfl8.1 b o ?_
        rw [hide_get, if_neg ?_]
        · exact keep3 F3 b o q
        · intro hm
          rcases List.mem_cons.mp hm with rfl | hm
          · exact hb rfl
          · rcases List.mem_cons.mp hm with rfl | hm
            · exact Nat.lt_irrefl _ hlt
            · rcases List.mem_cons.mp hm with rfl | hm
              · exact Nat.lt_irrefl _ (Nat.lt_trans hlt F1.ns.lt)
              · cases hm
      obtain ⟨slL, gL⟩ := sm L oL (hx.keeps _ _ (keep3 F3 _ _ hL)) (fun vs q => by rw [hLd] at q; cases q)
      have F8 : Fr (hide [L] s.heap) s.heap.objs.size h8 m1 := ⟨sm.ns ((F1.ns.keeps F3.keep).keeps hx.keeps), fun b o q => by
          rw [hide_get] at q
          split at q
          · cases q
          · rename_i hb
            exact ka b o (by simpa using hb) q, Nat.le_of_eq (hide_size _ _)⟩
      have N8 : News (hide [L] s.heap) s.heap.objs.size h8 [(L, { oL with slots := slL })] := by
        intro p hp
        obtain rfl := List.mem_singleton.mp hp
        exact ⟨gL, Nat.ne_of_lt hLlt, by rw [hide_get]; simp⟩
      clear F3 F1 S1 X T hS0
      (try clear N)
      have X := hS.X
      have T := hS.T
      clear ka
      (try dsimp only)
      k_steps
      rename Fr _ _ _ _ => F9
      rename News _ _ _ _ => N9
      refine getattr_fname (s := ⟨_, _, _, _, _⟩) (X.keeps F9.keep) (fun t' tk => ?_)
      (try dsimp only)
      k_steps
      have eS : (Str.empty ++ Str.ofString "<" ++ Str.ofString "post" ++ Str.ofString " " ++ Str.ofString "parse257" ++ Str.ofString "() failed>") = Str.ofString "<post parse257() failed>" := by with_unfolding_all rfl
      rw [eS]
      exact hret _ _ _ (fun b o hb q => F9.keep b o (by rw [hide_get, if_neg (by simpa using hb)]; exact q)) ⟨slL, N9.get (.head _)⟩
  all_goals exfalso; rename (Txt.slice g none (some 3) != _) = false => hx; exact hg3 (by simpa using hx)
end Ksafe_bad
theorem safe_bad (w : World) (mean : ExcName → Option Value) (mg mb : Str → Option Value) (g : Str) (t1 t2 : Tok) (hlen : g.length ≤ 300) (hg3 : Txt.slice g none (some 3) ≠ Str.ofString "257")
    (env : Env) (L : Addr) (oL : Obj) (es : Array DictEntry) (en : Nat) (A : Around) (s : Shared) (Q E : Value → Shared → Prop) (hA : AOk 5 A) (hfr : A.frames = some [env]) (hef : env.frame = some L) (hek : env.scope.kind ≠ .module)
    (hL : s.heap.get? L = some oL) (hLd : oL.data = .dict es en) (hS : St w mean mg mb (hide [L] s.heap))
    (hret : ∀ t h' tk', (∀ b o, b ≠ L → s.heap.get? b = some o → h'.get? b = some o) → (∃ sl, h'.get? L = some { oL with slots := sl }) → Q (.str "<post parse257() failed>" t) { s with heap := h', toks := tk' }) :
    wpAny (model PG w) A (call (.ref 46) [.str g t1, .str "post" t2, .ref 174]) Q E s := by
  obtain ⟨hd0, dp, fr, gd, un⟩ := A
  obtain rfl : hd0 = none := hA.hd
  obtain rfl : fr = some [env] := hfr
  exact skolem bv0 (fun x => Ssafe_bad x.1 x.2.1 x.2.2.1 x.2.2.2.1 x.2.2.2.2.1 x.2.2.2.2.2.1 x.2.2.2.2.2.2.1 x.2.2.2.2.2.2.2.1 x.2.2.2.2.2.2.2.2.1 x.2.2.2.2.2.2.2.2.2.1 x.2.2.2.2.2.2.2.2.2.2.1 x.2.2.2.2.2.2.2.2.2.2.2.1 x.2.2.2.2.2.2.2.2.2.2.2.2.1 x.2.2.2.2.2.2.2.2.2.2.2.2.2.1 x.2.2.2.2.2.2.2.2.2.2.2.2.2.2.1 x.2.2.2.2.2.2.2.2.2.2.2.2.2.2.2.1 x.2.2.2.2.2.2.2.2.2.2.2.2.2.2.2.2) (by with_unfolding_all exact Ksafe_bad.holds) ⟨w, mean, mg, mb, t1, t2, env, L, oL, es, en, dp, gd, un, s, Q, E⟩ g hlen hg3 hA hef hek hL hLd hS hret
end
end
end Mine
end OfA14
section OfA5
open PySem PySem.W PySem.Calls PyProof.Rows
set_option Elab.async false
set_option maxRecDepth 100000
set_option maxHeartbeats 8000000
set_option pp.maxSteps 1500
namespace Mine
noncomputable section
theorem filled5 : kk.heap_1 = kk.heap_1 ∧ PySem.Challenge.rw_wu0057_01.name = PySem.Challenge.rw_wu0057_01.name := by
  k_fill
  exact ⟨rfl, rfl⟩
/-- enter a plain def in a heap over a base -/
theorem enterB {prog : Program} {w : World} {A : Around} {s : Shared} {K : Frag} {R : Result → Shared → Prop} {name qual : Str} {params : Arguments} {body : List Stmt} {scope : Scope} {dV kV doc pm cdv ct oc : Value} {an od : Option Addr} {osl : Array (Option Value)} {f : Addr} {args : List Value} {binds : List (Str × Value)} {g : Heap}
    (X : K.In s.heap) (hkp : Keep g s.heap) (hsz : g.objs.size ≤ s.heap.objs.size) (hlim : s.heap.NoLimit) (hroom : A.depth < recursionLimit)
    (ho : K.lookup f = some ⟨oc, od, .func (fnOf name qual params body scope dV kV doc pm an cdv ct), osl⟩) (hcd : codeIn K cdv qual = true)
    (hbind : BindsTo s (fnOf name qual params body scope dV kV doc pm an cdv ct) ⟨args, []⟩ binds) (hloc : ∀ y ∈ binds, scope.names.lookup y.1 = some .local)
    (h : ∀ h₁, Fr g s.heap.objs.size h₁ (fun y => binds.reverse.lookup y) → Keep s.heap h₁ →
      wpAny (model prog w) (A.deeper (envOf qual scope s.heap.objs.size f cdv)) (execs body (envOf qual scope s.heap.objs.size f cdv))
        (fun fl s' => R (.ok (.ret (match fl with | .ret v => v | _ => .none))) s')
        (fun e s' => wpAny (model prog w) (A.deeper (envOf qual scope s.heap.objs.size f cdv)) (leaving (envOf qual scope s.heap.objs.size f cdv) e) (fun _ s'' => R (.error e) s'') (fun e' s'' => R (.error e') s'') s')
        { s with heap := h₁, toks := s.toks + binds.length })
    (hco : scope.isCoroutine = false := by rfl) (hgen : scope.isGenerator = false := by rfl) (hk : scope.kind = .function := by rfl)
    (hcell : ∀ x ∈ scope.names, x.2 ≠ .cell := by decide) : codeAny (model prog w) A (.call (.ref f) ⟨args, []⟩) R s :=
  enterP X hlim hroom ho hcd hbind hloc (fun h₁ F => h h₁ ⟨F.ns, fun b o e => F.keep b o (hkp b o e), hsz⟩ F.keep) hco hgen hk hcell
local macro_rules | `(tactic| walk_at "mine_enterB") => `(tactic| (
  refine' enterB (g := ?zg) (St.X (by assumption)) ?kkp ?ksz (Top.nolimit (St.T (by assumption))) (AOk.room (by assumption)) (by k_is) (by k_is) (by exact BindsTo.of_eq rfl) (by exact locs rfl) ?kbody))
@[reducible] noncomputable def roadObj (d : Addr) (items : Array Value) (n : Nat) : Obj := ⟨.ref 138, some d, .seq items n, #[]⟩

noncomputable def dctObj (n : Nat) (sl : Array (Option Value)) (es : Array DictEntry) : Obj := ⟨.type "dict", none, .dict es n, sl⟩
theorem looks_road {M : Model} {h : Heap} {r d : Addr} {items : Array Value} {n : Nat} (hr : h.get? r = some (roadObj d items n)) : Looks M h (typeOf (.ref r)) (.ref 138) := (Looks.ld hr).andThen .now
theorem looks_spec {K : Frag} {M : Model} {h : Heap} {r d : Addr} {items : Array Value} {n : Nat} (X : K.In h) (hr : h.get? r = some (roadObj d items n)) {name : Str} {y : Option Value} (e : findIn K (.ref 138) name = some y) : Looks M h (specialOf (.ref r) name) y :=
  (looks_road hr).andThen (looks_findIn X e)
theorem check_method {M : Model} {A : Around} {E : Value → Shared → Prop} {s : Shared} {i owner n : String} {self : Value} {rest : List Value} {kw : List (Str × Value)} {Q : Unit → Shared → Prop}
    (hk : builtinKind i = some .method) (hs : splitId i = some (owner, n)) (hi : Looks M s.heap (isInstance self (.type owner)) true) (ha : argsOk i ⟨self :: rest, kw⟩) (q : Q () s) :
    wpAny M A (checkBuiltinCall i ⟨self :: rest, kw⟩) Q E s := by
  simp only [checkBuiltinCall, hk, hs]
  refine wpAny_bind (hi.here ?_)
  simp only [Bool.not_true, Bool.false_eq_true, if_false]
  cases hsig : Manifest.signature? i with
  | none => exact wpAny_pure q
  | some sig =>
    simp only [argsOk, hsig] at ha
    have h2 : Bind.checkArgs i sig ⟨self :: rest, kw⟩ = pure () := ha
    show wpAny M A (Bind.checkArgs i sig ⟨self :: rest, kw⟩) Q E s
    rw [h2]; exact wpAny_pure q
theorem getMethod_road {K : Frag} {prog : Program} {w : World} {A : Around} {E : Value → Shared → Prop} {s : Shared} {r d : Addr} {items : Array Value} {n : Nat} {name : Str} {pl : Sem Bool} {f tf : Value} {Q : Value × List Value → Shared → Prop} {es : Array DictEntry} {dn : Nat} {dc : Value} {dd : Option Addr} {dsl : Array (Option Value)}
    (X : K.In s.heap) (hr : s.heap.get? r = some (roadObj d items n)) (hd : s.heap.get? d = some ⟨dc, dd, .dict es dn, dsl⟩) (hes : (es.toList.find? (·.key.isStr name)) = none) (hes2 : es.toList.any (·.refKey) = false)
    (h1 : findIn K (.ref 138) "__getattribute__" = some (some (.builtin "list.__getattribute__"))) (h2 : findIn K (.ref 138) "__getattr__" = some none) (h3 : findIn K (.ref 138) name = some (some f))
    (h4 : Looks (model prog w) s.heap (typeOf f) tf) (h5 : (tf != .type "function" && tf != .type "method_descriptor" && tf != .type "wrapper_descriptor") = false) (hq : Q (f, [.ref r]) s) :
    wpAny (model prog w) A (getMethod (.ref r) name pl) Q E s := by
  unfold getMethod
  refine wpAny_bind ((looks_spec X hr h1).here ?_)
  show wpAny _ _ (if (Manifest.canonical "list.__getattribute__" != "object.__getattribute__") = true then _ else _) _ _ _
  rw [if_neg (by decide +kernel)]
  refine wpAny_bind ((looks_spec X hr h2).here ?_)
  dsimp only [Option.isSome]
  rw [if_neg (by decide)]
  refine wpAny_bind ((looks_spec X hr h3).here ?_)
  dsimp only
  refine wpAny_bind (h4.here ?_)
  rw [if_neg (by rw [h5]; decide)]
  refine wpAny_bind (wpAny_loadPart hr ?_)
  have hns : Looks (model prog w) s.heap (nsGet d name) none := looks_nsIn (K := [(d, ⟨dc, dd, .dict es dn, dsl⟩)]) (by
    intro a o e
    simp only [List.lookup] at e
    split at e
    · rename_i q; cases e; rw [beq_iff_eq.mp q]; exact hd
    · cases e) (by
    unfold nsIn
    simp [hes, hes2, List.lookup])
  refine wpAny_bind (hns.here ?_)
  dsimp only [Option.isSome]
  rw [if_neg (by decide)]
  refine wpAny_bind (wpAny_rule ?_)
  exact wpAny_pure hq
theorem find_ga (P : Params) : findIn (kk.heap_1 P) (.ref 138) "__getattribute__" = some (some (.builtin "list.__getattribute__")) := by with_unfolding_all rfl
theorem find_gr (P : Params) : findIn (kk.heap_1 P) (.ref 138) "__getattr__" = some none := by with_unfolding_all rfl
theorem find_append (P : Params) : findIn (kk.heap_1 P) (.ref 138) "append" = some (some (.builtin "list.append")) := by with_unfolding_all rfl
theorem find_push (P : Params) : findIn (kk.heap_1 P) (.ref 138) "push" = some (some (.ref 84)) := by with_unfolding_all rfl
theorem find_len (P : Params) : findIn (kk.heap_1 P) (.ref 138) "__len__" = some (some (.ref 106)) := by with_unfolding_all rfl
theorem find_str (P : Params) : findIn (kk.heap_1 P) (.ref 138) "__str__" = some (some (.ref 113)) := by with_unfolding_all rfl
theorem find_iter (P : Params) : findIn (kk.heap_1 P) (.ref 138) "__iter__" = some (some (.builtin "list.__iter__")) := by with_unfolding_all rfl
theorem mro_list (P : Params) : mroIn (kk.heap_1 P) 138 (.type "list") = some true := by with_unfolding_all rfl

theorem append_road {prog : Program} {w : World} {A : Around} {E : Value → Shared → Prop} {s : Shared} {K : Frag} {r d : Addr} {items : Array Value} {n : Nat} {x : Value} {Q : Value → Shared → Prop}
    (X : K.In s.heap) (hm : mroIn K 138 (.type "list") = some true) (hr : s.heap.get? r = some (roadObj d items n))
    (h : ∀ h', Heap.SameBut r s.heap h' → h'.get? r = some (roadObj d (items.push x) (n + 1)) → Q .none { s with heap := h' }) (hsz : items.size ≤ sizeLine) :
    wpAny (model prog w) A (call (.builtin "list.append") [.ref r, x]) Q E s := by
  refine wpAny_call (codeAny_call_builtin slot_list_append.plain entry_list_append ?_)
  refine check_method (owner := "list") (n := "append") (by with_unfolding_all rfl) (by with_unfolding_all rfl) ?_ (args_list_append _ _) ?_
  · exact (looks_road hr).andThen (looks_mroIn X hm)
  show wpAny _ _ (updateSeq r (·.push x) >>= fun _ => ret .none) _ _ s
  refine wpAny_bind ?_
  have e : Obj.mapSeq (·.push x) (roadObj d items n) = roadObj d (items.push x) (n + 1) := by simp [Obj.mapSeq, roadObj]
  refine wpAny_updateSeq hr rfl (wpAny_pure (h _ (Heap.SameBut.update ..) ?_))
  rw [Heap.get?_update_self _ hr (by rw [e]; rfl), e]
end
end Mine
end OfA5
section OfA6
open PySem PySem.W PySem.Calls PyProof.Rows
set_option Elab.async false
set_option maxRecDepth 100000
set_option maxHeartbeats 8000000
set_option pp.maxSteps 1500
namespace Mine
noncomputable section
theorem filled6 : kk.heap_1 = kk.heap_1 ∧ PySem.Challenge.rw_wu0057_01.name = PySem.Challenge.rw_wu0057_01.name := by
  k_fill
  exact ⟨rfl, rfl⟩
theorem push (w : World) (mean : ExcName → Option Value) (mg mb : Str → Option Value) (a b : Str) (ta tb : Tok) (r d : Addr) (items : Array Value) (n : Nat) {es : Array DictEntry} {dn : Nat} {dc : Value} {dd : Option Addr} {dsl : Array (Option Value)}
    (A : Around) (s : Shared) (Q E : Value → Shared → Prop) (hA : AOk 5 A) (hS : St w mean mg mb (hide [r] s.heap)) (hr : s.heap.get? r = some (roadObj d items n))
    (hd : s.heap.get? d = some ⟨dc, dd, .dict es dn, dsl⟩) (hes : (es.toList.find? (·.key.isStr "append")) = none) (hes2 : es.toList.any (·.refKey) = false) (hsz : items.size ≤ sizeLine)
    (hret : ∀ T h' tk' t1 t2, h'.get? r = some (roadObj d (items.push (.ref T)) (n + 1)) → h'.get? T = some ⟨.type "tuple", none, .seq #[.str a t1, .str b t2] 0, #[]⟩ → s.heap.get? T = none → (∀ b o, b ≠ r → s.heap.get? b = some o → h'.get? b = some o) → Q .none { s with heap := h', toks := tk' }) :
    wpAny (model PG w) A (call (.ref 84) [.ref r, .str a ta, .str b tb]) Q E s := by
  obtain ⟨hd0, dp, fr, gd, un⟩ := A
  obtain rfl : hd0 = none := hA.hd
  have X := hS.X
  have T := hS.T
  have hS' : St w mean mg mb s.heap := hS.keeps (hide_keep _ _)
  have hdr : d ≠ r := by
    rintro rfl
    rw [hr] at hd; cases hd
  refine wpAny_call ?_
  refine' enterB (g := hide [r] s.heap) (St.X hS') (hide_keep _ _) (Nat.le_of_eq (hide_size _ _)) (Top.nolimit (St.T hS')) (AOk.room hA) ?kho ?khcd ?khb ?khl ?kbody ?khco ?khgen ?khk ?khcell
  (case kho => k_is)
  (case khcd => k_is)
  (case khb => exact BindsTo.of_eq rfl)
  (case khl => exact locs rfl)
  (case khco => rfl)
  (case khgen => rfl)
  (case khk => rfl)
  (case khcell => decide)
  intro h₁ F K1
  have N : News (hide [r] s.heap) s.heap.objs.size h₁ [(r, ⟨.ref 138, some d, .seq items n, #[]⟩)] := by
    intro p hp
    obtain rfl := List.mem_singleton.mp hp
    exact ⟨K1 _ _ hr, Nat.ne_of_lt (Heap.lt_size hr), by rw [hide_get]; simp⟩
  clear K1
  (try dsimp only)
  iterate 4 walk_at "kst"
  have hd1 : (hide [r] s.heap).get? d = some ⟨dc, dd, .dict es dn, dsl⟩ := by rw [hide_get, if_neg (by simpa using hdr)]; exact hd
  refine getMethod_road (X.keeps F.keep) (N.get (.head _)) (F.keep _ _ hd1) hes hes2 (find_ga _) (find_gr _) (find_append _) (Looks.of_pure (by with_unfolding_all rfl)) (by decide) ?_
  (try dsimp only)
  iterate 10 walk_at "kst"
  rename Fr _ _ _ _ => F5
  rename News _ _ _ _ => N5
  rename r < _ => lx
  have hrN := N5 _ (.tail _ (.head _))
  refine append_road (s := ⟨_, _, _, _, _⟩) (X.keeps F5.keep) (mro_list _) hrN.1 (fun h6 sb6 g6 => ?_) hsz
  have F6 := F5.change sb6 hrN.2.1 hrN.2.2
  have N6 := N5.setSecond (Nat.ne_of_gt lx) (by intro p hp; cases hp) sb6 g6
  clear F5 N5
  (try dsimp only)
  k_steps
  refine hret _ _ _ _ _ g6 (N6.get (.head _)) ?_ fun b o hb e => F6.keep b o ?_
  · have := (N6 _ (.head _)).2.2
    rwa [hide_get, if_neg (by simpa using Nat.ne_of_gt lx)] at this
  · rw [hide_get, if_neg (by simpa using hb)]; exact e
end
end Mine
end OfA6
section OfA7
open PySem PySem.W PySem.Calls PyProof.Rows Builtin
set_option Elab.async false
set_option maxRecDepth 100000
set_option maxHeartbeats 8000000
set_option pp.maxSteps 1500
namespace Mine
noncomputable section
theorem road_cls (P : Params) : ∃ oc od cd sl, (kk.heap_1 P).lookup 138 = some ⟨oc, od, .cls cd, sl⟩ ∧ cd.abstract = false ∧ cd.hasDel = false ∧ cd.mro = [.ref 138, .type "list", .type "object"] := ⟨_, _, _, _, by with_unfolding_all rfl, rfl, rfl, rfl⟩
theorem road_made {w : World} {h : Heap} (X : (kk.heap_1 w.params).In h) : Looks (model PG w) h (Bind.madeBy (.ref 138)) (some "list.__new__") := Looks.of_peek X (by with_unfolding_all rfl)
theorem road_base {w : World} {h : Heap} (X : (kk.heap_1 w.params).In h) : Looks (model PG w) h (Bind.staticBase (.ref 138)) (.ref 138) := Looks.of_peek X (by with_unfolding_all rfl)
theorem road_call (P : Params) : specialIn (kk.heap_1 P) (.ref 138) "__call__" = some (some (.builtin "type.__call__")) := by with_unfolding_all rfl
theorem road_typ (P : Params) : instIn (kk.heap_1 P) (.ref 138) (.type "type") = some true := by with_unfolding_all rfl
theorem road_init (P : Params) : findIn (kk.heap_1 P) (.ref 138) "__init__" = some (some (.ref 77)) := by with_unfolding_all rfl
theorem road_self (P : Params) : mroIn (kk.heap_1 P) 138 (.ref 138) = some true := by with_unfolding_all rfl
theorem road_fn (P : Params) : typeIn (kk.heap_1 P) (.ref 77) = some (.type "function") := by with_unfolding_all rfl

theorem road_args (x : Value) : ∀ sig, Manifest.signature? "list.__new__" = some sig → Bind.checkArgs "list.__new__" sig ⟨[.ref 138, x], []⟩ = pure () := by
  intro sig e
  have : Manifest.signature? "list.__new__" = some { machinery := .any, full := "list", short := "list", receiver := .cls, params := [{ name := "args", kind := .varPos, required := false }, { name := "kwargs", kind := .varKw, required := false }] } := by with_unfolding_all rfl
  rw [this] at e; cases e
  with_unfolding_all rfl
theorem road_kind : builtinKind "list.__new__" = some .builtinFn := by with_unfolding_all rfl
theorem road_split : splitId "list.__new__" = some ("list", "__new__") := by with_unfolding_all rfl
noncomputable abbrev eDict : Obj := { cls := .type "dict", data := .dict #[] }
theorem road_istype {w : World} {h : Heap} (X : (kk.heap_1 w.params).In h) : Looks (model PG w) h (isType (.ref 138)) true := Looks.of_peek X (by with_unfolding_all rfl)
theorem road_issub {w : World} {h : Heap} (X : (kk.heap_1 w.params).In h) : Looks (model PG w) h (isSubtype (.ref 138) (.type "list")) true := looks_mroIn X (mro_list _)
@[reducible] def NewV : Type := (World) × (Around) × (Result → Shared → Prop) × (Heap) × (Array GenState) × (Drawn) × (Nat) × (OsState) × (Value)
theorem newv0 : Nonempty NewV := ⟨⟨W0, (Around.mk none 0 none none 0), fun _ _ => True, {}, #[], {}, 0, {}, .none⟩⟩
noncomputable def Snew_road (w : World) (A : Around) (R : Result → Shared → Prop) (h : Heap) (g : Array GenState) (d : Drawn) (t : Nat) (os : OsState) (x : Value) : Prop := ∀ (X : (kk.heap_1 w.params).In h) (hq : R (.ok (.ret (.ref (h.objs.size + 1)))) ⟨(h.push eDict).push (roadObj h.objs.size #[] 0), g, d, t, os⟩),
    codeAny (model PG w) A (.call (.builtin "list.__new__") ⟨[.ref 138, x], []⟩) R ⟨h, g, d, t, os⟩
noncomputable def cnew_road : NewV := @Classical.epsilon NewV newv0 fun x => ¬ Snew_road x.1 x.2.1 x.2.2.1 x.2.2.2.1 x.2.2.2.2.1 x.2.2.2.2.2.1 x.2.2.2.2.2.2.1 x.2.2.2.2.2.2.2.1 x.2.2.2.2.2.2.2.2
namespace Knew_road
@[irreducible] noncomputable def w : World := cnew_road.1
@[irreducible] noncomputable def A : Around := cnew_road.2.1
@[irreducible] noncomputable def R : Result → Shared → Prop := cnew_road.2.2.1
@[irreducible] noncomputable def h : Heap := cnew_road.2.2.2.1
@[irreducible] noncomputable def g : Array GenState := cnew_road.2.2.2.2.1
@[irreducible] noncomputable def d : Drawn := cnew_road.2.2.2.2.2.1
@[irreducible] noncomputable def t : Nat := cnew_road.2.2.2.2.2.2.1
@[irreducible] noncomputable def os : OsState := cnew_road.2.2.2.2.2.2.2.1
@[irreducible] noncomputable def x : Value := cnew_road.2.2.2.2.2.2.2.2
theorem holds : Snew_road w A R h g d t os x := by
  intro X hq
  have made := road_made X
  have base := road_base X
  have l1 := road_istype X
  have l2 := road_issub X
  obtain ⟨oc, od, cd, sl, ho, e1, e2, e4⟩ := road_cls w.params
  have hC := X _ _ ho
  have hsig : Manifest.signature? "list.__new__" = some { machinery := .any, full := "list", short := "list", receiver := .cls, params := [{ name := "args", kind := .varPos, required := false }, { name := "kwargs", kind := .varKw, required := false }] } := by with_unfolding_all rfl
  have hca := road_args x _ hsig
  have here : Looks (model PG w) h (Bind.madeHere "list.__new__" (.ref 138)) () := base.andThen (made.andThen (Looks.of_pure (by with_unfolding_all rfl)))
  refine codeAny_of_tree ?_
  show wpAny _ A.in1 (do checkBuiltinCall "list.__new__" ⟨[.ref 138, x], []⟩; again (.builtin "list.__new__" ⟨[.ref 138, x], []⟩)) _ _ _
  refine wpAny_bind ?_
  simp only [checkBuiltinCall, road_kind, road_split, hsig]
  rw [hca]
  repeat (first | simp only [bne_self_eq_false, Bool.false_eq_true, if_false, Bool.not_true] | lk)
  refine ⟨plainId_quiet F.plain_list_new _, codeAny_builtin_stack F.entry_list_new rfl fun p st => ?_⟩
  rw [Around.under_plainId F.plain_list_new _]
  have hown := owner_list_new
  simp only [hown]
  repeat (first | simp only [bne_self_eq_false, Bool.false_eq_true, if_false, Bool.not_true] | lk)
  refine wpAny_load (Heap.get?_push_of_some _ (Heap.get?_push_of_some _ hC)) (wpAny_pure ?_)
  rw [e2]
  refine wpAny_pure (wpAny_pure ?_)
  show R _ _
  rw [Heap.size_push]
  exact hq
end Knew_road
theorem new_road {w : World} {A : Around} {R : Result → Shared → Prop} {h : Heap} {g : Array GenState} {d : Drawn} {t : Nat} {os : OsState} {x : Value} (X : (kk.heap_1 w.params).In h)
    (hq : R (.ok (.ret (.ref (h.objs.size + 1)))) ⟨(h.push eDict).push (roadObj h.objs.size #[] 0), g, d, t, os⟩) :
    codeAny (model PG w) A (.call (.builtin "list.__new__") ⟨[.ref 138, x], []⟩) R ⟨h, g, d, t, os⟩ := by
  exact skolem newv0 (fun x => Snew_road x.1 x.2.1 x.2.2.1 x.2.2.2.1 x.2.2.2.2.1 x.2.2.2.2.2.1 x.2.2.2.2.2.2.1 x.2.2.2.2.2.2.2.1 x.2.2.2.2.2.2.2.2) (by with_unfolding_all exact Knew_road.holds) ⟨w, A, R, h, g, d, t, os, x⟩ X hq
noncomputable def Smake_road (w : World) (A : Around) (R : Result → Shared → Prop) (h : Heap) (g : Array GenState) (d : Drawn) (t : Nat) (os : OsState) (x : Value) : Prop := ∀ (X : (kk.heap_1 w.params).In h) (hq : codeAny (model PG w) (A.under (.builtin "type.__call__" ⟨[.ref 138, x], []⟩)) (.call (.ref 77) ⟨[.ref (h.objs.size + 1), x], []⟩) (InitBack (h.objs.size + 1) R) ⟨(h.push eDict).push (roadObj h.objs.size #[] 0), g, d, t, os⟩),
    codeAny (model PG w) A (.call (.ref 138) ⟨[x], []⟩) R ⟨h, g, d, t, os⟩
noncomputable def cmake_road : NewV := @Classical.epsilon NewV newv0 fun x => ¬ Smake_road x.1 x.2.1 x.2.2.1 x.2.2.2.1 x.2.2.2.2.1 x.2.2.2.2.2.1 x.2.2.2.2.2.2.1 x.2.2.2.2.2.2.2.1 x.2.2.2.2.2.2.2.2
namespace Kmake_road
@[irreducible] noncomputable def w : World := cmake_road.1
@[irreducible] noncomputable def A : Around := cmake_road.2.1
@[irreducible] noncomputable def R : Result → Shared → Prop := cmake_road.2.2.1
@[irreducible] noncomputable def h : Heap := cmake_road.2.2.2.1
@[irreducible] noncomputable def g : Array GenState := cmake_road.2.2.2.2.1
@[irreducible] noncomputable def d : Drawn := cmake_road.2.2.2.2.2.1
@[irreducible] noncomputable def t : Nat := cmake_road.2.2.2.2.2.2.1
@[irreducible] noncomputable def os : OsState := cmake_road.2.2.2.2.2.2.2.1
@[irreducible] noncomputable def x : Value := cmake_road.2.2.2.2.2.2.2.2
theorem holds : Smake_road w A R h g d t os x := by
  intro X hq
  have made := road_made X
  have call := looks_specialIn (M := model PG w) X (road_call w.params)
  have typ := looks_instIn (M := model PG w) X (road_typ w.params)
  have hi := looks_findIn (M := model PG w) X (road_init w.params)
  have self := looks_mroIn (M := model PG w) X (road_self w.params)
  obtain ⟨oc, od, cd, sl, ho, e1, e2, e4⟩ := road_cls w.params
  have hC := X _ _ ho
  have e5 : cd.mro.isEmpty = false := by rw [e4]; rfl
  refine codeAny_of_tree ?_
  show wpAny _ _ (callAny (.ref 138) _) _ _ _
  refine nd_load hC ?_
  show wpAny _ _ (callAny.viaDunder (.ref 138) _) _ _ _
  unfold callAny.viaDunder
  refine wpAny_bind (call.at ?_)
  dsimp only
  rw [tc_bind]
  refine wpAny_bind (wpAny_pure (wpAny_bind (wpAny_pure ?_)))
  refine wpAny_pure (a := Fin.again (.call (.builtin "type.__call__") ⟨[.ref 138, x], []⟩)) (And.intro rfl ?_)
  refine codeAny_call_builtin_at (Code.quiet_builtin _ (by decide +kernel)) entry_typeCall (check_slot tc_kind tc_split typ (tc_args _ _ _) ?_)
  unfold Builtin.«type.__call__»
  have hm : Looks (model PG w) h (mroOf (.ref 138)) cd.mro := ((Looks.ld (part := none) hC).andThen .now).andThen .now
  repeat (first | simp only [e5, Bool.false_eq_true, if_false] | with_reducible refine wpAny_call ?_ | lk)
  refine new_road X ?_
  have k : ∀ b o, h.get? b = some o → ((h.push eDict).push (roadObj h.objs.size #[] 0)).get? b = some o := fun b o e => Heap.get?_push_of_some _ (Heap.get?_push_of_some _ e)
  have hx : ((h.push eDict).push (roadObj h.objs.size #[] 0)).get? (h.objs.size + 1) = some (roadObj h.objs.size #[] 0) := by
    have := Heap.get?_push_size (h.push eDict) (o := roadObj h.objs.size #[] 0) rfl
    rwa [Heap.size_push] at this
  have t1 : Looks (model PG w) ((h.push eDict).push (roadObj h.objs.size #[] 0)) (typeOf (.ref (h.objs.size + 1))) (.ref 138) := (Looks.ld hx).andThen .now
  have s1 := self.keeps k
  have i1 := hi.keeps k
  have b1 := (bind_fn (M := model PG w) X (.ref (h.objs.size + 1)) (road_fn w.params)).keeps k
  unfold isInstance callSpecial? specialOf
  repeat (first | with_reducible refine wpAny_call ?_ | lk)
  refine codeAny_mono hq fun r s' z => ?_
  rcases r with e | (v | _ | _ | _) <;> first | exact z | exact z.elim | skip
  obtain ⟨rfl, z⟩ := z
  exact wpAny_pure (wpAny_pure z)
end Kmake_road
theorem make_road {w : World} {A : Around} {R : Result → Shared → Prop} {h : Heap} {g : Array GenState} {d : Drawn} {t : Nat} {os : OsState} {x : Value} (X : (kk.heap_1 w.params).In h)
    (hq : codeAny (model PG w) (A.under (.builtin "type.__call__" ⟨[.ref 138, x], []⟩)) (.call (.ref 77) ⟨[.ref (h.objs.size + 1), x], []⟩) (InitBack (h.objs.size + 1) R) ⟨(h.push eDict).push (roadObj h.objs.size #[] 0), g, d, t, os⟩) :
    codeAny (model PG w) A (.call (.ref 138) ⟨[x], []⟩) R ⟨h, g, d, t, os⟩ := by
  exact skolem newv0 (fun x => Smake_road x.1 x.2.1 x.2.2.1 x.2.2.2.1 x.2.2.2.2.1 x.2.2.2.2.2.1 x.2.2.2.2.2.2.1 x.2.2.2.2.2.2.2.1 x.2.2.2.2.2.2.2.2) (by with_unfolding_all exact Kmake_road.holds) ⟨w, A, R, h, g, d, t, os, x⟩ X hq
end
end Mine
end OfA7
section OfA8
open PySem PySem.W PySem.Calls PyProof.Rows Builtin
set_option Elab.async false
set_option maxRecDepth 100000
set_option maxHeartbeats 8000000
set_option pp.maxSteps 1500
namespace Mine
noncomputable section
local macro_rules | `(tactic| walk_at "pad") => `(tactic| skip)
theorem filled8 : kk.heap_1 = kk.heap_1 ∧ PySem.Challenge.rw_wu0057_01.name = PySem.Challenge.rw_wu0057_01.name := by
  k_fill
  exact ⟨rfl, rfl⟩
theorem road_has (P : Params) : (clsIn (kk.heap_1 P) 138).any (·.hasDict) = true := by with_unfolding_all rfl
theorem road_mro (P : Params) : (clsIn (kk.heap_1 P) 138).map (·.mro) = some [.ref 138, .type "list", .type "object"] := by with_unfolding_all rfl
theorem road_setter (P : Params) : findIn (kk.heap_1 P) (.ref 138) "__setattr__" = some (some (.builtin "object.__setattr__")) := by with_unfolding_all rfl
theorem road_taker (P : Params) : findIn (kk.heap_1 P) (.ref 138) "_initial_size" = some none := by with_unfolding_all rfl
theorem road_refuse (self : Value) : refuseLoop self "__setattr__" [.ref 138, .type "list", .type "object"] = pure () := by rw [refuseLoop_ref]; with_unfolding_all rfl
theorem road_obj (P : Params) : mroIn (kk.heap_1 P) 138 (.type "object") = some true := by with_unfolding_all rfl
theorem road_put (w : World) (t : Tok) (v : Value) : Obj.putName "_initial_size" (PyData.keyHash w.params "_initial_size") (.str "_initial_size" t) v eDict = ⟨.type "dict", none, .dict #[⟨PyData.keyHash w.params "_initial_size", .str "_initial_size" t, v⟩] 1, #[]⟩ := by with_unfolding_all rfl
open Builtin.ObjectAttr in
theorem road_set {w : World} {A : Around} {E : Value → Shared → Prop} {s : Shared} {r d : Addr} {items : Array Value} {n : Nat} {v : Value} {Q : Unit → Shared → Prop} (X : (kk.heap_1 w.params).In s.heap) (hr : s.heap.get? r = some (roadObj d items n)) (hd : s.heap.get? d = some eDict)
    (h : ∀ h' tk tk', Heap.SameBut d s.heap h' → h'.get? d = some ⟨.type "dict", none, .dict #[⟨PyData.keyHash w.params "_initial_size", .str "_initial_size" tk, v⟩] 1, #[]⟩ → Q () { s with heap := h', toks := tk' }) :
    wpAny (model PG w) A (setAttr (.ref r) "_initial_size" v) Q E s := by
  have SF := PySem.F.store_object
  obtain ⟨cd, hc, hmro⟩ := Option.map_eq_some_iff.mp (road_mro w.params)
  have tyr : Looks (model PG w) s.heap (typeOf (.ref r)) (.ref 138) := looks_road hr
  have hm : Looks (model PG w) s.heap (mroOf (.ref 138)) cd.mro := (looks_clsIn X hc).andThen .now
  have hda : cd.hasDict = true := by have := road_has w.params; rw [hc] at this; exact this
  have sub : Looks (model PG w) s.heap (isInstance (.ref r) (.type "object")) true := tyr.andThen (looks_mroIn X (road_obj _))
  obtain ⟨hh, gg, dd, tt, oo⟩ := s
  unfold setAttr callSpecial? specialOf
  refine wpAny_bind (wpAny_mkText (wpAny_bind (wpAny_bind (wpAny_bind (tyr.at ((looks_findIn X (road_setter _)).at ?_))))))
  refine wpAny_holding (wpAny_bind ?_)
  rw [SF.slot.bind]
  refine wpAny_pure (wpAny_bind (wpAny_call ?_))
  refine codeAny_call_builtin SF.slot.plain SF.entry (@check_slot (model PG w) _ _ _ "object.__setattr__" "object" "__setattr__" (.ref r) [.str "_initial_size" tt, v] [] _ SF.kind SF.split sub (SF.args (.ref r) (.str "_initial_size" tt) v) ?_)
  show wpAny _ _ (Builtin.«object.__setattr__» ⟨[.ref r, .str "_initial_size" tt, v], []⟩) _ _ _
  rw [osa_eq, refuse_eq]
  refine wpAny_bind (wpAny_bind (tyr.at (wpAny_bind (hm.at ?_))))
  rw [hmro, road_refuse]
  refine wpAny_pure (wpAny_bind (tyr.at (wpAny_bind ((looks_findIn X (road_taker _)).at (wpAny_bind (wpAny_of_eq (show storeTaker? none = pure none from rfl) ?_))))))
  refine wpAny_bind (wpAny_pure (wpAny_bind (wpAny_bind (wpAny_loadPart hr (wpAny_bind ((looks_clsIn X hc).at ?_))))))
  rw [hda]
  refine wpAny_pure (a := some d) (wpAny_bind (wpAny_pure (wpAny_bind ?_)))
  unfold nsSet
  refine wpAny_bind (wpAny_bind (wpAny_askSetting (wpAny_pure (wpAny_bind (wpAny_mkText (wpAny_bind (wpAny_loadPart hd ?_)))))))
  dsimp only
  rw [aRefKeyMayBeTheName_at]
  rw [if_neg (by simp)]
  have hp := road_put w (tt + 1) v
  have gd' : (hh.update d (Obj.putName "_initial_size" (PyData.keyHash w.params "_initial_size") (.str "_initial_size" (tt + 1)) v)).get? d = some ⟨.type "dict", none, .dict #[⟨PyData.keyHash w.params "_initial_size", .str "_initial_size" (tt + 1), v⟩] 1, #[]⟩ := by
    rw [Heap.get?_update_self _ hd (by rw [hp]; rfl), hp]
  refine wpAny_updatePart hd ?_
  refine wpAny_bind (wpAny_lookBehind gd' (pastItsLine_dict (by rw [sizeLine_eq]; show 1 ≤ 16777216 + 1; omega)) ?_)
  refine wpAny_pure ?_
  exact wpAny_pure (wpAny_pure (h _ _ _ (Heap.SameBut.update ..) gd'))
theorem enterS {prog : Program} {w : World} {A : Around} {s : Shared} {K : Frag} {R : Result → Shared → Prop} {name qual : Str} {params : Arguments} {body : List Stmt} {scope : Scope} {dV kV doc pm cdv ct oc : Value} {an od : Option Addr} {osl : Array (Option Value)} {f cc : Addr} {args : Args} {binds : List (Str × Value)}
    (X : K.In s.heap) (hlim : s.heap.NoLimit) (hroom : A.depth < recursionLimit)
    (ho : K.lookup f = some ⟨oc, od, .func (ksFn name qual params body scope dV kV doc pm an cdv ct cc), osl⟩) (hcd : codeIn K cdv qual = true)
    (hbind : BindsTo s (ksFn name qual params body scope dV kV doc pm an cdv ct cc) args binds) (hloc : ∀ y ∈ binds, scope.names.lookup y.1 = some .local)
    (h : ∀ h₁, h₁.Ns s.heap.objs.size (fun y => binds.reverse.lookup y) → Keep s.heap h₁ →
      _root_.PySem.wpAt (model prog w) (A.deeper (ksEnv qual scope s.heap.objs.size f cdv cc)) (.func body (ksEnv qual scope s.heap.objs.size f cdv cc)) (execs body (ksEnv qual scope s.heap.objs.size f cdv cc))
        (fun fl s' => R (.ok (.ret (match fl with | .ret v => v | _ => .none))) s')
        (fun e s' => wpAny (model prog w) (A.deeper (ksEnv qual scope s.heap.objs.size f cdv cc)) (leaving (ksEnv qual scope s.heap.objs.size f cdv cc) e) (fun _ s'' => R (.error e) s'') (fun e' s'' => R (.error e') s'') s')
        { s with heap := h₁, toks := s.toks + binds.length })
    (hcell : ∀ x ∈ scope.names, x.2 ≠ .cell := by decide) (hco : scope.isCoroutine = false := by rfl) (hgen : scope.isGenerator = false := by rfl) (hk : scope.kind = .function := by rfl) : codeAny (model prog w) A (.call (.ref f) args) R s := by
  exact ks_codeAny_call_defAt (fd := ksFn name qual params body scope dV kV doc pm an cdv ct cc) (body := body) (binds := binds) hroom (X _ _ ho) rfl hlim (codeRec_of X hcd) rfl hbind hcell hloc (fun h₁ hns hk₁ => h h₁ hns hk₁) hco hgen hk
theorem slot_wd_get : Slot "wrapper_descriptor" "__get__" "wrapper_descriptor.__get__" := .of (owner := "wrapper_descriptor") (n := "__get__") (by rw [typeLookup_type, builtinLookup_eq_fast]; kernel_rfl) (by decide +kernel) (by decide +kernel) (by decide +kernel)
  (.inl (by decide +kernel)) (by rw [isSubtype_type]; kernel_rfl)
theorem entry_wd_get : entryFor table "wrapper_descriptor.__get__" = some Builtin.«wrapper_descriptor.__get__» := entryFor_of_tree (by kernel_rfl)
theorem args_wd_get (a b c : Value) : argsOk "wrapper_descriptor.__get__" ⟨[a, b, c], []⟩ := by unfold argsOk; kernel_rfl
theorem type_linit : typeOf (.builtin "list.__init__") = pure (.type "wrapper_descriptor") := by with_unfolding_all rfl
noncomputable abbrev mwObj (r : Addr) : Obj := { cls := .type "method-wrapper", data := .fields #[.builtin "list.__init__", .ref r] }

theorem wd_get {w : World} {A : Around} {E : Value → Shared → Prop} {h : Heap} {g : Array GenState} {dd : Drawn} {t : Nat} {os : OsState} {r d : Addr} {items : Array Value} {n : Nat} {Q : Value → Shared → Prop} (X : (kk.heap_1 w.params).In h) (hr : h.get? r = some (roadObj d items n))
    (hq : Q (.ref h.objs.size) ⟨h.push (mwObj r), g, dd, t, os⟩) :
    wpAny (model PG w) A (call (.builtin "wrapper_descriptor.__get__") [.builtin "list.__init__", .ref r, .ref 138]) Q E ⟨h, g, dd, t, os⟩ := by
  obtain ⟨oc, od, cd, sl, ho, e1, e2, e4⟩ := road_cls w.params
  have hC := X _ _ ho
  refine wpAny_call_entry slot_wd_get (show (⟨h, g, dd, t, os⟩ : Shared).TypeIs (.builtin "list.__init__") "wrapper_descriptor" from type_linit) entry_wd_get ?_ (args_wd_get _ _ _)
  unfold Builtin.«wrapper_descriptor.__get__»
  repeat (first | simp only [bne_self_eq_false, Bool.false_eq_true, if_false, Bool.not_true] | lk)
  rw [e4]
  refine wpAny_of_eq (a := true) (by with_unfolding_all rfl) ?_
  repeat (first | simp only [bne_self_eq_false, Bool.false_eq_true, if_false, Bool.not_true] | lk)
  exact ⟨_, rfl, hq⟩
theorem lookup_wd_get : typeLookup (.type "wrapper_descriptor") "__get__" = pure (some (.builtin "wrapper_descriptor.__get__")) := by rw [typeLookup_type, builtinLookup_eq_fast]; kernel_rfl
theorem along_init (P : Params) : alongIn (kk.heap_1 P) "__init__" [.type "list", .type "object"] = some (some (.builtin "list.__init__")) := by with_unfolding_all rfl
theorem third_any (P : Params) : nsIn (kk.heap_1 P) cStatics "thirdparty.any" = some none := by with_unfolding_all rfl
set_option maxHeartbeats 400000 in
@[reducible] def InV : Type := (World) × (ExcName → Option Value) × (Str → Option Value) × (Str → Option Value) × (Nat) × (Nat) × (Nat) × (Nat) × (Option (List Env)) × (Option (List Code)) × (Nat) × (Shared) × (Result → Shared → Prop) × (Around) × (Value → Shared → Prop) × (Heap) × (Array GenState) × (Drawn) × (Nat) × (OsState) × (Nat) × (Array Value) × (Nat) × (Fin → Shared → Prop)
theorem inv0 : Nonempty InV := ⟨⟨W0, fun _ => none, fun _ => none, fun _ => none, 0, 0, 0, 0, none, none, 0, {}, fun _ _ => True, (Around.mk none 0 none none 0), fun _ _ => True, {}, #[], {}, 0, {}, 0, #[], 0, fun _ _ => True⟩⟩
noncomputable def Ssuper_ga (w : World) (A : Around) (E : Value → Shared → Prop) (h : Heap) (g : Array GenState) (dd : Drawn) (t : Nat) (os : OsState) (r : Addr) (d : Addr) (so : Addr) (items : Array Value) (n : Nat) (tk : Tok) (Q : Fin → Shared → Prop) : Prop := ∀ (X : (kk.heap_1 w.params).In h) (hr : h.get? r = some (roadObj d items n)) (hso : h.get? so = some { cls := .type "super", dict := none, data := .fields #[.ref 138, .ref r, .ref 138], slots := #[] }) (hq : Q (.done (.ret (.ref h.objs.size))) ⟨h.push (mwObj r), g, dd, t, os⟩),
    wpAny (model PG w) A (Builtin.«super.__getattribute__» ⟨[.ref so, .str "__init__" tk], []⟩) Q E ⟨h, g, dd, t, os⟩
noncomputable def csuper_ga : InV := @Classical.epsilon InV inv0 fun x => ¬ Ssuper_ga x.1 x.2.2.2.2.2.2.2.2.2.2.2.2.2.1 x.2.2.2.2.2.2.2.2.2.2.2.2.2.2.1 x.2.2.2.2.2.2.2.2.2.2.2.2.2.2.2.1 x.2.2.2.2.2.2.2.2.2.2.2.2.2.2.2.2.1 x.2.2.2.2.2.2.2.2.2.2.2.2.2.2.2.2.2.1 x.2.2.2.2.2.2.2.2.2.2.2.2.2.2.2.2.2.2.1 x.2.2.2.2.2.2.2.2.2.2.2.2.2.2.2.2.2.2.2.1 x.2.2.2.2.2.1 x.2.2.2.2.2.2.1 x.2.2.2.2.2.2.2.2.2.2.2.2.2.2.2.2.2.2.2.2.1 x.2.2.2.2.2.2.2.2.2.2.2.2.2.2.2.2.2.2.2.2.2.1 x.2.2.2.2.2.2.2.2.2.2.2.2.2.2.2.2.2.2.2.2.2.2.1 x.2.2.2.2.1 x.2.2.2.2.2.2.2.2.2.2.2.2.2.2.2.2.2.2.2.2.2.2.2
namespace Ksuper_ga
@[irreducible] noncomputable def w : World := csuper_ga.1
@[irreducible] noncomputable def A : Around := csuper_ga.2.2.2.2.2.2.2.2.2.2.2.2.2.1
@[irreducible] noncomputable def E : Value → Shared → Prop := csuper_ga.2.2.2.2.2.2.2.2.2.2.2.2.2.2.1
@[irreducible] noncomputable def h : Heap := csuper_ga.2.2.2.2.2.2.2.2.2.2.2.2.2.2.2.1
@[irreducible] noncomputable def g : Array GenState := csuper_ga.2.2.2.2.2.2.2.2.2.2.2.2.2.2.2.2.1
@[irreducible] noncomputable def dd : Drawn := csuper_ga.2.2.2.2.2.2.2.2.2.2.2.2.2.2.2.2.2.1
@[irreducible] noncomputable def t : Nat := csuper_ga.2.2.2.2.2.2.2.2.2.2.2.2.2.2.2.2.2.2.1
@[irreducible] noncomputable def os : OsState := csuper_ga.2.2.2.2.2.2.2.2.2.2.2.2.2.2.2.2.2.2.2.1
@[irreducible] noncomputable def r : Addr := csuper_ga.2.2.2.2.2.1
@[irreducible] noncomputable def d : Addr := csuper_ga.2.2.2.2.2.2.1
@[irreducible] noncomputable def so : Addr := csuper_ga.2.2.2.2.2.2.2.2.2.2.2.2.2.2.2.2.2.2.2.2.1
@[irreducible] noncomputable def items : Array Value := csuper_ga.2.2.2.2.2.2.2.2.2.2.2.2.2.2.2.2.2.2.2.2.2.1
@[irreducible] noncomputable def n : Nat := csuper_ga.2.2.2.2.2.2.2.2.2.2.2.2.2.2.2.2.2.2.2.2.2.2.1
@[irreducible] noncomputable def tk : Tok := csuper_ga.2.2.2.2.1
@[irreducible] noncomputable def Q : Fin → Shared → Prop := csuper_ga.2.2.2.2.2.2.2.2.2.2.2.2.2.2.2.2.2.2.2.2.2.2.2
theorem holds : Ssuper_ga w A E h g dd t os r d so items n tk Q := by
  intro X hr hso hq
  obtain ⟨oc, od, cd, sl, ho, e1, e2, e4⟩ := road_cls w.params
  have hC := X _ _ ho
  have hno := looks_opaque (M := model PG w) (C := 138) X (third_any w.params)
  have hm : Looks (model PG w) h (mroOf (.ref 138)) cd.mro := ((Looks.ld (part := none) hC).andThen .now).andThen .now
  have hne : (Value.ref r == Value.ref 138) = false := by
    have : r ≠ 138 := by intro e; rw [e, hC] at hr; cases hr
    simp [this]
  have hn : (("__init__" : Str) == ("__class__" : Str)) = false := by decide
  have hns : (Value.ref 138 == Value.none) = false := by rfl
  have hdt : ({ cls := .type "super", dict := none, data := .fields #[.ref 138, .ref r, .ref 138], slots := #[] } : Obj).data = .fields #[.ref 138, .ref r, .ref 138] := rfl
  have f0 : (#[.ref 138, .ref r, .ref 138] : Array Value)[0]? = some (.ref 138) := rfl
  have f1 : (#[.ref 138, .ref r, .ref 138] : Array Value)[1]? = some (.ref r) := rfl
  have f2 : (#[.ref 138, .ref r, .ref 138] : Array Value)[2]? = some (.ref 138) := rfl
  unfold Builtin.«super.__getattribute__»
  repeat (first
    | (with_reducible refine wpAny_field hso hdt f0 ?_) | (with_reducible refine wpAny_field hso hdt f1 ?_) | (with_reducible refine wpAny_field hso hdt f2 ?_)
    | (with_reducible refine ks_wpAny_notOpaque hno ?_)
    | (simp only [hn, hns, Bool.or_false, Bool.false_eq_true, if_false])
    | lk)
  have hl : List.drop 1 (List.dropWhile (fun x => x != Value.ref 138) cd.mro) = [.type "list", .type "object"] := by rw [e4]; rfl
  have own := looks_ownIn (M := model PG w) X (c := .type "list") (name := "__init__") (r := some (.builtin "list.__init__")) (by with_unfolding_all rfl)
  rw [hl]
  repeat (first
    | (with_reducible refine wpAny_of_eq type_linit ?_)
    | (with_reducible refine wpAny_of_eq lookup_wd_get ?_)
    | (with_reducible refine wd_get X hr ?_)
    | (simp only [hn, hne, hns, Bool.or_false, Bool.false_eq_true, if_false])
    | lk)
  exact hq
end Ksuper_ga
theorem super_ga {w : World} {A : Around} {E : Value → Shared → Prop} {h : Heap} {g : Array GenState} {dd : Drawn} {t : Nat} {os : OsState} {r d so : Addr} {items : Array Value} {n : Nat} {tk : Tok} {Q : Fin → Shared → Prop} (X : (kk.heap_1 w.params).In h) (hr : h.get? r = some (roadObj d items n))
    (hso : h.get? so = some { cls := .type "super", dict := none, data := .fields #[.ref 138, .ref r, .ref 138], slots := #[] })
    (hq : Q (.done (.ret (.ref h.objs.size))) ⟨h.push (mwObj r), g, dd, t, os⟩) :
    wpAny (model PG w) A (Builtin.«super.__getattribute__» ⟨[.ref so, .str "__init__" tk], []⟩) Q E ⟨h, g, dd, t, os⟩ := by
  exact skolem inv0 (fun x => Ssuper_ga x.1 x.2.2.2.2.2.2.2.2.2.2.2.2.2.1 x.2.2.2.2.2.2.2.2.2.2.2.2.2.2.1 x.2.2.2.2.2.2.2.2.2.2.2.2.2.2.2.1 x.2.2.2.2.2.2.2.2.2.2.2.2.2.2.2.2.1 x.2.2.2.2.2.2.2.2.2.2.2.2.2.2.2.2.2.1 x.2.2.2.2.2.2.2.2.2.2.2.2.2.2.2.2.2.2.1 x.2.2.2.2.2.2.2.2.2.2.2.2.2.2.2.2.2.2.2.1 x.2.2.2.2.2.1 x.2.2.2.2.2.2.1 x.2.2.2.2.2.2.2.2.2.2.2.2.2.2.2.2.2.2.2.2.1 x.2.2.2.2.2.2.2.2.2.2.2.2.2.2.2.2.2.2.2.2.2.1 x.2.2.2.2.2.2.2.2.2.2.2.2.2.2.2.2.2.2.2.2.2.2.1 x.2.2.2.2.1 x.2.2.2.2.2.2.2.2.2.2.2.2.2.2.2.2.2.2.2.2.2.2.2) (by with_unfolding_all exact Ksuper_ga.holds) ⟨w, (Classical.choice inv0).2.1, (Classical.choice inv0).2.2.1, (Classical.choice inv0).2.2.2.1, tk, r, d, (Classical.choice inv0).2.2.2.2.2.2.2.1, (Classical.choice inv0).2.2.2.2.2.2.2.2.1, (Classical.choice inv0).2.2.2.2.2.2.2.2.2.1, (Classical.choice inv0).2.2.2.2.2.2.2.2.2.2.1, (Classical.choice inv0).2.2.2.2.2.2.2.2.2.2.2.1, (Classical.choice inv0).2.2.2.2.2.2.2.2.2.2.2.2.1, A, E, h, g, dd, t, os, so, items, n, Q⟩ X hr hso hq
theorem gm_super {w : World} {A : Around} {E : Value → Shared → Prop} {h : Heap} {g : Array GenState} {dd : Drawn} {t : Nat} {os : OsState} {r d so : Addr} {items : Array Value} {n : Nat} {pl : Sem Bool} {Q : Value × List Value → Shared → Prop} (X : (kk.heap_1 w.params).In h) (hr : h.get? r = some (roadObj d items n))
    (hso : h.get? so = some { cls := .type "super", dict := none, data := .fields #[.ref 138, .ref r, .ref 138], slots := #[] })
    (hq : Q (.ref h.objs.size, []) ⟨h.push (mwObj r), g, dd, t + 1, os⟩) :
    wpAny (model PG w) A (getMethod (.ref so) "__init__" pl) Q E ⟨h, g, dd, t, os⟩ := by
  have hlk := F.ks_slot_super_ga.lookup
  have hcan := F.ks_canon_super_ga
  have hT : ∀ t', (⟨h, g, dd, t', os⟩ : Shared).TypeIs (.ref so) "super" := fun _ => ⟨_, hso, rfl⟩
  unfold getMethod
  refine wpAny_bind (wpAny_specialOf (hT _) hlk ?_)
  show wpAny _ _ (if (Manifest.canonical "super.__getattribute__" != "object.__getattribute__") = true then _ else _) _ _ _
  rw [if_pos hcan]
  unfold getAttr getAttrBy
  refine wpAny_bind (wpAny_bind (wpAny_mkText (wpAny_holding (wpAny_bind (wpAny_typeOf (hT _) (wpAny_bind (wpAny_of_eq hlk ?_)))))))
  show wpAny _ _ (getAttrByItsOwn (.ref so) (.str "__init__" t) (.type "super") (.builtin "super.__getattribute__") true false) _ _ _
  unfold getAttrByItsOwn hookBefore callGetattribute boundAndCalled
  refine wpAny_bind (wpAny_of_eq (show (if onTheHeap (.type "super") then typeLookup (.type "super") "__getattr__" else pure none) = pure none from rfl) ?_)
  refine wpAny_bind (wpAny_attempt (wpAny_holding ?_))
  show wpAny _ _ (bindSpecial (.builtin "super.__getattribute__") (.ref so) >>= _) _ _ _
  refine wpAny_bind (wpAny_of_eq (F.ks_slot_super_ga.bind _) ?_)
  refine wpAny_mono (Q := fun v s' => v = .ref h.objs.size ∧ s' = ⟨h.push (mwObj r), g, dd, t + 1, os⟩) (E := fun _ _ => False)
    (wpAny_call_entry F.ks_slot_super_ga (hT _) F.ks_entry_super_ga (super_ga X hr hso ⟨_, rfl, rfl, rfl⟩) (F.ks_gaArgs_super _ _)) (fun v s' hv => ?_) fun _ _ z => z.elim
  obtain ⟨rfl, rfl⟩ := hv
  exact wpAny_pure (wpAny_pure hq)
theorem chk_linit (r : Addr) : checkBoundCall "list.__init__" ⟨[.ref r], []⟩ = pure () := by kernel_rfl
theorem call_mw {w : World} {A : Around} {E : Value → Shared → Prop} {h : Heap} {g : Array GenState} {dd : Drawn} {t : Nat} {os : OsState} {r d q : Addr} {Q : Value → Shared → Prop} (hr : h.get? r = some (roadObj d #[] 0))
    (hm : h.get? q = some (mwObj r)) (hq : ∀ h' n, Heap.SameBut r h h' → h'.get? r = some (roadObj d #[] n) → Q .none ⟨h', g, dd, t, os⟩) :
    wpAny (model PG w) A (call (.ref q) []) Q E ⟨h, g, dd, t, os⟩ := by
  refine wpAny_call (codeAny_of_tree ?_)
  show wpAny _ _ (callAny (.ref q) _) _ _ _
  unfold callAny
  refine wpAny_bind (wpAny_load hm ?_)
  refine wpAny_bind (wpAny_of_eq (chk_linit r) ?_)
  refine wpAny_pure ⟨plainId_quiet F.slot_list_init.plain _, codeAny_builtin F.entry_list_init ?_⟩
  rw [Around.under_plainId F.slot_list_init.plain _]
  unfold Builtin.«list.__init__»
  repeat (first | (simp only [List.length_nil, Bool.false_eq_true, if_false]) | lk)
  have e : ∃ n, Obj.mapSeq (fun _ => #[]) (roadObj d #[] 0) = roadObj d #[] n := ⟨_, by with_unfolding_all rfl⟩
  obtain ⟨n, e⟩ := e
  have g' : (h.update r (Obj.mapSeq fun _ => #[])).get? r = some (roadObj d #[] n) := by
    rw [Heap.get?_update_self _ hr (by rw [e]; rfl), e]
  refine wpAny_update hr ?_
  refine wpAny_lookBehind g' (pastItsLine_seq (by show 0 ≤ _; omega)) ?_
  refine wpAny_bind (wpAny_of_eq (show letGo ([] : List Value).reverse = pure () from rfl) ?_)
  exact wpAny_pure (hq _ _ (Heap.SameBut.update ..) g')
@[reducible] noncomputable def fullDict (w : World) (t2 tk : Tok) : Obj := ⟨.type "dict", none, .dict #[⟨PyData.keyHash w.params "_initial_size", .str "_initial_size" t2, .int 3 tk⟩] 1, #[]⟩
noncomputable def Sinit_road (w : World) (mean : ExcName → Option Value) (mg : Str → Option Value) (mb : Str → Option Value) (tk : Tok) (r : Addr) (d : Addr) (dp : Nat) (fr : Option (List Env)) (gd : Option (List Code)) (un : Nat) (s : Shared) (R : Result → Shared → Prop) : Prop := ∀ (hA : AOk 5 (Around.mk none dp fr gd un)) (hS : St w mean mg mb (hide [r, d] s.heap)) (hr : s.heap.get? r = some (roadObj d #[] 0)) (hd : s.heap.get? d = some eDict) (hrd : d < r) (hret : ∀ h' tk' n t2, h'.get? r = some (roadObj d #[] n) → h'.get? d = some (fullDict w t2 tk) → (∀ b o, b ≠ r → b ≠ d → s.heap.get? b = some o → h'.get? b = some o) → R (.ok (.ret .none)) { s with heap := h', toks := tk' }),
    codeAny (model PG w) (Around.mk none dp fr gd un) (.call (.ref 77) ⟨[.ref r, .int 3 tk], []⟩) R s
noncomputable def cinit_road : InV := @Classical.epsilon InV inv0 fun x => ¬ Sinit_road x.1 x.2.1 x.2.2.1 x.2.2.2.1 x.2.2.2.2.1 x.2.2.2.2.2.1 x.2.2.2.2.2.2.1 x.2.2.2.2.2.2.2.1 x.2.2.2.2.2.2.2.2.1 x.2.2.2.2.2.2.2.2.2.1 x.2.2.2.2.2.2.2.2.2.2.1 x.2.2.2.2.2.2.2.2.2.2.2.1 x.2.2.2.2.2.2.2.2.2.2.2.2.1
namespace Kinit_road
@[irreducible] noncomputable def w : World := cinit_road.1
@[irreducible] noncomputable def mean : ExcName → Option Value := cinit_road.2.1
@[irreducible] noncomputable def mg : Str → Option Value := cinit_road.2.2.1
@[irreducible] noncomputable def mb : Str → Option Value := cinit_road.2.2.2.1
@[irreducible] noncomputable def tk : Tok := cinit_road.2.2.2.2.1
@[irreducible] noncomputable def r : Addr := cinit_road.2.2.2.2.2.1
@[irreducible] noncomputable def d : Addr := cinit_road.2.2.2.2.2.2.1
@[irreducible] noncomputable def dp : Nat := cinit_road.2.2.2.2.2.2.2.1
@[irreducible] noncomputable def fr : Option (List Env) := cinit_road.2.2.2.2.2.2.2.2.1
@[irreducible] noncomputable def gd : Option (List Code) := cinit_road.2.2.2.2.2.2.2.2.2.1
@[irreducible] noncomputable def un : Nat := cinit_road.2.2.2.2.2.2.2.2.2.2.1
@[irreducible] noncomputable def s : Shared := cinit_road.2.2.2.2.2.2.2.2.2.2.2.1
@[irreducible] noncomputable def R : Result → Shared → Prop := cinit_road.2.2.2.2.2.2.2.2.2.2.2.2.1
theorem holds : Sinit_road w mean mg mb tk r d dp fr gd un s R := by
  intro hA hS hr hd hrd hret
  have X := hS.X
  have T := hS.T
  have hS' : St w mean mg mb s.heap := hS.keeps (hide_keep _ _)
  refine' enterS ?kX ?klim ?kroom ?kho ?kcd ?kbind ?kloc ?zz ?kcell ?k1 ?k2 ?k3
  (case kX => exact hS'.X)
  (case kroom => exact (AOk.room hA))
  (case kho => k_is)
  (case klim => exact (Top.nolimit (St.T hS')))
  (case kcd => k_is)
  (case kbind => exact binds_K hS'.X rfl (by k_is) rfl rfl rfl)
  (case kcell => decide)
  (case kloc => exact locs rfl)
  (case k1 => rfl)
  (case k2 => rfl)
  (case k3 => rfl)
  intro h₁ hns K1
  have F : Fr (hide [r, d] s.heap) s.heap.objs.size h₁ _ := ⟨hns, fun b o e => K1 b o (hide_keep _ _ b o e), Nat.le_of_eq (hide_size _ _)⟩
  have N : News (hide [r, d] s.heap) s.heap.objs.size h₁ [(r, ⟨.ref 138, some d, .seq #[] 0, #[]⟩), (d, ⟨.type "dict", none, .dict #[] 0, #[]⟩)] := by
    intro p hp
    rcases List.mem_cons.mp hp with rfl | hp
    · exact ⟨K1 _ _ hr, Nat.ne_of_lt (Heap.lt_size hr), by rw [hide_get]; simp⟩
    · obtain rfl := List.mem_singleton.mp hp
      exact ⟨K1 _ _ hd, Nat.ne_of_lt (Heap.lt_size hd), by rw [hide_get]; simp⟩
  clear K1 hns
  (try dsimp only)
  k_steps
  rename Fr _ _ _ _ => F1
  rename News _ _ _ _ => N1
  refine road_set (s := ⟨_, _, _, _, _⟩) (X.keeps F1.keep) (N1.get (.head _)) (N1.get (.tail _ (.head _))) fun h2 t2 k2 sb2 g2 => ?_
  have hdN := N1 _ (.tail _ (.head _))
  have F := F1.change sb2 hdN.2.1 hdN.2.2
  have N := N1.setSecond (Nat.ne_of_gt hrd) (by intro p hp; cases hp) sb2 g2
  clear F1 N1
  (try dsimp only)
  refine ks_wpAt_execs_cons ?_
  refine ks_wpAt_Expr_any ?_
  refine ks_wpAt_MethodCall ?_
  refine ks_node (x := r) (C := 138) (odx := some _) F X N T (by k_is) (by rfl) (by rfl) ⟨N.get (.head _), rfl, rfl, N.get (.tail _ (.head _))⟩ (by k_is) (by rfl) (by first | rfl | decide +kernel) (by k_is) (by k_is) (by k_is) (by k_is) (by decide) (by rfl) (by rfl) (by rfl) (by rfl) (by decide +kernel) (by first | boot_by_name | rfl | kernel_rfl) ?_
  intro so h3 F3 N3 l3
  (try dsimp only)
  refine gm_super (X.keeps F3.keep) (N3.get (.tail _ (.head _))) (N3.get (.head _)) ?_
  have F4 := F3.push (mwObj r)
  have N4 := N3.push F3 (mwObj r)
  clear F N F3 N3
  have gr := N4.get (.tail _ (.tail _ (.head _)))
  have gq := N4.get (.head _)
  have hrN := N4 _ (.tail _ (.tail _ (.head _)))
  have hdN := N4 _ (.tail _ (.tail _ (.tail _ (.head _))))
  refine callWith_of (P := fun h => h.get? h3.objs.size = some (mwObj r)) rfl (fun h e => ⟨.machine, .inr (.inl rfl), (Looks.ld (part := none) e).andThen .now⟩) (PyProof.Rows.evalArgs_none ⟨gq, ?_⟩)
  refine call_mw gr gq fun h5 n sb5 g5 => ?_
  have F := F4.change sb5 hrN.2.1 hrN.2.2
  have gd5 : h5.get? d = some _ := (sb5.2 d (Nat.ne_of_lt hrd)).trans hdN.1
  clear F4 N4
  refine wpAt_of_wpAny (wpAny_execs_nil ?_)
  refine hret _ _ _ _ g5 gd5 fun b o hb hb' e => F.keep b o ?_
  rw [hide_get, if_neg (by simp [hb, hb'])]; exact e
end Kinit_road
theorem init_road (w : World) (mean : ExcName → Option Value) (mg mb : Str → Option Value) (tk : Tok) (r d : Addr) (A : Around) (s : Shared) (R : Result → Shared → Prop) (hA : AOk 5 A) (hS : St w mean mg mb (hide [r, d] s.heap))
    (hr : s.heap.get? r = some (roadObj d #[] 0)) (hd : s.heap.get? d = some eDict) (hrd : d < r)
    (hret : ∀ h' tk' n t2, h'.get? r = some (roadObj d #[] n) → h'.get? d = some (fullDict w t2 tk) → (∀ b o, b ≠ r → b ≠ d → s.heap.get? b = some o → h'.get? b = some o) → R (.ok (.ret .none)) { s with heap := h', toks := tk' }) :
    codeAny (model PG w) A (.call (.ref 77) ⟨[.ref r, .int 3 tk], []⟩) R s := by
  obtain ⟨hd0, dp, fr, gd, un⟩ := A
  obtain rfl : hd0 = none := hA.hd
  exact skolem inv0 (fun x => Sinit_road x.1 x.2.1 x.2.2.1 x.2.2.2.1 x.2.2.2.2.1 x.2.2.2.2.2.1 x.2.2.2.2.2.2.1 x.2.2.2.2.2.2.2.1 x.2.2.2.2.2.2.2.2.1 x.2.2.2.2.2.2.2.2.2.1 x.2.2.2.2.2.2.2.2.2.2.1 x.2.2.2.2.2.2.2.2.2.2.2.1 x.2.2.2.2.2.2.2.2.2.2.2.2.1) (by with_unfolding_all exact Kinit_road.holds) ⟨w, mean, mg, mb, tk, r, d, dp, fr, gd, un, s, R, (Classical.choice inv0).2.2.2.2.2.2.2.2.2.2.2.2.2.1, (Classical.choice inv0).2.2.2.2.2.2.2.2.2.2.2.2.2.2.1, (Classical.choice inv0).2.2.2.2.2.2.2.2.2.2.2.2.2.2.2.1, (Classical.choice inv0).2.2.2.2.2.2.2.2.2.2.2.2.2.2.2.2.1, (Classical.choice inv0).2.2.2.2.2.2.2.2.2.2.2.2.2.2.2.2.2.1, (Classical.choice inv0).2.2.2.2.2.2.2.2.2.2.2.2.2.2.2.2.2.2.1, (Classical.choice inv0).2.2.2.2.2.2.2.2.2.2.2.2.2.2.2.2.2.2.2.1, (Classical.choice inv0).2.2.2.2.2.2.2.2.2.2.2.2.2.2.2.2.2.2.2.2.1, (Classical.choice inv0).2.2.2.2.2.2.2.2.2.2.2.2.2.2.2.2.2.2.2.2.2.1, (Classical.choice inv0).2.2.2.2.2.2.2.2.2.2.2.2.2.2.2.2.2.2.2.2.2.2.1, (Classical.choice inv0).2.2.2.2.2.2.2.2.2.2.2.2.2.2.2.2.2.2.2.2.2.2.2⟩ hA hS hr hd hrd hret
end
end Mine
end OfA8
section OfA9
open PySem PySem.W PySem.Calls PyProof.Rows Builtin
set_option Elab.async false
set_option maxRecDepth 100000
set_option maxHeartbeats 8000000
set_option pp.maxSteps 1500
namespace Mine
noncomputable section
theorem acc_weight (x : Value) : (Code.builtin "type.__call__" ⟨[.ref 138, x], []⟩).weight = 1 := by with_unfolding_all rfl
theorem acc_units (x : Value) : (Code.builtin "type.__call__" ⟨[.ref 138, x], []⟩).cUnits = 1 := by with_unfolding_all rfl
theorem acc3 (w : World) (mean : ExcName → Option Value) (mg mb : Str → Option Value) (tk : Tok) (A : Around) (s : Shared) (Q E : Value → Shared → Prop) (hA : AOk 6 A) (hS : St w mean mg mb s.heap)
    (hret : ∀ r d h' tk' n t2, s.heap.objs.size ≤ d → d < r → h'.get? r = some (roadObj d #[] n) → h'.get? d = some (fullDict w t2 tk) → Keep s.heap h' → Q (.ref r) { s with heap := h', toks := tk' }) :
    wpAny (model PG w) A (call (.ref 138) [.int 3 tk]) Q E s := by
  obtain ⟨h, g, dd, t, os⟩ := s
  have X := hS.X
  refine wpAny_call (make_road X ?_)
  have k : Keep h ((h.push eDict).push (roadObj h.objs.size #[] 0)) := fun b o e => Heap.get?_push_of_some _ (Heap.get?_push_of_some _ e)
  have hr : ((h.push eDict).push (roadObj h.objs.size #[] 0)).get? (h.objs.size + 1) = some (roadObj h.objs.size #[] 0) := by
    have := Heap.get?_push_size (h.push eDict) (o := roadObj h.objs.size #[] 0) rfl
    rwa [Heap.size_push] at this
  have hd : ((h.push eDict).push (roadObj h.objs.size #[] 0)).get? h.objs.size = some eDict := Heap.get?_push_of_some _ (Heap.get?_push_size h rfl)
  refine init_road w mean mg mb tk (h.objs.size + 1) h.objs.size _ _ _ ?_ (hS.keeps ?_) hr hd (Nat.lt_succ_self _) fun h' tk' n t2 g1 g2 k2 => ?_
  · refine ⟨hA.hd, ?_, ?_⟩
    · show A.depth + _ + 5 < 900
      rw [acc_weight]; have := hA.dp; omega
    · show A.units + _ + 8 * 5 < 9000
      rw [acc_units]; have := hA.un; omega
  · intro b o e
    have hlt := Heap.lt_size e
    rw [hide_get, if_neg (by simp only [List.mem_cons, List.not_mem_nil, or_false, not_or]; exact ⟨Nat.ne_of_lt (Nat.lt_succ_of_lt hlt), Nat.ne_of_lt hlt⟩)]
    exact k b o e
  · refine ⟨rfl, hret _ _ _ _ _ _ (Nat.le_refl _) (Nat.lt_succ_self _) g1 g2 fun b o e => ?_⟩
    have hlt := Heap.lt_size e
    exact k2 b o (Nat.ne_of_lt (Nat.lt_succ_of_lt hlt)) (Nat.ne_of_lt hlt) (k b o e)
end
end Mine
end OfA9
section OfA10
open PySem PySem.W PySem.Calls PyProof.Rows Builtin
set_option Elab.async false
set_option maxRecDepth 100000
set_option maxHeartbeats 8000000
set_option pp.maxSteps 1500
namespace Mine
noncomputable section
@[reducible] noncomputable def tabO (ps : Array Value) : Obj := { cls := .none, data := .fields ps }
theorem code105 (P : Params) : ∃ oc od vs sl, (kk.heap_1 P).lookup 105 = some ⟨oc, od, .fields vs, sl⟩ ∧ oc = .type "code" ∧ vs.getD 11 .none = .ref 101 ∧ vs[11]? = some (.ref 101) ∧ (∃ f t, vs.getD 18 .none = .str f t) ∧ (∃ f t, vs.getD 7 .none = .int f t) ∧ (∃ b, vs.getD 9 .none = .bool b) ∧ (∃ f t, vs.getD 10 .none = .int f t) :=
  ⟨_, _, _, _, by with_unfolding_all rfl, rfl, rfl, rfl, ⟨_, _, rfl⟩, ⟨_, _, rfl⟩, ⟨_, rfl⟩, ⟨_, _, rfl⟩⟩
theorem code112 (P : Params) : ∃ oc od vs sl, (kk.heap_1 P).lookup 112 = some ⟨oc, od, .fields vs, sl⟩ ∧ oc = .type "code" ∧ vs.getD 11 .none = .ref 108 ∧ vs[11]? = some (.ref 108) ∧ (∃ f t, vs.getD 18 .none = .str f t) ∧ (∃ f t, vs.getD 7 .none = .int f t) ∧ (∃ b, vs.getD 9 .none = .bool b) ∧ (∃ f t, vs.getD 10 .none = .int f t) :=
  ⟨_, _, _, _, by with_unfolding_all rfl, rfl, rfl, rfl, ⟨_, _, rfl⟩, ⟨_, _, rfl⟩, ⟨_, rfl⟩, ⟨_, _, rfl⟩⟩
@[reducible] def GV : Type := (World) × (ExcName → Option Value) × (Str → Option Value) × (Str → Option Value) × (Around) × (Value → Shared → Prop) × (Shared) × (Nat) × (Nat) × (Array Value) × (Nat) × (Nat) × (Array Value) × (Nat) × (Nat → Addr) × (Nat → Array Value) × (Str → Option Value) × (Str) × (Scope) × (Nat) × (Nat) × (Expr) × (Str) × (Str) × (Pos) × (Pos) × (Pos) × (Pos) × (Nat) × (Scope) × (Pos) × (Nat → Value → Prop) × (Value → Shared → Prop) × (Frag) × (Model) × (Env) × (Str)
theorem gv0 : Nonempty GV := ⟨⟨W0, fun _ => none, fun _ => none, fun _ => none, (Around.mk none 0 none none 0), fun _ _ => True, {}, 0, 0, #[], 0, 0, #[], 0, fun _ => (0 : Nat), fun _ => #[], fun _ => none, ⟨#[]⟩, default, 0, 0, default, ⟨#[]⟩, ⟨#[]⟩, default, default, default, default, 0, default, default, fun _ _ => True, fun _ _ => True, [], model PG W0, default, ⟨#[]⟩⟩⟩
noncomputable def Scode_step (K : Frag) (c : Addr) (T : Addr) (M : Model) (A : Around) (E : Value → Shared → Prop) (s : Shared) (env : Env) (ps : Array Value) (pos : Pos) (q : Str) (scope : Scope) (Q : Value → Shared → Prop) : Prop := ∀ (hK : ∃ oc od vs sl, K.lookup c = some ⟨oc, od, .fields vs, sl⟩ ∧ oc = .type "code" ∧ vs.getD 11 .none = .ref T ∧ vs[11]? = some (.ref T) ∧ (∃ f t, vs.getD 18 .none = .str f t) ∧ (∃ f t, vs.getD 7 .none = .int f t) ∧ (∃ b, vs.getD 9 .none = .bool b) ∧ (∃ f t, vs.getD 10 .none = .int f t)) (X : K.In s.heap) (hc : env.code = .ref c) (hcT : c ≠ T) (htab : s.heap.get? T = some (tabO ps)) (ht : TriplesOk ps.toList) (h : ∀ v h' tk ps', Heap.ExtBut T s.heap h' → s.heap.objs.size ≤ h'.objs.size → h'.get? T = some (tabO ps') → TriplesOk ps'.toList → Q v { s with heap := h', toks := tk }),
    wpAny M A (genexprCode env pos q scope) Q E s
noncomputable def ccode_step : GV := @Classical.epsilon GV gv0 fun x => ¬ Scode_step x.2.2.2.2.2.2.2.2.2.2.2.2.2.2.2.2.2.2.2.2.2.2.2.2.2.2.2.2.2.2.2.2.2.1 x.2.2.2.2.2.2.2.1 x.2.2.2.2.2.2.2.2.1 x.2.2.2.2.2.2.2.2.2.2.2.2.2.2.2.2.2.2.2.2.2.2.2.2.2.2.2.2.2.2.2.2.2.2.1 x.2.2.2.2.1 x.2.2.2.2.2.1 x.2.2.2.2.2.2.1 x.2.2.2.2.2.2.2.2.2.2.2.2.2.2.2.2.2.2.2.2.2.2.2.2.2.2.2.2.2.2.2.2.2.2.2.1 x.2.2.2.2.2.2.2.2.2.1 x.2.2.2.2.2.2.2.2.2.2.2.2.2.2.2.2.2.2.2.2.2.2.2.2.2.2.2.2.2.2.1 x.2.2.2.2.2.2.2.2.2.2.2.2.2.2.2.2.2.2.2.2.2.2.2.2.2.2.2.2.2.2.2.2.2.2.2.2 x.2.2.2.2.2.2.2.2.2.2.2.2.2.2.2.2.2.2.2.2.2.2.2.2.2.2.2.2.2.1 x.2.2.2.2.2.2.2.2.2.2.2.2.2.2.2.2.2.2.2.2.2.2.2.2.2.2.2.2.2.2.2.2.1
namespace Kcode_step
@[irreducible] noncomputable def K : Frag := ccode_step.2.2.2.2.2.2.2.2.2.2.2.2.2.2.2.2.2.2.2.2.2.2.2.2.2.2.2.2.2.2.2.2.2.1
@[irreducible] noncomputable def c : Addr := ccode_step.2.2.2.2.2.2.2.1
@[irreducible] noncomputable def T : Addr := ccode_step.2.2.2.2.2.2.2.2.1
@[irreducible] noncomputable def M : Model := ccode_step.2.2.2.2.2.2.2.2.2.2.2.2.2.2.2.2.2.2.2.2.2.2.2.2.2.2.2.2.2.2.2.2.2.2.1
@[irreducible] noncomputable def A : Around := ccode_step.2.2.2.2.1
@[irreducible] noncomputable def E : Value → Shared → Prop := ccode_step.2.2.2.2.2.1
@[irreducible] noncomputable def s : Shared := ccode_step.2.2.2.2.2.2.1
@[irreducible] noncomputable def env : Env := ccode_step.2.2.2.2.2.2.2.2.2.2.2.2.2.2.2.2.2.2.2.2.2.2.2.2.2.2.2.2.2.2.2.2.2.2.2.1
@[irreducible] noncomputable def ps : Array Value := ccode_step.2.2.2.2.2.2.2.2.2.1
@[irreducible] noncomputable def pos : Pos := ccode_step.2.2.2.2.2.2.2.2.2.2.2.2.2.2.2.2.2.2.2.2.2.2.2.2.2.2.2.2.2.2.1
@[irreducible] noncomputable def q : Str := ccode_step.2.2.2.2.2.2.2.2.2.2.2.2.2.2.2.2.2.2.2.2.2.2.2.2.2.2.2.2.2.2.2.2.2.2.2.2
@[irreducible] noncomputable def scope : Scope := ccode_step.2.2.2.2.2.2.2.2.2.2.2.2.2.2.2.2.2.2.2.2.2.2.2.2.2.2.2.2.2.1
@[irreducible] noncomputable def Q : Value → Shared → Prop := ccode_step.2.2.2.2.2.2.2.2.2.2.2.2.2.2.2.2.2.2.2.2.2.2.2.2.2.2.2.2.2.2.2.2.1
theorem holds : Scode_step K c T M A E s env ps pos q scope Q := by
  intro hK X hc hcT htab ht h
  obtain ⟨oc, od, vs, sl, ho, e1, e2, e3, ⟨f, tf, e4⟩, ⟨g, tg, e5⟩, ⟨b, e6⟩, ⟨x, tx, e7⟩⟩ := hK
  have hC := X _ _ ho
  cases hn : codeAmong pos ps.toList with
  | none =>
    refine wpAny_genexprCodeX (c := c) (P := T) (ps := ps) hc ⟨_, vs, f, tf, g, tg, b, x, tx, _, hC, rfl, e2, e4, e5, e6, e7, htab, rfl, ht, hcT⟩ ⟨⟨_, vs, hC, e1, rfl, e3⟩, htab⟩ hn fun c' h' tk hx hge hlt hcode _ htab' _ => ?_
    refine h _ _ _ _ hx (Nat.le_of_lt (Nat.lt_of_le_of_lt hge hlt)) htab'.2 ?_
    obtain ⟨_, _, _, _, _, _, _, _, _, op, _, _, _, _, _, _, _, a1, a2, a3, _⟩ := hcode
    exact a3
  | some v =>
    unfold genexprCode codeAt
    rw [hc, if_neg (show ¬ ((Value.ref c == Value.none) = true) from Bool.false_ne_true)]
    refine wpAny_bind (wpAny_fieldsOf hC rfl ?_)
    rw [e2]
    refine wpAny_bind (wpAny_fieldsOf htab rfl ?_)
    simp only [hn]
    exact wpAny_pure (h v _ _ ps (fun _ _ _ e => e) (Nat.le_refl _) htab ht)
end Kcode_step
theorem code_step {K : Frag} {c T : Addr} {M : Model} {A : Around} {E : Value → Shared → Prop} {s : Shared} {env : Env} {ps : Array Value} {pos : Pos} {q : Str} {scope : Scope} {Q : Value → Shared → Prop}
    (hK : ∃ oc od vs sl, K.lookup c = some ⟨oc, od, .fields vs, sl⟩ ∧ oc = .type "code" ∧ vs.getD 11 .none = .ref T ∧ vs[11]? = some (.ref T) ∧ (∃ f t, vs.getD 18 .none = .str f t) ∧ (∃ f t, vs.getD 7 .none = .int f t) ∧ (∃ b, vs.getD 9 .none = .bool b) ∧ (∃ f t, vs.getD 10 .none = .int f t))
    (X : K.In s.heap) (hc : env.code = .ref c) (hcT : c ≠ T) (htab : s.heap.get? T = some (tabO ps)) (ht : TriplesOk ps.toList)
    (h : ∀ v h' tk ps', Heap.ExtBut T s.heap h' → s.heap.objs.size ≤ h'.objs.size → h'.get? T = some (tabO ps') → TriplesOk ps'.toList → Q v { s with heap := h', toks := tk }) :
    wpAny M A (genexprCode env pos q scope) Q E s := by
  exact skolem gv0 (fun x => Scode_step x.2.2.2.2.2.2.2.2.2.2.2.2.2.2.2.2.2.2.2.2.2.2.2.2.2.2.2.2.2.2.2.2.2.1 x.2.2.2.2.2.2.2.1 x.2.2.2.2.2.2.2.2.1 x.2.2.2.2.2.2.2.2.2.2.2.2.2.2.2.2.2.2.2.2.2.2.2.2.2.2.2.2.2.2.2.2.2.2.1 x.2.2.2.2.1 x.2.2.2.2.2.1 x.2.2.2.2.2.2.1 x.2.2.2.2.2.2.2.2.2.2.2.2.2.2.2.2.2.2.2.2.2.2.2.2.2.2.2.2.2.2.2.2.2.2.2.1 x.2.2.2.2.2.2.2.2.2.1 x.2.2.2.2.2.2.2.2.2.2.2.2.2.2.2.2.2.2.2.2.2.2.2.2.2.2.2.2.2.2.1 x.2.2.2.2.2.2.2.2.2.2.2.2.2.2.2.2.2.2.2.2.2.2.2.2.2.2.2.2.2.2.2.2.2.2.2.2 x.2.2.2.2.2.2.2.2.2.2.2.2.2.2.2.2.2.2.2.2.2.2.2.2.2.2.2.2.2.1 x.2.2.2.2.2.2.2.2.2.2.2.2.2.2.2.2.2.2.2.2.2.2.2.2.2.2.2.2.2.2.2.2.1) (by with_unfolding_all exact Kcode_step.holds) ⟨(Classical.choice gv0).1, (Classical.choice gv0).2.1, (Classical.choice gv0).2.2.1, (Classical.choice gv0).2.2.2.1, A, E, s, c, T, ps, (Classical.choice gv0).2.2.2.2.2.2.2.2.2.2.1, (Classical.choice gv0).2.2.2.2.2.2.2.2.2.2.2.1, (Classical.choice gv0).2.2.2.2.2.2.2.2.2.2.2.2.1, (Classical.choice gv0).2.2.2.2.2.2.2.2.2.2.2.2.2.1, (Classical.choice gv0).2.2.2.2.2.2.2.2.2.2.2.2.2.2.1, (Classical.choice gv0).2.2.2.2.2.2.2.2.2.2.2.2.2.2.2.1, (Classical.choice gv0).2.2.2.2.2.2.2.2.2.2.2.2.2.2.2.2.1, (Classical.choice gv0).2.2.2.2.2.2.2.2.2.2.2.2.2.2.2.2.2.1, (Classical.choice gv0).2.2.2.2.2.2.2.2.2.2.2.2.2.2.2.2.2.2.1, (Classical.choice gv0).2.2.2.2.2.2.2.2.2.2.2.2.2.2.2.2.2.2.2.1, (Classical.choice gv0).2.2.2.2.2.2.2.2.2.2.2.2.2.2.2.2.2.2.2.2.1, (Classical.choice gv0).2.2.2.2.2.2.2.2.2.2.2.2.2.2.2.2.2.2.2.2.2.1, (Classical.choice gv0).2.2.2.2.2.2.2.2.2.2.2.2.2.2.2.2.2.2.2.2.2.2.1, (Classical.choice gv0).2.2.2.2.2.2.2.2.2.2.2.2.2.2.2.2.2.2.2.2.2.2.2.1, (Classical.choice gv0).2.2.2.2.2.2.2.2.2.2.2.2.2.2.2.2.2.2.2.2.2.2.2.2.1, (Classical.choice gv0).2.2.2.2.2.2.2.2.2.2.2.2.2.2.2.2.2.2.2.2.2.2.2.2.2.1, (Classical.choice gv0).2.2.2.2.2.2.2.2.2.2.2.2.2.2.2.2.2.2.2.2.2.2.2.2.2.2.1, (Classical.choice gv0).2.2.2.2.2.2.2.2.2.2.2.2.2.2.2.2.2.2.2.2.2.2.2.2.2.2.2.1, (Classical.choice gv0).2.2.2.2.2.2.2.2.2.2.2.2.2.2.2.2.2.2.2.2.2.2.2.2.2.2.2.2.1, scope, pos, (Classical.choice gv0).2.2.2.2.2.2.2.2.2.2.2.2.2.2.2.2.2.2.2.2.2.2.2.2.2.2.2.2.2.2.2.1, Q, K, M, env, q⟩ hK X hc hcT htab ht h
theorem bind_liter (self : Value) : bindSpecial (.builtin "list.__iter__") self = pure (.builtin "list.__iter__", [self]) := slot_list_iter.bind self
theorem iter_road {w : World} {A : Around} {E : Value → Shared → Prop} {s : Shared} {r d : Addr} {items : Array Value} {n : Nat} {Q : Value → Shared → Prop} (X : (kk.heap_1 w.params).In s.heap) (hr : s.heap.get? r = some (roadObj d items n))
    (hQ : Q (.ref s.heap.objs.size) { s with heap := s.heap.push { cls := .type "list_iterator", data := .fields #[.ref r, .int 0 0] } }) :
    wpAny (model PG w) A (pyIter (.ref r)) Q E s := by
  have sub : Looks (model PG w) s.heap (isInstance (.ref r) (.type "list")) true := (looks_road hr).andThen (looks_mroIn X (mro_list _))
  have fin : wpAny (model PG w) A (call (.builtin "list.__iter__") [.ref r]) (fun v s' => v = .ref s.heap.objs.size ∧ s' = { s with heap := s.heap.push { cls := .type "list_iterator", data := .fields #[.ref r, .int 0 0] } }) E s := by
    refine wpAny_call (codeAny_call_builtin slot_list_iter.plain entry_list_iter (check_slot (owner := "list") (n := "__iter__") (by with_unfolding_all rfl) (by with_unfolding_all rfl) sub (args_list_iter _) ?_))
    show wpAny _ _ (do ret (← newFields "list_iterator" [.ref r, rawInt 0])) _ _ s
    exact wpAny_bind (wpAny_newObj_type (wpAny_pure ⟨rfl, rfl⟩))
  unfold pyIter
  refine wpAny_bind ((looks_spec X hr (find_iter _)).here ?_)
  show wpAny _ A (callSpecialIfBoundUnlessNone? (.ref r) "__iter__" _ >>= _) Q E s
  refine wpAny_bind ?_
  simp only [callSpecialIfBoundUnlessNone?, bindSpecialIfBound?]
  refine wpAny_holding (wpAny_bind (wpAny_bind ((looks_spec X hr (find_iter _)).here ?_)))
  simp only [bind_liter]
  refine wpAny_bind (wpAny_askSetting (wpAny_ite ?_))
  split
  · refine wpAny_bind (wpAny_pure (wpAny_pure ?_))
    dsimp only
    rw [if_neg (by rw [builtin_beq_none]; decide)]
    refine wpAny_bind (wpAny_mono fin (fun v s' h' => ?_) fun _ _ e => e)
    obtain ⟨rfl, rfl⟩ := h'
    refine wpAny_pure ?_
    exact wpAny_bind (wpAny_specialOf (T := "list_iterator") ⟨_, Heap.get?_push_size _ rfl, rfl⟩ slot_listiter_next.lookup (wpAny_pure hQ))
  · refine wpAny_tryCatch (wpAny_bind (wpAny_pure (wpAny_pure ?_)))
    dsimp only
    rw [if_neg (by rw [builtin_beq_none]; decide)]
    refine wpAny_bind (wpAny_mono fin (fun v s' h' => ?_) fun _ _ e => e)
    obtain ⟨rfl, rfl⟩ := h'
    refine wpAny_pure ?_
    exact wpAny_bind (wpAny_specialOf (T := "list_iterator") ⟨_, Heap.get?_push_size _ rfl, rfl⟩ slot_listiter_next.lookup (wpAny_pure hQ))

section
variable {prog : Program} {w : World} {A : Around} {E : Value → Shared → Prop} {s : Shared}
/-- the iterator at `it` stands before item `i` of the road -/
theorem next_open {it l : Addr} {i : Nat} {items : Array Value} {ol : Obj} {nl : Nat} {Q : Option Value → Shared → Prop} (hit : s.heap.IsListIter it l i) (hol : s.heap.get? l = some ol) (hdl : ol.data = .seq items nl)
    (h : wpAny (model prog w) A.in1 (Builtin.«list_iterator.__next__» ⟨[.ref it], []⟩) (fun fin s' => ∃ v, fin = .done (.ret v) ∧ wpAny (model prog w) A (pure (some v)) (fun r s'' => Q r s'') E s')
      (fun e s' => wpAny (model prog w) A (isInstance e (.type "StopIteration") >>= fun b => if b then pure none else throw e) Q E s') s) :
    wpAny (model prog w) A (pyNext (.ref it)) Q E s := by
  let _ := hol
  let _ := hdl
  unfold pyNext
  refine wpAny_bind (wpAny_attempt (wpAny_callSpecial?_slot (name := Str.ofString "__next__") hit.typeIs slot_listiter_next
    (wpAny_call_entry slot_listiter_next hit.typeIs entry_listiter_next ?_ (args_listiter_next _))))
  exact wpAny_mono h (fun fin s' h' => h') fun e s' h' => h'
theorem next_item {it l : Addr} {i : Nat} {items : Array Value} {ol : Obj} {nl : Nat} {x : Value} {Q : Option Value → Shared → Prop} (hit : s.heap.IsListIter it l i) (hol : s.heap.get? l = some ol) (hdl : ol.data = .seq items nl) (hx : items[i]? = some x)
    (hQ : ∀ h', h'.IsListIter it l (i + 1) → Heap.SameBut it s.heap h' → Q (some x) { s with heap := h' }) :
    wpAny (model prog w) A (pyNext (.ref it)) Q E s := by
  obtain ⟨o, ho, hc, hd⟩ := id hit
  refine next_open hit hol hdl ?_
  show wpAny _ _ (field (.ref it) 0 >>= _) _ _ s
  refine wpAny_bind (wpAny_field ho hd (x := .ref l) rfl ?_)
  show wpAny _ _ (if (Value.ref l == Value.none) = true then _ else _) _ _ s
  rw [if_neg (show ¬ ((Value.ref l == Value.none) = true) from Bool.false_ne_true)]
  show wpAny _ _ (field (.ref it) 1 >>= _) _ _ s
  refine wpAny_bind (wpAny_field ho hd (x := .int i 0) rfl ?_)
  show wpAny _ _ (seqItems? (.ref l) >>= _) _ _ s
  refine wpAny_bind (wpAny_seqItems hol hdl ?_)
  simp only [Int.toNat_natCast, hx]
  refine wpAny_bind (wpAny_setField ho hd (by simp) (wpAny_pure ⟨x, rfl, wpAny_pure (hQ _ ?_ (Heap.SameBut.update ..))⟩))
  exact ⟨_, Heap.get?_update_self _ ho (Obj.isFreed_of_fields (Obj.data_mapFields hd _)), (Obj.cls_mapFields ..).trans hc, by
    rw [Obj.data_mapFields hd]; simp [rawInt]⟩
theorem next_end {it l : Addr} {i : Nat} {items : Array Value} {ol : Obj} {nl : Nat} {Q : Option Value → Shared → Prop} (hh : A.handled = none) (hit : s.heap.IsListIter it l i) (hol : s.heap.get? l = some ol) (hdl : ol.data = .seq items nl) (hx : items[i]? = none)
    (hQ : ∀ h', Heap.ExtBut it s.heap h' → Q none { s with heap := h' }) : wpAny (model prog w) A (pyNext (.ref it)) Q E s := by
  obtain ⟨o, ho, hc, hd⟩ := id hit
  refine next_open hit hol hdl ?_
  show wpAny _ _ (field (.ref it) 0 >>= _) _ _ s
  refine wpAny_bind (wpAny_field ho hd (x := .ref l) rfl ?_)
  show wpAny _ _ (if (Value.ref l == Value.none) = true then _ else _) _ _ s
  rw [if_neg (show ¬ ((Value.ref l == Value.none) = true) from Bool.false_ne_true)]
  show wpAny _ _ (field (.ref it) 1 >>= _) _ _ s
  refine wpAny_bind (wpAny_field ho hd (x := .int i 0) rfl ?_)
  show wpAny _ _ (seqItems? (.ref l) >>= _) _ _ s
  refine wpAny_bind (wpAny_seqItems hol hdl ?_)
  simp only [Int.toNat_natCast, hx]
  refine wpAny_bind (wpAny_rule (wpAny_bind (wpAny_setField ho hd (by simp) ?_)))
  show wpAny _ _ (newExc (.type "StopIteration") [] >>= _) _ _ _
  refine wpAny_bind ?_
  simp only [newExc, newTuple]
  refine wpAny_bind (wpAny_newObj_type ?_ (by size_fits))
  refine wpAny_bind (m := firstArgMember _ _) (wpAny_of_eq (a := Value.none) (by first | rfl | (simp only [firstArgMember]; rfl)) ?_)
  refine wpAny_newObj_type ?_ (by size_fits)
  simp only [raiseNew]
  refine wpAny_bind (wpAny_handled ?_)
  rw [show A.in1.handled = none from hh]
  refine wpAny_bind (wpAny_pure (wpAny_throw ?_))
  refine wpAny_bind (wpAny_isInstance (T := "StopIteration") (b := true) ⟨_, Heap.get?_push_size _ rfl, rfl⟩ isSubtype_stop ?_)
  exact wpAny_pure (hQ _ (((Heap.SameBut.update ..).extBut.push _).push _))
end
theorem walks_road {prog : Program} {w : World} {A : Around} (hh : A.handled = none) (I r d : Addr) (hne : r ≠ I) (items : Array Value) (n : Nat) (Ts : Nat → Addr) (vals : Nat → Array Value)
    (hit : ∀ j, j < items.size → items[j]? = some (.ref (Ts j))) (hTI : ∀ j, j < items.size → Ts j ≠ I) :
    WalksU prog w A I (I :: r :: (List.range items.size).map Ts) [I] items.size (fun j v => v = vals j)
      (fun j h => h.IsListIter I r j ∧ h.get? r = some (roadObj d items n) ∧ ∀ k, k < items.size → h.IsTuple (Ts k) (vals k))
      (fun j T h => (j < items.size ∧ T = Ts j) ∧ h.IsListIter I r (j + 1) ∧ h.get? r = some (roadObj d items n) ∧ ∀ k, k < items.size → h.IsTuple (Ts k) (vals k)) where
  sub := fun b hb => by simp at hb; simp [hb]
  frame := fun _ _ _ st hk => ⟨st.1.at fun o e => hk I (by simp) o e, hk r (by simp) _ st.2.1,
    fun k hk' => (st.2.2 k hk').at fun o e => hk (Ts k) (List.mem_cons_of_mem _ (List.mem_cons_of_mem _ (List.mem_map.mpr ⟨k, List.mem_range.mpr hk', rfl⟩))) o e⟩
  item := fun i s Q E hi st hQ => by
    refine next_item st.1 st.2.1 rfl (x := .ref (Ts i)) (hit i hi) fun h' hit' hs' => ?_
    have tup : ∀ k, k < items.size → h'.IsTuple (Ts k) (vals k) := fun k hk' => (st.2.2 k hk').extBut hs'.extBut (hTI k hk')
    exact hQ (Ts i) (vals i) h' s.toks rfl (tup i hi) ⟨⟨hi, rfl⟩, hit', hs'.extBut r _ hne st.2.1, tup⟩ fun b o hb e => hs'.extBut b o (fun h => hb (by simp [h])) e
  go := fun _ _ _ _ _ s Q _ hm hQ => wpAny_letOwnedTupleGo_listiter hm.2.1 (hQ s.heap hm.2 fun _ _ _ e => e)
  apart := fun j T _ hm hmem => by
    rcases List.mem_cons.mp hmem with e | e
    · exact hTI j hm.1.1 (hm.1.2 ▸ e)
    · cases e
  done := fun s Q E st hQ => next_end hh st.1 st.2.1 rfl (by simp) fun h' he' => hQ h' s.toks fun b o hb e => he' b o (fun h => hb (by simp [h])) e
  self := fun _ _ _ _ st hQ => wpAny_pyIter_listiter st.1 hQ

theorem passing_all (n : Nat) : passing (fun _ => true) n 0 = List.range n := by
  unfold passing
  simp
noncomputable def Sgen_road (w : World) (mean : ExcName → Option Value) (mg : Str → Option Value) (mb : Str → Option Value) (A : Around) (E : Value → Shared → Prop) (s : Shared) (c : Addr) (T : Addr) (ps : Array Value) (r : Addr) (d : Addr) (items : Array Value) (n : Nat) (Ts : Nat → Addr) (vals : Nat → Array Value) (m : Str → Option Value) (qual : Str) (scope0 : Scope) (L : Addr) (f : Addr) (elt : Expr) (xa : Str) (xb : Str) (pa : Pos) (pb : Pos) (pt : Pos) (pi : Pos) (kt : Nat) (scope : Scope) (pos : Pos) (Fv : Nat → Value → Prop) (Q : Value → Shared → Prop) : Prop := ∀ (hK : ∃ oc od vs sl, (kk.heap_1 w.params).lookup c = some ⟨oc, od, .fields vs, sl⟩ ∧ oc = .type "code" ∧ vs.getD 11 .none = .ref T ∧ vs[11]? = some (.ref T) ∧ (∃ f t, vs.getD 18 .none = .str f t) ∧ (∃ f t, vs.getD 7 .none = .int f t) ∧ (∃ b, vs.getD 9 .none = .bool b) ∧ (∃ f t, vs.getD 10 .none = .int f t)) (hcT : c ≠ T) (X : (kk.heap_1 w.params).In s.heap) (Tp : Top hd.view_39 LO mean mg mb s.heap) (hh : A.handled = none) (hroom : A.depth < recursionLimit) (hns : s.heap.Ns L m) (hk0 : scope0.kind = .function) (hself0 : scope0.names.lookup ("self" : Str) = some NameKind.local) (hself : m "self" = some (.ref r)) (hr : s.heap.get? r = some (roadObj d items n)) (hit : ∀ j, j < items.size → items[j]? = some (.ref (Ts j))) (htup : ∀ j, j < items.size → s.heap.IsTuple (Ts j) (vals j)) (h2 : ∀ j, j < items.size → ∃ va vb, vals j = #[va, vb]) (htab : s.heap.get? T = some (tabO ps)) (htri : TriplesOk ps.toList) (hco : scope.isCoroutine = false) (hclos : closureFor scope (envOf qual scope0 L f (.ref c)) = pure []) (hcell : ∀ y ∈ scope.names, y.2 ≠ .cell) (h0 : scope.names.lookup (".0" : Str) = some NameKind.local) (hxa : scope.names.lookup xa = some .local) (hxb : scope.names.lookup xb = some .local) (hab : xa ≠ xb) (hkind : scope.kind = .function) (helt : ∀ (C : Addr) (code : Value) (A' : Around) E' i va vb (s₂ : Shared) m₂, A'.handled = none → i < items.size → vals i = #[va, vb] → s₂.heap.Ns C m₂ → m₂ xa = some va → m₂ xb = some vb → s.heap.objs.size ≤ C → (∀ b o, b ≠ T → s.heap.get? b = some o → s₂.heap.get? b = some o) →
      wpAny (model PG w) A' (eval elt (genEnv scope [] C code builtinsNs (envOf qual scope0 L f (.ref c)))) (fun y s₃ => Fv i y ∧ Keeps s₂ s₃) E' s₂) (hq : ∀ a I C (s₅ : Shared) ps', s.heap.objs.size ≤ I → I < C → C < a → s₅.heap.objs.size = a + 1 → (∀ b o, b ≠ T → s.heap.get? b = some o → s₅.heap.get? b = some o) → s₅.heap.get? T = some (tabO ps') → TriplesOk ps'.toList → s₅.os = s.os → s₅.drawn = s.drawn → (AllBare s.gens → AllBare s₅.gens) →
      WalksS PG w A.in4 a (a :: C :: List.range C) (C :: [I]) (GenOnlyQ s.gens.size) items.size (fun j y => j < items.size ∧ Fv j y) (GenAt PG w A.in4 a s.gens.size C (List.range C) [I] (fun _ => true) items.size Fv) →
      GenAt PG w A.in4 a s.gens.size C (List.range C) [I] (fun _ => true) items.size Fv 0 s₅ → Q (.ref a) s₅) (hs : ∀ x, genFold (.Name "self" pi) (envOf qual scope0 L f (.ref c)) x = pure x),
    wpAny (model PG w) A (eval (.GeneratorExp elt [⟨.Tuple [.Name xa pa, .Name xb pb] kt pt, .Name "self" pi, [], 0⟩] scope pos) (envOf qual scope0 L f (.ref c))) Q E s
noncomputable def cgen_road : GV := @Classical.epsilon GV gv0 fun x => ¬ Sgen_road x.1 x.2.1 x.2.2.1 x.2.2.2.1 x.2.2.2.2.1 x.2.2.2.2.2.1 x.2.2.2.2.2.2.1 x.2.2.2.2.2.2.2.1 x.2.2.2.2.2.2.2.2.1 x.2.2.2.2.2.2.2.2.2.1 x.2.2.2.2.2.2.2.2.2.2.1 x.2.2.2.2.2.2.2.2.2.2.2.1 x.2.2.2.2.2.2.2.2.2.2.2.2.1 x.2.2.2.2.2.2.2.2.2.2.2.2.2.1 x.2.2.2.2.2.2.2.2.2.2.2.2.2.2.1 x.2.2.2.2.2.2.2.2.2.2.2.2.2.2.2.1 x.2.2.2.2.2.2.2.2.2.2.2.2.2.2.2.2.1 x.2.2.2.2.2.2.2.2.2.2.2.2.2.2.2.2.2.1 x.2.2.2.2.2.2.2.2.2.2.2.2.2.2.2.2.2.2.1 x.2.2.2.2.2.2.2.2.2.2.2.2.2.2.2.2.2.2.2.1 x.2.2.2.2.2.2.2.2.2.2.2.2.2.2.2.2.2.2.2.2.1 x.2.2.2.2.2.2.2.2.2.2.2.2.2.2.2.2.2.2.2.2.2.1 x.2.2.2.2.2.2.2.2.2.2.2.2.2.2.2.2.2.2.2.2.2.2.1 x.2.2.2.2.2.2.2.2.2.2.2.2.2.2.2.2.2.2.2.2.2.2.2.1 x.2.2.2.2.2.2.2.2.2.2.2.2.2.2.2.2.2.2.2.2.2.2.2.2.1 x.2.2.2.2.2.2.2.2.2.2.2.2.2.2.2.2.2.2.2.2.2.2.2.2.2.1 x.2.2.2.2.2.2.2.2.2.2.2.2.2.2.2.2.2.2.2.2.2.2.2.2.2.2.1 x.2.2.2.2.2.2.2.2.2.2.2.2.2.2.2.2.2.2.2.2.2.2.2.2.2.2.2.1 x.2.2.2.2.2.2.2.2.2.2.2.2.2.2.2.2.2.2.2.2.2.2.2.2.2.2.2.2.1 x.2.2.2.2.2.2.2.2.2.2.2.2.2.2.2.2.2.2.2.2.2.2.2.2.2.2.2.2.2.1 x.2.2.2.2.2.2.2.2.2.2.2.2.2.2.2.2.2.2.2.2.2.2.2.2.2.2.2.2.2.2.1 x.2.2.2.2.2.2.2.2.2.2.2.2.2.2.2.2.2.2.2.2.2.2.2.2.2.2.2.2.2.2.2.1 x.2.2.2.2.2.2.2.2.2.2.2.2.2.2.2.2.2.2.2.2.2.2.2.2.2.2.2.2.2.2.2.2.1
namespace Kgen_road
@[irreducible] noncomputable def w : World := cgen_road.1
@[irreducible] noncomputable def mean : ExcName → Option Value := cgen_road.2.1
@[irreducible] noncomputable def mg : Str → Option Value := cgen_road.2.2.1
@[irreducible] noncomputable def mb : Str → Option Value := cgen_road.2.2.2.1
@[irreducible] noncomputable def A : Around := cgen_road.2.2.2.2.1
@[irreducible] noncomputable def E : Value → Shared → Prop := cgen_road.2.2.2.2.2.1
@[irreducible] noncomputable def s : Shared := cgen_road.2.2.2.2.2.2.1
@[irreducible] noncomputable def c : Addr := cgen_road.2.2.2.2.2.2.2.1
@[irreducible] noncomputable def T : Addr := cgen_road.2.2.2.2.2.2.2.2.1
@[irreducible] noncomputable def ps : Array Value := cgen_road.2.2.2.2.2.2.2.2.2.1
@[irreducible] noncomputable def r : Addr := cgen_road.2.2.2.2.2.2.2.2.2.2.1
@[irreducible] noncomputable def d : Addr := cgen_road.2.2.2.2.2.2.2.2.2.2.2.1
@[irreducible] noncomputable def items : Array Value := cgen_road.2.2.2.2.2.2.2.2.2.2.2.2.1
@[irreducible] noncomputable def n : Nat := cgen_road.2.2.2.2.2.2.2.2.2.2.2.2.2.1
@[irreducible] noncomputable def Ts : Nat → Addr := cgen_road.2.2.2.2.2.2.2.2.2.2.2.2.2.2.1
@[irreducible] noncomputable def vals : Nat → Array Value := cgen_road.2.2.2.2.2.2.2.2.2.2.2.2.2.2.2.1
@[irreducible] noncomputable def m : Str → Option Value := cgen_road.2.2.2.2.2.2.2.2.2.2.2.2.2.2.2.2.1
@[irreducible] noncomputable def qual : Str := cgen_road.2.2.2.2.2.2.2.2.2.2.2.2.2.2.2.2.2.1
@[irreducible] noncomputable def scope0 : Scope := cgen_road.2.2.2.2.2.2.2.2.2.2.2.2.2.2.2.2.2.2.1
@[irreducible] noncomputable def L : Addr := cgen_road.2.2.2.2.2.2.2.2.2.2.2.2.2.2.2.2.2.2.2.1
@[irreducible] noncomputable def f : Addr := cgen_road.2.2.2.2.2.2.2.2.2.2.2.2.2.2.2.2.2.2.2.2.1
@[irreducible] noncomputable def elt : Expr := cgen_road.2.2.2.2.2.2.2.2.2.2.2.2.2.2.2.2.2.2.2.2.2.1
@[irreducible] noncomputable def xa : Str := cgen_road.2.2.2.2.2.2.2.2.2.2.2.2.2.2.2.2.2.2.2.2.2.2.1
@[irreducible] noncomputable def xb : Str := cgen_road.2.2.2.2.2.2.2.2.2.2.2.2.2.2.2.2.2.2.2.2.2.2.2.1
@[irreducible] noncomputable def pa : Pos := cgen_road.2.2.2.2.2.2.2.2.2.2.2.2.2.2.2.2.2.2.2.2.2.2.2.2.1
@[irreducible] noncomputable def pb : Pos := cgen_road.2.2.2.2.2.2.2.2.2.2.2.2.2.2.2.2.2.2.2.2.2.2.2.2.2.1
@[irreducible] noncomputable def pt : Pos := cgen_road.2.2.2.2.2.2.2.2.2.2.2.2.2.2.2.2.2.2.2.2.2.2.2.2.2.2.1
@[irreducible] noncomputable def pi : Pos := cgen_road.2.2.2.2.2.2.2.2.2.2.2.2.2.2.2.2.2.2.2.2.2.2.2.2.2.2.2.1
@[irreducible] noncomputable def kt : Nat := cgen_road.2.2.2.2.2.2.2.2.2.2.2.2.2.2.2.2.2.2.2.2.2.2.2.2.2.2.2.2.1
@[irreducible] noncomputable def scope : Scope := cgen_road.2.2.2.2.2.2.2.2.2.2.2.2.2.2.2.2.2.2.2.2.2.2.2.2.2.2.2.2.2.1
@[irreducible] noncomputable def pos : Pos := cgen_road.2.2.2.2.2.2.2.2.2.2.2.2.2.2.2.2.2.2.2.2.2.2.2.2.2.2.2.2.2.2.1
@[irreducible] noncomputable def Fv : Nat → Value → Prop := cgen_road.2.2.2.2.2.2.2.2.2.2.2.2.2.2.2.2.2.2.2.2.2.2.2.2.2.2.2.2.2.2.2.1
@[irreducible] noncomputable def Q : Value → Shared → Prop := cgen_road.2.2.2.2.2.2.2.2.2.2.2.2.2.2.2.2.2.2.2.2.2.2.2.2.2.2.2.2.2.2.2.2.1
theorem holds : Sgen_road w mean mg mb A E s c T ps r d items n Ts vals m qual scope0 L f elt xa xb pa pb pt pi kt scope pos Fv Q := by
  intro hK hcT X Tp hh hroom hns hk0 hself0 hself hr hit htup h2 htab htri hco hclos hcell h0 hxa hxb hab hkind helt hq hs
  refine wpAny_GeneratorExp_walksQT hh hco hclos hcell h0 hxa hxb hab hkind hroom ?_ hs
  refine wpAny_Name (wpAny_loadName_local hk0 hself0 hns hself ?_) (by decide)
  refine iter_road X hr ?_
  have hrlt : r < s.heap.objs.size := Heap.lt_size hr
  have hTlt : T < s.heap.objs.size := Heap.lt_size htab
  have k1 : Keep s.heap (s.heap.push { cls := .type "list_iterator", data := .fields #[.ref r, .int 0 0] }) := fun b o e => Heap.get?_push_of_some _ e
  refine ⟨Tp.nolimit.push _, ?_⟩
  refine code_step hK (X.keeps k1) rfl hcT (k1 _ _ htab) htri fun code h3 tk ps' hx hsz htab' htri' => ?_
  have T1 := Tp.keeps k1
  have k3 : ∀ b o, b ≠ T → s.heap.get? b = some o → h3.get? b = some o := fun b o hb e => hx b o hb (k1 b o e)
  have hI : h3.get? s.heap.objs.size = some { cls := .type "list_iterator", data := .fields #[.ref r, .int 0 0] } := hx _ _ (Nat.ne_of_gt hTlt) (Heap.get?_push_size _ rfl)
  have hIlt := Heap.lt_size hI
  have nsT : ∀ {a : Addr} {m' : Str → Option Value}, s.heap.Ns a m' → h3.Ns a m' := by
    rintro a m' ⟨o, es, ep, e1, e2, e3⟩
    refine ⟨o, es, ep, k3 _ _ ?_ e1, e2, e3⟩
    rintro rfl
    rw [htab] at e1; cases e1; cases e2
  obtain ⟨bm, ob, b1, b2, b3, b4, b5, b6⟩ := Tp.bmain
  have hbT : bm ≠ T := by rintro rfl; rw [htab] at b3; cases b3; cases b6
  refine wpAny_builtinsFor (nsT Tp.g) b1 b2 (k3 _ _ hbT b3) b4 b5 b6 ?_
  have hlim : h3.NoLimit := by
    obtain ⟨mc, q1, q2⟩ := Tp.nolimit
    exact ⟨mc, nsT q1, q2⟩
  have hcs : cStatics < s.heap.objs.size := by
    obtain ⟨mc, q1, q2⟩ := Tp.nolimit
    exact q1.lt
  have hTs : ∀ j, j < items.size → Ts j < s.heap.objs.size := fun j hj => by obtain ⟨_, e, _⟩ := htup j hj; exact Heap.lt_size e
  have tupT : ∀ j, j < items.size → Ts j ≠ T := by
    intro j hj q
    obtain ⟨o, e1, e2, e3⟩ := htup j hj
    rw [q, htab] at e1; cases e1; cases e2
  have hrT : r ≠ T := by intro e; rw [e, htab] at hr; cases hr
  refine ⟨s.heap.objs.size, s.heap.objs.size :: r :: (List.range items.size).map Ts, [s.heap.objs.size], items.size, _, _, _, fun _ => true, Fv, rfl, fun A' hA' => (walks_road hA' s.heap.objs.size r d (Nat.ne_of_lt hrlt) items n Ts vals hit (fun j hj => Nat.ne_of_lt (hTs j hj))).bound, ?_, ?_, ?_, hlim, ?_, ?_, ?_⟩
  · rintro i vs ⟨hi, rfl⟩
    exact h2 i hi
  · exact ⟨⟨_, hI, rfl, rfl⟩, k3 _ _ hrT hr, fun k hk => by
      obtain ⟨o, e1, e2⟩ := htup k hk
      exact ⟨o, k3 _ _ (tupT k hk) e1, e2⟩⟩
  · intro b hb
    rcases List.mem_cons.mp hb with rfl | hb
    · exact hIlt
    · rcases List.mem_cons.mp hb with rfl | hb
      · exact Nat.lt_trans hrlt hIlt
      · obtain ⟨k, hk, rfl⟩ := List.mem_map.mp hb
        exact Nat.lt_trans (hTs k (List.mem_range.mp hk)) hIlt
  · intro hm
    rcases List.mem_cons.mp hm with q | hm
    · exact Nat.lt_irrefl _ (q ▸ hcs)
    · cases hm
  · intro href hhref
    refine ⟨fun A' E' i va vb s₂ m₂ hA' hP hn2 ha hb hk => ?_, fun A' E' i va vb s₂ m₂ hA' hP hpz hn2 ha hb hk => ?_⟩
    · exact wpAny_pure ⟨rfl, s₂.heap, s₂.toks, rfl, fun _ _ e => e⟩
    · obtain ⟨hi, hv⟩ := hP
      refine helt _ _ A' E' i va vb s₂ m₂ hA' hi hv.symm hn2 ha hb (Nat.le_trans (Nat.le_of_lt (Nat.lt_of_lt_of_le (Nat.lt_succ_self _) (by rw [Heap.size_push] at hsz; exact hsz))) (Nat.le_refl _)) fun b o hbT e => ?_
      have hlt := Heap.lt_size e
      refine hk b (List.mem_range.mpr (Nat.lt_trans hlt hIlt)) ?_ o (hhref b o (k3 b o hbT e))
      intro hm
      rcases List.mem_cons.mp hm with q | hm
      · exact Nat.lt_irrefl _ (q ▸ hlt)
      · cases hm
  · intro a h5 tk5 gs hgb hag hsz5 hk5 W hat
    have e1 : (passing (fun _ => true) items.size 0).length = items.size := by rw [passing_all]; simp
    rw [e1] at W
    refine hq a s.heap.objs.size h3.objs.size _ ps' (Nat.le_refl _) hIlt hag hsz5 (fun b o hb e => hk5 b o (k3 b o hb e)) (hk5 _ _ htab') htri' rfl rfl (fun x => AllBare.push x hgb) ?_ hat
    have eP : (fun j y => ∃ i, (passing (fun _ => true) items.size 0)[j]? = some i ∧ Fv i y) = fun j y => j < items.size ∧ Fv j y := by
      funext j y
      rw [passing_all]
      apply propext
      constructor
      · rintro ⟨i, e, hf⟩
        have hj : j < items.size := by
          rcases Nat.lt_or_ge j items.size with h | h
          · exact h
          · rw [List.getElem?_eq_none (by simpa using h)] at e; cases e
        rw [List.getElem?_range hj] at e; cases e
        exact ⟨hj, hf⟩
      · rintro ⟨hj, hf⟩
        exact ⟨j, List.getElem?_range hj, hf⟩
    rw [eP] at W
    exact W
end Kgen_road
theorem gen_road {w : World} {mean : ExcName → Option Value} {mg mb : Str → Option Value} {A : Around} {E : Value → Shared → Prop} {s : Shared} {c T : Addr} {ps : Array Value} {r d : Addr} {items : Array Value} {n : Nat} {Ts : Nat → Addr} {vals : Nat → Array Value} {m : Str → Option Value}
    {qual : Str} {scope0 : Scope} {L f : Addr} {elt : Expr} {xa xb : Str} {pa pb pt pi : Pos} {kt : Nat} {scope : Scope} {pos : Pos} {Fv : Nat → Value → Prop} {Q : Value → Shared → Prop}
    (hK : ∃ oc od vs sl, (kk.heap_1 w.params).lookup c = some ⟨oc, od, .fields vs, sl⟩ ∧ oc = .type "code" ∧ vs.getD 11 .none = .ref T ∧ vs[11]? = some (.ref T) ∧ (∃ f t, vs.getD 18 .none = .str f t) ∧ (∃ f t, vs.getD 7 .none = .int f t) ∧ (∃ b, vs.getD 9 .none = .bool b) ∧ (∃ f t, vs.getD 10 .none = .int f t))
    (hcT : c ≠ T) (X : (kk.heap_1 w.params).In s.heap) (Tp : Top hd.view_39 LO mean mg mb s.heap) (hh : A.handled = none) (hroom : A.depth < recursionLimit)
    (hns : s.heap.Ns L m) (hk0 : scope0.kind = .function) (hself0 : scope0.names.lookup ("self" : Str) = some NameKind.local) (hself : m "self" = some (.ref r))
    (hr : s.heap.get? r = some (roadObj d items n)) (hit : ∀ j, j < items.size → items[j]? = some (.ref (Ts j))) (htup : ∀ j, j < items.size → s.heap.IsTuple (Ts j) (vals j)) (h2 : ∀ j, j < items.size → ∃ va vb, vals j = #[va, vb])
    (htab : s.heap.get? T = some (tabO ps)) (htri : TriplesOk ps.toList)
    (hco : scope.isCoroutine = false) (hclos : closureFor scope (envOf qual scope0 L f (.ref c)) = pure []) (hcell : ∀ y ∈ scope.names, y.2 ≠ .cell) (h0 : scope.names.lookup (".0" : Str) = some NameKind.local)
    (hxa : scope.names.lookup xa = some .local) (hxb : scope.names.lookup xb = some .local) (hab : xa ≠ xb) (hkind : scope.kind = .function)
    (helt : ∀ (C : Addr) (code : Value) (A' : Around) E' i va vb (s₂ : Shared) m₂, A'.handled = none → i < items.size → vals i = #[va, vb] → s₂.heap.Ns C m₂ → m₂ xa = some va → m₂ xb = some vb → s.heap.objs.size ≤ C → (∀ b o, b ≠ T → s.heap.get? b = some o → s₂.heap.get? b = some o) →
      wpAny (model PG w) A' (eval elt (genEnv scope [] C code builtinsNs (envOf qual scope0 L f (.ref c)))) (fun y s₃ => Fv i y ∧ Keeps s₂ s₃) E' s₂)
    (hq : ∀ a I C (s₅ : Shared) ps', s.heap.objs.size ≤ I → I < C → C < a → s₅.heap.objs.size = a + 1 → (∀ b o, b ≠ T → s.heap.get? b = some o → s₅.heap.get? b = some o) → s₅.heap.get? T = some (tabO ps') → TriplesOk ps'.toList → s₅.os = s.os → s₅.drawn = s.drawn → (AllBare s.gens → AllBare s₅.gens) →
      WalksS PG w A.in4 a (a :: C :: List.range C) (C :: [I]) (GenOnlyQ s.gens.size) items.size (fun j y => j < items.size ∧ Fv j y) (GenAt PG w A.in4 a s.gens.size C (List.range C) [I] (fun _ => true) items.size Fv) →
      GenAt PG w A.in4 a s.gens.size C (List.range C) [I] (fun _ => true) items.size Fv 0 s₅ → Q (.ref a) s₅)
    (hs : ∀ x, genFold (.Name "self" pi) (envOf qual scope0 L f (.ref c)) x = pure x) :
    wpAny (model PG w) A (eval (.GeneratorExp elt [⟨.Tuple [.Name xa pa, .Name xb pb] kt pt, .Name "self" pi, [], 0⟩] scope pos) (envOf qual scope0 L f (.ref c))) Q E s := by
  exact skolem gv0 (fun x => Sgen_road x.1 x.2.1 x.2.2.1 x.2.2.2.1 x.2.2.2.2.1 x.2.2.2.2.2.1 x.2.2.2.2.2.2.1 x.2.2.2.2.2.2.2.1 x.2.2.2.2.2.2.2.2.1 x.2.2.2.2.2.2.2.2.2.1 x.2.2.2.2.2.2.2.2.2.2.1 x.2.2.2.2.2.2.2.2.2.2.2.1 x.2.2.2.2.2.2.2.2.2.2.2.2.1 x.2.2.2.2.2.2.2.2.2.2.2.2.2.1 x.2.2.2.2.2.2.2.2.2.2.2.2.2.2.1 x.2.2.2.2.2.2.2.2.2.2.2.2.2.2.2.1 x.2.2.2.2.2.2.2.2.2.2.2.2.2.2.2.2.1 x.2.2.2.2.2.2.2.2.2.2.2.2.2.2.2.2.2.1 x.2.2.2.2.2.2.2.2.2.2.2.2.2.2.2.2.2.2.1 x.2.2.2.2.2.2.2.2.2.2.2.2.2.2.2.2.2.2.2.1 x.2.2.2.2.2.2.2.2.2.2.2.2.2.2.2.2.2.2.2.2.1 x.2.2.2.2.2.2.2.2.2.2.2.2.2.2.2.2.2.2.2.2.2.1 x.2.2.2.2.2.2.2.2.2.2.2.2.2.2.2.2.2.2.2.2.2.2.1 x.2.2.2.2.2.2.2.2.2.2.2.2.2.2.2.2.2.2.2.2.2.2.2.1 x.2.2.2.2.2.2.2.2.2.2.2.2.2.2.2.2.2.2.2.2.2.2.2.2.1 x.2.2.2.2.2.2.2.2.2.2.2.2.2.2.2.2.2.2.2.2.2.2.2.2.2.1 x.2.2.2.2.2.2.2.2.2.2.2.2.2.2.2.2.2.2.2.2.2.2.2.2.2.2.1 x.2.2.2.2.2.2.2.2.2.2.2.2.2.2.2.2.2.2.2.2.2.2.2.2.2.2.2.1 x.2.2.2.2.2.2.2.2.2.2.2.2.2.2.2.2.2.2.2.2.2.2.2.2.2.2.2.2.1 x.2.2.2.2.2.2.2.2.2.2.2.2.2.2.2.2.2.2.2.2.2.2.2.2.2.2.2.2.2.1 x.2.2.2.2.2.2.2.2.2.2.2.2.2.2.2.2.2.2.2.2.2.2.2.2.2.2.2.2.2.2.1 x.2.2.2.2.2.2.2.2.2.2.2.2.2.2.2.2.2.2.2.2.2.2.2.2.2.2.2.2.2.2.2.1 x.2.2.2.2.2.2.2.2.2.2.2.2.2.2.2.2.2.2.2.2.2.2.2.2.2.2.2.2.2.2.2.2.1) (by with_unfolding_all exact Kgen_road.holds) ⟨w, mean, mg, mb, A, E, s, c, T, ps, r, d, items, n, Ts, vals, m, qual, scope0, L, f, elt, xa, xb, pa, pb, pt, pi, kt, scope, pos, Fv, Q, (Classical.choice gv0).2.2.2.2.2.2.2.2.2.2.2.2.2.2.2.2.2.2.2.2.2.2.2.2.2.2.2.2.2.2.2.2.2.1, (Classical.choice gv0).2.2.2.2.2.2.2.2.2.2.2.2.2.2.2.2.2.2.2.2.2.2.2.2.2.2.2.2.2.2.2.2.2.2.1, (Classical.choice gv0).2.2.2.2.2.2.2.2.2.2.2.2.2.2.2.2.2.2.2.2.2.2.2.2.2.2.2.2.2.2.2.2.2.2.2.1, (Classical.choice gv0).2.2.2.2.2.2.2.2.2.2.2.2.2.2.2.2.2.2.2.2.2.2.2.2.2.2.2.2.2.2.2.2.2.2.2.2⟩ hK hcT X Tp hh hroom hns hk0 hself0 hself hr hit htup h2 htab htri hco hclos hcell h0 hxa hxb hab hkind helt hq hs
section
variable {w : World} {mean : ExcName → Option Value} {mg mb : Str → Option Value} {A : Around} {E : Value → Shared → Prop} {s s₂ : Shared} {T : Addr} {ps : Array Value}
theorem nsT2 (htab : s.heap.get? T = some (tabO ps)) (k : ∀ b o, b ≠ T → s.heap.get? b = some o → s₂.heap.get? b = some o) {a : Addr} {m' : Str → Option Value} (h : s.heap.Ns a m') : s₂.heap.Ns a m' := by
  obtain ⟨o, es, ep, e1, e2, e3⟩ := h
  refine ⟨o, es, ep, k _ _ ?_ e1, e2, e3⟩
  rintro rfl
  rw [htab] at e1; cases e1; cases e2
theorem gname_B {env : Env} {x : Str} {p : Pos} {v : Value} {Q : Value → Shared → Prop} (X : (kk.heap_1 w.params).In s.heap) (Tp : Top hd.view_39 LO mean mg mb s.heap) (htab : s.heap.get? T = some (tabO ps)) (k : ∀ b o, b ≠ T → s.heap.get? b = some o → s₂.heap.get? b = some o)
    (eg : env.globals = mainGlobals) (eb : env.builtins = builtinsNs) (e : nsIn (kk.heap_1 w.params) mainGlobals x = some none) (hv : bootBuiltins x = some v) (hn : x ≠ "__name__") (h : Q v s₂)
    (hk : env.scope.kind = .function) (hx : env.kindOf x = some .globalImplicit) (hd : (x == ("__debug__" : Str)) = false) :
    wpAny (model PG w) A (eval (.Name x p) env) Q E s₂ := by
  refine Name_function_global hk hx (loadGlobal_builtin (env := env) ?_ (mg_none_of X Tp.g e) ?_ ((Tp.builtins x hn).trans hv) h) hd
  · rw [eg]; exact nsT2 htab k Tp.g
  · rw [eb]; exact nsT2 htab k Tp.b
theorem call_len1 {env : Env} {p1 p2 pos : Pos} {x y : Str} {tx : Tok} {m₂ : Str → Option Value} {Q : Value → Shared → Prop} (X : (kk.heap_1 w.params).In s.heap) (Tp : Top hd.view_39 LO mean mg mb s.heap) (htab : s.heap.get? T = some (tabO ps)) (k : ∀ b o, b ≠ T → s.heap.get? b = some o → s₂.heap.get? b = some o)
    (eg : env.globals = mainGlobals) (eb : env.builtins = builtinsNs) (hk : env.scope.kind = .function) (hx : env.kindOf "len" = some .globalImplicit) (hy : env.kindOf y = some .local) (hn2 : s₂.heap.Ns env.locals m₂) (hm : m₂ y = some (.str x tx)) (hyd : (y == ("__debug__" : Str)) = false)
    (hlen : x.length ≤ 1000) (h : ∀ t' tk, Q (.int x.length t') { s₂ with toks := tk }) (e0 : nsIn (kk.heap_1 w.params) mainGlobals "len" = some none) :
    wpAny (model PG w) A (eval (.Call (.Name "len" p1) [.Name y p2] [] pos) env) Q E s₂ := by
  refine Call_Name (trees := [(false, eval (.Name y p2) env)]) rfl (gname_B X Tp htab k eg eb e0 (by first | boot_by_name | rfl | kernel_rfl) (by decide) ?_ hk hx (by decide))
  refine callWith_builtin1 ?_
  refine wpAny_Name (wpAny_loadName_local hk hy hn2 hm ?_) hyd
  exact len_str (by omega) (h _ _)

theorem len_elt {env : Env} {p1 p2 p3 p4 p5 p6 p7 : Pos} {x1 x2 : Str} {t1 t2 : Tok} {m₂ : Str → Option Value} (X : (kk.heap_1 w.params).In s.heap) (Tp : Top hd.view_39 LO mean mg mb s.heap) (htab : s.heap.get? T = some (tabO ps)) (k : ∀ b o, b ≠ T → s.heap.get? b = some o → s₂.heap.get? b = some o)
    (eg : env.globals = mainGlobals) (eb : env.builtins = builtinsNs) (hk : env.scope.kind = .function) (hx : env.kindOf "len" = some .globalImplicit) (hy1 : env.kindOf "fws" = some .local) (hy2 : env.kindOf "part" = some .local) (hn2 : s₂.heap.Ns env.locals m₂) (hm1 : m₂ "fws" = some (.str x1 t1)) (hm2 : m₂ "part" = some (.str x2 t2))
    (hl1 : x1.length ≤ 1000) (hl2 : x2.length ≤ 1000) (e0 : nsIn (kk.heap_1 w.params) mainGlobals "len" = some none) :
    wpAny (model PG w) A (eval (.BinOp (.Call (.Name "len" p1) [.Name "fws" p2] [] p3) .Add (.Call (.Name "len" p4) [.Name "part" p5] [] p6) p7) env) (fun y s₃ => (∃ t, y = .int ((x1.length : Int) + x2.length) t) ∧ Keeps s₂ s₃) E s₂ := by
  refine wpAny_BinOp ?_
  refine call_len1 X Tp htab k eg eb hk hx hy1 hn2 hm1 (by decide) hl1 (fun t' tk => ?_) e0
  refine call_len1 (s₂ := { s₂ with toks := tk }) X Tp htab k eg eb hk hx hy2 hn2 hm2 (by decide) hl2 (fun t'' tk' => ?_) e0
  refine add_int ⟨⟨_, rfl⟩, _, _, rfl, fun _ _ e => e⟩
end

theorem slot_lga : Slot "list" "__getattribute__" "list.__getattribute__" := .of (owner := "list") (n := "__getattribute__") (by rw [typeLookup_type, builtinLookup_eq_fast]; kernel_rfl) (by decide +kernel) (by decide +kernel) (by decide +kernel)
  (by first | exact .inl (by decide +kernel) | exact .inr (by decide +kernel)) (by rw [isSubtype_type]; kernel_rfl)
theorem entry_lga : entryFor table "list.__getattribute__" = some Builtin.«object.__getattribute__» :=
  entryFor_alias (id' := "object.__getattribute__") (by kernel_rfl) (by first | rfl | decide +kernel) (by decide +kernel) (by kernel_rfl)
theorem args_lga (a b : Value) : argsOk "list.__getattribute__" ⟨[a, b], []⟩ := by unfold argsOk; kernel_rfl
theorem find_init3 (w : World) (t2 t3 : Tok) : findObj (kk.heap_1 w.params) 138 (some (fullDict w t2 t3)) "_initial_size" = some (.value (.int 3 t3)) := by with_unfolding_all rfl
theorem kind_lga : builtinKind "list.__getattribute__" = some .slot := by decide +kernel
theorem split_lga : splitId "list.__getattribute__" = some ("list", "__getattribute__") := by decide +kernel
set_option maxHeartbeats 400000 in
theorem getattr_init {w : World} {A : Around} {E : Value → Shared → Prop} {s : Shared} {r d : Addr} {items : Array Value} {n : Nat} {t2 t3 : Tok} {b : Bool} {Q : Value → Shared → Prop} (X : (kk.heap_1 w.params).In s.heap) (hr : s.heap.get? r = some (roadObj d items n)) (hd : s.heap.get? d = some (fullDict w t2 t3))
    (h : Q (.int 3 t3) { s with toks := s.toks + 1 }) : wpAny (model PG w) A (getAttr (.ref r) "_initial_size" b) Q E s := by
  have sub : Looks (model PG w) s.heap (isInstance (.ref r) (.type "list")) true := (looks_road hr).andThen (looks_mroIn X (mro_list _))
  have L0 : Looks (model PG w) s.heap (typeOf (.ref r)) (.ref 138) := looks_road hr
  have L1 := looks_findIn (M := model PG w) X (find_ga w.params)
  have L2 := looks_findIn (M := model PG w) X (find_gr w.params)
  have I : InstAt s.heap r (roadObj d items n) 138 (some (fullDict w t2 t3)) := ⟨hr, rfl, rfl, hd⟩
  have L3 := looks_find (M := model PG w) X I (find_init3 w t2 t3)
  obtain ⟨hh, g, dd, t, os⟩ := s
  unfold getAttr getAttrBy
  refine wpAny_bind (wpAny_mkText (wpAny_holding (wpAny_bind (L0.at (wpAny_bind (L1.at ?_))))))
  show wpAny _ _ (getAttrByItsOwn (.ref r) (.str "_initial_size" t) (.ref 138) (.builtin "list.__getattribute__") true b) _ _ _
  unfold getAttrByItsOwn hookBefore
  refine wpAny_bind (show wpAny _ _ (typeLookup (.ref 138) "__getattr__") _ _ _ from L2.at ?_)
  refine wpAny_bind (wpAny_attempt (wpAny_holding ?_))
  unfold callGetattribute
  rw [show onTheHeap (.builtin "list.__getattribute__") = false from rfl, Bool.and_false, if_neg (by decide)]
  unfold boundAndCalled
  rw [slot_lga.bind]
  refine wpAny_bind (wpAny_pure (wpAny_call ?_))
  show codeAny _ _ (.call (.builtin "list.__getattribute__") ⟨[.ref r, .str "_initial_size" t], []⟩) _ _
  refine codeAny_call_builtin slot_lga.plain entry_lga (@check_slot (model PG w) _ _ _ "list.__getattribute__" "list" "__getattribute__" (.ref r) [.str "_initial_size" t] [] _ kind_lga split_lga sub (args_lga (.ref r) (.str "_initial_size" t)) ?_)
  show wpAny _ _ (Builtin.«object.__getattribute__» ⟨[.ref r, .str "_initial_size" t], []⟩) _ _ _
  unfold Builtin.«object.__getattribute__»
  refine wpAny_bind (wpAny_of_eq (a := (.ref r, [.str "_initial_size" t])) (by kernel_rfl) ?_)
  refine wpAny_bind (wpAny_of_eq (show Builtin.ObjectAttr.attrName (.str "_initial_size" t) = pure ("_initial_size" : Str) from rfl) ?_)
  refine wpAny_bind (L0.at (wpAny_bind (L3.at ?_)))
  refine wpAny_pure ?_
  show wpAny _ _ (handedOut (.int 3 t3)) Q E _
  exact wpAny_pure h

theorem args_sum2 (a b : Value) : argsOk "sum" ⟨[a, b], []⟩ := by unfold argsOk; kernel_rfl
section
variable {prog : Program} {w : World} {A : Around} {E : Value → Shared → Prop} {s : Shared}
theorem walksS_shift {I : Addr} {fp wr : List Addr} {G : Array GenState → Array GenState → Prop} {n : Nat} {P : Nat → Value → Prop} {St : Nat → Shared → Prop} (W : WalksS prog w A I fp wr G n P St) :
    WalksS prog w A I fp wr G (n + 1) (fun i v => ∃ j, i = j + 1 ∧ P j v) (fun i s => ∃ j, i = j + 1 ∧ St j s) where
  sub := W.sub
  grefl := W.grefl
  gtrans := W.gtrans
  frame := by
    rintro i s h' tk ⟨j, rfl, st⟩ ht hk
    exact ⟨j, rfl, W.frame j s h' tk st ht hk⟩
  item := by
    rintro i s Q E hi ⟨j, rfl, st⟩ hQ
    exact W.item j s Q E (by omega) st fun v s' hP st' hm => hQ v s' ⟨j, rfl, hP⟩ ⟨j + 1, rfl, st'⟩ hm
  done := by
    rintro s Q E ⟨j, e, st⟩ hQ
    obtain rfl : n = j := by omega
    exact W.done s Q E st hQ
  self := by
    rintro i s Q E ⟨j, rfl, st⟩ hQ
    exact W.self j s Q E st hQ
noncomputable def shiftVal (c : Int) (val : Nat → Int) : Nat → Int
  | 0 => c
  | j + 1 => val j
theorem preSum_shift (c : Int) (val : Nat → Int) : ∀ n, preSum (shiftVal c val) (n + 1) = c + preSum val n
  | 0 => by simp [preSum, shiftVal]
  | n + 1 => by
    rw [preSum, preSum_shift c val n]
    simp [preSum, shiftVal]
    omega
theorem sum_start {c : Int} {tc : Tok} {I : Addr} {fp wr : List Addr} {G : Array GenState → Array GenState → Prop} {n : Nat} {P : Nat → Value → Prop} {St : Nat → Shared → Prop} {val : Nat → Int} {Q : Value → Shared → Prop} (W : WalksS prog w A.in1 I fp wr G n P St) (hst : St 0 s) (hfp : ∀ b ∈ fp, b < s.heap.objs.size)
    (hval : ∀ i v, P i v → ∃ t, v = .int (val i) t) (hc : InLong c) (hfit : ∀ j, j < n → InLong (val j) ∧ InLong (c + preSum val (j + 1)))
    (hQ : ∀ s' t', Moved wr G s s' → Q (.int (c + preSum val n) t') s') :
    wpAny (model prog w) A (call (.builtin "sum") [.ref I, .int c tc]) Q E s := by
  refine call_function_tree F.kind_sum F.plain_sum F.entry_sum (args_sum2 _ _) ?_
  unfold Builtin.«sum»
  simp only [List.length_cons, List.length_nil]
  rw [if_neg (by decide)]
  refine wpAny_bind (wpAny_of_eq (show Builtin.Builtins.bindParams "sum" ["start"] 0 ⟨[.int c tc], []⟩ = pure [some (.int c tc)] from rfl) ?_)
  refine wpAny_bind (W.self 0 s _ _ hst ?_)
  dsimp only
  split
  case isFalse hneg =>
    refine absurd ?_ hneg
    show (decide (-(2 ^ 63) ≤ c) && decide (c < 2 ^ 63)) = true
    simp only [Bool.and_eq_true, decide_eq_true_eq]
    exact hc
  refine wpAny_bind (wpAny_rule (wpAny_bind (wpAny_mkInt (wpAny_bind (wpAny_pure ?_)))))
  simp only [List.forIn_cons, List.forIn_nil]
  refine wpAny_bind (wpAny_bind (wpAny_bind (wpAny_isInstance (T := "int") (b := false) (typeIs_int _ _ _) PySem.sub_int_str ?_)))
  simp only [Bool.false_eq_true, if_false]
  refine wpAny_pure (wpAny_bind (wpAny_bind (wpAny_isInstance (T := "int") (b := false) (typeIs_int _ _ _) PySem.sub_int_bytes ?_)))
  simp only [Bool.false_eq_true, if_false]
  refine wpAny_pure (wpAny_bind (wpAny_bind (wpAny_isInstance (T := "int") (b := false) (typeIs_int _ _ _) PySem.sub_int_bytearray ?_)))
  simp only [Bool.false_eq_true, if_false]
  refine wpAny_pure (wpAny_pure ?_)
  refine wpAny_bind (wpAny_newObj_type ?_)
  have hSf : s.heap.objs.size ∉ fp := fun hm => Nat.lt_irrefl _ (hfp _ hm)
  have e1 : preSum (shiftVal c val) 1 = c := by rw [preSum_shift]; simp [preSum]
  refine wpAny_pure ⟨plainId_quiet F.plain_sum_loop _, codeAny_sum_loopS (walksS_shift W) (shiftVal c val) ?_ ?_ s.heap.objs.size hSf n 1 _ s.toks 0 rfl (by omega)
    ⟨0, rfl, W.frame 0 s _ _ hst (by first | exact Nat.le_refl _ | exact Nat.le_succ _ | omega) fun b _ o e => Heap.get?_push_of_some _ e⟩ (by rw [e1]; exact Heap.get?_push_size _ rfl) fun s' t' hm => ?_⟩
  · rintro i v ⟨j, rfl, hP⟩
    exact hval j v hP
  · intro j hj
    cases j with
    | zero => exact ⟨hc, by rw [e1]; exact hc⟩
    | succ j => rw [preSum_shift]; exact hfit j (by omega)
  · rw [preSum_shift]
    exact hQ s' t' (hm.drop_new (by first | exact Nat.le_refl _ | exact Nat.le_succ _ | omega))
end
end
end Mine
end OfA10
section OfA11
open PySem PySem.W PySem.Calls PyProof.Rows Builtin
set_option Elab.async false
set_option maxRecDepth 100000
set_option maxHeartbeats 8000000
set_option pp.maxSteps 1500
namespace Mine
noncomputable section
theorem filled11 : kk.heap_1 = kk.heap_1 ∧ PySem.Challenge.rw_wu0057_01.name = PySem.Challenge.rw_wu0057_01.name := by
  k_fill
  exact ⟨rfl, rfl⟩
section
local macro_rules | `(tactic| walk_at "pad") => `(tactic| skip)
local macro_rules | `(tactic| walk_at "eval GeneratorExp") => `(tactic| refine halt ?_)
@[reducible] def LenV : Type := (World) × (ExcName → Option Value) × (Str → Option Value) × (Str → Option Value) × (Nat) × (Nat) × (Array Value) × (Nat) × (Nat) × (Nat) × (Nat → Addr) × (Nat → Tok) × (Nat → Tok) × (Array Value) × (Nat) × (Option (List Env)) × (Option (List Code)) × (Nat) × (Shared) × (Value → Shared → Prop) × (Value → Shared → Prop)
theorem lenv0 : Nonempty LenV := ⟨⟨W0, fun _ => none, fun _ => none, fun _ => none, 0, 0, #[], 0, 0, 0, fun _ => (0 : Nat), fun _ => (0 : Nat), fun _ => (0 : Nat), #[], 0, none, none, 0, {}, fun _ _ => True, fun _ _ => True⟩⟩
noncomputable def Slen_road (w : World) (mean : ExcName → Option Value) (mg : Str → Option Value) (mb : Str → Option Value) (r : Addr) (d : Addr) (items : Array Value) (n : Nat) (t2 : Tok) (t3 : Tok) (Ts : Nat → Addr) (ta : Nat → Tok) (tb : Nat → Tok) (ps : Array Value) (dp : Nat) (fr : Option (List Env)) (gd : Option (List Code)) (un : Nat) (s : Shared) (Q : Value → Shared → Prop) (E : Value → Shared → Prop) : Prop := ∀ (fa : Nat → Str) (fb : Nat → Str) (hA : AOk 5 (Around.mk none dp fr gd un)) (hS : St w mean mg mb (hide [101] s.heap)) (hr : s.heap.get? r = some (roadObj d items n)) (hd : s.heap.get? d = some (fullDict w t2 t3)) (hit : ∀ j, j < items.size → items[j]? = some (.ref (Ts j))) (htup : ∀ j, j < items.size → s.heap.IsTuple (Ts j) #[.str (fa j) (ta j), .str (fb j) (tb j)]) (htab : s.heap.get? 101 = some (tabO ps)) (htri : TriplesOk ps.toList) (hsz : items.size ≤ 1000) (hlen : ∀ j, j < items.size → (fa j).length ≤ 1000 ∧ (fb j).length ≤ 1000) (hret : ∀ s' t', (∀ b o, b ≠ 101 → s.heap.get? b = some o → s'.heap.get? b = some o) → (∃ ps', s'.heap.get? 101 = some (tabO ps') ∧ TriplesOk ps'.toList) → s'.os = s.os → s'.drawn = s.drawn → (AllBare s.gens → AllBare s'.gens) → Q (.int (3 + preSum (fun j => ((fa j).length + (fb j).length : Int)) items.size) t') s'),
    wpAny (model PG w) (Around.mk none dp fr gd un) (call (.ref 106) [.ref r]) Q E s
noncomputable def clen_road : LenV := @Classical.epsilon LenV lenv0 fun x => ¬ Slen_road x.1 x.2.1 x.2.2.1 x.2.2.2.1 x.2.2.2.2.1 x.2.2.2.2.2.1 x.2.2.2.2.2.2.1 x.2.2.2.2.2.2.2.1 x.2.2.2.2.2.2.2.2.1 x.2.2.2.2.2.2.2.2.2.1 x.2.2.2.2.2.2.2.2.2.2.1 x.2.2.2.2.2.2.2.2.2.2.2.1 x.2.2.2.2.2.2.2.2.2.2.2.2.1 x.2.2.2.2.2.2.2.2.2.2.2.2.2.1 x.2.2.2.2.2.2.2.2.2.2.2.2.2.2.1 x.2.2.2.2.2.2.2.2.2.2.2.2.2.2.2.1 x.2.2.2.2.2.2.2.2.2.2.2.2.2.2.2.2.1 x.2.2.2.2.2.2.2.2.2.2.2.2.2.2.2.2.2.1 x.2.2.2.2.2.2.2.2.2.2.2.2.2.2.2.2.2.2.1 x.2.2.2.2.2.2.2.2.2.2.2.2.2.2.2.2.2.2.2.1 x.2.2.2.2.2.2.2.2.2.2.2.2.2.2.2.2.2.2.2.2
namespace Klen_road
@[irreducible] noncomputable def w : World := clen_road.1
@[irreducible] noncomputable def mean : ExcName → Option Value := clen_road.2.1
@[irreducible] noncomputable def mg : Str → Option Value := clen_road.2.2.1
@[irreducible] noncomputable def mb : Str → Option Value := clen_road.2.2.2.1
@[irreducible] noncomputable def r : Addr := clen_road.2.2.2.2.1
@[irreducible] noncomputable def d : Addr := clen_road.2.2.2.2.2.1
@[irreducible] noncomputable def items : Array Value := clen_road.2.2.2.2.2.2.1
@[irreducible] noncomputable def n : Nat := clen_road.2.2.2.2.2.2.2.1
@[irreducible] noncomputable def t2 : Tok := clen_road.2.2.2.2.2.2.2.2.1
@[irreducible] noncomputable def t3 : Tok := clen_road.2.2.2.2.2.2.2.2.2.1
@[irreducible] noncomputable def Ts : Nat → Addr := clen_road.2.2.2.2.2.2.2.2.2.2.1
@[irreducible] noncomputable def ta : Nat → Tok := clen_road.2.2.2.2.2.2.2.2.2.2.2.1
@[irreducible] noncomputable def tb : Nat → Tok := clen_road.2.2.2.2.2.2.2.2.2.2.2.2.1
@[irreducible] noncomputable def ps : Array Value := clen_road.2.2.2.2.2.2.2.2.2.2.2.2.2.1
@[irreducible] noncomputable def dp : Nat := clen_road.2.2.2.2.2.2.2.2.2.2.2.2.2.2.1
@[irreducible] noncomputable def fr : Option (List Env) := clen_road.2.2.2.2.2.2.2.2.2.2.2.2.2.2.2.1
@[irreducible] noncomputable def gd : Option (List Code) := clen_road.2.2.2.2.2.2.2.2.2.2.2.2.2.2.2.2.1
@[irreducible] noncomputable def un : Nat := clen_road.2.2.2.2.2.2.2.2.2.2.2.2.2.2.2.2.2.1
@[irreducible] noncomputable def s : Shared := clen_road.2.2.2.2.2.2.2.2.2.2.2.2.2.2.2.2.2.2.1
@[irreducible] noncomputable def Q : Value → Shared → Prop := clen_road.2.2.2.2.2.2.2.2.2.2.2.2.2.2.2.2.2.2.2.1
@[irreducible] noncomputable def E : Value → Shared → Prop := clen_road.2.2.2.2.2.2.2.2.2.2.2.2.2.2.2.2.2.2.2.2
theorem holds : Slen_road w mean mg mb r d items n t2 t3 Ts ta tb ps dp fr gd un s Q E := by
  intro fa fb hA hS hr hd hit htup htab htri hsz hlen hret
  have X := hS.X
  have T := hS.T
  have hS' : St w mean mg mb s.heap := hS.keeps (hide_keep _ _)
  refine wpAny_call ?_
  refine' enterB (g := hide [101] s.heap) (St.X hS') (hide_keep _ _) (Nat.le_of_eq (hide_size _ _)) (Top.nolimit (St.T hS')) (AOk.room hA) ?kho ?khcd ?khb ?khl ?kbody ?khco ?khgen ?khk ?khcell
  (case kho => k_is)
  (case khcd => k_is)
  (case khb => exact BindsTo.of_eq rfl)
  (case khl => exact locs rfl)
  (case khco => rfl)
  (case khgen => rfl)
  (case khk => rfl)
  (case khcell => decide)
  intro h₁ F K1
  have N : News (hide [101] s.heap) s.heap.objs.size h₁ [(101, tabO ps)] := by
    intro p hp
    obtain rfl := List.mem_singleton.mp hp
    exact ⟨K1 _ _ htab, Nat.ne_of_lt (Heap.lt_size htab), by rw [hide_get]; simp⟩
  (try dsimp only)
  k_steps
  refine unhalt ?_
  have hr1 := K1 _ _ hr
  have htab1 := K1 _ _ htab
  have hS1 := hS'.keeps K1
  refine gen_road (vals := fun j => #[.str (fa j) (ta j), .str (fb j) (tb j)]) (Fv := fun j y => ∃ t, y = .int ((fa j).length + (fb j).length : Int) t) (code105 w.params) (by decide) hS1.X hS1.T rfl (AOk.room (AOk.deeper hA)) F.ns rfl rfl (by with_unfolding_all rfl) hr1 hit (fun j hj => (htup j hj).at fun o e => K1 _ _ e) (fun j hj => ⟨_, _, rfl⟩) htab1 htri
    rfl rfl (by decide) rfl rfl rfl (by decide) rfl ?helt ?hq ?hs
  case hs => exact fun x => rfl
  case helt =>
    intro C code A' E' i va vb s₂ m₂ hA' hi hv hn2 ha hb hC hk
    obtain ⟨rfl, rfl⟩ : va = .str (fa i) (ta i) ∧ vb = .str (fb i) (tb i) := by simpa [eq_comm] using congrArg Array.toList hv
    exact len_elt hS1.X hS1.T htab1 hk rfl rfl rfl rfl rfl rfl hn2 ha hb (hlen i hi).1 (hlen i hi).2 (by with_unfolding_all rfl)
  case hq =>
    intro a I C s₅ ps' hI hIC hCa hsz k5 htab5 htri5 hos hdr hgn W hat
    clear N
    have F5 : Fr (hide [101] s.heap) s.heap.objs.size s₅.heap _ := ⟨nsT2 htab1 k5 F.ns, fun b o e => k5 b o (by rintro rfl; rw [hide_get] at e; simp at e) (F.keep b o e), Nat.le_of_eq (hide_size _ _)⟩
    clear F
    obtain ⟨h5, g5, d5, t5, os5⟩ := s₅
    have N : News (hide [101] s.heap) s.heap.objs.size h5 [(101, tabO ps')] := by
      intro p hp
      obtain rfl := List.mem_singleton.mp hp
      exact ⟨htab5, Nat.ne_of_lt (Heap.lt_size htab), by rw [hide_get]; simp⟩
    (try dsimp only)
    k_steps
    have hr101 : r ≠ 101 := by intro e; rw [e, htab] at hr; cases hr
    have hd101 : d ≠ 101 := by intro e; rw [e, htab] at hd; cases hd
    refine getattr_init (s := ⟨h5, g5, d5, _, os5⟩) (X.keeps F5.keep) (k5 _ _ hr101 hr1) (k5 _ _ hd101 (K1 _ _ hd)) ?_
    (try dsimp only)
    k_steps
    refine sum_start (val := fun j => ((fa j).length + (fb j).length : Int)) W.of_in1.of_in1.of_in1 ⟨hat.1, hat.2.1, hat.2.2⟩ ?_ ?_ ⟨by decide, by decide⟩ ?_ ?_
    · intro b hb
      show b < h5.objs.size
      have hsz' : h5.objs.size = a + 1 := hsz
      rw [hsz']
      rcases List.mem_cons.mp hb with rfl | hb
      · exact Nat.lt_succ_self _
      · rcases List.mem_cons.mp hb with rfl | hb
        · exact Nat.lt_succ_of_lt hCa
        · exact Nat.lt_succ_of_lt (Nat.lt_trans (List.mem_range.mp hb) hCa)
    · rintro i v ⟨hi, hv⟩
      exact hv
    · intro j hj
      have b1 : ∀ n, n ≤ items.size → 0 ≤ preSum (fun j => ((fa j).length + (fb j).length : Int)) n ∧ preSum (fun j => ((fa j).length + (fb j).length : Int)) n ≤ 2000 * n := by
        intro n
        induction n with
        | zero => intro _; simp [preSum]
        | succ n ih =>
          intro hn
          have := ih (by omega)
          have h1 := hlen n (by omega)
          simp only [preSum]
          omega
      have h1 := hlen j hj
      have h2 := b1 (j + 1) (by omega)
      refine ⟨⟨?_, ?_⟩, ⟨?_, ?_⟩⟩ <;> omega
    · intro s' t' hm
      refine hret s' t' (fun b o hb e => ?_) ⟨ps', ?_, htri5⟩ (hm.os.trans hos) (hm.drawn.trans hdr) (fun x => AllBare.moved (hgn x) hm.gens)
      · have hlt : b < s.heap.objs.size := Heap.lt_size e
        have hlt1 : b < h₁.objs.size := Heap.lt_size (K1 _ _ e)
        refine hm.heap b o ?_ (k5 b o hb (K1 _ _ e))
        intro hmem
        rcases List.mem_cons.mp hmem with q | hmem
        · exact Nat.lt_irrefl _ (q ▸ (Nat.lt_of_lt_of_le hlt1 (Nat.le_of_lt (Nat.lt_of_le_of_lt hI hIC))))
        · rcases List.mem_cons.mp hmem with q | hmem
          · exact Nat.lt_irrefl _ (q ▸ (Nat.lt_of_lt_of_le hlt1 hI))
          · cases hmem
      · have hlt1 : 101 < h₁.objs.size := Heap.lt_size htab1
        refine hm.heap 101 _ ?_ htab5
        intro hmem
        rcases List.mem_cons.mp hmem with q | hmem
        · exact Nat.lt_irrefl _ (q ▸ (Nat.lt_of_lt_of_le hlt1 (Nat.le_of_lt (Nat.lt_of_le_of_lt hI hIC))))
        · rcases List.mem_cons.mp hmem with q | hmem
          · exact Nat.lt_irrefl _ (q ▸ (Nat.lt_of_lt_of_le hlt1 hI))
          · cases hmem
end Klen_road
theorem len_road (w : World) (mean : ExcName → Option Value) (mg mb : Str → Option Value) (r d : Addr) (items : Array Value) (n : Nat) (t2 t3 : Tok) (Ts : Nat → Addr) (fa fb : Nat → Str) (ta tb : Nat → Tok) (ps : Array Value)
    (A : Around) (s : Shared) (Q E : Value → Shared → Prop) (hA : AOk 5 A) (hS : St w mean mg mb (hide [101] s.heap)) (hr : s.heap.get? r = some (roadObj d items n))
    (hd : s.heap.get? d = some (fullDict w t2 t3)) (hit : ∀ j, j < items.size → items[j]? = some (.ref (Ts j))) (htup : ∀ j, j < items.size → s.heap.IsTuple (Ts j) #[.str (fa j) (ta j), .str (fb j) (tb j)])
    (htab : s.heap.get? 101 = some (tabO ps)) (htri : TriplesOk ps.toList)
    (hsz : items.size ≤ 1000) (hlen : ∀ j, j < items.size → (fa j).length ≤ 1000 ∧ (fb j).length ≤ 1000)
    (hret : ∀ s' t', (∀ b o, b ≠ 101 → s.heap.get? b = some o → s'.heap.get? b = some o) → (∃ ps', s'.heap.get? 101 = some (tabO ps') ∧ TriplesOk ps'.toList) → s'.os = s.os → s'.drawn = s.drawn → (AllBare s.gens → AllBare s'.gens) → Q (.int (3 + preSum (fun j => ((fa j).length + (fb j).length : Int)) items.size) t') s') :
    wpAny (model PG w) A (call (.ref 106) [.ref r]) Q E s := by
  obtain ⟨hd0, dp, fr, gd, un⟩ := A
  obtain rfl : hd0 = none := hA.hd
  exact skolem lenv0 (fun x => Slen_road x.1 x.2.1 x.2.2.1 x.2.2.2.1 x.2.2.2.2.1 x.2.2.2.2.2.1 x.2.2.2.2.2.2.1 x.2.2.2.2.2.2.2.1 x.2.2.2.2.2.2.2.2.1 x.2.2.2.2.2.2.2.2.2.1 x.2.2.2.2.2.2.2.2.2.2.1 x.2.2.2.2.2.2.2.2.2.2.2.1 x.2.2.2.2.2.2.2.2.2.2.2.2.1 x.2.2.2.2.2.2.2.2.2.2.2.2.2.1 x.2.2.2.2.2.2.2.2.2.2.2.2.2.2.1 x.2.2.2.2.2.2.2.2.2.2.2.2.2.2.2.1 x.2.2.2.2.2.2.2.2.2.2.2.2.2.2.2.2.1 x.2.2.2.2.2.2.2.2.2.2.2.2.2.2.2.2.2.1 x.2.2.2.2.2.2.2.2.2.2.2.2.2.2.2.2.2.2.1 x.2.2.2.2.2.2.2.2.2.2.2.2.2.2.2.2.2.2.2.1 x.2.2.2.2.2.2.2.2.2.2.2.2.2.2.2.2.2.2.2.2) (by with_unfolding_all exact Klen_road.holds) ⟨w, mean, mg, mb, r, d, items, n, t2, t3, Ts, ta, tb, ps, dp, fr, gd, un, s, Q, E⟩ fa fb hA hS hr hd hit htup htab htri hsz hlen hret
end
end
end Mine
end OfA11
section OfA12
open PySem PySem.W PySem.Calls PyProof.Rows Builtin Builtin.Str
set_option Elab.async false
set_option maxRecDepth 100000
set_option maxHeartbeats 8000000
set_option pp.maxSteps 1500
namespace Mine
noncomputable section
section
variable {prog : Program} {w : World} {A : Around} {E : Value → Shared → Prop} {s : Shared}
noncomputable def catL : List Str → Str
  | [] => ⟨#[]⟩
  | a :: r => a ++ catL r
theorem app_nil (a : Str) : a ++ (⟨#[]⟩ : Str) = a := by
  show (⟨a.cps ++ #[]⟩ : Str) = a
  simp
theorem join_empty : ∀ l : List Str, Str.join "" l = catL l
  | [] => by with_unfolding_all rfl
  | [a] => by rw [catL, catL, app_nil]; rfl
  | a :: b :: r => by
    rw [catL, ← join_empty (b :: r)]
    show a ++ "" ++ Str.join "" (b :: r) = _
    rw [show a ++ ("" : Str) = a from app_nil a]
theorem joinOk_of (texts : List Str) (h : (texts.map (·.length)).sum ≤ 16777216) : JoinOk "" texts = true := by
  unfold JoinOk tooLong
  rw [StrLaws.joinTotal, sizeLine_eq]
  have e : ("" : Str).length = 0 := by with_unfolding_all rfl
  rw [e]
  simp
  omega
theorem join_tup {D : Addr} {x : Str} {t : Tok} {l : List (Str × Tok)} {Q : Value → Shared → Prop} (hD : s.heap.get? D = some ⟨.type "tuple", none, .seq (strValues l).toArray 0, #[]⟩) (hok : JoinOk x (l.map (·.1)) = true)
    (hq : ∀ t' k, Q (.str (Txt.join x (l.map (·.1))) t') { s with toks := k }) : wpAny (model prog w) A (call (.builtin "str.join") [.str x t, .ref D]) Q E s := by
  refine wpAny_call (codeAny_call_builtin F.slot_str_join.plain F.entry_str_join (F.slot_str_join.check _ _ _ _ _ _ _ _ (typeIs_str _ _ _) (F.args_str_join_2 _ _) ?_))
  rw [join_tree_other]
  refine wpAny_bind (wpAny_typeOf (T := "tuple") ⟨_, hD, rfl⟩ ?_)
  rw [if_pos (by decide)]
  refine wpAny_bind (wpAny_seqItems hD rfl ?_)
  unfold JoinOk at hok
  rw [Bool.not_eq_true'] at hok
  have g : Gives (joinTail x (strValues l)) (joinMade x l) := by
    have g0 := gives_joinTail x l hok
    cases l with
    | nil => exact g0
    | cons p r => cases r with
      | nil => exact g0
      | cons q r' => exact g0
  exact g prog w A (wants Q E) s (post_join l ⟨joinFit_length hok, hq⟩)
end

section
variable {w : World} {mean : ExcName → Option Value} {mg mb : Str → Option Value} {A : Around} {E : Value → Shared → Prop} {s s₂ : Shared} {T : Addr} {ps : Array Value}
theorem gname_G {env : Env} {x : Str} {p : Pos} {v : Value} {Q : Value → Shared → Prop} (X : (kk.heap_1 w.params).In s.heap) (Tp : Top hd.view_39 LO mean mg mb s.heap) (htab : s.heap.get? T = some (tabO ps)) (k : ∀ b o, b ≠ T → s.heap.get? b = some o → s₂.heap.get? b = some o)
    (eg : env.globals = mainGlobals) (e : nsIn (kk.heap_1 w.params) mainGlobals x = some (some v)) (h : Q v s₂)
    (hk : env.scope.kind = .function) (hx : env.kindOf x = some .globalImplicit) (hd : (x == ("__debug__" : Str)) = false) :
    wpAny (model PG w) A (eval (.Name x p) env) Q E s₂ := by
  refine Name_function_global hk hx (loadGlobal_global (env := env) ?_ (mg_of X Tp.g e) h) hd
  rw [eg]; exact nsT2 htab k Tp.g
theorem empty_glob (P : Params) : ∃ t, nsIn (kk.heap_1 P) mainGlobals "EMPTYSTRING" = some (some (.str "" t)) := ⟨_, by with_unfolding_all rfl⟩
theorem str_elt {env : Env} {p1 p2 p3 p4 p5 p6 : Pos} {kt : Nat} {x1 x2 : Str} {t1 t2 : Tok} {m₂ : Str → Option Value} (X : (kk.heap_1 w.params).In s.heap) (Tp : Top hd.view_39 LO mean mg mb s.heap) (htab : s.heap.get? T = some (tabO ps)) (k : ∀ b o, b ≠ T → s.heap.get? b = some o → s₂.heap.get? b = some o)
    (eg : env.globals = mainGlobals) (hk : env.scope.kind = .function) (hx : env.kindOf "EMPTYSTRING" = some .globalImplicit) (hy1 : env.kindOf "fws" = some .local) (hy2 : env.kindOf "part" = some .local) (hn2 : s₂.heap.Ns env.locals m₂) (hm1 : m₂ "fws" = some (.str x1 t1)) (hm2 : m₂ "part" = some (.str x2 t2))
    (hl1 : x1.length ≤ 1000) (hl2 : x2.length ≤ 1000)
    (he : eval (.Call (.Attribute (.Name "EMPTYSTRING" p1) "join" p2) [.Tuple [.Name "fws" p3, .Name "part" p4] kt p5] [] p6) env = (do
        let ov ← eval (.Name "EMPTYSTRING" p1) env
        standAt p2.atName
        let (f, first) ← holding [ov] (getMethod ov "join" (do let i ← importBound (.Name "EMPTYSTRING" p1) env; pure (i.getD true)))
        callWith p6 f first (backTo p6 (starEach [.Tuple [.Name "fws" p3, .Name "part" p4] kt p5] env)) []) := by rfl) :
    wpAny (model PG w) A (eval (.Call (.Attribute (.Name "EMPTYSTRING" p1) "join" p2) [.Tuple [.Name "fws" p3, .Name "part" p4] kt p5] [] p6) env) (fun y s₃ => (∃ t, y = .str (x1 ++ x2) t) ∧ Keeps s₂ s₃) E s₂ := by
  obtain ⟨te, ee⟩ := empty_glob w.params
  refine MethodCall_ (gname_G X Tp htab k eg ee ?_ hk hx (by decide)) he
  refine GM.join ?_
  dsimp only
  show wpAny _ _ (callWith p6 (.builtin "str.join") [.str "" te] [(false, eval (.Tuple [.Name "fws" p3, .Name "part" p4] kt p5) env)] []) _ _ _
  refine Calls.callWith_builtin rfl (Calls.evalArgs_plain (Calls.spliced_cons (wpAny_Tuple_spliced ?_)))
  show wpAny _ _ (spliced [(false, eval (.Name "fws" p3) env), (false, eval (.Name "part" p4) env)]) _ _ _
  refine Calls.spliced_cons (wpAny_Name (wpAny_loadName_local hk hy1 hn2 hm1 ?_) (by decide))
  refine Calls.spliced_cons (wpAny_Name (wpAny_loadName_local hk hy2 hn2 hm2 ?_) (by decide))
  refine Calls.spliced_nil ⟨by show 2 ≤ sizeLine; decide, ?_⟩
  refine Calls.spliced_nil ?_
  dsimp only
  refine join_tup (l := [(x1, t1), (x2, t2)]) (Heap.get?_push_size _ rfl) ?_ fun t' k' => ?_
  · exact joinOk_of _ (by show x1.length + (x2.length + 0) ≤ _; omega)
  · refine ⟨⟨t', ?_⟩, _, k', rfl, fun b o e => Heap.get?_push_of_some _ e⟩
    refine congrArg (Value.str · t') ?_
    show glued "" [x1, x2] = _
    rw [StrLaws.glued_eq_join, join_empty, catL, catL, catL, app_nil]
end
theorem filled12 : kk.heap_1 = kk.heap_1 ∧ PySem.Challenge.rw_wu0057_01.name = PySem.Challenge.rw_wu0057_01.name := by
  k_fill
  exact ⟨rfl, rfl⟩
section
local macro_rules | `(tactic| walk_at "eval GeneratorExp") => `(tactic| refine halt ?_)
@[reducible] def StrV : Type := (World) × (ExcName → Option Value) × (Str → Option Value) × (Str → Option Value) × (Nat) × (Nat) × (Array Value) × (Nat) × (Nat → Addr) × (Nat → Tok) × (Nat → Tok) × (Array Value) × (Nat) × (Option (List Env)) × (Option (List Code)) × (Nat) × (Shared) × (Value → Shared → Prop) × (Value → Shared → Prop)
theorem strv0 : Nonempty StrV := ⟨⟨W0, fun _ => none, fun _ => none, fun _ => none, 0, 0, #[], 0, fun _ => (0 : Nat), fun _ => (0 : Nat), fun _ => (0 : Nat), #[], 0, none, none, 0, {}, fun _ _ => True, fun _ _ => True⟩⟩
noncomputable def Sstr_road (w : World) (mean : ExcName → Option Value) (mg : Str → Option Value) (mb : Str → Option Value) (r : Addr) (d : Addr) (items : Array Value) (n : Nat) (Ts : Nat → Addr) (ta : Nat → Tok) (tb : Nat → Tok) (ps : Array Value) (dp : Nat) (fr : Option (List Env)) (gd : Option (List Code)) (un : Nat) (s : Shared) (Q : Value → Shared → Prop) (E : Value → Shared → Prop) : Prop := ∀ (fa : Nat → Str) (fb : Nat → Str) (hA : AOk 5 (Around.mk none dp fr gd un)) (hS : St w mean mg mb (hide [108] s.heap)) (hr : s.heap.get? r = some (roadObj d items n)) (hit : ∀ j, j < items.size → items[j]? = some (.ref (Ts j))) (htup : ∀ j, j < items.size → s.heap.IsTuple (Ts j) #[.str (fa j) (ta j), .str (fb j) (tb j)]) (htab : s.heap.get? 108 = some (tabO ps)) (htri : TriplesOk ps.toList) (hsz : items.size ≤ 1000) (hlen : ∀ j, j < items.size → (fa j).length ≤ 1000 ∧ (fb j).length ≤ 1000) (hret : ∀ s' t', (∀ b o, b ≠ 108 → s.heap.get? b = some o → s'.heap.get? b = some o) → (∃ ps', s'.heap.get? 108 = some (tabO ps') ∧ TriplesOk ps'.toList) → s'.os = s.os → s'.drawn = s.drawn → (AllBare s.gens → AllBare s'.gens) → Q (.str (catL ((List.range items.size).map fun j => fa j ++ fb j)) t') s'),
    wpAny (model PG w) (Around.mk none dp fr gd un) (call (.ref 113) [.ref r]) Q E s
noncomputable def cstr_road : StrV := @Classical.epsilon StrV strv0 fun x => ¬ Sstr_road x.1 x.2.1 x.2.2.1 x.2.2.2.1 x.2.2.2.2.1 x.2.2.2.2.2.1 x.2.2.2.2.2.2.1 x.2.2.2.2.2.2.2.1 x.2.2.2.2.2.2.2.2.1 x.2.2.2.2.2.2.2.2.2.1 x.2.2.2.2.2.2.2.2.2.2.1 x.2.2.2.2.2.2.2.2.2.2.2.1 x.2.2.2.2.2.2.2.2.2.2.2.2.1 x.2.2.2.2.2.2.2.2.2.2.2.2.2.1 x.2.2.2.2.2.2.2.2.2.2.2.2.2.2.1 x.2.2.2.2.2.2.2.2.2.2.2.2.2.2.2.1 x.2.2.2.2.2.2.2.2.2.2.2.2.2.2.2.2.1 x.2.2.2.2.2.2.2.2.2.2.2.2.2.2.2.2.2.1 x.2.2.2.2.2.2.2.2.2.2.2.2.2.2.2.2.2.2
namespace Kstr_road
@[irreducible] noncomputable def w : World := cstr_road.1
@[irreducible] noncomputable def mean : ExcName → Option Value := cstr_road.2.1
@[irreducible] noncomputable def mg : Str → Option Value := cstr_road.2.2.1
@[irreducible] noncomputable def mb : Str → Option Value := cstr_road.2.2.2.1
@[irreducible] noncomputable def r : Addr := cstr_road.2.2.2.2.1
@[irreducible] noncomputable def d : Addr := cstr_road.2.2.2.2.2.1
@[irreducible] noncomputable def items : Array Value := cstr_road.2.2.2.2.2.2.1
@[irreducible] noncomputable def n : Nat := cstr_road.2.2.2.2.2.2.2.1
@[irreducible] noncomputable def Ts : Nat → Addr := cstr_road.2.2.2.2.2.2.2.2.1
@[irreducible] noncomputable def ta : Nat → Tok := cstr_road.2.2.2.2.2.2.2.2.2.1
@[irreducible] noncomputable def tb : Nat → Tok := cstr_road.2.2.2.2.2.2.2.2.2.2.1
@[irreducible] noncomputable def ps : Array Value := cstr_road.2.2.2.2.2.2.2.2.2.2.2.1
@[irreducible] noncomputable def dp : Nat := cstr_road.2.2.2.2.2.2.2.2.2.2.2.2.1
@[irreducible] noncomputable def fr : Option (List Env) := cstr_road.2.2.2.2.2.2.2.2.2.2.2.2.2.1
@[irreducible] noncomputable def gd : Option (List Code) := cstr_road.2.2.2.2.2.2.2.2.2.2.2.2.2.2.1
@[irreducible] noncomputable def un : Nat := cstr_road.2.2.2.2.2.2.2.2.2.2.2.2.2.2.2.1
@[irreducible] noncomputable def s : Shared := cstr_road.2.2.2.2.2.2.2.2.2.2.2.2.2.2.2.2.1
@[irreducible] noncomputable def Q : Value → Shared → Prop := cstr_road.2.2.2.2.2.2.2.2.2.2.2.2.2.2.2.2.2.1
@[irreducible] noncomputable def E : Value → Shared → Prop := cstr_road.2.2.2.2.2.2.2.2.2.2.2.2.2.2.2.2.2.2
theorem holds : Sstr_road w mean mg mb r d items n Ts ta tb ps dp fr gd un s Q E := by
  intro fa fb hA hS hr hit htup htab htri hsz hlen hret
  have X := hS.X
  have T := hS.T
  have hS' : St w mean mg mb s.heap := hS.keeps (hide_keep _ _)
  refine wpAny_call ?_
  refine' enterB (g := hide [108] s.heap) (St.X hS') (hide_keep _ _) (Nat.le_of_eq (hide_size _ _)) (Top.nolimit (St.T hS')) (AOk.room hA) ?kho ?khcd ?khb ?khl ?kbody ?khco ?khgen ?khk ?khcell
  (case kho => k_is)
  (case khcd => k_is)
  (case khb => exact BindsTo.of_eq rfl)
  (case khl => exact locs rfl)
  (case khco => rfl)
  (case khgen => rfl)
  (case khk => rfl)
  (case khcell => decide)
  intro h₁ F K1
  have N : News (hide [108] s.heap) s.heap.objs.size h₁ [(108, tabO ps)] := by
    intro p hp
    obtain rfl := List.mem_singleton.mp hp
    exact ⟨K1 _ _ htab, Nat.ne_of_lt (Heap.lt_size htab), by rw [hide_get]; simp⟩
  (try dsimp only)
  k_steps
  refine unhalt ?_
  have hr1 := K1 _ _ hr
  have htab1 := K1 _ _ htab
  have hS1 := hS'.keeps K1
  refine gen_road (vals := fun j => #[.str (fa j) (ta j), .str (fb j) (tb j)]) (Fv := fun j y => ∃ t, y = .str (fa j ++ fb j) t) (code112 w.params) (by decide) hS1.X hS1.T rfl (AOk.room (AOk.deeper hA)) F.ns rfl rfl (by with_unfolding_all rfl) hr1 hit (fun j hj => (htup j hj).at fun o e => K1 _ _ e) (fun j hj => ⟨_, _, rfl⟩) htab1 htri
    rfl rfl (by decide) rfl rfl rfl (by decide) rfl ?helt ?hq ?hs
  case hs => exact fun x => rfl
  case helt =>
    intro C code A' E' i va vb s₂ m₂ hA' hi hv hn2 ha hb hC hk
    obtain ⟨rfl, rfl⟩ : va = .str (fa i) (ta i) ∧ vb = .str (fb i) (tb i) := by simpa [eq_comm] using congrArg Array.toList hv
    exact str_elt hS1.X hS1.T htab1 hk rfl rfl rfl rfl rfl hn2 ha hb (hlen i hi).1 (hlen i hi).2
  case hq =>
    intro a I C s₅ ps' hI hIC hCa hsz5 k5 htab5 htri5 hos hdr hgn W hat
    clear N
    have F5 : Fr (hide [108] s.heap) s.heap.objs.size s₅.heap _ := ⟨nsT2 htab1 k5 F.ns, fun b o e => k5 b o (by rintro rfl; rw [hide_get] at e; simp at e) (F.keep b o e), Nat.le_of_eq (hide_size _ _)⟩
    clear F
    obtain ⟨h5, g5, d5, t5, os5⟩ := s₅
    have N : News (hide [108] s.heap) s.heap.objs.size h5 [(108, tabO ps')] := by
      intro p hp
      obtain rfl := List.mem_singleton.mp hp
      exact ⟨htab5, Nat.ne_of_lt (Heap.lt_size htab), by rw [hide_get]; simp⟩
    (try dsimp only)
    k_steps
    have hWb : ∀ b o, s.heap.get? b = some o → b ∉ [C, I] := by
      intro b o e hmem
      have hlt1 : b < h₁.objs.size := Heap.lt_size (K1 _ _ e)
      rcases List.mem_cons.mp hmem with q | hmem
      · exact Nat.lt_irrefl _ (q ▸ (Nat.lt_of_lt_of_le hlt1 (Nat.le_of_lt (Nat.lt_of_le_of_lt hI hIC))))
      · rcases List.mem_cons.mp hmem with q | hmem
        · exact Nat.lt_irrefl _ (q ▸ (Nat.lt_of_lt_of_le hlt1 hI))
        · cases hmem
    refine SC.joinGen W.of_in1.of_in1 (fun i s st => st.1.typeIs) ⟨hat.1, hat.2.1, hat.2.2⟩ ?_ (List.mem_cons_self ..) ?_ ?_ (by rw [sizeLine_eq]; omega)
    · intro b hb
      show b < h5.objs.size
      have hsz' : h5.objs.size = a + 1 := hsz5
      rw [hsz']
      rcases List.mem_cons.mp hb with rfl | hb
      · exact Nat.lt_succ_self _
      · rcases List.mem_cons.mp hb with rfl | hb
        · exact Nat.lt_succ_of_lt hCa
        · exact Nat.lt_succ_of_lt (Nat.lt_trans (List.mem_range.mp hb) hCa)
    · rintro i v ⟨hi, t, rfl⟩
      exact ⟨_, _, rfl⟩
    · intro s' l hm hl
      have el : l.map (·.1) = (List.range items.size).map fun j => fa j ++ fb j := by
        have hls : l.length = items.size := by have := hl.1; simpa [strValues] using this
        apply List.ext_getElem
        · simp [hls]
        · intro j h1 h2
          have hj : j < l.length := by simpa using h1
          obtain ⟨_, t, ht⟩ := hl.2 j (.str l[j].1 l[j].2) (by simp [strValues, hj])
          have e1 := (Value.str.inj ht).1
          simp [e1]
      rw [el]
      have hb : ∀ n, n ≤ items.size → ((((List.range n).map fun j => fa j ++ fb j)).map (·.length)).sum ≤ 2000 * n := by
        intro n
        induction n with
        | zero => intro _; simp
        | succ n ih =>
          intro hn
          have := ih (by omega)
          have h1 := hlen n (by omega)
          rw [List.range_succ]
          simp only [List.map_append, List.map_cons, List.map_nil, List.sum_append, List.sum_cons, List.sum_nil]
          have e2 : (fa n ++ fb n).length = (fa n).length + (fb n).length := by simp [Str.length]; exact Array.size_append
          omega
      refine ⟨joinOk_of _ (by have := hb items.size (Nat.le_refl _); omega), fun t' k => ?_⟩
      have ej : Txt.join "" ((List.range items.size).map fun j => fa j ++ fb j) = catL ((List.range items.size).map fun j => fa j ++ fb j) := by
        show glued "" _ = _
        rw [StrLaws.glued_eq_join, join_empty]
      rw [ej]
      exact hret { s' with toks := k } t' (fun b o hb e => hm.heap b o (hWb b o e) (k5 b o hb (K1 _ _ e))) ⟨ps', hm.heap 108 _ (hWb _ _ htab) htab5, htri5⟩ (hm.os.trans hos) (hm.drawn.trans hdr) (fun x => AllBare.moved (hgn x) hm.gens)
end Kstr_road
theorem str_road (w : World) (mean : ExcName → Option Value) (mg mb : Str → Option Value) (r d : Addr) (items : Array Value) (n : Nat) (Ts : Nat → Addr) (fa fb : Nat → Str) (ta tb : Nat → Tok) (ps : Array Value)
    (A : Around) (s : Shared) (Q E : Value → Shared → Prop) (hA : AOk 5 A) (hS : St w mean mg mb (hide [108] s.heap)) (hr : s.heap.get? r = some (roadObj d items n))
    (hit : ∀ j, j < items.size → items[j]? = some (.ref (Ts j))) (htup : ∀ j, j < items.size → s.heap.IsTuple (Ts j) #[.str (fa j) (ta j), .str (fb j) (tb j)])
    (htab : s.heap.get? 108 = some (tabO ps)) (htri : TriplesOk ps.toList)
    (hsz : items.size ≤ 1000) (hlen : ∀ j, j < items.size → (fa j).length ≤ 1000 ∧ (fb j).length ≤ 1000)
    (hret : ∀ s' t', (∀ b o, b ≠ 108 → s.heap.get? b = some o → s'.heap.get? b = some o) → (∃ ps', s'.heap.get? 108 = some (tabO ps') ∧ TriplesOk ps'.toList) → s'.os = s.os → s'.drawn = s.drawn → (AllBare s.gens → AllBare s'.gens) → Q (.str (catL ((List.range items.size).map fun j => fa j ++ fb j)) t') s') :
    wpAny (model PG w) A (call (.ref 113) [.ref r]) Q E s := by
  obtain ⟨hd0, dp, fr, gd, un⟩ := A
  obtain rfl : hd0 = none := hA.hd
  exact skolem strv0 (fun x => Sstr_road x.1 x.2.1 x.2.2.1 x.2.2.2.1 x.2.2.2.2.1 x.2.2.2.2.2.1 x.2.2.2.2.2.2.1 x.2.2.2.2.2.2.2.1 x.2.2.2.2.2.2.2.2.1 x.2.2.2.2.2.2.2.2.2.1 x.2.2.2.2.2.2.2.2.2.2.1 x.2.2.2.2.2.2.2.2.2.2.2.1 x.2.2.2.2.2.2.2.2.2.2.2.2.1 x.2.2.2.2.2.2.2.2.2.2.2.2.2.1 x.2.2.2.2.2.2.2.2.2.2.2.2.2.2.1 x.2.2.2.2.2.2.2.2.2.2.2.2.2.2.2.1 x.2.2.2.2.2.2.2.2.2.2.2.2.2.2.2.2.1 x.2.2.2.2.2.2.2.2.2.2.2.2.2.2.2.2.2.1 x.2.2.2.2.2.2.2.2.2.2.2.2.2.2.2.2.2.2) (by with_unfolding_all exact Kstr_road.holds) ⟨w, mean, mg, mb, r, d, items, n, Ts, ta, tb, ps, dp, fr, gd, un, s, Q, E⟩ fa fb hA hS hr hit htup htab htri hsz hlen hret
end
end
end Mine
end OfA12
section OfA16b
open PySem PySem.W PySem.Calls PyProof.Rows Builtin Builtin.Bytes
set_option Elab.async false
set_option maxRecDepth 100000
set_option maxHeartbeats 1000000
set_option pp.maxSteps 1500
namespace Mine
noncomputable section
theorem slot_bjoin : Slot "bytes" "join" "bytes.join" := .of (owner := "bytes") (n := "join") (by rw [typeLookup_type, builtinLookup_eq_fast]; kernel_rfl) (by decide +kernel) (by decide +kernel) (by decide +kernel)
  (by first | exact .inl (by decide +kernel) | exact .inr (by decide +kernel)) (by rw [isSubtype_type]; kernel_rfl)
theorem entry_bjoin : entryFor table "bytes.join" = some Builtin.«bytes.join» := entryFor_of_tree (by kernel_rfl)
theorem args_bjoin (a b : Value) : argsOk "bytes.join" ⟨[a, b], []⟩ := by unfold argsOk; kernel_rfl
theorem bjoin {w : World} {A : Around} {E : Value → Shared → Prop} {s : Shared} {Q : Value → Shared → Prop} {S : Nat} {b : UInt8} {t1 ta tj : Tok} (hS : s.heap.get? S = some { cls := .type "list", data := .seq #[.bytes #[b] t1, .bytes #[] ta] 2 })
    (hQ : ∀ t' tk', Q (.bytes #[b] t') { s with toks := tk' }) : wpAny (model PG w) A (call (.builtin "bytes.join") [.bytes #[] tj, .ref S]) Q E s := by
  obtain ⟨h, g, dd, t, os⟩ := s
  refine wpAny_call (codeAny_call_builtin slot_bjoin.plain entry_bjoin (slot_bjoin.check _ _ _ _ _ _ _ _ (typeIs_bytes _ _ _) (args_bjoin _ _) ?_))
  unfold Builtin.«bytes.join» joinM
  refine wpAny_bind (wpAny_of_eq (a := (.bytes #[] tj, .ref S)) (by with_unfolding_all rfl) ?_)
  dsimp only
  rw [if_pos (by rfl)]
  repeat (first | (with_reducible refine wpAny_seqItems hS rfl ?_) | (fail_if_success (simp only [Std.Legacy.Range.forIn'_eq_forIn'_range', Std.Legacy.Range.forIn_eq_forIn_range'])); lk)
  rw [Std.Legacy.Range.forIn_eq_forIn_range']
  have er : List.range' [:#[Value.bytes #[b] t1, Value.bytes #[] ta].size].start [:#[Value.bytes #[b] t1, Value.bytes #[] ta].size].size [:#[Value.bytes #[b] t1, Value.bytes #[] ta].size].step = [0, 1] := by simp [Std.Legacy.Range.size, List.range']
  rw [er]
  simp only [List.forIn_cons, List.forIn_nil]
  repeat lk
  refine wpAny_of_eq (a := .ok (some (#[b], none))) (by with_unfolding_all rfl) ?_
  repeat (first | (with_reducible refine wpAny_seqItems hS rfl ?_) | lk)
  refine wpAny_of_eq (a := .ok (some (#[], none))) (by with_unfolding_all rfl) ?_
  repeat (first | (with_reducible refine wpAny_seqItems hS rfl ?_) | lk)
  have ej : joined #[] ((#[].push #[b]).push #[]).toList = #[b] := by with_unfolding_all rfl
  rw [ej]
  exact hQ _ _
end
end Mine
end OfA16b
section OfA16c
open PySem PySem.W PySem.Calls PyProof.Rows Builtin Builtin.Bytes
set_option Elab.async false
set_option maxRecDepth 100000
set_option maxHeartbeats 1000000
set_option pp.maxSteps 1500
namespace Mine
noncomputable section
theorem gm_count {w : World} {h : Heap} (d : Array UInt8) (t : Tok) (pl : Sem Bool) : Looks (model PG w) h (getMethod (.bytes d t) "count" pl) (.builtin "bytes.count", [.bytes d t]) := Looks.of_peek (K := []) (fun _ _ e => by cases e) (by with_unfolding_all rfl)
theorem slot_bcount : Slot "bytes" "count" "bytes.count" := .of (owner := "bytes") (n := "count") (by rw [typeLookup_type, builtinLookup_eq_fast]; kernel_rfl) (by decide +kernel) (by decide +kernel) (by decide +kernel)
  (by first | exact .inl (by decide +kernel) | exact .inr (by decide +kernel)) (by rw [isSubtype_type]; kernel_rfl)
theorem entry_bcount : entryFor table "bytes.count" = some Builtin.«bytes.count» := entryFor_of_tree (by kernel_rfl)
theorem args_bcount (a b : Value) : argsOk "bytes.count" ⟨[a, b], []⟩ := by unfold argsOk; kernel_rfl
theorem bcount {w : World} {A : Around} {E : Value → Shared → Prop} {s : Shared} {Q : Value → Shared → Prop} {x y : UInt8} {t1 t2 : Tok} (hx : x = 40 ∨ x = 41) (hy : y = 40 ∨ y = 41)
    (hQ : ∀ t' tk', Q (.int (if x = y then 1 else 0) t') { s with toks := tk' }) : wpAny (model PG w) A (call (.builtin "bytes.count") [.bytes #[x] t1, .bytes #[y] t2]) Q E s := by
  obtain ⟨h, g, dd, t, os⟩ := s
  refine wpAny_call (codeAny_call_builtin slot_bcount.plain entry_bcount (slot_bcount.check _ _ _ _ _ _ _ _ (typeIs_bytes _ _ _) (args_bcount _ _) ?_))
  have e : ((occurrences #[x] #[y] (window (#[x] : Array UInt8).size none none).fst.toNat (window (#[x] : Array UInt8).size none none).snd.toNat).length : Int) = if x = y then 1 else 0 := by
    rcases hx with rfl | rfl <;> rcases hy with rfl | rfl <;> decide +kernel
  unfold Builtin.«bytes.count»
  repeat lk
  refine wpAny_of_eq (a := true) (by with_unfolding_all rfl) ?_
  repeat lk
  rw [e]; exact hQ _ _
end
end Mine
end OfA16c
section OfP1
open PySem PySem.W Builtin Builtin.Str PySem.StrLaws
namespace Mine
noncomputable def rep (c : Nat) (z l : List Nat) : List Nat := l.flatMap fun a => if a = c then z else [a]
theorem sub1 (l : List Nat) (c i : Nat) (hi : i < l.length) : subAt ⟨l.toArray⟩ ⟨#[c]⟩ i = decide (l[i] = c) := by
  show (l.toArray.extract i (i + 1) == #[c]) = _
  have e : l.toArray.extract i (i + 1) = #[l[i]] := by
    rw [← Array.toList_inj]
    simp only [Array.toList_extract, List.extract_eq_take_drop, Nat.add_sub_cancel_left]
    rw [List.take_one, List.head?_drop, List.getElem?_eq_getElem hi]
    rfl
  rw [e]
  rw [Bool.eq_iff_iff, beq_iff_eq, decide_eq_true_eq]
  constructor
  · intro h; injection h with h; injection h
  · intro h; rw [h]
theorem occ1_loop (l : List Nat) (c n : Nat) : ∀ (k i : Nat) (found : Array Nat) (free : Nat), i + k = l.length → free ≤ i → found.size + k ≤ n →
    (forIn (List.range' i (k + 1)) (found, free) (occBody ⟨l.toArray⟩ ⟨#[c]⟩ l.length (n + 1))).run.fst.toList = found.toList ++ (List.range' i k).filter (fun j => l[j]? == some c)
  | 0, i, found, free, hk, hf, hn => by
    rw [List.range'_succ, List.forIn_cons]
    unfold occBody
    rw [if_neg (by
      rintro ⟨⟨_, h⟩, _⟩
      have : (⟨#[c]⟩ : PySem.Str).length = 1 := rfl
      omega)]
    simp [List.range']
  | k + 1, i, found, free, hk, hf, hn => by
    rw [List.range'_succ, List.forIn_cons]
    have hi : i < l.length := by omega
    have s1 : (⟨#[c]⟩ : PySem.Str).length = 1 := rfl
    have hle : i + (⟨#[c]⟩ : PySem.Str).length ≤ l.length := by omega
    conv => rhs; rw [List.range'_succ, List.filter_cons]
    by_cases hc : l[i]'hi = c
    · rw [if_pos (by rw [List.getElem?_eq_getElem hi]; exact beq_iff_eq.mpr (congrArg some hc))]
      conv in occBody _ _ _ _ i _ => unfold occBody
      rw [if_pos ⟨⟨⟨by simp; omega, hf⟩, hle⟩, by rw [sub1 l c i hi]; exact decide_eq_true hc⟩]
      show (forIn (List.range' (i + 1) (k + 1)) (found.push i, i + 1) _ : Id _).run.fst.toList = _
      rw [occ1_loop l c n k (i + 1) (found.push i) (i + 1) (by omega) (by omega) (by simp; omega)]
      simp
    · rw [if_neg (by rw [List.getElem?_eq_getElem hi]; intro h; exact hc (Option.some.inj (beq_iff_eq.mp h)))]
      conv in occBody _ _ _ _ i _ => unfold occBody
      rw [if_neg (by rw [sub1 l c i hi]; intro h; exact hc (of_decide_eq_true h.2))]
      show (forIn (List.range' (i + 1) (k + 1)) (found, free) _ : Id _).run.fst.toList = _
      rw [occ1_loop l c n k (i + 1) found free (by omega) (by omega) (by omega)]
theorem occ1 (l : List Nat) (c : Nat) : occurrences ⟨l.toArray⟩ ⟨#[c]⟩ 0 l.length (l.length + 1) = (List.range' 0 l.length).filter (fun j => l[j]? == some c) := by
  rw [occ_eq]
  have := occ1_loop l c l.length l.length 0 #[] 0 (by omega) (Nat.le_refl 0) (by simp)
  simpa using this
noncomputable def gl (z : PySem.Str) : List PySem.Str → List Nat
  | [] => []
  | [x] => x.cps.toList
  | x :: y :: r => x.cps.toList ++ z.cps.toList ++ gl z (y :: r)
theorem gl_eq (z : PySem.Str) : ∀ r, (PySem.Str.join z r).cps.toList = gl z r
  | [] => rfl
  | [x] => rfl
  | x :: y :: r => by
    rw [gl, ← gl_eq z (y :: r)]
    show (x.cps ++ z.cps ++ (PySem.Str.join z (y :: r)).cps).toList = _
    simp
theorem glue1 (l z : List Nat) (c : Nat) : ∀ (k s i : Nat), i + k = l.length → s ≤ i →
    gl ⟨z.toArray⟩ (((s :: ((List.range' i k).filter (fun j => l[j]? == some c)).map (· + 1)).zip ((List.range' i k).filter (fun j => l[j]? == some c) ++ [l.length])).map fun (i, j) => strSub ⟨l.toArray⟩ i j) = (l.drop s).take (i - s) ++ rep c z (l.drop i)
  | 0, s, i, hk, hs => by
    have hi : i = l.length := by omega
    subst hi
    simp [gl, strSub, rep, List.range', List.extract_eq_take_drop]
  | k + 1, s, i, hk, hs => by
    have hi : i < l.length := by omega
    rw [List.range'_succ, List.filter_cons]
    have hd : l.drop i = l[i] :: l.drop (i + 1) := List.drop_eq_getElem_cons hi
    by_cases hc : l[i]'hi = c
    · rw [if_pos (by rw [List.getElem?_eq_getElem hi]; exact beq_iff_eq.mpr (congrArg some hc))]
      have ih := glue1 l z c k (i + 1) (i + 1) (by omega) (Nat.le_refl _)
      simp only [List.map_cons, List.cons_append, List.zip_cons_cons]
      generalize hF : (List.range' (i + 1) k).filter (fun j => l[j]? == some c) = F at ih ⊢
      have e : ∃ y r, (((i + 1) :: F.map (· + 1)).zip (F ++ [l.length])).map (fun (i, j) => strSub ⟨l.toArray⟩ i j) = y :: r := by
        cases F with
        | nil => exact ⟨_, _, rfl⟩
        | cons a F => exact ⟨_, _, rfl⟩
      obtain ⟨y, r, e⟩ := e
      simp only [List.map_cons] at e ih ⊢
      rw [e] at ih ⊢
      rw [gl, ih]
      rw [hd]
      simp only [rep, List.flatMap_cons, hc, if_true]
      simp [strSub, List.extract_eq_take_drop]
    · rw [if_neg (by rw [List.getElem?_eq_getElem hi]; intro h; exact hc (Option.some.inj (beq_iff_eq.mp h)))]
      rw [glue1 l z c k s (i + 1) (by omega) (by omega)]
      rw [hd]
      simp only [rep, List.flatMap_cons, hc, if_false]
      have : i + 1 - s = (i - s) + 1 := by omega
      rw [this, List.take_add_one, List.getElem?_drop]
      have : s + (i - s) = i := by omega
      rw [this, List.getElem?_eq_getElem hi]
      simp
theorem replace1 (l z : List Nat) (c : Nat) : Txt.replace ⟨l.toArray⟩ ⟨#[c]⟩ ⟨z.toArray⟩ = ⟨(rep c z l).toArray⟩ := by
  have ho := occ1 l c
  have hn : (⟨l.toArray⟩ : PySem.Str).length = l.length := rfl
  have h1 : (⟨#[c]⟩ : PySem.Str).length = 1 := rfl
  have g := glue1 l z c l.length 0 0 (by omega) (Nat.le_refl _)
  unfold Txt.replace
  rw [hn, ho, h1]
  split
  · rename_i h
    have hF : (List.range' 0 l.length).filter (fun j => l[j]? == some c) = [] := by
      simpa using h
    rw [hF] at g
    simp [gl, strSub, List.extract_eq_take_drop] at g
    rw [← g]
  · rw [glued_eq_join]
    have := gl_eq ⟨z.toArray⟩ (partsBetween ⟨l.toArray⟩ ((List.range' 0 l.length).filter (fun j => l[j]? == some c)) 1)
    unfold partsBetween at this ⊢
    dsimp only at this ⊢
    rw [hn] at this ⊢
    rw [g] at this
    simp at this
    generalize PySem.Str.join _ _ = J at this ⊢
    obtain ⟨⟨J⟩⟩ := J
    simp at this
    rw [this]
end Mine
end OfP1
section OfP2
open PySem PySem.W PySem.Calls PyProof.Rows Builtin Builtin.Str Builtin._codecs
set_option Elab.async false
set_option maxRecDepth 100000
namespace Mine
noncomputable section
noncomputable def u8 (l : List Nat) : Array UInt8 := (l.map Nat.toUInt8).toArray
theorem enc_fold (l : List Nat) (acc : Array UInt8) : l.toArray.foldl (fun acc y => acc ++ (asciiCodec.bytesOf y).toArray) acc = acc ++ u8 l := by
  induction l generalizing acc with
  | nil => simp [u8]
  | cons a l ih =>
    have e : ∀ l : List Nat, ∀ acc : Array UInt8, l.toArray.foldl (fun acc y => acc ++ (asciiCodec.bytesOf y).toArray) acc = l.foldl (fun acc y => acc ++ (asciiCodec.bytesOf y).toArray) acc := fun l acc => List.foldl_toArray ..
    rw [e, List.foldl_cons, ← e, ih]
    simp [u8, asciiCodec]
theorem run_two {β γ : Type} {F : Nat → β → Sem (ForInStep β)} {b b1 : β} {n : Nat} {g : β → Sem γ} (h0 : F 0 b = pure (ForInStep.yield b1)) (h1 : ∀ i, F i b1 = pure (ForInStep.done b1)) : (forIn [:n + 1] b F >>= g) = g b1 := by
  rw [Std.Legacy.Range.forIn_eq_forIn_range']
  show (forIn (List.range' 0 ((n + 1 - 0 + 1 - 1) / 1) 1) b F >>= g) = g b1
  rw [Nat.sub_zero, Nat.add_sub_cancel, Nat.div_one, List.range'_succ, List.forIn_cons, h0]
  cases n with
  | zero => rfl
  | succ n => show (forIn (List.range' (0 + 1) (n + 1) 1) b1 F >>= g) = g b1; rw [List.range'_succ, List.forIn_cons, h1]; rfl
theorem narrow (id : String) (self : Value) (l : List Nat) (h : ∀ c ∈ l, c < 128) (hl : l.length ≤ sizeLine) :
    encodeNarrow id asciiCodec none self ⟨l.toArray⟩ = pure (u8 l) := by
  have hbad : l.toArray.findIdx? asciiCodec.bad = none := by
    rw [Array.findIdx?_eq_none_iff]
    intro x hx
    have := h x (by simpa using hx)
    show decide (x ≥ 128) = false
    simp; omega
  match l, h, hl, hbad with
  | [], _, _, _ => kernel_rfl
  | a :: l, h, hl, hbad =>
    have ha : a < 128 := h a (List.mem_cons_self ..)
    have hb : asciiCodec.bad a = false := by show decide (a ≥ 128) = false; simp; omega
    have hfold := enc_fold (a :: l) #[]
    have e1 : ((a :: l).toArray.extract 0 (a :: l).toArray.size) = (a :: l).toArray := by simp
    have e2 : #[] ++ u8 (a :: l) = u8 (a :: l) := by simp
    have hsz : (u8 (a :: l)).size = l.length + 1 := by simp [u8]
    have hgt : ¬ (u8 (a :: l)).size > sizeLine := by rw [hsz]; exact Nat.not_lt.mpr hl
    have hno : (a :: l)[(a :: l).toArray.size]? = none := by simp
    unfold encodeNarrow
    refine run_two (n := l.length) (b1 := ((a :: l).toArray.size, u8 (a :: l), ({} : Faults))) ?_ fun i => ?_
    · simp only [Array.size_empty, List.getElem?_toArray, List.getElem?_cons_zero, hb, Bool.not_false, if_true, e1, hbad, Option.getD_none, Nat.not_lt_zero, if_false, Nat.zero_add, hfold, e2]
    · dsimp only
      rw [if_neg hgt, List.getElem?_toArray, hno]
theorem encode_ascii (l : List Nat) (t t2 : Tok) (h : ∀ c ∈ l, c < 128) (hl : l.length ≤ sizeLine) :
    «str.encode» ⟨[.str ⟨l.toArray⟩ t, .str (PySem.Str.ofString "ascii") t2], []⟩ = (do ret (← mkBytes (u8 l))) := by
  have e0 : «str.encode» ⟨[.str ⟨l.toArray⟩ t, .str (PySem.Str.ofString "ascii") t2], []⟩ = (do ret (← encodeRoad "str.encode" (.str ⟨l.toArray⟩ t) ⟨l.toArray⟩ (PySem.Str.ofString "ascii") none) : Sem Fin) := by kernel_rfl
  rw [e0]
  have e : encodeRoad "str.encode" (.str ⟨l.toArray⟩ t) ⟨l.toArray⟩ (PySem.Str.ofString "ascii") none = (do mkBytes (← encodeNarrow "str.encode" asciiCodec none (.str ⟨l.toArray⟩ t) ⟨l.toArray⟩)) := by
    kernel_rfl
  rw [e, narrow _ _ l h hl] 
  rfl
theorem sencode {w : World} {prog : Program} {A : Around} {E : Value → Shared → Prop} {s : Shared} {Q : Value → Shared → Prop} {l : List Nat} {t1 t2 : Tok} (h : ∀ c ∈ l, c < 128) (hl : l.length ≤ sizeLine)
    (hQ : ∀ t' tk', Q (.bytes (u8 l) t') { s with toks := tk' }) : wpAny (model prog w) A (call (.builtin "str.encode") [.str ⟨l.toArray⟩ t1, .str (PySem.Str.ofString "ascii") t2]) Q E s := by
  refine wpAny_call (codeAny_call_builtin F.slot_str_encode.plain F.entry_str_encode (F.slot_str_encode.check _ _ _ _ _ _ _ _ (typeIs_str _ _ _) (F.args_str_encode_2 _ _) ?_))
  rw [encode_ascii l t1 t2 h hl]
  exact wpAny_bind (wpAny_mkBytes (wpAny_pure (hQ _ _)) (by simpa [u8] using hl))
end
end Mine
end OfP2
section OfA17
open PySem PySem.W PySem.Calls PyProof.Rows Builtin Builtin.Re
set_option Elab.async false
set_option maxRecDepth 100000
set_option maxHeartbeats 8000000
set_option pp.maxSteps 1500
namespace Mine
noncomputable section
theorem filled17 : kk.heap_1 = kk.heap_1 ∧ PySem.Challenge.rw_wu0057_01.name = PySem.Challenge.rw_wu0057_01.name := by
  k_fill
  exact ⟨rfl, rfl⟩

theorem pat_sub {w : World} {h : Heap} (X : (kk.heap_1 w.params).In h) (pl : Sem Bool) : Looks (model PG w) h (getMethod (.ref 179) "sub" pl) (.builtin "re.Pattern.sub", [.ref 179]) := Looks.of_peek X (by with_unfolding_all rfl)
theorem pat_obj (P : Params) : ∃ od fs sl a tk1 tk2 tk3, (kk.heap_1 P).lookup 179 = some ⟨.type "re.Pattern", od, .fields fs, sl⟩ ∧ fs.getD 5 .none = .ref a ∧ fs.getD 6 .none = .int 1 tk1 ∧ fs.getD 2 .none = .int 0 tk2 ∧ tk3 = tk1 ∧ ∃ oc oo vs n s2, (kk.heap_1 P).lookup a = some ⟨oc, oo, .seq vs n, s2⟩ ∧ (vs.map reRawOf).map (·.toNat) = qcode :=
  ⟨_, _, _, _, _, _, _, by with_unfolding_all rfl, rfl, rfl, rfl, rfl, _, _, _, _, _, by with_unfolding_all rfl, by with_unfolding_all rfl⟩
theorem pat_inst {w : World} {h : Heap} (X : (kk.heap_1 w.params).In h) : Looks (model PG w) h (isInstance (.ref 179) (.type "re.Pattern")) true := Looks.of_peek X (by with_unfolding_all rfl)
theorem entry_resub : entryFor table "re.Pattern.sub" = some Builtin.«re.Pattern.sub» := entryFor_of_tree (by kernel_rfl)
theorem entry_reloop : entryFor table "re.Pattern.sub.loop" = some Builtin.«re.Pattern.sub.loop» := entryFor_of_tree (by kernel_rfl)
theorem plain_resub : plainId "re.Pattern.sub" = true := by decide +kernel
theorem plain_reloop : plainId "re.Pattern.sub.loop" = true := by decide +kernel
theorem kind_resub : builtinKind "re.Pattern.sub" = some .method := by decide +kernel
theorem split_resub : splitId "re.Pattern.sub" = some ("re.Pattern", "sub") := by decide +kernel
theorem args_resub (a b c : Value) : argsOk "re.Pattern.sub" ⟨[a, b, c], []⟩ := by unfold argsOk; kernel_rfl
theorem bytes_call (d : Array UInt8) (t : Tok) : specialOf (.bytes d t) "__call__" = pure none := by
  show typeLookup (.type "bytes") "__call__" = _
  rw [typeLookup_type, builtinLookup_eq_fast]; kernel_rfl
theorem target_ok {w : World} {h : Heap} (X : (kk.heap_1 w.params).In h) (d : Array UInt8) (t : Tok) : Looks (model PG w) h (reWholeTarget (.ref 179) (.bytes d t)) ⟨.ref 179, .bytes d t, qcode, d.map (·.toNat), 1, 0, 0, (d.map (·.toNat)).size⟩ := by
  obtain ⟨od, fs, sl, a, tk1, tk2, tk3, ho, e5, e6, e2, _, oc, oo, vs, n, s2, ha, hv⟩ := pat_obj w.params
  intro A Q E s k q
  unfold reWholeTarget
  have hp := k _ _ (X _ _ ho)
  have hs := k _ _ (X _ _ ha)
  refine wpAny_bind (wpAny_fieldsOf hp rfl ?_)
  refine wpAny_bind (wpAny_of_eq (a := (d.map (·.toNat), 1)) (by with_unfolding_all rfl) ?_)
  simp only [e6, e5, e2, reRawNat]
  rw [if_neg (by decide), if_neg (by decide)]
  unfold reNoCollectionInside
  rw [if_pos (by decide)]
  refine wpAny_bind (wpAny_bind (wpAny_isInstance (T := "bytes") (b := true) (typeIs_bytes _ _ _) (by rw [isSubtype_type]; kernel_rfl) ?_))
  rw [if_neg (by decide)]
  refine wpAny_pure ?_
  unfold reRawItems
  refine wpAny_bind (wpAny_bind (wpAny_seqItems hs rfl (wpAny_pure ?_)))
  refine wpAny_pure ?_
  show Q ⟨_, _, (vs.map reRawOf).map (·.toNat), _, _, _, _, _⟩ s
  rw [hv]
  exact q
theorem u8_nat (l : List Nat) (h : ∀ c ∈ l, c < 256) : (u8 l).map (·.toNat) = l.toArray := by
  unfold u8
  rw [List.map_toArray, List.map_map]
  congr 1
  conv => rhs; rw [← List.map_id l]
  apply List.map_congr_left
  intro c hc
  have := h c hc
  simp [Nat.toUInt8, UInt8.toNat_ofNat']
  omega
theorem ptext_small (b mk v : Nat) (hb : b = 40 ∨ b = 41) : ∀ c ∈ ptext b mk v, c < 256 := by
  have h1 : ∀ l : List Nat, (∀ c ∈ l, c < 256) → ∀ c ∈ esc l, c < 256 := by
    intro l h c hc
    unfold esc at hc
    rw [List.mem_flatMap] at hc
    obtain ⟨a, ha, hc⟩ := hc
    have := h a ha
    split at hc
    · simp at hc; omega
    · split at hc
      · simp at hc; omega
      · simp at hc; omega
  intro c hc
  unfold ptext at hc
  rcases List.mem_append.mp hc with hc | hc
  · rcases List.mem_append.mp hc with hc | hc
    · simp at hc; omega
    · refine h1 _ ?_ c hc
      intro d hd
      rcases List.mem_cons.mp hd with rfl | hd
      · unfold mark4; split <;> omega
      · have := wd_letters 3 v d hd; omega
  · simp at hc; omega
theorem loop2 {w : World} {A : Around} {E : Value → Shared → Prop} {h : Heap} {g : Array GenState} {dd : Drawn} {t : Nat} {os : OsState} {Q : Value → Shared → Prop} {b mk v S : Nat} {ta tb t1 : Tok} (hb : b = 40 ∨ b = 41) (hm : mk < 4) (X : (kk.heap_1 w.params).In h)
    (hS : h.get? S = some { cls := .type "list", data := .seq #[.bytes #[b.toUInt8] t1, .bytes #[] ta] 2 })
    (hQ : ∀ h' tk' t', (∀ c o, h.get? c = some o → h'.get? c = some o) → Q (.bytes #[b.toUInt8] t') ⟨h', g, dd, tk', os⟩) :
    codeAny (model PG w) A (.builtin "re.Pattern.sub.loop" ⟨[.ref 179, .bytes (u8 (ptext b mk v)) tb, .bytes #[] ta, rawInt 0, rawInt 0, rawInt (0 + 1), rawInt (ptext b mk v).length, rawInt (ptext b mk v).length, .bool false, .ref S, .bool false], []⟩)
      (fun r s' => match r with
        | Except.ok (Flow.ret v) => Q v s'
        | Except.ok _ => False
        | Except.error e => E e s') ⟨h, g, dd, t, os⟩ := by
  have L1 := target_ok X (u8 (ptext b mk v)) tb
  rw [u8_nat _ (ptext_small b mk v hb)] at L1
  obtain ⟨_, r4⟩ := search_at b mk v hb hm
  refine codeAny_builtin entry_reloop ?_
  rw [Around.under_plainId plain_reloop _]
  unfold Builtin.«re.Pattern.sub.loop»
  refine wpAny_bind (L1.at ?_)
  have L2 : Looks (model PG w) h (reNextFound ⟨.ref 179, .bytes (u8 (ptext b mk v)) tb, qcode, (ptext b mk v).toArray, 1, 0, 0, (ptext b mk v).toArray.size⟩ (Int.toNat (ptext b mk v).length) false) none := fun A Q E s k q => of_run0 q _ (by
    show run0 (reRunToEnd (Sre.forSearch qcode (ptext b mk v).toArray 0 (Int.toNat (ptext b mk v).length) (ptext b mk v).toArray.size false)) = _
    rw [Int.toNat_natCast, List.size_toArray]; exact r4)
  have L3 : Looks (model PG w) h (reLiteralCannotBeTurned (.bytes #[] ta)) () := by
    intro A Q E s k q
    unfold reLiteralCannotBeTurned
    refine wpAny_bind (wpAny_of_eq (a := none) (by with_unfolding_all rfl) ?_)
    refine wpAny_bind (wpAny_isInstance (T := "bytes") (b := true) (typeIs_bytes _ _ _) (by rw [isSubtype_type]; kernel_rfl) ?_)
    exact wpAny_pure q
  dsimp only
  rw [if_pos (by decide)]
  refine wpAny_bind (L3.at ?_)
  rw [if_neg (by decide)]
  refine wpAny_bind (L2.at ?_)
  dsimp only
  rw [if_neg (by rw [Int.toNat_natCast, List.size_toArray]; exact Nat.lt_irrefl _)]
  unfold reSlice
  rw [if_neg (by decide)]
  have ex : (((ptext b mk v).toArray.extract 0 0).map (·.toUInt8)) = #[] := by simp
  rw [ex]
  refine wpAny_bind (wpAny_mkBytes ?_ (by show 0 ≤ sizeLine; decide))
  refine wpAny_bind (wpAny_seqItems hS rfl ?_)
  rw [if_neg (by simp), if_neg (by decide)]
  refine wpAny_bind (bjoin hS fun t' tk' => ?_)
  rw [if_neg (by decide)]
  exact wpAny_pure (hQ _ _ _ fun _ _ e => e)
theorem loop1 {w : World} {A : Around} {E : Value → Shared → Prop} {h : Heap} {g : Array GenState} {dd : Drawn} {t : Nat} {os : OsState} {Q : Value → Shared → Prop} {b mk v S : Nat} {ta tb : Tok} (hb : b = 40 ∨ b = 41) (hm : mk < 4) (X : (kk.heap_1 w.params).In h)
    (hS : h.get? S = some { cls := .type "list", data := .seq #[] }) (hXS : ∀ a o, (kk.heap_1 w.params).lookup a = some o → a ≠ S)
    (hQ : ∀ h' tk' t', (∀ b o, b ≠ S → h.get? b = some o → h'.get? b = some o) → Q (.bytes #[b.toUInt8] t') ⟨h', g, dd, tk', os⟩) :
    codeAny (model PG w) A (.builtin "re.Pattern.sub.loop" ⟨[.ref 179, .bytes (u8 (ptext b mk v)) tb, .bytes #[] ta, rawInt 0, rawInt 0, rawInt 0, rawInt 0, rawInt 0, .bool false, .ref S, .bool false], []⟩)
      (fun r s' => match r with
        | Except.ok (Flow.ret v) => Q v s'
        | Except.ok _ => False
        | Except.error e => E e s') ⟨h, g, dd, t, os⟩ := by
  have L1 := target_ok X (u8 (ptext b mk v)) tb
  rw [u8_nat _ (ptext_small b mk v hb)] at L1
  obtain ⟨⟨m, r1, r2, r3⟩, r4⟩ := search_at b mk v hb hm
  refine codeAny_builtin entry_reloop ?_
  rw [Around.under_plainId plain_reloop _]
  unfold Builtin.«re.Pattern.sub.loop»
  refine wpAny_bind (L1.at ?_)
  have L2 : Looks (model PG w) h (reNextFound ⟨.ref 179, .bytes (u8 (ptext b mk v)) tb, qcode, (ptext b mk v).toArray, 1, 0, 0, (ptext b mk v).toArray.size⟩ (Int.toNat 0) false) (some m) := fun A Q E s k q => of_run0 q _ r1
  have L3 : Looks (model PG w) h (reLiteralCannotBeTurned (.bytes #[] ta)) () := by
    intro A Q E s k q
    unfold reLiteralCannotBeTurned
    refine wpAny_bind (wpAny_of_eq (a := none) (by with_unfolding_all rfl) ?_)
    refine wpAny_bind (wpAny_isInstance (T := "bytes") (b := true) (typeIs_bytes _ _ _) (by rw [isSubtype_type]; kernel_rfl) ?_)
    exact wpAny_pure q
  dsimp only
  rw [if_pos (by decide)]
  refine wpAny_bind (L3.at ?_)
  rw [if_neg (by decide)]
  refine wpAny_bind (L2.at ?_)
  dsimp only
  rw [r2, r3]
  rw [if_pos (by decide)]
  unfold reSlice
  rw [if_neg (by decide)]
  have ex : (((ptext b mk v).toArray.extract (Int.toNat 0) 1).map (·.toUInt8)) = #[b.toUInt8] := by
    unfold ptext
    simp
  rw [ex]
  refine wpAny_bind (wpAny_mkBytes ?_ (by show 1 ≤ sizeLine; decide))
  have mp : ∀ (its : Array Value) (n : Nat) (x : Value), Obj.mapSeq (·.push x) { cls := .type "list", data := .seq its n } = { cls := .type "list", data := .seq (its.push x) (n + 1) } := fun its n x => Obj.mapSeq_push_plain its n x
  refine wpAny_bind (wpAny_updateSeq hS rfl ?_)
  rw [if_pos (by decide)]
  refine wpAny_bind (wpAny_pure ?_)
  rw [if_pos (by rfl)]
  have g1 : (h.update S (Obj.mapSeq (·.push (.bytes #[b.toUInt8] t)))).get? S = some { cls := .type "list", data := .seq #[.bytes #[b.toUInt8] t] 1 } := by
    rw [Heap.get?_update_self _ hS (by rw [mp]; rfl), mp]; rfl
  refine wpAny_bind (wpAny_updateSeq g1 rfl ?_)
  have g2 : ((h.update S (Obj.mapSeq (·.push (.bytes #[b.toUInt8] t)))).update S (Obj.mapSeq (·.push (.bytes #[] ta)))).get? S = some { cls := .type "list", data := .seq #[.bytes #[b.toUInt8] t, .bytes #[] ta] 2 } := by
    rw [Heap.get?_update_self _ g1 (by rw [mp]; rfl), mp]; rfl
  have k2 : ∀ c o, c ≠ S → h.get? c = some o → ((h.update S (Obj.mapSeq (·.push (.bytes #[b.toUInt8] t)))).update S (Obj.mapSeq (·.push (.bytes #[] ta)))).get? c = some o := fun c o hc e =>
    (Heap.SameBut.update ..).extBut c o hc ((Heap.SameBut.update ..).extBut c o hc e)
  have X2 : (kk.heap_1 w.params).In ((h.update S (Obj.mapSeq (·.push (.bytes #[b.toUInt8] t)))).update S (Obj.mapSeq (·.push (.bytes #[] ta)))) := by
    intro a o e
    exact k2 a o (hXS a o e) (X a o e)
  have e1 : ((ptext b mk v).length == 1) = false := by
    rw [beq_eq_false_iff_ne]; unfold ptext; simp
  rw [e1]
  refine wpAny_pure ⟨plainId_quiet plain_reloop _, ?_⟩
  exact loop2 hb hm X2 g2 fun h' tk' t' k' => hQ h' tk' t' fun c o hc e => k' c o (k2 c o hc e)
theorem resub {w : World} {A : Around} {E : Value → Shared → Prop} {s : Shared} {Q : Value → Shared → Prop} {b mk v : Nat} {ta tb : Tok} (hb : b = 40 ∨ b = 41) (hm : mk < 4) (X : (kk.heap_1 w.params).In s.heap)
    (hQ : ∀ h' tk' t', Keep s.heap h' → Q (.bytes #[b.toUInt8] t') { s with heap := h', toks := tk' }) :
    wpAny (model PG w) A (call (.builtin "re.Pattern.sub") [.ref 179, .bytes #[] ta, .bytes (u8 (ptext b mk v)) tb]) Q E s := by
  have L1 := target_ok X (u8 (ptext b mk v)) tb
  refine wpAny_call (codeAny_call_builtin plain_resub entry_resub (@check_method (model PG w) _ _ _ "re.Pattern.sub" "re.Pattern" "sub" (.ref 179) [.bytes #[] ta, .bytes (u8 (ptext b mk v)) tb] [] _ kind_resub split_resub (pat_inst X) (args_resub _ _ _) ?_))
  obtain ⟨h, g, dd, t, os⟩ := s
  show wpAny _ _ (reSubstitute "re.Pattern.sub" "sub" false ⟨[.ref 179, .bytes #[] ta, .bytes (u8 (ptext b mk v)) tb], []⟩) _ _ _
  unfold reSubstitute
  refine wpAny_bind (wpAny_of_eq (a := [some (.bytes #[] ta), some (.bytes (u8 (ptext b mk v)) tb), none]) (by kernel_rfl) ?_)
  refine wpAny_bind (wpAny_pure ?_)
  refine wpAny_bind (wpAny_of_eq (bytes_call _ _) ?_)
  dsimp only [Option.isSome]
  rw [if_neg (by decide)]
  repeat (first | simp only [Bool.false_eq_true, if_false] | lk)
  refine wpAny_of_eq (a := .ok (some #[])) (by with_unfolding_all rfl) ?_
  repeat (first | simp only [Bool.false_eq_true, if_false] | lk)
  rw [if_pos (by decide +kernel)]
  repeat (first | simp only [Bool.false_eq_true, if_false] | lk)
  refine ⟨plainId_quiet plain_reloop _, ?_⟩
  have k1 : Keep h (h.push { cls := .type "list", data := .seq #[] }) := fun b o e => Heap.get?_push_of_some _ e
  refine loop1 hb hm (X.keeps k1) (Heap.get?_push_size h rfl) (fun a o e => Nat.ne_of_lt (Heap.lt_size (X a o e))) fun h' tk' t' k' => hQ h' tk' t' fun b o e => k' b o (Nat.ne_of_lt (Heap.lt_size e)) (k1 b o e)
theorem paren (w : World) (mean : ExcName → Option Value) (mg mb : Str → Option Value) (b mk v : Nat) (d : Int) (t1 t2 : Tok) (hb : b = 40 ∨ b = 41) (hm : mk < 4) :
    Pure 5 w mean mg mb 187 [.bytes (u8 (ptext b mk v)) t1, .int d t2] (fun r => ∃ t, r = .int (if b = 40 then d + 1 else d - 1) t) := by
  intro A s Q E hA hS hret
  obtain ⟨hd0, dp, fr, gd, un⟩ := A
  obtain rfl : hd0 = none := hA.hd
  have X := hS.X
  have T := hS.T
  refine wpAny_call ?_
  refine' enterP ?kX ?kL ?kroom ?kho ?khcd ?khb ?khl ?kbody ?khco ?khgen ?khk ?khcell
  (case kX => exact St.X (by assumption))
  (case kL => exact Top.nolimit (St.T (by assumption)))
  (case kroom => exact AOk.room (by assumption))
  (case kho => k_is)
  (case khcd => k_is)
  (case khb => exact binds_K hS.X rfl (by k_is) rfl rfl rfl)
  (case khl => exact locs rfl)
  (case khco => rfl)
  (case khgen => rfl)
  (case khk => rfl)
  (case khcell => decide)
  intro h₁ F
  have N : News s.heap s.heap.objs.size h₁ [] := News.nil
  (try dsimp only)
  iterate 4 walk_at "kst"
  refine (pat_sub (X.keeps F.keep) _).here ?_
  (try dsimp only)
  iterate 6 walk_at "kst"
  rename Fr _ _ _ _ => F3
  refine resub hb hm (X.keeps F3.keep) fun h4 tk4 t4 k4 => ?_
  have F4 := F3.keeps k4
  have N4 : News s.heap s.heap.objs.size h4 [] := News.nil
  clear F3
  (try dsimp only)
  iterate 9 walk_at "kst"
  refine (gm_count _ _ _).here ?_
  (try dsimp only)
  iterate 4 walk_at "kst"
  have hbu : b.toUInt8 = 40 ∨ b.toUInt8 = 41 := by rcases hb with rfl | rfl <;> decide
  refine bcount hbu (.inl rfl) fun t6 tk6 => ?_
  (try dsimp only)
  iterate 3 walk_at "kst"
  refine (gm_count _ _ _).here ?_
  (try dsimp only)
  iterate 4 walk_at "kst"
  refine bcount hbu (.inr rfl) fun t7 tk7 => ?_
  (try dsimp only)
  k_steps
  rename Fr _ _ _ _ => F9
  refine hret _ _ _ ⟨_, congrArg (Value.int · _) ?_⟩ F9.keep
  rcases hb with rfl | rfl
  · rw [if_pos (by decide), if_neg (by decide), if_pos rfl]; omega
  · rw [if_neg (by decide), if_pos (by decide), if_neg (by decide)]; omega
end
end Mine
end OfA17
section OfP3
open PySem PySem.W PySem.Calls PyProof.Rows Builtin Builtin.Bytes Builtin._codecs
set_option Elab.async false
set_option maxRecDepth 100000
set_option maxHeartbeats 1000000
namespace Mine
noncomputable section
theorem gm_decode {w : World} {h : Heap} (d : Array UInt8) (t : Tok) (pl : Sem Bool) : Looks (model PG w) h (getMethod (.bytes d t) "decode" pl) (.builtin "bytes.decode", [.bytes d t]) := Looks.of_peek (K := []) (fun _ _ e => by cases e) (by with_unfolding_all rfl)
theorem args_bdecode (a b : Value) : argsOk "bytes.decode" ⟨[a, b], []⟩ := by unfold argsOk; kernel_rfl
theorem entry_dec {c : UInt8} {cs : List UInt8} {t t2 : Tok} : «bytes.decode» ⟨[.bytes (c :: cs).toArray t, .str (PySem.Str.ofString "ascii") t2], []⟩ = (mkStr (PySem.Str.ofString "utf-8") >>= fun _ => mkStr (PySem.Str.ofString "ascii") >>= fun e => mkStr (PySem.Str.ofString "bytes.decode") >>= fun d =>
    call (.builtin "_codecs.decode.text") [.bytes (c :: cs).toArray t, e, .none, d] >>= fun v => ret v) := by kernel_rfl
theorem entry_dec0 {t t2 : Tok} : «bytes.decode» ⟨[.bytes #[] t, .str (PySem.Str.ofString "ascii") t2], []⟩ = (do rule "bytes.decode.empty"; retStr PySem.Str.empty) := by kernel_rfl
theorem dec_road {id : String} {b : Array UInt8} : _codecs.decodeRoad id b (PySem.Str.ofString "ascii") none [] = (_codecs.runDecoder id _codecs.asciiDecoder none true b 0 [] >>= fun r => mkStr ⟨r.1⟩) := by kernel_rfl
theorem text_body {b : Array UInt8} {t1 t2 t3 : Tok} : «_codecs.decode.text» ⟨[.bytes b t1, .str (PySem.Str.ofString "ascii") t2, .none, .str (PySem.Str.ofString "bytes.decode") t3], []⟩ = (Bytes.bytesLike "bytes.decode" (.bytes b t1) >>= fun b' => _codecs.dataHeld "bytes.decode" (.bytes b t1) >>= fun hl => _codecs.decodeRoad "bytes.decode" b' (PySem.Str.ofString "ascii") none hl >>= fun v => ret v) := by kernel_rfl
theorem dec_all : ∀ v : Fin 272, run0 (runDecoder "bytes.decode" asciiDecoder none true (Wb v.val) 0 []) = some ((Wd v.val).cps, (Wb v.val).size) := by decide +kernel
theorem wb_ne : ∀ v : Fin 272, v.val ≠ 0 → (wb 3 v.val).isEmpty = false := by decide +kernel
theorem wd_small : ∀ v : Fin 272, (Wd v.val).cps.size ≤ 3 := by decide +kernel
theorem dec_text {w : World} {A : Around} {E : Value → Shared → Prop} {s : Shared} {Q : Value → Shared → Prop} {v : Nat} {t1 t2 t3 : Tok} (hv : v < 272)
    (hQ : ∀ t' tk', Q (.str (Wd v) t') { s with toks := tk' }) :
    wpAny (model PG w) A (call (.builtin "_codecs.decode.text") [.bytes (Wb v) t1, .str (PySem.Str.ofString "ascii") t2, .none, .str (PySem.Str.ofString "bytes.decode") t3]) Q E s := by
  refine call_function_meets (S := fun _ R s => ∀ t' tk', R (.ok (.ret (.str (Wd v) t'))) { s with toks := tk' }) KBd.kind_text KBd.plain_text KBd.entry_text (KBd.args_text _ _ _ _) (.of_wp fun prog w A R s h => ?_) hQ
  rw [text_body]
  refine wpAny_bind (wpAny_of_eq KBd.like_eq ?_)
  refine wpAny_bind (wpAny_of_eq KBd.held_eq ?_)
  rw [dec_road]
  refine wpAny_bind (wpAny_bind (of_run0 ?_ _ (dec_all ⟨v, hv⟩)))
  refine wpAny_mkStr (wpAny_pure ?_) (Nat.le_trans (wd_small ⟨v, hv⟩) (by decide))
  exact ⟨_, rfl, h _ _⟩
theorem bdecode {w : World} {A : Around} {E : Value → Shared → Prop} {s : Shared} {Q : Value → Shared → Prop} {v : Nat} {t1 t2 : Tok} (hv : v < 272)
    (hQ : ∀ t' tk', Q (.str (Wd v) t') { s with toks := tk' }) : wpAny (model PG w) A (call (.builtin "bytes.decode") [.bytes (Wb v) t1, .str (PySem.Str.ofString "ascii") t2]) Q E s := by
  refine wpAny_call (codeAny_call_builtin FB.slot_bytes_decode.plain FB.entry_bytes_decode (FB.slot_bytes_decode.check _ _ _ _ _ _ _ _ (typeIs_bytes _ _ _) (args_bdecode _ _) ?_))
  by_cases h0 : v = 0
  · subst h0
    have e1 : Wb 0 = #[] := rfl
    have e2 : Wd 0 = PySem.Str.empty := rfl
    rw [e1, entry_dec0]
    rw [e2] at hQ
    refine wpAny_bind (wpAny_rule ?_)
    exact wpAny_bind (wpAny_mkStr (wpAny_pure (hQ _ _)) (by decide))
  · have hne := wb_ne ⟨v, hv⟩ h0
    have hne : (wb 3 v).isEmpty = false := hne
    unfold Wb
    generalize hL : wb 3 v = L at hne ⊢
    cases L with
    | nil => cases hne
    | cons c cs =>
      rw [entry_dec]
      refine wpAny_bind (wpAny_mkStr ?_ (by decide))
      refine wpAny_bind (wpAny_mkStr ?_ (by decide))
      refine wpAny_bind (wpAny_mkStr ?_ (by decide))
      have h3 : (c :: cs).toArray = Wb v := by unfold Wb; rw [hL]
      rw [h3]
      refine wpAny_bind (dec_text hv fun t' tk' => ?_)
      exact wpAny_pure (hQ _ _)
end
end Mine
end OfP3
section OfA20
open PySem PySem.W PySem.W.X PyProof.Rows
set_option Elab.async false
set_option maxRecDepth 100000
set_option maxHeartbeats 4000000
set_option pp.maxSteps 3000
namespace Mine
noncomputable section
noncomputable def lawRec : DefRec := ((recsOf hd.view_39).getLast?).getD ⟨default, default, [], default, default⟩
@[reducible] noncomputable def lawEnv (L fa : Addr) (cd : Value) : Env := envOfC lawRec.name lawRec.scope L fa cd
theorem tab101 (P : Params) : (hd.heap_39 P).lookup 101 = some (tabO #[]) := by with_unfolding_all rfl
theorem tab108 (P : Params) : (hd.heap_39 P).lookup 108 = some (tabO #[]) := by with_unfolding_all rfl
theorem hide_keeps {g h : Heap} {l : List Addr} (hl : ∀ a ∈ l, g.get? a = none) (k : Keep g h) : Keep g (hide l h) := by
  intro b o e
  rw [hide_get, if_neg]
  · exact k b o e
  · intro hb; rw [hl b hb] at e; cases e
theorem hide_none {h : Heap} {l : List Addr} {a : Addr} (ha : a ∈ l) : (hide l h).get? a = none := by rw [hide_get, if_pos ha]
theorem is_table {P : Params} {h : Heap} {c T : Addr} (X : (kk.heap_1 P).In h) (hK : ∃ oc od vs sl, (kk.heap_1 P).lookup c = some ⟨oc, od, .fields vs, sl⟩ ∧ oc = .type "code" ∧ vs.getD 11 .none = .ref T ∧ vs[11]? = some (.ref T) ∧ (∃ f t, vs.getD 18 .none = .str f t) ∧ (∃ f t, vs.getD 7 .none = .int f t) ∧ (∃ b, vs.getD 9 .none = .bool b) ∧ (∃ f t, vs.getD 10 .none = .int f t)) : isCodeTable h T := by
  obtain ⟨oc, od, vs, sl, e1, e2, e3, e4, _⟩ := hK
  exact ⟨c, _, vs, X _ _ e1, e2, rfl, e4⟩
/-- what the walk of the law's body must leave behind -/
structure Left (g : Heap) (os : OsState) (s' : Shared) : Prop where
  keep : Keep g s'.heap
  t1 : ∃ ps, s'.heap.get? 101 = some (tabO ps)
  t2 : ∃ ps, s'.heap.get? 108 = some (tabO ps)
  os : s'.os = os
  gens : AllBare s'.gens
theorem left_old {P : Params} {h0 : Heap} {os : OsState} {s' : Shared} (Y : (hd.heap_39 P).In h0) (Lf : Left (hide [101, 108] h0) os s') : OldK h0 s'.heap := by
  obtain ⟨k, ⟨p1, h1⟩, ⟨p2, h2⟩, _, _⟩ := Lf
  have t1 : isCodeTable h0 101 := is_table (k_in Y) (code105 P)
  have t2 : isCodeTable h0 108 := is_table (k_in Y) (code112 P)
  have kk : ∀ b o, b ≠ 101 → b ≠ 108 → h0.get? b = some o → s'.heap.get? b = some o := fun b o n1 n2 e => k b o (by rw [hide_get, if_neg (by simp [n1, n2])]; exact e)
  have e1 := Y _ _ (tab101 P)
  have e2 := Y _ _ (tab108 P)
  refine ⟨fun b o e => ?_, fun b o e => ?_⟩
  · by_cases b1 : b = 101
    · subst b1
      rw [e1] at e; cases e
      exact .inr (.inl ⟨t1, rfl, #[], p1, rfl, by rw [Array.empty_append]; exact h1⟩)
    · by_cases b2 : b = 108
      · subst b2
        rw [e2] at e; cases e
        exact .inr (.inl ⟨t2, rfl, #[], p2, rfl, by rw [Array.empty_append]; exact h2⟩)
      · exact .inl (kk b o b1 b2 e)
  · by_cases b1 : b = 101
    · subst b1; exact ⟨_, h1⟩
    · by_cases b2 : b = 108
      · subst b2; exact ⟨_, h2⟩
      · exact ⟨o, kk b o b1 b2 e⟩
/-- the claim's body, from the frame's first statement on -/
noncomputable def Body : Prop := ∀ (w : World) (mean : ExcName → Option Value) (mg mb : Str → Option Value) (g : Heap) (L fa : Addr) (cd : Value) (A : Around) (E : Value → Shared → Prop) (ls : Addr) (vs : List Value) (xs : List Int)
    (m : Str → Option Value) (o1 o2 o3 o4 o5 o6 o7 : Obj) (s : Shared),
    St w mean mg mb g → AOk 60 A → A.frames = some [lawEnv L fa cd] → Fr g L s.heap m → m "script" = some (.ref ls) →
    News g L s.heap [(L + 7, o7), (L + 6, o6), (L + 5, o5), (L + 4, o4), (L + 3, o3), (L + 2, o2), (L + 1, o1), (101, tabO #[]), (108, tabO #[])] →
    o1.data = .cell none → o2.data = .cell none → o3.data = .cell none → o4.data = .cell none → o5.data = .cell none → o6.data = .cell none → o7.data = .cell none →
    108 < L → g.IsList ls vs.toArray → IntsAre vs xs → xs.length ≤ 63 → AllBare s.gens →
    wpAny (model PG w) A (execs lawRec.body (lawEnv L fa cd)) (fun f s' => f = .ret (.bool true) ∧ Left g s.os s') E s
theorem list_hidden {P : Params} {h : Heap} {ls : Addr} {its : Array Value} (Y : (hd.heap_39 P).In h) (x : h.IsList ls its) : (hide [101, 108] h).IsList ls its := by
  obtain ⟨o, e, r⟩ := x
  refine ⟨o, ?_, r⟩
  rw [hide_get, if_neg]
  · exact e
  · intro hb
    rcases List.mem_cons.mp hb with rfl | hb
    · rw [Y _ _ (tab101 P)] at e; cases e; cases r.1
    · rcases List.mem_cons.mp hb with rfl | hb
      · rw [Y _ _ (tab108 P)] at e; cases e; cases r.1
      · cases hb
theorem law_entry (H : Body) : PySem.Challenge.rw_wu0057_01.Holds := by
  exact hd (by
    k_fill
    intro w s₀ s₁ mg mb G Y fa o pm cd doc dV kV ho hd hcd hD hmg hg args vals as hpre hlay hrd hwl hlo
    have KX := kIn_of Y
    refine Ground.open G ?_
    intro T B D TE TW
    try (refine guard_noD D (by decide +kernel) ?_; clear D)
    clear hmg
    wrow_args hpre hlay hrd hwl hlo
    refine enter_call ?_
    w_top on
    have K0 := below_caller (Top.heap T)
    w_call any ho hd hcd hD T F
    clear hd
    k_drop
    clear B TE TW
    rename_i xs hs hlay0 hL1 hr1 hl2 a4 a5 ls vs a6 hL ra w1 r0 hI hr hc1 hc2 h1 tk1 o7 o6 o5 o4 o3 o2 o1 l7 l6 l5 l4 l3 l2 l1 N0 X0
    have l1 : o1.data = .cell none := l1
    have l2 : o2.data = .cell none := l2
    have l3 : o3.data = .cell none := l3
    have l4 : o4.data = .cell none := l4
    have l5 : o5.data = .cell none := l5
    have l6 : o6.data = .cell none := l6
    have l7 : o7.data = .cell none := l7
    clear X0 hD
    show wpAny _ (callerA.deeper (lawEnv _ _ _)) (execs lawRec.body (lawEnv _ _ _)) _ _ _
    have S : St w (ExcName.means s₀.heap) mg mb (hide [101, 108] s₁.heap) := st_entry (k_in KX) KX T
    have kp : Keep (hide [101, 108] s₁.heap) h1 := fun b o e => F.keep b o (hide_keep _ _ b o e)
    have F2 : Fr (hide [101, 108] s₁.heap) s₁.heap.objs.size h1 _ := ⟨F.ns, kp, by rw [hide_size]; exact F.above⟩
    have e101 := KX _ _ (tab101 w.params)
    have e108 := KX _ _ (tab108 w.params)
    have s108 := Heap.lt_size e108
    have N2 : News (hide [101, 108] s₁.heap) s₁.heap.objs.size h1 [(s₁.heap.objs.size + 7, o7), (s₁.heap.objs.size + 6, o6), (s₁.heap.objs.size + 5, o5), (s₁.heap.objs.size + 4, o4), (s₁.heap.objs.size + 3, o3), (s₁.heap.objs.size + 2, o2), (s₁.heap.objs.size + 1, o1), (101, tabO #[]), (108, tabO #[])] := by
      have up : ∀ p ∈ [(s₁.heap.objs.size + 7, o7), (s₁.heap.objs.size + 6, o6), (s₁.heap.objs.size + 5, o5), (s₁.heap.objs.size + 4, o4), (s₁.heap.objs.size + 3, o3), (s₁.heap.objs.size + 2, o2), (s₁.heap.objs.size + 1, o1)], h1.get? p.1 = some p.2 ∧ p.1 ≠ s₁.heap.objs.size ∧ (hide [101, 108] s₁.heap).get? p.1 = none := by
        intro p hp
        obtain ⟨e1, e2, e3⟩ := N0 p hp
        refine ⟨e1, e2, ?_⟩
        rw [hide_get]; split
        · rfl
        · exact e3
      intro p hp
      rcases List.mem_append.mp (show p ∈ [(s₁.heap.objs.size + 7, o7), (s₁.heap.objs.size + 6, o6), (s₁.heap.objs.size + 5, o5), (s₁.heap.objs.size + 4, o4), (s₁.heap.objs.size + 3, o3), (s₁.heap.objs.size + 2, o2), (s₁.heap.objs.size + 1, o1)] ++ [(101, tabO #[]), (108, tabO #[])] from hp) with h | h
      · exact up p h
      · rcases List.mem_cons.mp h with rfl | h
        · exact ⟨F.keep _ _ e101, Nat.ne_of_lt (Nat.lt_trans (by omega) s108), hide_none (by simp)⟩
        · rcases List.mem_cons.mp h with rfl | h
          · exact ⟨F.keep _ _ e108, Nat.ne_of_lt s108, hide_none (by simp)⟩
          · cases h
    unfold Body at H
    generalize lawRec.body = B at H ⊢
    refine wpAny_mono (H w _ mg mb _ _ fa _ _ _ ls vs xs _ o1 o2 o3 o4 o5 o6 o7 _ S ⟨rfl, by show callerA.depth + 1 + 60 < 900; decide +kernel, by show callerA.units + 3 + 8 * 60 < 9000; decide +kernel⟩ rfl F2 (by rfl) N2 l1 l2 l3 l4 l5 l6 l7 s108 (list_hidden KX hL) hI (by omega) (AllBare.of_eq hg)) (fun f s' e => ?_) fun _ _ x => x
    obtain ⟨rfl, Lf⟩ := e
    refine ⟨.inl ⟨_, _, [], rfl, fun _ => rfl, ReadsW.bool true, ?_, fun _ => ⟨List.nodup_nil, fun _ hm => (nomatch hm)⟩⟩, left_old KX Lf, Lf.os, Lf.gens⟩
    wrow_post)
end
end Mine
end OfA20
section OfA21
open PySem PySem.W PySem.W.X PyProof.Rows
set_option Elab.async false
set_option maxRecDepth 100000
set_option maxHeartbeats 4000000
set_option pp.maxSteps 3000
namespace Mine
noncomputable section
noncomputable def st (i : Nat) : Stmt := lawRec.body.getD i (.Pass default)
theorem body_eq : lawRec.body = [st 0, st 1, st 2, st 3, st 4, st 5, st 6, st 7, st 8, st 9, st 10, st 11, st 12, st 13, st 14, st 15, st 16, st 17, st 18, st 19, st 20, st 21, st 22] := by with_unfolding_all rfl

set_option genInjectivity false in
set_option genSizeOf false in
structure LV where
  w : World
  mean : ExcName → Option Value
  mg : Str → Option Value
  mb : Str → Option Value
  g : Heap
  L : Nat
  fa : Nat
  cd : Value
  dp : Nat
  fr : Option (List Env)
  gd : Option (List Code)
  un : Nat
  Q : Flow → Shared → Prop
  m : Str → Option Value
  s : Shared
  news : List (Addr × Obj)
  ls : Nat
  c : Nat
  vs : List Value
  xs : List Int
  its : List Value
  cs : List Int
  n : Nat
  oc : Obj
  rest : List Stmt
  o1 : Obj
  o2 : Obj
  o3 : Obj
  o4 : Obj
  o5 : Obj
  o6 : Obj
  o7 : Obj
  d : Nat
  r : Nat
  aT : Nat
  aG : Nat
  aK : Nat
  aTo : Nat
  aS : Nat
  aD : Nat
  it : Nat
  e : Nat
  i : Nat
  nbx : Int
  tn : Nat
  tk0 : Nat
  oI : Obj
  oE : Obj
  xT : Array Value
  xG : Array Value
  xK : Array Value
  xTo : Array Value
  xS : Array Value
  xD : Array Value
  itsbx : Array Value
  nT : Nat
  nG : Nat
  nK : Nat
  nTo : Nat
  nS : Nat
  nD : Nat
  nC : Nat
  nr : Nat
  ritems : Array Value
  p1 : Array Value
  p2 : Array Value
  t2 : Nat
  t3 : Nat
  yT : List Str
  tt : List Nat
  tl : List (Addr × Obj)
  v : Nat
  tv : Nat
  tm : Nat
  mkS : Str
  fa' : Nat → Str
  fb' : Nat → Str
  l : Nat
  mkF : Nat
  bk : Nat
  tw : Nat
  tb : Nat
  td : Nat
  dl : Int
  aGp : Nat
  nGp : Nat
  xGp : Array Value
  r0 : Nat
  r1 : Nat
  r2 : Nat
  r3 : Nat
  k0 : Nat
  k1 : Nat
  k2 : Nat
  k3 : Nat
  aTb : Nat
  nTb : Nat
  v0 : List Value
  v1 : List Value
  v2 : List Value
  v3 : List Value
  aX : Nat
  nX : Nat
  xX : List Value
  ns : List Int
  c0 : Int
  d0 : Int
  tc : Nat
  tf : Nat
  j : Nat
theorem lv0 : Nonempty LV := ⟨⟨W0, fun _ => none, fun _ => none, fun _ => none, {}, 0, 0, .none, 0, none, none, 0, fun _ _ => True, fun _ => none, {}, [], 0, 0, [], [], [], [], 0, { cls := .none, data := .fields #[] }, [], { cls := .none, data := .fields #[] }, { cls := .none, data := .fields #[] }, { cls := .none, data := .fields #[] }, { cls := .none, data := .fields #[] }, { cls := .none, data := .fields #[] }, { cls := .none, data := .fields #[] }, { cls := .none, data := .fields #[] }, 0, 0, 0, 0, 0, 0, 0, 0, 0, 0, 0, 0, 0, 0, { cls := .none, data := .fields #[] }, { cls := .none, data := .fields #[] }, #[], #[], #[], #[], #[], #[], #[], 0, 0, 0, 0, 0, 0, 0, 0, #[], #[], #[], 0, 0, [], [], [], 0, 0, 0, ⟨#[]⟩, fun _ => ⟨#[]⟩, fun _ => ⟨#[]⟩, 0, 0, 0, 0, 0, 0, 0, 0, 0, #[], 0, 0, 0, 0, 0, 0, 0, 0, 0, 0, [], [], [], [], 0, 0, [], [], 0, 0, 0, 0, 0⟩⟩
/-- a list of addresses, each below the one ahead of it -/
noncomputable def Dec : List Nat → Prop
  | [] => True
  | a :: l => (∀ b ∈ l, b < a) ∧ Dec l
noncomputable def Sub2 (a b : Nat) : List Nat → Prop
  | [] => False
  | x :: l => (x = a ∧ b ∈ l) ∨ Sub2 a b l
theorem sub_head {a b : Nat} {l : List Nat} (h : b ∈ l) : Sub2 a b (a :: l) := .inl ⟨rfl, h⟩
theorem sub_tail {a b x : Nat} {l : List Nat} (h : Sub2 a b l) : Sub2 a b (x :: l) := .inr h
theorem Dec.lt {a b : Nat} : ∀ {l : List Nat}, Dec l → Sub2 a b l → b < a
  | [], _, s => s.elim
  | x :: l, h, s => s.elim (fun q => q.1 ▸ h.1 b q.2) fun q => Dec.lt h.2 q
theorem Dec.ne {a b : Nat} {l : List Nat} (h : Dec l) (s : Sub2 a b l) : a ≠ b := Nat.ne_of_gt (h.lt s)
theorem Dec.ne' {a b : Nat} {l : List Nat} (h : Dec l) (s : Sub2 a b l) : b ≠ a := Nat.ne_of_lt (h.lt s)
theorem Dec.cons {a b : Nat} {l : List Nat} (h : b < a) (d : Dec (b :: l)) : Dec (a :: b :: l) :=
  ⟨fun c hc => (List.mem_cons.mp hc).elim (fun e => e ▸ h) fun q => Nat.lt_trans (d.1 c q) h, d⟩
theorem decL {L : Nat} (h : 108 < L) : Dec [L + 1 + 1 + 1 + 1 + 1 + 1 + 1, L + 1 + 1 + 1 + 1 + 1 + 1, L + 1 + 1 + 1 + 1 + 1, L + 1 + 1 + 1 + 1, L + 1 + 1 + 1, L + 1 + 1, L + 1, 108, 101] :=
  .cons (Nat.lt_succ_self _) (.cons (Nat.lt_succ_self _) (.cons (Nat.lt_succ_self _) (.cons (Nat.lt_succ_self _) (.cons (Nat.lt_succ_self _) (.cons (Nat.lt_succ_self _) (.cons (Nat.lt_succ_of_lt h) (.cons (by decide) ⟨fun _ q => (List.not_mem_nil q).elim, trivial⟩)))))))
@[reducible] def EnV : Type := (Program) × (World) × (Around) × (Shared) × (Env) × (Result → Shared → Prop) × (Str) × (Str) × (Pos) × (Pos) × (Pos) × (Nat) × (List Stmt) × (Nat) × (Nat) × (Nat) × (Array Value)
theorem env0 : Nonempty EnV := ⟨⟨PG, W0, (Around.mk none 0 none none 0), {}, default, fun _ _ => True, ⟨#[]⟩, ⟨#[]⟩, default, default, default, 0, [], 0, 0, 0, #[]⟩⟩
noncomputable def Senum_for (prog : Program) (w : World) (A : Around) (s : Shared) (env : Env) (R : Result → Shared → Prop) (xi : Str) (xv : Str) (pi : Pos) (pv : Pos) (pt : Pos) (x1 : Nat) (body : List Stmt) (e : Addr) (it : Addr) (l : Addr) (items : Array Value) : Prop := ∀ (hh : A.handled = none) (hxi : env.kindOf xi = some .local) (hxv : env.kindOf xv = some .local) (hp : (env.scope.kind == .class || (env.scope.kind == .module && env.locals != env.globals)) = false) (hei : e ≠ it) (heL : e ≠ env.locals) (hiL : it ≠ env.locals) (hle : l ≠ e) (hli : l ≠ it) (J : Nat → Shared → Prop) (look : ∀ i s, J i s → (∃ old, IsEnum s.heap e it ((i : Nat) : Int) old) ∧ s.heap.IsListIter it l i ∧ s.heap.IsList l items ∧ (∃ m, s.heap.Ns env.locals m) ∧ i ≤ items.size) (step : ∀ i v m s h' tk tk', J i s → items[i]? = some v → s.heap.Ns env.locals m → IsEnum h' e it ((i + 1 : Nat) : Int) v → h'.IsListIter it l (i + 1) →
      h'.Ns env.locals (fun y => if y = xv then some v else if y = xi then some (.int i tk) else m y) →
      (∀ b o, b ≠ env.locals → b ≠ e → b ≠ it → s.heap.get? b = some o → h'.get? b = some o) →
      wpAny (model prog w) A (execs body env) (fun f s₂ => Halt (f = .next ∧ J (i + 1) s₂)) (fun _ _ => False) { s with heap := h', toks := tk' }) (h0 : J 0 s) (hR : ∀ s h', J items.size s → (∀ b o, b ≠ it → s.heap.get? b = some o → h'.get? b = some o) → R (.ok .next) { s with heap := h' }),
    codeAny (model prog w) A (.forLoop (.Tuple [.Name xi pi, .Name xv pv] x1 pt) (.ref e) body [] env) R s
noncomputable def cenum_for : EnV := @Classical.epsilon EnV env0 fun x => ¬ Senum_for x.1 x.2.1 x.2.2.1 x.2.2.2.1 x.2.2.2.2.1 x.2.2.2.2.2.1 x.2.2.2.2.2.2.1 x.2.2.2.2.2.2.2.1 x.2.2.2.2.2.2.2.2.1 x.2.2.2.2.2.2.2.2.2.1 x.2.2.2.2.2.2.2.2.2.2.1 x.2.2.2.2.2.2.2.2.2.2.2.1 x.2.2.2.2.2.2.2.2.2.2.2.2.1 x.2.2.2.2.2.2.2.2.2.2.2.2.2.1 x.2.2.2.2.2.2.2.2.2.2.2.2.2.2.1 x.2.2.2.2.2.2.2.2.2.2.2.2.2.2.2.1 x.2.2.2.2.2.2.2.2.2.2.2.2.2.2.2.2
namespace Kenum_for
@[irreducible] noncomputable def prog : Program := cenum_for.1
@[irreducible] noncomputable def w : World := cenum_for.2.1
@[irreducible] noncomputable def A : Around := cenum_for.2.2.1
@[irreducible] noncomputable def s : Shared := cenum_for.2.2.2.1
@[irreducible] noncomputable def env : Env := cenum_for.2.2.2.2.1
@[irreducible] noncomputable def R : Result → Shared → Prop := cenum_for.2.2.2.2.2.1
@[irreducible] noncomputable def xi : Str := cenum_for.2.2.2.2.2.2.1
@[irreducible] noncomputable def xv : Str := cenum_for.2.2.2.2.2.2.2.1
@[irreducible] noncomputable def pi : Pos := cenum_for.2.2.2.2.2.2.2.2.1
@[irreducible] noncomputable def pv : Pos := cenum_for.2.2.2.2.2.2.2.2.2.1
@[irreducible] noncomputable def pt : Pos := cenum_for.2.2.2.2.2.2.2.2.2.2.1
@[irreducible] noncomputable def x1 : Nat := cenum_for.2.2.2.2.2.2.2.2.2.2.2.1
@[irreducible] noncomputable def body : List Stmt := cenum_for.2.2.2.2.2.2.2.2.2.2.2.2.1
@[irreducible] noncomputable def e : Addr := cenum_for.2.2.2.2.2.2.2.2.2.2.2.2.2.1
@[irreducible] noncomputable def it : Addr := cenum_for.2.2.2.2.2.2.2.2.2.2.2.2.2.2.1
@[irreducible] noncomputable def l : Addr := cenum_for.2.2.2.2.2.2.2.2.2.2.2.2.2.2.2.1
@[irreducible] noncomputable def items : Array Value := cenum_for.2.2.2.2.2.2.2.2.2.2.2.2.2.2.2.2
theorem holds : Senum_for prog w A s env R xi xv pi pv pt x1 body e it l items := by
  intro hh hxi hxv hp hei heL hiL hle hli J look step h0 hR
  refine codeAny_forLoop_any (fun k s' => ∃ i, J i s' ∧ k = items.size + 1 - i) ?_ (items.size + 1) ⟨0, h0, rfl⟩
  rintro k s' ⟨i, hJ, rfl⟩
  obtain ⟨⟨old, he'⟩, hit', hl', ⟨m', hn'⟩, hi⟩ := look i s' hJ
  obtain ⟨H, gs, dr, tk, os⟩ := s'
  cases hv : items[i]? with
  | none =>
    have hsz : i = items.size := Nat.le_antisymm hi (by simpa using hv)
    refine wpAny_pyNext_enum_end hh he' hit' hl' hv fun h₁ he₁ => wpAny_execs_nil ?_
    subst hsz
    exact hR ⟨H, gs, dr, tk, os⟩ h₁ hJ he₁
  | some v =>
    have hlt : i < items.size := (Array.getElem?_eq_some_iff.mp hv).1
    have heH : e < H.objs.size := Heap.lt_size he'
    have hLH : env.locals < H.objs.size := hn'.lt
    obtain ⟨oi, hoi, _⟩ := id hit'
    obtain ⟨ol, hol, _⟩ := id hl'
    have hiH : it < H.objs.size := Heap.lt_size hoi
    have hlH : l < H.objs.size := Heap.lt_size hol
    refine wpAny_pyNext_enum_item he' hit' hl' hv hei fun h₁ heo hit₁ ht₁ hz₁ hk₁ => ?_
    refine wpAny_letOwnedTupleGo_enum heo fun h₂ he₂ hs₂ => ?_
    replace hs₂ : Heap.SameBut e h₁ h₂ := hs₂
    have ht₂ : h₂.IsTuple H.objs.size #[.int i tk, v] := ⟨_, (hs₂.2 _ (Nat.ne_of_gt heH)).trans ht₁, rfl, _, rfl⟩
    have hz₂ : h₂.objs.size = H.objs.size + 1 := hs₂.1.trans hz₁
    refine wpAny_assign_Tuple hh ht₂ rfl rfl fun h₃ hx₃ => ?_
    replace hx₃ : Heap.ExtBut h₂.objs.size h₂ h₃ := hx₃
    have old₃ : ∀ b o, b < H.objs.size → h₂.get? b = some o → h₃.get? b = some o := fun b o hb x => hx₃ b o (by rw [hz₂]; exact Nat.ne_of_lt (Nat.lt_succ_of_lt hb)) x
    have hn₃ : h₃.Ns env.locals m' := (hn'.at fun o x => hk₁ _ o (Ne.symm heL) (Ne.symm hiL) x).sameBut hs₂ (Ne.symm heL) |>.at fun o x => old₃ _ o hLH x
    show wpAny _ A (do holding [v] (assign (.Name xi pi) env (.int i tk)); do holding [] (assign (.Name xv pv) env v); pure ()) _ _ _
    refine wpAny_bind (wpAny_holding (wpAny_assign_Name (wpAny_storeName_local hxi hn₃ (fun h₄ hn₄ hs₄ => ?_) hp)))
    replace hs₄ : Heap.SameBut env.locals h₃ h₄ := hs₄
    refine wpAny_bind (wpAny_holding (wpAny_assign_Name (wpAny_storeName_local hxv hn₄ (fun h₅ hn₅ hs₅ => wpAny_pure ?_) hp)))
    replace hs₅ : Heap.SameBut env.locals h₄ h₅ := hs₅
    have up : ∀ b o, b ≠ env.locals → b < H.objs.size → h₂.get? b = some o → h₅.get? b = some o := fun b o hbL hb x =>
      hs₅.extBut b o hbL (hs₄.extBut b o hbL (old₃ b o hb x))
    have hi1 : ((i + 1 : Nat) : Int) = (i : Int) + 1 := by push_cast; rfl
    refine wpAny_mono (step i v m' ⟨H, gs, dr, tk, os⟩ h₅ tk _ hJ hv hn' (by rw [hi1]; exact up e _ heL heH he₂) ((hit₁.extBut hs₂.extBut (Ne.symm hei)).at fun o x => up it o hiL hiH x) hn₅ fun b o hbL hbe hbi x => ?_) (fun f s₃ h₆ => ?_) fun _ _ x => x.elim
    · have hbH : b < H.objs.size := Heap.lt_size x
      exact up b o hbL hbH (hs₂.extBut b o hbe (hk₁ b o hbe hbi x))
    · obtain ⟨rfl, hJ₆⟩ := h₆
      exact ⟨items.size + 1 - (i + 1), by omega, i + 1, hJ₆, rfl⟩
end Kenum_for
theorem enum_for {prog : Program} {w : World} {A : Around} {s : Shared} {env : Env} {R : Result → Shared → Prop} {xi xv : Str} {pi pv pt : Pos} {x1 : Nat} {body : List Stmt} {e it l : Addr} {items : Array Value}
    (hh : A.handled = none) (hxi : env.kindOf xi = some .local) (hxv : env.kindOf xv = some .local)
    (hp : (env.scope.kind == .class || (env.scope.kind == .module && env.locals != env.globals)) = false)
    (hei : e ≠ it) (heL : e ≠ env.locals) (hiL : it ≠ env.locals) (hle : l ≠ e) (hli : l ≠ it)
    (J : Nat → Shared → Prop)
    (look : ∀ i s, J i s → (∃ old, IsEnum s.heap e it ((i : Nat) : Int) old) ∧ s.heap.IsListIter it l i ∧ s.heap.IsList l items ∧ (∃ m, s.heap.Ns env.locals m) ∧ i ≤ items.size)
    (step : ∀ i v m s h' tk tk', J i s → items[i]? = some v → s.heap.Ns env.locals m → IsEnum h' e it ((i + 1 : Nat) : Int) v → h'.IsListIter it l (i + 1) →
      h'.Ns env.locals (fun y => if y = xv then some v else if y = xi then some (.int i tk) else m y) →
      (∀ b o, b ≠ env.locals → b ≠ e → b ≠ it → s.heap.get? b = some o → h'.get? b = some o) →
      wpAny (model prog w) A (execs body env) (fun f s₂ => Halt (f = .next ∧ J (i + 1) s₂)) (fun _ _ => False) { s with heap := h', toks := tk' })
    (h0 : J 0 s)
    (hR : ∀ s h', J items.size s → (∀ b o, b ≠ it → s.heap.get? b = some o → h'.get? b = some o) → R (.ok .next) { s with heap := h' }) :
    codeAny (model prog w) A (.forLoop (.Tuple [.Name xi pi, .Name xv pv] x1 pt) (.ref e) body [] env) R s := by
  exact skolem env0 (fun x => Senum_for x.1 x.2.1 x.2.2.1 x.2.2.2.1 x.2.2.2.2.1 x.2.2.2.2.2.1 x.2.2.2.2.2.2.1 x.2.2.2.2.2.2.2.1 x.2.2.2.2.2.2.2.2.1 x.2.2.2.2.2.2.2.2.2.1 x.2.2.2.2.2.2.2.2.2.2.1 x.2.2.2.2.2.2.2.2.2.2.2.1 x.2.2.2.2.2.2.2.2.2.2.2.2.1 x.2.2.2.2.2.2.2.2.2.2.2.2.2.1 x.2.2.2.2.2.2.2.2.2.2.2.2.2.2.1 x.2.2.2.2.2.2.2.2.2.2.2.2.2.2.2.1 x.2.2.2.2.2.2.2.2.2.2.2.2.2.2.2.2) (by with_unfolding_all exact Kenum_for.holds) ⟨prog, w, A, s, env, R, xi, xv, pi, pv, pt, x1, body, e, it, l, items⟩ hh hxi hxv hp hei heL hiL hle hli J look step h0 hR
end
end Mine
end OfA21
section OfA22
open PySem PySem.W PySem.W.X PyProof.Rows
set_option Elab.async false
set_option maxRecDepth 100000
set_option maxHeartbeats 4000000
set_option pp.maxSteps 3000
namespace Mine
noncomputable section
theorem filled22 : kk.heap_1 = kk.heap_1 ∧ PySem.Challenge.rw_wu0057_01.name = PySem.Challenge.rw_wu0057_01.name := by
  k_fill
  exact ⟨rfl, rfl⟩
theorem enum_fr {g h h' : Heap} {L e it : Addr} {m m' : Str → Option Value} {oe oi oe' oi' : Obj} {rest : List (Addr × Obj)} (F : Fr g L h m) (N : News g L h ((e, oe) :: (it, oi) :: rest)) (hne : ∀ p ∈ rest, p.1 ≠ e ∧ p.1 ≠ it)
    (he' : h'.get? e = some oe') (hi' : h'.get? it = some oi') (hn : h'.Ns L m') (hk : ∀ b o, b ≠ L → b ≠ e → b ≠ it → h.get? b = some o → h'.get? b = some o) :
    Fr g L h' m' ∧ News g L h' ((e, oe') :: (it, oi') :: rest) := by
  obtain ⟨_, e2, e3⟩ := N (e, oe) (List.mem_cons_self ..)
  obtain ⟨_, i2, i3⟩ := N (it, oi) (List.mem_cons_of_mem _ (List.mem_cons_self ..))
  refine ⟨⟨hn, fun b o x => ?_, F.above⟩, fun p hp => ?_⟩
  · refine hk b o ?_ ?_ ?_ (F.keep b o x)
    · exact Nat.ne_of_lt (Nat.lt_of_lt_of_le (Heap.lt_size x) F.above)
    · rintro rfl; rw [e3] at x; cases x
    · rintro rfl; rw [i3] at x; cases x
  · rcases List.mem_cons.mp hp with rfl | hp
    · exact ⟨he', e2, e3⟩
    · rcases List.mem_cons.mp hp with rfl | hp
      · exact ⟨hi', i2, i3⟩
      · obtain ⟨p1, p2, p3⟩ := N p (List.mem_cons_of_mem _ (List.mem_cons_of_mem _ hp))
        exact ⟨hk _ _ p2 (hne p hp).1 (hne p hp).2 p1, p2, p3⟩
theorem end_fr {g h h' : Heap} {L e it : Addr} {m : Str → Option Value} {oe oi : Obj} {rest : List (Addr × Obj)} (F : Fr g L h m) (N : News g L h ((e, oe) :: (it, oi) :: rest)) (hne : ∀ p ∈ rest, p.1 ≠ it)
    (hk : ∀ b o, b ≠ it → h.get? b = some o → h'.get? b = some o) : Fr g L h' m ∧ News g L h' rest := by
  obtain ⟨_, i2, i3⟩ := N (it, oi) (List.mem_cons_of_mem _ (List.mem_cons_self ..))
  refine ⟨⟨?_, fun b o x => ?_, F.above⟩, fun p hp => ?_⟩
  · exact F.ns.at' fun o x => hk _ _ (Ne.symm i2) x
  · refine hk b o ?_ (F.keep b o x)
    rintro rfl; rw [i3] at x; cases x
  · obtain ⟨p1, p2, p3⟩ := N p (List.mem_cons_of_mem _ (List.mem_cons_of_mem _ hp))
    exact ⟨hk _ _ (hne p hp) p1, p2, p3⟩
theorem ns_unique {h : Heap} {a : Addr} {m m' : Str → Option Value} (x : h.Ns a m) (y : h.Ns a m') : m = m' := by
  obtain ⟨o, es, ep, g1, g2, _, g4⟩ := x
  obtain ⟨o', es', ep', g1', g2', _, g4'⟩ := y
  rw [g1] at g1'; cases g1'; rw [g2] at g2'; cases g2'
  funext x; rw [← g4, ← g4']
theorem ints_get {vs : List Value} {ns : List Int} (h : IntsAre vs ns) {i : Nat} {v : Value} (e : vs[i]? = some v) : ∃ y t, v = .int y t := by
  induction h generalizing i with
  | nil => cases e
  | cons x t _ ih =>
    cases i with
    | zero => cases e; exact ⟨_, _, rfl⟩
    | succ i => exact ih e
theorem news_sub {g h : Heap} {L : Addr} {l l' : List (Addr × Obj)} (N : News g L h l) (hs : ∀ p ∈ l', p ∈ l) : News g L h l' := fun p hp => N p (hs p hp)
noncomputable abbrev enumO (it : Addr) (i : Nat) (old : Value) : Obj := { cls := .type "enumerate", dict := none, data := .fields #[.none, .bool false, .ref it, rawInt ((i : Nat) : Int), .none, old], slots := #[] }
noncomputable def IterO (o : Obj) (l : Addr) (i : Nat) : Prop := ∀ (h : Heap) (I : Addr), h.get? I = some o → h.IsListIter I l i
theorem iterO_of {h : Heap} {I l : Addr} {i : Nat} (x : h.IsListIter I l i) : ∃ o, h.get? I = some o ∧ IterO o l i := by
  obtain ⟨o, e, c, d⟩ := x
  exact ⟨o, e, fun h' I' e' => ⟨o, e', c, d⟩⟩
local macro_rules | `(tactic| walk_at "nmX") => `(tactic| (refine nameX_L (by k_asm) (by first | assumption | (dsimp only; (repeat rw [if_neg (by decide)]); first | assumption | (rw [if_pos rfl]))) ?_))
local macro_rules | `(tactic| walk_at "eval Name") => `(tactic| (k_here; walk_at "nmX"))
noncomputable def Ss1 (w : World) (mean : ExcName → Option Value) (mg : Str → Option Value) (mb : Str → Option Value) (g : Heap) (L : Addr) (fa : Addr) (cd : Value) (dp : Nat) (fr : Option (List Env)) (gd : Option (List Code)) (un : Nat) (Q : Flow → Shared → Prop) (m : Str → Option Value) (s : Shared) (news : List (Addr × Obj)) (ls : Addr) (c : Addr) (vs : List Value) (xs : List Int) (its : List Value) (cs : List Int) (n : Nat) : Prop := ∀ (hS : St w mean mg mb g) (hA : AOk 59 (Around.mk none dp fr gd un)) (F : Fr g L s.heap m) (hsc : m "script" = some (.ref ls)) (hce : m "cells" = some (.ref c)) (hL : g.IsList ls vs.toArray) (hI : IntsAre vs xs) (hlen : xs.length ≤ 63) (hcs : IntsAre its cs) (hcl : cs.length = 8) (N : News g L s.heap ((c, W.listOf its.toArray n) :: news)) (hnews : ∀ p ∈ news, p.1 < c) (hQ : ∀ h' tk m' its' cs' n', Fr g L h' m' → m' "cells" = some (.ref c) → IntsAre its' cs' → cs'.length = 8 → News g L h' ((c, W.listOf its'.toArray n') :: news) → Q .next { s with heap := h', toks := tk }),
    wpAny (model PG w) (Around.mk none dp fr gd un) (exec (st 1) (lawEnv L fa cd)) Q (fun _ _ => False) s
noncomputable def cs1 : LV := @Classical.epsilon LV lv0 fun x => ¬ Ss1 x.w x.mean x.mg x.mb x.g x.L x.fa x.cd x.dp x.fr x.gd x.un x.Q x.m x.s x.news x.ls x.c x.vs x.xs x.its x.cs x.n
namespace Ks1
@[irreducible] noncomputable def w : World := cs1.w
@[irreducible] noncomputable def mean : ExcName → Option Value := cs1.mean
@[irreducible] noncomputable def mg : Str → Option Value := cs1.mg
@[irreducible] noncomputable def mb : Str → Option Value := cs1.mb
@[irreducible] noncomputable def g : Heap := cs1.g
@[irreducible] noncomputable def L : Addr := cs1.L
@[irreducible] noncomputable def fa : Addr := cs1.fa
@[irreducible] noncomputable def cd : Value := cs1.cd
@[irreducible] noncomputable def dp : Nat := cs1.dp
@[irreducible] noncomputable def fr : Option (List Env) := cs1.fr
@[irreducible] noncomputable def gd : Option (List Code) := cs1.gd
@[irreducible] noncomputable def un : Nat := cs1.un
@[irreducible] noncomputable def Q : Flow → Shared → Prop := cs1.Q
@[irreducible] noncomputable def m : Str → Option Value := cs1.m
@[irreducible] noncomputable def s : Shared := cs1.s
@[irreducible] noncomputable def news : List (Addr × Obj) := cs1.news
@[irreducible] noncomputable def ls : Addr := cs1.ls
@[irreducible] noncomputable def c : Addr := cs1.c
@[irreducible] noncomputable def vs : List Value := cs1.vs
@[irreducible] noncomputable def xs : List Int := cs1.xs
@[irreducible] noncomputable def its : List Value := cs1.its
@[irreducible] noncomputable def cs : List Int := cs1.cs
@[irreducible] noncomputable def n : Nat := cs1.n
theorem holds : Ss1 w mean mg mb g L fa cd dp fr gd un Q m s news ls c vs xs its cs n := by
  intro hS hA F hsc hce hL hI hlen hcs hcl N hnews hQ
  have X := hS.X
  have T := hS.T
  dsimp only [lawEnv]
  conv in (occs := *) (DefRec.scope lawRec) => all_goals whnf
  conv in (st 1) => whnf
  refine wpAny_For ?_
  k_steps
  rename_i D ws h1 F1 N1 hI1 hC1 hL1 l1
  have hD := N1.get (List.mem_cons_self ..)
  have hLD : D ≠ L := (N1 _ (List.mem_cons_self ..)).2.1
  have hcL : c ≠ L := (N1 _ (List.mem_cons_of_mem _ (List.mem_cons_self ..))).2.1
  refine call_enumerate_list (l := D) (items := ws.toArray) ⟨_, hD, rfl, _, rfl⟩ fun h2 he hit hz hk => ?_
  refine wpAny_pyIter_enum he ?_
  have hsz : h1.objs.size = h1.objs.size := rfl
  obtain ⟨oI, eI, hoI⟩ := iterO_of hit
  have f1 := F1.keeps hk
  have n1 : News g L h2 ((h1.objs.size + 1, enumO h1.objs.size 0 .none) :: (h1.objs.size, oI) :: (D, W.listOf ws.toArray 0) :: (c, W.listOf its.toArray n) :: news) := by
    have gs : ∀ a, h1.objs.size ≤ a → a ≠ L ∧ g.get? a = none := by
      intro a ha
      have hLs : L < h1.objs.size := F1.ns.lt
      refine ⟨Nat.ne_of_gt (Nat.lt_of_lt_of_le hLs ha), ?_⟩
      cases q : g.get? a with
      | none => rfl
      | some o => exact absurd (Heap.lt_size (F1.keep _ _ q)) (Nat.not_lt.mpr ha)
    intro p hp
    rcases List.mem_cons.mp hp with rfl | hp
    · exact ⟨he, gs _ (Nat.le_succ _)⟩
    · rcases List.mem_cons.mp hp with rfl | hp
      · exact ⟨eI, gs _ (Nat.le_refl _)⟩
      · exact N1.grown hk p hp
  have hlt : ∀ p ∈ (D, W.listOf ws.toArray 0) :: (c, W.listOf its.toArray n) :: news, p.1 < h1.objs.size := fun p hp => Heap.lt_size (N1 p hp).1
  have hDlt := hlt _ (List.mem_cons_self ..)
  have hclt := hlt _ (List.mem_cons_of_mem _ (List.mem_cons_self ..))
  have hnlt : ∀ p ∈ news, p.1 < h1.objs.size := fun p hp => hlt p (List.mem_cons_of_mem _ (List.mem_cons_of_mem _ hp))
  have hLlt : L < h1.objs.size := F1.ns.lt
  clear N1 F1 hsz
  generalize h1.objs.size = it at *
  refine enum_for (A := { depth := dp, frames := fr, guards := gd, units := un }) (l := D) (it := it) (items := ws.toArray) rfl (by with_unfolding_all rfl) (by with_unfolding_all rfl) (by with_unfolding_all rfl) (Nat.ne_of_gt (Nat.lt_succ_self _)) (Nat.ne_of_gt (Nat.lt_succ_of_lt hLlt)) (Nat.ne_of_gt hLlt) (Nat.ne_of_lt (Nat.lt_succ_of_lt hDlt)) (Nat.ne_of_lt hDlt)
    (fun i s' => ∃ h' tk m' its' cs' n' old oI, s' = { s with heap := h', toks := tk } ∧ Fr g L h' m' ∧ m' "cells" = some (.ref c) ∧ News g L h' ((it + 1, enumO it i old) :: (it, oI) :: (D, W.listOf ws.toArray 0) :: (c, W.listOf its'.toArray n') :: news) ∧ IterO oI D i ∧ IntsAre its' cs' ∧ cs'.length = 8 ∧ i ≤ ws.length) ?_ ?_ ?_ ?_
  · rintro i s' ⟨h', tk, m', its', cs', n', old, oI, rfl, F', hce', N', hoI, hI', hcl', hi⟩
    refine ⟨⟨old, N'.get (List.mem_cons_self ..)⟩, hoI _ _ (N'.get (List.mem_cons_of_mem _ (List.mem_cons_self ..))), ⟨_, N'.get (List.mem_cons_of_mem _ (List.mem_cons_of_mem _ (List.mem_cons_self ..))), rfl, _, rfl⟩, ⟨_, F'.ns⟩, by simpa using hi⟩
  · rintro i v m0 s' h6 tk6 tk7 ⟨h', tk, m', its', cs', n', old, oI, rfl, F', hce', N', hoI, hI', hcl', hi⟩ hv hn0 he6 hit6 hn6 hk6
    have hne : ∀ p ∈ (D, W.listOf ws.toArray 0) :: (c, W.listOf its'.toArray n') :: news, p.1 ≠ it + 1 ∧ p.1 ≠ it := by
      intro p hp
      rcases List.mem_cons.mp hp with rfl | hp
      · exact ⟨Nat.ne_of_lt (Nat.lt_succ_of_lt hDlt), Nat.ne_of_lt hDlt⟩
      · rcases List.mem_cons.mp hp with rfl | hp
        · exact ⟨Nat.ne_of_lt (Nat.lt_succ_of_lt hclt), Nat.ne_of_lt hclt⟩
        · exact ⟨Nat.ne_of_lt (Nat.lt_succ_of_lt (hnlt p hp)), Nat.ne_of_lt (hnlt p hp)⟩
    obtain ⟨oI', eI', hoI'⟩ := iterO_of hit6
    obtain rfl := ns_unique F'.ns hn0
    obtain ⟨F6, N6⟩ := enum_fr F' N' hne he6 eI' hn6 hk6
    have hi2 : i < ws.length := by
      have := (Array.getElem?_eq_some_iff.mp hv).1
      simpa using this
    obtain ⟨y, ty, rfl⟩ : ∃ y ty, v = .int y ty := ints_get (i := i) hI1 (by rw [← hv]; simp)
    clear F' N'
    have hk0 : 0 ≤ ((i : Nat) : Int).fmod 8 ∧ ((i : Nat) : Int).fmod 8 < 8 := by
      rw [Int.fmod_eq_emod_of_nonneg _ (by omega)]; omega
    dsimp only
    iterate 16 walk_at "kst"
    rename Fr _ _ _ _ => F7
    have hcit : c ≠ it + 1 := Nat.ne_of_lt (Nat.lt_succ_of_lt hclt)
    refine ksa_set (s := ⟨h6, _, _, _, _⟩) F7 N6 (Upd.tail (by exact Ne.symm hcit) (Upd.tail (by exact Ne.symm (Nat.ne_of_lt hclt)) (Upd.tail (by exact Ne.symm (Nat.ne_of_lt l1.1)) (Upd.head fun p hp => Nat.ne_of_lt (hnews p hp))))) hI' hk0.1 (by rw [hcl']; omega) (by omega) fun h7 F8 N8 hI8 hl8 _ => ?_
    (try dsimp only)
    k_steps
    refine unhalt ⟨rfl, h7, _, _, _, _, _, _, _, rfl, F8, ?_, N8, hoI', hI8, by rw [hl8, hcl'], hi2⟩
    (try dsimp only)
    first | exact hce' | (rw [if_neg (by decide), if_neg (by decide)]; exact hce')
  · exact ⟨_, _, _, _, _, _, _, _, rfl, f1, hce, n1, hoI, hcs, hcl, Nat.zero_le _⟩
  · rintro s' h6 ⟨h', tk, m', its', cs', n', old, oI, rfl, F', hce', N', hoI, hI', hcl', hi⟩ hk6
    have hne : ∀ p ∈ (D, W.listOf ws.toArray 0) :: (c, W.listOf its'.toArray n') :: news, p.1 ≠ it := by
      intro p hp
      rcases List.mem_cons.mp hp with rfl | hp
      · exact Nat.ne_of_lt hDlt
      · rcases List.mem_cons.mp hp with rfl | hp
        · exact Nat.ne_of_lt hclt
        · exact Nat.ne_of_lt (hnlt p hp)
    obtain ⟨F6, N6⟩ := end_fr F' N' hne hk6
    exact hQ h6 tk m' its' cs' n' F6 hce' hI' hcl' (news_sub N6 fun p hp => List.mem_cons_of_mem _ hp)
end Ks1
theorem s1 {w : World} {mean : ExcName → Option Value} {mg mb : Str → Option Value} {g : Heap} {L fa : Addr} {cd : Value} {A : Around} {Q : Flow → Shared → Prop} {m : Str → Option Value} {s : Shared} {news : List (Addr × Obj)}
    {ls c : Addr} {vs : List Value} {xs : List Int} {its : List Value} {cs : List Int} {n : Nat}
    (hS : St w mean mg mb g) (hA : AOk 59 A) (F : Fr g L s.heap m) (hsc : m "script" = some (.ref ls)) (hce : m "cells" = some (.ref c)) (hL : g.IsList ls vs.toArray) (hI : IntsAre vs xs) (hlen : xs.length ≤ 63)
    (hcs : IntsAre its cs) (hcl : cs.length = 8)
    (N : News g L s.heap ((c, W.listOf its.toArray n) :: news)) (hnews : ∀ p ∈ news, p.1 < c)
    (hQ : ∀ h' tk m' its' cs' n', Fr g L h' m' → m' "cells" = some (.ref c) → IntsAre its' cs' → cs'.length = 8 → News g L h' ((c, W.listOf its'.toArray n') :: news) → Q .next { s with heap := h', toks := tk }) : wpAny (model PG w) A (exec (st 1) (lawEnv L fa cd)) Q (fun _ _ => False) s := by
  obtain ⟨hd0, dp, fr, gd, un⟩ := A
  obtain rfl : hd0 = none := hA.hd
  exact skolem lv0 (fun x => Ss1 x.w x.mean x.mg x.mb x.g x.L x.fa x.cd x.dp x.fr x.gd x.un x.Q x.m x.s x.news x.ls x.c x.vs x.xs x.its x.cs x.n) (by with_unfolding_all exact Ks1.holds) ⟨w, mean, mg, mb, g, L, fa, cd, dp, fr, gd, un, Q, m, s, news, ls, c, vs, xs, its, cs, n, (Classical.choice lv0).oc, (Classical.choice lv0).rest, (Classical.choice lv0).o1, (Classical.choice lv0).o2, (Classical.choice lv0).o3, (Classical.choice lv0).o4, (Classical.choice lv0).o5, (Classical.choice lv0).o6, (Classical.choice lv0).o7, (Classical.choice lv0).d, (Classical.choice lv0).r, (Classical.choice lv0).aT, (Classical.choice lv0).aG, (Classical.choice lv0).aK, (Classical.choice lv0).aTo, (Classical.choice lv0).aS, (Classical.choice lv0).aD, (Classical.choice lv0).it, (Classical.choice lv0).e, (Classical.choice lv0).i, (Classical.choice lv0).nbx, (Classical.choice lv0).tn, (Classical.choice lv0).tk0, (Classical.choice lv0).oI, (Classical.choice lv0).oE, (Classical.choice lv0).xT, (Classical.choice lv0).xG, (Classical.choice lv0).xK, (Classical.choice lv0).xTo, (Classical.choice lv0).xS, (Classical.choice lv0).xD, (Classical.choice lv0).itsbx, (Classical.choice lv0).nT, (Classical.choice lv0).nG, (Classical.choice lv0).nK, (Classical.choice lv0).nTo, (Classical.choice lv0).nS, (Classical.choice lv0).nD, (Classical.choice lv0).nC, (Classical.choice lv0).nr, (Classical.choice lv0).ritems, (Classical.choice lv0).p1, (Classical.choice lv0).p2, (Classical.choice lv0).t2, (Classical.choice lv0).t3, (Classical.choice lv0).yT, (Classical.choice lv0).tt, (Classical.choice lv0).tl, (Classical.choice lv0).v, (Classical.choice lv0).tv, (Classical.choice lv0).tm, (Classical.choice lv0).mkS, (Classical.choice lv0).fa', (Classical.choice lv0).fb', (Classical.choice lv0).l, (Classical.choice lv0).mkF, (Classical.choice lv0).bk, (Classical.choice lv0).tw, (Classical.choice lv0).tb, (Classical.choice lv0).td, (Classical.choice lv0).dl, (Classical.choice lv0).aGp, (Classical.choice lv0).nGp, (Classical.choice lv0).xGp, (Classical.choice lv0).r0, (Classical.choice lv0).r1, (Classical.choice lv0).r2, (Classical.choice lv0).r3, (Classical.choice lv0).k0, (Classical.choice lv0).k1, (Classical.choice lv0).k2, (Classical.choice lv0).k3, (Classical.choice lv0).aTb, (Classical.choice lv0).nTb, (Classical.choice lv0).v0, (Classical.choice lv0).v1, (Classical.choice lv0).v2, (Classical.choice lv0).v3, (Classical.choice lv0).aX, (Classical.choice lv0).nX, (Classical.choice lv0).xX, (Classical.choice lv0).ns, (Classical.choice lv0).c0, (Classical.choice lv0).d0, (Classical.choice lv0).tc, (Classical.choice lv0).tf, (Classical.choice lv0).j⟩ hS hA F hsc hce hL hI hlen hcs hcl N hnews hQ
end
end Mine
end OfA22
local macro_rules | `(tactic| walk_at "nmX") => `(tactic| (refine nameX_L (by k_asm) (by first | assumption | (dsimp only; (repeat rw [if_neg (by decide)]); first | assumption | (rw [if_pos rfl]))) ?_))
section OfA23
open PySem PySem.W PySem.W.X PyProof.Rows
set_option Elab.async false
set_option maxRecDepth 100000
set_option maxHeartbeats 4000000
set_option pp.maxSteps 3000
namespace Mine
noncomputable section
theorem filled23 : kk.heap_1 = kk.heap_1 ∧ PySem.Challenge.rw_wu0057_01.name = PySem.Challenge.rw_wu0057_01.name := by
  k_fill
  exact ⟨rfl, rfl⟩
local macro_rules | `(tactic| walk_at "pad") => `(tactic| skip)
local macro_rules | `(tactic| k_ne) => `(tactic| (refine neN ?_; (try dsimp only); first | (refine Dec.ne (by assumption) ?_; (repeat (first | (refine sub_head ?_; k_mem; done) | refine sub_tail ?_)); done) | (refine Dec.ne' (by assumption) ?_; (repeat (first | (refine sub_head ?_; k_mem; done) | refine sub_tail ?_)); done) | (apply Nat.ne_of_gt; apply And.left; iterate 20 (try (first | assumption | apply And.right)); done) | (apply Nat.ne_of_lt; apply And.left; iterate 20 (try (first | assumption | apply And.right)); done) | omega))
local macro_rules | `(tactic| walk_at "eval Name") => `(tactic| (k_here; walk_at "nmX"))
theorem fresh_of {g h : Heap} {L a : Addr} {m : Str → Option Value} (F : Fr g L h m) (ha : h.objs.size ≤ a) : a ≠ L ∧ g.get? a = none := by
  have hLs : L < h.objs.size := F.ns.lt
  refine ⟨Nat.ne_of_gt (Nat.lt_of_lt_of_le hLs ha), ?_⟩
  cases q : g.get? a with
  | none => rfl
  | some o => exact absurd (Heap.lt_size (F.keep _ _ q)) (Nat.not_lt.mpr ha)
noncomputable def Ss2 (w : World) (mean : ExcName → Option Value) (mg : Str → Option Value) (mb : Str → Option Value) (g : Heap) (L : Nat) (fa : Nat) (cd : Value) (dp : Nat) (fr : Option (List Env)) (gd : Option (List Code)) (un : Nat) (Q : Flow → Shared → Prop) (m : Str → Option Value) (s : Shared) (c : Nat) (oc : Obj) (rest : List Stmt) (o1 : Obj) (o2 : Obj) (o3 : Obj) (o4 : Obj) (o5 : Obj) (o6 : Obj) (o7 : Obj) : Prop := ∀ (hS : St w mean mg mb g) (hA : AOk 59 (Around.mk none dp fr gd un)) (F : Fr g L s.heap m) (hce : m "cells" = some (.ref c)) (N : News g L s.heap [(c, oc), (L + 1 + 1 + 1 + 1 + 1 + 1 + 1, o7), (L + 1 + 1 + 1 + 1 + 1 + 1, o6), (L + 1 + 1 + 1 + 1 + 1, o5), (L + 1 + 1 + 1 + 1, o4), (L + 1 + 1 + 1, o3), (L + 1 + 1, o2), (L + 1, o1), (101, tabO #[]), (108, tabO #[])]) (hc : L + 1 + 1 + 1 + 1 + 1 + 1 + 1 < c) (hL : 108 < L) (l1 : o1.data = .cell none) (l2 : o2.data = .cell none) (l3 : o3.data = .cell none) (l4 : o4.data = .cell none) (l5 : o5.data = .cell none) (hQ : ∀ h' tk m' (aT aG aK aTo aS aD r d nr t2 t3 k1 k2 : Nat) o1 o2 o3 o4 o5, Fr g L h' m' → m' "cells" = some (.ref c) → m' "road" = some (.ref r) → m' "sizes" = some (.ref aS) →
      o1.data = .cell (some (.ref aT)) → o2.data = .cell (some (.ref aG)) → o3.data = .cell (some (.ref aK)) → o4.data = .cell (some (.ref aTo)) → o5.data = .cell (some (.ref aD)) →
      c < d → d < r → r < aT → aT < aG → aG < aK → aK < aTo → aTo < aS → aS < aD →
      News g L h' [(aD, W.listOf #[.int 0 k2] 0), (aS, W.listOf #[] 0), (aTo, W.listOf #[] 0), (aK, W.listOf #[] 0), (aG, W.listOf #[] 0), (aT, W.listOf #[.str "" k1] 0), (r, roadObj d #[] nr), (d, fullDict w t2 t3), (c, oc),
        (L + 1 + 1 + 1 + 1 + 1 + 1 + 1, o7), (L + 1 + 1 + 1 + 1 + 1 + 1, o6), (L + 1 + 1 + 1 + 1 + 1, o5), (L + 1 + 1 + 1 + 1, o4), (L + 1 + 1 + 1, o3), (L + 1 + 1, o2), (L + 1, o1), (101, tabO #[]), (108, tabO #[])] →
      wpAny (model PG w) (Around.mk none dp fr gd un) (execs rest (lawEnv L fa cd)) Q (fun _ _ => False) { s with heap := h', toks := tk }),
    wpAny (model PG w) (Around.mk none dp fr gd un) (execs (st 2 :: st 3 :: st 4 :: st 5 :: st 6 :: st 7 :: st 8 :: rest) (lawEnv L fa cd)) Q (fun _ _ => False) s
noncomputable def cs2 : LV := @Classical.epsilon LV lv0 fun x => ¬ Ss2 x.w x.mean x.mg x.mb x.g x.L x.fa x.cd x.dp x.fr x.gd x.un x.Q x.m x.s x.c x.oc x.rest x.o1 x.o2 x.o3 x.o4 x.o5 x.o6 x.o7
namespace Ks2
@[irreducible] noncomputable def w : World := cs2.w
@[irreducible] noncomputable def mean : ExcName → Option Value := cs2.mean
@[irreducible] noncomputable def mg : Str → Option Value := cs2.mg
@[irreducible] noncomputable def mb : Str → Option Value := cs2.mb
@[irreducible] noncomputable def g : Heap := cs2.g
@[irreducible] noncomputable def L : Nat := cs2.L
@[irreducible] noncomputable def fa : Nat := cs2.fa
@[irreducible] noncomputable def cd : Value := cs2.cd
@[irreducible] noncomputable def dp : Nat := cs2.dp
@[irreducible] noncomputable def fr : Option (List Env) := cs2.fr
@[irreducible] noncomputable def gd : Option (List Code) := cs2.gd
@[irreducible] noncomputable def un : Nat := cs2.un
@[irreducible] noncomputable def Q : Flow → Shared → Prop := cs2.Q
@[irreducible] noncomputable def m : Str → Option Value := cs2.m
@[irreducible] noncomputable def s : Shared := cs2.s
@[irreducible] noncomputable def c : Nat := cs2.c
@[irreducible] noncomputable def oc : Obj := cs2.oc
@[irreducible] noncomputable def rest : List Stmt := cs2.rest
@[irreducible] noncomputable def o1 : Obj := cs2.o1
@[irreducible] noncomputable def o2 : Obj := cs2.o2
@[irreducible] noncomputable def o3 : Obj := cs2.o3
@[irreducible] noncomputable def o4 : Obj := cs2.o4
@[irreducible] noncomputable def o5 : Obj := cs2.o5
@[irreducible] noncomputable def o6 : Obj := cs2.o6
@[irreducible] noncomputable def o7 : Obj := cs2.o7
theorem holds : Ss2 w mean mg mb g L fa cd dp fr gd un Q m s c oc rest o1 o2 o3 o4 o5 o6 o7 := by
  intro hS hA F hce N hc hL l1 l2 l3 l4 l5 hQ
  have X := hS.X
  have T := hS.T
  dsimp only [lawEnv]
  conv in (occs := *) (DefRec.scope lawRec) => all_goals whnf
  conv in (st 2) => whnf
  conv in (st 3) => whnf
  conv in (st 4) => whnf
  conv in (st 5) => whnf
  conv in (st 6) => whnf
  conv in (st 7) => whnf
  conv in (st 8) => whnf
  k_steps
  rename Fr _ _ _ _ => F1
  rename News _ _ _ _ => N1
  refine acc3 w mean mg mb _ { depth := dp, frames := fr, guards := gd, units := un } { s with toks := s.toks + 1 } _ _ (hA.le (by omega)) (hS.keeps F1.keep) fun r d h2 tk2 nr t2 hd1 hd2 hr hd k2 => ?_
  have fr2 := F1.keeps k2
  have n2 := N1.grown k2
  have hcd : c < d := Nat.lt_of_lt_of_le (Heap.lt_size (N1 _ (List.mem_cons_self ..)).1) hd1
  have q1 := fresh_of F1 hd1
  have q2 := fresh_of F1 (Nat.le_trans hd1 (Nat.le_of_lt hd2))
  have n3 : News g L h2 [(r, roadObj d #[] nr), (d, fullDict w t2 s.toks), (c, oc), (L + 1 + 1 + 1 + 1 + 1 + 1 + 1, o7), (L + 1 + 1 + 1 + 1 + 1 + 1, o6), (L + 1 + 1 + 1 + 1 + 1, o5), (L + 1 + 1 + 1 + 1, o4), (L + 1 + 1 + 1, o3), (L + 1 + 1, o2), (L + 1, o1), (101, tabO #[]), (108, tabO #[])] := by
    intro p hp
    rcases List.mem_cons.mp hp with rfl | hp
    · exact ⟨hr, q2⟩
    · rcases List.mem_cons.mp hp with rfl | hp
      · exact ⟨hd, q1⟩
      · exact n2 p hp
  have hDec := Dec.cons hd2 (.cons hcd (.cons hc (decL hL)))
  clear F1 N1 q1 q2 n2 hr hd k2 hd1
  (try dsimp only)
  k_steps
  rename Fr _ _ _ _ => F9
  rename News _ _ _ _ => N9
  refine hQ _ _ _ _ _ _ _ _ _ _ _ _ _ _ _ _ _ _ _ _ _ F9 ?_ ?_ ?_ (by assumption) (by assumption) (by assumption) (by assumption) (by assumption) hcd hd2 ?_ ?_ ?_ ?_ ?_ ?_ N9
  · exact hce
  · with_unfolding_all rfl
  · with_unfolding_all rfl
  all_goals omega
end Ks2
theorem s2 {w : World} {mean : ExcName → Option Value} {mg mb : Str → Option Value} {g : Heap} {L fa : Nat} {cd : Value} {A : Around} {Q : Flow → Shared → Prop} {m : Str → Option Value} {s : Shared} 
    {c : Nat} {oc : Obj} {rest : List Stmt} {o1 o2 o3 o4 o5 o6 o7 : Obj}
    (hS : St w mean mg mb g) (hA : AOk 59 A) (F : Fr g L s.heap m) (hce : m "cells" = some (.ref c))
    (N : News g L s.heap [(c, oc), (L + 1 + 1 + 1 + 1 + 1 + 1 + 1, o7), (L + 1 + 1 + 1 + 1 + 1 + 1, o6), (L + 1 + 1 + 1 + 1 + 1, o5), (L + 1 + 1 + 1 + 1, o4), (L + 1 + 1 + 1, o3), (L + 1 + 1, o2), (L + 1, o1), (101, tabO #[]), (108, tabO #[])]) (hc : L + 1 + 1 + 1 + 1 + 1 + 1 + 1 < c) (hL : 108 < L)
    (l1 : o1.data = .cell none) (l2 : o2.data = .cell none) (l3 : o3.data = .cell none) (l4 : o4.data = .cell none) (l5 : o5.data = .cell none)
    (hQ : ∀ h' tk m' (aT aG aK aTo aS aD r d nr t2 t3 k1 k2 : Nat) o1 o2 o3 o4 o5, Fr g L h' m' → m' "cells" = some (.ref c) → m' "road" = some (.ref r) → m' "sizes" = some (.ref aS) →
      o1.data = .cell (some (.ref aT)) → o2.data = .cell (some (.ref aG)) → o3.data = .cell (some (.ref aK)) → o4.data = .cell (some (.ref aTo)) → o5.data = .cell (some (.ref aD)) →
      c < d → d < r → r < aT → aT < aG → aG < aK → aK < aTo → aTo < aS → aS < aD →
      News g L h' [(aD, W.listOf #[.int 0 k2] 0), (aS, W.listOf #[] 0), (aTo, W.listOf #[] 0), (aK, W.listOf #[] 0), (aG, W.listOf #[] 0), (aT, W.listOf #[.str "" k1] 0), (r, roadObj d #[] nr), (d, fullDict w t2 t3), (c, oc),
        (L + 1 + 1 + 1 + 1 + 1 + 1 + 1, o7), (L + 1 + 1 + 1 + 1 + 1 + 1, o6), (L + 1 + 1 + 1 + 1 + 1, o5), (L + 1 + 1 + 1 + 1, o4), (L + 1 + 1 + 1, o3), (L + 1 + 1, o2), (L + 1, o1), (101, tabO #[]), (108, tabO #[])] →
      wpAny (model PG w) A (execs rest (lawEnv L fa cd)) Q (fun _ _ => False) { s with heap := h', toks := tk }) :
    wpAny (model PG w) A (execs (st 2 :: st 3 :: st 4 :: st 5 :: st 6 :: st 7 :: st 8 :: rest) (lawEnv L fa cd)) Q (fun _ _ => False) s := by
  obtain ⟨hd0, dp, fr, gd, un⟩ := A
  obtain rfl : hd0 = none := hA.hd
  exact skolem lv0 (fun x => Ss2 x.w x.mean x.mg x.mb x.g x.L x.fa x.cd x.dp x.fr x.gd x.un x.Q x.m x.s x.c x.oc x.rest x.o1 x.o2 x.o3 x.o4 x.o5 x.o6 x.o7) (by with_unfolding_all exact Ks2.holds) ⟨w, mean, mg, mb, g, L, fa, cd, dp, fr, gd, un, Q, m, s, (Classical.choice lv0).news, (Classical.choice lv0).ls, c, (Classical.choice lv0).vs, (Classical.choice lv0).xs, (Classical.choice lv0).its, (Classical.choice lv0).cs, (Classical.choice lv0).n, oc, rest, o1, o2, o3, o4, o5, o6, o7, (Classical.choice lv0).d, (Classical.choice lv0).r, (Classical.choice lv0).aT, (Classical.choice lv0).aG, (Classical.choice lv0).aK, (Classical.choice lv0).aTo, (Classical.choice lv0).aS, (Classical.choice lv0).aD, (Classical.choice lv0).it, (Classical.choice lv0).e, (Classical.choice lv0).i, (Classical.choice lv0).nbx, (Classical.choice lv0).tn, (Classical.choice lv0).tk0, (Classical.choice lv0).oI, (Classical.choice lv0).oE, (Classical.choice lv0).xT, (Classical.choice lv0).xG, (Classical.choice lv0).xK, (Classical.choice lv0).xTo, (Classical.choice lv0).xS, (Classical.choice lv0).xD, (Classical.choice lv0).itsbx, (Classical.choice lv0).nT, (Classical.choice lv0).nG, (Classical.choice lv0).nK, (Classical.choice lv0).nTo, (Classical.choice lv0).nS, (Classical.choice lv0).nD, (Classical.choice lv0).nC, (Classical.choice lv0).nr, (Classical.choice lv0).ritems, (Classical.choice lv0).p1, (Classical.choice lv0).p2, (Classical.choice lv0).t2, (Classical.choice lv0).t3, (Classical.choice lv0).yT, (Classical.choice lv0).tt, (Classical.choice lv0).tl, (Classical.choice lv0).v, (Classical.choice lv0).tv, (Classical.choice lv0).tm, (Classical.choice lv0).mkS, (Classical.choice lv0).fa', (Classical.choice lv0).fb', (Classical.choice lv0).l, (Classical.choice lv0).mkF, (Classical.choice lv0).bk, (Classical.choice lv0).tw, (Classical.choice lv0).tb, (Classical.choice lv0).td, (Classical.choice lv0).dl, (Classical.choice lv0).aGp, (Classical.choice lv0).nGp, (Classical.choice lv0).xGp, (Classical.choice lv0).r0, (Classical.choice lv0).r1, (Classical.choice lv0).r2, (Classical.choice lv0).r3, (Classical.choice lv0).k0, (Classical.choice lv0).k1, (Classical.choice lv0).k2, (Classical.choice lv0).k3, (Classical.choice lv0).aTb, (Classical.choice lv0).nTb, (Classical.choice lv0).v0, (Classical.choice lv0).v1, (Classical.choice lv0).v2, (Classical.choice lv0).v3, (Classical.choice lv0).aX, (Classical.choice lv0).nX, (Classical.choice lv0).xX, (Classical.choice lv0).ns, (Classical.choice lv0).c0, (Classical.choice lv0).d0, (Classical.choice lv0).tc, (Classical.choice lv0).tf, (Classical.choice lv0).j⟩ hS hA F hce N hc hL l1 l2 l3 l4 l5 hQ
end
end Mine
end OfA23
local macro_rules | `(tactic| k_ne) => `(tactic| (refine neN ?_; (try dsimp only); first | (refine Dec.ne (by assumption) ?_; (repeat (first | (refine sub_head ?_; k_mem; done) | refine sub_tail ?_)); done) | (refine Dec.ne' (by assumption) ?_; (repeat (first | (refine sub_head ?_; k_mem; done) | refine sub_tail ?_)); done) | (apply Nat.ne_of_gt; apply And.left; iterate 20 (try (first | assumption | apply And.right)); done) | (apply Nat.ne_of_lt; apply And.left; iterate 20 (try (first | assumption | apply And.right)); done) | omega))
section OfD1
open PySem PySem.W PyProof.Rows
set_option Elab.async false
set_option maxRecDepth 100000
namespace Mine
noncomputable section
noncomputable def nn (cs : List Int) (i : Nat) : Int := cs.getD i 0
noncomputable def mkI (n : Int) : Nat := ((n.fdiv 2).fmod 4).toNat
noncomputable def vI (n : Int) : Nat := ((n.fdiv 8).fmod 272).toNat
noncomputable def pieceI (n : Int) : List Nat := mark4 (mkI n) :: wd 3 (vI n)
noncomputable def FAIL : PySem.Str := "<post parse257() failed>"
/-- what the law's lists hold behind the first posts -/
structure PS where
  T : List (List Nat)
  G : List Int
  K : List Int
  told : List PySem.Str
  sizes : List Int
  deps : List Int
noncomputable def PS0 : PS := ⟨[[]], [], [], [], [], [0]⟩
noncomputable def gives (n : Int) (p : PS) : Bool := p.K.length == 4 || (n.fmod 2 == 0 && decide (p.G.length < 4))
noncomputable def PS.step (i : Nat) (n : Int) (p : PS) : PS :=
  { T := p.T ++ [p.T.getLastD [] ++ pieceI n]
    G := if gives n p then p.G ++ [(i : Int) + 1] else p.G
    K := if gives n p then p.K else p.K ++ [(i : Int) + 1]
    told := p.told ++ [if gives n p then ⟨(p.T.getLastD [] ++ pieceI n).toArray⟩ else FAIL]
    sizes := p.sizes ++ [3 + ((p.T.getLastD [] ++ pieceI n).length : Int)]
    deps := p.deps ++ [p.deps.getLastD 0 + if gives n p then 1 else -1] }
noncomputable def runP (cs : List Int) : Nat → PS
  | 0 => PS0
  | i + 1 => (runP cs i).step i (nn cs i)
theorem mkI_lt (n : Int) : mkI n < 4 := by
  unfold mkI
  rw [Int.fmod_eq_emod_of_nonneg _ (by omega)]; omega
theorem vI_lt (n : Int) : vI n < 272 := by
  unfold vI
  rw [Int.fmod_eq_emod_of_nonneg _ (by omega)]; omega
theorem mkI_eq (n : Int) : (n.fdiv 2).fmod 4 = ((mkI n : Nat) : Int) := by
  unfold mkI
  rw [Int.fmod_eq_emod_of_nonneg _ (by omega)]; omega
theorem vI_eq (n : Int) : (n.fdiv 8).fmod 272 = ((vI n : Nat) : Int) := by
  unfold vI
  rw [Int.fmod_eq_emod_of_nonneg _ (by omega)]; omega
theorem wd_lenD (n v : Nat) : (wd n v).length ≤ n := by
  induction n generalizing v with
  | zero => simp [wd]
  | succ n ih => simp only [wd]; split <;> simp; exact ih _
theorem piece_len (n : Int) : 1 ≤ (pieceI n).length ∧ (pieceI n).length ≤ 4 := by
  unfold pieceI
  have := wd_lenD 3 (vI n)
  simp; omega
theorem run_T (cs : List Int) (i : Nat) : (runP cs i).T.length = i + 1 := by
  induction i with
  | zero => rfl
  | succ i ih => simp [runP, PS.step, ih]
theorem run_told (cs : List Int) (i : Nat) : (runP cs i).told.length = i := by
  induction i with
  | zero => rfl
  | succ i ih => simp [runP, PS.step, ih]
theorem run_sizes (cs : List Int) (i : Nat) : (runP cs i).sizes.length = i := by
  induction i with
  | zero => rfl
  | succ i ih => simp [runP, PS.step, ih]
theorem run_deps (cs : List Int) (i : Nat) : (runP cs i).deps.length = i + 1 := by
  induction i with
  | zero => rfl
  | succ i ih => simp [runP, PS.step, ih]
theorem run_GK (cs : List Int) (i : Nat) : (runP cs i).G.length + (runP cs i).K.length = i := by
  induction i with
  | zero => rfl
  | succ i ih =>
    simp only [runP, PS.step]
    split <;> simp <;> omega
/-- the road's text up to a post -/
noncomputable def TT (cs : List Int) : Nat → List Nat
  | 0 => []
  | i + 1 => TT cs i ++ pieceI (nn cs i)
theorem run_last (cs : List Int) (i : Nat) : (runP cs i).T.getLastD [] = TT cs i := by
  induction i with
  | zero => rfl
  | succ i ih =>
    simp only [runP, PS.step, TT]
    rw [List.getLastD_concat, ih]
theorem TT_len (cs : List Int) (i : Nat) : (TT cs i).length ≤ 4 * i := by
  induction i with
  | zero => simp [TT]
  | succ i ih =>
    have := piece_len (nn cs i)
    simp [TT]; omega
noncomputable def fa (cs : List Int) (j : Nat) : PySem.Str := ⟨#[mark4 (mkI (nn cs j))]⟩
noncomputable def fb (cs : List Int) (j : Nat) : PySem.Str := Wd (vI (nn cs j))
theorem fab (cs : List Int) (j : Nat) : fa cs j ++ fb cs j = ⟨(pieceI (nn cs j)).toArray⟩ := by
  show (⟨#[mark4 (mkI (nn cs j))] ++ (wd 3 (vI (nn cs j))).toArray⟩ : PySem.Str) = _
  unfold pieceI
  congr 1
  simp
end
end Mine
end OfD1
section OfA24
open PySem PySem.W PySem.W.X PyProof.Rows
set_option Elab.async false
set_option maxRecDepth 100000
set_option maxHeartbeats 4000000
set_option pp.maxSteps 3000
namespace Mine
noncomputable section
local macro_rules | `(tactic| k_ne) => `(tactic| (refine neN ?_; (try dsimp only); first | (refine Dec.ne (by assumption) ?_; (repeat (first | (refine sub_head ?_; k_mem; done) | refine sub_tail ?_)); done) | (refine Dec.ne' (by assumption) ?_; (repeat (first | (refine sub_head ?_; k_mem; done) | refine sub_tail ?_)); done) | omega))
theorem filled24 : kk.heap_1 = kk.heap_1 ∧ PySem.Challenge.rw_wu0057_01.name = PySem.Challenge.rw_wu0057_01.name := by
  k_fill
  exact ⟨rfl, rfl⟩
noncomputable def pb : List Stmt := match st 9 with | .For _ _ b _ _ => b | _ => []
noncomputable def ps (i : Nat) : Stmt := pb.getD i (.Pass default)
theorem pb_eq : pb = [ps 0, ps 1, ps 2, ps 3, ps 4, ps 5, ps 6, ps 7, ps 8, ps 9, ps 10] := by with_unfolding_all rfl
local macro_rules | `(tactic| walk_at "eval Name") => `(tactic| (k_here; walk_at "nmX"))
/-- the tail of the ledger lies off the written places -/
noncomputable def OffT (tl : List (Addr × Obj)) (as : List Nat) : Prop := ∀ p ∈ tl, ∀ a ∈ as, (p.1 : Nat) ≠ a
theorem OffT.get {tl : List (Addr × Obj)} {as : List Nat} {a : Nat} (h : OffT tl as) (ha : a ∈ as) : ∀ p ∈ tl, p.1 ≠ a := fun p hp => h p hp a ha
local macro_rules | `(tactic| k_all) => `(tactic| exact OffT.get (by assumption) (by repeat (first | exact List.mem_cons_self .. | refine List.mem_cons_of_mem _ ?_)))
theorem last_sub {prog : Program} {w : World} {A : Around} {E : Value → Shared → Prop} {s : Shared} {value slice : Expr} {D : Addr} {its : Array Value} {n : Nat} {x : Value} {u : Tok} {Q : Value → Shared → Prop} (hg : s.heap.get? D = some (W.listOf its n)) (hx : its[its.size - 1]? = some x) (h : Q x s)
    (hs : subscripted slice false (.ref D) (.int (-1) u) = operate [.ref D, .int (-1) u] (getItem (.ref D) (.int (-1) u)) := by with_unfolding_all rfl) :
    wpAny (model prog w) A (subscriptTail value slice (.ref D) (.int (-1) u)) Q E s := by
  have hl : s.heap.IsList D its := ⟨_, hg, rfl, _, rfl⟩
  have hp : 0 < its.size := by
    rcases Nat.eq_zero_or_pos its.size with h0 | h0
    · rw [Array.getElem?_eq_none (by omega)] at hx; cases hx
    · exact h0
  refine tail_any hl.typeIs slot_list_getitem.lookup ?_ hs
  refine wpAny_getItem_list_neg hl (by omega) (by omega) (by decide) ?_ h
  have e : (-1 + (its.size : Int)).toNat = its.size - 1 := by omega
  rw [e]; exact hx
theorem strs_last {l : List Value} {ys : List Str} (h : StrsAre l ys) {y : Str} (e : ys.getLast? = some y) : ∃ t, l[l.length - 1]? = some (.str y t) := by
  induction h with
  | nil => cases e
  | cons z t h ih =>
    rename_i vs ys
    cases h with
    | nil => cases e; exact ⟨t, rfl⟩
    | cons z2 t2 h2 =>
      obtain ⟨t', e'⟩ := ih (by simpa using e)
      refine ⟨t', ?_⟩
      simpa using e'
theorem ints_last {l : List Value} {ys : List Int} (h : IntsAre l ys) {y : Int} (e : ys.getLast? = some y) : ∃ t, l[l.length - 1]? = some (.int y t) := by
  induction h with
  | nil => cases e
  | cons z t h ih =>
    rename_i vs ys
    cases h with
    | nil => cases e; exact ⟨t, rfl⟩
    | cons z2 t2 h2 =>
      obtain ⟨t', e'⟩ := ih (by simpa using e)
      refine ⟨t', ?_⟩
      simpa using e'
theorem strs_snoc {l : List Value} {ys : List Str} (h : StrsAre l ys) (y : Str) (t : Tok) : StrsAre (l ++ [.str y t]) (ys ++ [y]) := by
  induction h with
  | nil => exact .cons y t .nil
  | cons z u _ ih => exact .cons z u ih
theorem ints_snoc {l : List Value} {ys : List Int} (h : IntsAre l ys) (y : Int) (t : Tok) : IntsAre (l ++ [.int y t]) (ys ++ [y]) := by
  induction h with
  | nil => exact .cons y t .nil
  | cons z u _ ih => exact .cons z u ih
theorem mark_item (n : Int) : Txt.item (PySem.Str.ofString " \"(\\") ((n.fdiv 2).fmod 4) = ⟨#[mark4 (mkI n)]⟩ := by
  rw [mkI_eq]
  have key : ∀ x : Fin 4, Txt.item (PySem.Str.ofString " \"(\\") ((x.val : Nat) : Int) = ⟨#[mark4 x.val]⟩ := by decide +kernel
  exact key ⟨mkI n, mkI_lt n⟩
noncomputable def Sturn1 (w : World) (mean : ExcName → Option Value) (mg : Str → Option Value) (mb : Str → Option Value) (g : Heap) (L : Nat) (fa : Nat) (cd : Value) (dp : Nat) (fr : Option (List Env)) (gd : Option (List Code)) (un : Nat) (Q : Flow → Shared → Prop) (m : Str → Option Value) (s : Shared) (rest : List Stmt) (c : Nat) (d : Nat) (r : Nat) (aT : Nat) (aG : Nat) (aK : Nat) (aTo : Nat) (aS : Nat) (aD : Nat) (it : Nat) (e : Nat) (i : Nat) (n : Int) (tn : Tok) (tk0 : Tok) (o1 : Obj) (o2 : Obj) (o3 : Obj) (o4 : Obj) (o5 : Obj) (o6 : Obj) (o7 : Obj) (oI : Obj) (oE : Obj) (xT : Array Value) (xG : Array Value) (xK : Array Value) (xTo : Array Value) (xS : Array Value) (xD : Array Value) (its : Array Value) (nT : Nat) (nG : Nat) (nK : Nat) (nTo : Nat) (nS : Nat) (nD : Nat) (nC : Nat) (nr : Nat) (ritems : Array Value) (p1 : Array Value) (p2 : Array Value) (t2 : Tok) (t3 : Tok) (yT : List Str) (tt : List Nat) (tl : List (Addr × Obj)) : Prop := ∀ (hS : St w mean mg mb g) (hA : AOk 59 (Around.mk none dp fr gd un)) (F : Fr g L s.heap m) (h0 : 108 < L) (h1 : L + 1 + 1 + 1 + 1 + 1 + 1 + 1 < c) (h2 : c < d) (h3 : d < r) (h4 : r < aT) (h5 : aT < aG) (h6 : aG < aK) (h7 : aK < aTo) (h8 : aTo < aS) (h9 : aS < aD) (h10 : aD < it) (h11 : it < e) (mr : m "road" = some (.ref r)) (ms : m "sizes" = some (.ref aS)) (mk : m "k" = some (.int ((i : Nat) : Int) tk0)) (mn : m "n" = some (.int n tn)) (l1 : o1.data = .cell (some (.ref aT))) (l2 : o2.data = .cell (some (.ref aG))) (l3 : o3.data = .cell (some (.ref aK))) (l4 : o4.data = .cell (some (.ref aTo))) (l5 : o5.data = .cell (some (.ref aD))) (hT : StrsAre xT.toList yT) (hTl : yT.getLast? = some ⟨tt.toArray⟩) (htt : tt.length ≤ 40) (hTz : xT.size ≤ 40) (hO : OffT tl [e, it, aD, aS, aTo, aK, aG, aT, r, d, c, L + 1 + 1 + 1 + 1 + 1 + 1 + 1, L + 1 + 1 + 1 + 1 + 1 + 1, L + 1 + 1 + 1 + 1 + 1, L + 1 + 1 + 1 + 1, L + 1 + 1 + 1, L + 1 + 1, L + 1, 101, 108]) (N : News g L s.heap ((e, oE) :: (it, oI) :: (aD, W.listOf xD nD) :: (aS, W.listOf xS nS) :: (aTo, W.listOf xTo nTo) :: (aK, W.listOf xK nK) :: (aG, W.listOf xG nG) :: (aT, W.listOf xT nT) :: (r, roadObj d ritems nr) :: (d, fullDict w t2 t3) :: (c, W.listOf its nC) :: (L + 1 + 1 + 1 + 1 + 1 + 1 + 1, o7) :: (L + 1 + 1 + 1 + 1 + 1 + 1, o6) :: (L + 1 + 1 + 1 + 1 + 1, o5) :: (L + 1 + 1 + 1 + 1, o4) :: (L + 1 + 1 + 1, o3) :: (L + 1 + 1, o2) :: (L + 1, o1) :: (101, tabO p1) :: (108, tabO p2) :: tl)) (hQ : ∀ h' tk m' t nT', Fr g L h' m' → (∀ x : Str, x ≠ "mark" → x ≠ "v" → m' x = m x) → (∃ tm, m' "mark" = some (.str ⟨#[mark4 (mkI n)]⟩ tm)) → (∃ tv, m' "v" = some (.int ((vI n : Nat) : Int) tv)) →
      News g L h' ((e, oE) :: (it, oI) :: (aD, W.listOf xD nD) :: (aS, W.listOf xS nS) :: (aTo, W.listOf xTo nTo) :: (aK, W.listOf xK nK) :: (aG, W.listOf xG nG) :: (aT, W.listOf (xT.push (.str ⟨(tt ++ pieceI n).toArray⟩ t)) nT') :: (r, roadObj d ritems nr) :: (d, fullDict w t2 t3) :: (c, W.listOf its nC) :: (L + 1 + 1 + 1 + 1 + 1 + 1 + 1, o7) :: (L + 1 + 1 + 1 + 1 + 1 + 1, o6) :: (L + 1 + 1 + 1 + 1 + 1, o5) :: (L + 1 + 1 + 1 + 1, o4) :: (L + 1 + 1 + 1, o3) :: (L + 1 + 1, o2) :: (L + 1, o1) :: (101, tabO p1) :: (108, tabO p2) :: tl) →
      wpAny (model PG w) (Around.mk none dp fr gd un) (execs rest (lawEnv L fa cd)) Q (fun _ _ => False) { s with heap := h', toks := tk }),
    wpAny (model PG w) (Around.mk none dp fr gd un) (execs (ps 0 :: ps 1 :: ps 2 :: rest) (lawEnv L fa cd)) Q (fun _ _ => False) s
noncomputable def cturn1 : LV := @Classical.epsilon LV lv0 fun x => ¬ Sturn1 x.w x.mean x.mg x.mb x.g x.L x.fa x.cd x.dp x.fr x.gd x.un x.Q x.m x.s x.rest x.c x.d x.r x.aT x.aG x.aK x.aTo x.aS x.aD x.it x.e x.i x.nbx x.tn x.tk0 x.o1 x.o2 x.o3 x.o4 x.o5 x.o6 x.o7 x.oI x.oE x.xT x.xG x.xK x.xTo x.xS x.xD x.itsbx x.nT x.nG x.nK x.nTo x.nS x.nD x.nC x.nr x.ritems x.p1 x.p2 x.t2 x.t3 x.yT x.tt x.tl
namespace Kturn1
@[irreducible] noncomputable def w : World := cturn1.w
@[irreducible] noncomputable def mean : ExcName → Option Value := cturn1.mean
@[irreducible] noncomputable def mg : Str → Option Value := cturn1.mg
@[irreducible] noncomputable def mb : Str → Option Value := cturn1.mb
@[irreducible] noncomputable def g : Heap := cturn1.g
@[irreducible] noncomputable def L : Nat := cturn1.L
@[irreducible] noncomputable def fa : Nat := cturn1.fa
@[irreducible] noncomputable def cd : Value := cturn1.cd
@[irreducible] noncomputable def dp : Nat := cturn1.dp
@[irreducible] noncomputable def fr : Option (List Env) := cturn1.fr
@[irreducible] noncomputable def gd : Option (List Code) := cturn1.gd
@[irreducible] noncomputable def un : Nat := cturn1.un
@[irreducible] noncomputable def Q : Flow → Shared → Prop := cturn1.Q
@[irreducible] noncomputable def m : Str → Option Value := cturn1.m
@[irreducible] noncomputable def s : Shared := cturn1.s
@[irreducible] noncomputable def rest : List Stmt := cturn1.rest
@[irreducible] noncomputable def c : Nat := cturn1.c
@[irreducible] noncomputable def d : Nat := cturn1.d
@[irreducible] noncomputable def r : Nat := cturn1.r
@[irreducible] noncomputable def aT : Nat := cturn1.aT
@[irreducible] noncomputable def aG : Nat := cturn1.aG
@[irreducible] noncomputable def aK : Nat := cturn1.aK
@[irreducible] noncomputable def aTo : Nat := cturn1.aTo
@[irreducible] noncomputable def aS : Nat := cturn1.aS
@[irreducible] noncomputable def aD : Nat := cturn1.aD
@[irreducible] noncomputable def it : Nat := cturn1.it
@[irreducible] noncomputable def e : Nat := cturn1.e
@[irreducible] noncomputable def i : Nat := cturn1.i
@[irreducible] noncomputable def n : Int := cturn1.nbx
@[irreducible] noncomputable def tn : Tok := cturn1.tn
@[irreducible] noncomputable def tk0 : Tok := cturn1.tk0
@[irreducible] noncomputable def o1 : Obj := cturn1.o1
@[irreducible] noncomputable def o2 : Obj := cturn1.o2
@[irreducible] noncomputable def o3 : Obj := cturn1.o3
@[irreducible] noncomputable def o4 : Obj := cturn1.o4
@[irreducible] noncomputable def o5 : Obj := cturn1.o5
@[irreducible] noncomputable def o6 : Obj := cturn1.o6
@[irreducible] noncomputable def o7 : Obj := cturn1.o7
@[irreducible] noncomputable def oI : Obj := cturn1.oI
@[irreducible] noncomputable def oE : Obj := cturn1.oE
@[irreducible] noncomputable def xT : Array Value := cturn1.xT
@[irreducible] noncomputable def xG : Array Value := cturn1.xG
@[irreducible] noncomputable def xK : Array Value := cturn1.xK
@[irreducible] noncomputable def xTo : Array Value := cturn1.xTo
@[irreducible] noncomputable def xS : Array Value := cturn1.xS
@[irreducible] noncomputable def xD : Array Value := cturn1.xD
@[irreducible] noncomputable def its : Array Value := cturn1.itsbx
@[irreducible] noncomputable def nT : Nat := cturn1.nT
@[irreducible] noncomputable def nG : Nat := cturn1.nG
@[irreducible] noncomputable def nK : Nat := cturn1.nK
@[irreducible] noncomputable def nTo : Nat := cturn1.nTo
@[irreducible] noncomputable def nS : Nat := cturn1.nS
@[irreducible] noncomputable def nD : Nat := cturn1.nD
@[irreducible] noncomputable def nC : Nat := cturn1.nC
@[irreducible] noncomputable def nr : Nat := cturn1.nr
@[irreducible] noncomputable def ritems : Array Value := cturn1.ritems
@[irreducible] noncomputable def p1 : Array Value := cturn1.p1
@[irreducible] noncomputable def p2 : Array Value := cturn1.p2
@[irreducible] noncomputable def t2 : Tok := cturn1.t2
@[irreducible] noncomputable def t3 : Tok := cturn1.t3
@[irreducible] noncomputable def yT : List Str := cturn1.yT
@[irreducible] noncomputable def tt : List Nat := cturn1.tt
@[irreducible] noncomputable def tl : List (Addr × Obj) := cturn1.tl
theorem holds : Sturn1 w mean mg mb g L fa cd dp fr gd un Q m s rest c d r aT aG aK aTo aS aD it e i n tn tk0 o1 o2 o3 o4 o5 o6 o7 oI oE xT xG xK xTo xS xD its nT nG nK nTo nS nD nC nr ritems p1 p2 t2 t3 yT tt tl := by
  intro hS hA F h0 h1 h2 h3 h4 h5 h6 h7 h8 h9 h10 h11 mr ms mk mn l1 l2 l3 l4 l5 hT hTl htt hTz hO N hQ
  have hDec := Dec.cons h11 (.cons h10 (.cons h9 (.cons h8 (.cons h7 (.cons h6 (.cons h5 (.cons h4 (.cons h3 (.cons h2 (.cons h1 (decL h0)))))))))))
  have X := hS.X
  have T := hS.T
  dsimp only [lawEnv]
  conv in (occs := *) (DefRec.scope lawRec) => all_goals whnf
  conv in (ps 0) => whnf
  conv in (ps 1) => whnf
  conv in (ps 2) => whnf
  iterate 37 walk_at "kst"
  rename News _ _ _ _ => N1
  obtain ⟨tT, eT⟩ := strs_last hT hTl
  refine last_sub (s := ⟨_, _, _, _, _⟩) (x := .str ⟨tt.toArray⟩ tT) (N1.get (by k_mem)) (by rw [← Array.getElem?_toList]; exact eT) ?_
  iterate 9 walk_at "kst"
  rename Fr _ _ _ _ => F2
  rename News _ _ _ _ => N2
  have em := mark_item n
  rw [em] at F2
  rw [vI_eq n] at F2
  rw [em, vI_eq n]

  refine (law_word w mean mg mb 3 (vI n) _ (vI_lt n) (Nat.lt_trans (vI_lt n) (by decide))).use (hA.le (by omega)) hS F2 N2 fun r1 h3 tk3 hr F3 N3 => ?_
  obtain ⟨tw, rfl⟩ := hr
  clear F2 N2
  (try dsimp only)
  skip
  have et : (⟨tt.toArray⟩ : Str) ++ ⟨#[mark4 (mkI n)]⟩ ++ Wd (vI n) = ⟨(tt ++ pieceI n).toArray⟩ := by
    show (⟨tt.toArray ++ #[mark4 (mkI n)] ++ (wd 3 (vI n)).toArray⟩ : Str) = _
    unfold pieceI
    congr 1
    simp
  refine add_str (fun t5 tk5 => ?_) ?_
  · rw [et]
    (try dsimp only)
    k_steps
    rename Fr _ _ _ _ => F7
    rename News _ _ _ _ => N7
    refine hQ _ _ _ _ _ F7 ?_ ?_ ?_ N7
    · intro x hx1 hx2
      dsimp only
      rw [if_neg hx2, if_neg hx1]
    · refine Exists.intro ?_ ?_
      rotate_left
      · with_unfolding_all rfl
    · refine Exists.intro ?_ ?_
      rotate_left
      · with_unfolding_all rfl
  · have e1 : ((⟨tt.toArray⟩ : Str) ++ ⟨#[mark4 (mkI n)]⟩).length = tt.length + 1 := by
      show (tt.toArray ++ #[mark4 (mkI n)]).size = _
      simp
    have e2 := wd_len (vI n)
    rw [e1, sizeLine_eq]
    omega
end Kturn1
theorem turn1 {w : World} {mean : ExcName → Option Value} {mg mb : Str → Option Value} {g : Heap} {L fa : Nat} {cd : Value} {A : Around} {Q : Flow → Shared → Prop} {m : Str → Option Value} {s : Shared} {rest : List Stmt}
    {c d r aT aG aK aTo aS aD it e i : Nat} {n : Int} {tn tk0 : Tok} {o1 o2 o3 o4 o5 o6 o7 oI oE : Obj} {xT xG xK xTo xS xD its : Array Value} {nT nG nK nTo nS nD nC nr : Nat} {ritems p1 p2 : Array Value} {t2 t3 : Tok}
    (hS : St w mean mg mb g) (hA : AOk 59 A) (F : Fr g L s.heap m) (h0 : 108 < L) (h1 : L + 1 + 1 + 1 + 1 + 1 + 1 + 1 < c) (h2 : c < d) (h3 : d < r) (h4 : r < aT) (h5 : aT < aG) (h6 : aG < aK) (h7 : aK < aTo) (h8 : aTo < aS) (h9 : aS < aD) (h10 : aD < it) (h11 : it < e)
    (mr : m "road" = some (.ref r)) (ms : m "sizes" = some (.ref aS)) (mk : m "k" = some (.int ((i : Nat) : Int) tk0)) (mn : m "n" = some (.int n tn))
    (l1 : o1.data = .cell (some (.ref aT))) (l2 : o2.data = .cell (some (.ref aG))) (l3 : o3.data = .cell (some (.ref aK))) (l4 : o4.data = .cell (some (.ref aTo))) (l5 : o5.data = .cell (some (.ref aD)))
    {yT : List Str} {tt : List Nat} (hT : StrsAre xT.toList yT) (hTl : yT.getLast? = some ⟨tt.toArray⟩) (htt : tt.length ≤ 40) (hTz : xT.size ≤ 40)
    {tl : List (Addr × Obj)} (hO : OffT tl [e, it, aD, aS, aTo, aK, aG, aT, r, d, c, L + 1 + 1 + 1 + 1 + 1 + 1 + 1, L + 1 + 1 + 1 + 1 + 1 + 1, L + 1 + 1 + 1 + 1 + 1, L + 1 + 1 + 1 + 1, L + 1 + 1 + 1, L + 1 + 1, L + 1, 101, 108])
    (N : News g L s.heap ((e, oE) :: (it, oI) :: (aD, W.listOf xD nD) :: (aS, W.listOf xS nS) :: (aTo, W.listOf xTo nTo) :: (aK, W.listOf xK nK) :: (aG, W.listOf xG nG) :: (aT, W.listOf xT nT) :: (r, roadObj d ritems nr) :: (d, fullDict w t2 t3) :: (c, W.listOf its nC) :: (L + 1 + 1 + 1 + 1 + 1 + 1 + 1, o7) :: (L + 1 + 1 + 1 + 1 + 1 + 1, o6) :: (L + 1 + 1 + 1 + 1 + 1, o5) :: (L + 1 + 1 + 1 + 1, o4) :: (L + 1 + 1 + 1, o3) :: (L + 1 + 1, o2) :: (L + 1, o1) :: (101, tabO p1) :: (108, tabO p2) :: tl))
    (hQ : ∀ h' tk m' t nT', Fr g L h' m' → (∀ x : Str, x ≠ "mark" → x ≠ "v" → m' x = m x) → (∃ tm, m' "mark" = some (.str ⟨#[mark4 (mkI n)]⟩ tm)) → (∃ tv, m' "v" = some (.int ((vI n : Nat) : Int) tv)) →
      News g L h' ((e, oE) :: (it, oI) :: (aD, W.listOf xD nD) :: (aS, W.listOf xS nS) :: (aTo, W.listOf xTo nTo) :: (aK, W.listOf xK nK) :: (aG, W.listOf xG nG) :: (aT, W.listOf (xT.push (.str ⟨(tt ++ pieceI n).toArray⟩ t)) nT') :: (r, roadObj d ritems nr) :: (d, fullDict w t2 t3) :: (c, W.listOf its nC) :: (L + 1 + 1 + 1 + 1 + 1 + 1 + 1, o7) :: (L + 1 + 1 + 1 + 1 + 1 + 1, o6) :: (L + 1 + 1 + 1 + 1 + 1, o5) :: (L + 1 + 1 + 1 + 1, o4) :: (L + 1 + 1 + 1, o3) :: (L + 1 + 1, o2) :: (L + 1, o1) :: (101, tabO p1) :: (108, tabO p2) :: tl) →
      wpAny (model PG w) A (execs rest (lawEnv L fa cd)) Q (fun _ _ => False) { s with heap := h', toks := tk }) :
    wpAny (model PG w) A (execs (ps 0 :: ps 1 :: ps 2 :: rest) (lawEnv L fa cd)) Q (fun _ _ => False) s := by
  obtain ⟨hd0, dp, fr, gd, un⟩ := A
  obtain rfl : hd0 = none := hA.hd
  exact skolem lv0 (fun x => Sturn1 x.w x.mean x.mg x.mb x.g x.L x.fa x.cd x.dp x.fr x.gd x.un x.Q x.m x.s x.rest x.c x.d x.r x.aT x.aG x.aK x.aTo x.aS x.aD x.it x.e x.i x.nbx x.tn x.tk0 x.o1 x.o2 x.o3 x.o4 x.o5 x.o6 x.o7 x.oI x.oE x.xT x.xG x.xK x.xTo x.xS x.xD x.itsbx x.nT x.nG x.nK x.nTo x.nS x.nD x.nC x.nr x.ritems x.p1 x.p2 x.t2 x.t3 x.yT x.tt x.tl) (by with_unfolding_all exact Kturn1.holds) ⟨w, mean, mg, mb, g, L, fa, cd, dp, fr, gd, un, Q, m, s, (Classical.choice lv0).news, (Classical.choice lv0).ls, c, (Classical.choice lv0).vs, (Classical.choice lv0).xs, (Classical.choice lv0).its, (Classical.choice lv0).cs, (Classical.choice lv0).n, (Classical.choice lv0).oc, rest, o1, o2, o3, o4, o5, o6, o7, d, r, aT, aG, aK, aTo, aS, aD, it, e, i, n, tn, tk0, oI, oE, xT, xG, xK, xTo, xS, xD, its, nT, nG, nK, nTo, nS, nD, nC, nr, ritems, p1, p2, t2, t3, yT, tt, tl, (Classical.choice lv0).v, (Classical.choice lv0).tv, (Classical.choice lv0).tm, (Classical.choice lv0).mkS, (Classical.choice lv0).fa', (Classical.choice lv0).fb', (Classical.choice lv0).l, (Classical.choice lv0).mkF, (Classical.choice lv0).bk, (Classical.choice lv0).tw, (Classical.choice lv0).tb, (Classical.choice lv0).td, (Classical.choice lv0).dl, (Classical.choice lv0).aGp, (Classical.choice lv0).nGp, (Classical.choice lv0).xGp, (Classical.choice lv0).r0, (Classical.choice lv0).r1, (Classical.choice lv0).r2, (Classical.choice lv0).r3, (Classical.choice lv0).k0, (Classical.choice lv0).k1, (Classical.choice lv0).k2, (Classical.choice lv0).k3, (Classical.choice lv0).aTb, (Classical.choice lv0).nTb, (Classical.choice lv0).v0, (Classical.choice lv0).v1, (Classical.choice lv0).v2, (Classical.choice lv0).v3, (Classical.choice lv0).aX, (Classical.choice lv0).nX, (Classical.choice lv0).xX, (Classical.choice lv0).ns, (Classical.choice lv0).c0, (Classical.choice lv0).d0, (Classical.choice lv0).tc, (Classical.choice lv0).tf, (Classical.choice lv0).j⟩ hS hA F h0 h1 h2 h3 h4 h5 h6 h7 h8 h9 h10 h11 mr ms mk mn l1 l2 l3 l4 l5 hT hTl htt hTz hO N hQ
end
end Mine
end OfA24
local macro_rules | `(tactic| k_ne) => `(tactic| (refine neN ?_; (try dsimp only); first | (refine Dec.ne (by assumption) ?_; (repeat (first | (refine sub_head ?_; k_mem; done) | refine sub_tail ?_)); done) | (refine Dec.ne' (by assumption) ?_; (repeat (first | (refine sub_head ?_; k_mem; done) | refine sub_tail ?_)); done) | omega))
section OfA25
open PySem PySem.W PySem.W.X PyProof.Rows
set_option Elab.async false
set_option maxRecDepth 100000
set_option maxHeartbeats 4000000
set_option pp.maxSteps 3000
namespace Mine
noncomputable section
theorem filled25 : kk.heap_1 = kk.heap_1 ∧ PySem.Challenge.rw_wu0057_01.name = PySem.Challenge.rw_wu0057_01.name := by
  k_fill
  exact ⟨rfl, rfl⟩
local macro_rules | `(tactic| walk_at "eval Name") => `(tactic| (k_here; walk_at "nmX"))
local macro_rules | `(tactic| k_all) => `(tactic| exact OffT.get (by assumption) (by repeat (first | exact List.mem_cons_self .. | refine List.mem_cons_of_mem _ ?_)))
theorem but_fr {g h h' : Heap} {L a : Addr} {m : Str → Option Value} {oa oa' : Obj} {news news' : List (Addr × Obj)} (F : Fr g L h m) (N : News g L h news) (U : Upd a oa oa' news news')
    (k : ∀ b o, b ≠ a → h.get? b = some o → h'.get? b = some o) (ga : h'.get? a = some oa') : Fr g L h' m ∧ News g L h' news' := by
  obtain ⟨pre, post, rfl, rfl, n1, n2⟩ := U.split
  obtain ⟨_, a2, a3⟩ := N (a, oa) (List.mem_append_right _ (List.mem_cons_self ..))
  refine ⟨⟨F.ns.at' fun o x => k _ _ (Ne.symm a2) x, fun b o x => k b o ?_ (F.keep b o x), F.above⟩, fun p hp => ?_⟩
  · rintro rfl; rw [a3] at x; cases x
  · rcases List.mem_append.mp hp with hp | hp
    · obtain ⟨p1, p2, p3⟩ := N p (List.mem_append_left _ hp)
      exact ⟨k _ _ (n1 p hp) p1, p2, p3⟩
    · rcases List.mem_cons.mp hp with rfl | hp
      · exact ⟨ga, a2, a3⟩
      · obtain ⟨p1, p2, p3⟩ := N p (List.mem_append_right _ (List.mem_cons_of_mem _ hp))
        exact ⟨k _ _ (n2 p hp) p1, p2, p3⟩
theorem push_type {w : World} {h : Heap} (X : (kk.heap_1 w.params).In h) : Looks (model PG w) h (typeOf (.ref 84)) (.type "function") := Looks.of_peek X (by with_unfolding_all rfl)
@[reducible] noncomputable def tupO (a b : Str) (ta tb : Tok) : Obj := ⟨.type "tuple", none, .seq #[.str a ta, .str b tb] 0, #[]⟩
noncomputable def RoadAt (tl : List (Addr × Obj)) (items : Array Value) (fa fb : Nat → Str) (i : Nat) : Prop :=
  items.size = i ∧ ∃ (Ts : Nat → Addr) (ta tb : Nat → Tok), ∀ j, j < i → items[j]? = some (.ref (Ts j)) ∧ (Ts j, tupO (fa j) (fb j) (ta j) (tb j)) ∈ tl
theorem RoadAt.push {tl : List (Addr × Obj)} {items : Array Value} {fa fb : Nat → Str} {i : Nat} (x : RoadAt tl items fa fb i) (T : Addr) (u1 u2 : Tok) : RoadAt ((T, tupO (fa i) (fb i) u1 u2) :: tl) (items.push (.ref T)) fa fb (i + 1) := by
  obtain ⟨hs, Ts, ta, tb, h⟩ := x
  refine ⟨by simp [hs], fun j => if j = i then T else Ts j, fun j => if j = i then u1 else ta j, fun j => if j = i then u2 else tb j, fun j hj => ?_⟩
  by_cases e : j = i
  · subst e
    simp only [if_true]
    exact ⟨by rw [Array.getElem?_push, if_pos hs.symm], List.mem_cons_self ..⟩
  · obtain ⟨h1, h2⟩ := h j (by omega)
    simp only [if_neg e]
    exact ⟨by rw [Array.getElem?_push, if_neg (by omega)]; exact h1, List.mem_cons_of_mem _ h2⟩
theorem news_ins {g h : Heap} {L T : Addr} {o : Obj} {pre tl : List (Addr × Obj)} (N : News g L h (pre ++ tl)) (e : h.get? T = some o) (hT : T ≠ L ∧ g.get? T = none) : News g L h (pre ++ (T, o) :: tl) := by
  intro p hp
  rcases List.mem_append.mp hp with hp | hp
  · exact N p (List.mem_append_left _ hp)
  · rcases List.mem_cons.mp hp with rfl | hp
    · exact ⟨e, hT⟩
    · exact N p (List.mem_append_right _ hp)
theorem offT_new {g h : Heap} {L T : Addr} {o : Obj} {pre tl : List (Addr × Obj)} (N : News g L h (pre ++ tl)) (e : h.get? T = none) (hO : OffT tl (pre.map (·.1))) : OffT ((T, o) :: tl) (pre.map (·.1)) := by
  intro p hp a ha
  rcases List.mem_cons.mp hp with rfl | hp
  · rintro rfl
    obtain ⟨q, hq, rfl⟩ := List.mem_map.mp ha
    have := (N q (List.mem_append_left _ hq)).1
    rw [e] at this; cases this
  · exact hO p hp a ha
theorem gone {g h : Heap} {L T : Addr} {m : Str → Option Value} (F : Fr g L h m) (e : h.get? T = none) : T ≠ L ∧ g.get? T = none := by
  refine ⟨?_, ?_⟩
  · rintro rfl
    obtain ⟨o, _, _, q, _⟩ := F.ns
    rw [e] at q; cases q
  · cases q : g.get? T with
    | none => rfl
    | some o => rw [F.keep _ _ q] at e; cases e
theorem preSum_bound {f : Nat → Int} {b : Int} : ∀ n : Nat, (∀ j, j < n → 0 ≤ f j ∧ f j ≤ b) → 0 ≤ preSum f n ∧ preSum f n ≤ b * n
  | 0, _ => by simp [preSum]
  | n + 1, h => by
    have h1 := preSum_bound n fun j hj => h j (by omega)
    have h2 := h n (by omega)
    simp only [preSum]
    rw [Int.natCast_add, Int.mul_add]
    omega
theorem pick2 {prog : Program} {w : World} {A : Around} {E : Value → Shared → Prop} {s : Shared} {value slice : Expr} {D : Addr} {a b j : Int} {ta tb u : Tok} {n : Nat} {Q : Value → Shared → Prop} (hg : s.heap.get? D = some (W.listOf #[.int a ta, .int b tb] n)) (h0 : 0 ≤ j) (h1 : j < 2) (h : ∀ x t, (x = a ∨ x = b) → Q (.int x t) s)
    (hs : subscripted slice false (.ref D) (.int j u) = operate [.ref D, .int j u] (getItem (.ref D) (.int j u)) := by with_unfolding_all rfl) :
    wpAny (model prog w) A (subscriptTail value slice (.ref D) (.int j u)) Q E s := by
  have hl : s.heap.IsList D [Value.int a ta, Value.int b tb].toArray := ⟨_, hg, rfl, _, rfl⟩
  refine item_anyK hl (.cons a ta (.cons b tb .nil)) h0 (by simpa using h1) (by omega) (fun t => h _ t ?_) hs
  have : j = 0 ∨ j = 1 := by omega
  rcases this with rfl | rfl
  · exact .inl rfl
  · exact .inr rfl
local macro_rules | `(tactic| walk_at "subscriptTail") => `(tactic| refine halt ?_)
noncomputable def Sturn2 (w : World) (mean : ExcName → Option Value) (mg : Str → Option Value) (mb : Str → Option Value) (g : Heap) (L : Nat) (fa : Nat) (cd : Value) (dp : Nat) (fr : Option (List Env)) (gd : Option (List Code)) (un : Nat) (Q : Flow → Shared → Prop) (m : Str → Option Value) (s : Shared) (rest : List Stmt) (c : Nat) (d : Nat) (r : Nat) (aT : Nat) (aG : Nat) (aK : Nat) (aTo : Nat) (aS : Nat) (aD : Nat) (it : Nat) (e : Nat) (i : Nat) (v : Nat) (tn : Tok) (tk0 : Tok) (tv : Tok) (tm : Tok) (mkS : Str) (o1 : Obj) (o2 : Obj) (o3 : Obj) (o4 : Obj) (o5 : Obj) (o6 : Obj) (o7 : Obj) (oI : Obj) (oE : Obj) (xT : Array Value) (xG : Array Value) (xK : Array Value) (xTo : Array Value) (xS : Array Value) (xD : Array Value) (its : Array Value) (nT : Nat) (nG : Nat) (nK : Nat) (nTo : Nat) (nS : Nat) (nD : Nat) (nC : Nat) (nr : Nat) (ritems : Array Value) (p1 : Array Value) (p2 : Array Value) (t2 : Tok) (t3 : Tok) (tl : List (Addr × Obj)) (fa' : Nat → Str) (fb' : Nat → Str) : Prop := ∀ (hS : St w mean mg mb g) (hA : AOk 59 (Around.mk none dp fr gd un)) (F : Fr g L s.heap m) (h0 : 108 < L) (h1 : L + 1 + 1 + 1 + 1 + 1 + 1 + 1 < c) (h2 : c < d) (h3 : d < r) (h4 : r < aT) (h5 : aT < aG) (h6 : aG < aK) (h7 : aK < aTo) (h8 : aTo < aS) (h9 : aS < aD) (h10 : aD < it) (h11 : it < e) (mr : m "road" = some (.ref r)) (ms : m "sizes" = some (.ref aS)) (mk : m "k" = some (.int ((i : Nat) : Int) tk0)) (mm : m "mark" = some (.str mkS tm)) (mv : m "v" = some (.int ((v : Nat) : Int) tv)) (hv : v < 272) (l1 : o1.data = .cell (some (.ref aT))) (l2 : o2.data = .cell (some (.ref aG))) (l3 : o3.data = .cell (some (.ref aK))) (l4 : o4.data = .cell (some (.ref aTo))) (l5 : o5.data = .cell (some (.ref aD))) (hO : OffT tl [e, it, aD, aS, aTo, aK, aG, aT, r, d, c, L + 1 + 1 + 1 + 1 + 1 + 1 + 1, L + 1 + 1 + 1 + 1 + 1 + 1, L + 1 + 1 + 1 + 1 + 1, L + 1 + 1 + 1 + 1, L + 1 + 1 + 1, L + 1 + 1, L + 1, 101, 108]) (N : News g L s.heap ((e, oE) :: (it, oI) :: (aD, W.listOf xD nD) :: (aS, W.listOf xS nS) :: (aTo, W.listOf xTo nTo) :: (aK, W.listOf xK nK) :: (aG, W.listOf xG nG) :: (aT, W.listOf xT nT) :: (r, roadObj d ritems nr) :: (d, fullDict w t2 t3) :: (c, W.listOf its nC) :: (L + 1 + 1 + 1 + 1 + 1 + 1 + 1, o7) :: (L + 1 + 1 + 1 + 1 + 1 + 1, o6) :: (L + 1 + 1 + 1 + 1 + 1, o5) :: (L + 1 + 1 + 1 + 1, o4) :: (L + 1 + 1 + 1, o3) :: (L + 1 + 1, o2) :: (L + 1, o1) :: (101, tabO p1) :: (108, tabO p2) :: tl)) (hroad : RoadAt tl ritems fa' fb' i) (hfa : fa' i = mkS) (hfb : fb' i = Wd v) (hi8 : i < 8) (hlen : ∀ j, j < i + 1 → (fa' j).length ≤ 1000 ∧ (fb' j).length ≤ 1000) (htri : TriplesOk p1.toList) (hxS : xS.size ≤ 40) (hQ : ∀ s' m' ritems' p1' T6 oTp nr' nS' tz, Fr g L s'.heap m' → (∀ x : Str, x ≠ "word" → m' x = m x) → (∃ t, m' "word" = some (.str (Wd v) t)) →
      News g L s'.heap ((e, oE) :: (it, oI) :: (aD, W.listOf xD nD) :: (aS, W.listOf (xS.push (.int (3 + preSum (fun j => ((fa' j).length + (fb' j).length : Int)) (i + 1)) tz)) nS') :: (aTo, W.listOf xTo nTo) :: (aK, W.listOf xK nK) :: (aG, W.listOf xG nG) :: (aT, W.listOf xT nT) :: (r, roadObj d ritems' nr') :: (d, fullDict w t2 t3) :: (c, W.listOf its nC) :: (L + 1 + 1 + 1 + 1 + 1 + 1 + 1, o7) :: (L + 1 + 1 + 1 + 1 + 1 + 1, o6) :: (L + 1 + 1 + 1 + 1 + 1, o5) :: (L + 1 + 1 + 1 + 1, o4) :: (L + 1 + 1 + 1, o3) :: (L + 1 + 1, o2) :: (L + 1, o1) :: (101, tabO p1') :: (108, tabO p2) :: (T6, oTp) :: tl) →
      OffT ((T6, oTp) :: tl) [e, it, aD, aS, aTo, aK, aG, aT, r, d, c, L + 1 + 1 + 1 + 1 + 1 + 1 + 1, L + 1 + 1 + 1 + 1 + 1 + 1, L + 1 + 1 + 1 + 1 + 1, L + 1 + 1 + 1 + 1, L + 1 + 1 + 1, L + 1 + 1, L + 1, 101, 108] →
      RoadAt ((T6, oTp) :: tl) ritems' fa' fb' (i + 1) → TriplesOk p1'.toList → s'.os = s.os → (AllBare s.gens → AllBare s'.gens) → wpAny (model PG w) (Around.mk none dp fr gd un) (execs rest (lawEnv L fa cd)) Q (fun _ _ => False) s'),
    wpAny (model PG w) (Around.mk none dp fr gd un) (execs (ps 3 :: ps 4 :: ps 5 :: rest) (lawEnv L fa cd)) Q (fun _ _ => False) s
noncomputable def cturn2 : LV := @Classical.epsilon LV lv0 fun x => ¬ Sturn2 x.w x.mean x.mg x.mb x.g x.L x.fa x.cd x.dp x.fr x.gd x.un x.Q x.m x.s x.rest x.c x.d x.r x.aT x.aG x.aK x.aTo x.aS x.aD x.it x.e x.i x.v x.tn x.tk0 x.tv x.tm x.mkS x.o1 x.o2 x.o3 x.o4 x.o5 x.o6 x.o7 x.oI x.oE x.xT x.xG x.xK x.xTo x.xS x.xD x.itsbx x.nT x.nG x.nK x.nTo x.nS x.nD x.nC x.nr x.ritems x.p1 x.p2 x.t2 x.t3 x.tl x.fa' x.fb'
namespace Kturn2
@[irreducible] noncomputable def w : World := cturn2.w
@[irreducible] noncomputable def mean : ExcName → Option Value := cturn2.mean
@[irreducible] noncomputable def mg : Str → Option Value := cturn2.mg
@[irreducible] noncomputable def mb : Str → Option Value := cturn2.mb
@[irreducible] noncomputable def g : Heap := cturn2.g
@[irreducible] noncomputable def L : Nat := cturn2.L
@[irreducible] noncomputable def fa : Nat := cturn2.fa
@[irreducible] noncomputable def cd : Value := cturn2.cd
@[irreducible] noncomputable def dp : Nat := cturn2.dp
@[irreducible] noncomputable def fr : Option (List Env) := cturn2.fr
@[irreducible] noncomputable def gd : Option (List Code) := cturn2.gd
@[irreducible] noncomputable def un : Nat := cturn2.un
@[irreducible] noncomputable def Q : Flow → Shared → Prop := cturn2.Q
@[irreducible] noncomputable def m : Str → Option Value := cturn2.m
@[irreducible] noncomputable def s : Shared := cturn2.s
@[irreducible] noncomputable def rest : List Stmt := cturn2.rest
@[irreducible] noncomputable def c : Nat := cturn2.c
@[irreducible] noncomputable def d : Nat := cturn2.d
@[irreducible] noncomputable def r : Nat := cturn2.r
@[irreducible] noncomputable def aT : Nat := cturn2.aT
@[irreducible] noncomputable def aG : Nat := cturn2.aG
@[irreducible] noncomputable def aK : Nat := cturn2.aK
@[irreducible] noncomputable def aTo : Nat := cturn2.aTo
@[irreducible] noncomputable def aS : Nat := cturn2.aS
@[irreducible] noncomputable def aD : Nat := cturn2.aD
@[irreducible] noncomputable def it : Nat := cturn2.it
@[irreducible] noncomputable def e : Nat := cturn2.e
@[irreducible] noncomputable def i : Nat := cturn2.i
@[irreducible] noncomputable def v : Nat := cturn2.v
@[irreducible] noncomputable def tn : Tok := cturn2.tn
@[irreducible] noncomputable def tk0 : Tok := cturn2.tk0
@[irreducible] noncomputable def tv : Tok := cturn2.tv
@[irreducible] noncomputable def tm : Tok := cturn2.tm
@[irreducible] noncomputable def mkS : Str := cturn2.mkS
@[irreducible] noncomputable def o1 : Obj := cturn2.o1
@[irreducible] noncomputable def o2 : Obj := cturn2.o2
@[irreducible] noncomputable def o3 : Obj := cturn2.o3
@[irreducible] noncomputable def o4 : Obj := cturn2.o4
@[irreducible] noncomputable def o5 : Obj := cturn2.o5
@[irreducible] noncomputable def o6 : Obj := cturn2.o6
@[irreducible] noncomputable def o7 : Obj := cturn2.o7
@[irreducible] noncomputable def oI : Obj := cturn2.oI
@[irreducible] noncomputable def oE : Obj := cturn2.oE
@[irreducible] noncomputable def xT : Array Value := cturn2.xT
@[irreducible] noncomputable def xG : Array Value := cturn2.xG
@[irreducible] noncomputable def xK : Array Value := cturn2.xK
@[irreducible] noncomputable def xTo : Array Value := cturn2.xTo
@[irreducible] noncomputable def xS : Array Value := cturn2.xS
@[irreducible] noncomputable def xD : Array Value := cturn2.xD
@[irreducible] noncomputable def its : Array Value := cturn2.itsbx
@[irreducible] noncomputable def nT : Nat := cturn2.nT
@[irreducible] noncomputable def nG : Nat := cturn2.nG
@[irreducible] noncomputable def nK : Nat := cturn2.nK
@[irreducible] noncomputable def nTo : Nat := cturn2.nTo
@[irreducible] noncomputable def nS : Nat := cturn2.nS
@[irreducible] noncomputable def nD : Nat := cturn2.nD
@[irreducible] noncomputable def nC : Nat := cturn2.nC
@[irreducible] noncomputable def nr : Nat := cturn2.nr
@[irreducible] noncomputable def ritems : Array Value := cturn2.ritems
@[irreducible] noncomputable def p1 : Array Value := cturn2.p1
@[irreducible] noncomputable def p2 : Array Value := cturn2.p2
@[irreducible] noncomputable def t2 : Tok := cturn2.t2
@[irreducible] noncomputable def t3 : Tok := cturn2.t3
@[irreducible] noncomputable def tl : List (Addr × Obj) := cturn2.tl
@[irreducible] noncomputable def fa' : Nat → Str := cturn2.fa'
@[irreducible] noncomputable def fb' : Nat → Str := cturn2.fb'
theorem holds : Sturn2 w mean mg mb g L fa cd dp fr gd un Q m s rest c d r aT aG aK aTo aS aD it e i v tn tk0 tv tm mkS o1 o2 o3 o4 o5 o6 o7 oI oE xT xG xK xTo xS xD its nT nG nK nTo nS nD nC nr ritems p1 p2 t2 t3 tl fa' fb' := by
  intro hS hA F h0 h1 h2 h3 h4 h5 h6 h7 h8 h9 h10 h11 mr ms mk mm mv hv l1 l2 l3 l4 l5 hO N hroad hfa hfb hi8 hlen htri hxS hQ
  have hDec := Dec.cons h11 (.cons h10 (.cons h9 (.cons h8 (.cons h7 (.cons h6 (.cons h5 (.cons h4 (.cons h3 (.cons h2 (.cons h1 (decL h0)))))))))))
  have X := hS.X
  have T := hS.T
  dsimp only [lawEnv]
  conv in (occs := *) (DefRec.scope lawRec) => all_goals whnf
  conv in (ps 3) => whnf
  conv in (ps 4) => whnf
  conv in (ps 5) => whnf
  have hk0 : 0 ≤ ((i : Nat) : Int).fmod 2 ∧ ((i : Nat) : Int).fmod 2 < 2 := by
    rw [Int.fmod_eq_emod_of_nonneg _ (by omega)]; omega
  k_steps
  refine unhalt ?_
  rename Fr _ _ _ _ => F1
  rename News _ _ _ _ => N1
  refine pick2 (s := ⟨_, _, _, _, _⟩) (N1.get (by k_mem)) hk0.1 hk0.2 fun x t hx => ?_
  have hxa : x.natAbs = v := by rcases hx with rfl | rfl <;> omega
  (try dsimp only)
  iterate 2 walk_at "kst"
  refine (int2ap w mean mg mb x t (by omega)).use (hA.le (by omega)) hS F1 N1 fun r1 h3 tk3 hr F3 N3 => ?_
  obtain ⟨tw, rfl⟩ := hr
  rw [hxa]
  clear F1 N1
  (try dsimp only)
  iterate 5 walk_at "kst"
  refine bdecode (s := ⟨_, _, _, _, _⟩) hv fun t4 tk4 => ?_
  (try dsimp only)
  iterate 6 walk_at "kst"
  rename Fr _ _ _ _ => F4
  rename News _ _ _ _ => N4
  have N5 := news_sub (l' := ((e, oE) :: (it, oI) :: (aD, W.listOf xD nD) :: (aS, W.listOf xS nS) :: (aTo, W.listOf xTo nTo) :: (aK, W.listOf xK nK) :: (aG, W.listOf xG nG) :: (aT, W.listOf xT nT) :: (r, roadObj d ritems nr) :: (d, fullDict w t2 t3) :: (c, W.listOf its nC) :: (L + 1 + 1 + 1 + 1 + 1 + 1 + 1, o7) :: (L + 1 + 1 + 1 + 1 + 1 + 1, o6) :: (L + 1 + 1 + 1 + 1 + 1, o5) :: (L + 1 + 1 + 1 + 1, o4) :: (L + 1 + 1 + 1, o3) :: (L + 1 + 1, o2) :: (L + 1, o1) :: (101, tabO p1) :: (108, tabO p2) :: tl)) N4 (fun p hp => List.mem_cons_of_mem _ hp)
  clear N4
  rename e < _ ∧ _ => lx
  clear lx
  refine getMethod_road (X.keeps F4.keep) (N5.get (by k_mem)) (N5.get (by k_mem)) (by rfl) (by rfl) (find_ga _) (find_gr _) (find_push _) (push_type (X.keeps F4.keep)) (by decide) ?_
  (try dsimp only)
  iterate 7 walk_at "kst"
  have grn : g.get? r = none := (N5 (r, roadObj d ritems nr) (by k_mem)).2.2
  refine push w mean mg mb mkS (Wd v) tm t4 r d ritems nr { depth := dp, frames := fr, guards := gd, units := un } ⟨_, _, _, _, _⟩ _ _ (hA.le (by omega)) (hS.keeps (hide_keeps (by intro a ha; obtain rfl := List.mem_singleton.mp ha; exact grn) F4.keep)) (N5.get (by k_mem)) (N5.get (by k_mem)) (by rfl) (by rfl) (by rw [hroad.1, sizeLine_eq]; omega) fun T6 h6 tk6 u1 u2 q1 q2 q3 q4 => ?_
  have hT6 := gone F4 q3
  obtain ⟨F6, N6⟩ := but_fr (oa' := roadObj d (ritems.push (.ref T6)) (nr + 1)) F4 N5 (by k_upd) q4 q1
  have N7 := news_ins (pre := [(e, oE), (it, oI), (aD, W.listOf xD nD), (aS, W.listOf xS nS), (aTo, W.listOf xTo nTo), (aK, W.listOf xK nK), (aG, W.listOf xG nG), (aT, W.listOf xT nT), (r, roadObj d (ritems.push (.ref T6)) (nr + 1)), (d, fullDict w t2 t3), (c, W.listOf its nC), (L + 1 + 1 + 1 + 1 + 1 + 1 + 1, o7), (L + 1 + 1 + 1 + 1 + 1 + 1, o6), (L + 1 + 1 + 1 + 1 + 1, o5), (L + 1 + 1 + 1 + 1, o4), (L + 1 + 1 + 1, o3), (L + 1 + 1, o2), (L + 1, o1), (101, tabO p1), (108, tabO p2)]) N6 q2 hT6
  have hO7 : OffT ((T6, tupO mkS (Wd v) u1 u2) :: tl) [e, it, aD, aS, aTo, aK, aG, aT, r, d, c, L + 1 + 1 + 1 + 1 + 1 + 1 + 1, L + 1 + 1 + 1 + 1 + 1 + 1, L + 1 + 1 + 1 + 1 + 1, L + 1 + 1 + 1 + 1, L + 1 + 1 + 1, L + 1 + 1, L + 1, 101, 108] := offT_new (pre := [(e, oE), (it, oI), (aD, W.listOf xD nD), (aS, W.listOf xS nS), (aTo, W.listOf xTo nTo), (aK, W.listOf xK nK), (aG, W.listOf xG nG), (aT, W.listOf xT nT), (r, roadObj d ritems nr), (d, fullDict w t2 t3), (c, W.listOf its nC), (L + 1 + 1 + 1 + 1 + 1 + 1 + 1, o7), (L + 1 + 1 + 1 + 1 + 1 + 1, o6), (L + 1 + 1 + 1 + 1 + 1, o5), (L + 1 + 1 + 1 + 1, o4), (L + 1 + 1 + 1, o3), (L + 1 + 1, o2), (L + 1, o1), (101, tabO p1), (108, tabO p2)]) N5 q3 hO
  have hroad7 : RoadAt ((T6, tupO mkS (Wd v) u1 u2) :: tl) (ritems.push (.ref T6)) fa' fb' (i + 1) := by
    have := hroad.push T6 u1 u2
    rwa [hfa, hfb] at this
  clear F4 N5 N6 hO hroad q1 q2 q3 q4
  have hmem : ∀ p ∈ (T6, tupO mkS (Wd v) u1 u2) :: tl, h6.get? p.1 = some p.2 := fun p hp => (N7 p (List.mem_append_right _ hp)).1
  dsimp only [List.cons_append, List.nil_append] at N7
  (try dsimp only)
  iterate 13 walk_at "kst"
  have hdI : h6.get? d = some (fullDict w t2 t3) := N7.get (by k_mem)
  have I7 : InstAt h6 r (roadObj d (ritems.push (.ref T6)) (nr + 1)) 138 (some (fullDict w t2 t3)) := ⟨N7.get (by k_mem), rfl, rfl, hdI⟩
  refine len_K (s := ⟨h6, _, _, _, _⟩) F6 X I7 (find_len _) (by with_unfolding_all rfl) ?_
  obtain ⟨hsz7, Ts, ta, tb, hj⟩ := id hroad7
  have g101 : g.get? 101 = none := (N7 (101, tabO p1) (by k_mem)).2.2
  refine len_road w mean mg mb r d (ritems.push (.ref T6)) (nr + 1) t2 t3 Ts fa' fb' ta tb p1 _ ⟨h6, _, _, _, _⟩ _ _ ⟨rfl, by have := hA.dp; show dp + 5 < 900; change dp + 59 < 900 at this; omega, by have := hA.un; show un + 1 + 8 * 5 < 9000; change un + 8 * 59 < 9000 at this; omega⟩ (hS.keeps (hide_keeps (by intro a ha; obtain rfl := List.mem_singleton.mp ha; exact g101) F6.keep)) (N7.get (by k_mem)) (N7.get (by k_mem)) (fun j hj' => (hj j (by omega)).1) (fun j hj' => ⟨_, hmem _ (hj j (by omega)).2, rfl, _, rfl⟩) (N7.get (by k_mem)) htri (by omega) (fun j hj' => hlen j (by omega)) fun s' t' hk htab hos hdr hgn => ?_
  obtain ⟨p1', hp1, htri'⟩ := htab
  obtain ⟨h8, g8, d8, tk8, os8⟩ := s'
  obtain ⟨F9, N9⟩ := but_fr (oa' := tabO p1') F6 N7 (by k_upd) hk hp1
  have hb := preSum_bound (f := fun j => ((fa' j).length + (fb' j).length : Int)) (b := 2000) (i + 1) fun j hj' => by have := hlen j hj'; (try dsimp only); omega
  rw [hsz7]
  refine ⟨⟨by omega, by omega⟩, ?_⟩
  clear F6 N7 hmem I7 hdI
  (try dsimp only)
  k_steps
  rename Fr _ _ _ _ => F10
  rename News _ _ _ _ => N10
  refine hQ ⟨_, _, _, _, _⟩ _ _ _ _ _ _ _ _ F10 ?_ ?_ N10 hO7 hroad7 htri' hos hgn
  · intro x hx
    (try dsimp only)
    rw [if_neg hx]
  · refine Exists.intro ?_ ?_
    rotate_left
    · with_unfolding_all rfl
end Kturn2
theorem turn2 {w : World} {mean : ExcName → Option Value} {mg mb : Str → Option Value} {g : Heap} {L fa : Nat} {cd : Value} {A : Around} {Q : Flow → Shared → Prop} {m : Str → Option Value} {s : Shared} {rest : List Stmt}
    {c d r aT aG aK aTo aS aD it e i v : Nat} {tn tk0 tv tm : Tok} {mkS : Str} {o1 o2 o3 o4 o5 o6 o7 oI oE : Obj} {xT xG xK xTo xS xD its : Array Value} {nT nG nK nTo nS nD nC nr : Nat} {ritems p1 p2 : Array Value} {t2 t3 : Tok}
    (hS : St w mean mg mb g) (hA : AOk 59 A) (F : Fr g L s.heap m) (h0 : 108 < L) (h1 : L + 1 + 1 + 1 + 1 + 1 + 1 + 1 < c) (h2 : c < d) (h3 : d < r) (h4 : r < aT) (h5 : aT < aG) (h6 : aG < aK) (h7 : aK < aTo) (h8 : aTo < aS) (h9 : aS < aD) (h10 : aD < it) (h11 : it < e)
    (mr : m "road" = some (.ref r)) (ms : m "sizes" = some (.ref aS)) (mk : m "k" = some (.int ((i : Nat) : Int) tk0)) (mm : m "mark" = some (.str mkS tm)) (mv : m "v" = some (.int ((v : Nat) : Int) tv)) (hv : v < 272)
    (l1 : o1.data = .cell (some (.ref aT))) (l2 : o2.data = .cell (some (.ref aG))) (l3 : o3.data = .cell (some (.ref aK))) (l4 : o4.data = .cell (some (.ref aTo))) (l5 : o5.data = .cell (some (.ref aD)))
    {tl : List (Addr × Obj)} (hO : OffT tl [e, it, aD, aS, aTo, aK, aG, aT, r, d, c, L + 1 + 1 + 1 + 1 + 1 + 1 + 1, L + 1 + 1 + 1 + 1 + 1 + 1, L + 1 + 1 + 1 + 1 + 1, L + 1 + 1 + 1 + 1, L + 1 + 1 + 1, L + 1 + 1, L + 1, 101, 108])
    (N : News g L s.heap ((e, oE) :: (it, oI) :: (aD, W.listOf xD nD) :: (aS, W.listOf xS nS) :: (aTo, W.listOf xTo nTo) :: (aK, W.listOf xK nK) :: (aG, W.listOf xG nG) :: (aT, W.listOf xT nT) :: (r, roadObj d ritems nr) :: (d, fullDict w t2 t3) :: (c, W.listOf its nC) :: (L + 1 + 1 + 1 + 1 + 1 + 1 + 1, o7) :: (L + 1 + 1 + 1 + 1 + 1 + 1, o6) :: (L + 1 + 1 + 1 + 1 + 1, o5) :: (L + 1 + 1 + 1 + 1, o4) :: (L + 1 + 1 + 1, o3) :: (L + 1 + 1, o2) :: (L + 1, o1) :: (101, tabO p1) :: (108, tabO p2) :: tl)) {fa' fb' : Nat → Str} (hroad : RoadAt tl ritems fa' fb' i) (hfa : fa' i = mkS) (hfb : fb' i = Wd v) (hi8 : i < 8) (hlen : ∀ j, j < i + 1 → (fa' j).length ≤ 1000 ∧ (fb' j).length ≤ 1000) (htri : TriplesOk p1.toList) (hxS : xS.size ≤ 40)
    (hQ : ∀ s' m' ritems' p1' T6 oTp nr' nS' tz, Fr g L s'.heap m' → (∀ x : Str, x ≠ "word" → m' x = m x) → (∃ t, m' "word" = some (.str (Wd v) t)) →
      News g L s'.heap ((e, oE) :: (it, oI) :: (aD, W.listOf xD nD) :: (aS, W.listOf (xS.push (.int (3 + preSum (fun j => ((fa' j).length + (fb' j).length : Int)) (i + 1)) tz)) nS') :: (aTo, W.listOf xTo nTo) :: (aK, W.listOf xK nK) :: (aG, W.listOf xG nG) :: (aT, W.listOf xT nT) :: (r, roadObj d ritems' nr') :: (d, fullDict w t2 t3) :: (c, W.listOf its nC) :: (L + 1 + 1 + 1 + 1 + 1 + 1 + 1, o7) :: (L + 1 + 1 + 1 + 1 + 1 + 1, o6) :: (L + 1 + 1 + 1 + 1 + 1, o5) :: (L + 1 + 1 + 1 + 1, o4) :: (L + 1 + 1 + 1, o3) :: (L + 1 + 1, o2) :: (L + 1, o1) :: (101, tabO p1') :: (108, tabO p2) :: (T6, oTp) :: tl) →
      OffT ((T6, oTp) :: tl) [e, it, aD, aS, aTo, aK, aG, aT, r, d, c, L + 1 + 1 + 1 + 1 + 1 + 1 + 1, L + 1 + 1 + 1 + 1 + 1 + 1, L + 1 + 1 + 1 + 1 + 1, L + 1 + 1 + 1 + 1, L + 1 + 1 + 1, L + 1 + 1, L + 1, 101, 108] →
      RoadAt ((T6, oTp) :: tl) ritems' fa' fb' (i + 1) → TriplesOk p1'.toList → s'.os = s.os → (AllBare s.gens → AllBare s'.gens) → wpAny (model PG w) A (execs rest (lawEnv L fa cd)) Q (fun _ _ => False) s') :
    wpAny (model PG w) A (execs (ps 3 :: ps 4 :: ps 5 :: rest) (lawEnv L fa cd)) Q (fun _ _ => False) s := by
  obtain ⟨hd0, dp, fr, gd, un⟩ := A
  obtain rfl : hd0 = none := hA.hd
  exact skolem lv0 (fun x => Sturn2 x.w x.mean x.mg x.mb x.g x.L x.fa x.cd x.dp x.fr x.gd x.un x.Q x.m x.s x.rest x.c x.d x.r x.aT x.aG x.aK x.aTo x.aS x.aD x.it x.e x.i x.v x.tn x.tk0 x.tv x.tm x.mkS x.o1 x.o2 x.o3 x.o4 x.o5 x.o6 x.o7 x.oI x.oE x.xT x.xG x.xK x.xTo x.xS x.xD x.itsbx x.nT x.nG x.nK x.nTo x.nS x.nD x.nC x.nr x.ritems x.p1 x.p2 x.t2 x.t3 x.tl x.fa' x.fb') (by with_unfolding_all exact Kturn2.holds) ⟨w, mean, mg, mb, g, L, fa, cd, dp, fr, gd, un, Q, m, s, (Classical.choice lv0).news, (Classical.choice lv0).ls, c, (Classical.choice lv0).vs, (Classical.choice lv0).xs, (Classical.choice lv0).its, (Classical.choice lv0).cs, (Classical.choice lv0).n, (Classical.choice lv0).oc, rest, o1, o2, o3, o4, o5, o6, o7, d, r, aT, aG, aK, aTo, aS, aD, it, e, i, (Classical.choice lv0).nbx, tn, tk0, oI, oE, xT, xG, xK, xTo, xS, xD, its, nT, nG, nK, nTo, nS, nD, nC, nr, ritems, p1, p2, t2, t3, (Classical.choice lv0).yT, (Classical.choice lv0).tt, tl, v, tv, tm, mkS, fa', fb', (Classical.choice lv0).l, (Classical.choice lv0).mkF, (Classical.choice lv0).bk, (Classical.choice lv0).tw, (Classical.choice lv0).tb, (Classical.choice lv0).td, (Classical.choice lv0).dl, (Classical.choice lv0).aGp, (Classical.choice lv0).nGp, (Classical.choice lv0).xGp, (Classical.choice lv0).r0, (Classical.choice lv0).r1, (Classical.choice lv0).r2, (Classical.choice lv0).r3, (Classical.choice lv0).k0, (Classical.choice lv0).k1, (Classical.choice lv0).k2, (Classical.choice lv0).k3, (Classical.choice lv0).aTb, (Classical.choice lv0).nTb, (Classical.choice lv0).v0, (Classical.choice lv0).v1, (Classical.choice lv0).v2, (Classical.choice lv0).v3, (Classical.choice lv0).aX, (Classical.choice lv0).nX, (Classical.choice lv0).xX, (Classical.choice lv0).ns, (Classical.choice lv0).c0, (Classical.choice lv0).d0, (Classical.choice lv0).tc, (Classical.choice lv0).tf, (Classical.choice lv0).j⟩ hS hA F h0 h1 h2 h3 h4 h5 h6 h7 h8 h9 h10 h11 mr ms mk mm mv hv l1 l2 l3 l4 l5 hO N hroad hfa hfb hi8 hlen htri hxS hQ
end
end Mine
end OfA25
section OfA26
open PySem PySem.W PySem.W.X PyProof.Rows
set_option Elab.async false
set_option maxRecDepth 100000
set_option maxHeartbeats 4000000
set_option pp.maxSteps 3000
namespace Mine
noncomputable section
theorem filled26 : kk.heap_1 = kk.heap_1 ∧ PySem.Challenge.rw_wu0057_01.name = PySem.Challenge.rw_wu0057_01.name := by
  k_fill
  exact ⟨rfl, rfl⟩
local macro_rules | `(tactic| walk_at "pad") => `(tactic| skip)
local macro_rules | `(tactic| walk_at "eval Name") => `(tactic| (k_here; walk_at "nmX"))
local macro_rules | `(tactic| k_all) => `(tactic| exact OffT.get (by assumption) (by repeat (first | exact List.mem_cons_self .. | refine List.mem_cons_of_mem _ ?_)))

theorem len_led {g : Heap} {w : World} {A : Around} {E : Value → Shared → Prop} {s : Shared} {L D : Addr} {its : Array Value} {n : Nat} {news : List (Addr × Obj)} {Q : Value → Shared → Prop} (N : News g L s.heap news) (hm : (D, W.listOf its n) ∈ news) (hz : its.size ≤ 1000)
    (h : Q (.int its.size (s.toks + 1)) { s with toks := s.toks + 1 + 1 }) : wpAny (model PG w) A (call (.builtin "len") [.ref D]) Q E s :=
  len_list ⟨_, N.get hm, rfl, _, rfl⟩ (by omega) h
theorem dbl_length (l : List Nat) : (dbl l).length ≤ 2 * l.length := by
  induction l with
  | nil => simp [dbl]
  | cons a l ih =>
    have e : dbl (a :: l) = (if a = 34 then [34, 34] else [a]) ++ dbl l := rfl
    rw [e, List.length_append, List.length_cons]
    split <;> simp <;> omega
noncomputable def bad (l : List Nat) : Str := ⟨([53, 53, 48, 32] ++ l ++ [32, 119, 97, 110, 116, 115, 32, 105, 116]).toArray⟩
local macro_rules | `(tactic| walk_at "call builtin:len") => `(tactic| (k_here; (refine len_led (by k_asm) (by k_mem) (by omega) ?_)))
noncomputable def Sturn3 (w : World) (mean : ExcName → Option Value) (mg : Str → Option Value) (mb : Str → Option Value) (g : Heap) (L : Nat) (fa : Nat) (cd : Value) (dp : Nat) (fr : Option (List Env)) (gd : Option (List Code)) (un : Nat) (Q : Flow → Shared → Prop) (m : Str → Option Value) (s : Shared) (rest : List Stmt) (c : Nat) (d : Nat) (r : Nat) (aT : Nat) (aG : Nat) (aK : Nat) (aTo : Nat) (aS : Nat) (aD : Nat) (it : Nat) (e : Nat) (i : Nat) (tk0 : Tok) (tn : Tok) (n : Int) (o1 : Obj) (o2 : Obj) (o3 : Obj) (o4 : Obj) (o5 : Obj) (o6 : Obj) (o7 : Obj) (oI : Obj) (oE : Obj) (xT : Array Value) (xG : Array Value) (xK : Array Value) (xTo : Array Value) (xS : Array Value) (xD : Array Value) (its : Array Value) (nT : Nat) (nG : Nat) (nK : Nat) (nTo : Nat) (nS : Nat) (nD : Nat) (nC : Nat) (nr : Nat) (ritems : Array Value) (p1 : Array Value) (p2 : Array Value) (t2 : Tok) (t3 : Tok) (tl : List (Addr × Obj)) (fa' : Nat → Str) (fb' : Nat → Str) (l : Nat) (tt : List Nat) : Prop := ∀ (hS : St w mean mg mb g) (hA : AOk 59 (Around.mk none dp fr gd un)) (F : Fr g L s.heap m) (h0 : 108 < L) (h1 : L + 1 + 1 + 1 + 1 + 1 + 1 + 1 < c) (h2 : c < d) (h3 : d < r) (h4 : r < aT) (h5 : aT < aG) (h6 : aG < aK) (h7 : aK < aTo) (h8 : aTo < aS) (h9 : aS < aD) (h10 : aD < it) (h11 : it < e) (mr : m "road" = some (.ref r)) (mk : m "k" = some (.int ((i : Nat) : Int) tk0)) (mn : m "n" = some (.int n tn)) (l1 : o1.data = .cell (some (.ref aT))) (l2 : o2.data = .cell (some (.ref aG))) (l3 : o3.data = .cell (some (.ref aK))) (l4 : o4.data = .cell (some (.ref aTo))) (l5 : o5.data = .cell (some (.ref aD))) (hO : OffT tl [e, it, aD, aS, aTo, aK, aG, aT, r, d, c, L + 1 + 1 + 1 + 1 + 1 + 1 + 1, L + 1 + 1 + 1 + 1 + 1 + 1, L + 1 + 1 + 1 + 1 + 1, L + 1 + 1 + 1 + 1, L + 1 + 1 + 1, L + 1 + 1, L + 1, 101, 108]) (N : News g L s.heap ((e, oE) :: (it, oI) :: (aD, W.listOf xD nD) :: (aS, W.listOf xS nS) :: (aTo, W.listOf xTo nTo) :: (aK, W.listOf xK nK) :: (aG, W.listOf xG nG) :: (aT, W.listOf xT nT) :: (r, roadObj d ritems nr) :: (d, fullDict w t2 t3) :: (c, W.listOf its nC) :: (L + 1 + 1 + 1 + 1 + 1 + 1 + 1, o7) :: (L + 1 + 1 + 1 + 1 + 1 + 1, o6) :: (L + 1 + 1 + 1 + 1 + 1, o5) :: (L + 1 + 1 + 1 + 1, o4) :: (L + 1 + 1 + 1, o3) :: (L + 1 + 1, o2) :: (L + 1, o1) :: (101, tabO p1) :: (108, tabO p2) :: tl)) (hxG : xG.size ≤ 40) (hxK : xK.size ≤ 40) (hroad : RoadAt tl ritems fa' fb' l) (hl8 : l ≤ 8) (hlen : ∀ j, j < l → (fa' j).length ≤ 1000 ∧ (fb' j).length ≤ 1000) (htri : TriplesOk p2.toList) (hcat : catL ((List.range l).map fun j => fa' j ++ fb' j) = ⟨tt.toArray⟩) (htt : tt.length ≤ 40) (hQ : ∀ s' m' b xG' xK' nG' nK' p2' rep, Fr g L s'.heap m' → (∀ x : Str, x ≠ "reply" → m' x = m x) → (∃ t, m' "reply" = some (.str rep t)) → b = ((xK.size == 4) || (n.fmod 2 == 0 && decide (xG.size < 4))) →
      (rep = if b then good tt else bad tt) → (∃ t, xG' = if b then xG.push (.int ((i : Int) + 1) t) else xG) → (∃ t, xK' = if b then xK else xK.push (.int ((i : Int) + 1) t)) →
      News g L s'.heap ((e, oE) :: (it, oI) :: (aD, W.listOf xD nD) :: (aS, W.listOf xS nS) :: (aTo, W.listOf xTo nTo) :: (aK, W.listOf xK' nK') :: (aG, W.listOf xG' nG') :: (aT, W.listOf xT nT) :: (r, roadObj d ritems nr) :: (d, fullDict w t2 t3) :: (c, W.listOf its nC) :: (L + 1 + 1 + 1 + 1 + 1 + 1 + 1, o7) :: (L + 1 + 1 + 1 + 1 + 1 + 1, o6) :: (L + 1 + 1 + 1 + 1 + 1, o5) :: (L + 1 + 1 + 1 + 1, o4) :: (L + 1 + 1 + 1, o3) :: (L + 1 + 1, o2) :: (L + 1, o1) :: (101, tabO p1) :: (108, tabO p2') :: tl) → TriplesOk p2'.toList → s'.os = s.os → (AllBare s.gens → AllBare s'.gens) → wpAny (model PG w) (Around.mk none dp fr gd un) (execs rest (lawEnv L fa cd)) Q (fun _ _ => False) s'),
    wpAny (model PG w) (Around.mk none dp fr gd un) (execs (ps 6 :: rest) (lawEnv L fa cd)) Q (fun _ _ => False) s
noncomputable def cturn3 : LV := @Classical.epsilon LV lv0 fun x => ¬ Sturn3 x.w x.mean x.mg x.mb x.g x.L x.fa x.cd x.dp x.fr x.gd x.un x.Q x.m x.s x.rest x.c x.d x.r x.aT x.aG x.aK x.aTo x.aS x.aD x.it x.e x.i x.tk0 x.tn x.nbx x.o1 x.o2 x.o3 x.o4 x.o5 x.o6 x.o7 x.oI x.oE x.xT x.xG x.xK x.xTo x.xS x.xD x.itsbx x.nT x.nG x.nK x.nTo x.nS x.nD x.nC x.nr x.ritems x.p1 x.p2 x.t2 x.t3 x.tl x.fa' x.fb' x.l x.tt
namespace Kturn3
@[irreducible] noncomputable def w : World := cturn3.w
@[irreducible] noncomputable def mean : ExcName → Option Value := cturn3.mean
@[irreducible] noncomputable def mg : Str → Option Value := cturn3.mg
@[irreducible] noncomputable def mb : Str → Option Value := cturn3.mb
@[irreducible] noncomputable def g : Heap := cturn3.g
@[irreducible] noncomputable def L : Nat := cturn3.L
@[irreducible] noncomputable def fa : Nat := cturn3.fa
@[irreducible] noncomputable def cd : Value := cturn3.cd
@[irreducible] noncomputable def dp : Nat := cturn3.dp
@[irreducible] noncomputable def fr : Option (List Env) := cturn3.fr
@[irreducible] noncomputable def gd : Option (List Code) := cturn3.gd
@[irreducible] noncomputable def un : Nat := cturn3.un
@[irreducible] noncomputable def Q : Flow → Shared → Prop := cturn3.Q
@[irreducible] noncomputable def m : Str → Option Value := cturn3.m
@[irreducible] noncomputable def s : Shared := cturn3.s
@[irreducible] noncomputable def rest : List Stmt := cturn3.rest
@[irreducible] noncomputable def c : Nat := cturn3.c
@[irreducible] noncomputable def d : Nat := cturn3.d
@[irreducible] noncomputable def r : Nat := cturn3.r
@[irreducible] noncomputable def aT : Nat := cturn3.aT
@[irreducible] noncomputable def aG : Nat := cturn3.aG
@[irreducible] noncomputable def aK : Nat := cturn3.aK
@[irreducible] noncomputable def aTo : Nat := cturn3.aTo
@[irreducible] noncomputable def aS : Nat := cturn3.aS
@[irreducible] noncomputable def aD : Nat := cturn3.aD
@[irreducible] noncomputable def it : Nat := cturn3.it
@[irreducible] noncomputable def e : Nat := cturn3.e
@[irreducible] noncomputable def i : Nat := cturn3.i
@[irreducible] noncomputable def tk0 : Tok := cturn3.tk0
@[irreducible] noncomputable def tn : Tok := cturn3.tn
@[irreducible] noncomputable def n : Int := cturn3.nbx
@[irreducible] noncomputable def o1 : Obj := cturn3.o1
@[irreducible] noncomputable def o2 : Obj := cturn3.o2
@[irreducible] noncomputable def o3 : Obj := cturn3.o3
@[irreducible] noncomputable def o4 : Obj := cturn3.o4
@[irreducible] noncomputable def o5 : Obj := cturn3.o5
@[irreducible] noncomputable def o6 : Obj := cturn3.o6
@[irreducible] noncomputable def o7 : Obj := cturn3.o7
@[irreducible] noncomputable def oI : Obj := cturn3.oI
@[irreducible] noncomputable def oE : Obj := cturn3.oE
@[irreducible] noncomputable def xT : Array Value := cturn3.xT
@[irreducible] noncomputable def xG : Array Value := cturn3.xG
@[irreducible] noncomputable def xK : Array Value := cturn3.xK
@[irreducible] noncomputable def xTo : Array Value := cturn3.xTo
@[irreducible] noncomputable def xS : Array Value := cturn3.xS
@[irreducible] noncomputable def xD : Array Value := cturn3.xD
@[irreducible] noncomputable def its : Array Value := cturn3.itsbx
@[irreducible] noncomputable def nT : Nat := cturn3.nT
@[irreducible] noncomputable def nG : Nat := cturn3.nG
@[irreducible] noncomputable def nK : Nat := cturn3.nK
@[irreducible] noncomputable def nTo : Nat := cturn3.nTo
@[irreducible] noncomputable def nS : Nat := cturn3.nS
@[irreducible] noncomputable def nD : Nat := cturn3.nD
@[irreducible] noncomputable def nC : Nat := cturn3.nC
@[irreducible] noncomputable def nr : Nat := cturn3.nr
@[irreducible] noncomputable def ritems : Array Value := cturn3.ritems
@[irreducible] noncomputable def p1 : Array Value := cturn3.p1
@[irreducible] noncomputable def p2 : Array Value := cturn3.p2
@[irreducible] noncomputable def t2 : Tok := cturn3.t2
@[irreducible] noncomputable def t3 : Tok := cturn3.t3
@[irreducible] noncomputable def tl : List (Addr × Obj) := cturn3.tl
@[irreducible] noncomputable def fa' : Nat → Str := cturn3.fa'
@[irreducible] noncomputable def fb' : Nat → Str := cturn3.fb'
@[irreducible] noncomputable def l : Nat := cturn3.l
@[irreducible] noncomputable def tt : List Nat := cturn3.tt
theorem holds : Sturn3 w mean mg mb g L fa cd dp fr gd un Q m s rest c d r aT aG aK aTo aS aD it e i tk0 tn n o1 o2 o3 o4 o5 o6 o7 oI oE xT xG xK xTo xS xD its nT nG nK nTo nS nD nC nr ritems p1 p2 t2 t3 tl fa' fb' l tt := by
  intro hS hA F h0 h1 h2 h3 h4 h5 h6 h7 h8 h9 h10 h11 mr mk mn l1 l2 l3 l4 l5 hO N hxG hxK hroad hl8 hlen htri hcat htt hQ
  have hDec := Dec.cons h11 (.cons h10 (.cons h9 (.cons h8 (.cons h7 (.cons h6 (.cons h5 (.cons h4 (.cons h3 (.cons h2 (.cons h1 (decL h0)))))))))))
  have X := hS.X
  have T := hS.T
  dsimp only [lawEnv]
  conv in (occs := *) (DefRec.scope lawRec) => all_goals whnf
  conv in (ps 6) => whnf
  refine wpAny_execs_cons (wpAny_If (wpAny_mono (Q := fun b s₂ => Halt (b = ((xK.size == 4) || (n.fmod 2 == 0 && decide (xG.size < 4))) ∧ ∃ tk, s₂ = { s with toks := tk })) ?_ (fun b s₂ hb => ?_) (fun _ _ x => x)))
  · k_steps
    all_goals (refine unhalt ⟨?_, ⟨_, rfl⟩⟩; rw [Bool.eq_iff_iff]; simp only [Bool.or_eq_true, Bool.and_eq_true, beq_iff_eq, decide_eq_true_eq, true_iff, false_iff, Bool.false_eq_true]; omega)
  obtain ⟨hb, tk1, rfl⟩ := hb
  have eG : ∀ t : Tok, ∃ t', (if b then xG.push (.int ((i : Int) + 1) t) else xG) = if b then xG.push (.int ((i : Int) + 1) t') else xG := fun t => ⟨t, rfl⟩
  cases b with
  | true =>
    rw [if_pos rfl]
    (try dsimp only)
    iterate 26 walk_at "kst"
    rename Fr _ _ _ _ => F4
    rename News _ _ _ _ => N4
    have hdI := N4.get (a := d) (o := fullDict w t2 t3) (by k_mem)
    have hrI := N4.get (a := r) (o := roadObj d ritems nr) (by k_mem)
    have h8I := N4.get (a := 108) (o := tabO p2) (by k_mem)
    have g108 : g.get? 108 = none := (N4 (108, tabO p2) (by k_mem)).2.2
    have hmem := fun p (hp : p ∈ tl) => (N4 p (List.mem_append_right [_, _, _, _, _, _, _, _, _, _, _, _, _, _, _, _, _, _, _, _] hp)).1
    obtain ⟨hszR, Ts, ta, tb, hj⟩ := id hroad
    refine wpAny_with_toks (n := 1) (Nat.succ_le_succ (Nat.zero_le _)) ?_
    refine kso_call (s := ⟨_, _, _, _, _⟩) (by have := hA.un; show un + 1 + 1 < 9900; change un + 8 * 59 < 9000 at this; omega) (X.keeps F4.keep) (⟨hrI, rfl, rfl, hdI⟩ : InstAt _ r (roadObj d ritems nr) 138 (some (fullDict w t2 t3))) (find_str _) (by with_unfolding_all rfl) ?_
    refine str_road w mean mg mb r d ritems nr Ts fa' fb' ta tb p2 _ ⟨_, _, _, _, _⟩ _ _ ⟨rfl, by have := hA.dp; show dp + 5 < 900; change dp + 59 < 900 at this; omega, by have := hA.un; show un + 1 + 1 + 8 * 5 < 9000; change un + 8 * 59 < 9000 at this; omega⟩ (hS.keeps (hide_keeps (by intro a ha; obtain rfl := List.mem_singleton.mp ha; exact g108) F4.keep)) hrI (fun j hj' => (hj j (by omega)).1) (fun j hj' => ⟨_, hmem _ (hj j (by omega)).2, rfl, _, rfl⟩) h8I htri (by omega) (fun j hj' => hlen j (by omega)) fun s' t' hk htab hos hdr hgn => ?_
    obtain ⟨p2', hp2, htri'⟩ := htab
    obtain ⟨h8', g8, d8, tk8, os8⟩ := s'
    obtain ⟨F9, N9⟩ := but_fr (oa' := tabO p2') F4 N4 (by k_upd) hk hp2
    rw [hszR, hcat]
    dsimp only [StrBack]
    intro hpos
    replace hpos : 1 ≤ tk8 := hpos
    clear F4 N4 hmem hdI hrI h8I hk
    iterate 7 walk_at "kst"
    refine SC.replace (s := ⟨_, _, _, _, _⟩) (Nat.ne_of_gt hpos) (Nat.succ_ne_zero _) (Nat.ne_of_lt (Nat.lt_succ_self _)) (by decide) ?_ fun t9 k9 => ?_
    · have e1 : (⟨tt.toArray⟩ : Str).length = tt.length := rfl
      have e2 : (PySem.Str.ofString "\"\"").length = 2 := by decide
      rw [e1, e2]; omega
    have er : Txt.replace ⟨tt.toArray⟩ (PySem.Str.ofString "\"") (PySem.Str.ofString "\"\"") = ⟨(dbl tt).toArray⟩ := replace1 tt [34, 34] 34
    have hdl : (⟨(dbl tt).toArray⟩ : Str).length ≤ 80 := by
      show (dbl tt).length ≤ 80
      have := dbl_length tt
      omega
    rw [er]
    (try dsimp only)
    k_steps
    rename Fr _ _ _ _ => F10
    rename News _ _ _ _ => N10
    have eS : PySem.Str.ofString "257 \"" ++ (⟨(dbl tt).toArray⟩ : Str) ++ PySem.Str.ofString "\" has it" = good tt := by
      show (⟨_ ++ (dbl tt).toArray ++ _⟩ : Str) = _
      unfold good
      congr 1
      show #[50, 53, 55, 32, 34] ++ (dbl tt).toArray ++ #[34, 32, 104, 97, 115, 32, 105, 116] = _
      simp
    rw [eS] at F10
    refine hQ ⟨_, _, _, _, _⟩ _ true _ _ _ _ _ (good tt) F10 ?_ ?_ hb rfl ⟨_, rfl⟩ ⟨0, rfl⟩ N10 htri' hos hgn
    · intro x hx
      (try dsimp only)
      rw [if_neg hx]
    · refine Exists.intro ?_ ?_
      rotate_left
      · with_unfolding_all rfl
  | false =>
    rw [if_neg (by decide)]
    (try dsimp only)
    iterate 25 walk_at "kst"
    rename Fr _ _ _ _ => F4
    rename News _ _ _ _ => N4
    have hdI := N4.get (a := d) (o := fullDict w t2 t3) (by k_mem)
    have hrI := N4.get (a := r) (o := roadObj d ritems nr) (by k_mem)
    have h8I := N4.get (a := 108) (o := tabO p2) (by k_mem)
    have g108 : g.get? 108 = none := (N4 (108, tabO p2) (by k_mem)).2.2
    have hmem := fun p (hp : p ∈ tl) => (N4 p (List.mem_append_right [_, _, _, _, _, _, _, _, _, _, _, _, _, _, _, _, _, _, _, _] hp)).1
    obtain ⟨hszR, Ts, ta, tb, hj⟩ := id hroad
    refine wpAny_with_toks (n := 1) (Nat.succ_le_succ (Nat.zero_le _)) ?_
    refine kso_call (s := ⟨_, _, _, _, _⟩) (by have := hA.un; show un + 1 + 1 < 9900; change un + 8 * 59 < 9000 at this; omega) (X.keeps F4.keep) (⟨hrI, rfl, rfl, hdI⟩ : InstAt _ r (roadObj d ritems nr) 138 (some (fullDict w t2 t3))) (find_str _) (by with_unfolding_all rfl) ?_
    refine str_road w mean mg mb r d ritems nr Ts fa' fb' ta tb p2 _ ⟨_, _, _, _, _⟩ _ _ ⟨rfl, by have := hA.dp; show dp + 5 < 900; change dp + 59 < 900 at this; omega, by have := hA.un; show un + 1 + 1 + 8 * 5 < 9000; change un + 8 * 59 < 9000 at this; omega⟩ (hS.keeps (hide_keeps (by intro a ha; obtain rfl := List.mem_singleton.mp ha; exact g108) F4.keep)) hrI (fun j hj' => (hj j (by omega)).1) (fun j hj' => ⟨_, hmem _ (hj j (by omega)).2, rfl, _, rfl⟩) h8I htri (by omega) (fun j hj' => hlen j (by omega)) fun s' t' hk htab hos hdr hgn => ?_
    obtain ⟨p2', hp2, htri'⟩ := htab
    obtain ⟨h8', g8, d8, tk8, os8⟩ := s'
    obtain ⟨F9, N9⟩ := but_fr (oa' := tabO p2') F4 N4 (by k_upd) hk hp2
    rw [hszR, hcat]
    dsimp only [StrBack]
    intro hpos
    replace hpos : 1 ≤ tk8 := hpos
    clear F4 N4 hmem hdI hrI h8I hk
    k_steps
    rename Fr _ _ _ _ => F10
    rename News _ _ _ _ => N10
    have eS : PySem.Str.ofString "550 " ++ (⟨tt.toArray⟩ : Str) ++ PySem.Str.ofString " wants it" = bad tt := by
      show (⟨_ ++ tt.toArray ++ _⟩ : Str) = _
      unfold bad
      congr 1
      show #[53, 53, 48, 32] ++ tt.toArray ++ #[32, 119, 97, 110, 116, 115, 32, 105, 116] = _
      simp
    rw [eS] at F10
    refine hQ ⟨_, _, _, _, _⟩ _ false _ _ _ _ _ (bad tt) F10 ?_ ?_ hb rfl ⟨0, rfl⟩ ⟨_, rfl⟩ N10 htri' hos hgn
    · intro x hx
      (try dsimp only)
      rw [if_neg hx]
    · refine Exists.intro ?_ ?_
      rotate_left
      · with_unfolding_all rfl
end Kturn3
theorem turn3 {w : World} {mean : ExcName → Option Value} {mg mb : Str → Option Value} {g : Heap} {L fa : Nat} {cd : Value} {A : Around} {Q : Flow → Shared → Prop} {m : Str → Option Value} {s : Shared} {rest : List Stmt}
    {c d r aT aG aK aTo aS aD it e i : Nat} {tk0 tn : Tok} {n : Int} {o1 o2 o3 o4 o5 o6 o7 oI oE : Obj} {xT xG xK xTo xS xD its : Array Value} {nT nG nK nTo nS nD nC nr : Nat} {ritems p1 p2 : Array Value} {t2 t3 : Tok} {tl : List (Addr × Obj)}
    (hS : St w mean mg mb g) (hA : AOk 59 A) (F : Fr g L s.heap m) (h0 : 108 < L) (h1 : L + 1 + 1 + 1 + 1 + 1 + 1 + 1 < c) (h2 : c < d) (h3 : d < r) (h4 : r < aT) (h5 : aT < aG) (h6 : aG < aK) (h7 : aK < aTo) (h8 : aTo < aS) (h9 : aS < aD) (h10 : aD < it) (h11 : it < e)
    (mr : m "road" = some (.ref r)) (mk : m "k" = some (.int ((i : Nat) : Int) tk0)) (mn : m "n" = some (.int n tn)) (l1 : o1.data = .cell (some (.ref aT))) (l2 : o2.data = .cell (some (.ref aG))) (l3 : o3.data = .cell (some (.ref aK))) (l4 : o4.data = .cell (some (.ref aTo))) (l5 : o5.data = .cell (some (.ref aD)))
    (hO : OffT tl [e, it, aD, aS, aTo, aK, aG, aT, r, d, c, L + 1 + 1 + 1 + 1 + 1 + 1 + 1, L + 1 + 1 + 1 + 1 + 1 + 1, L + 1 + 1 + 1 + 1 + 1, L + 1 + 1 + 1 + 1, L + 1 + 1 + 1, L + 1 + 1, L + 1, 101, 108]) (N : News g L s.heap ((e, oE) :: (it, oI) :: (aD, W.listOf xD nD) :: (aS, W.listOf xS nS) :: (aTo, W.listOf xTo nTo) :: (aK, W.listOf xK nK) :: (aG, W.listOf xG nG) :: (aT, W.listOf xT nT) :: (r, roadObj d ritems nr) :: (d, fullDict w t2 t3) :: (c, W.listOf its nC) :: (L + 1 + 1 + 1 + 1 + 1 + 1 + 1, o7) :: (L + 1 + 1 + 1 + 1 + 1 + 1, o6) :: (L + 1 + 1 + 1 + 1 + 1, o5) :: (L + 1 + 1 + 1 + 1, o4) :: (L + 1 + 1 + 1, o3) :: (L + 1 + 1, o2) :: (L + 1, o1) :: (101, tabO p1) :: (108, tabO p2) :: tl)) (hxG : xG.size ≤ 40) (hxK : xK.size ≤ 40)
    {fa' fb' : Nat → Str} {l : Nat} (hroad : RoadAt tl ritems fa' fb' l) (hl8 : l ≤ 8) (hlen : ∀ j, j < l → (fa' j).length ≤ 1000 ∧ (fb' j).length ≤ 1000) (htri : TriplesOk p2.toList)
    {tt : List Nat} (hcat : catL ((List.range l).map fun j => fa' j ++ fb' j) = ⟨tt.toArray⟩) (htt : tt.length ≤ 40)
    (hQ : ∀ s' m' b xG' xK' nG' nK' p2' rep, Fr g L s'.heap m' → (∀ x : Str, x ≠ "reply" → m' x = m x) → (∃ t, m' "reply" = some (.str rep t)) → b = ((xK.size == 4) || (n.fmod 2 == 0 && decide (xG.size < 4))) →
      (rep = if b then good tt else bad tt) → (∃ t, xG' = if b then xG.push (.int ((i : Int) + 1) t) else xG) → (∃ t, xK' = if b then xK else xK.push (.int ((i : Int) + 1) t)) →
      News g L s'.heap ((e, oE) :: (it, oI) :: (aD, W.listOf xD nD) :: (aS, W.listOf xS nS) :: (aTo, W.listOf xTo nTo) :: (aK, W.listOf xK' nK') :: (aG, W.listOf xG' nG') :: (aT, W.listOf xT nT) :: (r, roadObj d ritems nr) :: (d, fullDict w t2 t3) :: (c, W.listOf its nC) :: (L + 1 + 1 + 1 + 1 + 1 + 1 + 1, o7) :: (L + 1 + 1 + 1 + 1 + 1 + 1, o6) :: (L + 1 + 1 + 1 + 1 + 1, o5) :: (L + 1 + 1 + 1 + 1, o4) :: (L + 1 + 1 + 1, o3) :: (L + 1 + 1, o2) :: (L + 1, o1) :: (101, tabO p1) :: (108, tabO p2') :: tl) → TriplesOk p2'.toList → s'.os = s.os → (AllBare s.gens → AllBare s'.gens) → wpAny (model PG w) A (execs rest (lawEnv L fa cd)) Q (fun _ _ => False) s') :
    wpAny (model PG w) A (execs (ps 6 :: rest) (lawEnv L fa cd)) Q (fun _ _ => False) s := by
  obtain ⟨hd0, dp, fr, gd, un⟩ := A
  obtain rfl : hd0 = none := hA.hd
  exact skolem lv0 (fun x => Sturn3 x.w x.mean x.mg x.mb x.g x.L x.fa x.cd x.dp x.fr x.gd x.un x.Q x.m x.s x.rest x.c x.d x.r x.aT x.aG x.aK x.aTo x.aS x.aD x.it x.e x.i x.tk0 x.tn x.nbx x.o1 x.o2 x.o3 x.o4 x.o5 x.o6 x.o7 x.oI x.oE x.xT x.xG x.xK x.xTo x.xS x.xD x.itsbx x.nT x.nG x.nK x.nTo x.nS x.nD x.nC x.nr x.ritems x.p1 x.p2 x.t2 x.t3 x.tl x.fa' x.fb' x.l x.tt) (by with_unfolding_all exact Kturn3.holds) ⟨w, mean, mg, mb, g, L, fa, cd, dp, fr, gd, un, Q, m, s, (Classical.choice lv0).news, (Classical.choice lv0).ls, c, (Classical.choice lv0).vs, (Classical.choice lv0).xs, (Classical.choice lv0).its, (Classical.choice lv0).cs, (Classical.choice lv0).n, (Classical.choice lv0).oc, rest, o1, o2, o3, o4, o5, o6, o7, d, r, aT, aG, aK, aTo, aS, aD, it, e, i, n, tn, tk0, oI, oE, xT, xG, xK, xTo, xS, xD, its, nT, nG, nK, nTo, nS, nD, nC, nr, ritems, p1, p2, t2, t3, (Classical.choice lv0).yT, tt, tl, (Classical.choice lv0).v, (Classical.choice lv0).tv, (Classical.choice lv0).tm, (Classical.choice lv0).mkS, fa', fb', l, (Classical.choice lv0).mkF, (Classical.choice lv0).bk, (Classical.choice lv0).tw, (Classical.choice lv0).tb, (Classical.choice lv0).td, (Classical.choice lv0).dl, (Classical.choice lv0).aGp, (Classical.choice lv0).nGp, (Classical.choice lv0).xGp, (Classical.choice lv0).r0, (Classical.choice lv0).r1, (Classical.choice lv0).r2, (Classical.choice lv0).r3, (Classical.choice lv0).k0, (Classical.choice lv0).k1, (Classical.choice lv0).k2, (Classical.choice lv0).k3, (Classical.choice lv0).aTb, (Classical.choice lv0).nTb, (Classical.choice lv0).v0, (Classical.choice lv0).v1, (Classical.choice lv0).v2, (Classical.choice lv0).v3, (Classical.choice lv0).aX, (Classical.choice lv0).nX, (Classical.choice lv0).xX, (Classical.choice lv0).ns, (Classical.choice lv0).c0, (Classical.choice lv0).d0, (Classical.choice lv0).tc, (Classical.choice lv0).tf, (Classical.choice lv0).j⟩ hS hA F h0 h1 h2 h3 h4 h5 h6 h7 h8 h9 h10 h11 mr mk mn l1 l2 l3 l4 l5 hO N hxG hxK hroad hl8 hlen htri hcat htt hQ
end
end Mine
end OfA26
section OfA27
open PySem PySem.W PySem.W.X PyProof.Rows
set_option Elab.async false
set_option maxRecDepth 100000
set_option maxHeartbeats 4000000
set_option pp.maxSteps 3000
namespace Mine
noncomputable section
theorem filled27 : kk.heap_1 = kk.heap_1 ∧ PySem.Challenge.rw_wu0057_01.name = PySem.Challenge.rw_wu0057_01.name := by
  k_fill
  exact ⟨rfl, rfl⟩
local macro_rules | `(tactic| walk_at "eval Name") => `(tactic| (k_here; walk_at "nmX"))
local macro_rules | `(tactic| k_all) => `(tactic| exact OffT.get (by assumption) (by repeat (first | exact List.mem_cons_self .. | refine List.mem_cons_of_mem _ ?_)))

theorem slot_fr {g h h' : Heap} {L : Addr} {m : Str → Option Value} {news : List (Addr × Obj)} {oL : Obj} (F : Fr g L h m) (N : News g L h news) (e : h.get? L = some oL) (k : ∀ b o, b ≠ L → h.get? b = some o → h'.get? b = some o) (hs : ∃ sl, h'.get? L = some { oL with slots := sl }) :
    Fr g L h' m ∧ News g L h' news := by
  obtain ⟨sl, hs⟩ := hs
  obtain ⟨o, es, ep, e1, e2, e3⟩ := F.ns
  rw [e] at e1; cases e1
  refine ⟨⟨⟨_, es, ep, hs, e2, e3⟩, fun b o x => k b o ?_ (F.keep b o x), F.above⟩, fun p hp => ?_⟩
  · exact Nat.ne_of_lt (Nat.lt_of_lt_of_le (Heap.lt_size x) F.above)
  · obtain ⟨p1, p2, p3⟩ := N p hp
    exact ⟨k _ _ p2 p1, p2, p3⟩
theorem bad_slice (l : List Nat) : Txt.slice (bad l) none (some 3) ≠ PySem.Str.ofString "257" := by
  have e := slice_closes_toL (x := bad l) (j := 3) (by omega) (by simp [bad, PySem.Str.length]; omega)
  rw [beq_iff_eq] at e
  rw [e]
  have e2 : ((bad l).cps.extract 0 3) = #[53, 53, 48] := by simp [bad]
  intro h
  have h2 := congrArg PySem.Str.cps h
  simp [bad] at h2
  revert h2
  decide
theorem bad_len (l : List Nat) : (bad l).length = 13 + l.length := by
  show ((([53, 53, 48, 32] ++ l ++ [32, 119, 97, 110, 116, 115, 32, 105, 116]).toArray).size) = _
  simp
  omega
theorem none_above {g h : Heap} {L : Addr} {m : Str → Option Value} (F : Fr g L h m) : g.get? L = none := by
  cases q : g.get? L with
  | none => rfl
  | some o => exact absurd (Heap.lt_size q) (Nat.not_lt.mpr F.above)
@[reducible] def UV : Type := (World) × (ExcName → Option Value) × (Str → Option Value) × (Str → Option Value) × (Heap) × (Nat) × (Nat) × (Value) × (Nat) × (Option (List Env)) × (Option (List Code)) × (Nat) × (Flow → Shared → Prop) × (Str → Option Value) × (Shared) × (List Stmt) × (Nat) × (Nat) × (Nat) × (Nat) × (Nat) × (Nat) × (Nat) × (Nat) × (Nat) × (Nat) × (Nat) × (Nat) × (Nat) × (Nat) × (Int) × (Obj) × (Obj) × (Obj) × (Obj) × (Obj) × (Obj) × (Obj) × (Obj) × (Obj) × (Array Value) × (Array Value) × (Array Value) × (Array Value) × (Array Value) × (Array Value) × (Array Value) × (Nat) × (Nat) × (Nat) × (Nat) × (Nat) × (Nat) × (Nat) × (Nat) × (Array Value) × (Array Value) × (Array Value) × (Nat) × (Nat) × (List (Addr × Obj)) × (Nat)
theorem uv0 : Nonempty UV := ⟨⟨W0, fun _ => none, fun _ => none, fun _ => none, {}, 0, 0, .none, 0, none, none, 0, fun _ _ => True, fun _ => none, {}, [], 0, 0, 0, 0, 0, 0, 0, 0, 0, 0, 0, 0, 0, 0, 0, { cls := .none, data := .fields #[] }, { cls := .none, data := .fields #[] }, { cls := .none, data := .fields #[] }, { cls := .none, data := .fields #[] }, { cls := .none, data := .fields #[] }, { cls := .none, data := .fields #[] }, { cls := .none, data := .fields #[] }, { cls := .none, data := .fields #[] }, { cls := .none, data := .fields #[] }, #[], #[], #[], #[], #[], #[], #[], 0, 0, 0, 0, 0, 0, 0, 0, #[], #[], #[], 0, 0, [], 0⟩⟩
noncomputable def Sturn4 (w : World) (mean : ExcName → Option Value) (mg : Str → Option Value) (mb : Str → Option Value) (g : Heap) (L : Nat) (fa : Nat) (cd : Value) (dp : Nat) (fr : Option (List Env)) (gd : Option (List Code)) (un : Nat) (Q : Flow → Shared → Prop) (m : Str → Option Value) (s : Shared) (rest : List Stmt) (c : Nat) (d : Nat) (r : Nat) (aT : Nat) (aG : Nat) (aK : Nat) (aTo : Nat) (aS : Nat) (aD : Nat) (it : Nat) (e : Nat) (i : Nat) (tk0 : Tok) (tn : Tok) (n : Int) (o1 : Obj) (o2 : Obj) (o3 : Obj) (o4 : Obj) (o5 : Obj) (o6 : Obj) (o7 : Obj) (oI : Obj) (oE : Obj) (xT : Array Value) (xG : Array Value) (xK : Array Value) (xTo : Array Value) (xS : Array Value) (xD : Array Value) (its : Array Value) (nT : Nat) (nG : Nat) (nK : Nat) (nTo : Nat) (nS : Nat) (nD : Nat) (nC : Nat) (nr : Nat) (ritems : Array Value) (p1 : Array Value) (p2 : Array Value) (t2 : Tok) (t3 : Tok) (tl : List (Addr × Obj)) (tr : Tok) : Prop := ∀ (hS : St w mean mg mb g) (hA : AOk 59 (Around.mk none dp fr gd un)) (hfr : (Around.mk none dp fr gd un).frames = some [lawEnv L fa cd]) (F : Fr g L s.heap m) (h0 : 108 < L) (h1 : L + 1 + 1 + 1 + 1 + 1 + 1 + 1 < c) (h2 : c < d) (h3 : d < r) (h4 : r < aT) (h5 : aT < aG) (h6 : aG < aK) (h7 : aK < aTo) (h8 : aTo < aS) (h9 : aS < aD) (h10 : aD < it) (h11 : it < e) (l1 : o1.data = .cell (some (.ref aT))) (l2 : o2.data = .cell (some (.ref aG))) (l3 : o3.data = .cell (some (.ref aK))) (l4 : o4.data = .cell (some (.ref aTo))) (l5 : o5.data = .cell (some (.ref aD))) (hO : OffT tl [e, it, aD, aS, aTo, aK, aG, aT, r, d, c, L + 1 + 1 + 1 + 1 + 1 + 1 + 1, L + 1 + 1 + 1 + 1 + 1 + 1, L + 1 + 1 + 1 + 1 + 1, L + 1 + 1 + 1 + 1, L + 1 + 1 + 1, L + 1 + 1, L + 1, 101, 108]) (N : News g L s.heap ((e, oE) :: (it, oI) :: (aD, W.listOf xD nD) :: (aS, W.listOf xS nS) :: (aTo, W.listOf xTo nTo) :: (aK, W.listOf xK nK) :: (aG, W.listOf xG nG) :: (aT, W.listOf xT nT) :: (r, roadObj d ritems nr) :: (d, fullDict w t2 t3) :: (c, W.listOf its nC) :: (L + 1 + 1 + 1 + 1 + 1 + 1 + 1, o7) :: (L + 1 + 1 + 1 + 1 + 1 + 1, o6) :: (L + 1 + 1 + 1 + 1 + 1, o5) :: (L + 1 + 1 + 1 + 1, o4) :: (L + 1 + 1 + 1, o3) :: (L + 1 + 1, o2) :: (L + 1, o1) :: (101, tabO p1) :: (108, tabO p2) :: tl)) (hxTo : xTo.size ≤ 40) (tt : List Nat) (htt : tt.length ≤ 40) (hne : (⟨tt.toArray⟩ : Str) ≠ FAIL) (b : Bool) (mre : m "reply" = some (.str (if b then good tt else bad tt) tr)) (hQ : ∀ h' tk' m' nTo', 1 ≤ tk' → Fr g L h' m' → (∀ x : Str, x ≠ "bracket" → m' x = m x) → (∃ t, m' "bracket" = some (.str ⟨#[if b then 40 else 41]⟩ t)) → ∀ t,
      News g L h' ((e, oE) :: (it, oI) :: (aD, W.listOf xD nD) :: (aS, W.listOf xS nS) :: (aTo, W.listOf (xTo.push (.str (if b then ⟨tt.toArray⟩ else FAIL) t)) nTo') :: (aK, W.listOf xK nK) :: (aG, W.listOf xG nG) :: (aT, W.listOf xT nT) :: (r, roadObj d ritems nr) :: (d, fullDict w t2 t3) :: (c, W.listOf its nC) :: (L + 1 + 1 + 1 + 1 + 1 + 1 + 1, o7) :: (L + 1 + 1 + 1 + 1 + 1 + 1, o6) :: (L + 1 + 1 + 1 + 1 + 1, o5) :: (L + 1 + 1 + 1 + 1, o4) :: (L + 1 + 1 + 1, o3) :: (L + 1 + 1, o2) :: (L + 1, o1) :: (101, tabO p1) :: (108, tabO p2) :: tl) → wpAny (model PG w) (Around.mk none dp fr gd un) (execs rest (lawEnv L fa cd)) Q (fun _ _ => False) { s with heap := h', toks := tk' }),
    wpAny (model PG w) (Around.mk none dp fr gd un) (execs (ps 7 :: ps 8 :: rest) (lawEnv L fa cd)) Q (fun _ _ => False) s
noncomputable def cturn4 : UV := @Classical.epsilon UV uv0 fun x => ¬ Sturn4 x.1 x.2.1 x.2.2.1 x.2.2.2.1 x.2.2.2.2.1 x.2.2.2.2.2.1 x.2.2.2.2.2.2.1 x.2.2.2.2.2.2.2.1 x.2.2.2.2.2.2.2.2.1 x.2.2.2.2.2.2.2.2.2.1 x.2.2.2.2.2.2.2.2.2.2.1 x.2.2.2.2.2.2.2.2.2.2.2.1 x.2.2.2.2.2.2.2.2.2.2.2.2.1 x.2.2.2.2.2.2.2.2.2.2.2.2.2.1 x.2.2.2.2.2.2.2.2.2.2.2.2.2.2.1 x.2.2.2.2.2.2.2.2.2.2.2.2.2.2.2.1 x.2.2.2.2.2.2.2.2.2.2.2.2.2.2.2.2.1 x.2.2.2.2.2.2.2.2.2.2.2.2.2.2.2.2.2.1 x.2.2.2.2.2.2.2.2.2.2.2.2.2.2.2.2.2.2.1 x.2.2.2.2.2.2.2.2.2.2.2.2.2.2.2.2.2.2.2.1 x.2.2.2.2.2.2.2.2.2.2.2.2.2.2.2.2.2.2.2.2.1 x.2.2.2.2.2.2.2.2.2.2.2.2.2.2.2.2.2.2.2.2.2.1 x.2.2.2.2.2.2.2.2.2.2.2.2.2.2.2.2.2.2.2.2.2.2.1 x.2.2.2.2.2.2.2.2.2.2.2.2.2.2.2.2.2.2.2.2.2.2.2.1 x.2.2.2.2.2.2.2.2.2.2.2.2.2.2.2.2.2.2.2.2.2.2.2.2.1 x.2.2.2.2.2.2.2.2.2.2.2.2.2.2.2.2.2.2.2.2.2.2.2.2.2.1 x.2.2.2.2.2.2.2.2.2.2.2.2.2.2.2.2.2.2.2.2.2.2.2.2.2.2.1 x.2.2.2.2.2.2.2.2.2.2.2.2.2.2.2.2.2.2.2.2.2.2.2.2.2.2.2.1 x.2.2.2.2.2.2.2.2.2.2.2.2.2.2.2.2.2.2.2.2.2.2.2.2.2.2.2.2.1 x.2.2.2.2.2.2.2.2.2.2.2.2.2.2.2.2.2.2.2.2.2.2.2.2.2.2.2.2.2.1 x.2.2.2.2.2.2.2.2.2.2.2.2.2.2.2.2.2.2.2.2.2.2.2.2.2.2.2.2.2.2.1 x.2.2.2.2.2.2.2.2.2.2.2.2.2.2.2.2.2.2.2.2.2.2.2.2.2.2.2.2.2.2.2.1 x.2.2.2.2.2.2.2.2.2.2.2.2.2.2.2.2.2.2.2.2.2.2.2.2.2.2.2.2.2.2.2.2.1 x.2.2.2.2.2.2.2.2.2.2.2.2.2.2.2.2.2.2.2.2.2.2.2.2.2.2.2.2.2.2.2.2.2.1 x.2.2.2.2.2.2.2.2.2.2.2.2.2.2.2.2.2.2.2.2.2.2.2.2.2.2.2.2.2.2.2.2.2.2.1 x.2.2.2.2.2.2.2.2.2.2.2.2.2.2.2.2.2.2.2.2.2.2.2.2.2.2.2.2.2.2.2.2.2.2.2.1 x.2.2.2.2.2.2.2.2.2.2.2.2.2.2.2.2.2.2.2.2.2.2.2.2.2.2.2.2.2.2.2.2.2.2.2.2.1 x.2.2.2.2.2.2.2.2.2.2.2.2.2.2.2.2.2.2.2.2.2.2.2.2.2.2.2.2.2.2.2.2.2.2.2.2.2.1 x.2.2.2.2.2.2.2.2.2.2.2.2.2.2.2.2.2.2.2.2.2.2.2.2.2.2.2.2.2.2.2.2.2.2.2.2.2.2.1 x.2.2.2.2.2.2.2.2.2.2.2.2.2.2.2.2.2.2.2.2.2.2.2.2.2.2.2.2.2.2.2.2.2.2.2.2.2.2.2.1 x.2.2.2.2.2.2.2.2.2.2.2.2.2.2.2.2.2.2.2.2.2.2.2.2.2.2.2.2.2.2.2.2.2.2.2.2.2.2.2.2.1 x.2.2.2.2.2.2.2.2.2.2.2.2.2.2.2.2.2.2.2.2.2.2.2.2.2.2.2.2.2.2.2.2.2.2.2.2.2.2.2.2.2.1 x.2.2.2.2.2.2.2.2.2.2.2.2.2.2.2.2.2.2.2.2.2.2.2.2.2.2.2.2.2.2.2.2.2.2.2.2.2.2.2.2.2.2.1 x.2.2.2.2.2.2.2.2.2.2.2.2.2.2.2.2.2.2.2.2.2.2.2.2.2.2.2.2.2.2.2.2.2.2.2.2.2.2.2.2.2.2.2.1 x.2.2.2.2.2.2.2.2.2.2.2.2.2.2.2.2.2.2.2.2.2.2.2.2.2.2.2.2.2.2.2.2.2.2.2.2.2.2.2.2.2.2.2.2.1 x.2.2.2.2.2.2.2.2.2.2.2.2.2.2.2.2.2.2.2.2.2.2.2.2.2.2.2.2.2.2.2.2.2.2.2.2.2.2.2.2.2.2.2.2.2.1 x.2.2.2.2.2.2.2.2.2.2.2.2.2.2.2.2.2.2.2.2.2.2.2.2.2.2.2.2.2.2.2.2.2.2.2.2.2.2.2.2.2.2.2.2.2.2.1 x.2.2.2.2.2.2.2.2.2.2.2.2.2.2.2.2.2.2.2.2.2.2.2.2.2.2.2.2.2.2.2.2.2.2.2.2.2.2.2.2.2.2.2.2.2.2.2.1 x.2.2.2.2.2.2.2.2.2.2.2.2.2.2.2.2.2.2.2.2.2.2.2.2.2.2.2.2.2.2.2.2.2.2.2.2.2.2.2.2.2.2.2.2.2.2.2.2.1 x.2.2.2.2.2.2.2.2.2.2.2.2.2.2.2.2.2.2.2.2.2.2.2.2.2.2.2.2.2.2.2.2.2.2.2.2.2.2.2.2.2.2.2.2.2.2.2.2.2.1 x.2.2.2.2.2.2.2.2.2.2.2.2.2.2.2.2.2.2.2.2.2.2.2.2.2.2.2.2.2.2.2.2.2.2.2.2.2.2.2.2.2.2.2.2.2.2.2.2.2.2.1 x.2.2.2.2.2.2.2.2.2.2.2.2.2.2.2.2.2.2.2.2.2.2.2.2.2.2.2.2.2.2.2.2.2.2.2.2.2.2.2.2.2.2.2.2.2.2.2.2.2.2.2.1 x.2.2.2.2.2.2.2.2.2.2.2.2.2.2.2.2.2.2.2.2.2.2.2.2.2.2.2.2.2.2.2.2.2.2.2.2.2.2.2.2.2.2.2.2.2.2.2.2.2.2.2.2.1 x.2.2.2.2.2.2.2.2.2.2.2.2.2.2.2.2.2.2.2.2.2.2.2.2.2.2.2.2.2.2.2.2.2.2.2.2.2.2.2.2.2.2.2.2.2.2.2.2.2.2.2.2.2.1 x.2.2.2.2.2.2.2.2.2.2.2.2.2.2.2.2.2.2.2.2.2.2.2.2.2.2.2.2.2.2.2.2.2.2.2.2.2.2.2.2.2.2.2.2.2.2.2.2.2.2.2.2.2.2.1 x.2.2.2.2.2.2.2.2.2.2.2.2.2.2.2.2.2.2.2.2.2.2.2.2.2.2.2.2.2.2.2.2.2.2.2.2.2.2.2.2.2.2.2.2.2.2.2.2.2.2.2.2.2.2.2.1 x.2.2.2.2.2.2.2.2.2.2.2.2.2.2.2.2.2.2.2.2.2.2.2.2.2.2.2.2.2.2.2.2.2.2.2.2.2.2.2.2.2.2.2.2.2.2.2.2.2.2.2.2.2.2.2.2.1 x.2.2.2.2.2.2.2.2.2.2.2.2.2.2.2.2.2.2.2.2.2.2.2.2.2.2.2.2.2.2.2.2.2.2.2.2.2.2.2.2.2.2.2.2.2.2.2.2.2.2.2.2.2.2.2.2.2.1 x.2.2.2.2.2.2.2.2.2.2.2.2.2.2.2.2.2.2.2.2.2.2.2.2.2.2.2.2.2.2.2.2.2.2.2.2.2.2.2.2.2.2.2.2.2.2.2.2.2.2.2.2.2.2.2.2.2.2.1 x.2.2.2.2.2.2.2.2.2.2.2.2.2.2.2.2.2.2.2.2.2.2.2.2.2.2.2.2.2.2.2.2.2.2.2.2.2.2.2.2.2.2.2.2.2.2.2.2.2.2.2.2.2.2.2.2.2.2.2.1 x.2.2.2.2.2.2.2.2.2.2.2.2.2.2.2.2.2.2.2.2.2.2.2.2.2.2.2.2.2.2.2.2.2.2.2.2.2.2.2.2.2.2.2.2.2.2.2.2.2.2.2.2.2.2.2.2.2.2.2.2.1 x.2.2.2.2.2.2.2.2.2.2.2.2.2.2.2.2.2.2.2.2.2.2.2.2.2.2.2.2.2.2.2.2.2.2.2.2.2.2.2.2.2.2.2.2.2.2.2.2.2.2.2.2.2.2.2.2.2.2.2.2.2
namespace Kturn4
@[irreducible] noncomputable def w : World := cturn4.1
@[irreducible] noncomputable def mean : ExcName → Option Value := cturn4.2.1
@[irreducible] noncomputable def mg : Str → Option Value := cturn4.2.2.1
@[irreducible] noncomputable def mb : Str → Option Value := cturn4.2.2.2.1
@[irreducible] noncomputable def g : Heap := cturn4.2.2.2.2.1
@[irreducible] noncomputable def L : Nat := cturn4.2.2.2.2.2.1
@[irreducible] noncomputable def fa : Nat := cturn4.2.2.2.2.2.2.1
@[irreducible] noncomputable def cd : Value := cturn4.2.2.2.2.2.2.2.1
@[irreducible] noncomputable def dp : Nat := cturn4.2.2.2.2.2.2.2.2.1
@[irreducible] noncomputable def fr : Option (List Env) := cturn4.2.2.2.2.2.2.2.2.2.1
@[irreducible] noncomputable def gd : Option (List Code) := cturn4.2.2.2.2.2.2.2.2.2.2.1
@[irreducible] noncomputable def un : Nat := cturn4.2.2.2.2.2.2.2.2.2.2.2.1
@[irreducible] noncomputable def Q : Flow → Shared → Prop := cturn4.2.2.2.2.2.2.2.2.2.2.2.2.1
@[irreducible] noncomputable def m : Str → Option Value := cturn4.2.2.2.2.2.2.2.2.2.2.2.2.2.1
@[irreducible] noncomputable def s : Shared := cturn4.2.2.2.2.2.2.2.2.2.2.2.2.2.2.1
@[irreducible] noncomputable def rest : List Stmt := cturn4.2.2.2.2.2.2.2.2.2.2.2.2.2.2.2.1
@[irreducible] noncomputable def c : Nat := cturn4.2.2.2.2.2.2.2.2.2.2.2.2.2.2.2.2.1
@[irreducible] noncomputable def d : Nat := cturn4.2.2.2.2.2.2.2.2.2.2.2.2.2.2.2.2.2.1
@[irreducible] noncomputable def r : Nat := cturn4.2.2.2.2.2.2.2.2.2.2.2.2.2.2.2.2.2.2.1
@[irreducible] noncomputable def aT : Nat := cturn4.2.2.2.2.2.2.2.2.2.2.2.2.2.2.2.2.2.2.2.1
@[irreducible] noncomputable def aG : Nat := cturn4.2.2.2.2.2.2.2.2.2.2.2.2.2.2.2.2.2.2.2.2.1
@[irreducible] noncomputable def aK : Nat := cturn4.2.2.2.2.2.2.2.2.2.2.2.2.2.2.2.2.2.2.2.2.2.1
@[irreducible] noncomputable def aTo : Nat := cturn4.2.2.2.2.2.2.2.2.2.2.2.2.2.2.2.2.2.2.2.2.2.2.1
@[irreducible] noncomputable def aS : Nat := cturn4.2.2.2.2.2.2.2.2.2.2.2.2.2.2.2.2.2.2.2.2.2.2.2.1
@[irreducible] noncomputable def aD : Nat := cturn4.2.2.2.2.2.2.2.2.2.2.2.2.2.2.2.2.2.2.2.2.2.2.2.2.1
@[irreducible] noncomputable def it : Nat := cturn4.2.2.2.2.2.2.2.2.2.2.2.2.2.2.2.2.2.2.2.2.2.2.2.2.2.1
@[irreducible] noncomputable def e : Nat := cturn4.2.2.2.2.2.2.2.2.2.2.2.2.2.2.2.2.2.2.2.2.2.2.2.2.2.2.1
@[irreducible] noncomputable def i : Nat := cturn4.2.2.2.2.2.2.2.2.2.2.2.2.2.2.2.2.2.2.2.2.2.2.2.2.2.2.2.1
@[irreducible] noncomputable def tk0 : Tok := cturn4.2.2.2.2.2.2.2.2.2.2.2.2.2.2.2.2.2.2.2.2.2.2.2.2.2.2.2.2.1
@[irreducible] noncomputable def tn : Tok := cturn4.2.2.2.2.2.2.2.2.2.2.2.2.2.2.2.2.2.2.2.2.2.2.2.2.2.2.2.2.2.1
@[irreducible] noncomputable def n : Int := cturn4.2.2.2.2.2.2.2.2.2.2.2.2.2.2.2.2.2.2.2.2.2.2.2.2.2.2.2.2.2.2.1
@[irreducible] noncomputable def o1 : Obj := cturn4.2.2.2.2.2.2.2.2.2.2.2.2.2.2.2.2.2.2.2.2.2.2.2.2.2.2.2.2.2.2.2.1
@[irreducible] noncomputable def o2 : Obj := cturn4.2.2.2.2.2.2.2.2.2.2.2.2.2.2.2.2.2.2.2.2.2.2.2.2.2.2.2.2.2.2.2.2.1
@[irreducible] noncomputable def o3 : Obj := cturn4.2.2.2.2.2.2.2.2.2.2.2.2.2.2.2.2.2.2.2.2.2.2.2.2.2.2.2.2.2.2.2.2.2.1
@[irreducible] noncomputable def o4 : Obj := cturn4.2.2.2.2.2.2.2.2.2.2.2.2.2.2.2.2.2.2.2.2.2.2.2.2.2.2.2.2.2.2.2.2.2.2.1
@[irreducible] noncomputable def o5 : Obj := cturn4.2.2.2.2.2.2.2.2.2.2.2.2.2.2.2.2.2.2.2.2.2.2.2.2.2.2.2.2.2.2.2.2.2.2.2.1
@[irreducible] noncomputable def o6 : Obj := cturn4.2.2.2.2.2.2.2.2.2.2.2.2.2.2.2.2.2.2.2.2.2.2.2.2.2.2.2.2.2.2.2.2.2.2.2.2.1
@[irreducible] noncomputable def o7 : Obj := cturn4.2.2.2.2.2.2.2.2.2.2.2.2.2.2.2.2.2.2.2.2.2.2.2.2.2.2.2.2.2.2.2.2.2.2.2.2.2.1
@[irreducible] noncomputable def oI : Obj := cturn4.2.2.2.2.2.2.2.2.2.2.2.2.2.2.2.2.2.2.2.2.2.2.2.2.2.2.2.2.2.2.2.2.2.2.2.2.2.2.1
@[irreducible] noncomputable def oE : Obj := cturn4.2.2.2.2.2.2.2.2.2.2.2.2.2.2.2.2.2.2.2.2.2.2.2.2.2.2.2.2.2.2.2.2.2.2.2.2.2.2.2.1
@[irreducible] noncomputable def xT : Array Value := cturn4.2.2.2.2.2.2.2.2.2.2.2.2.2.2.2.2.2.2.2.2.2.2.2.2.2.2.2.2.2.2.2.2.2.2.2.2.2.2.2.2.1
@[irreducible] noncomputable def xG : Array Value := cturn4.2.2.2.2.2.2.2.2.2.2.2.2.2.2.2.2.2.2.2.2.2.2.2.2.2.2.2.2.2.2.2.2.2.2.2.2.2.2.2.2.2.1
@[irreducible] noncomputable def xK : Array Value := cturn4.2.2.2.2.2.2.2.2.2.2.2.2.2.2.2.2.2.2.2.2.2.2.2.2.2.2.2.2.2.2.2.2.2.2.2.2.2.2.2.2.2.2.1
@[irreducible] noncomputable def xTo : Array Value := cturn4.2.2.2.2.2.2.2.2.2.2.2.2.2.2.2.2.2.2.2.2.2.2.2.2.2.2.2.2.2.2.2.2.2.2.2.2.2.2.2.2.2.2.2.1
@[irreducible] noncomputable def xS : Array Value := cturn4.2.2.2.2.2.2.2.2.2.2.2.2.2.2.2.2.2.2.2.2.2.2.2.2.2.2.2.2.2.2.2.2.2.2.2.2.2.2.2.2.2.2.2.2.1
@[irreducible] noncomputable def xD : Array Value := cturn4.2.2.2.2.2.2.2.2.2.2.2.2.2.2.2.2.2.2.2.2.2.2.2.2.2.2.2.2.2.2.2.2.2.2.2.2.2.2.2.2.2.2.2.2.2.1
@[irreducible] noncomputable def its : Array Value := cturn4.2.2.2.2.2.2.2.2.2.2.2.2.2.2.2.2.2.2.2.2.2.2.2.2.2.2.2.2.2.2.2.2.2.2.2.2.2.2.2.2.2.2.2.2.2.2.1
@[irreducible] noncomputable def nT : Nat := cturn4.2.2.2.2.2.2.2.2.2.2.2.2.2.2.2.2.2.2.2.2.2.2.2.2.2.2.2.2.2.2.2.2.2.2.2.2.2.2.2.2.2.2.2.2.2.2.2.1
@[irreducible] noncomputable def nG : Nat := cturn4.2.2.2.2.2.2.2.2.2.2.2.2.2.2.2.2.2.2.2.2.2.2.2.2.2.2.2.2.2.2.2.2.2.2.2.2.2.2.2.2.2.2.2.2.2.2.2.2.1
@[irreducible] noncomputable def nK : Nat := cturn4.2.2.2.2.2.2.2.2.2.2.2.2.2.2.2.2.2.2.2.2.2.2.2.2.2.2.2.2.2.2.2.2.2.2.2.2.2.2.2.2.2.2.2.2.2.2.2.2.2.1
@[irreducible] noncomputable def nTo : Nat := cturn4.2.2.2.2.2.2.2.2.2.2.2.2.2.2.2.2.2.2.2.2.2.2.2.2.2.2.2.2.2.2.2.2.2.2.2.2.2.2.2.2.2.2.2.2.2.2.2.2.2.2.1
@[irreducible] noncomputable def nS : Nat := cturn4.2.2.2.2.2.2.2.2.2.2.2.2.2.2.2.2.2.2.2.2.2.2.2.2.2.2.2.2.2.2.2.2.2.2.2.2.2.2.2.2.2.2.2.2.2.2.2.2.2.2.2.1
@[irreducible] noncomputable def nD : Nat := cturn4.2.2.2.2.2.2.2.2.2.2.2.2.2.2.2.2.2.2.2.2.2.2.2.2.2.2.2.2.2.2.2.2.2.2.2.2.2.2.2.2.2.2.2.2.2.2.2.2.2.2.2.2.1
@[irreducible] noncomputable def nC : Nat := cturn4.2.2.2.2.2.2.2.2.2.2.2.2.2.2.2.2.2.2.2.2.2.2.2.2.2.2.2.2.2.2.2.2.2.2.2.2.2.2.2.2.2.2.2.2.2.2.2.2.2.2.2.2.2.1
@[irreducible] noncomputable def nr : Nat := cturn4.2.2.2.2.2.2.2.2.2.2.2.2.2.2.2.2.2.2.2.2.2.2.2.2.2.2.2.2.2.2.2.2.2.2.2.2.2.2.2.2.2.2.2.2.2.2.2.2.2.2.2.2.2.2.1
@[irreducible] noncomputable def ritems : Array Value := cturn4.2.2.2.2.2.2.2.2.2.2.2.2.2.2.2.2.2.2.2.2.2.2.2.2.2.2.2.2.2.2.2.2.2.2.2.2.2.2.2.2.2.2.2.2.2.2.2.2.2.2.2.2.2.2.2.1
@[irreducible] noncomputable def p1 : Array Value := cturn4.2.2.2.2.2.2.2.2.2.2.2.2.2.2.2.2.2.2.2.2.2.2.2.2.2.2.2.2.2.2.2.2.2.2.2.2.2.2.2.2.2.2.2.2.2.2.2.2.2.2.2.2.2.2.2.2.1
@[irreducible] noncomputable def p2 : Array Value := cturn4.2.2.2.2.2.2.2.2.2.2.2.2.2.2.2.2.2.2.2.2.2.2.2.2.2.2.2.2.2.2.2.2.2.2.2.2.2.2.2.2.2.2.2.2.2.2.2.2.2.2.2.2.2.2.2.2.2.1
@[irreducible] noncomputable def t2 : Tok := cturn4.2.2.2.2.2.2.2.2.2.2.2.2.2.2.2.2.2.2.2.2.2.2.2.2.2.2.2.2.2.2.2.2.2.2.2.2.2.2.2.2.2.2.2.2.2.2.2.2.2.2.2.2.2.2.2.2.2.2.1
@[irreducible] noncomputable def t3 : Tok := cturn4.2.2.2.2.2.2.2.2.2.2.2.2.2.2.2.2.2.2.2.2.2.2.2.2.2.2.2.2.2.2.2.2.2.2.2.2.2.2.2.2.2.2.2.2.2.2.2.2.2.2.2.2.2.2.2.2.2.2.2.1
@[irreducible] noncomputable def tl : List (Addr × Obj) := cturn4.2.2.2.2.2.2.2.2.2.2.2.2.2.2.2.2.2.2.2.2.2.2.2.2.2.2.2.2.2.2.2.2.2.2.2.2.2.2.2.2.2.2.2.2.2.2.2.2.2.2.2.2.2.2.2.2.2.2.2.2.1
@[irreducible] noncomputable def tr : Tok := cturn4.2.2.2.2.2.2.2.2.2.2.2.2.2.2.2.2.2.2.2.2.2.2.2.2.2.2.2.2.2.2.2.2.2.2.2.2.2.2.2.2.2.2.2.2.2.2.2.2.2.2.2.2.2.2.2.2.2.2.2.2.2
theorem holds : Sturn4 w mean mg mb g L fa cd dp fr gd un Q m s rest c d r aT aG aK aTo aS aD it e i tk0 tn n o1 o2 o3 o4 o5 o6 o7 oI oE xT xG xK xTo xS xD its nT nG nK nTo nS nD nC nr ritems p1 p2 t2 t3 tl tr := by
  intro hS hA hfr F h0 h1 h2 h3 h4 h5 h6 h7 h8 h9 h10 h11 l1 l2 l3 l4 l5 hO N hxTo tt htt hne b mre hQ
  have hDec := Dec.cons h11 (.cons h10 (.cons h9 (.cons h8 (.cons h7 (.cons h6 (.cons h5 (.cons h4 (.cons h3 (.cons h2 (.cons h1 (decL h0)))))))))))
  have X := hS.X
  have T := hS.T
  dsimp only [lawEnv]
  conv in (occs := *) (DefRec.scope lawRec) => all_goals whnf
  conv in (ps 7) => whnf
  conv in (ps 8) => whnf
  cases b with
  | true =>
    rw [if_pos rfl] at mre
    iterate 18 walk_at "kst"
    rename Fr _ _ _ _ => F1
    rename News _ _ _ _ => N1
    refine (safe_ok w mean mg mb tt tr _ (by omega) (by rw [good_len]; have := dbl_length tt; omega)).use (hA.le (by omega)) hS F1 N1 fun r1 h3 tk3 hr F3 N3 => ?_
    obtain ⟨t5, rfl⟩ := hr
    clear F1 N1
    (try dsimp only)
    iterate 12 walk_at "kst"
    rename News _ _ _ _ => N4
    refine last_sub (s := ⟨_, _, _, _, _⟩) (x := .str ⟨tt.toArray⟩ t5) (N4.get (by k_mem)) (by simp) ?_
    k_steps
    · rename (_ == _) = true => hq
      exact absurd (beq_iff_eq.mp hq) hne
    · skip
      rename Fr _ _ _ _ => F10
      rename News _ _ _ _ => N10
      refine hQ _ _ _ _ (Nat.succ_le_succ (Nat.zero_le _)) F10 ?_ ?_ t5 N10
      · intro x hx
        (try dsimp only)
        rw [if_neg hx]
      · refine Exists.intro ?_ ?_
        rotate_left
        · with_unfolding_all rfl
  | false =>
    rw [if_neg (by decide)] at mre
    iterate 18 walk_at "kst"
    rename Fr _ _ _ _ => F1
    rename News _ _ _ _ => N1
    have gL := none_above F1
    obtain ⟨oL, es, ep, e1, e2, e3⟩ := F1.ns
    refine safe_bad w mean mg mb (bad tt) tr _ (by rw [bad_len]; omega) (bad_slice tt) (lawEnv L fa cd) L oL es ep _ ⟨_, _, _, _, _⟩ _ _ (hA.le (by omega)) hfr rfl (by intro q; cases q) e1 e2 (hS.keeps (hide_keeps (by intro a ha; obtain rfl := List.mem_singleton.mp ha; exact gL) F1.keep)) fun t5 h3 tk3 k3 s3 => ?_
    obtain ⟨F3, N3⟩ := slot_fr F1 N1 e1 k3 s3
    clear F1 N1 e1 e2 e3 gL k3 s3
    (try dsimp only)
    iterate 12 walk_at "kst"
    rename News _ _ _ _ => N4
    refine last_sub (s := ⟨_, _, _, _, _⟩) (x := .str FAIL t5) (N4.get (by k_mem)) (by simp [FAIL]) ?_
    k_steps
    · skip
      rename Fr _ _ _ _ => F10
      rename News _ _ _ _ => N10
      refine hQ _ _ _ _ (Nat.succ_le_succ (Nat.zero_le _)) F10 ?_ ?_ t5 N10
      · intro x hx
        (try dsimp only)
        rw [if_neg hx]
      · refine Exists.intro ?_ ?_
        rotate_left
        · with_unfolding_all rfl
end Kturn4
theorem turn4 {w : World} {mean : ExcName → Option Value} {mg mb : Str → Option Value} {g : Heap} {L fa : Nat} {cd : Value} {A : Around} {Q : Flow → Shared → Prop} {m : Str → Option Value} {s : Shared} {rest : List Stmt}
    {c d r aT aG aK aTo aS aD it e i : Nat} {tk0 tn : Tok} {n : Int} {o1 o2 o3 o4 o5 o6 o7 oI oE : Obj} {xT xG xK xTo xS xD its : Array Value} {nT nG nK nTo nS nD nC nr : Nat} {ritems p1 p2 : Array Value} {t2 t3 : Tok} {tl : List (Addr × Obj)}
    (hS : St w mean mg mb g) (hA : AOk 59 A) (hfr : A.frames = some [lawEnv L fa cd]) (F : Fr g L s.heap m) (h0 : 108 < L) (h1 : L + 1 + 1 + 1 + 1 + 1 + 1 + 1 < c) (h2 : c < d) (h3 : d < r) (h4 : r < aT) (h5 : aT < aG) (h6 : aG < aK) (h7 : aK < aTo) (h8 : aTo < aS) (h9 : aS < aD) (h10 : aD < it) (h11 : it < e)
    (l1 : o1.data = .cell (some (.ref aT))) (l2 : o2.data = .cell (some (.ref aG))) (l3 : o3.data = .cell (some (.ref aK))) (l4 : o4.data = .cell (some (.ref aTo))) (l5 : o5.data = .cell (some (.ref aD)))
    (hO : OffT tl [e, it, aD, aS, aTo, aK, aG, aT, r, d, c, L + 1 + 1 + 1 + 1 + 1 + 1 + 1, L + 1 + 1 + 1 + 1 + 1 + 1, L + 1 + 1 + 1 + 1 + 1, L + 1 + 1 + 1 + 1, L + 1 + 1 + 1, L + 1 + 1, L + 1, 101, 108]) (N : News g L s.heap ((e, oE) :: (it, oI) :: (aD, W.listOf xD nD) :: (aS, W.listOf xS nS) :: (aTo, W.listOf xTo nTo) :: (aK, W.listOf xK nK) :: (aG, W.listOf xG nG) :: (aT, W.listOf xT nT) :: (r, roadObj d ritems nr) :: (d, fullDict w t2 t3) :: (c, W.listOf its nC) :: (L + 1 + 1 + 1 + 1 + 1 + 1 + 1, o7) :: (L + 1 + 1 + 1 + 1 + 1 + 1, o6) :: (L + 1 + 1 + 1 + 1 + 1, o5) :: (L + 1 + 1 + 1 + 1, o4) :: (L + 1 + 1 + 1, o3) :: (L + 1 + 1, o2) :: (L + 1, o1) :: (101, tabO p1) :: (108, tabO p2) :: tl)) (hxTo : xTo.size ≤ 40)
    {tt : List Nat} (htt : tt.length ≤ 40) (hne : (⟨tt.toArray⟩ : Str) ≠ FAIL) (b : Bool) {tr : Tok} (mre : m "reply" = some (.str (if b then good tt else bad tt) tr))
    (hQ : ∀ h' tk' m' nTo', 1 ≤ tk' → Fr g L h' m' → (∀ x : Str, x ≠ "bracket" → m' x = m x) → (∃ t, m' "bracket" = some (.str ⟨#[if b then 40 else 41]⟩ t)) → ∀ t,
      News g L h' ((e, oE) :: (it, oI) :: (aD, W.listOf xD nD) :: (aS, W.listOf xS nS) :: (aTo, W.listOf (xTo.push (.str (if b then ⟨tt.toArray⟩ else FAIL) t)) nTo') :: (aK, W.listOf xK nK) :: (aG, W.listOf xG nG) :: (aT, W.listOf xT nT) :: (r, roadObj d ritems nr) :: (d, fullDict w t2 t3) :: (c, W.listOf its nC) :: (L + 1 + 1 + 1 + 1 + 1 + 1 + 1, o7) :: (L + 1 + 1 + 1 + 1 + 1 + 1, o6) :: (L + 1 + 1 + 1 + 1 + 1, o5) :: (L + 1 + 1 + 1 + 1, o4) :: (L + 1 + 1 + 1, o3) :: (L + 1 + 1, o2) :: (L + 1, o1) :: (101, tabO p1) :: (108, tabO p2) :: tl) → wpAny (model PG w) A (execs rest (lawEnv L fa cd)) Q (fun _ _ => False) { s with heap := h', toks := tk' }) :
    wpAny (model PG w) A (execs (ps 7 :: ps 8 :: rest) (lawEnv L fa cd)) Q (fun _ _ => False) s := by
  obtain ⟨hd0, dp, fr, gd, un⟩ := A
  obtain rfl : hd0 = none := hA.hd
  exact skolem uv0 (fun x => Sturn4 x.1 x.2.1 x.2.2.1 x.2.2.2.1 x.2.2.2.2.1 x.2.2.2.2.2.1 x.2.2.2.2.2.2.1 x.2.2.2.2.2.2.2.1 x.2.2.2.2.2.2.2.2.1 x.2.2.2.2.2.2.2.2.2.1 x.2.2.2.2.2.2.2.2.2.2.1 x.2.2.2.2.2.2.2.2.2.2.2.1 x.2.2.2.2.2.2.2.2.2.2.2.2.1 x.2.2.2.2.2.2.2.2.2.2.2.2.2.1 x.2.2.2.2.2.2.2.2.2.2.2.2.2.2.1 x.2.2.2.2.2.2.2.2.2.2.2.2.2.2.2.1 x.2.2.2.2.2.2.2.2.2.2.2.2.2.2.2.2.1 x.2.2.2.2.2.2.2.2.2.2.2.2.2.2.2.2.2.1 x.2.2.2.2.2.2.2.2.2.2.2.2.2.2.2.2.2.2.1 x.2.2.2.2.2.2.2.2.2.2.2.2.2.2.2.2.2.2.2.1 x.2.2.2.2.2.2.2.2.2.2.2.2.2.2.2.2.2.2.2.2.1 x.2.2.2.2.2.2.2.2.2.2.2.2.2.2.2.2.2.2.2.2.2.1 x.2.2.2.2.2.2.2.2.2.2.2.2.2.2.2.2.2.2.2.2.2.2.1 x.2.2.2.2.2.2.2.2.2.2.2.2.2.2.2.2.2.2.2.2.2.2.2.1 x.2.2.2.2.2.2.2.2.2.2.2.2.2.2.2.2.2.2.2.2.2.2.2.2.1 x.2.2.2.2.2.2.2.2.2.2.2.2.2.2.2.2.2.2.2.2.2.2.2.2.2.1 x.2.2.2.2.2.2.2.2.2.2.2.2.2.2.2.2.2.2.2.2.2.2.2.2.2.2.1 x.2.2.2.2.2.2.2.2.2.2.2.2.2.2.2.2.2.2.2.2.2.2.2.2.2.2.2.1 x.2.2.2.2.2.2.2.2.2.2.2.2.2.2.2.2.2.2.2.2.2.2.2.2.2.2.2.2.1 x.2.2.2.2.2.2.2.2.2.2.2.2.2.2.2.2.2.2.2.2.2.2.2.2.2.2.2.2.2.1 x.2.2.2.2.2.2.2.2.2.2.2.2.2.2.2.2.2.2.2.2.2.2.2.2.2.2.2.2.2.2.1 x.2.2.2.2.2.2.2.2.2.2.2.2.2.2.2.2.2.2.2.2.2.2.2.2.2.2.2.2.2.2.2.1 x.2.2.2.2.2.2.2.2.2.2.2.2.2.2.2.2.2.2.2.2.2.2.2.2.2.2.2.2.2.2.2.2.1 x.2.2.2.2.2.2.2.2.2.2.2.2.2.2.2.2.2.2.2.2.2.2.2.2.2.2.2.2.2.2.2.2.2.1 x.2.2.2.2.2.2.2.2.2.2.2.2.2.2.2.2.2.2.2.2.2.2.2.2.2.2.2.2.2.2.2.2.2.2.1 x.2.2.2.2.2.2.2.2.2.2.2.2.2.2.2.2.2.2.2.2.2.2.2.2.2.2.2.2.2.2.2.2.2.2.2.1 x.2.2.2.2.2.2.2.2.2.2.2.2.2.2.2.2.2.2.2.2.2.2.2.2.2.2.2.2.2.2.2.2.2.2.2.2.1 x.2.2.2.2.2.2.2.2.2.2.2.2.2.2.2.2.2.2.2.2.2.2.2.2.2.2.2.2.2.2.2.2.2.2.2.2.2.1 x.2.2.2.2.2.2.2.2.2.2.2.2.2.2.2.2.2.2.2.2.2.2.2.2.2.2.2.2.2.2.2.2.2.2.2.2.2.2.1 x.2.2.2.2.2.2.2.2.2.2.2.2.2.2.2.2.2.2.2.2.2.2.2.2.2.2.2.2.2.2.2.2.2.2.2.2.2.2.2.1 x.2.2.2.2.2.2.2.2.2.2.2.2.2.2.2.2.2.2.2.2.2.2.2.2.2.2.2.2.2.2.2.2.2.2.2.2.2.2.2.2.1 x.2.2.2.2.2.2.2.2.2.2.2.2.2.2.2.2.2.2.2.2.2.2.2.2.2.2.2.2.2.2.2.2.2.2.2.2.2.2.2.2.2.1 x.2.2.2.2.2.2.2.2.2.2.2.2.2.2.2.2.2.2.2.2.2.2.2.2.2.2.2.2.2.2.2.2.2.2.2.2.2.2.2.2.2.2.1 x.2.2.2.2.2.2.2.2.2.2.2.2.2.2.2.2.2.2.2.2.2.2.2.2.2.2.2.2.2.2.2.2.2.2.2.2.2.2.2.2.2.2.2.1 x.2.2.2.2.2.2.2.2.2.2.2.2.2.2.2.2.2.2.2.2.2.2.2.2.2.2.2.2.2.2.2.2.2.2.2.2.2.2.2.2.2.2.2.2.1 x.2.2.2.2.2.2.2.2.2.2.2.2.2.2.2.2.2.2.2.2.2.2.2.2.2.2.2.2.2.2.2.2.2.2.2.2.2.2.2.2.2.2.2.2.2.1 x.2.2.2.2.2.2.2.2.2.2.2.2.2.2.2.2.2.2.2.2.2.2.2.2.2.2.2.2.2.2.2.2.2.2.2.2.2.2.2.2.2.2.2.2.2.2.1 x.2.2.2.2.2.2.2.2.2.2.2.2.2.2.2.2.2.2.2.2.2.2.2.2.2.2.2.2.2.2.2.2.2.2.2.2.2.2.2.2.2.2.2.2.2.2.2.1 x.2.2.2.2.2.2.2.2.2.2.2.2.2.2.2.2.2.2.2.2.2.2.2.2.2.2.2.2.2.2.2.2.2.2.2.2.2.2.2.2.2.2.2.2.2.2.2.2.1 x.2.2.2.2.2.2.2.2.2.2.2.2.2.2.2.2.2.2.2.2.2.2.2.2.2.2.2.2.2.2.2.2.2.2.2.2.2.2.2.2.2.2.2.2.2.2.2.2.2.1 x.2.2.2.2.2.2.2.2.2.2.2.2.2.2.2.2.2.2.2.2.2.2.2.2.2.2.2.2.2.2.2.2.2.2.2.2.2.2.2.2.2.2.2.2.2.2.2.2.2.2.1 x.2.2.2.2.2.2.2.2.2.2.2.2.2.2.2.2.2.2.2.2.2.2.2.2.2.2.2.2.2.2.2.2.2.2.2.2.2.2.2.2.2.2.2.2.2.2.2.2.2.2.2.1 x.2.2.2.2.2.2.2.2.2.2.2.2.2.2.2.2.2.2.2.2.2.2.2.2.2.2.2.2.2.2.2.2.2.2.2.2.2.2.2.2.2.2.2.2.2.2.2.2.2.2.2.2.1 x.2.2.2.2.2.2.2.2.2.2.2.2.2.2.2.2.2.2.2.2.2.2.2.2.2.2.2.2.2.2.2.2.2.2.2.2.2.2.2.2.2.2.2.2.2.2.2.2.2.2.2.2.2.1 x.2.2.2.2.2.2.2.2.2.2.2.2.2.2.2.2.2.2.2.2.2.2.2.2.2.2.2.2.2.2.2.2.2.2.2.2.2.2.2.2.2.2.2.2.2.2.2.2.2.2.2.2.2.2.1 x.2.2.2.2.2.2.2.2.2.2.2.2.2.2.2.2.2.2.2.2.2.2.2.2.2.2.2.2.2.2.2.2.2.2.2.2.2.2.2.2.2.2.2.2.2.2.2.2.2.2.2.2.2.2.2.1 x.2.2.2.2.2.2.2.2.2.2.2.2.2.2.2.2.2.2.2.2.2.2.2.2.2.2.2.2.2.2.2.2.2.2.2.2.2.2.2.2.2.2.2.2.2.2.2.2.2.2.2.2.2.2.2.2.1 x.2.2.2.2.2.2.2.2.2.2.2.2.2.2.2.2.2.2.2.2.2.2.2.2.2.2.2.2.2.2.2.2.2.2.2.2.2.2.2.2.2.2.2.2.2.2.2.2.2.2.2.2.2.2.2.2.2.1 x.2.2.2.2.2.2.2.2.2.2.2.2.2.2.2.2.2.2.2.2.2.2.2.2.2.2.2.2.2.2.2.2.2.2.2.2.2.2.2.2.2.2.2.2.2.2.2.2.2.2.2.2.2.2.2.2.2.2.1 x.2.2.2.2.2.2.2.2.2.2.2.2.2.2.2.2.2.2.2.2.2.2.2.2.2.2.2.2.2.2.2.2.2.2.2.2.2.2.2.2.2.2.2.2.2.2.2.2.2.2.2.2.2.2.2.2.2.2.2.1 x.2.2.2.2.2.2.2.2.2.2.2.2.2.2.2.2.2.2.2.2.2.2.2.2.2.2.2.2.2.2.2.2.2.2.2.2.2.2.2.2.2.2.2.2.2.2.2.2.2.2.2.2.2.2.2.2.2.2.2.2.1 x.2.2.2.2.2.2.2.2.2.2.2.2.2.2.2.2.2.2.2.2.2.2.2.2.2.2.2.2.2.2.2.2.2.2.2.2.2.2.2.2.2.2.2.2.2.2.2.2.2.2.2.2.2.2.2.2.2.2.2.2.2) (by with_unfolding_all exact Kturn4.holds) ⟨w, mean, mg, mb, g, L, fa, cd, dp, fr, gd, un, Q, m, s, rest, c, d, r, aT, aG, aK, aTo, aS, aD, it, e, i, tk0, tn, n, o1, o2, o3, o4, o5, o6, o7, oI, oE, xT, xG, xK, xTo, xS, xD, its, nT, nG, nK, nTo, nS, nD, nC, nr, ritems, p1, p2, t2, t3, tl, tr⟩ hS hA hfr F h0 h1 h2 h3 h4 h5 h6 h7 h8 h9 h10 h11 l1 l2 l3 l4 l5 hO N hxTo tt htt hne b mre hQ
end
end Mine
end OfA27
section OfA28
open PySem PySem.W PySem.W.X PyProof.Rows
set_option Elab.async false
set_option maxRecDepth 100000
set_option maxHeartbeats 4000000
set_option pp.maxSteps 3000
namespace Mine
noncomputable section
theorem filled28 : kk.heap_1 = kk.heap_1 ∧ PySem.Challenge.rw_wu0057_01.name = PySem.Challenge.rw_wu0057_01.name := by
  k_fill
  exact ⟨rfl, rfl⟩
local macro_rules | `(tactic| walk_at "pad") => `(tactic| skip)
local macro_rules | `(tactic| walk_at "eval Name") => `(tactic| (k_here; walk_at "nmX"))
local macro_rules | `(tactic| k_all) => `(tactic| exact OffT.get (by assumption) (by repeat (first | exact List.mem_cons_self .. | refine List.mem_cons_of_mem _ ?_)))

theorem rep_cons (c : Nat) (z : List Nat) (a : Nat) (l : List Nat) : rep c z (a :: l) = (if a = c then z else [a]) ++ rep c z l := rfl
theorem rep_app (c : Nat) (z l l' : List Nat) : rep c z (l ++ l') = rep c z l ++ rep c z l' := by simp [rep]
theorem esc_eq (l : List Nat) : rep 34 [92, 34] (rep 92 [92, 92] l) = esc l := by
  induction l with
  | nil => rfl
  | cons a l ih =>
    rw [rep_cons, rep_app, ih]
    show _ = (if a = 92 then [92, 92] else if a = 34 then [92, 34] else [a]) ++ esc l
    congr 1
    by_cases h1 : a = 92
    · subst h1; rfl
    · rw [if_neg h1, if_neg h1]
      by_cases h2 : a = 34
      · subst h2; rfl
      · rw [if_neg h2]
        simp [rep, h2]
theorem rep_length (c : Nat) (z l : List Nat) (hz : z.length ≤ 2) : (rep c z l).length ≤ 2 * l.length := by
  induction l with
  | nil => simp [rep]
  | cons a l ih =>
    rw [rep_cons, List.length_append, List.length_cons]
    split
    · omega
    · rw [List.length_singleton]; omega
theorem ptext_ascii (b mk v : Nat) (hb : b = 40 ∨ b = 41) : ∀ c ∈ ptext b mk v, c < 128 := by
  have h1 : ∀ l : List Nat, (∀ c ∈ l, c < 128) → ∀ c ∈ esc l, c < 128 := by
    intro l h c hc
    unfold esc at hc
    rw [List.mem_flatMap] at hc
    obtain ⟨a, ha, hc⟩ := hc
    have := h a ha
    split at hc
    · simp at hc; omega
    · split at hc
      · simp at hc; omega
      · simp at hc; omega
  intro c hc
  unfold ptext at hc
  rcases List.mem_append.mp hc with hc | hc
  · rcases List.mem_append.mp hc with hc | hc
    · simp at hc; omega
    · refine h1 _ ?_ c hc
      intro d hd
      rcases List.mem_cons.mp hd with rfl | hd
      · unfold mark4; split <;> omega
      · have := wd_letters 3 v d hd; omega
  · simp at hc; omega
theorem gm_encode {w : World} {h : Heap} (x : Str) (t : Tok) (pl : Sem Bool) : Looks (model PG w) h (getMethod (.str x t) "encode" pl) (.builtin "str.encode", [.str x t]) := Looks.of_peek (K := []) (fun _ _ e => by cases e) (by with_unfolding_all rfl)
noncomputable def Sturn5 (w : World) (mean : ExcName → Option Value) (mg : Str → Option Value) (mb : Str → Option Value) (g : Heap) (L : Nat) (fa : Nat) (cd : Value) (dp : Nat) (fr : Option (List Env)) (gd : Option (List Code)) (un : Nat) (Q : Flow → Shared → Prop) (m : Str → Option Value) (s : Shared) (rest : List Stmt) (c : Nat) (d : Nat) (r : Nat) (aT : Nat) (aG : Nat) (aK : Nat) (aTo : Nat) (aS : Nat) (aD : Nat) (it : Nat) (e : Nat) (i : Nat) (tk0 : Tok) (tn : Tok) (n : Int) (o1 : Obj) (o2 : Obj) (o3 : Obj) (o4 : Obj) (o5 : Obj) (o6 : Obj) (o7 : Obj) (oI : Obj) (oE : Obj) (xT : Array Value) (xG : Array Value) (xK : Array Value) (xTo : Array Value) (xS : Array Value) (xD : Array Value) (its : Array Value) (nT : Nat) (nG : Nat) (nK : Nat) (nTo : Nat) (nS : Nat) (nD : Nat) (nC : Nat) (nr : Nat) (ritems : Array Value) (p1 : Array Value) (p2 : Array Value) (t2 : Tok) (t3 : Tok) (tl : List (Addr × Obj)) (mk : Nat) (v : Nat) (bk : Nat) (tm : Tok) (tw : Tok) (tb : Tok) (td : Tok) (dl : Int) : Prop := ∀ (hS : St w mean mg mb g) (hpos : 1 ≤ s.toks) (hA : AOk 59 (Around.mk none dp fr gd un)) (F : Fr g L s.heap m) (h0 : 108 < L) (h1 : L + 1 + 1 + 1 + 1 + 1 + 1 + 1 < c) (h2 : c < d) (h3 : d < r) (h4 : r < aT) (h5 : aT < aG) (h6 : aG < aK) (h7 : aK < aTo) (h8 : aTo < aS) (h9 : aS < aD) (h10 : aD < it) (h11 : it < e) (l1 : o1.data = .cell (some (.ref aT))) (l2 : o2.data = .cell (some (.ref aG))) (l3 : o3.data = .cell (some (.ref aK))) (l4 : o4.data = .cell (some (.ref aTo))) (l5 : o5.data = .cell (some (.ref aD))) (hO : OffT tl [e, it, aD, aS, aTo, aK, aG, aT, r, d, c, L + 1 + 1 + 1 + 1 + 1 + 1 + 1, L + 1 + 1 + 1 + 1 + 1 + 1, L + 1 + 1 + 1 + 1 + 1, L + 1 + 1 + 1 + 1, L + 1 + 1 + 1, L + 1 + 1, L + 1, 101, 108]) (N : News g L s.heap ((e, oE) :: (it, oI) :: (aD, W.listOf xD nD) :: (aS, W.listOf xS nS) :: (aTo, W.listOf xTo nTo) :: (aK, W.listOf xK nK) :: (aG, W.listOf xG nG) :: (aT, W.listOf xT nT) :: (r, roadObj d ritems nr) :: (d, fullDict w t2 t3) :: (c, W.listOf its nC) :: (L + 1 + 1 + 1 + 1 + 1 + 1 + 1, o7) :: (L + 1 + 1 + 1 + 1 + 1 + 1, o6) :: (L + 1 + 1 + 1 + 1 + 1, o5) :: (L + 1 + 1 + 1 + 1, o4) :: (L + 1 + 1 + 1, o3) :: (L + 1 + 1, o2) :: (L + 1, o1) :: (101, tabO p1) :: (108, tabO p2) :: tl)) (hxD : xD.size ≤ 40) (hmk : mk < 4) (hbk : bk = 40 ∨ bk = 41) (mm : m "mark" = some (.str ⟨#[mark4 mk]⟩ tm)) (mw : m "word" = some (.str (Wd v) tw)) (mb' : m "bracket" = some (.str ⟨#[bk]⟩ tb)) (hdl : xD[xD.size - 1]? = some (.int dl td)) (hQ : ∀ h' tk' m' nD', Fr g L h' m' → (∀ x : Str, x ≠ "shown" → m' x = m x) → ∀ t,
      News g L h' ((e, oE) :: (it, oI) :: (aD, W.listOf (xD.push (.int (if bk = 40 then dl + 1 else dl - 1) t)) nD') :: (aS, W.listOf xS nS) :: (aTo, W.listOf xTo nTo) :: (aK, W.listOf xK nK) :: (aG, W.listOf xG nG) :: (aT, W.listOf xT nT) :: (r, roadObj d ritems nr) :: (d, fullDict w t2 t3) :: (c, W.listOf its nC) :: (L + 1 + 1 + 1 + 1 + 1 + 1 + 1, o7) :: (L + 1 + 1 + 1 + 1 + 1 + 1, o6) :: (L + 1 + 1 + 1 + 1 + 1, o5) :: (L + 1 + 1 + 1 + 1, o4) :: (L + 1 + 1 + 1, o3) :: (L + 1 + 1, o2) :: (L + 1, o1) :: (101, tabO p1) :: (108, tabO p2) :: tl) → wpAny (model PG w) (Around.mk none dp fr gd un) (execs rest (lawEnv L fa cd)) Q (fun _ _ => False) { s with heap := h', toks := tk' }),
    wpAny (model PG w) (Around.mk none dp fr gd un) (execs (ps 9 :: ps 10 :: rest) (lawEnv L fa cd)) Q (fun _ _ => False) s
noncomputable def cturn5 : LV := @Classical.epsilon LV lv0 fun x => ¬ Sturn5 x.w x.mean x.mg x.mb x.g x.L x.fa x.cd x.dp x.fr x.gd x.un x.Q x.m x.s x.rest x.c x.d x.r x.aT x.aG x.aK x.aTo x.aS x.aD x.it x.e x.i x.tk0 x.tn x.nbx x.o1 x.o2 x.o3 x.o4 x.o5 x.o6 x.o7 x.oI x.oE x.xT x.xG x.xK x.xTo x.xS x.xD x.itsbx x.nT x.nG x.nK x.nTo x.nS x.nD x.nC x.nr x.ritems x.p1 x.p2 x.t2 x.t3 x.tl x.mkF x.v x.bk x.tm x.tw x.tb x.td x.dl
namespace Kturn5
@[irreducible] noncomputable def w : World := cturn5.w
@[irreducible] noncomputable def mean : ExcName → Option Value := cturn5.mean
@[irreducible] noncomputable def mg : Str → Option Value := cturn5.mg
@[irreducible] noncomputable def mb : Str → Option Value := cturn5.mb
@[irreducible] noncomputable def g : Heap := cturn5.g
@[irreducible] noncomputable def L : Nat := cturn5.L
@[irreducible] noncomputable def fa : Nat := cturn5.fa
@[irreducible] noncomputable def cd : Value := cturn5.cd
@[irreducible] noncomputable def dp : Nat := cturn5.dp
@[irreducible] noncomputable def fr : Option (List Env) := cturn5.fr
@[irreducible] noncomputable def gd : Option (List Code) := cturn5.gd
@[irreducible] noncomputable def un : Nat := cturn5.un
@[irreducible] noncomputable def Q : Flow → Shared → Prop := cturn5.Q
@[irreducible] noncomputable def m : Str → Option Value := cturn5.m
@[irreducible] noncomputable def s : Shared := cturn5.s
@[irreducible] noncomputable def rest : List Stmt := cturn5.rest
@[irreducible] noncomputable def c : Nat := cturn5.c
@[irreducible] noncomputable def d : Nat := cturn5.d
@[irreducible] noncomputable def r : Nat := cturn5.r
@[irreducible] noncomputable def aT : Nat := cturn5.aT
@[irreducible] noncomputable def aG : Nat := cturn5.aG
@[irreducible] noncomputable def aK : Nat := cturn5.aK
@[irreducible] noncomputable def aTo : Nat := cturn5.aTo
@[irreducible] noncomputable def aS : Nat := cturn5.aS
@[irreducible] noncomputable def aD : Nat := cturn5.aD
@[irreducible] noncomputable def it : Nat := cturn5.it
@[irreducible] noncomputable def e : Nat := cturn5.e
@[irreducible] noncomputable def i : Nat := cturn5.i
@[irreducible] noncomputable def tk0 : Tok := cturn5.tk0
@[irreducible] noncomputable def tn : Tok := cturn5.tn
@[irreducible] noncomputable def n : Int := cturn5.nbx
@[irreducible] noncomputable def o1 : Obj := cturn5.o1
@[irreducible] noncomputable def o2 : Obj := cturn5.o2
@[irreducible] noncomputable def o3 : Obj := cturn5.o3
@[irreducible] noncomputable def o4 : Obj := cturn5.o4
@[irreducible] noncomputable def o5 : Obj := cturn5.o5
@[irreducible] noncomputable def o6 : Obj := cturn5.o6
@[irreducible] noncomputable def o7 : Obj := cturn5.o7
@[irreducible] noncomputable def oI : Obj := cturn5.oI
@[irreducible] noncomputable def oE : Obj := cturn5.oE
@[irreducible] noncomputable def xT : Array Value := cturn5.xT
@[irreducible] noncomputable def xG : Array Value := cturn5.xG
@[irreducible] noncomputable def xK : Array Value := cturn5.xK
@[irreducible] noncomputable def xTo : Array Value := cturn5.xTo
@[irreducible] noncomputable def xS : Array Value := cturn5.xS
@[irreducible] noncomputable def xD : Array Value := cturn5.xD
@[irreducible] noncomputable def its : Array Value := cturn5.itsbx
@[irreducible] noncomputable def nT : Nat := cturn5.nT
@[irreducible] noncomputable def nG : Nat := cturn5.nG
@[irreducible] noncomputable def nK : Nat := cturn5.nK
@[irreducible] noncomputable def nTo : Nat := cturn5.nTo
@[irreducible] noncomputable def nS : Nat := cturn5.nS
@[irreducible] noncomputable def nD : Nat := cturn5.nD
@[irreducible] noncomputable def nC : Nat := cturn5.nC
@[irreducible] noncomputable def nr : Nat := cturn5.nr
@[irreducible] noncomputable def ritems : Array Value := cturn5.ritems
@[irreducible] noncomputable def p1 : Array Value := cturn5.p1
@[irreducible] noncomputable def p2 : Array Value := cturn5.p2
@[irreducible] noncomputable def t2 : Tok := cturn5.t2
@[irreducible] noncomputable def t3 : Tok := cturn5.t3
@[irreducible] noncomputable def tl : List (Addr × Obj) := cturn5.tl
@[irreducible] noncomputable def mk : Nat := cturn5.mkF
@[irreducible] noncomputable def v : Nat := cturn5.v
@[irreducible] noncomputable def bk : Nat := cturn5.bk
@[irreducible] noncomputable def tm : Tok := cturn5.tm
@[irreducible] noncomputable def tw : Tok := cturn5.tw
@[irreducible] noncomputable def tb : Tok := cturn5.tb
@[irreducible] noncomputable def td : Tok := cturn5.td
@[irreducible] noncomputable def dl : Int := cturn5.dl
theorem holds : Sturn5 w mean mg mb g L fa cd dp fr gd un Q m s rest c d r aT aG aK aTo aS aD it e i tk0 tn n o1 o2 o3 o4 o5 o6 o7 oI oE xT xG xK xTo xS xD its nT nG nK nTo nS nD nC nr ritems p1 p2 t2 t3 tl mk v bk tm tw tb td dl := by
  intro hS hpos hA F h0 h1 h2 h3 h4 h5 h6 h7 h8 h9 h10 h11 l1 l2 l3 l4 l5 hO N hxD hmk hbk mm mw mb' hdl hQ
  have hDec := Dec.cons h11 (.cons h10 (.cons h9 (.cons h8 (.cons h7 (.cons h6 (.cons h5 (.cons h4 (.cons h3 (.cons h2 (.cons h1 (decL h0)))))))))))
  have X := hS.X
  have T := hS.T
  dsimp only [lawEnv]
  conv in (occs := *) (DefRec.scope lawRec) => all_goals whnf
  conv in (ps 9) => whnf
  conv in (ps 10) => whnf
  iterate 7 walk_at "kst"
  have ep : (⟨#[mark4 mk]⟩ : Str) ++ Wd v = ⟨(mark4 mk :: wd 3 v).toArray⟩ := by
    show (⟨#[mark4 mk] ++ (wd 3 v).toArray⟩ : Str) = _
    congr 1
    simp
  have ew := wd_len v
  have e1 : (⟨#[mark4 mk]⟩ : Str).length = 1 := rfl
  refine wpAny_with_toks (n := 1) hpos ?_
  refine add_str (fun t1 k1 hk1 => ?_) (by rw [e1, sizeLine_eq]; omega)
  replace hk1 : 1 ≤ k1 := hk1
  rw [ep]
  generalize hL : mark4 mk :: wd 3 v = l4
  have hl4 : l4.length ≤ 4 := by rw [← hL, List.length_cons]; have := wd_length 3 v; omega
  (try dsimp only)
  iterate 7 walk_at "kst"
  have el : (⟨l4.toArray⟩ : Str).length = l4.length := rfl
  refine wpAny_with_toks (n := 1) (Nat.succ_le_succ (Nat.zero_le _)) ?_
  refine SC.replace (s := ⟨_, _, _, _, _⟩) (Nat.ne_of_gt hk1) (Nat.succ_ne_zero _) (Nat.ne_of_lt (Nat.lt_succ_self _)) (by decide) ?_ fun t2 k2 hk2 => ?_
  · have e2 : (PySem.Str.ofString "\\\\").length = 2 := by decide
    rw [el, e2]; omega
  replace hk2 : 1 ≤ k2 := hk2
  have er : Txt.replace ⟨l4.toArray⟩ (PySem.Str.ofString "\\") (PySem.Str.ofString "\\\\") = ⟨(rep 92 [92, 92] l4).toArray⟩ := replace1 l4 [92, 92] 92
  rw [er]
  have hr1 := rep_length 92 [92, 92] l4 (by simp)
  (try dsimp only)
  iterate 7 walk_at "kst"
  refine SC.replace (s := ⟨_, _, _, _, _⟩) (Nat.ne_of_gt hk2) (Nat.succ_ne_zero _) (Nat.ne_of_lt (Nat.lt_succ_self _)) (by decide) ?_ fun t3 k3 => ?_
  · have e2 : (PySem.Str.ofString "\\\"").length = 2 := by decide
    have e3 : (⟨(rep 92 [92, 92] l4).toArray⟩ : Str).length = (rep 92 [92, 92] l4).length := rfl
    rw [e3, e2]; omega
  have er2 : Txt.replace ⟨(rep 92 [92, 92] l4).toArray⟩ (PySem.Str.ofString "\"") (PySem.Str.ofString "\\\"") = ⟨(esc l4).toArray⟩ := by
    rw [← esc_eq l4]
    exact replace1 (rep 92 [92, 92] l4) [92, 34] 34
  rw [er2]
  have hr2 : (⟨(esc l4).toArray⟩ : Str).length ≤ 16 := by
    show (esc l4).length ≤ 16
    rw [← esc_eq l4]
    have := rep_length 34 [92, 34] (rep 92 [92, 92] l4) (by simp)
    omega
  have hbl : (⟨#[bk]⟩ : Str).length = 1 := rfl
  (try dsimp only)
  iterate 24 walk_at "kst"
  have et : (⟨#[bk]⟩ : Str) ++ PySem.Str.ofString "\"" ++ (⟨(esc l4).toArray⟩ : Str) ++ PySem.Str.ofString "\"" = ⟨(ptext bk mk v).toArray⟩ := by
    show (⟨#[bk] ++ #[34] ++ (esc l4).toArray ++ #[34]⟩ : Str) = _
    unfold ptext
    rw [hL]
    congr 1
    simp
  rw [et]
  refine (gm_encode _ _ _).here ?_
  (try dsimp only)
  iterate 4 walk_at "kst"
  have hpl : (ptext bk mk v).length ≤ 100 := by
    have h1 : (ptext bk mk v).length = (esc l4).length + 3 := by unfold ptext; rw [hL]; simp
    have h2 : (esc l4).length ≤ 16 := hr2
    omega
  refine sencode (s := ⟨_, _, _, _, _⟩) (ptext_ascii bk mk v hbk) (by rw [sizeLine_eq]; omega) fun t6 k6 => ?_
  (try dsimp only)
  iterate 6 walk_at "kst"
  rename News _ _ _ _ => N4
  refine last_sub (s := ⟨_, _, _, _, _⟩) (N4.get (by k_mem)) hdl ?_
  (try dsimp only)
  iterate 2 walk_at "kst"
  rename Fr _ _ _ _ => F5
  rename News _ _ _ _ => N5
  refine (paren w mean mg mb bk mk v dl _ _ hbk hmk).use (hA.le (by omega)) hS F5 N5 fun r1 h7 tk7 hr F7 N7 => ?_
  obtain ⟨t7, rfl⟩ := hr
  clear F5 N5
  (try dsimp only)
  k_steps
  rename Fr _ _ _ _ => F10
  rename News _ _ _ _ => N10
  refine hQ _ _ _ _ F10 ?_ t7 N10
  · intro x hx
    (try dsimp only)
    rw [if_neg hx]
end Kturn5
theorem turn5 {w : World} {mean : ExcName → Option Value} {mg mb : Str → Option Value} {g : Heap} {L fa : Nat} {cd : Value} {A : Around} {Q : Flow → Shared → Prop} {m : Str → Option Value} {s : Shared} {rest : List Stmt}
    {c d r aT aG aK aTo aS aD it e i : Nat} {tk0 tn : Tok} {n : Int} {o1 o2 o3 o4 o5 o6 o7 oI oE : Obj} {xT xG xK xTo xS xD its : Array Value} {nT nG nK nTo nS nD nC nr : Nat} {ritems p1 p2 : Array Value} {t2 t3 : Tok} {tl : List (Addr × Obj)}
    (hS : St w mean mg mb g) (hpos : 1 ≤ s.toks) (hA : AOk 59 A) (F : Fr g L s.heap m) (h0 : 108 < L) (h1 : L + 1 + 1 + 1 + 1 + 1 + 1 + 1 < c) (h2 : c < d) (h3 : d < r) (h4 : r < aT) (h5 : aT < aG) (h6 : aG < aK) (h7 : aK < aTo) (h8 : aTo < aS) (h9 : aS < aD) (h10 : aD < it) (h11 : it < e)
    (l1 : o1.data = .cell (some (.ref aT))) (l2 : o2.data = .cell (some (.ref aG))) (l3 : o3.data = .cell (some (.ref aK))) (l4 : o4.data = .cell (some (.ref aTo))) (l5 : o5.data = .cell (some (.ref aD)))
    (hO : OffT tl [e, it, aD, aS, aTo, aK, aG, aT, r, d, c, L + 1 + 1 + 1 + 1 + 1 + 1 + 1, L + 1 + 1 + 1 + 1 + 1 + 1, L + 1 + 1 + 1 + 1 + 1, L + 1 + 1 + 1 + 1, L + 1 + 1 + 1, L + 1 + 1, L + 1, 101, 108]) (N : News g L s.heap ((e, oE) :: (it, oI) :: (aD, W.listOf xD nD) :: (aS, W.listOf xS nS) :: (aTo, W.listOf xTo nTo) :: (aK, W.listOf xK nK) :: (aG, W.listOf xG nG) :: (aT, W.listOf xT nT) :: (r, roadObj d ritems nr) :: (d, fullDict w t2 t3) :: (c, W.listOf its nC) :: (L + 1 + 1 + 1 + 1 + 1 + 1 + 1, o7) :: (L + 1 + 1 + 1 + 1 + 1 + 1, o6) :: (L + 1 + 1 + 1 + 1 + 1, o5) :: (L + 1 + 1 + 1 + 1, o4) :: (L + 1 + 1 + 1, o3) :: (L + 1 + 1, o2) :: (L + 1, o1) :: (101, tabO p1) :: (108, tabO p2) :: tl)) (hxD : xD.size ≤ 40) {mk v bk : Nat} {tm tw tb td : Tok} {dl : Int} (hmk : mk < 4) (hbk : bk = 40 ∨ bk = 41)
    (mm : m "mark" = some (.str ⟨#[mark4 mk]⟩ tm)) (mw : m "word" = some (.str (Wd v) tw)) (mb' : m "bracket" = some (.str ⟨#[bk]⟩ tb)) (hdl : xD[xD.size - 1]? = some (.int dl td))
    (hQ : ∀ h' tk' m' nD', Fr g L h' m' → (∀ x : Str, x ≠ "shown" → m' x = m x) → ∀ t,
      News g L h' ((e, oE) :: (it, oI) :: (aD, W.listOf (xD.push (.int (if bk = 40 then dl + 1 else dl - 1) t)) nD') :: (aS, W.listOf xS nS) :: (aTo, W.listOf xTo nTo) :: (aK, W.listOf xK nK) :: (aG, W.listOf xG nG) :: (aT, W.listOf xT nT) :: (r, roadObj d ritems nr) :: (d, fullDict w t2 t3) :: (c, W.listOf its nC) :: (L + 1 + 1 + 1 + 1 + 1 + 1 + 1, o7) :: (L + 1 + 1 + 1 + 1 + 1 + 1, o6) :: (L + 1 + 1 + 1 + 1 + 1, o5) :: (L + 1 + 1 + 1 + 1, o4) :: (L + 1 + 1 + 1, o3) :: (L + 1 + 1, o2) :: (L + 1, o1) :: (101, tabO p1) :: (108, tabO p2) :: tl) → wpAny (model PG w) A (execs rest (lawEnv L fa cd)) Q (fun _ _ => False) { s with heap := h', toks := tk' }) :
    wpAny (model PG w) A (execs (ps 9 :: ps 10 :: rest) (lawEnv L fa cd)) Q (fun _ _ => False) s := by
  obtain ⟨hd0, dp, fr, gd, un⟩ := A
  obtain rfl : hd0 = none := hA.hd
  exact skolem lv0 (fun x => Sturn5 x.w x.mean x.mg x.mb x.g x.L x.fa x.cd x.dp x.fr x.gd x.un x.Q x.m x.s x.rest x.c x.d x.r x.aT x.aG x.aK x.aTo x.aS x.aD x.it x.e x.i x.tk0 x.tn x.nbx x.o1 x.o2 x.o3 x.o4 x.o5 x.o6 x.o7 x.oI x.oE x.xT x.xG x.xK x.xTo x.xS x.xD x.itsbx x.nT x.nG x.nK x.nTo x.nS x.nD x.nC x.nr x.ritems x.p1 x.p2 x.t2 x.t3 x.tl x.mkF x.v x.bk x.tm x.tw x.tb x.td x.dl) (by with_unfolding_all exact Kturn5.holds) ⟨w, mean, mg, mb, g, L, fa, cd, dp, fr, gd, un, Q, m, s, (Classical.choice lv0).news, (Classical.choice lv0).ls, c, (Classical.choice lv0).vs, (Classical.choice lv0).xs, (Classical.choice lv0).its, (Classical.choice lv0).cs, (Classical.choice lv0).n, (Classical.choice lv0).oc, rest, o1, o2, o3, o4, o5, o6, o7, d, r, aT, aG, aK, aTo, aS, aD, it, e, i, n, tn, tk0, oI, oE, xT, xG, xK, xTo, xS, xD, its, nT, nG, nK, nTo, nS, nD, nC, nr, ritems, p1, p2, t2, t3, (Classical.choice lv0).yT, (Classical.choice lv0).tt, tl, v, (Classical.choice lv0).tv, tm, (Classical.choice lv0).mkS, (Classical.choice lv0).fa', (Classical.choice lv0).fb', (Classical.choice lv0).l, mk, bk, tw, tb, td, dl, (Classical.choice lv0).aGp, (Classical.choice lv0).nGp, (Classical.choice lv0).xGp, (Classical.choice lv0).r0, (Classical.choice lv0).r1, (Classical.choice lv0).r2, (Classical.choice lv0).r3, (Classical.choice lv0).k0, (Classical.choice lv0).k1, (Classical.choice lv0).k2, (Classical.choice lv0).k3, (Classical.choice lv0).aTb, (Classical.choice lv0).nTb, (Classical.choice lv0).v0, (Classical.choice lv0).v1, (Classical.choice lv0).v2, (Classical.choice lv0).v3, (Classical.choice lv0).aX, (Classical.choice lv0).nX, (Classical.choice lv0).xX, (Classical.choice lv0).ns, (Classical.choice lv0).c0, (Classical.choice lv0).d0, (Classical.choice lv0).tc, (Classical.choice lv0).tf, (Classical.choice lv0).j⟩ hS hpos hA F h0 h1 h2 h3 h4 h5 h6 h7 h8 h9 h10 h11 l1 l2 l3 l4 l5 hO N hxD hmk hbk mm mw mb' hdl hQ
end
end Mine
end OfA28
section OfD2
open PySem PySem.W PyProof.Rows
set_option Elab.async false
set_option maxRecDepth 100000
namespace Mine
noncomputable section
noncomputable def mkS (l : List Nat) : PySem.Str := ⟨l.toArray⟩
theorem fab_len (cs : List Int) (j : Nat) : (((fa cs j).length + (fb cs j).length : Int)) = ((pieceI (nn cs j)).length : Int) := by
  show (((#[mark4 (mkI (nn cs j))]).size : Int) + ((wd 3 (vI (nn cs j))).toArray.size : Int)) = _
  unfold pieceI
  simp
  omega
theorem preSum_TT (cs : List Int) : ∀ i, preSum (fun j => ((fa cs j).length + (fb cs j).length : Int)) i = ((TT cs i).length : Int)
  | 0 => by simp [preSum, TT]
  | i + 1 => by
    simp only [preSum]
    rw [preSum_TT cs i, fab_len, TT, List.length_append]
    omega
theorem catL_snoc (l : List PySem.Str) (x : PySem.Str) : catL (l ++ [x]) = catL l ++ x := by
  induction l with
  | nil =>
    show x ++ (⟨#[]⟩ : PySem.Str) = (⟨#[]⟩ : PySem.Str) ++ x
    show (⟨x.cps ++ #[]⟩ : PySem.Str) = ⟨#[] ++ x.cps⟩
    simp
  | cons a l ih =>
    show a ++ catL (l ++ [x]) = (a ++ catL l) ++ x
    rw [ih]
    show (⟨a.cps ++ ((catL l).cps ++ x.cps)⟩ : PySem.Str) = ⟨a.cps ++ (catL l).cps ++ x.cps⟩
    simp
theorem catL_TT (cs : List Int) : ∀ i, catL ((List.range i).map fun j => fa cs j ++ fb cs j) = ⟨(TT cs i).toArray⟩
  | 0 => rfl
  | i + 1 => by
    rw [List.range_succ, List.map_append, List.map_cons, List.map_nil, catL_snoc, catL_TT cs i, fab]
    show (⟨(TT cs i).toArray ++ (pieceI (nn cs i)).toArray⟩ : PySem.Str) = _
    rw [TT]
    congr 1
    simp
theorem fa_len (cs : List Int) (j : Nat) : (fa cs j).length ≤ 1000 := by show (#[mark4 (mkI (nn cs j))]).size ≤ 1000; simp
theorem fb_len (cs : List Int) (j : Nat) : (fb cs j).length ≤ 1000 := by have := wd_len (vI (nn cs j)); unfold fb; omega
theorem TT_ne (cs : List Int) (i : Nat) : (⟨(TT cs (i + 1)).toArray⟩ : PySem.Str) ≠ FAIL := by
  have key : ∀ i, ∃ r, TT cs (i + 1) = mark4 (mkI (nn cs 0)) :: r := by
    intro i
    induction i with
    | zero => exact ⟨wd 3 (vI (nn cs 0)), rfl⟩
    | succ i ih =>
      obtain ⟨r, e⟩ := ih
      exact ⟨r ++ pieceI (nn cs (i + 1)), by rw [TT, e]; rfl⟩
  obtain ⟨r, e⟩ := key i
  rw [e]
  intro h
  have h2 := congrArg (fun s => s.cps[0]?) h
  have e3 : FAIL.cps[0]? = some 60 := by decide +kernel
  rw [e3] at h2
  simp at h2
  unfold mark4 at h2
  split at h2 <;> omega
theorem last_T (cs : List Int) (i : Nat) : ((runP cs i).T.map mkS).getLast? = some ⟨(TT cs i).toArray⟩ := by
  rw [List.getLast?_map]
  have h := run_T cs i
  have e := run_last cs i
  cases hT : (runP cs i).T with
  | nil => rw [hT] at h; simp at h
  | cons a l =>
    rw [hT] at e
    rw [List.getLast?_cons]
    rw [List.getLastD_cons] at e
    simp only [Option.map_some]
    rw [← List.getLastD_eq_getLast?, e]; rfl
theorem last_D (cs : List Int) (i : Nat) : (runP cs i).deps.getLast? = some ((runP cs i).deps.getLastD 0) := by
  have h := run_deps cs i
  cases hT : (runP cs i).deps with
  | nil => rw [hT] at h; simp at h
  | cons a l => rw [List.getLast?_cons, List.getLastD_cons, List.getLastD_eq_getLast?]
end
end Mine
end OfD2
section OfA29
open PySem PySem.W PySem.W.X PyProof.Rows
set_option Elab.async false
set_option maxRecDepth 100000
set_option maxHeartbeats 4000000
set_option pp.maxSteps 3000
namespace Mine
noncomputable section
theorem filled29 : kk.heap_1 = kk.heap_1 ∧ PySem.Challenge.rw_wu0057_01.name = PySem.Challenge.rw_wu0057_01.name := by
  k_fill
  exact ⟨rfl, rfl⟩
local macro_rules | `(tactic| walk_at "eval Name") => `(tactic| (k_here; walk_at "nmX"))
local macro_rules | `(tactic| k_all) => `(tactic| exact OffT.get (by assumption) (by repeat (first | exact List.mem_cons_self .. | refine List.mem_cons_of_mem _ ?_)))

theorem Dec.head {a : Nat} {l : List Nat} (h : Dec (a :: l)) : ∀ b ∈ l, b < a := h.1
theorem Dec.tail {a : Nat} {l : List Nat} (h : Dec (a :: l)) : Dec l := h.2
theorem off_of {P : Nat → Prop} {pre : List Nat} (h : ∀ b ∈ pre ++ [108, 101], P b) : ∀ b ∈ pre ++ [101, 108], P b := by
  intro b hb
  rcases List.mem_append.mp hb with q | q
  · exact h b (List.mem_append_left _ q)
  · refine h b (List.mem_append_right _ ?_)
    simp only [List.mem_cons, List.not_mem_nil, or_false] at q ⊢
    exact q.symm
theorem news_off {P : Nat → Prop} {l tl : List (Nat × Obj)} (h : ∀ b ∈ l.map Prod.fst, P b) (ht : ∀ p ∈ tl, P p.1) : ∀ p ∈ l ++ tl, P p.1 := by
  intro p hp
  rcases List.mem_append.mp hp with q | q
  · exact h _ (List.mem_map_of_mem q)
  · exact ht p q
/-- what stands between two posts -/
structure Post (w : World) (g : Heap) (L c d r aT aG aK aTo aS aD it : Nat) (t2 t3 : Tok) (its : Array Value) (nC : Nat) (o1 o2 o3 o4 o5 o6 o7 : Obj) (cs : List Int) (os0 : OsState) (i : Nat) (s' : Shared) (m : Str → Option Value) (old : Value) (oI : Obj) (xT xG xK xTo xS xD : Array Value) (nT nG nK nTo nS nD nr : Nat) (ritems p1 p2 : Array Value) (tl : List (Addr × Obj)) : Prop where
  F : Fr g L s'.heap m
  mr : m "road" = some (.ref r)
  ms : m "sizes" = some (.ref aS)
  N : News g L s'.heap ((it + 1, enumO it i old) :: (it, oI) :: (aD, W.listOf xD nD) :: (aS, W.listOf xS nS) :: (aTo, W.listOf xTo nTo) :: (aK, W.listOf xK nK) :: (aG, W.listOf xG nG) :: (aT, W.listOf xT nT) :: (r, roadObj d ritems nr) :: (d, fullDict w t2 t3) :: (c, W.listOf its nC) :: (L + 1 + 1 + 1 + 1 + 1 + 1 + 1, o7) :: (L + 1 + 1 + 1 + 1 + 1 + 1, o6) :: (L + 1 + 1 + 1 + 1 + 1, o5) :: (L + 1 + 1 + 1 + 1, o4) :: (L + 1 + 1 + 1, o3) :: (L + 1 + 1, o2) :: (L + 1, o1) :: (101, tabO p1) :: (108, tabO p2) :: tl)
  hoI : IterO oI c i
  hO : OffT tl [it + 1, it, aD, aS, aTo, aK, aG, aT, r, d, c, L + 1 + 1 + 1 + 1 + 1 + 1 + 1, L + 1 + 1 + 1 + 1 + 1 + 1, L + 1 + 1 + 1 + 1 + 1, L + 1 + 1 + 1 + 1, L + 1 + 1 + 1, L + 1 + 1, L + 1, 101, 108]
  hT : StrsAre xT.toList ((runP cs i).T.map mkS)
  hG : IntsAre xG.toList (runP cs i).G
  hK : IntsAre xK.toList (runP cs i).K
  hTo : StrsAre xTo.toList (runP cs i).told
  hSz : IntsAre xS.toList (runP cs i).sizes
  hD : IntsAre xD.toList (runP cs i).deps
  road : RoadAt tl ritems (Mine.fa cs) (Mine.fb cs) i
  tri1 : TriplesOk p1.toList
  tri2 : TriplesOk p2.toList
  os : s'.os = os0
  gens : AllBare s'.gens
  le : i ≤ 8
set_option genInjectivity false in
set_option genSizeOf false in
structure PD where
  m : Str → Option Value
  old : Value
  oI : Obj
  xT : Array Value
  xG : Array Value
  xK : Array Value
  xTo : Array Value
  xS : Array Value
  xD : Array Value
  nT : Nat
  nG : Nat
  nK : Nat
  nTo : Nat
  nS : Nat
  nD : Nat
  nr : Nat
  ritems : Array Value
  p1 : Array Value
  p2 : Array Value
  tl : List (Addr × Obj)
@[reducible] noncomputable def PostI (w : World) (g : Heap) (L c d r aT aG aK aTo aS aD it : Nat) (t2 t3 : Tok) (its : Array Value) (nC : Nat) (o1 o2 o3 o4 o5 o6 o7 : Obj) (cs : List Int) (os0 : OsState) (i : Nat) (s' : Shared) : Prop :=
  ∃ D : PD, Post w g L c d r aT aG aK aTo aS aD it t2 t3 its nC o1 o2 o3 o4 o5 o6 o7 cs os0 i s' D.m D.old D.oI D.xT D.xG D.xK D.xTo D.xS D.xD D.nT D.nG D.nK D.nTo D.nS D.nD D.nr D.ritems D.p1 D.p2 D.tl
theorem strs_len {l : List Value} {ys : List Str} (h : StrsAre l ys) : l.length = ys.length := by
  induction h with
  | nil => rfl
  | cons _ _ _ ih => simp [ih]
theorem ints_len {l : List Value} {ys : List Int} (h : IntsAre l ys) : l.length = ys.length := by
  induction h with
  | nil => rfl
  | cons _ _ _ ih => simp [ih]
theorem ints_at {vs : List Value} {ns : List Int} (h : IntsAre vs ns) {i : Nat} {v : Value} (e : vs[i]? = some v) : ∃ t, v = .int (ns.getD i 0) t := by
  induction h generalizing i with
  | nil => cases e
  | cons x t _ ih =>
    cases i with
    | zero => cases e; exact ⟨_, rfl⟩
    | succ i => obtain ⟨t', e'⟩ := ih e; exact ⟨t', by simpa using e'⟩
@[reducible] def TV : Type := (World) × (ExcName → Option Value) × (Str → Option Value) × (Str → Option Value) × (Heap) × (Nat) × (Nat) × (Value) × (Around) × (Nat) × (Nat) × (Nat) × (Nat) × (Nat) × (Nat) × (Nat) × (Nat) × (Nat) × (Nat) × (Nat) × (Nat) × (Array Value) × (Nat) × (Obj) × (Obj) × (Obj) × (Obj) × (Obj) × (Obj) × (Obj) × (List Int) × (OsState) × (Nat) × (Shared) × (Str → Option Value) × (Value) × (Obj) × (Array Value) × (Array Value) × (Array Value) × (Array Value) × (Array Value) × (Array Value) × (Nat) × (Nat) × (Nat) × (Nat) × (Nat) × (Nat) × (Nat) × (Array Value) × (Array Value) × (Array Value) × (List (Addr × Obj)) × (Heap) × (Nat) × (Nat)
theorem tv0 : Nonempty TV := ⟨⟨W0, fun _ => none, fun _ => none, fun _ => none, {}, 0, 0, .none, (Around.mk none 0 none none 0), 0, 0, 0, 0, 0, 0, 0, 0, 0, 0, 0, 0, #[], 0, { cls := .none, data := .fields #[] }, { cls := .none, data := .fields #[] }, { cls := .none, data := .fields #[] }, { cls := .none, data := .fields #[] }, { cls := .none, data := .fields #[] }, { cls := .none, data := .fields #[] }, { cls := .none, data := .fields #[] }, [], {}, 0, {}, fun _ => none, .none, { cls := .none, data := .fields #[] }, #[], #[], #[], #[], #[], #[], 0, 0, 0, 0, 0, 0, 0, #[], #[], #[], [], {}, 0, 0⟩⟩
noncomputable def Spost_turn (w : World) (mean : ExcName → Option Value) (mg : Str → Option Value) (mb : Str → Option Value) (g : Heap) (L : Nat) (fa : Nat) (cd : Value) (A : Around) (c : Nat) (d : Nat) (r : Nat) (aT : Nat) (aG : Nat) (aK : Nat) (aTo : Nat) (aS : Nat) (aD : Nat) (it : Nat) (t2 : Tok) (t3 : Tok) (its : Array Value) (nC : Nat) (o1 : Obj) (o2 : Obj) (o3 : Obj) (o4 : Obj) (o5 : Obj) (o6 : Obj) (o7 : Obj) (cs : List Int) (os0 : OsState) (i : Nat) (s : Shared) (m : Str → Option Value) (old : Value) (oI : Obj) (xT : Array Value) (xG : Array Value) (xK : Array Value) (xTo : Array Value) (xS : Array Value) (xD : Array Value) (nT : Nat) (nG : Nat) (nK : Nat) (nTo : Nat) (nS : Nat) (nD : Nat) (nr : Nat) (ritems : Array Value) (p1 : Array Value) (p2 : Array Value) (tl : List (Addr × Obj)) (h' : Heap) (tk : Nat) (tk' : Nat) : Prop := ∀ (v : Value) (hS : St w mean mg mb g) (hA : AOk 59 A) (hfr : A.frames = some [lawEnv L fa cd]) (h0 : 108 < L) (h1 : L + 1 + 1 + 1 + 1 + 1 + 1 + 1 < c) (h2 : c < d) (h3 : d < r) (h4 : r < aT) (h5 : aT < aG) (h6 : aG < aK) (h7 : aK < aTo) (h8 : aTo < aS) (h9 : aS < aD) (h10 : aD < it) (l1 : o1.data = .cell (some (.ref aT))) (l2 : o2.data = .cell (some (.ref aG))) (l3 : o3.data = .cell (some (.ref aK))) (l4 : o4.data = .cell (some (.ref aTo))) (l5 : o5.data = .cell (some (.ref aD))) (hits : IntsAre its.toList cs) (hcl : cs.length = 8) (P : Post w g L c d r aT aG aK aTo aS aD it t2 t3 its nC o1 o2 o3 o4 o5 o6 o7 cs os0 i s m old oI xT xG xK xTo xS xD nT nG nK nTo nS nD nr ritems p1 p2 tl) (hv : its[i]? = some v) (he6 : IsEnum h' (it + 1) it ((i + 1 : Nat) : Int) v) (hit6 : h'.IsListIter it c (i + 1)) (hn6 : h'.Ns L (fun y => if y = "n" then some v else if y = "k" then some (.int i tk) else m y)) (hk6 : ∀ b o, b ≠ L → b ≠ it + 1 → b ≠ it → s.heap.get? b = some o → h'.get? b = some o),
    wpAny (model PG w) A (execs pb (lawEnv L fa cd)) (fun f s₂ => Halt (f = .next ∧ PostI w g L c d r aT aG aK aTo aS aD it t2 t3 its nC o1 o2 o3 o4 o5 o6 o7 cs os0 (i + 1) s₂)) (fun _ _ => False) { s with heap := h', toks := tk' }
noncomputable def cpost_turn : TV := @Classical.epsilon TV tv0 fun x => ¬ Spost_turn x.1 x.2.1 x.2.2.1 x.2.2.2.1 x.2.2.2.2.1 x.2.2.2.2.2.1 x.2.2.2.2.2.2.1 x.2.2.2.2.2.2.2.1 x.2.2.2.2.2.2.2.2.1 x.2.2.2.2.2.2.2.2.2.1 x.2.2.2.2.2.2.2.2.2.2.1 x.2.2.2.2.2.2.2.2.2.2.2.1 x.2.2.2.2.2.2.2.2.2.2.2.2.1 x.2.2.2.2.2.2.2.2.2.2.2.2.2.1 x.2.2.2.2.2.2.2.2.2.2.2.2.2.2.1 x.2.2.2.2.2.2.2.2.2.2.2.2.2.2.2.1 x.2.2.2.2.2.2.2.2.2.2.2.2.2.2.2.2.1 x.2.2.2.2.2.2.2.2.2.2.2.2.2.2.2.2.2.1 x.2.2.2.2.2.2.2.2.2.2.2.2.2.2.2.2.2.2.1 x.2.2.2.2.2.2.2.2.2.2.2.2.2.2.2.2.2.2.2.1 x.2.2.2.2.2.2.2.2.2.2.2.2.2.2.2.2.2.2.2.2.1 x.2.2.2.2.2.2.2.2.2.2.2.2.2.2.2.2.2.2.2.2.2.1 x.2.2.2.2.2.2.2.2.2.2.2.2.2.2.2.2.2.2.2.2.2.2.1 x.2.2.2.2.2.2.2.2.2.2.2.2.2.2.2.2.2.2.2.2.2.2.2.1 x.2.2.2.2.2.2.2.2.2.2.2.2.2.2.2.2.2.2.2.2.2.2.2.2.1 x.2.2.2.2.2.2.2.2.2.2.2.2.2.2.2.2.2.2.2.2.2.2.2.2.2.1 x.2.2.2.2.2.2.2.2.2.2.2.2.2.2.2.2.2.2.2.2.2.2.2.2.2.2.1 x.2.2.2.2.2.2.2.2.2.2.2.2.2.2.2.2.2.2.2.2.2.2.2.2.2.2.2.1 x.2.2.2.2.2.2.2.2.2.2.2.2.2.2.2.2.2.2.2.2.2.2.2.2.2.2.2.2.1 x.2.2.2.2.2.2.2.2.2.2.2.2.2.2.2.2.2.2.2.2.2.2.2.2.2.2.2.2.2.1 x.2.2.2.2.2.2.2.2.2.2.2.2.2.2.2.2.2.2.2.2.2.2.2.2.2.2.2.2.2.2.1 x.2.2.2.2.2.2.2.2.2.2.2.2.2.2.2.2.2.2.2.2.2.2.2.2.2.2.2.2.2.2.2.1 x.2.2.2.2.2.2.2.2.2.2.2.2.2.2.2.2.2.2.2.2.2.2.2.2.2.2.2.2.2.2.2.2.1 x.2.2.2.2.2.2.2.2.2.2.2.2.2.2.2.2.2.2.2.2.2.2.2.2.2.2.2.2.2.2.2.2.2.1 x.2.2.2.2.2.2.2.2.2.2.2.2.2.2.2.2.2.2.2.2.2.2.2.2.2.2.2.2.2.2.2.2.2.2.1 x.2.2.2.2.2.2.2.2.2.2.2.2.2.2.2.2.2.2.2.2.2.2.2.2.2.2.2.2.2.2.2.2.2.2.2.1 x.2.2.2.2.2.2.2.2.2.2.2.2.2.2.2.2.2.2.2.2.2.2.2.2.2.2.2.2.2.2.2.2.2.2.2.2.1 x.2.2.2.2.2.2.2.2.2.2.2.2.2.2.2.2.2.2.2.2.2.2.2.2.2.2.2.2.2.2.2.2.2.2.2.2.2.1 x.2.2.2.2.2.2.2.2.2.2.2.2.2.2.2.2.2.2.2.2.2.2.2.2.2.2.2.2.2.2.2.2.2.2.2.2.2.2.1 x.2.2.2.2.2.2.2.2.2.2.2.2.2.2.2.2.2.2.2.2.2.2.2.2.2.2.2.2.2.2.2.2.2.2.2.2.2.2.2.1 x.2.2.2.2.2.2.2.2.2.2.2.2.2.2.2.2.2.2.2.2.2.2.2.2.2.2.2.2.2.2.2.2.2.2.2.2.2.2.2.2.1 x.2.2.2.2.2.2.2.2.2.2.2.2.2.2.2.2.2.2.2.2.2.2.2.2.2.2.2.2.2.2.2.2.2.2.2.2.2.2.2.2.2.1 x.2.2.2.2.2.2.2.2.2.2.2.2.2.2.2.2.2.2.2.2.2.2.2.2.2.2.2.2.2.2.2.2.2.2.2.2.2.2.2.2.2.2.1 x.2.2.2.2.2.2.2.2.2.2.2.2.2.2.2.2.2.2.2.2.2.2.2.2.2.2.2.2.2.2.2.2.2.2.2.2.2.2.2.2.2.2.2.1 x.2.2.2.2.2.2.2.2.2.2.2.2.2.2.2.2.2.2.2.2.2.2.2.2.2.2.2.2.2.2.2.2.2.2.2.2.2.2.2.2.2.2.2.2.1 x.2.2.2.2.2.2.2.2.2.2.2.2.2.2.2.2.2.2.2.2.2.2.2.2.2.2.2.2.2.2.2.2.2.2.2.2.2.2.2.2.2.2.2.2.2.1 x.2.2.2.2.2.2.2.2.2.2.2.2.2.2.2.2.2.2.2.2.2.2.2.2.2.2.2.2.2.2.2.2.2.2.2.2.2.2.2.2.2.2.2.2.2.2.1 x.2.2.2.2.2.2.2.2.2.2.2.2.2.2.2.2.2.2.2.2.2.2.2.2.2.2.2.2.2.2.2.2.2.2.2.2.2.2.2.2.2.2.2.2.2.2.2.1 x.2.2.2.2.2.2.2.2.2.2.2.2.2.2.2.2.2.2.2.2.2.2.2.2.2.2.2.2.2.2.2.2.2.2.2.2.2.2.2.2.2.2.2.2.2.2.2.2.1 x.2.2.2.2.2.2.2.2.2.2.2.2.2.2.2.2.2.2.2.2.2.2.2.2.2.2.2.2.2.2.2.2.2.2.2.2.2.2.2.2.2.2.2.2.2.2.2.2.2.1 x.2.2.2.2.2.2.2.2.2.2.2.2.2.2.2.2.2.2.2.2.2.2.2.2.2.2.2.2.2.2.2.2.2.2.2.2.2.2.2.2.2.2.2.2.2.2.2.2.2.2.1 x.2.2.2.2.2.2.2.2.2.2.2.2.2.2.2.2.2.2.2.2.2.2.2.2.2.2.2.2.2.2.2.2.2.2.2.2.2.2.2.2.2.2.2.2.2.2.2.2.2.2.2.1 x.2.2.2.2.2.2.2.2.2.2.2.2.2.2.2.2.2.2.2.2.2.2.2.2.2.2.2.2.2.2.2.2.2.2.2.2.2.2.2.2.2.2.2.2.2.2.2.2.2.2.2.2.1 x.2.2.2.2.2.2.2.2.2.2.2.2.2.2.2.2.2.2.2.2.2.2.2.2.2.2.2.2.2.2.2.2.2.2.2.2.2.2.2.2.2.2.2.2.2.2.2.2.2.2.2.2.2.1 x.2.2.2.2.2.2.2.2.2.2.2.2.2.2.2.2.2.2.2.2.2.2.2.2.2.2.2.2.2.2.2.2.2.2.2.2.2.2.2.2.2.2.2.2.2.2.2.2.2.2.2.2.2.2.1 x.2.2.2.2.2.2.2.2.2.2.2.2.2.2.2.2.2.2.2.2.2.2.2.2.2.2.2.2.2.2.2.2.2.2.2.2.2.2.2.2.2.2.2.2.2.2.2.2.2.2.2.2.2.2.2.1 x.2.2.2.2.2.2.2.2.2.2.2.2.2.2.2.2.2.2.2.2.2.2.2.2.2.2.2.2.2.2.2.2.2.2.2.2.2.2.2.2.2.2.2.2.2.2.2.2.2.2.2.2.2.2.2.2
namespace Kpost_turn
@[irreducible] noncomputable def w : World := cpost_turn.1
@[irreducible] noncomputable def mean : ExcName → Option Value := cpost_turn.2.1
@[irreducible] noncomputable def mg : Str → Option Value := cpost_turn.2.2.1
@[irreducible] noncomputable def mb : Str → Option Value := cpost_turn.2.2.2.1
@[irreducible] noncomputable def g : Heap := cpost_turn.2.2.2.2.1
@[irreducible] noncomputable def L : Nat := cpost_turn.2.2.2.2.2.1
@[irreducible] noncomputable def fa : Nat := cpost_turn.2.2.2.2.2.2.1
@[irreducible] noncomputable def cd : Value := cpost_turn.2.2.2.2.2.2.2.1
@[irreducible] noncomputable def A : Around := cpost_turn.2.2.2.2.2.2.2.2.1
@[irreducible] noncomputable def c : Nat := cpost_turn.2.2.2.2.2.2.2.2.2.1
@[irreducible] noncomputable def d : Nat := cpost_turn.2.2.2.2.2.2.2.2.2.2.1
@[irreducible] noncomputable def r : Nat := cpost_turn.2.2.2.2.2.2.2.2.2.2.2.1
@[irreducible] noncomputable def aT : Nat := cpost_turn.2.2.2.2.2.2.2.2.2.2.2.2.1
@[irreducible] noncomputable def aG : Nat := cpost_turn.2.2.2.2.2.2.2.2.2.2.2.2.2.1
@[irreducible] noncomputable def aK : Nat := cpost_turn.2.2.2.2.2.2.2.2.2.2.2.2.2.2.1
@[irreducible] noncomputable def aTo : Nat := cpost_turn.2.2.2.2.2.2.2.2.2.2.2.2.2.2.2.1
@[irreducible] noncomputable def aS : Nat := cpost_turn.2.2.2.2.2.2.2.2.2.2.2.2.2.2.2.2.1
@[irreducible] noncomputable def aD : Nat := cpost_turn.2.2.2.2.2.2.2.2.2.2.2.2.2.2.2.2.2.1
@[irreducible] noncomputable def it : Nat := cpost_turn.2.2.2.2.2.2.2.2.2.2.2.2.2.2.2.2.2.2.1
@[irreducible] noncomputable def t2 : Tok := cpost_turn.2.2.2.2.2.2.2.2.2.2.2.2.2.2.2.2.2.2.2.1
@[irreducible] noncomputable def t3 : Tok := cpost_turn.2.2.2.2.2.2.2.2.2.2.2.2.2.2.2.2.2.2.2.2.1
@[irreducible] noncomputable def its : Array Value := cpost_turn.2.2.2.2.2.2.2.2.2.2.2.2.2.2.2.2.2.2.2.2.2.1
@[irreducible] noncomputable def nC : Nat := cpost_turn.2.2.2.2.2.2.2.2.2.2.2.2.2.2.2.2.2.2.2.2.2.2.1
@[irreducible] noncomputable def o1 : Obj := cpost_turn.2.2.2.2.2.2.2.2.2.2.2.2.2.2.2.2.2.2.2.2.2.2.2.1
@[irreducible] noncomputable def o2 : Obj := cpost_turn.2.2.2.2.2.2.2.2.2.2.2.2.2.2.2.2.2.2.2.2.2.2.2.2.1
@[irreducible] noncomputable def o3 : Obj := cpost_turn.2.2.2.2.2.2.2.2.2.2.2.2.2.2.2.2.2.2.2.2.2.2.2.2.2.1
@[irreducible] noncomputable def o4 : Obj := cpost_turn.2.2.2.2.2.2.2.2.2.2.2.2.2.2.2.2.2.2.2.2.2.2.2.2.2.2.1
@[irreducible] noncomputable def o5 : Obj := cpost_turn.2.2.2.2.2.2.2.2.2.2.2.2.2.2.2.2.2.2.2.2.2.2.2.2.2.2.2.1
@[irreducible] noncomputable def o6 : Obj := cpost_turn.2.2.2.2.2.2.2.2.2.2.2.2.2.2.2.2.2.2.2.2.2.2.2.2.2.2.2.2.1
@[irreducible] noncomputable def o7 : Obj := cpost_turn.2.2.2.2.2.2.2.2.2.2.2.2.2.2.2.2.2.2.2.2.2.2.2.2.2.2.2.2.2.1
@[irreducible] noncomputable def cs : List Int := cpost_turn.2.2.2.2.2.2.2.2.2.2.2.2.2.2.2.2.2.2.2.2.2.2.2.2.2.2.2.2.2.2.1
@[irreducible] noncomputable def os0 : OsState := cpost_turn.2.2.2.2.2.2.2.2.2.2.2.2.2.2.2.2.2.2.2.2.2.2.2.2.2.2.2.2.2.2.2.1
@[irreducible] noncomputable def i : Nat := cpost_turn.2.2.2.2.2.2.2.2.2.2.2.2.2.2.2.2.2.2.2.2.2.2.2.2.2.2.2.2.2.2.2.2.1
@[irreducible] noncomputable def s : Shared := cpost_turn.2.2.2.2.2.2.2.2.2.2.2.2.2.2.2.2.2.2.2.2.2.2.2.2.2.2.2.2.2.2.2.2.2.1
@[irreducible] noncomputable def m : Str → Option Value := cpost_turn.2.2.2.2.2.2.2.2.2.2.2.2.2.2.2.2.2.2.2.2.2.2.2.2.2.2.2.2.2.2.2.2.2.2.1
@[irreducible] noncomputable def old : Value := cpost_turn.2.2.2.2.2.2.2.2.2.2.2.2.2.2.2.2.2.2.2.2.2.2.2.2.2.2.2.2.2.2.2.2.2.2.2.1
@[irreducible] noncomputable def oI : Obj := cpost_turn.2.2.2.2.2.2.2.2.2.2.2.2.2.2.2.2.2.2.2.2.2.2.2.2.2.2.2.2.2.2.2.2.2.2.2.2.1
@[irreducible] noncomputable def xT : Array Value := cpost_turn.2.2.2.2.2.2.2.2.2.2.2.2.2.2.2.2.2.2.2.2.2.2.2.2.2.2.2.2.2.2.2.2.2.2.2.2.2.1
@[irreducible] noncomputable def xG : Array Value := cpost_turn.2.2.2.2.2.2.2.2.2.2.2.2.2.2.2.2.2.2.2.2.2.2.2.2.2.2.2.2.2.2.2.2.2.2.2.2.2.2.1
@[irreducible] noncomputable def xK : Array Value := cpost_turn.2.2.2.2.2.2.2.2.2.2.2.2.2.2.2.2.2.2.2.2.2.2.2.2.2.2.2.2.2.2.2.2.2.2.2.2.2.2.2.1
@[irreducible] noncomputable def xTo : Array Value := cpost_turn.2.2.2.2.2.2.2.2.2.2.2.2.2.2.2.2.2.2.2.2.2.2.2.2.2.2.2.2.2.2.2.2.2.2.2.2.2.2.2.2.1
@[irreducible] noncomputable def xS : Array Value := cpost_turn.2.2.2.2.2.2.2.2.2.2.2.2.2.2.2.2.2.2.2.2.2.2.2.2.2.2.2.2.2.2.2.2.2.2.2.2.2.2.2.2.2.1
@[irreducible] noncomputable def xD : Array Value := cpost_turn.2.2.2.2.2.2.2.2.2.2.2.2.2.2.2.2.2.2.2.2.2.2.2.2.2.2.2.2.2.2.2.2.2.2.2.2.2.2.2.2.2.2.1
@[irreducible] noncomputable def nT : Nat := cpost_turn.2.2.2.2.2.2.2.2.2.2.2.2.2.2.2.2.2.2.2.2.2.2.2.2.2.2.2.2.2.2.2.2.2.2.2.2.2.2.2.2.2.2.2.1
@[irreducible] noncomputable def nG : Nat := cpost_turn.2.2.2.2.2.2.2.2.2.2.2.2.2.2.2.2.2.2.2.2.2.2.2.2.2.2.2.2.2.2.2.2.2.2.2.2.2.2.2.2.2.2.2.2.1
@[irreducible] noncomputable def nK : Nat := cpost_turn.2.2.2.2.2.2.2.2.2.2.2.2.2.2.2.2.2.2.2.2.2.2.2.2.2.2.2.2.2.2.2.2.2.2.2.2.2.2.2.2.2.2.2.2.2.1
@[irreducible] noncomputable def nTo : Nat := cpost_turn.2.2.2.2.2.2.2.2.2.2.2.2.2.2.2.2.2.2.2.2.2.2.2.2.2.2.2.2.2.2.2.2.2.2.2.2.2.2.2.2.2.2.2.2.2.2.1
@[irreducible] noncomputable def nS : Nat := cpost_turn.2.2.2.2.2.2.2.2.2.2.2.2.2.2.2.2.2.2.2.2.2.2.2.2.2.2.2.2.2.2.2.2.2.2.2.2.2.2.2.2.2.2.2.2.2.2.2.1
@[irreducible] noncomputable def nD : Nat := cpost_turn.2.2.2.2.2.2.2.2.2.2.2.2.2.2.2.2.2.2.2.2.2.2.2.2.2.2.2.2.2.2.2.2.2.2.2.2.2.2.2.2.2.2.2.2.2.2.2.2.1
@[irreducible] noncomputable def nr : Nat := cpost_turn.2.2.2.2.2.2.2.2.2.2.2.2.2.2.2.2.2.2.2.2.2.2.2.2.2.2.2.2.2.2.2.2.2.2.2.2.2.2.2.2.2.2.2.2.2.2.2.2.2.1
@[irreducible] noncomputable def ritems : Array Value := cpost_turn.2.2.2.2.2.2.2.2.2.2.2.2.2.2.2.2.2.2.2.2.2.2.2.2.2.2.2.2.2.2.2.2.2.2.2.2.2.2.2.2.2.2.2.2.2.2.2.2.2.2.1
@[irreducible] noncomputable def p1 : Array Value := cpost_turn.2.2.2.2.2.2.2.2.2.2.2.2.2.2.2.2.2.2.2.2.2.2.2.2.2.2.2.2.2.2.2.2.2.2.2.2.2.2.2.2.2.2.2.2.2.2.2.2.2.2.2.1
@[irreducible] noncomputable def p2 : Array Value := cpost_turn.2.2.2.2.2.2.2.2.2.2.2.2.2.2.2.2.2.2.2.2.2.2.2.2.2.2.2.2.2.2.2.2.2.2.2.2.2.2.2.2.2.2.2.2.2.2.2.2.2.2.2.2.1
@[irreducible] noncomputable def tl : List (Addr × Obj) := cpost_turn.2.2.2.2.2.2.2.2.2.2.2.2.2.2.2.2.2.2.2.2.2.2.2.2.2.2.2.2.2.2.2.2.2.2.2.2.2.2.2.2.2.2.2.2.2.2.2.2.2.2.2.2.2.1
@[irreducible] noncomputable def h' : Heap := cpost_turn.2.2.2.2.2.2.2.2.2.2.2.2.2.2.2.2.2.2.2.2.2.2.2.2.2.2.2.2.2.2.2.2.2.2.2.2.2.2.2.2.2.2.2.2.2.2.2.2.2.2.2.2.2.2.1
@[irreducible] noncomputable def tk : Nat := cpost_turn.2.2.2.2.2.2.2.2.2.2.2.2.2.2.2.2.2.2.2.2.2.2.2.2.2.2.2.2.2.2.2.2.2.2.2.2.2.2.2.2.2.2.2.2.2.2.2.2.2.2.2.2.2.2.2.1
@[irreducible] noncomputable def tk' : Nat := cpost_turn.2.2.2.2.2.2.2.2.2.2.2.2.2.2.2.2.2.2.2.2.2.2.2.2.2.2.2.2.2.2.2.2.2.2.2.2.2.2.2.2.2.2.2.2.2.2.2.2.2.2.2.2.2.2.2.2
theorem holds : Spost_turn w mean mg mb g L fa cd A c d r aT aG aK aTo aS aD it t2 t3 its nC o1 o2 o3 o4 o5 o6 o7 cs os0 i s m old oI xT xG xK xTo xS xD nT nG nK nTo nS nD nr ritems p1 p2 tl h' tk tk' := by
  intro v hS hA hfr h0 h1 h2 h3 h4 h5 h6 h7 h8 h9 h10 l1 l2 l3 l4 l5 hits hcl P hv he6 hit6 hn6 hk6
  have hDec := Dec.cons (Nat.lt_succ_self it) (.cons h10 (.cons h9 (.cons h8 (.cons h7 (.cons h6 (.cons h5 (.cons h4 (.cons h3 (.cons h2 (.cons h1 (decL h0)))))))))))
  obtain ⟨F, mr, ms, N, hoI, hO, hT, hG, hK, hTo, hSz, hD, road, tri1, tri2, hos, hgens, hle⟩ := P
  have hi8 : i < 8 := by
    have h1 := (Array.getElem?_eq_some_iff.mp hv).1
    have h2 := ints_len hits
    rw [Array.length_toList] at h2
    omega
  obtain ⟨tn, rfl⟩ := ints_at (i := i) hits (v := v) (by rw [Array.getElem?_toList]; exact hv)
  obtain ⟨oI', eI', hoI'⟩ := iterO_of hit6
  have hne : ∀ p ∈ ((aD, W.listOf xD nD) :: (aS, W.listOf xS nS) :: (aTo, W.listOf xTo nTo) :: (aK, W.listOf xK nK) :: (aG, W.listOf xG nG) :: (aT, W.listOf xT nT) :: (r, roadObj d ritems nr) :: (d, fullDict w t2 t3) :: (c, W.listOf its nC) :: (L + 1 + 1 + 1 + 1 + 1 + 1 + 1, o7) :: (L + 1 + 1 + 1 + 1 + 1 + 1, o6) :: (L + 1 + 1 + 1 + 1 + 1, o5) :: (L + 1 + 1 + 1 + 1, o4) :: (L + 1 + 1 + 1, o3) :: (L + 1 + 1, o2) :: (L + 1, o1) :: (101, tabO p1) :: (108, tabO p2) :: tl), p.1 ≠ it + 1 ∧ p.1 ≠ it := by
    exact news_off (P := fun a => a ≠ it + 1 ∧ a ≠ it) (l := [(aD, W.listOf xD nD), (aS, W.listOf xS nS), (aTo, W.listOf xTo nTo), (aK, W.listOf xK nK), (aG, W.listOf xG nG), (aT, W.listOf xT nT), (r, roadObj d ritems nr), (d, fullDict w t2 t3), (c, W.listOf its nC), (L + 1 + 1 + 1 + 1 + 1 + 1 + 1, o7), (L + 1 + 1 + 1 + 1 + 1 + 1, o6), (L + 1 + 1 + 1 + 1 + 1, o5), (L + 1 + 1 + 1 + 1, o4), (L + 1 + 1 + 1, o3), (L + 1 + 1, o2), (L + 1, o1), (101, tabO p1), (108, tabO p2)]) (off_of (pre := [aD, aS, aTo, aK, aG, aT, r, d, c, L + 1 + 1 + 1 + 1 + 1 + 1 + 1, L + 1 + 1 + 1 + 1 + 1 + 1, L + 1 + 1 + 1 + 1 + 1, L + 1 + 1 + 1 + 1, L + 1 + 1 + 1, L + 1 + 1, L + 1]) fun b hb => ⟨Nat.ne_of_lt (hDec.head b (List.mem_cons_of_mem _ hb)), Nat.ne_of_lt (hDec.tail.head b hb)⟩) fun p hp => ⟨hO p hp _ (List.mem_cons_self ..), hO p hp _ (List.mem_cons_of_mem _ (List.mem_cons_self ..))⟩
  obtain ⟨F6, N6⟩ := enum_fr F N hne he6 eI' hn6 hk6
  clear hne F N hk6 hn6 eI' hit6 he6
  rw [pb_eq]
  replace F6 : Fr g L h' (fun y : Str => if y = "n" then some (Value.int (nn cs i) tn) else if y = "k" then some (.int i tk) else m y) := F6
  have mr6 : (fun y : Str => if y = "n" then some (Value.int (nn cs i) tn) else if y = "k" then some (.int i tk) else m y) "road" = some (.ref r) := by
    dsimp only; rw [if_neg (by decide), if_neg (by decide)]; exact mr
  have ms6 : (fun y : Str => if y = "n" then some (Value.int (nn cs i) tn) else if y = "k" then some (.int i tk) else m y) "sizes" = some (.ref aS) := by
    dsimp only; rw [if_neg (by decide), if_neg (by decide)]; exact ms
  have mk6 : (fun y : Str => if y = "n" then some (Value.int (nn cs i) tn) else if y = "k" then some (.int i tk) else m y) "k" = some (.int ((i : Nat) : Int) tk) := by
    dsimp only; rw [if_neg (by decide), if_pos rfl]
  have mn6 : (fun y : Str => if y = "n" then some (Value.int (nn cs i) tn) else if y = "k" then some (.int i tk) else m y) "n" = some (.int (nn cs i) tn) := by
    dsimp only; rw [if_pos rfl]
  generalize (fun y : Str => if y = "n" then some (Value.int (nn cs i) tn) else if y = "k" then some (.int i tk) else m y) = m6 at *
  have zT : xT.size = i + 1 := by have := strs_len hT; rw [Array.length_toList, List.length_map, run_T] at this; exact this
  have zTo : xTo.size = i := by have := strs_len hTo; rw [Array.length_toList, run_told] at this; exact this
  have zS : xS.size = i := by have := ints_len hSz; rw [Array.length_toList, run_sizes] at this; exact this
  have zD : xD.size = i + 1 := by have := ints_len hD; rw [Array.length_toList, run_deps] at this; exact this
  have zG : xG.size = (runP cs i).G.length := by have := ints_len hG; rw [Array.length_toList] at this; exact this
  have zK : xK.size = (runP cs i).K.length := by have := ints_len hK; rw [Array.length_toList] at this; exact this
  have zGK := run_GK cs i
  have tl1 := TT_len cs i
  have tl2 := TT_len cs (i + 1)
  refine turn1 (i := i) (n := nn cs i) (tt := TT cs i) hS hA F6 h0 h1 h2 h3 h4 h5 h6 h7 h8 h9 h10 (Nat.lt_succ_self _) mr6 ms6 mk6 mn6 l1 l2 l3 l4 l5 hT (last_T cs i) (by omega) (by omega) hO N6 fun ha tka ma ta nTa Fa hma hmk hmv Na => ?_
  obtain ⟨tm, em⟩ := hmk
  obtain ⟨tv, ev⟩ := hmv
  clear N6 F6
  refine turn2 (tn := tn) (i := i) (v := vI (nn cs i)) (mkS := ⟨#[mark4 (mkI (nn cs i))]⟩) (fa' := Mine.fa cs) (fb' := Mine.fb cs) hS hA Fa h0 h1 h2 h3 h4 h5 h6 h7 h8 h9 h10 (Nat.lt_succ_self _) ((hma "road" (by decide) (by decide)).trans mr6) ((hma "sizes" (by decide) (by decide)).trans ms6) ((hma "k" (by decide) (by decide)).trans mk6) em ev (vI_lt _) l1 l2 l3 l4 l5 hO Na road rfl rfl hi8 (fun j _ => ⟨fa_len cs j, fb_len cs j⟩) tri1 (by omega) fun sb mb' ritems' p1' T6 oTp nr' nS' tz Fb hmb hmw Nb hOb roadb trib osb gnb => ?_
  obtain ⟨tw, ew⟩ := hmw
  clear Na Fa
  refine turn3 (i := i) (n := nn cs i) (tt := TT cs (i + 1)) (l := i + 1) (fa' := Mine.fa cs) (fb' := Mine.fb cs) hS hA Fb h0 h1 h2 h3 h4 h5 h6 h7 h8 h9 h10 (Nat.lt_succ_self _) ((hmb "road" (by decide)).trans ((hma "road" (by decide) (by decide)).trans mr6)) ((hmb "k" (by decide)).trans ((hma "k" (by decide) (by decide)).trans mk6)) ((hmb "n" (by decide)).trans ((hma "n" (by decide) (by decide)).trans mn6)) l1 l2 l3 l4 l5 hOb Nb (by omega) (by omega) roadb (by omega) (fun j _ => ⟨fa_len cs j, fb_len cs j⟩) tri2 (catL_TT cs (i + 1)) (by omega) fun sc mc b xG' xK' nG' nK' p2' rep Fc hmc hrep hb hreq hxG' hxK' Nc tric osc gnc => ?_
  obtain ⟨trp, erp⟩ := hrep
  subst hreq
  clear Nb Fb
  refine turn4 (tn := tn) (tk0 := tk) (i := i) (n := nn cs i) (tt := TT cs (i + 1)) hS hA hfr Fc h0 h1 h2 h3 h4 h5 h6 h7 h8 h9 h10 (Nat.lt_succ_self _) l1 l2 l3 l4 l5 hOb Nc (by omega) (by omega) (TT_ne cs i) b erp fun hd tkd md nTo' hpos Fd hmd hbr td Nd => ?_
  obtain ⟨tbr, ebr⟩ := hbr
  clear Nc Fc
  have hdl : ∃ td, xD[xD.size - 1]? = some (.int ((runP cs i).deps.getLastD 0) td) := by
    obtain ⟨t, e⟩ := ints_last hD (last_D cs i)
    refine ⟨t, ?_⟩
    rw [← Array.getElem?_toList, ← Array.length_toList]; exact e
  obtain ⟨tdl, hdl⟩ := hdl
  refine turn5 (tn := tn) (tk0 := tk) (i := i) (n := nn cs i) (mk := mkI (nn cs i)) (v := vI (nn cs i)) (bk := if b then 40 else 41) (dl := (runP cs i).deps.getLastD 0) hS hpos hA Fd h0 h1 h2 h3 h4 h5 h6 h7 h8 h9 h10 (Nat.lt_succ_self _) l1 l2 l3 l4 l5 hOb Nd (by omega) (mkI_lt _) (by cases b <;> simp) ((hmd "mark" (by decide)).trans ((hmc "mark" (by decide)).trans ((hmb "mark" (by decide)).trans em))) ((hmd "word" (by decide)).trans ((hmc "word" (by decide)).trans ew)) ebr hdl fun he tke me nD' Fe hme te Ne => ?_
  clear Nd Fd
  refine wpAny_execs_nil ?_
  obtain ⟨tg, hxG'⟩ := hxG'
  obtain ⟨tk9, hxK'⟩ := hxK'
  have hb' : b = gives (nn cs i) (runP cs i) := by rw [hb, zG, zK]; rfl
  have mrE : me "road" = some (.ref r) := (hme "road" (by decide)).trans ((hmd "road" (by decide)).trans ((hmc "road" (by decide)).trans ((hmb "road" (by decide)).trans ((hma "road" (by decide) (by decide)).trans mr6))))
  have msE : me "sizes" = some (.ref aS) := (hme "sizes" (by decide)).trans ((hmd "sizes" (by decide)).trans ((hmc "sizes" (by decide)).trans ((hmb "sizes" (by decide)).trans ((hma "sizes" (by decide) (by decide)).trans ms6))))
  refine unhalt ⟨rfl, ⟨me, _, oI', xT.push _, xG', xK', xTo.push _, xS.push _, xD.push _, _, _, _, _, _, _, _, ritems', p1', p2', (T6, oTp) :: tl⟩, ⟨Fe, mrE, msE, Ne, hoI', hOb, ?_, ?_, ?_, ?_, ?_, ?_, roadb, trib, tric, ?_, ?_, by omega⟩⟩
  · dsimp only
    show StrsAre _ (((runP cs i).T ++ [(runP cs i).T.getLastD [] ++ pieceI (nn cs i)]).map mkS)
    rw [run_last, List.map_append, Array.toList_push]
    exact strs_snoc hT _ _
  · dsimp only
    show IntsAre _ (if gives (nn cs i) (runP cs i) then (runP cs i).G ++ [(i : Int) + 1] else (runP cs i).G)
    rw [← hb', hxG']
    cases b with
    | true => rw [if_pos rfl, if_pos rfl, Array.toList_push]; exact ints_snoc hG _ _
    | false => rw [if_neg (by decide), if_neg (by decide)]; exact hG
  · dsimp only
    show IntsAre _ (if gives (nn cs i) (runP cs i) then (runP cs i).K else (runP cs i).K ++ [(i : Int) + 1])
    rw [← hb', hxK']
    cases b with
    | true => rw [if_pos rfl, if_pos rfl]; exact hK
    | false => rw [if_neg (by decide), if_neg (by decide), Array.toList_push]; exact ints_snoc hK _ _
  · dsimp only
    show StrsAre _ ((runP cs i).told ++ [if gives (nn cs i) (runP cs i) then ⟨((runP cs i).T.getLastD [] ++ pieceI (nn cs i)).toArray⟩ else FAIL])
    rw [← hb', run_last, Array.toList_push]
    exact strs_snoc hTo _ _
  · dsimp only
    show IntsAre _ ((runP cs i).sizes ++ [3 + (((runP cs i).T.getLastD [] ++ pieceI (nn cs i)).length : Int)])
    rw [run_last, Array.toList_push]
    have e : (3 + preSum (fun j => ((Mine.fa cs j).length + (Mine.fb cs j).length : Int)) (i + 1)) = 3 + ((TT cs i ++ pieceI (nn cs i)).length : Int) := by rw [preSum_TT]; rfl
    rw [e]
    exact ints_snoc hSz _ _
  · dsimp only
    show IntsAre _ ((runP cs i).deps ++ [(runP cs i).deps.getLastD 0 + if gives (nn cs i) (runP cs i) then 1 else -1])
    rw [← hb', Array.toList_push]
    have e : (if (if b = true then 40 else 41) = 40 then (runP cs i).deps.getLastD 0 + 1 else (runP cs i).deps.getLastD 0 - 1) = (runP cs i).deps.getLastD 0 + if b = true then 1 else -1 := by cases b <;> simp <;> omega
    rw [← e]
    exact ints_snoc hD _ _
  · exact osc.trans (osb.trans hos)
  · exact gnc (gnb hgens)
end Kpost_turn
theorem post_turn {w : World} {mean : ExcName → Option Value} {mg mb : Str → Option Value} {g : Heap} {L fa : Nat} {cd : Value} {A : Around}
    {c d r aT aG aK aTo aS aD it : Nat} {t2 t3 : Tok} {its : Array Value} {nC : Nat} {o1 o2 o3 o4 o5 o6 o7 : Obj} {cs : List Int} {os0 : OsState} {i : Nat} {v : Value} {s : Shared} {m : Str → Option Value} {old : Value} {oI : Obj} {xT xG xK xTo xS xD : Array Value} {nT nG nK nTo nS nD nr : Nat} {ritems p1 p2 : Array Value} {tl : List (Addr × Obj)} {h' : Heap} {tk tk' : Nat}
    (hS : St w mean mg mb g) (hA : AOk 59 A) (hfr : A.frames = some [lawEnv L fa cd]) (h0 : 108 < L) (h1 : L + 1 + 1 + 1 + 1 + 1 + 1 + 1 < c) (h2 : c < d) (h3 : d < r) (h4 : r < aT) (h5 : aT < aG) (h6 : aG < aK) (h7 : aK < aTo) (h8 : aTo < aS) (h9 : aS < aD) (h10 : aD < it) (l1 : o1.data = .cell (some (.ref aT))) (l2 : o2.data = .cell (some (.ref aG))) (l3 : o3.data = .cell (some (.ref aK))) (l4 : o4.data = .cell (some (.ref aTo))) (l5 : o5.data = .cell (some (.ref aD)))
    (hits : IntsAre its.toList cs) (hcl : cs.length = 8)
    (P : Post w g L c d r aT aG aK aTo aS aD it t2 t3 its nC o1 o2 o3 o4 o5 o6 o7 cs os0 i s m old oI xT xG xK xTo xS xD nT nG nK nTo nS nD nr ritems p1 p2 tl) (hv : its[i]? = some v)
    (he6 : IsEnum h' (it + 1) it ((i + 1 : Nat) : Int) v) (hit6 : h'.IsListIter it c (i + 1)) (hn6 : h'.Ns L (fun y => if y = "n" then some v else if y = "k" then some (.int i tk) else m y))
    (hk6 : ∀ b o, b ≠ L → b ≠ it + 1 → b ≠ it → s.heap.get? b = some o → h'.get? b = some o) :
    wpAny (model PG w) A (execs pb (lawEnv L fa cd)) (fun f s₂ => Halt (f = .next ∧ PostI w g L c d r aT aG aK aTo aS aD it t2 t3 its nC o1 o2 o3 o4 o5 o6 o7 cs os0 (i + 1) s₂)) (fun _ _ => False) { s with heap := h', toks := tk' } := by
  exact skolem tv0 (fun x => Spost_turn x.1 x.2.1 x.2.2.1 x.2.2.2.1 x.2.2.2.2.1 x.2.2.2.2.2.1 x.2.2.2.2.2.2.1 x.2.2.2.2.2.2.2.1 x.2.2.2.2.2.2.2.2.1 x.2.2.2.2.2.2.2.2.2.1 x.2.2.2.2.2.2.2.2.2.2.1 x.2.2.2.2.2.2.2.2.2.2.2.1 x.2.2.2.2.2.2.2.2.2.2.2.2.1 x.2.2.2.2.2.2.2.2.2.2.2.2.2.1 x.2.2.2.2.2.2.2.2.2.2.2.2.2.2.1 x.2.2.2.2.2.2.2.2.2.2.2.2.2.2.2.1 x.2.2.2.2.2.2.2.2.2.2.2.2.2.2.2.2.1 x.2.2.2.2.2.2.2.2.2.2.2.2.2.2.2.2.2.1 x.2.2.2.2.2.2.2.2.2.2.2.2.2.2.2.2.2.2.1 x.2.2.2.2.2.2.2.2.2.2.2.2.2.2.2.2.2.2.2.1 x.2.2.2.2.2.2.2.2.2.2.2.2.2.2.2.2.2.2.2.2.1 x.2.2.2.2.2.2.2.2.2.2.2.2.2.2.2.2.2.2.2.2.2.1 x.2.2.2.2.2.2.2.2.2.2.2.2.2.2.2.2.2.2.2.2.2.2.1 x.2.2.2.2.2.2.2.2.2.2.2.2.2.2.2.2.2.2.2.2.2.2.2.1 x.2.2.2.2.2.2.2.2.2.2.2.2.2.2.2.2.2.2.2.2.2.2.2.2.1 x.2.2.2.2.2.2.2.2.2.2.2.2.2.2.2.2.2.2.2.2.2.2.2.2.2.1 x.2.2.2.2.2.2.2.2.2.2.2.2.2.2.2.2.2.2.2.2.2.2.2.2.2.2.1 x.2.2.2.2.2.2.2.2.2.2.2.2.2.2.2.2.2.2.2.2.2.2.2.2.2.2.2.1 x.2.2.2.2.2.2.2.2.2.2.2.2.2.2.2.2.2.2.2.2.2.2.2.2.2.2.2.2.1 x.2.2.2.2.2.2.2.2.2.2.2.2.2.2.2.2.2.2.2.2.2.2.2.2.2.2.2.2.2.1 x.2.2.2.2.2.2.2.2.2.2.2.2.2.2.2.2.2.2.2.2.2.2.2.2.2.2.2.2.2.2.1 x.2.2.2.2.2.2.2.2.2.2.2.2.2.2.2.2.2.2.2.2.2.2.2.2.2.2.2.2.2.2.2.1 x.2.2.2.2.2.2.2.2.2.2.2.2.2.2.2.2.2.2.2.2.2.2.2.2.2.2.2.2.2.2.2.2.1 x.2.2.2.2.2.2.2.2.2.2.2.2.2.2.2.2.2.2.2.2.2.2.2.2.2.2.2.2.2.2.2.2.2.1 x.2.2.2.2.2.2.2.2.2.2.2.2.2.2.2.2.2.2.2.2.2.2.2.2.2.2.2.2.2.2.2.2.2.2.1 x.2.2.2.2.2.2.2.2.2.2.2.2.2.2.2.2.2.2.2.2.2.2.2.2.2.2.2.2.2.2.2.2.2.2.2.1 x.2.2.2.2.2.2.2.2.2.2.2.2.2.2.2.2.2.2.2.2.2.2.2.2.2.2.2.2.2.2.2.2.2.2.2.2.1 x.2.2.2.2.2.2.2.2.2.2.2.2.2.2.2.2.2.2.2.2.2.2.2.2.2.2.2.2.2.2.2.2.2.2.2.2.2.1 x.2.2.2.2.2.2.2.2.2.2.2.2.2.2.2.2.2.2.2.2.2.2.2.2.2.2.2.2.2.2.2.2.2.2.2.2.2.2.1 x.2.2.2.2.2.2.2.2.2.2.2.2.2.2.2.2.2.2.2.2.2.2.2.2.2.2.2.2.2.2.2.2.2.2.2.2.2.2.2.1 x.2.2.2.2.2.2.2.2.2.2.2.2.2.2.2.2.2.2.2.2.2.2.2.2.2.2.2.2.2.2.2.2.2.2.2.2.2.2.2.2.1 x.2.2.2.2.2.2.2.2.2.2.2.2.2.2.2.2.2.2.2.2.2.2.2.2.2.2.2.2.2.2.2.2.2.2.2.2.2.2.2.2.2.1 x.2.2.2.2.2.2.2.2.2.2.2.2.2.2.2.2.2.2.2.2.2.2.2.2.2.2.2.2.2.2.2.2.2.2.2.2.2.2.2.2.2.2.1 x.2.2.2.2.2.2.2.2.2.2.2.2.2.2.2.2.2.2.2.2.2.2.2.2.2.2.2.2.2.2.2.2.2.2.2.2.2.2.2.2.2.2.2.1 x.2.2.2.2.2.2.2.2.2.2.2.2.2.2.2.2.2.2.2.2.2.2.2.2.2.2.2.2.2.2.2.2.2.2.2.2.2.2.2.2.2.2.2.2.1 x.2.2.2.2.2.2.2.2.2.2.2.2.2.2.2.2.2.2.2.2.2.2.2.2.2.2.2.2.2.2.2.2.2.2.2.2.2.2.2.2.2.2.2.2.2.1 x.2.2.2.2.2.2.2.2.2.2.2.2.2.2.2.2.2.2.2.2.2.2.2.2.2.2.2.2.2.2.2.2.2.2.2.2.2.2.2.2.2.2.2.2.2.2.1 x.2.2.2.2.2.2.2.2.2.2.2.2.2.2.2.2.2.2.2.2.2.2.2.2.2.2.2.2.2.2.2.2.2.2.2.2.2.2.2.2.2.2.2.2.2.2.2.1 x.2.2.2.2.2.2.2.2.2.2.2.2.2.2.2.2.2.2.2.2.2.2.2.2.2.2.2.2.2.2.2.2.2.2.2.2.2.2.2.2.2.2.2.2.2.2.2.2.1 x.2.2.2.2.2.2.2.2.2.2.2.2.2.2.2.2.2.2.2.2.2.2.2.2.2.2.2.2.2.2.2.2.2.2.2.2.2.2.2.2.2.2.2.2.2.2.2.2.2.1 x.2.2.2.2.2.2.2.2.2.2.2.2.2.2.2.2.2.2.2.2.2.2.2.2.2.2.2.2.2.2.2.2.2.2.2.2.2.2.2.2.2.2.2.2.2.2.2.2.2.2.1 x.2.2.2.2.2.2.2.2.2.2.2.2.2.2.2.2.2.2.2.2.2.2.2.2.2.2.2.2.2.2.2.2.2.2.2.2.2.2.2.2.2.2.2.2.2.2.2.2.2.2.2.1 x.2.2.2.2.2.2.2.2.2.2.2.2.2.2.2.2.2.2.2.2.2.2.2.2.2.2.2.2.2.2.2.2.2.2.2.2.2.2.2.2.2.2.2.2.2.2.2.2.2.2.2.2.1 x.2.2.2.2.2.2.2.2.2.2.2.2.2.2.2.2.2.2.2.2.2.2.2.2.2.2.2.2.2.2.2.2.2.2.2.2.2.2.2.2.2.2.2.2.2.2.2.2.2.2.2.2.2.1 x.2.2.2.2.2.2.2.2.2.2.2.2.2.2.2.2.2.2.2.2.2.2.2.2.2.2.2.2.2.2.2.2.2.2.2.2.2.2.2.2.2.2.2.2.2.2.2.2.2.2.2.2.2.2.1 x.2.2.2.2.2.2.2.2.2.2.2.2.2.2.2.2.2.2.2.2.2.2.2.2.2.2.2.2.2.2.2.2.2.2.2.2.2.2.2.2.2.2.2.2.2.2.2.2.2.2.2.2.2.2.2.1 x.2.2.2.2.2.2.2.2.2.2.2.2.2.2.2.2.2.2.2.2.2.2.2.2.2.2.2.2.2.2.2.2.2.2.2.2.2.2.2.2.2.2.2.2.2.2.2.2.2.2.2.2.2.2.2.2) (by with_unfolding_all exact Kpost_turn.holds) ⟨w, mean, mg, mb, g, L, fa, cd, A, c, d, r, aT, aG, aK, aTo, aS, aD, it, t2, t3, its, nC, o1, o2, o3, o4, o5, o6, o7, cs, os0, i, s, m, old, oI, xT, xG, xK, xTo, xS, xD, nT, nG, nK, nTo, nS, nD, nr, ritems, p1, p2, tl, h', tk, tk'⟩ v hS hA hfr h0 h1 h2 h3 h4 h5 h6 h7 h8 h9 h10 l1 l2 l3 l4 l5 hits hcl P hv he6 hit6 hn6 hk6
end
end Mine
end OfA29
section OfA30
open PySem PySem.W PySem.W.X PyProof.Rows
set_option Elab.async false
set_option maxRecDepth 100000
set_option maxHeartbeats 4000000
set_option pp.maxSteps 3000
namespace Mine
noncomputable section
theorem filled30 : kk.heap_1 = kk.heap_1 ∧ PySem.Challenge.rw_wu0057_01.name = PySem.Challenge.rw_wu0057_01.name := by
  k_fill
  exact ⟨rfl, rfl⟩
local macro_rules | `(tactic| walk_at "eval Name") => `(tactic| (k_here; walk_at "nmX"))
local macro_rules | `(tactic| k_all) => `(tactic| exact OffT.get (by assumption) (by repeat (first | exact List.mem_cons_self .. | refine List.mem_cons_of_mem _ ?_)))

@[reducible] def NV : Type := (World) × (ExcName → Option Value) × (Str → Option Value) × (Str → Option Value) × (Heap) × (Nat) × (Nat) × (Value) × (Nat) × (Option (List Env)) × (Option (List Code)) × (Nat) × (Flow → Shared → Prop) × (Shared) × (Str → Option Value) × (Nat) × (Nat) × (Nat) × (Nat) × (Nat) × (Nat) × (Nat) × (Nat) × (Nat) × (Nat) × (Nat) × (Nat) × (Nat) × (List Value) × (Nat) × (Nat) × (Obj) × (Obj) × (Obj) × (Obj) × (Obj) × (Obj) × (Obj) × (List Int)
theorem nv0 : Nonempty NV := ⟨⟨W0, fun _ => none, fun _ => none, fun _ => none, {}, 0, 0, .none, 0, none, none, 0, fun _ _ => True, {}, fun _ => none, 0, 0, 0, 0, 0, 0, 0, 0, 0, 0, 0, 0, 0, [], 0, 0, { cls := .none, data := .fields #[] }, { cls := .none, data := .fields #[] }, { cls := .none, data := .fields #[] }, { cls := .none, data := .fields #[] }, { cls := .none, data := .fields #[] }, { cls := .none, data := .fields #[] }, { cls := .none, data := .fields #[] }, []⟩⟩
noncomputable def Ss9 (w : World) (mean : ExcName → Option Value) (mg : Str → Option Value) (mb : Str → Option Value) (g : Heap) (L : Nat) (fa : Nat) (cd : Value) (dp : Nat) (fr : Option (List Env)) (gd : Option (List Code)) (un : Nat) (Q : Flow → Shared → Prop) (s : Shared) (m : Str → Option Value) (c : Nat) (d : Nat) (r : Nat) (aT : Nat) (aG : Nat) (aK : Nat) (aTo : Nat) (aS : Nat) (aD : Nat) (k1 : Nat) (k2 : Nat) (t2 : Tok) (t3 : Tok) (its : List Value) (nC : Nat) (nr : Nat) (o1 : Obj) (o2 : Obj) (o3 : Obj) (o4 : Obj) (o5 : Obj) (o6 : Obj) (o7 : Obj) (cs : List Int) : Prop := ∀ (hS : St w mean mg mb g) (hA : AOk 59 (Around.mk none dp fr gd un)) (hfr : (Around.mk none dp fr gd un).frames = some [lawEnv L fa cd]) (F : Fr g L s.heap m) (mc : m "cells" = some (.ref c)) (mr : m "road" = some (.ref r)) (ms : m "sizes" = some (.ref aS)) (h0 : 108 < L) (h1 : L + 1 + 1 + 1 + 1 + 1 + 1 + 1 < c) (h2 : c < d) (h3 : d < r) (h4 : r < aT) (h5 : aT < aG) (h6 : aG < aK) (h7 : aK < aTo) (h8 : aTo < aS) (h9 : aS < aD) (l1 : o1.data = .cell (some (.ref aT))) (l2 : o2.data = .cell (some (.ref aG))) (l3 : o3.data = .cell (some (.ref aK))) (l4 : o4.data = .cell (some (.ref aTo))) (l5 : o5.data = .cell (some (.ref aD))) (hits : IntsAre its cs) (hcl : cs.length = 8) (hgens : AllBare s.gens) (N : News g L s.heap [(aD, W.listOf #[.int 0 k2] 0), (aS, W.listOf #[] 0), (aTo, W.listOf #[] 0), (aK, W.listOf #[] 0), (aG, W.listOf #[] 0), (aT, W.listOf #[.str "" k1] 0), (r, roadObj d #[] nr), (d, fullDict w t2 t3), (c, W.listOf its.toArray nC), (L + 1 + 1 + 1 + 1 + 1 + 1 + 1, o7), (L + 1 + 1 + 1 + 1 + 1 + 1, o6), (L + 1 + 1 + 1 + 1 + 1, o5), (L + 1 + 1 + 1 + 1, o4), (L + 1 + 1 + 1, o3), (L + 1 + 1, o2), (L + 1, o1), (101, tabO #[]), (108, tabO #[])]) (hQ : ∀ s' m xT xG xK xTo xS xD nT nG nK nTo nS nD p1 p2, Fr g L s'.heap m → m "sizes" = some (.ref aS) → News g L s'.heap [(aD, W.listOf xD nD), (aS, W.listOf xS nS), (aTo, W.listOf xTo nTo), (aK, W.listOf xK nK), (aG, W.listOf xG nG), (aT, W.listOf xT nT), (L + 1 + 1 + 1 + 1 + 1 + 1 + 1, o7), (L + 1 + 1 + 1 + 1 + 1 + 1, o6), (L + 1 + 1 + 1 + 1 + 1, o5), (L + 1 + 1 + 1 + 1, o4), (L + 1 + 1 + 1, o3), (L + 1 + 1, o2), (L + 1, o1), (101, tabO p1), (108, tabO p2)] →
      StrsAre xT.toList ((runP cs 8).T.map mkS) → IntsAre xG.toList (runP cs 8).G → IntsAre xK.toList (runP cs 8).K → StrsAre xTo.toList (runP cs 8).told → IntsAre xS.toList (runP cs 8).sizes → IntsAre xD.toList (runP cs 8).deps → s'.os = s.os → AllBare s'.gens → Q .next s'),
    wpAny (model PG w) (Around.mk none dp fr gd un) (exec (st 9) (lawEnv L fa cd)) Q (fun _ _ => False) s
noncomputable def cs9 : NV := @Classical.epsilon NV nv0 fun x => ¬ Ss9 x.1 x.2.1 x.2.2.1 x.2.2.2.1 x.2.2.2.2.1 x.2.2.2.2.2.1 x.2.2.2.2.2.2.1 x.2.2.2.2.2.2.2.1 x.2.2.2.2.2.2.2.2.1 x.2.2.2.2.2.2.2.2.2.1 x.2.2.2.2.2.2.2.2.2.2.1 x.2.2.2.2.2.2.2.2.2.2.2.1 x.2.2.2.2.2.2.2.2.2.2.2.2.1 x.2.2.2.2.2.2.2.2.2.2.2.2.2.1 x.2.2.2.2.2.2.2.2.2.2.2.2.2.2.1 x.2.2.2.2.2.2.2.2.2.2.2.2.2.2.2.1 x.2.2.2.2.2.2.2.2.2.2.2.2.2.2.2.2.1 x.2.2.2.2.2.2.2.2.2.2.2.2.2.2.2.2.2.1 x.2.2.2.2.2.2.2.2.2.2.2.2.2.2.2.2.2.2.1 x.2.2.2.2.2.2.2.2.2.2.2.2.2.2.2.2.2.2.2.1 x.2.2.2.2.2.2.2.2.2.2.2.2.2.2.2.2.2.2.2.2.1 x.2.2.2.2.2.2.2.2.2.2.2.2.2.2.2.2.2.2.2.2.2.1 x.2.2.2.2.2.2.2.2.2.2.2.2.2.2.2.2.2.2.2.2.2.2.1 x.2.2.2.2.2.2.2.2.2.2.2.2.2.2.2.2.2.2.2.2.2.2.2.1 x.2.2.2.2.2.2.2.2.2.2.2.2.2.2.2.2.2.2.2.2.2.2.2.2.1 x.2.2.2.2.2.2.2.2.2.2.2.2.2.2.2.2.2.2.2.2.2.2.2.2.2.1 x.2.2.2.2.2.2.2.2.2.2.2.2.2.2.2.2.2.2.2.2.2.2.2.2.2.2.1 x.2.2.2.2.2.2.2.2.2.2.2.2.2.2.2.2.2.2.2.2.2.2.2.2.2.2.2.1 x.2.2.2.2.2.2.2.2.2.2.2.2.2.2.2.2.2.2.2.2.2.2.2.2.2.2.2.2.1 x.2.2.2.2.2.2.2.2.2.2.2.2.2.2.2.2.2.2.2.2.2.2.2.2.2.2.2.2.2.1 x.2.2.2.2.2.2.2.2.2.2.2.2.2.2.2.2.2.2.2.2.2.2.2.2.2.2.2.2.2.2.1 x.2.2.2.2.2.2.2.2.2.2.2.2.2.2.2.2.2.2.2.2.2.2.2.2.2.2.2.2.2.2.2.1 x.2.2.2.2.2.2.2.2.2.2.2.2.2.2.2.2.2.2.2.2.2.2.2.2.2.2.2.2.2.2.2.2.1 x.2.2.2.2.2.2.2.2.2.2.2.2.2.2.2.2.2.2.2.2.2.2.2.2.2.2.2.2.2.2.2.2.2.1 x.2.2.2.2.2.2.2.2.2.2.2.2.2.2.2.2.2.2.2.2.2.2.2.2.2.2.2.2.2.2.2.2.2.2.1 x.2.2.2.2.2.2.2.2.2.2.2.2.2.2.2.2.2.2.2.2.2.2.2.2.2.2.2.2.2.2.2.2.2.2.2.1 x.2.2.2.2.2.2.2.2.2.2.2.2.2.2.2.2.2.2.2.2.2.2.2.2.2.2.2.2.2.2.2.2.2.2.2.2.1 x.2.2.2.2.2.2.2.2.2.2.2.2.2.2.2.2.2.2.2.2.2.2.2.2.2.2.2.2.2.2.2.2.2.2.2.2.2.1 x.2.2.2.2.2.2.2.2.2.2.2.2.2.2.2.2.2.2.2.2.2.2.2.2.2.2.2.2.2.2.2.2.2.2.2.2.2.2
namespace Ks9
@[irreducible] noncomputable def w : World := cs9.1
@[irreducible] noncomputable def mean : ExcName → Option Value := cs9.2.1
@[irreducible] noncomputable def mg : Str → Option Value := cs9.2.2.1
@[irreducible] noncomputable def mb : Str → Option Value := cs9.2.2.2.1
@[irreducible] noncomputable def g : Heap := cs9.2.2.2.2.1
@[irreducible] noncomputable def L : Nat := cs9.2.2.2.2.2.1
@[irreducible] noncomputable def fa : Nat := cs9.2.2.2.2.2.2.1
@[irreducible] noncomputable def cd : Value := cs9.2.2.2.2.2.2.2.1
@[irreducible] noncomputable def dp : Nat := cs9.2.2.2.2.2.2.2.2.1
@[irreducible] noncomputable def fr : Option (List Env) := cs9.2.2.2.2.2.2.2.2.2.1
@[irreducible] noncomputable def gd : Option (List Code) := cs9.2.2.2.2.2.2.2.2.2.2.1
@[irreducible] noncomputable def un : Nat := cs9.2.2.2.2.2.2.2.2.2.2.2.1
@[irreducible] noncomputable def Q : Flow → Shared → Prop := cs9.2.2.2.2.2.2.2.2.2.2.2.2.1
@[irreducible] noncomputable def s : Shared := cs9.2.2.2.2.2.2.2.2.2.2.2.2.2.1
@[irreducible] noncomputable def m : Str → Option Value := cs9.2.2.2.2.2.2.2.2.2.2.2.2.2.2.1
@[irreducible] noncomputable def c : Nat := cs9.2.2.2.2.2.2.2.2.2.2.2.2.2.2.2.1
@[irreducible] noncomputable def d : Nat := cs9.2.2.2.2.2.2.2.2.2.2.2.2.2.2.2.2.1
@[irreducible] noncomputable def r : Nat := cs9.2.2.2.2.2.2.2.2.2.2.2.2.2.2.2.2.2.1
@[irreducible] noncomputable def aT : Nat := cs9.2.2.2.2.2.2.2.2.2.2.2.2.2.2.2.2.2.2.1
@[irreducible] noncomputable def aG : Nat := cs9.2.2.2.2.2.2.2.2.2.2.2.2.2.2.2.2.2.2.2.1
@[irreducible] noncomputable def aK : Nat := cs9.2.2.2.2.2.2.2.2.2.2.2.2.2.2.2.2.2.2.2.2.1
@[irreducible] noncomputable def aTo : Nat := cs9.2.2.2.2.2.2.2.2.2.2.2.2.2.2.2.2.2.2.2.2.2.1
@[irreducible] noncomputable def aS : Nat := cs9.2.2.2.2.2.2.2.2.2.2.2.2.2.2.2.2.2.2.2.2.2.2.1
@[irreducible] noncomputable def aD : Nat := cs9.2.2.2.2.2.2.2.2.2.2.2.2.2.2.2.2.2.2.2.2.2.2.2.1
@[irreducible] noncomputable def k1 : Nat := cs9.2.2.2.2.2.2.2.2.2.2.2.2.2.2.2.2.2.2.2.2.2.2.2.2.1
@[irreducible] noncomputable def k2 : Nat := cs9.2.2.2.2.2.2.2.2.2.2.2.2.2.2.2.2.2.2.2.2.2.2.2.2.2.1
@[irreducible] noncomputable def t2 : Tok := cs9.2.2.2.2.2.2.2.2.2.2.2.2.2.2.2.2.2.2.2.2.2.2.2.2.2.2.1
@[irreducible] noncomputable def t3 : Tok := cs9.2.2.2.2.2.2.2.2.2.2.2.2.2.2.2.2.2.2.2.2.2.2.2.2.2.2.2.1
@[irreducible] noncomputable def its : List Value := cs9.2.2.2.2.2.2.2.2.2.2.2.2.2.2.2.2.2.2.2.2.2.2.2.2.2.2.2.2.1
@[irreducible] noncomputable def nC : Nat := cs9.2.2.2.2.2.2.2.2.2.2.2.2.2.2.2.2.2.2.2.2.2.2.2.2.2.2.2.2.2.1
@[irreducible] noncomputable def nr : Nat := cs9.2.2.2.2.2.2.2.2.2.2.2.2.2.2.2.2.2.2.2.2.2.2.2.2.2.2.2.2.2.2.1
@[irreducible] noncomputable def o1 : Obj := cs9.2.2.2.2.2.2.2.2.2.2.2.2.2.2.2.2.2.2.2.2.2.2.2.2.2.2.2.2.2.2.2.1
@[irreducible] noncomputable def o2 : Obj := cs9.2.2.2.2.2.2.2.2.2.2.2.2.2.2.2.2.2.2.2.2.2.2.2.2.2.2.2.2.2.2.2.2.1
@[irreducible] noncomputable def o3 : Obj := cs9.2.2.2.2.2.2.2.2.2.2.2.2.2.2.2.2.2.2.2.2.2.2.2.2.2.2.2.2.2.2.2.2.2.1
@[irreducible] noncomputable def o4 : Obj := cs9.2.2.2.2.2.2.2.2.2.2.2.2.2.2.2.2.2.2.2.2.2.2.2.2.2.2.2.2.2.2.2.2.2.2.1
@[irreducible] noncomputable def o5 : Obj := cs9.2.2.2.2.2.2.2.2.2.2.2.2.2.2.2.2.2.2.2.2.2.2.2.2.2.2.2.2.2.2.2.2.2.2.2.1
@[irreducible] noncomputable def o6 : Obj := cs9.2.2.2.2.2.2.2.2.2.2.2.2.2.2.2.2.2.2.2.2.2.2.2.2.2.2.2.2.2.2.2.2.2.2.2.2.1
@[irreducible] noncomputable def o7 : Obj := cs9.2.2.2.2.2.2.2.2.2.2.2.2.2.2.2.2.2.2.2.2.2.2.2.2.2.2.2.2.2.2.2.2.2.2.2.2.2.1
@[irreducible] noncomputable def cs : List Int := cs9.2.2.2.2.2.2.2.2.2.2.2.2.2.2.2.2.2.2.2.2.2.2.2.2.2.2.2.2.2.2.2.2.2.2.2.2.2.2
theorem holds : Ss9 w mean mg mb g L fa cd dp fr gd un Q s m c d r aT aG aK aTo aS aD k1 k2 t2 t3 its nC nr o1 o2 o3 o4 o5 o6 o7 cs := by
  intro hS hA hfr F mc mr ms h0 h1 h2 h3 h4 h5 h6 h7 h8 h9 l1 l2 l3 l4 l5 hits hcl hgens N hQ
  have hDec := Dec.cons h9 (.cons h8 (.cons h7 (.cons h6 (.cons h5 (.cons h4 (.cons h3 (.cons h2 (.cons h1 (decL h0)))))))))
  have X := hS.X
  have T := hS.T
  have epb : pb = match st 9 with | .For _ _ b _ _ => b | _ => [] := rfl
  conv at epb in (st 9) => whnf
  dsimp only at epb
  dsimp only [lawEnv]
  conv in (st 9) => whnf
  rw [← epb]
  refine wpAny_For ?_
  conv in (occs := 1) (DefRec.scope lawRec) => whnf
  k_steps
  have hcO := N.get (a := c) (o := W.listOf its.toArray nC) (by k_mem)
  refine call_enumerate_list (l := c) (items := its.toArray) ⟨_, hcO, rfl, _, rfl⟩ fun hh2 he hit hz hk => ?_
  refine wpAny_pyIter_enum he ?_
  obtain ⟨oI, eI, hoI⟩ := iterO_of hit
  have f1 := F.keeps hk
  have q1 := fresh_of F (Nat.le_refl s.heap.objs.size)
  have q2 := fresh_of F (Nat.le_succ s.heap.objs.size)
  have n0 := N.grown hk
  have n1 : News g L hh2 ((s.heap.objs.size + 1, enumO s.heap.objs.size 0 .none) :: (s.heap.objs.size, oI) :: [(aD, W.listOf #[.int 0 k2] 0), (aS, W.listOf #[] 0), (aTo, W.listOf #[] 0), (aK, W.listOf #[] 0), (aG, W.listOf #[] 0), (aT, W.listOf #[.str "" k1] 0), (r, roadObj d #[] nr), (d, fullDict w t2 t3), (c, W.listOf its.toArray nC), (L + 1 + 1 + 1 + 1 + 1 + 1 + 1, o7), (L + 1 + 1 + 1 + 1 + 1 + 1, o6), (L + 1 + 1 + 1 + 1 + 1, o5), (L + 1 + 1 + 1 + 1, o4), (L + 1 + 1 + 1, o3), (L + 1 + 1, o2), (L + 1, o1), (101, tabO #[]), (108, tabO #[])]) := by
    intro p hp
    rcases List.mem_cons.mp hp with rfl | hp
    · exact ⟨he, q2⟩
    · rcases List.mem_cons.mp hp with rfl | hp
      · exact ⟨eI, q1⟩
      · exact n0 p hp
  have h10 : aD < s.heap.objs.size := Heap.lt_size (N.get (a := aD) (o := W.listOf #[.int 0 k2] 0) (by k_mem))
  have hLi : L < s.heap.objs.size := F.ns.lt
  clear n0 q1 q2 hz he hit eI hcO F N hk
  generalize s.heap.objs.size = it at *
  have hDec2 := Dec.cons h10 hDec
  clear hDec
  have hlen : its.toArray.size = 8 := by rw [List.size_toArray, ints_len hits, hcl]
  refine enum_for (A := { depth := dp, frames := fr, guards := gd, units := un }) (env := lawEnv L fa cd) (l := c) (it := it) (e := it + 1) (items := its.toArray) rfl (by with_unfolding_all rfl) (by with_unfolding_all rfl) (by with_unfolding_all rfl) (Nat.ne_of_gt (Nat.lt_succ_self _)) (Nat.ne_of_gt (Nat.lt_succ_of_lt hLi)) (Nat.ne_of_gt hLi) (neN (by omega)) (neN (by omega))
    (PostI w g L c d r aT aG aK aTo aS aD it t2 t3 its.toArray nC o1 o2 o3 o4 o5 o6 o7 cs s.os) ?_ ?_ ?_ ?_
  · rintro i s' ⟨D, P⟩
    refine ⟨⟨D.old, P.N.get (List.mem_cons_self ..)⟩, P.hoI _ _ (P.N.get (List.mem_cons_of_mem _ (List.mem_cons_self ..))), ⟨_, P.N.get (a := c) (o := W.listOf its.toArray nC) (by k_mem), rfl, _, rfl⟩, ⟨_, P.F.ns⟩, by rw [hlen]; exact P.le⟩
  · rintro i v m0 s' hh6 tk6 tk7 ⟨D, P⟩ hv hn0 he6 hit6 hn6 hk6
    obtain rfl := ns_unique P.F.ns hn0
    exact post_turn hS hA hfr h0 h1 h2 h3 h4 h5 h6 h7 h8 h9 h10 l1 l2 l3 l4 l5 (by simpa using hits) hcl P hv he6 hit6 hn6 hk6
  · have e0 : PySem.Str.ofString "" = mkS [] := by decide +kernel
    refine ⟨⟨m, .none, oI, _, _, _, _, _, _, _, _, _, _, _, _, _, _, _, _, []⟩, ⟨f1, mr, ms, n1, hoI, (fun p hp => by cases hp), ?_, .nil, .nil, .nil, .nil, .cons 0 k2 .nil, ⟨rfl, fun _ => 0, fun _ => 0, fun _ => 0, fun j hj => absurd hj (Nat.not_lt_zero _)⟩, trivial, trivial, rfl, hgens, Nat.zero_le _⟩⟩
    show StrsAre [Value.str (PySem.Str.ofString "") k1] [mkS []]
    rw [e0]
    exact .cons _ _ .nil
  · rintro s' h6' ⟨D, P⟩ hk6
    rw [hlen] at P
    have hne : ∀ p ∈ ((aD, W.listOf D.xD D.nD) :: (aS, W.listOf D.xS D.nS) :: (aTo, W.listOf D.xTo D.nTo) :: (aK, W.listOf D.xK D.nK) :: (aG, W.listOf D.xG D.nG) :: (aT, W.listOf D.xT D.nT) :: (r, roadObj d D.ritems D.nr) :: (d, fullDict w t2 t3) :: (c, W.listOf its.toArray nC) :: (L + 1 + 1 + 1 + 1 + 1 + 1 + 1, o7) :: (L + 1 + 1 + 1 + 1 + 1 + 1, o6) :: (L + 1 + 1 + 1 + 1 + 1, o5) :: (L + 1 + 1 + 1 + 1, o4) :: (L + 1 + 1 + 1, o3) :: (L + 1 + 1, o2) :: (L + 1, o1) :: (101, tabO D.p1) :: (108, tabO D.p2) :: D.tl), p.1 ≠ it := by
      exact news_off (P := fun a => a ≠ it) (l := [(aD, W.listOf D.xD D.nD), (aS, W.listOf D.xS D.nS), (aTo, W.listOf D.xTo D.nTo), (aK, W.listOf D.xK D.nK), (aG, W.listOf D.xG D.nG), (aT, W.listOf D.xT D.nT), (r, roadObj d D.ritems D.nr), (d, fullDict w t2 t3), (c, W.listOf its.toArray nC), (L + 1 + 1 + 1 + 1 + 1 + 1 + 1, o7), (L + 1 + 1 + 1 + 1 + 1 + 1, o6), (L + 1 + 1 + 1 + 1 + 1, o5), (L + 1 + 1 + 1 + 1, o4), (L + 1 + 1 + 1, o3), (L + 1 + 1, o2), (L + 1, o1), (101, tabO D.p1), (108, tabO D.p2)]) (off_of (pre := [aD, aS, aTo, aK, aG, aT, r, d, c, L + 1 + 1 + 1 + 1 + 1 + 1 + 1, L + 1 + 1 + 1 + 1 + 1 + 1, L + 1 + 1 + 1 + 1 + 1, L + 1 + 1 + 1 + 1, L + 1 + 1 + 1, L + 1 + 1, L + 1]) fun b hb => Nat.ne_of_lt (hDec2.head b hb)) fun p hp => P.hO p hp _ (List.mem_cons_of_mem _ (List.mem_cons_self ..))
    obtain ⟨F6, N6⟩ := end_fr P.F P.N hne hk6
    refine hQ _ D.m D.xT D.xG D.xK D.xTo D.xS D.xD D.nT D.nG D.nK D.nTo D.nS D.nD D.p1 D.p2 F6 P.ms (news_sub N6 ?_) P.hT P.hG P.hK P.hTo P.hSz P.hD P.os P.gens
    refine List.Sublist.subset ?_
    repeat (first | exact List.nil_sublist _ | refine List.Sublist.cons₂ _ ?_ | refine List.Sublist.cons _ ?_)
end Ks9
theorem s9 {w : World} {mean : ExcName → Option Value} {mg mb : Str → Option Value} {g : Heap} {L fa : Nat} {cd : Value} {A : Around} {Q : Flow → Shared → Prop} {s : Shared} {m : Str → Option Value}
    {c d r aT aG aK aTo aS aD k1 k2 : Nat} {t2 t3 : Tok} {its : List Value} {nC nr : Nat} {o1 o2 o3 o4 o5 o6 o7 : Obj} {cs : List Int}
    (hS : St w mean mg mb g) (hA : AOk 59 A) (hfr : A.frames = some [lawEnv L fa cd]) (F : Fr g L s.heap m) (mc : m "cells" = some (.ref c)) (mr : m "road" = some (.ref r)) (ms : m "sizes" = some (.ref aS)) (h0 : 108 < L) (h1 : L + 1 + 1 + 1 + 1 + 1 + 1 + 1 < c) (h2 : c < d) (h3 : d < r) (h4 : r < aT) (h5 : aT < aG) (h6 : aG < aK) (h7 : aK < aTo) (h8 : aTo < aS) (h9 : aS < aD) (l1 : o1.data = .cell (some (.ref aT))) (l2 : o2.data = .cell (some (.ref aG))) (l3 : o3.data = .cell (some (.ref aK))) (l4 : o4.data = .cell (some (.ref aTo))) (l5 : o5.data = .cell (some (.ref aD)))
    (hits : IntsAre its cs) (hcl : cs.length = 8) (hgens : AllBare s.gens)
    (N : News g L s.heap [(aD, W.listOf #[.int 0 k2] 0), (aS, W.listOf #[] 0), (aTo, W.listOf #[] 0), (aK, W.listOf #[] 0), (aG, W.listOf #[] 0), (aT, W.listOf #[.str "" k1] 0), (r, roadObj d #[] nr), (d, fullDict w t2 t3), (c, W.listOf its.toArray nC), (L + 1 + 1 + 1 + 1 + 1 + 1 + 1, o7), (L + 1 + 1 + 1 + 1 + 1 + 1, o6), (L + 1 + 1 + 1 + 1 + 1, o5), (L + 1 + 1 + 1 + 1, o4), (L + 1 + 1 + 1, o3), (L + 1 + 1, o2), (L + 1, o1), (101, tabO #[]), (108, tabO #[])])
    (hQ : ∀ s' m xT xG xK xTo xS xD nT nG nK nTo nS nD p1 p2, Fr g L s'.heap m → m "sizes" = some (.ref aS) → News g L s'.heap [(aD, W.listOf xD nD), (aS, W.listOf xS nS), (aTo, W.listOf xTo nTo), (aK, W.listOf xK nK), (aG, W.listOf xG nG), (aT, W.listOf xT nT), (L + 1 + 1 + 1 + 1 + 1 + 1 + 1, o7), (L + 1 + 1 + 1 + 1 + 1 + 1, o6), (L + 1 + 1 + 1 + 1 + 1, o5), (L + 1 + 1 + 1 + 1, o4), (L + 1 + 1 + 1, o3), (L + 1 + 1, o2), (L + 1, o1), (101, tabO p1), (108, tabO p2)] →
      StrsAre xT.toList ((runP cs 8).T.map mkS) → IntsAre xG.toList (runP cs 8).G → IntsAre xK.toList (runP cs 8).K → StrsAre xTo.toList (runP cs 8).told → IntsAre xS.toList (runP cs 8).sizes → IntsAre xD.toList (runP cs 8).deps → s'.os = s.os → AllBare s'.gens → Q .next s') :
    wpAny (model PG w) A (exec (st 9) (lawEnv L fa cd)) Q (fun _ _ => False) s := by
  obtain ⟨hd0, dp, fr, gd, un⟩ := A
  obtain rfl : hd0 = none := hA.hd
  exact skolem nv0 (fun x => Ss9 x.1 x.2.1 x.2.2.1 x.2.2.2.1 x.2.2.2.2.1 x.2.2.2.2.2.1 x.2.2.2.2.2.2.1 x.2.2.2.2.2.2.2.1 x.2.2.2.2.2.2.2.2.1 x.2.2.2.2.2.2.2.2.2.1 x.2.2.2.2.2.2.2.2.2.2.1 x.2.2.2.2.2.2.2.2.2.2.2.1 x.2.2.2.2.2.2.2.2.2.2.2.2.1 x.2.2.2.2.2.2.2.2.2.2.2.2.2.1 x.2.2.2.2.2.2.2.2.2.2.2.2.2.2.1 x.2.2.2.2.2.2.2.2.2.2.2.2.2.2.2.1 x.2.2.2.2.2.2.2.2.2.2.2.2.2.2.2.2.1 x.2.2.2.2.2.2.2.2.2.2.2.2.2.2.2.2.2.1 x.2.2.2.2.2.2.2.2.2.2.2.2.2.2.2.2.2.2.1 x.2.2.2.2.2.2.2.2.2.2.2.2.2.2.2.2.2.2.2.1 x.2.2.2.2.2.2.2.2.2.2.2.2.2.2.2.2.2.2.2.2.1 x.2.2.2.2.2.2.2.2.2.2.2.2.2.2.2.2.2.2.2.2.2.1 x.2.2.2.2.2.2.2.2.2.2.2.2.2.2.2.2.2.2.2.2.2.2.1 x.2.2.2.2.2.2.2.2.2.2.2.2.2.2.2.2.2.2.2.2.2.2.2.1 x.2.2.2.2.2.2.2.2.2.2.2.2.2.2.2.2.2.2.2.2.2.2.2.2.1 x.2.2.2.2.2.2.2.2.2.2.2.2.2.2.2.2.2.2.2.2.2.2.2.2.2.1 x.2.2.2.2.2.2.2.2.2.2.2.2.2.2.2.2.2.2.2.2.2.2.2.2.2.2.1 x.2.2.2.2.2.2.2.2.2.2.2.2.2.2.2.2.2.2.2.2.2.2.2.2.2.2.2.1 x.2.2.2.2.2.2.2.2.2.2.2.2.2.2.2.2.2.2.2.2.2.2.2.2.2.2.2.2.1 x.2.2.2.2.2.2.2.2.2.2.2.2.2.2.2.2.2.2.2.2.2.2.2.2.2.2.2.2.2.1 x.2.2.2.2.2.2.2.2.2.2.2.2.2.2.2.2.2.2.2.2.2.2.2.2.2.2.2.2.2.2.1 x.2.2.2.2.2.2.2.2.2.2.2.2.2.2.2.2.2.2.2.2.2.2.2.2.2.2.2.2.2.2.2.1 x.2.2.2.2.2.2.2.2.2.2.2.2.2.2.2.2.2.2.2.2.2.2.2.2.2.2.2.2.2.2.2.2.1 x.2.2.2.2.2.2.2.2.2.2.2.2.2.2.2.2.2.2.2.2.2.2.2.2.2.2.2.2.2.2.2.2.2.1 x.2.2.2.2.2.2.2.2.2.2.2.2.2.2.2.2.2.2.2.2.2.2.2.2.2.2.2.2.2.2.2.2.2.2.1 x.2.2.2.2.2.2.2.2.2.2.2.2.2.2.2.2.2.2.2.2.2.2.2.2.2.2.2.2.2.2.2.2.2.2.2.1 x.2.2.2.2.2.2.2.2.2.2.2.2.2.2.2.2.2.2.2.2.2.2.2.2.2.2.2.2.2.2.2.2.2.2.2.2.1 x.2.2.2.2.2.2.2.2.2.2.2.2.2.2.2.2.2.2.2.2.2.2.2.2.2.2.2.2.2.2.2.2.2.2.2.2.2.1 x.2.2.2.2.2.2.2.2.2.2.2.2.2.2.2.2.2.2.2.2.2.2.2.2.2.2.2.2.2.2.2.2.2.2.2.2.2.2) (by with_unfolding_all exact Ks9.holds) ⟨w, mean, mg, mb, g, L, fa, cd, dp, fr, gd, un, Q, s, m, c, d, r, aT, aG, aK, aTo, aS, aD, k1, k2, t2, t3, its, nC, nr, o1, o2, o3, o4, o5, o6, o7, cs⟩ hS hA hfr F mc mr ms h0 h1 h2 h3 h4 h5 h6 h7 h8 h9 l1 l2 l3 l4 l5 hits hcl hgens N hQ
end
end Mine
end OfA30
section OfA31
open PySem PySem.W PySem.W.X PyProof.Rows
set_option Elab.async false
set_option maxRecDepth 100000
set_option maxHeartbeats 4000000
set_option pp.maxSteps 3000
namespace Mine
noncomputable section
section
variable {M : Model} {A : Around} {E : Value → Shared → Prop} {s : Shared}
theorem newCompEnv {scope : Scope} {cl : List (Str × Addr)} {env : Env} {globals : Addr} {qual : Str} {Q : Env → Shared → Prop}
    (hQ : Q { scope := scope, locals := s.heap.objs.size, globals := globals, cells := cellsFrom (s.heap.objs.size + 1) scope.names cl, qual := qual, func := none, code := env.code, frame := env.frame, builtins := env.builtins }
      { s with heap := pushCells (s.heap.push { cls := .type "dict", data := .dict #[] }) scope.names }) :
    wpAny M A (newFunctionEnv scope globals cl [] qual none .none (some env)) Q E s := by
  simp only [newFunctionEnv, Option.isSome_some, if_true]
  refine wpAny_bind (wpAny_alloc ?_)
  refine wpAny_bind (wpAny_layCells _ (fun name kind cells => by cases hkc : kind == NameKind.cell <;> simp [hkc]) _ _ _ _ ?_)
  rw [show ({ s with heap := s.heap.push { cls := .type "dict", data := .dict #[] } } : Shared).heap.objs.size = s.heap.objs.size + 1 from Heap.size_push ..]
  simp only [List.forIn_nil]
  refine wpAny_bind (wpAny_pure ?_)
  exact wpAny_pure hQ
end
@[reducible] noncomputable def compEnvW (scope : Scope) (cl : List (Str × Addr)) (C : Addr) (env : Env) : Env :=
  { scope := relabel scope env, locals := C, globals := env.globals, cells := cellsFrom (C + 1) scope.names cl, qual := env.qual, func := none, code := env.code, frame := env.frame, builtins := env.builtins }
noncomputable def testsOf (ifs : List Expr) (cenv : Env) : Sem Bool := forIn ifs true fun c r => if r = true then do let ok ← isTrue c cenv (eval c cenv); pure (ForInStep.yield ok) else pure (ForInStep.yield r)

/-- the state that a comprehension's turns hand on -/
@[reducible] noncomputable def CompL (s₂ : Shared) (D n : Nat) (wr : List Addr) (St : Nat → Heap → Prop) (J : List Addr → Nat → List Value → Heap → Prop) (k : Nat) (s' : Shared) : Prop :=
  ∃ H tk m₂ ys i, s' = { s₂ with heap := H, toks := tk } ∧ St i H ∧ H.PlainList D ys.toArray ∧ H.Ns (D + 1) m₂ ∧ J (D :: (D + 1) :: wr) i ys H ∧ i ≤ n ∧ ys.length ≤ i ∧ k = n + 1 - i ∧ (∀ b o, b ∉ wr → s₂.heap.get? b = some o → H.get? b = some o)
@[reducible] noncomputable def CompC (s₂ : Shared) (D n : Nat) (wr : List Addr) (St : Nat → Heap → Prop) (J : List Addr → Nat → List Value → Heap → Prop) (k : Nat) (s' : Shared) : Prop :=
  ∃ H tk m₂ ys i, s' = { s₂ with heap := H, toks := tk } ∧ St i H ∧ H.PlainList D ys.toArray ∧ H.Ns (D + 1) m₂ ∧ (∃ ov, H.IsCell (D + 1 + 1) ov) ∧ J (D :: (D + 1) :: (D + 1 + 1) :: wr) i ys H ∧ i ≤ n ∧ ys.length ≤ i ∧ k = n + 1 - i ∧ (∀ b o, b ∉ wr → s₂.heap.get? b = some o → H.get? b = some o)
structure TurnsL (prog : Program) (w : World) (A : Around) (env : Env) (scope : Scope) (cl : List (Str × Addr)) (x : Str) (ifs : List Expr) (elt : Expr) (s₂ : Shared) (wr : List Addr) (n : Nat) (P : Nat → Value → Prop) (J : List Addr → Nat → List Value → Heap → Prop) : Prop where
  start : ∀ X H, J X 0 [] H
  stable : ∀ X i ys H H', J X i ys H → (∀ b o, b ∉ X → H.get? b = some o → H'.get? b = some o) → J X i ys H'
  turn : ∀ D C, s₂.heap.objs.size ≤ D → D < C → ∀ i v ys H tk m₂, i < n → P i v → J (D :: C :: wr) i ys H → H.Ns C m₂ → m₂ x = some v → (∀ b o, b ∉ wr → s₂.heap.get? b = some o → H.get? b = some o) → (∀ a ∈ (D :: C :: wr), ∃ o, H.get? a = some o) →
    wpAny (model prog w) A (testsOf ifs (compEnvW scope cl C env)) (fun ok s' => ∃ h' tk', s' = { s₂ with heap := h', toks := tk' } ∧ Keep H h' ∧
      if ok = true then wpAny (model prog w) A (eval elt (compEnvW scope cl C env)) (fun y s'' => ∃ h'' tk'', s'' = { s₂ with heap := h'', toks := tk'' } ∧ Keep h' h'' ∧ J (D :: C :: wr) (i + 1) (ys ++ [y]) h'') (fun _ _ => False) s' else J (D :: C :: wr) (i + 1) ys h') (fun _ _ => False) { s₂ with heap := H, toks := tk }
@[reducible] def CV : Type := (Program) × (World) × (Around) × (Value → Shared → Prop) × (Shared) × (Env) × (Expr) × (Expr) × (Str) × (Pos) × (List Expr) × (Scope) × (Pos) × (List (Str × Addr)) × (Value → Shared → Prop) × (Option (Value → Sem Unit)) × (Pos)
theorem cv0 : Nonempty CV := ⟨⟨PG, W0, (Around.mk none 0 none none 0), fun _ _ => True, {}, default, default, default, ⟨#[]⟩, default, [], default, default, [], fun _ _ => True, none, default⟩⟩
noncomputable def Scomp_loc (prog : Program) (w : World) (A : Around) (E : Value → Shared → Prop) (s : Shared) (env : Env) (elt : Expr) (iter : Expr) (x : Str) (px : Pos) (ifs : List Expr) (scope : Scope) (pos : Pos) (cl : List (Str × Addr)) (Q : Value → Shared → Prop) : Prop := ∀ (hclos : closureFor scope env = pure cl) (hkind : scope.kind = .function) (hnames : ∀ y ∈ scope.names, y.2 = .local → scope.names.lookup y.1 = some .local) (hs : ∀ x, foldedSetIterable iter env x = pure x) (hpush : ∀ h : Heap, pushCells h scope.names = h) (hxk : ∀ C, (compEnvW scope cl C env).kindOf x = some .local) (h : wpAny (model prog w) A (eval iter env) (fun xv s₁ => wpAny (model prog w) A (pyIter xv) (fun it s₂ => ∃ I fp wr n P St J, it = .ref I ∧ Walks prog w A I fp wr n P St ∧ n ≤ sizeLine ∧ St 0 s₂.heap ∧ (∀ b ∈ fp, b < s₂.heap.objs.size) ∧ (∀ i H, St i H → ∀ b ∈ wr, ∃ o, H.get? b = some o) ∧
      TurnsL prog w A env scope cl x ifs elt s₂ wr n P J ∧
      (∀ D h' tk ys X, s₂.heap.objs.size ≤ D → D ∈ X → J X n ys h' → h'.PlainList D ys.toArray → (∀ b o, b ∉ wr → s₂.heap.get? b = some o → h'.get? b = some o) → Q (.ref D) { s₂ with heap := h', toks := tk })) E s₁) E s),
    wpAny (model prog w) A (eval (.ListComp elt [⟨.Name x px, iter, ifs, 0⟩] scope pos) env) Q E s
noncomputable def ccomp_loc : CV := @Classical.epsilon CV cv0 fun x => ¬ Scomp_loc x.1 x.2.1 x.2.2.1 x.2.2.2.1 x.2.2.2.2.1 x.2.2.2.2.2.1 x.2.2.2.2.2.2.1 x.2.2.2.2.2.2.2.1 x.2.2.2.2.2.2.2.2.1 x.2.2.2.2.2.2.2.2.2.1 x.2.2.2.2.2.2.2.2.2.2.1 x.2.2.2.2.2.2.2.2.2.2.2.1 x.2.2.2.2.2.2.2.2.2.2.2.2.1 x.2.2.2.2.2.2.2.2.2.2.2.2.2.1 x.2.2.2.2.2.2.2.2.2.2.2.2.2.2.1
namespace Kcomp_loc
@[irreducible] noncomputable def prog : Program := ccomp_loc.1
@[irreducible] noncomputable def w : World := ccomp_loc.2.1
@[irreducible] noncomputable def A : Around := ccomp_loc.2.2.1
@[irreducible] noncomputable def E : Value → Shared → Prop := ccomp_loc.2.2.2.1
@[irreducible] noncomputable def s : Shared := ccomp_loc.2.2.2.2.1
@[irreducible] noncomputable def env : Env := ccomp_loc.2.2.2.2.2.1
@[irreducible] noncomputable def elt : Expr := ccomp_loc.2.2.2.2.2.2.1
@[irreducible] noncomputable def iter : Expr := ccomp_loc.2.2.2.2.2.2.2.1
@[irreducible] noncomputable def x : Str := ccomp_loc.2.2.2.2.2.2.2.2.1
@[irreducible] noncomputable def px : Pos := ccomp_loc.2.2.2.2.2.2.2.2.2.1
@[irreducible] noncomputable def ifs : List Expr := ccomp_loc.2.2.2.2.2.2.2.2.2.2.1
@[irreducible] noncomputable def scope : Scope := ccomp_loc.2.2.2.2.2.2.2.2.2.2.2.1
@[irreducible] noncomputable def pos : Pos := ccomp_loc.2.2.2.2.2.2.2.2.2.2.2.2.1
@[irreducible] noncomputable def cl : List (Str × Addr) := ccomp_loc.2.2.2.2.2.2.2.2.2.2.2.2.2.1
@[irreducible] noncomputable def Q : Value → Shared → Prop := ccomp_loc.2.2.2.2.2.2.2.2.2.2.2.2.2.2.1
theorem holds : Scomp_loc prog w A E s env elt iter x px ifs scope pos cl Q := by
  intro hclos hkind hnames hs hpush hxk h
  rw [eval_ListComp]
  refine wpAny_comprehension_free (use := none) rfl hs hclos hkind hnames (wpAny_mono h (fun xv s₁ h₁ => wpAny_mono h₁ (fun it s₂ h₂ => ?_) fun _ _ e => e) fun _ _ e => e)
  obtain ⟨I, fp, wr, n, P, St, J, rfl, W, hsz, hst, hfp, hwr, hT, hQ⟩ := h₂
  refine wpAny_newObj_type (newCompEnv ?_)
  dsimp only
  rw [hpush]
  generalize hD : s₂.heap.objs.size = D
  have hC : (s₂.heap.push { cls := .type "list", dict := none, data := .seq ([] : List Value).toArray }).objs.size = D + 1 := by rw [Heap.size_push, hD]
  generalize hH1 : s₂.heap.push { cls := .type "list", dict := none, data := .seq ([] : List Value).toArray } = H1 at hC ⊢
  rw [hC]
  generalize hH2 : H1.push { cls := .type "dict", data := .dict #[] } = H2
  have k02 : ∀ b o, s₂.heap.get? b = some o → H2.get? b = some o := fun b o e => by
    rw [← hH2]; exact Heap.get?_push_of_some _ (by rw [← hH1]; exact Heap.get?_push_of_some _ e)
  have gD : H2.get? D = some { cls := .type "list", dict := none, data := .seq ([] : List Value).toArray } := by
    rw [← hH2]; refine Heap.get?_push_of_some _ ?_; rw [← hH1, ← hD]; exact Heap.get?_push_size _ rfl
  have gC : H2.Ns (D + 1) (fun _ => none) := by
    have e := Heap.Ns.new H1 (.type "dict")
    rw [hC, hH2] at e
    exact e
  have hDf : ∀ b : Nat, b ∈ fp → b < D := fun b hb => hD ▸ hfp b hb
  have old : ∀ (b : Nat) (o : Obj), s₂.heap.get? b = some o → b < D := fun b o e => hD ▸ Heap.lt_size e
  have hstH : St 0 H2 := W.frame _ _ _ hst fun b _ o e => k02 b o e
  have loop : codeAny (model prog w) A (.compLoop (.ListComp elt [⟨.Name x px, iter, ifs, 0⟩] scope pos) 0 (.ref I) (.ref D) (compEnvW scope cl (D + 1) env)) (compPost (model prog w) A E none Q (.ref D) (D + 1)) { s₂ with heap := H2 } := by
    refine codeAny_compLoop_tests (CompL s₂ D n wr St J) ?_ (n + 1)
      ⟨H2, s₂.toks, _, [], 0, rfl, hstH, ⟨_, gD⟩, gC, hT.start _ _, Nat.zero_le _, Nat.le_refl _, rfl, fun b o _ e => k02 b o e⟩
    rintro k s' ⟨H, tk, m₂, ys, i, rfl, hst', hacc, hns, hJ, hi, hys, rfl, hk⟩
    have hwD : ∀ b : Nat, b ∈ wr → b < D := fun b hb => hDf b (W.sub b hb)
    have nD : D ∉ wr := fun hm => Nat.lt_irrefl _ (hwD _ hm)
    have nC : D + 1 ∉ wr := fun hm => by have := hwD _ hm; omega
    by_cases hlt : i < n
    · refine W.item i _ _ _ hlt hst' fun v h₁ tk₁ hPv hst₁ hk₁ => ?_
      have hns₁ : h₁.Ns (D + 1) m₂ := hns.at' fun o e => hk₁ _ o nC e
      have hacc₁ := hacc.at fun o e => hk₁ _ o nD e
      have hJ₁ := hT.stable _ _ _ _ _ hJ fun b o hb e => hk₁ b o (fun hm => hb (by simp [hm])) e
      refine wpAny_assign_Name (wpAny_storeName_local (env := compEnvW scope cl (D + 1) env) (hxk _) hns₁ (fun h₂ hns₂ hs₂ => ?_) (by show (scope.kind == .class || (scope.kind == .module && _)) = false; rw [hkind]; rfl))
      replace hs₂ : Heap.SameBut (D + 1) h₁ h₂ := hs₂
      replace hns₂ : h₂.Ns (D + 1) _ := hns₂
      have nDx : D ≠ D + 1 := neN (by omega)
      have up : ∀ b o, b ∉ wr → s₂.heap.get? b = some o → h₂.get? b = some o := fun b o hb e => hs₂.extBut b o (by have := old b o e; exact neN (by omega)) (hk₁ b o hb (hk b o hb e))
      have hJ₂ := hT.stable _ _ _ _ _ hJ₁ fun b o hb e => hs₂.extBut b o (fun hm => hb (by simp [hm])) e
      have hacc₂ := hacc₁.at fun o e => hs₂.extBut _ o nDx e
      have hfpn : ∀ b ∈ fp, b ≠ (D + 1) := fun b hb => by have := hDf b hb; exact neN (by omega)
      have hst₂ : St (i + 1) h₂ := W.frame _ _ _ hst₁ fun b hb o e => hs₂.extBut b o (hfpn b hb) e
      have thr : ∀ a ∈ (D :: (D + 1) :: wr), ∃ o, h₂.get? a = some o := by
        intro a ha
        rcases List.mem_cons.mp ha with rfl | ha
        · obtain ⟨_, e⟩ := hacc₂; exact ⟨_, e⟩
        · rcases List.mem_cons.mp ha with rfl | ha
          · obtain ⟨o, _, _, e, _⟩ := hns₂; exact ⟨o, e⟩
          · exact hwr _ _ hst₂ a ha
      refine wpAny_mono (hT.turn D (D + 1) (Nat.le_of_eq hD) (Nat.lt_succ_self _) i v ys h₂ _ _ hlt hPv hJ₂ hns₂ (by simp) up thr) (fun ok s₃ h₃ => ?_) fun _ _ x => x.elim
      obtain ⟨h₃, tk₃, rfl, k₃, hok⟩ := h₃
      have hst₃ : St (i + 1) h₃ := W.frame _ _ _ hst₂ fun b _ o e => k₃ b o e
      cases ok with
      | false =>
        rw [if_neg (by decide)] at hok
        rw [if_neg (by decide)]
        exact ⟨n + 1 - (i + 1), by omega, h₃, tk₃, _, ys, i + 1, rfl, hst₃, hacc₂.at fun o e => k₃ _ o e, hns₂.keeps k₃, hok, hlt, by omega, rfl, fun b o hb e => k₃ b o (up b o hb e)⟩
      | true =>
        rw [if_pos rfl] at hok
        rw [if_pos rfl]
        refine wpAny_mono hok (fun y s₄ h₄ => ?_) fun _ _ x => x.elim
        obtain ⟨h₄, tk₄, rfl, k₄, hJ₄⟩ := h₄
        have hacc₄ := (hacc₂.at fun o e => k₃ _ o e).at fun o e => k₄ _ o e
        refine wpAny_list_append_plain (hsz := by rw [List.size_toArray]; omega) hacc₄ fun h₅ hl₅ hs₅ => ?_
        replace hs₅ : Heap.SameBut D h₄ h₅ := hs₅
        have hJ₅ := hT.stable _ _ _ _ _ hJ₄ fun b o hb e => hs₅.extBut b o (fun hm => hb (by simp [hm])) e
        refine ⟨n + 1 - (i + 1), by omega, h₅, tk₄, _, ys ++ [y], i + 1, rfl, ?_, ?_, ((hns₂.keeps k₃).keeps k₄).sameBut hs₅ (neN (by omega)), hJ₅, hlt, by simp; omega, rfl, fun b o hb e => ?_⟩
        · exact W.frame _ _ _ hst₃ fun b hb o e => hs₅.extBut b o (by have := hDf b hb; exact neN (by omega)) (k₄ b o e)
        · have e : (ys ++ [y]).toArray = ys.toArray.push y := by simp
          rw [e]; exact hl₅
        · exact hs₅.extBut b o (by have := old b o e; exact neN (by omega)) (k₄ b o (k₃ b o (up b o hb e)))
    · have hin : i = n := by omega
      subst hin
      refine W.done _ _ _ hst' fun h₁ tk₁ hk₁ => ?_
      refine ⟨m₂, hns.at' fun o e => hk₁ _ o nC e, fun h' hs' => ?_⟩
      replace hs' : Heap.SameBut (D + 1) h₁ h' := hs'
      have hJ₁ := hT.stable _ _ _ _ _ hJ fun b o hb e => hk₁ b o (fun hm => hb (by simp [hm])) e
      have hJ₂ := hT.stable _ _ _ _ _ hJ₁ fun b o hb e => hs'.extBut b o (fun hm => hb (by simp [hm])) e
      refine hQ D h' tk₁ ys (D :: (D + 1) :: wr) (Nat.le_of_eq hD) (List.mem_cons_self ..) hJ₂ ((hacc.at fun o e => hk₁ _ o nD e).at fun o e => hs'.extBut _ o (neN (by omega)) e) fun b o hb e => ?_
      exact hs'.extBut b o (by have := old b o e; exact neN (by omega)) (hk₁ b o hb (hk b o hb e))
  exact codeAny_compStart_list loop (W.self 0 _ _ _ hstH loop)
end Kcomp_loc
theorem comp_loc {prog : Program} {w : World} {A : Around} {E : Value → Shared → Prop} {s : Shared} {env : Env} {elt iter : Expr} {x : Str} {px : Pos} {ifs : List Expr} {scope : Scope} {pos : Pos} {cl : List (Str × Addr)} {Q : Value → Shared → Prop}
    (hclos : closureFor scope env = pure cl) (hkind : scope.kind = .function) (hnames : ∀ y ∈ scope.names, y.2 = .local → scope.names.lookup y.1 = some .local) (hs : ∀ x, foldedSetIterable iter env x = pure x)
    (hpush : ∀ h : Heap, pushCells h scope.names = h) (hxk : ∀ C, (compEnvW scope cl C env).kindOf x = some .local)
    (h : wpAny (model prog w) A (eval iter env) (fun xv s₁ => wpAny (model prog w) A (pyIter xv) (fun it s₂ => ∃ I fp wr n P St J, it = .ref I ∧ Walks prog w A I fp wr n P St ∧ n ≤ sizeLine ∧ St 0 s₂.heap ∧ (∀ b ∈ fp, b < s₂.heap.objs.size) ∧ (∀ i H, St i H → ∀ b ∈ wr, ∃ o, H.get? b = some o) ∧
      TurnsL prog w A env scope cl x ifs elt s₂ wr n P J ∧
      (∀ D h' tk ys X, s₂.heap.objs.size ≤ D → D ∈ X → J X n ys h' → h'.PlainList D ys.toArray → (∀ b o, b ∉ wr → s₂.heap.get? b = some o → h'.get? b = some o) → Q (.ref D) { s₂ with heap := h', toks := tk })) E s₁) E s) :
    wpAny (model prog w) A (eval (.ListComp elt [⟨.Name x px, iter, ifs, 0⟩] scope pos) env) Q E s := by
  exact skolem cv0 (fun x => Scomp_loc x.1 x.2.1 x.2.2.1 x.2.2.2.1 x.2.2.2.2.1 x.2.2.2.2.2.1 x.2.2.2.2.2.2.1 x.2.2.2.2.2.2.2.1 x.2.2.2.2.2.2.2.2.1 x.2.2.2.2.2.2.2.2.2.1 x.2.2.2.2.2.2.2.2.2.2.1 x.2.2.2.2.2.2.2.2.2.2.2.1 x.2.2.2.2.2.2.2.2.2.2.2.2.1 x.2.2.2.2.2.2.2.2.2.2.2.2.2.1 x.2.2.2.2.2.2.2.2.2.2.2.2.2.2.1) (by with_unfolding_all exact Kcomp_loc.holds) ⟨prog, w, A, E, s, env, elt, iter, x, px, ifs, scope, pos, cl, Q, (Classical.choice cv0).2.2.2.2.2.2.2.2.2.2.2.2.2.2.2.1, (Classical.choice cv0).2.2.2.2.2.2.2.2.2.2.2.2.2.2.2.2⟩ hclos hkind hnames hs hpush hxk h
/-- the state that a comprehension's turns hand on -/
structure TurnsC (prog : Program) (w : World) (A : Around) (env : Env) (scope : Scope) (cl : List (Str × Addr)) (x : Str) (ifs : List Expr) (elt : Expr) (s₂ : Shared) (wr : List Addr) (n : Nat) (P : Nat → Value → Prop) (J : List Addr → Nat → List Value → Heap → Prop) : Prop where
  start : ∀ X H, J X 0 [] H
  stable : ∀ X i ys H H', J X i ys H → (∀ b o, b ∉ X → H.get? b = some o → H'.get? b = some o) → J X i ys H'
  turn : ∀ D C, s₂.heap.objs.size ≤ D → D < C → ∀ i v ys H tk m₂, i < n → P i v → J (D :: C :: (C + 1) :: wr) i ys H → H.Ns C m₂ → H.IsCell (C + 1) (some v) → (∀ b o, b ∉ wr → s₂.heap.get? b = some o → H.get? b = some o) → (∀ a ∈ (D :: C :: (C + 1) :: wr), ∃ o, H.get? a = some o) →
    wpAny (model prog w) A (testsOf ifs (compEnvW scope cl C env)) (fun ok s' => ∃ h' tk', s' = { s₂ with heap := h', toks := tk' } ∧ Keep H h' ∧
      if ok = true then wpAny (model prog w) A (eval elt (compEnvW scope cl C env)) (fun y s'' => ∃ h'' tk'', s'' = { s₂ with heap := h'', toks := tk'' } ∧ Keep h' h'' ∧ J (D :: C :: (C + 1) :: wr) (i + 1) (ys ++ [y]) h'') (fun _ _ => False) s' else J (D :: C :: (C + 1) :: wr) (i + 1) ys h') (fun _ _ => False) { s₂ with heap := H, toks := tk }
noncomputable def Scomp_cell_use (prog : Program) (w : World) (A : Around) (E : Value → Shared → Prop) (s : Shared) (env : Env) (elt : Expr) (iter : Expr) (x : Str) (px : Pos) (ifs : List Expr) (scope : Scope) (pos : Pos) (cl : List (Str × Addr)) (Q : Value → Shared → Prop) (use : Option (Value → Sem Unit)) (cpos : Pos) : Prop := ∀ (hclos : closureFor scope env = pure cl) (hkind : scope.kind = .function) (hnames : ∀ y ∈ scope.names, y.2 = .local → scope.names.lookup y.1 = some .local) (hs : ∀ x, foldedSetIterable iter env x = pure x) (hpush : ∀ h : Heap, pushCells h scope.names = h.push { cls := .type "cell", data := .cell none }) (hxk : ∀ C, (compEnvW scope cl C env).kindOf x = some .cell) (hxc : ∀ C, (compEnvW scope cl C env).cells.lookup x = some (C + 1)) (h : wpAny (model prog w) A (eval iter env) (fun xv s₁ => wpAny (model prog w) A (pyIter xv) (fun it s₂ => ∃ I fp wr n P St J, it = .ref I ∧ Walks prog w A I fp wr n P St ∧ n ≤ sizeLine ∧ St 0 s₂.heap ∧ (∀ b ∈ fp, b < s₂.heap.objs.size) ∧ (∀ i H, St i H → ∀ b ∈ wr, ∃ o, H.get? b = some o) ∧
      TurnsC prog w A env scope cl x ifs elt s₂ wr n P J ∧
      (∀ D C h' tk ys X m₂ fl, s₂.heap.objs.size ≤ D → D < C → D ∈ X → C ∈ X → J X n ys h' → h'.PlainList D ys.toArray → h'.Ns C m₂ → (∀ b o, b ∉ wr → s₂.heap.get? b = some o → h'.get? b = some o) → compPost (model prog w) A E use Q (.ref D) C (.ok fl) { s₂ with heap := h', toks := tk })) E s₁) E s),
    wpAny (model prog w) A (comprehension (.ListComp elt [⟨.Name x px, iter, ifs, 0⟩] scope pos) scope env cpos (newList []) false (eval iter env) use) Q E s
noncomputable def ccomp_cell_use : CV := @Classical.epsilon CV cv0 fun x => ¬ Scomp_cell_use x.1 x.2.1 x.2.2.1 x.2.2.2.1 x.2.2.2.2.1 x.2.2.2.2.2.1 x.2.2.2.2.2.2.1 x.2.2.2.2.2.2.2.1 x.2.2.2.2.2.2.2.2.1 x.2.2.2.2.2.2.2.2.2.1 x.2.2.2.2.2.2.2.2.2.2.1 x.2.2.2.2.2.2.2.2.2.2.2.1 x.2.2.2.2.2.2.2.2.2.2.2.2.1 x.2.2.2.2.2.2.2.2.2.2.2.2.2.1 x.2.2.2.2.2.2.2.2.2.2.2.2.2.2.1 x.2.2.2.2.2.2.2.2.2.2.2.2.2.2.2.1 x.2.2.2.2.2.2.2.2.2.2.2.2.2.2.2.2
namespace Kcomp_cell_use
@[irreducible] noncomputable def prog : Program := ccomp_cell_use.1
@[irreducible] noncomputable def w : World := ccomp_cell_use.2.1
@[irreducible] noncomputable def A : Around := ccomp_cell_use.2.2.1
@[irreducible] noncomputable def E : Value → Shared → Prop := ccomp_cell_use.2.2.2.1
@[irreducible] noncomputable def s : Shared := ccomp_cell_use.2.2.2.2.1
@[irreducible] noncomputable def env : Env := ccomp_cell_use.2.2.2.2.2.1
@[irreducible] noncomputable def elt : Expr := ccomp_cell_use.2.2.2.2.2.2.1
@[irreducible] noncomputable def iter : Expr := ccomp_cell_use.2.2.2.2.2.2.2.1
@[irreducible] noncomputable def x : Str := ccomp_cell_use.2.2.2.2.2.2.2.2.1
@[irreducible] noncomputable def px : Pos := ccomp_cell_use.2.2.2.2.2.2.2.2.2.1
@[irreducible] noncomputable def ifs : List Expr := ccomp_cell_use.2.2.2.2.2.2.2.2.2.2.1
@[irreducible] noncomputable def scope : Scope := ccomp_cell_use.2.2.2.2.2.2.2.2.2.2.2.1
@[irreducible] noncomputable def pos : Pos := ccomp_cell_use.2.2.2.2.2.2.2.2.2.2.2.2.1
@[irreducible] noncomputable def cl : List (Str × Addr) := ccomp_cell_use.2.2.2.2.2.2.2.2.2.2.2.2.2.1
@[irreducible] noncomputable def Q : Value → Shared → Prop := ccomp_cell_use.2.2.2.2.2.2.2.2.2.2.2.2.2.2.1
@[irreducible] noncomputable def use : Option (Value → Sem Unit) := ccomp_cell_use.2.2.2.2.2.2.2.2.2.2.2.2.2.2.2.1
@[irreducible] noncomputable def cpos : Pos := ccomp_cell_use.2.2.2.2.2.2.2.2.2.2.2.2.2.2.2.2
theorem holds : Scomp_cell_use prog w A E s env elt iter x px ifs scope pos cl Q use cpos := by
  intro hclos hkind hnames hs hpush hxk hxc h
  refine wpAny_comprehension_free (use := use) rfl hs hclos hkind hnames (wpAny_mono h (fun xv s₁ h₁ => wpAny_mono h₁ (fun it s₂ h₂ => ?_) fun _ _ e => e) fun _ _ e => e)
  obtain ⟨I, fp, wr, n, P, St, J, rfl, W, hsz, hst, hfp, hwr, hT, hQ⟩ := h₂
  refine wpAny_newObj_type (newCompEnv ?_)
  dsimp only
  rw [hpush]
  generalize hD : s₂.heap.objs.size = D
  have hC : (s₂.heap.push { cls := .type "list", dict := none, data := .seq ([] : List Value).toArray }).objs.size = D + 1 := by rw [Heap.size_push, hD]
  generalize hH1 : s₂.heap.push { cls := .type "list", dict := none, data := .seq ([] : List Value).toArray } = H1 at hC ⊢
  rw [hC]
  generalize hH2 : (H1.push { cls := .type "dict", data := .dict #[] }).push { cls := .type "cell", data := .cell none } = H2
  have z2 : (H1.push { cls := .type "dict", data := .dict #[] }).objs.size = D + 2 := by rw [Heap.size_push, hC]
  have k02 : ∀ b o, s₂.heap.get? b = some o → H2.get? b = some o := fun b o e => by
    rw [← hH2]; exact Heap.get?_push_of_some _ (Heap.get?_push_of_some _ (by rw [← hH1]; exact Heap.get?_push_of_some _ e))
  have gD : H2.get? D = some { cls := .type "list", dict := none, data := .seq ([] : List Value).toArray } := by
    rw [← hH2]; refine Heap.get?_push_of_some _ (Heap.get?_push_of_some _ ?_); rw [← hH1, ← hD]; exact Heap.get?_push_size _ rfl
  have gC : H2.Ns (D + 1) (fun _ => none) := by
    have e := Heap.Ns.new H1 (.type "dict")
    rw [hC] at e
    exact e.keeps fun b o q => by rw [← hH2]; exact Heap.get?_push_of_some _ q
  have gc : H2.IsCell (D + 1 + 1) none := ⟨_, by
    have := Heap.get?_push_size (H1.push { cls := .type "dict", data := .dict #[] }) (o := { cls := .type "cell", data := .cell none }) rfl
    rw [z2, hH2] at this; exact this, rfl⟩
  have hDf : ∀ b : Nat, b ∈ fp → b < D := fun b hb => hD ▸ hfp b hb
  have old : ∀ (b : Nat) (o : Obj), s₂.heap.get? b = some o → b < D := fun b o e => hD ▸ Heap.lt_size e
  have hstH : St 0 H2 := W.frame _ _ _ hst fun b _ o e => k02 b o e
  have loop : codeAny (model prog w) A (.compLoop (.ListComp elt [⟨.Name x px, iter, ifs, 0⟩] scope pos) 0 (.ref I) (.ref D) (compEnvW scope cl (D + 1) env)) (compPost (model prog w) A E use Q (.ref D) (D + 1)) { s₂ with heap := H2 } := by
    refine codeAny_compLoop_tests (CompC s₂ D n wr St J) ?_ (n + 1)
      ⟨H2, s₂.toks, _, [], 0, rfl, hstH, ⟨_, gD⟩, gC, ⟨_, gc⟩, hT.start _ _, Nat.zero_le _, Nat.le_refl _, rfl, fun b o _ e => k02 b o e⟩
    rintro k s' ⟨H, tk, m₂, ys, i, rfl, hst', hacc, hns, ⟨ov, hcell⟩, hJ, hi, hys, rfl, hk⟩
    have hwD : ∀ b : Nat, b ∈ wr → b < D := fun b hb => hDf b (W.sub b hb)
    have nD : D ∉ wr := fun hm => Nat.lt_irrefl _ (hwD _ hm)
    have nC : D + 1 ∉ wr := fun hm => by have := hwD _ hm; omega
    have nc : D + 1 + 1 ∉ wr := fun hm => by have := hwD _ hm; omega
    by_cases hlt : i < n
    · refine W.item i _ _ _ hlt hst' fun v h₁ tk₁ hPv hst₁ hk₁ => ?_
      have hns₁ : h₁.Ns (D + 1) m₂ := hns.at' fun o e => hk₁ _ o nC e
      have hacc₁ := hacc.at fun o e => hk₁ _ o nD e
      have hJ₁ := hT.stable _ _ _ _ _ hJ fun b o hb e => hk₁ b o (fun hm => hb (by simp [hm])) e
      have hcell₁ : h₁.IsCell (D + 1 + 1) ov := by obtain ⟨oc, e1, e2⟩ := hcell; exact ⟨oc, hk₁ _ _ nc e1, e2⟩
      refine wpAny_assign_Name (wpAny_storeName_cell (env := compEnvW scope cl (D + 1) env) hkind (hxk _) (hxc _) hcell₁ fun h₂ hv₂ hs₂ => ?_)
      replace hs₂ : Heap.SameBut (D + 1 + 1) h₁ h₂ := hs₂
      have hns₂ : h₂.Ns (D + 1) m₂ := hns₁.sameBut hs₂ (neN (by omega))
      have nDx : D ≠ D + 1 + 1 := neN (by omega)
      have up : ∀ b o, b ∉ wr → s₂.heap.get? b = some o → h₂.get? b = some o := fun b o hb e => hs₂.extBut b o (by have := old b o e; exact neN (by omega)) (hk₁ b o hb (hk b o hb e))
      have hJ₂ := hT.stable _ _ _ _ _ hJ₁ fun b o hb e => hs₂.extBut b o (fun hm => hb (by simp [hm])) e
      have hacc₂ := hacc₁.at fun o e => hs₂.extBut _ o nDx e
      have hfpn : ∀ b ∈ fp, b ≠ (D + 1 + 1) := fun b hb => by have := hDf b hb; exact neN (by omega)
      have hst₂ : St (i + 1) h₂ := W.frame _ _ _ hst₁ fun b hb o e => hs₂.extBut b o (hfpn b hb) e
      have thr : ∀ a ∈ (D :: (D + 1) :: (D + 1 + 1) :: wr), ∃ o, h₂.get? a = some o := by
        intro a ha
        rcases List.mem_cons.mp ha with rfl | ha
        · obtain ⟨_, e⟩ := hacc₂; exact ⟨_, e⟩
        · rcases List.mem_cons.mp ha with rfl | ha
          · obtain ⟨o, _, _, e, _⟩ := hns₂; exact ⟨o, e⟩
          · rcases List.mem_cons.mp ha with rfl | ha
            · obtain ⟨o, e, _⟩ := hv₂; exact ⟨o, e⟩
            · exact hwr _ _ hst₂ a ha
      refine wpAny_mono (hT.turn D (D + 1) (Nat.le_of_eq hD) (Nat.lt_succ_self _) i v ys h₂ _ _ hlt hPv hJ₂ hns₂ hv₂ up thr) (fun ok s₃ h₃ => ?_) fun _ _ x => x.elim
      obtain ⟨h₃, tk₃, rfl, k₃, hok⟩ := h₃
      have hst₃ : St (i + 1) h₃ := W.frame _ _ _ hst₂ fun b _ o e => k₃ b o e
      cases ok with
      | false =>
        rw [if_neg (by decide)] at hok
        rw [if_neg (by decide)]
        exact ⟨n + 1 - (i + 1), by omega, h₃, tk₃, _, ys, i + 1, rfl, hst₃, hacc₂.at fun o e => k₃ _ o e, hns₂.keeps k₃, ⟨_, hv₂.keeps k₃⟩, hok, hlt, by omega, rfl, fun b o hb e => k₃ b o (up b o hb e)⟩
      | true =>
        rw [if_pos rfl] at hok
        rw [if_pos rfl]
        refine wpAny_mono hok (fun y s₄ h₄ => ?_) fun _ _ x => x.elim
        obtain ⟨h₄, tk₄, rfl, k₄, hJ₄⟩ := h₄
        have hacc₄ := (hacc₂.at fun o e => k₃ _ o e).at fun o e => k₄ _ o e
        refine wpAny_list_append_plain (hsz := by rw [List.size_toArray]; omega) hacc₄ fun h₅ hl₅ hs₅ => ?_
        replace hs₅ : Heap.SameBut D h₄ h₅ := hs₅
        have hJ₅ := hT.stable _ _ _ _ _ hJ₄ fun b o hb e => hs₅.extBut b o (fun hm => hb (by simp [hm])) e
        refine ⟨n + 1 - (i + 1), by omega, h₅, tk₄, _, ys ++ [y], i + 1, rfl, ?_, ?_, ((hns₂.keeps k₃).keeps k₄).sameBut hs₅ (neN (by omega)), ⟨_, ((hv₂.keeps k₃).keeps k₄).sameBut hs₅ (neN (by omega))⟩, hJ₅, hlt, by simp; omega, rfl, fun b o hb e => ?_⟩
        · exact W.frame _ _ _ hst₃ fun b hb o e => hs₅.extBut b o (by have := hDf b hb; exact neN (by omega)) (k₄ b o e)
        · have e : (ys ++ [y]).toArray = ys.toArray.push y := by simp
          rw [e]; exact hl₅
        · exact hs₅.extBut b o (by have := old b o e; exact neN (by omega)) (k₄ b o (k₃ b o (up b o hb e)))
    · have hin : i = n := by omega
      subst hin
      refine W.done _ _ _ hst' fun h₁ tk₁ hk₁ => ?_
      have hJ₁ := hT.stable _ _ _ _ _ hJ fun b o hb e => hk₁ b o (fun hm => hb (by simp [hm])) e
      exact hQ D (D + 1) h₁ tk₁ ys (D :: (D + 1) :: (D + 1 + 1) :: wr) _ _ (Nat.le_of_eq hD) (Nat.lt_succ_self _) (List.mem_cons_self ..) (List.mem_cons_of_mem _ (List.mem_cons_self ..)) hJ₁ (hacc.at fun o e => hk₁ _ o nD e) (hns.at' fun o e => hk₁ _ o nC e) fun b o hb e => hk₁ b o hb (hk b o hb e)
  exact codeAny_compStart_list loop (W.self 0 _ _ _ hstH loop)
end Kcomp_cell_use
theorem comp_cell_use {prog : Program} {w : World} {A : Around} {E : Value → Shared → Prop} {s : Shared} {env : Env} {elt iter : Expr} {x : Str} {px : Pos} {ifs : List Expr} {scope : Scope} {pos : Pos} {cl : List (Str × Addr)} {Q : Value → Shared → Prop} {use : Option (Value → Sem Unit)} {cpos : Pos}
    (hclos : closureFor scope env = pure cl) (hkind : scope.kind = .function) (hnames : ∀ y ∈ scope.names, y.2 = .local → scope.names.lookup y.1 = some .local) (hs : ∀ x, foldedSetIterable iter env x = pure x)
    (hpush : ∀ h : Heap, pushCells h scope.names = h.push { cls := .type "cell", data := .cell none }) (hxk : ∀ C, (compEnvW scope cl C env).kindOf x = some .cell) (hxc : ∀ C, (compEnvW scope cl C env).cells.lookup x = some (C + 1))
    (h : wpAny (model prog w) A (eval iter env) (fun xv s₁ => wpAny (model prog w) A (pyIter xv) (fun it s₂ => ∃ I fp wr n P St J, it = .ref I ∧ Walks prog w A I fp wr n P St ∧ n ≤ sizeLine ∧ St 0 s₂.heap ∧ (∀ b ∈ fp, b < s₂.heap.objs.size) ∧ (∀ i H, St i H → ∀ b ∈ wr, ∃ o, H.get? b = some o) ∧
      TurnsC prog w A env scope cl x ifs elt s₂ wr n P J ∧
      (∀ D C h' tk ys X m₂ fl, s₂.heap.objs.size ≤ D → D < C → D ∈ X → C ∈ X → J X n ys h' → h'.PlainList D ys.toArray → h'.Ns C m₂ → (∀ b o, b ∉ wr → s₂.heap.get? b = some o → h'.get? b = some o) → compPost (model prog w) A E use Q (.ref D) C (.ok fl) { s₂ with heap := h', toks := tk })) E s₁) E s) :
    wpAny (model prog w) A (comprehension (.ListComp elt [⟨.Name x px, iter, ifs, 0⟩] scope pos) scope env cpos (newList []) false (eval iter env) use) Q E s := by
  exact skolem cv0 (fun x => Scomp_cell_use x.1 x.2.1 x.2.2.1 x.2.2.2.1 x.2.2.2.2.1 x.2.2.2.2.2.1 x.2.2.2.2.2.2.1 x.2.2.2.2.2.2.2.1 x.2.2.2.2.2.2.2.2.1 x.2.2.2.2.2.2.2.2.2.1 x.2.2.2.2.2.2.2.2.2.2.1 x.2.2.2.2.2.2.2.2.2.2.2.1 x.2.2.2.2.2.2.2.2.2.2.2.2.1 x.2.2.2.2.2.2.2.2.2.2.2.2.2.1 x.2.2.2.2.2.2.2.2.2.2.2.2.2.2.1 x.2.2.2.2.2.2.2.2.2.2.2.2.2.2.2.1 x.2.2.2.2.2.2.2.2.2.2.2.2.2.2.2.2) (by with_unfolding_all exact Kcomp_cell_use.holds) ⟨prog, w, A, E, s, env, elt, iter, x, px, ifs, scope, pos, cl, Q, use, cpos⟩ hclos hkind hnames hs hpush hxk hxc h
noncomputable def Scomp_cell (prog : Program) (w : World) (A : Around) (E : Value → Shared → Prop) (s : Shared) (env : Env) (elt : Expr) (iter : Expr) (x : Str) (px : Pos) (ifs : List Expr) (scope : Scope) (pos : Pos) (cl : List (Str × Addr)) (Q : Value → Shared → Prop) : Prop := ∀ (hclos : closureFor scope env = pure cl) (hkind : scope.kind = .function) (hnames : ∀ y ∈ scope.names, y.2 = .local → scope.names.lookup y.1 = some .local) (hs : ∀ x, foldedSetIterable iter env x = pure x) (hpush : ∀ h : Heap, pushCells h scope.names = h.push { cls := .type "cell", data := .cell none }) (hxk : ∀ C, (compEnvW scope cl C env).kindOf x = some .cell) (hxc : ∀ C, (compEnvW scope cl C env).cells.lookup x = some (C + 1)) (h : wpAny (model prog w) A (eval iter env) (fun xv s₁ => wpAny (model prog w) A (pyIter xv) (fun it s₂ => ∃ I fp wr n P St J, it = .ref I ∧ Walks prog w A I fp wr n P St ∧ n ≤ sizeLine ∧ St 0 s₂.heap ∧ (∀ b ∈ fp, b < s₂.heap.objs.size) ∧ (∀ i H, St i H → ∀ b ∈ wr, ∃ o, H.get? b = some o) ∧
      TurnsC prog w A env scope cl x ifs elt s₂ wr n P J ∧
      (∀ D h' tk ys X, s₂.heap.objs.size ≤ D → D ∈ X → J X n ys h' → h'.PlainList D ys.toArray → (∀ b o, b ∉ wr → s₂.heap.get? b = some o → h'.get? b = some o) → Q (.ref D) { s₂ with heap := h', toks := tk })) E s₁) E s),
    wpAny (model prog w) A (eval (.ListComp elt [⟨.Name x px, iter, ifs, 0⟩] scope pos) env) Q E s
noncomputable def ccomp_cell : CV := @Classical.epsilon CV cv0 fun x => ¬ Scomp_cell x.1 x.2.1 x.2.2.1 x.2.2.2.1 x.2.2.2.2.1 x.2.2.2.2.2.1 x.2.2.2.2.2.2.1 x.2.2.2.2.2.2.2.1 x.2.2.2.2.2.2.2.2.1 x.2.2.2.2.2.2.2.2.2.1 x.2.2.2.2.2.2.2.2.2.2.1 x.2.2.2.2.2.2.2.2.2.2.2.1 x.2.2.2.2.2.2.2.2.2.2.2.2.1 x.2.2.2.2.2.2.2.2.2.2.2.2.2.1 x.2.2.2.2.2.2.2.2.2.2.2.2.2.2.1
namespace Kcomp_cell
@[irreducible] noncomputable def prog : Program := ccomp_cell.1
@[irreducible] noncomputable def w : World := ccomp_cell.2.1
@[irreducible] noncomputable def A : Around := ccomp_cell.2.2.1
@[irreducible] noncomputable def E : Value → Shared → Prop := ccomp_cell.2.2.2.1
@[irreducible] noncomputable def s : Shared := ccomp_cell.2.2.2.2.1
@[irreducible] noncomputable def env : Env := ccomp_cell.2.2.2.2.2.1
@[irreducible] noncomputable def elt : Expr := ccomp_cell.2.2.2.2.2.2.1
@[irreducible] noncomputable def iter : Expr := ccomp_cell.2.2.2.2.2.2.2.1
@[irreducible] noncomputable def x : Str := ccomp_cell.2.2.2.2.2.2.2.2.1
@[irreducible] noncomputable def px : Pos := ccomp_cell.2.2.2.2.2.2.2.2.2.1
@[irreducible] noncomputable def ifs : List Expr := ccomp_cell.2.2.2.2.2.2.2.2.2.2.1
@[irreducible] noncomputable def scope : Scope := ccomp_cell.2.2.2.2.2.2.2.2.2.2.2.1
@[irreducible] noncomputable def pos : Pos := ccomp_cell.2.2.2.2.2.2.2.2.2.2.2.2.1
@[irreducible] noncomputable def cl : List (Str × Addr) := ccomp_cell.2.2.2.2.2.2.2.2.2.2.2.2.2.1
@[irreducible] noncomputable def Q : Value → Shared → Prop := ccomp_cell.2.2.2.2.2.2.2.2.2.2.2.2.2.2.1
theorem holds : Scomp_cell prog w A E s env elt iter x px ifs scope pos cl Q := by
  intro hclos hkind hnames hs hpush hxk hxc h
  rw [eval_ListComp]
  refine comp_cell_use hclos hkind hnames hs hpush hxk hxc (wpAny_mono h (fun xv s₁ h₁ => wpAny_mono h₁ (fun it s₂ h₂ => ?_) fun _ _ e => e) fun _ _ e => e)
  obtain ⟨I, fp, wr, n, P, St, J, e, W, hsz, hst, hfp, hwr, hT, hQ⟩ := h₂
  refine ⟨I, fp, wr, n, P, St, J, e, W, hsz, hst, hfp, hwr, hT, fun D C h' tk ys X m₂ fl hD hDC hDX hCX hJ hl hns hk => ⟨m₂, hns, fun h'' hs' => ?_⟩⟩
  replace hs' : Heap.SameBut C h' h'' := hs'
  have old : ∀ (b : Nat) (o : Obj), s₂.heap.get? b = some o → b < D := fun b o e => Nat.lt_of_lt_of_le (Heap.lt_size e) hD
  refine hQ D h'' tk ys X hD hDX (hT.stable _ _ _ _ _ hJ fun b o hb e => hs'.extBut b o (fun hm => hb (hm ▸ hCX)) e) (hl.at fun o e => hs'.extBut _ o (neN (Nat.ne_of_lt hDC)) e) fun b o hb e => ?_
  exact hs'.extBut b o (by have := old b o e; exact neN (by omega)) (hk b o hb e)
end Kcomp_cell
theorem comp_cell {prog : Program} {w : World} {A : Around} {E : Value → Shared → Prop} {s : Shared} {env : Env} {elt iter : Expr} {x : Str} {px : Pos} {ifs : List Expr} {scope : Scope} {pos : Pos} {cl : List (Str × Addr)} {Q : Value → Shared → Prop}
    (hclos : closureFor scope env = pure cl) (hkind : scope.kind = .function) (hnames : ∀ y ∈ scope.names, y.2 = .local → scope.names.lookup y.1 = some .local) (hs : ∀ x, foldedSetIterable iter env x = pure x)
    (hpush : ∀ h : Heap, pushCells h scope.names = h.push { cls := .type "cell", data := .cell none }) (hxk : ∀ C, (compEnvW scope cl C env).kindOf x = some .cell) (hxc : ∀ C, (compEnvW scope cl C env).cells.lookup x = some (C + 1))
    (h : wpAny (model prog w) A (eval iter env) (fun xv s₁ => wpAny (model prog w) A (pyIter xv) (fun it s₂ => ∃ I fp wr n P St J, it = .ref I ∧ Walks prog w A I fp wr n P St ∧ n ≤ sizeLine ∧ St 0 s₂.heap ∧ (∀ b ∈ fp, b < s₂.heap.objs.size) ∧ (∀ i H, St i H → ∀ b ∈ wr, ∃ o, H.get? b = some o) ∧
      TurnsC prog w A env scope cl x ifs elt s₂ wr n P J ∧
      (∀ D h' tk ys X, s₂.heap.objs.size ≤ D → D ∈ X → J X n ys h' → h'.PlainList D ys.toArray → (∀ b o, b ∉ wr → s₂.heap.get? b = some o → h'.get? b = some o) → Q (.ref D) { s₂ with heap := h', toks := tk })) E s₁) E s) :
    wpAny (model prog w) A (eval (.ListComp elt [⟨.Name x px, iter, ifs, 0⟩] scope pos) env) Q E s := by
  exact skolem cv0 (fun x => Scomp_cell x.1 x.2.1 x.2.2.1 x.2.2.2.1 x.2.2.2.2.1 x.2.2.2.2.2.1 x.2.2.2.2.2.2.1 x.2.2.2.2.2.2.2.1 x.2.2.2.2.2.2.2.2.1 x.2.2.2.2.2.2.2.2.2.1 x.2.2.2.2.2.2.2.2.2.2.1 x.2.2.2.2.2.2.2.2.2.2.2.1 x.2.2.2.2.2.2.2.2.2.2.2.2.1 x.2.2.2.2.2.2.2.2.2.2.2.2.2.1 x.2.2.2.2.2.2.2.2.2.2.2.2.2.2.1) (by with_unfolding_all exact Kcomp_cell.holds) ⟨prog, w, A, E, s, env, elt, iter, x, px, ifs, scope, pos, cl, Q, (Classical.choice cv0).2.2.2.2.2.2.2.2.2.2.2.2.2.2.2.1, (Classical.choice cv0).2.2.2.2.2.2.2.2.2.2.2.2.2.2.2.2⟩ hclos hkind hnames hs hpush hxk hxc h
end
end Mine
end OfA31
section OfD3
open PySem PySem.W PyProof.Rows
set_option Elab.async false
set_option maxRecDepth 100000
namespace Mine
noncomputable section
theorem strs_at {l : List Value} {ys : List Str} (h : StrsAre l ys) {j : Nat} {y : Str} (e : ys[j]? = some y) : ∃ t, l[j]? = some (.str y t) := by
  induction h generalizing j with
  | nil => cases e
  | cons z t _ ih =>
    cases j with
    | zero => cases e; exact ⟨t, rfl⟩
    | succ j => exact ih e
theorem ints_at2 {l : List Value} {ys : List Int} (h : IntsAre l ys) {j : Nat} {y : Int} (e : ys[j]? = some y) : ∃ t, l[j]? = some (.int y t) := by
  induction h generalizing j with
  | nil => cases e
  | cons z t _ ih =>
    cases j with
    | zero => cases e; exact ⟨t, rfl⟩
    | succ j => exact ih e
theorem T_get (cs : List Int) : ∀ n j, j ≤ n → (runP cs n).T[j]? = some (TT cs j)
  | 0, j, h => by obtain rfl : j = 0 := by omega
                  rfl
  | n + 1, j, h => by
    show ((runP cs n).T ++ [(runP cs n).T.getLastD [] ++ pieceI (nn cs n)])[j]? = _
    have hl := run_T cs n
    by_cases e : j = n + 1
    · subst e
      rw [List.getElem?_append_right (by omega), hl, Nat.sub_self, run_last]
      rfl
    · rw [List.getElem?_append_left (by omega)]
      exact T_get cs n j (by omega)
theorem xT_at {xT : Array Value} {cs : List Int} (hT : StrsAre xT.toList ((runP cs 8).T.map mkS)) (j : Nat) (hj : j ≤ 8) : ∃ t, xT[j]? = some (.str (mkS (TT cs j)) t) := by
  obtain ⟨t, e⟩ := strs_at hT (j := j) (y := mkS (TT cs j)) (by rw [List.getElem?_map, T_get cs 8 j hj]; rfl)
  exact ⟨t, by rw [← Array.getElem?_toList]; exact e⟩
theorem xT_size {xT : Array Value} {cs : List Int} (hT : StrsAre xT.toList ((runP cs 8).T.map mkS)) : xT.size = 9 := by
  have h : ∀ {l : List Value} {ys : List Str}, StrsAre l ys → l.length = ys.length := by
    intro l ys h
    induction h with
    | nil => rfl
    | cons _ _ _ ih => simp [ih]
  have := h hT
  rw [Array.length_toList, List.length_map, run_T] at this
  exact this
theorem TT_small (cs : List Int) (j : Nat) (hj : j ≤ 8) : (TT cs j).length ≤ 1000 := by have := TT_len cs j; omega
theorem sizes_run (cs : List Int) : ∀ n, (runP cs n).sizes = (List.range n).map fun i => 3 + ((TT cs (i + 1)).length : Int)
  | 0 => rfl
  | n + 1 => by
    show (runP cs n).sizes ++ [3 + (((runP cs n).T.getLastD [] ++ pieceI (nn cs n)).length : Int)] = _
    rw [run_last, sizes_run cs n, List.range_succ, List.map_append]
    rfl
theorem sizes_eq (cs : List Int) : (runP cs 8).sizes = (List.range 8).map fun i => 3 + ((TT cs (i + 1)).length : Int) := sizes_run cs 8
end
end Mine
end OfD3
section OfA32
open PySem PySem.W PySem.W.X PySem.Calls PyProof.Rows
set_option Elab.async false
set_option maxRecDepth 100000
set_option maxHeartbeats 4000000
set_option pp.maxSteps 3000
namespace Mine
noncomputable section
theorem filled32 : kk.heap_1 = kk.heap_1 ∧ PySem.Challenge.rw_wu0057_01.name = PySem.Challenge.rw_wu0057_01.name := by
  k_fill
  exact ⟨rfl, rfl⟩

theorem comp_fr {h₂ H : Heap} {wr : List Addr} {C : Addr} {m : Str → Option Value} (hC : h₂.objs.size ≤ C) (hn : H.Ns C m) (k : ∀ b o, b ∉ wr → h₂.get? b = some o → H.get? b = some o) : Fr (hide wr h₂) C H m := by
  refine ⟨hn, fun b o e => ?_, by rw [hide_size]; exact hC⟩
  rw [hide_get] at e
  split at e
  · cases e
  · exact k b o (by assumption) e
theorem hide_at {h : Heap} {wr : List Addr} {a : Addr} {o : Obj} (e : h.get? a = some o) (ha : a ∉ wr) : (hide wr h).get? a = some o := by rw [hide_get, if_neg ha]; exact e
section
variable {M : Model} {A : Around} {E : Value → Shared → Prop} {s : Shared} {env : Env} {gB : Heap} {C : Addr} {m : Str → Option Value} {x : Str} {pos : Pos} {v : Value} {c : Addr} {o : Obj} {Q : Value → Shared → Prop}
theorem nm_is {M : Model} {A : Around} {E : Value → Shared → Prop} {s : Shared} {env : Env} {Q : Value → Shared → Prop} (x : Str) {pos : Pos} (h : wpAny M A (eval (.Name x pos) env) Q E s) : wpAny M A (eval (.Name x pos) env) Q E s := h
theorem nmL (hx : env.kindOf x = some .local) (F : Fr gB C s.heap m) (hv : m x = some v) (h : Q v s) (eC : env.locals = C := by with_unfolding_all rfl) (hk : env.scope.kind = .function := by with_unfolding_all rfl) (hd : (x == ("__debug__" : Str)) = false := by decide) :
    wpAny M A (eval (.Name x pos) env) Q E s := wpAny_Name (wpAny_loadName_local hk hx (eC ▸ F.ns) hv h) hd
theorem nmC (hx : env.kindOf x = some .cell) (hc : env.cells.lookup x = some c) (F : Fr gB C s.heap m) (e : gB.get? c = some o) (d : o.data = .cell (some v)) (h : Q v s) (hk : env.scope.kind = .function := by with_unfolding_all rfl) (hd : (x == ("__debug__" : Str)) = false := by decide) :
    wpAny M A (eval (.Name x pos) env) Q E s := wpAny_Name (wpAny_loadName_cell hk hx hc ⟨o, F.keep _ _ e, d⟩ h) hd
theorem nmN {news : List (Addr × Obj)} (hx : env.kindOf x = some .cell) (hc : env.cells.lookup x = some c) (N : News gB C s.heap news) (hm : (c, o) ∈ news) (d : o.data = .cell (some v)) (h : Q v s) (hk : env.scope.kind = .function := by with_unfolding_all rfl) (hd : (x == ("__debug__" : Str)) = false := by decide) :
    wpAny M A (eval (.Name x pos) env) Q E s := wpAny_Name (wpAny_loadName_cell hk hx hc ⟨o, N.get hm, d⟩ h) hd
theorem nmB (hx : env.kindOf x = some .globalImplicit) {K : Frag} {p : Program} {loose : List Str} {mg mb : Str → Option Value} (F : Fr gB C s.heap m) (X : K.In gB) (T : TopRead p loose mg mb gB) (e : nsIn K mainGlobals x = some none) (hv : bootBuiltins x = some v) (hn : x ≠ "__name__") (h : Q v s)
    (eg : env.globals = mainGlobals := by with_unfolding_all rfl) (eb : env.builtins = builtinsNs := by with_unfolding_all rfl) (hk : env.scope.kind = .function := by with_unfolding_all rfl) (hd : (x == ("__debug__" : Str)) = false := by decide) :
    wpAny M A (eval (.Name x pos) env) Q E s :=
  Name_function_global hk hx (loadGlobal_builtin (env := env) (eg ▸ T.g.keeps F.keep) (mg_none_of X T.g e) (eb ▸ T.b.keeps F.keep) ((T.builtins x hn).trans hv) h) hd
theorem nmG (hx : env.kindOf x = some .globalImplicit) {K : Frag} {p : Program} {loose : List Str} {mg mb : Str → Option Value} (F : Fr gB C s.heap m) (X : K.In gB) (T : TopRead p loose mg mb gB) (e : nsIn K mainGlobals x = some (some v)) (h : Q v s)
    (eg : env.globals = mainGlobals := by with_unfolding_all rfl) (hk : env.scope.kind = .function := by with_unfolding_all rfl) (hd : (x == ("__debug__" : Str)) = false := by decide) :
    wpAny M A (eval (.Name x pos) env) Q E s :=
  Name_function_global hk hx (loadGlobal_global (env := env) (eg ▸ T.g.keeps F.keep) (mg_of X T.g e) h) hd
end
theorem tests_nil {prog : Program} {w : World} {A : Around} {E : Value → Shared → Prop} {s : Shared} {env : Env} {Q : Bool → Shared → Prop} (h : Q true s) : wpAny (model prog w) A (testsOf [] env) Q E s := wpAny_tests_nil h
theorem tests_one {prog : Program} {w : World} {A : Around} {E : Value → Shared → Prop} {s : Shared} {env : Env} {c : Expr} {Q : Bool → Shared → Prop} (h : wpAny (model prog w) A (isTrue c env (eval c env)) (fun b s' => Halt (Q b s')) E s) : wpAny (model prog w) A (testsOf [c] env) Q E s := wpAny_tests_one h
theorem base_sub {prog : Program} {w : World} {A : Around} {E : Value → Shared → Prop} {s : Shared} {value slice : Expr} {gB : Heap} {C D : Addr} {m : Str → Option Value} {its : Array Value} {n j : Nat} {x : Value} {k : Int} {u : Tok} {Q : Value → Shared → Prop} (F : Fr gB C s.heap m) (hg : gB.get? D = some (W.listOf its n)) (hx : its[j]? = some x) (hk : k = (j : Int)) (hj : j < 1000000) (h : Q x s)
    (hs : subscripted slice false (.ref D) (.int k u) = operate [.ref D, .int k u] (getItem (.ref D) (.int k u)) := by with_unfolding_all rfl) :
    wpAny (model prog w) A (subscriptTail value slice (.ref D) (.int k u)) Q E s := by
  subst hk
  have hl : s.heap.IsList D its := ⟨_, F.keep _ _ hg, rfl, _, rfl⟩
  exact tail_any hl.typeIs slot_list_getitem.lookup (wpAny_getItem_list hl (by omega) (by omega) (by rw [Int.toNat_natCast]; exact hx) h) hs
theorem len_mkS {w : World} {A : Around} {E : Value → Shared → Prop} {s : Shared} {l : List Nat} {t : Tok} {Q : Value → Shared → Prop} (hl : l.length ≤ 1000) (h : Q (.int (l.length : Int) (s.toks + 1)) { s with toks := s.toks + 1 + 1 }) : wpAny (model PG w) A (call (.builtin "len") [.str (mkS l) t]) Q E s :=
  P.len_str (by show ¬ ((l.length : Int) ≥ 2 ^ 63); omega) h
theorem list_new {g h h' : Heap} {L D : Addr} {m : Str → Option Value} {news : List (Addr × Obj)} {ys : Array Value} (F : Fr g L h m) (N : News g L h news) (hD : h.objs.size ≤ D) (hl : h'.PlainList D ys) (hk : Keep h h') :
    Fr g L h' m ∧ ∃ n, News g L h' ((D, W.listOf ys n) :: news) ∧ ∀ p ∈ news, p.1 < D := by
  obtain ⟨n, e⟩ := hl
  refine ⟨F.keeps hk, n, fun p hp => ?_, fun p hp => Nat.lt_of_lt_of_le (Heap.lt_size (N p hp).1) hD⟩
  rcases List.mem_cons.mp hp with rfl | hp
  · exact ⟨e, fresh_of F hD⟩
  · exact N.grown hk p hp
theorem fm1 {α β : Type} (f : α → β) (l : List α) : l.flatMap (fun i => [f i]) = l.map f := by
  induction l with
  | nil => rfl
  | cons a l ih => rw [List.flatMap_cons, ih]; rfl
noncomputable def IntR (r : Int) (v : Value) : Prop := ∃ t, v = .int r t
noncomputable def StrR (r : Str) (v : Value) : Prop := ∃ t, v = .str r t
theorem ints_of_paired {rs : List Int} {vs : List Value} (h : Paired IntR rs vs) : IntsAre vs rs := by
  induction h with
  | nil => exact .nil
  | cons e _ ih => obtain ⟨t, rfl⟩ := e; exact .cons _ _ ih
theorem strs_of_paired {rs : List Str} {vs : List Value} (h : Paired StrR rs vs) : StrsAre vs rs := by
  induction h with
  | nil => exact .nil
  | cons e _ ih => obtain ⟨t, rfl⟩ := e; exact .cons _ _ ih
/-- one turn of a comprehension whose results lie off the heap -/
noncomputable def TurnOf {γ : Type} (prog : Program) (w : World) (A : Around) (cenv : Env) (ifs : List Expr) (elt : Expr) (s₂ : Shared) (H : Heap) (tk : Nat) (R : γ → Value → Prop) (o : List γ) : Prop :=
  wpAny (model prog w) A (testsOf ifs cenv) (fun ok s' => ∃ h' tk', s' = { s₂ with heap := h', toks := tk' } ∧ Keep H h' ∧
    if ok = true then wpAny (model prog w) A (eval elt cenv) (fun y s'' => Halt (∃ h'' tk'' r, s'' = { s₂ with heap := h'', toks := tk'' } ∧ Keep h' h'' ∧ R r y ∧ o = [r])) (fun _ _ => False) s' else o = []) (fun _ _ => False) { s₂ with heap := H, toks := tk }

theorem turns_ofL {γ : Type} {prog : Program} {w : World} {A : Around} {env : Env} {scope : Scope} {cl : List (Str × Addr)} {x : Str} {ifs : List Expr} {elt : Expr} {s₂ : Shared} {wr : List Addr} {n : Nat} {P : Nat → Value → Prop} (R : γ → Value → Prop) (out : Nat → List γ)
    (turn : ∀ C, s₂.heap.objs.size ≤ C → ∀ i v H tk m₂, i < n → P i v → H.Ns C m₂ → m₂ x = some v → (∀ b o, b ∉ wr → s₂.heap.get? b = some o → H.get? b = some o) →
      TurnOf prog w A (compEnvW scope cl C env) ifs elt s₂ H tk R (out i)) :
    TurnsL prog w A env scope cl x ifs elt s₂ wr n P (fun _ i ys _ => Paired R ((List.range i).flatMap out) ys) where
  start := fun _ _ => .nil
  stable := fun _ _ _ _ _ h _ => h
  turn := fun D C hD hC i v ys H tk m₂ hi hP hJ hns hm hk _ => by
    refine wpAny_mono (turn C (by have : D < C := hC; exact Nat.le_of_lt (Nat.lt_of_le_of_lt hD hC)) i v H tk m₂ hi hP hns hm hk) (fun ok s' h => ?_) fun _ _ x => x
    obtain ⟨h', tk', e, k, r⟩ := h
    refine ⟨h', tk', e, k, ?_⟩
    cases ok with
    | false =>
      rw [if_neg (by decide)] at r ⊢
      rw [List.range_succ, List.flatMap_append, List.flatMap_singleton, r, List.append_nil]
      exact hJ
    | true =>
      rw [if_pos rfl] at r ⊢
      refine wpAny_mono r (fun y s'' h2 => ?_) fun _ _ x => x
      obtain ⟨h'', tk'', r, e2, k2, hr, e3⟩ := h2
      refine ⟨h'', tk'', e2, k2, ?_⟩
      rw [List.range_succ, List.flatMap_append, List.flatMap_singleton, e3]
      exact Paired.snoc hJ hr

theorem turns_ofC {γ : Type} {prog : Program} {w : World} {A : Around} {env : Env} {scope : Scope} {cl : List (Str × Addr)} {x : Str} {ifs : List Expr} {elt : Expr} {s₂ : Shared} {wr : List Addr} {n : Nat} {P : Nat → Value → Prop} (R : γ → Value → Prop) (out : Nat → List γ)
    (turn : ∀ C, s₂.heap.objs.size ≤ C → ∀ i v H tk m₂, i < n → P i v → H.Ns C m₂ → H.IsCell (C + 1) (some v) → (∀ b o, b ∉ wr → s₂.heap.get? b = some o → H.get? b = some o) →
      TurnOf prog w A (compEnvW scope cl C env) ifs elt s₂ H tk R (out i)) :
    TurnsC prog w A env scope cl x ifs elt s₂ wr n P (fun _ i ys _ => Paired R ((List.range i).flatMap out) ys) where
  start := fun _ _ => .nil
  stable := fun _ _ _ _ _ h _ => h
  turn := fun D C hD hC i v ys H tk m₂ hi hP hJ hns hm hk _ => by
    refine wpAny_mono (turn C (by have : D < C := hC; exact Nat.le_of_lt (Nat.lt_of_le_of_lt hD hC)) i v H tk m₂ hi hP hns hm hk) (fun ok s' h => ?_) fun _ _ x => x
    obtain ⟨h', tk', e, k, r⟩ := h
    refine ⟨h', tk', e, k, ?_⟩
    cases ok with
    | false =>
      rw [if_neg (by decide)] at r ⊢
      rw [List.range_succ, List.flatMap_append, List.flatMap_singleton, r, List.append_nil]
      exact hJ
    | true =>
      rw [if_pos rfl] at r ⊢
      refine wpAny_mono r (fun y s'' h2 => ?_) fun _ _ x => x
      obtain ⟨h'', tk'', r, e2, k2, hr, e3⟩ := h2
      refine ⟨h'', tk'', e2, k2, ?_⟩
      rw [List.range_succ, List.flatMap_append, List.flatMap_singleton, e3]
      exact Paired.snoc hJ hr

theorem src_rangeL {γ : Type} {prog : Program} {w : World} {A : Around} {E : Value → Shared → Prop} {s : Shared} {env : Env} {scope : Scope} {cl : List (Str × Addr)} {x : Str} {ifs : List Expr} {elt : Expr} {Q : Value → Shared → Prop} {r : Addr} {n : Nat} {a b : Int} {t0 u0 v0 : Tok} (hr : IsRange s.heap r a b 1 t0 u0 v0) (hb : b = a + (n : Int)) (ha : -1000000 ≤ a ∧ a ≤ 1000000) (hn : n ≤ 1000000) (hh : A.handled = none) (R : γ → Value → Prop) (out : Nat → List γ)
    (turn : ∀ gB C H tk m₂ i, i < n → ∀ t, Keep s.heap gB → Fr gB C H m₂ → m₂ x = some (.int (a + (i : Int)) t) → TurnOf prog w A (compEnvW scope cl C env) ifs elt s H tk R (out i))
    (fin : ∀ D h' tk ys, s.heap.objs.size ≤ D → Paired R ((List.range n).flatMap out) ys → h'.PlainList D ys.toArray → Keep s.heap h' → Q (.ref D) { s with heap := h', toks := tk }) :
    wpAny (model prog w) A (pyIter (.ref r)) (fun it s₂ => ∃ I fp wr n P St J, it = .ref I ∧ Walks prog w A I fp wr n P St ∧ n ≤ sizeLine ∧ St 0 s₂.heap ∧ (∀ b ∈ fp, b < s₂.heap.objs.size) ∧ (∀ i H, St i H → ∀ b ∈ wr, ∃ o, H.get? b = some o) ∧
      TurnsL prog w A env scope cl x ifs elt s₂ wr n P J ∧
      (∀ D h' tk ys X, s₂.heap.objs.size ≤ D → D ∈ X → J X n ys h' → h'.PlainList D ys.toArray → (∀ b o, b ∉ wr → s₂.heap.get? b = some o → h'.get? b = some o) → Q (.ref D) { s₂ with heap := h', toks := tk })) E s := by
  subst hb
  have esz : Builtin.Range.rangeSize a (a + (n : Int)) 1 = (n : Int) := by rw [rangeSize_nat]; omega
  refine wpAny_pyIter_range hr (small_one (by omega) (by omega) (by omega) (by omega)) ?_
  rw [esz]
  generalize hO : ({ cls := .type "range_iterator", data := .fields #[rawInt a, rawInt (n : Int), rawInt 1] } : Obj) = oI
  have kI : Keep s.heap (s.heap.push oI) := fun b o e => Heap.get?_push_of_some _ e
  have gI : (s.heap.push oI).get? s.heap.objs.size = some oI := Heap.get?_push_size _ (by rw [← hO]; rfl)
  have kB : Keep s.heap (hide [s.heap.objs.size] (s.heap.push oI)) := fun b o e => hide_at (kI b o e) (by have := Heap.lt_size e; intro hm; rw [List.mem_singleton.mp hm] at this; exact Nat.lt_irrefl _ this)
  refine ⟨s.heap.objs.size, [s.heap.objs.size], [s.heap.objs.size], n, fun i v => ∃ t, v = .int (a + (i : Int) * 1) t, fun i h => IsRangeIter h s.heap.objs.size (a + (i : Nat) * 1) ((n : Int) - (i : Nat)) 1, _, rfl, Walks.range hh s.heap.objs.size a 1 n, by rw [sizeLine_eq]; omega, (by show IsRangeIter (s.heap.push oI) _ (a + ((0 : Nat) : Int) * 1) ((n : Int) - ((0 : Nat) : Int)) 1; rw [show a + ((0 : Nat) : Int) * 1 = a by simp, show (n : Int) - ((0 : Nat) : Int) = n by simp]; show (s.heap.push oI).get? _ = some _; rw [gI, ← hO]), ?_, fun i H st b hb => by obtain rfl := List.mem_singleton.mp hb; exact ⟨_, st⟩,
    turns_ofL R out (fun C hC i v H tk m₂ hi hP hns hm hk => ?_), fun D h' tk ys X hD _ hJ hp hk => ?_⟩
  · intro b hb; obtain rfl := List.mem_singleton.mp hb; show _ < (s.heap.push oI).objs.size; rw [Heap.size_push]; exact Nat.lt_succ_self _
  · obtain ⟨t, rfl⟩ := hP; rw [Int.mul_one] at *
    exact turn _ C H tk m₂ i hi t kB (comp_fr hC hns hk) hm
  · refine fin D h' tk ys ?_ hJ hp fun b o e => ?_
    · have h1 : (s.heap.push oI).objs.size ≤ D := hD
      rw [Heap.size_push] at h1
      exact Nat.le_of_succ_le h1
    · refine hk b o ?_ (kI b o e)
      have := Heap.lt_size e
      intro hm; rw [List.mem_singleton.mp hm] at this; exact Nat.lt_irrefl _ this

theorem src_listL {γ : Type} {prog : Program} {w : World} {A : Around} {E : Value → Shared → Prop} {s : Shared} {env : Env} {scope : Scope} {cl : List (Str × Addr)} {x : Str} {ifs : List Expr} {elt : Expr} {Q : Value → Shared → Prop} {r : Addr} {n : Nat} {items : Array Value} (hr : s.heap.IsList r items) (hz : items.size = n) (hn : n ≤ 1000000) (hh : A.handled = none) (R : γ → Value → Prop) (out : Nat → List γ)
    (turn : ∀ gB C H tk m₂ i, i < n → ∀ v, items[i]? = some v → Keep s.heap gB → Fr gB C H m₂ → m₂ x = some (v) → TurnOf prog w A (compEnvW scope cl C env) ifs elt s H tk R (out i))
    (fin : ∀ D h' tk ys, s.heap.objs.size ≤ D → Paired R ((List.range n).flatMap out) ys → h'.PlainList D ys.toArray → Keep s.heap h' → Q (.ref D) { s with heap := h', toks := tk }) :
    wpAny (model prog w) A (pyIter (.ref r)) (fun it s₂ => ∃ I fp wr n P St J, it = .ref I ∧ Walks prog w A I fp wr n P St ∧ n ≤ sizeLine ∧ St 0 s₂.heap ∧ (∀ b ∈ fp, b < s₂.heap.objs.size) ∧ (∀ i H, St i H → ∀ b ∈ wr, ∃ o, H.get? b = some o) ∧
      TurnsL prog w A env scope cl x ifs elt s₂ wr n P J ∧
      (∀ D h' tk ys X, s₂.heap.objs.size ≤ D → D ∈ X → J X n ys h' → h'.PlainList D ys.toArray → (∀ b o, b ∉ wr → s₂.heap.get? b = some o → h'.get? b = some o) → Q (.ref D) { s₂ with heap := h', toks := tk })) E s := by
  subst hz
  refine wpAny_pyIter_list hr ?_
  generalize hO : ({ cls := .type "list_iterator", data := .fields #[.ref r, .int 0 0] } : Obj) = oI
  have hrlt : r < s.heap.objs.size := by obtain ⟨_, e, _⟩ := hr; exact Heap.lt_size e
  have kI : Keep s.heap (s.heap.push oI) := fun b o e => Heap.get?_push_of_some _ e
  have gI : (s.heap.push oI).get? s.heap.objs.size = some oI := Heap.get?_push_size _ (by rw [← hO]; rfl)
  have kB : Keep s.heap (hide [s.heap.objs.size] (s.heap.push oI)) := fun b o e => hide_at (kI b o e) (by have := Heap.lt_size e; intro hm; rw [List.mem_singleton.mp hm] at this; exact Nat.lt_irrefl _ this)
  refine ⟨s.heap.objs.size, [s.heap.objs.size, r], [s.heap.objs.size], items.size, fun i v => items[i]? = some v, fun i h => h.IsListIter s.heap.objs.size r i ∧ h.IsList r items, _, rfl, Walks.list hh s.heap.objs.size r (Nat.ne_of_lt hrlt) items, by rw [sizeLine_eq]; omega, (⟨⟨oI, gI, by rw [← hO], by rw [← hO]; rfl⟩, hr.push _⟩), ?_, fun i H st b hb => by obtain rfl := List.mem_singleton.mp hb; obtain ⟨⟨o, e, _⟩, _⟩ := st; exact ⟨o, e⟩,
    turns_ofL R out (fun C hC i v H tk m₂ hi hP hns hm hk => ?_), fun D h' tk ys X hD _ hJ hp hk => ?_⟩
  · intro b hb
    show b < (s.heap.push oI).objs.size
    rw [Heap.size_push]
    rcases List.mem_cons.mp hb with rfl | hb
    · exact Nat.lt_succ_self _
    · obtain rfl := List.mem_singleton.mp hb; exact Nat.lt_succ_of_lt hrlt
  · skip
    exact turn _ C H tk m₂ i hi v hP kB (comp_fr hC hns hk) hm
  · refine fin D h' tk ys ?_ hJ hp fun b o e => ?_
    · have h1 : (s.heap.push oI).objs.size ≤ D := hD
      rw [Heap.size_push] at h1
      exact Nat.le_of_succ_le h1
    · refine hk b o ?_ (kI b o e)
      have := Heap.lt_size e
      intro hm; rw [List.mem_singleton.mp hm] at this; exact Nat.lt_irrefl _ this

theorem src_rangeC {γ : Type} {prog : Program} {w : World} {A : Around} {E : Value → Shared → Prop} {s : Shared} {env : Env} {scope : Scope} {cl : List (Str × Addr)} {x : Str} {ifs : List Expr} {elt : Expr} {Q : Value → Shared → Prop} {r : Addr} {n : Nat} {a b : Int} {t0 u0 v0 : Tok} (hr : IsRange s.heap r a b 1 t0 u0 v0) (hb : b = a + (n : Int)) (ha : -1000000 ≤ a ∧ a ≤ 1000000) (hn : n ≤ 1000000) (hh : A.handled = none) (R : γ → Value → Prop) (out : Nat → List γ)
    (turn : ∀ gB C H tk m₂ i, i < n → ∀ t, Keep s.heap gB → Fr gB C H m₂ → H.IsCell (C + 1) (some (.int (a + (i : Int)) t)) → gB.get? (C + 1) = none → TurnOf prog w A (compEnvW scope cl C env) ifs elt s H tk R (out i))
    (fin : ∀ D h' tk ys, s.heap.objs.size ≤ D → Paired R ((List.range n).flatMap out) ys → h'.PlainList D ys.toArray → Keep s.heap h' → Q (.ref D) { s with heap := h', toks := tk }) :
    wpAny (model prog w) A (pyIter (.ref r)) (fun it s₂ => ∃ I fp wr n P St J, it = .ref I ∧ Walks prog w A I fp wr n P St ∧ n ≤ sizeLine ∧ St 0 s₂.heap ∧ (∀ b ∈ fp, b < s₂.heap.objs.size) ∧ (∀ i H, St i H → ∀ b ∈ wr, ∃ o, H.get? b = some o) ∧
      TurnsC prog w A env scope cl x ifs elt s₂ wr n P J ∧
      (∀ D h' tk ys X, s₂.heap.objs.size ≤ D → D ∈ X → J X n ys h' → h'.PlainList D ys.toArray → (∀ b o, b ∉ wr → s₂.heap.get? b = some o → h'.get? b = some o) → Q (.ref D) { s₂ with heap := h', toks := tk })) E s := by
  subst hb
  have esz : Builtin.Range.rangeSize a (a + (n : Int)) 1 = (n : Int) := by rw [rangeSize_nat]; omega
  refine wpAny_pyIter_range hr (small_one (by omega) (by omega) (by omega) (by omega)) ?_
  rw [esz]
  generalize hO : ({ cls := .type "range_iterator", data := .fields #[rawInt a, rawInt (n : Int), rawInt 1] } : Obj) = oI
  have kI : Keep s.heap (s.heap.push oI) := fun b o e => Heap.get?_push_of_some _ e
  have gI : (s.heap.push oI).get? s.heap.objs.size = some oI := Heap.get?_push_size _ (by rw [← hO]; rfl)
  have kB : Keep s.heap (hide [s.heap.objs.size] (s.heap.push oI)) := fun b o e => hide_at (kI b o e) (by have := Heap.lt_size e; intro hm; rw [List.mem_singleton.mp hm] at this; exact Nat.lt_irrefl _ this)
  refine ⟨s.heap.objs.size, [s.heap.objs.size], [s.heap.objs.size], n, fun i v => ∃ t, v = .int (a + (i : Int) * 1) t, fun i h => IsRangeIter h s.heap.objs.size (a + (i : Nat) * 1) ((n : Int) - (i : Nat)) 1, _, rfl, Walks.range hh s.heap.objs.size a 1 n, by rw [sizeLine_eq]; omega, (by show IsRangeIter (s.heap.push oI) _ (a + ((0 : Nat) : Int) * 1) ((n : Int) - ((0 : Nat) : Int)) 1; rw [show a + ((0 : Nat) : Int) * 1 = a by simp, show (n : Int) - ((0 : Nat) : Int) = n by simp]; show (s.heap.push oI).get? _ = some _; rw [gI, ← hO]), ?_, fun i H st b hb => by obtain rfl := List.mem_singleton.mp hb; exact ⟨_, st⟩,
    turns_ofC R out (fun C hC i v H tk m₂ hi hP hns hm hk => ?_), fun D h' tk ys X hD _ hJ hp hk => ?_⟩
  · intro b hb; obtain rfl := List.mem_singleton.mp hb; show _ < (s.heap.push oI).objs.size; rw [Heap.size_push]; exact Nat.lt_succ_self _
  · obtain ⟨t, rfl⟩ := hP; rw [Int.mul_one] at *
    exact turn _ C H tk m₂ i hi t kB (comp_fr hC hns hk) hm (by
      rw [hide_get]; split
      · rfl
      · cases q : (s.heap.push oI).get? (C + 1) with
        | none => rfl
        | some o => exact absurd (Heap.lt_size q) (Nat.not_lt.mpr (Nat.le_succ_of_le hC)))
  · refine fin D h' tk ys ?_ hJ hp fun b o e => ?_
    · have h1 : (s.heap.push oI).objs.size ≤ D := hD
      rw [Heap.size_push] at h1
      exact Nat.le_of_succ_le h1
    · refine hk b o ?_ (kI b o e)
      have := Heap.lt_size e
      intro hm; rw [List.mem_singleton.mp hm] at this; exact Nat.lt_irrefl _ this

theorem src_listC {γ : Type} {prog : Program} {w : World} {A : Around} {E : Value → Shared → Prop} {s : Shared} {env : Env} {scope : Scope} {cl : List (Str × Addr)} {x : Str} {ifs : List Expr} {elt : Expr} {Q : Value → Shared → Prop} {r : Addr} {n : Nat} {items : Array Value} (hr : s.heap.IsList r items) (hz : items.size = n) (hn : n ≤ 1000000) (hh : A.handled = none) (R : γ → Value → Prop) (out : Nat → List γ)
    (turn : ∀ gB C H tk m₂ i, i < n → ∀ v, items[i]? = some v → Keep s.heap gB → Fr gB C H m₂ → H.IsCell (C + 1) (some (v)) → gB.get? (C + 1) = none → TurnOf prog w A (compEnvW scope cl C env) ifs elt s H tk R (out i))
    (fin : ∀ D h' tk ys, s.heap.objs.size ≤ D → Paired R ((List.range n).flatMap out) ys → h'.PlainList D ys.toArray → Keep s.heap h' → Q (.ref D) { s with heap := h', toks := tk }) :
    wpAny (model prog w) A (pyIter (.ref r)) (fun it s₂ => ∃ I fp wr n P St J, it = .ref I ∧ Walks prog w A I fp wr n P St ∧ n ≤ sizeLine ∧ St 0 s₂.heap ∧ (∀ b ∈ fp, b < s₂.heap.objs.size) ∧ (∀ i H, St i H → ∀ b ∈ wr, ∃ o, H.get? b = some o) ∧
      TurnsC prog w A env scope cl x ifs elt s₂ wr n P J ∧
      (∀ D h' tk ys X, s₂.heap.objs.size ≤ D → D ∈ X → J X n ys h' → h'.PlainList D ys.toArray → (∀ b o, b ∉ wr → s₂.heap.get? b = some o → h'.get? b = some o) → Q (.ref D) { s₂ with heap := h', toks := tk })) E s := by
  subst hz
  refine wpAny_pyIter_list hr ?_
  generalize hO : ({ cls := .type "list_iterator", data := .fields #[.ref r, .int 0 0] } : Obj) = oI
  have hrlt : r < s.heap.objs.size := by obtain ⟨_, e, _⟩ := hr; exact Heap.lt_size e
  have kI : Keep s.heap (s.heap.push oI) := fun b o e => Heap.get?_push_of_some _ e
  have gI : (s.heap.push oI).get? s.heap.objs.size = some oI := Heap.get?_push_size _ (by rw [← hO]; rfl)
  have kB : Keep s.heap (hide [s.heap.objs.size] (s.heap.push oI)) := fun b o e => hide_at (kI b o e) (by have := Heap.lt_size e; intro hm; rw [List.mem_singleton.mp hm] at this; exact Nat.lt_irrefl _ this)
  refine ⟨s.heap.objs.size, [s.heap.objs.size, r], [s.heap.objs.size], items.size, fun i v => items[i]? = some v, fun i h => h.IsListIter s.heap.objs.size r i ∧ h.IsList r items, _, rfl, Walks.list hh s.heap.objs.size r (Nat.ne_of_lt hrlt) items, by rw [sizeLine_eq]; omega, (⟨⟨oI, gI, by rw [← hO], by rw [← hO]; rfl⟩, hr.push _⟩), ?_, fun i H st b hb => by obtain rfl := List.mem_singleton.mp hb; obtain ⟨⟨o, e, _⟩, _⟩ := st; exact ⟨o, e⟩,
    turns_ofC R out (fun C hC i v H tk m₂ hi hP hns hm hk => ?_), fun D h' tk ys X hD _ hJ hp hk => ?_⟩
  · intro b hb
    show b < (s.heap.push oI).objs.size
    rw [Heap.size_push]
    rcases List.mem_cons.mp hb with rfl | hb
    · exact Nat.lt_succ_self _
    · obtain rfl := List.mem_singleton.mp hb; exact Nat.lt_succ_of_lt hrlt
  · skip
    exact turn _ C H tk m₂ i hi v hP kB (comp_fr hC hns hk) hm (by
      rw [hide_get]; split
      · rfl
      · cases q : (s.heap.push oI).get? (C + 1) with
        | none => rfl
        | some o => exact absurd (Heap.lt_size q) (Nat.not_lt.mpr (Nat.le_succ_of_le hC)))
  · refine fin D h' tk ys ?_ hJ hp fun b o e => ?_
    · have h1 : (s.heap.push oI).objs.size ≤ D := hD
      rw [Heap.size_push] at h1
      exact Nat.le_of_succ_le h1
    · refine hk b o ?_ (kI b o e)
      have := Heap.lt_size e
      intro hm; rw [List.mem_singleton.mp hm] at this; exact Nat.lt_irrefl _ this

theorem comp_rangeL {γ : Type} {prog : Program} {w : World} {A : Around} {E : Value → Shared → Prop} {s : Shared} {env : Env} {elt iter : Expr} {x : Str} {px : Pos} {ifs : List Expr} {scope : Scope} {pos : Pos} {cl : List (Str × Addr)} {Q : Value → Shared → Prop} (n : Nat) (R : γ → Value → Prop) (out : Nat → List γ) (hh : A.handled = none) (hn : n ≤ 1000000)
    (hclos : closureFor scope env = pure cl) (hkind : scope.kind = .function) (hnames : ∀ y ∈ scope.names, y.2 = .local → scope.names.lookup y.1 = some .local) (hs : ∀ x, foldedSetIterable iter env x = pure x)
    (hpush : ∀ h : Heap, pushCells h scope.names = h) (hxk : ∀ C, (compEnvW scope cl C env).kindOf x = some .local)
    (h : wpAny (model prog w) A (eval iter env) (fun xv s₁ => Halt (∃ (r : Addr) (a b : Int) (t0 u0 v0 : Tok), xv = .ref r ∧ IsRange s₁.heap r a b 1 t0 u0 v0 ∧ b = a + (n : Int) ∧ (-1000000 ≤ a ∧ a ≤ 1000000) ∧
      (∀ gB C H tk m₂ i, i < n → ∀ t, Keep s₁.heap gB → Fr gB C H m₂ → m₂ x = some (.int (a + (i : Int)) t) → TurnOf prog w A (compEnvW scope cl C env) ifs elt s₁ H tk R (out i)) ∧
      (∀ D h' tk ys, s₁.heap.objs.size ≤ D → Paired R ((List.range n).flatMap out) ys → h'.PlainList D ys.toArray → Keep s₁.heap h' → Q (.ref D) { s₁ with heap := h', toks := tk }))) E s) :
    wpAny (model prog w) A (eval (.ListComp elt [⟨.Name x px, iter, ifs, 0⟩] scope pos) env) Q E s := by
  refine comp_loc hclos hkind hnames hs hpush hxk (wpAny_mono h (fun xv s₁ h₁ => ?_) fun _ _ x => x)
  obtain ⟨r, a, b, t0, u0, v0, rfl, hr, hb, ha, turn, fin⟩ := h₁
  exact src_rangeL hr hb ha hn hh R out turn fin

theorem comp_listL {γ : Type} {prog : Program} {w : World} {A : Around} {E : Value → Shared → Prop} {s : Shared} {env : Env} {elt iter : Expr} {x : Str} {px : Pos} {ifs : List Expr} {scope : Scope} {pos : Pos} {cl : List (Str × Addr)} {Q : Value → Shared → Prop} (n : Nat) (R : γ → Value → Prop) (out : Nat → List γ) (hh : A.handled = none) (hn : n ≤ 1000000)
    (hclos : closureFor scope env = pure cl) (hkind : scope.kind = .function) (hnames : ∀ y ∈ scope.names, y.2 = .local → scope.names.lookup y.1 = some .local) (hs : ∀ x, foldedSetIterable iter env x = pure x)
    (hpush : ∀ h : Heap, pushCells h scope.names = h) (hxk : ∀ C, (compEnvW scope cl C env).kindOf x = some .local)
    (h : wpAny (model prog w) A (eval iter env) (fun xv s₁ => Halt (∃ (r : Addr) (items : Array Value), xv = .ref r ∧ s₁.heap.IsList r items ∧ items.size = n ∧
      (∀ gB C H tk m₂ i, i < n → ∀ v, items[i]? = some v → Keep s₁.heap gB → Fr gB C H m₂ → m₂ x = some (v) → TurnOf prog w A (compEnvW scope cl C env) ifs elt s₁ H tk R (out i)) ∧
      (∀ D h' tk ys, s₁.heap.objs.size ≤ D → Paired R ((List.range n).flatMap out) ys → h'.PlainList D ys.toArray → Keep s₁.heap h' → Q (.ref D) { s₁ with heap := h', toks := tk }))) E s) :
    wpAny (model prog w) A (eval (.ListComp elt [⟨.Name x px, iter, ifs, 0⟩] scope pos) env) Q E s := by
  refine comp_loc hclos hkind hnames hs hpush hxk (wpAny_mono h (fun xv s₁ h₁ => ?_) fun _ _ x => x)
  obtain ⟨r, items, rfl, hr, hz, turn, fin⟩ := h₁
  exact src_listL hr hz hn hh R out turn fin

theorem comp_rangeC {γ : Type} {prog : Program} {w : World} {A : Around} {E : Value → Shared → Prop} {s : Shared} {env : Env} {elt iter : Expr} {x : Str} {px : Pos} {ifs : List Expr} {scope : Scope} {pos : Pos} {cl : List (Str × Addr)} {Q : Value → Shared → Prop} (n : Nat) (R : γ → Value → Prop) (out : Nat → List γ) (hh : A.handled = none) (hn : n ≤ 1000000)
    (hclos : closureFor scope env = pure cl) (hkind : scope.kind = .function) (hnames : ∀ y ∈ scope.names, y.2 = .local → scope.names.lookup y.1 = some .local) (hs : ∀ x, foldedSetIterable iter env x = pure x)
    (hpush : ∀ h : Heap, pushCells h scope.names = h.push { cls := .type "cell", data := .cell none }) (hxk : ∀ C, (compEnvW scope cl C env).kindOf x = some .cell) (hxc : ∀ C, (compEnvW scope cl C env).cells.lookup x = some (C + 1))
    (h : wpAny (model prog w) A (eval iter env) (fun xv s₁ => Halt (∃ (r : Addr) (a b : Int) (t0 u0 v0 : Tok), xv = .ref r ∧ IsRange s₁.heap r a b 1 t0 u0 v0 ∧ b = a + (n : Int) ∧ (-1000000 ≤ a ∧ a ≤ 1000000) ∧
      (∀ gB C H tk m₂ i, i < n → ∀ t, Keep s₁.heap gB → Fr gB C H m₂ → H.IsCell (C + 1) (some (.int (a + (i : Int)) t)) → gB.get? (C + 1) = none → TurnOf prog w A (compEnvW scope cl C env) ifs elt s₁ H tk R (out i)) ∧
      (∀ D h' tk ys, s₁.heap.objs.size ≤ D → Paired R ((List.range n).flatMap out) ys → h'.PlainList D ys.toArray → Keep s₁.heap h' → Q (.ref D) { s₁ with heap := h', toks := tk }))) E s) :
    wpAny (model prog w) A (eval (.ListComp elt [⟨.Name x px, iter, ifs, 0⟩] scope pos) env) Q E s := by
  refine comp_cell hclos hkind hnames hs hpush hxk hxc (wpAny_mono h (fun xv s₁ h₁ => ?_) fun _ _ x => x)
  obtain ⟨r, a, b, t0, u0, v0, rfl, hr, hb, ha, turn, fin⟩ := h₁
  exact src_rangeC hr hb ha hn hh R out turn fin

theorem comp_listC {γ : Type} {prog : Program} {w : World} {A : Around} {E : Value → Shared → Prop} {s : Shared} {env : Env} {elt iter : Expr} {x : Str} {px : Pos} {ifs : List Expr} {scope : Scope} {pos : Pos} {cl : List (Str × Addr)} {Q : Value → Shared → Prop} (n : Nat) (R : γ → Value → Prop) (out : Nat → List γ) (hh : A.handled = none) (hn : n ≤ 1000000)
    (hclos : closureFor scope env = pure cl) (hkind : scope.kind = .function) (hnames : ∀ y ∈ scope.names, y.2 = .local → scope.names.lookup y.1 = some .local) (hs : ∀ x, foldedSetIterable iter env x = pure x)
    (hpush : ∀ h : Heap, pushCells h scope.names = h.push { cls := .type "cell", data := .cell none }) (hxk : ∀ C, (compEnvW scope cl C env).kindOf x = some .cell) (hxc : ∀ C, (compEnvW scope cl C env).cells.lookup x = some (C + 1))
    (h : wpAny (model prog w) A (eval iter env) (fun xv s₁ => Halt (∃ (r : Addr) (items : Array Value), xv = .ref r ∧ s₁.heap.IsList r items ∧ items.size = n ∧
      (∀ gB C H tk m₂ i, i < n → ∀ v, items[i]? = some v → Keep s₁.heap gB → Fr gB C H m₂ → H.IsCell (C + 1) (some (v)) → gB.get? (C + 1) = none → TurnOf prog w A (compEnvW scope cl C env) ifs elt s₁ H tk R (out i)) ∧
      (∀ D h' tk ys, s₁.heap.objs.size ≤ D → Paired R ((List.range n).flatMap out) ys → h'.PlainList D ys.toArray → Keep s₁.heap h' → Q (.ref D) { s₁ with heap := h', toks := tk }))) E s) :
    wpAny (model prog w) A (eval (.ListComp elt [⟨.Name x px, iter, ifs, 0⟩] scope pos) env) Q E s := by
  refine comp_cell hclos hkind hnames hs hpush hxk hxc (wpAny_mono h (fun xv s₁ h₁ => ?_) fun _ _ x => x)
  obtain ⟨r, items, rfl, hr, hz, turn, fin⟩ := h₁
  exact src_listC hr hz hn hh R out turn fin
end
end Mine
end OfA32
section OfD4
open PySem PySem.W PySem.W.X PySem.Calls PyProof.Rows PyProof.V PySem.Spec PySem.SeqAt
set_option Elab.async false
set_option maxRecDepth 100000
namespace Mine
noncomputable section
theorem shaped_strs (ns : List Str) (hok : ∀ n ∈ ns, PyData.strOk n = true) : shaped (.list (ns.map PyData.str)) = true := by
  have c : ∀ ns : List Str, (∀ n ∈ ns, PyData.strOk n = true) → PyData.canLayAll0 (ns.map PyData.str) = true := by
    intro ns
    induction ns with
    | nil => intro _; simp [PyData.canLayAll0]
    | cons n r ih => intro h; simp [PyData.canLayAll0, PyData.canLay0, ih (fun m hm => h m (List.mem_cons_of_mem _ hm)), h n (List.mem_cons_self ..)]
  have d : ∀ ns : List Str, PyData.depthAll (ns.map PyData.str) ≤ 1 := by
    intro ns
    induction ns with
    | nil => simp [PyData.depthAll]
    | cons n r ih => simp only [List.map_cons, PyData.depthAll, PyData.depth]; omega
  have h1 := d ns
  have h2 : PyData.depth (.list (ns.map PyData.str)) ≤ 64 := by simp only [PyData.depth]; omega
  show (PyData.canLay0 (.list (ns.map PyData.str)) && decide (PyData.depth (.list (ns.map PyData.str)) ≤ 64)) = true
  rw [Bool.and_eq_true]
  exact ⟨by simp only [PyData.canLay0]; exact c ns hok, decide_eq_true h2⟩
theorem noMix_strs : ∀ ns ms : List Str, noMixAll (ns.map PyData.str) (ms.map PyData.str) = true
  | [], [] => by simp [noMixAll]
  | [], _ :: _ => by simp [noMixAll]
  | _ :: _, [] => by simp [noMixAll]
  | _ :: r, _ :: q => by simp [noMixAll, noMix, noMix_strs r q]
theorem same_strs : ∀ ns : List Str, PySem.Spec.sameAll (ns.map PyData.str) (ns.map PyData.str) = true
  | [] => by simp [PySem.Spec.sameAll]
  | n :: r => by simp [PySem.Spec.sameAll, PySem.Spec.same, same_strs r]
theorem ne_strs {prog : Program} {w : World} {A : Around} {E : Value → Shared → Prop} {s : Shared} {a b : Addr} {vs us : List Value} {ns : List Str} {Q : Value → Shared → Prop} (hl : s.heap.IsList a vs.toArray) (hi : StrsAre vs ns) (hl' : s.heap.IsList b us.toArray) (hi' : StrsAre us ns) (hok : ∀ n ∈ ns, PyData.strOk n = true) (hu : A.units + 64 < cLine)
    (h : Q (.bool false) s) : wpAny (model prog w) A (compareOp .NotEq (.ref a) (.ref b)) Q E s := by
  have r1 : Reads s.heap (.ref a) (.list (ns.map PyData.str)) [a] := by
    obtain ⟨o, ho, hc, n, hd⟩ := hl
    exact Reads.list ho hc hd (by simpa using hi.reads s.heap)
  have r2 : Reads s.heap (.ref b) (.list (ns.map PyData.str)) [b] := by
    obtain ⟨o, ho, hc, n, hd⟩ := hl'
    exact Reads.list ho hc hd (by simpa using hi'.reads s.heap)
  exact ne_dataH_same r1 r2 (shaped_strs ns hok) (shaped_strs ns hok) hu (by simp only [noMix]; exact noMix_strs ns ns) (by simp only [PySem.Spec.same]; rw [same_strs]; exact h)
theorem any_ints {l : List Value} {ns : List Int} (h : IntsAre l ns) {x y : Int} (e : x = y) : (l.any fun v => match v with | .int a _ => a == x | _ => false) = decide (y ∈ ns) := by
  subst e
  induction h with
  | nil => rfl
  | cons a t _ ih =>
    rw [List.any_cons, ih]
    by_cases h1 : x = a
    · subst h1; simp
    · have h2 : ¬ a = x := fun q => h1 q.symm
      simp [h1, h2]
/-- what a filter "p <= b" hands on of one number -/
noncomputable def leOut (b y : Int) : List Int := if y ≤ b then [y] else []
theorem leOut_all (b : Int) (l : List Int) : (List.range l.length).flatMap (fun i => leOut b (l.getD i 0)) = l.filter (fun p => decide (p ≤ b)) := by
  have key : ∀ l : List Int, (List.range l.length).map (fun i => l.getD i 0) = l := by
    intro l
    apply List.ext_getElem
    · simp
    · intro i h1 h2
      simp [List.getD_eq_getElem?_getD, List.getElem?_eq_getElem h2]
  have k2 : ∀ l : List Int, l.flatMap (leOut b) = l.filter (fun p => decide (p ≤ b)) := by
    intro l
    induction l with
    | nil => rfl
    | cons a l ih =>
      rw [List.flatMap_cons, ih, List.filter_cons]
      unfold leOut
      by_cases h : a ≤ b <;> simp [h]
  conv => rhs; rw [← k2 l]
  conv => rhs; rw [← key l]
  rw [List.flatMap_map]
end
end Mine
end OfD4
section OfD5
open PySem PySem.W PyProof.Rows
set_option Elab.async false
set_option maxRecDepth 100000
namespace Mine
noncomputable section
noncomputable def gapI (cs : List Int) (i : Nat) : Int := ((pieceI (nn cs i)).length : Int)
noncomputable def depI (cs : List Int) (i : Nat) : Int := (runP cs 8).deps.getD i 0
theorem gap_bound (cs : List Int) (i : Nat) : 1 ≤ gapI cs i ∧ gapI cs i ≤ 4 := by
  have := piece_len (nn cs i)
  unfold gapI
  omega
theorem gap_at {xGp : Array Value} {cs : List Int} (h : IntsAre xGp.toList ((List.range 8).map (gapI cs))) (j : Nat) (hj : j < 8) : ∃ t, xGp[j]? = some (.int (gapI cs j) t) := by
  obtain ⟨t, e⟩ := ints_at2 h (j := j) (y := gapI cs j) (by simp [hj])
  exact ⟨t, by rw [← Array.getElem?_toList]; exact e⟩
theorem dep_at {xD : Array Value} {cs : List Int} (h : IntsAre xD.toList (runP cs 8).deps) (j : Nat) (hj : j ≤ 8) : ∃ t, xD[j]? = some (.int (depI cs j) t) := by
  have hl := run_deps cs 8
  obtain ⟨t, e⟩ := ints_at2 h (j := j) (y := depI cs j) (by unfold depI; rw [List.getD_eq_getElem?_getD, List.getElem?_eq_getElem (by omega)]; rfl)
  exact ⟨t, by rw [← Array.getElem?_toList]; exact e⟩
theorem deps_small (cs : List Int) : ∀ n, ∀ d ∈ (runP cs n).deps, -(n : Int) ≤ d ∧ d ≤ n
  | 0, d, hd => by
    have : d = 0 := by simpa [runP, PS0] using hd
    subst this; exact ⟨by decide, by decide⟩
  | n + 1, d, hd => by
    have ih := deps_small cs n
    have hd' : d ∈ (runP cs n).deps ++ [(runP cs n).deps.getLastD 0 + if gives (nn cs n) (runP cs n) then 1 else -1] := hd
    have hl : -(n : Int) ≤ (runP cs n).deps.getLastD 0 ∧ (runP cs n).deps.getLastD 0 ≤ n := by
      have h1 := run_deps cs n
      cases hT : (runP cs n).deps with
      | nil => rw [hT] at h1; simp at h1
      | cons a l =>
        apply ih
        rw [hT]
        rw [List.getLastD_cons]
        exact List.getLastD_mem_cons
    rcases List.mem_append.mp hd' with h | h
    · have := ih d h; push_cast; omega
    · have := List.mem_singleton.mp h
      subst this
      push_cast
      split <;> omega
theorem dep_bound (cs : List Int) (i : Nat) (hi : i ≤ 8) : -8 ≤ depI cs i ∧ depI cs i ≤ 8 := by
  have hl := run_deps cs 8
  have := deps_small cs 8 (depI cs i) (by
    unfold depI
    rw [List.getD_eq_getElem?_getD, List.getElem?_eq_getElem (by omega)]
    exact List.getElem_mem _)
  exact this
noncomputable def cheapAt (cs : List Int) (i : Nat) : Int := 2 * gapI cs (i + 1) * (if depI cs (i + 1) < 0 then -depI cs (i + 1) else depI cs (i + 1))
noncomputable def cheapI (cs : List Int) : Int := ((List.range 7).map (cheapAt cs)).sum
noncomputable def dearAt (cs : List Int) (i : Nat) : Int := 2 * gapI cs (i + 1) * min ((i : Int) + 1) (8 - ((i : Int) + 1))
noncomputable def dearI (cs : List Int) : Int := ((List.range 7).map (dearAt cs)).sum
end
end Mine
end OfD5
section OfD6
open PySem PySem.W PyProof.Rows
set_option Elab.async false
set_option maxRecDepth 100000
namespace Mine
noncomputable section
theorem TT_pre (cs : List Int) (p : Nat) : ∀ d, ∃ r, TT cs (p + d) = TT cs p ++ r ∧ d ≤ r.length
  | 0 => ⟨[], by simp, Nat.le_refl 0⟩
  | d + 1 => by
    obtain ⟨r, e, h⟩ := TT_pre cs p d
    have := piece_len (nn cs (p + d))
    refine ⟨r ++ pieceI (nn cs (p + d)), ?_, ?_⟩
    · show TT cs (p + d) ++ pieceI (nn cs (p + d)) = _
      rw [e, List.append_assoc]
    · rw [List.length_append]; omega
/-- how far two texts of the road are apart -/
noncomputable def levN (cs : List Int) (p q : Nat) : Int := 2 * (if (TT cs p).length ≤ (TT cs q).length then ((TT cs q).length : Int) - (TT cs p).length else ((TT cs p).length : Int) - (TT cs q).length)
theorem lev_lt (cs : List Int) (p q : Nat) (h : p < q) (hq : q ≤ 8) : ∃ n : Nat, n ≤ (mkS (TT cs p)).length ∧ n ≤ (mkS (TT cs q)).length ∧ mkS (TT cs p) ≠ mkS (TT cs q) ∧ (∀ i, i < n → (mkS (TT cs p)).cps[i]? = (mkS (TT cs q)).cps[i]?) ∧ (mkS (TT cs p)).length = n ∧
    (mkS (TT cs p)).length ≤ 100 ∧ (mkS (TT cs q)).length ≤ 100 ∧ 2 * (((mkS (TT cs p)).length : Int) + (mkS (TT cs q)).length - 2 * n) = levN cs p q ∧ levN cs p q = levN cs q p := by
  obtain ⟨r, e, hr⟩ := TT_pre cs p (q - p)
  rw [show p + (q - p) = q by omega] at e
  have l1 : (mkS (TT cs p)).length = (TT cs p).length := rfl
  have l2 : (mkS (TT cs q)).length = (TT cs q).length := rfl
  have z1 := TT_len cs p
  have z2 := TT_len cs q
  have e2 := congrArg List.length e
  rw [List.length_append] at e2
  refine ⟨(TT cs p).length, by omega, by omega, ?_, fun i hi => ?_, rfl, by omega, by omega, ?_, ?_⟩
  · intro hh
    have := congrArg PySem.Str.length hh
    omega
  · show (TT cs p).toArray[i]? = (TT cs q).toArray[i]?
    rw [List.getElem?_toArray, List.getElem?_toArray, e, List.getElem?_append_left hi]
  · unfold levN
    rw [l1, l2, if_pos (by omega)]
    omega
  · unfold levN
    rw [if_pos (by omega), if_neg (by omega)]
/-- what stands in the lists of givers and takers, post by post -/
theorem run_lists (cs : List Int) : ∀ n, (∀ p ∈ (runP cs n).G, ∃ k : Nat, p = (k : Int) + 1 ∧ k < n ∧ (runP cs n).told[k]? = some (mkS (TT cs (k + 1)))) ∧ (∀ q ∈ (runP cs n).K, ∃ k : Nat, q = (k : Int) + 1 ∧ k < n ∧ (runP cs n).told[k]? = some FAIL) ∧ (∀ p ∈ (runP cs n).G, p ∉ (runP cs n).K) ∧
    (∀ k, k < n → (((k : Int) + 1) ∈ (runP cs n).G ∨ ((k : Int) + 1) ∈ (runP cs n).K))
  | 0 => ⟨(fun p hp => by cases hp), (fun p hp => by cases hp), (fun p hp => by cases hp), fun k hk => absurd hk (Nat.not_lt_zero _)⟩
  | n + 1 => by
    obtain ⟨h1, h2, h3, h4⟩ := run_lists cs n
    have ht : (runP cs (n + 1)).told = (runP cs n).told ++ [if gives (nn cs n) (runP cs n) then ⟨((runP cs n).T.getLastD [] ++ pieceI (nn cs n)).toArray⟩ else FAIL] := rfl
    have hg : (runP cs (n + 1)).G = if gives (nn cs n) (runP cs n) then (runP cs n).G ++ [(n : Int) + 1] else (runP cs n).G := rfl
    have hk : (runP cs (n + 1)).K = if gives (nn cs n) (runP cs n) then (runP cs n).K else (runP cs n).K ++ [(n : Int) + 1] := rfl
    have hl := run_told cs n
    rw [run_last] at ht
    have old : ∀ (k : Nat) (y : Str), k < n → (runP cs n).told[k]? = some y → (runP cs (n + 1)).told[k]? = some y := fun k y hk e => by
      rw [ht, List.getElem?_append_left (by omega)]; exact e
    have new : (runP cs (n + 1)).told[n]? = some (if gives (nn cs n) (runP cs n) then mkS (TT cs (n + 1)) else FAIL) := by
      rw [ht, List.getElem?_append_right (by omega), hl, Nat.sub_self]; rfl
    rw [hg, hk]
    cases hgv : gives (nn cs n) (runP cs n) with
    | true =>
      rw [hgv, if_pos rfl] at new
      rw [if_pos rfl, if_pos rfl]
      refine ⟨fun p hp => ?_, fun q hq => ?_, fun p hp => ?_, fun k hk' => ?_⟩
      · rcases List.mem_append.mp hp with hp | hp
        · obtain ⟨k, e, hk1, e2⟩ := h1 p hp; exact ⟨k, e, by omega, old k _ hk1 e2⟩
        · obtain rfl := List.mem_singleton.mp hp; exact ⟨n, rfl, by omega, new⟩
      · obtain ⟨k, e, hk1, e2⟩ := h2 q hq; exact ⟨k, e, by omega, old k _ hk1 e2⟩
      · rcases List.mem_append.mp hp with hp | hp
        · exact h3 p hp
        · obtain rfl := List.mem_singleton.mp hp
          intro hm
          obtain ⟨k, e, hk1, _⟩ := h2 _ hm; omega
      · rcases Nat.lt_or_ge k n with hlt | hge
        · rcases h4 k hlt with h | h
          · exact .inl (List.mem_append_left _ h)
          · exact .inr h
        · obtain rfl : k = n := by omega
          exact .inl (List.mem_append_right _ (List.mem_singleton_self _))
    | false =>
      rw [hgv, if_neg (by decide)] at new
      rw [if_neg (by decide), if_neg (by decide)]
      refine ⟨fun p hp => ?_, fun q hq => ?_, fun p hp => ?_, fun k hk' => ?_⟩
      · obtain ⟨k, e, hk1, e2⟩ := h1 p hp; exact ⟨k, e, by omega, old k _ hk1 e2⟩
      · rcases List.mem_append.mp hq with hq | hq
        · obtain ⟨k, e, hk1, e2⟩ := h2 q hq; exact ⟨k, e, by omega, old k _ hk1 e2⟩
        · obtain rfl := List.mem_singleton.mp hq; exact ⟨n, rfl, by omega, new⟩
      · intro hm
        rcases List.mem_append.mp hm with hm | hm
        · exact h3 p hp hm
        · obtain rfl := List.mem_singleton.mp hm
          obtain ⟨k, e, hk1, _⟩ := h1 _ hp; omega
      · rcases Nat.lt_or_ge k n with hlt | hge
        · rcases h4 k hlt with h | h
          · exact .inl h
          · exact .inr (List.mem_append_left _ h)
        · obtain rfl : k = n := by omega
          exact .inr (List.mem_append_right _ (List.mem_singleton_self _))
end
end Mine
end OfD6
section OfA41
open PySem PySem.W PySem.W.X PySem.Calls PyProof.Rows
set_option Elab.async false
set_option maxRecDepth 100000
set_option maxHeartbeats 4000000
set_option pp.maxSteps 3000
namespace Mine
noncomputable section
/-- a result that is a list of numbers of its own -/
noncomputable def RowAt (X : List Addr) (lo : Nat) (H : Heap) (r : List Int) (v : Value) : Prop := ∃ (a : Nat) (k : Nat) (vs : List Value), v = .ref a ∧ a ∉ X ∧ lo ≤ a ∧ H.get? a = some (W.listOf vs.toArray k) ∧ IntsAre vs r
noncomputable def RowOf (lo : Nat) (H : Heap) (r : List Int) (v : Value) : Prop := ∃ (a : Nat) (k : Nat) (vs : List Value), v = .ref a ∧ lo ≤ a ∧ H.get? a = some (W.listOf vs.toArray k) ∧ IntsAre vs r
theorem paired_mono {α β : Type} {F G : α → β → Prop} (h : ∀ a b, F a b → G a b) {l : List α} {m : List β} (p : Paired F l m) : Paired G l m := by
  induction p with
  | nil => exact .nil
  | cons e _ ih => exact .cons (h _ _ e) ih
noncomputable def TurnRow (prog : Program) (w : World) (A : Around) (cenv : Env) (ifs : List Expr) (elt : Expr) (s₂ : Shared) (H : Heap) (tk : Nat) (o : List (List Int)) : Prop :=
  wpAny (model prog w) A (testsOf ifs cenv) (fun ok s' => ∃ h' tk', s' = { s₂ with heap := h', toks := tk' } ∧ Keep H h' ∧
    if ok = true then wpAny (model prog w) A (eval elt cenv) (fun y s'' => Halt (∃ h'' tk'' r, s'' = { s₂ with heap := h'', toks := tk'' } ∧ Keep h' h'' ∧ RowOf H.objs.size h'' r y ∧ o = [r])) (fun _ _ => False) s' else o = []) (fun _ _ => False) { s₂ with heap := H, toks := tk }
theorem turns_rowC {prog : Program} {w : World} {A : Around} {env : Env} {scope : Scope} {cl : List (Str × Addr)} {x : Str} {ifs : List Expr} {elt : Expr} {s₂ : Shared} {wr : List Addr} {n : Nat} {P : Nat → Value → Prop} (lo : Nat) (hlo : lo ≤ s₂.heap.objs.size) (out : Nat → List (List Int))
    (turn : ∀ C, s₂.heap.objs.size ≤ C → ∀ i v H tk m₂, i < n → P i v → H.Ns C m₂ → H.IsCell (C + 1) (some v) → (∀ b o, b ∉ wr → s₂.heap.get? b = some o → H.get? b = some o) →
      TurnRow prog w A (compEnvW scope cl C env) ifs elt s₂ H tk (out i)) :
    TurnsC prog w A env scope cl x ifs elt s₂ wr n P (fun X i ys H => Paired (RowAt X lo H) ((List.range i).flatMap out) ys) where
  start := fun _ _ => .nil
  stable := fun X i ys H H' h k => paired_mono (fun r v ⟨a, j, vs, e, h1, h2, h3, h4⟩ => ⟨a, j, vs, e, h1, h2, k a _ h1 h3, h4⟩) h
  turn := fun D C hD hC i v ys H tk m₂ hi hP hJ hns hm hk thr => by
    refine wpAny_mono (turn C (by have : D < C := hC; exact Nat.le_of_lt (Nat.lt_of_le_of_lt hD hC)) i v H tk m₂ hi hP hns hm hk) (fun ok s' h => ?_) fun _ _ x => x
    obtain ⟨h', tk', e, k, r⟩ := h
    refine ⟨h', tk', e, k, ?_⟩
    have up : ∀ h'' : Heap, Keep H h'' → Paired (RowAt (D :: C :: (C + 1) :: wr) lo h'') ((List.range i).flatMap out) ys := fun h'' k => paired_mono (fun r v ⟨a, j, vs, e, h1, h2, h3, h4⟩ => ⟨a, j, vs, e, h1, h2, k a _ h3, h4⟩) hJ
    cases ok with
    | false =>
      rw [if_neg (by decide)] at r ⊢
      rw [List.range_succ, List.flatMap_append, List.flatMap_singleton, r, List.append_nil]
      exact up _ k
    | true =>
      rw [if_pos rfl] at r ⊢
      refine wpAny_mono r (fun y s'' h2 => ?_) fun _ _ x => x
      obtain ⟨h'', tk'', r, e2, k2, ⟨a, j, vs, e3, h1, h2, h3⟩, e4⟩ := h2
      refine ⟨h'', tk'', e2, k2, ?_⟩
      rw [List.range_succ, List.flatMap_append, List.flatMap_singleton, e4]
      have hDH : D < H.objs.size := by obtain ⟨o, e⟩ := thr D (List.mem_cons_self ..); exact Heap.lt_size e
      refine Paired.snoc (up _ fun b o e => k2 b o (k b o e)) ⟨a, j, vs, e3, fun hm => ?_, Nat.le_trans hlo (Nat.le_trans hD (Nat.le_trans (Nat.le_of_lt hDH) h1)), h2, h3⟩
      obtain ⟨o, e⟩ := thr a hm
      exact Nat.lt_irrefl _ (Nat.lt_of_lt_of_le (Heap.lt_size e) h1)
theorem turns_rowL {prog : Program} {w : World} {A : Around} {env : Env} {scope : Scope} {cl : List (Str × Addr)} {x : Str} {ifs : List Expr} {elt : Expr} {s₂ : Shared} {wr : List Addr} {n : Nat} {P : Nat → Value → Prop} (lo : Nat) (hlo : lo ≤ s₂.heap.objs.size) (out : Nat → List (List Int))
    (turn : ∀ C, s₂.heap.objs.size ≤ C → ∀ i v H tk m₂, i < n → P i v → H.Ns C m₂ → m₂ x = some v → (∀ b o, b ∉ wr → s₂.heap.get? b = some o → H.get? b = some o) →
      TurnRow prog w A (compEnvW scope cl C env) ifs elt s₂ H tk (out i)) :
    TurnsL prog w A env scope cl x ifs elt s₂ wr n P (fun X i ys H => Paired (RowAt X lo H) ((List.range i).flatMap out) ys) where
  start := fun _ _ => .nil
  stable := fun X i ys H H' h k => paired_mono (fun r v ⟨a, j, vs, e, h1, h2, h3, h4⟩ => ⟨a, j, vs, e, h1, h2, k a _ h1 h3, h4⟩) h
  turn := fun D C hD hC i v ys H tk m₂ hi hP hJ hns hm hk thr => by
    refine wpAny_mono (turn C (by have : D < C := hC; exact Nat.le_of_lt (Nat.lt_of_le_of_lt hD hC)) i v H tk m₂ hi hP hns hm hk) (fun ok s' h => ?_) fun _ _ x => x
    obtain ⟨h', tk', e, k, r⟩ := h
    refine ⟨h', tk', e, k, ?_⟩
    have up : ∀ h'' : Heap, Keep H h'' → Paired (RowAt (D :: C :: wr) lo h'') ((List.range i).flatMap out) ys := fun h'' k => paired_mono (fun r v ⟨a, j, vs, e, h1, h2, h3, h4⟩ => ⟨a, j, vs, e, h1, h2, k a _ h3, h4⟩) hJ
    cases ok with
    | false =>
      rw [if_neg (by decide)] at r ⊢
      rw [List.range_succ, List.flatMap_append, List.flatMap_singleton, r, List.append_nil]
      exact up _ k
    | true =>
      rw [if_pos rfl] at r ⊢
      refine wpAny_mono r (fun y s'' h2 => ?_) fun _ _ x => x
      obtain ⟨h'', tk'', r, e2, k2, ⟨a, j, vs, e3, h1, h2, h3⟩, e4⟩ := h2
      refine ⟨h'', tk'', e2, k2, ?_⟩
      rw [List.range_succ, List.flatMap_append, List.flatMap_singleton, e4]
      have hDH : D < H.objs.size := by obtain ⟨o, e⟩ := thr D (List.mem_cons_self ..); exact Heap.lt_size e
      refine Paired.snoc (up _ fun b o e => k2 b o (k b o e)) ⟨a, j, vs, e3, fun hm => ?_, Nat.le_trans hlo (Nat.le_trans hD (Nat.le_trans (Nat.le_of_lt hDH) h1)), h2, h3⟩
      obtain ⟨o, e⟩ := thr a hm
      exact Nat.lt_irrefl _ (Nat.lt_of_lt_of_le (Heap.lt_size e) h1)
theorem src_listC_rows {prog : Program} {w : World} {A : Around} {E : Value → Shared → Prop} {s : Shared} {env : Env} {scope : Scope} {cl : List (Str × Addr)} {x : Str} {ifs : List Expr} {elt : Expr} {Q : Value → Shared → Prop} {r : Addr} {n : Nat} {items : Array Value} (hr : s.heap.IsList r items) (hz : items.size = n) (hn : n ≤ 1000000) (hh : A.handled = none) (out : Nat → List (List Int))
    (turn : ∀ gB C H tk m₂ i, i < n → ∀ v, items[i]? = some v → Keep s.heap gB → Fr gB C H m₂ → H.IsCell (C + 1) (some (v)) → gB.get? (C + 1) = none → TurnRow prog w A (compEnvW scope cl C env) ifs elt s H tk (out i))
    (fin : ∀ D h' tk ys X, s.heap.objs.size ≤ D → D ∈ X → Paired (RowAt X s.heap.objs.size h') ((List.range n).flatMap out) ys → h'.PlainList D ys.toArray → Keep s.heap h' → Q (.ref D) { s with heap := h', toks := tk }) :
    wpAny (model prog w) A (pyIter (.ref r)) (fun it s₂ => ∃ I fp wr n P St J, it = .ref I ∧ Walks prog w A I fp wr n P St ∧ n ≤ sizeLine ∧ St 0 s₂.heap ∧ (∀ b ∈ fp, b < s₂.heap.objs.size) ∧ (∀ i H, St i H → ∀ b ∈ wr, ∃ o, H.get? b = some o) ∧
      TurnsC prog w A env scope cl x ifs elt s₂ wr n P J ∧
      (∀ D h' tk ys X, s₂.heap.objs.size ≤ D → D ∈ X → J X n ys h' → h'.PlainList D ys.toArray → (∀ b o, b ∉ wr → s₂.heap.get? b = some o → h'.get? b = some o) → Q (.ref D) { s₂ with heap := h', toks := tk })) E s := by
  subst hz
  refine wpAny_pyIter_list hr ?_
  generalize hO : ({ cls := .type "list_iterator", data := .fields #[.ref r, .int 0 0] } : Obj) = oI
  have hrlt : r < s.heap.objs.size := by obtain ⟨_, e, _⟩ := hr; exact Heap.lt_size e
  have kI : Keep s.heap (s.heap.push oI) := fun b o e => Heap.get?_push_of_some _ e
  have gI : (s.heap.push oI).get? s.heap.objs.size = some oI := Heap.get?_push_size _ (by rw [← hO]; rfl)
  have kB : Keep s.heap (hide [s.heap.objs.size] (s.heap.push oI)) := fun b o e => hide_at (kI b o e) (by have := Heap.lt_size e; intro hm; rw [List.mem_singleton.mp hm] at this; exact Nat.lt_irrefl _ this)
  refine ⟨s.heap.objs.size, [s.heap.objs.size, r], [s.heap.objs.size], items.size, fun i v => items[i]? = some v, fun i h => h.IsListIter s.heap.objs.size r i ∧ h.IsList r items, _, rfl, Walks.list hh s.heap.objs.size r (Nat.ne_of_lt hrlt) items, by rw [sizeLine_eq]; omega, (⟨⟨oI, gI, by rw [← hO], by rw [← hO]; rfl⟩, hr.push _⟩), ?_, fun i H st b hb => by obtain rfl := List.mem_singleton.mp hb; obtain ⟨⟨o, e, _⟩, _⟩ := st; exact ⟨o, e⟩,
    turns_rowC s.heap.objs.size (by show _ ≤ (s.heap.push oI).objs.size; rw [Heap.size_push]; exact Nat.le_succ _) out (fun C hC i v H tk m₂ hi hP hns hm hk => ?_), fun D h' tk ys X hD hDX hJ hp hk => ?_⟩
  · intro b hb
    show b < (s.heap.push oI).objs.size
    rw [Heap.size_push]
    rcases List.mem_cons.mp hb with rfl | hb
    · exact Nat.lt_succ_self _
    · obtain rfl := List.mem_singleton.mp hb; exact Nat.lt_succ_of_lt hrlt
  · skip
    exact turn _ C H tk m₂ i hi v hP kB (comp_fr hC hns hk) hm (by
      rw [hide_get]; split
      · rfl
      · cases q : (s.heap.push oI).get? (C + 1) with
        | none => rfl
        | some o => exact absurd (Heap.lt_size q) (Nat.not_lt.mpr (Nat.le_succ_of_le hC)))
  · refine fin D h' tk ys X ?_ hDX hJ hp fun b o e => ?_
    · have h1 : (s.heap.push oI).objs.size ≤ D := hD
      rw [Heap.size_push] at h1
      exact Nat.le_of_succ_le h1
    · refine hk b o ?_ (kI b o e)
      have := Heap.lt_size e
      intro hm; rw [List.mem_singleton.mp hm] at this; exact Nat.lt_irrefl _ this

theorem comp_listC_rows {prog : Program} {w : World} {A : Around} {E : Value → Shared → Prop} {s : Shared} {env : Env} {elt iter : Expr} {x : Str} {px : Pos} {ifs : List Expr} {scope : Scope} {pos : Pos} {cl : List (Str × Addr)} {Q : Value → Shared → Prop} (n : Nat) (out : Nat → List (List Int)) (hh : A.handled = none) (hn : n ≤ 1000000)
    (hclos : closureFor scope env = pure cl) (hkind : scope.kind = .function) (hnames : ∀ y ∈ scope.names, y.2 = .local → scope.names.lookup y.1 = some .local) (hs : ∀ x, foldedSetIterable iter env x = pure x)
    (hpush : ∀ h : Heap, pushCells h scope.names = h.push { cls := .type "cell", data := .cell none }) (hxk : ∀ C, (compEnvW scope cl C env).kindOf x = some .cell) (hxc : ∀ C, (compEnvW scope cl C env).cells.lookup x = some (C + 1))
    (h : wpAny (model prog w) A (eval iter env) (fun xv s₁ => Halt (∃ (r : Addr) (items : Array Value), xv = .ref r ∧ s₁.heap.IsList r items ∧ items.size = n ∧
      (∀ gB C H tk m₂ i, i < n → ∀ v, items[i]? = some v → Keep s₁.heap gB → Fr gB C H m₂ → H.IsCell (C + 1) (some (v)) → gB.get? (C + 1) = none → TurnRow prog w A (compEnvW scope cl C env) ifs elt s₁ H tk (out i)) ∧
      (∀ D h' tk ys X, s₁.heap.objs.size ≤ D → D ∈ X → Paired (RowAt X s₁.heap.objs.size h') ((List.range n).flatMap out) ys → h'.PlainList D ys.toArray → Keep s₁.heap h' → Q (.ref D) { s₁ with heap := h', toks := tk }))) E s) :
    wpAny (model prog w) A (eval (.ListComp elt [⟨.Name x px, iter, ifs, 0⟩] scope pos) env) Q E s := by
  refine comp_cell hclos hkind hnames hs hpush hxk hxc (wpAny_mono h (fun xv s₁ h₁ => ?_) fun _ _ x => x)
  obtain ⟨r, items, rfl, hr, hz, turn, fin⟩ := h₁
  exact src_listC_rows hr hz hn hh out turn fin
end
end Mine
end OfA41
section OfA42
open PySem PySem.W PySem.W.X PySem.Calls PyProof.Rows
set_option Elab.async false
set_option maxRecDepth 100000
set_option maxHeartbeats 4000000
set_option pp.maxSteps 3000
namespace Mine
noncomputable section
theorem filled42 : kk.heap_1 = kk.heap_1 ∧ PySem.Challenge.rw_wu0057_01.name = PySem.Challenge.rw_wu0057_01.name := by
  k_fill
  exact ⟨rfl, rfl⟩

local macro_rules | `(tactic| walk_at "nmL") => `(tactic| refine nmL (by with_unfolding_all rfl) (by k_asm) (by assumption) ?_)
local macro_rules | `(tactic| walk_at "nmC") => `(tactic| refine nmC (by with_unfolding_all rfl) (by with_unfolding_all rfl) (by k_asm) (by assumption) (by assumption) ?_)
local macro_rules | `(tactic| walk_at "nmG") => `(tactic| refine nmG (by with_unfolding_all rfl) (by k_asm) (by k_asm) (by k_asm) (by k_is) ?_)
local macro_rules | `(tactic| walk_at "eval ListComp") => `(tactic| refine halt ?_)
local macro_rules | `(tactic| walk_at "subscriptTail") => `(tactic| refine halt ?_)
local macro_rules | `(tactic| walk_at "call ref:60") => `(tactic| refine halt ?_)
local macro_rules | `(tactic| walk_at "call ref") => `(tactic| refine halt ?_)
local macro_rules | `(tactic| walk_at "eval Name") => `(tactic| (k_here; first
  | (refine nm_is "q" ?_; walk_at "nmL")
  | (refine nm_is "givers" ?_; walk_at "nmC")
  | (refine nm_is "takers" ?_; walk_at "nmC")
  | (refine nm_is "told" ?_; walk_at "nmC")
  | (refine nm_is "texts" ?_; walk_at "nmC")
  | (refine nm_is "p" ?_; walk_at "nmC")
  | (refine nm_is "_levenshtein_distance" ?_; walk_at "nmG")))

/-- one row of the table: how far the giver's text lies from each taker's -/
noncomputable def rowI (cs : List Int) (j : Nat) : List Int := (runP cs 8).K.map fun q => levN cs ((runP cs 8).G.getD j 0).toNat q.toNat
theorem getD_map {β : Type} (f : Int → β) (l : List Int) : (List.range l.length).map (fun i => f (l.getD i 0)) = l.map f := by
  apply List.ext_getElem
  · simp
  · intro i h1 h2
    simp at h2
    simp [List.getD_eq_getElem?_getD, List.getElem?_eq_getElem h2]
theorem getD_mem (l : List Int) (j : Nat) (hj : j < l.length) : l.getD j 0 ∈ l := by
  rw [List.getD_eq_getElem?_getD, List.getElem?_eq_getElem hj]
  exact List.getElem_mem _
theorem paired4 {α β : Type} {R : α → β → Prop} {a b c d : α} {ys : List β} (h : Paired R [a, b, c, d] ys) : ∃ y0 y1 y2 y3, ys = [y0, y1, y2, y3] ∧ R a y0 ∧ R b y1 ∧ R c y2 ∧ R d y3 := by
  cases h with
  | cons h0 h => cases h with
    | cons h1 h => cases h with
      | cons h2 h => cases h with
        | cons h3 h => cases h with
          | nil => exact ⟨_, _, _, _, rfl, h0, h1, h2, h3⟩
theorem lev_at (w : World) (mean : ExcName → Option Value) (mg mb : Str → Option Value) (cs : List Int) (p q : Nat) (h : p ≠ q) (hp : p ≤ 8) (hq : q ≤ 8) (t1 t2 t3 : Tok) : Pure 3 w mean mg mb 60 [.str (mkS (TT cs p)) t1, .str (mkS (TT cs q)) t2, .int 0 t3] (fun r => ∃ t, r = .int (levN cs p q) t) := by
  rcases Nat.lt_or_gt_of_ne h with hlt | hgt
  · obtain ⟨n, a1, a2, a3, a4, a5, a6, a7, a8, a9⟩ := lev_lt cs p q hlt hq
    rw [← a8]
    exact lev w mean mg mb _ _ t1 t2 t3 n a1 a2 a3 a4 (.inl a5) a6 a7
  · obtain ⟨n, a1, a2, a3, a4, a5, a6, a7, a8, a9⟩ := lev_lt cs q p hgt hp
    rw [← a9, ← a8, Int.add_comm ((mkS (TT cs q)).length : Int)]
    exact lev w mean mg mb _ _ t1 t2 t3 n a2 a1 (fun e => a3 e.symm) (fun i hi => (a4 i hi).symm) (.inr a5) a7 a6
noncomputable def Ss19 (w : World) (mean : ExcName → Option Value) (mg : Str → Option Value) (mb : Str → Option Value) (g : Heap) (L : Nat) (fa : Nat) (cd : Value) (dp : Nat) (fr : Option (List Env)) (gd : Option (List Code)) (un : Nat) (Q : Flow → Shared → Prop) (s : Shared) (m : Str → Option Value) (aT : Nat) (aG : Nat) (aK : Nat) (aTo : Nat) (aS : Nat) (aD : Nat) (o1 : Obj) (o2 : Obj) (o3 : Obj) (o4 : Obj) (o5 : Obj) (o6 : Obj) (o7 : Obj) (xT : Array Value) (xG : Array Value) (xK : Array Value) (xTo : Array Value) (xS : Array Value) (xD : Array Value) (nT : Nat) (nG : Nat) (nK : Nat) (nTo : Nat) (nS : Nat) (nD : Nat) (p1 : Array Value) (p2 : Array Value) (aGp : Nat) (nGp : Nat) (xGp : Array Value) (cs : List Int) : Prop := ∀ (hS : St w mean mg mb g) (hA : AOk 59 (Around.mk none dp fr gd un)) (F : Fr g L s.heap m) (h0 : 108 < L) (h1 : L + 1 + 1 + 1 + 1 + 1 + 1 + 1 < aT) (h5 : aT < aG) (h6 : aG < aK) (h7 : aK < aTo) (h8 : aTo < aS) (h9 : aS < aD) (h10 : aD < aGp) (l1 : o1.data = .cell (some (.ref aT))) (l2 : o2.data = .cell (some (.ref aG))) (l3 : o3.data = .cell (some (.ref aK))) (l4 : o4.data = .cell (some (.ref aTo))) (l5 : o5.data = .cell (some (.ref aD))) (l6 : o6.data = .cell (some (.ref aGp))) (l7 : o7.data = .cell none) (hT : StrsAre xT.toList ((runP cs 8).T.map mkS)) (hG : IntsAre xG.toList (runP cs 8).G) (hK : IntsAre xK.toList (runP cs 8).K) (hTo : StrsAre xTo.toList (runP cs 8).told) (hG4 : (runP cs 8).G.length = 4) (N : News g L s.heap [(aGp, W.listOf xGp nGp), (aD, W.listOf xD nD), (aS, W.listOf xS nS), (aTo, W.listOf xTo nTo), (aK, W.listOf xK nK), (aG, W.listOf xG nG), (aT, W.listOf xT nT), (L + 1 + 1 + 1 + 1 + 1 + 1 + 1, o7), (L + 1 + 1 + 1 + 1 + 1 + 1, o6), (L + 1 + 1 + 1 + 1 + 1, o5), (L + 1 + 1 + 1 + 1, o4), (L + 1 + 1 + 1, o3), (L + 1 + 1, o2), (L + 1, o1), (101, tabO p1), (108, tabO p2)]) (hQ : ∀ h' tk (r0 r1 r2 r3 k0 k1 k2 k3 aTb nTb : Nat) (v0 v1 v2 v3 : List Value) o7n, Fr g L h' m → News g L h' [(r0, W.listOf v0.toArray k0), (r1, W.listOf v1.toArray k1), (r2, W.listOf v2.toArray k2), (r3, W.listOf v3.toArray k3), (aTb, W.listOf #[.ref r0, .ref r1, .ref r2, .ref r3] nTb), (aGp, W.listOf xGp nGp), (aD, W.listOf xD nD), (aS, W.listOf xS nS), (aTo, W.listOf xTo nTo), (aK, W.listOf xK nK), (aG, W.listOf xG nG), (aT, W.listOf xT nT), (L + 1 + 1 + 1 + 1 + 1 + 1 + 1, o7n), (L + 1 + 1 + 1 + 1 + 1 + 1, o6), (L + 1 + 1 + 1 + 1 + 1, o5), (L + 1 + 1 + 1 + 1, o4), (L + 1 + 1 + 1, o3), (L + 1 + 1, o2), (L + 1, o1), (101, tabO p1), (108, tabO p2)] → IntsAre v0 (rowI cs 0) → IntsAre v1 (rowI cs 1) → IntsAre v2 (rowI cs 2) → IntsAre v3 (rowI cs 3) → o7n.data = .cell (some (.ref aTb)) → Q .next { s with heap := h', toks := tk }),
    wpAny (model PG w) (Around.mk none dp fr gd un) (exec (st 19) (lawEnv L fa cd)) Q (fun _ _ => False) s
noncomputable def cs19 : LV := @Classical.epsilon LV lv0 fun x => ¬ Ss19 x.w x.mean x.mg x.mb x.g x.L x.fa x.cd x.dp x.fr x.gd x.un x.Q x.s x.m x.aT x.aG x.aK x.aTo x.aS x.aD x.o1 x.o2 x.o3 x.o4 x.o5 x.o6 x.o7 x.xT x.xG x.xK x.xTo x.xS x.xD x.nT x.nG x.nK x.nTo x.nS x.nD x.p1 x.p2 x.aGp x.nGp x.xGp x.cs
namespace Ks19
@[irreducible] noncomputable def w : World := cs19.w
@[irreducible] noncomputable def mean : ExcName → Option Value := cs19.mean
@[irreducible] noncomputable def mg : Str → Option Value := cs19.mg
@[irreducible] noncomputable def mb : Str → Option Value := cs19.mb
@[irreducible] noncomputable def g : Heap := cs19.g
@[irreducible] noncomputable def L : Nat := cs19.L
@[irreducible] noncomputable def fa : Nat := cs19.fa
@[irreducible] noncomputable def cd : Value := cs19.cd
@[irreducible] noncomputable def dp : Nat := cs19.dp
@[irreducible] noncomputable def fr : Option (List Env) := cs19.fr
@[irreducible] noncomputable def gd : Option (List Code) := cs19.gd
@[irreducible] noncomputable def un : Nat := cs19.un
@[irreducible] noncomputable def Q : Flow → Shared → Prop := cs19.Q
@[irreducible] noncomputable def s : Shared := cs19.s
@[irreducible] noncomputable def m : Str → Option Value := cs19.m
@[irreducible] noncomputable def aT : Nat := cs19.aT
@[irreducible] noncomputable def aG : Nat := cs19.aG
@[irreducible] noncomputable def aK : Nat := cs19.aK
@[irreducible] noncomputable def aTo : Nat := cs19.aTo
@[irreducible] noncomputable def aS : Nat := cs19.aS
@[irreducible] noncomputable def aD : Nat := cs19.aD
@[irreducible] noncomputable def o1 : Obj := cs19.o1
@[irreducible] noncomputable def o2 : Obj := cs19.o2
@[irreducible] noncomputable def o3 : Obj := cs19.o3
@[irreducible] noncomputable def o4 : Obj := cs19.o4
@[irreducible] noncomputable def o5 : Obj := cs19.o5
@[irreducible] noncomputable def o6 : Obj := cs19.o6
@[irreducible] noncomputable def o7 : Obj := cs19.o7
@[irreducible] noncomputable def xT : Array Value := cs19.xT
@[irreducible] noncomputable def xG : Array Value := cs19.xG
@[irreducible] noncomputable def xK : Array Value := cs19.xK
@[irreducible] noncomputable def xTo : Array Value := cs19.xTo
@[irreducible] noncomputable def xS : Array Value := cs19.xS
@[irreducible] noncomputable def xD : Array Value := cs19.xD
@[irreducible] noncomputable def nT : Nat := cs19.nT
@[irreducible] noncomputable def nG : Nat := cs19.nG
@[irreducible] noncomputable def nK : Nat := cs19.nK
@[irreducible] noncomputable def nTo : Nat := cs19.nTo
@[irreducible] noncomputable def nS : Nat := cs19.nS
@[irreducible] noncomputable def nD : Nat := cs19.nD
@[irreducible] noncomputable def p1 : Array Value := cs19.p1
@[irreducible] noncomputable def p2 : Array Value := cs19.p2
@[irreducible] noncomputable def aGp : Nat := cs19.aGp
@[irreducible] noncomputable def nGp : Nat := cs19.nGp
@[irreducible] noncomputable def xGp : Array Value := cs19.xGp
@[irreducible] noncomputable def cs : List Int := cs19.cs
theorem holds : Ss19 w mean mg mb g L fa cd dp fr gd un Q s m aT aG aK aTo aS aD o1 o2 o3 o4 o5 o6 o7 xT xG xK xTo xS xD nT nG nK nTo nS nD p1 p2 aGp nGp xGp cs := by
  intro hS hA F h0 h1 h5 h6 h7 h8 h9 h10 l1 l2 l3 l4 l5 l6 l7 hT hG hK hTo hG4 N hQ
  have hDec := Dec.cons h10 (.cons h9 (.cons h8 (.cons h7 (.cons h6 (.cons h5 (.cons h1 (decL h0)))))))
  have hA3 := hA
  have X := hS.X
  have T := hS.T
  dsimp only [lawEnv]
  conv in (st 19) => whnf
  conv in (occs := *) (DefRec.scope lawRec) => all_goals whnf
  k_steps
  refine unhalt ?_
  have z1 := ints_len hG
  have z2 := ints_len hK
  have zGK := run_GK cs 8
  obtain ⟨q1, q2, q3, q4⟩ := run_lists cs 8
  refine comp_listC_rows 4 (fun i => [rowI cs i]) rfl (by decide) rfl rfl (by decide) (by intro _; rfl) (by intro _; rfl) (by intro _; rfl) (by intro _; rfl) ?_
  k_steps
  rename Fr _ _ _ _ => F1
  rename News _ _ _ _ => N1
  have eG := N1.get (a := aG) (o := W.listOf xG nG) (by k_mem)
  have eK := N1.get (a := aK) (o := W.listOf xK nK) (by k_mem)
  have eT := N1.get (a := aT) (o := W.listOf xT nT) (by k_mem)
  have eTo := N1.get (a := aTo) (o := W.listOf xTo nTo) (by k_mem)
  have e1 := N1.get (a := L + 1) (o := o1) (by k_mem)
  have e3 := N1.get (a := L + 1 + 1 + 1) (o := o3) (by k_mem)
  have e4 := N1.get (a := L + 1 + 1 + 1 + 1) (o := o4) (by k_mem)
  refine unhalt ⟨_, xG, rfl, ⟨_, eG, rfl, nG, rfl⟩, by rw [← hG4, ← z1]; simp, fun gB C H tk m₂ i hi v hv kB FB hm hno => ?_, fun D h' tk ys X' hD' hDX hp hl hk => ?_⟩
  · have SB : St w mean mg mb gB := (hS.keeps F1.keep).keeps kB
    have b1 := kB _ _ eK
    have b2 := kB _ _ eT
    have b3 := kB _ _ eTo
    have c1 := kB _ _ e1
    have c3 := kB _ _ e3
    have c4 := kB _ _ e4
    clear N1 F1 X T eG eK eT eTo e1 e3 e4 hS
    have X := SB.X
    have T := SB.T
    obtain ⟨y, ey⟩ : ∃ y, ((runP cs 8).G).getD i 0 = y := ⟨_, rfl⟩
    obtain ⟨tv, rfl⟩ := ints_at (i := i) hG (v := v) (by rw [Array.getElem?_toList]; exact hv)
    have ymem := getD_mem _ i (by omega : i < (runP cs 8).G.length)
    have erow : rowI cs i = (runP cs 8).K.map fun q => levN cs y.toNat q.toNat := by unfold rowI; rw [ey]
    rw [ey] at hm ymem
    rw [erow]
    obtain ⟨pk, rfl, hpk, htold⟩ := q1 _ ymem
    obtain ⟨tt, gTo⟩ := strs_at hTo htold
    rw [Array.getElem?_toList] at gTo
    obtain ⟨oc, hoc, hod⟩ := hm
    have N : News gB C H [(C + 1, oc)] := by
      intro p hp
      obtain rfl := List.mem_singleton.mp hp
      exact ⟨hoc, neN (by omega), hno⟩
    refine tests_nil ⟨H, tk, rfl, fun _ _ e => e, ?_⟩
    rw [if_pos rfl]
    dsimp only [compEnvW, relabel]
    conv in (occs := *) (List.map _ _) => all_goals simp only [List.map_cons, List.map_nil]
    conv in (occs := *) (ite _ _ _) => all_goals whnf

    k_steps
    refine unhalt ?_
    refine comp_listL ((runP cs 8).K).length IntR (fun j => [levN cs (pk + 1) (((runP cs 8).K).getD j 0).toNat]) rfl (by omega) rfl rfl (by decide) (by intro _; rfl) (by intro _; rfl) (by intro _; rfl) ?_
    (try dsimp only)
    k_steps
    have i1 := FB.keep _ _ b1
    refine unhalt ⟨_, xK, rfl, ⟨_, i1, rfl, nK, rfl⟩, by rw [← z2]; simp, fun gB2 C2 H2 tk2 m3 j hj v hv kB2 FB2 hm2 => ?_, fun D1 h1' tk1 ys1 hD1 hp1 hl1 hk1 => ?_⟩
    · have SB2 : St w mean mg mb gB2 := (SB.keeps FB.keep).keeps kB2
      obtain ⟨y2, ey2⟩ : ∃ y, ((runP cs 8).K).getD j 0 = y := ⟨_, rfl⟩
      obtain ⟨tv2, rfl⟩ := ints_at (i := j) hK (v := v) (by rw [Array.getElem?_toList]; exact hv)
      have ymem2 := getD_mem _ j hj
      rw [ey2] at hm2 ymem2 ⊢
      have hne : ((pk : Int) + 1) ≠ y2 := fun e => q3 _ ymem (e ▸ ymem2)
      obtain ⟨qk, rfl, hqk, _⟩ := q2 _ ymem2
      obtain ⟨tx, gT⟩ := xT_at hT (qk + 1) (by omega)
      have bc := kB2 _ _ (N.get (a := C + 1) (o := oc) (by k_mem))
      have d2 := kB2 _ _ (FB.keep _ _ b2)
      have d3 := kB2 _ _ (FB.keep _ _ b3)
      have f1 := kB2 _ _ (FB.keep _ _ c1)
      have f4 := kB2 _ _ (FB.keep _ _ c4)
      clear N FB X T
      have X := SB2.X
      have T := SB2.T
      have N2 : News gB2 C2 H2 [] := News.nil
      refine tests_nil ⟨H2, tk2, rfl, fun _ _ e => e, ?_⟩
      rw [if_pos rfl]
      dsimp only [compEnvW, relabel]
      conv in (occs := *) (List.map _ _) => all_goals simp only [List.map_cons, List.map_nil]
      conv in (occs := *) (ite _ _ _) => all_goals whnf

      k_steps
      refine unhalt ?_
      refine base_sub (s := ⟨_, _, _, _, _⟩) FB2 d3 gTo (by omega) (by omega) ?_
      (try dsimp only)
      k_steps
      refine unhalt ?_
      refine base_sub (s := ⟨_, _, _, _, _⟩) FB2 d2 gT (by push_cast; omega) (by omega) ?_
      (try dsimp only)
      k_steps
      refine unhalt ?_
      refine lev_at w mean mg mb cs (pk + 1) (qk + 1) (by omega) (by omega) (by omega) _ _ _ _ ⟨_, _, _, _, _⟩ _ _ (hA3.le (by decide)) (SB2.keeps FB2.keep) fun v h5 tk5 hv5 k5 => ?_
      obtain ⟨t5, rfl⟩ := hv5
      refine unhalt ⟨h5, _, _, rfl, k5, ⟨_, rfl⟩, ?_⟩
      rw [show ((qk : Int) + 1).toNat = qk + 1 by omega]
    · obtain ⟨F3, n3, N3, lt3⟩ := list_new FB N hD1 hl1 hk1
      have hp1' := ints_of_paired hp1
      rw [fm1, getD_map (fun q => levN cs (pk + 1) q.toNat)] at hp1'
      refine unhalt ⟨h1', _, _, rfl, hk1, ⟨D1, n3, ys1, rfl, hD1, N3.get (.head _), hp1'⟩, ?_⟩
      rw [show ((pk : Int) + 1).toNat = pk + 1 by omega]
  · rw [fm1, show (List.range 4).map (rowI cs) = [rowI cs 0, rowI cs 1, rowI cs 2, rowI cs 3] from rfl] at hp
    obtain ⟨w0, w1, w2, w3, rfl, ⟨r0, k0, v0, rfl, x0, y0, z0, s0⟩, ⟨r1, k1, v1, rfl, x1, y1, z1', s1⟩, ⟨r2, k2, v2, rfl, x2, y2, z2', s2⟩, ⟨r3, k3, v3, rfl, x3, y3, z3', s3⟩⟩ := paired4 hp
    obtain ⟨F9, n9, N9, lt9⟩ := list_new F1 N1 hD' hl hk
    have hDD : aGp < D := lt9 (aGp, W.listOf xGp nGp) (by k_mem)
    have hs9 := Heap.lt_size (N1.get (a := aGp) (o := W.listOf xGp nGp) (.head _))
    obtain ⟨ea0, ec0⟩ := fresh_of F1 y0
    obtain ⟨ea1, ec1⟩ := fresh_of F1 y1
    obtain ⟨ea2, ec2⟩ := fresh_of F1 y2
    obtain ⟨ea3, ec3⟩ := fresh_of F1 y3
    have hr0 : aGp < r0 := Nat.lt_of_lt_of_le hs9 y0
    have hr1 : aGp < r1 := Nat.lt_of_lt_of_le hs9 y1
    have hr2 : aGp < r2 := Nat.lt_of_lt_of_le hs9 y2
    have hr3 : aGp < r3 := Nat.lt_of_lt_of_le hs9 y3
    have N10 : News g L h' [(r0, W.listOf v0.toArray k0), (r1, W.listOf v1.toArray k1), (r2, W.listOf v2.toArray k2), (r3, W.listOf v3.toArray k3), (D, W.listOf [Value.ref r0, .ref r1, .ref r2, .ref r3].toArray n9), (aGp, W.listOf xGp nGp), (aD, W.listOf xD nD), (aS, W.listOf xS nS), (aTo, W.listOf xTo nTo), (aK, W.listOf xK nK), (aG, W.listOf xG nG), (aT, W.listOf xT nT), (L + 1 + 1 + 1 + 1 + 1 + 1 + 1, o7), (L + 1 + 1 + 1 + 1 + 1 + 1, o6), (L + 1 + 1 + 1 + 1 + 1, o5), (L + 1 + 1 + 1 + 1, o4), (L + 1 + 1 + 1, o3), (L + 1 + 1, o2), (L + 1, o1), (101, tabO p1), (108, tabO p2)] := by
      intro p hp
      rcases List.mem_cons.mp hp with rfl | hp
      · exact ⟨z0, ea0, ec0⟩
      rcases List.mem_cons.mp hp with rfl | hp
      · exact ⟨z1', ea1, ec1⟩
      rcases List.mem_cons.mp hp with rfl | hp
      · exact ⟨z2', ea2, ec2⟩
      rcases List.mem_cons.mp hp with rfl | hp
      · exact ⟨z3', ea3, ec3⟩
      exact N9 p hp
    clear F1 N1 N9 eG eK eT eTo e1 e3 e4 lt9 hp z0 z1' z2' z3' ea0 ea1 ea2 ea3 ec0 ec1 ec2 ec3 x0 x1 x2 x3 hDX hl hk
    (try dsimp only)
    k_steps
    rename Fr _ _ _ _ => F10
    rename News _ _ _ _ => N10
    exact hQ _ _ r0 r1 r2 r3 k0 k1 k2 k3 D n9 v0 v1 v2 v3 _ F10 N10 s0 s1 s2 s3 (by assumption)
end Ks19
theorem s19 {w : World} {mean : ExcName → Option Value} {mg mb : Str → Option Value} {g : Heap} {L fa : Nat} {cd : Value} {A : Around} {Q : Flow → Shared → Prop} {s : Shared} {m : Str → Option Value}
    {aT aG aK aTo aS aD : Nat} {o1 o2 o3 o4 o5 o6 o7 : Obj} {xT xG xK xTo xS xD : Array Value} {nT nG nK nTo nS nD : Nat} {p1 p2 : Array Value} {aGp nGp : Nat} {xGp : Array Value}
    (hS : St w mean mg mb g) (hA : AOk 59 A) (F : Fr g L s.heap m) (h0 : 108 < L) (h1 : L + 1 + 1 + 1 + 1 + 1 + 1 + 1 < aT) (h5 : aT < aG) (h6 : aG < aK) (h7 : aK < aTo) (h8 : aTo < aS) (h9 : aS < aD) (h10 : aD < aGp) (l1 : o1.data = .cell (some (.ref aT))) (l2 : o2.data = .cell (some (.ref aG))) (l3 : o3.data = .cell (some (.ref aK))) (l4 : o4.data = .cell (some (.ref aTo))) (l5 : o5.data = .cell (some (.ref aD))) (l6 : o6.data = .cell (some (.ref aGp))) (l7 : o7.data = .cell none)
    {cs : List Int} (hT : StrsAre xT.toList ((runP cs 8).T.map mkS)) (hG : IntsAre xG.toList (runP cs 8).G) (hK : IntsAre xK.toList (runP cs 8).K) (hTo : StrsAre xTo.toList (runP cs 8).told) (hG4 : (runP cs 8).G.length = 4) (N : News g L s.heap [(aGp, W.listOf xGp nGp), (aD, W.listOf xD nD), (aS, W.listOf xS nS), (aTo, W.listOf xTo nTo), (aK, W.listOf xK nK), (aG, W.listOf xG nG), (aT, W.listOf xT nT), (L + 1 + 1 + 1 + 1 + 1 + 1 + 1, o7), (L + 1 + 1 + 1 + 1 + 1 + 1, o6), (L + 1 + 1 + 1 + 1 + 1, o5), (L + 1 + 1 + 1 + 1, o4), (L + 1 + 1 + 1, o3), (L + 1 + 1, o2), (L + 1, o1), (101, tabO p1), (108, tabO p2)])
    (hQ : ∀ h' tk (r0 r1 r2 r3 k0 k1 k2 k3 aTb nTb : Nat) (v0 v1 v2 v3 : List Value) o7n, Fr g L h' m → News g L h' [(r0, W.listOf v0.toArray k0), (r1, W.listOf v1.toArray k1), (r2, W.listOf v2.toArray k2), (r3, W.listOf v3.toArray k3), (aTb, W.listOf #[.ref r0, .ref r1, .ref r2, .ref r3] nTb), (aGp, W.listOf xGp nGp), (aD, W.listOf xD nD), (aS, W.listOf xS nS), (aTo, W.listOf xTo nTo), (aK, W.listOf xK nK), (aG, W.listOf xG nG), (aT, W.listOf xT nT), (L + 1 + 1 + 1 + 1 + 1 + 1 + 1, o7n), (L + 1 + 1 + 1 + 1 + 1 + 1, o6), (L + 1 + 1 + 1 + 1 + 1, o5), (L + 1 + 1 + 1 + 1, o4), (L + 1 + 1 + 1, o3), (L + 1 + 1, o2), (L + 1, o1), (101, tabO p1), (108, tabO p2)] → IntsAre v0 (rowI cs 0) → IntsAre v1 (rowI cs 1) → IntsAre v2 (rowI cs 2) → IntsAre v3 (rowI cs 3) → o7n.data = .cell (some (.ref aTb)) → Q .next { s with heap := h', toks := tk }) :
    wpAny (model PG w) A (exec (st 19) (lawEnv L fa cd)) Q (fun _ _ => False) s := by
  obtain ⟨hd0, dp, fr, gd, un⟩ := A
  obtain rfl : hd0 = none := hA.hd
  exact skolem lv0 (fun x => Ss19 x.w x.mean x.mg x.mb x.g x.L x.fa x.cd x.dp x.fr x.gd x.un x.Q x.s x.m x.aT x.aG x.aK x.aTo x.aS x.aD x.o1 x.o2 x.o3 x.o4 x.o5 x.o6 x.o7 x.xT x.xG x.xK x.xTo x.xS x.xD x.nT x.nG x.nK x.nTo x.nS x.nD x.p1 x.p2 x.aGp x.nGp x.xGp x.cs) (by with_unfolding_all exact Ks19.holds) ⟨w, mean, mg, mb, g, L, fa, cd, dp, fr, gd, un, Q, m, s, (Classical.choice lv0).news, (Classical.choice lv0).ls, (Classical.choice lv0).c, (Classical.choice lv0).vs, (Classical.choice lv0).xs, (Classical.choice lv0).its, cs, (Classical.choice lv0).n, (Classical.choice lv0).oc, (Classical.choice lv0).rest, o1, o2, o3, o4, o5, o6, o7, (Classical.choice lv0).d, (Classical.choice lv0).r, aT, aG, aK, aTo, aS, aD, (Classical.choice lv0).it, (Classical.choice lv0).e, (Classical.choice lv0).i, (Classical.choice lv0).nbx, (Classical.choice lv0).tn, (Classical.choice lv0).tk0, (Classical.choice lv0).oI, (Classical.choice lv0).oE, xT, xG, xK, xTo, xS, xD, (Classical.choice lv0).itsbx, nT, nG, nK, nTo, nS, nD, (Classical.choice lv0).nC, (Classical.choice lv0).nr, (Classical.choice lv0).ritems, p1, p2, (Classical.choice lv0).t2, (Classical.choice lv0).t3, (Classical.choice lv0).yT, (Classical.choice lv0).tt, (Classical.choice lv0).tl, (Classical.choice lv0).v, (Classical.choice lv0).tv, (Classical.choice lv0).tm, (Classical.choice lv0).mkS, (Classical.choice lv0).fa', (Classical.choice lv0).fb', (Classical.choice lv0).l, (Classical.choice lv0).mkF, (Classical.choice lv0).bk, (Classical.choice lv0).tw, (Classical.choice lv0).tb, (Classical.choice lv0).td, (Classical.choice lv0).dl, aGp, nGp, xGp, (Classical.choice lv0).r0, (Classical.choice lv0).r1, (Classical.choice lv0).r2, (Classical.choice lv0).r3, (Classical.choice lv0).k0, (Classical.choice lv0).k1, (Classical.choice lv0).k2, (Classical.choice lv0).k3, (Classical.choice lv0).aTb, (Classical.choice lv0).nTb, (Classical.choice lv0).v0, (Classical.choice lv0).v1, (Classical.choice lv0).v2, (Classical.choice lv0).v3, (Classical.choice lv0).aX, (Classical.choice lv0).nX, (Classical.choice lv0).xX, (Classical.choice lv0).ns, (Classical.choice lv0).c0, (Classical.choice lv0).d0, (Classical.choice lv0).tc, (Classical.choice lv0).tf, (Classical.choice lv0).j⟩ hS hA F h0 h1 h5 h6 h7 h8 h9 h10 l1 l2 l3 l4 l5 l6 l7 hT hG hK hTo hG4 N hQ
end
end Mine
end OfA42
local macro_rules | `(tactic| walk_at "nmL") => `(tactic| refine nmL (by with_unfolding_all rfl) (by k_asm) (by assumption) ?_)
local macro_rules | `(tactic| walk_at "nmC") => `(tactic| refine nmC (by with_unfolding_all rfl) (by with_unfolding_all rfl) (by k_asm) (by assumption) (by assumption) ?_)
local macro_rules | `(tactic| walk_at "nmG") => `(tactic| refine nmG (by with_unfolding_all rfl) (by k_asm) (by k_asm) (by k_asm) (by k_is) ?_)
section OfA43
open PySem PySem.W PySem.W.X PySem.Calls PyProof.Rows
set_option Elab.async false
set_option maxRecDepth 100000
set_option maxHeartbeats 4000000
set_option pp.maxSteps 3000
namespace Mine
noncomputable section
section
variable {prog : Program} {w : World} {A : Around} {E : Value → Shared → Prop} {R : Result → Shared → Prop} {s : Shared}
theorem compTurn_pair0 (elt t0 it0 t1 it1 : Expr) (scope : Scope) (pos : Pos) (it acc : Value) (env : Env) :
    compTurn (.ListComp elt [⟨t0, it0, [], 0⟩, ⟨t1, it1, [], 0⟩] scope pos) 0 it acc env = (standAt it0.pos >>= fun _ => pyNext it >>= fun r => match r with
      | none => pure (.done .next)
      | some v => letOwnedTupleGo t0 it v >>= fun _ => assign t0 env v >>= fun _ =>
        (eval it1 env >>= fun x => standAt it1.pos >>= fun _ => foldedSetIterable it1 env x >>= fun x => holding [x] (pyIter x) >>= fun i => runOwn (.compStart (.ListComp elt [⟨t0, it0, [], 0⟩, ⟨t1, it1, [], 0⟩] scope pos) 1 i acc env) env >>= fun _ =>
          again (.compLoop (.ListComp elt [⟨t0, it0, [], 0⟩, ⟨t1, it1, [], 0⟩] scope pos) 0 it acc env))) := by rfl
theorem compTurn_pair1 (elt t0 it0 t1 it1 : Expr) (scope : Scope) (pos : Pos) (it acc : Value) (env : Env) :
    compTurn (.ListComp elt [⟨t0, it0, [], 0⟩, ⟨t1, it1, [], 0⟩] scope pos) 1 it acc env = (standAt it1.pos >>= fun _ => pyNext it >>= fun r => match r with
      | none => pure (.done .next)
      | some v => letOwnedTupleGo t1 it v >>= fun _ => assign t1 env v >>= fun _ =>
        (eval elt env >>= fun x => call (.builtin "list.append") [acc, x] >>= fun _ => pure ()) >>= fun _ =>
          again (.compLoop (.ListComp elt [⟨t0, it0, [], 0⟩, ⟨t1, it1, [], 0⟩] scope pos) 1 it acc env)) := by rfl
theorem codeAny_pair1 {elt t0 it0 t1 it1 : Expr} {scope : Scope} {pos : Pos} {it acc : Value} {env : Env} (I : Nat → Shared → Prop)
    (turn : ∀ n s, I n s → wpAny (model prog w) A (pyNext it) (fun r s₁ => match r with
      | none => R (.ok .next) s₁
      | some v => wpAny (model prog w) A (assign t1 env v) (fun _ s₂ => wpAny (model prog w) A (eval elt env) (fun x s₃ =>
          wpAny (model prog w) A (call (.builtin "list.append") [acc, x]) (fun _ s₄ => ∃ m, m < n ∧ I m s₄) (fun _ _ => False) s₃)
          (fun _ _ => False) s₂) (fun _ _ => False) s₁) (fun _ _ => False) s)
    (n : Nat) (h : I n s) (ht : ∀ v, letOwnedTupleGo t1 it v = pure () := by intro _; rfl) :
    codeAny (model prog w) A (.compLoop (.ListComp elt [⟨t0, it0, [], 0⟩, ⟨t1, it1, [], 0⟩] scope pos) 1 it acc env) R s := by
  refine codeAny_loop rfl I (fun n s hI => ?_) n h
  show wpAny _ A ((compTurn (.ListComp elt [⟨t0, it0, [], 0⟩, ⟨t1, it1, [], 0⟩] scope pos) 1 it acc env).onRaise (fun x => do noteFrame x env; theTreesLotGoes x)) _ _ s
  refine wpAny_onRaise ?_
  rw [compTurn_pair1]
  refine wpAny_bind (wpAny_standAt (wpAny_bind (wpAny_mono (turn n s hI) (fun r s₁ h₁ => ?_) fun _ _ h' => h'.elim)))
  cases r with
  | none => exact wpAny_pure h₁
  | some v =>
    refine wpAny_bind (wpAny_of_eq (ht v) ?_)
    exact wpAny_bind (wpAny_mono h₁ (fun _ s₂ h₂ => wpAny_bind (wpAny_bind (wpAny_mono h₂ (fun x s₃ h₃ => wpAny_bind (wpAny_mono h₃
      (fun _ s₄ h₄ => wpAny_pure (wpAny_pure ⟨rfl, h₄⟩)) fun _ _ h' => h'.elim)) fun _ _ h' => h'.elim))) fun _ _ h' => h'.elim)
theorem codeAny_pair0 {elt t0 it0 t1 it1 : Expr} {scope : Scope} {pos : Pos} {it acc : Value} {env : Env} (I : Nat → Shared → Prop)
    (turn : ∀ n s, I n s → wpAny (model prog w) A (pyNext it) (fun r s₁ => match r with
      | none => R (.ok .next) s₁
      | some v => wpAny (model prog w) A (assign t0 env v) (fun _ s₂ => wpAny (model prog w) A (eval it1 env) (fun x s₃ =>
          wpAny (model prog w) A (pyIter x) (fun i s₄ => codeAny (model prog w) A (.compStart (.ListComp elt [⟨t0, it0, [], 0⟩, ⟨t1, it1, [], 0⟩] scope pos) 1 i acc env)
            (fun r s' => match r with | .ok _ => ∃ m, m < n ∧ I m s' | .error _ => False) s₄) (fun _ _ => False) s₃)
          (fun _ _ => False) s₂) (fun _ _ => False) s₁) (fun _ _ => False) s)
    (n : Nat) (h : I n s) (hs1 : ∀ x, foldedSetIterable it1 env x = pure x) (ht : ∀ v, letOwnedTupleGo t0 it v = pure () := by intro _; rfl) :
    codeAny (model prog w) A (.compLoop (.ListComp elt [⟨t0, it0, [], 0⟩, ⟨t1, it1, [], 0⟩] scope pos) 0 it acc env) R s := by
  refine codeAny_loop rfl I (fun n s hI => ?_) n h
  show wpAny _ A ((compTurn (.ListComp elt [⟨t0, it0, [], 0⟩, ⟨t1, it1, [], 0⟩] scope pos) 0 it acc env).onRaise (fun x => do noteFrame x env; theTreesLotGoes x)) _ _ s
  refine wpAny_onRaise ?_
  rw [compTurn_pair0]
  refine wpAny_bind (wpAny_standAt (wpAny_bind (wpAny_mono (turn n s hI) (fun r s₁ h₁ => ?_) fun _ _ h' => h'.elim)))
  cases r with
  | none => exact wpAny_pure h₁
  | some v =>
    refine wpAny_bind (wpAny_of_eq (ht v) ?_)
    refine wpAny_bind (wpAny_mono h₁ (fun _ s₂ h₂ => wpAny_bind (wpAny_mono h₂ (fun x s₃ h₃ => wpAny_bind (wpAny_standAt (wpAny_bind (wpAny_of_eq (hs1 x) ?_)))) fun _ _ h' => h'.elim)) fun _ _ h' => h'.elim)
    refine wpAny_bind (wpAny_holding (wpAny_mono h₃ (fun i s₄ h₄ => wpAny_bind ?_) fun _ _ h' => h'.elim))
    refine wpAny_onRaise (wpAny_run (codeAny_mono h₄ fun r s' hr => ?_))
    cases r with
    | ok f => exact wpAny_pure ⟨rfl, hr⟩
    | error e => exact hr.elim
theorem codeAny_start1 {elt t0 it0 t1 it1 scope pos it acc env}
    (h0 : codeAny (model prog w) A (.compLoop (.ListComp elt [⟨t0, it0, [], 0⟩, ⟨t1, it1, [], 0⟩] scope pos) 1 it acc env) R s)
    (h : wpAny (model prog w) A (pyIter it) (fun it' s' => codeAny (model prog w) A (.compLoop (.ListComp elt [⟨t0, it0, [], 0⟩, ⟨t1, it1, [], 0⟩] scope pos) 1 it' acc env) R s')
      (fun _ _ => False) s) :
    codeAny (model prog w) A (.compStart (.ListComp elt [⟨t0, it0, [], 0⟩, ⟨t1, it1, [], 0⟩] scope pos) 1 it acc env) R s := by
  refine codeAny_of_tree ?_
  show wpAny _ _ ((compStart (.ListComp elt [⟨t0, it0, [], 0⟩, ⟨t1, it1, [], 0⟩] scope pos) 1 it acc env).onRaise (fun x => do noteFrame x env; standAt theWindowsPlace)) _ _ s
  refine wpAny_onRaise ?_
  unfold compStart
  show wpAny _ _ (ask >>= _) _ _ s
  refine wpAny_bind (wpAny_askSetting (wpAny_ite ?_))
  split
  · first
      | exact wpAny_bind (wpAny_pure (wpAny_pure (And.intro rfl h0)))
      | exact wpAny_pure (And.intro rfl h0)
  · first
      | exact wpAny_bind (wpAny_rule (wpAny_bind (wpAny_standAt (wpAny_bind (wpAny_mono h (fun it' s' h' => wpAny_pure (And.intro rfl h')) fun _ _ x => x.elim)))))
      | (refine wpAny_bind (wpAny_rule ?_); show wpAny _ _ (standAt it1.pos >>= _) _ _ s; exact wpAny_bind (wpAny_standAt (wpAny_bind (wpAny_mono h (fun it' s' h' => wpAny_pure (And.intro rfl h')) fun _ _ x => x.elim))))
end
end
end Mine
end OfA43
section OfA44
open PySem PySem.W PySem.W.X PySem.Calls PyProof.Rows
set_option Elab.async false
set_option maxRecDepth 100000
set_option maxHeartbeats 4000000
set_option pp.maxSteps 3000
namespace Mine
noncomputable section
/-- a list of lists of numbers, all of them new -/
noncomputable def OrdRes (lo : Nat) (h : Heap) (rs : List (List Int)) (v : Value) : Prop := ∃ (a k : Nat) (vs : List Value), v = .ref a ∧ lo ≤ a ∧ h.get? a = some (W.listOf vs.toArray k) ∧ Paired (RowOf lo h) rs vs
theorem paired_get {α β : Type} {R : α → β → Prop} {l : List α} {m : List β} (h : Paired R l m) {j : Nat} (hj : j < l.length) : ∃ a b, l[j]? = some a ∧ m[j]? = some b ∧ R a b := by
  induction h generalizing j with
  | nil => simp at hj
  | cons e _ ih =>
    cases j with
    | zero => exact ⟨_, _, rfl, rfl, e⟩
    | succ j => exact ih (by simpa using hj)
@[reducible] noncomputable def PairI (s₁ : Shared) (hI' : Heap) (I r D n : Nat) (mid : Nat → List (List Int)) (f : Nat → List Int → List Int) (k : Nat) (s' : Shared) : Prop :=
  ∃ H tk m₂ ys i ov, s' = { s₁ with heap := H, toks := tk } ∧ H.IsListIter I r i ∧ H.PlainList D ys.toArray ∧ H.Ns (D + 1) m₂ ∧ H.IsCell (D + 1 + 1) ov ∧ Paired (RowAt [I, D, D + 1, D + 1 + 1] I H) ((List.range i).flatMap fun i => (mid i).map (f i)) ys ∧ i ≤ n ∧ ys.length ≤ 1000 * i ∧ k = n + 1 - i ∧ (∀ b o, b ∉ [I] → hI'.get? b = some o → H.get? b = some o)
@[reducible] noncomputable def PairJ (s₁ : Shared) (h₄ : Heap) (I J D a i z : Nat) (mid : Nat → List (List Int)) (f : Nat → List Int → List Int) (k : Nat) (s' : Shared) : Prop :=
  ∃ H tk m₃ zs j, s' = { s₁ with heap := H, toks := tk } ∧ H.IsListIter J a j ∧ H.PlainList D zs.toArray ∧ H.Ns (D + 1) m₃ ∧ Paired (RowAt [J, I, D, D + 1, D + 1 + 1] I H) (((List.range i).flatMap fun i => (mid i).map (f i)) ++ ((mid i).take j).map (f i)) zs ∧ j ≤ z ∧ zs.length ≤ 1000 * i + j ∧ k = z + 1 - j ∧ (∀ b o, b ∉ [J, D, D + 1] → h₄.get? b = some o → H.get? b = some o)
@[reducible] def JV : Type := (Program) × (World) × (Around) × (Value → Shared → Prop) × (Shared) × (Env) × (Expr) × (Expr) × (Expr) × (Str) × (Str) × (Pos) × (Pos) × (Scope) × (Pos) × (List (Str × Addr)) × (Value → Shared → Prop) × (Nat)
theorem jv0 : Nonempty JV := ⟨⟨PG, W0, (Around.mk none 0 none none 0), fun _ _ => True, {}, default, default, default, default, ⟨#[]⟩, ⟨#[]⟩, default, default, default, default, [], fun _ _ => True, 0⟩⟩
noncomputable def Scomp_pairC (prog : Program) (w : World) (A : Around) (E : Value → Shared → Prop) (s : Shared) (env : Env) (elt : Expr) (iter : Expr) (it1 : Expr) (x : Str) (x1 : Str) (px : Pos) (px1 : Pos) (scope : Scope) (pos : Pos) (cl : List (Str × Addr)) (Q : Value → Shared → Prop) (n : Nat) : Prop := ∀ (mid : Nat → List (List Int)) (f : Nat → List Int → List Int) (hh : A.handled = none) (hn : n ≤ 100) (hmid : ∀ i, i < n → (mid i).length ≤ 1000) (hclos : closureFor scope env = pure cl) (hkind : scope.kind = .function) (hnames : ∀ y ∈ scope.names, y.2 = .local → scope.names.lookup y.1 = some .local) (hs : ∀ x, foldedSetIterable iter env x = pure x) (hs1 : ∀ C x, foldedSetIterable it1 (compEnvW scope cl C env) x = pure x) (hpush : ∀ h : Heap, pushCells h scope.names = h.push { cls := .type "cell", data := .cell none }) (hxk : ∀ C, (compEnvW scope cl C env).kindOf x = some .cell) (hxc : ∀ C, (compEnvW scope cl C env).cells.lookup x = some (C + 1)) (hx1 : ∀ C, (compEnvW scope cl C env).kindOf x1 = some .local) (h : wpAny (model prog w) A (eval iter env) (fun xv s₁ => Halt (∃ (r : Addr) (items : Array Value), xv = .ref r ∧ s₁.heap.IsList r items ∧ items.size = n ∧
      (∀ gB C H tk m₂ i, i < n → ∀ v, items[i]? = some v → Keep s₁.heap gB → Fr gB C H m₂ → H.IsCell (C + 1) (some v) → gB.get? (C + 1) = none → wpAny (model prog w) A (eval it1 (compEnvW scope cl C env)) (fun y s'' => Halt (∃ h'' tk'', s'' = { s₁ with heap := h'', toks := tk'' } ∧ Keep H h'' ∧ OrdRes H.objs.size h'' (mid i) y)) (fun _ _ => False) { s₁ with heap := H, toks := tk }) ∧
      (∀ gB C H tk m₂ i, i < n → ∀ v, items[i]? = some v → Keep s₁.heap gB → Fr gB C H m₂ → H.IsCell (C + 1) (some v) → gB.get? (C + 1) = none → ∀ (a k : Nat) (vs : List Value) (r : List Int), m₂ x1 = some (.ref a) → C + 1 < a → gB.get? a = none → H.get? a = some (W.listOf vs.toArray k) → IntsAre vs r → r ∈ mid i →
        wpAny (model prog w) A (eval elt (compEnvW scope cl C env)) (fun y s'' => Halt (∃ h'' tk'', s'' = { s₁ with heap := h'', toks := tk'' } ∧ Keep H h'' ∧ RowOf H.objs.size h'' (f i r) y)) (fun _ _ => False) { s₁ with heap := H, toks := tk }) ∧
      (∀ D h' tk ys X, s₁.heap.objs.size ≤ D → D ∈ X → Paired (RowAt X s₁.heap.objs.size h') ((List.range n).flatMap fun i => (mid i).map (f i)) ys → h'.PlainList D ys.toArray → Keep s₁.heap h' → Q (.ref D) { s₁ with heap := h', toks := tk }))) E s),
    wpAny (model prog w) A (eval (.ListComp elt [⟨.Name x px, iter, [], 0⟩, ⟨.Name x1 px1, it1, [], 0⟩] scope pos) env) Q E s
noncomputable def ccomp_pairC : JV := @Classical.epsilon JV jv0 fun x => ¬ Scomp_pairC x.1 x.2.1 x.2.2.1 x.2.2.2.1 x.2.2.2.2.1 x.2.2.2.2.2.1 x.2.2.2.2.2.2.1 x.2.2.2.2.2.2.2.1 x.2.2.2.2.2.2.2.2.1 x.2.2.2.2.2.2.2.2.2.1 x.2.2.2.2.2.2.2.2.2.2.1 x.2.2.2.2.2.2.2.2.2.2.2.1 x.2.2.2.2.2.2.2.2.2.2.2.2.1 x.2.2.2.2.2.2.2.2.2.2.2.2.2.1 x.2.2.2.2.2.2.2.2.2.2.2.2.2.2.1 x.2.2.2.2.2.2.2.2.2.2.2.2.2.2.2.1 x.2.2.2.2.2.2.2.2.2.2.2.2.2.2.2.2.1 x.2.2.2.2.2.2.2.2.2.2.2.2.2.2.2.2.2
namespace Kcomp_pairC
@[irreducible] noncomputable def prog : Program := ccomp_pairC.1
@[irreducible] noncomputable def w : World := ccomp_pairC.2.1
@[irreducible] noncomputable def A : Around := ccomp_pairC.2.2.1
@[irreducible] noncomputable def E : Value → Shared → Prop := ccomp_pairC.2.2.2.1
@[irreducible] noncomputable def s : Shared := ccomp_pairC.2.2.2.2.1
@[irreducible] noncomputable def env : Env := ccomp_pairC.2.2.2.2.2.1
@[irreducible] noncomputable def elt : Expr := ccomp_pairC.2.2.2.2.2.2.1
@[irreducible] noncomputable def iter : Expr := ccomp_pairC.2.2.2.2.2.2.2.1
@[irreducible] noncomputable def it1 : Expr := ccomp_pairC.2.2.2.2.2.2.2.2.1
@[irreducible] noncomputable def x : Str := ccomp_pairC.2.2.2.2.2.2.2.2.2.1
@[irreducible] noncomputable def x1 : Str := ccomp_pairC.2.2.2.2.2.2.2.2.2.2.1
@[irreducible] noncomputable def px : Pos := ccomp_pairC.2.2.2.2.2.2.2.2.2.2.2.1
@[irreducible] noncomputable def px1 : Pos := ccomp_pairC.2.2.2.2.2.2.2.2.2.2.2.2.1
@[irreducible] noncomputable def scope : Scope := ccomp_pairC.2.2.2.2.2.2.2.2.2.2.2.2.2.1
@[irreducible] noncomputable def pos : Pos := ccomp_pairC.2.2.2.2.2.2.2.2.2.2.2.2.2.2.1
@[irreducible] noncomputable def cl : List (Str × Addr) := ccomp_pairC.2.2.2.2.2.2.2.2.2.2.2.2.2.2.2.1
@[irreducible] noncomputable def Q : Value → Shared → Prop := ccomp_pairC.2.2.2.2.2.2.2.2.2.2.2.2.2.2.2.2.1
@[irreducible] noncomputable def n : Nat := ccomp_pairC.2.2.2.2.2.2.2.2.2.2.2.2.2.2.2.2.2
theorem holds : Scomp_pairC prog w A E s env elt iter it1 x x1 px px1 scope pos cl Q n := by
  intro mid f hh hn hmid hclos hkind hnames hs hs1 hpush hxk hxc hx1 h
  rw [eval_ListComp]
  refine wpAny_comprehension_free (use := none) rfl hs hclos hkind hnames (wpAny_mono h (fun xv s₁ h₁ => ?_) fun _ _ e => e)
  obtain ⟨r, items, rfl, hr, hz, turnA, turnB, fin⟩ := h₁
  clear h
  refine wpAny_pyIter_list hr ?_
  generalize hO : ({ cls := .type "list_iterator", data := .fields #[.ref r, .int 0 0] } : Obj) = oI
  obtain ⟨I, hI⟩ : ∃ I : Nat, s₁.heap.objs.size = I := ⟨_, rfl⟩
  have hrI : r < I := by obtain ⟨_, e, _⟩ := hr; exact hI ▸ Heap.lt_size e
  have kI : Keep s₁.heap (s₁.heap.push oI) := fun b o e => Heap.get?_push_of_some _ e
  have gI : (s₁.heap.push oI).get? I = some oI := by rw [← hI]; exact Heap.get?_push_size _ (by rw [← hO]; rfl)
  have kB : Keep s₁.heap (hide [I] (s₁.heap.push oI)) := fun b o e => hide_at (kI b o e) (by have := Heap.lt_size e; rw [hI] at this; intro hm; rw [List.mem_singleton.mp hm] at this; exact Nat.lt_irrefl _ this)
  have hrL : (s₁.heap.push oI).IsList r items := hr.push _
  refine wpAny_newObj_type (newCompEnv ?_)
  dsimp only
  rw [hpush]
  obtain ⟨D, hD⟩ : ∃ D : Nat, (s₁.heap.push oI).objs.size = D := ⟨_, rfl⟩
  have hDI : D = I + 1 := by rw [← hD, Heap.size_push, hI]
  have hDec : Dec [D + 1 + 1, D + 1, D, I, r] := .cons (Nat.lt_succ_self _) (.cons (Nat.lt_succ_self _) (.cons (hDI ▸ Nat.lt_succ_self _) (.cons hrI ⟨fun _ q => (List.not_mem_nil q).elim, trivial⟩)))
  generalize hHI : s₁.heap.push oI = hI' at kI gI kB hrL hD ⊢
  rw [hI, hD]
  have hC : (hI'.push { cls := .type "list", dict := none, data := .seq ([] : List Value).toArray }).objs.size = D + 1 := by rw [Heap.size_push, hD]
  generalize hH1 : hI'.push { cls := .type "list", dict := none, data := .seq ([] : List Value).toArray } = H1 at hC ⊢
  rw [hC]
  generalize hH2 : (H1.push { cls := .type "dict", data := .dict #[] }).push { cls := .type "cell", data := .cell none } = H2
  have z2 : (H1.push { cls := .type "dict", data := .dict #[] }).objs.size = D + 2 := by rw [Heap.size_push, hC]
  have k02 : ∀ b o, hI'.get? b = some o → H2.get? b = some o := fun b o e => by
    rw [← hH2]; exact Heap.get?_push_of_some _ (Heap.get?_push_of_some _ (by rw [← hH1]; exact Heap.get?_push_of_some _ e))
  have gD : H2.get? D = some { cls := .type "list", dict := none, data := .seq ([] : List Value).toArray } := by
    rw [← hH2]; refine Heap.get?_push_of_some _ (Heap.get?_push_of_some _ ?_); rw [← hH1, ← hD]; exact Heap.get?_push_size _ rfl
  have gC : H2.Ns (D + 1) (fun _ => none) := by
    have e := Heap.Ns.new H1 (.type "dict")
    rw [hC] at e
    exact e.keeps fun b o q => by rw [← hH2]; exact Heap.get?_push_of_some _ q
  have gc : H2.IsCell (D + 1 + 1) none := ⟨_, by
    have := Heap.get?_push_size (H1.push { cls := .type "dict", data := .dict #[] }) (o := { cls := .type "cell", data := .cell none }) rfl
    rw [z2, hH2] at this; exact this, rfl⟩
  have old : ∀ (b : Nat) (o : Obj), hI'.get? b = some o → b < D := fun b o e => hD ▸ Heap.lt_size e
  have hno : (hide [I] hI').get? (D + 1 + 1) = none := by
    rw [hide_get]; split
    · rfl
    · cases q : hI'.get? (D + 1 + 1) with
      | none => rfl
      | some o => have := old _ _ q; omega
  have hit0 : H2.IsListIter I r 0 := ⟨oI, k02 _ _ gI, by rw [← hO], by rw [← hO]; rfl⟩
  clear hH1 hH2 hC z2 gI hO hHI
  have frD : ∀ a : Nat, D + 1 < a → (hide [I] hI').get? a = none := fun a ha => by
    rw [hide_get]; split
    · rfl
    · cases q : hI'.get? a with
      | none => rfl
      | some o => have := old _ _ q; omega
  have loop : codeAny (model prog w) A (.compLoop (.ListComp elt [⟨.Name x px, iter, [], 0⟩, ⟨.Name x1 px1, it1, [], 0⟩] scope pos) 0 (.ref I) (.ref D) (compEnvW scope cl (D + 1) env)) (compPost (model prog w) A E none Q (.ref D) (D + 1)) { s₁ with heap := H2 } := by
    refine codeAny_pair0 (PairI s₁ hI' I r D n mid f) ?_ (n + 1)
      ⟨H2, s₁.toks, _, [], 0, _, rfl, hit0, ⟨_, gD⟩, gC, gc, .nil, Nat.zero_le _, Nat.le_refl _, rfl, fun b o _ e => k02 b o e⟩ (hs1 _)
    rintro k s' ⟨H, tk, m₂, ys, i, ov, rfl, hit, hacc, hns, hcell, hJ, hi, hys, rfl, hk⟩
    have rI : r ∉ [I] := fun hm => Nat.ne_of_lt hrI (List.mem_singleton.mp hm)
    have hl : H.IsList r items := by obtain ⟨o, e, q⟩ := hrL; exact ⟨o, hk _ _ rI e, q⟩
    by_cases hlt : i < n
    · obtain ⟨v, hv⟩ : ∃ v, items[i]? = some v := ⟨items[i], by simp [hz, hlt]⟩
      refine wpAny_pyNext_list_item hit hl hv fun h₁ hit₁ hs₁ => ?_
      replace hs₁ : Heap.SameBut I H h₁ := hs₁
      refine wpAny_assign_Name (wpAny_storeName_cell (env := compEnvW scope cl (D + 1) env) hkind (hxk _) (hxc _) (s := { s₁ with heap := h₁, toks := tk }) (by
        obtain ⟨oc, e1, e2⟩ := hcell; exact ⟨oc, hs₁.extBut _ _ (by k_ne) e1, e2⟩) fun h₂ hv₂ hs₂ => ?_)
      replace hs₂ : Heap.SameBut (D + 1 + 1) h₁ h₂ := hs₂
      have k2 : ∀ b o, b ∉ [I, D, D + 1, D + 1 + 1] → H.get? b = some o → h₂.get? b = some o := fun b o hb e => hs₂.extBut b o (fun q => hb (by simp [q])) (hs₁.extBut b o (fun q => hb (by simp [q])) e)
      have up₂ : ∀ b o, b ∉ [I] → hI'.get? b = some o → h₂.get? b = some o := fun b o hb e => hs₂.extBut b o (by have := old b o e; exact neN (by omega)) (hs₁.extBut b o (fun q => hb (by simp [q])) (hk b o hb e))
      have hit₂ : h₂.IsListIter I r (i + 1) := hit₁.at fun o e => hs₂.extBut _ o (by k_ne) e
      have hacc₂ : h₂.PlainList D ys.toArray := hacc.at fun o e => hs₂.extBut _ o (by k_ne) (hs₁.extBut _ o (by k_ne) e)
      have hns₂ : h₂.Ns (D + 1) m₂ := (hns.sameBut hs₁ (by k_ne)).sameBut hs₂ (by k_ne)
      have hJ₂ : Paired (RowAt [I, D, D + 1, D + 1 + 1] I h₂) ((List.range i).flatMap fun i => (mid i).map (f i)) ys := paired_mono (fun r v ⟨a, j, vs, e, h1, h2, h3, h4⟩ => ⟨a, j, vs, e, h1, h2, k2 a _ h1 h3, h4⟩) hJ
      clear hJ hns hacc hit hl hk k2 hs₂ hs₁ hit₁
      have F₂ : Fr (hide [I] hI') (D + 1) h₂ m₂ := comp_fr (by rw [hD]; exact Nat.le_succ _) hns₂ up₂
      refine wpAny_mono (turnA _ (D + 1) h₂ _ m₂ i hlt v hv kB F₂ hv₂ hno) (fun y s₃ h₃ => ?_) (fun _ _ x => x)
      obtain ⟨h₃, tk₃, rfl, k₃, a, ka, vs, rfl, ha, ga, pa⟩ := h₃
      refine wpAny_pyIter_list ⟨_, ga, rfl, _, rfl⟩ ?_
      generalize hOJ : ({ cls := .type "list_iterator", data := .fields #[.ref a, .int 0 0] } : Obj) = oJ
      obtain ⟨J, hJs⟩ : ∃ J : Nat, h₃.objs.size = J := ⟨_, rfl⟩
      have gJ : (h₃.push oJ).get? J = some oJ := by rw [← hJs]; exact Heap.get?_push_size _ (by rw [← hOJ]; rfl)
      have k₄ : Keep h₃ (h₃.push oJ) := fun b o e => Heap.get?_push_of_some _ e
      rw [hJs]
      generalize hh4 : h₃.push oJ = h₄ at gJ k₄ ⊢
      have ltJ : ∀ (b : Nat) (o : Obj), h₃.get? b = some o → b < J := fun b o e => hJs ▸ Heap.lt_size e
      have hz2 : D + 1 + 1 < h₂.objs.size := by obtain ⟨o, e, _⟩ := hv₂; exact Heap.lt_size e
      have haJ : a < J := ltJ _ _ ga
      have hcJ : D + 1 + 1 < J := by obtain ⟨o, e, _⟩ := hv₂; exact ltJ _ _ (k₃ _ _ e)
      have hDec1 := Dec.cons hcJ hDec
      have hpl : (mid i).length = vs.length := pa.length
      have hml := hmid i hlt
      have loop1 : codeAny (model prog w) A (.compLoop (.ListComp elt [⟨.Name x px, iter, [], 0⟩, ⟨.Name x1 px1, it1, [], 0⟩] scope pos) 1 (.ref J) (.ref D) (compEnvW scope cl (D + 1) env)) (fun r' s' => match r' with
          | .ok _ => ∃ m, m < n + 1 - i ∧ PairI s₁ hI' I r D n mid f m s'
          | .error _ => False) { s₁ with heap := h₄, toks := tk₃ } := by
        refine codeAny_pair1 (PairJ s₁ h₄ I J D a i vs.length mid f) ?_ (vs.length + 1)
          ⟨h₄, tk₃, _, ys, 0, rfl, ⟨oJ, gJ, by rw [← hOJ], by rw [← hOJ]; rfl⟩, hacc₂.at fun o e => k₄ _ _ (k₃ _ _ e), (hns₂.keeps k₃).keeps k₄, ?_, Nat.zero_le _, hys, rfl, fun _ _ _ e => e⟩
        · clear turnA fin
          rintro k s' ⟨H, tk, m₃, zs, j, rfl, hit, hacc, hns, hJ, hj, hzs, rfl, hk⟩
          have up : ∀ b o, b ∉ [D, D + 1] → h₃.get? b = some o → H.get? b = some o := fun b o hb e => hk b o (fun hm => by
            rcases List.mem_cons.mp hm with q | hm
            · have := ltJ b o e; omega
            · exact hb hm) (k₄ _ _ e)
          have hl : H.IsList a vs.toArray := ⟨_, up _ _ (fun hm => by simp at hm; omega) ga, rfl, _, rfl⟩
          by_cases hlj : j < vs.length
          · obtain ⟨rj, vj, e1, e2, a', k', vs', rfl, ha', ga', ia'⟩ := paired_get pa (by omega : j < (mid i).length)
            refine wpAny_pyNext_list_item hit hl (x := .ref a') (by simpa using e2) fun h₅ hit₅ hs₅ => ?_
            replace hs₅ : Heap.SameBut J H h₅ := hs₅
            refine wpAny_assign_Name (wpAny_storeName_local (env := compEnvW scope cl (D + 1) env) (hx1 _) (s := { s₁ with heap := h₅, toks := tk }) (hns.sameBut hs₅ (by k_ne)) (fun h₆ hns₆ hs₆ => ?_) (by show (scope.kind == .class || (scope.kind == .module && _)) = false; rw [hkind]; rfl))
            replace hs₆ : Heap.SameBut (D + 1) h₅ h₆ := hs₆
            replace hns₆ : h₆.Ns (D + 1) _ := hns₆
            have k6 : ∀ b o, b ∉ [J, D + 1] → H.get? b = some o → h₆.get? b = some o := fun b o hb e => hs₆.extBut b o (fun q => hb (by simp [q])) (hs₅.extBut b o (fun q => hb (by simp [q])) e)
            have up6 : ∀ b o, b ∉ [D, D + 1] → h₃.get? b = some o → h₆.get? b = some o := fun b o hb e => k6 b o (fun hm => by
              rcases List.mem_cons.mp hm with q | hm
              · have := ltJ b o e; omega
              · exact hb (by simp at hm; simp [hm])) (up b o hb e)
            have F₆ : Fr (hide [I] hI') (D + 1) h₆ _ := comp_fr (by rw [hD]; exact Nat.le_succ _) hns₆ (fun b o hb e => by
              have := old b o e
              exact up6 b o (fun hm => by simp at hm; omega) (k₃ _ _ (up₂ b o hb e)))
            have hc6 : h₆.IsCell (D + 1 + 1) (some v) := by
              obtain ⟨o, q1, q2⟩ := hv₂; exact ⟨o, up6 _ _ (fun hm => by simp at hm; omega) (k₃ _ _ q1), q2⟩
            have ha'2 : D + 1 + 1 < a' := by omega
            refine wpAny_mono (turnB _ (D + 1) h₆ _ _ i hlt v hv kB F₆ hc6 hno a' k' vs' rj (by simp) ha'2 (frD _ (by omega)) (up6 _ _ (fun hm => by simp at hm; omega) ga') ia' (List.mem_of_getElem? e1)) (fun y s₇ h₇ => ?_) (fun _ _ x => x)
            obtain ⟨h₇, tk₇, rfl, k₇, b', kb, wb, rfl, hb', gb', ib'⟩ := h₇
            have hacc₇ : h₇.PlainList D zs.toArray := hacc.at fun o e => k₇ _ _ (k6 _ _ (fun hm => by simp at hm; omega) e)
            have hit₇ : h₇.IsListIter J a (j + 1) := hit₅.at fun o e => k₇ _ _ (hs₆.extBut _ o (by k_ne) e)
            have hJ6 : J < h₆.objs.size := by
              obtain ⟨o, e, _⟩ := hit₅
              exact Heap.lt_size (hs₆.extBut _ o (by k_ne) e)
            refine wpAny_list_append_plain (hsz := by rw [List.size_toArray, sizeLine_eq]; omega) hacc₇ fun h₈ hl₈ hs₈ => ?_
            replace hs₈ : Heap.SameBut D h₇ h₈ := hs₈
            have k68 : ∀ b o, b ∉ [D] → h₆.get? b = some o → h₈.get? b = some o := fun b o hb e => hs₈.extBut b o (fun q => hb (by simp [q])) (k₇ _ _ e)
            have kall : ∀ b o, b ∉ [J, D, D + 1] → H.get? b = some o → h₈.get? b = some o := fun b o hb e => k68 b o (fun hm => hb (by simp at hm; simp [hm])) (k6 b o (fun hm => hb (by simp at hm; rcases hm with q | q <;> simp [q])) e)
            refine ⟨vs.length + 1 - (j + 1), by omega, h₈, tk₇, _, zs ++ [.ref b'], j + 1, rfl, hit₇.at fun o e => hs₈.extBut _ o (by k_ne) e, ?_, (hns₆.keeps k₇).sameBut hs₈ (by k_ne), ?_, hlj, by simp; omega, rfl, fun b o hb e => kall b o hb (hk b o hb e)⟩
            · have e : (zs ++ [Value.ref b']).toArray = zs.toArray.push (.ref b') := by simp
              rw [e]; exact hl₈
            · rw [List.take_add_one, e1]
              simp only [Option.toList_some, List.map_append, List.map_cons, List.map_nil]
              rw [← List.append_assoc]
              refine Paired.snoc (paired_mono (fun r v ⟨a, j, vs, e, h1, h2, h3, h4⟩ => ⟨a, j, vs, e, h1, h2, kall a _ (fun hm => h1 (by simp at hm; rcases hm with q | q | q <;> simp [q])) h3, h4⟩) hJ) ⟨b', kb, wb, rfl, fun hm => ?_, by omega, hs₈.extBut _ _ (by k_ne) gb', ib'⟩
              simp at hm
              omega
          · obtain rfl : j = vs.length := by omega
            refine wpAny_pyNext_list_end hh hit hl (by simp) fun h₅ he => ?_
            have k5 : ∀ b o, b ∉ [J, D, D + 1] → h₄.get? b = some o → h₅.get? b = some o := fun b o hb e => he b o (fun q => hb (by simp [q])) (hk b o hb e)
            refine ⟨n + 1 - (i + 1), by omega, h₅, tk, m₃, zs, i + 1, some v, rfl, hit₂.at fun o e => k5 _ _ (fun hm => by simp at hm; omega) (k₄ _ _ (k₃ _ _ e)), hacc.at fun o e => he _ _ (by k_ne) e, hns.at' fun o e => he _ _ (by k_ne) e, ?_, ?_, hlt, by omega, rfl, fun b o hb e => ?_⟩
            · obtain ⟨o, q1, q2⟩ := hv₂
              exact ⟨o, k5 _ _ (fun hm => by simp at hm; omega) (k₄ _ _ (k₃ _ _ q1)), q2⟩
            · rw [List.take_of_length_le (by omega)] at hJ
              rw [List.range_succ, List.flatMap_append, List.flatMap_singleton]
              exact paired_mono (fun r v ⟨a, j, vs, e, h1, h2, h3, h4⟩ => ⟨a, j, vs, e, fun hm => h1 (List.mem_cons_of_mem _ hm), h2, he a _ (fun q => h1 (by simp [q])) h3, h4⟩) hJ
            · have := old b o e
              exact k5 b o (fun hm => by simp at hm; omega) (k₄ _ _ (k₃ _ _ (up₂ b o hb e)))
        · rw [List.take_zero, List.map_nil, List.append_nil]
          refine paired_mono (fun r v ⟨a, j, vs, e, h1, h2, h3, h4⟩ => ⟨a, j, vs, e, fun hm => ?_, h2, k₄ _ _ (k₃ _ _ h3), h4⟩) hJ₂
          rcases List.mem_cons.mp hm with q | hm
          · have := ltJ _ _ (k₃ _ _ h3); omega
          · exact h1 hm
      exact codeAny_start1 loop1 (wpAny_pyIter_listiter (i := 0) ⟨oJ, gJ, by rw [← hOJ], by rw [← hOJ]; rfl⟩ loop1)
    · obtain rfl : i = n := by omega
      refine wpAny_pyNext_list_end hh hit hl (by simp [hz]) fun h₅ he => ?_
      refine ⟨m₂, hns.at' fun o e => he _ o (by k_ne) e, fun h' hs' => ?_⟩
      replace hs' : Heap.SameBut (D + 1) h₅ h' := hs'
      have kz : ∀ b o, b ∉ [I, D + 1] → H.get? b = some o → h'.get? b = some o := fun b o hb e => hs'.extBut b o (fun q => hb (by simp [q])) (he b o (fun q => hb (by simp [q])) e)
      refine fin D h' tk ys [I, D, D + 1, D + 1 + 1] (by omega) (by simp) ?_ (hacc.at fun o e => kz _ _ (fun hm => by simp at hm; omega) e) fun b o e => ?_
      · rw [hI]
        exact paired_mono (fun r v ⟨a, j, vs, e, h1, h2, h3, h4⟩ => ⟨a, j, vs, e, h1, h2, kz a _ (fun hm => h1 (by simp at hm; rcases hm with q | q <;> simp [q])) h3, h4⟩) hJ
      · have hb : b < I := hI ▸ Heap.lt_size e
        have hb2 : b < D + 1 := Nat.lt_trans hb (by omega)
        refine kz b o (fun hm => ?_) (hk b o (fun hm => Nat.ne_of_lt hb (List.mem_singleton.mp hm)) (kI _ _ e))
        rcases List.mem_cons.mp hm with q | hm
        · exact Nat.ne_of_lt hb q
        · exact Nat.ne_of_lt hb2 (List.mem_singleton.mp hm)
  exact codeAny_compStart_list loop (wpAny_pyIter_listiter (i := 0) hit0 loop)
end Kcomp_pairC
theorem comp_pairC {prog : Program} {w : World} {A : Around} {E : Value → Shared → Prop} {s : Shared} {env : Env} {elt iter it1 : Expr} {x x1 : Str} {px px1 : Pos} {scope : Scope} {pos : Pos} {cl : List (Str × Addr)} {Q : Value → Shared → Prop} (n : Nat) (mid : Nat → List (List Int)) (f : Nat → List Int → List Int) (hh : A.handled = none) (hn : n ≤ 100) (hmid : ∀ i, i < n → (mid i).length ≤ 1000)
    (hclos : closureFor scope env = pure cl) (hkind : scope.kind = .function) (hnames : ∀ y ∈ scope.names, y.2 = .local → scope.names.lookup y.1 = some .local) (hs : ∀ x, foldedSetIterable iter env x = pure x) (hs1 : ∀ C x, foldedSetIterable it1 (compEnvW scope cl C env) x = pure x)
    (hpush : ∀ h : Heap, pushCells h scope.names = h.push { cls := .type "cell", data := .cell none }) (hxk : ∀ C, (compEnvW scope cl C env).kindOf x = some .cell) (hxc : ∀ C, (compEnvW scope cl C env).cells.lookup x = some (C + 1)) (hx1 : ∀ C, (compEnvW scope cl C env).kindOf x1 = some .local)
    (h : wpAny (model prog w) A (eval iter env) (fun xv s₁ => Halt (∃ (r : Addr) (items : Array Value), xv = .ref r ∧ s₁.heap.IsList r items ∧ items.size = n ∧
      (∀ gB C H tk m₂ i, i < n → ∀ v, items[i]? = some v → Keep s₁.heap gB → Fr gB C H m₂ → H.IsCell (C + 1) (some v) → gB.get? (C + 1) = none → wpAny (model prog w) A (eval it1 (compEnvW scope cl C env)) (fun y s'' => Halt (∃ h'' tk'', s'' = { s₁ with heap := h'', toks := tk'' } ∧ Keep H h'' ∧ OrdRes H.objs.size h'' (mid i) y)) (fun _ _ => False) { s₁ with heap := H, toks := tk }) ∧
      (∀ gB C H tk m₂ i, i < n → ∀ v, items[i]? = some v → Keep s₁.heap gB → Fr gB C H m₂ → H.IsCell (C + 1) (some v) → gB.get? (C + 1) = none → ∀ (a k : Nat) (vs : List Value) (r : List Int), m₂ x1 = some (.ref a) → C + 1 < a → gB.get? a = none → H.get? a = some (W.listOf vs.toArray k) → IntsAre vs r → r ∈ mid i →
        wpAny (model prog w) A (eval elt (compEnvW scope cl C env)) (fun y s'' => Halt (∃ h'' tk'', s'' = { s₁ with heap := h'', toks := tk'' } ∧ Keep H h'' ∧ RowOf H.objs.size h'' (f i r) y)) (fun _ _ => False) { s₁ with heap := H, toks := tk }) ∧
      (∀ D h' tk ys X, s₁.heap.objs.size ≤ D → D ∈ X → Paired (RowAt X s₁.heap.objs.size h') ((List.range n).flatMap fun i => (mid i).map (f i)) ys → h'.PlainList D ys.toArray → Keep s₁.heap h' → Q (.ref D) { s₁ with heap := h', toks := tk }))) E s) :
    wpAny (model prog w) A (eval (.ListComp elt [⟨.Name x px, iter, [], 0⟩, ⟨.Name x1 px1, it1, [], 0⟩] scope pos) env) Q E s := by
  exact skolem jv0 (fun x => Scomp_pairC x.1 x.2.1 x.2.2.1 x.2.2.2.1 x.2.2.2.2.1 x.2.2.2.2.2.1 x.2.2.2.2.2.2.1 x.2.2.2.2.2.2.2.1 x.2.2.2.2.2.2.2.2.1 x.2.2.2.2.2.2.2.2.2.1 x.2.2.2.2.2.2.2.2.2.2.1 x.2.2.2.2.2.2.2.2.2.2.2.1 x.2.2.2.2.2.2.2.2.2.2.2.2.1 x.2.2.2.2.2.2.2.2.2.2.2.2.2.1 x.2.2.2.2.2.2.2.2.2.2.2.2.2.2.1 x.2.2.2.2.2.2.2.2.2.2.2.2.2.2.2.1 x.2.2.2.2.2.2.2.2.2.2.2.2.2.2.2.2.1 x.2.2.2.2.2.2.2.2.2.2.2.2.2.2.2.2.2) (by with_unfolding_all exact Kcomp_pairC.holds) ⟨prog, w, A, E, s, env, elt, iter, it1, x, x1, px, px1, scope, pos, cl, Q, n⟩ mid f hh hn hmid hclos hkind hnames hs hs1 hpush hxk hxc hx1 h
end
end Mine
end OfA44
section OfA45
open PySem PySem.W PySem.W.X PySem.Calls PyProof.Rows
set_option Elab.async false
set_option maxRecDepth 100000
set_option maxHeartbeats 4000000
set_option pp.maxSteps 3000
namespace Mine
noncomputable section
theorem filled45 : kk.heap_1 = kk.heap_1 ∧ PySem.Challenge.rw_wu0057_01.name = PySem.Challenge.rw_wu0057_01.name := by
  k_fill
  exact ⟨rfl, rfl⟩

section
variable {prog : Program} {w : World} {A : Around} {s : Shared} {K : Frag}
  {R : Result → Shared → Prop} {name qual : Str} {params : Arguments} {body : List Stmt} {scope : Scope} {dV kV doc pm cdv ct oc : Value} {an od : Option Addr} {osl : Array (Option Value)} {f : Addr} {x : Str} {v : Value}
theorem enterCell (X : K.In s.heap) (hlim : s.heap.NoLimit) (hroom : A.depth < recursionLimit)
    (ho : K.lookup f = some ⟨oc, od, .func (fnOf name qual params body scope dV kV doc pm an cdv ct), osl⟩) (hcd : codeIn K cdv qual = true)
    (hbind : bindArgs (fnOf name qual params body scope dV kV doc pm an cdv ct) ⟨[v], []⟩ = pure [(x, v)])
    (hkind : ∀ L : Addr, scope.names.lookup x = some .cell ∧ ((cellsFrom (L + 1) scope.names []).lookup x) = some (L + 1))
    (h : ∀ h₁ tk oc', Fr s.heap s.heap.objs.size h₁ (fun _ => none) → News s.heap s.heap.objs.size h₁ [(s.heap.objs.size + 1, oc')] → oc'.data = .cell (some v) →
      wpAny (model prog w) (A.deeper (envOfC qual scope s.heap.objs.size f cdv)) (execs body (envOfC qual scope s.heap.objs.size f cdv))
        (fun fl s' => R (.ok (.ret (match fl with | .ret v => v | _ => .none))) s')
        (fun e s' => wpAny (model prog w) (A.deeper (envOfC qual scope s.heap.objs.size f cdv)) (leaving (envOfC qual scope s.heap.objs.size f cdv) e) (fun _ s'' => R (.error e) s'') (fun e' s'' => R (.error e') s'') s')
        { s with heap := h₁, toks := tk })
    (hco : scope.isCoroutine = false := by rfl) (hgen : scope.isGenerator = false := by rfl) (hk : scope.kind = .function := by rfl) : codeAny (model prog w) A (.call (.ref f) ⟨[v], []⟩) R s := by
  have ek : (envOfC qual scope s.heap.objs.size f cdv).kindOf x = some .cell := (hkind 0).1
  refine codeAny_call_cells (fd := fnOf name qual params body scope dV kV doc pm an cdv ct) hroom (X _ _ ho) rfl hlim (codeRec_of X hcd) rfl hbind rfl (fun y hy => ?_) (fun s₁ Y => ?_) hco hgen hk
  · obtain rfl := List.mem_singleton.mp hy
    exact .inr ⟨(hkind 0).1, by rw [show ((cellsFrom (s.heap.objs.size + 1) scope.names []).lookup x) = _ from (hkind _).2]; rfl⟩
  · obtain ⟨h₁, tk, rfl, _⟩ := Y.done
    have hc := Y.cell x (s.heap.objs.size + 1) (hkind _).2
    have e1 : bindL (callEnvC (fnOf name qual params body scope dV kV doc pm an cdv ct) s.heap.objs.size f).kindOf [(x, v)] (fun _ => none) = fun _ => none := by
      unfold bindL
      rw [if_neg (by rw [show (callEnvC (fnOf name qual params body scope dV kV doc pm an cdv ct) s.heap.objs.size f).kindOf x = some .cell from (hkind 0).1]; decide)]
      rfl
    have e2 : bindC (callEnvC (fnOf name qual params body scope dV kV doc pm an cdv ct) s.heap.objs.size f).kindOf [(x, v)] (fun _ => none) x = some v := by
      unfold bindC
      rw [if_neg (by rw [show (callEnvC (fnOf name qual params body scope dV kV doc pm an cdv ct) s.heap.objs.size f).kindOf x = some .cell from (hkind 0).1]; decide)]
      exact if_pos rfl
    rw [e2] at hc
    have F : Fr s.heap s.heap.objs.size h₁ _ := ⟨Y.toInCall.ns, Y.toInCall.keep, Y.toInCall.fresh⟩
    rw [e1] at F
    obtain ⟨oc', ho', hd'⟩ := hc
    refine h h₁ tk oc' F (fun p hp => ?_) hd'
    obtain rfl := List.mem_singleton.mp hp
    refine ⟨ho', neN (by omega), ?_⟩
    cases q : s.heap.get? (s.heap.objs.size + 1) with
    | none => rfl
    | some o => have h2 : s.heap.objs.size + 1 < s.heap.objs.size := Heap.lt_size q; omega
end


local macro_rules | `(tactic| walk_at "nmN") => `(tactic| refine nmN (by with_unfolding_all rfl) (by with_unfolding_all rfl) (by k_asm) (by with_unfolding_all k_mem) (by assumption) ?_)
local macro_rules | `(tactic| walk_at "mine_enterC") => `(tactic| (
  refine enterCell (St.X (by assumption)) (Top.nolimit (St.T (by assumption))) (AOk.room (by assumption)) (by k_is) (by k_is) (by with_unfolding_all rfl) (fun _ => ⟨by with_unfolding_all rfl, by with_unfolding_all rfl⟩) ?_))
local macro_rules | `(tactic| walk_at "eval ListComp") => `(tactic| refine halt ?_)
local macro_rules | `(tactic| walk_at "eval List") => `(tactic| (k_here; (show wpAny _ _ (eval (PySem.Expr.List [PySem.Expr.Name _ _] _) _) _ _ _); refine halt ?_))
local macro_rules | `(tactic| walk_at "compareOp Eq ref ref") => `(tactic| refine halt ?_)
local macro_rules | `(tactic| walk_at "binaryOp Add ref ref") => `(tactic| refine halt ?_)
local macro_rules | `(tactic| walk_at "call ref") => `(tactic| refine halt ?_)
local macro_rules | `(tactic| walk_at "call ref:206") => `(tactic| refine halt ?_)
theorem list_raw {M : Model} {A : Around} {E : Value → Shared → Prop} {s : Shared} {env : Env} {elts : List Expr} {pos : Pos} {Q : Value → Shared → Prop}
    (h : wpAny M A (spliced (backTo pos (starEach elts env))) (fun vs s₁ => Halt (vs.length ≤ sizeLine ∧ Q (.ref s₁.heap.objs.size) { s₁ with heap := s₁.heap.push (W.listOf vs.toArray 0) })) E s) : wpAny M A (eval (.List elts pos) env) Q E s :=
  wpAny_List (wpAny_mono h (fun _ _ x => x) fun _ _ x => x)
theorem add_raw {prog : Program} {w : World} {A : Around} {E : Value → Shared → Prop} {s : Shared} {l b : Addr} {vs ws : List Value} {Q : Value → Shared → Prop} (hl : s.heap.IsList l vs.toArray) (hb : s.heap.IsList b ws.toArray)
    (h : Q (.ref s.heap.objs.size) { s with heap := s.heap.push (W.listOf (vs ++ ws).toArray 0) })
    (hsz : vs.length + ws.length ≤ sizeLine) :
    wpAny (model prog w) A (binaryOp .Add (.ref l) (.ref b)) Q E s := by
  obtain ⟨⟨cls, dd, data, sl⟩, ho, hc, n, hd⟩ := id hl
  obtain ⟨⟨cls2, dd2, data2, sl2⟩, ho2, hc2, n2, hd2⟩ := id hb
  simp only at hc hd hc2 hd2
  subst hc hd hc2 hd2
  have e : vs.toArray ++ ws.toArray = (vs ++ ws).toArray := by simp
  refine concat_meets ⟨_, ho, rfl⟩ ⟨_, ho2, rfl⟩ noFill_list_add seq_list_add PySem.F.slot_list_add PySem.F.entry_list_add (PySem.F.args_list_add_2 _ _) (list_addW l b vs.toArray ws.toArray n n2 dd dd2 sl sl2 (by simpa using hsz)) ⟨ho, ho2, ?_⟩
  rw [e]
  exact h
/-- all the orders of a list, as the law lists them -/
noncomputable def ordersI : Nat → List Int → List (List Int)
  | 0, _ => [[]]
  | n + 1, l => (List.range l.length).flatMap fun i => (ordersI n (l.filter fun y => y != l.getD i 0)).map (l.getD i 0 :: ·)
noncomputable def neOut (x y : Int) : List Int := if y != x then [y] else []
theorem neOut_all (b : Int) (l : List Int) : (List.range l.length).flatMap (fun i => neOut b (l.getD i 0)) = l.filter (fun p => p != b) := by
  have k2 : ∀ l : List Int, l.flatMap (neOut b) = l.filter (fun p => p != b) := by
    intro l
    induction l with
    | nil => rfl
    | cons a l ih =>
      rw [List.flatMap_cons, ih, List.filter_cons]
      unfold neOut
      by_cases h : (a != b) = true <;> simp [h]
  conv => rhs; rw [← k2 l]
  conv => rhs; rw [← (getD_map id l).trans (List.map_id l)]
  rw [List.flatMap_map]
  rfl
theorem OrdRes.mono {lo lo' : Nat} {h : Heap} {rs : List (List Int)} {v : Value} (x : OrdRes lo h rs v) (hlo : lo' ≤ lo) : OrdRes lo' h rs v := by
  obtain ⟨a, k, vs, e, h1, h2, p⟩ := x
  exact ⟨a, k, vs, e, Nat.le_trans hlo h1, h2, paired_mono (fun r v ⟨a, j, vs, e, h1, h2, h3⟩ => ⟨a, j, vs, e, Nat.le_trans hlo h1, h2, h3⟩) p⟩


local macro_rules | `(tactic| walk_at "eval Name") => `(tactic| (k_here; first
  | (refine nm_is "y" ?_; walk_at "nmL")
  | (refine nm_is "rest" ?_; walk_at "nmL")
  | (refine nm_is "row" ?_; walk_at "nmC")
  | (refine nm_is "x" ?_; walk_at "nmC")
  | (refine nm_is "row" ?_; walk_at "nmN")
  | (refine nm_is "x" ?_; walk_at "nmN")
  | (refine nm_is "_law_orders" ?_; walk_at "nmG")))

@[reducible] def OV : Type := (World) × (ExcName → Option Value) × (Str → Option Value) × (Str → Option Value) × (Nat) × (Nat) × (Nat) × (Option (List Env)) × (Option (List Code)) × (Nat) × (Shared) × (Value → Shared → Prop) × (Value → Shared → Prop) × (Nat) × (List Value)
theorem ov0 : Nonempty OV := ⟨⟨W0, fun _ => none, fun _ => none, fun _ => none, 0, 0, 0, none, none, 0, {}, fun _ _ => True, fun _ _ => True, 0, []⟩⟩
noncomputable def SordT (w : World) (mean : ExcName → Option Value) (mg : Str → Option Value) (mb : Str → Option Value) (k : Nat) (jj : Nat) (dp : Nat) (fr : Option (List Env)) (gd : Option (List Code)) (un : Nat) (s : Shared) (Q : Value → Shared → Prop) (E : Value → Shared → Prop) (a : Nat) (vs : List Value) : Prop := ∀ (ns : List Int) (hk4 : ns.length ≤ 4) (hnz : ns ≠ [] → ns.length = k + 1) (hmid : ∀ i, i < ns.length → (ordersI k (ns.filter fun y => y != ns.getD i 0)).length ≤ 1000) (hrl : ∀ i, i < ns.length → ∀ r ∈ ordersI k (ns.filter fun y => y != ns.getD i 0), r.length ≤ 10) (ih : ∀ x ∈ ns, ∀ (B : Around) (s : Shared) (Q E : Value → Shared → Prop) (a : Nat) (vs : List Value), AOk jj B → St w mean mg mb s.heap → s.heap.IsList a vs.toArray → IntsAre vs (ns.filter fun y => y != x) →
      (∀ v h' tk', OrdRes s.heap.objs.size h' (ordersI k (ns.filter fun y => y != x)) v → Keep s.heap h' → Q v { s with heap := h', toks := tk' }) → wpAny (model PG w) B (call (.ref 206) [.ref a]) Q E s) (hA : AOk (jj + 1) (Around.mk none dp fr gd un)) (hS : St w mean mg mb s.heap) (hl : s.heap.IsList a vs.toArray) (hi : IntsAre vs ns) (hret : ∀ v h' tk', OrdRes s.heap.objs.size h' (ordersI ns.length ns) v → Keep s.heap h' → Q v { s with heap := h', toks := tk' }),
    wpAny (model PG w) (Around.mk none dp fr gd un) (call (.ref 206) [.ref a]) Q E s
noncomputable def cordT : OV := @Classical.epsilon OV ov0 fun x => ¬ SordT x.1 x.2.1 x.2.2.1 x.2.2.2.1 x.2.2.2.2.1 x.2.2.2.2.2.1 x.2.2.2.2.2.2.1 x.2.2.2.2.2.2.2.1 x.2.2.2.2.2.2.2.2.1 x.2.2.2.2.2.2.2.2.2.1 x.2.2.2.2.2.2.2.2.2.2.1 x.2.2.2.2.2.2.2.2.2.2.2.1 x.2.2.2.2.2.2.2.2.2.2.2.2.1 x.2.2.2.2.2.2.2.2.2.2.2.2.2.1 x.2.2.2.2.2.2.2.2.2.2.2.2.2.2
namespace KordT
@[irreducible] noncomputable def w : World := cordT.1
@[irreducible] noncomputable def mean : ExcName → Option Value := cordT.2.1
@[irreducible] noncomputable def mg : Str → Option Value := cordT.2.2.1
@[irreducible] noncomputable def mb : Str → Option Value := cordT.2.2.2.1
@[irreducible] noncomputable def k : Nat := cordT.2.2.2.2.1
@[irreducible] noncomputable def jj : Nat := cordT.2.2.2.2.2.1
@[irreducible] noncomputable def dp : Nat := cordT.2.2.2.2.2.2.1
@[irreducible] noncomputable def fr : Option (List Env) := cordT.2.2.2.2.2.2.2.1
@[irreducible] noncomputable def gd : Option (List Code) := cordT.2.2.2.2.2.2.2.2.1
@[irreducible] noncomputable def un : Nat := cordT.2.2.2.2.2.2.2.2.2.1
@[irreducible] noncomputable def s : Shared := cordT.2.2.2.2.2.2.2.2.2.2.1
@[irreducible] noncomputable def Q : Value → Shared → Prop := cordT.2.2.2.2.2.2.2.2.2.2.2.1
@[irreducible] noncomputable def E : Value → Shared → Prop := cordT.2.2.2.2.2.2.2.2.2.2.2.2.1
@[irreducible] noncomputable def a : Nat := cordT.2.2.2.2.2.2.2.2.2.2.2.2.2.1
@[irreducible] noncomputable def vs : List Value := cordT.2.2.2.2.2.2.2.2.2.2.2.2.2.2
theorem holds : SordT w mean mg mb k jj dp fr gd un s Q E a vs := by
  intro ns hk4 hnz hmid hrl ih hA hS hl hi hret
  have hA3 := hA
  have X := hS.X
  have T := hS.T
  have zv := ints_len hi
  refine wpAny_call ?_
  walk_at "mine_enterC"
  intro h₁ tk oc' F N hoc
  (try dsimp only)
  k_steps
  rename Fr _ _ _ _ => F1
  rename News _ _ _ _ => N1
  refine unhalt ?_
  obtain ⟨ol, eol, rol⟩ := hl
  refine eq_intsK (s := ⟨_, _, _, _, _⟩) (vs := vs) (us := []) ⟨ol, F1.keep _ _ eol, rol⟩ hi ⟨_, N1.get (.head _), rfl, _, rfl⟩ .nil (by have := hA.un; show un + 3 + 64 < 9900; change un + 8 * (jj + 1) < 9000 at this; omega) ?_
  generalize hb : decide (ns = []) = b
  cases b with
  | true =>
    have hns : ns = [] := of_decide_eq_true hb
    (try dsimp only)
    k_steps
    subst hns
    rename Fr _ _ _ _ => F5
    rename News _ _ _ _ => N5
    rename _ ∧ _ ∧ _ => hlt5
    obtain ⟨q1, q2, q3⟩ := hlt5
    rename _ ∧ _ => hlt4
    obtain ⟨q4, q5⟩ := hlt4
    exact hret _ _ _ ⟨_, _, [_], rfl, Nat.le_trans (Nat.le_succ _) (Nat.le_of_lt q3), N5.get (.head _), .cons ⟨_, _, [], rfl, Nat.le_trans (Nat.le_succ _) (Nat.le_of_lt q5), N5.get (.tail _ (.head _)), .nil⟩ .nil⟩ F5.keep
  | false =>
    have hns : ns ≠ [] := of_decide_eq_false hb
    have hk1 := hnz hns
    (try dsimp only)
    k_steps
    refine unhalt ?_
    clear hb
    refine comp_pairC ns.length (fun i => ordersI k (ns.filter fun y => y != ns.getD i 0)) (fun i r => ns.getD i 0 :: r) rfl (by omega) hmid rfl rfl (by decide) (by intro _; rfl) (by intro _ _; rfl) (by intro _; rfl) (by intro _; rfl) (by intro _; rfl) (by intro _; rfl) ?_
    k_steps
    rename Fr _ _ _ _ => F2
    rename News _ _ _ _ => N2
    have e1 := N2.get (a := s.heap.objs.size + 1) (o := oc') (by k_mem)
    have eol2 := F2.keep _ _ eol
    refine unhalt ⟨_, vs.toArray, rfl, ⟨ol, eol2, rol⟩, by rw [List.size_toArray, zv], fun gB C H tk m₂ i hi' v hv kB FB hm hno => ?_, fun gB C H tk m₂ i hi' v hv kB FB hm hno b j us r hrest hCb hgb hbo hir hr => ?_, fun D h' tk ys X' hD' hDX hp hl' hk' => ?_⟩
    · have SB : St w mean mg mb gB := (hS.keeps F2.keep).keeps kB
      have c1 := kB _ _ e1
      have c2 := kB _ _ eol2
      clear N2 F2 X T e1 eol2 eol hS
      have X := SB.X
      have T := SB.T
      obtain ⟨y, ey⟩ : ∃ y, ns.getD i 0 = y := ⟨_, rfl⟩
      have ymem := getD_mem ns i hi'
      obtain ⟨tv, rfl⟩ := ints_at (i := i) hi (v := v) (by simpa using hv)
      rw [ey] at hm ymem ⊢
      obtain ⟨oc, hoc, hod⟩ := hm
      have N : News gB C H [(C + 1, oc)] := by
        intro p hp
        obtain rfl := List.mem_singleton.mp hp
        exact ⟨hoc, neN (by omega), hno⟩
      dsimp only [compEnvW, relabel]
      conv in (occs := *) (List.map _ _) => all_goals simp only [List.map_cons, List.map_nil]
      conv in (occs := *) (ite _ _ _) => all_goals whnf

      k_steps
      refine unhalt ?_
      refine comp_listL ns.length IntR (fun j => neOut y (ns.getD j 0)) rfl (by omega) rfl rfl (by decide) (by intro _; rfl) (by intro _; rfl) (by intro _; rfl) ?_
      (try dsimp only)
      k_steps
      have i1 := FB.keep _ _ c2
      refine unhalt ⟨_, vs.toArray, rfl, ⟨ol, i1, rol⟩, by rw [List.size_toArray, zv], fun gB2 C2 H2 tk2 m3 j hj v hv kB2 FB2 hm2 => ?_, fun D1 h1' tk1 ys1 hD1 hp1 hl1 hk1 => ?_⟩
      · have SB2 : St w mean mg mb gB2 := (SB.keeps FB.keep).keeps kB2
        obtain ⟨z, ez⟩ : ∃ z, ns.getD j 0 = z := ⟨_, rfl⟩
        obtain ⟨tz, rfl⟩ := ints_at (i := j) hi (v := v) (by simpa using hv)
        rw [ez] at hm2 ⊢
        have bc := kB2 _ _ (N.get (a := C + 1) (o := oc) (by k_mem))
        clear N FB X T
        have X := SB2.X
        have T := SB2.T
        have N2 : News gB2 C2 H2 [] := News.nil
        dsimp only [compEnvW, relabel]
        conv in (occs := *) (List.map _ _) => all_goals simp only [List.map_cons, List.map_nil]
        conv in (occs := *) (ite _ _ _) => all_goals whnf

        refine tests_one ?_
        k_steps
        refine unhalt ⟨H2, _, rfl, fun _ _ e => e, ?_⟩
        generalize hb : (z != y) = b
        cases b with
        | true =>
          rw [if_pos rfl]
          (try dsimp only)
          k_steps
          refine unhalt ⟨H2, _, z, rfl, fun _ _ e => e, ⟨_, rfl⟩, ?_⟩
          unfold neOut
          rw [if_pos hb]
        | false =>
          rw [if_neg (by decide)]
          unfold neOut
          rw [if_neg (by rw [hb]; decide)]
      · obtain ⟨F3, n3, N3, lt3⟩ := list_new FB N hD1 hl1 hk1
        have hp1' := ints_of_paired hp1
        rw [neOut_all] at hp1'
        clear FB N
        (try dsimp only)
        k_steps
        refine unhalt ?_
        refine ih y ymem _ ⟨_, _, _, _, _⟩ _ _ D1 ys1 hA3.deeper (SB.keeps F3.keep) ⟨_, N3.get (.head _), rfl, _, rfl⟩ hp1' fun v h5 tk5 hv5 k5 => ?_
        exact ⟨h5, _, rfl, fun b o e => k5 b o (hk1 b o e), hv5.mono (Nat.le_trans hD1 (Nat.le_of_lt (Heap.lt_size (N3.get (.head _)))))⟩
    · have SB : St w mean mg mb gB := (hS.keeps F2.keep).keeps kB
      clear N2 F2 X T e1 eol2 eol
      have X := SB.X
      have T := SB.T
      obtain ⟨y, ey⟩ : ∃ y, ns.getD i 0 = y := ⟨_, rfl⟩
      have ymem := getD_mem ns i hi'
      obtain ⟨tv, rfl⟩ := ints_at (i := i) hi (v := v) (by simpa using hv)
      rw [ey] at hm ymem hr ⊢
      obtain ⟨oc, hoc, hod⟩ := hm
      have N : News gB C H [(C + 1, oc), (b, W.listOf us.toArray j)] := by
        intro p hp
        rcases List.mem_cons.mp hp with rfl | hp
        · exact ⟨hoc, neN (by omega), hno⟩
        obtain rfl := List.mem_singleton.mp hp
        exact ⟨hbo, Nat.ne_of_gt (Nat.lt_trans (Nat.lt_succ_self _) hCb), hgb⟩
      dsimp only
      dsimp only [compEnvW, relabel]
      conv in (occs := *) (List.map _ _) => all_goals simp only [List.map_cons, List.map_nil]
      conv in (occs := *) (ite _ _ _) => all_goals whnf

      k_steps
      refine unhalt ?_
      refine list_raw ?_
      k_steps
      refine unhalt ⟨by rw [sizeLine_eq, List.length_singleton]; decide, ?_⟩
      generalize hh6 : Heap.push H _ = h6
      obtain ⟨Ls, hLs⟩ : ∃ Ls : Nat, H.objs.size = Ls := ⟨_, rfl⟩
      have k6 : Keep H h6 := fun b o e => by rw [← hh6]; exact Heap.get?_push_of_some _ e
      have g6 : h6.get? Ls = some (W.listOf ([Value.int y tv]).toArray 0) := by rw [← hh6, ← hLs]; exact Heap.get?_push_size _ rfl
      have F6 := FB.keeps k6
      have N6 := N.grown k6
      have hbo6 := k6 _ _ hbo
      clear FB N
      (try dsimp only)
      rw [hLs]
      k_steps
      refine unhalt ?_
      refine add_raw (vs := [.int y tv]) (ws := us) ⟨_, g6, rfl, _, rfl⟩ ⟨_, hbo6, rfl, _, rfl⟩ ?_ ?_
      · refine ⟨_, _, rfl, fun b o e => Heap.get?_push_of_some _ (k6 _ _ e), _, 0, _, rfl, ?_, Heap.get?_push_size _ rfl, .cons y tv hir⟩
        exact Nat.le_of_lt (Heap.lt_size g6)
      · have := hrl i hi' r (by rw [ey]; exact hr)
        have := ints_len hir
        rw [sizeLine_eq]
        simp only [List.length_cons, List.length_nil]
        omega
    · refine hret _ _ _ ?_ fun b o e => hk' b o (F2.keep b o e)
      have hsz := Nat.le_of_lt (Nat.lt_trans (Nat.lt_succ_self _) (Heap.lt_size e1))
      obtain ⟨nD, gD⟩ := hl'
      rw [hk1]
      exact ⟨D, nD, ys, rfl, Nat.le_trans hsz hD', gD, paired_mono (fun r v ⟨a, j, vs, e, h1, h2, h3, h4⟩ => ⟨a, j, vs, e, Nat.le_trans hsz h2, h3, h4⟩) hp⟩
end KordT
theorem ordT (w : World) (mean : ExcName → Option Value) (mg mb : Str → Option Value) (ns : List Int) (k jj : Nat) (hk4 : ns.length ≤ 4) (hnz : ns ≠ [] → ns.length = k + 1) (hmid : ∀ i, i < ns.length → (ordersI k (ns.filter fun y => y != ns.getD i 0)).length ≤ 1000)
    (hrl : ∀ i, i < ns.length → ∀ r ∈ ordersI k (ns.filter fun y => y != ns.getD i 0), r.length ≤ 10)
    (ih : ∀ x ∈ ns, ∀ (B : Around) (s : Shared) (Q E : Value → Shared → Prop) (a : Nat) (vs : List Value), AOk jj B → St w mean mg mb s.heap → s.heap.IsList a vs.toArray → IntsAre vs (ns.filter fun y => y != x) →
      (∀ v h' tk', OrdRes s.heap.objs.size h' (ordersI k (ns.filter fun y => y != x)) v → Keep s.heap h' → Q v { s with heap := h', toks := tk' }) → wpAny (model PG w) B (call (.ref 206) [.ref a]) Q E s)
    (A : Around) (s : Shared) (Q E : Value → Shared → Prop) (a : Nat) (vs : List Value) (hA : AOk (jj + 1) A) (hS : St w mean mg mb s.heap) (hl : s.heap.IsList a vs.toArray) (hi : IntsAre vs ns)
    (hret : ∀ v h' tk', OrdRes s.heap.objs.size h' (ordersI ns.length ns) v → Keep s.heap h' → Q v { s with heap := h', toks := tk' }) :
    wpAny (model PG w) A (call (.ref 206) [.ref a]) Q E s := by
  obtain ⟨hd0, dp, fr, gd, un⟩ := A
  obtain rfl : hd0 = none := hA.hd
  exact skolem ov0 (fun x => SordT x.1 x.2.1 x.2.2.1 x.2.2.2.1 x.2.2.2.2.1 x.2.2.2.2.2.1 x.2.2.2.2.2.2.1 x.2.2.2.2.2.2.2.1 x.2.2.2.2.2.2.2.2.1 x.2.2.2.2.2.2.2.2.2.1 x.2.2.2.2.2.2.2.2.2.2.1 x.2.2.2.2.2.2.2.2.2.2.2.1 x.2.2.2.2.2.2.2.2.2.2.2.2.1 x.2.2.2.2.2.2.2.2.2.2.2.2.2.1 x.2.2.2.2.2.2.2.2.2.2.2.2.2.2) (by with_unfolding_all exact KordT.holds) ⟨w, mean, mg, mb, k, jj, dp, fr, gd, un, s, Q, E, a, vs⟩ ns hk4 hnz hmid hrl ih hA hS hl hi hret
noncomputable def subs4 : List (List Int) := [[], [0], [1], [2], [3], [0, 1], [0, 2], [0, 3], [1, 2], [1, 3], [2, 3], [0, 1, 2], [0, 1, 3], [0, 2, 3], [1, 2, 3], [0, 1, 2, 3]]
theorem subs4_sub : ∀ ns ∈ subs4, ∀ x ∈ ns, (ns.filter fun y => y != x) ∈ subs4 ∧ (ns.filter fun y => y != x).length + 1 = ns.length := by decide +kernel
theorem subs4_len : ∀ ns ∈ subs4, ns.length ≤ 4 ∧ (∀ i ∈ List.range ns.length, (ordersI (ns.length - 1) (ns.filter fun y => y != ns.getD i 0)).length ≤ 1000 ∧ ∀ r ∈ ordersI (ns.length - 1) (ns.filter fun y => y != ns.getD i 0), r.length ≤ 10) := by decide +kernel
theorem orders (w : World) (mean : ExcName → Option Value) (mg mb : Str → Option Value) : ∀ (n : Nat) (ns : List Int), ns ∈ subs4 → ns.length = n → ∀ (A : Around) (s : Shared) (Q E : Value → Shared → Prop) (a : Nat) (vs : List Value), AOk (n + 1) A → St w mean mg mb s.heap → s.heap.IsList a vs.toArray → IntsAre vs ns →
    (∀ v h' tk', OrdRes s.heap.objs.size h' (ordersI n ns) v → Keep s.heap h' → Q v { s with heap := h', toks := tk' }) → wpAny (model PG w) A (call (.ref 206) [.ref a]) Q E s := by
  intro n
  induction n with
  | zero =>
    intro ns hm hz A s Q E a vs hA hS hl hi hret
    have e : ns = [] := List.length_eq_zero_iff.mp hz
    subst e
    exact ordT w mean mg mb [] 0 0 (by decide) (fun h => absurd rfl h) (fun i hi => absurd hi (Nat.not_lt_zero _)) (fun i hi => absurd hi (Nat.not_lt_zero _)) (fun x hx => absurd hx List.not_mem_nil) A s Q E a vs hA hS hl hi hret
  | succ n ih =>
    intro ns hm hz A s Q E a vs hA hS hl hi hret
    obtain ⟨h4, h5⟩ := subs4_len ns hm
    rw [hz, Nat.add_sub_cancel] at h5
    rw [← hz] at hret
    refine ordT w mean mg mb ns n (n + 1) h4 (fun _ => hz) (fun i hi => (h5 i (List.mem_range.mpr (hz ▸ hi))).1) (fun i hi => (h5 i (List.mem_range.mpr (hz ▸ hi))).2) (fun x hx A s Q E a vs hA hS hl hi hret => ?_) A s Q E a vs hA hS hl hi hret
    have := subs4_sub ns hm x hx
    exact ih _ this.1 (by omega) A s Q E a vs hA hS hl hi hret
end
end Mine
end OfA45
local macro_rules | `(tactic| walk_at "nmN") => `(tactic| refine nmN (by with_unfolding_all rfl) (by with_unfolding_all rfl) (by k_asm) (by with_unfolding_all k_mem) (by assumption) ?_)
local macro_rules | `(tactic| walk_at "mine_enterC") => `(tactic| (
  refine enterCell (St.X (by assumption)) (Top.nolimit (St.T (by assumption))) (AOk.room (by assumption)) (by k_is) (by k_is) (by with_unfolding_all rfl) (fun _ => ⟨by with_unfolding_all rfl, by with_unfolding_all rfl⟩) ?_))
section OfA46
open PySem PySem.W PySem.W.X PySem.Calls PyProof.Rows
set_option Elab.async false
set_option maxRecDepth 100000
set_option maxHeartbeats 4000000
set_option pp.maxSteps 3000
namespace Mine
noncomputable section
theorem filled46 : kk.heap_1 = kk.heap_1 ∧ PySem.Challenge.rw_wu0057_01.name = PySem.Challenge.rw_wu0057_01.name := by
  k_fill
  exact ⟨rfl, rfl⟩

local macro_rules | `(tactic| walk_at "nmB") => `(tactic| refine nmB (by with_unfolding_all rfl) (by k_asm) (by k_asm) (by k_asm) (by k_is) (by boot_by_name) (by decide) ?_)
local macro_rules | `(tactic| walk_at "eval ListComp") => `(tactic| refine halt ?_)
local macro_rules | `(tactic| walk_at "subscriptTail") => `(tactic| refine halt ?_)
local macro_rules | `(tactic| walk_at "call builtin:sum") => `(tactic| refine halt ?_)
local macro_rules | `(tactic| walk_at "call type:range") => `(tactic| refine halt ?_)
local macro_rules | `(tactic| walk_at "call ref:206") => `(tactic| refine halt ?_)
local macro_rules | `(tactic| walk_at "call ref") => `(tactic| refine halt ?_)
local macro_rules | `(tactic| walk_at "eval Name") => `(tactic| (k_here; first
  | (refine nm_is "k" ?_; walk_at "nmL")
  | (refine nm_is "table" ?_; walk_at "nmC")
  | (refine nm_is "order" ?_; walk_at "nmC")
  | (refine nm_is "order" ?_; walk_at "nmN")
  | (refine nm_is "sum" ?_; walk_at "nmB")
  | (refine nm_is "range" ?_; walk_at "nmB")
  | (refine nm_is "_law_orders" ?_; walk_at "nmG")))

theorem sum_keep {prog : Program} {w : World} {A : Around} {E : Value → Shared → Prop} {s : Shared} {l : Addr} {vs : List Value} {ns : List Int} {Q : Value → Shared → Prop} (hh : A.handled = none) (hl : s.heap.IsList l vs.toArray) (hi : IntsAre vs ns)
    (h : ∀ h' tk t', Keep s.heap h' → Q (.int ns.sum t') { s with heap := h', toks := tk }) : wpAny (model prog w) A (call (.builtin "sum") [.ref l]) Q E s := by
  obtain ⟨xs, hx⟩ := hi.allInts.items
  have hl' : s.heap.IsList l (intItems xs) := hx ▸ hl
  refine sum_intListG hh hl' fun h' tk t' hk => ?_
  have e1 : ns = xs.toList.map (·.1) := by
    rw [← nums_intItems, ← hx]
    exact (show numsOf vs.toArray.toList = ns from hi.numsOf).symm
  have e2 : preSum (numAt xs) xs.size = ns.sum := by
    rw [preSum_eq, List.take_of_length_le (by simp), e1]
  rw [e2]
  exact h h' tk t' hk
/-- a name of the frame's that takes a comprehension's list: the list is stored ahead of the comprehension's names being let go -/
theorem assign_listC {γ : Type} {prog : Program} {w : World} {A : Around} {E : Value → Shared → Prop} {s : Shared} {env : Env} {elt iter : Expr} {x y : Str} {px py : Pos} {ifs : List Expr} {scope : Scope} {pos spos : Pos} {cl : List (Str × Addr)} {Q : Flow → Shared → Prop} (n : Nat) (R : γ → Value → Prop) (out : Nat → List γ) (hh : A.handled = none) (hn : n ≤ 1000000)
    (hsw : swapsWith (.ListComp elt [⟨.Name x px, iter, ifs, 0⟩] scope pos) (some (.Name y py)) spos.line env = pure true) (hy : env.kindOf y = some .local) (hyp : (env.scope.kind == .class || (env.scope.kind == .module && env.locals != env.globals)) = false)
    (hclos : closureFor scope env = pure cl) (hkind : scope.kind = .function) (hnames : ∀ y ∈ scope.names, y.2 = .local → scope.names.lookup y.1 = some .local) (hs : ∀ x, foldedSetIterable iter env x = pure x)
    (hpush : ∀ h : Heap, pushCells h scope.names = h.push { cls := .type "cell", data := .cell none }) (hxk : ∀ C, (compEnvW scope cl C env).kindOf x = some .cell) (hxc : ∀ C, (compEnvW scope cl C env).cells.lookup x = some (C + 1))
    (h : wpAny (model prog w) A (eval iter env) (fun xv s₁ => Halt (∃ (r : Addr) (items : Array Value) (m : Str → Option Value), xv = .ref r ∧ s₁.heap.IsList r items ∧ items.size = n ∧ s₁.heap.Ns env.locals m ∧
      (∀ gB C H tk m₂ i, i < n → ∀ v, items[i]? = some v → Keep s₁.heap gB → Fr gB C H m₂ → H.IsCell (C + 1) (some (v)) → gB.get? (C + 1) = none → TurnOf prog w A (compEnvW scope cl C env) ifs elt s₁ H tk R (out i)) ∧
      (∀ D h' tk ys, s₁.heap.objs.size ≤ D → Paired R ((List.range n).flatMap out) ys → h'.PlainList D ys.toArray → h'.Ns env.locals (fun z => if z = y then some (.ref D) else m z) → (∀ b o, b ≠ env.locals → s₁.heap.get? b = some o → h'.get? b = some o) → Q .next { s₁ with heap := h', toks := tk }))) E s) :
    wpAny (model prog w) A (exec (.Assign [.Name y py] (.ListComp elt [⟨.Name x px, iter, ifs, 0⟩] scope pos) spos) env) Q E s := by
  rw [exec_Assign_Name_used _ _ _ _ hsw]
  refine wpAny_bind (wpAny_standAt (wpAny_bind ?_))
  show wpAny _ A (do let _ ← comprehension (.ListComp elt [⟨.Name x px, iter, ifs, 0⟩] scope pos) scope env _ (newList []) false (eval iter env) (some (assign (.Name y py) env))) _ _ s
  refine wpAny_bind (wpAny_mono (comp_cell_use (use := some (assign (.Name y py) env)) (Q := fun _ s' => Q .next s') hclos hkind hnames hs hpush hxk hxc
    (wpAny_mono h (fun xv s₁ h₁ => ?_) fun _ _ e => e)) (fun _ s' hq => wpAny_pure (wpAny_pure hq)) fun _ _ e => e)
  obtain ⟨r, items, m, rfl, hr, hz, hns0, turn, fin⟩ := h₁
  subst hz
  refine wpAny_pyIter_list hr ?_
  generalize hO : ({ cls := .type "list_iterator", data := .fields #[.ref r, .int 0 0] } : Obj) = oI
  have hrlt : r < s₁.heap.objs.size := by obtain ⟨_, e, _⟩ := hr; exact Heap.lt_size e
  have kI : Keep s₁.heap (s₁.heap.push oI) := fun b o e => Heap.get?_push_of_some _ e
  have gI : (s₁.heap.push oI).get? s₁.heap.objs.size = some oI := Heap.get?_push_size _ (by rw [← hO]; rfl)
  have kB : Keep s₁.heap (hide [s₁.heap.objs.size] (s₁.heap.push oI)) := fun b o e => hide_at (kI b o e) (by have := Heap.lt_size e; intro hm; rw [List.mem_singleton.mp hm] at this; exact Nat.lt_irrefl _ this)
  refine ⟨s₁.heap.objs.size, [s₁.heap.objs.size, r], [s₁.heap.objs.size], items.size, fun i v => items[i]? = some v, fun i h => h.IsListIter s₁.heap.objs.size r i ∧ h.IsList r items, _, rfl, Walks.list hh s₁.heap.objs.size r (Nat.ne_of_lt hrlt) items, by rw [sizeLine_eq]; omega, (⟨⟨oI, gI, by rw [← hO], by rw [← hO]; rfl⟩, hr.push _⟩), ?_, fun i H st b hb => by obtain rfl := List.mem_singleton.mp hb; obtain ⟨⟨o, e, _⟩, _⟩ := st; exact ⟨o, e⟩,
    turns_ofC R out (fun C hC i v H tk m₂ hi hP hns hm hk => ?_), fun D C h' tk ys X m₂ fl hD hDC hDX hCX hJ hp hns hk => ?_⟩
  · intro b hb
    show b < (s₁.heap.push oI).objs.size
    rw [Heap.size_push]
    rcases List.mem_cons.mp hb with rfl | hb
    · exact Nat.lt_succ_self _
    · obtain rfl := List.mem_singleton.mp hb; exact Nat.lt_succ_of_lt hrlt
  · exact turn _ C H tk m₂ i hi v hP kB (comp_fr hC hns hk) hm (by
      rw [hide_get]; split
      · rfl
      · cases q : (s₁.heap.push oI).get? (C + 1) with
        | none => rfl
        | some o => exact absurd (Heap.lt_size q) (Nat.not_lt.mpr (Nat.le_succ_of_le hC)))
  · have k0 : ∀ b o, s₁.heap.get? b = some o → h'.get? b = some o := fun b o e => hk b o (fun hm => by have := Heap.lt_size e; rw [List.mem_singleton.mp hm] at this; exact Nat.lt_irrefl _ this) (kI b o e)
    have hD1 : (s₁.heap.push oI).objs.size ≤ D := hD
    rw [Heap.size_push] at hD1
    have hD0 : s₁.heap.objs.size ≤ D := Nat.le_trans (Nat.le_succ _) hD1
    have hLD : env.locals < D := Nat.lt_of_lt_of_le hns0.lt hD0
    show wpAny _ A (assign (.Name y py) env (.ref D)) _ _ _
    refine wpAny_assign_Name (wpAny_storeName_local hy (hns0.keeps k0) (fun h₂ hn₂ hs₂ => ?_) hyp)
    replace hs₂ : Heap.SameBut env.locals h' h₂ := hs₂
    refine ⟨m₂, hns.sameBut hs₂ (Nat.ne_of_gt (Nat.lt_trans hLD hDC)), fun h'' hs'' => ?_⟩
    replace hs'' : Heap.SameBut C h₂ h'' := hs''
    have up : ∀ b o, b ≠ env.locals → b ≠ C → h'.get? b = some o → h''.get? b = some o := fun b o h1 h2 e => hs''.extBut b o h2 (hs₂.extBut b o h1 e)
    show Q .next { s₁ with heap := h'', toks := tk + 1 }
    refine fin D h'' (tk + 1) ys hD0 hJ (hp.at fun o e => up _ o (Nat.ne_of_gt hLD) (Nat.ne_of_lt hDC) e) (hn₂.sameBut hs'' (Nat.ne_of_lt (Nat.lt_trans hLD hDC))) fun b o h1 e => up b o h1 (fun q => ?_) (k0 b o e)
    have := Heap.lt_size e
    rw [q] at this
    exact Nat.lt_irrefl _ (Nat.lt_trans (Nat.lt_of_lt_of_le this hD0) hDC)
/-- what one order costs -/
noncomputable def costAt (cs : List Int) (r : List Int) (k : Nat) : Int := (rowI cs k).getD (r.getD k 0).toNat 0
noncomputable def totI (cs : List Int) (r : List Int) : Int := ((List.range 4).map (costAt cs r)).sum
noncomputable def orders24 : List (List Int) := ordersI 4 [0, 1, 2, 3]
noncomputable def totalsI (cs : List Int) : List Int := orders24.map (totI cs)
theorem orders24_len : orders24.length = 24 := by decide +kernel
theorem orders24_in : ∀ r ∈ orders24, r.length = 4 ∧ ∀ k ∈ List.range 4, 0 ≤ r.getD k 0 ∧ r.getD k 0 < 4 := by decide +kernel
theorem getDL_map {α β : Type} (d : α) (f : α → β) (l : List α) : (List.range l.length).map (fun i => f (l.getD i d)) = l.map f := by
  apply List.ext_getElem
  · simp
  · intro i h1 h2
    simp at h2
    simp [List.getD_eq_getElem?_getD, List.getElem?_eq_getElem h2]
theorem getD_some {α : Type} {l : List α} {i : Nat} {x d : α} (h : l[i]? = some x) : l.getD i d = x := by rw [List.getD_eq_getElem?_getD, h]; rfl
theorem ints_pos {vs : List Value} {ns : List Int} (h : IntsAre vs ns) {j : Nat} (hj : j < ns.length) : ∃ t, vs.toArray[j]? = some (.int (ns.getD j 0) t) := by
  obtain ⟨t, e⟩ := ints_at2 h (j := j) (y := ns.getD j 0) (by rw [List.getD_eq_getElem?_getD, List.getElem?_eq_getElem hj]; rfl)
  exact ⟨t, by simpa using e⟩
noncomputable def Ss20 (w : World) (mean : ExcName → Option Value) (mg : Str → Option Value) (mb : Str → Option Value) (g : Heap) (L : Nat) (fa : Nat) (cd : Value) (dp : Nat) (fr : Option (List Env)) (gd : Option (List Code)) (un : Nat) (Q : Flow → Shared → Prop) (s : Shared) (m : Str → Option Value) (aT : Nat) (aG : Nat) (aK : Nat) (aTo : Nat) (aS : Nat) (aD : Nat) (o1 : Obj) (o2 : Obj) (o3 : Obj) (o4 : Obj) (o5 : Obj) (o6 : Obj) (o7 : Obj) (xT : Array Value) (xG : Array Value) (xK : Array Value) (xTo : Array Value) (xS : Array Value) (xD : Array Value) (nT : Nat) (nG : Nat) (nK : Nat) (nTo : Nat) (nS : Nat) (nD : Nat) (p1 : Array Value) (p2 : Array Value) (aGp : Nat) (nGp : Nat) (xGp : Array Value) (r0 : Nat) (r1 : Nat) (r2 : Nat) (r3 : Nat) (k0 : Nat) (k1 : Nat) (k2 : Nat) (k3 : Nat) (aTb : Nat) (nTb : Nat) (v0 : List Value) (v1 : List Value) (v2 : List Value) (v3 : List Value) (cs : List Int) : Prop := ∀ (hS : St w mean mg mb g) (hA : AOk 59 (Around.mk none dp fr gd un)) (F : Fr g L s.heap m) (l7 : o7.data = .cell (some (.ref aTb))) (hK4 : (runP cs 8).K.length = 4) (i0 : IntsAre v0 (rowI cs 0)) (i1 : IntsAre v1 (rowI cs 1)) (i2 : IntsAre v2 (rowI cs 2)) (i3 : IntsAre v3 (rowI cs 3)) (N : News g L s.heap [(r0, W.listOf v0.toArray k0), (r1, W.listOf v1.toArray k1), (r2, W.listOf v2.toArray k2), (r3, W.listOf v3.toArray k3), (aTb, W.listOf #[.ref r0, .ref r1, .ref r2, .ref r3] nTb), (aGp, W.listOf xGp nGp), (aD, W.listOf xD nD), (aS, W.listOf xS nS), (aTo, W.listOf xTo nTo), (aK, W.listOf xK nK), (aG, W.listOf xG nG), (aT, W.listOf xT nT), (L + 1 + 1 + 1 + 1 + 1 + 1 + 1, o7), (L + 1 + 1 + 1 + 1 + 1 + 1, o6), (L + 1 + 1 + 1 + 1 + 1, o5), (L + 1 + 1 + 1 + 1, o4), (L + 1 + 1 + 1, o3), (L + 1 + 1, o2), (L + 1, o1), (101, tabO p1), (108, tabO p2)]) (hQ : ∀ h' tk (aX nX : Nat) (xX : List Value), Fr g L h' (fun y => if y = "totals" then some (.ref aX) else m y) → News g L h' [(aX, W.listOf xX.toArray nX), (101, tabO p1), (108, tabO p2)] → IntsAre xX (totalsI cs) → Q .next { s with heap := h', toks := tk }),
    wpAny (model PG w) (Around.mk none dp fr gd un) (exec (st 20) (lawEnv L fa cd)) Q (fun _ _ => False) s
noncomputable def cs20 : LV := @Classical.epsilon LV lv0 fun x => ¬ Ss20 x.w x.mean x.mg x.mb x.g x.L x.fa x.cd x.dp x.fr x.gd x.un x.Q x.s x.m x.aT x.aG x.aK x.aTo x.aS x.aD x.o1 x.o2 x.o3 x.o4 x.o5 x.o6 x.o7 x.xT x.xG x.xK x.xTo x.xS x.xD x.nT x.nG x.nK x.nTo x.nS x.nD x.p1 x.p2 x.aGp x.nGp x.xGp x.r0 x.r1 x.r2 x.r3 x.k0 x.k1 x.k2 x.k3 x.aTb x.nTb x.v0 x.v1 x.v2 x.v3 x.cs
namespace Ks20
@[irreducible] noncomputable def w : World := cs20.w
@[irreducible] noncomputable def mean : ExcName → Option Value := cs20.mean
@[irreducible] noncomputable def mg : Str → Option Value := cs20.mg
@[irreducible] noncomputable def mb : Str → Option Value := cs20.mb
@[irreducible] noncomputable def g : Heap := cs20.g
@[irreducible] noncomputable def L : Nat := cs20.L
@[irreducible] noncomputable def fa : Nat := cs20.fa
@[irreducible] noncomputable def cd : Value := cs20.cd
@[irreducible] noncomputable def dp : Nat := cs20.dp
@[irreducible] noncomputable def fr : Option (List Env) := cs20.fr
@[irreducible] noncomputable def gd : Option (List Code) := cs20.gd
@[irreducible] noncomputable def un : Nat := cs20.un
@[irreducible] noncomputable def Q : Flow → Shared → Prop := cs20.Q
@[irreducible] noncomputable def s : Shared := cs20.s
@[irreducible] noncomputable def m : Str → Option Value := cs20.m
@[irreducible] noncomputable def aT : Nat := cs20.aT
@[irreducible] noncomputable def aG : Nat := cs20.aG
@[irreducible] noncomputable def aK : Nat := cs20.aK
@[irreducible] noncomputable def aTo : Nat := cs20.aTo
@[irreducible] noncomputable def aS : Nat := cs20.aS
@[irreducible] noncomputable def aD : Nat := cs20.aD
@[irreducible] noncomputable def o1 : Obj := cs20.o1
@[irreducible] noncomputable def o2 : Obj := cs20.o2
@[irreducible] noncomputable def o3 : Obj := cs20.o3
@[irreducible] noncomputable def o4 : Obj := cs20.o4
@[irreducible] noncomputable def o5 : Obj := cs20.o5
@[irreducible] noncomputable def o6 : Obj := cs20.o6
@[irreducible] noncomputable def o7 : Obj := cs20.o7
@[irreducible] noncomputable def xT : Array Value := cs20.xT
@[irreducible] noncomputable def xG : Array Value := cs20.xG
@[irreducible] noncomputable def xK : Array Value := cs20.xK
@[irreducible] noncomputable def xTo : Array Value := cs20.xTo
@[irreducible] noncomputable def xS : Array Value := cs20.xS
@[irreducible] noncomputable def xD : Array Value := cs20.xD
@[irreducible] noncomputable def nT : Nat := cs20.nT
@[irreducible] noncomputable def nG : Nat := cs20.nG
@[irreducible] noncomputable def nK : Nat := cs20.nK
@[irreducible] noncomputable def nTo : Nat := cs20.nTo
@[irreducible] noncomputable def nS : Nat := cs20.nS
@[irreducible] noncomputable def nD : Nat := cs20.nD
@[irreducible] noncomputable def p1 : Array Value := cs20.p1
@[irreducible] noncomputable def p2 : Array Value := cs20.p2
@[irreducible] noncomputable def aGp : Nat := cs20.aGp
@[irreducible] noncomputable def nGp : Nat := cs20.nGp
@[irreducible] noncomputable def xGp : Array Value := cs20.xGp
@[irreducible] noncomputable def r0 : Nat := cs20.r0
@[irreducible] noncomputable def r1 : Nat := cs20.r1
@[irreducible] noncomputable def r2 : Nat := cs20.r2
@[irreducible] noncomputable def r3 : Nat := cs20.r3
@[irreducible] noncomputable def k0 : Nat := cs20.k0
@[irreducible] noncomputable def k1 : Nat := cs20.k1
@[irreducible] noncomputable def k2 : Nat := cs20.k2
@[irreducible] noncomputable def k3 : Nat := cs20.k3
@[irreducible] noncomputable def aTb : Nat := cs20.aTb
@[irreducible] noncomputable def nTb : Nat := cs20.nTb
@[irreducible] noncomputable def v0 : List Value := cs20.v0
@[irreducible] noncomputable def v1 : List Value := cs20.v1
@[irreducible] noncomputable def v2 : List Value := cs20.v2
@[irreducible] noncomputable def v3 : List Value := cs20.v3
@[irreducible] noncomputable def cs : List Int := cs20.cs
theorem holds : Ss20 w mean mg mb g L fa cd dp fr gd un Q s m aT aG aK aTo aS aD o1 o2 o3 o4 o5 o6 o7 xT xG xK xTo xS xD nT nG nK nTo nS nD p1 p2 aGp nGp xGp r0 r1 r2 r3 k0 k1 k2 k3 aTb nTb v0 v1 v2 v3 cs := by
  intro hS hA F l7 hK4 i0 i1 i2 i3 N hQ
  have hA3 := hA
  have X := hS.X
  have T := hS.T
  dsimp only [lawEnv]
  conv in (st 20) => whnf
  conv in (occs := *) (DefRec.scope lawRec) => all_goals whnf
  refine assign_listC 24 IntR (fun i => [totI cs (orders24.getD i [])]) rfl (by decide) (by with_unfolding_all rfl) (by with_unfolding_all rfl) (by with_unfolding_all rfl) rfl rfl (by decide) (by intro _; rfl) (by intro _; rfl) (by intro _; rfl) (by intro _; rfl) ?_
  k_steps
  rename Fr _ _ _ _ => F1
  rename News _ _ _ _ => N1
  refine unhalt ?_
  refine orders w mean mg mb 4 [0, 1, 2, 3] (by decide) rfl _ ⟨_, _, _, _, _⟩ _ _ _ _ (hA3.le (by decide)) (hS.keeps F1.keep) ⟨_, N1.get (.head _), rfl, _, rfl⟩ (.cons _ _ (.cons _ _ (.cons _ _ (.cons _ _ .nil)))) fun v h5 tk5 hv5 k5 => ?_
  have F5 := F1.keeps k5
  have N5 := N1.grown k5
  clear F1 N1
  obtain ⟨aO, nO, vO, rfl, hloO, gO, pO⟩ := hv5
  have zO : vO.length = 24 := by have := Paired.length pO; rw [← this]; exact orders24_len
  have eTb := N5.get (a := aTb) (o := W.listOf #[.ref r0, .ref r1, .ref r2, .ref r3] nTb) (by k_mem)
  have e7 := N5.get (a := L + 1 + 1 + 1 + 1 + 1 + 1 + 1) (o := o7) (by k_mem)
  have er0 := N5.get (a := r0) (o := W.listOf v0.toArray k0) (by k_mem)
  have er1 := N5.get (a := r1) (o := W.listOf v1.toArray k1) (by k_mem)
  have er2 := N5.get (a := r2) (o := W.listOf v2.toArray k2) (by k_mem)
  have er3 := N5.get (a := r3) (o := W.listOf v3.toArray k3) (by k_mem)
  refine ⟨aO, vO.toArray, _, rfl, ⟨_, gO, rfl, _, rfl⟩, by rw [List.size_toArray, zO], F5.ns, fun gB C H tk m₂ i hi v hv kB FB hm hno => ?_, fun D h' tk ys hD' hp hl hns' hk => ?_⟩
  · have SB : St w mean mg mb gB := (hS.keeps F5.keep).keeps kB
    obtain ⟨r, vr, ea, eb, aR, nR, vR, rfl, hloR, gR, iR⟩ := paired_get pO (j := i) (by rw [show (ordersI 4 [0, 1, 2, 3]).length = 24 from orders24_len]; exact hi)
    obtain rfl : v = .ref aR := by
      rw [List.getElem?_toArray, eb] at hv
      exact (Option.some.inj hv).symm
    have hr := orders24_in r (List.mem_of_getElem? ea)
    have er : orders24.getD i [] = r := getD_some ea
    rw [er]
    have c7 := kB _ _ e7
    have bTb := kB _ _ eTb
    have bR := kB _ _ gR
    have b0 := kB _ _ er0
    have b1 := kB _ _ er1
    have b2 := kB _ _ er2
    have b3 := kB _ _ er3
    clear N5 F5 X T eTb e7 er0 er1 er2 er3 hS gO gR
    have X := SB.X
    have T := SB.T
    obtain ⟨oc, hoc, hod⟩ := hm
    have N : News gB C H [(C + 1, oc)] := by
      intro p hp
      obtain rfl := List.mem_singleton.mp hp
      exact ⟨hoc, neN (by omega), hno⟩
    refine tests_nil ⟨H, tk, rfl, fun _ _ e => e, ?_⟩
    rw [if_pos rfl]
    dsimp only [compEnvW, relabel]
    conv in (occs := *) (List.map _ _) => all_goals simp only [List.map_cons, List.map_nil]
    conv in (occs := *) (ite _ _ _) => all_goals whnf

    k_steps
    refine unhalt ?_
    refine comp_rangeL 4 IntR (fun j => [costAt cs r j]) rfl (by decide) rfl rfl (by decide) (by intro _; rfl) (by intro _; rfl) (by intro _; rfl) ?_
    (try dsimp only)
    k_steps
    refine unhalt ?_
    refine call_range_1 (s := ⟨_, _, _, _, _⟩) ?_
    (try dsimp only)
    generalize hh6 : Heap.push H _ = h6
    have k6 : Keep H h6 := fun b o e => by rw [← hh6]; exact Heap.get?_push_of_some _ e
    have hRg : IsRange h6 H.objs.size 0 4 1 (tk + 1) tk (tk + 1 + 1) := by rw [← hh6]; exact IsRange.new _ _ _ _ _ _ _
    have F6 := FB.keeps k6
    have N6 := N.grown k6
    refine unhalt ⟨_, 0, 4, _, _, _, rfl, hRg, by decide, ⟨by decide, by decide⟩, fun gB2 C2 H2 tk2 m3 j hj t kB2 FB2 hm2 => ?_, fun D1 h1' tk1 ys1 hD1 hp1 hl1 hk1 => ?_⟩
    · have SB2 : St w mean mg mb gB2 := (SB.keeps F6.keep).keeps kB2
      have row : ∃ rj vj nj, (#[Value.ref r0, .ref r1, .ref r2, .ref r3])[j]? = some (.ref rj) ∧ gB.get? rj = some (W.listOf vj nj) ∧ ∃ t, vj[(r.getD j 0).toNat]? = some (.int (costAt cs r j) t) := by
        have hrj := hr.2 j (List.mem_range.mpr hj)
        have hz : ∀ q, (rowI cs q).length = 4 := fun q => by unfold rowI; rw [List.length_map, hK4]
        have hlt : ∀ q, (r.getD j 0).toNat < (rowI cs q).length := fun q => by rw [hz]; omega
        rcases (by omega : j = 0 ∨ j = 1 ∨ j = 2 ∨ j = 3) with rfl | rfl | rfl | rfl
        · obtain ⟨t, e⟩ := ints_pos i0 (hlt 0); exact ⟨r0, _, _, rfl, b0, t, e⟩
        · obtain ⟨t, e⟩ := ints_pos i1 (hlt 1); exact ⟨r1, _, _, rfl, b1, t, e⟩
        · obtain ⟨t, e⟩ := ints_pos i2 (hlt 2); exact ⟨r2, _, _, rfl, b2, t, e⟩
        · obtain ⟨t, e⟩ := ints_pos i3 (hlt 3); exact ⟨r3, _, _, rfl, b3, t, e⟩
      obtain ⟨rj, vj, nj, row1, row2, tc, row3⟩ := row
      obtain ⟨ti, row4⟩ := ints_pos iR (j := j) (by rw [hr.1]; exact hj)
      have hrj := hr.2 j (List.mem_range.mpr hj)
      have bc := kB2 _ _ (N6.get (a := C + 1) (o := oc) (by k_mem))
      have d7 := kB2 _ _ (F6.keep _ _ c7)
      have dTb := kB2 _ _ (F6.keep _ _ bTb)
      have dR := kB2 _ _ (F6.keep _ _ bR)
      have drj := kB2 _ _ (F6.keep _ _ row2)
      clear N6 F6 X T hRg hoc
      have X := SB2.X
      have T := SB2.T
      have N2 : News gB2 C2 H2 [] := News.nil
      refine tests_nil ⟨H2, tk2, rfl, fun _ _ e => e, ?_⟩
      rw [if_pos rfl]
      dsimp only [compEnvW, relabel]
      conv in (occs := *) (List.map _ _) => all_goals simp only [List.map_cons, List.map_nil]
      conv in (occs := *) (ite _ _ _) => all_goals whnf

      k_steps
      refine unhalt ?_
      refine base_sub (s := ⟨_, _, _, _, _⟩) FB2 dTb row1 (by omega) (by omega) ?_
      (try dsimp only)
      k_steps
      refine unhalt ?_
      refine base_sub (s := ⟨_, _, _, _, _⟩) FB2 dR row4 (by omega) (by omega) ?_
      (try dsimp only)
      k_steps
      refine unhalt ?_
      refine base_sub (s := ⟨_, _, _, _, _⟩) FB2 drj row3 (by omega) (by omega) ?_
      (try dsimp only)
      exact unhalt ⟨H2, _, _, rfl, fun _ _ e => e, ⟨_, rfl⟩, rfl⟩
    · obtain ⟨F3, n3, N3, lt3⟩ := list_new F6 N6 hD1 hl1 hk1
      have hp1' := ints_of_paired hp1
      rw [fm1] at hp1'
      (try dsimp only)
      clear F6 N6
      k_steps
      refine unhalt ?_
      refine sum_keep (s := ⟨_, _, _, _, _⟩) rfl ⟨_, N3.get (.head _), rfl, _, rfl⟩ hp1' fun h5' tk5' t5' k5' => ?_
      (try dsimp only)
      exact unhalt ⟨h5', _, _, rfl, fun b o e => k5' b o (hk1 b o (k6 b o e)), ⟨_, rfl⟩, rfl⟩
  · have hp' := ints_of_paired hp
    rw [fm1, show (24 : Nat) = orders24.length from orders24_len.symm, getDL_map] at hp'
    have hL5 : g.get? L = none := Heap.get?_none_of_le F5.above
    have F9 : Fr g L h' _ := ⟨hns', fun b o e => hk b o (fun q => by rw [show b = L from q, hL5] at e; cases e) (F5.keep b o e), F5.above⟩
    obtain ⟨nD, gD⟩ := hl
    have hLD : L < D := Nat.lt_of_lt_of_le F5.ns.lt hD'
    refine hQ _ _ D nD ys F9 (fun p hp => ?_) hp'
    rcases List.mem_cons.mp hp with rfl | hp
    · exact ⟨gD, Nat.ne_of_gt hLD, Heap.get?_none_of_le (Nat.le_trans F5.above (Nat.le_of_lt hLD))⟩
    · have hp2 := N5 p (by
        rcases List.mem_cons.mp hp with rfl | hp
        · k_mem
        obtain rfl := List.mem_singleton.mp hp
        k_mem)
      exact ⟨hk _ _ hp2.2.1 hp2.1, hp2.2⟩
end Ks20
theorem s20 {w : World} {mean : ExcName → Option Value} {mg mb : Str → Option Value} {g : Heap} {L fa : Nat} {cd : Value} {A : Around} {Q : Flow → Shared → Prop} {s : Shared} {m : Str → Option Value}
    {aT aG aK aTo aS aD : Nat} {o1 o2 o3 o4 o5 o6 o7 : Obj} {xT xG xK xTo xS xD : Array Value} {nT nG nK nTo nS nD : Nat} {p1 p2 : Array Value} {aGp nGp : Nat} {xGp : Array Value} {r0 r1 r2 r3 k0 k1 k2 k3 aTb nTb : Nat} {v0 v1 v2 v3 : List Value}
    (hS : St w mean mg mb g) (hA : AOk 59 A) (F : Fr g L s.heap m) (l7 : o7.data = .cell (some (.ref aTb)))
    {cs : List Int} (hK4 : (runP cs 8).K.length = 4) (i0 : IntsAre v0 (rowI cs 0)) (i1 : IntsAre v1 (rowI cs 1)) (i2 : IntsAre v2 (rowI cs 2)) (i3 : IntsAre v3 (rowI cs 3)) (N : News g L s.heap [(r0, W.listOf v0.toArray k0), (r1, W.listOf v1.toArray k1), (r2, W.listOf v2.toArray k2), (r3, W.listOf v3.toArray k3), (aTb, W.listOf #[.ref r0, .ref r1, .ref r2, .ref r3] nTb), (aGp, W.listOf xGp nGp), (aD, W.listOf xD nD), (aS, W.listOf xS nS), (aTo, W.listOf xTo nTo), (aK, W.listOf xK nK), (aG, W.listOf xG nG), (aT, W.listOf xT nT), (L + 1 + 1 + 1 + 1 + 1 + 1 + 1, o7), (L + 1 + 1 + 1 + 1 + 1 + 1, o6), (L + 1 + 1 + 1 + 1 + 1, o5), (L + 1 + 1 + 1 + 1, o4), (L + 1 + 1 + 1, o3), (L + 1 + 1, o2), (L + 1, o1), (101, tabO p1), (108, tabO p2)])
    (hQ : ∀ h' tk (aX nX : Nat) (xX : List Value), Fr g L h' (fun y => if y = "totals" then some (.ref aX) else m y) → News g L h' [(aX, W.listOf xX.toArray nX), (101, tabO p1), (108, tabO p2)] → IntsAre xX (totalsI cs) → Q .next { s with heap := h', toks := tk }) :
    wpAny (model PG w) A (exec (st 20) (lawEnv L fa cd)) Q (fun _ _ => False) s := by
  obtain ⟨hd0, dp, fr, gd, un⟩ := A
  obtain rfl : hd0 = none := hA.hd
  exact skolem lv0 (fun x => Ss20 x.w x.mean x.mg x.mb x.g x.L x.fa x.cd x.dp x.fr x.gd x.un x.Q x.s x.m x.aT x.aG x.aK x.aTo x.aS x.aD x.o1 x.o2 x.o3 x.o4 x.o5 x.o6 x.o7 x.xT x.xG x.xK x.xTo x.xS x.xD x.nT x.nG x.nK x.nTo x.nS x.nD x.p1 x.p2 x.aGp x.nGp x.xGp x.r0 x.r1 x.r2 x.r3 x.k0 x.k1 x.k2 x.k3 x.aTb x.nTb x.v0 x.v1 x.v2 x.v3 x.cs) (by with_unfolding_all exact Ks20.holds) ⟨w, mean, mg, mb, g, L, fa, cd, dp, fr, gd, un, Q, m, s, (Classical.choice lv0).news, (Classical.choice lv0).ls, (Classical.choice lv0).c, (Classical.choice lv0).vs, (Classical.choice lv0).xs, (Classical.choice lv0).its, cs, (Classical.choice lv0).n, (Classical.choice lv0).oc, (Classical.choice lv0).rest, o1, o2, o3, o4, o5, o6, o7, (Classical.choice lv0).d, (Classical.choice lv0).r, aT, aG, aK, aTo, aS, aD, (Classical.choice lv0).it, (Classical.choice lv0).e, (Classical.choice lv0).i, (Classical.choice lv0).nbx, (Classical.choice lv0).tn, (Classical.choice lv0).tk0, (Classical.choice lv0).oI, (Classical.choice lv0).oE, xT, xG, xK, xTo, xS, xD, (Classical.choice lv0).itsbx, nT, nG, nK, nTo, nS, nD, (Classical.choice lv0).nC, (Classical.choice lv0).nr, (Classical.choice lv0).ritems, p1, p2, (Classical.choice lv0).t2, (Classical.choice lv0).t3, (Classical.choice lv0).yT, (Classical.choice lv0).tt, (Classical.choice lv0).tl, (Classical.choice lv0).v, (Classical.choice lv0).tv, (Classical.choice lv0).tm, (Classical.choice lv0).mkS, (Classical.choice lv0).fa', (Classical.choice lv0).fb', (Classical.choice lv0).l, (Classical.choice lv0).mkF, (Classical.choice lv0).bk, (Classical.choice lv0).tw, (Classical.choice lv0).tb, (Classical.choice lv0).td, (Classical.choice lv0).dl, aGp, nGp, xGp, r0, r1, r2, r3, k0, k1, k2, k3, aTb, nTb, v0, v1, v2, v3, (Classical.choice lv0).aX, (Classical.choice lv0).nX, (Classical.choice lv0).xX, (Classical.choice lv0).ns, (Classical.choice lv0).c0, (Classical.choice lv0).d0, (Classical.choice lv0).tc, (Classical.choice lv0).tf, (Classical.choice lv0).j⟩ hS hA F l7 hK4 i0 i1 i2 i3 N hQ
end
end Mine
end OfA46
local macro_rules | `(tactic| walk_at "nmB") => `(tactic| refine nmB (by with_unfolding_all rfl) (by k_asm) (by k_asm) (by k_asm) (by k_is) (by boot_by_name) (by decide) ?_)
section OfA38
open PySem PySem.W PySem.W.X PySem.Calls PyProof.Rows
set_option Elab.async false
set_option maxRecDepth 100000
set_option maxHeartbeats 4000000
set_option pp.maxSteps 3000
namespace Mine
noncomputable section
theorem filled38 : kk.heap_1 = kk.heap_1 ∧ PySem.Challenge.rw_wu0057_01.name = PySem.Challenge.rw_wu0057_01.name := by
  k_fill
  exact ⟨rfl, rfl⟩

noncomputable abbrev rngO (x left : Int) : Obj := { cls := .type "range_iterator", dict := none, data := .fields #[rawInt x, rawInt left, rawInt 1], slots := #[] }
@[reducible] def RgV : Type := (Program) × (World) × (Around) × (Heap) × (Shared) × (Env) × (Value → Shared → Prop) × (Result → Shared → Prop) × (Str) × (Pos) × (List Stmt) × (Nat) × (Nat) × (Nat) × (Nat) × (Nat) × (Str → Option Value) × (List (Addr × Obj))
theorem rgv0 : Nonempty RgV := ⟨⟨PG, W0, (Around.mk none 0 none none 0), {}, {}, default, fun _ _ => True, fun _ _ => True, ⟨#[]⟩, default, [], 0, 0, 0, 0, 0, fun _ => none, []⟩⟩
noncomputable def Srange_for (prog : Program) (w : World) (A : Around) (g : Heap) (s : Shared) (env : Env) (E : Value → Shared → Prop) (R : Result → Shared → Prop) (x : Str) (px : Pos) (body : List Stmt) (r : Addr) (n : Nat) (t0 : Tok) (u0 : Tok) (v0 : Tok) (m : Str → Option Value) (news : List (Addr × Obj)) : Prop := ∀ (L : Addr) (hh : A.handled = none) (hx : env.kindOf x = some .local) (hp : (env.scope.kind == .class || (env.scope.kind == .module && env.locals != env.globals)) = false) (eL : env.locals = L) (F : Fr g L s.heap m) (N : News g L s.heap news) (hn : n ≤ 1000000) (hr : IsRange s.heap r 0 (n : Int) 1 t0 u0 v0) (J : Nat → (Str → Option Value) → Prop) (h0 : J 0 m) (step : ∀ i tk m₁ h tk' it oi, i < n → J i m₁ → Fr g L h (fun y => if y = x then some (.int (i : Int) tk) else m₁ y) → News g L h ((it, oi) :: news) →
      wpAny (model prog w) A (execs body env) (fun f s₂ => Halt (f = .next ∧ ∃ h' tk'' m₂, s₂ = { s with heap := h', toks := tk'' } ∧ Fr g L h' m₂ ∧ News g L h' ((it, oi) :: news) ∧ J (i + 1) m₂)) (fun _ _ => False) { s with heap := h, toks := tk' }) (hQ : ∀ h' tk m', Fr g L h' m' → News g L h' news → J n m' → R (.ok .next) { s with heap := h', toks := tk }),
    wpAny (model prog w) A (pyIter (.ref r)) (fun it s₂ => codeAny (model prog w) A (.forLoop (.Name x px) it body [] env) R s₂) E s
noncomputable def crange_for : RgV := @Classical.epsilon RgV rgv0 fun x => ¬ Srange_for x.1 x.2.1 x.2.2.1 x.2.2.2.1 x.2.2.2.2.1 x.2.2.2.2.2.1 x.2.2.2.2.2.2.1 x.2.2.2.2.2.2.2.1 x.2.2.2.2.2.2.2.2.1 x.2.2.2.2.2.2.2.2.2.1 x.2.2.2.2.2.2.2.2.2.2.1 x.2.2.2.2.2.2.2.2.2.2.2.1 x.2.2.2.2.2.2.2.2.2.2.2.2.1 x.2.2.2.2.2.2.2.2.2.2.2.2.2.1 x.2.2.2.2.2.2.2.2.2.2.2.2.2.2.1 x.2.2.2.2.2.2.2.2.2.2.2.2.2.2.2.1 x.2.2.2.2.2.2.2.2.2.2.2.2.2.2.2.2.1 x.2.2.2.2.2.2.2.2.2.2.2.2.2.2.2.2.2
namespace Krange_for
@[irreducible] noncomputable def prog : Program := crange_for.1
@[irreducible] noncomputable def w : World := crange_for.2.1
@[irreducible] noncomputable def A : Around := crange_for.2.2.1
@[irreducible] noncomputable def g : Heap := crange_for.2.2.2.1
@[irreducible] noncomputable def s : Shared := crange_for.2.2.2.2.1
@[irreducible] noncomputable def env : Env := crange_for.2.2.2.2.2.1
@[irreducible] noncomputable def E : Value → Shared → Prop := crange_for.2.2.2.2.2.2.1
@[irreducible] noncomputable def R : Result → Shared → Prop := crange_for.2.2.2.2.2.2.2.1
@[irreducible] noncomputable def x : Str := crange_for.2.2.2.2.2.2.2.2.1
@[irreducible] noncomputable def px : Pos := crange_for.2.2.2.2.2.2.2.2.2.1
@[irreducible] noncomputable def body : List Stmt := crange_for.2.2.2.2.2.2.2.2.2.2.1
@[irreducible] noncomputable def r : Addr := crange_for.2.2.2.2.2.2.2.2.2.2.2.1
@[irreducible] noncomputable def n : Nat := crange_for.2.2.2.2.2.2.2.2.2.2.2.2.1
@[irreducible] noncomputable def t0 : Tok := crange_for.2.2.2.2.2.2.2.2.2.2.2.2.2.1
@[irreducible] noncomputable def u0 : Tok := crange_for.2.2.2.2.2.2.2.2.2.2.2.2.2.2.1
@[irreducible] noncomputable def v0 : Tok := crange_for.2.2.2.2.2.2.2.2.2.2.2.2.2.2.2.1
@[irreducible] noncomputable def m : Str → Option Value := crange_for.2.2.2.2.2.2.2.2.2.2.2.2.2.2.2.2.1
@[irreducible] noncomputable def news : List (Addr × Obj) := crange_for.2.2.2.2.2.2.2.2.2.2.2.2.2.2.2.2.2
theorem holds : Srange_for prog w A g s env E R x px body r n t0 u0 v0 m news := by
  intro L hh hx hp eL F N hn hr J h0 step hQ
  subst eL
  have esz : Builtin.Range.rangeSize 0 (n : Int) 1 = (n : Int) := by rw [rangeSize_nat]; omega
  refine wpAny_pyIter_range hr (small_one (by omega) (by omega) (by omega) (by omega)) ?_
  rw [esz]
  have hfr := fresh_of F (Nat.le_refl s.heap.objs.size)
  have kI : Keep s.heap (s.heap.push (rngO 0 n)) := fun b o e => Heap.get?_push_of_some _ e
  have gI : (s.heap.push (rngO 0 n)).get? s.heap.objs.size = some (rngO 0 n) := Heap.get?_push_size _ rfl
  have hlt : ∀ p ∈ news, p.1 ≠ s.heap.objs.size := fun p hp => Nat.ne_of_lt (Heap.lt_size (N p hp).1)
  have hLlt : env.locals ≠ s.heap.objs.size := Nat.ne_of_lt F.ns.lt
  have F1 := F.keeps kI
  have N1 : News g env.locals (s.heap.push (rngO 0 n)) ((s.heap.objs.size, rngO 0 n) :: news) := by
    intro p hp
    rcases List.mem_cons.mp hp with rfl | hp
    · exact ⟨gI, hfr⟩
    · exact N.grown kI p hp
  clear F N gI kI hr
  generalize s.heap.objs.size = it at *
  refine codeAny_forLoop_any (fun k s' => ∃ (i : Nat) (h : Heap) (tk : Nat) (m' : Str → Option Value), s' = { s with heap := h, toks := tk } ∧ Fr g env.locals h m' ∧ News g env.locals h ((it, rngO (i : Int) ((n : Int) - (i : Nat))) :: news) ∧ J i m' ∧ i ≤ n ∧ k = n + 1 - i) ?_ (n + 1)
    ⟨0, s.heap.push (rngO 0 n), s.toks, m, rfl, F1, by simpa using N1, h0, Nat.zero_le _, rfl⟩
  rintro k s' ⟨i, h, tk, m', rfl, F', N', hJ, hi, rfl⟩
  have hit := N'.get (.head _)
  have hit3 := (N' _ (.head _)).2.2
  by_cases hlt' : i < n
  · refine wpAny_pyNext_range_item hit (by omega) fun h1 hit1 hs1 => ?_
    replace hs1 : Heap.SameBut it h h1 := hs1
    refine wpAny_of_eq (by rfl) ?_
    refine wpAny_assign_Name (wpAny_storeName_local hx (F'.ns.sameBut hs1 hLlt) (fun h2 hn2 hs2 => ?_) hp)
    replace hs2 : Heap.SameBut env.locals h1 h2 := hs2
    have kk : ∀ b o, b ≠ env.locals → b ≠ it → h.get? b = some o → h2.get? b = some o := fun b o n1 n2 e => hs2.extBut b o n1 (hs1.extBut b o n2 e)
    have F2 : Fr g env.locals h2 (fun y => if y = x then some (.int (i : Int) tk) else m' y) := by
      refine ⟨hn2, fun b o e => kk b o ?_ ?_ (F'.keep b o e), F'.above⟩
      · exact Nat.ne_of_lt (Nat.lt_of_lt_of_le (Heap.lt_size e) F'.above)
      · rintro rfl; rw [hit3] at e; cases e
    have e1 : ((i : Int) + 1) = ((i + 1 : Nat) : Int) := by push_cast; rfl
    have e2 : (n : Int) - (i : Nat) - 1 = (n : Int) - ((i + 1 : Nat) : Int) := by push_cast; omega
    rw [e1, e2] at hit1
    have N2 : News g env.locals h2 ((it, rngO ((i + 1 : Nat) : Int) ((n : Int) - ((i + 1 : Nat) : Int))) :: news) := by
      intro p hp
      rcases List.mem_cons.mp hp with rfl | hp
      · exact ⟨hs2.extBut _ _ (Ne.symm hLlt) hit1, (N' _ (.head _)).2⟩
      · obtain ⟨p1, p2, p3⟩ := N' p (List.mem_cons_of_mem _ hp)
        exact ⟨kk _ _ p2 (hlt p hp) p1, p2, p3⟩
    refine wpAny_mono (step i tk m' h2 _ it _ hlt' hJ F2 N2) (fun f s3 h3 => ?_) fun _ _ x => x.elim
    obtain ⟨rfl, h4, tk4, m4, rfl, F4, N4, J4⟩ := h3
    exact ⟨n + 1 - (i + 1), by omega, i + 1, h4, tk4, m4, rfl, F4, N4, J4, hlt', rfl⟩
  · have hin : i = n := by omega
    subst hin
    refine wpAny_pyNext_range_end hh hit (by omega) fun h1 he1 => wpAny_execs_nil ?_
    replace he1 : Heap.ExtBut it h h1 := he1
    refine hQ h1 tk m' ⟨F'.ns.extBut he1 hLlt, fun b o e => he1 b o ?_ (F'.keep b o e), F'.above⟩ (fun p hp => ?_) hJ
    · rintro rfl; rw [hit3] at e; cases e
    · obtain ⟨p1, p2, p3⟩ := N' p (List.mem_cons_of_mem _ hp)
      exact ⟨he1 _ _ (hlt p hp) p1, p2, p3⟩
end Krange_for
theorem range_for {prog : Program} {w : World} {A : Around} {g : Heap} {L : Addr} {s : Shared} {env : Env} {E : Value → Shared → Prop} {R : Result → Shared → Prop} {x : Str} {px : Pos} {body : List Stmt} {r : Addr} {n : Nat} {t0 u0 v0 : Tok} {m : Str → Option Value} {news : List (Addr × Obj)}
    (hh : A.handled = none) (hx : env.kindOf x = some .local) (hp : (env.scope.kind == .class || (env.scope.kind == .module && env.locals != env.globals)) = false) (eL : env.locals = L)
    (F : Fr g L s.heap m) (N : News g L s.heap news) (hn : n ≤ 1000000) (hr : IsRange s.heap r 0 (n : Int) 1 t0 u0 v0) (J : Nat → (Str → Option Value) → Prop) (h0 : J 0 m)
    (step : ∀ i tk m₁ h tk' it oi, i < n → J i m₁ → Fr g L h (fun y => if y = x then some (.int (i : Int) tk) else m₁ y) → News g L h ((it, oi) :: news) →
      wpAny (model prog w) A (execs body env) (fun f s₂ => Halt (f = .next ∧ ∃ h' tk'' m₂, s₂ = { s with heap := h', toks := tk'' } ∧ Fr g L h' m₂ ∧ News g L h' ((it, oi) :: news) ∧ J (i + 1) m₂)) (fun _ _ => False) { s with heap := h, toks := tk' })
    (hQ : ∀ h' tk m', Fr g L h' m' → News g L h' news → J n m' → R (.ok .next) { s with heap := h', toks := tk }) :
    wpAny (model prog w) A (pyIter (.ref r)) (fun it s₂ => codeAny (model prog w) A (.forLoop (.Name x px) it body [] env) R s₂) E s := by
  exact skolem rgv0 (fun x => Srange_for x.1 x.2.1 x.2.2.1 x.2.2.2.1 x.2.2.2.2.1 x.2.2.2.2.2.1 x.2.2.2.2.2.2.1 x.2.2.2.2.2.2.2.1 x.2.2.2.2.2.2.2.2.1 x.2.2.2.2.2.2.2.2.2.1 x.2.2.2.2.2.2.2.2.2.2.1 x.2.2.2.2.2.2.2.2.2.2.2.1 x.2.2.2.2.2.2.2.2.2.2.2.2.1 x.2.2.2.2.2.2.2.2.2.2.2.2.2.1 x.2.2.2.2.2.2.2.2.2.2.2.2.2.2.1 x.2.2.2.2.2.2.2.2.2.2.2.2.2.2.2.1 x.2.2.2.2.2.2.2.2.2.2.2.2.2.2.2.2.1 x.2.2.2.2.2.2.2.2.2.2.2.2.2.2.2.2.2) (by with_unfolding_all exact Krange_for.holds) ⟨prog, w, A, g, s, env, E, R, x, px, body, r, n, t0, u0, v0, m, news⟩ L hh hx hp eL F N hn hr J h0 step hQ
end
end Mine
end OfA38
section OfA39
open PySem PySem.W PySem.W.X PySem.Calls PyProof.Rows
set_option Elab.async false
set_option maxRecDepth 100000
set_option maxHeartbeats 4000000
set_option pp.maxSteps 3000
namespace Mine
noncomputable section
theorem filled39 : kk.heap_1 = kk.heap_1 ∧ PySem.Challenge.rw_wu0057_01.name = PySem.Challenge.rw_wu0057_01.name := by
  k_fill
  exact ⟨rfl, rfl⟩

noncomputable def absI (d : Int) : Int := if d < 0 then -d else d
noncomputable def waysI (cs : List Int) : Nat → Int
  | 0 => 1
  | i + 1 => if absI (depI cs (i + 1)) < absI (depI cs i) then waysI cs i * absI (depI cs i) else waysI cs i
theorem led_sub {prog : Program} {w : World} {A : Around} {E : Value → Shared → Prop} {s : Shared} {value slice : Expr} {D : Addr} {its : Array Value} {n j : Nat} {x : Value} {k : Int} {u : Tok} {Q : Value → Shared → Prop} (hg : s.heap.get? D = some (W.listOf its n)) (hx : its[j]? = some x) (hk : k = (j : Int)) (hj : j < 1000000) (h : Q x s)
    (hs : subscripted slice false (.ref D) (.int k u) = operate [.ref D, .int k u] (getItem (.ref D) (.int k u)) := by with_unfolding_all rfl) :
    wpAny (model prog w) A (subscriptTail value slice (.ref D) (.int k u)) Q E s := by
  subst hk
  have hl : s.heap.IsList D its := ⟨_, hg, rfl, _, rfl⟩
  exact tail_any hl.typeIs slot_list_getitem.lookup (wpAny_getItem_list hl (by omega) (by omega) (by rw [Int.toNat_natCast]; exact hx) h) hs
local macro_rules | `(tactic| walk_at "subscriptTail") => `(tactic| refine halt ?_)
local macro_rules | `(tactic| walk_at "eval Name") => `(tactic| (k_here; walk_at "nmX"))
local macro_rules | `(tactic| walk_at "exec For") => `(tactic| refine halt ?_)
local macro_rules | `(tactic| walk_at "exec For Name Call cons nil") => `(tactic| refine halt ?_)
local macro_rules | `(tactic| walk_at "pyIter ref") => `(tactic| refine halt ?_)
noncomputable def Ss17 (w : World) (mean : ExcName → Option Value) (mg : Str → Option Value) (mb : Str → Option Value) (g : Heap) (L : Nat) (fa : Nat) (cd : Value) (dp : Nat) (fr : Option (List Env)) (gd : Option (List Code)) (un : Nat) (Q : Flow → Shared → Prop) (s : Shared) (m : Str → Option Value) (aT : Nat) (aG : Nat) (aK : Nat) (aTo : Nat) (aS : Nat) (aD : Nat) (o1 : Obj) (o2 : Obj) (o3 : Obj) (o4 : Obj) (o5 : Obj) (o6 : Obj) (o7 : Obj) (xT : Array Value) (xG : Array Value) (xK : Array Value) (xTo : Array Value) (xS : Array Value) (xD : Array Value) (nT : Nat) (nG : Nat) (nK : Nat) (nTo : Nat) (nS : Nat) (nD : Nat) (p1 : Array Value) (p2 : Array Value) (aGp : Nat) (nGp : Nat) (xGp : Array Value) (rest : List Stmt) (cs : List Int) : Prop := ∀ (hS : St w mean mg mb g) (hA : AOk 59 (Around.mk none dp fr gd un)) (F : Fr g L s.heap m) (h0 : 108 < L) (h1 : L + 1 + 1 + 1 + 1 + 1 + 1 + 1 < aT) (h5 : aT < aG) (h6 : aG < aK) (h7 : aK < aTo) (h8 : aTo < aS) (h9 : aS < aD) (l1 : o1.data = .cell (some (.ref aT))) (l2 : o2.data = .cell (some (.ref aG))) (l3 : o3.data = .cell (some (.ref aK))) (l4 : o4.data = .cell (some (.ref aTo))) (l5 : o5.data = .cell (some (.ref aD))) (hD : IntsAre xD.toList (runP cs 8).deps) (N : News g L s.heap [(aGp, W.listOf xGp nGp), (aD, W.listOf xD nD), (aS, W.listOf xS nS), (aTo, W.listOf xTo nTo), (aK, W.listOf xK nK), (aG, W.listOf xG nG), (aT, W.listOf xT nT), (L + 1 + 1 + 1 + 1 + 1 + 1 + 1, o7), (L + 1 + 1 + 1 + 1 + 1 + 1, o6), (L + 1 + 1 + 1 + 1 + 1, o5), (L + 1 + 1 + 1 + 1, o4), (L + 1 + 1 + 1, o3), (L + 1 + 1, o2), (L + 1, o1), (101, tabO p1), (108, tabO p2)]) (hQ : ∀ h' tk m', Fr g L h' m' → (∀ y : Str, y ≠ "k" → y ≠ "ways" → m' y = m y) → (∃ t, m' "ways" = some (.int (waysI cs 8) t)) → News g L h' [(aGp, W.listOf xGp nGp), (aD, W.listOf xD nD), (aS, W.listOf xS nS), (aTo, W.listOf xTo nTo), (aK, W.listOf xK nK), (aG, W.listOf xG nG), (aT, W.listOf xT nT), (L + 1 + 1 + 1 + 1 + 1 + 1 + 1, o7), (L + 1 + 1 + 1 + 1 + 1 + 1, o6), (L + 1 + 1 + 1 + 1 + 1, o5), (L + 1 + 1 + 1 + 1, o4), (L + 1 + 1 + 1, o3), (L + 1 + 1, o2), (L + 1, o1), (101, tabO p1), (108, tabO p2)] → wpAny (model PG w) (Around.mk none dp fr gd un) (execs rest (lawEnv L fa cd)) Q (fun _ _ => False) { s with heap := h', toks := tk }),
    wpAny (model PG w) (Around.mk none dp fr gd un) (execs (st 16 :: st 17 :: rest) (lawEnv L fa cd)) Q (fun _ _ => False) s
noncomputable def cs17 : LV := @Classical.epsilon LV lv0 fun x => ¬ Ss17 x.w x.mean x.mg x.mb x.g x.L x.fa x.cd x.dp x.fr x.gd x.un x.Q x.s x.m x.aT x.aG x.aK x.aTo x.aS x.aD x.o1 x.o2 x.o3 x.o4 x.o5 x.o6 x.o7 x.xT x.xG x.xK x.xTo x.xS x.xD x.nT x.nG x.nK x.nTo x.nS x.nD x.p1 x.p2 x.aGp x.nGp x.xGp x.rest x.cs
namespace Ks17
@[irreducible] noncomputable def w : World := cs17.w
@[irreducible] noncomputable def mean : ExcName → Option Value := cs17.mean
@[irreducible] noncomputable def mg : Str → Option Value := cs17.mg
@[irreducible] noncomputable def mb : Str → Option Value := cs17.mb
@[irreducible] noncomputable def g : Heap := cs17.g
@[irreducible] noncomputable def L : Nat := cs17.L
@[irreducible] noncomputable def fa : Nat := cs17.fa
@[irreducible] noncomputable def cd : Value := cs17.cd
@[irreducible] noncomputable def dp : Nat := cs17.dp
@[irreducible] noncomputable def fr : Option (List Env) := cs17.fr
@[irreducible] noncomputable def gd : Option (List Code) := cs17.gd
@[irreducible] noncomputable def un : Nat := cs17.un
@[irreducible] noncomputable def Q : Flow → Shared → Prop := cs17.Q
@[irreducible] noncomputable def s : Shared := cs17.s
@[irreducible] noncomputable def m : Str → Option Value := cs17.m
@[irreducible] noncomputable def aT : Nat := cs17.aT
@[irreducible] noncomputable def aG : Nat := cs17.aG
@[irreducible] noncomputable def aK : Nat := cs17.aK
@[irreducible] noncomputable def aTo : Nat := cs17.aTo
@[irreducible] noncomputable def aS : Nat := cs17.aS
@[irreducible] noncomputable def aD : Nat := cs17.aD
@[irreducible] noncomputable def o1 : Obj := cs17.o1
@[irreducible] noncomputable def o2 : Obj := cs17.o2
@[irreducible] noncomputable def o3 : Obj := cs17.o3
@[irreducible] noncomputable def o4 : Obj := cs17.o4
@[irreducible] noncomputable def o5 : Obj := cs17.o5
@[irreducible] noncomputable def o6 : Obj := cs17.o6
@[irreducible] noncomputable def o7 : Obj := cs17.o7
@[irreducible] noncomputable def xT : Array Value := cs17.xT
@[irreducible] noncomputable def xG : Array Value := cs17.xG
@[irreducible] noncomputable def xK : Array Value := cs17.xK
@[irreducible] noncomputable def xTo : Array Value := cs17.xTo
@[irreducible] noncomputable def xS : Array Value := cs17.xS
@[irreducible] noncomputable def xD : Array Value := cs17.xD
@[irreducible] noncomputable def nT : Nat := cs17.nT
@[irreducible] noncomputable def nG : Nat := cs17.nG
@[irreducible] noncomputable def nK : Nat := cs17.nK
@[irreducible] noncomputable def nTo : Nat := cs17.nTo
@[irreducible] noncomputable def nS : Nat := cs17.nS
@[irreducible] noncomputable def nD : Nat := cs17.nD
@[irreducible] noncomputable def p1 : Array Value := cs17.p1
@[irreducible] noncomputable def p2 : Array Value := cs17.p2
@[irreducible] noncomputable def aGp : Nat := cs17.aGp
@[irreducible] noncomputable def nGp : Nat := cs17.nGp
@[irreducible] noncomputable def xGp : Array Value := cs17.xGp
@[irreducible] noncomputable def rest : List Stmt := cs17.rest
@[irreducible] noncomputable def cs : List Int := cs17.cs
theorem holds : Ss17 w mean mg mb g L fa cd dp fr gd un Q s m aT aG aK aTo aS aD o1 o2 o3 o4 o5 o6 o7 xT xG xK xTo xS xD nT nG nK nTo nS nD p1 p2 aGp nGp xGp rest cs := by
  intro hS hA F h0 h1 h5 h6 h7 h8 h9 l1 l2 l3 l4 l5 hD N hQ
  have hDec := Dec.cons h9 (.cons h8 (.cons h7 (.cons h6 (.cons h5 (.cons h1 (decL h0))))))
  have X := hS.X
  have T := hS.T
  dsimp only [lawEnv]
  conv in (st 16) => whnf
  conv in (st 17) => whnf
  conv in (occs := *) (DefRec.scope lawRec) => all_goals whnf
  refine wpAny_execs_cons ?_
  k_steps
  refine unhalt ?_
  refine wpAny_For ?_
  k_steps
  refine unhalt ?_
  rename Fr _ _ _ _ => F1
  rename News _ _ _ _ => N1
  rename IsRange _ _ _ _ _ _ _ _ => hRg
  refine' range_for (A := { depth := dp, frames := fr, guards := gd, units := un }) (n := 8) rfl ?hx ?hp ?eL ?F1 ?N1 (by decide) ?hRg (fun i m' => (∀ y : Str, y ≠ "k" → y ≠ "ways" → m' y = m y) ∧ ∃ t, m' "ways" = some (.int (waysI cs i) t)) ?h0 ?st ?q
  (case F1 => exact F1)
  (case N1 => exact N1)
  (case hRg => exact hRg)
  (case hx => with_unfolding_all rfl)
  (case hp => with_unfolding_all rfl)
  (case eL => rfl)
  (case h0 =>
    refine ⟨fun y _ hy => ?_, ?_⟩
    · (try dsimp only)
      rw [if_neg hy]
    · refine Exists.intro ?_ ?_
      rotate_left
      · with_unfolding_all rfl)
  (case st =>
    rintro i tk m1 h tk' it oi hi ⟨hm1, tw, hw⟩ F2 N2
    obtain ⟨t1, g1⟩ := dep_at hD (i + 1) (by omega)
    obtain ⟨t2, g2⟩ := dep_at hD i (by omega)
    clear F1 N1
    have eD := N2.get (a := aD) (o := W.listOf xD nD) (by k_mem)
    k_steps
    refine unhalt ?_
    refine led_sub (s := ⟨_, _, _, _, _⟩) eD g1 (by push_cast; omega) (by omega) ?_
    (try dsimp only)
    k_steps
    refine unhalt ?_
    refine led_sub (s := ⟨_, _, _, _, _⟩) eD g2 rfl (by omega) ?_
    (try dsimp only)
    k_steps
    · rename Fr _ _ _ _ => F5
      have hwv : (fun y : Str => if y = "k" then some (Value.int (i : Int) tk) else m1 y) "ways" = some (.int (waysI cs i) tw) := by
        dsimp only
        rw [if_neg (by decide)]
        exact hw
      refine wpAny_loadName_local (by with_unfolding_all rfl) (by with_unfolding_all rfl) F5.ns hwv ?_
      (try dsimp only)
      k_steps
      refine unhalt ?_
      refine led_sub (s := ⟨_, _, _, _, _⟩) eD g2 rfl (by omega) ?_
      (try dsimp only)
      k_steps
      have db := dep_bound cs i (by omega)
      refine PySem.P.imul_int (s := ⟨_, _, _, _, _⟩) ?_ (IntMulOk.of_right (intBits_le_64 (by split <;> omega) (by split <;> omega)))
      (try dsimp only)
      k_steps
      rename Fr _ _ _ _ => F6
      rename News _ _ _ _ => N6
      refine unhalt ⟨rfl, _, _, _, rfl, F6, N6, ?_, ?_⟩
      · intro y y1 y2
        (try dsimp only)
        rw [if_neg y2, if_neg y1]
        exact hm1 y y1 y2
      · have ev : waysI cs (i + 1) = waysI cs i * absI (depI cs i) := by
          show (if absI (depI cs (i + 1)) < absI (depI cs i) then _ else _) = _
          rw [if_pos (by assumption)]
        rw [ev]
        refine Exists.intro ?_ ?_
        rotate_left
        · (try dsimp only)
          rw [if_pos rfl]
          rfl
    · rename Fr _ _ _ _ => F5
      refine unhalt ⟨rfl, _, _, _, rfl, F5, N2, fun y y1 y2 => ?_, ⟨tw, ?_⟩⟩
      · (try dsimp only)
        rw [if_neg y1]
        exact hm1 y y1 y2
      · (try dsimp only)
        rw [if_neg (by decide), hw]
        show _ = some (Value.int (if absI (depI cs (i + 1)) < absI (depI cs i) then _ else waysI cs i) tw)
        rw [if_neg (by assumption)])
  (case q =>
    rintro h' tk m' F9 N9 ⟨hm9, tw, hw⟩
    exact hQ h' tk m' F9 hm9 ⟨tw, hw⟩ N9)
end Ks17
theorem s17 {w : World} {mean : ExcName → Option Value} {mg mb : Str → Option Value} {g : Heap} {L fa : Nat} {cd : Value} {A : Around} {Q : Flow → Shared → Prop} {s : Shared} {m : Str → Option Value}
    {aT aG aK aTo aS aD : Nat} {o1 o2 o3 o4 o5 o6 o7 : Obj} {xT xG xK xTo xS xD : Array Value} {nT nG nK nTo nS nD : Nat} {p1 p2 : Array Value} {aGp nGp : Nat} {xGp : Array Value} {rest : List Stmt}
    (hS : St w mean mg mb g) (hA : AOk 59 A) (F : Fr g L s.heap m) (h0 : 108 < L) (h1 : L + 1 + 1 + 1 + 1 + 1 + 1 + 1 < aT) (h5 : aT < aG) (h6 : aG < aK) (h7 : aK < aTo) (h8 : aTo < aS) (h9 : aS < aD) (l1 : o1.data = .cell (some (.ref aT))) (l2 : o2.data = .cell (some (.ref aG))) (l3 : o3.data = .cell (some (.ref aK))) (l4 : o4.data = .cell (some (.ref aTo))) (l5 : o5.data = .cell (some (.ref aD)))
    {cs : List Int} (hD : IntsAre xD.toList (runP cs 8).deps) (N : News g L s.heap [(aGp, W.listOf xGp nGp), (aD, W.listOf xD nD), (aS, W.listOf xS nS), (aTo, W.listOf xTo nTo), (aK, W.listOf xK nK), (aG, W.listOf xG nG), (aT, W.listOf xT nT), (L + 1 + 1 + 1 + 1 + 1 + 1 + 1, o7), (L + 1 + 1 + 1 + 1 + 1 + 1, o6), (L + 1 + 1 + 1 + 1 + 1, o5), (L + 1 + 1 + 1 + 1, o4), (L + 1 + 1 + 1, o3), (L + 1 + 1, o2), (L + 1, o1), (101, tabO p1), (108, tabO p2)])
    (hQ : ∀ h' tk m', Fr g L h' m' → (∀ y : Str, y ≠ "k" → y ≠ "ways" → m' y = m y) → (∃ t, m' "ways" = some (.int (waysI cs 8) t)) → News g L h' [(aGp, W.listOf xGp nGp), (aD, W.listOf xD nD), (aS, W.listOf xS nS), (aTo, W.listOf xTo nTo), (aK, W.listOf xK nK), (aG, W.listOf xG nG), (aT, W.listOf xT nT), (L + 1 + 1 + 1 + 1 + 1 + 1 + 1, o7), (L + 1 + 1 + 1 + 1 + 1 + 1, o6), (L + 1 + 1 + 1 + 1 + 1, o5), (L + 1 + 1 + 1 + 1, o4), (L + 1 + 1 + 1, o3), (L + 1 + 1, o2), (L + 1, o1), (101, tabO p1), (108, tabO p2)] → wpAny (model PG w) A (execs rest (lawEnv L fa cd)) Q (fun _ _ => False) { s with heap := h', toks := tk }) :
    wpAny (model PG w) A (execs (st 16 :: st 17 :: rest) (lawEnv L fa cd)) Q (fun _ _ => False) s := by
  obtain ⟨hd0, dp, fr, gd, un⟩ := A
  obtain rfl : hd0 = none := hA.hd
  exact skolem lv0 (fun x => Ss17 x.w x.mean x.mg x.mb x.g x.L x.fa x.cd x.dp x.fr x.gd x.un x.Q x.s x.m x.aT x.aG x.aK x.aTo x.aS x.aD x.o1 x.o2 x.o3 x.o4 x.o5 x.o6 x.o7 x.xT x.xG x.xK x.xTo x.xS x.xD x.nT x.nG x.nK x.nTo x.nS x.nD x.p1 x.p2 x.aGp x.nGp x.xGp x.rest x.cs) (by with_unfolding_all exact Ks17.holds) ⟨w, mean, mg, mb, g, L, fa, cd, dp, fr, gd, un, Q, m, s, (Classical.choice lv0).news, (Classical.choice lv0).ls, (Classical.choice lv0).c, (Classical.choice lv0).vs, (Classical.choice lv0).xs, (Classical.choice lv0).its, cs, (Classical.choice lv0).n, (Classical.choice lv0).oc, rest, o1, o2, o3, o4, o5, o6, o7, (Classical.choice lv0).d, (Classical.choice lv0).r, aT, aG, aK, aTo, aS, aD, (Classical.choice lv0).it, (Classical.choice lv0).e, (Classical.choice lv0).i, (Classical.choice lv0).nbx, (Classical.choice lv0).tn, (Classical.choice lv0).tk0, (Classical.choice lv0).oI, (Classical.choice lv0).oE, xT, xG, xK, xTo, xS, xD, (Classical.choice lv0).itsbx, nT, nG, nK, nTo, nS, nD, (Classical.choice lv0).nC, (Classical.choice lv0).nr, (Classical.choice lv0).ritems, p1, p2, (Classical.choice lv0).t2, (Classical.choice lv0).t3, (Classical.choice lv0).yT, (Classical.choice lv0).tt, (Classical.choice lv0).tl, (Classical.choice lv0).v, (Classical.choice lv0).tv, (Classical.choice lv0).tm, (Classical.choice lv0).mkS, (Classical.choice lv0).fa', (Classical.choice lv0).fb', (Classical.choice lv0).l, (Classical.choice lv0).mkF, (Classical.choice lv0).bk, (Classical.choice lv0).tw, (Classical.choice lv0).tb, (Classical.choice lv0).td, (Classical.choice lv0).dl, aGp, nGp, xGp, (Classical.choice lv0).r0, (Classical.choice lv0).r1, (Classical.choice lv0).r2, (Classical.choice lv0).r3, (Classical.choice lv0).k0, (Classical.choice lv0).k1, (Classical.choice lv0).k2, (Classical.choice lv0).k3, (Classical.choice lv0).aTb, (Classical.choice lv0).nTb, (Classical.choice lv0).v0, (Classical.choice lv0).v1, (Classical.choice lv0).v2, (Classical.choice lv0).v3, (Classical.choice lv0).aX, (Classical.choice lv0).nX, (Classical.choice lv0).xX, (Classical.choice lv0).ns, (Classical.choice lv0).c0, (Classical.choice lv0).d0, (Classical.choice lv0).tc, (Classical.choice lv0).tf, (Classical.choice lv0).j⟩ hS hA F h0 h1 h5 h6 h7 h8 h9 l1 l2 l3 l4 l5 hD N hQ
end
end Mine
end OfA39
section OfA47
open PySem PySem.W PySem.W.X PySem.Calls PyProof.Rows PyProof.V PySem.Spec PySem.SeqAt
set_option Elab.async false
set_option maxRecDepth 100000
set_option maxHeartbeats 4000000
set_option pp.maxSteps 3000
namespace Mine
noncomputable section
theorem filled47 : kk.heap_1 = kk.heap_1 ∧ PySem.Challenge.rw_wu0057_01.name = PySem.Challenge.rw_wu0057_01.name := by
  k_fill
  exact ⟨rfl, rfl⟩

local macro_rules | `(tactic| walk_at "call builtin:min") => `(tactic| refine halt ?_)
local macro_rules | `(tactic| walk_at "call builtin:max") => `(tactic| refine halt ?_)
local macro_rules | `(tactic| walk_at "call builtin:list.count") => `(tactic| refine halt ?_)
local macro_rules | `(tactic| walk_at "compareOp NotEq ref ref") => `(tactic| refine halt ?_)
local macro_rules | `(tactic| walk_at "compareOp Eq ref ref") => `(tactic| refine halt ?_)
local macro_rules | `(tactic| walk_at "subscriptTail") => `(tactic| refine halt ?_)
local macro_rules | `(tactic| walk_at "eval Name") => `(tactic| (k_here; walk_at "nmX"))

theorem pair_reads {h : Heap} {p : Addr} {x y : Int} {t u : Tok} (e : h.get? p = some { cls := Value.type "tuple", data := Data.seq #[Value.int x t, Value.int y u] }) : Reads h (.ref p) (.tuple [.int x, .int y]) [] :=
  Reads.tuple (as := [] ++ ([] ++ [])) e rfl rfl (.cons (.int x t) (.cons (.int y u) .nil))
theorem pair_shaped (x y : Int) : shaped (.tuple [.int x, .int y]) = true := by
  show (PyData.canLay0 _ && decide (PyData.depth _ ≤ 64)) = true
  simp [PyData.canLay0, PyData.canLayAll0, PyData.depth, PyData.depthAll]
theorem pair_same (x y : Int) : PySem.Spec.same (.tuple [.int x, .int y]) (.tuple [.int x, .int y]) = true := by simp [PySem.Spec.same, PySem.Spec.sameAll]
theorem pair_noMix (x y : Int) : noMix (.tuple [.int x, .int y]) (.tuple [.int x, .int y]) = true := by simp [noMix, noMixAll]
theorem ne_pair {prog : Program} {w : World} {A : Around} {E : Value → Shared → Prop} {s : Shared} {p q : Addr} {x y : Int} {t u t' u' : Tok} {Q : Value → Shared → Prop} (a : s.heap.get? p = some { cls := Value.type "tuple", data := Data.seq #[Value.int x t, Value.int y u] }) (b : s.heap.get? q = some { cls := Value.type "tuple", data := Data.seq #[Value.int x t', Value.int y u'] }) (hu : A.units + 64 < cLine)
    (h : Q (.bool false) s) : wpAny (model prog w) A (compareOp .NotEq (.ref p) (.ref q)) Q E s :=
  ne_dataH_same (pair_reads a) (pair_reads b) (pair_shaped x y) (pair_shaped x y) hu (pair_noMix x y) (by rw [pair_same]; exact h)
theorem eq_pair {prog : Program} {w : World} {A : Around} {E : Value → Shared → Prop} {s : Shared} {p q : Addr} {x y : Int} {t u t' u' : Tok} {Q : Value → Shared → Prop} (a : s.heap.get? p = some { cls := Value.type "tuple", data := Data.seq #[Value.int x t, Value.int y u] }) (b : s.heap.get? q = some { cls := Value.type "tuple", data := Data.seq #[Value.int x t', Value.int y u'] }) (hu : A.units + 64 < cLine)
    (h : Q (.bool true) s) : wpAny (model prog w) A (compareOp .Eq (.ref p) (.ref q)) Q E s :=
  eq_dataH_same (pair_reads a) (pair_reads b) (pair_shaped x y) (pair_shaped x y) hu (pair_noMix x y) (by rw [pair_same]; exact h)
noncomputable def Ss21 (w : World) (mean : ExcName → Option Value) (mg : Str → Option Value) (mb : Str → Option Value) (g : Heap) (L : Nat) (fa : Nat) (cd : Value) (dp : Nat) (fr : Option (List Env)) (gd : Option (List Code)) (un : Nat) (Q : Flow → Shared → Prop) (s : Shared) (m : Str → Option Value) (p1 : Array Value) (p2 : Array Value) (aX : Nat) (nX : Nat) (xX : List Value) (ns : List Int) (c0 : Int) (d0 : Int) (tc : Tok) (tw : Tok) : Prop := ∀ (hS : St w mean mg mb g) (hA : AOk 59 (Around.mk none dp fr gd un)) (F : Fr g L s.heap m) (N : News g L s.heap [(aX, W.listOf xX.toArray nX), (101, tabO p1), (108, tabO p2)]) (hX : IntsAre xX ns) (mX : m "totals" = some (.ref aX)) (mc : m "cheap" = some (.int c0 tc)) (mw : m "ways" = some (.int d0 tw)) (hall : ∀ a ∈ ns, c0 ≤ a) (hin : c0 ∈ ns) (hcount : (ns.count c0 : Int) = d0) (hQ : ∀ h' tk, Fr g L h' m → News g L h' [(aX, W.listOf xX.toArray nX), (101, tabO p1), (108, tabO p2)] → Q .next { s with heap := h', toks := tk }),
    wpAny (model PG w) (Around.mk none dp fr gd un) (exec (st 21) (lawEnv L fa cd)) Q (fun _ _ => False) s
noncomputable def cs21 : LV := @Classical.epsilon LV lv0 fun x => ¬ Ss21 x.w x.mean x.mg x.mb x.g x.L x.fa x.cd x.dp x.fr x.gd x.un x.Q x.s x.m x.p1 x.p2 x.aX x.nX x.xX x.ns x.c0 x.d0 x.tc x.tw
namespace Ks21
@[irreducible] noncomputable def w : World := cs21.w
@[irreducible] noncomputable def mean : ExcName → Option Value := cs21.mean
@[irreducible] noncomputable def mg : Str → Option Value := cs21.mg
@[irreducible] noncomputable def mb : Str → Option Value := cs21.mb
@[irreducible] noncomputable def g : Heap := cs21.g
@[irreducible] noncomputable def L : Nat := cs21.L
@[irreducible] noncomputable def fa : Nat := cs21.fa
@[irreducible] noncomputable def cd : Value := cs21.cd
@[irreducible] noncomputable def dp : Nat := cs21.dp
@[irreducible] noncomputable def fr : Option (List Env) := cs21.fr
@[irreducible] noncomputable def gd : Option (List Code) := cs21.gd
@[irreducible] noncomputable def un : Nat := cs21.un
@[irreducible] noncomputable def Q : Flow → Shared → Prop := cs21.Q
@[irreducible] noncomputable def s : Shared := cs21.s
@[irreducible] noncomputable def m : Str → Option Value := cs21.m
@[irreducible] noncomputable def p1 : Array Value := cs21.p1
@[irreducible] noncomputable def p2 : Array Value := cs21.p2
@[irreducible] noncomputable def aX : Nat := cs21.aX
@[irreducible] noncomputable def nX : Nat := cs21.nX
@[irreducible] noncomputable def xX : List Value := cs21.xX
@[irreducible] noncomputable def ns : List Int := cs21.ns
@[irreducible] noncomputable def c0 : Int := cs21.c0
@[irreducible] noncomputable def d0 : Int := cs21.d0
@[irreducible] noncomputable def tc : Tok := cs21.tc
@[irreducible] noncomputable def tw : Tok := cs21.tw
theorem holds : Ss21 w mean mg mb g L fa cd dp fr gd un Q s m p1 p2 aX nX xX ns c0 d0 tc tw := by
  intro hS hA F N hX mX mc mw hall hin hcount hQ
  have hA3 := hA
  have X := hS.X
  have T := hS.T
  dsimp only [lawEnv]
  conv in (st 21) => whnf
  conv in (occs := *) (DefRec.scope lawRec) => all_goals whnf
  k_steps
  refine unhalt ?_
  rename Fr _ _ _ _ => F1
  rename News _ _ _ _ => N1
  refine min_list_N (s := ⟨_, _, _, _, _⟩) rfl F1 N1 ⟨_, N1.get (.head _), rfl, _, rfl⟩ hX (List.length_pos_of_mem hin) fun h5 M t5 tk5 F5 N5 hM1 hM2 => ?_
  obtain rfl : M = c0 := Int.le_antisymm (hM2 _ hin) (hall _ hM1)
  clear F1 N1 hM1 hM2
  (try dsimp only)
  k_steps
  refine unhalt ?_
  rename Fr _ _ _ _ => F6
  rename News _ _ _ _ => N6
  refine count_list_ints (s := ⟨_, _, _, _, _⟩) ⟨_, N6.get (.head _), rfl, _, rfl⟩ hX ?_
  rw [hcount]
  (try dsimp only)
  k_steps
  refine unhalt ?_
  rename Fr _ _ _ _ => F7
  rename News _ _ _ _ => N7
  refine ne_pair (s := ⟨_, _, _, _, _⟩) (N7.get (.tail _ (.head _))) (N7.get (.head _)) (by have := hA3.un; show un + 64 < 9900; change un + 8 * 59 < 9000 at this; omega) ?_
  have N8 : News g L _ [(aX, W.listOf xX.toArray nX), (101, tabO p1), (108, tabO p2)] := news_sub N7 fun p hp => List.mem_cons_of_mem _ (List.mem_cons_of_mem _ hp)
  clear N7
  (try dsimp only)
  k_steps
  exact hQ _ _ (by assumption) (by assumption)
end Ks21
theorem s21 {w : World} {mean : ExcName → Option Value} {mg mb : Str → Option Value} {g : Heap} {L fa : Nat} {cd : Value} {A : Around} {Q : Flow → Shared → Prop} {s : Shared} {m : Str → Option Value} {p1 p2 : Array Value} {aX nX : Nat} {xX : List Value} {ns : List Int} {c0 d0 : Int} {tc tw : Tok}
    (hS : St w mean mg mb g) (hA : AOk 59 A) (F : Fr g L s.heap m) (N : News g L s.heap [(aX, W.listOf xX.toArray nX), (101, tabO p1), (108, tabO p2)]) (hX : IntsAre xX ns) (mX : m "totals" = some (.ref aX)) (mc : m "cheap" = some (.int c0 tc)) (mw : m "ways" = some (.int d0 tw)) (hall : ∀ a ∈ ns, c0 ≤ a) (hin : c0 ∈ ns) (hcount : (ns.count c0 : Int) = d0)
    (hQ : ∀ h' tk, Fr g L h' m → News g L h' [(aX, W.listOf xX.toArray nX), (101, tabO p1), (108, tabO p2)] → Q .next { s with heap := h', toks := tk }) :
    wpAny (model PG w) A (exec (st 21) (lawEnv L fa cd)) Q (fun _ _ => False) s := by
  obtain ⟨hd0, dp, fr, gd, un⟩ := A
  obtain rfl : hd0 = none := hA.hd
  exact skolem lv0 (fun x => Ss21 x.w x.mean x.mg x.mb x.g x.L x.fa x.cd x.dp x.fr x.gd x.un x.Q x.s x.m x.p1 x.p2 x.aX x.nX x.xX x.ns x.c0 x.d0 x.tc x.tw) (by with_unfolding_all exact Ks21.holds) ⟨w, mean, mg, mb, g, L, fa, cd, dp, fr, gd, un, Q, m, s, (Classical.choice lv0).news, (Classical.choice lv0).ls, (Classical.choice lv0).c, (Classical.choice lv0).vs, (Classical.choice lv0).xs, (Classical.choice lv0).its, (Classical.choice lv0).cs, (Classical.choice lv0).n, (Classical.choice lv0).oc, (Classical.choice lv0).rest, (Classical.choice lv0).o1, (Classical.choice lv0).o2, (Classical.choice lv0).o3, (Classical.choice lv0).o4, (Classical.choice lv0).o5, (Classical.choice lv0).o6, (Classical.choice lv0).o7, (Classical.choice lv0).d, (Classical.choice lv0).r, (Classical.choice lv0).aT, (Classical.choice lv0).aG, (Classical.choice lv0).aK, (Classical.choice lv0).aTo, (Classical.choice lv0).aS, (Classical.choice lv0).aD, (Classical.choice lv0).it, (Classical.choice lv0).e, (Classical.choice lv0).i, (Classical.choice lv0).nbx, (Classical.choice lv0).tn, (Classical.choice lv0).tk0, (Classical.choice lv0).oI, (Classical.choice lv0).oE, (Classical.choice lv0).xT, (Classical.choice lv0).xG, (Classical.choice lv0).xK, (Classical.choice lv0).xTo, (Classical.choice lv0).xS, (Classical.choice lv0).xD, (Classical.choice lv0).itsbx, (Classical.choice lv0).nT, (Classical.choice lv0).nG, (Classical.choice lv0).nK, (Classical.choice lv0).nTo, (Classical.choice lv0).nS, (Classical.choice lv0).nD, (Classical.choice lv0).nC, (Classical.choice lv0).nr, (Classical.choice lv0).ritems, p1, p2, (Classical.choice lv0).t2, (Classical.choice lv0).t3, (Classical.choice lv0).yT, (Classical.choice lv0).tt, (Classical.choice lv0).tl, (Classical.choice lv0).v, (Classical.choice lv0).tv, (Classical.choice lv0).tm, (Classical.choice lv0).mkS, (Classical.choice lv0).fa', (Classical.choice lv0).fb', (Classical.choice lv0).l, (Classical.choice lv0).mkF, (Classical.choice lv0).bk, tw, (Classical.choice lv0).tb, (Classical.choice lv0).td, (Classical.choice lv0).dl, (Classical.choice lv0).aGp, (Classical.choice lv0).nGp, (Classical.choice lv0).xGp, (Classical.choice lv0).r0, (Classical.choice lv0).r1, (Classical.choice lv0).r2, (Classical.choice lv0).r3, (Classical.choice lv0).k0, (Classical.choice lv0).k1, (Classical.choice lv0).k2, (Classical.choice lv0).k3, (Classical.choice lv0).aTb, (Classical.choice lv0).nTb, (Classical.choice lv0).v0, (Classical.choice lv0).v1, (Classical.choice lv0).v2, (Classical.choice lv0).v3, aX, nX, xX, ns, c0, d0, tc, (Classical.choice lv0).tf, (Classical.choice lv0).j⟩ hS hA F N hX mX mc mw hall hin hcount hQ
noncomputable def ansI (j : Nat) : Int := ([24, 6, 4, 6, 24] : List Int).getD j 0
theorem ans_at (j : Nat) (hj : j ≤ 4) (a b c d e : Tok) : ∃ t, (#[Value.int 24 a, .int 6 b, .int 4 c, .int 6 d, .int 24 e])[j]? = some (.int (ansI j) t) := by
  rcases (by omega : j = 0 ∨ j = 1 ∨ j = 2 ∨ j = 3 ∨ j = 4) with rfl | rfl | rfl | rfl | rfl
  · exact ⟨a, rfl⟩
  · exact ⟨b, rfl⟩
  · exact ⟨c, rfl⟩
  · exact ⟨d, rfl⟩
  · exact ⟨e, rfl⟩
noncomputable def Ss22 (w : World) (mean : ExcName → Option Value) (mg : Str → Option Value) (mb : Str → Option Value) (g : Heap) (L : Nat) (fa : Nat) (cd : Value) (dp : Nat) (fr : Option (List Env)) (gd : Option (List Code)) (un : Nat) (Q : Flow → Shared → Prop) (s : Shared) (m : Str → Option Value) (p1 : Array Value) (p2 : Array Value) (aX : Nat) (nX : Nat) (xX : List Value) (ns : List Int) (c0 : Int) (tc : Tok) (tf : Tok) (j : Nat) : Prop := ∀ (hS : St w mean mg mb g) (hA : AOk 59 (Around.mk none dp fr gd un)) (F : Fr g L s.heap m) (N : News g L s.heap [(aX, W.listOf xX.toArray nX), (101, tabO p1), (108, tabO p2)]) (hX : IntsAre xX ns) (mX : m "totals" = some (.ref aX)) (mc : m "dear" = some (.int c0 tc)) (mf : m "front" = some (.int (j : Int) tf)) (hj : j ≤ 4) (hall : ∀ a ∈ ns, a ≤ c0) (hin : c0 ∈ ns) (hcount : (ns.count c0 : Int) = ansI j) (hQ : ∀ h' tk, Fr g L h' m → News g L h' [(aX, W.listOf xX.toArray nX), (101, tabO p1), (108, tabO p2)] → Q (.ret (.bool true)) { s with heap := h', toks := tk }),
    wpAny (model PG w) (Around.mk none dp fr gd un) (exec (st 22) (lawEnv L fa cd)) Q (fun _ _ => False) s
noncomputable def cs22 : LV := @Classical.epsilon LV lv0 fun x => ¬ Ss22 x.w x.mean x.mg x.mb x.g x.L x.fa x.cd x.dp x.fr x.gd x.un x.Q x.s x.m x.p1 x.p2 x.aX x.nX x.xX x.ns x.c0 x.tc x.tf x.j
namespace Ks22
@[irreducible] noncomputable def w : World := cs22.w
@[irreducible] noncomputable def mean : ExcName → Option Value := cs22.mean
@[irreducible] noncomputable def mg : Str → Option Value := cs22.mg
@[irreducible] noncomputable def mb : Str → Option Value := cs22.mb
@[irreducible] noncomputable def g : Heap := cs22.g
@[irreducible] noncomputable def L : Nat := cs22.L
@[irreducible] noncomputable def fa : Nat := cs22.fa
@[irreducible] noncomputable def cd : Value := cs22.cd
@[irreducible] noncomputable def dp : Nat := cs22.dp
@[irreducible] noncomputable def fr : Option (List Env) := cs22.fr
@[irreducible] noncomputable def gd : Option (List Code) := cs22.gd
@[irreducible] noncomputable def un : Nat := cs22.un
@[irreducible] noncomputable def Q : Flow → Shared → Prop := cs22.Q
@[irreducible] noncomputable def s : Shared := cs22.s
@[irreducible] noncomputable def m : Str → Option Value := cs22.m
@[irreducible] noncomputable def p1 : Array Value := cs22.p1
@[irreducible] noncomputable def p2 : Array Value := cs22.p2
@[irreducible] noncomputable def aX : Nat := cs22.aX
@[irreducible] noncomputable def nX : Nat := cs22.nX
@[irreducible] noncomputable def xX : List Value := cs22.xX
@[irreducible] noncomputable def ns : List Int := cs22.ns
@[irreducible] noncomputable def c0 : Int := cs22.c0
@[irreducible] noncomputable def tc : Tok := cs22.tc
@[irreducible] noncomputable def tf : Tok := cs22.tf
@[irreducible] noncomputable def j : Nat := cs22.j
theorem holds : Ss22 w mean mg mb g L fa cd dp fr gd un Q s m p1 p2 aX nX xX ns c0 tc tf j := by
  intro hS hA F N hX mX mc mf hj hall hin hcount hQ
  have hA3 := hA
  have X := hS.X
  have T := hS.T
  dsimp only [lawEnv]
  conv in (st 22) => whnf
  conv in (occs := *) (DefRec.scope lawRec) => all_goals whnf
  k_steps
  refine unhalt ?_
  rename Fr _ _ _ _ => F1
  rename News _ _ _ _ => N1
  refine max_list_N (s := ⟨_, _, _, _, _⟩) rfl F1 N1 ⟨_, N1.get (.head _), rfl, _, rfl⟩ hX (List.length_pos_of_mem hin) fun h5 M t5 tk5 F5 N5 hM1 hM2 => ?_
  obtain rfl : M = c0 := Int.le_antisymm (hall _ hM1) (hM2 _ hin)
  clear F1 N1 hM1 hM2
  (try dsimp only)
  k_steps
  refine unhalt ?_
  rename Fr _ _ _ _ => F6
  rename News _ _ _ _ => N6
  refine count_list_ints (s := ⟨_, _, _, _, _⟩) ⟨_, N6.get (.head _), rfl, _, rfl⟩ hX ?_
  rw [hcount]
  (try dsimp only)
  k_steps
  refine unhalt ?_
  rename Fr _ _ _ _ => F7
  rename News _ _ _ _ => N7
  obtain ⟨ta, ha⟩ := ans_at j hj _ _ _ _ _
  refine led_sub (s := ⟨_, _, _, _, _⟩) (N7.get (.head _)) ha rfl (by omega) ?_
  (try dsimp only)
  k_steps
  refine unhalt ?_
  rename Fr _ _ _ _ => F8
  rename News _ _ _ _ => N8
  refine eq_pair (s := ⟨_, _, _, _, _⟩) (N8.get (by k_mem)) (N8.get (by k_mem)) (by have := hA3.un; show un + 64 < 9900; change un + 8 * 59 < 9000 at this; omega) ?_
  have N9 : News g L _ [(aX, W.listOf xX.toArray nX), (101, tabO p1), (108, tabO p2)] := news_sub N8 fun p hp => List.mem_cons_of_mem _ (List.mem_cons_of_mem _ (List.mem_cons_of_mem _ hp))
  clear N8
  (try dsimp only)
  k_steps
  exact hQ _ _ (by assumption) (by assumption)
end Ks22
theorem s22 {w : World} {mean : ExcName → Option Value} {mg mb : Str → Option Value} {g : Heap} {L fa : Nat} {cd : Value} {A : Around} {Q : Flow → Shared → Prop} {s : Shared} {m : Str → Option Value} {p1 p2 : Array Value} {aX nX : Nat} {xX : List Value} {ns : List Int} {c0 : Int} {tc tf : Tok} {j : Nat}
    (hS : St w mean mg mb g) (hA : AOk 59 A) (F : Fr g L s.heap m) (N : News g L s.heap [(aX, W.listOf xX.toArray nX), (101, tabO p1), (108, tabO p2)]) (hX : IntsAre xX ns) (mX : m "totals" = some (.ref aX)) (mc : m "dear" = some (.int c0 tc)) (mf : m "front" = some (.int (j : Int) tf)) (hj : j ≤ 4) (hall : ∀ a ∈ ns, a ≤ c0) (hin : c0 ∈ ns) (hcount : (ns.count c0 : Int) = ansI j)
    (hQ : ∀ h' tk, Fr g L h' m → News g L h' [(aX, W.listOf xX.toArray nX), (101, tabO p1), (108, tabO p2)] → Q (.ret (.bool true)) { s with heap := h', toks := tk }) :
    wpAny (model PG w) A (exec (st 22) (lawEnv L fa cd)) Q (fun _ _ => False) s := by
  obtain ⟨hd0, dp, fr, gd, un⟩ := A
  obtain rfl : hd0 = none := hA.hd
  exact skolem lv0 (fun x => Ss22 x.w x.mean x.mg x.mb x.g x.L x.fa x.cd x.dp x.fr x.gd x.un x.Q x.s x.m x.p1 x.p2 x.aX x.nX x.xX x.ns x.c0 x.tc x.tf x.j) (by with_unfolding_all exact Ks22.holds) ⟨w, mean, mg, mb, g, L, fa, cd, dp, fr, gd, un, Q, m, s, (Classical.choice lv0).news, (Classical.choice lv0).ls, (Classical.choice lv0).c, (Classical.choice lv0).vs, (Classical.choice lv0).xs, (Classical.choice lv0).its, (Classical.choice lv0).cs, (Classical.choice lv0).n, (Classical.choice lv0).oc, (Classical.choice lv0).rest, (Classical.choice lv0).o1, (Classical.choice lv0).o2, (Classical.choice lv0).o3, (Classical.choice lv0).o4, (Classical.choice lv0).o5, (Classical.choice lv0).o6, (Classical.choice lv0).o7, (Classical.choice lv0).d, (Classical.choice lv0).r, (Classical.choice lv0).aT, (Classical.choice lv0).aG, (Classical.choice lv0).aK, (Classical.choice lv0).aTo, (Classical.choice lv0).aS, (Classical.choice lv0).aD, (Classical.choice lv0).it, (Classical.choice lv0).e, (Classical.choice lv0).i, (Classical.choice lv0).nbx, (Classical.choice lv0).tn, (Classical.choice lv0).tk0, (Classical.choice lv0).oI, (Classical.choice lv0).oE, (Classical.choice lv0).xT, (Classical.choice lv0).xG, (Classical.choice lv0).xK, (Classical.choice lv0).xTo, (Classical.choice lv0).xS, (Classical.choice lv0).xD, (Classical.choice lv0).itsbx, (Classical.choice lv0).nT, (Classical.choice lv0).nG, (Classical.choice lv0).nK, (Classical.choice lv0).nTo, (Classical.choice lv0).nS, (Classical.choice lv0).nD, (Classical.choice lv0).nC, (Classical.choice lv0).nr, (Classical.choice lv0).ritems, p1, p2, (Classical.choice lv0).t2, (Classical.choice lv0).t3, (Classical.choice lv0).yT, (Classical.choice lv0).tt, (Classical.choice lv0).tl, (Classical.choice lv0).v, (Classical.choice lv0).tv, (Classical.choice lv0).tm, (Classical.choice lv0).mkS, (Classical.choice lv0).fa', (Classical.choice lv0).fb', (Classical.choice lv0).l, (Classical.choice lv0).mkF, (Classical.choice lv0).bk, (Classical.choice lv0).tw, (Classical.choice lv0).tb, (Classical.choice lv0).td, (Classical.choice lv0).dl, (Classical.choice lv0).aGp, (Classical.choice lv0).nGp, (Classical.choice lv0).xGp, (Classical.choice lv0).r0, (Classical.choice lv0).r1, (Classical.choice lv0).r2, (Classical.choice lv0).r3, (Classical.choice lv0).k0, (Classical.choice lv0).k1, (Classical.choice lv0).k2, (Classical.choice lv0).k3, (Classical.choice lv0).aTb, (Classical.choice lv0).nTb, (Classical.choice lv0).v0, (Classical.choice lv0).v1, (Classical.choice lv0).v2, (Classical.choice lv0).v3, aX, nX, xX, ns, c0, (Classical.choice lv0).d0, tc, tf, j⟩ hS hA F N hX mX mc mf hj hall hin hcount hQ
end
end Mine
end OfA47
section OfA35
open PySem PySem.W PySem.W.X PySem.Calls PyProof.Rows
set_option Elab.async false
set_option maxRecDepth 100000
set_option maxHeartbeats 4000000
set_option pp.maxSteps 3000
namespace Mine
noncomputable section
theorem filled35 : kk.heap_1 = kk.heap_1 ∧ PySem.Challenge.rw_wu0057_01.name = PySem.Challenge.rw_wu0057_01.name := by
  k_fill
  exact ⟨rfl, rfl⟩

local macro_rules | `(tactic| walk_at "eval ListComp") => `(tactic| refine halt ?_)
local macro_rules | `(tactic| walk_at "subscriptTail") => `(tactic| refine halt ?_)
local macro_rules | `(tactic| walk_at "compareOp In") => `(tactic| refine halt ?_)
local macro_rules | `(tactic| walk_at "compareOp NotEq ref ref") => `(tactic| refine halt ?_)
local macro_rules | `(tactic| walk_at "eval Name") => `(tactic| (k_here; first
  | (refine nm_is "p" ?_; walk_at "nmL")
  | (refine nm_is "texts" ?_; walk_at "nmC")
  | (refine nm_is "givers" ?_; walk_at "nmC")))

noncomputable def toldOf (cs : List Int) (i : Nat) : Str := if ((i : Int) + 1) ∈ (runP cs 8).G then mkS (TT cs (i + 1)) else FAIL
noncomputable def Ss10 (w : World) (mean : ExcName → Option Value) (mg : Str → Option Value) (mb : Str → Option Value) (g : Heap) (L : Nat) (fa : Nat) (cd : Value) (dp : Nat) (fr : Option (List Env)) (gd : Option (List Code)) (un : Nat) (Q : Flow → Shared → Prop) (s : Shared) (m : Str → Option Value) (aT : Nat) (aG : Nat) (aK : Nat) (aTo : Nat) (aS : Nat) (aD : Nat) (o1 : Obj) (o2 : Obj) (o3 : Obj) (o4 : Obj) (o5 : Obj) (o6 : Obj) (o7 : Obj) (xT : Array Value) (xG : Array Value) (xK : Array Value) (xTo : Array Value) (xS : Array Value) (xD : Array Value) (nT : Nat) (nG : Nat) (nK : Nat) (nTo : Nat) (nS : Nat) (nD : Nat) (p1 : Array Value) (p2 : Array Value) (cs : List Int) : Prop := ∀ (hS : St w mean mg mb g) (hA : AOk 59 (Around.mk none dp fr gd un)) (F : Fr g L s.heap m) (h0 : 108 < L) (h1 : L + 1 + 1 + 1 + 1 + 1 + 1 + 1 < aT) (h5 : aT < aG) (h6 : aG < aK) (h7 : aK < aTo) (h8 : aTo < aS) (h9 : aS < aD) (l1 : o1.data = .cell (some (.ref aT))) (l2 : o2.data = .cell (some (.ref aG))) (l3 : o3.data = .cell (some (.ref aK))) (l4 : o4.data = .cell (some (.ref aTo))) (l5 : o5.data = .cell (some (.ref aD))) (hT : StrsAre xT.toList ((runP cs 8).T.map mkS)) (hTo : StrsAre xTo.toList (runP cs 8).told) (hG : IntsAre xG.toList (runP cs 8).G) (htold : (runP cs 8).told = (List.range 8).map (toldOf cs)) (hok : ∀ n ∈ (runP cs 8).told, PyData.strOk n = true) (N : News g L s.heap [(aD, W.listOf xD nD), (aS, W.listOf xS nS), (aTo, W.listOf xTo nTo), (aK, W.listOf xK nK), (aG, W.listOf xG nG), (aT, W.listOf xT nT), (L + 1 + 1 + 1 + 1 + 1 + 1 + 1, o7), (L + 1 + 1 + 1 + 1 + 1 + 1, o6), (L + 1 + 1 + 1 + 1 + 1, o5), (L + 1 + 1 + 1 + 1, o4), (L + 1 + 1 + 1, o3), (L + 1 + 1, o2), (L + 1, o1), (101, tabO p1), (108, tabO p2)]) (hQ : ∀ h' tk, Fr g L h' m → News g L h' [(aD, W.listOf xD nD), (aS, W.listOf xS nS), (aTo, W.listOf xTo nTo), (aK, W.listOf xK nK), (aG, W.listOf xG nG), (aT, W.listOf xT nT), (L + 1 + 1 + 1 + 1 + 1 + 1 + 1, o7), (L + 1 + 1 + 1 + 1 + 1 + 1, o6), (L + 1 + 1 + 1 + 1 + 1, o5), (L + 1 + 1 + 1 + 1, o4), (L + 1 + 1 + 1, o3), (L + 1 + 1, o2), (L + 1, o1), (101, tabO p1), (108, tabO p2)] → Q .next { s with heap := h', toks := tk }),
    wpAny (model PG w) (Around.mk none dp fr gd un) (exec (st 10) (lawEnv L fa cd)) Q (fun _ _ => False) s
noncomputable def cs10 : LV := @Classical.epsilon LV lv0 fun x => ¬ Ss10 x.w x.mean x.mg x.mb x.g x.L x.fa x.cd x.dp x.fr x.gd x.un x.Q x.s x.m x.aT x.aG x.aK x.aTo x.aS x.aD x.o1 x.o2 x.o3 x.o4 x.o5 x.o6 x.o7 x.xT x.xG x.xK x.xTo x.xS x.xD x.nT x.nG x.nK x.nTo x.nS x.nD x.p1 x.p2 x.cs
namespace Ks10
@[irreducible] noncomputable def w : World := cs10.w
@[irreducible] noncomputable def mean : ExcName → Option Value := cs10.mean
@[irreducible] noncomputable def mg : Str → Option Value := cs10.mg
@[irreducible] noncomputable def mb : Str → Option Value := cs10.mb
@[irreducible] noncomputable def g : Heap := cs10.g
@[irreducible] noncomputable def L : Nat := cs10.L
@[irreducible] noncomputable def fa : Nat := cs10.fa
@[irreducible] noncomputable def cd : Value := cs10.cd
@[irreducible] noncomputable def dp : Nat := cs10.dp
@[irreducible] noncomputable def fr : Option (List Env) := cs10.fr
@[irreducible] noncomputable def gd : Option (List Code) := cs10.gd
@[irreducible] noncomputable def un : Nat := cs10.un
@[irreducible] noncomputable def Q : Flow → Shared → Prop := cs10.Q
@[irreducible] noncomputable def s : Shared := cs10.s
@[irreducible] noncomputable def m : Str → Option Value := cs10.m
@[irreducible] noncomputable def aT : Nat := cs10.aT
@[irreducible] noncomputable def aG : Nat := cs10.aG
@[irreducible] noncomputable def aK : Nat := cs10.aK
@[irreducible] noncomputable def aTo : Nat := cs10.aTo
@[irreducible] noncomputable def aS : Nat := cs10.aS
@[irreducible] noncomputable def aD : Nat := cs10.aD
@[irreducible] noncomputable def o1 : Obj := cs10.o1
@[irreducible] noncomputable def o2 : Obj := cs10.o2
@[irreducible] noncomputable def o3 : Obj := cs10.o3
@[irreducible] noncomputable def o4 : Obj := cs10.o4
@[irreducible] noncomputable def o5 : Obj := cs10.o5
@[irreducible] noncomputable def o6 : Obj := cs10.o6
@[irreducible] noncomputable def o7 : Obj := cs10.o7
@[irreducible] noncomputable def xT : Array Value := cs10.xT
@[irreducible] noncomputable def xG : Array Value := cs10.xG
@[irreducible] noncomputable def xK : Array Value := cs10.xK
@[irreducible] noncomputable def xTo : Array Value := cs10.xTo
@[irreducible] noncomputable def xS : Array Value := cs10.xS
@[irreducible] noncomputable def xD : Array Value := cs10.xD
@[irreducible] noncomputable def nT : Nat := cs10.nT
@[irreducible] noncomputable def nG : Nat := cs10.nG
@[irreducible] noncomputable def nK : Nat := cs10.nK
@[irreducible] noncomputable def nTo : Nat := cs10.nTo
@[irreducible] noncomputable def nS : Nat := cs10.nS
@[irreducible] noncomputable def nD : Nat := cs10.nD
@[irreducible] noncomputable def p1 : Array Value := cs10.p1
@[irreducible] noncomputable def p2 : Array Value := cs10.p2
@[irreducible] noncomputable def cs : List Int := cs10.cs
theorem holds : Ss10 w mean mg mb g L fa cd dp fr gd un Q s m aT aG aK aTo aS aD o1 o2 o3 o4 o5 o6 o7 xT xG xK xTo xS xD nT nG nK nTo nS nD p1 p2 cs := by
  intro hS hA F h0 h1 h5 h6 h7 h8 h9 l1 l2 l3 l4 l5 hT hTo hG htold hok N hQ
  have hDec := Dec.cons h9 (.cons h8 (.cons h7 (.cons h6 (.cons h5 (.cons h1 (decL h0))))))
  have X := hS.X
  have T := hS.T
  dsimp only [lawEnv]
  conv in (st 10) => whnf
  conv in (occs := *) (DefRec.scope lawRec) => all_goals whnf
  k_steps
  refine unhalt ?_
  refine comp_rangeL 8 StrR (fun i => [toldOf cs i]) rfl (by decide) rfl rfl (by decide) (by intro _; rfl) (by intro _; rfl) (by intro _; rfl) ?_
  k_steps
  rename Fr _ _ _ _ => F1
  rename News _ _ _ _ => N1
  have eT := N1.get (a := aT) (o := W.listOf xT nT) (by k_mem)
  have eG := N1.get (a := aG) (o := W.listOf xG nG) (by k_mem)
  have e1 := N1.get (a := L + 1) (o := o1) (by k_mem)
  have e2 := N1.get (a := L + 1 + 1) (o := o2) (by k_mem)
  rename IsRange _ _ _ _ _ _ _ _ => hRg
  refine unhalt ⟨_, 1, 9, _, _, _, rfl, hRg, by decide, ⟨by decide, by decide⟩, fun gB C H tk m₂ i hi t kB FB hm => ?_, fun D h' tk ys hD hp hl hk => ?_⟩
  · have SB : St w mean mg mb gB := (hS.keeps F1.keep).keeps kB
    have bT := kB _ _ eT
    have bG := kB _ _ eG
    have b1 := kB _ _ e1
    have b2 := kB _ _ e2
    clear N1 F1 X T eT eG e1 e2 hS hRg
    have X := SB.X
    have T := SB.T
    have N : News gB C H [] := News.nil
    refine tests_nil ⟨H, tk, rfl, fun _ _ e => e, ?_⟩
    rw [if_pos rfl]
    dsimp only [compEnvW, relabel]
    conv in (occs := *) (List.map _ _) => all_goals simp only [List.map_cons, List.map_nil]
    conv in (occs := *) (ite _ _ _) => all_goals whnf

    k_steps
    refine unhalt ?_
    have hin : ∀ y, y ∈ xG → MeetsSeq.EqGives y (.int (1 + (i : Int)) t) (match y with | .int a _ => a == (1 + (i : Int)) | _ => false) := by
      intro y hy
      obtain ⟨j, hj, rfl⟩ := Array.mem_iff_getElem.mp hy
      obtain ⟨a, ta, ea⟩ := ints_get (i := j) hG (v := xG[j]) (by rw [Array.getElem?_toList, Array.getElem?_eq_getElem hj])
      rw [ea]
      exact MeetsSeq.EqGives.int a _ ta t
    refine SeqInW.in_listW (s := ⟨_, _, _, _, _⟩) _ hin ⟨_, FB.keep _ _ bG, rfl, nG, rfl⟩ ?_
    have hany : (xG.any fun y => match y with | .int a _ => a == (1 + (i : Int)) | _ => false) = decide (((i : Int) + 1) ∈ (runP cs 8).G) := by
      rw [← Array.any_toList]
      exact any_ints hG (by omega)
    generalize hb : decide (((i : Int) + 1) ∈ (runP cs 8).G) = b at hany
    rw [hany]
    clear hany
    cases b with
    | true =>
      have hmem := of_decide_eq_true hb
      (try dsimp only)
      k_steps
      obtain ⟨t1, g1⟩ := xT_at hT (i + 1) (by omega)
      refine unhalt ?_
      refine base_sub (s := ⟨_, _, _, _, _⟩) FB bT g1 (by push_cast; omega) (by omega) ?_
      (try dsimp only)
      k_steps
      refine unhalt ⟨H, _, _, rfl, fun _ _ e => e, ⟨_, rfl⟩, ?_⟩
      unfold toldOf
      rw [if_pos hmem]
    | false =>
      have hmem := of_decide_eq_false hb
      (try dsimp only)
      k_steps
      refine unhalt ⟨H, _, _, rfl, fun _ _ e => e, ⟨_, rfl⟩, ?_⟩
      unfold toldOf
      rw [if_neg hmem]
      rfl
  · obtain ⟨F9, n9, N9, lt9⟩ := list_new F1 N1 hD hl hk
    have hp' := strs_of_paired hp
    rw [fm1, ← htold] at hp'
    have eS := N9.get (a := aTo) (o := W.listOf xTo nTo) (by k_mem)
    have eD := N9.get (a := D) (o := W.listOf ys.toArray n9) (.head _)
    have N10 : News g L h' [(aD, W.listOf xD nD), (aS, W.listOf xS nS), (aTo, W.listOf xTo nTo), (aK, W.listOf xK nK), (aG, W.listOf xG nG), (aT, W.listOf xT nT), (L + 1 + 1 + 1 + 1 + 1 + 1 + 1, o7), (L + 1 + 1 + 1 + 1 + 1 + 1, o6), (L + 1 + 1 + 1 + 1 + 1, o5), (L + 1 + 1 + 1 + 1, o4), (L + 1 + 1 + 1, o3), (L + 1 + 1, o2), (L + 1, o1), (101, tabO p1), (108, tabO p2)] := news_sub N9 fun p hp => List.mem_cons_of_mem _ hp
    clear N9 N1 F1 eT eG e1 e2 hRg
    (try dsimp only)
    k_steps
    refine unhalt ?_
    refine ne_strs (s := ⟨_, _, _, _, _⟩) (vs := xTo.toList) (us := ys) ⟨_, eS, rfl, nTo, by simp⟩ hTo ⟨_, eD, rfl, _, rfl⟩ hp' hok (by have := hA.un; show un + 64 < 9900; change un + 8 * 59 < 9000 at this; omega) ?_
    (try dsimp only)
    k_steps
    exact hQ _ _ (by assumption) N10
end Ks10
theorem s10 {w : World} {mean : ExcName → Option Value} {mg mb : Str → Option Value} {g : Heap} {L fa : Nat} {cd : Value} {A : Around} {Q : Flow → Shared → Prop} {s : Shared} {m : Str → Option Value}
    {aT aG aK aTo aS aD : Nat} {o1 o2 o3 o4 o5 o6 o7 : Obj} {xT xG xK xTo xS xD : Array Value} {nT nG nK nTo nS nD : Nat} {p1 p2 : Array Value}
    (hS : St w mean mg mb g) (hA : AOk 59 A) (F : Fr g L s.heap m) (h0 : 108 < L) (h1 : L + 1 + 1 + 1 + 1 + 1 + 1 + 1 < aT) (h5 : aT < aG) (h6 : aG < aK) (h7 : aK < aTo) (h8 : aTo < aS) (h9 : aS < aD) (l1 : o1.data = .cell (some (.ref aT))) (l2 : o2.data = .cell (some (.ref aG))) (l3 : o3.data = .cell (some (.ref aK))) (l4 : o4.data = .cell (some (.ref aTo))) (l5 : o5.data = .cell (some (.ref aD)))
    {cs : List Int} (hT : StrsAre xT.toList ((runP cs 8).T.map mkS)) (hTo : StrsAre xTo.toList (runP cs 8).told) (hG : IntsAre xG.toList (runP cs 8).G) (htold : (runP cs 8).told = (List.range 8).map (toldOf cs)) (hok : ∀ n ∈ (runP cs 8).told, PyData.strOk n = true) (N : News g L s.heap [(aD, W.listOf xD nD), (aS, W.listOf xS nS), (aTo, W.listOf xTo nTo), (aK, W.listOf xK nK), (aG, W.listOf xG nG), (aT, W.listOf xT nT), (L + 1 + 1 + 1 + 1 + 1 + 1 + 1, o7), (L + 1 + 1 + 1 + 1 + 1 + 1, o6), (L + 1 + 1 + 1 + 1 + 1, o5), (L + 1 + 1 + 1 + 1, o4), (L + 1 + 1 + 1, o3), (L + 1 + 1, o2), (L + 1, o1), (101, tabO p1), (108, tabO p2)])
    (hQ : ∀ h' tk, Fr g L h' m → News g L h' [(aD, W.listOf xD nD), (aS, W.listOf xS nS), (aTo, W.listOf xTo nTo), (aK, W.listOf xK nK), (aG, W.listOf xG nG), (aT, W.listOf xT nT), (L + 1 + 1 + 1 + 1 + 1 + 1 + 1, o7), (L + 1 + 1 + 1 + 1 + 1 + 1, o6), (L + 1 + 1 + 1 + 1 + 1, o5), (L + 1 + 1 + 1 + 1, o4), (L + 1 + 1 + 1, o3), (L + 1 + 1, o2), (L + 1, o1), (101, tabO p1), (108, tabO p2)] → Q .next { s with heap := h', toks := tk }) :
    wpAny (model PG w) A (exec (st 10) (lawEnv L fa cd)) Q (fun _ _ => False) s := by
  obtain ⟨hd0, dp, fr, gd, un⟩ := A
  obtain rfl : hd0 = none := hA.hd
  exact skolem lv0 (fun x => Ss10 x.w x.mean x.mg x.mb x.g x.L x.fa x.cd x.dp x.fr x.gd x.un x.Q x.s x.m x.aT x.aG x.aK x.aTo x.aS x.aD x.o1 x.o2 x.o3 x.o4 x.o5 x.o6 x.o7 x.xT x.xG x.xK x.xTo x.xS x.xD x.nT x.nG x.nK x.nTo x.nS x.nD x.p1 x.p2 x.cs) (by with_unfolding_all exact Ks10.holds) ⟨w, mean, mg, mb, g, L, fa, cd, dp, fr, gd, un, Q, m, s, (Classical.choice lv0).news, (Classical.choice lv0).ls, (Classical.choice lv0).c, (Classical.choice lv0).vs, (Classical.choice lv0).xs, (Classical.choice lv0).its, cs, (Classical.choice lv0).n, (Classical.choice lv0).oc, (Classical.choice lv0).rest, o1, o2, o3, o4, o5, o6, o7, (Classical.choice lv0).d, (Classical.choice lv0).r, aT, aG, aK, aTo, aS, aD, (Classical.choice lv0).it, (Classical.choice lv0).e, (Classical.choice lv0).i, (Classical.choice lv0).nbx, (Classical.choice lv0).tn, (Classical.choice lv0).tk0, (Classical.choice lv0).oI, (Classical.choice lv0).oE, xT, xG, xK, xTo, xS, xD, (Classical.choice lv0).itsbx, nT, nG, nK, nTo, nS, nD, (Classical.choice lv0).nC, (Classical.choice lv0).nr, (Classical.choice lv0).ritems, p1, p2, (Classical.choice lv0).t2, (Classical.choice lv0).t3, (Classical.choice lv0).yT, (Classical.choice lv0).tt, (Classical.choice lv0).tl, (Classical.choice lv0).v, (Classical.choice lv0).tv, (Classical.choice lv0).tm, (Classical.choice lv0).mkS, (Classical.choice lv0).fa', (Classical.choice lv0).fb', (Classical.choice lv0).l, (Classical.choice lv0).mkF, (Classical.choice lv0).bk, (Classical.choice lv0).tw, (Classical.choice lv0).tb, (Classical.choice lv0).td, (Classical.choice lv0).dl, (Classical.choice lv0).aGp, (Classical.choice lv0).nGp, (Classical.choice lv0).xGp, (Classical.choice lv0).r0, (Classical.choice lv0).r1, (Classical.choice lv0).r2, (Classical.choice lv0).r3, (Classical.choice lv0).k0, (Classical.choice lv0).k1, (Classical.choice lv0).k2, (Classical.choice lv0).k3, (Classical.choice lv0).aTb, (Classical.choice lv0).nTb, (Classical.choice lv0).v0, (Classical.choice lv0).v1, (Classical.choice lv0).v2, (Classical.choice lv0).v3, (Classical.choice lv0).aX, (Classical.choice lv0).nX, (Classical.choice lv0).xX, (Classical.choice lv0).ns, (Classical.choice lv0).c0, (Classical.choice lv0).d0, (Classical.choice lv0).tc, (Classical.choice lv0).tf, (Classical.choice lv0).j⟩ hS hA F h0 h1 h5 h6 h7 h8 h9 l1 l2 l3 l4 l5 hT hTo hG htold hok N hQ
end
end Mine
end OfA35
section OfA40
open PySem PySem.W PySem.W.X PySem.Calls PyProof.Rows
set_option Elab.async false
set_option maxRecDepth 100000
set_option maxHeartbeats 4000000
set_option pp.maxSteps 3000
namespace Mine
noncomputable section
theorem filled40 : kk.heap_1 = kk.heap_1 ∧ PySem.Challenge.rw_wu0057_01.name = PySem.Challenge.rw_wu0057_01.name := by
  k_fill
  exact ⟨rfl, rfl⟩

local macro_rules | `(tactic| walk_at "eval ListComp") => `(tactic| refine halt ?_)
local macro_rules | `(tactic| walk_at "eval Name") => `(tactic| (k_here; first
  | (refine nm_is "p" ?_; walk_at "nmL")
  | (refine nm_is "givers" ?_; walk_at "nmC")
  | (refine nm_is "takers" ?_; walk_at "nmC")
  | (refine nm_is "k" ?_; walk_at "nmC")
  | (refine nm_is "len" ?_; walk_at "nmB")))

local macro_rules | `(tactic| walk_at "compareOp NotEq ref ref") => `(tactic| refine halt ?_)
local macro_rules | `(tactic| walk_at "call builtin:len") => `(tactic| refine halt ?_)
noncomputable def cntI (cs : List Int) (i : Nat) : Int := (((runP cs 8).G.filter (fun p => decide (p ≤ (i : Int)))).length : Int) - (((runP cs 8).K.filter (fun p => decide (p ≤ (i : Int)))).length : Int)
noncomputable def Ss11 (w : World) (mean : ExcName → Option Value) (mg : Str → Option Value) (mb : Str → Option Value) (g : Heap) (L : Nat) (fa : Nat) (cd : Value) (dp : Nat) (fr : Option (List Env)) (gd : Option (List Code)) (un : Nat) (Q : Flow → Shared → Prop) (s : Shared) (m : Str → Option Value) (aT : Nat) (aG : Nat) (aK : Nat) (aTo : Nat) (aS : Nat) (aD : Nat) (o1 : Obj) (o2 : Obj) (o3 : Obj) (o4 : Obj) (o5 : Obj) (o6 : Obj) (o7 : Obj) (xT : Array Value) (xG : Array Value) (xK : Array Value) (xTo : Array Value) (xS : Array Value) (xD : Array Value) (nT : Nat) (nG : Nat) (nK : Nat) (nTo : Nat) (nS : Nat) (nD : Nat) (p1 : Array Value) (p2 : Array Value) (cs : List Int) : Prop := ∀ (hS : St w mean mg mb g) (hA : AOk 59 (Around.mk none dp fr gd un)) (F : Fr g L s.heap m) (h0 : 108 < L) (h1 : L + 1 + 1 + 1 + 1 + 1 + 1 + 1 < aT) (h5 : aT < aG) (h6 : aG < aK) (h7 : aK < aTo) (h8 : aTo < aS) (h9 : aS < aD) (l1 : o1.data = .cell (some (.ref aT))) (l2 : o2.data = .cell (some (.ref aG))) (l3 : o3.data = .cell (some (.ref aK))) (l4 : o4.data = .cell (some (.ref aTo))) (l5 : o5.data = .cell (some (.ref aD))) (hG : IntsAre xG.toList (runP cs 8).G) (hK : IntsAre xK.toList (runP cs 8).K) (hD : IntsAre xD.toList (runP cs 8).deps) (hdep : (runP cs 8).deps = (List.range 9).map (cntI cs)) (N : News g L s.heap [(aD, W.listOf xD nD), (aS, W.listOf xS nS), (aTo, W.listOf xTo nTo), (aK, W.listOf xK nK), (aG, W.listOf xG nG), (aT, W.listOf xT nT), (L + 1 + 1 + 1 + 1 + 1 + 1 + 1, o7), (L + 1 + 1 + 1 + 1 + 1 + 1, o6), (L + 1 + 1 + 1 + 1 + 1, o5), (L + 1 + 1 + 1 + 1, o4), (L + 1 + 1 + 1, o3), (L + 1 + 1, o2), (L + 1, o1), (101, tabO p1), (108, tabO p2)]) (hQ : ∀ h' tk, Fr g L h' m → News g L h' [(aD, W.listOf xD nD), (aS, W.listOf xS nS), (aTo, W.listOf xTo nTo), (aK, W.listOf xK nK), (aG, W.listOf xG nG), (aT, W.listOf xT nT), (L + 1 + 1 + 1 + 1 + 1 + 1 + 1, o7), (L + 1 + 1 + 1 + 1 + 1 + 1, o6), (L + 1 + 1 + 1 + 1 + 1, o5), (L + 1 + 1 + 1 + 1, o4), (L + 1 + 1 + 1, o3), (L + 1 + 1, o2), (L + 1, o1), (101, tabO p1), (108, tabO p2)] → Q .next { s with heap := h', toks := tk }),
    wpAny (model PG w) (Around.mk none dp fr gd un) (exec (st 11) (lawEnv L fa cd)) Q (fun _ _ => False) s
noncomputable def cs11 : LV := @Classical.epsilon LV lv0 fun x => ¬ Ss11 x.w x.mean x.mg x.mb x.g x.L x.fa x.cd x.dp x.fr x.gd x.un x.Q x.s x.m x.aT x.aG x.aK x.aTo x.aS x.aD x.o1 x.o2 x.o3 x.o4 x.o5 x.o6 x.o7 x.xT x.xG x.xK x.xTo x.xS x.xD x.nT x.nG x.nK x.nTo x.nS x.nD x.p1 x.p2 x.cs
namespace Ks11
@[irreducible] noncomputable def w : World := cs11.w
@[irreducible] noncomputable def mean : ExcName → Option Value := cs11.mean
@[irreducible] noncomputable def mg : Str → Option Value := cs11.mg
@[irreducible] noncomputable def mb : Str → Option Value := cs11.mb
@[irreducible] noncomputable def g : Heap := cs11.g
@[irreducible] noncomputable def L : Nat := cs11.L
@[irreducible] noncomputable def fa : Nat := cs11.fa
@[irreducible] noncomputable def cd : Value := cs11.cd
@[irreducible] noncomputable def dp : Nat := cs11.dp
@[irreducible] noncomputable def fr : Option (List Env) := cs11.fr
@[irreducible] noncomputable def gd : Option (List Code) := cs11.gd
@[irreducible] noncomputable def un : Nat := cs11.un
@[irreducible] noncomputable def Q : Flow → Shared → Prop := cs11.Q
@[irreducible] noncomputable def s : Shared := cs11.s
@[irreducible] noncomputable def m : Str → Option Value := cs11.m
@[irreducible] noncomputable def aT : Nat := cs11.aT
@[irreducible] noncomputable def aG : Nat := cs11.aG
@[irreducible] noncomputable def aK : Nat := cs11.aK
@[irreducible] noncomputable def aTo : Nat := cs11.aTo
@[irreducible] noncomputable def aS : Nat := cs11.aS
@[irreducible] noncomputable def aD : Nat := cs11.aD
@[irreducible] noncomputable def o1 : Obj := cs11.o1
@[irreducible] noncomputable def o2 : Obj := cs11.o2
@[irreducible] noncomputable def o3 : Obj := cs11.o3
@[irreducible] noncomputable def o4 : Obj := cs11.o4
@[irreducible] noncomputable def o5 : Obj := cs11.o5
@[irreducible] noncomputable def o6 : Obj := cs11.o6
@[irreducible] noncomputable def o7 : Obj := cs11.o7
@[irreducible] noncomputable def xT : Array Value := cs11.xT
@[irreducible] noncomputable def xG : Array Value := cs11.xG
@[irreducible] noncomputable def xK : Array Value := cs11.xK
@[irreducible] noncomputable def xTo : Array Value := cs11.xTo
@[irreducible] noncomputable def xS : Array Value := cs11.xS
@[irreducible] noncomputable def xD : Array Value := cs11.xD
@[irreducible] noncomputable def nT : Nat := cs11.nT
@[irreducible] noncomputable def nG : Nat := cs11.nG
@[irreducible] noncomputable def nK : Nat := cs11.nK
@[irreducible] noncomputable def nTo : Nat := cs11.nTo
@[irreducible] noncomputable def nS : Nat := cs11.nS
@[irreducible] noncomputable def nD : Nat := cs11.nD
@[irreducible] noncomputable def p1 : Array Value := cs11.p1
@[irreducible] noncomputable def p2 : Array Value := cs11.p2
@[irreducible] noncomputable def cs : List Int := cs11.cs
theorem holds : Ss11 w mean mg mb g L fa cd dp fr gd un Q s m aT aG aK aTo aS aD o1 o2 o3 o4 o5 o6 o7 xT xG xK xTo xS xD nT nG nK nTo nS nD p1 p2 cs := by
  intro hS hA F h0 h1 h5 h6 h7 h8 h9 l1 l2 l3 l4 l5 hG hK hD hdep N hQ
  have hDec := Dec.cons h9 (.cons h8 (.cons h7 (.cons h6 (.cons h5 (.cons h1 (decL h0))))))
  have X := hS.X
  have T := hS.T
  dsimp only [lawEnv]
  conv in (st 11) => whnf
  conv in (occs := *) (DefRec.scope lawRec) => all_goals whnf
  k_steps
  refine unhalt ?_
  have z1 := ints_len hG
  have z2 := ints_len hK
  have zGK := run_GK cs 8
  refine comp_rangeC 9 IntR (fun i => [cntI cs i]) rfl (by decide) rfl rfl (by decide) (by intro _; rfl) (by intro _; rfl) (by intro _; rfl) (by intro _; rfl) ?_
  k_steps
  rename Fr _ _ _ _ => F1
  rename News _ _ _ _ => N1
  have eG := N1.get (a := aG) (o := W.listOf xG nG) (by k_mem)
  have eK := N1.get (a := aK) (o := W.listOf xK nK) (by k_mem)
  have e2 := N1.get (a := L + 1 + 1) (o := o2) (by k_mem)
  have e3 := N1.get (a := L + 1 + 1 + 1) (o := o3) (by k_mem)
  rename IsRange _ _ _ _ _ _ _ _ => hRg
  refine unhalt ⟨_, 0, 9, _, _, _, rfl, hRg, by decide, ⟨by decide, by decide⟩, fun gB C H tk m₂ i hi t kB FB hm hno => ?_, fun D h' tk ys hD' hp hl hk => ?_⟩
  · have SB : St w mean mg mb gB := (hS.keeps F1.keep).keeps kB
    have b1 := kB _ _ eG
    have b2 := kB _ _ eK
    have c2 := kB _ _ e2
    have c3 := kB _ _ e3
    clear N1 F1 X T eG eK e2 e3 hS hRg
    have X := SB.X
    have T := SB.T
    obtain ⟨oc, hoc, hod⟩ := hm
    have N : News gB C H [(C + 1, oc)] := by
      intro p hp
      obtain rfl := List.mem_singleton.mp hp
      exact ⟨hoc, neN (by omega), hno⟩
    refine tests_nil ⟨H, tk, rfl, fun _ _ e => e, ?_⟩
    rw [if_pos rfl]
    dsimp only [compEnvW, relabel]
    conv in (occs := *) (List.map _ _) => all_goals simp only [List.map_cons, List.map_nil]
    conv in (occs := *) (ite _ _ _) => all_goals whnf

    k_steps
    refine unhalt ?_
    refine comp_listL ((runP cs 8).G).length IntR (fun j => leOut (i : Int) (((runP cs 8).G).getD j 0)) rfl (by omega) rfl rfl (by decide) (by intro _; rfl) (by intro _; rfl) (by intro _; rfl) ?_
    (try dsimp only)
    k_steps
    have i1 := FB.keep _ _ b1
    refine unhalt ⟨_, xG, rfl, ⟨_, i1, rfl, nG, rfl⟩, by rw [← z1]; simp, fun gB2 C2 H2 tk2 m3 j hj v hv kB2 FB2 hm2 => ?_, fun D1 h1' tk1 ys1 hD1 hp1 hl1 hk1 => ?_⟩
    · have SB2 : St w mean mg mb gB2 := (SB.keeps FB.keep).keeps kB2
      obtain ⟨y, ey⟩ : ∃ y, ((runP cs 8).G).getD j 0 = y := ⟨_, rfl⟩
      obtain ⟨tv, rfl⟩ := ints_at (i := j) hG (v := v) (by rw [Array.getElem?_toList]; exact hv)
      rw [ey] at hm2 ⊢
      have bc := kB2 _ _ (N.get (a := C + 1) (o := oc) (by k_mem))
      clear N FB X T
      have X := SB2.X
      have T := SB2.T
      have N2 : News gB2 C2 H2 [] := News.nil
      dsimp only [compEnvW, relabel]
      conv in (occs := *) (List.map _ _) => all_goals simp only [List.map_cons, List.map_nil]
      conv in (occs := *) (ite _ _ _) => all_goals whnf

      refine tests_one ?_
      k_steps
      refine unhalt ⟨H2, _, rfl, fun _ _ e => e, ?_⟩
      generalize hb : decide (y ≤ (i : Int)) = b
      have hb' : decide (y ≤ 0 + (i : Int)) = b := by rw [← hb, Int.zero_add]
      try rw [hb']
      cases b with
      | true =>
        rw [if_pos rfl]
        (try dsimp only)
        k_steps
        refine unhalt ⟨H2, _, y, rfl, fun _ _ e => e, ⟨_, rfl⟩, ?_⟩
        unfold leOut
        rw [if_pos (of_decide_eq_true hb)]
      | false =>
        rw [if_neg (by decide)]
        unfold leOut
        rw [if_neg (of_decide_eq_false hb)]

    · obtain ⟨F3, n3, N3, lt3⟩ := list_new FB N hD1 hl1 hk1
      have hp1' := ints_of_paired hp1
      rw [leOut_all] at hp1'
      have zy1 := ints_len hp1'
      have zf1 := List.length_filter_le (fun p => decide (p ≤ (i : Int))) (runP cs 8).G
      clear FB N
      (try dsimp only)
      k_steps
      refine unhalt ?_
      refine len_led (s := ⟨_, _, _, _, _⟩) N3 (.head _) (by rw [List.size_toArray]; omega) ?_
      rw [List.size_toArray, zy1]
      (try dsimp only)
      k_steps
      refine unhalt ?_
      refine comp_listL ((runP cs 8).K).length IntR (fun j => leOut (i : Int) (((runP cs 8).K).getD j 0)) rfl (by omega) rfl rfl (by decide) (by intro _; rfl) (by intro _; rfl) (by intro _; rfl) ?_
      (try dsimp only)
      k_steps
      have i2 := F3.keep _ _ b2
      refine unhalt ⟨_, xK, rfl, ⟨_, i2, rfl, nK, rfl⟩, by rw [← z2]; simp, fun gB2 C2 H2 tk2 m3 j hj v hv kB2 FB2 hm2 => ?_, fun D2 h2' tk2 ys2 hD2 hp2 hl2 hk2 => ?_⟩
      · have SB2 : St w mean mg mb gB2 := (SB.keeps F3.keep).keeps kB2
        obtain ⟨y, ey⟩ : ∃ y, ((runP cs 8).K).getD j 0 = y := ⟨_, rfl⟩
        obtain ⟨tv, rfl⟩ := ints_at (i := j) hK (v := v) (by rw [Array.getElem?_toList]; exact hv)
        rw [ey] at hm2 ⊢
        have bc := kB2 _ _ (N3.get (a := C + 1) (o := oc) (by k_mem))
        clear N3 F3 X T
        have X := SB2.X
        have T := SB2.T
        have N2 : News gB2 C2 H2 [] := News.nil
        dsimp only [compEnvW, relabel]
        conv in (occs := *) (List.map _ _) => all_goals simp only [List.map_cons, List.map_nil]
        conv in (occs := *) (ite _ _ _) => all_goals whnf

        refine tests_one ?_
        k_steps
        refine unhalt ⟨H2, _, rfl, fun _ _ e => e, ?_⟩
        generalize hb : decide (y ≤ (i : Int)) = b
        have hb' : decide (y ≤ 0 + (i : Int)) = b := by rw [← hb, Int.zero_add]
        try rw [hb']
        cases b with
        | true =>
          rw [if_pos rfl]
          (try dsimp only)
          k_steps
          refine unhalt ⟨H2, _, y, rfl, fun _ _ e => e, ⟨_, rfl⟩, ?_⟩
          unfold leOut
          rw [if_pos (of_decide_eq_true hb)]
        | false =>
          rw [if_neg (by decide)]
          unfold leOut
          rw [if_neg (of_decide_eq_false hb)]

      · obtain ⟨F5, n5, N5, lt5⟩ := list_new F3 N3 hD2 hl2 hk2
        have hp2' := ints_of_paired hp2
        rw [leOut_all] at hp2'
        have zy2 := ints_len hp2'
        have zf2 := List.length_filter_le (fun p => decide (p ≤ (i : Int))) (runP cs 8).K
        clear F3 N3
        (try dsimp only)
        k_steps
        refine unhalt ?_
        refine len_led (s := ⟨_, _, _, _, _⟩) N5 (.head _) (by rw [List.size_toArray]; omega) ?_
        rw [List.size_toArray, zy2]
        (try dsimp only)
        k_steps
        exact unhalt ⟨h2', _, _, rfl, fun b o e => hk2 b o (hk1 b o e), ⟨_, rfl⟩, rfl⟩
  · obtain ⟨F9, n9, N9, lt9⟩ := list_new F1 N1 hD' hl hk
    have hp' := ints_of_paired hp
    rw [fm1, ← hdep] at hp'
    have eS := N9.get (a := aD) (o := W.listOf xD nD) (by k_mem)
    have eD := N9.get (a := D) (o := W.listOf ys.toArray n9) (.head _)
    have N10 : News g L h' [(aD, W.listOf xD nD), (aS, W.listOf xS nS), (aTo, W.listOf xTo nTo), (aK, W.listOf xK nK), (aG, W.listOf xG nG), (aT, W.listOf xT nT), (L + 1 + 1 + 1 + 1 + 1 + 1 + 1, o7), (L + 1 + 1 + 1 + 1 + 1 + 1, o6), (L + 1 + 1 + 1 + 1 + 1, o5), (L + 1 + 1 + 1 + 1, o4), (L + 1 + 1 + 1, o3), (L + 1 + 1, o2), (L + 1, o1), (101, tabO p1), (108, tabO p2)] := news_sub N9 fun p hp => List.mem_cons_of_mem _ hp
    clear N9 N1 F1 eG eK e2 e3 hRg
    (try dsimp only)
    k_steps
    refine unhalt ?_
    refine ne_intsK (s := ⟨_, _, _, _, _⟩) (vs := xD.toList) (us := ys) ⟨_, eS, rfl, nD, by simp⟩ hD ⟨_, eD, rfl, _, rfl⟩ hp' (by have := hA.un; show un + 64 < 9900; change un + 8 * 59 < 9000 at this; omega) ?_
    rw [decide_eq_true (rfl : (runP cs 8).deps = (runP cs 8).deps)]
    (try dsimp only)
    k_steps
    exact hQ _ _ (by assumption) N10
end Ks11
theorem s11 {w : World} {mean : ExcName → Option Value} {mg mb : Str → Option Value} {g : Heap} {L fa : Nat} {cd : Value} {A : Around} {Q : Flow → Shared → Prop} {s : Shared} {m : Str → Option Value}
    {aT aG aK aTo aS aD : Nat} {o1 o2 o3 o4 o5 o6 o7 : Obj} {xT xG xK xTo xS xD : Array Value} {nT nG nK nTo nS nD : Nat} {p1 p2 : Array Value}
    (hS : St w mean mg mb g) (hA : AOk 59 A) (F : Fr g L s.heap m) (h0 : 108 < L) (h1 : L + 1 + 1 + 1 + 1 + 1 + 1 + 1 < aT) (h5 : aT < aG) (h6 : aG < aK) (h7 : aK < aTo) (h8 : aTo < aS) (h9 : aS < aD) (l1 : o1.data = .cell (some (.ref aT))) (l2 : o2.data = .cell (some (.ref aG))) (l3 : o3.data = .cell (some (.ref aK))) (l4 : o4.data = .cell (some (.ref aTo))) (l5 : o5.data = .cell (some (.ref aD)))
    {cs : List Int} (hG : IntsAre xG.toList (runP cs 8).G) (hK : IntsAre xK.toList (runP cs 8).K) (hD : IntsAre xD.toList (runP cs 8).deps) (hdep : (runP cs 8).deps = (List.range 9).map (cntI cs)) (N : News g L s.heap [(aD, W.listOf xD nD), (aS, W.listOf xS nS), (aTo, W.listOf xTo nTo), (aK, W.listOf xK nK), (aG, W.listOf xG nG), (aT, W.listOf xT nT), (L + 1 + 1 + 1 + 1 + 1 + 1 + 1, o7), (L + 1 + 1 + 1 + 1 + 1 + 1, o6), (L + 1 + 1 + 1 + 1 + 1, o5), (L + 1 + 1 + 1 + 1, o4), (L + 1 + 1 + 1, o3), (L + 1 + 1, o2), (L + 1, o1), (101, tabO p1), (108, tabO p2)])
    (hQ : ∀ h' tk, Fr g L h' m → News g L h' [(aD, W.listOf xD nD), (aS, W.listOf xS nS), (aTo, W.listOf xTo nTo), (aK, W.listOf xK nK), (aG, W.listOf xG nG), (aT, W.listOf xT nT), (L + 1 + 1 + 1 + 1 + 1 + 1 + 1, o7), (L + 1 + 1 + 1 + 1 + 1 + 1, o6), (L + 1 + 1 + 1 + 1 + 1, o5), (L + 1 + 1 + 1 + 1, o4), (L + 1 + 1 + 1, o3), (L + 1 + 1, o2), (L + 1, o1), (101, tabO p1), (108, tabO p2)] → Q .next { s with heap := h', toks := tk }) :
    wpAny (model PG w) A (exec (st 11) (lawEnv L fa cd)) Q (fun _ _ => False) s := by
  obtain ⟨hd0, dp, fr, gd, un⟩ := A
  obtain rfl : hd0 = none := hA.hd
  exact skolem lv0 (fun x => Ss11 x.w x.mean x.mg x.mb x.g x.L x.fa x.cd x.dp x.fr x.gd x.un x.Q x.s x.m x.aT x.aG x.aK x.aTo x.aS x.aD x.o1 x.o2 x.o3 x.o4 x.o5 x.o6 x.o7 x.xT x.xG x.xK x.xTo x.xS x.xD x.nT x.nG x.nK x.nTo x.nS x.nD x.p1 x.p2 x.cs) (by with_unfolding_all exact Ks11.holds) ⟨w, mean, mg, mb, g, L, fa, cd, dp, fr, gd, un, Q, m, s, (Classical.choice lv0).news, (Classical.choice lv0).ls, (Classical.choice lv0).c, (Classical.choice lv0).vs, (Classical.choice lv0).xs, (Classical.choice lv0).its, cs, (Classical.choice lv0).n, (Classical.choice lv0).oc, (Classical.choice lv0).rest, o1, o2, o3, o4, o5, o6, o7, (Classical.choice lv0).d, (Classical.choice lv0).r, aT, aG, aK, aTo, aS, aD, (Classical.choice lv0).it, (Classical.choice lv0).e, (Classical.choice lv0).i, (Classical.choice lv0).nbx, (Classical.choice lv0).tn, (Classical.choice lv0).tk0, (Classical.choice lv0).oI, (Classical.choice lv0).oE, xT, xG, xK, xTo, xS, xD, (Classical.choice lv0).itsbx, nT, nG, nK, nTo, nS, nD, (Classical.choice lv0).nC, (Classical.choice lv0).nr, (Classical.choice lv0).ritems, p1, p2, (Classical.choice lv0).t2, (Classical.choice lv0).t3, (Classical.choice lv0).yT, (Classical.choice lv0).tt, (Classical.choice lv0).tl, (Classical.choice lv0).v, (Classical.choice lv0).tv, (Classical.choice lv0).tm, (Classical.choice lv0).mkS, (Classical.choice lv0).fa', (Classical.choice lv0).fb', (Classical.choice lv0).l, (Classical.choice lv0).mkF, (Classical.choice lv0).bk, (Classical.choice lv0).tw, (Classical.choice lv0).tb, (Classical.choice lv0).td, (Classical.choice lv0).dl, (Classical.choice lv0).aGp, (Classical.choice lv0).nGp, (Classical.choice lv0).xGp, (Classical.choice lv0).r0, (Classical.choice lv0).r1, (Classical.choice lv0).r2, (Classical.choice lv0).r3, (Classical.choice lv0).k0, (Classical.choice lv0).k1, (Classical.choice lv0).k2, (Classical.choice lv0).k3, (Classical.choice lv0).aTb, (Classical.choice lv0).nTb, (Classical.choice lv0).v0, (Classical.choice lv0).v1, (Classical.choice lv0).v2, (Classical.choice lv0).v3, (Classical.choice lv0).aX, (Classical.choice lv0).nX, (Classical.choice lv0).xX, (Classical.choice lv0).ns, (Classical.choice lv0).c0, (Classical.choice lv0).d0, (Classical.choice lv0).tc, (Classical.choice lv0).tf, (Classical.choice lv0).j⟩ hS hA F h0 h1 h5 h6 h7 h8 h9 l1 l2 l3 l4 l5 hG hK hD hdep N hQ
end
end Mine
end OfA40
section OfL4
open PySem PySem.W PyProof.Rows
set_option Elab.async false
set_option maxRecDepth 100000
set_option maxHeartbeats 4000000
namespace Mine
noncomputable section
noncomputable def bI (cs : List Int) (i : Nat) : Bool := gives (nn cs i) (runP cs i)
noncomputable def bsI (cs : List Int) : List Bool := (List.range 8).map (bI cs)
noncomputable def cnt (cs : List Int) (k : Nat) : Nat := ((List.range k).filter (bI cs)).length
theorem run_G (cs : List Int) : ∀ n, (runP cs n).G = ((List.range n).filter (bI cs)).map fun i : Nat => (i : Int) + 1
  | 0 => rfl
  | n + 1 => by
    show (if gives (nn cs n) (runP cs n) then (runP cs n).G ++ [(n : Int) + 1] else (runP cs n).G) = _
    rw [List.range_succ, List.filter_append, List.map_append, ← run_G cs n]
    cases hb : bI cs n with
    | true => rw [if_pos (show gives (nn cs n) (runP cs n) = true from hb)]; simp [hb]
    | false => rw [if_neg (by rw [show gives (nn cs n) (runP cs n) = false from hb]; decide)]; simp [hb]
theorem run_K (cs : List Int) : ∀ n, (runP cs n).K = ((List.range n).filter fun i => !bI cs i).map fun i : Nat => (i : Int) + 1
  | 0 => rfl
  | n + 1 => by
    show (if gives (nn cs n) (runP cs n) then (runP cs n).K else (runP cs n).K ++ [(n : Int) + 1]) = _
    rw [List.range_succ, List.filter_append, List.map_append, ← run_K cs n]
    cases hb : bI cs n with
    | true => rw [if_pos (show gives (nn cs n) (runP cs n) = true from hb)]; simp [hb]
    | false => rw [if_neg (by rw [show gives (nn cs n) (runP cs n) = false from hb]; decide)]; simp [hb]
theorem run_bal (cs : List Int) : ∀ n, n ≤ 8 → (runP cs n).G.length ≤ 4 ∧ (runP cs n).K.length ≤ 4
  | 0, _ => ⟨Nat.zero_le 4, Nat.zero_le 4⟩
  | n + 1, h => by
    obtain ⟨h1, h2⟩ := run_bal cs n (by omega)
    have h3 := run_GK cs n
    have hg : (runP cs (n + 1)).G = if gives (nn cs n) (runP cs n) then (runP cs n).G ++ [(n : Int) + 1] else (runP cs n).G := rfl
    have hk : (runP cs (n + 1)).K = if gives (nn cs n) (runP cs n) then (runP cs n).K else (runP cs n).K ++ [(n : Int) + 1] := rfl
    rw [hg, hk]
    cases hb : gives (nn cs n) (runP cs n) with
    | true =>
      rw [if_pos rfl, if_pos rfl, List.length_append]
      refine ⟨?_, h2⟩
      unfold gives at hb
      rw [Bool.or_eq_true] at hb
      rcases hb with hb | hb
      · have := eq_of_beq hb
        simp only [List.length_singleton]; omega
      · rw [Bool.and_eq_true] at hb
        have := of_decide_eq_true hb.2
        simp only [List.length_singleton]; omega
    | false =>
      rw [if_neg (by decide), if_neg (by decide), List.length_append]
      refine ⟨h1, ?_⟩
      unfold gives at hb
      rw [Bool.or_eq_false_iff] at hb
      have := ne_of_beq_false hb.1
      simp only [List.length_singleton]; omega
theorem G4 (cs : List Int) : (runP cs 8).G.length = 4 := by
  have := run_bal cs 8 (by omega)
  have := run_GK cs 8
  omega
theorem K4 (cs : List Int) : (runP cs 8).K.length = 4 := by
  have := run_bal cs 8 (by omega)
  have := run_GK cs 8
  omega
theorem cnt_succ (cs : List Int) (k : Nat) : cnt cs (k + 1) = cnt cs k + if bI cs k then 1 else 0 := by
  unfold cnt
  rw [List.range_succ, List.filter_append, List.length_append]
  cases hb : bI cs k <;> simp [hb]
theorem cnt_le (cs : List Int) : ∀ k, cnt cs k ≤ k
  | 0 => Nat.le_refl 0
  | k + 1 => by
    have := cnt_le cs k
    rw [cnt_succ]
    split <;> omega
theorem run_dep (cs : List Int) : ∀ n, (runP cs n).deps = (List.range (n + 1)).map fun k => 2 * (cnt cs k : Int) - k
  | 0 => by simp [runP, PS0, cnt]
  | n + 1 => by
    show (runP cs n).deps ++ [(runP cs n).deps.getLastD 0 + if gives (nn cs n) (runP cs n) then 1 else -1] = _
    rw [run_dep cs n, List.range_succ (n := n + 1), List.map_append, List.map_singleton, cnt_succ]
    congr 1
    rw [List.range_succ, List.map_append, List.map_singleton, List.getLastD_concat]
    cases hb : bI cs n with
    | true =>
      rw [if_pos (show gives (nn cs n) (runP cs n) = true from hb), if_pos rfl]
      congr 1; push_cast; omega
    | false =>
      rw [if_neg (by rw [show gives (nn cs n) (runP cs n) = false from hb]; decide), if_neg (by decide)]
      congr 1; push_cast; omega
theorem run_said (cs : List Int) : ∀ n, (runP cs n).told = (List.range n).map fun i => if bI cs i then mkS (TT cs (i + 1)) else FAIL
  | 0 => rfl
  | n + 1 => by
    show (runP cs n).told ++ [if gives (nn cs n) (runP cs n) then ⟨((runP cs n).T.getLastD [] ++ pieceI (nn cs n)).toArray⟩ else FAIL] = _
    rw [run_said cs n, List.range_succ, List.map_append, List.map_singleton, run_last]
    rfl
theorem bs_len (cs : List Int) : (bsI cs).length = 8 := by unfold bsI; simp
theorem bs_get (cs : List Int) (i : Nat) (hi : i < 8) : (bsI cs).getD i false = bI cs i := by
  unfold bsI
  rw [List.getD_eq_getElem?_getD, List.getElem?_map, List.getElem?_range hi]
  rfl
theorem gP_eq (cs : List Int) : gP (bsI cs) = ((List.range 8).filter (bI cs)).map (· + 1) := by
  unfold gP
  rw [List.filter_congr fun i hi => bs_get cs i (List.mem_range.mp hi)]
theorem kP_eq (cs : List Int) : kP (bsI cs) = ((List.range 8).filter fun i => !bI cs i).map (· + 1) := by
  unfold kP
  rw [List.filter_congr fun i hi => by rw [bs_get cs i (List.mem_range.mp hi)]]
theorem G_gP (cs : List Int) : (runP cs 8).G = (gP (bsI cs)).map fun p : Nat => (p : Int) := by
  rw [run_G, gP_eq, List.map_map]; rfl
theorem K_kP (cs : List Int) : (runP cs 8).K = (kP (bsI cs)).map fun p : Nat => (p : Int) := by
  rw [run_K, kP_eq, List.map_map]; rfl
theorem bs_four (cs : List Int) : (bsI cs).countP id = 4 := by
  have h := G4 cs
  rw [run_G, List.length_map] at h
  unfold bsI
  rw [List.countP_map, List.countP_eq_length_filter]
  exact h
theorem filt_lt (f : Nat → Bool) (k : Nat) : ∀ d, ((List.range (k + d)).filter fun i => f i && Nat.ble (i + 1) k) = (List.range k).filter f
  | 0 => List.filter_congr fun i hi => by
    rw [Nat.ble_eq_true_of_le (show i + 1 ≤ k from List.mem_range.mp hi), Bool.and_true]
  | d + 1 => by
    rw [← Nat.add_assoc, List.range_succ, List.filter_append, filt_lt f k d]
    have : Nat.ble (k + d + 1) k = false := by
      cases h : Nat.ble (k + d + 1) k with
      | false => rfl
      | true => have := Nat.le_of_ble_eq_true h; omega
    simp [this]
theorem upTo_cnt (cs : List Int) (k : Nat) (hk : k ≤ 8) : upTo (gP (bsI cs)) k = cnt cs k := by
  unfold upTo cnt
  rw [gP_eq, List.filter_map, List.length_map, List.filter_filter]
  have := filt_lt (bI cs) k (8 - k)
  rw [show k + (8 - k) = 8 by omega] at this
  rw [← this]
  congr 1
  exact List.filter_congr fun i _ => by rw [Bool.and_comm]; rfl
theorem G_upTo (cs : List Int) (k : Nat) (hk : k ≤ 8) : ((runP cs 8).G.filter fun p => decide (p ≤ (k : Int))).length = cnt cs k := by
  rw [run_G, List.filter_map, List.length_map, List.filter_filter]
  have := filt_lt (bI cs) k (8 - k)
  rw [show k + (8 - k) = 8 by omega] at this
  unfold cnt
  rw [← this]
  congr 1
  refine List.filter_congr fun i _ => ?_
  rw [Bool.and_comm]
  congr 1
  show decide ((i : Int) + 1 ≤ (k : Int)) = _
  rw [Bool.eq_iff_iff, decide_eq_true_iff, Nat.ble_eq]
  omega
theorem K_upTo (cs : List Int) (k : Nat) (hk : k ≤ 8) : ((runP cs 8).K.filter fun p => decide (p ≤ (k : Int))).length = k - cnt cs k := by
  rw [run_K, List.filter_map, List.length_map, List.filter_filter]
  have := filt_lt (fun i => !bI cs i) k (8 - k)
  rw [show k + (8 - k) = 8 by omega] at this
  have e : ((List.range 8).filter fun i : Nat => decide (((i : Int) + 1) ≤ (k : Int)) && !bI cs i) = (List.range k).filter fun i => !bI cs i := by
    rw [← this]
    refine List.filter_congr fun i _ => ?_
    rw [Bool.and_comm]
    congr 1
    show decide ((i : Int) + 1 ≤ (k : Int)) = _
    rw [Bool.eq_iff_iff, decide_eq_true_iff, Nat.ble_eq]
    omega
  refine (congrArg List.length e).trans ?_
  unfold cnt
  have h2 : ∀ l : List Nat, (l.filter fun i => !bI cs i).length = l.length - (l.filter (bI cs)).length := by
    intro l
    have h3 : ∀ l : List Nat, (l.filter (bI cs)).length + (l.filter fun i => !bI cs i).length = l.length := by
      intro l
      induction l with
      | nil => rfl
      | cons a l ih =>
        rw [List.filter_cons, List.filter_cons]
        cases hb : bI cs a <;> simp <;> omega
    have := h3 l
    omega
  rw [h2, List.length_range]
end
end Mine
end OfL4
section OfL5
open PySem PySem.W PyProof.Rows
set_option Elab.async false
set_option maxRecDepth 100000
set_option maxHeartbeats 4000000
namespace Mine
noncomputable section
theorem G_has (cs : List Int) (i : Nat) (hi : i < 8) : (((i : Int) + 1) ∈ (runP cs 8).G) ↔ bI cs i = true := by
  rw [run_G]
  constructor
  · intro h
    obtain ⟨j, hj, e⟩ := List.mem_map.mp h
    obtain rfl : j = i := by omega
    exact (List.mem_filter.mp hj).2
  · intro h
    exact List.mem_map.mpr ⟨i, List.mem_filter.mpr ⟨List.mem_range.mpr hi, h⟩, rfl⟩
theorem told_eq (cs : List Int) : (runP cs 8).told = (List.range 8).map (toldOf cs) := by
  rw [run_said]
  refine List.map_congr_left fun i hi => ?_
  have h := G_has cs i (List.mem_range.mp hi)
  unfold toldOf
  cases hb : bI cs i with
  | true => rw [if_pos rfl, if_pos (h.mpr hb)]
  | false => rw [if_neg (by decide), if_neg (fun q => by rw [h.mp q] at hb; cases hb)]
theorem wd_ascii : ∀ (n v : Nat), ∀ x ∈ wd n v, x < 128
  | 0, v, x, h => by simp [wd] at h
  | n + 1, v, x, h => by
    simp only [wd] at h
    split at h
    · cases h
    · rcases List.mem_append.mp h with h | h
      · exact wd_ascii n _ x h
      · obtain rfl := List.mem_singleton.mp h
        omega
theorem TT_ascii (cs : List Int) : ∀ i, ∀ x ∈ TT cs i, x < 128
  | 0, x, h => by cases h
  | i + 1, x, h => by
    rcases List.mem_append.mp h with h | h
    · exact TT_ascii cs i x h
    · rcases List.mem_cons.mp h with rfl | h
      · unfold mark4; split <;> omega
      · exact wd_ascii _ _ x h
theorem told_ok (cs : List Int) : ∀ n ∈ (runP cs 8).told, PyData.strOk n = true := by
  intro n h
  rw [run_said] at h
  obtain ⟨i, hi, rfl⟩ := List.mem_map.mp h
  cases hb : bI cs i with
  | true =>
    rw [if_pos rfl]
    show (TT cs (i + 1)).toArray.all (· < 0x110000) = true
    rw [List.all_toArray, List.all_eq_true]
    intro x hx
    have := TT_ascii cs (i + 1) x hx
    exact decide_eq_true (by omega)
  | false => rw [if_neg (by decide)]; decide +kernel
theorem dep_eq (cs : List Int) : (runP cs 8).deps = (List.range 9).map (cntI cs) := by
  rw [run_dep]
  refine List.map_congr_left fun k hk => ?_
  have hk8 : k ≤ 8 := by have := List.mem_range.mp hk; omega
  unfold cntI
  have := cnt_le cs k
  rw [G_upTo cs k hk8, K_upTo cs k hk8]
  omega
theorem depI_eq (cs : List Int) (k : Nat) (hk : k ≤ 8) : depI cs k = 2 * (cnt cs k : Int) - k := by
  unfold depI
  rw [run_dep, List.getD_eq_getElem?_getD, List.getElem?_map, List.getElem?_range (by omega)]
  rfl
theorem abs_eq (cs : List Int) (k : Nat) (hk : k ≤ 8) : absI (depI cs k) = (absd (gP (bsI cs)) k : Int) := by
  rw [depI_eq cs k hk]
  unfold absI absd
  rw [upTo_cnt cs k hk]
  split <;> omega
theorem ways_eq (cs : List Int) : ∀ i, i ≤ 8 → waysI cs i = (waysB (gP (bsI cs)) i : Int)
  | 0, _ => rfl
  | i + 1, h => by
    unfold waysI waysB
    rw [abs_eq cs (i + 1) h, abs_eq cs i (by omega), ways_eq cs i (by omega)]
    cases hb : Nat.blt (absd (gP (bsI cs)) (i + 1)) (absd (gP (bsI cs)) i) with
    | true =>
      have : absd (gP (bsI cs)) (i + 1) < absd (gP (bsI cs)) i := Nat.le_of_ble_eq_true hb
      rw [if_pos (by omega), if_pos rfl]
      push_cast; rfl
    | false =>
      have : ¬ absd (gP (bsI cs)) (i + 1) < absd (gP (bsI cs)) i := fun q => by
        rw [show Nat.blt (absd (gP (bsI cs)) (i + 1)) (absd (gP (bsI cs)) i) = true from Nat.ble_eq_true_of_le q] at hb; cases hb
      rw [if_neg (by omega), if_neg (by decide)]
theorem range7 : List.range 7 = [0, 1, 2, 3, 4, 5, 6] := by decide
theorem cheap_eq (cs : List Int) : cheapI cs = 2 * f7 (gapI cs) (absd (gP (bsI cs))) := by
  have h : ∀ i, i < 7 → cheapAt cs i = 2 * (gapI cs (i + 1) * (absd (gP (bsI cs)) (i + 1) : Int)) := fun i hi => by
    have := abs_eq cs (i + 1) (by omega)
    unfold absI at this
    unfold cheapAt
    rw [this, Int.mul_assoc]
  unfold cheapI f7
  rw [range7]
  simp only [List.map_cons, List.map_nil, List.sum_cons, List.sum_nil]
  rw [h 0 (by omega), h 1 (by omega), h 2 (by omega), h 3 (by omega), h 4 (by omega), h 5 (by omega), h 6 (by omega)]
  simp only [Nat.reduceAdd]
  omega
theorem dear_eq (cs : List Int) : dearI cs = 2 * f7 (gapI cs) (fun k => min k (8 - k)) := by
  have h : ∀ i, i < 7 → dearAt cs i = 2 * (gapI cs (i + 1) * ((min (i + 1) (8 - (i + 1)) : Nat) : Int)) := fun i hi => by
    unfold dearAt
    rw [Int.mul_assoc]
    congr 2
    omega
  unfold dearI f7
  rw [range7]
  simp only [List.map_cons, List.map_nil, List.sum_cons, List.sum_nil]
  rw [h 0 (by omega), h 1 (by omega), h 2 (by omega), h 3 (by omega), h 4 (by omega), h 5 (by omega), h 6 (by omega)]
  simp only [Nat.reduceAdd]
  omega
noncomputable def XI (cs : List Int) (k : Nat) : Int := ((TT cs k).length : Int)
theorem X_step (cs : List Int) (k : Nat) : XI cs (k + 1) = XI cs k + gapI cs k := by
  unfold XI gapI
  rw [TT, List.length_append]
  push_cast; rfl
theorem lev_dist (cs : List Int) (p q : Nat) : levN cs p q = dist (XI cs) p q := by
  unfold levN dist XI
  by_cases h : (TT cs p).length ≤ (TT cs q).length
  · rw [if_pos h, if_pos (by omega)]
  · rw [if_neg h, if_neg (by omega)]
theorem orders_perms : orders24 = perms.map fun r => r.map fun k : Nat => (k : Int) := by decide +kernel
theorem getD_cast (l : List Nat) (j : Nat) : (l.map fun k : Nat => (k : Int)).getD j 0 = ((l.getD j 0 : Nat) : Int) := by
  rw [List.getD_eq_getElem?_getD, List.getD_eq_getElem?_getD, List.getElem?_map]
  cases l[j]? <;> rfl
theorem cost_eq (cs : List Int) (r : List Nat) (j : Nat) (hj : r.getD j 0 < 4) : costAt cs (r.map fun k : Nat => (k : Int)) j = dist (XI cs) ((gP (bsI cs)).getD j 0) ((kP (bsI cs)).getD (r.getD j 0) 0) := by
  have t4 := (bits_ok (bsI cs) (bs_len cs) (bs_four cs)).2.1
  unfold costAt rowI
  rw [getD_cast, G_gP, K_kP, getD_cast, List.map_map, List.getD_eq_getElem?_getD, List.getElem?_map, List.getElem?_eq_getElem (by rw [Int.toNat_natCast, t4]; exact hj)]
  show levN cs _ _ = _
  rw [lev_dist]
  congr 1
  show (((kP (bsI cs))[r.getD j 0] : Nat) : Int).toNat = _
  rw [Int.toNat_natCast, List.getD_eq_getElem?_getD (l := kP (bsI cs)), List.getElem?_eq_getElem (by rw [t4]; exact hj)]
  rfl
theorem range4 : List.range 4 = [0, 1, 2, 3] := by decide
theorem totals_eq (cs : List Int) : totalsI cs = perms.map (tot (XI cs) (gP (bsI cs)) (kP (bsI cs))) := by
  unfold totalsI
  rw [orders_perms, List.map_map]
  refine List.map_congr_left fun r hr => ?_
  obtain ⟨r0, r1, r2, r3⟩ := perms_small r hr
  show totI cs (r.map fun k : Nat => (k : Int)) = _
  unfold totI tot
  rw [range4]
  simp only [List.map_cons, List.map_nil, List.sum_cons, List.sum_nil]
  rw [cost_eq cs r 0 r0, cost_eq cs r 1 r1, cost_eq cs r 2 r2, cost_eq cs r 3 r3]
  omega
noncomputable def answer (cs : List Int) : Int := (([24, 6, 4, 6, 24].getD (cnt cs 4) 0 : Nat) : Int)
/-- what the law asks of its totals -/
theorem totals_law (cs : List Int) : ((∀ a ∈ totalsI cs, cheapI cs ≤ a) ∧ cheapI cs ∈ totalsI cs ∧ ((totalsI cs).count (cheapI cs) : Int) = waysI cs 8) ∧ ((∀ a ∈ totalsI cs, a ≤ dearI cs) ∧ dearI cs ∈ totalsI cs ∧ ((totalsI cs).count (dearI cs) : Int) = answer cs) := by
  obtain ⟨⟨a1, a2, a3⟩, b1, b2, b3⟩ := plain (bs_len cs) (bs_four cs) (X_step cs) (fun k => (gap_bound cs k).1)
  rw [← totals_eq, ← cheap_eq] at a1 a2 a3
  rw [← totals_eq, ← dear_eq] at b1 b2 b3
  rw [upTo_cnt cs 4 (by omega)] at b3
  refine ⟨⟨a1, a2, ?_⟩, b1, b2, ?_⟩
  · rw [a3, ways_eq cs 8 (by omega)]
  · rw [b3]; rfl
theorem front_eq (cs : List Int) : ((runP cs 8).G.filter fun p => decide (p ≤ 4)).length = cnt cs 4 := G_upTo cs 4 (by omega)
end
end Mine
end OfL5
section OfA34
open PySem PySem.W PySem.W.X PySem.Calls PyProof.Rows
set_option Elab.async false
set_option maxRecDepth 100000
set_option maxHeartbeats 4000000
set_option pp.maxSteps 3000
namespace Mine
noncomputable section
theorem filled34 : kk.heap_1 = kk.heap_1 ∧ PySem.Challenge.rw_wu0057_01.name = PySem.Challenge.rw_wu0057_01.name := by
  k_fill
  exact ⟨rfl, rfl⟩

local macro_rules | `(tactic| walk_at "pad") => `(tactic| skip)
local macro_rules | `(tactic| walk_at "eval ListComp") => `(tactic| refine halt ?_)
local macro_rules | `(tactic| walk_at "subscriptTail") => `(tactic| refine halt ?_)
local macro_rules | `(tactic| walk_at "eval Name") => `(tactic| (k_here; first
  | (refine nm_is "sizes" ?_; walk_at "nmL")
  | (refine nm_is "text" ?_; walk_at "nmL")
  | (refine nm_is "len" ?_; walk_at "nmB")))

local macro_rules | `(tactic| walk_at "call builtin:len") => `(tactic| (k_here; (refine len_mkS (by assumption) ?_)))
noncomputable def Ss12 (w : World) (mean : ExcName → Option Value) (mg : Str → Option Value) (mb : Str → Option Value) (g : Heap) (L : Nat) (fa : Nat) (cd : Value) (dp : Nat) (fr : Option (List Env)) (gd : Option (List Code)) (un : Nat) (Q : Flow → Shared → Prop) (s : Shared) (m : Str → Option Value) (aT : Nat) (aG : Nat) (aK : Nat) (aTo : Nat) (aS : Nat) (aD : Nat) (o1 : Obj) (o2 : Obj) (o3 : Obj) (o4 : Obj) (o5 : Obj) (o6 : Obj) (o7 : Obj) (xT : Array Value) (xG : Array Value) (xK : Array Value) (xTo : Array Value) (xS : Array Value) (xD : Array Value) (nT : Nat) (nG : Nat) (nK : Nat) (nTo : Nat) (nS : Nat) (nD : Nat) (p1 : Array Value) (p2 : Array Value) (cs : List Int) : Prop := ∀ (hS : St w mean mg mb g) (hA : AOk 59 (Around.mk none dp fr gd un)) (F : Fr g L s.heap m) (ms : m "sizes" = some (.ref aS)) (h0 : 108 < L) (h1 : L + 1 + 1 + 1 + 1 + 1 + 1 + 1 < aT) (h5 : aT < aG) (h6 : aG < aK) (h7 : aK < aTo) (h8 : aTo < aS) (h9 : aS < aD) (l1 : o1.data = .cell (some (.ref aT))) (l2 : o2.data = .cell (some (.ref aG))) (l3 : o3.data = .cell (some (.ref aK))) (l4 : o4.data = .cell (some (.ref aTo))) (l5 : o5.data = .cell (some (.ref aD))) (hT : StrsAre xT.toList ((runP cs 8).T.map mkS)) (hSz : IntsAre xS.toList (runP cs 8).sizes) (N : News g L s.heap [(aD, W.listOf xD nD), (aS, W.listOf xS nS), (aTo, W.listOf xTo nTo), (aK, W.listOf xK nK), (aG, W.listOf xG nG), (aT, W.listOf xT nT), (L + 1 + 1 + 1 + 1 + 1 + 1 + 1, o7), (L + 1 + 1 + 1 + 1 + 1 + 1, o6), (L + 1 + 1 + 1 + 1 + 1, o5), (L + 1 + 1 + 1 + 1, o4), (L + 1 + 1 + 1, o3), (L + 1 + 1, o2), (L + 1, o1), (101, tabO p1), (108, tabO p2)]) (hQ : ∀ h' tk, Fr g L h' m → News g L h' [(aD, W.listOf xD nD), (aS, W.listOf xS nS), (aTo, W.listOf xTo nTo), (aK, W.listOf xK nK), (aG, W.listOf xG nG), (aT, W.listOf xT nT), (L + 1 + 1 + 1 + 1 + 1 + 1 + 1, o7), (L + 1 + 1 + 1 + 1 + 1 + 1, o6), (L + 1 + 1 + 1 + 1 + 1, o5), (L + 1 + 1 + 1 + 1, o4), (L + 1 + 1 + 1, o3), (L + 1 + 1, o2), (L + 1, o1), (101, tabO p1), (108, tabO p2)] → Q .next { s with heap := h', toks := tk }),
    wpAny (model PG w) (Around.mk none dp fr gd un) (exec (st 12) (lawEnv L fa cd)) Q (fun _ _ => False) s
noncomputable def cs12 : LV := @Classical.epsilon LV lv0 fun x => ¬ Ss12 x.w x.mean x.mg x.mb x.g x.L x.fa x.cd x.dp x.fr x.gd x.un x.Q x.s x.m x.aT x.aG x.aK x.aTo x.aS x.aD x.o1 x.o2 x.o3 x.o4 x.o5 x.o6 x.o7 x.xT x.xG x.xK x.xTo x.xS x.xD x.nT x.nG x.nK x.nTo x.nS x.nD x.p1 x.p2 x.cs
namespace Ks12
@[irreducible] noncomputable def w : World := cs12.w
@[irreducible] noncomputable def mean : ExcName → Option Value := cs12.mean
@[irreducible] noncomputable def mg : Str → Option Value := cs12.mg
@[irreducible] noncomputable def mb : Str → Option Value := cs12.mb
@[irreducible] noncomputable def g : Heap := cs12.g
@[irreducible] noncomputable def L : Nat := cs12.L
@[irreducible] noncomputable def fa : Nat := cs12.fa
@[irreducible] noncomputable def cd : Value := cs12.cd
@[irreducible] noncomputable def dp : Nat := cs12.dp
@[irreducible] noncomputable def fr : Option (List Env) := cs12.fr
@[irreducible] noncomputable def gd : Option (List Code) := cs12.gd
@[irreducible] noncomputable def un : Nat := cs12.un
@[irreducible] noncomputable def Q : Flow → Shared → Prop := cs12.Q
@[irreducible] noncomputable def s : Shared := cs12.s
@[irreducible] noncomputable def m : Str → Option Value := cs12.m
@[irreducible] noncomputable def aT : Nat := cs12.aT
@[irreducible] noncomputable def aG : Nat := cs12.aG
@[irreducible] noncomputable def aK : Nat := cs12.aK
@[irreducible] noncomputable def aTo : Nat := cs12.aTo
@[irreducible] noncomputable def aS : Nat := cs12.aS
@[irreducible] noncomputable def aD : Nat := cs12.aD
@[irreducible] noncomputable def o1 : Obj := cs12.o1
@[irreducible] noncomputable def o2 : Obj := cs12.o2
@[irreducible] noncomputable def o3 : Obj := cs12.o3
@[irreducible] noncomputable def o4 : Obj := cs12.o4
@[irreducible] noncomputable def o5 : Obj := cs12.o5
@[irreducible] noncomputable def o6 : Obj := cs12.o6
@[irreducible] noncomputable def o7 : Obj := cs12.o7
@[irreducible] noncomputable def xT : Array Value := cs12.xT
@[irreducible] noncomputable def xG : Array Value := cs12.xG
@[irreducible] noncomputable def xK : Array Value := cs12.xK
@[irreducible] noncomputable def xTo : Array Value := cs12.xTo
@[irreducible] noncomputable def xS : Array Value := cs12.xS
@[irreducible] noncomputable def xD : Array Value := cs12.xD
@[irreducible] noncomputable def nT : Nat := cs12.nT
@[irreducible] noncomputable def nG : Nat := cs12.nG
@[irreducible] noncomputable def nK : Nat := cs12.nK
@[irreducible] noncomputable def nTo : Nat := cs12.nTo
@[irreducible] noncomputable def nS : Nat := cs12.nS
@[irreducible] noncomputable def nD : Nat := cs12.nD
@[irreducible] noncomputable def p1 : Array Value := cs12.p1
@[irreducible] noncomputable def p2 : Array Value := cs12.p2
@[irreducible] noncomputable def cs : List Int := cs12.cs
theorem holds : Ss12 w mean mg mb g L fa cd dp fr gd un Q s m aT aG aK aTo aS aD o1 o2 o3 o4 o5 o6 o7 xT xG xK xTo xS xD nT nG nK nTo nS nD p1 p2 cs := by
  intro hS hA F ms h0 h1 h5 h6 h7 h8 h9 l1 l2 l3 l4 l5 hT hSz N hQ
  have hDec := Dec.cons h9 (.cons h8 (.cons h7 (.cons h6 (.cons h5 (.cons h1 (decL h0))))))
  have X := hS.X
  have T := hS.T
  dsimp only [lawEnv]
  conv in (st 12) => whnf
  conv in (occs := *) (DefRec.scope lawRec) => all_goals whnf
  k_steps
  refine unhalt ?_
  refine comp_listL 8 IntR (fun i => [3 + ((TT cs (i + 1)).length : Int)]) rfl (by decide) rfl rfl (by decide) (by intro _; rfl) (by intro _; rfl) (by intro _; rfl) ?_
  k_steps
  refine unhalt ?_
  rename Fr _ _ _ _ => F1
  rename News _ _ _ _ => N1
  have zT := xT_size hT
  have eT0 := N1.get (a := aT) (o := W.listOf xT nT) (by k_mem)
  refine slice_list (s := ⟨s.heap, _, _, _, _⟩) (items := xT) F1 N1 ⟨_, eT0, rfl, _, rfl⟩ (.int 1 _) .none (fun h3 F3 N3 => ?_) (by with_unfolding_all rfl) (by intro _; with_unfolding_all rfl) (by rw [sizeLine_eq]; omega)
  have e3 := N3.get (.head _)
  have F3' := F3.keep
  have esl : slicePick xT (some 1) none none = (xT.toList.drop 1).toArray := slicePick_from xT 1 (by omega)
  refine unhalt ⟨_, (xT.toList.drop 1).toArray, rfl, ⟨_, e3, rfl, _, by rw [esl]⟩, by simp [zT], fun gB C H tk m₂ i hi v hv kB FB hm => ?_, fun D h' tk ys hD hp hl hk => ?_⟩
  · have SB : St w mean mg mb gB := (hS.keeps F3.keep).keeps kB
    obtain ⟨t1, g1⟩ := xT_at hT (i + 1) (by omega)
    have ev : v = .str (mkS (TT cs (i + 1))) t1 := by
      rw [List.getElem?_toArray, List.getElem?_drop, Nat.add_comm 1 i, Array.getElem?_toList, g1] at hv
      exact (Option.some.inj hv).symm
    subst ev
    have z1 := TT_small cs (i + 1) (by omega)
    clear N1 F1 F3 N3 X T e3 F3' eT0 hS
    have X := SB.X
    have T := SB.T
    have N : News gB C H [] := News.nil
    refine tests_nil ⟨H, tk, rfl, fun _ _ e => e, ?_⟩
    rw [if_pos rfl]
    dsimp only [compEnvW, relabel]
    conv in (occs := *) (List.map _ _) => all_goals simp only [List.map_cons, List.map_nil]
    conv in (occs := *) (ite _ _ _) => all_goals whnf

    k_steps
    refine unhalt ⟨H, _, _, rfl, fun _ _ e => e, ⟨_, rfl⟩, rfl⟩
  · obtain ⟨F9, n9, N9, lt9⟩ := list_new F3 N3 hD hl hk
    have hp' := ints_of_paired hp
    rw [fm1, ← sizes_eq cs] at hp'
    have eS := N9.get (a := aS) (o := W.listOf xS nS) (by k_mem)
    have eD := N9.get (a := D) (o := W.listOf ys.toArray n9) (.head _)
    refine ne_intsK (s := ⟨_, _, _, _, _⟩) (vs := xS.toList) (us := ys) ⟨_, eS, rfl, nS, by simp⟩ hSz ⟨_, eD, rfl, _, rfl⟩ hp' (by have := hA.un; show un + 64 < 9900; change un + 8 * 59 < 9000 at this; omega) ?_
    rw [decide_eq_true (rfl : (runP cs 8).sizes = (runP cs 8).sizes)]
    have N10 : News g L h' [(aD, W.listOf xD nD), (aS, W.listOf xS nS), (aTo, W.listOf xTo nTo), (aK, W.listOf xK nK), (aG, W.listOf xG nG), (aT, W.listOf xT nT), (L + 1 + 1 + 1 + 1 + 1 + 1 + 1, o7), (L + 1 + 1 + 1 + 1 + 1 + 1, o6), (L + 1 + 1 + 1 + 1 + 1, o5), (L + 1 + 1 + 1 + 1, o4), (L + 1 + 1 + 1, o3), (L + 1 + 1, o2), (L + 1, o1), (101, tabO p1), (108, tabO p2)] := news_sub N9 fun p hp => List.mem_cons_of_mem _ (List.mem_cons_of_mem _ hp)
    clear N9 N3 F3 F3' N1 F1 eS eD
    (try dsimp only)
    k_steps
    exact hQ _ _ (by assumption) N10
end Ks12
theorem s12 {w : World} {mean : ExcName → Option Value} {mg mb : Str → Option Value} {g : Heap} {L fa : Nat} {cd : Value} {A : Around} {Q : Flow → Shared → Prop} {s : Shared} {m : Str → Option Value}
    {aT aG aK aTo aS aD : Nat} {o1 o2 o3 o4 o5 o6 o7 : Obj} {xT xG xK xTo xS xD : Array Value} {nT nG nK nTo nS nD : Nat} {p1 p2 : Array Value}
    (hS : St w mean mg mb g) (hA : AOk 59 A) (F : Fr g L s.heap m) (ms : m "sizes" = some (.ref aS)) (h0 : 108 < L) (h1 : L + 1 + 1 + 1 + 1 + 1 + 1 + 1 < aT) (h5 : aT < aG) (h6 : aG < aK) (h7 : aK < aTo) (h8 : aTo < aS) (h9 : aS < aD) (l1 : o1.data = .cell (some (.ref aT))) (l2 : o2.data = .cell (some (.ref aG))) (l3 : o3.data = .cell (some (.ref aK))) (l4 : o4.data = .cell (some (.ref aTo))) (l5 : o5.data = .cell (some (.ref aD)))
    {cs : List Int} (hT : StrsAre xT.toList ((runP cs 8).T.map mkS)) (hSz : IntsAre xS.toList (runP cs 8).sizes) (N : News g L s.heap [(aD, W.listOf xD nD), (aS, W.listOf xS nS), (aTo, W.listOf xTo nTo), (aK, W.listOf xK nK), (aG, W.listOf xG nG), (aT, W.listOf xT nT), (L + 1 + 1 + 1 + 1 + 1 + 1 + 1, o7), (L + 1 + 1 + 1 + 1 + 1 + 1, o6), (L + 1 + 1 + 1 + 1 + 1, o5), (L + 1 + 1 + 1 + 1, o4), (L + 1 + 1 + 1, o3), (L + 1 + 1, o2), (L + 1, o1), (101, tabO p1), (108, tabO p2)])
    (hQ : ∀ h' tk, Fr g L h' m → News g L h' [(aD, W.listOf xD nD), (aS, W.listOf xS nS), (aTo, W.listOf xTo nTo), (aK, W.listOf xK nK), (aG, W.listOf xG nG), (aT, W.listOf xT nT), (L + 1 + 1 + 1 + 1 + 1 + 1 + 1, o7), (L + 1 + 1 + 1 + 1 + 1 + 1, o6), (L + 1 + 1 + 1 + 1 + 1, o5), (L + 1 + 1 + 1 + 1, o4), (L + 1 + 1 + 1, o3), (L + 1 + 1, o2), (L + 1, o1), (101, tabO p1), (108, tabO p2)] → Q .next { s with heap := h', toks := tk }) :
    wpAny (model PG w) A (exec (st 12) (lawEnv L fa cd)) Q (fun _ _ => False) s := by
  obtain ⟨hd0, dp, fr, gd, un⟩ := A
  obtain rfl : hd0 = none := hA.hd
  exact skolem lv0 (fun x => Ss12 x.w x.mean x.mg x.mb x.g x.L x.fa x.cd x.dp x.fr x.gd x.un x.Q x.s x.m x.aT x.aG x.aK x.aTo x.aS x.aD x.o1 x.o2 x.o3 x.o4 x.o5 x.o6 x.o7 x.xT x.xG x.xK x.xTo x.xS x.xD x.nT x.nG x.nK x.nTo x.nS x.nD x.p1 x.p2 x.cs) (by with_unfolding_all exact Ks12.holds) ⟨w, mean, mg, mb, g, L, fa, cd, dp, fr, gd, un, Q, m, s, (Classical.choice lv0).news, (Classical.choice lv0).ls, (Classical.choice lv0).c, (Classical.choice lv0).vs, (Classical.choice lv0).xs, (Classical.choice lv0).its, cs, (Classical.choice lv0).n, (Classical.choice lv0).oc, (Classical.choice lv0).rest, o1, o2, o3, o4, o5, o6, o7, (Classical.choice lv0).d, (Classical.choice lv0).r, aT, aG, aK, aTo, aS, aD, (Classical.choice lv0).it, (Classical.choice lv0).e, (Classical.choice lv0).i, (Classical.choice lv0).nbx, (Classical.choice lv0).tn, (Classical.choice lv0).tk0, (Classical.choice lv0).oI, (Classical.choice lv0).oE, xT, xG, xK, xTo, xS, xD, (Classical.choice lv0).itsbx, nT, nG, nK, nTo, nS, nD, (Classical.choice lv0).nC, (Classical.choice lv0).nr, (Classical.choice lv0).ritems, p1, p2, (Classical.choice lv0).t2, (Classical.choice lv0).t3, (Classical.choice lv0).yT, (Classical.choice lv0).tt, (Classical.choice lv0).tl, (Classical.choice lv0).v, (Classical.choice lv0).tv, (Classical.choice lv0).tm, (Classical.choice lv0).mkS, (Classical.choice lv0).fa', (Classical.choice lv0).fb', (Classical.choice lv0).l, (Classical.choice lv0).mkF, (Classical.choice lv0).bk, (Classical.choice lv0).tw, (Classical.choice lv0).tb, (Classical.choice lv0).td, (Classical.choice lv0).dl, (Classical.choice lv0).aGp, (Classical.choice lv0).nGp, (Classical.choice lv0).xGp, (Classical.choice lv0).r0, (Classical.choice lv0).r1, (Classical.choice lv0).r2, (Classical.choice lv0).r3, (Classical.choice lv0).k0, (Classical.choice lv0).k1, (Classical.choice lv0).k2, (Classical.choice lv0).k3, (Classical.choice lv0).aTb, (Classical.choice lv0).nTb, (Classical.choice lv0).v0, (Classical.choice lv0).v1, (Classical.choice lv0).v2, (Classical.choice lv0).v3, (Classical.choice lv0).aX, (Classical.choice lv0).nX, (Classical.choice lv0).xX, (Classical.choice lv0).ns, (Classical.choice lv0).c0, (Classical.choice lv0).d0, (Classical.choice lv0).tc, (Classical.choice lv0).tf, (Classical.choice lv0).j⟩ hS hA F ms h0 h1 h5 h6 h7 h8 h9 l1 l2 l3 l4 l5 hT hSz N hQ
end
end Mine
end OfA34
section OfA36
open PySem PySem.W PySem.W.X PySem.Calls PyProof.Rows
set_option Elab.async false
set_option maxRecDepth 100000
set_option maxHeartbeats 4000000
set_option pp.maxSteps 3000
namespace Mine
noncomputable section
theorem filled36 : kk.heap_1 = kk.heap_1 ∧ PySem.Challenge.rw_wu0057_01.name = PySem.Challenge.rw_wu0057_01.name := by
  k_fill
  exact ⟨rfl, rfl⟩

local macro_rules | `(tactic| walk_at "eval ListComp") => `(tactic| refine halt ?_)
local macro_rules | `(tactic| walk_at "eval Name") => `(tactic| (k_here; first
  | (refine nm_is "p" ?_; walk_at "nmL")
  | (refine nm_is "givers" ?_; walk_at "nmC")))

local macro_rules | `(tactic| walk_at "call builtin:len ref") => `(tactic| refine halt ?_)
local macro_rules | `(tactic| walk_at "call builtin:len") => `(tactic| refine halt ?_)
noncomputable def Ss18 (w : World) (mean : ExcName → Option Value) (mg : Str → Option Value) (mb : Str → Option Value) (g : Heap) (L : Nat) (fa : Nat) (cd : Value) (dp : Nat) (fr : Option (List Env)) (gd : Option (List Code)) (un : Nat) (Q : Flow → Shared → Prop) (s : Shared) (m : Str → Option Value) (aT : Nat) (aG : Nat) (aK : Nat) (aTo : Nat) (aS : Nat) (aD : Nat) (o1 : Obj) (o2 : Obj) (o3 : Obj) (o4 : Obj) (o5 : Obj) (o6 : Obj) (o7 : Obj) (xT : Array Value) (xG : Array Value) (xK : Array Value) (xTo : Array Value) (xS : Array Value) (xD : Array Value) (nT : Nat) (nG : Nat) (nK : Nat) (nTo : Nat) (nS : Nat) (nD : Nat) (p1 : Array Value) (p2 : Array Value) (aGp : Nat) (nGp : Nat) (xGp : Array Value) (cs : List Int) : Prop := ∀ (hS : St w mean mg mb g) (hA : AOk 59 (Around.mk none dp fr gd un)) (F : Fr g L s.heap m) (h0 : 108 < L) (h1 : L + 1 + 1 + 1 + 1 + 1 + 1 + 1 < aT) (h5 : aT < aG) (h6 : aG < aK) (h7 : aK < aTo) (h8 : aTo < aS) (h9 : aS < aD) (l1 : o1.data = .cell (some (.ref aT))) (l2 : o2.data = .cell (some (.ref aG))) (l3 : o3.data = .cell (some (.ref aK))) (l4 : o4.data = .cell (some (.ref aTo))) (l5 : o5.data = .cell (some (.ref aD))) (hG : IntsAre xG.toList (runP cs 8).G) (N : News g L s.heap [(aGp, W.listOf xGp nGp), (aD, W.listOf xD nD), (aS, W.listOf xS nS), (aTo, W.listOf xTo nTo), (aK, W.listOf xK nK), (aG, W.listOf xG nG), (aT, W.listOf xT nT), (L + 1 + 1 + 1 + 1 + 1 + 1 + 1, o7), (L + 1 + 1 + 1 + 1 + 1 + 1, o6), (L + 1 + 1 + 1 + 1 + 1, o5), (L + 1 + 1 + 1 + 1, o4), (L + 1 + 1 + 1, o3), (L + 1 + 1, o2), (L + 1, o1), (101, tabO p1), (108, tabO p2)]) (hQ : ∀ h' tk t, Fr g L h' (fun y => if y = "front" then some (.int (((runP cs 8).G.filter (fun p => decide (p ≤ 4))).length : Int) t) else m y) → News g L h' [(aGp, W.listOf xGp nGp), (aD, W.listOf xD nD), (aS, W.listOf xS nS), (aTo, W.listOf xTo nTo), (aK, W.listOf xK nK), (aG, W.listOf xG nG), (aT, W.listOf xT nT), (L + 1 + 1 + 1 + 1 + 1 + 1 + 1, o7), (L + 1 + 1 + 1 + 1 + 1 + 1, o6), (L + 1 + 1 + 1 + 1 + 1, o5), (L + 1 + 1 + 1 + 1, o4), (L + 1 + 1 + 1, o3), (L + 1 + 1, o2), (L + 1, o1), (101, tabO p1), (108, tabO p2)] → Q .next { s with heap := h', toks := tk }),
    wpAny (model PG w) (Around.mk none dp fr gd un) (exec (st 18) (lawEnv L fa cd)) Q (fun _ _ => False) s
noncomputable def cs18 : LV := @Classical.epsilon LV lv0 fun x => ¬ Ss18 x.w x.mean x.mg x.mb x.g x.L x.fa x.cd x.dp x.fr x.gd x.un x.Q x.s x.m x.aT x.aG x.aK x.aTo x.aS x.aD x.o1 x.o2 x.o3 x.o4 x.o5 x.o6 x.o7 x.xT x.xG x.xK x.xTo x.xS x.xD x.nT x.nG x.nK x.nTo x.nS x.nD x.p1 x.p2 x.aGp x.nGp x.xGp x.cs
namespace Ks18
@[irreducible] noncomputable def w : World := cs18.w
@[irreducible] noncomputable def mean : ExcName → Option Value := cs18.mean
@[irreducible] noncomputable def mg : Str → Option Value := cs18.mg
@[irreducible] noncomputable def mb : Str → Option Value := cs18.mb
@[irreducible] noncomputable def g : Heap := cs18.g
@[irreducible] noncomputable def L : Nat := cs18.L
@[irreducible] noncomputable def fa : Nat := cs18.fa
@[irreducible] noncomputable def cd : Value := cs18.cd
@[irreducible] noncomputable def dp : Nat := cs18.dp
@[irreducible] noncomputable def fr : Option (List Env) := cs18.fr
@[irreducible] noncomputable def gd : Option (List Code) := cs18.gd
@[irreducible] noncomputable def un : Nat := cs18.un
@[irreducible] noncomputable def Q : Flow → Shared → Prop := cs18.Q
@[irreducible] noncomputable def s : Shared := cs18.s
@[irreducible] noncomputable def m : Str → Option Value := cs18.m
@[irreducible] noncomputable def aT : Nat := cs18.aT
@[irreducible] noncomputable def aG : Nat := cs18.aG
@[irreducible] noncomputable def aK : Nat := cs18.aK
@[irreducible] noncomputable def aTo : Nat := cs18.aTo
@[irreducible] noncomputable def aS : Nat := cs18.aS
@[irreducible] noncomputable def aD : Nat := cs18.aD
@[irreducible] noncomputable def o1 : Obj := cs18.o1
@[irreducible] noncomputable def o2 : Obj := cs18.o2
@[irreducible] noncomputable def o3 : Obj := cs18.o3
@[irreducible] noncomputable def o4 : Obj := cs18.o4
@[irreducible] noncomputable def o5 : Obj := cs18.o5
@[irreducible] noncomputable def o6 : Obj := cs18.o6
@[irreducible] noncomputable def o7 : Obj := cs18.o7
@[irreducible] noncomputable def xT : Array Value := cs18.xT
@[irreducible] noncomputable def xG : Array Value := cs18.xG
@[irreducible] noncomputable def xK : Array Value := cs18.xK
@[irreducible] noncomputable def xTo : Array Value := cs18.xTo
@[irreducible] noncomputable def xS : Array Value := cs18.xS
@[irreducible] noncomputable def xD : Array Value := cs18.xD
@[irreducible] noncomputable def nT : Nat := cs18.nT
@[irreducible] noncomputable def nG : Nat := cs18.nG
@[irreducible] noncomputable def nK : Nat := cs18.nK
@[irreducible] noncomputable def nTo : Nat := cs18.nTo
@[irreducible] noncomputable def nS : Nat := cs18.nS
@[irreducible] noncomputable def nD : Nat := cs18.nD
@[irreducible] noncomputable def p1 : Array Value := cs18.p1
@[irreducible] noncomputable def p2 : Array Value := cs18.p2
@[irreducible] noncomputable def aGp : Nat := cs18.aGp
@[irreducible] noncomputable def nGp : Nat := cs18.nGp
@[irreducible] noncomputable def xGp : Array Value := cs18.xGp
@[irreducible] noncomputable def cs : List Int := cs18.cs
theorem holds : Ss18 w mean mg mb g L fa cd dp fr gd un Q s m aT aG aK aTo aS aD o1 o2 o3 o4 o5 o6 o7 xT xG xK xTo xS xD nT nG nK nTo nS nD p1 p2 aGp nGp xGp cs := by
  intro hS hA F h0 h1 h5 h6 h7 h8 h9 l1 l2 l3 l4 l5 hG N hQ
  have hDec := Dec.cons h9 (.cons h8 (.cons h7 (.cons h6 (.cons h5 (.cons h1 (decL h0))))))
  have X := hS.X
  have T := hS.T
  dsimp only [lawEnv]
  conv in (st 18) => whnf
  conv in (occs := *) (DefRec.scope lawRec) => all_goals whnf
  k_steps
  refine unhalt ?_
  have zG := ints_len hG
  have zGK := run_GK cs 8
  refine comp_listL (runP cs 8).G.length IntR (fun i => leOut 4 ((runP cs 8).G.getD i 0)) rfl (by omega) rfl rfl (by decide) (by intro _; rfl) (by intro _; rfl) (by intro _; rfl) ?_
  k_steps
  rename Fr _ _ _ _ => F1
  rename News _ _ _ _ => N1
  have eG := N1.get (a := aG) (o := W.listOf xG nG) (by k_mem)
  refine unhalt ⟨_, xG, rfl, ⟨_, eG, rfl, nG, rfl⟩, by rw [← zG]; simp, fun gB C H tk m₂ i hi v hv kB FB hm => ?_, fun D h' tk ys hD hp hl hk => ?_⟩
  · have SB : St w mean mg mb gB := (hS.keeps F1.keep).keeps kB
    obtain ⟨y, ey⟩ : ∃ y, (runP cs 8).G.getD i 0 = y := ⟨_, rfl⟩
    obtain ⟨tv, rfl⟩ := ints_at (i := i) hG (v := v) (by rw [Array.getElem?_toList]; exact hv)
    rw [ey] at hm ⊢
    clear N1 F1 X T eG hS
    have X := SB.X
    have T := SB.T
    have N : News gB C H [] := News.nil
    dsimp only [compEnvW, relabel]
    conv in (occs := *) (List.map _ _) => all_goals simp only [List.map_cons, List.map_nil]
    conv in (occs := *) (ite _ _ _) => all_goals whnf

    refine tests_one ?_
    k_steps
    refine unhalt ⟨H, _, rfl, fun _ _ e => e, ?_⟩
    generalize hb : decide (y ≤ 4) = b
    cases b with
    | true =>
      rw [if_pos rfl]
      (try dsimp only)
      k_steps
      refine unhalt ⟨H, _, y, rfl, fun _ _ e => e, ⟨_, rfl⟩, ?_⟩
      unfold leOut
      rw [if_pos (of_decide_eq_true hb)]
    | false =>
      rw [if_neg (by decide)]
      unfold leOut
      rw [if_neg (of_decide_eq_false hb)]
  · obtain ⟨F9, n9, N9, lt9⟩ := list_new F1 N1 hD hl hk
    have hp' := ints_of_paired hp
    rw [leOut_all] at hp'
    have zy := ints_len hp'
    have zf := List.length_filter_le (fun p => decide (p ≤ 4)) (runP cs 8).G
    clear F1 N1 eG
    (try dsimp only)
    k_steps
    refine unhalt ?_
    refine len_led (s := ⟨_, _, _, _, _⟩) N9 (.head _) (by rw [List.size_toArray]; omega) ?_
    rw [List.size_toArray, zy]
    have N10 : News g L h' [(aGp, W.listOf xGp nGp), (aD, W.listOf xD nD), (aS, W.listOf xS nS), (aTo, W.listOf xTo nTo), (aK, W.listOf xK nK), (aG, W.listOf xG nG), (aT, W.listOf xT nT), (L + 1 + 1 + 1 + 1 + 1 + 1 + 1, o7), (L + 1 + 1 + 1 + 1 + 1 + 1, o6), (L + 1 + 1 + 1 + 1 + 1, o5), (L + 1 + 1 + 1 + 1, o4), (L + 1 + 1 + 1, o3), (L + 1 + 1, o2), (L + 1, o1), (101, tabO p1), (108, tabO p2)] := news_sub N9 fun p hp => List.mem_cons_of_mem _ hp
    clear N9
    (try dsimp only)
    k_steps
    exact hQ _ _ _ (by assumption) (by assumption)
end Ks18
theorem s18 {w : World} {mean : ExcName → Option Value} {mg mb : Str → Option Value} {g : Heap} {L fa : Nat} {cd : Value} {A : Around} {Q : Flow → Shared → Prop} {s : Shared} {m : Str → Option Value}
    {aT aG aK aTo aS aD : Nat} {o1 o2 o3 o4 o5 o6 o7 : Obj} {xT xG xK xTo xS xD : Array Value} {nT nG nK nTo nS nD : Nat} {p1 p2 : Array Value} {aGp nGp : Nat} {xGp : Array Value}
    (hS : St w mean mg mb g) (hA : AOk 59 A) (F : Fr g L s.heap m) (h0 : 108 < L) (h1 : L + 1 + 1 + 1 + 1 + 1 + 1 + 1 < aT) (h5 : aT < aG) (h6 : aG < aK) (h7 : aK < aTo) (h8 : aTo < aS) (h9 : aS < aD) (l1 : o1.data = .cell (some (.ref aT))) (l2 : o2.data = .cell (some (.ref aG))) (l3 : o3.data = .cell (some (.ref aK))) (l4 : o4.data = .cell (some (.ref aTo))) (l5 : o5.data = .cell (some (.ref aD)))
    {cs : List Int} (hG : IntsAre xG.toList (runP cs 8).G) (N : News g L s.heap [(aGp, W.listOf xGp nGp), (aD, W.listOf xD nD), (aS, W.listOf xS nS), (aTo, W.listOf xTo nTo), (aK, W.listOf xK nK), (aG, W.listOf xG nG), (aT, W.listOf xT nT), (L + 1 + 1 + 1 + 1 + 1 + 1 + 1, o7), (L + 1 + 1 + 1 + 1 + 1 + 1, o6), (L + 1 + 1 + 1 + 1 + 1, o5), (L + 1 + 1 + 1 + 1, o4), (L + 1 + 1 + 1, o3), (L + 1 + 1, o2), (L + 1, o1), (101, tabO p1), (108, tabO p2)])
    (hQ : ∀ h' tk t, Fr g L h' (fun y => if y = "front" then some (.int (((runP cs 8).G.filter (fun p => decide (p ≤ 4))).length : Int) t) else m y) → News g L h' [(aGp, W.listOf xGp nGp), (aD, W.listOf xD nD), (aS, W.listOf xS nS), (aTo, W.listOf xTo nTo), (aK, W.listOf xK nK), (aG, W.listOf xG nG), (aT, W.listOf xT nT), (L + 1 + 1 + 1 + 1 + 1 + 1 + 1, o7), (L + 1 + 1 + 1 + 1 + 1 + 1, o6), (L + 1 + 1 + 1 + 1 + 1, o5), (L + 1 + 1 + 1 + 1, o4), (L + 1 + 1 + 1, o3), (L + 1 + 1, o2), (L + 1, o1), (101, tabO p1), (108, tabO p2)] → Q .next { s with heap := h', toks := tk }) :
    wpAny (model PG w) A (exec (st 18) (lawEnv L fa cd)) Q (fun _ _ => False) s := by
  obtain ⟨hd0, dp, fr, gd, un⟩ := A
  obtain rfl : hd0 = none := hA.hd
  exact skolem lv0 (fun x => Ss18 x.w x.mean x.mg x.mb x.g x.L x.fa x.cd x.dp x.fr x.gd x.un x.Q x.s x.m x.aT x.aG x.aK x.aTo x.aS x.aD x.o1 x.o2 x.o3 x.o4 x.o5 x.o6 x.o7 x.xT x.xG x.xK x.xTo x.xS x.xD x.nT x.nG x.nK x.nTo x.nS x.nD x.p1 x.p2 x.aGp x.nGp x.xGp x.cs) (by with_unfolding_all exact Ks18.holds) ⟨w, mean, mg, mb, g, L, fa, cd, dp, fr, gd, un, Q, m, s, (Classical.choice lv0).news, (Classical.choice lv0).ls, (Classical.choice lv0).c, (Classical.choice lv0).vs, (Classical.choice lv0).xs, (Classical.choice lv0).its, cs, (Classical.choice lv0).n, (Classical.choice lv0).oc, (Classical.choice lv0).rest, o1, o2, o3, o4, o5, o6, o7, (Classical.choice lv0).d, (Classical.choice lv0).r, aT, aG, aK, aTo, aS, aD, (Classical.choice lv0).it, (Classical.choice lv0).e, (Classical.choice lv0).i, (Classical.choice lv0).nbx, (Classical.choice lv0).tn, (Classical.choice lv0).tk0, (Classical.choice lv0).oI, (Classical.choice lv0).oE, xT, xG, xK, xTo, xS, xD, (Classical.choice lv0).itsbx, nT, nG, nK, nTo, nS, nD, (Classical.choice lv0).nC, (Classical.choice lv0).nr, (Classical.choice lv0).ritems, p1, p2, (Classical.choice lv0).t2, (Classical.choice lv0).t3, (Classical.choice lv0).yT, (Classical.choice lv0).tt, (Classical.choice lv0).tl, (Classical.choice lv0).v, (Classical.choice lv0).tv, (Classical.choice lv0).tm, (Classical.choice lv0).mkS, (Classical.choice lv0).fa', (Classical.choice lv0).fb', (Classical.choice lv0).l, (Classical.choice lv0).mkF, (Classical.choice lv0).bk, (Classical.choice lv0).tw, (Classical.choice lv0).tb, (Classical.choice lv0).td, (Classical.choice lv0).dl, aGp, nGp, xGp, (Classical.choice lv0).r0, (Classical.choice lv0).r1, (Classical.choice lv0).r2, (Classical.choice lv0).r3, (Classical.choice lv0).k0, (Classical.choice lv0).k1, (Classical.choice lv0).k2, (Classical.choice lv0).k3, (Classical.choice lv0).aTb, (Classical.choice lv0).nTb, (Classical.choice lv0).v0, (Classical.choice lv0).v1, (Classical.choice lv0).v2, (Classical.choice lv0).v3, (Classical.choice lv0).aX, (Classical.choice lv0).nX, (Classical.choice lv0).xX, (Classical.choice lv0).ns, (Classical.choice lv0).c0, (Classical.choice lv0).d0, (Classical.choice lv0).tc, (Classical.choice lv0).tf, (Classical.choice lv0).j⟩ hS hA F h0 h1 h5 h6 h7 h8 h9 l1 l2 l3 l4 l5 hG N hQ
end
end Mine
end OfA36
section OfA37cheap
open PySem PySem.W PySem.W.X PySem.Calls PyProof.Rows
set_option Elab.async false
set_option maxRecDepth 100000
set_option maxHeartbeats 4000000
set_option pp.maxSteps 3000
namespace Mine
noncomputable section
theorem filled37cheap : kk.heap_1 = kk.heap_1 ∧ PySem.Challenge.rw_wu0057_01.name = PySem.Challenge.rw_wu0057_01.name := by
  k_fill
  exact ⟨rfl, rfl⟩

local macro_rules | `(tactic| walk_at "eval ListComp") => `(tactic| refine halt ?_)
local macro_rules | `(tactic| walk_at "subscriptTail") => `(tactic| refine halt ?_)
local macro_rules | `(tactic| walk_at "call builtin:sum") => `(tactic| refine halt ?_)
local macro_rules | `(tactic| walk_at "call builtin:min") => `(tactic| refine halt ?_)
local macro_rules | `(tactic| walk_at "eval Name") => `(tactic| (k_here; first
  | (refine nm_is "k" ?_; walk_at "nmL")
  | (refine nm_is "gaps" ?_; walk_at "nmC")
  | (refine nm_is "depths" ?_; walk_at "nmC")
  | (refine nm_is "abs" ?_; walk_at "nmB")
  | (refine nm_is "min" ?_; walk_at "nmB")))

noncomputable def Ss14 (w : World) (mean : ExcName → Option Value) (mg : Str → Option Value) (mb : Str → Option Value) (g : Heap) (L : Nat) (fa : Nat) (cd : Value) (dp : Nat) (fr : Option (List Env)) (gd : Option (List Code)) (un : Nat) (Q : Flow → Shared → Prop) (s : Shared) (m : Str → Option Value) (aT : Nat) (aG : Nat) (aK : Nat) (aTo : Nat) (aS : Nat) (aD : Nat) (o1 : Obj) (o2 : Obj) (o3 : Obj) (o4 : Obj) (o5 : Obj) (o6 : Obj) (o7 : Obj) (xT : Array Value) (xG : Array Value) (xK : Array Value) (xTo : Array Value) (xS : Array Value) (xD : Array Value) (nT : Nat) (nG : Nat) (nK : Nat) (nTo : Nat) (nS : Nat) (nD : Nat) (p1 : Array Value) (p2 : Array Value) (aGp : Nat) (nGp : Nat) (xGp : Array Value) (cs : List Int) : Prop := ∀ (hS : St w mean mg mb g) (hA : AOk 59 (Around.mk none dp fr gd un)) (F : Fr g L s.heap m) (h0 : 108 < L) (h1 : L + 1 + 1 + 1 + 1 + 1 + 1 + 1 < aT) (h5 : aT < aG) (h6 : aG < aK) (h7 : aK < aTo) (h8 : aTo < aS) (h9 : aS < aD) (l1 : o1.data = .cell (some (.ref aT))) (l2 : o2.data = .cell (some (.ref aG))) (l3 : o3.data = .cell (some (.ref aK))) (l4 : o4.data = .cell (some (.ref aTo))) (l5 : o5.data = .cell (some (.ref aD))) (l6 : o6.data = .cell (some (.ref aGp))) (hD : IntsAre xD.toList (runP cs 8).deps) (hGp : IntsAre xGp.toList ((List.range 8).map (gapI cs))) (N : News g L s.heap [(aGp, W.listOf xGp nGp), (aD, W.listOf xD nD), (aS, W.listOf xS nS), (aTo, W.listOf xTo nTo), (aK, W.listOf xK nK), (aG, W.listOf xG nG), (aT, W.listOf xT nT), (L + 1 + 1 + 1 + 1 + 1 + 1 + 1, o7), (L + 1 + 1 + 1 + 1 + 1 + 1, o6), (L + 1 + 1 + 1 + 1 + 1, o5), (L + 1 + 1 + 1 + 1, o4), (L + 1 + 1 + 1, o3), (L + 1 + 1, o2), (L + 1, o1), (101, tabO p1), (108, tabO p2)]) (hQ : ∀ h' tk t, Fr g L h' (fun y => if y = "cheap" then some (.int (cheapI cs) t) else m y) → News g L h' [(aGp, W.listOf xGp nGp), (aD, W.listOf xD nD), (aS, W.listOf xS nS), (aTo, W.listOf xTo nTo), (aK, W.listOf xK nK), (aG, W.listOf xG nG), (aT, W.listOf xT nT), (L + 1 + 1 + 1 + 1 + 1 + 1 + 1, o7), (L + 1 + 1 + 1 + 1 + 1 + 1, o6), (L + 1 + 1 + 1 + 1 + 1, o5), (L + 1 + 1 + 1 + 1, o4), (L + 1 + 1 + 1, o3), (L + 1 + 1, o2), (L + 1, o1), (101, tabO p1), (108, tabO p2)] → Q .next { s with heap := h', toks := tk }),
    wpAny (model PG w) (Around.mk none dp fr gd un) (exec (st 14) (lawEnv L fa cd)) Q (fun _ _ => False) s
noncomputable def cs14 : LV := @Classical.epsilon LV lv0 fun x => ¬ Ss14 x.w x.mean x.mg x.mb x.g x.L x.fa x.cd x.dp x.fr x.gd x.un x.Q x.s x.m x.aT x.aG x.aK x.aTo x.aS x.aD x.o1 x.o2 x.o3 x.o4 x.o5 x.o6 x.o7 x.xT x.xG x.xK x.xTo x.xS x.xD x.nT x.nG x.nK x.nTo x.nS x.nD x.p1 x.p2 x.aGp x.nGp x.xGp x.cs
namespace Ks14
@[irreducible] noncomputable def w : World := cs14.w
@[irreducible] noncomputable def mean : ExcName → Option Value := cs14.mean
@[irreducible] noncomputable def mg : Str → Option Value := cs14.mg
@[irreducible] noncomputable def mb : Str → Option Value := cs14.mb
@[irreducible] noncomputable def g : Heap := cs14.g
@[irreducible] noncomputable def L : Nat := cs14.L
@[irreducible] noncomputable def fa : Nat := cs14.fa
@[irreducible] noncomputable def cd : Value := cs14.cd
@[irreducible] noncomputable def dp : Nat := cs14.dp
@[irreducible] noncomputable def fr : Option (List Env) := cs14.fr
@[irreducible] noncomputable def gd : Option (List Code) := cs14.gd
@[irreducible] noncomputable def un : Nat := cs14.un
@[irreducible] noncomputable def Q : Flow → Shared → Prop := cs14.Q
@[irreducible] noncomputable def s : Shared := cs14.s
@[irreducible] noncomputable def m : Str → Option Value := cs14.m
@[irreducible] noncomputable def aT : Nat := cs14.aT
@[irreducible] noncomputable def aG : Nat := cs14.aG
@[irreducible] noncomputable def aK : Nat := cs14.aK
@[irreducible] noncomputable def aTo : Nat := cs14.aTo
@[irreducible] noncomputable def aS : Nat := cs14.aS
@[irreducible] noncomputable def aD : Nat := cs14.aD
@[irreducible] noncomputable def o1 : Obj := cs14.o1
@[irreducible] noncomputable def o2 : Obj := cs14.o2
@[irreducible] noncomputable def o3 : Obj := cs14.o3
@[irreducible] noncomputable def o4 : Obj := cs14.o4
@[irreducible] noncomputable def o5 : Obj := cs14.o5
@[irreducible] noncomputable def o6 : Obj := cs14.o6
@[irreducible] noncomputable def o7 : Obj := cs14.o7
@[irreducible] noncomputable def xT : Array Value := cs14.xT
@[irreducible] noncomputable def xG : Array Value := cs14.xG
@[irreducible] noncomputable def xK : Array Value := cs14.xK
@[irreducible] noncomputable def xTo : Array Value := cs14.xTo
@[irreducible] noncomputable def xS : Array Value := cs14.xS
@[irreducible] noncomputable def xD : Array Value := cs14.xD
@[irreducible] noncomputable def nT : Nat := cs14.nT
@[irreducible] noncomputable def nG : Nat := cs14.nG
@[irreducible] noncomputable def nK : Nat := cs14.nK
@[irreducible] noncomputable def nTo : Nat := cs14.nTo
@[irreducible] noncomputable def nS : Nat := cs14.nS
@[irreducible] noncomputable def nD : Nat := cs14.nD
@[irreducible] noncomputable def p1 : Array Value := cs14.p1
@[irreducible] noncomputable def p2 : Array Value := cs14.p2
@[irreducible] noncomputable def aGp : Nat := cs14.aGp
@[irreducible] noncomputable def nGp : Nat := cs14.nGp
@[irreducible] noncomputable def xGp : Array Value := cs14.xGp
@[irreducible] noncomputable def cs : List Int := cs14.cs
theorem holds : Ss14 w mean mg mb g L fa cd dp fr gd un Q s m aT aG aK aTo aS aD o1 o2 o3 o4 o5 o6 o7 xT xG xK xTo xS xD nT nG nK nTo nS nD p1 p2 aGp nGp xGp cs := by
  intro hS hA F h0 h1 h5 h6 h7 h8 h9 l1 l2 l3 l4 l5 l6 hD hGp N hQ
  have hDec := Dec.cons h9 (.cons h8 (.cons h7 (.cons h6 (.cons h5 (.cons h1 (decL h0))))))
  have X := hS.X
  have T := hS.T
  dsimp only [lawEnv]
  conv in (st 14) => whnf
  conv in (occs := *) (DefRec.scope lawRec) => all_goals whnf
  k_steps
  refine unhalt ?_
  refine comp_rangeL 7 IntR (fun i => [cheapAt cs i]) rfl (by decide) rfl rfl (by decide) (by intro _; rfl) (by intro _; rfl) (by intro _; rfl) ?_
  k_steps
  rename Fr _ _ _ _ => F1
  rename News _ _ _ _ => N1
  have eGp := N1.get (a := aGp) (o := W.listOf xGp nGp) (.head _)
  have eD := N1.get (a := aD) (o := W.listOf xD nD) (by k_mem)
  have e5 := N1.get (a := L + 1 + 1 + 1 + 1 + 1) (o := o5) (by k_mem)
  have e6 := N1.get (a := L + 1 + 1 + 1 + 1 + 1 + 1) (o := o6) (by k_mem)
  rename IsRange _ _ _ _ _ _ _ _ => hRg
  refine unhalt ⟨_, 1, 8, _, _, _, rfl, hRg, by decide, ⟨by decide, by decide⟩, fun gB C H tk m₂ i hi t kB FB hm => ?_, fun D h' tk ys hD' hp hl hk => ?_⟩
  · have SB : St w mean mg mb gB := (hS.keeps F1.keep).keeps kB
    have bGp := kB _ _ eGp
    have bD := kB _ _ eD
    have b5 := kB _ _ e5
    have b6 := kB _ _ e6
    clear N1 F1 X T eGp eD e5 e6 hS hRg
    have X := SB.X
    have T := SB.T
    have N : News gB C H [] := News.nil
    obtain ⟨t1, g1⟩ := gap_at hGp (i + 1) (by omega)
    obtain ⟨t2, g2⟩ := dep_at hD (i + 1) (by omega)
    have b1 := gap_bound cs (i + 1)
    have b2 := dep_bound cs (i + 1) (by omega)
    refine tests_nil ⟨H, tk, rfl, fun _ _ e => e, ?_⟩
    rw [if_pos rfl]
    dsimp only [compEnvW, relabel]
    conv in (occs := *) (List.map _ _) => all_goals simp only [List.map_cons, List.map_nil]
    conv in (occs := *) (ite _ _ _) => all_goals whnf

    k_steps
    refine unhalt ?_
    refine base_sub (s := ⟨_, _, _, _, _⟩) FB bGp g1 (by push_cast; omega) (by omega) ?_
    (try dsimp only)
    k_steps
    refine unhalt ?_
    refine base_sub (s := ⟨_, _, _, _, _⟩) FB bD g2 (by push_cast; omega) (by omega) ?_
    (try dsimp only)
    k_steps
    refine unhalt ⟨H, _, _, rfl, fun _ _ e => e, ⟨_, rfl⟩, rfl⟩
  · obtain ⟨F9, n9, N9, lt9⟩ := list_new F1 N1 hD' hl hk
    have hp' := ints_of_paired hp
    rw [fm1] at hp'
    have eDD := N9.get (a := D) (o := W.listOf ys.toArray n9) (.head _)
    have N10 : News g L h' [(aGp, W.listOf xGp nGp), (aD, W.listOf xD nD), (aS, W.listOf xS nS), (aTo, W.listOf xTo nTo), (aK, W.listOf xK nK), (aG, W.listOf xG nG), (aT, W.listOf xT nT), (L + 1 + 1 + 1 + 1 + 1 + 1 + 1, o7), (L + 1 + 1 + 1 + 1 + 1 + 1, o6), (L + 1 + 1 + 1 + 1 + 1, o5), (L + 1 + 1 + 1 + 1, o4), (L + 1 + 1 + 1, o3), (L + 1 + 1, o2), (L + 1, o1), (101, tabO p1), (108, tabO p2)] := news_sub N9 fun p hp => List.mem_cons_of_mem _ hp
    clear N9 F1 N1
    (try dsimp only)
    k_steps
    refine unhalt ?_
    refine LSm.sum_ints (s := ⟨_, _, _, _, _⟩) F9 N10 rfl ⟨_, eDD, rfl, _, rfl⟩ hp' fun h5 tk5 t5 F5 N5 => ?_
    clear F9 N10 eDD
    (try dsimp only)
    k_steps
    exact hQ _ _ _ (by assumption) (by assumption)
end Ks14
theorem s14 {w : World} {mean : ExcName → Option Value} {mg mb : Str → Option Value} {g : Heap} {L fa : Nat} {cd : Value} {A : Around} {Q : Flow → Shared → Prop} {s : Shared} {m : Str → Option Value}
    {aT aG aK aTo aS aD : Nat} {o1 o2 o3 o4 o5 o6 o7 : Obj} {xT xG xK xTo xS xD : Array Value} {nT nG nK nTo nS nD : Nat} {p1 p2 : Array Value} {aGp nGp : Nat} {xGp : Array Value}
    (hS : St w mean mg mb g) (hA : AOk 59 A) (F : Fr g L s.heap m) (h0 : 108 < L) (h1 : L + 1 + 1 + 1 + 1 + 1 + 1 + 1 < aT) (h5 : aT < aG) (h6 : aG < aK) (h7 : aK < aTo) (h8 : aTo < aS) (h9 : aS < aD) (l1 : o1.data = .cell (some (.ref aT))) (l2 : o2.data = .cell (some (.ref aG))) (l3 : o3.data = .cell (some (.ref aK))) (l4 : o4.data = .cell (some (.ref aTo))) (l5 : o5.data = .cell (some (.ref aD))) (l6 : o6.data = .cell (some (.ref aGp)))
    {cs : List Int} (hD : IntsAre xD.toList (runP cs 8).deps) (hGp : IntsAre xGp.toList ((List.range 8).map (gapI cs))) (N : News g L s.heap [(aGp, W.listOf xGp nGp), (aD, W.listOf xD nD), (aS, W.listOf xS nS), (aTo, W.listOf xTo nTo), (aK, W.listOf xK nK), (aG, W.listOf xG nG), (aT, W.listOf xT nT), (L + 1 + 1 + 1 + 1 + 1 + 1 + 1, o7), (L + 1 + 1 + 1 + 1 + 1 + 1, o6), (L + 1 + 1 + 1 + 1 + 1, o5), (L + 1 + 1 + 1 + 1, o4), (L + 1 + 1 + 1, o3), (L + 1 + 1, o2), (L + 1, o1), (101, tabO p1), (108, tabO p2)])
    (hQ : ∀ h' tk t, Fr g L h' (fun y => if y = "cheap" then some (.int (cheapI cs) t) else m y) → News g L h' [(aGp, W.listOf xGp nGp), (aD, W.listOf xD nD), (aS, W.listOf xS nS), (aTo, W.listOf xTo nTo), (aK, W.listOf xK nK), (aG, W.listOf xG nG), (aT, W.listOf xT nT), (L + 1 + 1 + 1 + 1 + 1 + 1 + 1, o7), (L + 1 + 1 + 1 + 1 + 1 + 1, o6), (L + 1 + 1 + 1 + 1 + 1, o5), (L + 1 + 1 + 1 + 1, o4), (L + 1 + 1 + 1, o3), (L + 1 + 1, o2), (L + 1, o1), (101, tabO p1), (108, tabO p2)] → Q .next { s with heap := h', toks := tk }) :
    wpAny (model PG w) A (exec (st 14) (lawEnv L fa cd)) Q (fun _ _ => False) s := by
  obtain ⟨hd0, dp, fr, gd, un⟩ := A
  obtain rfl : hd0 = none := hA.hd
  exact skolem lv0 (fun x => Ss14 x.w x.mean x.mg x.mb x.g x.L x.fa x.cd x.dp x.fr x.gd x.un x.Q x.s x.m x.aT x.aG x.aK x.aTo x.aS x.aD x.o1 x.o2 x.o3 x.o4 x.o5 x.o6 x.o7 x.xT x.xG x.xK x.xTo x.xS x.xD x.nT x.nG x.nK x.nTo x.nS x.nD x.p1 x.p2 x.aGp x.nGp x.xGp x.cs) (by with_unfolding_all exact Ks14.holds) ⟨w, mean, mg, mb, g, L, fa, cd, dp, fr, gd, un, Q, m, s, (Classical.choice lv0).news, (Classical.choice lv0).ls, (Classical.choice lv0).c, (Classical.choice lv0).vs, (Classical.choice lv0).xs, (Classical.choice lv0).its, cs, (Classical.choice lv0).n, (Classical.choice lv0).oc, (Classical.choice lv0).rest, o1, o2, o3, o4, o5, o6, o7, (Classical.choice lv0).d, (Classical.choice lv0).r, aT, aG, aK, aTo, aS, aD, (Classical.choice lv0).it, (Classical.choice lv0).e, (Classical.choice lv0).i, (Classical.choice lv0).nbx, (Classical.choice lv0).tn, (Classical.choice lv0).tk0, (Classical.choice lv0).oI, (Classical.choice lv0).oE, xT, xG, xK, xTo, xS, xD, (Classical.choice lv0).itsbx, nT, nG, nK, nTo, nS, nD, (Classical.choice lv0).nC, (Classical.choice lv0).nr, (Classical.choice lv0).ritems, p1, p2, (Classical.choice lv0).t2, (Classical.choice lv0).t3, (Classical.choice lv0).yT, (Classical.choice lv0).tt, (Classical.choice lv0).tl, (Classical.choice lv0).v, (Classical.choice lv0).tv, (Classical.choice lv0).tm, (Classical.choice lv0).mkS, (Classical.choice lv0).fa', (Classical.choice lv0).fb', (Classical.choice lv0).l, (Classical.choice lv0).mkF, (Classical.choice lv0).bk, (Classical.choice lv0).tw, (Classical.choice lv0).tb, (Classical.choice lv0).td, (Classical.choice lv0).dl, aGp, nGp, xGp, (Classical.choice lv0).r0, (Classical.choice lv0).r1, (Classical.choice lv0).r2, (Classical.choice lv0).r3, (Classical.choice lv0).k0, (Classical.choice lv0).k1, (Classical.choice lv0).k2, (Classical.choice lv0).k3, (Classical.choice lv0).aTb, (Classical.choice lv0).nTb, (Classical.choice lv0).v0, (Classical.choice lv0).v1, (Classical.choice lv0).v2, (Classical.choice lv0).v3, (Classical.choice lv0).aX, (Classical.choice lv0).nX, (Classical.choice lv0).xX, (Classical.choice lv0).ns, (Classical.choice lv0).c0, (Classical.choice lv0).d0, (Classical.choice lv0).tc, (Classical.choice lv0).tf, (Classical.choice lv0).j⟩ hS hA F h0 h1 h5 h6 h7 h8 h9 l1 l2 l3 l4 l5 l6 hD hGp N hQ
end
end Mine
end OfA37cheap
section OfA37dear
open PySem PySem.W PySem.W.X PySem.Calls PyProof.Rows
set_option Elab.async false
set_option maxRecDepth 100000
set_option maxHeartbeats 4000000
set_option pp.maxSteps 3000
namespace Mine
noncomputable section
theorem filled37dear : kk.heap_1 = kk.heap_1 ∧ PySem.Challenge.rw_wu0057_01.name = PySem.Challenge.rw_wu0057_01.name := by
  k_fill
  exact ⟨rfl, rfl⟩

local macro_rules | `(tactic| walk_at "pad") => `(tactic| skip)
local macro_rules | `(tactic| walk_at "eval ListComp") => `(tactic| refine halt ?_)
local macro_rules | `(tactic| walk_at "subscriptTail") => `(tactic| refine halt ?_)
local macro_rules | `(tactic| walk_at "call builtin:sum") => `(tactic| refine halt ?_)
local macro_rules | `(tactic| walk_at "call builtin:min") => `(tactic| refine halt ?_)
local macro_rules | `(tactic| walk_at "eval Name") => `(tactic| (k_here; first
  | (refine nm_is "k" ?_; walk_at "nmL")
  | (refine nm_is "gaps" ?_; walk_at "nmC")
  | (refine nm_is "depths" ?_; walk_at "nmC")
  | (refine nm_is "abs" ?_; walk_at "nmB")
  | (refine nm_is "min" ?_; walk_at "nmB")))

noncomputable def Ss15 (w : World) (mean : ExcName → Option Value) (mg : Str → Option Value) (mb : Str → Option Value) (g : Heap) (L : Nat) (fa : Nat) (cd : Value) (dp : Nat) (fr : Option (List Env)) (gd : Option (List Code)) (un : Nat) (Q : Flow → Shared → Prop) (s : Shared) (m : Str → Option Value) (aT : Nat) (aG : Nat) (aK : Nat) (aTo : Nat) (aS : Nat) (aD : Nat) (o1 : Obj) (o2 : Obj) (o3 : Obj) (o4 : Obj) (o5 : Obj) (o6 : Obj) (o7 : Obj) (xT : Array Value) (xG : Array Value) (xK : Array Value) (xTo : Array Value) (xS : Array Value) (xD : Array Value) (nT : Nat) (nG : Nat) (nK : Nat) (nTo : Nat) (nS : Nat) (nD : Nat) (p1 : Array Value) (p2 : Array Value) (aGp : Nat) (nGp : Nat) (xGp : Array Value) (cs : List Int) : Prop := ∀ (hS : St w mean mg mb g) (hA : AOk 59 (Around.mk none dp fr gd un)) (F : Fr g L s.heap m) (h0 : 108 < L) (h1 : L + 1 + 1 + 1 + 1 + 1 + 1 + 1 < aT) (h5 : aT < aG) (h6 : aG < aK) (h7 : aK < aTo) (h8 : aTo < aS) (h9 : aS < aD) (l1 : o1.data = .cell (some (.ref aT))) (l2 : o2.data = .cell (some (.ref aG))) (l3 : o3.data = .cell (some (.ref aK))) (l4 : o4.data = .cell (some (.ref aTo))) (l5 : o5.data = .cell (some (.ref aD))) (l6 : o6.data = .cell (some (.ref aGp))) (hD : IntsAre xD.toList (runP cs 8).deps) (hGp : IntsAre xGp.toList ((List.range 8).map (gapI cs))) (N : News g L s.heap [(aGp, W.listOf xGp nGp), (aD, W.listOf xD nD), (aS, W.listOf xS nS), (aTo, W.listOf xTo nTo), (aK, W.listOf xK nK), (aG, W.listOf xG nG), (aT, W.listOf xT nT), (L + 1 + 1 + 1 + 1 + 1 + 1 + 1, o7), (L + 1 + 1 + 1 + 1 + 1 + 1, o6), (L + 1 + 1 + 1 + 1 + 1, o5), (L + 1 + 1 + 1 + 1, o4), (L + 1 + 1 + 1, o3), (L + 1 + 1, o2), (L + 1, o1), (101, tabO p1), (108, tabO p2)]) (hQ : ∀ h' tk t, Fr g L h' (fun y => if y = "dear" then some (.int (dearI cs) t) else m y) → News g L h' [(aGp, W.listOf xGp nGp), (aD, W.listOf xD nD), (aS, W.listOf xS nS), (aTo, W.listOf xTo nTo), (aK, W.listOf xK nK), (aG, W.listOf xG nG), (aT, W.listOf xT nT), (L + 1 + 1 + 1 + 1 + 1 + 1 + 1, o7), (L + 1 + 1 + 1 + 1 + 1 + 1, o6), (L + 1 + 1 + 1 + 1 + 1, o5), (L + 1 + 1 + 1 + 1, o4), (L + 1 + 1 + 1, o3), (L + 1 + 1, o2), (L + 1, o1), (101, tabO p1), (108, tabO p2)] → Q .next { s with heap := h', toks := tk }),
    wpAny (model PG w) (Around.mk none dp fr gd un) (exec (st 15) (lawEnv L fa cd)) Q (fun _ _ => False) s
noncomputable def cs15 : LV := @Classical.epsilon LV lv0 fun x => ¬ Ss15 x.w x.mean x.mg x.mb x.g x.L x.fa x.cd x.dp x.fr x.gd x.un x.Q x.s x.m x.aT x.aG x.aK x.aTo x.aS x.aD x.o1 x.o2 x.o3 x.o4 x.o5 x.o6 x.o7 x.xT x.xG x.xK x.xTo x.xS x.xD x.nT x.nG x.nK x.nTo x.nS x.nD x.p1 x.p2 x.aGp x.nGp x.xGp x.cs
namespace Ks15
@[irreducible] noncomputable def w : World := cs15.w
@[irreducible] noncomputable def mean : ExcName → Option Value := cs15.mean
@[irreducible] noncomputable def mg : Str → Option Value := cs15.mg
@[irreducible] noncomputable def mb : Str → Option Value := cs15.mb
@[irreducible] noncomputable def g : Heap := cs15.g
@[irreducible] noncomputable def L : Nat := cs15.L
@[irreducible] noncomputable def fa : Nat := cs15.fa
@[irreducible] noncomputable def cd : Value := cs15.cd
@[irreducible] noncomputable def dp : Nat := cs15.dp
@[irreducible] noncomputable def fr : Option (List Env) := cs15.fr
@[irreducible] noncomputable def gd : Option (List Code) := cs15.gd
@[irreducible] noncomputable def un : Nat := cs15.un
@[irreducible] noncomputable def Q : Flow → Shared → Prop := cs15.Q
@[irreducible] noncomputable def s : Shared := cs15.s
@[irreducible] noncomputable def m : Str → Option Value := cs15.m
@[irreducible] noncomputable def aT : Nat := cs15.aT
@[irreducible] noncomputable def aG : Nat := cs15.aG
@[irreducible] noncomputable def aK : Nat := cs15.aK
@[irreducible] noncomputable def aTo : Nat := cs15.aTo
@[irreducible] noncomputable def aS : Nat := cs15.aS
@[irreducible] noncomputable def aD : Nat := cs15.aD
@[irreducible] noncomputable def o1 : Obj := cs15.o1
@[irreducible] noncomputable def o2 : Obj := cs15.o2
@[irreducible] noncomputable def o3 : Obj := cs15.o3
@[irreducible] noncomputable def o4 : Obj := cs15.o4
@[irreducible] noncomputable def o5 : Obj := cs15.o5
@[irreducible] noncomputable def o6 : Obj := cs15.o6
@[irreducible] noncomputable def o7 : Obj := cs15.o7
@[irreducible] noncomputable def xT : Array Value := cs15.xT
@[irreducible] noncomputable def xG : Array Value := cs15.xG
@[irreducible] noncomputable def xK : Array Value := cs15.xK
@[irreducible] noncomputable def xTo : Array Value := cs15.xTo
@[irreducible] noncomputable def xS : Array Value := cs15.xS
@[irreducible] noncomputable def xD : Array Value := cs15.xD
@[irreducible] noncomputable def nT : Nat := cs15.nT
@[irreducible] noncomputable def nG : Nat := cs15.nG
@[irreducible] noncomputable def nK : Nat := cs15.nK
@[irreducible] noncomputable def nTo : Nat := cs15.nTo
@[irreducible] noncomputable def nS : Nat := cs15.nS
@[irreducible] noncomputable def nD : Nat := cs15.nD
@[irreducible] noncomputable def p1 : Array Value := cs15.p1
@[irreducible] noncomputable def p2 : Array Value := cs15.p2
@[irreducible] noncomputable def aGp : Nat := cs15.aGp
@[irreducible] noncomputable def nGp : Nat := cs15.nGp
@[irreducible] noncomputable def xGp : Array Value := cs15.xGp
@[irreducible] noncomputable def cs : List Int := cs15.cs
theorem holds : Ss15 w mean mg mb g L fa cd dp fr gd un Q s m aT aG aK aTo aS aD o1 o2 o3 o4 o5 o6 o7 xT xG xK xTo xS xD nT nG nK nTo nS nD p1 p2 aGp nGp xGp cs := by
  intro hS hA F h0 h1 h5 h6 h7 h8 h9 l1 l2 l3 l4 l5 l6 hD hGp N hQ
  have hDec := Dec.cons h9 (.cons h8 (.cons h7 (.cons h6 (.cons h5 (.cons h1 (decL h0))))))
  have X := hS.X
  have T := hS.T
  dsimp only [lawEnv]
  conv in (st 15) => whnf
  conv in (occs := *) (DefRec.scope lawRec) => all_goals whnf
  k_steps
  refine unhalt ?_
  refine comp_rangeL 7 IntR (fun i => [dearAt cs i]) rfl (by decide) rfl rfl (by decide) (by intro _; rfl) (by intro _; rfl) (by intro _; rfl) ?_
  k_steps
  rename Fr _ _ _ _ => F1
  rename News _ _ _ _ => N1
  have eGp := N1.get (a := aGp) (o := W.listOf xGp nGp) (.head _)
  have eD := N1.get (a := aD) (o := W.listOf xD nD) (by k_mem)
  have e5 := N1.get (a := L + 1 + 1 + 1 + 1 + 1) (o := o5) (by k_mem)
  have e6 := N1.get (a := L + 1 + 1 + 1 + 1 + 1 + 1) (o := o6) (by k_mem)
  rename IsRange _ _ _ _ _ _ _ _ => hRg
  refine unhalt ⟨_, 1, 8, _, _, _, rfl, hRg, by decide, ⟨by decide, by decide⟩, fun gB C H tk m₂ i hi t kB FB hm => ?_, fun D h' tk ys hD' hp hl hk => ?_⟩
  · have SB : St w mean mg mb gB := (hS.keeps F1.keep).keeps kB
    have bGp := kB _ _ eGp
    have bD := kB _ _ eD
    have b5 := kB _ _ e5
    have b6 := kB _ _ e6
    clear N1 F1 X T eGp eD e5 e6 hS hRg
    have X := SB.X
    have T := SB.T
    have N : News gB C H [] := News.nil
    obtain ⟨t1, g1⟩ := gap_at hGp (i + 1) (by omega)
    obtain ⟨t2, g2⟩ := dep_at hD (i + 1) (by omega)
    have b1 := gap_bound cs (i + 1)
    have b2 := dep_bound cs (i + 1) (by omega)
    refine tests_nil ⟨H, tk, rfl, fun _ _ e => e, ?_⟩
    rw [if_pos rfl]
    dsimp only [compEnvW, relabel]
    conv in (occs := *) (List.map _ _) => all_goals simp only [List.map_cons, List.map_nil]
    conv in (occs := *) (ite _ _ _) => all_goals whnf

    k_steps
    refine unhalt ?_
    refine base_sub (s := ⟨_, _, _, _, _⟩) FB bGp g1 (by push_cast; omega) (by omega) ?_
    (try dsimp only)
    k_steps
    refine unhalt ?_
    have key : ∀ u v : Tok, ∃ t5, (if 8 - (1 + (i : Int)) < 1 + (i : Int) then Value.int (8 - (1 + (i : Int))) u else Value.int (1 + (i : Int)) v) = .int (min ((i : Int) + 1) (8 - ((i : Int) + 1))) t5 := by
      intro u v
      by_cases hlt : 8 - (1 + (i : Int)) < 1 + (i : Int)
      · exact ⟨u, by rw [if_pos hlt]; congr 1; omega⟩
      · exact ⟨v, by rw [if_neg hlt]; congr 1; omega⟩
    refine min_two_ints (s := ⟨_, _, _, _, _⟩) rfl fun h5 tk5 k5 => ?_
    obtain ⟨t5, e5⟩ := key (tk + 1 + 1 + 1) t
    rw [e5]
    (try dsimp only)
    k_steps
    refine unhalt ⟨h5, _, _, rfl, k5, ⟨_, rfl⟩, rfl⟩
  · obtain ⟨F9, n9, N9, lt9⟩ := list_new F1 N1 hD' hl hk
    have hp' := ints_of_paired hp
    rw [fm1] at hp'
    have eDD := N9.get (a := D) (o := W.listOf ys.toArray n9) (.head _)
    have N10 : News g L h' [(aGp, W.listOf xGp nGp), (aD, W.listOf xD nD), (aS, W.listOf xS nS), (aTo, W.listOf xTo nTo), (aK, W.listOf xK nK), (aG, W.listOf xG nG), (aT, W.listOf xT nT), (L + 1 + 1 + 1 + 1 + 1 + 1 + 1, o7), (L + 1 + 1 + 1 + 1 + 1 + 1, o6), (L + 1 + 1 + 1 + 1 + 1, o5), (L + 1 + 1 + 1 + 1, o4), (L + 1 + 1 + 1, o3), (L + 1 + 1, o2), (L + 1, o1), (101, tabO p1), (108, tabO p2)] := news_sub N9 fun p hp => List.mem_cons_of_mem _ hp
    clear N9 F1 N1
    (try dsimp only)
    k_steps
    refine unhalt ?_
    refine LSm.sum_ints (s := ⟨_, _, _, _, _⟩) F9 N10 rfl ⟨_, eDD, rfl, _, rfl⟩ hp' fun h5 tk5 t5 F5 N5 => ?_
    clear F9 N10 eDD
    (try dsimp only)
    k_steps
    exact hQ _ _ _ (by assumption) (by assumption)
end Ks15
theorem s15 {w : World} {mean : ExcName → Option Value} {mg mb : Str → Option Value} {g : Heap} {L fa : Nat} {cd : Value} {A : Around} {Q : Flow → Shared → Prop} {s : Shared} {m : Str → Option Value}
    {aT aG aK aTo aS aD : Nat} {o1 o2 o3 o4 o5 o6 o7 : Obj} {xT xG xK xTo xS xD : Array Value} {nT nG nK nTo nS nD : Nat} {p1 p2 : Array Value} {aGp nGp : Nat} {xGp : Array Value}
    (hS : St w mean mg mb g) (hA : AOk 59 A) (F : Fr g L s.heap m) (h0 : 108 < L) (h1 : L + 1 + 1 + 1 + 1 + 1 + 1 + 1 < aT) (h5 : aT < aG) (h6 : aG < aK) (h7 : aK < aTo) (h8 : aTo < aS) (h9 : aS < aD) (l1 : o1.data = .cell (some (.ref aT))) (l2 : o2.data = .cell (some (.ref aG))) (l3 : o3.data = .cell (some (.ref aK))) (l4 : o4.data = .cell (some (.ref aTo))) (l5 : o5.data = .cell (some (.ref aD))) (l6 : o6.data = .cell (some (.ref aGp)))
    {cs : List Int} (hD : IntsAre xD.toList (runP cs 8).deps) (hGp : IntsAre xGp.toList ((List.range 8).map (gapI cs))) (N : News g L s.heap [(aGp, W.listOf xGp nGp), (aD, W.listOf xD nD), (aS, W.listOf xS nS), (aTo, W.listOf xTo nTo), (aK, W.listOf xK nK), (aG, W.listOf xG nG), (aT, W.listOf xT nT), (L + 1 + 1 + 1 + 1 + 1 + 1 + 1, o7), (L + 1 + 1 + 1 + 1 + 1 + 1, o6), (L + 1 + 1 + 1 + 1 + 1, o5), (L + 1 + 1 + 1 + 1, o4), (L + 1 + 1 + 1, o3), (L + 1 + 1, o2), (L + 1, o1), (101, tabO p1), (108, tabO p2)])
    (hQ : ∀ h' tk t, Fr g L h' (fun y => if y = "dear" then some (.int (dearI cs) t) else m y) → News g L h' [(aGp, W.listOf xGp nGp), (aD, W.listOf xD nD), (aS, W.listOf xS nS), (aTo, W.listOf xTo nTo), (aK, W.listOf xK nK), (aG, W.listOf xG nG), (aT, W.listOf xT nT), (L + 1 + 1 + 1 + 1 + 1 + 1 + 1, o7), (L + 1 + 1 + 1 + 1 + 1 + 1, o6), (L + 1 + 1 + 1 + 1 + 1, o5), (L + 1 + 1 + 1 + 1, o4), (L + 1 + 1 + 1, o3), (L + 1 + 1, o2), (L + 1, o1), (101, tabO p1), (108, tabO p2)] → Q .next { s with heap := h', toks := tk }) :
    wpAny (model PG w) A (exec (st 15) (lawEnv L fa cd)) Q (fun _ _ => False) s := by
  obtain ⟨hd0, dp, fr, gd, un⟩ := A
  obtain rfl : hd0 = none := hA.hd
  exact skolem lv0 (fun x => Ss15 x.w x.mean x.mg x.mb x.g x.L x.fa x.cd x.dp x.fr x.gd x.un x.Q x.s x.m x.aT x.aG x.aK x.aTo x.aS x.aD x.o1 x.o2 x.o3 x.o4 x.o5 x.o6 x.o7 x.xT x.xG x.xK x.xTo x.xS x.xD x.nT x.nG x.nK x.nTo x.nS x.nD x.p1 x.p2 x.aGp x.nGp x.xGp x.cs) (by with_unfolding_all exact Ks15.holds) ⟨w, mean, mg, mb, g, L, fa, cd, dp, fr, gd, un, Q, m, s, (Classical.choice lv0).news, (Classical.choice lv0).ls, (Classical.choice lv0).c, (Classical.choice lv0).vs, (Classical.choice lv0).xs, (Classical.choice lv0).its, cs, (Classical.choice lv0).n, (Classical.choice lv0).oc, (Classical.choice lv0).rest, o1, o2, o3, o4, o5, o6, o7, (Classical.choice lv0).d, (Classical.choice lv0).r, aT, aG, aK, aTo, aS, aD, (Classical.choice lv0).it, (Classical.choice lv0).e, (Classical.choice lv0).i, (Classical.choice lv0).nbx, (Classical.choice lv0).tn, (Classical.choice lv0).tk0, (Classical.choice lv0).oI, (Classical.choice lv0).oE, xT, xG, xK, xTo, xS, xD, (Classical.choice lv0).itsbx, nT, nG, nK, nTo, nS, nD, (Classical.choice lv0).nC, (Classical.choice lv0).nr, (Classical.choice lv0).ritems, p1, p2, (Classical.choice lv0).t2, (Classical.choice lv0).t3, (Classical.choice lv0).yT, (Classical.choice lv0).tt, (Classical.choice lv0).tl, (Classical.choice lv0).v, (Classical.choice lv0).tv, (Classical.choice lv0).tm, (Classical.choice lv0).mkS, (Classical.choice lv0).fa', (Classical.choice lv0).fb', (Classical.choice lv0).l, (Classical.choice lv0).mkF, (Classical.choice lv0).bk, (Classical.choice lv0).tw, (Classical.choice lv0).tb, (Classical.choice lv0).td, (Classical.choice lv0).dl, aGp, nGp, xGp, (Classical.choice lv0).r0, (Classical.choice lv0).r1, (Classical.choice lv0).r2, (Classical.choice lv0).r3, (Classical.choice lv0).k0, (Classical.choice lv0).k1, (Classical.choice lv0).k2, (Classical.choice lv0).k3, (Classical.choice lv0).aTb, (Classical.choice lv0).nTb, (Classical.choice lv0).v0, (Classical.choice lv0).v1, (Classical.choice lv0).v2, (Classical.choice lv0).v3, (Classical.choice lv0).aX, (Classical.choice lv0).nX, (Classical.choice lv0).xX, (Classical.choice lv0).ns, (Classical.choice lv0).c0, (Classical.choice lv0).d0, (Classical.choice lv0).tc, (Classical.choice lv0).tf, (Classical.choice lv0).j⟩ hS hA F h0 h1 h5 h6 h7 h8 h9 l1 l2 l3 l4 l5 l6 hD hGp N hQ
end
end Mine
end OfA37dear
section OfA33
open PySem PySem.W PySem.W.X PySem.Calls PyProof.Rows
set_option Elab.async false
set_option maxRecDepth 100000
set_option maxHeartbeats 4000000
set_option pp.maxSteps 3000
namespace Mine
noncomputable section
theorem filled33 : kk.heap_1 = kk.heap_1 ∧ PySem.Challenge.rw_wu0057_01.name = PySem.Challenge.rw_wu0057_01.name := by
  k_fill
  exact ⟨rfl, rfl⟩

local macro_rules | `(tactic| walk_at "eval ListComp") => `(tactic| refine halt ?_)
local macro_rules | `(tactic| walk_at "pyIter ref") => `(tactic| refine halt ?_)
local macro_rules | `(tactic| walk_at "subscriptTail") => `(tactic| refine halt ?_)
local macro_rules | `(tactic| walk_at "eval Name") => `(tactic| (k_here; first
  | (refine nm_is "k" ?_; walk_at "nmL")
  | (refine nm_is "texts" ?_; walk_at "nmC")
  | (refine nm_is "len" ?_; walk_at "nmB")))

local macro_rules | `(tactic| walk_at "call builtin:len") => `(tactic| (k_here; (refine len_mkS (by assumption) ?_)))
noncomputable def Ss13 (w : World) (mean : ExcName → Option Value) (mg : Str → Option Value) (mb : Str → Option Value) (g : Heap) (L : Nat) (fa : Nat) (cd : Value) (dp : Nat) (fr : Option (List Env)) (gd : Option (List Code)) (un : Nat) (Q : Flow → Shared → Prop) (s : Shared) (m : Str → Option Value) (aT : Nat) (aG : Nat) (aK : Nat) (aTo : Nat) (aS : Nat) (aD : Nat) (o1 : Obj) (o2 : Obj) (o3 : Obj) (o4 : Obj) (o5 : Obj) (o6 : Obj) (o7 : Obj) (xT : Array Value) (xG : Array Value) (xK : Array Value) (xTo : Array Value) (xS : Array Value) (xD : Array Value) (nT : Nat) (nG : Nat) (nK : Nat) (nTo : Nat) (nS : Nat) (nD : Nat) (p1 : Array Value) (p2 : Array Value) (cs : List Int) : Prop := ∀ (hS : St w mean mg mb g) (hA : AOk 59 (Around.mk none dp fr gd un)) (F : Fr g L s.heap m) (h0 : 108 < L) (h1 : L + 1 + 1 + 1 + 1 + 1 + 1 + 1 < aT) (h5 : aT < aG) (h6 : aG < aK) (h7 : aK < aTo) (h8 : aTo < aS) (h9 : aS < aD) (l1 : o1.data = .cell (some (.ref aT))) (l2 : o2.data = .cell (some (.ref aG))) (l3 : o3.data = .cell (some (.ref aK))) (l4 : o4.data = .cell (some (.ref aTo))) (l5 : o5.data = .cell (some (.ref aD))) (l6 : o6.data = .cell none) (hT : StrsAre xT.toList ((runP cs 8).T.map mkS)) (N : News g L s.heap [(aD, W.listOf xD nD), (aS, W.listOf xS nS), (aTo, W.listOf xTo nTo), (aK, W.listOf xK nK), (aG, W.listOf xG nG), (aT, W.listOf xT nT), (L + 1 + 1 + 1 + 1 + 1 + 1 + 1, o7), (L + 1 + 1 + 1 + 1 + 1 + 1, o6), (L + 1 + 1 + 1 + 1 + 1, o5), (L + 1 + 1 + 1 + 1, o4), (L + 1 + 1 + 1, o3), (L + 1 + 1, o2), (L + 1, o1), (101, tabO p1), (108, tabO p2)]) (hQ : ∀ h' tk (aGp : Nat) xGp nGp o6n, Fr g L h' m → News g L h' [(aGp, W.listOf xGp nGp), (aD, W.listOf xD nD), (aS, W.listOf xS nS), (aTo, W.listOf xTo nTo), (aK, W.listOf xK nK), (aG, W.listOf xG nG), (aT, W.listOf xT nT), (L + 1 + 1 + 1 + 1 + 1 + 1 + 1, o7), (L + 1 + 1 + 1 + 1 + 1 + 1, o6n), (L + 1 + 1 + 1 + 1 + 1, o5), (L + 1 + 1 + 1 + 1, o4), (L + 1 + 1 + 1, o3), (L + 1 + 1, o2), (L + 1, o1), (101, tabO p1), (108, tabO p2)] → IntsAre xGp.toList ((List.range 8).map fun i => ((pieceI (nn cs i)).length : Int)) → o6n.data = .cell (some (.ref aGp)) → aD < aGp → Q .next { s with heap := h', toks := tk }),
    wpAny (model PG w) (Around.mk none dp fr gd un) (exec (st 13) (lawEnv L fa cd)) Q (fun _ _ => False) s
noncomputable def cs13 : LV := @Classical.epsilon LV lv0 fun x => ¬ Ss13 x.w x.mean x.mg x.mb x.g x.L x.fa x.cd x.dp x.fr x.gd x.un x.Q x.s x.m x.aT x.aG x.aK x.aTo x.aS x.aD x.o1 x.o2 x.o3 x.o4 x.o5 x.o6 x.o7 x.xT x.xG x.xK x.xTo x.xS x.xD x.nT x.nG x.nK x.nTo x.nS x.nD x.p1 x.p2 x.cs
namespace Ks13
@[irreducible] noncomputable def w : World := cs13.w
@[irreducible] noncomputable def mean : ExcName → Option Value := cs13.mean
@[irreducible] noncomputable def mg : Str → Option Value := cs13.mg
@[irreducible] noncomputable def mb : Str → Option Value := cs13.mb
@[irreducible] noncomputable def g : Heap := cs13.g
@[irreducible] noncomputable def L : Nat := cs13.L
@[irreducible] noncomputable def fa : Nat := cs13.fa
@[irreducible] noncomputable def cd : Value := cs13.cd
@[irreducible] noncomputable def dp : Nat := cs13.dp
@[irreducible] noncomputable def fr : Option (List Env) := cs13.fr
@[irreducible] noncomputable def gd : Option (List Code) := cs13.gd
@[irreducible] noncomputable def un : Nat := cs13.un
@[irreducible] noncomputable def Q : Flow → Shared → Prop := cs13.Q
@[irreducible] noncomputable def s : Shared := cs13.s
@[irreducible] noncomputable def m : Str → Option Value := cs13.m
@[irreducible] noncomputable def aT : Nat := cs13.aT
@[irreducible] noncomputable def aG : Nat := cs13.aG
@[irreducible] noncomputable def aK : Nat := cs13.aK
@[irreducible] noncomputable def aTo : Nat := cs13.aTo
@[irreducible] noncomputable def aS : Nat := cs13.aS
@[irreducible] noncomputable def aD : Nat := cs13.aD
@[irreducible] noncomputable def o1 : Obj := cs13.o1
@[irreducible] noncomputable def o2 : Obj := cs13.o2
@[irreducible] noncomputable def o3 : Obj := cs13.o3
@[irreducible] noncomputable def o4 : Obj := cs13.o4
@[irreducible] noncomputable def o5 : Obj := cs13.o5
@[irreducible] noncomputable def o6 : Obj := cs13.o6
@[irreducible] noncomputable def o7 : Obj := cs13.o7
@[irreducible] noncomputable def xT : Array Value := cs13.xT
@[irreducible] noncomputable def xG : Array Value := cs13.xG
@[irreducible] noncomputable def xK : Array Value := cs13.xK
@[irreducible] noncomputable def xTo : Array Value := cs13.xTo
@[irreducible] noncomputable def xS : Array Value := cs13.xS
@[irreducible] noncomputable def xD : Array Value := cs13.xD
@[irreducible] noncomputable def nT : Nat := cs13.nT
@[irreducible] noncomputable def nG : Nat := cs13.nG
@[irreducible] noncomputable def nK : Nat := cs13.nK
@[irreducible] noncomputable def nTo : Nat := cs13.nTo
@[irreducible] noncomputable def nS : Nat := cs13.nS
@[irreducible] noncomputable def nD : Nat := cs13.nD
@[irreducible] noncomputable def p1 : Array Value := cs13.p1
@[irreducible] noncomputable def p2 : Array Value := cs13.p2
@[irreducible] noncomputable def cs : List Int := cs13.cs
theorem holds : Ss13 w mean mg mb g L fa cd dp fr gd un Q s m aT aG aK aTo aS aD o1 o2 o3 o4 o5 o6 o7 xT xG xK xTo xS xD nT nG nK nTo nS nD p1 p2 cs := by
  intro hS hA F h0 h1 h5 h6 h7 h8 h9 l1 l2 l3 l4 l5 l6 hT N hQ
  have hDec := Dec.cons h9 (.cons h8 (.cons h7 (.cons h6 (.cons h5 (.cons h1 (decL h0))))))
  have X := hS.X
  have T := hS.T
  dsimp only [lawEnv]
  conv in (st 13) => whnf
  conv in (occs := *) (DefRec.scope lawRec) => all_goals whnf
  k_steps
  refine unhalt ?_
  refine comp_rangeL 8 IntR (fun i => [((pieceI (nn cs i)).length : Int)]) rfl (by decide) rfl rfl (by decide) (by intro _; rfl) (by intro _; rfl) (by intro _; rfl) ?_
  k_steps
  rename Fr _ _ _ _ => F1
  rename News _ _ _ _ => N1
  have eT := N1.get (a := aT) (o := W.listOf xT nT) (by k_mem)
  have e1 := N1.get (a := L + 1) (o := o1) (by k_mem)
  rename IsRange _ _ _ _ _ _ _ _ => hRg
  refine unhalt ⟨_, 0, 8, _, _, _, rfl, hRg, by decide, ⟨by decide, by decide⟩, fun gB C H tk m₂ i hi t kB FB hm => ?_, fun D h' tk ys hD hp hl hk => ?_⟩
  · have SB : St w mean mg mb gB := (hS.keeps F1.keep).keeps kB
    have bT := kB _ _ eT
    have b1 := kB _ _ e1
    clear N1 F1 X T eT e1 hS hRg
    have X := SB.X
    have T := SB.T
    have N : News gB C H [] := News.nil
    refine tests_nil ⟨H, tk, rfl, fun _ _ e => e, ?_⟩
    rw [if_pos rfl]
    dsimp only [compEnvW, relabel]
    conv in (occs := *) (List.map _ _) => all_goals simp only [List.map_cons, List.map_nil]
    conv in (occs := *) (ite _ _ _) => all_goals whnf
    k_steps
    obtain ⟨t1, g1⟩ := xT_at hT (i + 1) (by omega)
    obtain ⟨t2, g2⟩ := xT_at hT i (by omega)
    have z1 := TT_small cs (i + 1) (by omega)
    have z2 := TT_small cs i (by omega)
    refine unhalt ?_
    refine base_sub (s := ⟨_, _, _, _, _⟩) FB bT g1 (by push_cast; omega) (by omega) ?_
    (try dsimp only)
    k_steps
    refine unhalt ?_
    refine base_sub (s := ⟨_, _, _, _, _⟩) FB bT g2 (by omega) (by omega) ?_
    (try dsimp only)
    k_steps
    refine unhalt ⟨H, _, _, rfl, fun _ _ e => e, ⟨_, rfl⟩, ?_⟩
    rw [TT, List.length_append]
    congr 1
    push_cast
    omega
  · obtain ⟨F9, n9, N9, lt9⟩ := list_new F1 N1 hD hl hk
    have hDD : aD < D := lt9 (aD, W.listOf xD nD) (by k_mem)
    clear F1 N1 eT e1 hRg lt9
    (try dsimp only)
    k_steps
    rename Fr _ _ _ _ => F10
    rename News _ _ _ _ => N10
    refine hQ _ _ D _ n9 _ F10 N10 ?_ (by assumption) hDD
    have := ints_of_paired hp
    rw [fm1] at this
    exact this
end Ks13
theorem s13 {w : World} {mean : ExcName → Option Value} {mg mb : Str → Option Value} {g : Heap} {L fa : Nat} {cd : Value} {A : Around} {Q : Flow → Shared → Prop} {s : Shared} {m : Str → Option Value}
    {aT aG aK aTo aS aD : Nat} {o1 o2 o3 o4 o5 o6 o7 : Obj} {xT xG xK xTo xS xD : Array Value} {nT nG nK nTo nS nD : Nat} {p1 p2 : Array Value}
    (hS : St w mean mg mb g) (hA : AOk 59 A) (F : Fr g L s.heap m) (h0 : 108 < L) (h1 : L + 1 + 1 + 1 + 1 + 1 + 1 + 1 < aT) (h5 : aT < aG) (h6 : aG < aK) (h7 : aK < aTo) (h8 : aTo < aS) (h9 : aS < aD) (l1 : o1.data = .cell (some (.ref aT))) (l2 : o2.data = .cell (some (.ref aG))) (l3 : o3.data = .cell (some (.ref aK))) (l4 : o4.data = .cell (some (.ref aTo))) (l5 : o5.data = .cell (some (.ref aD))) (l6 : o6.data = .cell none)
    {cs : List Int} (hT : StrsAre xT.toList ((runP cs 8).T.map mkS)) (N : News g L s.heap [(aD, W.listOf xD nD), (aS, W.listOf xS nS), (aTo, W.listOf xTo nTo), (aK, W.listOf xK nK), (aG, W.listOf xG nG), (aT, W.listOf xT nT), (L + 1 + 1 + 1 + 1 + 1 + 1 + 1, o7), (L + 1 + 1 + 1 + 1 + 1 + 1, o6), (L + 1 + 1 + 1 + 1 + 1, o5), (L + 1 + 1 + 1 + 1, o4), (L + 1 + 1 + 1, o3), (L + 1 + 1, o2), (L + 1, o1), (101, tabO p1), (108, tabO p2)])
    (hQ : ∀ h' tk (aGp : Nat) xGp nGp o6n, Fr g L h' m → News g L h' [(aGp, W.listOf xGp nGp), (aD, W.listOf xD nD), (aS, W.listOf xS nS), (aTo, W.listOf xTo nTo), (aK, W.listOf xK nK), (aG, W.listOf xG nG), (aT, W.listOf xT nT), (L + 1 + 1 + 1 + 1 + 1 + 1 + 1, o7), (L + 1 + 1 + 1 + 1 + 1 + 1, o6n), (L + 1 + 1 + 1 + 1 + 1, o5), (L + 1 + 1 + 1 + 1, o4), (L + 1 + 1 + 1, o3), (L + 1 + 1, o2), (L + 1, o1), (101, tabO p1), (108, tabO p2)] → IntsAre xGp.toList ((List.range 8).map fun i => ((pieceI (nn cs i)).length : Int)) → o6n.data = .cell (some (.ref aGp)) → aD < aGp → Q .next { s with heap := h', toks := tk }) :
    wpAny (model PG w) A (exec (st 13) (lawEnv L fa cd)) Q (fun _ _ => False) s := by
  obtain ⟨hd0, dp, fr, gd, un⟩ := A
  obtain rfl : hd0 = none := hA.hd
  exact skolem lv0 (fun x => Ss13 x.w x.mean x.mg x.mb x.g x.L x.fa x.cd x.dp x.fr x.gd x.un x.Q x.s x.m x.aT x.aG x.aK x.aTo x.aS x.aD x.o1 x.o2 x.o3 x.o4 x.o5 x.o6 x.o7 x.xT x.xG x.xK x.xTo x.xS x.xD x.nT x.nG x.nK x.nTo x.nS x.nD x.p1 x.p2 x.cs) (by with_unfolding_all exact Ks13.holds) ⟨w, mean, mg, mb, g, L, fa, cd, dp, fr, gd, un, Q, m, s, (Classical.choice lv0).news, (Classical.choice lv0).ls, (Classical.choice lv0).c, (Classical.choice lv0).vs, (Classical.choice lv0).xs, (Classical.choice lv0).its, cs, (Classical.choice lv0).n, (Classical.choice lv0).oc, (Classical.choice lv0).rest, o1, o2, o3, o4, o5, o6, o7, (Classical.choice lv0).d, (Classical.choice lv0).r, aT, aG, aK, aTo, aS, aD, (Classical.choice lv0).it, (Classical.choice lv0).e, (Classical.choice lv0).i, (Classical.choice lv0).nbx, (Classical.choice lv0).tn, (Classical.choice lv0).tk0, (Classical.choice lv0).oI, (Classical.choice lv0).oE, xT, xG, xK, xTo, xS, xD, (Classical.choice lv0).itsbx, nT, nG, nK, nTo, nS, nD, (Classical.choice lv0).nC, (Classical.choice lv0).nr, (Classical.choice lv0).ritems, p1, p2, (Classical.choice lv0).t2, (Classical.choice lv0).t3, (Classical.choice lv0).yT, (Classical.choice lv0).tt, (Classical.choice lv0).tl, (Classical.choice lv0).v, (Classical.choice lv0).tv, (Classical.choice lv0).tm, (Classical.choice lv0).mkS, (Classical.choice lv0).fa', (Classical.choice lv0).fb', (Classical.choice lv0).l, (Classical.choice lv0).mkF, (Classical.choice lv0).bk, (Classical.choice lv0).tw, (Classical.choice lv0).tb, (Classical.choice lv0).td, (Classical.choice lv0).dl, (Classical.choice lv0).aGp, (Classical.choice lv0).nGp, (Classical.choice lv0).xGp, (Classical.choice lv0).r0, (Classical.choice lv0).r1, (Classical.choice lv0).r2, (Classical.choice lv0).r3, (Classical.choice lv0).k0, (Classical.choice lv0).k1, (Classical.choice lv0).k2, (Classical.choice lv0).k3, (Classical.choice lv0).aTb, (Classical.choice lv0).nTb, (Classical.choice lv0).v0, (Classical.choice lv0).v1, (Classical.choice lv0).v2, (Classical.choice lv0).v3, (Classical.choice lv0).aX, (Classical.choice lv0).nX, (Classical.choice lv0).xX, (Classical.choice lv0).ns, (Classical.choice lv0).c0, (Classical.choice lv0).d0, (Classical.choice lv0).tc, (Classical.choice lv0).tf, (Classical.choice lv0).j⟩ hS hA F h0 h1 h5 h6 h7 h8 h9 l1 l2 l3 l4 l5 l6 hT N hQ
end
end Mine
end OfA33
section OfA48
open PySem PySem.W PySem.W.X PySem.Calls PyProof.Rows
set_option Elab.async false
set_option maxRecDepth 100000
set_option maxHeartbeats 4000000
set_option pp.maxSteps 3000
namespace Mine
noncomputable section
theorem filled48 : kk.heap_1 = kk.heap_1 ∧ PySem.Challenge.rw_wu0057_01.name = PySem.Challenge.rw_wu0057_01.name := by
  k_fill
  exact ⟨rfl, rfl⟩

theorem s0 {w : World} {mean : ExcName → Option Value} {mg mb : Str → Option Value} {g : Heap} {L fa : Nat} {cd : Value} {A : Around} {Q : Flow → Shared → Prop} {s : Shared} {m : Str → Option Value} {o1 o2 o3 o4 o5 o6 o7 : Obj}
    (hS : St w mean mg mb g) (hA : AOk 59 A) (F : Fr g L s.heap m) (hL : 108 < L) (N : News g L s.heap [(L + 1 + 1 + 1 + 1 + 1 + 1 + 1, o7), (L + 1 + 1 + 1 + 1 + 1 + 1, o6), (L + 1 + 1 + 1 + 1 + 1, o5), (L + 1 + 1 + 1 + 1, o4), (L + 1 + 1 + 1, o3), (L + 1 + 1, o2), (L + 1, o1), (101, tabO #[]), (108, tabO #[])])
    (hQ : ∀ h' tk (c n : Nat) its, Fr g L h' (fun y => if y = "cells" then some (.ref c) else m y) → IntsAre its [40, 138, 5, 2086, 11, 2041, 133, 15] → L + 1 + 1 + 1 + 1 + 1 + 1 + 1 < c → News g L h' [(c, W.listOf its.toArray n), (L + 1 + 1 + 1 + 1 + 1 + 1 + 1, o7), (L + 1 + 1 + 1 + 1 + 1 + 1, o6), (L + 1 + 1 + 1 + 1 + 1, o5), (L + 1 + 1 + 1 + 1, o4), (L + 1 + 1 + 1, o3), (L + 1 + 1, o2), (L + 1, o1), (101, tabO #[]), (108, tabO #[])] → Q .next { s with heap := h', toks := tk }) :
    wpAny (model PG w) A (exec (st 0) (lawEnv L fa cd)) Q (fun _ _ => False) s := by
  obtain ⟨hd0, dp, fr, gd, un⟩ := A
  obtain rfl : hd0 = none := hA.hd
  have X := hS.X
  have T := hS.T
  dsimp only [lawEnv]
  conv in (st 0) => whnf
  conv in (occs := *) (DefRec.scope lawRec) => all_goals whnf
  k_steps
  rename Fr _ _ _ _ => F1
  rename News _ _ _ _ => N1
  exact hQ _ _ _ _ _ F1 (.cons _ _ (.cons _ _ (.cons _ _ (.cons _ _ (.cons _ _ (.cons _ _ (.cons _ _ (.cons _ _ .nil)))))))) (by omega) N1
theorem ans_cnt (cs : List Int) : answer cs = ansI (cnt cs 4) := by
  have := cnt_le cs 4
  unfold answer ansI
  rcases (by omega : cnt cs 4 = 0 ∨ cnt cs 4 = 1 ∨ cnt cs 4 = 2 ∨ cnt cs 4 = 3 ∨ cnt cs 4 = 4) with e | e | e | e | e <;> rw [e] <;> rfl
theorem body_holds : Body := by
  intro w mean mg mb g (L : Nat) (fa : Nat) cd A E ls vs xs m o1 o2 o3 o4 o5 o6 o7 s hS hA0 hfr F hsc N l1 l2 l3 l4 l5 l6 l7 hL hls hI hlen hg
  have hA : AOk 59 A := hA0.le (by decide)
  rw [body_eq]
  with_reducible refine wpAny_mono (E := fun _ _ => False) ?_ (fun _ _ x => x) fun _ _ x => x.elim
  with_reducible refine wpAny_execs_cons ?_
  with_reducible refine (s0 hS hA F hL N fun h0 tk0 c n0 its F0 hi0 hc0 N0 => ?_)
  have hL2 : @LT.lt Nat _ 108 L := hL
  have lt0 : ∀ p ∈ [(L + 1 + 1 + 1 + 1 + 1 + 1 + 1, o7), (L + 1 + 1 + 1 + 1 + 1 + 1, o6), (L + 1 + 1 + 1 + 1 + 1, o5), (L + 1 + 1 + 1 + 1, o4), (L + 1 + 1 + 1, o3), (L + 1 + 1, o2), (L + 1, o1), (101, tabO #[]), (108, tabO #[])], p.1 < c := by
    intro p hp
    simp only [List.mem_cons, List.not_mem_nil, or_false] at hp
    rcases hp with rfl | rfl | rfl | rfl | rfl | rfl | rfl | rfl | rfl <;> exact ltN (by omega)
  with_reducible refine wpAny_execs_cons ?_
  with_reducible refine (s1 hS hA F0 ((if_neg (by decide)).trans hsc) (if_pos rfl) hls hI hlen hi0 rfl N0 lt0 fun h1 tk1 m1 it1 cs n1 F1 mc1 hi1 hcl N1 => ?_)
  with_reducible refine s2 hS hA F1 mc1 N1 hc0 hL l1 l2 l3 l4 l5 fun h2 tk2 m2 aT aG aK aTo aS aD r d nr t2 t3 k1 k2 o1 o2 o3 o4 o5 F2 mc2 mr2 ms2 l1 l2 l3 l4 l5 q1 q2 q3 q4 q5 q6 q7 q8 N2 => ?_
  with_reducible refine wpAny_execs_cons ?_
  with_reducible refine (s9 hS hA hfr F2 mc2 mr2 ms2 hL hc0 q1 q2 q3 q4 q5 q6 q7 q8 l1 l2 l3 l4 l5 hi1 hcl hg N2 fun s9 m9 xT xG xK xTo xS xD nT nG nK nTo nS nD p1 p2 F9 ms9 N9 hT hG hK hTo hSz hD hos hg9 => ?_)
  have q0 : L + 1 + 1 + 1 + 1 + 1 + 1 + 1 < aT := Nat.lt_trans hc0 (Nat.lt_trans q1 (Nat.lt_trans q2 q3))
  have hos : s9.os = s.os := hos
  with_reducible refine wpAny_execs_cons ?_
  with_reducible refine (s10 hS hA F9 hL q0 q4 q5 q6 q7 q8 l1 l2 l3 l4 l5 hT hTo hG (told_eq cs) (told_ok cs) N9 fun h10 tk10 F10 N10 => ?_)
  with_reducible refine wpAny_execs_cons ?_
  with_reducible refine (s11 hS hA F10 hL q0 q4 q5 q6 q7 q8 l1 l2 l3 l4 l5 hG hK hD (dep_eq cs) N10 fun h11 tk11 F11 N11 => ?_)
  with_reducible refine wpAny_execs_cons ?_
  with_reducible refine (s12 hS hA F11 ms9 hL q0 q4 q5 q6 q7 q8 l1 l2 l3 l4 l5 hT hSz N11 fun h12 tk12 F12 N12 => ?_)
  with_reducible refine wpAny_execs_cons ?_
  with_reducible refine (s13 hS hA F12 hL q0 q4 q5 q6 q7 q8 l1 l2 l3 l4 l5 l6 hT N12 fun h13 tk13 aGp xGp nGp o6 F13 N13 hGp l6 q9 => ?_)
  with_reducible refine wpAny_execs_cons ?_
  with_reducible refine (s14 hS hA F13 hL q0 q4 q5 q6 q7 q8 l1 l2 l3 l4 l5 l6 hD hGp N13 fun h14 tk14 tc F14 N14 => ?_)
  with_reducible refine wpAny_execs_cons ?_
  with_reducible refine (s15 hS hA F14 hL q0 q4 q5 q6 q7 q8 l1 l2 l3 l4 l5 l6 hD hGp N14 fun h15 tk15 td F15 N15 => ?_)
  with_reducible refine s17 hS hA F15 hL q0 q4 q5 q6 q7 q8 l1 l2 l3 l4 l5 hD N15 fun h17 tk17 m17 F17 hm17 hw17 N17 => ?_
  obtain ⟨tw, hw17⟩ := hw17
  with_reducible refine wpAny_execs_cons ?_
  with_reducible refine (s18 hS hA F17 hL q0 q4 q5 q6 q7 q8 l1 l2 l3 l4 l5 hG N17 fun h18 tk18 tf F18 N18 => ?_)
  with_reducible refine wpAny_execs_cons ?_
  with_reducible refine (s19 hS hA F18 hL q0 q4 q5 q6 q7 q8 q9 l1 l2 l3 l4 l5 l6 l7 hT hG hK hTo (G4 cs) N18 fun h19 tk19 r0 r1 r2 r3 k0 k1 k2 k3 aTb nTb v0 v1 v2 v3 o7 F19 N19 i0 i1 i2 i3 l7 => ?_)
  with_reducible refine wpAny_execs_cons ?_
  with_reducible refine (s20 hS hA F19 l7 (K4 cs) i0 i1 i2 i3 N19 fun h20 tk20 aX nX xX F20 N20 hX => ?_)
  have mX : (fun y : Str => if y = "totals" then some (Value.ref aX) else if y = "front" then some (Value.int (((runP cs 8).G.filter (fun p => decide (p ≤ 4))).length : Int) tf) else m17 y) "totals" = some (.ref aX) := if_pos rfl
  have mc : (fun y : Str => if y = "totals" then some (Value.ref aX) else if y = "front" then some (Value.int (((runP cs 8).G.filter (fun p => decide (p ≤ 4))).length : Int) tf) else m17 y) "cheap" = some (.int (cheapI cs) tc) :=
    (if_neg (by decide)).trans ((if_neg (by decide)).trans ((hm17 "cheap" (by decide) (by decide)).trans ((if_neg (by decide)).trans (if_pos rfl))))
  have md : (fun y : Str => if y = "totals" then some (Value.ref aX) else if y = "front" then some (Value.int (((runP cs 8).G.filter (fun p => decide (p ≤ 4))).length : Int) tf) else m17 y) "dear" = some (.int (dearI cs) td) :=
    (if_neg (by decide)).trans ((if_neg (by decide)).trans ((hm17 "dear" (by decide) (by decide)).trans (if_pos rfl)))
  have mw : (fun y : Str => if y = "totals" then some (Value.ref aX) else if y = "front" then some (Value.int (((runP cs 8).G.filter (fun p => decide (p ≤ 4))).length : Int) tf) else m17 y) "ways" = some (.int (waysI cs 8) tw) :=
    (if_neg (by decide)).trans ((if_neg (by decide)).trans hw17)
  have mf : (fun y : Str => if y = "totals" then some (Value.ref aX) else if y = "front" then some (Value.int (((runP cs 8).G.filter (fun p => decide (p ≤ 4))).length : Int) tf) else m17 y) "front" = some (.int (cnt cs 4 : Int) tf) :=
    (if_neg (by decide)).trans ((if_pos rfl).trans (by rw [front_eq]))
  obtain ⟨⟨a1, a2, a3⟩, b1, b2, b3⟩ := totals_law cs
  rw [ans_cnt] at b3
  with_reducible refine wpAny_execs_cons ?_
  with_reducible refine (s21 hS hA F20 N20 hX mX mc mw a1 a2 a3 fun h21 tk21 F21 N21 => ?_)
  with_reducible refine wpAny_execs_cons ?_
  with_reducible refine (s22 hS hA F21 N21 hX mX md mf (cnt_le cs 4) b1 b2 b3 fun h22 tk22 F22 N22 => ?_)
  exact ⟨rfl, F22.keep, ⟨p1, N22.get (.tail _ (.head _))⟩, ⟨p2, N22.get (.tail _ (.tail _ (.head _)))⟩, hos, hg9⟩
end
theorem law_holds : PySem.Challenge.rw_wu0057_01.Holds := law_entry body_holds
end Mine
end OfA48
set_option Elab.async false
theorem PySem.Challenge.cw_wu0057_01_holds : PySem.Challenge.rw_wu0057_01.Holds :=
  Mine.law_holds
