import PyProof.Rows.All
import Wide.All
import OpenK.AllK
import Wide.FinOn
import PySem.Challenge.RW_dw0009_01
open PySem PySem.W PyProof PyProof.Rows
set_option Elab.async false
namespace Mine
section
set_option maxRecDepth 100000 in
set_option maxHeartbeats 8000000 in
open_top hd for PySem.Challenge.rw_dw0009_01
end

section
/-! the plain side: no program in sight -/
def Fit (n : Int) : Prop := Builtin.Int.intBits n ≤ 65536

/-- q is N / D rounded to the nearest whole, ties to even -/
def Rnd (N D q : Int) : Prop := 2 * (N - q * D) ≤ D ∧ -D ≤ 2 * (N - q * D) ∧ (2 * (N - q * D) = D ∨ 2 * (N - q * D) = -D → q % 2 = 0)

theorem fit_iff {n : Int} : Fit n ↔ n.natAbs < 2 ^ 65536 := intBits_le_iff

theorem fit_pow {e : Int} (h : e ≤ 5000) : Fit (10 ^ e.toNat) := by
  have h4 : Builtin.Int.intBits 10 ≤ 4 := by decide
  have := intBits_pow_le h4 e.toNat
  unfold Fit
  omega

theorem lor_one (n : Nat) : n ||| 1 = 2 * (n / 2) + 1 := by
  have h1 : (n ||| 1) / 2 = n / 2 := by rw [Nat.or_div_two]; simp
  have h2 : (n ||| 1) % 2 = 1 := Nat.or_mod_two_eq_one.mpr (Or.inr rfl)
  omega

theorem bitAnd_even (q : Int) : Builtin.bitAnd q (-2) = q - q % 2 := by
  unfold Builtin.bitAnd
  have hn : Builtin.bitNot (-2) = 1 := by decide
  by_cases h : 0 ≤ q
  · rw [decide_eq_true h, show decide ((0 : Int) ≤ -2) = false from rfl]
    simp only [hn]
    show q - ((q.toNat &&& 1 : Nat) : Int) = _
    rw [Nat.and_one_is_mod]
    omega
  · rw [decide_eq_false h, show decide ((0 : Int) ≤ -2) = false from rfl]
    simp only [hn]
    show Builtin.bitNot (((Builtin.bitNot q).toNat ||| 1 : Nat) : Int) = _
    rw [lor_one]
    unfold Builtin.bitNot
    omega

theorem half_is (d : Int) : d.fdiv (2 ^ Int.toNat 1) = d / 2 := by
  show d.fdiv 2 = d / 2
  rw [Int.fdiv_eq_ediv_of_nonneg _ (by decide)]

theorem rnd_a {n d : Int} (hd : 0 < d) (h1 : (n + d.fdiv (2 ^ Int.toNat 1)).fmod d = 0) (h2 : Builtin.bitAnd d 1 = 0) :
    Rnd n d (Builtin.bitAnd ((n + d.fdiv (2 ^ Int.toNat 1)).fdiv d) (-2)) := by
  rw [half_is] at *
  rw [bitAnd_even]
  rw [bitAnd_m1] at h2
  rw [Int.fmod_eq_emod_of_nonneg _ (Int.le_of_lt hd)] at h1
  rw [Int.fdiv_eq_ediv_of_nonneg _ (Int.le_of_lt hd)]
  have e := Int.emod_add_mul_ediv (n + d / 2) d
  rw [h1, Int.mul_comm] at e
  generalize (n + d / 2) / d = q at e ⊢
  have hq : q % 2 = 0 ∨ q % 2 = 1 := by omega
  unfold Rnd
  rcases hq with hq | hq
  · rw [hq, Int.sub_zero]
    generalize q * d = z at e ⊢
    omega
  · rw [hq, Int.sub_mul, Int.one_mul]
    generalize q * d = z at e ⊢
    omega

theorem rnd_b {n d : Int} (hd : 0 < d) (h1 : (n + d.fdiv (2 ^ Int.toNat 1)).fmod d = 0) (h2 : Builtin.bitAnd d 1 ≠ 0) :
    Rnd n d ((n + d.fdiv (2 ^ Int.toNat 1)).fdiv d) := by
  rw [half_is] at *
  rw [bitAnd_m1] at h2
  rw [Int.fmod_eq_emod_of_nonneg _ (Int.le_of_lt hd)] at h1
  rw [Int.fdiv_eq_ediv_of_nonneg _ (Int.le_of_lt hd)]
  have e := Int.emod_add_mul_ediv (n + d / 2) d
  rw [h1, Int.mul_comm] at e
  generalize (n + d / 2) / d = q at e ⊢
  unfold Rnd
  generalize q * d = z at e ⊢
  omega

theorem rnd_c {n d : Int} (hd : 0 < d) (h1 : (n + d.fdiv (2 ^ Int.toNat 1)).fmod d ≠ 0) :
    Rnd n d ((n + d.fdiv (2 ^ Int.toNat 1)).fdiv d) := by
  rw [half_is] at *
  rw [Int.fmod_eq_emod_of_nonneg _ (Int.le_of_lt hd)] at h1
  rw [Int.fdiv_eq_ediv_of_nonneg _ (Int.le_of_lt hd)]
  have e := Int.emod_add_mul_ediv (n + d / 2) d
  have l0 := Int.emod_nonneg (n + d / 2) (Int.ne_of_gt hd)
  have l1 := Int.emod_lt_of_pos (n + d / 2) hd
  rw [Int.mul_comm] at e
  generalize (n + d / 2) % d = r at *
  generalize (n + d / 2) / d = q at e ⊢
  unfold Rnd
  generalize q * d = z at e ⊢
  omega

theorem rnd_unique {N D p q : Int} (hD : 0 < D) (hp : Rnd N D p) (hq : Rnd N D q) : p = q := by
  obtain ⟨p1, p2, p3⟩ := hp
  obtain ⟨q1, q2, q3⟩ := hq
  have key : ∀ {x y : Int}, 2 * (N - x * D) ≤ D → -D ≤ 2 * (N - x * D) → (2 * (N - x * D) = D ∨ 2 * (N - x * D) = -D → x % 2 = 0) →
      2 * (N - y * D) ≤ D → -D ≤ 2 * (N - y * D) → (2 * (N - y * D) = D ∨ 2 * (N - y * D) = -D → y % 2 = 0) → ¬ x < y := by
    intro x y x1 x2 x3 y1 y2 y3 h
    by_cases h1 : y = x + 1
    · subst h1
      rw [Int.add_mul, Int.one_mul] at y1 y2 y3
      generalize x * D = z at *
      have a := x3 (by omega)
      have b := y3 (by omega)
      omega
    · have h2 : x + 2 ≤ y := by omega
      have h3 := Int.mul_le_mul_of_nonneg_right h2 (Int.le_of_lt hD)
      rw [Int.add_mul] at h3
      omega
  have a := key p1 p2 p3 q1 q2 q3
  have b := key q1 q2 q3 p1 p2 p3
  omega

theorem rnd_scale {N D q k : Int} (hk : 0 < k) : Rnd (N * k) (D * k) q ↔ Rnd N D q := by
  have e : 2 * (N * k - q * (D * k)) = 2 * (N - q * D) * k := by
    rw [← Int.mul_assoc q D k, ← Int.sub_mul, ← Int.mul_assoc]
  unfold Rnd
  rw [e, ← Int.neg_mul]
  have c1 : ∀ x y : Int, x * k ≤ y * k ↔ x ≤ y := fun x y => ⟨fun h => Int.le_of_mul_le_mul_right h hk, fun h => Int.mul_le_mul_of_nonneg_right h (Int.le_of_lt hk)⟩
  have c2 : ∀ x y : Int, x * k = y * k ↔ x = y := fun x y => ⟨fun h => Int.eq_of_mul_eq_mul_right (Int.ne_of_gt hk) h, fun h => by rw [h]⟩
  rw [c1, c1, c2, c2]
end

section
open PySem.NumText

/-! texts of ints -/
def Dig (n : Int) : Prop := n.natAbs < 10 ^ 4300
theorem dig_abs {n : Int} (h : Dig n) : Dig (if n < 0 then -n else n) := by
  unfold Dig at *
  generalize 10 ^ 4300 = z at *
  split <;> omega
theorem dig_fit {n : Int} (h : Dig n) : Fit n := by
  refine fit_iff.mpr (Nat.lt_of_lt_of_le h ?_)
  have h1 : (10 : Nat) ^ 4300 ≤ 16 ^ 4300 := Nat.pow_le_pow_left (by decide) _
  have h2 : (16 : Nat) ^ 4300 = 2 ^ 17200 := by
    rw [show (16 : Nat) = 2 ^ 4 from rfl, ← Nat.pow_mul]
  rw [h2] at h1
  exact Nat.le_trans h1 (Nat.pow_le_pow_right (by decide) (by decide))
def Txt (x : Str) (a : Int) : Prop := x = Str.ofString (toString a)

theorem txt_list {x : Str} {a : Nat} (h : Txt x a) : x.cps.toList = (Nat.toDigits 10 a).map Char.toNat := by
  rw [h]; exact KIN.signs_num a
theorem txt_len {x : Str} {a : Nat} (h : Txt x a) : x.length = (Nat.toDigits 10 a).length := by
  have e := congrArg List.length (txt_list h)
  rw [List.length_map] at e
  exact e
theorem txt_up {x : Str} {a : Nat} (h : Txt x a) : a < 10 ^ x.length := by
  have h1 := toDigits_len_ge 10 a
  rw [txt_len h]
  exact (Nat.length_toDigits_le_iff (by decide) h1).mp (Nat.le_refl _)
theorem txt_pos {x : Str} {a : Nat} (h : Txt x a) : 1 ≤ x.length := by
  rw [txt_len h]; exact toDigits_len_ge 10 a
theorem txt_low {x : Str} {a : Nat} (h : Txt x a) (h0 : 0 < a) : 10 ^ (x.length - 1) ≤ a := by
  rw [txt_len h]
  generalize hk : (Nat.toDigits 10 a).length = k
  by_cases h2 : k ≤ 1
  · rw [show k - 1 = 0 by omega, Nat.pow_zero]; exact h0
  · refine Nat.not_lt.mp fun h3 => ?_
    have h4 := (Nat.length_toDigits_le_iff (b := 10) (by decide) (show 0 < k - 1 by omega)).mpr h3
    omega
theorem txt_le {x : Str} {a k : Nat} (h : Txt x a) (hk : 0 < k) (ha : a < 10 ^ k) : x.length ≤ k := by
  rw [txt_len h]
  exact (Nat.length_toDigits_le_iff (by decide) hk).mpr ha
theorem txt_digits {x : Str} {a : Nat} (h : Txt x a) : AllDigits x.cps.toList := by
  intro c hc
  rw [txt_list h] at hc
  obtain ⟨ch, hch, e⟩ := List.mem_map.mp hc
  rw [← e]
  exact digit_range (Nat.isDigit_of_mem_toDigits (by decide) (by decide) hch)
theorem txt_val {x : Str} {a : Nat} (h : Txt x a) : digitsVal x.cps.toList = a := by
  rw [txt_list h]; exact KIN.val_back a

theorem fold_out (cs : List Nat) : ∀ a : Nat, cs.foldl (fun acc c => acc * 10 + (c - 48)) a = a * 10 ^ cs.length + digitsVal cs := by
  induction cs with
  | nil => intro a; simp [digitsVal]
  | cons c r ih =>
    intro a
    show r.foldl _ (a * 10 + (c - 48)) = a * 10 ^ (r.length + 1) + r.foldl (fun acc c => acc * 10 + (c - 48)) (0 * 10 + (c - 48))
    rw [ih, ih, Nat.add_mul, Nat.pow_succ]
    rw [Nat.zero_mul, Nat.zero_add, Nat.mul_assoc, Nat.mul_comm 10 (10 ^ r.length)]
    omega
theorem val_cons (c : Nat) (cs : List Nat) : digitsVal (c :: cs) = (c - 48) * 10 ^ cs.length + digitsVal cs := by
  show cs.foldl _ (0 * 10 + (c - 48)) = _
  rw [fold_out, Nat.zero_mul, Nat.zero_add]
theorem val_lt : ∀ {cs : List Nat}, AllDigits cs → digitsVal cs < 10 ^ cs.length
  | [], _ => by decide
  | c :: r, h => by
    have h1 := val_lt h.tail
    have h2 := h.head
    rw [val_cons, List.length_cons, Nat.pow_succ]
    have h3 : (c - 48) * 10 ^ r.length ≤ 9 * 10 ^ r.length := Nat.mul_le_mul_right _ (by omega)
    omega

/-- what stands ahead in the dictionary is no greater as a fraction -/
theorem lex_le : ∀ {x y : List Nat}, AllDigits x → AllDigits y → ¬ y < x → digitsVal x * 10 ^ y.length ≤ digitsVal y * 10 ^ x.length
  | [], y, _, _, _ => by simp [digitsVal]
  | c :: r, [], _, _, h => absurd (List.nil_lt_cons c r) h
  | c :: r, b :: t, hx, hy, h => by
    rw [List.cons_lt_cons_iff] at h
    have hc := hx.head
    have hb := hy.head
    have hr := val_lt hx.tail
    rw [val_cons, val_cons, List.length_cons, List.length_cons]
    by_cases e : c = b
    · subst e
      have h1 : ¬ t < r := fun h2 => h (Or.inr ⟨rfl, h2⟩)
      have ih := lex_le hx.tail hy.tail h1
      rw [Nat.add_mul, Nat.add_mul, Nat.pow_succ, Nat.pow_succ]
      have e1 : (c - 48) * 10 ^ r.length * (10 ^ t.length * 10) = (c - 48) * 10 ^ t.length * (10 ^ r.length * 10) := by
        rw [Nat.mul_assoc, Nat.mul_assoc, ← Nat.mul_assoc (10 ^ r.length), ← Nat.mul_assoc (10 ^ t.length), Nat.mul_comm (10 ^ r.length) (10 ^ t.length)]
      rw [e1, ← Nat.mul_assoc (digitsVal r), ← Nat.mul_assoc (digitsVal t)]
      exact Nat.add_le_add_left (Nat.mul_le_mul_right 10 ih) _
    · have h1 : c < b := by
        refine Nat.lt_of_le_of_ne (Nat.not_lt.mp fun h2 => h (Or.inl h2)) e
      have h2 : (c - 48) * 10 ^ r.length + digitsVal r ≤ (b - 48) * 10 ^ r.length := by
        have h3 : (c - 48 + 1) * 10 ^ r.length ≤ (b - 48) * 10 ^ r.length := Nat.mul_le_mul_right _ (by omega)
        rw [Nat.add_mul, Nat.one_mul] at h3
        omega
      refine Nat.le_trans (Nat.mul_le_mul_right _ h2) ?_
      have e1 : (b - 48) * 10 ^ r.length * 10 ^ (t.length + 1) = (b - 48) * 10 ^ t.length * 10 ^ (r.length + 1) := by
        rw [Nat.mul_assoc, Nat.mul_assoc, ← Nat.pow_add, ← Nat.pow_add]
        congr 2
        omega
      rw [e1]
      exact Nat.mul_le_mul_right _ (Nat.le_add_right _ _)

theorem bracket {a b : Nat} {xa xb : Str} (ha : 0 < a) (hb : 0 < b) (ta : Txt xa a) (tb : Txt xb b) {f E : Int} (hf : 1 ≤ f)
    (hE : E = ((xa.length : Int) - (xb.length : Int) + if (!decide (xa.cps.toList < xb.cps.toList)) = true then 1 else 0) - f) :
    10 ^ (f - 1).toNat * (b * 10 ^ E.toNat) ≤ a * 10 ^ (-E).toNat ∧ a * 10 ^ (-E).toNat ≤ 10 ^ f.toNat * (b * 10 ^ E.toNat) := by
  have a1 := txt_up ta
  have a2 := txt_low ta ha
  have a3 := txt_pos ta
  have b1 := txt_up tb
  have b2 := txt_low tb hb
  have b3 := txt_pos tb
  have va := txt_val ta
  have vb := txt_val tb
  have da := txt_digits ta
  have db := txt_digits tb
  have la : xa.cps.toList.length = xa.length := rfl
  have lb : xb.cps.toList.length = xb.length := rfl
  generalize hg : (f - 1).toNat = g
  have hf1 : f.toNat = g + 1 := by omega
  rw [hf1]
  generalize hu : E.toNat = u
  generalize hv : (-E).toNat = v
  have hp : ∀ k : Nat, 0 < 10 ^ k := fun k => Nat.pow_pos (by decide)
  by_cases hc : xa.cps.toList < xb.cps.toList
  · have hx := lex_le da db (List.not_lt.mpr (List.le_of_lt hc))
    rw [decide_eq_true hc] at hE
    simp only [Bool.not_true, Bool.false_eq_true, if_false] at hE
    rw [va, vb, la, lb] at hx
    generalize xa.length = A at *
    generalize xb.length = C at *
    have e : A + v = C + u + g + 1 := by omega
    constructor
    · have h1 : 10 ^ g * (b * 10 ^ u) ≤ 10 ^ g * (10 ^ C * 10 ^ u) := Nat.mul_le_mul_left _ (Nat.mul_le_mul_right _ (Nat.le_of_lt b1))
      refine Nat.le_trans h1 ?_
      have h2 : 10 ^ g * (10 ^ C * 10 ^ u) = 10 ^ (A - 1) * 10 ^ v := by
        rw [← Nat.pow_add, ← Nat.pow_add, ← Nat.pow_add]
        congr 1
        omega
      rw [h2]
      exact Nat.mul_le_mul_right _ a2
    · refine Nat.le_of_mul_le_mul_right (c := 10 ^ C) ?_ (hp C)
      have h1 : a * 10 ^ v * 10 ^ C = a * 10 ^ C * 10 ^ v := by ac_rfl
      have h2 : 10 ^ (g + 1) * (b * 10 ^ u) * 10 ^ C = b * 10 ^ A * 10 ^ v := by
        have h3 : 10 ^ (g + 1) * (b * 10 ^ u) * 10 ^ C = b * (10 ^ (g + 1) * 10 ^ u * 10 ^ C) := by ac_rfl
        rw [h3, Nat.mul_assoc b, ← Nat.pow_add, ← Nat.pow_add, ← Nat.pow_add]
        congr 2
        omega
      rw [h1, h2]
      exact Nat.mul_le_mul_right _ hx
  · have hx := lex_le db da hc
    rw [decide_eq_false hc] at hE
    simp only [Bool.not_false, if_true] at hE
    rw [va, vb, la, lb] at hx
    generalize xa.length = A at *
    generalize xb.length = C at *
    have e : A + v = C + u + g := by omega
    constructor
    · refine Nat.le_of_mul_le_mul_right (c := 10 ^ C) ?_ (hp C)
      have h1 : a * 10 ^ v * 10 ^ C = a * 10 ^ C * 10 ^ v := by ac_rfl
      have h2 : 10 ^ g * (b * 10 ^ u) * 10 ^ C = b * 10 ^ A * 10 ^ v := by
        have h3 : 10 ^ g * (b * 10 ^ u) * 10 ^ C = b * (10 ^ g * 10 ^ u * 10 ^ C) := by ac_rfl
        rw [h3, Nat.mul_assoc b, ← Nat.pow_add, ← Nat.pow_add, ← Nat.pow_add]
        congr 2
        omega
      rw [h1, h2]
      exact Nat.mul_le_mul_right _ hx
    · refine Nat.le_trans (Nat.mul_le_mul_right _ (Nat.le_of_lt a1)) ?_
      have h2 : 10 ^ A * 10 ^ v = 10 ^ (g + 1) * (10 ^ (C - 1) * 10 ^ u) := by
        rw [← Nat.pow_add, ← Nat.pow_add, ← Nat.pow_add]
        congr 1
        omega
      rw [h2]
      exact Nat.mul_le_mul_left _ (Nat.mul_le_mul_right _ b2)
end

section
theorem pp (k : Nat) : (0 : Int) < 10 ^ k := Int.pow_pos (by decide)

/-- what is known behind _round_to_figures' own call: the quotient's place and the rounded whole -/
def QK (n d f E q : Int) : Prop := n ≠ 0 ∧ 0 < d ∧ 1 ≤ f ∧ Rnd (n * 10 ^ (-E).toNat) (d * 10 ^ E.toNat) q ∧
  (0 < n → 10 ^ (f - 1).toNat * (d * 10 ^ E.toNat) ≤ n * 10 ^ (-E).toNat ∧ n * 10 ^ (-E).toNat ≤ 10 ^ f.toNat * (d * 10 ^ E.toNat)) ∧
  (n < 0 → 10 ^ (f - 1).toNat * (d * 10 ^ E.toNat) ≤ -(n * 10 ^ (-E).toNat) ∧ -(n * 10 ^ (-E).toNat) ≤ 10 ^ f.toNat * (d * 10 ^ E.toNat))

theorem fig_key {n d f q : Int} {xa xb : Str} (hq : Rnd (n * 10 ^ (-(((xa.length : Int) - (xb.length : Int) + if (!decide (xa.cps.toList < xb.cps.toList)) = true then 1 else 0) - f)).toNat) (d * 10 ^ (((xa.length : Int) - (xb.length : Int) + if (!decide (xa.cps.toList < xb.cps.toList)) = true then 1 else 0) - f).toNat) q)
    (hn : n ≠ 0) (hd : 0 < d) (hf : 1 ≤ f) (ta : Txt xa (if n < 0 then -n else n)) (tb : Txt xb d) :
    QK n d f (((xa.length : Int) - (xb.length : Int) + if (!decide (xa.cps.toList < xb.cps.toList)) = true then 1 else 0) - f) q := by
  generalize hE : ((xa.length : Int) - (xb.length : Int) + if (!decide (xa.cps.toList < xb.cps.toList)) = true then 1 else 0) - f = E at hq ⊢
  have en : (if n < 0 then -n else n) = ((n.natAbs : Nat) : Int) := by split <;> omega
  have ed : d = ((d.natAbs : Nat) : Int) := by omega
  rw [en] at ta
  rw [ed] at tb
  have br := bracket (by omega) (by omega) ta tb hf hE.symm
  refine ⟨hn, hd, hf, hq, fun h0 => ?_, fun h0 => ?_⟩
  · have e1 : n = ((n.natAbs : Nat) : Int) := by omega
    rw [e1, ed]
    exact_mod_cast br
  · have e1 : n = -((n.natAbs : Nat) : Int) := by omega
    have e2 : -(n * 10 ^ (-E).toNat) = ((n.natAbs : Nat) : Int) * 10 ^ (-E).toNat := by
      conv => lhs; rw [e1]
      rw [Int.neg_mul, Int.neg_neg]
    rw [e2, ed]
    exact_mod_cast br

theorem up_of {x y z : Int} (hz : 0 < z) (h : x * z < (y + 1) * z) : x ≤ y := by
  have := Int.lt_of_mul_lt_mul_right h (Int.le_of_lt hz)
  omega

theorem qk_range {n d f E q : Int} (h : QK n d f E q) : 10 ^ (f - 1).toNat ≤ (q.natAbs : Int) ∧ (q.natAbs : Int) ≤ 10 ^ f.toNat ∧ (n < 0 → q < 0) ∧ (0 < n → 0 < q) := by
  obtain ⟨hn, hd, hf, ⟨r1, r2, _⟩, hp, hm⟩ := h
  have hD : 0 < d * 10 ^ E.toNat := Int.mul_pos hd (pp _)
  have hg := pp (f - 1).toNat
  generalize d * 10 ^ E.toNat = D at *
  generalize n * 10 ^ (-E).toNat = N at *
  generalize (10 : Int) ^ (f - 1).toNat = G at *
  generalize (10 : Int) ^ f.toNat = H at *
  rcases Int.lt_or_gt_of_ne hn with h0 | h0
  · obtain ⟨b1, b2⟩ := hm h0
    have l1 : G ≤ -q := by
      refine up_of hD ?_
      rw [Int.add_mul, Int.neg_mul]
      omega
    have l2 : -q ≤ H := by
      refine up_of hD ?_
      rw [Int.add_mul, Int.neg_mul]
      omega
    omega
  · obtain ⟨b1, b2⟩ := hp h0
    have l1 : G ≤ q := by
      refine up_of hD ?_
      rw [Int.add_mul]
      omega
    have l2 : q ≤ H := by
      refine up_of hD ?_
      rw [Int.add_mul]
      omega
    omega

theorem dig_q {n d f E q : Int} (h : QK n d f E q) (hf : f ≤ 30) : Dig (q.natAbs : Int) := by
  have h1 := (qk_range h).2.1
  have h2 : (10 : Nat) ^ f.toNat ≤ 10 ^ 30 := Nat.pow_le_pow_right (by decide) (by omega)
  have h3 : (10 : Nat) ^ 30 < 10 ^ 4300 := Nat.pow_lt_pow_right (by decide) (by decide)
  have h4 : q.natAbs ≤ 10 ^ f.toNat := by exact_mod_cast h1
  unfold Dig
  rw [Int.natAbs_natCast]
  exact Nat.lt_of_le_of_lt (Nat.le_trans h4 h2) h3

/-- the answer of _round_to_figures for an n that is not 0 -/
def Fig (n d f s e : Int) : Prop := 10 ^ (f - 1).toNat ≤ s ∧ s < 10 ^ f.toNat ∧
  Rnd (n * 10 ^ (-e).toNat) (d * 10 ^ e.toNat) (if n < 0 then -s else s) ∧
  (s = 10 ^ (f - 1).toNat → (n < 0 ↔ 0 < n * 10 ^ (-e).toNat - (if n < 0 then -s else s) * (d * 10 ^ e.toNat)) →
    20 * (n * 10 ^ (-e).toNat - (if n < 0 then -s else s) * (d * 10 ^ e.toNat)) ≤ d * 10 ^ e.toNat ∧
    -(d * 10 ^ e.toNat) ≤ 20 * (n * 10 ^ (-e).toNat - (if n < 0 then -s else s) * (d * 10 ^ e.toNat)))

theorem sgn_q {n q : Int} (hn : n ≠ 0) (h1 : n < 0 → q < 0) (h2 : 0 < n → 0 < q) : (if n < 0 then -(q.natAbs : Int) else (q.natAbs : Int)) = q := by
  split <;> omega

theorem fig_plain {n d f E q : Int} {x : Str} (h : QK n d f E q) (hx : Txt x (q.natAbs : Int)) (hl : (x.length : Int) ≠ f + 1) : Fig n d f (q.natAbs : Int) E := by
  obtain ⟨g1, g2, g3, g4⟩ := qk_range h
  obtain ⟨hn, hd, hf, hr, hp, hm⟩ := h
  have hD : 0 < d * 10 ^ E.toNat := Int.mul_pos hd (pp _)
  have hlt : (q.natAbs : Int) < 10 ^ f.toNat := by
    refine Int.lt_iff_le_and_ne.mpr ⟨g2, fun e => hl ?_⟩
    have e' : q.natAbs = 10 ^ f.toNat := by exact_mod_cast e
    have u := txt_up hx
    have lo := txt_le hx (k := f.toNat + 1) (by omega) (by rw [e']; exact Nat.pow_lt_pow_right (by decide) (by omega))
    rw [e'] at u
    have := (Nat.pow_lt_pow_iff_right (a := 10) (by decide)).mp u
    omega
  refine ⟨g1, hlt, ?_, fun hs => ?_⟩
  · rw [sgn_q hn g3 g4]; exact hr
  · rw [sgn_q hn g3 g4]
    obtain ⟨r1, r2, _⟩ := hr
    rcases Int.lt_or_gt_of_ne hn with h0 | h0
    · obtain ⟨b1, _⟩ := hm h0
      have eq : q = -(10 ^ (f - 1).toNat) := by have := g3 h0; omega
      rw [eq, Int.neg_mul]
      generalize 10 ^ (f - 1).toNat * (d * 10 ^ E.toNat) = z at *
      generalize d * 10 ^ E.toNat = D at *
      generalize n * 10 ^ (-E).toNat = N at *
      omega
    · obtain ⟨b1, _⟩ := hp h0
      have eq : q = 10 ^ (f - 1).toNat := by have := g4 h0; omega
      rw [eq]
      generalize 10 ^ (f - 1).toNat * (d * 10 ^ E.toNat) = z at *
      generalize d * 10 ^ E.toNat = D at *
      generalize n * 10 ^ (-E).toNat = N at *
      omega

theorem fig_carry {n d f E q : Int} {x : Str} (h : QK n d f E q) (hx : Txt x (q.natAbs : Int)) (hl : (x.length : Int) = f + 1) : Fig n d f ((q.natAbs : Int).fdiv 10) (E + 1) := by
  obtain ⟨g1, g2, g3, g4⟩ := qk_range h
  obtain ⟨hn, hd, hf, ⟨r1, r2, _⟩, _, _⟩ := h
  have eT : (10 : Int) ^ f.toNat = 10 * 10 ^ (f - 1).toNat := by
    rw [show f.toNat = (f - 1).toNat + 1 by omega, Int.pow_succ, Int.mul_comm]
  have hs : (q.natAbs : Int) = 10 ^ f.toNat := by
    refine Int.le_antisymm g2 ?_
    have lo := txt_low hx (by
      have : (0 : Int) < q.natAbs := Int.lt_of_lt_of_le (pp _) g1
      omega)
    rw [show x.length - 1 = f.toNat by omega] at lo
    exact_mod_cast lo
  have hG := pp (f - 1).toNat
  have hq10 : (q.natAbs : Int).fdiv 10 = 10 ^ (f - 1).toNat := by
    rw [hs, eT, Int.fdiv_eq_ediv_of_nonneg _ (by decide)]
    omega
  rw [hq10]
  have key : 20 * (n * 10 ^ (-(E + 1)).toNat - (if n < 0 then -(10 ^ (f - 1).toNat) else 10 ^ (f - 1).toNat) * (d * 10 ^ (E + 1).toNat)) ≤ d * 10 ^ (E + 1).toNat ∧
    -(d * 10 ^ (E + 1).toNat) ≤ 20 * (n * 10 ^ (-(E + 1)).toNat - (if n < 0 then -(10 ^ (f - 1).toNat) else 10 ^ (f - 1).toNat) * (d * 10 ^ (E + 1).toNat)) := by
    have eq : q = 10 * (if n < 0 then -(10 ^ (f - 1).toNat) else 10 ^ (f - 1).toNat) := by
      have := sgn_q hn g3 g4
      rw [hs, eT] at this
      rw [← this]
      split <;> omega
    generalize (if n < 0 then -((10 : Int) ^ (f - 1).toNat) else 10 ^ (f - 1).toNat) = p at *
    rw [eq] at r1 r2
    by_cases hE : 0 ≤ E
    · have e1 : (-E).toNat = 0 := by omega
      have e2 : (-(E + 1)).toNat = 0 := by omega
      have e3 : (E + 1).toNat = E.toNat + 1 := by omega
      rw [e1] at r1 r2
      rw [e2, e3, Int.pow_succ]
      have e4 : p * (d * (10 ^ E.toNat * 10)) = 10 * p * (d * 10 ^ E.toNat) := by ac_rfl
      have e5 : d * (10 ^ E.toNat * 10) = 10 * (d * 10 ^ E.toNat) := by ac_rfl
      rw [e4, e5]
      generalize 10 * p * (d * 10 ^ E.toNat) = z at *
      generalize d * 10 ^ E.toNat = D at *
      generalize n * 10 ^ 0 = N at *
      omega
    · have e1 : E.toNat = 0 := by omega
      have e2 : (E + 1).toNat = 0 := by omega
      have e3 : (-E).toNat = (-(E + 1)).toNat + 1 := by omega
      rw [e1, e3, Int.pow_succ] at r1 r2
      rw [e2]
      have e4 : n * (10 ^ (-(E + 1)).toNat * 10) = 10 * (n * 10 ^ (-(E + 1)).toNat) := by ac_rfl
      have e5 : 10 * p * (d * 10 ^ 0) = 10 * (p * (d * 10 ^ 0)) := by ac_rfl
      rw [e4, e5] at r1 r2
      generalize p * (d * 10 ^ 0) = z at *
      generalize d * 10 ^ 0 = D at *
      generalize n * 10 ^ (-(E + 1)).toNat = N at *
      omega
  have hD : 0 < d * 10 ^ (E + 1).toNat := Int.mul_pos hd (pp _)
  refine ⟨Int.le_refl _, ?_, ?_, fun _ _ => key⟩
  · rw [eT]; omega
  · unfold Rnd
    generalize n * 10 ^ (-(E + 1)).toNat - (if n < 0 then -(10 ^ (f - 1).toNat) else 10 ^ (f - 1).toNat) * (d * 10 ^ (E + 1).toNat) = z at *
    omega
end

section
def Sm (n : Int) : Prop := n.natAbs < 10 ^ 400

/-- what holds between the turns: k turns are done -/
def Inv (n d : Int) (k : Nat) (left under total place : Int) : Prop :=
  (left = n ∧ under = d ∧ total = 0 ∧ place = 0) ∨
  (Rnd (n * 10 ^ (-place).toNat) (d * 10 ^ place.toNat) total ∧ left = n * 10 ^ (-place).toNat - total * 10 ^ place.toNat * d ∧ under = d * 10 ^ (-place).toNat ∧
    place ≤ 401 ∧ -(50 * (k : Int)) ≤ place)

theorem inv_start (n d : Int) : Inv n d 0 n d 0 0 := Or.inl ⟨rfl, rfl, rfl, rfl⟩
theorem inv_mono {n d : Int} {k k' : Nat} {left under total place : Int} (h : Inv n d k left under total place) (hk : k ≤ k') : Inv n d k' left under total place := by
  rcases h with h | ⟨h1, h2, h3, h4, h5⟩
  · exact Or.inl h
  · exact Or.inr ⟨h1, h2, h3, h4, by omega⟩

theorem sm_lit : Sm (-99995) := by
  unfold Sm
  refine Nat.lt_of_lt_of_le (show (-99995 : Int).natAbs < 10 ^ 5 by decide) (Nat.pow_le_pow_right (by decide) (by decide))
theorem sm_one (x : Int) : Sm (if (if x < 0 then -x else x) < 10 ^ Int.toNat 400 then x else x.fmod (10 ^ Int.toNat 400)) := by
  show Sm (if (if x < 0 then -x else x) < 10 ^ 400 then x else x.fmod (10 ^ 400))
  unfold Sm
  have hp := pp 400
  have hc : ((10 ^ 400 : Nat) : Int) = (10 : Int) ^ 400 := Int.natCast_pow 10 400
  have h1 := Int.fmod_nonneg_of_pos x hp
  have h2 := Int.fmod_lt_of_pos x hp
  generalize (10 : Int) ^ 400 = z at *
  generalize (10 : Nat) ^ 400 = y at *
  generalize x.fmod z = r at *
  split <;> split <;> omega
theorem sm_cell {xs : List Int} {i : Nat} : Sm ((xs.map fun x => if (if x < 0 then -x else x) < 10 ^ Int.toNat 400 then x else x.fmod (10 ^ Int.toNat 400)).getD i 0) := by
  rw [List.getD_eq_getElem?_getD, List.getElem?_map]
  cases xs[i]? with
  | none =>
    show Sm 0
    exact Nat.pow_pos (by decide)
  | some x => exact sm_one x

theorem bits_lt {x : Int} {k : Nat} (h : x.natAbs < 10 ^ k) : Builtin.Int.intBits x ≤ 4 * k := by
  refine intBits_le_iff.mpr (Nat.lt_of_lt_of_le h ?_)
  have h1 : (10 : Nat) ^ k ≤ 16 ^ k := Nat.pow_le_pow_left (by decide) _
  rw [show (16 : Nat) = 2 ^ 4 from rfl, ← Nat.pow_mul] at h1
  exact h1
theorem abs_mul_lt {x y : Int} {a b : Nat} (hx : x.natAbs < 10 ^ a) (hy : y.natAbs < 10 ^ b) : (x * y).natAbs < 10 ^ (a + b) := by
  rw [Int.natAbs_mul, Nat.pow_add]
  exact Nat.mul_lt_mul'' hx hy
theorem dig_of {x : Int} {k : Nat} (h : x.natAbs < 10 ^ k) (hk : k ≤ 4300) : Dig x := Nat.lt_of_lt_of_le h (Nat.pow_le_pow_right (by decide) hk)
theorem abs_pow (k : Nat) : ((10 : Int) ^ k).natAbs < 10 ^ (k + 1) := by
  rw [Int.natAbs_pow]
  exact Nat.pow_lt_pow_right (by decide) (by omega)

/-- what the law's turn knows behind _round_to_figures where something is left -/
def St (n d : Int) (k : Nat) (left under total place f s e : Int) : Prop :=
  Inv n d k left under total place ∧ left ≠ 0 ∧ 10 ^ (f - 1).toNat ≤ s ∧ s < 10 ^ f.toNat ∧
  Rnd (left * 10 ^ (-e).toNat) (under * 10 ^ e.toNat) (if left < 0 then -s else s) ∧
  (s = 10 ^ (f - 1).toNat → (left < 0 ↔ 0 < left * 10 ^ (-e).toNat - (if left < 0 then -s else s) * (under * 10 ^ e.toNat)) →
    20 * (left * 10 ^ (-e).toNat - (if left < 0 then -s else s) * (under * 10 ^ e.toNat)) ≤ under * 10 ^ e.toNat ∧
    -(under * 10 ^ e.toNat) ≤ 20 * (left * 10 ^ (-e).toNat - (if left < 0 then -s else s) * (under * 10 ^ e.toNat)))

theorem neg_scale {x k : Int} (hk : 0 < k) : x * k < 0 ↔ x < 0 := by
  constructor
  · intro h
    exact Int.not_le.mp fun h2 => absurd (Int.mul_nonneg h2 (Int.le_of_lt hk)) (Int.not_le.mpr h)
  · intro h
    exact Int.mul_neg_of_neg_of_pos h hk
theorem pos_scale {x k : Int} (hk : 0 < k) : 0 < x * k ↔ 0 < x := by
  have := neg_scale (x := -x) hk
  rw [Int.neg_mul] at this
  omega

theorem st_of {n d : Int} {k : Nat} {left under total place f s e c : Int} (I : Inv n d k left under total place) (hl : left ≠ 0) (hc : 0 < c) (h : Fig (left * c) (under * c) f s e) :
    St n d k left under total place f s e := by
  obtain ⟨h1, h2, h3, h4⟩ := h
  have en : (left * c < 0) = (left < 0) := propext (neg_scale hc)
  simp only [en] at h3 h4
  have e1 : left * c * 10 ^ (-e).toNat = left * 10 ^ (-e).toNat * c := by ac_rfl
  have e2 : under * c * 10 ^ e.toNat = under * 10 ^ e.toNat * c := by ac_rfl
  have e3 : ∀ q : Int, q * (under * 10 ^ e.toNat * c) = q * (under * 10 ^ e.toNat) * c := fun q => by rw [← Int.mul_assoc q]
  rw [e1, e2] at h3 h4
  rw [e3, ← Int.sub_mul] at h4
  refine ⟨I, hl, h1, h2, (rnd_scale hc).mp h3, fun a b => ?_⟩
  have h5 := h4 a (by rw [pos_scale hc]; exact b)
  rw [← Int.mul_assoc, ← Int.neg_mul] at h5
  exact ⟨Int.le_of_mul_le_mul_right h5.1 hc, Int.le_of_mul_le_mul_right h5.2 hc⟩

theorem st_ne {n d : Int} {k : Nat} {left under total place f s e : Int} (h : St n d k left under total place f s e) : (if left < 0 then -s else s) ≠ 0 := by
  have := pp (f - 1).toNat
  have := h.2.2.1
  split <;> omega

theorem inv_under {n d : Int} {k : Nat} {left under total place : Int} (I : Inv n d k left under total place) (hd : 1 ≤ d) : 0 < under := by
  rcases I with ⟨_, h, _⟩ | ⟨_, _, h, _⟩
  · omega
  · rw [h]
    exact Int.mul_pos (by omega) (pp _)

/-- a rest that is no more than half of the place rounds to nothing -/
theorem not_zero {N D q : Int} (hD : 0 < D) (h : Rnd N D q) (hq : q ≠ 0) : ¬ (2 * N ≤ D ∧ -D ≤ 2 * N) := by
  intro ⟨h1, h2⟩
  have h0 : Rnd N D 0 := by
    unfold Rnd
    rw [Int.zero_mul]
    omega
  exact hq (rnd_unique hD h h0)
end

section
theorem pow_mono {a b : Nat} (h : a ≤ b) : (10 : Int) ^ a ≤ 10 ^ b := by
  exact_mod_cast Nat.pow_le_pow_right (by decide) h
theorem pow_lt_iff {a b : Nat} : (10 : Int) ^ a < 10 ^ b ↔ a < b := by
  have := Nat.pow_lt_pow_iff_right (a := 10) (n := a) (m := b) (by decide)
  constructor
  · intro h
    exact this.mp (by exact_mod_cast h)
  · intro h
    exact_mod_cast this.mpr h

/-- the next place lies below the last one -/
theorem st_below {n d : Int} {k : Nat} {left under total place f s e : Int} (h : St n d k left under total place f s e) (hd : 1 ≤ d)
    (hr : Rnd (n * 10 ^ (-place).toNat) (d * 10 ^ place.toNat) total) (hL : left = n * 10 ^ (-place).toNat - total * 10 ^ place.toNat * d) (hU : under = d * 10 ^ (-place).toNat) : e < place := by
  have hz := st_ne h
  have hu := inv_under h.1 hd
  have hR := h.2.2.2.2.1
  refine Int.not_le.mp fun hle => not_zero (Int.mul_pos hu (pp _)) hR hz ?_
  obtain ⟨r1, r2, _⟩ := hr
  have e1 : total * (d * 10 ^ place.toNat) = total * 10 ^ place.toNat * d := by ac_rfl
  rw [e1, ← hL] at r1 r2
  have hG := pp (-e).toNat
  have key : d * 10 ^ place.toNat * 10 ^ (-e).toNat ≤ under * 10 ^ e.toNat := by
    rw [hU, Int.mul_assoc, Int.mul_assoc, ← Int.pow_add, ← Int.pow_add]
    exact Int.mul_le_mul_of_nonneg_left (pow_mono (by omega)) (by omega)
  have k1 := Int.mul_le_mul_of_nonneg_right r1 (Int.le_of_lt hG)
  have k2 := Int.mul_le_mul_of_nonneg_right r2 (Int.le_of_lt hG)
  rw [Int.mul_assoc 2] at k1 k2
  rw [Int.neg_mul] at k2
  omega

theorem sm_two {n : Int} (h : Sm n) : 2 * n ≤ 10 ^ 401 ∧ -(10 ^ 401) ≤ 2 * n := by
  unfold Sm at h
  have h1 : ((10 ^ 400 : Nat) : Int) = 10 ^ 400 := Int.natCast_pow 10 400
  have h2 : (10 : Int) ^ 401 = 10 ^ 400 * 10 := Int.pow_succ 10 400
  rw [h2]
  generalize (10 : Int) ^ 400 = z at *
  generalize (10 : Nat) ^ 400 = y at *
  omega

theorem st_high {n d : Int} {k : Nat} {left under total place f s e : Int} (h : St n d k left under total place f s e) (hd : 1 ≤ d) (hn : Sm n) : e ≤ 401 := by
  rcases h.1 with ⟨h1, h2, _⟩ | ⟨h1, h2, h3, h4, _⟩
  · have hz := st_ne h
    have hu := inv_under h.1 hd
    have hR := h.2.2.2.2.1
    refine Int.not_lt.mp fun hlt => not_zero (Int.mul_pos hu (pp _)) hR hz ?_
    obtain ⟨n1, n2⟩ := sm_two hn
    rw [show (-e).toNat = 0 by omega, Int.pow_zero, Int.mul_one, h1, h2]
    have a1 : (10 : Int) ^ 401 ≤ 10 ^ e.toNat := pow_mono (by omega)
    have a2 : 1 * (10 : Int) ^ e.toNat ≤ d * 10 ^ e.toNat := Int.mul_le_mul_of_nonneg_right hd (Int.le_of_lt (pp _))
    rw [Int.one_mul] at a2
    generalize d * 10 ^ e.toNat = z at *
    generalize (10 : Int) ^ e.toNat = y at *
    generalize (10 : Int) ^ 401 = x at *
    omega
  · have := st_below h hd h1 h2 h3
    omega

theorem st_low {n d : Int} {k : Nat} {left under total place f s e : Int} (h : St n d k left under total place f s e) (hd : 1 ≤ d) (hd' : d ≤ 10 ^ 20) (hf : f ≤ 30) : -(50 * ((k + 1 : Nat) : Int)) ≤ e := by
  refine Int.not_lt.mp fun hlt => ?_
  have hu := inv_under h.1 hd
  have hun : under ≤ 10 ^ (20 + 50 * k) := by
    rcases h.1 with ⟨_, h2, _⟩ | ⟨_, _, h3, _, h5⟩
    · rw [h2]
      exact Int.le_trans hd' (pow_mono (by omega))
    · rw [h3, Int.pow_add]
      exact Int.mul_le_mul hd' (pow_mono (by omega)) (Int.le_of_lt (pp _)) (Int.le_of_lt (pp _))
  obtain ⟨_, hl, g1, g2, ⟨r1, r2, _⟩, _⟩ := h
  have he0 : e.toNat = 0 := by omega
  rw [he0, Int.pow_zero, Int.mul_one] at r1 r2
  have hf1 : (10 : Int) ^ f.toNat ≤ 10 ^ 30 := pow_mono (by omega)
  have hs : s + 1 ≤ 10 ^ 30 := by omega
  have hp := pp (f - 1).toNat
  have b1 : (s + 1) * under ≤ 10 ^ 30 * 10 ^ (20 + 50 * k) := Int.mul_le_mul hs hun (Int.le_of_lt hu) (Int.le_of_lt (pp _))
  rw [← Int.pow_add, Int.add_mul, Int.one_mul] at b1
  have hG := pp (-e).toNat
  have b2 : (10 : Int) ^ (-e).toNat ≤ s * under + under := by
    by_cases h0 : left < 0
    · rw [if_pos h0, Int.neg_mul] at r1 r2
      have c1 : 1 * (10 : Int) ^ (-e).toNat ≤ -left * 10 ^ (-e).toNat := Int.mul_le_mul_of_nonneg_right (by omega) (Int.le_of_lt hG)
      rw [Int.one_mul, Int.neg_mul] at c1
      omega
    · rw [if_neg h0] at r1 r2
      have c1 : 1 * (10 : Int) ^ (-e).toNat ≤ left * 10 ^ (-e).toNat := Int.mul_le_mul_of_nonneg_right (by omega) (Int.le_of_lt hG)
      rw [Int.one_mul] at c1
      omega
  have b3 := Int.le_trans b2 b1
  have b4 : (10 : Int) ^ (30 + (20 + 50 * k)) < 10 ^ (-e).toNat := pow_lt_iff.mpr (by omega)
  omega

theorem core_eq {n d total q A B G H J : Int} (h : B * G = J * H * A) :
    (n * A - total * B * d) * G - q * (d * A * H) = A * (n * G - (total * J + q) * (d * H)) := by
  have e1 : total * B * d * G = total * d * (B * G) := by ac_rfl
  rw [Int.sub_mul, e1, h, Int.mul_sub, Int.add_mul, Int.mul_add]
  have e2 : n * A * G = A * (n * G) := by ac_rfl
  have e3 : total * d * (J * H * A) = A * (total * J * (d * H)) := by ac_rfl
  have e4 : q * (d * A * H) = A * (q * (d * H)) := by ac_rfl
  rw [e2, e3, e4]
  omega

/-- the turn's rest is, but for a factor, what is left of n / d -/
theorem st_rel {n d : Int} {k : Nat} {left under total place f s e T : Int} (h : St n d k left under total place f s e) (hd : 1 ≤ d)
    (hT : T = total * 10 ^ (place - e).toNat + (if left < 0 then -s else s)) :
    ∃ c : Int, 0 < c ∧ left * 10 ^ (-e).toNat - (if left < 0 then -s else s) * (under * 10 ^ e.toNat) = c * (n * 10 ^ (-e).toNat - T * (d * 10 ^ e.toNat)) ∧
      under * 10 ^ e.toNat = c * (d * 10 ^ e.toNat) ∧ T % 2 = (if left < 0 then -s else s) % 2 := by
  rcases h.1 with ⟨h1, h2, h3, h4⟩ | ⟨h1, h2, h3, h4, _⟩
  · refine ⟨1, by decide, ?_, ?_, ?_⟩
    · rw [hT, h3, Int.zero_mul, Int.zero_add, Int.one_mul, h1, h2]
    · rw [Int.one_mul, h2]
    · rw [hT, h3, Int.zero_mul, Int.zero_add]
  · have hb := st_below h hd h1 h2 h3
    refine ⟨10 ^ (-place).toNat, pp _, ?_, ?_, ?_⟩
    · rw [hT]
      generalize (if left < 0 then -s else s) = q
      rw [h2, h3]
      refine core_eq ?_
      rw [← Int.pow_add, ← Int.pow_add, ← Int.pow_add]
      congr 1
      omega
    · rw [h3]; ac_rfl
    · rw [hT, show (place - e).toNat = (place - e - 1).toNat + 1 by omega, Int.pow_succ]
      generalize (if left < 0 then -s else s) = q
      have e1 : total * (10 ^ (place - e - 1).toNat * 10) = 2 * (total * 10 ^ (place - e - 1).toNat * 5) := by
        rw [show (10 : Int) ^ (place - e - 1).toNat * 10 = 10 ^ (place - e - 1).toNat * (5 * 2) from rfl]
        ac_rfl
      rw [e1]
      omega

theorem rnd_shift {N D q N' D' q' c : Int} (hc : 0 < c) (h : Rnd N D q) (hX : N - q * D = c * (N' - q' * D')) (hD : D = c * D') (hq : q' % 2 = q % 2) : Rnd N' D' q' := by
  obtain ⟨r1, r2, r3⟩ := h
  have e : 2 * (N - q * D) = c * (2 * (N' - q' * D')) := by rw [hX]; ac_rfl
  rw [e] at r1 r2 r3
  rw [hD] at r1 r2 r3
  rw [← Int.mul_neg] at r2 r3
  refine ⟨Int.le_of_mul_le_mul_left r1 hc, Int.le_of_mul_le_mul_left r2 hc, fun hh => ?_⟩
  rw [hq]
  refine r3 ?_
  rcases hh with hh | hh
  · left; rw [hh]
  · right; rw [hh]

/-- all that the law asks of a turn -/
theorem turn {n d : Int} {k : Nat} {left under total place f s e T : Int} (h : St n d k left under total place f s e) (hd : 1 ≤ d)
    (hT : T = total * 10 ^ (place - e).toNat + (if left < 0 then -s else s)) :
    Rnd (n * 10 ^ (-e).toNat) (d * 10 ^ e.toNat) T ∧ T % 2 = s % 2 ∧
    (s = 10 ^ (f - 1).toNat → (left < 0 ↔ 0 < n * 10 ^ (-e).toNat - T * 10 ^ e.toNat * d) →
      20 * (n * 10 ^ (-e).toNat - T * 10 ^ e.toNat * d) ≤ d * 10 ^ e.toNat ∧ -(d * 10 ^ e.toNat) ≤ 20 * (n * 10 ^ (-e).toNat - T * 10 ^ e.toNat * d)) := by
  obtain ⟨c, hc, hX, hD, hp⟩ := st_rel h hd hT
  obtain ⟨_, hl, g1, g2, hR, h3⟩ := h
  refine ⟨rnd_shift hc hR hX hD hp, ?_, fun hs hi => ?_⟩
  · rw [hp]
    split <;> omega
  · have e1 : T * 10 ^ e.toNat * d = T * (d * 10 ^ e.toNat) := by ac_rfl
    rw [e1] at hi ⊢
    have h4 := h3 hs (by
      rw [hX, Int.mul_comm c, pos_scale hc]
      exact hi)
    rw [hX, hD] at h4
    have e2 : 20 * (c * (n * 10 ^ (-e).toNat - T * (d * 10 ^ e.toNat))) = c * (20 * (n * 10 ^ (-e).toNat - T * (d * 10 ^ e.toNat))) := by ac_rfl
    rw [e2, ← Int.mul_neg] at h4
    exact ⟨Int.le_of_mul_le_mul_left h4.1 hc, Int.le_of_mul_le_mul_left h4.2 hc⟩

theorem inv_next {n d : Int} {k : Nat} {left under total place f s e T : Int} (h : St n d k left under total place f s e) (hd : 1 ≤ d) (hd' : d ≤ 10 ^ 20) (hn : Sm n) (hf : f ≤ 30)
    (hT : T = total * 10 ^ (place - e).toNat + (if left < 0 then -s else s)) :
    Inv n d (k + 1) (n * 10 ^ (-e).toNat - T * 10 ^ e.toNat * d) (d * 10 ^ (-e).toNat) T e :=
  Or.inr ⟨(turn h hd hT).1, rfl, rfl, st_high h hd hn, st_low h hd hd' hf⟩
end

section
theorem imul_fit {prog : Program} {w : World} {A : Around} {E : Value → Shared → Prop} {s : Shared} {a : Int} {k : Nat} {t u : Tok} {Q : Value → Shared → Prop}
    (ha : Fit a) (hb : Fit (10 ^ k)) (h : ∀ p : Int, p = a * 10 ^ k → (0 < a → 0 < p) → (p < 0 ↔ a < 0) → Q (.int p s.toks) { s with toks := s.toks + 1 }) : wpAny (model prog w) A (inplaceOp .Mult (.int a t) (.int (10 ^ k) u)) Q E s :=
  imul_int (h _ rfl (fun h0 => Int.mul_pos h0 (Int.pow_pos (by decide))) (by
    have hk : (0 : Int) < 10 ^ k := Int.pow_pos (by decide)
    constructor
    · intro h1
      exact Int.not_le.mp fun h2 => absurd (Int.mul_nonneg h2 (Int.le_of_lt hk)) (Int.not_le.mpr h1)
    · intro h1
      exact Int.mul_neg_of_neg_of_pos h1 hk)) (IntMulOk.of_bits (Nat.le_trans ha (by decide)) (Nat.le_trans hb (by decide)))

/-- the contract of _round_to_exponent: what comes back is the sign and the size of the rounded quotient -/
abbrev EBack (h₀ : Heap) (L : Addr) (m : Str → Option Value) (news : List (Addr × Obj)) (s : Shared) (Q : Value → Shared → Prop) (n d e : Int) : Prop :=
  ∀ (q : Int) (D : Addr) (t : Tok) (c : Nat) (h' : Heap) (tk' : Nat), Rnd (n * 10 ^ (-e).toNat) (d * 10 ^ e.toNat) q → Fr h₀ L h' m →
    News h₀ L h' ((D, ({ cls := .type "tuple", data := .seq #[.bool (decide (n < 0)), .int (q.natAbs : Int) t] c } : Obj)) :: news) → AllLt D news → Q (.ref D) { s with heap := h', toks := tk' }

theorem rte_end {h₀ h' : Heap} {L D : Addr} {m : Str → Option Value} {news : List (Addr × Obj)} {x : Addr × Obj} {s : Shared} {Q : Value → Shared → Prop} {n d e q : Int} {b : Bool} {t : Tok} {c tk' : Nat} {y : Prop}
    (hret : EBack h₀ L m news s Q n d e)
    (F : Fr h₀ L h' m) (N : News h₀ L h' ((D, ({ cls := .type "tuple", data := .seq #[.bool b, .int (if q < 0 then -q else q) t] c } : Obj)) :: x :: news)) (l : y ∧ AllLt D news)
    (hb : b = decide (n < 0)) (hq : Rnd (n * 10 ^ (-e).toNat) (d * 10 ^ e.toNat) q) : Q (.ref D) { s with heap := h', toks := tk' } := by
  subst hb
  have hv : (if q < 0 then -q else q) = (q.natAbs : Int) := by split <;> omega
  rw [hv] at N
  exact hret q D t c h' tk' hq F (fun p hp => N p (by
    rcases List.mem_cons.mp hp with rfl | hp
    · exact .head _
    · exact .tail _ (.tail _ hp))) l.2

theorem up_is {n d e p : Int} {Z : Int} (he : 0 ≤ e) (hp : p = d * 10 ^ e.toNat) (h : Rnd n p Z) : Rnd (n * 10 ^ (-e).toNat) (d * 10 ^ e.toNat) Z := by
  rw [show (-e).toNat = 0 by omega, Int.pow_zero, Int.mul_one, ← hp]
  exact h
theorem down_is {n d e p : Int} {Z : Int} (he : ¬ 0 ≤ e) (hp : p = n * 10 ^ (-e).toNat) (h : Rnd p d Z) : Rnd (n * 10 ^ (-e).toNat) (d * 10 ^ e.toNat) Z := by
  rw [show e.toNat = 0 by omega, Int.pow_zero, Int.mul_one, ← hp]
  exact h

local macro_rules | `(tactic| walk_at "inplaceOp Mult int int") => `(tactic| (refine' imul_fit ?k1 ?k2 ?_; (case k1 => assumption); (case k2 => exact fit_pow (by omega)); intro p' hp' hpp' hpn'))

local macro_rules | `(tactic| walk_at "call builtin:divmod") => `(tactic| (refine' divmod_N ?k1 ?k2 ?k3 ?_ (Or.inr (PylongRoom.of ?k4 ?k5)); (case k1 => assumption); (case k2 => assumption); (case k3 => omega); (case k4 => exact PySem.Heap.NoLimit.keeps (PyProof.Rows.Top.nolimit (by assumption)) (PyProof.Rows.Fr.keep (by assumption))); (case k5 => (simp only [depth_deeper, Builtin.pylongFrames, recursionLimit] at *); omega); intro h' F' N'))

set_option maxRecDepth 100000 in
set_option maxHeartbeats 8000000 in
theorem rte_call {w : World} {mean : ExcName → Option Value} {mg mb : Str → Option Value} {dp un : Nat} {gd : Option (List Code)} {cn : Str} {cs : Scope} {a : Addr} {ccd : Value} {cl : List (Str × Addr)} {outer : List Env} {A₀ : Around} {base h₀ : Heap} {L : Addr} {m : Str → Option Value} {news : List (Addr × Obj)} {s : Shared} {n d e : Int} {tn td te : Tok}
    {Q E : Value → Shared → Prop} (B : Below A₀ base outer h₀) (F : Fr h₀ L s.heap m) (X : (hd.heap_39 w.params).In h₀) (N : News h₀ L s.heap news)
    (T : Top hd.view_39 (looseW hd.view_39 [Str.ofString "_round_to_exponent"]) mean mg mb h₀) (hk : cs.kind = .function) (hdp : dp + 200 < recursionLimit) (hun : un + 8 < cLine)
    (hd0 : 0 < d) (hn : Fit n) (hdF : Fit d) (he : e ≤ 5000) (he' : -5000 ≤ e)
    (hret : EBack h₀ L m news s Q n d e) :
    wpAny (model PySem.Challenge.rw_dw0009_01.row.prog w) (ktrTop dp un gd cn cs L a ccd cl outer) (call (.ref 22) [.int n tn, .int d td, .int e te]) Q E s := by
  revert X; k_fill; intro X
  refine wpAny_call ?_
  k_dflt (refine' code_def (by k_asm) (by k_asm) (by k_asm) (by k_asm) (by k_asm) rfl rfl hk (by k_is) (by k_is) (by ktr_room) (binds_K (by k_in) rfl (by k_is) rfl rfl rfl) (locs rfl) ?_ rfl rfl rfl (by decide))
  k_whole
  intro g' L' h' FG' F' N' B' X' T'
  try dsimp only
  try k_lift B'
  try k_fold
  k_steps
  · exact rte_end (Q := Q) (s := s) hret (by assumption) (by assumption) (by with_reducible assumption) rfl (up_is (by with_reducible assumption) (by with_reducible assumption) (rnd_a (by omega) (by with_reducible assumption) (by with_reducible assumption)))
  · exact rte_end (Q := Q) (s := s) hret (by assumption) (by assumption) (by with_reducible assumption) rfl (up_is (by with_reducible assumption) (by with_reducible assumption) (rnd_b (by omega) (by with_reducible assumption) (by with_reducible assumption)))
  · exact rte_end (Q := Q) (s := s) hret (by assumption) (by assumption) (by with_reducible assumption) rfl (up_is (by with_reducible assumption) (by with_reducible assumption) (rnd_c (by omega) (by with_reducible assumption)))
  · exact rte_end (Q := Q) (s := s) hret (by assumption) (by assumption) (by with_reducible assumption) (decide_eq_decide.mpr (by with_reducible assumption)) (down_is (by with_reducible assumption) (by with_reducible assumption) (rnd_a (by omega) (by with_reducible assumption) (by with_reducible assumption)))
  · exact rte_end (Q := Q) (s := s) hret (by assumption) (by assumption) (by with_reducible assumption) (decide_eq_decide.mpr (by with_reducible assumption)) (down_is (by with_reducible assumption) (by with_reducible assumption) (rnd_b (by omega) (by with_reducible assumption) (by with_reducible assumption)))
  · exact rte_end (Q := Q) (s := s) hret (by assumption) (by assumption) (by with_reducible assumption) (decide_eq_decide.mpr (by with_reducible assumption)) (down_is (by with_reducible assumption) (by with_reducible assumption) (rnd_c (by omega) (by with_reducible assumption)))
end

section
theorem str_dig {prog : Program} {w : World} {A : Around} {E : Value → Shared → Prop} {s : Shared} {a : Int} {t : Tok} {Q : Value → Shared → Prop}
    (hh : A.handled = none) (hn : s.heap.NoDigits) (ha : Dig a) (h : ∀ x : Str, Txt x a → x.length ≤ 4301 → Q (.str x s.toks) { s with toks := s.toks + 1 }) :
    wpAny (model prog w) A (call (.type "str") [.int a t]) Q E s := by
  refine str_of_int_or hh hn (fun hlt => h _ rfl ?_) (fun h2 => absurd ha (Nat.not_lt.mpr h2))
  rw [PySem.ofString_length]
  exact int_text_length_le10 (by decide) hlt

abbrev FBack (h₀ : Heap) (L : Addr) (m : Str → Option Value) (news : List (Addr × Obj)) (s : Shared) (Q : Value → Shared → Prop) (n d f : Int) : Prop :=
  ∀ (r e : Int) (D : Addr) (t u : Tok) (c : Nat) (h' : Heap) (tk' : Nat), (n = 0 → r = 0 ∧ e = 1 - f) → (n ≠ 0 → Fig n d f r e) → -4400 ≤ e → e ≤ 4400 → Fr h₀ L h' m →
    News h₀ L h' ((D, ({ cls := .type "tuple", data := .seq #[.bool (decide (n < 0)), .int r t, .int e u] c } : Obj)) :: news) → AllLt D news → Q (.ref D) { s with heap := h', toks := tk' }

theorem rtf_end0 {h₀ h' : Heap} {L D : Addr} {m : Str → Option Value} {news : List (Addr × Obj)} {s : Shared} {Q : Value → Shared → Prop} {n d f : Int} {t u : Tok} {c tk' : Nat}
    (hret : FBack h₀ L m news s Q n d f) (hn : n = 0) (h1 : 1 ≤ f) (h2 : f ≤ 30)
    (F : Fr h₀ L h' m) (N : News h₀ L h' ((D, ({ cls := .type "tuple", data := .seq #[.bool false, .int 0 t, .int (1 - f) u] c } : Obj)) :: news)) (l : ∀ p ∈ news, p.1 < D) :
    Q (.ref D) { s with heap := h', toks := tk' } := by
  subst hn
  exact hret 0 (1 - f) D t u c h' tk' (fun _ => ⟨rfl, rfl⟩) (fun h => absurd rfl h) (by omega) (by omega) F N (allLt_of l)

theorem rtf_end {h₀ h' : Heap} {L D : Addr} {m : Str → Option Value} {news : List (Addr × Obj)} {x y : Addr × Obj} {s : Shared} {Q : Value → Shared → Prop} {n d f r e : Int} {t u : Tok} {c tk' : Nat} {z z' : Prop}
    (hret : FBack h₀ L m news s Q n d f) (hn : n ≠ 0)
    (F : Fr h₀ L h' m) (N : News h₀ L h' ((D, ({ cls := .type "tuple", data := .seq #[.bool (decide (n < 0)), .int r t, .int e u] c } : Obj)) :: x :: y :: news)) (l : z ∧ z' ∧ AllLt D news)
    (hq : Fig n d f r e) (h1 : -4400 ≤ e) (h2 : e ≤ 4400) : Q (.ref D) { s with heap := h', toks := tk' } :=
  hret r e D t u c h' tk' (fun h => absurd h hn) (fun _ => hq) h1 h2 F (fun p hp => N p (by
    rcases List.mem_cons.mp hp with rfl | hp
    · exact .head _
    · exact .tail _ (.tail _ (.tail _ hp)))) l.2.2

local macro_rules | `(tactic| walk_at "call type:str") => `(tactic| (refine' str_dig ?k1 ?k2 ?k3 ?_; (case k1 => exact rfl); (case k2 => exact PySem.Heap.NoDigits.keeps (PyProof.Rows.Top.nodigits (by assumption)) (PyProof.Rows.Fr.keep (by assumption))); (case k3 => first | assumption | exact dig_abs (by assumption) | exact dig_q (by assumption) (by assumption)); intro x' hx' hl'))

local macro_rules | `(tactic| walk_at "call ref") => `(tactic| (k_dflt (refine' rte_call ?k1 ?k2 ?k3 ?k4 ?k5 ?k6 ?k7 ?k8 ?k9 ?k10 ?k11 ?k12 ?k13 ?_; (case k1 => k_asm); (case k2 => k_asm); (case k3 => k_asm); (case k4 => k_asm); (case k5 => k_asm); (case k6 => first | exact rfl | assumption); (case k7 => ktr_room); (case k8 => ktr_units); (case k9 => omega); (case k10 => exact dig_fit (by assumption)); (case k11 => exact dig_fit (by assumption)); (case k12 => omega); (case k13 => omega)); intro q' D' t' c' h' tk' hq' F' N' l1; (replace hq' := fig_key hq' (by assumption) (by assumption) (by assumption) (by assumption) (by assumption)); (try simp only [AllLt, and_true] at l1); (try dsimp only); (try k_fold)))

set_option maxRecDepth 100000 in
set_option maxHeartbeats 8000000 in
theorem rtf_call {w : World} {mean : ExcName → Option Value} {mg mb : Str → Option Value} {dp un : Nat} {gd : Option (List Code)} {cn : Str} {cs : Scope} {a : Addr} {ccd : Value} {cl : List (Str × Addr)} {outer : List Env} {A₀ : Around} {base h₀ : Heap} {L : Addr} {m : Str → Option Value} {news : List (Addr × Obj)} {s : Shared} {n d f : Int} {tn td te : Tok}
    {Q E : Value → Shared → Prop} (B : Below A₀ base outer h₀) (F : Fr h₀ L s.heap m) (X : (hd.heap_39 w.params).In h₀) (N : News h₀ L s.heap news)
    (T : Top hd.view_39 (looseW hd.view_39 [Str.ofString "_round_to_exponent"]) mean mg mb h₀) (hk : cs.kind = .function) (hdp : dp + 210 < recursionLimit) (hun : un + 30 < cLine)
    (hd0 : 0 < d) (hn : Dig n) (hdF : Dig d) (hf : 1 ≤ f) (hf' : f ≤ 30) (hret : FBack h₀ L m news s Q n d f) :
    wpAny (model PySem.Challenge.rw_dw0009_01.row.prog w) (ktrTop dp un gd cn cs L a ccd cl outer) (call (.ref 29) [.int n tn, .int d td, .int f te]) Q E s := by
  revert X; k_fill; intro X
  refine wpAny_call ?_
  k_dflt cell_enter
  k_steps
  · exact rtf_end0 (Q := Q) (s := s) hret (by with_reducible assumption) hf hf' (by assumption) (by assumption) (by assumption)
  · exact rtf_end (Q := Q) (s := s) hret (by with_reducible assumption) (by assumption) (by assumption) (by with_reducible assumption) (fig_carry (by with_reducible assumption) (by with_reducible assumption) (by with_reducible assumption)) (by omega) (by omega)
  · exact rtf_end (Q := Q) (s := s) hret (by with_reducible assumption) (by assumption) (by assumption) (by with_reducible assumption) (fig_plain (by with_reducible assumption) (by with_reducible assumption) (by with_reducible assumption)) (by omega) (by omega)
end

section
theorem abs_d {d : Int} (h1 : 1 ≤ d) (h2 : d ≤ 10 ^ 20) : d.natAbs < 10 ^ 21 := by omega
theorem abs_c {c : Int} (h1 : 1 ≤ c) (h2 : c ≤ 97) : c.natAbs < 10 ^ 2 := by omega
theorem fit_lt {x : Int} {k : Nat} (h : x.natAbs < 10 ^ k) (hk : k ≤ 16384) : Fit x := Nat.le_trans (bits_lt h) (by omega)

theorem left_abs {n d : Int} {k : Nat} {left under total place : Int} (I : Inv n d k left under total place) (hd : 1 ≤ d) (hd' : d ≤ 10 ^ 20) (hn : Sm n) : left.natAbs < 10 ^ 423 := by
  rcases I with ⟨h1, _⟩ | ⟨h1, h2, _, h4, _⟩
  · rw [h1]
    exact Nat.lt_of_lt_of_le hn (Nat.pow_le_pow_right (by decide) (by decide))
  · obtain ⟨r1, r2, _⟩ := h1
    have e1 : total * (d * 10 ^ place.toNat) = total * 10 ^ place.toNat * d := by ac_rfl
    rw [e1, ← h2] at r1 r2
    have hD : (d * 10 ^ place.toNat).natAbs < 10 ^ (21 + (place.toNat + 1)) := abs_mul_lt (abs_d hd hd') (abs_pow _)
    have hp : 0 < d * 10 ^ place.toNat := Int.mul_pos (by omega) (pp _)
    have h5 : left.natAbs ≤ (d * 10 ^ place.toNat).natAbs := by
      generalize d * 10 ^ place.toNat = z at *
      omega
    exact Nat.lt_of_lt_of_le (Nat.lt_of_le_of_lt h5 hD) (Nat.pow_le_pow_right (by decide) (by omega))
theorem under_abs {n d : Int} {k : Nat} {left under total place : Int} (I : Inv n d k left under total place) (hd : 1 ≤ d) (hd' : d ≤ 10 ^ 20) (hk : k ≤ 66) : under.natAbs < 10 ^ 3322 := by
  rcases I with ⟨_, h2, _⟩ | ⟨_, _, h3, _, h5⟩
  · rw [h2]
    exact Nat.lt_of_lt_of_le (abs_d hd hd') (Nat.pow_le_pow_right (by decide) (by decide))
  · rw [h3]
    exact Nat.lt_of_lt_of_le (abs_mul_lt (abs_d hd hd') (abs_pow _)) (Nat.pow_le_pow_right (by decide) (by omega))
theorem total_abs {n d : Int} {k : Nat} {left under total place : Int} (I : Inv n d k left under total place) (hd : 1 ≤ d) (hn : Sm n) (hk : k ≤ 66) : total.natAbs < 10 ^ 3702 := by
  rcases I with ⟨_, _, h3, _⟩ | ⟨h1, _, _, _, h5⟩
  · rw [h3]
    exact Nat.pow_pos (by decide)
  · obtain ⟨r1, r2, _⟩ := h1
    have hN : (n * 10 ^ (-place).toNat).natAbs < 10 ^ (400 + ((-place).toNat + 1)) := abs_mul_lt hn (abs_pow _)
    have hp : 0 < d * 10 ^ place.toNat := Int.mul_pos (by omega) (pp _)
    have h6 : total.natAbs ≤ (n * 10 ^ (-place).toNat).natAbs + 1 := by
      generalize d * 10 ^ place.toNat = z at *
      generalize n * 10 ^ (-place).toNat = y at *
      have a1 : total * z ≤ (y.natAbs + 1) * z := by
        have : (y.natAbs : Int) * 1 ≤ y.natAbs * z := Int.mul_le_mul_of_nonneg_left (by omega) (by omega)
        rw [Int.add_mul, Int.one_mul]
        omega
      have a2 : -total * z ≤ (y.natAbs + 1) * z := by
        have : (y.natAbs : Int) * 1 ≤ y.natAbs * z := Int.mul_le_mul_of_nonneg_left (by omega) (by omega)
        rw [Int.add_mul, Int.one_mul, Int.neg_mul]
        omega
      have b1 := Int.le_of_mul_le_mul_right a1 hp
      have b2 := Int.le_of_mul_le_mul_right a2 hp
      omega
    have h7 : (n * 10 ^ (-place).toNat).natAbs + 1 ≤ 10 ^ (400 + ((-place).toNat + 1)) := hN
    exact Nat.lt_of_le_of_lt (Nat.le_trans h6 h7) (Nat.pow_lt_pow_right (by decide) (by omega))

theorem inv_place {n d : Int} {k : Nat} {left under total place : Int} (I : Inv n d k left under total place) : place ≤ 401 := by
  rcases I with ⟨_, _, _, h⟩ | ⟨_, _, _, h, _⟩ <;> omega
section
variable {w : World} {mean : ExcName → Option Value} {mg mb : Str → Option Value} {dp un : Nat} {gd : Option (List Code)} {cn : Str} {cs : Scope} {a : Addr} {ccd : Value} {cl : List (Str × Addr)} {outer : List Env} {A₀ : Around} {base h₀ : Heap} {L : Addr} {m : Str → Option Value} {news : List (Addr × Obj)} {s : Shared} {n d c e : Int} {tn td te : Tok} {Q E : Value → Shared → Prop}

theorem rte_law {T : Int} (B : Below A₀ base outer h₀) (F : Fr h₀ L s.heap m) (X : (hd.heap_39 w.params).In h₀) (N : News h₀ L s.heap news)
    (Tp : Top hd.view_39 (looseW hd.view_39 [Str.ofString "_round_to_exponent"]) mean mg mb h₀) (hk : cs.kind = .function) (hdp : dp + 200 < recursionLimit) (hun : un + 8 < cLine)
    (hn : Sm n) (h1 : 1 ≤ d) (h2 : d ≤ 10 ^ 20) (h3 : 1 ≤ c) (h4 : c ≤ 97) (he : e ≤ 5000) (he' : -5000 ≤ e) (hT : Rnd (n * 10 ^ (-e).toNat) (d * 10 ^ e.toNat) T)
    (hret : ∀ (D : Addr) (t : Tok) (k : Nat) (h' : Heap) (tk' : Nat), Fr h₀ L h' m → News h₀ L h' ((D, ({ cls := .type "tuple", data := .seq #[.bool (decide (n < 0)), .int (if T < 0 then -T else T) t] k } : Obj)) :: news) → AllLt D news → Q (.ref D) { s with heap := h', toks := tk' }) :
    wpAny (model PySem.Challenge.rw_dw0009_01.row.prog w) (ktrTop dp un gd cn cs L a ccd cl outer) (call (.ref 22) [.int (n * c) tn, .int (d * c) td, .int e te]) Q E s := by
  have hc : 0 < c := by omega
  refine rte_call B F X N Tp hk hdp hun (Int.mul_pos (by omega) hc) (fit_lt (abs_mul_lt hn (abs_c h3 h4)) (by decide)) (fit_lt (abs_mul_lt (abs_d h1 h2) (abs_c h3 h4)) (by decide)) he he' ?_
  intro q D t k h' tk' hq F' N' l'
  have e1 : n * c * 10 ^ (-e).toNat = n * 10 ^ (-e).toNat * c := by ac_rfl
  have e2 : d * c * 10 ^ e.toNat = d * 10 ^ e.toNat * c := by ac_rfl
  rw [e1, e2] at hq
  have eq := rnd_unique (Int.mul_pos (by omega) (pp _)) ((rnd_scale hc).mp hq) hT
  have en : (decide (n * c < 0)) = decide (n < 0) := decide_eq_decide.mpr (neg_scale hc)
  have ev : (q.natAbs : Int) = if T < 0 then -T else T := by rw [eq]; split <;> omega
  rw [en, ev] at N'
  exact hret D t k h' tk' F' N' l'

theorem rte_law0 (B : Below A₀ base outer h₀) (F : Fr h₀ L s.heap m) (X : (hd.heap_39 w.params).In h₀) (N : News h₀ L s.heap news)
    (Tp : Top hd.view_39 (looseW hd.view_39 [Str.ofString "_round_to_exponent"]) mean mg mb h₀) (hk : cs.kind = .function) (hdp : dp + 200 < recursionLimit) (hun : un + 8 < cLine)
    (hn : Sm n) (h1 : 1 ≤ d) (h2 : d ≤ 10 ^ 20) (h3 : 1 ≤ c) (h4 : c ≤ 97)
    (hret : ∀ (D : Addr) (t : Tok) (k : Nat) (h' : Heap) (tk' : Nat), Fr h₀ L h' m → News h₀ L h' ((D, ({ cls := .type "tuple", data := .seq #[.bool (decide (n < 0)), .int 0 t] k } : Obj)) :: news) → AllLt D news → Q (.ref D) { s with heap := h', toks := tk' }) :
    wpAny (model PySem.Challenge.rw_dw0009_01.row.prog w) (ktrTop dp un gd cn cs L a ccd cl outer) (call (.ref 22) [.int (n * c) tn, .int (d * c) td, .int 401 te]) Q E s := by
  refine rte_law (T := 0) B F X N Tp hk hdp hun hn h1 h2 h3 h4 (by decide) (by decide) ?_ hret
  obtain ⟨n1, n2⟩ := sm_two hn
  have a2 : 1 * (10 : Int) ^ 401 ≤ d * 10 ^ 401 := Int.mul_le_mul_of_nonneg_right h1 (Int.le_of_lt (pp _))
  rw [Int.one_mul] at a2
  show Rnd (n * 10 ^ 0) (d * 10 ^ 401) 0
  unfold Rnd
  rw [Int.zero_mul, Int.pow_zero, Int.mul_one]
  generalize d * 10 ^ 401 = z at *
  generalize (10 : Int) ^ 401 = y at *
  omega

theorem rtf_law {k : Nat} {left under total place f : Int} (B : Below A₀ base outer h₀) (F : Fr h₀ L s.heap m) (X : (hd.heap_39 w.params).In h₀) (N : News h₀ L s.heap news)
    (Tp : Top hd.view_39 (looseW hd.view_39 [Str.ofString "_round_to_exponent"]) mean mg mb h₀) (hk : cs.kind = .function) (hdp : dp + 210 < recursionLimit) (hun : un + 30 < cLine)
    (I : Inv n d k left under total place) (hk66 : k ≤ 65)
    (hn : Sm n) (h1 : 1 ≤ d) (h2 : d ≤ 10 ^ 20) (h3 : 1 ≤ c) (h4 : c ≤ 97) (hf : 1 ≤ f) (hf' : f ≤ 30)
    (hret0 : left = 0 → ∀ (D : Addr) (t u : Tok) (j : Nat) (h' : Heap) (tk' : Nat), Fr h₀ L h' m → News h₀ L h' ((D, ({ cls := .type "tuple", data := .seq #[.bool (decide (left < 0)), .int 0 t, .int (1 - f) u] j } : Obj)) :: news) → AllLt D news → Q (.ref D) { s with heap := h', toks := tk' })
    (hret1 : left ≠ 0 → ∀ (r e : Int) (D : Addr) (t u : Tok) (j : Nat) (h' : Heap) (tk' : Nat), St n d k left under total place f r e → 10 ^ (f - 1).toNat ≤ r → r < 10 ^ f.toNat → e ≤ 401 → -3400 ≤ e → place ≤ 401 →
      Fr h₀ L h' m → News h₀ L h' ((D, ({ cls := .type "tuple", data := .seq #[.bool (decide (left < 0)), .int r t, .int e u] j } : Obj)) :: news) → AllLt D news → Q (.ref D) { s with heap := h', toks := tk' }) :
    wpAny (model PySem.Challenge.rw_dw0009_01.row.prog w) (ktrTop dp un gd cn cs L a ccd cl outer) (call (.ref 29) [.int (left * c) tn, .int (under * c) td, .int f te]) Q E s := by
  have hc : 0 < c := by omega
  have hu := inv_under I h1
  refine rtf_call B F X N Tp hk hdp hun (Int.mul_pos hu hc) (dig_of (abs_mul_lt (left_abs I h1 h2 hn) (abs_c h3 h4)) (by decide)) (dig_of (abs_mul_lt (under_abs I h1 h2 (by omega)) (abs_c h3 h4)) (by decide)) hf hf' ?_
  intro r e D t u j h' tk' hz hnz _ _ F' N' l'
  have en : (decide (left * c < 0)) = decide (left < 0) := decide_eq_decide.mpr (neg_scale hc)
  rw [en] at N'
  by_cases h0 : left = 0
  · obtain ⟨z1, z2⟩ := hz (by rw [h0, Int.zero_mul])
    rw [z1, z2] at N'
    exact hret0 h0 D t u j h' tk' F' N' l'
  · have hS := st_of I h0 hc (hnz (Int.mul_ne_zero h0 (Int.ne_of_gt hc)))
    have b1 := st_low hS h1 h2 hf'
    exact hret1 h0 r e D t u j h' tk' hS hS.2.2.1 hS.2.2.2.1 (st_high hS h1 hn) (by omega) (inv_place I) F' N' l'
end
end

section
/-- two ways that hand back an int each meet -/
def JInt (P : Int → Prop) (s : Shared) (v : Value) (s' : Shared) : Prop := ∃ k t tk, v = .int k t ∧ s' = { s with toks := tk } ∧ P k
theorem join_int {M : Model} {A : Around} {E : Value → Shared → Prop} {Q : Value → Shared → Prop} {s : Shared} {cm : Sem Value} (P : Int → Prop)
    (hc : wpAny M A cm (fun v s' => JInt P s v s') E s) (h : ∀ k t tk, P k → Q (.int k t) { s with toks := tk }) : wpAny M A cm Q E s :=
  wpAny_mono hc (fun v s' hq => by
    obtain ⟨k, t, tk, rfl, rfl, hp⟩ := hq
    exact h k t tk hp) fun _ _ h => h
section
variable {prog : Program} {w : World} {A : Around} {E : Value → Shared → Prop} {s : Shared} {t u : Tok} {Q : Value → Shared → Prop}
theorem add_one {x m : Int}
    (hm : 0 < m) (h : ∀ z : Int, 1 ≤ z → z ≤ m → Q (.int z s.toks) { s with toks := s.toks + 1 }) : wpAny (model prog w) A (binaryOp .Add (.int 1 t) (.int (x.fmod m) u)) Q E s := by
  refine add_int (h _ ?_ ?_)
  · have := Int.fmod_nonneg_of_pos x hm
    omega
  · have := Int.fmod_lt_of_pos x hm
    omega
theorem add_var {a b : Int} (h : ∀ z : Int, z = a + b → Q (.int z s.toks) { s with toks := s.toks + 1 }) : wpAny (model prog w) A (binaryOp .Add (.int a t) (.int b u)) Q E s := add_int (h _ rfl)
theorem sub_var {a b : Int} (h : ∀ z : Int, z = a - b → Q (.int z s.toks) { s with toks := s.toks + 1 }) : wpAny (model prog w) A (binaryOp .Sub (.int a t) (.int b u)) Q E s := sub_int (h _ rfl)
theorem pow_nat {k : Nat} (hk : k ≤ 5000) (h : Q (.int (10 ^ k) s.toks) { s with toks := s.toks + 1 }) : wpAny (model prog w) A (binaryOp .Pow (.int 10 t) (.int (k : Int) u)) Q E s :=
  pow_int_small (by omega) (by omega) (by decide) (by rw [Int.toNat_natCast]; exact h)
theorem max_nat {h₀ : Heap} {L : Addr} {m : Str → Option Value} {news : List (Addr × Obj)} {a : Int} (hh : A.handled = none) (F : Fr h₀ L s.heap m) (N : News h₀ L s.heap news)
    (h : ∀ h' tk t', Fr h₀ L h' m → News h₀ L h' news → Q (.int ((a.toNat : Nat) : Int) t') { s with heap := h', toks := tk }) :
    wpAny (model prog w) A (call (.builtin "max") [.int a t, .int 0 u]) Q E s :=
  max_two_N hh F N fun h' tk F' N' => by
    have e : (if 0 > a then 0 else a) = ((a.toNat : Nat) : Int) := by split <;> omega
    rw [e]
    exact h h' tk _ F' N'
def Big (x : Int) : Prop := Builtin.Int.intBits x ≤ 2000000
theorem mul_big {a b : Int} (ha : Big a) (hb : Big b) (h : Q (.int (a * b) s.toks) { s with toks := s.toks + 1 }) : wpAny (model prog w) A (binaryOp .Mult (.int a t) (.int b u)) Q E s :=
  mul_int h (IntMulOk.of_le ha hb (by decide))
end
theorem big_fit {x : Int} (h : Fit x) : Big x := Nat.le_trans h (by decide)
theorem big_sm {x : Int} (h : Sm x) : Big x := big_fit (fit_lt h (by decide))
theorem big_pow {k : Nat} (h : k ≤ 5000) : Big (10 ^ k) := big_fit (fit_lt (abs_pow k) (by omega))
theorem big_d {d : Int} (h1 : 1 ≤ d) (h2 : d ≤ 10 ^ 20) : Big d := big_fit (fit_lt (abs_d h1 h2) (by decide))
theorem big_mul {x : Int} {k : Nat} (h : Fit x) (hk : k ≤ 5000) : Big (x * 10 ^ k) := Nat.le_trans (intBits_mul_le h (fit_lt (abs_pow k) (show k + 1 ≤ 16384 by omega))) (by decide)
theorem big_inv {n d : Int} {k : Nat} {left under total place : Int} (I : Inv n d k left under total place) (hd : 1 ≤ d) (hn : Sm n) (hk : k ≤ 66) : Big total := big_fit (fit_lt (total_abs I hd hn hk) (by decide))

/-- a turn whose new sum is T -/
def Tn (n d : Int) (k : Nat) (left under total place f s e T : Int) : Prop := St n d k left under total place f s e ∧ T = total * 10 ^ (place - e).toNat + (if left < 0 then -s else s)
theorem tn_neg {n d : Int} {k : Nat} {left under total place f s e T : Int} (hT : T = total * 10 ^ (place - e).toNat + -s) (h : St n d k left under total place f s e) (h0 : left < 0) : Tn n d k left under total place f s e T := ⟨h, by rw [if_pos h0]; exact hT⟩
theorem tn_pos {n d : Int} {k : Nat} {left under total place f s e T : Int} (hT : T = total * 10 ^ (place - e).toNat + s) (h : St n d k left under total place f s e) (h0 : ¬ left < 0) : Tn n d k left under total place f s e T := ⟨h, by rw [if_neg h0]; exact hT⟩
theorem tn_rnd {n d : Int} {k : Nat} {left under total place f s e T : Int} (h : Tn n d k left under total place f s e T) (hd : 1 ≤ d) : Rnd (n * 10 ^ (-e).toNat) (d * 10 ^ e.toNat) T := (turn h.1 hd h.2).1
theorem tn_inv {n d : Int} {k : Nat} {left under total place f s e T : Int} (h : Tn n d k left under total place f s e T) (hd : 1 ≤ d) (hd' : d ≤ 10 ^ 20) (hn : Sm n) (hf : f ≤ 30) :
    Inv n d (k + 1) (n * 10 ^ (-e).toNat - T * 10 ^ e.toNat * d) (d * 10 ^ (-e).toNat) T e := inv_next h.1 hd hd' hn hf h.2
theorem tn_fit {n d : Int} {k : Nat} {left under total place f s e T : Int} (h : Tn n d k left under total place f s e T) (hd : 1 ≤ d) (hd' : d ≤ 10 ^ 20) (hn : Sm n) (hf : f ≤ 30) (hk : k ≤ 65) : Fit T :=
  fit_lt (total_abs (tn_inv h hd hd' hn hf) hd hn (by omega)) (by decide)

theorem d20 {z : Int} (h : z ≤ 10 ^ Int.toNat 20) : z ≤ 10 ^ 20 := h
local macro_rules | `(tactic| walk_at "JInt") => `(tactic| (refine ⟨_, _, _, rfl, rfl, ?_⟩; first | exact trivial | exact sm_lit | exact sm_cell))
local macro_rules | `(tactic| walk_at "eval IfExp") => `(tactic| ((with_reducible show wpAny _ _ (eval (Expr.IfExp (Expr.Compare (Expr.Call _ _ _ _) [CmpOp.Gt] [Expr.Constant (Const.int 0) _ _] _) _ _ _) _) _ _ _); (fail_if_success (with_reducible show wpAny _ _ _ (fun v s' => JInt _ _ v s') _ _)); refine join_int Sm ?_ ?_))
local macro_rules | `(tactic| walk_at "eval IfExp") => `(tactic| ((with_reducible show wpAny _ _ (eval (Expr.IfExp (Expr.Compare (Expr.Call _ _ _ _) [CmpOp.Gt] [Expr.Constant (Const.int 1) _ _] _) _ _ _) _) _ _ _); (fail_if_success (with_reducible show wpAny _ _ _ (fun v s' => JInt _ _ v s') _ _)); refine join_int (fun _ => True) ?_ ?_))
local macro_rules | `(tactic| walk_at "binaryOp Add int int") => `(tactic| ((with_reducible show wpAny _ _ (binaryOp Operator.Add (Value.int 1 _) (Value.int (Int.fmod _ _) _)) _ _ _); refine add_one (by decide) ?_; intro z' hz1' hz2'; (try (replace hz2' := d20 hz2'))))
local macro_rules | `(tactic| walk_at "call ref") => `(tactic| ((with_reducible show wpAny _ _ (call (Value.ref 22) [_, _, Value.int 401 _]) _ _ _); k_dflt (refine' rte_law0 ?k1 ?k2 ?k3 ?k4 ?k5 ?k6 ?k7 ?k8 ?k9 ?k10 ?k11 ?k12 ?k13 ?_; (case k1 => k_asm); (case k2 => k_asm); (case k3 => k_asm); (case k4 => k_asm); (case k5 => k_asm); (case k6 => first | exact rfl | assumption); (case k7 => ktr_room); (case k8 => ktr_units); (case k9 => assumption); (case k10 => assumption); (case k11 => assumption); (case k12 => assumption); (case k13 => assumption)); intro D' t' c' h' tk' F' N' l1; (try simp only [AllLt, and_true] at l1); (try dsimp only); (try k_fold)))
theorem inv_any (n d : Int) (k : Nat) : Inv n d k n d 0 0 := Or.inl ⟨rfl, rfl, rfl, rfl⟩
theorem inv_same {n d : Int} {l : List Int} {x left under total place : Int} (h : Inv n d l.length left under total place) : Inv n d (l ++ [x]).length left under total place := inv_mono h (by simp)
theorem inv_turn {n d : Int} {l : List Int} {x left under total place : Int} (h : Inv n d (l.length + 1) left under total place) : Inv n d (l ++ [x]).length left under total place := inv_mono h (by simp)
/-- what a turn's own tests ask of the new rest z -/
theorem tn_half {n d : Int} {k : Nat} {left under total place f s e T z : Int} (hz : z = n * 10 ^ (-e).toNat - T * 10 ^ e.toNat * d) (h : Tn n d k left under total place f s e T) (hd : 1 ≤ d) :
    2 * z ≤ d * 10 ^ e.toNat ∧ -(d * 10 ^ e.toNat) ≤ 2 * z ∧ (2 * z = d * 10 ^ e.toNat ∨ 2 * z = -(d * 10 ^ e.toNat) → s % 2 = 0) ∧
    (s = 10 ^ (f - 1).toNat → (left < 0 ↔ 0 < z) → 20 * z ≤ d * 10 ^ e.toNat ∧ -(d * 10 ^ e.toNat) ≤ 20 * z) := by
  obtain ⟨⟨r1, r2, r3⟩, h2, h3⟩ := turn h.1 hd h.2
  have e1 : T * (d * 10 ^ e.toNat) = T * 10 ^ e.toNat * d := by ac_rfl
  rw [e1, ← hz] at r1 r2 r3
  rw [← hz] at h3
  exact ⟨r1, r2, fun h => by rw [← h2]; exact r3 h, h3⟩
theorem tn_next {n d : Int} {k : Nat} {left under total place f s e T z : Int} (hz : z = n * 10 ^ (-e).toNat - T * 10 ^ e.toNat * d) (h : Tn n d k left under total place f s e T) (hd : 1 ≤ d) (hd' : d ≤ 10 ^ 20) (hn : Sm n) (hf : f ≤ 30) :
    Inv n d (k + 1) z (d * 10 ^ (-e).toNat) T e := by
  rw [hz]
  exact tn_inv h hd hd' hn hf
local macro_rules | `(tactic| walk_at "call ref") => `(tactic| ((with_reducible show wpAny _ _ (call (Value.ref 22) [Value.int (_ * _) _, Value.int (_ * _) _, Value.int _ _]) _ _ _); (fail_if_success (with_reducible show wpAny _ _ (call _ [_, _, Value.int 401 _]) _ _ _)); k_dflt (refine' rte_law ?k1 ?k2 ?k3 ?k4 ?k5 ?k6 ?k7 ?k8 ?k9 ?k10 ?k11 ?k12 ?k13 ?k14 ?k15 ?k16 ?_; (case k1 => k_asm); (case k2 => k_asm); (case k3 => k_asm); (case k4 => k_asm); (case k5 => k_asm); (case k6 => first | exact rfl | assumption); (case k7 => ktr_room); (case k8 => ktr_units); (case k9 => with_reducible assumption); (case k10 => with_reducible assumption); (case k11 => with_reducible assumption); (case k12 => with_reducible assumption); (case k13 => with_reducible assumption); (case k14 => omega); (case k15 => omega); (case k16 => with_reducible assumption)); intro D' t' c' h' tk' F' N' l1; (try simp only [AllLt, and_true] at l1); (try dsimp only); (try k_fold)))
local macro_rules | `(tactic| walk_at "call ref") => `(tactic| ((with_reducible show wpAny _ _ (call (Value.ref 29) _) _ _ _); k_dflt (refine' rtf_law ?k1 ?k2 ?k3 ?k4 ?k5 ?k6 ?k7 ?k8 ?k9 ?k10 ?k11 ?k12 ?k13 ?k14 ?k15 ?k16 ?k17 ?kz ?kn; (case k1 => k_asm); (case k2 => k_asm); (case k3 => k_asm); (case k4 => k_asm); (case k5 => k_asm); (case k6 => first | exact rfl | assumption); (case k7 => ktr_room); (case k8 => ktr_units); (case k9 => with_reducible assumption); (case k10 => (simp only [List.length_append, List.length_map, List.length_drop, List.length_take, List.length_cons, List.length_nil] at *); omega); (case k11 => with_reducible assumption); (case k12 => with_reducible assumption); (case k13 => with_reducible assumption); (case k14 => with_reducible assumption); (case k15 => with_reducible assumption); (case k16 => with_reducible assumption); (case k17 => with_reducible assumption)); (case' kz => intro h0' D' t' u' c' h' tk' F' N' l1; (try simp only [AllLt, and_true] at l1); (try dsimp only); (try k_fold)); (case' kn => intro h0' r' e' D' t' u' c' h' tk' hS' hr1' hr2' he1' he2' hp1' F' N' l1; (try simp only [AllLt, and_true] at l1); (try dsimp only); (try k_fold))))
local macro_rules | `(tactic| walk_at "call builtin:max") => `(tactic| ((with_reducible show wpAny _ _ (call (Value.builtin "max") [Value.int _ _, Value.int 0 _]) _ _ _); refine max_nat rfl (by assumption) (by assumption) ?_; intro h' tk' t' F' N'))
local macro_rules | `(tactic| walk_at "binaryOp Pow int int") => `(tactic| ((with_reducible show wpAny _ _ (binaryOp Operator.Pow (Value.int 10 _) (Value.int (Nat.cast _) _)) _ _ _); refine pow_nat (by omega) ?_))
local macro_rules | `(tactic| walk_at "binaryOp Mult int int") => `(tactic| (refine' mul_big ?k1 ?k2 ?_; (case k1 => first | exact big_sm (by with_reducible assumption) | exact big_fit (by with_reducible assumption) | exact big_mul (by with_reducible assumption) (by omega) | exact big_inv (by with_reducible assumption) (by with_reducible assumption) (by with_reducible assumption) (by (simp only [List.length_append, List.length_map, List.length_drop, List.length_take, List.length_cons, List.length_nil] at *); omega) | exact big_d (by with_reducible assumption) (by with_reducible assumption)); (case k2 => first | exact big_pow (by omega) | exact big_d (by with_reducible assumption) (by with_reducible assumption))))
local macro_rules | `(tactic| walk_at "binaryOp Add int int") => `(tactic| ((with_reducible show wpAny _ _ (binaryOp Operator.Add (Value.int (_ * 10 ^ _) _) (Value.int _ _)) _ _ _); refine add_var ?_; intro z' hz'; (first | (have hT' := tn_neg hz' (by with_reducible assumption) (by with_reducible assumption)) | (have hT' := tn_pos hz' (by with_reducible assumption) (by with_reducible assumption))); (have hTr' := tn_rnd hT' (by with_reducible assumption)); (have hTf' := tn_fit hT' (by with_reducible assumption) (by with_reducible assumption) (by with_reducible assumption) (by with_reducible assumption) (by (simp only [List.length_append, List.length_map, List.length_drop, List.length_take, List.length_cons, List.length_nil] at *); omega))))
local macro_rules | `(tactic| walk_at "binaryOp Sub int int") => `(tactic| ((with_reducible show wpAny _ _ (binaryOp Operator.Sub (Value.int (_ * 10 ^ _) _) (Value.int (_ * 10 ^ _ * _) _)) _ _ _); refine sub_var ?_; intro z' hz'; (have hH' := tn_half hz' (by with_reducible assumption) (by with_reducible assumption)); (have hI' := tn_next hz' (by with_reducible assumption) (by with_reducible assumption) (by with_reducible assumption) (by with_reducible assumption) (by with_reducible assumption)); (obtain ⟨hH1', hH2', hH3', hH4'⟩ := hH')))
local macro_rules | `(tactic| walk_at "exec For Name BinOp cons nil") => `(tactic| (k_here; (rename Fr _ _ _ _ => lF'); (with_unfolding_all refine' For_invVF lF' ?k1 ?k2 ?_; (case k1 => exact rfl); (case k2 => exact rfl); k_whole)))
set_option maxRecDepth 100000 in
set_option maxHeartbeats 8000000 in
theorem law_holds : PySem.Challenge.rw_dw0009_01.Holds := by
  (k_with "pyIter ref" => k_state_given ["n", "d"] (fun n d pre left under total place => Inv n d pre.length left under total place) "left" "under" "total" "place")
  (k_with "state" => first | exact inv_any _ _ _ | exact inv_turn (by with_reducible assumption) | exact inv_same (by with_reducible assumption))
  refine hd ?_
  w_strict (k_go0; (all_goals try k_fold); k_steps)
end
end Mine
theorem PySem.Challenge.cw_dw0009_01_holds : PySem.Challenge.rw_dw0009_01.Holds := by
  exact Mine.law_holds
