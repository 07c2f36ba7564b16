import PyProof.Rows.All
import Wide.All
import OpenK.AllK
import Wide.FinOn
import PySem.Challenge.RW_bd5015_01
set_option Elab.async false
set_option maxRecDepth 100000
set_option maxHeartbeats 0
set_option linter.unusedVariables false
section
namespace Mine
open PySem PySem.Float64 PySem.Flt

theorem V_top : V (infMag - 1) = (2 ^ 53 - 1) * 2 ^ 2045 := by
  have e : infMag - 1 = 2045 * 2 ^ 52 + (2 ^ 53 - 1) := by unfold infMag; omega
  rw [e]
  exact V_at (by omega) (.inl (by omega))
theorem V_le_top {t : Nat} (h : t < infMag) : V t ≤ (2 ^ 53 - 1) * 2 ^ 2045 := by
  rw [← V_top]; exact V_mono (by omega)
theorem V_inj {t t' : Nat} (h : V t = V t') : t = t' := by
  rcases Nat.lt_trichotomy t t' with h1 | h1 | h1
  · have := V_lt h1; omega
  · exact h1
  · have := V_lt h1; omega
theorem exactV (n c : Nat) (hn : n < 2 ^ 53) (hc : 53 ≤ c) (hc2 : c ≤ 1100) : ∃ t, t < infMag ∧ V t = n * 2 ^ c := by
  by_cases h0 : n = 0
  · subst h0; exact ⟨0, by decide, by rw [V_zero, Nat.zero_mul]⟩
  · have hl : n.log2 < 53 := (Nat.log2_lt h0).mpr hn
    have h1 : 2 ^ n.log2 ≤ n := Nat.log2_self_le h0
    have h2 : n < 2 ^ (n.log2 + 1) := Nat.lt_log2_self
    have e1 : n.log2 + (52 - n.log2) = 52 := by omega
    have e2 : n.log2 + 1 + (52 - n.log2) = 53 := by omega
    have hp : 0 < 2 ^ (52 - n.log2) := Nat.two_pow_pos _
    have q1 : 2 ^ 52 ≤ n * 2 ^ (52 - n.log2) := by
      have := Nat.mul_le_mul_right (2 ^ (52 - n.log2)) h1
      rw [← Nat.pow_add, e1] at this; exact this
    have q2 : n * 2 ^ (52 - n.log2) < 2 ^ 53 := by
      have := Nat.mul_lt_mul_of_pos_right h2 hp
      rw [← Nat.pow_add, e2] at this; exact this
    refine ⟨(c - (52 - n.log2)) * 2 ^ 52 + n * 2 ^ (52 - n.log2), ?_, ?_⟩
    · unfold infMag
      generalize n * 2 ^ (52 - n.log2) = q at *
      generalize hk : c - (52 - n.log2) = k
      have : k ≤ 1100 := by omega
      omega
    · rw [V_at (Nat.le_of_lt q2) (.inl q1), Nat.mul_assoc, ← Nat.pow_add]
      congr 2
      omega
theorem right_low {r : UInt64} {neg : Bool} {W D t' : Nat} (h : Right r neg W D) (hD : 0 < D) (ht : t' < infMag) (hW : W ≤ D * V t') : ∃ t, r = pack neg t ∧ t < infMag ∧ V t ≤ V t' := by
  obtain ⟨t, rfl, h1, h2, h3⟩ := h
  have hlt : t < infMag := by
    rcases Nat.lt_or_ge t infMag with h | h
    · exact h
    · exfalso
      have e : t = infMag := by omega
      have h4 := h2.mp e
      have h5 := V_le_top ht
      have h6 : 2 * W ≤ D * (2 * ((2 ^ 53 - 1) * 2 ^ 2045)) := by
        calc 2 * W ≤ 2 * (D * V t') := Nat.mul_le_mul_left 2 hW
          _ ≤ 2 * (D * ((2 ^ 53 - 1) * 2 ^ 2045)) := Nat.mul_le_mul_left 2 (Nat.mul_le_mul_left D h5)
          _ = D * (2 * ((2 ^ 53 - 1) * 2 ^ 2045)) := by generalize ((2 : Nat) ^ 53 - 1) * 2 ^ 2045 = K; ac_rfl
      have h7 := Nat.le_of_mul_le_mul_left (Nat.le_trans h4 h6) hD
      have hp : 0 < 2 ^ 2045 := Nat.two_pow_pos 2045
      generalize (2 : Nat) ^ 2045 = K at *
      omega
  refine ⟨t, rfl, hlt, ?_⟩
  rcases Nat.lt_or_ge (V t') (V t) with h | h
  · exfalso
    have h4 := (h3 hlt t').1
    have h5 : D * V t' < D * V t := Nat.mul_lt_mul_of_pos_left h hD
    unfold dist at h4
    omega
  · exact h
theorem right_high {r : UInt64} {neg : Bool} {W D t t' : Nat} (h : Right r neg W D) (hD : 0 < D) (e : r = pack neg t) (ht : t < infMag) (hW : D * V t' ≤ W) : V t' ≤ V t := by
  obtain ⟨t₁, e1, h1, h2, h3⟩ := h
  have hi : infMag = 2047 * 2 ^ 52 := rfl
  have et : t₁ = t := by
    have := congrArg UInt64.toNat (e.symm.trans e1)
    rw [pack_toNat neg (by omega), pack_toNat neg (by omega)] at this
    omega
  subst et
  rcases Nat.lt_or_ge (V t₁) (V t') with h | h
  · exfalso
    have h4 := (h3 ht t').1
    have h5 : D * V t₁ < D * V t' := Nat.mul_lt_mul_of_pos_left h hD
    unfold dist at h4
    omega
  · exact h
/-- a finite double whose value is k halves -/
def IsH (x : UInt64) (k : Int) : Prop := (∃ s m e, decode x = .fin s m e) ∧ val x = k * 2 ^ 1073

theorem isH_of_right {r : UInt64} {neg : Bool} {W D n : Nat} (h : Right r neg W D) (hD : 0 < D) (hn : n < 2 ^ 53) (hW : W = D * (n * 2 ^ 1073)) : IsH r (sgn neg n) := by
  obtain ⟨t', h1, h2⟩ := exactV n 1073 hn (by decide) (by decide)
  obtain ⟨t, e, h3, h4⟩ := right_low h hD h1 (by rw [h2, hW]; exact Nat.le_refl _)
  have h5 := right_high h hD e h3 (t' := t') (by rw [h2, hW]; exact Nat.le_refl _)
  have h6 : t = t' := V_inj (by omega)
  subst h6
  obtain ⟨m, f, hd, hv⟩ := decode_pack neg h3
  refine ⟨⟨neg, m, f, e ▸ hd⟩, ?_⟩
  rw [e, val_pack neg h3, h2, sgn_mul]
  norm_cast
theorem sgn_decide (z : Int) : sgn (decide (z < 0)) z.natAbs = z := by
  unfold sgn
  by_cases h : z < 0
  · simp only [h, decide_true, if_true]; omega
  · simp only [h, decide_false, if_false, Bool.false_eq_true]; omega
theorem pow_pos' (n : Nat) : (0 : Int) < 2 ^ n := by
  have : (0 : Int) < ((2 ^ n : Nat) : Int) := Int.ofNat_lt.mpr (Nat.two_pow_pos _)
  simpa using this
theorem isH_zero (b : Bool) : IsH (Float64.zero b) 0 := by
  have h := decode_pack b (t := 0) (by decide)
  obtain ⟨m, e, hd, _⟩ := h
  refine ⟨⟨b, m, e, hd⟩, ?_⟩
  show val (pack b 0) = _
  rw [val_pack b (by decide), V_zero]
  rw [Int.zero_mul]; cases b <;> rfl
theorem add_scaled {a b : Int} (z : Int) (hz : z = a * 2 ^ 1073 + b * 2 ^ 1073) : decide (z < 0) = decide (a + b < 0) ∧ z.natAbs = (a + b).natAbs * 2 ^ 1073 ∧ (z = 0 ↔ a + b = 0) := by
  have e : z = (a + b) * 2 ^ 1073 := by rw [hz, Int.add_mul]
  have hp := pow_pos' 1073
  have e2 : z.natAbs = (a + b).natAbs * 2 ^ 1073 := by rw [e, Int.natAbs_mul, Int.natAbs_pow]; rfl
  refine ⟨?_, e2, ?_⟩
  · rw [e]
    generalize (2 : Int) ^ 1073 = K at *
    apply decide_eq_decide.mpr
    constructor
    · intro h
      by_cases h2 : a + b < 0
      · exact h2
      · have := Int.mul_nonneg (show 0 ≤ a + b by omega) (Int.le_of_lt hp); omega
    · intro h; exact Int.mul_neg_of_neg_of_pos h hp
  · rw [e]
    generalize (2 : Int) ^ 1073 = K at *
    constructor
    · intro h
      rcases Int.mul_eq_zero.mp h with h | h
      · exact h
      · omega
    · intro h; rw [h, Int.zero_mul]
theorem isH_add {x y : UInt64} {a b : Int} (hx : IsH x a) (hy : IsH y b) (h : (a + b).natAbs < 2 ^ 53) : IsH (add x y) (a + b) := by
  obtain ⟨⟨s, m, e, hd⟩, hv⟩ := hx
  obtain ⟨⟨s', m', e', hd'⟩, hv'⟩ := hy
  obtain ⟨h0, h1⟩ := add_right hd hd'
  obtain ⟨e1, e2, e3⟩ := add_scaled (a := a) (b := b) (val x + val y) (by rw [hv, hv'])
  by_cases hz : a + b = 0
  · rw [h0 (e3.mpr hz), hz]; exact isH_zero _
  · have hr := h1 (fun q => hz (e3.mp q))
    rw [e1, e2] at hr
    have := isH_of_right hr (by decide) h (by rw [Nat.one_mul])
    rw [sgn_decide] at this
    exact this
theorem isH_sub {x y : UInt64} {a b : Int} (hx : IsH x a) (hy : IsH y b) (h : (a - b).natAbs < 2 ^ 53) : IsH (sub x y) (a - b) := by
  obtain ⟨⟨s', m', e', hd'⟩, hv'⟩ := hy
  have := isH_add (x := x) (y := neg y) (a := a) (b := -b) hx ⟨⟨_, _, _, neg_decode hd'⟩, by rw [neg_val hd', hv', Int.neg_mul]⟩ (by rw [← Int.sub_eq_add_neg]; exact h)
  rw [Int.sub_eq_add_neg]
  unfold Float64.sub
  exact this
theorem isH_ofInt {i : Int} (h : i.natAbs < 2 ^ 52) : IsH (ofInt i) (2 * i) := by
  have := isH_of_right (n := 2 * i.natAbs) (ofInt_right i) (by decide) (by omega) (by
    have e : (2 : Nat) ^ 1074 = 2 ^ 1073 * 2 := Nat.pow_succ 2 1073
    rw [Nat.one_mul, e]
    generalize (2 : Nat) ^ 1073 = K
    rw [Nat.mul_comm K 2, ← Nat.mul_assoc, Nat.mul_comm i.natAbs 2])
  have e : sgn (decide (i < 0)) (2 * i.natAbs) = 2 * i := by
    unfold sgn
    by_cases h : i < 0
    · simp only [h, decide_true, if_true]; omega
    · simp only [h, decide_false, if_false, Bool.false_eq_true]; omega
  rw [e] at this
  exact this
theorem sign_pos {x : UInt64} {k : Int} (hx : IsH x k) (hk : 0 < k) : ∃ m e, decode x = .fin false m e := by
  obtain ⟨⟨s, m, e, hd⟩, hv⟩ := hx
  cases s with
  | false => exact ⟨m, e, hd⟩
  | true =>
    exfalso
    rw [val_eq hd] at hv
    have hp := pow_pos' 1073
    have := Int.mul_pos hk hp
    rw [← hv] at this
    unfold sgn at this
    simp only [if_true] at this
    omega
theorem isH_mul2 {x : UInt64} {k : Int} (hx : IsH x k) (hk : 0 < k) (h : k.natAbs < 2 ^ 52) : IsH (mul (ofInt 2) x) (2 * k) := by
  have h2 := isH_ofInt (i := 2) (by decide)
  obtain ⟨m, e, hd⟩ := sign_pos hx hk
  obtain ⟨m', e', hd'⟩ := sign_pos h2 (by decide)
  have hr := mul_right hd' hd
  rw [h2.2, hx.2] at hr
  have := isH_of_right (n := 2 * k.natAbs) hr (Nat.two_pow_pos _) (by omega) (by
    have e : (2 : Nat) ^ 1074 = 2 ^ 1073 * 2 := Nat.pow_succ 2 1073
    have e2 : ((2 : Int) ^ 1073).natAbs = 2 ^ 1073 := Int.natAbs_pow 2 1073
    rw [Int.natAbs_mul (2 * 2), Int.natAbs_mul k, e, e2, show ((2 : Int) * 2).natAbs = 2 * 2 from rfl]
    generalize (2 : Nat) ^ 1073 = K
    generalize k.natAbs = n
    ac_rfl)
  have e : sgn (false != false) (2 * k.natAbs) = 2 * k := by
    unfold sgn
    simp only [bne_self_eq_false, Bool.false_eq_true, if_false]
    omega
  rw [e] at this
  exact this
theorem floorOf_val {x : UInt64} {s : Bool} {m : Nat} {e : Int} (hd : decode x = .fin s m e) : floorOf s m e = (val x).fdiv (2 ^ 1074) := by
  have he := decode_ge hd
  have hpow : ∀ n : Nat, ((2 ^ n : Nat) : Int) = (2 : Int) ^ n := fun n => by simp
  rw [val_eq hd, sgn_mul, hpow]
  unfold floorOf
  split
  · rename_i h
    have e1 : (e + 1074).toNat = e.toNat + 1074 := by omega
    rw [e1, Int.pow_add, ← Int.mul_assoc]
    exact (Int.mul_fdiv_cancel _ (Int.ne_of_gt (pow_pos' 1074))).symm
  · rename_i h
    have e1 : (2 : Int) ^ 1074 = 2 ^ (e + 1074).toNat * 2 ^ (-e).toNat := by
      rw [← Int.pow_add]
      congr 1
      omega
    rw [e1, Int.mul_comm (sgn s m)]
    exact (Int.mul_fdiv_mul_of_pos _ _ (pow_pos' _)).symm
theorem floor_H {x : UInt64} {k : Int} (hx : IsH x k) : toInt floorOf x = k / 2 := by
  obtain ⟨⟨s, m, e, hd⟩, hv⟩ := hx
  unfold toInt
  rw [hd]
  show floorOf s m e = _
  rw [floorOf_val hd, hv]
  have e : (2 : Int) ^ 1074 = 2 ^ 1073 * 2 := Int.pow_succ 2 1073
  have hp := pow_pos' 1073
  rw [e]
  generalize (2 : Int) ^ 1073 = K at *
  rw [Int.mul_comm k, Int.mul_fdiv_mul_of_pos _ _ hp, Int.fdiv_eq_ediv_of_nonneg _ (by decide)]
theorem trunc_H {x : UInt64} {k : Int} (hx : IsH x k) (hk : 0 < k) : toInt truncOf x = k / 2 := by
  rw [← floor_H hx]
  obtain ⟨m, e, hd⟩ := sign_pos hx hk
  unfold toInt
  rw [hd]
  rfl
theorem finite_H {x : UInt64} {k : Int} (hx : IsH x k) : isFinite x = true ∧ isNaN x = false ∧ isInf x = false := by
  obtain ⟨⟨s, m, e, hd⟩, hv⟩ := hx
  unfold isFinite isNaN isInf
  rw [hd]
  exact ⟨rfl, rfl, rfl⟩
theorem cmp_H {x y : UInt64} {a b : Int} (hx : IsH x a) (hy : IsH y b) : cmp x y = some (compare a b) := by
  obtain ⟨⟨s, m, e, hd⟩, hv⟩ := hx
  obtain ⟨⟨s', m', e', hd'⟩, hv'⟩ := hy
  rw [cmp_right hd hd', hv, hv']
  congr 1
  have hp := pow_pos' 1073
  generalize (2 : Int) ^ 1073 = K at *
  rcases Int.lt_trichotomy a b with h | h | h
  · rw [Int.compare_eq_lt.mpr h, Int.compare_eq_lt.mpr (Int.mul_lt_mul_of_pos_right h hp)]
  · subst h; simp
  · rw [Int.compare_eq_gt.mpr h, Int.compare_eq_gt.mpr (Int.mul_lt_mul_of_pos_right h hp)]
/-- floor of a correctly rounded quotient of small ints -/
theorem floor_quot {n d : Nat} (hd : 0 < d) (hd2 : d ≤ 2 ^ 20) (hn : n < 2 ^ 30) : toInt floorOf (ofFrac false n d) = (n / d : Nat) := by
  have hr : Right (ofFrac false n d) false (n * 2 ^ 1074) d := ofFrac_right hd rfl hd
  have hq : n / d < 2 ^ 30 := Nat.lt_of_le_of_lt (Nat.div_le_self _ _) hn
  obtain ⟨t1, b1, v1⟩ := exactV (n / d) 1074 (by omega) (by decide) (by decide)
  obtain ⟨t2, b2, v2⟩ := exactV ((n / d + 1) * 2 ^ 20 - 1) 1054 (by omega) (by decide) (by decide)
  have hm : d * (n / d) + n % d = n := Nat.div_add_mod n d
  have hl : n % d < d := Nat.mod_lt _ hd
  have e20 : (2 : Nat) ^ 1074 = 2 ^ 20 * 2 ^ 1054 := by rw [← Nat.pow_add]
  obtain ⟨t, e, h3, h4⟩ := right_low hr hd b2 (by
    rw [v2, e20, ← Nat.mul_assoc, ← Nat.mul_assoc]
    refine Nat.mul_le_mul_right _ ?_
    generalize n / d = q at *
    have : d * ((q + 1) * 2 ^ 20 - 1) = d * q * 2 ^ 20 + d * (2 ^ 20 - 1) := by
      rw [show (q + 1) * 2 ^ 20 - 1 = q * 2 ^ 20 + (2 ^ 20 - 1) from by omega, Nat.mul_add, Nat.mul_assoc]
    rw [this]
    generalize d * q = y at *
    omega)
  have h5 := right_high hr hd e h3 (t' := t1) (by
    rw [v1, ← Nat.mul_assoc]
    exact Nat.mul_le_mul_right _ (by omega))
  obtain ⟨m, f, hdc, hv⟩ := decode_pack false h3
  rw [e]
  unfold toInt
  rw [hdc]
  show floorOf false m f = _
  rw [floorOf_val hdc, val_pack false h3]
  have h6 : V t < (n / d + 1) * 2 ^ 1074 := by
    refine Nat.lt_of_le_of_lt h4 ?_
    rw [v2, e20, ← Nat.mul_assoc]
    refine Nat.mul_lt_mul_of_pos_right ?_ (Nat.two_pow_pos _)
    omega
  rw [v1] at h5
  have hs : sgn false (V t) = (V t : Int) := rfl
  have hpow : ((2 ^ 1074 : Nat) : Int) = (2 : Int) ^ 1074 := Int.natCast_pow 2 1074
  rw [hs, ← hpow, Int.fdiv_eq_ediv_of_nonneg _ (Int.natCast_nonneg _), ← Int.natCast_ediv]
  exact congrArg _ (Nat.div_eq_of_lt_le h5 h6)
theorem finite_quot {n d : Nat} (hd : 0 < d) (hn : n < 2 ^ 30) : isFinite (ofFrac false n d) = true := by
  have hr : Right (ofFrac false n d) false (n * 2 ^ 1074) d := ofFrac_right hd rfl hd
  obtain ⟨t2, b2, v2⟩ := exactV n 1074 (by omega) (by decide) (by decide)
  obtain ⟨t, e, h3, h4⟩ := right_low hr hd b2 (by
    rw [v2]
    exact Nat.le_mul_of_pos_left _ hd)
  obtain ⟨m, f, hdc, hv⟩ := decode_pack false h3
  rw [e]
  unfold isFinite
  rw [hdc]
end Mine
end
section
open PySem PySem.W PySem.Calls PyProof.Rows PySem.Float64 PySem.Flt
namespace Mine
def RetInt (i : Int) (h₀ : Heap) (L : Addr) (m : Str → Option Value) (news : List (Addr × Obj)) (s : Shared) (Q : Value → Shared → Prop) : Prop :=
  ∀ (t : Tok) (h' : Heap) (tk' : Nat), Fr h₀ L h' m → News h₀ L h' news → Q (.int i t) { s with heap := h', toks := tk' }
def RetBool (i : Bool) (h₀ : Heap) (L : Addr) (m : Str → Option Value) (news : List (Addr × Obj)) (s : Shared) (Q : Value → Shared → Prop) : Prop :=
  ∀ (t : Tok) (h' : Heap) (tk' : Nat), Fr h₀ L h' m → News h₀ L h' news → Q (.bool i) { s with heap := h', toks := tk' }
def RetH (k : Int) (h₀ : Heap) (L : Addr) (m : Str → Option Value) (news : List (Addr × Obj)) (s : Shared) (Q : Value → Shared → Prop) : Prop :=
  ∀ (x : UInt64) (t : Tok) (h' : Heap) (tk' : Nat), IsH x k → Fr h₀ L h' m → News h₀ L h' news → Q (.float x t) { s with heap := h', toks := tk' }
theorem retH_end {k k' : Int} {h₀ h' : Heap} {L : Addr} {m : Str → Option Value} {news : List (Addr × Obj)} {s : Shared} {Q : Value → Shared → Prop} {x : UInt64} {t : Tok} {tk' : Nat}
    (hret : ∀ (x : UInt64) (t : Tok) (h' : Heap) (tk' : Nat), IsH x k → Fr h₀ L h' m → News h₀ L h' news → Q (.float x t) { s with heap := h', toks := tk' }) (hz : IsH x k') (e : k' = k) (F : Fr h₀ L h' m) (N : News h₀ L h' news) : Q (.float x t) { s with heap := h', toks := tk' } := by
  subst e
  exact hret x t h' tk' hz F N
section
variable {prog : Program} {w : World} {A : Around} {E : Value → Shared → Prop} {s : Shared} {x y : UInt64} {a b n : Int} {t u : Tok} {Q : Value → Shared → Prop}
theorem isInf_ofInt (h : n.natAbs < 2 ^ 52) : ¬ isInf (ofInt n) = true := by
  rw [(finite_H (isH_ofInt h)).2.2]; exact Bool.false_ne_true
theorem add_ff_H (hx : IsH x a) (hy : IsH y b) (hb : (a + b).natAbs < 2 ^ 53) (h : ∀ z, IsH z (a + b) → Q (.float z s.toks) { s with toks := s.toks + 1 }) : wpAny (model prog w) A (binaryOp .Add (.float x t) (.float y u)) Q E s :=
  AutoFloatOps.add_0 (h _ (isH_add hx hy hb))
theorem add_fi_H (hx : IsH x a) (hn : n.natAbs < 2 ^ 52) (hb : (a + 2 * n).natAbs < 2 ^ 53) (h : ∀ z, IsH z (a + 2 * n) → Q (.float z s.toks) { s with toks := s.toks + 1 }) : wpAny (model prog w) A (binaryOp .Add (.float x t) (.int n u)) Q E s :=
  AutoFloatOps.add_fi_1 (isInf_ofInt hn) (h _ (isH_add hx (isH_ofInt hn) hb))
theorem add_if_H (hx : IsH x a) (hn : n.natAbs < 2 ^ 52) (hb : (2 * n + a).natAbs < 2 ^ 53) (h : ∀ z, IsH z (2 * n + a) → Q (.float z s.toks) { s with toks := s.toks + 1 }) : wpAny (model prog w) A (binaryOp .Add (.int n u) (.float x t)) Q E s :=
  AutoFloatOps.add_if_1 (isInf_ofInt hn) (h _ (isH_add (isH_ofInt hn) hx hb))
theorem iadd_if_H (hx : IsH x a) (hn : n.natAbs < 2 ^ 52) (hb : (2 * n + a).natAbs < 2 ^ 53) (h : ∀ z, IsH z (2 * n + a) → Q (.float z s.toks) { s with toks := s.toks + 1 }) : wpAny (model prog w) A (inplaceOp .Add (.int n u) (.float x t)) Q E s :=
  iadd_if_1 (isInf_ofInt hn) (h _ (isH_add (isH_ofInt hn) hx hb))
theorem sub_fi_H (hx : IsH x a) (hn : n.natAbs < 2 ^ 52) (hb : (a - 2 * n).natAbs < 2 ^ 53) (h : ∀ z, IsH z (a - 2 * n) → Q (.float z s.toks) { s with toks := s.toks + 1 }) : wpAny (model prog w) A (binaryOp .Sub (.float x t) (.int n u)) Q E s :=
  AutoFloatOps.sub_fi_1 (isInf_ofInt hn) (h _ (isH_sub hx (isH_ofInt hn) hb))
theorem mul_if_H (hx : IsH x a) (h0 : 0 < a) (hb : a.natAbs < 2 ^ 52) (h : ∀ z, IsH z (2 * a) → Q (.float z s.toks) { s with toks := s.toks + 1 }) : wpAny (model prog w) A (binaryOp .Mult (.int 2 u) (.float x t)) Q E s :=
  AutoFloatOps.mul_if_1 (isInf_ofInt (by decide)) (h _ (isH_mul2 hx h0 hb))
theorem no_nan {P : Prop} (hx : IsH x a) (h : isNaN x = true) : P := by rw [(finite_H hx).2.1] at h; cases h
theorem no_inf {P : Prop} (hx : IsH x a) (h : isInf x = true) : P := by rw [(finite_H hx).2.2] at h; cases h
theorem trunc_f_H (hA : A.handled = none) (hx : IsH x a) (h0 : 0 < a) (h : Q (.int (a / 2) s.toks) { s with toks := s.toks + 1 }) : wpAny (model prog w) A (call (.builtin "math.trunc") [.float x t]) Q E s :=
  call_trunc_float hA (fun e => no_nan hx e) (fun e => no_inf hx e) fun _ => by rw [trunc_H hx h0]; exact h
theorem int_f_H (hA : A.handled = none) (hx : IsH x a) (h0 : 0 < a) (h : Q (.int (a / 2) s.toks) { s with toks := s.toks + 1 }) : wpAny (model prog w) A (call (.type "int") [.float x t]) Q E s :=
  call_int_float3 hA (fun e => no_nan hx e) (fun e => no_inf hx e) fun _ => by rw [trunc_H hx h0]; exact h
theorem isH_lit {c : UInt64} {k j : Nat} {e : Int} (h : decode c = .fin false (k * 2 ^ j) e) (he : e + 1074 + j = 1073) (h2 : 0 ≤ e + 1074) : IsH c k := by
  refine ⟨⟨_, _, _, h⟩, ?_⟩
  rw [val_eq h]
  have e1 : 1073 = j + (e + 1074).toNat := by omega
  show ((k * 2 ^ j * 2 ^ (e + 1074).toNat : Nat) : Int) = _
  rw [Nat.mul_assoc, ← Nat.pow_add, ← e1, Int.natCast_mul, Int.natCast_pow]
  rfl
theorem isH_half : IsH 4602678819172646912 1 := isH_lit (k := 1) (j := 52) (e := -53) (by kernel_rfl) (by decide) (by decide)
theorem isH_epoch : IsH 4700144277945057280 3442851 := isH_lit (k := 3442851) (j := 31) (e := -32) (by kernel_rfl) (by decide) (by decide)

theorem floor_f_q (hA : A.handled = none) (hq : isFinite x = true ∧ toInt floorOf x = a) (h : Q (.int a s.toks) { s with toks := s.toks + 1 }) : wpAny (model prog w) A (call (.builtin "math.floor") [.float x t]) Q E s :=
  call_floor_float hA (fun e => by have := not_finite_of_nan e; rw [hq.1] at this; cases this) (fun e => by have := not_finite_of_inf e; rw [hq.1] at this; cases this) fun _ => by rw [hq.2]; exact h
theorem div_ii_q (hA : A.handled = none) (h0 : 0 ≤ a) (h1 : a < 2 ^ 30) (hb : 0 < b) (hb2 : b ≤ 2 ^ 20) (h : ∀ z, z = ofFrac false a.toNat b.toNat → (isFinite z = true ∧ toInt floorOf z = a / b) → Q (.float z s.toks) { s with toks := s.toks + 1 }) : wpAny (model prog w) A (binaryOp .Div (.int a t) (.int b u)) Q E s := by
  have e1 : a.natAbs = a.toNat := by omega
  have e2 : b.natAbs = b.toNat := by omega
  have e3 : (decide (a < 0) != decide (b < 0)) = false := by rw [decide_eq_false (by omega), decide_eq_false (by omega)]; rfl
  refine div_ii hA (fun e => by omega) (fun _ hi => ?_) fun _ _ => ?_
  · rw [e1, e2, e3] at hi
    have := not_finite_of_inf hi
    rw [finite_quot (by omega) (by omega)] at this
    cases this
  · rw [e1, e2, e3]
    refine h _ rfl ⟨finite_quot (by omega) (by omega), ?_⟩
    rw [floor_quot (by omega) (by omega) (by omega), Int.natCast_ediv, Int.toNat_of_nonneg h0, Int.toNat_of_nonneg (by omega)]
theorem add_fi_raw (hn : n.natAbs < 2 ^ 52) (h : Q (.float (add x (ofInt n)) s.toks) { s with toks := s.toks + 1 }) : wpAny (model prog w) A (binaryOp .Add (.float x t) (.int n u)) Q E s :=
  AutoFloatOps.add_fi_1 (isInf_ofInt hn) h
theorem ne_ff_H (hx : IsH x a) (hy : IsH y b) (h : Q (.bool (decide (a ≠ b))) s) : wpAny (model prog w) A (compareOp .NotEq (.float x t) (.float y u)) Q E s := by
  refine AutoFloatOps.ne_0 ?_
  have e : (Float64.cmp x y != some Ordering.eq) = decide (a ≠ b) := by
    rw [cmp_H hx hy]
    rcases Int.lt_trichotomy a b with q | q | q
    · rw [Int.compare_eq_lt.mpr q, decide_eq_true (show a ≠ b by omega)]; rfl
    · subst q
      rw [decide_eq_false (show ¬ a ≠ a from fun f => f rfl), Int.compare_eq_eq.mpr rfl]; rfl
    · rw [Int.compare_eq_gt.mpr q, decide_eq_true (show a ≠ b by omega)]; rfl
  rw [e]
  exact h
/-- the month's term -/
theorem month_q {m adj : Int} (h1 : 1 ≤ m) (h2 : m ≤ 12) (h3 : adj = 0 ∨ adj = -1 ∨ adj = -2) (e : x = ofFrac false (367 * m - 362).toNat (12 : Int).toNat) :
    isFinite (add (add x (ofInt adj)) (ofInt 1)) = true ∧ toInt floorOf (add (add x (ofInt adj)) (ofInt 1)) = (367 * m - 362) / 12 + adj + 1 := by
  subst e
  have hm : m = 1 ∨ m = 2 ∨ m = 3 ∨ m = 4 ∨ m = 5 ∨ m = 6 ∨ m = 7 ∨ m = 8 ∨ m = 9 ∨ m = 10 ∨ m = 11 ∨ m = 12 := by omega
  rcases hm with rfl | rfl | rfl | rfl | rfl | rfl | rfl | rfl | rfl | rfl | rfl | rfl <;> rcases h3 with rfl | rfl | rfl <;> exact ⟨by decide +kernel, by decide +kernel⟩
end
def leapB (y : Int) : Bool := decide (y % 4 = 0) && (!decide (y % 100 = 0) || decide (y % 400 = 0))
end Mine
end
section
open PySem PySem.W PySem.Calls PyProof.Rows
namespace Mine
open PySem.Builtin._datetime
theorem mro_date : mroOf (.type "datetime.date") = pure [.type "datetime.date", .type "object"] := by rw [mroOf_type]; kernel_rfl
theorem lookup_date_new : typeLookup (.type "datetime.date") "__new__" = pure (some (.builtin "datetime.date.__new__")) := by rw [typeLookup_type, builtinLookup_eq_fast]; kernel_rfl
theorem sub_date_date : isSubtype (.type "datetime.date") (.type "datetime.date") = pure true := by rw [isSubtype_type]; kernel_rfl
theorem sub_date_dt : isSubtype (.type "datetime.date") (.type "datetime.datetime") = pure false := by rw [isSubtype_type]; kernel_rfl
theorem slot_date_init : Slot "datetime.date" "__init__" "object.__init__" :=
  .of (owner := "object") (n := "__init__") (by rw [typeLookup_type, builtinLookup_eq_fast]; kernel_rfl) (by decide +kernel) (by decide +kernel) (by decide +kernel)
    (by first | exact .inl (by decide +kernel) | exact .inr (by decide +kernel)) (by rw [isSubtype_type]; kernel_rfl)
theorem called_date : TypeCalled "datetime.date" "datetime.date.__new__" "object.__init__" :=
  ⟨by decide +kernel, by decide +kernel, ⟨_, _, mro_date⟩, madeBy_type mro_date lookup_date_new (by decide +kernel), by decide +kernel, sub_date_date, slot_date_init⟩
theorem typeCall_date (a b c : Value) : checkTypeCall "datetime.date" ⟨[a, b, c], []⟩ = pure () := by kernel_rfl
theorem newCall_date (a b c : Value) : checkBuiltinCall "datetime.date.__new__" ⟨[.type "datetime.date", a, b, c], []⟩ = pure () := by kernel_rfl
theorem entry_date_new : entryFor table "datetime.date.__new__" = some Builtin.«datetime.date.__new__» := entryFor_of_tree (by kernel_rfl)
theorem newNe_date : (some "datetime.date.__new__" != some "object.__new__") = true := by decide +kernel
theorem init_date (o a b c : Value) : argsOk "object.__init__" ⟨[o, a, b, c], []⟩ := by
  unfold argsOk; rw [signature?_of (id := "object.__init__") (n := ['_', '_', 't', 'i', 'n', 'i', '_', '_']) (o := ['t', 'c', 'e', 'j', 'b', 'o']) (by kernel_rfl) F.owner_object]; kernel_rfl
abbrev dateObj (y m d : Int) : Obj := { cls := .type "datetime.date", data := .fields #[rawInt y, rawInt m, rawInt d] }
theorem dtCInt_ok {i : Int} {t : Tok} (h1 : -(2 ^ 31) ≤ i) (h2 : i < 2 ^ 31) : dtCInt (.int i t) = pure i := by
  have c1 : ¬ (decide (i ≥ 2 ^ 63) || decide (i < -(2 ^ 63 : Int))) = true := by
    simp only [Bool.or_eq_true, decide_eq_true_eq]; omega
  have c2 : ¬ i ≥ 2 ^ 31 := by omega
  have c3 : ¬ i < -(2 ^ 31 : Int) := by omega
  show (if (decide (i ≥ 2 ^ 63) || decide (i < -(2 ^ 63 : Int))) = true then _ else _) = _
  rw [if_neg c1]
  show (if i ≥ 2 ^ 31 then _ else _) = _
  rw [if_neg c2]
  show (if i < -(2 ^ 31 : Int) then _ else _) = _
  rw [if_neg c3]
theorem bind_ok {y m : Int} {t u v : Tok} (h1 : -(2 ^ 31) ≤ y) (h2 : y < 2 ^ 31) (h3 : -(2 ^ 31) ≤ m) (h4 : m < 2 ^ 31) :
    dtBindInts "datetime.date.__new__" "function" ["year", "month", "day"] 3 [.int y t, .int m u, .int 1 v] [] false = pure [some y, some m, some 1] := by
  have e : dtBind "datetime.date.__new__" "function" ["year", "month", "day"] 0 [.int y t, .int m u, .int 1 v] [] = pure [some (.int y t), some (.int m u), some (.int 1 v)] := by kernel_rfl
  unfold dtBindInts
  dsimp only
  rw [if_neg (show ¬ ([Value.int y t, Value.int m u, Value.int 1 v].length + ([] : List (Str × Value)).length > (["year", "month", "day"] : List Str).length) from Nat.lt_irrefl 3)]
  simp only [List.zipIdx, List.forIn_cons, List.forIn_nil, e]
  simp [dtCInt_ok h1 h2, dtCInt_ok h3 h4, dtCInt_ok (i := 1) (t := v) (by decide) (by decide)]
theorem days_ge {y m : Int} (h3 : 1 ≤ m) (h4 : m ≤ 12) : 1 ≤ daysInMonth y m := by
  have hm : m = 1 ∨ m = 2 ∨ m = 3 ∨ m = 4 ∨ m = 5 ∨ m = 6 ∨ m = 7 ∨ m = 8 ∨ m = 9 ∨ m = 10 ∨ m = 11 ∨ m = 12 := by omega
  unfold daysInMonth
  split
  · decide
  · rcases hm with rfl | rfl | rfl | rfl | rfl | rfl | rfl | rfl | rfl | rfl | rfl | rfl <;> decide
theorem check_ok {y m : Int} (h1 : 1 ≤ y) (h2 : y ≤ 9999) (h3 : 1 ≤ m) (h4 : m ≤ 12) : checkDate y m 1 = pure () := by
  have hd := days_ge (y := y) h3 h4
  have c1 : ¬ (decide (y < 1) || decide (y > 9999)) = true := by simp only [Bool.or_eq_true, decide_eq_true_eq]; omega
  have c2 : ¬ (decide (m < 1) || decide (m > 12)) = true := by simp only [Bool.or_eq_true, decide_eq_true_eq]; omega
  have c3 : ¬ (decide ((1 : Int) < 1) || decide (1 > daysInMonth y m)) = true := by simp only [Bool.or_eq_true, decide_eq_true_eq]; omega
  unfold checkDate
  rw [if_neg c1]
  with_unfolding_all (show (if (decide (m < 1) || decide (m > 12)) = true then _ else _) = _)
  rw [if_neg c2]
  with_unfolding_all (show (if (decide ((1 : Int) < 1) || decide (1 > daysInMonth y m)) = true then _ else _) = _)
  rw [if_neg c3]
theorem date_new (y m : Int) (t u v : Tok) (h1 : 1 ≤ y) (h2 : y ≤ 9999) (h3 : 1 ≤ m) (h4 : m ≤ 12) :
    Builtin.«datetime.date.__new__» ⟨[.type "datetime.date", .int y t, .int m u, .int 1 v], []⟩ = (do let a ← alloc (dateObj y m 1); ret (.ref a)) := by
  have e1 : dtNewClass "datetime.date" ⟨[.type "datetime.date", .int y t, .int m u, .int 1 v], []⟩ = pure (.type "datetime.date", [.int y t, .int m u, .int 1 v]) := by
    show (isSubtype (.type "datetime.date") (.type "datetime.date") >>= _) = _
    rw [sub_date_date]
    rfl
  unfold Builtin.«datetime.date.__new__»
  rw [e1, pure_bind]
  dsimp only
  rw [sub_date_dt, pure_bind, if_neg Bool.false_ne_true, bind_ok (by omega) (by omega) (by omega) (by omega), pure_bind]
  dsimp only
  unfold newDateRaw
  rw [check_ok h1 h2 h3 h4, pure_bind]
  rfl
theorem meets_date (y m : Int) (t u v : Tok) (h1 : 1 ≤ y) (h2 : y ≤ 9999) (h3 : 1 ≤ m) (h4 : m ≤ 12) :
    Meets (Builtin.«datetime.date.__new__» ⟨[.type "datetime.date", .int y t, .int m u, .int 1 v], []⟩) (fun _ R s => R (.ok (.ret (.ref s.heap.objs.size))) { s with heap := s.heap.push (dateObj y m 1) }) := by
  intro prog w A R s h
  rw [date_new y m t u v h1 h2 h3 h4]
  exact wpAny_bind (wpAny_alloc (wpAny_pure h))
theorem pa_date : PlainAttrs "datetime.date" :=
  ⟨⟨"object.__getattribute__", by rw [typeLookup_type, builtinLookup_eq_fast]; kernel_rfl, by decide +kernel⟩, by rw [typeLookup_type, builtinLookup_eq_fast]; kernel_rfl⟩
theorem slot_date_weekday : Slot "datetime.date" "weekday" "datetime.date.weekday" :=
  .of (owner := "datetime.date") (n := "weekday") (by rw [typeLookup_type, builtinLookup_eq_fast]; kernel_rfl) (by decide +kernel) (by decide +kernel) (by decide +kernel)
    (by first | exact .inl (by decide +kernel) | exact .inr (by decide +kernel)) (by rw [isSubtype_type]; kernel_rfl)
theorem type_date_weekday : typeOf (.builtin "datetime.date.weekday") = pure (.type "method_descriptor") := by show builtinType _ = _; rw [builtinType_eq_fast]; kernel_rfl
theorem entry_date_weekday : entryFor table "datetime.date.weekday" = some Builtin.«datetime.date.weekday» := entryFor_of_tree (by kernel_rfl)
theorem args_date_weekday (a : Value) : argsOk "datetime.date.weekday" ⟨[a], []⟩ := by unfold argsOk; kernel_rfl
theorem meets_weekday (a : Addr) (y m d : Int) : Meets (Builtin.«datetime.date.weekday» ⟨[.ref a], []⟩) (fun _ R s => s.heap.get? a = some (dateObj y m d) ∧ R (.ok (.ret (.int (weekdayOf (toOrdinal y m d)) s.toks))) { s with toks := s.toks + 1 }) := by
  intro prog w A R s ⟨ha, h⟩
  obtain ⟨hp, g, dr, tk, os⟩ := s
  have f1 := sub_date_date
  have hT : (⟨hp, g, dr, tk, os⟩ : Shared).TypeIs (.ref a) "datetime.date" := ⟨_, ha, rfl⟩
  repeat (any_goals (first | assumption | wp_step))
section
variable {prog : Program} {w : World} {A : Around} {E : Value → Shared → Prop} {s : Shared} {Q : Value → Shared → Prop} {y m : Int} {t u v : Tok}
theorem date_type {h : Heap} {a : Addr} {o : Obj} (e : h.get? a = some o) (hc : o.cls = .type "datetime.date") {g d tk os} : (⟨h, g, d, tk, os⟩ : Shared).TypeIs (.ref a) "datetime.date" := ⟨o, e, hc⟩
theorem call_date (h1 : 1 ≤ y) (h2 : y ≤ 9999) (h3 : 1 ≤ m) (h4 : m ≤ 12) (h : Q (.ref s.heap.objs.size) { s with heap := s.heap.push (dateObj y m 1) }) :
    wpAny (model prog w) A (call (.type "datetime.date") [.int y t, .int m u, .int 1 v]) Q E s :=
  callType_new called_date newNe_date (typeCall_date _ _ _) (newCall_date _ _ _) (fun o => init_date o _ _ _) entry_date_new (meets_date y m t u v h1 h2 h3 h4)
    (show _ ∧ _ from ⟨⟨_, Heap.get?_push_size _ rfl, rfl⟩, h⟩)
theorem call_weekday {a : Addr} {d : Int} (ha : s.heap.get? a = some (dateObj y m d)) (h : Q (.int (weekdayOf (toOrdinal y m d)) s.toks) { s with toks := s.toks + 1 }) :
    wpAny (model prog w) A (call (.builtin "datetime.date.weekday") [.ref a]) Q E s :=
  call_meets slot_date_weekday ⟨_, ha, rfl⟩ entry_date_weekday (args_date_weekday _) (meets_weekday a y m d) ⟨ha, h⟩
theorem getMethod_weekday {a : Addr} {d : Int} {pl : Sem Bool} {Q : Value × List Value → Shared → Prop} (ha : s.heap.get? a = some (dateObj y m d)) (h : Q (.builtin "datetime.date.weekday", [.ref a]) s) : wpAny (model prog w) A (getMethod (.ref a) "weekday" pl) Q E s :=
  getMethod_builtin ⟨_, ha, rfl⟩ pa_date slot_date_weekday type_date_weekday (fun b e => by cases e; exact ⟨_, ha, rfl⟩) h
end
end Mine
end
section
open PySem PySem.W PyProof.Rows
namespace Mine
open_top hd for PySem.Challenge.rw_bd5015_01
end Mine
end
section
open PySem PySem.W PySem.Calls PyProof.Rows PySem.Float64 PySem.Flt
namespace Mine
theorem at_peek {α : Type} {K : Frag} {M : Model} {A : Around} {t : Sem α} {r : α} {Q : α → Shared → Prop} {E : Value → Shared → Prop} {s : Shared} (x : K.In s.heap) (e : peek K ⟨M.prog, M.w.params⟩ t = some r) (q : Q r s) : wpAny M A t Q E s :=
  (Looks.of_peek x e).here q
abbrev Pk (w : World) {α : Type} (t : Sem α) (r : α) : Prop := peek (Mine.hd.heap_39 w.params) ⟨(model PySem.Challenge.rw_bd5015_01.row.prog w).prog, (model PySem.Challenge.rw_bd5015_01.row.prog w).w.params⟩ t = some r
theorem pk_fills (w : World) : Pk w (fillsNumberSlot (.ref 347) "sub") true := by kernel_rfl
theorem pk_refl (w : World) : Pk w (reflectedDiffers (.type "int") (.ref 347) "sub") false := by kernel_rfl
theorem pk_sub (w : World) : Pk w (isSubtype (.ref 347) (.type "int")) true := by kernel_rfl
theorem pk_sub2 (w : World) : Pk w (isSubtype (.ref 237) (.type "int")) true := by kernel_rfl
theorem pk_eq (w : World) : Pk w (typeLookup (.ref 237) "__eq__") (some (.builtin "int.__eq__")) := by kernel_rfl
theorem num_int : numberSlotInPython (.type "int") "sub" = pure false := rfl
theorem meets_isub {d : Addr} {x i : Int} {t tk : Tok} {dd : Option Addr} {sl : Array (Option Value)} : Meets (Builtin.«int.__sub__» ⟨[.int x t, .ref d], []⟩) (fun _ R s => s.heap.get? d = some ⟨.ref 347, dd, .prim (.int i tk), sl⟩ ∧ R (.ok (.ret (.int (x - i) s.toks))) { s with toks := s.toks + 1 }) := by
  intro prog w A R s ⟨ha, h⟩
  obtain ⟨hp, g, dr, tk, os⟩ := s
  repeat (any_goals (first | assumption | wp_step))
theorem meets_ieq {d : Addr} {x i : Int} {t tk : Tok} {c : Value} {dd : Option Addr} {sl : Array (Option Value)} : Meets (Builtin.«int.__eq__» ⟨[.ref d, .int x t], []⟩) (fun _ R s => s.heap.get? d = some ⟨c, dd, .prim (.int i tk), sl⟩ ∧ R (.ok (.ret (.bool (i == x)))) s) := by
  intro prog w A R s ⟨ha, h⟩
  obtain ⟨hp, g, dr, tk, os⟩ := s
  repeat (any_goals (first | assumption | wp_step))
theorem sub_day {w : World} {A : Around} {x i : Int} {t tk : Tok} {d : Addr} {dd : Option Addr} {sl} {s : Shared} {Q E : Value → Shared → Prop} (X : (Mine.hd.heap_39 w.params).In s.heap) (hd : s.heap.get? d = some ⟨.ref 347, dd, .prim (.int i tk), sl⟩)
    (h : Q (.int (x - i) s.toks) { s with toks := s.toks + 1 }) : wpAny (model PySem.Challenge.rw_bd5015_01.row.prog w) A (binaryOp .Sub (.int x t) (.ref d)) Q E s := by
  have hT : s.TypeIs (.int x t) "int" := rfl
  have f1 : fillsNumberSlot (.type "int") "sub" = pure true := F.fills_int_sub
  have p2 := pk_fills w
  have p3 := pk_refl w
  have p4 := pk_sub w
  have f5 := num_int
  have f6 : typeLookup (.type "int") (PySem.dunder "sub") = pure (some (.builtin "int.__sub__")) := F.slot_int_sub.lookup
  unfold binaryOp
  refine wpAny_holding ?_
  show wpAny _ _ (binaryOp1 "sub" (.int x t) (.ref d) >>= _) _ _ _ 
  refine wpAny_bind ?_
  unfold binaryOp1
  refine wpAny_bind (wpAny_typeOf hT (wpAny_bind ?_))
  refine wpAny_bind (wpAny_load hd (wpAny_pure ?_))
  refine wpAny_bind (wpAny_of_eq f1 ?_)
  dsimp only
  rw [if_neg (by decide)]
  refine wpAny_bind (at_peek X p2 ?_)
  rw [if_pos (by decide)]
  refine wpAny_bind (at_peek X p4 ?_)
  rw [if_pos (by decide)]
  refine wpAny_bind (at_peek X p3 ?_)
  rw [if_neg (by decide), if_pos (by decide)]
  refine wpAny_bind (wpAny_of_eq f5 ?_)
  rw [if_neg (by decide), if_pos (by decide)]
  unfold tryMethod
  refine wpAny_bind (wpAny_bind (wpAny_callSpecial?_slot (name := PySem.dunder "sub") (T := "int") (id := "int.__sub__") (self := .int x t) (args := [.ref d]) hT F.slot_int_sub ?_))
  refine call_meets F.slot_int_sub hT F.entry_int_sub (F.args_int_sub_2 _ _) meets_isub ⟨hd, ?_⟩
  exact wpAny_pure (wpAny_pure (wpAny_pure h))
theorem pk_spec (w : World) : Pk w (specialOf (.ref 366) "__eq__") (some (.builtin "int.__eq__")) := by kernel_rfl
theorem pk_inst (w : World) : Pk w (isInstance (.ref 366) (.type "int")) true := by kernel_rfl
theorem k_366 (w : World) : (Mine.hd.heap_39 w.params).lookup 366 = some ⟨.ref 237, some 365, .prim (.int 2 825), #[]⟩ := by kernel_rfl
theorem pk_type (w : World) : Pk w (typeOf (.ref 366)) (.ref 237) := by kernel_rfl
theorem call_month {w : World} {A : Around} {x : Int} {t : Tok} {s : Shared} {Q : Option Value → Shared → Prop} {E : Value → Shared → Prop} (X : (Mine.hd.heap_39 w.params).In s.heap)
    (h : Q (some (.bool (2 == x))) s) : wpAny (model PySem.Challenge.rw_bd5015_01.row.prog w) A (callSpecialIfBound? (.ref 366) "__eq__" [.int x t]) Q E s := by
  simp only [callSpecialIfBound?, bindSpecialIfBound?]
  refine wpAny_holding (wpAny_bind (wpAny_bind (at_peek X (pk_spec w) ?_)))
  simp only [F.slot_int_eq.bind]
  refine wpAny_bind (wpAny_askSetting (wpAny_ite ?_))
  have fin : wpAny (model PySem.Challenge.rw_bd5015_01.row.prog w) A (call (.builtin "int.__eq__") [.ref 366, .int x t]) (fun v => Q (some v)) E s := by
    refine wpAny_call (codeAny_call_builtin F.slot_int_eq.plain F.entry_int_eq ?_)
    refine check_slot (i := "int.__eq__") (owner := "int") (n := "__eq__") (by decide +kernel) (by decide +kernel) (Looks.of_peek X (pk_inst w)) (F.args_int_eq_2 _ _) ?_
    exact meets_ieq (dd := some 365) (tk := 825) (c := .ref 237) (sl := #[]) (d := 366) (x := x) (i := 2) (t := t) _ w A (wants (fun v => Q (some v)) E) s ⟨X _ _ (k_366 w), h⟩
  have fin2 : wpAny (model PySem.Challenge.rw_bd5015_01.row.prog w) A (call (.builtin "int.__eq__") ([.ref 366] ++ [.int x t]) >>= fun v => pure (some v)) Q E s :=
    wpAny_bind (wpAny_mono fin (fun v s' h' => wpAny_pure h') fun _ _ h' => h')
  split
  · exact wpAny_bind (wpAny_pure (wpAny_pure fin2))
  · exact wpAny_tryCatch (wpAny_bind (wpAny_pure (wpAny_pure fin2)))
theorem eq_month {w : World} {A : Around} {x : Int} {t : Tok} {s : Shared} {Q E : Value → Shared → Prop} (X : (Mine.hd.heap_39 w.params).In s.heap) (hu : A.units + 1 < cLine)
    (h : Q (.bool (2 == x)) s) : wpAny (model PySem.Challenge.rw_bd5015_01.row.prog w) A (compareOp .Eq (.int x t) (.ref 366)) Q E s := by
  have hT : s.TypeIs (.int x t) "int" := rfl
  have p4 := pk_sub2 w
  show wpAny _ _ (richCompare .Eq _ _) _ _ _
  unfold richCompare
  refine wpAny_holding (wpAny_bind (wpAny_cRoomFor (by omega) ?_))
  show wpAny _ _ (typeOf (.int x t) >>= _) _ _ _
  refine wpAny_bind (wpAny_typeOf hT (wpAny_bind (at_peek X (pk_type w) ?_)))
  rw [if_pos (by decide)]
  refine wpAny_bind (at_peek X p4 ?_)
  dsimp only
  rw [if_pos (by decide)]
  unfold tryCompare
  refine wpAny_bind (wpAny_bind (call_month X ?_))
  exact wpAny_pure (wpAny_bind (wpAny_rule (wpAny_pure h)))
theorem k_418 (w : World) : (Mine.hd.heap_39 w.params).lookup 418 = some ⟨.type "tuple", none, .seq ([.ref 399, .ref 402, .ref 405, .ref 408, .ref 411, .ref 414, .ref 417] : List Value).toArray 0, #[]⟩ := by kernel_rfl
theorem k_day (w : World) (k : Nat) (h : k < 7) : (Mine.hd.heap_39 w.params).lookup (399 + 3 * k) = some ⟨.ref 347, some (398 + 3 * k), .prim (.int k (968 + 13 * k)), #[]⟩ := by
  have hk : k = 0 ∨ k = 1 ∨ k = 2 ∨ k = 3 ∨ k = 4 ∨ k = 5 ∨ k = 6 := by omega
  rcases hk with rfl | rfl | rfl | rfl | rfl | rfl | rfl <;> kernel_rfl
theorem sub_days {w : World} {A : Around} {k : Int} {u : Tok} {value slice : Expr} {s : Shared} {h₀ : Heap} {L : Addr} {m : Str → Option Value} {Q E : Value → Shared → Prop} (F : Fr h₀ L s.heap m) (X : (Mine.hd.heap_39 w.params).In h₀) (h0 : 0 ≤ k) (h7 : k < 7)
    (hs : subscripted slice false (.ref 418) (.int k u) = operate [.ref 418, .int k u] (getItem (.ref 418) (.int k u)))
    (h : ∀ d dd tk, (Mine.hd.heap_39 w.params).lookup d = some ⟨.ref 347, dd, .prim (.int k tk), #[]⟩ → Q (.ref d) s) :
    wpAny (model PySem.Challenge.rw_bd5015_01.row.prog w) A (subscriptTail value slice (.ref 418) (.int k u)) Q E s := by
  obtain ⟨n, rfl⟩ : ∃ n : Nat, k = n := ⟨k.toNat, by omega⟩
  have hn : n < 7 := by omega
  refine topTup_K F X (k_418 w) (j := n) (v := .ref (399 + 3 * n)) (by omega) (by omega) ?_ ?_ (h _ _ _ (k_day w n hn)) hs
  · have hk : n = 0 ∨ n = 1 ∨ n = 2 ∨ n = 3 ∨ n = 4 ∨ n = 5 ∨ n = 6 := by omega
    rcases hk with rfl | rfl | rfl | rfl | rfl | rfl | rfl <;> rfl
  · have hk : n = 0 ∨ n = 1 ∨ n = 2 ∨ n = 3 ∨ n = 4 ∨ n = 5 ∨ n = 6 := by omega
    rcases hk with rfl | rfl | rfl | rfl | rfl | rfl | rfl <;> rfl
theorem k_419 (w : World) : (Mine.hd.heap_39 w.params).lookup 419 = some ⟨.type "list", none, .seq ([.int 0 1092, .int 31 1093, .int 28 1094, .int 31 1095, .int 30 1096, .int 31 1097, .int 30 1098, .int 31 1099, .int 31 1100, .int 30 1101, .int 31 1102, .int 30 1103, .int 31 1104] : List Value).toArray 0, #[]⟩ := by kernel_rfl
def mdays (m : Int) : Int := if m = 2 then 28 else if m = 4 ∨ m = 6 ∨ m = 9 ∨ m = 11 then 30 else 31
theorem sub_mdays {w : World} {A : Around} {k : Int} {u : Tok} {value slice : Expr} {s : Shared} {h₀ : Heap} {L : Addr} {m : Str → Option Value} {Q E : Value → Shared → Prop} (F : Fr h₀ L s.heap m) (X : (Mine.hd.heap_39 w.params).In h₀) (h0 : 1 ≤ k) (h7 : k ≤ 12)
    (hs : subscripted slice false (.ref 419) (.int k u) = operate [.ref 419, .int k u] (getItem (.ref 419) (.int k u)))
    (h : ∀ tk, Q (.int (mdays k) tk) s) :
    wpAny (model PySem.Challenge.rw_bd5015_01.row.prog w) A (subscriptTail value slice (.ref 419) (.int k u)) Q E s := by
  obtain ⟨n, rfl⟩ : ∃ n : Nat, k = n := ⟨k.toNat, by omega⟩
  refine topList_K F X (k_419 w) (v := .int (mdays n) (1092 + n)) (by omega) (by omega) ?_ (h _) hs
  have hk : n = 1 ∨ n = 2 ∨ n = 3 ∨ n = 4 ∨ n = 5 ∨ n = 6 ∨ n = 7 ∨ n = 8 ∨ n = 9 ∨ n = 10 ∨ n = 11 ∨ n = 12 := by omega
  rcases hk with rfl | rfl | rfl | rfl | rfl | rfl | rfl | rfl | rfl | rfl | rfl | rfl <;> rfl
theorem k_455 (w : World) : (Mine.hd.heap_39 w.params).lookup 455 = some ⟨.type "tuple", none, .seq #[.int 4 1167, .int 6 1168, .int 9 1169, .int 11 1170] 0, #[]⟩ := by kernel_rfl
theorem in_months {w : World} {A : Around} {k : Int} {u : Tok} {s : Shared} {h₀ : Heap} {L : Addr} {m : Str → Option Value} {Q E : Value → Shared → Prop} (F : Fr h₀ L s.heap m) (X : (Mine.hd.heap_39 w.params).In h₀)
    (h : Q (.bool (([4, 6, 9, 11] : List Int).any (· == k))) s) :
    wpAny (model PySem.Challenge.rw_bd5015_01.row.prog w) A (compareOp .In (.int k u) (.ref 455)) Q E s := by
  refine in_tuple_ints (ns := [4, 6, 9, 11]) ⟨_, (X.keeps F.keep) _ _ (k_455 w), rfl, 0, rfl⟩ ?_ h
  exact .cons _ _ (.cons _ _ (.cons _ _ (.cons _ _ .nil)))
end Mine
end
section
open PySem PySem.W PySem.Calls PyProof.Rows PySem.Float64 PySem.Flt
namespace Mine
noncomputable abbrev LS : List Str := looseW Mine.hd.view_39 [Str.ofString "IllegalMonthError", Str.ofString "Month", Str.ofString "Day", Str.ofString "JANUARY", Str.ofString "FEBRUARY", Str.ofString "MARCH", Str.ofString "APRIL", Str.ofString "MAY", Str.ofString "JUNE", Str.ofString "JULY", Str.ofString "AUGUST", Str.ofString "SEPTEMBER", Str.ofString "OCTOBER", Str.ofString "NOVEMBER", Str.ofString "DECEMBER", Str.ofString "MONDAY", Str.ofString "TUESDAY", Str.ofString "WEDNESDAY", Str.ofString "THURSDAY", Str.ofString "FRIDAY", Str.ofString "SATURDAY", Str.ofString "SUNDAY", Str.ofString "_days", Str.ofString "mdays"]
abbrev Claim (w : World) (g : Nat) (f : Addr) (vs : List Value) (R : Heap → Addr → (Str → Option Value) → List (Addr × Obj) → Shared → (Value → Shared → Prop) → Prop) : Prop :=
  ∀ (mean : ExcName → Option Value) (mg mb : Str → Option Value) (dp un : Nat) (gd : Option (List Code)) (cn : Str) (cs : Scope) (a : Addr) (ccd : Value) (cl : List (Str × Addr)) (outer : List Env) (A₀ : Around) (base h₀ : Heap) (L : Addr) (m : Str → Option Value) (news : List (Addr × Obj)) (s : Shared) (Q E : Value → Shared → Prop),
    Below A₀ base outer h₀ → Fr h₀ L s.heap m → (Mine.hd.heap_39 w.params).In h₀ → News h₀ L s.heap news → Top Mine.hd.view_39 LS mean mg mb h₀ → cs.kind = .function →
    dp + g < recursionLimit → un + 8 * g < cLine → R h₀ L m news s Q →
      wpAny (model PySem.Challenge.rw_bd5015_01.row.prog w) (ktrTop dp un gd cn cs L a ccd cl outer) (call (.ref f) vs) Q E s
theorem fdiv2 (a : Int) : a.fdiv 2 = a / 2 := Int.fdiv_eq_ediv_of_nonneg a (by decide)
theorem fmod7 (a : Int) : a.fmod 7 = a % 7 := Int.fmod_eq_emod_of_nonneg a (by decide)
theorem fmod4 (a : Int) : a.fmod 4 = a % 4 := Int.fmod_eq_emod_of_nonneg a (by decide)
theorem fmod100 (a : Int) : a.fmod 100 = a % 100 := Int.fmod_eq_emod_of_nonneg a (by decide)
theorem fmod400 (a : Int) : a.fmod 400 = a % 400 := Int.fmod_eq_emod_of_nonneg a (by decide)
end Mine
end
section
open PySem PySem.W PySem.Calls PyProof.Rows
namespace Mine
section
variable {prog : Program} {w : World} {A₀ A : Around} {s : Shared} {base h₀ : Heap} {L : Addr} {m : Str → Option Value} {env : Env} {news : List (Addr × Obj)} {K : Frag} {p : Program} {loose : List Str} {mean : ExcName → Option Value} {mg mb : Str → Option Value}
    {R : Result → Shared → Prop} {name qual : Str} {params : Arguments} {body : List Stmt} {scope : Scope} {dV kV doc pm cdv ct oc : Value} {an od : Option Addr} {osl : Array (Option Value)} {f : Addr} {args : Args} {binds : List (Str × Value)}
/-- a call, from the outermost frame, of a def that catches: what was made before the call is found again behind it -/
theorem enter0 (B : Below A₀ base [] h₀) (F : Fr h₀ L s.heap m) (X₀ : K.In h₀) (N : News h₀ L s.heap news) (T : Top p loose mean mg mb h₀) (hA : A.frames = some [env]) (hf : env.frame = some L) (hke : env.scope.kind = .function)
    (ho : K.lookup f = some ⟨oc, od, .func (fnOf name qual params body scope dV kV doc pm an cdv ct), osl⟩) (hcd : codeIn K cdv qual = true) (hroom : A.depth < recursionLimit)
    (hbind : BindsTo s (fnOf name qual params body scope dV kV doc pm an cdv ct) args binds) (hloc : ∀ y ∈ binds, scope.names.lookup y.1 = some .local)
    (h : ∀ g L' h₁, Fr g L' h₁ (fun y => binds.reverse.lookup y) → News g L' h₁ [] → Below A base [env] g → K.In g → Top p loose mean mg mb g → KtsDicts ([env].filterMap (·.frame)) g →
      wpAny (model prog w) (A.deeper (envOf qual scope L' f cdv)) (execs body (envOf qual scope L' f cdv))
        (fun fl s' => LeaveS0 ([env].filterMap (·.frame)) h₀ L m g (fun r s' => News h₀ L s'.heap news → R r s') (match fl with | .ret v => v | _ => .none) s')
        (fun e s' => wpAny (model prog w) (A.deeper (envOf qual scope L' f cdv)) (leaving (envOf qual scope L' f cdv) e) (fun _ s'' => R (.error e) s'') (fun e' s'' => R (.error e') s'') s')
        { s with heap := h₁, toks := s.toks + binds.length })
    (hco : scope.isCoroutine = false) (hgen : scope.isGenerator = false) (hk : scope.kind = .function)
    (hcell : ∀ x ∈ scope.names, x.2 ≠ .cell) : codeAny (model prog w) A (.call (.ref f) args) R s := by
  have X := X₀.keeps F.keep
  have P := pushX B F hf hke
  have hL₀ : h₀.get? L = none := by
    cases q : h₀.get? L with
    | none => rfl
    | some o => exact absurd (Heap.lt_size q) (Nat.not_lt.mpr F.above)
  have hfr : [env].filterMap (·.frame) = [L] := by simp [hf]
  obtain ⟨oL, es, ep, hL, hLd, hLk, hLf⟩ := F.ns
  refine codeAny_call_def (fd := fnOf name qual params body scope dV kV doc pm an cdv ct) (body := body) (binds := binds) hroom (X _ _ ho) rfl (T.nolimit.keeps F.keep) (codeRec_of X hcd) rfl hbind hcell hloc (fun h₁ hns hk₁ => ?_) hco hgen hk
  refine wpAny_mono (h s.heap s.heap.objs.size h₁ ⟨hns, hk₁, Nat.le_refl _⟩ News.nil ⟨hA, P.stays, P.frames⟩ X (T.keeps F.keep) (fun b hb => ?_)) (fun fl s' hl => ?_) fun _ _ y => y
  · rw [hfr] at hb
    rw [List.mem_singleton.mp hb]
    exact ⟨oL, es, ep, hL, hLd⟩
  · obtain ⟨g', L', m', news', T', F', N', k⟩ := hl
    rw [hfr] at T'
    have keepb : ∀ b o, s.heap.get? b = some o → b ≠ L → s'.heap.get? b = some o := fun b o e hb => F'.keep b o (T'.other b o e fun q => hb (List.mem_singleton.mp q))
    obtain ⟨sl, hs⟩ := T'.frame L oL hL (List.mem_singleton.mpr rfl)
    have keep0 : ∀ b o, h₀.get? b = some o → s'.heap.get? b = some o := fun b o e => keepb b o (F.keep b o e) fun q => by rw [q, hL₀] at e; cases e
    have FF : Fr h₀ L s'.heap m := ⟨⟨_, es, ep, F'.keep _ _ hs, hLd, hLk, hLf⟩, keep0, F.above⟩
    refine k FF (fun q hq => ⟨(N' q hq).1, fun e => ?_, ?_⟩) fun q hq => ⟨keepb _ _ (N q hq).1 (N q hq).2.1, (N q hq).2.1, (N q hq).2.2⟩
    · have := (N' q hq).2.2
      rw [e, hs] at this
      cases this
    · cases e : h₀.get? q.1 with
      | none => rfl
      | some o =>
        have h2 := (N' q hq).2.2
        have h1 := F.keep _ _ e
        rw [T'.other _ _ h1 fun z => by rw [List.mem_singleton.mp z, hL₀] at e; cases e] at h2
        cases h2
end
end Mine
end
section
open PySem PySem.W PySem.Calls PyProof.Rows
namespace Mine
theorem neg_len {v : Int} (h1 : v < 0) (h0 : -2000000 < v) : (Str.ofString (toString v)).length ≤ 12 := by
  obtain ⟨m, rfl⟩ : ∃ m : Nat, v = Int.negSucc m := ⟨(-v - 1).toNat, by omega⟩
  have hm : ((m + 1 : Nat) : Int) < 10 ^ 10 := by omega
  have h := toString_length_le (v := ((m + 1 : Nat) : Int)) (by omega) (k := 10) (by decide) hm
  have e : toString (Int.negSucc m) = "-" ++ toString ((m + 1 : Nat) : Int) := rfl
  rw [e]
  rw [PyProof.Rows.ofString_length] at h ⊢
  rw [String.toList_append, List.length_append]
  show 1 + _ ≤ 12
  omega
theorem log_small {n : Int} (h1 : -2000000 < n) (h2 : n < 2000000) : n.natAbs.log2 < 1920 := by
  refine Nat.lt_of_le_of_lt (m := 21) ?_ (by decide)
  by_cases h : n.natAbs = 0
  · rw [h]; decide
  · have := (Nat.log2_lt h (k := 22)).2 (by omega)
    omega
end Mine
end
section
open PySem PySem.W PySem.Calls PyProof.Rows PySem.Float64 PySem.Flt
namespace Mine
local macro_rules | `(tactic| ktr_room) => `(tactic| ((try simp only [depth_under_make, depth_under_kw, depth_in1, depth_deeper, depth_caller]); (try dsimp only [ktrTop]); omega))
local macro_rules | `(tactic| k_room) => `(tactic| ktr_room)
local macro_rules | `(tactic| ktr_units) => `(tactic| (have hcL9 := cLine_is; (try simp only [units_in1, units_deeper, Around.mark_units, units_caller]); (try dsimp only [ktrTop]); omega))
local macro_rules | `(tactic| walk_at "isH tac") => `(tactic| first | assumption | exact isH_half | exact isH_epoch)
local macro_rules | `(tactic| walk_at "binaryOp Add float float") => `(tactic| ((with_reducible show wpAny _ _ (binaryOp Operator.Add (Value.float _ _) (Value.float _ _)) _ _ _); refine' add_ff_H ?hx ?hy ?hb ?_; (case hx => walk_at "isH tac"); (case hy => walk_at "isH tac"); (case hb => omega); intro zF hF))
local macro_rules | `(tactic| walk_at "binaryOp Add float int") => `(tactic| ((with_reducible show wpAny _ _ (binaryOp Operator.Add (Value.float _ _) (Value.int _ _)) _ _ _); first
  | (refine' add_fi_H ?hx ?hn ?hb ?_; (case hx => walk_at "isH tac"); (case hn => omega); (case hb => omega); intro zF hF)
  | (refine' add_fi_raw ?hn ?_; (case hn => omega))))
local macro_rules | `(tactic| walk_at "binaryOp Sub float int") => `(tactic| ((with_reducible show wpAny _ _ (binaryOp Operator.Sub (Value.float _ _) (Value.int _ _)) _ _ _); refine' sub_fi_H ?hx ?hn ?hb ?_; (case hx => walk_at "isH tac"); (case hn => omega); (case hb => omega); intro zF hF))
local macro_rules | `(tactic| walk_at "inplaceOp Add int float") => `(tactic| ((with_reducible show wpAny _ _ (inplaceOp Operator.Add (Value.int _ _) (Value.float _ _)) _ _ _); refine' iadd_if_H ?hx ?hn ?hb ?_; (case hx => walk_at "isH tac"); (case hn => omega); (case hb => omega); intro zF hF))
local macro_rules | `(tactic| walk_at "binaryOp Mult int float") => `(tactic| ((with_reducible show wpAny _ _ (binaryOp Operator.Mult (Value.int 2 _) (Value.float _ _)) _ _ _); refine' mul_if_H ?hx ?hn ?hb ?_; (case hx => walk_at "isH tac"); (case hn => omega); (case hb => omega); intro zF hF))
local macro_rules | `(tactic| walk_at "binaryOp Div int int") => `(tactic| ((with_reducible show wpAny _ _ (binaryOp Operator.Div (Value.int _ _) (Value.int _ _)) _ _ _); refine' div_ii_q ?hA ?h0 ?h1 ?h2 ?h3 ?_; (case hA => with_unfolding_all rfl); (case h0 => omega); (case h1 => omega); (case h2 => omega); (case h3 => omega); intro zF eF hF))
local macro_rules | `(tactic| walk_at "call builtin:math.trunc") => `(tactic| ((with_reducible show wpAny _ _ (call _ [Value.float _ _]) _ _ _); refine' trunc_f_H ?hA ?hx ?h0 ?_; (case hA => with_unfolding_all rfl); (case hx => walk_at "isH tac"); (case h0 => omega)))
local macro_rules | `(tactic| walk_at "call builtin:math.floor") => `(tactic| ((with_reducible show wpAny _ _ (call _ [Value.float _ _]) _ _ _); refine' floor_f_q ?hA ?hx ?_; (case hA => with_unfolding_all rfl); (case hx => first | assumption | exact month_q (by omega) (by omega) (by omega) (by assumption))))
local macro_rules | `(tactic| walk_at "call type:int") => `(tactic| ((with_reducible show wpAny _ _ (call _ [Value.float _ _]) _ _ _); refine' int_f_H ?hA ?hx ?h0 ?_; (case hA => with_unfolding_all rfl); (case hx => walk_at "isH tac"); (case h0 => omega)))
local macro_rules | `(tactic| walk_at "compareOp NotEq float float") => `(tactic| ((with_reducible show wpAny _ _ (compareOp CmpOp.NotEq (Value.float _ _) (Value.float _ _)) _ _ _); refine' ne_ff_H ?hx ?hy ?_; (case hx => walk_at "isH tac"); (case hy => walk_at "isH tac")))
local macro_rules | `(tactic| walk_at "prune ite") => `(tactic| (simp only [decide_eq_true_eq, beq_iff_eq, bne_iff_ne, ne_eq, Bool.not_eq_true', decide_eq_false_iff_not, fdiv2]; omega))
local macro_rules | `(tactic| walk_at "ite") => `(tactic| first | (refine' ite_neg ?hc ?_; (case hc => walk_at "prune ite")) | (refine' ite_pos ?hc ?_; (case hc => walk_at "prune ite")))
local macro_rules | `(tactic| walk_at "claim ends") => `(tactic| (
  (case k1 => first | k_asm | fail "claim: below") ; (case k2 => first | k_asm | fail "claim: frame"); (case k3 => first | k_asm | fail "claim: part"); (case k4 => first | k_asm | fail "claim: ledger"); (case k5 => first | k_asm | fail "claim: top")
  (case kK => first | exact rfl | assumption | fail "claim: kind")
  (case kd => first | ktr_room | fail "claim: room")
  (case ku => first | ktr_units | fail "claim: units")))
local macro_rules | `(tactic| walk_at "claim news") => `(tactic| first | k_asm | (refine' cb_drop ?cbN ?cbS; (case cbN => assumption); (case cbS => kcj_all)))
theorem jwday_ok (w : World) (x : UInt64) (t : Tok) (k : Int) (hx : IsH x k) (h1 : 0 ≤ k) (h2 : k < 2 ^ 40) : Claim w 2 66 [.float x t] (RetInt ((k + 1) / 2 % 7)) := by
  w_top off
  intro mean mg mb dp un gd cn cs a ccd cl outer A₀ base h₀ L m news s Q E B F X N T hk hd hu hret
  unfold RetInt at hret
  refine wpAny_call ?_
  k_dflt cell_enter
  k_steps
  all_goals (refine cb_retI hret ?_ (by k_asm) (by walk_at "claim news"); simp only [fmod7])
local macro_rules | `(tactic| walk_at "call ref") => `(tactic| (k_here; (with_reducible show wpAny _ _ (call (Value.ref 66) [Value.float _ _]) _ _ _); k_dflt (
  refine' jwday_ok _ _ _ _ ?kx ?ka ?kb _ _ _ _ _ _ _ _ _ _ _ _ _ _ _ _ _ _ _ _ _ ?k1 ?k2 ?k3 ?k4 ?k5 ?kK ?kd ?ku ?_
  (case kx => walk_at "isH tac"); (case ka => omega); (case kb => omega); walk_at "claim ends"
  unfold RetInt
  intro t9 h9 tk9 F9 N9
  (try dsimp only); (try k_fold))))
theorem before_ok (w : World) (x : UInt64) (t u : Tok) (k d : Int) (hx : IsH x k) (h1 : 100 ≤ k) (h2 : k < 2 ^ 30) (h3 : 0 ≤ d) (h4 : d < 7) : Claim w 4 73 [.int d u, .float x t] (RetH (k - 2 * ((k - 2 * d + 1) / 2 % 7))) := by
  w_top off
  intro mean mg mb dp un gd cn cs a ccd cl outer A₀ base h₀ L m news s Q E B F X N T hk hd hu hret
  unfold RetH at hret
  refine wpAny_call ?_
  k_dflt cell_enter
  k_steps
  all_goals (refine retH_end hret (by assumption) ?_ (by k_asm) (by walk_at "claim news"); omega)
local macro_rules | `(tactic| walk_at "call ref") => `(tactic| (k_here; (with_reducible show wpAny _ _ (call (Value.ref 73) [Value.int _ _, Value.float _ _]) _ _ _); k_dflt (
  refine' before_ok _ _ _ _ _ _ ?kx ?ka ?kb ?kc ?ke _ _ _ _ _ _ _ _ _ _ _ _ _ _ _ _ _ _ _ _ _ ?k1 ?k2 ?k3 ?k4 ?k5 ?kK ?kd ?ku ?_
  (case kx => walk_at "isH tac"); (case ka => omega); (case kb => omega); (case kc => omega); (case ke => omega); walk_at "claim ends"
  unfold RetH
  intro x9 t9 h9 tk9 hF F9 N9
  (try dsimp only); (try k_fold))))
theorem prev_ok (w : World) (x : UInt64) (t u : Tok) (k d : Int) (hx : IsH x k) (h1 : 200 ≤ k) (h2 : k < 2 ^ 29) (h3 : 0 ≤ d) (h4 : d < 7) : Claim w 8 94 [.int d u, .float x t] (RetH (k - 2 - 2 * ((k - 2 - 2 * d + 1) / 2 % 7))) := by
  w_top off
  intro mean mg mb dp un gd cn cs a ccd cl outer A₀ base h₀ L m news s Q E B F X N T hk hd hu hret
  unfold RetH at hret
  refine wpAny_call ?_
  k_dflt cell_enter
  k_steps
  all_goals (refine retH_end hret (by assumption) ?_ (by k_asm) (by walk_at "claim news"); omega)
local macro_rules | `(tactic| walk_at "call ref") => `(tactic| (k_here; (with_reducible show wpAny _ _ (call (Value.ref 94) [Value.int _ _, Value.float _ _]) _ _ _); k_dflt (
  refine' prev_ok _ _ _ _ _ _ ?kx ?ka ?kb ?kc ?ke _ _ _ _ _ _ _ _ _ _ _ _ _ _ _ _ _ _ _ _ _ ?k1 ?k2 ?k3 ?k4 ?k5 ?kK ?kd ?ku ?_
  (case kx => walk_at "isH tac"); (case ka => omega); (case kb => omega); (case kc => omega); (case ke => omega); walk_at "claim ends"
  unfold RetH
  intro x9 t9 h9 tk9 hF F9 N9
  (try dsimp only); (try k_fold))))
theorem next_ok (w : World) (x : UInt64) (t u : Tok) (k d : Int) (hx : IsH x k) (h1 : 200 ≤ k) (h2 : k < 2 ^ 29) (h3 : 0 ≤ d) (h4 : d < 7) : Claim w 8 87 [.int d u, .float x t] (RetH (k + 14 - 2 * ((k + 14 - 2 * d + 1) / 2 % 7))) := by
  w_top off
  intro mean mg mb dp un gd cn cs a ccd cl outer A₀ base h₀ L m news s Q E B F X N T hk hd hu hret
  unfold RetH at hret
  refine wpAny_call ?_
  k_dflt cell_enter
  k_steps
  all_goals (refine retH_end hret (by assumption) ?_ (by k_asm) (by walk_at "claim news"); omega)
local macro_rules | `(tactic| walk_at "call ref") => `(tactic| (k_here; (with_reducible show wpAny _ _ (call (Value.ref 87) [Value.int _ _, Value.float _ _]) _ _ _); k_dflt (
  refine' next_ok _ _ _ _ _ _ ?kx ?ka ?kb ?kc ?ke _ _ _ _ _ _ _ _ _ _ _ _ _ _ _ _ _ _ _ _ _ ?k1 ?k2 ?k3 ?k4 ?k5 ?kK ?kd ?ku ?_
  (case kx => walk_at "isH tac"); (case ka => omega); (case kb => omega); (case kc => omega); (case ke => omega); walk_at "claim ends"
  unfold RetH
  intro x9 t9 h9 tk9 hF F9 N9
  (try dsimp only); (try k_fold))))
theorem nweeks_pos_ok (w : World) (x : UInt64) (t u v : Tok) (k d n : Int) (hx : IsH x k) (h1 : 200 ≤ k) (h2 : k < 2 ^ 28) (h3 : 0 ≤ d) (h4 : d < 7) (h5 : 0 < n) (h6 : n < 10) : Claim w 12 101 [.int d u, .float x t, .int n v] (RetH (14 * n + (k - 2 - 2 * ((k - 2 - 2 * d + 1) / 2 % 7)))) := by
  w_top off
  intro mean mg mb dp un gd cn cs a ccd cl outer A₀ base h₀ L m news s Q E B F X N T hk hd hu hret
  unfold RetH at hret
  refine wpAny_call ?_
  k_dflt cell_enter
  k_steps
  all_goals (refine retH_end hret (by assumption) ?_ (by k_asm) (by walk_at "claim news"); omega)
theorem nweeks_neg_ok (w : World) (x : UInt64) (t u v : Tok) (k d n : Int) (hx : IsH x k) (h1 : 200 ≤ k) (h2 : k < 2 ^ 28) (h3 : 0 ≤ d) (h4 : d < 7) (h5 : n ≤ 0) (h6 : -10 < n) : Claim w 12 101 [.int d u, .float x t, .int n v] (RetH (14 * n + (k + 14 - 2 * ((k + 14 - 2 * d + 1) / 2 % 7)))) := by
  w_top off
  intro mean mg mb dp un gd cn cs a ccd cl outer A₀ base h₀ L m news s Q E B F X N T hk hd hu hret
  unfold RetH at hret
  refine wpAny_call ?_
  k_dflt cell_enter
  k_steps
  all_goals (refine retH_end hret (by assumption) ?_ (by k_asm) (by walk_at "claim news"); omega)
local macro_rules | `(tactic| walk_at "call ref") => `(tactic| (k_here; (with_reducible show wpAny _ _ (call (Value.ref 101) [Value.int _ _, Value.float _ _, Value.int _ _]) _ _ _); k_dflt (
  refine' nweeks_pos_ok _ _ _ _ _ _ _ _ ?kx ?ka ?kb ?kc ?ke ?kf ?kg _ _ _ _ _ _ _ _ _ _ _ _ _ _ _ _ _ _ _ _ _ ?k1 ?k2 ?k3 ?k4 ?k5 ?kK ?kd ?ku ?_
  (case kx => walk_at "isH tac"); (case ka => omega); (case kb => omega); (case kc => omega); (case ke => omega); (case kf => omega); (case kg => omega); walk_at "claim ends"
  unfold RetH
  intro x9 t9 h9 tk9 hF F9 N9
  (try dsimp only); (try k_fold))))
local macro_rules | `(tactic| walk_at "call ref") => `(tactic| (k_here; (with_reducible show wpAny _ _ (call (Value.ref 101) [Value.int _ _, Value.float _ _, Value.int _ _]) _ _ _); k_dflt (
  refine' nweeks_neg_ok _ _ _ _ _ _ _ _ ?kx ?ka ?kb ?kc ?ke ?kf ?kg _ _ _ _ _ _ _ _ _ _ _ _ _ _ _ _ _ _ _ _ _ ?k1 ?k2 ?k3 ?k4 ?k5 ?kK ?kd ?ku ?_
  (case kx => walk_at "isH tac"); (case ka => omega); (case kb => omega); (case kc => omega); (case ke => omega); (case kf => omega); (case kg => omega); walk_at "claim ends"
  unfold RetH
  intro x9 t9 h9 tk9 hF F9 N9
  (try dsimp only); (try k_fold))))
end Mine
end
section
open PySem PySem.W PySem.Calls PyProof.Rows PySem.Float64 PySem.Flt
namespace Mine
local macro_rules | `(tactic| ktr_room) => `(tactic| ((try simp only [depth_under_make, depth_under_kw, depth_in1, depth_deeper, depth_caller]); (try dsimp only [ktrTop]); omega))
local macro_rules | `(tactic| k_room) => `(tactic| ktr_room)
local macro_rules | `(tactic| ktr_units) => `(tactic| (have hcL9 := cLine_is; (try simp only [units_in1, units_deeper, Around.mark_units, units_caller]); (try dsimp only [ktrTop]); omega))
local macro_rules | `(tactic| walk_at "isH tac") => `(tactic| first | assumption | exact isH_half | exact isH_epoch)
local macro_rules | `(tactic| walk_at "binaryOp Add float float") => `(tactic| ((with_reducible show wpAny _ _ (binaryOp Operator.Add (Value.float _ _) (Value.float _ _)) _ _ _); refine' add_ff_H ?hx ?hy ?hb ?_; (case hx => walk_at "isH tac"); (case hy => walk_at "isH tac"); (case hb => omega); intro zF hF))
local macro_rules | `(tactic| walk_at "binaryOp Add float int") => `(tactic| ((with_reducible show wpAny _ _ (binaryOp Operator.Add (Value.float _ _) (Value.int _ _)) _ _ _); first
  | (refine' add_fi_H ?hx ?hn ?hb ?_; (case hx => walk_at "isH tac"); (case hn => omega); (case hb => omega); intro zF hF)
  | (refine' add_fi_raw ?hn ?_; (case hn => omega))))
local macro_rules | `(tactic| walk_at "binaryOp Sub float int") => `(tactic| ((with_reducible show wpAny _ _ (binaryOp Operator.Sub (Value.float _ _) (Value.int _ _)) _ _ _); refine' sub_fi_H ?hx ?hn ?hb ?_; (case hx => walk_at "isH tac"); (case hn => omega); (case hb => omega); intro zF hF))
local macro_rules | `(tactic| walk_at "inplaceOp Add int float") => `(tactic| ((with_reducible show wpAny _ _ (inplaceOp Operator.Add (Value.int _ _) (Value.float _ _)) _ _ _); refine' iadd_if_H ?hx ?hn ?hb ?_; (case hx => walk_at "isH tac"); (case hn => omega); (case hb => omega); intro zF hF))
local macro_rules | `(tactic| walk_at "binaryOp Mult int float") => `(tactic| ((with_reducible show wpAny _ _ (binaryOp Operator.Mult (Value.int 2 _) (Value.float _ _)) _ _ _); refine' mul_if_H ?hx ?hn ?hb ?_; (case hx => walk_at "isH tac"); (case hn => omega); (case hb => omega); intro zF hF))
local macro_rules | `(tactic| walk_at "binaryOp Div int int") => `(tactic| ((with_reducible show wpAny _ _ (binaryOp Operator.Div (Value.int _ _) (Value.int _ _)) _ _ _); refine' div_ii_q ?hA ?h0 ?h1 ?h2 ?h3 ?_; (case hA => with_unfolding_all rfl); (case h0 => omega); (case h1 => omega); (case h2 => omega); (case h3 => omega); intro zF eF hF))
local macro_rules | `(tactic| walk_at "call builtin:math.trunc") => `(tactic| ((with_reducible show wpAny _ _ (call _ [Value.float _ _]) _ _ _); refine' trunc_f_H ?hA ?hx ?h0 ?_; (case hA => with_unfolding_all rfl); (case hx => walk_at "isH tac"); (case h0 => omega)))
local macro_rules | `(tactic| walk_at "call builtin:math.floor") => `(tactic| ((with_reducible show wpAny _ _ (call _ [Value.float _ _]) _ _ _); refine' floor_f_q ?hA ?hx ?_; (case hA => with_unfolding_all rfl); (case hx => first | assumption | exact month_q (by omega) (by omega) (by omega) (by assumption))))
local macro_rules | `(tactic| walk_at "call type:int") => `(tactic| ((with_reducible show wpAny _ _ (call _ [Value.float _ _]) _ _ _); refine' int_f_H ?hA ?hx ?h0 ?_; (case hA => with_unfolding_all rfl); (case hx => walk_at "isH tac"); (case h0 => omega)))
local macro_rules | `(tactic| walk_at "compareOp NotEq float float") => `(tactic| ((with_reducible show wpAny _ _ (compareOp CmpOp.NotEq (Value.float _ _) (Value.float _ _)) _ _ _); refine' ne_ff_H ?hx ?hy ?_; (case hx => walk_at "isH tac"); (case hy => walk_at "isH tac")))
local macro_rules | `(tactic| walk_at "prune ite") => `(tactic| (simp only [decide_eq_true_eq, beq_iff_eq, bne_iff_ne, ne_eq, Bool.not_eq_true', decide_eq_false_iff_not, fdiv2]; omega))
local macro_rules | `(tactic| walk_at "ite") => `(tactic| first | (refine' ite_neg ?hc ?_; (case hc => walk_at "prune ite")) | (refine' ite_pos ?hc ?_; (case hc => walk_at "prune ite")))
local macro_rules | `(tactic| walk_at "claim ends") => `(tactic| (
  (case k1 => first | k_asm | fail "claim: below") ; (case k2 => first | k_asm | fail "claim: frame"); (case k3 => first | k_asm | fail "claim: part"); (case k4 => first | k_asm | fail "claim: ledger"); (case k5 => first | k_asm | fail "claim: top")
  (case kK => first | exact rfl | assumption | fail "claim: kind")
  (case kd => first | ktr_room | fail "claim: room")
  (case ku => first | ktr_units | fail "claim: units")))
local macro_rules | `(tactic| walk_at "claim news") => `(tactic| first | k_asm | (refine' cb_drop ?cbN ?cbS; (case cbN => assumption); (case cbS => kcj_all)))
local macro_rules | `(tactic| walk_at "compareOp In int ref") => `(tactic| (k_here; (with_reducible show wpAny _ _ (compareOp CmpOp.In (Value.int _ _) (Value.ref 455)) _ _ _); k_dflt (refine' in_months ?F ?X ?_; (case F => k_asm); (case X => k_asm))))
def adjOf (y m : Int) : Int := if m ≤ 2 then 0 else if leapB y = true then -1 else -2
def noonOf (y m : Int) : Int := 1721426 + (365 * (y - 1) + (y - 1) / 4 - (y - 1) / 100 + (y - 1) / 400 + (367 * m - 362) / 12 + adjOf y m)
theorem leap_lib (y : Int) : (if y.fmod 4 = 0 ∧ ¬y.fmod 100 = 0 then y.fmod 100 != 0 else if y.fmod 4 = 0 ∧ y.fmod 100 = 0 then y.fmod 400 == 0 else y.fmod 4 == 0) = leapB y := by
  simp only [fmod4, fmod100, fmod400, leapB]
  by_cases h1 : y % 4 = 0 <;> by_cases h2 : y % 100 = 0 <;> simp [h1, h2] <;> rfl
theorem noon_end1 {y m : Int} (h : m ≤ 2) : adjOf y m = 0 := by unfold adjOf; rw [if_pos h]
theorem noon_end2 {y m : Int} (h : ¬ m ≤ 2) (hl : leapB y = true) : adjOf y m = -1 := by unfold adjOf; rw [if_neg h, if_pos hl]
theorem noon_end3 {y m : Int} (h : ¬ m ≤ 2) (hl : leapB y = false) : adjOf y m = -2 := by unfold adjOf; rw [if_neg h, if_neg (by rw [hl]; decide)]
theorem isleap_ok (w : World) (y : Int) (t : Tok) : Claim w 2 426 [.int y t] (RetBool (leapB y)) := by
  w_top off
  intro mean mg mb dp un gd cn cs a ccd cl outer A₀ base h₀ L m news s Q E B F X N T hk hd hu hret
  unfold RetBool at hret
  refine wpAny_call ?_
  k_dflt cell_enter
  k_steps
  all_goals (refine cb_retB hret ?_ (by k_asm) (by walk_at "claim news"))
  all_goals (simp only [fmod4, fmod100, fmod400] at *; simp_all [leapB])
  all_goals rfl
local macro_rules | `(tactic| walk_at "call ref") => `(tactic| (k_here; (with_reducible show wpAny _ _ (call (Value.ref 426) [Value.int _ _]) _ _ _); k_dflt (
  refine' isleap_ok _ _ _  _ _ _ _ _ _ _ _ _ _ _ _ _ _ _ _ _ _ _ _ _ ?k1 ?k2 ?k3 ?k4 ?k5 ?kK ?kd ?ku ?_
  walk_at "claim ends"
  unfold RetBool
  intro t9 h9 tk9 F9 N9
  (try dsimp only); (try k_fold))))
theorem legal_ok (w : World) (y m : Int) (t u v : Tok) : Claim w 4 462 [.int y t, .int m u, .int 1 v] (RetBool true) := by
  w_top off
  intro mean mg mb dp un gd cn cs a ccd cl outer A₀ base h₀ L m news s Q E B F X N T hk hd hu hret
  unfold RetBool at hret
  refine wpAny_call ?_
  k_dflt cell_enter
  k_steps
  all_goals (refine cb_retB hret ?_ (by k_asm) (by walk_at "claim news"); rfl)
local macro_rules | `(tactic| walk_at "call ref") => `(tactic| (k_here; (with_reducible show wpAny _ _ (call (Value.ref 462) [Value.int _ _, Value.int _ _, Value.int 1 _]) _ _ _); k_dflt (
  refine' legal_ok _ _ _ _ _ _  _ _ _ _ _ _ _ _ _ _ _ _ _ _ _ _ _ _ _ _ _ ?k1 ?k2 ?k3 ?k4 ?k5 ?kK ?kd ?ku ?_
  walk_at "claim ends"
  unfold RetBool
  intro t9 h9 tk9 F9 N9
  (try dsimp only); (try k_fold))))
theorem tojd_ok (w : World) (y m : Int) (t u v : Tok) (h1 : 1 ≤ y) (h2 : y ≤ 9000) (h3 : 1 ≤ m) (h4 : m ≤ 12) : Claim w 8 469 [.int y t, .int m u, .int 1 v] (RetH (2 * noonOf y m - 1)) := by
  w_top off
  intro mean mg mb dp un gd cn cs a ccd cl outer A₀ base h₀ L m news s Q E B F X N T hk hd hu hret
  unfold RetH at hret
  refine wpAny_call ?_
  k_dflt cell_enter
  k_steps
  all_goals (refine retH_end hret (by assumption) ?_ (by k_asm) (by walk_at "claim news"))
  · rw [noonOf, noon_end1 (by assumption)]; omega
  · simp only [leap_lib, Bool.not_eq_true] at *; rw [noonOf, noon_end2 (by assumption) (by assumption)]; omega
  · simp only [leap_lib, Bool.not_eq_true] at *; rw [noonOf, noon_end3 (by assumption) (by assumption)]; omega
end Mine
end
section
open PySem PySem.W PySem.Calls PyProof.Rows PySem.Float64 PySem.Flt
namespace Mine
open PySem.Builtin._datetime in
def wdOf (y m : Int) : Int := weekdayOf (toOrdinal y m 1)
theorem wd_range (y m : Int) : 0 ≤ wdOf y m ∧ wdOf y m < 7 := by
  unfold wdOf PySem.Builtin._datetime.weekdayOf
  generalize PySem.Builtin._datetime.toOrdinal y m 1 = z
  omega
def lenOf (y m : Int) : Int := if m = 2 ∧ leapB y = true then 29 else mdays m
def RetRange (w : World) (y m' : Int) (h₀ : Heap) (L : Addr) (m : Str → Option Value) (news : List (Addr × Obj)) (s : Shared) (Q : Value → Shared → Prop) : Prop :=
  ∀ (r d : Addr) (dd : Option Addr) (tk tn : Tok) (h' : Heap) (tk' : Nat), (Mine.hd.heap_39 w.params).lookup d = some ⟨.ref 347, dd, .prim (.int (wdOf y m') tk), #[]⟩ → Fr h₀ L h' m →
    News h₀ L h' ((r, { cls := .type "tuple", data := .seq #[.ref d, .int (lenOf y m') tn] 0 }) :: news) → (∀ p ∈ news, p.1 < r) → Q (.ref r) { s with heap := h', toks := tk' }
theorem lt_of_all {d : Addr} : ∀ {l : List (Addr × Obj)}, AllLt d l → ∀ p ∈ l, p.1 < d
  | [], _, _, h => nomatch h
  | q :: r, ha, p, h => by
    rcases List.mem_cons.mp h with rfl | h
    · exact ha.1
    · exact lt_of_all ha.2 p h
theorem range_end {w : World} {y m' v : Int} {h₀ h' : Heap} {L r d x : Addr} {dd : Option Addr} {tk tn : Tok} {tk' : Nat} {o : Obj} {m : Str → Option Value} {news : List (Addr × Obj)} {s : Shared} {Q : Value → Shared → Prop}
    (hret : RetRange w y m' h₀ L m news s Q) (hd : (Mine.hd.heap_39 w.params).lookup d = some ⟨.ref 347, dd, .prim (.int (wdOf y m') tk), #[]⟩) (F : Fr h₀ L h' m)
    (N : News h₀ L h' ((r, { cls := .type "tuple", data := .seq #[.ref d, .int v tn] 0 }) :: (x, o) :: news)) (l : x < r ∧ AllLt r news) (e : v = lenOf y m') : Q (.ref r) { s with heap := h', toks := tk' } := by
  subst e
  refine hret r d dd tk tn h' tk' hd F (fun p hp => N p ?_) (lt_of_all l.2)
  rcases List.mem_cons.mp hp with rfl | hp
  · exact .head _
  · exact .tail _ (.tail _ hp)
theorem len1 {y m' : Int} (h : 2 = m') : mdays m' + (if leapB y = true then 1 else 0) = lenOf y m' := by
  subst h
  unfold lenOf mdays
  by_cases hl : leapB y = true <;> simp [hl]
theorem len2 {y m' : Int} (h : ¬ 2 = m') (z : Int) (hz : z = 0) : mdays m' + z = lenOf y m' := by
  subst hz
  unfold lenOf
  rw [if_neg (fun q => h q.1.symm), Int.add_zero]
theorem date_step {w : World} {A : Around} {y m' : Int} {t u v : Tok} {s : Shared} {h₀ : Heap} {L : Addr} {m : Str → Option Value} {news : List (Addr × Obj)} {Q E : Value → Shared → Prop} (F : Fr h₀ L s.heap m) (N : News h₀ L s.heap news) (h1 : 1 ≤ y) (h2 : y ≤ 9999) (h3 : 1 ≤ m') (h4 : m' ≤ 12)
    (h : ∀ a h', Fr h₀ L h' m → News h₀ L h' ((a, dateObj y m' 1) :: news) → (∀ p ∈ news, p.1 < a) → Q (.ref a) { s with heap := h' }) :
    wpAny (model PySem.Challenge.rw_bd5015_01.row.prog w) A (call (.type "datetime.date") [.int y t, .int m' u, .int 1 v]) Q E s :=
  call_date h1 h2 h3 h4 (h _ _ (F.push _) (News.push F N _) fun p hp => Heap.lt_size (N p hp).1)
local macro_rules | `(tactic| ktr_room) => `(tactic| ((try simp only [depth_under_make, depth_under_kw, depth_in1, depth_deeper, depth_caller]); (try dsimp only [ktrTop]); omega))
local macro_rules | `(tactic| k_room) => `(tactic| ktr_room)
local macro_rules | `(tactic| ktr_units) => `(tactic| (have hcL9 := cLine_is; (try simp only [units_in1, units_deeper, Around.mark_units, units_caller]); (try dsimp only [ktrTop]); omega))
local macro_rules | `(tactic| walk_at "isH tac") => `(tactic| first | assumption | exact isH_half | exact isH_epoch)
local macro_rules | `(tactic| walk_at "binaryOp Add float float") => `(tactic| ((with_reducible show wpAny _ _ (binaryOp Operator.Add (Value.float _ _) (Value.float _ _)) _ _ _); refine' add_ff_H ?hx ?hy ?hb ?_; (case hx => walk_at "isH tac"); (case hy => walk_at "isH tac"); (case hb => omega); intro zF hF))
local macro_rules | `(tactic| walk_at "binaryOp Add float int") => `(tactic| ((with_reducible show wpAny _ _ (binaryOp Operator.Add (Value.float _ _) (Value.int _ _)) _ _ _); first
  | (refine' add_fi_H ?hx ?hn ?hb ?_; (case hx => walk_at "isH tac"); (case hn => omega); (case hb => omega); intro zF hF)
  | (refine' add_fi_raw ?hn ?_; (case hn => omega))))
local macro_rules | `(tactic| walk_at "binaryOp Sub float int") => `(tactic| ((with_reducible show wpAny _ _ (binaryOp Operator.Sub (Value.float _ _) (Value.int _ _)) _ _ _); refine' sub_fi_H ?hx ?hn ?hb ?_; (case hx => walk_at "isH tac"); (case hn => omega); (case hb => omega); intro zF hF))
local macro_rules | `(tactic| walk_at "inplaceOp Add int float") => `(tactic| ((with_reducible show wpAny _ _ (inplaceOp Operator.Add (Value.int _ _) (Value.float _ _)) _ _ _); refine' iadd_if_H ?hx ?hn ?hb ?_; (case hx => walk_at "isH tac"); (case hn => omega); (case hb => omega); intro zF hF))
local macro_rules | `(tactic| walk_at "binaryOp Mult int float") => `(tactic| ((with_reducible show wpAny _ _ (binaryOp Operator.Mult (Value.int 2 _) (Value.float _ _)) _ _ _); refine' mul_if_H ?hx ?hn ?hb ?_; (case hx => walk_at "isH tac"); (case hn => omega); (case hb => omega); intro zF hF))
local macro_rules | `(tactic| walk_at "binaryOp Div int int") => `(tactic| ((with_reducible show wpAny _ _ (binaryOp Operator.Div (Value.int _ _) (Value.int _ _)) _ _ _); refine' div_ii_q ?hA ?h0 ?h1 ?h2 ?h3 ?_; (case hA => with_unfolding_all rfl); (case h0 => omega); (case h1 => omega); (case h2 => omega); (case h3 => omega); intro zF eF hF))
local macro_rules | `(tactic| walk_at "call builtin:math.trunc") => `(tactic| ((with_reducible show wpAny _ _ (call _ [Value.float _ _]) _ _ _); refine' trunc_f_H ?hA ?hx ?h0 ?_; (case hA => with_unfolding_all rfl); (case hx => walk_at "isH tac"); (case h0 => omega)))
local macro_rules | `(tactic| walk_at "call builtin:math.floor") => `(tactic| ((with_reducible show wpAny _ _ (call _ [Value.float _ _]) _ _ _); refine' floor_f_q ?hA ?hx ?_; (case hA => with_unfolding_all rfl); (case hx => first | assumption | exact month_q (by omega) (by omega) (by omega) (by assumption))))
local macro_rules | `(tactic| walk_at "call type:int") => `(tactic| ((with_reducible show wpAny _ _ (call _ [Value.float _ _]) _ _ _); refine' int_f_H ?hA ?hx ?h0 ?_; (case hA => with_unfolding_all rfl); (case hx => walk_at "isH tac"); (case h0 => omega)))
local macro_rules | `(tactic| walk_at "compareOp NotEq float float") => `(tactic| ((with_reducible show wpAny _ _ (compareOp CmpOp.NotEq (Value.float _ _) (Value.float _ _)) _ _ _); refine' ne_ff_H ?hx ?hy ?_; (case hx => walk_at "isH tac"); (case hy => walk_at "isH tac")))
local macro_rules | `(tactic| walk_at "prune ite") => `(tactic| (simp only [decide_eq_true_eq, beq_iff_eq, bne_iff_ne, ne_eq, Bool.not_eq_true', decide_eq_false_iff_not, fdiv2]; omega))
local macro_rules | `(tactic| walk_at "ite") => `(tactic| first | (refine' ite_neg ?hc ?_; (case hc => walk_at "prune ite")) | (refine' ite_pos ?hc ?_; (case hc => walk_at "prune ite")))
local macro_rules | `(tactic| walk_at "claim ends") => `(tactic| (
  (case k1 => first | k_asm | fail "claim: below") ; (case k2 => first | k_asm | fail "claim: frame"); (case k3 => first | k_asm | fail "claim: part"); (case k4 => first | k_asm | fail "claim: ledger"); (case k5 => first | k_asm | fail "claim: top")
  (case kK => first | exact rfl | assumption | fail "claim: kind")
  (case kd => first | ktr_room | fail "claim: room")
  (case ku => first | ktr_units | fail "claim: units")))
local macro_rules | `(tactic| walk_at "claim news") => `(tactic| first | k_asm | (refine' cb_drop ?cbN ?cbS; (case cbN => assumption); (case cbS => kcj_all)))
local macro_rules | `(tactic| walk_at "compareOp In int ref") => `(tactic| (k_here; (with_reducible show wpAny _ _ (compareOp CmpOp.In (Value.int _ _) (Value.ref 455)) _ _ _); k_dflt (refine' in_months ?F ?X ?_; (case F => k_asm); (case X => k_asm))))
local macro_rules | `(tactic| walk_at "call ref") => `(tactic| (k_here; (with_reducible show wpAny _ _ (call (Value.ref 426) [Value.int _ _]) _ _ _); k_dflt (
  refine' isleap_ok _ _ _  _ _ _ _ _ _ _ _ _ _ _ _ _ _ _ _ _ _ _ _ _ ?k1 ?k2 ?k3 ?k4 ?k5 ?kK ?kd ?ku ?_
  walk_at "claim ends"
  unfold RetBool
  intro t9 h9 tk9 F9 N9
  (try dsimp only); (try k_fold))))
local macro_rules | `(tactic| walk_at "call type:datetime.date") => `(tactic| (k_here; k_dflt (refine' date_step ?F ?N ?h1 ?h2 ?h3 ?h4 ?_; (case F => k_asm); (case N => k_asm); (case h1 => omega); (case h2 => omega); (case h3 => omega); (case h4 => omega)); intro D' h' F' N' l1; (try k_lt l1); (try k_sweep)))
local macro_rules | `(tactic| walk_at "getMethod ref") => `(tactic| (k_here; (with_reducible show wpAny _ _ (getMethod (Value.ref _) (Str.ofString "weekday") _) _ _ _); k_dflt (refine' getMethod_weekday (News.get ?N ?q) ?_; (case N => k_asm); (case q => k_mem))))
local macro_rules | `(tactic| walk_at "call builtin:datetime.date.weekday") => `(tactic| (k_here; k_dflt (refine' call_weekday (News.get ?N ?q) ?_; (case N => k_asm); (case q => k_mem))))
local macro_rules | `(tactic| walk_at "subscriptTail") => `(tactic| (k_here; (with_reducible show wpAny _ _ (subscriptTail _ _ (Value.ref 418) (Value.int _ _)) _ _ _); k_dflt (refine' sub_days ?F ?X ?h0 ?h7 ?hs ?_; (case F => k_asm); (case X => k_asm); (case h0 => exact (wd_range _ _).1); (case h7 => exact (wd_range _ _).2); (case hs => with_unfolding_all rfl)); intro d9 dd9 tk9 hd9))
local macro_rules | `(tactic| walk_at "subscriptTail") => `(tactic| (k_here; (with_reducible show wpAny _ _ (subscriptTail _ _ (Value.ref 419) (Value.int _ _)) _ _ _); k_dflt (refine' sub_mdays ?F ?X ?h0 ?h7 ?hs ?_; (case F => k_asm); (case X => k_asm); (case h0 => omega); (case h7 => omega); (case hs => with_unfolding_all rfl)); intro tk9))
local macro_rules | `(tactic| walk_at "compareOp Eq int ref") => `(tactic| (k_here; (with_reducible show wpAny _ _ (compareOp CmpOp.Eq (Value.int _ _) (Value.ref 366)) _ _ _); k_dflt (refine' eq_month ?X ?hu ?_; (case X => k_in); (case hu => ktr_units))))
local macro_rules | `(tactic| walk_at "binaryOp Sub int ref") => `(tactic| (k_here; (with_reducible show wpAny _ _ (binaryOp Operator.Sub (Value.int _ _) (Value.ref _)) _ _ _); k_dflt (refine' sub_day ?X ?hd ?_; (case X => k_in); (case hd => exact Frag.In.keeps (by k_asm) (Fr.keep (by k_asm)) _ _ (by assumption)))))
theorem range_ok (w : World) (y m' : Int) (t u : Tok) (h1 : 1 ≤ y) (h2 : y ≤ 9000) (h3 : 1 ≤ m') (h4 : m' ≤ 12) : Claim w 10 447 [.int y t, .int m' u] (RetRange w y m') := by
  w_top off
  intro mean mg mb dp un gd cn cs a ccd cl outer A₀ base h₀ L m news s Q E B F X N T hk hd hu hret
  skip
  refine wpAny_call ?_
  k_dflt cell_enter
  k_steps
  all_goals (refine range_end hret (by assumption) (by k_asm) (by k_asm) (by assumption) ?_)
  · exact len1 (by assumption)
  · exact len2 (by assumption) _ (if_neg fun q => absurd (beq_iff_eq.mp q) (by assumption))
end Mine
end
section
open PySem PySem.W PySem.Calls PyProof.Rows PySem.Float64 PySem.Flt
namespace Mine
def RetTup (y m' d : Int) (h₀ : Heap) (L : Addr) (m : Str → Option Value) (news : List (Addr × Obj)) (s : Shared) (Q : Value → Shared → Prop) : Prop :=
  ∀ (r : Addr) (ty tm td : Tok) (h' : Heap) (tk' : Nat), Fr h₀ L h' m → News h₀ L h' ((r, { cls := .type "tuple", data := .seq #[.int y ty, .int m' tm, .int d td] 0 }) :: news) → (∀ p ∈ news, p.1 < r) → Q (.ref r) { s with heap := h', toks := tk' }
theorem tup_end {y m' d v : Int} {h₀ h' : Heap} {L r x : Addr} {ty tm td : Tok} {tk' : Nat} {o : Obj} {m : Str → Option Value} {news : List (Addr × Obj)} {s : Shared} {Q : Value → Shared → Prop}
    (hret : RetTup y m' d h₀ L m news s Q) (F : Fr h₀ L h' m)
    (N : News h₀ L h' ((r, { cls := .type "tuple", data := .seq #[.int y ty, .int m' tm, .int v td] 0 }) :: (x, o) :: news)) (l : x < r ∧ AllLt r news) (e : v = d) : Q (.ref r) { s with heap := h', toks := tk' } := by
  subst e
  refine hret r ty tm td h' tk' F (fun p hp => N p ?_) (lt_of_all l.2)
  rcases List.mem_cons.mp hp with rfl | hp
  · exact .head _
  · exact .tail _ (.tail _ hp)
theorem tup_end0 {y m' d v : Int} {h₀ h' : Heap} {L r x x2 : Addr} {ty tm td : Tok} {tk' : Nat} {o o2 : Obj} {m : Str → Option Value} {news : List (Addr × Obj)} {s : Shared} {Q : Value → Shared → Prop}
    (hret : RetTup y m' d h₀ L m news s Q) (F : Fr h₀ L h' m)
    (N : News h₀ L h' ((r, { cls := .type "tuple", data := .seq #[.int y ty, .int m' tm, .int v td] 0 }) :: (x, o) :: (x2, o2) :: news)) (l : x < r ∧ x2 < r ∧ AllLt r news) (e : v = d) : Q (.ref r) { s with heap := h', toks := tk' } := by
  subst e
  refine hret r ty tm td h' tk' F (fun p hp => N p ?_) (lt_of_all l.2.2)
  rcases List.mem_cons.mp hp with rfl | hp
  · exact .head _
  · exact .tail _ (.tail _ (.tail _ hp))
theorem last1 {f len : Int} (h : f + 28 ≤ len) : f + (5 - 1) * 7 = (if f + 28 ≤ len then f + 28 else f + 21) := by rw [if_pos h]; rfl
theorem last2 {f len : Int} (h : ¬ f + 28 ≤ len) : f + (4 - 1) * 7 = (if f + 28 ≤ len then f + 28 else f + 21) := by rw [if_neg h]; rfl
theorem last3 {f len : Int} (h : (([1, 2, 3] : List Int).any fun x => x == f) = false) (h1 : 1 ≤ f) (h2 : len ≤ 31) : f + (4 - 1) * 7 = (if f + 28 ≤ len then f + 28 else f + 21) := by
  refine last2 fun q => ?_
  have : f = 1 ∨ f = 2 ∨ f = 3 := by omega
  rcases this with rfl | rfl | rfl <;> cases h
def fwOf (y m' d : Int) : Int := 1 + (d - wdOf y m') % 7
local macro_rules | `(tactic| ktr_room) => `(tactic| ((try simp only [depth_under_make, depth_under_kw, depth_in1, depth_deeper, depth_caller]); (try dsimp only [ktrTop]); omega))
local macro_rules | `(tactic| k_room) => `(tactic| ktr_room)
local macro_rules | `(tactic| ktr_units) => `(tactic| (have hcL9 := cLine_is; (try simp only [units_in1, units_deeper, Around.mark_units, units_caller]); (try dsimp only [ktrTop]); omega))
local macro_rules | `(tactic| walk_at "isH tac") => `(tactic| first | assumption | exact isH_half | exact isH_epoch)
local macro_rules | `(tactic| walk_at "binaryOp Add float float") => `(tactic| ((with_reducible show wpAny _ _ (binaryOp Operator.Add (Value.float _ _) (Value.float _ _)) _ _ _); refine' add_ff_H ?hx ?hy ?hb ?_; (case hx => walk_at "isH tac"); (case hy => walk_at "isH tac"); (case hb => omega); intro zF hF))
local macro_rules | `(tactic| walk_at "binaryOp Add float int") => `(tactic| ((with_reducible show wpAny _ _ (binaryOp Operator.Add (Value.float _ _) (Value.int _ _)) _ _ _); first
  | (refine' add_fi_H ?hx ?hn ?hb ?_; (case hx => walk_at "isH tac"); (case hn => omega); (case hb => omega); intro zF hF)
  | (refine' add_fi_raw ?hn ?_; (case hn => omega))))
local macro_rules | `(tactic| walk_at "binaryOp Sub float int") => `(tactic| ((with_reducible show wpAny _ _ (binaryOp Operator.Sub (Value.float _ _) (Value.int _ _)) _ _ _); refine' sub_fi_H ?hx ?hn ?hb ?_; (case hx => walk_at "isH tac"); (case hn => omega); (case hb => omega); intro zF hF))
local macro_rules | `(tactic| walk_at "inplaceOp Add int float") => `(tactic| ((with_reducible show wpAny _ _ (inplaceOp Operator.Add (Value.int _ _) (Value.float _ _)) _ _ _); refine' iadd_if_H ?hx ?hn ?hb ?_; (case hx => walk_at "isH tac"); (case hn => omega); (case hb => omega); intro zF hF))
local macro_rules | `(tactic| walk_at "binaryOp Mult int float") => `(tactic| ((with_reducible show wpAny _ _ (binaryOp Operator.Mult (Value.int 2 _) (Value.float _ _)) _ _ _); refine' mul_if_H ?hx ?hn ?hb ?_; (case hx => walk_at "isH tac"); (case hn => omega); (case hb => omega); intro zF hF))
local macro_rules | `(tactic| walk_at "binaryOp Div int int") => `(tactic| ((with_reducible show wpAny _ _ (binaryOp Operator.Div (Value.int _ _) (Value.int _ _)) _ _ _); refine' div_ii_q ?hA ?h0 ?h1 ?h2 ?h3 ?_; (case hA => with_unfolding_all rfl); (case h0 => omega); (case h1 => omega); (case h2 => omega); (case h3 => omega); intro zF eF hF))
local macro_rules | `(tactic| walk_at "call builtin:math.trunc") => `(tactic| ((with_reducible show wpAny _ _ (call _ [Value.float _ _]) _ _ _); refine' trunc_f_H ?hA ?hx ?h0 ?_; (case hA => with_unfolding_all rfl); (case hx => walk_at "isH tac"); (case h0 => omega)))
local macro_rules | `(tactic| walk_at "call builtin:math.floor") => `(tactic| ((with_reducible show wpAny _ _ (call _ [Value.float _ _]) _ _ _); refine' floor_f_q ?hA ?hx ?_; (case hA => with_unfolding_all rfl); (case hx => first | assumption | exact month_q (by omega) (by omega) (by omega) (by assumption))))
local macro_rules | `(tactic| walk_at "call type:int") => `(tactic| ((with_reducible show wpAny _ _ (call _ [Value.float _ _]) _ _ _); refine' int_f_H ?hA ?hx ?h0 ?_; (case hA => with_unfolding_all rfl); (case hx => walk_at "isH tac"); (case h0 => omega)))
local macro_rules | `(tactic| walk_at "compareOp NotEq float float") => `(tactic| ((with_reducible show wpAny _ _ (compareOp CmpOp.NotEq (Value.float _ _) (Value.float _ _)) _ _ _); refine' ne_ff_H ?hx ?hy ?_; (case hx => walk_at "isH tac"); (case hy => walk_at "isH tac")))
local macro_rules | `(tactic| walk_at "prune ite") => `(tactic| (simp only [decide_eq_true_eq, beq_iff_eq, bne_iff_ne, ne_eq, Bool.not_eq_true', decide_eq_false_iff_not, fdiv2]; omega))
local macro_rules | `(tactic| walk_at "ite") => `(tactic| first | (refine' ite_neg ?hc ?_; (case hc => walk_at "prune ite")) | (refine' ite_pos ?hc ?_; (case hc => walk_at "prune ite")))
local macro_rules | `(tactic| walk_at "claim ends") => `(tactic| (
  (case k1 => first | k_asm | fail "claim: below") ; (case k2 => first | k_asm | fail "claim: frame"); (case k3 => first | k_asm | fail "claim: part"); (case k4 => first | k_asm | fail "claim: ledger"); (case k5 => first | k_asm | fail "claim: top")
  (case kK => first | exact rfl | assumption | fail "claim: kind")
  (case kd => first | ktr_room | fail "claim: room")
  (case ku => first | ktr_units | fail "claim: units")))
local macro_rules | `(tactic| walk_at "claim news") => `(tactic| first | k_asm | (refine' cb_drop ?cbN ?cbS; (case cbN => assumption); (case cbS => kcj_all)))
local macro_rules | `(tactic| walk_at "call type:datetime.date") => `(tactic| (k_here; k_dflt (refine' date_step ?F ?N ?h1 ?h2 ?h3 ?h4 ?_; (case F => k_asm); (case N => k_asm); (case h1 => omega); (case h2 => omega); (case h3 => omega); (case h4 => omega)); intro D' h' F' N' l1; (try k_lt l1); (try k_sweep)))
local macro_rules | `(tactic| walk_at "getMethod ref") => `(tactic| (k_here; (with_reducible show wpAny _ _ (getMethod (Value.ref _) (Str.ofString "weekday") _) _ _ _); k_dflt (refine' getMethod_weekday (News.get ?N ?q) ?_; (case N => k_asm); (case q => k_mem))))
local macro_rules | `(tactic| walk_at "call builtin:datetime.date.weekday") => `(tactic| (k_here; k_dflt (refine' call_weekday (News.get ?N ?q) ?_; (case N => k_asm); (case q => k_mem))))
local macro_rules | `(tactic| walk_at "subscriptTail") => `(tactic| (k_here; (with_reducible show wpAny _ _ (subscriptTail _ _ (Value.ref 418) (Value.int _ _)) _ _ _); k_dflt (refine' sub_days ?F ?X ?h0 ?h7 ?hs ?_; (case F => k_asm); (case X => k_asm); (case h0 => exact (wd_range _ _).1); (case h7 => exact (wd_range _ _).2); (case hs => with_unfolding_all rfl)); intro d9 dd9 tk9 hd9))
local macro_rules | `(tactic| walk_at "subscriptTail") => `(tactic| (k_here; (with_reducible show wpAny _ _ (subscriptTail _ _ (Value.ref 419) (Value.int _ _)) _ _ _); k_dflt (refine' sub_mdays ?F ?X ?h0 ?h7 ?hs ?_; (case F => k_asm); (case X => k_asm); (case h0 => omega); (case h7 => omega); (case hs => with_unfolding_all rfl)); intro tk9))
local macro_rules | `(tactic| walk_at "compareOp Eq int ref") => `(tactic| (k_here; (with_reducible show wpAny _ _ (compareOp CmpOp.Eq (Value.int _ _) (Value.ref 366)) _ _ _); k_dflt (refine' eq_month ?X ?hu ?_; (case X => k_in); (case hu => ktr_units))))
local macro_rules | `(tactic| walk_at "binaryOp Sub int ref") => `(tactic| (k_here; (with_reducible show wpAny _ _ (binaryOp Operator.Sub (Value.int _ _) (Value.ref _)) _ _ _); k_dflt (refine' sub_day ?X ?hd ?_; (case X => k_in); (case hd => exact Frag.In.keeps (by k_asm) (Fr.keep (by k_asm)) _ _ (by assumption)))))
local macro_rules | `(tactic| walk_at "call ref") => `(tactic| (k_here; (with_reducible show wpAny _ _ (call (Value.ref 447) [Value.int _ _, Value.int _ _]) _ _ _); k_dflt (
  refine' range_ok _ _ _ _ _ ?ka ?kb ?kc ?ke _ _ _ _ _ _ _ _ _ _ _ _ _ _ _ _ _ _ _ _ _ ?k1 ?k2 ?k3 ?k4 ?k5 ?kK ?kd ?ku ?_
  (case ka => omega); (case kb => omega); (case kc => omega); (case ke => omega); walk_at "claim ends"
  unfold RetRange
  intro r9 d9 dd9 tk9 tn9 h9 tk9' hd9 F9 N9 l9; (try k_lt l9)
  (try dsimp only); (try k_fold))))
theorem nth_ok (w : World) (y m' n d : Int) (t u v x : Tok) (h1 : 1 ≤ y) (h2 : y ≤ 9000) (h3 : 1 ≤ m') (h4 : m' ≤ 12) (h5 : 1 ≤ n) (h6 : n ≤ 5) (h7 : 0 ≤ d) (h8 : d < 7) (h9 : fwOf y m' d + (n - 1) * 7 ≤ lenOf y m') : Claim w 16 454 [.int n v, .int d x, .int m' u, .int y t] (RetTup y m' (fwOf y m' d + (n - 1) * 7)) := by
  w_top off
  intro mean mg mb dp un gd cn cs a ccd cl outer A₀ base h₀ L m news s Q E B F X N T hk hd hu hret
  skip
  have hwd := wd_range y m'
  unfold fwOf at h9
  refine wpAny_call ?_
  k_dflt cell_enter
  k_steps
  all_goals (refine tup_end hret (by k_asm) (by k_asm) (by assumption) ?_; simp only [fwOf, fmod7])
theorem nth0_ok (w : World) (y m' d : Int) (t u v x : Tok) (h1 : 1 ≤ y) (h2 : y ≤ 9000) (h3 : 1 ≤ m') (h4 : m' ≤ 12) (h7 : 0 ≤ d) (h8 : d < 7) (h9 : 28 ≤ lenOf y m') (h10 : lenOf y m' ≤ 31) : Claim w 16 454 [.int 0 v, .int d x, .int m' u, .int y t] (RetTup y m' (if fwOf y m' d + 28 ≤ lenOf y m' then fwOf y m' d + 28 else fwOf y m' d + 21)) := by
  w_top off
  intro mean mg mb dp un gd cn cs a ccd cl outer A₀ base h₀ L m news s Q E B F X N T hk hd hu hret
  skip
  have hwd := wd_range y m'
  simp only [fwOf, ← fmod7] at hret
  refine wpAny_call ?_
  k_dflt cell_enter
  k_steps
  all_goals (refine tup_end0 hret (by k_asm) (by k_asm) (by assumption) ?_)
  · exact last1 (by assumption)
  · exact last2 (by assumption)
  · exact last3 (by assumption) (by rw [fmod7]; omega) h10
end Mine
end
section
open PySem PySem.W PySem.Calls PyProof.Rows PySem.Float64 PySem.Flt
namespace Mine
abbrev Claim0 (w : World) (g : Nat) (f : Addr) (vs : List Value) (R : Heap → Addr → (Str → Option Value) → List (Addr × Obj) → Shared → (Value → Shared → Prop) → Prop) : Prop :=
  ∀ (mean : ExcName → Option Value) (mg mb : Str → Option Value) (dp un : Nat) (gd : Option (List Code)) (cn : Str) (cs : Scope) (a : Addr) (ccd : Value) (cl : List (Str × Addr)) (A₀ : Around) (h₀ : Heap) (L : Addr) (m : Str → Option Value) (news : List (Addr × Obj)) (s : Shared) (Q E : Value → Shared → Prop),
    Below A₀ h₀ [] h₀ → Fr h₀ L s.heap m → (Mine.hd.heap_39 w.params).In h₀ → News h₀ L s.heap news → Top Mine.hd.view_39 LS mean mg mb h₀ → cs.kind = .function →
    dp + g < recursionLimit → un + 8 * g < cLine → R h₀ L m news s Q →
      wpAny (model PySem.Challenge.rw_bd5015_01.row.prog w) (ktrTop dp un gd cn cs L a ccd cl []) (call (.ref f) vs) Q E s
local macro_rules | `(tactic| ktr_room) => `(tactic| ((try simp only [depth_under_make, depth_under_kw, depth_in1, depth_deeper, depth_caller]); (try dsimp only [ktrTop]); omega))
local macro_rules | `(tactic| k_room) => `(tactic| ktr_room)
local macro_rules | `(tactic| ktr_units) => `(tactic| (have hcL9 := cLine_is; (try simp only [units_in1, units_deeper, Around.mark_units, units_caller]); (try dsimp only [ktrTop]); omega))
local macro_rules | `(tactic| walk_at "isH tac") => `(tactic| first | assumption | exact isH_half | exact isH_epoch)
local macro_rules | `(tactic| walk_at "binaryOp Add float float") => `(tactic| ((with_reducible show wpAny _ _ (binaryOp Operator.Add (Value.float _ _) (Value.float _ _)) _ _ _); refine' add_ff_H ?hx ?hy ?hb ?_; (case hx => walk_at "isH tac"); (case hy => walk_at "isH tac"); (case hb => omega); intro zF hF))
local macro_rules | `(tactic| walk_at "binaryOp Add float int") => `(tactic| ((with_reducible show wpAny _ _ (binaryOp Operator.Add (Value.float _ _) (Value.int _ _)) _ _ _); first
  | (refine' add_fi_H ?hx ?hn ?hb ?_; (case hx => walk_at "isH tac"); (case hn => omega); (case hb => omega); intro zF hF)
  | (refine' add_fi_raw ?hn ?_; (case hn => omega))))
local macro_rules | `(tactic| walk_at "binaryOp Sub float int") => `(tactic| ((with_reducible show wpAny _ _ (binaryOp Operator.Sub (Value.float _ _) (Value.int _ _)) _ _ _); refine' sub_fi_H ?hx ?hn ?hb ?_; (case hx => walk_at "isH tac"); (case hn => omega); (case hb => omega); intro zF hF))
local macro_rules | `(tactic| walk_at "inplaceOp Add int float") => `(tactic| ((with_reducible show wpAny _ _ (inplaceOp Operator.Add (Value.int _ _) (Value.float _ _)) _ _ _); refine' iadd_if_H ?hx ?hn ?hb ?_; (case hx => walk_at "isH tac"); (case hn => omega); (case hb => omega); intro zF hF))
local macro_rules | `(tactic| walk_at "binaryOp Mult int float") => `(tactic| ((with_reducible show wpAny _ _ (binaryOp Operator.Mult (Value.int 2 _) (Value.float _ _)) _ _ _); refine' mul_if_H ?hx ?hn ?hb ?_; (case hx => walk_at "isH tac"); (case hn => omega); (case hb => omega); intro zF hF))
local macro_rules | `(tactic| walk_at "binaryOp Div int int") => `(tactic| ((with_reducible show wpAny _ _ (binaryOp Operator.Div (Value.int _ _) (Value.int _ _)) _ _ _); refine' div_ii_q ?hA ?h0 ?h1 ?h2 ?h3 ?_; (case hA => with_unfolding_all rfl); (case h0 => omega); (case h1 => omega); (case h2 => omega); (case h3 => omega); intro zF eF hF))
local macro_rules | `(tactic| walk_at "call builtin:math.trunc") => `(tactic| ((with_reducible show wpAny _ _ (call _ [Value.float _ _]) _ _ _); refine' trunc_f_H ?hA ?hx ?h0 ?_; (case hA => with_unfolding_all rfl); (case hx => walk_at "isH tac"); (case h0 => omega)))
local macro_rules | `(tactic| walk_at "call builtin:math.floor") => `(tactic| ((with_reducible show wpAny _ _ (call _ [Value.float _ _]) _ _ _); refine' floor_f_q ?hA ?hx ?_; (case hA => with_unfolding_all rfl); (case hx => first | assumption | exact month_q (by omega) (by omega) (by omega) (by assumption))))
local macro_rules | `(tactic| walk_at "call type:int") => `(tactic| ((with_reducible show wpAny _ _ (call _ [Value.float _ _]) _ _ _); refine' int_f_H ?hA ?hx ?h0 ?_; (case hA => with_unfolding_all rfl); (case hx => walk_at "isH tac"); (case h0 => omega)))
local macro_rules | `(tactic| walk_at "compareOp NotEq float float") => `(tactic| ((with_reducible show wpAny _ _ (compareOp CmpOp.NotEq (Value.float _ _) (Value.float _ _)) _ _ _); refine' ne_ff_H ?hx ?hy ?_; (case hx => walk_at "isH tac"); (case hy => walk_at "isH tac")))
local macro_rules | `(tactic| walk_at "prune ite") => `(tactic| (simp only [decide_eq_true_eq, beq_iff_eq, bne_iff_ne, ne_eq, Bool.not_eq_true', decide_eq_false_iff_not, fdiv2]; omega))
local macro_rules | `(tactic| walk_at "ite") => `(tactic| first | (refine' ite_neg ?hc ?_; (case hc => walk_at "prune ite")) | (refine' ite_pos ?hc ?_; (case hc => walk_at "prune ite")))
local macro_rules | `(tactic| walk_at "claim ends") => `(tactic| (
  (case k1 => first | k_asm | fail "claim: below") ; (case k2 => first | k_asm | fail "claim: frame"); (case k3 => first | k_asm | fail "claim: part"); (case k4 => first | k_asm | fail "claim: ledger"); (case k5 => first | k_asm | fail "claim: top")
  (case kK => first | exact rfl | assumption | fail "claim: kind")
  (case kd => first | ktr_room | fail "claim: room")
  (case ku => first | ktr_units | fail "claim: units")))
local macro_rules | `(tactic| walk_at "claim news") => `(tactic| first | k_asm | (refine' cb_drop ?cbN ?cbS; (case cbN => assumption); (case cbS => kcj_all)))
local macro_rules | `(tactic| walk_at "exec Raise some none") => `(tactic| (k_here; (with_reducible show wpAny _ _ (exec (Stmt.Raise (some (Expr.Call (Expr.Name ("IndexError" : Str) _) (_ :: _) [] _)) none _) _) _ _ _); (with_reducible rename Fr _ _ _ _ => kF); k_dflt (refine' Raise_madeB PySem.F.excCall_IndexError PySem.F.excRaise_IndexError ?hr ?_; (case hr => rfl)); (with_unfolding_all refine guard_global (by rfl) ?_); k_dflt (refine' name_B kF ?k1 ?k2 ?k3 ?k4 ?k5 ?_; (case k1 => k_asm); (case k2 => k_asm); (case k3 => k_is); (case k4 => boot_by_name); (case k5 => decide)); refine ⟨rfl, ?_⟩))
local macro_rules | `(tactic| kfm_len) => `(tactic| exact neg_len (by omega) (by omega))
local macro_rules | `(tactic| kfm_hd) => `(tactic| exact log_small (by omega) (by omega))
local macro_rules | `(tactic| walk_at "call type:datetime.date") => `(tactic| (k_here; k_dflt (refine' date_step ?F ?N ?h1 ?h2 ?h3 ?h4 ?_; (case F => k_asm); (case N => k_asm); (case h1 => omega); (case h2 => omega); (case h3 => omega); (case h4 => omega)); intro D' h' F' N' l1; (try k_lt l1); (try k_sweep)))
local macro_rules | `(tactic| walk_at "getMethod ref") => `(tactic| (k_here; (with_reducible show wpAny _ _ (getMethod (Value.ref _) (Str.ofString "weekday") _) _ _ _); k_dflt (refine' getMethod_weekday (News.get ?N ?q) ?_; (case N => k_asm); (case q => k_mem))))
local macro_rules | `(tactic| walk_at "call builtin:datetime.date.weekday") => `(tactic| (k_here; k_dflt (refine' call_weekday (News.get ?N ?q) ?_; (case N => k_asm); (case q => k_mem))))
local macro_rules | `(tactic| walk_at "subscriptTail") => `(tactic| (k_here; (with_reducible show wpAny _ _ (subscriptTail _ _ (Value.ref 418) (Value.int _ _)) _ _ _); k_dflt (refine' sub_days ?F ?X ?h0 ?h7 ?hs ?_; (case F => k_asm); (case X => k_asm); (case h0 => exact (wd_range _ _).1); (case h7 => exact (wd_range _ _).2); (case hs => with_unfolding_all rfl)); intro d9 dd9 tk9 hd9))
local macro_rules | `(tactic| walk_at "subscriptTail") => `(tactic| (k_here; (with_reducible show wpAny _ _ (subscriptTail _ _ (Value.ref 419) (Value.int _ _)) _ _ _); k_dflt (refine' sub_mdays ?F ?X ?h0 ?h7 ?hs ?_; (case F => k_asm); (case X => k_asm); (case h0 => omega); (case h7 => omega); (case hs => with_unfolding_all rfl)); intro tk9))
local macro_rules | `(tactic| walk_at "compareOp Eq int ref") => `(tactic| (k_here; (with_reducible show wpAny _ _ (compareOp CmpOp.Eq (Value.int _ _) (Value.ref 366)) _ _ _); k_dflt (refine' eq_month ?X ?hu ?_; (case X => k_in); (case hu => ktr_units))))
local macro_rules | `(tactic| walk_at "binaryOp Sub int ref") => `(tactic| (k_here; (with_reducible show wpAny _ _ (binaryOp Operator.Sub (Value.int _ _) (Value.ref _)) _ _ _); k_dflt (refine' sub_day ?X ?hd ?_; (case X => k_in); (case hd => exact Frag.In.keeps (by k_asm) (Fr.keep (by k_asm)) _ _ (by assumption)))))
local macro_rules | `(tactic| walk_at "call ref") => `(tactic| (k_here; (with_reducible show wpAny _ _ (call (Value.ref 447) [Value.int _ _, Value.int _ _]) _ _ _); k_dflt (
  refine' range_ok _ _ _ _ _ ?ka ?kb ?kc ?ke _ _ _ _ _ _ _ _ _ _ _ _ _ _ _ _ _ _ _ _ _ ?k1 ?k2 ?k3 ?k4 ?k5 ?kK ?kd ?ku ?_
  (case ka => omega); (case kb => omega); (case kc => omega); (case ke => omega); walk_at "claim ends"
  unfold RetRange
  intro r9 d9 dd9 tk9 tn9 h9 tk9' hd9 F9 N9 l9; (try k_lt l9)
  (try dsimp only); (try k_fold))))
theorem ref_n_ok (w : World) (y m' n d : Int) (t u v x : Tok) (h5 : n < 0 ∨ 5 < n) (h6 : -2000000 < n) (h7 : n < 2000000) : Claim0 w 20 504 [.int n v, .int d x, .int m' u, .int y t] (RetBool true) := by
  w_top off
  intro mean mg mb dp un gd cn cs a ccd cl A₀ h₀ L m news s Q E B F X N T hk hd hu hret
  unfold RetBool at hret
  refine wpAny_call ?_
  k_dflt (refine' enter0 B F X N T rfl rfl hk ?k6 ?k7 ?k8 ?k9 ?kB ?_ ?c2 ?c3 ?c4 ?c5; (case k6 => k_is); (case k7 => k_is); (case k8 => ktr_room); (case k9 => exact BindsTo.of_eq rfl); (case c5 => decide); (case kB => exact locs rfl); (case c2 => exact rfl); (case c3 => exact rfl); (case c4 => exact rfl))
  intro g' L' h' F' N' B' X' T' D'
  dsimp only
  k_fold
  k_steps
  all_goals (exact cb_retB hret rfl (by k_asm) (by k_asm))
theorem ref_w_ok (w : World) (y m' d : Int) (t u v x : Tok) (h5 : d < 0 ∨ 6 < d) : Claim0 w 20 504 [.int 1 v, .int d x, .int m' u, .int y t] (RetBool true) := by
  w_top off
  intro mean mg mb dp un gd cn cs a ccd cl A₀ h₀ L m news s Q E B F X N T hk hd hu hret
  unfold RetBool at hret
  refine wpAny_call ?_
  k_dflt (refine' enter0 B F X N T rfl rfl hk ?k6 ?k7 ?k8 ?k9 ?kB ?_ ?c2 ?c3 ?c4 ?c5; (case k6 => k_is); (case k7 => k_is); (case k8 => ktr_room); (case k9 => exact BindsTo.of_eq rfl); (case c5 => decide); (case kB => exact locs rfl); (case c2 => exact rfl); (case c3 => exact rfl); (case c4 => exact rfl))
  intro g' L' h' F' N' B' X' T' D'
  dsimp only
  k_fold
  k_steps
  all_goals (exact cb_retB hret rfl (by k_asm) (by k_asm))
theorem ref_5_ok (w : World) (y m' d : Int) (t u v x : Tok) (h1 : 1 ≤ y) (h2 : y ≤ 9000) (h3 : 1 ≤ m') (h4 : m' ≤ 12) (h7 : 0 ≤ d) (h8 : d < 7) (h9 : lenOf y m' < fwOf y m' d + 28) : Claim0 w 20 504 [.int 5 v, .int d x, .int m' u, .int y t] (RetBool true) := by
  w_top off
  intro mean mg mb dp un gd cn cs a ccd cl A₀ h₀ L m news s Q E B F X N T hk hd hu hret
  unfold RetBool at hret
  have hwd := wd_range y m'
  unfold fwOf at h9
  refine wpAny_call ?_
  k_dflt (refine' enter0 B F X N T rfl rfl hk ?k6 ?k7 ?k8 ?k9 ?kB ?_ ?c2 ?c3 ?c4 ?c5; (case k6 => k_is); (case k7 => k_is); (case k8 => ktr_room); (case k9 => exact BindsTo.of_eq rfl); (case c5 => decide); (case kB => exact locs rfl); (case c2 => exact rfl); (case c3 => exact rfl); (case c4 => exact rfl))
  intro g' L' h' F' N' B' X' T' D'
  dsimp only
  k_fold
  k_steps
  all_goals (exact cb_retB hret rfl (by k_asm) (by k_asm))
end Mine
end
section
open PySem PySem.W PySem.Calls PyProof.Rows PySem.Float64 PySem.Flt
namespace Mine
theorem rep_flat (v : Value) : ∀ k : Nat, (List.replicate k [v]).flatten = List.replicate k v
  | 0 => rfl
  | k + 1 => by rw [List.replicate_succ, List.flatten_cons, rep_flat v k, List.replicate_succ]; rfl
section
variable {prog : Program} {w : World} {A : Around} {E : Value → Shared → Prop} {s : Shared} {h₀ : Heap} {L : Addr} {m : Str → Option Value} {news : List (Addr × Obj)} {l : Addr} {v : Value} {x : Int} {u : Tok} {Q : Value → Shared → Prop}
theorem mul_one (F : Fr h₀ L s.heap m) (N : News h₀ L s.heap news) (hm : (l, W.listOf #[v] 0) ∈ news) (h0 : 0 ≤ x) (h1 : x < 7)
    (h : ∀ D h', Fr h₀ L h' m → News h₀ L h' ((D, W.listOf (List.replicate x.toNat v).toArray 0) :: news) → (∀ p ∈ news, p.1 < D) → Q (.ref D) { s with heap := h' }) : wpAny (model prog w) A (binaryOp .Mult (.ref l) (.int x u)) Q E s := by
  refine KMa.mul (vs := [v]) (ws := List.replicate x.toNat v) F N (News.isList N hm) (by omega) (by omega) ?_ (rep_flat v _) h
  show 1 * x.toNat ≤ 256
  omega
theorem mul_left (F : Fr h₀ L s.heap m) (N : News h₀ L s.heap news) (hm : (l, W.listOf #[v] 0) ∈ news)
    (h : ∀ D h', Fr h₀ L h' m → News h₀ L h' ((D, W.listOf (List.replicate 7 v).toArray 0) :: news) → (∀ p ∈ news, p.1 < D) → Q (.ref D) { s with heap := h' }) : wpAny (model prog w) A (binaryOp .Mult (.int 7 u) (.ref l)) Q E s := by
  refine mul_list_r F N (N _ hm).1 (by decide) (by decide) (by show 7 ≤ 2 ^ 24; decide) fun h' F' N' => h _ h' F' N' fun p hp => Heap.lt_size (N p hp).1
theorem add_two {a b : Addr} {vs ws : List Value} {k k2 : Nat} (F : Fr h₀ L s.heap m) (N : News h₀ L s.heap news) (ha : (a, W.listOf vs.toArray k) ∈ news) (hb : (b, W.listOf ws.toArray k2) ∈ news) (hz : vs.length + ws.length ≤ 100)
    (h : ∀ D h', Fr h₀ L h' m → News h₀ L h' ((D, W.listOf (vs ++ ws).toArray 0) :: news) → (∀ p ∈ news, p.1 < D) → Q (.ref D) { s with heap := h' }) : wpAny (model prog w) A (binaryOp .Add (.ref a) (.ref b)) Q E s := by
  refine kmk_add_lit (its := vs.toArray) (its2 := ws.toArray) (zs := vs ++ ws) F N (News.isList N ha) (News.isList N hb) rfl h ?_
  rw [PySem.sizeLine_eq]
  show vs.length + ws.length ≤ _
  omega
theorem range_len {vs : List Value} {n : Nat} (h : IntsAre vs (rangeKs 1 n)) : vs.length = n := by rw [h.length, rangeKs_length]
end
theorem tail_ne1 {news : List (Addr × Obj)} {L' : Addr} (h : ∀ p ∈ news, p.1 < L') : ∀ p ∈ news, p.1 ≠ L' + 1 := fun p hp e => by have := h p hp; rw [e] at this; exact absurd this (Nat.not_lt.mpr (Nat.le_succ L'))
def Src7 (prog : Program) (w : World) (A : Around) (h₀ : Heap) (L : Addr) (m : Str → Option Value) (env : Env) (elt : Expr) (x : Str) (scope : Scope) (cl : List (Str × Addr)) (Q : Value → Shared → Prop) (xv : Value) (s₁ : Shared) : Prop :=
  ∃ r a b c t u v n news, xv = .ref r ∧ A.handled = none ∧ Fr h₀ L s₁.heap m ∧ News h₀ L s₁.heap news ∧ IsRange s₁.heap r a b c t u v ∧ Builtin.Range.small a b c = true ∧ Builtin.Range.rangeSize a b c = ((n : Nat) : Int) ∧ n ≤ sizeLine ∧
    ∀ h, LCg.CompRest prog w A h₀ L m env elt x scope cl { s₁ with heap := h } (fun _ => True) (fun i v => ∃ t, v = .int (a + (i : Int) * c) t) (LCg.FinE h₀ L m { s₁ with heap := h } Q) n 0 [] news
theorem walks7 {prog : Program} {w : World} {A : Around} {I : Addr} (hh : A.handled = none) (a c : Int) (n : Nat) : Walks prog w A I [I] [I] n (fun i v => ∃ t, v = .int (a + (i : Int) * c) t) (fun i h => IsRangeIter h I (a + (i : Nat) * c) ((n : Int) - (i : Nat)) c) :=
  let W := (Walks.range (prog := prog) (w := w) hh I a c n).bound
  { sub := W.sub, frame := W.frame, done := W.done, self := W.self, item := fun i s Q E hi st hQ => W.item i s Q E hi st fun v h' tk hP => hQ v h' tk hP.2 }
section
open LCg
variable {prog : Program} {w : World} {A : Around} {E : Value → Shared → Prop} {s : Shared} {h₀ : Heap} {L : Addr} {m : Str → Option Value} {env : Env}
theorem comp7 {elt iter : Expr} {x : Str} {px : Pos} {scope : Scope} {cl : List (Str × Addr)} {pos : Pos} {Q : Value → Shared → Prop} (_F₀ : Fr h₀ L s.heap m)
    (hclos : closureFor scope env = pure cl) (hcell : ∀ y ∈ scope.names, y.2 ≠ .cell) (hkind : scope.kind = .function)
    (hnames : ∀ y ∈ scope.names, y.2 = .local → scope.names.lookup y.1 = some .local) (hx : scope.names.lookup x = some .local)
    (h : wpAny (model prog w) A (eval iter env) (Src7 prog w A h₀ L m env elt x scope cl Q) E s)
    (hs : ∀ x, foldedSetIterable iter env x = pure x := by intro _; rfl) :
    wpAny (model prog w) A (eval (.ListComp elt [⟨.Name x px, iter, [], 0⟩] scope pos) env) Q E s := by
  rw [eval_ListComp]
  refine wpAny_comprehension_free (use := none) rfl hs hclos hkind hnames (wpAny_mono h (fun xv s₁ h₁ => ?_) fun _ _ e => e)
  obtain ⟨r, a, b, c, t, u, v, n, news, rfl, hh, F, N, hr, hsm, hn, hsz, R⟩ := h₁
  refine wpAny_pyIter_range hr hsm ?_
  refine block_U (P := fun i v => ∃ t, v = .int (a + (i : Int) * c) t) (S := fun _ => True) (walks7 hh a c n) hsz (fun i h st => ⟨_, st⟩) (fun i h h' o nw st e e' _ _ _ => by
      have st' : h.get? s₁.heap.objs.size = some _ := st
      show h'.get? _ = some _
      rw [e', ← e]; exact st') hcell hkind hx (by show IsRangeIter _ _ _ _ _; rw [hn]; simpa using Heap.get?_push_size _ rfl) (fun b hb => ?_)
    (F.keeps fun _ _ e => Heap.get?_push_of_some _ e) (N.grown fun _ _ e => Heap.get?_push_of_some _ e) (Nat.ne_of_lt F.ns.lt) (next_is_new F) (fun p hp => Nat.ne_of_lt (Heap.lt_size (N p hp).1)) trivial (R _) ?_
  · rw [List.mem_singleton.mp hb]
    show s₁.heap.objs.size < (s₁.heap.push _).objs.size
    rw [Heap.size_push]; exact Nat.lt_succ_self _
  · intro D C h tk m' ys news' F' N' o1 hn hC₀ hD₀ hCL hDL hCD offC fin
    refine ⟨m', hn, fun h'' hs'' => fin D h'' tk (F'.change hs'' hCL hC₀) (fun p hp => ?_) o1⟩
    refine ⟨hs''.extBut _ _ ?_ (N' p hp).1, (N' p hp).2⟩
    rcases List.mem_cons.mp hp with rfl | hp
    · exact Ne.symm hCD
    · exact offC p hp
def rowOf (all : List Value) (j : Nat) : List Value := (all.drop (7 * j)).take 7
def RowsAre (all : List Value) (n : Nat) (rs : List Addr) (cells : List (Addr × Obj)) : Prop := rs.length = n ∧ ∀ j, j < n → ∃ r, rs[j]? = some r ∧ (r, W.listOf (rowOf all j).toArray 0) ∈ cells
def Row7 (h₀ : Heap) (L : Addr) (m : Str → Option Value) (s₁ : Shared) (all : List Value) (i : Nat) (news : List (Addr × Obj)) (y : Value) (s₂ : Shared) : Prop :=
  ∃ r h' tk', y = .ref r ∧ s₂ = { s₁ with heap := h', toks := tk' } ∧ Fr h₀ L h' m ∧ News h₀ L h' ((r, W.listOf (rowOf all i).toArray 0) :: news) ∧ ∀ p ∈ news, p.1 < r
theorem src7_rows {elt : Expr} {x : Str} {scope : Scope} {cl : List (Str × Addr)} {Q : Value → Shared → Prop} {r Dl c : Addr} {oc : Obj} {b : Int} {t u v : Tok} {news : List (Addr × Obj)} {all : List Value} (hh : A.handled = none) (F : Fr h₀ L s.heap m) (N : News h₀ L s.heap news)
    (hr : IsRange s.heap r 0 b 7 t u v) (n : Nat) (hsm : Builtin.Range.small 0 b 7 = true) (hn : Builtin.Range.rangeSize 0 b 7 = (n : Int)) (hsz : n ≤ 6) (hDl : (Dl, W.listOf all.toArray 0) ∈ news) (hc : (c, oc) ∈ news)
    (turn : ∀ (i : Nat) (t : Tok) I oI C oC D ys m₂ more h tk (E' : Value → Shared → Prop), i < n → NsObj oC m₂ → m₂ x = some (.int (0 + (i : Int) * 7) t) → Fr h₀ L h m → News h₀ L h ((I, oI) :: (C, oC) :: (D, lst ys) :: (Dl, W.listOf all.toArray 0) :: (c, oc) :: more) →
      wpAny (model prog w) A (eval elt (compEnvC scope cl C env)) (Row7 h₀ L m { s with heap := h, toks := tk } all i ((I, oI) :: (C, oC) :: (D, lst ys) :: (Dl, W.listOf all.toArray 0) :: (c, oc) :: more)) E' { s with heap := h, toks := tk })
    (fin : ∀ D rs cells h tk, Fr h₀ L h m → News h₀ L h ((D, lst (rs.map .ref)) :: (cells ++ news)) → RowsAre all n rs cells → Off1 D (cells ++ news) → Q (.ref D) { s with heap := h, toks := tk }) :
    Src7 prog w A h₀ L m env elt x scope cl Q (.ref r) s := by
  refine ⟨r, 0, b, 7, t, u, v, n, news, rfl, hh, F, N, hr, hsm, hn, by rw [PySem.sizeLine_eq]; omega, fun g => ?_⟩
  have key : ∀ (j i : Nat) (rs : List Addr) (cells : List (Addr × Obj)), i + j = n → RowsAre all i rs cells →
      CompRest prog w A h₀ L m env elt x scope cl { s with heap := g } (fun _ => True) (fun i v => ∃ t, v = .int (0 + (i : Int) * 7) t) (FinE h₀ L m { s with heap := g } Q) j i (rs.map .ref) (cells ++ news) := by
    intro j
    induction j with
    | zero =>
      intro i rs cells hi hrs
      have e : i = n := by omega
      subst e
      exact CompRest.zero fun D h tk F' N' o => fin D rs cells h tk F' N' hrs o
    | succ j ih =>
      intro i rs cells hi hrs
      refine CompRest.succ fun v I oI C oC D m₂ h tk E' hv hC hx F' N' off ne => ?_
      obtain ⟨t', rfl⟩ := hv
      have sub : ∀ p ∈ (Dl, W.listOf all.toArray 0) :: (c, oc) :: (cells ++ news), p ∈ cells ++ news := fun p hp => by
        rcases List.mem_cons.mp hp with rfl | hp
        · exact List.mem_append_right _ hDl
        rcases List.mem_cons.mp hp with rfl | hp
        · exact List.mem_append_right _ hc
        · exact hp
      have N2 : News h₀ L h ((I, oI) :: (C, oC) :: (D, lst (rs.map .ref)) :: (Dl, W.listOf all.toArray 0) :: (c, oc) :: (cells ++ news)) := fun p hp => N' p (by
        rcases List.mem_cons.mp hp with rfl | hp
        · exact .head _
        rcases List.mem_cons.mp hp with rfl | hp
        · exact .tail _ (.head _)
        rcases List.mem_cons.mp hp with rfl | hp
        · exact .tail _ (.tail _ (.head _))
        exact .tail _ (.tail _ (.tail _ (sub p hp))))
      refine wpAny_mono (turn i t' I oI C oC D (rs.map .ref) m₂ (cells ++ news) h tk E' (by omega) hC hx F' N2) (fun y s₂ hq => ?_) fun _ _ e => e
      obtain ⟨r', h', tk', rfl, rfl, F3, N3, lt⟩ := hq
      have hI := lt _ (.head _)
      have hCr := lt _ (.tail _ (.head _))
      have hDr := lt _ (.tail _ (.tail _ (.head _)))
      refine CompEnd.intro F3 N3 ((r', W.listOf (rowOf all i).toArray 0) :: (cells ++ news)) (fun p hp => ?_) ⟨⟨(Nat.ne_of_lt hI).symm, (Nat.ne_of_lt hCr).symm, (Nat.ne_of_lt hDr).symm⟩, off⟩ trivial ?_
      · rcases List.mem_cons.mp hp with rfl | hp
        · exact .tail _ (.head _)
        rcases List.mem_cons.mp hp with rfl | hp
        · exact .tail _ (.tail _ (.head _))
        rcases List.mem_cons.mp hp with rfl | hp
        · exact .tail _ (.tail _ (.tail _ (.head _)))
        rcases List.mem_cons.mp hp with rfl | hp
        · exact .head _
        · exact .tail _ (.tail _ (.tail _ (.tail _ (.tail _ (.tail _ hp)))))
      · have := ih (i + 1) (rs ++ [r']) ((r', W.listOf (rowOf all i).toArray 0) :: cells) (by omega) ⟨by rw [List.length_append, hrs.1]; rfl, fun j' hj => ?_⟩
        · rw [List.map_append] at this
          exact this
        · by_cases e : j' = i
          · subst e
            refine ⟨r', ?_, .head _⟩
            rw [List.getElem?_append_right (by rw [hrs.1]; exact Nat.le_refl _), hrs.1, Nat.sub_self]
            rfl
          · obtain ⟨r2, h2, hm2⟩ := hrs.2 j' (by omega)
            exact ⟨r2, by rw [List.getElem?_append_left (by rw [hrs.1]; omega)]; exact h2, .tail _ hm2⟩
  exact key n 0 [] [] (by omega) ⟨rfl, fun j hj => absurd hj (Nat.not_lt_zero _)⟩
end
def padded (lp : Int) (us : List Value) : List Value := List.replicate lp.toNat .none ++ us ++ List.replicate 7 .none
def WeeksAre (lp ml : Int) (rs : List Addr) (cells : List (Addr × Obj)) : Prop := ∃ us, IntsAre us (rangeKs 1 ml.toNat) ∧ RowsAre (padded lp us) ((lp + ml + 6) / 7).toNat rs cells
theorem pick7 (all : List Value) (i : Nat) : (slicePick all.toArray (some (0 + (i : Int) * 7)) (some (0 + (i : Int) * 7 + 7)) none).toList = rowOf all i := by
  have e : sliceBounds (some (0 + (i : Int) * 7)) (some (0 + (i : Int) * 7 + 7)) none all.toArray.size = (((min (7 * i) all.toArray.size : Nat) : Int), ((min (7 * i + 7) all.toArray.size : Nat) : Int), 1) := by
    simp only [sliceBounds, Option.getD_none, show (1 : Int) > 0 by decide, if_true, if_neg (show ¬ (0 + (i : Int) * 7 < 0) by omega), if_neg (show ¬ (0 + (i : Int) * 7 + 7 < 0) by omega)]
    congr 1
    · omega
    · congr 1
      omega
  rw [kmk_pick_nat _ e]
  show (all.drop (min (7 * i) all.length)).take (min (7 * i + 7) all.length - min (7 * i) all.length) = (all.drop (7 * i)).take 7
  by_cases h : 7 * i ≤ all.length
  · rw [Nat.min_eq_left h]
    by_cases h2 : 7 * i + 7 ≤ all.length
    · rw [Nat.min_eq_left h2, Nat.add_sub_cancel_left]
    · rw [Nat.min_eq_right (by omega), List.take_of_length_le (by rw [List.length_drop]; omega), List.take_of_length_le (by rw [List.length_drop]; omega)]
  · rw [List.drop_of_length_le (by omega), List.drop_of_length_le (by omega), List.take_nil, List.take_nil]
def RetWeeks (lp ml : Int) (h₀ : Heap) (L : Addr) (m : Str → Option Value) (news : List (Addr × Obj)) (s : Shared) (Q : Value → Shared → Prop) : Prop :=
  ∀ (R : Addr) (rs : List Addr) (cells : List (Addr × Obj)) (h' : Heap) (tk' : Nat), Fr h₀ L h' m → News h₀ L h' ((R, LCg.lst (rs.map .ref)) :: (cells ++ news)) → WeeksAre lp ml rs cells → Q (.ref R) { s with heap := h', toks := tk' }
theorem pad_size {lp : Int} {us : List Value} {n : Nat} (h : IntsAre us (rangeKs 1 n)) (_h1 : 0 ≤ lp) (h2 : lp < 7) (h3 : n ≤ 31) : (List.replicate lp.toNat Value.none ++ us ++ List.replicate 7 Value.none).toArray.size ≤ sizeLine := by
  have hl := range_len h
  rw [PySem.sizeLine_eq, List.size_toArray]
  simp only [List.length_append, List.length_replicate, hl]
  omega
theorem size7 {b : Int} (h0 : 0 ≤ b) (h : b < 100) : Builtin.Range.rangeSize 0 b 7 = (((b + 6) / 7).toNat : Int) := by
  unfold Builtin.Range.rangeSize
  simp
  omega
theorem small7 {b : Int} (h0 : 0 ≤ b) (h : b < 100) : Builtin.Range.small 0 b 7 = true := by
  unfold Builtin.Range.small
  rw [size7 h0 h]
  simp [Builtin.Range.rangeFitsLong]
  omega
local macro_rules | `(tactic| ktr_room) => `(tactic| ((try simp only [depth_under_make, depth_under_kw, depth_in1, depth_deeper, depth_caller]); (try dsimp only [ktrTop]); omega))
local macro_rules | `(tactic| k_room) => `(tactic| ktr_room)
local macro_rules | `(tactic| ktr_units) => `(tactic| (have hcL9 := cLine_is; (try simp only [units_in1, units_deeper, Around.mark_units, units_caller]); (try dsimp only [ktrTop]); omega))
local macro_rules | `(tactic| walk_at "isH tac") => `(tactic| first | assumption | exact isH_half | exact isH_epoch)
local macro_rules | `(tactic| walk_at "binaryOp Add float float") => `(tactic| ((with_reducible show wpAny _ _ (binaryOp Operator.Add (Value.float _ _) (Value.float _ _)) _ _ _); refine' add_ff_H ?hx ?hy ?hb ?_; (case hx => walk_at "isH tac"); (case hy => walk_at "isH tac"); (case hb => omega); intro zF hF))
local macro_rules | `(tactic| walk_at "binaryOp Add float int") => `(tactic| ((with_reducible show wpAny _ _ (binaryOp Operator.Add (Value.float _ _) (Value.int _ _)) _ _ _); first
  | (refine' add_fi_H ?hx ?hn ?hb ?_; (case hx => walk_at "isH tac"); (case hn => omega); (case hb => omega); intro zF hF)
  | (refine' add_fi_raw ?hn ?_; (case hn => omega))))
local macro_rules | `(tactic| walk_at "binaryOp Sub float int") => `(tactic| ((with_reducible show wpAny _ _ (binaryOp Operator.Sub (Value.float _ _) (Value.int _ _)) _ _ _); refine' sub_fi_H ?hx ?hn ?hb ?_; (case hx => walk_at "isH tac"); (case hn => omega); (case hb => omega); intro zF hF))
local macro_rules | `(tactic| walk_at "inplaceOp Add int float") => `(tactic| ((with_reducible show wpAny _ _ (inplaceOp Operator.Add (Value.int _ _) (Value.float _ _)) _ _ _); refine' iadd_if_H ?hx ?hn ?hb ?_; (case hx => walk_at "isH tac"); (case hn => omega); (case hb => omega); intro zF hF))
local macro_rules | `(tactic| walk_at "binaryOp Mult int float") => `(tactic| ((with_reducible show wpAny _ _ (binaryOp Operator.Mult (Value.int 2 _) (Value.float _ _)) _ _ _); refine' mul_if_H ?hx ?hn ?hb ?_; (case hx => walk_at "isH tac"); (case hn => omega); (case hb => omega); intro zF hF))
local macro_rules | `(tactic| walk_at "binaryOp Div int int") => `(tactic| ((with_reducible show wpAny _ _ (binaryOp Operator.Div (Value.int _ _) (Value.int _ _)) _ _ _); refine' div_ii_q ?hA ?h0 ?h1 ?h2 ?h3 ?_; (case hA => with_unfolding_all rfl); (case h0 => omega); (case h1 => omega); (case h2 => omega); (case h3 => omega); intro zF eF hF))
local macro_rules | `(tactic| walk_at "call builtin:math.trunc") => `(tactic| ((with_reducible show wpAny _ _ (call _ [Value.float _ _]) _ _ _); refine' trunc_f_H ?hA ?hx ?h0 ?_; (case hA => with_unfolding_all rfl); (case hx => walk_at "isH tac"); (case h0 => omega)))
local macro_rules | `(tactic| walk_at "call builtin:math.floor") => `(tactic| ((with_reducible show wpAny _ _ (call _ [Value.float _ _]) _ _ _); refine' floor_f_q ?hA ?hx ?_; (case hA => with_unfolding_all rfl); (case hx => first | assumption | exact month_q (by omega) (by omega) (by omega) (by assumption))))
local macro_rules | `(tactic| walk_at "call type:int") => `(tactic| ((with_reducible show wpAny _ _ (call _ [Value.float _ _]) _ _ _); refine' int_f_H ?hA ?hx ?h0 ?_; (case hA => with_unfolding_all rfl); (case hx => walk_at "isH tac"); (case h0 => omega)))
local macro_rules | `(tactic| walk_at "compareOp NotEq float float") => `(tactic| ((with_reducible show wpAny _ _ (compareOp CmpOp.NotEq (Value.float _ _) (Value.float _ _)) _ _ _); refine' ne_ff_H ?hx ?hy ?_; (case hx => walk_at "isH tac"); (case hy => walk_at "isH tac")))
local macro_rules | `(tactic| walk_at "prune ite") => `(tactic| (simp only [decide_eq_true_eq, beq_iff_eq, bne_iff_ne, ne_eq, Bool.not_eq_true', decide_eq_false_iff_not, fdiv2]; omega))
local macro_rules | `(tactic| walk_at "ite") => `(tactic| first | (refine' ite_neg ?hc ?_; (case hc => walk_at "prune ite")) | (refine' ite_pos ?hc ?_; (case hc => walk_at "prune ite")))
local macro_rules | `(tactic| walk_at "claim ends") => `(tactic| (
  (case k1 => first | k_asm | fail "claim: below") ; (case k2 => first | k_asm | fail "claim: frame"); (case k3 => first | k_asm | fail "claim: part"); (case k4 => first | k_asm | fail "claim: ledger"); (case k5 => first | k_asm | fail "claim: top")
  (case kK => first | exact rfl | assumption | fail "claim: kind")
  (case kd => first | ktr_room | fail "claim: room")
  (case ku => first | ktr_units | fail "claim: units")))
local macro_rules | `(tactic| walk_at "claim news") => `(tactic| first | k_asm | (refine' cb_drop ?cbN ?cbS; (case cbN => assumption); (case cbS => kcj_all)))
local macro_rules | `(tactic| walk_at "subscriptTail Name Slice ref ref") => `(tactic| (k_here; (with_reducible show wpAny _ _ (subscriptTail _ (PySem.Expr.Slice _ _ none _) (Value.ref _) (Value.ref _)) _ _ _); k_dflt (refine' kmk_slice_lit ?F ?N ?l ?p ?q ?e ?_ ?s ?t ?z; (case F => k_asm); (case N => k_asm); (case l => exact News.isList (by k_asm) (by k_mem)); (case p => kmk_part); (case q => kmk_part); (case e => exact pick7 _ _); (case s => with_unfolding_all rfl); (case t => kmk_pure); (case z => assumption)); intro D' h' F' N' l1))
local macro_rules | `(tactic| walk_at "Row7") => `(tactic| (fail "stop"))
local macro_rules | `(tactic| k_all) => `(tactic| exact tail_ne1 (by assumption))
local macro_rules | `(tactic| walk_at "eval ListComp") => `(tactic| (k_here; k_dflt (refine comp7 (by k_asm) (by with_unfolding_all rfl) (by decide) (by rfl) (by decide) (by rfl) ?_)))
local macro_rules | `(tactic| walk_at "binaryOp Add ref ref") => `(tactic| (k_here; (with_reducible show wpAny _ _ (binaryOp Operator.Add (Value.ref _) (Value.ref _)) _ _ _); k_dflt (refine' add_two ?F ?N ?a ?b ?z ?_; (case F => k_asm); (case N => k_asm); (case a => k_mem); (case b => k_mem); (case z => (rename IntsAre _ _ => hI9; have hI8 := range_len hI9; simp only [List.length_append, List.length_replicate, fmod7] at hI8 ⊢; omega))); intro D' h' F' N' l1; (try k_lt l1); (try k_sweep)))
local macro_rules | `(tactic| walk_at "binaryOp Mult ref int") => `(tactic| (k_here; (with_reducible show wpAny _ _ (binaryOp Operator.Mult (Value.ref _) (Value.int _ _)) _ _ _); k_dflt (refine' mul_one ?F ?N ?l ?lo ?hi ?_; (case F => k_asm); (case N => k_asm); (case l => k_mem); (case lo => (rw [fmod7]; omega)); (case hi => (rw [fmod7]; omega))); intro D' h' F' N' l1; (try k_lt l1); (try k_sweep)))
local macro_rules | `(tactic| walk_at "binaryOp Mult int ref") => `(tactic| (k_here; (with_reducible show wpAny _ _ (binaryOp Operator.Mult (Value.int 7 _) (Value.ref _)) _ _ _); k_dflt (refine' mul_left ?F ?N ?l ?_; (case F => k_asm); (case N => k_asm); (case l => k_mem)); intro D' h' F' N' l1; (try k_lt l1); (try k_sweep)))
theorem helper_ok (w : World) (sw l : Int) (t u : Tok) (h1 : 0 ≤ sw) (h2 : sw < 7) (h3 : 28 ≤ l) (h4 : l ≤ 31) : Claim w 14 106 [.int sw t, .int l u] (RetWeeks ((sw + 1) % 7) l) := by
  w_top off
  intro mean mg mb dp un gd cn cs a ccd cl outer A₀ base h₀ L m news s Q E B F X N T hk hd hu hret
  unfold RetWeeks at hret
  refine wpAny_call ?_
  k_dflt (refine' code_defC ?k1 ?k2 ?k3 ?k4 ?k5 ?kA ?kF ?kK ?k6 ?k7 ?k8 ?k9 ?kB ?kD ?_ ?c2 ?c3 ?c4; (case kA => exact rfl); (case kF => exact rfl); (case kK => assumption); (case k1 => k_asm); (case k2 => k_asm); (case k3 => k_asm); (case k4 => k_asm); (case k5 => k_asm); (case k6 => k_is); (case k7 => k_is); (case k8 => ktr_room); (case k9 => exact BindsTo.of_eq rfl); (case kB => exact rfl); (case kD => decide +kernel); (case c2 => exact rfl); (case c3 => exact rfl); (case c4 => exact rfl); k_whole; intro g' L' h' tk' cells' FG' F' N' Y' B' X' T' l1; (try k_lt l1); k_cells Y'; (try simp only [List.cons_append, List.nil_append] at N'); (try dsimp only); (try k_lift B'); (try k_fold))
  k_steps
  have hlp : 0 ≤ (sw + 1).fmod 7 ∧ (sw + 1).fmod 7 < 7 := by rw [fmod7]; omega
  rename IntsAre _ _ => hI9
  have hz9 := pad_size hI9 hlp.1 hlp.2 (by omega)
  refine src7_rows (all := _) rfl (by k_asm) (by k_asm) (by assumption) _ (small7 (by omega) (by omega)) (size7 (by omega) (by omega)) (by omega) (.head _) (c := _ + 1) (oc := _) (by k_mem) ?_ ?_
  · intro i t' I oI C oC D ys m₂ more h tk E' hi hC hx F2 N2
    k_steps
    exact ⟨_, _, _, rfl, rfl, by k_asm, by k_asm, by assumption⟩
  · intro D rs cells h tk F2 N2 hrs o2
    refine' leaveK_ F2 N2 ?_
    intro kF kN
    refine hret D rs cells h tk kF (fun p hp => kN p ?_) ⟨_, (by rw [show 1 + l - 1 = l by omega] at hI9; exact hI9), (by unfold padded; rw [← fmod7]; exact hrs)⟩
    rcases List.mem_cons.mp hp with rfl | hp
    · exact .head _
    refine .tail _ ?_
    rcases List.mem_append.mp hp with hp | hp
    · exact List.mem_append_left _ hp
    refine List.mem_append_right _ ?_
    repeat (first | exact hp | refine .tail _ ?_)
end Mine
end
section
open PySem PySem.W PySem.Calls PyProof.Rows PySem.Float64 PySem.Flt
namespace Mine
local macro_rules | `(tactic| ktr_room) => `(tactic| ((try simp only [depth_under_make, depth_under_kw, depth_in1, depth_deeper, depth_caller]); (try dsimp only [ktrTop]); omega))
local macro_rules | `(tactic| k_room) => `(tactic| ktr_room)
local macro_rules | `(tactic| ktr_units) => `(tactic| (have hcL9 := cLine_is; (try simp only [units_in1, units_deeper, Around.mark_units, units_caller]); (try dsimp only [ktrTop]); omega))
local macro_rules | `(tactic| walk_at "isH tac") => `(tactic| first | assumption | exact isH_half | exact isH_epoch)
local macro_rules | `(tactic| walk_at "binaryOp Add float float") => `(tactic| ((with_reducible show wpAny _ _ (binaryOp Operator.Add (Value.float _ _) (Value.float _ _)) _ _ _); refine' add_ff_H ?hx ?hy ?hb ?_; (case hx => walk_at "isH tac"); (case hy => walk_at "isH tac"); (case hb => omega); intro zF hF))
local macro_rules | `(tactic| walk_at "binaryOp Add float int") => `(tactic| ((with_reducible show wpAny _ _ (binaryOp Operator.Add (Value.float _ _) (Value.int _ _)) _ _ _); first
  | (refine' add_fi_H ?hx ?hn ?hb ?_; (case hx => walk_at "isH tac"); (case hn => omega); (case hb => omega); intro zF hF)
  | (refine' add_fi_raw ?hn ?_; (case hn => omega))))
local macro_rules | `(tactic| walk_at "binaryOp Sub float int") => `(tactic| ((with_reducible show wpAny _ _ (binaryOp Operator.Sub (Value.float _ _) (Value.int _ _)) _ _ _); refine' sub_fi_H ?hx ?hn ?hb ?_; (case hx => walk_at "isH tac"); (case hn => omega); (case hb => omega); intro zF hF))
local macro_rules | `(tactic| walk_at "inplaceOp Add int float") => `(tactic| ((with_reducible show wpAny _ _ (inplaceOp Operator.Add (Value.int _ _) (Value.float _ _)) _ _ _); refine' iadd_if_H ?hx ?hn ?hb ?_; (case hx => walk_at "isH tac"); (case hn => omega); (case hb => omega); intro zF hF))
local macro_rules | `(tactic| walk_at "binaryOp Mult int float") => `(tactic| ((with_reducible show wpAny _ _ (binaryOp Operator.Mult (Value.int 2 _) (Value.float _ _)) _ _ _); refine' mul_if_H ?hx ?hn ?hb ?_; (case hx => walk_at "isH tac"); (case hn => omega); (case hb => omega); intro zF hF))
local macro_rules | `(tactic| walk_at "binaryOp Div int int") => `(tactic| ((with_reducible show wpAny _ _ (binaryOp Operator.Div (Value.int _ _) (Value.int _ _)) _ _ _); refine' div_ii_q ?hA ?h0 ?h1 ?h2 ?h3 ?_; (case hA => with_unfolding_all rfl); (case h0 => omega); (case h1 => omega); (case h2 => omega); (case h3 => omega); intro zF eF hF))
local macro_rules | `(tactic| walk_at "call builtin:math.trunc") => `(tactic| ((with_reducible show wpAny _ _ (call _ [Value.float _ _]) _ _ _); refine' trunc_f_H ?hA ?hx ?h0 ?_; (case hA => with_unfolding_all rfl); (case hx => walk_at "isH tac"); (case h0 => omega)))
local macro_rules | `(tactic| walk_at "call builtin:math.floor") => `(tactic| ((with_reducible show wpAny _ _ (call _ [Value.float _ _]) _ _ _); refine' floor_f_q ?hA ?hx ?_; (case hA => with_unfolding_all rfl); (case hx => first | assumption | exact month_q (by omega) (by omega) (by omega) (by assumption))))
local macro_rules | `(tactic| walk_at "call type:int") => `(tactic| ((with_reducible show wpAny _ _ (call _ [Value.float _ _]) _ _ _); refine' int_f_H ?hA ?hx ?h0 ?_; (case hA => with_unfolding_all rfl); (case hx => walk_at "isH tac"); (case h0 => omega)))
local macro_rules | `(tactic| walk_at "compareOp NotEq float float") => `(tactic| ((with_reducible show wpAny _ _ (compareOp CmpOp.NotEq (Value.float _ _) (Value.float _ _)) _ _ _); refine' ne_ff_H ?hx ?hy ?_; (case hx => walk_at "isH tac"); (case hy => walk_at "isH tac")))
local macro_rules | `(tactic| walk_at "prune ite") => `(tactic| (simp only [decide_eq_true_eq, beq_iff_eq, bne_iff_ne, ne_eq, Bool.not_eq_true', decide_eq_false_iff_not, fdiv2]; omega))
local macro_rules | `(tactic| walk_at "ite") => `(tactic| first | (refine' ite_neg ?hc ?_; (case hc => walk_at "prune ite")) | (refine' ite_pos ?hc ?_; (case hc => walk_at "prune ite")))
local macro_rules | `(tactic| walk_at "claim ends") => `(tactic| (
  (case k1 => first | k_asm | fail "claim: below") ; (case k2 => first | k_asm | fail "claim: frame"); (case k3 => first | k_asm | fail "claim: part"); (case k4 => first | k_asm | fail "claim: ledger"); (case k5 => first | k_asm | fail "claim: top")
  (case kK => first | exact rfl | assumption | fail "claim: kind")
  (case kd => first | ktr_room | fail "claim: room")
  (case ku => first | ktr_units | fail "claim: units")))
local macro_rules | `(tactic| walk_at "claim news") => `(tactic| first | k_asm | (refine' cb_drop ?cbN ?cbS; (case cbN => assumption); (case cbS => kcj_all)))
local macro_rules | `(tactic| walk_at "call type:datetime.date") => `(tactic| (k_here; k_dflt (refine' date_step ?F ?N ?h1 ?h2 ?h3 ?h4 ?_; (case F => k_asm); (case N => k_asm); (case h1 => omega); (case h2 => omega); (case h3 => omega); (case h4 => omega)); intro D' h' F' N' l1; (try k_lt l1); (try k_sweep)))
local macro_rules | `(tactic| walk_at "getMethod ref") => `(tactic| (k_here; (with_reducible show wpAny _ _ (getMethod (Value.ref _) (Str.ofString "weekday") _) _ _ _); k_dflt (refine' getMethod_weekday (News.get ?N ?q) ?_; (case N => k_asm); (case q => k_mem))))
local macro_rules | `(tactic| walk_at "call builtin:datetime.date.weekday") => `(tactic| (k_here; k_dflt (refine' call_weekday (News.get ?N ?q) ?_; (case N => k_asm); (case q => k_mem))))
local macro_rules | `(tactic| walk_at "subscriptTail") => `(tactic| (k_here; (with_reducible show wpAny _ _ (subscriptTail _ _ (Value.ref 418) (Value.int _ _)) _ _ _); k_dflt (refine' sub_days ?F ?X ?h0 ?h7 ?hs ?_; (case F => k_asm); (case X => k_asm); (case h0 => exact (wd_range _ _).1); (case h7 => exact (wd_range _ _).2); (case hs => with_unfolding_all rfl)); intro d9 dd9 tk9 hd9))
local macro_rules | `(tactic| walk_at "subscriptTail") => `(tactic| (k_here; (with_reducible show wpAny _ _ (subscriptTail _ _ (Value.ref 419) (Value.int _ _)) _ _ _); k_dflt (refine' sub_mdays ?F ?X ?h0 ?h7 ?hs ?_; (case F => k_asm); (case X => k_asm); (case h0 => omega); (case h7 => omega); (case hs => with_unfolding_all rfl)); intro tk9))
local macro_rules | `(tactic| walk_at "compareOp Eq int ref") => `(tactic| (k_here; (with_reducible show wpAny _ _ (compareOp CmpOp.Eq (Value.int _ _) (Value.ref 366)) _ _ _); k_dflt (refine' eq_month ?X ?hu ?_; (case X => k_in); (case hu => ktr_units))))
local macro_rules | `(tactic| walk_at "binaryOp Sub int ref") => `(tactic| (k_here; (with_reducible show wpAny _ _ (binaryOp Operator.Sub (Value.int _ _) (Value.ref _)) _ _ _); k_dflt (refine' sub_day ?X ?hd ?_; (case X => k_in); (case hd => exact Frag.In.keeps (by k_asm) (Fr.keep (by k_asm)) _ _ (by assumption)))))
local macro_rules | `(tactic| walk_at "call ref") => `(tactic| (k_here; (with_reducible show wpAny _ _ (call (Value.ref 447) [Value.int _ _, Value.int _ _]) _ _ _); k_dflt (
  refine' range_ok _ _ _ _ _ ?ka ?kb ?kc ?ke _ _ _ _ _ _ _ _ _ _ _ _ _ _ _ _ _ _ _ _ _ ?k1 ?k2 ?k3 ?k4 ?k5 ?kK ?kd ?ku ?_
  (case ka => omega); (case kb => omega); (case kc => omega); (case ke => omega); walk_at "claim ends"
  unfold RetRange
  intro r9 d9 dd9 tk9 tn9 h9 tk9' hd9 F9 N9 l9; (try k_lt l9)
  (try dsimp only); (try k_fold))))
theorem mlen_ok (w : World) (y m' : Int) (t u : Tok) (h1 : 1 ≤ y) (h2 : y ≤ 9000) (h3 : 1 ≤ m') (h4 : m' ≤ 12) : Claim w 14 476 [.int y t, .int m' u] (RetInt (lenOf y m')) := by
  w_top off
  intro mean mg mb dp un gd cn cs a ccd cl outer A₀ base h₀ L m news s Q E B F X N T hk hd hu hret
  unfold RetInt at hret
  refine wpAny_call ?_
  k_dflt cell_enter
  k_steps
  all_goals (refine cb_retI hret rfl (by k_asm) (by walk_at "claim news"))
end Mine
end
section
open PySem PySem.W PySem.Calls PyProof.Rows PySem.Float64 PySem.Flt
namespace Mine
local macro_rules | `(tactic| ktr_room) => `(tactic| ((try simp only [depth_under_make, depth_under_kw, depth_in1, depth_deeper, depth_caller]); (try dsimp only [ktrTop]); omega))
local macro_rules | `(tactic| k_room) => `(tactic| ktr_room)
local macro_rules | `(tactic| ktr_units) => `(tactic| (have hcL9 := cLine_is; (try simp only [units_in1, units_deeper, Around.mark_units, units_caller]); (try dsimp only [ktrTop]); omega))
local macro_rules | `(tactic| walk_at "isH tac") => `(tactic| first | assumption | exact isH_half | exact isH_epoch)
local macro_rules | `(tactic| walk_at "binaryOp Add float float") => `(tactic| ((with_reducible show wpAny _ _ (binaryOp Operator.Add (Value.float _ _) (Value.float _ _)) _ _ _); refine' add_ff_H ?hx ?hy ?hb ?_; (case hx => walk_at "isH tac"); (case hy => walk_at "isH tac"); (case hb => omega); intro zF hF))
local macro_rules | `(tactic| walk_at "binaryOp Add float int") => `(tactic| ((with_reducible show wpAny _ _ (binaryOp Operator.Add (Value.float _ _) (Value.int _ _)) _ _ _); first
  | (refine' add_fi_H ?hx ?hn ?hb ?_; (case hx => walk_at "isH tac"); (case hn => omega); (case hb => omega); intro zF hF)
  | (refine' add_fi_raw ?hn ?_; (case hn => omega))))
local macro_rules | `(tactic| walk_at "binaryOp Sub float int") => `(tactic| ((with_reducible show wpAny _ _ (binaryOp Operator.Sub (Value.float _ _) (Value.int _ _)) _ _ _); refine' sub_fi_H ?hx ?hn ?hb ?_; (case hx => walk_at "isH tac"); (case hn => omega); (case hb => omega); intro zF hF))
local macro_rules | `(tactic| walk_at "inplaceOp Add int float") => `(tactic| ((with_reducible show wpAny _ _ (inplaceOp Operator.Add (Value.int _ _) (Value.float _ _)) _ _ _); refine' iadd_if_H ?hx ?hn ?hb ?_; (case hx => walk_at "isH tac"); (case hn => omega); (case hb => omega); intro zF hF))
local macro_rules | `(tactic| walk_at "binaryOp Mult int float") => `(tactic| ((with_reducible show wpAny _ _ (binaryOp Operator.Mult (Value.int 2 _) (Value.float _ _)) _ _ _); refine' mul_if_H ?hx ?hn ?hb ?_; (case hx => walk_at "isH tac"); (case hn => omega); (case hb => omega); intro zF hF))
local macro_rules | `(tactic| walk_at "binaryOp Div int int") => `(tactic| ((with_reducible show wpAny _ _ (binaryOp Operator.Div (Value.int _ _) (Value.int _ _)) _ _ _); refine' div_ii_q ?hA ?h0 ?h1 ?h2 ?h3 ?_; (case hA => with_unfolding_all rfl); (case h0 => omega); (case h1 => omega); (case h2 => omega); (case h3 => omega); intro zF eF hF))
local macro_rules | `(tactic| walk_at "call builtin:math.trunc") => `(tactic| ((with_reducible show wpAny _ _ (call _ [Value.float _ _]) _ _ _); refine' trunc_f_H ?hA ?hx ?h0 ?_; (case hA => with_unfolding_all rfl); (case hx => walk_at "isH tac"); (case h0 => omega)))
local macro_rules | `(tactic| walk_at "call builtin:math.floor") => `(tactic| ((with_reducible show wpAny _ _ (call _ [Value.float _ _]) _ _ _); refine' floor_f_q ?hA ?hx ?_; (case hA => with_unfolding_all rfl); (case hx => first | assumption | exact month_q (by omega) (by omega) (by omega) (by assumption))))
local macro_rules | `(tactic| walk_at "call type:int") => `(tactic| ((with_reducible show wpAny _ _ (call _ [Value.float _ _]) _ _ _); refine' int_f_H ?hA ?hx ?h0 ?_; (case hA => with_unfolding_all rfl); (case hx => walk_at "isH tac"); (case h0 => omega)))
local macro_rules | `(tactic| walk_at "compareOp NotEq float float") => `(tactic| ((with_reducible show wpAny _ _ (compareOp CmpOp.NotEq (Value.float _ _) (Value.float _ _)) _ _ _); refine' ne_ff_H ?hx ?hy ?_; (case hx => walk_at "isH tac"); (case hy => walk_at "isH tac")))
local macro_rules | `(tactic| walk_at "prune ite") => `(tactic| (simp only [decide_eq_true_eq, beq_iff_eq, bne_iff_ne, ne_eq, Bool.not_eq_true', decide_eq_false_iff_not, fdiv2]; omega))
local macro_rules | `(tactic| walk_at "ite") => `(tactic| first | (refine' ite_neg ?hc ?_; (case hc => walk_at "prune ite")) | (refine' ite_pos ?hc ?_; (case hc => walk_at "prune ite")))
local macro_rules | `(tactic| walk_at "claim ends") => `(tactic| (
  (case k1 => first | k_asm | fail "claim: below") ; (case k2 => first | k_asm | fail "claim: frame"); (case k3 => first | k_asm | fail "claim: part"); (case k4 => first | k_asm | fail "claim: ledger"); (case k5 => first | k_asm | fail "claim: top")
  (case kK => first | exact rfl | assumption | fail "claim: kind")
  (case kd => first | ktr_room | fail "claim: room")
  (case ku => first | ktr_units | fail "claim: units")))
local macro_rules | `(tactic| walk_at "claim news") => `(tactic| first | k_asm | (refine' cb_drop ?cbN ?cbS; (case cbN => assumption); (case cbS => kcj_all)))
local macro_rules | `(tactic| walk_at "call ref") => `(tactic| (k_here; (with_reducible show wpAny _ _ (call (Value.ref 469) [Value.int _ _, Value.int _ _, Value.int 1 _]) _ _ _); k_dflt (
  refine' tojd_ok _ _ _ _ _ _ ?ka ?kb ?kc ?ke _ _ _ _ _ _ _ _ _ _ _ _ _ _ _ _ _ _ _ _ _ ?k1 ?k2 ?k3 ?k4 ?k5 ?kK ?kd ?ku ?_
  (case ka => omega); (case kb => omega); (case kc => omega); (case ke => omega); walk_at "claim ends"
  unfold RetH
  intro x9 t9 h9 tk9 hF F9 N9
  (try dsimp only); (try k_fold))))
local macro_rules | `(tactic| walk_at "call ref") => `(tactic| (k_here; (with_reducible show wpAny _ _ (call (Value.ref 66) [Value.float _ _]) _ _ _); k_dflt (
  refine' jwday_ok _ _ _ _ ?kx ?ka ?kb _ _ _ _ _ _ _ _ _ _ _ _ _ _ _ _ _ _ _ _ _ ?k1 ?k2 ?k3 ?k4 ?k5 ?kK ?kd ?ku ?_
  (case kx => walk_at "isH tac"); (case ka => omega); (case kb => omega); walk_at "claim ends"
  unfold RetInt
  intro t9 h9 tk9 F9 N9
  (try dsimp only); (try k_fold))))
local macro_rules | `(tactic| walk_at "call ref") => `(tactic| (k_here; (with_reducible show wpAny _ _ (call (Value.ref 476) [Value.int _ _, Value.int _ _]) _ _ _); k_dflt (
  refine' mlen_ok _ _ _ _ _ ?ka ?kb ?kc ?ke _ _ _ _ _ _ _ _ _ _ _ _ _ _ _ _ _ _ _ _ _ ?k1 ?k2 ?k3 ?k4 ?k5 ?kK ?kd ?ku ?_
  (case ka => omega); (case kb => omega); (case kc => omega); (case ke => omega); walk_at "claim ends"
  unfold RetInt
  intro t9 h9 tk9 F9 N9
  (try dsimp only); (try k_fold))))
local macro_rules | `(tactic| walk_at "call ref") => `(tactic| (k_here; (with_reducible show wpAny _ _ (call (Value.ref 106) [Value.int _ _, Value.int _ _]) _ _ _); k_dflt (
  refine' helper_ok _ _ _ _ _ ?ka ?kb ?kc ?ke _ _ _ _ _ _ _ _ _ _ _ _ _ _ _ _ _ _ _ _ _ ?k1 ?k2 ?k3 ?k4 ?k5 ?kK ?kd ?ku ?_
  (case ka => omega); (case kb => omega); (case kc => omega); (case ke => omega); walk_at "claim ends"
  unfold RetWeeks
  intro R9 rs9 cells9 h9 tk9 F9 N9 W9
  (try dsimp only); (try k_fold))))
theorem mcal_ok (w : World) (y m' : Int) (t u : Tok) (h1 : 1 ≤ y) (h2 : y ≤ 9000) (h3 : 1 ≤ m') (h4 : m' ≤ 12) (h5 : 1721426 ≤ noonOf y m') (h6 : noonOf y m' < 8000000) (h7 : 28 ≤ lenOf y m') (h8 : lenOf y m' ≤ 31) : Claim w 24 483 [.int y t, .int m' u] (RetWeeks ((noonOf y m' + 1) % 7) (lenOf y m')) := by
  w_top off
  intro mean mg mb dp un gd cn cs a ccd cl outer A₀ base h₀ L m news s Q E B F X N T hk hd hu hret
  unfold RetWeeks at hret
  refine wpAny_call ?_
  k_dflt cell_enter
  k_steps
  rename WeeksAre _ _ _ _ => W9
  rw [show ((2 * noonOf y m' - 1 + 1) / 2 % 7 + 1) % 7 = (noonOf y m' + 1) % 7 by omega] at W9
  exact hret _ _ _ _ _ (by k_asm) (by k_asm) W9
end Mine
end
section
open PySem PySem.W PySem.Calls PyProof.Rows PySem.Float64 PySem.Flt
namespace Mine
def lawDef : Stmt := (PySem.Challenge.rw_bd5015_01.row.prog.main.body.getLast?).getD (.Pass default)
def lawBody : List Stmt := match lawDef with | .FunctionDef _ _ b _ _ _ _ _ _ _ => b | _ => []
def lawScope : Scope := match lawDef with | .FunctionDef _ _ _ _ _ _ s _ _ _ => s | _ => default
def lawTurn : List Stmt := match lawBody.drop 12 with | .For _ _ b _ _ :: _ => b | _ => []
abbrev lawEnv (sc : Scope) (L fa : Addr) (cd : Value) : Env := envOfC (Str.ofString "law") sc L fa cd
abbrev Seg (w : World) (body : List Stmt) (mf : Str → Option Value) (extra : List (Addr × Obj)) (h₀ : Heap) (L : Addr) (noon wd : Int) (Qok : (Flow → Shared → Prop) → Shared → List (Addr × Obj) → Prop) : Prop :=
  ∀ (mean : ExcName → Option Value) (mg mb : Str → Option Value) (fa : Addr) (cd : Value) (oN oW : Obj) (tN tW : Tok) (s : Shared) (Q : Flow → Shared → Prop),
    Below callerA h₀ [] h₀ → Fr h₀ L s.heap mf → (Mine.hd.heap_39 w.params).In h₀ → News h₀ L s.heap (extra ++ [(L + 1 + 1, oN), (L + 1, oW)]) → Top Mine.hd.view_39 LS mean mg mb h₀ →
    oN.data = .cell (some (.int noon tN)) → oW.data = .cell (some (.int wd tW)) → Qok Q s [(L + 1 + 1, oN), (L + 1, oW)] →
      wpAny (model PySem.Challenge.rw_bd5015_01.row.prog w) (callerA.deeper (lawEnv lawScope L fa cd)) (execs body (lawEnv lawScope L fa cd)) Q (fun _ _ => False) s
def Done (h₀ : Heap) (L : Addr) (Q : Flow → Shared → Prop) (s : Shared) (_ : List (Addr × Obj)) : Prop := ∀ m h' tk', Fr h₀ L h' m → Q (.ret (.bool true)) { s with heap := h', toks := tk' }
def Next (h₀ : Heap) (L : Addr) (mf : Str → Option Value) (extra : List (Addr × Obj)) (Q : Flow → Shared → Prop) (s : Shared) (cells : List (Addr × Obj)) : Prop := ∀ h' tk', Fr h₀ L h' mf → News h₀ L h' (extra ++ cells) → Q .next { s with heap := h', toks := tk' }
def DaysAre (ys : List Value) (f n : Int) : Prop := (ys.length : Int) = n ∧ ∀ j : Int, 0 ≤ j → j < n → ∃ t, ys[j.toNat]? = some (.int (f + 7 * j) t)
section
variable {prog : Program} {w : World} {A : Around} {E : Value → Shared → Prop} {s : Shared} {h₀ : Heap} {L D : Addr} {news : List (Addr × Obj)} {ys : List Value} {f n : Int}
theorem day_len {Q : Value → Shared → Prop} (N : News h₀ L s.heap news) (hm : (D, LCg.lst ys) ∈ news) (hy : DaysAre ys f n) (h2 : n ≤ 5)
    (h : ∀ t tk, Q (.int n t) { s with toks := tk }) : wpAny (model prog w) A (call (.builtin "len") [.ref D]) Q E s := by
  have hL : s.heap.IsList D ys.toArray := ⟨_, (N _ hm).1, rfl, _, rfl⟩
  have hsz : (ys.toArray.size : Int) = n := by rw [List.size_toArray]; exact hy.1
  refine Calls.call_len_list hL (by omega) ?_
  rw [hsz]
  exact h _ _
theorem day_pos {value slice : Expr} {k : Int} {u : Tok} {Q : Value → Shared → Prop} (N : News h₀ L s.heap news) (hm : (D, LCg.lst ys) ∈ news) (hy : DaysAre ys f n)
    (h0 : 0 ≤ k) (h1 : k < n) (h2 : n ≤ 5) (h : ∀ t, Q (.int (f + 7 * k) t) s)
    (hs : subscripted slice false (.ref D) (.int k u) = operate [.ref D, .int k u] (getItem (.ref D) (.int k u))) :
    wpAny (model prog w) A (subscriptTail value slice (.ref D) (.int k u)) Q E s := by
  have hL : s.heap.IsList D ys.toArray := ⟨_, (N _ hm).1, rfl, _, rfl⟩
  obtain ⟨t, ht⟩ := hy.2 k h0 h1
  exact tail_any hL.typeIs slot_list_getitem.lookup (wpAny_getItem_list hL h0 (by omega) (by simpa using ht) (h t)) hs
theorem day_neg {value slice : Expr} {k : Int} {u : Tok} {Q : Value → Shared → Prop} (N : News h₀ L s.heap news) (hm : (D, LCg.lst ys) ∈ news) (hy : DaysAre ys f n)
    (h0 : k < 0) (h1 : -n ≤ k) (h2 : n ≤ 5) (h : ∀ t, Q (.int (f + 7 * (k + n)) t) s)
    (hs : subscripted slice false (.ref D) (.int k u) = operate [.ref D, .int k u] (getItem (.ref D) (.int k u))) :
    wpAny (model prog w) A (subscriptTail value slice (.ref D) (.int k u)) Q E s := by
  have hL : s.heap.IsList D ys.toArray := ⟨_, (N _ hm).1, rfl, _, rfl⟩
  have hsz : (ys.toArray.size : Int) = n := by rw [List.size_toArray]; exact hy.1
  obtain ⟨t, ht⟩ := hy.2 (k + n) (by omega) (by omega)
  exact tail_any hL.typeIs slot_list_getitem.lookup (wpAny_getItem_list_neg hL h0 (by omega) (by omega) (by rw [hsz]; simpa using ht) (h t)) hs
end
end Mine
end
section
open PySem PySem.W PySem.Calls PyProof.Rows PySem.Float64 PySem.Flt
namespace Mine
local macro_rules | `(tactic| ktr_room) => `(tactic| ((try simp only [depth_under_make, depth_under_kw, depth_in1, depth_deeper, depth_caller]); (try dsimp only [ktrTop]); omega))
local macro_rules | `(tactic| k_room) => `(tactic| ktr_room)
local macro_rules | `(tactic| ktr_units) => `(tactic| (have hcL9 := cLine_is; (try simp only [units_in1, units_deeper, Around.mark_units, units_caller]); (try dsimp only [ktrTop]); omega))
local macro_rules | `(tactic| walk_at "isH tac") => `(tactic| first | assumption | exact isH_half | exact isH_epoch)
local macro_rules | `(tactic| walk_at "binaryOp Add float float") => `(tactic| ((with_reducible show wpAny _ _ (binaryOp Operator.Add (Value.float _ _) (Value.float _ _)) _ _ _); refine' add_ff_H ?hx ?hy ?hb ?_; (case hx => walk_at "isH tac"); (case hy => walk_at "isH tac"); (case hb => omega); intro zF hF))
local macro_rules | `(tactic| walk_at "binaryOp Add float int") => `(tactic| ((with_reducible show wpAny _ _ (binaryOp Operator.Add (Value.float _ _) (Value.int _ _)) _ _ _); first
  | (refine' add_fi_H ?hx ?hn ?hb ?_; (case hx => walk_at "isH tac"); (case hn => omega); (case hb => omega); intro zF hF)
  | (refine' add_fi_raw ?hn ?_; (case hn => omega))))
local macro_rules | `(tactic| walk_at "binaryOp Sub float int") => `(tactic| ((with_reducible show wpAny _ _ (binaryOp Operator.Sub (Value.float _ _) (Value.int _ _)) _ _ _); refine' sub_fi_H ?hx ?hn ?hb ?_; (case hx => walk_at "isH tac"); (case hn => omega); (case hb => omega); intro zF hF))
local macro_rules | `(tactic| walk_at "inplaceOp Add int float") => `(tactic| ((with_reducible show wpAny _ _ (inplaceOp Operator.Add (Value.int _ _) (Value.float _ _)) _ _ _); refine' iadd_if_H ?hx ?hn ?hb ?_; (case hx => walk_at "isH tac"); (case hn => omega); (case hb => omega); intro zF hF))
local macro_rules | `(tactic| walk_at "binaryOp Mult int float") => `(tactic| ((with_reducible show wpAny _ _ (binaryOp Operator.Mult (Value.int 2 _) (Value.float _ _)) _ _ _); refine' mul_if_H ?hx ?hn ?hb ?_; (case hx => walk_at "isH tac"); (case hn => omega); (case hb => omega); intro zF hF))
local macro_rules | `(tactic| walk_at "binaryOp Div int int") => `(tactic| ((with_reducible show wpAny _ _ (binaryOp Operator.Div (Value.int _ _) (Value.int _ _)) _ _ _); refine' div_ii_q ?hA ?h0 ?h1 ?h2 ?h3 ?_; (case hA => with_unfolding_all rfl); (case h0 => omega); (case h1 => omega); (case h2 => omega); (case h3 => omega); intro zF eF hF))
local macro_rules | `(tactic| walk_at "call builtin:math.trunc") => `(tactic| ((with_reducible show wpAny _ _ (call _ [Value.float _ _]) _ _ _); refine' trunc_f_H ?hA ?hx ?h0 ?_; (case hA => with_unfolding_all rfl); (case hx => walk_at "isH tac"); (case h0 => omega)))
local macro_rules | `(tactic| walk_at "call builtin:math.floor") => `(tactic| ((with_reducible show wpAny _ _ (call _ [Value.float _ _]) _ _ _); refine' floor_f_q ?hA ?hx ?_; (case hA => with_unfolding_all rfl); (case hx => first | assumption | exact month_q (by omega) (by omega) (by omega) (by assumption))))
local macro_rules | `(tactic| walk_at "call type:int") => `(tactic| ((with_reducible show wpAny _ _ (call _ [Value.float _ _]) _ _ _); refine' int_f_H ?hA ?hx ?h0 ?_; (case hA => with_unfolding_all rfl); (case hx => walk_at "isH tac"); (case h0 => omega)))
local macro_rules | `(tactic| walk_at "compareOp NotEq float float") => `(tactic| ((with_reducible show wpAny _ _ (compareOp CmpOp.NotEq (Value.float _ _) (Value.float _ _)) _ _ _); refine' ne_ff_H ?hx ?hy ?_; (case hx => walk_at "isH tac"); (case hy => walk_at "isH tac")))
local macro_rules | `(tactic| walk_at "prune ite") => `(tactic| (simp only [decide_eq_true_eq, beq_iff_eq, bne_iff_ne, ne_eq, Bool.not_eq_true', decide_eq_false_iff_not, fdiv2]; omega))
local macro_rules | `(tactic| walk_at "ite") => `(tactic| first | (refine' ite_neg ?hc ?_; (case hc => walk_at "prune ite")) | (refine' ite_pos ?hc ?_; (case hc => walk_at "prune ite")))
local macro_rules | `(tactic| walk_at "claim ends") => `(tactic| (
  (case k1 => first | k_asm | fail "claim: below") ; (case k2 => first | k_asm | fail "claim: frame"); (case k3 => first | k_asm | fail "claim: part"); (case k4 => first | k_asm | fail "claim: ledger"); (case k5 => first | k_asm | fail "claim: top")
  (case kK => first | exact rfl | assumption | fail "claim: kind")
  (case kd => first | ktr_room | fail "claim: room")
  (case ku => first | ktr_units | fail "claim: units")))
local macro_rules | `(tactic| walk_at "claim news") => `(tactic| first | k_asm | (refine' cb_drop ?cbN ?cbS; (case cbN => assumption); (case cbS => kcj_all)))
local macro_rules | `(tactic| walk_at "law days") => `(tactic| (k_here; (with_reducible show wpAny _ _ (subscriptTail _ _ (Value.ref _) (Value.int _ _)) _ _ _); first
  | (k_dflt (refine' day_pos ?N ?m ?hy ?h0 ?h1 ?h2 ?_ ?hs; (case N => k_asm); (case m => k_mem); (case hy => assumption); (case h0 => omega); (case h1 => omega); (case h2 => omega); (case hs => with_unfolding_all rfl)); intro t9)
  | (k_dflt (refine' day_neg ?N ?m ?hy ?h0 ?h1 ?h2 ?_ ?hs; (case N => k_asm); (case m => k_mem); (case hy => assumption); (case h0 => omega); (case h1 => omega); (case h2 => omega); (case hs => with_unfolding_all rfl)); intro t9)))
local macro_rules | `(tactic| walk_at "subscriptTail Name Name ref int") => `(tactic| walk_at "law days")
local macro_rules | `(tactic| walk_at "subscriptTail") => `(tactic| walk_at "law days")
local macro_rules | `(tactic| walk_at "call ref") => `(tactic| (k_here; (with_reducible show wpAny _ _ (call (Value.ref 454) [Value.int _ _, Value.int _ _, Value.int _ _, Value.int _ _]) _ _ _); k_dflt (
  refine' nth_ok _ _ _ _ _ _ _ _ _ ?pa ?pb ?pc ?pd ?pe ?pf ?pg ?ph ?pi _ _ _ _ _ _ _ _ _ _ _ _ _ _ _ _ _ _ _ _ _ ?k1 ?k2 ?k3 ?k4 ?k5 ?kK ?kd ?ku ?_
  (case pa => omega); (case pb => omega); (case pc => omega); (case pd => omega); (case pe => omega); (case pf => omega); (case pg => omega); (case ph => omega); (case pi => omega); walk_at "claim ends"
  unfold RetTup
  intro r9 ty9 tm9 td9 h9 tk9' F9 N9 l9; (try k_lt l9)
  (try dsimp only); (try k_fold))))
local macro_rules | `(tactic| walk_at "call ref") => `(tactic| (k_here; (with_reducible show wpAny _ _ (call (Value.ref 101) [Value.int _ _, Value.float _ _, Value.int _ _]) _ _ _); k_dflt (
  refine' nweeks_pos_ok _ _ _ _ _ _ _ _ ?kx ?ka ?kb ?kc ?ke ?kf ?kg _ _ _ _ _ _ _ _ _ _ _ _ _ _ _ _ _ _ _ _ _ ?k1 ?k2 ?k3 ?k4 ?k5 ?kK ?kd ?ku ?_
  (case kx => walk_at "isH tac"); (case ka => omega); (case kb => omega); (case kc => omega); (case ke => omega); (case kf => omega); (case kg => omega); walk_at "claim ends"
  unfold RetH
  intro x9 t9 h9 tk9 hF F9 N9
  (try dsimp only); (try k_fold))))
local macro_rules | `(tactic| walk_at "call ref") => `(tactic| (k_here; (with_reducible show wpAny _ _ (call (Value.ref 101) [Value.int _ _, Value.float _ _, Value.int _ _]) _ _ _); k_dflt (
  refine' nweeks_neg_ok _ _ _ _ _ _ _ _ ?kx ?ka ?kb ?kc ?ke ?kf ?kg _ _ _ _ _ _ _ _ _ _ _ _ _ _ _ _ _ _ _ _ _ ?k1 ?k2 ?k3 ?k4 ?k5 ?kK ?kd ?ku ?_
  (case kx => walk_at "isH tac"); (case ka => omega); (case kb => omega); (case kc => omega); (case ke => omega); (case kf => omega); (case kg => omega); walk_at "claim ends"
  unfold RetH
  intro x9 t9 h9 tk9 hF F9 N9
  (try dsimp only); (try k_fold))))
theorem law_turn (w : World) (h₀ : Heap) (L : Addr) (I : Addr) (k : Int) (tk : Tok) (x : UInt64) (tx : Tok) (oI : Obj) (D : Addr) (y m d noon size far f n : Int) (ys : List Value) (t1 t2 t3 t4 : Tok) (vP vS vL : Value) (m0 : Str → Option Value) (hx : IsH x (2 * noon - 1)) (hk0 : 0 ≤ k) (hk1 : k < n) (h1 : 1 ≤ y) (h2 : y ≤ 9000) (h3 : 1 ≤ m) (h4 : m ≤ 12) (h5 : 0 ≤ d) (h6 : d < 7) (h7 : 28 ≤ size) (h8 : size ≤ 31) (h9 : 1721426 ≤ noon) (h10 : noon < 8000000) (hn : noonOf y m = noon) (hl : lenOf y m = size) (hf : fwOf y m d = f) (hf1 : 1 ≤ f) (hf2 : f ≤ 7) (hfm : (noon + f - 1) % 7 = d) (hn1 : 4 ≤ n) (hn2 : n ≤ 5) (hn3 : f + 7 * (n - 1) ≤ size) (hn4 : size < f + 7 * n) (hy : DaysAre ys f n) : Seg w lawTurn (fun z => if z = Str.ofString "k" then some (.int k tk) else if z = Str.ofString "first" then some (.float x tx) else if z = Str.ofString "days" then some (.ref D) else if z = Str.ofString "size" then some (.int size t1) else if z = Str.ofString "past" then some vP else if z = Str.ofString "sizes" then some vS else if z = Str.ofString "long" then some vL else if z = Str.ofString "far" then some (.int far t2) else if z = Str.ofString "month" then some (.int m t3) else if z = Str.ofString "year" then some (.int y t4) else m0 z) [(I, oI), (D, LCg.lst ys)] h₀ L noon d (Next h₀ L (fun z => if z = Str.ofString "k" then some (.int k tk) else if z = Str.ofString "first" then some (.float x tx) else if z = Str.ofString "days" then some (.ref D) else if z = Str.ofString "size" then some (.int size t1) else if z = Str.ofString "past" then some vP else if z = Str.ofString "sizes" then some vS else if z = Str.ofString "long" then some vL else if z = Str.ofString "far" then some (.int far t2) else if z = Str.ofString "month" then some (.int m t3) else if z = Str.ofString "year" then some (.int y t4) else m0 z) [(I, oI), (D, LCg.lst ys)]) := by
  w_top off
  intro mean mg mb fa cd oN oW tN tW s Q B F X N T dN dW hQ
  have conc : ∀ b sc, b = lawTurn → sc = lawScope → wpAny (model PySem.Challenge.rw_bd5015_01.row.prog w) (callerA.deeper (lawEnv sc L fa cd)) (execs b (lawEnv sc L fa cd)) Q (fun _ _ => False) s := by
    intro b sc hb hs
    conv at hb => rhs; whnf
    conv at hs => rhs; whnf
    subst hb hs
    (try simp only [List.cons_append, List.nil_append] at N)
    k_steps
    exact hQ _ _ (by k_asm) (by dsimp only [List.cons_append, List.nil_append]; walk_at "claim news")
  exact conc _ _ rfl rfl
end Mine
end
section
open PySem PySem.W PySem.Calls PyProof.Rows PySem.Float64 PySem.Flt
namespace Mine
local macro_rules | `(tactic| ktr_room) => `(tactic| ((try simp only [depth_under_make, depth_under_kw, depth_in1, depth_deeper, depth_caller]); (try dsimp only [ktrTop]); omega))
local macro_rules | `(tactic| k_room) => `(tactic| ktr_room)
local macro_rules | `(tactic| ktr_units) => `(tactic| (have hcL9 := cLine_is; (try simp only [units_in1, units_deeper, Around.mark_units, units_caller]); (try dsimp only [ktrTop]); omega))
local macro_rules | `(tactic| walk_at "isH tac") => `(tactic| first | assumption | exact isH_half | exact isH_epoch)
local macro_rules | `(tactic| walk_at "binaryOp Add float float") => `(tactic| ((with_reducible show wpAny _ _ (binaryOp Operator.Add (Value.float _ _) (Value.float _ _)) _ _ _); refine' add_ff_H ?hx ?hy ?hb ?_; (case hx => walk_at "isH tac"); (case hy => walk_at "isH tac"); (case hb => omega); intro zF hF))
local macro_rules | `(tactic| walk_at "binaryOp Add float int") => `(tactic| ((with_reducible show wpAny _ _ (binaryOp Operator.Add (Value.float _ _) (Value.int _ _)) _ _ _); first
  | (refine' add_fi_H ?hx ?hn ?hb ?_; (case hx => walk_at "isH tac"); (case hn => omega); (case hb => omega); intro zF hF)
  | (refine' add_fi_raw ?hn ?_; (case hn => omega))))
local macro_rules | `(tactic| walk_at "binaryOp Sub float int") => `(tactic| ((with_reducible show wpAny _ _ (binaryOp Operator.Sub (Value.float _ _) (Value.int _ _)) _ _ _); refine' sub_fi_H ?hx ?hn ?hb ?_; (case hx => walk_at "isH tac"); (case hn => omega); (case hb => omega); intro zF hF))
local macro_rules | `(tactic| walk_at "inplaceOp Add int float") => `(tactic| ((with_reducible show wpAny _ _ (inplaceOp Operator.Add (Value.int _ _) (Value.float _ _)) _ _ _); refine' iadd_if_H ?hx ?hn ?hb ?_; (case hx => walk_at "isH tac"); (case hn => omega); (case hb => omega); intro zF hF))
local macro_rules | `(tactic| walk_at "binaryOp Mult int float") => `(tactic| ((with_reducible show wpAny _ _ (binaryOp Operator.Mult (Value.int 2 _) (Value.float _ _)) _ _ _); refine' mul_if_H ?hx ?hn ?hb ?_; (case hx => walk_at "isH tac"); (case hn => omega); (case hb => omega); intro zF hF))
local macro_rules | `(tactic| walk_at "binaryOp Div int int") => `(tactic| ((with_reducible show wpAny _ _ (binaryOp Operator.Div (Value.int _ _) (Value.int _ _)) _ _ _); refine' div_ii_q ?hA ?h0 ?h1 ?h2 ?h3 ?_; (case hA => with_unfolding_all rfl); (case h0 => omega); (case h1 => omega); (case h2 => omega); (case h3 => omega); intro zF eF hF))
local macro_rules | `(tactic| walk_at "call builtin:math.trunc") => `(tactic| ((with_reducible show wpAny _ _ (call _ [Value.float _ _]) _ _ _); refine' trunc_f_H ?hA ?hx ?h0 ?_; (case hA => with_unfolding_all rfl); (case hx => walk_at "isH tac"); (case h0 => omega)))
local macro_rules | `(tactic| walk_at "call builtin:math.floor") => `(tactic| ((with_reducible show wpAny _ _ (call _ [Value.float _ _]) _ _ _); refine' floor_f_q ?hA ?hx ?_; (case hA => with_unfolding_all rfl); (case hx => first | assumption | exact month_q (by omega) (by omega) (by omega) (by assumption))))
local macro_rules | `(tactic| walk_at "call type:int") => `(tactic| ((with_reducible show wpAny _ _ (call _ [Value.float _ _]) _ _ _); refine' int_f_H ?hA ?hx ?h0 ?_; (case hA => with_unfolding_all rfl); (case hx => walk_at "isH tac"); (case h0 => omega)))
local macro_rules | `(tactic| walk_at "compareOp NotEq float float") => `(tactic| ((with_reducible show wpAny _ _ (compareOp CmpOp.NotEq (Value.float _ _) (Value.float _ _)) _ _ _); refine' ne_ff_H ?hx ?hy ?_; (case hx => walk_at "isH tac"); (case hy => walk_at "isH tac")))
local macro_rules | `(tactic| walk_at "prune ite") => `(tactic| (simp only [decide_eq_true_eq, beq_iff_eq, bne_iff_ne, ne_eq, Bool.not_eq_true', decide_eq_false_iff_not, fdiv2]; omega))
local macro_rules | `(tactic| walk_at "ite") => `(tactic| first | (refine' ite_neg ?hc ?_; (case hc => walk_at "prune ite")) | (refine' ite_pos ?hc ?_; (case hc => walk_at "prune ite")))
local macro_rules | `(tactic| walk_at "claim ends") => `(tactic| (
  (case k1 => first | k_asm | fail "claim: below") ; (case k2 => first | k_asm | fail "claim: frame"); (case k3 => first | k_asm | fail "claim: part"); (case k4 => first | k_asm | fail "claim: ledger"); (case k5 => first | k_asm | fail "claim: top")
  (case kK => first | exact rfl | assumption | fail "claim: kind")
  (case kd => first | ktr_room | fail "claim: room")
  (case ku => first | ktr_units | fail "claim: units")))
local macro_rules | `(tactic| walk_at "claim news") => `(tactic| first | k_asm | (refine' cb_drop ?cbN ?cbS; (case cbN => assumption); (case cbS => kcj_all)))
local macro_rules | `(tactic| walk_at "call builtin:len") => `(tactic| (k_here; (with_reducible show wpAny _ _ (call _ [Value.ref _]) _ _ _); k_dflt (refine' day_len ?N ?m ?hy ?h2 ?_; (case N => k_asm); (case m => k_mem); (case hy => assumption); (case h2 => omega)); intro t9 tk9))
local macro_rules | `(tactic| walk_at "call ref") => `(tactic| (k_here; (with_reducible show wpAny _ _ (call (Value.ref 504) [Value.int _ _, Value.int _ _, Value.int _ _, Value.int _ _]) _ _ _); k_dflt (
  refine' ref_n_ok _ _ _ _ _ _ _ _ _ ?pa ?pb ?pc _ _ _ _ _ _ _ _ _ _ _ _ _ _ _ _ _ _ _ ?k1 ?k2 ?k3 ?k4 ?k5 ?kK ?kd ?ku ?_
  (case pa => omega); (case pb => omega); (case pc => omega); walk_at "claim ends"
  unfold RetBool
  intro t9 h9 tk9 F9 N9
  (try dsimp only); (try k_fold))))
local macro_rules | `(tactic| walk_at "call ref") => `(tactic| (k_here; (with_reducible show wpAny _ _ (call (Value.ref 504) [Value.int 1 _, Value.int _ _, Value.int _ _, Value.int _ _]) _ _ _); k_dflt (
  refine' ref_w_ok _ _ _ _ _ _ _ _ ?pa _ _ _ _ _ _ _ _ _ _ _ _ _ _ _ _ _ _ _ ?k1 ?k2 ?k3 ?k4 ?k5 ?kK ?kd ?ku ?_
  (case pa => omega); walk_at "claim ends"
  unfold RetBool
  intro t9 h9 tk9 F9 N9
  (try dsimp only); (try k_fold))))
local macro_rules | `(tactic| walk_at "call ref") => `(tactic| (k_here; (with_reducible show wpAny _ _ (call (Value.ref 504) [Value.int 5 _, Value.int _ _, Value.int _ _, Value.int _ _]) _ _ _); k_dflt (
  refine' ref_5_ok _ _ _ _ _ _ _ _ ?pa ?pb ?pc ?pd ?pe ?pf ?pg _ _ _ _ _ _ _ _ _ _ _ _ _ _ _ _ _ _ _ ?k1 ?k2 ?k3 ?k4 ?k5 ?kK ?kd ?ku ?_
  (case pa => omega); (case pb => omega); (case pc => omega); (case pd => omega); (case pe => omega); (case pf => omega); (case pg => omega); walk_at "claim ends"
  unfold RetBool
  intro t9 h9 tk9 F9 N9
  (try dsimp only); (try k_fold))))
theorem law_16 (w : World) (h₀ : Heap) (L : Addr) (x : UInt64) (tx : Tok) (vC vK : Option Value) (D : Addr) (y m d noon size far f n : Int) (ys : List Value) (t1 t2 t3 t4 : Tok) (vP vS vL : Value) (m0 : Str → Option Value) (hg1 : 0 ≤ far) (hg2 : far < 1000000) (h1 : 1 ≤ y) (h2 : y ≤ 9000) (h3 : 1 ≤ m) (h4 : m ≤ 12) (h5 : 0 ≤ d) (h6 : d < 7) (h7 : 28 ≤ size) (h8 : size ≤ 31) (h9 : 1721426 ≤ noon) (h10 : noon < 8000000) (hn : noonOf y m = noon) (hl : lenOf y m = size) (hf : fwOf y m d = f) (hf1 : 1 ≤ f) (hf2 : f ≤ 7) (hfm : (noon + f - 1) % 7 = d) (hn1 : 4 ≤ n) (hn2 : n ≤ 5) (hn3 : f + 7 * (n - 1) ≤ size) (hn4 : size < f + 7 * n) (hy : DaysAre ys f n) : Seg w (lawBody.drop 16) (fun z => if z = Str.ofString "column" then vC else if z = Str.ofString "k" then vK else if z = Str.ofString "first" then some (.float x tx) else if z = Str.ofString "days" then some (.ref D) else if z = Str.ofString "size" then some (.int size t1) else if z = Str.ofString "past" then some vP else if z = Str.ofString "sizes" then some vS else if z = Str.ofString "long" then some vL else if z = Str.ofString "far" then some (.int far t2) else if z = Str.ofString "month" then some (.int m t3) else if z = Str.ofString "year" then some (.int y t4) else m0 z) [(D, LCg.lst ys)] h₀ L noon d (Done h₀ L) := by
  w_top off
  intro mean mg mb fa cd oN oW tN tW s Q B F X N T dN dW hQ
  have conc : ∀ b sc, b = (lawBody.drop 16) → sc = lawScope → wpAny (model PySem.Challenge.rw_bd5015_01.row.prog w) (callerA.deeper (lawEnv sc L fa cd)) (execs b (lawEnv sc L fa cd)) Q (fun _ _ => False) s := by
    intro b sc hb hs
    conv at hb => rhs; whnf
    conv at hs => rhs; whnf
    subst hb hs
    (try simp only [List.cons_append, List.nil_append] at N)
    k_steps
    all_goals exact hQ _ _ _ (by k_asm)
  exact conc _ _ rfl rfl
end Mine
end
section
open PySem PySem.W PySem.Calls PyProof.Rows PySem.Float64 PySem.Flt
namespace Mine
local macro_rules | `(tactic| walk_at "none") => `(tactic| skip)
def OptsAre (cs : List Value) (os : List (Option Int)) : Prop := cs.length = os.length ∧ ∀ (i : Nat) v, cs[i]? = some v → (v = .none ∧ os[i]? = some none) ∨ ∃ j t, v = .int j t ∧ os[i]? = some (some j)
section
open LCg LCt
variable {prog : Program} {w : World} {A : Around} {s : Shared} {h₀ : Heap} {L : Addr} {m : Str → Option Value} {env : Env}
theorem filt {ct elt : Expr} {x : Str} {scope : Scope} {cl : List (Str × Addr)} {S : List (Addr × Obj) → Prop} {cs : List Value} {os : List (Option Int)} {Fin : List Value → List (Addr × Obj) → Prop} {news : List (Addr × Obj)} (hcs : OptsAre cs os)
    (turnN : ∀ I oI C oC D m₂ ys h tk (E' : Value → Shared → Prop), NsObj oC m₂ → m₂ x = some .none → Fr h₀ L h m → News h₀ L h ((I, oI) :: (C, oC) :: (D, lst ys) :: news) → Off3 I C D news → ((@Ne Nat I C) ∧ (@Ne Nat I D) ∧ (@Ne Nat C D)) →
      wpAny (model prog w) A (isTrue ct (compEnvC scope cl C env) (eval ct (compEnvC scope cl C env))) (fun ok s' => ok = false ∧ CompEnd h₀ L m { s with heap := h, toks := tk } I oI C oC D (lst ys) S (fun _ news' => news' = news) Value.none s') E' { s with heap := h, toks := tk })
    (turnI : ∀ j t I oI C oC D m₂ ys h tk (E' : Value → Shared → Prop), NsObj oC m₂ → m₂ x = some (.int j t) → Fr h₀ L h m → News h₀ L h ((I, oI) :: (C, oC) :: (D, lst ys) :: news) → Off3 I C D news → ((@Ne Nat I C) ∧ (@Ne Nat I D) ∧ (@Ne Nat C D)) →
      wpAny (model prog w) A (isTrue ct (compEnvC scope cl C env) (eval ct (compEnvC scope cl C env))) (fun ok s' => ok = true ∧ wpAny (model prog w) A (eval elt (compEnvC scope cl C env)) (CompEnd h₀ L m { s with heap := h, toks := tk } I oI C oC D (lst ys) S (fun y news' => news' = news ∧ ∃ t', y = .int j t')) E' s') E' { s with heap := h, toks := tk })
    (fin : ∀ zs, IntsAre zs (os.filterMap id) → Fin zs news) :
    CompRestT prog w A h₀ L m env ct elt x scope cl s S (fun i v => cs.toArray[i]? = some v) Fin cs.toArray.size 0 [] news := by
  have key : ∀ (j i : Nat) (ys : List Value), i + j = cs.toArray.size → IntsAre ys ((os.take i).filterMap id) → CompRestT prog w A h₀ L m env ct elt x scope cl s S (fun i v => cs.toArray[i]? = some v) Fin j i ys news := by
    intro j
    induction j with
    | zero =>
      intro i ys hi hy
      refine CompRestT.zero (fin ys ?_)
      rw [List.take_of_length_le (by rw [← hcs.1]; simp at hi; omega)] at hy
      exact hy
    | succ j ih =>
      intro i ys hi hy
      refine CompRestT.succ fun v I oI C oC D m₂ h tk E' hv hC hx F N off ne => ?_
      have hv' : cs[i]? = some v := by simpa using hv
      rcases hcs.2 i v hv' with ⟨rfl, ho⟩ | ⟨k, t, rfl, ho⟩
      · refine wpAny_mono (turnN I oI C oC D m₂ ys h tk E' hC hx F N off ne) (fun b s₂ hq => ?_) fun _ _ e => e
        obtain ⟨rfl, h', tk', nw, e, F', N', off', hS, hn⟩ := hq
        subst hn
        rw [if_neg (by decide)]
        refine ⟨h', tk', nw, e, F', N', off', hS, ih (i + 1) ys (by omega) ?_⟩
        rw [List.take_add_one, ho]
        simpa using hy
      · refine wpAny_mono (turnI k t I oI C oC D m₂ ys h tk E' hC hx F N off ne) (fun b s₂ hq => ?_) fun _ _ e => e
        obtain ⟨rfl, hq⟩ := hq
        rw [if_pos rfl]
        refine wpAny_mono hq (fun y s₃ hr => ?_) fun _ _ e => e
        obtain ⟨h', tk', nw, e, F', N', off', hS, hn, t', hy'⟩ := hr
        subst hn
        subst hy'
        refine ⟨h', tk', nw, e, F', N', off', hS, ih (i + 1) _ (by omega) ?_⟩
        rw [List.take_add_one, ho]
        simpa using IntsAre.append hy (.cons k t' .nil)
  exact key _ 0 [] (by omega) .nil
end
def Stop9 (P : Prop) : Prop := P
theorem stop9 {P : Prop} (h : Stop9 P) : P := h
local macro_rules | `(tactic| ktr_room) => `(tactic| ((try simp only [depth_under_make, depth_under_kw, depth_in1, depth_deeper, depth_caller]); (try dsimp only [ktrTop]); omega))
local macro_rules | `(tactic| k_room) => `(tactic| ktr_room)
local macro_rules | `(tactic| ktr_units) => `(tactic| (have hcL9 := cLine_is; (try simp only [units_in1, units_deeper, Around.mark_units, units_caller]); (try dsimp only [ktrTop]); omega))
local macro_rules | `(tactic| walk_at "isH tac") => `(tactic| first | assumption | exact isH_half | exact isH_epoch)
local macro_rules | `(tactic| walk_at "binaryOp Add float float") => `(tactic| ((with_reducible show wpAny _ _ (binaryOp Operator.Add (Value.float _ _) (Value.float _ _)) _ _ _); refine' add_ff_H ?hx ?hy ?hb ?_; (case hx => walk_at "isH tac"); (case hy => walk_at "isH tac"); (case hb => omega); intro zF hF))
local macro_rules | `(tactic| walk_at "binaryOp Add float int") => `(tactic| ((with_reducible show wpAny _ _ (binaryOp Operator.Add (Value.float _ _) (Value.int _ _)) _ _ _); first
  | (refine' add_fi_H ?hx ?hn ?hb ?_; (case hx => walk_at "isH tac"); (case hn => omega); (case hb => omega); intro zF hF)
  | (refine' add_fi_raw ?hn ?_; (case hn => omega))))
local macro_rules | `(tactic| walk_at "binaryOp Sub float int") => `(tactic| ((with_reducible show wpAny _ _ (binaryOp Operator.Sub (Value.float _ _) (Value.int _ _)) _ _ _); refine' sub_fi_H ?hx ?hn ?hb ?_; (case hx => walk_at "isH tac"); (case hn => omega); (case hb => omega); intro zF hF))
local macro_rules | `(tactic| walk_at "inplaceOp Add int float") => `(tactic| ((with_reducible show wpAny _ _ (inplaceOp Operator.Add (Value.int _ _) (Value.float _ _)) _ _ _); refine' iadd_if_H ?hx ?hn ?hb ?_; (case hx => walk_at "isH tac"); (case hn => omega); (case hb => omega); intro zF hF))
local macro_rules | `(tactic| walk_at "binaryOp Mult int float") => `(tactic| ((with_reducible show wpAny _ _ (binaryOp Operator.Mult (Value.int 2 _) (Value.float _ _)) _ _ _); refine' mul_if_H ?hx ?hn ?hb ?_; (case hx => walk_at "isH tac"); (case hn => omega); (case hb => omega); intro zF hF))
local macro_rules | `(tactic| walk_at "binaryOp Div int int") => `(tactic| ((with_reducible show wpAny _ _ (binaryOp Operator.Div (Value.int _ _) (Value.int _ _)) _ _ _); refine' div_ii_q ?hA ?h0 ?h1 ?h2 ?h3 ?_; (case hA => with_unfolding_all rfl); (case h0 => omega); (case h1 => omega); (case h2 => omega); (case h3 => omega); intro zF eF hF))
local macro_rules | `(tactic| walk_at "call builtin:math.trunc") => `(tactic| ((with_reducible show wpAny _ _ (call _ [Value.float _ _]) _ _ _); refine' trunc_f_H ?hA ?hx ?h0 ?_; (case hA => with_unfolding_all rfl); (case hx => walk_at "isH tac"); (case h0 => omega)))
local macro_rules | `(tactic| walk_at "call builtin:math.floor") => `(tactic| ((with_reducible show wpAny _ _ (call _ [Value.float _ _]) _ _ _); refine' floor_f_q ?hA ?hx ?_; (case hA => with_unfolding_all rfl); (case hx => first | assumption | exact month_q (by omega) (by omega) (by omega) (by assumption))))
local macro_rules | `(tactic| walk_at "call type:int") => `(tactic| ((with_reducible show wpAny _ _ (call _ [Value.float _ _]) _ _ _); refine' int_f_H ?hA ?hx ?h0 ?_; (case hA => with_unfolding_all rfl); (case hx => walk_at "isH tac"); (case h0 => omega)))
local macro_rules | `(tactic| walk_at "compareOp NotEq float float") => `(tactic| ((with_reducible show wpAny _ _ (compareOp CmpOp.NotEq (Value.float _ _) (Value.float _ _)) _ _ _); refine' ne_ff_H ?hx ?hy ?_; (case hx => walk_at "isH tac"); (case hy => walk_at "isH tac")))
local macro_rules | `(tactic| walk_at "prune ite") => `(tactic| (simp only [decide_eq_true_eq, beq_iff_eq, bne_iff_ne, ne_eq, Bool.not_eq_true', decide_eq_false_iff_not, fdiv2]; omega))
local macro_rules | `(tactic| walk_at "ite") => `(tactic| first | (refine' ite_neg ?hc ?_; (case hc => walk_at "prune ite")) | (refine' ite_pos ?hc ?_; (case hc => walk_at "prune ite")))
local macro_rules | `(tactic| walk_at "claim ends") => `(tactic| (
  (case k1 => first | k_asm | fail "claim: below") ; (case k2 => first | k_asm | fail "claim: frame"); (case k3 => first | k_asm | fail "claim: part"); (case k4 => first | k_asm | fail "claim: ledger"); (case k5 => first | k_asm | fail "claim: top")
  (case kK => first | exact rfl | assumption | fail "claim: kind")
  (case kd => first | ktr_room | fail "claim: room")
  (case ku => first | ktr_units | fail "claim: units")))
local macro_rules | `(tactic| walk_at "claim news") => `(tactic| first | k_asm | (refine' cb_drop ?cbN ?cbS; (case cbN => assumption); (case cbS => kcj_all)))
local macro_rules | `(tactic| walk_at "call builtin:len") => `(tactic| (k_here; (with_reducible show wpAny _ _ (call _ [Value.ref _]) _ _ _); k_dflt (refine' day_len ?N ?m ?hy ?h2 ?_; (case N => k_asm); (case m => k_mem); (case hy => assumption); (case h2 => omega)); intro t9 tk9))
local macro_rules | `(tactic| walk_at "eval ListComp") => `(tactic| (k_here; k_dflt (refine LCt.ListComp_T (F₀ := by k_asm) (by with_unfolding_all rfl) (by decide) (by rfl) (by decide) (by rfl) ?_)))
local macro_rules | `(tactic| walk_at "CompSrcT") => `(tactic| (k_here; refine stop9 ?_))
local macro_rules | `(tactic| walk_at "execs cons") => `(tactic| ((with_reducible show wpAny _ _ (execs (Stmt.If (Expr.BoolOp _ _ _) _ _ _ :: _) _) _ _ _); refine stop9 ?_))
theorem law_15 (w : World) (h₀ : Heap) (L : Addr) (x : UInt64) (tx : Tok) (vK : Option Value) (C : Addr) (cs : List Value) (os : List (Option Int)) (ns : List Int) (D : Addr) (y m d noon size far f n : Int) (ys : List Value) (t1 t2 t3 t4 : Tok) (vP vS vL : Value) (m0 : Str → Option Value) (hcs : OptsAre cs os) (hos : os.filterMap id = ns) (hns : IntsAre ys ns) (hcl : cs.length ≤ 10) (hg1 : 0 ≤ far) (hg2 : far < 1000000) (h1 : 1 ≤ y) (h2 : y ≤ 9000) (h3 : 1 ≤ m) (h4 : m ≤ 12) (h5 : 0 ≤ d) (h6 : d < 7) (h7 : 28 ≤ size) (h8 : size ≤ 31) (h9 : 1721426 ≤ noon) (h10 : noon < 8000000) (hn : noonOf y m = noon) (hl : lenOf y m = size) (hf : fwOf y m d = f) (hf1 : 1 ≤ f) (hf2 : f ≤ 7) (hfm : (noon + f - 1) % 7 = d) (hn1 : 4 ≤ n) (hn2 : n ≤ 5) (hn3 : f + 7 * (n - 1) ≤ size) (hn4 : size < f + 7 * n) (hy : DaysAre ys f n) : Seg w (lawBody.drop 15) (fun z => if z = Str.ofString "column" then some (.ref C) else if z = Str.ofString "k" then vK else if z = Str.ofString "first" then some (.float x tx) else if z = Str.ofString "days" then some (.ref D) else if z = Str.ofString "size" then some (.int size t1) else if z = Str.ofString "past" then some vP else if z = Str.ofString "sizes" then some vS else if z = Str.ofString "long" then some vL else if z = Str.ofString "far" then some (.int far t2) else if z = Str.ofString "month" then some (.int m t3) else if z = Str.ofString "year" then some (.int y t4) else m0 z) [(C, LCg.lst cs), (D, LCg.lst ys)] h₀ L noon d (Done h₀ L) := by
  w_top off
  intro mean mg mb fa cd oN oW tN tW s Q B F X N T dN dW hQ
  have conc : ∀ b sc, b = (lawBody.drop 15) → sc = lawScope → wpAny (model PySem.Challenge.rw_bd5015_01.row.prog w) (callerA.deeper (lawEnv sc L fa cd)) (execs b (lawEnv sc L fa cd)) Q (fun _ _ => False) s := by
    intro b sc hb hs
    conv at hb => rhs; whnf
    conv at hs => rhs; whnf
    subst hb hs
    (try simp only [List.cons_append, List.nil_append] at N)
    k_steps
    unfold Stop9
    refine LCt.CompSrcT.ledger (k := cs.length) rfl (by k_asm) (by k_asm) (.head _) (by rw [PySem.sizeLine_eq, List.size_toArray]; omega) fun g => ?_
    refine filt hcs ?_ ?_ ?_
    · intro I oI C' oC D' m₂ ys' h tk E' hC hx F2 N2 off ne
      (try simp only [LCg.Off3, and_true] at off)
      k_steps
    · intro j t I oI C' oC D' m₂ ys' h tk E' hC hx F2 N2 off ne
      (try simp only [LCg.Off3, and_true] at off)
      k_steps
    · intro zs hz D2 h tk F2 N2 o1
      rw [hos] at hz
      k_steps
      unfold Stop9
      exact law_16 w h₀ L x tx (some (.ref C)) vK D y m d noon size far f n ys t1 t2 t3 t4 vP vS vL m0 hg1 hg2 h1 h2 h3 h4 h5 h6 h7 h8 h9 h10 hn hl hf hf1 hf2 hfm hn1 hn2 hn3 hn4 hy mean mg mb fa cd oN oW tN tW _ Q B (by k_asm) X (by dsimp only [List.cons_append, List.nil_append]; walk_at "claim news") T dN dW hQ
  exact conc _ _ rfl rfl
end Mine
end
section
open PySem PySem.W PySem.Calls PyProof.Rows PySem.Float64 PySem.Flt
namespace Mine
def Col7 (h₀ : Heap) (L : Addr) (m : Str → Option Value) (s₁ : Shared) (row : List Value) (c : Nat) (news : List (Addr × Obj)) (y : Value) (s₂ : Shared) : Prop :=
  ∃ h' tk', s₂ = { s₁ with heap := h', toks := tk' } ∧ Fr h₀ L h' m ∧ News h₀ L h' news ∧ row[c]? = some y
section
open LCg
variable {prog : Program} {w : World} {A : Around} {E : Value → Shared → Prop} {s : Shared} {h₀ : Heap} {L : Addr} {m : Str → Option Value} {env : Env}
theorem row_item {value slice : Expr} {D : Addr} {row : List Value} {k : Int} {u : Tok} {news : List (Addr × Obj)} {Q : Value → Shared → Prop} (N : News h₀ L s.heap news) (hm : (D, W.listOf row.toArray 0) ∈ news)
    (h0 : 0 ≤ k) (h1 : k < 7) (h2 : row.length = 7) (h : ∀ y, row[k.toNat]? = some y → Q y s)
    (hs : subscripted slice false (.ref D) (.int k u) = operate [.ref D, .int k u] (getItem (.ref D) (.int k u))) :
    wpAny (model prog w) A (subscriptTail value slice (.ref D) (.int k u)) Q E s := by
  have hL := News.isList N hm
  have hlt : k.toNat < row.length := by omega
  exact tail_any hL.typeIs slot_list_getitem.lookup (wpAny_getItem_list hL h0 (by omega) (x := row[k.toNat]) (by simp) (h _ (List.getElem?_eq_getElem hlt))) hs
theorem row_len {all : List Value} {j : Nat} (h : 7 * j + 7 ≤ all.length) : (rowOf all j).length = 7 := by
  unfold rowOf
  rw [List.length_take, List.length_drop]
  omega
theorem col_rest {elt : Expr} {x : Str} {scope : Scope} {cl : List (Str × Addr)} {ax a b : Addr} {oa ob : Obj} {rs : List Addr} {cells news : List (Addr × Obj)} {all : List Value} {n c : Nat} {Fin : List Value → List (Addr × Obj) → Prop}
    (hrs : RowsAre all n rs cells) (hax : (ax, lst (rs.map .ref)) ∈ news) (hsub : ∀ p ∈ cells, p ∈ news) (ha : (a, oa) ∈ news) (hb : (b, ob) ∈ news)
    (turn : ∀ (j : Nat) r I oI C oC D ys m₂ h tk (E' : Value → Shared → Prop), j < n → NsObj oC m₂ → m₂ x = some (.ref r) → Fr h₀ L h m → News h₀ L h ((I, oI) :: (C, oC) :: (D, lst ys) :: (r, W.listOf (rowOf all j).toArray 0) :: (a, oa) :: (b, ob) :: news) →
      wpAny (model prog w) A (eval elt (compEnvC scope cl C env)) (Col7 h₀ L m { s with heap := h, toks := tk } (rowOf all j) c ((I, oI) :: (C, oC) :: (D, lst ys) :: (r, W.listOf (rowOf all j).toArray 0) :: (a, oa) :: (b, ob) :: news)) E' { s with heap := h, toks := tk })
    (fin : ∀ cs : List Value, cs.length = n → (∀ j, j < n → cs[j]? = (rowOf all j)[c]?) → Fin cs news) :
    CompRest prog w A h₀ L m env elt x scope cl s (SrcAt h₀ ax (rs.map .ref).toArray) (fun i v => (rs.map Value.ref).toArray[i]? = some v) Fin (rs.map Value.ref).toArray.size 0 [] news := by
  have hn : (rs.map Value.ref).toArray.size = n := by rw [List.size_toArray, List.length_map, hrs.1]
  have key : ∀ (j i : Nat) (cs : List Value), i + j = n → cs.length = i → (∀ k, k < i → cs[k]? = (rowOf all k)[c]?) → CompRest prog w A h₀ L m env elt x scope cl s (SrcAt h₀ ax (rs.map .ref).toArray) (fun i v => (rs.map Value.ref).toArray[i]? = some v) Fin j i cs news := by
    intro j
    induction j with
    | zero =>
      intro i cs hi hl hc
      have e : i = n := by omega
      subst e
      exact CompRest.zero (fin cs hl hc)
    | succ j ih =>
      intro i cs hi hl hc
      refine CompRest.succ fun v I oI C oC D m₂ h tk E' hv hC hx F' N' off ne => ?_
      obtain ⟨r, hr, hmem⟩ := hrs.2 i (by omega)
      have hv' : v = .ref r := by
        have q : (rs.map Value.ref)[i]? = some v := by simpa using hv
        rw [List.getElem?_map, hr] at q
        exact (Option.some.inj q).symm
      subst hv'
      have N2 : News h₀ L h ((I, oI) :: (C, oC) :: (D, lst cs) :: (r, W.listOf (rowOf all i).toArray 0) :: (a, oa) :: (b, ob) :: news) := fun p hp => N' p (by
        rcases List.mem_cons.mp hp with rfl | hp
        · exact .head _
        rcases List.mem_cons.mp hp with rfl | hp
        · exact .tail _ (.head _)
        rcases List.mem_cons.mp hp with rfl | hp
        · exact .tail _ (.tail _ (.head _))
        refine .tail _ (.tail _ (.tail _ ?_))
        rcases List.mem_cons.mp hp with rfl | hp
        · exact hsub _ hmem
        rcases List.mem_cons.mp hp with rfl | hp
        · exact ha
        rcases List.mem_cons.mp hp with rfl | hp
        · exact hb
        exact hp)
      refine wpAny_mono (turn i r I oI C oC D cs m₂ h tk E' (by omega) hC hx F' N2) (fun y s₂ hq => ?_) fun _ _ e => e
      obtain ⟨h', tk', rfl, F3, N3, hy⟩ := hq
      refine CompEnd.intro F3 N3 news (fun p hp => ?_) off (.inr ⟨_, hax, rfl, _, rfl⟩) (ih (i + 1) _ (by omega) (by rw [List.length_append, hl]; rfl) fun k hk => ?_)
      · rcases List.mem_cons.mp hp with rfl | hp
        · exact .head _
        rcases List.mem_cons.mp hp with rfl | hp
        · exact .tail _ (.head _)
        rcases List.mem_cons.mp hp with rfl | hp
        · exact .tail _ (.tail _ (.head _))
        exact .tail _ (.tail _ (.tail _ (.tail _ (.tail _ (.tail _ hp)))))
      · by_cases e : k = i
        · subst e
          rw [List.getElem?_append_right (by omega), hl, Nat.sub_self, hy]
          rfl
        · rw [List.getElem?_append_left (by omega)]
          exact hc k (by omega)
  rw [hn]
  exact key n 0 [] (by omega) rfl fun k hk => absurd hk (Nat.not_lt_zero _)
end
def daysNs (f size : Int) : List Int := (List.range (if f + 28 ≤ size then 5 else 4)).map fun (j : Nat) => f + 7 * (j : Int)
def cellOf (lp ml i : Int) : Option Int := if lp ≤ i ∧ i < lp + ml then some (i - lp + 1) else none
def colOpts (lp ml : Int) (n c : Nat) : List (Option Int) := (List.range n).map fun (j : Nat) => cellOf lp ml (7 * (j : Int) + (c : Int))
theorem col_small : ∀ a : Fin 7, ∀ d : Fin 7, ∀ z : Fin 4, (colOpts ((((a : Nat) : Int) + 1) % 7) (28 + ((z : Nat) : Int)) ((((((a : Nat) : Int) + 1) % 7) + (28 + ((z : Nat) : Int)) + 6) / 7).toNat ((((d : Nat) : Int) + 1) % 7).toNat).filterMap id = daysNs (1 + (((d : Nat) : Int) - ((a : Nat) : Int)) % 7) (28 + ((z : Nat) : Int)) := by decide +kernel
theorem days_small : ∀ a : Fin 7, ∀ d : Fin 7, ∀ z : Fin 4, ((rangeKs 1 (28 + (z : Nat))).foldl (fun l k => if (((a : Nat) : Int) + k - 1) % 7 = ((d : Nat) : Int) then l ++ [k] else l) []) = daysNs (1 + (((d : Nat) : Int) - ((a : Nat) : Int)) % 7) (28 + ((z : Nat) : Int)) := by decide +kernel
theorem f_is {noon d f : Int} (h5 : 0 ≤ d) (h6 : d < 7) (hf1 : 1 ≤ f) (hf2 : f ≤ 7) (hfm : (noon + f - 1) % 7 = d) : f = 1 + (d - noon % 7) % 7 := by omega
theorem col_days {noon d f size : Int} (h5 : 0 ≤ d) (h6 : d < 7) (h7 : 28 ≤ size) (h8 : size ≤ 31) (hf1 : 1 ≤ f) (hf2 : f ≤ 7) (hfm : (noon + f - 1) % 7 = d) :
    (colOpts ((noon + 1) % 7) size ((((noon + 1) % 7) + size + 6) / 7).toNat ((d + 1) % 7).toNat).filterMap id = daysNs f size := by
  have e1 : (noon + 1) % 7 = (noon % 7 + 1) % 7 := by omega
  rw [e1, f_is h5 h6 hf1 hf2 hfm]
  have ha : 0 ≤ noon % 7 ∧ noon % 7 < 7 := by omega
  generalize noon % 7 = a at ha
  have := col_small ⟨a.toNat, by omega⟩ ⟨d.toNat, by omega⟩ ⟨(size - 28).toNat, by omega⟩
  simp only at this
  rw [Int.toNat_of_nonneg ha.1, Int.toNat_of_nonneg h5, Int.toNat_of_nonneg (by omega : 0 ≤ size - 28), show 28 + (size - 28) = size by omega] at this
  exact this
theorem days_fold {noon d f size : Int} (h5 : 0 ≤ d) (h6 : d < 7) (h7 : 28 ≤ size) (h8 : size ≤ 31) (hf1 : 1 ≤ f) (hf2 : f ≤ 7) (hfm : (noon + f - 1) % 7 = d) :
    (rangeKs 1 (size + 1 - 1).toNat).foldl (fun l' k' => if (noon + k' - 1).fmod 7 = d then l' ++ [k'] else l') [] = daysNs f size := by
  have e1 : (fun (l' : List Int) (k' : Int) => if (noon + k' - 1).fmod 7 = d then l' ++ [k'] else l') = fun l' k' => if (noon % 7 + k' - 1) % 7 = d then l' ++ [k'] else l' := by
    funext l' k'
    rw [fmod7, show (noon + k' - 1) % 7 = (noon % 7 + k' - 1) % 7 by omega]
  rw [e1, f_is h5 h6 hf1 hf2 hfm]
  have ha : 0 ≤ noon % 7 ∧ noon % 7 < 7 := by omega
  generalize noon % 7 = a at ha
  have := days_small ⟨a.toNat, by omega⟩ ⟨d.toNat, by omega⟩ ⟨(size - 28).toNat, by omega⟩
  simp only at this
  rw [Int.toNat_of_nonneg ha.1, Int.toNat_of_nonneg h5, show ((size - 28).toNat : Int) = size - 28 by omega, show 28 + (size - 28) = size by omega, show 28 + (size - 28).toNat = (size + 1 - 1).toNat by omega] at this
  exact this
theorem days_are {ys : List Value} {f size : Int} (h : IntsAre ys (daysNs f size)) : DaysAre ys f (if f + 28 ≤ size then 5 else 4) := by
  have hl : (ys.length : Int) = if f + 28 ≤ size then 5 else 4 := by
    rw [h.length, daysNs, List.length_map, List.length_range]
    split <;> rfl
  refine ⟨hl, fun j h0 h1 => ?_⟩
  refine h.get j.toNat (f + 7 * j) ?_
  unfold daysNs
  rw [List.getElem?_map, List.getElem?_range (by split <;> split at h1 <;> omega)]
  show some (f + 7 * (j.toNat : Int)) = _
  rw [Int.toNat_of_nonneg h0]
theorem pad_at {lp ml : Int} {us : List Value} (hus : IntsAre us (rangeKs 1 ml.toNat)) (h0 : 0 ≤ lp) (hm : 0 ≤ ml) {i : Nat} {v : Value} (hv : (padded lp us)[i]? = some v) : (v = .none ∧ cellOf lp ml i = none) ∨ ∃ j t, v = .int j t ∧ cellOf lp ml i = some j := by
  unfold padded at hv
  have hlen : us.length = ml.toNat := range_len hus
  unfold cellOf
  by_cases h1 : (i : Int) < lp
  · left
    rw [List.append_assoc, List.getElem?_append_left (by rw [List.length_replicate]; omega), List.getElem?_replicate, if_pos (by omega)] at hv
    exact ⟨(Option.some.inj hv).symm, if_neg (by omega)⟩
  · rw [List.append_assoc, List.getElem?_append_right (by rw [List.length_replicate]; omega), List.length_replicate] at hv
    by_cases h2 : (i : Int) < lp + ml
    · right
      rw [List.getElem?_append_left (by omega)] at hv
      obtain ⟨t, ht⟩ := hus.get (i - lp.toNat) ((i : Int) - lp + 1) (by
        unfold rangeKs
        rw [List.getElem?_map, List.getElem?_range (by omega)]
        show some (1 + ((i - lp.toNat : Nat) : Int)) = _
        congr 1
        omega)
      rw [ht] at hv
      exact ⟨_, t, (Option.some.inj hv).symm, if_pos (by omega)⟩
    · left
      rw [List.getElem?_append_right (by omega), List.getElem?_replicate] at hv
      refine ⟨?_, if_neg (by omega)⟩
      split at hv
      · exact (Option.some.inj hv).symm
      · cases hv
theorem pad_len {lp ml : Int} {us : List Value} (hus : IntsAre us (rangeKs 1 ml.toNat)) : (padded lp us).length = lp.toNat + ml.toNat + 7 := by
  have hl := range_len hus
  unfold padded
  simp only [List.length_append, List.length_replicate, hl]
theorem col_opts {lp ml : Int} {us cs : List Value} {n c : Nat} (hus : IntsAre us (rangeKs 1 ml.toNat)) (h0 : 0 ≤ lp) (hm : 0 ≤ ml) (hc : c < 7) (hl : cs.length = n) (hcs : ∀ j, j < n → cs[j]? = (rowOf (padded lp us) j)[c]?) : OptsAre cs (colOpts lp ml n c) := by
  refine ⟨by rw [hl, colOpts, List.length_map, List.length_range], fun i v hv => ?_⟩
  have hi : i < n := by
    rw [← hl]
    exact (List.getElem?_eq_some_iff.mp hv).1
  rw [hcs i hi, rowOf, List.getElem?_take_of_lt hc, List.getElem?_drop] at hv
  have e : (colOpts lp ml n c)[i]? = some (cellOf lp ml ((7 * i + c : Nat) : Int)) := by
    unfold colOpts
    rw [List.getElem?_map, List.getElem?_range hi]
    show some (cellOf lp ml (7 * (i : Int) + (c : Int))) = _
    congr 2
  rw [e]
  rcases pad_at hus h0 hm hv with ⟨a, b⟩ | ⟨j, t, a, b⟩
  · exact .inl ⟨a, by rw [b]⟩
  · exact .inr ⟨j, t, a, by rw [b]⟩
end Mine
end
section
open PySem PySem.W PySem.Calls PyProof.Rows PySem.Float64 PySem.Flt
namespace Mine
local macro_rules | `(tactic| ktr_room) => `(tactic| ((try simp only [depth_under_make, depth_under_kw, depth_in1, depth_deeper, depth_caller]); (try dsimp only [ktrTop]); omega))
local macro_rules | `(tactic| k_room) => `(tactic| ktr_room)
local macro_rules | `(tactic| ktr_units) => `(tactic| (have hcL9 := cLine_is; (try simp only [units_in1, units_deeper, Around.mark_units, units_caller]); (try dsimp only [ktrTop]); omega))
local macro_rules | `(tactic| walk_at "isH tac") => `(tactic| first | assumption | exact isH_half | exact isH_epoch)
local macro_rules | `(tactic| walk_at "binaryOp Add float float") => `(tactic| ((with_reducible show wpAny _ _ (binaryOp Operator.Add (Value.float _ _) (Value.float _ _)) _ _ _); refine' add_ff_H ?hx ?hy ?hb ?_; (case hx => walk_at "isH tac"); (case hy => walk_at "isH tac"); (case hb => omega); intro zF hF))
local macro_rules | `(tactic| walk_at "binaryOp Add float int") => `(tactic| ((with_reducible show wpAny _ _ (binaryOp Operator.Add (Value.float _ _) (Value.int _ _)) _ _ _); first
  | (refine' add_fi_H ?hx ?hn ?hb ?_; (case hx => walk_at "isH tac"); (case hn => omega); (case hb => omega); intro zF hF)
  | (refine' add_fi_raw ?hn ?_; (case hn => omega))))
local macro_rules | `(tactic| walk_at "binaryOp Sub float int") => `(tactic| ((with_reducible show wpAny _ _ (binaryOp Operator.Sub (Value.float _ _) (Value.int _ _)) _ _ _); refine' sub_fi_H ?hx ?hn ?hb ?_; (case hx => walk_at "isH tac"); (case hn => omega); (case hb => omega); intro zF hF))
local macro_rules | `(tactic| walk_at "inplaceOp Add int float") => `(tactic| ((with_reducible show wpAny _ _ (inplaceOp Operator.Add (Value.int _ _) (Value.float _ _)) _ _ _); refine' iadd_if_H ?hx ?hn ?hb ?_; (case hx => walk_at "isH tac"); (case hn => omega); (case hb => omega); intro zF hF))
local macro_rules | `(tactic| walk_at "binaryOp Mult int float") => `(tactic| ((with_reducible show wpAny _ _ (binaryOp Operator.Mult (Value.int 2 _) (Value.float _ _)) _ _ _); refine' mul_if_H ?hx ?hn ?hb ?_; (case hx => walk_at "isH tac"); (case hn => omega); (case hb => omega); intro zF hF))
local macro_rules | `(tactic| walk_at "binaryOp Div int int") => `(tactic| ((with_reducible show wpAny _ _ (binaryOp Operator.Div (Value.int _ _) (Value.int _ _)) _ _ _); refine' div_ii_q ?hA ?h0 ?h1 ?h2 ?h3 ?_; (case hA => with_unfolding_all rfl); (case h0 => omega); (case h1 => omega); (case h2 => omega); (case h3 => omega); intro zF eF hF))
local macro_rules | `(tactic| walk_at "call builtin:math.trunc") => `(tactic| ((with_reducible show wpAny _ _ (call _ [Value.float _ _]) _ _ _); refine' trunc_f_H ?hA ?hx ?h0 ?_; (case hA => with_unfolding_all rfl); (case hx => walk_at "isH tac"); (case h0 => omega)))
local macro_rules | `(tactic| walk_at "call builtin:math.floor") => `(tactic| ((with_reducible show wpAny _ _ (call _ [Value.float _ _]) _ _ _); refine' floor_f_q ?hA ?hx ?_; (case hA => with_unfolding_all rfl); (case hx => first | assumption | exact month_q (by omega) (by omega) (by omega) (by assumption))))
local macro_rules | `(tactic| walk_at "call type:int") => `(tactic| ((with_reducible show wpAny _ _ (call _ [Value.float _ _]) _ _ _); refine' int_f_H ?hA ?hx ?h0 ?_; (case hA => with_unfolding_all rfl); (case hx => walk_at "isH tac"); (case h0 => omega)))
local macro_rules | `(tactic| walk_at "compareOp NotEq float float") => `(tactic| ((with_reducible show wpAny _ _ (compareOp CmpOp.NotEq (Value.float _ _) (Value.float _ _)) _ _ _); refine' ne_ff_H ?hx ?hy ?_; (case hx => walk_at "isH tac"); (case hy => walk_at "isH tac")))
local macro_rules | `(tactic| walk_at "prune ite") => `(tactic| (simp only [decide_eq_true_eq, beq_iff_eq, bne_iff_ne, ne_eq, Bool.not_eq_true', decide_eq_false_iff_not, fdiv2]; omega))
local macro_rules | `(tactic| walk_at "ite") => `(tactic| first | (refine' ite_neg ?hc ?_; (case hc => walk_at "prune ite")) | (refine' ite_pos ?hc ?_; (case hc => walk_at "prune ite")))
local macro_rules | `(tactic| walk_at "claim ends") => `(tactic| (
  (case k1 => first | k_asm | fail "claim: below") ; (case k2 => first | k_asm | fail "claim: frame"); (case k3 => first | k_asm | fail "claim: part"); (case k4 => first | k_asm | fail "claim: ledger"); (case k5 => first | k_asm | fail "claim: top")
  (case kK => first | exact rfl | assumption | fail "claim: kind")
  (case kd => first | ktr_room | fail "claim: room")
  (case ku => first | ktr_units | fail "claim: units")))
local macro_rules | `(tactic| walk_at "claim news") => `(tactic| first | k_asm | (refine' cb_drop ?cbN ?cbS; (case cbN => assumption); (case cbS => kcj_all)))
local macro_rules | `(tactic| walk_at "call ref") => `(tactic| (k_here; (with_reducible show wpAny _ _ (call (Value.ref 483) [Value.int _ _, Value.int _ _]) _ _ _); k_dflt (
  refine' mcal_ok _ _ _ _ _ ?pa ?pb ?pc ?pd ?pe ?pf ?pg ?ph _ _ _ _ _ _ _ _ _ _ _ _ _ _ _ _ _ _ _ _ _ ?k1 ?k2 ?k3 ?k4 ?k5 ?kK ?kd ?ku ?_
  (case pa => omega); (case pb => omega); (case pc => omega); (case pd => omega); (case pe => omega); (case pf => omega); (case pg => omega); (case ph => omega); walk_at "claim ends"
  unfold RetWeeks
  intro R9 rs9 cells9 h9 tk9 F9 N9 W9
  (try dsimp only); (try k_fold))))
local macro_rules | `(tactic| walk_at "exec Assign cons ListComp") => `(tactic| (k_here; k_dflt (refine LCg.Assign_ListComp_U (F₀ := by k_asm) (by rfl) (by with_unfolding_all rfl) (by with_unfolding_all rfl) (by decide) (by rfl) (by decide) (by rfl) (by rfl) (by rfl) ?_)))
local macro_rules | `(tactic| walk_at "CompSrc") => `(tactic| (k_here; refine stop9 ?_))
local macro_rules | `(tactic| walk_at "execs cons") => `(tactic| ((with_reducible show wpAny _ _ (execs (Stmt.If (Expr.Compare _ _ _ _) _ _ _ :: _) _) _ _ _); refine stop9 ?_))
local macro_rules | `(tactic| walk_at "law row") => `(tactic| (k_here; (with_reducible show wpAny _ _ (subscriptTail _ _ (Value.ref _) (Value.int _ _)) _ _ _); k_dflt (refine' row_item ?N ?m ?h0 ?h1 ?h2 ?_ ?hs; (case N => k_asm); (case m => k_mem); (case h0 => (rw [fmod7]; omega)); (case h1 => (rw [fmod7]; omega)); (case h2 => assumption); (case hs => with_unfolding_all rfl)); intro y9 hy9))
local macro_rules | `(tactic| walk_at "subscriptTail") => `(tactic| walk_at "law row")
local macro_rules | `(tactic| walk_at "subscriptTail Name BinOp ref int") => `(tactic| walk_at "law row")
theorem law_14 (w : World) (h₀ : Heap) (L : Addr) (x : UInt64) (tx : Tok) (vK : Option Value) (ns : List Int) (D : Addr) (y m d noon size far f n : Int) (ys : List Value) (t1 t2 t3 t4 : Tok) (vP vS vL : Value) (m0 : Str → Option Value) (hns : IntsAre ys ns) (hnv : ns = daysNs f size) (hg1 : 0 ≤ far) (hg2 : far < 1000000) (h1 : 1 ≤ y) (h2 : y ≤ 9000) (h3 : 1 ≤ m) (h4 : m ≤ 12) (h5 : 0 ≤ d) (h6 : d < 7) (h7 : 28 ≤ size) (h8 : size ≤ 31) (h9 : 1721426 ≤ noon) (h10 : noon < 8000000) (hn : noonOf y m = noon) (hl : lenOf y m = size) (hf : fwOf y m d = f) (hf1 : 1 ≤ f) (hf2 : f ≤ 7) (hfm : (noon + f - 1) % 7 = d) (hn1 : 4 ≤ n) (hn2 : n ≤ 5) (hn3 : f + 7 * (n - 1) ≤ size) (hn4 : size < f + 7 * n) (hy : DaysAre ys f n) : Seg w (lawBody.drop 14) (fun z => if z = Str.ofString "k" then vK else if z = Str.ofString "first" then some (.float x tx) else if z = Str.ofString "days" then some (.ref D) else if z = Str.ofString "size" then some (.int size t1) else if z = Str.ofString "past" then some vP else if z = Str.ofString "sizes" then some vS else if z = Str.ofString "long" then some vL else if z = Str.ofString "far" then some (.int far t2) else if z = Str.ofString "month" then some (.int m t3) else if z = Str.ofString "year" then some (.int y t4) else m0 z) [(D, LCg.lst ys)] h₀ L noon d (Done h₀ L) := by
  w_top off
  intro mean mg mb fa cd oN oW tN tW s Q B F X N T dN dW hQ
  have conc : ∀ b sc, b = (lawBody.drop 14) → sc = lawScope → wpAny (model PySem.Challenge.rw_bd5015_01.row.prog w) (callerA.deeper (lawEnv sc L fa cd)) (execs b (lawEnv sc L fa cd)) Q (fun _ _ => False) s := by
    intro b sc hb hs
    conv at hb => rhs; whnf
    conv at hs => rhs; whnf
    subst hb hs
    (try simp only [List.cons_append, List.nil_append] at N)
    k_steps
    unfold Stop9
    rename WeeksAre _ _ _ _ => W9
    rename News _ _ _ _ => N9
    rw [hn, hl] at W9
    obtain ⟨us, hus, hrs⟩ := W9
    have hlp : 0 ≤ (noon + 1) % 7 ∧ (noon + 1) % 7 < 7 := by omega
    refine LCg.CompSrc.ledger (k := (List.map Value.ref _).length) rfl (by k_asm) N9 (.head _) (by rw [PySem.sizeLine_eq, List.size_toArray, List.length_map, hrs.1]; omega) fun g => ?_
    refine col_rest (c := ((d + 1).fmod 7).toNat) (a := L + 1 + 1) (oa := oN) (b := L + 1) (ob := oW) hrs (.head _) (fun p hp => .tail _ (List.mem_append_left _ hp)) (by kcf_m) (by kcf_m) ?_ ?_
    · intro j r I oI C oC D' ys' m₂ h tk E' hj hC hx F2 N2
      have hrow : (rowOf (padded ((noon + 1) % 7) us) j).length = 7 := row_len (by rw [pad_len hus]; omega)
      k_steps
      exact ⟨_, _, rfl, by k_asm, by k_asm, by assumption⟩
    · intro cs hcl hcc
      have hcs := col_opts hus hlp.1 (by omega) (show ((d + 1).fmod 7).toNat < 7 by rw [fmod7]; omega) hcl hcc
      rw [fmod7] at hcs
      unfold LCg.FinA
      intro C h tk F2 N2 o2
      k_steps
      unfold Stop9
      exact law_15 w h₀ L x tx vK C cs _ ns D y m d noon size far f n ys t1 t2 t3 t4 vP vS vL m0 hcs (by rw [hnv]; exact col_days h5 h6 h7 h8 hf1 hf2 hfm) hns (by omega) hg1 hg2 h1 h2 h3 h4 h5 h6 h7 h8 h9 h10 hn hl hf hf1 hf2 hfm hn1 hn2 hn3 hn4 hy mean mg mb fa cd oN oW tN tW _ Q B F2 X (fun p hp => N2 p (by
        rcases List.mem_cons.mp hp with rfl | hp
        · exact .head _
        · exact .tail _ (.tail _ (List.mem_append_right _ hp)))) T dN dW hQ
  exact conc _ _ rfl rfl
end Mine
end
section
open PySem PySem.W PySem.Calls PyProof.Rows PySem.Float64 PySem.Flt
namespace Mine
local macro_rules | `(tactic| ktr_room) => `(tactic| ((try simp only [depth_under_make, depth_under_kw, depth_in1, depth_deeper, depth_caller]); (try dsimp only [ktrTop]); omega))
local macro_rules | `(tactic| k_room) => `(tactic| ktr_room)
local macro_rules | `(tactic| ktr_units) => `(tactic| (have hcL9 := cLine_is; (try simp only [units_in1, units_deeper, Around.mark_units, units_caller]); (try dsimp only [ktrTop]); omega))
local macro_rules | `(tactic| walk_at "isH tac") => `(tactic| first | assumption | exact isH_half | exact isH_epoch)
local macro_rules | `(tactic| walk_at "binaryOp Add float float") => `(tactic| ((with_reducible show wpAny _ _ (binaryOp Operator.Add (Value.float _ _) (Value.float _ _)) _ _ _); refine' add_ff_H ?hx ?hy ?hb ?_; (case hx => walk_at "isH tac"); (case hy => walk_at "isH tac"); (case hb => omega); intro zF hF))
local macro_rules | `(tactic| walk_at "binaryOp Add float int") => `(tactic| ((with_reducible show wpAny _ _ (binaryOp Operator.Add (Value.float _ _) (Value.int _ _)) _ _ _); first
  | (refine' add_fi_H ?hx ?hn ?hb ?_; (case hx => walk_at "isH tac"); (case hn => omega); (case hb => omega); intro zF hF)
  | (refine' add_fi_raw ?hn ?_; (case hn => omega))))
local macro_rules | `(tactic| walk_at "binaryOp Sub float int") => `(tactic| ((with_reducible show wpAny _ _ (binaryOp Operator.Sub (Value.float _ _) (Value.int _ _)) _ _ _); refine' sub_fi_H ?hx ?hn ?hb ?_; (case hx => walk_at "isH tac"); (case hn => omega); (case hb => omega); intro zF hF))
local macro_rules | `(tactic| walk_at "inplaceOp Add int float") => `(tactic| ((with_reducible show wpAny _ _ (inplaceOp Operator.Add (Value.int _ _) (Value.float _ _)) _ _ _); refine' iadd_if_H ?hx ?hn ?hb ?_; (case hx => walk_at "isH tac"); (case hn => omega); (case hb => omega); intro zF hF))
local macro_rules | `(tactic| walk_at "binaryOp Mult int float") => `(tactic| ((with_reducible show wpAny _ _ (binaryOp Operator.Mult (Value.int 2 _) (Value.float _ _)) _ _ _); refine' mul_if_H ?hx ?hn ?hb ?_; (case hx => walk_at "isH tac"); (case hn => omega); (case hb => omega); intro zF hF))
local macro_rules | `(tactic| walk_at "binaryOp Div int int") => `(tactic| ((with_reducible show wpAny _ _ (binaryOp Operator.Div (Value.int _ _) (Value.int _ _)) _ _ _); refine' div_ii_q ?hA ?h0 ?h1 ?h2 ?h3 ?_; (case hA => with_unfolding_all rfl); (case h0 => omega); (case h1 => omega); (case h2 => omega); (case h3 => omega); intro zF eF hF))
local macro_rules | `(tactic| walk_at "call builtin:math.trunc") => `(tactic| ((with_reducible show wpAny _ _ (call _ [Value.float _ _]) _ _ _); refine' trunc_f_H ?hA ?hx ?h0 ?_; (case hA => with_unfolding_all rfl); (case hx => walk_at "isH tac"); (case h0 => omega)))
local macro_rules | `(tactic| walk_at "call builtin:math.floor") => `(tactic| ((with_reducible show wpAny _ _ (call _ [Value.float _ _]) _ _ _); refine' floor_f_q ?hA ?hx ?_; (case hA => with_unfolding_all rfl); (case hx => first | assumption | exact month_q (by omega) (by omega) (by omega) (by assumption))))
local macro_rules | `(tactic| walk_at "call type:int") => `(tactic| ((with_reducible show wpAny _ _ (call _ [Value.float _ _]) _ _ _); refine' int_f_H ?hA ?hx ?h0 ?_; (case hA => with_unfolding_all rfl); (case hx => walk_at "isH tac"); (case h0 => omega)))
local macro_rules | `(tactic| walk_at "compareOp NotEq float float") => `(tactic| ((with_reducible show wpAny _ _ (compareOp CmpOp.NotEq (Value.float _ _) (Value.float _ _)) _ _ _); refine' ne_ff_H ?hx ?hy ?_; (case hx => walk_at "isH tac"); (case hy => walk_at "isH tac")))
local macro_rules | `(tactic| walk_at "prune ite") => `(tactic| (simp only [decide_eq_true_eq, beq_iff_eq, bne_iff_ne, ne_eq, Bool.not_eq_true', decide_eq_false_iff_not, fdiv2]; omega))
local macro_rules | `(tactic| walk_at "ite") => `(tactic| first | (refine' ite_neg ?hc ?_; (case hc => walk_at "prune ite")) | (refine' ite_pos ?hc ?_; (case hc => walk_at "prune ite")))
local macro_rules | `(tactic| walk_at "claim ends") => `(tactic| (
  (case k1 => first | k_asm | fail "claim: below") ; (case k2 => first | k_asm | fail "claim: frame"); (case k3 => first | k_asm | fail "claim: part"); (case k4 => first | k_asm | fail "claim: ledger"); (case k5 => first | k_asm | fail "claim: top")
  (case kK => first | exact rfl | assumption | fail "claim: kind")
  (case kd => first | ktr_room | fail "claim: room")
  (case ku => first | ktr_units | fail "claim: units")))
local macro_rules | `(tactic| walk_at "claim news") => `(tactic| first | k_asm | (refine' cb_drop ?cbN ?cbS; (case cbN => assumption); (case cbS => kcj_all)))
local macro_rules | `(tactic| walk_at "call ref") => `(tactic| (k_here; (with_reducible show wpAny _ _ (call (Value.ref 454) [Value.int 0 _, Value.int _ _, Value.int _ _, Value.int _ _]) _ _ _); k_dflt (
  refine' nth0_ok _ _ _ _ _ _ _ _ ?pa ?pb ?pc ?pd ?pe ?pf ?pg ?ph _ _ _ _ _ _ _ _ _ _ _ _ _ _ _ _ _ _ _ _ _ ?k1 ?k2 ?k3 ?k4 ?k5 ?kK ?kd ?ku ?_
  (case pa => omega); (case pb => omega); (case pc => omega); (case pd => omega); (case pe => omega); (case pf => omega); (case pg => omega); (case ph => omega); walk_at "claim ends"
  unfold RetTup
  intro r9 ty9 tm9 td9 h9 tk9' F9 N9 l9; (try k_lt l9)
  (try dsimp only); (try k_fold))))
local macro_rules | `(tactic| walk_at "law days") => `(tactic| (k_here; (with_reducible show wpAny _ _ (subscriptTail _ _ (Value.ref _) (Value.int _ _)) _ _ _); first
  | (k_dflt (refine' day_pos ?N ?m ?hy ?h0 ?h1 ?h2 ?_ ?hs; (case N => k_asm); (case m => k_mem); (case hy => assumption); (case h0 => omega); (case h1 => omega); (case h2 => omega); (case hs => with_unfolding_all rfl)); intro t9)
  | (k_dflt (refine' day_neg ?N ?m ?hy ?h0 ?h1 ?h2 ?_ ?hs; (case N => k_asm); (case m => k_mem); (case hy => assumption); (case h0 => omega); (case h1 => omega); (case h2 => omega); (case hs => with_unfolding_all rfl)); intro t9)))
local macro_rules | `(tactic| walk_at "subscriptTail Name Name ref int") => `(tactic| walk_at "law days")
local macro_rules | `(tactic| walk_at "subscriptTail") => `(tactic| walk_at "law days")
local macro_rules | `(tactic| walk_at "execs cons") => `(tactic| ((with_reducible show wpAny _ _ (execs (Stmt.Assign [Expr.Name (Str.ofString "column") _] _ _ :: _) _) _ _ _); refine stop9 ?_))
theorem law_13 (w : World) (h₀ : Heap) (L : Addr) (x : UInt64) (tx : Tok) (vK : Option Value) (ns : List Int) (D : Addr) (y m d noon size far f n : Int) (ys : List Value) (t1 t2 t3 t4 : Tok) (vP vS vL : Value) (m0 : Str → Option Value) (hns : IntsAre ys ns) (hnv : ns = daysNs f size) (hg1 : 0 ≤ far) (hg2 : far < 1000000) (h1 : 1 ≤ y) (h2 : y ≤ 9000) (h3 : 1 ≤ m) (h4 : m ≤ 12) (h5 : 0 ≤ d) (h6 : d < 7) (h7 : 28 ≤ size) (h8 : size ≤ 31) (h9 : 1721426 ≤ noon) (h10 : noon < 8000000) (hn : noonOf y m = noon) (hl : lenOf y m = size) (hf : fwOf y m d = f) (hf1 : 1 ≤ f) (hf2 : f ≤ 7) (hfm : (noon + f - 1) % 7 = d) (hn1 : 4 ≤ n) (hn2 : n ≤ 5) (hn3 : f + 7 * (n - 1) ≤ size) (hn4 : size < f + 7 * n) (hy : DaysAre ys f n) : Seg w (lawBody.drop 13) (fun z => if z = Str.ofString "k" then vK else if z = Str.ofString "first" then some (.float x tx) else if z = Str.ofString "days" then some (.ref D) else if z = Str.ofString "size" then some (.int size t1) else if z = Str.ofString "past" then some vP else if z = Str.ofString "sizes" then some vS else if z = Str.ofString "long" then some vL else if z = Str.ofString "far" then some (.int far t2) else if z = Str.ofString "month" then some (.int m t3) else if z = Str.ofString "year" then some (.int y t4) else m0 z) [(D, LCg.lst ys)] h₀ L noon d (Done h₀ L) := by
  w_top off
  intro mean mg mb fa cd oN oW tN tW s Q B F X N T dN dW hQ
  have conc : ∀ b sc, b = (lawBody.drop 13) → sc = lawScope → wpAny (model PySem.Challenge.rw_bd5015_01.row.prog w) (callerA.deeper (lawEnv sc L fa cd)) (execs b (lawEnv sc L fa cd)) Q (fun _ _ => False) s := by
    intro b sc hb hs
    conv at hb => rhs; whnf
    conv at hs => rhs; whnf
    subst hb hs
    (try simp only [List.cons_append, List.nil_append] at N)
    have e0 : (if fwOf y m d + 28 ≤ lenOf y m then fwOf y m d + 28 else fwOf y m d + 21) = f + 7 * (n - 1) := by rw [hf, hl]; split <;> omega
    k_steps
    unfold Stop9
    exact law_14 w h₀ L x tx vK ns D y m d noon size far f n ys t1 t2 t3 t4 vP vS vL m0 hns hnv hg1 hg2 h1 h2 h3 h4 h5 h6 h7 h8 h9 h10 hn hl hf hf1 hf2 hfm hn1 hn2 hn3 hn4 hy mean mg mb fa cd oN oW tN tW _ Q B (by k_asm) X (by dsimp only [List.cons_append, List.nil_append]; walk_at "claim news") T dN dW hQ
  exact conc _ _ rfl rfl
end Mine
end
section
open PySem PySem.W PySem.Calls PyProof.Rows PySem.Float64 PySem.Flt
namespace Mine
section
variable {prog : Program} {w : World} {A : Around} {E : Value → Shared → Prop} {s : Shared} {env : Env} {h₀ : Heap} {x : Str} {body : List Stmt} {Q : Flow → Shared → Prop}
theorem loop_all {I : Addr} {nn : Nat} {M : Str → Option Value} {news : List (Addr × Obj)} (hoff : ∀ p ∈ news, p.1 ≠ I)
    (turn : ∀ (i : Nat) t h tk oI (Q' : Flow → Shared → Prop), i < nn → Fr h₀ env.locals h (fun y => if y = x then some (.int (0 + (i : Int)) t) else M y) → News h₀ env.locals h ((I, oI) :: news) →
      (∀ h' tk', Fr h₀ env.locals h' (fun y => if y = x then some (.int (0 + (i : Int)) t) else M y) → News h₀ env.locals h' ((I, oI) :: news) → Q' .next { s with heap := h', toks := tk' }) → wpAny (model prog w) A (execs body env) Q' E { s with heap := h, toks := tk })
    (done : ∀ vK h tk, Fr h₀ env.locals h (fun y => if y = x then vK else M y) → News h₀ env.locals h news → Q .next { s with heap := h, toks := tk }) :
    ∀ (j i : Nat) (m₁ : Str → Option Value), i + j = nn → (∀ z, z ≠ x → m₁ z = M z) → RangeRest prog w A E h₀ env x body Q s I 0 nn j i m₁ news := by
  intro j
  induction j with
  | zero =>
    intro i m₁ hi hm
    refine RangeRest.zero fun h tk F N => done (m₁ x) h tk ?_ N
    have e : (fun y => if y = x then m₁ x else M y) = m₁ := by
      funext y
      by_cases hy : y = x
      · rw [if_pos hy, hy]
      · rw [if_neg hy, hm y hy]
    rw [e]
    exact F
  | succ j ih =>
    intro i m₁ hi hm
    refine RangeRest.succ fun t h tk F N => ?_
    have e : (fun y => if y = x then some (Value.int (0 + (i : Int)) t) else m₁ y) = fun y => if y = x then some (Value.int (0 + (i : Int)) t) else M y := by
      funext y
      by_cases hy : y = x
      · rw [if_pos hy, if_pos hy]
      · rw [if_neg hy, if_neg hy, hm y hy]
    rw [e] at F
    refine turn i t h tk _ _ (by omega) F N fun h' tk' F' N' => ?_
    exact UnrEnd.intro F' N' news (fun p hp => hp) hoff (ih (i + 1) _ (by omega) fun z hz => if_neg hz)
end
local macro_rules | `(tactic| ktr_room) => `(tactic| ((try simp only [depth_under_make, depth_under_kw, depth_in1, depth_deeper, depth_caller]); (try dsimp only [ktrTop]); omega))
local macro_rules | `(tactic| k_room) => `(tactic| ktr_room)
local macro_rules | `(tactic| ktr_units) => `(tactic| (have hcL9 := cLine_is; (try simp only [units_in1, units_deeper, Around.mark_units, units_caller]); (try dsimp only [ktrTop]); omega))
local macro_rules | `(tactic| walk_at "isH tac") => `(tactic| first | assumption | exact isH_half | exact isH_epoch)
local macro_rules | `(tactic| walk_at "binaryOp Add float float") => `(tactic| ((with_reducible show wpAny _ _ (binaryOp Operator.Add (Value.float _ _) (Value.float _ _)) _ _ _); refine' add_ff_H ?hx ?hy ?hb ?_; (case hx => walk_at "isH tac"); (case hy => walk_at "isH tac"); (case hb => omega); intro zF hF))
local macro_rules | `(tactic| walk_at "binaryOp Add float int") => `(tactic| ((with_reducible show wpAny _ _ (binaryOp Operator.Add (Value.float _ _) (Value.int _ _)) _ _ _); first
  | (refine' add_fi_H ?hx ?hn ?hb ?_; (case hx => walk_at "isH tac"); (case hn => omega); (case hb => omega); intro zF hF)
  | (refine' add_fi_raw ?hn ?_; (case hn => omega))))
local macro_rules | `(tactic| walk_at "binaryOp Sub float int") => `(tactic| ((with_reducible show wpAny _ _ (binaryOp Operator.Sub (Value.float _ _) (Value.int _ _)) _ _ _); refine' sub_fi_H ?hx ?hn ?hb ?_; (case hx => walk_at "isH tac"); (case hn => omega); (case hb => omega); intro zF hF))
local macro_rules | `(tactic| walk_at "inplaceOp Add int float") => `(tactic| ((with_reducible show wpAny _ _ (inplaceOp Operator.Add (Value.int _ _) (Value.float _ _)) _ _ _); refine' iadd_if_H ?hx ?hn ?hb ?_; (case hx => walk_at "isH tac"); (case hn => omega); (case hb => omega); intro zF hF))
local macro_rules | `(tactic| walk_at "binaryOp Mult int float") => `(tactic| ((with_reducible show wpAny _ _ (binaryOp Operator.Mult (Value.int 2 _) (Value.float _ _)) _ _ _); refine' mul_if_H ?hx ?hn ?hb ?_; (case hx => walk_at "isH tac"); (case hn => omega); (case hb => omega); intro zF hF))
local macro_rules | `(tactic| walk_at "binaryOp Div int int") => `(tactic| ((with_reducible show wpAny _ _ (binaryOp Operator.Div (Value.int _ _) (Value.int _ _)) _ _ _); refine' div_ii_q ?hA ?h0 ?h1 ?h2 ?h3 ?_; (case hA => with_unfolding_all rfl); (case h0 => omega); (case h1 => omega); (case h2 => omega); (case h3 => omega); intro zF eF hF))
local macro_rules | `(tactic| walk_at "call builtin:math.trunc") => `(tactic| ((with_reducible show wpAny _ _ (call _ [Value.float _ _]) _ _ _); refine' trunc_f_H ?hA ?hx ?h0 ?_; (case hA => with_unfolding_all rfl); (case hx => walk_at "isH tac"); (case h0 => omega)))
local macro_rules | `(tactic| walk_at "call builtin:math.floor") => `(tactic| ((with_reducible show wpAny _ _ (call _ [Value.float _ _]) _ _ _); refine' floor_f_q ?hA ?hx ?_; (case hA => with_unfolding_all rfl); (case hx => first | assumption | exact month_q (by omega) (by omega) (by omega) (by assumption))))
local macro_rules | `(tactic| walk_at "call type:int") => `(tactic| ((with_reducible show wpAny _ _ (call _ [Value.float _ _]) _ _ _); refine' int_f_H ?hA ?hx ?h0 ?_; (case hA => with_unfolding_all rfl); (case hx => walk_at "isH tac"); (case h0 => omega)))
local macro_rules | `(tactic| walk_at "compareOp NotEq float float") => `(tactic| ((with_reducible show wpAny _ _ (compareOp CmpOp.NotEq (Value.float _ _) (Value.float _ _)) _ _ _); refine' ne_ff_H ?hx ?hy ?_; (case hx => walk_at "isH tac"); (case hy => walk_at "isH tac")))
local macro_rules | `(tactic| walk_at "prune ite") => `(tactic| (simp only [decide_eq_true_eq, beq_iff_eq, bne_iff_ne, ne_eq, Bool.not_eq_true', decide_eq_false_iff_not, fdiv2]; omega))
local macro_rules | `(tactic| walk_at "ite") => `(tactic| first | (refine' ite_neg ?hc ?_; (case hc => walk_at "prune ite")) | (refine' ite_pos ?hc ?_; (case hc => walk_at "prune ite")))
local macro_rules | `(tactic| walk_at "claim ends") => `(tactic| (
  (case k1 => first | k_asm | fail "claim: below") ; (case k2 => first | k_asm | fail "claim: frame"); (case k3 => first | k_asm | fail "claim: part"); (case k4 => first | k_asm | fail "claim: ledger"); (case k5 => first | k_asm | fail "claim: top")
  (case kK => first | exact rfl | assumption | fail "claim: kind")
  (case kd => first | ktr_room | fail "claim: room")
  (case ku => first | ktr_units | fail "claim: units")))
local macro_rules | `(tactic| walk_at "claim news") => `(tactic| first | k_asm | (refine' cb_drop ?cbN ?cbS; (case cbN => assumption); (case cbS => kcj_all)))
local macro_rules | `(tactic| walk_at "call builtin:len") => `(tactic| (k_here; (with_reducible show wpAny _ _ (call _ [Value.ref _]) _ _ _); k_dflt (refine' day_len ?N ?m ?hy ?h2 ?_; (case N => k_asm); (case m => k_mem); (case hy => assumption); (case h2 => omega)); intro t9 tk9))
local macro_rules | `(tactic| walk_at "pyIter ref") => `(tactic| ((with_reducible show wpAny _ _ (pyIter (Value.ref _)) (fun it s₂ => LoopAtV _ _ _ _ _ _ _ _ _ it s₂) _ _); refine stop9 ?_))
local macro_rules | `(tactic| walk_at "call type:range") => `(tactic| (k_here; (with_reducible show wpAny _ _ (call _ [Value.int _ _]) _ _ _); k_dflt (refine' range1_rows ?F ?N ?_; (case F => k_asm); (case N => k_asm)); intro hR0 tkR tR uR vR hR hFR hNR hkR))
theorem law_12 (w : World) (h₀ : Heap) (L : Addr) (x : UInt64) (tx : Tok) (ns : List Int) (D : Addr) (y m d noon size far f n : Int) (ys : List Value) (t1 t2 t3 t4 : Tok) (vP vS vL : Value) (m0 : Str → Option Value) (hx : IsH x (2 * noon - 1)) (hns : IntsAre ys ns) (hnv : ns = daysNs f size) (hg1 : 0 ≤ far) (hg2 : far < 1000000) (h1 : 1 ≤ y) (h2 : y ≤ 9000) (h3 : 1 ≤ m) (h4 : m ≤ 12) (h5 : 0 ≤ d) (h6 : d < 7) (h7 : 28 ≤ size) (h8 : size ≤ 31) (h9 : 1721426 ≤ noon) (h10 : noon < 8000000) (hn : noonOf y m = noon) (hl : lenOf y m = size) (hf : fwOf y m d = f) (hf1 : 1 ≤ f) (hf2 : f ≤ 7) (hfm : (noon + f - 1) % 7 = d) (hn1 : 4 ≤ n) (hn2 : n ≤ 5) (hn3 : f + 7 * (n - 1) ≤ size) (hn4 : size < f + 7 * n) (hy : DaysAre ys f n) : Seg w (lawBody.drop 12) (fun z => if z = Str.ofString "first" then some (.float x tx) else if z = Str.ofString "days" then some (.ref D) else if z = Str.ofString "size" then some (.int size t1) else if z = Str.ofString "past" then some vP else if z = Str.ofString "sizes" then some vS else if z = Str.ofString "long" then some vL else if z = Str.ofString "far" then some (.int far t2) else if z = Str.ofString "month" then some (.int m t3) else if z = Str.ofString "year" then some (.int y t4) else m0 z) [(D, LCg.lst ys)] h₀ L noon d (Done h₀ L) := by
  w_top off
  intro mean mg mb fa cd oN oW tN tW s Q B F X N T dN dW hQ
  have conc : ∀ b sc, b = (lawBody.drop 12) → sc = lawScope → wpAny (model PySem.Challenge.rw_bd5015_01.row.prog w) (callerA.deeper (lawEnv sc L fa cd)) (execs b (lawEnv sc L fa cd)) Q (fun _ _ => False) s := by
    intro b sc hb hs
    conv at hb => rhs; whnf
    conv at hs => rhs; whnf
    subst hb hs
    (try simp only [List.cons_append, List.nil_append] at N)
    k_steps
    unfold Stop9
    rename IsRange _ _ _ _ _ _ _ _ => hR
    rename Fr _ _ _ _ => hF
    rename News _ _ _ _ => hN
    refine iter_rangeUnr (n := n.toNat) rfl hR (small_one (by decide) (by decide) (by omega) (by omega)) (by rw [rangeSize_nat, Int.sub_zero]) hF hN fun I hI => ?_
    refine loop_all (M := (fun z => if z = Str.ofString "first" then some (.float x tx) else if z = Str.ofString "days" then some (.ref D) else if z = Str.ofString "size" then some (.int size t1) else if z = Str.ofString "past" then some vP else if z = Str.ofString "sizes" then some vS else if z = Str.ofString "long" then some vL else if z = Str.ofString "far" then some (.int far t2) else if z = Str.ofString "month" then some (.int m t3) else if z = Str.ofString "year" then some (.int y t4) else m0 z)) (fun p hp => Nat.ne_of_lt (hI p hp)) ?_ ?_ n.toNat 0 _ (by omega) (fun _ _ => rfl)
    · intro i t h tk oI Q' hi F2 N2 hQ2
      exact law_turn w h₀ L I (0 + (i : Int)) t x tx oI D y m d noon size far f n ys t1 t2 t3 t4 vP vS vL m0 hx (by omega) (by omega) h1 h2 h3 h4 h5 h6 h7 h8 h9 h10 hn hl hf hf1 hf2 hfm hn1 hn2 hn3 hn4 hy mean mg mb fa cd oN oW tN tW _ Q' B F2 X N2 T dN dW hQ2
    · intro vK h tk F2 N2
      exact law_13 w h₀ L x tx vK ns D y m d noon size far f n ys t1 t2 t3 t4 vP vS vL m0 hns hnv hg1 hg2 h1 h2 h3 h4 h5 h6 h7 h8 h9 h10 hn hl hf hf1 hf2 hfm hn1 hn2 hn3 hn4 hy mean mg mb fa cd oN oW tN tW _ Q B F2 X N2 T dN dW hQ
  exact conc _ _ rfl rfl
end Mine
end
section
open PySem PySem.W PySem.Calls PyProof.Rows PySem.Float64 PySem.Flt
namespace Mine
local macro_rules | `(tactic| ktr_room) => `(tactic| ((try simp only [depth_under_make, depth_under_kw, depth_in1, depth_deeper, depth_caller]); (try dsimp only [ktrTop]); omega))
local macro_rules | `(tactic| k_room) => `(tactic| ktr_room)
local macro_rules | `(tactic| ktr_units) => `(tactic| (have hcL9 := cLine_is; (try simp only [units_in1, units_deeper, Around.mark_units, units_caller]); (try dsimp only [ktrTop]); omega))
local macro_rules | `(tactic| walk_at "isH tac") => `(tactic| first | assumption | exact isH_half | exact isH_epoch)
local macro_rules | `(tactic| walk_at "binaryOp Add float float") => `(tactic| ((with_reducible show wpAny _ _ (binaryOp Operator.Add (Value.float _ _) (Value.float _ _)) _ _ _); refine' add_ff_H ?hx ?hy ?hb ?_; (case hx => walk_at "isH tac"); (case hy => walk_at "isH tac"); (case hb => omega); intro zF hF))
local macro_rules | `(tactic| walk_at "binaryOp Add float int") => `(tactic| ((with_reducible show wpAny _ _ (binaryOp Operator.Add (Value.float _ _) (Value.int _ _)) _ _ _); first
  | (refine' add_fi_H ?hx ?hn ?hb ?_; (case hx => walk_at "isH tac"); (case hn => omega); (case hb => omega); intro zF hF)
  | (refine' add_fi_raw ?hn ?_; (case hn => omega))))
local macro_rules | `(tactic| walk_at "binaryOp Sub float int") => `(tactic| ((with_reducible show wpAny _ _ (binaryOp Operator.Sub (Value.float _ _) (Value.int _ _)) _ _ _); refine' sub_fi_H ?hx ?hn ?hb ?_; (case hx => walk_at "isH tac"); (case hn => omega); (case hb => omega); intro zF hF))
local macro_rules | `(tactic| walk_at "inplaceOp Add int float") => `(tactic| ((with_reducible show wpAny _ _ (inplaceOp Operator.Add (Value.int _ _) (Value.float _ _)) _ _ _); refine' iadd_if_H ?hx ?hn ?hb ?_; (case hx => walk_at "isH tac"); (case hn => omega); (case hb => omega); intro zF hF))
local macro_rules | `(tactic| walk_at "binaryOp Mult int float") => `(tactic| ((with_reducible show wpAny _ _ (binaryOp Operator.Mult (Value.int 2 _) (Value.float _ _)) _ _ _); refine' mul_if_H ?hx ?hn ?hb ?_; (case hx => walk_at "isH tac"); (case hn => omega); (case hb => omega); intro zF hF))
local macro_rules | `(tactic| walk_at "binaryOp Div int int") => `(tactic| ((with_reducible show wpAny _ _ (binaryOp Operator.Div (Value.int _ _) (Value.int _ _)) _ _ _); refine' div_ii_q ?hA ?h0 ?h1 ?h2 ?h3 ?_; (case hA => with_unfolding_all rfl); (case h0 => omega); (case h1 => omega); (case h2 => omega); (case h3 => omega); intro zF eF hF))
local macro_rules | `(tactic| walk_at "call builtin:math.trunc") => `(tactic| ((with_reducible show wpAny _ _ (call _ [Value.float _ _]) _ _ _); refine' trunc_f_H ?hA ?hx ?h0 ?_; (case hA => with_unfolding_all rfl); (case hx => walk_at "isH tac"); (case h0 => omega)))
local macro_rules | `(tactic| walk_at "call builtin:math.floor") => `(tactic| ((with_reducible show wpAny _ _ (call _ [Value.float _ _]) _ _ _); refine' floor_f_q ?hA ?hx ?_; (case hA => with_unfolding_all rfl); (case hx => first | assumption | exact month_q (by omega) (by omega) (by omega) (by assumption))))
local macro_rules | `(tactic| walk_at "call type:int") => `(tactic| ((with_reducible show wpAny _ _ (call _ [Value.float _ _]) _ _ _); refine' int_f_H ?hA ?hx ?h0 ?_; (case hA => with_unfolding_all rfl); (case hx => walk_at "isH tac"); (case h0 => omega)))
local macro_rules | `(tactic| walk_at "compareOp NotEq float float") => `(tactic| ((with_reducible show wpAny _ _ (compareOp CmpOp.NotEq (Value.float _ _) (Value.float _ _)) _ _ _); refine' ne_ff_H ?hx ?hy ?_; (case hx => walk_at "isH tac"); (case hy => walk_at "isH tac")))
local macro_rules | `(tactic| walk_at "prune ite") => `(tactic| (simp only [decide_eq_true_eq, beq_iff_eq, bne_iff_ne, ne_eq, Bool.not_eq_true', decide_eq_false_iff_not, fdiv2]; omega))
local macro_rules | `(tactic| walk_at "ite") => `(tactic| first | (refine' ite_neg ?hc ?_; (case hc => walk_at "prune ite")) | (refine' ite_pos ?hc ?_; (case hc => walk_at "prune ite")))
local macro_rules | `(tactic| walk_at "claim ends") => `(tactic| (
  (case k1 => first | k_asm | fail "claim: below") ; (case k2 => first | k_asm | fail "claim: frame"); (case k3 => first | k_asm | fail "claim: part"); (case k4 => first | k_asm | fail "claim: ledger"); (case k5 => first | k_asm | fail "claim: top")
  (case kK => first | exact rfl | assumption | fail "claim: kind")
  (case kd => first | ktr_room | fail "claim: room")
  (case ku => first | ktr_units | fail "claim: units")))
local macro_rules | `(tactic| walk_at "claim news") => `(tactic| first | k_asm | (refine' cb_drop ?cbN ?cbS; (case cbN => assumption); (case cbS => kcj_all)))
local macro_rules | `(tactic| walk_at "call ref") => `(tactic| (k_here; (with_reducible show wpAny _ _ (call (Value.ref 469) [Value.int _ _, Value.int _ _, Value.int 1 _]) _ _ _); k_dflt (
  refine' tojd_ok _ _ _ _ _ _ ?ka ?kb ?kc ?ke _ _ _ _ _ _ _ _ _ _ _ _ _ _ _ _ _ _ _ _ _ ?k1 ?k2 ?k3 ?k4 ?k5 ?kK ?kd ?ku ?_
  (case ka => omega); (case kb => omega); (case kc => omega); (case ke => omega); walk_at "claim ends"
  unfold RetH
  intro x9 t9 h9 tk9 hF F9 N9
  (try dsimp only); (try k_fold))))
local macro_rules | `(tactic| walk_at "execs cons") => `(tactic| ((with_reducible show wpAny _ _ (execs (Stmt.For _ _ _ _ _ :: _) _) _ _ _); refine stop9 ?_))
theorem law_10 (w : World) (h₀ : Heap) (L : Addr) (ns : List Int) (D : Addr) (y m d noon size far f n : Int) (ys : List Value) (t1 t2 t3 t4 : Tok) (vP vS vL : Value) (m0 : Str → Option Value) (hns : IntsAre ys ns) (hnv : ns = daysNs f size) (hg1 : 0 ≤ far) (hg2 : far < 1000000) (h1 : 1 ≤ y) (h2 : y ≤ 9000) (h3 : 1 ≤ m) (h4 : m ≤ 12) (h5 : 0 ≤ d) (h6 : d < 7) (h7 : 28 ≤ size) (h8 : size ≤ 31) (h9 : 1721426 ≤ noon) (h10 : noon < 8000000) (hn : noonOf y m = noon) (hl : lenOf y m = size) (hf : fwOf y m d = f) (hf1 : 1 ≤ f) (hf2 : f ≤ 7) (hfm : (noon + f - 1) % 7 = d) (hn1 : 4 ≤ n) (hn2 : n ≤ 5) (hn3 : f + 7 * (n - 1) ≤ size) (hn4 : size < f + 7 * n) (hy : DaysAre ys f n) : Seg w (lawBody.drop 10) (fun z => if z = Str.ofString "days" then some (.ref D) else if z = Str.ofString "size" then some (.int size t1) else if z = Str.ofString "past" then some vP else if z = Str.ofString "sizes" then some vS else if z = Str.ofString "long" then some vL else if z = Str.ofString "far" then some (.int far t2) else if z = Str.ofString "month" then some (.int m t3) else if z = Str.ofString "year" then some (.int y t4) else m0 z) [(D, LCg.lst ys)] h₀ L noon d (Done h₀ L) := by
  w_top off
  intro mean mg mb fa cd oN oW tN tW s Q B F X N T dN dW hQ
  have conc : ∀ b sc, b = (lawBody.drop 10) → sc = lawScope → wpAny (model PySem.Challenge.rw_bd5015_01.row.prog w) (callerA.deeper (lawEnv sc L fa cd)) (execs b (lawEnv sc L fa cd)) Q (fun _ _ => False) s := by
    intro b sc hb hs
    conv at hb => rhs; whnf
    conv at hs => rhs; whnf
    subst hb hs
    (try simp only [List.cons_append, List.nil_append] at N)
    k_steps
    unfold Stop9
    rename IsH _ (2 * noonOf y m - 1) => hx9
    rw [hn] at hx9
    exact law_12 w h₀ L _ _ ns D y m d noon size far f n ys t1 t2 t3 t4 vP vS vL m0 hx9 hns hnv hg1 hg2 h1 h2 h3 h4 h5 h6 h7 h8 h9 h10 hn hl hf hf1 hf2 hfm hn1 hn2 hn3 hn4 hy mean mg mb fa cd oN oW tN tW _ Q B (by k_asm) X (by dsimp only [List.cons_append, List.nil_append]; walk_at "claim news") T dN dW hQ
  exact conc _ _ rfl rfl
end Mine
end
section
open PySem PySem.W PySem.Calls PyProof.Rows PySem.Float64 PySem.Flt
namespace Mine
local macro_rules | `(tactic| walk_at "none") => `(tactic| skip)
local macro_rules | `(tactic| ktr_room) => `(tactic| ((try simp only [depth_under_make, depth_under_kw, depth_in1, depth_deeper, depth_caller]); (try dsimp only [ktrTop]); omega))
local macro_rules | `(tactic| k_room) => `(tactic| ktr_room)
local macro_rules | `(tactic| ktr_units) => `(tactic| (have hcL9 := cLine_is; (try simp only [units_in1, units_deeper, Around.mark_units, units_caller]); (try dsimp only [ktrTop]); omega))
local macro_rules | `(tactic| walk_at "isH tac") => `(tactic| first | assumption | exact isH_half | exact isH_epoch)
local macro_rules | `(tactic| walk_at "binaryOp Add float float") => `(tactic| ((with_reducible show wpAny _ _ (binaryOp Operator.Add (Value.float _ _) (Value.float _ _)) _ _ _); refine' add_ff_H ?hx ?hy ?hb ?_; (case hx => walk_at "isH tac"); (case hy => walk_at "isH tac"); (case hb => omega); intro zF hF))
local macro_rules | `(tactic| walk_at "binaryOp Add float int") => `(tactic| ((with_reducible show wpAny _ _ (binaryOp Operator.Add (Value.float _ _) (Value.int _ _)) _ _ _); first
  | (refine' add_fi_H ?hx ?hn ?hb ?_; (case hx => walk_at "isH tac"); (case hn => omega); (case hb => omega); intro zF hF)
  | (refine' add_fi_raw ?hn ?_; (case hn => omega))))
local macro_rules | `(tactic| walk_at "binaryOp Sub float int") => `(tactic| ((with_reducible show wpAny _ _ (binaryOp Operator.Sub (Value.float _ _) (Value.int _ _)) _ _ _); refine' sub_fi_H ?hx ?hn ?hb ?_; (case hx => walk_at "isH tac"); (case hn => omega); (case hb => omega); intro zF hF))
local macro_rules | `(tactic| walk_at "inplaceOp Add int float") => `(tactic| ((with_reducible show wpAny _ _ (inplaceOp Operator.Add (Value.int _ _) (Value.float _ _)) _ _ _); refine' iadd_if_H ?hx ?hn ?hb ?_; (case hx => walk_at "isH tac"); (case hn => omega); (case hb => omega); intro zF hF))
local macro_rules | `(tactic| walk_at "binaryOp Mult int float") => `(tactic| ((with_reducible show wpAny _ _ (binaryOp Operator.Mult (Value.int 2 _) (Value.float _ _)) _ _ _); refine' mul_if_H ?hx ?hn ?hb ?_; (case hx => walk_at "isH tac"); (case hn => omega); (case hb => omega); intro zF hF))
local macro_rules | `(tactic| walk_at "binaryOp Div int int") => `(tactic| ((with_reducible show wpAny _ _ (binaryOp Operator.Div (Value.int _ _) (Value.int _ _)) _ _ _); refine' div_ii_q ?hA ?h0 ?h1 ?h2 ?h3 ?_; (case hA => with_unfolding_all rfl); (case h0 => omega); (case h1 => omega); (case h2 => omega); (case h3 => omega); intro zF eF hF))
local macro_rules | `(tactic| walk_at "call builtin:math.trunc") => `(tactic| ((with_reducible show wpAny _ _ (call _ [Value.float _ _]) _ _ _); refine' trunc_f_H ?hA ?hx ?h0 ?_; (case hA => with_unfolding_all rfl); (case hx => walk_at "isH tac"); (case h0 => omega)))
local macro_rules | `(tactic| walk_at "call builtin:math.floor") => `(tactic| ((with_reducible show wpAny _ _ (call _ [Value.float _ _]) _ _ _); refine' floor_f_q ?hA ?hx ?_; (case hA => with_unfolding_all rfl); (case hx => first | assumption | exact month_q (by omega) (by omega) (by omega) (by assumption))))
local macro_rules | `(tactic| walk_at "call type:int") => `(tactic| ((with_reducible show wpAny _ _ (call _ [Value.float _ _]) _ _ _); refine' int_f_H ?hA ?hx ?h0 ?_; (case hA => with_unfolding_all rfl); (case hx => walk_at "isH tac"); (case h0 => omega)))
local macro_rules | `(tactic| walk_at "compareOp NotEq float float") => `(tactic| ((with_reducible show wpAny _ _ (compareOp CmpOp.NotEq (Value.float _ _) (Value.float _ _)) _ _ _); refine' ne_ff_H ?hx ?hy ?_; (case hx => walk_at "isH tac"); (case hy => walk_at "isH tac")))
local macro_rules | `(tactic| walk_at "prune ite") => `(tactic| (simp only [decide_eq_true_eq, beq_iff_eq, bne_iff_ne, ne_eq, Bool.not_eq_true', decide_eq_false_iff_not, fdiv2]; omega))
local macro_rules | `(tactic| walk_at "ite") => `(tactic| first | (refine' ite_neg ?hc ?_; (case hc => walk_at "prune ite")) | (refine' ite_pos ?hc ?_; (case hc => walk_at "prune ite")))
local macro_rules | `(tactic| walk_at "claim ends") => `(tactic| (
  (case k1 => first | k_asm | fail "claim: below") ; (case k2 => first | k_asm | fail "claim: frame"); (case k3 => first | k_asm | fail "claim: part"); (case k4 => first | k_asm | fail "claim: ledger"); (case k5 => first | k_asm | fail "claim: top")
  (case kK => first | exact rfl | assumption | fail "claim: kind")
  (case kd => first | ktr_room | fail "claim: room")
  (case ku => first | ktr_units | fail "claim: units")))
local macro_rules | `(tactic| walk_at "claim news") => `(tactic| first | k_asm | (refine' cb_drop ?cbN ?cbS; (case cbN => assumption); (case cbS => kcj_all)))
local macro_rules | `(tactic| walk_at "exec Assign cons ListComp") => `(tactic| (k_here; (with_reducible show wpAny _ _ (exec (Stmt.Assign [Expr.Name (Str.ofString "days") _] _ _) _) _ _ _); k_dflt (refine LCt.Assign_ListComp_T (F₀ := by k_asm) (by rfl) (by with_unfolding_all rfl) (by with_unfolding_all rfl) (by decide) (by rfl) (by decide) (by rfl) (by rfl) (by rfl) ?_); k_dflt lct_toSrc))
local macro_rules | `(tactic| walk_at "execs cons") => `(tactic| ((with_reducible show wpAny _ _ (execs (Stmt.Assign [Expr.Name (Str.ofString "first") _] _ _ :: _) _) _ _ _); refine stop9 ?_))
theorem law_9 (w : World) (h₀ : Heap) (L : Addr) (y m d noon size far f : Int) (t1 t2 t3 t4 : Tok) (vP vS vL : Value) (m0 : Str → Option Value)  (hg1 : 0 ≤ far) (hg2 : far < 1000000) (h1 : 1 ≤ y) (h2 : y ≤ 9000) (h3 : 1 ≤ m) (h4 : m ≤ 12) (h5 : 0 ≤ d) (h6 : d < 7) (h7 : 28 ≤ size) (h8 : size ≤ 31) (h9 : 1721426 ≤ noon) (h10 : noon < 8000000) (hn : noonOf y m = noon) (hl : lenOf y m = size) (hf : fwOf y m d = f) (hf1 : 1 ≤ f) (hf2 : f ≤ 7) (hfm : (noon + f - 1) % 7 = d)  : Seg w (lawBody.drop 9) (fun z => if z = Str.ofString "size" then some (.int size t1) else if z = Str.ofString "past" then some vP else if z = Str.ofString "sizes" then some vS else if z = Str.ofString "long" then some vL else if z = Str.ofString "far" then some (.int far t2) else if z = Str.ofString "month" then some (.int m t3) else if z = Str.ofString "year" then some (.int y t4) else m0 z) [] h₀ L noon d (Done h₀ L) := by
  w_top off
  intro mean mg mb fa cd oN oW tN tW s Q B F X N T dN dW hQ
  have conc : ∀ b sc, b = (lawBody.drop 9) → sc = lawScope → wpAny (model PySem.Challenge.rw_bd5015_01.row.prog w) (callerA.deeper (lawEnv sc L fa cd)) (execs b (lawEnv sc L fa cd)) Q (fun _ _ => False) s := by
    intro b sc hb hs
    conv at hb => rhs; whnf
    conv at hs => rhs; whnf
    subst hb hs
    (try simp only [List.cons_append, List.nil_append] at N)
    k_steps
    unfold Stop9
    rename IntsAre _ _ => hI9
    rw [days_fold h5 h6 h7 h8 hf1 hf2 hfm] at hI9
    exact law_10 w h₀ L (daysNs f size) _ y m d noon size far f (if f + 28 ≤ size then 5 else 4) _ t1 t2 t3 t4 vP vS vL m0 hI9 rfl hg1 hg2 h1 h2 h3 h4 h5 h6 h7 h8 h9 h10 hn hl hf hf1 hf2 hfm (by split <;> omega) (by split <;> omega) (by split <;> omega) (by split <;> omega) (days_are hI9) mean mg mb fa cd oN oW tN tW _ Q B (by k_asm) X (by dsimp only [List.cons_append, List.nil_append]; walk_at "claim news") T dN dW hQ
  exact conc _ _ rfl rfl
end Mine
end
section
open PySem PySem.W PySem.Calls PyProof.Rows PySem.Float64 PySem.Flt
namespace Mine
theorem months {m : Int} (h3 : 1 ≤ m) (h4 : m ≤ 12) : m = 1 ∨ m = 2 ∨ m = 3 ∨ m = 4 ∨ m = 5 ∨ m = 6 ∨ m = 7 ∨ m = 8 ∨ m = 9 ∨ m = 10 ∨ m = 11 ∨ m = 12 := by omega
def sizesOf (b : Bool) : List Int := [31, if b then 29 else 28, 31, 30, 31, 30, 31, 31, 30, 31, 30, 31]
theorem noon_sum {y m : Int} (h3 : 1 ≤ m) (h4 : m ≤ 12) : 1721426 + 365 * (y - 1) + (y - 1).fdiv 4 - (y - 1).fdiv 100 + (y - 1).fdiv 400 + (List.take (m - 1).toNat (sizesOf (leapB y))).sum = noonOf y m := by
  rw [Int.fdiv_eq_ediv_of_nonneg _ (by decide), Int.fdiv_eq_ediv_of_nonneg _ (by decide), Int.fdiv_eq_ediv_of_nonneg _ (by decide)]
  unfold noonOf adjOf
  generalize (y - 1) / 4 = p4
  generalize (y - 1) / 100 = p100
  generalize (y - 1) / 400 = p400
  have e : (List.take (m - 1).toNat (sizesOf (leapB y))).sum = (367 * m - 362) / 12 + (if m ≤ 2 then 0 else if leapB y = true then -1 else -2) := by
    cases leapB y <;> rcases months h3 h4 with rfl | rfl | rfl | rfl | rfl | rfl | rfl | rfl | rfl | rfl | rfl | rfl <;> decide
  rw [e]
  omega
theorem size_at {y m : Int} (h3 : 1 ≤ m) (h4 : m ≤ 12) : (sizesOf (leapB y)).getD (m - 1).toNat 0 = lenOf y m := by
  unfold lenOf mdays
  cases leapB y <;> rcases months h3 h4 with rfl | rfl | rfl | rfl | rfl | rfl | rfl | rfl | rfl | rfl | rfl | rfl <;> decide
theorem len_range {y m : Int} (h3 : 1 ≤ m) (h4 : m ≤ 12) : 28 ≤ lenOf y m ∧ lenOf y m ≤ 31 := by
  unfold lenOf mdays
  cases leapB y <;> rcases months h3 h4 with rfl | rfl | rfl | rfl | rfl | rfl | rfl | rfl | rfl | rfl | rfl | rfl <;> decide
theorem noon_range {y m : Int} (h1 : 1 ≤ y) (h2 : y ≤ 9000) (h3 : 1 ≤ m) (h4 : m ≤ 12) : 1721426 ≤ noonOf y m ∧ noonOf y m < 8000000 := by
  unfold noonOf adjOf
  split
  · omega
  · split <;> omega
theorem leap_time (y : Int) : PySem.Builtin.Time.timeIsLeap y = leapB y := by
  unfold PySem.Builtin.Time.timeIsLeap leapB
  by_cases h1 : y % 4 = 0 <;> by_cases h2 : y % 100 = 0 <;> by_cases h3 : y % 400 = 0 <;> simp [h1, h2, h3]
theorem wd_noon {y m : Int} (h3 : 1 ≤ m) (h4 : m ≤ 12) : wdOf y m = noonOf y m % 7 := by
  unfold wdOf PySem.Builtin._datetime.weekdayOf PySem.Builtin._datetime.toOrdinal noonOf adjOf
  rw [leap_time]
  have e : PySem.Builtin.Time.timeDaysBefore (leapB y) m = (367 * m - 362) / 12 + (if m ≤ 2 then 0 else if leapB y = true then -1 else -2) := by
    cases leapB y <;> rcases months h3 h4 with rfl | rfl | rfl | rfl | rfl | rfl | rfl | rfl | rfl | rfl | rfl | rfl <;> decide
  rw [e]
  dsimp only
  generalize (if m ≤ 2 then (0 : Int) else if leapB y = true then -1 else -2) = z
  omega
theorem leap_a {y : Int} (h : y.fmod 400 = 0) : leapB y = true := by
  rw [fmod400] at h
  unfold leapB
  rw [decide_eq_true (show y % 4 = 0 by omega), decide_eq_true h]
  simp
end Mine
end
section
open PySem PySem.W PySem.Calls PyProof.Rows PySem.Float64 PySem.Flt
namespace Mine
theorem leap_b {y : Int} (h4 : y.fmod 4 = 0) (h : y.fmod 100 ≠ 0) : leapB y = true := by
  rw [fmod4] at h4
  rw [fmod100] at h
  unfold leapB
  rw [decide_eq_true h4, decide_eq_false h]
  rfl
theorem leap_c {y : Int} (h4 : y.fmod 400 ≠ 0) (h : y.fmod 100 = 0) : leapB y = false := by
  rw [fmod400] at h4
  rw [fmod100] at h
  unfold leapB
  rw [decide_eq_true h, decide_eq_false h4]
  simp
theorem leap_d {y : Int} (h : y.fmod 4 ≠ 0) : leapB y = false := by
  rw [fmod4] at h
  unfold leapB
  rw [decide_eq_false h]
  rfl
theorem far_range (z : Int) : 0 ≤ z.fmod (10 ^ Int.toNat 6) ∧ z.fmod (10 ^ Int.toNat 6) < 1000000 := by
  have e : (10 : Int) ^ Int.toNat 6 = 1000000 := by decide
  rw [e]
  exact ⟨Int.fmod_nonneg_of_pos _ (by decide), Int.fmod_lt_of_pos _ (by decide)⟩
theorem mod_range (z : Int) {k : Int} (h : 0 < k) : 0 ≤ z.fmod k ∧ z.fmod k < k := ⟨Int.fmod_nonneg_of_pos _ h, Int.fmod_lt_of_pos _ h⟩
theorem law_9m (w : World) (h₀ : Heap) (L : Addr) (y m d far : Int) (t1 t2 t3 t4 : Tok) (vP vS vL : Value) (m0 : Str → Option Value) (b : Bool) (hb : leapB y = b) (hg : 0 ≤ far ∧ far < 1000000) (h1 : 1 ≤ y) (h2 : y ≤ 9000) (h3 : 1 ≤ m) (h4 : m ≤ 12) (h5 : 0 ≤ d ∧ d < 7) :
    Seg w (lawBody.drop 9) (fun z => if z = Str.ofString "size" then some (.int ((sizesOf b).getD (m - 1).toNat 0) t1) else if z = Str.ofString "past" then some vP else if z = Str.ofString "sizes" then some vS else if z = Str.ofString "long" then some vL else if z = Str.ofString "far" then some (.int far t2) else if z = Str.ofString "month" then some (.int m t3) else if z = Str.ofString "year" then some (.int y t4) else m0 z) [] h₀ L
      (1721426 + 365 * (y - 1) + (y - 1).fdiv 4 - (y - 1).fdiv 100 + (y - 1).fdiv 400 + (List.take (m - 1).toNat (sizesOf b)).sum) d (Done h₀ L) := by
  subst hb
  rw [noon_sum h3 h4, size_at h3 h4]
  exact law_9 w h₀ L y m d (noonOf y m) (lenOf y m) far (fwOf y m d) t1 t2 t3 t4 vP vS vL m0 hg.1 hg.2 h1 h2 h3 h4 h5.1 h5.2 (len_range h3 h4).1 (len_range h3 h4).2 (noon_range h1 h2 h3 h4).1 (noon_range h1 h2 h3 h4).2 rfl rfl rfl
    (by unfold fwOf; omega) (by unfold fwOf; omega) (by have hw := wd_noon (y := y) h3 h4; unfold fwOf; rw [hw]; omega)
end Mine
end
section
open PySem PySem.W PySem.Calls PyProof.Rows PySem.Float64 PySem.Flt
namespace Mine
local macro_rules | `(tactic| walk_at "none") => `(tactic| skip)
theorem size_pick {prog : Program} {w : World} {A : Around} {E : Value → Shared → Prop} {s : Shared} {env : Env} {test : Expr} {p1 p2 pos : Pos} {b : Bool} {Q : Value → Shared → Prop}
    (h : wpAny (model prog w) A (isTrue test env (eval test env)) (fun c s' => c = b ∧ ∀ q t tk, q = (if b = true then 29 else 28) → Q (.int q t) { s' with toks := tk }) E s) :
    wpAny (model prog w) A (eval (.IfExp test (.Constant (.int 29) 0 p1) (.Constant (.int 28) 0 p2) pos) env) Q E s := by
  refine wpAny_IfExp (wpAny_mono h (fun c s' hq => ?_) fun _ _ e => e)
  obtain ⟨rfl, hq⟩ := hq
  cases c
  · exact wpAny_Constant_int (hq 28 _ _ rfl)
  · exact wpAny_Constant_int (hq 29 _ _ rfl)
theorem yr (z : Int) : 1 ≤ 1 + z.fmod 9000 ∧ 1 + z.fmod 9000 ≤ 9000 := by have := mod_range z (k := 9000) (by decide); omega
theorem mo (z : Int) : 1 ≤ 1 + z.fmod 12 ∧ 1 + z.fmod 12 ≤ 12 := by have := mod_range z (k := 12) (by decide); omega
theorem leap_a2 {y : Int} (h : y.fmod 400 = 0) : leapB y = (y.fmod 400 == 0) := by rw [leap_a h, h]; rfl
theorem leap_e2 {y : Int} (h : y.fmod 400 ≠ 0) (h4 : y.fmod 4 = 0) : leapB y = (y.fmod 100 != 0) := by
  by_cases h1 : y.fmod 100 = 0
  · rw [leap_c h h1, h1]; rfl
  · rw [leap_b h4 h1]; exact (bne_iff_ne.mpr h1).symm
theorem leap_d2 {y : Int} (h : y.fmod 4 ≠ 0) : leapB y = (y.fmod 4 == 0) := by rw [leap_d h]; exact (beq_eq_false_iff_ne.mpr h).symm
local macro_rules | `(tactic| ktr_room) => `(tactic| ((try simp only [depth_under_make, depth_under_kw, depth_in1, depth_deeper, depth_caller]); (try dsimp only [ktrTop]); omega))
local macro_rules | `(tactic| k_room) => `(tactic| ktr_room)
local macro_rules | `(tactic| ktr_units) => `(tactic| (have hcL9 := cLine_is; (try simp only [units_in1, units_deeper, Around.mark_units, units_caller]); (try dsimp only [ktrTop]); omega))
local macro_rules | `(tactic| walk_at "isH tac") => `(tactic| first | assumption | exact isH_half | exact isH_epoch)
local macro_rules | `(tactic| walk_at "binaryOp Add float float") => `(tactic| ((with_reducible show wpAny _ _ (binaryOp Operator.Add (Value.float _ _) (Value.float _ _)) _ _ _); refine' add_ff_H ?hx ?hy ?hb ?_; (case hx => walk_at "isH tac"); (case hy => walk_at "isH tac"); (case hb => omega); intro zF hF))
local macro_rules | `(tactic| walk_at "binaryOp Add float int") => `(tactic| ((with_reducible show wpAny _ _ (binaryOp Operator.Add (Value.float _ _) (Value.int _ _)) _ _ _); first
  | (refine' add_fi_H ?hx ?hn ?hb ?_; (case hx => walk_at "isH tac"); (case hn => omega); (case hb => omega); intro zF hF)
  | (refine' add_fi_raw ?hn ?_; (case hn => omega))))
local macro_rules | `(tactic| walk_at "binaryOp Sub float int") => `(tactic| ((with_reducible show wpAny _ _ (binaryOp Operator.Sub (Value.float _ _) (Value.int _ _)) _ _ _); refine' sub_fi_H ?hx ?hn ?hb ?_; (case hx => walk_at "isH tac"); (case hn => omega); (case hb => omega); intro zF hF))
local macro_rules | `(tactic| walk_at "inplaceOp Add int float") => `(tactic| ((with_reducible show wpAny _ _ (inplaceOp Operator.Add (Value.int _ _) (Value.float _ _)) _ _ _); refine' iadd_if_H ?hx ?hn ?hb ?_; (case hx => walk_at "isH tac"); (case hn => omega); (case hb => omega); intro zF hF))
local macro_rules | `(tactic| walk_at "binaryOp Mult int float") => `(tactic| ((with_reducible show wpAny _ _ (binaryOp Operator.Mult (Value.int 2 _) (Value.float _ _)) _ _ _); refine' mul_if_H ?hx ?hn ?hb ?_; (case hx => walk_at "isH tac"); (case hn => omega); (case hb => omega); intro zF hF))
local macro_rules | `(tactic| walk_at "binaryOp Div int int") => `(tactic| ((with_reducible show wpAny _ _ (binaryOp Operator.Div (Value.int _ _) (Value.int _ _)) _ _ _); refine' div_ii_q ?hA ?h0 ?h1 ?h2 ?h3 ?_; (case hA => with_unfolding_all rfl); (case h0 => omega); (case h1 => omega); (case h2 => omega); (case h3 => omega); intro zF eF hF))
local macro_rules | `(tactic| walk_at "call builtin:math.trunc") => `(tactic| ((with_reducible show wpAny _ _ (call _ [Value.float _ _]) _ _ _); refine' trunc_f_H ?hA ?hx ?h0 ?_; (case hA => with_unfolding_all rfl); (case hx => walk_at "isH tac"); (case h0 => omega)))
local macro_rules | `(tactic| walk_at "call builtin:math.floor") => `(tactic| ((with_reducible show wpAny _ _ (call _ [Value.float _ _]) _ _ _); refine' floor_f_q ?hA ?hx ?_; (case hA => with_unfolding_all rfl); (case hx => first | assumption | exact month_q (by omega) (by omega) (by omega) (by assumption))))
local macro_rules | `(tactic| walk_at "call type:int") => `(tactic| ((with_reducible show wpAny _ _ (call _ [Value.float _ _]) _ _ _); refine' int_f_H ?hA ?hx ?h0 ?_; (case hA => with_unfolding_all rfl); (case hx => walk_at "isH tac"); (case h0 => omega)))
local macro_rules | `(tactic| walk_at "compareOp NotEq float float") => `(tactic| ((with_reducible show wpAny _ _ (compareOp CmpOp.NotEq (Value.float _ _) (Value.float _ _)) _ _ _); refine' ne_ff_H ?hx ?hy ?_; (case hx => walk_at "isH tac"); (case hy => walk_at "isH tac")))
local macro_rules | `(tactic| walk_at "prune ite") => `(tactic| (simp only [decide_eq_true_eq, beq_iff_eq, bne_iff_ne, ne_eq, Bool.not_eq_true', decide_eq_false_iff_not, fdiv2]; omega))
local macro_rules | `(tactic| walk_at "ite") => `(tactic| first | (refine' ite_neg ?hc ?_; (case hc => walk_at "prune ite")) | (refine' ite_pos ?hc ?_; (case hc => walk_at "prune ite")))
local macro_rules | `(tactic| walk_at "claim ends") => `(tactic| (
  (case k1 => first | k_asm | fail "claim: below") ; (case k2 => first | k_asm | fail "claim: frame"); (case k3 => first | k_asm | fail "claim: part"); (case k4 => first | k_asm | fail "claim: ledger"); (case k5 => first | k_asm | fail "claim: top")
  (case kK => first | exact rfl | assumption | fail "claim: kind")
  (case kd => first | ktr_room | fail "claim: room")
  (case ku => first | ktr_units | fail "claim: units")))
local macro_rules | `(tactic| walk_at "claim news") => `(tactic| first | k_asm | (refine' cb_drop ?cbN ?cbS; (case cbN => assumption); (case cbS => kcj_all)))
local macro_rules | `(tactic| walk_at "execs cons") => `(tactic| ((with_reducible show wpAny _ _ (execs (Stmt.Assign [Expr.Name (Str.ofString "days") _] _ _ :: _) _) _ _ _); refine stop9 ?_))
local macro_rules | `(tactic| walk_at "eval IfExp") => `(tactic| (k_here; k_dflt (refine' size_pick ?_)))
local macro_rules | `(tactic| walk_at "And") => `(tactic| (refine ⟨rfl, ?_⟩; intro q9 t9 tk9 hq9))
theorem law_5 (w : World) (h₀ : Heap) (L : Addr) (y m d far : Int) (t2 t3 t4 : Tok) (m0 : Str → Option Value) (b : Bool) (hb : leapB y = b) (hg : 0 ≤ far ∧ far < 1000000) (h1 : 1 ≤ y) (h2 : y ≤ 9000) (h3 : 1 ≤ m) (h4 : m ≤ 12) (h5 : 0 ≤ d ∧ d < 7) :
  ∀ (mean : ExcName → Option Value) (mg mb : Str → Option Value) (fa : Addr) (cd : Value) (oN oW : Obj) (v₀ : Option Value) (tW : Tok) (s : Shared) (Q : Flow → Shared → Prop),
    Below callerA h₀ [] h₀ → Fr h₀ L s.heap (fun z => if z = Str.ofString "long" then some (.bool b) else if z = Str.ofString "far" then some (.int far t2) else if z = Str.ofString "month" then some (.int m t3) else if z = Str.ofString "year" then some (.int y t4) else m0 z) → (Mine.hd.heap_39 w.params).In h₀ → News h₀ L s.heap [(L + 1 + 1, oN), (L + 1, oW)] → Top Mine.hd.view_39 LS mean mg mb h₀ →
    oN.data = .cell v₀ → oW.data = .cell (some (.int d tW)) → Done h₀ L Q s [] →
      wpAny (model PySem.Challenge.rw_bd5015_01.row.prog w) (callerA.deeper (lawEnv lawScope L fa cd)) (execs (lawBody.drop 5) (lawEnv lawScope L fa cd)) Q (fun _ _ => False) s := by
  w_top off
  intro mean mg mb fa cd oN oW v₀ tW s Q B F X N T dN dW hQ
  have conc : ∀ b sc, b = (lawBody.drop 5) → sc = lawScope → wpAny (model PySem.Challenge.rw_bd5015_01.row.prog w) (callerA.deeper (lawEnv sc L fa cd)) (execs b (lawEnv sc L fa cd)) Q (fun _ _ => False) s := by
    intro bd sc hbd hs
    conv at hbd => rhs; whnf
    conv at hs => rhs; whnf
    subst hbd hs
    k_steps
    all_goals (try k_data)
    unfold Stop9
    rename Fr _ _ _ _ => hF
    rename News _ _ _ _ => hN
    rename Int => q9
    rename q9 = _ => hq9
    subst hq9
    exact law_9m w h₀ L y m d far _ t2 t3 t4 _ _ _ m0 b hb hg h1 h2 h3 h4 h5 mean mg mb fa cd _ oW _ tW _ Q B hF X (fun p hp => hN p (.tail _ (.tail _ hp))) T (by assumption) dW hQ
  exact conc _ _ rfl rfl
end Mine
end
section
open PySem PySem.W PySem.Calls PyProof.Rows PySem.Float64 PySem.Flt
namespace Mine
local macro_rules | `(tactic| ktr_room) => `(tactic| ((try simp only [depth_under_make, depth_under_kw, depth_in1, depth_deeper, depth_caller]); (try dsimp only [ktrTop]); omega))
local macro_rules | `(tactic| k_room) => `(tactic| ktr_room)
local macro_rules | `(tactic| ktr_units) => `(tactic| (have hcL9 := cLine_is; (try simp only [units_in1, units_deeper, Around.mark_units, units_caller]); (try dsimp only [ktrTop]); omega))
local macro_rules | `(tactic| walk_at "isH tac") => `(tactic| first | assumption | exact isH_half | exact isH_epoch)
local macro_rules | `(tactic| walk_at "binaryOp Add float float") => `(tactic| ((with_reducible show wpAny _ _ (binaryOp Operator.Add (Value.float _ _) (Value.float _ _)) _ _ _); refine' add_ff_H ?hx ?hy ?hb ?_; (case hx => walk_at "isH tac"); (case hy => walk_at "isH tac"); (case hb => omega); intro zF hF))
local macro_rules | `(tactic| walk_at "binaryOp Add float int") => `(tactic| ((with_reducible show wpAny _ _ (binaryOp Operator.Add (Value.float _ _) (Value.int _ _)) _ _ _); first
  | (refine' add_fi_H ?hx ?hn ?hb ?_; (case hx => walk_at "isH tac"); (case hn => omega); (case hb => omega); intro zF hF)
  | (refine' add_fi_raw ?hn ?_; (case hn => omega))))
local macro_rules | `(tactic| walk_at "binaryOp Sub float int") => `(tactic| ((with_reducible show wpAny _ _ (binaryOp Operator.Sub (Value.float _ _) (Value.int _ _)) _ _ _); refine' sub_fi_H ?hx ?hn ?hb ?_; (case hx => walk_at "isH tac"); (case hn => omega); (case hb => omega); intro zF hF))
local macro_rules | `(tactic| walk_at "inplaceOp Add int float") => `(tactic| ((with_reducible show wpAny _ _ (inplaceOp Operator.Add (Value.int _ _) (Value.float _ _)) _ _ _); refine' iadd_if_H ?hx ?hn ?hb ?_; (case hx => walk_at "isH tac"); (case hn => omega); (case hb => omega); intro zF hF))
local macro_rules | `(tactic| walk_at "binaryOp Mult int float") => `(tactic| ((with_reducible show wpAny _ _ (binaryOp Operator.Mult (Value.int 2 _) (Value.float _ _)) _ _ _); refine' mul_if_H ?hx ?hn ?hb ?_; (case hx => walk_at "isH tac"); (case hn => omega); (case hb => omega); intro zF hF))
local macro_rules | `(tactic| walk_at "binaryOp Div int int") => `(tactic| ((with_reducible show wpAny _ _ (binaryOp Operator.Div (Value.int _ _) (Value.int _ _)) _ _ _); refine' div_ii_q ?hA ?h0 ?h1 ?h2 ?h3 ?_; (case hA => with_unfolding_all rfl); (case h0 => omega); (case h1 => omega); (case h2 => omega); (case h3 => omega); intro zF eF hF))
local macro_rules | `(tactic| walk_at "call builtin:math.trunc") => `(tactic| ((with_reducible show wpAny _ _ (call _ [Value.float _ _]) _ _ _); refine' trunc_f_H ?hA ?hx ?h0 ?_; (case hA => with_unfolding_all rfl); (case hx => walk_at "isH tac"); (case h0 => omega)))
local macro_rules | `(tactic| walk_at "call builtin:math.floor") => `(tactic| ((with_reducible show wpAny _ _ (call _ [Value.float _ _]) _ _ _); refine' floor_f_q ?hA ?hx ?_; (case hA => with_unfolding_all rfl); (case hx => first | assumption | exact month_q (by omega) (by omega) (by omega) (by assumption))))
local macro_rules | `(tactic| walk_at "call type:int") => `(tactic| ((with_reducible show wpAny _ _ (call _ [Value.float _ _]) _ _ _); refine' int_f_H ?hA ?hx ?h0 ?_; (case hA => with_unfolding_all rfl); (case hx => walk_at "isH tac"); (case h0 => omega)))
local macro_rules | `(tactic| walk_at "compareOp NotEq float float") => `(tactic| ((with_reducible show wpAny _ _ (compareOp CmpOp.NotEq (Value.float _ _) (Value.float _ _)) _ _ _); refine' ne_ff_H ?hx ?hy ?_; (case hx => walk_at "isH tac"); (case hy => walk_at "isH tac")))
local macro_rules | `(tactic| walk_at "prune ite") => `(tactic| (simp only [decide_eq_true_eq, beq_iff_eq, bne_iff_ne, ne_eq, Bool.not_eq_true', decide_eq_false_iff_not, fdiv2]; omega))
local macro_rules | `(tactic| walk_at "ite") => `(tactic| first | (refine' ite_neg ?hc ?_; (case hc => walk_at "prune ite")) | (refine' ite_pos ?hc ?_; (case hc => walk_at "prune ite")))
local macro_rules | `(tactic| walk_at "claim ends") => `(tactic| (
  (case k1 => first | k_asm | fail "claim: below") ; (case k2 => first | k_asm | fail "claim: frame"); (case k3 => first | k_asm | fail "claim: part"); (case k4 => first | k_asm | fail "claim: ledger"); (case k5 => first | k_asm | fail "claim: top")
  (case kK => first | exact rfl | assumption | fail "claim: kind")
  (case kd => first | ktr_room | fail "claim: room")
  (case ku => first | ktr_units | fail "claim: units")))
local macro_rules | `(tactic| walk_at "claim news") => `(tactic| first | k_asm | (refine' cb_drop ?cbN ?cbS; (case cbN => assumption); (case cbS => kcj_all)))
local macro_rules | `(tactic| walk_at "execs cons") => `(tactic| ((with_reducible show wpAny _ _ (execs (Stmt.Assign [Expr.Name (Str.ofString "sizes") _] _ _ :: _) _) _ _ _); refine stop9 ?_))
theorem law_holds : PySem.Challenge.rw_bd5015_01.Holds := Mine.hd (by
  w_top off
  k_go0
  all_goals (try k_fold)
  k_steps
  all_goals (
    unfold Stop9
    rename List Int => sc
    rename Fr _ _ _ _ => hF
    rename News _ _ _ _ => hN
    refine wpAny_mono (law_5 _ _ _ (1 + (cellAt sc 0 0).fmod 9000) (1 + (cellAt sc 1 0).fmod 12) ((cellAt sc 2 0).fmod 7) ((cellAt sc 3 0).fmod (10 ^ Int.toNat 6)) _ _ _ _ _ ?hb (far_range _) (yr _).1 (yr _).2 (mo _).1 (mo _).2 (mod_range _ (by decide)) _ _ _ _ _ _ _ _ _ _ _ (by assumption) hF (by assumption) hN (by assumption) (by assumption) (by assumption) ?_) (fun _ _ h => h) (fun _ _ h => h.elim)
    (case hb => first | exact leap_a2 (by assumption) | exact leap_e2 (by assumption) (by assumption) | exact leap_d2 (by assumption))
    intro m9 h9 tk9 F9
    k_steps))
end Mine
end
theorem PySem.Challenge.cw_bd5015_01_holds : PySem.Challenge.rw_bd5015_01.Holds :=
  Mine.law_holds
