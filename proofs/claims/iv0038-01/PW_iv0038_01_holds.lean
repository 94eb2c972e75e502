import PyProof.Rows.All
import Wide.All
import OpenK.AllK
import Wide.FinOn
import PySem.Challenge.RW_iv0038_01
set_option Elab.async false
namespace Mine

theorem fd_id (a n : Int) : n * a.fdiv n + a.fmod n = a := Int.mul_fdiv_add_fmod a n

/-- what the loop leaves in lm -/
noncomputable def eu (lm low hm high : Int) : Int :=
  if 1 < low then eu (hm - lm * high.fdiv low) (high - low * high.fdiv low) lm low else lm
termination_by low.toNat
decreasing_by
  rename_i h
  rw [← Int.fmod_def]
  have _h1 := Int.fmod_nonneg_of_pos high (b := low) (by omega)
  have _h2 := Int.fmod_lt_of_pos high (b := low) (by omega)
  omega

theorem eu_step {lm low hm high : Int} (h : 1 < low) : eu (hm - lm * high.fdiv low) (high - low * high.fdiv low) lm low = eu lm low hm high := by
  conv => rhs; rw [eu]
  rw [if_pos h]
theorem eu_stop {lm low hm high : Int} (h : ¬ 1 < low) : eu lm low hm high = lm := by
  rw [eu, if_neg h]

noncomputable def pinv (a n : Int) : Int := if a.fmod n = 0 then 0 else (eu 1 ((a.fmod n).fmod n) 0 n).fmod n
noncomputable def sinv (a n : Int) : Int := if a = 0 then 0 else (eu 1 (a.fmod n) 0 n).fmod n
def shared (a b : Int) : Int := (Int.gcd a b : Int)

theorem gcd_step (low high : Int) : Int.gcd (high - low * high.fdiv low) low = Int.gcd low high := by
  rw [Int.gcd_sub_right_left_of_dvd high (Int.dvd_mul_right low _), Int.gcd_comm]

theorem eu_inv {n b : Int} : ∀ (k : Nat) (lm low hm high : Int), low.toNat ≤ k → 0 ≤ low → low < high → 2 ≤ high → Int.gcd low high = 1 → n ∣ lm * b - low → n ∣ hm * b - high → n ∣ eu lm low hm high * b - 1
  | k, lm, low, hm, high, hk, h0, hlt, h2, hg, hl, hh => by
    by_cases h : 1 < low
    · rw [← eu_step h]
      cases k with
      | zero => omega
      | succ k =>
        have e : high - low * high.fdiv low = high.fmod low := (Int.fmod_def _ _).symm
        have h3 := Int.fmod_nonneg_of_pos high (b := low) (by omega)
        have h4 := Int.fmod_lt_of_pos high (b := low) (by omega)
        refine eu_inv k _ _ _ _ (by rw [e]; omega) (by rw [e]; omega) (by rw [e]; omega) (by omega) ?_ ?_ hl
        · rw [gcd_step]; exact hg
        · obtain ⟨c, hc⟩ := hl
          obtain ⟨d, hd⟩ := hh
          exact ⟨d - high.fdiv low * c, by grind⟩
    · rw [eu_stop h]
      have : low = 1 := by
        rcases (show low = 0 ∨ low = 1 by omega) with e | e
        · subst e
          rw [Int.gcd_zero_left] at hg
          omega
        · exact e
      subst this
      exact hl

theorem fmod_bounds {n : Int} (a : Int) (hn : 2 ≤ n) : 0 ≤ a.fmod n ∧ a.fmod n < n :=
  ⟨Int.fmod_nonneg_of_pos a (by omega), Int.fmod_lt_of_pos a (by omega)⟩
theorem fmod_small {a n : Int} (h0 : 0 ≤ a) (h1 : a < n) : a.fmod n = a := by
  rw [Int.fmod_eq_emod_of_nonneg a (by omega)]; exact Int.emod_eq_of_lt h0 h1
theorem fmod_zero_iff {a n : Int} : a.fmod n = 0 ↔ n ∣ a := (Int.dvd_iff_fmod_eq_zero).symm
theorem dvd_sub_fmod (a n : Int) : n ∣ a - a.fmod n := ⟨a.fdiv n, by have := fd_id a n; omega⟩

theorem shared_ne {n b : Int} (hn : 2 ≤ n) (hg : shared b n = 1) : b ≠ 0 := by
  intro e
  subst e
  unfold shared at hg
  rw [Int.gcd_zero_left] at hg
  omega

/-- the first part: what pinv gives for a number without a common divisor -/
theorem pinv_core {a n : Int} (hn : 2 ≤ n) (hg : shared (a.fmod n) n = 1) : 0 ≤ pinv a n ∧ pinv a n < n ∧ n ∣ pinv a n * a - 1 := by
  have hb := fmod_bounds a hn
  have hne := shared_ne hn hg
  have e2 : (a.fmod n).fmod n = a.fmod n := fmod_small hb.1 hb.2
  unfold pinv
  rw [if_neg hne, e2]
  have hL : n ∣ eu 1 (a.fmod n) 0 n * (a.fmod n) - 1 := by
    refine eu_inv _ _ _ _ _ (Nat.le_refl _) hb.1 hb.2 hn ?_ ⟨0, by omega⟩ ⟨-1, by omega⟩
    unfold shared at hg
    omega
  generalize eu 1 (a.fmod n) 0 n = L at hL
  have h3 := fmod_bounds L hn
  refine ⟨h3.1, h3.2, ?_⟩
  obtain ⟨c, hc⟩ := hL
  obtain ⟨d, hd⟩ := dvd_sub_fmod a n
  obtain ⟨e, he⟩ := dvd_sub_fmod L n
  generalize a.fmod n = b at hc hd
  generalize L.fmod n = M at he
  refine ⟨c + L * d - e * a, ?_⟩
  have h1 : a = b + n * d := by omega
  have h2 : M = L - n * e := by omega
  subst h2
  subst h1
  grind

theorem shared_of_inv {f a n : Int} (_hn : 2 ≤ n) (h0 : 0 ≤ f) (h1 : f < n) (h : n ∣ f * a - 1) : shared (f.fmod n) n = 1 := by
  rw [fmod_small h0 h1]
  unfold shared
  have hd : ((Int.gcd f n : Nat) : Int) ∣ 1 := by
    have d1 : ((Int.gcd f n : Nat) : Int) ∣ f := Int.gcd_dvd_left ..
    have d2 : ((Int.gcd f n : Nat) : Int) ∣ n := Int.gcd_dvd_right ..
    have d3 := Int.dvd_trans d2 h
    have d4 : ((Int.gcd f n : Nat) : Int) ∣ f * a := Int.dvd_mul_of_dvd_left d1
    have d5 := Int.dvd_sub d4 d3
    have e : f * a - (f * a - 1) = 1 := by omega
    rw [e] at d5
    exact d5
  have := Int.eq_one_of_dvd_one (by omega) hd
  exact this

theorem pinv_pinv {a n : Int} (hn : 2 ≤ n) (hg : shared (a.fmod n) n = 1) : pinv (pinv a n) n = a.fmod n := by
  obtain ⟨f0, f1, fd⟩ := pinv_core hn hg
  generalize pinv a n = f at f0 f1 fd
  obtain ⟨g0, g1, gd⟩ := pinv_core hn (shared_of_inv hn f0 f1 fd)
  generalize pinv f n = g at g0 g1 gd
  have hb := fmod_bounds a hn
  obtain ⟨d, hd⟩ := dvd_sub_fmod a n
  generalize a.fmod n = b at hb hd
  obtain ⟨c, hc⟩ := fd
  obtain ⟨e, he⟩ := gd
  have hdv : n ∣ g - b := by
    refine ⟨e * a - g * c + d, ?_⟩
    have h1 : b = a - n * d := by omega
    subst h1
    grind
  obtain ⟨k, hk⟩ := hdv
  have k0 : k = 0 := by
    rcases Int.lt_trichotomy k 0 with hk0 | hk0 | hk0
    · have : n * k ≤ n * (-1) := Int.mul_le_mul_of_nonneg_left (by omega) (by omega)
      omega
    · exact hk0
    · have : n * 1 ≤ n * k := Int.mul_le_mul_of_nonneg_left (by omega) (by omega)
      omega
  subst k0
  omega

theorem sinv_eq {a n : Int} (hn : 2 ≤ n) (hg : shared (a.fmod n) n = 1) : sinv a n = pinv a n := by
  have hb := fmod_bounds a hn
  have hne := shared_ne hn hg
  have ha : a ≠ 0 := by
    intro e
    subst e
    exact hne (by rw [Int.zero_fmod])
  unfold sinv pinv
  rw [if_neg ha, if_neg hne, fmod_small hb.1 hb.2]

/-- all that the law asks of one number -/
theorem pinv_fact (a n : Int) (hn : 2 ≤ n) (hg : shared (a.fmod n) n = 1) :
    0 ≤ pinv a n ∧ pinv a n < n ∧ (pinv a n * a - 1).fmod n = 0 ∧ sinv a n = pinv a n ∧ pinv (pinv a n) n = a.fmod n := by
  obtain ⟨h1, h2, h3⟩ := pinv_core hn hg
  exact ⟨h1, h2, fmod_zero_iff.mpr h3, sinv_eq hn hg, pinv_pinv hn hg⟩

theorem sinv_zero (n : Int) : sinv 0 n = 0 := by unfold sinv; rw [if_pos rfl]
theorem pinv_mul (k n : Int) : pinv (k * n) n = 0 := by
  unfold pinv
  rw [if_pos (fmod_zero_iff.mpr (Int.dvd_mul_left ..))]

/-! the bounds of the loop -/
/-- what holds at each turn of the loop, all in one word -/
def Turn (a n lm low hm high : Int) : Prop :=
  eu lm low hm high = eu 1 (a.fmod n) 0 n ∧ 0 ≤ low ∧ low < high ∧ high ≤ n ∧
    ((0 ≤ lm ∧ hm ≤ 0 ∧ lm * high - hm * low = n) ∨ (lm ≤ 0 ∧ 0 ≤ hm ∧ hm * low - lm * high = n))

theorem turn_start {a n : Int} (hn : 2 ≤ n) : Turn a n 1 (a.fmod n) 0 n := by
  have hb := fmod_bounds a hn
  exact ⟨rfl, hb.1, hb.2, by omega, .inl ⟨by omega, by omega, by omega⟩⟩

theorem turn_step {a n lm low hm high : Int} (h : 1 < low) (T : Turn a n lm low hm high) :
    Turn a n (hm - lm * high.fdiv low) (high - low * high.fdiv low) lm low := by
  obtain ⟨he, h0, hlt, hn, hs⟩ := T
  have e : high - low * high.fdiv low = high.fmod low := (Int.fmod_def _ _).symm
  have h3 := Int.fmod_nonneg_of_pos high (b := low) (by omega)
  have h4 := Int.fmod_lt_of_pos high (b := low) (by omega)
  have hr : 0 ≤ high.fdiv low := Int.fdiv_nonneg (by omega) (by omega)
  refine ⟨by rw [eu_step h]; exact he, by rw [e]; exact h3, by rw [e]; exact h4, by omega, ?_⟩
  generalize high.fdiv low = r at hr
  rcases hs with ⟨p1, p2, p3⟩ | ⟨p1, p2, p3⟩
  · right
    have := Int.mul_nonneg p1 hr
    refine ⟨by omega, p1, ?_⟩
    grind
  · left
    have := Int.mul_nonneg (show 0 ≤ -lm by omega) hr
    rw [Int.neg_mul] at this
    refine ⟨by omega, p1, ?_⟩
    grind

theorem turn_falls {a n lm low hm high : Int} (h : 1 < low) (T : Turn a n lm low hm high) : (high - low * high.fdiv low).toNat < low.toNat := by
  obtain ⟨-, h1, h2, -, -⟩ := turn_step h T
  omega

theorem turn_end {a n lm low hm high : Int} (h : ¬ 1 < low) (T : Turn a n lm low hm high) : lm = eu 1 (a.fmod n) 0 n := by
  obtain ⟨he, -⟩ := T
  rw [eu_stop h] at he
  exact he

theorem turn_lm {a n lm low hm high : Int} (T : Turn a n lm low hm high) : lm.natAbs ≤ n.natAbs := by
  obtain ⟨-, h0, hlt, hn, hs⟩ := T
  rcases hs with ⟨p1, p2, p3⟩ | ⟨p1, p2, p3⟩
  · have q1 := Int.mul_nonneg (show 0 ≤ -hm by omega) h0
    have q2 : lm * 1 ≤ lm * high := Int.mul_le_mul_of_nonneg_left (by omega) p1
    rw [Int.neg_mul] at q1
    omega
  · have q1 := Int.mul_nonneg p2 h0
    have q2 : (-lm) * 1 ≤ (-lm) * high := Int.mul_le_mul_of_nonneg_left (by omega) (by omega)
    simp only [Int.neg_mul] at q2
    omega

theorem turn_low {a n lm low hm high : Int} (T : Turn a n lm low hm high) : low.natAbs ≤ n.natAbs ∧ high.natAbs ≤ n.natAbs := by
  obtain ⟨-, h0, hlt, hn, -⟩ := T
  omega

/-! the loop of _law_shared -/
theorem shared_nil (a : Int) (h : 0 ≤ a) : shared a 0 = a := by
  unfold shared
  rw [Int.gcd_zero_right]
  omega
theorem shared_step (a b : Int) : shared b (a.fmod b) = shared a b := by
  unfold shared
  have e : a.fmod b = a - b * a.fdiv b := Int.fmod_def _ _
  rw [e, Int.gcd_comm, Int.gcd_sub_right_left_of_dvd a (Int.dvd_mul_right b _)]

/-! deg -/
/-- the last place up to k that holds no 0, or 0 -/
noncomputable def dg (ns : List Int) : Nat → Int
  | 0 => 0
  | k + 1 => if ns.getD (k + 1) 0 = 0 then dg ns k else ((k : Int) + 1)
noncomputable def degL (ns : List Int) : Int := dg ns (ns.length - 1)

theorem dg_on {ns : List Int} {k : Nat} (h : ns.getD k 0 ≠ 0) : dg ns k = k := by
  cases k with
  | zero => rfl
  | succ k => rw [dg, if_neg h]; omega
theorem dg_off {ns : List Int} {k : Nat} (h : ns.getD k 0 = 0) : dg ns k = dg ns (k - 1) := by
  cases k with
  | zero => rfl
  | succ k => rw [dg, if_pos h]; rfl
theorem dg_le (ns : List Int) : ∀ k : Nat, 0 ≤ dg ns k ∧ dg ns k ≤ k
  | 0 => by simp [dg]
  | k + 1 => by
    have := dg_le ns k
    rw [dg]
    split <;> omega
end Mine

open PySem PySem.W PyProof.Rows
namespace Mine
/-- an int of the form's own range -/
def Gb (g : Int) : Prop := Builtin.Int.intBits g ≤ 1048576
theorem gb_cell {ns : List Int} (hl : (PyData.list (ns.map PyData.int)).layable0 = true) (k d : Int) (hd : d.natAbs < 2 ^ 64) : Gb (if k < (ns.length : Int) then ns.getD k.toNat 0 else d) := by
  unfold Gb
  split
  · exact bits_getD hl
  · exact Nat.le_trans (intBits_le_iff.mpr hd) (by decide)
theorem given_open {ys : List Value} {ns : List Int} (h : IntsAre ys (List.map (fun k' => if k' < (ns.length : Int) then ns.getD k'.toNat 0 else 7 * k' + 3) (rangeKs 0 (4 - 0 : Int).toNat)))
    (hl : (PyData.list (ns.map PyData.int)).layable0 = true) :
    ∃ g0 g1 g2 g3 t0 t1 t2 t3, ys = [.int g0 t0, .int g1 t1, .int g2 t2, .int g3 t3] ∧ Gb g0 ∧ Gb g1 ∧ Gb g2 ∧ Gb g3 := by
  have e : rangeKs 0 (4 - 0 : Int).toNat = [0, 1, 2, 3] := by decide
  rw [e] at h
  simp only [List.map_cons, List.map_nil] at h
  obtain ⟨t0, y0, rfl, h1⟩ := h.cons_inv
  obtain ⟨t1, y1, rfl, h2⟩ := h1.cons_inv
  obtain ⟨t2, y2, rfl, h3⟩ := h2.cons_inv
  obtain ⟨t3, y3, rfl, h4⟩ := h3.cons_inv
  have h5 := h4.nil_inv
  subst h5
  exact ⟨_, _, _, _, _, _, _, _, rfl, gb_cell hl _ _ (by decide), gb_cell hl _ _ (by decide), gb_cell hl _ _ (by decide), gb_cell hl _ _ (by decide)⟩

/-- no more than 400 bits -/
def Small (m : Int) : Prop := m.natAbs < 2 ^ 400
def MOk (m : Int) : Prop := 2 ≤ m ∧ Small m
theorem mok_lit {m : Int} (h : (decide (2 ≤ m) && decide (m.natAbs < 2 ^ 400)) = true) : MOk m := by
  rw [Bool.and_eq_true, decide_eq_true_eq, decide_eq_true_eq] at h
  exact h
theorem mok_rest (x : Int) : MOk (2 + x.fmod (10 ^ 40)) := by
  have h1 : (0 : Int) < 10 ^ 40 := by decide
  have h2 : ((10 : Int) ^ 40).natAbs + 2 < 2 ^ 400 := by decide
  have h3 := Int.fmod_nonneg_of_pos x h1
  have h4 := Int.fmod_lt_of_pos x h1
  unfold MOk Small
  generalize (10 : Int) ^ 40 = p at h1 h2 h3 h4 ⊢
  generalize x.fmod p = r at h3 h4 ⊢
  generalize 2 ^ 400 = q at h2 ⊢
  omega

/-- an int is come, all else stands -/
def MPost (P : Int → Prop) (h₀ : Heap) (L : Addr) (mm : Str → Option Value) (news : List (Addr × Obj)) (s : Shared) (v : Value) (s₂ : Shared) : Prop :=
  ∃ m t h' tk', v = .int m t ∧ P m ∧ s₂ = { s with heap := h', toks := tk' } ∧ Fr h₀ L h' mm ∧ News h₀ L h' news
theorem mpost {P : Int → Prop} {h₀ : Heap} {L : Addr} {mm : Str → Option Value} {news : List (Addr × Obj)} {s : Shared} {m : Int} {t : Tok} {h' : Heap} {tk' : Nat} (hp : P m) (F : Fr h₀ L h' mm) (N : News h₀ L h' news) :
    MPost P h₀ L mm news s (.int m t) { s with heap := h', toks := tk' } := ⟨m, t, h', tk', rfl, hp, rfl, F, N⟩
theorem assign_cut {prog : Program} {w : World} {A : Around} {E : Value → Shared → Prop} {s : Shared} {env : Env} {h₀ : Heap} {L : Addr} {mm : Str → Option Value} {news : List (Addr × Obj)} (P : Int → Prop) {x : Str} {pos' pos : Pos} {value : Expr} {Q : Flow → Shared → Prop}
    (_F : Fr h₀ L s.heap mm) (_N : News h₀ L s.heap news)
    (h1 : wpAny (model prog w) A (eval value env) (MPost P h₀ L mm news s) E s)
    (h2 : ∀ m t h' tk', P m → Fr h₀ L h' mm → News h₀ L h' news → wpAny (model prog w) A (storeName env x (.int m t)) (fun _ => Q .next) E { s with heap := h', toks := tk' })
    (hs : swapsWith value (some (.Name x pos')) pos.line env = pure false := by rfl) :
    wpAny (model prog w) A (exec (.Assign [.Name x pos'] value pos) env) Q E s := by
  refine wpAny_Assign_Name (wpAny_mono h1 ?_ fun _ _ x => x) hs
  rintro v s₁ ⟨m, t, h', tk', rfl, hp, rfl, F', N'⟩
  exact h2 m t h' tk' hp F' N'

/-! sizes -/
theorem gb_bits {g : Int} (h : Gb g) : Builtin.Int.intBits g ≤ 1048576 := h
theorem mok_bits {m : Int} (h : 2 ≤ m ∧ MOk m) : Builtin.Int.intBits m ≤ 400 := intBits_le_iff.mpr h.2.2
theorem natAbs_bits {x m : Int} (h : 2 ≤ m ∧ MOk m) (hx : x.natAbs ≤ m.natAbs) : Builtin.Int.intBits x ≤ 400 := intBits_le_of_natAbs hx (mok_bits h)
theorem turn_bits_lm {a n lm low hm high : Int} (T : Turn a n lm low hm high) (h : 2 ≤ n ∧ MOk n) : Builtin.Int.intBits lm ≤ 400 := natAbs_bits h (turn_lm T)
theorem turn_bits_low {a n lm low hm high : Int} (T : Turn a n lm low hm high) (h : 2 ≤ n ∧ MOk n) : Builtin.Int.intBits low ≤ 400 := natAbs_bits h (turn_low T).1
theorem turn_bits_high {a n lm low hm high : Int} (T : Turn a n lm low hm high) (h : 2 ≤ n ∧ MOk n) : Builtin.Int.intBits high ≤ 400 := natAbs_bits h (turn_low T).2

theorem log_of_bits {x : Int} (h : Builtin.Int.intBits x ≤ 400) : x.natAbs.log2 < 9000 := by
  have h1 := intBits_le_iff.mp h
  by_cases h0 : x.natAbs = 0
  · rw [h0]; decide
  · exact (Nat.log2_lt h0).mpr (Nat.lt_of_lt_of_le h1 (Nat.pow_le_pow_right (by decide) (by decide)))
theorem turn_py {a n lm low hm high x : Int} (T : Turn a n lm low hm high) (h : 2 ≤ n ∧ MOk n) : Builtin.divisionGoesByPylong x low = false :=
  PyProof.noPylong_of_log2 (log_of_bits (turn_bits_low T h))

/-! the words -/
theorem w_start {a n : Int} (h : 2 ≤ n ∧ MOk n) : Turn a n 1 (a.fmod n) 0 n ∧ 0 ≤ a.fmod n :=
  ⟨turn_start h.1, (fmod_bounds a h.1).1⟩
theorem w_step {a n lm low hm high : Int} (h : 1 < low) (T : Turn a n lm low hm high) :
    Turn a n (hm - lm * high.fdiv low) (high - low * high.fdiv low) lm low ∧ 0 ≤ high - low * high.fdiv low :=
  ⟨turn_step h T, (turn_step h T).2.1⟩
theorem s_step {a b x y : Int} (_h : 0 ≤ y) (hy : y ≠ 0) (e : shared x y = shared a b) : shared y (x.fmod y) = shared a b ∧ 0 ≤ y ∧ 0 ≤ x.fmod y :=
  ⟨(shared_step x y).trans e, _h, Int.fmod_nonneg_of_pos x (by omega)⟩
theorem s_falls {x y : Int} (h : 0 ≤ y) (hy : y ≠ 0) : (x.fmod y).toNat < y.toNat := by
  have h1 := Int.fmod_nonneg_of_pos x (show 0 < y by omega)
  have h2 := Int.fmod_lt_of_pos x (show 0 < y by omega)
  omega
theorem s_end {a b x y : Int} (hx : 0 ≤ x) (hy : y = 0) (e : shared x y = shared a b) : x = shared a b := by
  subst hy
  rw [shared_nil x hx] at e
  exact e
theorem p_zero {a n : Int} (h : a.fmod n = 0) : 0 = pinv a n := by unfold pinv; rw [if_pos h]
theorem p_end {a n lm low hm high : Int} (h : a.fmod n ≠ 0) (hl : ¬ 1 < low) (T : Turn (a.fmod n) n lm low hm high) : lm.fmod n = pinv a n := by
  unfold pinv
  rw [if_neg h, turn_end hl T]
theorem i_zero {a n : Int} (h : a = 0) : 0 = sinv a n := by unfold sinv; rw [if_pos h]
theorem i_end {a n lm low hm high : Int} (h : a ≠ 0) (hl : ¬ 1 < low) (T : Turn a n lm low hm high) : lm.fmod n = sinv a n := by
  unfold sinv
  rw [if_neg h, turn_end hl T]
theorem sh_pre {a m : Int} (h : 2 ≤ m ∧ MOk m) : 0 ≤ a.fmod m ∧ 0 ≤ m := ⟨(fmod_bounds a h.1).1, by omega⟩

/-! cuts: what a statement does, once for all that stands behind it -/
structure Cut : Prop where
def SPost (gone : List Str) (h₀ : Heap) (L : Addr) (m : Str → Option Value) (news : List (Addr × Obj)) (s : Shared) (f : Flow) (s₂ : Shared) : Prop :=
  f = .next ∧ ∃ h' tk' m', s₂ = { s with heap := h', toks := tk' } ∧ Fr h₀ L h' m' ∧ News h₀ L h' news ∧ ∀ z, gone.contains z = false → m' z = m z
theorem spost {gone : List Str} {h₀ : Heap} {L : Addr} {m m' : Str → Option Value} {news : List (Addr × Obj)} {s : Shared} {h' : Heap} {tk' : Nat} (F : Fr h₀ L h' m') (N : News h₀ L h' news)
    (r : ∀ z, gone.contains z = false → m' z = m z) : SPost gone h₀ L m news s .next { s with heap := h', toks := tk' } := ⟨rfl, h', tk', m', rfl, F, N, r⟩
theorem fr_gone {gone : List Str} {h₀ h' : Heap} {L : Addr} {m m' : Str → Option Value} (F : Fr h₀ L h' m') (r : ∀ z, gone.contains z = false → m' z = m z) :
    Fr h₀ L h' (fun z => if gone.contains z then m' z else m z) := by
  have e : (fun z => if gone.contains z then m' z else m z) = m' := by
    funext z
    cases h : gone.contains z with
    | true => simp
    | false => simp only [Bool.false_eq_true, if_false]; exact (r z h).symm
  rw [e]
  exact F
section
variable {prog : Program} {w : World} {A : Around} {E : Value → Shared → Prop} {s : Shared} {env : Env} {h₀ : Heap} {L : Addr} {m : Str → Option Value} {news : List (Addr × Obj)}
theorem stmt_cut (gone : List Str) {st : Stmt} {Q : Flow → Shared → Prop} (_F : Fr h₀ L s.heap m) (_N : News h₀ L s.heap news)
    (h1 : wpAny (model prog w) A (exec st env) (SPost gone h₀ L m news s) E s)
    (h2 : ∀ (u : Str → Option Value) h' tk', Fr h₀ L h' (fun z => if gone.contains z then u z else m z) → News h₀ L h' news → Q .next { s with heap := h', toks := tk' }) :
    wpAny (model prog w) A (exec st env) Q E s := by
  refine wpAny_mono h1 ?_ fun _ _ x => x
  rintro f s₁ ⟨rfl, h', tk', m', rfl, F', N', r⟩
  exact h2 m' h' tk' (fr_gone F' r) N'
theorem block_cut (gone : List Str) {s1 s2 : Stmt} {rest : List Stmt} {Q : Flow → Shared → Prop} (_F : Fr h₀ L s.heap m) (_N : News h₀ L s.heap news)
    (h1 : wpAny (model prog w) A (exec s1 env) (fun f s' => match f with | .next => wpAny (model prog w) A (exec s2 env) (SPost gone h₀ L m news s) E s' | _ => False) E s)
    (h2 : ∀ (u : Str → Option Value) h' tk', Fr h₀ L h' (fun z => if gone.contains z then u z else m z) → News h₀ L h' news → wpAny (model prog w) A (execs rest env) Q E { s with heap := h', toks := tk' }) :
    wpAny (model prog w) A (execs (s1 :: s2 :: rest) env) Q E s := by
  refine wpAny_execs_cons (wpAny_mono h1 ?_ fun _ _ x => x)
  intro f s₁ k
  cases f with
  | next =>
    refine wpAny_execs_cons (wpAny_mono k ?_ fun _ _ x => x)
    rintro f s₂ ⟨rfl, h', tk', m', rfl, F', N', r⟩
    exact h2 m' h' tk' (fr_gone F' r) N'
  | _ => exact k.elim
end

theorem pinv_know {a n : Int} (h : 2 ≤ n ∧ MOk n) (hg : shared (a.fmod n) n = 1) :
    0 ≤ pinv a n ∧ pinv a n < n ∧ (pinv a n * a - 1).fmod n = 0 ∧ sinv a n = pinv a n ∧ pinv (pinv a n) n = a.fmod n := pinv_fact a n h.1 hg
theorem pinv_bits {a n : Int} (h : 2 ≤ n ∧ MOk n) (h0 : 0 ≤ pinv a n) (h1 : pinv a n < n) : Builtin.Int.intBits (pinv a n) ≤ 400 := natAbs_bits h (by omega)
theorem ne_same {prog : Program} {w : World} {A : Around} {E : Value → Shared → Prop} {s : Shared} {a : Int} {t u : Tok} {Q : Value → Shared → Prop} (h : Q (.bool false) s) : wpAny (model prog w) A (compareOp .NotEq (.int a t) (.int a u)) Q E s :=
  ne_int (by rw [bne_self_eq_false]; exact h)
theorem ne_of_eq {prog : Program} {w : World} {A : Around} {E : Value → Shared → Prop} {s : Shared} {a b : Int} {t u : Tok} {Q : Value → Shared → Prop} (e : a = b) (h : Q (.bool false) s) : wpAny (model prog w) A (compareOp .NotEq (.int a t) (.int b u)) Q E s := by
  subst e
  exact ne_same h

/-- a new list of ints is come, neither empty nor long; all else stands -/
def RPost (h₀ : Heap) (L : Addr) (mm : Str → Option Value) (news : List (Addr × Obj)) (s : Shared) (v : Value) (s₂ : Shared) : Prop :=
  ∃ l vs ns c h' tk', v = .ref l ∧ IntsAre vs ns ∧ (1 ≤ ns.length ∧ ns.length ≤ 64) ∧ s₂ = { s with heap := h', toks := tk' } ∧ Fr h₀ L h' mm ∧ News h₀ L h' ((l, listOf vs.toArray c) :: news)
theorem rpost {h₀ : Heap} {L : Addr} {mm : Str → Option Value} {news : List (Addr × Obj)} {s : Shared} {l : Addr} {vs : List Value} {ns : List Int} {c : Nat} {h' : Heap} {tk' : Nat} (F : Fr h₀ L h' mm) (N : News h₀ L h' ((l, listOf vs.toArray c) :: news))
    (hi : IntsAre vs ns) (hl : 1 ≤ ns.length ∧ ns.length ≤ 64) : RPost h₀ L mm news s (.ref l) { s with heap := h', toks := tk' } := ⟨l, vs, ns, c, h', tk', rfl, hi, hl, rfl, F, N⟩
theorem row_cut {prog : Program} {w : World} {A : Around} {E : Value → Shared → Prop} {s : Shared} {env : Env} {h₀ : Heap} {L : Addr} {mm : Str → Option Value} {news : List (Addr × Obj)} {x : Str} {pos' pos : Pos} {value : Expr} {Q : Flow → Shared → Prop}
    (_F : Fr h₀ L s.heap mm) (_N : News h₀ L s.heap news)
    (h1 : wpAny (model prog w) A (eval value env) (RPost h₀ L mm news s) E s)
    (h2 : ∀ l vs ns c h' tk', IntsAre vs ns → (1 ≤ ns.length ∧ ns.length ≤ 64) → Fr h₀ L h' mm → News h₀ L h' ((l, listOf vs.toArray c) :: news) → wpAny (model prog w) A (storeName env x (.ref l)) (fun _ => Q .next) E { s with heap := h', toks := tk' })
    (hs : swapsWith value (some (.Name x pos')) pos.line env = pure false := by rfl) :
    wpAny (model prog w) A (exec (.Assign [.Name x pos'] value pos) env) Q E s := by
  refine wpAny_Assign_Name (wpAny_mono h1 ?_ fun _ _ x => x) hs
  rintro v s₁ ⟨l, vs, ns, c, h', tk', rfl, hi, hl, rfl, F', N'⟩
  exact h2 l vs ns c h' tk' hi hl F' N'
theorem zeros_len (g : Int) : (List.replicate (g.fmod 4).toNat [(0 : Int)]).flatten.length ≤ 3 := by
  have h := Int.fmod_lt_of_pos g (show (0 : Int) < 4 by decide)
  simp only [List.length_flatten, List.map_replicate, List.length_cons, List.length_nil, List.sum_replicate_nat]
  omega
theorem row_len {ns : List Int} {g : Int} (h : 4 < (ns.length : Int)) : 1 ≤ (List.take (min 20 ns.length - 4) (List.drop 4 ns) ++ (List.replicate (g.fmod 4).toNat [(0 : Int)]).flatten).length ∧ (List.take (min 20 ns.length - 4) (List.drop 4 ns) ++ (List.replicate (g.fmod 4).toNat [(0 : Int)]).flatten).length ≤ 64 := by
  have h1 := zeros_len g
  simp only [List.length_append, List.length_take, List.length_drop]
  omega
theorem row_len1 {g : Int} : 1 ≤ ([1] ++ (List.replicate (g.fmod 4).toNat [(0 : Int)]).flatten).length ∧ ([1] ++ (List.replicate (g.fmod 4).toNat [(0 : Int)]).flatten).length ≤ 64 := by
  have h1 := zeros_len g
  simp only [List.length_append, List.length_cons, List.length_nil]
  omega
/-! deg, _law_degree: the words -/
def DegW (ns : List Int) (d : Int) : Prop := dg ns d.toNat = degL ns
theorem deg_start {ns : List Int} {k : Int} (h : 1 ≤ ns.length) (hk : k = (ns.length : Int) - 1) : DegW ns k ∧ 0 ≤ k ∧ k < (ns.length : Int) := by
  subst hk
  refine ⟨?_, by omega, by omega⟩
  have e : ((ns.length : Int) - 1).toNat = ns.length - 1 := by omega
  unfold DegW degL
  rw [e]
theorem deg_step {ns : List Int} {d : Int} (hz : ns.getD d.toNat 0 = 0) (h0 : d ≠ 0) (hd : 0 ≤ d ∧ d < (ns.length : Int)) (w : DegW ns d) : DegW ns (d - 1) ∧ 0 ≤ d - 1 ∧ d - 1 < (ns.length : Int) := by
  refine ⟨?_, by omega, by omega⟩
  have e : (d - 1).toNat = d.toNat - 1 := by omega
  unfold DegW at w ⊢
  rw [e, ← dg_off hz]
  exact w
theorem deg_end {ns : List Int} {d : Int} (h : ns.getD d.toNat 0 = 0 → d = 0) (h0 : 0 ≤ d) (w : DegW ns d) : d = degL ns := by
  unfold DegW at w
  by_cases hz : ns.getD d.toNat 0 = 0
  · have := h hz
    subst this
    rw [← w]; rfl
  · rw [← w, dg_on hz]; omega
def FndW (ns : List Int) (n : Nat) (f : Int) : Prop := f = dg ns (n - 1)
theorem fnd_start (ns : List Int) : FndW ns ([] : List Int).length 0 := rfl
theorem fnd_on {ns pre : List Int} {k : Int} (hk : k = 0 + (pre.length : Int)) (h : ns.getD k.toNat 0 ≠ 0) : FndW ns (pre ++ [k]).length k ∧ True := by
  subst hk
  have e : (0 + (pre.length : Int)).toNat = pre.length := by omega
  rw [e] at h
  refine ⟨?_, trivial⟩
  show _ = dg ns ((pre ++ [_]).length - 1)
  rw [List.length_append, List.length_cons, List.length_nil, Nat.zero_add, Nat.add_sub_cancel, dg_on h]
  omega
theorem fnd_off {ns pre : List Int} {k f : Int} (hk : k = 0 + (pre.length : Int)) (h : ns.getD k.toNat 0 = 0) (w : FndW ns pre.length f) : FndW ns (pre ++ [k]).length f ∧ True := by
  subst hk
  have e : (0 + (pre.length : Int)).toNat = pre.length := by omega
  rw [e] at h
  refine ⟨?_, trivial⟩
  show _ = dg ns ((pre ++ [_]).length - 1)
  rw [List.length_append, List.length_cons, List.length_nil, Nat.zero_add, Nat.add_sub_cancel, dg_off h]
  exact w
theorem deg_same {ns : List Int} {d f : Int} {n : Nat} (h1 : d = degL ns) (h2 : FndW ns (rangeKs 0 n).length f) (hn : n = ns.length) : d = f := by
  unfold FndW at h2
  rw [rangeKs_length, hn] at h2
  rw [h1, h2]; rfl
theorem eq_of_eq {prog : Program} {w : World} {A : Around} {E : Value → Shared → Prop} {s : Shared} {a b : Int} {t u : Tok} {Q : Value → Shared → Prop} (e : a = b) (h : Q (.bool true) s) : wpAny (model prog w) A (compareOp .Eq (.int a t) (.int b u)) Q E s := by
  subst e
  exact eq_int (by rw [beq_self_eq_true]; exact h)
end Mine

namespace Mine
/-! what a call of a def gives, for every place that it is called from -/
def Gives (p : Program) (loose : List Str) (K : Params → Frag) (f : Addr) (pre : Prop) (vs : List Value) (R : Tok → Value) : Prop :=
  ∀ (w : World) (s₀ : Shared) (mg mb : Str → Option Value) (news : List (Addr × Obj)),
    CbClaim PySem.Challenge.rw_iv0038_01.row.prog w (K w.params) p (looseW p loose) (ExcName.means s₀.heap) mg mb f news [] pre vs R
def PinvG (p : Program) (loose : List Str) (K : Params → Frag) : Prop :=
  ∀ (x : Int) (t : Tok) (n : Int) (u : Tok), Gives p loose K 21 (2 ≤ n ∧ MOk n) [.int x t, .int n u] (fun t => .int (pinv x n) t)
def SinvG (p : Program) (loose : List Str) (K : Params → Frag) : Prop :=
  ∀ (x : Int) (t : Tok) (n : Int) (u : Tok), Gives p loose K 35 (2 ≤ n ∧ MOk n) [.int x t, .int n u] (fun t => .int (sinv x n) t)
def SharG (p : Program) (loose : List Str) (K : Params → Frag) : Prop :=
  ∀ (x : Int) (t : Tok) (n : Int) (u : Tok), Gives p loose K 49 (0 ≤ x ∧ 0 ≤ n) [.int x t, .int n u] (fun t => .int (shared x n) t)
theorem Gives.use {p : Program} {loose : List Str} {K : Params → Frag} {f : Addr} {pre : Prop} {vs : List Value} {R : Tok → Value} (G : Gives p loose K f pre vs R) {w : World} {s₀ : Shared} {mg mb : Str → Option Value} {news : List (Addr × Obj)}
    {dp un : Nat} {gd : Option (List Code)} {cn : Str} {cs : Scope} {a : Addr} {ccd : Value} {cl : List (Str × Addr)} {outer : List Env} {A₀ : Around} {base h₀ : Heap} {L : Addr} {m : Str → Option Value} {s : Shared} {Q E : Value → Shared → Prop}
    (k1 : Below A₀ base outer h₀) (k2 : Fr h₀ L s.heap m) (k3 : (K w.params).In h₀) (k4 : News h₀ L s.heap news) (k5 : Top p (looseW p loose) (ExcName.means s₀.heap) mg mb h₀) (kK : cs.kind = .function)
    (kp : pre) (kd : dp + 1 < recursionLimit) (ku : un + 8 < cLine) (kR : CbRet h₀ L m news s Q R) :
    wpAny (model PySem.Challenge.rw_iv0038_01.row.prog w) (ktrTop dp un gd cn cs L a ccd cl outer) (call (.ref f) vs) Q E s :=
  G w s₀ mg mb news dp un gd cn cs a ccd cl outer A₀ base h₀ L m s Q E k1 k2 k3 k4 k5 kK kp kd ku kR
/-- the contracts first, the walk behind them -/
theorem with_gives {p : Program} {loose : List Str} {XP : (Str → Option Value) → Heap → Prop} {K : Params → Frag} {as : List Addr} {e : ∀ P, as = (K P).map (·.1)} {r : RowW} {d : DefRec} {kwd : List (Str × Expr)} {run : Value → List Value → Sem Value}
    (c1 : PinvG p loose K) (c2 : SinvG p loose K) (c3 : SharG p loose K) (k : PinvG p loose K → SinvG p loose K → SharG p loose K → WalkO p loose XP (kHook K as e).says r d kwd run) :
    WalkO p loose XP (kHook K as e).says r d kwd run := k c1 c2 c3
end Mine
-- sizes, and the loop's division
local macro_rules | `(tactic| bits_by_make) => `(tactic| first
  | with_reducible exact Mine.gb_bits (by assumption)
  | with_reducible exact Mine.mok_bits (by assumption)
  | with_reducible exact Mine.turn_bits_lm (by assumption) (by assumption)
  | with_reducible exact Mine.turn_bits_low (by assumption) (by assumption)
  | with_reducible exact Mine.turn_bits_high (by assumption) (by assumption)
  | with_reducible exact Mine.pinv_bits (by assumption) (by assumption) (by assumption))
local macro_rules | `(tactic| walk_at "binaryOp FloorDiv int int") => `(tactic| (with_reducible refine floordiv_int ?kbe ?_ (Or.inl ?kbp); (case kbp => exact Mine.turn_py (by assumption) (by assumption)); (case kbe => omega)))
local macro_rules | `(tactic| walk_at "exec Assign") => `(tactic| (
  with_reducible rename IntsAre _ (List.map _ (rangeKs _ _)) => hGv
  obtain ⟨g0, g1, g2, g3, t0, t1, t2, t3, hys, hb0, hb1, hb2, hb3⟩ := Mine.given_open hGv (by with_reducible assumption)
  clear hGv
  with_reducible rename _ = List.length (List.map _ (rangeKs _ _)) => hGl
  clear hGl
  subst hys))
local macro_rules | `(tactic| walk_at "exec Assign") => `(tactic| (
  with_reducible show wpAny _ _ (exec (Stmt.Assign [Expr.Name (Str.ofString "modulus") _] _ _) _) _ _ _
  fail_if_success with_reducible rename IntsAre _ (List.map _ (rangeKs _ _)) => hGv
  with_reducible rename Fr _ _ _ _ => lF'
  with_reducible rename News _ _ _ _ => lN'
  with_unfolding_all refine' Mine.assign_cut Mine.MOk lF' lN' ?_ ?_
  rotate_left
  intro m tm hm' tkm hMOk Fm Nm
  clear lF' lN'
  have hm2 : 2 ≤ m ∧ Mine.MOk m := ⟨hMOk.1, hMOk⟩
  clear hMOk
  rotate_left))
local macro_rules | `(tactic| walk_at "MPost") => `(tactic| (
  with_reducible rename News _ _ _ _ => lN'
  refine Mine.mpost ?k1 ?k2 ?k3
  case k2 => first | assumption | with_unfolding_all assumption
  case k3 => first | exact lN' | exact kst_newsOf lN' (by kst_inAny)
  case k1 => first | exact Mine.mok_rest _ | exact Mine.mok_lit (by decide +kernel)))
local macro_rules | `(tactic| walk_at "compareOp NotEq int int") => `(tactic| (
  with_reducible refine Mine.ne_of_eq (by first | exact Mine.pinv_mul _ _ | exact Mine.sinv_zero _ | with_reducible assumption) ?_
  (try dsimp only)))
local macro_rules | `(tactic| walk_at "subscriptTail Name Constant ref int") => `(tactic| (
  k_here
  with_unfolding_all refine' item_litK ?k1 ?k2 ?k3 ?k4 ?_ ?k6
  case k1 => k_dflt is_list
  case k2 => decide
  case k3 => decide
  case k4 => with_unfolding_all rfl
  case k6 => with_unfolding_all rfl
  k_dflt k_whole))
local macro_rules | `(tactic| walk_at "execs cons") => `(tactic| (
  k_here
  (with_reducible show wpAny _ _ (execs (Stmt.Assign [Expr.Name (Str.ofString "numbers") _] _ _ :: _ :: _) _) _ _ _)
  with_reducible rename Fr _ _ _ _ => lF'
  with_reducible rename News _ _ _ _ => lN'
  with_unfolding_all refine' Mine.block_cut [Str.ofString "numbers", Str.ofString "number", Str.ofString "found"] lF' lN' ?_ ?_
  rotate_left
  intro u hu' tku Fu Nu
  clear lF' lN'
  rotate_left
  all_goals (try k_fold)))
local macro_rules | `(tactic| walk_at "exec If") => `(tactic| (
  k_here
  fail_if_success (with_reducible rename Mine.Cut => hCut9)
  (with_reducible show wpAny _ _ (exec (Stmt.If (Expr.Compare (Expr.Call (Expr.Name (Str.ofString "_law_shared") _) _ _ _) _ _ _) _ _ _) _) _ _ _)
  with_reducible rename Fr _ _ _ _ => lF'
  with_reducible rename News _ _ _ _ => lN'
  with_unfolding_all refine' Mine.stmt_cut [Str.ofString "found"] lF' lN' ?_ ?_
  rotate_left
  intro u hu' tku Fu Nu
  clear lF' lN'
  rotate_left
  have hCut : Mine.Cut := ⟨⟩
  (try k_fold)))
local macro_rules | `(tactic| walk_at "SPost") => `(tactic| (
  with_reducible rename News _ _ _ _ => lN'
  k_dflt (refine Mine.spost (by assumption) (by first | exact lN' | exact kst_newsOf lN' (by kst_inAny)) ?_)
  intro z h3
  first
    | rfl
    | ((simp only [List.contains_cons, List.contains_nil, Bool.or_false, Bool.or_eq_false_iff, beq_eq_false_iff_ne, ne_eq] at h3); (simp [h3]; done))))
local macro_rules | `(tactic| walk_at "call ref") => `(tactic| (
  k_here
  k_dflt first
    | ((with_reducible rename Mine.PinvG _ _ _ => hGa9); refine' (hGa9 _ _ _ _).use ?k1 ?k2 ?k3 ?k4 ?k5 ?kK ?kp ?kd ?ku ?_)
    | ((with_reducible rename Mine.SinvG _ _ _ => hGb9); refine' (hGb9 _ _ _ _).use ?k1 ?k2 ?k3 ?k4 ?k5 ?kK ?kp ?kd ?ku ?_)
    | ((with_reducible rename Mine.SharG _ _ _ => hGc9); refine' (hGc9 _ _ _ _).use ?k1 ?k2 ?k3 ?k4 ?k5 ?kK ?kp ?kd ?ku ?_)
  case k1 => k_dflt k_asm
  case k2 => k_dflt k_asm
  case k3 => k_dflt k_asm
  case k4 => k_dflt k_asm
  case k5 => k_dflt k_asm
  case kK => k_dflt first | exact rfl | assumption
  case kp => k_dflt first | assumption | exact Mine.sh_pre (by assumption)
  case kd => k_dflt ktr_room
  case ku => k_dflt ktr_units
  intro t9 h9 tk9 F9 N9
  (try dsimp only)
  (try k_fold)))
-- the facts of one number, when found is stored
local macro_rules | `(tactic| walk_at "storeName") => `(tactic| (
  k_here
  (with_reducible show wpAny _ _ (storeName _ (Str.ofString "found") (Value.int (Mine.pinv _ _) _)) _ _ _)
  fail_if_success (with_reducible rename Mine.sinv _ _ = Mine.pinv _ _ => hp9)
  obtain ⟨hp0, hp1, hp2, hp3, hp4⟩ := Mine.pinv_know (by with_reducible assumption) (by with_reducible assumption)))
local macro_rules | `(tactic| walk_at "exec Assign") => `(tactic| (
  k_here
  (with_reducible show wpAny _ _ (exec (Stmt.Assign [Expr.Name (Str.ofString "row") _] _ _) _) _ _ _)
  with_reducible rename Fr _ _ _ _ => lF'
  with_reducible rename News _ _ _ _ => lN'
  with_unfolding_all refine' Mine.row_cut lF' lN' ?_ ?_
  rotate_left
  intro rl rvs rns rc hr' tkr rI rL Fr' Nr'
  clear lF' lN'
  k_with "pyIter ref" => k_state_given ["numbers"] (fun ns pre f => Mine.FndW ns pre.length f ∧ True) "found"
  k_with "exec While" => k_while_given ["p"] (fun ns _ d => Mine.DegW ns d ∧ 0 ≤ d ∧ d < (ns.length : Int)) (fun _ _ d => d.toNat) "d"
  k_with "state" => exact Mine.deg_start (And.left (by assumption)) (by omega)
  k_with "state" => exact Mine.deg_step (by assumption) (by omega) ⟨by assumption, by assumption⟩ (by assumption)
  k_with "state" => exact ⟨Mine.fnd_start _, trivial⟩
  k_with "state" => exact Mine.fnd_on (by assumption) (by assumption)
  k_with "state" => exact Mine.fnd_off (by assumption) (by assumption) (by assumption)
  k_with "measure" => omega
  rotate_left
  all_goals (try k_fold)))
local macro_rules | `(tactic| walk_at "RPost") => `(tactic| (
  with_reducible rename News _ _ _ _ => lN'
  with_reducible rename IntsAre _ (_ ++ _) => hR9
  k_dflt (refine Mine.rpost (c := 0) (by assumption) (by first | exact lN' | exact kst_newsOf lN' (by kst_inAny)) hR9 ?_)
  first | exact Mine.row_len (by assumption) | exact Mine.row_len1))
local macro_rules | `(tactic| walk_at "exec Return some") => `(tactic| (
  with_reducible rename Mine.DegW _ _ => hdg9
  have hdg8 := Mine.deg_end (by omega) (by assumption) hdg9
  clear hdg9))
local macro_rules | `(tactic| walk_at "compareOp Eq int int") => `(tactic| (
  with_reducible refine Mine.eq_of_eq (Mine.deg_same (by with_reducible assumption) (by with_reducible assumption) (by omega)) ?_
  (try dsimp only)))
set_option maxRecDepth 100000 in
set_option maxHeartbeats 8000000 in
theorem PySem.Challenge.cw_iv0038_01_holds : PySem.Challenge.rw_iv0038_01.Holds := by
  w_on
  o_law
  k_head
  (case hw => w_witness2)
  refine Mine.with_gives ?_ ?_ ?_ ?_
  · intro x t n u
    k_with_none
    k_with "exec While Compare cons nil" => k_while_given ["a", "n"] (fun a n _ lm low hm high => Mine.Turn a n lm low hm high ∧ 0 ≤ low) (fun _ _ _ _ low _ _ => low.toNat) "lm" "low" "hm" "high"
    k_with "state" => exact Mine.w_start (by assumption)
    k_with "state" => exact Mine.w_step (by omega) (by assumption)
    k_with "measure" => exact Mine.turn_falls (by omega) (by assumption)
    k_with "tree" => exact Mine.p_zero (by omega)
    k_with "tree" => exact Mine.p_end (by omega) (by omega) (by assumption)
    dsimp only [Mine.Gives, CbClaim, CbLists, CbRet]
    k_fill
    intros
    rename_i hret
    have cbI : CbIn 21 := CbIn.mk
    w_strict (refine wpAny_call ?_; k_dflt cell_enter; k_steps; all_goals cb_end hret)
  · intro x t n u
    k_with_none
    k_with "exec While Compare cons nil" => k_while_given ["a", "n"] (fun a n _ lm low hm high => Mine.Turn a n lm low hm high ∧ 0 ≤ low) (fun _ _ _ _ low _ _ => low.toNat) "lm" "low" "hm" "high"
    k_with "state" => exact Mine.w_start (by assumption)
    k_with "state" => exact Mine.w_step (by omega) (by assumption)
    k_with "measure" => exact Mine.turn_falls (by omega) (by assumption)
    k_with "tree" => exact Mine.i_zero (by omega)
    k_with "tree" => exact Mine.i_end (by omega) (by omega) (by assumption)
    dsimp only [Mine.Gives, CbClaim, CbLists, CbRet]
    k_fill
    intros
    rename_i hret
    have cbI : CbIn 35 := CbIn.mk
    w_strict (refine wpAny_call ?_; k_dflt cell_enter; k_steps; all_goals cb_end hret)
  · intro x t n u
    k_with_none
    k_with "exec While Compare cons nil" => k_while_given ["here!", "there!"] (fun a b _ x y => Mine.shared x y = Mine.shared a b ∧ 0 ≤ x ∧ 0 ≤ y) (fun _ _ _ _ y => y.toNat) "here" "there"
    k_with "state" => exact ⟨rfl, by omega, by omega⟩
    k_with "state" => exact Mine.s_step (by assumption) (by omega) (by assumption)
    k_with "measure" => exact Mine.s_falls (by assumption) (by omega)
    k_with "tree" => exact Mine.s_end (by assumption) (by omega) (by assumption)
    dsimp only [Mine.Gives, CbClaim, CbLists, CbRet]
    k_fill
    intros
    rename_i hret
    have cbI : CbIn 49 := CbIn.mk
    w_strict (refine wpAny_call ?_; k_dflt cell_enter; k_steps; all_goals cb_end hret)
  · intro hP1 hP2 hP3
    k_with_none
    w_strict k_go
