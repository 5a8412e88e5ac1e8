import PyProof.Rows.All
import Wide.All
import OpenK.AllK
import Wide.FinOn
import Lean
import PySem.Challenge.RW_kp0005_04
open PySem PySem.W PyProof.Rows
set_option Elab.async false

/-! ## Num -/
namespace Mine

/-! ### a number without its factors of two -/

def oddOf (a : Int) : Int := if h : a ≠ 0 ∧ a % 2 = 0 then oddOf (a / 2) else a
termination_by a.natAbs
decreasing_by omega

theorem oddOf_step {a : Int} (h0 : a ≠ 0) (h : a % 2 = 0) : oddOf (a / 2) = oddOf a := by
  rw [oddOf.eq_1 a, dif_pos ⟨h0, h⟩]
theorem oddOf_end {a : Int} (h : a = 0 ∨ a % 2 ≠ 0) : oddOf a = a := by
  rw [oddOf, dif_neg (by omega)]
theorem oddOf_double {a : Int} (h0 : a ≠ 0) : oddOf (a * 2) = oddOf a := by
  rw [← oddOf_step (a := a * 2) (by omega) (by omega)]
  congr 1
  omega
theorem oddOf_mul_pow (a : Int) (h0 : a ≠ 0) : ∀ k : Nat, oddOf (a * 2 ^ k) = oddOf a
  | 0 => by simp
  | k + 1 => by
    have hk : (2 : Int) ^ k ≠ 0 := by have := Int.pow_pos (n := 2) (m := k) (by decide); omega
    rw [Int.pow_succ, ← Int.mul_assoc, oddOf_double (Int.mul_ne_zero h0 hk)]
    exact oddOf_mul_pow a h0 k
theorem oddOf_pow (k : Nat) : oddOf (2 ^ k) = 1 := by
  have h := oddOf_mul_pow 1 (by decide) k
  rw [Int.one_mul] at h
  rw [h]
  exact oddOf_end (by decide)
theorem oddOf_abs (a : Int) : (oddOf a).natAbs ≤ a.natAbs := by
  induction h : a.natAbs using Nat.strongRecOn generalizing a with
  | _ n ih =>
    by_cases h1 : a ≠ 0 ∧ a % 2 = 0
    · rw [← oddOf_step h1.1 h1.2]
      have := ih (a / 2).natAbs (by omega) (a / 2) rfl
      omega
    · rw [oddOf_end (by omega)]
      omega

/-! ### powers of two and their divisors -/

theorem dvd_pow_two : ∀ {k d : Nat}, d ∣ 2 ^ k → ∃ j, d = 2 ^ j
  | 0, d, h => ⟨0, by simpa using h⟩
  | k + 1, d, h => by
    by_cases h2 : d % 2 = 0
    · obtain ⟨c, rfl⟩ := Nat.dvd_of_mod_eq_zero h2
      have hc : c ∣ 2 ^ k := by
        rw [Nat.pow_succ, Nat.mul_comm (2 ^ k) 2] at h
        exact Nat.dvd_of_mul_dvd_mul_left (by decide) h
      obtain ⟨j, rfl⟩ := dvd_pow_two hc
      exact ⟨j + 1, by rw [Nat.pow_succ, Nat.mul_comm]⟩
    · have hco : Nat.Coprime d 2 := by
        have h3 : d % 2 = 1 := by omega
        rw [Nat.coprime_comm]
        unfold Nat.Coprime
        rw [Nat.gcd_rec, h3]
        decide
      rw [Nat.pow_succ] at h
      exact dvd_pow_two (hco.dvd_of_dvd_mul_right h)

/-- what the text asks of the pair (N, D) of a float x -/
structure Told (x : UInt64) (N D : Int) : Prop where
  d1 : 1 ≤ D
  d2 : D ≤ 2 ^ 1074
  od : oddOf D = 1
  on1 : -9007199254740992 < oddOf N
  on2 : oddOf N < 9007199254740992
  par : D ≠ 1 → N % 2 ≠ 0
  fit : ¬ Float64.isInf (Float64.ofFrac (decide (N < 0) != decide (D < 0)) N.natAbs D.natAbs) = true
  eq : Float64.cmp (Float64.ofFrac (decide (N < 0) != decide (D < 0)) N.natAbs D.natAbs) x = some .eq

theorem decode_lt {x : UInt64} {s : Bool} {m : Nat} {e : Int} (h : Float64.decode x = .fin s m e) : m < 2 ^ 53 := by
  unfold Float64.decode at h
  simp only at h
  split at h
  · split at h <;> cases h
  · split at h
    · cases h; omega
    · cases h; omega

theorem cmp_same (z : Int) : compare z z = .eq := Std.ReflCmp.compare_self
theorem pow_le {j k : Nat} (h : j ≤ k) : (2 : Int) ^ j ≤ 2 ^ k := by
  have h1 : (2 : Nat) ^ j ≤ 2 ^ k := Nat.pow_le_pow_right (by decide) h
  have e1 : ((2 ^ j : Nat) : Int) = 2 ^ j := by simp
  have e2 : ((2 ^ k : Nat) : Int) = 2 ^ k := by simp
  rw [← e1, ← e2]
  exact Int.ofNat_le.mpr h1

open Float64 in
theorem quot_back {s neg : Bool} {t n d : Nat} (hd : 0 < d) (ht : t < infMag) (hv : n * 2 ^ 1074 = d * V t) (hs : V t ≠ 0 → neg = s) :
    ¬ isInf (ofFrac neg n d) = true ∧ cmp (ofFrac neg n d) (pack s t) = some .eq := by
  have hVt : V t ≤ (2 ^ 53 - 1) * 2 ^ 2045 := by
    have e : infMag - 1 = 2045 * 2 ^ 52 + (2 ^ 53 - 1) := by unfold infMag; omega
    have h1 : V (infMag - 1) = (2 ^ 53 - 1) * 2 ^ 2045 := by
      rw [e]
      exact V_at (by omega) (by omega)
    rw [← h1]
    exact V_mono (by omega)
  have hlt : roundMag n d < infMag := by
    refine Nat.lt_of_le_of_ne (W.roundMag_le n d) fun e => ?_
    have h := (roundMag_over hd).mp e
    rw [hv] at h
    have h3 : d * ((2 ^ 54 - 1) * 2 ^ 2045) ≤ d * (2 * V t) := by
      rw [← Nat.mul_assoc d 2, Nat.mul_comm d 2, Nat.mul_assoc]
      exact h
    have h4 := Nat.le_of_mul_le_mul_left h3 hd
    have h5 : 2 * V t ≤ 2 * ((2 ^ 53 - 1) * 2 ^ 2045) := Nat.mul_le_mul_left 2 hVt
    have h6 := Nat.le_trans h4 h5
    rw [← Nat.mul_assoc] at h6
    have h7 := Nat.le_of_mul_le_mul_right h6 (Nat.two_pow_pos 2045)
    revert h7
    decide
  have hr := (roundMag_right hd hlt t).1
  have h0 : dist (n * 2 ^ 1074) (d * V t) = 0 := by rw [hv]; unfold dist; omega
  rw [h0] at hr
  have h8 : n * 2 ^ 1074 = d * V (roundMag n d) := by unfold dist at hr; omega
  have h9 : V (roundMag n d) = V t := Nat.eq_of_mul_eq_mul_left hd (by rw [← h8, hv])
  refine ⟨?_, ?_⟩
  · intro hi
    unfold ofFrac at hi
    obtain ⟨m, e, hdc, _⟩ := decode_pack neg hlt
    unfold isInf at hi
    rw [hdc] at hi
    cases hi
  · obtain ⟨m, e, h1, _⟩ := decode_pack neg hlt
    obtain ⟨m', e', h2, _⟩ := decode_pack s ht
    unfold ofFrac
    rw [cmp_right h1 h2, val_pack neg hlt, val_pack s ht, h9]
    by_cases hz : V t = 0
    · rw [hz]
      cases neg <;> cases s <;> decide
    · rw [hs hz]
      exact congrArg some (cmp_same _)

open Float64 in
theorem ratio_facts (m : Nat) (e : Int) (he : -1074 ≤ e) :
    0 < (ratio m e).2 ∧ (∃ j, (ratio m e).2 = 2 ^ j ∧ j ≤ 1074) ∧ (ratio m e).1 * 2 ^ 1074 = (ratio m e).2 * (m * 2 ^ (e + 1074).toNat) ∧ ((ratio m e).2 ≠ 1 → (ratio m e).1 % 2 = 1) ∧
      ((ratio m e).1 ≤ m ∨ ∃ k, (ratio m e).1 = m * 2 ^ k) := by
  unfold ratio
  simp only
  by_cases h0 : e ≥ 0
  · have hs : shift m 1 e = (m * 2 ^ e.toNat, 1) := by unfold shift; rw [if_pos h0]
    rw [hs]
    simp only [Nat.gcd_one_right, Nat.div_one]
    refine ⟨by decide, ⟨0, by decide, by omega⟩, ?_, fun h => absurd rfl h, .inr ⟨_, rfl⟩⟩
    rw [Nat.one_mul, Nat.mul_assoc, ← Nat.pow_add]
    congr 2
    omega
  · have hs : shift m 1 e = (m, 1 * 2 ^ (-e).toNat) := by unfold shift; rw [if_neg h0]
    rw [hs, Nat.one_mul]
    simp only
    have hk : (-e).toNat ≤ 1074 := by omega
    have hP := Nat.two_pow_pos (-e).toNat
    have hg : 0 < Nat.gcd m (2 ^ (-e).toNat) := Nat.gcd_pos_of_pos_right _ hP
    have hd : 2 ^ (-e).toNat / Nat.gcd m (2 ^ (-e).toNat) ∣ 2 ^ (-e).toNat := Nat.div_dvd_of_dvd (Nat.gcd_dvd_right _ _)
    obtain ⟨j, hj⟩ := dvd_pow_two hd
    have hpos : 0 < 2 ^ (-e).toNat / Nat.gcd m (2 ^ (-e).toNat) := by rw [hj]; exact Nat.two_pow_pos j
    have hjk : j ≤ (-e).toNat := by
      have h1 : 2 ^ j ≤ 2 ^ (-e).toNat := by rw [← hj]; exact Nat.div_le_self _ _
      exact (Nat.pow_le_pow_iff_right (by decide)).mp h1
    refine ⟨hpos, ⟨j, hj, by omega⟩, ?_, ?_, .inl (Nat.div_le_self _ _)⟩
    · have e1 : m = m / Nat.gcd m (2 ^ (-e).toNat) * Nat.gcd m (2 ^ (-e).toNat) := (Nat.div_mul_cancel (Nat.gcd_dvd_left _ _)).symm
      have e2 : 2 ^ (-e).toNat = 2 ^ (-e).toNat / Nat.gcd m (2 ^ (-e).toNat) * Nat.gcd m (2 ^ (-e).toNat) := (Nat.div_mul_cancel (Nat.gcd_dvd_right _ _)).symm
      generalize hgv : Nat.gcd m (2 ^ (-e).toNat) = g at *
      generalize hav : m / g = a at *
      generalize hbv : 2 ^ (-e).toNat / g = b at *
      have e3 : (2 : Nat) ^ 1074 = 2 ^ (-e).toNat * 2 ^ (e + 1074).toNat := by
        rw [← Nat.pow_add]
        congr 1
        omega
      rw [e3, e2, e1]
      ac_rfl
    · intro h1
      have hco : Nat.Coprime (m / Nat.gcd m (2 ^ (-e).toNat)) (2 ^ (-e).toNat / Nat.gcd m (2 ^ (-e).toNat)) := Nat.coprime_div_gcd_div_gcd hg
      rw [hj] at hco h1
      cases j with
      | zero => exact absurd rfl h1
      | succ j =>
        rw [Nat.pow_succ] at hco
        have h2 : Nat.Coprime (m / Nat.gcd m (2 ^ (-e).toNat)) 2 := Nat.Coprime.coprime_dvd_right ⟨2 ^ j, Nat.mul_comm _ _⟩ hco
        generalize m / Nat.gcd m (2 ^ (-e).toNat) = a at h2
        by_cases h3 : a % 2 = 0
        · exfalso
          have h4 : Nat.gcd a 2 = 2 := Nat.gcd_eq_right (Nat.dvd_of_mod_eq_zero h3)
          unfold Nat.Coprime at h2
          omega
        · omega

open Float64 in
theorem told_of {s : Bool} {t m : Nat} {e : Int} (ht : t < infMag) (h : decode (pack s t) = .fin s m e) :
    Told (pack s t) (sgn s (ratio m e).1) (ratio m e).2 := by
  have he := decode_ge h
  have hm := decode_lt h
  have hVt : m * 2 ^ (e + 1074).toNat = V t := by
    obtain ⟨m', e', h2, h3⟩ := decode_pack s ht
    rw [h] at h2
    cases h2
    exact h3
  obtain ⟨hpos, ⟨j, hj, hj2⟩, hval, hpar, hle⟩ := ratio_facts m e he
  rw [hVt] at hval
  generalize hn : (ratio m e).1 = n at *
  generalize hdd : (ratio m e).2 = d at *
  have hD : (d : Int) = 2 ^ j := by rw [hj]; simp
  have hN : (sgn s n).natAbs = n := sgn_natAbs s n
  have hodd : (oddOf (sgn s n)).natAbs < 2 ^ 53 := by
    rcases hle with h1 | ⟨k, h1⟩
    · have := oddOf_abs (sgn s n)
      omega
    · have e1 : sgn s n = sgn s m * 2 ^ k := by rw [h1, sgn_mul]; simp
      have hm2 : (sgn s m).natAbs = m := sgn_natAbs s m
      by_cases hz : sgn s m = 0
      · rw [e1, hz, Int.zero_mul, oddOf_end (.inl rfl)]
        decide
      · rw [e1, oddOf_mul_pow _ hz]
        have := oddOf_abs (sgn s m)
        omega
  have hq := quot_back (s := s) (neg := decide (sgn s n < 0) != decide ((d : Int) < 0)) hpos ht hval (by
    intro hz
    have hn0 : n ≠ 0 := by
      intro h0
      rw [h0, Nat.zero_mul] at hval
      rcases Nat.mul_eq_zero.mp hval.symm with h1 | h1
      · omega
      · exact hz h1
    have hd0 : ¬ ((d : Int) < 0) := by omega
    unfold sgn
    cases s
    · simp only [Bool.false_eq_true, if_false, hd0, decide_false, Bool.bne_false, decide_eq_false_iff_not]
      omega
    · simp only [if_true, hd0, decide_false, Bool.bne_false, decide_eq_true_eq]
      omega)
  refine ⟨by omega, ?_, ?_, by omega, by omega, ?_, ?_, ?_⟩
  · rw [hD]
    exact pow_le hj2
  · rw [hD]
    exact oddOf_pow j
  · intro h1
    have h2 := hpar (by omega)
    omega
  · rw [hN, Int.natAbs_natCast]
    exact hq.1
  · rw [hN, Int.natAbs_natCast]
    exact hq.2

open Float64 in
/-- a quotient that does not overflow, and what is told of it -/
theorem told_frac {neg : Bool} {n d : Nat} (h : ¬ isInf (ofFrac neg n d) = true) :
    ∃ s m e, decode (ofFrac neg n d) = .fin s m e ∧ Told (ofFrac neg n d) (sgn s (ratio m e).1) (ratio m e).2 := by
  have hle := W.roundMag_le n d
  have hlt : roundMag n d < infMag := by
    refine Nat.lt_of_le_of_ne hle fun e => h ?_
    unfold ofFrac
    rw [e]
    cases neg <;> decide +kernel
  obtain ⟨m, e, h2, _⟩ := decode_pack neg hlt
  unfold ofFrac
  exact ⟨neg, m, e, h2, told_of hlt h2⟩

open Float64 in
theorem frac_fits {neg : Bool} {n d : Nat} (hd : 0 < d) (hn : n < 2 ^ 1024 - 2 ^ 970) : ¬ isInf (ofFrac neg n d) = true := by
  have hlt : roundMag n d < infMag := by
    refine Nat.lt_of_le_of_ne (W.roundMag_le n d) fun e => ?_
    have h := (roundMag_over hd).mp e
    have e1 : (2 : Nat) ^ 2045 = 2 ^ 971 * 2 ^ 1074 := by rw [← Nat.pow_add]
    rw [e1, ← Nat.mul_assoc, ← Nat.mul_assoc, ← Nat.mul_assoc 2 n] at h
    have h2 := Nat.le_of_mul_le_mul_right h (Nat.two_pow_pos 1074)
    have h3 : 1 * ((2 ^ 54 - 1) * 2 ^ 971) ≤ d * ((2 ^ 54 - 1) * 2 ^ 971) := Nat.mul_le_mul_right _ hd
    rw [← Nat.mul_assoc d] at h3
    have h4 := Nat.le_trans h3 h2
    have e5 : (2 ^ 54 - 1) * 2 ^ 971 = 2 * (2 ^ 1024 - 2 ^ 970) := by decide +kernel
    rw [Nat.one_mul, e5] at h4
    exact absurd (Nat.le_of_mul_le_mul_left h4 (by decide)) (Nat.not_le.mpr hn)
  intro hi
  unfold ofFrac at hi
  obtain ⟨m, e, hdc, _⟩ := decode_pack neg hlt
  unfold isInf at hi
  rw [hdc] at hi
  cases hi

end Mine

/-! ## Steps -/
namespace Mine

/-! ### hidden powers of two -/
structure IsPow (P : Int) (k : Nat) : Prop where
  out : P = 2 ^ k
structure IsEdge (P : Int) : Prop where
  out : P = 2 ^ 1024 - 2 ^ 970
theorem IsPow.pos {P : Int} {k : Nat} (h : IsPow P k) : 0 < P := h.out ▸ Int.pow_pos (by decide)
theorem IsEdge.of {P R : Int} (h : IsPow P 1024) (h' : IsPow R 970) : IsEdge (P - R) := ⟨by rw [h.out, h'.out]⟩
theorem IsEdge.pos {P : Int} (h : IsEdge P) : 0 < P := by
  rw [h.out]
  decide +kernel
theorem IsEdge.lt {P a : Int} (h : IsEdge P) (ha : (a.natAbs : Int) < P) : a.natAbs < 2 ^ 1024 - 2 ^ 970 := by
  rw [h.out] at ha
  have e : ((2 ^ 1024 - 2 ^ 970 : Nat) : Int) = 2 ^ 1024 - 2 ^ 970 := by decide +kernel
  rw [← e] at ha
  exact Int.ofNat_lt.mp ha

section
variable {prog : Program} {w : World} {A : Around} {E : Value → Shared → Prop} {s : Shared} {Q : Value → Shared → Prop} {t u : Tok}

theorem pow_hid {k : Nat} (hk : k ≤ 1000000) (h : ∀ P, IsPow P k → Q (.int P s.toks) { s with toks := s.toks + 1 }) :
    wpAny (model prog w) A (binaryOp .Pow (.int 2 t) (.int (k : Int) u)) Q E s :=
  pow_int_small (Int.natCast_nonneg k) (by omega) (by decide) (by
    rw [Int.toNat_natCast]
    exact h _ ⟨rfl⟩)
theorem pow_hid' {n : Int} {k : Nat} (e : n = (k : Int)) (hk : k ≤ 1000000) (h : ∀ P, IsPow P k → Q (.int P s.toks) { s with toks := s.toks + 1 }) :
    wpAny (model prog w) A (binaryOp .Pow (.int 2 t) (.int n u)) Q E s := by
  subst e
  exact pow_hid hk h
theorem sub_edge {P R : Int} (hP : IsPow P 1024) (hR : IsPow R 970) (h : ∀ e, IsEdge e → Q (.int e s.toks) { s with toks := s.toks + 1 }) :
    wpAny (model prog w) A (binaryOp .Sub (.int P t) (.int R u)) Q E s :=
  sub_int (h _ (IsEdge.of hP hR))

theorem item_any {value slice : PySem.Expr} {l : Addr} {vs : List Value} {ns : List Int} {k : Int} (hl : s.heap.IsList l vs.toArray) (hi : IntsAre vs ns)
    (h0 : -(ns.length : Int) ≤ k) (h1 : k < ns.length) (hfit : ns.length ≤ 2 ^ 20) (h : ∀ n t, Q (.int n t) s)
    (hs : subscripted slice false (.ref l) (.int k u) = operate [.ref l, .int k u] (getItem (.ref l) (.int k u)) := by with_unfolding_all rfl) :
    wpAny (model prog w) A (subscriptTail value slice (.ref l) (.int k u)) Q E s := by
  by_cases hk : 0 ≤ k
  · exact item_list_intsR hl hi hk h1 (by omega) (fun t => h _ t) hs
  · exact item_list_ints_negR hl hi (by omega) h0 (by omega) (fun t => h _ t) hs

theorem cut_int (P : Int → Prop) {tr : Sem Value} (h1 : wpAny (model prog w) A tr (fun v s' => ∃ x tk tk', v = .int x tk ∧ s' = { s with toks := tk' } ∧ P x) E s)
    (h2 : ∀ x tk tk', P x → Q (.int x tk) { s with toks := tk' }) : wpAny (model prog w) A tr Q E s := by
  refine wpAny_mono h1 ?_ fun _ _ h => h
  rintro v s' ⟨x, tk, tk', rfl, rfl, hp⟩
  exact h2 x tk tk' hp

/-- a float that the text made by a division -/
structure Quot (x : UInt64) : Prop where
  out : ∃ s m e, Float64.decode x = .fin s m e ∧ Told x (Float64.sgn s (Float64.ratio m e).1) (Float64.ratio m e).2

theorem div_quot {a b ed : Int} (hA : A.handled = none) (he : IsEdge ed) (ha : (a.natAbs : Int) < ed) (hb : 0 < b) (h : ∀ x tk tk', Quot x → Q (.float x tk) { s with toks := tk' }) :
    wpAny (model prog w) A (binaryOp .Div (.int a t) (.int b u)) Q E s :=
  Flt.div_ii hA (fun e => absurd e (by omega)) (fun _ hi => absurd hi (frac_fits (by omega) (he.lt ha))) fun _ hi => h _ _ _ ⟨told_frac hi⟩
end


theorem fmod_edge {a ed : Int} (he : IsEdge ed) : ((Int.fmod a ed).natAbs : Int) < ed := by
  have h := he.pos
  have h1 := Int.fmod_nonneg_of_pos a h
  have h2 := Int.fmod_lt_of_pos a h
  omega
section
variable {prog : Program} {w : World} {A : Around} {E : Value → Shared → Prop} {s : Shared} {Q : Value → Shared → Prop} {t u : Tok}
/-- an int below the edge; one or minus one -/
def EndE (ed : Int) (s : Shared) (v : Value) (s' : Shared) : Prop := ∃ x tk tk', v = .int x tk ∧ s' = { s with toks := tk' } ∧ (x.natAbs : Int) < ed
def EndS (s : Shared) (v : Value) (s' : Shared) : Prop := ∃ x tk tk', v = .int x tk ∧ s' = { s with toks := tk' } ∧ (x = 1 ∨ x = -1)
theorem EndE.small {ed x : Int} {tk tk' : Nat} (h : (x.natAbs : Int) < ed) : EndE ed s (.int x tk) { s with toks := tk' } := ⟨x, tk, tk', rfl, rfl, h⟩
theorem EndE.rest {ed x : Int} {tk tk' : Nat} (he : IsEdge ed) : EndE ed s (.int (x.fmod ed) tk) { s with toks := tk' } := ⟨_, tk, tk', rfl, rfl, fmod_edge he⟩
theorem EndS.plus {tk tk' : Nat} : EndS s (.int 1 tk) { s with toks := tk' } := ⟨_, tk, tk', rfl, rfl, .inl rfl⟩
theorem EndS.minus {tk tk' : Nat} : EndS s (.int (-1) tk) { s with toks := tk' } := ⟨_, tk, tk', rfl, rfl, .inr rfl⟩
theorem cut_edge {ed : Int} (_ : IsEdge ed) {tr : Sem Value} (h1 : wpAny (model prog w) A tr (EndE ed s) E s)
    (h2 : ∀ x tk tk', (x.natAbs : Int) < ed → Q (.int x tk) { s with toks := tk' }) : wpAny (model prog w) A tr Q E s := cut_int _ h1 h2
theorem cut_sign {tr : Sem Value} (h1 : wpAny (model prog w) A tr (EndS s) E s)
    (h2 : ∀ x tk tk', (x = 1 ∨ x = -1) → Q (.int x tk) { s with toks := tk' }) : wpAny (model prog w) A tr Q E s := cut_int _ h1 h2
end

/-! ### what is not below nought -/
structure NN (r : Int) : Prop where
  out : 0 ≤ r
structure Pos (r : Int) : Prop where
  out : 0 < r
section
variable {prog : Program} {w : World} {A : Around} {E : Value → Shared → Prop} {s : Shared} {Q : Value → Shared → Prop} {t u : Tok}
theorem mod_edge {a b : Int} (hb : IsEdge b) (h : Q (.int (a.fmod b) s.toks) { s with toks := s.toks + 1 }) : wpAny (model prog w) A (binaryOp .Mod (.int a t) (.int b u)) Q E s :=
  mod_int' (by have := hb.pos; omega) h
theorem mod_pow {a b : Int} {k : Nat} (hb : IsPow b k) (h : ∀ r, NN r → Q (.int r s.toks) { s with toks := s.toks + 1 }) : wpAny (model prog w) A (binaryOp .Mod (.int a t) (.int b u)) Q E s :=
  mod_int' (by have := hb.pos; omega) (h _ ⟨Int.fmod_nonneg_of_pos a hb.pos⟩)
theorem add_one {b : Int} (hb : NN b) (h : ∀ r, Pos r → Q (.int r s.toks) { s with toks := s.toks + 1 }) : wpAny (model prog w) A (binaryOp .Add (.int 1 t) (.int b u)) Q E s :=
  add_int (h _ ⟨by have := hb.out; omega⟩)

theorem air_method {M : Model} {x : UInt64} {pl : Sem Bool} {Q : Value × List Value → Shared → Prop} (h : Q (.builtin "float.as_integer_ratio", [.float x t]) s) : wpAny M A (getMethod (.float x t) "as_integer_ratio" pl) Q E s := by
  with_reducible exact getMethod_builtin (typeIs_float _ _ _) F.plainAttrs_float F.slot_float_as_integer_ratio F.type_float_as_integer_ratio (fun _ e => nomatch e) h
theorem air_method_int {M : Model} {n : Int} {pl : Sem Bool} {Q : Value × List Value → Shared → Prop} (h : Q (.builtin "int.as_integer_ratio", [.int n t]) s) : wpAny M A (getMethod (.int n t) "as_integer_ratio" pl) Q E s := by
  with_reducible exact getMethod_builtin (typeIs_int _ _ _) F.plainAttrs_int F.slot_int_as_integer_ratio F.type_int_as_integer_ratio (fun _ e => nomatch e) h
end

def pairSpec (a b : Int) : PySem.Spec := fun _ R s => ∀ t u tk, R (.ok (.ret (.ref s.heap.objs.size))) { s with heap := s.heap.push { cls := .type "tuple", data := .seq #[.int a t, .int b u] }, toks := tk }

theorem meets_air {x : UInt64} (t : Tok) {sg : Bool} {m : Nat} {e : Int} (hd : Float64.decode x = .fin sg m e) :
    Meets (Builtin.«float.as_integer_ratio» ⟨[.float x t], []⟩) (pairSpec (Float64.sgn sg (Float64.ratio m e).1) (Float64.ratio m e).2) :=
  .of_wp fun prog w A R s h => by
    obtain ⟨hp, g, d, tk, os⟩ := s
    unfold Builtin.«float.as_integer_ratio» Builtin.Float.floatMethod0
    repeat (any_goals (first | assumption | rw [hd] | wp_step))
    all_goals exact ⟨_, rfl, h _ _ _⟩
theorem meets_air_int (n : Int) (t : Tok) :
    Meets (Builtin.«int.as_integer_ratio» ⟨[.int n t], []⟩) (pairSpec n 1) :=
  .of_wp fun prog w A R s h => by
    obtain ⟨hp, g, d, tk, os⟩ := s
    unfold Builtin.«int.as_integer_ratio»
    repeat (any_goals (first | assumption | wp_step))
    all_goals exact ⟨_, rfl, h _ _ _⟩
theorem meets_air_nan {x : UInt64} (t : Tok) (hd : Float64.decode x = .nan) : Meets (Builtin.«float.as_integer_ratio» ⟨[.float x t], []⟩) (raisesNew "ValueError") :=
  .of_wp fun prog w A R s h => by
    obtain ⟨hp, g, d, tk, os⟩ := s
    unfold Builtin.«float.as_integer_ratio» Builtin.Float.floatMethod0
    repeat (any_goals (first | assumption | rw [hd] | wp_step))
    exact_raiseError plainExc_ValueError h.1 h.2
theorem meets_air_inf {x : UInt64} (t : Tok) {sg : Bool} (hd : Float64.decode x = .inf sg) : Meets (Builtin.«float.as_integer_ratio» ⟨[.float x t], []⟩) (raisesNew "OverflowError") :=
  .of_wp fun prog w A R s h => by
    obtain ⟨hp, g, d, tk, os⟩ := s
    unfold Builtin.«float.as_integer_ratio» Builtin.Float.floatMethod0
    repeat (any_goals (first | assumption | rw [hd] | wp_step))
    exact_raiseError plainExc_OverflowError h.1 h.2


abbrev pairOf (a b : Value) : Obj := { cls := .type "tuple", data := .seq #[a, b] }
section
variable {prog : Program} {w : World} {A : Around} {E : Value → Shared → Prop} {s : Shared} {Q : Value → Shared → Prop} {t u : Tok} {h₀ : Heap} {L : Addr} {m : Str → Option Value} {news : List (Addr × Obj)}
theorem air_quot {x : UInt64} (hq : Quot x) (F : Fr h₀ L s.heap m) (N : News h₀ L s.heap news)
    (h : ∀ n d t u D h' tk, Told x n d → Fr h₀ L h' m → News h₀ L h' ((D, pairOf (.int n t) (.int d u)) :: news) → (∀ p ∈ news, p.1 < D) → Q (.ref D) { s with heap := h', toks := tk }) :
    wpAny (model prog w) A (call (.builtin "float.as_integer_ratio") [.float x t]) Q E s := by
  obtain ⟨sg, mm, e, hd, ht⟩ := hq.out
  exact call_meets PySem.F.slot_float_as_integer_ratio (typeIs_float s x t) PySem.F.entry_float_as_integer_ratio (PySem.F.args_float_as_integer_ratio_1 _) (meets_air t hd)
    fun t u tk => h _ _ t u _ _ tk ht (F.push _) (N.push F _) fun p hp => Heap.lt_size (N p hp).1
theorem air_int {n : Int} (F : Fr h₀ L s.heap m) (N : News h₀ L s.heap news)
    (h : ∀ t u D h' tk, Fr h₀ L h' m → News h₀ L h' ((D, pairOf (.int n t) (.int 1 u)) :: news) → (∀ p ∈ news, p.1 < D) → Q (.ref D) { s with heap := h', toks := tk }) :
    wpAny (model prog w) A (call (.builtin "int.as_integer_ratio") [.int n t]) Q E s :=
  call_meets PySem.F.slot_int_as_integer_ratio (typeIs_int s n t) PySem.F.entry_int_as_integer_ratio (PySem.F.args_int_as_integer_ratio_1 _) (meets_air_int n t)
    fun t u tk => h t u _ _ tk (F.push _) (N.push F _) fun p hp => Heap.lt_size (N p hp).1
/-- a float beyond all; a float that is no number -/
structure IsInf (x : UInt64) : Prop where
  out : ∃ s, x = Float64.inf s
structure IsNan (x : UInt64) : Prop where
  out : x = Float64.nan
theorem decode_inf (s : Bool) : Float64.decode (Float64.inf s) = .inf s := by
  cases s <;> with_unfolding_all rfl
theorem decode_nan : Float64.decode Float64.nan = .nan := by
  with_unfolding_all rfl
theorem air_inf {x : UInt64} (hA : A.handled = none) (hi : IsInf x) (h : ∀ h' tk e, Heap.NewExc s.heap h' e "OverflowError" → E (.ref e) { s with heap := h', toks := tk }) :
    wpAny (model prog w) A (call (.builtin "float.as_integer_ratio") [.float x t]) Q E s := by
  obtain ⟨sg, e⟩ := hi.out
  have hd : Float64.decode x = .inf sg := e ▸ decode_inf sg
  exact call_meets PySem.F.slot_float_as_integer_ratio (typeIs_float s x t) PySem.F.entry_float_as_integer_ratio (PySem.F.args_float_as_integer_ratio_1 _) (meets_air_inf t hd) ⟨hA, h⟩
theorem air_nan {x : UInt64} (hA : A.handled = none) (hi : IsNan x) (h : ∀ h' tk e, Heap.NewExc s.heap h' e "ValueError" → E (.ref e) { s with heap := h', toks := tk }) :
    wpAny (model prog w) A (call (.builtin "float.as_integer_ratio") [.float x t]) Q E s :=
  call_meets PySem.F.slot_float_as_integer_ratio (typeIs_float s x t) PySem.F.entry_float_as_integer_ratio (PySem.F.args_float_as_integer_ratio_1 _) (meets_air_nan t (hi.out ▸ decode_nan)) ⟨hA, h⟩
end
end Mine

/-! ## Comp -/
namespace Mine
open PyProof.Rows.LCg PySem.Calls

/-! ### a list comprehension over a tuple of the call's own, turn by turn -/
abbrev TupAt (ax : Addr) (its : Array Value) (nw : List (Addr × Obj)) : Prop := ∃ o, (ax, o) ∈ nw ∧ o.cls = .type "tuple" ∧ ∃ k, o.data = .seq its k

def SrcT (prog : Program) (w : World) (A : Around) (h₀ : Heap) (L : Addr) (m : Str → Option Value) (env : Env) (elt : PySem.Expr) (x : Str) (scope : Scope) (cl : List (Str × Addr)) (Fin : Shared → List Value → List (Addr × Obj) → Prop) (xv : Value) (s₁ : Shared) : Prop :=
  ∃ ax its news, xv = .ref ax ∧ A.handled = none ∧ Fr h₀ L s₁.heap m ∧ News h₀ L s₁.heap news ∧ TupAt ax its news ∧ its.size ≤ sizeLine ∧
    ∀ s₂ : Shared, (∃ h, s₂ = { s₁ with heap := h }) → CompRest prog w A h₀ L m env elt x scope cl s₂ (TupAt ax its) (fun i v => its[i]? = some v) (Fin s₂) its.size 0 [] news

section
variable {prog : Program} {w : World} {A : Around} {E : Value → Shared → Prop} {s : Shared} {h₀ : Heap} {L : Addr} {m : Str → Option Value} {env : Env}

theorem SrcT.intro {elt : PySem.Expr} {x : Str} {scope : Scope} {cl : List (Str × Addr)} {Fin : Shared → List Value → List (Addr × Obj) → Prop} {ax : Addr} {its : Array Value} {k : Nat} {news : List (Addr × Obj)} {s₁ : Shared}
    (hh : A.handled = none) (F : Fr h₀ L s₁.heap m) (N : News h₀ L s₁.heap news) (hm : (ax, ({ cls := .type "tuple", data := .seq its k } : Obj)) ∈ news) (hsz : its.size ≤ sizeLine)
    (h : ∀ g, CompRest prog w A h₀ L m env elt x scope cl { s₁ with heap := g } (TupAt ax its) (fun i v => its[i]? = some v) (Fin { s₁ with heap := g }) its.size 0 [] news) :
    SrcT prog w A h₀ L m env elt x scope cl Fin (.ref ax) s₁ := ⟨ax, its, news, rfl, hh, F, N, ⟨_, hm, rfl, _, rfl⟩, hsz, fun _ ⟨g, e⟩ => e ▸ h g⟩

theorem TupAt.tup {h : Heap} {ax : Addr} {its : Array Value} {nw : List (Addr × Obj)} (x : TupAt ax its nw) (N : News h₀ L h nw) : h.IsTuple ax its :=
  let ⟨o, hm, r⟩ := x
  ⟨o, (N _ hm).1, r⟩

theorem tup_st {ax I : Addr} {its : Array Value} : ∀ i (h h' : Heap) (o : Obj) (nw : List (Addr × Obj)), (h.IsTupleIter I ax i ∧ h.IsTuple ax its) → h.get? I = some o → h'.get? I = some o → (∀ b o, h₀.get? b = some o → h'.get? b = some o) → News h₀ L h' nw → TupAt ax its nw → (h'.IsTupleIter I ax i ∧ h'.IsTuple ax its) :=
  fun i h h' o nw st e e' _ N S => ⟨by obtain ⟨o', q, r⟩ := st.1; rw [e] at q; cases q; exact ⟨o, e', r⟩, S.tup N⟩

theorem ListComp_T {elt iter : PySem.Expr} {x : Str} {px : PySem.Pos} {scope : Scope} {cl : List (Str × Addr)} {pos : PySem.Pos} {Q : Value → Shared → Prop} (_ : Fr h₀ L s.heap m)
    (hclos : closureFor scope env = pure cl) (hcell : ∀ y ∈ scope.names, y.2 ≠ .cell) (hkind : scope.kind = .function)
    (hnames : ∀ y ∈ scope.names, y.2 = .local → scope.names.lookup y.1 = some .local) (hx : scope.names.lookup x = some .local)
    (h : wpAny (model prog w) A (eval iter env) (SrcT prog w A h₀ L m env elt x scope cl (fun s₂ => FinE h₀ L m s₂ Q)) E s)
    (hs : ∀ x, foldedSetIterable iter env x = pure x := by intro _; rfl) :
    wpAny (model prog w) A (eval (.ListComp elt [⟨.Name x px, iter, [], 0⟩] scope pos) env) Q E s := by
  rw [eval_ListComp]
  refine wpAny_comprehension_free (use := none) rfl hs hclos hkind hnames (wpAny_mono h (fun xv s₁ h₁ => ?_) fun _ _ e => e)
  obtain ⟨ax, its, news, rfl, hh, F, N, S, hsz, R⟩ := h₁
  have hl := S.tup N
  have hlt : ax < s₁.heap.objs.size := by obtain ⟨_, e, _⟩ := hl; exact Heap.lt_size e
  refine wpAny_pyIter_tuple hl ?_
  have up : ∀ b o, s₁.heap.get? b = some o → (s₁.heap.push { cls := .type "tuple_iterator", data := .fields #[.ref ax, .int 0 0] }).get? b = some o := fun b o e => Heap.get?_push_of_some _ e
  refine block_U (Walks.tuple hh s₁.heap.objs.size ax (Nat.ne_of_lt hlt) its) hsz (fun i h st => by obtain ⟨o, e, _⟩ := st.1; exact ⟨o, e⟩) tup_st hcell hkind hx
    ⟨⟨_, Heap.get?_push_size _ rfl, rfl, rfl⟩, hl.at fun o e => up _ o e⟩ (fun b hb => ?_)
    (F.keeps up) (N.grown up) (Nat.ne_of_lt F.ns.lt) (next_is_new F) (fun p hp => Nat.ne_of_lt (Heap.lt_size (N p hp).1)) S (R _ ⟨_, rfl⟩) ?_
  · show b < (s₁.heap.push _).objs.size
    rw [Heap.size_push]
    rcases List.mem_cons.mp hb with rfl | hb
    · exact Nat.lt_succ_self _
    · rw [List.mem_singleton.mp hb]; exact Nat.lt_succ_of_lt hlt
  · intro D C h tk m' ys news' F' N' o1 hn hC₀ hD₀ hCL hDL hCD offC fin
    refine ⟨m', hn, fun h'' hs'' => fin D h'' tk (F'.change hs'' hCL hC₀) (fun p hp => ?_) o1⟩
    refine ⟨hs''.extBut _ _ ?_ (N' p hp).1, (N' p hp).2⟩
    rcases List.mem_cons.mp hp with rfl | hp
    · exact Ne.symm hCD
    · exact offC p hp
theorem compEnd_same {I C D : Addr} {s₁ : Shared} {oI oC oD : Obj} {S : List (Addr × Obj) → Prop} {rest : Value → List (Addr × Obj) → Prop} {y : Value} {h' : Heap} {tk : Nat} {news' : List (Addr × Obj)}
    (F : Fr h₀ L h' m) (N : News h₀ L h' ((I, oI) :: (C, oC) :: (D, oD) :: news')) (off : Off3 I C D news') (hS : S news') (r : rest y news') :
    CompEnd h₀ L m s₁ I oI C oC D oD S rest y { s₁ with heap := h', toks := tk } := CompEnd.intro F N news' (fun _ hp => hp) off hS r

open PySem.SeqAt
theorem eqAt_self {v : Value} (hv : (v == v) = true) : EqAt A s v v true := fun prog w E Q h => by
  unfold eqBool
  refine wpAny_holding ?_
  rw [if_pos hv]
  exact wpAny_bind (wpAny_rule (wpAny_pure h))

theorem ne_lists2 {l b : Addr} {v₁ v₂ w₁ w₂ : Value} {b₁ b₂ : Bool} {Q : Value → Shared → Prop} (hl : s.heap.IsList l #[v₁, v₂]) (hb : s.heap.IsList b #[w₁, w₂]) (hu : A.units < cLine)
    (h₁ : EqAt A.in1 s v₁ w₁ b₁) (h₂ : EqAt A.in1 s v₂ w₂ b₂) (h : Q (.bool (!(b₁ && b₂))) s) : wpAny (model prog w) A (compareOp .NotEq (.ref l) (.ref b)) Q E s := by
  refine RcNeAt.lists (e := fun j => if j = 0 then b₁ else b₂) hl hb rfl hu (fun j j1 j2 => ?_) prog w E Q ?_
  · have : j = 0 ∨ j = 1 := by
      have : j < 2 := j1
      omega
    rcases this with rfl | rfl
    · exact h₁
    · exact h₂
  · have e : (List.range (#[v₁, v₂] : Array Value).size).all (fun j => if j = 0 then b₁ else b₂) = (b₁ && b₂) := by
      show (List.range 2).all _ = _
      simp [List.range_succ]
    rw [e]
    exact h
theorem ne_tuples2 {l b : Addr} {v₁ v₂ w₁ w₂ : Value} {b₁ b₂ : Bool} {Q : Value → Shared → Prop} (hl : s.heap.IsTuple l #[v₁, v₂]) (hb : s.heap.IsTuple b #[w₁, w₂]) (hu : A.units < cLine)
    (h₁ : EqAt A.in1 s v₁ w₁ b₁) (h₂ : EqAt A.in1 s v₂ w₂ b₂) (h : Q (.bool (!(b₁ && b₂))) s) : wpAny (model prog w) A (compareOp .NotEq (.ref l) (.ref b)) Q E s := by
  refine RcNeAt.tuples (e := fun j => if j = 0 then b₁ else b₂) hl hb hu (fun j j1 j2 => ?_) prog w E Q ?_
  · have : j = 0 ∨ j = 1 := by
      have : j < 2 := j1
      omega
    rcases this with rfl | rfl
    · exact h₁
    · exact h₂
  · have e : ((List.range (min (#[v₁, v₂] : Array Value).size (#[w₁, w₂] : Array Value).size)).all (fun j => if j = 0 then b₁ else b₂) && (#[v₁, v₂] : Array Value).size == (#[w₁, w₂] : Array Value).size) = (b₁ && b₂) := by
      show ((List.range 2).all _ && (2 == 2)) = _
      simp [List.range_succ]
    rw [e]
    exact h
theorem isList_of {l : Addr} {o : Obj} {its : Array Value} {k : Nat} {news : List (Addr × Obj)} (N : News h₀ L s.heap news) (hm : (l, ({ cls := .type "list", data := .seq its k } : Obj)) ∈ news) : s.heap.IsList l its := ⟨_, (N _ hm).1, rfl, _, rfl⟩
theorem isTuple_of {l : Addr} {its : Array Value} {k : Nat} {news : List (Addr × Obj)} (N : News h₀ L s.heap news) (hm : (l, ({ cls := .type "tuple", data := .seq its k } : Obj)) ∈ news) : s.heap.IsTuple l its := ⟨_, (N _ hm).1, rfl, _, rfl⟩
/-- two lists of the same two types -/
theorem ne_types {l b : Addr} {k k' : Nat} {T U : String} {news : List (Addr × Obj)} {Q : Value → Shared → Prop} (N : News h₀ L s.heap news) (hl : (l, ({ cls := .type "list", data := .seq #[.type T, .type U] k } : Obj)) ∈ news)
    (hb : (b, ({ cls := .type "list", data := .seq #[.type T, .type U] k' } : Obj)) ∈ news) (hu : A.units < cLine) (h : Q (.bool false) s) : wpAny (model prog w) A (compareOp .NotEq (.ref l) (.ref b)) Q E s :=
  ne_lists2 ⟨_, (N _ hl).1, rfl, _, rfl⟩ ⟨_, (N _ hb).1, rfl, _, rfl⟩ hu (eqAt_self (beq_self_eq_true _)) (eqAt_self (beq_self_eq_true _)) h
/-- two pairs of ints -/
theorem ne_pairs {l b : Addr} {k k' : Nat} {x y x' y' : Int} {t u t' u' : Tok} {news : List (Addr × Obj)} {Q : Value → Shared → Prop} (N : News h₀ L s.heap news) (hl : (l, ({ cls := .type "tuple", data := .seq #[.int x t, .int y u] k } : Obj)) ∈ news)
    (hb : (b, ({ cls := .type "tuple", data := .seq #[.int x' t', .int y' u'] k' } : Obj)) ∈ news) (hu : A.units < cLine) (e1 : x = x') (e2 : y = y') (h : Q (.bool false) s) : wpAny (model prog w) A (compareOp .NotEq (.ref l) (.ref b)) Q E s := by
  subst e1 e2
  have h1 := (MeetsSeq.EqGives.int x x t t').at A.in1 s
  have h2 := (MeetsSeq.EqGives.int y y u u').at A.in1 s
  rw [beq_self_eq_true] at h1 h2
  exact ne_tuples2 ⟨_, (N _ hl).1, rfl, _, rfl⟩ ⟨_, (N _ hb).1, rfl, _, rfl⟩ hu h1 h2 h
/-- two pairs of the same two objects -/
theorem ne_pairs_same {l b : Addr} {k k' : Nat} {v v' : Value} {news : List (Addr × Obj)} {Q : Value → Shared → Prop} (N : News h₀ L s.heap news) (hl : (l, ({ cls := .type "tuple", data := .seq #[v, v'] k } : Obj)) ∈ news)
    (hb : (b, ({ cls := .type "tuple", data := .seq #[v, v'] k' } : Obj)) ∈ news) (hu : A.units < cLine) (h : Q (.bool false) s) : wpAny (model prog w) A (compareOp .NotEq (.ref l) (.ref b)) Q E s :=
  ne_tuples2 ⟨_, (N _ hl).1, rfl, _, rfl⟩ ⟨_, (N _ hb).1, rfl, _, rfl⟩ hu (eqAt_self (beq_self_eq_true _)) (eqAt_self (beq_self_eq_true _)) h
end
end Mine

/-! ## R2 -/
namespace Mine

/-- the test comes out false, and nothing is stored -/
def EndF (s : Shared) (b : Bool) (s' : Shared) : Prop := b = false ∧ ∃ tk', s' = { s with toks := tk' }
theorem EndF.absurd {s s' : Shared} {b : Bool} {x : UInt64} {n d : Int} (h : Told x n d) (h1 : d ≠ 1) (h2 : n.fmod 2 = 0) : EndF s b s' := by
  rw [Int.fmod_eq_emod_of_nonneg n (by decide)] at h2
  exact False.elim (h.par h1 h2)
section
variable {prog : Program} {w : World} {A : Around} {E : Value → Shared → Prop} {s : Shared} {Q : Value → Shared → Prop} {t u : Tok} {x : UInt64} {n d : Int}

theorem told_le1 (h : Told x n d) (hq : Q (.bool true) s) : wpAny (model prog w) A (compareOp .LtE (.int 1 t) (.int d u)) Q E s :=
  le_int (by rw [decide_eq_true h.d1]; exact hq)
theorem told_le2 {P : Int} (h : Told x n d) (hP : IsPow P 1074) (hq : Q (.bool true) s) : wpAny (model prog w) A (compareOp .LtE (.int d t) (.int P u)) Q E s :=
  le_int (by rw [decide_eq_true (show d ≤ P by rw [hP.out]; exact h.d2)]; exact hq)
theorem told_odd (h : Told x n d) (hq : Q (.bool false) s) : wpAny (model prog w) A (compareOp .NotEq (.int (oddOf d) t) (.int 1 u)) Q E s :=
  ne_int (by rw [h.od]; exact hq)
theorem told_lt1 {P : Int} (h : Told x n d) (hP : IsPow P 53) (hq : Q (.bool true) s) : wpAny (model prog w) A (compareOp .Lt (.int (-P) t) (.int (oddOf n) u)) Q E s :=
  lt_int (by rw [decide_eq_true (show -P < oddOf n by rw [hP.out]; have := h.on1; omega)]; exact hq)
theorem told_lt2 {P : Int} (h : Told x n d) (hP : IsPow P 53) (hq : Q (.bool true) s) : wpAny (model prog w) A (compareOp .Lt (.int (oddOf n) t) (.int P u)) Q E s :=
  lt_int (by rw [decide_eq_true (show oddOf n < P by rw [hP.out]; have := h.on2; omega)]; exact hq)
theorem cut_false {tr : Sem Bool} {Q : Bool → Shared → Prop} (h1 : wpAny (model prog w) A tr (EndF s) E s) (h2 : ∀ tk', Q false { s with toks := tk' }) :
    wpAny (model prog w) A tr Q E s := by
  refine wpAny_mono h1 ?_ fun _ _ h => h
  rintro v s' ⟨rfl, tk', rfl⟩
  exact h2 tk'
/-- the float that n / d gives, and the float that it was made of -/
structure SameF (q x : UInt64) : Prop where
  out : Float64.cmp q x = some .eq
theorem div_back (hA : A.handled = none) (h : Told x n d) (hq : ∀ q tk tk', SameF q x → Q (.float q tk) { s with toks := tk' }) :
    wpAny (model prog w) A (binaryOp .Div (.int n t) (.int d u)) Q E s :=
  Flt.div_ii hA (fun e => absurd e (by have := h.d1; omega)) (fun _ hi => absurd hi h.fit) fun _ _ => hq _ _ _ ⟨h.eq⟩
theorem ne_back {q : UInt64} (h : SameF q x) (hq : Q (.bool false) s) : wpAny (model prog w) A (compareOp .NotEq (.float q t) (.float x u)) Q E s :=
  AutoFloatOps.ne_0 (by rw [h.out]; exact hq)
theorem par_of (h : Told x n d) (hd : d ≠ 1) : n % 2 ≠ 0 := h.par hd

/-! ### the floats beyond all -/
theorem ofInt_big_fits : (2 ^ 1000 : Int).natAbs < 2 ^ 1024 - 2 ^ 970 := by decide +kernel
structure IsBig (x : UInt64) : Prop where
  out : ∃ s, x = Float64.pack s ((1000 + 1023) * 2 ^ 52)
theorem big_of : ∀ y : Int, y = 1 ∨ y = -1 → IsBig (Float64.ofFrac (decide ((2 ^ 1000 : Int) < 0) != decide (y < 0)) (2 ^ 1000 : Int).natAbs y.natAbs) := by
  rintro y (rfl | rfl)
  · exact ⟨false, by decide +kernel⟩
  · exact ⟨true, by decide +kernel⟩
theorem big_div {P y : Int} (hA : A.handled = none) (hP : IsPow P 1000) (hy : y = 1 ∨ y = -1) (h : ∀ f tk tk', IsBig f → Q (.float f tk) { s with toks := tk' }) :
    wpAny (model prog w) A (binaryOp .Div (.int P t) (.int y u)) Q E s := by
  have e := hP.out
  subst e
  refine Flt.div_ii hA (fun e => absurd e (by omega)) (fun _ hi => absurd hi (frac_fits (by omega) ofInt_big_fits)) fun _ _ => h _ _ _ (big_of y hy)
theorem big_mul {P : Int} {f : UInt64} (hA : A.handled = none) (hP : IsPow P 1000) (hf : IsBig f) (h : ∀ g tk tk', IsInf g → Q (.float g tk) { s with toks := tk' }) :
    wpAny (model prog w) A (binaryOp .Mult (.float f t) (.int P u)) Q E s := by
  have e := hP.out
  subst e
  obtain ⟨sg, rfl⟩ := hf.out
  refine mul_fi_sharp hA (fun hi => absurd hi (Nat.not_le.mpr ofInt_big_fits)) fun _ => h _ _ _ ⟨sg, ?_⟩
  cases sg <;> decide +kernel
theorem inf_sub {g : UInt64} (hg : IsInf g) (h : ∀ q tk tk', IsNan q → Q (.float q tk) { s with toks := tk' }) : wpAny (model prog w) A (binaryOp .Sub (.float g t) (.float g u)) Q E s := by
  obtain ⟨sg, rfl⟩ := hg.out
  refine sub_float (h _ _ _ ⟨?_⟩)
  cases sg <;> decide +kernel
theorem nan_eq {q : UInt64} (hq : IsNan q) (h : Q (.bool false) s) : wpAny (model prog w) A (compareOp .Eq (.float q t) (.float q u)) Q E s := by
  have e := hq.out
  subst e
  refine AutoFloatOps.eq_0 ?_
  rw [show (Float64.cmp Float64.nan Float64.nan == some Ordering.eq) = false by decide +kernel]
  exact h
theorem nan_isfinite {q : UInt64} (hq : IsNan q) (h : Q (.bool false) s) : wpAny (model prog w) A (call (.builtin "math.isfinite") [.float q t]) Q E s := by
  have e := hq.out
  subst e
  refine Flt.call_isfinite_float ?_
  rw [show Float64.isFinite Float64.nan = false by decide +kernel]
  exact h
theorem inf_isfinite {q : UInt64} (hq : IsInf q) (h : Q (.bool false) s) : wpAny (model prog w) A (call (.builtin "math.isfinite") [.float q t]) Q E s := by
  obtain ⟨sg, rfl⟩ := hq.out
  refine Flt.call_isfinite_float ?_
  rw [show Float64.isFinite (Float64.inf sg) = false by cases sg <;> decide +kernel]
  exact h
end

/-! ### the loop that strikes the twos -/
def OddStep (h₀ : Heap) (L : Addr) (s : Shared) (i : Str) (m : Str → Option Value) (news : List (Addr × Obj)) (b : Int) (f : Flow) (s₃ : Shared) : Prop :=
  f = .next ∧ ∃ h' tk c t', s₃ = { s with heap := h', toks := tk } ∧ Fr h₀ L h' (fun y => if y = i then some (.int c t') else m y) ∧ News h₀ L h' news ∧ b ≠ 0 ∧ b % 2 = 0 ∧ c = b / 2

theorem odd_while {prog : Program} {w : World} {A : Around} {E : Value → Shared → Prop} {Q : Flow → Shared → Prop} {s : Shared} {env : Env} {h₀ : Heap} {L : Addr} {m : Str → Option Value} {news : List (Addr × Obj)}
    {test : PySem.Expr} {body : List PySem.Stmt} {pos : PySem.Pos} {i : Str} {a : Int} {t : Tok} (F : Fr h₀ L s.heap m) (N : News h₀ L s.heap news) (hm : m i = some (.int a t))
    (turn : ∀ b tb h₁ tk₁, oddOf b = oddOf a → Fr h₀ L h₁ (fun y => if y = i then some (.int b tb) else m y) → News h₀ L h₁ news →
      wpAny (model prog w) A (isTrue test env (eval test env)) (fun r s₂ => if r = true then wpAny (model prog w) A (execs body env) (OddStep h₀ L { s with heap := h₁, toks := tk₁ } i m news b) E s₂ else Q .next s₂) E { s with heap := h₁, toks := tk₁ })
    (hE : PassesOwn (model prog w) A env E := by passes_own) :
    wpAny (model prog w) A (exec (.While test body [] pos) env) Q E s := by
  have em : m = fun y => if y = i then some (.int a t) else m y := by
    funext y
    by_cases hy : y = i
    · rw [if_pos hy, hy, hm]
    · rw [if_neg hy]
  refine While_inv (fun n m₁ news₁ => ∃ b tb, n = b.natAbs ∧ oddOf b = oddOf a ∧ m₁ = (fun y => if y = i then some (.int b tb) else m y) ∧ news₁ = news) F N ⟨a, t, rfl, rfl, em, rfl⟩ ?_ hE
  rintro n m₁ news₁ h₁ tk₁ F₁ N₁ ⟨b, tb, rfl, hb, rfl, rfl⟩
  refine wpAny_mono (turn b tb h₁ tk₁ hb F₁ N₁) (fun r s₂ h₂ => ?_) fun _ _ e => e
  cases r with
  | false => exact h₂
  | true =>
    refine wpAny_mono h₂ (fun f s₃ h₃ => ?_) fun _ _ e => e
    obtain ⟨rfl, h', tk, c, t', rfl, F', N', h0, h2, rfl⟩ := h₃
    exact ⟨rfl, h', tk, _, news₁, (b / 2).natAbs, rfl, F', N', by omega, b / 2, t', rfl, by rw [oddOf_step h0 h2, hb], rfl, rfl⟩

theorem oddStep_intro {h₀ h' : Heap} {L : Addr} {s : Shared} {i : Str} {m : Str → Option Value} {news : List (Addr × Obj)} {b : Int} {t' : Tok} {v : Option Value} {tk : Nat}
    (F : Fr h₀ L h' (fun y => if y = i then some (.int (b.fdiv 2) t') else if y = i then v else m y)) (N : News h₀ L h' news) (h0 : b ≠ 0) (h2 : b.fmod 2 = 0) : OddStep h₀ L s i m news b .next { s with heap := h', toks := tk } := by
  have e : (fun y => if y = i then some (Value.int (b.fdiv 2) t') else if y = i then v else m y) = fun y => if y = i then some (Value.int (b.fdiv 2) t') else m y := by
    funext y
    by_cases hy : y = i
    · rw [if_pos hy, if_pos hy]
    · rw [if_neg hy, if_neg hy, if_neg hy]
  rw [e] at F
  exact ⟨rfl, h', tk, _, t', rfl, F, N, h0, by rw [← Int.fmod_eq_emod_of_nonneg b (by decide)]; exact h2, Int.fdiv_eq_ediv_of_nonneg b (by decide)⟩
theorem odd_done {a b : Int} (h : oddOf b = oddOf a) (h0 : b = 0 ∨ b.fmod 2 ≠ 0) : b = oddOf a := by
  rw [← h]
  rw [Int.fmod_eq_emod_of_nonneg b (by decide)] at h0
  exact (oddOf_end h0).symm


theorem enter_bad {M : Model} {A : Around} {E : Value → Shared → Prop} {s : Shared} {Q : Value → Shared → Prop} {f : Addr} {x : UInt64} {t : Tok} (_ : IsNan x ∨ IsInf x) (h : wpAny M A (call (.ref f) [.float x t]) Q E s) :
    wpAny M A (call (.ref f) [.float x t]) Q E s := h
end Mine

/-! ## Loop -/
namespace Mine

section
variable {prog : Program} {w : World} {A : Around} {E : Value → Shared → Prop} {s : Shared} {env : Env} {h₀ : Heap} {x : Str} {body : List PySem.Stmt} {Q : Flow → Shared → Prop}

/-- a loop over a range, whose turn keeps the ledger; the ledger of a turn is written out: the iterator, then what stood there -/
theorem range_led {r : Addr} {a₀ b₀ : Int} {t₀ u₀ v₀ : Tok} {n : Nat} {m₀ : Str → Option Value} {news : List (Addr × Obj)} (stored : List Str)
    (hh : A.handled = none) (hr : IsRange s.heap r a₀ b₀ 1 t₀ u₀ v₀) (hsmall : Builtin.Range.small a₀ b₀ 1 = true) (hn : Builtin.Range.rangeSize a₀ b₀ 1 = (n : Int)) (F : Fr h₀ env.locals s.heap m₀) (N : News h₀ env.locals s.heap news)
    (turn : ∀ (i : Nat) (k : Int) (t : Tok) (u : Str → Option Value) (h : Heap) (tk : Nat) (I : Addr) (oI : Obj), k = a₀ + (i : Int) → i < n → (∀ p ∈ news, p.1 < I) →
      Fr h₀ env.locals h (fun y => if y = x then some (.int k t) else if stored.contains y then u y else m₀ y) → News h₀ env.locals h ((I, oI) :: news) →
      wpAny (model prog w) A (execs body env) (InvPostN h₀ env.locals (KstS (σ := Unit) (fun _ => news) (fun _ => []) (fun _ => True) x stored m₀ (fun _ _ => True) []) [(I, oI)] (news.map (·.1)) { s with heap := h, toks := tk } Q) E { s with heap := h, toks := tk })
    (done : ∀ (u : Str → Option Value) h tk, Fr h₀ env.locals h (fun y => if y = x then u y else if stored.contains y then u y else m₀ y) → News h₀ env.locals h news → Q .next { s with heap := h, toks := tk }) :
    wpAny (model prog w) A (pyIter (.ref r)) (fun it s₂ => LoopAtV prog w A h₀ env x body Q E it s₂) E s := by
  refine wpAny_pyIter_range hr hsmall ?_
  have W : Walks prog w A s.heap.objs.size [s.heap.objs.size] [s.heap.objs.size] n (fun i v => i < n ∧ ∃ t, v = .int (a₀ + i * 1) t)
      (fun i h => IsRangeIter h s.heap.objs.size (a₀ + (i : Nat) * 1) ((n : Int) - (i : Nat)) 1) := (Walks.range hh _ a₀ 1 n).bound
  have hlt : ∀ p ∈ news, p.1 < s.heap.objs.size := fun p hp => Heap.lt_size (N p hp).1
  refine ⟨s.heap.objs.size, _, _, n, _, _, m₀, news, (fun _ m₁ news₁ => news₁ = news ∧ ∀ z, z ≠ x → stored.contains z = false → m₁ z = m₀ z), rfl, W, ?_, ?_, ?_, ?_, F.push _, fun p hp => ⟨Heap.get?_push_of_some _ (N p hp).1, (N p hp).2⟩, ⟨rfl, fun _ _ _ => rfl⟩, ?_, ?_⟩
  · intro hm
    exact absurd F.ns.lt ((List.mem_singleton.mp hm) ▸ Nat.lt_irrefl _)
  · intro b hb
    rw [List.mem_singleton.mp hb]
    exact next_is_new F
  · intro p hp hI
    exact Nat.ne_of_lt (hlt p hp) (List.mem_singleton.mp hI)
  · show IsRangeIter _ _ _ _ _
    rw [hn]
    simpa using Heap.get?_push_size _ rfl
  · rintro i v m₁ news₁ s₁ own ⟨hh', tk', rfl⟩ hin ⟨_, t, rfl⟩ ⟨rfl, hJ⟩ hoff hown hget hinw hst F₁ N₁
    obtain ⟨oI, hI⟩ : ∃ o, hh'.get? s.heap.objs.size = some o := ⟨_, hst⟩
    have h₀I : h₀.get? s.heap.objs.size = none := next_is_new F
    have hmem := hinw _ (List.mem_singleton.mpr rfl) h₀I _ hI
    have e1 : a₀ + (i : Int) * 1 = a₀ + (i : Int) := by omega
    rw [e1] at F₁
    have all : ∀ p ∈ own, p = (s.heap.objs.size, oI) := fun p hp => by
      have h1 := List.mem_singleton.mp (hown p hp)
      have h2 := hget p hp
      rw [h1, hI] at h2
      exact Prod.ext h1 (Option.some.inj h2).symm
    have N₂ : News h₀ env.locals hh' ((s.heap.objs.size, oI) :: news₁) := fun p hp => by
      rcases List.mem_cons.mp hp with rfl | hp
      · exact N₁ _ (List.mem_append_left _ hmem)
      · exact N₁ _ (List.mem_append_right _ hp)
    refine wpAny_mono (turn i _ t m₁ hh' tk' _ oI rfl hin hlt (kst_fr (ps := []) (fun _ hp => nomatch hp) (fun z hz _ hc => hJ z hz hc) F₁) N₂) (fun f s₂ p => ?_) fun _ _ e => e
    have fin : InvEndN h₀ env.locals (KstS (σ := Unit) (fun _ => news₁) (fun _ => []) (fun _ => True) x stored m₀ (fun _ _ => True) []) [(s.heap.objs.size, oI)] (news₁.map (·.1)) { s with heap := hh', toks := tk' } s₂ →
        LoopStepU h₀ env.locals [s.heap.objs.size] own (fun m₁ news₂ => news₂ = news₁ ∧ ∀ z, z ≠ x → stored.contains z = false → m₁ z = m₀ z) { s with heap := hh', toks := tk' } .next s₂ := by
      rintro ⟨h', tk, m', news', nx, e, F', N', hn', ho', ha, c, rfl, _, _, hz, _⟩
      refine ⟨rfl, h', tk, m', _, e, F', fun p hp => N' p ((List.mem_append.mp hp).elim (fun h => ?_) (hn' p)), fun p hp hq => hoff p hp hq, rfl, fun z h1 h2 => hz z h1 (fun _ hp => nomatch hp) h2⟩
      rw [all p h]
      exact ho' _ (List.mem_singleton.mpr rfl)
    cases f with
    | ret v => exact p
    | brk => exact p
    | next => exact fin p
    | cont => exact fin p
  · rintro h' tk m' news' F' N' _ ⟨rfl, hJ⟩
    exact done m' h' tk (kst_frOut (ps := []) (fun _ hp => nomatch hp) (fun z hz _ hc => hJ z hz hc) F') N'
end
end Mine

/-! ## Exc -/
namespace Mine
open PySem.Calls PyProof.Rows.TI

/-! ### an exception that is held in a frame: where it lies, its trace, its context -/
structure Exc (h₀ : Heap) (L : Addr) (h : Heap) (m : Str → Option Value) (e tb : Addr) (X : String) (ctx fl : Value) (led : List (Addr × Obj)) : Prop where
  fr : Fr h₀ L h m
  made : News h₀ L h led
  exc : ∃ ob vs, h.get? e = some ob ∧ ob.cls = .type X ∧ ob.data = .fields vs ∧ vs[1]? = some (.ref tb) ∧ vs[2]? = some ctx
  tr : ∃ otb tvs, h.get? tb = some otb ∧ otb.data = .fields tvs ∧ tvs[3]? = some fl
  e0 : h₀.get? e = none
  t0 : h₀.get? tb = none
  eL : e ≠ L
  tL : tb ≠ L
  te : tb ≠ e
  apart : ∀ p ∈ led, p.1 ≠ tb ∧ p.1 ≠ e

/-- a fresh exception, no trace yet -/
structure Raw (h₀ : Heap) (L : Addr) (h : Heap) (m : Str → Option Value) (e : Addr) (X : String) (ctx : Value) (led : List (Addr × Obj)) : Prop where
  fr : Fr h₀ L h m
  made : News h₀ L h led
  exc : ∃ ob vs, h.get? e = some ob ∧ ob.cls = .type X ∧ ob.data = .fields vs ∧ vs[1]? = some .none ∧ vs[2]? = some ctx
  e0 : h₀.get? e = none
  eL : e ≠ L
  apart : ∀ p ∈ led, p.1 ≠ e

theorem raw_new {h₀ h h' : Heap} {L e : Addr} {m : Str → Option Value} {X : String} {led : List (Addr × Obj)} (hx : Heap.NewExc h h' e X) (F : Fr h₀ L h m) (N : News h₀ L h led) : Raw h₀ L h' m e X .none led := by
  obtain ⟨ob, t, he, hc, hd⟩ := hx.there
  refine ⟨F.keeps hx.keeps, fun p hp => ⟨hx.keeps _ _ (N p hp).1, (N p hp).2⟩, ⟨ob, _, he, hc, hd, by simp, by simp⟩, none_of F.keep hx.new, fun q => ?_, fun p hp q => ?_⟩
  · have := F.ns.lt
    obtain ⟨o, es, ep, hL, _⟩ := F.ns
    rw [← q, hx.new] at hL
    cases hL
  · have := (N p hp).1
    rw [q, hx.new] at this
    cases this

section
variable {prog : Program} {w : World} {M : Model} {A A₀ : Around} {E : Value → Shared → Prop} {s : Shared} {h₀ : Heap} {L a e tb : Addr} {m : Str → Option Value} {name : Str} {scope : Scope} {cd ctx fl : Value} {X : String} {l : List Env} {new frs : List (Addr × Obj)}

theorem entry_core {Q : Unit → Shared → Prop} {head : Value} {hn : Bool} {ob : Obj} {vs : Array Value} (hfr : A₀.frames = some l) (Fs : Frs l frs) (F : Fr h₀ L s.heap m) (N : News h₀ L s.heap (new ++ frs)) (he : s.heap.get? e = some ob) (hc : ob.cls = .type X) (hd : ob.data = .fields vs) (h2 : vs[2]? = some ctx)
    (e0 : h₀.get? e = none) (eL : e ≠ L) (hae : ∀ p ∈ new ++ frs, p.1 ≠ e) (hap : ∀ p ∈ new, p.1 ∉ frs.map (·.1))
    (k : ∀ h' frs' tb, SameUp frs frs' → Frs l frs' → Exc h₀ L h' m e tb X ctx (rawInt L) (new ++ frs') → Q () { s with heap := h' }) (hk : scope.kind = .function := by rfl) :
    wpAny M (A₀.deeper (envOf name scope L a cd)) (do let a ← frameOf (envOf name scope L a cd); let pl ← entryPlaceOf L hn; let b ← EntryCells.newEntry head a .none (rawInt L) .none pl; setField (.ref e) 1 b) Q E s := by
  have hsz : 2 < vs.size := (Array.getElem?_eq_some_iff.mp h2).1
  have hsub : ∀ p ∈ frs, p ∈ new ++ frs := fun p hp => List.mem_append_right _ hp
  have hb0 : ∀ b ∈ L :: frs.map (·.1), h₀.get? b = none := fun b hb => by
    rcases List.mem_cons.mp hb with rfl | hb
    · exact Heap.get?_none_of_le F.above
    · obtain ⟨p, hp, rfl⟩ := List.mem_map.mp hb
      exact (N p (hsub p hp)).2.2
  obtain ⟨hff, _, _⟩ := frames_at (name := name) (a := a) (cd := cd) (h' := s.heap) (base := h₀) hk Fs F N hsub (fun b o hb => ⟨o.slots, hb⟩) hb0
  refine wpAny_bind (wpAny_frameOf_fun (Around.frames_deeper hfr) hff rfl fun h₁ hs₁ => ?_)
  refine wpAny_bind (wpAny_entryPlaceOf fun pl hpl => ?_)
  unfold EntryCells.newEntry newFields
  refine wpAny_bind (wpAny_newObj_type ?_ (hpl.sizeOk5 _ _ _ _ _))
  have hS : (envOf name scope L a cd :: l).filterMap (·.frame) = L :: frs.map (·.1) := frames_are Fs
  rw [hS] at hs₁
  have heS : e ∉ L :: frs.map (·.1) := fun hm => by
    rcases List.mem_cons.mp hm with q | hm
    · exact eL q
    · obtain ⟨p, hp, q⟩ := List.mem_map.mp hm
      exact hae p (hsub p hp) q
  have he₁ : h₁.get? e = some ob := (hs₁.2.1 e heS).trans he
  obtain ⟨_, hNs, frs₁, SU, ht⟩ := frames_at (name := name) (a := a) (cd := cd) (h' := h₁) (base := h₀) hk Fs F N hsub (fun b o hb => hs₁.2.2 b o hb) hb0
  generalize htbo : ({ cls := .type "traceback", dict := none, data := .fields ([head, .ref L, .none, rawInt L, .none] ++ (if pl.isEmpty then List.replicate 6 Value.none else pl)).toArray } : Obj) = otb
  have he₂ := Heap.get?_push_of_some (h := h₁) otb he₁
  refine wpAny_setField he₂ hd (by omega) ?_
  have hTe : h₁.objs.size ≠ e := Nat.ne_of_gt (Heap.lt_size he₁)
  have hd₃ := Obj.data_mapFields hd (·.setIfInBounds 1 (Value.ref h₁.objs.size))
  have he₃ := Heap.get?_update_self (Obj.mapFields (·.setIfInBounds 1 (Value.ref h₁.objs.size))) he₂ (Obj.isFreed_of_fields hd₃)
  have hto : otb.isFreed = false := by rw [← htbo]; rfl
  have hT₃ := (Heap.get?_update_other (h₁.push otb) (Obj.mapFields (·.setIfInBounds 1 (Value.ref h₁.objs.size))) (Ne.symm hTe)).trans (Heap.get?_push_size h₁ hto)
  have keep : ∀ b o, b ≠ e → h₁.get? b = some o → ((h₁.push otb).update e (Obj.mapFields (·.setIfInBounds 1 (Value.ref h₁.objs.size)))).get? b = some o := fun b o hbe hb => by
    rw [Heap.get?_update_other _ _ (Ne.symm hbe)]
    exact Heap.get?_push_of_some _ hb
  have hlt : ∀ b o, h₁.get? b = some o → b ≠ h₁.objs.size := fun b o hb => Nat.ne_of_lt (Heap.lt_size hb)
  have hold : ∀ b o, b ∉ L :: frs.map (·.1) → s.heap.get? b = some o → h₁.get? b = some o := fun b o hb ho => (hs₁.2.1 b hb).trans ho
  have h0keep : ∀ b o, h₀.get? b = some o → h₁.get? b = some o := fun b o hb => hold b o (fun hm => by rw [hb0 b hm] at hb; cases hb) (F.keep b o hb)
  obtain ⟨oL, es, ep, hL, r⟩ := hNs
  refine k _ frs₁ h₁.objs.size SU (Fs.up SU) ⟨⟨⟨oL, es, ep, keep L oL (Ne.symm eL) hL, r⟩, fun b o hb => keep b o (fun q => by rw [q, e0] at hb; cases hb) (h0keep b o hb), F.above⟩, fun p hp => ?_,
    ⟨_, _, he₃, (Obj.cls_mapFields _ _).trans hc, hd₃, by simp [show 1 < vs.size by omega], by rw [Array.getElem?_setIfInBounds_ne (by decide)]; exact h2⟩, ⟨otb, _, hT₃, by rw [← htbo], ?_⟩, e0, none_of h0keep (Heap.get?_none_of_le (Nat.le_refl _)), eL, fun q => ?_, hTe, fun p hp => ?_⟩
  · rcases List.mem_append.mp hp with hp | hp
    · have z := N p (List.mem_append_left _ hp)
      have hpn : p.1 ∉ L :: frs.map (·.1) := fun hm => by
        rcases List.mem_cons.mp hm with q | hm
        · exact z.2.1 q
        · exact hap p hp hm
      exact ⟨keep _ _ (hae p (List.mem_append_left _ hp)) (hold _ _ hpn z.1), z.2⟩
    · obtain ⟨x, hx, q⟩ := SU.fwd p hp
      have z := N x (hsub x hx)
      exact ⟨keep _ _ (fun q' => hae x (hsub x hx) (by rw [← q, q'])) (ht p hp), by rw [q]; exact z.2.1, by rw [q]; exact z.2.2⟩
  · first | (simp; done) | (simp; omega) | (rcases hpl with rfl | ⟨_, _, _, _, _, _, _, rfl⟩ <;> simp)
  · have := hlt L oL hL
    exact this q.symm
  · rcases List.mem_append.mp hp with hp | hp
    · have z := N p (List.mem_append_left _ hp)
      have hpn : p.1 ∉ L :: frs.map (·.1) := fun hm => by
        rcases List.mem_cons.mp hm with q | hm
        · exact z.2.1 q
        · exact hap p hp hm
      exact ⟨hlt _ _ (hold _ _ hpn z.1), hae p (List.mem_append_left _ hp)⟩
    · obtain ⟨x, hx, q⟩ := SU.fwd p hp
      exact ⟨hlt _ _ (ht p hp), fun q' => hae x (hsub x hx) (by rw [← q, q'])⟩

theorem note_raw {Q : Unit → Shared → Prop} (hfr : A₀.frames = some l) (Fs : Frs l frs) (R : Raw h₀ L s.heap m e X ctx (new ++ frs)) (hap : ∀ p ∈ new, p.1 ∉ frs.map (·.1))
    (k : ∀ h' frs' tb, SameUp frs frs' → Frs l frs' → Exc h₀ L h' m e tb X ctx (rawInt L) (new ++ frs') → Q () { s with heap := h' }) (hk : scope.kind = .function := by rfl) :
    wpAny M (A₀.deeper (envOf name scope L a cd)) (noteFrame (.ref e) (envOf name scope L a cd)) Q E s := by
  obtain ⟨F, N, ⟨ob, vs, he, hc, hd, h1, h2⟩, e0, eL, hae⟩ := R
  unfold noteFrame
  simp only [show (envOf name scope L a cd).frame = some L from rfl]
  refine wpAny_bind (wpAny_field he hd h1 ?_)
  rw [if_neg (by decide)]
  exact entry_core hfr Fs F N he hc hd h2 e0 eL hae hap k hk

theorem note_more {Q : Unit → Shared → Prop} (hfr : A₀.frames = some l) (Fs : Frs l frs) (H : Exc h₀ L s.heap m e tb X ctx .none (new ++ frs)) (hap : ∀ p ∈ new, p.1 ∉ frs.map (·.1))
    (k : ∀ h' frs' tb', SameUp frs frs' → Frs l frs' → Exc h₀ L h' m e tb' X ctx (rawInt L) (new ++ frs') → Q () { s with heap := h' }) (hk : scope.kind = .function := by rfl) :
    wpAny M (A₀.deeper (envOf name scope L a cd)) (noteFrame (.ref e) (envOf name scope L a cd)) Q E s := by
  obtain ⟨F, N, ⟨ob, vs, he, hc, hd, h1, h2⟩, ⟨otb, tvs, ht, htd, h3⟩, e0, t0, eL, tL, te, hapx⟩ := H
  unfold noteFrame
  simp only [show (envOf name scope L a cd).frame = some L from rfl]
  refine wpAny_bind (wpAny_field he hd h1 ?_)
  rw [if_pos (show (Value.ref tb != Value.none) = true from by simp)]
  refine wpAny_bind (wpAny_field ht htd h3 ?_)
  rw [if_neg (show ¬ ((Value.none == rawInt L) = true) from by simp [rawInt])]
  refine wpAny_bind (wpAny_setField ht htd (Array.getElem?_eq_some_iff.mp h3).1 ?_)
  have other : ∀ b, b ≠ tb → (s.heap.update tb (Obj.mapFields (·.setIfInBounds 3 .none))).get? b = s.heap.get? b := fun b hb => Heap.get?_update_ne _ _ _ _ hb
  obtain ⟨oL, es, ep, hL, r⟩ := F.ns
  exact entry_core (s := { s with heap := s.heap.update tb (Obj.mapFields (·.setIfInBounds 3 .none)) }) hfr Fs
    ⟨⟨oL, es, ep, (other L (Ne.symm tL)).trans hL, r⟩, fun b o hb => (other b fun q => by rw [q, t0] at hb; cases hb).trans (F.keep b o hb), F.above⟩ (fun p hp => ⟨(other _ (hapx p hp).1).trans (N p hp).1, (N p hp).2⟩)
    ((other e (Ne.symm te)).trans he) hc hd h2 e0 eL (fun p hp => (hapx p hp).2) hap k hk

theorem Exc.land {led : List (Addr × Obj)} {Q : Unit → Shared → Prop} (H : Exc h₀ L s.heap m e tb X ctx fl led) (k : ∀ h', Exc h₀ L h' m e tb X ctx .none led → Q () { s with heap := h' }) :
    wpAny M A (setFlight (.ref e) none) Q E s := by
  obtain ⟨F, N, ⟨ob, vs, he, hc, hd, h1, h2⟩, ⟨otb, tvs, ht, htd, h3⟩, e0, t0, eL, tL, te, hap⟩ := H
  have hsz : 3 < tvs.size := (Array.getElem?_eq_some_iff.mp h3).1
  refine wpAny_setFlight_none he hd h1 ht htd hsz (k _ ?_)
  have other : ∀ b, b ≠ tb → (s.heap.update tb (Obj.mapFields (·.setIfInBounds 3 .none))).get? b = s.heap.get? b := fun b hb => Heap.get?_update_ne _ _ _ _ hb
  obtain ⟨oL, es, ep, hL, r⟩ := F.ns
  refine ⟨⟨⟨oL, es, ep, (other L (Ne.symm tL)).trans hL, r⟩, fun b o hb => (other b fun q => by rw [q, t0] at hb; cases hb).trans (F.keep b o hb), F.above⟩, fun p hp => ⟨(other _ (hap p hp).1).trans (N p hp).1, (N p hp).2⟩,
    ⟨ob, vs, (other e (Ne.symm te)).trans he, hc, hd, h1, h2⟩, ⟨_, _, Heap.get?_update_self _ ht (Obj.isFreed_of_fields (Obj.data_mapFields htd _)), Obj.data_mapFields htd _, by simp [hsz]⟩, e0, t0, eL, tL, te, hap⟩

variable {b₀ : PySem.Stmt} {suite : List PySem.Stmt} {pos np tpos p1 p2 : PySem.Pos} {rest : List PySem.ExceptHandler} {x x1 x2 : Str} {kk : Nat} {p : Program} {loose : List Str} {mean : ExcName → Option Value} {mg mb : Str → Option Value} {led : List (Addr × Obj)}

theorem Exc.isA (H : Exc h₀ L s.heap m e tb X ctx fl led) : s.TypeIs (.ref e) X := let ⟨ob, _, he, hc, _⟩ := H.exc; ⟨ob, he, hc⟩

theorem Exc.miss {Q : Flow → Shared → Prop} (H : Exc h₀ L s.heap m e tb X ctx fl led) (T : Top p loose mean mg mb h₀)
    (k : wpAny (model prog w) (A₀.deeper (envOf name scope L a cd)) (handleBy (.ref e) (envOf name scope L a cd) rest) Q E s)
    (t1 : x ∉ startupNames := by decide +kernel) (t2 : x ∉ loose := by decide +kernel) (t3 : x ∉ (recsOf p).map (·.name) := by decide +kernel) (t4 : x ∉ (litsOf p).map (·.1) := by decide +kernel) (t5 : x ∉ (clssOf p loose).map (·.name) := by decide +kernel)
    (h3 : subB X (.type x.toString) = some false := by decide +kernel) (hv : bootBuiltins x = some (.type x.toString) := by decide +kernel) (h1 : subB x.toString (.type "BaseException") = some true := by decide +kernel)
    (h2 : subB ((Manifest.find? x.toString).elim "type" fun y => y.metatype) (.type "tuple") = some false := by decide +kernel) (hn : x ≠ "__name__" := by decide)
    (hk : scope.kind = .function := by rfl) (hxk : (envOf name scope L a cd).kindOf x = some .globalImplicit := by rfl) (hdb : (x == ("__debug__" : Str)) = false := by decide)
    (hE : PassesOwnAt (model prog w) ((A₀.deeper (envOf name scope L a cd)).mark (some (.ref e))) (A₀.deeper (envOf name scope L a cd)) (envOf name scope L a cd) E := by passes_own) :
    wpAny (model prog w) (A₀.deeper (envOf name scope L a cd)) (handleBy (.ref e) (envOf name scope L a cd) (.ExceptHandler (some (.Name x np)) none (b₀ :: suite) pos :: rest)) Q E s := by
  refine wpAny_handleBy_builtin (X := X) (T := x.toString) (b := false) (isSubtype_of_subB h1) (isSubtype_of_subB h2) (isSubtype_of_subB h3) (wpAny_passesOwnAt hE (TT.class_top H.fr T t1 t2 t3 t4 t5 hv ⟨rfl, H.isA, ?_⟩ hn hk hxk hdb))
  rw [if_neg (by decide)]
  exact k

theorem Exc.hit {Q : Flow → Shared → Prop} (H : Exc h₀ L s.heap m e tb X ctx fl led) (T : Top p loose mean mg mb h₀)
    (k : ∀ h', Exc h₀ L h' m e tb X ctx .none led → wpAny (model prog w) ((A₀.deeper (envOf name scope L a cd)).mark (some (.ref e))) (execs (b₀ :: suite) (envOf name scope L a cd)) Q E { s with heap := h' })
    (t1 : x ∉ startupNames := by decide +kernel) (t2 : x ∉ loose := by decide +kernel) (t3 : x ∉ (recsOf p).map (·.name) := by decide +kernel) (t4 : x ∉ (litsOf p).map (·.1) := by decide +kernel) (t5 : x ∉ (clssOf p loose).map (·.name) := by decide +kernel)
    (h3 : subB X (.type x.toString) = some true := by decide +kernel) (hv : bootBuiltins x = some (.type x.toString) := by decide +kernel) (h1 : subB x.toString (.type "BaseException") = some true := by decide +kernel)
    (h2 : subB ((Manifest.find? x.toString).elim "type" fun y => y.metatype) (.type "tuple") = some false := by decide +kernel) (hn : x ≠ "__name__" := by decide)
    (hk : scope.kind = .function := by rfl) (hxk : (envOf name scope L a cd).kindOf x = some .globalImplicit := by rfl) (hdb : (x == ("__debug__" : Str)) = false := by decide)
    (hE : PassesOwnAt (model prog w) ((A₀.deeper (envOf name scope L a cd)).mark (some (.ref e))) (A₀.deeper (envOf name scope L a cd)) (envOf name scope L a cd) E := by passes_own) :
    wpAny (model prog w) (A₀.deeper (envOf name scope L a cd)) (handleBy (.ref e) (envOf name scope L a cd) (.ExceptHandler (some (.Name x np)) none (b₀ :: suite) pos :: rest)) Q E s := by
  refine wpAny_handleBy_builtin (X := X) (T := x.toString) (b := true) (isSubtype_of_subB h1) (isSubtype_of_subB h2) (isSubtype_of_subB h3) (wpAny_passesOwnAt hE (TT.class_top H.fr T t1 t2 t3 t4 t5 hv ⟨rfl, H.isA, ?_⟩ hn hk hxk hdb))
  rw [if_pos rfl]
  exact H.land fun h' H' => wpAny_passesOwnAt hE (k h' H')

theorem Exc.push (H : Exc h₀ L s.heap m e tb X ctx fl led) (o : Obj) : Exc h₀ L (s.heap.push o) m e tb X ctx fl led := by
  obtain ⟨F, N, ⟨ob, vs, he, r⟩, ⟨otb, tvs, ht, r'⟩, x1, x2, x3, x4, x5, x6⟩ := H
  exact ⟨F.push o, fun p hp => ⟨Heap.get?_push_of_some _ (N p hp).1, (N p hp).2⟩, ⟨ob, vs, Heap.get?_push_of_some _ he, r⟩, ⟨otb, tvs, Heap.get?_push_of_some _ ht, r'⟩, x1, x2, x3, x4, x5, x6⟩

theorem Exc.hit2 {Q : Flow → Shared → Prop} (H : Exc h₀ L s.heap m e tb X ctx fl led) (T : Top p loose mean mg mb h₀)
    (k : ∀ h', Exc h₀ L h' m e tb X ctx .none led → wpAny (model prog w) ((A₀.deeper (envOf name scope L a cd)).mark (some (.ref e))) (execs (b₀ :: suite) (envOf name scope L a cd)) Q E { s with heap := h' })
    (t1 : x1 ∉ startupNames := by decide +kernel) (t2 : x1 ∉ loose := by decide +kernel) (t3 : x1 ∉ (recsOf p).map (·.name) := by decide +kernel) (t4 : x1 ∉ (litsOf p).map (·.1) := by decide +kernel) (t5 : x1 ∉ (clssOf p loose).map (·.name) := by decide +kernel)
    (u1 : x2 ∉ startupNames := by decide +kernel) (u2 : x2 ∉ loose := by decide +kernel) (u3 : x2 ∉ (recsOf p).map (·.name) := by decide +kernel) (u4 : x2 ∉ (litsOf p).map (·.1) := by decide +kernel) (u5 : x2 ∉ (clssOf p loose).map (·.name) := by decide +kernel)
    (hb : subB2 X x1.toString x2.toString = some true := by decide +kernel)
    (hv1 : bootBuiltins x1 = some (.type x1.toString) := by decide +kernel) (hv2 : bootBuiltins x2 = some (.type x2.toString) := by decide +kernel)
    (h11 : subB x1.toString (.type "BaseException") = some true := by decide +kernel) (h12 : subB ((Manifest.find? x1.toString).elim "type" fun y => y.metatype) (.type "tuple") = some false := by decide +kernel)
    (h21 : subB x2.toString (.type "BaseException") = some true := by decide +kernel) (h22 : subB ((Manifest.find? x2.toString).elim "type" fun y => y.metatype) (.type "tuple") = some false := by decide +kernel)
    (hn1 : x1 ≠ "__name__" := by decide) (hxk1 : (envOf name scope L a cd).kindOf x1 = some .globalImplicit := by rfl) (hd1 : (x1 == ("__debug__" : Str)) = false := by decide)
    (hn2 : x2 ≠ "__name__" := by decide) (hxk2 : (envOf name scope L a cd).kindOf x2 = some .globalImplicit := by rfl) (hd2 : (x2 == ("__debug__" : Str)) = false := by decide)
    (hk : scope.kind = .function := by rfl)
    (hE : PassesOwnAt (model prog w) ((A₀.deeper (envOf name scope L a cd)).mark (some (.ref e))) (A₀.deeper (envOf name scope L a cd)) (envOf name scope L a cd) E := by passes_own) :
    wpAny (model prog w) (A₀.deeper (envOf name scope L a cd)) (handleBy (.ref e) (envOf name scope L a cd) (.ExceptHandler (some (.Tuple [.Name x1 p1, .Name x2 p2] kk tpos)) none (b₀ :: suite) pos :: rest)) Q E s := by
  obtain ⟨b1, b2, hs1, hs2, hb'⟩ := subB2_some hb
  refine wpAny_handleBy_tup2 (T1 := x1.toString) (T2 := x2.toString) (isSubtype_of_subB h11) (isSubtype_of_subB h12) (isSubtype_of_subB h21) (isSubtype_of_subB h22) (isSubtype_of_subB hs1) (isSubtype_of_subB hs2) ?_
  refine Tuple_ (spliced_more (TT.class_top H.fr T t1 t2 t3 t4 t5 hv1 (spliced_more (TT.class_top H.fr T u1 u2 u3 u4 u5 hv2 (spliced_none ?_) hn2 hk hxk2 hd2)) hn1 hk hxk1 hd1))
  refine wpAny_newObj_type ⟨_, rfl, IsTup.new _ _, (H.push _).isA (s := { s with heap := _ }), ?_⟩
  rw [if_pos hb']
  exact (H.push _).land (s := { s with heap := _ }) fun h' H' => wpAny_passesOwnAt hE (k h' H')
end
end Mine

/-! ## Chain -/
namespace Mine
open PySem.Calls PyProof.Rows.TI

/-! ### a raise, whatever is handled: the new exception's context -/
/-- what is handled, as the context of what is raised: nothing, or an exception without a context of its own -/
def Ctx (A : Around) (h : Heap) (ctx : Value) : Prop :=
  (A.handled = none ∧ ctx = .none) ∨ ∃ a oh hv, A.handled = some (.ref a) ∧ ctx = .ref a ∧ h.get? a = some oh ∧ oh.data = .fields hv ∧ hv[2]? = some .none

/-- a new exception on the heap; all else stands -/
structure NewX (h h' : Heap) (e : Addr) (cls : String) (ctx : Value) : Prop where
  keeps : ∀ b o, h.get? b = some o → h'.get? b = some o
  new : h.get? e = none
  there : ∃ ob vs, h'.get? e = some ob ∧ ob.cls = .type cls ∧ ob.data = .fields vs ∧ vs[1]? = some .none ∧ vs[2]? = some ctx

theorem entry_unchain : entryFor table "proto.unchain" = some Builtin.«proto.unchain» := entryFor_of_tree (by kernel_rfl)
theorem plain_unchain : plainId "proto.unchain" = true := by decide +kernel

theorem set_same {vs : Array Value} {i : Nat} {v : Value} (h : vs[i]? = some v) : vs.setIfInBounds i v = vs := by
  obtain ⟨hi, e⟩ := Array.getElem?_eq_some_iff.mp h
  apply Array.ext
  · simp
  · intro j h1 h2
    rw [Array.getElem_setIfInBounds h2]
    split
    · next q => subst q; exact e.symm
    · rfl

/-- an AttributeError as it is raised: its name and its object stand in it -/
def attrErr (t ctx : Value) (name : Str) (u : Tok) (o : Value) : Obj := { cls := .type "AttributeError", data := .fields #[t, .none, ctx, .none, .bool false, .none, .str name u, o] }

section
variable {α : Type} {prog : Program} {w : World} {A : Around} {E : Value → Shared → Prop} {s : Shared}

theorem raiseNew_ctx {Q : α → Shared → Prop} {h : Heap} {e : Addr} {ob : Obj} {vs : Array Value} {ctx : Value} (hk : ∀ b o, h.get? b = some o → s.heap.get? b = some o) (hn : h.get? e = none)
    (he : s.heap.get? e = some ob) (hd : ob.data = .fields vs) (h2 : vs[2]? = some .none) (C : Ctx A h ctx)
    (k : ∀ h' tk, (∀ b o, h.get? b = some o → h'.get? b = some o) → h'.get? e = some { ob with data := .fields (vs.setIfInBounds 2 ctx) } → E (.ref e) { s with heap := h', toks := tk }) : wpAny (model prog w) A (raiseNew (.ref e) : Sem α) Q E s := by
  have hsz : 2 < vs.size := (Array.getElem?_eq_some_iff.mp h2).1
  obtain ⟨c, dd, dt, sl⟩ := ob
  simp only at hd
  subst hd
  unfold raiseNew
  refine wpAny_bind (wpAny_handled ?_)
  rcases C with ⟨hA, rfl⟩ | ⟨a, oh, hv, hA, rfl, ha, had, ha2⟩
  · rw [hA]
    rw [set_same h2] at k
    first
      | exact wpAny_throw (k _ _ hk he)
      | exact wpAny_bind (wpAny_pure (wpAny_throw (k _ _ hk he)))
  · rw [hA]
    have hae : a ≠ e := fun q => by rw [q, hn] at ha; cases ha
    dsimp only
    rw [if_pos (by simpa using hae)]
    refine wpAny_bind (wpAny_holding (wpAny_runValue (codeAny_builtin entry_unchain ?_)))
    rw [Around.under_plainId plain_unchain _]
    unfold Builtin.«proto.unchain»
    refine wpAny_bind (wpAny_field (hk _ _ ha) had ha2 ?_)
    rw [if_pos (by rfl)]
    refine wpAny_pure ?_
    refine wpAny_bind (m := updateField e 2 (.ref a)) (wpAny_setField (a := e) he rfl hsz (wpAny_throw (k _ _ (fun b o hb => ?_) ?_)))
    · have hbe : e ≠ b := fun q => by rw [← q, hn] at hb; cases hb
      exact (Heap.get?_update_other _ _ hbe).trans (hk b o hb)
    · exact Heap.get?_update_self (Obj.mapFields (·.setIfInBounds 2 (Value.ref a))) he rfl

theorem raiseAttr_ctx {Q : α → Shared → Prop} {o ctx : Value} {name msg : Str} (C : Ctx A s.heap ctx)
    (k : ∀ h' tk e t u, (∀ b o, s.heap.get? b = some o → h'.get? b = some o) → s.heap.get? e = none → h'.get? e = some (attrErr t ctx name u o) → E (.ref e) { s with heap := h', toks := tk }) (hm : msg.length ≤ sizeLine) :
    wpAny (model prog w) A (raiseAttrError o name msg : Sem α) Q E s := by
  unfold raiseAttrError
  refine wpAny_bind (wpAny_mkStr (wpAny_bind ?_) hm)
  unfold newExc newTuple
  refine wpAny_bind (wpAny_newObj_type ?_ (by size_fits))
  refine wpAny_bind (m := firstArgMember _ _) (wpAny_of_eq (a := Value.none) (by simp only [firstArgMember, attrError_no_first]; rfl) ?_)
  rw [ownMembersOf_AttributeError]
  refine wpAny_newObj_type ?_ (by size_fits)
  obtain ⟨hp, g, d, tk, os⟩ := s
  have f1 := sub_AttributeError
  repeat (any_goals (first | assumption | wp_step))
  dsimp only
  have hn : hp.get? (hp.objs.size + 1) = none := Heap.get?_none_of_le (by omega)
  refine raiseNew_ctx (h := hp) (fun b ob hb => ?_) (Heap.get?_none_of_le (by simp)) (Heap.get?_update_self _ (Heap.get?_push_size _ rfl) rfl) rfl (by rfl) C fun h' tk x y => k h' tk _ _ _ x (Heap.get?_none_of_le (by simp)) y
  have hlt : b < hp.objs.size := Heap.lt_size hb
  refine (Heap.get?_update_other _ _ ?_).trans (Heap.get?_push_of_some _ (Heap.get?_push_of_some _ hb))
  simp only [Heap.size_push]
  exact Nat.ne_of_gt (Nat.lt_succ_of_lt hlt)
end

/-! ### an attribute that a float, or bytes, lacks -/
def lacksAttr (o : Value) (name : Str) : PySem.Spec := fun A R s => ∃ ctx, Ctx A s.heap ctx ∧ ∀ h' tk e t u, (∀ b o, s.heap.get? b = some o → h'.get? b = some o) → s.heap.get? e = none → h'.get? e = some (attrErr t ctx name u o) → R (.error (.ref e)) { s with heap := h', toks := tk }

theorem float_getattr_none : typeLookup (.type "float") "__getattr__" = pure none := by rw [typeLookup_type, builtinLookup_eq_fast]; kernel_rfl

theorem meets_lack_float (x : UInt64) (t : Tok) (name : Str) (u : Tok) (hmiss : typeLookup (.type "float") name = pure none) (hsz : name.length + 100 ≤ sizeLine := by size_fits) :
    Meets (Builtin.«object.__getattribute__» ⟨[.float x t, .str name u], []⟩) (lacksAttr (.float x t) name) :=
  Meets.of_wp fun prog w A R s hs => by
    obtain ⟨hp, g, d, tk, os⟩ := s
    have hT : ∀ s' : Shared, s'.TypeIs (.float x t) "float" := fun _ => rfl
    unfold Builtin.«object.__getattribute__»
    repeat (any_goals (first | assumption | wp_step))
    obtain ⟨ctx, C, k⟩ := hs
    exact raiseAttr_ctx (ctx := ctx) C k (attrMsg_fits (by decide +kernel) hsz)

section
variable {prog : Program} {w : World} {A : Around} {E : Value → Shared → Prop} {s : Shared} {Q : Value → Shared → Prop}
theorem newX_attr {h h' : Heap} {e : Addr} {t ctx : Value} {name : Str} {u : Tok} {o : Value} (hk : ∀ b o, h.get? b = some o → h'.get? b = some o) (hn : h.get? e = none) (he : h'.get? e = some (attrErr t ctx name u o)) : NewX h h' e "AttributeError" ctx :=
  ⟨hk, hn, _, _, he, rfl, rfl, rfl, rfl⟩

theorem lack_float {x : UInt64} {t : Tok} {name : Str} {ctx : Value} (hmiss : typeLookup (.type "float") name = pure none) (C : Ctx A s.heap ctx)
    (h : ∀ h' tk e, NewX s.heap h' e "AttributeError" ctx → E (.ref e) { s with heap := h', toks := tk }) (hsz : name.length + 100 ≤ sizeLine := by size_fits) :
    wpAny (model prog w) A (getAttr (.float x t) name true) Q E s := by
  obtain ⟨hp, g, d, tk, os⟩ := s
  have hT : ∀ s' : Shared, s'.TypeIs (.float x t) "float" := fun _ => rfl
  have f1 := sub_AttributeError
  have f3 := PySem.F.slot_float_getattribute.lookup
  have f4 := PySem.F.slot_float_getattribute.bind (.float x t)
  have f5 := float_getattr_none
  unfold getAttr getAttrBy
  repeat (any_goals (first | assumption | ((with_reducible show wpAny _ _ (call (Value.builtin "object.__getattribute__") _ _) _ _ _); refine call_meets PySem.F.slot_float_getattribute (hT _) PySem.F.entry_object_getattribute (PySem.F.args_object_getattribute_2 _ _) (meets_lack_float x t name _ hmiss hsz) ⟨ctx, C, fun h' tk' e t' u' hk hn he => ?_⟩) | wp_step))
  show wpAny _ _ (getattributeRaised _ _ _ _ _ _ _) _ _ _
  unfold getattributeRaised
  have he' := he
  unfold attrErr at he'
  repeat (any_goals (first | assumption | wp_step))
  exact h _ _ _ (newX_attr hk hn he)
end
end Mine

/-! ## Lack -/
namespace Mine
open PySem.Calls PyProof.Rows.TI
section
variable {prog : Program} {w : World} {M : Model} {A : Around} {E : Value → Shared → Prop} {s : Shared} {Q : Value → Shared → Prop}

theorem lack_gen {v : Value} {T g : String} {name : Str} {ctx : Value} {ex : Bool} (hT : ∀ tk', ({ s with toks := tk' } : Shared).TypeIs v T) (slot : Slot T "__getattribute__" g) (entry : entryFor table g = some Builtin.«object.__getattribute__»)
    (args : ∀ a b, argsOk g ⟨[a, b], []⟩) (nog : typeLookup (.type T) "__getattr__" = pure none)
    (meets : ∀ u, Meets (Builtin.«object.__getattribute__» ⟨[v, .str name u], []⟩) (fun A R s' => s'.heap = s.heap ∧ lacksAttr v name A R s')) (C : Ctx A s.heap ctx)
    (h : ∀ h' tk e, NewX s.heap h' e "AttributeError" ctx → E (.ref e) { s with heap := h', toks := tk }) :
    wpAny (model prog w) A (getAttr v name ex) Q E s := by
  obtain ⟨hp, gg, d, tk, os⟩ := s
  have f1 := sub_AttributeError
  have f3 := slot.lookup
  have f4 := slot.bind v
  unfold getAttr getAttrBy
  repeat (any_goals (first | assumption | exact hT _ | (with_reducible refine wpAny_typeOf (hT _) ?_) | ((with_reducible show wpAny _ _ (call (Value.builtin _) _ _) _ _ _); refine call_meets slot (hT _) entry (args _ _) (meets _) ⟨rfl, ctx, C, fun h' tk' e t' u' hk hn he => ?_⟩) | wp_step))
  rw [if_neg (by simp [onTheHeap])]
  repeat (any_goals (first | assumption | exact hT _ | (with_reducible refine wpAny_typeOf (hT _) ?_) | ((with_reducible show wpAny _ _ (call (Value.builtin _) _ _) _ _ _); refine call_meets slot (hT _) entry (args _ _) (meets _) ⟨rfl, ctx, C, fun h' tk' e t' u' hk hn he => ?_⟩) | wp_step))
  show wpAny _ _ (getattributeRaised _ _ _ _ _ _ _) _ _ _
  unfold getattributeRaised
  have he' := he
  unfold attrErr at he'
  cases ex
  all_goals repeat (any_goals (first | assumption | wp_step))
  all_goals exact h _ _ _ (newX_attr hk hn he)

theorem method_lack {v : Value} {T : String} {name : Str} {pl : Sem Bool} {Q : Value × List Value → Shared → Prop} (hT : s.TypeIs v T) (pa : PlainAttrs T) (hmiss : typeLookup (.type T) name = pure none)
    (h : wpAny M A (getAttr v name) (fun r s' => Q (r, []) s') E s) : wpAny M A (getMethod v name pl) Q E s := by
  obtain ⟨g, hg, hcan⟩ := pa.ga
  unfold getMethod
  refine wpAny_bind (wpAny_specialOf hT hg ?_)
  show wpAny M A (if (Manifest.canonical g != "object.__getattribute__") = true then _ else _) Q E s
  rw [hcan, if_neg Bool.false_ne_true]
  refine wpAny_bind (wpAny_specialOf hT pa.noGetattr ?_)
  refine wpAny_bind (wpAny_specialOf hT hmiss ?_)
  exact wpAny_bind (wpAny_mono h (fun r s' hq => wpAny_pure hq) fun _ _ e => e)
end

theorem bytes_getattr_none : typeLookup (.type "bytes") "__getattr__" = pure none := by rw [typeLookup_type, builtinLookup_eq_fast]; kernel_rfl
theorem meets_lack_bytes (x : Array UInt8) (t : Tok) (name : Str) (u : Tok) (hmiss : typeLookup (.type "bytes") name = pure none) (hsz : name.length + 100 ≤ sizeLine := by size_fits) :
    Meets (Builtin.«object.__getattribute__» ⟨[.bytes x t, .str name u], []⟩) (lacksAttr (.bytes x t) name) :=
  Meets.of_wp fun prog w A R s hs => by
    obtain ⟨hp, g, d, tk, os⟩ := s
    have hT : ∀ s' : Shared, s'.TypeIs (.bytes x t) "bytes" := fun _ => rfl
    unfold Builtin.«object.__getattribute__»
    repeat (any_goals (first | assumption | wp_step))
    obtain ⟨ctx, C, k⟩ := hs
    exact raiseAttr_ctx (ctx := ctx) C k (attrMsg_fits (by decide +kernel) hsz)
theorem meets_lack_str (x : Str) (t : Tok) (name : Str) (u : Tok) (hmiss : typeLookup (.type "str") name = pure none) (hsz : name.length + 100 ≤ sizeLine := by size_fits) :
    Meets (Builtin.«object.__getattribute__» ⟨[.str x t, .str name u], []⟩) (lacksAttr (.str x t) name) :=
  Meets.of_wp fun prog w A R s hs => by
    obtain ⟨hp, g, d, tk, os⟩ := s
    have hT : ∀ s' : Shared, s'.TypeIs (.str x t) "str" := fun _ => rfl
    unfold Builtin.«object.__getattribute__»
    repeat (any_goals (first | assumption | wp_step))
    obtain ⟨ctx, C, k⟩ := hs
    exact raiseAttr_ctx (ctx := ctx) C k (attrMsg_fits (by decide +kernel) hsz)
theorem meets_lack_none (name : Str) (u : Tok) (hmiss : typeLookup (.type "NoneType") name = pure none) (hsz : name.length + 100 ≤ sizeLine := by size_fits) :
    Meets (Builtin.«object.__getattribute__» ⟨[.none, .str name u], []⟩) (lacksAttr .none name) :=
  Meets.of_wp fun prog w A R s hs => by
    obtain ⟨hp, g, d, tk, os⟩ := s
    have hT : ∀ s' : Shared, s'.TypeIs .none "NoneType" := fun _ => rfl
    unfold Builtin.«object.__getattribute__»
    repeat (any_goals (first | assumption | wp_step))
    obtain ⟨ctx, C, k⟩ := hs
    exact raiseAttr_ctx (ctx := ctx) C k (attrMsg_fits (by decide +kernel) hsz)
theorem meets_lack_seq {T : String} (hTT : T = "list" ∨ T = "tuple") (a : Addr) (xs : Array Value) (k : Nat) (name : Str) (u : Tok) (hmiss : typeLookup (.type T) name = pure none)
    (hname : (["__module__", "__name__", "__qualname__", "__doc__", "__annotations__"] : List Str).contains name = false) (hsz : name.length + 100 ≤ sizeLine := by size_fits) :
    Meets (Builtin.«object.__getattribute__» ⟨[.ref a, .str name u], []⟩) (fun A R s => s.heap.get? a = some { cls := .type T, data := .seq xs k } ∧ lacksAttr (.ref a) name A R s) :=
  Meets.of_wp fun prog w A R s hs => by
    obtain ⟨hp, g, d, tk, os⟩ := s
    obtain ⟨hx, ctx, C, kk⟩ := hs
    rcases hTT with rfl | rfl
    · have hT : (⟨hp, g, d, tk, os⟩ : Shared).TypeIs (.ref a) "list" := ⟨_, hx, rfl⟩
      unfold Builtin.«object.__getattribute__»
      repeat (any_goals (first | assumption | wp_step))
      simp only [hname, Bool.false_eq_true, if_false]
      repeat (any_goals (first | assumption | wp_step))
      exact raiseAttr_ctx (ctx := ctx) C kk (attrMsg_fits (by decide +kernel) hsz)
    · have hT : (⟨hp, g, d, tk, os⟩ : Shared).TypeIs (.ref a) "tuple" := ⟨_, hx, rfl⟩
      unfold Builtin.«object.__getattribute__»
      repeat (any_goals (first | assumption | wp_step))
      simp only [hname, Bool.false_eq_true, if_false]
      repeat (any_goals (first | assumption | wp_step))
      exact raiseAttr_ctx (ctx := ctx) C kk (attrMsg_fits (by decide +kernel) hsz)
end Mine

/-! ## Deep -/
namespace Mine
open PySem.Calls PyProof.Rows.TI

theorem raw_newX {h₀ h h' : Heap} {L e : Addr} {m : Str → Option Value} {X : String} {ctx : Value} {led : List (Addr × Obj)} (hx : NewX h h' e X ctx) (F : Fr h₀ L h m) (N : News h₀ L h led) : Raw h₀ L h' m e X ctx led := by
  obtain ⟨ob, vs, he, hc, hd, h1, h2⟩ := hx.there
  refine ⟨F.keeps hx.keeps, fun p hp => ⟨hx.keeps _ _ (N p hp).1, (N p hp).2⟩, ⟨ob, vs, he, hc, hd, h1, h2⟩, none_of F.keep hx.new, fun q => ?_, fun p hp q => ?_⟩
  · obtain ⟨o, es, ep, hL, _⟩ := F.ns
    rw [← q, hx.new] at hL
    cases hL
  · have := (N p hp).1
    rw [q, hx.new] at this
    cases this

/-- one plain parameter, one value -/
theorem binds_one {s : Shared} {name qual : Str} {ann : Option PySem.Expr} {pos : PySem.Pos} {body : List PySem.Stmt} {scope : Scope} {kV doc pm cdv ct v : Value} {an : Option Addr} :
    BindsTo s (fnOf name qual { posonlyargs := [], args := [{ arg := "x", annotation := ann, pos := pos }], vararg := none, kwonlyargs := [], kw_defaults := [], kwarg := none, defaults := [] } body scope .none kV doc pm an cdv ct) ⟨[v], []⟩ [("x", v)] :=
  BindsTo.of_eq rfl
/-- the callee's end -/
def LeaveD (_ : Shared) (P : Prop) : Prop := P

section
variable {prog : Program} {w : World} {M : Model} {A A₀ : Around} {E : Value → Shared → Prop} {s : Shared} {h₀ : Heap} {L L1 L2 a e tb : Addr} {m : Str → Option Value} {name : Str} {scope : Scope} {cd ctx fl : Value} {X : String} {l : List Env} {led : List (Addr × Obj)} {o1 o2 : Obj} {env1 env2 : Env}

theorem two_up {frs' : List (Addr × Obj)} (SU : SameUp [(L1, o1), (L2, o2)] frs') : ∃ sl sl', frs' = [(L1, { o1 with slots := sl }), (L2, { o2 with slots := sl' })] := by
  cases frs' with
  | nil => exact False.elim SU
  | cons q qs =>
    obtain ⟨h1, ⟨sl, h2⟩, h3⟩ := SU
    obtain ⟨sl', h4⟩ := TLg.one_up h3
    refine ⟨sl, sl', ?_⟩
    rw [h4, show q = (q.1, q.2) from rfl, show q.1 = L1 from h1, show q.2 = { o1 with slots := sl } from h2]

theorem note_raw1 {Q : Unit → Shared → Prop} (hfr : A₀.frames = some [env1]) (Fs : Frs [env1] [(L1, o1)]) (R : Raw h₀ L s.heap m e X ctx led) (el : led = led.dropLast ++ [(L1, o1)]) (hap : TLg.AllNe L1 led.dropLast)
    (k : ∀ h' sl tb, Frs [env1] [(L1, { o1 with slots := sl })] → Exc h₀ L h' m e tb X ctx (rawInt L) (led.dropLast ++ [(L1, { o1 with slots := sl })]) → Q () { s with heap := h' }) (hk : scope.kind = .function := by rfl) :
    wpAny M (A₀.deeper (envOf name scope L a cd)) (noteFrame (.ref e) (envOf name scope L a cd)) Q E s := by
  rw [el] at R
  refine note_raw hfr Fs R (fun p hp hm => hap.mem p hp (List.mem_singleton.mp hm)) (fun h' frs' tb SU Fs' H => ?_) hk
  obtain ⟨sl, rfl⟩ := TLg.one_up SU
  exact k h' sl tb Fs' H

theorem note_more1 {Q : Unit → Shared → Prop} (hfr : A₀.frames = some [env1]) (Fs : Frs [env1] [(L1, o1)]) (H : Exc h₀ L s.heap m e tb X ctx .none led) (el : led = led.dropLast ++ [(L1, o1)]) (hap : TLg.AllNe L1 led.dropLast)
    (k : ∀ h' sl tb', Frs [env1] [(L1, { o1 with slots := sl })] → Exc h₀ L h' m e tb' X ctx (rawInt L) (led.dropLast ++ [(L1, { o1 with slots := sl })]) → Q () { s with heap := h' }) (hk : scope.kind = .function := by rfl) :
    wpAny M (A₀.deeper (envOf name scope L a cd)) (noteFrame (.ref e) (envOf name scope L a cd)) Q E s := by
  rw [el] at H
  refine note_more hfr Fs H (fun p hp hm => hap.mem p hp (List.mem_singleton.mp hm)) (fun h' frs' tb SU Fs' H => ?_) hk
  obtain ⟨sl, rfl⟩ := TLg.one_up SU
  exact k h' sl tb Fs' H

theorem note_raw2 {Q : Unit → Shared → Prop} (hfr : A₀.frames = some [env1, env2]) (Fs : Frs [env1, env2] [(L1, o1), (L2, o2)]) (R : Raw h₀ L s.heap m e X ctx led) (el : led = led.dropLast.dropLast ++ [(L1, o1), (L2, o2)]) (hap : TLg.AllNe L1 led.dropLast.dropLast) (hap2 : TLg.AllNe L2 led.dropLast.dropLast)
    (k : ∀ h' sl sl' tb, Frs [env1, env2] [(L1, { o1 with slots := sl }), (L2, { o2 with slots := sl' })] → Exc h₀ L h' m e tb X ctx (rawInt L) (led.dropLast.dropLast ++ [(L1, { o1 with slots := sl }), (L2, { o2 with slots := sl' })]) → Q () { s with heap := h' }) (hk : scope.kind = .function := by rfl) :
    wpAny M (A₀.deeper (envOf name scope L a cd)) (noteFrame (.ref e) (envOf name scope L a cd)) Q E s := by
  rw [el] at R
  refine note_raw hfr Fs R (fun p hp hm => ?_) (fun h' frs' tb SU Fs' H => ?_) hk
  · rcases List.mem_cons.mp hm with q | hm
    · exact hap.mem p hp q
    · exact hap2.mem p hp (List.mem_singleton.mp hm)
  · obtain ⟨sl, sl', rfl⟩ := two_up SU
    exact k h' sl sl' tb Fs' H

/-- the held exception joins the ledger -/
theorem Exc.join {h : Heap} (H : Exc h₀ L h m e tb X ctx fl led) : ∃ ob vs, ob.cls = .type X ∧ ob.data = .fields vs ∧ vs[2]? = some ctx ∧ News h₀ L h ((e, ob) :: led) := by
  obtain ⟨ob, vs, he, hk, hd, _, h2⟩ := H.exc
  refine ⟨ob, vs, hk, hd, h2, fun p hp => ?_⟩
  rcases List.mem_cons.mp hp with rfl | hp
  · exact ⟨he, H.eL, H.e0⟩
  · exact H.made p hp

/-- a call from a frame that has one frame around it -/
theorem enter_deep {R : Result → Shared → Prop} {K : Frag} {p : Program} {loose : List Str} {mean : ExcName → Option Value} {mg mb : Str → Option Value} {cn : Str} {cs : Scope} {ccd : Value}
    {fname qual : Str} {params : PySem.Arguments} {body : List PySem.Stmt} {fscope : Scope} {dV kV doc pm cdv ct oc : Value} {an od : Option Addr} {osl : Array (Option Value)} {f : Addr} {args : Args} {binds : List (Str × Value)}
    (F : Fr h₀ L s.heap m) (X₀ : K.In h₀) (N : News h₀ L s.heap led) (T : Top p loose mean mg mb h₀) (Fs : Frs [env1] [(L1, o1)]) (el : led = led.dropLast ++ [(L1, o1)]) (_hA : A.frames = some [envOf cn cs L a ccd, env1])
    (ho : K.lookup f = some ⟨oc, od, .func (fnOf fname qual params body fscope dV kV doc pm an cdv ct), osl⟩) (hcd : codeIn K cdv qual = true) (hroom : A.depth < recursionLimit)
    (hbind : BindsTo s (fnOf fname qual params body fscope dV kV doc pm an cdv ct) args binds) (hloc : ∀ y ∈ binds, fscope.names.lookup y.1 = some .local)
    (h : ∀ oL h₁, Caller h₀ L m oL → Frs [envOf cn cs L a ccd, env1] [(L, oL), (L1, o1)] → TLg.AllNe L led → (∀ p ∈ led, p.1 < s.heap.objs.size) → L < s.heap.objs.size → Fr h₀ s.heap.objs.size h₁ (fun y => binds.reverse.lookup y) → News h₀ s.heap.objs.size h₁ (led.dropLast ++ [(L, oL), (L1, o1)]) →
      wpAny (model prog w) (A.deeper (envOf qual fscope s.heap.objs.size f cdv)) (execs body (envOf qual fscope s.heap.objs.size f cdv))
        (fun fl s' => LeaveD s' (R (.ok (.ret (match fl with | .ret v => v | _ => .none))) s'))
        (fun e s' => wpAny (model prog w) (A.deeper (envOf qual fscope s.heap.objs.size f cdv)) (leaving (envOf qual fscope s.heap.objs.size f cdv) e) (fun _ s'' => LeaveX (R (.error e) s'')) (fun e' s'' => LeaveX (R (.error e') s'')) s')
        { s with heap := h₁, toks := s.toks + binds.length })
    (hck : cs.kind = .function := by rfl) (hco : fscope.isCoroutine = false := by rfl) (hgen : fscope.isGenerator = false := by rfl) (hk : fscope.kind = .function := by rfl)
    (hcell : ∀ x ∈ fscope.names, x.2 ≠ .cell := by decide) : codeAny (model prog w) A (.call (.ref f) args) R s := by
  have X := X₀.keeps F.keep
  obtain ⟨oL, es, ep, hL, hLd, hLk, hLf⟩ := F.ns
  have hLt := Heap.lt_size hL
  have hkind : (envOf cn cs L a ccd).scope.kind ≠ .module := by
    show cs.kind ≠ .module
    rw [hck]; decide
  have hmem : ∀ q ∈ led.dropLast ++ [(L, oL), (L1, o1)], q = (L, oL) ∨ q ∈ led := fun q hq => by
    rcases List.mem_append.mp hq with hq | hq
    · exact .inr (by rw [el]; exact List.mem_append_left _ hq)
    · rcases List.mem_cons.mp hq with rfl | hq
      · exact .inl rfl
      · refine .inr ?_
        rw [el]
        exact List.mem_append_right _ hq
  refine codeAny_call_def (fd := fnOf fname qual params body fscope dV kV doc pm an cdv ct) (body := body) (binds := binds) hroom (X _ _ ho) rfl (T.nolimit.keeps F.keep) (codeRec_of X hcd) rfl hbind hcell hloc (fun h₁ hns hk₁ => ?_) hco hgen hk
  have up : ∀ b o, s.heap.get? b = some o → h₁.get? b = some o := fun b o e => hk₁ b o e
  refine wpAny_mono (h oL h₁ ⟨fun h' sl e => ⟨_, es, ep, e, hLd, hLk, hLf⟩, ⟨es, ep, hLd⟩, F.above⟩ ⟨hkind, rfl, ⟨es, ep, hLd⟩, Fs⟩ (TLgL.allNe_of fun p hp => (N p hp).2.1) (fun p hp => Heap.lt_size (N p hp).1) hLt
    ⟨hns, fun b o e => up b o (F.keep b o e), Nat.le_trans F.above (Nat.le_of_lt hLt)⟩ (fun q hq => ?_)) (fun _ _ x => x) fun _ _ x => wpAny_mono x (fun _ _ y => y) fun _ _ y => y
  rcases hmem q hq with rfl | hq
  · exact ⟨up _ _ hL, Nat.ne_of_lt hLt, Heap.get?_none_of_le F.above⟩
  · obtain ⟨h1, h2, h3⟩ := N q hq
    exact ⟨up _ _ h1, Nat.ne_of_lt (Heap.lt_size h1), h3⟩

theorem leave_deep {P : Prop} {L' : Addr} {m' : Str → Option Value} {oL : Obj} {sl : Array (Option Value)} (C : Caller h₀ L m oL) (F' : Fr h₀ L' s.heap m') (N' : News h₀ L' s.heap led) (el : led = led.dropLast.dropLast ++ [(L, { oL with slots := sl }), (L1, o1)]) (hne : TLg.AllNe L (led.dropLast.dropLast ++ [(L1, o1)]))
    (k : Fr h₀ L s.heap m → News h₀ L s.heap (led.dropLast.dropLast ++ [(L1, o1)]) → P) : LeaveD s P := by
  have hm : (L, ({ oL with slots := sl } : Obj)) ∈ led := by rw [el]; exact List.mem_append_right _ List.mem_cons_self
  refine k ⟨C.ns _ sl (N' _ hm).1, F'.keep, C.above⟩ fun p hp => ?_
  have hp' : p ∈ led := by
    rw [el]
    rcases List.mem_append.mp hp with hp | hp
    · exact List.mem_append_left _ hp
    · exact List.mem_append_right _ (List.mem_cons_of_mem _ hp)
  obtain ⟨x1, _, x3⟩ := N' p hp'
  exact ⟨x1, hne.mem p hp, x3⟩

/-- an exception that left the callee, seen from the caller -/
theorem Exc.pop {L' : Addr} {m' : Str → Option Value} {oL : Obj} {sl : Array (Option Value)} {h : Heap} (C : Caller h₀ L m oL) (H : Exc h₀ L' h m' e tb X ctx fl led) (el : led = led.dropLast.dropLast ++ [(L, { oL with slots := sl }), (L1, o1)]) (hne : TLg.AllNe L (led.dropLast.dropLast ++ [(L1, o1)])) :
    Exc h₀ L h m e tb X ctx fl (led.dropLast.dropLast ++ [(L1, o1)]) := by
  have hm : (L, ({ oL with slots := sl } : Obj)) ∈ led := by rw [el]; exact List.mem_append_right _ List.mem_cons_self
  have hsub : ∀ p ∈ led.dropLast.dropLast ++ [(L1, o1)], p ∈ led := fun p hp => by
    rw [el]
    rcases List.mem_append.mp hp with hp | hp
    · exact List.mem_append_left _ hp
    · exact List.mem_append_right _ (List.mem_cons_of_mem _ hp)
  have h1 := H.apart _ hm
  refine ⟨⟨C.ns _ sl (H.made _ hm).1, H.fr.keep, C.above⟩, fun p hp => ?_, H.exc, H.tr, H.e0, H.t0, Ne.symm h1.2, Ne.symm h1.1, H.te, fun p hp => H.apart p (hsub p hp)⟩
  obtain ⟨x1, _, x3⟩ := H.made p (hsub p hp)
  exact ⟨x1, hne.mem p hp, x3⟩

theorem frs_tail {p1 : Addr × Obj} {frs : List (Addr × Obj)} (Fs : Frs (env1 :: l) (p1 :: frs)) : Frs l frs := Fs.2.2.2

theorem leave_raw2 {Q : Unit → Shared → Prop} {m1 : Str → Option Value} {oL : Obj} {sl0 : Array (Option Value)} (hfr : A₀.frames = some [env1, env2]) (C : Caller h₀ L1 m1 oL) (Fs : Frs [env1, env2] [(L1, { oL with slots := sl0 }), (L2, o2)]) (R : Raw h₀ L s.heap m e X ctx led)
    (el : led = led.dropLast.dropLast ++ [(L1, { oL with slots := sl0 }), (L2, o2)]) (hap : TLg.AllNe L1 (led.dropLast.dropLast ++ [(L2, o2)])) (hap2 : TLg.AllNe L2 led.dropLast.dropLast)
    (k : ∀ h' sl' tb, Frs [env2] [(L2, { o2 with slots := sl' })] → Exc h₀ L1 h' m1 e tb X ctx .none (led.dropLast.dropLast ++ [(L2, { o2 with slots := sl' })]) → Q () { s with heap := h' }) (hk : scope.kind = .function := by rfl) :
    wpAny M (A₀.deeper (envOf name scope L a cd)) (leaving (envOf name scope L a cd) (.ref e)) Q E s := by
  unfold leaving
  have hapA : TLg.AllNe L1 led.dropLast.dropLast := TLgL.allNe_of fun p hp => hap.mem p (List.mem_append_left _ hp)
  have h21 : L2 ≠ L1 := hap.mem _ (List.mem_append_right _ (List.mem_singleton.mpr rfl))
  refine wpAny_bind (note_raw2 hfr Fs R el hapA hap2 (fun h' sl sl' tb Fs' H => ?_) hk)
  refine Exc.land (s := { s with heap := h' }) H fun h'' H' => ?_
  have e2 : (led.dropLast.dropLast ++ [(L1, ({ oL with slots := sl } : Obj)), (L2, ({ o2 with slots := sl' } : Obj))]).dropLast.dropLast = led.dropLast.dropLast := by
    rw [List.dropLast_append_of_ne_nil (by simp)]
    simp
  have H'' := Exc.pop (sl := sl) (o1 := { o2 with slots := sl' }) (L1 := L2) C H' (by rw [e2]) (by
    rw [e2]
    refine TLgL.allNe_of fun p hp => ?_
    rcases List.mem_append.mp hp with hp | hp
    · exact hapA.mem p hp
    · rw [List.mem_singleton.mp hp]
      exact h21)
  rw [e2] at H''
  exact k h'' sl' tb (frs_tail Fs') H''
end
end Mine

/-! ## Odd -/
namespace Mine
set_option maxRecDepth 100000
open PySem.Calls PyProof.Rows.TI

theorem weak {t : Sem Fin} {S : PySem.Spec} {h : Heap} (g : Meets t S) : Meets t (fun A R s' => s'.heap = h ∧ S A R s') := fun prog w A R s hs => g prog w A R s hs.2
theorem weak2 {t : Sem Fin} {S : PySem.Spec} {h : Heap} {a : Addr} {o : Obj} (ha : h.get? a = some o) (g : Meets t (fun A R s' => s'.heap.get? a = some o ∧ S A R s')) : Meets t (fun A R s' => s'.heap = h ∧ S A R s') :=
  fun prog w A R s hs => g prog w A R s ⟨by rw [hs.1]; exact ha, hs.2⟩

section
variable {prog : Program} {w : World} {A : Around} {E : Value → Shared → Prop} {s : Shared} {Q : Value → Shared → Prop} {name : Str} {ctx : Value} {ex : Bool}
theorem lack_float' {x : UInt64} {t : Tok} (hmiss : typeLookup (.type "float") name = pure none) (C : Ctx A s.heap ctx) (h : ∀ h' tk e, NewX s.heap h' e "AttributeError" ctx → E (.ref e) { s with heap := h', toks := tk }) (hsz : name.length + 100 ≤ sizeLine := by size_fits) :
    wpAny (model prog w) A (getAttr (.float x t) name ex) Q E s :=
  lack_gen (fun _ => rfl) PySem.F.slot_float_getattribute PySem.F.entry_object_getattribute (fun _ _ => PySem.F.args_object_getattribute_2 _ _) float_getattr_none (fun u => weak (meets_lack_float x t name u hmiss hsz)) C h
theorem lack_str {x : Str} {t : Tok} (hmiss : typeLookup (.type "str") name = pure none) (C : Ctx A s.heap ctx) (h : ∀ h' tk e, NewX s.heap h' e "AttributeError" ctx → E (.ref e) { s with heap := h', toks := tk }) (hsz : name.length + 100 ≤ sizeLine := by size_fits) :
    wpAny (model prog w) A (getAttr (.str x t) name ex) Q E s :=
  lack_gen (fun _ => rfl) PySem.F.slot_str_getattribute PySem.F.entry_object_getattribute (fun _ _ => PySem.F.args_object_getattribute_2 _ _) am_str_getattr_none (fun u => weak (meets_lack_str x t name u hmiss hsz)) C h
theorem lack_none (hmiss : typeLookup (.type "NoneType") name = pure none) (C : Ctx A s.heap ctx) (h : ∀ h' tk e, NewX s.heap h' e "AttributeError" ctx → E (.ref e) { s with heap := h', toks := tk }) (hsz : name.length + 100 ≤ sizeLine := by size_fits) :
    wpAny (model prog w) A (getAttr .none name ex) Q E s :=
  lack_gen (fun _ => rfl) PySem.F.slot_NoneType_getattribute PySem.F.entry_object_getattribute (fun _ _ => PySem.F.args_object_getattribute_2 _ _) am_none_getattr_none (fun u => weak (meets_lack_none name u hmiss hsz)) C h
theorem lack_list {a : Addr} {xs : Array Value} {k : Nat} (ha : s.heap.get? a = some { cls := .type "list", data := .seq xs k }) (hmiss : typeLookup (.type "list") name = pure none) (C : Ctx A s.heap ctx) (h : ∀ h' tk e, NewX s.heap h' e "AttributeError" ctx → E (.ref e) { s with heap := h', toks := tk })
    (hname : (["__module__", "__name__", "__qualname__", "__doc__", "__annotations__"] : List Str).contains name = false) (hsz : name.length + 100 ≤ sizeLine := by size_fits) :
    wpAny (model prog w) A (getAttr (.ref a) name ex) Q E s :=
  lack_gen (fun _ => ⟨_, ha, rfl⟩) PySem.F.slot_list_getattribute am_entry_list_getattribute (fun _ _ => PySem.F.args_list_getattribute_2 _ _) am_list_getattr_none (fun u => weak2 ha (meets_lack_seq (.inl rfl) a xs k name u hmiss hname hsz)) C h
theorem lack_tuple {a : Addr} {xs : Array Value} {k : Nat} (ha : s.heap.get? a = some { cls := .type "tuple", data := .seq xs k }) (hmiss : typeLookup (.type "tuple") name = pure none) (C : Ctx A s.heap ctx) (h : ∀ h' tk e, NewX s.heap h' e "AttributeError" ctx → E (.ref e) { s with heap := h', toks := tk })
    (hname : (["__module__", "__name__", "__qualname__", "__doc__", "__annotations__"] : List Str).contains name = false) (hsz : name.length + 100 ≤ sizeLine := by size_fits) :
    wpAny (model prog w) A (getAttr (.ref a) name ex) Q E s :=
  lack_gen (fun _ => ⟨_, ha, rfl⟩) PySem.F.slot_tuple_getattribute am_entry_tuple_getattribute (fun _ _ => PySem.F.args_tuple_getattribute_2 _ _) am_tuple_getattr_none (fun u => weak2 ha (meets_lack_seq (.inr rfl) a xs k name u hmiss hname hsz)) C h

/-- raise of a built-in exception made here, whatever is handled -/
def EndR (A : Around) (E : Value → Shared → Prop) (cls : String) (a : Args) (s : Shared) : Prop :=
  a.kw = [] ∧ a.pos.length ≤ sizeLine ∧ ∃ ctx, Ctx A s.heap ctx ∧ ∀ h' tk e, NewX s.heap h' e cls ctx → E (.ref e) { s with heap := h', toks := tk }

def RaisedOf (A : Around) (E : Value → Shared → Prop) (cls : String) (v : Value) (s₁ : Shared) : Prop :=
  ∃ h₀ e t ctx, v = .ref e ∧ (∀ b o, h₀.get? b = some o → s₁.heap.get? b = some o) ∧ h₀.get? e = none ∧ s₁.heap.get? e = some { cls := .type cls, data := .fields #[.ref t, .none, .none, .none, .bool false, .none] } ∧ Ctx A h₀ ctx ∧
    ∀ h' tk, NewX h₀ h' e cls ctx → E (.ref e) { s₁ with heap := h', toks := tk }

theorem raiseStmt_ctx {cls : String} (G : ExcRaiseFacts cls) {env : Env} {x : Sem Value} {Q : Flow → Shared → Prop} (h : wpAny (model prog w) A x (RaisedOf A E cls) E s) :
    wpAny (model prog w) A (raiseStmt env (some x) none) Q E s := by
  unfold raiseStmt
  refine wpAny_bind (wpAny_mono h (fun v s₁ h₁ => ?_) fun _ _ x => x)
  obtain ⟨h₀, e, t, ctx, rfl, hk, hn, he, C, k⟩ := h₁
  obtain ⟨hp, g, d, tk, os⟩ := s₁
  have hsub := G.isExc
  have hmeta := G.plainMeta
  repeat (first | ((with_reducible show wpAny _ _ (raiseNew _) _ _ _); fail "here") | refine wpAny_loadPart he ?_ | wp_step)
  exact raiseNew_ctx (h := h₀) hk hn he rfl (by rfl) C fun h' tk' hk' he' => k h' tk' ⟨hk', hn, _, _, he', rfl, rfl, by rfl, by rfl⟩

theorem raise_ctx {cls newId initId : String} (F : ExcCallFacts cls newId initId) (G : ExcRaiseFacts cls) {env : Env} {x : Str} {np cpos pos : PySem.Pos} {args : List PySem.Expr} {Q : Flow → Shared → Prop} (hplain : (backTo cpos (starEach args env)).any (·.1) = false)
    (h : wpAny (model prog w) A (eval (.Name x np) env) (fun f s₁ => f = .type cls ∧ wpAny (model prog w) A (evalArgs (.type cls) true (backTo cpos (starEach args env)) []) (EndR A E cls) E s₁) E s) :
    wpAny (model prog w) A (exec (.Raise (some (.Call (.Name x np) args [] cpos)) none pos) env) Q E s := by
  have key : wpAny (model prog w) A (eval (.Call (.Name x np) args [] cpos) env) (RaisedOf A E cls) E s := by
    refine wpAny_Call_ofName (wpAny_mono h (fun f s₁ h₁ => ?_) fun _ _ x => x)
    obtain ⟨rfl, h₁⟩ := h₁
    refine callWith_excType hplain (wpAny_mono h₁ (fun a s₂ h₂ => ?_) fun _ _ x => x)
    obtain ⟨apos, akw⟩ := a
    obtain ⟨hkw, hlen, ctx, C, k⟩ := h₂
    obtain rfl : akw = [] := hkw
    obtain ⟨hp, g, d, tk, os⟩ := s₂
    refine wpAny_call_exc F (hrest := hlen) fun h' e hm => ?_
    obtain ⟨t, ht, _, _⟩ := hm.there
    exact ⟨hp, e, t, ctx, rfl, hm.keeps, hm.new, ht, C, fun h'' tk' hx => k h'' tk' e hx⟩
  rw [arm_exec_Raise]
  first
    | exact wpAny_bind (wpAny_standAt (raiseStmt_ctx G (wpAny_bind (wpAny_mono key (fun v s₁ h₁ => wpAny_bind (wpAny_standAt (wpAny_pure h₁))) fun _ _ x => x))))
    | (simp only [evalOpt, Option.map]; exact wpAny_bind (wpAny_standAt (raiseStmt_ctx G (wpAny_bind (wpAny_mono key (fun v s₁ h₁ => wpAny_bind (wpAny_standAt (wpAny_pure h₁))) fun _ _ x => x)))))
    | (show wpAny _ A (do standAt pos; raiseStmt env (some (do let v ← eval (.Call (.Name x np) args [] cpos) env; standAt pos; pure v)) none) Q E s; exact wpAny_bind (wpAny_standAt (raiseStmt_ctx G (wpAny_bind (wpAny_mono key (fun v s₁ h₁ => wpAny_bind (wpAny_standAt (wpAny_pure h₁))) fun _ _ x => x)))))

theorem raise_ctx1 {cls newId initId : String} (F : ExcCallFacts cls newId initId) (G : ExcRaiseFacts cls) {env : Env} {x : Str} {np cpos pos : PySem.Pos} {e₀ : PySem.Expr} {rest : List PySem.Expr} {Q : Flow → Shared → Prop}
    (h : wpAny (model prog w) A (eval (.Name x np) env) (fun f s₁ => f = .type cls ∧ wpAny (model prog w) A (spliced (backTo cpos (starEach (e₀ :: rest) env))) (fun vs s₂ => EndR A E cls ⟨vs, []⟩ s₂) E s₁) E s)
    (he : starEach (e₀ :: rest) env = (false, eval e₀ env) :: starEach rest env := by rfl) (hplain : (backTo cpos (starEach rest env)).any (·.1) = false := by rfl) :
    wpAny (model prog w) A (exec (.Raise (some (.Call (.Name x np) (e₀ :: rest) [] cpos)) none pos) env) Q E s := by
  refine raise_ctx F G (by rw [he]; show (false || (backTo cpos (starEach rest env)).any (·.1)) = false; rw [hplain]; rfl) (wpAny_mono h (fun f s₁ h₁ => ⟨h₁.1, ?_⟩) fun _ _ y => y)
  have h₂ := h₁.2
  rw [he] at h₂ ⊢
  exact evalArgs_plain h₂

theorem lack_bytes {x : Array UInt8} {t : Tok} (hmiss : typeLookup (.type "bytes") name = pure none) (C : Ctx A s.heap ctx) (h : ∀ h' tk e, NewX s.heap h' e "AttributeError" ctx → E (.ref e) { s with heap := h', toks := tk }) (hsz : name.length + 100 ≤ sizeLine := by size_fits) :
    wpAny (model prog w) A (getAttr (.bytes x t) name ex) Q E s :=
  lack_gen (fun _ => rfl) PySem.F.slot_bytes_getattribute PySem.F.entry_bytes_ga (fun _ _ => PySem.F.args_bytes_getattribute_2 _ _) bytes_getattr_none (fun u => weak (meets_lack_bytes x t name u hmiss hsz)) C h
end

/-! ### the same, asked for as a method -/
section
variable {prog : Program} {w : World} {A : Around} {E : Value → Shared → Prop} {s : Shared} {Q : Value × List Value → Shared → Prop} {name : Str} {ctx : Value} {pl : Sem Bool}
theorem mlack_float {x : UInt64} {t : Tok} (hmiss : typeLookup (.type "float") name = pure none) (C : Ctx A s.heap ctx) (h : ∀ h' tk e, NewX s.heap h' e "AttributeError" ctx → E (.ref e) { s with heap := h', toks := tk }) (hsz : name.length + 100 ≤ sizeLine := by size_fits) :
    wpAny (model prog w) A (getMethod (.float x t) name pl) Q E s := method_lack (T := "float") (show s.TypeIs (.float x t) "float" from rfl) PySem.F.plainAttrs_float hmiss (lack_float' (ex := false) hmiss C h hsz)
theorem mlack_str {x : Str} {t : Tok} (hmiss : typeLookup (.type "str") name = pure none) (C : Ctx A s.heap ctx) (h : ∀ h' tk e, NewX s.heap h' e "AttributeError" ctx → E (.ref e) { s with heap := h', toks := tk }) (hsz : name.length + 100 ≤ sizeLine := by size_fits) :
    wpAny (model prog w) A (getMethod (.str x t) name pl) Q E s := method_lack (T := "str") (show s.TypeIs (.str x t) "str" from rfl) PySem.F.plainAttrs_str hmiss (lack_str (ex := false) hmiss C h hsz)
theorem mlack_bytes {x : Array UInt8} {t : Tok} (hmiss : typeLookup (.type "bytes") name = pure none) (C : Ctx A s.heap ctx) (h : ∀ h' tk e, NewX s.heap h' e "AttributeError" ctx → E (.ref e) { s with heap := h', toks := tk }) (hsz : name.length + 100 ≤ sizeLine := by size_fits) :
    wpAny (model prog w) A (getMethod (.bytes x t) name pl) Q E s := method_lack (T := "bytes") (show s.TypeIs (.bytes x t) "bytes" from rfl) PySem.W.FB.plainAttrs_bytes hmiss (lack_bytes (ex := false) hmiss C h hsz)
theorem mlack_none (hmiss : typeLookup (.type "NoneType") name = pure none) (C : Ctx A s.heap ctx) (h : ∀ h' tk e, NewX s.heap h' e "AttributeError" ctx → E (.ref e) { s with heap := h', toks := tk }) (hsz : name.length + 100 ≤ sizeLine := by size_fits) :
    wpAny (model prog w) A (getMethod .none name pl) Q E s := method_lack (T := "NoneType") (show s.TypeIs .none "NoneType" from rfl) PySem.F.plainAttrs_NoneType hmiss (lack_none (ex := false) hmiss C h hsz)
theorem mlack_list {a : Addr} {xs : Array Value} {k : Nat} (ha : s.heap.get? a = some { cls := .type "list", data := .seq xs k }) (hmiss : typeLookup (.type "list") name = pure none) (C : Ctx A s.heap ctx) (h : ∀ h' tk e, NewX s.heap h' e "AttributeError" ctx → E (.ref e) { s with heap := h', toks := tk })
    (hname : (["__module__", "__name__", "__qualname__", "__doc__", "__annotations__"] : List Str).contains name = false) (hsz : name.length + 100 ≤ sizeLine := by size_fits) :
    wpAny (model prog w) A (getMethod (.ref a) name pl) Q E s := method_lack ⟨_, ha, rfl⟩ PySem.F.plainAttrs_list hmiss (lack_list (ex := false) ha hmiss C h hname hsz)
theorem mlack_tuple {a : Addr} {xs : Array Value} {k : Nat} (ha : s.heap.get? a = some { cls := .type "tuple", data := .seq xs k }) (hmiss : typeLookup (.type "tuple") name = pure none) (C : Ctx A s.heap ctx) (h : ∀ h' tk e, NewX s.heap h' e "AttributeError" ctx → E (.ref e) { s with heap := h', toks := tk })
    (hname : (["__module__", "__name__", "__qualname__", "__doc__", "__annotations__"] : List Str).contains name = false) (hsz : name.length + 100 ≤ sizeLine := by size_fits) :
    wpAny (model prog w) A (getMethod (.ref a) name pl) Q E s := method_lack ⟨_, ha, rfl⟩ PySem.F.plainAttrs_tuple hmiss (lack_tuple (ex := false) ha hmiss C h hname hsz)
end
/-- contexts -/
theorem Ctx.plain {A : Around} {h : Heap} (hA : A.handled = none) : Ctx A h .none := .inl ⟨hA, rfl⟩
theorem Ctx.held {A : Around} {h : Heap} {h₀ : Heap} {L a : Addr} {oh : Obj} {hv : Array Value} {news : List (Addr × Obj)} (hA : A.handled = some (.ref a)) (N : News h₀ L h news) (hm : (a, oh) ∈ news) (hd : oh.data = .fields hv) (h2 : hv[2]? = some .none) : Ctx A h (.ref a) :=
  .inr ⟨a, oh, hv, hA, rfl, (N _ hm).1, hd, h2⟩
end Mine

/-! ## Cut -/
namespace Mine
open PySem.Calls PyProof.Rows.TI

/-- a call that ends with v; what stood stands -/
def CutE (h₀ : Heap) (L : Addr) (m : Str → Option Value) (led : List (Addr × Obj)) (v : Value) (s : Shared) (x : Value) (s' : Shared) : Prop :=
  x = v ∧ ∃ h' tk', s' = { s with heap := h', toks := tk' } ∧ Fr h₀ L h' m ∧ News h₀ L h' led
/-- a call that ends with a row of two, freshly made -/
def CutP (h₀ : Heap) (L : Addr) (m : Str → Option Value) (led : List (Addr × Obj)) (v u : Value) (s : Shared) (x : Value) (s' : Shared) : Prop :=
  ∃ D h' tk', x = .ref D ∧ s' = { s with heap := h', toks := tk' } ∧ Fr h₀ L h' m ∧ News h₀ L h' ((D, { cls := .type "tuple", data := .seq #[v, u] }) :: led) ∧ ∀ p ∈ led, p.1 < D
section
variable {M : Model} {A : Around} {E : Value → Shared → Prop} {Q : Value → Shared → Prop} {s : Shared} {h₀ h' : Heap} {L D : Addr} {m : Str → Option Value} {led : List (Addr × Obj)} {t : Sem Value} {v u : Value} {tk' : Nat} {p1 p2 p3 p4 p5 p6 p7 p8 p9 : Addr × Obj}

theorem cut_call (_ : Fr h₀ L s.heap m) (_ : News h₀ L s.heap led) (v : Value) (c : wpAny M A t (CutE h₀ L m led v s) E s) (k : ∀ h' tk', Fr h₀ L h' m → News h₀ L h' led → Q v { s with heap := h', toks := tk' }) : wpAny M A t Q E s := by
  refine wpAny_mono c ?_ fun _ _ h => h
  rintro x s' ⟨rfl, h', tk', rfl, F, N⟩
  exact k h' tk' F N
theorem CutE.intro (F : Fr h₀ L h' m) (N : News h₀ L h' led) : CutE h₀ L m led v s v { s with heap := h', toks := tk' } := ⟨rfl, h', tk', rfl, F, N⟩
theorem cut_pair {f : Addr} (_ : Fr h₀ L s.heap m) (_ : News h₀ L s.heap led) (u : Value) (c : wpAny M A (call (.ref f) [v]) (CutP h₀ L m led v u s) E s)
    (k : ∀ D h' tk', Fr h₀ L h' m → News h₀ L h' ((D, { cls := .type "tuple", data := .seq #[v, u] }) :: led) → (∀ p ∈ led, p.1 < D) → Q (.ref D) { s with heap := h', toks := tk' }) : wpAny M A (call (.ref f) [v]) Q E s := by
  refine wpAny_mono c ?_ fun _ _ h => h
  rintro x s' ⟨D, h', tk', rfl, rfl, F, N, l⟩
  exact k D h' tk' F N l
theorem CutP.intro (F : Fr h₀ L h' m) (N : News h₀ L h' ((D, { cls := .type "tuple", data := .seq #[v, u] }) :: p1 :: p2 :: led)) (l : ∀ p ∈ led, p.1 < D) : CutP h₀ L m led v u s (.ref D) { s with heap := h', toks := tk' } :=
  ⟨D, h', tk', rfl, rfl, F, fun p hp => N p ((List.mem_cons.mp hp).elim (fun e => e ▸ List.mem_cons_self) fun h => List.mem_cons_of_mem _ (List.mem_cons_of_mem _ (List.mem_cons_of_mem _ h))), l⟩
theorem news_last2 (N : News h₀ L h' [p1, p2, p3, p4, p5, p6, p7, p8, p9]) : News h₀ L h' [p8, p9] :=
  fun p hp => N p (by simp only [List.mem_cons, List.not_mem_nil, or_false] at hp ⊢; rcases hp with h | h <;> simp [h])
end

end Mine


open Mine PySem.Calls
local macro_rules | `(tactic| walk_at "binaryOp Pow int int") => `(tactic| (k_here; first | (refine pow_hid' (k := 1024) (by decide) (by decide) ?_; intro _ _) | (refine pow_hid' (k := 970) (by decide) (by decide) ?_; intro _ _) | (refine pow_hid' (k := 1074) (by decide) (by decide) ?_; intro _ _) | (refine pow_hid' (k := 53) (by decide) (by decide) ?_; intro _ _) | (refine pow_hid' (k := 1000) (by decide) (by decide) ?_; intro _ _)))
local macro_rules | `(tactic| walk_at "binaryOp Sub int int") => `(tactic| (k_here; refine sub_edge (by assumption) (by assumption) ?_; intro _ _))
local macro_rules | `(tactic| walk_at "subscriptTail Name BinOp ref int") => `(tactic| (k_here; (with_unfolding_all refine' item_any ?k1 ?k2 ?k3 ?k4 ?k5 ?_; (case k1 => is_list); (case k2 => l_ints); (case k3 => omega); (case k4 => omega); (case k5 => omega); k_whole); intro _ _))
local macro_rules | `(tactic| walk_at "binaryOp Mod int int") => `(tactic| (k_here; first | refine mod_edge (by assumption) ?_ | (refine mod_pow (by assumption) ?_; intro _ _)))
local macro_rules | `(tactic| walk_at "binaryOp Add int int") => `(tactic| (k_here; refine add_one (by assumption) ?_; intro _ _))
local macro_rules | `(tactic| walk_at "getMethod float") => `(tactic| (k_here; k_dflt (refine air_method ?_)))
local macro_rules | `(tactic| walk_at "getMethod int") => `(tactic| (k_here; k_dflt (refine air_method_int ?_)))
local macro_rules | `(tactic| walk_at "call builtin:float.as_integer_ratio") => `(tactic| (k_here; k_dflt (first | (refine air_quot (by assumption) (by assumption) (by assumption) ?_; intro _ _ _ _ _ _ _ _ F' N' l1; (try k_lt l1); (try k_sweep)) | (refine air_inf rfl (by assumption) ?_; intro _ _ _ _) | (refine air_nan rfl (by assumption) ?_; intro _ _ _ _))))
local macro_rules | `(tactic| walk_at "call builtin:int.as_integer_ratio") => `(tactic| (k_here; k_dflt (refine air_int (by assumption) (by assumption) ?_; intro _ _ _ _ _ F' N' l1; (try k_lt l1); (try k_sweep))))
local macro_rules | `(tactic| lcg_src) => `(tactic| exact ⟨_, by k_mem, rfl, _, rfl⟩)
local macro_rules | `(tactic| walk_at "eval ListComp") => `(tactic| (k_here; lcg_look; k_dflt (refine ListComp_T (by k_asm) (by rfl) (by decide) (by rfl) (by decide) (by rfl) ?_; walk1; refine SrcT.intro (by rfl) (by k_asm) (by k_asm) (by k_mem) (by exact Nat.le_of_ble_eq_true rfl) ?_; intro g'; lcg_lit)))
local macro_rules | `(tactic| walk_at "CompRest") => `(tactic| (k_here; k_dflt (refine LCg.CompRest.succ ?_; intro v' I' oI' C' oC' D' m' h' tk' E' hv' hC' hx' F' N' off' ne'; lcg_open hv'; have off9' := off'; (try simp only [LCg.Off3, and_true] at off'))))
local macro_rules | `(tactic| walk_at "CompEnd") => `(tactic| (k_here; (refine' compEnd_same ?cF ?cN ?cO ?cS ?_; (case cF => k_asm); (case cN => with_reducible assumption); (case cO => with_reducible assumption); (case cS => lcg_src))))
local macro_rules | `(tactic| walk_at "compareOp NotEq ref ref") => `(tactic| (k_here; k_dflt (first | refine ne_types (by k_asm) (by k_mem) (by k_mem) (by ke_room) ?_ | refine ne_pairs (by k_asm) (by k_mem) (by k_mem) (by ke_room) (by rfl) (by rfl) ?_ | refine ne_pairs_same (by k_asm) (by k_mem) (by k_mem) (by ke_room) ?_)))
local macro_rules | `(tactic| walk_at "binaryOp Div int int") => `(tactic| (k_here; first | (refine div_quot (by k_dflt (exact rfl)) (by assumption) (by assumption) (Pos.out (by assumption)) ?_; intro _ _ _ _) | (refine div_back (by k_dflt (exact rfl)) (by assumption) ?_; intro _ _ _ _) | (refine big_div (by k_dflt (exact rfl)) (by assumption) (by assumption) ?_; intro _ _ _ _)))
local macro_rules | `(tactic| walk_at "compareOp LtE int int") => `(tactic| (k_here; first | refine told_le1 (by assumption) ?_ | refine told_le2 (by assumption) (by assumption) ?_))
local macro_rules | `(tactic| walk_at "compareOp Lt int int") => `(tactic| (k_here; first | refine told_lt1 (by assumption) (by assumption) ?_ | refine told_lt2 (by assumption) (by assumption) ?_))
local macro_rules | `(tactic| walk_at "compareOp NotEq int int") => `(tactic| (k_here; refine told_odd (by assumption) ?_))
local macro_rules | `(tactic| walk_at "compareOp NotEq float float") => `(tactic| (k_here; refine ne_back (by assumption) ?_))
local macro_rules | `(tactic| walk_at "compareOp Eq float float") => `(tactic| (k_here; refine nan_eq (by assumption) ?_))
local macro_rules | `(tactic| walk_at "binaryOp Mult float int") => `(tactic| (k_here; refine big_mul (by k_dflt (exact rfl)) (by assumption) (by assumption) ?_; intro _ _ _ _))
local macro_rules | `(tactic| walk_at "binaryOp Sub float float") => `(tactic| (k_here; refine inf_sub (by assumption) ?_; intro _ _ _ _))
local macro_rules | `(tactic| walk_at "call builtin:math.isfinite") => `(tactic| (k_here; first | refine nan_isfinite (by assumption) ?_ | refine inf_isfinite (by assumption) ?_))
local macro_rules | `(tactic| walk_at "exec While BoolOp cons nil") => `(tactic| (k_here; k_dflt (refine odd_while (i := Str.ofString "a") (by k_asm) (by k_asm) (by rfl) ?_); intro b9 tb9 h9 tk9 hb9 F' N'))
local macro_rules | `(tactic| walk_at "OddStep") => `(tactic| (k_dflt (refine' oddStep_intro ?oF ?oN ?o0 ?o2; (case oF => assumption); (case oN => assumption); (case o0 => assumption); (case o2 => assumption))))
local macro_rules | `(tactic| walk_at "EndF") => `(tactic| (k_dflt (first | exact ⟨rfl, _, rfl⟩ | exact EndF.absurd (by with_reducible assumption) (by with_reducible assumption) (by with_reducible assumption))))
local macro_rules | `(tactic| walk_at "EndE") => `(tactic| (k_dflt (first | exact EndE.small (by first | assumption | omega) | exact EndE.rest (by assumption))))
local macro_rules | `(tactic| walk_at "EndS") => `(tactic| (k_dflt (first | exact EndS.plus | exact EndS.minus)))
local macro_rules | `(tactic| walk_at "isTrue BoolOp And cons") => `(tactic| (k_here; (with_reducible rename Told _ _ _ => hTd); k_dflt ((refine cut_false ?cut ?_); (case cut => ((with_reducible refine isTrue_and ?_); repeat' (first | (k_unfold; (try dsimp only)) | walk1 | (dsimp only; walk1)))); intro _)))
local macro_rules | `(tactic| walk_at "eval IfExp") => `(tactic| (k_here; (with_reducible show wpAny _ _ (eval (PySem.Expr.IfExp (PySem.Expr.Compare (PySem.Expr.Call _ _ _ _) _ _ _) _ _ _) _) _ _ _); k_dflt ((refine cut_edge (by assumption) ?cut ?_); (case cut => ((with_reducible refine IfExp_ ?_); (repeat' (first | (k_unfold; (try dsimp only)) | walk1 | (dsimp only; walk1))))); intro _ _ _ _)))
local macro_rules | `(tactic| walk_at "eval IfExp") => `(tactic| (k_here; (with_reducible show wpAny _ _ (eval (PySem.Expr.IfExp (PySem.Expr.Compare (PySem.Expr.Name _ _) _ _ _) _ _ _) _) _ _ _); k_dflt ((refine cut_sign ?cut ?_); (case cut => ((with_reducible refine IfExp_ ?_); (repeat' (first | (k_unfold; (try dsimp only)) | walk1 | (dsimp only; walk1))))); intro _ _ _ _; (with_reducible rename News _ _ _ _ => sw9); (have N' := news_last2 sw9); clear sw9; (repeat (with_reducible rename _ ∧ _ => hz9; clear hz9)))))
local macro_rules | `(tactic| walk_at "call ref cons nil") => `(tactic| (k_here; (with_reducible show wpAny _ (Around.deeper callerA _) (call (Value.ref _) [Value.int _ _]) _ _ _); (fail_if_success (with_reducible rename TI.Caller _ _ _ _ => tiC8)); tlg_look; k_dflt (refine wpAny_call ?_; refine TLgL.code_def (by k_asm) (by k_asm) (by k_asm) (by k_asm) (by rfl) (by k_is) (by k_is) (by k_room) (by exact binds_one) (locs rfl) ?_; intro oL' h' tiC' tiF' tiE' F' N'; (try dsimp only); (replace tiE' := TLgL.allNe_of tiE'); (try simp only [TLg.AllNe, and_true] at tiE'); (try simp only [List.nil_append, List.cons_append] at N'))))
local macro_rules | `(tactic| walk_at "call ref cons nil") => `(tactic| (k_here; (with_reducible show wpAny _ (Around.deeper callerA _) (call (Value.ref _) [Value.float _ _]) _ _ _); refine enter_bad (by first | exact Or.inl (by assumption) | exact Or.inr (by assumption)) ?_; k_dflt (refine wpAny_call ?_; refine TLgL.code_def (by k_asm) (by k_asm) (by k_asm) (by k_asm) (by rfl) (by k_is) (by k_is) (by k_room) (by exact binds_one) (locs rfl) ?_; intro oL' h' tiC' tiF' tiE' F' N'; (try dsimp only); (replace tiE' := TLgL.allNe_of tiE'); (try simp only [TLg.AllNe, and_true] at tiE'); (try simp only [List.nil_append, List.cons_append] at N'))))
local macro_rules | `(tactic| walk_at "call ref cons nil") => `(tactic| (k_here; (with_reducible rename TI.Caller _ _ _ _ => tiC8); (with_reducible rename TI.Frs _ _ => tiF8); k_dflt (refine wpAny_call ?_; refine enter_deep (by k_asm) (by k_asm) (by k_asm) (by k_asm) tiF8 (by rfl) (by rfl) (by k_is) (by k_is) (by k_room) (by exact binds_one) (locs rfl) ?_; intro oL' h' tiC9 tiF9 tiE9 l9 l9' F' N'; (try dsimp only); (try simp only [TLg.AllNe, and_true] at tiE9); (try k_lt l9); (try simp only [List.dropLast, List.cons_append, List.nil_append] at N'))))
local macro_rules | `(tactic| walk_at "LeaveD") => `(tactic| (k_here; (with_reducible rename TI.Caller _ _ _ _ => tiC8); (with_reducible rename TI.Frs _ _ => tiF8); k_dflt (refine' leave_deep tiC8 ?lF ?lN ?le ?ln ?_; (case lF => k_asm); (case lN => k_asm); (case le => rfl); (case ln => (simp only [List.dropLast, List.cons_append, List.nil_append]; tlg_ne)); replace tiF8 := frs_tail tiF8; clear tiC8; intro F' N'; (try simp only [List.dropLast, List.cons_append, List.nil_append] at N'))))
local macro_rules | `(tactic| walk_at "call ref cons nil") => `(tactic| (k_here; first | (with_reducible show wpAny _ (Around.deeper callerA _) (call (Value.ref _) [Value.str _ _]) _ _ _) | (with_reducible show wpAny _ (Around.deeper callerA _) (call (Value.ref _) [Value.none]) _ _ _) | (with_reducible show wpAny _ (Around.deeper callerA _) (call (Value.ref _) [Value.ref _]) _ _ _) | (with_reducible show wpAny _ (Around.deeper callerA _) (call (Value.ref _) [Value.bytes _ _]) _ _ _)); k_dflt (refine wpAny_call ?_; refine TLgL.code_def (by k_asm) (by k_asm) (by k_asm) (by k_asm) (by rfl) (by k_is) (by k_is) (by k_room) (by exact binds_one) (locs rfl) ?_; intro oL' h' tiC' tiF' tiE' F' N'; (try dsimp only); (replace tiE' := TLgL.allNe_of tiE'); (try simp only [TLg.AllNe, and_true] at tiE'); (try simp only [List.nil_append, List.cons_append] at N')))
local macro_rules | `(tactic| walk_at "noteFrame ref") => `(tactic| (k_here; k_dflt ( (first | ((with_reducible rename NewX _ _ _ _ _ => hx9); have hR9 := raw_newX hx9 (by k_asm) (by k_asm); clear hx9) | ((with_reducible rename Heap.NewExc _ _ _ _ => hx9); have hR9 := raw_new hx9 (by k_asm) (by k_asm); clear hx9)); first | ((with_reducible rename TI.Frs [_] _ => tiF8); refine' note_raw1 (by rfl) tiF8 hR9 ?ne ?na ?_; (case ne => rfl); (case na => (simp only [List.dropLast]; tlg_ne)); clear hR9 tiF8; intro h' sl9 tb9 tiF9 hE9; (simp only [List.dropLast, List.cons_append, List.nil_append] at hE9)) | ((with_reducible rename TI.Frs [_, _] _ => tiF8); refine' note_raw2 (by rfl) tiF8 hR9 ?ne ?na ?nb ?_; (case ne => rfl); (case na => (simp only [List.dropLast]; tlg_ne)); (case nb => (simp only [List.dropLast]; tlg_ne)); clear hR9 tiF8; intro h' sl9 sl9' tb9 tiF9 hE9; (simp only [List.dropLast, List.cons_append, List.nil_append] at hE9)))))
local macro_rules | `(tactic| walk_at "noteFrame ref") => `(tactic| (k_here; (with_reducible rename Exc _ _ _ _ _ _ _ _ Value.none _ => hE9); (with_reducible rename TI.Frs _ _ => tiF8); k_dflt ( (refine' note_more1 (by rfl) tiF8 hE9 ?ne ?na ?_; (case ne => rfl); (case na => (simp only [List.dropLast]; tlg_ne)); clear hE9 tiF8; intro h' sl9 tb9 tiF9 hE9; (simp only [List.dropLast, List.cons_append, List.nil_append] at hE9)))))
local macro_rules | `(tactic| walk_at "setFlight ref") => `(tactic| (k_here; (with_reducible rename Exc _ _ _ _ _ _ _ _ _ _ => hE9); k_dflt (refine hE9.land ?_; clear hE9; intro h' hE9)))
local macro_rules | `(tactic| walk_at "handleBy ref cons") => `(tactic| (k_here; (with_reducible rename Exc _ _ _ _ _ _ _ _ _ _ => hE9); first | ((with_reducible show wpAny _ _ (handleBy _ _ (ExceptHandler.ExceptHandler (some (Expr.Name _ _)) none _ _ :: _)) _ _ _); with_unfolding_all refine Exc.hit hE9 (by assumption) (k := ?_) (hv := by boot_by_name); clear hE9; intro h' hE9; have F' := hE9.fr; have l9 := TLgL.allNe_of fun p hp => (hE9.apart p hp).2; obtain ⟨ob9, vs9, hk9, hd9, hc9, N'⟩ := hE9.join; clear hE9; (simp only [TLg.AllNe, and_true] at l9)) | ((with_reducible show wpAny _ _ (handleBy _ _ (ExceptHandler.ExceptHandler (some (Expr.Name _ _)) none _ _ :: _)) _ _ _); with_unfolding_all refine Exc.miss hE9 (by assumption) (k := ?_) (hv := by boot_by_name)) | ((with_reducible show wpAny _ _ (handleBy _ _ (ExceptHandler.ExceptHandler (some (Expr.Tuple [Expr.Name _ _, Expr.Name _ _] _ _)) none _ _ :: _)) _ _ _); with_unfolding_all refine Exc.hit2 hE9 (by assumption) (k := ?_) (hv1 := by boot_by_name) (hv2 := by boot_by_name); clear hE9; intro h' hE9; have F' := hE9.fr; have l9 := TLgL.allNe_of fun p hp => (hE9.apart p hp).2; obtain ⟨ob9, vs9, hk9, hd9, hc9, N'⟩ := hE9.join; clear hE9; (simp only [TLg.AllNe, and_true] at l9))))
local macro_rules | `(tactic| walk_at "getMethod float") => `(tactic| (k_here; (with_reducible show wpAny _ _ (getMethod _ (Str.ofString "is_finite") _) _ _ _); k_dflt (refine' mlack_float (am_miss_of_fast (by decide +kernel)) ?cC ?_; (case cC => first | exact Ctx.plain (by rfl) | exact Ctx.held (by rfl) (by k_asm) (by k_mem) (by assumption) (by assumption)); intro h' tk' e' hx9)))
local macro_rules | `(tactic| walk_at "getMethod str") => `(tactic| (k_here; k_dflt (refine' mlack_str (am_miss_of_fast (by decide +kernel)) ?cC ?_; (case cC => exact Ctx.plain (by rfl)); intro h' tk' e' hx9)))
local macro_rules | `(tactic| walk_at "getMethod bytes") => `(tactic| (k_here; k_dflt (refine' mlack_bytes (am_miss_of_fast (by decide +kernel)) ?cC ?_; (case cC => exact Ctx.plain (by rfl)); intro h' tk' e' hx9)))
local macro_rules | `(tactic| walk_at "getMethod none") => `(tactic| (k_here; k_dflt (refine' mlack_none (am_miss_of_fast (by decide +kernel)) ?cC ?_; (case cC => exact Ctx.plain (by rfl)); intro h' tk' e' hx9)))
local macro_rules | `(tactic| walk_at "getMethod ref") => `(tactic| (k_here; (with_reducible show wpAny _ _ (getMethod _ (Str.ofString "as_integer_ratio") _) _ _ _); k_dflt (first | (refine' mlack_list (News.get (by k_asm) (by k_mem)) (am_miss_of_fast (by decide +kernel)) ?cC ?_ (by decide +kernel); (case cC => exact Ctx.plain (by rfl)); intro h' tk' e' hx9) | (refine' mlack_tuple (News.get (by k_asm) (by k_mem)) (am_miss_of_fast (by decide +kernel)) ?cC ?_ (by decide +kernel); (case cC => exact Ctx.plain (by rfl)); intro h' tk' e' hx9))))
local macro_rules | `(tactic| walk_at "getAttr str") => `(tactic| (k_here; k_dflt (refine' lack_str (am_miss_of_fast (by decide +kernel)) ?cC ?_; (case cC => exact Ctx.plain (by rfl)); intro h' tk' e' hx9)))
local macro_rules | `(tactic| walk_at "getAttr bytes") => `(tactic| (k_here; k_dflt (refine' lack_bytes (am_miss_of_fast (by decide +kernel)) ?cC ?_; (case cC => exact Ctx.plain (by rfl)); intro h' tk' e' hx9)))
local macro_rules | `(tactic| walk_at "getAttr none") => `(tactic| (k_here; k_dflt (refine' lack_none (am_miss_of_fast (by decide +kernel)) ?cC ?_; (case cC => exact Ctx.plain (by rfl)); intro h' tk' e' hx9)))
local macro_rules | `(tactic| walk_at "getAttr ref") => `(tactic| (k_here; (with_reducible show wpAny _ _ (getAttr _ (Str.ofString "numerator") _) _ _ _); k_dflt (first | (refine' lack_list (News.get (by k_asm) (by k_mem)) (am_miss_of_fast (by decide +kernel)) ?cC ?_ (by decide +kernel); (case cC => exact Ctx.plain (by rfl)); intro h' tk' e' hx9) | (refine' lack_tuple (News.get (by k_asm) (by k_mem)) (am_miss_of_fast (by decide +kernel)) ?cC ?_ (by decide +kernel); (case cC => exact Ctx.plain (by rfl)); intro h' tk' e' hx9))))
local macro_rules | `(tactic| walk_at "exec Raise some none") => `(tactic| (k_here; k_dflt (refine raise_ctx1 PySem.F.excCall_TypeError PySem.F.excRaise_TypeError ?_)))
local macro_rules | `(tactic| walk_at "EndR") => `(tactic| (k_here; k_dflt (refine' ⟨rfl, Nat.le_of_ble_eq_true rfl, _, ?cC, ?_⟩; (case cC => (refine' Ctx.held ?ha ?hb ?hc ?hd ?he; (case ha => rfl); (case hb => k_asm); (case hc => k_mem); (case hd => assumption); (case he => assumption))); intro h' tk' e' hx9)))
local macro_rules | `(tactic| walk_at "leaving ref") => `(tactic| (k_here; (with_reducible rename NewX _ _ _ _ _ => hx9); (with_reducible rename TI.Caller _ _ _ _ => tiC8); (with_reducible rename TI.Frs _ _ => tiF8); k_dflt (have hR9 := raw_newX hx9 (by k_asm) (by k_asm); clear hx9; refine' leave_raw2 (by rfl) tiC8 tiF8 hR9 ?ne ?na ?nb ?_; (case ne => rfl); (case na => (simp only [List.dropLast, List.cons_append, List.nil_append]; tlg_ne)); (case nb => (simp only [List.dropLast]; tlg_ne)); clear hR9 tiF8 tiC8; intro h' sl9 tb9 tiF9 hE9; (simp only [List.dropLast, List.cons_append, List.nil_append] at hE9))))
local macro_rules | `(tactic| tlg_ne) => `(tactic| first | exact True.intro | (refine And.intro (by first | with_reducible assumption | (refine Ne.symm ?_; with_reducible assumption)) ?_; tlg_ne))
local macro_rules | `(tactic| tlg_ne) => `(tactic| ((with_reducible rename (@Ne _ _ _) ∧ _ => hc9); (repeat (obtain ⟨_, hc9⟩ := hc9)); tlg_ne))

local macro_rules | `(tactic| walk_at "call type:type cons nil") => `(tactic| (k_here; (with_reducible show wpAny _ _ (call _ [Value.bytes _ _]) _ _ _); refine call_type_of (Tx := "bytes") rfl (by decide +kernel) ?_))
local macro_rules | `(tactic| walk_at "call ref cons nil") => `(tactic| (k_here; (first | (with_reducible show wpAny _ (Around.deeper callerA _) (call (Value.ref _) [Value.str _ _]) _ _ _) | (with_reducible show wpAny _ (Around.deeper callerA _) (call (Value.ref _) [Value.none]) _ _ _) | (with_reducible show wpAny _ (Around.deeper callerA _) (call (Value.ref _) [Value.ref _]) _ _ _) | (with_reducible show wpAny _ (Around.deeper callerA _) (call (Value.ref _) [Value.bytes _ _]) _ _ _)); (fail_if_success (with_reducible rename TI.Caller _ _ _ _ => tiC8)); k_dflt ((refine cut_call (by k_asm) (by k_asm) (Value.bool true) ?cut ?_); (case cut => as_aux_lemma => (refine wpAny_call ?_; refine TLgL.code_def (by k_asm) (by k_asm) (by k_asm) (by k_asm) (by rfl) (by k_is) (by k_is) (by k_room) (by exact binds_one) (locs rfl) ?_; intro oL' h' tiC' tiF' tiE' F' N'; (try dsimp only); (replace tiE' := TLgL.allNe_of tiE'); (try simp only [TLg.AllNe, and_true] at tiE'); (try simp only [List.nil_append, List.cons_append] at N'); (repeat' (first | (k_unfold; (try dsimp only)) | walk1 | (dsimp only; walk1) | (leave1; try dsimp only))))); intro h' tk' F' N')))
local macro_rules | `(tactic| walk_at "call ref cons nil") => `(tactic| (k_here; (with_reducible show wpAny _ (Around.deeper callerA _) (call (Value.ref _) [Value.float _ _]) _ _ _); (fail_if_success (with_reducible rename TI.Caller _ _ _ _ => tiC8)); refine enter_bad (by first | exact Or.inl (by assumption) | exact Or.inr (by assumption)) ?_; k_dflt ((refine cut_pair (by k_asm) (by k_asm) Value.none ?cut ?_); (case cut => as_aux_lemma => (refine wpAny_call ?_; refine TLgL.code_def (by k_asm) (by k_asm) (by k_asm) (by k_asm) (by rfl) (by k_is) (by k_is) (by k_room) (by exact binds_one) (locs rfl) ?_; intro oL' h' tiC' tiF' tiE' F' N'; (try dsimp only); (replace tiE' := TLgL.allNe_of tiE'); (try simp only [TLg.AllNe, and_true] at tiE'); (try simp only [List.nil_append, List.cons_append] at N'); (repeat' (first | (k_unfold; (try dsimp only)) | walk1 | (dsimp only; walk1) | (leave1; try dsimp only))))); intro D' h' tk' F' N' l1; (try k_lt l1))))
local macro_rules | `(tactic| walk_at "CutE") => `(tactic| (k_dflt (first | exact CutE.intro (by k_asm) (by k_asm) | (with_reducible rename News _ _ _ _ => cN9; exact CutE.intro (by k_asm) (News.tail' (News.tail' (News.tail' cN9)))) | (with_reducible rename News _ _ _ _ => cN9; exact CutE.intro (by k_asm) (News.tail' (News.tail' cN9))) | (with_reducible rename News _ _ _ _ => cN9; exact CutE.intro (by k_asm) (News.tail' cN9)))))
local macro_rules | `(tactic| walk_at "CutP") => `(tactic| (k_dflt ((with_reducible rename @LT.lt _ _ _ _ ∧ _ => hl9); refine CutP.intro (by k_asm) (by k_asm) ?_; (simp only [List.forall_mem_cons, List.not_mem_nil, false_implies, implies_true, and_true]); first | exact ⟨hl9.2.2.1, hl9.2.2.2.1⟩ | exact ⟨hl9.2.2.1, hl9.2.2.2.1, hl9.2.2.2.2.1⟩)))

set_option rowWalk.seconds 0
set_option maxRecDepth 100000 in
set_option maxHeartbeats 100000000 in
theorem PySem.Challenge.cw_kp0005_04_holds : PySem.Challenge.rw_kp0005_04.Holds := by
  k_with "pyIter ref" => (k_here; (with_reducible show wpAny _ _ (pyIter (Value.ref _)) (fun it s₂ => LoopAtV _ _ _ _ _ _ _ _ _ it s₂) _ _); (rename Fr _ _ _ _ => lF'); (rename News _ _ _ _ => lN'); (rename IsRange _ _ _ _ _ _ _ _ => rgX); (with_unfolding_all refine' range_led [Str.ofString "a", Str.ofString "x", Str.ofString "told", Str.ofString "n", Str.ofString "d", Str.ofString "whole", Str.ofString "beyond", Str.ofString "none", Str.ofString "rest", Str.ofString "thing"] (by rfl) rgX ?small ?size lF' lN' ?_ ?_); (case small => first | decide | exact small_one (by l_bnd) (by l_bnd) (by l_bnd) (by l_bnd)); (case size => first | exact rangeSize_nat _ _ | rfl); (all_goals (try clear lF' lN')); (all_goals (have kMark := kstMark)); (intro i9 k9 t9 u9 h9 tk9 I9 oI9 ek9 ei9 l9 F9 N9); (k_lt l9); rotate_left; (intro u9 h9 tk9 F9 N9); rotate_right; (all_goals (try k_fold)))
  k_with "tree" => exact odd_done (by assumption) (by omega)
  k_with "call ref" => k_call_by "_law_odd" oddOf
  open_k
