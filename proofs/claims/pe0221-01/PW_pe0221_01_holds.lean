import PyProof.Rows.All
import Wide.All
import OpenK.AllK
import Wide.FinOn
import PyProof.FactsAll.range_1
import PySem.Challenge.RW_pe0221_01
open PySem PySem.W PyProof.Rows
set_option Elab.async false
set_option maxRecDepth 100000
set_option maxHeartbeats 16000000
set_option linter.all false
namespace Mine
open_top hd for PySem.Challenge.rw_pe0221_01
theorem top_off : True := by
  w_top off
  trivial
-- 01_fl
section
section
open PySem.Float64
-- the unit: 2 ^ -16 in val's scale
theorem U_ex : ∃ u : Nat, u = 2 ^ 1058 := ⟨_, rfl⟩
noncomputable def U : Nat := Classical.choose U_ex
theorem U_eq : U = 2 ^ 1058 := Classical.choose_spec U_ex
theorem U_pos : 0 < U := by rw [U_eq]; exact Nat.two_pow_pos _
theorem U16 : U * 2 ^ 16 = 2 ^ 1074 := by rw [U_eq, ← Nat.pow_add]
theorem U1045 : U * 2 ^ 987 = 2 ^ 2045 := by rw [U_eq, ← Nat.pow_add]
-- x is the finite float n / 2 ^ 16
noncomputable def Fl (x : UInt64) (n : Int) : Prop := (∃ a m e, decode x = .fin a m e) ∧ val x = n * (U : Int)
theorem dist_self (a : Nat) : dist a a = 0 := by unfold dist; lia
theorem eq_of_dist {a b : Nat} (h : dist a b = 0) : a = b := by unfold dist at h; lia
theorem rep {N : Nat} (h : N < 2 ^ 53) : ∃ t, t < infMag ∧ V t = N * U := by
  by_cases h0 : N = 0
  · subst h0; exact ⟨0, by decide, by simp [V]⟩
  · have hl : N.log2 ≤ 52 := by
      have := (Nat.log2_lt h0).mpr h
      lia
    have e1 : 2 ^ N.log2 ≤ N := Nat.log2_self_le h0
    have e2 : N < 2 ^ (N.log2 + 1) := Nat.lt_log2_self
    generalize N.log2 = l at *
    have q1 : 2 ^ 52 ≤ N * 2 ^ (52 - l) := by
      have : 2 ^ 52 = 2 ^ l * 2 ^ (52 - l) := by rw [← Nat.pow_add]; congr 1; lia
      rw [this]; exact Nat.mul_le_mul_right _ e1
    have q2 : N * 2 ^ (52 - l) < 2 ^ 53 := by
      have : 2 ^ 53 = 2 ^ (l + 1) * 2 ^ (52 - l) := by rw [← Nat.pow_add]; congr 1; lia
      rw [this]; exact Nat.mul_lt_mul_of_pos_right e2 (Nat.two_pow_pos _)
    have hV := V_at (k := 1058 - (52 - l)) (q := N * 2 ^ (52 - l)) (Nat.le_of_lt q2) (.inl q1)
    refine ⟨(1058 - (52 - l)) * 2 ^ 52 + N * 2 ^ (52 - l), ?_, ?_⟩
    · have : (1058 - (52 - l)) * 2 ^ 52 ≤ 1058 * 2 ^ 52 := Nat.mul_le_mul_right _ (by lia)
      have hi : infMag = 2047 * 2 ^ 52 := rfl
      rw [hi]; lia
    · rw [hV, Nat.mul_assoc, ← Nat.pow_add, show 52 - l + (1058 - (52 - l)) = 1058 by lia, U_eq]
theorem right_exact {r : UInt64} {neg : Bool} {W D N : Nat} (h : Right r neg W D) (hD : 0 < D) (hW : W = D * (N * U)) (hN : N < 2 ^ 53) : (∃ m e, decode r = .fin neg m e) ∧ val r = sgn neg (N * U) := by
  obtain ⟨t, hr, hle, hinf, hnear⟩ := h
  have hlt : t < infMag := by
    refine Nat.lt_of_le_of_ne hle fun q => ?_
    have := hinf.mp q
    rw [hW, ← U1045, ← Nat.mul_assoc 2, Nat.mul_comm 2 D, Nat.mul_assoc] at this
    have h2 := Nat.le_of_mul_le_mul_left this hD
    have h3 : (2 ^ 54 - 1) * (U * 2 ^ 987) = ((2 ^ 54 - 1) * 2 ^ 987) * U := by rw [Nat.mul_comm U, Nat.mul_assoc]
    rw [h3, ← Nat.mul_assoc] at h2
    have h4 := Nat.le_of_mul_le_mul_right h2 U_pos
    have h5 : (2 ^ 54 - 1) * 1 ≤ (2 ^ 54 - 1) * 2 ^ 987 := Nat.mul_le_mul_left _ (Nat.two_pow_pos _)
    have h6 := Nat.le_trans h5 h4
    lia
  obtain ⟨t', ht', hv'⟩ := rep hN
  have := (hnear hlt t').1
  rw [hv', ← hW, dist_self] at this
  have h1 := eq_of_dist (Nat.le_zero.mp this)
  rw [hW] at h1
  have h2 := Nat.eq_of_mul_eq_mul_left hD h1
  subst hr
  refine ⟨?_, by rw [val_pack neg hlt, ← h2]⟩
  obtain ⟨m, e, hd, _⟩ := decode_pack neg hlt
  exact ⟨m, e, hd⟩
theorem sgn_int (i : Int) (k : Nat) : sgn (decide (i < 0)) (i.natAbs * k) = i * (k : Int) := by
  rw [sgn_mul]
  congr 1
  unfold sgn
  by_cases h : i < 0 <;> simp [h] <;> lia
theorem Fl.ofR {r : UInt64} {i : Int} {W D : Nat} (h : Right r (decide (i < 0)) W D) (hD : 0 < D) (hW : W = D * (i.natAbs * U)) (hN : i.natAbs < 2 ^ 53) : Fl r i := by
  obtain ⟨⟨m, e, hd⟩, hv⟩ := right_exact h hD hW hN
  exact ⟨⟨_, m, e, hd⟩, by rw [hv, sgn_int]⟩
theorem Fl.zero (a : Bool) : Fl (zero a) 0 := by
  have h0 : (0 : Nat) < infMag := by decide
  obtain ⟨m, e, hd, _⟩ := decode_pack a h0
  refine ⟨⟨_, m, e, hd⟩, ?_⟩
  show val (pack a 0) = _
  rw [val_pack a h0, Int.zero_mul]
  cases a <;> rfl
theorem natAbs_mulU (n : Int) : (n * (U : Int)).natAbs = n.natAbs * U := by rw [Int.natAbs_mul, Int.natAbs_natCast]
theorem mulU_lt (n : Int) : n * (U : Int) < 0 ↔ n < 0 := by
  have hp : (0 : Int) < U := Int.ofNat_lt.mpr U_pos
  constructor
  · intro h
    by_cases q : n < 0
    · exact q
    · have := Int.mul_nonneg (show 0 ≤ n by lia) (Int.le_of_lt hp); lia
  · intro h; exact Int.mul_neg_of_neg_of_pos h hp
theorem mulU_ne {n : Int} (h : n ≠ 0) : n * (U : Int) ≠ 0 := fun q => by
  rcases Int.mul_eq_zero.mp q with q | q
  · exact h q
  · have := U_pos; lia
theorem sgn_sign {z : Int} {s : Bool} {K : Nat} (hz : z * (U : Int) = sgn s K) (hne : z ≠ 0) : s = decide (z < 0) := by
  have h1 := mulU_lt z
  have h2 := mulU_ne hne
  rw [hz] at h1 h2
  cases s
  · exact (decide_eq_false fun q => absurd (h1.mpr q) (Int.not_lt.mpr (Int.natCast_nonneg K))).symm
  · refine (decide_eq_true (h1.mp (Int.lt_iff_le_and_ne.mpr ⟨?_, h2⟩))).symm
    exact Int.neg_nonpos_of_nonneg (Int.natCast_nonneg K)
theorem sgn_at {s : Bool} {c : Int} (h : c ≠ 0 → s = decide (c < 0)) : sgn s c.natAbs = c := by
  by_cases c0 : c = 0
  · subst c0; cases s <;> rfl
  · have := sgn_int c 1
    rw [← h c0, Nat.mul_one] at this
    exact this.trans (Int.mul_one c)
theorem dec_pos {a : Int} (h : 0 < a) : decide (a < 0) = false := decide_eq_false (Int.not_lt.mpr (Int.le_of_lt h))
theorem sign_of {b c p : Int} (hb : b ≠ 0) (hc : c ≠ 0) (h : c * b = p) : decide (p < 0) = (decide (c < 0) != decide (b < 0)) := by
  subst h
  rcases Int.lt_or_lt_of_ne hc with h1 | h1 <;> rcases Int.lt_or_lt_of_ne hb with h2 | h2
  · rw [decide_eq_true h1, decide_eq_true h2, dec_pos (Int.mul_pos_of_neg_of_neg h1 h2)]; rfl
  · rw [decide_eq_true h1, dec_pos h2, decide_eq_true (Int.mul_neg_of_neg_of_pos h1 h2)]; rfl
  · rw [dec_pos h1, decide_eq_true h2, decide_eq_true (Int.mul_neg_of_pos_of_neg h1 h2)]; rfl
  · rw [dec_pos h1, dec_pos h2, dec_pos (Int.mul_pos h1 h2)]; rfl
theorem sign_16 (a : Int) : decide (a * 2 ^ 16 < 0) = decide (a < 0) := decide_eq_decide.mpr (by lia)
theorem sign_div {a b c : Int} (hc : a * 2 ^ 16 = c * b) (hb : b ≠ 0) (h : c ≠ 0) : (decide (a < 0) != decide (b < 0)) = decide (c < 0) := by
  rw [← sign_16, sign_of hb h hc.symm]
  cases decide (c < 0) <;> cases decide (b < 0) <;> rfl
theorem Fl.add {x y : UInt64} {a b c : Int} (hx : Fl x a) (hy : Fl y b) (hc : a + b = c) (hb : c.natAbs < 2 ^ 53) : Fl (add x y) c := by
  obtain ⟨⟨s, m, e, hd⟩, hv⟩ := hx
  obtain ⟨⟨s', m', e', hd'⟩, hv'⟩ := hy
  subst hc
  obtain ⟨h0, h1⟩ := add_right hd hd'
  have hs : val x + val y = (a + b) * (U : Int) := by rw [hv, hv', Int.add_mul]
  by_cases q : a + b = 0
  · rw [h0 (by rw [hs, q]; simp), q]; exact Fl.zero _
  · have := h1 (by rw [hs]; exact mulU_ne q)
    rw [hs] at this
    refine Fl.ofR (i := a + b) (W := ((a + b) * (U : Int)).natAbs) (D := 1) ?_ (by decide) (by rw [natAbs_mulU]; lia) hb
    rw [show decide (a + b < 0) = decide ((a + b) * (U : Int) < 0) from decide_eq_decide.mpr (mulU_lt _).symm]; exact this
theorem Fl.neg {y : UInt64} {b : Int} (hy : Fl y b) : Fl (neg y) (-b) := by
  obtain ⟨⟨s', m', e', hd'⟩, hv'⟩ := hy
  exact ⟨⟨_, _, _, neg_decode hd'⟩, by rw [neg_val hd', hv', Int.neg_mul]⟩
theorem Fl.sub {x y : UInt64} {a b c : Int} (hx : Fl x a) (hy : Fl y b) (hc : a - b = c) (hb : c.natAbs < 2 ^ 53) : Fl (sub x y) c := by
  unfold Float64.sub
  exact Fl.add hx hy.neg (by lia) hb
theorem Fl.mul {x y : UInt64} {a b c : Int} (hx : Fl x a) (hy : Fl y b) (hc : a * b = c * 2 ^ 16) (hb : c.natAbs < 2 ^ 53) : Fl (mul x y) c := by
  obtain ⟨⟨s, m, e, hd⟩, hv⟩ := hx
  obtain ⟨⟨s', m', e', hd'⟩, hv'⟩ := hy
  have h := mul_right hd hd'
  have hab : a.natAbs * b.natAbs = c.natAbs * 2 ^ 16 := by
    have := congrArg Int.natAbs hc
    rwa [Int.natAbs_mul, Int.natAbs_mul] at this
  have hW : (val x).natAbs * (val y).natAbs = 2 ^ 1074 * (c.natAbs * U) := by
    rw [hv, hv', natAbs_mulU, natAbs_mulU, ← U16]
    calc a.natAbs * U * (b.natAbs * U) = (a.natAbs * b.natAbs) * (U * U) := by ac_rfl
      _ = c.natAbs * 2 ^ 16 * (U * U) := by rw [hab]
      _ = _ := by ac_rfl
  obtain ⟨⟨m₁, e₁, hd₁⟩, hv₁⟩ := right_exact h (Nat.two_pow_pos _) hW hb
  refine ⟨⟨_, _, _, hd₁⟩, ?_⟩
  rw [hv₁, sgn_mul]
  suffices hsg : sgn (s != s') c.natAbs = c by rw [hsg]
  refine sgn_at fun c0 => ?_
  have hp : a * b ≠ 0 := fun q => by rw [hc] at q; lia
  have ha : a ≠ 0 := fun q => hp (by rw [q, Int.zero_mul])
  have hb' : b ≠ 0 := fun q => hp (by rw [q, Int.mul_zero])
  rw [sgn_sign (hv.symm.trans (val_eq hd)) ha, sgn_sign (hv'.symm.trans (val_eq hd')) hb', ← sign_of hb' ha hc, sign_16]
theorem Fl.nz {x : UInt64} {s : Bool} {m : Nat} {e : Int} {a : Int} (hd : decode x = .fin s m e) (hv : val x = a * (U : Int)) (h : a ≠ 0) : m ≠ 0 := fun q => by
  have h1 := val_eq hd
  rw [hv, q, Nat.zero_mul] at h1
  have h2 : sgn s 0 = 0 := by cases s <;> rfl
  rw [h2] at h1
  exact mulU_ne h h1
theorem Fl.div {x y : UInt64} {a b c : Int} (hx : Fl x a) (hy : Fl y b) (hne : b ≠ 0) (hc : a * 2 ^ 16 = c * b) (hb : c.natAbs < 2 ^ 53) : Fl (div x y) c := by
  obtain ⟨⟨s, m, e, hd⟩, hv⟩ := hx
  obtain ⟨⟨s', m', e', hd'⟩, hv'⟩ := hy
  have h := div_right hd hd' (Fl.nz hd' hv' hne)
  have hab : a.natAbs * 2 ^ 16 = c.natAbs * b.natAbs := by
    have := congrArg Int.natAbs hc
    rwa [Int.natAbs_mul, Int.natAbs_mul] at this
  have hW : (val x).natAbs * 2 ^ 1074 = (val y).natAbs * (c.natAbs * U) := by
    rw [hv, hv', natAbs_mulU, natAbs_mulU, ← U16]
    calc a.natAbs * U * (U * 2 ^ 16) = (a.natAbs * 2 ^ 16) * (U * U) := by ac_rfl
      _ = c.natAbs * b.natAbs * (U * U) := by rw [hab]
      _ = _ := by ac_rfl
  have hpos : 0 < (val y).natAbs := by
    rw [hv', natAbs_mulU]; exact Nat.mul_pos (by lia) U_pos
  obtain ⟨⟨m₁, e₁, hd₁⟩, hv₁⟩ := right_exact h hpos hW hb
  refine ⟨⟨_, _, _, hd₁⟩, ?_⟩
  rw [hv₁, sgn_mul]
  suffices hsg : sgn (s != s') c.natAbs = c by rw [hsg]
  refine sgn_at fun c0 => ?_
  have ha : a ≠ 0 := fun q => by
    rw [q, Int.zero_mul] at hc
    rcases Int.mul_eq_zero.mp hc.symm with q | q
    · exact c0 q
    · exact hne q
  rw [sgn_sign (hv.symm.trans (val_eq hd)) ha, sgn_sign (hv'.symm.trans (val_eq hd')) hne]
  exact sign_div hc hne c0
theorem Fl.cmp {x y : UInt64} {a b : Int} (hx : Fl x a) (hy : Fl y b) : cmp x y = some (compare a b) := by
  obtain ⟨⟨s, m, e, hd⟩, hv⟩ := hx
  obtain ⟨⟨s', m', e', hd'⟩, hv'⟩ := hy
  rw [cmp_right hd hd', hv, hv']
  congr 1
  have hp : (0 : Int) < U := Int.ofNat_lt.mpr U_pos
  rcases Int.lt_trichotomy a b with h | h | h
  · rw [Int.compare_eq_lt.mpr h, Int.compare_eq_lt.mpr (Int.mul_lt_mul_of_pos_right h hp)]
  · subst h; simp
  · rw [Int.compare_eq_gt.mpr h, Int.compare_eq_gt.mpr (Int.mul_lt_mul_of_pos_right h hp)]
theorem Fl.ofInt {i c : Int} (hc : c = i * 2 ^ 16) (h : c.natAbs < 2 ^ 53) : Fl (ofInt i) c := by
  subst hc
  have := ofInt_right i
  refine Fl.ofR (i := i * 2 ^ 16) (W := i.natAbs * 2 ^ 1074) (D := 1) ?_ (by decide) ?_ h
  · rw [show decide (i * 2 ^ 16 < 0) = decide (i < 0) from decide_eq_decide.mpr (by lia)]; exact this
  · rw [Int.natAbs_mul, ← U16, Nat.mul_comm U, Nat.one_mul, Nat.mul_assoc]; rfl
theorem Fl.fin {x : UInt64} {a : Int} (h : Fl x a) : isFinite x = true := by
  obtain ⟨⟨s, m, e, hd⟩, _⟩ := h
  unfold isFinite; rw [hd]
-- int(x) of a float that is not below nought
theorem Fl.trunc {x : UInt64} {a : Int} (h : Fl x a) (h0 : 0 ≤ a) : ∃ s m e, decode x = .fin s m e ∧ truncOf s m e = a / 2 ^ 16 := by
  obtain ⟨⟨s, m, e, hd⟩, hv⟩ := h
  refine ⟨s, m, e, hd, ?_⟩
  have he := decode_ge hd
  have hv' := val_eq hd
  rw [hv] at hv'
  have hp : (0 : Int) < U := Int.ofNat_lt.mpr U_pos
  have hU : ((2 : Int) ^ 1074) = (U : Int) * 2 ^ 16 := by
    have := congrArg (Nat.cast : Nat → Int) U16
    simpa using this.symm
  have core : ∀ M : Int, a * (U : Int) = M * ((2 ^ (e + 1074).toNat : Nat) : Int) → (if e ≥ 0 then M * 2 ^ e.toNat else M.fdiv (2 ^ (-e).toNat)) = a / 2 ^ 16 := by
    intro M hM
    split
    · rename_i hge
      have e1 : (e + 1074).toNat = e.toNat + 1074 := by lia
      have : a * (U : Int) = (M * 2 ^ e.toNat * 2 ^ 16) * U := by
        rw [hM, e1, Nat.pow_add, Int.natCast_mul, Int.natCast_pow, Int.natCast_pow]
        show M * (2 ^ e.toNat * 2 ^ 1074) = _
        rw [hU]; ac_rfl
      have h2 := Int.eq_of_mul_eq_mul_right (Int.ne_of_gt hp) this
      rw [h2, Int.mul_ediv_cancel _ (by decide)]
    · rename_i hlt
      have hpos : (0 : Int) < 2 ^ (-e).toNat := Int.pow_pos (by decide)
      rw [Int.fdiv_eq_ediv_of_nonneg _ (Int.le_of_lt hpos)]
      have e1 : 1074 = (e + 1074).toNat + (-e).toNat := by lia
      have h3 : a * (2 : Int) ^ (-e).toNat = M * 2 ^ 16 := by
        have : a * (2 : Int) ^ (-e).toNat * U = M * 2 ^ 16 * U := by
          calc a * (2 : Int) ^ (-e).toNat * U = (a * U) * 2 ^ (-e).toNat := by ac_rfl
            _ = M * (2 ^ (e + 1074).toNat * 2 ^ (-e).toNat) := by rw [hM]; push_cast; ac_rfl
            _ = M * 2 ^ 1074 := by rw [← Int.pow_add, ← e1]
            _ = _ := by rw [hU]; ac_rfl
        exact Int.eq_of_mul_eq_mul_right (Int.ne_of_gt hp) this
      -- M / P = a / 2^16 with a * P = M * 2^16
      generalize (2 : Int) ^ (-e).toNat = P at *
      have h4 : (M * 2 ^ 16) / (P * 2 ^ 16) = M / P := Int.mul_ediv_mul_of_pos_left _ _ (by decide)
      have h5 : (a * P) / (2 ^ 16 * P) = a / 2 ^ 16 := Int.mul_ediv_mul_of_pos_left _ _ hpos
      rw [← h4, ← h3, ← h5, Int.mul_comm P]
  cases s
  · have hM : a * (U : Int) = (m : Int) * ((2 ^ (e + 1074).toNat : Nat) : Int) := by rw [hv']; simp [sgn]
    exact core _ hM
  · have hM : a * (U : Int) = -((m : Int) * ((2 ^ (e + 1074).toNat : Nat) : Int)) := by rw [hv']; simp [sgn]
    have h1 : 0 ≤ a * (U : Int) := Int.mul_nonneg h0 (Int.le_of_lt hp)
    have h2 : (0 : Int) < ((2 ^ (e + 1074).toNat : Nat) : Int) := Int.ofNat_lt.mpr (Nat.two_pow_pos _)
    have hm0 : m = 0 := by
      by_cases q : m = 0
      · exact q
      · have : (0 : Int) < (m : Int) * ((2 ^ (e + 1074).toNat : Nat) : Int) := Int.mul_pos (by lia) h2
        lia
    subst hm0
    have ha : a = 0 := by
      by_cases q : a = 0
      · exact q
      · have := mulU_ne q; simp at hM; lia
    subst ha
    unfold truncOf ceilOf floorOf
    simp [sgn]
end
end
-- 02_base
section
section
variable {prog : Program} {w : World} {A : Around} {s : Shared} {K : Frag} {R : Result → Shared → Prop} {name qual : Str} {params : Arguments} {body : List Stmt} {scope : Scope} {dV kV doc pm cdv ct oc : Value} {an od : Option Addr} {osl : Array (Option Value)} {f : Addr} {args : Args} {binds : List (Str × Value)}
  {p : Program} {loose : List Str} {mean : ExcName → Option Value} {mg mb : Str → Option Value}

theorem enter (X : K.In s.heap) (T : Top p loose mean mg mb s.heap)
    (ho : K.lookup f = some ⟨oc, od, .func (fnOf name qual params body scope dV kV doc pm an cdv ct), osl⟩) (hcd : codeIn K cdv qual = true) (hroom : A.depth < recursionLimit)
    (hbind : BindsTo s (fnOf name qual params body scope dV kV doc pm an cdv ct) args binds) (hloc : ∀ y ∈ binds, scope.names.lookup y.1 = some .local)
    (h : ∀ L h₁, Fr s.heap L h₁ (fun y => binds.reverse.lookup y) → News s.heap L h₁ [] →
      wpAny (model prog w) (A.deeper (envX qual scope L f cdv [])) (execs body (envX qual scope L f cdv []))
        (fun fl s' => R (.ok (.ret (match fl with | .ret v => v | _ => .none))) s') (fun _ _ => False)
        { s with heap := h₁, toks := s.toks + binds.length })
    (hco : scope.isCoroutine = false) (hgen : scope.isGenerator = false) (hk : scope.kind = .function)
    (hcell : ∀ x ∈ scope.names, x.2 ≠ .cell) : codeAny (model prog w) A (.call (.ref f) args) R s := by
  refine codeAny_call_def (fd := fnOf name qual params body scope dV kV doc pm an cdv ct) (body := body) (binds := binds) hroom (X _ _ ho) rfl T.nolimit (codeRec_of X hcd) rfl hbind hcell hloc (fun h₁ hns hk₁ => ?_) hco hgen hk
  exact wpAny_mono (h _ h₁ ⟨hns, hk₁, Nat.le_refl _⟩ News.nil) (fun _ _ x => x) (fun _ _ x => x.elim)
end
noncomputable abbrev PR : Program := PySem.Challenge.rw_pe0221_01.row.prog
-- everything that stood stays
noncomputable abbrev Stays (h h' : Heap) : Prop := ∀ b o, h.get? b = some o → h'.get? b = some o
-- a tuple object
noncomputable abbrev tup (vs : List Value) : Obj := { cls := .type "tuple", data := .seq vs.toArray }
-- a goal at which the walk stands still
noncomputable def Stop (P : Prop) : Prop := P
theorem Stop.of {P : Prop} (h : Stop P) : P := h
theorem Stop.go {P : Prop} (h : P) : Stop P := h
-- a mark: where a hypothesis of this kind stands, the walk stands still at the steps of that name
inductive StopAt (s : String) : Prop
  | intro
noncomputable def seeM (ps : List (Str × Value)) (m : Str → Option Value) (y : Str) : Option Value := match ps.lookup y with
  | some v => some v
  | none => m y
theorem lookup_mem {α β : Type} [BEq α] [LawfulBEq α] {ps : List (α × β)} {y : α} {v : β} : ps.lookup y = some v → (y, v) ∈ ps := by
  intro e
  induction ps with
  | nil => cases e
  | cons q r ih =>
    obtain ⟨x, u⟩ := q
    rw [List.lookup_cons] at e
    cases hb : y == x with
    | true => rw [hb] at e; cases e; rw [eq_of_beq hb]; exact .head _
    | false => rw [hb] at e; exact .tail _ (ih e)
noncomputable def HasAll (m : Str → Option Value) : List (Str × Value) → Prop
  | [] => True
  | (x, v) :: r => m x = some v ∧ HasAll m r
theorem HasAll.all {m : Str → Option Value} {ps : List (Str × Value)} (h : HasAll m ps) : ∀ p ∈ ps, m p.1 = some p.2 := by
  induction ps with
  | nil => intro p hp; cases hp
  | cons q r ih =>
    intro p hp
    rcases List.mem_cons.mp hp with e | hp
    · rw [e]; exact h.1
    · exact ih h.2 p hp
theorem frSee {h₀ h : Heap} {L : Addr} {m : Str → Option Value} {ps : List (Str × Value)} (F : Fr h₀ L h m) (hp' : HasAll m ps) : Fr h₀ L h (seeM ps m) := by
  have hp := hp'.all
  have e : seeM ps m = m := by
    funext y
    unfold seeM
    cases hq : ps.lookup y with
    | none => rfl
    | some v => exact (hp _ (lookup_mem hq)).symm
  rw [e]; exact F

theorem fl_lt {x y : UInt64} {a b : Int} (hx : Fl x a) (hy : Fl y b) : (Float64.cmp x y == some Ordering.lt) = decide (a < b) := by
  rw [Fl.cmp hx hy]
  rcases Int.lt_trichotomy a b with h | h | h
  · rw [Int.compare_eq_lt.mpr h]; simp [h]
  · subst h; simp
  · rw [Int.compare_eq_gt.mpr h]
    have : ¬ a < b := by omega
    simp [this]
theorem fdiv2 (i : Int) : i.fdiv 2 = i / 2 := Int.fdiv_eq_ediv_of_nonneg _ (by decide)
theorem mid_in {lo hi : Int} (h : lo < hi) : lo ≤ (lo + hi).fdiv 2 ∧ (lo + hi).fdiv 2 < hi := by
  rw [fdiv2]
  constructor <;> lia
theorem mid_up {lo hi : Int} (h : lo < hi) : (hi - ((lo + hi).fdiv 2 + 1)).toNat < (hi - lo).toNat := (Int.toNat_lt_toNat (Int.sub_pos_of_lt h)).mpr (by have := (mid_in h).1; lia)
theorem mid_dn {lo hi : Int} (h : lo < hi) : ((lo + hi).fdiv 2 - lo).toNat < (hi - lo).toNat := (Int.toNat_lt_toNat (Int.sub_pos_of_lt h)).mpr (Int.sub_lt_sub_right (mid_in h).2 lo)
theorem news_sub {h₀ h : Heap} {L : Addr} {news news' : List (Addr × Obj)} (N : News h₀ L h news) (hs : ∀ p ∈ news', p ∈ news) : News h₀ L h news' := fun p hp => N p (hs p hp)
theorem seeM_eq {m : Str → Option Value} {ps : List (Str × Value)} (hp' : HasAll m ps) : seeM ps m = m := by
  have hp := hp'.all
  funext y
  unfold seeM
  cases hq : ps.lookup y with
  | none => rfl
  | some v => exact (hp _ (lookup_mem hq)).symm
-- a list object
noncomputable abbrev lst (vs : List Value) (n : Nat) : Obj := { cls := .type "list", data := .seq vs.toArray n }
section
variable {prog : Program} {w : World} {A : Around} {E : Value → Shared → Prop} {s : Shared} {env : Env} {h₀ : Heap} {x : Str} {body : List Stmt} {Q : Flow → Shared → Prop}
-- a loop over a list of the ledger
theorem iter_lst {a : Addr} {items : List Value} {nl : Nat} {m₀ : Str → Option Value} {news : List (Addr × Obj)} (J : Nat → (Str → Option Value) → List (Addr × Obj) → Prop)
    (hh : A.handled = none) (F : Fr h₀ env.locals s.heap m₀) (N : News h₀ env.locals s.heap ((a, lst items nl) :: news)) (h0 : J 0 m₀ news)
    (step : ∀ (i : Nat) v m₁ news₁ h tk own, items[i]? = some v → J i m₁ news₁ → news₁.map (·.1) = news.map (·.1) → (∀ p ∈ own, p.1 = a ∨ s.heap.objs.size ≤ p.1) → Fr h₀ env.locals h (fun y => if y = x then some v else m₁ y) → News h₀ env.locals h (own ++ news₁) →
      wpAny (model prog w) A (execs body env) (fun f s₂ => f = .next ∧ ∃ h' tk' m₂ news₂, s₂ = { s with heap := h', toks := tk' } ∧ Fr h₀ env.locals h' m₂ ∧ News h₀ env.locals h' (own ++ news₂) ∧ news₂.map (·.1) = news₁.map (·.1) ∧ J (i + 1) m₂ news₂) E { s with heap := h, toks := tk })
    (done : ∀ h' tk m' news', Fr h₀ env.locals h' m' → News h₀ env.locals h' news' → J items.length m' news' → Q .next { s with heap := h', toks := tk }) :
    wpAny (model prog w) A (pyIter (.ref a)) (fun it s₂ => LoopAt3 prog w A h₀ env x body Q E it s₂) E s := by
  have ha := N (a, lst items nl) (.head _)
  have hls : s.heap.IsList a items.toArray := ⟨_, ha.1, rfl, nl, rfl⟩
  have hne : a ≠ s.heap.objs.size := Nat.ne_of_lt (Heap.lt_size ha.1)
  refine wpAny_pyIter_list hls ?_
  have W := Walks.list (prog := prog) (w := w) hh s.heap.objs.size a hne items.toArray
  refine ⟨_, _, _, _, _, _, m₀, news, J, rfl, W, ?_, ?_, ?_, ⟨⟨_, Heap.get?_push_size _ rfl, rfl, rfl⟩, hls.at fun o e => Heap.get?_push_of_some _ e⟩, F.push _, (fun p hp => ⟨Heap.get?_push_of_some _ (N p (.tail _ hp)).1, (N p (.tail _ hp)).2⟩), h0, ?_, ?_⟩
  · intro hm
    rcases List.mem_cons.mp hm with e | hm
    · exact absurd F.ns.lt (e ▸ Nat.lt_irrefl _)
    · exact ha.2.1 (List.mem_singleton.mp hm).symm
  · intro b hb
    rw [List.mem_singleton.mp hb]
    exact next_is_new F
  · intro p hp hI
    exact absurd (Heap.lt_size (N p (.tail _ hp)).1) ((List.mem_singleton.mp hI) ▸ Nat.lt_irrefl _)
  · rintro i v m₁ news₁ s₁ own ⟨hh', tk', rfl⟩ hi hP hJ hadr hown hall F₁ N₁
    refine wpAny_mono (step i v m₁ news₁ hh' tk' own (by simpa using hP) hJ hadr (fun p hp => ?_) F₁ N₁) (fun f s₂ h => ?_) fun _ _ e => e
    · rcases List.mem_cons.mp (hown p hp) with e | e
      · exact .inr (Nat.le_of_eq e.symm)
      · exact .inl (List.mem_singleton.mp e)
    · obtain ⟨rfl, h', tk2, m₂, news₂, rfl, F₂, N₂, ha₂, hJ₂⟩ := h
      exact ⟨rfl, h', tk2, m₂, news₂, rfl, F₂, N₂, ha₂, hJ₂⟩
  · intro h' tk m' news' F' N' _ hJ
    exact done h' tk m' news' F' N' (by simpa using hJ)
-- a loop over a range
theorem iter_rng {r : Addr} {a b : Int} {t₀ u₀ w₀ : Tok} {n : Nat} {m₀ : Str → Option Value} {news : List (Addr × Obj)} (J : Nat → (Str → Option Value) → List (Addr × Obj) → Prop)
    (hh : A.handled = none) (hr : IsRange s.heap r a b 1 t₀ u₀ w₀) (hsmall : Builtin.Range.small a b 1 = true) (hn : Builtin.Range.rangeSize a b 1 = (n : Int)) (F : Fr h₀ env.locals s.heap m₀) (N : News h₀ env.locals s.heap news) (h0 : J 0 m₀ news)
    (step : ∀ (i : Nat) t m₁ news₁ h tk own, i < n → J i m₁ news₁ → news₁.map (·.1) = news.map (·.1) → (∀ p ∈ own, s.heap.objs.size ≤ p.1) → Fr h₀ env.locals h (fun y => if y = x then some (.int (a + i) t) else m₁ y) → News h₀ env.locals h (own ++ news₁) →
      wpAny (model prog w) A (execs body env) (fun f s₂ => f = .next ∧ ∃ h' tk' m₂ news₂, s₂ = { s with heap := h', toks := tk' } ∧ Fr h₀ env.locals h' m₂ ∧ News h₀ env.locals h' (own ++ news₂) ∧ news₂.map (·.1) = news₁.map (·.1) ∧ J (i + 1) m₂ news₂) E { s with heap := h, toks := tk })
    (done : ∀ h' tk m' news', Fr h₀ env.locals h' m' → News h₀ env.locals h' news' → J n m' news' → Q .next { s with heap := h', toks := tk }) :
    wpAny (model prog w) A (pyIter (.ref r)) (fun it s₂ => LoopAt3 prog w A h₀ env x body Q E it s₂) E s := by
  refine wpAny_pyIter_range hr hsmall ?_
  refine ⟨_, _, _, n, _, _, m₀, news, J, rfl, (Walks.range hh _ a 1 n).bound, fun hm => absurd F.ns.lt ((List.mem_singleton.mp hm) ▸ Nat.lt_irrefl _), fun b hb => by rw [List.mem_singleton.mp hb]; exact next_is_new F, fun p hp hI => absurd (Heap.lt_size (N p hp).1) ((List.mem_singleton.mp hI) ▸ Nat.lt_irrefl _), ?_, F.push _, (fun p hp => ⟨Heap.get?_push_of_some _ (N p hp).1, (N p hp).2⟩), h0, ?_, fun h' tk m' news' F' N' _ hJ => done h' tk m' news' F' N' hJ⟩
  · show IsRangeIter _ _ _ _ _
    rw [hn]
    simpa using Heap.get?_push_size _ rfl
  · rintro i v m₁ news₁ s₁ own ⟨hh', tk', rfl⟩ hi ⟨_, t, rfl⟩ hJ hadr hown hall F₁ N₁
    rw [Int.mul_one] at F₁
    refine wpAny_mono (step i t m₁ news₁ hh' tk' own hi hJ hadr (fun p hp => Nat.le_of_eq (List.mem_singleton.mp (hown p hp)).symm) F₁ N₁) (fun f s₂ h => ?_) fun _ _ e => e
    obtain ⟨rfl, h', tk2, m₂, news₂, rfl, F₂, N₂, ha₂, hJ₂⟩ := h
    exact ⟨rfl, h', tk2, m₂, news₂, rfl, F₂, N₂, ha₂, hJ₂⟩
end
theorem news_last {h₀ h : Heap} {L : Addr} {q : Addr × Obj} {own : List (Addr × Obj)} (N : News h₀ L h (q :: own)) : News h₀ L h (own ++ [q]) := news_sub N fun p hp => by
  rcases List.mem_append.mp hp with hp | hp
  · exact .tail _ hp
  · exact (List.mem_singleton.mp hp) ▸ .head _
-- the body of a loop (by casesOn: a match on statements makes great helpers)
noncomputable def forBody (s : Stmt) : Option (List Stmt) := @PySem.Stmt.casesOn (fun _ => Option (List Stmt)) s (fun _ _ _ _ _ _ _ _ _ _ => none) (fun _ _ _ _ _ _ _ _ _ _ => none) (fun _ _ _ _ _ _ _ _ _ _ _ => none) (fun _ _ => none) (fun _ _ => none) (fun _ _ _ => none) (fun _ _ _ _ _ _ _ => none) (fun _ _ _ _ => none) (fun _ _ _ _ _ => none) (fun _ _ b _ _ => some b) (fun _ _ _ _ _ => none) (fun _ _ _ _ => none) (fun _ _ _ _ => none) (fun _ _ _ => none) (fun _ _ _ => none) (fun _ _ _ => none) (fun _ _ _ => none) (fun _ _ _ _ _ => none) (fun _ _ _ _ _ => none) (fun _ _ _ => none) (fun _ _ => none) (fun _ _ _ _ => none) (fun _ _ => none) (fun _ _ => none) (fun _ _ => none) (fun _ => none) (fun _ => none) (fun _ => none)
-- a def's scope and its statements
noncomputable def fnAt (K : Frag) (f : Addr) : Option (Scope × List Stmt) := match K.lookup f with
  | some ⟨_, _, .func fd, _⟩ => (match fd.body with
    | .stmts b => some (fd.scope, b)
    | _ => none)
  | _ => none
-- the body of the i-th statement, a loop
noncomputable def bodyOf (r : Option (Scope × List Stmt)) (i : Nat) : Option (Scope × List Stmt) := match r with
  | some (sc, b) => (match b[i]? with
    | some s => (match forBody s with
      | some b => some (sc, b)
      | none => none)
    | none => none)
  | none => none
noncomputable def loopOf (K : Frag) (f : Addr) (i : Nat) : Option (Scope × List Stmt) := bodyOf (fnAt K f) i
theorem room {d a R : Nat} (h : d + a < R) {b : Nat} (hb : b ≤ a) : d + b < R := Nat.lt_of_le_of_lt (Nat.add_le_add_left hb d) h
theorem sne {a b : Nat} (h : a ≠ b) : a + 1 ≠ b + 1 := fun e => h (Nat.succ.inj e)
theorem up1 (L : Nat) : L + 1 ≠ L := Nat.succ_ne_self L
theorem up2 (L : Nat) : L + 1 + 1 ≠ L := Nat.ne_of_gt (Nat.lt_add_of_pos_right (k := 2) (by decide))
theorem up3 (L : Nat) : L + 1 + 1 + 1 ≠ L := Nat.ne_of_gt (Nat.lt_add_of_pos_right (k := 3) (by decide))
theorem up4 (L : Nat) : L + 1 + 1 + 1 + 1 ≠ L := Nat.ne_of_gt (Nat.lt_add_of_pos_right (k := 4) (by decide))
theorem up5 (L : Nat) : L + 1 + 1 + 1 + 1 + 1 ≠ L := Nat.ne_of_gt (Nat.lt_add_of_pos_right (k := 5) (by decide))
theorem up6 (L : Nat) : L + 1 + 1 + 1 + 1 + 1 + 1 ≠ L := Nat.ne_of_gt (Nat.lt_add_of_pos_right (k := 6) (by decide))
theorem off_add {L P : Nat} (h : P < L) (i : Nat) : L + i ≠ P := Nat.ne_of_gt (Nat.lt_of_lt_of_le h (Nat.le_add_right L i))
theorem six_of {j : Int} (h0 : 0 ≤ j) (h1 : j < 6) : j = 0 ∨ j = 1 ∨ j = 2 ∨ j = 3 ∨ j = 4 ∨ j = 5 := by lia
end
local macro_rules | `(tactic| walk_at $s:str) => `(tactic| (rename StopAt $s => hs; refine Stop.of ?_))
section
end
-- 03_hsv
section
open Float64 in
noncomputable def hsvP (s v : UInt64) : UInt64 := mul v (sub 4607182418800017408 s)
open Float64 in
noncomputable def hsvQ (s v f : UInt64) : UInt64 := mul v (sub 4607182418800017408 (mul s f))
open Float64 in
noncomputable def hsvT (s v f : UInt64) : UInt64 := mul v (sub 4607182418800017408 (mul s (sub 4607182418800017408 f)))
inductive HsvOut (s v f : UInt64) (i : Int) : UInt64 → UInt64 → UInt64 → Prop
  | grey : (Float64.cmp s 0 == some Ordering.eq) = true → HsvOut s v f i v v v
  | r0 : ¬ (Float64.cmp s 0 == some Ordering.eq) = true → i % 6 = 0 → HsvOut s v f i v (hsvT s v f) (hsvP s v)
  | r1 : ¬ (Float64.cmp s 0 == some Ordering.eq) = true → i % 6 = 1 → HsvOut s v f i (hsvQ s v f) v (hsvP s v)
  | r2 : ¬ (Float64.cmp s 0 == some Ordering.eq) = true → i % 6 = 2 → HsvOut s v f i (hsvP s v) v (hsvT s v f)
  | r3 : ¬ (Float64.cmp s 0 == some Ordering.eq) = true → i % 6 = 3 → HsvOut s v f i (hsvP s v) (hsvQ s v f) v
  | r4 : ¬ (Float64.cmp s 0 == some Ordering.eq) = true → i % 6 = 4 → HsvOut s v f i (hsvT s v f) (hsvP s v) v
  | r5 : ¬ (Float64.cmp s 0 == some Ordering.eq) = true → i % 6 = 5 → HsvOut s v f i v (hsvP s v) (hsvQ s v f)
theorem fmod6 (i : Int) : i.fmod 6 = i % 6 := Int.fmod_eq_emod_of_nonneg _ (by decide)
theorem hsv_c {w : World} {A : Around} {s : Shared} {R : Result → Shared → Prop} {p : Program} {loose : List Str} {mean : ExcName → Option Value} {mg mb : Str → Option Value}
   {h sa v : UInt64} {t1 t2 t3 : Tok} {sg : Bool} {m : Nat} {e i : Int}
   (hdc : Float64.decode (Float64.mul h 4618441417868443648) = .fin sg m e) (hi : Float64.truncOf sg m e = i) (hs : i.natAbs < 2 ^ 1023) (ht3 : t3 ≠ 0)
   (X : (hd.heap_39 w.params).In s.heap) (T : Top p loose mean mg mb s.heap) (hroom : A.depth < recursionLimit)
   (hR : ∀ (h' : Heap) (tk : Tok) (q : Addr) (x y z : UInt64) (t4 t5 t6 : Tok), Stays s.heap h' → s.heap.get? q = none → h'.get? q = some (tup [.float x t4, .float y t5, .float z t6]) → t4 ≠ 0 ∧ t5 ≠ 0 ∧ t6 ≠ 0 →
       HsvOut sa v (Float64.sub (Float64.mul h 4618441417868443648) (Float64.ofInt i)) i x y z →
       R (.ok (.ret (.ref q))) { s with heap := h', toks := tk}) :
   codeAny (model PR w) A (.call (.ref 28) ⟨[.float h t1, .float sa t2, .float v t3], []⟩) R s := by
  subst hi
  (have hfill : PySem.Challenge.rw_pe0221_01 = PySem.Challenge.rw_pe0221_01 ∧ hd.heap_39 = hd.heap_39 := (by k_fill; exact ⟨rfl, rfl⟩); clear hfill)
  refine' enter (binds := [(Str.ofString "h", .float h t1), (Str.ofString "s", .float sa t2), (Str.ofString "v", .float v t3)]) ?X ?T ?ho ?hcd ?hr ?hb ?hl ?_ ?c1 ?c2 ?c3 ?c4
  (((case X => assumption); (case T => assumption); (case ho => k_is); (case hcd => k_is); (case hr => assumption)); (case hb => first | exact binds_K (by assumption) rfl (by k_is) rfl rfl rfl | exact BindsTo.of_eq rfl); ((case hl => exact locs rfl); (case c1 => rfl); (case c2 => rfl); (case c3 => rfl); (case c4 => decide)))
  intro L h₁ F N
  k_fold
  k_steps
  all_goals (first
    | (show R _ _
       refine hR _ _ _ _ _ _ _ _ _ (Fr.keep (by assumption)) (News.fresh (by assumption) (.head _)) (News.get (by assumption) (.head _)) (by refine ⟨?_, ?_, ?_⟩ <;> first | assumption | exact Nat.succ_ne_zero _ | decide) ?_)
    | skip)
  all_goals (try simp only [fmod6] at *)
  · exact .grey (by assumption)
  · exact .r0 (by simp_all) (by assumption)
  · exact .r1 (by simp_all) (by assumption)
  · exact .r2 (by simp_all) (by assumption)
  · exact .r3 (by simp_all) (by assumption)
  · exact .r4 (by simp_all) (by assumption)
  · exact .r5 (by simp_all) (by assumption)
  · exfalso; lia
end
-- 04_rng
section
noncomputable abbrev rangeO (a b c : Int) (t1 t2 t3 : Tok) : Obj := { cls := .type "range", data := .fields #[.int a t1, .int b t2, .int c t3] }
section
variable {prog : Program} {w : World} {A : Around} {E : Value → Shared → Prop} {s : Shared}
theorem rangeFields_ {r : Addr} {a b c : Int} {t1 t2 t3 : Tok} {Q : Int × Int × Int → Shared → Prop} (hr : s.heap.get? r = some (rangeO a b c t1 t2 t3)) (h : Q (a, b, c) s) : wpAny (model prog w) A (Builtin.Range.rangeFields (.ref r)) Q E s := by
  unfold Builtin.Range.rangeFields
  refine wpAny_bind (wpAny_field hr rfl rfl ?_)
  refine wpAny_bind (wpAny_of_eq (a := some a) rfl ?_)
  refine wpAny_bind (wpAny_field hr rfl rfl ?_)
  refine wpAny_bind (wpAny_of_eq (a := some b) rfl ?_)
  refine wpAny_bind (wpAny_field hr rfl rfl ?_)
  refine wpAny_bind (wpAny_of_eq (a := some c) rfl ?_)
  exact wpAny_pure h
theorem getItem_range {r : Addr} {n : Int} {t1 t2 t3 : Tok} {k : Int} {u : Tok} {Q : Value → Shared → Prop} (hr : s.heap.get? r = some (rangeO 0 n 1 t1 t2 t3))
    (hlo : 0 ≤ k) (hhi : k < n) (h : Q (.int k s.toks) { s with toks := s.toks + 1 }) : wpAny (model prog w) A (getItem (.ref r) (.int k u)) Q E s := by
  have ht : s.TypeIs (.ref r) "range" := ⟨_, hr, rfl⟩
  unfold getItem
  try with_reducible refine wpAny_holding ?_
  first | refine wpAny_bind (wpAny_pure ?_) | skip
  refine wpAny_bind (wpAny_sequenceKey ht (by decide) ?_)
  refine wpAny_bind (wpAny_callSpecial?_slot (name := Str.ofString "__getitem__") ht PySem.F.slot_range_getitem
    (wpAny_call_entry PySem.F.slot_range_getitem ht PySem.F.entry_range_getitem ?_ (PySem.F.args_range_getitem_2 _ _)))
  show wpAny _ _ (Builtin.Range.rangeFields (.ref r) >>= _) _ _ s
  refine wpAny_bind (rangeFields_ hr ?_)
  refine wpAny_bind (wpAny_typeOf (typeIs_int s k u) ?_)
  rw [if_neg (by decide)]
  refine wpAny_bind (wpAny_specialOf (T := "int") (typeIs_int s k u) int_index ?_)
  rw [if_neg (by simp)]
  refine wpAny_bind (wpAny_of_eq (a := k) rfl ?_)
  have hs : Builtin.Range.rangeSize 0 n 1 = n := by
    unfold Builtin.Range.rangeSize
    rw [if_pos (by decide), if_pos (by lia)]
    simp
  rw [hs, if_neg (show ¬ k < 0 by lia)]
  show wpAny _ _ (if _ then _ else _) _ _ s
  rw [if_neg (by simp only [Bool.or_eq_true, decide_eq_true_eq]; lia)]
  show wpAny _ _ (retInt (0 + k * 1)) _ _ s
  rw [show (0 : Int) + k * 1 = k by lia]
  exact wpAny_bind (wpAny_mkInt (wpAny_pure ⟨_, rfl, wpAny_pure h⟩))
theorem tail_range {value slice : Expr} {r : Addr} {n : Int} {t1 t2 t3 : Tok} {k : Int} {u : Tok} {Q : Value → Shared → Prop} (hr : s.heap.get? r = some (rangeO 0 n 1 t1 t2 t3))
    (hlo : 0 ≤ k) (hhi : k < n) (h : Q (.int k s.toks) { s with toks := s.toks + 1 })
    (hs : subscripted slice false (.ref r) (.int k u) = operate [.ref r, .int k u] (getItem (.ref r) (.int k u))) :
    wpAny (model prog w) A (subscriptTail value slice (.ref r) (.int k u)) Q E s := by
  have ht : s.TypeIs (.ref r) "range" := ⟨_, hr, rfl⟩
  exact tail_any ht PySem.F.slot_range_getitem.lookup (getItem_range hr hlo hhi h) hs
end
end
-- 05_bis
section
-- what calling f upon an int gives
noncomputable def KeyGives (w : World) (P : Heap → Prop) (f : Addr) (lo hi : Int) (κ : Int → Int) (D U : Nat) : Prop :=
  ∀ (A : Around) (s : Shared) (R : Result → Shared → Prop) (k : Int) (t : Tok), P s.heap → A.handled = none → A.depth < D → A.units < U → lo ≤ k → k < hi →
    (∀ (h' : Heap) (tk : Tok) (y : UInt64) (t' : Tok), Stays s.heap h' → Fl y (κ k) → R (.ok (.ret (.float y t'))) { s with heap := h', toks := tk }) →
    codeAny (model PR w) A (.call (.ref f) ⟨[.int k t], []⟩) R s
section
theorem bl_key {w : World} {A : Around} {s : Shared} {R : Result → Shared → Prop} {p : Program} {loose : List Str} {mean : ExcName → Option Value} {mg mb : Str → Option Value}
   {P : Heap → Prop} {f a : Addr} {κ : Int → Int} {x : UInt64} {xn lo hi res n : Int} {t1 t2 t3 t4 t5 t6 : Tok} {D U : Nat}
   (hK : KeyGives w P f lo hi κ D U) (hm : ∀ h h', Stays h h' → P h → P h') (hP : P s.heap) (hf : ∀ h, P h → FnAt f h)
   (ha : s.heap.get? a = some (rangeO 0 n 1 t4 t5 t6)) (hx : Fl x xn) (h0 : 0 ≤ lo) (h1 : lo ≤ res) (h2 : res ≤ hi) (h3 : hi ≤ n) (h4 : n < 2 ^ 30)
   (hl : ∀ k, lo ≤ k → k < res → κ k < xn) (hh : ∀ k, res ≤ k → k < hi → ¬ κ k < xn)
   (X : (hd.heap_39 w.params).In s.heap) (T : Top p loose mean mg mb s.heap) (hA : A.handled = none) (hroom : A.depth < recursionLimit) (hD : A.depth + 1 < D) (hU : A.units + 3 < U)
   (hR : ∀ (h' : Heap) (tk t : Tok), Stays s.heap h' → R (.ok (.ret (.int res t))) { s with heap := h', toks := tk}) :
   codeAny (model PR w) A (.call (.ref 88) ⟨[.ref a, .float x t1, .int lo t2, .int hi t3], [(Str.ofString "key", .ref f)]⟩) R s := by
  have st1 : StopAt "exec While Compare cons nil" := .intro
  have st2 : StopAt "subscriptTail Name Name ref int" := .intro
  (have hfill : PySem.Challenge.rw_pe0221_01 = PySem.Challenge.rw_pe0221_01 ∧ hd.heap_39 = hd.heap_39 := (by k_fill; exact ⟨rfl, rfl⟩); clear hfill)
  refine' enter (binds := [(Str.ofString "a", .ref a), (Str.ofString "x", .float x t1), (Str.ofString "lo", .int lo t2), (Str.ofString "hi", .int hi t3), (Str.ofString "key", .ref f)]) ?X ?T ?ho ?hcd ?hr ?hb ?hl ?_ ?c1 ?c2 ?c3 ?c4
  (((case X => assumption); (case T => assumption); (case ho => k_is); (case hcd => k_is); (case hr => assumption)); (case hb => first | exact binds_K (by assumption) rfl (by k_is) rfl rfl rfl | exact BindsTo.of_eq rfl); ((case hl => exact locs rfl); (case c1 => rfl); (case c2 => rfl); (case c3 => rfl); (case c4 => decide)))
  intro L h₁ F N
  k_fold
  k_steps
  refine Stop.go ?_
  refine While_inv2 (fun nn m news => news = [] ∧ ∃ lo' hi' tl th, nn = (hi' - lo').toNat ∧ lo ≤ lo' ∧ lo' ≤ res ∧ res ≤ hi' ∧ hi' ≤ hi ∧
    HasAll m [(Str.ofString "a", Value.ref a), (Str.ofString "x", .float x t1), (Str.ofString "lo", .int lo' tl), (Str.ofString "hi", .int hi' th), (Str.ofString "key", .ref f)]) (n₀ := (hi - lo).toNat)
    (by assumption) (by assumption) ⟨rfl, lo, hi, t2, t3, rfl, Int.le_refl _, h1, h2, Int.le_refl _, rfl, rfl, rfl, rfl, rfl, trivial⟩ ?_
  rintro nn m news hh' tk F N ⟨rfl, lo', hi', tl, th, rfl, i1, i2, i3, i4, hmm⟩
  have F := frSee F hmm
  clear hmm
  have e2 := fdiv2 (lo' + hi')
  show wpAny _ _ _ _ _ _
  k_fold
  k_steps
  · refine callWith_F (hf _ (hm _ _ (Fr.keep (by assumption)) hP)) ?_
    k_steps
    refine Stop.go (tail_range (Fr.keep (by assumption) _ _ (by assumption)) (by lia) (by lia) ?_ (by with_unfolding_all rfl))
    dsimp only
    k_steps
    · exact hf _ (hm _ _ (Fr.keep (by assumption)) hP)
    rename_i h9 F9 N9
    refine wpAny_call (hK _ _ _ _ _ (hm _ _ F9.keep hP) hA (by exact hD) (by exact hU) (by (first | assumption | decide | lia | omega)) (by (first | assumption | decide | lia | omega)) ?_)
    intro h8 tk8 y t8 st hy
    have F8 : Fr s.heap L h8 _ := ⟨F9.ns.keeps st, fun b o e => st b o (F9.keep b o e), F9.above⟩
    have N8 : News s.heap L h8 [] := News.nil
    have hc := fl_lt hy hx
    rw [e2] at hc
    clear F9 N9
    dsimp only
    k_steps
    · rename_i hb _ _ _
      rw [hc] at hb
      have hb := of_decide_eq_true hb
      have : (lo' + hi') / 2 < res := by
        refine Int.not_le.mp fun q => ?_
        exact hh _ q (by (first | assumption | decide | lia | omega)) hb
      refine ⟨_, _, _, [], _, rfl, (by assumption), News.nil, mid_up (by assumption), rfl, (lo' + hi').fdiv 2 + 1, hi', _, th, rfl, ?_, ?_, i3, i4, rfl, rfl, rfl, rfl, rfl, trivial⟩
      all_goals lia
    · rename_i hb _ _ _
      rw [hc] at hb
      have hb := of_decide_eq_false hb
      have : res ≤ (lo' + hi') / 2 := by
        refine Int.not_lt.mp fun q => ?_
        exact hb (hl _ (by (first | assumption | decide | lia | omega)) q)
      refine ⟨_, _, _, [], _, rfl, (by assumption), News.nil, mid_dn (by assumption), rfl, lo', (lo' + hi').fdiv 2, tl, _, rfl, i1, i2, ?_, ?_, rfl, rfl, rfl, rfl, rfl, trivial⟩
      all_goals lia
  · have : lo' = res := by lia
    subst this
    exact hR _ _ _ (Fr.keep (by assumption))
theorem br_key {w : World} {A : Around} {s : Shared} {R : Result → Shared → Prop} {p : Program} {loose : List Str} {mean : ExcName → Option Value} {mg mb : Str → Option Value}
   {P : Heap → Prop} {f a : Addr} {κ : Int → Int} {x : UInt64} {xn lo hi res n : Int} {t1 t2 t3 t4 t5 t6 : Tok} {D U : Nat}
   (hK : KeyGives w P f lo hi κ D U) (hm : ∀ h h', Stays h h' → P h → P h') (hP : P s.heap) (hf : ∀ h, P h → FnAt f h)
   (ha : s.heap.get? a = some (rangeO 0 n 1 t4 t5 t6)) (hx : Fl x xn) (h0 : 0 ≤ lo) (h1 : lo ≤ res) (h2 : res ≤ hi) (h3 : hi ≤ n) (h4 : n < 2 ^ 30)
   (hl : ∀ k, lo ≤ k → k < res → ¬ xn < κ k) (hh : ∀ k, res ≤ k → k < hi → xn < κ k)
   (X : (hd.heap_39 w.params).In s.heap) (T : Top p loose mean mg mb s.heap) (hA : A.handled = none) (hroom : A.depth < recursionLimit) (hD : A.depth + 1 < D) (hU : A.units + 3 < U)
   (hR : ∀ (h' : Heap) (tk t : Tok), Stays s.heap h' → R (.ok (.ret (.int res t))) { s with heap := h', toks := tk}) :
   codeAny (model PR w) A (.call (.ref 79) ⟨[.ref a, .float x t1, .int lo t2, .int hi t3], [(Str.ofString "key", .ref f)]⟩) R s := by
  have st1 : StopAt "exec While Compare cons nil" := .intro
  have st2 : StopAt "subscriptTail Name Name ref int" := .intro
  (have hfill : PySem.Challenge.rw_pe0221_01 = PySem.Challenge.rw_pe0221_01 ∧ hd.heap_39 = hd.heap_39 := (by k_fill; exact ⟨rfl, rfl⟩); clear hfill)
  refine' enter (binds := [(Str.ofString "a", .ref a), (Str.ofString "x", .float x t1), (Str.ofString "lo", .int lo t2), (Str.ofString "hi", .int hi t3), (Str.ofString "key", .ref f)]) ?X ?T ?ho ?hcd ?hr ?hb ?hl ?_ ?c1 ?c2 ?c3 ?c4
  (((case X => assumption); (case T => assumption); (case ho => k_is); (case hcd => k_is); (case hr => assumption)); (case hb => first | exact binds_K (by assumption) rfl (by k_is) rfl rfl rfl | exact BindsTo.of_eq rfl); ((case hl => exact locs rfl); (case c1 => rfl); (case c2 => rfl); (case c3 => rfl); (case c4 => decide)))
  intro L h₁ F N
  k_fold
  k_steps
  refine Stop.go ?_
  refine While_inv2 (fun nn m news => news = [] ∧ ∃ lo' hi' tl th, nn = (hi' - lo').toNat ∧ lo ≤ lo' ∧ lo' ≤ res ∧ res ≤ hi' ∧ hi' ≤ hi ∧
    HasAll m [(Str.ofString "a", Value.ref a), (Str.ofString "x", .float x t1), (Str.ofString "lo", .int lo' tl), (Str.ofString "hi", .int hi' th), (Str.ofString "key", .ref f)]) (n₀ := (hi - lo).toNat)
    (by assumption) (by assumption) ⟨rfl, lo, hi, t2, t3, rfl, Int.le_refl _, h1, h2, Int.le_refl _, rfl, rfl, rfl, rfl, rfl, trivial⟩ ?_
  rintro nn m news hh' tk F N ⟨rfl, lo', hi', tl, th, rfl, i1, i2, i3, i4, hmm⟩
  have F := frSee F hmm
  clear hmm
  have e2 := fdiv2 (lo' + hi')
  show wpAny _ _ _ _ _ _
  k_fold
  k_steps
  · refine callWith_F (hf _ (hm _ _ (Fr.keep (by assumption)) hP)) ?_
    k_steps
    refine Stop.go (tail_range (Fr.keep (by assumption) _ _ (by assumption)) (by lia) (by lia) ?_ (by with_unfolding_all rfl))
    dsimp only
    k_steps
    · exact hf _ (hm _ _ (Fr.keep (by assumption)) hP)
    rename_i h9 F9 N9
    refine wpAny_call (hK _ _ _ _ _ (hm _ _ F9.keep hP) hA (by exact hD) (by exact hU) (by (first | assumption | decide | lia | omega)) (by (first | assumption | decide | lia | omega)) ?_)
    intro h8 tk8 y t8 st hy
    have F8 : Fr s.heap L h8 _ := ⟨F9.ns.keeps st, fun b o e => st b o (F9.keep b o e), F9.above⟩
    have N8 : News s.heap L h8 [] := News.nil
    have hc := fl_lt hx hy
    rw [e2] at hc
    clear F9 N9
    dsimp only
    k_steps
    · rename_i hb _ _ _
      rw [hc] at hb
      have hb := of_decide_eq_true hb
      have : res ≤ (lo' + hi') / 2 := by
        refine Int.not_lt.mp fun q => ?_
        exact hl _ (by (first | assumption | decide | lia | omega)) q hb
      refine ⟨_, _, _, [], _, rfl, (by assumption), News.nil, mid_dn (by assumption), rfl, lo', (lo' + hi').fdiv 2, tl, _, rfl, i1, i2, ?_, ?_, rfl, rfl, rfl, rfl, rfl, trivial⟩
      all_goals lia
    · rename_i hb _ _ _
      rw [hc] at hb
      have hb := of_decide_eq_false hb
      have : (lo' + hi') / 2 < res := by
        refine Int.not_le.mp fun q => ?_
        exact hb (hh _ q (by (first | assumption | decide | lia | omega)))
      refine ⟨_, _, _, [], _, rfl, (by assumption), News.nil, mid_up (by assumption), rfl, (lo' + hi').fdiv 2 + 1, hi', _, th, rfl, ?_, ?_, i3, i4, rfl, rfl, rfl, rfl, rfl, trivial⟩
      all_goals lia
  · have : lo' = res := by lia
    subst this
    exact hR _ _ _ (Fr.keep (by assumption))
end
end
-- 06_bisl
section
theorem IsList.keeps' {h h' : Heap} {a : Addr} {its : Array Value} (x : h.IsList a its) (k : ∀ b o, h.get? b = some o → h'.get? b = some o) : h'.IsList a its :=
  let ⟨o, e, r⟩ := x; ⟨o, k _ _ e, r⟩
-- the floats of a list
noncomputable def FloatsAre (vs : List Value) (n : Int) (κ : Int → Int) : Prop := (vs.length : Int) = n ∧ ∀ i, 0 ≤ i → i < n → ∃ y t, vs[i.toNat]? = some (.float y t) ∧ Fl y (κ i)
section
theorem bl_list {w : World} {A : Around} {s : Shared} {R : Result → Shared → Prop} {p : Program} {loose : List Str} {mean : ExcName → Option Value} {mg mb : Str → Option Value}
   {a : Addr} {κ : Int → Int} {x : UInt64} {xn res n : Int} {t1 : Tok} {vs : List Value}
   (ha : s.heap.IsList a vs.toArray) (hv : FloatsAre vs n κ) (hx : Fl x xn) (h1 : 0 ≤ res) (h2 : res ≤ n) (h4 : n < 2 ^ 20)
   (hl : ∀ k, 0 ≤ k → k < res → κ k < xn) (hh : ∀ k, res ≤ k → k < n → ¬ κ k < xn)
   (X : (hd.heap_39 w.params).In s.heap) (T : Top p loose mean mg mb s.heap) (hA : A.handled = none) (hroom : A.depth < recursionLimit)
   (hR : ∀ (h' : Heap) (tk t : Tok), Stays s.heap h' → R (.ok (.ret (.int res t))) { s with heap := h', toks := tk}) :
   codeAny (model PR w) A (.call (.ref 88) ⟨[.ref a, .float x t1], []⟩) R s := by
  have st1 : StopAt "exec While Compare cons nil" := .intro
  have st2 : StopAt "subscriptTail Name Name ref int" := .intro
  (have hfill : PySem.Challenge.rw_pe0221_01 = PySem.Challenge.rw_pe0221_01 ∧ hd.heap_39 = hd.heap_39 := (by k_fill; exact ⟨rfl, rfl⟩); clear hfill)
  refine' enter (binds := [(Str.ofString "a", .ref a), (Str.ofString "x", .float x t1), (Str.ofString "lo", .int 0 319), (Str.ofString "hi", .none), (Str.ofString "key", .none)]) ?X ?T ?ho ?hcd ?hr ?hb ?hl ?_ ?c1 ?c2 ?c3 ?c4
  ((case X => assumption); (case T => assumption); (case ho => k_is); (case hcd => k_is); (case hr => assumption))
  case hb => exact kp_binds X (fun _ => rfl)
  ((case hl => exact locs rfl); (case c1 => rfl); (case c2 => rfl); (case c3 => rfl); (case c4 => decide))
  intro L h₁ F N
  have hn := hv.1
  show wpAny _ _ _ _ _ _
  k_fold
  k_steps
  refine len_list (IsList.keeps' ha (Fr.keep (by assumption))) (by simp; lia) ?_
  rw [List.size_toArray, hn]
  dsimp only
  k_steps
  refine Stop.go ?_
  refine While_inv2 (fun nn m news => news = [] ∧ ∃ lo' hi' tl th, nn = (hi' - lo').toNat ∧ 0 ≤ lo' ∧ lo' ≤ res ∧ res ≤ hi' ∧ hi' ≤ n ∧
    HasAll m [(Str.ofString "a", Value.ref a), (Str.ofString "x", .float x t1), (Str.ofString "lo", .int lo' tl), (Str.ofString "hi", .int hi' th), (Str.ofString "key", .none)]) (n₀ := n.toNat)
    (by assumption) (by assumption) ⟨rfl, 0, n, 319, _, by simp, Int.le_refl _, h1, h2, Int.le_refl _, rfl, rfl, rfl, rfl, rfl, trivial⟩ ?_
  rintro nn m news hh' tk F N ⟨rfl, lo', hi', tl, th, rfl, i1, i2, i3, i4, hmm⟩
  have F := frSee F hmm
  clear hmm
  have e2 := fdiv2 (lo' + hi')
  show wpAny _ _ _ _ _ _
  k_fold
  k_steps
  · refine Stop.go ?_
    obtain ⟨y, t8, hy1, hy⟩ := hv.2 ((lo' + hi').fdiv 2) (by (first | assumption | decide | lia | omega)) (by (first | assumption | decide | lia | omega))
    refine item_listL (IsList.keeps' ha (Fr.keep (by assumption))) (by (first | assumption | decide | lia | omega)) (by (first | assumption | decide | lia | omega)) hy1 ?_
    have hc := fl_lt hy hx
    rw [e2] at hc
    k_steps
    · rename_i hb _ _ _
      rw [hc] at hb
      have hb := of_decide_eq_true hb
      have : (lo' + hi') / 2 < res := by
        refine Int.not_le.mp fun q => ?_
        exact hh _ q (by (first | assumption | decide | lia | omega)) hb
      refine ⟨_, _, _, [], _, rfl, (by assumption), News.nil, mid_up (by assumption), rfl, (lo' + hi').fdiv 2 + 1, hi', _, th, rfl, ?_, ?_, i3, i4, rfl, rfl, rfl, rfl, rfl, trivial⟩
      all_goals lia
    · rename_i hb _ _ _
      rw [hc] at hb
      have hb := of_decide_eq_false hb
      have : res ≤ (lo' + hi') / 2 := by
        refine Int.not_lt.mp fun q => ?_
        exact hb (hl _ (by (first | assumption | decide | lia | omega)) q)
      refine ⟨_, _, _, [], _, rfl, (by assumption), News.nil, mid_dn (by assumption), rfl, lo', (lo' + hi').fdiv 2, tl, _, rfl, i1, i2, ?_, ?_, rfl, rfl, rfl, rfl, rfl, trivial⟩
      all_goals lia
  · have : lo' = res := by lia
    subst this
    exact hR _ _ _ (Fr.keep (by assumption))
theorem br_list {w : World} {A : Around} {s : Shared} {R : Result → Shared → Prop} {p : Program} {loose : List Str} {mean : ExcName → Option Value} {mg mb : Str → Option Value}
   {a : Addr} {κ : Int → Int} {x : UInt64} {xn res n : Int} {t1 : Tok} {vs : List Value}
   (ha : s.heap.IsList a vs.toArray) (hv : FloatsAre vs n κ) (hx : Fl x xn) (h1 : 0 ≤ res) (h2 : res ≤ n) (h4 : n < 2 ^ 20)
   (hl : ∀ k, 0 ≤ k → k < res → ¬ xn < κ k) (hh : ∀ k, res ≤ k → k < n → xn < κ k)
   (X : (hd.heap_39 w.params).In s.heap) (T : Top p loose mean mg mb s.heap) (hA : A.handled = none) (hroom : A.depth < recursionLimit)
   (hR : ∀ (h' : Heap) (tk t : Tok), Stays s.heap h' → R (.ok (.ret (.int res t))) { s with heap := h', toks := tk}) :
   codeAny (model PR w) A (.call (.ref 79) ⟨[.ref a, .float x t1], []⟩) R s := by
  have st1 : StopAt "exec While Compare cons nil" := .intro
  have st2 : StopAt "subscriptTail Name Name ref int" := .intro
  (have hfill : PySem.Challenge.rw_pe0221_01 = PySem.Challenge.rw_pe0221_01 ∧ hd.heap_39 = hd.heap_39 := (by k_fill; exact ⟨rfl, rfl⟩); clear hfill)
  refine' enter (binds := [(Str.ofString "a", .ref a), (Str.ofString "x", .float x t1), (Str.ofString "lo", .int 0 305), (Str.ofString "hi", .none), (Str.ofString "key", .none)]) ?X ?T ?ho ?hcd ?hr ?hb ?hl ?_ ?c1 ?c2 ?c3 ?c4
  ((case X => assumption); (case T => assumption); (case ho => k_is); (case hcd => k_is); (case hr => assumption))
  case hb => exact kp_binds X (fun _ => rfl)
  ((case hl => exact locs rfl); (case c1 => rfl); (case c2 => rfl); (case c3 => rfl); (case c4 => decide))
  intro L h₁ F N
  have hn := hv.1
  show wpAny _ _ _ _ _ _
  k_fold
  k_steps
  refine len_list (IsList.keeps' ha (Fr.keep (by assumption))) (by simp; lia) ?_
  rw [List.size_toArray, hn]
  dsimp only
  k_steps
  refine Stop.go ?_
  refine While_inv2 (fun nn m news => news = [] ∧ ∃ lo' hi' tl th, nn = (hi' - lo').toNat ∧ 0 ≤ lo' ∧ lo' ≤ res ∧ res ≤ hi' ∧ hi' ≤ n ∧
    HasAll m [(Str.ofString "a", Value.ref a), (Str.ofString "x", .float x t1), (Str.ofString "lo", .int lo' tl), (Str.ofString "hi", .int hi' th), (Str.ofString "key", .none)]) (n₀ := n.toNat)
    (by assumption) (by assumption) ⟨rfl, 0, n, 305, _, by simp, Int.le_refl _, h1, h2, Int.le_refl _, rfl, rfl, rfl, rfl, rfl, trivial⟩ ?_
  rintro nn m news hh' tk F N ⟨rfl, lo', hi', tl, th, rfl, i1, i2, i3, i4, hmm⟩
  have F := frSee F hmm
  clear hmm
  have e2 := fdiv2 (lo' + hi')
  show wpAny _ _ _ _ _ _
  k_fold
  k_steps
  · refine Stop.go ?_
    obtain ⟨y, t8, hy1, hy⟩ := hv.2 ((lo' + hi').fdiv 2) (by (first | assumption | decide | lia | omega)) (by (first | assumption | decide | lia | omega))
    refine item_listL (IsList.keeps' ha (Fr.keep (by assumption))) (by (first | assumption | decide | lia | omega)) (by (first | assumption | decide | lia | omega)) hy1 ?_
    have hc := fl_lt hx hy
    rw [e2] at hc
    k_steps
    · rename_i hb _ _ _
      rw [hc] at hb
      have hb := of_decide_eq_true hb
      have : res ≤ (lo' + hi') / 2 := by
        refine Int.not_lt.mp fun q => ?_
        exact hl _ (by (first | assumption | decide | lia | omega)) q hb
      refine ⟨_, _, _, [], _, rfl, (by assumption), News.nil, mid_dn (by assumption), rfl, lo', (lo' + hi').fdiv 2, tl, _, rfl, i1, i2, ?_, ?_, rfl, rfl, rfl, rfl, rfl, trivial⟩
      all_goals lia
    · rename_i hb _ _ _
      rw [hc] at hb
      have hb := of_decide_eq_false hb
      have : (lo' + hi') / 2 < res := by
        refine Int.not_le.mp fun q => ?_
        exact hb (hh _ q (by (first | assumption | decide | lia | omega)))
      refine ⟨_, _, _, [], _, rfl, (by assumption), News.nil, mid_up (by assumption), rfl, (lo' + hi').fdiv 2 + 1, hi', _, th, rfl, ?_, ?_, i3, i4, rfl, rfl, rfl, rfl, rfl, trivial⟩
      all_goals lia
  · have : lo' = res := by lia
    subst this
    exact hR _ _ _ (Fr.keep (by assumption))
end
end
-- 07_max3
section
section
variable {prog : Program} {w : World} {A : Around} {E : Value → Shared → Prop} {s : Shared} {Q : Value → Shared → Prop} {x y z : UInt64} {t u v : Tok} {a b c : Int}
open PySem.Flt
theorem pick3 {bt : Nat → Nat → Bool} {v0 v1 v2 r : Value} {c1 c2 c3 : Prop} [Decidable c1] [Decidable c2] [Decidable c3] (h1 : bt 1 0 = decide c1) (h2 : bt 2 1 = decide c2) (h3 : bt 2 0 = decide c3)
    (h : (#[v0, v1, v2] : Array Value)[argBest bt 2]? = some r) : (c1 ∧ c2 ∧ v2 = r) ∨ (c1 ∧ ¬ c2 ∧ v1 = r) ∨ (¬ c1 ∧ c3 ∧ v2 = r) ∨ (¬ c1 ∧ ¬ c3 ∧ v0 = r) := by
  rw [show argBest bt 2 = if bt 2 (if bt 1 0 = true then 1 else 0) = true then 2 else if bt 1 0 = true then 1 else 0 from rfl, h1] at h
  by_cases q : c1
  · rw [if_pos (decide_eq_true q), h2] at h
    by_cases q' : c2
    · rw [if_pos (decide_eq_true q')] at h; exact .inl ⟨q, q', Option.some.inj h⟩
    · rw [if_neg (fun e => q' (of_decide_eq_true e))] at h; exact .inr (.inl ⟨q, q', Option.some.inj h⟩)
  · rw [if_neg (fun e => q (of_decide_eq_true e)), h3] at h
    by_cases q' : c3
    · rw [if_pos (decide_eq_true q')] at h; exact .inr (.inr (.inl ⟨q, q', Option.some.inj h⟩))
    · rw [if_neg (fun e => q' (of_decide_eq_true e))] at h; exact .inr (.inr (.inr ⟨q, q', Option.some.inj h⟩))
theorem two_new {h : Heap} {o o' : Obj} : ∀ d ∈ [(h.push o).objs.size, h.objs.size], d < ((h.push o).push o').objs.size := by
  intro d hd
  rw [Heap.size_push, Heap.size_push] at *
  rcases List.mem_cons.mp hd with rfl | hd
  · exact Nat.lt_succ_self _
  · rw [List.mem_singleton.mp hd]; exact Nat.lt_succ_of_lt (Nat.lt_succ_self _)
theorem two_hold {h h' : Heap} {o o' : Obj} (hk : ∀ d p, d ∉ [(h.push o).objs.size] → ((h.push o).push o').get? d = some p → h'.get? d = some p) : Stays h h' := fun d p e => by
  refine hk d p (fun hm => ?_) (Heap.get?_push_of_some _ (Heap.get?_push_of_some _ e))
  have := Heap.lt_size e
  rw [List.mem_singleton.mp hm, Heap.size_push] at this
  exact Nat.lt_irrefl _ (Nat.lt_of_succ_lt this)
theorem three_num : ∀ p ∈ (#[.float x t, .float y u, .float z v] : Array Value), NumV p := fun p hp => (List.forall_mem_cons.mpr ⟨NumV.float x t, List.forall_mem_cons.mpr ⟨NumV.float y u, List.forall_mem_cons.mpr ⟨NumV.float z v, List.forall_mem_nil _⟩⟩⟩ : ∀ p ∈ [Value.float x t, .float y u, .float z v], NumV p) p hp.val
theorem max3_fl (hh : A.handled = none) (hx : Fl x a) (hy : Fl y b) (hz : Fl z c)
    (h : ∀ h' tk r t', Stays s.heap h' → Fl r (max a (max b c)) → (t' = t ∨ t' = u ∨ t' = v) → Q (.float r t') { s with heap := h', toks := tk }) :
    wpAny (model prog w) A (call (.builtin "max") [.float x t, .float y u, .float z v]) Q E s := by
  have hT : (s.heap.push { cls := .type "tuple", data := .seq #[.float x t, .float y u, .float z v] }).IsTuple s.heap.objs.size #[.float x t, .float y u, .float z v] := ⟨_, Heap.get?_push_size _ rfl, rfl, 0, rfl⟩
  refine call_max_three (wpAny_pyIter_tuple hT ?_)
  refine ⟨_, [_, s.heap.objs.size], [_], _, _, _, _, rfl, Walks.tuple (A := A.in1) hh _ s.heap.objs.size (by rw [Heap.size_push]; exact Nat.ne_of_lt (Nat.lt_succ_self _)) #[.float x t, .float y u, .float z v],
    ⟨⟨_, Heap.get?_push_size _ rfl, rfl, rfl⟩, hT.push _⟩, two_new, Nat.le_add_left _ _, cmpOf_gt #[.float x t, .float y u, .float z v] three_num, fun r h' tk hP hk => ?_⟩
  have key := fun r t' => h h' tk r t' (two_hold hk)
  rcases pick3 (fl_lt hx hy) (fl_lt hy hz) (fl_lt hx hz) hP with ⟨c1, c2, rfl⟩ | ⟨c1, c2, rfl⟩ | ⟨c1, c2, rfl⟩ | ⟨c1, c2, rfl⟩
  · refine key _ _ ?_ (.inr (.inr rfl))
    rw [Int.max_eq_right (Int.le_of_lt c2), Int.max_eq_right (Int.le_of_lt (Int.lt_trans c1 c2))]; exact hz
  · refine key _ _ ?_ (.inr (.inl rfl))
    rw [Int.max_eq_left (Int.not_lt.mp c2), Int.max_eq_right (Int.le_of_lt c1)]; exact hy
  · refine key _ _ ?_ (.inr (.inr rfl))
    rw [Int.max_eq_right (Int.le_trans (Int.not_lt.mp c1) (Int.le_of_lt c2)), Int.max_eq_right (Int.le_of_lt c2)]; exact hz
  · refine key _ _ ?_ (.inl rfl)
    rw [Int.max_eq_left (Int.max_le.mpr ⟨Int.not_lt.mp c1, Int.not_lt.mp c2⟩)]; exact hx
theorem min3_fl (hh : A.handled = none) (hx : Fl x a) (hy : Fl y b) (hz : Fl z c)
    (h : ∀ h' tk r t', Stays s.heap h' → Fl r (min a (min b c)) → Q (.float r t') { s with heap := h', toks := tk }) :
    wpAny (model prog w) A (call (.builtin "min") [.float x t, .float y u, .float z v]) Q E s := by
  have hT : (s.heap.push { cls := .type "tuple", data := .seq #[.float x t, .float y u, .float z v] }).IsTuple s.heap.objs.size #[.float x t, .float y u, .float z v] := ⟨_, Heap.get?_push_size _ rfl, rfl, 0, rfl⟩
  refine call_min_three (wpAny_pyIter_tuple hT ?_)
  refine ⟨_, [_, s.heap.objs.size], [_], _, _, _, _, rfl, Walks.tuple (A := A.in1) hh _ s.heap.objs.size (by rw [Heap.size_push]; exact Nat.ne_of_lt (Nat.lt_succ_self _)) #[.float x t, .float y u, .float z v],
    ⟨⟨_, Heap.get?_push_size _ rfl, rfl, rfl⟩, hT.push _⟩, two_new, Nat.le_add_left _ _, cmpOf_lt #[.float x t, .float y u, .float z v] three_num, fun r h' tk hP hk => ?_⟩
  have key := fun r t' => h h' tk r t' (two_hold hk)
  rcases pick3 (fl_lt hy hx) (fl_lt hz hy) (fl_lt hz hx) hP with ⟨c1, c2, rfl⟩ | ⟨c1, c2, rfl⟩ | ⟨c1, c2, rfl⟩ | ⟨c1, c2, rfl⟩
  · refine key _ _ ?_
    rw [Int.min_eq_right (Int.le_of_lt c2), Int.min_eq_right (Int.le_of_lt (Int.lt_trans c2 c1))]; exact hz
  · refine key _ _ ?_
    rw [Int.min_eq_left (Int.not_lt.mp c2), Int.min_eq_right (Int.le_of_lt c1)]; exact hy
  · refine key _ _ ?_
    rw [Int.min_eq_right (Int.le_trans (Int.le_of_lt c2) (Int.not_lt.mp c1)), Int.min_eq_right (Int.le_of_lt c2)]; exact hz
  · refine key _ _ ?_
    rw [Int.min_eq_left (Int.le_min.mpr ⟨Int.not_lt.mp c1, Int.not_lt.mp c2⟩)]; exact hx
end
end
-- 08_fops
section
section
open PySem.Float64
theorem Fl.notZero {x : UInt64} {a : Int} (h : Fl x a) (hne : a ≠ 0) : ¬ Float64.isZero x = true := by
  obtain ⟨⟨s, m, e, hd⟩, hv⟩ := h
  have hm := Fl.nz hd hv hne
  unfold Float64.isZero
  rw [hd]
  cases m with
  | zero => exact absurd rfl hm
  | succ k => exact Bool.false_ne_true
theorem Fl.isZero {x : UInt64} (h : Fl x 0) : Float64.isZero x = true := by
  obtain ⟨⟨s, m, e, hd⟩, hv⟩ := h
  have h1 := val_natAbs hd
  rw [hv] at h1
  have hm : m = 0 := by
    have h2 : m * 2 ^ (e + 1074).toNat = 0 := by rw [← h1]; simp
    rcases Nat.mul_eq_zero.mp h2 with q | q
    · exact q
    · have := Nat.two_pow_pos (e + 1074).toNat; lia
  unfold Float64.isZero
  rw [hd, hm]
  rfl
theorem Fl.notInf {x : UInt64} {a : Int} (h : Fl x a) : ¬ Float64.isInf x = true := by
  obtain ⟨⟨s, m, e, hd⟩, hv⟩ := h
  unfold Float64.isInf
  rw [hd]; simp
theorem Fl.frac {a b c : Int} (hb : b ≠ 0) (hc : a * 2 ^ 16 = c * b) (hN : c.natAbs < 2 ^ 53) : Fl (ofFrac (decide (a < 0) != decide (b < 0)) a.natAbs b.natAbs) c := by
  have hab : a.natAbs * 2 ^ 16 = c.natAbs * b.natAbs := by
    have := congrArg Int.natAbs hc
    rwa [Int.natAbs_mul, Int.natAbs_mul] at this
  have hr : Right (ofFrac (decide (a < 0) != decide (b < 0)) a.natAbs b.natAbs) (decide (a < 0) != decide (b < 0)) (a.natAbs * 2 ^ 1074) b.natAbs := ofFrac_right (by (first | assumption | decide | lia | omega)) rfl (by (first | assumption | decide | lia | omega))
  have hW : a.natAbs * 2 ^ 1074 = b.natAbs * (c.natAbs * U) := by
    rw [← U16]
    calc a.natAbs * (U * 2 ^ 16) = (a.natAbs * 2 ^ 16) * U := by ac_rfl
      _ = c.natAbs * b.natAbs * U := by rw [hab]
      _ = _ := by ac_rfl
  obtain ⟨⟨m₁, e₁, hd₁⟩, hv₁⟩ := right_exact hr (by (first | assumption | decide | lia | omega)) hW hN
  refine ⟨⟨_, _, _, hd₁⟩, ?_⟩
  rw [hv₁, sgn_mul]
  rw [sgn_at fun c0 => sign_div hc hb c0]
theorem fl_0 : Fl 0 0 := by
  have : Float64.zero false = 0 := by decide +kernel
  rw [← this]; exact Fl.zero false
theorem fl_1 : Fl 4607182418800017408 65536 := by
  rw [show (4607182418800017408 : UInt64) = Float64.ofInt 1 by decide +kernel]; exact Fl.ofInt (by decide) (by decide)
theorem fl_2 : Fl 4611686018427387904 131072 := by
  rw [show (4611686018427387904 : UInt64) = Float64.ofInt 2 by decide +kernel]; exact Fl.ofInt (by decide) (by decide)
theorem fl_4 : Fl 4616189618054758400 262144 := by
  rw [show (4616189618054758400 : UInt64) = Float64.ofInt 4 by decide +kernel]; exact Fl.ofInt (by decide) (by decide)
theorem fl_6 : Fl 4618441417868443648 393216 := by
  rw [show (4618441417868443648 : UInt64) = Float64.ofInt 6 by decide +kernel]; exact Fl.ofInt (by decide) (by decide)
theorem fl_8 : Fl 4620693217682128896 524288 := by
  rw [show (4620693217682128896 : UInt64) = Float64.ofInt 8 by decide +kernel]; exact Fl.ofInt (by decide) (by decide)
theorem fl_64 : Fl 4634204016564240384 4194304 := by
  rw [show (4634204016564240384 : UInt64) = Float64.ofInt 64 by decide +kernel]; exact Fl.ofInt (by decide) (by decide)
theorem exp_split {e g : Int} (h1 : g ≤ e) (h2 : -1074 ≤ g) : (e + 1074).toNat = (e - g).toNat + (g + 1074).toNat := by
  rw [← Int.toNat_add (Int.sub_nonneg_of_le h1) (by lia)]
  exact congrArg Int.toNat (by lia)
-- fmod
theorem Fl.fmodNat {x y : UInt64} {a : Bool} {m k : Nat} {e f : Int} {sb : Bool} {A B : Nat} (hx : decode x = .fin a m e) (hy : decode y = .fin sb k f) (hA : m * 2 ^ (e + 1074).toNat = A * U) (hB : k * 2 ^ (f + 1074).toNat = B * U) (hB0 : B ≠ 0) (hB' : B < 2 ^ 53) :
    (∃ m' e', decode (fmod x y) = .fin a m' e') ∧ val (fmod x y) = sgn a (A % B * U) := by
  have he := decode_ge hx
  have hf := decode_ge hy
  have hk : k ≠ 0 := fun q => by
    subst q
    rw [Nat.zero_mul] at hB
    rcases Nat.mul_eq_zero.mp hB.symm with q | q
    · exact hB0 q
    · have := U_pos; lia
  have hfm : fmod x y = ofBin a (((sgn false (m * 2 ^ (e - min e f).toNat)).toNat) % ((sgn false (k * 2 ^ (f - min e f).toNat)).toNat)) (min e f) := by
    unfold fmod
    rw [hx, hy]
    simp only
    rw [if_neg (by simpa using hk)]
    rfl
  have t : ∀ n : Nat, (sgn false n).toNat = n := fun n => by simp [sgn]
  rw [t, t] at hfm
  rw [hfm]
  have hg := Int.le_min.mpr ⟨he, hf⟩
  have e1 := exp_split (Int.min_le_left e f) hg
  have e2 := exp_split (Int.min_le_right e f) hg
  generalize min e f = g at *
  rw [e1, Nat.pow_add, ← Nat.mul_assoc] at hA
  rw [e2, Nat.pow_add, ← Nat.mul_assoc] at hB
  generalize m * 2 ^ (e - g).toNat = P at *
  generalize k * 2 ^ (f - g).toNat = R at *
  have hmod : (P % R) * 2 ^ (g + 1074).toNat = A % B * U := by
    rw [← Nat.mul_mod_mul_right, hA, hB, Nat.mul_mod_mul_right]
  have hr : Right (ofBin a (P % R) g) a (A % B * U) 1 := by
    unfold ofBin
    refine ofFrac_right (shift_pos _ _ _ (by decide)) ?_ (by decide)
    have := shift_one (P % R) g 1074 (by (first | assumption | decide | lia | omega))
    rw [Nat.mul_one, ← hmod]
    exact this
  exact right_exact hr (by decide) (by rw [Nat.one_mul]) (Nat.lt_trans (Nat.mod_lt _ (by (first | assumption | decide | lia | omega))) hB')
theorem Fl.signs {x : UInt64} {s : Bool} {m : Nat} {e a : Int} (hd : decode x = .fin s m e) (hv : val x = a * (U : Int)) : m * 2 ^ (e + 1074).toNat = a.natAbs * U ∧ (a ≠ 0 → s = decide (a < 0)) := by
  have h1 := val_natAbs hd
  rw [hv, natAbs_mulU] at h1
  exact ⟨h1.symm, sgn_sign (hv.symm.trans (val_eq hd))⟩
-- x % 1.0 for -1 < x < 1
theorem Fl.mod1 {x : UInt64} {a : Int} (hx : Fl x a) (h1 : -65536 < a) (h2 : a < 65536) : Fl (divmod x 4607182418800017408).2 (a % 65536) := by
  obtain ⟨⟨s, m, e, hd⟩, hv⟩ := id hx
  obtain ⟨⟨s', m', e', hd'⟩, hv'⟩ := id fl_1
  obtain ⟨g1, g2⟩ := Fl.signs hd hv
  obtain ⟨g1', g2'⟩ := Fl.signs hd' hv'
  obtain ⟨⟨mr, er, hdr⟩, hvr⟩ := Fl.fmodNat hd hd' g1 g1' (by decide) (by decide)
  have hmod : a.natAbs % Int.natAbs 65536 = a.natAbs := Nat.mod_eq_of_lt (by show a.natAbs < 65536; lia)
  rw [hmod] at hvr
  have hfm : Fl (fmod x 4607182418800017408) a := by
    refine ⟨⟨_, _, _, hdr⟩, ?_⟩
    rw [hvr, sgn_mul]
    by_cases a0 : a = 0
    · subst a0; cases s <;> rfl
    · rw [g2 a0, ← sgn_mul, sgn_int]
  unfold divmod
  dsimp only
  by_cases a0 : a = 0
  · subst a0
    rw [if_pos hfm.isZero]
    have : copysign (Float64.zero false) 4607182418800017408 = Float64.zero false := by decide +kernel
    show Fl (copysign (Float64.zero false) 4607182418800017408) _
    rw [this]
    exact Fl.zero false
  · rw [if_neg (hfm.notZero a0)]
    have l1 : lt 4607182418800017408 (Float64.zero false) = false := by decide +kernel
    have l2 : lt (fmod x 4607182418800017408) (Float64.zero false) = decide (a < 0) := fl_lt hfm (Fl.zero false)
    rw [l1, l2]
    by_cases hneg : a < 0
    · rw [if_pos (by simp [hneg])]
      show Fl (Float64.add _ _) _
      refine Fl.add hfm fl_1 (by (first | assumption | decide | lia | omega)) (by (first | assumption | decide | lia | omega))
    · rw [if_neg (by simp [hneg])]
      show Fl (fmod x 4607182418800017408) _
      rw [show a % 65536 = a by lia]
      exact hfm
end
section
variable {prog : Program} {w : World} {A : Around} {E : Value → Shared → Prop} {s : Shared} {Q : Value → Shared → Prop} {t u : Tok}
theorem div_ii_fl {a b c : Int} (hb : b ≠ 0) (hc : a * 2 ^ 16 = c * b) (hN : c.natAbs < 2 ^ 53) (h : ∀ z, Fl z c → Q (.float z s.toks) { s with toks := s.toks + 1 }) : wpAny (model prog w) A (binaryOp .Div (.int a t) (.int b u)) Q E s := by
  have hf := Fl.frac hb hc hN
  exact AutoIntOps.truediv_2 (by simpa using hb) hf.notInf (h _ hf)
theorem div_if_fl {a b c : Int} {x : UInt64} (hx : Fl x b) (hb : b ≠ 0) (hc : a * 2 ^ 32 = c * b) (ha : (a * 2 ^ 16).natAbs < 2 ^ 53) (hN : c.natAbs < 2 ^ 53) (h : ∀ z, Fl z c → Q (.float z s.toks) { s with toks := s.toks + 1 }) : wpAny (model prog w) A (binaryOp .Div (.int a t) (.float x u)) Q E s := by
  have hi := Fl.ofInt (i := a) rfl ha
  exact AutoFloatOps.truediv_if_2 hi.notInf (hx.notZero hb) (h _ (Fl.div hi hx hb (by (first | assumption | decide | lia | omega)) hN))
theorem mul_if_fl {a b : Int} {x : UInt64} (hx : Fl x b) (ha : (a * 2 ^ 16).natAbs < 2 ^ 53) (hN : (a * b).natAbs < 2 ^ 53) (h : ∀ z, Fl z (a * b) → Q (.float z s.toks) { s with toks := s.toks + 1 }) : wpAny (model prog w) A (binaryOp .Mult (.int a t) (.float x u)) Q E s := by
  have hi := Fl.ofInt (i := a) rfl ha
  refine AutoFloatOps.mul_if_1 hi.notInf (h _ (Fl.mul hi hx ?_ hN))
  rw [Int.mul_assoc, Int.mul_comm (2 ^ 16), ← Int.mul_assoc]
end
end
-- 09_rgb
section
section
theorem fl_eq {x y : UInt64} {a b : Int} (hx : Fl x a) (hy : Fl y b) : (Float64.cmp x y == some Ordering.eq) = decide (a = b) := by
  rw [Fl.cmp hx hy]
  rcases Int.lt_trichotomy a b with h | h | h
  · rw [Int.compare_eq_lt.mpr h]
    have : ¬ a = b := by omega
    simp [this]
  · subst h; simp
  · rw [Int.compare_eq_gt.mpr h]
    have : ¬ a = b := by omega
    simp [this]
section
variable {prog : Program} {w : World} {A : Around} {E : Value → Shared → Prop} {s : Shared} {Q : Value → Shared → Prop} {t u : Tok} {x y : UInt64} {a b : Int}
theorem eq_ff_fl (hx : Fl x a) (hy : Fl y b) (h : Q (.bool (decide (a = b))) s) : wpAny (model prog w) A (compareOp .Eq (.float x t) (.float y u)) Q E s :=
  AutoFloatOps.eq_0 (by rw [← fl_eq hx hy] at h; exact h)
theorem div_ff (hz : ¬ Float64.isZero y = true) (h : Q (.float (Float64.div x y) s.toks) { s with toks := s.toks + 1 }) : wpAny (model prog w) A (binaryOp .Div (.float x t) (.float y u)) Q E s := AutoFloatOps.truediv_1 hz h
theorem mod_ff (hz : ¬ Float64.isZero y = true) (h : Q (.float (Float64.divmod x y).2 s.toks) { s with toks := s.toks + 1 }) : wpAny (model prog w) A (binaryOp .Mod (.float x t) (.float y u)) Q E s := AutoFloatOps.mod_1 hz h
end
theorem tok_gen {α : Type} {M : Model} {A : Around} {e : Sem α} {Q : α → Shared → Prop} {E : Value → Shared → Prop} {s : Shared} (hn : s.toks ≠ 0) (h : ∀ tk : Tok, tk ≠ 0 → wpAny M A e Q E { s with toks := tk }) : wpAny M A e Q E s := h s.toks hn
-- what rgb_to_hsv's arguments must be like
structure RgbIn (rn gn bn M m hN sN : Int) : Prop where
  eM : M = max rn (max gn bn)
  em : m = min rn (min gn bn)
  bM : M.natAbs < 2 ^ 52
  bm : m.natAbs < 2 ^ 52
  grey : m = M → hN = 0 ∧ sN = 0
  col : m ≠ M → M ≠ 0 ∧ (M - m) * 2 ^ 16 = sN * M ∧ sN.natAbs < 2 ^ 52 ∧ ∃ rc gc bc h6 : Int, (M - rn) * 2 ^ 16 = rc * (M - m) ∧ (M - gn) * 2 ^ 16 = gc * (M - m) ∧ (M - bn) * 2 ^ 16 = bc * (M - m) ∧
    rc.natAbs < 2 ^ 50 ∧ gc.natAbs < 2 ^ 50 ∧ bc.natAbs < 2 ^ 50 ∧ (rn = M → bc - gc = 6 * h6) ∧ (rn ≠ M → gn = M → 131072 + rc - bc = 6 * h6) ∧ (rn ≠ M → gn ≠ M → 262144 + gc - rc = 6 * h6) ∧ -65536 < h6 ∧ h6 < 65536 ∧ hN = h6 % 65536
theorem abs_in {a m : Int} {n : Nat} (e : (n : Int) = m) (h : a.natAbs < n) : -m < a ∧ a < m := by
  have h1 := Int.ofNat_lt.mpr h
  rw [e] at h1
  have h2 : -a ≤ _ := Int.le_natAbs
  rw [Int.natAbs_neg] at h2
  exact ⟨by lia, Int.lt_of_le_of_lt Int.le_natAbs h1⟩
theorem abs_out {a m : Int} {n : Nat} (e : (n : Int) = m) (h1 : -m < a) (h2 : a < m) : a.natAbs < n := by
  refine Int.ofNat_lt.mp ?_
  rw [e]
  rcases Int.natAbs_eq a with q | q <;> lia
theorem n52 : ((2 ^ 52 : Nat) : Int) = 4503599627370496 := rfl
theorem n53 : ((2 ^ 53 : Nat) : Int) = 9007199254740992 := rfl
theorem n50 : ((2 ^ 50 : Nat) : Int) = 1125899906842624 := rfl
theorem n_sub {a b : Int} (ha : a.natAbs < 2 ^ 52) (hb : b.natAbs < 2 ^ 52) : (a - b).natAbs < 2 ^ 53 := abs_out n53 (by have := (abs_in n52 ha).1; have := (abs_in n52 hb).2; lia) (by have := (abs_in n52 ha).2; have := (abs_in n52 hb).1; lia)
theorem n_mid {m r M : Int} (h1 : m ≤ r) (h2 : r ≤ M) (hm : m.natAbs < 2 ^ 52) (hM : M.natAbs < 2 ^ 52) : r.natAbs < 2 ^ 52 := abs_out n52 (Int.lt_of_lt_of_le (abs_in n52 hm).1 h1) (Int.lt_of_le_of_lt h2 (abs_in n52 hM).2)
theorem n_lt52 {n : Nat} (h : n < 2 ^ 52) : n < 2 ^ 53 := Nat.lt_trans h (by decide)
theorem n_lt50 {n : Nat} (h : n < 2 ^ 50) : n < 2 ^ 53 := Nat.lt_trans h (by decide)
theorem n_add {c a : Int} (hc : 0 ≤ c ∧ c ≤ 262144) (h : a.natAbs < 2 ^ 50) : (c + a).natAbs < 2 ^ 53 := abs_out n53 (by have := (abs_in n50 h).1; lia) (by have := (abs_in n50 h).2; lia)
theorem n_six {h6 : Int} (l1 : -65536 < h6) (l2 : h6 < 65536) : (6 * h6).natAbs < 2 ^ 53 ∧ h6.natAbs < 2 ^ 53 := ⟨abs_out n53 (by lia) (by lia), abs_out n53 (by lia) (by lia)⟩
theorem q_six (h6 : Int) : 6 * h6 * 2 ^ 16 = h6 * 393216 := by lia
theorem rgb_end {r g b mx mn : UInt64} {rn gn bn M m hN sN : Int} (I : RgbIn rn gn bn M m hN sN) (hgrey : m ≠ M) (hr : Fl r rn) (hg : Fl g gn) (hb : Fl b bn) (hmx : Fl mx M) (hmn : Fl mn m) :
    Fl (Float64.div (Float64.sub mx mn) mx) sN ∧
    (rn = M → Fl (Float64.divmod (Float64.div (Float64.sub (Float64.div (Float64.sub mx b) (Float64.sub mx mn)) (Float64.div (Float64.sub mx g) (Float64.sub mx mn))) 4618441417868443648) 4607182418800017408).2 hN) ∧
    (rn ≠ M → gn = M → Fl (Float64.divmod (Float64.div (Float64.sub (Float64.add 4611686018427387904 (Float64.div (Float64.sub mx r) (Float64.sub mx mn))) (Float64.div (Float64.sub mx b) (Float64.sub mx mn))) 4618441417868443648) 4607182418800017408).2 hN) ∧
    (rn ≠ M → gn ≠ M → Fl (Float64.divmod (Float64.div (Float64.sub (Float64.add 4616189618054758400 (Float64.div (Float64.sub mx g) (Float64.sub mx mn))) (Float64.div (Float64.sub mx r) (Float64.sub mx mn))) 4618441417868443648) 4607182418800017408).2 hN) := by
  obtain ⟨hM0, hs, bs, rc, gc, bc, h6, e1, e2, e3, b1, b2, b3, c1, c2, c3, l1, l2, rfl⟩ := I.col hgrey
  have bM := I.bM
  have bm := I.bm
  have r1 : rn ≤ M := by rw [I.eM]; exact Int.le_max_left _ _
  have g1 : gn ≤ M := by rw [I.eM]; exact Int.le_trans (Int.le_max_left _ _) (Int.le_max_right _ _)
  have d1 : bn ≤ M := by rw [I.eM]; exact Int.le_trans (Int.le_max_right _ _) (Int.le_max_right _ _)
  have r2 : m ≤ rn := by rw [I.em]; exact Int.min_le_left _ _
  have g2 : m ≤ gn := by rw [I.em]; exact Int.le_trans (Int.min_le_right _ _) (Int.min_le_left _ _)
  have d2 : m ≤ bn := by rw [I.em]; exact Int.le_trans (Int.min_le_right _ _) (Int.min_le_right _ _)
  have f1 := Fl.sub hmx hmn rfl (n_sub bM bm)
  have hd0 : M - m ≠ 0 := fun h => hgrey (Int.eq_of_sub_eq_zero h).symm
  have f2 := Fl.div f1 hmx hM0 hs (n_lt52 bs)
  have f3 := Fl.div (Fl.sub hmx hr rfl (n_sub bM (n_mid r2 r1 bm bM))) f1 hd0 e1 (n_lt50 b1)
  have f4 := Fl.div (Fl.sub hmx hg rfl (n_sub bM (n_mid g2 g1 bm bM))) f1 hd0 e2 (n_lt50 b2)
  have f5 := Fl.div (Fl.sub hmx hb rfl (n_sub bM (n_mid d2 d1 bm bM))) f1 hd0 e3 (n_lt50 b3)
  obtain ⟨s1, s2⟩ := n_six l1 l2
  refine ⟨f2, fun q => ?_, fun q q' => ?_, fun q q' => ?_⟩
  · exact Fl.mod1 (Fl.div (Fl.sub f5 f4 (c1 q) s1) fl_6 (by decide) (q_six h6) s2) l1 l2
  · exact Fl.mod1 (Fl.div (Fl.sub (Fl.add fl_2 f3 rfl (n_add (by decide) b1)) f5 (c2 q q') s1) fl_6 (by decide) (q_six h6) s2) l1 l2
  · exact Fl.mod1 (Fl.div (Fl.sub (Fl.add fl_4 f4 rfl (n_add (by decide) b2)) f3 (c3 q q') s1) fl_6 (by decide) (q_six h6) s2) l1 l2
theorem rgb_c {w : World} {A : Around} {s : Shared} {R : Result → Shared → Prop} {p : Program} {loose : List Str} {mean : ExcName → Option Value} {mg mb : Str → Option Value}
   {r g b : UInt64} {t1 t2 t3 : Tok} {rn gn bn M m hN sN : Int}
   (hr : Fl r rn) (hg : Fl g gn) (hb : Fl b bn) (I : RgbIn rn gn bn M m hN sN) (htk : t1 ≠ 0 ∧ t2 ≠ 0 ∧ t3 ≠ 0)
   (X : (hd.heap_39 w.params).In s.heap) (T : Top p loose mean mg mb s.heap) (hA : A.handled = none) (hroom : A.depth < recursionLimit)
   (hR : ∀ (h' : Heap) (tk : Tok) (q : Addr) (x y z : UInt64) (t4 t5 t6 : Tok), Stays s.heap h' → s.heap.get? q = none → h'.get? q = some (tup [.float x t4, .float y t5, .float z t6]) → t4 ≠ 0 ∧ t5 ≠ 0 ∧ t6 ≠ 0 →
       Fl x hN → Fl y sN → Fl z M → R (.ok (.ret (.ref q))) { s with heap := h', toks := tk}) :
   codeAny (model PR w) A (.call (.ref 21) ⟨[.float r t1, .float g t2, .float b t3], []⟩) R s := by
  have st1 : StopAt "binaryOp Div float float" := .intro
  have st2 : StopAt "binaryOp Mod float float" := .intro
  have st3 : StopAt "compareOp Eq float float" := .intro
  have st4 : StopAt "execs cons" := .intro
  (have hfill : PySem.Challenge.rw_pe0221_01 = PySem.Challenge.rw_pe0221_01 ∧ hd.heap_39 = hd.heap_39 := (by k_fill; exact ⟨rfl, rfl⟩); clear hfill)
  refine' enter (binds := [(Str.ofString "r", .float r t1), (Str.ofString "g", .float g t2), (Str.ofString "b", .float b t3)]) ?X ?T ?ho ?hcd ?hr ?hb ?hl ?_ ?c1 ?c2 ?c3 ?c4
  (((case X => assumption); (case T => assumption); (case ho => k_is); (case hcd => k_is); (case hr => assumption)); (case hb => first | exact binds_K (by assumption) rfl (by k_is) rfl rfl rfl | exact BindsTo.of_eq rfl); ((case hl => exact locs rfl); (case c1 => rfl); (case c2 => rfl); (case c3 => rfl); (case c4 => decide)))
  intro L h₁ F N
  k_fold
  k_steps
  repeat' ((with_reducible refine Stop.go ?_); first | ((with_reducible refine tok_gen (by first | exact Nat.succ_ne_zero _ | (dsimp only [List.length_cons, List.length_nil]; exact Nat.succ_ne_zero _)) fun _ _ => ?_); (try dsimp only); refine wpAny_execs_cons ?_; (try dsimp only); k_steps) | ((with_reducible refine wpAny_execs_cons ?_); (try dsimp only); k_steps) | ((with_reducible refine div_ff (by first | assumption | exact fl_6.notZero (by decide)) ?_); k_steps) | ((with_reducible refine Mine.mod_ff (fl_1.notZero (by decide)) ?_); k_steps) | ((with_reducible refine eq_ff_fl (by assumption) (by assumption) ?_); k_steps) | fail)
  refine wpAny_with_toks (n := 1) (Nat.pos_of_ne_zero (by assumption)) (max3_fl hA hr hg hb fun h₂ tk₂ mx tx st₂ hmx htx hk₂ => ?_)
  replace hk₂ : tk₂ ≠ 0 := Nat.ne_of_gt hk₂
  have hx0 : tx ≠ 0 := by
    obtain ⟨q1, q2, q3⟩ := htk
    rcases htx with rfl | rfl | rfl <;> assumption
  rw [← I.eM] at hmx
  have F := F.grownK st₂
  have N : News s.heap L h₂ [] := News.nil
  k_steps
  repeat' ((with_reducible refine Stop.go ?_); first | ((with_reducible refine tok_gen (by first | exact Nat.succ_ne_zero _ | (dsimp only [List.length_cons, List.length_nil]; exact Nat.succ_ne_zero _)) fun _ _ => ?_); (try dsimp only); refine wpAny_execs_cons ?_; (try dsimp only); k_steps) | ((with_reducible refine wpAny_execs_cons ?_); (try dsimp only); k_steps) | ((with_reducible refine div_ff (by first | assumption | exact fl_6.notZero (by decide)) ?_); k_steps) | ((with_reducible refine Mine.mod_ff (fl_1.notZero (by decide)) ?_); k_steps) | ((with_reducible refine eq_ff_fl (by assumption) (by assumption) ?_); k_steps) | fail)
  rename_i h₃ F₃ N₃ tk₃ hk₃
  refine wpAny_with_toks (n := 1) (Nat.pos_of_ne_zero (by assumption)) (min3_fl hA hr hg hb fun h₄ tk₄ mn tn st₄ hmn hk₄ => ?_)
  replace hk₄ : tk₄ ≠ 0 := Nat.ne_of_gt hk₄
  rw [← I.em] at hmn
  have F := F₃.grownK st₄
  have N : News s.heap L h₄ [] := News.nil
  clear F₃ N₃
  by_cases hgrey : m = M
  · obtain ⟨rfl, rfl⟩ := I.grey hgrey
    k_steps
    repeat' ((with_reducible refine Stop.go ?_); first | ((with_reducible refine tok_gen (by first | exact Nat.succ_ne_zero _ | (dsimp only [List.length_cons, List.length_nil]; exact Nat.succ_ne_zero _)) fun _ _ => ?_); (try dsimp only); refine wpAny_execs_cons ?_; (try dsimp only); k_steps) | ((with_reducible refine wpAny_execs_cons ?_); (try dsimp only); k_steps) | ((with_reducible refine div_ff (by first | assumption | exact fl_6.notZero (by decide)) ?_); k_steps) | ((with_reducible refine Mine.mod_ff (fl_1.notZero (by decide)) ?_); k_steps) | ((with_reducible refine eq_ff_fl (by assumption) (by assumption) ?_); k_steps) | fail)
    exact hR _ _ _ _ _ _ _ _ _ (Fr.keep (by assumption)) (News.fresh (by assumption) (.head _)) (News.get (by assumption) (.head _)) (by refine ⟨?_, ?_, ?_⟩ <;> first | assumption | exact Nat.succ_ne_zero _ | decide) fl_0 fl_0 hmx
  · have z1 := hmx.notZero (I.col hgrey).1
    have z2 : ¬ Float64.isZero (Float64.sub mx mn) = true := by
      exact (Fl.sub hmx hmn rfl (n_sub I.bM I.bm)).notZero (fun q => hgrey (Int.eq_of_sub_eq_zero q).symm)
    have fin := rgb_end I hgrey hr hg hb hmx hmn
    k_steps
    repeat' ((with_reducible refine Stop.go ?_); first | ((with_reducible refine tok_gen (by first | exact Nat.succ_ne_zero _ | (dsimp only [List.length_cons, List.length_nil]; exact Nat.succ_ne_zero _)) fun _ _ => ?_); (try dsimp only); refine wpAny_execs_cons ?_; (try dsimp only); k_steps) | ((with_reducible refine wpAny_execs_cons ?_); (try dsimp only); k_steps) | ((with_reducible refine div_ff (by first | assumption | exact fl_6.notZero (by decide)) ?_); k_steps) | ((with_reducible refine Mine.mod_ff (fl_1.notZero (by decide)) ?_); k_steps) | ((with_reducible refine eq_ff_fl (by assumption) (by assumption) ?_); k_steps) | fail)
    · refine hR _ _ _ _ _ _ _ _ _ (Fr.keep (by assumption)) (News.fresh (by assumption) (.head _)) (News.get (by assumption) (.head _)) (by refine ⟨?_, ?_, ?_⟩ <;> first | assumption | exact Nat.succ_ne_zero _ | decide) ?_ fin.1 hmx
      exact fin.2.1 (by assumption)
    · refine hR _ _ _ _ _ _ _ _ _ (Fr.keep (by assumption)) (News.fresh (by assumption) (.head _)) (News.get (by assumption) (.head _)) (by refine ⟨?_, ?_, ?_⟩ <;> first | assumption | exact Nat.succ_ne_zero _ | decide) ?_ fin.1 hmx
      exact fin.2.2.1 (by assumption) (by assumption)
    · refine hR _ _ _ _ _ _ _ _ _ (Fr.keep (by assumption)) (News.fresh (by assumption) (.head _)) (News.get (by assumption) (.head _)) (by refine ⟨?_, ?_, ?_⟩ <;> first | assumption | exact Nat.succ_ne_zero _ | decide) ?_ fin.1 hmx
      exact fin.2.2.2 (by assumption) (by assumption)
end
end
-- 10_col
section
section
variable {prog : Program} {w : World} {A : Around} {E : Value → Shared → Prop} {s : Shared} {Q : Value → Shared → Prop} {t u : Tok} {h₀ : Heap} {L : Addr} {m : Str → Option Value} {news : List (Addr × Obj)}
theorem min2 {a b : Int} (hh : A.handled = none) (F : Fr h₀ L s.heap m) (N : News h₀ L s.heap news)
    (h : ∀ h' tk t', Fr h₀ L h' m → News h₀ L h' news → Q (.int (min a b) t') { s with heap := h', toks := tk }) :
    wpAny (model prog w) A (call (.builtin "min") [.int a t, .int b u]) Q E s :=
  min_two_N hh F N fun h' tk F' N' => by
    have e : (if b < a then b else a) = min a b := by split <;> lia
    rw [e]; exact h h' tk _ F' N'
theorem max2 {a b : Int} (hh : A.handled = none) (F : Fr h₀ L s.heap m) (N : News h₀ L s.heap news)
    (h : ∀ h' tk t', Fr h₀ L h' m → News h₀ L h' news → Q (.int (max a b) t') { s with heap := h', toks := tk }) :
    wpAny (model prog w) A (call (.builtin "max") [.int a t, .int b u]) Q E s :=
  max_two_N hh F N fun h' tk F' N' => by
    have e : (if b > a then b else a) = max a b := by split <;> lia
    rw [e]; exact h h' tk _ F' N'
theorem mul_l {a b : Int} (hb : -(2 ^ 62) < a ∧ a < 2 ^ 62) (h : Q (.int (a * b) s.toks) { s with toks := s.toks + 1 }) : wpAny (model prog w) A (binaryOp .Mult (.int a t) (.int b u)) Q E s :=
  PyProof.Rows.mul_int h (IntMulOk.of_left (intBits_le_64 (by (first | assumption | decide | lia | omega)) (by (first | assumption | decide | lia | omega))))
theorem mul_64_fl {n : Int} (hn : -(2 ^ 20) < n ∧ n < 2 ^ 20) (h : ∀ z, Fl z (4194304 * n) → Q (.float z s.toks) { s with toks := s.toks + 1 }) : wpAny (model prog w) A (binaryOp .Mult (.float 4634204016564240384 t) (.int n u)) Q E s := by
  have hi := Fl.ofInt (i := n) rfl (by (first | assumption | decide | lia | omega))
  exact mul_fi_fits (by
    have h1 : n.natAbs < 2 ^ 20 := by lia
    exact Nat.lt_trans h1 (Nat.pow_lt_pow_right (by decide) (by decide))) (h _ (Fl.mul fl_64 hi (by (first | assumption | decide | lia | omega)) (by (first | assumption | decide | lia | omega))))
theorem col_div {a size Uz : Int} {x : UInt64} (hx : Fl x (4194304 * size)) (hU : Uz * size = 1024) (ha : a.natAbs ≤ 65536) (hb : 0 < Uz ∧ Uz ≤ 64) (h : ∀ z, Fl z (a * Uz) → Q (.float z s.toks) { s with toks := s.toks + 1 }) :
    wpAny (model prog w) A (binaryOp .Div (.int a t) (.float x u)) Q E s := by
  have hs : size ≠ 0 := fun q => by subst q; simp at hU
  refine div_if_fl hx (by (first | assumption | decide | lia | omega)) ?_ (by (first | assumption | decide | lia | omega)) ?_ h
  · calc a * 2 ^ 32 = a * (1024 * 4194304) := rfl
      _ = a * (Uz * size * 4194304) := by rw [hU]
      _ = a * Uz * (4194304 * size) := by
        rw [Int.mul_assoc a, Int.mul_assoc Uz, Int.mul_comm size]
  · rw [Int.natAbs_mul]
    have : a.natAbs * Uz.natAbs ≤ 65536 * 64 := Nat.mul_le_mul ha (by (first | assumption | decide | lia | omega))
    lia
end
theorem col_bound {v size sa e : Int} (hv : 0 ≤ v ∧ v ≤ 8) (hs : 0 < size ∧ size ≤ 1024) (hsa : 0 ≤ sa ∧ sa ≤ 8) : (v * (8 * size - sa * min (max e 0) size)).natAbs ≤ 65536 := by
  have h1 : 0 ≤ min (max e 0) size ∧ min (max e 0) size ≤ size := ⟨Int.le_min.mpr ⟨Int.le_max_right _ _, Int.le_of_lt hs.1⟩, Int.min_le_right _ _⟩
  generalize min (max e 0) size = f at *
  have h2 : 0 ≤ sa * f := Int.mul_nonneg hsa.1 h1.1
  have h3 : sa * f ≤ 8 * size := Int.mul_le_mul hsa.2 h1.2 h1.1 (by decide)
  generalize sa * f = g at *
  have h4 : 0 ≤ v * (8 * size - g) := Int.mul_nonneg hv.1 (by (first | assumption | decide | lia | omega))
  have h5 : v * (8 * size - g) ≤ 8 * (8 * size) := Int.mul_le_mul hv.2 (by (first | assumption | decide | lia | omega)) (by (first | assumption | decide | lia | omega)) (by decide)
  lia
-- how far a part falls from its corner
noncomputable def fallOf (k c size : Int) : Int := min (max (2 * min ((3 * k - c * size).fmod (3 * size)) (3 * size - (3 * k - c * size).fmod (3 * size)) - size) 0) size
-- the part, in 2 ^ 16-ths
noncomputable def colN (k c size sa v Uz : Int) : Int := v * (8 * size - sa * fallOf k c size) * Uz
-- the first parts of a colour
inductive Cols (k size sa v Uz : Int) : Nat → List Value → Prop
  | nil : Cols k size sa v Uz 0 []
  | snoc {i : Nat} {us : List Value} {x : UInt64} {t : Tok} : Cols k size sa v Uz i us → t ≠ 0 → Fl x (colN k i size sa v Uz) → Cols k size sa v Uz (i + 1) (us ++ [.float x t])
theorem Cols.len {k size sa v Uz : Int} {i : Nat} {us : List Value} (h : Cols k size sa v Uz i us) : us.length = i := by
  induction h with
  | nil => rfl
  | snoc _ _ _ ih => rw [List.length_append, ih]; rfl
section
-- a turn of the loop of _law_colour
theorem col_turn {w : World} {A : Around} {s : Shared} {E : Value → Shared → Prop} {Q : Flow → Shared → Prop} {p : Program} {loose : List Str} {mean : ExcName → Option Value} {mg mb : Str → Option Value} {g : Heap} {L l : Addr} {cd : Value} {scope : Scope} {stmts : List Stmt} {m₁ : Str → Option Value} {rest : List (Addr × Obj)}
   {k size sa v Uz c : Int} {us : List Value} {n' : Nat} {t t1 t2 t3 t4 : Tok} (hN : loopOf (hd.heap_39 w.params) 95 1 = some (scope, stmts)) (hA : A.handled = none) (hv : 0 ≤ v ∧ v ≤ 8) (hs : 0 < size ∧ size ≤ 1024) (hsa : 0 ≤ sa ∧ sa ≤ 8) (hU : Uz * size = 1024) (hUb : 0 < Uz ∧ Uz ≤ 64) (hc : 0 ≤ c ∧ c ≤ 2)
   (X : (hd.heap_39 w.params).In g) (T : Top p loose mean mg mb g) (hlen : us.length ≤ 4) (F : Fr g L s.heap (fun y => if y = Str.ofString "c" then some (.int c t) else m₁ y)) (hm₁ : HasAll m₁ [(Str.ofString "k", .int k t1), (Str.ofString "size", .int size t2), (Str.ofString "s", .int sa t3), (Str.ofString "v", .int v t4), (Str.ofString "parts", .ref l)]) (N : News g L s.heap ((l, lst us n') :: rest)) (hne : ∀ p ∈ rest, p.1 ≠ l)
   (hQ : ∀ h' tk' m₂ z t', t' ≠ 0 → Fl z (colN k c size sa v Uz) → Fr g L h' m₂ → News g L h' ((l, lst (us ++ [.float z t']) (n' + 1)) :: rest) → (∀ y, y ≠ Str.ofString "c" → y ≠ Str.ofString "way" → y ≠ Str.ofString "fall" → m₂ y = m₁ y) → Q .next { s with heap := h', toks := tk' }) :
   wpAny (model PR w) A (execs stmts (envX (Str.ofString "_law_colour") scope L 95 cd [])) Q E s := by
  have st4 : StopAt "call builtin:min" := .intro
  have st5 : StopAt "call builtin:max" := .intro
  have st6 : StopAt "binaryOp Mult int int" := .intro
  have st7 : StopAt "binaryOp Mult float int" := .intro
  have st8 : StopAt "binaryOp Div int float" := .intro
  have st1 : StopAt "pyIter ref" := .intro
  have st2 : StopAt "exec For Name Call cons nil" := .intro
  have st3 : StopAt "call builtin:list.append" := .intro
  obtain ⟨hh, dp, fr, gd, un⟩ := A
  replace hA : hh = none := hA
  subst hA
  (have hfill : PySem.Challenge.rw_pe0221_01 = PySem.Challenge.rw_pe0221_01 ∧ hd.heap_39 = hd.heap_39 := (by k_fill; exact ⟨rfl, rfl⟩); clear hfill)
  rw [show loopOf (hd.heap_39 w.params) 95 1 = some _ from rfl] at hN
  cases hN
  have hm₂ : HasAll (fun y => if y = Str.ofString "c" then some (.int c t) else m₁ y) ((Str.ofString "c", .int c t) :: [(Str.ofString "k", .int k t1), (Str.ofString "size", .int size t2), (Str.ofString "s", .int sa t3), (Str.ofString "v", .int v t4), (Str.ofString "parts", .ref l)]) := ⟨rfl, hm₁.1, hm₁.2.1, hm₁.2.2.1, hm₁.2.2.2.1, hm₁.2.2.2.2.1, trivial⟩
  have hsy := fun y (h : y ≠ Str.ofString "c") => (congrFun (seeM_eq hm₂) y).trans (if_neg h)
  have F₁ := frSee F hm₂
  have hsz : us.toArray.size ≤ sizeLine := by rw [List.size_toArray, sizeLine_eq]; lia
  clear F hm₂ hm₁ hlen
  show wpAny _ _ _ _ _ _
  k_steps
  repeat' ((with_reducible refine Stop.go ?_); first | ((with_reducible refine min2 rfl (by k_asm) (by k_asm) fun _ _ _ _ _ => ?_); (try k_sweep); k_steps) | ((with_reducible refine max2 rfl (by k_asm) (by k_asm) fun _ _ _ _ _ => ?_); (try k_sweep); k_steps) | ((with_reducible refine mul_l (by lia) ?_); k_steps) | ((with_reducible refine mul_64_fl (by lia) fun _ _ => ?_); k_steps) | ((with_reducible refine col_div (by assumption) (by assumption) (col_bound (by assumption) (by assumption) (by assumption)) (by assumption) fun _ _ => ?_); k_steps) | fail)
  rename_i z hz
  rename Fr _ _ _ _ => F₈
  rename News _ _ _ _ => N₈
  refine Stop.go (append_K F₈ N₈ (.head hne) ?_ hsz)
  intro h₉ F₉ N₉
  rw [List.push_toArray] at N₉
  dsimp only
  k_steps
  exact hQ _ _ _ _ _ (Nat.succ_ne_zero _) hz F₉ N₉ fun y y1 y2 y3 => (if_neg y3).trans ((if_neg y2).trans (hsy y y1))
theorem col_c {w : World} {A : Around} {s : Shared} {R : Result → Shared → Prop} {p : Program} {loose : List Str} {mean : ExcName → Option Value} {mg mb : Str → Option Value}
   {k size sa v Uz : Int} {t1 t2 t3 t4 : Tok} (hv : 0 ≤ v ∧ v ≤ 8) (hs : 0 < size ∧ size ≤ 1024) (hsa : 0 ≤ sa ∧ sa ≤ 8) (hU : Uz * size = 1024) (hUb : 0 < Uz ∧ Uz ≤ 64)
   (X : (hd.heap_39 w.params).In s.heap) (T : Top p loose mean mg mb s.heap) (hA : A.handled = none) (hroom : A.depth < recursionLimit)
   (hR : ∀ (h' : Heap) (tk : Tok) (q : Addr) (x y z : UInt64) (t4 t5 t6 : Tok), Stays s.heap h' → s.heap.get? q = none → h'.get? q = some (tup [.float x t4, .float y t5, .float z t6]) → t4 ≠ 0 ∧ t5 ≠ 0 ∧ t6 ≠ 0 →
        Fl x (colN k 0 size sa v Uz) → Fl y (colN k 1 size sa v Uz) → Fl z (colN k 2 size sa v Uz) → R (.ok (.ret (.ref q))) { s with heap := h', toks := tk}) :
   codeAny (model PR w) A (.call (.ref 95) ⟨[.int k t1, .int size t2, .int sa t3, .int v t4], []⟩) R s := by
  have st1 : StopAt "pyIter ref" := .intro
  have st2 : StopAt "exec For Name Call cons nil" := .intro
  have st3 : StopAt "call builtin:list.append" := .intro
  obtain ⟨hh, dp, fr, gd, un⟩ := A
  replace hA : hh = none := hA
  subst hA
  (have hfill : PySem.Challenge.rw_pe0221_01 = PySem.Challenge.rw_pe0221_01 ∧ hd.heap_39 = hd.heap_39 := (by k_fill; exact ⟨rfl, rfl⟩); clear hfill)
  refine' enter (binds := [(Str.ofString "k", .int k t1), (Str.ofString "size", .int size t2), (Str.ofString "s", .int sa t3), (Str.ofString "v", .int v t4)]) ?X ?T ?ho ?hcd ?hr ?hb ?hl ?_ ?c1 ?c2 ?c3 ?c4
  (((case X => assumption); (case T => assumption); (case ho => k_is); (case hcd => k_is); (case hr => assumption)); (case hb => first | exact binds_K (by assumption) rfl (by k_is) rfl rfl rfl | exact BindsTo.of_eq rfl); ((case hl => exact locs rfl); (case c1 => rfl); (case c2 => rfl); (case c3 => rfl); (case c4 => decide)))
  intro L h₁ F N
  k_fold
  k_steps
  rename_i l _ _ _ _ _
  refine Stop.go (For_inv3 s.heap rfl rfl ?_)
  k_steps
  rename_i h₄ tk₄ t₅ u₅ v₅ rg F₄ N₄ st₄
  refine Stop.go (iter_rng (n := 3) (fun i m₁ nw => ∃ us n', nw = [(l, lst us n')] ∧ Cols k size sa v Uz i us ∧ HasAll m₁ [(Str.ofString "k", .int k t1), (Str.ofString "size", .int size t2), (Str.ofString "s", .int sa t3), (Str.ofString "v", .int v t4), (Str.ofString "parts", .ref l)])
    rfl rg (by decide) (by decide) F₄ N₄ ⟨[], 0, rfl, .nil, rfl, rfl, rfl, rfl, rfl, trivial⟩ ?step ?done)
  case step =>
    rintro i t m₁ nw h₅ tk₅ own hi ⟨us, n', rfl, hus, hm₁⟩ hadr hown F₅ N₅
    have hl : @LT.lt Nat _ l h₄.objs.size := Heap.lt_size (N₄.get (.head _))
    have hne : ∀ p ∈ own, p.1 ≠ l := fun p hp => neN (Nat.ne_of_gt (Nat.lt_of_lt_of_le hl (hown p hp)))
    have hlen := hus.len
    have N₆ : News s.heap L h₅ ((l, lst us n') :: own) := news_sub N₅ fun q hq => by
      rcases List.mem_cons.mp hq with rfl | hq
      · exact List.mem_append_right _ (.head _)
      · exact List.mem_append_left _ hq
    rw [Int.zero_add] at F₅
    refine col_turn rfl rfl hv hs hsa hU hUb (by (first | assumption | decide | lia | omega)) X T (by (first | assumption | decide | lia | omega)) F₅ hm₁ N₆ hne fun h' tk' m₂ z t' ht' hz F' N' hm₂ => ?_
    exact ⟨rfl, h', tk', m₂, _, rfl, F', news_last N', rfl, _, _, rfl, .snoc hus ht' hz, (hm₂ _ (by decide) (by decide) (by decide)).trans hm₁.1, (hm₂ _ (by decide) (by decide) (by decide)).trans hm₁.2.1, (hm₂ _ (by decide) (by decide) (by decide)).trans hm₁.2.2.1, (hm₂ _ (by decide) (by decide) (by decide)).trans hm₁.2.2.2.1, (hm₂ _ (by decide) (by decide) (by decide)).trans hm₁.2.2.2.2.1, trivial⟩
  case done =>
    rintro h₉ tk₉ m₉ nw F₉ N₉ ⟨us, n', rfl, hus, hm₁⟩
    have F₁₀ := frSee F₉ hm₁
    cases hus with
    | snoc hus z0 zf =>
      cases hus with
      | snoc hus y0 yf =>
        cases hus with
        | snoc hus x0 xf =>
          cases hus
          dsimp only [List.nil_append, List.cons_append] at N₉ ⊢
          k_steps
          exact hR _ _ _ _ _ _ _ _ _ (Fr.keep (by assumption)) (News.fresh (by assumption) (.head _)) (News.get (by assumption) (.head _)) ⟨x0, y0, z0⟩ xf yf zf
end
end
-- 11_plc
section
section
variable {prog : Program} {w : World} {A : Around} {s : Shared} {K : Frag} {R : Result → Shared → Prop} {name qual : Str} {params : Arguments} {body : List Stmt} {scope : Scope} {dV kV doc pm cdv ct oc : Value} {an od : Option Addr} {osl : Array (Option Value)} {f : Addr} {args : Args} {binds : List (Str × Value)}
  {p : Program} {loose : List Str} {mean : ExcName → Option Value} {mg mb : Str → Option Value} {G : Heap}
-- what is known of the base g that hides news in h
structure Hides (G h g : Heap) (news : List (Addr × Obj)) : Prop where
  stays : Stays G g
  back : ∀ h', Stays g h' → (∀ p ∈ news, h'.get? p.1 = some p.2) → Stays h h'
  fresh : ∀ b, g.get? b = none → (∀ p ∈ news, p.1 ≠ b) → h.get? b = none
  backBut : ∀ h', Stays g h' → ∀ b o, h.get? b = some o → (∀ p ∈ news, p.1 ≠ b) → h'.get? b = some o
  size : g.objs.size = h.objs.size
  sees : ∀ b o, h.get? b = some o → (∀ p ∈ news, p.1 ≠ b) → g.get? b = some o
theorem hides_of {G h : Heap} {news : List (Addr × Obj)} (hG : Stays G h) (hn : ∀ p ∈ news, h.get? p.1 = some p.2 ∧ G.get? p.1 = none) : Hides G h (hideAll h (news.map (·.1))) news where
  stays := fun b o e => hideAll_get _ (hG b o e) fun q => by
    obtain ⟨p, hp, rfl⟩ := List.mem_map.mp q
    rw [(hn p hp).2] at e; cases e
  back := fun h' st all b o e => by
    by_cases q : b ∈ news.map (·.1)
    · obtain ⟨p, hp, rfl⟩ := List.mem_map.mp q
      rw [(hn p hp).1] at e; cases e
      exact all p hp
    · exact st b o (hideAll_get _ e q)
  fresh := fun b e ne => by
    cases q : h.get? b with
    | none => rfl
    | some o =>
      have := hideAll_get (news.map (·.1)) q (fun m => by obtain ⟨p, hp, e⟩ := List.mem_map.mp m; exact ne p hp e)
      rw [e] at this; cases this
  backBut := fun h' st b o e ne => st b o (hideAll_get _ e fun m => by obtain ⟨p, hp, e⟩ := List.mem_map.mp m; exact ne p hp e)
  size := hideAll_size _ _
  sees := fun b o e ne => hideAll_get _ e fun m => by obtain ⟨p, hp, e⟩ := List.mem_map.mp m; exact ne p hp e
theorem enterN (news : List (Addr × Obj)) (X : K.In G) (T : Top p loose mean mg mb G) (hG : Stays G s.heap) (hn : ∀ p ∈ news, s.heap.get? p.1 = some p.2 ∧ G.get? p.1 = none)
    (ho : K.lookup f = some ⟨oc, od, .func (fnOf name qual params body scope dV kV doc pm an cdv ct), osl⟩) (hcd : codeIn K cdv qual = true) (hroom : A.depth < recursionLimit)
    (hbind : BindsTo s (fnOf name qual params body scope dV kV doc pm an cdv ct) args binds) (hloc : ∀ y ∈ binds, scope.names.lookup y.1 = some .local)
    (h : ∀ g L h₁, Hides G s.heap g news → Fr g L h₁ (fun y => binds.reverse.lookup y) → News g L h₁ news → K.In g → Top p loose mean mg mb g → (∀ p ∈ news, p.1 < L) →
      wpAny (model prog w) (A.deeper (envX qual scope L f cdv [])) (execs body (envX qual scope L f cdv []))
        (fun fl s' => R (.ok (.ret (match fl with | .ret v => v | _ => .none))) s') (fun _ _ => False)
        { s with heap := h₁, toks := s.toks + binds.length })
    (hco : scope.isCoroutine = false) (hgen : scope.isGenerator = false) (hk : scope.kind = .function)
    (hcell : ∀ x ∈ scope.names, x.2 ≠ .cell) : codeAny (model prog w) A (.call (.ref f) args) R s := by
  have HD := hides_of hG hn
  have Xs : K.In s.heap := X.keeps hG
  refine codeAny_call_def (fd := fnOf name qual params body scope dV kV doc pm an cdv ct) (body := body) (binds := binds) hroom (Xs _ _ ho) rfl (T.keeps hG).nolimit (codeRec_of Xs hcd) rfl hbind hcell hloc (fun h₁ hns hk₁ => ?_) hco hgen hk
  exact wpAny_mono (h _ _ h₁ HD ⟨hns, fun b o e => hk₁ b o (of_hideAll _ e), Nat.le_of_eq (hideAll_size _ _)⟩
    (fun p hp => ⟨hk₁ _ _ (hn p hp).1, Nat.ne_of_lt (Heap.lt_size (hn p hp).1), hideAll_none _ (List.mem_map_of_mem hp)⟩) (X.keeps HD.stays) (T.keeps HD.stays) (fun p hp => Heap.lt_size (hn p hp).1)) (fun _ _ x => x) (fun _ _ x => x.elim)
end
noncomputable def loOf (falls : Bool) (C size : Int) : Int := if falls = true then (C + 2).fdiv 3 else (2 * C - 3 * size + 5).fdiv 6
noncomputable def hiOf (falls : Bool) (C size : Int) : Int := if falls = true then (2 * C + 3 * size).fdiv 6 + 1 else C.fdiv 3 + 1
noncomputable def oneOf (falls : Bool) (C size one : Int) : Int :=
  if one < 0 then (if falls = true then loOf falls C size else hiOf falls C size)
  else if one ≥ size then (if falls = true then hiOf falls C size else loOf falls C size)
  else if falls = true then (C + (one + size).fdiv 2).fdiv 3 + 1 else (C - (one + size).fdiv 2 + 2).fdiv 3
theorem ints_snoc {vs : List Value} {ds : List Int} (h : IntsAre vs ds) (i : Int) (t : Tok) : IntsAre (vs ++ [.int i t]) (ds ++ [i]) := by
  induction h with
  | nil => exact .cons i t .nil
  | cons j u _ ih => exact .cons j u ih
section
-- a turn of the loop of _law_places
theorem plc_turn {w : World} {A : Around} {s : Shared} {E : Value → Shared → Prop} {Q : Flow → Shared → Prop} {p : Program} {loose : List Str} {mean : ExcName → Option Value} {mg mb : Str → Option Value} {g : Heap} {L l : Addr} {cd : Value} {scope : Scope} {stmts : List Stmt} {m₁ : Str → Option Value} {rest : List (Addr × Obj)}
   {C size one lo hi : Int} {falls : Bool} {vs : List Value} {nl : Nat} {to t₃ t4 t₅ tC : Tok} (hN : loopOf (hd.heap_39 w.params) 109 4 = some (scope, stmts)) (X : (hd.heap_39 w.params).In g) (T : Top p loose mean mg mb g) (hlen : vs.length ≤ 4) (hlo : loOf falls C size = lo) (hhi : hiOf falls C size = hi)
   (F : Fr g L s.heap (fun y => if y = Str.ofString "one" then some (.int one to) else m₁ y)) (hm₁ : HasAll m₁ [(Str.ofString "falls", .bool falls), (Str.ofString "size", .int size t4), (Str.ofString "places", .ref l), (Str.ofString "lo", .int lo t₃), (Str.ofString "hi", .int hi t₅), (Str.ofString "corner", .int C tC)]) (N : News g L s.heap ((l, lst vs nl) :: rest)) (hne : ∀ p ∈ rest, p.1 ≠ l)
   (hQ : ∀ h' tk' m₂ t', Fr g L h' m₂ → News g L h' ((l, lst (vs ++ [.int (oneOf falls C size one) t']) (nl + 1)) :: rest) → (∀ y, y ≠ Str.ofString "one" → y ≠ Str.ofString "way" → m₂ y = m₁ y) → Q .next { s with heap := h', toks := tk' }) :
   wpAny (model PR w) A (execs stmts (envX (Str.ofString "_law_places") scope L 109 cd [])) Q E s := by
  have st1 : StopAt "eval IfExp" := .intro
  have st2 : StopAt "pyIter ref" := .intro
  have st3 : StopAt "exec For Name Name cons nil" := .intro
  have st4 : StopAt "call builtin:list.append" := .intro
  (have hfill : PySem.Challenge.rw_pe0221_01 = PySem.Challenge.rw_pe0221_01 ∧ hd.heap_39 = hd.heap_39 := (by k_fill; exact ⟨rfl, rfl⟩); clear hfill)
  rw [show loopOf (hd.heap_39 w.params) 109 4 = some _ from rfl] at hN
  cases hN
  have hm₂ : HasAll (fun y => if y = Str.ofString "one" then some (.int one to) else m₁ y) ((Str.ofString "one", .int one to) :: [(Str.ofString "falls", .bool falls), (Str.ofString "size", .int size t4), (Str.ofString "places", .ref l), (Str.ofString "lo", .int lo t₃), (Str.ofString "hi", .int hi t₅), (Str.ofString "corner", .int C tC)]) := ⟨rfl, hm₁.1, hm₁.2.1, hm₁.2.2.1, hm₁.2.2.2.1, hm₁.2.2.2.2.1, hm₁.2.2.2.2.2.1, trivial⟩
  have hsy := fun y (h : y ≠ Str.ofString "one") => (congrFun (seeM_eq hm₂) y).trans (if_neg h)
  have F₁ := frSee F hm₂
  have hsz : vs.toArray.size ≤ sizeLine := by rw [List.size_toArray, sizeLine_eq]; lia
  clear F hm₂ hm₁ hlen
  show wpAny _ _ _ _ _ _
  k_steps
  · rename_i h₁₀ F₁₀ N₁₀ c1
    refine Stop.go (wpAny_mono (Q := fun v s' => Stop (∃ tk t, v = .int (oneOf falls C size one) t ∧ s' = { s with heap := h₁₀, toks := tk })) ?_ ?_ (fun _ _ x => x))
    · refine PySem.wpAny_IfExp ?_
      unfold oneOf
      rw [if_pos c1, hlo, hhi]
      cases falls <;> (k_steps; exact Stop.go ⟨_, _, rfl, rfl⟩)
    rintro v s' ⟨tk₁₀, t₁₀, rfl, rfl⟩
    dsimp only
    k_steps
    refine Stop.go (append_K F₁₀ N₁₀ (.head hne) ?_ hsz)
    intro h₁₁ F₁₁ N₁₁
    rw [List.push_toArray] at N₁₁
    dsimp only
    k_steps
    exact hQ _ _ _ _ F₁₁ N₁₁ fun y y1 y2 => (if_neg y2).trans (hsy y y1)
  · rename_i h₁₀ F₁₀ N₁₀ c1 c2
    refine Stop.go (wpAny_mono (Q := fun v s' => Stop (∃ tk t, v = .int (oneOf falls C size one) t ∧ s' = { s with heap := h₁₀, toks := tk })) ?_ ?_ (fun _ _ x => x))
    · refine PySem.wpAny_IfExp ?_
      unfold oneOf
      rw [if_neg c1, if_pos (show one ≥ size from c2), hlo, hhi]
      cases falls <;> (k_steps; exact Stop.go ⟨_, _, rfl, rfl⟩)
    rintro v s' ⟨tk₁₀, t₁₀, rfl, rfl⟩
    dsimp only
    k_steps
    refine Stop.go (append_K F₁₀ N₁₀ (.head hne) ?_ hsz)
    intro h₁₁ F₁₁ N₁₁
    rw [List.push_toArray] at N₁₁
    dsimp only
    k_steps
    exact hQ _ _ _ _ F₁₁ N₁₁ fun y y1 y2 => (if_neg y2).trans (hsy y y1)
  · rename_i h₁₀ F₁₀ N₁₀ c1 c2 c3
    rw [show (C + (one + size).fdiv 2).fdiv 3 + 1 = oneOf falls C size one by unfold oneOf; rw [if_neg c1, if_neg (show ¬ one ≥ size from c2), if_pos c3]]
    refine Stop.go (append_K F₁₀ N₁₀ (.head hne) ?_ hsz)
    intro h₁₁ F₁₁ N₁₁
    rw [List.push_toArray] at N₁₁
    dsimp only
    k_steps
    exact hQ _ _ _ _ F₁₁ N₁₁ fun y y1 y2 => (if_neg y2).trans (hsy y y1)
  · rename_i h₁₀ F₁₀ N₁₀ c1 c2 c3
    rw [show (C - (one + size).fdiv 2 + 2).fdiv 3 = oneOf falls C size one by unfold oneOf; rw [if_neg c1, if_neg (show ¬ one ≥ size from c2), if_neg (by rw [c3]; decide)]]
    refine Stop.go (append_K F₁₀ N₁₀ (.head hne) ?_ hsz)
    intro h₁₁ F₁₁ N₁₁
    rw [List.push_toArray] at N₁₁
    dsimp only
    k_steps
    exact hQ _ _ _ _ F₁₁ N₁₁ fun y y1 y2 => (if_neg y2).trans (hsy y y1)
theorem plc_c {w : World} {A : Around} {s : Shared} {R : Result → Shared → Prop} {p : Program} {loose : List Str} {mean : ExcName → Option Value} {mg mb : Str → Option Value} {G : Heap}
   {m0 m1 c size : Int} {falls : Bool} {most : Addr} {n1 : Nat} {t1 t2 t3 t4 : Tok} (hs : 0 < size ∧ size ≤ 1024) (hc : 0 ≤ c ∧ c ≤ 2)
   (hm : s.heap.get? most = some (lst [.int m0 t1, .int m1 t2] n1)) (hmG : G.get? most = none)
   (X : (hd.heap_39 w.params).In G) (T : Top p loose mean mg mb G) (hG : Stays G s.heap) (hA : A.handled = none) (hroom : A.depth < recursionLimit)
   (hR : ∀ (h' : Heap) (tk : Tok) (q : Addr) (lo hi p0 p1 : Int) (ta tb tc td : Tok) (n : Nat), Stays s.heap h' → s.heap.get? q = none → h'.get? q = some (lst [.int lo ta, .int hi tb, .int p0 tc, .int p1 td] n) →
      lo = loOf falls ((c + 3) * size) size → hi = hiOf falls ((c + 3) * size) size → p0 = oneOf falls ((c + 3) * size) size m0 → p1 = oneOf falls ((c + 3) * size) size m1 → R (.ok (.ret (.ref q))) { s with heap := h', toks := tk}) :
   codeAny (model PR w) A (.call (.ref 109) ⟨[.ref most, .int c t3, .bool falls, .int size t4], []⟩) R s := by
  have st1 : StopAt "eval IfExp" := .intro
  have st2 : StopAt "pyIter ref" := .intro
  have st3 : StopAt "exec For Name Name cons nil" := .intro
  have st4 : StopAt "call builtin:list.append" := .intro
  obtain ⟨hh, dp, fr, gd, un⟩ := A
  replace hA : hh = none := hA
  subst hA
  (have hfill : PySem.Challenge.rw_pe0221_01 = PySem.Challenge.rw_pe0221_01 ∧ hd.heap_39 = hd.heap_39 := (by k_fill; exact ⟨rfl, rfl⟩); clear hfill)
  refine' enterN (binds := [(Str.ofString "most", .ref most), (Str.ofString "c", .int c t3), (Str.ofString "falls", .bool falls), (Str.ofString "size", .int size t4)]) [(most, lst [.int m0 t1, .int m1 t2] n1)] ?X ?T ?hG ?hn ?ho ?hcd ?hr ?hb ?hl ?_ ?c1 ?c2 ?c3 ?c4
  case hG => exact hG
  case hn => exact List.forall_mem_cons.mpr ⟨⟨hm, hmG⟩, List.forall_mem_nil _⟩
  (((case X => assumption); (case T => assumption); (case ho => k_is); (case hcd => k_is); (case hr => assumption)); (case hb => first | exact binds_K (by assumption) rfl (by k_is) rfl rfl rfl | exact BindsTo.of_eq rfl); ((case hl => exact locs rfl); (case c1 => rfl); (case c2 => rfl); (case c3 => rfl); (case c4 => decide)))
  intro g L h₁ HD F N X' T' l0
  k_lt l0
  ((show wpAny _ _ _ _ _ _); k_fold; k_steps)
  rename_i h₂ F₂ N₂
  refine Stop.go (wpAny_mono (Q := fun v s' => Stop (∃ tk t, v = .int (loOf falls ((c + 3) * size) size) t ∧ s' = { s with heap := h₂, toks := tk })) ?_ ?_ (fun _ _ x => x))
  · refine PySem.wpAny_IfExp ?_
    cases falls <;> (k_steps; exact Stop.go ⟨_, _, rfl, rfl⟩)
  rintro v s' ⟨tk₃, t₃, rfl, rfl⟩
  dsimp only
  generalize hlo : loOf falls ((c + 3) * size) size = lo
  k_steps
  rename_i h₄ F₄ N₄
  refine Stop.go (wpAny_mono (Q := fun v s' => Stop (∃ tk t, v = .int (hiOf falls ((c + 3) * size) size) t ∧ s' = { s with heap := h₄, toks := tk })) ?_ ?_ (fun _ _ x => x))
  · refine PySem.wpAny_IfExp ?_
    cases falls <;> (k_steps; exact Stop.go ⟨_, _, rfl, rfl⟩)
  rintro v s' ⟨tk₅, t₅, rfl, rfl⟩
  dsimp only
  generalize hhi : hiOf falls ((c + 3) * size) size = hi
  k_steps
  rename_i l h₆ l1 h₇ F₇ N₇
  refine Stop.go (For_inv3 g rfl rfl ?_)
  k_steps
  have hi2 : IntsAre [Value.int m0 t1, Value.int m1 t2] [m0, m1] := .cons _ _ (.cons _ _ .nil)
  have hl : @LT.lt Nat _ l h₇.objs.size := Heap.lt_size (N₇.get (.head _))
  refine Stop.go (iter_lst (a := most) (items := [.int m0 t1, .int m1 t2]) (nl := n1) (news := [(l, lst [.int lo t₃, .int hi t₅] 0), (most, lst [.int m0 t1, .int m1 t2] n1)])
    (fun i m₁ nw => ∃ us n' tC, nw = [(l, lst (.int lo t₃ :: .int hi t₅ :: us) n'), (most, lst [.int m0 t1, .int m1 t2] n1)] ∧ IntsAre us (([m0, m1].take i).map (oneOf falls ((c + 3) * size) size)) ∧ HasAll m₁ [(Str.ofString "falls", .bool falls), (Str.ofString "size", .int size t4), (Str.ofString "places", .ref l), (Str.ofString "lo", .int lo t₃), (Str.ofString "hi", .int hi t₅), (Str.ofString "corner", .int ((c + 3) * size) tC)])
    rfl F₇ (news_sub N₇ ?ns) ⟨[], 0, _, rfl, .nil, rfl, rfl, rfl, rfl, rfl, rfl, trivial⟩ ?step ?done)
  case ns =>
    intro q hq
    simp only [List.mem_cons, List.not_mem_nil, or_false] at hq
    rcases hq with rfl | rfl | rfl <;> k_mem
  case step =>
    rintro i v m₁ nw h₈ tk₈ own hi' ⟨us, n', tC, rfl, hus, hm₁⟩ hadr hadr' F₈ N₈
    obtain ⟨one, to, rfl, hone⟩ := hi2.at i v hi'
    have hne : ∀ p ∈ own, p.1 ≠ l := fun p hp => by
      rcases hadr' p hp with h | h
      · rw [h]; exact neN (Nat.ne_of_lt l1)
      · exact neN (Nat.ne_of_gt (Nat.lt_of_lt_of_le hl h))
    have hlen : us.length ≤ 2 := by rw [hus.length, List.length_map, List.length_take]; exact Nat.min_le_right i 2
    have N₉ : News g L h₈ ((l, lst (.int lo t₃ :: .int hi t₅ :: us) n') :: (most, lst [.int m0 t1, .int m1 t2] n1) :: own) := news_sub N₈ fun q hq => by
      rcases List.mem_cons.mp hq with rfl | hq
      · exact List.mem_append_right _ (.head _)
      · rcases List.mem_cons.mp hq with rfl | hq
        · exact List.mem_append_right _ (.tail _ (.head _))
        · exact List.mem_append_left _ hq
    refine plc_turn (vs := .int lo t₃ :: .int hi t₅ :: us) rfl X' T' (by simp only [List.length_cons]; lia) hlo hhi F₈ hm₁ N₉ (List.forall_mem_cons.mpr ⟨neN (Nat.ne_of_lt l1), hne⟩) fun h' tk' m₂ to' F' N' hm₂ => ?_
    refine ⟨rfl, h', tk', m₂, [(l, lst (.int lo t₃ :: .int hi t₅ :: (us ++ [.int (oneOf falls ((c + 3) * size) size one) to'])) (n' + 1)), (most, lst [.int m0 t1, .int m1 t2] n1)], rfl, F', news_sub N' (by ((try dsimp only [List.cons_append, List.nil_append]); (try (refine List.forall_mem_append.mpr ⟨?pa, ?_⟩; (case pa => (intro q hq; (repeat first | exact hq | exact List.mem_append_left _ hq | exact List.mem_append_right _ hq | refine List.mem_cons_of_mem _ ?_ | refine List.mem_append_right _ ?_); done)))); (repeat refine List.forall_mem_cons.mpr ⟨by first | k_mem | exact List.mem_append_right _ (by k_mem) | exact List.mem_append_left _ (by k_mem), ?_⟩); first | exact List.forall_mem_nil _ | (intro q hq; (repeat first | exact hq | exact List.mem_append_left _ hq | exact List.mem_append_right _ hq | refine List.mem_cons_of_mem _ ?_ | refine List.mem_append_right _ ?_); done) | (refine List.forall_mem_append.mpr ⟨?_, ?_⟩ <;> (intro q hq; (repeat first | exact hq | exact List.mem_append_left _ hq | exact List.mem_append_right _ hq | refine List.mem_cons_of_mem _ ?_ | refine List.mem_append_right _ ?_); done)))), rfl, _, _, tC, rfl, ?_, ?_⟩
    · rw [List.take_succ, List.map_append, hone]
      exact ints_snoc hus _ _
    · exact ⟨(hm₂ _ (by decide) (by decide)).trans hm₁.1, (hm₂ _ (by decide) (by decide)).trans hm₁.2.1, (hm₂ _ (by decide) (by decide)).trans hm₁.2.2.1, (hm₂ _ (by decide) (by decide)).trans hm₁.2.2.2.1, (hm₂ _ (by decide) (by decide)).trans hm₁.2.2.2.2.1, (hm₂ _ (by decide) (by decide)).trans hm₁.2.2.2.2.2.1, trivial⟩
  case done =>
    rintro h₉ tk₉ m₉ nw F₉ N₉ ⟨us, n', tC, rfl, hus, hm₁⟩
    have F₁₀ := frSee F₉ hm₁
    dsimp only
    k_steps
    cases hus with
    | cons a ta hus =>
      cases hus with
      | cons b tb hus =>
        cases hus
        exact hR _ _ l lo hi _ _ t₃ t₅ ta tb n' (HD.back _ F₉.keep (List.forall_mem_cons.mpr ⟨N₉.get (.tail _ (.head _)), List.forall_mem_nil _⟩)) (HD.fresh _ (N₉.fresh (.head _)) (List.forall_mem_cons.mpr ⟨neN (by ((try dsimp only); (repeat refine sne ?_); first | (first | exact up1 _ | exact up2 _ | exact up3 _ | exact up4 _ | exact up5 _ | exact up6 _) | (refine Ne.symm ?_; (first | exact up1 _ | exact up2 _ | exact up3 _ | exact up4 _ | exact up5 _ | exact up6 _)) | lia | omega)), List.forall_mem_nil _⟩)) (N₉.get (.head _)) hlo.symm hhi.symm rfl rfl
end
end
-- 12_d2
section
section
theorem d2_c {w : World} {A : Around} {s : Shared} {R : Result → Shared → Prop} {p : Program} {loose : List Str} {mean : ExcName → Option Value} {mg mb : Str → Option Value}
   {a b n : Int} {t1 t2 t3 : Tok} (ha : 0 ≤ a ∧ a < 2 ^ 60) (hb : 0 < b ∧ b < 2 ^ 20) (hn : 0 ≤ n)
   (X : (hd.heap_39 w.params).In s.heap) (T : Top p loose mean mg mb s.heap) (hA : A.handled = none) (hroom : A.depth < recursionLimit)
   (hR : ∀ (h' : Heap) (tk : Tok) (q : Addr) (t4 t5 : Tok), Stays s.heap h' → s.heap.get? q = none → h'.get? q = some (tup [.int (a / b) t4, .int (a % b) t5]) →
        R (.ok (.ret (.ref q))) { s with heap := h', toks := tk}) :
   codeAny (model PR w) A (.call (.ref 35) ⟨[.int a t1, .int b t2, .int n t3], []⟩) R s := by
  obtain ⟨hh, dp, fr, gd, un⟩ := A
  replace hA : hh = none := hA
  subst hA
  (have hfill : PySem.Challenge.rw_pe0221_01 = PySem.Challenge.rw_pe0221_01 ∧ hd.heap_39 = hd.heap_39 := (by k_fill; exact ⟨rfl, rfl⟩); clear hfill)
  have hbits : Builtin.Int.intBits a ≤ 64 := intBits_le_64 (by (first | assumption | decide | lia | omega)) (by (first | assumption | decide | lia | omega))
  refine' enter (binds := [(Str.ofString "a", .int a t1), (Str.ofString "b", .int b t2), (Str.ofString "n", .int n t3)]) ?X ?T ?ho ?hcd ?hr ?hb ?hl ?_ ?c1 ?c2 ?c3 ?c4
  (((case X => assumption); (case T => assumption); (case ho => k_is); (case hcd => k_is); (case hr => assumption)); (case hb => first | exact binds_K (by assumption) rfl (by k_is) rfl rfl rfl | exact BindsTo.of_eq rfl); ((case hl => exact locs rfl); (case c1 => rfl); (case c2 => rfl); (case c3 => rfl); (case c4 => decide)))
  intro L h₁ F N
  ((show wpAny _ _ _ _ _ _); k_fold; k_steps)
  rename_i F' N'
  rw [Int.fdiv_eq_ediv_of_nonneg _ (by (first | assumption | decide | lia | omega)), Int.fmod_eq_emod_of_nonneg _ (by (first | assumption | decide | lia | omega))] at N'
  exact hR _ _ _ _ _ (Fr.keep (by assumption)) (News.fresh N' (.head _)) (News.get N' (.head _))
end
end
-- 13_d2i
section
-- the value of digits, the lowest first
noncomputable def valL (n : Nat) : List Int → Int
  | [] => 0
  | d :: r => d + 2 ^ n * valL n r
theorem valL_append (n : Nat) : ∀ (a b : List Int), valL n (a ++ b) = valL n a + 2 ^ (n * a.length) * valL n b
  | [], b => by simp [valL]
  | d :: r, b => by
    have ih := valL_append n r b
    simp only [List.cons_append, valL, ih, List.length_cons, Nat.mul_succ, Int.pow_add]
    rw [Int.mul_add, Int.add_assoc]
    congr 2
    rw [← Int.mul_assoc, Int.mul_comm (2 ^ n)]
theorem valL_bound (n : Nat) : ∀ (l : List Int), (∀ d ∈ l, 0 ≤ d ∧ d < 2 ^ 20) → 0 ≤ valL n l ∧ valL n l < 2 ^ (20 + (n + 1) * l.length)
  | [], _ => by simp [valL]
  | d :: r, h => by
    obtain ⟨h1, h2⟩ := valL_bound n r fun x hx => h x (.tail _ hx)
    obtain ⟨h3, h4⟩ := h d (.head _)
    have p1 : (0 : Int) < 2 ^ n := Int.pow_pos (by decide)
    refine ⟨Int.add_nonneg h3 (Int.mul_nonneg (Int.le_of_lt p1) h1), ?_⟩
    show d + 2 ^ n * valL n r < _
    have h5 : (2 : Int) ^ n * valL n r ≤ 2 ^ n * 2 ^ (20 + (n + 1) * r.length) := Int.mul_le_mul_of_nonneg_left (Int.le_of_lt h2) (Int.le_of_lt p1)
    have e1 : (2 : Int) ^ n * 2 ^ (20 + (n + 1) * r.length) = 2 ^ (20 + (n + (n + 1) * r.length)) := by rw [← Int.pow_add]; congr 1; lia
    have e2 : (2 : Int) ^ (20 + (n + 1) * (d :: r).length) = 2 ^ (20 + (n + (n + 1) * r.length)) * 2 := by
      rw [List.length_cons, ← Int.pow_succ]; congr 1; rw [Nat.mul_succ]; lia
    have e3 : (2 : Int) ^ 20 ≤ 2 ^ (20 + (n + (n + 1) * r.length)) := by
      rw [Int.pow_add]
      have : (0 : Int) < 2 ^ (n + (n + 1) * r.length) := Int.pow_pos (by decide)
      have := Int.mul_le_mul_of_nonneg_left (show (1 : Int) ≤ 2 ^ (n + (n + 1) * r.length) by lia) (show (0 : Int) ≤ 2 ^ 20 by decide)
      lia
    rw [e2]
    rw [e1] at h5
    lia
-- the i-th statement of a def, a nested def
noncomputable def defParts (s : Stmt) : Option (Str × Arguments × List Stmt × Scope) := @PySem.Stmt.casesOn (fun _ => Option (Str × Arguments × List Stmt × Scope)) s (fun n p b _ _ _ sc _ _ _ => some (n, p, b, sc)) (fun _ _ _ _ _ _ _ _ _ _ => none) (fun _ _ _ _ _ _ _ _ _ _ _ => none) (fun _ _ => none) (fun _ _ => none) (fun _ _ _ => none) (fun _ _ _ _ _ _ _ => none) (fun _ _ _ _ => none) (fun _ _ _ _ _ => none) (fun _ _ _ _ _ => none) (fun _ _ _ _ _ => none) (fun _ _ _ _ => none) (fun _ _ _ _ => none) (fun _ _ _ => none) (fun _ _ _ => none) (fun _ _ _ => none) (fun _ _ _ => none) (fun _ _ _ _ _ => none) (fun _ _ _ _ _ => none) (fun _ _ _ => none) (fun _ _ => none) (fun _ _ _ _ => none) (fun _ _ => none) (fun _ _ => none) (fun _ _ => none) (fun _ => none) (fun _ => none) (fun _ => none)
noncomputable def nestedOf (K : Frag) (f : Addr) (i : Nat) : Option (Str × Arguments × List Stmt × Scope) := match fnAt K f with
  | some (_, b) => (match b[i]? with
    | some s => defParts s
    | none => none)
  | none => none
section
variable {prog : Program} {w : World} {A : Around} {s : Shared} {R : Result → Shared → Prop} {name qual : Str} {params : Arguments} {body : List Stmt} {scope : Scope} {dV kV doc pm cdv ct : Value} {an : Option Addr} {f : Addr} {args : Args} {binds : List (Str × Value)} {cl : List (Str × Addr)} {fo : Obj}
-- into a def that keeps names, the ledger news hidden in the base
theorem enterX {G : Heap} (news : List (Addr × Obj)) (hG : Stays G s.heap) (hn : ∀ p ∈ news, s.heap.get? p.1 = some p.2 ∧ G.get? p.1 = none) (hlim : s.heap.NoLimit) (hfo : s.heap.get? f = some fo) (hfd : fo.data = .func (fnX name qual params body scope cl dV kV doc pm an cdv ct)) (hcd : s.heap.CodeRec cdv qual) (hroom : A.depth < recursionLimit)
    (hbind : BindsTo s (fnX name qual params body scope cl dV kV doc pm an cdv ct) args binds) (hloc : ∀ y ∈ binds, scope.names.lookup y.1 = some .local)
    (h : ∀ g L h₁, Hides G s.heap g news → Fr g L h₁ (fun y => binds.reverse.lookup y) → News g L h₁ news → (∀ p ∈ news, p.1 < L) →
      wpAny (model prog w) (A.deeper (envX qual scope L f cdv cl)) (execs body (envX qual scope L f cdv cl))
        (fun fl s' => R (.ok (.ret (match fl with | .ret v => v | _ => .none))) s') (fun _ _ => False)
        { s with heap := h₁, toks := s.toks + binds.length })
    (hco : scope.isCoroutine = false) (hgen : scope.isGenerator = false) (hk : scope.kind = .function)
    (hcell : ∀ x ∈ scope.names, x.2 ≠ .cell) : codeAny (model prog w) A (.call (.ref f) args) R s := by
  have HD := hides_of hG hn
  refine codeAny_call_def (fd := fnX name qual params body scope cl dV kV doc pm an cdv ct) (body := body) (binds := binds) hroom hfo hfd hlim hcd rfl hbind hcell hloc (fun h₁ hns hk₁ => ?_) hco hgen hk
  exact wpAny_mono (h _ _ h₁ HD ⟨hns, fun b o e => hk₁ b o (of_hideAll _ e), Nat.le_of_eq (hideAll_size _ _)⟩
    (fun p hp => ⟨hk₁ _ _ (hn p hp).1, Nat.ne_of_lt (Heap.lt_size (hn p hp).1), hideAll_none _ (List.mem_map_of_mem hp)⟩) (fun p hp => Heap.lt_size (hn p hp).1)) (fun _ _ x => x) (fun _ _ x => x.elim)
end
theorem FnAt.keeps {q : Addr} {h h' : Heap} (x : FnAt q h) (k : Stays h h') : FnAt q h' := by
  obtain ⟨oc, od, fd, sl, e⟩ := x
  exact ⟨oc, od, fd, sl, k _ _ e⟩
-- a cell of the heap
noncomputable def CellAt (h : Heap) (c : Addr) (v : Value) : Prop := ∃ o, h.get? c = some o ∧ o.data = .cell (some v)
theorem CellAt.keeps {h h' : Heap} {c : Addr} {v : Value} (x : CellAt h c v) (k : Stays h h') : CellAt h' c v := by
  obtain ⟨o, e, d⟩ := x
  exact ⟨o, k _ _ e, d⟩
theorem codeRec_keeps {h h' : Heap} {cd : Value} {q : Str} (x : h.CodeRec cd q) (k : Stays h h') : h'.CodeRec cd q := by
  obtain ⟨c, oc, vs, tq, hc, hoc, r⟩ := x
  exact ⟨c, oc, vs, tq, hc, k _ _ hoc, r⟩
section
variable {M : Model} {A : Around} {E : Value → Shared → Prop} {s : Shared} {h₀ : Heap} {L a : Addr} {m : Str → Option Value} {cn : Str} {cs : Scope} {ccd : Value} {cl : List (Str × Addr)} {x : Str} {pos : Pos} {v : Value} {Q : Value → Shared → Prop} {c : Addr}
theorem nameX_FB (F : Fr h₀ L s.heap m) (hc : cl.lookup x = some c) (hv : CellAt h₀ c v) (h : Q v s)
    (hk : cs.kind = .function) (hx : (envX cn cs L a ccd cl).kindOf x = some .free) (hb : (x == ("__debug__" : Str)) = false) (hn : (x == ("__classdict__" : Str)) = false) :
    wpAny M A (eval (.Name x pos) (envX cn cs L a ccd cl)) Q E s := by
  obtain ⟨o, e, d⟩ := hv
  exact wpAny_Name (wpAny_loadName_free hk hx hc ⟨o, F.keep _ _ e, d⟩ h hn) hb
end
end
local macro_rules | `(tactic| walk_at "eval Name") => `(tactic| (k_dflt (refine nameX_FB (by k_asm) rfl (by assumption) ?_ rfl rfl (by decide) (by decide))))
local macro_rules | `(tactic| walk_at "callWith ref") => `(tactic| (k_dflt (refine' callWith_F (FnAt.keeps (by assumption) (Fr.keep (by assumption))) ?_)))
local macro_rules | `(tactic| walk_at "FnAt") => `(tactic| (k_dflt (exact FnAt.keeps (by assumption) (Fr.keep (by assumption)))))
section
section
theorem pow_mono {a b : Nat} (h : a ≤ b) : (2 : Int) ^ a ≤ 2 ^ b := by
  have : (2 : Nat) ^ a ≤ 2 ^ b := Nat.pow_le_pow_right (by decide) h
  exact_mod_cast this
theorem half {Lo Hi : Int} {k : Nat} (h : Hi = Lo + k) (h2 : 2 ≤ k) : ∃ a b : Nat, (Lo + Hi).fdiv (2 ^ Int.toNat 1) = Lo + a ∧ k = a + b ∧ 0 < a ∧ 0 < b := by
  refine ⟨k / 2, k - k / 2, ?_, by lia, by lia, by lia⟩
  rw [show (Lo + Hi).fdiv (2 ^ Int.toNat 1) = (Lo + Hi) / 2 from Int.fdiv_eq_ediv_of_nonneg _ (by decide), h]; lia
theorem shift_is (Lo : Int) (a n : Nat) : (Lo + (a : Int) - Lo) * (n : Int) = ((n * a : Nat) : Int) := by
  rw [Int.add_comm Lo, Int.add_sub_cancel, Nat.mul_comm n a, Int.natCast_mul]
theorem hi_split {Lo Hi : Int} {a b : Nat} (h : Hi = Lo + ((a + b : Nat) : Int)) : Hi = Lo + (a : Int) + (b : Int) := by rw [h, Int.natCast_add, Int.add_assoc]
theorem toNat_mul_nat (a : Int) (n : Nat) (h : 0 ≤ a) : (a * (n : Int)).toNat = a.toNat * n := by
  obtain ⟨k, rfl⟩ := Int.eq_ofNat_of_zero_le h
  rw [← Int.natCast_mul]; rfl
theorem valL_sub {n : Nat} {ds : List Int} (hn7 : n ≤ 7) (h40 : ds.length ≤ 40) (hds : ∀ d ∈ ds, 0 ≤ d ∧ d < 2 ^ 20) (i j : Nat) : Builtin.Int.intBits (valL n (List.take j (List.drop i ds))) ≤ 340 := by
  obtain ⟨h1, h2⟩ := valL_bound n (List.take j (List.drop i ds)) fun d hd => hds d (List.mem_of_mem_drop (List.mem_of_mem_take hd))
  refine intBits_le ?_
  have h3 : (List.take j (List.drop i ds)).length ≤ 40 := by rw [List.length_take, List.length_drop]; lia
  have h4 : (n + 1) * (List.take j (List.drop i ds)).length ≤ 8 * 40 := Nat.mul_le_mul (by (first | assumption | decide | lia | omega)) h3
  have h5 : (2 : Int) ^ (20 + (n + 1) * (List.take j (List.drop i ds)).length) ≤ 2 ^ 340 := pow_mono (by (first | assumption | decide | lia | omega))
  have h6 := Int.lt_of_lt_of_le h2 h5
  have h7 : ((valL n (List.take j (List.drop i ds))).natAbs : Int) < ((2 ^ 340 : Nat) : Int) := by rw [Int.natAbs_of_nonneg h1]; simpa using h6
  exact Int.ofNat_lt.mp h7
-- what inner of _digits2int finds in the heap
structure D2iAt (K : Frag) (p : Program) (loose : List Str) (mean : ExcName → Option Value) (mg mb : Str → Option Value) (f l cD cN cI : Addr) (n : Nat) (vs : List Value) (fo : Obj) (qual : Str) (cdv : Value) (t3 : Tok) (h : Heap) : Prop where
  X : K.In h
  T : Top p loose mean mg mb h
  fo : h.get? f = some fo
  fn : FnAt f h
  cd : h.CodeRec cdv qual
  cD : CellAt h cD (.ref l)
  cN : CellAt h cN (.int n t3)
  cI : CellAt h cI (.ref f)
  l : h.IsList l vs.toArray
theorem D2iAt.keeps {K : Frag} {p : Program} {loose : List Str} {mean : ExcName → Option Value} {mg mb : Str → Option Value} {f l cD cN cI : Addr} {n : Nat} {vs : List Value} {fo : Obj} {qual : Str} {cdv : Value} {t3 : Tok} {h h' : Heap}
    (x : D2iAt K p loose mean mg mb f l cD cN cI n vs fo qual cdv t3 h) (k : Stays h h') : D2iAt K p loose mean mg mb f l cD cN cI n vs fo qual cdv t3 h' :=
  ⟨x.X.keeps k, x.T.keeps k, k _ _ x.fo, FnAt.keeps x.fn k, codeRec_keeps x.cd k, x.cD.keeps k, x.cN.keeps k, x.cI.keeps k, IsList.keeps' x.l k⟩
theorem d2i_inner {w : World} {p : Program} {loose : List Str} {mean : ExcName → Option Value} {mg mb : Str → Option Value} {name : Str} {params : Arguments} {body : List Stmt} {scope : Scope} (hN : nestedOf (hd.heap_39 w.params) 56 0 = some (name, params, body, scope)) {f l cD cN cI : Addr} {n : Nat} {vs : List Value} {ds : List Int} {fo : Obj} {qual : Str} {doc pm cdv ct : Value} {t3 : Tok}
   (hn7 : n ≤ 7) (h40 : ds.length ≤ 40) (hds : ∀ d ∈ ds, 0 ≤ d ∧ d < 2 ^ 20) (hvs : IntsAre vs ds)
   (hfd : fo.data = .func (fnX name qual params body scope [(Str.ofString "n", cN), (Str.ofString "inner", cI), (Str.ofString "digits", cD)] .none .none doc pm none cdv ct)) :
   ∀ (k : Nat) {A : Around} {s : Shared} {R : Result → Shared → Prop} {Lo Hi : Int} {t1 t2 : Tok}, Hi = Lo + k → 0 < k → 0 ≤ Lo → Hi ≤ ds.length →
   D2iAt (hd.heap_39 w.params) p loose mean mg mb f l cD cN cI n vs fo qual cdv t3 s.heap →
   A.handled = none → A.depth + k < recursionLimit →
   (∀ (h' : Heap) (tk t : Tok), Stays s.heap h' → R (.ok (.ret (.int (valL n ((ds.drop Lo.toNat).take k)) t))) { s with heap := h', toks := tk}) →
   codeAny (model PR w) A (.call (.ref f) ⟨[.int Lo t1, .int Hi t2], []⟩) R s := by
  have st1 : StopAt "call ref" := .intro
  have st2 : StopAt "binaryOp LShift int int" := .intro
  rw [show nestedOf (hd.heap_39 w.params) 56 0 = some _ from rfl] at hN
  cases hN
  intro k
  induction k using Nat.strongRecOn with
  | _ k ih =>
  intro A s R Lo Hi t1 t2 hHi hk hLo hlen D hA hroom hR
  obtain ⟨hh, dp, fr, gd, un⟩ := A
  replace hA : hh = none := hA
  subst hA
  replace hroom : dp + k < recursionLimit := hroom
  (have hfill : PySem.Challenge.rw_pe0221_01 = PySem.Challenge.rw_pe0221_01 ∧ hd.heap_39 = hd.heap_39 := (by k_fill; exact ⟨rfl, rfl⟩); clear hfill)
  refine' enterX (G := s.heap) (binds := [(Str.ofString "L", .int Lo t1), (Str.ofString "R", .int Hi t2)]) [] (fun _ _ e => e) (List.forall_mem_nil _) D.T.nolimit D.fo hfd D.cd (by show dp < _; lia) (BindsTo.of_eq rfl) (locs rfl) ?_ rfl rfl rfl (by decide)
  intro g L h₁ HD F N l0
  have D' := D.keeps HD.stays
  obtain ⟨X, T, -, hfn, -, hcD, hcN, hcI, hl⟩ := id D'
  have hidih := PySem.Flt.Hid.mk ih
  have hidR := PySem.Flt.Hid.mk hR
  clear ih hR
  ((show wpAny _ _ _ _ _ _); k_fold; k_steps)
  · have hk1 : k = 1 := by lia
    subst hk1
    have hR := hidR.out
    have e : (ds.drop Lo.toNat).take 1 = [ds.getD Lo.toNat 0] := by
      rw [List.drop_eq_getElem_cons (show Lo.toNat < ds.length by lia), List.getD_eq_getElem?_getD, List.getElem?_eq_getElem (show Lo.toNat < ds.length by lia)]
      rfl
    rw [e] at hR
    simp only [valL, Int.mul_zero, Int.add_zero] at hR
    exact hR _ _ _ (fun b o e => Fr.keep (by assumption) b o (HD.stays b o e))
  · rename_i F₁ N₁
    obtain ⟨a, b, hM, rfl, ha, hb⟩ := half hHi (by (first | assumption | decide | lia | omega))
    generalize (Lo + Hi).fdiv (2 ^ Int.toNat 1) = M at *
    subst hM
    have hHb := hi_split hHi
    have hsa := shift_is Lo a n
    generalize (Lo + (a : Int) - Lo) * (n : Int) = S at *
    subst hsa
    have hna : n * a ≤ 7 * 40 := Nat.mul_le_mul hn7 (by (first | assumption | decide | lia | omega))
    refine Stop.go (wpAny_call (hidih.out b (Nat.lt_add_of_pos_left ha) hHb hb (by (first | assumption | decide | lia | omega)) hlen (D'.keeps F₁.keep) rfl (by show dp + 1 + _ < _; lia) ?_))
    intro h₂ tk₂ tv₂ st₂
    have F₂ := F₁.grownK st₂
    have N₂ : News g L h₂ [] := News.nil
    clear F₁ N₁
    dsimp only
    k_steps
    have hvb := valL_sub (n := n) hn7 h40 hds (Lo + (a : Int)).toNat b
    refine Stop.go (lshift_int (Int.natCast_nonneg _) (by (first | assumption | decide | lia | omega)) ?_)
    clear hvb
    dsimp only
    k_steps
    refine Stop.go (wpAny_call (hidih.out a (Nat.lt_add_of_pos_right hb) rfl ha hLo (by (first | assumption | decide | lia | omega)) (D'.keeps F₂.keep) rfl (by show dp + 1 + _ < _; lia) ?_))
    intro h₄ tk₄ tv₄ st₄
    have F₄ := F₂.grownK st₄
    have N₄ : News g L h₄ [] := News.nil
    clear F₂ N₂
    dsimp only
    k_steps
    have hR := hidR.out
    have e : valL n ((ds.drop Lo.toNat).take (a + b)) = valL n (List.take b (List.drop (Lo + (a : Int)).toNat ds)) * 2 ^ (((n * a : Nat) : Int)).toNat + valL n (List.take a (List.drop Lo.toNat ds)) := by
      rw [List.take_add, valL_append, List.drop_drop, show (Lo + (a : Int)).toNat = Lo.toNat + a by lia, List.length_take, List.length_drop, Nat.min_eq_left (by (first | assumption | decide | lia | omega)), Int.toNat_natCast, Int.mul_comm (2 ^ _), Int.add_comm]
    rw [e] at hR
    exact hR _ _ _ (fun b o e => Fr.keep (by assumption) b o (HD.stays b o e))
end
end
-- 14_nest
section
section
variable {prog : Program} {w : World} {A : Around} {s : Shared} {K : Frag} {R : Result → Shared → Prop} {name qual : Str} {params : Arguments} {body : List Stmt} {scope : Scope} {dV kV doc pm cdv ct oc : Value} {an od : Option Addr} {osl : Array (Option Value)} {f : Addr} {args : Args} {binds : List (Str × Value)}
  {p : Program} {loose : List Str} {mean : ExcName → Option Value} {mg mb : Str → Option Value} {G : Heap}
-- into a def of the top whose names are kept by nested defs; E is what stands for a raise that leaves it
theorem enterC (news : List (Addr × Obj)) (X : K.In G) (T : Top p loose mean mg mb G) (hG : Stays G s.heap) (hn : ∀ p ∈ news, s.heap.get? p.1 = some p.2 ∧ G.get? p.1 = none)
    (ho : K.lookup f = some ⟨oc, od, .func (fnOf name qual params body scope dV kV doc pm an cdv ct), osl⟩) (hcd : codeIn K cdv qual = true) (hroom : A.depth < recursionLimit)
    (hbind : BindsTo s (fnOf name qual params body scope dV kV doc pm an cdv ct) args binds) (hkind : (binds.all fun y => scope.names.lookup y.1 == some .local || scope.names.lookup y.1 == some .cell) = true)
    (hnd : ((cellsFrom 0 scope.names []).map (·.1)).Nodup)
    (h : ∀ g L h₁ tk cells, Hides G s.heap g news → Fr g L h₁ (bindL (envOfC qual scope L f cdv).kindOf binds fun _ => none) → News g L h₁ (cells ++ news) →
      CellsAre (bindC (envOfC qual scope L f cdv).kindOf binds fun _ => none) (cellsFrom (L + 1) scope.names []) cells → K.In g → Top p loose mean mg mb g → (∀ p ∈ news, p.1 < L) →
      wpAny (model prog w) (A.deeper (envOfC qual scope L f cdv)) (execs body (envOfC qual scope L f cdv))
        (fun fl s' => R (.ok (.ret (match fl with | .ret v => v | _ => .none))) s') (fun _ _ => False)
        { s with heap := h₁, toks := tk })
    (hco : scope.isCoroutine = false) (hgen : scope.isGenerator = false) (hk : scope.kind = .function) : codeAny (model prog w) A (.call (.ref f) args) R s := by
  have HD := hides_of hG hn
  have Xs : K.In s.heap := X.keeps hG
  refine codeAny_call_function hroom (Xs _ _ ho) rfl hco hgen rfl (codeRec_of Xs hcd) (hbind _ _ _ _ ?_)
  refine wpAny_newFunctionEnv_cells hk (kindsX hkind _) fun env' he s' x => ?_
  subst he
  refine ⟨((T.keeps hG).nolimit).keeps x.toInCall.keep, codeAny_func ?_⟩
  obtain ⟨h₁, tk, rfl, _⟩ := x.done
  have hk₁ := x.toInCall.keep
  obtain ⟨cells, NC, Y⟩ := Cl.news (h₀ := s.heap) (Nat.le_refl _) fun n c hm => ⟨x.cell n c (lookup_of_mem_nodup (cellsFrom_names scope.names 0 (s.heap.objs.size + 1) [] [] rfl ▸ hnd) hm), x.above n c hm⟩
  refine wpAny_mono (h _ s.heap.objs.size h₁ tk cells HD ⟨x.toInCall.ns, fun b o e => hk₁ b o (of_hideAll _ e), Nat.le_of_eq (hideAll_size _ _)⟩ (fun p hp => ?_) Y (X.keeps HD.stays) (T.keeps HD.stays) (fun p hp => Heap.lt_size (hn p hp).1)) (fun _ _ x => x) fun _ _ y => y.elim
  rcases List.mem_append.mp hp with hp | hp
  · refine ⟨(NC p hp).1, (NC p hp).2.1, ?_⟩
    cases q : (hideAll s.heap (news.map (·.1))).get? p.1 with
    | none => rfl
    | some o => have := of_hideAll _ q; rw [(NC p hp).2.2] at this; cases this
  · exact ⟨hk₁ _ _ (hn p hp).1, Nat.ne_of_lt (Heap.lt_size (hn p hp).1), hideAll_none _ (List.mem_map_of_mem hp)⟩
end
-- a code object
noncomputable def CodeObjOf (qual : Str) (o : Obj) : Prop := ∃ vs t, o.data = .fields vs ∧ vs[1]? = some (.str qual t)
theorem CodeObjOf.rec' {qual : Str} {o : Obj} {h : Heap} {c : Addr} (x : CodeObjOf qual o) (e : h.get? c = some o) : h.CodeRec (.ref c) qual := by
  obtain ⟨vs, t, d, v⟩ := x
  exact ⟨c, o, vs, t, rfl, e, d, v⟩
-- the code table P of a def, ahead of the first making (news: P alone) or behind it (P and the code object)
inductive TabNews (P : Addr) (line col : Nat) (qual : Str) : List (Addr × Obj) → Prop
  | fresh : TabNews P line col qual [(P, tabObj #[])]
  | hit {c : Addr} {o : Obj} : CodeObjOf qual o → c ≠ P → TabNews P line col qual [(P, tabObj #[rawInt line, rawInt col, .ref c]), (c, o)]
-- the table in the heap
noncomputable def TabIn (P : Addr) (line col : Nat) (qual : Str) (G h : Heap) : Prop := ∃ news, TabNews P line col qual news ∧ ∀ p ∈ news, h.get? p.1 = some p.2 ∧ G.get? p.1 = none
theorem tab_ne_seq {P : Addr} {line col : Nat} {qual : Str} {tn : List (Addr × Obj)} {h : Heap} {l : Addr} {o : Obj} {its : Array Value} {n : Nat} (ht : TabNews P line col qual tn) (htn : ∀ p ∈ tn, h.get? p.1 = some p.2) (hl : h.get? l = some o) (hd : o.data = .seq its n) : ∀ p ∈ tn, p.1 ≠ l := fun p hp e => by
  have h1 := htn p hp
  rw [e, hl] at h1
  cases h1
  cases ht with
  | fresh =>
    cases hp with
    | head => cases hd
    | tail _ h => cases h
  | hit hc _ =>
    cases hp with
    | head => cases hd
    | tail _ h =>
      cases h with
      | head => obtain ⟨vs, t, e, _⟩ := hc; rw [e] at hd; cases hd
      | tail _ h => cases h
theorem Hides.list {G h g : Heap} {P : Addr} {line col : Nat} {qual : Str} {tn : List (Addr × Obj)} {l : Addr} {its : Array Value} (HD : Hides G h g tn) (ht : TabNews P line col qual tn) (htn : ∀ p ∈ tn, h.get? p.1 = some p.2 ∧ G.get? p.1 = none) (hl : h.IsList l its) : g.IsList l its := by
  obtain ⟨o, e, hc, n, hd⟩ := hl
  exact ⟨o, HD.sees l o e (tab_ne_seq ht (fun p hp => (htn p hp).1) e hd), hc, n, hd⟩
section
variable {M : Model} {A : Around} {E : Value → Shared → Prop} {s : Shared} {h₀ : Heap} {L a c P : Addr} {m mg mb : Str → Option Value} {cn : Str} {cs : Scope} {ccd : Value} {cl : List (Str × Addr)} {news tn : List (Addr × Obj)}
  {p : Program} {loose : List Str} {mean : ExcName → Option Value} {name qual : Str} {params : Arguments} {scope : Scope} {pos : Pos} {firstLine : Nat} {clos : List (Str × Addr)}
theorem codeAmong_one (pos : Pos) (c : Addr) : codeAmong pos (#[rawInt pos.line, rawInt pos.col, .ref c] : Array Value).toList = some (.ref c) := by
  show (if ((pos.line : Int) == (pos.line : Int) && (pos.col : Int) == (pos.col : Int)) = true then some (Value.ref c) else codeAmong pos []) = _
  rw [if_pos (by simp)]
-- behind the call
theorem tab_back {P : Addr} {line col : Nat} {qual : Str} {tn : List (Addr × Obj)} {G h g h' : Heap} {c : Addr} {oc : Obj} (HD : Hides G h g tn) (htn : ∀ p ∈ tn, h.get? p.1 = some p.2 ∧ G.get? p.1 = none) (hPG : G.get? P = none) (st : Stays g h') (hP : h'.get? P = some (tabObj #[rawInt line, rawInt col, .ref c])) (hc : h'.get? c = some oc) (hgc : g.get? c = none) (hoc : CodeObjOf qual oc) (hne : c ≠ P) (htl : ∀ q ∈ tn, q.1 = P ∨ q = (c, oc)) :
    (∀ b o, h.get? b = some o → b ≠ P → h'.get? b = some o) ∧ TabIn P line col qual G h' := by
  refine ⟨fun b o e ne => ?_, _, .hit hoc hne, ?_⟩
  · by_cases hb : ∃ q ∈ tn, q.1 = b
    · obtain ⟨q, hq, rfl⟩ := hb
      rcases htl q hq with h1 | rfl
      · exact absurd h1 ne
      · have := (htn _ hq).1
        rw [e] at this; cases this
        exact hc
    · exact st b o (HD.sees b o e fun q hq h2 => hb ⟨q, hq, h2⟩)
  · refine List.forall_mem_cons.mpr ⟨⟨hP, hPG⟩, List.forall_mem_cons.mpr ⟨⟨hc, ?_⟩, List.forall_mem_nil _⟩⟩
    cases q : G.get? c with
    | none => rfl
    | some o => rw [HD.stays _ _ q] at hgc; cases hgc
theorem TabNews.mem {P : Addr} {line col : Nat} {qual : Str} {tn : List (Addr × Obj)} (ht : TabNews P line col qual tn) : ∃ o, (P, o) ∈ tn := by
  cases ht with
  | fresh => exact ⟨_, .head _⟩
  | hit => exact ⟨_, .head _⟩
-- a nested def made, for the first time or anew
theorem nestAny {body : List Stmt} {Q : Value → Shared → Prop} (F : Fr h₀ L s.heap m) (N : News h₀ L s.heap (news ++ tn)) (T : Top p loose mean mg mb h₀) (C : CodeHd h₀ c P) (hcd : ccd = .ref c) (ht : TabNews P pos.line pos.col qual tn) (hlt : ∀ q ∈ tn, q.1 < L) (hgt : ∀ q ∈ news, L < q.1) {q0 : Addr × Obj} (hq0 : q0 ∈ news)
    (hcl : closureFor scope (envX cn cs L a ccd cl) = pure clos)
    (h : ∀ f c' oc ctv doc h' tk, Fr h₀ L h' m → CodeObjOf qual oc → c' ≠ P → (c' < L ∨ ∀ q ∈ news, q.1 < c') → c' < f → (∀ q ∈ news, q.1 < f) → L < f → (∀ q ∈ tn, q.1 = P ∨ q = (c', oc)) →
      News h₀ L h' ((f, fnMade name qual params body scope clos doc ((mg "__name__").getD .none) c' ctv) :: (news ++ [(P, tabObj #[rawInt pos.line, rawInt pos.col, .ref c']), (c', oc)])) → Q (.ref f) { s with heap := h', toks := tk }) :
    wpAny M A (makeFunction name qual params (.stmts body) scope (envX cn cs L a ccd cl) [] [] [] pos firstLine) Q E s := by
  cases ht with
  | fresh =>
    have hP : P < L := hlt (P, tabObj #[]) (.head _)
    have U : UpdF P (tabObj #[]) (((P, tabObj #[]) :: news)) (fun o' => (P, o') :: news) := .head fun q hq => Nat.ne_of_gt (Nat.lt_trans hP (hgt q hq))
    refine nest_K F (news_sub N (fun q hq => ?_)) T C hcd U trivial rfl hcl fun f c' oc vs t ctv doc h' tk F' N' d1 d2 l1 l2 => ?_
    · rcases List.mem_cons.mp hq with rfl | hq
      · exact List.mem_append_right _ (.head _)
      · exact List.mem_append_left _ hq
    · have hLc : L < c' := Nat.lt_trans (hgt _ hq0) (l1 _ (.tail _ hq0))
      refine h f c' oc ctv doc h' tk F' ⟨vs, t, d1, d2⟩ (Nat.ne_of_gt (l1 _ (.head _))) (.inr fun q hq => l1 q (.tail _ hq)) l2 (fun q hq => Nat.lt_trans (l1 q (.tail _ hq)) l2) (Nat.lt_trans hLc l2) (fun q hq => by cases hq with | head => exact .inl rfl | tail _ h => cases h) (news_sub N' fun q hq => ?_)
      rcases List.mem_cons.mp hq with rfl | hq
      · exact .head _
      · rcases List.mem_append.mp hq with hq | hq
        · exact .tail _ (.tail _ (.tail _ hq))
        · rcases List.mem_cons.mp hq with rfl | hq
          · exact .tail _ (.tail _ (.head _))
          · rcases List.mem_cons.mp hq with rfl | hq
            · exact .tail _ (.head _)
            · cases hq
  | @hit c' oc ho hne =>
    refine nestHit_K F N T C hcd (List.mem_append_right _ (.head _)) trivial (codeAmong_one pos c') hcl fun f ctv doc h' tk F' N' l1 => ?_
    have hcL : c' < L := hlt (c', oc) (.tail _ (.head _))
    have hfL : L < f := Nat.lt_trans (hgt _ hq0) (l1 _ (List.mem_append_left _ hq0))
    exact h f c' oc ctv doc h' tk F' ho hne (.inl hcL) (Nat.lt_trans hcL hfL) (fun q hq => l1 q (List.mem_append_left _ hq)) hfL (fun q hq => by cases hq with | head => exact .inl rfl | tail _ h => cases h with | head => exact .inr rfl | tail _ h => cases h) N'
end
end
-- 15_d2ic
section
section
theorem d2i_c {w : World} {A : Around} {s : Shared} {R : Result → Shared → Prop} {p : Program} {loose : List Str} {mean : ExcName → Option Value} {mg mb : Str → Option Value} {G : Heap}
   {l : Addr} {n : Nat} {vs : List Value} {ds : List Int} {t1 : Tok} (hn7 : n ≤ 7) (h40 : ds.length ≤ 40) (hds : ∀ d ∈ ds, 0 ≤ d ∧ d < 2 ^ 20) (hvs : IntsAre vs ds)
   (hl : s.heap.IsList l vs.toArray)
   (X : (hd.heap_39 w.params).In G) (T : Top p loose mean mg mb G) (C : CodeHd G 55 51) (hG : Stays G s.heap) (hT : TabIn 51 88 4 (Str.ofString "_digits2int.<locals>.inner") G s.heap)
   (hA : A.handled = none) (hroom : A.depth + 50 < recursionLimit)
   (hR : ∀ (h' : Heap) (tk t : Tok), (∀ b o, s.heap.get? b = some o → b ≠ 51 → h'.get? b = some o) → TabIn 51 88 4 (Str.ofString "_digits2int.<locals>.inner") G h' → R (.ok (.ret (.int (valL n ds) t))) { s with heap := h', toks := tk}) :
   codeAny (model PR w) A (.call (.ref 56) ⟨[.ref l, .int n t1], []⟩) R s := by
  have st1 : StopAt "exec FunctionDef" := .intro
  obtain ⟨hh, dp, fr, gd, un⟩ := A
  replace hA : hh = none := hA
  subst hA
  replace hroom : dp + 50 < recursionLimit := hroom
  obtain ⟨tn, ht, htn⟩ := hT
  have hPG : G.get? 51 = none := by
    obtain ⟨o, hm⟩ := ht.mem
    exact (htn _ hm).2
  (have hfill : PySem.Challenge.rw_pe0221_01 = PySem.Challenge.rw_pe0221_01 ∧ hd.heap_39 = hd.heap_39 := (by k_fill; exact ⟨rfl, rfl⟩); clear hfill)
  refine' enterC (binds := [(Str.ofString "digits", .ref l), (Str.ofString "n", .int n t1)]) tn X T hG htn ?ho ?hcd ?hr ?hb ?hkd ?hnd ?_ ?c1 ?c2 ?c3
  case ho => k_is
  case hcd => k_is
  case hr => show dp < _; lia
  case hb => exact BindsTo.of_eq rfl
  case hkd => exact rfl
  case hnd => decide +kernel
  case c1 => rfl
  case c2 => rfl
  case c3 => rfl
  intro g L h₁ tk cells HD F N Y X' T' l0
  obtain ⟨oI, oN, oD, rfl, dI, dN, dD⟩ := CellsAre.three Y
  clear Y
  replace dI : oI.data = .cell none := dI
  replace dN : oN.data = .cell (some (.int n t1)) := dN
  replace dD : oD.data = .cell (some (.ref l)) := dD
  ((show wpAny _ _ _ _ _ _); k_fold; k_steps)
  refine Stop.go ?_
  refine nestDef_K rfl rfl rfl ?_
  refine nestAny (cn := Str.ofString "_digits2int") (P := 51) F N T' (CodeHd.keeps C HD.stays) rfl ht l0 ?hgt (.head _) rfl ?_
  case hgt => exact List.forall_mem_cons.mpr ⟨ltN (by show @LT.lt Nat _ L _; lia), List.forall_mem_cons.mpr ⟨ltN (by show @LT.lt Nat _ L _; lia), List.forall_mem_cons.mpr ⟨ltN (by show @LT.lt Nat _ L _; lia), List.forall_mem_nil _⟩⟩⟩
  intro f c' oc ctv doc h₂ tk₂ F₂ hoc hcP hc3 hcf hnf hLf htl N₂
  simp only [List.cons_append, List.nil_append] at N₂
  have h51 : @LT.lt Nat _ 51 L := by
    cases ht with
    | fresh => exact l0 _ (.head _)
    | hit => exact l0 _ (.head _)
  replace hLf : @LT.lt Nat _ L f := hLf
  replace hcf : @LT.lt Nat _ c' f := hcf
  replace hcP : (c' : Nat) ≠ 51 := hcP
  have hf3 : @LT.lt Nat _ (L + 1 + 1 + 1) f := hnf _ (.head _)
  have hc3 : @LT.lt Nat _ c' L ∨ @LT.lt Nat _ (L + 1 + 1 + 1) c' := hc3.imp id fun q => q _ (.head _)
  clear N F
  k_steps
  have hlg := HD.list ht htn hl
  have hlen := hvs.length
  refine wpAny_truthy_list (IsList.keeps' hlg (Fr.keep (by assumption))) (by simp; lia) ?_
  by_cases h0 : ds = []
  · subst h0
    cases hvs
    dsimp only
    k_steps
    rename_i F₃ N₃ _
    obtain ⟨b1, b2⟩ := tab_back HD htn hPG F₃.keep (N₃.get (by k_mem)) (N₃.get (by k_mem)) (N₃.fresh (by k_mem)) hoc hcP htl
    exact hR _ _ _ b1 b2
  · have he : (!vs.toArray.isEmpty) = true := by
      cases hvs with
      | nil => exact absurd rfl h0
      | cons => rfl
    rw [he]
    dsimp only
    k_steps
    rename_i o₃ F₃ N₃ d₃
    have D : D2iAt (hd.heap_39 w.params) p loose mean mg mb f l (L + 1) (L + 1 + 1) (L + 1 + 1 + 1) n vs _ _ (.ref c') t1 _ := ⟨X'.keeps F₃.keep, T'.keeps F₃.keep, N₃.get (by k_mem), FnAt.of N₃ (by k_mem), hoc.rec' (N₃.get (by k_mem)), ⟨_, N₃.get (by k_mem), dD⟩, ⟨_, N₃.get (by k_mem), dN⟩, ⟨_, N₃.get (by k_mem), d₃⟩, IsList.keeps' hlg F₃.keep⟩
    have hpos : 0 < ds.length := List.length_pos_iff.mpr h0
    refine wpAny_call (d2i_inner rfl hn7 h40 hds hvs rfl ds.length (by (first | assumption | decide | lia | omega)) hpos (Int.le_refl _) (Int.le_refl _) D rfl (by show dp + 1 + _ < _; lia) ?_)
    intro h₄ tk₄ t₄ st₄
    have F₄ := F₃.grownK st₄
    have N₄ := N₃.grown st₄
    clear F₃ N₃ D
    dsimp only
    k_steps
    obtain ⟨b1, b2⟩ := tab_back HD htn hPG F₄.keep (N₄.get (by k_mem)) (N₄.get (by k_mem)) (N₄.fresh (by k_mem)) hoc hcP htl
    have := hR h₄ tk₄ t₄ b1 b2
    simpa using this
end
end
-- 16_i2d
section
theorem and_high (a k : Nat) : a &&& (a / 2 ^ k * 2 ^ k) = a / 2 ^ k * 2 ^ k := by
  apply Nat.eq_of_testBit_eq
  intro i
  rw [Nat.testBit_and, Nat.testBit_mul_two_pow, Nat.testBit_div_two_pow]
  by_cases h : k ≤ i
  · simp [h]
  · simp [h]
theorem xor_high {x : Int} (hx : 0 ≤ x) (k : Nat) : Builtin.bitXor x (x.fdiv (2 ^ k) * 2 ^ k) = x % 2 ^ k := by
  rw [bitXor_and]
  have hp : (0 : Int) < 2 ^ k := Int.pow_pos (by decide)
  rw [Int.fdiv_eq_ediv_of_nonneg _ (Int.le_of_lt hp)]
  have h1 : Builtin.bitAnd x (x / 2 ^ k * 2 ^ k) = x / 2 ^ k * 2 ^ k := by
    obtain ⟨a, rfl⟩ := Int.eq_ofNat_of_zero_le hx
    have e : ((a : Int) / 2 ^ k * 2 ^ k) = ((a / 2 ^ k * 2 ^ k : Nat) : Int) := by push_cast; rfl
    rw [e]
    unfold Builtin.bitAnd
    rw [decide_eq_true (show (0 : Int) ≤ (a : Int) by lia), decide_eq_true (show (0 : Int) ≤ ((a / 2 ^ k * 2 ^ k : Nat) : Int) by lia)]
    show (((a &&& (a / 2 ^ k * 2 ^ k) : Nat)) : Int) = _
    rw [and_high]
  rw [h1]
  have h2 := Int.emod_add_mul_ediv x (2 ^ k)
  rw [Int.mul_comm] at h2
  lia
theorem high_low {x : Int} (h0 : 0 ≤ x) (h1 : x < 2 ^ 20) (k : Nat) : 0 ≤ x.fdiv (2 ^ k) ∧ x.fdiv (2 ^ k) < 2 ^ 20 ∧ 0 ≤ x % 2 ^ k ∧ x % 2 ^ k < 2 ^ 20 ∧ x % 2 ^ k + 2 ^ k * x.fdiv (2 ^ k) = x := by
  have hp : (0 : Int) < 2 ^ k := Int.pow_pos (by decide)
  rw [Int.fdiv_eq_ediv_of_nonneg _ (Int.le_of_lt hp)]
  have e := Int.emod_add_mul_ediv x (2 ^ k)
  have e1 := Int.emod_nonneg x (Int.ne_of_gt hp)
  have e2 := Int.ediv_nonneg h0 (Int.le_of_lt hp)
  have e3 : x / 2 ^ k ≤ 2 ^ k * (x / 2 ^ k) := by
    have := Int.mul_le_mul_of_nonneg_right (show (1 : Int) ≤ 2 ^ k by lia) e2
    lia
  refine ⟨e2, by lia, e1, ?_, e⟩
  have := Int.mul_nonneg (Int.le_of_lt hp) e2
  lia
theorem frBut {g h h' : Heap} {L l : Addr} {m : Str → Option Value} {o : Obj} {news : List (Addr × Obj)} (F : Fr g L h m) (N : News g L h ((l, o) :: news)) (but : ∀ b o, h.get? b = some o → b ≠ l → h'.get? b = some o) : Fr g L h' m := by
  have hm := N (l, o) (.head _)
  obtain ⟨oL, es, ep, hL, r⟩ := F.ns
  exact ⟨⟨oL, es, ep, but _ _ hL (Ne.symm hm.2.1), r⟩, fun b o' e => but _ _ (F.keep b o' e) (fun q => by rw [q, hm.2.2] at e; cases e), F.above⟩
theorem newsBut {g h h' : Heap} {L l : Addr} {o o' : Obj} (N : News g L h [(l, o)]) (e : h'.get? l = some o') : News g L h' [(l, o')] := fun p hp => by
  have hm := N (l, o) (.head _)
  cases hp with
  | head => exact ⟨e, hm.2⟩
  | tail _ h => cases h
-- what inner of _int2digits finds in the heap
structure I2dAt (K : Frag) (p : Program) (loose : List Str) (mean : ExcName → Option Value) (mg mb : Str → Option Value) (f l cD cN cI : Addr) (n : Nat) (fo : Obj) (qual : Str) (cdv : Value) (t3 : Tok) (h : Heap) : Prop where
  X : K.In h
  T : Top p loose mean mg mb h
  fo : h.get? f = some fo
  fn : FnAt f h
  cd : h.CodeRec cdv qual
  cD : CellAt h cD (.ref l)
  cN : CellAt h cN (.int n t3)
  cI : CellAt h cI (.ref f)
theorem I2dAt.keeps {K : Frag} {p : Program} {loose : List Str} {mean : ExcName → Option Value} {mg mb : Str → Option Value} {f l cD cN cI : Addr} {n : Nat} {fo : Obj} {qual : Str} {cdv : Value} {t3 : Tok} {h h' : Heap}
    (x : I2dAt K p loose mean mg mb f l cD cN cI n fo qual cdv t3 h) (k : Stays h h') : I2dAt K p loose mean mg mb f l cD cN cI n fo qual cdv t3 h' :=
  ⟨x.X.keeps k, x.T.keeps k, k _ _ x.fo, FnAt.keeps x.fn k, codeRec_keeps x.cd k, x.cD.keeps k, x.cN.keeps k, x.cI.keeps k⟩
section
theorem i2d_inner {w : World} {p : Program} {loose : List Str} {mean : ExcName → Option Value} {mg mb : Str → Option Value} {name : Str} {params : Arguments} {body : List Stmt} {scope : Scope} (hN : nestedOf (hd.heap_39 w.params) 49 1 = some (name, params, body, scope)) {f l cD cN cI : Addr} {n nl : Nat} {fo : Obj} {qual : Str} {doc pm cdv ct : Value} {t3 : Tok}
   (hn7 : n ≤ 7)
   (hfd : fo.data = .func (fnX name qual params body scope [(Str.ofString "n", cN), (Str.ofString "inner", cI), (Str.ofString "a_digits", cD)] .none .none doc pm none cdv ct)) :
   ∀ (k : Nat) {A : Around} {s : Shared} {R : Result → Shared → Prop} {G : Heap} {x Lo Hi : Int} {t0 t1 t2 : Tok} {vs : List Value} {pre old post : List Int}, old.length = k → 0 < k → Lo = pre.length → Hi = Lo + k → IntsAre vs (pre ++ old ++ post) → vs.length ≤ 40 → 0 ≤ x → x < 2 ^ 20 →
   I2dAt (hd.heap_39 w.params) p loose mean mg mb f l cD cN cI n fo qual cdv t3 G → Stays G s.heap → G.get? l = none → s.heap.get? l = some (lst vs nl) →
   A.handled = none → A.depth + k < recursionLimit →
   (∀ (h' : Heap) (tk : Tok) (vs' : List Value) (mid : List Int), (∀ b o, s.heap.get? b = some o → b ≠ l → h'.get? b = some o) → h'.get? l = some (lst vs' nl) → IntsAre vs' (pre ++ mid ++ post) → mid.length = k → valL n mid = x → (∀ d ∈ mid, 0 ≤ d ∧ d < 2 ^ 20) →
     R (.ok (.ret .none)) { s with heap := h', toks := tk}) →
   codeAny (model PR w) A (.call (.ref f) ⟨[.int x t0, .int Lo t1, .int Hi t2], []⟩) R s := by
  have st1 : StopAt "call ref" := .intro
  have st2 : StopAt "binaryOp LShift int int" := .intro
  have st3 : StopAt "binaryOp RShift int int" := .intro
  have st4 : StopAt "binaryOp BitXor int int" := .intro
  rw [show nestedOf (hd.heap_39 w.params) 49 1 = some _ from rfl] at hN
  cases hN
  intro k
  induction k using Nat.strongRecOn with
  | _ k ih =>
  intro A s R G x Lo Hi t0 t1 t2 vs pre old post hold hk hLo hHi hvs h40 hx0 hx1 D hG hGl hsl hA hroom hR
  obtain ⟨hh, dp, fr, gd, un⟩ := A
  replace hA : hh = none := hA
  subst hA
  replace hroom : dp + k < recursionLimit := hroom
  have Ds := D.keeps hG
  (have hfill : PySem.Challenge.rw_pe0221_01 = PySem.Challenge.rw_pe0221_01 ∧ hd.heap_39 = hd.heap_39 := (by k_fill; exact ⟨rfl, rfl⟩); clear hfill)
  refine' enterX (G := G) (binds := [(Str.ofString "x", .int x t0), (Str.ofString "L", .int Lo t1), (Str.ofString "R", .int Hi t2)]) [(l, lst vs nl)] hG (List.forall_mem_cons.mpr ⟨⟨hsl, hGl⟩, List.forall_mem_nil _⟩) Ds.T.nolimit Ds.fo hfd Ds.cd (by show dp < _; lia) (BindsTo.of_eq rfl) (locs rfl) ?_ rfl rfl rfl (by decide)
  intro g L h₁ HD F N l0
  have D' := D.keeps HD.stays
  obtain ⟨X, T, -, hfn, -, hcD, hcN, hcI⟩ := id D'
  have hidih := PySem.Flt.Hid.mk ih
  have hidR := PySem.Flt.Hid.mk hR
  clear ih hR Ds
  have hlen := hvs.length
  rw [List.length_append, List.length_append] at hlen
  ((show wpAny _ _ _ _ _ _); k_fold; k_steps)
  · rename_i F₁ N₁ hi₁ hl₁ hs₁
    have hk1 : k = 1 := by lia
    subst hk1
    obtain ⟨d, rfl⟩ := List.length_eq_one_iff.mp hold
    have e : (pre ++ [d] ++ post).set Lo.toNat x = pre ++ [x] ++ post := by
      rw [hLo, List.append_assoc, List.append_assoc]; simp
    rw [e] at hi₁
    exact hidR.out _ _ _ [x] (fun b o e ne => HD.backBut _ F₁.keep b o e (List.forall_mem_cons.mpr ⟨fun q => ne q.symm, List.forall_mem_nil _⟩)) (N₁.get (.head _)) hi₁ rfl (by simp [valL]) (List.forall_mem_cons.mpr ⟨⟨hx0, hx1⟩, List.forall_mem_nil _⟩)
  · obtain ⟨a, b, hM, rfl, ha, hb⟩ := half hHi (by (first | assumption | decide | lia | omega))
    refine Stop.go (rshift_int (by decide) ?_)
    generalize (Lo + Hi).fdiv (2 ^ Int.toNat 1) = M at hM ⊢
    subst hM
    have hHb := hi_split hHi
    have hna : n * a ≤ 40 * 7 := by rw [Nat.mul_comm]; exact Nat.mul_le_mul (by (first | assumption | decide | lia | omega)) hn7
    dsimp only
    k_steps
    have hsa := shift_is Lo a n
    generalize (Lo + (a : Int) - Lo) * (n : Int) = S at *
    subst hsa
    refine Stop.go (rshift_int (Int.natCast_nonneg _) ?_)
    obtain ⟨u0, u1, u2, u3, u4⟩ := high_low hx0 hx1 ((n * a : Nat) : Int).toNat
    have hidu := PySem.Flt.Hid.mk u4
    clear u4
    dsimp only
    k_steps
    refine Stop.go (lshift_int (Int.natCast_nonneg _) (by have := intBits_le_64 (k := x.fdiv (2 ^ ((n * a : Nat) : Int).toNat)) (by (first | assumption | decide | lia | omega)) (by (first | assumption | decide | lia | omega)); lia) ?_)
    dsimp only
    k_steps
    refine Stop.go (xor_int ?_)
    rw [xor_high hx0]
    dsimp only
    k_steps
    rename_i F₁ N₁
    have hvs1 : IntsAre vs (pre ++ old.take a ++ (old.drop a ++ post)) := by
      rw [← List.append_assoc, List.append_assoc pre, List.take_append_drop]; exact hvs
    refine Stop.go (wpAny_call (hidih.out a (Nat.lt_add_of_pos_right hb) (G := g) (by rw [List.length_take, hold, Nat.min_eq_left (Nat.le_add_right a b)]) ha hLo rfl hvs1 h40 u2 u3 D' F₁.keep (N₁.fresh (.head _)) (N₁.get (.head _)) rfl (by show dp + 1 + _ < _; lia) ?_))
    intro h₂ tk₂ vs₂ mid₂ but₂ hl₂ hv₂ hm₂ hval₂ hd₂
    have F₂ := frBut F₁ N₁ but₂
    have N₂ := newsBut N₁ hl₂
    have hlen₂ : vs₂.length = vs.length := by
      rw [hv₂.length, hvs1.length]; simp only [List.length_append, hm₂, List.length_take, hold, Nat.min_eq_left (Nat.le_add_right a b)]
    clear F₁ N₁ hvs1
    dsimp only
    k_steps
    have hv₃ : IntsAre vs₂ (pre ++ mid₂ ++ old.drop a ++ post) := by rw [List.append_assoc (pre ++ mid₂)]; exact hv₂
    refine Stop.go (wpAny_call (hidih.out b (Nat.lt_add_of_pos_left ha) (G := g) (by rw [List.length_drop, hold, Nat.add_sub_cancel_left]) hb (by rw [List.length_append, hm₂, hLo, Int.natCast_add]) hHb hv₃ (by rw [hlen₂]; exact h40) u0 u1 D' F₂.keep (N₂.fresh (.head _)) (N₂.get (.head _)) rfl (by show dp + 1 + _ < _; lia) ?_))
    intro h₄ tk₄ vs₄ mid₄ but₄ hl₄ hv₄ hm₄ hval₄ hd₄
    have F₄ := frBut F₂ N₂ but₄
    have N₄ := newsBut N₂ hl₄
    clear F₂ N₂ hv₃
    dsimp only
    k_steps
    refine hidR.out _ _ _ (mid₂ ++ mid₄) (fun b o e ne => HD.backBut _ F₄.keep b o e (List.forall_mem_cons.mpr ⟨fun q => ne q.symm, List.forall_mem_nil _⟩)) (N₄.get (.head _)) ?_ ?_ ?_ ?_
    · rw [← List.append_assoc pre]; exact hv₄
    · rw [List.length_append, hm₂, hm₄]
    · rw [valL_append, hval₂, hval₄, hm₂]; exact hidu.out
    · intro d hd
      rcases List.mem_append.mp hd with h | h
      · exact hd₂ d h
      · exact hd₄ d h
end
end
-- 17_i2dc
section
theorem Int.ediv_pos_of_le {a b : Int} (h : 0 < b) (hb : b ≤ a) : 0 < a / b := Int.lt_of_lt_of_le (by decide : (0 : Int) < 1) ((Int.le_ediv_iff_mul_le h).mpr (by (first | assumption | decide | lia | omega)))
theorem valL_rep (n m : Nat) : valL n (List.replicate m 0) = 0 := by
  induction m with
  | zero => rfl
  | succ m ih => rw [List.replicate_succ, valL, ih]; simp
theorem frButM {g h h' : Heap} {L l : Addr} {m : Str → Option Value} {o : Obj} {news : List (Addr × Obj)} (F : Fr g L h m) (N : News g L h news) (hm : (l, o) ∈ news) (but : ∀ b o, h.get? b = some o → b ≠ l → h'.get? b = some o) : Fr g L h' m :=
  frBut (news := []) F (fun p hp => by cases hp with | head => exact N _ hm | tail _ h => cases h) but
theorem ints_rep (m : Nat) (t : Tok) : IntsAre (List.replicate m (Value.int 0 t)) (List.replicate m 0) := by
  induction m with
  | zero => exact .nil
  | succ m ih => exact .cons 0 t ih
section
theorem i2d_c {w : World} {A : Around} {s : Shared} {R : Result → Shared → Prop} {p : Program} {loose : List Str} {mean : ExcName → Option Value} {mg mb : Str → Option Value} {G : Heap}
   {a : Int} {n : Nat} {t1 t2 : Tok} (hn7 : n ≤ 7) (hn1 : 1 ≤ n) (ha0 : 0 ≤ a) (ha1 : a < 2 ^ 20)
   (X : (hd.heap_39 w.params).In G) (T : Top p loose mean mg mb G) (C : CodeHd G 48 44) (hG : Stays G s.heap) (hT : TabIn 44 73 4 (Str.ofString "_int2digits.<locals>.inner") G s.heap)
   (hA : A.handled = none) (hroom : A.depth + 50 < recursionLimit)
   (hR : ∀ (h' : Heap) (tk : Tok) (q : Addr) (vs : List Value) (ds : List Int) (nl : Nat), (∀ b o, s.heap.get? b = some o → b ≠ 44 → h'.get? b = some o) → TabIn 44 73 4 (Str.ofString "_int2digits.<locals>.inner") G h' → s.heap.get? q = none → h'.get? q = some (lst vs nl) →
      IntsAre vs ds → ds.length ≤ 40 → valL n ds = a → (∀ d ∈ ds, 0 ≤ d ∧ d < 2 ^ 20) → R (.ok (.ret (.ref q))) { s with heap := h', toks := tk}) :
   codeAny (model PR w) A (.call (.ref 49) ⟨[.int a t1, .int n t2], []⟩) R s := by
  have st1 : StopAt "exec FunctionDef" := .intro
  have st2 : StopAt "binaryOp Mult ref int" := .intro
  obtain ⟨hh, dp, fr, gd, un⟩ := A
  replace hA : hh = none := hA
  subst hA
  replace hroom : dp + 50 < recursionLimit := hroom
  obtain ⟨tn, ht, htn⟩ := hT
  have hPG : G.get? 44 = none := by
    obtain ⟨o, hm⟩ := ht.mem
    exact (htn _ hm).2
  have hbits : Builtin.Int.intBits a ≤ 20 := intBits_le (by (first | assumption | decide | lia | omega))
  (have hfill : PySem.Challenge.rw_pe0221_01 = PySem.Challenge.rw_pe0221_01 ∧ hd.heap_39 = hd.heap_39 := (by k_fill; exact ⟨rfl, rfl⟩); clear hfill)
  refine' enterC (binds := [(Str.ofString "a", .int a t1), (Str.ofString "n", .int n t2)]) tn X T hG htn ?ho ?hcd ?hr ?hb ?hkd ?hnd ?_ ?c1 ?c2 ?c3
  case ho => k_is
  case hcd => k_is
  case hr => show dp < _; lia
  case hb => exact BindsTo.of_eq rfl
  case hkd => exact rfl
  case hnd => decide +kernel
  case c1 => rfl
  case c2 => rfl
  case c3 => rfl
  intro g L h₁ tk cells HD F N Y X' T' l0
  obtain ⟨oI, oD, oN, rfl, dI, dD, dN⟩ := CellsAre.three Y
  clear Y
  replace dI : oI.data = .cell none := dI
  replace dD : oD.data = .cell none := dD
  replace dN : oN.data = .cell (some (.int n t2)) := dN
  have hm : (((Builtin.Int.intBits a : Nat) : Int) + (n : Int) - 1).fdiv (n : Int) = (((Builtin.Int.intBits a : Nat) : Int) + (n : Int) - 1) / (n : Int) := Int.fdiv_eq_ediv_of_nonneg _ (by (first | assumption | decide | lia | omega))
  have hmb : 0 ≤ (((Builtin.Int.intBits a : Nat) : Int) + (n : Int) - 1) / (n : Int) ∧ (((Builtin.Int.intBits a : Nat) : Int) + (n : Int) - 1) / (n : Int) ≤ 26 := by
    refine ⟨Int.ediv_nonneg (by (first | assumption | decide | lia | omega)) (by (first | assumption | decide | lia | omega)), ?_⟩
    have := Int.ediv_le_self (a := ((Builtin.Int.intBits a : Nat) : Int) + (n : Int) - 1) (n : Int) (by (first | assumption | decide | lia | omega))
    lia
  have hma : a ≠ 0 → 0 < (((Builtin.Int.intBits a : Nat) : Int) + (n : Int) - 1) / (n : Int) := fun h => by
    have h1 : 1 ≤ Builtin.Int.intBits a := by
      unfold Builtin.Int.intBits
      rw [if_neg (by simpa using h)]; lia
    exact Int.ediv_pos_of_le (by (first | assumption | decide | lia | omega)) (by (first | assumption | decide | lia | omega))
  ((show wpAny _ _ _ _ _ _); k_fold; k_steps)
  refine Stop.go ?_
  rw [hm]
  generalize (((Builtin.Int.intBits a : Nat) : Int) + (n : Int) - 1) / (n : Int) = mI at *
  clear hm
  refine KMa.mul (by assumption) (by assumption) (by is_list) (by (first | assumption | decide | lia | omega)) (by (first | assumption | decide | lia | omega)) (by simp; lia) rfl ?_
  intro D h₂ F₂ N₂ l₂
  have hD3 : @LT.lt Nat _ (L + 1 + 1 + 1) D := l₂ (L + 1 + 1 + 1, oI) (.tail _ (.head _))
  have hvs0 : (List.replicate mI.toNat [Value.int 0 tk]).flatten = List.replicate mI.toNat (Value.int 0 tk) := by simp
  rw [hvs0] at N₂
  have hints : IntsAre (List.replicate mI.toNat (Value.int 0 tk)) (List.replicate mI.toNat 0) := ints_rep _ _
  generalize hws : List.replicate mI.toNat (Value.int 0 tk) = ws at *
  have N₃ : News g L h₂ ((L + 1 + 1, oD) :: (D, lst ws 0) :: (L + 1 + 1 + 1, oI) :: (L + 1, oN) :: tn) := news_sub N₂ (by ((try dsimp only [List.cons_append, List.nil_append]); (try (refine List.forall_mem_append.mpr ⟨?pa, ?_⟩; (case pa => (intro q hq; (repeat first | exact hq | exact List.mem_append_left _ hq | exact List.mem_append_right _ hq | refine List.mem_cons_of_mem _ ?_ | refine List.mem_append_right _ ?_); done)))); (repeat refine List.forall_mem_cons.mpr ⟨by first | k_mem | exact List.mem_append_right _ (by k_mem) | exact List.mem_append_left _ (by k_mem), ?_⟩); first | exact List.forall_mem_nil _ | (intro q hq; (repeat first | exact hq | exact List.mem_append_left _ hq | exact List.mem_append_right _ hq | refine List.mem_cons_of_mem _ ?_ | refine List.mem_append_right _ ?_); done) | (refine List.forall_mem_append.mpr ⟨?_, ?_⟩ <;> (intro q hq; (repeat first | exact hq | exact List.mem_append_left _ hq | exact List.mem_append_right _ hq | refine List.mem_cons_of_mem _ ?_ | refine List.mem_append_right _ ?_); done))))
  have l0' : ∀ p ∈ tn, @LT.lt Nat _ p.1 L := l0
  refine storeX_C F₂ N₃ rfl (.head (List.forall_mem_cons.mpr ⟨neN (by ((try dsimp only); (repeat refine sne ?_); first | (first | exact up1 _ | exact up2 _ | exact up3 _ | exact up4 _ | exact up5 _ | exact up6 _) | (refine Ne.symm ?_; (first | exact up1 _ | exact up2 _ | exact up3 _ | exact up4 _ | exact up5 _ | exact up6 _)) | lia | omega)), List.forall_mem_cons.mpr ⟨neN (by ((try dsimp only); (repeat refine sne ?_); first | (first | exact up1 _ | exact up2 _ | exact up3 _ | exact up4 _ | exact up5 _ | exact up6 _) | (refine Ne.symm ?_; (first | exact up1 _ | exact up2 _ | exact up3 _ | exact up4 _ | exact up5 _ | exact up6 _)) | lia | omega)), List.forall_mem_cons.mpr ⟨neN (by ((try dsimp only); (repeat refine sne ?_); first | (first | exact up1 _ | exact up2 _ | exact up3 _ | exact up4 _ | exact up5 _ | exact up6 _) | (refine Ne.symm ?_; (first | exact up1 _ | exact up2 _ | exact up3 _ | exact up4 _ | exact up5 _ | exact up6 _)) | lia | omega)), fun p hp => neN (by have := l0' p hp; lia)⟩⟩⟩)) dD ?_ rfl rfl
  intro h₄ oD' F₄ N₄ dD'
  clear F₂ N₂ N₃ l₂
  dsimp only at N₄ ⊢
  k_steps
  refine Stop.go ?_
  refine nestDef_K rfl rfl rfl ?_
  refine nestAny (cn := Str.ofString "_int2digits") (P := 44) (news := [(L + 1 + 1, oD'), (D, lst ws 0), (L + 1 + 1 + 1, oI), (L + 1, oN)]) F₄ N₄ T' (CodeHd.keeps C HD.stays) rfl ht l0 ?hgt (.head _) rfl ?_
  case hgt => exact List.forall_mem_cons.mpr ⟨ltN (by show @LT.lt Nat _ L _; lia), List.forall_mem_cons.mpr ⟨ltN (by show @LT.lt Nat _ L _; lia), List.forall_mem_cons.mpr ⟨ltN (by show @LT.lt Nat _ L _; lia), List.forall_mem_cons.mpr ⟨ltN (by show @LT.lt Nat _ L _; lia), List.forall_mem_nil _⟩⟩⟩⟩
  intro f c' oc ctv doc h₅ tk₅ F₅ hoc hcP hc3 hcf hnf hLf htl N₅
  simp only [List.cons_append, List.nil_append] at N₅
  have h44 : @LT.lt Nat _ 44 L := by
    obtain ⟨o, hm⟩ := ht.mem
    exact l0 _ hm
  replace hLf : @LT.lt Nat _ L f := hLf
  replace hcf : @LT.lt Nat _ c' f := hcf
  replace hcP : (c' : Nat) ≠ 44 := hcP
  have hf3 : @LT.lt Nat _ D f := hnf _ (.tail _ (.head _))
  have hc3 : @LT.lt Nat _ c' L ∨ @LT.lt Nat _ D c' := hc3.imp id fun q => q _ (.tail _ (.head _))
  clear N₄ F₄ dD
  k_steps
  · rename_i h₆ o₆ F₆ N₆ d₆ hane
    have hlen := hints.length
    refine len_list (items := ws.toArray) ⟨_, N₆.get (by k_mem), rfl, 0, rfl⟩ (by rw [List.size_toArray, hlen, List.length_replicate]; lia) ?_
    rw [List.size_toArray, hlen, List.length_replicate]
    dsimp only
    k_steps
    have hgD : g.get? D = none := N₆.fresh (by k_mem)
    have hDD : ∀ b o, g.get? b = some o → (b : Nat) ≠ D := fun b o e q => by rw [q, hgD] at e; cases e
    have hid : ∀ {b : Addr} {o : Obj}, h₆.get? b = some o → (b : Nat) ≠ D → (hideAll h₆ [D]).get? b = some o := fun {b o} e ne => hideAll_get [D] e (by simpa using ne)
    have DD : I2dAt (hd.heap_39 w.params) p loose mean mg mb f D (L + 1 + 1) (L + 1) (L + 1 + 1 + 1) n _ _ (.ref c') t2 (hideAll h₆ [D]) := ⟨X'.keeps (fun b o e => hid (F₆.keep b o e) (hDD b o e)), T'.keeps (fun b o e => hid (F₆.keep b o e) (hDD b o e)),
      hid (N₆.get (by k_mem)) (neN (by ((try dsimp only); (repeat refine sne ?_); first | (first | exact up1 _ | exact up2 _ | exact up3 _ | exact up4 _ | exact up5 _ | exact up6 _) | (refine Ne.symm ?_; (first | exact up1 _ | exact up2 _ | exact up3 _ | exact up4 _ | exact up5 _ | exact up6 _)) | lia | omega))), ⟨_, _, _, _, hid (N₆.get (by k_mem)) (neN (by ((try dsimp only); (repeat refine sne ?_); first | (first | exact up1 _ | exact up2 _ | exact up3 _ | exact up4 _ | exact up5 _ | exact up6 _) | (refine Ne.symm ?_; (first | exact up1 _ | exact up2 _ | exact up3 _ | exact up4 _ | exact up5 _ | exact up6 _)) | lia | omega)))⟩, hoc.rec' (hid (N₆.get (by k_mem)) (neN (by ((try dsimp only); (repeat refine sne ?_); first | (first | exact up1 _ | exact up2 _ | exact up3 _ | exact up4 _ | exact up5 _ | exact up6 _) | (refine Ne.symm ?_; (first | exact up1 _ | exact up2 _ | exact up3 _ | exact up4 _ | exact up5 _ | exact up6 _)) | lia | omega)))), ⟨_, hid (N₆.get (by k_mem)) (neN (by ((try dsimp only); (repeat refine sne ?_); first | (first | exact up1 _ | exact up2 _ | exact up3 _ | exact up4 _ | exact up5 _ | exact up6 _) | (refine Ne.symm ?_; (first | exact up1 _ | exact up2 _ | exact up3 _ | exact up4 _ | exact up5 _ | exact up6 _)) | lia | omega))), dD'⟩, ⟨_, hid (N₆.get (by k_mem)) (neN (by ((try dsimp only); (repeat refine sne ?_); first | (first | exact up1 _ | exact up2 _ | exact up3 _ | exact up4 _ | exact up5 _ | exact up6 _) | (refine Ne.symm ?_; (first | exact up1 _ | exact up2 _ | exact up3 _ | exact up4 _ | exact up5 _ | exact up6 _)) | lia | omega))), dN⟩, ⟨_, hid (N₆.get (by k_mem)) (neN (by ((try dsimp only); (repeat refine sne ?_); first | (first | exact up1 _ | exact up2 _ | exact up3 _ | exact up4 _ | exact up5 _ | exact up6 _) | (refine Ne.symm ?_; (first | exact up1 _ | exact up2 _ | exact up3 _ | exact up4 _ | exact up5 _ | exact up6 _)) | lia | omega))), d₆⟩⟩
    have hpos := hma hane
    refine wpAny_call (i2d_inner (pre := []) (old := List.replicate mI.toNat 0) (post := []) rfl hn7 rfl mI.toNat (by simp) (by (first | assumption | decide | lia | omega)) rfl (by (first | assumption | decide | lia | omega)) (by simpa using hints) (by rw [hlen, List.length_replicate]; lia) ha0 ha1 DD (fun b o e => of_hideAll _ e) (hideAll_none _ (.head _)) (N₆.get (by k_mem)) rfl (by show dp + 1 + _ < _; lia) ?_)
    intro h₈ tk₈ vs₈ ds₈ but₈ hl₈ hv₈ hm₈ hval₈ hd₈
    have F₈ := frButM F₆ N₆ (by k_mem) but₈
    have N₈ : News g L h₈ [(D, lst vs₈ 0), (L + 1 + 1, oD'), (44, tabObj #[rawInt 73, rawInt 4, .ref c']), (c', oc)] := by
      intro q hq
      rcases List.mem_cons.mp hq with rfl | hq
      · exact ⟨hl₈, (N₆ (D, lst ws 0) (by k_mem)).2⟩
      · have hq6 : q ∈ [(L + 1 + 1, oD'), (44, tabObj #[rawInt 73, rawInt 4, .ref c']), (c', oc)] := hq
        rcases List.mem_cons.mp hq with rfl | hq
        · exact ⟨but₈ _ _ (N₆.get (by k_mem)) (neN (by ((try dsimp only); (repeat refine sne ?_); first | (first | exact up1 _ | exact up2 _ | exact up3 _ | exact up4 _ | exact up5 _ | exact up6 _) | (refine Ne.symm ?_; (first | exact up1 _ | exact up2 _ | exact up3 _ | exact up4 _ | exact up5 _ | exact up6 _)) | lia | omega))), (N₆ (L + 1 + 1, oD') (by k_mem)).2⟩
        · rcases List.mem_cons.mp hq with rfl | hq
          · exact ⟨but₈ _ _ (N₆.get (by k_mem)) (neN (by ((try dsimp only); (repeat refine sne ?_); first | (first | exact up1 _ | exact up2 _ | exact up3 _ | exact up4 _ | exact up5 _ | exact up6 _) | (refine Ne.symm ?_; (first | exact up1 _ | exact up2 _ | exact up3 _ | exact up4 _ | exact up5 _ | exact up6 _)) | lia | omega))), (N₆ (44, tabObj #[rawInt 73, rawInt 4, .ref c']) (by k_mem)).2⟩
          · rcases List.mem_cons.mp hq with rfl | hq
            · exact ⟨but₈ _ _ (N₆.get (by k_mem)) (neN (by ((try dsimp only); (repeat refine sne ?_); first | (first | exact up1 _ | exact up2 _ | exact up3 _ | exact up4 _ | exact up5 _ | exact up6 _) | (refine Ne.symm ?_; (first | exact up1 _ | exact up2 _ | exact up3 _ | exact up4 _ | exact up5 _ | exact up6 _)) | lia | omega))), (N₆ (c', oc) (by k_mem)).2⟩
            · cases hq
    clear F₆ N₆ DD hid but₈
    dsimp only
    k_steps
    obtain ⟨b1, b2⟩ := tab_back HD htn hPG F₈.keep (N₈.get (by k_mem)) (N₈.get (by k_mem)) (N₈.fresh (by k_mem)) hoc hcP htl
    have hv₉ : IntsAre vs₈ ds₈ := by simpa using hv₈
    exact hR _ _ _ _ _ _ b1 b2 (HD.fresh _ hgD fun q hq => neN (by have := l0' q hq; lia)) (N₈.get (.head _)) hv₉ (by (first | assumption | decide | lia | omega)) hval₈ hd₈
  · rename_i o₆ F₆ N₆ d₆ ha
    subst ha
    have hgD : g.get? D = none := N₆.fresh (by k_mem)
    obtain ⟨b1, b2⟩ := tab_back HD htn hPG F₆.keep (N₆.get (by k_mem)) (N₆.get (by k_mem)) (N₆.fresh (by k_mem)) hoc hcP htl
    refine hR _ _ _ _ _ _ b1 b2 (HD.fresh _ hgD fun q hq => neN (by have := l0' q hq; lia)) (N₆.get (by k_mem)) hints (by rw [List.length_replicate]; lia) (valL_rep _ _) fun d hd => ?_
    rw [List.eq_of_mem_replicate hd]
    exact ⟨Int.le_refl _, by decide⟩
end
end
-- 18_dp
section
-- digits, the highest first, read from acc on
noncomputable def valM (n : Nat) (acc : Int) (l : List Int) : Int := l.foldl (fun acc d => acc * 2 ^ n + d) acc
theorem valM_rev (n : Nat) : ∀ l : List Int, valM n 0 l.reverse = valL n l
  | [] => rfl
  | d :: r => by
    rw [List.reverse_cons]
    unfold valM
    rw [List.foldl_append]
    show valM n 0 r.reverse * 2 ^ n + d = _
    rw [valM_rev n r, valL, Int.mul_comm, Int.add_comm]
theorem valM_snoc (n : Nat) (acc : Int) (l : List Int) (d : Int) : valM n acc (l ++ [d]) = valM n acc l * 2 ^ n + d := by
  unfold valM; rw [List.foldl_append]; rfl
theorem ints_reverse {vs : List Value} {ds : List Int} (h : IntsAre vs ds) : IntsAre vs.reverse ds.reverse := by
  induction h with
  | nil => exact .nil
  | cons i t _ ih => rw [List.reverse_cons, List.reverse_cons]; exact ints_snoc ih i t
theorem allLt_all {d : Addr} {l : List (Addr × Obj)} (h : AllLt d l) : ∀ p ∈ l, p.1 < d := by
  induction l with
  | nil => intro p hp; cases hp
  | cons q r ih =>
    intro p hp
    rcases List.mem_cons.mp hp with e | hp
    · rw [e]; exact h.1
    · exact ih h.2 p hp
theorem offI_of {I : Addr} {it : Obj} {l : List (Addr × Obj)} (h : ∀ p ∈ l, p.1 ≠ I) : OffI I it l := by
  induction l with
  | nil => exact trivial
  | cons q r ih => exact ⟨.inl (h q (.head _)), ih fun p hp => h p (.tail _ hp)⟩
theorem revRest_ind {prog : Program} {w : World} {A : Around} {E : Value → Shared → Prop} {h₀ : Heap} {env : Env} {x : Str} {body : List Stmt} {Q : Flow → Shared → Prop} {s : Shared} {I : Addr} {lp : Addr × Obj}
    (J : List Value → (Str → Option Value) → List (Addr × Obj) → Prop)
    (z : ∀ m news, J [] m news → ∀ h tk, Fr h₀ env.locals h m → News h₀ env.locals h news → Q .next { s with heap := h, toks := tk })
    (c : ∀ v r m news, J (v :: r) m news → ∀ (it : Obj) h tk, it.cls = .type "list_reverseiterator" → Fr h₀ env.locals h (fun y => if y = x then some v else m y) → News h₀ env.locals h ((I, it) :: news) →
      wpAny (model prog w) A (execs body env) (UnrPost h₀ env.locals { s with heap := h, toks := tk } I it (fun m' n' => lp ∈ n' ∧ J r m' n') Q) E { s with heap := h, toks := tk }) :
    ∀ rs m news, J rs m news → RevRest prog w A E h₀ env x body Q s I lp rs m news := by
  intro rs
  induction rs with
  | nil => intro m news hJ; exact RevRest.zero (z m news hJ)
  | cons v r ih =>
    intro m news hJ
    refine RevRest.succ fun it h tk hc F N => wpAny_mono (c v r m news hJ it h tk hc F N) (fun f s₂ p => ?_) fun _ _ e => e
    cases f with
    | ret v => exact p
    | brk => exact p
    | next =>
      obtain ⟨h', tk', m', n', e, F', N', off, hl, j⟩ := p
      exact ⟨h', tk', m', n', e, F', N', off, hl, ih m' n' j⟩
    | cont =>
      obtain ⟨h', tk', m', n', e, F', N', off, hl, j⟩ := p
      exact ⟨h', tk', m', n', e, F', N', off, hl, ih m' n' j⟩
-- those entries of tn that the base g lacks
noncomputable def lacks (g : Heap) (tn : List (Addr × Obj)) : List (Addr × Obj) := tn.filter fun p => (g.get? p.1).isNone
theorem lacks_news {g h : Heap} {L : Addr} {tn : List (Addr × Obj)} (h1 : ∀ p ∈ tn, h.get? p.1 = some p.2 ∧ p.1 ≠ L) : News g L h (lacks g tn) := fun p hp => by
  obtain ⟨a, b⟩ := List.mem_filter.mp hp
  exact ⟨(h1 p a).1, (h1 p a).2, by simpa using b⟩
theorem lacks_back {g h h' : Heap} {L : Addr} {tn : List (Addr × Obj)} (h1 : ∀ p ∈ tn, h.get? p.1 = some p.2) (st : Stays g h) (st' : Stays g h') (N : ∀ p ∈ lacks g tn, h'.get? p.1 = some p.2) : ∀ p ∈ tn, h'.get? p.1 = some p.2 := fun p hp => by
  cases q : g.get? p.1 with
  | none => exact N p (List.mem_filter.mpr ⟨hp, by simp [q]⟩)
  | some o =>
    have := st _ _ q
    rw [h1 p hp] at this; cases this
    exact st' _ _ q
section
theorem News.all {h₀ : Heap} {L : Addr} {h : Heap} {news : List (Addr × Obj)} (N : News h₀ L h news) : ∀ p ∈ news, h.get? p.1 = some p.2 := fun p hp => (N p hp).1
theorem frButG {g h h' : Heap} {L P : Addr} {m : Str → Option Value} (F : Fr g L h m) (hg : g.get? P = none) (hL : L ≠ P) (but : ∀ b o, h.get? b = some o → b ≠ P → h'.get? b = some o) : Fr g L h' m := by
  obtain ⟨oL, es, ep, hL', r⟩ := F.ns
  exact ⟨⟨oL, es, ep, but _ _ hL' hL, r⟩, fun b o' e => but _ _ (F.keep b o' e) (fun q => by rw [q, hg] at e; cases e), F.above⟩
theorem TabIn.keeps {P : Addr} {line col : Nat} {qual : Str} {G h h' : Heap} (x : TabIn P line col qual G h) (k : Stays h h') : TabIn P line col qual G h' :=
  let ⟨tn, ht, h1⟩ := x; ⟨tn, ht, fun p hp => ⟨k _ _ (h1 p hp).1, (h1 p hp).2⟩⟩
theorem TabIn.code_ne {P : Addr} {line col : Nat} {qual q2 : Str} {G h : Heap} {c : Addr} {o : Obj} (x : TabIn P line col qual G h) (hc : h.get? c = some o) (ho : CodeObjOf q2 o) : c ≠ P := fun e => by
  obtain ⟨tn, ht, h1⟩ := x
  obtain ⟨vs, t, d, v⟩ := ho
  subst e
  cases ht with
  | fresh =>
    have := (h1 _ (.head _)).1
    rw [hc] at this; cases this; cases d; cases v
  | hit =>
    have := (h1 _ (.head _)).1
    rw [hc] at this; cases this; cases d; cases v
theorem TabIn.but {P P' : Addr} {line col line' col' : Nat} {qual qual' : Str} {G h h' : Heap} (x : TabIn P line col qual G h) (y : TabIn P' line' col' qual' G h) (hne : P ≠ P') (but : ∀ b o, h.get? b = some o → b ≠ P' → h'.get? b = some o) : TabIn P line col qual G h' := by
  obtain ⟨tn, ht, h1⟩ := x
  refine ⟨tn, ht, fun p hp => ⟨but _ _ (h1 p hp).1 ?_, (h1 p hp).2⟩⟩
  cases ht with
  | fresh =>
    cases hp with
    | head => exact hne
    | tail _ h => cases h
  | hit ho _ =>
    cases hp with
    | head => exact hne
    | tail _ h =>
      cases h with
      | head => exact y.code_ne (h1 _ (.tail _ (.head _))).1 ho
      | tail _ h => cases h
theorem TabIn.get {P : Addr} {line col : Nat} {qual : Str} {G h : Heap} (x : TabIn P line col qual G h) : ∃ ps, h.get? P = some (tabObj ps) := by
  obtain ⟨tn, ht, h1⟩ := x
  cases ht with
  | fresh => exact ⟨_, (h1 _ (.head _)).1⟩
  | hit => exact ⟨_, (h1 _ (.head _)).1⟩
theorem TabNews.fields {P : Addr} {line col : Nat} {qual : Str} {tn : List (Addr × Obj)} (ht : TabNews P line col qual tn) {p : Addr × Obj} (hp : p ∈ tn) : ∃ vs, p.2.data = .fields vs := by
  cases ht with
  | fresh =>
    cases hp with
    | head => exact ⟨_, rfl⟩
    | tail _ h => cases h
  | hit ho _ =>
    cases hp with
    | head => exact ⟨_, rfl⟩
    | tail _ h =>
      cases h with
      | head => obtain ⟨vs, t, e, _⟩ := ho; exact ⟨vs, e⟩
      | tail _ h => cases h
theorem TabNews.notDict {P : Addr} {line col : Nat} {qual : Str} {tn : List (Addr × Obj)} (ht : TabNews P line col qual tn) {p : Addr × Obj} (hp : p ∈ tn) {es : Array DictEntry} {n : Nat} (hd : p.2.data = .dict es n) : False := by
  obtain ⟨vs, e⟩ := ht.fields hp
  rw [e] at hd; cases hd
theorem TabNews.notSeq {P : Addr} {line col : Nat} {qual : Str} {tn : List (Addr × Obj)} (ht : TabNews P line col qual tn) {p : Addr × Obj} (hp : p ∈ tn) {es : Array Value} {n : Nat} (hd : p.2.data = .seq es n) : False := by
  obtain ⟨vs, e⟩ := ht.fields hp
  rw [e] at hd; cases hd
-- two tables as a part of the ledger
theorem tabs_pack {g h G : Heap} {L : Addr} {m : Str → Option Value} {P P' : Addr} {line col line' col' : Nat} {qual qual' : Str} (F : Fr g L h m) (T1 : TabIn P line col qual G h) (T2 : TabIn P' line' col' qual' G h) (g1 : g.get? P = none) (g2 : g.get? P' = none) :
    ∃ tx, News g L h tx ∧ (∀ {h' : Heap}, Stays g h' → (∀ p ∈ tx, h'.get? p.1 = some p.2) → TabIn P line col qual G h' ∧ TabIn P' line' col' qual' G h') ∧ (∃ o, (P, o) ∈ tx) ∧ (∃ o, (P', o) ∈ tx) ∧ (∀ p ∈ tx, ∃ vs, p.2.data = .fields vs) := by
  obtain ⟨tn1, ht1, htn1⟩ := T1
  obtain ⟨tn2, ht2, htn2⟩ := T2
  have hall : ∀ p ∈ tn1 ++ tn2, h.get? p.1 = some p.2 := fun p hp => (List.mem_append.mp hp).elim (fun h => (htn1 p h).1) fun h => (htn2 p h).1
  have hf : ∀ p ∈ tn1 ++ tn2, ∃ vs, p.2.data = .fields vs := fun p hp => (List.mem_append.mp hp).elim (fun h => ht1.fields h) fun h => ht2.fields h
  have hneL : ∀ p ∈ tn1 ++ tn2, h.get? p.1 = some p.2 ∧ p.1 ≠ L := fun p hp => ⟨hall p hp, fun e => by
    obtain ⟨oL, es, ep, hL, hd, _⟩ := F.ns
    have h1 := hall p hp
    rw [e, hL] at h1; cases h1
    obtain ⟨vs, e⟩ := hf p hp
    rw [e] at hd; cases hd⟩
  refine ⟨lacks g (tn1 ++ tn2), lacks_news hneL, fun st hx => ?_, ?_, ?_, fun p hp => hf p (List.mem_filter.mp hp).1⟩
  · have := lacks_back (L := L) hall F.keep st hx
    exact ⟨⟨tn1, ht1, fun p hp => ⟨this p (List.mem_append_left _ hp), (htn1 p hp).2⟩⟩, ⟨tn2, ht2, fun p hp => ⟨this p (List.mem_append_right _ hp), (htn2 p hp).2⟩⟩⟩
  · obtain ⟨o, hm⟩ := ht1.mem
    exact ⟨o, List.mem_filter.mpr ⟨List.mem_append_left _ hm, by simp [g1]⟩⟩
  · obtain ⟨o, hm⟩ := ht2.mem
    exact ⟨o, List.mem_filter.mpr ⟨List.mem_append_right _ hm, by simp [g2]⟩⟩
theorem after {g h h' : Heap} {L q : Addr} {m : Str → Option Value} {o : Obj} {news : List (Addr × Obj)} (F : Fr g L h m) (N : News g L h news) (st : Stays h h') (hn : h.get? q = none) (hq : h'.get? q = some o) : Fr g L h' m ∧ News g L h' ((q, o) :: news) := by
  refine ⟨F.grownK st, List.forall_mem_cons.mpr ⟨⟨hq, fun e => ?_, ?_⟩, N.grown st⟩⟩
  · obtain ⟨oL, _, _, hL, _⟩ := F.ns
    have e' : q = L := e
    rw [e', hL] at hn; cases hn
  · cases z : g.get? q with
    | none => rfl
    | some o' => have := F.keep _ _ z; rw [hn] at this; cases this
-- what stands between the turns of _divmod_pos
noncomputable abbrev DpJ (a b : Int) (n : Nat) (qa D : Addr) (vs : List Value) (nl : Nat) (tx : List (Addr × Obj)) (ds : List Int) (t2 : Tok) (rs : List Value) (m : Str → Option Value) (news : List (Addr × Obj)) : Prop :=
  ∃ es qv qs nq r tr tn, news = (qa, lst qv nq) :: (D, lst vs nl) :: tx ∧ IntsAre rs es ∧ IntsAre qv qs ∧ (∀ d ∈ es, 0 ≤ d ∧ d < 2 ^ 20) ∧ (∀ d ∈ qs, 0 ≤ d ∧ d < 2 ^ 20) ∧ qs.length + es.length = ds.length ∧ 0 ≤ r ∧ r < b ∧ valM n (valM n 0 qs * b + r) es = a ∧
    HasAll m [(Str.ofString "b", .int b t2), (Str.ofString "n", .int (n : Int) tn), (Str.ofString "r", .int r tr), (Str.ofString "q_digits", .ref qa)]
theorem dp_c {w : World} {A : Around} {s : Shared} {R : Result → Shared → Prop} {p : Program} {loose : List Str} {mean : ExcName → Option Value} {mg mb : Str → Option Value} {G : Heap}
   {a b : Int} {t1 t2 : Tok} (ha0 : 0 ≤ a) (ha1 : a < 2 ^ 20) (hb0 : 1 ≤ b) (hb1 : b < 2 ^ 7)
   (X : (hd.heap_39 w.params).In G) (T : Top p loose mean mg mb G) (C44 : CodeHd G 48 44) (C51 : CodeHd G 55 51) (hG : Stays G s.heap) (h44 : TabIn 44 73 4 (Str.ofString "_int2digits.<locals>.inner") G s.heap) (h51 : TabIn 51 88 4 (Str.ofString "_digits2int.<locals>.inner") G s.heap)
   (hA : A.handled = none) (hroom : A.depth + 52 < recursionLimit)
   (hR : ∀ (h' : Heap) (tk : Tok) (q : Addr) (t3 t4 : Tok), (∀ b o, s.heap.get? b = some o → b ≠ 44 → b ≠ 51 → h'.get? b = some o) → TabIn 44 73 4 (Str.ofString "_int2digits.<locals>.inner") G h' → TabIn 51 88 4 (Str.ofString "_digits2int.<locals>.inner") G h' → s.heap.get? q = none → h'.get? q = some (tup [.int (a / b) t3, .int (a % b) t4]) →
      R (.ok (.ret (.ref q))) { s with heap := h', toks := tk}) :
   codeAny (model PR w) A (.call (.ref 63) ⟨[.int a t1, .int b t2], []⟩) R s := by
  have st1 : StopAt "call ref" := .intro
  have st2 : StopAt "call builtin:list.append" := .intro
  have st3 : StopAt "call builtin:list.reverse" := .intro
  have st4 : StopAt "binaryOp LShift int int" := .intro
  obtain ⟨hh, dp, fr, gd, un⟩ := A
  replace hA : hh = none := hA
  subst hA
  replace hroom : dp + 52 < recursionLimit := hroom
  obtain ⟨tn1, ht1, htn1⟩ := id h44
  obtain ⟨tn2, ht2, htn2⟩ := id h51
  obtain ⟨o44, hm44⟩ := ht1.mem
  obtain ⟨o51, hm51⟩ := ht2.mem
  have g44 := htn1 _ hm44
  have g51 := htn2 _ hm51
  have hbits : Builtin.Int.intBits b ≤ 7 := intBits_le (by (first | assumption | decide | lia | omega))
  (have hfill : PySem.Challenge.rw_pe0221_01 = PySem.Challenge.rw_pe0221_01 ∧ hd.heap_39 = hd.heap_39 := (by k_fill; exact ⟨rfl, rfl⟩); clear hfill)
  refine' enterN (binds := [(Str.ofString "a", .int a t1), (Str.ofString "b", .int b t2)]) [(44, o44), (51, o51)] X T hG (List.forall_mem_cons.mpr ⟨g44, List.forall_mem_cons.mpr ⟨g51, List.forall_mem_nil _⟩⟩) ?ho ?hcd ?hr ?hb ?hl ?_ ?c1 ?c2 ?c3 ?c4
  case ho => k_is
  case hcd => k_is
  case hr => show dp < _; lia
  case hb => exact BindsTo.of_eq rfl
  ((case hl => exact locs rfl); (case c1 => rfl); (case c2 => rfl); (case c3 => rfl); (case c4 => decide))
  intro g L h₁ HD F N X' T' l0
  have k44 : @LT.lt Nat _ 44 L := l0 (44, o44) (.head _)
  have k51 : @LT.lt Nat _ 51 L := l0 (51, o51) (.tail _ (.head _))
  have gg44 : g.get? 44 = none := N.fresh (.head _)
  have gg51 : g.get? 51 = none := N.fresh (.tail _ (.head _))
  clear l0
  ((show wpAny _ _ _ _ _ _); k_fold; k_steps)
  rename_i h₂ F₂ N₂
  have st₂ : Stays s.heap h₂ := HD.back _ F₂.keep (News.all N₂)
  have T44 := h44.keeps st₂
  have T51 := h51.keeps st₂
  refine Stop.go (wpAny_call (i2d_c (n := Builtin.Int.intBits b) hbits ?hn1 ha0 ha1 X T C44 (fun b o e => F₂.keep _ _ (HD.stays _ _ e)) T44 rfl (by show dp + 1 + _ < _; lia) ?_))
  case hn1 =>
    unfold Builtin.Int.intBits
    rw [if_neg (by simp; lia)]; lia
  intro h₃ tk₃ D vs ds nl but₃ T44' hnew hD hvs hl40 hval hds
  have F₃ := frButG F₂ gg44 (neN (by ((try dsimp only); (repeat refine sne ?_); first | (first | exact up1 _ | exact up2 _ | exact up3 _ | exact up4 _ | exact up5 _ | exact up6 _) | (refine Ne.symm ?_; (first | exact up1 _ | exact up2 _ | exact up3 _ | exact up4 _ | exact up5 _ | exact up6 _)) | lia | omega))) but₃
  have T51' := T51.but T44 (by decide) but₃
  have gD : g.get? D = none := by
    cases q : g.get? D with
    | none => rfl
    | some o => have := F₂.keep _ _ q; rw [hnew] at this; cases this
  have hDL : D ≠ L := fun q => by
    obtain ⟨oL, _, _, hL, _⟩ := F₂.ns
    rw [q, hL] at hnew; cases hnew
  obtain ⟨tx, Nx, hT, -, -, hxf⟩ := tabs_pack F₃ T44' T51' gg44 gg51
  have hneD : ∀ p ∈ tx, p.1 ≠ D := fun p hp e => by
    have h1 := Nx.get hp
    rw [e, hD] at h1
    have h2 : p.2.data = (lst vs nl).data := congrArg Obj.data (Option.some.inj h1).symm
    obtain ⟨vs', e'⟩ := hxf p hp
    rw [e'] at h2; cases h2
  have N₃ : News g L h₃ ((D, lst vs nl) :: tx) := List.forall_mem_cons.mpr ⟨⟨hD, hDL, gD⟩, Nx⟩
  clear Nx hxf T44' T51' but₃ hnew
  clear N₂ F₂ T44 T51
  dsimp only
  k_steps
  rename_i qa _ lq1 _ I h₄ F₄ N₄ lI
  have hqx : ∀ p ∈ tx, p.1 ≠ qa := fun p hp => Nat.ne_of_lt (allLt_all lq1.2 p hp)
  have hIx : ∀ p ∈ tx, p.1 ≠ I := fun p hp => Nat.ne_of_lt (allLt_all lI.2.2 p hp)
  have hqD : @LT.lt Nat _ D qa := lq1.1
  have hIq : @LT.lt Nat _ qa I := lI.1
  have hlen := hvs.length
  have offI : ∀ {o1 o2 : Obj}, OffI I (revObj D ((vs.length : Int) - 1)) ((qa, o1) :: (D, o2) :: tx) := ⟨.inl (neN (by ((try dsimp only); (repeat refine sne ?_); first | (first | exact up1 _ | exact up2 _ | exact up3 _ | exact up4 _ | exact up5 _ | exact up6 _) | (refine Ne.symm ?_; (first | exact up1 _ | exact up2 _ | exact up3 _ | exact up4 _ | exact up5 _ | exact up6 _)) | lia | omega))), .inl (neN (by ((try dsimp only); (repeat refine sne ?_); first | (first | exact up1 _ | exact up2 _ | exact up3 _ | exact up4 _ | exact up5 _ | exact up6 _) | (refine Ne.symm ?_; (first | exact up1 _ | exact up2 _ | exact up3 _ | exact up4 _ | exact up5 _ | exact up6 _)) | lia | omega))), offI_of hIx⟩
  have hb2 : (0 : Int) < 2 ^ (Builtin.Int.intBits b) ∧ (2 : Int) ^ (Builtin.Int.intBits b) ≤ 2 ^ 7 := ⟨Int.pow_pos (by decide), pow_mono hbits⟩
  refine iter_revUnr rfl F₄ N₄ offI (.tail _ (.head _)) rfl rfl ?_
  clear F₄ N₄ offI
  generalize hn : Builtin.Int.intBits b = n at *
  refine revRest_ind (DpJ a b n qa D vs nl tx ds t2) ?z ?c _ _ _ ?j
  case j => exact ⟨ds.reverse, [], [], 0, 0, _, _, rfl, ints_reverse hvs, .nil, fun d hd => hds d (List.mem_reverse.mp hd), List.forall_mem_nil _, by simp, Int.le_refl _, by lia, by rw [← hval]; simpa [valM] using valM_rev n ds, rfl, rfl, rfl, rfl, trivial⟩
  case c =>
    rintro v rs m news ⟨es, qv, qs, nq, r, tr, tn, rfl, hrs, hqv, hes, hqs, hlq, hr0, hr1, hinv, hm⟩ it h₅ tk₅ hit F₅ N₅
    cases hrs with
    | cons d td hrs =>
    rename_i es
    obtain ⟨hm1, hm2, hm3, hm4, -⟩ := hm
    have F₅ := frSee (ps := [(Str.ofString "a_digit", .int d td), (Str.ofString "b", .int b t2), (Str.ofString "n", .int (n : Int) tn), (Str.ofString "r", .int r tr), (Str.ofString "q_digits", .ref qa)]) F₅ ⟨rfl, hm1, hm2, hm3, hm4, trivial⟩
    have hidv := PySem.Flt.Hid.mk hinv
    have hidv2 := PySem.Flt.Hid.mk hval
    clear hinv hval hm1 hm2 hm3 hm4
    ((show wpAny _ _ _ _ _ _); k_fold; k_steps)
    refine Stop.go (lshift_int_small (by (first | assumption | decide | lia | omega)) (by (first | assumption | decide | lia | omega)) (by (first | assumption | decide | lia | omega)) ?_)
    rw [Int.toNat_natCast]
    dsimp only
    k_steps
    obtain ⟨hd0, hd1⟩ := hes d (.head _)
    have hrB : 0 ≤ r * 2 ^ n ∧ r * 2 ^ n ≤ 2 ^ 14 := ⟨Int.mul_nonneg hr0 (Int.le_of_lt hb2.1), by have := Int.mul_le_mul (show r ≤ 2 ^ 7 by lia) hb2.2 (Int.le_of_lt hb2.1) (by decide); lia⟩
    refine Stop.go (wpAny_call (d2_c ⟨by lia, by lia⟩ ⟨by lia, by lia⟩ (by (first | assumption | decide | lia | omega)) (X'.keeps (Fr.keep F₅)) (T'.keeps (Fr.keep F₅)) rfl (room hroom (b := 1) (by decide)) ?_))
    have hq20 : 0 ≤ (r * 2 ^ n + d) / b ∧ (r * 2 ^ n + d) / b < 2 ^ 20 := by
      refine ⟨Int.ediv_nonneg (by (first | assumption | decide | lia | omega)) (by (first | assumption | decide | lia | omega)), Int.ediv_lt_of_lt_mul (by (first | assumption | decide | lia | omega)) ?_⟩
      by_cases hb1' : b = 1
      · subst hb1'
        have : r = 0 := by lia
        subst this; lia
      · lia
    have hr20 : 0 ≤ (r * 2 ^ n + d) % b ∧ (r * 2 ^ n + d) % b < b := ⟨Int.emod_nonneg _ (by (first | assumption | decide | lia | omega)), Int.emod_lt_of_pos _ (by (first | assumption | decide | lia | omega))⟩
    have hdm := Int.mul_ediv_add_emod (r * 2 ^ n + d) b
    generalize hQ : (r * 2 ^ n + d) / b = q' at *
    generalize hRr : (r * 2 ^ n + d) % b = r' at *
    have hinv' : valM n (valM n 0 (qs ++ [q']) * b + r') es = a := by
      rw [← hidv.out, valM_snoc]
      show _ = valM n ((valM n 0 qs * b + r) * 2 ^ n + d) es
      congr 1
      rw [Int.add_mul, Int.add_mul]
      have e1 : valM n 0 qs * 2 ^ n * b = valM n 0 qs * b * 2 ^ n := by rw [Int.mul_assoc, Int.mul_comm (2 ^ n), ← Int.mul_assoc]
      rw [e1, Int.mul_comm q']
      lia
    have hidv' := PySem.Flt.Hid.mk hinv'
    clear hinv' hdm hQ hRr hrB hidv
    intro h₆ tk₆ q₆ t₆ t₇ st₆ hnew₆ hq₆
    obtain ⟨F₆, N₆⟩ := after F₅ N₅ st₆ hnew₆ hq₆
    have hq6 : q₆ ≠ qa := fun e => by
      have := N₅.get (.tail _ (.head _))
      rw [← e, hnew₆] at this; cases this
    clear F₅ N₅
    dsimp only
    k_steps
    rename_i h₇ F₇ N₇
    have N₈ : News g L h₇ ((qa, lst qv nq) :: (I, it) :: (D, lst vs nl) :: tx) := news_sub N₇ (by ((try dsimp only [List.cons_append, List.nil_append]); (try (refine List.forall_mem_append.mpr ⟨?pa, ?_⟩; (case pa => (intro q hq; (repeat first | exact hq | exact List.mem_append_left _ hq | exact List.mem_append_right _ hq | refine List.mem_cons_of_mem _ ?_ | refine List.mem_append_right _ ?_); done)))); (repeat refine List.forall_mem_cons.mpr ⟨by first | k_mem | exact List.mem_append_right _ (by k_mem) | exact List.mem_append_left _ (by k_mem), ?_⟩); first | exact List.forall_mem_nil _ | (intro q hq; (repeat first | exact hq | exact List.mem_append_left _ hq | exact List.mem_append_right _ hq | refine List.mem_cons_of_mem _ ?_ | refine List.mem_append_right _ ?_); done) | (refine List.forall_mem_append.mpr ⟨?_, ?_⟩ <;> (intro q hq; (repeat first | exact hq | exact List.mem_append_left _ hq | exact List.mem_append_right _ hq | refine List.mem_cons_of_mem _ ?_ | refine List.mem_append_right _ ?_); done))))
    have hqlen := hqv.length
    refine Stop.go (append_K F₇ N₈ (.head (List.forall_mem_cons.mpr ⟨neN (by ((try dsimp only); (repeat refine sne ?_); first | (first | exact up1 _ | exact up2 _ | exact up3 _ | exact up4 _ | exact up5 _ | exact up6 _) | (refine Ne.symm ?_; (first | exact up1 _ | exact up2 _ | exact up3 _ | exact up4 _ | exact up5 _ | exact up6 _)) | lia | omega)), List.forall_mem_cons.mpr ⟨neN (by ((try dsimp only); (repeat refine sne ?_); first | (first | exact up1 _ | exact up2 _ | exact up3 _ | exact up4 _ | exact up5 _ | exact up6 _) | (refine Ne.symm ?_; (first | exact up1 _ | exact up2 _ | exact up3 _ | exact up4 _ | exact up5 _ | exact up6 _)) | lia | omega)), hqx⟩⟩)) ?_ (by rw [List.size_toArray, sizeLine_eq]; lia))
    intro h₉ F₉ N₉
    rw [List.push_toArray] at N₉
    clear F₇ N₇ N₈
    dsimp only
    k_steps
    refine UnrEnd.intro F₉ N₉ ((qa, lst (qv ++ [.int q' t₆]) (nq + 1)) :: (D, lst vs nl) :: tx) (by ((try dsimp only [List.cons_append, List.nil_append]); (try (refine List.forall_mem_append.mpr ⟨?pa, ?_⟩; (case pa => (intro q hq; (repeat first | exact hq | exact List.mem_append_left _ hq | exact List.mem_append_right _ hq | refine List.mem_cons_of_mem _ ?_ | refine List.mem_append_right _ ?_); done)))); (repeat refine List.forall_mem_cons.mpr ⟨by first | k_mem | exact List.mem_append_right _ (by k_mem) | exact List.mem_append_left _ (by k_mem), ?_⟩); first | exact List.forall_mem_nil _ | (intro q hq; (repeat first | exact hq | exact List.mem_append_left _ hq | exact List.mem_append_right _ hq | refine List.mem_cons_of_mem _ ?_ | refine List.mem_append_right _ ?_); done) | (refine List.forall_mem_append.mpr ⟨?_, ?_⟩ <;> (intro q hq; (repeat first | exact hq | exact List.mem_append_left _ hq | exact List.mem_append_right _ hq | refine List.mem_cons_of_mem _ ?_ | refine List.mem_append_right _ ?_); done)))) (List.forall_mem_cons.mpr ⟨neN (by ((try dsimp only); (repeat refine sne ?_); first | (first | exact up1 _ | exact up2 _ | exact up3 _ | exact up4 _ | exact up5 _ | exact up6 _) | (refine Ne.symm ?_; (first | exact up1 _ | exact up2 _ | exact up3 _ | exact up4 _ | exact up5 _ | exact up6 _)) | lia | omega)), List.forall_mem_cons.mpr ⟨neN (by ((try dsimp only); (repeat refine sne ?_); first | (first | exact up1 _ | exact up2 _ | exact up3 _ | exact up4 _ | exact up5 _ | exact up6 _) | (refine Ne.symm ?_; (first | exact up1 _ | exact up2 _ | exact up3 _ | exact up4 _ | exact up5 _ | exact up6 _)) | lia | omega)), hIx⟩⟩) ?_
    refine ⟨.tail _ (.head _), es, qv ++ [.int q' t₆], qs ++ [q'], nq + 1, r', t₇, tn, rfl, hrs, ints_snoc hqv q' t₆, fun x hx => hes x (.tail _ hx), fun x hx => ?_, ?_, hr20.1, hr20.2, hidv'.out, rfl, rfl, rfl, rfl, trivial⟩
    · rcases List.mem_append.mp hx with h | h
      · exact hqs x h
      · rw [List.mem_singleton.mp h]; exact hq20
    · rw [List.length_append]
      simp only [List.length_cons, List.length_nil] at hlq ⊢
      lia
  case z =>
    rintro m news ⟨es, qv, qs, nq, r, tr, tn, rfl, hrs, hqv, hes, hqs, hlq, hr0, hr1, hinv, hm⟩ h₅ tk₅ F₅ N₅
    cases hrs
    have hinv : valM n 0 qs * b + r = a := hinv
    have F₅ := frSee F₅ hm
    dsimp only
    k_steps
    rw [List.length_nil] at hlq
    have hqlen := hqv.length
    refine Stop.go (kl_reverse F₅ N₅ rfl (.head (List.forall_mem_cons.mpr ⟨neN (by ((try dsimp only); (repeat refine sne ?_); first | (first | exact up1 _ | exact up2 _ | exact up3 _ | exact up4 _ | exact up5 _ | exact up6 _) | (refine Ne.symm ?_; (first | exact up1 _ | exact up2 _ | exact up3 _ | exact up4 _ | exact up5 _ | exact up6 _)) | lia | omega)), hqx⟩)) (by rw [List.toList_toArray, sizeLine_eq]; lia) ?_)
    intro h₆ F₆ N₆
    rw [List.toList_toArray] at N₆
    clear F₅ N₅
    dsimp only
    k_steps
    obtain ⟨T44₆, T51₆⟩ := hT F₆.keep (fun p hp => N₆.get (.tail _ (.tail _ hp)))
    refine Stop.go (wpAny_call (d2i_c (ds := qs.reverse) hbits (by rw [List.length_reverse]; lia) (fun d hd => hqs d (List.mem_reverse.mp hd)) (ints_reverse hqv) ⟨_, N₆.get (.head _), rfl, _, rfl⟩ X T C51 (fun b o e => F₆.keep _ _ (HD.stays _ _ e)) T51₆ rfl (by show dp + 1 + _ < _; lia) ?_))
    intro h₇ tk₇ t₇ but₇ T51₇
    have T44₇ := T44₆.but T51₆ (by decide) but₇
    have F₇ := frButG F₆ gg51 (neN (a := L) (b := 51) (by (first | assumption | decide | lia | omega))) but₇
    rw [← valM_rev, List.reverse_reverse]
    clear F₆ N₆ hqx hIx hneD hT
    obtain ⟨ty, Ny, hT, ⟨o44', hm44'⟩, ⟨o51', hm51'⟩, -⟩ := tabs_pack F₇ T44₇ T51₇ gg44 gg51
    dsimp only
    k_steps
    rename_i I₈ h₈ F₈ N₈ l₈
    obtain ⟨T44₈, T51₈⟩ := hT F₈.keep (fun p hp => N₈.get (.tail _ hp))
    have e1 : a / b = valM n 0 qs ∧ a % b = r := by
      rw [← hinv]
      exact (Int.ediv_emod_unique (by (first | assumption | decide | lia | omega))).mpr ⟨by rw [Int.mul_comm b]; lia, hr0, hr1⟩
    rw [e1.1, e1.2] at hR
    have k1 : @LT.lt Nat _ 44 I₈ := l₈ _ hm44'
    have k2 : @LT.lt Nat _ 51 I₈ := l₈ _ hm51'
    exact hR _ _ _ _ _ (fun b o e n1 n2 => HD.backBut _ F₈.keep b o e (List.forall_mem_cons.mpr ⟨fun q => n1 q.symm, List.forall_mem_cons.mpr ⟨fun q => n2 q.symm, List.forall_mem_nil _⟩⟩)) T44₈ T51₈ (HD.fresh _ (N₈.fresh (.head _)) (List.forall_mem_cons.mpr ⟨neN (by ((try dsimp only); (repeat refine sne ?_); first | (first | exact up1 _ | exact up2 _ | exact up3 _ | exact up4 _ | exact up5 _ | exact up6 _) | (refine Ne.symm ?_; (first | exact up1 _ | exact up2 _ | exact up3 _ | exact up4 _ | exact up5 _ | exact up6 _)) | lia | omega)), List.forall_mem_cons.mpr ⟨neN (by ((try dsimp only); (repeat refine sne ?_); first | (first | exact up1 _ | exact up2 _ | exact up3 _ | exact up4 _ | exact up5 _ | exact up6 _) | (refine Ne.symm ?_; (first | exact up1 _ | exact up2 _ | exact up3 _ | exact up4 _ | exact up5 _ | exact up6 _)) | lia | omega)), List.forall_mem_nil _⟩⟩)) (N₈.get (.head _))
end
end
-- 19_im
section
noncomputable abbrev Q44 : Str := Str.ofString "_int2digits.<locals>.inner"
noncomputable abbrev Q51 : Str := Str.ofString "_digits2int.<locals>.inner"
section
-- what a call that may turn the two tables leaves
structure Kept2 (G h h' : Heap) : Prop where
  but : ∀ b o, h.get? b = some o → b ≠ 44 → b ≠ 51 → h'.get? b = some o
  t44 : TabIn 44 73 4 Q44 G h'
  t51 : TabIn 51 88 4 Q51 G h'
theorem frBut2 {g h h' : Heap} {L P P' : Addr} {m : Str → Option Value} (F : Fr g L h m) (hg : g.get? P = none) (hg' : g.get? P' = none) (hL : L ≠ P) (hL' : L ≠ P') (but : ∀ b o, h.get? b = some o → b ≠ P → b ≠ P' → h'.get? b = some o) : Fr g L h' m := by
  obtain ⟨oL, es, ep, hL₁, r⟩ := F.ns
  exact ⟨⟨oL, es, ep, but _ _ hL₁ hL hL', r⟩, fun b o' e => but _ _ (F.keep b o' e) (fun q => by rw [q, hg] at e; cases e) (fun q => by rw [q, hg'] at e; cases e), F.above⟩
theorem fresh_of {g h : Heap} {L q : Addr} {m : Str → Option Value} (F : Fr g L h m) (hn : h.get? q = none) : q ≠ L ∧ g.get? q = none := by
  refine ⟨fun e => ?_, ?_⟩
  · obtain ⟨oL, _, _, hL, _⟩ := F.ns
    rw [e, hL] at hn; cases hn
  · cases z : g.get? q with
    | none => rfl
    | some o' => have := F.keep _ _ z; rw [hn] at this; cases this
theorem im_pos {w : World} {A : Around} {s : Shared} {R : Result → Shared → Prop} {p : Program} {loose : List Str} {mean : ExcName → Option Value} {mg mb : Str → Option Value} {G : Heap}
   {a b : Int} {t1 t2 : Tok} (ha0 : 0 ≤ a) (ha1 : a < 2 ^ 20) (hb0 : 1 ≤ b) (hb1 : b < 2 ^ 7)
   (X : (hd.heap_39 w.params).In G) (T : Top p loose mean mg mb G) (C44 : CodeHd G 48 44) (C51 : CodeHd G 55 51) (hG : Stays G s.heap) (h44 : TabIn 44 73 4 Q44 G s.heap) (h51 : TabIn 51 88 4 Q51 G s.heap)
   (hA : A.handled = none) (hroom : A.depth + 53 < recursionLimit)
   (hR : ∀ (h' : Heap) (tk : Tok) (q : Addr) (t3 t4 : Tok), Kept2 G s.heap h' → s.heap.get? q = none → h'.get? q = some (tup [.int (a / b) t3, .int (a % b) t4]) → R (.ok (.ret (.ref q))) { s with heap := h', toks := tk}) :
   codeAny (model PR w) A (.call (.ref 70) ⟨[.int a t1, .int b t2], []⟩) R s := by
  have st1 : StopAt "call ref" := .intro
  obtain ⟨hh, dp, fr, gd, un⟩ := A
  replace hA : hh = none := hA
  subst hA
  replace hroom : dp + 53 < recursionLimit := hroom
  obtain ⟨o44, g44⟩ : ∃ o, s.heap.get? 44 = some o ∧ G.get? 44 = none := by
    obtain ⟨tn, ht, htn⟩ := id h44
    obtain ⟨o, hm⟩ := ht.mem
    exact ⟨o, htn _ hm⟩
  obtain ⟨o51, g51⟩ : ∃ o, s.heap.get? 51 = some o ∧ G.get? 51 = none := by
    obtain ⟨tn, ht, htn⟩ := id h51
    obtain ⟨o, hm⟩ := ht.mem
    exact ⟨o, htn _ hm⟩
  (have hfill : PySem.Challenge.rw_pe0221_01 = PySem.Challenge.rw_pe0221_01 ∧ hd.heap_39 = hd.heap_39 := (by k_fill; exact ⟨rfl, rfl⟩); clear hfill)
  refine' enterN (binds := [(Str.ofString "a", .int a t1), (Str.ofString "b", .int b t2)]) [(44, o44), (51, o51)] X T hG (List.forall_mem_cons.mpr ⟨g44, List.forall_mem_cons.mpr ⟨g51, List.forall_mem_nil _⟩⟩) ?ho ?hcd ?hr ?hb ?hl ?_ ?c1 ?c2 ?c3 ?c4
  case ho => k_is
  case hcd => k_is
  case hr => show dp < _; lia
  case hb => exact BindsTo.of_eq rfl
  ((case hl => exact locs rfl); (case c1 => rfl); (case c2 => rfl); (case c3 => rfl); (case c4 => decide))
  intro g L h₁ HD F N X' T' l0
  have k44 : @LT.lt Nat _ 44 L := l0 (44, o44) (.head _)
  have k51 : @LT.lt Nat _ 51 L := l0 (51, o51) (.tail _ (.head _))
  have gg44 : g.get? 44 = none := N.fresh (.head _)
  have gg51 : g.get? 51 = none := N.fresh (.tail _ (.head _))
  clear l0
  ((show wpAny _ _ _ _ _ _); k_fold; k_steps)
  · exfalso; lia
  have st₂ : Stays s.heap h₁ := HD.back _ F.keep (News.all N)
  refine Stop.go (wpAny_call (dp_c ha0 ha1 hb0 hb1 X T C44 C51 (fun b o e => F.keep _ _ (HD.stays _ _ e)) (h44.keeps st₂) (h51.keeps st₂) rfl (by show dp + 1 + _ < _; lia) ?_))
  intro h₃ tk₃ q t3 t4 but₃ T44 T51 hnew hq
  have F₃ := frBut2 F gg44 gg51 (neN (by ((try dsimp only); (repeat refine sne ?_); first | (first | exact up1 _ | exact up2 _ | exact up3 _ | exact up4 _ | exact up5 _ | exact up6 _) | (refine Ne.symm ?_; (first | exact up1 _ | exact up2 _ | exact up3 _ | exact up4 _ | exact up5 _ | exact up6 _)) | lia | omega))) (neN (by ((try dsimp only); (repeat refine sne ?_); first | (first | exact up1 _ | exact up2 _ | exact up3 _ | exact up4 _ | exact up5 _ | exact up6 _) | (refine Ne.symm ?_; (first | exact up1 _ | exact up2 _ | exact up3 _ | exact up4 _ | exact up5 _ | exact up6 _)) | lia | omega))) but₃
  have hsq : s.heap.get? q = none := by
    cases z : s.heap.get? q with
    | none => rfl
    | some o => have := st₂ _ _ z; rw [hnew] at this; cases this
  have N₃ : News g L h₃ [] := News.nil
  clear F N
  dsimp only
  k_steps
  exact hR _ _ _ _ _ ⟨fun b o e n1 n2 => but₃ _ _ (st₂ _ _ e) n1 n2, T44, T51⟩ hsq hq
theorem im_neg {w : World} {A : Around} {s : Shared} {R : Result → Shared → Prop} {p : Program} {loose : List Str} {mean : ExcName → Option Value} {mg mb : Str → Option Value} {G : Heap}
   {a b : Int} {t1 t2 : Tok} (ha0 : a < 0) (ha1 : -(2 ^ 20) ≤ a) (hb0 : 1 ≤ b) (hb1 : b < 2 ^ 7)
   (X : (hd.heap_39 w.params).In G) (T : Top p loose mean mg mb G) (C44 : CodeHd G 48 44) (C51 : CodeHd G 55 51) (hG : Stays G s.heap) (h44 : TabIn 44 73 4 Q44 G s.heap) (h51 : TabIn 51 88 4 Q51 G s.heap)
   (hA : A.handled = none) (hroom : A.depth + 54 < recursionLimit)
   (hR : ∀ (h' : Heap) (tk : Tok) (q : Addr) (t3 t4 : Tok), Kept2 G s.heap h' → s.heap.get? q = none → h'.get? q = some (tup [.int (a / b) t3, .int (a % b) t4]) → R (.ok (.ret (.ref q))) { s with heap := h', toks := tk}) :
   codeAny (model PR w) A (.call (.ref 70) ⟨[.int a t1, .int b t2], []⟩) R s := by
  have st1 : StopAt "call ref" := .intro
  obtain ⟨hh, dp, fr, gd, un⟩ := A
  replace hA : hh = none := hA
  subst hA
  replace hroom : dp + 54 < recursionLimit := hroom
  obtain ⟨o44, g44⟩ : ∃ o, s.heap.get? 44 = some o ∧ G.get? 44 = none := by
    obtain ⟨tn, ht, htn⟩ := id h44
    obtain ⟨o, hm⟩ := ht.mem
    exact ⟨o, htn _ hm⟩
  obtain ⟨o51, g51⟩ : ∃ o, s.heap.get? 51 = some o ∧ G.get? 51 = none := by
    obtain ⟨tn, ht, htn⟩ := id h51
    obtain ⟨o, hm⟩ := ht.mem
    exact ⟨o, htn _ hm⟩
  (have hfill : PySem.Challenge.rw_pe0221_01 = PySem.Challenge.rw_pe0221_01 ∧ hd.heap_39 = hd.heap_39 := (by k_fill; exact ⟨rfl, rfl⟩); clear hfill)
  refine' enterN (binds := [(Str.ofString "a", .int a t1), (Str.ofString "b", .int b t2)]) [(44, o44), (51, o51)] X T hG (List.forall_mem_cons.mpr ⟨g44, List.forall_mem_cons.mpr ⟨g51, List.forall_mem_nil _⟩⟩) ?ho ?hcd ?hr ?hb ?hl ?_ ?c1 ?c2 ?c3 ?c4
  case ho => k_is
  case hcd => k_is
  case hr => show dp < _; lia
  case hb => exact BindsTo.of_eq rfl
  ((case hl => exact locs rfl); (case c1 => rfl); (case c2 => rfl); (case c3 => rfl); (case c4 => decide))
  intro g L h₁ HD F N X' T' l0
  have k44 : @LT.lt Nat _ 44 L := l0 (44, o44) (.head _)
  have k51 : @LT.lt Nat _ 51 L := l0 (51, o51) (.tail _ (.head _))
  have gg44 : g.get? 44 = none := N.fresh (.head _)
  have gg51 : g.get? 51 = none := N.fresh (.tail _ (.head _))
  clear l0
  ((show wpAny _ _ _ _ _ _); k_fold; k_steps)
  · exfalso; lia
  have st₂ : Stays s.heap h₁ := HD.back _ F.keep (News.all N)
  refine Stop.go (wpAny_call (im_pos (a := Builtin.bitNot a) (b := b) (by unfold Builtin.bitNot; lia) (by unfold Builtin.bitNot; lia) hb0 hb1 X T C44 C51 (fun b o e => F.keep _ _ (HD.stays _ _ e)) (h44.keeps st₂) (h51.keeps st₂) rfl (by show dp + 1 + _ < _; lia) ?_))
  intro h₃ tk₃ q t3 t4 K3 hnew hq
  have F₃ := frBut2 F gg44 gg51 (neN (by ((try dsimp only); (repeat refine sne ?_); first | (first | exact up1 _ | exact up2 _ | exact up3 _ | exact up4 _ | exact up5 _ | exact up6 _) | (refine Ne.symm ?_; (first | exact up1 _ | exact up2 _ | exact up3 _ | exact up4 _ | exact up5 _ | exact up6 _)) | lia | omega))) (neN (by ((try dsimp only); (repeat refine sne ?_); first | (first | exact up1 _ | exact up2 _ | exact up3 _ | exact up4 _ | exact up5 _ | exact up6 _) | (refine Ne.symm ?_; (first | exact up1 _ | exact up2 _ | exact up3 _ | exact up4 _ | exact up5 _ | exact up6 _)) | lia | omega))) K3.but
  obtain ⟨tx, Nx, hT, ⟨o44', hm44⟩, ⟨o51', hm51⟩, -⟩ := tabs_pack F₃ K3.t44 K3.t51 gg44 gg51
  have N₃ : News g L h₃ ((q, tup [.int (Builtin.bitNot a / b) t3, .int (Builtin.bitNot a % b) t4]) :: tx) := List.forall_mem_cons.mpr ⟨⟨hq, fresh_of F hnew⟩, Nx⟩
  have e1 : Builtin.bitNot (Builtin.bitNot a / b) = a / b ∧ b + Builtin.bitNot (Builtin.bitNot a % b) = a % b := by
    have h1 := Int.mul_ediv_add_emod (Builtin.bitNot a) b
    have h2 := Int.emod_nonneg (Builtin.bitNot a) (show b ≠ 0 by lia)
    have h3 := Int.emod_lt_of_pos (Builtin.bitNot a) (show 0 < b by lia)
    generalize Builtin.bitNot a / b = x at *
    generalize Builtin.bitNot a % b = y at *
    unfold Builtin.bitNot at *
    have h4 := (Int.ediv_emod_unique (a := a) (b := b) (r := b - y - 1) (q := -x - 1) (by (first | assumption | decide | lia | omega))).mpr ⟨by
      have : b * (-x - 1) = -(b * x) - b := by rw [Int.mul_sub, Int.mul_neg, Int.mul_one]
      lia, by lia, by lia⟩
    exact ⟨h4.1.symm, by lia⟩
  have hid := PySem.Flt.Hid.mk e1
  clear F N K3 e1
  dsimp only
  k_steps
  rename_i I₈ h₈ F₈ N₈ l₈
  obtain ⟨T44₈, T51₈⟩ := hT F₈.keep (fun p hp => N₈.get (.tail _ (.tail _ hp)))
  have k1 : @LT.lt Nat _ 44 I₈ := allLt_all l₈.2 _ hm44
  have k2 : @LT.lt Nat _ 51 I₈ := allLt_all l₈.2 _ hm51
  have e1 := hid.out
  rw [e1.1, e1.2] at N₈
  exact hR _ _ _ _ _ ⟨fun b o e n1 n2 => HD.backBut _ F₈.keep b o e (List.forall_mem_cons.mpr ⟨fun q => n1 q.symm, List.forall_mem_cons.mpr ⟨fun q => n2 q.symm, List.forall_mem_nil _⟩⟩), T44₈, T51₈⟩ (HD.fresh _ (N₈.fresh (.head _)) (List.forall_mem_cons.mpr ⟨neN (by ((try dsimp only); (repeat refine sne ?_); first | (first | exact up1 _ | exact up2 _ | exact up3 _ | exact up4 _ | exact up5 _ | exact up6 _) | (refine Ne.symm ?_; (first | exact up1 _ | exact up2 _ | exact up3 _ | exact up4 _ | exact up5 _ | exact up6 _)) | lia | omega)), List.forall_mem_cons.mpr ⟨neN (by ((try dsimp only); (repeat refine sne ?_); first | (first | exact up1 _ | exact up2 _ | exact up3 _ | exact up4 _ | exact up5 _ | exact up6 _) | (refine Ne.symm ?_; (first | exact up1 _ | exact up2 _ | exact up3 _ | exact up4 _ | exact up5 _ | exact up6 _)) | lia | omega)), List.forall_mem_nil _⟩⟩)) (N₈.get (.head _))
theorem im_c {w : World} {A : Around} {s : Shared} {R : Result → Shared → Prop} {p : Program} {loose : List Str} {mean : ExcName → Option Value} {mg mb : Str → Option Value} {G : Heap}
   {a b : Int} {t1 t2 : Tok} (ha0 : -(2 ^ 20) < a) (ha1 : a < 2 ^ 20) (hb0 : 1 ≤ b) (hb1 : b < 2 ^ 7)
   (X : (hd.heap_39 w.params).In G) (T : Top p loose mean mg mb G) (C44 : CodeHd G 48 44) (C51 : CodeHd G 55 51) (hG : Stays G s.heap) (h44 : TabIn 44 73 4 Q44 G s.heap) (h51 : TabIn 51 88 4 Q51 G s.heap)
   (hA : A.handled = none) (hroom : A.depth + 54 < recursionLimit)
   (hR : ∀ (h' : Heap) (tk : Tok) (q : Addr) (t3 t4 : Tok), Kept2 G s.heap h' → s.heap.get? q = none → h'.get? q = some (tup [.int (a / b) t3, .int (a % b) t4]) → R (.ok (.ret (.ref q))) { s with heap := h', toks := tk}) :
   codeAny (model PR w) A (.call (.ref 70) ⟨[.int a t1, .int b t2], []⟩) R s := by
  by_cases h : a < 0
  · exact im_neg h (by (first | assumption | decide | lia | omega)) hb0 hb1 X T C44 C51 hG h44 h51 hA hroom hR
  · exact im_pos (by (first | assumption | decide | lia | omega)) ha1 hb0 hb1 X T C44 C51 hG h44 h51 hA (by (first | assumption | decide | lia | omega)) hR
theorem im_bneg {w : World} {A : Around} {s : Shared} {R : Result → Shared → Prop} {p : Program} {loose : List Str} {mean : ExcName → Option Value} {mg mb : Str → Option Value} {G : Heap}
   {a b : Int} {t1 t2 : Tok} (ha0 : -(2 ^ 20) < a) (ha1 : a < 2 ^ 20) (hb0 : b ≤ -1) (hb1 : -(2 ^ 7) < b)
   (X : (hd.heap_39 w.params).In G) (T : Top p loose mean mg mb G) (C44 : CodeHd G 48 44) (C51 : CodeHd G 55 51) (hG : Stays G s.heap) (h44 : TabIn 44 73 4 Q44 G s.heap) (h51 : TabIn 51 88 4 Q51 G s.heap)
   (hA : A.handled = none) (hroom : A.depth + 55 < recursionLimit)
   (hR : ∀ (h' : Heap) (tk : Tok) (q : Addr) (t3 t4 : Tok), Kept2 G s.heap h' → s.heap.get? q = none → h'.get? q = some (tup [.int ((-a) / (-b)) t3, .int (-((-a) % (-b))) t4]) → R (.ok (.ret (.ref q))) { s with heap := h', toks := tk}) :
   codeAny (model PR w) A (.call (.ref 70) ⟨[.int a t1, .int b t2], []⟩) R s := by
  have st1 : StopAt "call ref" := .intro
  obtain ⟨hh, dp, fr, gd, un⟩ := A
  replace hA : hh = none := hA
  subst hA
  replace hroom : dp + 55 < recursionLimit := hroom
  obtain ⟨o44, g44⟩ : ∃ o, s.heap.get? 44 = some o ∧ G.get? 44 = none := by
    obtain ⟨tn, ht, htn⟩ := id h44
    obtain ⟨o, hm⟩ := ht.mem
    exact ⟨o, htn _ hm⟩
  obtain ⟨o51, g51⟩ : ∃ o, s.heap.get? 51 = some o ∧ G.get? 51 = none := by
    obtain ⟨tn, ht, htn⟩ := id h51
    obtain ⟨o, hm⟩ := ht.mem
    exact ⟨o, htn _ hm⟩
  (have hfill : PySem.Challenge.rw_pe0221_01 = PySem.Challenge.rw_pe0221_01 ∧ hd.heap_39 = hd.heap_39 := (by k_fill; exact ⟨rfl, rfl⟩); clear hfill)
  refine' enterN (binds := [(Str.ofString "a", .int a t1), (Str.ofString "b", .int b t2)]) [(44, o44), (51, o51)] X T hG (List.forall_mem_cons.mpr ⟨g44, List.forall_mem_cons.mpr ⟨g51, List.forall_mem_nil _⟩⟩) ?ho ?hcd ?hr ?hb ?hl ?_ ?c1 ?c2 ?c3 ?c4
  case ho => k_is
  case hcd => k_is
  case hr => show dp < _; lia
  case hb => exact BindsTo.of_eq rfl
  ((case hl => exact locs rfl); (case c1 => rfl); (case c2 => rfl); (case c3 => rfl); (case c4 => decide))
  intro g L h₁ HD F N X' T' l0
  have k44 : @LT.lt Nat _ 44 L := l0 (44, o44) (.head _)
  have k51 : @LT.lt Nat _ 51 L := l0 (51, o51) (.tail _ (.head _))
  have gg44 : g.get? 44 = none := N.fresh (.head _)
  have gg51 : g.get? 51 = none := N.fresh (.tail _ (.head _))
  clear l0
  ((show wpAny _ _ _ _ _ _); k_fold; k_steps)
  · exfalso; lia
  have st₂ : Stays s.heap h₁ := HD.back _ F.keep (News.all N)
  refine Stop.go (wpAny_call (im_c (a := -a) (b := -b) (by (first | assumption | decide | lia | omega)) (by (first | assumption | decide | lia | omega)) (by (first | assumption | decide | lia | omega)) (by (first | assumption | decide | lia | omega)) X T C44 C51 (fun b o e => F.keep _ _ (HD.stays _ _ e)) (h44.keeps st₂) (h51.keeps st₂) rfl (by show dp + 1 + _ < _; lia) ?_))
  intro h₃ tk₃ q t3 t4 K3 hnew hq
  have F₃ := frBut2 F gg44 gg51 (neN (by ((try dsimp only); (repeat refine sne ?_); first | (first | exact up1 _ | exact up2 _ | exact up3 _ | exact up4 _ | exact up5 _ | exact up6 _) | (refine Ne.symm ?_; (first | exact up1 _ | exact up2 _ | exact up3 _ | exact up4 _ | exact up5 _ | exact up6 _)) | lia | omega))) (neN (by ((try dsimp only); (repeat refine sne ?_); first | (first | exact up1 _ | exact up2 _ | exact up3 _ | exact up4 _ | exact up5 _ | exact up6 _) | (refine Ne.symm ?_; (first | exact up1 _ | exact up2 _ | exact up3 _ | exact up4 _ | exact up5 _ | exact up6 _)) | lia | omega))) K3.but
  obtain ⟨tx, Nx, hT, ⟨o44', hm44⟩, ⟨o51', hm51⟩, -⟩ := tabs_pack F₃ K3.t44 K3.t51 gg44 gg51
  have N₃ : News g L h₃ ((q, tup [.int ((-a) / (-b)) t3, .int ((-a) % (-b)) t4]) :: tx) := List.forall_mem_cons.mpr ⟨⟨hq, fresh_of F hnew⟩, Nx⟩
  clear F N K3
  dsimp only
  k_steps
  rename_i I₈ h₈ F₈ N₈ l₈
  obtain ⟨T44₈, T51₈⟩ := hT F₈.keep (fun p hp => N₈.get (.tail _ (.tail _ hp)))
  have k1 : @LT.lt Nat _ 44 I₈ := allLt_all l₈.2 _ hm44
  have k2 : @LT.lt Nat _ 51 I₈ := allLt_all l₈.2 _ hm51
  exact hR _ _ _ _ _ ⟨fun b o e n1 n2 => HD.backBut _ F₈.keep b o e (List.forall_mem_cons.mpr ⟨fun q => n1 q.symm, List.forall_mem_cons.mpr ⟨fun q => n2 q.symm, List.forall_mem_nil _⟩⟩), T44₈, T51₈⟩ (HD.fresh _ (N₈.fresh (.head _)) (List.forall_mem_cons.mpr ⟨neN (by ((try dsimp only); (repeat refine sne ?_); first | (first | exact up1 _ | exact up2 _ | exact up3 _ | exact up4 _ | exact up5 _ | exact up6 _) | (refine Ne.symm ?_; (first | exact up1 _ | exact up2 _ | exact up3 _ | exact up4 _ | exact up5 _ | exact up6 _)) | lia | omega)), List.forall_mem_cons.mpr ⟨neN (by ((try dsimp only); (repeat refine sne ?_); first | (first | exact up1 _ | exact up2 _ | exact up3 _ | exact up4 _ | exact up5 _ | exact up6 _) | (refine Ne.symm ?_; (first | exact up1 _ | exact up2 _ | exact up3 _ | exact up4 _ | exact up5 _ | exact up6 _)) | lia | omega)), List.forall_mem_nil _⟩⟩)) (N₈.get (.head _))
end
end
-- 20_most
section
section
variable {prog : Program} {w : World} {A : Around} {s : Shared} {K : Frag} {R : Result → Shared → Prop} {name qual : Str} {params : Arguments} {body : List Stmt} {scope : Scope} {dV kV doc pm cdv ct oc : Value} {an od : Option Addr} {osl : Array (Option Value)} {f : Addr} {args : Args} {binds : List (Str × Value)}
  {p : Program} {loose : List Str} {mean : ExcName → Option Value} {mg mb : Str → Option Value}
theorem enterE (X : K.In s.heap) (T : Top p loose mean mg mb s.heap)
    (ho : K.lookup f = some ⟨oc, od, .func (fnOf name qual params body scope dV kV doc pm an cdv ct), osl⟩) (hcd : codeIn K cdv qual = true) (hroom : A.depth < recursionLimit)
    (hbind : BindsTo s (fnOf name qual params body scope dV kV doc pm an cdv ct) args binds) (hloc : ∀ y ∈ binds, scope.names.lookup y.1 = some .local)
    (h : ∀ L h₁, Fr s.heap L h₁ (fun y => binds.reverse.lookup y) → News s.heap L h₁ [] →
      wpAny (model prog w) (A.deeper (envOf qual scope L f cdv)) (execs body (envOf qual scope L f cdv))
        (fun fl s' => R (.ok (.ret (match fl with | .ret v => v | _ => .none))) s')
        (fun e s' => wpAny (model prog w) (A.deeper (envOf qual scope L f cdv)) (leaving (envOf qual scope L f cdv) e) (fun _ s'' => R (.error e) s'') (fun e' s'' => R (.error e') s'') s')
        { s with heap := h₁, toks := s.toks + binds.length })
    (hco : scope.isCoroutine = false) (hgen : scope.isGenerator = false) (hk : scope.kind = .function)
    (hcell : ∀ x ∈ scope.names, x.2 ≠ .cell) : codeAny (model prog w) A (.call (.ref f) args) R s := by
  refine codeAny_call_def (fd := fnOf name qual params body scope dV kV doc pm an cdv ct) (body := body) (binds := binds) hroom (X _ _ ho) rfl T.nolimit (codeRec_of X hcd) rfl hbind hcell hloc (fun h₁ hns hk₁ => ?_) hco hgen hk
  exact h _ h₁ ⟨hns, hk₁, Nat.le_refl _⟩ News.nil
end
section
theorem im_zero {w : World} {A : Around} {s : Shared} {R : Result → Shared → Prop} {p : Program} {loose : List Str} {mean : ExcName → Option Value} {mg mb : Str → Option Value} {base : Heap} {outer : List Env}
   {a : Int} {t1 t2 : Tok} (K : Below A base outer s.heap)
   (X : (hd.heap_39 w.params).In s.heap) (T : Top p loose mean mg mb s.heap) (hA : A.handled = none) (hroom : A.depth < recursionLimit)
   (hR : ∀ (h' : Heap) (e : Addr) (tk : Tok), RaisedSN base s.heap outer e (.type "ZeroDivisionError") [] h' → s.heap.UpToSlots h' → R (.error (.ref e)) { s with heap := h', toks := tk}) :
   codeAny (model PR w) A (.call (.ref 70) ⟨[.int a t1, .int 0 t2], []⟩) R s := by
  have st1 : StopAt "exec Raise some none" := .intro
  obtain ⟨hh, dp, fr, gd, un⟩ := A
  replace hA : hh = none := hA
  subst hA
  (have hfill : PySem.Challenge.rw_pe0221_01 = PySem.Challenge.rw_pe0221_01 ∧ hd.heap_39 = hd.heap_39 := (by k_fill; exact ⟨rfl, rfl⟩); clear hfill)
  refine' enterE (binds := [(Str.ofString "a", .int a t1), (Str.ofString "b", .int 0 t2)]) ?X ?T ?ho ?hcd ?hr ?hb ?hl ?_ ?c1 ?c2 ?c3 ?c4
  (((case X => assumption); (case T => assumption); (case ho => k_is); (case hcd => k_is); (case hr => assumption)); (case hb => first | exact binds_K (by assumption) rfl (by k_is) rfl rfl rfl | exact BindsTo.of_eq rfl); ((case hl => exact locs rfl); (case c1 => rfl); (case c2 => rfl); (case c3 => rfl); (case c4 => decide)))
  intro L h₁ F N
  ((show wpAny _ _ _ _ _ _); k_fold; k_steps)
  refine Stop.go (Raise_classB rfl excClass_ZeroDivisionError (by rw [isSubtype_type]; kernel_rfl) ?hx ?_)
  case hx =>
    refine' name_B F ?k1 ?k2 ?k3 ?k4 ?k5 ?_
    case k1 => k_asm
    case k2 => k_asm
    case k3 => k_is
    case k4 => boot_by_name
    case k5 => decide
    exact ⟨rfl, rfl⟩
  intro h₂ e hx
  show wpAny _ _ (leaving _ _) _ _ _
  exact leave_newS K hx F N fun h₃ R1 R2 R3 => hR h₃ e _ R1 R3
end
end
-- 21_mostp
section
theorem TabIn.ne_seq {P q : Addr} {line col : Nat} {qual : Str} {G h : Heap} {o : Obj} {its : Array Value} {n : Nat} (x : TabIn P line col qual G h) (hq : h.get? q = some o) (hd : o.data = .seq its n) : q ≠ P := fun e => by
  obtain ⟨ps, hp⟩ := x.get
  rw [← e, hq] at hp; cases hp; cases hd
theorem mul_r {prog : Program} {w : World} {A : Around} {E : Value → Shared → Prop} {s : Shared} {Q : Value → Shared → Prop} {t u : Tok} {a b : Int} (hb : -(2 ^ 62) < b ∧ b < 2 ^ 62) (h : Q (.int (a * b) s.toks) { s with toks := s.toks + 1 }) : wpAny (model prog w) A (binaryOp .Mult (.int a t) (.int b u)) Q E s :=
  PyProof.Rows.mul_int h (IntMulOk.of_right (intBits_le_64 (by (first | assumption | decide | lia | omega)) (by (first | assumption | decide | lia | omega))))
section
theorem most_pos {w : World} {A : Around} {s : Shared} {R : Result → Shared → Prop} {p : Program} {loose : List Str} {mean : ExcName → Option Value} {mg mb : Str → Option Value} {G : Heap}
   {top low size : Int} {t1 t2 t3 : Tok} (ht0 : -(2 ^ 20) < top) (ht1 : top < 2 ^ 20) (hl0 : 1 ≤ low) (hl1 : low < 2 ^ 7)
   (X : (hd.heap_39 w.params).In G) (T : Top p loose mean mg mb G) (C44 : CodeHd G 48 44) (C51 : CodeHd G 55 51) (hG : Stays G s.heap) (h44 : TabIn 44 73 4 Q44 G s.heap) (h51 : TabIn 51 88 4 Q51 G s.heap)
   (hA : A.handled = none) (hroom : A.depth + 57 < recursionLimit)
   (hR : ∀ (h' : Heap) (tk : Tok) (q : Addr) (t4 t5 : Tok) (nl : Nat), Kept2 G s.heap h' → s.heap.get? q = none → h'.get? q = some (lst [.int (top / low) t4, .int (-((-top) / low) - 1) t5] nl) → R (.ok (.ret (.ref q))) { s with heap := h', toks := tk}) :
   codeAny (model PR w) A (.call (.ref 102) ⟨[.int top t1, .int low t2, .int size t3], []⟩) R s := by
  have st3 : StopAt "exec Try" := .intro
  have st1 : StopAt "binaryOp Mult int int" := .intro
  have st2 : StopAt "call ref" := .intro
  obtain ⟨hh, dp, fr, gd, un⟩ := A
  replace hA : hh = none := hA
  subst hA
  replace hroom : dp + 57 < recursionLimit := hroom
  obtain ⟨o44, g44⟩ : ∃ o, s.heap.get? 44 = some o ∧ G.get? 44 = none := by
    obtain ⟨tn, ht, htn⟩ := id h44
    obtain ⟨o, hm⟩ := ht.mem
    exact ⟨o, htn _ hm⟩
  obtain ⟨o51, g51⟩ : ∃ o, s.heap.get? 51 = some o ∧ G.get? 51 = none := by
    obtain ⟨tn, ht, htn⟩ := id h51
    obtain ⟨o, hm⟩ := ht.mem
    exact ⟨o, htn _ hm⟩
  (have hfill : PySem.Challenge.rw_pe0221_01 = PySem.Challenge.rw_pe0221_01 ∧ hd.heap_39 = hd.heap_39 := (by k_fill; exact ⟨rfl, rfl⟩); clear hfill)
  refine' enterN (binds := [(Str.ofString "top", .int top t1), (Str.ofString "low", .int low t2), (Str.ofString "size", .int size t3)]) [(44, o44), (51, o51)] X T hG (List.forall_mem_cons.mpr ⟨g44, List.forall_mem_cons.mpr ⟨g51, List.forall_mem_nil _⟩⟩) ?ho ?hcd ?hr ?hb ?hl ?_ ?c1 ?c2 ?c3 ?c4
  case ho => k_is
  case hcd => k_is
  case hr => show dp < _; lia
  case hb => exact BindsTo.of_eq rfl
  ((case hl => exact locs rfl); (case c1 => rfl); (case c2 => rfl); (case c3 => rfl); (case c4 => decide))
  intro g L h₁ HD F N X' T' l0
  have k44 : @LT.lt Nat _ 44 L := l0 (44, o44) (.head _)
  have k51 : @LT.lt Nat _ 51 L := l0 (51, o51) (.tail _ (.head _))
  have gg44 : g.get? 44 = none := N.fresh (.head _)
  have gg51 : g.get? 51 = none := N.fresh (.tail _ (.head _))
  clear l0
  ((show wpAny _ _ _ _ _ _); k_fold; k_steps)
  refine Stop.go (wpAny_Try_except ?_)
  k_steps
  rename_i h₂ F₂ N₂
  have st₂ : Stays s.heap h₂ := HD.back _ F₂.keep (News.all (news_sub N₂ (by ((try dsimp only [List.cons_append, List.nil_append]); (try (refine List.forall_mem_append.mpr ⟨?pa, ?_⟩; (case pa => (intro q hq; (repeat first | exact hq | exact List.mem_append_left _ hq | exact List.mem_append_right _ hq | refine List.mem_cons_of_mem _ ?_ | refine List.mem_append_right _ ?_); done)))); (repeat refine List.forall_mem_cons.mpr ⟨by first | k_mem | exact List.mem_append_right _ (by k_mem) | exact List.mem_append_left _ (by k_mem), ?_⟩); first | exact List.forall_mem_nil _ | (intro q hq; (repeat first | exact hq | exact List.mem_append_left _ hq | exact List.mem_append_right _ hq | refine List.mem_cons_of_mem _ ?_ | refine List.mem_append_right _ ?_); done) | (refine List.forall_mem_append.mpr ⟨?_, ?_⟩ <;> (intro q hq; (repeat first | exact hq | exact List.mem_append_left _ hq | exact List.mem_append_right _ hq | refine List.mem_cons_of_mem _ ?_ | refine List.mem_append_right _ ?_); done))))))
  refine Stop.go (wpAny_call (im_c ht0 ht1 hl0 hl1 X T C44 C51 (fun b o e => F₂.keep _ _ (HD.stays _ _ e)) (h44.keeps st₂) (h51.keeps st₂) rfl (by show dp + 1 + _ < _; lia) ?_))
  intro h₃ tk₃ q₃ t4 t5 K3 hnew₃ hq₃
  have F₃ := frBut2 F₂ gg44 gg51 (neN (by ((try dsimp only); (repeat refine sne ?_); first | (first | exact up1 _ | exact up2 _ | exact up3 _ | exact up4 _ | exact up5 _ | exact up6 _) | (refine Ne.symm ?_; (first | exact up1 _ | exact up2 _ | exact up3 _ | exact up4 _ | exact up5 _ | exact up6 _)) | lia | omega))) (neN (by ((try dsimp only); (repeat refine sne ?_); first | (first | exact up1 _ | exact up2 _ | exact up3 _ | exact up4 _ | exact up5 _ | exact up6 _) | (refine Ne.symm ?_; (first | exact up1 _ | exact up2 _ | exact up3 _ | exact up4 _ | exact up5 _ | exact up6 _)) | lia | omega))) K3.but
  obtain ⟨tx, Nx, hT, ⟨o44', hm44⟩, ⟨o51', hm51⟩, -⟩ := tabs_pack F₃ K3.t44 K3.t51 gg44 gg51
  have N₃ : News g L h₃ ((q₃, tup [.int (top / low) t4, .int (top % low) t5]) :: tx) := List.forall_mem_cons.mpr ⟨⟨hq₃, fresh_of F₂ hnew₃⟩, Nx⟩
  clear F₂ N₂ K3 Nx
  dsimp only
  k_steps
  rename_i h₄ F₄ N₄
  obtain ⟨T44₄, T51₄⟩ := hT F₄.keep (fun p hp => N₄.get (.tail _ hp))
  refine Stop.go (wpAny_call (im_bneg (a := top) (b := -low) ht0 ht1 (by (first | assumption | decide | lia | omega)) (by (first | assumption | decide | lia | omega)) X T C44 C51 (fun b o e => F₄.keep _ _ (HD.stays _ _ e)) T44₄ T51₄ rfl (by show dp + 1 + _ < _; lia) ?_))
  intro h₅ tk₅ q₅ t6 t7 K5 hnew₅ hq₅
  have F₅ := frBut2 F₄ gg44 gg51 (neN (by ((try dsimp only); (repeat refine sne ?_); first | (first | exact up1 _ | exact up2 _ | exact up3 _ | exact up4 _ | exact up5 _ | exact up6 _) | (refine Ne.symm ?_; (first | exact up1 _ | exact up2 _ | exact up3 _ | exact up4 _ | exact up5 _ | exact up6 _)) | lia | omega))) (neN (by ((try dsimp only); (repeat refine sne ?_); first | (first | exact up1 _ | exact up2 _ | exact up3 _ | exact up4 _ | exact up5 _ | exact up6 _) | (refine Ne.symm ?_; (first | exact up1 _ | exact up2 _ | exact up3 _ | exact up4 _ | exact up5 _ | exact up6 _)) | lia | omega))) K5.but
  have hq3 := K5.but _ _ (N₄.get (.head _)) (T44₄.ne_seq (N₄.get (.head _)) rfl) (T51₄.ne_seq (N₄.get (.head _)) rfl)
  have hn3 := (N₄ _ (.head _)).2
  clear hm44 hm51 hT
  obtain ⟨ty, Ny, hT, ⟨o44', hm44⟩, ⟨o51', hm51⟩, -⟩ := tabs_pack F₅ K5.t44 K5.t51 gg44 gg51
  have N₅ : News g L h₅ ((q₅, tup [.int ((-top) / (- -low)) t6, .int (-((-top) % (- -low))) t7]) :: (q₃, tup [.int (top / low) t4, .int (top % low) t5]) :: ty) := List.forall_mem_cons.mpr ⟨⟨hq₅, fresh_of F₄ hnew₅⟩, List.forall_mem_cons.mpr ⟨⟨hq3, hn3⟩, Ny⟩⟩
  clear F₄ N₄ K5 Ny T44₄ T51₄ hq3 hn3
  rw [Int.neg_neg] at N₅
  have a1 := Int.mul_ediv_add_emod top low
  have a2 := Int.emod_nonneg top (show low ≠ 0 by lia)
  have a3 := Int.emod_lt_of_pos top (show 0 < low by lia)
  have b1 := Int.mul_ediv_add_emod (-top) low
  have b2 := Int.emod_nonneg (-top) (show low ≠ 0 by lia)
  have b3 := Int.emod_lt_of_pos (-top) (show 0 < low by lia)
  generalize top / low = Q1 at *
  generalize top % low = R1 at *
  generalize (-top) / low = Q2 at *
  generalize (-top) % low = R2 at *
  have a1' : Q1 * low + R1 = top := by rw [Int.mul_comm]; exact a1
  have b1' : top - Q2 * -low = -R2 := by rw [Int.mul_neg, Int.mul_comm]; lia
  clear a1 b1
  dsimp only
  k_steps
  · exfalso
    rename_i hc _ _ _ _ _
    have : (low == 0) = false := by simp; lia
    simp [this] at hc
  · refine Stop.go (mul_r ⟨by lia, by lia⟩ ?_)
    dsimp only
    k_steps
    · exfalso
      rename_i hc _ _ _ _ _
      exact absurd a1' (by first | assumption | (simp at hc; exact hc))
    · refine Stop.go (mul_r ⟨by lia, by lia⟩ ?_)
      dsimp only
      k_steps
      · exfalso
        rename_i hc _ _ _ _ _
        exact absurd b1' (by first | assumption | (simp at hc; exact hc))
      · rename_i I₈ h₈ F₈ N₈ l₈
        obtain ⟨T44₈, T51₈⟩ := hT F₈.keep (fun p hp => N₈.get (.tail _ (.tail _ (.tail _ hp))))
        have k1 : @LT.lt Nat _ 44 I₈ := allLt_all l₈.2.2 _ hm44
        have k2 : @LT.lt Nat _ 51 I₈ := allLt_all l₈.2.2 _ hm51
        exact hR _ _ _ _ _ _ ⟨fun b o e n1 n2 => HD.backBut _ F₈.keep b o e (List.forall_mem_cons.mpr ⟨fun q => n1 q.symm, List.forall_mem_cons.mpr ⟨fun q => n2 q.symm, List.forall_mem_nil _⟩⟩), T44₈, T51₈⟩ (HD.fresh _ (N₈.fresh (.head _)) (List.forall_mem_cons.mpr ⟨neN (by ((try dsimp only); (repeat refine sne ?_); first | (first | exact up1 _ | exact up2 _ | exact up3 _ | exact up4 _ | exact up5 _ | exact up6 _) | (refine Ne.symm ?_; (first | exact up1 _ | exact up2 _ | exact up3 _ | exact up4 _ | exact up5 _ | exact up6 _)) | lia | omega)), List.forall_mem_cons.mpr ⟨neN (by ((try dsimp only); (repeat refine sne ?_); first | (first | exact up1 _ | exact up2 _ | exact up3 _ | exact up4 _ | exact up5 _ | exact up6 _) | (refine Ne.symm ?_; (first | exact up1 _ | exact up2 _ | exact up3 _ | exact up4 _ | exact up5 _ | exact up6 _)) | lia | omega)), List.forall_mem_nil _⟩⟩)) (N₈.get (.head _))
end
end
-- 22_mostz
section
section
theorem most_zero {w : World} {A : Around} {s : Shared} {R : Result → Shared → Prop} {p : Program} {loose : List Str} {mean : ExcName → Option Value} {mg mb : Str → Option Value} {G : Heap} {outer : List Env}
   {top size : Int} {t1 t2 t3 : Tok}
   (X : (hd.heap_39 w.params).In G) (T : Top p loose mean mg mb G) (K : Below A G outer s.heap) (D : KtsDicts (outer.filterMap (·.frame)) s.heap)
   (hA : A.handled = none) (hroom : A.depth + 57 < recursionLimit)
   (hR : ∀ (h' g' : Heap) (tk : Tok) (q : Addr) (t4 t5 : Tok) (nl : Nat), KtsTurn (outer.filterMap (·.frame)) s.heap g' → Stays g' h' → g'.get? q = none → h'.get? q = some (lst [.int (if 0 ≤ top then size else -1) t4, .int (if 0 < top then size else -1) t5] nl) → R (.ok (.ret (.ref q))) { s with heap := h', toks := tk}) :
   codeAny (model PR w) A (.call (.ref 102) ⟨[.int top t1, .int 0 t2, .int size t3], []⟩) R s := by
  have st3 : StopAt "exec Try" := .intro
  have st1 : StopAt "call ref" := .intro
  have st2 : StopAt "noteFrame ref" := .intro
  obtain ⟨hh, dp, fr, gd, un⟩ := A
  replace hA : hh = none := hA
  subst hA
  replace hroom : dp + 57 < recursionLimit := hroom
  have Xs := X.keeps K.stays
  have Ts := T.keeps K.stays
  (have hfill : PySem.Challenge.rw_pe0221_01 = PySem.Challenge.rw_pe0221_01 ∧ hd.heap_39 = hd.heap_39 := (by k_fill; exact ⟨rfl, rfl⟩); clear hfill)
  refine' enterE (binds := [(Str.ofString "top", .int top t1), (Str.ofString "low", .int 0 t2), (Str.ofString "size", .int size t3)]) Xs Ts ?ho ?hcd ?hr ?hb ?hl ?_ ?c1 ?c2 ?c3 ?c4
  case ho => k_is
  case hcd => k_is
  case hr => show dp < _; omega
  case hb => exact BindsTo.of_eq rfl
  ((case hl => exact locs rfl); (case c1 => rfl); (case c2 => rfl); (case c3 => rfl); (case c4 => decide))
  intro L h₁ F N
  ((show wpAny _ _ _ _ _ _); k_fold; k_steps)
  refine Stop.go (wpAny_Try_except ?_)
  k_steps
  rename_i h₂ F₂ N₂
  refine Stop.go (wpAny_call (im_zero (K.push F₂ rfl) (Xs.keeps F₂.keep) (Ts.keeps F₂.keep) rfl (room hroom (b := 1) (by decide)) ?_))
  intro h₃ e tk R3 U3
  dsimp only
  k_steps
  refine Stop.go ?_
  k_dflt (refine' caught_SN0 (T' := "ZeroDivisionError") R3 F₂ K U3 X T D KtsTurn.refl ?ex PyProof.Rows.Boot.«ZeroDivisionError» ?hn PySem.F.isExc_ZeroDivisionError PySem.F.notTuple_ZeroDivisionError ?hs ?_)
  case ex => k_is
  case hn => decide
  case hs => kts_sub
  intro h₄ g' T₄ F₄ N₄ K₄ X₄ P₄ D₄
  clear F₂ N₂ R3 U3
  dsimp only
  k_steps
  · rename_i c1 c2 _ _ F₈ N₈ _
    simp only [if_pos c1, if_pos c2] at hR
    exact hR _ g' _ _ _ _ _ T₄ F₈.keep (N₈.fresh (.head _)) (N₈.get (.head _))
  · rename_i c1 c2 _ _ F₈ N₈ _
    simp only [if_pos c1, if_neg c2] at hR
    exact hR _ g' _ _ _ _ _ T₄ F₈.keep (N₈.fresh (.head _)) (N₈.get (.head _))
  · rename_i c1 _ _ F₈ N₈ _
    simp only [if_neg c1, if_neg (show ¬ 0 < top by omega)] at hR
    exact hR _ g' _ _ _ _ _ T₄ F₈.keep (N₈.fresh (.head _)) (N₈.get (.head _))
end
end
-- 23_hsvk
section
theorem fmod_is {a b q r : Int} (h : a = b * q + r) (h0 : 0 ≤ r) (h1 : r < b) : a.fmod b = r := by
  rw [Int.fmod_eq_emod_of_nonneg _ (by (first | assumption | decide | lia | omega))]
  subst h
  rw [Int.mul_comm, Int.add_comm, Int.add_mul_emod_self_right, Int.emod_eq_of_lt h0 h1]
theorem fall_by {k c size q' way : Int} (h : 3 * k - c * size = 3 * size * q' + way) (h0 : 0 ≤ way) (h1 : way < 3 * size) : fallOf k c size = min (max (2 * min way (3 * size - way) - size) 0) size := by
  unfold fallOf; rw [fmod_is h h0 h1]
-- the part's fall in the j-th sixth behind its corner
noncomputable def fallAt (j fr size : Int) : Int := if j = 0 then 0 else if j = 1 then fr else if j = 2 then size else if j = 3 then size else if j = 4 then size - fr else 0
theorem clamp0 {d S : Int} (hS : 0 < S) (h : d ≤ S) : min (max (d - S) 0) S = 0 := by
  rw [Int.max_eq_right (Int.sub_nonpos_of_le h), Int.min_eq_left (Int.le_of_lt hS)]
theorem clampS {d S : Int} (hS : 0 < S) (h : 2 * S ≤ d) : min (max (d - S) 0) S = S := by
  have h1 : S ≤ d - S := by lia
  rw [Int.max_eq_left (Int.le_trans (Int.le_of_lt hS) h1), Int.min_eq_right h1]
theorem clampM {d e S : Int} (h0 : S ≤ d) (h1 : d ≤ 2 * S) (he : d - S = e) : min (max (d - S) 0) S = e := by
  rw [Int.max_eq_left (Int.sub_nonneg_of_le h0), Int.min_eq_left (show d - S ≤ S by lia), he]
theorem two_min {W S : Int} : 2 * min W (3 * S - W) = min (2 * W) (6 * S - 2 * W) := by lia
theorem fall_six {size fr j : Int} (h0 : 0 ≤ fr) (h1 : fr < size) (hc : j = 0 ∨ j = 1 ∨ j = 2 ∨ j = 3 ∨ j = 4 ∨ j = 5) : min (max (min (j * size + fr) (6 * size - (j * size + fr)) - size) 0) size = fallAt j fr size := by
  have hz : 0 < size := by lia
  rcases hc with rfl | rfl | rfl | rfl | rfl | rfl
  · exact clamp0 hz (Int.le_trans (Int.min_le_left _ _) (by (first | assumption | decide | lia | omega)))
  · rw [Int.min_eq_left (show 1 * size + fr ≤ 6 * size - (1 * size + fr) by lia)]; exact clampM (e := fr) (by (first | assumption | decide | lia | omega)) (by (first | assumption | decide | lia | omega)) (by (first | assumption | decide | lia | omega))
  · exact clampS hz (Int.le_min.mpr ⟨by lia, by lia⟩)
  · exact clampS hz (Int.le_min.mpr ⟨by lia, by lia⟩)
  · rw [Int.min_eq_right (show 6 * size - (4 * size + fr) ≤ 4 * size + fr by lia)]; exact clampM (e := size - fr) (by (first | assumption | decide | lia | omega)) (by (first | assumption | decide | lia | omega)) (by (first | assumption | decide | lia | omega))
  · exact clamp0 hz (Int.le_trans (Int.min_le_right _ _) (by (first | assumption | decide | lia | omega)))
theorem fall_is {k c size i fr j : Int} (hk : 6 * k = i * size + fr) (h0 : 0 ≤ fr) (h1 : fr < size) (hj : (i - 2 * c) % 6 = j) : fallOf k c size = fallAt j fr size := by
  have e1 := Int.mul_ediv_add_emod (i - 2 * c) 6
  have j0 := Int.emod_nonneg (i - 2 * c) (show (6 : Int) ≠ 0 by decide)
  have j6 := Int.emod_lt_of_pos (i - 2 * c) (show (0 : Int) < 6 by decide)
  rw [hj] at e1 j0 j6
  generalize (i - 2 * c) / 6 = q at *
  have e2 : i * size = 6 * (size * q) + j * size + 2 * (c * size) := by
    rw [show i = 6 * q + j + 2 * c by lia, Int.add_mul, Int.add_mul, Int.mul_assoc, Int.mul_comm q, Int.mul_assoc 2]
  have e3 : 3 * size * q = 3 * (size * q) := Int.mul_assoc ..
  have hjs : 0 ≤ j * size ∧ j * size ≤ 5 * size := ⟨Int.mul_nonneg j0 (by (first | assumption | decide | lia | omega)), Int.mul_le_mul_of_nonneg_right (by (first | assumption | decide | lia | omega)) (by (first | assumption | decide | lia | omega))⟩
  have e4 : 2 * (3 * k - c * size - 3 * (size * q)) = j * size + fr := by lia
  rw [fall_by (q' := q) (way := 3 * k - c * size - 3 * (size * q)) (by (first | assumption | decide | lia | omega)) (by (first | assumption | decide | lia | omega)) (by (first | assumption | decide | lia | omega)), two_min, e4]
  exact fall_six h0 h1 (six_of j0 j6)
-- the three falls of a place
theorem falls_at {k size i fr m : Int} (hk : 6 * k = i * size + fr) (h0 : 0 ≤ fr) (h1 : fr < size) (hm : i % 6 = m) :
    fallOf k 0 size = fallAt (m % 6) fr size ∧ fallOf k 1 size = fallAt ((m - 2) % 6) fr size ∧ fallOf k 2 size = fallAt ((m - 4) % 6) fr size :=
  ⟨fall_is hk h0 h1 (by rw [← hm, Int.mul_zero, Int.sub_zero, Int.emod_emod_of_dvd _ (Int.dvd_refl 6)]), fall_is hk h0 h1 (by rw [← hm, Int.emod_sub_emod]; rfl), fall_is hk h0 h1 (by rw [← hm, Int.emod_sub_emod]; rfl)⟩
-- the float parts
theorem prod_bound {v z : Int} (hv : 0 ≤ v ∧ v ≤ 8) (hz : 0 ≤ z ∧ z ≤ 65536) : (v * 8192 * z).natAbs ≤ 65536 * 65536 := by
  have h1 : 0 ≤ v * 8192 * z := Int.mul_nonneg (by (first | assumption | decide | lia | omega)) hz.1
  have h2 : v * 8192 * z ≤ 65536 * 65536 := Int.mul_le_mul (by (first | assumption | decide | lia | omega)) hz.2 hz.1 (by (first | assumption | decide | lia | omega))
  lia
section
variable {sa v f : UInt64} {s₀ v₀ Uz size fr : Int}
theorem hsv_part {z : UInt64} {zn fall : Int} (hv : Fl v (v₀ * 8192)) (hz : Fl z zn) (hzn : zn = 8 * (8 * size - s₀ * fall) * Uz) (hv0 : 0 ≤ v₀ ∧ v₀ ≤ 8) (hz0 : 0 ≤ zn ∧ zn ≤ 65536) : Fl (Float64.mul v z) (v₀ * (8 * size - s₀ * fall) * Uz) := by
  have e : v₀ * 8192 * zn = v₀ * (8 * size - s₀ * fall) * Uz * 2 ^ 16 := by
    rw [hzn]
    generalize 8 * size - s₀ * fall = y
    rw [show v₀ * 8192 * (8 * y * Uz) = v₀ * y * Uz * 65536 by
      rw [show v₀ * 8192 * (8 * y * Uz) = 65536 * (v₀ * y * Uz) by
        rw [Int.mul_comm v₀ 8192, Int.mul_assoc 8 y, Int.mul_assoc 8192, Int.mul_left_comm v₀ 8, ← Int.mul_assoc 8192 8, ← Int.mul_assoc v₀ y]
        rfl, Int.mul_comm]]
    rfl
  have b := prod_bound hv0 hz0
  rw [e] at b
  exact Fl.mul hv hz e (by (first | assumption | decide | lia | omega))
theorem zn_bound {fall : Int} (hU : Uz * size = 1024) (hUb : 0 < Uz) (hs : 0 ≤ s₀ ∧ s₀ ≤ 8) (hf : 0 ≤ fall ∧ fall ≤ size) : 0 ≤ 8 * (8 * size - s₀ * fall) * Uz ∧ 8 * (8 * size - s₀ * fall) * Uz ≤ 65536 := by
  have h1 : 0 ≤ s₀ * fall := Int.mul_nonneg hs.1 hf.1
  have h2 : s₀ * fall ≤ 8 * size := Int.mul_le_mul hs.2 hf.2 hf.1 (by (first | assumption | decide | lia | omega))
  generalize s₀ * fall = y at *
  have h3 : 0 ≤ (8 * size - y) * Uz := Int.mul_nonneg (by (first | assumption | decide | lia | omega)) (by (first | assumption | decide | lia | omega))
  have h4 : (8 * size - y) * Uz ≤ 8 * size * Uz := Int.mul_le_mul_of_nonneg_right (by (first | assumption | decide | lia | omega)) (by (first | assumption | decide | lia | omega))
  have h5 : 8 * size * Uz = 8192 := by rw [Int.mul_assoc, Int.mul_comm size, hU]; rfl
  rw [Int.mul_assoc 8]
  lia
theorem hsvP_fl (hv : Fl v (v₀ * 8192)) (hs : Fl sa (s₀ * 8192)) (hU : Uz * size = 1024) (hUb : 0 < Uz) (hz : 0 < size) (hv0 : 0 ≤ v₀ ∧ v₀ ≤ 8) (hs0 : 0 ≤ s₀ ∧ s₀ ≤ 8) : Fl (hsvP sa v) (v₀ * (8 * size - s₀ * size) * Uz) := by
  have b := zn_bound (fall := size) hU hUb hs0 ⟨by lia, by lia⟩
  have e : 65536 - s₀ * 8192 = 8 * (8 * size - s₀ * size) * Uz := by
    rw [← Int.sub_mul, Int.mul_assoc, Int.mul_assoc, Int.mul_comm size, hU]; lia
  exact hsv_part hv (Fl.sub fl_1 hs e (by (first | assumption | decide | lia | omega))) rfl hv0 b
theorem hsvS_fl {g : UInt64} {fall : Int} (hs : Fl sa (s₀ * 8192)) (hf : Fl g (64 * Uz * fall)) (hU : Uz * size = 1024) (hUb : 0 < Uz) (hs0 : 0 ≤ s₀ ∧ s₀ ≤ 8) (hf0 : 0 ≤ fall ∧ fall ≤ size) : Fl (Float64.sub 4607182418800017408 (Float64.mul sa g)) (8 * (8 * size - s₀ * fall) * Uz) := by
  have b := zn_bound (fall := fall) hU hUb hs0 hf0
  have e5 : 8 * (8 * size - s₀ * fall) * Uz = 65536 - 8 * (s₀ * fall * Uz) := by
    rw [Int.mul_assoc, Int.sub_mul, Int.mul_assoc 8, Int.mul_comm size, hU]; lia
  have e : s₀ * 8192 * (64 * Uz * fall) = 8 * (s₀ * fall * Uz) * 2 ^ 16 := by
    rw [Int.mul_assoc 64, Int.mul_comm Uz, Int.mul_comm s₀ 8192, Int.mul_assoc 8192, Int.mul_left_comm s₀ 64, ← Int.mul_assoc s₀ fall]; lia
  exact Fl.sub fl_1 (Fl.mul hs hf e (by (first | assumption | decide | lia | omega))) e5.symm (by (first | assumption | decide | lia | omega))
theorem hsvQ_fl (hv : Fl v (v₀ * 8192)) (hs : Fl sa (s₀ * 8192)) (hf : Fl f (64 * Uz * fr)) (hU : Uz * size = 1024) (hUb : 0 < Uz) (hv0 : 0 ≤ v₀ ∧ v₀ ≤ 8) (hs0 : 0 ≤ s₀ ∧ s₀ ≤ 8) (hf0 : 0 ≤ fr ∧ fr ≤ size) : Fl (hsvQ sa v f) (v₀ * (8 * size - s₀ * fr) * Uz) :=
  hsv_part hv (hsvS_fl hs hf hU hUb hs0 hf0) rfl hv0 (zn_bound hU hUb hs0 hf0)
theorem hsvT_fl (hv : Fl v (v₀ * 8192)) (hs : Fl sa (s₀ * 8192)) (hf : Fl f (64 * Uz * fr)) (hU : Uz * size = 1024) (hUb : 0 < Uz) (hv0 : 0 ≤ v₀ ∧ v₀ ≤ 8) (hs0 : 0 ≤ s₀ ∧ s₀ ≤ 8) (hf0 : 0 ≤ fr ∧ fr ≤ size) : Fl (hsvT sa v f) (v₀ * (8 * size - s₀ * (size - fr)) * Uz) := by
  have e : 65536 - 64 * Uz * fr = 64 * Uz * (size - fr) := by
    rw [Int.mul_sub, Int.mul_assoc 64 Uz size, hU]; lia
  have h1 : 0 ≤ Uz * fr := Int.mul_nonneg (by (first | assumption | decide | lia | omega)) hf0.1
  have h2 : 64 * Uz * fr ≤ 65536 := by
    have : Uz * fr ≤ Uz * size := Int.mul_le_mul_of_nonneg_left hf0.2 (by (first | assumption | decide | lia | omega))
    rw [Int.mul_assoc]; lia
  rw [Int.mul_assoc] at h2
  exact hsv_part hv (hsvS_fl hs (Fl.sub fl_1 hf e (by rw [← e, Int.mul_assoc]; lia)) hU hUb hs0 ⟨by lia, by lia⟩) rfl hv0 (zn_bound hU hUb hs0 ⟨by lia, by lia⟩)
theorem v_col {fall : Int} (hU : Uz * size = 1024) (h0 : s₀ * fall = 0) : v₀ * 8192 = v₀ * (8 * size - s₀ * fall) * Uz := by
  rw [h0, Int.sub_zero, Int.mul_assoc, Int.mul_assoc, Int.mul_comm size, hU]; rfl
-- what hsv_to_rgb tells, by whole numbers
theorem hsv_out {k i : Int} {x y z : UInt64} (O : HsvOut sa v f i x y z) (hv : Fl v (v₀ * 8192)) (hs : Fl sa (s₀ * 8192)) (hf : Fl f (64 * Uz * fr)) (hU : Uz * size = 1024) (hUb : 0 < Uz) (hv0 : 0 ≤ v₀ ∧ v₀ ≤ 8) (hs0 : 0 ≤ s₀ ∧ s₀ ≤ 8)
    (hk : 6 * k = i * size + fr) (h0 : 0 ≤ fr) (h1 : fr < size) : Fl x (colN k 0 size s₀ v₀ Uz) ∧ Fl y (colN k 1 size s₀ v₀ Uz) ∧ Fl z (colN k 2 size s₀ v₀ Uz) := by
  have hP := hsvP_fl hv hs hU hUb (by (first | assumption | decide | lia | omega)) hv0 hs0
  have hQ := hsvQ_fl hv hs hf hU hUb hv0 hs0 ⟨h0, by lia⟩
  have hT := hsvT_fl hv hs hf hU hUb hv0 hs0 ⟨h0, by lia⟩
  have hV : Fl v (v₀ * (8 * size - s₀ * 0) * Uz) := by rw [← v_col hU (Int.mul_zero _)]; exact hv
  unfold colN
  cases O with
  | grey g =>
    have g' : s₀ = 0 := by
      have c := Fl.cmp hs fl_0
      rw [c] at g
      rcases Int.lt_trichotomy (s₀ * 8192) 0 with h | h | h
      · lia
      · lia
      · rw [Int.compare_eq_gt.mpr h] at g; cases g
    refine ⟨?_, ?_, ?_⟩ <;> (rw [← v_col hU (by rw [g', Int.zero_mul])]; exact hv)
  | r0 _ m =>
    obtain ⟨f0, f1, f2⟩ := falls_at hk h0 h1 m
    rw [f0, f1, f2]; exact ⟨hV, hT, hP⟩
  | r1 _ m =>
    obtain ⟨f0, f1, f2⟩ := falls_at hk h0 h1 m
    rw [f0, f1, f2]; exact ⟨hQ, hV, hP⟩
  | r2 _ m =>
    obtain ⟨f0, f1, f2⟩ := falls_at hk h0 h1 m
    rw [f0, f1, f2]; exact ⟨hP, hV, hT⟩
  | r3 _ m =>
    obtain ⟨f0, f1, f2⟩ := falls_at hk h0 h1 m
    rw [f0, f1, f2]; exact ⟨hP, hQ, hV⟩
  | r4 _ m =>
    obtain ⟨f0, f1, f2⟩ := falls_at hk h0 h1 m
    rw [f0, f1, f2]; exact ⟨hT, hP, hV⟩
  | r5 _ m =>
    obtain ⟨f0, f1, f2⟩ := falls_at hk h0 h1 m
    rw [f0, f1, f2]; exact ⟨hV, hP, hQ⟩
end
theorem hsv_k {w : World} {A : Around} {s : Shared} {R : Result → Shared → Prop} {p : Program} {loose : List Str} {mean : ExcName → Option Value} {mg mb : Str → Option Value}
   {k size s₀ v₀ Uz : Int} {h sa v : UInt64} {t1 t2 t3 : Tok} (hh : Fl h (64 * Uz * k)) (hsa : Fl sa (s₀ * 8192)) (hv : Fl v (v₀ * 8192)) (hU : Uz * size = 1024) (hUb : 0 < Uz ∧ Uz ≤ 64) (hz : 0 < size) (hk0 : 0 ≤ k) (hk1 : k ≤ 4096) (hv0 : 0 ≤ v₀ ∧ v₀ ≤ 8) (hs0 : 0 ≤ s₀ ∧ s₀ ≤ 8) (ht3 : t3 ≠ 0)
   (X : (hd.heap_39 w.params).In s.heap) (T : Top p loose mean mg mb s.heap) (hroom : A.depth < recursionLimit)
   (hR : ∀ (h' : Heap) (tk : Tok) (q : Addr) (x y z : UInt64) (t4 t5 t6 : Tok), Stays s.heap h' → s.heap.get? q = none → h'.get? q = some (tup [.float x t4, .float y t5, .float z t6]) → t4 ≠ 0 ∧ t5 ≠ 0 ∧ t6 ≠ 0 →
       Fl x (colN k 0 size s₀ v₀ Uz) → Fl y (colN k 1 size s₀ v₀ Uz) → Fl z (colN k 2 size s₀ v₀ Uz) → R (.ok (.ret (.ref q))) { s with heap := h', toks := tk}) :
   codeAny (model PR w) A (.call (.ref 28) ⟨[.float h t1, .float sa t2, .float v t3], []⟩) R s := by
  have b1 : 0 ≤ Uz * k := Int.mul_nonneg (by (first | assumption | decide | lia | omega)) hk0
  have b2 : Uz * k ≤ 64 * 4096 := Int.mul_le_mul hUb.2 hk1 hk0 (by (first | assumption | decide | lia | omega))
  have hm : Fl (Float64.mul h 4618441417868443648) (384 * (Uz * k)) := Fl.mul hh fl_6 (by rw [Int.mul_assoc 64 Uz k]; lia) (by (first | assumption | decide | lia | omega))
  obtain ⟨sg, m, e, d1, d2⟩ := hm.trunc (by (first | assumption | decide | lia | omega))
  have e1 := Int.mul_ediv_add_emod (6 * k) size
  have e2 := Int.emod_nonneg (6 * k) (show size ≠ 0 by lia)
  have e3 := Int.emod_lt_of_pos (6 * k) hz
  generalize 6 * k % size = fr at *
  generalize 6 * k / size = i at *
  have ei : 384 * (Uz * k) = 65536 * i + 64 * Uz * fr := by
    have : 64 * Uz * (6 * k) = 64 * Uz * (size * i + fr) := by rw [e1]
    rw [Int.mul_add, Int.mul_assoc 64 Uz (size * i), ← Int.mul_assoc Uz size, hU, Int.mul_assoc 64, Int.mul_left_comm Uz 6] at this
    lia
  have f1 : 0 ≤ Uz * fr := Int.mul_nonneg (by (first | assumption | decide | lia | omega)) e2
  have f2 : Uz * fr < 1024 := by rw [← hU]; exact Int.mul_lt_mul_of_pos_left e3 (by (first | assumption | decide | lia | omega))
  rw [Int.mul_assoc 64] at ei
  have hi : Float64.truncOf sg m e = i := by rw [d2]; lia
  refine hsv_c d1 hi (Nat.lt_trans (show i.natAbs < 2 ^ 30 by lia) (Nat.pow_lt_pow_right (by decide) (by decide))) ht3 X T hroom fun h' tk q x y z t4 t5 t6 st hn hq ht O => ?_
  have hfl : Fl (Float64.sub (Float64.mul h 4618441417868443648) (Float64.ofInt i)) (64 * Uz * fr) := Fl.sub hm (Fl.ofInt rfl (by (first | assumption | decide | lia | omega))) (by rw [Int.mul_assoc 64]; lia) (by rw [Int.mul_assoc]; lia)
  obtain ⟨x1, x2, x3⟩ := hsv_out (k := k) O hv hsa hfl hU hUb.1 hv0 hs0 (by rw [Int.mul_comm i]; lia) e2 e3
  exact hR h' tk q x y z t4 t5 t6 st hn hq ht x1 x2 x3
end
-- 24_lam
section
-- the i-th statement of a def, a name given a lambda
noncomputable def asgVal (s : Stmt) : Option Expr := @PySem.Stmt.casesOn (fun _ => Option Expr) s (fun _ _ _ _ _ _ _ _ _ _ => none) (fun _ _ _ _ _ _ _ _ _ _ => none) (fun _ _ _ _ _ _ _ _ _ _ _ => none) (fun _ _ => none) (fun _ _ => none) (fun _ v _ => some v) (fun _ _ _ _ _ _ _ => none) (fun _ _ _ _ => none) (fun _ _ _ _ _ => none) (fun _ _ _ _ _ => none) (fun _ _ _ _ _ => none) (fun _ _ _ _ => none) (fun _ _ _ _ => none) (fun _ _ _ => none) (fun _ _ _ => none) (fun _ _ _ => none) (fun _ _ _ => none) (fun _ _ _ _ _ => none) (fun _ _ _ _ _ => none) (fun _ _ _ => none) (fun _ _ => none) (fun _ _ _ _ => none) (fun _ _ => none) (fun _ _ => none) (fun _ _ => none) (fun _ => none) (fun _ => none) (fun _ => none)
noncomputable def lamParts (s : Expr) : Option (Arguments × Expr × Scope) := @PySem.Expr.casesOn (fun _ => Option (Arguments × Expr × Scope)) s (fun _ _ _ => none) (fun _ _ _ => none) (fun _ _ _ _ => none) (fun _ _ _ => none) (fun p b sc _ => some (p, b, sc)) (fun _ _ _ _ => none) (fun _ _ _ => none) (fun _ _ _ => none) (fun _ _ _ _ => none) (fun _ _ _ _ => none) (fun _ _ _ _ _ => none) (fun _ _ _ _ => none) (fun _ _ => none) (fun _ _ => none) (fun _ _ => none) (fun _ _ _ _ => none) (fun _ _ _ _ => none) (fun _ _ _ _ => none) (fun _ _ => none) (fun _ _ _ => none) (fun _ _ _ => none) (fun _ _ _ => none) (fun _ _ => none) (fun _ _ => none) (fun _ _ => none) (fun _ _ _ => none) (fun _ _ _ _ => none)
noncomputable def lamOf (K : Frag) (f : Addr) (i : Nat) : Option (Arguments × Expr × Scope) := match fnAt K f with
  | some (_, b) => (match b[i]? with
    | some s => (match asgVal s with
      | some e => lamParts e
      | none => none)
    | none => none)
  | none => none
section
variable {prog : Program} {w : World} {A : Around} {s : Shared} {R : Result → Shared → Prop} {name qual : Str} {params : Arguments} {body : Expr} {scope : Scope} {pm cdv ct : Value} {f : Addr} {args : Args} {binds : List (Str × Value)} {cl : List (Str × Addr)} {fo : Obj}
theorem enterL (hlim : s.heap.NoLimit) (hfo : s.heap.get? f = some fo) (hfd : fo.data = .func (kla_fn name qual params body scope cl pm cdv ct)) (hcd : s.heap.CodeRec cdv qual) (hroom : A.depth < recursionLimit)
    (hbind : bindArgs (kla_fn name qual params body scope cl pm cdv ct) args = pure binds) (hloc : ∀ y ∈ binds, scope.names.lookup y.1 = some .local)
    (h : ∀ L h₁, Fr s.heap L h₁ (fun y => binds.reverse.lookup y) → News s.heap L h₁ [] →
      wpAny (model prog w) (A.deeper (envX qual scope L f cdv cl)) (eval body (envX qual scope L f cdv cl))
        (fun v s' => R (.ok (.ret v)) s') (fun _ _ => False)
        { s with heap := h₁, toks := s.toks + binds.length })
    (hco : scope.isCoroutine = false) (hgen : scope.isGenerator = false) (hk : scope.kind = .function)
    (hcell : ∀ x ∈ scope.names, x.2 ≠ .cell) : codeAny (model prog w) A (.call (.ref f) args) R s := by
  refine kla_callFunE hroom hfo hfd hco hgen rfl hcd ?_
  rw [hbind]
  refine wpAny_pure (wpAny_newFunctionEnv hcell hloc (fun h₁ hns hsb => ⟨hlim.fresh _ hsb, ?_⟩) hk)
  have hk₁ : ∀ b o, s.heap.get? b = some o → h₁.get? b = some o := fun b o e => hsb.extBut b o (Nat.ne_of_lt (Heap.lt_size e)) (Heap.get?_push_of_some _ e)
  exact kla_codeExpr (wpAny_mono (h s.heap.objs.size h₁ ⟨hns, hk₁, Nat.le_refl _⟩ News.nil) (fun _ _ x => x) fun _ _ y => y.elim)
end
theorem fall_bound {k c size : Int} (hz : 0 < size) : 0 ≤ fallOf k c size ∧ fallOf k c size ≤ size :=
  ⟨Int.le_min.mpr ⟨Int.le_max_right _ _, Int.le_of_lt hz⟩, Int.min_le_right _ _⟩
theorem colN_bound {k c size s₀ v₀ Uz : Int} (hU : Uz * size = 1024) (hUb : 0 < Uz) (hz : 0 < size) (hv0 : 0 ≤ v₀ ∧ v₀ ≤ 8) (hs0 : 0 ≤ s₀ ∧ s₀ ≤ 8) : 0 ≤ colN k c size s₀ v₀ Uz ∧ colN k c size s₀ v₀ Uz ≤ 65536 := by
  have b := zn_bound hU hUb hs0 (fall_bound (k := k) (c := c) hz)
  unfold colN
  generalize 8 * size - s₀ * fallOf k c size = y at *
  rw [Int.mul_assoc] at b ⊢
  generalize y * Uz = z at *
  exact ⟨Int.mul_nonneg hv0.1 (by (first | assumption | decide | lia | omega)), Int.le_trans (Int.mul_le_mul hv0.2 (Int.le_refl z) (by (first | assumption | decide | lia | omega)) (by (first | assumption | decide | lia | omega))) b.2⟩
theorem sign_bound {sign a : Int} (h : sign = 1 ∨ sign = -1) (ha : 0 ≤ a ∧ a ≤ 65536) : (sign * a).natAbs < 2 ^ 53 := by
  rcases h with rfl | rfl <;> omega
noncomputable abbrev QL : Str := Str.ofString "_law_holds.<locals>.<lambda>"
-- the lambda of _law_holds in the heap
noncomputable def LamAt (w : World) (f : Addr) (a1 a2 a3 a4 a5 : Addr) (h : Heap) : Prop := ∃ params body scope pm c' ct,
  lamOf (hd.heap_39 w.params) 114 9 = some (params, body, scope) ∧
  h.get? f = some (kla_obj (Str.ofString "<lambda>") QL params body scope [(Str.ofString "v", a2), (Str.ofString "size", a4), (Str.ofString "sign", a5), (Str.ofString "s", a3), (Str.ofString "c", a1)] pm c' ct) ∧ h.CodeRec (.ref c') QL
section
theorem lam_gives {w : World} {A : Around} {s : Shared} {R : Result → Shared → Prop} {p : Program} {loose : List Str} {mean : ExcName → Option Value} {mg mb : Str → Option Value}
   {f a1 a2 a3 a4 a5 : Addr} {k c size s₀ v₀ Uz sign : Int} {t t1 t2 t3 t4 t5 : Tok} (hL : LamAt w f a1 a2 a3 a4 a5 s.heap)
   (c1 : CellAt s.heap a1 (.int c t1)) (c2 : CellAt s.heap a2 (.int v₀ t2)) (c3 : CellAt s.heap a3 (.int s₀ t3)) (c4 : CellAt s.heap a4 (.int size t4)) (c5 : CellAt s.heap a5 (.int sign t5))
   (hc : c = 0 ∨ c = 1 ∨ c = 2) (hsg : sign = 1 ∨ sign = -1)
   (hU : Uz * size = 1024) (hUb : 0 < Uz ∧ Uz ≤ 64) (hz : 0 < size) (hk0 : 0 ≤ k) (hk1 : k ≤ 4096) (hv0 : 0 ≤ v₀ ∧ v₀ ≤ 8) (hs0 : 0 ≤ s₀ ∧ s₀ ≤ 8)
   (X : (hd.heap_39 w.params).In s.heap) (T : Top p loose mean mg mb s.heap) (hA : A.handled = none) (hroom : A.depth + 1 < recursionLimit)
   (hR : ∀ (h' : Heap) (tk : Tok) (y : UInt64) (t' : Tok), Stays s.heap h' → Fl y (sign * colN k c size s₀ v₀ Uz) → R (.ok (.ret (.float y t'))) { s with heap := h', toks := tk }) :
   codeAny (model PR w) A (.call (.ref f) ⟨[.int k t], []⟩) R s := by
  have st1 : StopAt "call ref" := .intro
  have st2 : StopAt "binaryOp Div int int" := .intro
  have st3 : StopAt "binaryOp Div int float" := .intro
  have st4 : StopAt "binaryOp Mult int float" := .intro
  obtain ⟨hh, dp, fr, gd, un⟩ := A
  replace hA : hh = none := hA
  subst hA
  obtain ⟨params, body, scope, pm, c', ct, hN, ho, hcd⟩ := hL
  (have hfill : PySem.Challenge.rw_pe0221_01 = PySem.Challenge.rw_pe0221_01 ∧ hd.heap_39 = hd.heap_39 := (by k_fill; exact ⟨rfl, rfl⟩); clear hfill)
  rw [show lamOf (hd.heap_39 w.params) 114 9 = some _ from rfl] at hN
  cases hN
  refine' enterL (binds := [(Str.ofString "k", .int k t)]) T.nolimit ho rfl hcd ?hr ?hb ?hl ?_ ?c1 ?c2 ?c3 ?c4
  case hr => show dp < _; exact Nat.lt_of_succ_lt hroom
  case hb => rfl
  ((case hl => exact locs rfl); (case c1 => rfl); (case c2 => rfl); (case c3 => rfl); (case c4 => decide))
  intro L h₁ F N
  ((show wpAny _ _ _ _ _ _); k_fold; k_steps)
  refine Stop.go (div_ii_fl (c := 64 * Uz * k) (by (first | assumption | decide | lia | omega)) (by
    rw [Int.mul_right_comm 64 Uz k, Int.mul_assoc (64 * k), hU]; lia) (by
    have b1 : 0 ≤ Uz * k := Int.mul_nonneg (by (first | assumption | decide | lia | omega)) hk0
    have b2 : Uz * k ≤ 64 * 4096 := Int.mul_le_mul hUb.2 hk1 hk0 (by (first | assumption | decide | lia | omega))
    rw [Int.mul_assoc]; lia) fun h hh => ?_)
  dsimp only
  k_steps
  refine Stop.go (div_if_fl (c := s₀ * 8192) fl_8 (by decide) (by (first | assumption | decide | lia | omega)) (by (first | assumption | decide | lia | omega)) (by (first | assumption | decide | lia | omega)) fun sa hsa => ?_)
  dsimp only
  k_steps
  refine Stop.go (div_if_fl (c := v₀ * 8192) fl_8 (by decide) (by (first | assumption | decide | lia | omega)) (by (first | assumption | decide | lia | omega)) (by (first | assumption | decide | lia | omega)) fun v hv => ?_)
  dsimp only
  k_steps
  refine Stop.go (wpAny_call (hsv_k hh hsa hv hU hUb hz hk0 hk1 hv0 hs0 (Nat.succ_ne_zero _) (X.keeps F.keep) (T.keeps F.keep) hroom ?_))
  intro h₃ tk q x y z t6 t7 t8 st hn hq _ x1 x2 x3
  have F₃ : Fr s.heap L h₃ _ := ⟨F.ns.keeps st, fun b o e => st b o (F.keep b o e), F.above⟩
  have N₃ : News s.heap L h₃ [(q, tup [.float x t6, .float y t7, .float z t8])] := List.forall_mem_cons.mpr ⟨⟨hq, fresh_of F hn⟩, News.nil⟩
  clear F N
  dsimp only
  rcases hc with rfl | rfl | rfl
  · k_steps
    refine Stop.go (mul_if_fl x1 (by (first | assumption | decide | lia | omega)) (sign_bound hsg (colN_bound hU hUb.1 hz hv0 hs0)) fun y hy => ?_)
    exact hR _ _ _ _ (Fr.keep (by assumption)) hy
  · k_steps
    refine Stop.go (mul_if_fl x2 (by (first | assumption | decide | lia | omega)) (sign_bound hsg (colN_bound hU hUb.1 hz hv0 hs0)) fun y hy => ?_)
    exact hR _ _ _ _ (Fr.keep (by assumption)) hy
  · k_steps
    refine Stop.go (mul_if_fl x3 (by (first | assumption | decide | lia | omega)) (sign_bound hsg (colN_bound hU hUb.1 hz hv0 hs0)) fun y hy => ?_)
    exact hR _ _ _ _ (Fr.keep (by assumption)) hy
end
end
-- 25_bound
section
theorem fd3 (a : Int) : a.fdiv 3 = a / 3 := Int.fdiv_eq_ediv_of_nonneg _ (by decide)
theorem fd6 (a : Int) : a.fdiv 6 = a / 6 := Int.fdiv_eq_ediv_of_nonneg _ (by decide)
theorem lo_up {C size k : Int} (h : (2 * C - 3 * size + 5) / 6 ≤ k) : 2 * C - 3 * size ≤ 6 * k := by lia
theorem hi_up {C k : Int} (h : k < C / 3 + 1) : 3 * k ≤ C := by lia
theorem lo_dn {C k : Int} (h : (C + 2) / 3 ≤ k) : C ≤ 3 * k := by lia
theorem hi_dn {C size k : Int} (h : k < (2 * C + 3 * size) / 6 + 1) : 6 * k ≤ 2 * C + 3 * size := by lia
theorem clamp_le {x M size : Int} (h0 : 0 ≤ M) (h1 : M < size) : min (max x 0) size ≤ M ↔ x ≤ M := by
  constructor
  · intro h
    refine Int.not_lt.mp fun q => ?_
    exact absurd h (Int.not_le.mpr (Int.lt_min.mpr ⟨Int.lt_of_lt_of_le q (Int.le_max_left x 0), h1⟩))
  · intro h
    exact Int.le_trans (Int.min_le_left _ _) (Int.max_le.mpr ⟨h, h0⟩)
theorem clamp_neg {x M size : Int} (h0 : M < 0) (hz : 0 < size) : ¬ min (max x 0) size ≤ M := fun h =>
  absurd h (Int.not_le.mpr (Int.lt_min.mpr ⟨Int.lt_of_lt_of_le h0 (Int.le_max_right x 0), Int.lt_trans h0 hz⟩))
theorem at_up {C M size k : Int} : (C - (M + size) / 2 + 2) / 3 ≤ k ↔ 2 * (C - 3 * k) - size ≤ M := by lia
theorem at_dn {C M size k : Int} : k < (C + (M + size) / 2) / 3 + 1 ↔ 2 * (3 * k - C) - size ≤ M := by lia
section
variable {k c size M : Int}
theorem fall_way {q' way d : Int} (h : 3 * k - c * size = 3 * size * q' + way) (h0 : 0 ≤ way) (h1 : way < 3 * size) (e : min way (3 * size - way) = d) : fallOf k c size = min (max (2 * d - size) 0) size := by
  rw [fall_by h h0 h1, e]
-- on the way up to the corner
theorem fall_rise (hz : 0 < size) (h0 : 2 * ((c + 3) * size) - 3 * size ≤ 6 * k) (h1 : 3 * k ≤ (c + 3) * size) :
    fallOf k c size = min (max (2 * ((c + 3) * size - 3 * k) - size) 0) size := by
  rw [Int.add_mul] at h0 h1 ⊢
  by_cases hd : 3 * k = c * size + 3 * size
  · exact fall_way (q' := 1) (way := 0) (by (first | assumption | decide | lia | omega)) (Int.le_refl 0) (by (first | assumption | decide | lia | omega)) ((Int.min_eq_left (by (first | assumption | decide | lia | omega))).trans (by (first | assumption | decide | lia | omega)))
  · exact fall_way (q' := 0) (way := 3 * k - c * size) (by (first | assumption | decide | lia | omega)) (by (first | assumption | decide | lia | omega)) (by (first | assumption | decide | lia | omega)) ((Int.min_eq_right (by (first | assumption | decide | lia | omega))).trans (by (first | assumption | decide | lia | omega)))
theorem fall_fall (hz : 0 < size) (h0 : (c + 3) * size ≤ 3 * k) (h1 : 6 * k ≤ 2 * ((c + 3) * size) + 3 * size) :
    fallOf k c size = min (max (2 * (3 * k - (c + 3) * size) - size) 0) size := by
  rw [Int.add_mul] at h0 h1 ⊢
  exact fall_way (q' := 1) (way := 3 * k - (c * size + 3 * size)) (by (first | assumption | decide | lia | omega)) (by (first | assumption | decide | lia | omega)) (by (first | assumption | decide | lia | omega)) (Int.min_eq_left (by (first | assumption | decide | lia | omega)))
theorem bnd_rise (hz : 0 < size) (h0 : loOf false ((c + 3) * size) size ≤ k) (h1 : k < hiOf false ((c + 3) * size) size) :
    fallOf k c size ≤ M ↔ oneOf false ((c + 3) * size) size M ≤ k := by
  simp only [oneOf, loOf, hiOf, Bool.false_eq_true, if_false, fd3, fd6, fdiv2] at h0 h1 ⊢
  rw [fall_rise hz (lo_up h0) (hi_up h1)]
  split
  · exact iff_of_false (clamp_neg (by assumption) hz) (Int.not_le.mpr h1)
  · split
    · exact iff_of_true (Int.le_trans (Int.min_le_right _ _) (by assumption)) h0
    · exact (clamp_le (Int.not_lt.mp (by assumption)) (Int.not_le.mp (by assumption))).trans at_up.symm
theorem bnd_fall (hz : 0 < size) (h0 : loOf true ((c + 3) * size) size ≤ k) (h1 : k < hiOf true ((c + 3) * size) size) :
    fallOf k c size ≤ M ↔ k < oneOf true ((c + 3) * size) size M := by
  simp only [oneOf, loOf, hiOf, if_true, fd3, fd6, fdiv2] at h0 h1 ⊢
  rw [fall_fall hz (lo_dn h0) (hi_dn h1)]
  split
  · exact iff_of_false (clamp_neg (by assumption) hz) (Int.not_lt.mpr h0)
  · split
    · exact iff_of_true (Int.le_trans (Int.min_le_right _ _) (by assumption)) h1
    · exact (clamp_le (Int.not_lt.mp (by assumption)) (Int.not_le.mp (by assumption))).trans at_dn.symm
theorem one_in (falls : Bool) (hz : 0 < size) (hc : c = 0 ∨ c = 1 ∨ c = 2) : loOf falls ((c + 3) * size) size ≤ oneOf falls ((c + 3) * size) size M ∧ oneOf falls ((c + 3) * size) size M ≤ hiOf falls ((c + 3) * size) size := by
  have hC : 3 * size ≤ (c + 3) * size := Int.mul_le_mul_of_nonneg_right (by (first | assumption | decide | lia | omega)) (by (first | assumption | decide | lia | omega))
  cases falls
  all_goals
    simp only [oneOf, loOf, hiOf, if_true, Bool.false_eq_true, if_false, fd3, fd6, fdiv2]
    generalize (c + 3) * size = C at *
    split
    · lia
    · split <;> lia
theorem ends_in (falls : Bool) (hz : 16 ≤ size) (hc : c = 0 ∨ c = 1 ∨ c = 2) : 2 ≤ loOf falls ((c + 3) * size) size ∧ hiOf falls ((c + 3) * size) size ≤ 3 * size - 2 ∧ loOf falls ((c + 3) * size) size < hiOf falls ((c + 3) * size) size := by
  have hC : 3 * size ≤ (c + 3) * size := Int.mul_le_mul_of_nonneg_right (by (first | assumption | decide | lia | omega)) (by (first | assumption | decide | lia | omega))
  have hC2 : (c + 3) * size ≤ 5 * size := Int.mul_le_mul_of_nonneg_right (by (first | assumption | decide | lia | omega)) (by (first | assumption | decide | lia | omega))
  cases falls
  all_goals
    simp only [loOf, hiOf, if_true, Bool.false_eq_true, if_false, fd3, fd6]
    generalize (c + 3) * size = C at *
    lia
end
section
variable {k c size s₀ v₀ Uz t top low M0 M1 : Int}
-- the part against the level
theorem col_lt (hU : Uz * size = 1024) (hUb : 0 < Uz) : colN k c size s₀ v₀ Uz < t * 1024 ↔ (8 * v₀ - t) * size < s₀ * v₀ * fallOf k c size := by
  unfold colN
  rw [← hU, Int.mul_comm Uz size, ← Int.mul_assoc t, Int.mul_lt_mul_right hUb]
  rw [Int.mul_sub, Int.sub_mul, Int.mul_left_comm v₀ 8 size, ← Int.mul_assoc v₀ s₀, Int.mul_comm v₀ s₀, Int.mul_assoc 8]
  lia
theorem lt_col (hU : Uz * size = 1024) (hUb : 0 < Uz) : t * 1024 < colN k c size s₀ v₀ Uz ↔ s₀ * v₀ * fallOf k c size < (8 * v₀ - t) * size := by
  unfold colN
  rw [← hU, Int.mul_comm Uz size, ← Int.mul_assoc t, Int.mul_lt_mul_right hUb]
  rw [Int.mul_sub, Int.sub_mul, Int.mul_left_comm v₀ 8 size, ← Int.mul_assoc v₀ s₀, Int.mul_comm v₀ s₀, Int.mul_assoc 8]
  lia
-- how far the part may fall
noncomputable def Most (top low size M0 M1 : Int) : Prop := ∀ f, 0 ≤ f → f ≤ size → (low * f ≤ top ↔ f ≤ M0) ∧ (low * f < top ↔ f ≤ M1)
theorem most_div (h : 1 ≤ low) : Most top low size (top / low) (-((-top) / low) - 1) := fun f _ _ => by
  refine ⟨?_, ?_⟩
  · rw [Int.le_ediv_iff_mul_le (by (first | assumption | decide | lia | omega)), Int.mul_comm]
  · have h1 := Int.mul_ediv_add_emod (-top) low
    have h2 := Int.emod_nonneg (-top) (show low ≠ 0 by lia)
    have h3 := Int.emod_lt_of_pos (-top) (show 0 < low by lia)
    generalize (-top) / low = q at *
    generalize (-top) % low = r at *
    have e : low * f < top ↔ low * f < low * (-q) - r := by rw [Int.mul_neg]; lia
    rw [e]
    constructor
    · intro hlt
      have : low * f < low * (-q) := by lia
      have := Int.lt_of_mul_lt_mul_left this (by (first | assumption | decide | lia | omega))
      lia
    · intro hle
      have := Int.mul_le_mul_of_nonneg_left (show f ≤ -q - 1 by lia) (show 0 ≤ low by lia)
      rw [Int.mul_sub] at this
      lia
theorem most_none (hz : 0 < size) : Most top 0 size (if 0 ≤ top then size else -1) (if 0 < top then size else -1) := fun f h0 h1 => by
  rw [Int.zero_mul]
  refine ⟨?_, ?_⟩ <;> (split <;> lia)
end
end
-- 26_rgbin
section
theorem max3_top {V a b c : Int} (ha : 0 ≤ a) (hb : 0 ≤ b) (hc : 0 ≤ c) (z : a = 0 ∨ b = 0 ∨ c = 0) : V = max (V - a) (max (V - b) (V - c)) := by
  have l : ∀ x, 0 ≤ x → V - x ≤ V := fun x hx => Int.sub_le_self V hx
  refine Int.le_antisymm ?_ (Int.max_le.mpr ⟨l a ha, Int.max_le.mpr ⟨l b hb, l c hc⟩⟩)
  rcases z with rfl | rfl | rfl
  · rw [Int.sub_zero]; exact Int.le_max_left _ _
  · rw [Int.sub_zero]; exact Int.le_trans (Int.le_max_left _ _) (Int.le_max_right _ _)
  · rw [Int.sub_zero]; exact Int.le_trans (Int.le_max_right _ _) (Int.le_max_right _ _)
theorem min3_bot {V T a b c : Int} (ha : a ≤ T) (hb : b ≤ T) (hc : c ≤ T) (z : a = T ∨ b = T ∨ c = T) : V - T = min (V - a) (min (V - b) (V - c)) := by
  have l : ∀ x, x ≤ T → V - T ≤ V - x := fun x hx => Int.sub_le_sub_left hx V
  refine Int.le_antisymm (Int.le_min.mpr ⟨l a ha, Int.le_min.mpr ⟨l b hb, l c hc⟩⟩) ?_
  rcases z with rfl | rfl | rfl
  · exact Int.min_le_left _ _
  · exact Int.le_trans (Int.min_le_right _ _) (Int.min_le_left _ _)
  · exact Int.le_trans (Int.min_le_right _ _) (Int.min_le_right _ _)
theorem v_size {v₀ sv : Int} (hv : 0 ≤ v₀ ∧ v₀ ≤ 8) (h0 : 0 ≤ sv) (h1 : sv ≤ 8 * v₀) : (v₀ * 8192).natAbs < 2 ^ 52 ∧ (v₀ * 8192 - sv * 1024).natAbs < 2 ^ 52 := by lia
theorem u_size {x : Int} (h : 0 ≤ x ∧ x ≤ 1024) : (64 * x).natAbs < 2 ^ 50 := by lia
theorem h6_a {x : Int} (h : 0 ≤ x) (h1 : x < 1024) : -65536 < 64 * x ∧ 64 * x < 65536 ∧ 64 * x = 64 * x % 65536 := ⟨by lia, by lia, (Int.emod_eq_of_lt (by (first | assumption | decide | lia | omega)) (by (first | assumption | decide | lia | omega))).symm⟩
theorem h6_b {x : Int} (h : 1 ≤ x) (h1 : x < 1024) : -65536 < 64 * x - 65536 ∧ 64 * x - 65536 < 65536 ∧ 64 * x = (64 * x - 65536) % 65536 := ⟨by lia, by lia, by rw [Int.sub_emod, Int.emod_self, Int.sub_zero, Int.emod_emod_of_dvd _ (Int.dvd_refl _)]; exact (Int.emod_eq_of_lt (by (first | assumption | decide | lia | omega)) (by (first | assumption | decide | lia | omega))).symm⟩
theorem rgb_in {s₀ v₀ Uz size a F0 F1 F2 : Int} (hU : Uz * size = 1024) (hUb : 0 < Uz ∧ Uz ≤ 64) (hz : 0 < size) (hv0 : 0 ≤ v₀ ∧ v₀ ≤ 8) (hs0 : 0 ≤ s₀ ∧ s₀ ≤ 8) (ha : 0 ≤ a ∧ a < size)
    (b0 : 0 ≤ F0 ∧ F0 ≤ size) (b1 : 0 ≤ F1 ∧ F1 ≤ size) (b2 : 0 ≤ F2 ∧ F2 ≤ size) (hzero : F0 = 0 ∨ F1 = 0 ∨ F2 = 0) (hsize : F0 = size ∨ F1 = size ∨ F2 = size)
    (c0 : F0 = 0 → F2 - F1 = 6 * a ∨ F2 - F1 = 6 * a - 6 * size) (c1 : F0 ≠ 0 → F1 = 0 → 2 * size + F0 - F2 = 6 * a) (c2 : F0 ≠ 0 → F1 ≠ 0 → 4 * size + F1 - F0 = 6 * a) :
    RgbIn (v₀ * (8 * size - s₀ * F0) * Uz) (v₀ * (8 * size - s₀ * F1) * Uz) (v₀ * (8 * size - s₀ * F2) * Uz) (v₀ * 8192) (v₀ * 8192 - s₀ * v₀ * 1024)
      (if s₀ * v₀ = 0 then 0 else 64 * Uz * a) (if s₀ * v₀ = 0 then 0 else s₀ * 8192) := by
  have ex : ∀ F, v₀ * (8 * size - s₀ * F) * Uz = v₀ * 8192 - s₀ * v₀ * Uz * F := fun F => by
    have e8 : 8192 = 8 * (Uz * size) := by rw [hU]; rfl
    rw [e8]
    simp only [Int.mul_sub, Int.sub_mul]
    congr 1
    · simp only [Int.mul_assoc, Int.mul_comm, Int.mul_left_comm]
    · simp only [Int.mul_assoc, Int.mul_comm, Int.mul_left_comm]
  have es : s₀ * v₀ * 1024 = s₀ * v₀ * Uz * size := by rw [← hU, Int.mul_assoc (s₀ * v₀)]
  simp only [ex]
  have hsv : 0 ≤ s₀ * v₀ := Int.mul_nonneg hs0.1 hv0.1
  have hsv8 : s₀ * v₀ ≤ 8 * v₀ := Int.mul_le_mul_of_nonneg_right hs0.2 hv0.1
  have W0 : 0 ≤ s₀ * v₀ * Uz := Int.mul_nonneg hsv (by (first | assumption | decide | lia | omega))
  have WF : ∀ F, 0 ≤ F ∧ F ≤ size → 0 ≤ s₀ * v₀ * Uz * F ∧ s₀ * v₀ * Uz * F ≤ s₀ * v₀ * Uz * size := fun F h => ⟨Int.mul_nonneg W0 h.1, Int.mul_le_mul_of_nonneg_left h.2 W0⟩
  have w0 := WF F0 b0
  have w1 := WF F1 b1
  have w2 := WF F2 b2
  have z0 : ∀ F, F = 0 → s₀ * v₀ * Uz * F = 0 := fun F h => by rw [h, Int.mul_zero]
  have zs : ∀ F, F = size → s₀ * v₀ * Uz * F = s₀ * v₀ * 1024 := fun F h => by rw [h, es]
  rw [← es] at w0 w1 w2
  have zz : s₀ * v₀ * Uz * F0 = 0 ∨ s₀ * v₀ * Uz * F1 = 0 ∨ s₀ * v₀ * Uz * F2 = 0 := hzero.imp (z0 _) (Or.imp (z0 _) (z0 _))
  have ss : s₀ * v₀ * Uz * F0 = s₀ * v₀ * 1024 ∨ s₀ * v₀ * Uz * F1 = s₀ * v₀ * 1024 ∨ s₀ * v₀ * Uz * F2 = s₀ * v₀ * 1024 := hsize.imp (zs _) (Or.imp (zs _) (zs _))
  refine ⟨max3_top w0.1 w1.1 w2.1 zz, min3_bot w0.2 w1.2 w2.2 ss, (v_size hv0 hsv hsv8).1, (v_size hv0 hsv hsv8).2, fun h => ?_, fun h => ?_⟩
  · have : s₀ * v₀ = 0 := by lia
    simp [this]
  · have hne : s₀ * v₀ ≠ 0 := by lia
    simp only [if_neg hne]
    have hv1 : v₀ ≠ 0 := fun h => hne (by rw [h, Int.mul_zero])
    have hWne : s₀ * v₀ * Uz ≠ 0 := Int.mul_ne_zero hne (by (first | assumption | decide | lia | omega))
    have iff0 : ∀ F, s₀ * v₀ * Uz * F = 0 → F = 0 := fun F h => (Int.mul_eq_zero.mp h).resolve_left hWne
    have q : ∀ F, (v₀ * 8192 - (v₀ * 8192 - s₀ * v₀ * Uz * F)) * 2 ^ 16 = 64 * Uz * F * (v₀ * 8192 - (v₀ * 8192 - s₀ * v₀ * 1024)) := fun F => by
      rw [show v₀ * 8192 - (v₀ * 8192 - s₀ * v₀ * Uz * F) = s₀ * v₀ * Uz * F by lia, show v₀ * 8192 - (v₀ * 8192 - s₀ * v₀ * 1024) = 1024 * (s₀ * v₀) by lia]
      generalize s₀ * v₀ = y
      rw [show 64 * Uz * F * (1024 * y) = y * Uz * F * 65536 by
        rw [Int.mul_assoc 64, Int.mul_assoc 64, ← Int.mul_assoc _ 1024, Int.mul_comm _ 1024, Int.mul_assoc 1024, ← Int.mul_assoc 64 1024, Int.mul_assoc y, Int.mul_comm y, Int.mul_comm _ 65536]
        rfl]
      rfl
    have ub : ∀ F, 0 ≤ F ∧ F ≤ size → 0 ≤ Uz * F ∧ Uz * F ≤ 1024 := fun F h => ⟨Int.mul_nonneg (by (first | assumption | decide | lia | omega)) h.1, by rw [← hU]; exact Int.mul_le_mul_of_nonneg_left h.2 (by (first | assumption | decide | lia | omega))⟩
    have u0 := ub F0 b0
    have u1 := ub F1 b1
    have u2 := ub F2 b2
    have ua := ub a ⟨ha.1, by lia⟩
    have ua' : Uz * a < 1024 := by rw [← hU]; exact Int.mul_lt_mul_of_pos_left ha.2 (by (first | assumption | decide | lia | omega))
    refine ⟨by lia, ?_, by lia, 64 * Uz * F0, 64 * Uz * F1, 64 * Uz * F2, ?_⟩
    · rw [show v₀ * 8192 - (v₀ * 8192 - s₀ * v₀ * 1024) = 1024 * (s₀ * v₀) by lia, show s₀ * 8192 * (v₀ * 8192) = 67108864 * (s₀ * v₀) by
        rw [Int.mul_comm s₀ 8192, Int.mul_comm v₀ 8192, Int.mul_assoc, Int.mul_left_comm s₀]; lia]
      lia
    refine (?_ : ∃ h6 : Int, _)
    have r0 : v₀ * 8192 - s₀ * v₀ * Uz * F0 = v₀ * 8192 ↔ F0 = 0 := ⟨fun h => iff0 _ (by (first | assumption | decide | lia | omega)), fun h => by rw [z0 _ h]; lia⟩
    have r1 : v₀ * 8192 - s₀ * v₀ * Uz * F1 = v₀ * 8192 ↔ F1 = 0 := ⟨fun h => iff0 _ (by (first | assumption | decide | lia | omega)), fun h => by rw [z0 _ h]; lia⟩
    have fin : ∀ h6 : Int, (F0 = 0 → 64 * (Uz * F2) - 64 * (Uz * F1) = 6 * h6) → (F0 ≠ 0 → F1 = 0 → 131072 + 64 * (Uz * F0) - 64 * (Uz * F2) = 6 * h6) → (F0 ≠ 0 → F1 ≠ 0 → 262144 + 64 * (Uz * F1) - 64 * (Uz * F0) = 6 * h6) →
      (-65536 < h6 ∧ h6 < 65536 ∧ 64 * (Uz * a) = h6 % 65536) → ∃ h6 : Int, (v₀ * 8192 - (v₀ * 8192 - s₀ * v₀ * Uz * F0)) * 2 ^ 16 = 64 * Uz * F0 * (v₀ * 8192 - (v₀ * 8192 - s₀ * v₀ * 1024)) ∧ (v₀ * 8192 - (v₀ * 8192 - s₀ * v₀ * Uz * F1)) * 2 ^ 16 = 64 * Uz * F1 * (v₀ * 8192 - (v₀ * 8192 - s₀ * v₀ * 1024)) ∧ (v₀ * 8192 - (v₀ * 8192 - s₀ * v₀ * Uz * F2)) * 2 ^ 16 = 64 * Uz * F2 * (v₀ * 8192 - (v₀ * 8192 - s₀ * v₀ * 1024)) ∧
        (64 * Uz * F0).natAbs < 2 ^ 50 ∧ (64 * Uz * F1).natAbs < 2 ^ 50 ∧ (64 * Uz * F2).natAbs < 2 ^ 50 ∧ (v₀ * 8192 - s₀ * v₀ * Uz * F0 = v₀ * 8192 → 64 * Uz * F2 - 64 * Uz * F1 = 6 * h6) ∧ (v₀ * 8192 - s₀ * v₀ * Uz * F0 ≠ v₀ * 8192 → v₀ * 8192 - s₀ * v₀ * Uz * F1 = v₀ * 8192 → 131072 + 64 * Uz * F0 - 64 * Uz * F2 = 6 * h6) ∧ (v₀ * 8192 - s₀ * v₀ * Uz * F0 ≠ v₀ * 8192 → v₀ * 8192 - s₀ * v₀ * Uz * F1 ≠ v₀ * 8192 → 262144 + 64 * Uz * F1 - 64 * Uz * F0 = 6 * h6) ∧ -65536 < h6 ∧ h6 < 65536 ∧ 64 * Uz * a = h6 % 65536 := fun h6 x1 x2 x3 x4 => by
      refine ⟨h6, q F0, q F1, q F2, ?_⟩
      rw [ne_eq, ne_eq, r0, r1]
      simp only [Int.mul_assoc 64 Uz]
      exact ⟨u_size u0, u_size u1, u_size u2, x1, x2, x3, x4⟩
    have e1 : Uz * (2 * size) = 2048 := by rw [Int.mul_left_comm, hU]; rfl
    have e2 : Uz * (4 * size) = 4096 := by rw [Int.mul_left_comm, hU]; rfl
    have e6 : Uz * (6 * size) = 6144 := by rw [Int.mul_left_comm, hU]; rfl
    have ea : Uz * (6 * a) = 6 * (Uz * a) := Int.mul_left_comm ..
    by_cases g0 : F0 = 0
    · rcases c0 g0 with h | h
      · have := congrArg (Uz * ·) h
        simp only [Int.mul_sub, ea] at this
        exact fin (64 * (Uz * a)) (fun _ => by lia) (fun n => absurd g0 n) (fun n => absurd g0 n) (h6_a ua.1 ua')
      · have := congrArg (Uz * ·) h
        simp only [Int.mul_sub, ea, e6] at this
        have hUa : Uz * 1 ≤ Uz * a := Int.mul_le_mul_of_nonneg_left (by (first | assumption | decide | lia | omega)) (by (first | assumption | decide | lia | omega))
        rw [Int.mul_one] at hUa
        exact fin (64 * (Uz * a) - 65536) (fun _ => by lia) (fun n => absurd g0 n) (fun n => absurd g0 n) (h6_b (Int.le_trans hUb.1 hUa) ua')
    · by_cases g1 : F1 = 0
      · have := congrArg (Uz * ·) (c1 g0 g1)
        simp only [Int.mul_sub, Int.mul_add, ea, e1] at this
        exact fin (64 * (Uz * a)) (fun n => absurd n g0) (fun _ _ => by lia) (fun _ n => absurd g1 n) (h6_a ua.1 ua')
      · have := congrArg (Uz * ·) (c2 g0 g1)
        simp only [Int.mul_sub, Int.mul_add, ea, e2] at this
        exact fin (64 * (Uz * a)) (fun n => absurd n g0) (fun _ n => absurd n g1) (fun _ _ => by lia) (h6_a ua.1 ua')
theorem not3 {Uz size : Int} (hU : Uz * size = 1024) : size % 3 ≠ 0 := fun h => by
  have := Int.emod_emod_of_dvd (1024 : Int) (Int.dvd_refl 3)
  have e : (Uz * size) % 3 = 0 := by rw [Int.mul_emod, h, Int.mul_zero]; rfl
  rw [hU] at e
  exact absurd e (by decide)
-- the round trip
theorem rgb_back {k s₀ v₀ Uz size : Int} (hU : Uz * size = 1024) (hUb : 0 < Uz ∧ Uz ≤ 64) (hz : 0 < size) (hv0 : 0 ≤ v₀ ∧ v₀ ≤ 8) (hs0 : 0 ≤ s₀ ∧ s₀ ≤ 8) :
    RgbIn (colN k 0 size s₀ v₀ Uz) (colN k 1 size s₀ v₀ Uz) (colN k 2 size s₀ v₀ Uz) (v₀ * 8192) (v₀ * 8192 - s₀ * v₀ * 1024) (if s₀ * v₀ = 0 then 0 else 64 * Uz * (k % size)) (if s₀ * v₀ = 0 then 0 else s₀ * 8192) := by
  have e1 := Int.mul_ediv_add_emod (6 * k) size
  have e2 := Int.emod_nonneg (6 * k) (show size ≠ 0 by lia)
  have e3 := Int.emod_lt_of_pos (6 * k) hz
  have k1 := Int.mul_ediv_add_emod k size
  have k2 := Int.emod_nonneg k (show size ≠ 0 by lia)
  have k3 := Int.emod_lt_of_pos k hz
  generalize 6 * k % size = fr at *
  generalize 6 * k / size = i at *
  generalize k % size = a at *
  generalize k / size = b at *
  have hk : 6 * k = i * size + fr := by rw [Int.mul_comm i]; lia
  have n3 := not3 hU
  have hb : i = 6 * b + i % 6 := by
    have : size * i + fr = size * (6 * b) + 6 * a := by rw [Int.mul_left_comm]; lia
    have l1 : size * (i - 6 * b) < size * 6 := by rw [Int.mul_sub]; lia
    have l2 : size * (-1) < size * (i - 6 * b) := by rw [Int.mul_sub]; lia
    have := Int.lt_of_mul_lt_mul_left l1 (by (first | assumption | decide | lia | omega))
    have := Int.lt_of_mul_lt_mul_left l2 (by (first | assumption | decide | lia | omega))
    lia
  have ha : 6 * a = i % 6 * size + fr := by
    have : i * size = 6 * (size * b) + i % 6 * size := by
      rw [show i * size = (6 * b + i % 6) * size by rw [← hb], Int.add_mul, Int.mul_assoc, Int.mul_comm b]
    lia
  unfold colN
  have hc := six_of (Int.emod_nonneg i (show (6 : Int) ≠ 0 by decide)) (Int.emod_lt_of_pos i (show (0 : Int) < 6 by decide))
  have bf : 0 ≤ fr ∧ fr ≤ size := ⟨e2, Int.le_of_lt e3⟩
  have bg : 0 ≤ size - fr ∧ size - fr ≤ size := ⟨Int.sub_nonneg_of_le bf.2, Int.sub_le_self size e2⟩
  have bz : (0 : Int) ≤ 0 ∧ 0 ≤ size := ⟨Int.le_refl 0, Int.le_of_lt hz⟩
  have bs : 0 ≤ size ∧ size ≤ size := ⟨Int.le_of_lt hz, Int.le_refl size⟩
  have nz : size ≠ 0 := Int.ne_of_gt hz
  have hg : size - fr ≠ 0 := Int.ne_of_gt (Int.sub_pos_of_lt e3)
  clear e1 k1 hb n3
  rcases hc with m | m | m | m | m | m <;> (obtain ⟨f0, f1, f2⟩ := falls_at hk e2 e3 m; rw [f0, f1, f2]; rw [m] at ha)
  · exact rgb_in (a := a) (F0 := 0) (F1 := size - fr) (F2 := size) hU hUb hz hv0 hs0 ⟨k2, k3⟩ bz bg bs (.inl rfl) (.inr (.inr rfl)) (fun _ => .inl (by (first | assumption | decide | lia | omega))) (fun n => absurd rfl n) (fun n => absurd rfl n)
  · exact rgb_in (a := a) (F0 := fr) (F1 := 0) (F2 := size) hU hUb hz hv0 hs0 ⟨k2, k3⟩ bf bz bs (.inr (.inl rfl)) (.inr (.inr rfl)) (fun _ => .inl (by (first | assumption | decide | lia | omega))) (fun _ _ => by lia) (fun _ n => absurd rfl n)
  · exact rgb_in (a := a) (F0 := size) (F1 := 0) (F2 := size - fr) hU hUb hz hv0 hs0 ⟨k2, k3⟩ bs bz bg (.inr (.inl rfl)) (.inl rfl) (fun n => absurd n nz) (fun _ _ => by lia) (fun _ n => absurd rfl n)
  · exact rgb_in (a := a) (F0 := size) (F1 := fr) (F2 := 0) hU hUb hz hv0 hs0 ⟨k2, k3⟩ bs bf bz (.inr (.inr rfl)) (.inl rfl) (fun n => absurd n nz) (fun _ _ => by lia) (fun _ _ => by lia)
  · exact rgb_in (a := a) (F0 := size - fr) (F1 := size) (F2 := 0) hU hUb hz hv0 hs0 ⟨k2, k3⟩ bg bs bz (.inr (.inr rfl)) (.inr (.inl rfl)) (fun n => absurd n hg) (fun _ n => absurd n nz) (fun _ _ => by lia)
  · exact rgb_in (a := a) (F0 := 0) (F1 := size) (F2 := fr) hU hUb hz hv0 hs0 ⟨k2, k3⟩ bz bs bf (.inl rfl) (.inr (.inl rfl)) (fun _ => .inr (by (first | assumption | decide | lia | omega))) (fun n => absurd rfl n) (fun n => absurd rfl n)
end
-- 27_mostc
section
-- what _law_most leaves: all but the two tables, the callers' frames up to their slots
structure KeptF (fs : List Addr) (G h h' : Heap) : Prop where
  but : ∀ b o, h.get? b = some o → b ≠ 44 → b ≠ 51 → b ∉ fs → h'.get? b = some o
  fr : ∀ b o, h.get? b = some o → b ∈ fs → ∃ sl, h'.get? b = some { o with slots := sl }
  t44 : TabIn 44 73 4 Q44 G h'
  t51 : TabIn 51 88 4 Q51 G h'
theorem tabIn_turn {fs : List Addr} {P : Addr} {line col : Nat} {qual : Str} {G h g' h' : Heap} (x : TabIn P line col qual G h) (D : KtsDicts fs h) (t : KtsTurn fs h g') (st : Stays g' h') : TabIn P line col qual G h' := by
  obtain ⟨tn, ht, htn⟩ := x
  refine ⟨tn, ht, fun p hp => ⟨st _ _ (t.other _ _ (htn p hp).1 fun m => ?_), (htn p hp).2⟩⟩
  obtain ⟨o, es, n, ho, hd⟩ := D _ m
  obtain ⟨vs, hv⟩ := ht.fields hp
  rw [(htn p hp).1] at ho
  cases ho
  rw [hv] at hd; cases hd
theorem most_c {w : World} {A : Around} {s : Shared} {R : Result → Shared → Prop} {p : Program} {loose : List Str} {mean : ExcName → Option Value} {mg mb : Str → Option Value} {G : Heap} {outer : List Env}
   {top low size : Int} {t1 t2 t3 : Tok} (ht0 : -(2 ^ 20) < top) (ht1 : top < 2 ^ 20) (hl0 : 0 ≤ low) (hl1 : low < 2 ^ 7) (hz : 0 < size)
   (X : (hd.heap_39 w.params).In G) (T : Top p loose mean mg mb G) (C44 : CodeHd G 48 44) (C51 : CodeHd G 55 51) (K : Below A G outer s.heap) (D : KtsDicts (outer.filterMap (·.frame)) s.heap) (h44 : TabIn 44 73 4 Q44 G s.heap) (h51 : TabIn 51 88 4 Q51 G s.heap)
   (hA : A.handled = none) (hroom : A.depth + 57 < recursionLimit)
   (hR : ∀ (h' : Heap) (tk : Tok) (q : Addr) (m0 m1 : Int) (t4 t5 : Tok) (nl : Nat), KeptF (outer.filterMap (·.frame)) G s.heap h' → s.heap.get? q = none → h'.get? q = some (lst [.int m0 t4, .int m1 t5] nl) → Most top low size m0 m1 → R (.ok (.ret (.ref q))) { s with heap := h', toks := tk}) :
   codeAny (model PR w) A (.call (.ref 102) ⟨[.int top t1, .int low t2, .int size t3], []⟩) R s := by
  by_cases h0 : low = 0
  · subst h0
    refine most_zero X T K D hA hroom fun h' g' tk q t4 t5 nl tu st hn hq => ?_
    refine hR h' tk q _ _ t4 t5 nl ⟨fun b o e _ _ nm => st _ _ (tu.other b o e nm), fun b o e m => ?_, tabIn_turn h44 D tu st, tabIn_turn h51 D tu st⟩ ?_ hq (most_none hz)
    · obtain ⟨sl, e'⟩ := tu.frame b o e m
      exact ⟨sl, st _ _ e'⟩
    · cases z : s.heap.get? q with
      | none => rfl
      | some o =>
        obtain ⟨sl, e'⟩ := tu.up z
        rw [hn] at e'; cases e'
  · refine most_pos ht0 ht1 (by (first | assumption | decide | lia | omega)) hl1 X T C44 C51 K.stays h44 h51 hA hroom fun h' tk q t4 t5 nl k hn hq => ?_
    refine hR h' tk q _ _ t4 t5 nl ⟨fun b o e n1 n2 _ => k.but b o e n1 n2, fun b o e m => ⟨o.slots, k.but b o e (fun q => ?_) (fun q => ?_)⟩, k.t44, k.t51⟩ hn hq (most_div (by (first | assumption | decide | lia | omega)))
    all_goals
      subst q
      obtain ⟨o', es, n, ho, hd⟩ := D _ m
    · obtain ⟨tn, ht, htn⟩ := h44
      obtain ⟨o2, hm⟩ := ht.mem
      obtain ⟨vs, hv⟩ := ht.fields hm
      rw [(htn _ hm).1] at ho
      cases ho; rw [hv] at hd; cases hd
    · obtain ⟨tn, ht, htn⟩ := h51
      obtain ⟨o2, hm⟩ := ht.mem
      obtain ⟨vs, hv⟩ := ht.fields hm
      rw [(htn _ hm).1] at ho
      cases ho; rw [hv] at hd; cases hd
end
-- 28_rest
section
noncomputable def HaltMark : Prop := True
-- a def's scope and its statements behind the sixth
noncomputable def restN (r : Option (Scope × List Stmt)) (n : Nat) : Option (Scope × List Stmt) := match r with
  | some (sc, b) => some (sc, b.drop n)
  | none => none
noncomputable def restOf (K : Frag) (f : Addr) : Option (Scope × List Stmt) := restN (fnAt K f) 6
noncomputable def restOf10 (K : Frag) (f : Addr) : Option (Scope × List Stmt) := restN (fnAt K f) 10
section
variable {M : Model} {A : Around} {E : Value → Shared → Prop} {s : Shared} {h₀ : Heap} {L a c P : Addr} {m mg mb : Str → Option Value} {cn : Str} {cs : Scope} {ccd : Value} {cl : List (Str × Addr)} {news tx : List (Addr × Obj)} {oP : Obj}
  {p : Program} {loose : List Str} {mean : ExcName → Option Value} {name qual : Str} {params : Arguments} {scope : Scope} {pos : Pos} {firstLine : Nat} {clos : List (Str × Addr)}
-- the lambda's table
noncomputable def LamTab (P : Addr) (line col : Nat) (qual : Str) (G h₀ : Heap) (oP : Obj) : Prop := oP = tabObj #[] ∨ ∃ c' oc, oP = tabObj #[rawInt line, rawInt col, .ref c'] ∧ CodeObjOf qual oc ∧ h₀.get? c' = some oc ∧ G.get? c' = none
-- a lambda made, for the first time or anew
theorem lamAny {G : Heap} {body : Expr} {Q : Value → Shared → Prop} (F : Fr h₀ L s.heap m) (N : News h₀ L s.heap ((P, oP) :: (news ++ tx))) (hG : Stays G h₀) (T : Top p loose mean mg mb h₀) (C : CodeHd h₀ c P) (hcd : ccd = .ref c) (hne : ∀ q ∈ news ++ tx, q.1 ≠ P) {q0 : Addr × Obj} (hq0 : q0 ∈ news) (hL0 : L < q0.1)
    (hT : LamTab P pos.line pos.col qual G h₀ oP) (hcl : closureFor scope (envX cn cs L a ccd cl) = pure clos)
    (h : ∀ f c' oc ctv h' tk tx', Fr h₀ L h' m → CodeObjOf qual oc → c' ≠ P → h'.get? c' = some oc → G.get? c' = none → (∀ q ∈ tx, q ∈ tx') → (h₀.get? c' = some oc ∨ (c', oc) ∈ tx') → (∀ q ∈ (P, oP) :: (news ++ tx), q.1 < f) → L < f → (∀ q ∈ tx', q.1 < f) → (∀ q ∈ tx', q ∈ tx ∨ ∀ r ∈ (P, oP) :: (news ++ tx), r.1 < q.1) →
      News h₀ L h' ((f, kla_obj name qual params body scope clos ((mg "__name__").getD .none) c' ctv) :: (P, tabObj #[rawInt pos.line, rawInt pos.col, .ref c']) :: (news ++ tx')) → Q (.ref f) { s with heap := h', toks := tk }) :
    wpAny M A (makeFunction name qual params (.expr body) scope (envX cn cs L a ccd cl) [] [] [] pos firstLine) Q E s := by
  rcases hT with rfl | ⟨c', oc, rfl, hoc, hc', hGc⟩
  · refine kla_nest F N T C hcd (.head hne) trivial rfl hcl fun f c' oc vs t ctv h' tk F' N' d1 d2 l1 l2 => ?_
    have hLc : L < c' := Nat.lt_trans hL0 (l1 _ (.tail _ (List.mem_append_left _ hq0)))
    have hgc : h₀.get? c' = none := (N' (c', oc) (.tail _ (.head _))).2.2
    refine h f c' oc ctv h' tk ((c', oc) :: tx) F' ⟨vs, t, d1, d2⟩ (Nat.ne_of_gt (l1 _ (.head _))) (N' (c', oc) (.tail _ (.head _))).1 ?_ (fun q hq => .tail _ hq) (.inr (.head _)) (fun q hq => Nat.lt_trans (l1 q hq) l2) (Nat.lt_trans hLc l2) (fun q hq => ?_) (fun q hq => ?_) (news_sub N' fun q hq => ?_)
    · cases z : G.get? c' with
      | none => rfl
      | some o => rw [hG _ _ z] at hgc; cases hgc
    · rcases List.mem_cons.mp hq with rfl | hq
      · exact l2
      · exact Nat.lt_trans (l1 q (.tail _ (List.mem_append_right _ hq))) l2
    · rcases List.mem_cons.mp hq with rfl | hq
      · exact .inr l1
      · exact .inl hq
    · rcases List.mem_cons.mp hq with rfl | hq
      · exact .head _
      · rcases List.mem_cons.mp hq with rfl | hq
        · exact .tail _ (.tail _ (.head _))
        · rcases List.mem_append.mp hq with hq | hq
          · exact .tail _ (.tail _ (.tail _ (List.mem_append_left _ hq)))
          · rcases List.mem_cons.mp hq with rfl | hq
            · exact .tail _ (.head _)
            · exact .tail _ (.tail _ (.tail _ (List.mem_append_right _ hq)))
  · refine kla_hit F N T C hcd (.head _) trivial (codeAmong_one pos c') hcl fun f ctv h' tk F' N' l1 => ?_
    have hLf : L < f := Nat.lt_trans hL0 (l1 _ (.tail _ (List.mem_append_left _ hq0)))
    have hcP : c' ≠ P := fun q => by
      have := (N (P, _) (.head _)).2.2
      rw [← q, hc'] at this; cases this
    exact h f c' oc ctv h' tk tx F' hoc hcP (F'.keep _ _ hc') hGc (fun q hq => hq) (.inl hc') l1 hLf (fun q hq => l1 q (.tail _ (List.mem_append_right _ hq))) (fun q hq => .inl hq) N'
end
theorem booked_none {w : World} {h : Heap} (X : (hd.heap_39 w.params).In h) : NoneBooked h := by
  (have hfill : PySem.Challenge.rw_pe0221_01 = PySem.Challenge.rw_pe0221_01 ∧ hd.heap_39 = hd.heap_39 := (by k_fill; exact ⟨rfl, rfl⟩); clear hfill)
  have e : nsOkIn (hd.heap_39 w.params) cStatics = true := by first | rfl | kernel_rfl | decide +kernel
  have q : nsIn (hd.heap_39 w.params) cStatics sharingNotToldKey = some none := by k_is
  exact ⟨_, .of_isNs (isNs_of_in X e), nsMap_none_of_in X e q⟩
theorem eqAt_fl {A : Around} {s : Shared} {x y : UInt64} {a : Int} {t u : Tok} (hx : Fl x a) (hy : Fl y a) (ht : t ≠ 0) (hu : u ≠ 0) (hb : NoneBooked s.heap) : SeqAt.EqAt A s (.float x t) (.float y u) true := fun prog w E Q hq => by
  unfold eqBool
  refine wpAny_holding ?_
  refine wpAny_ite_split (fun _ => wpAny_bind (wpAny_rule (wpAny_pure hq))) (fun _ => ?_)
  have hc : wpAny (model prog w) A (compareOp .Eq (.float x t) (.float y u)) (fun v s' => wpAny (model prog w) A (truthOfDropped v) Q E s') E s := eq_ff_fl hx hy (by
    rw [show decide (a = a) = true from decide_eq_true rfl]
    exact wpAny_truthy_bool hq)
  refine wpAny_bind ?_
  show wpAny _ A (isSame.created _ t u) _ E s
  have hq' : ∀ b : Bool, wpAny (model prog w) A (if b = true then pure true else (do let r ← richCompare CmpOp.Eq (Value.float x t) (Value.float y u); truthOfDropped r)) Q E s := fun b => by
    cases b
    · exact wpAny_bind hc
    · exact wpAny_pure hq
  unfold isSame.created
  have h0 : (t == 0 || u == 0) = false := by simp [ht, hu]
  refine wpAny_ite ?_
  split
  · rename_i h; rw [h0] at h; exact absurd h Bool.false_ne_true
  refine wpAny_ite ?_
  split
  · exact wpAny_pure (hq' _)
  refine wpAny_ite ?_
  split
  · exact wpAny_pure (hq' _)
  refine wpAny_bind (wpAny_sharingNotTold_none hb ?_)
  first | rw [if_neg Bool.false_ne_true] | simp only [Bool.false_eq_true, if_false]
  refine wpAny_bind (wpAny_sharingNotTold_none hb ?_)
  first | rw [if_neg Bool.false_ne_true] | simp only [Bool.false_eq_true, if_false]
  exact wpAny_bind (wpAny_rule (wpAny_bind (wpAny_askSetting (wpAny_pure (hq' _)))))
-- two tuples of three like floats
theorem ne_tup3 {prog : Program} {w : World} {A : Around} {E : Value → Shared → Prop} {s : Shared} {Q : Value → Shared → Prop} {a b : Addr} {x1 x2 x3 y1 y2 y3 : UInt64} {n1 n2 n3 : Int} {t1 t2 t3 u1 u2 u3 : Tok}
    (ha : s.heap.get? a = some (tup [.float x1 t1, .float x2 t2, .float x3 t3])) (hb : s.heap.get? b = some (tup [.float y1 u1, .float y2 u2, .float y3 u3]))
    (hx1 : Fl x1 n1) (hx2 : Fl x2 n2) (hx3 : Fl x3 n3) (hy1 : Fl y1 n1) (hy2 : Fl y2 n2) (hy3 : Fl y3 n3) (ht : t1 ≠ 0 ∧ t2 ≠ 0 ∧ t3 ≠ 0) (hu' : u1 ≠ 0 ∧ u2 ≠ 0 ∧ u3 ≠ 0) (hbk : NoneBooked s.heap) (hu : A.units < cLine) (h : Q (.bool false) s) :
    wpAny (model prog w) A (compareOp .NotEq (.ref a) (.ref b)) Q E s := by
  refine SeqAt.RcNeAt.tuples (e := fun _ => true) ⟨_, ha, rfl, 0, rfl⟩ ⟨_, hb, rfl, 0, rfl⟩ hu (fun j j1 j2 => ?_) prog w E Q ?_
  · rcases j with _ | _ | _ | j
    · exact eqAt_fl hx1 hy1 ht.1 hu'.1 hbk
    · exact eqAt_fl hx2 hy2 ht.2.1 hu'.2.1 hbk
    · exact eqAt_fl hx3 hy3 ht.2.2 hu'.2.2 hbk
    · exact absurd j1 (Nat.not_lt.mpr (Nat.le_add_left 3 j))
  · exact h
end
-- 29_part
section
-- the lambda and what it reads
structure PartAt (w : World) (p : Program) (loose : List Str) (mean : ExcName → Option Value) (mg mb : Str → Option Value) (f aC aV aS aZ aG : Addr) (c v₀ s₀ size sign : Int) (tc tv ts tz tg : Tok) (h : Heap) : Prop where
  lam : LamAt w f aC aV aS aZ aG h
  cc : CellAt h aC (.int c tc)
  cv : CellAt h aV (.int v₀ tv)
  cs : CellAt h aS (.int s₀ ts)
  cz : CellAt h aZ (.int size tz)
  cg : CellAt h aG (.int sign tg)
  X : (hd.heap_39 w.params).In h
  T : Top p loose mean mg mb h
section
variable {w : World} {p : Program} {loose : List Str} {mean : ExcName → Option Value} {mg mb : Str → Option Value} {f aC aV aS aZ aG : Addr} {c v₀ s₀ size sign Uz lo hi : Int} {tc tv ts tz tg : Tok}
theorem LamAt.keeps {h h' : Heap} (x : LamAt w f aC aV aS aZ aG h) (k : Stays h h') : LamAt w f aC aV aS aZ aG h' := by
  obtain ⟨params, body, scope, pm, c', ct, e1, e2, e3⟩ := x
  exact ⟨params, body, scope, pm, c', ct, e1, k _ _ e2, codeRec_keeps e3 k⟩
theorem PartAt.keeps {h h' : Heap} (k : Stays h h') (x : PartAt w p loose mean mg mb f aC aV aS aZ aG c v₀ s₀ size sign tc tv ts tz tg h) : PartAt w p loose mean mg mb f aC aV aS aZ aG c v₀ s₀ size sign tc tv ts tz tg h' :=
  ⟨x.lam.keeps k, x.cc.keeps k, x.cv.keeps k, x.cs.keeps k, x.cz.keeps k, x.cg.keeps k, x.X.keeps k, x.T.keeps k⟩
theorem PartAt.fn {h : Heap} (x : PartAt w p loose mean mg mb f aC aV aS aZ aG c v₀ s₀ size sign tc tv ts tz tg h) : FnAt f h := by
  obtain ⟨_, _, _, _, _, _, _, e2, _⟩ := x.lam
  exact ⟨_, _, _, _, e2⟩
theorem part_key (hc : c = 0 ∨ c = 1 ∨ c = 2) (hsg : sign = 1 ∨ sign = -1) (hU : Uz * size = 1024) (hUb : 0 < Uz ∧ Uz ≤ 64) (hz : 0 < size) (hv0 : 0 ≤ v₀ ∧ v₀ ≤ 8) (hs0 : 0 ≤ s₀ ∧ s₀ ≤ 8) (h0 : 0 ≤ lo) (h1 : hi ≤ 4096) :
    KeyGives w (PartAt w p loose mean mg mb f aC aV aS aZ aG c v₀ s₀ size sign tc tv ts tz tg) f lo hi (fun k => sign * colN k c size s₀ v₀ Uz) (recursionLimit - 1) cLine :=
  fun _ _ _ _ _ P hA hD _ hk0 hk1 hR => lam_gives P.lam P.cc P.cv P.cs P.cz P.cg hc hsg hU hUb hz (by (first | assumption | decide | lia | omega)) (by (first | assumption | decide | lia | omega)) hv0 hs0 P.X P.T hA (by (first | assumption | decide | lia | omega)) hR
end
end
-- 30_loop
section
-- the outer loop's body in _law_holds, and the inner one's
noncomputable def outerOf (K : Frag) (f : Addr) : Option (Scope × List Stmt) := bodyOf (restOf10 K f) 4
noncomputable def innerOf (K : Frag) (f : Addr) : Option (Scope × List Stmt) := bodyOf (outerOf K f) 4
theorem two_ints {x y : Int} {t u : Tok} {i : Nat} {v : Value} (h : [Value.int x t, .int y u][i]? = some v) : ∃ k t', v = .int k t' ∧ (k = x ∨ k = y) := by
  rcases List.mem_cons.mp (List.mem_of_getElem? h) with rfl | h
  · exact ⟨_, _, rfl, .inl rfl⟩
  · exact ⟨_, _, List.mem_singleton.mp h, .inr rfl⟩
theorem three_fl {x y z : UInt64} {t u r : Tok} {i : Nat} {v : Value} (h : (#[Value.float x t, .float y u, .float z r] : Array Value)[i]? = some v) : ∃ k t', v = .float k t' := by
  rcases List.mem_cons.mp (Array.mem_of_getElem? h).val with rfl | h
  · exact ⟨_, _, rfl⟩
  rcases List.mem_cons.mp h with rfl | h
  · exact ⟨_, _, rfl⟩
  · exact ⟨_, _, List.mem_singleton.mp h⟩
-- what the comprehension pairs
noncomputable def FV (κ : Int → Int) (v y : Value) : Prop := ∃ k t y' t', v = .int k t ∧ y = .float y' t' ∧ Fl y' (κ k)
theorem paired_at {α β : Type} {F : α → β → Prop} {l₁ : List α} {l₂ : List β} (h : Paired F l₁ l₂) : ∀ (i : Nat) a, l₁[i]? = some a → ∃ b, l₂[i]? = some b ∧ F a b := by
  induction h with
  | nil => intro i a e; rw [List.getElem?_nil] at e; cases e
  | cons h _ ih =>
    intro i a e
    cases i with
    | zero =>
      rw [List.getElem?_cons_zero] at e
      cases e
      exact ⟨_, List.getElem?_cons_zero, h⟩
    | succ i =>
      rw [List.getElem?_cons_succ] at e
      obtain ⟨b, hb, hf⟩ := ih i a e
      exact ⟨b, by rw [List.getElem?_cons_succ]; exact hb, hf⟩
theorem floats_of {κ : Int → Int} {a : Int} {n : Nat} {vs : List Value} {ys : List Value} (hlen : vs.length = n) (hP : ∀ j v, vs[j]? = some v → ∃ t, v = Value.int (a + (j : Nat) * 1) t) (hF : Paired (FV κ) (vs.filter fun _ => true) ys) : FloatsAre ys (n : Int) (fun i => κ (a + i)) := by
  rw [List.filter_eq_self.mpr (fun _ _ => rfl)] at hF
  refine ⟨by rw [← hF.length, hlen], fun i h0 h1 => ?_⟩
  have hi : i.toNat < vs.length := by omega
  obtain ⟨b, hb, k, t, y', t', e1, e2, hy⟩ := paired_at hF i.toNat vs[i.toNat] (by simp [hi])
  obtain ⟨t2, e3⟩ := hP i.toNat vs[i.toNat] (by simp [hi])
  rw [e3] at e1
  cases e1
  subst e2
  refine ⟨y', t', hb, ?_⟩
  have : a + (i.toNat : Int) * 1 = a + i := by omega
  rw [this] at hy
  exact hy
section
variable {w : World} {A : Around} {E : Value → Shared → Prop} {s : Shared} {env : Env} {h₀ : Heap}
theorem part_elt {s₃ : Shared} {P : Heap → Prop} {f aP : Addr} {κ : Int → Int} {lo hi k : Int} {D U : Nat} {t : Tok} {x fn : Str} {p1 p2 p3 : Pos} {m₃ : Str → Option Value}
    (hk : env.scope.kind = .function) (hl : env.kindOf fn = some .cell) (hc : env.cells.lookup fn = some aP) (hv : s₃.heap.IsCell aP (some (.ref f))) (hx : env.kindOf x = some .local) (hn : s₃.heap.Ns env.locals m₃) (hm : m₃ x = some (.int k t))
    (hK : KeyGives w P f lo hi κ D U) (hP : P s₃.heap) (hf : FnAt f s₃.heap) (hA : A.handled = none) (hD : A.depth < D) (hU : A.units < U) (h0 : lo ≤ k) (h1 : k < hi)
    (hd1 : (fn == ("__debug__" : Str)) = false) (hd2 : (x == ("__debug__" : Str)) = false) (hse : backTo p3 (starEach [.Name x p2] env) = [(false, eval (.Name x p2) env)]) :
    wpAny (model PR w) A (eval (.Call (.Name fn p1) [.Name x p2] [] p3) env) (fun y s₄ => FV κ (.int k t) y ∧ Keeps s₃ s₄) E s₃ := by
  refine wpAny_Call_NameR (wpAny_Name (wpAny_loadName_cell hk hl hc hv ?_) hd1)
  refine callWith_F hf ?_
  rw [hse]
  refine PySem.Calls.spliced_cons (wpAny_Name (wpAny_loadName_local hk hx hn hm ?_) hd2)
  refine PySem.Calls.spliced_nil ⟨hf, ?_⟩
  refine wpAny_call (hK _ _ _ _ _ hP hA hD hU h0 h1 ?_)
  intro h' tk y t' st hy
  exact ⟨⟨k, t, y, t', rfl, rfl, hy⟩, h', tk, rfl, st⟩
theorem near_iter {scope : Scope} {cl : List (Str × Addr)} {x y fn : Str} {p1 p2 p3 : Pos} {Q : Flow → Shared → Prop} {P : Heap → Prop} {f aP r : Addr} {κ : Int → Int} {lo hi a b : Int} {D U : Nat} {t₀ u₀ w₀ : Tok} {m : Str → Option Value} {news : List (Addr × Obj)} {oP : Obj}
    (hcell : ∀ C, (compEnvC scope cl C env).kindOf fn = some .cell) (hck : ∀ C, (compEnvC scope cl C env).scope.kind = .function) (hcl : cl.lookup fn = some aP) (hx : ∀ C, (compEnvC scope cl C env).kindOf x = some .local)
    (hr : IsRange s.heap r a b 1 t₀ u₀ w₀) (hab : a ≤ b) (hsm : -(2 ^ 20) < a ∧ b < 2 ^ 20)
    (F : Fr h₀ env.locals s.heap m) (N : News h₀ env.locals s.heap news) (hoP : (aP, oP) ∈ news) (dP : oP.data = .cell (some (.ref f)))
    (hK : KeyGives w P f lo hi κ D U) (hP : P s.heap) (hPk : ∀ h h', Stays h h' → P h → P h') (hf : ∀ h, P h → FnAt f h) (hA : A.handled = none) (hD : A.depth < D) (hU : A.units < U) (h0 : lo ≤ a) (h1 : b ≤ hi)
    (hd1 : (fn == ("__debug__" : Str)) = false) (hd2 : (x == ("__debug__" : Str)) = false) (hse : ∀ C, backTo p3 (starEach [.Name x p2] (compEnvC scope cl C env)) = [(false, eval (.Name x p2) (compEnvC scope cl C env))])
    (hQ : ∀ D h' tk ys nn, Fr h₀ env.locals h' (fun z => if z = y then some (.ref D) else m z) → News h₀ env.locals h' ((D, lst ys nn) :: news) → FloatsAre ys (b - a) (fun i => κ (a + i)) → Q .next { s with heap := h', toks := tk }) :
    wpAny (model PR w) A (pyIter (.ref r)) (fun it s₂ => ∃ I fp wr n P St m, it = .ref I ∧ Walks PR w A I fp wr n P St ∧ n ≤ sizeLine ∧ St 0 s₂.heap ∧ (∀ b ∈ fp, b < s₂.heap.objs.size) ∧
      env.locals ∉ wr ∧ s₂.heap.Ns env.locals m ∧ QuietOnC PR w A env scope cl x [] (.Call (.Name fn p1) [.Name x p2] [] p3) wr P (fun _ => true) (FV κ) s₂ ∧
      (∀ D h' tk ys (vs : List Value), s₂.heap.get? D = none → h'.IsList D ys → h'.PlainList D ys → vs.length = n → (∀ j v, vs[j]? = some v → P j v) → Paired (FV κ) (vs.filter fun _ => true) ys.toList →
        h'.Ns env.locals (fun z => if z = y then some (.ref D) else m z) → (∀ b o, b ≠ env.locals → b ∉ wr → s₂.heap.get? b = some o → h'.get? b = some o) → Q .next { s₂ with heap := h', toks := tk })) E s := by
  refine wpAny_pyIter_range hr (small_one (by (first | assumption | decide | lia | omega)) (by (first | assumption | decide | lia | omega)) (by (first | assumption | decide | lia | omega)) (by (first | assumption | decide | lia | omega))) ?_
  have hL : env.locals < s.heap.objs.size := F.ns.lt
  have hsz : (((b - a).toNat : Nat) : Int) = b - a := by omega
  refine ⟨_, _, _, (b - a).toNat, _, _, m, rfl, (Walks.range hA _ a 1 _).bound, ?_, ?_, ?_, ?_, (F.push _).ns, ?_, ?_⟩
  · have : (b - a).toNat ≤ 2 ^ 21 := by omega
    exact Nat.le_trans this (by decide)
  · show IsRangeIter _ _ _ _ _
    rw [rangeSize_nat]
    simpa using Heap.get?_push_size _ rfl
  · intro b hb
    rw [List.mem_singleton.mp hb]
    simp [Heap.size_push]
  · intro hm
    rw [List.mem_singleton.mp hm] at hL
    exact absurd hL (Nat.lt_irrefl _)
  · constructor
    · intro C i v s₃ m₃ E' hC hv hn hm hk htk
      exact wpAny_pure ⟨rfl, _, _, rfl, fun _ _ e => e⟩
    · rintro C i v s₃ m₃ E' hC ⟨hi, t, rfl⟩ _ hn hm hk htk
      have st : Stays s.heap s₃.heap := fun b o e => hk b o (fun hb => absurd (Heap.lt_size e) (by rw [List.mem_singleton.mp hb]; exact Nat.lt_irrefl _)) (Heap.get?_push_of_some _ e)
      have hP3 := hPk _ _ st hP
      exact part_elt (hck C) (hcell C) hcl ⟨_, st _ _ (N _ hoP).1, dP⟩ (hx C) hn hm hK hP3 (hf _ hP3) hA hD hU (by (first | assumption | decide | lia | omega)) (by (first | assumption | decide | lia | omega)) hd1 hd2 (hse C)
  · intro D h' tk ys vs hD _ hpl hlen hPj hF hn hk
    obtain ⟨nn, hpl⟩ := hpl
    have st : ∀ b o, b ≠ env.locals → s.heap.get? b = some o → h'.get? b = some o := fun b o hb e => hk b o hb (fun hb => absurd (Heap.lt_size e) (by rw [List.mem_singleton.mp hb]; exact Nat.lt_irrefl _)) (Heap.get?_push_of_some _ e)
    have fl := floats_of hlen (fun j v e => (hPj j v e).2) hF
    rw [hsz] at fl
    have hDs : s.heap.get? D = none := by
      cases z : s.heap.get? D with
      | none => rfl
      | some o => rw [Heap.get?_push_of_some _ z] at hD; cases hD
    have hDh : h₀.get? D = none := by
      cases z : h₀.get? D with
      | none => rfl
      | some o => rw [F.keep _ _ z] at hDs; cases hDs
    refine hQ D h' tk ys.toList nn ⟨hn, fun b o e => st b o (fun q => ?_) (F.keep _ _ e), F.above⟩ (List.forall_mem_cons.mpr ⟨⟨hpl, ?_, hDh⟩, fun p hp => ⟨st _ _ (N p hp).2.1 (N p hp).1, (N p hp).2⟩⟩) fl
    · have := Heap.lt_size e
      rw [q] at this
      exact absurd this (Nat.not_lt.mpr F.above)
    · rintro rfl
      obtain ⟨o, _, _, e, _⟩ := F.ns
      rw [e] at hDs; cases hDs
theorem near_stmt {iter : Expr} {scope : Scope} {cl : List (Str × Addr)} {x y fn : Str} {p1 p2 p3 px py pos spos : Pos} {Q : Flow → Shared → Prop} {P : Heap → Prop} {f aP : Addr} {κ : Int → Int} {lo hi a b : Int} {D U : Nat} {m : Str → Option Value} {news : List (Addr × Obj)} {oP : Obj}
    (F0 : Fr h₀ env.locals s.heap m) (hsw : swapsWith (.ListComp (.Call (.Name fn p1) [.Name x p2] [] p3) [⟨.Name x px, iter, [], 0⟩] scope pos) (some (.Name y py)) spos.line env = pure true)
    (hclos : closureFor scope env = pure cl) (hcell' : ∀ z ∈ scope.names, z.2 ≠ .cell) (hkind : scope.kind = .function)
    (hnames : ∀ z ∈ scope.names, z.2 = .local → scope.names.lookup z.1 = some .local) (hx' : scope.names.lookup x = some .local)
    (hy : env.kindOf y = some .local) (hp : (env.scope.kind == .class || (env.scope.kind == .module && env.locals != env.globals)) = false)
    (hcell : ∀ C, (compEnvC scope cl C env).kindOf fn = some .cell) (hck : ∀ C, (compEnvC scope cl C env).scope.kind = .function) (hcl : cl.lookup fn = some aP) (hx : ∀ C, (compEnvC scope cl C env).kindOf x = some .local)
    (hab : a ≤ b) (hsm : -(2 ^ 20) < a ∧ b < 2 ^ 20)
    (h : wpAny (model PR w) A (eval iter env) (fun xv s₁ => Stop (∃ r h₁ tk₁ t₀ u₀ w₀, xv = .ref r ∧ s₁ = { s with heap := h₁, toks := tk₁ } ∧ IsRange h₁ r a b 1 t₀ u₀ w₀ ∧ Fr h₀ env.locals h₁ m ∧ News h₀ env.locals h₁ news)) E s)
    (hoP : (aP, oP) ∈ news) (dP : oP.data = .cell (some (.ref f)))
    (hK : KeyGives w P f lo hi κ D U) (hP : ∀ h' m', Fr h₀ env.locals h' m' → News h₀ env.locals h' news → P h') (hPk : ∀ h h', Stays h h' → P h → P h') (hf : ∀ h, P h → FnAt f h) (hA : A.handled = none) (hD : A.depth < D) (hU : A.units < U) (h0 : lo ≤ a) (h1 : b ≤ hi)
    (hd1 : (fn == ("__debug__" : Str)) = false) (hd2 : (x == ("__debug__" : Str)) = false) (hse : ∀ C, backTo p3 (starEach [.Name x p2] (compEnvC scope cl C env)) = [(false, eval (.Name x p2) (compEnvC scope cl C env))])
    (hQ : ∀ D h' tk ys nn, Fr h₀ env.locals h' (fun z => if z = y then some (.ref D) else m z) → News h₀ env.locals h' ((D, lst ys nn) :: news) → FloatsAre ys (b - a) (fun i => κ (a + i)) → Q .next { s with heap := h', toks := tk })
    (hs : ∀ x, foldedSetIterable iter env x = pure x) :
    wpAny (model PR w) A (exec (.Assign [.Name y py] (.ListComp (.Call (.Name fn p1) [.Name x p2] [] p3) [⟨.Name x px, iter, [], 0⟩] scope pos) spos) env) Q E s := by
  refine wpAny_Assign_ListComp_free (cl := cl) (fun _ => true) (FV κ) hsw hclos hcell' hkind hnames hx' hy hp (wpAny_mono h (fun xv s₁ q => ?_) fun _ _ e => e) hs
  obtain ⟨r, h₁, tk₁, t₀, u₀, w₀, rfl, rfl, rg, F, N⟩ := q
  exact near_iter (Q := Q) hcell hck hcl hx rg hab hsm F N hoP dP hK (hP _ _ F N) hPk hf hA hD hU h0 h1 hd1 hd2 hse (fun D h' tk ys nn F' N' fl => hQ D h' tk ys nn F' N' fl)
end
end
-- 31_inner
section
theorem ne_nil {prog : Program} {w : World} {A : Around} {E : Value → Shared → Prop} {s : Shared} {Q : Value → Shared → Prop} {a b : Addr} {n1 n2 : Nat}
    (ha : s.heap.get? a = some (lst [] n1)) (hb : s.heap.get? b = some (lst [] n2)) (hu : A.units < cLine) (h : Q (.bool false) s) : wpAny (model prog w) A (compareOp .NotEq (.ref a) (.ref b)) Q E s := by
  refine SeqAt.RcNeAt.lists (e := fun _ => true) ⟨_, ha, rfl, n1, rfl⟩ ⟨_, hb, rfl, n2, rfl⟩ rfl hu (fun j j1 j2 => absurd j1 (by simp)) prog w E Q ?_
  exact h
section
theorem in_body {w : World} {A : Around} {s : Shared} {Q : Flow → Shared → Prop} {p : Program} {loose : List Str} {mean : ExcName → Option Value} {mg mb : Str → Option Value} {g : Heap} {L : Addr} {m : Str → Option Value} {scope : Scope} {stmts : List Stmt}
   {s₀ v₀ size Uz k : Int} {ts tv tz tk₀ : Tok} {oV oS oZ : Obj} {tx : List (Addr × Obj)}
   (hN : innerOf (hd.heap_39 w.params) 114 = some (scope, stmts))
   (hs0 : 0 ≤ s₀ ∧ s₀ ≤ 8) (hv0 : 0 ≤ v₀ ∧ v₀ ≤ 8) (hz0 : 16 ≤ size) (hz1 : size ≤ 1024) (hU : Uz * size = 1024) (hUb : 0 < Uz ∧ Uz ≤ 64) (hk0 : 0 ≤ k) (hk1 : k ≤ 3072)
   (F : Fr g L s.heap m) (hm : HasAll m [(Str.ofString "k", .int k tk₀)])
   (N : News g L s.heap ((L + 1 + 1 + 1 + 1 + 1 + 1, oV) :: (L + 1 + 1 + 1 + 1, oS) :: (L + 1, oZ) :: tx))
   (dV : oV.data = .cell (some (.int v₀ tv))) (dS : oS.data = .cell (some (.int s₀ ts))) (dZ : oZ.data = .cell (some (.int size tz)))
   (X : (hd.heap_39 w.params).In g) (T : Top p loose mean mg mb g)
   (hA : A.handled = none) (hroom : A.depth + 10 < recursionLimit) (hun : A.units + 300 < cLine)
   (hR : ∀ (h' : Heap) (tk : Tok) (m' : Str → Option Value), Fr g L h' m' → (∀ y, y ≠ Str.ofString "told" → y ≠ Str.ofString "due" → m' y = m y) → News g L h' ((L + 1 + 1 + 1 + 1 + 1 + 1, oV) :: (L + 1 + 1 + 1 + 1, oS) :: (L + 1, oZ) :: tx) → Q .next { s with heap := h', toks := tk}) :
   wpAny (model PR w) (A.deeper (envOfC (Str.ofString "_law_holds") scope L 114 (.ref 113))) (execs stmts (envOfC (Str.ofString "_law_holds") scope L 114 (.ref 113))) Q (fun _ _ => False) s := by
  have st1 : StopAt "call ref" := .intro
  have st2 : StopAt "binaryOp Div int int" := .intro
  have st3 : StopAt "binaryOp Div int float" := .intro
  have st4 : StopAt "compareOp NotEq ref ref" := .intro
  have st5 : StopAt "eval ListComp" := .intro
  have st6 : StopAt "pyIter ref" := .intro
  have st7 : StopAt "eval IfExp" := .intro
  obtain ⟨hh, dp, fr, gd, un⟩ := A
  replace hA : hh = none := hA
  subst hA
  replace hroom : dp + 10 < recursionLimit := hroom
  replace hun : un + 300 < cLine := hun
  (have hfill : PySem.Challenge.rw_pe0221_01 = PySem.Challenge.rw_pe0221_01 ∧ hd.heap_39 = hd.heap_39 := (by k_fill; exact ⟨rfl, rfl⟩); clear hfill)
  rw [show innerOf (hd.heap_39 w.params) 114 = some _ from rfl] at hN
  cases hN
  have F := frSee F hm
  show wpAny _ _ _ _ _ _
  k_steps
  refine Stop.go (div_ii_fl (c := 64 * Uz * k) (by (first | assumption | decide | lia | omega)) (by
    rw [Int.mul_right_comm 64 Uz k, Int.mul_assoc (64 * k), hU]; lia) (by
    have b1 : 0 ≤ Uz * k := Int.mul_nonneg (by (first | assumption | decide | lia | omega)) hk0
    have b2 : Uz * k ≤ 64 * 4096 := Int.mul_le_mul hUb.2 (by (first | assumption | decide | lia | omega)) hk0 (by (first | assumption | decide | lia | omega))
    rw [Int.mul_assoc]; lia) fun hf hhf => ?_)
  dsimp only
  k_steps
  refine Stop.go (div_if_fl (c := s₀ * 8192) fl_8 (by decide) (by (first | assumption | decide | lia | omega)) (by (first | assumption | decide | lia | omega)) (by (first | assumption | decide | lia | omega)) fun sa hsa => ?_)
  dsimp only
  k_steps
  refine Stop.go (div_if_fl (c := v₀ * 8192) fl_8 (by decide) (by (first | assumption | decide | lia | omega)) (by (first | assumption | decide | lia | omega)) (by (first | assumption | decide | lia | omega)) fun vf hvf => ?_)
  dsimp only
  k_steps
  refine Stop.go (wpAny_call (hsv_k hhf hsa hvf hU hUb (by (first | assumption | decide | lia | omega)) hk0 (by (first | assumption | decide | lia | omega)) hv0 hs0 (Nat.succ_ne_zero _) (X.keeps F.keep) (T.keeps F.keep) (room hroom (b := 1) (by decide)) ?_))
  intro h₃ tk₃ q x y z t6 t7 t8 st₃ hn₃ hq₃ ht₃ x1 x2 x3
  have F₃ := F.grownK st₃
  have N₃ : News g L h₃ ((q, tup [.float x t6, .float y t7, .float z t8]) :: (L + 1 + 1 + 1 + 1 + 1 + 1, oV) :: (L + 1 + 1 + 1 + 1, oS) :: (L + 1, oZ) :: tx) := List.forall_mem_cons.mpr ⟨⟨hq₃, fresh_of F hn₃⟩, N.grown st₃⟩
  clear F N
  dsimp only
  k_steps
  rename_i h₄ F₄ N₄
  refine Stop.go (wpAny_call (col_c hv0 ⟨by lia, hz1⟩ hs0 hU hUb (X.keeps F₄.keep) (T.keeps F₄.keep) rfl (room hroom (b := 1) (by decide)) ?_))
  intro h₅ tk₅ q₅ xa ya za t9 t10 t11 st₅ hn₅ hq₅ ht₅ a1 a2 a3
  have F₅ := F₄.grownK st₅
  have N₅ : News g L h₅ ((q, tup [.float x t6, .float y t7, .float z t8]) :: (q₅, tup [.float xa t9, .float ya t10, .float za t11]) :: (L + 1 + 1 + 1 + 1 + 1 + 1, oV) :: (L + 1 + 1 + 1 + 1, oS) :: (L + 1, oZ) :: tx) := by
    have n := N₄.grown st₅
    exact List.forall_mem_cons.mpr ⟨n _ (.head _), List.forall_mem_cons.mpr ⟨⟨hq₅, fresh_of F₄ hn₅⟩, news_sub n fun p hp => .tail _ hp⟩⟩
  clear F₄ N₄
  dsimp only
  k_steps
  refine Stop.go (ne_tup3 (N₅.get (.head _)) (N₅.get (.tail _ (.head _))) x1 x2 x3 a1 a2 a3 ht₃ ht₅ (booked_none (X.keeps F₅.keep)) (room hun (b := 3) (by decide)) ?_)
  have N₆ : News g L h₅ ((q, tup [.float x t6, .float y t7, .float z t8]) :: (L + 1 + 1 + 1 + 1 + 1 + 1, oV) :: (L + 1 + 1 + 1 + 1, oS) :: (L + 1, oZ) :: tx) :=
    List.forall_mem_cons.mpr ⟨N₅ _ (.head _), news_sub N₅ fun p hp => .tail _ (.tail _ hp)⟩
  clear N₅
  k_steps
  refine Stop.go (wpAny_ListComp_free (cl := []) (fun _ => false) (fun _ _ => True) rfl ?hcell rfl ?hnames rfl ?_)
  case hcell => decide
  case hnames => decide
  k_steps
  refine Stop.go (wpAny_pyIter_tuple (items := #[.float x t6, .float y t7, .float z t8]) ⟨_, N₆.get (.head _), rfl, 0, rfl⟩ ?_)
  dsimp only
  have hqI : q ≠ h₅.objs.size := Nat.ne_of_lt (Heap.lt_size (N₆.get (.head _)))
  refine ⟨_, _, _, _, _, _, rfl, Walks.tuple rfl _ q hqI #[.float x t6, .float y t7, .float z t8], (show 3 ≤ sizeLine by decide), ⟨⟨_, Heap.get?_push_size _ rfl, rfl, rfl⟩, ⟨_, Heap.get?_push_of_some _ (N₆.get (.head _)), rfl, 0, rfl⟩⟩, ?_, ?_, ?_⟩
  · intro b hb
    simp only [Heap.size_push]
    rcases List.mem_cons.mp hb with rfl | hb
    · exact Nat.lt_succ_self _
    · rw [List.mem_singleton.mp hb]
      exact Nat.lt_succ_of_lt (Heap.lt_size (N₆.get (.head _)))
  · constructor
    · intro C i v s₃ m₃ E' hC hv hn hmx hk htk
      have Fx : Fr g C s₃.heap m₃ := ⟨hn, fun b o e => hk b o (fun hb => absurd (Heap.lt_size (F₅.keep _ _ e)) (by rw [List.mem_singleton.mp hb]; exact Nat.lt_irrefl _)) (Heap.get?_push_of_some _ (F₅.keep _ _ e)), Nat.le_trans F₅.above (Nat.le_trans (Nat.le_of_lt F₅.ns.lt) (Nat.le_trans (by simp [Heap.size_push]) hC))⟩
      obtain ⟨yv, tv, rfl⟩ := three_fl hv
      have Fx := frSee (ps := [(Str.ofString "x", Value.float yv tv)]) Fx ⟨hmx, trivial⟩
      have Nx : News g C s₃.heap [] := News.nil
      clear F₅ N₆
      refine wpAny_tests_one ?_
      k_steps
      all_goals first | exact ⟨_, _, rfl, fun _ _ e => e⟩ | exact (0 : Nat) | exact ([] : List (Str × Addr)) | exact Value.none | exact Str.ofString ""
    · intro C i v s₃ m₃ E' hC hv hp
      cases hp
  · intro D h' tk' ys vs hD _ hpl hlen hP hF hk
    obtain ⟨nn, hpl⟩ := hpl
    obtain ⟨ys⟩ := ys
    rw [List.filter_eq_nil_iff.mpr (fun _ _ => Bool.false_ne_true)] at hF
    have e : ys = [] := List.eq_nil_of_length_eq_zero hF.length.symm
    subst e
    have st₇ : Stays h₅ h' := fun b o e => hk b o (fun hb => absurd (Heap.lt_size e) (by rw [List.mem_singleton.mp hb]; exact Nat.lt_irrefl _)) (Heap.get?_push_of_some _ e)
    have hD₅ : h₅.get? D = none := by
      cases z : h₅.get? D with
      | none => rfl
      | some o => rw [Heap.get?_push_of_some _ z] at hD; cases hD
    have F₇ := F₅.grownK st₇
    have N₇ : News g L h' ((D, lst [] nn) :: (q, tup [.float x t6, .float y t7, .float z t8]) :: (L + 1 + 1 + 1 + 1 + 1 + 1, oV) :: (L + 1 + 1 + 1 + 1, oS) :: (L + 1, oZ) :: tx) :=
      List.forall_mem_cons.mpr ⟨⟨hpl, fresh_of F₅ hD₅⟩, N₆.grown st₇⟩
    clear F₅ N₆
    k_steps
    rename_i l₈ h₈ F₈ N₈ lt₈
    refine Stop.go (ne_nil (N₈.get (.tail _ (.head _))) (N₈.get (.head _)) (room hun (b := 3) (by decide)) ?_)
    have N₉ : News g L h₈ ((q, tup [.float x t6, .float y t7, .float z t8]) :: (L + 1 + 1 + 1 + 1 + 1 + 1, oV) :: (L + 1 + 1 + 1 + 1, oS) :: (L + 1, oZ) :: tx) := news_sub N₈ fun p hp => .tail _ (.tail _ hp)
    clear N₈ lt₈
    k_steps
    refine Stop.go (wpAny_mono (Q := fun v s' => Stop (∃ qd h' tk a b c ta tb tc, v = .ref qd ∧ s' = { s with heap := h', toks := tk } ∧ Fr g L h' (fun y => if y = Str.ofString "told" then some (Value.ref q) else seeM [(Str.ofString "k", Value.int k tk₀)] m y) ∧
      News g L h' ((q, tup [.float x t6, .float y t7, .float z t8]) :: (qd, tup [.float a ta, .float b tb, .float c tc]) :: (L + 1 + 1 + 1 + 1 + 1 + 1, oV) :: (L + 1 + 1 + 1 + 1, oS) :: (L + 1, oZ) :: tx) ∧
      Fl a (if s₀ * v₀ = 0 then 0 else 64 * Uz * (k % size)) ∧ Fl b (if s₀ * v₀ = 0 then 0 else s₀ * 8192) ∧ Fl c (v₀ * 8192) ∧ ta ≠ 0 ∧ tb ≠ 0 ∧ tc ≠ 0)) ?_ ?_ (fun _ _ x => x))
    · refine PySem.wpAny_IfExp ?_
      have e1 := Int.emod_nonneg k (show size ≠ 0 by lia)
      have e2 := Int.emod_lt_of_pos k (show 0 < size by lia)
      have e3 : k.fmod size = k % size := Int.fmod_eq_emod_of_nonneg _ (by (first | assumption | decide | lia | omega))
      k_steps
      · rename_i hsv
        refine Stop.go (div_if_fl (c := v₀ * 8192) fl_8 (by decide) (by (first | assumption | decide | lia | omega)) (by (first | assumption | decide | lia | omega)) (by (first | assumption | decide | lia | omega)) fun vg hvg => ?_)
        dsimp only
        k_steps
        rename_i qd h9 F9 N9 lt9
        exact Stop.go ⟨qd, h9, _, _, _, _, _, _, _, rfl, rfl, F9, news_sub N9 (by
          intro p hp
          rcases List.mem_cons.mp hp with rfl | hp
          · exact .tail _ (.head _)
          · rcases List.mem_cons.mp hp with rfl | hp
            · exact .head _
            · exact .tail _ (.tail _ hp)), by rw [if_pos hsv]; exact fl_0, by rw [if_pos hsv]; exact fl_0, hvg, by refine ⟨?_, ?_, ?_⟩ <;> first | assumption | exact Nat.succ_ne_zero _⟩
      · rename_i hs1 hv1
        have hsv : ¬ s₀ * v₀ = 0 := fun q => (Int.mul_eq_zero.mp q).elim hs1 hv1
        refine Stop.go (div_ii_fl (c := 64 * Uz * (k % size)) (by (first | assumption | decide | lia | omega)) (by
          rw [e3, Int.mul_right_comm 64 Uz, Int.mul_assoc (64 * (k % size)), hU]; lia) (by
          have b1 : 0 ≤ Uz * (k % size) := Int.mul_nonneg (by (first | assumption | decide | lia | omega)) e1
          have b2 : Uz * (k % size) ≤ 64 * 4096 := Int.mul_le_mul hUb.2 (by (first | assumption | decide | lia | omega)) e1 (by (first | assumption | decide | lia | omega))
          rw [Int.mul_assoc]; lia) fun hg hhg => ?_)
        dsimp only
        k_steps
        refine Stop.go (div_if_fl (c := s₀ * 8192) fl_8 (by decide) (by (first | assumption | decide | lia | omega)) (by (first | assumption | decide | lia | omega)) (by (first | assumption | decide | lia | omega)) fun sg hsg => ?_)
        dsimp only
        k_steps
        refine Stop.go (div_if_fl (c := v₀ * 8192) fl_8 (by decide) (by (first | assumption | decide | lia | omega)) (by (first | assumption | decide | lia | omega)) (by (first | assumption | decide | lia | omega)) fun vg hvg => ?_)
        dsimp only
        k_steps
        rename_i qd h9 F9 N9 lt9
        exact Stop.go ⟨qd, h9, _, _, _, _, _, _, _, rfl, rfl, F9, news_sub N9 (by
          intro p hp
          rcases List.mem_cons.mp hp with rfl | hp
          · exact .tail _ (.head _)
          · rcases List.mem_cons.mp hp with rfl | hp
            · exact .head _
            · exact .tail _ (.tail _ hp)), by rw [if_neg hsv]; exact hhg, by rw [if_neg hsv]; exact hsg, hvg, by refine ⟨?_, ?_, ?_⟩ <;> first | assumption | exact Nat.succ_ne_zero _⟩
    · rintro v s' ⟨qd, hd, tkd, a, b, c, ta, tb, tc, rfl, rfl, Fd, Nd, fa, fb, fc, htd⟩
      clear F₈ N₉
      dsimp only
      k_steps
      rename_i h9 F9 N9
      refine Stop.go (wpAny_call (rgb_c x1 x2 x3 (rgb_back (k := k) hU hUb (by (first | assumption | decide | lia | omega)) hv0 hs0) ht₃ (X.keeps F9.keep) (T.keeps F9.keep) rfl (room hroom (b := 1) (by decide)) ?_))
      intro h₁ tk₁ q₁ xr yr zr u1 u2 u3 st₁ hn₁ hq₁ hu₁ r1 r2 r3
      have F₁ := F9.grownK st₁
      have N₁ : News g L h₁ ((q₁, tup [.float xr u1, .float yr u2, .float zr u3]) :: (q, tup [.float x t6, .float y t7, .float z t8]) :: (qd, tup [.float a ta, .float b tb, .float c tc]) :: (L + 1 + 1 + 1 + 1 + 1 + 1, oV) :: (L + 1 + 1 + 1 + 1, oS) :: (L + 1, oZ) :: tx) :=
        List.forall_mem_cons.mpr ⟨⟨hq₁, fresh_of F9 hn₁⟩, N9.grown st₁⟩
      clear F9 N9
      dsimp only
      k_steps
      refine Stop.go (ne_tup3 (N₁.get (.head _)) (N₁.get (.tail _ (.tail _ (.head _)))) r1 r2 r3 fa fb fc hu₁ htd (booked_none (X.keeps F₁.keep)) (room hun (b := 3) (by decide)) ?_)
      k_steps
      refine hR _ _ _ F₁ (fun y y1 y2 => ?_) (news_sub N₁ fun p hp => .tail _ (.tail _ (.tail _ hp)))
      show (if y = _ then _ else if y = _ then _ else _) = _
      rw [if_neg y2, if_neg y1, seeM_eq hm]
end
end
-- 32_outer
section
section
theorem out_body {w : World} {A : Around} {s : Shared} {Q : Flow → Shared → Prop} {p : Program} {loose : List Str} {mean : ExcName → Option Value} {mg mb : Str → Option Value} {g : Heap} {L f : Addr} {m : Str → Option Value} {scope : Scope} {stmts : List Stmt}
   {c s₀ v₀ size Uz sign lo hi left right place xn : Int} {tc ts tv tz tg tlo thi tle tri tpl tx₀ : Tok} {sx : UInt64} {oV oS oP oZ : Obj} {tx : List (Addr × Obj)}
   (hN : outerOf (hd.heap_39 w.params) 114 = some (scope, stmts))
   (hc : c = 0 ∨ c = 1 ∨ c = 2) (hs0 : 0 ≤ s₀ ∧ s₀ ≤ 8) (hv0 : 0 ≤ v₀ ∧ v₀ ≤ 8) (hz0 : 16 ≤ size) (hz1 : size ≤ 1024) (hU : Uz * size = 1024) (hUb : 0 < Uz ∧ Uz ≤ 64) (hsg : sign = 1 ∨ sign = -1)
   (hlo : 2 ≤ lo) (hhi : hi ≤ 3 * size - 2) (hl1 : lo ≤ left) (hl2 : left ≤ hi) (hr1 : lo ≤ right) (hr2 : right ≤ hi) (hp1 : lo ≤ place) (hp2 : place ≤ hi) (hx : Fl sx xn)
   (kl1 : ∀ k, lo ≤ k → k < left → sign * colN k c size s₀ v₀ Uz < xn) (kl2 : ∀ k, left ≤ k → k < hi → ¬ sign * colN k c size s₀ v₀ Uz < xn)
   (kr1 : ∀ k, lo ≤ k → k < right → ¬ xn < sign * colN k c size s₀ v₀ Uz) (kr2 : ∀ k, right ≤ k → k < hi → xn < sign * colN k c size s₀ v₀ Uz)
   (F : Fr g L s.heap m) (hm : HasAll m [(Str.ofString "place", .int place tpl), (Str.ofString "lo", .int lo tlo), (Str.ofString "hi", .int hi thi), (Str.ofString "left", .int left tle), (Str.ofString "right", .int right tri), (Str.ofString "sought", .float sx tx₀)])
   (N : News g L s.heap ((L + 1 + 1 + 1 + 1 + 1 + 1, oV) :: (L + 1 + 1 + 1 + 1, oS) :: (L + 1, oZ) :: (L + 1 + 1, oP) :: tx))
   (dV : oV.data = .cell (some (.int v₀ tv))) (dS : oS.data = .cell (some (.int s₀ ts))) (dP : oP.data = .cell (some (.ref f))) (dZ : oZ.data = .cell (some (.int size tz)))
   (hPart : ∀ h' m', Fr g L h' m' → News g L h' ((L + 1 + 1 + 1 + 1 + 1 + 1, oV) :: (L + 1 + 1 + 1 + 1, oS) :: (L + 1, oZ) :: (L + 1 + 1, oP) :: tx) → PartAt w p loose mean mg mb f (L + 1 + 1 + 1) (L + 1 + 1 + 1 + 1 + 1 + 1) (L + 1 + 1 + 1 + 1) (L + 1) (L + 1 + 1 + 1 + 1 + 1) c v₀ s₀ size sign tc tv ts tz tg h')
   (X : (hd.heap_39 w.params).In g) (T : Top p loose mean mg mb g)
   (hA : A.handled = none) (hroom : A.depth + 10 < recursionLimit) (hun : A.units + 300 < cLine)
   (hR : ∀ (h' : Heap) (tk : Tok) (m' : Str → Option Value), Fr g L h' m' → (∀ y, y ∉ [Str.ofString "first", Str.ofString "near", Str.ofString "k", Str.ofString "told", Str.ofString "due"] → m' y = m y) → News g L h' ((L + 1 + 1 + 1 + 1 + 1 + 1, oV) :: (L + 1 + 1 + 1 + 1, oS) :: (L + 1, oZ) :: (L + 1 + 1, oP) :: tx) → Q .next { s with heap := h', toks := tk}) :
   wpAny (model PR w) (A.deeper (envOfC (Str.ofString "_law_holds") scope L 114 (.ref 113))) (execs stmts (envOfC (Str.ofString "_law_holds") scope L 114 (.ref 113))) Q (fun _ _ => False) s := by
  have st5 : StopAt "call builtin:min" := .intro
  have st6 : StopAt "call builtin:max" := .intro
  have st1 : StopAt "call ref" := .intro
  have st2 : StopAt "pyIter ref" := .intro
  have st3 : StopAt "exec For Name List cons nil" := .intro
  have st4 : StopAt "exec Assign cons ListComp" := .intro
  obtain ⟨hh, dp, fr, gd, un⟩ := A
  replace hA : hh = none := hA
  subst hA
  replace hroom : dp + 10 < recursionLimit := hroom
  replace hun : un + 300 < cLine := hun
  (have hfill : PySem.Challenge.rw_pe0221_01 = PySem.Challenge.rw_pe0221_01 ∧ hd.heap_39 = hd.heap_39 := (by k_fill; exact ⟨rfl, rfl⟩); clear hfill)
  rw [show outerOf (hd.heap_39 w.params) 114 = some _ from rfl] at hN
  cases hN
  have F := frSee F hm
  show wpAny _ _ _ _ _ _
  k_steps
  repeat' ((with_reducible refine Stop.go ?_); first | ((with_reducible refine min2 rfl (by k_asm) (by k_asm) fun _ _ _ _ _ => ?_); (try k_sweep); k_steps) | ((with_reducible refine max2 rfl (by k_asm) (by k_asm) fun _ _ _ _ _ => ?_); (try k_sweep); k_steps) | fail)
  rename_i t₁ h₁ F₁ N₁
  have hK := part_key (w := w) (p := p) (loose := loose) (mean := mean) (mg := mg) (mb := mb) (f := f) (aC := L + 1 + 1 + 1) (aV := L + 1 + 1 + 1 + 1 + 1 + 1) (aS := L + 1 + 1 + 1 + 1) (aZ := L + 1) (aG := L + 1 + 1 + 1 + 1 + 1) (tc := tc) (tv := tv) (ts := ts) (tz := tz) (tg := tg) (lo := lo) (hi := hi) hc hsg hU hUb (by (first | assumption | decide | lia | omega)) hv0 hs0 (by (first | assumption | decide | lia | omega)) (by (first | assumption | decide | lia | omega))
  refine Stop.go (near_stmt (cl := [(Str.ofString "part", L + 1 + 1)]) (lo := lo) (hi := hi) (a := max lo (place - 2)) (b := min hi (place + 2)) (κ := fun k => sign * colN k c size s₀ v₀ Uz) (f := f) (aP := L + 1 + 1) (oP := oP) F₁ rfl rfl ?hcell rfl ?hnames rfl rfl rfl (fun _ => rfl) (fun _ => rfl) rfl (fun _ => rfl) (by (first | assumption | decide | lia | omega)) ⟨by omega, by lia⟩ ?_ (.tail _ (.tail _ (.tail _ (.head _)))) dP hK hPart (fun _ _ => PartAt.keeps) (fun _ => PartAt.fn) rfl ?hD ?hU (by (first | assumption | decide | lia | omega)) (by (first | assumption | decide | lia | omega)) rfl rfl (fun _ => rfl) ?_ (fun _ => rfl))
  case hcell => decide
  case hnames => decide
  case hD => show dp + 1 < _; omega
  case hU => show un + 3 < _; lia
  · k_steps
    repeat' ((with_reducible refine Stop.go ?_); first | ((with_reducible refine min2 rfl (by k_asm) (by k_asm) fun _ _ _ _ _ => ?_); (try k_sweep); k_steps) | ((with_reducible refine max2 rfl (by k_asm) (by k_asm) fun _ _ _ _ _ => ?_); (try k_sweep); k_steps) | fail)
    rename_i h₂ tk₂ tm₂ F₂ N₂ h₃ tk₃ ta tb tc' rg F₃ N₃ st₃
    exact Stop.go ⟨_, _, _, _, _, _, rfl, rfl, rg, F₃, N₃⟩
  intro D h₄ tk₄ ys nn F₄ N₄ hys
  clear F₁ N₁
  replace F₄ : Fr g L h₄ _ := F₄
  replace N₄ : News g L h₄ ((D, lst ys nn) :: (L + 1 + 1 + 1 + 1 + 1 + 1, oV) :: (L + 1 + 1 + 1 + 1, oS) :: (L + 1, oZ) :: (L + 1 + 1, oP) :: tx) := N₄
  have hab : max lo (place - 2) ≤ min hi (place + 2) := by lia
  have hfi1 : lo ≤ max lo (place - 2) := by lia
  have hbi1 : min hi (place + 2) ≤ hi := by lia
  have hn4 : min hi (place + 2) - max lo (place - 2) ≤ 4 := by omega
  generalize max lo (place - 2) = first at *
  generalize min hi (place + 2) = bb at *
  have hlen := hys.1
  dsimp only
  k_steps
  repeat' ((with_reducible refine Stop.go ?_); first | ((with_reducible refine min2 rfl (by k_asm) (by k_asm) fun _ _ _ _ _ => ?_); (try k_sweep); k_steps) | ((with_reducible refine max2 rfl (by k_asm) (by k_asm) fun _ _ _ _ _ => ?_); (try k_sweep); k_steps) | fail)
  refine Stop.go (wpAny_call (bl_list (res := min (max (left - first) 0) (bb - first)) ⟨_, N₄.get (.head _), rfl, nn, rfl⟩ hys hx (by (first | assumption | decide | lia | omega)) (by (first | assumption | decide | lia | omega)) (by (first | assumption | decide | lia | omega)) (fun k k0 k1 => kl1 _ (by (first | assumption | decide | lia | omega)) (by (first | assumption | decide | lia | omega))) (fun k k0 k1 => kl2 _ (by (first | assumption | decide | lia | omega)) (by (first | assumption | decide | lia | omega))) (X.keeps F₄.keep) (T.keeps F₄.keep) rfl (room hroom (b := 1) (by decide)) ?_))
  intro h₅ tk₅ t₅ st₅
  have F₅ := F₄.grownK st₅
  have N₅ : News g L h₅ ((D, lst ys nn) :: (L + 1 + 1 + 1 + 1 + 1 + 1, oV) :: (L + 1 + 1 + 1 + 1, oS) :: (L + 1, oZ) :: (L + 1 + 1, oP) :: tx) := N₄.grown st₅
  clear F₄ N₄
  dsimp only
  k_steps
  repeat' ((with_reducible refine Stop.go ?_); first | ((with_reducible refine min2 rfl (by k_asm) (by k_asm) fun _ _ _ _ _ => ?_); (try k_sweep); k_steps) | ((with_reducible refine max2 rfl (by k_asm) (by k_asm) fun _ _ _ _ _ => ?_); (try k_sweep); k_steps) | fail)
  rename_i h₆ tk₆ t₆ F₆ N₆
  refine len_list ⟨_, N₆.get (.head _), rfl, nn, rfl⟩ (by simp; omega) ?_
  rw [List.size_toArray, hlen]
  dsimp only
  k_steps
  repeat' ((with_reducible refine Stop.go ?_); first | ((with_reducible refine min2 rfl (by k_asm) (by k_asm) fun _ _ _ _ _ => ?_); (try k_sweep); k_steps) | ((with_reducible refine max2 rfl (by k_asm) (by k_asm) fun _ _ _ _ _ => ?_); (try k_sweep); k_steps) | fail)
  · rename_i q
    exact absurd rfl q
  rename_i h₇ tk₇ t₇ F₇ N₇ _
  refine Stop.go (wpAny_call (br_list (res := min (max (right - first) 0) (bb - first)) ⟨_, N₇.get (.head _), rfl, nn, rfl⟩ hys hx (by (first | assumption | decide | lia | omega)) (by (first | assumption | decide | lia | omega)) (by (first | assumption | decide | lia | omega)) (fun k k0 k1 => kr1 _ (by (first | assumption | decide | lia | omega)) (by (first | assumption | decide | lia | omega))) (fun k k0 k1 => kr2 _ (by (first | assumption | decide | lia | omega)) (by (first | assumption | decide | lia | omega))) (X.keeps F₇.keep) (T.keeps F₇.keep) rfl (room hroom (b := 1) (by decide)) ?_))
  intro h₈ tk₈ t₈ st₈
  have F₈ := F₇.grownK st₈
  have N₈ : News g L h₈ ((D, lst ys nn) :: (L + 1 + 1 + 1 + 1 + 1 + 1, oV) :: (L + 1 + 1 + 1 + 1, oS) :: (L + 1, oZ) :: (L + 1 + 1, oP) :: tx) := N₇.grown st₈
  clear F₇ N₇
  dsimp only
  k_steps
  repeat' ((with_reducible refine Stop.go ?_); first | ((with_reducible refine min2 rfl (by k_asm) (by k_asm) fun _ _ _ _ _ => ?_); (try k_sweep); k_steps) | ((with_reducible refine max2 rfl (by k_asm) (by k_asm) fun _ _ _ _ _ => ?_); (try k_sweep); k_steps) | fail)
  rename_i h₉ tk₉ t₉ F₉ N₉
  refine len_list ⟨_, N₉.get (.head _), rfl, nn, rfl⟩ (by simp; omega) ?_
  rw [List.size_toArray, hlen]
  dsimp only
  k_steps
  repeat' ((with_reducible refine Stop.go ?_); first | ((with_reducible refine min2 rfl (by k_asm) (by k_asm) fun _ _ _ _ _ => ?_); (try k_sweep); k_steps) | ((with_reducible refine max2 rfl (by k_asm) (by k_asm) fun _ _ _ _ _ => ?_); (try k_sweep); k_steps) | fail)
  · rename_i q
    exact absurd rfl q
  rename_i h₁ tk₁ t₁₁ F₁ N₁ _
  refine Stop.go (For_inv3 g rfl rfl ?_)
  have N₂ : News g L h₁ ((L + 1 + 1 + 1 + 1 + 1 + 1, oV) :: (L + 1 + 1 + 1 + 1, oS) :: (L + 1, oZ) :: (L + 1 + 1, oP) :: tx) := news_sub N₁ fun p hp => .tail _ hp
  clear N₁
  k_steps
  repeat' ((with_reducible refine Stop.go ?_); first | ((with_reducible refine min2 rfl (by k_asm) (by k_asm) fun _ _ _ _ _ => ?_); (try k_sweep); k_steps) | ((with_reducible refine max2 rfl (by k_asm) (by k_asm) fun _ _ _ _ _ => ?_); (try k_sweep); k_steps) | fail)
  rename_i l₃ h₃ F₃ N₃ lt₃
  refine Stop.go (iter_lst (a := l₃) (items := [.int (place - 1) (tk₁ + 1), .int place tpl]) (nl := 0) (news := (L + 1 + 1 + 1 + 1 + 1 + 1, oV) :: (L + 1 + 1 + 1 + 1, oS) :: (L + 1, oZ) :: (L + 1 + 1, oP) :: tx)
    (fun _ m₁ nw => nw = (L + 1 + 1 + 1 + 1 + 1 + 1, oV) :: (L + 1 + 1 + 1 + 1, oS) :: (L + 1, oZ) :: (L + 1 + 1, oP) :: tx ∧ ∀ y, y ∉ [Str.ofString "first", Str.ofString "near", Str.ofString "k", Str.ofString "told", Str.ofString "due"] → m₁ y = m y) rfl F₃ N₃ ⟨rfl, ?j0⟩ ?step ?done)
  case j0 =>
    intro y hy
    simp only [List.mem_cons, List.not_mem_nil, or_false, not_or] at hy
    show (if y = _ then _ else if y = _ then _ else _) = _
    rw [if_neg hy.2.1, if_neg hy.1, seeM_eq hm]
  case step =>
    rintro i v m₁ nw h₆ tk₆ own hi ⟨rfl, hm₁⟩ hadr hown F₆ N₆
    obtain ⟨k, t', rfl, hk⟩ := two_ints hi
    refine in_body (tk₀ := t') (tx := (L + 1 + 1, oP) :: (tx ++ own)) rfl hs0 hv0 hz0 hz1 hU hUb (k := k) (by (first | assumption | decide | lia | omega)) (by (first | assumption | decide | lia | omega)) F₆ ⟨rfl, trivial⟩ (news_sub N₆ ?ns) dV dS dZ X T rfl hroom hun ?_
    case ns => ((try dsimp only [List.cons_append, List.nil_append]); (try (refine List.forall_mem_append.mpr ⟨?pa, ?_⟩; (case pa => (intro q hq; (repeat first | exact hq | exact List.mem_append_left _ hq | exact List.mem_append_right _ hq | refine List.mem_cons_of_mem _ ?_ | refine List.mem_append_right _ ?_); done)))); (repeat refine List.forall_mem_cons.mpr ⟨by first | k_mem | exact List.mem_append_right _ (by k_mem) | exact List.mem_append_left _ (by k_mem), ?_⟩); first | exact List.forall_mem_nil _ | (intro q hq; (repeat first | exact hq | exact List.mem_append_left _ hq | exact List.mem_append_right _ hq | refine List.mem_cons_of_mem _ ?_ | refine List.mem_append_right _ ?_); done) | (refine List.forall_mem_append.mpr ⟨?_, ?_⟩ <;> (intro q hq; (repeat first | exact hq | exact List.mem_append_left _ hq | exact List.mem_append_right _ hq | refine List.mem_cons_of_mem _ ?_ | refine List.mem_append_right _ ?_); done)))
    intro h' tk' m' F' hm' N'
    refine ⟨rfl, h', tk', m', _, rfl, F', news_sub N' ?_, rfl, rfl, fun y hy => ?_⟩
    · ((try dsimp only [List.cons_append, List.nil_append]); (try (refine List.forall_mem_append.mpr ⟨?pa, ?_⟩; (case pa => (intro q hq; (repeat first | exact hq | exact List.mem_append_left _ hq | exact List.mem_append_right _ hq | refine List.mem_cons_of_mem _ ?_ | refine List.mem_append_right _ ?_); done)))); (repeat refine List.forall_mem_cons.mpr ⟨by first | k_mem | exact List.mem_append_right _ (by k_mem) | exact List.mem_append_left _ (by k_mem), ?_⟩); first | exact List.forall_mem_nil _ | (intro q hq; (repeat first | exact hq | exact List.mem_append_left _ hq | exact List.mem_append_right _ hq | refine List.mem_cons_of_mem _ ?_ | refine List.mem_append_right _ ?_); done) | (refine List.forall_mem_append.mpr ⟨?_, ?_⟩ <;> (intro q hq; (repeat first | exact hq | exact List.mem_append_left _ hq | exact List.mem_append_right _ hq | refine List.mem_cons_of_mem _ ?_ | refine List.mem_append_right _ ?_); done)))
    · have hy' := hy
      simp only [List.mem_cons, List.not_mem_nil, or_false, not_or] at hy'
      rw [hm' y hy'.2.2.2.1 hy'.2.2.2.2]
      show (if y = _ then _ else _) = _
      rw [if_neg hy'.2.2.1]
      exact hm₁ y hy
  case done =>
    rintro h' tk' m' nw F' N' ⟨rfl, hm'⟩
    dsimp only
    k_steps
    repeat' ((with_reducible refine Stop.go ?_); first | ((with_reducible refine min2 rfl (by k_asm) (by k_asm) fun _ _ _ _ _ => ?_); (try k_sweep); k_steps) | ((with_reducible refine max2 rfl (by k_asm) (by k_asm) fun _ _ _ _ _ => ?_); (try k_sweep); k_steps) | fail)
    exact hR _ _ _ F' hm' N'
end
end
-- 33_holds3
section
section
theorem holds3 {w : World} {A : Around} {s : Shared} {Q : Flow → Shared → Prop} {p : Program} {loose : List Str} {mean : ExcName → Option Value} {mg mb : Str → Option Value} {g : Heap} {L f : Addr} {m : Str → Option Value} {scope : Scope} {stmts : List Stmt}
   {c s₀ v₀ t₀ size Uz sign lo hi left right : Int} {tt tc ts tv tz tg tlo thi tle tri : Tok} {oV oG oS oC oP oZ oF : Obj} {tx : List (Addr × Obj)}
   (hN : restOf10 (hd.heap_39 w.params) 114 = some (scope, stmts))
   (hc : c = 0 ∨ c = 1 ∨ c = 2) (hs0 : 0 ≤ s₀ ∧ s₀ ≤ 8) (hv0 : 0 ≤ v₀ ∧ v₀ ≤ 8) (ht0 : -1 ≤ t₀ ∧ t₀ ≤ 65) (hz0 : 16 ≤ size) (hz1 : size ≤ 1024) (hU : Uz * size = 1024) (hUb : 0 < Uz ∧ Uz ≤ 64) (hsg : sign = 1 ∨ sign = -1)
   (hlo : 2 ≤ lo) (hhi : hi ≤ 3 * size - 2) (hl1 : lo ≤ left) (hl2 : left ≤ hi) (hr1 : lo ≤ right) (hr2 : right ≤ hi)
   (kl1 : ∀ k, lo ≤ k → k < left → sign * colN k c size s₀ v₀ Uz < sign * t₀ * 1024) (kl2 : ∀ k, left ≤ k → k < hi → ¬ sign * colN k c size s₀ v₀ Uz < sign * t₀ * 1024)
   (kr1 : ∀ k, lo ≤ k → k < right → ¬ sign * t₀ * 1024 < sign * colN k c size s₀ v₀ Uz) (kr2 : ∀ k, right ≤ k → k < hi → sign * t₀ * 1024 < sign * colN k c size s₀ v₀ Uz)
   (F : Fr g L s.heap m) (hm : HasAll m [(Str.ofString "t", .int t₀ tt), (Str.ofString "lo", .int lo tlo), (Str.ofString "hi", .int hi thi), (Str.ofString "left", .int left tle), (Str.ofString "right", .int right tri)])
   (N : News g L s.heap ((f, oF) :: (L + 1 + 1 + 1 + 1 + 1 + 1, oV) :: (L + 1 + 1 + 1 + 1 + 1, oG) :: (L + 1 + 1 + 1 + 1, oS) :: (L + 1 + 1 + 1, oC) :: (L + 1 + 1, oP) :: (L + 1, oZ) :: tx))
   (dV : oV.data = .cell (some (.int v₀ tv))) (dG : oG.data = .cell (some (.int sign tg))) (dS : oS.data = .cell (some (.int s₀ ts))) (dC : oC.data = .cell (some (.int c tc))) (dP : oP.data = .cell (some (.ref f))) (dZ : oZ.data = .cell (some (.int size tz)))
   (hPart : ∀ h' m', Fr g L h' m' → News g L h' ((f, oF) :: (L + 1 + 1 + 1 + 1 + 1 + 1, oV) :: (L + 1 + 1 + 1 + 1 + 1, oG) :: (L + 1 + 1 + 1 + 1, oS) :: (L + 1 + 1 + 1, oC) :: (L + 1 + 1, oP) :: (L + 1, oZ) :: tx) → PartAt w p loose mean mg mb f (L + 1 + 1 + 1) (L + 1 + 1 + 1 + 1 + 1 + 1) (L + 1 + 1 + 1 + 1) (L + 1) (L + 1 + 1 + 1 + 1 + 1) c v₀ s₀ size sign tc tv ts tz tg h')
   (X : (hd.heap_39 w.params).In g) (T : Top p loose mean mg mb g)
   (hA : A.handled = none) (hroom : A.depth + 10 < recursionLimit) (hun : A.units + 300 < cLine)
   (hR : ∀ (h' : Heap) (tk : Tok), Stays g h' → (∀ q ∈ (f, oF) :: tx, h'.get? q.1 = some q.2) → Q (.ret (.bool true)) { s with heap := h', toks := tk}) :
   wpAny (model PR w) (A.deeper (envOfC (Str.ofString "_law_holds") scope L 114 (.ref 113))) (execs stmts (envOfC (Str.ofString "_law_holds") scope L 114 (.ref 113))) Q (fun _ _ => False) s := by
  have st1 : StopAt "call ref" := .intro
  have st2 : StopAt "binaryOp Div int float" := .intro
  have st3 : StopAt "exec For Name List cons nil" := .intro
  have st4 : StopAt "pyIter ref" := .intro
  have st5 : StopAt "call type:range" := .intro
  obtain ⟨hh, dp, fr, gd, un⟩ := A
  replace hA : hh = none := hA
  subst hA
  replace hroom : dp + 10 < recursionLimit := hroom
  replace hun : un + 300 < cLine := hun
  (have hfill : PySem.Challenge.rw_pe0221_01 = PySem.Challenge.rw_pe0221_01 ∧ hd.heap_39 = hd.heap_39 := (by k_fill; exact ⟨rfl, rfl⟩); clear hfill)
  rw [show restOf10 (hd.heap_39 w.params) 114 = some _ from rfl] at hN
  cases hN
  have F := frSee F hm
  clear hm
  show wpAny _ _ _ _ _ _
  k_steps
  refine Stop.go (range1_rows F N ?_)
  intro h₁ tk₁ ta tb tc' rg F₁ N₁ st₁
  have hr : s.heap.get? s.heap.objs.size = none := by
    cases z : s.heap.get? s.heap.objs.size with
    | none => rfl
    | some o => exact absurd (Heap.lt_size z) (Nat.lt_irrefl _)
  have hr2 := fresh_of F hr
  dsimp only at rg
  generalize s.heap.objs.size = r at rg hr2
  have N₂ : News g L h₁ ((r, rangeO 0 (3 * size) 1 ta tb tc') :: (f, oF) :: (L + 1 + 1 + 1 + 1 + 1 + 1, oV) :: (L + 1 + 1 + 1 + 1 + 1, oG) :: (L + 1 + 1 + 1 + 1, oS) :: (L + 1 + 1 + 1, oC) :: (L + 1 + 1, oP) :: (L + 1, oZ) :: tx) :=
    List.forall_mem_cons.mpr ⟨⟨rg, hr2⟩, N₁⟩
  clear N₁ F N st₁ hr hr2 rg
  dsimp only
  k_steps
  obtain ⟨tk9, htk9⟩ : ∃ u, u = tk := ⟨_, rfl⟩
  subst htk9
  refine Stop.go (div_if_fl (c := sign * t₀ * 1024) fl_64 (by decide) (by (first | assumption | decide | lia | omega)) (by rcases hsg with rfl | rfl <;> lia) (by rcases hsg with rfl | rfl <;> lia) fun sx hsx => ?_)
  dsimp only
  k_steps
  rename_i h₃ F₃ N₃
  have hK := part_key (w := w) (p := p) (loose := loose) (mean := mean) (mg := mg) (mb := mb) (f := f) (aC := L + 1 + 1 + 1) (aV := L + 1 + 1 + 1 + 1 + 1 + 1) (aS := L + 1 + 1 + 1 + 1) (aZ := L + 1) (aG := L + 1 + 1 + 1 + 1 + 1) (tc := tc) (tv := tv) (ts := ts) (tz := tz) (tg := tg) (lo := lo) (hi := hi) hc hsg hU hUb (by (first | assumption | decide | lia | omega)) hv0 hs0 (by (first | assumption | decide | lia | omega)) (by (first | assumption | decide | lia | omega))
  have hP₃ := hPart _ _ F₃ (news_sub N₃ fun p hp => .tail _ hp)
  refine Stop.go (wpAny_call (bl_key (res := left) (n := 3 * size) hK (fun _ _ => PartAt.keeps) hP₃ (fun _ => PartAt.fn) (N₃.get (.head _)) hsx (by (first | assumption | decide | lia | omega)) hl1 hl2 (by (first | assumption | decide | lia | omega)) (by (first | assumption | decide | lia | omega)) kl1 kl2 (X.keeps F₃.keep) (T.keeps F₃.keep) rfl (room hroom (b := 1) (by decide)) (by show dp + 1 + 1 < _; lia) (by show un + 3 + 3 < _; exact room hun (b := 6) (by decide)) ?_))
  intro h₄ tk₄ t₄ st₄
  have F₄ := F₃.grownK st₄
  have N₄ : News g L h₄ ((r, rangeO 0 (3 * size) 1 ta tb tc') :: (f, oF) :: (L + 1 + 1 + 1 + 1 + 1 + 1, oV) :: (L + 1 + 1 + 1 + 1 + 1, oG) :: (L + 1 + 1 + 1 + 1, oS) :: (L + 1 + 1 + 1, oC) :: (L + 1 + 1, oP) :: (L + 1, oZ) :: tx) := N₃.grown st₄
  clear F₃ N₃ hP₃
  dsimp only
  k_steps
  · rename_i q
    exact absurd rfl q
  rename_i q₄
  clear q₄
  have hP₄ := hPart _ _ F₄ (news_sub N₄ fun p hp => .tail _ hp)
  refine Stop.go (wpAny_call (br_key (res := right) (n := 3 * size) hK (fun _ _ => PartAt.keeps) hP₄ (fun _ => PartAt.fn) (N₄.get (.head _)) hsx (by (first | assumption | decide | lia | omega)) hr1 hr2 (by (first | assumption | decide | lia | omega)) (by (first | assumption | decide | lia | omega)) kr1 kr2 (X.keeps F₄.keep) (T.keeps F₄.keep) rfl (room hroom (b := 1) (by decide)) (by show dp + 1 + 1 < _; lia) (by show un + 3 + 3 < _; exact room hun (b := 6) (by decide)) ?_))
  intro h₅ tk₅ t₅ st₅
  have F₅ := F₄.grownK st₅
  have N₅ : News g L h₅ ((f, oF) :: (L + 1 + 1 + 1 + 1 + 1 + 1, oV) :: (L + 1 + 1 + 1 + 1 + 1, oG) :: (L + 1 + 1 + 1 + 1, oS) :: (L + 1 + 1 + 1, oC) :: (L + 1 + 1, oP) :: (L + 1, oZ) :: tx) := news_sub (N₄.grown st₅) fun p hp => .tail _ hp
  clear F₄ N₄ hP₄
  dsimp only
  k_steps
  · rename_i q
    exact absurd rfl q
  rename_i q₅
  clear q₅
  refine Stop.go (For_inv3 g rfl rfl ?_)
  k_steps
  rename_i l₆ h₆ F₆ N₆ lt₆
  refine Stop.go (iter_lst (a := l₆) (items := [.int left tle, .int right tri]) (nl := 0) (news := (f, oF) :: (L + 1 + 1 + 1 + 1 + 1 + 1, oV) :: (L + 1 + 1 + 1 + 1 + 1, oG) :: (L + 1 + 1 + 1 + 1, oS) :: (L + 1 + 1 + 1, oC) :: (L + 1 + 1, oP) :: (L + 1, oZ) :: tx)
    (fun _ m₁ nw => nw = (f, oF) :: (L + 1 + 1 + 1 + 1 + 1 + 1, oV) :: (L + 1 + 1 + 1 + 1 + 1, oG) :: (L + 1 + 1 + 1 + 1, oS) :: (L + 1 + 1 + 1, oC) :: (L + 1 + 1, oP) :: (L + 1, oZ) :: tx ∧ HasAll m₁ [(Str.ofString "lo", .int lo tlo), (Str.ofString "hi", .int hi thi), (Str.ofString "left", .int left tle), (Str.ofString "right", .int right tri), (Str.ofString "sought", .float sx (tk9 + 1 + 1))]) rfl F₆ N₆ ⟨rfl, rfl, rfl, rfl, rfl, rfl, trivial⟩ ?step ?done)
  case step =>
    rintro i v m₁ nw h₇ tk₇ own hi ⟨rfl, hm₁⟩ hadr hown F₇ N₇
    obtain ⟨k, t', rfl, hk⟩ := two_ints hi
    refine out_body (f := f) (place := k) (tpl := t') (sx := sx) (xn := sign * t₀ * 1024) (oP := oP) (tx := (f, oF) :: (L + 1 + 1 + 1 + 1 + 1, oG) :: (L + 1 + 1 + 1, oC) :: (tx ++ own)) rfl hc hs0 hv0 hz0 hz1 hU hUb hsg hlo hhi hl1 hl2 hr1 hr2 (by (first | assumption | decide | lia | omega)) (by (first | assumption | decide | lia | omega)) hsx kl1 kl2 kr1 kr2 F₇
      ⟨rfl, hm₁.1, hm₁.2.1, hm₁.2.2.1, hm₁.2.2.2.1, hm₁.2.2.2.2.1, trivial⟩ (news_sub N₇ ?ns) dV dS dP dZ (fun h' m' F' N' => hPart h' m' F' (news_sub N' ?np)) X T rfl hroom hun ?_
    case ns => ((try dsimp only [List.cons_append, List.nil_append]); (try (refine List.forall_mem_append.mpr ⟨?pa, ?_⟩; (case pa => (intro q hq; (repeat first | exact hq | exact List.mem_append_left _ hq | exact List.mem_append_right _ hq | refine List.mem_cons_of_mem _ ?_ | refine List.mem_append_right _ ?_); done)))); (repeat refine List.forall_mem_cons.mpr ⟨by first | k_mem | exact List.mem_append_right _ (by k_mem) | exact List.mem_append_left _ (by k_mem), ?_⟩); first | exact List.forall_mem_nil _ | (intro q hq; (repeat first | exact hq | exact List.mem_append_left _ hq | exact List.mem_append_right _ hq | refine List.mem_cons_of_mem _ ?_ | refine List.mem_append_right _ ?_); done) | (refine List.forall_mem_append.mpr ⟨?_, ?_⟩ <;> (intro q hq; (repeat first | exact hq | exact List.mem_append_left _ hq | exact List.mem_append_right _ hq | refine List.mem_cons_of_mem _ ?_ | refine List.mem_append_right _ ?_); done)))
    case np => ((try dsimp only [List.cons_append, List.nil_append]); (try (refine List.forall_mem_append.mpr ⟨?pa, ?_⟩; (case pa => (intro q hq; (repeat first | exact hq | exact List.mem_append_left _ hq | exact List.mem_append_right _ hq | refine List.mem_cons_of_mem _ ?_ | refine List.mem_append_right _ ?_); done)))); (repeat refine List.forall_mem_cons.mpr ⟨by first | k_mem | exact List.mem_append_right _ (by k_mem) | exact List.mem_append_left _ (by k_mem), ?_⟩); first | exact List.forall_mem_nil _ | (intro q hq; (repeat first | exact hq | exact List.mem_append_left _ hq | exact List.mem_append_right _ hq | refine List.mem_cons_of_mem _ ?_ | refine List.mem_append_right _ ?_); done) | (refine List.forall_mem_append.mpr ⟨?_, ?_⟩ <;> (intro q hq; (repeat first | exact hq | exact List.mem_append_left _ hq | exact List.mem_append_right _ hq | refine List.mem_cons_of_mem _ ?_ | refine List.mem_append_right _ ?_); done)))
    intro h' tk' m' F' hm' N'
    refine ⟨rfl, h', tk', m', _, rfl, F', news_sub N' ?_, rfl, rfl, (hm' _ (by decide)).trans hm₁.1, (hm' _ (by decide)).trans hm₁.2.1, (hm' _ (by decide)).trans hm₁.2.2.1, (hm' _ (by decide)).trans hm₁.2.2.2.1, (hm' _ (by decide)).trans hm₁.2.2.2.2.1, trivial⟩
    · ((try dsimp only [List.cons_append, List.nil_append]); (try (refine List.forall_mem_append.mpr ⟨?pa, ?_⟩; (case pa => (intro q hq; (repeat first | exact hq | exact List.mem_append_left _ hq | exact List.mem_append_right _ hq | refine List.mem_cons_of_mem _ ?_ | refine List.mem_append_right _ ?_); done)))); (repeat refine List.forall_mem_cons.mpr ⟨by first | k_mem | exact List.mem_append_right _ (by k_mem) | exact List.mem_append_left _ (by k_mem), ?_⟩); first | exact List.forall_mem_nil _ | (intro q hq; (repeat first | exact hq | exact List.mem_append_left _ hq | exact List.mem_append_right _ hq | refine List.mem_cons_of_mem _ ?_ | refine List.mem_append_right _ ?_); done) | (refine List.forall_mem_append.mpr ⟨?_, ?_⟩ <;> (intro q hq; (repeat first | exact hq | exact List.mem_append_left _ hq | exact List.mem_append_right _ hq | refine List.mem_cons_of_mem _ ?_ | refine List.mem_append_right _ ?_); done)))
  case done =>
    rintro h' tk' m' nw F' N' ⟨rfl, hm'⟩
    dsimp only
    k_steps
    refine hR _ _ F'.keep fun q hq => (N' q ?_).1
    rcases List.mem_cons.mp hq with rfl | hq
    · exact .head _
    · exact .tail _ (.tail _ (.tail _ (.tail _ (.tail _ (.tail _ (.tail _ hq))))))
end
end
-- 34_holds2
section
theorem neg_lt1 {x t : Int} : -1 * x < -1 * t * 1024 ↔ t * 1024 < x := by lia
theorem neg_lt2 {x t : Int} : -1 * t * 1024 < -1 * x ↔ x < t * 1024 := by lia
-- the keys on either side of the places
theorem keys {k c s₀ v₀ t₀ size Uz m0 m1 sign lo hi p0 p1 : Int} (falls : Bool) (hz : 0 < size) (hc : c = 0 ∨ c = 1 ∨ c = 2) (hU : Uz * size = 1024) (hUb : 0 < Uz) (hM : Most ((8 * v₀ - t₀) * size) (s₀ * v₀) size m0 m1)
    (hsg : sign = if falls = true then -1 else 1) (elo : lo = loOf falls ((c + 3) * size) size) (ehi : hi = hiOf falls ((c + 3) * size) size)
    (e0 : p0 = oneOf falls ((c + 3) * size) size (if falls = true then m1 else m0)) (e1 : p1 = oneOf falls ((c + 3) * size) size (if falls = true then m0 else m1)) (h0 : lo ≤ k) (h1 : k < hi) :
    (k < p0 ↔ sign * colN k c size s₀ v₀ Uz < sign * t₀ * 1024) ∧ (k < p1 ↔ ¬ sign * t₀ * 1024 < sign * colN k c size s₀ v₀ Uz) := by
  have c1 := col_lt (k := k) (c := c) (s₀ := s₀) (v₀ := v₀) (t := t₀) hU hUb
  have c2 := lt_col (k := k) (c := c) (s₀ := s₀) (v₀ := v₀) (t := t₀) hU hUb
  have hf := fall_bound (k := k) (c := c) hz
  obtain ⟨a1, a2⟩ := hM _ hf.1 hf.2
  subst elo ehi
  cases falls with
  | false =>
    have b0 := bnd_rise (M := m0) hz h0 h1
    have b1 := bnd_rise (M := m1) hz h0 h1
    simp only [Bool.false_eq_true, if_false] at hsg e0 e1
    subst hsg e0 e1
    rw [Int.one_mul, Int.one_mul]
    exact ⟨Int.not_le.symm.trans ((not_congr (b0.symm.trans a1.symm)).trans (Int.not_le.trans c1.symm)), Int.not_le.symm.trans ((not_congr (b1.symm.trans a2.symm)).trans (not_congr c2.symm))⟩
  | true =>
    have b0 := bnd_fall (M := m0) hz h0 h1
    have b1 := bnd_fall (M := m1) hz h0 h1
    simp only [if_true] at hsg e0 e1
    subst hsg e0 e1
    rw [neg_lt1, neg_lt2]
    exact ⟨b1.symm.trans (a2.symm.trans c2.symm), b0.symm.trans (a1.symm.trans (Int.not_lt.symm.trans (not_congr c1.symm)))⟩
section
theorem holds2 {w : World} {A : Around} {s : Shared} {Q : Flow → Shared → Prop} {p : Program} {loose : List Str} {mean : ExcName → Option Value} {mg mb : Str → Option Value} {G g : Heap} {L most : Addr} {m : Str → Option Value} {scope : Scope} {stmts : List Stmt}
   {c s₀ v₀ t₀ size Uz m0 m1 : Int} {falls : Bool} {tt tc ts tv tz t4 t5 : Tok} {nl : Nat} {oV oSg oS oC oP oZ o111 : Obj} {tx : List (Addr × Obj)}
   (hN : restOf (hd.heap_39 w.params) 114 = some (scope, stmts))
   (hc : c = 0 ∨ c = 1 ∨ c = 2) (hs0 : 0 ≤ s₀ ∧ s₀ ≤ 8) (hv0 : 0 ≤ v₀ ∧ v₀ ≤ 8) (ht0 : -1 ≤ t₀ ∧ t₀ ≤ 65) (hz0 : 16 ≤ size) (hz1 : size ≤ 1024) (hU : Uz * size = 1024) (hUb : 0 < Uz ∧ Uz ≤ 64) (hM : Most ((8 * v₀ - t₀) * size) (s₀ * v₀) size m0 m1)
   (F : Fr g L s.heap m) (hm : HasAll m [(Str.ofString "falls", Value.bool falls), (Str.ofString "t", .int t₀ tt), (Str.ofString "most", .ref most)])
   (N : News g L s.heap ((most, lst [.int m0 t4, .int m1 t5] nl) :: (L + 1 + 1 + 1 + 1 + 1 + 1, oV) :: (L + 1 + 1 + 1 + 1 + 1, oSg) :: (L + 1 + 1 + 1 + 1, oS) :: (L + 1 + 1 + 1, oC) :: (L + 1 + 1, oP) :: (L + 1, oZ) :: (111, o111) :: tx))
   (dV : oV.data = .cell (some (.int v₀ tv))) (dSg : oSg.data = .cell none) (dS : oS.data = .cell (some (.int s₀ ts))) (dC : oC.data = .cell (some (.int c tc))) (dP : oP.data = .cell none) (dZ : oZ.data = .cell (some (.int size tz)))
   (k111 : @LT.lt Nat _ 111 L) (htx : ∀ q ∈ tx, @LT.lt Nat _ q.1 L ∨ @LT.lt Nat _ (L + 1 + 1 + 1 + 1 + 1 + 1) q.1) (htx1 : ∀ q ∈ tx, q.1 ≠ 111) (htxm : ∀ q ∈ tx, q.1 ≠ most)
   (hG : Stays G g) (X : (hd.heap_39 w.params).In g) (T : Top p loose mean mg mb g) (C111 : CodeHd g 113 111) (hT : LamTab 111 211 11 QL G g o111) (hG111 : G.get? 111 = none)
   (hA : A.handled = none) (hroom : A.depth + 10 < recursionLimit) (hun : A.units + 300 < cLine)
   (hR : ∀ (h' : Heap) (tk : Tok), Stays g h' → (∀ q ∈ tx, h'.get? q.1 = some q.2) → TabIn 111 211 11 QL G h' → Q (.ret (.bool true)) { s with heap := h', toks := tk}) :
   wpAny (model PR w) (A.deeper (envOfC (Str.ofString "_law_holds") scope L 114 (.ref 113))) (execs stmts (envOfC (Str.ofString "_law_holds") scope L 114 (.ref 113))) Q (fun _ _ => False) s := by
  have st1 : StopAt "call ref" := .intro
  have st2 : StopAt "eval Lambda" := .intro
  have st3 : StopAt "eval IfExp" := .intro
  obtain ⟨hh, dp, fr, gd, un⟩ := A
  replace hA : hh = none := hA
  subst hA
  replace hroom : dp + 10 < recursionLimit := hroom
  replace hun : un + 300 < cLine := hun
  (have hfill : PySem.Challenge.rw_pe0221_01 = PySem.Challenge.rw_pe0221_01 ∧ hd.heap_39 = hd.heap_39 := (by k_fill; exact ⟨rfl, rfl⟩); clear hfill)
  rw [show restOf (hd.heap_39 w.params) 114 = some _ from rfl] at hN
  cases hN
  have F := frSee F hm
  clear hm
  show wpAny _ _ _ _ _ _
  k_steps
  · rename_i hf
    exact absurd hf (by simp)
  rename_i l₁ h₁ F₁ N₁ lt₁ hf₁
  clear hf₁
  refine Stop.go (wpAny_mono (Q := fun v s' => Stop (∃ q h' tk n' a0 a1 ta tb, v = .ref q ∧ s' = { s with heap := h', toks := tk } ∧ Fr g L h' (seeM [(Str.ofString "falls", Value.bool falls), (Str.ofString "t", .int t₀ tt), (Str.ofString "most", .ref most)] m) ∧
    News g L h' ((q, lst [.int a0 ta, .int a1 tb] n') :: (L + 1 + 1 + 1 + 1 + 1 + 1, oV) :: (L + 1 + 1 + 1 + 1 + 1, oSg) :: (L + 1 + 1 + 1 + 1, oS) :: (L + 1 + 1 + 1, oC) :: (L + 1 + 1, oP) :: (L + 1, oZ) :: (111, o111) :: tx) ∧ (∀ p ∈ tx, p.1 ≠ q) ∧
    a0 = (if falls = true then m1 else m0) ∧ a1 = (if falls = true then m0 else m1))) ?_ ?_ (fun _ _ x => x))
  · refine PySem.wpAny_IfExp ?_
    cases falls
    · k_steps
      exact Stop.go ⟨most, _, _, nl, m0, m1, t4, t5, rfl, rfl, F₁, news_sub N₁ (fun p hp => .tail _ hp), htxm, rfl, rfl⟩
    · k_steps
      rename_i D₁ h₉ F₉ N₉ lt₉
      exact Stop.go ⟨D₁, h₉, _, 0, m1, m0, t5, t4, rfl, rfl, F₉, news_sub N₉ (fun p hp => by
        rcases List.mem_cons.mp hp with rfl | hp
        · exact .head _
        · exact .tail _ (.tail _ (.tail _ hp))), fun p hp => Nat.ne_of_lt (allLt_all lt₉.2.2.2.2.2.2.2.2.2 _ hp), rfl, rfl⟩
  · rintro v s' ⟨q, h₂, tk₂, n', a0, a1, ta, tb, rfl, rfl, F₂, N₂, hqx, ha0, ha1⟩
    clear F₁ N₁
    dsimp only
    k_steps
    refine Stop.go (wpAny_call (plc_c (G := g) ⟨by lia, hz1⟩ ⟨by lia, by lia⟩ (N₂.get (.head _)) (N₂.fresh (.head _)) X T F₂.keep rfl (room hroom (b := 1) (by decide)) ?_))
    intro h₃ tk₃ q₃ lo hi p0 p1 tlo thi tp0 tp1 n₃ st₃ hn₃ hq₃ elo ehi ep0 ep1
    have F₃ := F₂.grownK st₃
    have N₃ : News g L h₃ ((q₃, lst [.int lo tlo, .int hi thi, .int p0 tp0, .int p1 tp1] n₃) :: (L + 1 + 1 + 1 + 1 + 1 + 1, oV) :: (L + 1 + 1 + 1 + 1 + 1, oSg) :: (L + 1 + 1 + 1 + 1, oS) :: (L + 1 + 1 + 1, oC) :: (L + 1 + 1, oP) :: (L + 1, oZ) :: (111, o111) :: tx) :=
      List.forall_mem_cons.mpr ⟨⟨hq₃, fresh_of F₂ hn₃⟩, news_sub (N₂.grown st₃) (fun p hp => .tail _ hp)⟩
    clear F₂ N₂
    dsimp only
    k_steps
    rename_i h₄ F₄ N₄
    refine Stop.go (wpAny_mono (Q := fun v s' => Stop (∃ tk t', v = .int (if falls = true then -1 else 1) t' ∧ s' = { s with heap := h₄, toks := tk })) ?_ ?_ (fun _ _ x => x))
    · refine PySem.wpAny_IfExp ?_
      cases falls
      · k_steps
        exact Stop.go ⟨_, _, rfl, rfl⟩
      · k_steps
        exact Stop.go ⟨_, _, rfl, rfl⟩
    · rintro v s' ⟨tk₅, t₅, rfl, rfl⟩
      dsimp only
      have N₅ : News g L h₄ ((L + 1 + 1 + 1 + 1 + 1, oSg) :: (L + 1 + 1 + 1 + 1 + 1 + 1, oV) :: (L + 1 + 1 + 1 + 1, oS) :: (L + 1 + 1 + 1, oC) :: (L + 1 + 1, oP) :: (L + 1, oZ) :: (111, o111) :: tx) := news_sub N₄ (by ((try dsimp only [List.cons_append, List.nil_append]); (try (refine List.forall_mem_append.mpr ⟨?pa, ?_⟩; (case pa => (intro q hq; (repeat first | exact hq | exact List.mem_append_left _ hq | exact List.mem_append_right _ hq | refine List.mem_cons_of_mem _ ?_ | refine List.mem_append_right _ ?_); done)))); (repeat refine List.forall_mem_cons.mpr ⟨by first | k_mem | exact List.mem_append_right _ (by k_mem) | exact List.mem_append_left _ (by k_mem), ?_⟩); first | exact List.forall_mem_nil _ | (intro q hq; (repeat first | exact hq | exact List.mem_append_left _ hq | exact List.mem_append_right _ hq | refine List.mem_cons_of_mem _ ?_ | refine List.mem_append_right _ ?_); done) | (refine List.forall_mem_append.mpr ⟨?_, ?_⟩ <;> (intro q hq; (repeat first | exact hq | exact List.mem_append_left _ hq | exact List.mem_append_right _ hq | refine List.mem_cons_of_mem _ ?_ | refine List.mem_append_right _ ?_); done))))
      refine storeX_C F₄ N₅ rfl (.head ?hne) dSg ?_ rfl rfl
      case hne => exact List.forall_mem_cons.mpr ⟨neN (by ((try dsimp only); (repeat refine sne ?_); first | (first | exact up1 _ | exact up2 _ | exact up3 _ | exact up4 _ | exact up5 _ | exact up6 _) | (refine Ne.symm ?_; (first | exact up1 _ | exact up2 _ | exact up3 _ | exact up4 _ | exact up5 _ | exact up6 _)) | lia | omega)), List.forall_mem_cons.mpr ⟨neN (by ((try dsimp only); (repeat refine sne ?_); first | (first | exact up1 _ | exact up2 _ | exact up3 _ | exact up4 _ | exact up5 _ | exact up6 _) | (refine Ne.symm ?_; (first | exact up1 _ | exact up2 _ | exact up3 _ | exact up4 _ | exact up5 _ | exact up6 _)) | lia | omega)), List.forall_mem_cons.mpr ⟨neN (by ((try dsimp only); (repeat refine sne ?_); first | (first | exact up1 _ | exact up2 _ | exact up3 _ | exact up4 _ | exact up5 _ | exact up6 _) | (refine Ne.symm ?_; (first | exact up1 _ | exact up2 _ | exact up3 _ | exact up4 _ | exact up5 _ | exact up6 _)) | lia | omega)), List.forall_mem_cons.mpr ⟨neN (by ((try dsimp only); (repeat refine sne ?_); first | (first | exact up1 _ | exact up2 _ | exact up3 _ | exact up4 _ | exact up5 _ | exact up6 _) | (refine Ne.symm ?_; (first | exact up1 _ | exact up2 _ | exact up3 _ | exact up4 _ | exact up5 _ | exact up6 _)) | lia | omega)), List.forall_mem_cons.mpr ⟨neN (by ((try dsimp only); (repeat refine sne ?_); first | (first | exact up1 _ | exact up2 _ | exact up3 _ | exact up4 _ | exact up5 _ | exact up6 _) | (refine Ne.symm ?_; (first | exact up1 _ | exact up2 _ | exact up3 _ | exact up4 _ | exact up5 _ | exact up6 _)) | lia | omega)), List.forall_mem_cons.mpr ⟨neN (by ((try dsimp only); (repeat refine sne ?_); first | (first | exact up1 _ | exact up2 _ | exact up3 _ | exact up4 _ | exact up5 _ | exact up6 _) | (refine Ne.symm ?_; (first | exact up1 _ | exact up2 _ | exact up3 _ | exact up4 _ | exact up5 _ | exact up6 _)) | lia | omega)), fun p hp => neN (by have := htx p hp; lia)⟩⟩⟩⟩⟩⟩
      intro h₆ oSg' F₆ N₆ dSg'
      clear N₅ N₄ F₄
      dsimp only at N₆ ⊢
      k_steps
      refine Stop.go (kla_eval rfl ?_)
      have N₇ : News g L h₆ ((111, o111) :: ([(L + 1 + 1, oP), (L + 1 + 1 + 1 + 1 + 1, oSg'), (L + 1 + 1 + 1 + 1 + 1 + 1, oV), (L + 1 + 1 + 1 + 1, oS), (L + 1 + 1 + 1, oC), (L + 1, oZ)] ++ tx)) := news_sub N₆ (by ((try dsimp only [List.cons_append, List.nil_append]); (try (refine List.forall_mem_append.mpr ⟨?pa, ?_⟩; (case pa => (intro q hq; (repeat first | exact hq | exact List.mem_append_left _ hq | exact List.mem_append_right _ hq | refine List.mem_cons_of_mem _ ?_ | refine List.mem_append_right _ ?_); done)))); (repeat refine List.forall_mem_cons.mpr ⟨by first | k_mem | exact List.mem_append_right _ (by k_mem) | exact List.mem_append_left _ (by k_mem), ?_⟩); first | exact List.forall_mem_nil _ | (intro q hq; (repeat first | exact hq | exact List.mem_append_left _ hq | exact List.mem_append_right _ hq | refine List.mem_cons_of_mem _ ?_ | refine List.mem_append_right _ ?_); done) | (refine List.forall_mem_append.mpr ⟨?_, ?_⟩ <;> (intro q hq; (repeat first | exact hq | exact List.mem_append_left _ hq | exact List.mem_append_right _ hq | refine List.mem_cons_of_mem _ ?_ | refine List.mem_append_right _ ?_); done))))
      refine lamAny (cn := Str.ofString "_law_holds") (P := 111) F₆ N₇ hG T C111 rfl ?hne (q0 := (L + 1 + 1, oP)) (.head _) (ltN (by show @LT.lt Nat _ L _; lia)) hT rfl ?_
      case hne =>
        intro q hq
        rcases List.mem_append.mp hq with hq | hq
        · simp only [List.mem_cons, List.not_mem_nil, or_false] at hq
          rcases hq with rfl | rfl | rfl | rfl | rfl | rfl <;> exact neN (by ((try dsimp only); (repeat refine sne ?_); first | (first | exact up1 _ | exact up2 _ | exact up3 _ | exact up4 _ | exact up5 _ | exact up6 _) | (refine Ne.symm ?_; (first | exact up1 _ | exact up2 _ | exact up3 _ | exact up4 _ | exact up5 _ | exact up6 _)) | lia | omega))
        · exact htx1 q hq
      intro f c' oc ctv h₈ tk₈ tx' F₈ hoc hcP hc8 hGc hsub hcw hlt hLf hlt' hbk N₈
      replace hoc : CodeObjOf QL oc := hoc
      have hfP : @LT.lt Nat _ (L + 1 + 1) f := hlt (L + 1 + 1, oP) (.tail _ (List.mem_append_left _ (.head _)))
      have htx' : ∀ q ∈ tx', @LT.lt Nat _ q.1 L ∨ @LT.lt Nat _ (L + 1 + 1) q.1 := fun q hq => by
        rcases hbk q hq with h | h
        · have := htx q h; lia
        · exact .inr (h (L + 1 + 1, oP) (.tail _ (List.mem_append_left _ (.head _))))
      generalize hoF : kla_obj _ _ _ _ _ _ _ _ _ = oF at N₈
      have N₉ : News g L h₈ ((L + 1 + 1, oP) :: (f, oF) :: (L + 1 + 1 + 1 + 1 + 1 + 1, oV) :: (L + 1 + 1 + 1 + 1 + 1, oSg') :: (L + 1 + 1 + 1 + 1, oS) :: (L + 1 + 1 + 1, oC) :: (L + 1, oZ) :: (111, tabObj #[rawInt 211, rawInt 11, .ref c']) :: tx') := news_sub N₈ (by ((try dsimp only [List.cons_append, List.nil_append]); (try (refine List.forall_mem_append.mpr ⟨?pa, ?_⟩; (case pa => (intro q hq; (repeat first | exact hq | exact List.mem_append_left _ hq | exact List.mem_append_right _ hq | refine List.mem_cons_of_mem _ ?_ | refine List.mem_append_right _ ?_); done)))); (repeat refine List.forall_mem_cons.mpr ⟨by first | k_mem | exact List.mem_append_right _ (by k_mem) | exact List.mem_append_left _ (by k_mem), ?_⟩); first | exact List.forall_mem_nil _ | (intro q hq; (repeat first | exact hq | exact List.mem_append_left _ hq | exact List.mem_append_right _ hq | refine List.mem_cons_of_mem _ ?_ | refine List.mem_append_right _ ?_); done) | (refine List.forall_mem_append.mpr ⟨?_, ?_⟩ <;> (intro q hq; (repeat first | exact hq | exact List.mem_append_left _ hq | exact List.mem_append_right _ hq | refine List.mem_cons_of_mem _ ?_ | refine List.mem_append_right _ ?_); done))))
      clear N₈ N₇ N₆
      dsimp only
      refine storeX_C F₈ N₉ rfl (.head ?hne) dP ?_ rfl rfl
      case hne => exact List.forall_mem_cons.mpr ⟨neN (by ((try dsimp only); (repeat refine sne ?_); first | (first | exact up1 _ | exact up2 _ | exact up3 _ | exact up4 _ | exact up5 _ | exact up6 _) | (refine Ne.symm ?_; (first | exact up1 _ | exact up2 _ | exact up3 _ | exact up4 _ | exact up5 _ | exact up6 _)) | lia | omega)), List.forall_mem_cons.mpr ⟨neN (by ((try dsimp only); (repeat refine sne ?_); first | (first | exact up1 _ | exact up2 _ | exact up3 _ | exact up4 _ | exact up5 _ | exact up6 _) | (refine Ne.symm ?_; (first | exact up1 _ | exact up2 _ | exact up3 _ | exact up4 _ | exact up5 _ | exact up6 _)) | lia | omega)), List.forall_mem_cons.mpr ⟨neN (by ((try dsimp only); (repeat refine sne ?_); first | (first | exact up1 _ | exact up2 _ | exact up3 _ | exact up4 _ | exact up5 _ | exact up6 _) | (refine Ne.symm ?_; (first | exact up1 _ | exact up2 _ | exact up3 _ | exact up4 _ | exact up5 _ | exact up6 _)) | lia | omega)), List.forall_mem_cons.mpr ⟨neN (by ((try dsimp only); (repeat refine sne ?_); first | (first | exact up1 _ | exact up2 _ | exact up3 _ | exact up4 _ | exact up5 _ | exact up6 _) | (refine Ne.symm ?_; (first | exact up1 _ | exact up2 _ | exact up3 _ | exact up4 _ | exact up5 _ | exact up6 _)) | lia | omega)), List.forall_mem_cons.mpr ⟨neN (by ((try dsimp only); (repeat refine sne ?_); first | (first | exact up1 _ | exact up2 _ | exact up3 _ | exact up4 _ | exact up5 _ | exact up6 _) | (refine Ne.symm ?_; (first | exact up1 _ | exact up2 _ | exact up3 _ | exact up4 _ | exact up5 _ | exact up6 _)) | lia | omega)), List.forall_mem_cons.mpr ⟨neN (by ((try dsimp only); (repeat refine sne ?_); first | (first | exact up1 _ | exact up2 _ | exact up3 _ | exact up4 _ | exact up5 _ | exact up6 _) | (refine Ne.symm ?_; (first | exact up1 _ | exact up2 _ | exact up3 _ | exact up4 _ | exact up5 _ | exact up6 _)) | lia | omega)), List.forall_mem_cons.mpr ⟨neN (by ((try dsimp only); (repeat refine sne ?_); first | (first | exact up1 _ | exact up2 _ | exact up3 _ | exact up4 _ | exact up5 _ | exact up6 _) | (refine Ne.symm ?_; (first | exact up1 _ | exact up2 _ | exact up3 _ | exact up4 _ | exact up5 _ | exact up6 _)) | lia | omega)), fun p hp => neN (by have := htx' p hp; lia)⟩⟩⟩⟩⟩⟩⟩
      intro h₁₀ oP' F₁₀ N₁₀ dP'
      clear N₉ F₈
      dsimp only at N₁₀ ⊢
      have hends := ends_in falls hz0 hc
      have hin0 := one_in (M := a0) falls (show 0 < size by lia) hc
      have hin1 := one_in (M := a1) falls (show 0 < size by lia) hc
      subst ha0 ha1
      rw [← elo, ← ehi] at hends
      rw [← elo, ← ehi, ← ep0] at hin0
      rw [← elo, ← ehi, ← ep1] at hin1
      have hkeys := fun k h0 h1 => keys (k := k) (t₀ := t₀) (sign := if falls = true then -1 else 1) falls (show 0 < size by lia) hc hU hUb.1 hM rfl elo ehi ep0 ep1 h0 h1
      have hsg : (if falls = true then (-1 : Int) else 1) = 1 ∨ (if falls = true then (-1 : Int) else 1) = -1 := by cases falls <;> simp
      generalize (if falls = true then (-1 : Int) else 1) = sign at hkeys hsg dSg'
      refine holds3 (f := f) (oF := oF) (oG := oSg') (oP := oP') (sign := sign) (t₀ := t₀) (Uz := Uz) (tx := (111, tabObj #[rawInt 211, rawInt 11, .ref c']) :: tx') rfl hc hs0 hv0 ht0 hz0 hz1 hU hUb hsg hends.1 hends.2.1 hin0.1 hin0.2 hin1.1 hin1.2
        (fun k h0 h1 => (hkeys k h0 (by (first | assumption | decide | lia | omega))).1.mp h1) (fun k h0 h1 h2 => by have := (hkeys k (by (first | assumption | decide | lia | omega)) h1).1.mpr h2; lia) (fun k h0 h1 => (hkeys k h0 (by (first | assumption | decide | lia | omega))).2.mp h1) (fun k h0 h1 => Decidable.byContradiction fun h2 => by have := (hkeys k (by (first | assumption | decide | lia | omega)) h1).2.mpr h2; lia)
        F₁₀ ⟨rfl, rfl, rfl, rfl, rfl, trivial⟩ (news_sub N₁₀ ?ns) dV dSg' dS dC dP' dZ (fun h' m' F' N' => ?part) X T rfl hroom hun ?_
      case ns => ((try dsimp only [List.cons_append, List.nil_append]); (try (refine List.forall_mem_append.mpr ⟨?pa, ?_⟩; (case pa => (intro q hq; (repeat first | exact hq | exact List.mem_append_left _ hq | exact List.mem_append_right _ hq | refine List.mem_cons_of_mem _ ?_ | refine List.mem_append_right _ ?_); done)))); (repeat refine List.forall_mem_cons.mpr ⟨by first | k_mem | exact List.mem_append_right _ (by k_mem) | exact List.mem_append_left _ (by k_mem), ?_⟩); first | exact List.forall_mem_nil _ | (intro q hq; (repeat first | exact hq | exact List.mem_append_left _ hq | exact List.mem_append_right _ hq | refine List.mem_cons_of_mem _ ?_ | refine List.mem_append_right _ ?_); done) | (refine List.forall_mem_append.mpr ⟨?_, ?_⟩ <;> (intro q hq; (repeat first | exact hq | exact List.mem_append_left _ hq | exact List.mem_append_right _ hq | refine List.mem_cons_of_mem _ ?_ | refine List.mem_append_right _ ?_); done)))
      case part =>
        refine ⟨⟨_, _, _, (mg "__name__").getD .none, c', ctv, rfl, ?_, ?_⟩, ⟨_, N'.get (by k_mem), dC⟩, ⟨_, N'.get (by k_mem), dV⟩, ⟨_, N'.get (by k_mem), dS⟩, ⟨_, N'.get (by k_mem), dZ⟩, ⟨_, N'.get (by k_mem), dSg'⟩, X.keeps F'.keep, T.keeps F'.keep⟩
        · have := N'.get (.head _)
          rw [← hoF] at this
          exact this
        · refine hoc.rec' ?_
          rcases hcw with h | h
          · exact F'.keep _ _ h
          · exact (N' (c', oc) (.tail _ (.tail _ (.tail _ (.tail _ (.tail _ (.tail _ (.tail _ (.tail _ h))))))))).1
      intro h' tk' st hq
      refine hR h' tk' st (fun q hx => hq q (.tail _ (.tail _ (hsub q hx)))) ⟨_, .hit hoc hcP, List.forall_mem_cons.mpr ⟨⟨hq _ (.tail _ (.head _)), hG111⟩, List.forall_mem_cons.mpr ⟨⟨?_, hGc⟩, List.forall_mem_nil _⟩⟩⟩
      rcases hcw with h | h
      · exact st _ _ h
      · exact hq (c', oc) (.tail _ (.tail _ h))
end
end
-- 35_holds
section
theorem CellsAre.six {cm : Str → Option Value} {n₁ n₂ n₃ n₄ n₅ n₆ : Str} {c₁ c₂ c₃ c₄ c₅ c₆ : Addr} {cells : List (Addr × Obj)} (x : CellsAre cm [(n₁, c₁), (n₂, c₂), (n₃, c₃), (n₄, c₄), (n₅, c₅), (n₆, c₆)] cells) :
    ∃ o₁ o₂ o₃ o₄ o₅ o₆, cells = [(c₁, o₁), (c₂, o₂), (c₃, o₃), (c₄, o₄), (c₅, o₅), (c₆, o₆)] ∧ o₁.data = .cell (cm n₁) ∧ o₂.data = .cell (cm n₂) ∧ o₃.data = .cell (cm n₃) ∧ o₄.data = .cell (cm n₄) ∧ o₅.data = .cell (cm n₅) ∧ o₆.data = .cell (cm n₆) := by
  cases x with
  | cons h1 r =>
    cases r with
    | cons h2 r =>
      obtain ⟨o₃, o₄, o₅, o₆, rfl, h₃, h₄, h₅, h₆⟩ := CellsAre.four r
      exact ⟨_, _, o₃, o₄, o₅, o₆, rfl, h1, h2, h₃, h₄, h₅, h₆⟩
theorem nsSlots {h h' : Heap} {L : Addr} {m : Str → Option Value} (n : h.Ns L m) (e : ∀ o, h.get? L = some o → ∃ sl, h'.get? L = some { o with slots := sl }) : h'.Ns L m := by
  obtain ⟨o, es, ep, ho, hd, r⟩ := n
  obtain ⟨sl, he⟩ := e o ho
  exact ⟨_, es, ep, he, hd, r⟩
-- three tables as a part of the ledger (two of them here, the third apart)
theorem tabs_pack2 {g h G : Heap} {L : Addr} {m : Str → Option Value} {P P' : Addr} {line col line' col' : Nat} {qual qual' : Str} (F : Fr g L h m) (T1 : TabIn P line col qual G h) (T2 : TabIn P' line' col' qual' G h) (g1 : g.get? P = none) (g2 : g.get? P' = none) :
    ∃ tx, News g L h tx ∧ (∀ {h' : Heap}, Stays g h' → (∀ p ∈ tx, h'.get? p.1 = some p.2) → TabIn P line col qual G h' ∧ TabIn P' line' col' qual' G h') ∧ (∀ p ∈ tx, p.1 = P ∨ p.1 = P' ∨ ∃ q, CodeObjOf q p.2) ∧ (∀ p ∈ tx, ∃ vs, p.2.data = .fields vs) := by
  obtain ⟨tn1, ht1, htn1⟩ := T1
  obtain ⟨tn2, ht2, htn2⟩ := T2
  have hall : ∀ p ∈ tn1 ++ tn2, h.get? p.1 = some p.2 := fun p hp => (List.mem_append.mp hp).elim (fun h => (htn1 p h).1) fun h => (htn2 p h).1
  have hf : ∀ p ∈ tn1 ++ tn2, ∃ vs, p.2.data = .fields vs := fun p hp => (List.mem_append.mp hp).elim (fun h => ht1.fields h) fun h => ht2.fields h
  have hq : ∀ {P line col qual tn}, TabNews P line col qual tn → ∀ p ∈ tn, p.1 = P ∨ ∃ q, CodeObjOf q p.2 := fun ht p hp => by
    cases ht with
    | fresh =>
      cases hp with
      | head => exact .inl rfl
      | tail _ h => cases h
    | hit ho _ =>
      cases hp with
      | head => exact .inl rfl
      | tail _ h =>
        cases h with
        | head => exact .inr ⟨_, ho⟩
        | tail _ h => cases h
  have hneL : ∀ p ∈ tn1 ++ tn2, h.get? p.1 = some p.2 ∧ p.1 ≠ L := fun p hp => ⟨hall p hp, fun e => by
    obtain ⟨oL, es, ep, hL, hd, _⟩ := F.ns
    have h1 := hall p hp
    rw [e, hL] at h1; cases h1
    obtain ⟨vs, e⟩ := hf p hp
    rw [e] at hd; cases hd⟩
  refine ⟨lacks g (tn1 ++ tn2), lacks_news hneL, fun st hx => ?_, fun p hp => ?_, fun p hp => hf p (List.mem_filter.mp hp).1⟩
  · have := lacks_back (L := L) hall F.keep st hx
    exact ⟨⟨tn1, ht1, fun p hp => ⟨this p (List.mem_append_left _ hp), (htn1 p hp).2⟩⟩, ⟨tn2, ht2, fun p hp => ⟨this p (List.mem_append_right _ hp), (htn2 p hp).2⟩⟩⟩
  · rcases List.mem_append.mp (List.mem_filter.mp hp).1 with h | h
    · rcases hq ht1 p h with h | h
      · exact .inl h
      · exact .inr (.inr h)
    · rcases hq ht2 p h with h | h
      · exact .inr (.inl h)
      · exact .inr (.inr h)
theorem TabIn.lam {P : Addr} {line col : Nat} {qual : Str} {G h g : Heap} {o : Obj} (x : TabIn P line col qual G h) (e : h.get? P = some o) (sees : ∀ c oc, h.get? c = some oc → CodeObjOf qual oc → g.get? c = some oc) : LamTab P line col qual G g o := by
  obtain ⟨tn, ht, htn⟩ := x
  cases ht with
  | fresh =>
    have h1 := (htn _ (.head _)).1
    rw [e] at h1; cases h1
    exact .inl rfl
  | @hit c oc ho hne =>
    have h1 := (htn _ (.head _)).1
    have h2 := htn (c, oc) (.tail _ (.head _))
    rw [e] at h1; cases h1
    exact .inr ⟨c, oc, rfl, ho, sees _ _ h2.1 ho, h2.2⟩
-- _law_most called from a frame with cells
theorem most_in {w : World} {A : Around} {s : Shared} {R : Result → Shared → Prop} {p : Program} {loose : List Str} {mean : ExcName → Option Value} {mg mb : Str → Option Value} {G g h₀ : Heap} {outer : List Env} {cn : Str} {scope : Scope} {L a Ll : Addr} {cd : Value} {m : Str → Option Value} {ol : Obj}
   {top low size : Int} {t1 t2 t3 : Tok} (tb : -(2 ^ 20) < top ∧ top < 2 ^ 20) (lb : 0 ≤ low ∧ low < 2 ^ 7) (hz : 0 < size)
   (X : (hd.heap_39 w.params).In G) (T : Top p loose mean mg mb G) (C44 : CodeHd G 48 44) (C51 : CodeHd G 55 51) (K : Below A G outer h₀) (D : KtsDicts (outer.filterMap (·.frame)) h₀) (F : Fr g L s.heap m) (hGg : Stays G g) (st : Stays h₀ s.heap)
   (hk : scope.kind ≠ .module) (hout : outer.filterMap (·.frame) = [Ll]) (hol : h₀.get? Ll = some ol) (g44 : g.get? 44 = none) (g51 : g.get? 51 = none) (gLl : g.get? Ll = none)
   (h44 : TabIn 44 73 4 Q44 G s.heap) (h51 : TabIn 51 88 4 Q51 G s.heap) (hA : A.handled = none) (hroom : A.depth + 58 < recursionLimit)
   (hR : ∀ (h' : Heap) (tk : Tok) (q : Addr) (m0 m1 : Int) (t4 t5 : Tok) (nl : Nat), Fr g L h' m → (∀ b o, s.heap.get? b = some o → b ≠ 44 → b ≠ 51 → b ≠ L → b ≠ Ll → h'.get? b = some o) → (∃ sl, h'.get? Ll = some { ol with slots := sl }) → TabIn 44 73 4 Q44 G h' → TabIn 51 88 4 Q51 G h' → s.heap.get? q = none → h'.get? q = some (lst [.int m0 t4, .int m1 t5] nl) → Most top low size m0 m1 → R (.ok (.ret (.ref q))) { s with heap := h', toks := tk}) :
   codeAny (model PR w) (A.deeper (envOfC cn scope L a cd)) (.call (.ref 102) ⟨[.int top t1, .int low t2, .int size t3], []⟩) R s := by
  have gL : g.get? L = none := kts_self F
  have GL : G.get? L = none := kts_none hGg gL
  have hfs : ((envOfC cn scope L a cd :: outer).filterMap (·.frame)) = [L, Ll] := by
    show L :: outer.filterMap (·.frame) = _
    rw [hout]
  refine most_c (G := G) (outer := envOfC cn scope L a cd :: outer) tb.1 tb.2 lb.1 lb.2 hz X T C44 C51 ?K ?D h44 h51 hA ?hr ?_
  case hr => show A.depth + 1 + 57 < _; lia
  case K => exact ⟨Around.frames_deeper K.stack, fun b o e => F.keep _ _ (hGg _ _ e), Heap.FunFrames.cons hk rfl F.ns GL (K.frames.of_keeps fun b o e _ => ⟨o, st _ _ e, rfl⟩)⟩
  case D =>
    show KtsDicts (L :: outer.filterMap (·.frame)) s.heap
    intro b hb
    rcases List.mem_cons.mp hb with rfl | hb
    · obtain ⟨o, es, ep, ho, hd, _⟩ := F.ns
      exact ⟨o, es, ep, ho, hd⟩
    · obtain ⟨o, es, n, ho, hd⟩ := D b hb
      exact ⟨o, es, n, st _ _ ho, hd⟩
  intro h₃ tk₃ most m0 m1 t4 t5 nl K3 hn₃ hq₃ hM
  rw [hfs] at K3
  refine hR h₃ tk₃ most m0 m1 t4 t5 nl ⟨nsSlots F.ns fun o e => K3.fr _ _ e (.head _), fun b o e => K3.but b o (F.keep b o e) (fun q => by rw [q, g44] at e; cases e) (fun q => by rw [q, g51] at e; cases e) (fun q => ?_), F.above⟩ (fun b o e n1 n2 n3 n4 => K3.but b o e n1 n2 fun q => ?_) (K3.fr _ _ (st _ _ hol) (.tail _ (.head _))) K3.t44 K3.t51 hn₃ hq₃ hM
  · rcases List.mem_cons.mp q with q | q
    · rw [q, gL] at e; cases e
    · rw [List.mem_singleton.mp q, gLl] at e; cases e
  · rcases List.mem_cons.mp q with q | q
    · exact n3 q
    · exact n4 (List.mem_singleton.mp q)
theorem mod3 (x : Int) : x.fmod 3 = 0 ∨ x.fmod 3 = 1 ∨ x.fmod 3 = 2 := by
  rw [Int.fmod_eq_emod_of_nonneg _ (by decide)]; lia
theorem mod9 (x : Int) : 0 ≤ x.fmod 9 ∧ x.fmod 9 ≤ 8 := by
  rw [Int.fmod_eq_emod_of_nonneg _ (by decide)]; lia
theorem mod67 (x : Int) : -1 ≤ x.fmod 67 - 1 ∧ x.fmod 67 - 1 ≤ 65 := by
  rw [Int.fmod_eq_emod_of_nonneg _ (by decide)]; lia
section
theorem holds_c {w : World} {A : Around} {s : Shared} {R : Result → Shared → Prop} {p : Program} {loose : List Str} {mean : ExcName → Option Value} {mg mb : Str → Option Value} {G : Heap} {outer : List Env}
   {x size Uz : Int} {t1 t2 : Tok} {Ll : Addr} {ol : Obj} (hx0 : 0 ≤ x) (hx1 : x < 2 ^ 30) (hz0 : 16 ≤ size) (hz1 : size ≤ 1024) (hU : Uz * size = 1024) (hUb : 0 < Uz ∧ Uz ≤ 64)
   (X : (hd.heap_39 w.params).In G) (T : Top p loose mean mg mb G) (C44 : CodeHd G 48 44) (C51 : CodeHd G 55 51) (C111 : CodeHd G 113 111) (K : Below A G outer s.heap) (D : KtsDicts (outer.filterMap (·.frame)) s.heap)
   (hout : outer.filterMap (·.frame) = [Ll]) (hol : s.heap.get? Ll = some ol)
   (h44 : TabIn 44 73 4 Q44 G s.heap) (h51 : TabIn 51 88 4 Q51 G s.heap) (h111 : TabIn 111 211 11 QL G s.heap)
   (hA : A.handled = none) (hroom : A.depth + 60 < recursionLimit) (hun : A.units + 310 < cLine)
   (hR : ∀ (h' : Heap) (tk : Tok), (∀ b o, s.heap.get? b = some o → b ≠ 44 → b ≠ 51 → b ≠ 111 → b ≠ Ll → h'.get? b = some o) → (∃ sl, h'.get? Ll = some { ol with slots := sl }) → TabIn 44 73 4 Q44 G h' → TabIn 51 88 4 Q51 G h' → TabIn 111 211 11 QL G h' → R (.ok (.ret (.bool true))) { s with heap := h', toks := tk}) :
   codeAny (model PR w) A (.call (.ref 114) ⟨[.int x t1, .int size t2], []⟩) R s := by
  have st1 : StopAt "call ref" := .intro
  have st2 : StopAt "eval Lambda" := .intro
  obtain ⟨hh, dp, fr, gd, un⟩ := A
  replace hA : hh = none := hA
  subst hA
  replace hroom : dp + 60 < recursionLimit := hroom
  replace hun : un + 310 < cLine := hun
  obtain ⟨o44, g44⟩ : ∃ o, s.heap.get? 44 = some o ∧ G.get? 44 = none := by
    obtain ⟨tn, ht, htn⟩ := id h44
    obtain ⟨o, hm⟩ := ht.mem
    exact ⟨o, htn _ hm⟩
  obtain ⟨o51, g51⟩ : ∃ o, s.heap.get? 51 = some o ∧ G.get? 51 = none := by
    obtain ⟨tn, ht, htn⟩ := id h51
    obtain ⟨o, hm⟩ := ht.mem
    exact ⟨o, htn _ hm⟩
  obtain ⟨o111, g111⟩ : ∃ o, s.heap.get? 111 = some o ∧ G.get? 111 = none := by
    obtain ⟨tn, ht, htn⟩ := id h111
    obtain ⟨o, hm⟩ := ht.mem
    exact ⟨o, htn _ hm⟩
  obtain ⟨ps111, hp111⟩ := h111.get
  obtain rfl : o111 = tabObj ps111 := by
    have := g111.1
    rw [hp111] at this
    exact (Option.some.inj this).symm
  obtain ⟨es, nn, hld⟩ : ∃ es n, ol.data = .dict es n := by
    obtain ⟨o, es, n, ho, hd⟩ := D Ll (hout ▸ .head _)
    rw [hol] at ho; cases ho
    exact ⟨es, n, hd⟩
  have hL111 : Ll ≠ 111 := fun e => by
    rw [e, hp111] at hol; cases hol; cases hld
  have gLl : s.heap.get? Ll = some ol ∧ G.get? Ll = none := ⟨hol, (K.frames.mem (hout ▸ .head _)).1⟩
  (have hfill : PySem.Challenge.rw_pe0221_01 = PySem.Challenge.rw_pe0221_01 ∧ hd.heap_39 = hd.heap_39 := (by k_fill; exact ⟨rfl, rfl⟩); clear hfill)
  refine' enterC (binds := [(Str.ofString "x", .int x t1), (Str.ofString "size", .int size t2)]) [(111, tabObj ps111), (44, o44), (51, o51), (Ll, ol)] X T K.stays (List.forall_mem_cons.mpr ⟨g111, List.forall_mem_cons.mpr ⟨g44, List.forall_mem_cons.mpr ⟨g51, List.forall_mem_cons.mpr ⟨gLl, List.forall_mem_nil _⟩⟩⟩⟩) ?ho ?hcd ?hr ?hb ?hkd ?hnd ?_ ?c1 ?c2 ?c3
  case ho => k_is
  case hcd => k_is
  case hr => show dp < _; lia
  case hb => exact BindsTo.of_eq rfl
  case hkd => exact rfl
  case hnd => decide +kernel
  case c1 => rfl
  case c2 => rfl
  case c3 => rfl
  intro g L h₁ tk cells HD F N Y X' T' l0
  obtain ⟨oV, oSg, oS, oC, oP, oZ, rfl, dV, dSg, dS, dC, dP, dZ⟩ := CellsAre.six Y
  clear Y
  replace dV : oV.data = .cell none := dV
  replace dSg : oSg.data = .cell none := dSg
  replace dS : oS.data = .cell none := dS
  replace dC : oC.data = .cell none := dC
  replace dP : oP.data = .cell none := dP
  replace dZ : oZ.data = .cell (some (.int size t2)) := dZ
  have k111 : @LT.lt Nat _ 111 L := l0 (111, tabObj ps111) (.head _)
  have k44 : @LT.lt Nat _ 44 L := l0 (44, o44) (.tail _ (.head _))
  have k51 : @LT.lt Nat _ 51 L := l0 (51, o51) (.tail _ (.tail _ (.head _)))
  have kLl : @LT.lt Nat _ Ll L := l0 (Ll, ol) (.tail _ (.tail _ (.tail _ (.head _))))
  have gg111 : g.get? 111 = none := N.fresh (List.mem_append_right _ (.head _))
  have gg44 : g.get? 44 = none := N.fresh (List.mem_append_right _ (.tail _ (.head _)))
  have gg51 : g.get? 51 = none := N.fresh (List.mem_append_right _ (.tail _ (.tail _ (.head _))))
  have ggLl : g.get? Ll = none := N.fresh (List.mem_append_right _ (.tail _ (.tail _ (.tail _ (.head _)))))
  clear l0
  simp only [List.cons_append, List.nil_append] at N
  ((show wpAny _ _ _ _ _ _); k_fold; k_steps)
  rename_i h₀' oC' dC' h₁' h₂' oS' dS' h₃' oV' dV' h₂ F₂ N₂
  dsimp only at F₂ dC' dS' dV'
  have hc := mod3 x
  have hs0 := mod9 (x.fdiv 6)
  have hv0 := mod9 (x.fdiv 54)
  have ht0 := mod67 (x.fdiv 486)
  generalize x.fmod 3 = c at *
  generalize (x.fdiv 6).fmod 9 = s₀ at *
  generalize (x.fdiv 54).fmod 9 = v₀ at *
  generalize (x.fdiv 486).fmod 67 - 1 = t₀ at *
  generalize ((x.fdiv 3).fmod 2 == 1) = falls at *
  have tb : -(2 ^ 20) < (8 * v₀ - t₀) * size ∧ (8 * v₀ - t₀) * size < 2 ^ 20 := by
    have a1 : (8 * v₀ - t₀) * size ≤ 65 * size := Int.mul_le_mul_of_nonneg_right (by (first | assumption | decide | lia | omega)) (by (first | assumption | decide | lia | omega))
    have a2 : -65 * size ≤ (8 * v₀ - t₀) * size := Int.mul_le_mul_of_nonneg_right (by (first | assumption | decide | lia | omega)) (by (first | assumption | decide | lia | omega))
    lia
  have lb : 0 ≤ s₀ * v₀ ∧ s₀ * v₀ < 2 ^ 7 := by
    have a1 : s₀ * v₀ ≤ 8 * v₀ := Int.mul_le_mul_of_nonneg_right (by (first | assumption | decide | lia | omega)) (by (first | assumption | decide | lia | omega))
    have a2 : 0 ≤ s₀ * v₀ := Int.mul_nonneg (by (first | assumption | decide | lia | omega)) (by (first | assumption | decide | lia | omega))
    lia
  have st₂ : Stays s.heap h₂ := HD.back _ F₂.keep (News.all (news_sub N₂ (by ((try dsimp only [List.cons_append, List.nil_append]); (try (refine List.forall_mem_append.mpr ⟨?pa, ?_⟩; (case pa => (intro q hq; (repeat first | exact hq | exact List.mem_append_left _ hq | exact List.mem_append_right _ hq | refine List.mem_cons_of_mem _ ?_ | refine List.mem_append_right _ ?_); done)))); (repeat refine List.forall_mem_cons.mpr ⟨by first | k_mem | exact List.mem_append_right _ (by k_mem) | exact List.mem_append_left _ (by k_mem), ?_⟩); first | exact List.forall_mem_nil _ | (intro q hq; (repeat first | exact hq | exact List.mem_append_left _ hq | exact List.mem_append_right _ hq | refine List.mem_cons_of_mem _ ?_ | refine List.mem_append_right _ ?_); done) | (refine List.forall_mem_append.mpr ⟨?_, ?_⟩ <;> (intro q hq; (repeat first | exact hq | exact List.mem_append_left _ hq | exact List.mem_append_right _ hq | refine List.mem_cons_of_mem _ ?_ | refine List.mem_append_right _ ?_); done))))))
  refine Stop.go (wpAny_call (most_in (G := G) tb lb (by (first | assumption | decide | lia | omega)) X T C44 C51 K D F₂ HD.stays st₂ ?hk hout hol gg44 gg51 ggLl (h44.keeps st₂) (h51.keeps st₂) rfl (room hroom (b := 58) (by decide)) ?_))
  case hk => decide
  intro h₃ tk₃ most m0 m1 t4 t5 nl F₃ but₃ tLl T44 T51 hn₃ hq₃ hM
  obtain ⟨sl, tLl⟩ := tLl
  have NN : News g L h₃ ((most, lst [.int m0 t4, .int m1 t5] nl) :: (L + 1 + 1 + 1 + 1 + 1 + 1, oV') :: (L + 1 + 1 + 1 + 1 + 1, oSg) :: (L + 1 + 1 + 1 + 1, oS') :: (L + 1 + 1 + 1, oC') :: (L + 1 + 1, oP) :: (L + 1, oZ) :: (111, tabObj ps111) :: []) := by
    refine List.forall_mem_cons.mpr ⟨⟨hq₃, fresh_of F₂ hn₃⟩, fun q hq => ?_⟩
    have h1 := news_sub N₂ (by ((try dsimp only [List.cons_append, List.nil_append]); (try (refine List.forall_mem_append.mpr ⟨?pa, ?_⟩; (case pa => (intro q hq; (repeat first | exact hq | exact List.mem_append_left _ hq | exact List.mem_append_right _ hq | refine List.mem_cons_of_mem _ ?_ | refine List.mem_append_right _ ?_); done)))); (repeat refine List.forall_mem_cons.mpr ⟨by first | k_mem | exact List.mem_append_right _ (by k_mem) | exact List.mem_append_left _ (by k_mem), ?_⟩); first | exact List.forall_mem_nil _ | (intro q hq; (repeat first | exact hq | exact List.mem_append_left _ hq | exact List.mem_append_right _ hq | refine List.mem_cons_of_mem _ ?_ | refine List.mem_append_right _ ?_); done) | (refine List.forall_mem_append.mpr ⟨?_, ?_⟩ <;> (intro q hq; (repeat first | exact hq | exact List.mem_append_left _ hq | exact List.mem_append_right _ hq | refine List.mem_cons_of_mem _ ?_ | refine List.mem_append_right _ ?_); done)))) q hq
    refine ⟨but₃ _ _ h1.1 ?_ ?_ h1.2.1 ?_, h1.2⟩
    all_goals
      rcases List.mem_cons.mp hq with rfl | hq
      · exact neN (off_add (by assumption) 6)
      rcases List.mem_cons.mp hq with rfl | hq
      · exact neN (off_add (by assumption) 5)
      rcases List.mem_cons.mp hq with rfl | hq
      · exact neN (off_add (by assumption) 4)
      rcases List.mem_cons.mp hq with rfl | hq
      · exact neN (off_add (by assumption) 3)
      rcases List.mem_cons.mp hq with rfl | hq
      · exact neN (off_add (by assumption) 2)
      rcases List.mem_cons.mp hq with rfl | hq
      · exact neN (off_add (by assumption) 1)
      rcases List.mem_cons.mp hq with rfl | hq
      · first | exact hL111.symm | exact neN (by dsimp only; decide)
      · cases hq
  obtain ⟨tt, Nt, hback, hq, hf⟩ := tabs_pack2 F₃ T44 T51 gg44 gg51
  have hLc : ∀ c oc, s.heap.get? c = some oc → CodeObjOf QL oc → Ll ≠ c := fun c oc e ho q => by
    obtain ⟨vs, t, d, _⟩ := ho
    rw [← q, hol] at e; cases e
    rw [hld] at d; cases d
  have hT : LamTab 111 211 11 QL G g (tabObj ps111) := h111.lam hp111 fun c oc e ho => HD.sees c oc e (List.forall_mem_cons.mpr ⟨(h111.code_ne e ho).symm, List.forall_mem_cons.mpr ⟨(h44.code_ne e ho).symm, List.forall_mem_cons.mpr ⟨(h51.code_ne e ho).symm, List.forall_mem_cons.mpr ⟨hLc _ _ e ho, List.forall_mem_nil _⟩⟩⟩⟩)
  have htt : ∀ q ∈ tt, @LT.lt Nat _ q.1 L ∨ @LT.lt Nat _ (L + 1 + 1 + 1 + 1 + 1 + 1) q.1 := fun q hq => by
    obtain ⟨vs, hv⟩ := hf q hq
    have h0 := Nt q hq
    have ne : ∀ a o z, h₃.get? a = some o → o.data = .cell z → q.1 ≠ a := fun a o z e d y => by
      have h1 := h0.1
      rw [y, e] at h1; cases h1
      rw [d] at hv; cases hv
    rcases Nat.lt_or_ge q.1 L with h | h
    · exact .inl h
    · exact .inr (Nat.lt_of_le_of_ne (Nat.lt_of_le_of_ne (Nat.lt_of_le_of_ne (Nat.lt_of_le_of_ne (Nat.lt_of_le_of_ne (Nat.lt_of_le_of_ne (Nat.lt_of_le_of_ne h (Ne.symm h0.2.1)) (Ne.symm (ne _ _ _ (NN.get (by k_mem)) dZ))) (Ne.symm (ne _ _ _ (NN.get (by k_mem)) dP))) (Ne.symm (ne _ _ _ (NN.get (by k_mem)) dC'))) (Ne.symm (ne _ _ _ (NN.get (by k_mem)) dS'))) (Ne.symm (ne _ _ _ (NN.get (by k_mem)) dSg))) (Ne.symm (ne _ _ _ (NN.get (by k_mem)) dV')))
  have htt1 : ∀ q ∈ tt, q.1 ≠ 111 := fun q hh => by
    rcases hq q hh with h | h | ⟨q2, vs, t, d, v⟩
    · rw [h]; decide
    · rw [h]; decide
    · intro e
      have h1 := (Nt q hh).1
      rw [e, NN.get (by k_mem)] at h1
      rw [← Option.some.inj h1] at d
      rcases hT with h | ⟨_, _, h, _⟩ <;> (rw [h] at d; cases d; cases v)
  dsimp only
  refine wpAny_storeName_local rfl F₃.ns (fun h₄ hn hs => ?_) rfl
  have F₄ := F₃.set hn hs
  have N₄ : News g L h₄ ((most, lst [.int m0 t4, .int m1 t5] nl) :: (L + 1 + 1 + 1 + 1 + 1 + 1, oV') :: (L + 1 + 1 + 1 + 1 + 1, oSg) :: (L + 1 + 1 + 1 + 1, oS') :: (L + 1 + 1 + 1, oC') :: (L + 1 + 1, oP) :: (L + 1, oZ) :: (111, tabObj ps111) :: (Ll, { ol with slots := sl }) :: tt) := News.set (fun q hq => by
    rcases List.mem_append (s := [(most, lst [.int m0 t4, .int m1 t5] nl), (L + 1 + 1 + 1 + 1 + 1 + 1, oV'), (L + 1 + 1 + 1 + 1 + 1, oSg), (L + 1 + 1 + 1 + 1, oS'), (L + 1 + 1 + 1, oC'), (L + 1 + 1, oP), (L + 1, oZ), (111, tabObj ps111)]).mp hq with h | h
    · exact NN q h
    · rcases List.mem_cons.mp h with rfl | h
      · exact ⟨tLl, neN (by ((try dsimp only); (repeat refine sne ?_); first | (first | exact up1 _ | exact up2 _ | exact up3 _ | exact up4 _ | exact up5 _ | exact up6 _) | (refine Ne.symm ?_; (first | exact up1 _ | exact up2 _ | exact up3 _ | exact up4 _ | exact up5 _ | exact up6 _)) | lia | omega)), ggLl⟩
      · exact Nt q h) hs
  dsimp only
  refine holds2 (tx := (Ll, { ol with slots := sl }) :: tt) rfl hc hs0 hv0 ht0 hz0 hz1 hU hUb hM F₄ ⟨rfl, rfl, rfl, trivial⟩ N₄ dV' dSg dS' dC' dP dZ k111 (List.forall_mem_cons.mpr ⟨.inl kLl, htt⟩) (List.forall_mem_cons.mpr ⟨hL111, htt1⟩) (List.forall_mem_cons.mpr ⟨fun e => ?_, fun q hh e => ?_⟩) HD.stays X' T' (C111.keeps HD.stays) hT g111.2 rfl (room hroom (b := 10) (by decide)) (room hun (b := 300) (by decide)) ?_
  · replace e : Ll = most := e
    rw [e, hq₃] at tLl
    have h1 := congrArg Obj.data (Option.some.inj tLl)
    replace h1 : Data.seq _ _ = ol.data := h1
    rw [hld] at h1; cases h1
  · obtain ⟨vs, hv⟩ := hf q hh
    have h1 := (Nt q hh).1
    rw [e, hq₃] at h1
    rw [← Option.some.inj h1] at hv
    cases hv
  intro h' tk' st hx T111
  obtain ⟨B44, B51⟩ := hback st (fun p hp => hx p (.tail _ hp))
  exact hR h' tk' (fun b o e n44 n51 n111 nLl => HD.backBut _ st b o e (List.forall_mem_cons.mpr ⟨n111.symm, List.forall_mem_cons.mpr ⟨n44.symm, List.forall_mem_cons.mpr ⟨n51.symm, List.forall_mem_cons.mpr ⟨nLl.symm, List.forall_mem_nil _⟩⟩⟩⟩)) ⟨sl, hx _ (.head _)⟩ B44 B51 T111
end
end
-- 36_law
section
theorem TabNews.notIter {P : Addr} {line col : Nat} {qual : Str} {tn : List (Addr × Obj)} (ht : TabNews P line col qual tn) {p : Addr × Obj} (hp : p ∈ tn) {l : Addr} {k : Int} (hd : p.2.data = .fields #[.ref l, .int k 0]) : False := by
  cases ht with
  | fresh =>
    cases hp with
    | head => cases hd
    | tail _ h => cases h
  | hit ho _ =>
    cases hp with
    | head => cases hd
    | tail _ h =>
      cases h with
      | head =>
        obtain ⟨vs, t, d, v⟩ := ho
        replace hd : _ = _ := d.symm.trans hd
        cases hd
        cases v
      | tail _ h => cases h
-- the iterator of the loop, or the list it goes over
noncomputable def OwnAt (p : Addr × Obj) : Prop := (∃ vs n, p.2.data = .seq vs n) ∨ ∃ l k, p.2.data = .fields #[.ref l, .int k 0]
theorem TabNews.own {P : Addr} {line col : Nat} {qual : Str} {tn : List (Addr × Obj)} (ht : TabNews P line col qual tn) {h : Heap} {p q : Addr × Obj} (hp : p ∈ tn) (ep : h.get? p.1 = some p.2) (eq : h.get? q.1 = some q.2) (hq : OwnAt q) : p.1 ≠ q.1 := fun e => by
  rw [← e, ep] at eq
  have e2 : p.2 = q.2 := Option.some.inj eq
  rcases hq with ⟨vs, n, d⟩ | ⟨l, k, d⟩
  · rw [← e2] at d
    exact ht.notSeq hp d
  · rw [← e2] at d
    exact ht.notIter hp d
section
variable {prog : Program} {w : World} {A : Around} {E : Value → Shared → Prop} {s : Shared} {env : Env} {h₀ : Heap} {x : Str} {body : List Stmt} {Q : Flow → Shared → Prop}
-- a loop over a list of the ledger, whose turns may add to the ledger
theorem iter_grow {a : Addr} {items : List Value} {nl : Nat} {m₀ : Str → Option Value} {news : List (Addr × Obj)} (J : (Str → Option Value) → List (Addr × Obj) → Prop)
    (hh : A.handled = none) (F : Fr h₀ env.locals s.heap m₀) (N : News h₀ env.locals s.heap ((a, lst items nl) :: news)) (h0 : J m₀ news)
    (step : ∀ (i : Nat) v m₁ news₁ (s₁ : Shared) own, items[i]? = some v → J m₁ news₁ → (∀ p ∈ own, OwnAt p) → Fr h₀ env.locals s₁.heap (fun y => if y = x then some v else m₁ y) → News h₀ env.locals s₁.heap (own ++ news₁) →
      wpAny (model prog w) A (execs body env) (fun f s₂ => f = .next ∧ ∃ h' tk' m₂ news₂, s₂ = { s₁ with heap := h', toks := tk' } ∧ Fr h₀ env.locals h' m₂ ∧ News h₀ env.locals h' (own ++ news₂) ∧ (∀ p ∈ news₂, ∀ q ∈ own, p.1 ≠ q.1) ∧ J m₂ news₂) E s₁)
    (done : ∀ h' tk m' news', Fr h₀ env.locals h' m' → News h₀ env.locals h' news' → J m' news' → Q .next { s with heap := h', toks := tk }) :
    wpAny (model prog w) A (pyIter (.ref a)) (fun it s₂ => LoopAtU prog w A h₀ env x body Q E it s₂) E s := by
  have hL := N (a, lst items nl) (.head _)
  have isl : s.heap.IsList a items.toArray := ⟨_, hL.1, rfl, nl, rfl⟩
  have neI : a ≠ s.heap.objs.size := Nat.ne_of_lt (Heap.lt_size hL.1)
  have newI : h₀.get? s.heap.objs.size = none := next_is_new F
  refine wpAny_pyIter_list isl ?_
  refine ⟨_, _, _, _, _, _, m₀, news, fun _ => J, rfl, Walks.list (prog := prog) (w := w) hh s.heap.objs.size a neI items.toArray, fun hm => ?_, fun b hb => ?_, fun p hp hI => ?_, ⟨⟨_, Heap.get?_push_size _ rfl, rfl, rfl⟩, isl.at fun o e => Heap.get?_push_of_some _ e⟩, F.push _, fun p hp => ⟨Heap.get?_push_of_some _ (N p (.tail _ hp)).1, (N p (.tail _ hp)).2⟩, h0, ?_, ?_⟩
  · rcases List.mem_cons.mp hm with e | hm
    · exact absurd F.ns.lt (e ▸ Nat.lt_irrefl _)
    · exact hL.2.1 (List.mem_singleton.mp hm).symm
  · rw [List.mem_singleton.mp hb]; exact newI
  · exact absurd (Heap.lt_size (N p (.tail _ hp)).1) ((List.mem_singleton.mp hI) ▸ Nat.lt_irrefl _)
  · rintro i v m₁ news₁ s₁ own hi hP hJ _ hown hget hall hst F₁ N₁
    obtain ⟨⟨it, hit, hic, hid⟩, ⟨ol, hol, hoc, nol, hod⟩⟩ := hst
    have memI := hall _ (.head _) newI _ hit
    have own2 : ∀ p ∈ own, OwnAt p := fun p hp => by
      have h1 := hget p hp
      rcases List.mem_cons.mp (hown p hp) with e | e
      · rw [e, hit] at h1
        exact .inr ⟨_, _, (Option.some.inj h1) ▸ hid⟩
      · rw [List.mem_singleton.mp e, hol] at h1
        exact .inl ⟨_, _, (Option.some.inj h1) ▸ hod⟩
    refine wpAny_mono (step i v m₁ news₁ s₁ own (by simpa using hP) hJ own2 F₁ N₁) (fun f s₂ h => ?_) fun _ _ e => e
    obtain ⟨rfl, h', tk2, m₂, news₂, rfl, F₂, N₂, ap, hJ₂⟩ := h
    exact ⟨rfl, h', tk2, m₂, news₂, rfl, F₂, N₂, fun p hp hI => ap p hp _ memI (List.mem_singleton.mp hI), hJ₂⟩
  · intro h' tk m' news' F' N' _ hJ
    exact done h' tk m' news' F' N' hJ
end
-- the three code tables in the ledger
noncomputable def TabsJ (size : Int) (m : Str → Option Value) (news : List (Addr × Obj)) : Prop :=
  (∃ t, m (Str.ofString "size") = some (.int size t)) ∧ ∃ ta tb tc, TabNews 44 73 4 Q44 ta ∧ TabNews 51 88 4 Q51 tb ∧ TabNews 111 211 11 QL tc ∧ ∀ p ∈ ta ++ (tb ++ tc), p ∈ news
theorem size_at {r : Int} (h0 : 0 ≤ r) (h1 : r < 7) : ∃ Uz : Int, 16 ≤ (2 : Int) ^ (4 + r).toNat ∧ (2 : Int) ^ (4 + r).toNat ≤ 1024 ∧ Uz * (2 : Int) ^ (4 + r).toNat = 1024 ∧ 0 < Uz ∧ Uz ≤ 64 := by
  have : r = 0 ∨ r = 1 ∨ r = 2 ∨ r = 3 ∨ r = 4 ∨ r = 5 ∨ r = 6 := by lia
  rcases this with rfl | rfl | rfl | rfl | rfl | rfl | rfl
  · exact ⟨64, by decide, by decide, by decide, by decide, by decide⟩
  · exact ⟨32, by decide, by decide, by decide, by decide, by decide⟩
  · exact ⟨16, by decide, by decide, by decide, by decide, by decide⟩
  · exact ⟨8, by decide, by decide, by decide, by decide, by decide⟩
  · exact ⟨4, by decide, by decide, by decide, by decide, by decide⟩
  · exact ⟨2, by decide, by decide, by decide, by decide, by decide⟩
  · exact ⟨1, by decide, by decide, by decide, by decide, by decide⟩
theorem asked_small {ns : List Int} : ∀ k ∈ [20335, 5615, 12312] ++ List.drop 1 (List.map (fun k' => Int.fmod k' (10 ^ 6)) ns), 0 ≤ k ∧ k < 2 ^ 30 := fun k hk => by
  rcases List.mem_append.mp hk with h | h
  · simp only [List.mem_cons, List.not_mem_nil, or_false] at h
    lia
  · obtain ⟨j, _, rfl⟩ := List.mem_map.mp (List.mem_of_mem_drop h)
    rw [Int.fmod_eq_emod_of_nonneg _ (by decide)]
    lia
-- behind a turn
theorem turn_back {G h h' : Heap} {L : Addr} {m : Str → Option Value} {size : Int} {own news₁ : List (Addr × Obj)} {ol : Obj} (hol : h.get? L = some ol) (F : Fr G L h m) (N : News G L h (own ++ news₁)) (hJ : TabsJ size m news₁) (hown : ∀ p ∈ own, OwnAt p)
    (but : ∀ b o, h.get? b = some o → b ≠ 44 → b ≠ 51 → b ≠ 111 → b ≠ L → h'.get? b = some o) (hsl : ∃ sl, h'.get? L = some { ol with slots := sl }) (B44 : TabIn 44 73 4 Q44 G h') (B51 : TabIn 51 88 4 Q51 G h') (B111 : TabIn 111 211 11 QL G h') :
    ∃ news₂, Fr G L h' m ∧ News G L h' (own ++ news₂) ∧ (∀ p ∈ news₂, ∀ q ∈ own, p.1 ≠ q.1) ∧ TabsJ size m news₂ := by
  obtain ⟨hs, ta, tb, tc, Ta, Tb, Tc, hmem⟩ := hJ
  obtain ⟨ta', Ta', ea⟩ := B44
  obtain ⟨tb', Tb', eb⟩ := B51
  obtain ⟨tc', Tc', ec⟩ := B111
  have own' : ∀ q ∈ own, h'.get? q.1 = some q.2 := fun q hq => by
    have hN := N q (List.mem_append_left _ hq)
    obtain ⟨oa, ha⟩ := Ta.mem
    obtain ⟨ob, hb⟩ := Tb.mem
    obtain ⟨oc, hc⟩ := Tc.mem
    exact but _ _ hN.1 (Ta.own ha (N _ (List.mem_append_right _ (hmem _ (List.mem_append_left _ ha)))).1 hN.1 (hown q hq)).symm (Tb.own hb (N _ (List.mem_append_right _ (hmem _ (List.mem_append_right _ (List.mem_append_left _ hb))))).1 hN.1 (hown q hq)).symm
      (Tc.own hc (N _ (List.mem_append_right _ (hmem _ (List.mem_append_right _ (List.mem_append_right _ hc))))).1 hN.1 (hown q hq)).symm hN.2.1
  obtain ⟨sl, hL⟩ := hsl
  obtain ⟨oL, es, ep, hoL, hd, _⟩ := id F.ns
  rw [hol] at hoL
  cases hoL
  have notL : ∀ p : Addr × Obj, (∃ vs, p.2.data = .fields vs) → h'.get? p.1 = some p.2 → p.1 ≠ L := fun p ⟨vs, hv⟩ e q => by
    rw [q, hL] at e
    rw [← Option.some.inj e] at hv
    replace hv : ol.data = _ := hv
    rw [hd] at hv; cases hv
  refine ⟨ta' ++ (tb' ++ tc'), ⟨nsSlots F.ns fun o e => ⟨sl, by rw [hol] at e; cases e; exact hL⟩, fun b o e => but b o (F.keep b o e) ?_ ?_ ?_ ?_, F.above⟩, fun p hp => ?_, fun p hp q hq => ?_, hs, ta', tb', tc', Ta', Tb', Tc', fun p hp => hp⟩
  · obtain ⟨o', hm⟩ := Ta'.mem
    intro q; rw [q, (ea _ hm).2] at e; cases e
  · obtain ⟨o', hm⟩ := Tb'.mem
    intro q; rw [q, (eb _ hm).2] at e; cases e
  · obtain ⟨o', hm⟩ := Tc'.mem
    intro q; rw [q, (ec _ hm).2] at e; cases e
  · intro q; rw [q, kts_self F] at e; cases e
  · rcases List.mem_append.mp hp with h1 | h1
    · exact ⟨own' p h1, (N p (List.mem_append_left _ h1)).2⟩
    · rcases List.mem_append.mp h1 with h1 | h1
      · exact ⟨(ea p h1).1, notL p (Ta'.fields h1) (ea p h1).1, (ea p h1).2⟩
      · rcases List.mem_append.mp h1 with h1 | h1
        · exact ⟨(eb p h1).1, notL p (Tb'.fields h1) (eb p h1).1, (eb p h1).2⟩
        · exact ⟨(ec p h1).1, notL p (Tc'.fields h1) (ec p h1).1, (ec p h1).2⟩
  · rcases List.mem_append.mp hp with h1 | h1
    · exact Ta'.own h1 (ea p h1).1 (own' q hq) (hown q hq)
    · rcases List.mem_append.mp h1 with h1 | h1
      · exact Tb'.own h1 (eb p h1).1 (own' q hq) (hown q hq)
      · exact Tc'.own h1 (ec p h1).1 (own' q hq) (hown q hq)
section
variable {prog : Program} {w : World} {A : Around} {E : Value → Shared → Prop} {s : Shared} {env : Env} {h₀ : Heap} {x : Str} {body : List Stmt} {Q : Flow → Shared → Prop}
theorem iter_law {a : Addr} {items : List Value} {nl : Nat} {m₀ : Str → Option Value} {news : List (Addr × Obj)} {zs : List Int} (hI : IntsAre items zs) (hb : ∀ k ∈ zs, 0 ≤ k ∧ k < 2 ^ 30) (J : (Str → Option Value) → List (Addr × Obj) → Prop)
    (hh : A.handled = none) (F : Fr h₀ env.locals s.heap m₀) (N : News h₀ env.locals s.heap ((a, lst items nl) :: news)) (h0 : J m₀ news)
    (step : ∀ (k : Int) (t : Tok) m₁ news₁ (s₁ : Shared) own, 0 ≤ k → k < 2 ^ 30 → J m₁ news₁ → (∀ p ∈ own, OwnAt p) → Fr h₀ env.locals s₁.heap (fun y => if y = x then some (.int k t) else m₁ y) → News h₀ env.locals s₁.heap (own ++ news₁) →
      wpAny (model prog w) A (execs body env) (fun f s₂ => f = .next ∧ ∃ h' tk' m₂ news₂, s₂ = { s₁ with heap := h', toks := tk' } ∧ Fr h₀ env.locals h' m₂ ∧ News h₀ env.locals h' (own ++ news₂) ∧ (∀ p ∈ news₂, ∀ q ∈ own, p.1 ≠ q.1) ∧ J m₂ news₂) E s₁)
    (done : ∀ h' tk m' news', Fr h₀ env.locals h' m' → News h₀ env.locals h' news' → J m' news' → Q .next { s with heap := h', toks := tk }) :
    wpAny (model prog w) A (pyIter (.ref a)) (fun it s₂ => LoopAtU prog w A h₀ env x body Q E it s₂) E s :=
  iter_grow J hh F N h0 (fun i v m₁ news₁ s₁ own hi hJ hown F₁ N₁ => by
    obtain ⟨k, t, rfl, hk⟩ := hI.at i v hi
    have := hb k (List.mem_of_getElem? hk)
    exact step k t m₁ news₁ s₁ own this.1 this.2 hJ hown F₁ N₁) done
end
theorem TabNews.tab {P : Addr} {line col : Nat} {qual : Str} {tn : List (Addr × Obj)} (ht : TabNews P line col qual tn) : ∃ ps, (P, tabObj ps) ∈ tn := by
  cases ht with
  | fresh => exact ⟨_, .head _⟩
  | hit => exact ⟨_, .head _⟩
theorem TabsJ.grown {G h : Heap} {L : Addr} {size : Int} {m : Str → Option Value} {news : List (Addr × Obj)} (J : TabsJ size m news) (N : News G L h news) : ∃ pa pb pc, News G L h [(51, tabObj pa), (44, tabObj pb), (111, tabObj pc)] := by
  obtain ⟨_, ta, tb, tc, Ta, Tb, Tc, hmem⟩ := J
  obtain ⟨pb, hb⟩ := Ta.tab
  obtain ⟨pa, ha⟩ := Tb.tab
  obtain ⟨pc, hc⟩ := Tc.tab
  exact ⟨pa, pb, pc, List.forall_mem_cons.mpr ⟨N _ (hmem _ (List.mem_append_right _ (List.mem_append_left _ ha))), List.forall_mem_cons.mpr ⟨N _ (hmem _ (List.mem_append_left _ hb)), List.forall_mem_cons.mpr ⟨N _ (hmem _ (List.mem_append_right _ (List.mem_append_right _ hc))), List.forall_mem_nil _⟩⟩⟩⟩
end
-- 37_main
section
section
theorem law_turn {w : World} {E : Value → Shared → Prop} {Q : Flow → Shared → Prop} {p : Program} {loose : List Str} {mean : ExcName → Option Value} {mg mb : Str → Option Value} {G : Heap} {L fa : Addr} {cd : Value} {scope : Scope} {stmts : List Stmt} {sh : Shared} {m₁ : Str → Option Value} {own news₁ : List (Addr × Obj)} {k size Uz : Int} {t : Tok}
   (hN : loopOf (hd.heap_39 w.params) 119 2 = some (scope, stmts)) (k0 : 0 ≤ k) (k1 : k < 2 ^ 30) (hz0 : 16 ≤ size) (hz1 : size ≤ 1024) (hU : Uz * size = 1024) (hUb : 0 < Uz ∧ Uz ≤ 64)
   (X : (hd.heap_39 w.params).In G) (T : Top p loose mean mg mb G) (C44 : CodeHd G 48 44) (C51 : CodeHd G 55 51) (C111 : CodeHd G 113 111) (K : Below callerA G [] G)
   (hJ : TabsJ size m₁ news₁) (hown : ∀ p ∈ own, OwnAt p) (F₁ : Fr G L sh.heap (fun y => if y = Str.ofString "x" then some (.int k t) else m₁ y)) (N₁ : News G L sh.heap (own ++ news₁))
   (hQ : ∀ h' tk' m₂ news₂, Fr G L h' m₂ → News G L h' (own ++ news₂) → (∀ p ∈ news₂, ∀ q ∈ own, p.1 ≠ q.1) → TabsJ size m₂ news₂ → Q .next { sh with heap := h', toks := tk' }) :
   wpAny (model PR w) (callerA.deeper (envOf (Str.ofString "law") scope L fa cd)) (execs stmts (envOf (Str.ofString "law") scope L fa cd)) Q E sh := by
  have st1 : StopAt "call ref" := .intro
  have st2 : StopAt "pyIter ref" := .intro
  (have hfill : PySem.Challenge.rw_pe0221_01 = PySem.Challenge.rw_pe0221_01 ∧ hd.heap_39 = hd.heap_39 := (by k_fill; exact ⟨rfl, rfl⟩); clear hfill)
  rw [show loopOf (hd.heap_39 w.params) 119 2 = some _ from rfl] at hN
  cases hN
  obtain ⟨ts, hs⟩ := hJ.1
  have F₂ := frSee (ps := [(Str.ofString "x", .int k t), (Str.ofString "size", .int size ts)]) F₁ ⟨rfl, (if_neg (by decide)).trans hs, trivial⟩
  show wpAny _ _ _ _ _ _
  k_steps
  obtain ⟨oL, es, ep, hoL, hdL, _⟩ := id F₁.ns
  obtain ⟨hs', ta, tb, tc, Ta, Tb, Tc, hmem⟩ := id hJ
  refine Stop.go (wpAny_call (holds_c (Ll := L) (ol := oL) k0 k1 hz0 hz1 hU hUb X T C44 C51 C111 (K.push F₂ rfl) ?D rfl hoL ⟨ta, Ta, ?t1⟩ ⟨tb, Tb, ?t2⟩ ⟨tc, Tc, ?t3⟩ rfl ?hroom ?hun ?_))
  case D =>
    intro b hb
    rw [List.mem_singleton.mp hb]
    exact ⟨oL, es, ep, hoL, hdL⟩
  case t1 => exact fun p hp => ⟨(N₁ p (List.mem_append_right _ (hmem p (List.mem_append_left _ hp)))).1, (N₁ p (List.mem_append_right _ (hmem p (List.mem_append_left _ hp)))).2.2⟩
  case t2 => exact fun p hp => ⟨(N₁ p (List.mem_append_right _ (hmem p (List.mem_append_right _ (List.mem_append_left _ hp))))).1, (N₁ p (List.mem_append_right _ (hmem p (List.mem_append_right _ (List.mem_append_left _ hp))))).2.2⟩
  case t3 => exact fun p hp => ⟨(N₁ p (List.mem_append_right _ (hmem p (List.mem_append_right _ (List.mem_append_right _ hp))))).1, (N₁ p (List.mem_append_right _ (hmem p (List.mem_append_right _ (List.mem_append_right _ hp))))).2.2⟩
  case hroom =>
    show 1 + claimMargin + 1 + 60 < recursionLimit
    decide
  case hun =>
    show 4 + 3 + 310 < cLine
    decide
  intro h' tk' but hsl B44 B51 B111
  obtain ⟨news₂, F₃, N₃, ap, hJ₃⟩ := turn_back hoL F₁ N₁ (m := _) ⟨⟨ts, (if_neg (by decide)).trans hs⟩, hJ.2⟩ hown but hsl B44 B51 B111
  dsimp only
  have F₄ := frSee (ps := [(Str.ofString "x", .int k t), (Str.ofString "size", .int size ts)]) F₃ ⟨rfl, (if_neg (by decide)).trans hs, trivial⟩
  clear F₂
  k_steps
  exact hQ _ _ _ news₂ F₃ N₃ ap hJ₃
theorem law_all : PySem.Challenge.rw_pe0221_01.Holds := hd (by
  have st1 : StopAt "call ref" := .intro
  have st2 : StopAt "pyIter ref" := .intro
  k_go0
  all_goals ((show wpAny _ _ _ _ _ _); k_fold)
  k_steps
  rename Fr _ _ _ _ => F
  rename News _ _ _ _ => N
  rename IntsAre _ _ => hI
  rename Below _ _ _ _ => K
  rename Frag.In _ _ => X
  rename Top _ _ _ _ _ _ => T
  rename (0 : Int) ≤ Int.fmod _ 7 => r0
  rename Int.fmod _ 7 < 7 => r1
  obtain ⟨Uz, hz0, hz1, hU, hUb⟩ := size_at r0 r1
  generalize (2 : Int) ^ (4 + Int.fmod _ 7).toNat = size at *
  refine Stop.go (iter_law hI asked_small (TabsJ size) rfl F N ⟨⟨_, rfl⟩, [(44, tabObj #[])], [(51, tabObj #[])], [(111, tabObj #[])], .fresh, .fresh, .fresh, ?tabs⟩ ?step ?done)
  case tabs =>
    intro p hp
    simp only [List.mem_append, List.mem_cons, List.not_mem_nil, or_false] at hp
    rcases hp with rfl | rfl | rfl <;> k_mem
  case step =>
    intro k t m₁ news₁ sh own k0 k1 hJ hown F₁ N₁
    exact law_turn rfl k0 k1 hz0 hz1 hU hUb X T (by assumption) (by assumption) (by assumption) K hJ hown F₁ N₁ fun h' tk' m₂ news₂ F' N' ap J => ⟨rfl, h', tk', m₂, news₂, rfl, F', N', ap, J⟩
  case done =>
    intro h' tk m' news' F₉ N₈ hJ
    obtain ⟨pa, pb, pc, N₉⟩ := hJ.grown N₈
    clear F N N₈
    dsimp only
    k_steps)
end
end
end Mine
set_option maxRecDepth 100000 in
set_option maxHeartbeats 8000000 in
theorem PySem.Challenge.cw_pe0221_01_holds : PySem.Challenge.rw_pe0221_01.Holds := by
  exact Mine.law_all
