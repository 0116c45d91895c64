import JvmDerived
import JvmDerived.Pilot.@@N@@Statement
import JvmDerived.Pilot.@@N@@Code
set_option linter.unusedVariables false
set_option linter.unusedSimpArgs false
@@BLOCK:NumsL.lean.txt@@
namespace Jvm.RoadKit
open Sem ClassFile Op Lib Jvm.Stand Jvm.Free Jvm.LawKit
section New
variable {p : Program} {l : Launch} {e : Env} {R : Room} {s : State} {m : MethodId} {args : Array Value} {below : List Frame} {meth : Method} {c : Code} {T : State} {locs : List Loc} {cells slots : Nat}
theorem retI (X : Stand p l e R s m args below meth c T locs cells slots) (hx : p.tables.exec = Jvm.exec) {pc : Nat} {Ls : Array Slot} {z : Int32} {rest : List Value} (hret : meth.sig.returnType = some .int) (hd : decode c.code pc = .ok (.ireturn, 1)) {fs : List Frame}
    (hl : ∀ (f : JFrame) (acts : List Action), f.method = m → f.locked = none → f.entered = [] → (doReturn e (T.setTop f) acts (some (.int z))).1 = T.setFrames fs) : Steps p.tables e below (T.setTop (mkF m pc Ls (.int z :: rest))) (T.setFrames fs) := by
  have hm' : T.vm.method? m = some meth := X.method'
  have hn : narrow .int (.int z) = .int z := rfl
  show Steps p.tables e below (T.setTop { method := m, pc := pc, locals := Ls, stack := _ :: rest, locked := none }) _
  jvm_step X.here [X.here.top, hx, hd, hm', hret, hn]
  first | (intro acts; rw [hl _ acts rfl rfl rfl]) | rw [hl _ _ rfl rfl rfl]
  exact Steps.refl _
end New
end Jvm.RoadKit

namespace Jvm.Pilot.@@N@@
section Dy
open Jvm.FP Jvm.FP.Core
def own_Dy (k : Nat) (i : Int) : Datum → Prop
  | .fin s c q => Whole i (.fin s c (q + (k : Int)))
  | _ => False
theorem own_dy_order {k : Nat} {i j : Int} {x y : Datum} (hx : own_Dy k i x) (hy : own_Dy k j y) : order x y = some (compare i j) := by
  cases x with
  | nan => exact hx.elim
  | inf => exact hx.elim
  | fin s c q =>
    cases y with
    | nan => exact hy.elim
    | inf => exact hy.elim
    | fin t d r =>
      have h := order_whole (x := .fin s c (q + (k : Int))) (y := .fin t d (r + (k : Int))) hx hy
      rw [← h]
      have e1 : min (q + (k : Int)) (r + (k : Int)) = min q r + (k : Int) := by omega
      show some (compare (signed s (inUnits c q (min q r))) (signed t (inUnits d r (min q r)))) = some (compare (signed s (inUnits c (q + (k : Int)) (min (q + (k : Int)) (r + (k : Int))))) (signed t (inUnits d (r + (k : Int)) (min (q + (k : Int)) (r + (k : Int))))))
      unfold inUnits
      rw [e1, show q + (k : Int) - (min q r + (k : Int)) = q - min q r by omega, show r + (k : Int) - (min q r + (k : Int)) = r - min q r by omega]
theorem own_shift {c c' n : Nat} {Q q : Int} (h1 : c * 2 ^ Q.toNat = n * 2 ^ (-Q).toNat) (h2 : c' * 2 ^ q.toNat = n * 2 ^ (-q).toNat) : c * 2 ^ (Q - q).toNat = c' * 2 ^ (q - Q).toNat := by
  obtain ⟨mm, e1, e2⟩ : ∃ mm, Q.toNat + (-q).toNat = (Q - q).toNat + mm ∧ q.toNat + (-Q).toNat = (q - Q).toNat + mm := ⟨min (Q.toNat + (-q).toNat) (q.toNat + (-Q).toNat), by omega, by omega⟩
  have h3 : c * 2 ^ (Q.toNat + (-q).toNat) = c' * 2 ^ (q.toNat + (-Q).toNat) := by
    rw [Nat.pow_add, Nat.pow_add, ← Nat.mul_assoc, ← Nat.mul_assoc, h1, h2, Nat.mul_right_comm]
  rw [e1, e2, Nat.pow_add, Nat.pow_add, ← Nat.mul_assoc, ← Nat.mul_assoc] at h3
  exact Nat.eq_of_mul_eq_mul_right (Nat.two_pow_pos _) h3
theorem own_dy_round {k : Nat} {i : Int} {d : Datum} (hk : k ≤ 900) (hi : i.natAbs ≤ 2 ^ 53) (h : own_Dy k i d) : own_Dy k i (round b64 d) := by
  cases d with
  | nan => exact h.elim
  | inf => exact h.elim
  | fin s c q =>
    have hW : Whole i (.fin s c (q + (k : Int))) := h
    by_cases h0 : i = 0
    · have hc : c = 0 := (whole_zero hW).mpr h0
      subst h0 hc
      show own_Dy k 0 (.fin s 0 b64.qmin)
      show signed s (0 * 2 ^ (b64.qmin + (k : Int)).toNat) = 0 * _
      rw [Nat.zero_mul, Int.zero_mul]
      exact signed_zero s
    · have hR := whole_round good_b64 wide_b64 hi hW
      have hF := round_fits good_b64 (.fin s c (q + (k : Int)))
      have hS : sgn (round b64 (.fin s c (q + (k : Int)))) = s := sgn_roundRatio b64 s c 1 (q + (k : Int))
      cases hr : round b64 (.fin s c (q + (k : Int))) with
      | nan => rw [hr] at hR; exact hR.elim
      | inf => rw [hr] at hR; exact hR.elim
      | fin s' c' q' =>
        rw [hr] at hR hF hS
        have hs : s' = s := hS
        subst hs
        have n1 := whole_natAbs hW
        have n2 := whole_natAbs hR
        obtain ⟨f1, f2, f3, f4⟩ := hF
        have hp : b64.p = 53 := rfl
        have hm : b64.qmin = -1074 := qmin_b64
        have hM : b64.qmax = 971 := by decide
        have hn : 1 ≤ i.natAbs := by omega
        have hq : -53 < q' := by
          refine Int.lt_of_not_ge fun hge => ?_
          have z : q'.toNat = 0 := by omega
          rw [z, Nat.pow_zero, Nat.mul_one] at n2
          have : 2 ^ 53 ≤ 2 ^ (-q').toNat := Nat.pow_le_pow_right (by decide) (by omega)
          have : 1 * 2 ^ (-q').toNat ≤ i.natAbs * 2 ^ (-q').toNat := Nat.mul_le_mul_right _ hn
          rw [hp] at f1
          omega
        have hfit : Jvm.FP.Core.fits b64 (.fin s' c' (q' - (k : Int))) := ⟨f1, by omega, by omega, by omega⟩
        have he : round b64 (.fin s' c q) = .fin s' c' (q' - (k : Int)) := by
          refine roundRatio_exact good_b64 (by decide) hfit ?_
          have := own_shift n1 n2
          rw [show q - (q' - (k : Int)) = q + (k : Int) - q' by omega, show q' - (k : Int) - q = q' - (q + (k : Int)) by omega, Nat.mul_one]
          exact this
        rw [he]
        show Whole i (.fin s' c' (q' - (k : Int) + (k : Int)))
        rw [show q' - (k : Int) + (k : Int) = q' by omega]
        exact hR
theorem own_dy_sum {k : Nat} {i j : Int} {x y : Datum} (hx : own_Dy k i x) (hy : own_Dy k j y) : own_Dy k (i + j) (exactSum x y) := by
  cases x with
  | nan => exact hx.elim
  | inf => exact hx.elim
  | fin s c q =>
    cases y with
    | nan => exact hy.elim
    | inf => exact hy.elim
    | fin t d r =>
      have e1 : min (q + (k : Int)) (r + (k : Int)) = min q r + (k : Int) := by omega
      have e : sumUnits s c (q + (k : Int)) t d (r + (k : Int)) (min (q + (k : Int)) (r + (k : Int))) = sumUnits s c q t d r (min q r) := by
        unfold sumUnits inUnits
        rw [e1, show q + (k : Int) - (min q r + (k : Int)) = q - min q r by omega, show r + (k : Int) - (min q r + (k : Int)) = r - min q r by omega]
      have h : Whole (i + j) (.fin (sumSign s t (sumUnits s c (q + (k : Int)) t d (r + (k : Int)) (min (q + (k : Int)) (r + (k : Int))))) (sumUnits s c (q + (k : Int)) t d (r + (k : Int)) (min (q + (k : Int)) (r + (k : Int)))).natAbs (min (q + (k : Int)) (r + (k : Int)))) := whole_sum (x := .fin s c (q + (k : Int))) (y := .fin t d (r + (k : Int))) hx hy
      rw [e, e1] at h
      exact h
theorem own_dadd {k : Nat} {i j : Int} {a b : UInt64} (hk : k ≤ 900) (ha : own_Dy k i (val64 a)) (hb : own_Dy k j (val64 b)) (h : (i + j).natAbs ≤ 2 ^ 53) : own_Dy k (i + j) (val64 (FP.dadd a b)) := by
  show own_Dy k (i + j) (val64 (Core.dadd a b))
  rw [val64_dadd]
  exact own_dy_round hk h (own_dy_sum ha hb)
theorem own_dy_int {k : Nat} {i : Int} {x : Datum} (h : Whole i x) : own_Dy k (i * ((2 ^ k : Nat) : Int)) x := by
  cases x with
  | nan => exact h.elim
  | inf => exact h.elim
  | fin s c q =>
    show signed s (c * 2 ^ (q + (k : Int)).toNat) = i * ((2 ^ k : Nat) : Int) * ((2 ^ (-(q + (k : Int))).toNat : Nat) : Int)
    have h1 : signed s (c * 2 ^ q.toNat) = i * ((2 ^ (-q).toNat : Nat) : Int) := h
    have e : q.toNat + k + (-(q + (k : Int))).toNat = (q + (k : Int)).toNat + (-q).toNat + (k - k) := by omega
    have p : ((2 ^ (-q).toNat : Nat) : Int) ≠ 0 := by have := Nat.two_pow_pos (-q).toNat; omega
    refine Int.eq_of_mul_eq_mul_right p ?_
    rw [← signed_mul, Nat.mul_assoc, ← Nat.pow_add, show (q + (k : Int)).toNat + (-q).toNat = q.toNat + (k + (-(q + (k : Int))).toNat) by omega, Nat.pow_add, ← Nat.mul_assoc, signed_mul, h1, Nat.pow_add, Int.natCast_mul]
    simp only [Int.mul_assoc, Int.mul_comm, Int.mul_left_comm]
theorem own_ddiv {i : Int} {x : UInt64} (hx : DInt i x) (hi : i.natAbs ≤ 2 ^ 53) : own_Dy 20 i (val64 (FP.ddiv x 4697254411347427328)) := by
  show own_Dy 20 i (val64 (Core.ddiv x 4697254411347427328))
  rw [val64_ddiv, show val64 4697254411347427328 = .fin false (2 ^ 52) (-32) by decide +kernel]
  unfold DInt at hx
  cases hv : val64 x with
  | nan => rw [hv] at hx; exact hx.elim
  | inf => rw [hv] at hx; exact hx.elim
  | fin s c q =>
    rw [hv] at hx
    have e : quotient b64 (.fin s c q) (.fin false (2 ^ 52) (-32)) = round b64 (.fin s c (q - 20)) := by
      show (if (2 ^ 52 : Nat) = 0 then (if c = 0 then Datum.nan else Datum.inf (s != false)) else roundRatio b64 (s != false) c (2 ^ 52) (q - (-32))) = roundRatio b64 s c 1 (q - 20)
      rw [if_neg (by decide), show (s != false) = s by cases s <;> rfl]
      refine roundRatio_congr (by decide) (by decide) ?_
      rw [show (q - (-32) - (q - 20)).toNat = 52 by omega, show (q - 20 - (q - (-32))).toNat = 0 by omega]
      simp
    rw [e]
    refine own_dy_round (by decide) hi ?_
    show Whole i (.fin s c (q - 20 + ((20 : Nat) : Int)))
    rw [show q - 20 + ((20 : Nat) : Int) = q by omega]
    exact hx
theorem own_dcmp {k : Nat} {i j : Int} {a b : UInt64} (ha : own_Dy k i (val64 a)) (hb : own_Dy k j (val64 b)) : FP.dcmp a b = some (compare i j) := own_dy_order ha hb
theorem own_cmp3 (i j : Int) : (i < j ∧ compare i j = .lt) ∨ (i = j ∧ compare i j = .eq) ∨ (j < i ∧ compare i j = .gt) := by
  simp only [compare, compareOfLessAndEq]
  by_cases h1 : i < j
  · left; simp [h1]
  · by_cases h2 : i = j
    · right; left; simp [h2]
    · right; right; exact ⟨by omega, by rw [if_neg h1, if_neg h2]⟩
end Dy
end Jvm.Pilot.@@N@@
namespace Jvm.Pilot.@@N@@
open Jvm Jvm.ClassFile Sem Op Lib Jvm.Free Jvm.Stand Jvm.LawKit Jvm.RoadKit Bundle Jvm.Pilot.@@N@@.Jvm.D

def own_bit (f k : Int32) : Int32 := bif ifCond.holds .eq (f &&& k) then (0 : Int32) else (1 : Int32)
def own_m (a : Int32) : Int64 := (a &&& (1073741823 : Int32)).toInt64
def own_M (a b : Int32) : Int64 := own_m a + own_m b
def own_max (a b f : Int32) : UInt64 := bif ifCond.holds .eq (own_bit f (4 : Int32)) then FP.l2d (own_M a b) else (9218868437227405312 : UInt64)
def own_lo (inc c : Int32) : Int32 := bif ifCond.holds .eq inc then (bif ifCond.holds .le c then (0 : Int32) else (1 : Int32)) else (bif ifCond.holds .lt c then (0 : Int32) else (1 : Int32))
def own_hi (inc c : Int32) : Int32 := bif ifCond.holds .eq inc then (bif ifCond.holds .ge c then (0 : Int32) else (1 : Int32)) else (bif ifCond.holds .gt c then (0 : Int32) else (1 : Int32))
def own_and (lo hi c : Int32) : Int32 := bif ifCond.holds .eq lo then (0 : Int32) else (bif ifCond.holds .eq hi then (0 : Int32) else (bif ifCond.holds .ge c then (0 : Int32) else (1 : Int32)))
def own_cont (pmin : UInt64) (imin : Int32) (pmax : UInt64) (imax : Int32) (px : UInt64) : Int32 := own_and (own_lo imin (cmpValue (FP.dcmp px pmin) .l)) (own_hi imax (cmpValue (FP.dcmp px pmax) .g)) (cmpValue (FP.dcmp px (9218868437227405312 : UInt64)) .g)
def own_ehi (inf inc c : Int32) : Int32 := bif ifCond.holds .ne inf then (1 : Int32) else own_hi inc c
def own_exp (lo hi : Int32) : Int32 := bif ifCond.holds .eq lo then (0 : Int32) else (bif ifCond.holds .eq hi then (0 : Int32) else (1 : Int32))
def own_lo1 (c : Int32) : Int32 := bif ifCond.holds .lt c then (0 : Int32) else (1 : Int32)
def own_hi1 (inf c : Int32) : Int32 := bif ifCond.holds .ne inf then (1 : Int32) else (bif ifCond.holds .ge c then (0 : Int32) else (1 : Int32))
theorem own_nar_bit (f k : Int32) : nar .boolean (own_bit f k) = own_bit f k := by
  unfold own_bit
  generalize ifCond.holds .eq (f &&& k) = b
  cases b <;> rfl
theorem own_nar3 (b1 b2 b3 : Bool) : nar .boolean (bif b1 then (0 : Int32) else (bif b2 then (0 : Int32) else (bif b3 then (0 : Int32) else (1 : Int32)))) = (bif b1 then (0 : Int32) else (bif b2 then (0 : Int32) else (bif b3 then (0 : Int32) else (1 : Int32)))) := by
  cases b1 <;> cases b2 <;> cases b3 <;> rfl
theorem own_eq_ne (x : Int32) : ifCond.holds .eq x = !ifCond.holds .ne x := by
  show (x == 0) = !(!(x == 0))
  rw [Bool.not_not]
theorem own_m_int (a : Int32) : (own_m a).toInt = a.toInt % 1073741824 := by
  unfold own_m
  rw [Int32.toInt_toInt64, Jvm.Kit.i32_mask a 1073741823 (k := 30) (by decide) (by decide)]
  rfl
theorem own_M_int (a b : Int32) : (own_M a b).toInt = a.toInt % 1073741824 + b.toInt % 1073741824 := by
  have h1 := own_m_int a
  have h2 := own_m_int b
  unfold own_M
  rw [Jvm.Kit.i64_add (by omega) (by omega), h1, h2]
theorem own_cv (a b : Int64) (o : CmpOp) : cmpValue (some (compare a.toInt b.toInt)) o = lcmpW a b := by
  have e1 : (a > b) ↔ b.toInt < a.toInt := Int64.lt_iff_toInt_lt
  have e2 : (a = b) ↔ a.toInt = b.toInt := Int64.toInt_inj.symm
  unfold lcmpW
  rcases own_cmp3 a.toInt b.toInt with ⟨h1, h2⟩ | ⟨h1, h2⟩ | ⟨h1, h2⟩
  · rw [h2, if_neg (fun q => by have := e1.mp q; omega), if_neg (fun q => by have := e2.mp q; omega)]; cases o <;> rfl
  · rw [h2, if_neg (fun q => by have := e1.mp q; omega), if_pos (e2.mpr h1)]; cases o <;> rfl
  · rw [h2, if_pos (e1.mpr h1)]; cases o <;> rfl
theorem own_lint {a : Int64} (h1 : -4611686018427 < a.toInt) (h2 : a.toInt < 4611686018427) : FP.Core.DInt a.toInt (FP.l2d a) := FP.Core.l2d_int (by omega)
theorem own_final (I1 I2 I3 c1 c2 d2 c3 : Int32) (h3 : ifCond.holds .ge c3 = false) (h : (ifCond.holds .ne I3 = true ∧ ifCond.holds .ge d2 = false ∧ ifCond.holds .gt d2 = false) ∨ (ifCond.holds .ne I3 = false ∧ d2 = c2)) :
    if_icmp.holds .ne (own_and (own_lo I1 c1) (own_hi I2 d2) c3) (own_exp (own_lo I1 c1) (own_ehi I3 I2 c2)) = false := by
  unfold own_and own_exp own_ehi
  rw [h3]
  have hl : own_lo I1 c1 = 0 ∨ own_lo I1 c1 = 1 := by
    unfold own_lo
    generalize ifCond.holds .eq I1 = b1
    generalize ifCond.holds .le c1 = b2
    generalize ifCond.holds .lt c1 = b3
    cases b1 <;> cases b2 <;> cases b3 <;> decide
  have hh : own_hi I2 c2 = 0 ∨ own_hi I2 c2 = 1 := by
    unfold own_hi
    generalize ifCond.holds .eq I2 = b1
    generalize ifCond.holds .ge c2 = b2
    generalize ifCond.holds .gt c2 = b3
    cases b1 <;> cases b2 <;> cases b3 <;> decide
  rcases h with ⟨q1, q2, q3⟩ | ⟨q1, rfl⟩
  · have hd : own_hi I2 d2 = 1 := by
      unfold own_hi
      rw [q2, q3]
      generalize ifCond.holds .eq I2 = b1
      cases b1 <;> rfl
    rw [q1, hd]
    simp only [cond_true]
    rcases hl with e | e <;> rw [e] <;> decide
  · rw [q1]
    rcases hl with e | e <;> rcases hh with e' | e' <;> rw [e] <;> simp only [cond_false] <;> rw [e'] <;> decide
theorem own_max_case (a b f : Int32) (px : UInt64) (c : Int32) (hf : cmpValue (FP.dcmp px (9218868437227405312 : UInt64)) .g = -1) (hc : cmpValue (FP.dcmp px (FP.l2d (own_M a b))) .g = c) :
    (ifCond.holds .ne (own_bit f (4 : Int32)) = true ∧ ifCond.holds .ge (cmpValue (FP.dcmp px (own_max a b f)) .g) = false ∧ ifCond.holds .gt (cmpValue (FP.dcmp px (own_max a b f)) .g) = false) ∨ (ifCond.holds .ne (own_bit f (4 : Int32)) = false ∧ cmpValue (FP.dcmp px (own_max a b f)) .g = c) := by
  unfold own_max
  rw [own_eq_ne]
  generalize ifCond.holds .ne (own_bit f (4 : Int32)) = q
  cases q
  · exact Or.inr ⟨rfl, hc⟩
  · left
    refine ⟨rfl, ?_⟩
    show ifCond.holds .ge (cmpValue (FP.dcmp px (9218868437227405312 : UInt64)) .g) = false ∧ ifCond.holds .gt (cmpValue (FP.dcmp px (9218868437227405312 : UInt64)) .g) = false
    rw [hf]; decide
theorem own_i64 (n : Int32) : -2147483648 ≤ n.toInt64.toInt ∧ n.toInt64.toInt < 2147483648 := by
  have h1 := Int32.toInt_lt n
  have h2 := Int32.le_toInt n
  rw [Int32.toInt_toInt64]; omega
/-- the number's own double, or -0.0 for 0: it compares as the number does -/
theorem own_law_at (a b f : Int32) (n : Int64) (px : UInt64) (hn : FP.Core.DInt n.toInt px) (hf : Fl.Fin64 px) :
    if_icmp.holds .ne (own_cont (FP.l2d (own_m a)) (nar .boolean (own_bit f (1 : Int32))) (own_max a b f) (nar .boolean (own_bit f (2 : Int32))) px) (own_exp (own_lo (own_bit f (1 : Int32)) (lcmpW n (own_m a))) (own_ehi (own_bit f (4 : Int32)) (own_bit f (2 : Int32)) (lcmpW n (own_M a b)))) = false := by
  have m1 := own_m_int a
  have M1 := own_M_int a b
  have h1 : cmpValue (FP.dcmp px (FP.l2d (own_m a))) .l = lcmpW n (own_m a) := by
    rw [show FP.dcmp px (FP.l2d (own_m a)) = _ from FP.Core.dcmp_int hn (own_lint (by omega) (by omega)), own_cv]
  have h2 : cmpValue (FP.dcmp px (FP.l2d (own_M a b))) .g = lcmpW n (own_M a b) := by
    rw [show FP.dcmp px (FP.l2d (own_M a b)) = _ from FP.Core.dcmp_int hn (own_lint (by omega) (by omega)), own_cv]
  have h3 := dcmp_pinf hf .g
  unfold own_cont
  rw [own_nar_bit, own_nar_bit, h1, h3]
  exact own_final _ _ _ _ _ _ _ (by decide) (own_max_case a b f px _ h3 h2)
theorem own_law0 (a b f n : Int32) :
    if_icmp.holds .ne (own_cont (FP.l2d (own_m a)) (nar .boolean (own_bit f (1 : Int32))) (own_max a b f) (nar .boolean (own_bit f (2 : Int32))) (FP.l2d n.toInt64)) (own_exp (own_lo (own_bit f (1 : Int32)) (lcmpW n.toInt64 (own_m a))) (own_ehi (own_bit f (4 : Int32)) (own_bit f (2 : Int32)) (lcmpW n.toInt64 (own_M a b)))) = false :=
  own_law_at a b f n.toInt64 _ (own_lint (by have := own_i64 n; omega) (by have := own_i64 n; omega)) (Fl.l2d_fin _)
theorem own_law4 (a b f : Int32) :
    if_icmp.holds .ne (own_cont (FP.l2d (own_m a)) (nar .boolean (own_bit f (1 : Int32))) (own_max a b f) (nar .boolean (own_bit f (2 : Int32))) (9223372036854775808 : UInt64)) (own_exp (own_lo (own_bit f (1 : Int32)) (lcmpW (0 : Int64) (own_m a))) (own_ehi (own_bit f (4 : Int32)) (own_bit f (2 : Int32)) (lcmpW (0 : Int64) (own_M a b)))) = false :=
  own_law_at a b f 0 _ (by unfold FP.Core.DInt; rw [show FP.Core.val64 (9223372036854775808 : UInt64) = .fin true 0 (-1074) by decide +kernel]; show FP.Core.signed _ _ = _; decide +kernel) (by unfold Fl.Fin64; decide)
theorem own_law2 (a b f : Int32) :
    if_icmp.holds .ne (own_cont (FP.l2d (own_m a)) (nar .boolean (own_bit f (1 : Int32))) (own_max a b f) (nar .boolean (own_bit f (2 : Int32))) (9218868437227405312 : UInt64)) (0 : Int32) = false := by
  unfold own_cont own_and
  rw [show ifCond.holds .ge (cmpValue (FP.dcmp (9218868437227405312 : UInt64) (9218868437227405312 : UInt64)) .g) = true by decide +kernel]
  generalize ifCond.holds .eq (own_lo _ _) = b1
  generalize ifCond.holds .eq (own_hi _ _) = b2
  cases b1 <;> cases b2 <;> decide
theorem own_law3 (a b f : Int32) :
    if_icmp.holds .ne (own_cont (FP.l2d (own_m a)) (nar .boolean (own_bit f (1 : Int32))) (own_max a b f) (nar .boolean (own_bit f (2 : Int32))) (18442240474082181120 : UInt64)) (0 : Int32) = false := by
  unfold own_cont
  rw [dcmp_ninf' (Fl.l2d_fin (own_m a)) .l]
  have hl : own_lo (nar .boolean (own_bit f (1 : Int32))) (-1 : Int32) = 0 := by
    unfold own_lo
    generalize ifCond.holds .eq (nar .boolean (own_bit f (1 : Int32))) = b1
    cases b1 <;> decide
  rw [hl]
  unfold own_and
  rfl
def own_half (n : Int32) : UInt64 := FP.dadd (FP.l2d n.toInt64) (4602678819172646912 : UInt64)
theorem own_half_dy (n : Int32) : own_Dy 1 (n.toInt64.toInt * 2 + 1) (FP.Core.val64 (own_half n)) := by
  have hn := own_i64 n
  have h1 : own_Dy 1 (n.toInt64.toInt * ((2 ^ 1 : Nat) : Int)) (FP.Core.val64 (FP.l2d n.toInt64)) := own_dy_int (own_lint (by omega) (by omega))
  have h2 : own_Dy 1 1 (FP.Core.val64 (4602678819172646912 : UInt64)) := by
    rw [show FP.Core.val64 (4602678819172646912 : UInt64) = .fin false (2 ^ 52) (-53) by decide +kernel]
    show FP.Core.Whole 1 (.fin false (2 ^ 52) (-53 + ((1 : Nat) : Int)))
    show FP.Core.signed _ _ = _
    decide +kernel
  exact own_dadd (by decide) h1 h2 (by have : ((2 ^ 1 : Nat) : Int) = 2 := rfl; omega)
theorem own_half_cmp (n : Int32) (b : Int64) (h1 : 0 ≤ b.toInt) (h2 : b.toInt < 4294967296) : FP.dcmp (own_half n) (FP.l2d b) = some (compare (n.toInt64.toInt * 2 + 1) (b.toInt * 2)) :=
  own_dcmp (own_half_dy n) (own_dy_int (k := 1) (own_lint (by omega) (by omega)))
theorem own_half_fin (n : Int32) : Fl.Fin64 (own_half n) := by
  have h := own_half_dy n
  rw [Fl.fin64_core]
  unfold FP.Core.DFin
  cases hv : FP.Core.val64 (own_half n) with
  | nan => rw [hv] at h; exact h.elim
  | inf s => rw [hv] at h; exact h.elim
  | fin s c q => exact ⟨s, c, q, rfl⟩
theorem own_half_tests (n : Int32) (b : Int64) (o : CmpOp) :
    ifCond.holds .le (cmpValue (some (compare (n.toInt64.toInt * 2 + 1) (b.toInt * 2))) o) = ifCond.holds .lt (lcmpW n.toInt64 b) ∧ ifCond.holds .lt (cmpValue (some (compare (n.toInt64.toInt * 2 + 1) (b.toInt * 2))) o) = ifCond.holds .lt (lcmpW n.toInt64 b) ∧
    ifCond.holds .ge (cmpValue (some (compare (n.toInt64.toInt * 2 + 1) (b.toInt * 2))) o) = ifCond.holds .ge (lcmpW n.toInt64 b) ∧ ifCond.holds .gt (cmpValue (some (compare (n.toInt64.toInt * 2 + 1) (b.toInt * 2))) o) = ifCond.holds .ge (lcmpW n.toInt64 b) := by
  rw [← own_cv n.toInt64 b o]
  rcases own_cmp3 (n.toInt64.toInt * 2 + 1) (b.toInt * 2) with ⟨h1, h2⟩ | ⟨h1, h2⟩ | ⟨h1, h2⟩
  · rcases own_cmp3 n.toInt64.toInt b.toInt with ⟨g1, g2⟩ | ⟨g1, g2⟩ | ⟨g1, g2⟩
    · rw [h2, g2]; cases o <;> decide
    · omega
    · omega
  · omega
  · rcases own_cmp3 n.toInt64.toInt b.toInt with ⟨g1, g2⟩ | ⟨g1, g2⟩ | ⟨g1, g2⟩
    · omega
    · rw [h2, g2]; cases o <;> decide
    · rw [h2, g2]; cases o <;> decide
theorem own_law1 (a b f n : Int32) :
    if_icmp.holds .ne (own_cont (FP.l2d (own_m a)) (nar .boolean (own_bit f (1 : Int32))) (own_max a b f) (nar .boolean (own_bit f (2 : Int32))) (own_half n)) (own_exp (own_lo1 (lcmpW n.toInt64 (own_m a))) (own_hi1 (own_bit f (4 : Int32)) (lcmpW n.toInt64 (own_M a b)))) = false := by
  have m1 := own_m_int a
  have M1 := own_M_int a b
  have c1 := own_half_cmp n (own_m a) (by omega) (by omega)
  have c2 := own_half_cmp n (own_M a b) (by omega) (by omega)
  have h3 := dcmp_pinf (own_half_fin n) .g
  obtain ⟨t1, t2, -, -⟩ := own_half_tests n (own_m a) .l
  obtain ⟨-, -, t3, t4⟩ := own_half_tests n (own_M a b) .g
  have hm := own_max_case a b f (own_half n) _ h3 rfl
  rw [c2] at hm
  unfold own_cont
  rw [own_nar_bit, own_nar_bit, c1, h3]
  have hlo : own_lo (own_bit f (1 : Int32)) (cmpValue (some (compare (n.toInt64.toInt * 2 + 1) ((own_m a).toInt * 2))) .l) = own_lo1 (lcmpW n.toInt64 (own_m a)) := by
    unfold own_lo own_lo1
    rw [t1, t2]
    generalize ifCond.holds .eq (own_bit f (1 : Int32)) = q
    cases q <;> rfl
  have hhi : own_hi (own_bit f (2 : Int32)) (cmpValue (FP.dcmp (own_half n) (own_max a b f)) .g) = own_hi1 (own_bit f (4 : Int32)) (lcmpW n.toInt64 (own_M a b)) := by
    unfold own_hi own_hi1
    rcases hm with ⟨q1, q2, q3⟩ | ⟨q1, q2⟩
    · rw [q1, q2, q3]
      generalize ifCond.holds .eq (own_bit f (2 : Int32)) = q
      cases q <;> rfl
    · rw [q1, q2, t3, t4]
      generalize ifCond.holds .eq (own_bit f (2 : Int32)) = q
      cases q <;> rfl
  rw [hlo, hhi]
  unfold own_and own_exp
  rw [show ifCond.holds .ge (-1 : Int32) = false by decide]
  generalize ifCond.holds .eq (own_lo1 (lcmpW n.toInt64 (own_m a))) = q1
  generalize ifCond.holds .eq (own_hi1 (own_bit f (4 : Int32)) (lcmpW n.toInt64 (own_M a b))) = q2
  cases q1 <;> cases q2 <;> decide
theorem own_c7 (a : Int32) : ifCond.holds .lt (cmpValue (FP.dcmp (FP.l2d (own_m a)) (0 : UInt64)) .l) = false := by
  have m1 := own_m_int a
  rw [← l2d_zero, dcmpV_w ⟨by omega, by omega⟩ ⟨by decide, by decide⟩]
  have h : ¬ lcmpW (own_m a) 0 < 0 := by
    rw [lcW, lc_lt, Int64.lt_iff_toInt_lt, Int64.toInt_zero]; omega
  simp [ifCond.holds, Int32.not_lt.mp h]
theorem own_c14 (a b f : Int32) : ifCond.holds .gt (cmpValue (FP.dcmp (FP.l2d (own_m a)) (own_max a b f)) .g) = false := by
  have m1 := own_m_int a
  have M1 := own_M_int a b
  have h2 : cmpValue (FP.dcmp (FP.l2d (own_m a)) (FP.l2d (own_M a b))) .g = lcmpW (own_m a) (own_M a b) := dcmpV_w ⟨by omega, by omega⟩ ⟨by omega, by omega⟩ _
  rcases own_max_case a b f (FP.l2d (own_m a)) _ (dcmp_pinf (Fl.l2d_fin _) .g) h2 with ⟨-, -, q⟩ | ⟨-, q⟩
  · exact q
  · rw [q]
    have h : ¬ 0 < lcmpW (own_m a) (own_M a b) := by
      rw [lcW, lc_gt, Int64.lt_iff_toInt_lt]; omega
    simp [ifCond.holds, Int32.not_lt.mp h]
theorem own_c22 (a : Int32) : ifCond.holds .lt (cmpValue (FP.dcmp (FP.l2d (own_m a)) (9218868437227405312 : UInt64)) .g) = true := by
  rw [dcmp_pinf (Fl.l2d_fin _) .g]; decide
theorem pn_0 : plainName "java/lang/Record" = true := by first | (simp [plainName, overriddenIn]; done) | decide +kernel
theorem djdk_30_method_1_code_0 : decode jdk_30_method_1_code 0 = .ok (.aload_n 0, 1) := by decide +kernel
theorem djdk_30_method_1_code_1 : decode jdk_30_method_1_code 1 = .ok (.invokespecial 1, 3) := by decide +kernel
theorem djdk_30_method_1_code_4 : decode jdk_30_method_1_code 4 = .ok (.return_, 1) := by decide +kernel
theorem ef_rec (m : MethodId) (x0 : Addr) : entryFrame m #[(.ref x0)] 1 = mkF m 0 #[.val (.ref x0)] [] := by first | (simp [entryFrame, mkF, argsToLocals, Value.category]; done) | rfl
def Qrec (Z : State) (a1 : Addr) (h0 : Heap) (n0 : Nat) (v : Option Value) (h : Heap) (L : List Loc) : Prop := v = none ∧ Fr n0 L ∧ h = h0
set_option maxRecDepth 65536 in
set_option maxHeartbeats 40000000 in
theorem rmrec (l : Launch) (Z : State) (a0 : Array Value) (hw : ∀ d ∈ tables_1, d.before a0 Z = true) (ws : List Jvm.Cond) (a1 : Addr) (h0 : Heap) (n0 : Nat) (Z0 : n0 ≤ h0.size) :
    MetFree l (⟨"java/lang/Record", "<init>", "()V"⟩ : MethodName) (head1 (Jvm.Cond.code (⟨"java/lang/Record", "<init>", "()V"⟩ : MethodName) jdk_30_method_1_code 1 none :: ws) ({ frames := 1, cells := 0, slots := 0, locals := 12 } : Room)) (fun a U => a = #[(.ref a1)] ∧ Z.Warmed39 U.vm ∧ U.heap = h0) (fun _ _ _ _ _ => True) (fun _ U o U' => ∃ v L, o = .returned v ∧ Qrec Z a1 h0 n0 v U'.heap L ∧ FrameEnd U o U' L ({ frames := 1, cells := 0, slots := 0, locals := 12 } : Room).cells ({ frames := 1, cells := 0, slots := 0, locals := 12 } : Room).slots) := by
  refine MetFree.of_bodySF (plainFor_of_name pn_0) hisR ?_
  intro p e s m args below meth c s₁ Bd hml0 hP hK
  obtain ⟨rfl, hZ, hh⟩ := hP
  have hx := Bd.exec
  have hby := Bd.bytes
  have hml : c.maxLocals = 1 := hml0
  have hown : s.vm.findClass "java/lang/Record" = some m.cls := findClass_of_methodNamed Bd.named
  have hnm := (name_of_methodNamed Bd.named Bd.method).1
  have X0 : Stand p l e ({ frames := 1, cells := 0, slots := 0, locals := 12 } : Room) s m #[(.ref a1)] below meth c s₁ [] 0 0 := Stand.of_body Bd
  have e0 : s₁.heap = h0 := by rw [← hh, Bd.state]; rfl
  have N0 := Fr.nil n0
  have pre0 : ∀ t, Steps p.tables e below (s₁.setTop (mkF m 0 #[.val (.ref a1)] [])) t → Steps p.tables e below (s₁.setTop (entryFrame m #[(.ref a1)] 1)) t := fun t k => castTop (ef_rec m a1) k
  obtain ⟨T1, X1, e1, st1⟩ := initO X0 hx hZ hown (hw _ (List.mem_of_getElem? (i := 12) rfl)) (hw _ (List.mem_of_getElem? (i := 13) rfl)) (hw _ (List.mem_of_getElem? (i := 14) rfl)) e0 (g := (mkF m 1 #[.val (.ref a1)] [(.ref a1)])) rfl (by rw [hml]; rfl) rfl (hb hby djdk_30_method_1_code_1) (by decide) (W := 0) (by show 2 * 0 + _ ≤ _; exact Nat.le_of_eq rfl) (by decide)
  obtain ⟨fs, hr, hrun, hended, hW, hsame⟩ := X1.leave (v := none) (fun _ => rfl)
  refine ⟨_, _, pre0 _ ?_, hrun, hended, _, _, rfl, ?_, ⟨_, rfl⟩, hW, hsame.mono (by decide) (by decide)⟩
  · show Steps p.tables e below (s₁.setTop (mkF m 0 #[.val (.ref a1)] [])) _
    refine XS.aloadN X0.here hx rfl (hb hby djdk_30_method_1_code_0) rfl rfl ?_
    show Steps p.tables e below (s₁.setTop (mkF m 1 #[.val (.ref a1)] [(.ref a1)])) _
    refine st1 _ ?_
    show Steps p.tables e below (T1.setTop (mkF m 4 #[.val (.ref a1)] [])) _
    exact X1.returnOut hx Bd.returns (hb hby djdk_30_method_1_code_4) hr
  · show Qrec Z a1 h0 n0 _ T1.heap _
    rw [e1]
    exact ⟨rfl, N0, rfl⟩
theorem pn_1 : plainName "com/example/mynegai/mynegai/command/DecimalRange" = true := by first | (simp [plainName, overriddenIn]; done) | decide +kernel
theorem pd_0 : parseMethodDescriptor "()V" = some ⟨[], none⟩ := by decide +kernel
theorem dprog_1_method_1_code_0 : decode prog_1_method_1_code 0 = .ok (.aload_n 0, 1) := by decide +kernel
theorem dprog_1_method_1_code_1 : decode prog_1_method_1_code 1 = .ok (.invokespecial 1, 3) := by decide +kernel
theorem dprog_1_method_1_code_4 : decode prog_1_method_1_code 4 = .ok (.dload_n 1, 1) := by decide +kernel
theorem dprog_1_method_1_code_5 : decode prog_1_method_1_code 5 = .ok (.dconst 0, 1) := by decide +kernel
theorem dprog_1_method_1_code_6 : decode prog_1_method_1_code 6 = .ok (.dcmp .l, 1) := by decide +kernel
theorem dprog_1_method_1_code_7 : decode prog_1_method_1_code 7 = .ok (.ifCond .lt 18, 3) := by decide +kernel
theorem dprog_1_method_1_code_10 : decode prog_1_method_1_code 10 = .ok (.dload_n 1, 1) := by decide +kernel
theorem dprog_1_method_1_code_11 : decode prog_1_method_1_code 11 = .ok (.dload 4, 2) := by decide +kernel
theorem dprog_1_method_1_code_13 : decode prog_1_method_1_code 13 = .ok (.dcmp .g, 1) := by decide +kernel
theorem dprog_1_method_1_code_14 : decode prog_1_method_1_code 14 = .ok (.ifCond .gt 11, 3) := by decide +kernel
theorem dprog_1_method_1_code_17 : decode prog_1_method_1_code 17 = .ok (.dload_n 1, 1) := by decide +kernel
theorem dprog_1_method_1_code_18 : decode prog_1_method_1_code 18 = .ok (.ldc2_w 9, 3) := by decide +kernel
theorem dprog_1_method_1_code_21 : decode prog_1_method_1_code 21 = .ok (.dcmp .g, 1) := by decide +kernel
theorem dprog_1_method_1_code_22 : decode prog_1_method_1_code 22 = .ok (.ifCond .lt 19, 3) := by decide +kernel
theorem dprog_1_method_1_code_25 : decode prog_1_method_1_code 25 = .ok (.new 11, 3) := by decide +kernel
theorem dprog_1_method_1_code_28 : decode prog_1_method_1_code 28 = .ok (.dup, 1) := by decide +kernel
theorem dprog_1_method_1_code_29 : decode prog_1_method_1_code 29 = .ok (.dload_n 1, 1) := by decide +kernel
theorem dprog_1_method_1_code_30 : decode prog_1_method_1_code 30 = .ok (.dload 4, 2) := by decide +kernel
theorem dprog_1_method_1_code_37 : decode prog_1_method_1_code 37 = .ok (.invokespecial 17, 3) := by decide +kernel
theorem dprog_1_method_1_code_40 : decode prog_1_method_1_code 40 = .ok (.athrow, 1) := by decide +kernel
theorem dprog_1_method_1_code_41 : decode prog_1_method_1_code 41 = .ok (.aload_n 0, 1) := by decide +kernel
theorem dprog_1_method_1_code_42 : decode prog_1_method_1_code 42 = .ok (.dload_n 1, 1) := by decide +kernel
theorem dprog_1_method_1_code_43 : decode prog_1_method_1_code 43 = .ok (.putfield 20, 3) := by decide +kernel
theorem dprog_1_method_1_code_46 : decode prog_1_method_1_code 46 = .ok (.aload_n 0, 1) := by decide +kernel
theorem dprog_1_method_1_code_47 : decode prog_1_method_1_code 47 = .ok (.iload_n 3, 1) := by decide +kernel
theorem dprog_1_method_1_code_48 : decode prog_1_method_1_code 48 = .ok (.putfield 26, 3) := by decide +kernel
theorem dprog_1_method_1_code_51 : decode prog_1_method_1_code 51 = .ok (.aload_n 0, 1) := by decide +kernel
theorem dprog_1_method_1_code_52 : decode prog_1_method_1_code 52 = .ok (.dload 4, 2) := by decide +kernel
theorem dprog_1_method_1_code_54 : decode prog_1_method_1_code 54 = .ok (.putfield 30, 3) := by decide +kernel
theorem dprog_1_method_1_code_57 : decode prog_1_method_1_code 57 = .ok (.aload_n 0, 1) := by decide +kernel
theorem dprog_1_method_1_code_58 : decode prog_1_method_1_code 58 = .ok (.iload 6, 2) := by decide +kernel
theorem dprog_1_method_1_code_60 : decode prog_1_method_1_code 60 = .ok (.putfield 33, 3) := by decide +kernel
theorem dprog_1_method_1_code_63 : decode prog_1_method_1_code 63 = .ok (.return_, 1) := by decide +kernel
theorem ef_dr (m : MethodId) (x0 : Addr) (x1 : UInt64) (x2 : Int32) (x3 : UInt64) (x4 : Int32) : entryFrame m #[(.ref x0), (.double x1), (.int x2), (.double x3), (.int x4)] 7 = mkF m 0 #[.val (.ref x0), .val (.double x1), .second, .val (.int x2), .val (.double x3), .second, .val (.int x4)] [] := by first | (simp [entryFrame, mkF, argsToLocals, Value.category]; done) | rfl
def Qdr (Z : State) (a1 : Addr) (pmin : UInt64) (imin : Int32) (pmax : UInt64) (imax : Int32) (h0 : Heap) (n0 : Nat) (v : Option Value) (h : Heap) (L : List Loc) : Prop := v = none ∧ Fr n0 L ∧ Keep h0 h [a1] ∧ Exa Z h a1 "com/example/mynegai/mynegai/command/DecimalRange" ∧ Fld Z h a1 "com/example/mynegai/mynegai/command/DecimalRange" "min" "D" (.double pmin) ∧ Fld Z h a1 "com/example/mynegai/mynegai/command/DecimalRange" "minIncluded" "Z" (.int (nar .boolean imin)) ∧ Fld Z h a1 "com/example/mynegai/mynegai/command/DecimalRange" "max" "D" (.double pmax) ∧ Fld Z h a1 "com/example/mynegai/mynegai/command/DecimalRange" "maxIncluded" "Z" (.int (nar .boolean imax))
set_option maxRecDepth 65536 in
set_option maxHeartbeats 40000000 in
theorem rmdr (l : Launch) (Z : State) (a0 : Array Value) (hw : ∀ d ∈ tables_1, d.before a0 Z = true) (ws : List Jvm.Cond) (a1 : Addr) (pmin : UInt64) (imin : Int32) (pmax : UInt64) (imax : Int32) (h0 : Heap) (n0 : Nat) (Z0 : n0 ≤ h0.size) (F_min : Fld Z h0 a1 "com/example/mynegai/mynegai/command/DecimalRange" "min" "D" (.double (0 : UInt64))) (F_minIncluded : Fld Z h0 a1 "com/example/mynegai/mynegai/command/DecimalRange" "minIncluded" "Z" (.int (0 : Int32))) (F_max : Fld Z h0 a1 "com/example/mynegai/mynegai/command/DecimalRange" "max" "D" (.double (0 : UInt64))) (F_maxIncluded : Fld Z h0 a1 "com/example/mynegai/mynegai/command/DecimalRange" "maxIncluded" "Z" (.int (0 : Int32))) (E_a : Exa Z h0 a1 "com/example/mynegai/mynegai/command/DecimalRange") (g_a : n0 ≤ a1) (hc7 : ifCond.holds .lt (cmpValue (FP.dcmp pmin (0 : UInt64)) .l) = false) (hc14 : ifCond.holds .gt (cmpValue (FP.dcmp pmin pmax) .g) = false) (hc22 : ifCond.holds .lt (cmpValue (FP.dcmp pmin (9218868437227405312 : UInt64)) .g) = true) :
    MetFree l (⟨"com/example/mynegai/mynegai/command/DecimalRange", "<init>", "(DZDZ)V"⟩ : MethodName) (head1 (Jvm.Cond.code (⟨"com/example/mynegai/mynegai/command/DecimalRange", "<init>", "(DZDZ)V"⟩ : MethodName) prog_1_method_1_code 7 none :: ws) ({ frames := 2, cells := 0, slots := 0, locals := 24 } : Room)) (fun a U => a = #[(.ref a1), (.double pmin), (.int imin), (.double pmax), (.int imax)] ∧ Z.Warmed39 U.vm ∧ U.heap = h0) (fun _ _ _ _ _ => True) (fun _ U o U' => ∃ v L, o = .returned v ∧ Qdr Z a1 pmin imin pmax imax h0 n0 v U'.heap L ∧ FrameEnd U o U' L ({ frames := 2, cells := 0, slots := 0, locals := 24 } : Room).cells ({ frames := 2, cells := 0, slots := 0, locals := 24 } : Room).slots) := by
  refine MetFree.of_bodySF (plainFor_of_name pn_1) hisR ?_
  intro p e s m args below meth c s₁ Bd hml0 hP hK
  obtain ⟨rfl, hZ, hh⟩ := hP
  have hx := Bd.exec
  have hby := Bd.bytes
  have hml : c.maxLocals = 7 := hml0
  have hown : s.vm.findClass "com/example/mynegai/mynegai/command/DecimalRange" = some m.cls := findClass_of_methodNamed Bd.named
  have hnm := (name_of_methodNamed Bd.named Bd.method).1
  have X0 : Stand p l e ({ frames := 2, cells := 0, slots := 0, locals := 24 } : Room) s m #[(.ref a1), (.double pmin), (.int imin), (.double pmax), (.int imax)] below meth c s₁ [] 0 0 := Stand.of_body Bd
  have e0 : s₁.heap = h0 := by rw [← hh, Bd.state]; rfl
  have N0 := Fr.nil n0
  have pre0 : ∀ t, Steps p.tables e below (s₁.setTop (mkF m 0 #[.val (.ref a1), .val (.double pmin), .second, .val (.int imin), .val (.double pmax), .second, .val (.int imax)] [])) t → Steps p.tables e below (s₁.setTop (entryFrame m #[(.ref a1), (.double pmin), (.int imin), (.double pmax), (.int imax)] 7)) t := fun t k => castTop (ef_dr m a1 pmin imin pmax imax) k
  obtain ⟨_, _, ⟨T1, L1, k1, n1⟩, -, X1, ⟨Lc1, hQ1, l1, y1, z1⟩, st1⟩ := X0.specialBack hx (y := (⟨"java/lang/Record", "<init>", "()V"⟩ : MethodName)) rfl hown (mvT hZ (hw _ (List.mem_of_getElem? (i := 7) rfl))) (mvT hZ (hw _ (List.mem_of_getElem? (i := 8) rfl))) (mvT hZ (hw _ (List.mem_of_getElem? (i := 11) rfl))) (by decide) (backOf (W := 0) (rmrec l Z a0 hw [] a1 h0 n0 Z0) hZ (hw _ (List.mem_of_getElem? (i := 11) rfl)) (hw _ (List.mem_of_getElem? (i := 10) rfl)) (by decide) (by decide)) (g := (mkF m 1 #[.val (.ref a1), .val (.double pmin), .second, .val (.int imin), .val (.double pmax), .second, .val (.int imax)] [(.ref a1)])) rfl (by rw [hml]; rfl) (Steps.refl _) (a := a1) (argsL := []) (rest := []) (lenOf pd_0 rfl) rfl (by show 2 * 0 + _ ≤ _; exact Nat.le_of_eq rfl) (hb hby dprog_1_method_1_code_1) (fun _ _ => ⟨rfl, e0, (by decide : 0 + 0 ≤ _), (by decide : 0 + 0 ≤ _)⟩)
  dsimp only [Pt.U, Pt.locs, Pt.cells, Pt.slots] at X1 l1 y1 z1 st1 hQ1
  subst l1 y1 z1
  obtain ⟨rfl, N1q, eh1⟩ := hQ1
  have N1 := Fr.app N0 N1q
  obtain ⟨T2, h2, X2, e2, W2, st2⟩ := putF X1 hx hZ hown (host := "") (Or.inl (hw _ (List.mem_of_getElem? (i := 16) rfl))) Via.refl eh1 F_min E_a (Or.inr ⟨(hw _ (List.mem_of_getElem? (i := 17) rfl)), rfl, hnm⟩) (hw _ (List.mem_of_getElem? (i := 2) rfl)) (ty := .double) (by decide) rfl rfl (g := (mkF m 43 #[.val (.ref a1), .val (.double pmin), .second, .val (.int imin), .val (.double pmax), .second, .val (.int imax)] [(.double pmin), (.ref a1)])) rfl rfl (hb hby dprog_1_method_1_code_43)
  have Fw2 : Fld Z h2 a1 "com/example/mynegai/mynegai/command/DecimalRange" "min" "D" (.double pmin) := F_min.same W2
  have N2 := Fr.snoc X2 N1 g_a
  obtain ⟨T3, h3, X3, e3, W3, st3⟩ := putFN X2 hx hZ hown (hw _ (List.mem_of_getElem? (i := 18) rfl)) Via.refl e2 (F_minIncluded.other W2 (Or.inr (slot_ne (Or.inr (hw _ (List.mem_of_getElem? (i := 19) rfl))) (Or.inr (hw _ (List.mem_of_getElem? (i := 17) rfl))) (by decide) (t := .boolean) (t' := .double) (by decide) (by decide)))) (E_a.wr W2) (Or.inr ⟨(hw _ (List.mem_of_getElem? (i := 19) rfl)), rfl, hnm⟩) (hw _ (List.mem_of_getElem? (i := 2) rfl)) (ty := .boolean) (v' := (.int (nar .boolean imin))) (by decide) rfl (fits_nar_bool _) (g := (mkF m 48 #[.val (.ref a1), .val (.double pmin), .second, .val (.int imin), .val (.double pmax), .second, .val (.int imax)] [(.int imin), (.ref a1)])) rfl rfl (hb hby dprog_1_method_1_code_48)
  have Fw3 : Fld Z h3 a1 "com/example/mynegai/mynegai/command/DecimalRange" "minIncluded" "Z" (.int (nar .boolean imin)) := (F_minIncluded.other W2 (Or.inr (slot_ne (Or.inr (hw _ (List.mem_of_getElem? (i := 19) rfl))) (Or.inr (hw _ (List.mem_of_getElem? (i := 17) rfl))) (by decide) (t := .boolean) (t' := .double) (by decide) (by decide)))).same W3
  have N3 := Fr.snoc X3 N2 g_a
  obtain ⟨T4, h4, X4, e4, W4, st4⟩ := putF X3 hx hZ hown (host := "") (Or.inl (hw _ (List.mem_of_getElem? (i := 20) rfl))) Via.refl e3 ((F_max.other W2 (Or.inr (slot_ne (Or.inr (hw _ (List.mem_of_getElem? (i := 21) rfl))) (Or.inr (hw _ (List.mem_of_getElem? (i := 17) rfl))) (by decide) (t := .double) (t' := .double) (by decide) (by decide)))).other W3 (Or.inr (slot_ne (Or.inr (hw _ (List.mem_of_getElem? (i := 21) rfl))) (Or.inr (hw _ (List.mem_of_getElem? (i := 19) rfl))) (by decide) (t := .double) (t' := .boolean) (by decide) (by decide)))) ((E_a.wr W2).wr W3) (Or.inr ⟨(hw _ (List.mem_of_getElem? (i := 21) rfl)), rfl, hnm⟩) (hw _ (List.mem_of_getElem? (i := 2) rfl)) (ty := .double) (by decide) rfl rfl (g := (mkF m 54 #[.val (.ref a1), .val (.double pmin), .second, .val (.int imin), .val (.double pmax), .second, .val (.int imax)] [(.double pmax), (.ref a1)])) rfl rfl (hb hby dprog_1_method_1_code_54)
  have Fw4 : Fld Z h4 a1 "com/example/mynegai/mynegai/command/DecimalRange" "max" "D" (.double pmax) := ((F_max.other W2 (Or.inr (slot_ne (Or.inr (hw _ (List.mem_of_getElem? (i := 21) rfl))) (Or.inr (hw _ (List.mem_of_getElem? (i := 17) rfl))) (by decide) (t := .double) (t' := .double) (by decide) (by decide)))).other W3 (Or.inr (slot_ne (Or.inr (hw _ (List.mem_of_getElem? (i := 21) rfl))) (Or.inr (hw _ (List.mem_of_getElem? (i := 19) rfl))) (by decide) (t := .double) (t' := .boolean) (by decide) (by decide)))).same W4
  have N4 := Fr.snoc X4 N3 g_a
  obtain ⟨T5, h5, X5, e5, W5, st5⟩ := putFN X4 hx hZ hown (hw _ (List.mem_of_getElem? (i := 22) rfl)) Via.refl e4 (((F_maxIncluded.other W2 (Or.inr (slot_ne (Or.inr (hw _ (List.mem_of_getElem? (i := 23) rfl))) (Or.inr (hw _ (List.mem_of_getElem? (i := 17) rfl))) (by decide) (t := .boolean) (t' := .double) (by decide) (by decide)))).other W3 (Or.inr (slot_ne (Or.inr (hw _ (List.mem_of_getElem? (i := 23) rfl))) (Or.inr (hw _ (List.mem_of_getElem? (i := 19) rfl))) (by decide) (t := .boolean) (t' := .boolean) (by decide) (by decide)))).other W4 (Or.inr (slot_ne (Or.inr (hw _ (List.mem_of_getElem? (i := 23) rfl))) (Or.inr (hw _ (List.mem_of_getElem? (i := 21) rfl))) (by decide) (t := .boolean) (t' := .double) (by decide) (by decide)))) (((E_a.wr W2).wr W3).wr W4) (Or.inr ⟨(hw _ (List.mem_of_getElem? (i := 23) rfl)), rfl, hnm⟩) (hw _ (List.mem_of_getElem? (i := 2) rfl)) (ty := .boolean) (v' := (.int (nar .boolean imax))) (by decide) rfl (fits_nar_bool _) (g := (mkF m 60 #[.val (.ref a1), .val (.double pmin), .second, .val (.int imin), .val (.double pmax), .second, .val (.int imax)] [(.int imax), (.ref a1)])) rfl rfl (hb hby dprog_1_method_1_code_60)
  have Fw5 : Fld Z h5 a1 "com/example/mynegai/mynegai/command/DecimalRange" "maxIncluded" "Z" (.int (nar .boolean imax)) := (((F_maxIncluded.other W2 (Or.inr (slot_ne (Or.inr (hw _ (List.mem_of_getElem? (i := 23) rfl))) (Or.inr (hw _ (List.mem_of_getElem? (i := 17) rfl))) (by decide) (t := .boolean) (t' := .double) (by decide) (by decide)))).other W3 (Or.inr (slot_ne (Or.inr (hw _ (List.mem_of_getElem? (i := 23) rfl))) (Or.inr (hw _ (List.mem_of_getElem? (i := 19) rfl))) (by decide) (t := .boolean) (t' := .boolean) (by decide) (by decide)))).other W4 (Or.inr (slot_ne (Or.inr (hw _ (List.mem_of_getElem? (i := 23) rfl))) (Or.inr (hw _ (List.mem_of_getElem? (i := 21) rfl))) (by decide) (t := .boolean) (t' := .double) (by decide) (by decide)))).same W5
  have N5 := Fr.snoc X5 N4 g_a
  obtain ⟨fs, hr, hrun, hended, hW, hsame⟩ := X5.leave (v := none) (fun _ => rfl)
  refine ⟨_, _, pre0 _ ?_, hrun, hended, _, _, rfl, ?_, ⟨_, rfl⟩, hW, hsame.mono (by decide) (by decide)⟩
  · show Steps p.tables e below (s₁.setTop (mkF m 0 #[.val (.ref a1), .val (.double pmin), .second, .val (.int imin), .val (.double pmax), .second, .val (.int imax)] [])) _
    refine XS.aloadN X0.here hx rfl (hb hby dprog_1_method_1_code_0) rfl rfl ?_
    show Steps p.tables e below (s₁.setTop (mkF m 1 #[.val (.ref a1), .val (.double pmin), .second, .val (.int imin), .val (.double pmax), .second, .val (.int imax)] [(.ref a1)])) _
    refine st1.trans ?_
    show Steps p.tables e below (T1.setTop (mkF m 4 #[.val (.ref a1), .val (.double pmin), .second, .val (.int imin), .val (.double pmax), .second, .val (.int imax)] [])) _
    refine XS.dloadN X1.here hx rfl (hb hby dprog_1_method_1_code_4) rfl ?_
    show Steps p.tables e below (T1.setTop (mkF m 5 #[.val (.ref a1), .val (.double pmin), .second, .val (.int imin), .val (.double pmax), .second, .val (.int imax)] [(.double pmin)])) _
    refine XS.dconst0 X1.here hx rfl (hb hby dprog_1_method_1_code_5) rfl ?_
    show Steps p.tables e below (T1.setTop (mkF m 6 #[.val (.ref a1), .val (.double pmin), .second, .val (.int imin), .val (.double pmax), .second, .val (.int imax)] [(.double (0 : UInt64)), (.double pmin)])) _
    refine XS.dcmpS X1.here hx rfl (hb hby dprog_1_method_1_code_6) rfl rfl ?_
    show Steps p.tables e below (T1.setTop (mkF m 7 #[.val (.ref a1), .val (.double pmin), .second, .val (.int imin), .val (.double pmax), .second, .val (.int imax)] [(.int (cmpValue (FP.dcmp pmin (0 : UInt64)) .l))])) _
    refine XS.ifNo X1.here hx rfl (hb hby dprog_1_method_1_code_7) rfl hc7 ?_
    show Steps p.tables e below (T1.setTop (mkF m 10 #[.val (.ref a1), .val (.double pmin), .second, .val (.int imin), .val (.double pmax), .second, .val (.int imax)] [])) _
    refine XS.dloadN X1.here hx rfl (hb hby dprog_1_method_1_code_10) rfl ?_
    show Steps p.tables e below (T1.setTop (mkF m 11 #[.val (.ref a1), .val (.double pmin), .second, .val (.int imin), .val (.double pmax), .second, .val (.int imax)] [(.double pmin)])) _
    refine XS.dload X1.here hx rfl (hb hby dprog_1_method_1_code_11) rfl ?_
    show Steps p.tables e below (T1.setTop (mkF m 13 #[.val (.ref a1), .val (.double pmin), .second, .val (.int imin), .val (.double pmax), .second, .val (.int imax)] [(.double pmax), (.double pmin)])) _
    refine XS.dcmpS X1.here hx rfl (hb hby dprog_1_method_1_code_13) rfl rfl ?_
    show Steps p.tables e below (T1.setTop (mkF m 14 #[.val (.ref a1), .val (.double pmin), .second, .val (.int imin), .val (.double pmax), .second, .val (.int imax)] [(.int (cmpValue (FP.dcmp pmin pmax) .g))])) _
    refine XS.ifNo X1.here hx rfl (hb hby dprog_1_method_1_code_14) rfl hc14 ?_
    show Steps p.tables e below (T1.setTop (mkF m 17 #[.val (.ref a1), .val (.double pmin), .second, .val (.int imin), .val (.double pmax), .second, .val (.int imax)] [])) _
    refine XS.dloadN X1.here hx rfl (hb hby dprog_1_method_1_code_17) rfl ?_
    show Steps p.tables e below (T1.setTop (mkF m 18 #[.val (.ref a1), .val (.double pmin), .second, .val (.int imin), .val (.double pmax), .second, .val (.int imax)] [(.double pmin)])) _
    refine X1.ldc2DoubleC hx hown (mvT hZ (hw _ (List.mem_of_getElem? (i := 15) rfl))) (g := (mkF m 18 #[.val (.ref a1), .val (.double pmin), .second, .val (.int imin), .val (.double pmax), .second, .val (.int imax)] [(.double pmin)])) rfl (hb hby dprog_1_method_1_code_18) _ ?_
    show Steps p.tables e below (T1.setTop (mkF m 21 #[.val (.ref a1), .val (.double pmin), .second, .val (.int imin), .val (.double pmax), .second, .val (.int imax)] [(.double (9218868437227405312 : UInt64)), (.double pmin)])) _
    refine XS.dcmpS X1.here hx rfl (hb hby dprog_1_method_1_code_21) rfl rfl ?_
    show Steps p.tables e below (T1.setTop (mkF m 22 #[.val (.ref a1), .val (.double pmin), .second, .val (.int imin), .val (.double pmax), .second, .val (.int imax)] [(.int (cmpValue (FP.dcmp pmin (9218868437227405312 : UInt64)) .g))])) _
    refine XS.ifYes X1.here hx rfl (pc0 := 22) (pc' := 41) rfl (hb hby dprog_1_method_1_code_22) rfl hc22 (by decide) (by decide) ?_
    show Steps p.tables e below (T1.setTop (mkF m 41 #[.val (.ref a1), .val (.double pmin), .second, .val (.int imin), .val (.double pmax), .second, .val (.int imax)] [])) _
    refine XS.aloadN X1.here hx rfl (hb hby dprog_1_method_1_code_41) rfl rfl ?_
    show Steps p.tables e below (T1.setTop (mkF m 42 #[.val (.ref a1), .val (.double pmin), .second, .val (.int imin), .val (.double pmax), .second, .val (.int imax)] [(.ref a1)])) _
    refine XS.dloadN X1.here hx rfl (hb hby dprog_1_method_1_code_42) rfl ?_
    show Steps p.tables e below (T1.setTop (mkF m 43 #[.val (.ref a1), .val (.double pmin), .second, .val (.int imin), .val (.double pmax), .second, .val (.int imax)] [(.double pmin), (.ref a1)])) _
    refine st2 _ ?_
    show Steps p.tables e below (T2.setTop (mkF m 46 #[.val (.ref a1), .val (.double pmin), .second, .val (.int imin), .val (.double pmax), .second, .val (.int imax)] [])) _
    refine XS.aloadN X2.here hx rfl (hb hby dprog_1_method_1_code_46) rfl rfl ?_
    show Steps p.tables e below (T2.setTop (mkF m 47 #[.val (.ref a1), .val (.double pmin), .second, .val (.int imin), .val (.double pmax), .second, .val (.int imax)] [(.ref a1)])) _
    refine XS.iloadN X2.here hx rfl (hb hby dprog_1_method_1_code_47) rfl ?_
    show Steps p.tables e below (T2.setTop (mkF m 48 #[.val (.ref a1), .val (.double pmin), .second, .val (.int imin), .val (.double pmax), .second, .val (.int imax)] [(.int imin), (.ref a1)])) _
    refine st3 _ ?_
    show Steps p.tables e below (T3.setTop (mkF m 51 #[.val (.ref a1), .val (.double pmin), .second, .val (.int imin), .val (.double pmax), .second, .val (.int imax)] [])) _
    refine XS.aloadN X3.here hx rfl (hb hby dprog_1_method_1_code_51) rfl rfl ?_
    show Steps p.tables e below (T3.setTop (mkF m 52 #[.val (.ref a1), .val (.double pmin), .second, .val (.int imin), .val (.double pmax), .second, .val (.int imax)] [(.ref a1)])) _
    refine XS.dload X3.here hx rfl (hb hby dprog_1_method_1_code_52) rfl ?_
    show Steps p.tables e below (T3.setTop (mkF m 54 #[.val (.ref a1), .val (.double pmin), .second, .val (.int imin), .val (.double pmax), .second, .val (.int imax)] [(.double pmax), (.ref a1)])) _
    refine st4 _ ?_
    show Steps p.tables e below (T4.setTop (mkF m 57 #[.val (.ref a1), .val (.double pmin), .second, .val (.int imin), .val (.double pmax), .second, .val (.int imax)] [])) _
    refine XS.aloadN X4.here hx rfl (hb hby dprog_1_method_1_code_57) rfl rfl ?_
    show Steps p.tables e below (T4.setTop (mkF m 58 #[.val (.ref a1), .val (.double pmin), .second, .val (.int imin), .val (.double pmax), .second, .val (.int imax)] [(.ref a1)])) _
    refine XS.iload X4.here hx rfl (hb hby dprog_1_method_1_code_58) rfl ?_
    show Steps p.tables e below (T4.setTop (mkF m 60 #[.val (.ref a1), .val (.double pmin), .second, .val (.int imin), .val (.double pmax), .second, .val (.int imax)] [(.int imax), (.ref a1)])) _
    refine st5 _ ?_
    show Steps p.tables e below (T5.setTop (mkF m 63 #[.val (.ref a1), .val (.double pmin), .second, .val (.int imin), .val (.double pmax), .second, .val (.int imax)] [])) _
    exact X5.returnOut hx Bd.returns (hb hby dprog_1_method_1_code_63) hr
  · show Qdr Z a1 pmin imin pmax imax h0 n0 _ T5.heap _
    rw [e5]
    exact ⟨rfl, N5, (((((Keep.refl h0 [a1]).wr W2 (Or.inl (List.mem_of_getElem? (i := 0) rfl))).wr W3 (Or.inl (List.mem_of_getElem? (i := 0) rfl))).wr W4 (Or.inl (List.mem_of_getElem? (i := 0) rfl))).wr W5 (Or.inl (List.mem_of_getElem? (i := 0) rfl))), ((((E_a.wr W2).wr W3).wr W4).wr W5), (((Fw2.other W3 (Or.inr (slot_ne (Or.inr (hw _ (List.mem_of_getElem? (i := 17) rfl))) (Or.inr (hw _ (List.mem_of_getElem? (i := 19) rfl))) (by decide) (t := .double) (t' := .boolean) (by decide) (by decide)))).other W4 (Or.inr (slot_ne (Or.inr (hw _ (List.mem_of_getElem? (i := 17) rfl))) (Or.inr (hw _ (List.mem_of_getElem? (i := 21) rfl))) (by decide) (t := .double) (t' := .double) (by decide) (by decide)))).other W5 (Or.inr (slot_ne (Or.inr (hw _ (List.mem_of_getElem? (i := 17) rfl))) (Or.inr (hw _ (List.mem_of_getElem? (i := 23) rfl))) (by decide) (t := .double) (t' := .boolean) (by decide) (by decide)))), ((Fw3.other W4 (Or.inr (slot_ne (Or.inr (hw _ (List.mem_of_getElem? (i := 19) rfl))) (Or.inr (hw _ (List.mem_of_getElem? (i := 21) rfl))) (by decide) (t := .boolean) (t' := .double) (by decide) (by decide)))).other W5 (Or.inr (slot_ne (Or.inr (hw _ (List.mem_of_getElem? (i := 19) rfl))) (Or.inr (hw _ (List.mem_of_getElem? (i := 23) rfl))) (by decide) (t := .boolean) (t' := .boolean) (by decide) (by decide)))), (Fw4.other W5 (Or.inr (slot_ne (Or.inr (hw _ (List.mem_of_getElem? (i := 21) rfl))) (Or.inr (hw _ (List.mem_of_getElem? (i := 23) rfl))) (by decide) (t := .double) (t' := .boolean) (by decide) (by decide)))), Fw5⟩
theorem dprog_1_method_6_code_0 : decode prog_1_method_6_code 0 = .ok (.aload_n 0, 1) := by decide +kernel
theorem dprog_1_method_6_code_1 : decode prog_1_method_6_code 1 = .ok (.getfield 26, 3) := by decide +kernel
theorem dprog_1_method_6_code_4 : decode prog_1_method_6_code 4 = .ok (.ifCond .eq 20, 3) := by decide +kernel
theorem dprog_1_method_6_code_7 : decode prog_1_method_6_code 7 = .ok (.dload_n 1, 1) := by decide +kernel
theorem dprog_1_method_6_code_8 : decode prog_1_method_6_code 8 = .ok (.aload_n 0, 1) := by decide +kernel
theorem dprog_1_method_6_code_9 : decode prog_1_method_6_code 9 = .ok (.getfield 20, 3) := by decide +kernel
theorem dprog_1_method_6_code_12 : decode prog_1_method_6_code 12 = .ok (.dcmp .l, 1) := by decide +kernel
theorem dprog_1_method_6_code_13 : decode prog_1_method_6_code 13 = .ok (.ifCond .lt 7, 3) := by decide +kernel
theorem dprog_1_method_6_code_16 : decode prog_1_method_6_code 16 = .ok (.iconst 1, 1) := by decide +kernel
theorem dprog_1_method_6_code_17 : decode prog_1_method_6_code 17 = .ok (.goto 21, 3) := by decide +kernel
theorem dprog_1_method_6_code_20 : decode prog_1_method_6_code 20 = .ok (.iconst 0, 1) := by decide +kernel
theorem dprog_1_method_6_code_21 : decode prog_1_method_6_code 21 = .ok (.goto 17, 3) := by decide +kernel
theorem dprog_1_method_6_code_24 : decode prog_1_method_6_code 24 = .ok (.dload_n 1, 1) := by decide +kernel
theorem dprog_1_method_6_code_25 : decode prog_1_method_6_code 25 = .ok (.aload_n 0, 1) := by decide +kernel
theorem dprog_1_method_6_code_26 : decode prog_1_method_6_code 26 = .ok (.getfield 20, 3) := by decide +kernel
theorem dprog_1_method_6_code_29 : decode prog_1_method_6_code 29 = .ok (.dcmp .l, 1) := by decide +kernel
theorem dprog_1_method_6_code_30 : decode prog_1_method_6_code 30 = .ok (.ifCond .le 7, 3) := by decide +kernel
theorem dprog_1_method_6_code_33 : decode prog_1_method_6_code 33 = .ok (.iconst 1, 1) := by decide +kernel
theorem dprog_1_method_6_code_34 : decode prog_1_method_6_code 34 = .ok (.goto 4, 3) := by decide +kernel
theorem dprog_1_method_6_code_37 : decode prog_1_method_6_code 37 = .ok (.iconst 0, 1) := by decide +kernel
theorem dprog_1_method_6_code_38 : decode prog_1_method_6_code 38 = .ok (.istore_n 3, 1) := by decide +kernel
theorem dprog_1_method_6_code_39 : decode prog_1_method_6_code 39 = .ok (.aload_n 0, 1) := by decide +kernel
theorem dprog_1_method_6_code_40 : decode prog_1_method_6_code 40 = .ok (.getfield 33, 3) := by decide +kernel
theorem dprog_1_method_6_code_43 : decode prog_1_method_6_code 43 = .ok (.ifCond .eq 20, 3) := by decide +kernel
theorem dprog_1_method_6_code_46 : decode prog_1_method_6_code 46 = .ok (.dload_n 1, 1) := by decide +kernel
theorem dprog_1_method_6_code_47 : decode prog_1_method_6_code 47 = .ok (.aload_n 0, 1) := by decide +kernel
theorem dprog_1_method_6_code_48 : decode prog_1_method_6_code 48 = .ok (.getfield 30, 3) := by decide +kernel
theorem dprog_1_method_6_code_51 : decode prog_1_method_6_code 51 = .ok (.dcmp .g, 1) := by decide +kernel
theorem dprog_1_method_6_code_52 : decode prog_1_method_6_code 52 = .ok (.ifCond .gt 7, 3) := by decide +kernel
theorem dprog_1_method_6_code_55 : decode prog_1_method_6_code 55 = .ok (.iconst 1, 1) := by decide +kernel
theorem dprog_1_method_6_code_56 : decode prog_1_method_6_code 56 = .ok (.goto 21, 3) := by decide +kernel
theorem dprog_1_method_6_code_59 : decode prog_1_method_6_code 59 = .ok (.iconst 0, 1) := by decide +kernel
theorem dprog_1_method_6_code_60 : decode prog_1_method_6_code 60 = .ok (.goto 17, 3) := by decide +kernel
theorem dprog_1_method_6_code_63 : decode prog_1_method_6_code 63 = .ok (.dload_n 1, 1) := by decide +kernel
theorem dprog_1_method_6_code_64 : decode prog_1_method_6_code 64 = .ok (.aload_n 0, 1) := by decide +kernel
theorem dprog_1_method_6_code_65 : decode prog_1_method_6_code 65 = .ok (.getfield 30, 3) := by decide +kernel
theorem dprog_1_method_6_code_68 : decode prog_1_method_6_code 68 = .ok (.dcmp .g, 1) := by decide +kernel
theorem dprog_1_method_6_code_69 : decode prog_1_method_6_code 69 = .ok (.ifCond .ge 7, 3) := by decide +kernel
theorem dprog_1_method_6_code_72 : decode prog_1_method_6_code 72 = .ok (.iconst 1, 1) := by decide +kernel
theorem dprog_1_method_6_code_73 : decode prog_1_method_6_code 73 = .ok (.goto 4, 3) := by decide +kernel
theorem dprog_1_method_6_code_76 : decode prog_1_method_6_code 76 = .ok (.iconst 0, 1) := by decide +kernel
theorem dprog_1_method_6_code_77 : decode prog_1_method_6_code 77 = .ok (.istore 4, 2) := by decide +kernel
theorem dprog_1_method_6_code_79 : decode prog_1_method_6_code 79 = .ok (.iload_n 3, 1) := by decide +kernel
theorem dprog_1_method_6_code_80 : decode prog_1_method_6_code 80 = .ok (.ifCond .eq 20, 3) := by decide +kernel
theorem dprog_1_method_6_code_83 : decode prog_1_method_6_code 83 = .ok (.iload 4, 2) := by decide +kernel
theorem dprog_1_method_6_code_85 : decode prog_1_method_6_code 85 = .ok (.ifCond .eq 15, 3) := by decide +kernel
theorem dprog_1_method_6_code_88 : decode prog_1_method_6_code 88 = .ok (.dload_n 1, 1) := by decide +kernel
theorem dprog_1_method_6_code_89 : decode prog_1_method_6_code 89 = .ok (.ldc2_w 9, 3) := by decide +kernel
theorem dprog_1_method_6_code_92 : decode prog_1_method_6_code 92 = .ok (.dcmp .g, 1) := by decide +kernel
theorem dprog_1_method_6_code_93 : decode prog_1_method_6_code 93 = .ok (.ifCond .ge 7, 3) := by decide +kernel
theorem dprog_1_method_6_code_96 : decode prog_1_method_6_code 96 = .ok (.iconst 1, 1) := by decide +kernel
theorem dprog_1_method_6_code_97 : decode prog_1_method_6_code 97 = .ok (.goto 4, 3) := by decide +kernel
theorem dprog_1_method_6_code_100 : decode prog_1_method_6_code 100 = .ok (.iconst 0, 1) := by decide +kernel
theorem dprog_1_method_6_code_101 : decode prog_1_method_6_code 101 = .ok (.ireturn, 1) := by decide +kernel
theorem ef_ct (m : MethodId) (x0 : Addr) (x1 : UInt64) : entryFrame m #[(.ref x0), (.double x1)] 5 = mkF m 0 #[.val (.ref x0), .val (.double x1), .second, .unset, .unset] [] := by first | (simp [entryFrame, mkF, argsToLocals, Value.category]; done) | rfl
set_option maxRecDepth 65536 in
set_option maxHeartbeats 4000000 in
theorem sg_ct_30_38 {p : Program} {l : Launch} {e : Env} {R : Room} {s : State} {m : MethodId} {args : Array Value} {below : List Frame} {meth : Method} {c : Code} {T : State} {locs : List Loc} {cells slots : Nat} {Z : State} {a0 : Array Value} {target : State} {x0 : Addr} {x1 : UInt64} {y0 : Int32} (X : Stand p l e R s m args below meth c T locs cells slots) (hx : p.tables.exec = Jvm.exec) (hZ : Z.Warmed39 s.vm) (hw : ∀ d ∈ tables_1, d.before a0 Z = true) (hby : c.code = prog_1_method_6_code) (hown : s.vm.findClass "com/example/mynegai/mynegai/command/DecimalRange" = some m.cls)
    (k : Steps p.tables e below (T.setTop (mkF m 38 #[.val (.ref x0), .val (.double x1), .second, .unset, .unset] [(.int (bif (ifCond.holds .le y0) then (0 : Int32) else (1 : Int32)))])) target) : Steps p.tables e below (T.setTop (mkF m 30 #[.val (.ref x0), .val (.double x1), .second, .unset, .unset] [(.int y0)])) target := by
  show Steps p.tables e below (T.setTop (mkF m 30 #[.val (.ref x0), .val (.double x1), .second, .unset, .unset] [(.int y0)])) _
  rcases Bool.eq_false_or_eq_true (ifCond.holds .le y0) with hc1 | hc1
  · try rw [hc1] at k
    refine XS.ifYes X.here hx rfl (pc0 := 30) (pc' := 37) rfl (hb hby dprog_1_method_6_code_30) rfl hc1 (by decide) (by decide) ?_
    show Steps p.tables e below (T.setTop (mkF m 37 #[.val (.ref x0), .val (.double x1), .second, .unset, .unset] [])) _
    refine XS.iconst X.here hx rfl (hb hby dprog_1_method_6_code_37) ?_
    exact k
  · try rw [hc1] at k
    refine XS.ifNo X.here hx rfl (hb hby dprog_1_method_6_code_30) rfl hc1 ?_
    show Steps p.tables e below (T.setTop (mkF m 33 #[.val (.ref x0), .val (.double x1), .second, .unset, .unset] [])) _
    refine XS.iconst X.here hx rfl (hb hby dprog_1_method_6_code_33) ?_
    show Steps p.tables e below (T.setTop (mkF m 34 #[.val (.ref x0), .val (.double x1), .second, .unset, .unset] [(.int (1 : Int32))])) _
    refine XS.goto X.here hx rfl (pc0 := 34) (pc' := 38) rfl (hb hby dprog_1_method_6_code_34) (by decide) (by decide) ?_
    exact k
set_option maxRecDepth 65536 in
set_option maxHeartbeats 4000000 in
theorem sg_ct_69_77 {p : Program} {l : Launch} {e : Env} {R : Room} {s : State} {m : MethodId} {args : Array Value} {below : List Frame} {meth : Method} {c : Code} {T : State} {locs : List Loc} {cells slots : Nat} {Z : State} {a0 : Array Value} {target : State} {x0 : Addr} {x1 : UInt64} {x3 : Int32} {y0 : Int32} (X : Stand p l e R s m args below meth c T locs cells slots) (hx : p.tables.exec = Jvm.exec) (hZ : Z.Warmed39 s.vm) (hw : ∀ d ∈ tables_1, d.before a0 Z = true) (hby : c.code = prog_1_method_6_code) (hown : s.vm.findClass "com/example/mynegai/mynegai/command/DecimalRange" = some m.cls)
    (k : Steps p.tables e below (T.setTop (mkF m 77 #[.val (.ref x0), .val (.double x1), .second, .val (.int x3), .unset] [(.int (bif (ifCond.holds .ge y0) then (0 : Int32) else (1 : Int32)))])) target) : Steps p.tables e below (T.setTop (mkF m 69 #[.val (.ref x0), .val (.double x1), .second, .val (.int x3), .unset] [(.int y0)])) target := by
  show Steps p.tables e below (T.setTop (mkF m 69 #[.val (.ref x0), .val (.double x1), .second, .val (.int x3), .unset] [(.int y0)])) _
  rcases Bool.eq_false_or_eq_true (ifCond.holds .ge y0) with hc1 | hc1
  · try rw [hc1] at k
    refine XS.ifYes X.here hx rfl (pc0 := 69) (pc' := 76) rfl (hb hby dprog_1_method_6_code_69) rfl hc1 (by decide) (by decide) ?_
    show Steps p.tables e below (T.setTop (mkF m 76 #[.val (.ref x0), .val (.double x1), .second, .val (.int x3), .unset] [])) _
    refine XS.iconst X.here hx rfl (hb hby dprog_1_method_6_code_76) ?_
    exact k
  · try rw [hc1] at k
    refine XS.ifNo X.here hx rfl (hb hby dprog_1_method_6_code_69) rfl hc1 ?_
    show Steps p.tables e below (T.setTop (mkF m 72 #[.val (.ref x0), .val (.double x1), .second, .val (.int x3), .unset] [])) _
    refine XS.iconst X.here hx rfl (hb hby dprog_1_method_6_code_72) ?_
    show Steps p.tables e below (T.setTop (mkF m 73 #[.val (.ref x0), .val (.double x1), .second, .val (.int x3), .unset] [(.int (1 : Int32))])) _
    refine XS.goto X.here hx rfl (pc0 := 73) (pc' := 77) rfl (hb hby dprog_1_method_6_code_73) (by decide) (by decide) ?_
    exact k
set_option maxRecDepth 65536 in
set_option maxHeartbeats 4000000 in
theorem sg_ct_79_101 {p : Program} {l : Launch} {e : Env} {R : Room} {s : State} {m : MethodId} {args : Array Value} {below : List Frame} {meth : Method} {c : Code} {T : State} {locs : List Loc} {cells slots : Nat} {Z : State} {a0 : Array Value} {target : State} {x0 : Addr} {x1 : UInt64} {x3 : Int32} {x4 : Int32} (X : Stand p l e R s m args below meth c T locs cells slots) (hx : p.tables.exec = Jvm.exec) (hZ : Z.Warmed39 s.vm) (hw : ∀ d ∈ tables_1, d.before a0 Z = true) (hby : c.code = prog_1_method_6_code) (hown : s.vm.findClass "com/example/mynegai/mynegai/command/DecimalRange" = some m.cls)
    (k : Steps p.tables e below (T.setTop (mkF m 101 #[.val (.ref x0), .val (.double x1), .second, .val (.int x3), .val (.int x4)] [(.int (bif (ifCond.holds .eq x3) then (0 : Int32) else (bif (ifCond.holds .eq x4) then (0 : Int32) else (bif (ifCond.holds .ge (cmpValue (FP.dcmp x1 (9218868437227405312 : UInt64)) .g)) then (0 : Int32) else (1 : Int32)))))])) target) : Steps p.tables e below (T.setTop (mkF m 79 #[.val (.ref x0), .val (.double x1), .second, .val (.int x3), .val (.int x4)] [])) target := by
  show Steps p.tables e below (T.setTop (mkF m 79 #[.val (.ref x0), .val (.double x1), .second, .val (.int x3), .val (.int x4)] [])) _
  refine XS.iloadN X.here hx rfl (hb hby dprog_1_method_6_code_79) rfl ?_
  show Steps p.tables e below (T.setTop (mkF m 80 #[.val (.ref x0), .val (.double x1), .second, .val (.int x3), .val (.int x4)] [(.int x3)])) _
  rcases Bool.eq_false_or_eq_true (ifCond.holds .eq x3) with hc1 | hc1
  · try rw [hc1] at k
    refine XS.ifYes X.here hx rfl (pc0 := 80) (pc' := 100) rfl (hb hby dprog_1_method_6_code_80) rfl hc1 (by decide) (by decide) ?_
    show Steps p.tables e below (T.setTop (mkF m 100 #[.val (.ref x0), .val (.double x1), .second, .val (.int x3), .val (.int x4)] [])) _
    refine XS.iconst X.here hx rfl (hb hby dprog_1_method_6_code_100) ?_
    exact k
  · try rw [hc1] at k
    refine XS.ifNo X.here hx rfl (hb hby dprog_1_method_6_code_80) rfl hc1 ?_
    show Steps p.tables e below (T.setTop (mkF m 83 #[.val (.ref x0), .val (.double x1), .second, .val (.int x3), .val (.int x4)] [])) _
    refine XS.iload X.here hx rfl (hb hby dprog_1_method_6_code_83) rfl ?_
    show Steps p.tables e below (T.setTop (mkF m 85 #[.val (.ref x0), .val (.double x1), .second, .val (.int x3), .val (.int x4)] [(.int x4)])) _
    rcases Bool.eq_false_or_eq_true (ifCond.holds .eq x4) with hc2 | hc2
    · try rw [hc2] at k
      refine XS.ifYes X.here hx rfl (pc0 := 85) (pc' := 100) rfl (hb hby dprog_1_method_6_code_85) rfl hc2 (by decide) (by decide) ?_
      show Steps p.tables e below (T.setTop (mkF m 100 #[.val (.ref x0), .val (.double x1), .second, .val (.int x3), .val (.int x4)] [])) _
      refine XS.iconst X.here hx rfl (hb hby dprog_1_method_6_code_100) ?_
      exact k
    · try rw [hc2] at k
      refine XS.ifNo X.here hx rfl (hb hby dprog_1_method_6_code_85) rfl hc2 ?_
      show Steps p.tables e below (T.setTop (mkF m 88 #[.val (.ref x0), .val (.double x1), .second, .val (.int x3), .val (.int x4)] [])) _
      refine XS.dloadN X.here hx rfl (hb hby dprog_1_method_6_code_88) rfl ?_
      show Steps p.tables e below (T.setTop (mkF m 89 #[.val (.ref x0), .val (.double x1), .second, .val (.int x3), .val (.int x4)] [(.double x1)])) _
      refine X.ldc2DoubleC hx hown (mvT hZ (hw _ (List.mem_of_getElem? (i := 15) rfl))) (g := (mkF m 89 #[.val (.ref x0), .val (.double x1), .second, .val (.int x3), .val (.int x4)] [(.double x1)])) rfl (hb hby dprog_1_method_6_code_89) _ ?_
      show Steps p.tables e below (T.setTop (mkF m 92 #[.val (.ref x0), .val (.double x1), .second, .val (.int x3), .val (.int x4)] [(.double (9218868437227405312 : UInt64)), (.double x1)])) _
      refine XS.dcmpS X.here hx rfl (hb hby dprog_1_method_6_code_92) rfl rfl ?_
      show Steps p.tables e below (T.setTop (mkF m 93 #[.val (.ref x0), .val (.double x1), .second, .val (.int x3), .val (.int x4)] [(.int (cmpValue (FP.dcmp x1 (9218868437227405312 : UInt64)) .g))])) _
      rcases Bool.eq_false_or_eq_true (ifCond.holds .ge (cmpValue (FP.dcmp x1 (9218868437227405312 : UInt64)) .g)) with hc3 | hc3
      · try rw [hc3] at k
        refine XS.ifYes X.here hx rfl (pc0 := 93) (pc' := 100) rfl (hb hby dprog_1_method_6_code_93) rfl hc3 (by decide) (by decide) ?_
        show Steps p.tables e below (T.setTop (mkF m 100 #[.val (.ref x0), .val (.double x1), .second, .val (.int x3), .val (.int x4)] [])) _
        refine XS.iconst X.here hx rfl (hb hby dprog_1_method_6_code_100) ?_
        exact k
      · try rw [hc3] at k
        refine XS.ifNo X.here hx rfl (hb hby dprog_1_method_6_code_93) rfl hc3 ?_
        show Steps p.tables e below (T.setTop (mkF m 96 #[.val (.ref x0), .val (.double x1), .second, .val (.int x3), .val (.int x4)] [])) _
        refine XS.iconst X.here hx rfl (hb hby dprog_1_method_6_code_96) ?_
        show Steps p.tables e below (T.setTop (mkF m 97 #[.val (.ref x0), .val (.double x1), .second, .val (.int x3), .val (.int x4)] [(.int (1 : Int32))])) _
        refine XS.goto X.here hx rfl (pc0 := 97) (pc' := 101) rfl (hb hby dprog_1_method_6_code_97) (by decide) (by decide) ?_
        exact k
set_option maxRecDepth 65536 in
set_option maxHeartbeats 4000000 in
theorem sg_ct_52_77 {p : Program} {l : Launch} {e : Env} {R : Room} {s : State} {m : MethodId} {args : Array Value} {below : List Frame} {meth : Method} {c : Code} {T : State} {locs : List Loc} {cells slots : Nat} {Z : State} {a0 : Array Value} {target : State} {x0 : Addr} {x1 : UInt64} {x3 : Int32} {y0 : Int32} (X : Stand p l e R s m args below meth c T locs cells slots) (hx : p.tables.exec = Jvm.exec) (hZ : Z.Warmed39 s.vm) (hw : ∀ d ∈ tables_1, d.before a0 Z = true) (hby : c.code = prog_1_method_6_code) (hown : s.vm.findClass "com/example/mynegai/mynegai/command/DecimalRange" = some m.cls)
    (k : Steps p.tables e below (T.setTop (mkF m 77 #[.val (.ref x0), .val (.double x1), .second, .val (.int x3), .unset] [(.int (bif (ifCond.holds .gt y0) then (0 : Int32) else (1 : Int32)))])) target) : Steps p.tables e below (T.setTop (mkF m 52 #[.val (.ref x0), .val (.double x1), .second, .val (.int x3), .unset] [(.int y0)])) target := by
  show Steps p.tables e below (T.setTop (mkF m 52 #[.val (.ref x0), .val (.double x1), .second, .val (.int x3), .unset] [(.int y0)])) _
  rcases Bool.eq_false_or_eq_true (ifCond.holds .gt y0) with hc1 | hc1
  · try rw [hc1] at k
    refine XS.ifYes X.here hx rfl (pc0 := 52) (pc' := 59) rfl (hb hby dprog_1_method_6_code_52) rfl hc1 (by decide) (by decide) ?_
    show Steps p.tables e below (T.setTop (mkF m 59 #[.val (.ref x0), .val (.double x1), .second, .val (.int x3), .unset] [])) _
    refine XS.iconst X.here hx rfl (hb hby dprog_1_method_6_code_59) ?_
    show Steps p.tables e below (T.setTop (mkF m 60 #[.val (.ref x0), .val (.double x1), .second, .val (.int x3), .unset] [(.int (0 : Int32))])) _
    refine XS.goto X.here hx rfl (pc0 := 60) (pc' := 77) rfl (hb hby dprog_1_method_6_code_60) (by decide) (by decide) ?_
    exact k
  · try rw [hc1] at k
    refine XS.ifNo X.here hx rfl (hb hby dprog_1_method_6_code_52) rfl hc1 ?_
    show Steps p.tables e below (T.setTop (mkF m 55 #[.val (.ref x0), .val (.double x1), .second, .val (.int x3), .unset] [])) _
    refine XS.iconst X.here hx rfl (hb hby dprog_1_method_6_code_55) ?_
    show Steps p.tables e below (T.setTop (mkF m 56 #[.val (.ref x0), .val (.double x1), .second, .val (.int x3), .unset] [(.int (1 : Int32))])) _
    refine XS.goto X.here hx rfl (pc0 := 56) (pc' := 77) rfl (hb hby dprog_1_method_6_code_56) (by decide) (by decide) ?_
    exact k
set_option maxRecDepth 65536 in
set_option maxHeartbeats 4000000 in
theorem sg_ct_79_101_1 {p : Program} {l : Launch} {e : Env} {R : Room} {s : State} {m : MethodId} {args : Array Value} {below : List Frame} {meth : Method} {c : Code} {T : State} {locs : List Loc} {cells slots : Nat} {Z : State} {a0 : Array Value} {target : State} {x0 : Addr} {x1 : UInt64} {x3 : Int32} {x4 : Int32} (X : Stand p l e R s m args below meth c T locs cells slots) (hx : p.tables.exec = Jvm.exec) (hZ : Z.Warmed39 s.vm) (hw : ∀ d ∈ tables_1, d.before a0 Z = true) (hby : c.code = prog_1_method_6_code) (hown : s.vm.findClass "com/example/mynegai/mynegai/command/DecimalRange" = some m.cls)
    (k : Steps p.tables e below (T.setTop (mkF m 101 #[.val (.ref x0), .val (.double x1), .second, .val (.int x3), .val (.int x4)] [(.int (bif (ifCond.holds .eq x3) then (0 : Int32) else (bif (ifCond.holds .eq x4) then (0 : Int32) else (bif (ifCond.holds .ge (cmpValue (FP.dcmp x1 (9218868437227405312 : UInt64)) .g)) then (0 : Int32) else (1 : Int32)))))])) target) : Steps p.tables e below (T.setTop (mkF m 79 #[.val (.ref x0), .val (.double x1), .second, .val (.int x3), .val (.int x4)] [])) target := by
  show Steps p.tables e below (T.setTop (mkF m 79 #[.val (.ref x0), .val (.double x1), .second, .val (.int x3), .val (.int x4)] [])) _
  refine XS.iloadN X.here hx rfl (hb hby dprog_1_method_6_code_79) rfl ?_
  show Steps p.tables e below (T.setTop (mkF m 80 #[.val (.ref x0), .val (.double x1), .second, .val (.int x3), .val (.int x4)] [(.int x3)])) _
  rcases Bool.eq_false_or_eq_true (ifCond.holds .eq x3) with hc1 | hc1
  · try rw [hc1] at k
    refine XS.ifYes X.here hx rfl (pc0 := 80) (pc' := 100) rfl (hb hby dprog_1_method_6_code_80) rfl hc1 (by decide) (by decide) ?_
    show Steps p.tables e below (T.setTop (mkF m 100 #[.val (.ref x0), .val (.double x1), .second, .val (.int x3), .val (.int x4)] [])) _
    refine XS.iconst X.here hx rfl (hb hby dprog_1_method_6_code_100) ?_
    exact k
  · try rw [hc1] at k
    refine XS.ifNo X.here hx rfl (hb hby dprog_1_method_6_code_80) rfl hc1 ?_
    show Steps p.tables e below (T.setTop (mkF m 83 #[.val (.ref x0), .val (.double x1), .second, .val (.int x3), .val (.int x4)] [])) _
    refine XS.iload X.here hx rfl (hb hby dprog_1_method_6_code_83) rfl ?_
    show Steps p.tables e below (T.setTop (mkF m 85 #[.val (.ref x0), .val (.double x1), .second, .val (.int x3), .val (.int x4)] [(.int x4)])) _
    rcases Bool.eq_false_or_eq_true (ifCond.holds .eq x4) with hc2 | hc2
    · try rw [hc2] at k
      refine XS.ifYes X.here hx rfl (pc0 := 85) (pc' := 100) rfl (hb hby dprog_1_method_6_code_85) rfl hc2 (by decide) (by decide) ?_
      show Steps p.tables e below (T.setTop (mkF m 100 #[.val (.ref x0), .val (.double x1), .second, .val (.int x3), .val (.int x4)] [])) _
      refine XS.iconst X.here hx rfl (hb hby dprog_1_method_6_code_100) ?_
      exact k
    · try rw [hc2] at k
      refine XS.ifNo X.here hx rfl (hb hby dprog_1_method_6_code_85) rfl hc2 ?_
      show Steps p.tables e below (T.setTop (mkF m 88 #[.val (.ref x0), .val (.double x1), .second, .val (.int x3), .val (.int x4)] [])) _
      refine XS.dloadN X.here hx rfl (hb hby dprog_1_method_6_code_88) rfl ?_
      show Steps p.tables e below (T.setTop (mkF m 89 #[.val (.ref x0), .val (.double x1), .second, .val (.int x3), .val (.int x4)] [(.double x1)])) _
      refine X.ldc2DoubleC hx hown (mvT hZ (hw _ (List.mem_of_getElem? (i := 15) rfl))) (g := (mkF m 89 #[.val (.ref x0), .val (.double x1), .second, .val (.int x3), .val (.int x4)] [(.double x1)])) rfl (hb hby dprog_1_method_6_code_89) _ ?_
      show Steps p.tables e below (T.setTop (mkF m 92 #[.val (.ref x0), .val (.double x1), .second, .val (.int x3), .val (.int x4)] [(.double (9218868437227405312 : UInt64)), (.double x1)])) _
      refine XS.dcmpS X.here hx rfl (hb hby dprog_1_method_6_code_92) rfl rfl ?_
      show Steps p.tables e below (T.setTop (mkF m 93 #[.val (.ref x0), .val (.double x1), .second, .val (.int x3), .val (.int x4)] [(.int (cmpValue (FP.dcmp x1 (9218868437227405312 : UInt64)) .g))])) _
      rcases Bool.eq_false_or_eq_true (ifCond.holds .ge (cmpValue (FP.dcmp x1 (9218868437227405312 : UInt64)) .g)) with hc3 | hc3
      · try rw [hc3] at k
        refine XS.ifYes X.here hx rfl (pc0 := 93) (pc' := 100) rfl (hb hby dprog_1_method_6_code_93) rfl hc3 (by decide) (by decide) ?_
        show Steps p.tables e below (T.setTop (mkF m 100 #[.val (.ref x0), .val (.double x1), .second, .val (.int x3), .val (.int x4)] [])) _
        refine XS.iconst X.here hx rfl (hb hby dprog_1_method_6_code_100) ?_
        exact k
      · try rw [hc3] at k
        refine XS.ifNo X.here hx rfl (hb hby dprog_1_method_6_code_93) rfl hc3 ?_
        show Steps p.tables e below (T.setTop (mkF m 96 #[.val (.ref x0), .val (.double x1), .second, .val (.int x3), .val (.int x4)] [])) _
        refine XS.iconst X.here hx rfl (hb hby dprog_1_method_6_code_96) ?_
        show Steps p.tables e below (T.setTop (mkF m 97 #[.val (.ref x0), .val (.double x1), .second, .val (.int x3), .val (.int x4)] [(.int (1 : Int32))])) _
        refine XS.goto X.here hx rfl (pc0 := 97) (pc' := 101) rfl (hb hby dprog_1_method_6_code_97) (by decide) (by decide) ?_
        exact k
set_option maxRecDepth 65536 in
set_option maxHeartbeats 4000000 in
theorem sg_ct_13_38 {p : Program} {l : Launch} {e : Env} {R : Room} {s : State} {m : MethodId} {args : Array Value} {below : List Frame} {meth : Method} {c : Code} {T : State} {locs : List Loc} {cells slots : Nat} {Z : State} {a0 : Array Value} {target : State} {x0 : Addr} {x1 : UInt64} {y0 : Int32} (X : Stand p l e R s m args below meth c T locs cells slots) (hx : p.tables.exec = Jvm.exec) (hZ : Z.Warmed39 s.vm) (hw : ∀ d ∈ tables_1, d.before a0 Z = true) (hby : c.code = prog_1_method_6_code) (hown : s.vm.findClass "com/example/mynegai/mynegai/command/DecimalRange" = some m.cls)
    (k : Steps p.tables e below (T.setTop (mkF m 38 #[.val (.ref x0), .val (.double x1), .second, .unset, .unset] [(.int (bif (ifCond.holds .lt y0) then (0 : Int32) else (1 : Int32)))])) target) : Steps p.tables e below (T.setTop (mkF m 13 #[.val (.ref x0), .val (.double x1), .second, .unset, .unset] [(.int y0)])) target := by
  show Steps p.tables e below (T.setTop (mkF m 13 #[.val (.ref x0), .val (.double x1), .second, .unset, .unset] [(.int y0)])) _
  rcases Bool.eq_false_or_eq_true (ifCond.holds .lt y0) with hc1 | hc1
  · try rw [hc1] at k
    refine XS.ifYes X.here hx rfl (pc0 := 13) (pc' := 20) rfl (hb hby dprog_1_method_6_code_13) rfl hc1 (by decide) (by decide) ?_
    show Steps p.tables e below (T.setTop (mkF m 20 #[.val (.ref x0), .val (.double x1), .second, .unset, .unset] [])) _
    refine XS.iconst X.here hx rfl (hb hby dprog_1_method_6_code_20) ?_
    show Steps p.tables e below (T.setTop (mkF m 21 #[.val (.ref x0), .val (.double x1), .second, .unset, .unset] [(.int (0 : Int32))])) _
    refine XS.goto X.here hx rfl (pc0 := 21) (pc' := 38) rfl (hb hby dprog_1_method_6_code_21) (by decide) (by decide) ?_
    exact k
  · try rw [hc1] at k
    refine XS.ifNo X.here hx rfl (hb hby dprog_1_method_6_code_13) rfl hc1 ?_
    show Steps p.tables e below (T.setTop (mkF m 16 #[.val (.ref x0), .val (.double x1), .second, .unset, .unset] [])) _
    refine XS.iconst X.here hx rfl (hb hby dprog_1_method_6_code_16) ?_
    show Steps p.tables e below (T.setTop (mkF m 17 #[.val (.ref x0), .val (.double x1), .second, .unset, .unset] [(.int (1 : Int32))])) _
    refine XS.goto X.here hx rfl (pc0 := 17) (pc' := 38) rfl (hb hby dprog_1_method_6_code_17) (by decide) (by decide) ?_
    exact k
set_option maxRecDepth 65536 in
set_option maxHeartbeats 4000000 in
theorem sg_ct_69_77_1 {p : Program} {l : Launch} {e : Env} {R : Room} {s : State} {m : MethodId} {args : Array Value} {below : List Frame} {meth : Method} {c : Code} {T : State} {locs : List Loc} {cells slots : Nat} {Z : State} {a0 : Array Value} {target : State} {x0 : Addr} {x1 : UInt64} {x3 : Int32} {y0 : Int32} (X : Stand p l e R s m args below meth c T locs cells slots) (hx : p.tables.exec = Jvm.exec) (hZ : Z.Warmed39 s.vm) (hw : ∀ d ∈ tables_1, d.before a0 Z = true) (hby : c.code = prog_1_method_6_code) (hown : s.vm.findClass "com/example/mynegai/mynegai/command/DecimalRange" = some m.cls)
    (k : Steps p.tables e below (T.setTop (mkF m 77 #[.val (.ref x0), .val (.double x1), .second, .val (.int x3), .unset] [(.int (bif (ifCond.holds .ge y0) then (0 : Int32) else (1 : Int32)))])) target) : Steps p.tables e below (T.setTop (mkF m 69 #[.val (.ref x0), .val (.double x1), .second, .val (.int x3), .unset] [(.int y0)])) target := by
  show Steps p.tables e below (T.setTop (mkF m 69 #[.val (.ref x0), .val (.double x1), .second, .val (.int x3), .unset] [(.int y0)])) _
  rcases Bool.eq_false_or_eq_true (ifCond.holds .ge y0) with hc1 | hc1
  · try rw [hc1] at k
    refine XS.ifYes X.here hx rfl (pc0 := 69) (pc' := 76) rfl (hb hby dprog_1_method_6_code_69) rfl hc1 (by decide) (by decide) ?_
    show Steps p.tables e below (T.setTop (mkF m 76 #[.val (.ref x0), .val (.double x1), .second, .val (.int x3), .unset] [])) _
    refine XS.iconst X.here hx rfl (hb hby dprog_1_method_6_code_76) ?_
    exact k
  · try rw [hc1] at k
    refine XS.ifNo X.here hx rfl (hb hby dprog_1_method_6_code_69) rfl hc1 ?_
    show Steps p.tables e below (T.setTop (mkF m 72 #[.val (.ref x0), .val (.double x1), .second, .val (.int x3), .unset] [])) _
    refine XS.iconst X.here hx rfl (hb hby dprog_1_method_6_code_72) ?_
    show Steps p.tables e below (T.setTop (mkF m 73 #[.val (.ref x0), .val (.double x1), .second, .val (.int x3), .unset] [(.int (1 : Int32))])) _
    refine XS.goto X.here hx rfl (pc0 := 73) (pc' := 77) rfl (hb hby dprog_1_method_6_code_73) (by decide) (by decide) ?_
    exact k
set_option maxRecDepth 65536 in
set_option maxHeartbeats 4000000 in
theorem sg_ct_79_101_2 {p : Program} {l : Launch} {e : Env} {R : Room} {s : State} {m : MethodId} {args : Array Value} {below : List Frame} {meth : Method} {c : Code} {T : State} {locs : List Loc} {cells slots : Nat} {Z : State} {a0 : Array Value} {target : State} {x0 : Addr} {x1 : UInt64} {x3 : Int32} {x4 : Int32} (X : Stand p l e R s m args below meth c T locs cells slots) (hx : p.tables.exec = Jvm.exec) (hZ : Z.Warmed39 s.vm) (hw : ∀ d ∈ tables_1, d.before a0 Z = true) (hby : c.code = prog_1_method_6_code) (hown : s.vm.findClass "com/example/mynegai/mynegai/command/DecimalRange" = some m.cls)
    (k : Steps p.tables e below (T.setTop (mkF m 101 #[.val (.ref x0), .val (.double x1), .second, .val (.int x3), .val (.int x4)] [(.int (bif (ifCond.holds .eq x3) then (0 : Int32) else (bif (ifCond.holds .eq x4) then (0 : Int32) else (bif (ifCond.holds .ge (cmpValue (FP.dcmp x1 (9218868437227405312 : UInt64)) .g)) then (0 : Int32) else (1 : Int32)))))])) target) : Steps p.tables e below (T.setTop (mkF m 79 #[.val (.ref x0), .val (.double x1), .second, .val (.int x3), .val (.int x4)] [])) target := by
  show Steps p.tables e below (T.setTop (mkF m 79 #[.val (.ref x0), .val (.double x1), .second, .val (.int x3), .val (.int x4)] [])) _
  refine XS.iloadN X.here hx rfl (hb hby dprog_1_method_6_code_79) rfl ?_
  show Steps p.tables e below (T.setTop (mkF m 80 #[.val (.ref x0), .val (.double x1), .second, .val (.int x3), .val (.int x4)] [(.int x3)])) _
  rcases Bool.eq_false_or_eq_true (ifCond.holds .eq x3) with hc1 | hc1
  · try rw [hc1] at k
    refine XS.ifYes X.here hx rfl (pc0 := 80) (pc' := 100) rfl (hb hby dprog_1_method_6_code_80) rfl hc1 (by decide) (by decide) ?_
    show Steps p.tables e below (T.setTop (mkF m 100 #[.val (.ref x0), .val (.double x1), .second, .val (.int x3), .val (.int x4)] [])) _
    refine XS.iconst X.here hx rfl (hb hby dprog_1_method_6_code_100) ?_
    exact k
  · try rw [hc1] at k
    refine XS.ifNo X.here hx rfl (hb hby dprog_1_method_6_code_80) rfl hc1 ?_
    show Steps p.tables e below (T.setTop (mkF m 83 #[.val (.ref x0), .val (.double x1), .second, .val (.int x3), .val (.int x4)] [])) _
    refine XS.iload X.here hx rfl (hb hby dprog_1_method_6_code_83) rfl ?_
    show Steps p.tables e below (T.setTop (mkF m 85 #[.val (.ref x0), .val (.double x1), .second, .val (.int x3), .val (.int x4)] [(.int x4)])) _
    rcases Bool.eq_false_or_eq_true (ifCond.holds .eq x4) with hc2 | hc2
    · try rw [hc2] at k
      refine XS.ifYes X.here hx rfl (pc0 := 85) (pc' := 100) rfl (hb hby dprog_1_method_6_code_85) rfl hc2 (by decide) (by decide) ?_
      show Steps p.tables e below (T.setTop (mkF m 100 #[.val (.ref x0), .val (.double x1), .second, .val (.int x3), .val (.int x4)] [])) _
      refine XS.iconst X.here hx rfl (hb hby dprog_1_method_6_code_100) ?_
      exact k
    · try rw [hc2] at k
      refine XS.ifNo X.here hx rfl (hb hby dprog_1_method_6_code_85) rfl hc2 ?_
      show Steps p.tables e below (T.setTop (mkF m 88 #[.val (.ref x0), .val (.double x1), .second, .val (.int x3), .val (.int x4)] [])) _
      refine XS.dloadN X.here hx rfl (hb hby dprog_1_method_6_code_88) rfl ?_
      show Steps p.tables e below (T.setTop (mkF m 89 #[.val (.ref x0), .val (.double x1), .second, .val (.int x3), .val (.int x4)] [(.double x1)])) _
      refine X.ldc2DoubleC hx hown (mvT hZ (hw _ (List.mem_of_getElem? (i := 15) rfl))) (g := (mkF m 89 #[.val (.ref x0), .val (.double x1), .second, .val (.int x3), .val (.int x4)] [(.double x1)])) rfl (hb hby dprog_1_method_6_code_89) _ ?_
      show Steps p.tables e below (T.setTop (mkF m 92 #[.val (.ref x0), .val (.double x1), .second, .val (.int x3), .val (.int x4)] [(.double (9218868437227405312 : UInt64)), (.double x1)])) _
      refine XS.dcmpS X.here hx rfl (hb hby dprog_1_method_6_code_92) rfl rfl ?_
      show Steps p.tables e below (T.setTop (mkF m 93 #[.val (.ref x0), .val (.double x1), .second, .val (.int x3), .val (.int x4)] [(.int (cmpValue (FP.dcmp x1 (9218868437227405312 : UInt64)) .g))])) _
      rcases Bool.eq_false_or_eq_true (ifCond.holds .ge (cmpValue (FP.dcmp x1 (9218868437227405312 : UInt64)) .g)) with hc3 | hc3
      · try rw [hc3] at k
        refine XS.ifYes X.here hx rfl (pc0 := 93) (pc' := 100) rfl (hb hby dprog_1_method_6_code_93) rfl hc3 (by decide) (by decide) ?_
        show Steps p.tables e below (T.setTop (mkF m 100 #[.val (.ref x0), .val (.double x1), .second, .val (.int x3), .val (.int x4)] [])) _
        refine XS.iconst X.here hx rfl (hb hby dprog_1_method_6_code_100) ?_
        exact k
      · try rw [hc3] at k
        refine XS.ifNo X.here hx rfl (hb hby dprog_1_method_6_code_93) rfl hc3 ?_
        show Steps p.tables e below (T.setTop (mkF m 96 #[.val (.ref x0), .val (.double x1), .second, .val (.int x3), .val (.int x4)] [])) _
        refine XS.iconst X.here hx rfl (hb hby dprog_1_method_6_code_96) ?_
        show Steps p.tables e below (T.setTop (mkF m 97 #[.val (.ref x0), .val (.double x1), .second, .val (.int x3), .val (.int x4)] [(.int (1 : Int32))])) _
        refine XS.goto X.here hx rfl (pc0 := 97) (pc' := 101) rfl (hb hby dprog_1_method_6_code_97) (by decide) (by decide) ?_
        exact k
set_option maxRecDepth 65536 in
set_option maxHeartbeats 4000000 in
theorem sg_ct_52_77_1 {p : Program} {l : Launch} {e : Env} {R : Room} {s : State} {m : MethodId} {args : Array Value} {below : List Frame} {meth : Method} {c : Code} {T : State} {locs : List Loc} {cells slots : Nat} {Z : State} {a0 : Array Value} {target : State} {x0 : Addr} {x1 : UInt64} {x3 : Int32} {y0 : Int32} (X : Stand p l e R s m args below meth c T locs cells slots) (hx : p.tables.exec = Jvm.exec) (hZ : Z.Warmed39 s.vm) (hw : ∀ d ∈ tables_1, d.before a0 Z = true) (hby : c.code = prog_1_method_6_code) (hown : s.vm.findClass "com/example/mynegai/mynegai/command/DecimalRange" = some m.cls)
    (k : Steps p.tables e below (T.setTop (mkF m 77 #[.val (.ref x0), .val (.double x1), .second, .val (.int x3), .unset] [(.int (bif (ifCond.holds .gt y0) then (0 : Int32) else (1 : Int32)))])) target) : Steps p.tables e below (T.setTop (mkF m 52 #[.val (.ref x0), .val (.double x1), .second, .val (.int x3), .unset] [(.int y0)])) target := by
  show Steps p.tables e below (T.setTop (mkF m 52 #[.val (.ref x0), .val (.double x1), .second, .val (.int x3), .unset] [(.int y0)])) _
  rcases Bool.eq_false_or_eq_true (ifCond.holds .gt y0) with hc1 | hc1
  · try rw [hc1] at k
    refine XS.ifYes X.here hx rfl (pc0 := 52) (pc' := 59) rfl (hb hby dprog_1_method_6_code_52) rfl hc1 (by decide) (by decide) ?_
    show Steps p.tables e below (T.setTop (mkF m 59 #[.val (.ref x0), .val (.double x1), .second, .val (.int x3), .unset] [])) _
    refine XS.iconst X.here hx rfl (hb hby dprog_1_method_6_code_59) ?_
    show Steps p.tables e below (T.setTop (mkF m 60 #[.val (.ref x0), .val (.double x1), .second, .val (.int x3), .unset] [(.int (0 : Int32))])) _
    refine XS.goto X.here hx rfl (pc0 := 60) (pc' := 77) rfl (hb hby dprog_1_method_6_code_60) (by decide) (by decide) ?_
    exact k
  · try rw [hc1] at k
    refine XS.ifNo X.here hx rfl (hb hby dprog_1_method_6_code_52) rfl hc1 ?_
    show Steps p.tables e below (T.setTop (mkF m 55 #[.val (.ref x0), .val (.double x1), .second, .val (.int x3), .unset] [])) _
    refine XS.iconst X.here hx rfl (hb hby dprog_1_method_6_code_55) ?_
    show Steps p.tables e below (T.setTop (mkF m 56 #[.val (.ref x0), .val (.double x1), .second, .val (.int x3), .unset] [(.int (1 : Int32))])) _
    refine XS.goto X.here hx rfl (pc0 := 56) (pc' := 77) rfl (hb hby dprog_1_method_6_code_56) (by decide) (by decide) ?_
    exact k
set_option maxRecDepth 65536 in
set_option maxHeartbeats 4000000 in
theorem sg_ct_79_101_3 {p : Program} {l : Launch} {e : Env} {R : Room} {s : State} {m : MethodId} {args : Array Value} {below : List Frame} {meth : Method} {c : Code} {T : State} {locs : List Loc} {cells slots : Nat} {Z : State} {a0 : Array Value} {target : State} {x0 : Addr} {x1 : UInt64} {x3 : Int32} {x4 : Int32} (X : Stand p l e R s m args below meth c T locs cells slots) (hx : p.tables.exec = Jvm.exec) (hZ : Z.Warmed39 s.vm) (hw : ∀ d ∈ tables_1, d.before a0 Z = true) (hby : c.code = prog_1_method_6_code) (hown : s.vm.findClass "com/example/mynegai/mynegai/command/DecimalRange" = some m.cls)
    (k : Steps p.tables e below (T.setTop (mkF m 101 #[.val (.ref x0), .val (.double x1), .second, .val (.int x3), .val (.int x4)] [(.int (bif (ifCond.holds .eq x3) then (0 : Int32) else (bif (ifCond.holds .eq x4) then (0 : Int32) else (bif (ifCond.holds .ge (cmpValue (FP.dcmp x1 (9218868437227405312 : UInt64)) .g)) then (0 : Int32) else (1 : Int32)))))])) target) : Steps p.tables e below (T.setTop (mkF m 79 #[.val (.ref x0), .val (.double x1), .second, .val (.int x3), .val (.int x4)] [])) target := by
  show Steps p.tables e below (T.setTop (mkF m 79 #[.val (.ref x0), .val (.double x1), .second, .val (.int x3), .val (.int x4)] [])) _
  refine XS.iloadN X.here hx rfl (hb hby dprog_1_method_6_code_79) rfl ?_
  show Steps p.tables e below (T.setTop (mkF m 80 #[.val (.ref x0), .val (.double x1), .second, .val (.int x3), .val (.int x4)] [(.int x3)])) _
  rcases Bool.eq_false_or_eq_true (ifCond.holds .eq x3) with hc1 | hc1
  · try rw [hc1] at k
    refine XS.ifYes X.here hx rfl (pc0 := 80) (pc' := 100) rfl (hb hby dprog_1_method_6_code_80) rfl hc1 (by decide) (by decide) ?_
    show Steps p.tables e below (T.setTop (mkF m 100 #[.val (.ref x0), .val (.double x1), .second, .val (.int x3), .val (.int x4)] [])) _
    refine XS.iconst X.here hx rfl (hb hby dprog_1_method_6_code_100) ?_
    exact k
  · try rw [hc1] at k
    refine XS.ifNo X.here hx rfl (hb hby dprog_1_method_6_code_80) rfl hc1 ?_
    show Steps p.tables e below (T.setTop (mkF m 83 #[.val (.ref x0), .val (.double x1), .second, .val (.int x3), .val (.int x4)] [])) _
    refine XS.iload X.here hx rfl (hb hby dprog_1_method_6_code_83) rfl ?_
    show Steps p.tables e below (T.setTop (mkF m 85 #[.val (.ref x0), .val (.double x1), .second, .val (.int x3), .val (.int x4)] [(.int x4)])) _
    rcases Bool.eq_false_or_eq_true (ifCond.holds .eq x4) with hc2 | hc2
    · try rw [hc2] at k
      refine XS.ifYes X.here hx rfl (pc0 := 85) (pc' := 100) rfl (hb hby dprog_1_method_6_code_85) rfl hc2 (by decide) (by decide) ?_
      show Steps p.tables e below (T.setTop (mkF m 100 #[.val (.ref x0), .val (.double x1), .second, .val (.int x3), .val (.int x4)] [])) _
      refine XS.iconst X.here hx rfl (hb hby dprog_1_method_6_code_100) ?_
      exact k
    · try rw [hc2] at k
      refine XS.ifNo X.here hx rfl (hb hby dprog_1_method_6_code_85) rfl hc2 ?_
      show Steps p.tables e below (T.setTop (mkF m 88 #[.val (.ref x0), .val (.double x1), .second, .val (.int x3), .val (.int x4)] [])) _
      refine XS.dloadN X.here hx rfl (hb hby dprog_1_method_6_code_88) rfl ?_
      show Steps p.tables e below (T.setTop (mkF m 89 #[.val (.ref x0), .val (.double x1), .second, .val (.int x3), .val (.int x4)] [(.double x1)])) _
      refine X.ldc2DoubleC hx hown (mvT hZ (hw _ (List.mem_of_getElem? (i := 15) rfl))) (g := (mkF m 89 #[.val (.ref x0), .val (.double x1), .second, .val (.int x3), .val (.int x4)] [(.double x1)])) rfl (hb hby dprog_1_method_6_code_89) _ ?_
      show Steps p.tables e below (T.setTop (mkF m 92 #[.val (.ref x0), .val (.double x1), .second, .val (.int x3), .val (.int x4)] [(.double (9218868437227405312 : UInt64)), (.double x1)])) _
      refine XS.dcmpS X.here hx rfl (hb hby dprog_1_method_6_code_92) rfl rfl ?_
      show Steps p.tables e below (T.setTop (mkF m 93 #[.val (.ref x0), .val (.double x1), .second, .val (.int x3), .val (.int x4)] [(.int (cmpValue (FP.dcmp x1 (9218868437227405312 : UInt64)) .g))])) _
      rcases Bool.eq_false_or_eq_true (ifCond.holds .ge (cmpValue (FP.dcmp x1 (9218868437227405312 : UInt64)) .g)) with hc3 | hc3
      · try rw [hc3] at k
        refine XS.ifYes X.here hx rfl (pc0 := 93) (pc' := 100) rfl (hb hby dprog_1_method_6_code_93) rfl hc3 (by decide) (by decide) ?_
        show Steps p.tables e below (T.setTop (mkF m 100 #[.val (.ref x0), .val (.double x1), .second, .val (.int x3), .val (.int x4)] [])) _
        refine XS.iconst X.here hx rfl (hb hby dprog_1_method_6_code_100) ?_
        exact k
      · try rw [hc3] at k
        refine XS.ifNo X.here hx rfl (hb hby dprog_1_method_6_code_93) rfl hc3 ?_
        show Steps p.tables e below (T.setTop (mkF m 96 #[.val (.ref x0), .val (.double x1), .second, .val (.int x3), .val (.int x4)] [])) _
        refine XS.iconst X.here hx rfl (hb hby dprog_1_method_6_code_96) ?_
        show Steps p.tables e below (T.setTop (mkF m 97 #[.val (.ref x0), .val (.double x1), .second, .val (.int x3), .val (.int x4)] [(.int (1 : Int32))])) _
        refine XS.goto X.here hx rfl (pc0 := 97) (pc' := 101) rfl (hb hby dprog_1_method_6_code_97) (by decide) (by decide) ?_
        exact k
def Qct (Z : State) (a1 : Addr) (pmin : UInt64) (imin : Int32) (pmax : UInt64) (imax : Int32) (px : UInt64) (h0 : Heap) (n0 : Nat) (v : Option Value) (h : Heap) (L : List Loc) : Prop := v = some (.int (own_cont pmin imin pmax imax px)) ∧ Fr n0 L ∧ h = h0
set_option maxRecDepth 65536 in
set_option maxHeartbeats 40000000 in
theorem rmct (l : Launch) (Z : State) (a0 : Array Value) (hw : ∀ d ∈ tables_1, d.before a0 Z = true) (ws : List Jvm.Cond) (a1 : Addr) (pmin : UInt64) (imin : Int32) (pmax : UInt64) (imax : Int32) (px : UInt64) (h0 : Heap) (n0 : Nat) (Z0 : n0 ≤ h0.size) (F_min : Fld Z h0 a1 "com/example/mynegai/mynegai/command/DecimalRange" "min" "D" (.double pmin)) (F_minIncluded : Fld Z h0 a1 "com/example/mynegai/mynegai/command/DecimalRange" "minIncluded" "Z" (.int imin)) (F_max : Fld Z h0 a1 "com/example/mynegai/mynegai/command/DecimalRange" "max" "D" (.double pmax)) (F_maxIncluded : Fld Z h0 a1 "com/example/mynegai/mynegai/command/DecimalRange" "maxIncluded" "Z" (.int imax)) :
    MetFree l (⟨"com/example/mynegai/mynegai/command/DecimalRange", "contains", "(D)Z"⟩ : MethodName) (head1 (Jvm.Cond.code (⟨"com/example/mynegai/mynegai/command/DecimalRange", "contains", "(D)Z"⟩ : MethodName) prog_1_method_6_code 5 (some .boolean) :: ws) ({ frames := 0, cells := 0, slots := 0, locals := 0 } : Room)) (fun a U => a = #[(.ref a1), (.double px)] ∧ Z.Warmed39 U.vm ∧ U.heap = h0) (fun _ _ _ _ _ => True) (fun _ U o U' => ∃ v L, o = .returned v ∧ Qct Z a1 pmin imin pmax imax px h0 n0 v U'.heap L ∧ FrameEnd U o U' L ({ frames := 0, cells := 0, slots := 0, locals := 0 } : Room).cells ({ frames := 0, cells := 0, slots := 0, locals := 0 } : Room).slots) := by
  refine MetFree.of_bodySF (plainFor_of_name pn_1) hisR ?_
  intro p e s m args below meth c s₁ Bd hml0 hP hK
  obtain ⟨rfl, hZ, hh⟩ := hP
  have hx := Bd.exec
  have hby := Bd.bytes
  have hml : c.maxLocals = 5 := hml0
  have hown : s.vm.findClass "com/example/mynegai/mynegai/command/DecimalRange" = some m.cls := findClass_of_methodNamed Bd.named
  have hnm := (name_of_methodNamed Bd.named Bd.method).1
  have X0 : Stand p l e ({ frames := 0, cells := 0, slots := 0, locals := 0 } : Room) s m #[(.ref a1), (.double px)] below meth c s₁ [] 0 0 := Stand.of_body Bd
  have e0 : s₁.heap = h0 := by rw [← hh, Bd.state]; rfl
  have N0 := Fr.nil n0
  have pre0 : ∀ t, Steps p.tables e below (s₁.setTop (mkF m 0 #[.val (.ref a1), .val (.double px), .second, .unset, .unset] [])) t → Steps p.tables e below (s₁.setTop (entryFrame m #[(.ref a1), (.double px)] 5)) t := fun t k => castTop (ef_ct m a1 px) k
  obtain ⟨T1, X1, e1, st1⟩ := getF X0 hx hZ hown (host := "") (Or.inl (hw _ (List.mem_of_getElem? (i := 18) rfl))) Via.refl e0 F_minIncluded (g := (mkF m 1 #[.val (.ref a1), .val (.double px), .second, .unset, .unset] [(.ref a1)])) rfl rfl (hb hby dprog_1_method_6_code_1)
  rcases Bool.eq_false_or_eq_true (ifCond.holds .eq imin) with hc4 | hc4
  · obtain ⟨T2, X2, e2, st2⟩ := getF X1 hx hZ hown (host := "") (Or.inl (hw _ (List.mem_of_getElem? (i := 16) rfl))) Via.refl e1 F_min (g := (mkF m 26 #[.val (.ref a1), .val (.double px), .second, .unset, .unset] [(.ref a1), (.double px)])) rfl rfl (hb hby dprog_1_method_6_code_26)
    obtain ⟨T3, X3, e3, st3⟩ := getF X2 hx hZ hown (host := "") (Or.inl (hw _ (List.mem_of_getElem? (i := 22) rfl))) Via.refl e2 F_maxIncluded (g := (mkF m 40 #[.val (.ref a1), .val (.double px), .second, .val (.int (bif (ifCond.holds .le (cmpValue (FP.dcmp px pmin) .l)) then (0 : Int32) else (1 : Int32))), .unset] [(.ref a1)])) rfl rfl (hb hby dprog_1_method_6_code_40)
    rcases Bool.eq_false_or_eq_true (ifCond.holds .eq imax) with hc43 | hc43
    · obtain ⟨T4, X4, e4, st4⟩ := getF X3 hx hZ hown (host := "") (Or.inl (hw _ (List.mem_of_getElem? (i := 20) rfl))) Via.refl e3 F_max (g := (mkF m 65 #[.val (.ref a1), .val (.double px), .second, .val (.int (bif (ifCond.holds .le (cmpValue (FP.dcmp px pmin) .l)) then (0 : Int32) else (1 : Int32))), .unset] [(.ref a1), (.double px)])) rfl rfl (hb hby dprog_1_method_6_code_65)
      obtain ⟨fs, hr, hrun, hended, hW, hsame⟩ := X4.leave (v := some (.int (nar .boolean (bif (ifCond.holds .eq (bif (ifCond.holds .le (cmpValue (FP.dcmp px pmin) .l)) then (0 : Int32) else (1 : Int32))) then (0 : Int32) else (bif (ifCond.holds .eq (bif (ifCond.holds .ge (cmpValue (FP.dcmp px pmax) .g)) then (0 : Int32) else (1 : Int32))) then (0 : Int32) else (bif (ifCond.holds .ge (cmpValue (FP.dcmp px (9218868437227405312 : UInt64)) .g)) then (0 : Int32) else (1 : Int32))))))) (fun h => by rw [Bd.returns] at h; cases h)
      refine ⟨_, _, pre0 _ ?_, hrun, hended, _, _, rfl, ?_, ⟨_, rfl⟩, hW, hsame.mono (by decide) (by decide)⟩
      · show Steps p.tables e below (s₁.setTop (mkF m 0 #[.val (.ref a1), .val (.double px), .second, .unset, .unset] [])) _
        refine XS.aloadN X0.here hx rfl (hb hby dprog_1_method_6_code_0) rfl rfl ?_
        show Steps p.tables e below (s₁.setTop (mkF m 1 #[.val (.ref a1), .val (.double px), .second, .unset, .unset] [(.ref a1)])) _
        refine st1 _ ?_
        show Steps p.tables e below (T1.setTop (mkF m 4 #[.val (.ref a1), .val (.double px), .second, .unset, .unset] [(.int imin)])) _
        refine XS.ifYes X1.here hx rfl (pc0 := 4) (pc' := 24) rfl (hb hby dprog_1_method_6_code_4) rfl hc4 (by decide) (by decide) ?_
        show Steps p.tables e below (T1.setTop (mkF m 24 #[.val (.ref a1), .val (.double px), .second, .unset, .unset] [])) _
        refine XS.dloadN X1.here hx rfl (hb hby dprog_1_method_6_code_24) rfl ?_
        show Steps p.tables e below (T1.setTop (mkF m 25 #[.val (.ref a1), .val (.double px), .second, .unset, .unset] [(.double px)])) _
        refine XS.aloadN X1.here hx rfl (hb hby dprog_1_method_6_code_25) rfl rfl ?_
        show Steps p.tables e below (T1.setTop (mkF m 26 #[.val (.ref a1), .val (.double px), .second, .unset, .unset] [(.ref a1), (.double px)])) _
        refine st2 _ ?_
        show Steps p.tables e below (T2.setTop (mkF m 29 #[.val (.ref a1), .val (.double px), .second, .unset, .unset] [(.double pmin), (.double px)])) _
        refine XS.dcmpS X2.here hx rfl (hb hby dprog_1_method_6_code_29) rfl rfl ?_
        show Steps p.tables e below (T2.setTop (mkF m 30 #[.val (.ref a1), .val (.double px), .second, .unset, .unset] [(.int (cmpValue (FP.dcmp px pmin) .l))])) _
        refine sg_ct_30_38 X2 hx hZ hw hby hown ?_
        show Steps p.tables e below (T2.setTop (mkF m 38 #[.val (.ref a1), .val (.double px), .second, .unset, .unset] [(.int (bif (ifCond.holds .le (cmpValue (FP.dcmp px pmin) .l)) then (0 : Int32) else (1 : Int32)))])) _
        refine XS.istoreN X2.here hx rfl (hb hby dprog_1_method_6_code_38) rfl (l' := #[.val (.ref a1), .val (.double px), .second, .val (.int (bif (ifCond.holds .le (cmpValue (FP.dcmp px pmin) .l)) then (0 : Int32) else (1 : Int32))), .unset]) rfl ?_
        show Steps p.tables e below (T2.setTop (mkF m 39 #[.val (.ref a1), .val (.double px), .second, .val (.int (bif (ifCond.holds .le (cmpValue (FP.dcmp px pmin) .l)) then (0 : Int32) else (1 : Int32))), .unset] [])) _
        refine XS.aloadN X2.here hx rfl (hb hby dprog_1_method_6_code_39) rfl rfl ?_
        show Steps p.tables e below (T2.setTop (mkF m 40 #[.val (.ref a1), .val (.double px), .second, .val (.int (bif (ifCond.holds .le (cmpValue (FP.dcmp px pmin) .l)) then (0 : Int32) else (1 : Int32))), .unset] [(.ref a1)])) _
        refine st3 _ ?_
        show Steps p.tables e below (T3.setTop (mkF m 43 #[.val (.ref a1), .val (.double px), .second, .val (.int (bif (ifCond.holds .le (cmpValue (FP.dcmp px pmin) .l)) then (0 : Int32) else (1 : Int32))), .unset] [(.int imax)])) _
        refine XS.ifYes X3.here hx rfl (pc0 := 43) (pc' := 63) rfl (hb hby dprog_1_method_6_code_43) rfl hc43 (by decide) (by decide) ?_
        show Steps p.tables e below (T3.setTop (mkF m 63 #[.val (.ref a1), .val (.double px), .second, .val (.int (bif (ifCond.holds .le (cmpValue (FP.dcmp px pmin) .l)) then (0 : Int32) else (1 : Int32))), .unset] [])) _
        refine XS.dloadN X3.here hx rfl (hb hby dprog_1_method_6_code_63) rfl ?_
        show Steps p.tables e below (T3.setTop (mkF m 64 #[.val (.ref a1), .val (.double px), .second, .val (.int (bif (ifCond.holds .le (cmpValue (FP.dcmp px pmin) .l)) then (0 : Int32) else (1 : Int32))), .unset] [(.double px)])) _
        refine XS.aloadN X3.here hx rfl (hb hby dprog_1_method_6_code_64) rfl rfl ?_
        show Steps p.tables e below (T3.setTop (mkF m 65 #[.val (.ref a1), .val (.double px), .second, .val (.int (bif (ifCond.holds .le (cmpValue (FP.dcmp px pmin) .l)) then (0 : Int32) else (1 : Int32))), .unset] [(.ref a1), (.double px)])) _
        refine st4 _ ?_
        show Steps p.tables e below (T4.setTop (mkF m 68 #[.val (.ref a1), .val (.double px), .second, .val (.int (bif (ifCond.holds .le (cmpValue (FP.dcmp px pmin) .l)) then (0 : Int32) else (1 : Int32))), .unset] [(.double pmax), (.double px)])) _
        refine XS.dcmpS X4.here hx rfl (hb hby dprog_1_method_6_code_68) rfl rfl ?_
        show Steps p.tables e below (T4.setTop (mkF m 69 #[.val (.ref a1), .val (.double px), .second, .val (.int (bif (ifCond.holds .le (cmpValue (FP.dcmp px pmin) .l)) then (0 : Int32) else (1 : Int32))), .unset] [(.int (cmpValue (FP.dcmp px pmax) .g))])) _
        refine sg_ct_69_77 X4 hx hZ hw hby hown ?_
        show Steps p.tables e below (T4.setTop (mkF m 77 #[.val (.ref a1), .val (.double px), .second, .val (.int (bif (ifCond.holds .le (cmpValue (FP.dcmp px pmin) .l)) then (0 : Int32) else (1 : Int32))), .unset] [(.int (bif (ifCond.holds .ge (cmpValue (FP.dcmp px pmax) .g)) then (0 : Int32) else (1 : Int32)))])) _
        refine XS.istore X4.here hx rfl (hb hby dprog_1_method_6_code_77) rfl (l' := #[.val (.ref a1), .val (.double px), .second, .val (.int (bif (ifCond.holds .le (cmpValue (FP.dcmp px pmin) .l)) then (0 : Int32) else (1 : Int32))), .val (.int (bif (ifCond.holds .ge (cmpValue (FP.dcmp px pmax) .g)) then (0 : Int32) else (1 : Int32)))]) rfl ?_
        show Steps p.tables e below (T4.setTop (mkF m 79 #[.val (.ref a1), .val (.double px), .second, .val (.int (bif (ifCond.holds .le (cmpValue (FP.dcmp px pmin) .l)) then (0 : Int32) else (1 : Int32))), .val (.int (bif (ifCond.holds .ge (cmpValue (FP.dcmp px pmax) .g)) then (0 : Int32) else (1 : Int32)))] [])) _
        refine sg_ct_79_101 X4 hx hZ hw hby hown ?_
        show Steps p.tables e below (T4.setTop (mkF m 101 #[.val (.ref a1), .val (.double px), .second, .val (.int (bif (ifCond.holds .le (cmpValue (FP.dcmp px pmin) .l)) then (0 : Int32) else (1 : Int32))), .val (.int (bif (ifCond.holds .ge (cmpValue (FP.dcmp px pmax) .g)) then (0 : Int32) else (1 : Int32)))] [(.int (bif (ifCond.holds .eq (bif (ifCond.holds .le (cmpValue (FP.dcmp px pmin) .l)) then (0 : Int32) else (1 : Int32))) then (0 : Int32) else (bif (ifCond.holds .eq (bif (ifCond.holds .ge (cmpValue (FP.dcmp px pmax) .g)) then (0 : Int32) else (1 : Int32))) then (0 : Int32) else (bif (ifCond.holds .ge (cmpValue (FP.dcmp px (9218868437227405312 : UInt64)) .g)) then (0 : Int32) else (1 : Int32)))))])) _
        exact retN X4 hx (t := .boolean) Bd.returns (by simp) (hb hby dprog_1_method_6_code_101) hr
      · show Qct Z a1 pmin imin pmax imax px h0 n0 _ T4.heap _
        rw [e4]
        exact ⟨congrArg (fun z => some (Value.int z)) (by unfold own_cont own_lo own_hi own_and; rw [hc4, hc43]; exact own_nar3 _ _ _), N0, rfl⟩
    · obtain ⟨T5, X5, e5, st5⟩ := getF X3 hx hZ hown (host := "") (Or.inl (hw _ (List.mem_of_getElem? (i := 20) rfl))) Via.refl e3 F_max (g := (mkF m 48 #[.val (.ref a1), .val (.double px), .second, .val (.int (bif (ifCond.holds .le (cmpValue (FP.dcmp px pmin) .l)) then (0 : Int32) else (1 : Int32))), .unset] [(.ref a1), (.double px)])) rfl rfl (hb hby dprog_1_method_6_code_48)
      obtain ⟨fs, hr, hrun, hended, hW, hsame⟩ := X5.leave (v := some (.int (nar .boolean (bif (ifCond.holds .eq (bif (ifCond.holds .le (cmpValue (FP.dcmp px pmin) .l)) then (0 : Int32) else (1 : Int32))) then (0 : Int32) else (bif (ifCond.holds .eq (bif (ifCond.holds .gt (cmpValue (FP.dcmp px pmax) .g)) then (0 : Int32) else (1 : Int32))) then (0 : Int32) else (bif (ifCond.holds .ge (cmpValue (FP.dcmp px (9218868437227405312 : UInt64)) .g)) then (0 : Int32) else (1 : Int32))))))) (fun h => by rw [Bd.returns] at h; cases h)
      refine ⟨_, _, pre0 _ ?_, hrun, hended, _, _, rfl, ?_, ⟨_, rfl⟩, hW, hsame.mono (by decide) (by decide)⟩
      · show Steps p.tables e below (s₁.setTop (mkF m 0 #[.val (.ref a1), .val (.double px), .second, .unset, .unset] [])) _
        refine XS.aloadN X0.here hx rfl (hb hby dprog_1_method_6_code_0) rfl rfl ?_
        show Steps p.tables e below (s₁.setTop (mkF m 1 #[.val (.ref a1), .val (.double px), .second, .unset, .unset] [(.ref a1)])) _
        refine st1 _ ?_
        show Steps p.tables e below (T1.setTop (mkF m 4 #[.val (.ref a1), .val (.double px), .second, .unset, .unset] [(.int imin)])) _
        refine XS.ifYes X1.here hx rfl (pc0 := 4) (pc' := 24) rfl (hb hby dprog_1_method_6_code_4) rfl hc4 (by decide) (by decide) ?_
        show Steps p.tables e below (T1.setTop (mkF m 24 #[.val (.ref a1), .val (.double px), .second, .unset, .unset] [])) _
        refine XS.dloadN X1.here hx rfl (hb hby dprog_1_method_6_code_24) rfl ?_
        show Steps p.tables e below (T1.setTop (mkF m 25 #[.val (.ref a1), .val (.double px), .second, .unset, .unset] [(.double px)])) _
        refine XS.aloadN X1.here hx rfl (hb hby dprog_1_method_6_code_25) rfl rfl ?_
        show Steps p.tables e below (T1.setTop (mkF m 26 #[.val (.ref a1), .val (.double px), .second, .unset, .unset] [(.ref a1), (.double px)])) _
        refine st2 _ ?_
        show Steps p.tables e below (T2.setTop (mkF m 29 #[.val (.ref a1), .val (.double px), .second, .unset, .unset] [(.double pmin), (.double px)])) _
        refine XS.dcmpS X2.here hx rfl (hb hby dprog_1_method_6_code_29) rfl rfl ?_
        show Steps p.tables e below (T2.setTop (mkF m 30 #[.val (.ref a1), .val (.double px), .second, .unset, .unset] [(.int (cmpValue (FP.dcmp px pmin) .l))])) _
        refine sg_ct_30_38 X2 hx hZ hw hby hown ?_
        show Steps p.tables e below (T2.setTop (mkF m 38 #[.val (.ref a1), .val (.double px), .second, .unset, .unset] [(.int (bif (ifCond.holds .le (cmpValue (FP.dcmp px pmin) .l)) then (0 : Int32) else (1 : Int32)))])) _
        refine XS.istoreN X2.here hx rfl (hb hby dprog_1_method_6_code_38) rfl (l' := #[.val (.ref a1), .val (.double px), .second, .val (.int (bif (ifCond.holds .le (cmpValue (FP.dcmp px pmin) .l)) then (0 : Int32) else (1 : Int32))), .unset]) rfl ?_
        show Steps p.tables e below (T2.setTop (mkF m 39 #[.val (.ref a1), .val (.double px), .second, .val (.int (bif (ifCond.holds .le (cmpValue (FP.dcmp px pmin) .l)) then (0 : Int32) else (1 : Int32))), .unset] [])) _
        refine XS.aloadN X2.here hx rfl (hb hby dprog_1_method_6_code_39) rfl rfl ?_
        show Steps p.tables e below (T2.setTop (mkF m 40 #[.val (.ref a1), .val (.double px), .second, .val (.int (bif (ifCond.holds .le (cmpValue (FP.dcmp px pmin) .l)) then (0 : Int32) else (1 : Int32))), .unset] [(.ref a1)])) _
        refine st3 _ ?_
        show Steps p.tables e below (T3.setTop (mkF m 43 #[.val (.ref a1), .val (.double px), .second, .val (.int (bif (ifCond.holds .le (cmpValue (FP.dcmp px pmin) .l)) then (0 : Int32) else (1 : Int32))), .unset] [(.int imax)])) _
        refine XS.ifNo X3.here hx rfl (hb hby dprog_1_method_6_code_43) rfl hc43 ?_
        show Steps p.tables e below (T3.setTop (mkF m 46 #[.val (.ref a1), .val (.double px), .second, .val (.int (bif (ifCond.holds .le (cmpValue (FP.dcmp px pmin) .l)) then (0 : Int32) else (1 : Int32))), .unset] [])) _
        refine XS.dloadN X3.here hx rfl (hb hby dprog_1_method_6_code_46) rfl ?_
        show Steps p.tables e below (T3.setTop (mkF m 47 #[.val (.ref a1), .val (.double px), .second, .val (.int (bif (ifCond.holds .le (cmpValue (FP.dcmp px pmin) .l)) then (0 : Int32) else (1 : Int32))), .unset] [(.double px)])) _
        refine XS.aloadN X3.here hx rfl (hb hby dprog_1_method_6_code_47) rfl rfl ?_
        show Steps p.tables e below (T3.setTop (mkF m 48 #[.val (.ref a1), .val (.double px), .second, .val (.int (bif (ifCond.holds .le (cmpValue (FP.dcmp px pmin) .l)) then (0 : Int32) else (1 : Int32))), .unset] [(.ref a1), (.double px)])) _
        refine st5 _ ?_
        show Steps p.tables e below (T5.setTop (mkF m 51 #[.val (.ref a1), .val (.double px), .second, .val (.int (bif (ifCond.holds .le (cmpValue (FP.dcmp px pmin) .l)) then (0 : Int32) else (1 : Int32))), .unset] [(.double pmax), (.double px)])) _
        refine XS.dcmpS X5.here hx rfl (hb hby dprog_1_method_6_code_51) rfl rfl ?_
        show Steps p.tables e below (T5.setTop (mkF m 52 #[.val (.ref a1), .val (.double px), .second, .val (.int (bif (ifCond.holds .le (cmpValue (FP.dcmp px pmin) .l)) then (0 : Int32) else (1 : Int32))), .unset] [(.int (cmpValue (FP.dcmp px pmax) .g))])) _
        refine sg_ct_52_77 X5 hx hZ hw hby hown ?_
        show Steps p.tables e below (T5.setTop (mkF m 77 #[.val (.ref a1), .val (.double px), .second, .val (.int (bif (ifCond.holds .le (cmpValue (FP.dcmp px pmin) .l)) then (0 : Int32) else (1 : Int32))), .unset] [(.int (bif (ifCond.holds .gt (cmpValue (FP.dcmp px pmax) .g)) then (0 : Int32) else (1 : Int32)))])) _
        refine XS.istore X5.here hx rfl (hb hby dprog_1_method_6_code_77) rfl (l' := #[.val (.ref a1), .val (.double px), .second, .val (.int (bif (ifCond.holds .le (cmpValue (FP.dcmp px pmin) .l)) then (0 : Int32) else (1 : Int32))), .val (.int (bif (ifCond.holds .gt (cmpValue (FP.dcmp px pmax) .g)) then (0 : Int32) else (1 : Int32)))]) rfl ?_
        show Steps p.tables e below (T5.setTop (mkF m 79 #[.val (.ref a1), .val (.double px), .second, .val (.int (bif (ifCond.holds .le (cmpValue (FP.dcmp px pmin) .l)) then (0 : Int32) else (1 : Int32))), .val (.int (bif (ifCond.holds .gt (cmpValue (FP.dcmp px pmax) .g)) then (0 : Int32) else (1 : Int32)))] [])) _
        refine sg_ct_79_101_1 X5 hx hZ hw hby hown ?_
        show Steps p.tables e below (T5.setTop (mkF m 101 #[.val (.ref a1), .val (.double px), .second, .val (.int (bif (ifCond.holds .le (cmpValue (FP.dcmp px pmin) .l)) then (0 : Int32) else (1 : Int32))), .val (.int (bif (ifCond.holds .gt (cmpValue (FP.dcmp px pmax) .g)) then (0 : Int32) else (1 : Int32)))] [(.int (bif (ifCond.holds .eq (bif (ifCond.holds .le (cmpValue (FP.dcmp px pmin) .l)) then (0 : Int32) else (1 : Int32))) then (0 : Int32) else (bif (ifCond.holds .eq (bif (ifCond.holds .gt (cmpValue (FP.dcmp px pmax) .g)) then (0 : Int32) else (1 : Int32))) then (0 : Int32) else (bif (ifCond.holds .ge (cmpValue (FP.dcmp px (9218868437227405312 : UInt64)) .g)) then (0 : Int32) else (1 : Int32)))))])) _
        exact retN X5 hx (t := .boolean) Bd.returns (by simp) (hb hby dprog_1_method_6_code_101) hr
      · show Qct Z a1 pmin imin pmax imax px h0 n0 _ T5.heap _
        rw [e5]
        exact ⟨congrArg (fun z => some (Value.int z)) (by unfold own_cont own_lo own_hi own_and; rw [hc4, hc43]; exact own_nar3 _ _ _), N0, rfl⟩
  · obtain ⟨T6, X6, e6, st6⟩ := getF X1 hx hZ hown (host := "") (Or.inl (hw _ (List.mem_of_getElem? (i := 16) rfl))) Via.refl e1 F_min (g := (mkF m 9 #[.val (.ref a1), .val (.double px), .second, .unset, .unset] [(.ref a1), (.double px)])) rfl rfl (hb hby dprog_1_method_6_code_9)
    obtain ⟨T7, X7, e7, st7⟩ := getF X6 hx hZ hown (host := "") (Or.inl (hw _ (List.mem_of_getElem? (i := 22) rfl))) Via.refl e6 F_maxIncluded (g := (mkF m 40 #[.val (.ref a1), .val (.double px), .second, .val (.int (bif (ifCond.holds .lt (cmpValue (FP.dcmp px pmin) .l)) then (0 : Int32) else (1 : Int32))), .unset] [(.ref a1)])) rfl rfl (hb hby dprog_1_method_6_code_40)
    rcases Bool.eq_false_or_eq_true (ifCond.holds .eq imax) with hc43 | hc43
    · obtain ⟨T8, X8, e8, st8⟩ := getF X7 hx hZ hown (host := "") (Or.inl (hw _ (List.mem_of_getElem? (i := 20) rfl))) Via.refl e7 F_max (g := (mkF m 65 #[.val (.ref a1), .val (.double px), .second, .val (.int (bif (ifCond.holds .lt (cmpValue (FP.dcmp px pmin) .l)) then (0 : Int32) else (1 : Int32))), .unset] [(.ref a1), (.double px)])) rfl rfl (hb hby dprog_1_method_6_code_65)
      obtain ⟨fs, hr, hrun, hended, hW, hsame⟩ := X8.leave (v := some (.int (nar .boolean (bif (ifCond.holds .eq (bif (ifCond.holds .lt (cmpValue (FP.dcmp px pmin) .l)) then (0 : Int32) else (1 : Int32))) then (0 : Int32) else (bif (ifCond.holds .eq (bif (ifCond.holds .ge (cmpValue (FP.dcmp px pmax) .g)) then (0 : Int32) else (1 : Int32))) then (0 : Int32) else (bif (ifCond.holds .ge (cmpValue (FP.dcmp px (9218868437227405312 : UInt64)) .g)) then (0 : Int32) else (1 : Int32))))))) (fun h => by rw [Bd.returns] at h; cases h)
      refine ⟨_, _, pre0 _ ?_, hrun, hended, _, _, rfl, ?_, ⟨_, rfl⟩, hW, hsame.mono (by decide) (by decide)⟩
      · show Steps p.tables e below (s₁.setTop (mkF m 0 #[.val (.ref a1), .val (.double px), .second, .unset, .unset] [])) _
        refine XS.aloadN X0.here hx rfl (hb hby dprog_1_method_6_code_0) rfl rfl ?_
        show Steps p.tables e below (s₁.setTop (mkF m 1 #[.val (.ref a1), .val (.double px), .second, .unset, .unset] [(.ref a1)])) _
        refine st1 _ ?_
        show Steps p.tables e below (T1.setTop (mkF m 4 #[.val (.ref a1), .val (.double px), .second, .unset, .unset] [(.int imin)])) _
        refine XS.ifNo X1.here hx rfl (hb hby dprog_1_method_6_code_4) rfl hc4 ?_
        show Steps p.tables e below (T1.setTop (mkF m 7 #[.val (.ref a1), .val (.double px), .second, .unset, .unset] [])) _
        refine XS.dloadN X1.here hx rfl (hb hby dprog_1_method_6_code_7) rfl ?_
        show Steps p.tables e below (T1.setTop (mkF m 8 #[.val (.ref a1), .val (.double px), .second, .unset, .unset] [(.double px)])) _
        refine XS.aloadN X1.here hx rfl (hb hby dprog_1_method_6_code_8) rfl rfl ?_
        show Steps p.tables e below (T1.setTop (mkF m 9 #[.val (.ref a1), .val (.double px), .second, .unset, .unset] [(.ref a1), (.double px)])) _
        refine st6 _ ?_
        show Steps p.tables e below (T6.setTop (mkF m 12 #[.val (.ref a1), .val (.double px), .second, .unset, .unset] [(.double pmin), (.double px)])) _
        refine XS.dcmpS X6.here hx rfl (hb hby dprog_1_method_6_code_12) rfl rfl ?_
        show Steps p.tables e below (T6.setTop (mkF m 13 #[.val (.ref a1), .val (.double px), .second, .unset, .unset] [(.int (cmpValue (FP.dcmp px pmin) .l))])) _
        refine sg_ct_13_38 X6 hx hZ hw hby hown ?_
        show Steps p.tables e below (T6.setTop (mkF m 38 #[.val (.ref a1), .val (.double px), .second, .unset, .unset] [(.int (bif (ifCond.holds .lt (cmpValue (FP.dcmp px pmin) .l)) then (0 : Int32) else (1 : Int32)))])) _
        refine XS.istoreN X6.here hx rfl (hb hby dprog_1_method_6_code_38) rfl (l' := #[.val (.ref a1), .val (.double px), .second, .val (.int (bif (ifCond.holds .lt (cmpValue (FP.dcmp px pmin) .l)) then (0 : Int32) else (1 : Int32))), .unset]) rfl ?_
        show Steps p.tables e below (T6.setTop (mkF m 39 #[.val (.ref a1), .val (.double px), .second, .val (.int (bif (ifCond.holds .lt (cmpValue (FP.dcmp px pmin) .l)) then (0 : Int32) else (1 : Int32))), .unset] [])) _
        refine XS.aloadN X6.here hx rfl (hb hby dprog_1_method_6_code_39) rfl rfl ?_
        show Steps p.tables e below (T6.setTop (mkF m 40 #[.val (.ref a1), .val (.double px), .second, .val (.int (bif (ifCond.holds .lt (cmpValue (FP.dcmp px pmin) .l)) then (0 : Int32) else (1 : Int32))), .unset] [(.ref a1)])) _
        refine st7 _ ?_
        show Steps p.tables e below (T7.setTop (mkF m 43 #[.val (.ref a1), .val (.double px), .second, .val (.int (bif (ifCond.holds .lt (cmpValue (FP.dcmp px pmin) .l)) then (0 : Int32) else (1 : Int32))), .unset] [(.int imax)])) _
        refine XS.ifYes X7.here hx rfl (pc0 := 43) (pc' := 63) rfl (hb hby dprog_1_method_6_code_43) rfl hc43 (by decide) (by decide) ?_
        show Steps p.tables e below (T7.setTop (mkF m 63 #[.val (.ref a1), .val (.double px), .second, .val (.int (bif (ifCond.holds .lt (cmpValue (FP.dcmp px pmin) .l)) then (0 : Int32) else (1 : Int32))), .unset] [])) _
        refine XS.dloadN X7.here hx rfl (hb hby dprog_1_method_6_code_63) rfl ?_
        show Steps p.tables e below (T7.setTop (mkF m 64 #[.val (.ref a1), .val (.double px), .second, .val (.int (bif (ifCond.holds .lt (cmpValue (FP.dcmp px pmin) .l)) then (0 : Int32) else (1 : Int32))), .unset] [(.double px)])) _
        refine XS.aloadN X7.here hx rfl (hb hby dprog_1_method_6_code_64) rfl rfl ?_
        show Steps p.tables e below (T7.setTop (mkF m 65 #[.val (.ref a1), .val (.double px), .second, .val (.int (bif (ifCond.holds .lt (cmpValue (FP.dcmp px pmin) .l)) then (0 : Int32) else (1 : Int32))), .unset] [(.ref a1), (.double px)])) _
        refine st8 _ ?_
        show Steps p.tables e below (T8.setTop (mkF m 68 #[.val (.ref a1), .val (.double px), .second, .val (.int (bif (ifCond.holds .lt (cmpValue (FP.dcmp px pmin) .l)) then (0 : Int32) else (1 : Int32))), .unset] [(.double pmax), (.double px)])) _
        refine XS.dcmpS X8.here hx rfl (hb hby dprog_1_method_6_code_68) rfl rfl ?_
        show Steps p.tables e below (T8.setTop (mkF m 69 #[.val (.ref a1), .val (.double px), .second, .val (.int (bif (ifCond.holds .lt (cmpValue (FP.dcmp px pmin) .l)) then (0 : Int32) else (1 : Int32))), .unset] [(.int (cmpValue (FP.dcmp px pmax) .g))])) _
        refine sg_ct_69_77_1 X8 hx hZ hw hby hown ?_
        show Steps p.tables e below (T8.setTop (mkF m 77 #[.val (.ref a1), .val (.double px), .second, .val (.int (bif (ifCond.holds .lt (cmpValue (FP.dcmp px pmin) .l)) then (0 : Int32) else (1 : Int32))), .unset] [(.int (bif (ifCond.holds .ge (cmpValue (FP.dcmp px pmax) .g)) then (0 : Int32) else (1 : Int32)))])) _
        refine XS.istore X8.here hx rfl (hb hby dprog_1_method_6_code_77) rfl (l' := #[.val (.ref a1), .val (.double px), .second, .val (.int (bif (ifCond.holds .lt (cmpValue (FP.dcmp px pmin) .l)) then (0 : Int32) else (1 : Int32))), .val (.int (bif (ifCond.holds .ge (cmpValue (FP.dcmp px pmax) .g)) then (0 : Int32) else (1 : Int32)))]) rfl ?_
        show Steps p.tables e below (T8.setTop (mkF m 79 #[.val (.ref a1), .val (.double px), .second, .val (.int (bif (ifCond.holds .lt (cmpValue (FP.dcmp px pmin) .l)) then (0 : Int32) else (1 : Int32))), .val (.int (bif (ifCond.holds .ge (cmpValue (FP.dcmp px pmax) .g)) then (0 : Int32) else (1 : Int32)))] [])) _
        refine sg_ct_79_101_2 X8 hx hZ hw hby hown ?_
        show Steps p.tables e below (T8.setTop (mkF m 101 #[.val (.ref a1), .val (.double px), .second, .val (.int (bif (ifCond.holds .lt (cmpValue (FP.dcmp px pmin) .l)) then (0 : Int32) else (1 : Int32))), .val (.int (bif (ifCond.holds .ge (cmpValue (FP.dcmp px pmax) .g)) then (0 : Int32) else (1 : Int32)))] [(.int (bif (ifCond.holds .eq (bif (ifCond.holds .lt (cmpValue (FP.dcmp px pmin) .l)) then (0 : Int32) else (1 : Int32))) then (0 : Int32) else (bif (ifCond.holds .eq (bif (ifCond.holds .ge (cmpValue (FP.dcmp px pmax) .g)) then (0 : Int32) else (1 : Int32))) then (0 : Int32) else (bif (ifCond.holds .ge (cmpValue (FP.dcmp px (9218868437227405312 : UInt64)) .g)) then (0 : Int32) else (1 : Int32)))))])) _
        exact retN X8 hx (t := .boolean) Bd.returns (by simp) (hb hby dprog_1_method_6_code_101) hr
      · show Qct Z a1 pmin imin pmax imax px h0 n0 _ T8.heap _
        rw [e8]
        exact ⟨congrArg (fun z => some (Value.int z)) (by unfold own_cont own_lo own_hi own_and; rw [hc4, hc43]; exact own_nar3 _ _ _), N0, rfl⟩
    · obtain ⟨T9, X9, e9, st9⟩ := getF X7 hx hZ hown (host := "") (Or.inl (hw _ (List.mem_of_getElem? (i := 20) rfl))) Via.refl e7 F_max (g := (mkF m 48 #[.val (.ref a1), .val (.double px), .second, .val (.int (bif (ifCond.holds .lt (cmpValue (FP.dcmp px pmin) .l)) then (0 : Int32) else (1 : Int32))), .unset] [(.ref a1), (.double px)])) rfl rfl (hb hby dprog_1_method_6_code_48)
      obtain ⟨fs, hr, hrun, hended, hW, hsame⟩ := X9.leave (v := some (.int (nar .boolean (bif (ifCond.holds .eq (bif (ifCond.holds .lt (cmpValue (FP.dcmp px pmin) .l)) then (0 : Int32) else (1 : Int32))) then (0 : Int32) else (bif (ifCond.holds .eq (bif (ifCond.holds .gt (cmpValue (FP.dcmp px pmax) .g)) then (0 : Int32) else (1 : Int32))) then (0 : Int32) else (bif (ifCond.holds .ge (cmpValue (FP.dcmp px (9218868437227405312 : UInt64)) .g)) then (0 : Int32) else (1 : Int32))))))) (fun h => by rw [Bd.returns] at h; cases h)
      refine ⟨_, _, pre0 _ ?_, hrun, hended, _, _, rfl, ?_, ⟨_, rfl⟩, hW, hsame.mono (by decide) (by decide)⟩
      · show Steps p.tables e below (s₁.setTop (mkF m 0 #[.val (.ref a1), .val (.double px), .second, .unset, .unset] [])) _
        refine XS.aloadN X0.here hx rfl (hb hby dprog_1_method_6_code_0) rfl rfl ?_
        show Steps p.tables e below (s₁.setTop (mkF m 1 #[.val (.ref a1), .val (.double px), .second, .unset, .unset] [(.ref a1)])) _
        refine st1 _ ?_
        show Steps p.tables e below (T1.setTop (mkF m 4 #[.val (.ref a1), .val (.double px), .second, .unset, .unset] [(.int imin)])) _
        refine XS.ifNo X1.here hx rfl (hb hby dprog_1_method_6_code_4) rfl hc4 ?_
        show Steps p.tables e below (T1.setTop (mkF m 7 #[.val (.ref a1), .val (.double px), .second, .unset, .unset] [])) _
        refine XS.dloadN X1.here hx rfl (hb hby dprog_1_method_6_code_7) rfl ?_
        show Steps p.tables e below (T1.setTop (mkF m 8 #[.val (.ref a1), .val (.double px), .second, .unset, .unset] [(.double px)])) _
        refine XS.aloadN X1.here hx rfl (hb hby dprog_1_method_6_code_8) rfl rfl ?_
        show Steps p.tables e below (T1.setTop (mkF m 9 #[.val (.ref a1), .val (.double px), .second, .unset, .unset] [(.ref a1), (.double px)])) _
        refine st6 _ ?_
        show Steps p.tables e below (T6.setTop (mkF m 12 #[.val (.ref a1), .val (.double px), .second, .unset, .unset] [(.double pmin), (.double px)])) _
        refine XS.dcmpS X6.here hx rfl (hb hby dprog_1_method_6_code_12) rfl rfl ?_
        show Steps p.tables e below (T6.setTop (mkF m 13 #[.val (.ref a1), .val (.double px), .second, .unset, .unset] [(.int (cmpValue (FP.dcmp px pmin) .l))])) _
        refine sg_ct_13_38 X6 hx hZ hw hby hown ?_
        show Steps p.tables e below (T6.setTop (mkF m 38 #[.val (.ref a1), .val (.double px), .second, .unset, .unset] [(.int (bif (ifCond.holds .lt (cmpValue (FP.dcmp px pmin) .l)) then (0 : Int32) else (1 : Int32)))])) _
        refine XS.istoreN X6.here hx rfl (hb hby dprog_1_method_6_code_38) rfl (l' := #[.val (.ref a1), .val (.double px), .second, .val (.int (bif (ifCond.holds .lt (cmpValue (FP.dcmp px pmin) .l)) then (0 : Int32) else (1 : Int32))), .unset]) rfl ?_
        show Steps p.tables e below (T6.setTop (mkF m 39 #[.val (.ref a1), .val (.double px), .second, .val (.int (bif (ifCond.holds .lt (cmpValue (FP.dcmp px pmin) .l)) then (0 : Int32) else (1 : Int32))), .unset] [])) _
        refine XS.aloadN X6.here hx rfl (hb hby dprog_1_method_6_code_39) rfl rfl ?_
        show Steps p.tables e below (T6.setTop (mkF m 40 #[.val (.ref a1), .val (.double px), .second, .val (.int (bif (ifCond.holds .lt (cmpValue (FP.dcmp px pmin) .l)) then (0 : Int32) else (1 : Int32))), .unset] [(.ref a1)])) _
        refine st7 _ ?_
        show Steps p.tables e below (T7.setTop (mkF m 43 #[.val (.ref a1), .val (.double px), .second, .val (.int (bif (ifCond.holds .lt (cmpValue (FP.dcmp px pmin) .l)) then (0 : Int32) else (1 : Int32))), .unset] [(.int imax)])) _
        refine XS.ifNo X7.here hx rfl (hb hby dprog_1_method_6_code_43) rfl hc43 ?_
        show Steps p.tables e below (T7.setTop (mkF m 46 #[.val (.ref a1), .val (.double px), .second, .val (.int (bif (ifCond.holds .lt (cmpValue (FP.dcmp px pmin) .l)) then (0 : Int32) else (1 : Int32))), .unset] [])) _
        refine XS.dloadN X7.here hx rfl (hb hby dprog_1_method_6_code_46) rfl ?_
        show Steps p.tables e below (T7.setTop (mkF m 47 #[.val (.ref a1), .val (.double px), .second, .val (.int (bif (ifCond.holds .lt (cmpValue (FP.dcmp px pmin) .l)) then (0 : Int32) else (1 : Int32))), .unset] [(.double px)])) _
        refine XS.aloadN X7.here hx rfl (hb hby dprog_1_method_6_code_47) rfl rfl ?_
        show Steps p.tables e below (T7.setTop (mkF m 48 #[.val (.ref a1), .val (.double px), .second, .val (.int (bif (ifCond.holds .lt (cmpValue (FP.dcmp px pmin) .l)) then (0 : Int32) else (1 : Int32))), .unset] [(.ref a1), (.double px)])) _
        refine st9 _ ?_
        show Steps p.tables e below (T9.setTop (mkF m 51 #[.val (.ref a1), .val (.double px), .second, .val (.int (bif (ifCond.holds .lt (cmpValue (FP.dcmp px pmin) .l)) then (0 : Int32) else (1 : Int32))), .unset] [(.double pmax), (.double px)])) _
        refine XS.dcmpS X9.here hx rfl (hb hby dprog_1_method_6_code_51) rfl rfl ?_
        show Steps p.tables e below (T9.setTop (mkF m 52 #[.val (.ref a1), .val (.double px), .second, .val (.int (bif (ifCond.holds .lt (cmpValue (FP.dcmp px pmin) .l)) then (0 : Int32) else (1 : Int32))), .unset] [(.int (cmpValue (FP.dcmp px pmax) .g))])) _
        refine sg_ct_52_77_1 X9 hx hZ hw hby hown ?_
        show Steps p.tables e below (T9.setTop (mkF m 77 #[.val (.ref a1), .val (.double px), .second, .val (.int (bif (ifCond.holds .lt (cmpValue (FP.dcmp px pmin) .l)) then (0 : Int32) else (1 : Int32))), .unset] [(.int (bif (ifCond.holds .gt (cmpValue (FP.dcmp px pmax) .g)) then (0 : Int32) else (1 : Int32)))])) _
        refine XS.istore X9.here hx rfl (hb hby dprog_1_method_6_code_77) rfl (l' := #[.val (.ref a1), .val (.double px), .second, .val (.int (bif (ifCond.holds .lt (cmpValue (FP.dcmp px pmin) .l)) then (0 : Int32) else (1 : Int32))), .val (.int (bif (ifCond.holds .gt (cmpValue (FP.dcmp px pmax) .g)) then (0 : Int32) else (1 : Int32)))]) rfl ?_
        show Steps p.tables e below (T9.setTop (mkF m 79 #[.val (.ref a1), .val (.double px), .second, .val (.int (bif (ifCond.holds .lt (cmpValue (FP.dcmp px pmin) .l)) then (0 : Int32) else (1 : Int32))), .val (.int (bif (ifCond.holds .gt (cmpValue (FP.dcmp px pmax) .g)) then (0 : Int32) else (1 : Int32)))] [])) _
        refine sg_ct_79_101_3 X9 hx hZ hw hby hown ?_
        show Steps p.tables e below (T9.setTop (mkF m 101 #[.val (.ref a1), .val (.double px), .second, .val (.int (bif (ifCond.holds .lt (cmpValue (FP.dcmp px pmin) .l)) then (0 : Int32) else (1 : Int32))), .val (.int (bif (ifCond.holds .gt (cmpValue (FP.dcmp px pmax) .g)) then (0 : Int32) else (1 : Int32)))] [(.int (bif (ifCond.holds .eq (bif (ifCond.holds .lt (cmpValue (FP.dcmp px pmin) .l)) then (0 : Int32) else (1 : Int32))) then (0 : Int32) else (bif (ifCond.holds .eq (bif (ifCond.holds .gt (cmpValue (FP.dcmp px pmax) .g)) then (0 : Int32) else (1 : Int32))) then (0 : Int32) else (bif (ifCond.holds .ge (cmpValue (FP.dcmp px (9218868437227405312 : UInt64)) .g)) then (0 : Int32) else (1 : Int32)))))])) _
        exact retN X9 hx (t := .boolean) Bd.returns (by simp) (hb hby dprog_1_method_6_code_101) hr
      · show Qct Z a1 pmin imin pmax imax px h0 n0 _ T9.heap _
        rw [e9]
        exact ⟨congrArg (fun z => some (Value.int z)) (by unfold own_cont own_lo own_hi own_and; rw [hc4, hc43]; exact own_nar3 _ _ _), N0, rfl⟩
theorem pn_2 : plainName "com/example/mynegai/mynegai/command/DecimalRangeContainsPinLaw" = true := by first | (simp [plainName, overriddenIn]; done) | decide +kernel
theorem pd_1 : parseMethodDescriptor "(DZDZ)V" = some ⟨[.double, .boolean, .double, .boolean], none⟩ := by decide +kernel
theorem pd_2 : parseMethodDescriptor "(D)Z" = some ⟨[.double], some .boolean⟩ := by decide +kernel
theorem ef_0 (m : MethodId) (x0 : Int32) (x1 : Int32) (x2 : Int32) (x3 : Int32) (x4 : Int32) : entryFrame m #[(.int x0), (.int x1), (.int x2), (.int x3), (.int x4)] maxLocals = mkF m 0 #[.val (.int x0), .val (.int x1), .val (.int x2), .val (.int x3), .val (.int x4), .unset, .unset, .unset, .unset, .unset, .unset, .unset, .unset, .unset, .unset, .unset, .unset, .unset, .unset, .unset, .unset, .unset, .unset, .unset, .unset] [] := by first | (simp [entryFrame, mkF, argsToLocals, Value.category, maxLocals]; done) | rfl
set_option maxRecDepth 65536 in
set_option maxHeartbeats 4000000 in
theorem sg_0_0_12 {p : Program} {l : Launch} {e : Env} {R : Room} {s : State} {m : MethodId} {args : Array Value} {below : List Frame} {meth : Method} {c : Code} {T : State} {locs : List Loc} {cells slots : Nat} {Z : State} {a0 : Array Value} {target : State} {x0 : Int32} {x1 : Int32} {x2 : Int32} {x3 : Int32} {x4 : Int32} (X : Stand p l e R s m args below meth c T locs cells slots) (hx : p.tables.exec = Jvm.exec) (hZ : Z.Warmed39 s.vm) (hw : ∀ d ∈ tables_1, d.before a0 Z = true) (hby : c.code = code) (hown : s.vm.findClass "com/example/mynegai/mynegai/command/DecimalRangeContainsPinLaw" = some m.cls)
    (k : Steps p.tables e below (T.setTop (mkF m 12 #[.val (.int x0), .val (.int x1), .val (.int x2), .val (.int x3), .val (.int x4), .unset, .unset, .unset, .unset, .unset, .unset, .unset, .unset, .unset, .unset, .unset, .unset, .unset, .unset, .unset, .unset, .unset, .unset, .unset, .unset] [(.int (bif (ifCond.holds .eq (x4 &&& (1 : Int32))) then (0 : Int32) else (1 : Int32)))])) target) : Steps p.tables e below (T.setTop (mkF m 0 #[.val (.int x0), .val (.int x1), .val (.int x2), .val (.int x3), .val (.int x4), .unset, .unset, .unset, .unset, .unset, .unset, .unset, .unset, .unset, .unset, .unset, .unset, .unset, .unset, .unset, .unset, .unset, .unset, .unset, .unset] [])) target := by
  show Steps p.tables e below (T.setTop (mkF m 0 #[.val (.int x0), .val (.int x1), .val (.int x2), .val (.int x3), .val (.int x4), .unset, .unset, .unset, .unset, .unset, .unset, .unset, .unset, .unset, .unset, .unset, .unset, .unset, .unset, .unset, .unset, .unset, .unset, .unset, .unset] [])) _
  refine XS.iload X.here hx rfl (hb hby at_0) rfl ?_
  show Steps p.tables e below (T.setTop (mkF m 2 #[.val (.int x0), .val (.int x1), .val (.int x2), .val (.int x3), .val (.int x4), .unset, .unset, .unset, .unset, .unset, .unset, .unset, .unset, .unset, .unset, .unset, .unset, .unset, .unset, .unset, .unset, .unset, .unset, .unset, .unset] [(.int x4)])) _
  refine XS.iconst X.here hx rfl (hb hby at_2) ?_
  show Steps p.tables e below (T.setTop (mkF m 3 #[.val (.int x0), .val (.int x1), .val (.int x2), .val (.int x3), .val (.int x4), .unset, .unset, .unset, .unset, .unset, .unset, .unset, .unset, .unset, .unset, .unset, .unset, .unset, .unset, .unset, .unset, .unset, .unset, .unset, .unset] [(.int (1 : Int32)), (.int x4)])) _
  refine XS.iand X.here hx rfl (hb hby at_3) rfl ?_
  show Steps p.tables e below (T.setTop (mkF m 4 #[.val (.int x0), .val (.int x1), .val (.int x2), .val (.int x3), .val (.int x4), .unset, .unset, .unset, .unset, .unset, .unset, .unset, .unset, .unset, .unset, .unset, .unset, .unset, .unset, .unset, .unset, .unset, .unset, .unset, .unset] [(.int (x4 &&& (1 : Int32)))])) _
  rcases Bool.eq_false_or_eq_true (ifCond.holds .eq (x4 &&& (1 : Int32))) with hc1 | hc1
  · try rw [hc1] at k
    refine XS.ifYes X.here hx rfl (pc0 := 4) (pc' := 11) rfl (hb hby at_4) rfl hc1 (by decide) (by decide) ?_
    show Steps p.tables e below (T.setTop (mkF m 11 #[.val (.int x0), .val (.int x1), .val (.int x2), .val (.int x3), .val (.int x4), .unset, .unset, .unset, .unset, .unset, .unset, .unset, .unset, .unset, .unset, .unset, .unset, .unset, .unset, .unset, .unset, .unset, .unset, .unset, .unset] [])) _
    refine XS.iconst X.here hx rfl (hb hby at_11) ?_
    exact k
  · try rw [hc1] at k
    refine XS.ifNo X.here hx rfl (hb hby at_4) rfl hc1 ?_
    show Steps p.tables e below (T.setTop (mkF m 7 #[.val (.int x0), .val (.int x1), .val (.int x2), .val (.int x3), .val (.int x4), .unset, .unset, .unset, .unset, .unset, .unset, .unset, .unset, .unset, .unset, .unset, .unset, .unset, .unset, .unset, .unset, .unset, .unset, .unset, .unset] [])) _
    refine XS.iconst X.here hx rfl (hb hby at_7) ?_
    show Steps p.tables e below (T.setTop (mkF m 8 #[.val (.int x0), .val (.int x1), .val (.int x2), .val (.int x3), .val (.int x4), .unset, .unset, .unset, .unset, .unset, .unset, .unset, .unset, .unset, .unset, .unset, .unset, .unset, .unset, .unset, .unset, .unset, .unset, .unset, .unset] [(.int (1 : Int32))])) _
    refine XS.goto X.here hx rfl (pc0 := 8) (pc' := 12) rfl (hb hby at_8) (by decide) (by decide) ?_
    exact k
set_option maxRecDepth 65536 in
set_option maxHeartbeats 4000000 in
theorem sg_0_14_26 {p : Program} {l : Launch} {e : Env} {R : Room} {s : State} {m : MethodId} {args : Array Value} {below : List Frame} {meth : Method} {c : Code} {T : State} {locs : List Loc} {cells slots : Nat} {Z : State} {a0 : Array Value} {target : State} {x0 : Int32} {x1 : Int32} {x2 : Int32} {x3 : Int32} {x4 : Int32} {x5 : Int32} (X : Stand p l e R s m args below meth c T locs cells slots) (hx : p.tables.exec = Jvm.exec) (hZ : Z.Warmed39 s.vm) (hw : ∀ d ∈ tables_1, d.before a0 Z = true) (hby : c.code = code) (hown : s.vm.findClass "com/example/mynegai/mynegai/command/DecimalRangeContainsPinLaw" = some m.cls)
    (k : Steps p.tables e below (T.setTop (mkF m 26 #[.val (.int x0), .val (.int x1), .val (.int x2), .val (.int x3), .val (.int x4), .val (.int x5), .unset, .unset, .unset, .unset, .unset, .unset, .unset, .unset, .unset, .unset, .unset, .unset, .unset, .unset, .unset, .unset, .unset, .unset, .unset] [(.int (bif (ifCond.holds .eq (x4 &&& (2 : Int32))) then (0 : Int32) else (1 : Int32)))])) target) : Steps p.tables e below (T.setTop (mkF m 14 #[.val (.int x0), .val (.int x1), .val (.int x2), .val (.int x3), .val (.int x4), .val (.int x5), .unset, .unset, .unset, .unset, .unset, .unset, .unset, .unset, .unset, .unset, .unset, .unset, .unset, .unset, .unset, .unset, .unset, .unset, .unset] [])) target := by
  show Steps p.tables e below (T.setTop (mkF m 14 #[.val (.int x0), .val (.int x1), .val (.int x2), .val (.int x3), .val (.int x4), .val (.int x5), .unset, .unset, .unset, .unset, .unset, .unset, .unset, .unset, .unset, .unset, .unset, .unset, .unset, .unset, .unset, .unset, .unset, .unset, .unset] [])) _
  refine XS.iload X.here hx rfl (hb hby at_14) rfl ?_
  show Steps p.tables e below (T.setTop (mkF m 16 #[.val (.int x0), .val (.int x1), .val (.int x2), .val (.int x3), .val (.int x4), .val (.int x5), .unset, .unset, .unset, .unset, .unset, .unset, .unset, .unset, .unset, .unset, .unset, .unset, .unset, .unset, .unset, .unset, .unset, .unset, .unset] [(.int x4)])) _
  refine XS.iconst X.here hx rfl (hb hby at_16) ?_
  show Steps p.tables e below (T.setTop (mkF m 17 #[.val (.int x0), .val (.int x1), .val (.int x2), .val (.int x3), .val (.int x4), .val (.int x5), .unset, .unset, .unset, .unset, .unset, .unset, .unset, .unset, .unset, .unset, .unset, .unset, .unset, .unset, .unset, .unset, .unset, .unset, .unset] [(.int (2 : Int32)), (.int x4)])) _
  refine XS.iand X.here hx rfl (hb hby at_17) rfl ?_
  show Steps p.tables e below (T.setTop (mkF m 18 #[.val (.int x0), .val (.int x1), .val (.int x2), .val (.int x3), .val (.int x4), .val (.int x5), .unset, .unset, .unset, .unset, .unset, .unset, .unset, .unset, .unset, .unset, .unset, .unset, .unset, .unset, .unset, .unset, .unset, .unset, .unset] [(.int (x4 &&& (2 : Int32)))])) _
  rcases Bool.eq_false_or_eq_true (ifCond.holds .eq (x4 &&& (2 : Int32))) with hc1 | hc1
  · try rw [hc1] at k
    refine XS.ifYes X.here hx rfl (pc0 := 18) (pc' := 25) rfl (hb hby at_18) rfl hc1 (by decide) (by decide) ?_
    show Steps p.tables e below (T.setTop (mkF m 25 #[.val (.int x0), .val (.int x1), .val (.int x2), .val (.int x3), .val (.int x4), .val (.int x5), .unset, .unset, .unset, .unset, .unset, .unset, .unset, .unset, .unset, .unset, .unset, .unset, .unset, .unset, .unset, .unset, .unset, .unset, .unset] [])) _
    refine XS.iconst X.here hx rfl (hb hby at_25) ?_
    exact k
  · try rw [hc1] at k
    refine XS.ifNo X.here hx rfl (hb hby at_18) rfl hc1 ?_
    show Steps p.tables e below (T.setTop (mkF m 21 #[.val (.int x0), .val (.int x1), .val (.int x2), .val (.int x3), .val (.int x4), .val (.int x5), .unset, .unset, .unset, .unset, .unset, .unset, .unset, .unset, .unset, .unset, .unset, .unset, .unset, .unset, .unset, .unset, .unset, .unset, .unset] [])) _
    refine XS.iconst X.here hx rfl (hb hby at_21) ?_
    show Steps p.tables e below (T.setTop (mkF m 22 #[.val (.int x0), .val (.int x1), .val (.int x2), .val (.int x3), .val (.int x4), .val (.int x5), .unset, .unset, .unset, .unset, .unset, .unset, .unset, .unset, .unset, .unset, .unset, .unset, .unset, .unset, .unset, .unset, .unset, .unset, .unset] [(.int (1 : Int32))])) _
    refine XS.goto X.here hx rfl (pc0 := 22) (pc' := 26) rfl (hb hby at_22) (by decide) (by decide) ?_
    exact k
set_option maxRecDepth 65536 in
set_option maxHeartbeats 4000000 in
theorem sg_0_28_40 {p : Program} {l : Launch} {e : Env} {R : Room} {s : State} {m : MethodId} {args : Array Value} {below : List Frame} {meth : Method} {c : Code} {T : State} {locs : List Loc} {cells slots : Nat} {Z : State} {a0 : Array Value} {target : State} {x0 : Int32} {x1 : Int32} {x2 : Int32} {x3 : Int32} {x4 : Int32} {x5 : Int32} {x6 : Int32} (X : Stand p l e R s m args below meth c T locs cells slots) (hx : p.tables.exec = Jvm.exec) (hZ : Z.Warmed39 s.vm) (hw : ∀ d ∈ tables_1, d.before a0 Z = true) (hby : c.code = code) (hown : s.vm.findClass "com/example/mynegai/mynegai/command/DecimalRangeContainsPinLaw" = some m.cls)
    (k : Steps p.tables e below (T.setTop (mkF m 40 #[.val (.int x0), .val (.int x1), .val (.int x2), .val (.int x3), .val (.int x4), .val (.int x5), .val (.int x6), .unset, .unset, .unset, .unset, .unset, .unset, .unset, .unset, .unset, .unset, .unset, .unset, .unset, .unset, .unset, .unset, .unset, .unset] [(.int (bif (ifCond.holds .eq (x4 &&& (4 : Int32))) then (0 : Int32) else (1 : Int32)))])) target) : Steps p.tables e below (T.setTop (mkF m 28 #[.val (.int x0), .val (.int x1), .val (.int x2), .val (.int x3), .val (.int x4), .val (.int x5), .val (.int x6), .unset, .unset, .unset, .unset, .unset, .unset, .unset, .unset, .unset, .unset, .unset, .unset, .unset, .unset, .unset, .unset, .unset, .unset] [])) target := by
  show Steps p.tables e below (T.setTop (mkF m 28 #[.val (.int x0), .val (.int x1), .val (.int x2), .val (.int x3), .val (.int x4), .val (.int x5), .val (.int x6), .unset, .unset, .unset, .unset, .unset, .unset, .unset, .unset, .unset, .unset, .unset, .unset, .unset, .unset, .unset, .unset, .unset, .unset] [])) _
  refine XS.iload X.here hx rfl (hb hby at_28) rfl ?_
  show Steps p.tables e below (T.setTop (mkF m 30 #[.val (.int x0), .val (.int x1), .val (.int x2), .val (.int x3), .val (.int x4), .val (.int x5), .val (.int x6), .unset, .unset, .unset, .unset, .unset, .unset, .unset, .unset, .unset, .unset, .unset, .unset, .unset, .unset, .unset, .unset, .unset, .unset] [(.int x4)])) _
  refine XS.iconst X.here hx rfl (hb hby at_30) ?_
  show Steps p.tables e below (T.setTop (mkF m 31 #[.val (.int x0), .val (.int x1), .val (.int x2), .val (.int x3), .val (.int x4), .val (.int x5), .val (.int x6), .unset, .unset, .unset, .unset, .unset, .unset, .unset, .unset, .unset, .unset, .unset, .unset, .unset, .unset, .unset, .unset, .unset, .unset] [(.int (4 : Int32)), (.int x4)])) _
  refine XS.iand X.here hx rfl (hb hby at_31) rfl ?_
  show Steps p.tables e below (T.setTop (mkF m 32 #[.val (.int x0), .val (.int x1), .val (.int x2), .val (.int x3), .val (.int x4), .val (.int x5), .val (.int x6), .unset, .unset, .unset, .unset, .unset, .unset, .unset, .unset, .unset, .unset, .unset, .unset, .unset, .unset, .unset, .unset, .unset, .unset] [(.int (x4 &&& (4 : Int32)))])) _
  rcases Bool.eq_false_or_eq_true (ifCond.holds .eq (x4 &&& (4 : Int32))) with hc1 | hc1
  · try rw [hc1] at k
    refine XS.ifYes X.here hx rfl (pc0 := 32) (pc' := 39) rfl (hb hby at_32) rfl hc1 (by decide) (by decide) ?_
    show Steps p.tables e below (T.setTop (mkF m 39 #[.val (.int x0), .val (.int x1), .val (.int x2), .val (.int x3), .val (.int x4), .val (.int x5), .val (.int x6), .unset, .unset, .unset, .unset, .unset, .unset, .unset, .unset, .unset, .unset, .unset, .unset, .unset, .unset, .unset, .unset, .unset, .unset] [])) _
    refine XS.iconst X.here hx rfl (hb hby at_39) ?_
    exact k
  · try rw [hc1] at k
    refine XS.ifNo X.here hx rfl (hb hby at_32) rfl hc1 ?_
    show Steps p.tables e below (T.setTop (mkF m 35 #[.val (.int x0), .val (.int x1), .val (.int x2), .val (.int x3), .val (.int x4), .val (.int x5), .val (.int x6), .unset, .unset, .unset, .unset, .unset, .unset, .unset, .unset, .unset, .unset, .unset, .unset, .unset, .unset, .unset, .unset, .unset, .unset] [])) _
    refine XS.iconst X.here hx rfl (hb hby at_35) ?_
    show Steps p.tables e below (T.setTop (mkF m 36 #[.val (.int x0), .val (.int x1), .val (.int x2), .val (.int x3), .val (.int x4), .val (.int x5), .val (.int x6), .unset, .unset, .unset, .unset, .unset, .unset, .unset, .unset, .unset, .unset, .unset, .unset, .unset, .unset, .unset, .unset, .unset, .unset] [(.int (1 : Int32))])) _
    refine XS.goto X.here hx rfl (pc0 := 36) (pc' := 40) rfl (hb hby at_36) (by decide) (by decide) ?_
    exact k
set_option maxRecDepth 65536 in
set_option maxHeartbeats 4000000 in
theorem sg_0_64_78 {p : Program} {l : Launch} {e : Env} {R : Room} {s : State} {m : MethodId} {args : Array Value} {below : List Frame} {meth : Method} {c : Code} {T : State} {locs : List Loc} {cells slots : Nat} {Z : State} {a0 : Array Value} {target : State} {x0 : Int32} {x1 : Int32} {x2 : Int32} {x3 : Int32} {x4 : Int32} {x5 : Int32} {x6 : Int32} {x7 : Int32} {x8 : Int64} {x10 : Int64} {x12 : UInt64} (X : Stand p l e R s m args below meth c T locs cells slots) (hx : p.tables.exec = Jvm.exec) (hZ : Z.Warmed39 s.vm) (hw : ∀ d ∈ tables_1, d.before a0 Z = true) (hby : c.code = code) (hown : s.vm.findClass "com/example/mynegai/mynegai/command/DecimalRangeContainsPinLaw" = some m.cls)
    (k : Steps p.tables e below (T.setTop (mkF m 78 #[.val (.int x0), .val (.int x1), .val (.int x2), .val (.int x3), .val (.int x4), .val (.int x5), .val (.int x6), .val (.int x7), .val (.long x8), .second, .val (.long x10), .second, .val (.double x12), .second, .unset, .unset, .unset, .unset, .unset, .unset, .unset, .unset, .unset, .unset, .unset] [(.double (bif (ifCond.holds .eq x7) then (FP.l2d x10) else (9218868437227405312 : UInt64)))])) target) : Steps p.tables e below (T.setTop (mkF m 64 #[.val (.int x0), .val (.int x1), .val (.int x2), .val (.int x3), .val (.int x4), .val (.int x5), .val (.int x6), .val (.int x7), .val (.long x8), .second, .val (.long x10), .second, .val (.double x12), .second, .unset, .unset, .unset, .unset, .unset, .unset, .unset, .unset, .unset, .unset, .unset] [])) target := by
  show Steps p.tables e below (T.setTop (mkF m 64 #[.val (.int x0), .val (.int x1), .val (.int x2), .val (.int x3), .val (.int x4), .val (.int x5), .val (.int x6), .val (.int x7), .val (.long x8), .second, .val (.long x10), .second, .val (.double x12), .second, .unset, .unset, .unset, .unset, .unset, .unset, .unset, .unset, .unset, .unset, .unset] [])) _
  refine XS.iload X.here hx rfl (hb hby at_64) rfl ?_
  show Steps p.tables e below (T.setTop (mkF m 66 #[.val (.int x0), .val (.int x1), .val (.int x2), .val (.int x3), .val (.int x4), .val (.int x5), .val (.int x6), .val (.int x7), .val (.long x8), .second, .val (.long x10), .second, .val (.double x12), .second, .unset, .unset, .unset, .unset, .unset, .unset, .unset, .unset, .unset, .unset, .unset] [(.int x7)])) _
  rcases Bool.eq_false_or_eq_true (ifCond.holds .eq x7) with hc1 | hc1
  · try rw [hc1] at k
    refine XS.ifYes X.here hx rfl (pc0 := 66) (pc' := 75) rfl (hb hby at_66) rfl hc1 (by decide) (by decide) ?_
    show Steps p.tables e below (T.setTop (mkF m 75 #[.val (.int x0), .val (.int x1), .val (.int x2), .val (.int x3), .val (.int x4), .val (.int x5), .val (.int x6), .val (.int x7), .val (.long x8), .second, .val (.long x10), .second, .val (.double x12), .second, .unset, .unset, .unset, .unset, .unset, .unset, .unset, .unset, .unset, .unset, .unset] [])) _
    refine XS.lload X.here hx rfl (hb hby at_75) rfl ?_
    show Steps p.tables e below (T.setTop (mkF m 77 #[.val (.int x0), .val (.int x1), .val (.int x2), .val (.int x3), .val (.int x4), .val (.int x5), .val (.int x6), .val (.int x7), .val (.long x8), .second, .val (.long x10), .second, .val (.double x12), .second, .unset, .unset, .unset, .unset, .unset, .unset, .unset, .unset, .unset, .unset, .unset] [(.long x10)])) _
    refine XS.l2dS X.here hx rfl (hb hby at_77) rfl rfl ?_
    exact k
  · try rw [hc1] at k
    refine XS.ifNo X.here hx rfl (hb hby at_66) rfl hc1 ?_
    show Steps p.tables e below (T.setTop (mkF m 69 #[.val (.int x0), .val (.int x1), .val (.int x2), .val (.int x3), .val (.int x4), .val (.int x5), .val (.int x6), .val (.int x7), .val (.long x8), .second, .val (.long x10), .second, .val (.double x12), .second, .unset, .unset, .unset, .unset, .unset, .unset, .unset, .unset, .unset, .unset, .unset] [])) _
    refine X.ldc2DoubleC hx hown (mvT hZ (hw _ (List.mem_of_getElem? (i := 31) rfl))) (g := (mkF m 69 #[.val (.int x0), .val (.int x1), .val (.int x2), .val (.int x3), .val (.int x4), .val (.int x5), .val (.int x6), .val (.int x7), .val (.long x8), .second, .val (.long x10), .second, .val (.double x12), .second, .unset, .unset, .unset, .unset, .unset, .unset, .unset, .unset, .unset, .unset, .unset] [])) rfl (hb hby at_69) _ ?_
    show Steps p.tables e below (T.setTop (mkF m 72 #[.val (.int x0), .val (.int x1), .val (.int x2), .val (.int x3), .val (.int x4), .val (.int x5), .val (.int x6), .val (.int x7), .val (.long x8), .second, .val (.long x10), .second, .val (.double x12), .second, .unset, .unset, .unset, .unset, .unset, .unset, .unset, .unset, .unset, .unset, .unset] [(.double (9218868437227405312 : UInt64))])) _
    refine XS.goto X.here hx rfl (pc0 := 72) (pc' := 78) rfl (hb hby at_72) (by decide) (by decide) ?_
    exact k
set_option maxRecDepth 65536 in
set_option maxHeartbeats 4000000 in
theorem sg_0_320_352 {p : Program} {l : Launch} {e : Env} {R : Room} {s : State} {m : MethodId} {args : Array Value} {below : List Frame} {meth : Method} {c : Code} {T : State} {locs : List Loc} {cells slots : Nat} {Z : State} {a0 : Array Value} {target : State} {x0 : Int32} {x1 : Int32} {x2 : Int32} {x3 : Int32} {x4 : Int32} {x5 : Int32} {x6 : Int32} {x7 : Int32} {x8 : Int64} {x10 : Int64} {x12 : UInt64} {x14 : UInt64} {x16 : Addr} {x17 : Int32} {x18 : Int64} {x20 : UInt64} (X : Stand p l e R s m args below meth c T locs cells slots) (hx : p.tables.exec = Jvm.exec) (hZ : Z.Warmed39 s.vm) (hw : ∀ d ∈ tables_1, d.before a0 Z = true) (hby : c.code = code) (hown : s.vm.findClass "com/example/mynegai/mynegai/command/DecimalRangeContainsPinLaw" = some m.cls)
    (k : Steps p.tables e below (T.setTop (mkF m 352 #[.val (.int x0), .val (.int x1), .val (.int x2), .val (.int x3), .val (.int x4), .val (.int x5), .val (.int x6), .val (.int x7), .val (.long x8), .second, .val (.long x10), .second, .val (.double x12), .second, .val (.double x14), .second, .val (.ref x16), .val (.int x17), .val (.long x18), .second, .val (.double x20), .second, .unset, .unset, .unset] [(.int (bif (ifCond.holds .eq x5) then (bif (ifCond.holds .le (lcmpW (0 : Int64) x8)) then (0 : Int32) else (1 : Int32)) else (bif (ifCond.holds .lt (lcmpW (0 : Int64) x8)) then (0 : Int32) else (1 : Int32))))])) target) : Steps p.tables e below (T.setTop (mkF m 320 #[.val (.int x0), .val (.int x1), .val (.int x2), .val (.int x3), .val (.int x4), .val (.int x5), .val (.int x6), .val (.int x7), .val (.long x8), .second, .val (.long x10), .second, .val (.double x12), .second, .val (.double x14), .second, .val (.ref x16), .val (.int x17), .val (.long x18), .second, .val (.double x20), .second, .unset, .unset, .unset] [])) target := by
  show Steps p.tables e below (T.setTop (mkF m 320 #[.val (.int x0), .val (.int x1), .val (.int x2), .val (.int x3), .val (.int x4), .val (.int x5), .val (.int x6), .val (.int x7), .val (.long x8), .second, .val (.long x10), .second, .val (.double x12), .second, .val (.double x14), .second, .val (.ref x16), .val (.int x17), .val (.long x18), .second, .val (.double x20), .second, .unset, .unset, .unset] [])) _
  refine XS.iload X.here hx rfl (hb hby at_320) rfl ?_
  show Steps p.tables e below (T.setTop (mkF m 322 #[.val (.int x0), .val (.int x1), .val (.int x2), .val (.int x3), .val (.int x4), .val (.int x5), .val (.int x6), .val (.int x7), .val (.long x8), .second, .val (.long x10), .second, .val (.double x12), .second, .val (.double x14), .second, .val (.ref x16), .val (.int x17), .val (.long x18), .second, .val (.double x20), .second, .unset, .unset, .unset] [(.int x5)])) _
  rcases Bool.eq_false_or_eq_true (ifCond.holds .eq x5) with hc1 | hc1
  · try rw [hc1] at k
    refine XS.ifYes X.here hx rfl (pc0 := 322) (pc' := 340) rfl (hb hby at_322) rfl hc1 (by decide) (by decide) ?_
    show Steps p.tables e below (T.setTop (mkF m 340 #[.val (.int x0), .val (.int x1), .val (.int x2), .val (.int x3), .val (.int x4), .val (.int x5), .val (.int x6), .val (.int x7), .val (.long x8), .second, .val (.long x10), .second, .val (.double x12), .second, .val (.double x14), .second, .val (.ref x16), .val (.int x17), .val (.long x18), .second, .val (.double x20), .second, .unset, .unset, .unset] [])) _
    refine XS.lconst X.here hx rfl (hb hby at_340) ?_
    show Steps p.tables e below (T.setTop (mkF m 341 #[.val (.int x0), .val (.int x1), .val (.int x2), .val (.int x3), .val (.int x4), .val (.int x5), .val (.int x6), .val (.int x7), .val (.long x8), .second, .val (.long x10), .second, .val (.double x12), .second, .val (.double x14), .second, .val (.ref x16), .val (.int x17), .val (.long x18), .second, .val (.double x20), .second, .unset, .unset, .unset] [(.long (0 : Int64))])) _
    refine XS.lload X.here hx rfl (hb hby at_341) rfl ?_
    show Steps p.tables e below (T.setTop (mkF m 343 #[.val (.int x0), .val (.int x1), .val (.int x2), .val (.int x3), .val (.int x4), .val (.int x5), .val (.int x6), .val (.int x7), .val (.long x8), .second, .val (.long x10), .second, .val (.double x12), .second, .val (.double x14), .second, .val (.ref x16), .val (.int x17), .val (.long x18), .second, .val (.double x20), .second, .unset, .unset, .unset] [(.long x8), (.long (0 : Int64))])) _
    refine XS.lcmp X.here hx rfl (hb hby at_343) rfl ?_
    show Steps p.tables e below (T.setTop (mkF m 344 #[.val (.int x0), .val (.int x1), .val (.int x2), .val (.int x3), .val (.int x4), .val (.int x5), .val (.int x6), .val (.int x7), .val (.long x8), .second, .val (.long x10), .second, .val (.double x12), .second, .val (.double x14), .second, .val (.ref x16), .val (.int x17), .val (.long x18), .second, .val (.double x20), .second, .unset, .unset, .unset] [(.int (lcmpW (0 : Int64) x8))])) _
    rcases Bool.eq_false_or_eq_true (ifCond.holds .le (lcmpW (0 : Int64) x8)) with hc2 | hc2
    · try rw [hc2] at k
      refine XS.ifYes X.here hx rfl (pc0 := 344) (pc' := 351) rfl (hb hby at_344) rfl hc2 (by decide) (by decide) ?_
      show Steps p.tables e below (T.setTop (mkF m 351 #[.val (.int x0), .val (.int x1), .val (.int x2), .val (.int x3), .val (.int x4), .val (.int x5), .val (.int x6), .val (.int x7), .val (.long x8), .second, .val (.long x10), .second, .val (.double x12), .second, .val (.double x14), .second, .val (.ref x16), .val (.int x17), .val (.long x18), .second, .val (.double x20), .second, .unset, .unset, .unset] [])) _
      refine XS.iconst X.here hx rfl (hb hby at_351) ?_
      exact k
    · try rw [hc2] at k
      refine XS.ifNo X.here hx rfl (hb hby at_344) rfl hc2 ?_
      show Steps p.tables e below (T.setTop (mkF m 347 #[.val (.int x0), .val (.int x1), .val (.int x2), .val (.int x3), .val (.int x4), .val (.int x5), .val (.int x6), .val (.int x7), .val (.long x8), .second, .val (.long x10), .second, .val (.double x12), .second, .val (.double x14), .second, .val (.ref x16), .val (.int x17), .val (.long x18), .second, .val (.double x20), .second, .unset, .unset, .unset] [])) _
      refine XS.iconst X.here hx rfl (hb hby at_347) ?_
      show Steps p.tables e below (T.setTop (mkF m 348 #[.val (.int x0), .val (.int x1), .val (.int x2), .val (.int x3), .val (.int x4), .val (.int x5), .val (.int x6), .val (.int x7), .val (.long x8), .second, .val (.long x10), .second, .val (.double x12), .second, .val (.double x14), .second, .val (.ref x16), .val (.int x17), .val (.long x18), .second, .val (.double x20), .second, .unset, .unset, .unset] [(.int (1 : Int32))])) _
      refine XS.goto X.here hx rfl (pc0 := 348) (pc' := 352) rfl (hb hby at_348) (by decide) (by decide) ?_
      exact k
  · try rw [hc1] at k
    refine XS.ifNo X.here hx rfl (hb hby at_322) rfl hc1 ?_
    show Steps p.tables e below (T.setTop (mkF m 325 #[.val (.int x0), .val (.int x1), .val (.int x2), .val (.int x3), .val (.int x4), .val (.int x5), .val (.int x6), .val (.int x7), .val (.long x8), .second, .val (.long x10), .second, .val (.double x12), .second, .val (.double x14), .second, .val (.ref x16), .val (.int x17), .val (.long x18), .second, .val (.double x20), .second, .unset, .unset, .unset] [])) _
    refine XS.lconst X.here hx rfl (hb hby at_325) ?_
    show Steps p.tables e below (T.setTop (mkF m 326 #[.val (.int x0), .val (.int x1), .val (.int x2), .val (.int x3), .val (.int x4), .val (.int x5), .val (.int x6), .val (.int x7), .val (.long x8), .second, .val (.long x10), .second, .val (.double x12), .second, .val (.double x14), .second, .val (.ref x16), .val (.int x17), .val (.long x18), .second, .val (.double x20), .second, .unset, .unset, .unset] [(.long (0 : Int64))])) _
    refine XS.lload X.here hx rfl (hb hby at_326) rfl ?_
    show Steps p.tables e below (T.setTop (mkF m 328 #[.val (.int x0), .val (.int x1), .val (.int x2), .val (.int x3), .val (.int x4), .val (.int x5), .val (.int x6), .val (.int x7), .val (.long x8), .second, .val (.long x10), .second, .val (.double x12), .second, .val (.double x14), .second, .val (.ref x16), .val (.int x17), .val (.long x18), .second, .val (.double x20), .second, .unset, .unset, .unset] [(.long x8), (.long (0 : Int64))])) _
    refine XS.lcmp X.here hx rfl (hb hby at_328) rfl ?_
    show Steps p.tables e below (T.setTop (mkF m 329 #[.val (.int x0), .val (.int x1), .val (.int x2), .val (.int x3), .val (.int x4), .val (.int x5), .val (.int x6), .val (.int x7), .val (.long x8), .second, .val (.long x10), .second, .val (.double x12), .second, .val (.double x14), .second, .val (.ref x16), .val (.int x17), .val (.long x18), .second, .val (.double x20), .second, .unset, .unset, .unset] [(.int (lcmpW (0 : Int64) x8))])) _
    rcases Bool.eq_false_or_eq_true (ifCond.holds .lt (lcmpW (0 : Int64) x8)) with hc3 | hc3
    · try rw [hc3] at k
      refine XS.ifYes X.here hx rfl (pc0 := 329) (pc' := 336) rfl (hb hby at_329) rfl hc3 (by decide) (by decide) ?_
      show Steps p.tables e below (T.setTop (mkF m 336 #[.val (.int x0), .val (.int x1), .val (.int x2), .val (.int x3), .val (.int x4), .val (.int x5), .val (.int x6), .val (.int x7), .val (.long x8), .second, .val (.long x10), .second, .val (.double x12), .second, .val (.double x14), .second, .val (.ref x16), .val (.int x17), .val (.long x18), .second, .val (.double x20), .second, .unset, .unset, .unset] [])) _
      refine XS.iconst X.here hx rfl (hb hby at_336) ?_
      show Steps p.tables e below (T.setTop (mkF m 337 #[.val (.int x0), .val (.int x1), .val (.int x2), .val (.int x3), .val (.int x4), .val (.int x5), .val (.int x6), .val (.int x7), .val (.long x8), .second, .val (.long x10), .second, .val (.double x12), .second, .val (.double x14), .second, .val (.ref x16), .val (.int x17), .val (.long x18), .second, .val (.double x20), .second, .unset, .unset, .unset] [(.int (0 : Int32))])) _
      refine XS.goto X.here hx rfl (pc0 := 337) (pc' := 352) rfl (hb hby at_337) (by decide) (by decide) ?_
      exact k
    · try rw [hc3] at k
      refine XS.ifNo X.here hx rfl (hb hby at_329) rfl hc3 ?_
      show Steps p.tables e below (T.setTop (mkF m 332 #[.val (.int x0), .val (.int x1), .val (.int x2), .val (.int x3), .val (.int x4), .val (.int x5), .val (.int x6), .val (.int x7), .val (.long x8), .second, .val (.long x10), .second, .val (.double x12), .second, .val (.double x14), .second, .val (.ref x16), .val (.int x17), .val (.long x18), .second, .val (.double x20), .second, .unset, .unset, .unset] [])) _
      refine XS.iconst X.here hx rfl (hb hby at_332) ?_
      show Steps p.tables e below (T.setTop (mkF m 333 #[.val (.int x0), .val (.int x1), .val (.int x2), .val (.int x3), .val (.int x4), .val (.int x5), .val (.int x6), .val (.int x7), .val (.long x8), .second, .val (.long x10), .second, .val (.double x12), .second, .val (.double x14), .second, .val (.ref x16), .val (.int x17), .val (.long x18), .second, .val (.double x20), .second, .unset, .unset, .unset] [(.int (1 : Int32))])) _
      refine XS.goto X.here hx rfl (pc0 := 333) (pc' := 352) rfl (hb hby at_333) (by decide) (by decide) ?_
      exact k
set_option maxRecDepth 65536 in
set_option maxHeartbeats 4000000 in
theorem sg_0_354_386 {p : Program} {l : Launch} {e : Env} {R : Room} {s : State} {m : MethodId} {args : Array Value} {below : List Frame} {meth : Method} {c : Code} {T : State} {locs : List Loc} {cells slots : Nat} {Z : State} {a0 : Array Value} {target : State} {x0 : Int32} {x1 : Int32} {x2 : Int32} {x3 : Int32} {x4 : Int32} {x5 : Int32} {x6 : Int32} {x7 : Int32} {x8 : Int64} {x10 : Int64} {x12 : UInt64} {x14 : UInt64} {x16 : Addr} {x17 : Int32} {x18 : Int64} {x20 : UInt64} {x23 : Int32} (X : Stand p l e R s m args below meth c T locs cells slots) (hx : p.tables.exec = Jvm.exec) (hZ : Z.Warmed39 s.vm) (hw : ∀ d ∈ tables_1, d.before a0 Z = true) (hby : c.code = code) (hown : s.vm.findClass "com/example/mynegai/mynegai/command/DecimalRangeContainsPinLaw" = some m.cls)
    (k : Steps p.tables e below (T.setTop (mkF m 386 #[.val (.int x0), .val (.int x1), .val (.int x2), .val (.int x3), .val (.int x4), .val (.int x5), .val (.int x6), .val (.int x7), .val (.long x8), .second, .val (.long x10), .second, .val (.double x12), .second, .val (.double x14), .second, .val (.ref x16), .val (.int x17), .val (.long x18), .second, .val (.double x20), .second, .unset, .val (.int x23), .unset] [(.int (bif (ifCond.holds .ne x7) then (1 : Int32) else (bif (ifCond.holds .eq x6) then (bif (ifCond.holds .ge (lcmpW (0 : Int64) x10)) then (0 : Int32) else (1 : Int32)) else (bif (ifCond.holds .gt (lcmpW (0 : Int64) x10)) then (0 : Int32) else (1 : Int32)))))])) target) : Steps p.tables e below (T.setTop (mkF m 354 #[.val (.int x0), .val (.int x1), .val (.int x2), .val (.int x3), .val (.int x4), .val (.int x5), .val (.int x6), .val (.int x7), .val (.long x8), .second, .val (.long x10), .second, .val (.double x12), .second, .val (.double x14), .second, .val (.ref x16), .val (.int x17), .val (.long x18), .second, .val (.double x20), .second, .unset, .val (.int x23), .unset] [])) target := by
  show Steps p.tables e below (T.setTop (mkF m 354 #[.val (.int x0), .val (.int x1), .val (.int x2), .val (.int x3), .val (.int x4), .val (.int x5), .val (.int x6), .val (.int x7), .val (.long x8), .second, .val (.long x10), .second, .val (.double x12), .second, .val (.double x14), .second, .val (.ref x16), .val (.int x17), .val (.long x18), .second, .val (.double x20), .second, .unset, .val (.int x23), .unset] [])) _
  refine XS.iload X.here hx rfl (hb hby at_354) rfl ?_
  show Steps p.tables e below (T.setTop (mkF m 356 #[.val (.int x0), .val (.int x1), .val (.int x2), .val (.int x3), .val (.int x4), .val (.int x5), .val (.int x6), .val (.int x7), .val (.long x8), .second, .val (.long x10), .second, .val (.double x12), .second, .val (.double x14), .second, .val (.ref x16), .val (.int x17), .val (.long x18), .second, .val (.double x20), .second, .unset, .val (.int x23), .unset] [(.int x7)])) _
  rcases Bool.eq_false_or_eq_true (ifCond.holds .ne x7) with hc1 | hc1
  · try rw [hc1] at k
    refine XS.ifYes X.here hx rfl (pc0 := 356) (pc' := 381) rfl (hb hby at_356) rfl hc1 (by decide) (by decide) ?_
    show Steps p.tables e below (T.setTop (mkF m 381 #[.val (.int x0), .val (.int x1), .val (.int x2), .val (.int x3), .val (.int x4), .val (.int x5), .val (.int x6), .val (.int x7), .val (.long x8), .second, .val (.long x10), .second, .val (.double x12), .second, .val (.double x14), .second, .val (.ref x16), .val (.int x17), .val (.long x18), .second, .val (.double x20), .second, .unset, .val (.int x23), .unset] [])) _
    refine XS.iconst X.here hx rfl (hb hby at_381) ?_
    show Steps p.tables e below (T.setTop (mkF m 382 #[.val (.int x0), .val (.int x1), .val (.int x2), .val (.int x3), .val (.int x4), .val (.int x5), .val (.int x6), .val (.int x7), .val (.long x8), .second, .val (.long x10), .second, .val (.double x12), .second, .val (.double x14), .second, .val (.ref x16), .val (.int x17), .val (.long x18), .second, .val (.double x20), .second, .unset, .val (.int x23), .unset] [(.int (1 : Int32))])) _
    refine XS.goto X.here hx rfl (pc0 := 382) (pc' := 386) rfl (hb hby at_382) (by decide) (by decide) ?_
    exact k
  · try rw [hc1] at k
    refine XS.ifNo X.here hx rfl (hb hby at_356) rfl hc1 ?_
    show Steps p.tables e below (T.setTop (mkF m 359 #[.val (.int x0), .val (.int x1), .val (.int x2), .val (.int x3), .val (.int x4), .val (.int x5), .val (.int x6), .val (.int x7), .val (.long x8), .second, .val (.long x10), .second, .val (.double x12), .second, .val (.double x14), .second, .val (.ref x16), .val (.int x17), .val (.long x18), .second, .val (.double x20), .second, .unset, .val (.int x23), .unset] [])) _
    refine XS.iload X.here hx rfl (hb hby at_359) rfl ?_
    show Steps p.tables e below (T.setTop (mkF m 361 #[.val (.int x0), .val (.int x1), .val (.int x2), .val (.int x3), .val (.int x4), .val (.int x5), .val (.int x6), .val (.int x7), .val (.long x8), .second, .val (.long x10), .second, .val (.double x12), .second, .val (.double x14), .second, .val (.ref x16), .val (.int x17), .val (.long x18), .second, .val (.double x20), .second, .unset, .val (.int x23), .unset] [(.int x6)])) _
    rcases Bool.eq_false_or_eq_true (ifCond.holds .eq x6) with hc2 | hc2
    · try rw [hc2] at k
      refine XS.ifYes X.here hx rfl (pc0 := 361) (pc' := 374) rfl (hb hby at_361) rfl hc2 (by decide) (by decide) ?_
      show Steps p.tables e below (T.setTop (mkF m 374 #[.val (.int x0), .val (.int x1), .val (.int x2), .val (.int x3), .val (.int x4), .val (.int x5), .val (.int x6), .val (.int x7), .val (.long x8), .second, .val (.long x10), .second, .val (.double x12), .second, .val (.double x14), .second, .val (.ref x16), .val (.int x17), .val (.long x18), .second, .val (.double x20), .second, .unset, .val (.int x23), .unset] [])) _
      refine XS.lconst X.here hx rfl (hb hby at_374) ?_
      show Steps p.tables e below (T.setTop (mkF m 375 #[.val (.int x0), .val (.int x1), .val (.int x2), .val (.int x3), .val (.int x4), .val (.int x5), .val (.int x6), .val (.int x7), .val (.long x8), .second, .val (.long x10), .second, .val (.double x12), .second, .val (.double x14), .second, .val (.ref x16), .val (.int x17), .val (.long x18), .second, .val (.double x20), .second, .unset, .val (.int x23), .unset] [(.long (0 : Int64))])) _
      refine XS.lload X.here hx rfl (hb hby at_375) rfl ?_
      show Steps p.tables e below (T.setTop (mkF m 377 #[.val (.int x0), .val (.int x1), .val (.int x2), .val (.int x3), .val (.int x4), .val (.int x5), .val (.int x6), .val (.int x7), .val (.long x8), .second, .val (.long x10), .second, .val (.double x12), .second, .val (.double x14), .second, .val (.ref x16), .val (.int x17), .val (.long x18), .second, .val (.double x20), .second, .unset, .val (.int x23), .unset] [(.long x10), (.long (0 : Int64))])) _
      refine XS.lcmp X.here hx rfl (hb hby at_377) rfl ?_
      show Steps p.tables e below (T.setTop (mkF m 378 #[.val (.int x0), .val (.int x1), .val (.int x2), .val (.int x3), .val (.int x4), .val (.int x5), .val (.int x6), .val (.int x7), .val (.long x8), .second, .val (.long x10), .second, .val (.double x12), .second, .val (.double x14), .second, .val (.ref x16), .val (.int x17), .val (.long x18), .second, .val (.double x20), .second, .unset, .val (.int x23), .unset] [(.int (lcmpW (0 : Int64) x10))])) _
      rcases Bool.eq_false_or_eq_true (ifCond.holds .ge (lcmpW (0 : Int64) x10)) with hc3 | hc3
      · try rw [hc3] at k
        refine XS.ifYes X.here hx rfl (pc0 := 378) (pc' := 385) rfl (hb hby at_378) rfl hc3 (by decide) (by decide) ?_
        show Steps p.tables e below (T.setTop (mkF m 385 #[.val (.int x0), .val (.int x1), .val (.int x2), .val (.int x3), .val (.int x4), .val (.int x5), .val (.int x6), .val (.int x7), .val (.long x8), .second, .val (.long x10), .second, .val (.double x12), .second, .val (.double x14), .second, .val (.ref x16), .val (.int x17), .val (.long x18), .second, .val (.double x20), .second, .unset, .val (.int x23), .unset] [])) _
        refine XS.iconst X.here hx rfl (hb hby at_385) ?_
        exact k
      · try rw [hc3] at k
        refine XS.ifNo X.here hx rfl (hb hby at_378) rfl hc3 ?_
        show Steps p.tables e below (T.setTop (mkF m 381 #[.val (.int x0), .val (.int x1), .val (.int x2), .val (.int x3), .val (.int x4), .val (.int x5), .val (.int x6), .val (.int x7), .val (.long x8), .second, .val (.long x10), .second, .val (.double x12), .second, .val (.double x14), .second, .val (.ref x16), .val (.int x17), .val (.long x18), .second, .val (.double x20), .second, .unset, .val (.int x23), .unset] [])) _
        refine XS.iconst X.here hx rfl (hb hby at_381) ?_
        show Steps p.tables e below (T.setTop (mkF m 382 #[.val (.int x0), .val (.int x1), .val (.int x2), .val (.int x3), .val (.int x4), .val (.int x5), .val (.int x6), .val (.int x7), .val (.long x8), .second, .val (.long x10), .second, .val (.double x12), .second, .val (.double x14), .second, .val (.ref x16), .val (.int x17), .val (.long x18), .second, .val (.double x20), .second, .unset, .val (.int x23), .unset] [(.int (1 : Int32))])) _
        refine XS.goto X.here hx rfl (pc0 := 382) (pc' := 386) rfl (hb hby at_382) (by decide) (by decide) ?_
        exact k
    · try rw [hc2] at k
      refine XS.ifNo X.here hx rfl (hb hby at_361) rfl hc2 ?_
      show Steps p.tables e below (T.setTop (mkF m 364 #[.val (.int x0), .val (.int x1), .val (.int x2), .val (.int x3), .val (.int x4), .val (.int x5), .val (.int x6), .val (.int x7), .val (.long x8), .second, .val (.long x10), .second, .val (.double x12), .second, .val (.double x14), .second, .val (.ref x16), .val (.int x17), .val (.long x18), .second, .val (.double x20), .second, .unset, .val (.int x23), .unset] [])) _
      refine XS.lconst X.here hx rfl (hb hby at_364) ?_
      show Steps p.tables e below (T.setTop (mkF m 365 #[.val (.int x0), .val (.int x1), .val (.int x2), .val (.int x3), .val (.int x4), .val (.int x5), .val (.int x6), .val (.int x7), .val (.long x8), .second, .val (.long x10), .second, .val (.double x12), .second, .val (.double x14), .second, .val (.ref x16), .val (.int x17), .val (.long x18), .second, .val (.double x20), .second, .unset, .val (.int x23), .unset] [(.long (0 : Int64))])) _
      refine XS.lload X.here hx rfl (hb hby at_365) rfl ?_
      show Steps p.tables e below (T.setTop (mkF m 367 #[.val (.int x0), .val (.int x1), .val (.int x2), .val (.int x3), .val (.int x4), .val (.int x5), .val (.int x6), .val (.int x7), .val (.long x8), .second, .val (.long x10), .second, .val (.double x12), .second, .val (.double x14), .second, .val (.ref x16), .val (.int x17), .val (.long x18), .second, .val (.double x20), .second, .unset, .val (.int x23), .unset] [(.long x10), (.long (0 : Int64))])) _
      refine XS.lcmp X.here hx rfl (hb hby at_367) rfl ?_
      show Steps p.tables e below (T.setTop (mkF m 368 #[.val (.int x0), .val (.int x1), .val (.int x2), .val (.int x3), .val (.int x4), .val (.int x5), .val (.int x6), .val (.int x7), .val (.long x8), .second, .val (.long x10), .second, .val (.double x12), .second, .val (.double x14), .second, .val (.ref x16), .val (.int x17), .val (.long x18), .second, .val (.double x20), .second, .unset, .val (.int x23), .unset] [(.int (lcmpW (0 : Int64) x10))])) _
      rcases Bool.eq_false_or_eq_true (ifCond.holds .gt (lcmpW (0 : Int64) x10)) with hc4 | hc4
      · try rw [hc4] at k
        refine XS.ifYes X.here hx rfl (pc0 := 368) (pc' := 385) rfl (hb hby at_368) rfl hc4 (by decide) (by decide) ?_
        show Steps p.tables e below (T.setTop (mkF m 385 #[.val (.int x0), .val (.int x1), .val (.int x2), .val (.int x3), .val (.int x4), .val (.int x5), .val (.int x6), .val (.int x7), .val (.long x8), .second, .val (.long x10), .second, .val (.double x12), .second, .val (.double x14), .second, .val (.ref x16), .val (.int x17), .val (.long x18), .second, .val (.double x20), .second, .unset, .val (.int x23), .unset] [])) _
        refine XS.iconst X.here hx rfl (hb hby at_385) ?_
        exact k
      · try rw [hc4] at k
        refine XS.ifNo X.here hx rfl (hb hby at_368) rfl hc4 ?_
        show Steps p.tables e below (T.setTop (mkF m 371 #[.val (.int x0), .val (.int x1), .val (.int x2), .val (.int x3), .val (.int x4), .val (.int x5), .val (.int x6), .val (.int x7), .val (.long x8), .second, .val (.long x10), .second, .val (.double x12), .second, .val (.double x14), .second, .val (.ref x16), .val (.int x17), .val (.long x18), .second, .val (.double x20), .second, .unset, .val (.int x23), .unset] [])) _
        refine XS.goto X.here hx rfl (pc0 := 371) (pc' := 381) rfl (hb hby at_371) (by decide) (by decide) ?_
        show Steps p.tables e below (T.setTop (mkF m 381 #[.val (.int x0), .val (.int x1), .val (.int x2), .val (.int x3), .val (.int x4), .val (.int x5), .val (.int x6), .val (.int x7), .val (.long x8), .second, .val (.long x10), .second, .val (.double x12), .second, .val (.double x14), .second, .val (.ref x16), .val (.int x17), .val (.long x18), .second, .val (.double x20), .second, .unset, .val (.int x23), .unset] [])) _
        refine XS.iconst X.here hx rfl (hb hby at_381) ?_
        show Steps p.tables e below (T.setTop (mkF m 382 #[.val (.int x0), .val (.int x1), .val (.int x2), .val (.int x3), .val (.int x4), .val (.int x5), .val (.int x6), .val (.int x7), .val (.long x8), .second, .val (.long x10), .second, .val (.double x12), .second, .val (.double x14), .second, .val (.ref x16), .val (.int x17), .val (.long x18), .second, .val (.double x20), .second, .unset, .val (.int x23), .unset] [(.int (1 : Int32))])) _
        refine XS.goto X.here hx rfl (pc0 := 382) (pc' := 386) rfl (hb hby at_382) (by decide) (by decide) ?_
        exact k
set_option maxRecDepth 65536 in
set_option maxHeartbeats 4000000 in
theorem sg_0_388_403 {p : Program} {l : Launch} {e : Env} {R : Room} {s : State} {m : MethodId} {args : Array Value} {below : List Frame} {meth : Method} {c : Code} {T : State} {locs : List Loc} {cells slots : Nat} {Z : State} {a0 : Array Value} {target : State} {x0 : Int32} {x1 : Int32} {x2 : Int32} {x3 : Int32} {x4 : Int32} {x5 : Int32} {x6 : Int32} {x7 : Int32} {x8 : Int64} {x10 : Int64} {x12 : UInt64} {x14 : UInt64} {x16 : Addr} {x17 : Int32} {x18 : Int64} {x20 : UInt64} {x23 : Int32} {x24 : Int32} (X : Stand p l e R s m args below meth c T locs cells slots) (hx : p.tables.exec = Jvm.exec) (hZ : Z.Warmed39 s.vm) (hw : ∀ d ∈ tables_1, d.before a0 Z = true) (hby : c.code = code) (hown : s.vm.findClass "com/example/mynegai/mynegai/command/DecimalRangeContainsPinLaw" = some m.cls)
    (k : Steps p.tables e below (T.setTop (mkF m 403 #[.val (.int x0), .val (.int x1), .val (.int x2), .val (.int x3), .val (.int x4), .val (.int x5), .val (.int x6), .val (.int x7), .val (.long x8), .second, .val (.long x10), .second, .val (.double x12), .second, .val (.double x14), .second, .val (.ref x16), .val (.int x17), .val (.long x18), .second, .val (.double x20), .second, .unset, .val (.int x23), .val (.int x24)] [(.int (bif (ifCond.holds .eq x23) then (0 : Int32) else (bif (ifCond.holds .eq x24) then (0 : Int32) else (1 : Int32))))])) target) : Steps p.tables e below (T.setTop (mkF m 388 #[.val (.int x0), .val (.int x1), .val (.int x2), .val (.int x3), .val (.int x4), .val (.int x5), .val (.int x6), .val (.int x7), .val (.long x8), .second, .val (.long x10), .second, .val (.double x12), .second, .val (.double x14), .second, .val (.ref x16), .val (.int x17), .val (.long x18), .second, .val (.double x20), .second, .unset, .val (.int x23), .val (.int x24)] [])) target := by
  show Steps p.tables e below (T.setTop (mkF m 388 #[.val (.int x0), .val (.int x1), .val (.int x2), .val (.int x3), .val (.int x4), .val (.int x5), .val (.int x6), .val (.int x7), .val (.long x8), .second, .val (.long x10), .second, .val (.double x12), .second, .val (.double x14), .second, .val (.ref x16), .val (.int x17), .val (.long x18), .second, .val (.double x20), .second, .unset, .val (.int x23), .val (.int x24)] [])) _
  refine XS.iload X.here hx rfl (hb hby at_388) rfl ?_
  show Steps p.tables e below (T.setTop (mkF m 390 #[.val (.int x0), .val (.int x1), .val (.int x2), .val (.int x3), .val (.int x4), .val (.int x5), .val (.int x6), .val (.int x7), .val (.long x8), .second, .val (.long x10), .second, .val (.double x12), .second, .val (.double x14), .second, .val (.ref x16), .val (.int x17), .val (.long x18), .second, .val (.double x20), .second, .unset, .val (.int x23), .val (.int x24)] [(.int x23)])) _
  rcases Bool.eq_false_or_eq_true (ifCond.holds .eq x23) with hc1 | hc1
  · try rw [hc1] at k
    refine XS.ifYes X.here hx rfl (pc0 := 390) (pc' := 402) rfl (hb hby at_390) rfl hc1 (by decide) (by decide) ?_
    show Steps p.tables e below (T.setTop (mkF m 402 #[.val (.int x0), .val (.int x1), .val (.int x2), .val (.int x3), .val (.int x4), .val (.int x5), .val (.int x6), .val (.int x7), .val (.long x8), .second, .val (.long x10), .second, .val (.double x12), .second, .val (.double x14), .second, .val (.ref x16), .val (.int x17), .val (.long x18), .second, .val (.double x20), .second, .unset, .val (.int x23), .val (.int x24)] [])) _
    refine XS.iconst X.here hx rfl (hb hby at_402) ?_
    exact k
  · try rw [hc1] at k
    refine XS.ifNo X.here hx rfl (hb hby at_390) rfl hc1 ?_
    show Steps p.tables e below (T.setTop (mkF m 393 #[.val (.int x0), .val (.int x1), .val (.int x2), .val (.int x3), .val (.int x4), .val (.int x5), .val (.int x6), .val (.int x7), .val (.long x8), .second, .val (.long x10), .second, .val (.double x12), .second, .val (.double x14), .second, .val (.ref x16), .val (.int x17), .val (.long x18), .second, .val (.double x20), .second, .unset, .val (.int x23), .val (.int x24)] [])) _
    refine XS.iload X.here hx rfl (hb hby at_393) rfl ?_
    show Steps p.tables e below (T.setTop (mkF m 395 #[.val (.int x0), .val (.int x1), .val (.int x2), .val (.int x3), .val (.int x4), .val (.int x5), .val (.int x6), .val (.int x7), .val (.long x8), .second, .val (.long x10), .second, .val (.double x12), .second, .val (.double x14), .second, .val (.ref x16), .val (.int x17), .val (.long x18), .second, .val (.double x20), .second, .unset, .val (.int x23), .val (.int x24)] [(.int x24)])) _
    rcases Bool.eq_false_or_eq_true (ifCond.holds .eq x24) with hc2 | hc2
    · try rw [hc2] at k
      refine XS.ifYes X.here hx rfl (pc0 := 395) (pc' := 402) rfl (hb hby at_395) rfl hc2 (by decide) (by decide) ?_
      show Steps p.tables e below (T.setTop (mkF m 402 #[.val (.int x0), .val (.int x1), .val (.int x2), .val (.int x3), .val (.int x4), .val (.int x5), .val (.int x6), .val (.int x7), .val (.long x8), .second, .val (.long x10), .second, .val (.double x12), .second, .val (.double x14), .second, .val (.ref x16), .val (.int x17), .val (.long x18), .second, .val (.double x20), .second, .unset, .val (.int x23), .val (.int x24)] [])) _
      refine XS.iconst X.here hx rfl (hb hby at_402) ?_
      exact k
    · try rw [hc2] at k
      refine XS.ifNo X.here hx rfl (hb hby at_395) rfl hc2 ?_
      show Steps p.tables e below (T.setTop (mkF m 398 #[.val (.int x0), .val (.int x1), .val (.int x2), .val (.int x3), .val (.int x4), .val (.int x5), .val (.int x6), .val (.int x7), .val (.long x8), .second, .val (.long x10), .second, .val (.double x12), .second, .val (.double x14), .second, .val (.ref x16), .val (.int x17), .val (.long x18), .second, .val (.double x20), .second, .unset, .val (.int x23), .val (.int x24)] [])) _
      refine XS.iconst X.here hx rfl (hb hby at_398) ?_
      show Steps p.tables e below (T.setTop (mkF m 399 #[.val (.int x0), .val (.int x1), .val (.int x2), .val (.int x3), .val (.int x4), .val (.int x5), .val (.int x6), .val (.int x7), .val (.long x8), .second, .val (.long x10), .second, .val (.double x12), .second, .val (.double x14), .second, .val (.ref x16), .val (.int x17), .val (.long x18), .second, .val (.double x20), .second, .unset, .val (.int x23), .val (.int x24)] [(.int (1 : Int32))])) _
      refine XS.goto X.here hx rfl (pc0 := 399) (pc' := 403) rfl (hb hby at_399) (by decide) (by decide) ?_
      exact k
set_option maxRecDepth 65536 in
set_option maxHeartbeats 4000000 in
theorem sg_0_226_239 {p : Program} {l : Launch} {e : Env} {R : Room} {s : State} {m : MethodId} {args : Array Value} {below : List Frame} {meth : Method} {c : Code} {T : State} {locs : List Loc} {cells slots : Nat} {Z : State} {a0 : Array Value} {target : State} {x0 : Int32} {x1 : Int32} {x2 : Int32} {x3 : Int32} {x4 : Int32} {x5 : Int32} {x6 : Int32} {x7 : Int32} {x8 : Int64} {x10 : Int64} {x12 : UInt64} {x14 : UInt64} {x16 : Addr} {x17 : Int32} {x18 : Int64} {x20 : UInt64} (X : Stand p l e R s m args below meth c T locs cells slots) (hx : p.tables.exec = Jvm.exec) (hZ : Z.Warmed39 s.vm) (hw : ∀ d ∈ tables_1, d.before a0 Z = true) (hby : c.code = code) (hown : s.vm.findClass "com/example/mynegai/mynegai/command/DecimalRangeContainsPinLaw" = some m.cls)
    (k : Steps p.tables e below (T.setTop (mkF m 239 #[.val (.int x0), .val (.int x1), .val (.int x2), .val (.int x3), .val (.int x4), .val (.int x5), .val (.int x6), .val (.int x7), .val (.long x8), .second, .val (.long x10), .second, .val (.double x12), .second, .val (.double x14), .second, .val (.ref x16), .val (.int x17), .val (.long x18), .second, .val (.double x20), .second, .unset, .unset, .unset] [(.int (bif (ifCond.holds .lt (lcmpW x18 x8)) then (0 : Int32) else (1 : Int32)))])) target) : Steps p.tables e below (T.setTop (mkF m 226 #[.val (.int x0), .val (.int x1), .val (.int x2), .val (.int x3), .val (.int x4), .val (.int x5), .val (.int x6), .val (.int x7), .val (.long x8), .second, .val (.long x10), .second, .val (.double x12), .second, .val (.double x14), .second, .val (.ref x16), .val (.int x17), .val (.long x18), .second, .val (.double x20), .second, .unset, .unset, .unset] [])) target := by
  show Steps p.tables e below (T.setTop (mkF m 226 #[.val (.int x0), .val (.int x1), .val (.int x2), .val (.int x3), .val (.int x4), .val (.int x5), .val (.int x6), .val (.int x7), .val (.long x8), .second, .val (.long x10), .second, .val (.double x12), .second, .val (.double x14), .second, .val (.ref x16), .val (.int x17), .val (.long x18), .second, .val (.double x20), .second, .unset, .unset, .unset] [])) _
  refine XS.lload X.here hx rfl (hb hby at_226) rfl ?_
  show Steps p.tables e below (T.setTop (mkF m 228 #[.val (.int x0), .val (.int x1), .val (.int x2), .val (.int x3), .val (.int x4), .val (.int x5), .val (.int x6), .val (.int x7), .val (.long x8), .second, .val (.long x10), .second, .val (.double x12), .second, .val (.double x14), .second, .val (.ref x16), .val (.int x17), .val (.long x18), .second, .val (.double x20), .second, .unset, .unset, .unset] [(.long x18)])) _
  refine XS.lload X.here hx rfl (hb hby at_228) rfl ?_
  show Steps p.tables e below (T.setTop (mkF m 230 #[.val (.int x0), .val (.int x1), .val (.int x2), .val (.int x3), .val (.int x4), .val (.int x5), .val (.int x6), .val (.int x7), .val (.long x8), .second, .val (.long x10), .second, .val (.double x12), .second, .val (.double x14), .second, .val (.ref x16), .val (.int x17), .val (.long x18), .second, .val (.double x20), .second, .unset, .unset, .unset] [(.long x8), (.long x18)])) _
  refine XS.lcmp X.here hx rfl (hb hby at_230) rfl ?_
  show Steps p.tables e below (T.setTop (mkF m 231 #[.val (.int x0), .val (.int x1), .val (.int x2), .val (.int x3), .val (.int x4), .val (.int x5), .val (.int x6), .val (.int x7), .val (.long x8), .second, .val (.long x10), .second, .val (.double x12), .second, .val (.double x14), .second, .val (.ref x16), .val (.int x17), .val (.long x18), .second, .val (.double x20), .second, .unset, .unset, .unset] [(.int (lcmpW x18 x8))])) _
  rcases Bool.eq_false_or_eq_true (ifCond.holds .lt (lcmpW x18 x8)) with hc1 | hc1
  · try rw [hc1] at k
    refine XS.ifYes X.here hx rfl (pc0 := 231) (pc' := 238) rfl (hb hby at_231) rfl hc1 (by decide) (by decide) ?_
    show Steps p.tables e below (T.setTop (mkF m 238 #[.val (.int x0), .val (.int x1), .val (.int x2), .val (.int x3), .val (.int x4), .val (.int x5), .val (.int x6), .val (.int x7), .val (.long x8), .second, .val (.long x10), .second, .val (.double x12), .second, .val (.double x14), .second, .val (.ref x16), .val (.int x17), .val (.long x18), .second, .val (.double x20), .second, .unset, .unset, .unset] [])) _
    refine XS.iconst X.here hx rfl (hb hby at_238) ?_
    exact k
  · try rw [hc1] at k
    refine XS.ifNo X.here hx rfl (hb hby at_231) rfl hc1 ?_
    show Steps p.tables e below (T.setTop (mkF m 234 #[.val (.int x0), .val (.int x1), .val (.int x2), .val (.int x3), .val (.int x4), .val (.int x5), .val (.int x6), .val (.int x7), .val (.long x8), .second, .val (.long x10), .second, .val (.double x12), .second, .val (.double x14), .second, .val (.ref x16), .val (.int x17), .val (.long x18), .second, .val (.double x20), .second, .unset, .unset, .unset] [])) _
    refine XS.iconst X.here hx rfl (hb hby at_234) ?_
    show Steps p.tables e below (T.setTop (mkF m 235 #[.val (.int x0), .val (.int x1), .val (.int x2), .val (.int x3), .val (.int x4), .val (.int x5), .val (.int x6), .val (.int x7), .val (.long x8), .second, .val (.long x10), .second, .val (.double x12), .second, .val (.double x14), .second, .val (.ref x16), .val (.int x17), .val (.long x18), .second, .val (.double x20), .second, .unset, .unset, .unset] [(.int (1 : Int32))])) _
    refine XS.goto X.here hx rfl (pc0 := 235) (pc' := 239) rfl (hb hby at_235) (by decide) (by decide) ?_
    exact k
set_option maxRecDepth 65536 in
set_option maxHeartbeats 4000000 in
theorem sg_0_241_259 {p : Program} {l : Launch} {e : Env} {R : Room} {s : State} {m : MethodId} {args : Array Value} {below : List Frame} {meth : Method} {c : Code} {T : State} {locs : List Loc} {cells slots : Nat} {Z : State} {a0 : Array Value} {target : State} {x0 : Int32} {x1 : Int32} {x2 : Int32} {x3 : Int32} {x4 : Int32} {x5 : Int32} {x6 : Int32} {x7 : Int32} {x8 : Int64} {x10 : Int64} {x12 : UInt64} {x14 : UInt64} {x16 : Addr} {x17 : Int32} {x18 : Int64} {x20 : UInt64} {x23 : Int32} (X : Stand p l e R s m args below meth c T locs cells slots) (hx : p.tables.exec = Jvm.exec) (hZ : Z.Warmed39 s.vm) (hw : ∀ d ∈ tables_1, d.before a0 Z = true) (hby : c.code = code) (hown : s.vm.findClass "com/example/mynegai/mynegai/command/DecimalRangeContainsPinLaw" = some m.cls)
    (k : Steps p.tables e below (T.setTop (mkF m 259 #[.val (.int x0), .val (.int x1), .val (.int x2), .val (.int x3), .val (.int x4), .val (.int x5), .val (.int x6), .val (.int x7), .val (.long x8), .second, .val (.long x10), .second, .val (.double x12), .second, .val (.double x14), .second, .val (.ref x16), .val (.int x17), .val (.long x18), .second, .val (.double x20), .second, .unset, .val (.int x23), .unset] [(.int (bif (ifCond.holds .ne x7) then (1 : Int32) else (bif (ifCond.holds .ge (lcmpW x18 x10)) then (0 : Int32) else (1 : Int32))))])) target) : Steps p.tables e below (T.setTop (mkF m 241 #[.val (.int x0), .val (.int x1), .val (.int x2), .val (.int x3), .val (.int x4), .val (.int x5), .val (.int x6), .val (.int x7), .val (.long x8), .second, .val (.long x10), .second, .val (.double x12), .second, .val (.double x14), .second, .val (.ref x16), .val (.int x17), .val (.long x18), .second, .val (.double x20), .second, .unset, .val (.int x23), .unset] [])) target := by
  show Steps p.tables e below (T.setTop (mkF m 241 #[.val (.int x0), .val (.int x1), .val (.int x2), .val (.int x3), .val (.int x4), .val (.int x5), .val (.int x6), .val (.int x7), .val (.long x8), .second, .val (.long x10), .second, .val (.double x12), .second, .val (.double x14), .second, .val (.ref x16), .val (.int x17), .val (.long x18), .second, .val (.double x20), .second, .unset, .val (.int x23), .unset] [])) _
  refine XS.iload X.here hx rfl (hb hby at_241) rfl ?_
  show Steps p.tables e below (T.setTop (mkF m 243 #[.val (.int x0), .val (.int x1), .val (.int x2), .val (.int x3), .val (.int x4), .val (.int x5), .val (.int x6), .val (.int x7), .val (.long x8), .second, .val (.long x10), .second, .val (.double x12), .second, .val (.double x14), .second, .val (.ref x16), .val (.int x17), .val (.long x18), .second, .val (.double x20), .second, .unset, .val (.int x23), .unset] [(.int x7)])) _
  rcases Bool.eq_false_or_eq_true (ifCond.holds .ne x7) with hc1 | hc1
  · try rw [hc1] at k
    refine XS.ifYes X.here hx rfl (pc0 := 243) (pc' := 254) rfl (hb hby at_243) rfl hc1 (by decide) (by decide) ?_
    show Steps p.tables e below (T.setTop (mkF m 254 #[.val (.int x0), .val (.int x1), .val (.int x2), .val (.int x3), .val (.int x4), .val (.int x5), .val (.int x6), .val (.int x7), .val (.long x8), .second, .val (.long x10), .second, .val (.double x12), .second, .val (.double x14), .second, .val (.ref x16), .val (.int x17), .val (.long x18), .second, .val (.double x20), .second, .unset, .val (.int x23), .unset] [])) _
    refine XS.iconst X.here hx rfl (hb hby at_254) ?_
    show Steps p.tables e below (T.setTop (mkF m 255 #[.val (.int x0), .val (.int x1), .val (.int x2), .val (.int x3), .val (.int x4), .val (.int x5), .val (.int x6), .val (.int x7), .val (.long x8), .second, .val (.long x10), .second, .val (.double x12), .second, .val (.double x14), .second, .val (.ref x16), .val (.int x17), .val (.long x18), .second, .val (.double x20), .second, .unset, .val (.int x23), .unset] [(.int (1 : Int32))])) _
    refine XS.goto X.here hx rfl (pc0 := 255) (pc' := 259) rfl (hb hby at_255) (by decide) (by decide) ?_
    exact k
  · try rw [hc1] at k
    refine XS.ifNo X.here hx rfl (hb hby at_243) rfl hc1 ?_
    show Steps p.tables e below (T.setTop (mkF m 246 #[.val (.int x0), .val (.int x1), .val (.int x2), .val (.int x3), .val (.int x4), .val (.int x5), .val (.int x6), .val (.int x7), .val (.long x8), .second, .val (.long x10), .second, .val (.double x12), .second, .val (.double x14), .second, .val (.ref x16), .val (.int x17), .val (.long x18), .second, .val (.double x20), .second, .unset, .val (.int x23), .unset] [])) _
    refine XS.lload X.here hx rfl (hb hby at_246) rfl ?_
    show Steps p.tables e below (T.setTop (mkF m 248 #[.val (.int x0), .val (.int x1), .val (.int x2), .val (.int x3), .val (.int x4), .val (.int x5), .val (.int x6), .val (.int x7), .val (.long x8), .second, .val (.long x10), .second, .val (.double x12), .second, .val (.double x14), .second, .val (.ref x16), .val (.int x17), .val (.long x18), .second, .val (.double x20), .second, .unset, .val (.int x23), .unset] [(.long x18)])) _
    refine XS.lload X.here hx rfl (hb hby at_248) rfl ?_
    show Steps p.tables e below (T.setTop (mkF m 250 #[.val (.int x0), .val (.int x1), .val (.int x2), .val (.int x3), .val (.int x4), .val (.int x5), .val (.int x6), .val (.int x7), .val (.long x8), .second, .val (.long x10), .second, .val (.double x12), .second, .val (.double x14), .second, .val (.ref x16), .val (.int x17), .val (.long x18), .second, .val (.double x20), .second, .unset, .val (.int x23), .unset] [(.long x10), (.long x18)])) _
    refine XS.lcmp X.here hx rfl (hb hby at_250) rfl ?_
    show Steps p.tables e below (T.setTop (mkF m 251 #[.val (.int x0), .val (.int x1), .val (.int x2), .val (.int x3), .val (.int x4), .val (.int x5), .val (.int x6), .val (.int x7), .val (.long x8), .second, .val (.long x10), .second, .val (.double x12), .second, .val (.double x14), .second, .val (.ref x16), .val (.int x17), .val (.long x18), .second, .val (.double x20), .second, .unset, .val (.int x23), .unset] [(.int (lcmpW x18 x10))])) _
    rcases Bool.eq_false_or_eq_true (ifCond.holds .ge (lcmpW x18 x10)) with hc2 | hc2
    · try rw [hc2] at k
      refine XS.ifYes X.here hx rfl (pc0 := 251) (pc' := 258) rfl (hb hby at_251) rfl hc2 (by decide) (by decide) ?_
      show Steps p.tables e below (T.setTop (mkF m 258 #[.val (.int x0), .val (.int x1), .val (.int x2), .val (.int x3), .val (.int x4), .val (.int x5), .val (.int x6), .val (.int x7), .val (.long x8), .second, .val (.long x10), .second, .val (.double x12), .second, .val (.double x14), .second, .val (.ref x16), .val (.int x17), .val (.long x18), .second, .val (.double x20), .second, .unset, .val (.int x23), .unset] [])) _
      refine XS.iconst X.here hx rfl (hb hby at_258) ?_
      exact k
    · try rw [hc2] at k
      refine XS.ifNo X.here hx rfl (hb hby at_251) rfl hc2 ?_
      show Steps p.tables e below (T.setTop (mkF m 254 #[.val (.int x0), .val (.int x1), .val (.int x2), .val (.int x3), .val (.int x4), .val (.int x5), .val (.int x6), .val (.int x7), .val (.long x8), .second, .val (.long x10), .second, .val (.double x12), .second, .val (.double x14), .second, .val (.ref x16), .val (.int x17), .val (.long x18), .second, .val (.double x20), .second, .unset, .val (.int x23), .unset] [])) _
      refine XS.iconst X.here hx rfl (hb hby at_254) ?_
      show Steps p.tables e below (T.setTop (mkF m 255 #[.val (.int x0), .val (.int x1), .val (.int x2), .val (.int x3), .val (.int x4), .val (.int x5), .val (.int x6), .val (.int x7), .val (.long x8), .second, .val (.long x10), .second, .val (.double x12), .second, .val (.double x14), .second, .val (.ref x16), .val (.int x17), .val (.long x18), .second, .val (.double x20), .second, .unset, .val (.int x23), .unset] [(.int (1 : Int32))])) _
      refine XS.goto X.here hx rfl (pc0 := 255) (pc' := 259) rfl (hb hby at_255) (by decide) (by decide) ?_
      exact k
set_option maxRecDepth 65536 in
set_option maxHeartbeats 4000000 in
theorem sg_0_261_276 {p : Program} {l : Launch} {e : Env} {R : Room} {s : State} {m : MethodId} {args : Array Value} {below : List Frame} {meth : Method} {c : Code} {T : State} {locs : List Loc} {cells slots : Nat} {Z : State} {a0 : Array Value} {target : State} {x0 : Int32} {x1 : Int32} {x2 : Int32} {x3 : Int32} {x4 : Int32} {x5 : Int32} {x6 : Int32} {x7 : Int32} {x8 : Int64} {x10 : Int64} {x12 : UInt64} {x14 : UInt64} {x16 : Addr} {x17 : Int32} {x18 : Int64} {x20 : UInt64} {x23 : Int32} {x24 : Int32} (X : Stand p l e R s m args below meth c T locs cells slots) (hx : p.tables.exec = Jvm.exec) (hZ : Z.Warmed39 s.vm) (hw : ∀ d ∈ tables_1, d.before a0 Z = true) (hby : c.code = code) (hown : s.vm.findClass "com/example/mynegai/mynegai/command/DecimalRangeContainsPinLaw" = some m.cls)
    (k : Steps p.tables e below (T.setTop (mkF m 276 #[.val (.int x0), .val (.int x1), .val (.int x2), .val (.int x3), .val (.int x4), .val (.int x5), .val (.int x6), .val (.int x7), .val (.long x8), .second, .val (.long x10), .second, .val (.double x12), .second, .val (.double x14), .second, .val (.ref x16), .val (.int x17), .val (.long x18), .second, .val (.double x20), .second, .unset, .val (.int x23), .val (.int x24)] [(.int (bif (ifCond.holds .eq x23) then (0 : Int32) else (bif (ifCond.holds .eq x24) then (0 : Int32) else (1 : Int32))))])) target) : Steps p.tables e below (T.setTop (mkF m 261 #[.val (.int x0), .val (.int x1), .val (.int x2), .val (.int x3), .val (.int x4), .val (.int x5), .val (.int x6), .val (.int x7), .val (.long x8), .second, .val (.long x10), .second, .val (.double x12), .second, .val (.double x14), .second, .val (.ref x16), .val (.int x17), .val (.long x18), .second, .val (.double x20), .second, .unset, .val (.int x23), .val (.int x24)] [])) target := by
  show Steps p.tables e below (T.setTop (mkF m 261 #[.val (.int x0), .val (.int x1), .val (.int x2), .val (.int x3), .val (.int x4), .val (.int x5), .val (.int x6), .val (.int x7), .val (.long x8), .second, .val (.long x10), .second, .val (.double x12), .second, .val (.double x14), .second, .val (.ref x16), .val (.int x17), .val (.long x18), .second, .val (.double x20), .second, .unset, .val (.int x23), .val (.int x24)] [])) _
  refine XS.iload X.here hx rfl (hb hby at_261) rfl ?_
  show Steps p.tables e below (T.setTop (mkF m 263 #[.val (.int x0), .val (.int x1), .val (.int x2), .val (.int x3), .val (.int x4), .val (.int x5), .val (.int x6), .val (.int x7), .val (.long x8), .second, .val (.long x10), .second, .val (.double x12), .second, .val (.double x14), .second, .val (.ref x16), .val (.int x17), .val (.long x18), .second, .val (.double x20), .second, .unset, .val (.int x23), .val (.int x24)] [(.int x23)])) _
  rcases Bool.eq_false_or_eq_true (ifCond.holds .eq x23) with hc1 | hc1
  · try rw [hc1] at k
    refine XS.ifYes X.here hx rfl (pc0 := 263) (pc' := 275) rfl (hb hby at_263) rfl hc1 (by decide) (by decide) ?_
    show Steps p.tables e below (T.setTop (mkF m 275 #[.val (.int x0), .val (.int x1), .val (.int x2), .val (.int x3), .val (.int x4), .val (.int x5), .val (.int x6), .val (.int x7), .val (.long x8), .second, .val (.long x10), .second, .val (.double x12), .second, .val (.double x14), .second, .val (.ref x16), .val (.int x17), .val (.long x18), .second, .val (.double x20), .second, .unset, .val (.int x23), .val (.int x24)] [])) _
    refine XS.iconst X.here hx rfl (hb hby at_275) ?_
    exact k
  · try rw [hc1] at k
    refine XS.ifNo X.here hx rfl (hb hby at_263) rfl hc1 ?_
    show Steps p.tables e below (T.setTop (mkF m 266 #[.val (.int x0), .val (.int x1), .val (.int x2), .val (.int x3), .val (.int x4), .val (.int x5), .val (.int x6), .val (.int x7), .val (.long x8), .second, .val (.long x10), .second, .val (.double x12), .second, .val (.double x14), .second, .val (.ref x16), .val (.int x17), .val (.long x18), .second, .val (.double x20), .second, .unset, .val (.int x23), .val (.int x24)] [])) _
    refine XS.iload X.here hx rfl (hb hby at_266) rfl ?_
    show Steps p.tables e below (T.setTop (mkF m 268 #[.val (.int x0), .val (.int x1), .val (.int x2), .val (.int x3), .val (.int x4), .val (.int x5), .val (.int x6), .val (.int x7), .val (.long x8), .second, .val (.long x10), .second, .val (.double x12), .second, .val (.double x14), .second, .val (.ref x16), .val (.int x17), .val (.long x18), .second, .val (.double x20), .second, .unset, .val (.int x23), .val (.int x24)] [(.int x24)])) _
    rcases Bool.eq_false_or_eq_true (ifCond.holds .eq x24) with hc2 | hc2
    · try rw [hc2] at k
      refine XS.ifYes X.here hx rfl (pc0 := 268) (pc' := 275) rfl (hb hby at_268) rfl hc2 (by decide) (by decide) ?_
      show Steps p.tables e below (T.setTop (mkF m 275 #[.val (.int x0), .val (.int x1), .val (.int x2), .val (.int x3), .val (.int x4), .val (.int x5), .val (.int x6), .val (.int x7), .val (.long x8), .second, .val (.long x10), .second, .val (.double x12), .second, .val (.double x14), .second, .val (.ref x16), .val (.int x17), .val (.long x18), .second, .val (.double x20), .second, .unset, .val (.int x23), .val (.int x24)] [])) _
      refine XS.iconst X.here hx rfl (hb hby at_275) ?_
      exact k
    · try rw [hc2] at k
      refine XS.ifNo X.here hx rfl (hb hby at_268) rfl hc2 ?_
      show Steps p.tables e below (T.setTop (mkF m 271 #[.val (.int x0), .val (.int x1), .val (.int x2), .val (.int x3), .val (.int x4), .val (.int x5), .val (.int x6), .val (.int x7), .val (.long x8), .second, .val (.long x10), .second, .val (.double x12), .second, .val (.double x14), .second, .val (.ref x16), .val (.int x17), .val (.long x18), .second, .val (.double x20), .second, .unset, .val (.int x23), .val (.int x24)] [])) _
      refine XS.iconst X.here hx rfl (hb hby at_271) ?_
      show Steps p.tables e below (T.setTop (mkF m 272 #[.val (.int x0), .val (.int x1), .val (.int x2), .val (.int x3), .val (.int x4), .val (.int x5), .val (.int x6), .val (.int x7), .val (.long x8), .second, .val (.long x10), .second, .val (.double x12), .second, .val (.double x14), .second, .val (.ref x16), .val (.int x17), .val (.long x18), .second, .val (.double x20), .second, .unset, .val (.int x23), .val (.int x24)] [(.int (1 : Int32))])) _
      refine XS.goto X.here hx rfl (pc0 := 272) (pc' := 276) rfl (hb hby at_272) (by decide) (by decide) ?_
      exact k
set_option maxRecDepth 65536 in
set_option maxHeartbeats 4000000 in
theorem sg_0_119_153 {p : Program} {l : Launch} {e : Env} {R : Room} {s : State} {m : MethodId} {args : Array Value} {below : List Frame} {meth : Method} {c : Code} {T : State} {locs : List Loc} {cells slots : Nat} {Z : State} {a0 : Array Value} {target : State} {x0 : Int32} {x1 : Int32} {x2 : Int32} {x3 : Int32} {x4 : Int32} {x5 : Int32} {x6 : Int32} {x7 : Int32} {x8 : Int64} {x10 : Int64} {x12 : UInt64} {x14 : UInt64} {x16 : Addr} {x17 : Int32} {x18 : Int64} {x20 : UInt64} (X : Stand p l e R s m args below meth c T locs cells slots) (hx : p.tables.exec = Jvm.exec) (hZ : Z.Warmed39 s.vm) (hw : ∀ d ∈ tables_1, d.before a0 Z = true) (hby : c.code = code) (hown : s.vm.findClass "com/example/mynegai/mynegai/command/DecimalRangeContainsPinLaw" = some m.cls)
    (k : Steps p.tables e below (T.setTop (mkF m 153 #[.val (.int x0), .val (.int x1), .val (.int x2), .val (.int x3), .val (.int x4), .val (.int x5), .val (.int x6), .val (.int x7), .val (.long x8), .second, .val (.long x10), .second, .val (.double x12), .second, .val (.double x14), .second, .val (.ref x16), .val (.int x17), .val (.long x18), .second, .val (.double x20), .second, .unset, .unset, .unset] [(.int (bif (ifCond.holds .eq x5) then (bif (ifCond.holds .le (lcmpW x18 x8)) then (0 : Int32) else (1 : Int32)) else (bif (ifCond.holds .lt (lcmpW x18 x8)) then (0 : Int32) else (1 : Int32))))])) target) : Steps p.tables e below (T.setTop (mkF m 119 #[.val (.int x0), .val (.int x1), .val (.int x2), .val (.int x3), .val (.int x4), .val (.int x5), .val (.int x6), .val (.int x7), .val (.long x8), .second, .val (.long x10), .second, .val (.double x12), .second, .val (.double x14), .second, .val (.ref x16), .val (.int x17), .val (.long x18), .second, .val (.double x20), .second, .unset, .unset, .unset] [])) target := by
  show Steps p.tables e below (T.setTop (mkF m 119 #[.val (.int x0), .val (.int x1), .val (.int x2), .val (.int x3), .val (.int x4), .val (.int x5), .val (.int x6), .val (.int x7), .val (.long x8), .second, .val (.long x10), .second, .val (.double x12), .second, .val (.double x14), .second, .val (.ref x16), .val (.int x17), .val (.long x18), .second, .val (.double x20), .second, .unset, .unset, .unset] [])) _
  refine XS.iload X.here hx rfl (hb hby at_119) rfl ?_
  show Steps p.tables e below (T.setTop (mkF m 121 #[.val (.int x0), .val (.int x1), .val (.int x2), .val (.int x3), .val (.int x4), .val (.int x5), .val (.int x6), .val (.int x7), .val (.long x8), .second, .val (.long x10), .second, .val (.double x12), .second, .val (.double x14), .second, .val (.ref x16), .val (.int x17), .val (.long x18), .second, .val (.double x20), .second, .unset, .unset, .unset] [(.int x5)])) _
  rcases Bool.eq_false_or_eq_true (ifCond.holds .eq x5) with hc1 | hc1
  · try rw [hc1] at k
    refine XS.ifYes X.here hx rfl (pc0 := 121) (pc' := 140) rfl (hb hby at_121) rfl hc1 (by decide) (by decide) ?_
    show Steps p.tables e below (T.setTop (mkF m 140 #[.val (.int x0), .val (.int x1), .val (.int x2), .val (.int x3), .val (.int x4), .val (.int x5), .val (.int x6), .val (.int x7), .val (.long x8), .second, .val (.long x10), .second, .val (.double x12), .second, .val (.double x14), .second, .val (.ref x16), .val (.int x17), .val (.long x18), .second, .val (.double x20), .second, .unset, .unset, .unset] [])) _
    refine XS.lload X.here hx rfl (hb hby at_140) rfl ?_
    show Steps p.tables e below (T.setTop (mkF m 142 #[.val (.int x0), .val (.int x1), .val (.int x2), .val (.int x3), .val (.int x4), .val (.int x5), .val (.int x6), .val (.int x7), .val (.long x8), .second, .val (.long x10), .second, .val (.double x12), .second, .val (.double x14), .second, .val (.ref x16), .val (.int x17), .val (.long x18), .second, .val (.double x20), .second, .unset, .unset, .unset] [(.long x18)])) _
    refine XS.lload X.here hx rfl (hb hby at_142) rfl ?_
    show Steps p.tables e below (T.setTop (mkF m 144 #[.val (.int x0), .val (.int x1), .val (.int x2), .val (.int x3), .val (.int x4), .val (.int x5), .val (.int x6), .val (.int x7), .val (.long x8), .second, .val (.long x10), .second, .val (.double x12), .second, .val (.double x14), .second, .val (.ref x16), .val (.int x17), .val (.long x18), .second, .val (.double x20), .second, .unset, .unset, .unset] [(.long x8), (.long x18)])) _
    refine XS.lcmp X.here hx rfl (hb hby at_144) rfl ?_
    show Steps p.tables e below (T.setTop (mkF m 145 #[.val (.int x0), .val (.int x1), .val (.int x2), .val (.int x3), .val (.int x4), .val (.int x5), .val (.int x6), .val (.int x7), .val (.long x8), .second, .val (.long x10), .second, .val (.double x12), .second, .val (.double x14), .second, .val (.ref x16), .val (.int x17), .val (.long x18), .second, .val (.double x20), .second, .unset, .unset, .unset] [(.int (lcmpW x18 x8))])) _
    rcases Bool.eq_false_or_eq_true (ifCond.holds .le (lcmpW x18 x8)) with hc2 | hc2
    · try rw [hc2] at k
      refine XS.ifYes X.here hx rfl (pc0 := 145) (pc' := 152) rfl (hb hby at_145) rfl hc2 (by decide) (by decide) ?_
      show Steps p.tables e below (T.setTop (mkF m 152 #[.val (.int x0), .val (.int x1), .val (.int x2), .val (.int x3), .val (.int x4), .val (.int x5), .val (.int x6), .val (.int x7), .val (.long x8), .second, .val (.long x10), .second, .val (.double x12), .second, .val (.double x14), .second, .val (.ref x16), .val (.int x17), .val (.long x18), .second, .val (.double x20), .second, .unset, .unset, .unset] [])) _
      refine XS.iconst X.here hx rfl (hb hby at_152) ?_
      exact k
    · try rw [hc2] at k
      refine XS.ifNo X.here hx rfl (hb hby at_145) rfl hc2 ?_
      show Steps p.tables e below (T.setTop (mkF m 148 #[.val (.int x0), .val (.int x1), .val (.int x2), .val (.int x3), .val (.int x4), .val (.int x5), .val (.int x6), .val (.int x7), .val (.long x8), .second, .val (.long x10), .second, .val (.double x12), .second, .val (.double x14), .second, .val (.ref x16), .val (.int x17), .val (.long x18), .second, .val (.double x20), .second, .unset, .unset, .unset] [])) _
      refine XS.iconst X.here hx rfl (hb hby at_148) ?_
      show Steps p.tables e below (T.setTop (mkF m 149 #[.val (.int x0), .val (.int x1), .val (.int x2), .val (.int x3), .val (.int x4), .val (.int x5), .val (.int x6), .val (.int x7), .val (.long x8), .second, .val (.long x10), .second, .val (.double x12), .second, .val (.double x14), .second, .val (.ref x16), .val (.int x17), .val (.long x18), .second, .val (.double x20), .second, .unset, .unset, .unset] [(.int (1 : Int32))])) _
      refine XS.goto X.here hx rfl (pc0 := 149) (pc' := 153) rfl (hb hby at_149) (by decide) (by decide) ?_
      exact k
  · try rw [hc1] at k
    refine XS.ifNo X.here hx rfl (hb hby at_121) rfl hc1 ?_
    show Steps p.tables e below (T.setTop (mkF m 124 #[.val (.int x0), .val (.int x1), .val (.int x2), .val (.int x3), .val (.int x4), .val (.int x5), .val (.int x6), .val (.int x7), .val (.long x8), .second, .val (.long x10), .second, .val (.double x12), .second, .val (.double x14), .second, .val (.ref x16), .val (.int x17), .val (.long x18), .second, .val (.double x20), .second, .unset, .unset, .unset] [])) _
    refine XS.lload X.here hx rfl (hb hby at_124) rfl ?_
    show Steps p.tables e below (T.setTop (mkF m 126 #[.val (.int x0), .val (.int x1), .val (.int x2), .val (.int x3), .val (.int x4), .val (.int x5), .val (.int x6), .val (.int x7), .val (.long x8), .second, .val (.long x10), .second, .val (.double x12), .second, .val (.double x14), .second, .val (.ref x16), .val (.int x17), .val (.long x18), .second, .val (.double x20), .second, .unset, .unset, .unset] [(.long x18)])) _
    refine XS.lload X.here hx rfl (hb hby at_126) rfl ?_
    show Steps p.tables e below (T.setTop (mkF m 128 #[.val (.int x0), .val (.int x1), .val (.int x2), .val (.int x3), .val (.int x4), .val (.int x5), .val (.int x6), .val (.int x7), .val (.long x8), .second, .val (.long x10), .second, .val (.double x12), .second, .val (.double x14), .second, .val (.ref x16), .val (.int x17), .val (.long x18), .second, .val (.double x20), .second, .unset, .unset, .unset] [(.long x8), (.long x18)])) _
    refine XS.lcmp X.here hx rfl (hb hby at_128) rfl ?_
    show Steps p.tables e below (T.setTop (mkF m 129 #[.val (.int x0), .val (.int x1), .val (.int x2), .val (.int x3), .val (.int x4), .val (.int x5), .val (.int x6), .val (.int x7), .val (.long x8), .second, .val (.long x10), .second, .val (.double x12), .second, .val (.double x14), .second, .val (.ref x16), .val (.int x17), .val (.long x18), .second, .val (.double x20), .second, .unset, .unset, .unset] [(.int (lcmpW x18 x8))])) _
    rcases Bool.eq_false_or_eq_true (ifCond.holds .lt (lcmpW x18 x8)) with hc3 | hc3
    · try rw [hc3] at k
      refine XS.ifYes X.here hx rfl (pc0 := 129) (pc' := 136) rfl (hb hby at_129) rfl hc3 (by decide) (by decide) ?_
      show Steps p.tables e below (T.setTop (mkF m 136 #[.val (.int x0), .val (.int x1), .val (.int x2), .val (.int x3), .val (.int x4), .val (.int x5), .val (.int x6), .val (.int x7), .val (.long x8), .second, .val (.long x10), .second, .val (.double x12), .second, .val (.double x14), .second, .val (.ref x16), .val (.int x17), .val (.long x18), .second, .val (.double x20), .second, .unset, .unset, .unset] [])) _
      refine XS.iconst X.here hx rfl (hb hby at_136) ?_
      show Steps p.tables e below (T.setTop (mkF m 137 #[.val (.int x0), .val (.int x1), .val (.int x2), .val (.int x3), .val (.int x4), .val (.int x5), .val (.int x6), .val (.int x7), .val (.long x8), .second, .val (.long x10), .second, .val (.double x12), .second, .val (.double x14), .second, .val (.ref x16), .val (.int x17), .val (.long x18), .second, .val (.double x20), .second, .unset, .unset, .unset] [(.int (0 : Int32))])) _
      refine XS.goto X.here hx rfl (pc0 := 137) (pc' := 153) rfl (hb hby at_137) (by decide) (by decide) ?_
      exact k
    · try rw [hc3] at k
      refine XS.ifNo X.here hx rfl (hb hby at_129) rfl hc3 ?_
      show Steps p.tables e below (T.setTop (mkF m 132 #[.val (.int x0), .val (.int x1), .val (.int x2), .val (.int x3), .val (.int x4), .val (.int x5), .val (.int x6), .val (.int x7), .val (.long x8), .second, .val (.long x10), .second, .val (.double x12), .second, .val (.double x14), .second, .val (.ref x16), .val (.int x17), .val (.long x18), .second, .val (.double x20), .second, .unset, .unset, .unset] [])) _
      refine XS.iconst X.here hx rfl (hb hby at_132) ?_
      show Steps p.tables e below (T.setTop (mkF m 133 #[.val (.int x0), .val (.int x1), .val (.int x2), .val (.int x3), .val (.int x4), .val (.int x5), .val (.int x6), .val (.int x7), .val (.long x8), .second, .val (.long x10), .second, .val (.double x12), .second, .val (.double x14), .second, .val (.ref x16), .val (.int x17), .val (.long x18), .second, .val (.double x20), .second, .unset, .unset, .unset] [(.int (1 : Int32))])) _
      refine XS.goto X.here hx rfl (pc0 := 133) (pc' := 153) rfl (hb hby at_133) (by decide) (by decide) ?_
      exact k
set_option maxRecDepth 65536 in
set_option maxHeartbeats 4000000 in
theorem sg_0_155_189 {p : Program} {l : Launch} {e : Env} {R : Room} {s : State} {m : MethodId} {args : Array Value} {below : List Frame} {meth : Method} {c : Code} {T : State} {locs : List Loc} {cells slots : Nat} {Z : State} {a0 : Array Value} {target : State} {x0 : Int32} {x1 : Int32} {x2 : Int32} {x3 : Int32} {x4 : Int32} {x5 : Int32} {x6 : Int32} {x7 : Int32} {x8 : Int64} {x10 : Int64} {x12 : UInt64} {x14 : UInt64} {x16 : Addr} {x17 : Int32} {x18 : Int64} {x20 : UInt64} {x23 : Int32} (X : Stand p l e R s m args below meth c T locs cells slots) (hx : p.tables.exec = Jvm.exec) (hZ : Z.Warmed39 s.vm) (hw : ∀ d ∈ tables_1, d.before a0 Z = true) (hby : c.code = code) (hown : s.vm.findClass "com/example/mynegai/mynegai/command/DecimalRangeContainsPinLaw" = some m.cls)
    (k : Steps p.tables e below (T.setTop (mkF m 189 #[.val (.int x0), .val (.int x1), .val (.int x2), .val (.int x3), .val (.int x4), .val (.int x5), .val (.int x6), .val (.int x7), .val (.long x8), .second, .val (.long x10), .second, .val (.double x12), .second, .val (.double x14), .second, .val (.ref x16), .val (.int x17), .val (.long x18), .second, .val (.double x20), .second, .unset, .val (.int x23), .unset] [(.int (bif (ifCond.holds .ne x7) then (1 : Int32) else (bif (ifCond.holds .eq x6) then (bif (ifCond.holds .ge (lcmpW x18 x10)) then (0 : Int32) else (1 : Int32)) else (bif (ifCond.holds .gt (lcmpW x18 x10)) then (0 : Int32) else (1 : Int32)))))])) target) : Steps p.tables e below (T.setTop (mkF m 155 #[.val (.int x0), .val (.int x1), .val (.int x2), .val (.int x3), .val (.int x4), .val (.int x5), .val (.int x6), .val (.int x7), .val (.long x8), .second, .val (.long x10), .second, .val (.double x12), .second, .val (.double x14), .second, .val (.ref x16), .val (.int x17), .val (.long x18), .second, .val (.double x20), .second, .unset, .val (.int x23), .unset] [])) target := by
  show Steps p.tables e below (T.setTop (mkF m 155 #[.val (.int x0), .val (.int x1), .val (.int x2), .val (.int x3), .val (.int x4), .val (.int x5), .val (.int x6), .val (.int x7), .val (.long x8), .second, .val (.long x10), .second, .val (.double x12), .second, .val (.double x14), .second, .val (.ref x16), .val (.int x17), .val (.long x18), .second, .val (.double x20), .second, .unset, .val (.int x23), .unset] [])) _
  refine XS.iload X.here hx rfl (hb hby at_155) rfl ?_
  show Steps p.tables e below (T.setTop (mkF m 157 #[.val (.int x0), .val (.int x1), .val (.int x2), .val (.int x3), .val (.int x4), .val (.int x5), .val (.int x6), .val (.int x7), .val (.long x8), .second, .val (.long x10), .second, .val (.double x12), .second, .val (.double x14), .second, .val (.ref x16), .val (.int x17), .val (.long x18), .second, .val (.double x20), .second, .unset, .val (.int x23), .unset] [(.int x7)])) _
  rcases Bool.eq_false_or_eq_true (ifCond.holds .ne x7) with hc1 | hc1
  · try rw [hc1] at k
    refine XS.ifYes X.here hx rfl (pc0 := 157) (pc' := 184) rfl (hb hby at_157) rfl hc1 (by decide) (by decide) ?_
    show Steps p.tables e below (T.setTop (mkF m 184 #[.val (.int x0), .val (.int x1), .val (.int x2), .val (.int x3), .val (.int x4), .val (.int x5), .val (.int x6), .val (.int x7), .val (.long x8), .second, .val (.long x10), .second, .val (.double x12), .second, .val (.double x14), .second, .val (.ref x16), .val (.int x17), .val (.long x18), .second, .val (.double x20), .second, .unset, .val (.int x23), .unset] [])) _
    refine XS.iconst X.here hx rfl (hb hby at_184) ?_
    show Steps p.tables e below (T.setTop (mkF m 185 #[.val (.int x0), .val (.int x1), .val (.int x2), .val (.int x3), .val (.int x4), .val (.int x5), .val (.int x6), .val (.int x7), .val (.long x8), .second, .val (.long x10), .second, .val (.double x12), .second, .val (.double x14), .second, .val (.ref x16), .val (.int x17), .val (.long x18), .second, .val (.double x20), .second, .unset, .val (.int x23), .unset] [(.int (1 : Int32))])) _
    refine XS.goto X.here hx rfl (pc0 := 185) (pc' := 189) rfl (hb hby at_185) (by decide) (by decide) ?_
    exact k
  · try rw [hc1] at k
    refine XS.ifNo X.here hx rfl (hb hby at_157) rfl hc1 ?_
    show Steps p.tables e below (T.setTop (mkF m 160 #[.val (.int x0), .val (.int x1), .val (.int x2), .val (.int x3), .val (.int x4), .val (.int x5), .val (.int x6), .val (.int x7), .val (.long x8), .second, .val (.long x10), .second, .val (.double x12), .second, .val (.double x14), .second, .val (.ref x16), .val (.int x17), .val (.long x18), .second, .val (.double x20), .second, .unset, .val (.int x23), .unset] [])) _
    refine XS.iload X.here hx rfl (hb hby at_160) rfl ?_
    show Steps p.tables e below (T.setTop (mkF m 162 #[.val (.int x0), .val (.int x1), .val (.int x2), .val (.int x3), .val (.int x4), .val (.int x5), .val (.int x6), .val (.int x7), .val (.long x8), .second, .val (.long x10), .second, .val (.double x12), .second, .val (.double x14), .second, .val (.ref x16), .val (.int x17), .val (.long x18), .second, .val (.double x20), .second, .unset, .val (.int x23), .unset] [(.int x6)])) _
    rcases Bool.eq_false_or_eq_true (ifCond.holds .eq x6) with hc2 | hc2
    · try rw [hc2] at k
      refine XS.ifYes X.here hx rfl (pc0 := 162) (pc' := 176) rfl (hb hby at_162) rfl hc2 (by decide) (by decide) ?_
      show Steps p.tables e below (T.setTop (mkF m 176 #[.val (.int x0), .val (.int x1), .val (.int x2), .val (.int x3), .val (.int x4), .val (.int x5), .val (.int x6), .val (.int x7), .val (.long x8), .second, .val (.long x10), .second, .val (.double x12), .second, .val (.double x14), .second, .val (.ref x16), .val (.int x17), .val (.long x18), .second, .val (.double x20), .second, .unset, .val (.int x23), .unset] [])) _
      refine XS.lload X.here hx rfl (hb hby at_176) rfl ?_
      show Steps p.tables e below (T.setTop (mkF m 178 #[.val (.int x0), .val (.int x1), .val (.int x2), .val (.int x3), .val (.int x4), .val (.int x5), .val (.int x6), .val (.int x7), .val (.long x8), .second, .val (.long x10), .second, .val (.double x12), .second, .val (.double x14), .second, .val (.ref x16), .val (.int x17), .val (.long x18), .second, .val (.double x20), .second, .unset, .val (.int x23), .unset] [(.long x18)])) _
      refine XS.lload X.here hx rfl (hb hby at_178) rfl ?_
      show Steps p.tables e below (T.setTop (mkF m 180 #[.val (.int x0), .val (.int x1), .val (.int x2), .val (.int x3), .val (.int x4), .val (.int x5), .val (.int x6), .val (.int x7), .val (.long x8), .second, .val (.long x10), .second, .val (.double x12), .second, .val (.double x14), .second, .val (.ref x16), .val (.int x17), .val (.long x18), .second, .val (.double x20), .second, .unset, .val (.int x23), .unset] [(.long x10), (.long x18)])) _
      refine XS.lcmp X.here hx rfl (hb hby at_180) rfl ?_
      show Steps p.tables e below (T.setTop (mkF m 181 #[.val (.int x0), .val (.int x1), .val (.int x2), .val (.int x3), .val (.int x4), .val (.int x5), .val (.int x6), .val (.int x7), .val (.long x8), .second, .val (.long x10), .second, .val (.double x12), .second, .val (.double x14), .second, .val (.ref x16), .val (.int x17), .val (.long x18), .second, .val (.double x20), .second, .unset, .val (.int x23), .unset] [(.int (lcmpW x18 x10))])) _
      rcases Bool.eq_false_or_eq_true (ifCond.holds .ge (lcmpW x18 x10)) with hc3 | hc3
      · try rw [hc3] at k
        refine XS.ifYes X.here hx rfl (pc0 := 181) (pc' := 188) rfl (hb hby at_181) rfl hc3 (by decide) (by decide) ?_
        show Steps p.tables e below (T.setTop (mkF m 188 #[.val (.int x0), .val (.int x1), .val (.int x2), .val (.int x3), .val (.int x4), .val (.int x5), .val (.int x6), .val (.int x7), .val (.long x8), .second, .val (.long x10), .second, .val (.double x12), .second, .val (.double x14), .second, .val (.ref x16), .val (.int x17), .val (.long x18), .second, .val (.double x20), .second, .unset, .val (.int x23), .unset] [])) _
        refine XS.iconst X.here hx rfl (hb hby at_188) ?_
        exact k
      · try rw [hc3] at k
        refine XS.ifNo X.here hx rfl (hb hby at_181) rfl hc3 ?_
        show Steps p.tables e below (T.setTop (mkF m 184 #[.val (.int x0), .val (.int x1), .val (.int x2), .val (.int x3), .val (.int x4), .val (.int x5), .val (.int x6), .val (.int x7), .val (.long x8), .second, .val (.long x10), .second, .val (.double x12), .second, .val (.double x14), .second, .val (.ref x16), .val (.int x17), .val (.long x18), .second, .val (.double x20), .second, .unset, .val (.int x23), .unset] [])) _
        refine XS.iconst X.here hx rfl (hb hby at_184) ?_
        show Steps p.tables e below (T.setTop (mkF m 185 #[.val (.int x0), .val (.int x1), .val (.int x2), .val (.int x3), .val (.int x4), .val (.int x5), .val (.int x6), .val (.int x7), .val (.long x8), .second, .val (.long x10), .second, .val (.double x12), .second, .val (.double x14), .second, .val (.ref x16), .val (.int x17), .val (.long x18), .second, .val (.double x20), .second, .unset, .val (.int x23), .unset] [(.int (1 : Int32))])) _
        refine XS.goto X.here hx rfl (pc0 := 185) (pc' := 189) rfl (hb hby at_185) (by decide) (by decide) ?_
        exact k
    · try rw [hc2] at k
      refine XS.ifNo X.here hx rfl (hb hby at_162) rfl hc2 ?_
      show Steps p.tables e below (T.setTop (mkF m 165 #[.val (.int x0), .val (.int x1), .val (.int x2), .val (.int x3), .val (.int x4), .val (.int x5), .val (.int x6), .val (.int x7), .val (.long x8), .second, .val (.long x10), .second, .val (.double x12), .second, .val (.double x14), .second, .val (.ref x16), .val (.int x17), .val (.long x18), .second, .val (.double x20), .second, .unset, .val (.int x23), .unset] [])) _
      refine XS.lload X.here hx rfl (hb hby at_165) rfl ?_
      show Steps p.tables e below (T.setTop (mkF m 167 #[.val (.int x0), .val (.int x1), .val (.int x2), .val (.int x3), .val (.int x4), .val (.int x5), .val (.int x6), .val (.int x7), .val (.long x8), .second, .val (.long x10), .second, .val (.double x12), .second, .val (.double x14), .second, .val (.ref x16), .val (.int x17), .val (.long x18), .second, .val (.double x20), .second, .unset, .val (.int x23), .unset] [(.long x18)])) _
      refine XS.lload X.here hx rfl (hb hby at_167) rfl ?_
      show Steps p.tables e below (T.setTop (mkF m 169 #[.val (.int x0), .val (.int x1), .val (.int x2), .val (.int x3), .val (.int x4), .val (.int x5), .val (.int x6), .val (.int x7), .val (.long x8), .second, .val (.long x10), .second, .val (.double x12), .second, .val (.double x14), .second, .val (.ref x16), .val (.int x17), .val (.long x18), .second, .val (.double x20), .second, .unset, .val (.int x23), .unset] [(.long x10), (.long x18)])) _
      refine XS.lcmp X.here hx rfl (hb hby at_169) rfl ?_
      show Steps p.tables e below (T.setTop (mkF m 170 #[.val (.int x0), .val (.int x1), .val (.int x2), .val (.int x3), .val (.int x4), .val (.int x5), .val (.int x6), .val (.int x7), .val (.long x8), .second, .val (.long x10), .second, .val (.double x12), .second, .val (.double x14), .second, .val (.ref x16), .val (.int x17), .val (.long x18), .second, .val (.double x20), .second, .unset, .val (.int x23), .unset] [(.int (lcmpW x18 x10))])) _
      rcases Bool.eq_false_or_eq_true (ifCond.holds .gt (lcmpW x18 x10)) with hc4 | hc4
      · try rw [hc4] at k
        refine XS.ifYes X.here hx rfl (pc0 := 170) (pc' := 188) rfl (hb hby at_170) rfl hc4 (by decide) (by decide) ?_
        show Steps p.tables e below (T.setTop (mkF m 188 #[.val (.int x0), .val (.int x1), .val (.int x2), .val (.int x3), .val (.int x4), .val (.int x5), .val (.int x6), .val (.int x7), .val (.long x8), .second, .val (.long x10), .second, .val (.double x12), .second, .val (.double x14), .second, .val (.ref x16), .val (.int x17), .val (.long x18), .second, .val (.double x20), .second, .unset, .val (.int x23), .unset] [])) _
        refine XS.iconst X.here hx rfl (hb hby at_188) ?_
        exact k
      · try rw [hc4] at k
        refine XS.ifNo X.here hx rfl (hb hby at_170) rfl hc4 ?_
        show Steps p.tables e below (T.setTop (mkF m 173 #[.val (.int x0), .val (.int x1), .val (.int x2), .val (.int x3), .val (.int x4), .val (.int x5), .val (.int x6), .val (.int x7), .val (.long x8), .second, .val (.long x10), .second, .val (.double x12), .second, .val (.double x14), .second, .val (.ref x16), .val (.int x17), .val (.long x18), .second, .val (.double x20), .second, .unset, .val (.int x23), .unset] [])) _
        refine XS.goto X.here hx rfl (pc0 := 173) (pc' := 184) rfl (hb hby at_173) (by decide) (by decide) ?_
        show Steps p.tables e below (T.setTop (mkF m 184 #[.val (.int x0), .val (.int x1), .val (.int x2), .val (.int x3), .val (.int x4), .val (.int x5), .val (.int x6), .val (.int x7), .val (.long x8), .second, .val (.long x10), .second, .val (.double x12), .second, .val (.double x14), .second, .val (.ref x16), .val (.int x17), .val (.long x18), .second, .val (.double x20), .second, .unset, .val (.int x23), .unset] [])) _
        refine XS.iconst X.here hx rfl (hb hby at_184) ?_
        show Steps p.tables e below (T.setTop (mkF m 185 #[.val (.int x0), .val (.int x1), .val (.int x2), .val (.int x3), .val (.int x4), .val (.int x5), .val (.int x6), .val (.int x7), .val (.long x8), .second, .val (.long x10), .second, .val (.double x12), .second, .val (.double x14), .second, .val (.ref x16), .val (.int x17), .val (.long x18), .second, .val (.double x20), .second, .unset, .val (.int x23), .unset] [(.int (1 : Int32))])) _
        refine XS.goto X.here hx rfl (pc0 := 185) (pc' := 189) rfl (hb hby at_185) (by decide) (by decide) ?_
        exact k
set_option maxRecDepth 65536 in
set_option maxHeartbeats 4000000 in
theorem sg_0_191_206 {p : Program} {l : Launch} {e : Env} {R : Room} {s : State} {m : MethodId} {args : Array Value} {below : List Frame} {meth : Method} {c : Code} {T : State} {locs : List Loc} {cells slots : Nat} {Z : State} {a0 : Array Value} {target : State} {x0 : Int32} {x1 : Int32} {x2 : Int32} {x3 : Int32} {x4 : Int32} {x5 : Int32} {x6 : Int32} {x7 : Int32} {x8 : Int64} {x10 : Int64} {x12 : UInt64} {x14 : UInt64} {x16 : Addr} {x17 : Int32} {x18 : Int64} {x20 : UInt64} {x23 : Int32} {x24 : Int32} (X : Stand p l e R s m args below meth c T locs cells slots) (hx : p.tables.exec = Jvm.exec) (hZ : Z.Warmed39 s.vm) (hw : ∀ d ∈ tables_1, d.before a0 Z = true) (hby : c.code = code) (hown : s.vm.findClass "com/example/mynegai/mynegai/command/DecimalRangeContainsPinLaw" = some m.cls)
    (k : Steps p.tables e below (T.setTop (mkF m 206 #[.val (.int x0), .val (.int x1), .val (.int x2), .val (.int x3), .val (.int x4), .val (.int x5), .val (.int x6), .val (.int x7), .val (.long x8), .second, .val (.long x10), .second, .val (.double x12), .second, .val (.double x14), .second, .val (.ref x16), .val (.int x17), .val (.long x18), .second, .val (.double x20), .second, .unset, .val (.int x23), .val (.int x24)] [(.int (bif (ifCond.holds .eq x23) then (0 : Int32) else (bif (ifCond.holds .eq x24) then (0 : Int32) else (1 : Int32))))])) target) : Steps p.tables e below (T.setTop (mkF m 191 #[.val (.int x0), .val (.int x1), .val (.int x2), .val (.int x3), .val (.int x4), .val (.int x5), .val (.int x6), .val (.int x7), .val (.long x8), .second, .val (.long x10), .second, .val (.double x12), .second, .val (.double x14), .second, .val (.ref x16), .val (.int x17), .val (.long x18), .second, .val (.double x20), .second, .unset, .val (.int x23), .val (.int x24)] [])) target := by
  show Steps p.tables e below (T.setTop (mkF m 191 #[.val (.int x0), .val (.int x1), .val (.int x2), .val (.int x3), .val (.int x4), .val (.int x5), .val (.int x6), .val (.int x7), .val (.long x8), .second, .val (.long x10), .second, .val (.double x12), .second, .val (.double x14), .second, .val (.ref x16), .val (.int x17), .val (.long x18), .second, .val (.double x20), .second, .unset, .val (.int x23), .val (.int x24)] [])) _
  refine XS.iload X.here hx rfl (hb hby at_191) rfl ?_
  show Steps p.tables e below (T.setTop (mkF m 193 #[.val (.int x0), .val (.int x1), .val (.int x2), .val (.int x3), .val (.int x4), .val (.int x5), .val (.int x6), .val (.int x7), .val (.long x8), .second, .val (.long x10), .second, .val (.double x12), .second, .val (.double x14), .second, .val (.ref x16), .val (.int x17), .val (.long x18), .second, .val (.double x20), .second, .unset, .val (.int x23), .val (.int x24)] [(.int x23)])) _
  rcases Bool.eq_false_or_eq_true (ifCond.holds .eq x23) with hc1 | hc1
  · try rw [hc1] at k
    refine XS.ifYes X.here hx rfl (pc0 := 193) (pc' := 205) rfl (hb hby at_193) rfl hc1 (by decide) (by decide) ?_
    show Steps p.tables e below (T.setTop (mkF m 205 #[.val (.int x0), .val (.int x1), .val (.int x2), .val (.int x3), .val (.int x4), .val (.int x5), .val (.int x6), .val (.int x7), .val (.long x8), .second, .val (.long x10), .second, .val (.double x12), .second, .val (.double x14), .second, .val (.ref x16), .val (.int x17), .val (.long x18), .second, .val (.double x20), .second, .unset, .val (.int x23), .val (.int x24)] [])) _
    refine XS.iconst X.here hx rfl (hb hby at_205) ?_
    exact k
  · try rw [hc1] at k
    refine XS.ifNo X.here hx rfl (hb hby at_193) rfl hc1 ?_
    show Steps p.tables e below (T.setTop (mkF m 196 #[.val (.int x0), .val (.int x1), .val (.int x2), .val (.int x3), .val (.int x4), .val (.int x5), .val (.int x6), .val (.int x7), .val (.long x8), .second, .val (.long x10), .second, .val (.double x12), .second, .val (.double x14), .second, .val (.ref x16), .val (.int x17), .val (.long x18), .second, .val (.double x20), .second, .unset, .val (.int x23), .val (.int x24)] [])) _
    refine XS.iload X.here hx rfl (hb hby at_196) rfl ?_
    show Steps p.tables e below (T.setTop (mkF m 198 #[.val (.int x0), .val (.int x1), .val (.int x2), .val (.int x3), .val (.int x4), .val (.int x5), .val (.int x6), .val (.int x7), .val (.long x8), .second, .val (.long x10), .second, .val (.double x12), .second, .val (.double x14), .second, .val (.ref x16), .val (.int x17), .val (.long x18), .second, .val (.double x20), .second, .unset, .val (.int x23), .val (.int x24)] [(.int x24)])) _
    rcases Bool.eq_false_or_eq_true (ifCond.holds .eq x24) with hc2 | hc2
    · try rw [hc2] at k
      refine XS.ifYes X.here hx rfl (pc0 := 198) (pc' := 205) rfl (hb hby at_198) rfl hc2 (by decide) (by decide) ?_
      show Steps p.tables e below (T.setTop (mkF m 205 #[.val (.int x0), .val (.int x1), .val (.int x2), .val (.int x3), .val (.int x4), .val (.int x5), .val (.int x6), .val (.int x7), .val (.long x8), .second, .val (.long x10), .second, .val (.double x12), .second, .val (.double x14), .second, .val (.ref x16), .val (.int x17), .val (.long x18), .second, .val (.double x20), .second, .unset, .val (.int x23), .val (.int x24)] [])) _
      refine XS.iconst X.here hx rfl (hb hby at_205) ?_
      exact k
    · try rw [hc2] at k
      refine XS.ifNo X.here hx rfl (hb hby at_198) rfl hc2 ?_
      show Steps p.tables e below (T.setTop (mkF m 201 #[.val (.int x0), .val (.int x1), .val (.int x2), .val (.int x3), .val (.int x4), .val (.int x5), .val (.int x6), .val (.int x7), .val (.long x8), .second, .val (.long x10), .second, .val (.double x12), .second, .val (.double x14), .second, .val (.ref x16), .val (.int x17), .val (.long x18), .second, .val (.double x20), .second, .unset, .val (.int x23), .val (.int x24)] [])) _
      refine XS.iconst X.here hx rfl (hb hby at_201) ?_
      show Steps p.tables e below (T.setTop (mkF m 202 #[.val (.int x0), .val (.int x1), .val (.int x2), .val (.int x3), .val (.int x4), .val (.int x5), .val (.int x6), .val (.int x7), .val (.long x8), .second, .val (.long x10), .second, .val (.double x12), .second, .val (.double x14), .second, .val (.ref x16), .val (.int x17), .val (.long x18), .second, .val (.double x20), .second, .unset, .val (.int x23), .val (.int x24)] [(.int (1 : Int32))])) _
      refine XS.goto X.here hx rfl (pc0 := 202) (pc' := 206) rfl (hb hby at_202) (by decide) (by decide) ?_
      exact k
def Q0 (Z : State) (p0 p1 p2 p3 p4 : Int32) (h0 : Heap) (n0 : Nat) (v : Option Value) (h : Heap) (L : List Loc) : Prop := v = some (.int 1) ∧ Fr n0 L
set_option maxRecDepth 65536 in
set_option maxHeartbeats 40000000 in
theorem rm0 (l : Launch) (Z : State) (a0 : Array Value) (hw : ∀ d ∈ tables_1, d.before a0 Z = true) (ws : List Jvm.Cond) (p0 p1 p2 p3 p4 : Int32) (h0 : Heap) (n0 : Nat) (Z0 : n0 ≤ h0.size) :
    MetFree l x (head1 (Jvm.Cond.code x code maxLocals ret :: ws) room_1) (fun a U => a = #[(.int p0), (.int p1), (.int p2), (.int p3), (.int p4)] ∧ Z.Warmed39 U.vm ∧ U.heap = h0) (fun _ _ _ _ _ => True) (fun _ U o U' => ∃ v L, o = .returned v ∧ Q0 Z p0 p1 p2 p3 p4 h0 n0 v U'.heap L ∧ FrameEnd U o U' L room_1.cells room_1.slots) := by
  refine MetFree.of_bodySF (plainFor_of_name pn_2) hisR ?_
  intro p e s m args below meth c s₁ Bd hml0 hP hK
  obtain ⟨rfl, hZ, hh⟩ := hP
  have hx := Bd.exec
  have hby := Bd.bytes
  have hml : c.maxLocals = 25 := hml0
  have hown : s.vm.findClass "com/example/mynegai/mynegai/command/DecimalRangeContainsPinLaw" = some m.cls := findClass_of_methodNamed Bd.named
  have hnm := (name_of_methodNamed Bd.named Bd.method).1
  have X0 : Stand p l e room_1 s m #[(.int p0), (.int p1), (.int p2), (.int p3), (.int p4)] below meth c s₁ [] 0 0 := Stand.of_body Bd
  have e0 : s₁.heap = h0 := by rw [← hh, Bd.state]; rfl
  have N0 := Fr.nil n0
  have pre0 : ∀ t, Steps p.tables e below (s₁.setTop (mkF m 0 #[.val (.int p0), .val (.int p1), .val (.int p2), .val (.int p3), .val (.int p4), .unset, .unset, .unset, .unset, .unset, .unset, .unset, .unset, .unset, .unset, .unset, .unset, .unset, .unset, .unset, .unset, .unset, .unset, .unset, .unset] [])) t → Steps p.tables e below (s₁.setTop (entryFrame m #[(.int p0), (.int p1), (.int p2), (.int p3), (.int p4)] maxLocals)) t := fun t k => castTop (ef_0 m p0 p1 p2 p3 p4) k
  obtain ⟨T1, h1, X1, e1, E1, A1, D1, -, st1⟩ := newO X0 hx hZ hown (hw _ (List.mem_of_getElem? (i := 1) rfl)) (hw _ (List.mem_of_getElem? (i := 2) rfl)) (hw _ (List.mem_of_getElem? (i := 3) rfl)) e0 (g := (mkF m 80 #[.val (.int p0), .val (.int p1), .val (.int p2), .val (.int p3), .val (.int p4), .val (.int (own_bit p4 (1 : Int32))), .val (.int (own_bit p4 (2 : Int32))), .val (.int (own_bit p4 (4 : Int32))), .val (.long (own_m p0)), .second, .val (.long (own_M p0 p1)), .second, .val (.double (FP.l2d (own_m p0))), .second, .val (.double (own_max p0 p1 p4)), .second, .unset, .unset, .unset, .unset, .unset, .unset, .unset, .unset, .unset] [])) rfl (hb hby at_80) (by decide) (by decide)
  obtain ⟨b1, g1⟩ : ∃ z, z = h0.size := ⟨_, rfl⟩
  rw [← g1] at A1 D1 st1
  have F1_min : Fld Z h1 b1 "com/example/mynegai/mynegai/command/DecimalRange" "min" "D" (.double (0 : UInt64)) := D1 (Or.inr (hw _ (List.mem_of_getElem? (i := 17) rfl))) (ty := .double) (by decide)
  have F1_minIncluded : Fld Z h1 b1 "com/example/mynegai/mynegai/command/DecimalRange" "minIncluded" "Z" (.int (0 : Int32)) := D1 (Or.inr (hw _ (List.mem_of_getElem? (i := 19) rfl))) (ty := .boolean) (by decide)
  have F1_max : Fld Z h1 b1 "com/example/mynegai/mynegai/command/DecimalRange" "max" "D" (.double (0 : UInt64)) := D1 (Or.inr (hw _ (List.mem_of_getElem? (i := 21) rfl))) (ty := .double) (by decide)
  have F1_maxIncluded : Fld Z h1 b1 "com/example/mynegai/mynegai/command/DecimalRange" "maxIncluded" "Z" (.int (0 : Int32)) := D1 (Or.inr (hw _ (List.mem_of_getElem? (i := 23) rfl))) (ty := .boolean) (by decide)
  obtain ⟨_, _, ⟨T2, L2, k2, n2⟩, -, X2, ⟨Lc2, hQ2, l2, y2, z2⟩, st2⟩ := X1.specialBack hx (y := (⟨"com/example/mynegai/mynegai/command/DecimalRange", "<init>", "(DZDZ)V"⟩ : MethodName)) rfl hown (mvT hZ (hw _ (List.mem_of_getElem? (i := 4) rfl))) (mvT hZ (hw _ (List.mem_of_getElem? (i := 5) rfl))) (mvT hZ (hw _ (List.mem_of_getElem? (i := 6) rfl))) (by decide) (backOf (W := 1) (rmdr l Z a0 hw [] b1 (FP.l2d (own_m p0)) (own_bit p4 (1 : Int32)) (own_max p0 p1 p4) (own_bit p4 (2 : Int32)) h1 n0 (Nat.le_trans Z0 E1.1) F1_min F1_minIncluded F1_max F1_maxIncluded A1 (Nat.le_trans Z0 (Nat.le_trans (Nat.le_refl _) (Nat.le_of_eq g1.symm))) (own_c7 p0) (own_c14 p0 p1 p4) (own_c22 p0)) hZ (hw _ (List.mem_of_getElem? (i := 6) rfl)) (hw _ (List.mem_of_getElem? (i := 3) rfl)) (by decide) (by decide)) (g := (mkF m 92 #[.val (.int p0), .val (.int p1), .val (.int p2), .val (.int p3), .val (.int p4), .val (.int (own_bit p4 (1 : Int32))), .val (.int (own_bit p4 (2 : Int32))), .val (.int (own_bit p4 (4 : Int32))), .val (.long (own_m p0)), .second, .val (.long (own_M p0 p1)), .second, .val (.double (FP.l2d (own_m p0))), .second, .val (.double (own_max p0 p1 p4)), .second, .unset, .unset, .unset, .unset, .unset, .unset, .unset, .unset, .unset] [(.int (own_bit p4 (2 : Int32))), (.double (own_max p0 p1 p4)), (.int (own_bit p4 (1 : Int32))), (.double (FP.l2d (own_m p0))), (.ref b1), (.ref b1)])) rfl (by rw [hml]; rfl) (Steps.refl _) (a := b1) (argsL := [(.double (FP.l2d (own_m p0))), (.int (own_bit p4 (1 : Int32))), (.double (own_max p0 p1 p4)), (.int (own_bit p4 (2 : Int32)))]) (rest := [(.ref b1)]) (lenOf pd_1 rfl) rfl (by show 2 * 0 + _ ≤ _; exact Nat.le_of_eq rfl) (hb hby at_92) (fun _ _ => ⟨rfl, e1, (by decide : 1 + 0 ≤ _), (by decide : 4 + 0 ≤ _)⟩)
  dsimp only [Pt.U, Pt.locs, Pt.cells, Pt.slots] at X2 l2 y2 z2 st2 hQ2
  subst l2 y2 z2
  obtain ⟨rfl, N2q, K2, Ea2, Fa2, Fb2, Fc2, Fd2⟩ := hQ2
  have N2 := Fr.app N0 N2q
  rcases Bool.eq_false_or_eq_true (ifCond.holds .ne ((p3 &&& (2147483647 : Int32)) % (5 : Int32))) with hc111 | hc111
  · rcases Bool.eq_false_or_eq_true (if_icmp.holds .ne ((p3 &&& (2147483647 : Int32)) % (5 : Int32)) (1 : Int32)) with hc214 | hc214
    · rcases Bool.eq_false_or_eq_true (if_icmp.holds .ne ((p3 &&& (2147483647 : Int32)) % (5 : Int32)) (2 : Int32)) with hc284 | hc284
      · rcases Bool.eq_false_or_eq_true (if_icmp.holds .ne ((p3 &&& (2147483647 : Int32)) % (5 : Int32)) (3 : Int32)) with hc301 | hc301
        · obtain ⟨cq3, kq3, q3a, q3b, q3c⟩ := isOf hZ rfl Ea2
          obtain ⟨_, _, ⟨T3, L3, k3, n3⟩, -, X3, ⟨Lc3, hQ3, l3, y3, z3⟩, st3⟩ := X2.virtualBack hx (y := (⟨"com/example/mynegai/mynegai/command/DecimalRange", "contains", "(D)Z"⟩ : MethodName)) (z := (⟨"com/example/mynegai/mynegai/command/DecimalRange", "contains", "(D)Z"⟩ : MethodName)) hown (mvT hZ (hw _ (List.mem_of_getElem? (i := 26) rfl))) (mvT hZ (hw _ (List.mem_of_getElem? (i := 27) rfl))) (notFace_of_selects (args := #[]) (mvT hZ (hw _ (List.mem_of_getElem? (i := 29) rfl)))) (mvT hZ (hw _ (List.mem_of_getElem? (i := 29) rfl))) (mvT hZ (hw _ (List.mem_of_getElem? (i := 28) rfl))) (by decide) (backOf (W := 0) (rmct l Z a0 hw [] b1 (FP.l2d (own_m p0)) (nar .boolean (own_bit p4 (1 : Int32))) (own_max p0 p1 p4) (nar .boolean (own_bit p4 (2 : Int32))) (9223372036854775808 : UInt64) T2.heap n0 (Nat.le_trans (Nat.le_trans Z0 E1.1) K2.1) Fa2 Fb2 Fc2 Fd2) hZ (hw _ (List.mem_of_getElem? (i := 30) rfl)) (hw _ (List.mem_of_getElem? (i := 3) rfl)) (by decide) (by decide)) q3a q3c (g := (mkF m 409 #[.val (.int p0), .val (.int p1), .val (.int p2), .val (.int p3), .val (.int p4), .val (.int (own_bit p4 (1 : Int32))), .val (.int (own_bit p4 (2 : Int32))), .val (.int (own_bit p4 (4 : Int32))), .val (.long (own_m p0)), .second, .val (.long (own_M p0 p1)), .second, .val (.double (FP.l2d (own_m p0))), .second, .val (.double (own_max p0 p1 p4)), .second, .val (.ref b1), .val (.int ((p3 &&& (2147483647 : Int32)) % (5 : Int32))), .val (.long (p2.toInt64)), .second, .val (.double (9223372036854775808 : UInt64)), .second, .val (.int (own_exp (own_lo (own_bit p4 (1 : Int32)) (lcmpW (0 : Int64) (own_m p0))) (own_ehi (own_bit p4 (4 : Int32)) (own_bit p4 (2 : Int32)) (lcmpW (0 : Int64) (own_M p0 p1))))), .val (.int (own_lo (own_bit p4 (1 : Int32)) (lcmpW (0 : Int64) (own_m p0)))), .val (.int (own_ehi (own_bit p4 (4 : Int32)) (own_bit p4 (2 : Int32)) (lcmpW (0 : Int64) (own_M p0 p1))))] [(.double (9223372036854775808 : UInt64)), (.ref b1)])) rfl (by rw [hml]; rfl) (Steps.refl _) (argsL := [(.double (9223372036854775808 : UInt64))]) (rest := []) (lenOf pd_2 rfl) rfl (by show 2 * 0 + _ ≤ _; exact Nat.le_of_eq rfl) (hb hby at_409) (fun _ _ => ⟨rfl, rfl, (by decide : 1 + 0 ≤ _), (by decide : 4 + 0 ≤ _)⟩)
          dsimp only [Pt.U, Pt.locs, Pt.cells, Pt.slots] at X3 l3 y3 z3 st3 hQ3
          subst l3 y3 z3
          obtain ⟨rfl, N3q, eh3⟩ := hQ3
          have N3 := Fr.app N2 N3q
          obtain ⟨fs, hr, hrun, hended, hW, hsame⟩ := X3.leave (v := some (.int (nar .boolean (1 : Int32)))) (fun h => by rw [Bd.returns] at h; cases h)
          refine ⟨_, _, pre0 _ ?_, hrun, hended, _, _, rfl, ?_, ⟨_, rfl⟩, hW, hsame.mono (by decide) (by decide)⟩
          · show Steps p.tables e below (s₁.setTop (mkF m 0 #[.val (.int p0), .val (.int p1), .val (.int p2), .val (.int p3), .val (.int p4), .unset, .unset, .unset, .unset, .unset, .unset, .unset, .unset, .unset, .unset, .unset, .unset, .unset, .unset, .unset, .unset, .unset, .unset, .unset, .unset] [])) _
            refine sg_0_0_12 X0 hx hZ hw hby hown ?_
            show Steps p.tables e below (s₁.setTop (mkF m 12 #[.val (.int p0), .val (.int p1), .val (.int p2), .val (.int p3), .val (.int p4), .unset, .unset, .unset, .unset, .unset, .unset, .unset, .unset, .unset, .unset, .unset, .unset, .unset, .unset, .unset, .unset, .unset, .unset, .unset, .unset] [(.int (own_bit p4 (1 : Int32)))])) _
            refine XS.istore X0.here hx rfl (hb hby at_12) rfl (l' := #[.val (.int p0), .val (.int p1), .val (.int p2), .val (.int p3), .val (.int p4), .val (.int (own_bit p4 (1 : Int32))), .unset, .unset, .unset, .unset, .unset, .unset, .unset, .unset, .unset, .unset, .unset, .unset, .unset, .unset, .unset, .unset, .unset, .unset, .unset]) rfl ?_
            show Steps p.tables e below (s₁.setTop (mkF m 14 #[.val (.int p0), .val (.int p1), .val (.int p2), .val (.int p3), .val (.int p4), .val (.int (own_bit p4 (1 : Int32))), .unset, .unset, .unset, .unset, .unset, .unset, .unset, .unset, .unset, .unset, .unset, .unset, .unset, .unset, .unset, .unset, .unset, .unset, .unset] [])) _
            refine sg_0_14_26 X0 hx hZ hw hby hown ?_
            show Steps p.tables e below (s₁.setTop (mkF m 26 #[.val (.int p0), .val (.int p1), .val (.int p2), .val (.int p3), .val (.int p4), .val (.int (own_bit p4 (1 : Int32))), .unset, .unset, .unset, .unset, .unset, .unset, .unset, .unset, .unset, .unset, .unset, .unset, .unset, .unset, .unset, .unset, .unset, .unset, .unset] [(.int (own_bit p4 (2 : Int32)))])) _
            refine XS.istore X0.here hx rfl (hb hby at_26) rfl (l' := #[.val (.int p0), .val (.int p1), .val (.int p2), .val (.int p3), .val (.int p4), .val (.int (own_bit p4 (1 : Int32))), .val (.int (own_bit p4 (2 : Int32))), .unset, .unset, .unset, .unset, .unset, .unset, .unset, .unset, .unset, .unset, .unset, .unset, .unset, .unset, .unset, .unset, .unset, .unset]) rfl ?_
            show Steps p.tables e below (s₁.setTop (mkF m 28 #[.val (.int p0), .val (.int p1), .val (.int p2), .val (.int p3), .val (.int p4), .val (.int (own_bit p4 (1 : Int32))), .val (.int (own_bit p4 (2 : Int32))), .unset, .unset, .unset, .unset, .unset, .unset, .unset, .unset, .unset, .unset, .unset, .unset, .unset, .unset, .unset, .unset, .unset, .unset] [])) _
            refine sg_0_28_40 X0 hx hZ hw hby hown ?_
            show Steps p.tables e below (s₁.setTop (mkF m 40 #[.val (.int p0), .val (.int p1), .val (.int p2), .val (.int p3), .val (.int p4), .val (.int (own_bit p4 (1 : Int32))), .val (.int (own_bit p4 (2 : Int32))), .unset, .unset, .unset, .unset, .unset, .unset, .unset, .unset, .unset, .unset, .unset, .unset, .unset, .unset, .unset, .unset, .unset, .unset] [(.int (own_bit p4 (4 : Int32)))])) _
            refine XS.istore X0.here hx rfl (hb hby at_40) rfl (l' := #[.val (.int p0), .val (.int p1), .val (.int p2), .val (.int p3), .val (.int p4), .val (.int (own_bit p4 (1 : Int32))), .val (.int (own_bit p4 (2 : Int32))), .val (.int (own_bit p4 (4 : Int32))), .unset, .unset, .unset, .unset, .unset, .unset, .unset, .unset, .unset, .unset, .unset, .unset, .unset, .unset, .unset, .unset, .unset]) rfl ?_
            show Steps p.tables e below (s₁.setTop (mkF m 42 #[.val (.int p0), .val (.int p1), .val (.int p2), .val (.int p3), .val (.int p4), .val (.int (own_bit p4 (1 : Int32))), .val (.int (own_bit p4 (2 : Int32))), .val (.int (own_bit p4 (4 : Int32))), .unset, .unset, .unset, .unset, .unset, .unset, .unset, .unset, .unset, .unset, .unset, .unset, .unset, .unset, .unset, .unset, .unset] [])) _
            refine XS.iloadN X0.here hx rfl (hb hby at_42) rfl ?_
            show Steps p.tables e below (s₁.setTop (mkF m 43 #[.val (.int p0), .val (.int p1), .val (.int p2), .val (.int p3), .val (.int p4), .val (.int (own_bit p4 (1 : Int32))), .val (.int (own_bit p4 (2 : Int32))), .val (.int (own_bit p4 (4 : Int32))), .unset, .unset, .unset, .unset, .unset, .unset, .unset, .unset, .unset, .unset, .unset, .unset, .unset, .unset, .unset, .unset, .unset] [(.int p0)])) _
            refine X0.ldcInt hx hown (mvT hZ (hw _ (List.mem_of_getElem? (i := 0) rfl))) (g := (mkF m 43 #[.val (.int p0), .val (.int p1), .val (.int p2), .val (.int p3), .val (.int p4), .val (.int (own_bit p4 (1 : Int32))), .val (.int (own_bit p4 (2 : Int32))), .val (.int (own_bit p4 (4 : Int32))), .unset, .unset, .unset, .unset, .unset, .unset, .unset, .unset, .unset, .unset, .unset, .unset, .unset, .unset, .unset, .unset, .unset] [(.int p0)])) rfl (hb hby at_43) _ ?_
            show Steps p.tables e below (s₁.setTop (mkF m 45 #[.val (.int p0), .val (.int p1), .val (.int p2), .val (.int p3), .val (.int p4), .val (.int (own_bit p4 (1 : Int32))), .val (.int (own_bit p4 (2 : Int32))), .val (.int (own_bit p4 (4 : Int32))), .unset, .unset, .unset, .unset, .unset, .unset, .unset, .unset, .unset, .unset, .unset, .unset, .unset, .unset, .unset, .unset, .unset] [(.int (1073741823 : Int32)), (.int p0)])) _
            refine XS.iand X0.here hx rfl (hb hby at_45) rfl ?_
            show Steps p.tables e below (s₁.setTop (mkF m 46 #[.val (.int p0), .val (.int p1), .val (.int p2), .val (.int p3), .val (.int p4), .val (.int (own_bit p4 (1 : Int32))), .val (.int (own_bit p4 (2 : Int32))), .val (.int (own_bit p4 (4 : Int32))), .unset, .unset, .unset, .unset, .unset, .unset, .unset, .unset, .unset, .unset, .unset, .unset, .unset, .unset, .unset, .unset, .unset] [(.int (p0 &&& (1073741823 : Int32)))])) _
            refine XS.i2l X0.here hx rfl (hb hby at_46) rfl ?_
            show Steps p.tables e below (s₁.setTop (mkF m 47 #[.val (.int p0), .val (.int p1), .val (.int p2), .val (.int p3), .val (.int p4), .val (.int (own_bit p4 (1 : Int32))), .val (.int (own_bit p4 (2 : Int32))), .val (.int (own_bit p4 (4 : Int32))), .unset, .unset, .unset, .unset, .unset, .unset, .unset, .unset, .unset, .unset, .unset, .unset, .unset, .unset, .unset, .unset, .unset] [(.long (own_m p0))])) _
            refine XS.lstore X0.here hx rfl (hb hby at_47) rfl (l' := #[.val (.int p0), .val (.int p1), .val (.int p2), .val (.int p3), .val (.int p4), .val (.int (own_bit p4 (1 : Int32))), .val (.int (own_bit p4 (2 : Int32))), .val (.int (own_bit p4 (4 : Int32))), .val (.long (own_m p0)), .second, .unset, .unset, .unset, .unset, .unset, .unset, .unset, .unset, .unset, .unset, .unset, .unset, .unset, .unset, .unset]) rfl ?_
            show Steps p.tables e below (s₁.setTop (mkF m 49 #[.val (.int p0), .val (.int p1), .val (.int p2), .val (.int p3), .val (.int p4), .val (.int (own_bit p4 (1 : Int32))), .val (.int (own_bit p4 (2 : Int32))), .val (.int (own_bit p4 (4 : Int32))), .val (.long (own_m p0)), .second, .unset, .unset, .unset, .unset, .unset, .unset, .unset, .unset, .unset, .unset, .unset, .unset, .unset, .unset, .unset] [])) _
            refine XS.lload X0.here hx rfl (hb hby at_49) rfl ?_
            show Steps p.tables e below (s₁.setTop (mkF m 51 #[.val (.int p0), .val (.int p1), .val (.int p2), .val (.int p3), .val (.int p4), .val (.int (own_bit p4 (1 : Int32))), .val (.int (own_bit p4 (2 : Int32))), .val (.int (own_bit p4 (4 : Int32))), .val (.long (own_m p0)), .second, .unset, .unset, .unset, .unset, .unset, .unset, .unset, .unset, .unset, .unset, .unset, .unset, .unset, .unset, .unset] [(.long (own_m p0))])) _
            refine XS.iloadN X0.here hx rfl (hb hby at_51) rfl ?_
            show Steps p.tables e below (s₁.setTop (mkF m 52 #[.val (.int p0), .val (.int p1), .val (.int p2), .val (.int p3), .val (.int p4), .val (.int (own_bit p4 (1 : Int32))), .val (.int (own_bit p4 (2 : Int32))), .val (.int (own_bit p4 (4 : Int32))), .val (.long (own_m p0)), .second, .unset, .unset, .unset, .unset, .unset, .unset, .unset, .unset, .unset, .unset, .unset, .unset, .unset, .unset, .unset] [(.int p1), (.long (own_m p0))])) _
            refine X0.ldcInt hx hown (mvT hZ (hw _ (List.mem_of_getElem? (i := 0) rfl))) (g := (mkF m 52 #[.val (.int p0), .val (.int p1), .val (.int p2), .val (.int p3), .val (.int p4), .val (.int (own_bit p4 (1 : Int32))), .val (.int (own_bit p4 (2 : Int32))), .val (.int (own_bit p4 (4 : Int32))), .val (.long (own_m p0)), .second, .unset, .unset, .unset, .unset, .unset, .unset, .unset, .unset, .unset, .unset, .unset, .unset, .unset, .unset, .unset] [(.int p1), (.long (own_m p0))])) rfl (hb hby at_52) _ ?_
            show Steps p.tables e below (s₁.setTop (mkF m 54 #[.val (.int p0), .val (.int p1), .val (.int p2), .val (.int p3), .val (.int p4), .val (.int (own_bit p4 (1 : Int32))), .val (.int (own_bit p4 (2 : Int32))), .val (.int (own_bit p4 (4 : Int32))), .val (.long (own_m p0)), .second, .unset, .unset, .unset, .unset, .unset, .unset, .unset, .unset, .unset, .unset, .unset, .unset, .unset, .unset, .unset] [(.int (1073741823 : Int32)), (.int p1), (.long (own_m p0))])) _
            refine XS.iand X0.here hx rfl (hb hby at_54) rfl ?_
            show Steps p.tables e below (s₁.setTop (mkF m 55 #[.val (.int p0), .val (.int p1), .val (.int p2), .val (.int p3), .val (.int p4), .val (.int (own_bit p4 (1 : Int32))), .val (.int (own_bit p4 (2 : Int32))), .val (.int (own_bit p4 (4 : Int32))), .val (.long (own_m p0)), .second, .unset, .unset, .unset, .unset, .unset, .unset, .unset, .unset, .unset, .unset, .unset, .unset, .unset, .unset, .unset] [(.int (p1 &&& (1073741823 : Int32))), (.long (own_m p0))])) _
            refine XS.i2l X0.here hx rfl (hb hby at_55) rfl ?_
            show Steps p.tables e below (s₁.setTop (mkF m 56 #[.val (.int p0), .val (.int p1), .val (.int p2), .val (.int p3), .val (.int p4), .val (.int (own_bit p4 (1 : Int32))), .val (.int (own_bit p4 (2 : Int32))), .val (.int (own_bit p4 (4 : Int32))), .val (.long (own_m p0)), .second, .unset, .unset, .unset, .unset, .unset, .unset, .unset, .unset, .unset, .unset, .unset, .unset, .unset, .unset, .unset] [(.long ((p1 &&& (1073741823 : Int32)).toInt64)), (.long (own_m p0))])) _
            refine XS.ladd X0.here hx rfl (hb hby at_56) rfl ?_
            show Steps p.tables e below (s₁.setTop (mkF m 57 #[.val (.int p0), .val (.int p1), .val (.int p2), .val (.int p3), .val (.int p4), .val (.int (own_bit p4 (1 : Int32))), .val (.int (own_bit p4 (2 : Int32))), .val (.int (own_bit p4 (4 : Int32))), .val (.long (own_m p0)), .second, .unset, .unset, .unset, .unset, .unset, .unset, .unset, .unset, .unset, .unset, .unset, .unset, .unset, .unset, .unset] [(.long (own_M p0 p1))])) _
            refine XS.lstore X0.here hx rfl (hb hby at_57) rfl (l' := #[.val (.int p0), .val (.int p1), .val (.int p2), .val (.int p3), .val (.int p4), .val (.int (own_bit p4 (1 : Int32))), .val (.int (own_bit p4 (2 : Int32))), .val (.int (own_bit p4 (4 : Int32))), .val (.long (own_m p0)), .second, .val (.long (own_M p0 p1)), .second, .unset, .unset, .unset, .unset, .unset, .unset, .unset, .unset, .unset, .unset, .unset, .unset, .unset]) rfl ?_
            show Steps p.tables e below (s₁.setTop (mkF m 59 #[.val (.int p0), .val (.int p1), .val (.int p2), .val (.int p3), .val (.int p4), .val (.int (own_bit p4 (1 : Int32))), .val (.int (own_bit p4 (2 : Int32))), .val (.int (own_bit p4 (4 : Int32))), .val (.long (own_m p0)), .second, .val (.long (own_M p0 p1)), .second, .unset, .unset, .unset, .unset, .unset, .unset, .unset, .unset, .unset, .unset, .unset, .unset, .unset] [])) _
            refine XS.lload X0.here hx rfl (hb hby at_59) rfl ?_
            show Steps p.tables e below (s₁.setTop (mkF m 61 #[.val (.int p0), .val (.int p1), .val (.int p2), .val (.int p3), .val (.int p4), .val (.int (own_bit p4 (1 : Int32))), .val (.int (own_bit p4 (2 : Int32))), .val (.int (own_bit p4 (4 : Int32))), .val (.long (own_m p0)), .second, .val (.long (own_M p0 p1)), .second, .unset, .unset, .unset, .unset, .unset, .unset, .unset, .unset, .unset, .unset, .unset, .unset, .unset] [(.long (own_m p0))])) _
            refine XS.l2dS X0.here hx rfl (hb hby at_61) rfl rfl ?_
            show Steps p.tables e below (s₁.setTop (mkF m 62 #[.val (.int p0), .val (.int p1), .val (.int p2), .val (.int p3), .val (.int p4), .val (.int (own_bit p4 (1 : Int32))), .val (.int (own_bit p4 (2 : Int32))), .val (.int (own_bit p4 (4 : Int32))), .val (.long (own_m p0)), .second, .val (.long (own_M p0 p1)), .second, .unset, .unset, .unset, .unset, .unset, .unset, .unset, .unset, .unset, .unset, .unset, .unset, .unset] [(.double (FP.l2d (own_m p0)))])) _
            refine XS.dstore X0.here hx rfl (hb hby at_62) rfl (l' := #[.val (.int p0), .val (.int p1), .val (.int p2), .val (.int p3), .val (.int p4), .val (.int (own_bit p4 (1 : Int32))), .val (.int (own_bit p4 (2 : Int32))), .val (.int (own_bit p4 (4 : Int32))), .val (.long (own_m p0)), .second, .val (.long (own_M p0 p1)), .second, .val (.double (FP.l2d (own_m p0))), .second, .unset, .unset, .unset, .unset, .unset, .unset, .unset, .unset, .unset, .unset, .unset]) rfl ?_
            show Steps p.tables e below (s₁.setTop (mkF m 64 #[.val (.int p0), .val (.int p1), .val (.int p2), .val (.int p3), .val (.int p4), .val (.int (own_bit p4 (1 : Int32))), .val (.int (own_bit p4 (2 : Int32))), .val (.int (own_bit p4 (4 : Int32))), .val (.long (own_m p0)), .second, .val (.long (own_M p0 p1)), .second, .val (.double (FP.l2d (own_m p0))), .second, .unset, .unset, .unset, .unset, .unset, .unset, .unset, .unset, .unset, .unset, .unset] [])) _
            refine sg_0_64_78 X0 hx hZ hw hby hown ?_
            show Steps p.tables e below (s₁.setTop (mkF m 78 #[.val (.int p0), .val (.int p1), .val (.int p2), .val (.int p3), .val (.int p4), .val (.int (own_bit p4 (1 : Int32))), .val (.int (own_bit p4 (2 : Int32))), .val (.int (own_bit p4 (4 : Int32))), .val (.long (own_m p0)), .second, .val (.long (own_M p0 p1)), .second, .val (.double (FP.l2d (own_m p0))), .second, .unset, .unset, .unset, .unset, .unset, .unset, .unset, .unset, .unset, .unset, .unset] [(.double (own_max p0 p1 p4))])) _
            refine XS.dstore X0.here hx rfl (hb hby at_78) rfl (l' := #[.val (.int p0), .val (.int p1), .val (.int p2), .val (.int p3), .val (.int p4), .val (.int (own_bit p4 (1 : Int32))), .val (.int (own_bit p4 (2 : Int32))), .val (.int (own_bit p4 (4 : Int32))), .val (.long (own_m p0)), .second, .val (.long (own_M p0 p1)), .second, .val (.double (FP.l2d (own_m p0))), .second, .val (.double (own_max p0 p1 p4)), .second, .unset, .unset, .unset, .unset, .unset, .unset, .unset, .unset, .unset]) rfl ?_
            show Steps p.tables e below (s₁.setTop (mkF m 80 #[.val (.int p0), .val (.int p1), .val (.int p2), .val (.int p3), .val (.int p4), .val (.int (own_bit p4 (1 : Int32))), .val (.int (own_bit p4 (2 : Int32))), .val (.int (own_bit p4 (4 : Int32))), .val (.long (own_m p0)), .second, .val (.long (own_M p0 p1)), .second, .val (.double (FP.l2d (own_m p0))), .second, .val (.double (own_max p0 p1 p4)), .second, .unset, .unset, .unset, .unset, .unset, .unset, .unset, .unset, .unset] [])) _
            refine st1 _ ?_
            show Steps p.tables e below (T1.setTop (mkF m 83 #[.val (.int p0), .val (.int p1), .val (.int p2), .val (.int p3), .val (.int p4), .val (.int (own_bit p4 (1 : Int32))), .val (.int (own_bit p4 (2 : Int32))), .val (.int (own_bit p4 (4 : Int32))), .val (.long (own_m p0)), .second, .val (.long (own_M p0 p1)), .second, .val (.double (FP.l2d (own_m p0))), .second, .val (.double (own_max p0 p1 p4)), .second, .unset, .unset, .unset, .unset, .unset, .unset, .unset, .unset, .unset] [(.ref b1)])) _
            refine XS.dup X1.here hx rfl (hb hby at_83) rfl rfl ?_
            show Steps p.tables e below (T1.setTop (mkF m 84 #[.val (.int p0), .val (.int p1), .val (.int p2), .val (.int p3), .val (.int p4), .val (.int (own_bit p4 (1 : Int32))), .val (.int (own_bit p4 (2 : Int32))), .val (.int (own_bit p4 (4 : Int32))), .val (.long (own_m p0)), .second, .val (.long (own_M p0 p1)), .second, .val (.double (FP.l2d (own_m p0))), .second, .val (.double (own_max p0 p1 p4)), .second, .unset, .unset, .unset, .unset, .unset, .unset, .unset, .unset, .unset] [(.ref b1), (.ref b1)])) _
            refine XS.dload X1.here hx rfl (hb hby at_84) rfl ?_
            show Steps p.tables e below (T1.setTop (mkF m 86 #[.val (.int p0), .val (.int p1), .val (.int p2), .val (.int p3), .val (.int p4), .val (.int (own_bit p4 (1 : Int32))), .val (.int (own_bit p4 (2 : Int32))), .val (.int (own_bit p4 (4 : Int32))), .val (.long (own_m p0)), .second, .val (.long (own_M p0 p1)), .second, .val (.double (FP.l2d (own_m p0))), .second, .val (.double (own_max p0 p1 p4)), .second, .unset, .unset, .unset, .unset, .unset, .unset, .unset, .unset, .unset] [(.double (FP.l2d (own_m p0))), (.ref b1), (.ref b1)])) _
            refine XS.iload X1.here hx rfl (hb hby at_86) rfl ?_
            show Steps p.tables e below (T1.setTop (mkF m 88 #[.val (.int p0), .val (.int p1), .val (.int p2), .val (.int p3), .val (.int p4), .val (.int (own_bit p4 (1 : Int32))), .val (.int (own_bit p4 (2 : Int32))), .val (.int (own_bit p4 (4 : Int32))), .val (.long (own_m p0)), .second, .val (.long (own_M p0 p1)), .second, .val (.double (FP.l2d (own_m p0))), .second, .val (.double (own_max p0 p1 p4)), .second, .unset, .unset, .unset, .unset, .unset, .unset, .unset, .unset, .unset] [(.int (own_bit p4 (1 : Int32))), (.double (FP.l2d (own_m p0))), (.ref b1), (.ref b1)])) _
            refine XS.dload X1.here hx rfl (hb hby at_88) rfl ?_
            show Steps p.tables e below (T1.setTop (mkF m 90 #[.val (.int p0), .val (.int p1), .val (.int p2), .val (.int p3), .val (.int p4), .val (.int (own_bit p4 (1 : Int32))), .val (.int (own_bit p4 (2 : Int32))), .val (.int (own_bit p4 (4 : Int32))), .val (.long (own_m p0)), .second, .val (.long (own_M p0 p1)), .second, .val (.double (FP.l2d (own_m p0))), .second, .val (.double (own_max p0 p1 p4)), .second, .unset, .unset, .unset, .unset, .unset, .unset, .unset, .unset, .unset] [(.double (own_max p0 p1 p4)), (.int (own_bit p4 (1 : Int32))), (.double (FP.l2d (own_m p0))), (.ref b1), (.ref b1)])) _
            refine XS.iload X1.here hx rfl (hb hby at_90) rfl ?_
            show Steps p.tables e below (T1.setTop (mkF m 92 #[.val (.int p0), .val (.int p1), .val (.int p2), .val (.int p3), .val (.int p4), .val (.int (own_bit p4 (1 : Int32))), .val (.int (own_bit p4 (2 : Int32))), .val (.int (own_bit p4 (4 : Int32))), .val (.long (own_m p0)), .second, .val (.long (own_M p0 p1)), .second, .val (.double (FP.l2d (own_m p0))), .second, .val (.double (own_max p0 p1 p4)), .second, .unset, .unset, .unset, .unset, .unset, .unset, .unset, .unset, .unset] [(.int (own_bit p4 (2 : Int32))), (.double (own_max p0 p1 p4)), (.int (own_bit p4 (1 : Int32))), (.double (FP.l2d (own_m p0))), (.ref b1), (.ref b1)])) _
            refine st2.trans ?_
            show Steps p.tables e below (T2.setTop (mkF m 95 #[.val (.int p0), .val (.int p1), .val (.int p2), .val (.int p3), .val (.int p4), .val (.int (own_bit p4 (1 : Int32))), .val (.int (own_bit p4 (2 : Int32))), .val (.int (own_bit p4 (4 : Int32))), .val (.long (own_m p0)), .second, .val (.long (own_M p0 p1)), .second, .val (.double (FP.l2d (own_m p0))), .second, .val (.double (own_max p0 p1 p4)), .second, .unset, .unset, .unset, .unset, .unset, .unset, .unset, .unset, .unset] [(.ref b1)])) _
            refine XS.astore X2.here hx rfl (hb hby at_95) rfl rfl (l' := #[.val (.int p0), .val (.int p1), .val (.int p2), .val (.int p3), .val (.int p4), .val (.int (own_bit p4 (1 : Int32))), .val (.int (own_bit p4 (2 : Int32))), .val (.int (own_bit p4 (4 : Int32))), .val (.long (own_m p0)), .second, .val (.long (own_M p0 p1)), .second, .val (.double (FP.l2d (own_m p0))), .second, .val (.double (own_max p0 p1 p4)), .second, .val (.ref b1), .unset, .unset, .unset, .unset, .unset, .unset, .unset, .unset]) rfl ?_
            show Steps p.tables e below (T2.setTop (mkF m 97 #[.val (.int p0), .val (.int p1), .val (.int p2), .val (.int p3), .val (.int p4), .val (.int (own_bit p4 (1 : Int32))), .val (.int (own_bit p4 (2 : Int32))), .val (.int (own_bit p4 (4 : Int32))), .val (.long (own_m p0)), .second, .val (.long (own_M p0 p1)), .second, .val (.double (FP.l2d (own_m p0))), .second, .val (.double (own_max p0 p1 p4)), .second, .val (.ref b1), .unset, .unset, .unset, .unset, .unset, .unset, .unset, .unset] [])) _
            refine XS.iloadN X2.here hx rfl (hb hby at_97) rfl ?_
            show Steps p.tables e below (T2.setTop (mkF m 98 #[.val (.int p0), .val (.int p1), .val (.int p2), .val (.int p3), .val (.int p4), .val (.int (own_bit p4 (1 : Int32))), .val (.int (own_bit p4 (2 : Int32))), .val (.int (own_bit p4 (4 : Int32))), .val (.long (own_m p0)), .second, .val (.long (own_M p0 p1)), .second, .val (.double (FP.l2d (own_m p0))), .second, .val (.double (own_max p0 p1 p4)), .second, .val (.ref b1), .unset, .unset, .unset, .unset, .unset, .unset, .unset, .unset] [(.int p3)])) _
            refine X2.ldcInt hx hown (mvT hZ (hw _ (List.mem_of_getElem? (i := 24) rfl))) (g := (mkF m 98 #[.val (.int p0), .val (.int p1), .val (.int p2), .val (.int p3), .val (.int p4), .val (.int (own_bit p4 (1 : Int32))), .val (.int (own_bit p4 (2 : Int32))), .val (.int (own_bit p4 (4 : Int32))), .val (.long (own_m p0)), .second, .val (.long (own_M p0 p1)), .second, .val (.double (FP.l2d (own_m p0))), .second, .val (.double (own_max p0 p1 p4)), .second, .val (.ref b1), .unset, .unset, .unset, .unset, .unset, .unset, .unset, .unset] [(.int p3)])) rfl (hb hby at_98) _ ?_
            show Steps p.tables e below (T2.setTop (mkF m 100 #[.val (.int p0), .val (.int p1), .val (.int p2), .val (.int p3), .val (.int p4), .val (.int (own_bit p4 (1 : Int32))), .val (.int (own_bit p4 (2 : Int32))), .val (.int (own_bit p4 (4 : Int32))), .val (.long (own_m p0)), .second, .val (.long (own_M p0 p1)), .second, .val (.double (FP.l2d (own_m p0))), .second, .val (.double (own_max p0 p1 p4)), .second, .val (.ref b1), .unset, .unset, .unset, .unset, .unset, .unset, .unset, .unset] [(.int (2147483647 : Int32)), (.int p3)])) _
            refine XS.iand X2.here hx rfl (hb hby at_100) rfl ?_
            show Steps p.tables e below (T2.setTop (mkF m 101 #[.val (.int p0), .val (.int p1), .val (.int p2), .val (.int p3), .val (.int p4), .val (.int (own_bit p4 (1 : Int32))), .val (.int (own_bit p4 (2 : Int32))), .val (.int (own_bit p4 (4 : Int32))), .val (.long (own_m p0)), .second, .val (.long (own_M p0 p1)), .second, .val (.double (FP.l2d (own_m p0))), .second, .val (.double (own_max p0 p1 p4)), .second, .val (.ref b1), .unset, .unset, .unset, .unset, .unset, .unset, .unset, .unset] [(.int (p3 &&& (2147483647 : Int32)))])) _
            refine XS.iconst X2.here hx rfl (hb hby at_101) ?_
            show Steps p.tables e below (T2.setTop (mkF m 102 #[.val (.int p0), .val (.int p1), .val (.int p2), .val (.int p3), .val (.int p4), .val (.int (own_bit p4 (1 : Int32))), .val (.int (own_bit p4 (2 : Int32))), .val (.int (own_bit p4 (4 : Int32))), .val (.long (own_m p0)), .second, .val (.long (own_M p0 p1)), .second, .val (.double (FP.l2d (own_m p0))), .second, .val (.double (own_max p0 p1 p4)), .second, .val (.ref b1), .unset, .unset, .unset, .unset, .unset, .unset, .unset, .unset] [(.int (5 : Int32)), (.int (p3 &&& (2147483647 : Int32)))])) _
            refine iremM X2 hx rfl (hb hby at_102) rfl (by decide) ?_
            show Steps p.tables e below (T2.setTop (mkF m 103 #[.val (.int p0), .val (.int p1), .val (.int p2), .val (.int p3), .val (.int p4), .val (.int (own_bit p4 (1 : Int32))), .val (.int (own_bit p4 (2 : Int32))), .val (.int (own_bit p4 (4 : Int32))), .val (.long (own_m p0)), .second, .val (.long (own_M p0 p1)), .second, .val (.double (FP.l2d (own_m p0))), .second, .val (.double (own_max p0 p1 p4)), .second, .val (.ref b1), .unset, .unset, .unset, .unset, .unset, .unset, .unset, .unset] [(.int ((p3 &&& (2147483647 : Int32)) % (5 : Int32)))])) _
            refine XS.istore X2.here hx rfl (hb hby at_103) rfl (l' := #[.val (.int p0), .val (.int p1), .val (.int p2), .val (.int p3), .val (.int p4), .val (.int (own_bit p4 (1 : Int32))), .val (.int (own_bit p4 (2 : Int32))), .val (.int (own_bit p4 (4 : Int32))), .val (.long (own_m p0)), .second, .val (.long (own_M p0 p1)), .second, .val (.double (FP.l2d (own_m p0))), .second, .val (.double (own_max p0 p1 p4)), .second, .val (.ref b1), .val (.int ((p3 &&& (2147483647 : Int32)) % (5 : Int32))), .unset, .unset, .unset, .unset, .unset, .unset, .unset]) rfl ?_
            show Steps p.tables e below (T2.setTop (mkF m 105 #[.val (.int p0), .val (.int p1), .val (.int p2), .val (.int p3), .val (.int p4), .val (.int (own_bit p4 (1 : Int32))), .val (.int (own_bit p4 (2 : Int32))), .val (.int (own_bit p4 (4 : Int32))), .val (.long (own_m p0)), .second, .val (.long (own_M p0 p1)), .second, .val (.double (FP.l2d (own_m p0))), .second, .val (.double (own_max p0 p1 p4)), .second, .val (.ref b1), .val (.int ((p3 &&& (2147483647 : Int32)) % (5 : Int32))), .unset, .unset, .unset, .unset, .unset, .unset, .unset] [])) _
            refine XS.iloadN X2.here hx rfl (hb hby at_105) rfl ?_
            show Steps p.tables e below (T2.setTop (mkF m 106 #[.val (.int p0), .val (.int p1), .val (.int p2), .val (.int p3), .val (.int p4), .val (.int (own_bit p4 (1 : Int32))), .val (.int (own_bit p4 (2 : Int32))), .val (.int (own_bit p4 (4 : Int32))), .val (.long (own_m p0)), .second, .val (.long (own_M p0 p1)), .second, .val (.double (FP.l2d (own_m p0))), .second, .val (.double (own_max p0 p1 p4)), .second, .val (.ref b1), .val (.int ((p3 &&& (2147483647 : Int32)) % (5 : Int32))), .unset, .unset, .unset, .unset, .unset, .unset, .unset] [(.int p2)])) _
            refine XS.i2l X2.here hx rfl (hb hby at_106) rfl ?_
            show Steps p.tables e below (T2.setTop (mkF m 107 #[.val (.int p0), .val (.int p1), .val (.int p2), .val (.int p3), .val (.int p4), .val (.int (own_bit p4 (1 : Int32))), .val (.int (own_bit p4 (2 : Int32))), .val (.int (own_bit p4 (4 : Int32))), .val (.long (own_m p0)), .second, .val (.long (own_M p0 p1)), .second, .val (.double (FP.l2d (own_m p0))), .second, .val (.double (own_max p0 p1 p4)), .second, .val (.ref b1), .val (.int ((p3 &&& (2147483647 : Int32)) % (5 : Int32))), .unset, .unset, .unset, .unset, .unset, .unset, .unset] [(.long (p2.toInt64))])) _
            refine XS.lstore X2.here hx rfl (hb hby at_107) rfl (l' := #[.val (.int p0), .val (.int p1), .val (.int p2), .val (.int p3), .val (.int p4), .val (.int (own_bit p4 (1 : Int32))), .val (.int (own_bit p4 (2 : Int32))), .val (.int (own_bit p4 (4 : Int32))), .val (.long (own_m p0)), .second, .val (.long (own_M p0 p1)), .second, .val (.double (FP.l2d (own_m p0))), .second, .val (.double (own_max p0 p1 p4)), .second, .val (.ref b1), .val (.int ((p3 &&& (2147483647 : Int32)) % (5 : Int32))), .val (.long (p2.toInt64)), .second, .unset, .unset, .unset, .unset, .unset]) rfl ?_
            show Steps p.tables e below (T2.setTop (mkF m 109 #[.val (.int p0), .val (.int p1), .val (.int p2), .val (.int p3), .val (.int p4), .val (.int (own_bit p4 (1 : Int32))), .val (.int (own_bit p4 (2 : Int32))), .val (.int (own_bit p4 (4 : Int32))), .val (.long (own_m p0)), .second, .val (.long (own_M p0 p1)), .second, .val (.double (FP.l2d (own_m p0))), .second, .val (.double (own_max p0 p1 p4)), .second, .val (.ref b1), .val (.int ((p3 &&& (2147483647 : Int32)) % (5 : Int32))), .val (.long (p2.toInt64)), .second, .unset, .unset, .unset, .unset, .unset] [])) _
            refine XS.iload X2.here hx rfl (hb hby at_109) rfl ?_
            show Steps p.tables e below (T2.setTop (mkF m 111 #[.val (.int p0), .val (.int p1), .val (.int p2), .val (.int p3), .val (.int p4), .val (.int (own_bit p4 (1 : Int32))), .val (.int (own_bit p4 (2 : Int32))), .val (.int (own_bit p4 (4 : Int32))), .val (.long (own_m p0)), .second, .val (.long (own_M p0 p1)), .second, .val (.double (FP.l2d (own_m p0))), .second, .val (.double (own_max p0 p1 p4)), .second, .val (.ref b1), .val (.int ((p3 &&& (2147483647 : Int32)) % (5 : Int32))), .val (.long (p2.toInt64)), .second, .unset, .unset, .unset, .unset, .unset] [(.int ((p3 &&& (2147483647 : Int32)) % (5 : Int32)))])) _
            refine XS.ifYes X2.here hx rfl (pc0 := 111) (pc' := 211) rfl (hb hby at_111) rfl hc111 (by decide) (by decide) ?_
            show Steps p.tables e below (T2.setTop (mkF m 211 #[.val (.int p0), .val (.int p1), .val (.int p2), .val (.int p3), .val (.int p4), .val (.int (own_bit p4 (1 : Int32))), .val (.int (own_bit p4 (2 : Int32))), .val (.int (own_bit p4 (4 : Int32))), .val (.long (own_m p0)), .second, .val (.long (own_M p0 p1)), .second, .val (.double (FP.l2d (own_m p0))), .second, .val (.double (own_max p0 p1 p4)), .second, .val (.ref b1), .val (.int ((p3 &&& (2147483647 : Int32)) % (5 : Int32))), .val (.long (p2.toInt64)), .second, .unset, .unset, .unset, .unset, .unset] [])) _
            refine XS.iload X2.here hx rfl (hb hby at_211) rfl ?_
            show Steps p.tables e below (T2.setTop (mkF m 213 #[.val (.int p0), .val (.int p1), .val (.int p2), .val (.int p3), .val (.int p4), .val (.int (own_bit p4 (1 : Int32))), .val (.int (own_bit p4 (2 : Int32))), .val (.int (own_bit p4 (4 : Int32))), .val (.long (own_m p0)), .second, .val (.long (own_M p0 p1)), .second, .val (.double (FP.l2d (own_m p0))), .second, .val (.double (own_max p0 p1 p4)), .second, .val (.ref b1), .val (.int ((p3 &&& (2147483647 : Int32)) % (5 : Int32))), .val (.long (p2.toInt64)), .second, .unset, .unset, .unset, .unset, .unset] [(.int ((p3 &&& (2147483647 : Int32)) % (5 : Int32)))])) _
            refine XS.iconst X2.here hx rfl (hb hby at_213) ?_
            show Steps p.tables e below (T2.setTop (mkF m 214 #[.val (.int p0), .val (.int p1), .val (.int p2), .val (.int p3), .val (.int p4), .val (.int (own_bit p4 (1 : Int32))), .val (.int (own_bit p4 (2 : Int32))), .val (.int (own_bit p4 (4 : Int32))), .val (.long (own_m p0)), .second, .val (.long (own_M p0 p1)), .second, .val (.double (FP.l2d (own_m p0))), .second, .val (.double (own_max p0 p1 p4)), .second, .val (.ref b1), .val (.int ((p3 &&& (2147483647 : Int32)) % (5 : Int32))), .val (.long (p2.toInt64)), .second, .unset, .unset, .unset, .unset, .unset] [(.int (1 : Int32)), (.int ((p3 &&& (2147483647 : Int32)) % (5 : Int32)))])) _
            refine XS.icmpYes X2.here hx rfl (pc0 := 214) (pc' := 281) rfl (hb hby at_214) rfl hc214 (by decide) (by decide) ?_
            show Steps p.tables e below (T2.setTop (mkF m 281 #[.val (.int p0), .val (.int p1), .val (.int p2), .val (.int p3), .val (.int p4), .val (.int (own_bit p4 (1 : Int32))), .val (.int (own_bit p4 (2 : Int32))), .val (.int (own_bit p4 (4 : Int32))), .val (.long (own_m p0)), .second, .val (.long (own_M p0 p1)), .second, .val (.double (FP.l2d (own_m p0))), .second, .val (.double (own_max p0 p1 p4)), .second, .val (.ref b1), .val (.int ((p3 &&& (2147483647 : Int32)) % (5 : Int32))), .val (.long (p2.toInt64)), .second, .unset, .unset, .unset, .unset, .unset] [])) _
            refine XS.iload X2.here hx rfl (hb hby at_281) rfl ?_
            show Steps p.tables e below (T2.setTop (mkF m 283 #[.val (.int p0), .val (.int p1), .val (.int p2), .val (.int p3), .val (.int p4), .val (.int (own_bit p4 (1 : Int32))), .val (.int (own_bit p4 (2 : Int32))), .val (.int (own_bit p4 (4 : Int32))), .val (.long (own_m p0)), .second, .val (.long (own_M p0 p1)), .second, .val (.double (FP.l2d (own_m p0))), .second, .val (.double (own_max p0 p1 p4)), .second, .val (.ref b1), .val (.int ((p3 &&& (2147483647 : Int32)) % (5 : Int32))), .val (.long (p2.toInt64)), .second, .unset, .unset, .unset, .unset, .unset] [(.int ((p3 &&& (2147483647 : Int32)) % (5 : Int32)))])) _
            refine XS.iconst X2.here hx rfl (hb hby at_283) ?_
            show Steps p.tables e below (T2.setTop (mkF m 284 #[.val (.int p0), .val (.int p1), .val (.int p2), .val (.int p3), .val (.int p4), .val (.int (own_bit p4 (1 : Int32))), .val (.int (own_bit p4 (2 : Int32))), .val (.int (own_bit p4 (4 : Int32))), .val (.long (own_m p0)), .second, .val (.long (own_M p0 p1)), .second, .val (.double (FP.l2d (own_m p0))), .second, .val (.double (own_max p0 p1 p4)), .second, .val (.ref b1), .val (.int ((p3 &&& (2147483647 : Int32)) % (5 : Int32))), .val (.long (p2.toInt64)), .second, .unset, .unset, .unset, .unset, .unset] [(.int (2 : Int32)), (.int ((p3 &&& (2147483647 : Int32)) % (5 : Int32)))])) _
            refine XS.icmpYes X2.here hx rfl (pc0 := 284) (pc' := 298) rfl (hb hby at_284) rfl hc284 (by decide) (by decide) ?_
            show Steps p.tables e below (T2.setTop (mkF m 298 #[.val (.int p0), .val (.int p1), .val (.int p2), .val (.int p3), .val (.int p4), .val (.int (own_bit p4 (1 : Int32))), .val (.int (own_bit p4 (2 : Int32))), .val (.int (own_bit p4 (4 : Int32))), .val (.long (own_m p0)), .second, .val (.long (own_M p0 p1)), .second, .val (.double (FP.l2d (own_m p0))), .second, .val (.double (own_max p0 p1 p4)), .second, .val (.ref b1), .val (.int ((p3 &&& (2147483647 : Int32)) % (5 : Int32))), .val (.long (p2.toInt64)), .second, .unset, .unset, .unset, .unset, .unset] [])) _
            refine XS.iload X2.here hx rfl (hb hby at_298) rfl ?_
            show Steps p.tables e below (T2.setTop (mkF m 300 #[.val (.int p0), .val (.int p1), .val (.int p2), .val (.int p3), .val (.int p4), .val (.int (own_bit p4 (1 : Int32))), .val (.int (own_bit p4 (2 : Int32))), .val (.int (own_bit p4 (4 : Int32))), .val (.long (own_m p0)), .second, .val (.long (own_M p0 p1)), .second, .val (.double (FP.l2d (own_m p0))), .second, .val (.double (own_max p0 p1 p4)), .second, .val (.ref b1), .val (.int ((p3 &&& (2147483647 : Int32)) % (5 : Int32))), .val (.long (p2.toInt64)), .second, .unset, .unset, .unset, .unset, .unset] [(.int ((p3 &&& (2147483647 : Int32)) % (5 : Int32)))])) _
            refine XS.iconst X2.here hx rfl (hb hby at_300) ?_
            show Steps p.tables e below (T2.setTop (mkF m 301 #[.val (.int p0), .val (.int p1), .val (.int p2), .val (.int p3), .val (.int p4), .val (.int (own_bit p4 (1 : Int32))), .val (.int (own_bit p4 (2 : Int32))), .val (.int (own_bit p4 (4 : Int32))), .val (.long (own_m p0)), .second, .val (.long (own_M p0 p1)), .second, .val (.double (FP.l2d (own_m p0))), .second, .val (.double (own_max p0 p1 p4)), .second, .val (.ref b1), .val (.int ((p3 &&& (2147483647 : Int32)) % (5 : Int32))), .val (.long (p2.toInt64)), .second, .unset, .unset, .unset, .unset, .unset] [(.int (3 : Int32)), (.int ((p3 &&& (2147483647 : Int32)) % (5 : Int32)))])) _
            refine XS.icmpYes X2.here hx rfl (pc0 := 301) (pc' := 315) rfl (hb hby at_301) rfl hc301 (by decide) (by decide) ?_
            show Steps p.tables e below (T2.setTop (mkF m 315 #[.val (.int p0), .val (.int p1), .val (.int p2), .val (.int p3), .val (.int p4), .val (.int (own_bit p4 (1 : Int32))), .val (.int (own_bit p4 (2 : Int32))), .val (.int (own_bit p4 (4 : Int32))), .val (.long (own_m p0)), .second, .val (.long (own_M p0 p1)), .second, .val (.double (FP.l2d (own_m p0))), .second, .val (.double (own_max p0 p1 p4)), .second, .val (.ref b1), .val (.int ((p3 &&& (2147483647 : Int32)) % (5 : Int32))), .val (.long (p2.toInt64)), .second, .unset, .unset, .unset, .unset, .unset] [])) _
            refine X2.ldc2DoubleC hx hown (mvT hZ (hw _ (List.mem_of_getElem? (i := 32) rfl))) (g := (mkF m 315 #[.val (.int p0), .val (.int p1), .val (.int p2), .val (.int p3), .val (.int p4), .val (.int (own_bit p4 (1 : Int32))), .val (.int (own_bit p4 (2 : Int32))), .val (.int (own_bit p4 (4 : Int32))), .val (.long (own_m p0)), .second, .val (.long (own_M p0 p1)), .second, .val (.double (FP.l2d (own_m p0))), .second, .val (.double (own_max p0 p1 p4)), .second, .val (.ref b1), .val (.int ((p3 &&& (2147483647 : Int32)) % (5 : Int32))), .val (.long (p2.toInt64)), .second, .unset, .unset, .unset, .unset, .unset] [])) rfl (hb hby at_315) _ ?_
            show Steps p.tables e below (T2.setTop (mkF m 318 #[.val (.int p0), .val (.int p1), .val (.int p2), .val (.int p3), .val (.int p4), .val (.int (own_bit p4 (1 : Int32))), .val (.int (own_bit p4 (2 : Int32))), .val (.int (own_bit p4 (4 : Int32))), .val (.long (own_m p0)), .second, .val (.long (own_M p0 p1)), .second, .val (.double (FP.l2d (own_m p0))), .second, .val (.double (own_max p0 p1 p4)), .second, .val (.ref b1), .val (.int ((p3 &&& (2147483647 : Int32)) % (5 : Int32))), .val (.long (p2.toInt64)), .second, .unset, .unset, .unset, .unset, .unset] [(.double (9223372036854775808 : UInt64))])) _
            refine XS.dstore X2.here hx rfl (hb hby at_318) rfl (l' := #[.val (.int p0), .val (.int p1), .val (.int p2), .val (.int p3), .val (.int p4), .val (.int (own_bit p4 (1 : Int32))), .val (.int (own_bit p4 (2 : Int32))), .val (.int (own_bit p4 (4 : Int32))), .val (.long (own_m p0)), .second, .val (.long (own_M p0 p1)), .second, .val (.double (FP.l2d (own_m p0))), .second, .val (.double (own_max p0 p1 p4)), .second, .val (.ref b1), .val (.int ((p3 &&& (2147483647 : Int32)) % (5 : Int32))), .val (.long (p2.toInt64)), .second, .val (.double (9223372036854775808 : UInt64)), .second, .unset, .unset, .unset]) rfl ?_
            show Steps p.tables e below (T2.setTop (mkF m 320 #[.val (.int p0), .val (.int p1), .val (.int p2), .val (.int p3), .val (.int p4), .val (.int (own_bit p4 (1 : Int32))), .val (.int (own_bit p4 (2 : Int32))), .val (.int (own_bit p4 (4 : Int32))), .val (.long (own_m p0)), .second, .val (.long (own_M p0 p1)), .second, .val (.double (FP.l2d (own_m p0))), .second, .val (.double (own_max p0 p1 p4)), .second, .val (.ref b1), .val (.int ((p3 &&& (2147483647 : Int32)) % (5 : Int32))), .val (.long (p2.toInt64)), .second, .val (.double (9223372036854775808 : UInt64)), .second, .unset, .unset, .unset] [])) _
            refine sg_0_320_352 X2 hx hZ hw hby hown ?_
            show Steps p.tables e below (T2.setTop (mkF m 352 #[.val (.int p0), .val (.int p1), .val (.int p2), .val (.int p3), .val (.int p4), .val (.int (own_bit p4 (1 : Int32))), .val (.int (own_bit p4 (2 : Int32))), .val (.int (own_bit p4 (4 : Int32))), .val (.long (own_m p0)), .second, .val (.long (own_M p0 p1)), .second, .val (.double (FP.l2d (own_m p0))), .second, .val (.double (own_max p0 p1 p4)), .second, .val (.ref b1), .val (.int ((p3 &&& (2147483647 : Int32)) % (5 : Int32))), .val (.long (p2.toInt64)), .second, .val (.double (9223372036854775808 : UInt64)), .second, .unset, .unset, .unset] [(.int (own_lo (own_bit p4 (1 : Int32)) (lcmpW (0 : Int64) (own_m p0))))])) _
            refine XS.istore X2.here hx rfl (hb hby at_352) rfl (l' := #[.val (.int p0), .val (.int p1), .val (.int p2), .val (.int p3), .val (.int p4), .val (.int (own_bit p4 (1 : Int32))), .val (.int (own_bit p4 (2 : Int32))), .val (.int (own_bit p4 (4 : Int32))), .val (.long (own_m p0)), .second, .val (.long (own_M p0 p1)), .second, .val (.double (FP.l2d (own_m p0))), .second, .val (.double (own_max p0 p1 p4)), .second, .val (.ref b1), .val (.int ((p3 &&& (2147483647 : Int32)) % (5 : Int32))), .val (.long (p2.toInt64)), .second, .val (.double (9223372036854775808 : UInt64)), .second, .unset, .val (.int (own_lo (own_bit p4 (1 : Int32)) (lcmpW (0 : Int64) (own_m p0)))), .unset]) rfl ?_
            show Steps p.tables e below (T2.setTop (mkF m 354 #[.val (.int p0), .val (.int p1), .val (.int p2), .val (.int p3), .val (.int p4), .val (.int (own_bit p4 (1 : Int32))), .val (.int (own_bit p4 (2 : Int32))), .val (.int (own_bit p4 (4 : Int32))), .val (.long (own_m p0)), .second, .val (.long (own_M p0 p1)), .second, .val (.double (FP.l2d (own_m p0))), .second, .val (.double (own_max p0 p1 p4)), .second, .val (.ref b1), .val (.int ((p3 &&& (2147483647 : Int32)) % (5 : Int32))), .val (.long (p2.toInt64)), .second, .val (.double (9223372036854775808 : UInt64)), .second, .unset, .val (.int (own_lo (own_bit p4 (1 : Int32)) (lcmpW (0 : Int64) (own_m p0)))), .unset] [])) _
            refine sg_0_354_386 X2 hx hZ hw hby hown ?_
            show Steps p.tables e below (T2.setTop (mkF m 386 #[.val (.int p0), .val (.int p1), .val (.int p2), .val (.int p3), .val (.int p4), .val (.int (own_bit p4 (1 : Int32))), .val (.int (own_bit p4 (2 : Int32))), .val (.int (own_bit p4 (4 : Int32))), .val (.long (own_m p0)), .second, .val (.long (own_M p0 p1)), .second, .val (.double (FP.l2d (own_m p0))), .second, .val (.double (own_max p0 p1 p4)), .second, .val (.ref b1), .val (.int ((p3 &&& (2147483647 : Int32)) % (5 : Int32))), .val (.long (p2.toInt64)), .second, .val (.double (9223372036854775808 : UInt64)), .second, .unset, .val (.int (own_lo (own_bit p4 (1 : Int32)) (lcmpW (0 : Int64) (own_m p0)))), .unset] [(.int (own_ehi (own_bit p4 (4 : Int32)) (own_bit p4 (2 : Int32)) (lcmpW (0 : Int64) (own_M p0 p1))))])) _
            refine XS.istore X2.here hx rfl (hb hby at_386) rfl (l' := #[.val (.int p0), .val (.int p1), .val (.int p2), .val (.int p3), .val (.int p4), .val (.int (own_bit p4 (1 : Int32))), .val (.int (own_bit p4 (2 : Int32))), .val (.int (own_bit p4 (4 : Int32))), .val (.long (own_m p0)), .second, .val (.long (own_M p0 p1)), .second, .val (.double (FP.l2d (own_m p0))), .second, .val (.double (own_max p0 p1 p4)), .second, .val (.ref b1), .val (.int ((p3 &&& (2147483647 : Int32)) % (5 : Int32))), .val (.long (p2.toInt64)), .second, .val (.double (9223372036854775808 : UInt64)), .second, .unset, .val (.int (own_lo (own_bit p4 (1 : Int32)) (lcmpW (0 : Int64) (own_m p0)))), .val (.int (own_ehi (own_bit p4 (4 : Int32)) (own_bit p4 (2 : Int32)) (lcmpW (0 : Int64) (own_M p0 p1))))]) rfl ?_
            show Steps p.tables e below (T2.setTop (mkF m 388 #[.val (.int p0), .val (.int p1), .val (.int p2), .val (.int p3), .val (.int p4), .val (.int (own_bit p4 (1 : Int32))), .val (.int (own_bit p4 (2 : Int32))), .val (.int (own_bit p4 (4 : Int32))), .val (.long (own_m p0)), .second, .val (.long (own_M p0 p1)), .second, .val (.double (FP.l2d (own_m p0))), .second, .val (.double (own_max p0 p1 p4)), .second, .val (.ref b1), .val (.int ((p3 &&& (2147483647 : Int32)) % (5 : Int32))), .val (.long (p2.toInt64)), .second, .val (.double (9223372036854775808 : UInt64)), .second, .unset, .val (.int (own_lo (own_bit p4 (1 : Int32)) (lcmpW (0 : Int64) (own_m p0)))), .val (.int (own_ehi (own_bit p4 (4 : Int32)) (own_bit p4 (2 : Int32)) (lcmpW (0 : Int64) (own_M p0 p1))))] [])) _
            refine sg_0_388_403 X2 hx hZ hw hby hown ?_
            show Steps p.tables e below (T2.setTop (mkF m 403 #[.val (.int p0), .val (.int p1), .val (.int p2), .val (.int p3), .val (.int p4), .val (.int (own_bit p4 (1 : Int32))), .val (.int (own_bit p4 (2 : Int32))), .val (.int (own_bit p4 (4 : Int32))), .val (.long (own_m p0)), .second, .val (.long (own_M p0 p1)), .second, .val (.double (FP.l2d (own_m p0))), .second, .val (.double (own_max p0 p1 p4)), .second, .val (.ref b1), .val (.int ((p3 &&& (2147483647 : Int32)) % (5 : Int32))), .val (.long (p2.toInt64)), .second, .val (.double (9223372036854775808 : UInt64)), .second, .unset, .val (.int (own_lo (own_bit p4 (1 : Int32)) (lcmpW (0 : Int64) (own_m p0)))), .val (.int (own_ehi (own_bit p4 (4 : Int32)) (own_bit p4 (2 : Int32)) (lcmpW (0 : Int64) (own_M p0 p1))))] [(.int (own_exp (own_lo (own_bit p4 (1 : Int32)) (lcmpW (0 : Int64) (own_m p0))) (own_ehi (own_bit p4 (4 : Int32)) (own_bit p4 (2 : Int32)) (lcmpW (0 : Int64) (own_M p0 p1)))))])) _
            refine XS.istore X2.here hx rfl (hb hby at_403) rfl (l' := #[.val (.int p0), .val (.int p1), .val (.int p2), .val (.int p3), .val (.int p4), .val (.int (own_bit p4 (1 : Int32))), .val (.int (own_bit p4 (2 : Int32))), .val (.int (own_bit p4 (4 : Int32))), .val (.long (own_m p0)), .second, .val (.long (own_M p0 p1)), .second, .val (.double (FP.l2d (own_m p0))), .second, .val (.double (own_max p0 p1 p4)), .second, .val (.ref b1), .val (.int ((p3 &&& (2147483647 : Int32)) % (5 : Int32))), .val (.long (p2.toInt64)), .second, .val (.double (9223372036854775808 : UInt64)), .second, .val (.int (own_exp (own_lo (own_bit p4 (1 : Int32)) (lcmpW (0 : Int64) (own_m p0))) (own_ehi (own_bit p4 (4 : Int32)) (own_bit p4 (2 : Int32)) (lcmpW (0 : Int64) (own_M p0 p1))))), .val (.int (own_lo (own_bit p4 (1 : Int32)) (lcmpW (0 : Int64) (own_m p0)))), .val (.int (own_ehi (own_bit p4 (4 : Int32)) (own_bit p4 (2 : Int32)) (lcmpW (0 : Int64) (own_M p0 p1))))]) rfl ?_
            show Steps p.tables e below (T2.setTop (mkF m 405 #[.val (.int p0), .val (.int p1), .val (.int p2), .val (.int p3), .val (.int p4), .val (.int (own_bit p4 (1 : Int32))), .val (.int (own_bit p4 (2 : Int32))), .val (.int (own_bit p4 (4 : Int32))), .val (.long (own_m p0)), .second, .val (.long (own_M p0 p1)), .second, .val (.double (FP.l2d (own_m p0))), .second, .val (.double (own_max p0 p1 p4)), .second, .val (.ref b1), .val (.int ((p3 &&& (2147483647 : Int32)) % (5 : Int32))), .val (.long (p2.toInt64)), .second, .val (.double (9223372036854775808 : UInt64)), .second, .val (.int (own_exp (own_lo (own_bit p4 (1 : Int32)) (lcmpW (0 : Int64) (own_m p0))) (own_ehi (own_bit p4 (4 : Int32)) (own_bit p4 (2 : Int32)) (lcmpW (0 : Int64) (own_M p0 p1))))), .val (.int (own_lo (own_bit p4 (1 : Int32)) (lcmpW (0 : Int64) (own_m p0)))), .val (.int (own_ehi (own_bit p4 (4 : Int32)) (own_bit p4 (2 : Int32)) (lcmpW (0 : Int64) (own_M p0 p1))))] [])) _
            refine XS.aload X2.here hx rfl (hb hby at_405) rfl rfl ?_
            show Steps p.tables e below (T2.setTop (mkF m 407 #[.val (.int p0), .val (.int p1), .val (.int p2), .val (.int p3), .val (.int p4), .val (.int (own_bit p4 (1 : Int32))), .val (.int (own_bit p4 (2 : Int32))), .val (.int (own_bit p4 (4 : Int32))), .val (.long (own_m p0)), .second, .val (.long (own_M p0 p1)), .second, .val (.double (FP.l2d (own_m p0))), .second, .val (.double (own_max p0 p1 p4)), .second, .val (.ref b1), .val (.int ((p3 &&& (2147483647 : Int32)) % (5 : Int32))), .val (.long (p2.toInt64)), .second, .val (.double (9223372036854775808 : UInt64)), .second, .val (.int (own_exp (own_lo (own_bit p4 (1 : Int32)) (lcmpW (0 : Int64) (own_m p0))) (own_ehi (own_bit p4 (4 : Int32)) (own_bit p4 (2 : Int32)) (lcmpW (0 : Int64) (own_M p0 p1))))), .val (.int (own_lo (own_bit p4 (1 : Int32)) (lcmpW (0 : Int64) (own_m p0)))), .val (.int (own_ehi (own_bit p4 (4 : Int32)) (own_bit p4 (2 : Int32)) (lcmpW (0 : Int64) (own_M p0 p1))))] [(.ref b1)])) _
            refine XS.dload X2.here hx rfl (hb hby at_407) rfl ?_
            show Steps p.tables e below (T2.setTop (mkF m 409 #[.val (.int p0), .val (.int p1), .val (.int p2), .val (.int p3), .val (.int p4), .val (.int (own_bit p4 (1 : Int32))), .val (.int (own_bit p4 (2 : Int32))), .val (.int (own_bit p4 (4 : Int32))), .val (.long (own_m p0)), .second, .val (.long (own_M p0 p1)), .second, .val (.double (FP.l2d (own_m p0))), .second, .val (.double (own_max p0 p1 p4)), .second, .val (.ref b1), .val (.int ((p3 &&& (2147483647 : Int32)) % (5 : Int32))), .val (.long (p2.toInt64)), .second, .val (.double (9223372036854775808 : UInt64)), .second, .val (.int (own_exp (own_lo (own_bit p4 (1 : Int32)) (lcmpW (0 : Int64) (own_m p0))) (own_ehi (own_bit p4 (4 : Int32)) (own_bit p4 (2 : Int32)) (lcmpW (0 : Int64) (own_M p0 p1))))), .val (.int (own_lo (own_bit p4 (1 : Int32)) (lcmpW (0 : Int64) (own_m p0)))), .val (.int (own_ehi (own_bit p4 (4 : Int32)) (own_bit p4 (2 : Int32)) (lcmpW (0 : Int64) (own_M p0 p1))))] [(.double (9223372036854775808 : UInt64)), (.ref b1)])) _
            refine st3.trans ?_
            show Steps p.tables e below (T3.setTop (mkF m 412 #[.val (.int p0), .val (.int p1), .val (.int p2), .val (.int p3), .val (.int p4), .val (.int (own_bit p4 (1 : Int32))), .val (.int (own_bit p4 (2 : Int32))), .val (.int (own_bit p4 (4 : Int32))), .val (.long (own_m p0)), .second, .val (.long (own_M p0 p1)), .second, .val (.double (FP.l2d (own_m p0))), .second, .val (.double (own_max p0 p1 p4)), .second, .val (.ref b1), .val (.int ((p3 &&& (2147483647 : Int32)) % (5 : Int32))), .val (.long (p2.toInt64)), .second, .val (.double (9223372036854775808 : UInt64)), .second, .val (.int (own_exp (own_lo (own_bit p4 (1 : Int32)) (lcmpW (0 : Int64) (own_m p0))) (own_ehi (own_bit p4 (4 : Int32)) (own_bit p4 (2 : Int32)) (lcmpW (0 : Int64) (own_M p0 p1))))), .val (.int (own_lo (own_bit p4 (1 : Int32)) (lcmpW (0 : Int64) (own_m p0)))), .val (.int (own_ehi (own_bit p4 (4 : Int32)) (own_bit p4 (2 : Int32)) (lcmpW (0 : Int64) (own_M p0 p1))))] [(.int (own_cont (FP.l2d (own_m p0)) (nar .boolean (own_bit p4 (1 : Int32))) (own_max p0 p1 p4) (nar .boolean (own_bit p4 (2 : Int32))) (9223372036854775808 : UInt64)))])) _
            refine XS.iload X3.here hx rfl (hb hby at_412) rfl ?_
            show Steps p.tables e below (T3.setTop (mkF m 414 #[.val (.int p0), .val (.int p1), .val (.int p2), .val (.int p3), .val (.int p4), .val (.int (own_bit p4 (1 : Int32))), .val (.int (own_bit p4 (2 : Int32))), .val (.int (own_bit p4 (4 : Int32))), .val (.long (own_m p0)), .second, .val (.long (own_M p0 p1)), .second, .val (.double (FP.l2d (own_m p0))), .second, .val (.double (own_max p0 p1 p4)), .second, .val (.ref b1), .val (.int ((p3 &&& (2147483647 : Int32)) % (5 : Int32))), .val (.long (p2.toInt64)), .second, .val (.double (9223372036854775808 : UInt64)), .second, .val (.int (own_exp (own_lo (own_bit p4 (1 : Int32)) (lcmpW (0 : Int64) (own_m p0))) (own_ehi (own_bit p4 (4 : Int32)) (own_bit p4 (2 : Int32)) (lcmpW (0 : Int64) (own_M p0 p1))))), .val (.int (own_lo (own_bit p4 (1 : Int32)) (lcmpW (0 : Int64) (own_m p0)))), .val (.int (own_ehi (own_bit p4 (4 : Int32)) (own_bit p4 (2 : Int32)) (lcmpW (0 : Int64) (own_M p0 p1))))] [(.int (own_exp (own_lo (own_bit p4 (1 : Int32)) (lcmpW (0 : Int64) (own_m p0))) (own_ehi (own_bit p4 (4 : Int32)) (own_bit p4 (2 : Int32)) (lcmpW (0 : Int64) (own_M p0 p1))))), (.int (own_cont (FP.l2d (own_m p0)) (nar .boolean (own_bit p4 (1 : Int32))) (own_max p0 p1 p4) (nar .boolean (own_bit p4 (2 : Int32))) (9223372036854775808 : UInt64)))])) _
            refine XS.icmpNo X3.here hx rfl (hb hby at_414) rfl (own_law4 p0 p1 p4) ?_
            show Steps p.tables e below (T3.setTop (mkF m 417 #[.val (.int p0), .val (.int p1), .val (.int p2), .val (.int p3), .val (.int p4), .val (.int (own_bit p4 (1 : Int32))), .val (.int (own_bit p4 (2 : Int32))), .val (.int (own_bit p4 (4 : Int32))), .val (.long (own_m p0)), .second, .val (.long (own_M p0 p1)), .second, .val (.double (FP.l2d (own_m p0))), .second, .val (.double (own_max p0 p1 p4)), .second, .val (.ref b1), .val (.int ((p3 &&& (2147483647 : Int32)) % (5 : Int32))), .val (.long (p2.toInt64)), .second, .val (.double (9223372036854775808 : UInt64)), .second, .val (.int (own_exp (own_lo (own_bit p4 (1 : Int32)) (lcmpW (0 : Int64) (own_m p0))) (own_ehi (own_bit p4 (4 : Int32)) (own_bit p4 (2 : Int32)) (lcmpW (0 : Int64) (own_M p0 p1))))), .val (.int (own_lo (own_bit p4 (1 : Int32)) (lcmpW (0 : Int64) (own_m p0)))), .val (.int (own_ehi (own_bit p4 (4 : Int32)) (own_bit p4 (2 : Int32)) (lcmpW (0 : Int64) (own_M p0 p1))))] [])) _
            refine XS.iconst X3.here hx rfl (hb hby at_417) ?_
            show Steps p.tables e below (T3.setTop (mkF m 418 #[.val (.int p0), .val (.int p1), .val (.int p2), .val (.int p3), .val (.int p4), .val (.int (own_bit p4 (1 : Int32))), .val (.int (own_bit p4 (2 : Int32))), .val (.int (own_bit p4 (4 : Int32))), .val (.long (own_m p0)), .second, .val (.long (own_M p0 p1)), .second, .val (.double (FP.l2d (own_m p0))), .second, .val (.double (own_max p0 p1 p4)), .second, .val (.ref b1), .val (.int ((p3 &&& (2147483647 : Int32)) % (5 : Int32))), .val (.long (p2.toInt64)), .second, .val (.double (9223372036854775808 : UInt64)), .second, .val (.int (own_exp (own_lo (own_bit p4 (1 : Int32)) (lcmpW (0 : Int64) (own_m p0))) (own_ehi (own_bit p4 (4 : Int32)) (own_bit p4 (2 : Int32)) (lcmpW (0 : Int64) (own_M p0 p1))))), .val (.int (own_lo (own_bit p4 (1 : Int32)) (lcmpW (0 : Int64) (own_m p0)))), .val (.int (own_ehi (own_bit p4 (4 : Int32)) (own_bit p4 (2 : Int32)) (lcmpW (0 : Int64) (own_M p0 p1))))] [(.int (1 : Int32))])) _
            refine XS.goto X3.here hx rfl (pc0 := 418) (pc' := 422) rfl (hb hby at_418) (by decide) (by decide) ?_
            show Steps p.tables e below (T3.setTop (mkF m 422 #[.val (.int p0), .val (.int p1), .val (.int p2), .val (.int p3), .val (.int p4), .val (.int (own_bit p4 (1 : Int32))), .val (.int (own_bit p4 (2 : Int32))), .val (.int (own_bit p4 (4 : Int32))), .val (.long (own_m p0)), .second, .val (.long (own_M p0 p1)), .second, .val (.double (FP.l2d (own_m p0))), .second, .val (.double (own_max p0 p1 p4)), .second, .val (.ref b1), .val (.int ((p3 &&& (2147483647 : Int32)) % (5 : Int32))), .val (.long (p2.toInt64)), .second, .val (.double (9223372036854775808 : UInt64)), .second, .val (.int (own_exp (own_lo (own_bit p4 (1 : Int32)) (lcmpW (0 : Int64) (own_m p0))) (own_ehi (own_bit p4 (4 : Int32)) (own_bit p4 (2 : Int32)) (lcmpW (0 : Int64) (own_M p0 p1))))), .val (.int (own_lo (own_bit p4 (1 : Int32)) (lcmpW (0 : Int64) (own_m p0)))), .val (.int (own_ehi (own_bit p4 (4 : Int32)) (own_bit p4 (2 : Int32)) (lcmpW (0 : Int64) (own_M p0 p1))))] [(.int (1 : Int32))])) _
            exact retN X3 hx (t := .boolean) Bd.returns (by simp) (hb hby at_422) hr
          · show Q0 Z p0 p1 p2 p3 p4 h0 n0 _ T3.heap _
            rw [eh3]
            exact ⟨rfl, N3⟩
        · obtain ⟨cq4, kq4, q4a, q4b, q4c⟩ := isOf hZ rfl Ea2
          obtain ⟨_, _, ⟨T4, L4, k4, n4⟩, -, X4, ⟨Lc4, hQ4, l4, y4, z4⟩, st4⟩ := X2.virtualBack hx (y := (⟨"com/example/mynegai/mynegai/command/DecimalRange", "contains", "(D)Z"⟩ : MethodName)) (z := (⟨"com/example/mynegai/mynegai/command/DecimalRange", "contains", "(D)Z"⟩ : MethodName)) hown (mvT hZ (hw _ (List.mem_of_getElem? (i := 26) rfl))) (mvT hZ (hw _ (List.mem_of_getElem? (i := 27) rfl))) (notFace_of_selects (args := #[]) (mvT hZ (hw _ (List.mem_of_getElem? (i := 29) rfl)))) (mvT hZ (hw _ (List.mem_of_getElem? (i := 29) rfl))) (mvT hZ (hw _ (List.mem_of_getElem? (i := 28) rfl))) (by decide) (backOf (W := 0) (rmct l Z a0 hw [] b1 (FP.l2d (own_m p0)) (nar .boolean (own_bit p4 (1 : Int32))) (own_max p0 p1 p4) (nar .boolean (own_bit p4 (2 : Int32))) (18442240474082181120 : UInt64) T2.heap n0 (Nat.le_trans (Nat.le_trans Z0 E1.1) K2.1) Fa2 Fb2 Fc2 Fd2) hZ (hw _ (List.mem_of_getElem? (i := 30) rfl)) (hw _ (List.mem_of_getElem? (i := 3) rfl)) (by decide) (by decide)) q4a q4c (g := (mkF m 409 #[.val (.int p0), .val (.int p1), .val (.int p2), .val (.int p3), .val (.int p4), .val (.int (own_bit p4 (1 : Int32))), .val (.int (own_bit p4 (2 : Int32))), .val (.int (own_bit p4 (4 : Int32))), .val (.long (own_m p0)), .second, .val (.long (own_M p0 p1)), .second, .val (.double (FP.l2d (own_m p0))), .second, .val (.double (own_max p0 p1 p4)), .second, .val (.ref b1), .val (.int ((p3 &&& (2147483647 : Int32)) % (5 : Int32))), .val (.long (p2.toInt64)), .second, .val (.double (18442240474082181120 : UInt64)), .second, .val (.int (0 : Int32)), .unset, .unset] [(.double (18442240474082181120 : UInt64)), (.ref b1)])) rfl (by rw [hml]; rfl) (Steps.refl _) (argsL := [(.double (18442240474082181120 : UInt64))]) (rest := []) (lenOf pd_2 rfl) rfl (by show 2 * 0 + _ ≤ _; exact Nat.le_of_eq rfl) (hb hby at_409) (fun _ _ => ⟨rfl, rfl, (by decide : 1 + 0 ≤ _), (by decide : 4 + 0 ≤ _)⟩)
          dsimp only [Pt.U, Pt.locs, Pt.cells, Pt.slots] at X4 l4 y4 z4 st4 hQ4
          subst l4 y4 z4
          obtain ⟨rfl, N4q, eh4⟩ := hQ4
          have N4 := Fr.app N2 N4q
          obtain ⟨fs, hr, hrun, hended, hW, hsame⟩ := X4.leave (v := some (.int (nar .boolean (1 : Int32)))) (fun h => by rw [Bd.returns] at h; cases h)
          refine ⟨_, _, pre0 _ ?_, hrun, hended, _, _, rfl, ?_, ⟨_, rfl⟩, hW, hsame.mono (by decide) (by decide)⟩
          · show Steps p.tables e below (s₁.setTop (mkF m 0 #[.val (.int p0), .val (.int p1), .val (.int p2), .val (.int p3), .val (.int p4), .unset, .unset, .unset, .unset, .unset, .unset, .unset, .unset, .unset, .unset, .unset, .unset, .unset, .unset, .unset, .unset, .unset, .unset, .unset, .unset] [])) _
            refine sg_0_0_12 X0 hx hZ hw hby hown ?_
            show Steps p.tables e below (s₁.setTop (mkF m 12 #[.val (.int p0), .val (.int p1), .val (.int p2), .val (.int p3), .val (.int p4), .unset, .unset, .unset, .unset, .unset, .unset, .unset, .unset, .unset, .unset, .unset, .unset, .unset, .unset, .unset, .unset, .unset, .unset, .unset, .unset] [(.int (own_bit p4 (1 : Int32)))])) _
            refine XS.istore X0.here hx rfl (hb hby at_12) rfl (l' := #[.val (.int p0), .val (.int p1), .val (.int p2), .val (.int p3), .val (.int p4), .val (.int (own_bit p4 (1 : Int32))), .unset, .unset, .unset, .unset, .unset, .unset, .unset, .unset, .unset, .unset, .unset, .unset, .unset, .unset, .unset, .unset, .unset, .unset, .unset]) rfl ?_
            show Steps p.tables e below (s₁.setTop (mkF m 14 #[.val (.int p0), .val (.int p1), .val (.int p2), .val (.int p3), .val (.int p4), .val (.int (own_bit p4 (1 : Int32))), .unset, .unset, .unset, .unset, .unset, .unset, .unset, .unset, .unset, .unset, .unset, .unset, .unset, .unset, .unset, .unset, .unset, .unset, .unset] [])) _
            refine sg_0_14_26 X0 hx hZ hw hby hown ?_
            show Steps p.tables e below (s₁.setTop (mkF m 26 #[.val (.int p0), .val (.int p1), .val (.int p2), .val (.int p3), .val (.int p4), .val (.int (own_bit p4 (1 : Int32))), .unset, .unset, .unset, .unset, .unset, .unset, .unset, .unset, .unset, .unset, .unset, .unset, .unset, .unset, .unset, .unset, .unset, .unset, .unset] [(.int (own_bit p4 (2 : Int32)))])) _
            refine XS.istore X0.here hx rfl (hb hby at_26) rfl (l' := #[.val (.int p0), .val (.int p1), .val (.int p2), .val (.int p3), .val (.int p4), .val (.int (own_bit p4 (1 : Int32))), .val (.int (own_bit p4 (2 : Int32))), .unset, .unset, .unset, .unset, .unset, .unset, .unset, .unset, .unset, .unset, .unset, .unset, .unset, .unset, .unset, .unset, .unset, .unset]) rfl ?_
            show Steps p.tables e below (s₁.setTop (mkF m 28 #[.val (.int p0), .val (.int p1), .val (.int p2), .val (.int p3), .val (.int p4), .val (.int (own_bit p4 (1 : Int32))), .val (.int (own_bit p4 (2 : Int32))), .unset, .unset, .unset, .unset, .unset, .unset, .unset, .unset, .unset, .unset, .unset, .unset, .unset, .unset, .unset, .unset, .unset, .unset] [])) _
            refine sg_0_28_40 X0 hx hZ hw hby hown ?_
            show Steps p.tables e below (s₁.setTop (mkF m 40 #[.val (.int p0), .val (.int p1), .val (.int p2), .val (.int p3), .val (.int p4), .val (.int (own_bit p4 (1 : Int32))), .val (.int (own_bit p4 (2 : Int32))), .unset, .unset, .unset, .unset, .unset, .unset, .unset, .unset, .unset, .unset, .unset, .unset, .unset, .unset, .unset, .unset, .unset, .unset] [(.int (own_bit p4 (4 : Int32)))])) _
            refine XS.istore X0.here hx rfl (hb hby at_40) rfl (l' := #[.val (.int p0), .val (.int p1), .val (.int p2), .val (.int p3), .val (.int p4), .val (.int (own_bit p4 (1 : Int32))), .val (.int (own_bit p4 (2 : Int32))), .val (.int (own_bit p4 (4 : Int32))), .unset, .unset, .unset, .unset, .unset, .unset, .unset, .unset, .unset, .unset, .unset, .unset, .unset, .unset, .unset, .unset, .unset]) rfl ?_
            show Steps p.tables e below (s₁.setTop (mkF m 42 #[.val (.int p0), .val (.int p1), .val (.int p2), .val (.int p3), .val (.int p4), .val (.int (own_bit p4 (1 : Int32))), .val (.int (own_bit p4 (2 : Int32))), .val (.int (own_bit p4 (4 : Int32))), .unset, .unset, .unset, .unset, .unset, .unset, .unset, .unset, .unset, .unset, .unset, .unset, .unset, .unset, .unset, .unset, .unset] [])) _
            refine XS.iloadN X0.here hx rfl (hb hby at_42) rfl ?_
            show Steps p.tables e below (s₁.setTop (mkF m 43 #[.val (.int p0), .val (.int p1), .val (.int p2), .val (.int p3), .val (.int p4), .val (.int (own_bit p4 (1 : Int32))), .val (.int (own_bit p4 (2 : Int32))), .val (.int (own_bit p4 (4 : Int32))), .unset, .unset, .unset, .unset, .unset, .unset, .unset, .unset, .unset, .unset, .unset, .unset, .unset, .unset, .unset, .unset, .unset] [(.int p0)])) _
            refine X0.ldcInt hx hown (mvT hZ (hw _ (List.mem_of_getElem? (i := 0) rfl))) (g := (mkF m 43 #[.val (.int p0), .val (.int p1), .val (.int p2), .val (.int p3), .val (.int p4), .val (.int (own_bit p4 (1 : Int32))), .val (.int (own_bit p4 (2 : Int32))), .val (.int (own_bit p4 (4 : Int32))), .unset, .unset, .unset, .unset, .unset, .unset, .unset, .unset, .unset, .unset, .unset, .unset, .unset, .unset, .unset, .unset, .unset] [(.int p0)])) rfl (hb hby at_43) _ ?_
            show Steps p.tables e below (s₁.setTop (mkF m 45 #[.val (.int p0), .val (.int p1), .val (.int p2), .val (.int p3), .val (.int p4), .val (.int (own_bit p4 (1 : Int32))), .val (.int (own_bit p4 (2 : Int32))), .val (.int (own_bit p4 (4 : Int32))), .unset, .unset, .unset, .unset, .unset, .unset, .unset, .unset, .unset, .unset, .unset, .unset, .unset, .unset, .unset, .unset, .unset] [(.int (1073741823 : Int32)), (.int p0)])) _
            refine XS.iand X0.here hx rfl (hb hby at_45) rfl ?_
            show Steps p.tables e below (s₁.setTop (mkF m 46 #[.val (.int p0), .val (.int p1), .val (.int p2), .val (.int p3), .val (.int p4), .val (.int (own_bit p4 (1 : Int32))), .val (.int (own_bit p4 (2 : Int32))), .val (.int (own_bit p4 (4 : Int32))), .unset, .unset, .unset, .unset, .unset, .unset, .unset, .unset, .unset, .unset, .unset, .unset, .unset, .unset, .unset, .unset, .unset] [(.int (p0 &&& (1073741823 : Int32)))])) _
            refine XS.i2l X0.here hx rfl (hb hby at_46) rfl ?_
            show Steps p.tables e below (s₁.setTop (mkF m 47 #[.val (.int p0), .val (.int p1), .val (.int p2), .val (.int p3), .val (.int p4), .val (.int (own_bit p4 (1 : Int32))), .val (.int (own_bit p4 (2 : Int32))), .val (.int (own_bit p4 (4 : Int32))), .unset, .unset, .unset, .unset, .unset, .unset, .unset, .unset, .unset, .unset, .unset, .unset, .unset, .unset, .unset, .unset, .unset] [(.long (own_m p0))])) _
            refine XS.lstore X0.here hx rfl (hb hby at_47) rfl (l' := #[.val (.int p0), .val (.int p1), .val (.int p2), .val (.int p3), .val (.int p4), .val (.int (own_bit p4 (1 : Int32))), .val (.int (own_bit p4 (2 : Int32))), .val (.int (own_bit p4 (4 : Int32))), .val (.long (own_m p0)), .second, .unset, .unset, .unset, .unset, .unset, .unset, .unset, .unset, .unset, .unset, .unset, .unset, .unset, .unset, .unset]) rfl ?_
            show Steps p.tables e below (s₁.setTop (mkF m 49 #[.val (.int p0), .val (.int p1), .val (.int p2), .val (.int p3), .val (.int p4), .val (.int (own_bit p4 (1 : Int32))), .val (.int (own_bit p4 (2 : Int32))), .val (.int (own_bit p4 (4 : Int32))), .val (.long (own_m p0)), .second, .unset, .unset, .unset, .unset, .unset, .unset, .unset, .unset, .unset, .unset, .unset, .unset, .unset, .unset, .unset] [])) _
            refine XS.lload X0.here hx rfl (hb hby at_49) rfl ?_
            show Steps p.tables e below (s₁.setTop (mkF m 51 #[.val (.int p0), .val (.int p1), .val (.int p2), .val (.int p3), .val (.int p4), .val (.int (own_bit p4 (1 : Int32))), .val (.int (own_bit p4 (2 : Int32))), .val (.int (own_bit p4 (4 : Int32))), .val (.long (own_m p0)), .second, .unset, .unset, .unset, .unset, .unset, .unset, .unset, .unset, .unset, .unset, .unset, .unset, .unset, .unset, .unset] [(.long (own_m p0))])) _
            refine XS.iloadN X0.here hx rfl (hb hby at_51) rfl ?_
            show Steps p.tables e below (s₁.setTop (mkF m 52 #[.val (.int p0), .val (.int p1), .val (.int p2), .val (.int p3), .val (.int p4), .val (.int (own_bit p4 (1 : Int32))), .val (.int (own_bit p4 (2 : Int32))), .val (.int (own_bit p4 (4 : Int32))), .val (.long (own_m p0)), .second, .unset, .unset, .unset, .unset, .unset, .unset, .unset, .unset, .unset, .unset, .unset, .unset, .unset, .unset, .unset] [(.int p1), (.long (own_m p0))])) _
            refine X0.ldcInt hx hown (mvT hZ (hw _ (List.mem_of_getElem? (i := 0) rfl))) (g := (mkF m 52 #[.val (.int p0), .val (.int p1), .val (.int p2), .val (.int p3), .val (.int p4), .val (.int (own_bit p4 (1 : Int32))), .val (.int (own_bit p4 (2 : Int32))), .val (.int (own_bit p4 (4 : Int32))), .val (.long (own_m p0)), .second, .unset, .unset, .unset, .unset, .unset, .unset, .unset, .unset, .unset, .unset, .unset, .unset, .unset, .unset, .unset] [(.int p1), (.long (own_m p0))])) rfl (hb hby at_52) _ ?_
            show Steps p.tables e below (s₁.setTop (mkF m 54 #[.val (.int p0), .val (.int p1), .val (.int p2), .val (.int p3), .val (.int p4), .val (.int (own_bit p4 (1 : Int32))), .val (.int (own_bit p4 (2 : Int32))), .val (.int (own_bit p4 (4 : Int32))), .val (.long (own_m p0)), .second, .unset, .unset, .unset, .unset, .unset, .unset, .unset, .unset, .unset, .unset, .unset, .unset, .unset, .unset, .unset] [(.int (1073741823 : Int32)), (.int p1), (.long (own_m p0))])) _
            refine XS.iand X0.here hx rfl (hb hby at_54) rfl ?_
            show Steps p.tables e below (s₁.setTop (mkF m 55 #[.val (.int p0), .val (.int p1), .val (.int p2), .val (.int p3), .val (.int p4), .val (.int (own_bit p4 (1 : Int32))), .val (.int (own_bit p4 (2 : Int32))), .val (.int (own_bit p4 (4 : Int32))), .val (.long (own_m p0)), .second, .unset, .unset, .unset, .unset, .unset, .unset, .unset, .unset, .unset, .unset, .unset, .unset, .unset, .unset, .unset] [(.int (p1 &&& (1073741823 : Int32))), (.long (own_m p0))])) _
            refine XS.i2l X0.here hx rfl (hb hby at_55) rfl ?_
            show Steps p.tables e below (s₁.setTop (mkF m 56 #[.val (.int p0), .val (.int p1), .val (.int p2), .val (.int p3), .val (.int p4), .val (.int (own_bit p4 (1 : Int32))), .val (.int (own_bit p4 (2 : Int32))), .val (.int (own_bit p4 (4 : Int32))), .val (.long (own_m p0)), .second, .unset, .unset, .unset, .unset, .unset, .unset, .unset, .unset, .unset, .unset, .unset, .unset, .unset, .unset, .unset] [(.long ((p1 &&& (1073741823 : Int32)).toInt64)), (.long (own_m p0))])) _
            refine XS.ladd X0.here hx rfl (hb hby at_56) rfl ?_
            show Steps p.tables e below (s₁.setTop (mkF m 57 #[.val (.int p0), .val (.int p1), .val (.int p2), .val (.int p3), .val (.int p4), .val (.int (own_bit p4 (1 : Int32))), .val (.int (own_bit p4 (2 : Int32))), .val (.int (own_bit p4 (4 : Int32))), .val (.long (own_m p0)), .second, .unset, .unset, .unset, .unset, .unset, .unset, .unset, .unset, .unset, .unset, .unset, .unset, .unset, .unset, .unset] [(.long (own_M p0 p1))])) _
            refine XS.lstore X0.here hx rfl (hb hby at_57) rfl (l' := #[.val (.int p0), .val (.int p1), .val (.int p2), .val (.int p3), .val (.int p4), .val (.int (own_bit p4 (1 : Int32))), .val (.int (own_bit p4 (2 : Int32))), .val (.int (own_bit p4 (4 : Int32))), .val (.long (own_m p0)), .second, .val (.long (own_M p0 p1)), .second, .unset, .unset, .unset, .unset, .unset, .unset, .unset, .unset, .unset, .unset, .unset, .unset, .unset]) rfl ?_
            show Steps p.tables e below (s₁.setTop (mkF m 59 #[.val (.int p0), .val (.int p1), .val (.int p2), .val (.int p3), .val (.int p4), .val (.int (own_bit p4 (1 : Int32))), .val (.int (own_bit p4 (2 : Int32))), .val (.int (own_bit p4 (4 : Int32))), .val (.long (own_m p0)), .second, .val (.long (own_M p0 p1)), .second, .unset, .unset, .unset, .unset, .unset, .unset, .unset, .unset, .unset, .unset, .unset, .unset, .unset] [])) _
            refine XS.lload X0.here hx rfl (hb hby at_59) rfl ?_
            show Steps p.tables e below (s₁.setTop (mkF m 61 #[.val (.int p0), .val (.int p1), .val (.int p2), .val (.int p3), .val (.int p4), .val (.int (own_bit p4 (1 : Int32))), .val (.int (own_bit p4 (2 : Int32))), .val (.int (own_bit p4 (4 : Int32))), .val (.long (own_m p0)), .second, .val (.long (own_M p0 p1)), .second, .unset, .unset, .unset, .unset, .unset, .unset, .unset, .unset, .unset, .unset, .unset, .unset, .unset] [(.long (own_m p0))])) _
            refine XS.l2dS X0.here hx rfl (hb hby at_61) rfl rfl ?_
            show Steps p.tables e below (s₁.setTop (mkF m 62 #[.val (.int p0), .val (.int p1), .val (.int p2), .val (.int p3), .val (.int p4), .val (.int (own_bit p4 (1 : Int32))), .val (.int (own_bit p4 (2 : Int32))), .val (.int (own_bit p4 (4 : Int32))), .val (.long (own_m p0)), .second, .val (.long (own_M p0 p1)), .second, .unset, .unset, .unset, .unset, .unset, .unset, .unset, .unset, .unset, .unset, .unset, .unset, .unset] [(.double (FP.l2d (own_m p0)))])) _
            refine XS.dstore X0.here hx rfl (hb hby at_62) rfl (l' := #[.val (.int p0), .val (.int p1), .val (.int p2), .val (.int p3), .val (.int p4), .val (.int (own_bit p4 (1 : Int32))), .val (.int (own_bit p4 (2 : Int32))), .val (.int (own_bit p4 (4 : Int32))), .val (.long (own_m p0)), .second, .val (.long (own_M p0 p1)), .second, .val (.double (FP.l2d (own_m p0))), .second, .unset, .unset, .unset, .unset, .unset, .unset, .unset, .unset, .unset, .unset, .unset]) rfl ?_
            show Steps p.tables e below (s₁.setTop (mkF m 64 #[.val (.int p0), .val (.int p1), .val (.int p2), .val (.int p3), .val (.int p4), .val (.int (own_bit p4 (1 : Int32))), .val (.int (own_bit p4 (2 : Int32))), .val (.int (own_bit p4 (4 : Int32))), .val (.long (own_m p0)), .second, .val (.long (own_M p0 p1)), .second, .val (.double (FP.l2d (own_m p0))), .second, .unset, .unset, .unset, .unset, .unset, .unset, .unset, .unset, .unset, .unset, .unset] [])) _
            refine sg_0_64_78 X0 hx hZ hw hby hown ?_
            show Steps p.tables e below (s₁.setTop (mkF m 78 #[.val (.int p0), .val (.int p1), .val (.int p2), .val (.int p3), .val (.int p4), .val (.int (own_bit p4 (1 : Int32))), .val (.int (own_bit p4 (2 : Int32))), .val (.int (own_bit p4 (4 : Int32))), .val (.long (own_m p0)), .second, .val (.long (own_M p0 p1)), .second, .val (.double (FP.l2d (own_m p0))), .second, .unset, .unset, .unset, .unset, .unset, .unset, .unset, .unset, .unset, .unset, .unset] [(.double (own_max p0 p1 p4))])) _
            refine XS.dstore X0.here hx rfl (hb hby at_78) rfl (l' := #[.val (.int p0), .val (.int p1), .val (.int p2), .val (.int p3), .val (.int p4), .val (.int (own_bit p4 (1 : Int32))), .val (.int (own_bit p4 (2 : Int32))), .val (.int (own_bit p4 (4 : Int32))), .val (.long (own_m p0)), .second, .val (.long (own_M p0 p1)), .second, .val (.double (FP.l2d (own_m p0))), .second, .val (.double (own_max p0 p1 p4)), .second, .unset, .unset, .unset, .unset, .unset, .unset, .unset, .unset, .unset]) rfl ?_
            show Steps p.tables e below (s₁.setTop (mkF m 80 #[.val (.int p0), .val (.int p1), .val (.int p2), .val (.int p3), .val (.int p4), .val (.int (own_bit p4 (1 : Int32))), .val (.int (own_bit p4 (2 : Int32))), .val (.int (own_bit p4 (4 : Int32))), .val (.long (own_m p0)), .second, .val (.long (own_M p0 p1)), .second, .val (.double (FP.l2d (own_m p0))), .second, .val (.double (own_max p0 p1 p4)), .second, .unset, .unset, .unset, .unset, .unset, .unset, .unset, .unset, .unset] [])) _
            refine st1 _ ?_
            show Steps p.tables e below (T1.setTop (mkF m 83 #[.val (.int p0), .val (.int p1), .val (.int p2), .val (.int p3), .val (.int p4), .val (.int (own_bit p4 (1 : Int32))), .val (.int (own_bit p4 (2 : Int32))), .val (.int (own_bit p4 (4 : Int32))), .val (.long (own_m p0)), .second, .val (.long (own_M p0 p1)), .second, .val (.double (FP.l2d (own_m p0))), .second, .val (.double (own_max p0 p1 p4)), .second, .unset, .unset, .unset, .unset, .unset, .unset, .unset, .unset, .unset] [(.ref b1)])) _
            refine XS.dup X1.here hx rfl (hb hby at_83) rfl rfl ?_
            show Steps p.tables e below (T1.setTop (mkF m 84 #[.val (.int p0), .val (.int p1), .val (.int p2), .val (.int p3), .val (.int p4), .val (.int (own_bit p4 (1 : Int32))), .val (.int (own_bit p4 (2 : Int32))), .val (.int (own_bit p4 (4 : Int32))), .val (.long (own_m p0)), .second, .val (.long (own_M p0 p1)), .second, .val (.double (FP.l2d (own_m p0))), .second, .val (.double (own_max p0 p1 p4)), .second, .unset, .unset, .unset, .unset, .unset, .unset, .unset, .unset, .unset] [(.ref b1), (.ref b1)])) _
            refine XS.dload X1.here hx rfl (hb hby at_84) rfl ?_
            show Steps p.tables e below (T1.setTop (mkF m 86 #[.val (.int p0), .val (.int p1), .val (.int p2), .val (.int p3), .val (.int p4), .val (.int (own_bit p4 (1 : Int32))), .val (.int (own_bit p4 (2 : Int32))), .val (.int (own_bit p4 (4 : Int32))), .val (.long (own_m p0)), .second, .val (.long (own_M p0 p1)), .second, .val (.double (FP.l2d (own_m p0))), .second, .val (.double (own_max p0 p1 p4)), .second, .unset, .unset, .unset, .unset, .unset, .unset, .unset, .unset, .unset] [(.double (FP.l2d (own_m p0))), (.ref b1), (.ref b1)])) _
            refine XS.iload X1.here hx rfl (hb hby at_86) rfl ?_
            show Steps p.tables e below (T1.setTop (mkF m 88 #[.val (.int p0), .val (.int p1), .val (.int p2), .val (.int p3), .val (.int p4), .val (.int (own_bit p4 (1 : Int32))), .val (.int (own_bit p4 (2 : Int32))), .val (.int (own_bit p4 (4 : Int32))), .val (.long (own_m p0)), .second, .val (.long (own_M p0 p1)), .second, .val (.double (FP.l2d (own_m p0))), .second, .val (.double (own_max p0 p1 p4)), .second, .unset, .unset, .unset, .unset, .unset, .unset, .unset, .unset, .unset] [(.int (own_bit p4 (1 : Int32))), (.double (FP.l2d (own_m p0))), (.ref b1), (.ref b1)])) _
            refine XS.dload X1.here hx rfl (hb hby at_88) rfl ?_
            show Steps p.tables e below (T1.setTop (mkF m 90 #[.val (.int p0), .val (.int p1), .val (.int p2), .val (.int p3), .val (.int p4), .val (.int (own_bit p4 (1 : Int32))), .val (.int (own_bit p4 (2 : Int32))), .val (.int (own_bit p4 (4 : Int32))), .val (.long (own_m p0)), .second, .val (.long (own_M p0 p1)), .second, .val (.double (FP.l2d (own_m p0))), .second, .val (.double (own_max p0 p1 p4)), .second, .unset, .unset, .unset, .unset, .unset, .unset, .unset, .unset, .unset] [(.double (own_max p0 p1 p4)), (.int (own_bit p4 (1 : Int32))), (.double (FP.l2d (own_m p0))), (.ref b1), (.ref b1)])) _
            refine XS.iload X1.here hx rfl (hb hby at_90) rfl ?_
            show Steps p.tables e below (T1.setTop (mkF m 92 #[.val (.int p0), .val (.int p1), .val (.int p2), .val (.int p3), .val (.int p4), .val (.int (own_bit p4 (1 : Int32))), .val (.int (own_bit p4 (2 : Int32))), .val (.int (own_bit p4 (4 : Int32))), .val (.long (own_m p0)), .second, .val (.long (own_M p0 p1)), .second, .val (.double (FP.l2d (own_m p0))), .second, .val (.double (own_max p0 p1 p4)), .second, .unset, .unset, .unset, .unset, .unset, .unset, .unset, .unset, .unset] [(.int (own_bit p4 (2 : Int32))), (.double (own_max p0 p1 p4)), (.int (own_bit p4 (1 : Int32))), (.double (FP.l2d (own_m p0))), (.ref b1), (.ref b1)])) _
            refine st2.trans ?_
            show Steps p.tables e below (T2.setTop (mkF m 95 #[.val (.int p0), .val (.int p1), .val (.int p2), .val (.int p3), .val (.int p4), .val (.int (own_bit p4 (1 : Int32))), .val (.int (own_bit p4 (2 : Int32))), .val (.int (own_bit p4 (4 : Int32))), .val (.long (own_m p0)), .second, .val (.long (own_M p0 p1)), .second, .val (.double (FP.l2d (own_m p0))), .second, .val (.double (own_max p0 p1 p4)), .second, .unset, .unset, .unset, .unset, .unset, .unset, .unset, .unset, .unset] [(.ref b1)])) _
            refine XS.astore X2.here hx rfl (hb hby at_95) rfl rfl (l' := #[.val (.int p0), .val (.int p1), .val (.int p2), .val (.int p3), .val (.int p4), .val (.int (own_bit p4 (1 : Int32))), .val (.int (own_bit p4 (2 : Int32))), .val (.int (own_bit p4 (4 : Int32))), .val (.long (own_m p0)), .second, .val (.long (own_M p0 p1)), .second, .val (.double (FP.l2d (own_m p0))), .second, .val (.double (own_max p0 p1 p4)), .second, .val (.ref b1), .unset, .unset, .unset, .unset, .unset, .unset, .unset, .unset]) rfl ?_
            show Steps p.tables e below (T2.setTop (mkF m 97 #[.val (.int p0), .val (.int p1), .val (.int p2), .val (.int p3), .val (.int p4), .val (.int (own_bit p4 (1 : Int32))), .val (.int (own_bit p4 (2 : Int32))), .val (.int (own_bit p4 (4 : Int32))), .val (.long (own_m p0)), .second, .val (.long (own_M p0 p1)), .second, .val (.double (FP.l2d (own_m p0))), .second, .val (.double (own_max p0 p1 p4)), .second, .val (.ref b1), .unset, .unset, .unset, .unset, .unset, .unset, .unset, .unset] [])) _
            refine XS.iloadN X2.here hx rfl (hb hby at_97) rfl ?_
            show Steps p.tables e below (T2.setTop (mkF m 98 #[.val (.int p0), .val (.int p1), .val (.int p2), .val (.int p3), .val (.int p4), .val (.int (own_bit p4 (1 : Int32))), .val (.int (own_bit p4 (2 : Int32))), .val (.int (own_bit p4 (4 : Int32))), .val (.long (own_m p0)), .second, .val (.long (own_M p0 p1)), .second, .val (.double (FP.l2d (own_m p0))), .second, .val (.double (own_max p0 p1 p4)), .second, .val (.ref b1), .unset, .unset, .unset, .unset, .unset, .unset, .unset, .unset] [(.int p3)])) _
            refine X2.ldcInt hx hown (mvT hZ (hw _ (List.mem_of_getElem? (i := 24) rfl))) (g := (mkF m 98 #[.val (.int p0), .val (.int p1), .val (.int p2), .val (.int p3), .val (.int p4), .val (.int (own_bit p4 (1 : Int32))), .val (.int (own_bit p4 (2 : Int32))), .val (.int (own_bit p4 (4 : Int32))), .val (.long (own_m p0)), .second, .val (.long (own_M p0 p1)), .second, .val (.double (FP.l2d (own_m p0))), .second, .val (.double (own_max p0 p1 p4)), .second, .val (.ref b1), .unset, .unset, .unset, .unset, .unset, .unset, .unset, .unset] [(.int p3)])) rfl (hb hby at_98) _ ?_
            show Steps p.tables e below (T2.setTop (mkF m 100 #[.val (.int p0), .val (.int p1), .val (.int p2), .val (.int p3), .val (.int p4), .val (.int (own_bit p4 (1 : Int32))), .val (.int (own_bit p4 (2 : Int32))), .val (.int (own_bit p4 (4 : Int32))), .val (.long (own_m p0)), .second, .val (.long (own_M p0 p1)), .second, .val (.double (FP.l2d (own_m p0))), .second, .val (.double (own_max p0 p1 p4)), .second, .val (.ref b1), .unset, .unset, .unset, .unset, .unset, .unset, .unset, .unset] [(.int (2147483647 : Int32)), (.int p3)])) _
            refine XS.iand X2.here hx rfl (hb hby at_100) rfl ?_
            show Steps p.tables e below (T2.setTop (mkF m 101 #[.val (.int p0), .val (.int p1), .val (.int p2), .val (.int p3), .val (.int p4), .val (.int (own_bit p4 (1 : Int32))), .val (.int (own_bit p4 (2 : Int32))), .val (.int (own_bit p4 (4 : Int32))), .val (.long (own_m p0)), .second, .val (.long (own_M p0 p1)), .second, .val (.double (FP.l2d (own_m p0))), .second, .val (.double (own_max p0 p1 p4)), .second, .val (.ref b1), .unset, .unset, .unset, .unset, .unset, .unset, .unset, .unset] [(.int (p3 &&& (2147483647 : Int32)))])) _
            refine XS.iconst X2.here hx rfl (hb hby at_101) ?_
            show Steps p.tables e below (T2.setTop (mkF m 102 #[.val (.int p0), .val (.int p1), .val (.int p2), .val (.int p3), .val (.int p4), .val (.int (own_bit p4 (1 : Int32))), .val (.int (own_bit p4 (2 : Int32))), .val (.int (own_bit p4 (4 : Int32))), .val (.long (own_m p0)), .second, .val (.long (own_M p0 p1)), .second, .val (.double (FP.l2d (own_m p0))), .second, .val (.double (own_max p0 p1 p4)), .second, .val (.ref b1), .unset, .unset, .unset, .unset, .unset, .unset, .unset, .unset] [(.int (5 : Int32)), (.int (p3 &&& (2147483647 : Int32)))])) _
            refine iremM X2 hx rfl (hb hby at_102) rfl (by decide) ?_
            show Steps p.tables e below (T2.setTop (mkF m 103 #[.val (.int p0), .val (.int p1), .val (.int p2), .val (.int p3), .val (.int p4), .val (.int (own_bit p4 (1 : Int32))), .val (.int (own_bit p4 (2 : Int32))), .val (.int (own_bit p4 (4 : Int32))), .val (.long (own_m p0)), .second, .val (.long (own_M p0 p1)), .second, .val (.double (FP.l2d (own_m p0))), .second, .val (.double (own_max p0 p1 p4)), .second, .val (.ref b1), .unset, .unset, .unset, .unset, .unset, .unset, .unset, .unset] [(.int ((p3 &&& (2147483647 : Int32)) % (5 : Int32)))])) _
            refine XS.istore X2.here hx rfl (hb hby at_103) rfl (l' := #[.val (.int p0), .val (.int p1), .val (.int p2), .val (.int p3), .val (.int p4), .val (.int (own_bit p4 (1 : Int32))), .val (.int (own_bit p4 (2 : Int32))), .val (.int (own_bit p4 (4 : Int32))), .val (.long (own_m p0)), .second, .val (.long (own_M p0 p1)), .second, .val (.double (FP.l2d (own_m p0))), .second, .val (.double (own_max p0 p1 p4)), .second, .val (.ref b1), .val (.int ((p3 &&& (2147483647 : Int32)) % (5 : Int32))), .unset, .unset, .unset, .unset, .unset, .unset, .unset]) rfl ?_
            show Steps p.tables e below (T2.setTop (mkF m 105 #[.val (.int p0), .val (.int p1), .val (.int p2), .val (.int p3), .val (.int p4), .val (.int (own_bit p4 (1 : Int32))), .val (.int (own_bit p4 (2 : Int32))), .val (.int (own_bit p4 (4 : Int32))), .val (.long (own_m p0)), .second, .val (.long (own_M p0 p1)), .second, .val (.double (FP.l2d (own_m p0))), .second, .val (.double (own_max p0 p1 p4)), .second, .val (.ref b1), .val (.int ((p3 &&& (2147483647 : Int32)) % (5 : Int32))), .unset, .unset, .unset, .unset, .unset, .unset, .unset] [])) _
            refine XS.iloadN X2.here hx rfl (hb hby at_105) rfl ?_
            show Steps p.tables e below (T2.setTop (mkF m 106 #[.val (.int p0), .val (.int p1), .val (.int p2), .val (.int p3), .val (.int p4), .val (.int (own_bit p4 (1 : Int32))), .val (.int (own_bit p4 (2 : Int32))), .val (.int (own_bit p4 (4 : Int32))), .val (.long (own_m p0)), .second, .val (.long (own_M p0 p1)), .second, .val (.double (FP.l2d (own_m p0))), .second, .val (.double (own_max p0 p1 p4)), .second, .val (.ref b1), .val (.int ((p3 &&& (2147483647 : Int32)) % (5 : Int32))), .unset, .unset, .unset, .unset, .unset, .unset, .unset] [(.int p2)])) _
            refine XS.i2l X2.here hx rfl (hb hby at_106) rfl ?_
            show Steps p.tables e below (T2.setTop (mkF m 107 #[.val (.int p0), .val (.int p1), .val (.int p2), .val (.int p3), .val (.int p4), .val (.int (own_bit p4 (1 : Int32))), .val (.int (own_bit p4 (2 : Int32))), .val (.int (own_bit p4 (4 : Int32))), .val (.long (own_m p0)), .second, .val (.long (own_M p0 p1)), .second, .val (.double (FP.l2d (own_m p0))), .second, .val (.double (own_max p0 p1 p4)), .second, .val (.ref b1), .val (.int ((p3 &&& (2147483647 : Int32)) % (5 : Int32))), .unset, .unset, .unset, .unset, .unset, .unset, .unset] [(.long (p2.toInt64))])) _
            refine XS.lstore X2.here hx rfl (hb hby at_107) rfl (l' := #[.val (.int p0), .val (.int p1), .val (.int p2), .val (.int p3), .val (.int p4), .val (.int (own_bit p4 (1 : Int32))), .val (.int (own_bit p4 (2 : Int32))), .val (.int (own_bit p4 (4 : Int32))), .val (.long (own_m p0)), .second, .val (.long (own_M p0 p1)), .second, .val (.double (FP.l2d (own_m p0))), .second, .val (.double (own_max p0 p1 p4)), .second, .val (.ref b1), .val (.int ((p3 &&& (2147483647 : Int32)) % (5 : Int32))), .val (.long (p2.toInt64)), .second, .unset, .unset, .unset, .unset, .unset]) rfl ?_
            show Steps p.tables e below (T2.setTop (mkF m 109 #[.val (.int p0), .val (.int p1), .val (.int p2), .val (.int p3), .val (.int p4), .val (.int (own_bit p4 (1 : Int32))), .val (.int (own_bit p4 (2 : Int32))), .val (.int (own_bit p4 (4 : Int32))), .val (.long (own_m p0)), .second, .val (.long (own_M p0 p1)), .second, .val (.double (FP.l2d (own_m p0))), .second, .val (.double (own_max p0 p1 p4)), .second, .val (.ref b1), .val (.int ((p3 &&& (2147483647 : Int32)) % (5 : Int32))), .val (.long (p2.toInt64)), .second, .unset, .unset, .unset, .unset, .unset] [])) _
            refine XS.iload X2.here hx rfl (hb hby at_109) rfl ?_
            show Steps p.tables e below (T2.setTop (mkF m 111 #[.val (.int p0), .val (.int p1), .val (.int p2), .val (.int p3), .val (.int p4), .val (.int (own_bit p4 (1 : Int32))), .val (.int (own_bit p4 (2 : Int32))), .val (.int (own_bit p4 (4 : Int32))), .val (.long (own_m p0)), .second, .val (.long (own_M p0 p1)), .second, .val (.double (FP.l2d (own_m p0))), .second, .val (.double (own_max p0 p1 p4)), .second, .val (.ref b1), .val (.int ((p3 &&& (2147483647 : Int32)) % (5 : Int32))), .val (.long (p2.toInt64)), .second, .unset, .unset, .unset, .unset, .unset] [(.int ((p3 &&& (2147483647 : Int32)) % (5 : Int32)))])) _
            refine XS.ifYes X2.here hx rfl (pc0 := 111) (pc' := 211) rfl (hb hby at_111) rfl hc111 (by decide) (by decide) ?_
            show Steps p.tables e below (T2.setTop (mkF m 211 #[.val (.int p0), .val (.int p1), .val (.int p2), .val (.int p3), .val (.int p4), .val (.int (own_bit p4 (1 : Int32))), .val (.int (own_bit p4 (2 : Int32))), .val (.int (own_bit p4 (4 : Int32))), .val (.long (own_m p0)), .second, .val (.long (own_M p0 p1)), .second, .val (.double (FP.l2d (own_m p0))), .second, .val (.double (own_max p0 p1 p4)), .second, .val (.ref b1), .val (.int ((p3 &&& (2147483647 : Int32)) % (5 : Int32))), .val (.long (p2.toInt64)), .second, .unset, .unset, .unset, .unset, .unset] [])) _
            refine XS.iload X2.here hx rfl (hb hby at_211) rfl ?_
            show Steps p.tables e below (T2.setTop (mkF m 213 #[.val (.int p0), .val (.int p1), .val (.int p2), .val (.int p3), .val (.int p4), .val (.int (own_bit p4 (1 : Int32))), .val (.int (own_bit p4 (2 : Int32))), .val (.int (own_bit p4 (4 : Int32))), .val (.long (own_m p0)), .second, .val (.long (own_M p0 p1)), .second, .val (.double (FP.l2d (own_m p0))), .second, .val (.double (own_max p0 p1 p4)), .second, .val (.ref b1), .val (.int ((p3 &&& (2147483647 : Int32)) % (5 : Int32))), .val (.long (p2.toInt64)), .second, .unset, .unset, .unset, .unset, .unset] [(.int ((p3 &&& (2147483647 : Int32)) % (5 : Int32)))])) _
            refine XS.iconst X2.here hx rfl (hb hby at_213) ?_
            show Steps p.tables e below (T2.setTop (mkF m 214 #[.val (.int p0), .val (.int p1), .val (.int p2), .val (.int p3), .val (.int p4), .val (.int (own_bit p4 (1 : Int32))), .val (.int (own_bit p4 (2 : Int32))), .val (.int (own_bit p4 (4 : Int32))), .val (.long (own_m p0)), .second, .val (.long (own_M p0 p1)), .second, .val (.double (FP.l2d (own_m p0))), .second, .val (.double (own_max p0 p1 p4)), .second, .val (.ref b1), .val (.int ((p3 &&& (2147483647 : Int32)) % (5 : Int32))), .val (.long (p2.toInt64)), .second, .unset, .unset, .unset, .unset, .unset] [(.int (1 : Int32)), (.int ((p3 &&& (2147483647 : Int32)) % (5 : Int32)))])) _
            refine XS.icmpYes X2.here hx rfl (pc0 := 214) (pc' := 281) rfl (hb hby at_214) rfl hc214 (by decide) (by decide) ?_
            show Steps p.tables e below (T2.setTop (mkF m 281 #[.val (.int p0), .val (.int p1), .val (.int p2), .val (.int p3), .val (.int p4), .val (.int (own_bit p4 (1 : Int32))), .val (.int (own_bit p4 (2 : Int32))), .val (.int (own_bit p4 (4 : Int32))), .val (.long (own_m p0)), .second, .val (.long (own_M p0 p1)), .second, .val (.double (FP.l2d (own_m p0))), .second, .val (.double (own_max p0 p1 p4)), .second, .val (.ref b1), .val (.int ((p3 &&& (2147483647 : Int32)) % (5 : Int32))), .val (.long (p2.toInt64)), .second, .unset, .unset, .unset, .unset, .unset] [])) _
            refine XS.iload X2.here hx rfl (hb hby at_281) rfl ?_
            show Steps p.tables e below (T2.setTop (mkF m 283 #[.val (.int p0), .val (.int p1), .val (.int p2), .val (.int p3), .val (.int p4), .val (.int (own_bit p4 (1 : Int32))), .val (.int (own_bit p4 (2 : Int32))), .val (.int (own_bit p4 (4 : Int32))), .val (.long (own_m p0)), .second, .val (.long (own_M p0 p1)), .second, .val (.double (FP.l2d (own_m p0))), .second, .val (.double (own_max p0 p1 p4)), .second, .val (.ref b1), .val (.int ((p3 &&& (2147483647 : Int32)) % (5 : Int32))), .val (.long (p2.toInt64)), .second, .unset, .unset, .unset, .unset, .unset] [(.int ((p3 &&& (2147483647 : Int32)) % (5 : Int32)))])) _
            refine XS.iconst X2.here hx rfl (hb hby at_283) ?_
            show Steps p.tables e below (T2.setTop (mkF m 284 #[.val (.int p0), .val (.int p1), .val (.int p2), .val (.int p3), .val (.int p4), .val (.int (own_bit p4 (1 : Int32))), .val (.int (own_bit p4 (2 : Int32))), .val (.int (own_bit p4 (4 : Int32))), .val (.long (own_m p0)), .second, .val (.long (own_M p0 p1)), .second, .val (.double (FP.l2d (own_m p0))), .second, .val (.double (own_max p0 p1 p4)), .second, .val (.ref b1), .val (.int ((p3 &&& (2147483647 : Int32)) % (5 : Int32))), .val (.long (p2.toInt64)), .second, .unset, .unset, .unset, .unset, .unset] [(.int (2 : Int32)), (.int ((p3 &&& (2147483647 : Int32)) % (5 : Int32)))])) _
            refine XS.icmpYes X2.here hx rfl (pc0 := 284) (pc' := 298) rfl (hb hby at_284) rfl hc284 (by decide) (by decide) ?_
            show Steps p.tables e below (T2.setTop (mkF m 298 #[.val (.int p0), .val (.int p1), .val (.int p2), .val (.int p3), .val (.int p4), .val (.int (own_bit p4 (1 : Int32))), .val (.int (own_bit p4 (2 : Int32))), .val (.int (own_bit p4 (4 : Int32))), .val (.long (own_m p0)), .second, .val (.long (own_M p0 p1)), .second, .val (.double (FP.l2d (own_m p0))), .second, .val (.double (own_max p0 p1 p4)), .second, .val (.ref b1), .val (.int ((p3 &&& (2147483647 : Int32)) % (5 : Int32))), .val (.long (p2.toInt64)), .second, .unset, .unset, .unset, .unset, .unset] [])) _
            refine XS.iload X2.here hx rfl (hb hby at_298) rfl ?_
            show Steps p.tables e below (T2.setTop (mkF m 300 #[.val (.int p0), .val (.int p1), .val (.int p2), .val (.int p3), .val (.int p4), .val (.int (own_bit p4 (1 : Int32))), .val (.int (own_bit p4 (2 : Int32))), .val (.int (own_bit p4 (4 : Int32))), .val (.long (own_m p0)), .second, .val (.long (own_M p0 p1)), .second, .val (.double (FP.l2d (own_m p0))), .second, .val (.double (own_max p0 p1 p4)), .second, .val (.ref b1), .val (.int ((p3 &&& (2147483647 : Int32)) % (5 : Int32))), .val (.long (p2.toInt64)), .second, .unset, .unset, .unset, .unset, .unset] [(.int ((p3 &&& (2147483647 : Int32)) % (5 : Int32)))])) _
            refine XS.iconst X2.here hx rfl (hb hby at_300) ?_
            show Steps p.tables e below (T2.setTop (mkF m 301 #[.val (.int p0), .val (.int p1), .val (.int p2), .val (.int p3), .val (.int p4), .val (.int (own_bit p4 (1 : Int32))), .val (.int (own_bit p4 (2 : Int32))), .val (.int (own_bit p4 (4 : Int32))), .val (.long (own_m p0)), .second, .val (.long (own_M p0 p1)), .second, .val (.double (FP.l2d (own_m p0))), .second, .val (.double (own_max p0 p1 p4)), .second, .val (.ref b1), .val (.int ((p3 &&& (2147483647 : Int32)) % (5 : Int32))), .val (.long (p2.toInt64)), .second, .unset, .unset, .unset, .unset, .unset] [(.int (3 : Int32)), (.int ((p3 &&& (2147483647 : Int32)) % (5 : Int32)))])) _
            refine XS.icmpNo X2.here hx rfl (hb hby at_301) rfl hc301 ?_
            show Steps p.tables e below (T2.setTop (mkF m 304 #[.val (.int p0), .val (.int p1), .val (.int p2), .val (.int p3), .val (.int p4), .val (.int (own_bit p4 (1 : Int32))), .val (.int (own_bit p4 (2 : Int32))), .val (.int (own_bit p4 (4 : Int32))), .val (.long (own_m p0)), .second, .val (.long (own_M p0 p1)), .second, .val (.double (FP.l2d (own_m p0))), .second, .val (.double (own_max p0 p1 p4)), .second, .val (.ref b1), .val (.int ((p3 &&& (2147483647 : Int32)) % (5 : Int32))), .val (.long (p2.toInt64)), .second, .unset, .unset, .unset, .unset, .unset] [])) _
            refine X2.ldc2DoubleC hx hown (mvT hZ (hw _ (List.mem_of_getElem? (i := 33) rfl))) (g := (mkF m 304 #[.val (.int p0), .val (.int p1), .val (.int p2), .val (.int p3), .val (.int p4), .val (.int (own_bit p4 (1 : Int32))), .val (.int (own_bit p4 (2 : Int32))), .val (.int (own_bit p4 (4 : Int32))), .val (.long (own_m p0)), .second, .val (.long (own_M p0 p1)), .second, .val (.double (FP.l2d (own_m p0))), .second, .val (.double (own_max p0 p1 p4)), .second, .val (.ref b1), .val (.int ((p3 &&& (2147483647 : Int32)) % (5 : Int32))), .val (.long (p2.toInt64)), .second, .unset, .unset, .unset, .unset, .unset] [])) rfl (hb hby at_304) _ ?_
            show Steps p.tables e below (T2.setTop (mkF m 307 #[.val (.int p0), .val (.int p1), .val (.int p2), .val (.int p3), .val (.int p4), .val (.int (own_bit p4 (1 : Int32))), .val (.int (own_bit p4 (2 : Int32))), .val (.int (own_bit p4 (4 : Int32))), .val (.long (own_m p0)), .second, .val (.long (own_M p0 p1)), .second, .val (.double (FP.l2d (own_m p0))), .second, .val (.double (own_max p0 p1 p4)), .second, .val (.ref b1), .val (.int ((p3 &&& (2147483647 : Int32)) % (5 : Int32))), .val (.long (p2.toInt64)), .second, .unset, .unset, .unset, .unset, .unset] [(.double (18442240474082181120 : UInt64))])) _
            refine XS.dstore X2.here hx rfl (hb hby at_307) rfl (l' := #[.val (.int p0), .val (.int p1), .val (.int p2), .val (.int p3), .val (.int p4), .val (.int (own_bit p4 (1 : Int32))), .val (.int (own_bit p4 (2 : Int32))), .val (.int (own_bit p4 (4 : Int32))), .val (.long (own_m p0)), .second, .val (.long (own_M p0 p1)), .second, .val (.double (FP.l2d (own_m p0))), .second, .val (.double (own_max p0 p1 p4)), .second, .val (.ref b1), .val (.int ((p3 &&& (2147483647 : Int32)) % (5 : Int32))), .val (.long (p2.toInt64)), .second, .val (.double (18442240474082181120 : UInt64)), .second, .unset, .unset, .unset]) rfl ?_
            show Steps p.tables e below (T2.setTop (mkF m 309 #[.val (.int p0), .val (.int p1), .val (.int p2), .val (.int p3), .val (.int p4), .val (.int (own_bit p4 (1 : Int32))), .val (.int (own_bit p4 (2 : Int32))), .val (.int (own_bit p4 (4 : Int32))), .val (.long (own_m p0)), .second, .val (.long (own_M p0 p1)), .second, .val (.double (FP.l2d (own_m p0))), .second, .val (.double (own_max p0 p1 p4)), .second, .val (.ref b1), .val (.int ((p3 &&& (2147483647 : Int32)) % (5 : Int32))), .val (.long (p2.toInt64)), .second, .val (.double (18442240474082181120 : UInt64)), .second, .unset, .unset, .unset] [])) _
            refine XS.iconst X2.here hx rfl (hb hby at_309) ?_
            show Steps p.tables e below (T2.setTop (mkF m 310 #[.val (.int p0), .val (.int p1), .val (.int p2), .val (.int p3), .val (.int p4), .val (.int (own_bit p4 (1 : Int32))), .val (.int (own_bit p4 (2 : Int32))), .val (.int (own_bit p4 (4 : Int32))), .val (.long (own_m p0)), .second, .val (.long (own_M p0 p1)), .second, .val (.double (FP.l2d (own_m p0))), .second, .val (.double (own_max p0 p1 p4)), .second, .val (.ref b1), .val (.int ((p3 &&& (2147483647 : Int32)) % (5 : Int32))), .val (.long (p2.toInt64)), .second, .val (.double (18442240474082181120 : UInt64)), .second, .unset, .unset, .unset] [(.int (0 : Int32))])) _
            refine XS.istore X2.here hx rfl (hb hby at_310) rfl (l' := #[.val (.int p0), .val (.int p1), .val (.int p2), .val (.int p3), .val (.int p4), .val (.int (own_bit p4 (1 : Int32))), .val (.int (own_bit p4 (2 : Int32))), .val (.int (own_bit p4 (4 : Int32))), .val (.long (own_m p0)), .second, .val (.long (own_M p0 p1)), .second, .val (.double (FP.l2d (own_m p0))), .second, .val (.double (own_max p0 p1 p4)), .second, .val (.ref b1), .val (.int ((p3 &&& (2147483647 : Int32)) % (5 : Int32))), .val (.long (p2.toInt64)), .second, .val (.double (18442240474082181120 : UInt64)), .second, .val (.int (0 : Int32)), .unset, .unset]) rfl ?_
            show Steps p.tables e below (T2.setTop (mkF m 312 #[.val (.int p0), .val (.int p1), .val (.int p2), .val (.int p3), .val (.int p4), .val (.int (own_bit p4 (1 : Int32))), .val (.int (own_bit p4 (2 : Int32))), .val (.int (own_bit p4 (4 : Int32))), .val (.long (own_m p0)), .second, .val (.long (own_M p0 p1)), .second, .val (.double (FP.l2d (own_m p0))), .second, .val (.double (own_max p0 p1 p4)), .second, .val (.ref b1), .val (.int ((p3 &&& (2147483647 : Int32)) % (5 : Int32))), .val (.long (p2.toInt64)), .second, .val (.double (18442240474082181120 : UInt64)), .second, .val (.int (0 : Int32)), .unset, .unset] [])) _
            refine XS.goto X2.here hx rfl (pc0 := 312) (pc' := 405) rfl (hb hby at_312) (by decide) (by decide) ?_
            show Steps p.tables e below (T2.setTop (mkF m 405 #[.val (.int p0), .val (.int p1), .val (.int p2), .val (.int p3), .val (.int p4), .val (.int (own_bit p4 (1 : Int32))), .val (.int (own_bit p4 (2 : Int32))), .val (.int (own_bit p4 (4 : Int32))), .val (.long (own_m p0)), .second, .val (.long (own_M p0 p1)), .second, .val (.double (FP.l2d (own_m p0))), .second, .val (.double (own_max p0 p1 p4)), .second, .val (.ref b1), .val (.int ((p3 &&& (2147483647 : Int32)) % (5 : Int32))), .val (.long (p2.toInt64)), .second, .val (.double (18442240474082181120 : UInt64)), .second, .val (.int (0 : Int32)), .unset, .unset] [])) _
            refine XS.aload X2.here hx rfl (hb hby at_405) rfl rfl ?_
            show Steps p.tables e below (T2.setTop (mkF m 407 #[.val (.int p0), .val (.int p1), .val (.int p2), .val (.int p3), .val (.int p4), .val (.int (own_bit p4 (1 : Int32))), .val (.int (own_bit p4 (2 : Int32))), .val (.int (own_bit p4 (4 : Int32))), .val (.long (own_m p0)), .second, .val (.long (own_M p0 p1)), .second, .val (.double (FP.l2d (own_m p0))), .second, .val (.double (own_max p0 p1 p4)), .second, .val (.ref b1), .val (.int ((p3 &&& (2147483647 : Int32)) % (5 : Int32))), .val (.long (p2.toInt64)), .second, .val (.double (18442240474082181120 : UInt64)), .second, .val (.int (0 : Int32)), .unset, .unset] [(.ref b1)])) _
            refine XS.dload X2.here hx rfl (hb hby at_407) rfl ?_
            show Steps p.tables e below (T2.setTop (mkF m 409 #[.val (.int p0), .val (.int p1), .val (.int p2), .val (.int p3), .val (.int p4), .val (.int (own_bit p4 (1 : Int32))), .val (.int (own_bit p4 (2 : Int32))), .val (.int (own_bit p4 (4 : Int32))), .val (.long (own_m p0)), .second, .val (.long (own_M p0 p1)), .second, .val (.double (FP.l2d (own_m p0))), .second, .val (.double (own_max p0 p1 p4)), .second, .val (.ref b1), .val (.int ((p3 &&& (2147483647 : Int32)) % (5 : Int32))), .val (.long (p2.toInt64)), .second, .val (.double (18442240474082181120 : UInt64)), .second, .val (.int (0 : Int32)), .unset, .unset] [(.double (18442240474082181120 : UInt64)), (.ref b1)])) _
            refine st4.trans ?_
            show Steps p.tables e below (T4.setTop (mkF m 412 #[.val (.int p0), .val (.int p1), .val (.int p2), .val (.int p3), .val (.int p4), .val (.int (own_bit p4 (1 : Int32))), .val (.int (own_bit p4 (2 : Int32))), .val (.int (own_bit p4 (4 : Int32))), .val (.long (own_m p0)), .second, .val (.long (own_M p0 p1)), .second, .val (.double (FP.l2d (own_m p0))), .second, .val (.double (own_max p0 p1 p4)), .second, .val (.ref b1), .val (.int ((p3 &&& (2147483647 : Int32)) % (5 : Int32))), .val (.long (p2.toInt64)), .second, .val (.double (18442240474082181120 : UInt64)), .second, .val (.int (0 : Int32)), .unset, .unset] [(.int (own_cont (FP.l2d (own_m p0)) (nar .boolean (own_bit p4 (1 : Int32))) (own_max p0 p1 p4) (nar .boolean (own_bit p4 (2 : Int32))) (18442240474082181120 : UInt64)))])) _
            refine XS.iload X4.here hx rfl (hb hby at_412) rfl ?_
            show Steps p.tables e below (T4.setTop (mkF m 414 #[.val (.int p0), .val (.int p1), .val (.int p2), .val (.int p3), .val (.int p4), .val (.int (own_bit p4 (1 : Int32))), .val (.int (own_bit p4 (2 : Int32))), .val (.int (own_bit p4 (4 : Int32))), .val (.long (own_m p0)), .second, .val (.long (own_M p0 p1)), .second, .val (.double (FP.l2d (own_m p0))), .second, .val (.double (own_max p0 p1 p4)), .second, .val (.ref b1), .val (.int ((p3 &&& (2147483647 : Int32)) % (5 : Int32))), .val (.long (p2.toInt64)), .second, .val (.double (18442240474082181120 : UInt64)), .second, .val (.int (0 : Int32)), .unset, .unset] [(.int (0 : Int32)), (.int (own_cont (FP.l2d (own_m p0)) (nar .boolean (own_bit p4 (1 : Int32))) (own_max p0 p1 p4) (nar .boolean (own_bit p4 (2 : Int32))) (18442240474082181120 : UInt64)))])) _
            refine XS.icmpNo X4.here hx rfl (hb hby at_414) rfl (own_law3 p0 p1 p4) ?_
            show Steps p.tables e below (T4.setTop (mkF m 417 #[.val (.int p0), .val (.int p1), .val (.int p2), .val (.int p3), .val (.int p4), .val (.int (own_bit p4 (1 : Int32))), .val (.int (own_bit p4 (2 : Int32))), .val (.int (own_bit p4 (4 : Int32))), .val (.long (own_m p0)), .second, .val (.long (own_M p0 p1)), .second, .val (.double (FP.l2d (own_m p0))), .second, .val (.double (own_max p0 p1 p4)), .second, .val (.ref b1), .val (.int ((p3 &&& (2147483647 : Int32)) % (5 : Int32))), .val (.long (p2.toInt64)), .second, .val (.double (18442240474082181120 : UInt64)), .second, .val (.int (0 : Int32)), .unset, .unset] [])) _
            refine XS.iconst X4.here hx rfl (hb hby at_417) ?_
            show Steps p.tables e below (T4.setTop (mkF m 418 #[.val (.int p0), .val (.int p1), .val (.int p2), .val (.int p3), .val (.int p4), .val (.int (own_bit p4 (1 : Int32))), .val (.int (own_bit p4 (2 : Int32))), .val (.int (own_bit p4 (4 : Int32))), .val (.long (own_m p0)), .second, .val (.long (own_M p0 p1)), .second, .val (.double (FP.l2d (own_m p0))), .second, .val (.double (own_max p0 p1 p4)), .second, .val (.ref b1), .val (.int ((p3 &&& (2147483647 : Int32)) % (5 : Int32))), .val (.long (p2.toInt64)), .second, .val (.double (18442240474082181120 : UInt64)), .second, .val (.int (0 : Int32)), .unset, .unset] [(.int (1 : Int32))])) _
            refine XS.goto X4.here hx rfl (pc0 := 418) (pc' := 422) rfl (hb hby at_418) (by decide) (by decide) ?_
            show Steps p.tables e below (T4.setTop (mkF m 422 #[.val (.int p0), .val (.int p1), .val (.int p2), .val (.int p3), .val (.int p4), .val (.int (own_bit p4 (1 : Int32))), .val (.int (own_bit p4 (2 : Int32))), .val (.int (own_bit p4 (4 : Int32))), .val (.long (own_m p0)), .second, .val (.long (own_M p0 p1)), .second, .val (.double (FP.l2d (own_m p0))), .second, .val (.double (own_max p0 p1 p4)), .second, .val (.ref b1), .val (.int ((p3 &&& (2147483647 : Int32)) % (5 : Int32))), .val (.long (p2.toInt64)), .second, .val (.double (18442240474082181120 : UInt64)), .second, .val (.int (0 : Int32)), .unset, .unset] [(.int (1 : Int32))])) _
            exact retN X4 hx (t := .boolean) Bd.returns (by simp) (hb hby at_422) hr
          · show Q0 Z p0 p1 p2 p3 p4 h0 n0 _ T4.heap _
            rw [eh4]
            exact ⟨rfl, N4⟩
      · obtain ⟨cq5, kq5, q5a, q5b, q5c⟩ := isOf hZ rfl Ea2
        obtain ⟨_, _, ⟨T5, L5, k5, n5⟩, -, X5, ⟨Lc5, hQ5, l5, y5, z5⟩, st5⟩ := X2.virtualBack hx (y := (⟨"com/example/mynegai/mynegai/command/DecimalRange", "contains", "(D)Z"⟩ : MethodName)) (z := (⟨"com/example/mynegai/mynegai/command/DecimalRange", "contains", "(D)Z"⟩ : MethodName)) hown (mvT hZ (hw _ (List.mem_of_getElem? (i := 26) rfl))) (mvT hZ (hw _ (List.mem_of_getElem? (i := 27) rfl))) (notFace_of_selects (args := #[]) (mvT hZ (hw _ (List.mem_of_getElem? (i := 29) rfl)))) (mvT hZ (hw _ (List.mem_of_getElem? (i := 29) rfl))) (mvT hZ (hw _ (List.mem_of_getElem? (i := 28) rfl))) (by decide) (backOf (W := 0) (rmct l Z a0 hw [] b1 (FP.l2d (own_m p0)) (nar .boolean (own_bit p4 (1 : Int32))) (own_max p0 p1 p4) (nar .boolean (own_bit p4 (2 : Int32))) (9218868437227405312 : UInt64) T2.heap n0 (Nat.le_trans (Nat.le_trans Z0 E1.1) K2.1) Fa2 Fb2 Fc2 Fd2) hZ (hw _ (List.mem_of_getElem? (i := 30) rfl)) (hw _ (List.mem_of_getElem? (i := 3) rfl)) (by decide) (by decide)) q5a q5c (g := (mkF m 409 #[.val (.int p0), .val (.int p1), .val (.int p2), .val (.int p3), .val (.int p4), .val (.int (own_bit p4 (1 : Int32))), .val (.int (own_bit p4 (2 : Int32))), .val (.int (own_bit p4 (4 : Int32))), .val (.long (own_m p0)), .second, .val (.long (own_M p0 p1)), .second, .val (.double (FP.l2d (own_m p0))), .second, .val (.double (own_max p0 p1 p4)), .second, .val (.ref b1), .val (.int ((p3 &&& (2147483647 : Int32)) % (5 : Int32))), .val (.long (p2.toInt64)), .second, .val (.double (9218868437227405312 : UInt64)), .second, .val (.int (0 : Int32)), .unset, .unset] [(.double (9218868437227405312 : UInt64)), (.ref b1)])) rfl (by rw [hml]; rfl) (Steps.refl _) (argsL := [(.double (9218868437227405312 : UInt64))]) (rest := []) (lenOf pd_2 rfl) rfl (by show 2 * 0 + _ ≤ _; exact Nat.le_of_eq rfl) (hb hby at_409) (fun _ _ => ⟨rfl, rfl, (by decide : 1 + 0 ≤ _), (by decide : 4 + 0 ≤ _)⟩)
        dsimp only [Pt.U, Pt.locs, Pt.cells, Pt.slots] at X5 l5 y5 z5 st5 hQ5
        subst l5 y5 z5
        obtain ⟨rfl, N5q, eh5⟩ := hQ5
        have N5 := Fr.app N2 N5q
        obtain ⟨fs, hr, hrun, hended, hW, hsame⟩ := X5.leave (v := some (.int (nar .boolean (1 : Int32)))) (fun h => by rw [Bd.returns] at h; cases h)
        refine ⟨_, _, pre0 _ ?_, hrun, hended, _, _, rfl, ?_, ⟨_, rfl⟩, hW, hsame.mono (by decide) (by decide)⟩
        · show Steps p.tables e below (s₁.setTop (mkF m 0 #[.val (.int p0), .val (.int p1), .val (.int p2), .val (.int p3), .val (.int p4), .unset, .unset, .unset, .unset, .unset, .unset, .unset, .unset, .unset, .unset, .unset, .unset, .unset, .unset, .unset, .unset, .unset, .unset, .unset, .unset] [])) _
          refine sg_0_0_12 X0 hx hZ hw hby hown ?_
          show Steps p.tables e below (s₁.setTop (mkF m 12 #[.val (.int p0), .val (.int p1), .val (.int p2), .val (.int p3), .val (.int p4), .unset, .unset, .unset, .unset, .unset, .unset, .unset, .unset, .unset, .unset, .unset, .unset, .unset, .unset, .unset, .unset, .unset, .unset, .unset, .unset] [(.int (own_bit p4 (1 : Int32)))])) _
          refine XS.istore X0.here hx rfl (hb hby at_12) rfl (l' := #[.val (.int p0), .val (.int p1), .val (.int p2), .val (.int p3), .val (.int p4), .val (.int (own_bit p4 (1 : Int32))), .unset, .unset, .unset, .unset, .unset, .unset, .unset, .unset, .unset, .unset, .unset, .unset, .unset, .unset, .unset, .unset, .unset, .unset, .unset]) rfl ?_
          show Steps p.tables e below (s₁.setTop (mkF m 14 #[.val (.int p0), .val (.int p1), .val (.int p2), .val (.int p3), .val (.int p4), .val (.int (own_bit p4 (1 : Int32))), .unset, .unset, .unset, .unset, .unset, .unset, .unset, .unset, .unset, .unset, .unset, .unset, .unset, .unset, .unset, .unset, .unset, .unset, .unset] [])) _
          refine sg_0_14_26 X0 hx hZ hw hby hown ?_
          show Steps p.tables e below (s₁.setTop (mkF m 26 #[.val (.int p0), .val (.int p1), .val (.int p2), .val (.int p3), .val (.int p4), .val (.int (own_bit p4 (1 : Int32))), .unset, .unset, .unset, .unset, .unset, .unset, .unset, .unset, .unset, .unset, .unset, .unset, .unset, .unset, .unset, .unset, .unset, .unset, .unset] [(.int (own_bit p4 (2 : Int32)))])) _
          refine XS.istore X0.here hx rfl (hb hby at_26) rfl (l' := #[.val (.int p0), .val (.int p1), .val (.int p2), .val (.int p3), .val (.int p4), .val (.int (own_bit p4 (1 : Int32))), .val (.int (own_bit p4 (2 : Int32))), .unset, .unset, .unset, .unset, .unset, .unset, .unset, .unset, .unset, .unset, .unset, .unset, .unset, .unset, .unset, .unset, .unset, .unset]) rfl ?_
          show Steps p.tables e below (s₁.setTop (mkF m 28 #[.val (.int p0), .val (.int p1), .val (.int p2), .val (.int p3), .val (.int p4), .val (.int (own_bit p4 (1 : Int32))), .val (.int (own_bit p4 (2 : Int32))), .unset, .unset, .unset, .unset, .unset, .unset, .unset, .unset, .unset, .unset, .unset, .unset, .unset, .unset, .unset, .unset, .unset, .unset] [])) _
          refine sg_0_28_40 X0 hx hZ hw hby hown ?_
          show Steps p.tables e below (s₁.setTop (mkF m 40 #[.val (.int p0), .val (.int p1), .val (.int p2), .val (.int p3), .val (.int p4), .val (.int (own_bit p4 (1 : Int32))), .val (.int (own_bit p4 (2 : Int32))), .unset, .unset, .unset, .unset, .unset, .unset, .unset, .unset, .unset, .unset, .unset, .unset, .unset, .unset, .unset, .unset, .unset, .unset] [(.int (own_bit p4 (4 : Int32)))])) _
          refine XS.istore X0.here hx rfl (hb hby at_40) rfl (l' := #[.val (.int p0), .val (.int p1), .val (.int p2), .val (.int p3), .val (.int p4), .val (.int (own_bit p4 (1 : Int32))), .val (.int (own_bit p4 (2 : Int32))), .val (.int (own_bit p4 (4 : Int32))), .unset, .unset, .unset, .unset, .unset, .unset, .unset, .unset, .unset, .unset, .unset, .unset, .unset, .unset, .unset, .unset, .unset]) rfl ?_
          show Steps p.tables e below (s₁.setTop (mkF m 42 #[.val (.int p0), .val (.int p1), .val (.int p2), .val (.int p3), .val (.int p4), .val (.int (own_bit p4 (1 : Int32))), .val (.int (own_bit p4 (2 : Int32))), .val (.int (own_bit p4 (4 : Int32))), .unset, .unset, .unset, .unset, .unset, .unset, .unset, .unset, .unset, .unset, .unset, .unset, .unset, .unset, .unset, .unset, .unset] [])) _
          refine XS.iloadN X0.here hx rfl (hb hby at_42) rfl ?_
          show Steps p.tables e below (s₁.setTop (mkF m 43 #[.val (.int p0), .val (.int p1), .val (.int p2), .val (.int p3), .val (.int p4), .val (.int (own_bit p4 (1 : Int32))), .val (.int (own_bit p4 (2 : Int32))), .val (.int (own_bit p4 (4 : Int32))), .unset, .unset, .unset, .unset, .unset, .unset, .unset, .unset, .unset, .unset, .unset, .unset, .unset, .unset, .unset, .unset, .unset] [(.int p0)])) _
          refine X0.ldcInt hx hown (mvT hZ (hw _ (List.mem_of_getElem? (i := 0) rfl))) (g := (mkF m 43 #[.val (.int p0), .val (.int p1), .val (.int p2), .val (.int p3), .val (.int p4), .val (.int (own_bit p4 (1 : Int32))), .val (.int (own_bit p4 (2 : Int32))), .val (.int (own_bit p4 (4 : Int32))), .unset, .unset, .unset, .unset, .unset, .unset, .unset, .unset, .unset, .unset, .unset, .unset, .unset, .unset, .unset, .unset, .unset] [(.int p0)])) rfl (hb hby at_43) _ ?_
          show Steps p.tables e below (s₁.setTop (mkF m 45 #[.val (.int p0), .val (.int p1), .val (.int p2), .val (.int p3), .val (.int p4), .val (.int (own_bit p4 (1 : Int32))), .val (.int (own_bit p4 (2 : Int32))), .val (.int (own_bit p4 (4 : Int32))), .unset, .unset, .unset, .unset, .unset, .unset, .unset, .unset, .unset, .unset, .unset, .unset, .unset, .unset, .unset, .unset, .unset] [(.int (1073741823 : Int32)), (.int p0)])) _
          refine XS.iand X0.here hx rfl (hb hby at_45) rfl ?_
          show Steps p.tables e below (s₁.setTop (mkF m 46 #[.val (.int p0), .val (.int p1), .val (.int p2), .val (.int p3), .val (.int p4), .val (.int (own_bit p4 (1 : Int32))), .val (.int (own_bit p4 (2 : Int32))), .val (.int (own_bit p4 (4 : Int32))), .unset, .unset, .unset, .unset, .unset, .unset, .unset, .unset, .unset, .unset, .unset, .unset, .unset, .unset, .unset, .unset, .unset] [(.int (p0 &&& (1073741823 : Int32)))])) _
          refine XS.i2l X0.here hx rfl (hb hby at_46) rfl ?_
          show Steps p.tables e below (s₁.setTop (mkF m 47 #[.val (.int p0), .val (.int p1), .val (.int p2), .val (.int p3), .val (.int p4), .val (.int (own_bit p4 (1 : Int32))), .val (.int (own_bit p4 (2 : Int32))), .val (.int (own_bit p4 (4 : Int32))), .unset, .unset, .unset, .unset, .unset, .unset, .unset, .unset, .unset, .unset, .unset, .unset, .unset, .unset, .unset, .unset, .unset] [(.long (own_m p0))])) _
          refine XS.lstore X0.here hx rfl (hb hby at_47) rfl (l' := #[.val (.int p0), .val (.int p1), .val (.int p2), .val (.int p3), .val (.int p4), .val (.int (own_bit p4 (1 : Int32))), .val (.int (own_bit p4 (2 : Int32))), .val (.int (own_bit p4 (4 : Int32))), .val (.long (own_m p0)), .second, .unset, .unset, .unset, .unset, .unset, .unset, .unset, .unset, .unset, .unset, .unset, .unset, .unset, .unset, .unset]) rfl ?_
          show Steps p.tables e below (s₁.setTop (mkF m 49 #[.val (.int p0), .val (.int p1), .val (.int p2), .val (.int p3), .val (.int p4), .val (.int (own_bit p4 (1 : Int32))), .val (.int (own_bit p4 (2 : Int32))), .val (.int (own_bit p4 (4 : Int32))), .val (.long (own_m p0)), .second, .unset, .unset, .unset, .unset, .unset, .unset, .unset, .unset, .unset, .unset, .unset, .unset, .unset, .unset, .unset] [])) _
          refine XS.lload X0.here hx rfl (hb hby at_49) rfl ?_
          show Steps p.tables e below (s₁.setTop (mkF m 51 #[.val (.int p0), .val (.int p1), .val (.int p2), .val (.int p3), .val (.int p4), .val (.int (own_bit p4 (1 : Int32))), .val (.int (own_bit p4 (2 : Int32))), .val (.int (own_bit p4 (4 : Int32))), .val (.long (own_m p0)), .second, .unset, .unset, .unset, .unset, .unset, .unset, .unset, .unset, .unset, .unset, .unset, .unset, .unset, .unset, .unset] [(.long (own_m p0))])) _
          refine XS.iloadN X0.here hx rfl (hb hby at_51) rfl ?_
          show Steps p.tables e below (s₁.setTop (mkF m 52 #[.val (.int p0), .val (.int p1), .val (.int p2), .val (.int p3), .val (.int p4), .val (.int (own_bit p4 (1 : Int32))), .val (.int (own_bit p4 (2 : Int32))), .val (.int (own_bit p4 (4 : Int32))), .val (.long (own_m p0)), .second, .unset, .unset, .unset, .unset, .unset, .unset, .unset, .unset, .unset, .unset, .unset, .unset, .unset, .unset, .unset] [(.int p1), (.long (own_m p0))])) _
          refine X0.ldcInt hx hown (mvT hZ (hw _ (List.mem_of_getElem? (i := 0) rfl))) (g := (mkF m 52 #[.val (.int p0), .val (.int p1), .val (.int p2), .val (.int p3), .val (.int p4), .val (.int (own_bit p4 (1 : Int32))), .val (.int (own_bit p4 (2 : Int32))), .val (.int (own_bit p4 (4 : Int32))), .val (.long (own_m p0)), .second, .unset, .unset, .unset, .unset, .unset, .unset, .unset, .unset, .unset, .unset, .unset, .unset, .unset, .unset, .unset] [(.int p1), (.long (own_m p0))])) rfl (hb hby at_52) _ ?_
          show Steps p.tables e below (s₁.setTop (mkF m 54 #[.val (.int p0), .val (.int p1), .val (.int p2), .val (.int p3), .val (.int p4), .val (.int (own_bit p4 (1 : Int32))), .val (.int (own_bit p4 (2 : Int32))), .val (.int (own_bit p4 (4 : Int32))), .val (.long (own_m p0)), .second, .unset, .unset, .unset, .unset, .unset, .unset, .unset, .unset, .unset, .unset, .unset, .unset, .unset, .unset, .unset] [(.int (1073741823 : Int32)), (.int p1), (.long (own_m p0))])) _
          refine XS.iand X0.here hx rfl (hb hby at_54) rfl ?_
          show Steps p.tables e below (s₁.setTop (mkF m 55 #[.val (.int p0), .val (.int p1), .val (.int p2), .val (.int p3), .val (.int p4), .val (.int (own_bit p4 (1 : Int32))), .val (.int (own_bit p4 (2 : Int32))), .val (.int (own_bit p4 (4 : Int32))), .val (.long (own_m p0)), .second, .unset, .unset, .unset, .unset, .unset, .unset, .unset, .unset, .unset, .unset, .unset, .unset, .unset, .unset, .unset] [(.int (p1 &&& (1073741823 : Int32))), (.long (own_m p0))])) _
          refine XS.i2l X0.here hx rfl (hb hby at_55) rfl ?_
          show Steps p.tables e below (s₁.setTop (mkF m 56 #[.val (.int p0), .val (.int p1), .val (.int p2), .val (.int p3), .val (.int p4), .val (.int (own_bit p4 (1 : Int32))), .val (.int (own_bit p4 (2 : Int32))), .val (.int (own_bit p4 (4 : Int32))), .val (.long (own_m p0)), .second, .unset, .unset, .unset, .unset, .unset, .unset, .unset, .unset, .unset, .unset, .unset, .unset, .unset, .unset, .unset] [(.long ((p1 &&& (1073741823 : Int32)).toInt64)), (.long (own_m p0))])) _
          refine XS.ladd X0.here hx rfl (hb hby at_56) rfl ?_
          show Steps p.tables e below (s₁.setTop (mkF m 57 #[.val (.int p0), .val (.int p1), .val (.int p2), .val (.int p3), .val (.int p4), .val (.int (own_bit p4 (1 : Int32))), .val (.int (own_bit p4 (2 : Int32))), .val (.int (own_bit p4 (4 : Int32))), .val (.long (own_m p0)), .second, .unset, .unset, .unset, .unset, .unset, .unset, .unset, .unset, .unset, .unset, .unset, .unset, .unset, .unset, .unset] [(.long (own_M p0 p1))])) _
          refine XS.lstore X0.here hx rfl (hb hby at_57) rfl (l' := #[.val (.int p0), .val (.int p1), .val (.int p2), .val (.int p3), .val (.int p4), .val (.int (own_bit p4 (1 : Int32))), .val (.int (own_bit p4 (2 : Int32))), .val (.int (own_bit p4 (4 : Int32))), .val (.long (own_m p0)), .second, .val (.long (own_M p0 p1)), .second, .unset, .unset, .unset, .unset, .unset, .unset, .unset, .unset, .unset, .unset, .unset, .unset, .unset]) rfl ?_
          show Steps p.tables e below (s₁.setTop (mkF m 59 #[.val (.int p0), .val (.int p1), .val (.int p2), .val (.int p3), .val (.int p4), .val (.int (own_bit p4 (1 : Int32))), .val (.int (own_bit p4 (2 : Int32))), .val (.int (own_bit p4 (4 : Int32))), .val (.long (own_m p0)), .second, .val (.long (own_M p0 p1)), .second, .unset, .unset, .unset, .unset, .unset, .unset, .unset, .unset, .unset, .unset, .unset, .unset, .unset] [])) _
          refine XS.lload X0.here hx rfl (hb hby at_59) rfl ?_
          show Steps p.tables e below (s₁.setTop (mkF m 61 #[.val (.int p0), .val (.int p1), .val (.int p2), .val (.int p3), .val (.int p4), .val (.int (own_bit p4 (1 : Int32))), .val (.int (own_bit p4 (2 : Int32))), .val (.int (own_bit p4 (4 : Int32))), .val (.long (own_m p0)), .second, .val (.long (own_M p0 p1)), .second, .unset, .unset, .unset, .unset, .unset, .unset, .unset, .unset, .unset, .unset, .unset, .unset, .unset] [(.long (own_m p0))])) _
          refine XS.l2dS X0.here hx rfl (hb hby at_61) rfl rfl ?_
          show Steps p.tables e below (s₁.setTop (mkF m 62 #[.val (.int p0), .val (.int p1), .val (.int p2), .val (.int p3), .val (.int p4), .val (.int (own_bit p4 (1 : Int32))), .val (.int (own_bit p4 (2 : Int32))), .val (.int (own_bit p4 (4 : Int32))), .val (.long (own_m p0)), .second, .val (.long (own_M p0 p1)), .second, .unset, .unset, .unset, .unset, .unset, .unset, .unset, .unset, .unset, .unset, .unset, .unset, .unset] [(.double (FP.l2d (own_m p0)))])) _
          refine XS.dstore X0.here hx rfl (hb hby at_62) rfl (l' := #[.val (.int p0), .val (.int p1), .val (.int p2), .val (.int p3), .val (.int p4), .val (.int (own_bit p4 (1 : Int32))), .val (.int (own_bit p4 (2 : Int32))), .val (.int (own_bit p4 (4 : Int32))), .val (.long (own_m p0)), .second, .val (.long (own_M p0 p1)), .second, .val (.double (FP.l2d (own_m p0))), .second, .unset, .unset, .unset, .unset, .unset, .unset, .unset, .unset, .unset, .unset, .unset]) rfl ?_
          show Steps p.tables e below (s₁.setTop (mkF m 64 #[.val (.int p0), .val (.int p1), .val (.int p2), .val (.int p3), .val (.int p4), .val (.int (own_bit p4 (1 : Int32))), .val (.int (own_bit p4 (2 : Int32))), .val (.int (own_bit p4 (4 : Int32))), .val (.long (own_m p0)), .second, .val (.long (own_M p0 p1)), .second, .val (.double (FP.l2d (own_m p0))), .second, .unset, .unset, .unset, .unset, .unset, .unset, .unset, .unset, .unset, .unset, .unset] [])) _
          refine sg_0_64_78 X0 hx hZ hw hby hown ?_
          show Steps p.tables e below (s₁.setTop (mkF m 78 #[.val (.int p0), .val (.int p1), .val (.int p2), .val (.int p3), .val (.int p4), .val (.int (own_bit p4 (1 : Int32))), .val (.int (own_bit p4 (2 : Int32))), .val (.int (own_bit p4 (4 : Int32))), .val (.long (own_m p0)), .second, .val (.long (own_M p0 p1)), .second, .val (.double (FP.l2d (own_m p0))), .second, .unset, .unset, .unset, .unset, .unset, .unset, .unset, .unset, .unset, .unset, .unset] [(.double (own_max p0 p1 p4))])) _
          refine XS.dstore X0.here hx rfl (hb hby at_78) rfl (l' := #[.val (.int p0), .val (.int p1), .val (.int p2), .val (.int p3), .val (.int p4), .val (.int (own_bit p4 (1 : Int32))), .val (.int (own_bit p4 (2 : Int32))), .val (.int (own_bit p4 (4 : Int32))), .val (.long (own_m p0)), .second, .val (.long (own_M p0 p1)), .second, .val (.double (FP.l2d (own_m p0))), .second, .val (.double (own_max p0 p1 p4)), .second, .unset, .unset, .unset, .unset, .unset, .unset, .unset, .unset, .unset]) rfl ?_
          show Steps p.tables e below (s₁.setTop (mkF m 80 #[.val (.int p0), .val (.int p1), .val (.int p2), .val (.int p3), .val (.int p4), .val (.int (own_bit p4 (1 : Int32))), .val (.int (own_bit p4 (2 : Int32))), .val (.int (own_bit p4 (4 : Int32))), .val (.long (own_m p0)), .second, .val (.long (own_M p0 p1)), .second, .val (.double (FP.l2d (own_m p0))), .second, .val (.double (own_max p0 p1 p4)), .second, .unset, .unset, .unset, .unset, .unset, .unset, .unset, .unset, .unset] [])) _
          refine st1 _ ?_
          show Steps p.tables e below (T1.setTop (mkF m 83 #[.val (.int p0), .val (.int p1), .val (.int p2), .val (.int p3), .val (.int p4), .val (.int (own_bit p4 (1 : Int32))), .val (.int (own_bit p4 (2 : Int32))), .val (.int (own_bit p4 (4 : Int32))), .val (.long (own_m p0)), .second, .val (.long (own_M p0 p1)), .second, .val (.double (FP.l2d (own_m p0))), .second, .val (.double (own_max p0 p1 p4)), .second, .unset, .unset, .unset, .unset, .unset, .unset, .unset, .unset, .unset] [(.ref b1)])) _
          refine XS.dup X1.here hx rfl (hb hby at_83) rfl rfl ?_
          show Steps p.tables e below (T1.setTop (mkF m 84 #[.val (.int p0), .val (.int p1), .val (.int p2), .val (.int p3), .val (.int p4), .val (.int (own_bit p4 (1 : Int32))), .val (.int (own_bit p4 (2 : Int32))), .val (.int (own_bit p4 (4 : Int32))), .val (.long (own_m p0)), .second, .val (.long (own_M p0 p1)), .second, .val (.double (FP.l2d (own_m p0))), .second, .val (.double (own_max p0 p1 p4)), .second, .unset, .unset, .unset, .unset, .unset, .unset, .unset, .unset, .unset] [(.ref b1), (.ref b1)])) _
          refine XS.dload X1.here hx rfl (hb hby at_84) rfl ?_
          show Steps p.tables e below (T1.setTop (mkF m 86 #[.val (.int p0), .val (.int p1), .val (.int p2), .val (.int p3), .val (.int p4), .val (.int (own_bit p4 (1 : Int32))), .val (.int (own_bit p4 (2 : Int32))), .val (.int (own_bit p4 (4 : Int32))), .val (.long (own_m p0)), .second, .val (.long (own_M p0 p1)), .second, .val (.double (FP.l2d (own_m p0))), .second, .val (.double (own_max p0 p1 p4)), .second, .unset, .unset, .unset, .unset, .unset, .unset, .unset, .unset, .unset] [(.double (FP.l2d (own_m p0))), (.ref b1), (.ref b1)])) _
          refine XS.iload X1.here hx rfl (hb hby at_86) rfl ?_
          show Steps p.tables e below (T1.setTop (mkF m 88 #[.val (.int p0), .val (.int p1), .val (.int p2), .val (.int p3), .val (.int p4), .val (.int (own_bit p4 (1 : Int32))), .val (.int (own_bit p4 (2 : Int32))), .val (.int (own_bit p4 (4 : Int32))), .val (.long (own_m p0)), .second, .val (.long (own_M p0 p1)), .second, .val (.double (FP.l2d (own_m p0))), .second, .val (.double (own_max p0 p1 p4)), .second, .unset, .unset, .unset, .unset, .unset, .unset, .unset, .unset, .unset] [(.int (own_bit p4 (1 : Int32))), (.double (FP.l2d (own_m p0))), (.ref b1), (.ref b1)])) _
          refine XS.dload X1.here hx rfl (hb hby at_88) rfl ?_
          show Steps p.tables e below (T1.setTop (mkF m 90 #[.val (.int p0), .val (.int p1), .val (.int p2), .val (.int p3), .val (.int p4), .val (.int (own_bit p4 (1 : Int32))), .val (.int (own_bit p4 (2 : Int32))), .val (.int (own_bit p4 (4 : Int32))), .val (.long (own_m p0)), .second, .val (.long (own_M p0 p1)), .second, .val (.double (FP.l2d (own_m p0))), .second, .val (.double (own_max p0 p1 p4)), .second, .unset, .unset, .unset, .unset, .unset, .unset, .unset, .unset, .unset] [(.double (own_max p0 p1 p4)), (.int (own_bit p4 (1 : Int32))), (.double (FP.l2d (own_m p0))), (.ref b1), (.ref b1)])) _
          refine XS.iload X1.here hx rfl (hb hby at_90) rfl ?_
          show Steps p.tables e below (T1.setTop (mkF m 92 #[.val (.int p0), .val (.int p1), .val (.int p2), .val (.int p3), .val (.int p4), .val (.int (own_bit p4 (1 : Int32))), .val (.int (own_bit p4 (2 : Int32))), .val (.int (own_bit p4 (4 : Int32))), .val (.long (own_m p0)), .second, .val (.long (own_M p0 p1)), .second, .val (.double (FP.l2d (own_m p0))), .second, .val (.double (own_max p0 p1 p4)), .second, .unset, .unset, .unset, .unset, .unset, .unset, .unset, .unset, .unset] [(.int (own_bit p4 (2 : Int32))), (.double (own_max p0 p1 p4)), (.int (own_bit p4 (1 : Int32))), (.double (FP.l2d (own_m p0))), (.ref b1), (.ref b1)])) _
          refine st2.trans ?_
          show Steps p.tables e below (T2.setTop (mkF m 95 #[.val (.int p0), .val (.int p1), .val (.int p2), .val (.int p3), .val (.int p4), .val (.int (own_bit p4 (1 : Int32))), .val (.int (own_bit p4 (2 : Int32))), .val (.int (own_bit p4 (4 : Int32))), .val (.long (own_m p0)), .second, .val (.long (own_M p0 p1)), .second, .val (.double (FP.l2d (own_m p0))), .second, .val (.double (own_max p0 p1 p4)), .second, .unset, .unset, .unset, .unset, .unset, .unset, .unset, .unset, .unset] [(.ref b1)])) _
          refine XS.astore X2.here hx rfl (hb hby at_95) rfl rfl (l' := #[.val (.int p0), .val (.int p1), .val (.int p2), .val (.int p3), .val (.int p4), .val (.int (own_bit p4 (1 : Int32))), .val (.int (own_bit p4 (2 : Int32))), .val (.int (own_bit p4 (4 : Int32))), .val (.long (own_m p0)), .second, .val (.long (own_M p0 p1)), .second, .val (.double (FP.l2d (own_m p0))), .second, .val (.double (own_max p0 p1 p4)), .second, .val (.ref b1), .unset, .unset, .unset, .unset, .unset, .unset, .unset, .unset]) rfl ?_
          show Steps p.tables e below (T2.setTop (mkF m 97 #[.val (.int p0), .val (.int p1), .val (.int p2), .val (.int p3), .val (.int p4), .val (.int (own_bit p4 (1 : Int32))), .val (.int (own_bit p4 (2 : Int32))), .val (.int (own_bit p4 (4 : Int32))), .val (.long (own_m p0)), .second, .val (.long (own_M p0 p1)), .second, .val (.double (FP.l2d (own_m p0))), .second, .val (.double (own_max p0 p1 p4)), .second, .val (.ref b1), .unset, .unset, .unset, .unset, .unset, .unset, .unset, .unset] [])) _
          refine XS.iloadN X2.here hx rfl (hb hby at_97) rfl ?_
          show Steps p.tables e below (T2.setTop (mkF m 98 #[.val (.int p0), .val (.int p1), .val (.int p2), .val (.int p3), .val (.int p4), .val (.int (own_bit p4 (1 : Int32))), .val (.int (own_bit p4 (2 : Int32))), .val (.int (own_bit p4 (4 : Int32))), .val (.long (own_m p0)), .second, .val (.long (own_M p0 p1)), .second, .val (.double (FP.l2d (own_m p0))), .second, .val (.double (own_max p0 p1 p4)), .second, .val (.ref b1), .unset, .unset, .unset, .unset, .unset, .unset, .unset, .unset] [(.int p3)])) _
          refine X2.ldcInt hx hown (mvT hZ (hw _ (List.mem_of_getElem? (i := 24) rfl))) (g := (mkF m 98 #[.val (.int p0), .val (.int p1), .val (.int p2), .val (.int p3), .val (.int p4), .val (.int (own_bit p4 (1 : Int32))), .val (.int (own_bit p4 (2 : Int32))), .val (.int (own_bit p4 (4 : Int32))), .val (.long (own_m p0)), .second, .val (.long (own_M p0 p1)), .second, .val (.double (FP.l2d (own_m p0))), .second, .val (.double (own_max p0 p1 p4)), .second, .val (.ref b1), .unset, .unset, .unset, .unset, .unset, .unset, .unset, .unset] [(.int p3)])) rfl (hb hby at_98) _ ?_
          show Steps p.tables e below (T2.setTop (mkF m 100 #[.val (.int p0), .val (.int p1), .val (.int p2), .val (.int p3), .val (.int p4), .val (.int (own_bit p4 (1 : Int32))), .val (.int (own_bit p4 (2 : Int32))), .val (.int (own_bit p4 (4 : Int32))), .val (.long (own_m p0)), .second, .val (.long (own_M p0 p1)), .second, .val (.double (FP.l2d (own_m p0))), .second, .val (.double (own_max p0 p1 p4)), .second, .val (.ref b1), .unset, .unset, .unset, .unset, .unset, .unset, .unset, .unset] [(.int (2147483647 : Int32)), (.int p3)])) _
          refine XS.iand X2.here hx rfl (hb hby at_100) rfl ?_
          show Steps p.tables e below (T2.setTop (mkF m 101 #[.val (.int p0), .val (.int p1), .val (.int p2), .val (.int p3), .val (.int p4), .val (.int (own_bit p4 (1 : Int32))), .val (.int (own_bit p4 (2 : Int32))), .val (.int (own_bit p4 (4 : Int32))), .val (.long (own_m p0)), .second, .val (.long (own_M p0 p1)), .second, .val (.double (FP.l2d (own_m p0))), .second, .val (.double (own_max p0 p1 p4)), .second, .val (.ref b1), .unset, .unset, .unset, .unset, .unset, .unset, .unset, .unset] [(.int (p3 &&& (2147483647 : Int32)))])) _
          refine XS.iconst X2.here hx rfl (hb hby at_101) ?_
          show Steps p.tables e below (T2.setTop (mkF m 102 #[.val (.int p0), .val (.int p1), .val (.int p2), .val (.int p3), .val (.int p4), .val (.int (own_bit p4 (1 : Int32))), .val (.int (own_bit p4 (2 : Int32))), .val (.int (own_bit p4 (4 : Int32))), .val (.long (own_m p0)), .second, .val (.long (own_M p0 p1)), .second, .val (.double (FP.l2d (own_m p0))), .second, .val (.double (own_max p0 p1 p4)), .second, .val (.ref b1), .unset, .unset, .unset, .unset, .unset, .unset, .unset, .unset] [(.int (5 : Int32)), (.int (p3 &&& (2147483647 : Int32)))])) _
          refine iremM X2 hx rfl (hb hby at_102) rfl (by decide) ?_
          show Steps p.tables e below (T2.setTop (mkF m 103 #[.val (.int p0), .val (.int p1), .val (.int p2), .val (.int p3), .val (.int p4), .val (.int (own_bit p4 (1 : Int32))), .val (.int (own_bit p4 (2 : Int32))), .val (.int (own_bit p4 (4 : Int32))), .val (.long (own_m p0)), .second, .val (.long (own_M p0 p1)), .second, .val (.double (FP.l2d (own_m p0))), .second, .val (.double (own_max p0 p1 p4)), .second, .val (.ref b1), .unset, .unset, .unset, .unset, .unset, .unset, .unset, .unset] [(.int ((p3 &&& (2147483647 : Int32)) % (5 : Int32)))])) _
          refine XS.istore X2.here hx rfl (hb hby at_103) rfl (l' := #[.val (.int p0), .val (.int p1), .val (.int p2), .val (.int p3), .val (.int p4), .val (.int (own_bit p4 (1 : Int32))), .val (.int (own_bit p4 (2 : Int32))), .val (.int (own_bit p4 (4 : Int32))), .val (.long (own_m p0)), .second, .val (.long (own_M p0 p1)), .second, .val (.double (FP.l2d (own_m p0))), .second, .val (.double (own_max p0 p1 p4)), .second, .val (.ref b1), .val (.int ((p3 &&& (2147483647 : Int32)) % (5 : Int32))), .unset, .unset, .unset, .unset, .unset, .unset, .unset]) rfl ?_
          show Steps p.tables e below (T2.setTop (mkF m 105 #[.val (.int p0), .val (.int p1), .val (.int p2), .val (.int p3), .val (.int p4), .val (.int (own_bit p4 (1 : Int32))), .val (.int (own_bit p4 (2 : Int32))), .val (.int (own_bit p4 (4 : Int32))), .val (.long (own_m p0)), .second, .val (.long (own_M p0 p1)), .second, .val (.double (FP.l2d (own_m p0))), .second, .val (.double (own_max p0 p1 p4)), .second, .val (.ref b1), .val (.int ((p3 &&& (2147483647 : Int32)) % (5 : Int32))), .unset, .unset, .unset, .unset, .unset, .unset, .unset] [])) _
          refine XS.iloadN X2.here hx rfl (hb hby at_105) rfl ?_
          show Steps p.tables e below (T2.setTop (mkF m 106 #[.val (.int p0), .val (.int p1), .val (.int p2), .val (.int p3), .val (.int p4), .val (.int (own_bit p4 (1 : Int32))), .val (.int (own_bit p4 (2 : Int32))), .val (.int (own_bit p4 (4 : Int32))), .val (.long (own_m p0)), .second, .val (.long (own_M p0 p1)), .second, .val (.double (FP.l2d (own_m p0))), .second, .val (.double (own_max p0 p1 p4)), .second, .val (.ref b1), .val (.int ((p3 &&& (2147483647 : Int32)) % (5 : Int32))), .unset, .unset, .unset, .unset, .unset, .unset, .unset] [(.int p2)])) _
          refine XS.i2l X2.here hx rfl (hb hby at_106) rfl ?_
          show Steps p.tables e below (T2.setTop (mkF m 107 #[.val (.int p0), .val (.int p1), .val (.int p2), .val (.int p3), .val (.int p4), .val (.int (own_bit p4 (1 : Int32))), .val (.int (own_bit p4 (2 : Int32))), .val (.int (own_bit p4 (4 : Int32))), .val (.long (own_m p0)), .second, .val (.long (own_M p0 p1)), .second, .val (.double (FP.l2d (own_m p0))), .second, .val (.double (own_max p0 p1 p4)), .second, .val (.ref b1), .val (.int ((p3 &&& (2147483647 : Int32)) % (5 : Int32))), .unset, .unset, .unset, .unset, .unset, .unset, .unset] [(.long (p2.toInt64))])) _
          refine XS.lstore X2.here hx rfl (hb hby at_107) rfl (l' := #[.val (.int p0), .val (.int p1), .val (.int p2), .val (.int p3), .val (.int p4), .val (.int (own_bit p4 (1 : Int32))), .val (.int (own_bit p4 (2 : Int32))), .val (.int (own_bit p4 (4 : Int32))), .val (.long (own_m p0)), .second, .val (.long (own_M p0 p1)), .second, .val (.double (FP.l2d (own_m p0))), .second, .val (.double (own_max p0 p1 p4)), .second, .val (.ref b1), .val (.int ((p3 &&& (2147483647 : Int32)) % (5 : Int32))), .val (.long (p2.toInt64)), .second, .unset, .unset, .unset, .unset, .unset]) rfl ?_
          show Steps p.tables e below (T2.setTop (mkF m 109 #[.val (.int p0), .val (.int p1), .val (.int p2), .val (.int p3), .val (.int p4), .val (.int (own_bit p4 (1 : Int32))), .val (.int (own_bit p4 (2 : Int32))), .val (.int (own_bit p4 (4 : Int32))), .val (.long (own_m p0)), .second, .val (.long (own_M p0 p1)), .second, .val (.double (FP.l2d (own_m p0))), .second, .val (.double (own_max p0 p1 p4)), .second, .val (.ref b1), .val (.int ((p3 &&& (2147483647 : Int32)) % (5 : Int32))), .val (.long (p2.toInt64)), .second, .unset, .unset, .unset, .unset, .unset] [])) _
          refine XS.iload X2.here hx rfl (hb hby at_109) rfl ?_
          show Steps p.tables e below (T2.setTop (mkF m 111 #[.val (.int p0), .val (.int p1), .val (.int p2), .val (.int p3), .val (.int p4), .val (.int (own_bit p4 (1 : Int32))), .val (.int (own_bit p4 (2 : Int32))), .val (.int (own_bit p4 (4 : Int32))), .val (.long (own_m p0)), .second, .val (.long (own_M p0 p1)), .second, .val (.double (FP.l2d (own_m p0))), .second, .val (.double (own_max p0 p1 p4)), .second, .val (.ref b1), .val (.int ((p3 &&& (2147483647 : Int32)) % (5 : Int32))), .val (.long (p2.toInt64)), .second, .unset, .unset, .unset, .unset, .unset] [(.int ((p3 &&& (2147483647 : Int32)) % (5 : Int32)))])) _
          refine XS.ifYes X2.here hx rfl (pc0 := 111) (pc' := 211) rfl (hb hby at_111) rfl hc111 (by decide) (by decide) ?_
          show Steps p.tables e below (T2.setTop (mkF m 211 #[.val (.int p0), .val (.int p1), .val (.int p2), .val (.int p3), .val (.int p4), .val (.int (own_bit p4 (1 : Int32))), .val (.int (own_bit p4 (2 : Int32))), .val (.int (own_bit p4 (4 : Int32))), .val (.long (own_m p0)), .second, .val (.long (own_M p0 p1)), .second, .val (.double (FP.l2d (own_m p0))), .second, .val (.double (own_max p0 p1 p4)), .second, .val (.ref b1), .val (.int ((p3 &&& (2147483647 : Int32)) % (5 : Int32))), .val (.long (p2.toInt64)), .second, .unset, .unset, .unset, .unset, .unset] [])) _
          refine XS.iload X2.here hx rfl (hb hby at_211) rfl ?_
          show Steps p.tables e below (T2.setTop (mkF m 213 #[.val (.int p0), .val (.int p1), .val (.int p2), .val (.int p3), .val (.int p4), .val (.int (own_bit p4 (1 : Int32))), .val (.int (own_bit p4 (2 : Int32))), .val (.int (own_bit p4 (4 : Int32))), .val (.long (own_m p0)), .second, .val (.long (own_M p0 p1)), .second, .val (.double (FP.l2d (own_m p0))), .second, .val (.double (own_max p0 p1 p4)), .second, .val (.ref b1), .val (.int ((p3 &&& (2147483647 : Int32)) % (5 : Int32))), .val (.long (p2.toInt64)), .second, .unset, .unset, .unset, .unset, .unset] [(.int ((p3 &&& (2147483647 : Int32)) % (5 : Int32)))])) _
          refine XS.iconst X2.here hx rfl (hb hby at_213) ?_
          show Steps p.tables e below (T2.setTop (mkF m 214 #[.val (.int p0), .val (.int p1), .val (.int p2), .val (.int p3), .val (.int p4), .val (.int (own_bit p4 (1 : Int32))), .val (.int (own_bit p4 (2 : Int32))), .val (.int (own_bit p4 (4 : Int32))), .val (.long (own_m p0)), .second, .val (.long (own_M p0 p1)), .second, .val (.double (FP.l2d (own_m p0))), .second, .val (.double (own_max p0 p1 p4)), .second, .val (.ref b1), .val (.int ((p3 &&& (2147483647 : Int32)) % (5 : Int32))), .val (.long (p2.toInt64)), .second, .unset, .unset, .unset, .unset, .unset] [(.int (1 : Int32)), (.int ((p3 &&& (2147483647 : Int32)) % (5 : Int32)))])) _
          refine XS.icmpYes X2.here hx rfl (pc0 := 214) (pc' := 281) rfl (hb hby at_214) rfl hc214 (by decide) (by decide) ?_
          show Steps p.tables e below (T2.setTop (mkF m 281 #[.val (.int p0), .val (.int p1), .val (.int p2), .val (.int p3), .val (.int p4), .val (.int (own_bit p4 (1 : Int32))), .val (.int (own_bit p4 (2 : Int32))), .val (.int (own_bit p4 (4 : Int32))), .val (.long (own_m p0)), .second, .val (.long (own_M p0 p1)), .second, .val (.double (FP.l2d (own_m p0))), .second, .val (.double (own_max p0 p1 p4)), .second, .val (.ref b1), .val (.int ((p3 &&& (2147483647 : Int32)) % (5 : Int32))), .val (.long (p2.toInt64)), .second, .unset, .unset, .unset, .unset, .unset] [])) _
          refine XS.iload X2.here hx rfl (hb hby at_281) rfl ?_
          show Steps p.tables e below (T2.setTop (mkF m 283 #[.val (.int p0), .val (.int p1), .val (.int p2), .val (.int p3), .val (.int p4), .val (.int (own_bit p4 (1 : Int32))), .val (.int (own_bit p4 (2 : Int32))), .val (.int (own_bit p4 (4 : Int32))), .val (.long (own_m p0)), .second, .val (.long (own_M p0 p1)), .second, .val (.double (FP.l2d (own_m p0))), .second, .val (.double (own_max p0 p1 p4)), .second, .val (.ref b1), .val (.int ((p3 &&& (2147483647 : Int32)) % (5 : Int32))), .val (.long (p2.toInt64)), .second, .unset, .unset, .unset, .unset, .unset] [(.int ((p3 &&& (2147483647 : Int32)) % (5 : Int32)))])) _
          refine XS.iconst X2.here hx rfl (hb hby at_283) ?_
          show Steps p.tables e below (T2.setTop (mkF m 284 #[.val (.int p0), .val (.int p1), .val (.int p2), .val (.int p3), .val (.int p4), .val (.int (own_bit p4 (1 : Int32))), .val (.int (own_bit p4 (2 : Int32))), .val (.int (own_bit p4 (4 : Int32))), .val (.long (own_m p0)), .second, .val (.long (own_M p0 p1)), .second, .val (.double (FP.l2d (own_m p0))), .second, .val (.double (own_max p0 p1 p4)), .second, .val (.ref b1), .val (.int ((p3 &&& (2147483647 : Int32)) % (5 : Int32))), .val (.long (p2.toInt64)), .second, .unset, .unset, .unset, .unset, .unset] [(.int (2 : Int32)), (.int ((p3 &&& (2147483647 : Int32)) % (5 : Int32)))])) _
          refine XS.icmpNo X2.here hx rfl (hb hby at_284) rfl hc284 ?_
          show Steps p.tables e below (T2.setTop (mkF m 287 #[.val (.int p0), .val (.int p1), .val (.int p2), .val (.int p3), .val (.int p4), .val (.int (own_bit p4 (1 : Int32))), .val (.int (own_bit p4 (2 : Int32))), .val (.int (own_bit p4 (4 : Int32))), .val (.long (own_m p0)), .second, .val (.long (own_M p0 p1)), .second, .val (.double (FP.l2d (own_m p0))), .second, .val (.double (own_max p0 p1 p4)), .second, .val (.ref b1), .val (.int ((p3 &&& (2147483647 : Int32)) % (5 : Int32))), .val (.long (p2.toInt64)), .second, .unset, .unset, .unset, .unset, .unset] [])) _
          refine X2.ldc2DoubleC hx hown (mvT hZ (hw _ (List.mem_of_getElem? (i := 31) rfl))) (g := (mkF m 287 #[.val (.int p0), .val (.int p1), .val (.int p2), .val (.int p3), .val (.int p4), .val (.int (own_bit p4 (1 : Int32))), .val (.int (own_bit p4 (2 : Int32))), .val (.int (own_bit p4 (4 : Int32))), .val (.long (own_m p0)), .second, .val (.long (own_M p0 p1)), .second, .val (.double (FP.l2d (own_m p0))), .second, .val (.double (own_max p0 p1 p4)), .second, .val (.ref b1), .val (.int ((p3 &&& (2147483647 : Int32)) % (5 : Int32))), .val (.long (p2.toInt64)), .second, .unset, .unset, .unset, .unset, .unset] [])) rfl (hb hby at_287) _ ?_
          show Steps p.tables e below (T2.setTop (mkF m 290 #[.val (.int p0), .val (.int p1), .val (.int p2), .val (.int p3), .val (.int p4), .val (.int (own_bit p4 (1 : Int32))), .val (.int (own_bit p4 (2 : Int32))), .val (.int (own_bit p4 (4 : Int32))), .val (.long (own_m p0)), .second, .val (.long (own_M p0 p1)), .second, .val (.double (FP.l2d (own_m p0))), .second, .val (.double (own_max p0 p1 p4)), .second, .val (.ref b1), .val (.int ((p3 &&& (2147483647 : Int32)) % (5 : Int32))), .val (.long (p2.toInt64)), .second, .unset, .unset, .unset, .unset, .unset] [(.double (9218868437227405312 : UInt64))])) _
          refine XS.dstore X2.here hx rfl (hb hby at_290) rfl (l' := #[.val (.int p0), .val (.int p1), .val (.int p2), .val (.int p3), .val (.int p4), .val (.int (own_bit p4 (1 : Int32))), .val (.int (own_bit p4 (2 : Int32))), .val (.int (own_bit p4 (4 : Int32))), .val (.long (own_m p0)), .second, .val (.long (own_M p0 p1)), .second, .val (.double (FP.l2d (own_m p0))), .second, .val (.double (own_max p0 p1 p4)), .second, .val (.ref b1), .val (.int ((p3 &&& (2147483647 : Int32)) % (5 : Int32))), .val (.long (p2.toInt64)), .second, .val (.double (9218868437227405312 : UInt64)), .second, .unset, .unset, .unset]) rfl ?_
          show Steps p.tables e below (T2.setTop (mkF m 292 #[.val (.int p0), .val (.int p1), .val (.int p2), .val (.int p3), .val (.int p4), .val (.int (own_bit p4 (1 : Int32))), .val (.int (own_bit p4 (2 : Int32))), .val (.int (own_bit p4 (4 : Int32))), .val (.long (own_m p0)), .second, .val (.long (own_M p0 p1)), .second, .val (.double (FP.l2d (own_m p0))), .second, .val (.double (own_max p0 p1 p4)), .second, .val (.ref b1), .val (.int ((p3 &&& (2147483647 : Int32)) % (5 : Int32))), .val (.long (p2.toInt64)), .second, .val (.double (9218868437227405312 : UInt64)), .second, .unset, .unset, .unset] [])) _
          refine XS.iconst X2.here hx rfl (hb hby at_292) ?_
          show Steps p.tables e below (T2.setTop (mkF m 293 #[.val (.int p0), .val (.int p1), .val (.int p2), .val (.int p3), .val (.int p4), .val (.int (own_bit p4 (1 : Int32))), .val (.int (own_bit p4 (2 : Int32))), .val (.int (own_bit p4 (4 : Int32))), .val (.long (own_m p0)), .second, .val (.long (own_M p0 p1)), .second, .val (.double (FP.l2d (own_m p0))), .second, .val (.double (own_max p0 p1 p4)), .second, .val (.ref b1), .val (.int ((p3 &&& (2147483647 : Int32)) % (5 : Int32))), .val (.long (p2.toInt64)), .second, .val (.double (9218868437227405312 : UInt64)), .second, .unset, .unset, .unset] [(.int (0 : Int32))])) _
          refine XS.istore X2.here hx rfl (hb hby at_293) rfl (l' := #[.val (.int p0), .val (.int p1), .val (.int p2), .val (.int p3), .val (.int p4), .val (.int (own_bit p4 (1 : Int32))), .val (.int (own_bit p4 (2 : Int32))), .val (.int (own_bit p4 (4 : Int32))), .val (.long (own_m p0)), .second, .val (.long (own_M p0 p1)), .second, .val (.double (FP.l2d (own_m p0))), .second, .val (.double (own_max p0 p1 p4)), .second, .val (.ref b1), .val (.int ((p3 &&& (2147483647 : Int32)) % (5 : Int32))), .val (.long (p2.toInt64)), .second, .val (.double (9218868437227405312 : UInt64)), .second, .val (.int (0 : Int32)), .unset, .unset]) rfl ?_
          show Steps p.tables e below (T2.setTop (mkF m 295 #[.val (.int p0), .val (.int p1), .val (.int p2), .val (.int p3), .val (.int p4), .val (.int (own_bit p4 (1 : Int32))), .val (.int (own_bit p4 (2 : Int32))), .val (.int (own_bit p4 (4 : Int32))), .val (.long (own_m p0)), .second, .val (.long (own_M p0 p1)), .second, .val (.double (FP.l2d (own_m p0))), .second, .val (.double (own_max p0 p1 p4)), .second, .val (.ref b1), .val (.int ((p3 &&& (2147483647 : Int32)) % (5 : Int32))), .val (.long (p2.toInt64)), .second, .val (.double (9218868437227405312 : UInt64)), .second, .val (.int (0 : Int32)), .unset, .unset] [])) _
          refine XS.goto X2.here hx rfl (pc0 := 295) (pc' := 405) rfl (hb hby at_295) (by decide) (by decide) ?_
          show Steps p.tables e below (T2.setTop (mkF m 405 #[.val (.int p0), .val (.int p1), .val (.int p2), .val (.int p3), .val (.int p4), .val (.int (own_bit p4 (1 : Int32))), .val (.int (own_bit p4 (2 : Int32))), .val (.int (own_bit p4 (4 : Int32))), .val (.long (own_m p0)), .second, .val (.long (own_M p0 p1)), .second, .val (.double (FP.l2d (own_m p0))), .second, .val (.double (own_max p0 p1 p4)), .second, .val (.ref b1), .val (.int ((p3 &&& (2147483647 : Int32)) % (5 : Int32))), .val (.long (p2.toInt64)), .second, .val (.double (9218868437227405312 : UInt64)), .second, .val (.int (0 : Int32)), .unset, .unset] [])) _
          refine XS.aload X2.here hx rfl (hb hby at_405) rfl rfl ?_
          show Steps p.tables e below (T2.setTop (mkF m 407 #[.val (.int p0), .val (.int p1), .val (.int p2), .val (.int p3), .val (.int p4), .val (.int (own_bit p4 (1 : Int32))), .val (.int (own_bit p4 (2 : Int32))), .val (.int (own_bit p4 (4 : Int32))), .val (.long (own_m p0)), .second, .val (.long (own_M p0 p1)), .second, .val (.double (FP.l2d (own_m p0))), .second, .val (.double (own_max p0 p1 p4)), .second, .val (.ref b1), .val (.int ((p3 &&& (2147483647 : Int32)) % (5 : Int32))), .val (.long (p2.toInt64)), .second, .val (.double (9218868437227405312 : UInt64)), .second, .val (.int (0 : Int32)), .unset, .unset] [(.ref b1)])) _
          refine XS.dload X2.here hx rfl (hb hby at_407) rfl ?_
          show Steps p.tables e below (T2.setTop (mkF m 409 #[.val (.int p0), .val (.int p1), .val (.int p2), .val (.int p3), .val (.int p4), .val (.int (own_bit p4 (1 : Int32))), .val (.int (own_bit p4 (2 : Int32))), .val (.int (own_bit p4 (4 : Int32))), .val (.long (own_m p0)), .second, .val (.long (own_M p0 p1)), .second, .val (.double (FP.l2d (own_m p0))), .second, .val (.double (own_max p0 p1 p4)), .second, .val (.ref b1), .val (.int ((p3 &&& (2147483647 : Int32)) % (5 : Int32))), .val (.long (p2.toInt64)), .second, .val (.double (9218868437227405312 : UInt64)), .second, .val (.int (0 : Int32)), .unset, .unset] [(.double (9218868437227405312 : UInt64)), (.ref b1)])) _
          refine st5.trans ?_
          show Steps p.tables e below (T5.setTop (mkF m 412 #[.val (.int p0), .val (.int p1), .val (.int p2), .val (.int p3), .val (.int p4), .val (.int (own_bit p4 (1 : Int32))), .val (.int (own_bit p4 (2 : Int32))), .val (.int (own_bit p4 (4 : Int32))), .val (.long (own_m p0)), .second, .val (.long (own_M p0 p1)), .second, .val (.double (FP.l2d (own_m p0))), .second, .val (.double (own_max p0 p1 p4)), .second, .val (.ref b1), .val (.int ((p3 &&& (2147483647 : Int32)) % (5 : Int32))), .val (.long (p2.toInt64)), .second, .val (.double (9218868437227405312 : UInt64)), .second, .val (.int (0 : Int32)), .unset, .unset] [(.int (own_cont (FP.l2d (own_m p0)) (nar .boolean (own_bit p4 (1 : Int32))) (own_max p0 p1 p4) (nar .boolean (own_bit p4 (2 : Int32))) (9218868437227405312 : UInt64)))])) _
          refine XS.iload X5.here hx rfl (hb hby at_412) rfl ?_
          show Steps p.tables e below (T5.setTop (mkF m 414 #[.val (.int p0), .val (.int p1), .val (.int p2), .val (.int p3), .val (.int p4), .val (.int (own_bit p4 (1 : Int32))), .val (.int (own_bit p4 (2 : Int32))), .val (.int (own_bit p4 (4 : Int32))), .val (.long (own_m p0)), .second, .val (.long (own_M p0 p1)), .second, .val (.double (FP.l2d (own_m p0))), .second, .val (.double (own_max p0 p1 p4)), .second, .val (.ref b1), .val (.int ((p3 &&& (2147483647 : Int32)) % (5 : Int32))), .val (.long (p2.toInt64)), .second, .val (.double (9218868437227405312 : UInt64)), .second, .val (.int (0 : Int32)), .unset, .unset] [(.int (0 : Int32)), (.int (own_cont (FP.l2d (own_m p0)) (nar .boolean (own_bit p4 (1 : Int32))) (own_max p0 p1 p4) (nar .boolean (own_bit p4 (2 : Int32))) (9218868437227405312 : UInt64)))])) _
          refine XS.icmpNo X5.here hx rfl (hb hby at_414) rfl (own_law2 p0 p1 p4) ?_
          show Steps p.tables e below (T5.setTop (mkF m 417 #[.val (.int p0), .val (.int p1), .val (.int p2), .val (.int p3), .val (.int p4), .val (.int (own_bit p4 (1 : Int32))), .val (.int (own_bit p4 (2 : Int32))), .val (.int (own_bit p4 (4 : Int32))), .val (.long (own_m p0)), .second, .val (.long (own_M p0 p1)), .second, .val (.double (FP.l2d (own_m p0))), .second, .val (.double (own_max p0 p1 p4)), .second, .val (.ref b1), .val (.int ((p3 &&& (2147483647 : Int32)) % (5 : Int32))), .val (.long (p2.toInt64)), .second, .val (.double (9218868437227405312 : UInt64)), .second, .val (.int (0 : Int32)), .unset, .unset] [])) _
          refine XS.iconst X5.here hx rfl (hb hby at_417) ?_
          show Steps p.tables e below (T5.setTop (mkF m 418 #[.val (.int p0), .val (.int p1), .val (.int p2), .val (.int p3), .val (.int p4), .val (.int (own_bit p4 (1 : Int32))), .val (.int (own_bit p4 (2 : Int32))), .val (.int (own_bit p4 (4 : Int32))), .val (.long (own_m p0)), .second, .val (.long (own_M p0 p1)), .second, .val (.double (FP.l2d (own_m p0))), .second, .val (.double (own_max p0 p1 p4)), .second, .val (.ref b1), .val (.int ((p3 &&& (2147483647 : Int32)) % (5 : Int32))), .val (.long (p2.toInt64)), .second, .val (.double (9218868437227405312 : UInt64)), .second, .val (.int (0 : Int32)), .unset, .unset] [(.int (1 : Int32))])) _
          refine XS.goto X5.here hx rfl (pc0 := 418) (pc' := 422) rfl (hb hby at_418) (by decide) (by decide) ?_
          show Steps p.tables e below (T5.setTop (mkF m 422 #[.val (.int p0), .val (.int p1), .val (.int p2), .val (.int p3), .val (.int p4), .val (.int (own_bit p4 (1 : Int32))), .val (.int (own_bit p4 (2 : Int32))), .val (.int (own_bit p4 (4 : Int32))), .val (.long (own_m p0)), .second, .val (.long (own_M p0 p1)), .second, .val (.double (FP.l2d (own_m p0))), .second, .val (.double (own_max p0 p1 p4)), .second, .val (.ref b1), .val (.int ((p3 &&& (2147483647 : Int32)) % (5 : Int32))), .val (.long (p2.toInt64)), .second, .val (.double (9218868437227405312 : UInt64)), .second, .val (.int (0 : Int32)), .unset, .unset] [(.int (1 : Int32))])) _
          exact retN X5 hx (t := .boolean) Bd.returns (by simp) (hb hby at_422) hr
        · show Q0 Z p0 p1 p2 p3 p4 h0 n0 _ T5.heap _
          rw [eh5]
          exact ⟨rfl, N5⟩
    · obtain ⟨cq6, kq6, q6a, q6b, q6c⟩ := isOf hZ rfl Ea2
      obtain ⟨_, _, ⟨T6, L6, k6, n6⟩, -, X6, ⟨Lc6, hQ6, l6, y6, z6⟩, st6⟩ := X2.virtualBack hx (y := (⟨"com/example/mynegai/mynegai/command/DecimalRange", "contains", "(D)Z"⟩ : MethodName)) (z := (⟨"com/example/mynegai/mynegai/command/DecimalRange", "contains", "(D)Z"⟩ : MethodName)) hown (mvT hZ (hw _ (List.mem_of_getElem? (i := 26) rfl))) (mvT hZ (hw _ (List.mem_of_getElem? (i := 27) rfl))) (notFace_of_selects (args := #[]) (mvT hZ (hw _ (List.mem_of_getElem? (i := 29) rfl)))) (mvT hZ (hw _ (List.mem_of_getElem? (i := 29) rfl))) (mvT hZ (hw _ (List.mem_of_getElem? (i := 28) rfl))) (by decide) (backOf (W := 0) (rmct l Z a0 hw [] b1 (FP.l2d (own_m p0)) (nar .boolean (own_bit p4 (1 : Int32))) (own_max p0 p1 p4) (nar .boolean (own_bit p4 (2 : Int32))) (own_half p2) T2.heap n0 (Nat.le_trans (Nat.le_trans Z0 E1.1) K2.1) Fa2 Fb2 Fc2 Fd2) hZ (hw _ (List.mem_of_getElem? (i := 30) rfl)) (hw _ (List.mem_of_getElem? (i := 3) rfl)) (by decide) (by decide)) q6a q6c (g := (mkF m 409 #[.val (.int p0), .val (.int p1), .val (.int p2), .val (.int p3), .val (.int p4), .val (.int (own_bit p4 (1 : Int32))), .val (.int (own_bit p4 (2 : Int32))), .val (.int (own_bit p4 (4 : Int32))), .val (.long (own_m p0)), .second, .val (.long (own_M p0 p1)), .second, .val (.double (FP.l2d (own_m p0))), .second, .val (.double (own_max p0 p1 p4)), .second, .val (.ref b1), .val (.int ((p3 &&& (2147483647 : Int32)) % (5 : Int32))), .val (.long (p2.toInt64)), .second, .val (.double (own_half p2)), .second, .val (.int (own_exp (own_lo1 (lcmpW (p2.toInt64) (own_m p0))) (own_hi1 (own_bit p4 (4 : Int32)) (lcmpW (p2.toInt64) (own_M p0 p1))))), .val (.int (own_lo1 (lcmpW (p2.toInt64) (own_m p0)))), .val (.int (own_hi1 (own_bit p4 (4 : Int32)) (lcmpW (p2.toInt64) (own_M p0 p1))))] [(.double (own_half p2)), (.ref b1)])) rfl (by rw [hml]; rfl) (Steps.refl _) (argsL := [(.double (own_half p2))]) (rest := []) (lenOf pd_2 rfl) rfl (by show 2 * 0 + _ ≤ _; exact Nat.le_of_eq rfl) (hb hby at_409) (fun _ _ => ⟨rfl, rfl, (by decide : 1 + 0 ≤ _), (by decide : 4 + 0 ≤ _)⟩)
      dsimp only [Pt.U, Pt.locs, Pt.cells, Pt.slots] at X6 l6 y6 z6 st6 hQ6
      subst l6 y6 z6
      obtain ⟨rfl, N6q, eh6⟩ := hQ6
      have N6 := Fr.app N2 N6q
      obtain ⟨fs, hr, hrun, hended, hW, hsame⟩ := X6.leave (v := some (.int (nar .boolean (1 : Int32)))) (fun h => by rw [Bd.returns] at h; cases h)
      refine ⟨_, _, pre0 _ ?_, hrun, hended, _, _, rfl, ?_, ⟨_, rfl⟩, hW, hsame.mono (by decide) (by decide)⟩
      · show Steps p.tables e below (s₁.setTop (mkF m 0 #[.val (.int p0), .val (.int p1), .val (.int p2), .val (.int p3), .val (.int p4), .unset, .unset, .unset, .unset, .unset, .unset, .unset, .unset, .unset, .unset, .unset, .unset, .unset, .unset, .unset, .unset, .unset, .unset, .unset, .unset] [])) _
        refine sg_0_0_12 X0 hx hZ hw hby hown ?_
        show Steps p.tables e below (s₁.setTop (mkF m 12 #[.val (.int p0), .val (.int p1), .val (.int p2), .val (.int p3), .val (.int p4), .unset, .unset, .unset, .unset, .unset, .unset, .unset, .unset, .unset, .unset, .unset, .unset, .unset, .unset, .unset, .unset, .unset, .unset, .unset, .unset] [(.int (own_bit p4 (1 : Int32)))])) _
        refine XS.istore X0.here hx rfl (hb hby at_12) rfl (l' := #[.val (.int p0), .val (.int p1), .val (.int p2), .val (.int p3), .val (.int p4), .val (.int (own_bit p4 (1 : Int32))), .unset, .unset, .unset, .unset, .unset, .unset, .unset, .unset, .unset, .unset, .unset, .unset, .unset, .unset, .unset, .unset, .unset, .unset, .unset]) rfl ?_
        show Steps p.tables e below (s₁.setTop (mkF m 14 #[.val (.int p0), .val (.int p1), .val (.int p2), .val (.int p3), .val (.int p4), .val (.int (own_bit p4 (1 : Int32))), .unset, .unset, .unset, .unset, .unset, .unset, .unset, .unset, .unset, .unset, .unset, .unset, .unset, .unset, .unset, .unset, .unset, .unset, .unset] [])) _
        refine sg_0_14_26 X0 hx hZ hw hby hown ?_
        show Steps p.tables e below (s₁.setTop (mkF m 26 #[.val (.int p0), .val (.int p1), .val (.int p2), .val (.int p3), .val (.int p4), .val (.int (own_bit p4 (1 : Int32))), .unset, .unset, .unset, .unset, .unset, .unset, .unset, .unset, .unset, .unset, .unset, .unset, .unset, .unset, .unset, .unset, .unset, .unset, .unset] [(.int (own_bit p4 (2 : Int32)))])) _
        refine XS.istore X0.here hx rfl (hb hby at_26) rfl (l' := #[.val (.int p0), .val (.int p1), .val (.int p2), .val (.int p3), .val (.int p4), .val (.int (own_bit p4 (1 : Int32))), .val (.int (own_bit p4 (2 : Int32))), .unset, .unset, .unset, .unset, .unset, .unset, .unset, .unset, .unset, .unset, .unset, .unset, .unset, .unset, .unset, .unset, .unset, .unset]) rfl ?_
        show Steps p.tables e below (s₁.setTop (mkF m 28 #[.val (.int p0), .val (.int p1), .val (.int p2), .val (.int p3), .val (.int p4), .val (.int (own_bit p4 (1 : Int32))), .val (.int (own_bit p4 (2 : Int32))), .unset, .unset, .unset, .unset, .unset, .unset, .unset, .unset, .unset, .unset, .unset, .unset, .unset, .unset, .unset, .unset, .unset, .unset] [])) _
        refine sg_0_28_40 X0 hx hZ hw hby hown ?_
        show Steps p.tables e below (s₁.setTop (mkF m 40 #[.val (.int p0), .val (.int p1), .val (.int p2), .val (.int p3), .val (.int p4), .val (.int (own_bit p4 (1 : Int32))), .val (.int (own_bit p4 (2 : Int32))), .unset, .unset, .unset, .unset, .unset, .unset, .unset, .unset, .unset, .unset, .unset, .unset, .unset, .unset, .unset, .unset, .unset, .unset] [(.int (own_bit p4 (4 : Int32)))])) _
        refine XS.istore X0.here hx rfl (hb hby at_40) rfl (l' := #[.val (.int p0), .val (.int p1), .val (.int p2), .val (.int p3), .val (.int p4), .val (.int (own_bit p4 (1 : Int32))), .val (.int (own_bit p4 (2 : Int32))), .val (.int (own_bit p4 (4 : Int32))), .unset, .unset, .unset, .unset, .unset, .unset, .unset, .unset, .unset, .unset, .unset, .unset, .unset, .unset, .unset, .unset, .unset]) rfl ?_
        show Steps p.tables e below (s₁.setTop (mkF m 42 #[.val (.int p0), .val (.int p1), .val (.int p2), .val (.int p3), .val (.int p4), .val (.int (own_bit p4 (1 : Int32))), .val (.int (own_bit p4 (2 : Int32))), .val (.int (own_bit p4 (4 : Int32))), .unset, .unset, .unset, .unset, .unset, .unset, .unset, .unset, .unset, .unset, .unset, .unset, .unset, .unset, .unset, .unset, .unset] [])) _
        refine XS.iloadN X0.here hx rfl (hb hby at_42) rfl ?_
        show Steps p.tables e below (s₁.setTop (mkF m 43 #[.val (.int p0), .val (.int p1), .val (.int p2), .val (.int p3), .val (.int p4), .val (.int (own_bit p4 (1 : Int32))), .val (.int (own_bit p4 (2 : Int32))), .val (.int (own_bit p4 (4 : Int32))), .unset, .unset, .unset, .unset, .unset, .unset, .unset, .unset, .unset, .unset, .unset, .unset, .unset, .unset, .unset, .unset, .unset] [(.int p0)])) _
        refine X0.ldcInt hx hown (mvT hZ (hw _ (List.mem_of_getElem? (i := 0) rfl))) (g := (mkF m 43 #[.val (.int p0), .val (.int p1), .val (.int p2), .val (.int p3), .val (.int p4), .val (.int (own_bit p4 (1 : Int32))), .val (.int (own_bit p4 (2 : Int32))), .val (.int (own_bit p4 (4 : Int32))), .unset, .unset, .unset, .unset, .unset, .unset, .unset, .unset, .unset, .unset, .unset, .unset, .unset, .unset, .unset, .unset, .unset] [(.int p0)])) rfl (hb hby at_43) _ ?_
        show Steps p.tables e below (s₁.setTop (mkF m 45 #[.val (.int p0), .val (.int p1), .val (.int p2), .val (.int p3), .val (.int p4), .val (.int (own_bit p4 (1 : Int32))), .val (.int (own_bit p4 (2 : Int32))), .val (.int (own_bit p4 (4 : Int32))), .unset, .unset, .unset, .unset, .unset, .unset, .unset, .unset, .unset, .unset, .unset, .unset, .unset, .unset, .unset, .unset, .unset] [(.int (1073741823 : Int32)), (.int p0)])) _
        refine XS.iand X0.here hx rfl (hb hby at_45) rfl ?_
        show Steps p.tables e below (s₁.setTop (mkF m 46 #[.val (.int p0), .val (.int p1), .val (.int p2), .val (.int p3), .val (.int p4), .val (.int (own_bit p4 (1 : Int32))), .val (.int (own_bit p4 (2 : Int32))), .val (.int (own_bit p4 (4 : Int32))), .unset, .unset, .unset, .unset, .unset, .unset, .unset, .unset, .unset, .unset, .unset, .unset, .unset, .unset, .unset, .unset, .unset] [(.int (p0 &&& (1073741823 : Int32)))])) _
        refine XS.i2l X0.here hx rfl (hb hby at_46) rfl ?_
        show Steps p.tables e below (s₁.setTop (mkF m 47 #[.val (.int p0), .val (.int p1), .val (.int p2), .val (.int p3), .val (.int p4), .val (.int (own_bit p4 (1 : Int32))), .val (.int (own_bit p4 (2 : Int32))), .val (.int (own_bit p4 (4 : Int32))), .unset, .unset, .unset, .unset, .unset, .unset, .unset, .unset, .unset, .unset, .unset, .unset, .unset, .unset, .unset, .unset, .unset] [(.long (own_m p0))])) _
        refine XS.lstore X0.here hx rfl (hb hby at_47) rfl (l' := #[.val (.int p0), .val (.int p1), .val (.int p2), .val (.int p3), .val (.int p4), .val (.int (own_bit p4 (1 : Int32))), .val (.int (own_bit p4 (2 : Int32))), .val (.int (own_bit p4 (4 : Int32))), .val (.long (own_m p0)), .second, .unset, .unset, .unset, .unset, .unset, .unset, .unset, .unset, .unset, .unset, .unset, .unset, .unset, .unset, .unset]) rfl ?_
        show Steps p.tables e below (s₁.setTop (mkF m 49 #[.val (.int p0), .val (.int p1), .val (.int p2), .val (.int p3), .val (.int p4), .val (.int (own_bit p4 (1 : Int32))), .val (.int (own_bit p4 (2 : Int32))), .val (.int (own_bit p4 (4 : Int32))), .val (.long (own_m p0)), .second, .unset, .unset, .unset, .unset, .unset, .unset, .unset, .unset, .unset, .unset, .unset, .unset, .unset, .unset, .unset] [])) _
        refine XS.lload X0.here hx rfl (hb hby at_49) rfl ?_
        show Steps p.tables e below (s₁.setTop (mkF m 51 #[.val (.int p0), .val (.int p1), .val (.int p2), .val (.int p3), .val (.int p4), .val (.int (own_bit p4 (1 : Int32))), .val (.int (own_bit p4 (2 : Int32))), .val (.int (own_bit p4 (4 : Int32))), .val (.long (own_m p0)), .second, .unset, .unset, .unset, .unset, .unset, .unset, .unset, .unset, .unset, .unset, .unset, .unset, .unset, .unset, .unset] [(.long (own_m p0))])) _
        refine XS.iloadN X0.here hx rfl (hb hby at_51) rfl ?_
        show Steps p.tables e below (s₁.setTop (mkF m 52 #[.val (.int p0), .val (.int p1), .val (.int p2), .val (.int p3), .val (.int p4), .val (.int (own_bit p4 (1 : Int32))), .val (.int (own_bit p4 (2 : Int32))), .val (.int (own_bit p4 (4 : Int32))), .val (.long (own_m p0)), .second, .unset, .unset, .unset, .unset, .unset, .unset, .unset, .unset, .unset, .unset, .unset, .unset, .unset, .unset, .unset] [(.int p1), (.long (own_m p0))])) _
        refine X0.ldcInt hx hown (mvT hZ (hw _ (List.mem_of_getElem? (i := 0) rfl))) (g := (mkF m 52 #[.val (.int p0), .val (.int p1), .val (.int p2), .val (.int p3), .val (.int p4), .val (.int (own_bit p4 (1 : Int32))), .val (.int (own_bit p4 (2 : Int32))), .val (.int (own_bit p4 (4 : Int32))), .val (.long (own_m p0)), .second, .unset, .unset, .unset, .unset, .unset, .unset, .unset, .unset, .unset, .unset, .unset, .unset, .unset, .unset, .unset] [(.int p1), (.long (own_m p0))])) rfl (hb hby at_52) _ ?_
        show Steps p.tables e below (s₁.setTop (mkF m 54 #[.val (.int p0), .val (.int p1), .val (.int p2), .val (.int p3), .val (.int p4), .val (.int (own_bit p4 (1 : Int32))), .val (.int (own_bit p4 (2 : Int32))), .val (.int (own_bit p4 (4 : Int32))), .val (.long (own_m p0)), .second, .unset, .unset, .unset, .unset, .unset, .unset, .unset, .unset, .unset, .unset, .unset, .unset, .unset, .unset, .unset] [(.int (1073741823 : Int32)), (.int p1), (.long (own_m p0))])) _
        refine XS.iand X0.here hx rfl (hb hby at_54) rfl ?_
        show Steps p.tables e below (s₁.setTop (mkF m 55 #[.val (.int p0), .val (.int p1), .val (.int p2), .val (.int p3), .val (.int p4), .val (.int (own_bit p4 (1 : Int32))), .val (.int (own_bit p4 (2 : Int32))), .val (.int (own_bit p4 (4 : Int32))), .val (.long (own_m p0)), .second, .unset, .unset, .unset, .unset, .unset, .unset, .unset, .unset, .unset, .unset, .unset, .unset, .unset, .unset, .unset] [(.int (p1 &&& (1073741823 : Int32))), (.long (own_m p0))])) _
        refine XS.i2l X0.here hx rfl (hb hby at_55) rfl ?_
        show Steps p.tables e below (s₁.setTop (mkF m 56 #[.val (.int p0), .val (.int p1), .val (.int p2), .val (.int p3), .val (.int p4), .val (.int (own_bit p4 (1 : Int32))), .val (.int (own_bit p4 (2 : Int32))), .val (.int (own_bit p4 (4 : Int32))), .val (.long (own_m p0)), .second, .unset, .unset, .unset, .unset, .unset, .unset, .unset, .unset, .unset, .unset, .unset, .unset, .unset, .unset, .unset] [(.long ((p1 &&& (1073741823 : Int32)).toInt64)), (.long (own_m p0))])) _
        refine XS.ladd X0.here hx rfl (hb hby at_56) rfl ?_
        show Steps p.tables e below (s₁.setTop (mkF m 57 #[.val (.int p0), .val (.int p1), .val (.int p2), .val (.int p3), .val (.int p4), .val (.int (own_bit p4 (1 : Int32))), .val (.int (own_bit p4 (2 : Int32))), .val (.int (own_bit p4 (4 : Int32))), .val (.long (own_m p0)), .second, .unset, .unset, .unset, .unset, .unset, .unset, .unset, .unset, .unset, .unset, .unset, .unset, .unset, .unset, .unset] [(.long (own_M p0 p1))])) _
        refine XS.lstore X0.here hx rfl (hb hby at_57) rfl (l' := #[.val (.int p0), .val (.int p1), .val (.int p2), .val (.int p3), .val (.int p4), .val (.int (own_bit p4 (1 : Int32))), .val (.int (own_bit p4 (2 : Int32))), .val (.int (own_bit p4 (4 : Int32))), .val (.long (own_m p0)), .second, .val (.long (own_M p0 p1)), .second, .unset, .unset, .unset, .unset, .unset, .unset, .unset, .unset, .unset, .unset, .unset, .unset, .unset]) rfl ?_
        show Steps p.tables e below (s₁.setTop (mkF m 59 #[.val (.int p0), .val (.int p1), .val (.int p2), .val (.int p3), .val (.int p4), .val (.int (own_bit p4 (1 : Int32))), .val (.int (own_bit p4 (2 : Int32))), .val (.int (own_bit p4 (4 : Int32))), .val (.long (own_m p0)), .second, .val (.long (own_M p0 p1)), .second, .unset, .unset, .unset, .unset, .unset, .unset, .unset, .unset, .unset, .unset, .unset, .unset, .unset] [])) _
        refine XS.lload X0.here hx rfl (hb hby at_59) rfl ?_
        show Steps p.tables e below (s₁.setTop (mkF m 61 #[.val (.int p0), .val (.int p1), .val (.int p2), .val (.int p3), .val (.int p4), .val (.int (own_bit p4 (1 : Int32))), .val (.int (own_bit p4 (2 : Int32))), .val (.int (own_bit p4 (4 : Int32))), .val (.long (own_m p0)), .second, .val (.long (own_M p0 p1)), .second, .unset, .unset, .unset, .unset, .unset, .unset, .unset, .unset, .unset, .unset, .unset, .unset, .unset] [(.long (own_m p0))])) _
        refine XS.l2dS X0.here hx rfl (hb hby at_61) rfl rfl ?_
        show Steps p.tables e below (s₁.setTop (mkF m 62 #[.val (.int p0), .val (.int p1), .val (.int p2), .val (.int p3), .val (.int p4), .val (.int (own_bit p4 (1 : Int32))), .val (.int (own_bit p4 (2 : Int32))), .val (.int (own_bit p4 (4 : Int32))), .val (.long (own_m p0)), .second, .val (.long (own_M p0 p1)), .second, .unset, .unset, .unset, .unset, .unset, .unset, .unset, .unset, .unset, .unset, .unset, .unset, .unset] [(.double (FP.l2d (own_m p0)))])) _
        refine XS.dstore X0.here hx rfl (hb hby at_62) rfl (l' := #[.val (.int p0), .val (.int p1), .val (.int p2), .val (.int p3), .val (.int p4), .val (.int (own_bit p4 (1 : Int32))), .val (.int (own_bit p4 (2 : Int32))), .val (.int (own_bit p4 (4 : Int32))), .val (.long (own_m p0)), .second, .val (.long (own_M p0 p1)), .second, .val (.double (FP.l2d (own_m p0))), .second, .unset, .unset, .unset, .unset, .unset, .unset, .unset, .unset, .unset, .unset, .unset]) rfl ?_
        show Steps p.tables e below (s₁.setTop (mkF m 64 #[.val (.int p0), .val (.int p1), .val (.int p2), .val (.int p3), .val (.int p4), .val (.int (own_bit p4 (1 : Int32))), .val (.int (own_bit p4 (2 : Int32))), .val (.int (own_bit p4 (4 : Int32))), .val (.long (own_m p0)), .second, .val (.long (own_M p0 p1)), .second, .val (.double (FP.l2d (own_m p0))), .second, .unset, .unset, .unset, .unset, .unset, .unset, .unset, .unset, .unset, .unset, .unset] [])) _
        refine sg_0_64_78 X0 hx hZ hw hby hown ?_
        show Steps p.tables e below (s₁.setTop (mkF m 78 #[.val (.int p0), .val (.int p1), .val (.int p2), .val (.int p3), .val (.int p4), .val (.int (own_bit p4 (1 : Int32))), .val (.int (own_bit p4 (2 : Int32))), .val (.int (own_bit p4 (4 : Int32))), .val (.long (own_m p0)), .second, .val (.long (own_M p0 p1)), .second, .val (.double (FP.l2d (own_m p0))), .second, .unset, .unset, .unset, .unset, .unset, .unset, .unset, .unset, .unset, .unset, .unset] [(.double (own_max p0 p1 p4))])) _
        refine XS.dstore X0.here hx rfl (hb hby at_78) rfl (l' := #[.val (.int p0), .val (.int p1), .val (.int p2), .val (.int p3), .val (.int p4), .val (.int (own_bit p4 (1 : Int32))), .val (.int (own_bit p4 (2 : Int32))), .val (.int (own_bit p4 (4 : Int32))), .val (.long (own_m p0)), .second, .val (.long (own_M p0 p1)), .second, .val (.double (FP.l2d (own_m p0))), .second, .val (.double (own_max p0 p1 p4)), .second, .unset, .unset, .unset, .unset, .unset, .unset, .unset, .unset, .unset]) rfl ?_
        show Steps p.tables e below (s₁.setTop (mkF m 80 #[.val (.int p0), .val (.int p1), .val (.int p2), .val (.int p3), .val (.int p4), .val (.int (own_bit p4 (1 : Int32))), .val (.int (own_bit p4 (2 : Int32))), .val (.int (own_bit p4 (4 : Int32))), .val (.long (own_m p0)), .second, .val (.long (own_M p0 p1)), .second, .val (.double (FP.l2d (own_m p0))), .second, .val (.double (own_max p0 p1 p4)), .second, .unset, .unset, .unset, .unset, .unset, .unset, .unset, .unset, .unset] [])) _
        refine st1 _ ?_
        show Steps p.tables e below (T1.setTop (mkF m 83 #[.val (.int p0), .val (.int p1), .val (.int p2), .val (.int p3), .val (.int p4), .val (.int (own_bit p4 (1 : Int32))), .val (.int (own_bit p4 (2 : Int32))), .val (.int (own_bit p4 (4 : Int32))), .val (.long (own_m p0)), .second, .val (.long (own_M p0 p1)), .second, .val (.double (FP.l2d (own_m p0))), .second, .val (.double (own_max p0 p1 p4)), .second, .unset, .unset, .unset, .unset, .unset, .unset, .unset, .unset, .unset] [(.ref b1)])) _
        refine XS.dup X1.here hx rfl (hb hby at_83) rfl rfl ?_
        show Steps p.tables e below (T1.setTop (mkF m 84 #[.val (.int p0), .val (.int p1), .val (.int p2), .val (.int p3), .val (.int p4), .val (.int (own_bit p4 (1 : Int32))), .val (.int (own_bit p4 (2 : Int32))), .val (.int (own_bit p4 (4 : Int32))), .val (.long (own_m p0)), .second, .val (.long (own_M p0 p1)), .second, .val (.double (FP.l2d (own_m p0))), .second, .val (.double (own_max p0 p1 p4)), .second, .unset, .unset, .unset, .unset, .unset, .unset, .unset, .unset, .unset] [(.ref b1), (.ref b1)])) _
        refine XS.dload X1.here hx rfl (hb hby at_84) rfl ?_
        show Steps p.tables e below (T1.setTop (mkF m 86 #[.val (.int p0), .val (.int p1), .val (.int p2), .val (.int p3), .val (.int p4), .val (.int (own_bit p4 (1 : Int32))), .val (.int (own_bit p4 (2 : Int32))), .val (.int (own_bit p4 (4 : Int32))), .val (.long (own_m p0)), .second, .val (.long (own_M p0 p1)), .second, .val (.double (FP.l2d (own_m p0))), .second, .val (.double (own_max p0 p1 p4)), .second, .unset, .unset, .unset, .unset, .unset, .unset, .unset, .unset, .unset] [(.double (FP.l2d (own_m p0))), (.ref b1), (.ref b1)])) _
        refine XS.iload X1.here hx rfl (hb hby at_86) rfl ?_
        show Steps p.tables e below (T1.setTop (mkF m 88 #[.val (.int p0), .val (.int p1), .val (.int p2), .val (.int p3), .val (.int p4), .val (.int (own_bit p4 (1 : Int32))), .val (.int (own_bit p4 (2 : Int32))), .val (.int (own_bit p4 (4 : Int32))), .val (.long (own_m p0)), .second, .val (.long (own_M p0 p1)), .second, .val (.double (FP.l2d (own_m p0))), .second, .val (.double (own_max p0 p1 p4)), .second, .unset, .unset, .unset, .unset, .unset, .unset, .unset, .unset, .unset] [(.int (own_bit p4 (1 : Int32))), (.double (FP.l2d (own_m p0))), (.ref b1), (.ref b1)])) _
        refine XS.dload X1.here hx rfl (hb hby at_88) rfl ?_
        show Steps p.tables e below (T1.setTop (mkF m 90 #[.val (.int p0), .val (.int p1), .val (.int p2), .val (.int p3), .val (.int p4), .val (.int (own_bit p4 (1 : Int32))), .val (.int (own_bit p4 (2 : Int32))), .val (.int (own_bit p4 (4 : Int32))), .val (.long (own_m p0)), .second, .val (.long (own_M p0 p1)), .second, .val (.double (FP.l2d (own_m p0))), .second, .val (.double (own_max p0 p1 p4)), .second, .unset, .unset, .unset, .unset, .unset, .unset, .unset, .unset, .unset] [(.double (own_max p0 p1 p4)), (.int (own_bit p4 (1 : Int32))), (.double (FP.l2d (own_m p0))), (.ref b1), (.ref b1)])) _
        refine XS.iload X1.here hx rfl (hb hby at_90) rfl ?_
        show Steps p.tables e below (T1.setTop (mkF m 92 #[.val (.int p0), .val (.int p1), .val (.int p2), .val (.int p3), .val (.int p4), .val (.int (own_bit p4 (1 : Int32))), .val (.int (own_bit p4 (2 : Int32))), .val (.int (own_bit p4 (4 : Int32))), .val (.long (own_m p0)), .second, .val (.long (own_M p0 p1)), .second, .val (.double (FP.l2d (own_m p0))), .second, .val (.double (own_max p0 p1 p4)), .second, .unset, .unset, .unset, .unset, .unset, .unset, .unset, .unset, .unset] [(.int (own_bit p4 (2 : Int32))), (.double (own_max p0 p1 p4)), (.int (own_bit p4 (1 : Int32))), (.double (FP.l2d (own_m p0))), (.ref b1), (.ref b1)])) _
        refine st2.trans ?_
        show Steps p.tables e below (T2.setTop (mkF m 95 #[.val (.int p0), .val (.int p1), .val (.int p2), .val (.int p3), .val (.int p4), .val (.int (own_bit p4 (1 : Int32))), .val (.int (own_bit p4 (2 : Int32))), .val (.int (own_bit p4 (4 : Int32))), .val (.long (own_m p0)), .second, .val (.long (own_M p0 p1)), .second, .val (.double (FP.l2d (own_m p0))), .second, .val (.double (own_max p0 p1 p4)), .second, .unset, .unset, .unset, .unset, .unset, .unset, .unset, .unset, .unset] [(.ref b1)])) _
        refine XS.astore X2.here hx rfl (hb hby at_95) rfl rfl (l' := #[.val (.int p0), .val (.int p1), .val (.int p2), .val (.int p3), .val (.int p4), .val (.int (own_bit p4 (1 : Int32))), .val (.int (own_bit p4 (2 : Int32))), .val (.int (own_bit p4 (4 : Int32))), .val (.long (own_m p0)), .second, .val (.long (own_M p0 p1)), .second, .val (.double (FP.l2d (own_m p0))), .second, .val (.double (own_max p0 p1 p4)), .second, .val (.ref b1), .unset, .unset, .unset, .unset, .unset, .unset, .unset, .unset]) rfl ?_
        show Steps p.tables e below (T2.setTop (mkF m 97 #[.val (.int p0), .val (.int p1), .val (.int p2), .val (.int p3), .val (.int p4), .val (.int (own_bit p4 (1 : Int32))), .val (.int (own_bit p4 (2 : Int32))), .val (.int (own_bit p4 (4 : Int32))), .val (.long (own_m p0)), .second, .val (.long (own_M p0 p1)), .second, .val (.double (FP.l2d (own_m p0))), .second, .val (.double (own_max p0 p1 p4)), .second, .val (.ref b1), .unset, .unset, .unset, .unset, .unset, .unset, .unset, .unset] [])) _
        refine XS.iloadN X2.here hx rfl (hb hby at_97) rfl ?_
        show Steps p.tables e below (T2.setTop (mkF m 98 #[.val (.int p0), .val (.int p1), .val (.int p2), .val (.int p3), .val (.int p4), .val (.int (own_bit p4 (1 : Int32))), .val (.int (own_bit p4 (2 : Int32))), .val (.int (own_bit p4 (4 : Int32))), .val (.long (own_m p0)), .second, .val (.long (own_M p0 p1)), .second, .val (.double (FP.l2d (own_m p0))), .second, .val (.double (own_max p0 p1 p4)), .second, .val (.ref b1), .unset, .unset, .unset, .unset, .unset, .unset, .unset, .unset] [(.int p3)])) _
        refine X2.ldcInt hx hown (mvT hZ (hw _ (List.mem_of_getElem? (i := 24) rfl))) (g := (mkF m 98 #[.val (.int p0), .val (.int p1), .val (.int p2), .val (.int p3), .val (.int p4), .val (.int (own_bit p4 (1 : Int32))), .val (.int (own_bit p4 (2 : Int32))), .val (.int (own_bit p4 (4 : Int32))), .val (.long (own_m p0)), .second, .val (.long (own_M p0 p1)), .second, .val (.double (FP.l2d (own_m p0))), .second, .val (.double (own_max p0 p1 p4)), .second, .val (.ref b1), .unset, .unset, .unset, .unset, .unset, .unset, .unset, .unset] [(.int p3)])) rfl (hb hby at_98) _ ?_
        show Steps p.tables e below (T2.setTop (mkF m 100 #[.val (.int p0), .val (.int p1), .val (.int p2), .val (.int p3), .val (.int p4), .val (.int (own_bit p4 (1 : Int32))), .val (.int (own_bit p4 (2 : Int32))), .val (.int (own_bit p4 (4 : Int32))), .val (.long (own_m p0)), .second, .val (.long (own_M p0 p1)), .second, .val (.double (FP.l2d (own_m p0))), .second, .val (.double (own_max p0 p1 p4)), .second, .val (.ref b1), .unset, .unset, .unset, .unset, .unset, .unset, .unset, .unset] [(.int (2147483647 : Int32)), (.int p3)])) _
        refine XS.iand X2.here hx rfl (hb hby at_100) rfl ?_
        show Steps p.tables e below (T2.setTop (mkF m 101 #[.val (.int p0), .val (.int p1), .val (.int p2), .val (.int p3), .val (.int p4), .val (.int (own_bit p4 (1 : Int32))), .val (.int (own_bit p4 (2 : Int32))), .val (.int (own_bit p4 (4 : Int32))), .val (.long (own_m p0)), .second, .val (.long (own_M p0 p1)), .second, .val (.double (FP.l2d (own_m p0))), .second, .val (.double (own_max p0 p1 p4)), .second, .val (.ref b1), .unset, .unset, .unset, .unset, .unset, .unset, .unset, .unset] [(.int (p3 &&& (2147483647 : Int32)))])) _
        refine XS.iconst X2.here hx rfl (hb hby at_101) ?_
        show Steps p.tables e below (T2.setTop (mkF m 102 #[.val (.int p0), .val (.int p1), .val (.int p2), .val (.int p3), .val (.int p4), .val (.int (own_bit p4 (1 : Int32))), .val (.int (own_bit p4 (2 : Int32))), .val (.int (own_bit p4 (4 : Int32))), .val (.long (own_m p0)), .second, .val (.long (own_M p0 p1)), .second, .val (.double (FP.l2d (own_m p0))), .second, .val (.double (own_max p0 p1 p4)), .second, .val (.ref b1), .unset, .unset, .unset, .unset, .unset, .unset, .unset, .unset] [(.int (5 : Int32)), (.int (p3 &&& (2147483647 : Int32)))])) _
        refine iremM X2 hx rfl (hb hby at_102) rfl (by decide) ?_
        show Steps p.tables e below (T2.setTop (mkF m 103 #[.val (.int p0), .val (.int p1), .val (.int p2), .val (.int p3), .val (.int p4), .val (.int (own_bit p4 (1 : Int32))), .val (.int (own_bit p4 (2 : Int32))), .val (.int (own_bit p4 (4 : Int32))), .val (.long (own_m p0)), .second, .val (.long (own_M p0 p1)), .second, .val (.double (FP.l2d (own_m p0))), .second, .val (.double (own_max p0 p1 p4)), .second, .val (.ref b1), .unset, .unset, .unset, .unset, .unset, .unset, .unset, .unset] [(.int ((p3 &&& (2147483647 : Int32)) % (5 : Int32)))])) _
        refine XS.istore X2.here hx rfl (hb hby at_103) rfl (l' := #[.val (.int p0), .val (.int p1), .val (.int p2), .val (.int p3), .val (.int p4), .val (.int (own_bit p4 (1 : Int32))), .val (.int (own_bit p4 (2 : Int32))), .val (.int (own_bit p4 (4 : Int32))), .val (.long (own_m p0)), .second, .val (.long (own_M p0 p1)), .second, .val (.double (FP.l2d (own_m p0))), .second, .val (.double (own_max p0 p1 p4)), .second, .val (.ref b1), .val (.int ((p3 &&& (2147483647 : Int32)) % (5 : Int32))), .unset, .unset, .unset, .unset, .unset, .unset, .unset]) rfl ?_
        show Steps p.tables e below (T2.setTop (mkF m 105 #[.val (.int p0), .val (.int p1), .val (.int p2), .val (.int p3), .val (.int p4), .val (.int (own_bit p4 (1 : Int32))), .val (.int (own_bit p4 (2 : Int32))), .val (.int (own_bit p4 (4 : Int32))), .val (.long (own_m p0)), .second, .val (.long (own_M p0 p1)), .second, .val (.double (FP.l2d (own_m p0))), .second, .val (.double (own_max p0 p1 p4)), .second, .val (.ref b1), .val (.int ((p3 &&& (2147483647 : Int32)) % (5 : Int32))), .unset, .unset, .unset, .unset, .unset, .unset, .unset] [])) _
        refine XS.iloadN X2.here hx rfl (hb hby at_105) rfl ?_
        show Steps p.tables e below (T2.setTop (mkF m 106 #[.val (.int p0), .val (.int p1), .val (.int p2), .val (.int p3), .val (.int p4), .val (.int (own_bit p4 (1 : Int32))), .val (.int (own_bit p4 (2 : Int32))), .val (.int (own_bit p4 (4 : Int32))), .val (.long (own_m p0)), .second, .val (.long (own_M p0 p1)), .second, .val (.double (FP.l2d (own_m p0))), .second, .val (.double (own_max p0 p1 p4)), .second, .val (.ref b1), .val (.int ((p3 &&& (2147483647 : Int32)) % (5 : Int32))), .unset, .unset, .unset, .unset, .unset, .unset, .unset] [(.int p2)])) _
        refine XS.i2l X2.here hx rfl (hb hby at_106) rfl ?_
        show Steps p.tables e below (T2.setTop (mkF m 107 #[.val (.int p0), .val (.int p1), .val (.int p2), .val (.int p3), .val (.int p4), .val (.int (own_bit p4 (1 : Int32))), .val (.int (own_bit p4 (2 : Int32))), .val (.int (own_bit p4 (4 : Int32))), .val (.long (own_m p0)), .second, .val (.long (own_M p0 p1)), .second, .val (.double (FP.l2d (own_m p0))), .second, .val (.double (own_max p0 p1 p4)), .second, .val (.ref b1), .val (.int ((p3 &&& (2147483647 : Int32)) % (5 : Int32))), .unset, .unset, .unset, .unset, .unset, .unset, .unset] [(.long (p2.toInt64))])) _
        refine XS.lstore X2.here hx rfl (hb hby at_107) rfl (l' := #[.val (.int p0), .val (.int p1), .val (.int p2), .val (.int p3), .val (.int p4), .val (.int (own_bit p4 (1 : Int32))), .val (.int (own_bit p4 (2 : Int32))), .val (.int (own_bit p4 (4 : Int32))), .val (.long (own_m p0)), .second, .val (.long (own_M p0 p1)), .second, .val (.double (FP.l2d (own_m p0))), .second, .val (.double (own_max p0 p1 p4)), .second, .val (.ref b1), .val (.int ((p3 &&& (2147483647 : Int32)) % (5 : Int32))), .val (.long (p2.toInt64)), .second, .unset, .unset, .unset, .unset, .unset]) rfl ?_
        show Steps p.tables e below (T2.setTop (mkF m 109 #[.val (.int p0), .val (.int p1), .val (.int p2), .val (.int p3), .val (.int p4), .val (.int (own_bit p4 (1 : Int32))), .val (.int (own_bit p4 (2 : Int32))), .val (.int (own_bit p4 (4 : Int32))), .val (.long (own_m p0)), .second, .val (.long (own_M p0 p1)), .second, .val (.double (FP.l2d (own_m p0))), .second, .val (.double (own_max p0 p1 p4)), .second, .val (.ref b1), .val (.int ((p3 &&& (2147483647 : Int32)) % (5 : Int32))), .val (.long (p2.toInt64)), .second, .unset, .unset, .unset, .unset, .unset] [])) _
        refine XS.iload X2.here hx rfl (hb hby at_109) rfl ?_
        show Steps p.tables e below (T2.setTop (mkF m 111 #[.val (.int p0), .val (.int p1), .val (.int p2), .val (.int p3), .val (.int p4), .val (.int (own_bit p4 (1 : Int32))), .val (.int (own_bit p4 (2 : Int32))), .val (.int (own_bit p4 (4 : Int32))), .val (.long (own_m p0)), .second, .val (.long (own_M p0 p1)), .second, .val (.double (FP.l2d (own_m p0))), .second, .val (.double (own_max p0 p1 p4)), .second, .val (.ref b1), .val (.int ((p3 &&& (2147483647 : Int32)) % (5 : Int32))), .val (.long (p2.toInt64)), .second, .unset, .unset, .unset, .unset, .unset] [(.int ((p3 &&& (2147483647 : Int32)) % (5 : Int32)))])) _
        refine XS.ifYes X2.here hx rfl (pc0 := 111) (pc' := 211) rfl (hb hby at_111) rfl hc111 (by decide) (by decide) ?_
        show Steps p.tables e below (T2.setTop (mkF m 211 #[.val (.int p0), .val (.int p1), .val (.int p2), .val (.int p3), .val (.int p4), .val (.int (own_bit p4 (1 : Int32))), .val (.int (own_bit p4 (2 : Int32))), .val (.int (own_bit p4 (4 : Int32))), .val (.long (own_m p0)), .second, .val (.long (own_M p0 p1)), .second, .val (.double (FP.l2d (own_m p0))), .second, .val (.double (own_max p0 p1 p4)), .second, .val (.ref b1), .val (.int ((p3 &&& (2147483647 : Int32)) % (5 : Int32))), .val (.long (p2.toInt64)), .second, .unset, .unset, .unset, .unset, .unset] [])) _
        refine XS.iload X2.here hx rfl (hb hby at_211) rfl ?_
        show Steps p.tables e below (T2.setTop (mkF m 213 #[.val (.int p0), .val (.int p1), .val (.int p2), .val (.int p3), .val (.int p4), .val (.int (own_bit p4 (1 : Int32))), .val (.int (own_bit p4 (2 : Int32))), .val (.int (own_bit p4 (4 : Int32))), .val (.long (own_m p0)), .second, .val (.long (own_M p0 p1)), .second, .val (.double (FP.l2d (own_m p0))), .second, .val (.double (own_max p0 p1 p4)), .second, .val (.ref b1), .val (.int ((p3 &&& (2147483647 : Int32)) % (5 : Int32))), .val (.long (p2.toInt64)), .second, .unset, .unset, .unset, .unset, .unset] [(.int ((p3 &&& (2147483647 : Int32)) % (5 : Int32)))])) _
        refine XS.iconst X2.here hx rfl (hb hby at_213) ?_
        show Steps p.tables e below (T2.setTop (mkF m 214 #[.val (.int p0), .val (.int p1), .val (.int p2), .val (.int p3), .val (.int p4), .val (.int (own_bit p4 (1 : Int32))), .val (.int (own_bit p4 (2 : Int32))), .val (.int (own_bit p4 (4 : Int32))), .val (.long (own_m p0)), .second, .val (.long (own_M p0 p1)), .second, .val (.double (FP.l2d (own_m p0))), .second, .val (.double (own_max p0 p1 p4)), .second, .val (.ref b1), .val (.int ((p3 &&& (2147483647 : Int32)) % (5 : Int32))), .val (.long (p2.toInt64)), .second, .unset, .unset, .unset, .unset, .unset] [(.int (1 : Int32)), (.int ((p3 &&& (2147483647 : Int32)) % (5 : Int32)))])) _
        refine XS.icmpNo X2.here hx rfl (hb hby at_214) rfl hc214 ?_
        show Steps p.tables e below (T2.setTop (mkF m 217 #[.val (.int p0), .val (.int p1), .val (.int p2), .val (.int p3), .val (.int p4), .val (.int (own_bit p4 (1 : Int32))), .val (.int (own_bit p4 (2 : Int32))), .val (.int (own_bit p4 (4 : Int32))), .val (.long (own_m p0)), .second, .val (.long (own_M p0 p1)), .second, .val (.double (FP.l2d (own_m p0))), .second, .val (.double (own_max p0 p1 p4)), .second, .val (.ref b1), .val (.int ((p3 &&& (2147483647 : Int32)) % (5 : Int32))), .val (.long (p2.toInt64)), .second, .unset, .unset, .unset, .unset, .unset] [])) _
        refine XS.lload X2.here hx rfl (hb hby at_217) rfl ?_
        show Steps p.tables e below (T2.setTop (mkF m 219 #[.val (.int p0), .val (.int p1), .val (.int p2), .val (.int p3), .val (.int p4), .val (.int (own_bit p4 (1 : Int32))), .val (.int (own_bit p4 (2 : Int32))), .val (.int (own_bit p4 (4 : Int32))), .val (.long (own_m p0)), .second, .val (.long (own_M p0 p1)), .second, .val (.double (FP.l2d (own_m p0))), .second, .val (.double (own_max p0 p1 p4)), .second, .val (.ref b1), .val (.int ((p3 &&& (2147483647 : Int32)) % (5 : Int32))), .val (.long (p2.toInt64)), .second, .unset, .unset, .unset, .unset, .unset] [(.long (p2.toInt64))])) _
        refine XS.l2dS X2.here hx rfl (hb hby at_219) rfl rfl ?_
        show Steps p.tables e below (T2.setTop (mkF m 220 #[.val (.int p0), .val (.int p1), .val (.int p2), .val (.int p3), .val (.int p4), .val (.int (own_bit p4 (1 : Int32))), .val (.int (own_bit p4 (2 : Int32))), .val (.int (own_bit p4 (4 : Int32))), .val (.long (own_m p0)), .second, .val (.long (own_M p0 p1)), .second, .val (.double (FP.l2d (own_m p0))), .second, .val (.double (own_max p0 p1 p4)), .second, .val (.ref b1), .val (.int ((p3 &&& (2147483647 : Int32)) % (5 : Int32))), .val (.long (p2.toInt64)), .second, .unset, .unset, .unset, .unset, .unset] [(.double (FP.l2d (p2.toInt64)))])) _
        refine X2.ldc2DoubleC hx hown (mvT hZ (hw _ (List.mem_of_getElem? (i := 25) rfl))) (g := (mkF m 220 #[.val (.int p0), .val (.int p1), .val (.int p2), .val (.int p3), .val (.int p4), .val (.int (own_bit p4 (1 : Int32))), .val (.int (own_bit p4 (2 : Int32))), .val (.int (own_bit p4 (4 : Int32))), .val (.long (own_m p0)), .second, .val (.long (own_M p0 p1)), .second, .val (.double (FP.l2d (own_m p0))), .second, .val (.double (own_max p0 p1 p4)), .second, .val (.ref b1), .val (.int ((p3 &&& (2147483647 : Int32)) % (5 : Int32))), .val (.long (p2.toInt64)), .second, .unset, .unset, .unset, .unset, .unset] [(.double (FP.l2d (p2.toInt64)))])) rfl (hb hby at_220) _ ?_
        show Steps p.tables e below (T2.setTop (mkF m 223 #[.val (.int p0), .val (.int p1), .val (.int p2), .val (.int p3), .val (.int p4), .val (.int (own_bit p4 (1 : Int32))), .val (.int (own_bit p4 (2 : Int32))), .val (.int (own_bit p4 (4 : Int32))), .val (.long (own_m p0)), .second, .val (.long (own_M p0 p1)), .second, .val (.double (FP.l2d (own_m p0))), .second, .val (.double (own_max p0 p1 p4)), .second, .val (.ref b1), .val (.int ((p3 &&& (2147483647 : Int32)) % (5 : Int32))), .val (.long (p2.toInt64)), .second, .unset, .unset, .unset, .unset, .unset] [(.double (4602678819172646912 : UInt64)), (.double (FP.l2d (p2.toInt64)))])) _
        refine XS.daddS X2.here hx rfl (hb hby at_223) rfl (Fl.dadd_out (Fl.l2d_fin _).noNaN (by unfold Fl.Fin64; decide)) rfl ?_
        show Steps p.tables e below (T2.setTop (mkF m 224 #[.val (.int p0), .val (.int p1), .val (.int p2), .val (.int p3), .val (.int p4), .val (.int (own_bit p4 (1 : Int32))), .val (.int (own_bit p4 (2 : Int32))), .val (.int (own_bit p4 (4 : Int32))), .val (.long (own_m p0)), .second, .val (.long (own_M p0 p1)), .second, .val (.double (FP.l2d (own_m p0))), .second, .val (.double (own_max p0 p1 p4)), .second, .val (.ref b1), .val (.int ((p3 &&& (2147483647 : Int32)) % (5 : Int32))), .val (.long (p2.toInt64)), .second, .unset, .unset, .unset, .unset, .unset] [(.double (own_half p2))])) _
        refine XS.dstore X2.here hx rfl (hb hby at_224) rfl (l' := #[.val (.int p0), .val (.int p1), .val (.int p2), .val (.int p3), .val (.int p4), .val (.int (own_bit p4 (1 : Int32))), .val (.int (own_bit p4 (2 : Int32))), .val (.int (own_bit p4 (4 : Int32))), .val (.long (own_m p0)), .second, .val (.long (own_M p0 p1)), .second, .val (.double (FP.l2d (own_m p0))), .second, .val (.double (own_max p0 p1 p4)), .second, .val (.ref b1), .val (.int ((p3 &&& (2147483647 : Int32)) % (5 : Int32))), .val (.long (p2.toInt64)), .second, .val (.double (own_half p2)), .second, .unset, .unset, .unset]) rfl ?_
        show Steps p.tables e below (T2.setTop (mkF m 226 #[.val (.int p0), .val (.int p1), .val (.int p2), .val (.int p3), .val (.int p4), .val (.int (own_bit p4 (1 : Int32))), .val (.int (own_bit p4 (2 : Int32))), .val (.int (own_bit p4 (4 : Int32))), .val (.long (own_m p0)), .second, .val (.long (own_M p0 p1)), .second, .val (.double (FP.l2d (own_m p0))), .second, .val (.double (own_max p0 p1 p4)), .second, .val (.ref b1), .val (.int ((p3 &&& (2147483647 : Int32)) % (5 : Int32))), .val (.long (p2.toInt64)), .second, .val (.double (own_half p2)), .second, .unset, .unset, .unset] [])) _
        refine sg_0_226_239 X2 hx hZ hw hby hown ?_
        show Steps p.tables e below (T2.setTop (mkF m 239 #[.val (.int p0), .val (.int p1), .val (.int p2), .val (.int p3), .val (.int p4), .val (.int (own_bit p4 (1 : Int32))), .val (.int (own_bit p4 (2 : Int32))), .val (.int (own_bit p4 (4 : Int32))), .val (.long (own_m p0)), .second, .val (.long (own_M p0 p1)), .second, .val (.double (FP.l2d (own_m p0))), .second, .val (.double (own_max p0 p1 p4)), .second, .val (.ref b1), .val (.int ((p3 &&& (2147483647 : Int32)) % (5 : Int32))), .val (.long (p2.toInt64)), .second, .val (.double (own_half p2)), .second, .unset, .unset, .unset] [(.int (own_lo1 (lcmpW (p2.toInt64) (own_m p0))))])) _
        refine XS.istore X2.here hx rfl (hb hby at_239) rfl (l' := #[.val (.int p0), .val (.int p1), .val (.int p2), .val (.int p3), .val (.int p4), .val (.int (own_bit p4 (1 : Int32))), .val (.int (own_bit p4 (2 : Int32))), .val (.int (own_bit p4 (4 : Int32))), .val (.long (own_m p0)), .second, .val (.long (own_M p0 p1)), .second, .val (.double (FP.l2d (own_m p0))), .second, .val (.double (own_max p0 p1 p4)), .second, .val (.ref b1), .val (.int ((p3 &&& (2147483647 : Int32)) % (5 : Int32))), .val (.long (p2.toInt64)), .second, .val (.double (own_half p2)), .second, .unset, .val (.int (own_lo1 (lcmpW (p2.toInt64) (own_m p0)))), .unset]) rfl ?_
        show Steps p.tables e below (T2.setTop (mkF m 241 #[.val (.int p0), .val (.int p1), .val (.int p2), .val (.int p3), .val (.int p4), .val (.int (own_bit p4 (1 : Int32))), .val (.int (own_bit p4 (2 : Int32))), .val (.int (own_bit p4 (4 : Int32))), .val (.long (own_m p0)), .second, .val (.long (own_M p0 p1)), .second, .val (.double (FP.l2d (own_m p0))), .second, .val (.double (own_max p0 p1 p4)), .second, .val (.ref b1), .val (.int ((p3 &&& (2147483647 : Int32)) % (5 : Int32))), .val (.long (p2.toInt64)), .second, .val (.double (own_half p2)), .second, .unset, .val (.int (own_lo1 (lcmpW (p2.toInt64) (own_m p0)))), .unset] [])) _
        refine sg_0_241_259 X2 hx hZ hw hby hown ?_
        show Steps p.tables e below (T2.setTop (mkF m 259 #[.val (.int p0), .val (.int p1), .val (.int p2), .val (.int p3), .val (.int p4), .val (.int (own_bit p4 (1 : Int32))), .val (.int (own_bit p4 (2 : Int32))), .val (.int (own_bit p4 (4 : Int32))), .val (.long (own_m p0)), .second, .val (.long (own_M p0 p1)), .second, .val (.double (FP.l2d (own_m p0))), .second, .val (.double (own_max p0 p1 p4)), .second, .val (.ref b1), .val (.int ((p3 &&& (2147483647 : Int32)) % (5 : Int32))), .val (.long (p2.toInt64)), .second, .val (.double (own_half p2)), .second, .unset, .val (.int (own_lo1 (lcmpW (p2.toInt64) (own_m p0)))), .unset] [(.int (own_hi1 (own_bit p4 (4 : Int32)) (lcmpW (p2.toInt64) (own_M p0 p1))))])) _
        refine XS.istore X2.here hx rfl (hb hby at_259) rfl (l' := #[.val (.int p0), .val (.int p1), .val (.int p2), .val (.int p3), .val (.int p4), .val (.int (own_bit p4 (1 : Int32))), .val (.int (own_bit p4 (2 : Int32))), .val (.int (own_bit p4 (4 : Int32))), .val (.long (own_m p0)), .second, .val (.long (own_M p0 p1)), .second, .val (.double (FP.l2d (own_m p0))), .second, .val (.double (own_max p0 p1 p4)), .second, .val (.ref b1), .val (.int ((p3 &&& (2147483647 : Int32)) % (5 : Int32))), .val (.long (p2.toInt64)), .second, .val (.double (own_half p2)), .second, .unset, .val (.int (own_lo1 (lcmpW (p2.toInt64) (own_m p0)))), .val (.int (own_hi1 (own_bit p4 (4 : Int32)) (lcmpW (p2.toInt64) (own_M p0 p1))))]) rfl ?_
        show Steps p.tables e below (T2.setTop (mkF m 261 #[.val (.int p0), .val (.int p1), .val (.int p2), .val (.int p3), .val (.int p4), .val (.int (own_bit p4 (1 : Int32))), .val (.int (own_bit p4 (2 : Int32))), .val (.int (own_bit p4 (4 : Int32))), .val (.long (own_m p0)), .second, .val (.long (own_M p0 p1)), .second, .val (.double (FP.l2d (own_m p0))), .second, .val (.double (own_max p0 p1 p4)), .second, .val (.ref b1), .val (.int ((p3 &&& (2147483647 : Int32)) % (5 : Int32))), .val (.long (p2.toInt64)), .second, .val (.double (own_half p2)), .second, .unset, .val (.int (own_lo1 (lcmpW (p2.toInt64) (own_m p0)))), .val (.int (own_hi1 (own_bit p4 (4 : Int32)) (lcmpW (p2.toInt64) (own_M p0 p1))))] [])) _
        refine sg_0_261_276 X2 hx hZ hw hby hown ?_
        show Steps p.tables e below (T2.setTop (mkF m 276 #[.val (.int p0), .val (.int p1), .val (.int p2), .val (.int p3), .val (.int p4), .val (.int (own_bit p4 (1 : Int32))), .val (.int (own_bit p4 (2 : Int32))), .val (.int (own_bit p4 (4 : Int32))), .val (.long (own_m p0)), .second, .val (.long (own_M p0 p1)), .second, .val (.double (FP.l2d (own_m p0))), .second, .val (.double (own_max p0 p1 p4)), .second, .val (.ref b1), .val (.int ((p3 &&& (2147483647 : Int32)) % (5 : Int32))), .val (.long (p2.toInt64)), .second, .val (.double (own_half p2)), .second, .unset, .val (.int (own_lo1 (lcmpW (p2.toInt64) (own_m p0)))), .val (.int (own_hi1 (own_bit p4 (4 : Int32)) (lcmpW (p2.toInt64) (own_M p0 p1))))] [(.int (own_exp (own_lo1 (lcmpW (p2.toInt64) (own_m p0))) (own_hi1 (own_bit p4 (4 : Int32)) (lcmpW (p2.toInt64) (own_M p0 p1)))))])) _
        refine XS.istore X2.here hx rfl (hb hby at_276) rfl (l' := #[.val (.int p0), .val (.int p1), .val (.int p2), .val (.int p3), .val (.int p4), .val (.int (own_bit p4 (1 : Int32))), .val (.int (own_bit p4 (2 : Int32))), .val (.int (own_bit p4 (4 : Int32))), .val (.long (own_m p0)), .second, .val (.long (own_M p0 p1)), .second, .val (.double (FP.l2d (own_m p0))), .second, .val (.double (own_max p0 p1 p4)), .second, .val (.ref b1), .val (.int ((p3 &&& (2147483647 : Int32)) % (5 : Int32))), .val (.long (p2.toInt64)), .second, .val (.double (own_half p2)), .second, .val (.int (own_exp (own_lo1 (lcmpW (p2.toInt64) (own_m p0))) (own_hi1 (own_bit p4 (4 : Int32)) (lcmpW (p2.toInt64) (own_M p0 p1))))), .val (.int (own_lo1 (lcmpW (p2.toInt64) (own_m p0)))), .val (.int (own_hi1 (own_bit p4 (4 : Int32)) (lcmpW (p2.toInt64) (own_M p0 p1))))]) rfl ?_
        show Steps p.tables e below (T2.setTop (mkF m 278 #[.val (.int p0), .val (.int p1), .val (.int p2), .val (.int p3), .val (.int p4), .val (.int (own_bit p4 (1 : Int32))), .val (.int (own_bit p4 (2 : Int32))), .val (.int (own_bit p4 (4 : Int32))), .val (.long (own_m p0)), .second, .val (.long (own_M p0 p1)), .second, .val (.double (FP.l2d (own_m p0))), .second, .val (.double (own_max p0 p1 p4)), .second, .val (.ref b1), .val (.int ((p3 &&& (2147483647 : Int32)) % (5 : Int32))), .val (.long (p2.toInt64)), .second, .val (.double (own_half p2)), .second, .val (.int (own_exp (own_lo1 (lcmpW (p2.toInt64) (own_m p0))) (own_hi1 (own_bit p4 (4 : Int32)) (lcmpW (p2.toInt64) (own_M p0 p1))))), .val (.int (own_lo1 (lcmpW (p2.toInt64) (own_m p0)))), .val (.int (own_hi1 (own_bit p4 (4 : Int32)) (lcmpW (p2.toInt64) (own_M p0 p1))))] [])) _
        refine XS.goto X2.here hx rfl (pc0 := 278) (pc' := 405) rfl (hb hby at_278) (by decide) (by decide) ?_
        show Steps p.tables e below (T2.setTop (mkF m 405 #[.val (.int p0), .val (.int p1), .val (.int p2), .val (.int p3), .val (.int p4), .val (.int (own_bit p4 (1 : Int32))), .val (.int (own_bit p4 (2 : Int32))), .val (.int (own_bit p4 (4 : Int32))), .val (.long (own_m p0)), .second, .val (.long (own_M p0 p1)), .second, .val (.double (FP.l2d (own_m p0))), .second, .val (.double (own_max p0 p1 p4)), .second, .val (.ref b1), .val (.int ((p3 &&& (2147483647 : Int32)) % (5 : Int32))), .val (.long (p2.toInt64)), .second, .val (.double (own_half p2)), .second, .val (.int (own_exp (own_lo1 (lcmpW (p2.toInt64) (own_m p0))) (own_hi1 (own_bit p4 (4 : Int32)) (lcmpW (p2.toInt64) (own_M p0 p1))))), .val (.int (own_lo1 (lcmpW (p2.toInt64) (own_m p0)))), .val (.int (own_hi1 (own_bit p4 (4 : Int32)) (lcmpW (p2.toInt64) (own_M p0 p1))))] [])) _
        refine XS.aload X2.here hx rfl (hb hby at_405) rfl rfl ?_
        show Steps p.tables e below (T2.setTop (mkF m 407 #[.val (.int p0), .val (.int p1), .val (.int p2), .val (.int p3), .val (.int p4), .val (.int (own_bit p4 (1 : Int32))), .val (.int (own_bit p4 (2 : Int32))), .val (.int (own_bit p4 (4 : Int32))), .val (.long (own_m p0)), .second, .val (.long (own_M p0 p1)), .second, .val (.double (FP.l2d (own_m p0))), .second, .val (.double (own_max p0 p1 p4)), .second, .val (.ref b1), .val (.int ((p3 &&& (2147483647 : Int32)) % (5 : Int32))), .val (.long (p2.toInt64)), .second, .val (.double (own_half p2)), .second, .val (.int (own_exp (own_lo1 (lcmpW (p2.toInt64) (own_m p0))) (own_hi1 (own_bit p4 (4 : Int32)) (lcmpW (p2.toInt64) (own_M p0 p1))))), .val (.int (own_lo1 (lcmpW (p2.toInt64) (own_m p0)))), .val (.int (own_hi1 (own_bit p4 (4 : Int32)) (lcmpW (p2.toInt64) (own_M p0 p1))))] [(.ref b1)])) _
        refine XS.dload X2.here hx rfl (hb hby at_407) rfl ?_
        show Steps p.tables e below (T2.setTop (mkF m 409 #[.val (.int p0), .val (.int p1), .val (.int p2), .val (.int p3), .val (.int p4), .val (.int (own_bit p4 (1 : Int32))), .val (.int (own_bit p4 (2 : Int32))), .val (.int (own_bit p4 (4 : Int32))), .val (.long (own_m p0)), .second, .val (.long (own_M p0 p1)), .second, .val (.double (FP.l2d (own_m p0))), .second, .val (.double (own_max p0 p1 p4)), .second, .val (.ref b1), .val (.int ((p3 &&& (2147483647 : Int32)) % (5 : Int32))), .val (.long (p2.toInt64)), .second, .val (.double (own_half p2)), .second, .val (.int (own_exp (own_lo1 (lcmpW (p2.toInt64) (own_m p0))) (own_hi1 (own_bit p4 (4 : Int32)) (lcmpW (p2.toInt64) (own_M p0 p1))))), .val (.int (own_lo1 (lcmpW (p2.toInt64) (own_m p0)))), .val (.int (own_hi1 (own_bit p4 (4 : Int32)) (lcmpW (p2.toInt64) (own_M p0 p1))))] [(.double (own_half p2)), (.ref b1)])) _
        refine st6.trans ?_
        show Steps p.tables e below (T6.setTop (mkF m 412 #[.val (.int p0), .val (.int p1), .val (.int p2), .val (.int p3), .val (.int p4), .val (.int (own_bit p4 (1 : Int32))), .val (.int (own_bit p4 (2 : Int32))), .val (.int (own_bit p4 (4 : Int32))), .val (.long (own_m p0)), .second, .val (.long (own_M p0 p1)), .second, .val (.double (FP.l2d (own_m p0))), .second, .val (.double (own_max p0 p1 p4)), .second, .val (.ref b1), .val (.int ((p3 &&& (2147483647 : Int32)) % (5 : Int32))), .val (.long (p2.toInt64)), .second, .val (.double (own_half p2)), .second, .val (.int (own_exp (own_lo1 (lcmpW (p2.toInt64) (own_m p0))) (own_hi1 (own_bit p4 (4 : Int32)) (lcmpW (p2.toInt64) (own_M p0 p1))))), .val (.int (own_lo1 (lcmpW (p2.toInt64) (own_m p0)))), .val (.int (own_hi1 (own_bit p4 (4 : Int32)) (lcmpW (p2.toInt64) (own_M p0 p1))))] [(.int (own_cont (FP.l2d (own_m p0)) (nar .boolean (own_bit p4 (1 : Int32))) (own_max p0 p1 p4) (nar .boolean (own_bit p4 (2 : Int32))) (own_half p2)))])) _
        refine XS.iload X6.here hx rfl (hb hby at_412) rfl ?_
        show Steps p.tables e below (T6.setTop (mkF m 414 #[.val (.int p0), .val (.int p1), .val (.int p2), .val (.int p3), .val (.int p4), .val (.int (own_bit p4 (1 : Int32))), .val (.int (own_bit p4 (2 : Int32))), .val (.int (own_bit p4 (4 : Int32))), .val (.long (own_m p0)), .second, .val (.long (own_M p0 p1)), .second, .val (.double (FP.l2d (own_m p0))), .second, .val (.double (own_max p0 p1 p4)), .second, .val (.ref b1), .val (.int ((p3 &&& (2147483647 : Int32)) % (5 : Int32))), .val (.long (p2.toInt64)), .second, .val (.double (own_half p2)), .second, .val (.int (own_exp (own_lo1 (lcmpW (p2.toInt64) (own_m p0))) (own_hi1 (own_bit p4 (4 : Int32)) (lcmpW (p2.toInt64) (own_M p0 p1))))), .val (.int (own_lo1 (lcmpW (p2.toInt64) (own_m p0)))), .val (.int (own_hi1 (own_bit p4 (4 : Int32)) (lcmpW (p2.toInt64) (own_M p0 p1))))] [(.int (own_exp (own_lo1 (lcmpW (p2.toInt64) (own_m p0))) (own_hi1 (own_bit p4 (4 : Int32)) (lcmpW (p2.toInt64) (own_M p0 p1))))), (.int (own_cont (FP.l2d (own_m p0)) (nar .boolean (own_bit p4 (1 : Int32))) (own_max p0 p1 p4) (nar .boolean (own_bit p4 (2 : Int32))) (own_half p2)))])) _
        refine XS.icmpNo X6.here hx rfl (hb hby at_414) rfl (own_law1 p0 p1 p4 p2) ?_
        show Steps p.tables e below (T6.setTop (mkF m 417 #[.val (.int p0), .val (.int p1), .val (.int p2), .val (.int p3), .val (.int p4), .val (.int (own_bit p4 (1 : Int32))), .val (.int (own_bit p4 (2 : Int32))), .val (.int (own_bit p4 (4 : Int32))), .val (.long (own_m p0)), .second, .val (.long (own_M p0 p1)), .second, .val (.double (FP.l2d (own_m p0))), .second, .val (.double (own_max p0 p1 p4)), .second, .val (.ref b1), .val (.int ((p3 &&& (2147483647 : Int32)) % (5 : Int32))), .val (.long (p2.toInt64)), .second, .val (.double (own_half p2)), .second, .val (.int (own_exp (own_lo1 (lcmpW (p2.toInt64) (own_m p0))) (own_hi1 (own_bit p4 (4 : Int32)) (lcmpW (p2.toInt64) (own_M p0 p1))))), .val (.int (own_lo1 (lcmpW (p2.toInt64) (own_m p0)))), .val (.int (own_hi1 (own_bit p4 (4 : Int32)) (lcmpW (p2.toInt64) (own_M p0 p1))))] [])) _
        refine XS.iconst X6.here hx rfl (hb hby at_417) ?_
        show Steps p.tables e below (T6.setTop (mkF m 418 #[.val (.int p0), .val (.int p1), .val (.int p2), .val (.int p3), .val (.int p4), .val (.int (own_bit p4 (1 : Int32))), .val (.int (own_bit p4 (2 : Int32))), .val (.int (own_bit p4 (4 : Int32))), .val (.long (own_m p0)), .second, .val (.long (own_M p0 p1)), .second, .val (.double (FP.l2d (own_m p0))), .second, .val (.double (own_max p0 p1 p4)), .second, .val (.ref b1), .val (.int ((p3 &&& (2147483647 : Int32)) % (5 : Int32))), .val (.long (p2.toInt64)), .second, .val (.double (own_half p2)), .second, .val (.int (own_exp (own_lo1 (lcmpW (p2.toInt64) (own_m p0))) (own_hi1 (own_bit p4 (4 : Int32)) (lcmpW (p2.toInt64) (own_M p0 p1))))), .val (.int (own_lo1 (lcmpW (p2.toInt64) (own_m p0)))), .val (.int (own_hi1 (own_bit p4 (4 : Int32)) (lcmpW (p2.toInt64) (own_M p0 p1))))] [(.int (1 : Int32))])) _
        refine XS.goto X6.here hx rfl (pc0 := 418) (pc' := 422) rfl (hb hby at_418) (by decide) (by decide) ?_
        show Steps p.tables e below (T6.setTop (mkF m 422 #[.val (.int p0), .val (.int p1), .val (.int p2), .val (.int p3), .val (.int p4), .val (.int (own_bit p4 (1 : Int32))), .val (.int (own_bit p4 (2 : Int32))), .val (.int (own_bit p4 (4 : Int32))), .val (.long (own_m p0)), .second, .val (.long (own_M p0 p1)), .second, .val (.double (FP.l2d (own_m p0))), .second, .val (.double (own_max p0 p1 p4)), .second, .val (.ref b1), .val (.int ((p3 &&& (2147483647 : Int32)) % (5 : Int32))), .val (.long (p2.toInt64)), .second, .val (.double (own_half p2)), .second, .val (.int (own_exp (own_lo1 (lcmpW (p2.toInt64) (own_m p0))) (own_hi1 (own_bit p4 (4 : Int32)) (lcmpW (p2.toInt64) (own_M p0 p1))))), .val (.int (own_lo1 (lcmpW (p2.toInt64) (own_m p0)))), .val (.int (own_hi1 (own_bit p4 (4 : Int32)) (lcmpW (p2.toInt64) (own_M p0 p1))))] [(.int (1 : Int32))])) _
        exact retN X6 hx (t := .boolean) Bd.returns (by simp) (hb hby at_422) hr
      · show Q0 Z p0 p1 p2 p3 p4 h0 n0 _ T6.heap _
        rw [eh6]
        exact ⟨rfl, N6⟩
  · obtain ⟨cq7, kq7, q7a, q7b, q7c⟩ := isOf hZ rfl Ea2
    obtain ⟨_, _, ⟨T7, L7, k7, n7⟩, -, X7, ⟨Lc7, hQ7, l7, y7, z7⟩, st7⟩ := X2.virtualBack hx (y := (⟨"com/example/mynegai/mynegai/command/DecimalRange", "contains", "(D)Z"⟩ : MethodName)) (z := (⟨"com/example/mynegai/mynegai/command/DecimalRange", "contains", "(D)Z"⟩ : MethodName)) hown (mvT hZ (hw _ (List.mem_of_getElem? (i := 26) rfl))) (mvT hZ (hw _ (List.mem_of_getElem? (i := 27) rfl))) (notFace_of_selects (args := #[]) (mvT hZ (hw _ (List.mem_of_getElem? (i := 29) rfl)))) (mvT hZ (hw _ (List.mem_of_getElem? (i := 29) rfl))) (mvT hZ (hw _ (List.mem_of_getElem? (i := 28) rfl))) (by decide) (backOf (W := 0) (rmct l Z a0 hw [] b1 (FP.l2d (own_m p0)) (nar .boolean (own_bit p4 (1 : Int32))) (own_max p0 p1 p4) (nar .boolean (own_bit p4 (2 : Int32))) (FP.l2d (p2.toInt64)) T2.heap n0 (Nat.le_trans (Nat.le_trans Z0 E1.1) K2.1) Fa2 Fb2 Fc2 Fd2) hZ (hw _ (List.mem_of_getElem? (i := 30) rfl)) (hw _ (List.mem_of_getElem? (i := 3) rfl)) (by decide) (by decide)) q7a q7c (g := (mkF m 409 #[.val (.int p0), .val (.int p1), .val (.int p2), .val (.int p3), .val (.int p4), .val (.int (own_bit p4 (1 : Int32))), .val (.int (own_bit p4 (2 : Int32))), .val (.int (own_bit p4 (4 : Int32))), .val (.long (own_m p0)), .second, .val (.long (own_M p0 p1)), .second, .val (.double (FP.l2d (own_m p0))), .second, .val (.double (own_max p0 p1 p4)), .second, .val (.ref b1), .val (.int ((p3 &&& (2147483647 : Int32)) % (5 : Int32))), .val (.long (p2.toInt64)), .second, .val (.double (FP.l2d (p2.toInt64))), .second, .val (.int (own_exp (own_lo (own_bit p4 (1 : Int32)) (lcmpW (p2.toInt64) (own_m p0))) (own_ehi (own_bit p4 (4 : Int32)) (own_bit p4 (2 : Int32)) (lcmpW (p2.toInt64) (own_M p0 p1))))), .val (.int (own_lo (own_bit p4 (1 : Int32)) (lcmpW (p2.toInt64) (own_m p0)))), .val (.int (own_ehi (own_bit p4 (4 : Int32)) (own_bit p4 (2 : Int32)) (lcmpW (p2.toInt64) (own_M p0 p1))))] [(.double (FP.l2d (p2.toInt64))), (.ref b1)])) rfl (by rw [hml]; rfl) (Steps.refl _) (argsL := [(.double (FP.l2d (p2.toInt64)))]) (rest := []) (lenOf pd_2 rfl) rfl (by show 2 * 0 + _ ≤ _; exact Nat.le_of_eq rfl) (hb hby at_409) (fun _ _ => ⟨rfl, rfl, (by decide : 1 + 0 ≤ _), (by decide : 4 + 0 ≤ _)⟩)
    dsimp only [Pt.U, Pt.locs, Pt.cells, Pt.slots] at X7 l7 y7 z7 st7 hQ7
    subst l7 y7 z7
    obtain ⟨rfl, N7q, eh7⟩ := hQ7
    have N7 := Fr.app N2 N7q
    obtain ⟨fs, hr, hrun, hended, hW, hsame⟩ := X7.leave (v := some (.int (nar .boolean (1 : Int32)))) (fun h => by rw [Bd.returns] at h; cases h)
    refine ⟨_, _, pre0 _ ?_, hrun, hended, _, _, rfl, ?_, ⟨_, rfl⟩, hW, hsame.mono (by decide) (by decide)⟩
    · show Steps p.tables e below (s₁.setTop (mkF m 0 #[.val (.int p0), .val (.int p1), .val (.int p2), .val (.int p3), .val (.int p4), .unset, .unset, .unset, .unset, .unset, .unset, .unset, .unset, .unset, .unset, .unset, .unset, .unset, .unset, .unset, .unset, .unset, .unset, .unset, .unset] [])) _
      refine sg_0_0_12 X0 hx hZ hw hby hown ?_
      show Steps p.tables e below (s₁.setTop (mkF m 12 #[.val (.int p0), .val (.int p1), .val (.int p2), .val (.int p3), .val (.int p4), .unset, .unset, .unset, .unset, .unset, .unset, .unset, .unset, .unset, .unset, .unset, .unset, .unset, .unset, .unset, .unset, .unset, .unset, .unset, .unset] [(.int (own_bit p4 (1 : Int32)))])) _
      refine XS.istore X0.here hx rfl (hb hby at_12) rfl (l' := #[.val (.int p0), .val (.int p1), .val (.int p2), .val (.int p3), .val (.int p4), .val (.int (own_bit p4 (1 : Int32))), .unset, .unset, .unset, .unset, .unset, .unset, .unset, .unset, .unset, .unset, .unset, .unset, .unset, .unset, .unset, .unset, .unset, .unset, .unset]) rfl ?_
      show Steps p.tables e below (s₁.setTop (mkF m 14 #[.val (.int p0), .val (.int p1), .val (.int p2), .val (.int p3), .val (.int p4), .val (.int (own_bit p4 (1 : Int32))), .unset, .unset, .unset, .unset, .unset, .unset, .unset, .unset, .unset, .unset, .unset, .unset, .unset, .unset, .unset, .unset, .unset, .unset, .unset] [])) _
      refine sg_0_14_26 X0 hx hZ hw hby hown ?_
      show Steps p.tables e below (s₁.setTop (mkF m 26 #[.val (.int p0), .val (.int p1), .val (.int p2), .val (.int p3), .val (.int p4), .val (.int (own_bit p4 (1 : Int32))), .unset, .unset, .unset, .unset, .unset, .unset, .unset, .unset, .unset, .unset, .unset, .unset, .unset, .unset, .unset, .unset, .unset, .unset, .unset] [(.int (own_bit p4 (2 : Int32)))])) _
      refine XS.istore X0.here hx rfl (hb hby at_26) rfl (l' := #[.val (.int p0), .val (.int p1), .val (.int p2), .val (.int p3), .val (.int p4), .val (.int (own_bit p4 (1 : Int32))), .val (.int (own_bit p4 (2 : Int32))), .unset, .unset, .unset, .unset, .unset, .unset, .unset, .unset, .unset, .unset, .unset, .unset, .unset, .unset, .unset, .unset, .unset, .unset]) rfl ?_
      show Steps p.tables e below (s₁.setTop (mkF m 28 #[.val (.int p0), .val (.int p1), .val (.int p2), .val (.int p3), .val (.int p4), .val (.int (own_bit p4 (1 : Int32))), .val (.int (own_bit p4 (2 : Int32))), .unset, .unset, .unset, .unset, .unset, .unset, .unset, .unset, .unset, .unset, .unset, .unset, .unset, .unset, .unset, .unset, .unset, .unset] [])) _
      refine sg_0_28_40 X0 hx hZ hw hby hown ?_
      show Steps p.tables e below (s₁.setTop (mkF m 40 #[.val (.int p0), .val (.int p1), .val (.int p2), .val (.int p3), .val (.int p4), .val (.int (own_bit p4 (1 : Int32))), .val (.int (own_bit p4 (2 : Int32))), .unset, .unset, .unset, .unset, .unset, .unset, .unset, .unset, .unset, .unset, .unset, .unset, .unset, .unset, .unset, .unset, .unset, .unset] [(.int (own_bit p4 (4 : Int32)))])) _
      refine XS.istore X0.here hx rfl (hb hby at_40) rfl (l' := #[.val (.int p0), .val (.int p1), .val (.int p2), .val (.int p3), .val (.int p4), .val (.int (own_bit p4 (1 : Int32))), .val (.int (own_bit p4 (2 : Int32))), .val (.int (own_bit p4 (4 : Int32))), .unset, .unset, .unset, .unset, .unset, .unset, .unset, .unset, .unset, .unset, .unset, .unset, .unset, .unset, .unset, .unset, .unset]) rfl ?_
      show Steps p.tables e below (s₁.setTop (mkF m 42 #[.val (.int p0), .val (.int p1), .val (.int p2), .val (.int p3), .val (.int p4), .val (.int (own_bit p4 (1 : Int32))), .val (.int (own_bit p4 (2 : Int32))), .val (.int (own_bit p4 (4 : Int32))), .unset, .unset, .unset, .unset, .unset, .unset, .unset, .unset, .unset, .unset, .unset, .unset, .unset, .unset, .unset, .unset, .unset] [])) _
      refine XS.iloadN X0.here hx rfl (hb hby at_42) rfl ?_
      show Steps p.tables e below (s₁.setTop (mkF m 43 #[.val (.int p0), .val (.int p1), .val (.int p2), .val (.int p3), .val (.int p4), .val (.int (own_bit p4 (1 : Int32))), .val (.int (own_bit p4 (2 : Int32))), .val (.int (own_bit p4 (4 : Int32))), .unset, .unset, .unset, .unset, .unset, .unset, .unset, .unset, .unset, .unset, .unset, .unset, .unset, .unset, .unset, .unset, .unset] [(.int p0)])) _
      refine X0.ldcInt hx hown (mvT hZ (hw _ (List.mem_of_getElem? (i := 0) rfl))) (g := (mkF m 43 #[.val (.int p0), .val (.int p1), .val (.int p2), .val (.int p3), .val (.int p4), .val (.int (own_bit p4 (1 : Int32))), .val (.int (own_bit p4 (2 : Int32))), .val (.int (own_bit p4 (4 : Int32))), .unset, .unset, .unset, .unset, .unset, .unset, .unset, .unset, .unset, .unset, .unset, .unset, .unset, .unset, .unset, .unset, .unset] [(.int p0)])) rfl (hb hby at_43) _ ?_
      show Steps p.tables e below (s₁.setTop (mkF m 45 #[.val (.int p0), .val (.int p1), .val (.int p2), .val (.int p3), .val (.int p4), .val (.int (own_bit p4 (1 : Int32))), .val (.int (own_bit p4 (2 : Int32))), .val (.int (own_bit p4 (4 : Int32))), .unset, .unset, .unset, .unset, .unset, .unset, .unset, .unset, .unset, .unset, .unset, .unset, .unset, .unset, .unset, .unset, .unset] [(.int (1073741823 : Int32)), (.int p0)])) _
      refine XS.iand X0.here hx rfl (hb hby at_45) rfl ?_
      show Steps p.tables e below (s₁.setTop (mkF m 46 #[.val (.int p0), .val (.int p1), .val (.int p2), .val (.int p3), .val (.int p4), .val (.int (own_bit p4 (1 : Int32))), .val (.int (own_bit p4 (2 : Int32))), .val (.int (own_bit p4 (4 : Int32))), .unset, .unset, .unset, .unset, .unset, .unset, .unset, .unset, .unset, .unset, .unset, .unset, .unset, .unset, .unset, .unset, .unset] [(.int (p0 &&& (1073741823 : Int32)))])) _
      refine XS.i2l X0.here hx rfl (hb hby at_46) rfl ?_
      show Steps p.tables e below (s₁.setTop (mkF m 47 #[.val (.int p0), .val (.int p1), .val (.int p2), .val (.int p3), .val (.int p4), .val (.int (own_bit p4 (1 : Int32))), .val (.int (own_bit p4 (2 : Int32))), .val (.int (own_bit p4 (4 : Int32))), .unset, .unset, .unset, .unset, .unset, .unset, .unset, .unset, .unset, .unset, .unset, .unset, .unset, .unset, .unset, .unset, .unset] [(.long (own_m p0))])) _
      refine XS.lstore X0.here hx rfl (hb hby at_47) rfl (l' := #[.val (.int p0), .val (.int p1), .val (.int p2), .val (.int p3), .val (.int p4), .val (.int (own_bit p4 (1 : Int32))), .val (.int (own_bit p4 (2 : Int32))), .val (.int (own_bit p4 (4 : Int32))), .val (.long (own_m p0)), .second, .unset, .unset, .unset, .unset, .unset, .unset, .unset, .unset, .unset, .unset, .unset, .unset, .unset, .unset, .unset]) rfl ?_
      show Steps p.tables e below (s₁.setTop (mkF m 49 #[.val (.int p0), .val (.int p1), .val (.int p2), .val (.int p3), .val (.int p4), .val (.int (own_bit p4 (1 : Int32))), .val (.int (own_bit p4 (2 : Int32))), .val (.int (own_bit p4 (4 : Int32))), .val (.long (own_m p0)), .second, .unset, .unset, .unset, .unset, .unset, .unset, .unset, .unset, .unset, .unset, .unset, .unset, .unset, .unset, .unset] [])) _
      refine XS.lload X0.here hx rfl (hb hby at_49) rfl ?_
      show Steps p.tables e below (s₁.setTop (mkF m 51 #[.val (.int p0), .val (.int p1), .val (.int p2), .val (.int p3), .val (.int p4), .val (.int (own_bit p4 (1 : Int32))), .val (.int (own_bit p4 (2 : Int32))), .val (.int (own_bit p4 (4 : Int32))), .val (.long (own_m p0)), .second, .unset, .unset, .unset, .unset, .unset, .unset, .unset, .unset, .unset, .unset, .unset, .unset, .unset, .unset, .unset] [(.long (own_m p0))])) _
      refine XS.iloadN X0.here hx rfl (hb hby at_51) rfl ?_
      show Steps p.tables e below (s₁.setTop (mkF m 52 #[.val (.int p0), .val (.int p1), .val (.int p2), .val (.int p3), .val (.int p4), .val (.int (own_bit p4 (1 : Int32))), .val (.int (own_bit p4 (2 : Int32))), .val (.int (own_bit p4 (4 : Int32))), .val (.long (own_m p0)), .second, .unset, .unset, .unset, .unset, .unset, .unset, .unset, .unset, .unset, .unset, .unset, .unset, .unset, .unset, .unset] [(.int p1), (.long (own_m p0))])) _
      refine X0.ldcInt hx hown (mvT hZ (hw _ (List.mem_of_getElem? (i := 0) rfl))) (g := (mkF m 52 #[.val (.int p0), .val (.int p1), .val (.int p2), .val (.int p3), .val (.int p4), .val (.int (own_bit p4 (1 : Int32))), .val (.int (own_bit p4 (2 : Int32))), .val (.int (own_bit p4 (4 : Int32))), .val (.long (own_m p0)), .second, .unset, .unset, .unset, .unset, .unset, .unset, .unset, .unset, .unset, .unset, .unset, .unset, .unset, .unset, .unset] [(.int p1), (.long (own_m p0))])) rfl (hb hby at_52) _ ?_
      show Steps p.tables e below (s₁.setTop (mkF m 54 #[.val (.int p0), .val (.int p1), .val (.int p2), .val (.int p3), .val (.int p4), .val (.int (own_bit p4 (1 : Int32))), .val (.int (own_bit p4 (2 : Int32))), .val (.int (own_bit p4 (4 : Int32))), .val (.long (own_m p0)), .second, .unset, .unset, .unset, .unset, .unset, .unset, .unset, .unset, .unset, .unset, .unset, .unset, .unset, .unset, .unset] [(.int (1073741823 : Int32)), (.int p1), (.long (own_m p0))])) _
      refine XS.iand X0.here hx rfl (hb hby at_54) rfl ?_
      show Steps p.tables e below (s₁.setTop (mkF m 55 #[.val (.int p0), .val (.int p1), .val (.int p2), .val (.int p3), .val (.int p4), .val (.int (own_bit p4 (1 : Int32))), .val (.int (own_bit p4 (2 : Int32))), .val (.int (own_bit p4 (4 : Int32))), .val (.long (own_m p0)), .second, .unset, .unset, .unset, .unset, .unset, .unset, .unset, .unset, .unset, .unset, .unset, .unset, .unset, .unset, .unset] [(.int (p1 &&& (1073741823 : Int32))), (.long (own_m p0))])) _
      refine XS.i2l X0.here hx rfl (hb hby at_55) rfl ?_
      show Steps p.tables e below (s₁.setTop (mkF m 56 #[.val (.int p0), .val (.int p1), .val (.int p2), .val (.int p3), .val (.int p4), .val (.int (own_bit p4 (1 : Int32))), .val (.int (own_bit p4 (2 : Int32))), .val (.int (own_bit p4 (4 : Int32))), .val (.long (own_m p0)), .second, .unset, .unset, .unset, .unset, .unset, .unset, .unset, .unset, .unset, .unset, .unset, .unset, .unset, .unset, .unset] [(.long ((p1 &&& (1073741823 : Int32)).toInt64)), (.long (own_m p0))])) _
      refine XS.ladd X0.here hx rfl (hb hby at_56) rfl ?_
      show Steps p.tables e below (s₁.setTop (mkF m 57 #[.val (.int p0), .val (.int p1), .val (.int p2), .val (.int p3), .val (.int p4), .val (.int (own_bit p4 (1 : Int32))), .val (.int (own_bit p4 (2 : Int32))), .val (.int (own_bit p4 (4 : Int32))), .val (.long (own_m p0)), .second, .unset, .unset, .unset, .unset, .unset, .unset, .unset, .unset, .unset, .unset, .unset, .unset, .unset, .unset, .unset] [(.long (own_M p0 p1))])) _
      refine XS.lstore X0.here hx rfl (hb hby at_57) rfl (l' := #[.val (.int p0), .val (.int p1), .val (.int p2), .val (.int p3), .val (.int p4), .val (.int (own_bit p4 (1 : Int32))), .val (.int (own_bit p4 (2 : Int32))), .val (.int (own_bit p4 (4 : Int32))), .val (.long (own_m p0)), .second, .val (.long (own_M p0 p1)), .second, .unset, .unset, .unset, .unset, .unset, .unset, .unset, .unset, .unset, .unset, .unset, .unset, .unset]) rfl ?_
      show Steps p.tables e below (s₁.setTop (mkF m 59 #[.val (.int p0), .val (.int p1), .val (.int p2), .val (.int p3), .val (.int p4), .val (.int (own_bit p4 (1 : Int32))), .val (.int (own_bit p4 (2 : Int32))), .val (.int (own_bit p4 (4 : Int32))), .val (.long (own_m p0)), .second, .val (.long (own_M p0 p1)), .second, .unset, .unset, .unset, .unset, .unset, .unset, .unset, .unset, .unset, .unset, .unset, .unset, .unset] [])) _
      refine XS.lload X0.here hx rfl (hb hby at_59) rfl ?_
      show Steps p.tables e below (s₁.setTop (mkF m 61 #[.val (.int p0), .val (.int p1), .val (.int p2), .val (.int p3), .val (.int p4), .val (.int (own_bit p4 (1 : Int32))), .val (.int (own_bit p4 (2 : Int32))), .val (.int (own_bit p4 (4 : Int32))), .val (.long (own_m p0)), .second, .val (.long (own_M p0 p1)), .second, .unset, .unset, .unset, .unset, .unset, .unset, .unset, .unset, .unset, .unset, .unset, .unset, .unset] [(.long (own_m p0))])) _
      refine XS.l2dS X0.here hx rfl (hb hby at_61) rfl rfl ?_
      show Steps p.tables e below (s₁.setTop (mkF m 62 #[.val (.int p0), .val (.int p1), .val (.int p2), .val (.int p3), .val (.int p4), .val (.int (own_bit p4 (1 : Int32))), .val (.int (own_bit p4 (2 : Int32))), .val (.int (own_bit p4 (4 : Int32))), .val (.long (own_m p0)), .second, .val (.long (own_M p0 p1)), .second, .unset, .unset, .unset, .unset, .unset, .unset, .unset, .unset, .unset, .unset, .unset, .unset, .unset] [(.double (FP.l2d (own_m p0)))])) _
      refine XS.dstore X0.here hx rfl (hb hby at_62) rfl (l' := #[.val (.int p0), .val (.int p1), .val (.int p2), .val (.int p3), .val (.int p4), .val (.int (own_bit p4 (1 : Int32))), .val (.int (own_bit p4 (2 : Int32))), .val (.int (own_bit p4 (4 : Int32))), .val (.long (own_m p0)), .second, .val (.long (own_M p0 p1)), .second, .val (.double (FP.l2d (own_m p0))), .second, .unset, .unset, .unset, .unset, .unset, .unset, .unset, .unset, .unset, .unset, .unset]) rfl ?_
      show Steps p.tables e below (s₁.setTop (mkF m 64 #[.val (.int p0), .val (.int p1), .val (.int p2), .val (.int p3), .val (.int p4), .val (.int (own_bit p4 (1 : Int32))), .val (.int (own_bit p4 (2 : Int32))), .val (.int (own_bit p4 (4 : Int32))), .val (.long (own_m p0)), .second, .val (.long (own_M p0 p1)), .second, .val (.double (FP.l2d (own_m p0))), .second, .unset, .unset, .unset, .unset, .unset, .unset, .unset, .unset, .unset, .unset, .unset] [])) _
      refine sg_0_64_78 X0 hx hZ hw hby hown ?_
      show Steps p.tables e below (s₁.setTop (mkF m 78 #[.val (.int p0), .val (.int p1), .val (.int p2), .val (.int p3), .val (.int p4), .val (.int (own_bit p4 (1 : Int32))), .val (.int (own_bit p4 (2 : Int32))), .val (.int (own_bit p4 (4 : Int32))), .val (.long (own_m p0)), .second, .val (.long (own_M p0 p1)), .second, .val (.double (FP.l2d (own_m p0))), .second, .unset, .unset, .unset, .unset, .unset, .unset, .unset, .unset, .unset, .unset, .unset] [(.double (own_max p0 p1 p4))])) _
      refine XS.dstore X0.here hx rfl (hb hby at_78) rfl (l' := #[.val (.int p0), .val (.int p1), .val (.int p2), .val (.int p3), .val (.int p4), .val (.int (own_bit p4 (1 : Int32))), .val (.int (own_bit p4 (2 : Int32))), .val (.int (own_bit p4 (4 : Int32))), .val (.long (own_m p0)), .second, .val (.long (own_M p0 p1)), .second, .val (.double (FP.l2d (own_m p0))), .second, .val (.double (own_max p0 p1 p4)), .second, .unset, .unset, .unset, .unset, .unset, .unset, .unset, .unset, .unset]) rfl ?_
      show Steps p.tables e below (s₁.setTop (mkF m 80 #[.val (.int p0), .val (.int p1), .val (.int p2), .val (.int p3), .val (.int p4), .val (.int (own_bit p4 (1 : Int32))), .val (.int (own_bit p4 (2 : Int32))), .val (.int (own_bit p4 (4 : Int32))), .val (.long (own_m p0)), .second, .val (.long (own_M p0 p1)), .second, .val (.double (FP.l2d (own_m p0))), .second, .val (.double (own_max p0 p1 p4)), .second, .unset, .unset, .unset, .unset, .unset, .unset, .unset, .unset, .unset] [])) _
      refine st1 _ ?_
      show Steps p.tables e below (T1.setTop (mkF m 83 #[.val (.int p0), .val (.int p1), .val (.int p2), .val (.int p3), .val (.int p4), .val (.int (own_bit p4 (1 : Int32))), .val (.int (own_bit p4 (2 : Int32))), .val (.int (own_bit p4 (4 : Int32))), .val (.long (own_m p0)), .second, .val (.long (own_M p0 p1)), .second, .val (.double (FP.l2d (own_m p0))), .second, .val (.double (own_max p0 p1 p4)), .second, .unset, .unset, .unset, .unset, .unset, .unset, .unset, .unset, .unset] [(.ref b1)])) _
      refine XS.dup X1.here hx rfl (hb hby at_83) rfl rfl ?_
      show Steps p.tables e below (T1.setTop (mkF m 84 #[.val (.int p0), .val (.int p1), .val (.int p2), .val (.int p3), .val (.int p4), .val (.int (own_bit p4 (1 : Int32))), .val (.int (own_bit p4 (2 : Int32))), .val (.int (own_bit p4 (4 : Int32))), .val (.long (own_m p0)), .second, .val (.long (own_M p0 p1)), .second, .val (.double (FP.l2d (own_m p0))), .second, .val (.double (own_max p0 p1 p4)), .second, .unset, .unset, .unset, .unset, .unset, .unset, .unset, .unset, .unset] [(.ref b1), (.ref b1)])) _
      refine XS.dload X1.here hx rfl (hb hby at_84) rfl ?_
      show Steps p.tables e below (T1.setTop (mkF m 86 #[.val (.int p0), .val (.int p1), .val (.int p2), .val (.int p3), .val (.int p4), .val (.int (own_bit p4 (1 : Int32))), .val (.int (own_bit p4 (2 : Int32))), .val (.int (own_bit p4 (4 : Int32))), .val (.long (own_m p0)), .second, .val (.long (own_M p0 p1)), .second, .val (.double (FP.l2d (own_m p0))), .second, .val (.double (own_max p0 p1 p4)), .second, .unset, .unset, .unset, .unset, .unset, .unset, .unset, .unset, .unset] [(.double (FP.l2d (own_m p0))), (.ref b1), (.ref b1)])) _
      refine XS.iload X1.here hx rfl (hb hby at_86) rfl ?_
      show Steps p.tables e below (T1.setTop (mkF m 88 #[.val (.int p0), .val (.int p1), .val (.int p2), .val (.int p3), .val (.int p4), .val (.int (own_bit p4 (1 : Int32))), .val (.int (own_bit p4 (2 : Int32))), .val (.int (own_bit p4 (4 : Int32))), .val (.long (own_m p0)), .second, .val (.long (own_M p0 p1)), .second, .val (.double (FP.l2d (own_m p0))), .second, .val (.double (own_max p0 p1 p4)), .second, .unset, .unset, .unset, .unset, .unset, .unset, .unset, .unset, .unset] [(.int (own_bit p4 (1 : Int32))), (.double (FP.l2d (own_m p0))), (.ref b1), (.ref b1)])) _
      refine XS.dload X1.here hx rfl (hb hby at_88) rfl ?_
      show Steps p.tables e below (T1.setTop (mkF m 90 #[.val (.int p0), .val (.int p1), .val (.int p2), .val (.int p3), .val (.int p4), .val (.int (own_bit p4 (1 : Int32))), .val (.int (own_bit p4 (2 : Int32))), .val (.int (own_bit p4 (4 : Int32))), .val (.long (own_m p0)), .second, .val (.long (own_M p0 p1)), .second, .val (.double (FP.l2d (own_m p0))), .second, .val (.double (own_max p0 p1 p4)), .second, .unset, .unset, .unset, .unset, .unset, .unset, .unset, .unset, .unset] [(.double (own_max p0 p1 p4)), (.int (own_bit p4 (1 : Int32))), (.double (FP.l2d (own_m p0))), (.ref b1), (.ref b1)])) _
      refine XS.iload X1.here hx rfl (hb hby at_90) rfl ?_
      show Steps p.tables e below (T1.setTop (mkF m 92 #[.val (.int p0), .val (.int p1), .val (.int p2), .val (.int p3), .val (.int p4), .val (.int (own_bit p4 (1 : Int32))), .val (.int (own_bit p4 (2 : Int32))), .val (.int (own_bit p4 (4 : Int32))), .val (.long (own_m p0)), .second, .val (.long (own_M p0 p1)), .second, .val (.double (FP.l2d (own_m p0))), .second, .val (.double (own_max p0 p1 p4)), .second, .unset, .unset, .unset, .unset, .unset, .unset, .unset, .unset, .unset] [(.int (own_bit p4 (2 : Int32))), (.double (own_max p0 p1 p4)), (.int (own_bit p4 (1 : Int32))), (.double (FP.l2d (own_m p0))), (.ref b1), (.ref b1)])) _
      refine st2.trans ?_
      show Steps p.tables e below (T2.setTop (mkF m 95 #[.val (.int p0), .val (.int p1), .val (.int p2), .val (.int p3), .val (.int p4), .val (.int (own_bit p4 (1 : Int32))), .val (.int (own_bit p4 (2 : Int32))), .val (.int (own_bit p4 (4 : Int32))), .val (.long (own_m p0)), .second, .val (.long (own_M p0 p1)), .second, .val (.double (FP.l2d (own_m p0))), .second, .val (.double (own_max p0 p1 p4)), .second, .unset, .unset, .unset, .unset, .unset, .unset, .unset, .unset, .unset] [(.ref b1)])) _
      refine XS.astore X2.here hx rfl (hb hby at_95) rfl rfl (l' := #[.val (.int p0), .val (.int p1), .val (.int p2), .val (.int p3), .val (.int p4), .val (.int (own_bit p4 (1 : Int32))), .val (.int (own_bit p4 (2 : Int32))), .val (.int (own_bit p4 (4 : Int32))), .val (.long (own_m p0)), .second, .val (.long (own_M p0 p1)), .second, .val (.double (FP.l2d (own_m p0))), .second, .val (.double (own_max p0 p1 p4)), .second, .val (.ref b1), .unset, .unset, .unset, .unset, .unset, .unset, .unset, .unset]) rfl ?_
      show Steps p.tables e below (T2.setTop (mkF m 97 #[.val (.int p0), .val (.int p1), .val (.int p2), .val (.int p3), .val (.int p4), .val (.int (own_bit p4 (1 : Int32))), .val (.int (own_bit p4 (2 : Int32))), .val (.int (own_bit p4 (4 : Int32))), .val (.long (own_m p0)), .second, .val (.long (own_M p0 p1)), .second, .val (.double (FP.l2d (own_m p0))), .second, .val (.double (own_max p0 p1 p4)), .second, .val (.ref b1), .unset, .unset, .unset, .unset, .unset, .unset, .unset, .unset] [])) _
      refine XS.iloadN X2.here hx rfl (hb hby at_97) rfl ?_
      show Steps p.tables e below (T2.setTop (mkF m 98 #[.val (.int p0), .val (.int p1), .val (.int p2), .val (.int p3), .val (.int p4), .val (.int (own_bit p4 (1 : Int32))), .val (.int (own_bit p4 (2 : Int32))), .val (.int (own_bit p4 (4 : Int32))), .val (.long (own_m p0)), .second, .val (.long (own_M p0 p1)), .second, .val (.double (FP.l2d (own_m p0))), .second, .val (.double (own_max p0 p1 p4)), .second, .val (.ref b1), .unset, .unset, .unset, .unset, .unset, .unset, .unset, .unset] [(.int p3)])) _
      refine X2.ldcInt hx hown (mvT hZ (hw _ (List.mem_of_getElem? (i := 24) rfl))) (g := (mkF m 98 #[.val (.int p0), .val (.int p1), .val (.int p2), .val (.int p3), .val (.int p4), .val (.int (own_bit p4 (1 : Int32))), .val (.int (own_bit p4 (2 : Int32))), .val (.int (own_bit p4 (4 : Int32))), .val (.long (own_m p0)), .second, .val (.long (own_M p0 p1)), .second, .val (.double (FP.l2d (own_m p0))), .second, .val (.double (own_max p0 p1 p4)), .second, .val (.ref b1), .unset, .unset, .unset, .unset, .unset, .unset, .unset, .unset] [(.int p3)])) rfl (hb hby at_98) _ ?_
      show Steps p.tables e below (T2.setTop (mkF m 100 #[.val (.int p0), .val (.int p1), .val (.int p2), .val (.int p3), .val (.int p4), .val (.int (own_bit p4 (1 : Int32))), .val (.int (own_bit p4 (2 : Int32))), .val (.int (own_bit p4 (4 : Int32))), .val (.long (own_m p0)), .second, .val (.long (own_M p0 p1)), .second, .val (.double (FP.l2d (own_m p0))), .second, .val (.double (own_max p0 p1 p4)), .second, .val (.ref b1), .unset, .unset, .unset, .unset, .unset, .unset, .unset, .unset] [(.int (2147483647 : Int32)), (.int p3)])) _
      refine XS.iand X2.here hx rfl (hb hby at_100) rfl ?_
      show Steps p.tables e below (T2.setTop (mkF m 101 #[.val (.int p0), .val (.int p1), .val (.int p2), .val (.int p3), .val (.int p4), .val (.int (own_bit p4 (1 : Int32))), .val (.int (own_bit p4 (2 : Int32))), .val (.int (own_bit p4 (4 : Int32))), .val (.long (own_m p0)), .second, .val (.long (own_M p0 p1)), .second, .val (.double (FP.l2d (own_m p0))), .second, .val (.double (own_max p0 p1 p4)), .second, .val (.ref b1), .unset, .unset, .unset, .unset, .unset, .unset, .unset, .unset] [(.int (p3 &&& (2147483647 : Int32)))])) _
      refine XS.iconst X2.here hx rfl (hb hby at_101) ?_
      show Steps p.tables e below (T2.setTop (mkF m 102 #[.val (.int p0), .val (.int p1), .val (.int p2), .val (.int p3), .val (.int p4), .val (.int (own_bit p4 (1 : Int32))), .val (.int (own_bit p4 (2 : Int32))), .val (.int (own_bit p4 (4 : Int32))), .val (.long (own_m p0)), .second, .val (.long (own_M p0 p1)), .second, .val (.double (FP.l2d (own_m p0))), .second, .val (.double (own_max p0 p1 p4)), .second, .val (.ref b1), .unset, .unset, .unset, .unset, .unset, .unset, .unset, .unset] [(.int (5 : Int32)), (.int (p3 &&& (2147483647 : Int32)))])) _
      refine iremM X2 hx rfl (hb hby at_102) rfl (by decide) ?_
      show Steps p.tables e below (T2.setTop (mkF m 103 #[.val (.int p0), .val (.int p1), .val (.int p2), .val (.int p3), .val (.int p4), .val (.int (own_bit p4 (1 : Int32))), .val (.int (own_bit p4 (2 : Int32))), .val (.int (own_bit p4 (4 : Int32))), .val (.long (own_m p0)), .second, .val (.long (own_M p0 p1)), .second, .val (.double (FP.l2d (own_m p0))), .second, .val (.double (own_max p0 p1 p4)), .second, .val (.ref b1), .unset, .unset, .unset, .unset, .unset, .unset, .unset, .unset] [(.int ((p3 &&& (2147483647 : Int32)) % (5 : Int32)))])) _
      refine XS.istore X2.here hx rfl (hb hby at_103) rfl (l' := #[.val (.int p0), .val (.int p1), .val (.int p2), .val (.int p3), .val (.int p4), .val (.int (own_bit p4 (1 : Int32))), .val (.int (own_bit p4 (2 : Int32))), .val (.int (own_bit p4 (4 : Int32))), .val (.long (own_m p0)), .second, .val (.long (own_M p0 p1)), .second, .val (.double (FP.l2d (own_m p0))), .second, .val (.double (own_max p0 p1 p4)), .second, .val (.ref b1), .val (.int ((p3 &&& (2147483647 : Int32)) % (5 : Int32))), .unset, .unset, .unset, .unset, .unset, .unset, .unset]) rfl ?_
      show Steps p.tables e below (T2.setTop (mkF m 105 #[.val (.int p0), .val (.int p1), .val (.int p2), .val (.int p3), .val (.int p4), .val (.int (own_bit p4 (1 : Int32))), .val (.int (own_bit p4 (2 : Int32))), .val (.int (own_bit p4 (4 : Int32))), .val (.long (own_m p0)), .second, .val (.long (own_M p0 p1)), .second, .val (.double (FP.l2d (own_m p0))), .second, .val (.double (own_max p0 p1 p4)), .second, .val (.ref b1), .val (.int ((p3 &&& (2147483647 : Int32)) % (5 : Int32))), .unset, .unset, .unset, .unset, .unset, .unset, .unset] [])) _
      refine XS.iloadN X2.here hx rfl (hb hby at_105) rfl ?_
      show Steps p.tables e below (T2.setTop (mkF m 106 #[.val (.int p0), .val (.int p1), .val (.int p2), .val (.int p3), .val (.int p4), .val (.int (own_bit p4 (1 : Int32))), .val (.int (own_bit p4 (2 : Int32))), .val (.int (own_bit p4 (4 : Int32))), .val (.long (own_m p0)), .second, .val (.long (own_M p0 p1)), .second, .val (.double (FP.l2d (own_m p0))), .second, .val (.double (own_max p0 p1 p4)), .second, .val (.ref b1), .val (.int ((p3 &&& (2147483647 : Int32)) % (5 : Int32))), .unset, .unset, .unset, .unset, .unset, .unset, .unset] [(.int p2)])) _
      refine XS.i2l X2.here hx rfl (hb hby at_106) rfl ?_
      show Steps p.tables e below (T2.setTop (mkF m 107 #[.val (.int p0), .val (.int p1), .val (.int p2), .val (.int p3), .val (.int p4), .val (.int (own_bit p4 (1 : Int32))), .val (.int (own_bit p4 (2 : Int32))), .val (.int (own_bit p4 (4 : Int32))), .val (.long (own_m p0)), .second, .val (.long (own_M p0 p1)), .second, .val (.double (FP.l2d (own_m p0))), .second, .val (.double (own_max p0 p1 p4)), .second, .val (.ref b1), .val (.int ((p3 &&& (2147483647 : Int32)) % (5 : Int32))), .unset, .unset, .unset, .unset, .unset, .unset, .unset] [(.long (p2.toInt64))])) _
      refine XS.lstore X2.here hx rfl (hb hby at_107) rfl (l' := #[.val (.int p0), .val (.int p1), .val (.int p2), .val (.int p3), .val (.int p4), .val (.int (own_bit p4 (1 : Int32))), .val (.int (own_bit p4 (2 : Int32))), .val (.int (own_bit p4 (4 : Int32))), .val (.long (own_m p0)), .second, .val (.long (own_M p0 p1)), .second, .val (.double (FP.l2d (own_m p0))), .second, .val (.double (own_max p0 p1 p4)), .second, .val (.ref b1), .val (.int ((p3 &&& (2147483647 : Int32)) % (5 : Int32))), .val (.long (p2.toInt64)), .second, .unset, .unset, .unset, .unset, .unset]) rfl ?_
      show Steps p.tables e below (T2.setTop (mkF m 109 #[.val (.int p0), .val (.int p1), .val (.int p2), .val (.int p3), .val (.int p4), .val (.int (own_bit p4 (1 : Int32))), .val (.int (own_bit p4 (2 : Int32))), .val (.int (own_bit p4 (4 : Int32))), .val (.long (own_m p0)), .second, .val (.long (own_M p0 p1)), .second, .val (.double (FP.l2d (own_m p0))), .second, .val (.double (own_max p0 p1 p4)), .second, .val (.ref b1), .val (.int ((p3 &&& (2147483647 : Int32)) % (5 : Int32))), .val (.long (p2.toInt64)), .second, .unset, .unset, .unset, .unset, .unset] [])) _
      refine XS.iload X2.here hx rfl (hb hby at_109) rfl ?_
      show Steps p.tables e below (T2.setTop (mkF m 111 #[.val (.int p0), .val (.int p1), .val (.int p2), .val (.int p3), .val (.int p4), .val (.int (own_bit p4 (1 : Int32))), .val (.int (own_bit p4 (2 : Int32))), .val (.int (own_bit p4 (4 : Int32))), .val (.long (own_m p0)), .second, .val (.long (own_M p0 p1)), .second, .val (.double (FP.l2d (own_m p0))), .second, .val (.double (own_max p0 p1 p4)), .second, .val (.ref b1), .val (.int ((p3 &&& (2147483647 : Int32)) % (5 : Int32))), .val (.long (p2.toInt64)), .second, .unset, .unset, .unset, .unset, .unset] [(.int ((p3 &&& (2147483647 : Int32)) % (5 : Int32)))])) _
      refine XS.ifNo X2.here hx rfl (hb hby at_111) rfl hc111 ?_
      show Steps p.tables e below (T2.setTop (mkF m 114 #[.val (.int p0), .val (.int p1), .val (.int p2), .val (.int p3), .val (.int p4), .val (.int (own_bit p4 (1 : Int32))), .val (.int (own_bit p4 (2 : Int32))), .val (.int (own_bit p4 (4 : Int32))), .val (.long (own_m p0)), .second, .val (.long (own_M p0 p1)), .second, .val (.double (FP.l2d (own_m p0))), .second, .val (.double (own_max p0 p1 p4)), .second, .val (.ref b1), .val (.int ((p3 &&& (2147483647 : Int32)) % (5 : Int32))), .val (.long (p2.toInt64)), .second, .unset, .unset, .unset, .unset, .unset] [])) _
      refine XS.lload X2.here hx rfl (hb hby at_114) rfl ?_
      show Steps p.tables e below (T2.setTop (mkF m 116 #[.val (.int p0), .val (.int p1), .val (.int p2), .val (.int p3), .val (.int p4), .val (.int (own_bit p4 (1 : Int32))), .val (.int (own_bit p4 (2 : Int32))), .val (.int (own_bit p4 (4 : Int32))), .val (.long (own_m p0)), .second, .val (.long (own_M p0 p1)), .second, .val (.double (FP.l2d (own_m p0))), .second, .val (.double (own_max p0 p1 p4)), .second, .val (.ref b1), .val (.int ((p3 &&& (2147483647 : Int32)) % (5 : Int32))), .val (.long (p2.toInt64)), .second, .unset, .unset, .unset, .unset, .unset] [(.long (p2.toInt64))])) _
      refine XS.l2dS X2.here hx rfl (hb hby at_116) rfl rfl ?_
      show Steps p.tables e below (T2.setTop (mkF m 117 #[.val (.int p0), .val (.int p1), .val (.int p2), .val (.int p3), .val (.int p4), .val (.int (own_bit p4 (1 : Int32))), .val (.int (own_bit p4 (2 : Int32))), .val (.int (own_bit p4 (4 : Int32))), .val (.long (own_m p0)), .second, .val (.long (own_M p0 p1)), .second, .val (.double (FP.l2d (own_m p0))), .second, .val (.double (own_max p0 p1 p4)), .second, .val (.ref b1), .val (.int ((p3 &&& (2147483647 : Int32)) % (5 : Int32))), .val (.long (p2.toInt64)), .second, .unset, .unset, .unset, .unset, .unset] [(.double (FP.l2d (p2.toInt64)))])) _
      refine XS.dstore X2.here hx rfl (hb hby at_117) rfl (l' := #[.val (.int p0), .val (.int p1), .val (.int p2), .val (.int p3), .val (.int p4), .val (.int (own_bit p4 (1 : Int32))), .val (.int (own_bit p4 (2 : Int32))), .val (.int (own_bit p4 (4 : Int32))), .val (.long (own_m p0)), .second, .val (.long (own_M p0 p1)), .second, .val (.double (FP.l2d (own_m p0))), .second, .val (.double (own_max p0 p1 p4)), .second, .val (.ref b1), .val (.int ((p3 &&& (2147483647 : Int32)) % (5 : Int32))), .val (.long (p2.toInt64)), .second, .val (.double (FP.l2d (p2.toInt64))), .second, .unset, .unset, .unset]) rfl ?_
      show Steps p.tables e below (T2.setTop (mkF m 119 #[.val (.int p0), .val (.int p1), .val (.int p2), .val (.int p3), .val (.int p4), .val (.int (own_bit p4 (1 : Int32))), .val (.int (own_bit p4 (2 : Int32))), .val (.int (own_bit p4 (4 : Int32))), .val (.long (own_m p0)), .second, .val (.long (own_M p0 p1)), .second, .val (.double (FP.l2d (own_m p0))), .second, .val (.double (own_max p0 p1 p4)), .second, .val (.ref b1), .val (.int ((p3 &&& (2147483647 : Int32)) % (5 : Int32))), .val (.long (p2.toInt64)), .second, .val (.double (FP.l2d (p2.toInt64))), .second, .unset, .unset, .unset] [])) _
      refine sg_0_119_153 X2 hx hZ hw hby hown ?_
      show Steps p.tables e below (T2.setTop (mkF m 153 #[.val (.int p0), .val (.int p1), .val (.int p2), .val (.int p3), .val (.int p4), .val (.int (own_bit p4 (1 : Int32))), .val (.int (own_bit p4 (2 : Int32))), .val (.int (own_bit p4 (4 : Int32))), .val (.long (own_m p0)), .second, .val (.long (own_M p0 p1)), .second, .val (.double (FP.l2d (own_m p0))), .second, .val (.double (own_max p0 p1 p4)), .second, .val (.ref b1), .val (.int ((p3 &&& (2147483647 : Int32)) % (5 : Int32))), .val (.long (p2.toInt64)), .second, .val (.double (FP.l2d (p2.toInt64))), .second, .unset, .unset, .unset] [(.int (own_lo (own_bit p4 (1 : Int32)) (lcmpW (p2.toInt64) (own_m p0))))])) _
      refine XS.istore X2.here hx rfl (hb hby at_153) rfl (l' := #[.val (.int p0), .val (.int p1), .val (.int p2), .val (.int p3), .val (.int p4), .val (.int (own_bit p4 (1 : Int32))), .val (.int (own_bit p4 (2 : Int32))), .val (.int (own_bit p4 (4 : Int32))), .val (.long (own_m p0)), .second, .val (.long (own_M p0 p1)), .second, .val (.double (FP.l2d (own_m p0))), .second, .val (.double (own_max p0 p1 p4)), .second, .val (.ref b1), .val (.int ((p3 &&& (2147483647 : Int32)) % (5 : Int32))), .val (.long (p2.toInt64)), .second, .val (.double (FP.l2d (p2.toInt64))), .second, .unset, .val (.int (own_lo (own_bit p4 (1 : Int32)) (lcmpW (p2.toInt64) (own_m p0)))), .unset]) rfl ?_
      show Steps p.tables e below (T2.setTop (mkF m 155 #[.val (.int p0), .val (.int p1), .val (.int p2), .val (.int p3), .val (.int p4), .val (.int (own_bit p4 (1 : Int32))), .val (.int (own_bit p4 (2 : Int32))), .val (.int (own_bit p4 (4 : Int32))), .val (.long (own_m p0)), .second, .val (.long (own_M p0 p1)), .second, .val (.double (FP.l2d (own_m p0))), .second, .val (.double (own_max p0 p1 p4)), .second, .val (.ref b1), .val (.int ((p3 &&& (2147483647 : Int32)) % (5 : Int32))), .val (.long (p2.toInt64)), .second, .val (.double (FP.l2d (p2.toInt64))), .second, .unset, .val (.int (own_lo (own_bit p4 (1 : Int32)) (lcmpW (p2.toInt64) (own_m p0)))), .unset] [])) _
      refine sg_0_155_189 X2 hx hZ hw hby hown ?_
      show Steps p.tables e below (T2.setTop (mkF m 189 #[.val (.int p0), .val (.int p1), .val (.int p2), .val (.int p3), .val (.int p4), .val (.int (own_bit p4 (1 : Int32))), .val (.int (own_bit p4 (2 : Int32))), .val (.int (own_bit p4 (4 : Int32))), .val (.long (own_m p0)), .second, .val (.long (own_M p0 p1)), .second, .val (.double (FP.l2d (own_m p0))), .second, .val (.double (own_max p0 p1 p4)), .second, .val (.ref b1), .val (.int ((p3 &&& (2147483647 : Int32)) % (5 : Int32))), .val (.long (p2.toInt64)), .second, .val (.double (FP.l2d (p2.toInt64))), .second, .unset, .val (.int (own_lo (own_bit p4 (1 : Int32)) (lcmpW (p2.toInt64) (own_m p0)))), .unset] [(.int (own_ehi (own_bit p4 (4 : Int32)) (own_bit p4 (2 : Int32)) (lcmpW (p2.toInt64) (own_M p0 p1))))])) _
      refine XS.istore X2.here hx rfl (hb hby at_189) rfl (l' := #[.val (.int p0), .val (.int p1), .val (.int p2), .val (.int p3), .val (.int p4), .val (.int (own_bit p4 (1 : Int32))), .val (.int (own_bit p4 (2 : Int32))), .val (.int (own_bit p4 (4 : Int32))), .val (.long (own_m p0)), .second, .val (.long (own_M p0 p1)), .second, .val (.double (FP.l2d (own_m p0))), .second, .val (.double (own_max p0 p1 p4)), .second, .val (.ref b1), .val (.int ((p3 &&& (2147483647 : Int32)) % (5 : Int32))), .val (.long (p2.toInt64)), .second, .val (.double (FP.l2d (p2.toInt64))), .second, .unset, .val (.int (own_lo (own_bit p4 (1 : Int32)) (lcmpW (p2.toInt64) (own_m p0)))), .val (.int (own_ehi (own_bit p4 (4 : Int32)) (own_bit p4 (2 : Int32)) (lcmpW (p2.toInt64) (own_M p0 p1))))]) rfl ?_
      show Steps p.tables e below (T2.setTop (mkF m 191 #[.val (.int p0), .val (.int p1), .val (.int p2), .val (.int p3), .val (.int p4), .val (.int (own_bit p4 (1 : Int32))), .val (.int (own_bit p4 (2 : Int32))), .val (.int (own_bit p4 (4 : Int32))), .val (.long (own_m p0)), .second, .val (.long (own_M p0 p1)), .second, .val (.double (FP.l2d (own_m p0))), .second, .val (.double (own_max p0 p1 p4)), .second, .val (.ref b1), .val (.int ((p3 &&& (2147483647 : Int32)) % (5 : Int32))), .val (.long (p2.toInt64)), .second, .val (.double (FP.l2d (p2.toInt64))), .second, .unset, .val (.int (own_lo (own_bit p4 (1 : Int32)) (lcmpW (p2.toInt64) (own_m p0)))), .val (.int (own_ehi (own_bit p4 (4 : Int32)) (own_bit p4 (2 : Int32)) (lcmpW (p2.toInt64) (own_M p0 p1))))] [])) _
      refine sg_0_191_206 X2 hx hZ hw hby hown ?_
      show Steps p.tables e below (T2.setTop (mkF m 206 #[.val (.int p0), .val (.int p1), .val (.int p2), .val (.int p3), .val (.int p4), .val (.int (own_bit p4 (1 : Int32))), .val (.int (own_bit p4 (2 : Int32))), .val (.int (own_bit p4 (4 : Int32))), .val (.long (own_m p0)), .second, .val (.long (own_M p0 p1)), .second, .val (.double (FP.l2d (own_m p0))), .second, .val (.double (own_max p0 p1 p4)), .second, .val (.ref b1), .val (.int ((p3 &&& (2147483647 : Int32)) % (5 : Int32))), .val (.long (p2.toInt64)), .second, .val (.double (FP.l2d (p2.toInt64))), .second, .unset, .val (.int (own_lo (own_bit p4 (1 : Int32)) (lcmpW (p2.toInt64) (own_m p0)))), .val (.int (own_ehi (own_bit p4 (4 : Int32)) (own_bit p4 (2 : Int32)) (lcmpW (p2.toInt64) (own_M p0 p1))))] [(.int (own_exp (own_lo (own_bit p4 (1 : Int32)) (lcmpW (p2.toInt64) (own_m p0))) (own_ehi (own_bit p4 (4 : Int32)) (own_bit p4 (2 : Int32)) (lcmpW (p2.toInt64) (own_M p0 p1)))))])) _
      refine XS.istore X2.here hx rfl (hb hby at_206) rfl (l' := #[.val (.int p0), .val (.int p1), .val (.int p2), .val (.int p3), .val (.int p4), .val (.int (own_bit p4 (1 : Int32))), .val (.int (own_bit p4 (2 : Int32))), .val (.int (own_bit p4 (4 : Int32))), .val (.long (own_m p0)), .second, .val (.long (own_M p0 p1)), .second, .val (.double (FP.l2d (own_m p0))), .second, .val (.double (own_max p0 p1 p4)), .second, .val (.ref b1), .val (.int ((p3 &&& (2147483647 : Int32)) % (5 : Int32))), .val (.long (p2.toInt64)), .second, .val (.double (FP.l2d (p2.toInt64))), .second, .val (.int (own_exp (own_lo (own_bit p4 (1 : Int32)) (lcmpW (p2.toInt64) (own_m p0))) (own_ehi (own_bit p4 (4 : Int32)) (own_bit p4 (2 : Int32)) (lcmpW (p2.toInt64) (own_M p0 p1))))), .val (.int (own_lo (own_bit p4 (1 : Int32)) (lcmpW (p2.toInt64) (own_m p0)))), .val (.int (own_ehi (own_bit p4 (4 : Int32)) (own_bit p4 (2 : Int32)) (lcmpW (p2.toInt64) (own_M p0 p1))))]) rfl ?_
      show Steps p.tables e below (T2.setTop (mkF m 208 #[.val (.int p0), .val (.int p1), .val (.int p2), .val (.int p3), .val (.int p4), .val (.int (own_bit p4 (1 : Int32))), .val (.int (own_bit p4 (2 : Int32))), .val (.int (own_bit p4 (4 : Int32))), .val (.long (own_m p0)), .second, .val (.long (own_M p0 p1)), .second, .val (.double (FP.l2d (own_m p0))), .second, .val (.double (own_max p0 p1 p4)), .second, .val (.ref b1), .val (.int ((p3 &&& (2147483647 : Int32)) % (5 : Int32))), .val (.long (p2.toInt64)), .second, .val (.double (FP.l2d (p2.toInt64))), .second, .val (.int (own_exp (own_lo (own_bit p4 (1 : Int32)) (lcmpW (p2.toInt64) (own_m p0))) (own_ehi (own_bit p4 (4 : Int32)) (own_bit p4 (2 : Int32)) (lcmpW (p2.toInt64) (own_M p0 p1))))), .val (.int (own_lo (own_bit p4 (1 : Int32)) (lcmpW (p2.toInt64) (own_m p0)))), .val (.int (own_ehi (own_bit p4 (4 : Int32)) (own_bit p4 (2 : Int32)) (lcmpW (p2.toInt64) (own_M p0 p1))))] [])) _
      refine XS.goto X2.here hx rfl (pc0 := 208) (pc' := 405) rfl (hb hby at_208) (by decide) (by decide) ?_
      show Steps p.tables e below (T2.setTop (mkF m 405 #[.val (.int p0), .val (.int p1), .val (.int p2), .val (.int p3), .val (.int p4), .val (.int (own_bit p4 (1 : Int32))), .val (.int (own_bit p4 (2 : Int32))), .val (.int (own_bit p4 (4 : Int32))), .val (.long (own_m p0)), .second, .val (.long (own_M p0 p1)), .second, .val (.double (FP.l2d (own_m p0))), .second, .val (.double (own_max p0 p1 p4)), .second, .val (.ref b1), .val (.int ((p3 &&& (2147483647 : Int32)) % (5 : Int32))), .val (.long (p2.toInt64)), .second, .val (.double (FP.l2d (p2.toInt64))), .second, .val (.int (own_exp (own_lo (own_bit p4 (1 : Int32)) (lcmpW (p2.toInt64) (own_m p0))) (own_ehi (own_bit p4 (4 : Int32)) (own_bit p4 (2 : Int32)) (lcmpW (p2.toInt64) (own_M p0 p1))))), .val (.int (own_lo (own_bit p4 (1 : Int32)) (lcmpW (p2.toInt64) (own_m p0)))), .val (.int (own_ehi (own_bit p4 (4 : Int32)) (own_bit p4 (2 : Int32)) (lcmpW (p2.toInt64) (own_M p0 p1))))] [])) _
      refine XS.aload X2.here hx rfl (hb hby at_405) rfl rfl ?_
      show Steps p.tables e below (T2.setTop (mkF m 407 #[.val (.int p0), .val (.int p1), .val (.int p2), .val (.int p3), .val (.int p4), .val (.int (own_bit p4 (1 : Int32))), .val (.int (own_bit p4 (2 : Int32))), .val (.int (own_bit p4 (4 : Int32))), .val (.long (own_m p0)), .second, .val (.long (own_M p0 p1)), .second, .val (.double (FP.l2d (own_m p0))), .second, .val (.double (own_max p0 p1 p4)), .second, .val (.ref b1), .val (.int ((p3 &&& (2147483647 : Int32)) % (5 : Int32))), .val (.long (p2.toInt64)), .second, .val (.double (FP.l2d (p2.toInt64))), .second, .val (.int (own_exp (own_lo (own_bit p4 (1 : Int32)) (lcmpW (p2.toInt64) (own_m p0))) (own_ehi (own_bit p4 (4 : Int32)) (own_bit p4 (2 : Int32)) (lcmpW (p2.toInt64) (own_M p0 p1))))), .val (.int (own_lo (own_bit p4 (1 : Int32)) (lcmpW (p2.toInt64) (own_m p0)))), .val (.int (own_ehi (own_bit p4 (4 : Int32)) (own_bit p4 (2 : Int32)) (lcmpW (p2.toInt64) (own_M p0 p1))))] [(.ref b1)])) _
      refine XS.dload X2.here hx rfl (hb hby at_407) rfl ?_
      show Steps p.tables e below (T2.setTop (mkF m 409 #[.val (.int p0), .val (.int p1), .val (.int p2), .val (.int p3), .val (.int p4), .val (.int (own_bit p4 (1 : Int32))), .val (.int (own_bit p4 (2 : Int32))), .val (.int (own_bit p4 (4 : Int32))), .val (.long (own_m p0)), .second, .val (.long (own_M p0 p1)), .second, .val (.double (FP.l2d (own_m p0))), .second, .val (.double (own_max p0 p1 p4)), .second, .val (.ref b1), .val (.int ((p3 &&& (2147483647 : Int32)) % (5 : Int32))), .val (.long (p2.toInt64)), .second, .val (.double (FP.l2d (p2.toInt64))), .second, .val (.int (own_exp (own_lo (own_bit p4 (1 : Int32)) (lcmpW (p2.toInt64) (own_m p0))) (own_ehi (own_bit p4 (4 : Int32)) (own_bit p4 (2 : Int32)) (lcmpW (p2.toInt64) (own_M p0 p1))))), .val (.int (own_lo (own_bit p4 (1 : Int32)) (lcmpW (p2.toInt64) (own_m p0)))), .val (.int (own_ehi (own_bit p4 (4 : Int32)) (own_bit p4 (2 : Int32)) (lcmpW (p2.toInt64) (own_M p0 p1))))] [(.double (FP.l2d (p2.toInt64))), (.ref b1)])) _
      refine st7.trans ?_
      show Steps p.tables e below (T7.setTop (mkF m 412 #[.val (.int p0), .val (.int p1), .val (.int p2), .val (.int p3), .val (.int p4), .val (.int (own_bit p4 (1 : Int32))), .val (.int (own_bit p4 (2 : Int32))), .val (.int (own_bit p4 (4 : Int32))), .val (.long (own_m p0)), .second, .val (.long (own_M p0 p1)), .second, .val (.double (FP.l2d (own_m p0))), .second, .val (.double (own_max p0 p1 p4)), .second, .val (.ref b1), .val (.int ((p3 &&& (2147483647 : Int32)) % (5 : Int32))), .val (.long (p2.toInt64)), .second, .val (.double (FP.l2d (p2.toInt64))), .second, .val (.int (own_exp (own_lo (own_bit p4 (1 : Int32)) (lcmpW (p2.toInt64) (own_m p0))) (own_ehi (own_bit p4 (4 : Int32)) (own_bit p4 (2 : Int32)) (lcmpW (p2.toInt64) (own_M p0 p1))))), .val (.int (own_lo (own_bit p4 (1 : Int32)) (lcmpW (p2.toInt64) (own_m p0)))), .val (.int (own_ehi (own_bit p4 (4 : Int32)) (own_bit p4 (2 : Int32)) (lcmpW (p2.toInt64) (own_M p0 p1))))] [(.int (own_cont (FP.l2d (own_m p0)) (nar .boolean (own_bit p4 (1 : Int32))) (own_max p0 p1 p4) (nar .boolean (own_bit p4 (2 : Int32))) (FP.l2d (p2.toInt64))))])) _
      refine XS.iload X7.here hx rfl (hb hby at_412) rfl ?_
      show Steps p.tables e below (T7.setTop (mkF m 414 #[.val (.int p0), .val (.int p1), .val (.int p2), .val (.int p3), .val (.int p4), .val (.int (own_bit p4 (1 : Int32))), .val (.int (own_bit p4 (2 : Int32))), .val (.int (own_bit p4 (4 : Int32))), .val (.long (own_m p0)), .second, .val (.long (own_M p0 p1)), .second, .val (.double (FP.l2d (own_m p0))), .second, .val (.double (own_max p0 p1 p4)), .second, .val (.ref b1), .val (.int ((p3 &&& (2147483647 : Int32)) % (5 : Int32))), .val (.long (p2.toInt64)), .second, .val (.double (FP.l2d (p2.toInt64))), .second, .val (.int (own_exp (own_lo (own_bit p4 (1 : Int32)) (lcmpW (p2.toInt64) (own_m p0))) (own_ehi (own_bit p4 (4 : Int32)) (own_bit p4 (2 : Int32)) (lcmpW (p2.toInt64) (own_M p0 p1))))), .val (.int (own_lo (own_bit p4 (1 : Int32)) (lcmpW (p2.toInt64) (own_m p0)))), .val (.int (own_ehi (own_bit p4 (4 : Int32)) (own_bit p4 (2 : Int32)) (lcmpW (p2.toInt64) (own_M p0 p1))))] [(.int (own_exp (own_lo (own_bit p4 (1 : Int32)) (lcmpW (p2.toInt64) (own_m p0))) (own_ehi (own_bit p4 (4 : Int32)) (own_bit p4 (2 : Int32)) (lcmpW (p2.toInt64) (own_M p0 p1))))), (.int (own_cont (FP.l2d (own_m p0)) (nar .boolean (own_bit p4 (1 : Int32))) (own_max p0 p1 p4) (nar .boolean (own_bit p4 (2 : Int32))) (FP.l2d (p2.toInt64))))])) _
      refine XS.icmpNo X7.here hx rfl (hb hby at_414) rfl (own_law0 p0 p1 p4 p2) ?_
      show Steps p.tables e below (T7.setTop (mkF m 417 #[.val (.int p0), .val (.int p1), .val (.int p2), .val (.int p3), .val (.int p4), .val (.int (own_bit p4 (1 : Int32))), .val (.int (own_bit p4 (2 : Int32))), .val (.int (own_bit p4 (4 : Int32))), .val (.long (own_m p0)), .second, .val (.long (own_M p0 p1)), .second, .val (.double (FP.l2d (own_m p0))), .second, .val (.double (own_max p0 p1 p4)), .second, .val (.ref b1), .val (.int ((p3 &&& (2147483647 : Int32)) % (5 : Int32))), .val (.long (p2.toInt64)), .second, .val (.double (FP.l2d (p2.toInt64))), .second, .val (.int (own_exp (own_lo (own_bit p4 (1 : Int32)) (lcmpW (p2.toInt64) (own_m p0))) (own_ehi (own_bit p4 (4 : Int32)) (own_bit p4 (2 : Int32)) (lcmpW (p2.toInt64) (own_M p0 p1))))), .val (.int (own_lo (own_bit p4 (1 : Int32)) (lcmpW (p2.toInt64) (own_m p0)))), .val (.int (own_ehi (own_bit p4 (4 : Int32)) (own_bit p4 (2 : Int32)) (lcmpW (p2.toInt64) (own_M p0 p1))))] [])) _
      refine XS.iconst X7.here hx rfl (hb hby at_417) ?_
      show Steps p.tables e below (T7.setTop (mkF m 418 #[.val (.int p0), .val (.int p1), .val (.int p2), .val (.int p3), .val (.int p4), .val (.int (own_bit p4 (1 : Int32))), .val (.int (own_bit p4 (2 : Int32))), .val (.int (own_bit p4 (4 : Int32))), .val (.long (own_m p0)), .second, .val (.long (own_M p0 p1)), .second, .val (.double (FP.l2d (own_m p0))), .second, .val (.double (own_max p0 p1 p4)), .second, .val (.ref b1), .val (.int ((p3 &&& (2147483647 : Int32)) % (5 : Int32))), .val (.long (p2.toInt64)), .second, .val (.double (FP.l2d (p2.toInt64))), .second, .val (.int (own_exp (own_lo (own_bit p4 (1 : Int32)) (lcmpW (p2.toInt64) (own_m p0))) (own_ehi (own_bit p4 (4 : Int32)) (own_bit p4 (2 : Int32)) (lcmpW (p2.toInt64) (own_M p0 p1))))), .val (.int (own_lo (own_bit p4 (1 : Int32)) (lcmpW (p2.toInt64) (own_m p0)))), .val (.int (own_ehi (own_bit p4 (4 : Int32)) (own_bit p4 (2 : Int32)) (lcmpW (p2.toInt64) (own_M p0 p1))))] [(.int (1 : Int32))])) _
      refine XS.goto X7.here hx rfl (pc0 := 418) (pc' := 422) rfl (hb hby at_418) (by decide) (by decide) ?_
      show Steps p.tables e below (T7.setTop (mkF m 422 #[.val (.int p0), .val (.int p1), .val (.int p2), .val (.int p3), .val (.int p4), .val (.int (own_bit p4 (1 : Int32))), .val (.int (own_bit p4 (2 : Int32))), .val (.int (own_bit p4 (4 : Int32))), .val (.long (own_m p0)), .second, .val (.long (own_M p0 p1)), .second, .val (.double (FP.l2d (own_m p0))), .second, .val (.double (own_max p0 p1 p4)), .second, .val (.ref b1), .val (.int ((p3 &&& (2147483647 : Int32)) % (5 : Int32))), .val (.long (p2.toInt64)), .second, .val (.double (FP.l2d (p2.toInt64))), .second, .val (.int (own_exp (own_lo (own_bit p4 (1 : Int32)) (lcmpW (p2.toInt64) (own_m p0))) (own_ehi (own_bit p4 (4 : Int32)) (own_bit p4 (2 : Int32)) (lcmpW (p2.toInt64) (own_M p0 p1))))), .val (.int (own_lo (own_bit p4 (1 : Int32)) (lcmpW (p2.toInt64) (own_m p0)))), .val (.int (own_ehi (own_bit p4 (4 : Int32)) (own_bit p4 (2 : Int32)) (lcmpW (p2.toInt64) (own_M p0 p1))))] [(.int (1 : Int32))])) _
      exact retN X7 hx (t := .boolean) Bd.returns (by simp) (hb hby at_422) hr
    · show Q0 Z p0 p1 p2 p3 p4 h0 n0 _ T7.heap _
      rw [eh7]
      exact ⟨rfl, N7⟩
set_option maxRecDepth 65536 in
set_option maxHeartbeats 40000000 in
theorem comes_1 {Post : Tables → Env → Array Value → State → Outcome → State → Prop} (hpost : ∀ tb e args s v u, (limb_1_1.after args s (.returned v) u = true ∧ limb_1_2.after args s (.returned v) u = true ∧ True) → FrameEnd s (.returned v) u (Jvm.fieldLocs frame_1_writes args s ++ Jvm.arrayLocs frame_1_arrays args s ++ Jvm.staticLocs frame_1_statics s) 16 128 → Post tb e args s (.returned v) u) :
    ArmFor flags0 classFile x code maxLocals ret World_1 tables_1 room_1 Calls_1 rest_1 Pre_1 Post := by
  intro l hfl _ _ p e ha hc hk s m args below hf hA hF happ hP
  obtain ⟨hcalls, hrest, hpre⟩ := hP
  obtain ⟨-, -, -, hnamed, -, -, -, hat⟩ := (Spec.applies_iff hf).mp happ
  obtain ⟨hg, hn⟩ := and_e (Cond.before_iff.mp (show (Jvm.Cond.and given_1 narrow_1).before args s = true from hpre))
  obtain ⟨hcount, hg0⟩ := and_e hg
  obtain ⟨ha0, hg1⟩ := and_e hg0
  obtain ⟨ha1, hg2⟩ := and_e hg1
  obtain ⟨ha2, hg3⟩ := and_e hg2
  obtain ⟨ha3, hg4⟩ := and_e hg3
  have ha4 := hg4
  obtain ⟨w0, w1, w2, w3, w4, rfl⟩ : ∃ w0 w1 w2 w3 w4 : Value, args = #[w0, w1, w2, w3, w4] := by
    have hs : args.size = 5 := by simpa [Cond.value, given_1] using hcount
    obtain ⟨L⟩ := args
    match L, hs with
    | [w0, w1, w2, w3, w4], _ => exact ⟨w0, w1, w2, w3, w4, rfl⟩
  have hw := fun d (hd : d ∈ tables_1) => atoms_spec (ws := Jvm.Cond.code x code maxLocals ret :: tables_1) hat d (List.mem_cons_of_mem _ hd)
  have hfit : Fit s := fun {y c} hc i hi => by
    obtain ⟨ha, rfl⟩ := Array.getElem?_eq_some_iff.mp hc
    have q := List.all_eq_true.mp ((Array.all_eq_true_iff_forall_mem.mp hF) _ (Array.getElem_mem ha)) i (List.mem_range.mpr hi)
    simpa [Array.getElem?_eq_getElem hi] using q
  obtain ⟨i0, ei0⟩ := is_v ha0
  obtain rfl : w0 = (.int i0) := Option.some.inj ei0
  obtain ⟨i1, ei1⟩ := is_v ha1
  obtain rfl : w1 = (.int i1) := Option.some.inj ei1
  obtain ⟨i2, ei2⟩ := is_v ha2
  obtain rfl : w2 = (.int i2) := Option.some.inj ei2
  obtain ⟨i3, ei3⟩ := is_v ha3
  obtain rfl : w3 = (.int i3) := Option.some.inj ei3
  obtain ⟨i4, ei4⟩ := is_v ha4
  obtain rfl : w4 = (.int i4) := Option.some.inj ei4
  obtain ⟨n, o, h1, h2, h3, _, L, rfl, ⟨rfl, N⟩, hq⟩ := rm0 l s _ hw tables_1 i0 i1 i2 i3 i4 s.heap s.heap.size (Nat.le_refl _) p e ha hc hk s m _ below hf ((Spec.applies_iff_loose hf).mp happ).1 ⟨rfl, State.Warmed39.refl s, rfl⟩ trivial
  refine ⟨n, _, h1, h2, h3, hpost _ _ _ _ _ _ ⟨Cond.after_iff.mpr rfl, Cond.after_iff.mpr (eq_i res_at (Term.int_eval (1)) rfl), trivial⟩ ⟨hq.1, hq.2.1, (hq.2.2.sift fun y hy => Or.inr (N y hy)).mono (by decide) (by decide)⟩⟩
theorem main_1_1 : Claimed_1_1 := comes_1 fun _ _ _ _ _ _ h hF => ⟨h.1, hF⟩
theorem main_1_2 : Claimed_1_2 := comes_1 fun _ _ _ _ _ _ h hF => ⟨h.2.1, hF⟩
end Jvm.Pilot.@@N@@
namespace Jvm.Pilot.@@N@@
open Jvm Jvm.ClassFile Sem Op Lib Jvm.Free Jvm.Stand Jvm.Pilot.@@N@@.Jvm.D
/-! MADE BY PROGRAM (witnessworld.py) out of the Statement's table words and the real class files: 10 classes; the members and pool entries that the words name. The judged class is class 1, her method 1. -/
namespace start1
open Jvm.ClassFile
def u (s : String) : CpInfo := .utf8 (stringToUtf16 s)
/-- a pool by its gaps: so many unusable entries, then the entry; so many at the end -/
def gap : Nat → List CpInfo → List CpInfo
  | 0, r => r
  | n + 1, r => .unusable :: gap n r
def poolList (es : List (Nat × CpInfo)) (last : Nat) : List CpInfo := es.foldr (fun e r => gap e.1 (e.2 :: r)) (gap last [])
def pool (es : List (Nat × CpInfo)) (last : Nat) : Array CpInfo := ⟨poolList es last⟩
def fileOf (pool : Array CpInfo) (this : Nat) (attrs : Array Attribute := #[]) (ms : Array MethodInfo := #[]) (fl : Nat := 33) (sup : Nat := 0) (ifs : Array Nat := #[]) (fds : Array FieldInfo := #[]) : ClassFile where
  minorVersion := 0
  majorVersion := 65
  constantPool := pool
  accessFlags := fl
  thisClass := this
  superClass := sup
  interfaces := ifs
  fields := fds
  methods := ms
  attributes := attrs
def plain (name : String) (sup : Option ClassId) : Class where
  name := name
  kind := .ordinary
  loader := none
  accessFlags := 33
  super := sup
  interfaces := #[]
  cf := none
  fields := #[]
  methods := #[]
  instanceTypes := #[]
  staticTypes := #[]
  resolved := #[]
  callSites := []
  init := .initialized
  statics := none
  mirror := none

def pool0 : Array CpInfo := pool [(5, u "<init>"), (0, u "()V"), (1, .class_ 10), (1, u "java/lang/Object")] 113

def k0c0 : Code := { maxStack := 0, maxLocals := 1, code := object_method_1_code, exceptionTable := #[], attributes := #[] }
def k0m0 : Method := { name := "<init>", desc := "()V", sig := { parameters := [], returnType := none }, accessFlags := 1, code := some k0c0 }
/-- java/lang/Object -/
def k0 : Class := { plain "java/lang/Object" none with
  accessFlags := 33
  interfaces := #[]
  cf := some (fileOf pool0 8 #[] #[{ accessFlags := 1, nameIndex := 5, descriptorIndex := 6, attributes := #[] }] 33 0 #[] #[])
  fields := #[]
  methods := #[k0m0]
  instanceTypes := #[]
  staticTypes := #[]
  resolved := Array.replicate 124 none
  statics := none }

def pool1 : Array CpInfo := pool [(2, .class_ 4), (1, u "java/lang/Object"), (0, u "<init>"), (0, u "()V"), (0, .integer 1073741823), (2, .double 9218868437227405312), (1, .class_ 13), (0, u "com/example/mynegai/mynegai/command/DecimalRange"), (0, .methodref 12 15), (0, .nameAndType 5 16), (0, u "(DZDZ)V"), (0, .integer 2147483647), (0, .double 4602678819172646912), (1, .double 18442240474082181120), (1, .double 9223372036854775808), (1, .methodref 12 25), (0, .nameAndType 26 27), (0, u "contains"), (0, u "(D)Z"), (0, .class_ 29), (0, u "com/example/mynegai/mynegai/command/DecimalRangeContainsPinLaw"), (2, u "law"), (0, u "(IIIII)Z")] 3

def k1m0 : Method := { name := "<init>", desc := "()V", sig := { parameters := [], returnType := none }, accessFlags := 2, code := none }
def k1c1 : Code := { maxStack := 8, maxLocals := 25, code := code, exceptionTable := #[], attributes := #[] }
def k1m1 : Method := { name := "law", desc := "(IIIII)Z", sig := { parameters := [.int, .int, .int, .int, .int], returnType := some .boolean }, accessFlags := 9, code := some k1c1 }
/-- com/example/mynegai/mynegai/command/DecimalRangeContainsPinLaw -/
def k1 : Class := { plain "com/example/mynegai/mynegai/command/DecimalRangeContainsPinLaw" (some 0) with
  accessFlags := 49
  interfaces := #[]
  cf := some (fileOf pool1 28 #[] #[{ accessFlags := 2, nameIndex := 5, descriptorIndex := 6, attributes := #[] }, { accessFlags := 9, nameIndex := 32, descriptorIndex := 33, attributes := #[] }] 49 2 #[] #[])
  fields := #[]
  methods := #[k1m0, k1m1]
  instanceTypes := #[]
  staticTypes := #[]
  resolved := Array.replicate 37 none
  statics := none }

def pool2 : Array CpInfo := pool [(1, .methodref 2 3), (0, .class_ 4), (0, .nameAndType 5 6), (0, u "java/lang/Object"), (0, u "<init>"), (0, u "()V"), (0, .class_ 8), (0, u "java/lang/Record")] 13

def k2c0 : Code := { maxStack := 1, maxLocals := 1, code := jdk_30_method_1_code, exceptionTable := #[], attributes := #[] }
def k2m0 : Method := { name := "<init>", desc := "()V", sig := { parameters := [], returnType := none }, accessFlags := 4, code := some k2c0 }
/-- java/lang/Record -/
def k2 : Class := { plain "java/lang/Record" (some 0) with
  accessFlags := 1057
  interfaces := #[]
  cf := some (fileOf pool2 7 #[] #[{ accessFlags := 4, nameIndex := 5, descriptorIndex := 6, attributes := #[] }] 1057 2 #[] #[])
  fields := #[]
  methods := #[k2m0]
  instanceTypes := #[]
  staticTypes := #[]
  resolved := Array.replicate 22 none
  statics := none }

def pool3 : Array CpInfo := pool [(1, .methodref 2 3), (0, .class_ 4), (0, .nameAndType 5 6), (0, u "java/lang/Record"), (0, u "<init>"), (0, u "()V"), (2, .double 9218868437227405312), (10, .fieldref 21 22), (0, .class_ 23), (0, .nameAndType 24 25), (0, u "com/example/mynegai/mynegai/command/DecimalRange"), (0, u "min"), (0, u "D"), (0, .fieldref 21 27), (0, .nameAndType 28 29), (0, u "minIncluded"), (0, u "Z"), (0, .fieldref 21 31), (0, .nameAndType 32 25), (0, u "max"), (0, .fieldref 21 34), (0, .nameAndType 35 29), (0, u "maxIncluded"), (2, u "(DZDZ)V"), (55, u "contains"), (0, u "(D)Z")] 44

def k3c0 : Code := { maxStack := 6, maxLocals := 7, code := prog_1_method_1_code, exceptionTable := #[], attributes := #[] }
def k3m0 : Method := { name := "<init>", desc := "(DZDZ)V", sig := { parameters := [.double, .boolean, .double, .boolean], returnType := none }, accessFlags := 0, code := some k3c0 }
def k3c1 : Code := { maxStack := 4, maxLocals := 5, code := prog_1_method_6_code, exceptionTable := #[], attributes := #[] }
def k3m1 : Method := { name := "contains", desc := "(D)Z", sig := { parameters := [.double], returnType := some .boolean }, accessFlags := 0, code := some k3c1 }
/-- com/example/mynegai/mynegai/command/DecimalRange -/
def k3 : Class := { plain "com/example/mynegai/mynegai/command/DecimalRange" (some 2) with
  accessFlags := 48
  interfaces := #[]
  cf := some (fileOf pool3 21 #[] #[{ accessFlags := 0, nameIndex := 5, descriptorIndex := 38, attributes := #[] }, { accessFlags := 0, nameIndex := 94, descriptorIndex := 95, attributes := #[] }] 48 2 #[] #[{ accessFlags := 18, nameIndex := 24, descriptorIndex := 25, attributes := #[] }, { accessFlags := 18, nameIndex := 28, descriptorIndex := 29, attributes := #[] }, { accessFlags := 18, nameIndex := 32, descriptorIndex := 25, attributes := #[] }, { accessFlags := 18, nameIndex := 35, descriptorIndex := 29, attributes := #[] }])
  fields := #[{ name := "min", type := .double, accessFlags := 18, slot := 0, constantValue := 0 }, { name := "minIncluded", type := .boolean, accessFlags := 18, slot := 1, constantValue := 0 }, { name := "max", type := .double, accessFlags := 18, slot := 2, constantValue := 0 }, { name := "maxIncluded", type := .boolean, accessFlags := 18, slot := 3, constantValue := 0 }]
  methods := #[k3m0, k3m1]
  instanceTypes := #[.double, .boolean, .double, .boolean]
  staticTypes := #[]
  resolved := Array.replicate 140 none
  statics := none }

def pool4 : Array CpInfo := pool [(1, u "java/lang/Cloneable"), (0, .class_ 1), (0, u "java/lang/Object"), (0, .class_ 3)] 3

/-- java/lang/Cloneable -/
def k4 : Class := { plain "java/lang/Cloneable" (some 0) with
  accessFlags := 1537
  interfaces := #[]
  cf := some (fileOf pool4 2 #[] #[] 1537 4 #[] #[])
  fields := #[]
  methods := #[]
  instanceTypes := #[]
  staticTypes := #[]
  resolved := Array.replicate 8 none
  statics := none }

def pool5 : Array CpInfo := pool [(1, u "java/io/Serializable"), (0, .class_ 1), (0, u "java/lang/Object"), (0, .class_ 3)] 3

/-- java/io/Serializable -/
def k5 : Class := { plain "java/io/Serializable" (some 0) with
  accessFlags := 1537
  interfaces := #[]
  cf := some (fileOf pool5 2 #[] #[] 1537 4 #[] #[])
  fields := #[]
  methods := #[]
  instanceTypes := #[]
  staticTypes := #[]
  resolved := Array.replicate 8 none
  statics := none }

/-- the primitive byte -/
def k6 : Class := { plain "byte" none with kind := .primitive 'B', accessFlags := 0x411 }
/-- [B -/
def k7 : Class := { plain "[B" (some 0) with kind := .array 6 .byte, interfaces := #[4, 5], accessFlags := 1041 }

/-- the primitive int -/
def k8 : Class := { plain "int" none with kind := .primitive 'I', accessFlags := 0x411 }
/-- [I -/
def k9 : Class := { plain "[I" (some 0) with kind := .array 8 .int, interfaces := #[4, 5], accessFlags := 1041 }

def heap : Heap := #[]
def classes : Array Class := #[k0, k1, k2, k3, k4, k5, k6, k7, k8, k9]
def interned : List (Array UInt16 × Addr) := []
def slotsUsed : Nat := 0
def theMethod : MethodId := ⟨1, 1⟩
def args0 : Array Value := #[.int 5, .int 6, .int 7, .int 8, .int 9]
def aboutOver (below : List Frame) : State where
  vm := { classes := classes, interned := interned.toArray }
  heap := heap
  slotsUsed := slotsUsed
  threads := #[{ frames := .invoking theMethod args0 :: below }]
def below0 : List Frame := [.native { method := ⟨0, 0⟩, args := #[] }]
def about1 : State := aboutOver below0
def p0 : Program := .bare "" "" ""
def e0 : Env := launch0.env 0 0 0
theorem w_frames : about1.frames = Frame.invoking theMethod args0 :: below0 := rfl
set_option maxRecDepth 65536 in
theorem w_args : argsFit about1.vm theMethod args0 = true := by decide +kernel
set_option maxRecDepth 65536 in
theorem w_heap : heapFits about1 = true := by decide +kernel
set_option maxRecDepth 65536 in
theorem w_runnable : about1.curStatus? = some .runnable := by decide +kernel
set_option maxRecDepth 65536 in
theorem w_alone : about1.alone = true := by decide +kernel
set_option maxRecDepth 65536 in
theorem w_named : about1.methodNamed? x = some theMethod := by decide +kernel
set_option maxRecDepth 65536 in
theorem w_hears : about1.hears theMethod below0 = true := by decide +kernel
set_option maxRecDepth 65536 in
theorem w_ripe : about1.ripe theMethod args0 below0 = true := by decide +kernel
theorem w_running : about1.status = .running := rfl
set_option maxRecDepth 65536 in
theorem w_room : about1.hasRoom e0.platform room_1 = true :=
  launch0.hasRoom_least _ room_1 (by decide +kernel) (by decide +kernel) (by decide +kernel) (by decide +kernel) (by decide +kernel) (by decide +kernel)
theorem allAtoms_all (ts : List Jvm.Cond) (a : Array Jvm.Value) (st : Jvm.State) : (allAtoms ts).before a st = ts.all (fun c => c.before a st) := by
  induction ts with
  | nil => rfl
  | cons c t ih =>
    show (Jvm.Cond.and c (allAtoms t)).before a st = _
    rw [Jvm.Cond.before_and, ih, List.all_cons]
def words1 : List Jvm.Cond := Jvm.Cond.code x code maxLocals ret :: tables_1
/-- a 'code' word, met by the world's own term for the bytes: nothing is compared byte by byte -/
theorem code_word {y : MethodName} {bytes : ByteArray} {mx : Nat} {rt : Option FieldType} {a : Array Value} {s : State} {m : MethodId} {meth : Method} {c : Code} (h1 : s.methodNamed? y = some m) (h2 : s.vm.method? m = some meth) (h3 : meth.code = some c) (h4 : c.code = bytes)
    (h5 : (c.maxLocals == mx && c.exceptionTable.isEmpty && decide (c.maxStack ≤ mostOperands) && decide (meth.sig.returnType = rt) && !meth.locks && decide (parseMethodDescriptor y.desc = some meth.sig)) = true) : (Jvm.Cond.code y bytes mx rt).before a s = true := by
  simp only [Bool.and_eq_true, beq_iff_eq, Bool.not_eq_true', decide_eq_true_eq] at h5
  obtain ⟨⟨⟨⟨⟨g1, g2⟩, g3⟩, g4⟩, g5⟩, g6⟩ := h5
  simp [Cond.before, Cond.holds, Cond.value, h1, h2, h3, h4, g1, g2, g3, g4, g5, g6]
def isCode : Jvm.Cond → Bool
  | .code _ _ _ _ => true
  | _ => false
theorem all_split {L : List Jvm.Cond} {P : Jvm.Cond → Bool} (h1 : L.all (fun c => isCode c || P c) = true) (h2 : ∀ c ∈ L.filter isCode, P c = true) : L.all P = true := by
  refine List.all_eq_true.mpr fun c hc => ?_
  have h := List.all_eq_true.mp h1 c hc
  rcases Bool.eq_false_or_eq_true (isCode c) with hi | hi
  · exact h2 c (List.mem_filter.mpr ⟨hc, hi⟩)
  · simpa [hi] using h
set_option maxRecDepth 65536 in
theorem w_c0 : (Jvm.Cond.code x code maxLocals ret).before args0 about1 = true := code_word (m := ⟨1, 1⟩) (meth := k1m1) (c := k1c1) (by decide +kernel) rfl rfl rfl (by decide +kernel)
set_option maxRecDepth 65536 in
theorem w_c1 : (Jvm.Cond.code ({ cls := "com/example/mynegai/mynegai/command/DecimalRange", name := "<init>", desc := "(DZDZ)V" } : Jvm.MethodName) prog_1_method_1_code (7 : Nat) (Option.none : Option Jvm.ClassFile.FieldType)).before args0 about1 = true := code_word (m := ⟨3, 0⟩) (meth := k3m0) (c := k3c0) (by decide +kernel) rfl rfl rfl (by decide +kernel)
set_option maxRecDepth 65536 in
theorem w_c2 : (Jvm.Cond.code ({ cls := "java/lang/Record", name := "<init>", desc := "()V" } : Jvm.MethodName) jdk_30_method_1_code (1 : Nat) (Option.none : Option Jvm.ClassFile.FieldType)).before args0 about1 = true := code_word (m := ⟨2, 0⟩) (meth := k2m0) (c := k2c0) (by decide +kernel) rfl rfl rfl (by decide +kernel)
set_option maxRecDepth 65536 in
theorem w_c3 : (Jvm.Cond.code ({ cls := "java/lang/Object", name := "<init>", desc := "()V" } : Jvm.MethodName) object_method_1_code (1 : Nat) (Option.none : Option Jvm.ClassFile.FieldType)).before args0 about1 = true := code_word (m := ⟨0, 0⟩) (meth := k0m0) (c := k0c0) (by decide +kernel) rfl rfl rfl (by decide +kernel)
set_option maxRecDepth 65536 in
theorem w_c4 : (Jvm.Cond.code ({ cls := "com/example/mynegai/mynegai/command/DecimalRange", name := "contains", desc := "(D)Z" } : Jvm.MethodName) prog_1_method_6_code (5 : Nat) (Option.some Jvm.ClassFile.FieldType.boolean)).before args0 about1 = true := code_word (m := ⟨3, 1⟩) (meth := k3m1) (c := k3c1) (by decide +kernel) rfl rfl rfl (by decide +kernel)
def codes1 : List Jvm.Cond := [Jvm.Cond.code x code maxLocals ret, Jvm.Cond.code ({ cls := "com/example/mynegai/mynegai/command/DecimalRange", name := "<init>", desc := "(DZDZ)V" } : Jvm.MethodName) prog_1_method_1_code (7 : Nat) (Option.none : Option Jvm.ClassFile.FieldType), Jvm.Cond.code ({ cls := "java/lang/Record", name := "<init>", desc := "()V" } : Jvm.MethodName) jdk_30_method_1_code (1 : Nat) (Option.none : Option Jvm.ClassFile.FieldType), Jvm.Cond.code ({ cls := "java/lang/Object", name := "<init>", desc := "()V" } : Jvm.MethodName) object_method_1_code (1 : Nat) (Option.none : Option Jvm.ClassFile.FieldType), Jvm.Cond.code ({ cls := "com/example/mynegai/mynegai/command/DecimalRange", name := "contains", desc := "(D)Z" } : Jvm.MethodName) prog_1_method_6_code (5 : Nat) (Option.some Jvm.ClassFile.FieldType.boolean)]
set_option maxRecDepth 65536 in
theorem codes_eq : words1.filter isCode = codes1 := rfl
theorem w_codes : ∀ c ∈ words1.filter isCode, c.before args0 about1 = true := by
  rw [codes_eq]
  intro c hc
  simp only [codes1, List.mem_cons, List.not_mem_nil, or_false] at hc
  rcases hc with rfl | rfl | rfl | rfl | rfl
  · exact w_c0
  · exact w_c1
  · exact w_c2
  · exact w_c3
  · exact w_c4
set_option maxRecDepth 65536 in
theorem w_t1 : (words1.take 24).all (fun c => isCode c || c.before args0 about1) = true := by decide +kernel
set_option maxRecDepth 65536 in
theorem w_t2 : (words1.drop 24).all (fun c => isCode c || c.before args0 about1) = true := by decide +kernel
theorem w_tables : (allAtoms (Jvm.Cond.code x code maxLocals ret :: tables_1)).before args0 about1 = true := by
  rw [allAtoms_all]
  show words1.all (fun c => c.before args0 about1) = true
  refine all_split ?_ w_codes
  rw [← List.take_append_drop 24 words1, List.all_append, w_t1, w_t2]
  rfl
set_option maxRecDepth 65536 in
theorem w_case : (Jvm.Cond.and given_1 narrow_1).before args0 about1 = true := by decide +kernel
theorem w_applies : (headSpec (Jvm.Cond.code x code maxLocals ret :: tables_1) room_1).applies x e0.platform about1 = true :=
  (Spec.applies_iff w_frames).mpr ⟨w_running, w_runnable, w_alone, w_named, w_hears, w_ripe, w_room, w_tables⟩
theorem atStart : AtStart classFile x code maxLocals ret World_1 tables_1 room_1 Calls_1 rest_1 Pre_1 launch0 p0 e0 about1 theMethod args0 below0 :=
  ⟨lists_1, trivial, launch0.admits_env _ _ _, launch0.least_env, fairChoices_fair.cas, fairChoices_fair.clock, w_frames, w_args, w_heap, w_applies, trivial, trivial, w_case⟩
end start1
theorem witness_1 : WitnessClaimed_1 := ⟨start1.p0, start1.e0, start1.about1, start1.theMethod, start1.args0, start1.below0, start1.atStart⟩
end Jvm.Pilot.@@N@@
