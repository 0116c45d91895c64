import JvmDerived
import JvmDerived.Pilot.@@N@@Statement
import JvmDerived.Pilot.@@N@@Code
set_option linter.unusedVariables false
set_option linter.unusedSimpArgs false
@@BLOCK:NumsL.lean.txt@@
namespace Jvm.RoadKit
open Sem ClassFile Op Lib Jvm.Stand Jvm.Free Jvm.LawKit
section New
variable {p : Program} {l : Launch} {e : Env} {R : Room} {s : State} {m : MethodId} {args : Array Value} {below : List Frame} {meth : Method} {c : Code} {T : State} {locs : List Loc} {cells slots : Nat}
theorem retI (X : Stand p l e R s m args below meth c T locs cells slots) (hx : p.tables.exec = Jvm.exec) {pc : Nat} {Ls : Array Slot} {z : Int32} {rest : List Value} (hret : meth.sig.returnType = some .int) (hd : decode c.code pc = .ok (.ireturn, 1)) {fs : List Frame}
    (hl : ∀ (f : JFrame) (acts : List Action), f.method = m → f.locked = none → f.entered = [] → (doReturn e (T.setTop f) acts (some (.int z))).1 = T.setFrames fs) : Steps p.tables e below (T.setTop (mkF m pc Ls (.int z :: rest))) (T.setFrames fs) := by
  have hm' : T.vm.method? m = some meth := X.method'
  have hn : narrow .int (.int z) = .int z := rfl
  show Steps p.tables e below (T.setTop { method := m, pc := pc, locals := Ls, stack := _ :: rest, locked := none }) _
  jvm_step X.here [X.here.top, hx, hd, hm', hret, hn]
  first | (intro acts; rw [hl _ acts rfl rfl rfl]) | rw [hl _ _ rfl rfl rfl]
  exact Steps.refl _
end New
end Jvm.RoadKit

namespace Jvm.Pilot.@@N@@
section Dy
open Jvm.FP Jvm.FP.Core
def own_Dy (k : Nat) (i : Int) : Datum → Prop
  | .fin s c q => Whole i (.fin s c (q + (k : Int)))
  | _ => False
theorem own_dy_order {k : Nat} {i j : Int} {x y : Datum} (hx : own_Dy k i x) (hy : own_Dy k j y) : order x y = some (compare i j) := by
  cases x with
  | nan => exact hx.elim
  | inf => exact hx.elim
  | fin s c q =>
    cases y with
    | nan => exact hy.elim
    | inf => exact hy.elim
    | fin t d r =>
      have h := order_whole (x := .fin s c (q + (k : Int))) (y := .fin t d (r + (k : Int))) hx hy
      rw [← h]
      have e1 : min (q + (k : Int)) (r + (k : Int)) = min q r + (k : Int) := by omega
      show some (compare (signed s (inUnits c q (min q r))) (signed t (inUnits d r (min q r)))) = some (compare (signed s (inUnits c (q + (k : Int)) (min (q + (k : Int)) (r + (k : Int))))) (signed t (inUnits d (r + (k : Int)) (min (q + (k : Int)) (r + (k : Int))))))
      unfold inUnits
      rw [e1, show q + (k : Int) - (min q r + (k : Int)) = q - min q r by omega, show r + (k : Int) - (min q r + (k : Int)) = r - min q r by omega]
theorem own_shift {c c' n : Nat} {Q q : Int} (h1 : c * 2 ^ Q.toNat = n * 2 ^ (-Q).toNat) (h2 : c' * 2 ^ q.toNat = n * 2 ^ (-q).toNat) : c * 2 ^ (Q - q).toNat = c' * 2 ^ (q - Q).toNat := by
  obtain ⟨mm, e1, e2⟩ : ∃ mm, Q.toNat + (-q).toNat = (Q - q).toNat + mm ∧ q.toNat + (-Q).toNat = (q - Q).toNat + mm := ⟨min (Q.toNat + (-q).toNat) (q.toNat + (-Q).toNat), by omega, by omega⟩
  have h3 : c * 2 ^ (Q.toNat + (-q).toNat) = c' * 2 ^ (q.toNat + (-Q).toNat) := by
    rw [Nat.pow_add, Nat.pow_add, ← Nat.mul_assoc, ← Nat.mul_assoc, h1, h2, Nat.mul_right_comm]
  rw [e1, e2, Nat.pow_add, Nat.pow_add, ← Nat.mul_assoc, ← Nat.mul_assoc] at h3
  exact Nat.eq_of_mul_eq_mul_right (Nat.two_pow_pos _) h3
theorem own_dy_round {k : Nat} {i : Int} {d : Datum} (hk : k ≤ 900) (hi : i.natAbs ≤ 2 ^ 53) (h : own_Dy k i d) : own_Dy k i (round b64 d) := by
  cases d with
  | nan => exact h.elim
  | inf => exact h.elim
  | fin s c q =>
    have hW : Whole i (.fin s c (q + (k : Int))) := h
    by_cases h0 : i = 0
    · have hc : c = 0 := (whole_zero hW).mpr h0
      subst h0 hc
      show own_Dy k 0 (.fin s 0 b64.qmin)
      show signed s (0 * 2 ^ (b64.qmin + (k : Int)).toNat) = 0 * _
      rw [Nat.zero_mul, Int.zero_mul]
      exact signed_zero s
    · have hR := whole_round good_b64 wide_b64 hi hW
      have hF := round_fits good_b64 (.fin s c (q + (k : Int)))
      have hS : sgn (round b64 (.fin s c (q + (k : Int)))) = s := sgn_roundRatio b64 s c 1 (q + (k : Int))
      cases hr : round b64 (.fin s c (q + (k : Int))) with
      | nan => rw [hr] at hR; exact hR.elim
      | inf => rw [hr] at hR; exact hR.elim
      | fin s' c' q' =>
        rw [hr] at hR hF hS
        have hs : s' = s := hS
        subst hs
        have n1 := whole_natAbs hW
        have n2 := whole_natAbs hR
        obtain ⟨f1, f2, f3, f4⟩ := hF
        have hp : b64.p = 53 := rfl
        have hm : b64.qmin = -1074 := qmin_b64
        have hM : b64.qmax = 971 := by decide
        have hn : 1 ≤ i.natAbs := by omega
        have hq : -53 < q' := by
          refine Int.lt_of_not_ge fun hge => ?_
          have z : q'.toNat = 0 := by omega
          rw [z, Nat.pow_zero, Nat.mul_one] at n2
          have : 2 ^ 53 ≤ 2 ^ (-q').toNat := Nat.pow_le_pow_right (by decide) (by omega)
          have : 1 * 2 ^ (-q').toNat ≤ i.natAbs * 2 ^ (-q').toNat := Nat.mul_le_mul_right _ hn
          rw [hp] at f1
          omega
        have hfit : Jvm.FP.Core.fits b64 (.fin s' c' (q' - (k : Int))) := ⟨f1, by omega, by omega, by omega⟩
        have he : round b64 (.fin s' c q) = .fin s' c' (q' - (k : Int)) := by
          refine roundRatio_exact good_b64 (by decide) hfit ?_
          have := own_shift n1 n2
          rw [show q - (q' - (k : Int)) = q + (k : Int) - q' by omega, show q' - (k : Int) - q = q' - (q + (k : Int)) by omega, Nat.mul_one]
          exact this
        rw [he]
        show Whole i (.fin s' c' (q' - (k : Int) + (k : Int)))
        rw [show q' - (k : Int) + (k : Int) = q' by omega]
        exact hR
theorem own_dy_sum {k : Nat} {i j : Int} {x y : Datum} (hx : own_Dy k i x) (hy : own_Dy k j y) : own_Dy k (i + j) (exactSum x y) := by
  cases x with
  | nan => exact hx.elim
  | inf => exact hx.elim
  | fin s c q =>
    cases y with
    | nan => exact hy.elim
    | inf => exact hy.elim
    | fin t d r =>
      have e1 : min (q + (k : Int)) (r + (k : Int)) = min q r + (k : Int) := by omega
      have e : sumUnits s c (q + (k : Int)) t d (r + (k : Int)) (min (q + (k : Int)) (r + (k : Int))) = sumUnits s c q t d r (min q r) := by
        unfold sumUnits inUnits
        rw [e1, show q + (k : Int) - (min q r + (k : Int)) = q - min q r by omega, show r + (k : Int) - (min q r + (k : Int)) = r - min q r by omega]
      have h : Whole (i + j) (.fin (sumSign s t (sumUnits s c (q + (k : Int)) t d (r + (k : Int)) (min (q + (k : Int)) (r + (k : Int))))) (sumUnits s c (q + (k : Int)) t d (r + (k : Int)) (min (q + (k : Int)) (r + (k : Int)))).natAbs (min (q + (k : Int)) (r + (k : Int)))) := whole_sum (x := .fin s c (q + (k : Int))) (y := .fin t d (r + (k : Int))) hx hy
      rw [e, e1] at h
      exact h
theorem own_dadd {k : Nat} {i j : Int} {a b : UInt64} (hk : k ≤ 900) (ha : own_Dy k i (val64 a)) (hb : own_Dy k j (val64 b)) (h : (i + j).natAbs ≤ 2 ^ 53) : own_Dy k (i + j) (val64 (FP.dadd a b)) := by
  show own_Dy k (i + j) (val64 (Core.dadd a b))
  rw [val64_dadd]
  exact own_dy_round hk h (own_dy_sum ha hb)
theorem own_dy_int {k : Nat} {i : Int} {x : Datum} (h : Whole i x) : own_Dy k (i * ((2 ^ k : Nat) : Int)) x := by
  cases x with
  | nan => exact h.elim
  | inf => exact h.elim
  | fin s c q =>
    show signed s (c * 2 ^ (q + (k : Int)).toNat) = i * ((2 ^ k : Nat) : Int) * ((2 ^ (-(q + (k : Int))).toNat : Nat) : Int)
    have h1 : signed s (c * 2 ^ q.toNat) = i * ((2 ^ (-q).toNat : Nat) : Int) := h
    have e : q.toNat + k + (-(q + (k : Int))).toNat = (q + (k : Int)).toNat + (-q).toNat + (k - k) := by omega
    have p : ((2 ^ (-q).toNat : Nat) : Int) ≠ 0 := by have := Nat.two_pow_pos (-q).toNat; omega
    refine Int.eq_of_mul_eq_mul_right p ?_
    rw [← signed_mul, Nat.mul_assoc, ← Nat.pow_add, show (q + (k : Int)).toNat + (-q).toNat = q.toNat + (k + (-(q + (k : Int))).toNat) by omega, Nat.pow_add, ← Nat.mul_assoc, signed_mul, h1, Nat.pow_add, Int.natCast_mul]
    simp only [Int.mul_assoc, Int.mul_comm, Int.mul_left_comm]
theorem own_ddiv {i : Int} {x : UInt64} (hx : DInt i x) (hi : i.natAbs ≤ 2 ^ 53) : own_Dy 20 i (val64 (FP.ddiv x 4697254411347427328)) := by
  show own_Dy 20 i (val64 (Core.ddiv x 4697254411347427328))
  rw [val64_ddiv, show val64 4697254411347427328 = .fin false (2 ^ 52) (-32) by decide +kernel]
  unfold DInt at hx
  cases hv : val64 x with
  | nan => rw [hv] at hx; exact hx.elim
  | inf => rw [hv] at hx; exact hx.elim
  | fin s c q =>
    rw [hv] at hx
    have e : quotient b64 (.fin s c q) (.fin false (2 ^ 52) (-32)) = round b64 (.fin s c (q - 20)) := by
      show (if (2 ^ 52 : Nat) = 0 then (if c = 0 then Datum.nan else Datum.inf (s != false)) else roundRatio b64 (s != false) c (2 ^ 52) (q - (-32))) = roundRatio b64 s c 1 (q - 20)
      rw [if_neg (by decide), show (s != false) = s by cases s <;> rfl]
      refine roundRatio_congr (by decide) (by decide) ?_
      rw [show (q - (-32) - (q - 20)).toNat = 52 by omega, show (q - 20 - (q - (-32))).toNat = 0 by omega]
      simp
    rw [e]
    refine own_dy_round (by decide) hi ?_
    show Whole i (.fin s c (q - 20 + ((20 : Nat) : Int)))
    rw [show q - 20 + ((20 : Nat) : Int) = q by omega]
    exact hx
theorem own_dcmp {k : Nat} {i j : Int} {a b : UInt64} (ha : own_Dy k i (val64 a)) (hb : own_Dy k j (val64 b)) : FP.dcmp a b = some (compare i j) := own_dy_order ha hb
theorem own_cmp3 (i j : Int) : (i < j ∧ compare i j = .lt) ∨ (i = j ∧ compare i j = .eq) ∨ (j < i ∧ compare i j = .gt) := by
  simp only [compare, compareOfLessAndEq]
  by_cases h1 : i < j
  · left; simp [h1]
  · by_cases h2 : i = j
    · right; left; simp [h2]
    · right; right; exact ⟨by omega, by rw [if_neg h1, if_neg h2]⟩
end Dy
end Jvm.Pilot.@@N@@

namespace Jvm.Pilot.@@N@@
section Quot
open Jvm.FP Jvm.FP.Core
theorem own_quot {i j : Int} {x y : UInt64} (hx : DInt i x) (hy : DInt j y) (hi : 0 < i) (hj : 0 < j) : val64 (FP.ddiv x y) = roundRatio b64 false i.toNat j.toNat 0 := by
  show val64 (Core.ddiv x y) = _
  rw [val64_ddiv]
  unfold DInt at hx hy
  cases hvx : val64 x with
  | nan => rw [hvx] at hx; exact hx.elim
  | inf => rw [hvx] at hx; exact hx.elim
  | fin s c q =>
    cases hvy : val64 y with
    | nan => rw [hvy] at hy; exact hy.elim
    | inf => rw [hvy] at hy; exact hy.elim
    | fin t d r =>
      rw [hvx] at hx
      rw [hvy] at hy
      have hs : s = false := by rw [whole_sign hx (by omega)]; exact decide_eq_false (by omega)
      have ht : t = false := by rw [whole_sign hy (by omega)]; exact decide_eq_false (by omega)
      have hd : d ≠ 0 := fun h => by have := (whole_zero hy).mp h; omega
      subst hs ht
      show (if d = 0 then (if c = 0 then Datum.nan else Datum.inf (false != false)) else roundRatio b64 (false != false) c d (q - r)) = _
      rw [if_neg hd]
      refine roundRatio_congr (by omega) (by omega) ?_
      have n1 := whole_natAbs hx
      have n2 := whole_natAbs hy
      have a1 : i.natAbs = i.toNat := by omega
      have a2 : j.natAbs = j.toNat := by omega
      rw [a1] at n1
      rw [a2] at n2
      generalize i.toNat = I at n1
      generalize j.toNat = J at n2
      obtain ⟨mm, e1, e2⟩ : ∃ mm, q.toNat + (-r).toNat = (q - r - 0).toNat + mm ∧ r.toNat + (-q).toNat = (0 - (q - r)).toNat + mm := ⟨min (q.toNat + (-r).toNat) (r.toNat + (-q).toNat), by omega, by omega⟩
      have h3 : c * J * 2 ^ (q.toNat + (-r).toNat) = I * d * 2 ^ (r.toNat + (-q).toNat) := by
        have l : c * J * 2 ^ (q.toNat + (-r).toNat) = (c * 2 ^ q.toNat) * (J * 2 ^ (-r).toNat) := by rw [Nat.pow_add]; ac_rfl
        have r' : I * d * 2 ^ (r.toNat + (-q).toNat) = (I * 2 ^ (-q).toNat) * (d * 2 ^ r.toNat) := by rw [Nat.pow_add]; ac_rfl
        rw [l, r', n1, n2]
      rw [e1, e2, Nat.pow_add, Nat.pow_add, ← Nat.mul_assoc, ← Nat.mul_assoc] at h3
      exact Nat.eq_of_mul_eq_mul_right (Nat.two_pow_pos _) h3
theorem own_lvl {k : Nat} (hk : k < 2 ^ 53) : ∃ V : Datum, Jvm.FP.Core.fits b64 V ∧ V ≠ .nan ∧ zmag b64 V = k * 2 ^ 1038 := by
  obtain ⟨c', q', h1, h2⟩ := round_exact good_b64 false (c := k) (q := -36) hk (by decide) (by decide)
  refine ⟨round b64 (.fin false k (-36)), round_fits good_b64 _, by rw [h1]; exact Datum.noConfusion, ?_⟩
  rw [h1]
  show inUnits c' q' b64.qmin = _
  rw [h2]
  unfold inUnits
  rw [qmin_b64]
  rfl
theorem own_rle {A B k : Nat} (hB : 0 < B) (hk : k < 2 ^ 53) (h : A * 2 ^ 36 ≤ k * B) : zmag b64 (roundRatio b64 false A B 0) ≤ k * 2 ^ 1038 := by
  obtain ⟨V, f, n, z⟩ := own_lvl hk
  rw [← z]
  refine zmag_roundRatio_le good_b64 (e0 := b64.qmin) hB f n (Int.le_refl _) (by decide) ?_
  rw [z, Int.sub_self, Int.toNat_zero, Nat.pow_zero, Nat.mul_one]
  unfold inUnits
  rw [qmin_b64, show ((0 : Int) - -1074).toNat = 36 + 1038 by decide, Nat.pow_add, ← Nat.mul_assoc, Nat.mul_right_comm k]
  exact Nat.mul_le_mul_right _ h
theorem own_rge {A B k : Nat} (hB : 0 < B) (hk : k < 2 ^ 53) (h : k * B ≤ A * 2 ^ 36) : k * 2 ^ 1038 ≤ zmag b64 (roundRatio b64 false A B 0) := by
  obtain ⟨V, f, n, z⟩ := own_lvl hk
  rw [← z]
  refine zmag_roundRatio_ge good_b64 (e0 := b64.qmin) hB f (Int.le_refl _) (by decide) ?_
  rw [z, Int.sub_self, Int.toNat_zero, Nat.pow_zero, Nat.mul_one]
  unfold inUnits
  rw [qmin_b64, show ((0 : Int) - -1074).toNat = 36 + 1038 by decide, Nat.pow_add, ← Nat.mul_assoc, Nat.mul_right_comm k]
  exact Nat.mul_le_mul_right _ h
theorem own_rlt {A B C D : Nat} (hA : A < B) (hB : B ≤ 131072) (hD0 : 0 < D) (hD : D ≤ 131072) (hC : C < D) (h : A * D < C * B) : zmag b64 (roundRatio b64 false A B 0) < zmag b64 (roundRatio b64 false C D 0) := by
  have hB0 : 0 < B := by omega
  have hk1 : A * 2 ^ 36 ≤ (A * 2 ^ 36 / B + 1) * B := by
    have h1 := Nat.div_add_mod (A * 2 ^ 36) B
    have h2 := Nat.mod_lt (A * 2 ^ 36) hB0
    rw [Nat.add_mul, Nat.mul_comm (A * 2 ^ 36 / B) B, Nat.one_mul]
    omega
  have hk2 : A * 2 ^ 36 / B * B ≤ A * 2 ^ 36 := Nat.div_mul_le_self _ _
  have hk3 : A * 2 ^ 36 / B ≤ 2 ^ 36 := Nat.div_le_of_le_mul (by rw [Nat.mul_comm B]; rw [Nat.mul_comm A]; exact Nat.mul_le_mul_left _ (Nat.le_of_lt hA))
  generalize A * 2 ^ 36 / B = k at *
  have h1 := own_rle (k := k + 1) hB0 (by omega) hk1
  have hge : (k + 2) * D ≤ C * 2 ^ 36 := by
    refine Nat.le_of_mul_le_mul_right ?_ hB0
    have e1 : (k + 2) * D * B = k * B * D + 2 * (B * D) := by rw [Nat.add_mul, Nat.add_mul]; ac_rfl
    have e2 : k * B * D ≤ A * 2 ^ 36 * D := Nat.mul_le_mul_right _ hk2
    have e3 : A * 2 ^ 36 * D = A * D * 2 ^ 36 := by ac_rfl
    have e4 : (A * D + 1) * 2 ^ 36 ≤ C * B * 2 ^ 36 := Nat.mul_le_mul_right _ h
    have e5 : C * 2 ^ 36 * B = C * B * 2 ^ 36 := by ac_rfl
    have e6 : B * D ≤ 131072 * 131072 := Nat.mul_le_mul hB hD
    rw [Nat.add_mul] at e4
    omega
  have h2 := own_rge (k := k + 2) hD0 (by omega) hge
  have h3 : (k + 1) * 2 ^ 1038 < (k + 2) * 2 ^ 1038 := Nat.mul_lt_mul_of_pos_right (by omega) (Nat.two_pow_pos _)
  omega
theorem own_rcmp {A B C D : Nat} (hA : A < B) (hB : B ≤ 131072) (hC : C < D) (hD : D ≤ 131072) : order (roundRatio b64 false A B 0) (roundRatio b64 false C D 0) = some (compare ((A * D : Nat) : Int) ((C * B : Nat) : Int)) := by
  rw [order_zval good_b64 (roundRatio_fits good_b64 _ _ (by omega) _) (roundRatio_fits good_b64 _ _ (by omega) _) (roundRatio_ne_nan _ _ _ _ _) (roundRatio_ne_nan _ _ _ _ _)]
  unfold zval
  rw [sgn_roundRatio, sgn_roundRatio]
  show some (compare ((zmag b64 (roundRatio b64 false A B 0) : Nat) : Int) ((zmag b64 (roundRatio b64 false C D 0) : Nat) : Int)) = _
  rcases Nat.lt_trichotomy (A * D) (C * B) with h | h | h
  · have := own_rlt hA hB (by omega) hD hC h
    refine congrArg some (compare_congr ⟨fun _ => by omega, fun _ => by omega⟩ ⟨fun _ => by omega, fun _ => by omega⟩)
  · have e : roundRatio b64 false A B 0 = roundRatio b64 false C D 0 := by
      refine roundRatio_congr (by omega) (by omega) ?_
      simpa using h
    rw [e]
    refine congrArg some (compare_congr ⟨fun _ => by omega, fun _ => by omega⟩ ⟨fun _ => by omega, fun _ => by rfl⟩)
  · have := own_rlt hC hD (by omega) hB hA h
    refine congrArg some (compare_congr ⟨fun _ => by omega, fun _ => by omega⟩ ⟨fun _ => by omega, fun _ => by omega⟩)
theorem own_rpos {A B : Nat} (h0 : 0 < A) (hA : A < B) (hB : B ≤ 131072) : order (.fin false 0 (-1074)) (roundRatio b64 false A B 0) = some .lt := by
  have h1 := own_rge (A := A) (B := B) (k := 2 ^ 19) (by omega) (by decide) (by omega)
  have h2 : 0 < 2 ^ 19 * 2 ^ 1038 := Nat.mul_pos (by decide) (Nat.two_pow_pos _)
  rw [order_zval good_b64 (show Jvm.FP.Core.fits b64 (.fin false 0 (-1074)) from qmin_b64 ▸ zero_fits good_b64 false) (roundRatio_fits good_b64 _ _ (by omega) _) (by exact Datum.noConfusion) (roundRatio_ne_nan _ _ _ _ _)]
  unfold zval
  rw [sgn_roundRatio]
  have e : zmag b64 (.fin false 0 (-1074)) = 0 := by show 0 * 2 ^ ((-1074 : Int) - b64.qmin).toNat = 0; rw [Nat.zero_mul]
  show some (compare ((zmag b64 (.fin false 0 (-1074)) : Nat) : Int) ((zmag b64 (roundRatio b64 false A B 0) : Nat) : Int)) = _
  rw [e]
  refine congrArg some ?_
  simp only [compare, compareOfLessAndEq]
  rw [if_pos (by omega)]
theorem own_rone {A B : Nat} (hA : A < B) (hB : B ≤ 131072) : order (roundRatio b64 false A B 0) (.fin false (2 ^ 52) (-52)) = some .lt := by
  have h1 := own_rle (A := A) (B := B) (k := 2 ^ 36 - 2 ^ 19) (by omega) (by decide) (by omega)
  have h2 : (2 ^ 36 - 2 ^ 19) * 2 ^ 1038 < 2 ^ 36 * 2 ^ 1038 := Nat.mul_lt_mul_of_pos_right (by decide) (Nat.two_pow_pos _)
  rw [order_zval good_b64 (roundRatio_fits good_b64 _ _ (by omega) _) (show Jvm.FP.Core.fits b64 (.fin false (2 ^ 52) (-52)) from ⟨by decide, by decide, by decide, by decide⟩) (roundRatio_ne_nan _ _ _ _ _) (by exact Datum.noConfusion)]
  unfold zval
  rw [sgn_roundRatio]
  have e : zmag b64 (.fin false (2 ^ 52) (-52)) = 2 ^ 36 * 2 ^ 1038 := by
    show 2 ^ 52 * 2 ^ ((-52 : Int) - b64.qmin).toNat = _
    rw [qmin_b64, show ((-52 : Int) - -1074).toNat = 1022 by decide, ← Nat.pow_add, ← Nat.pow_add]
  show some (compare ((zmag b64 (roundRatio b64 false A B 0) : Nat) : Int) ((zmag b64 (.fin false (2 ^ 52) (-52)) : Nat) : Int)) = _
  rw [e]
  refine congrArg some ?_
  simp only [compare, compareOfLessAndEq]
  rw [if_pos (by omega)]
theorem own_rhalf {A : Nat} (hA : 0 < A) : roundRatio b64 false A (A + A) 0 = .fin false (2 ^ 52) (-53) := by
  refine roundRatio_exact good_b64 (by omega) ⟨by decide, by decide, by decide, by decide⟩ ?_
  rw [show ((0 : Int) - -53).toNat = 53 by decide, show ((-53 : Int) - 0).toNat = 0 by decide, Nat.pow_zero, Nat.mul_one]
  omega
end Quot
end Jvm.Pilot.@@N@@
namespace Jvm.Pilot.@@N@@
open Jvm Jvm.ClassFile Sem Op Lib Jvm.Free Jvm.Stand Jvm.LawKit Jvm.RoadKit Bundle Jvm.Pilot.@@N@@.Jvm.D

theorem own_wS {Z : State} {a0 : Array Value} (hw : ∀ d ∈ tables_1, d.before a0 Z = true) : ∀ a ∈ Bundle.stringAtoms, a.before a0 Z = true := fun d hd => by
  simp only [Bundle.stringAtoms, List.mem_cons, List.not_mem_nil, or_false] at hd
  rcases hd with rfl | rfl | rfl | rfl | rfl | rfl | rfl
  all_goals first | exact (hw _ (List.mem_of_getElem? (i := 16) rfl)) | exact (hw _ (List.mem_of_getElem? (i := 17) rfl)) | exact (hw _ (List.mem_of_getElem? (i := 18) rfl)) | exact (hw _ (List.mem_of_getElem? (i := 19) rfl)) | exact (hw _ (List.mem_of_getElem? (i := 20) rfl)) | exact (hw _ (List.mem_of_getElem? (i := 21) rfl)) | exact (hw _ (List.mem_of_getElem? (i := 22) rfl))
def own_a (p : Int32) : Int32 := ((p &&& (65535 : Int32)) + (1 : Int32))
def own_t (a b : Int32) : UInt64 := FP.ddiv (FP.i2d a) (FP.dadd (FP.i2d a) (FP.i2d b))
def own_l (a d : Int32) : Int64 := (a.toInt64 * d.toInt64)
theorem own_a_int (p : Int32) : (own_a p).toInt = p.toInt % 65536 + 1 := by
  have h := Jvm.Kit.i32_mask p 65535 (k := 16) (by decide) (by decide)
  have h1 : (p &&& (65535 : Int32)).toInt = p.toInt % 65536 := by rw [h]; rfl
  have h2 : (1 : Int32).toInt = 1 := by decide
  unfold own_a
  rw [Jvm.Kit.i32_add (by omega) (by omega), h1, h2]
theorem own_a_b (p : Int32) : 1 ≤ (own_a p).toInt ∧ (own_a p).toInt ≤ 65536 := by have := own_a_int p; omega
theorem own_sum {a b : Int32} (ha : 1 ≤ a.toInt ∧ a.toInt ≤ 65536) (hb : 1 ≤ b.toInt ∧ b.toInt ≤ 65536) : FP.Core.DInt (a.toInt + b.toInt) (FP.dadd (FP.i2d a) (FP.i2d b)) := FP.Core.dadd_int (FP.Core.i2d_int a) (FP.Core.i2d_int b) (by omega)
theorem own_tval {a b : Int32} (ha : 1 ≤ a.toInt ∧ a.toInt ≤ 65536) (hb : 1 ≤ b.toInt ∧ b.toInt ≤ 65536) : FP.Core.val64 (own_t a b) = FP.Core.roundRatio FP.Core.b64 false a.toInt.toNat (a.toInt + b.toInt).toNat 0 := own_quot (FP.Core.i2d_int a) (own_sum ha hb) (by omega) (by omega)
theorem own_tcmp {a b c d : Int32} (ha : 1 ≤ a.toInt ∧ a.toInt ≤ 65536) (hb : 1 ≤ b.toInt ∧ b.toInt ≤ 65536) (hc : 1 ≤ c.toInt ∧ c.toInt ≤ 65536) (hd : 1 ≤ d.toInt ∧ d.toInt ≤ 65536) : FP.dcmp (own_t a b) (own_t c d) = some (compare (a.toInt * d.toInt) (c.toInt * b.toInt)) := by
  show FP.Core.order (FP.Core.val64 (own_t a b)) (FP.Core.val64 (own_t c d)) = _
  rw [own_tval ha hb, own_tval hc hd, own_rcmp (by omega) (by omega) (by omega) (by omega)]
  refine congrArg some (FP.Core.compare_congr ?_ ?_)
  all_goals
    rw [Int.natCast_mul, Int.natCast_mul, Int.toNat_of_nonneg (by omega), Int.toNat_of_nonneg (by omega), Int.toNat_of_nonneg (by omega), Int.toNat_of_nonneg (by omega), Int.mul_add, Int.mul_add, Int.mul_comm a.toInt c.toInt]
    omega
theorem own_l_int {a d : Int32} (ha : 1 ≤ a.toInt ∧ a.toInt ≤ 65536) (hd : 1 ≤ d.toInt ∧ d.toInt ≤ 65536) : (own_l a d).toInt = a.toInt * d.toInt := by
  have h1 : a.toInt * d.toInt ≤ 65536 * 65536 := Int.mul_le_mul ha.2 hd.2 (by omega) (by omega)
  have h2 : 0 ≤ a.toInt * d.toInt := Int.mul_nonneg (by omega) (by omega)
  unfold own_l
  rw [Jvm.Kit.i64_mul (by rw [Int32.toInt_toInt64, Int32.toInt_toInt64]; omega) (by rw [Int32.toInt_toInt64, Int32.toInt_toInt64]; omega), Int32.toInt_toInt64, Int32.toInt_toInt64]
theorem own_cv (a b : Int64) (o : CmpOp) : cmpValue (some (compare a.toInt b.toInt)) o = lcmpW a b := by
  have e1 : (a > b) ↔ b.toInt < a.toInt := Int64.lt_iff_toInt_lt
  have e2 : (a = b) ↔ a.toInt = b.toInt := Int64.toInt_inj.symm
  unfold lcmpW
  rcases own_cmp3 a.toInt b.toInt with ⟨h1, h2⟩ | ⟨h1, h2⟩ | ⟨h1, h2⟩
  · rw [h2, if_neg (fun q => by have := e1.mp q; omega), if_neg (fun q => by have := e2.mp q; omega)]; cases o <;> rfl
  · rw [h2, if_neg (fun q => by have := e1.mp q; omega), if_pos (e2.mpr h1)]; cases o <;> rfl
  · rw [h2, if_pos (e1.mpr h1)]; cases o <;> rfl
theorem own_tl (p0 p1 p2 p3 : Int32) (o : CmpOp) : cmpValue (FP.dcmp (own_t (own_a p0) (own_a p1)) (own_t (own_a p2) (own_a p3))) o = lcmpW (own_l (own_a p0) (own_a p3)) (own_l (own_a p2) (own_a p1)) := by
  rw [own_tcmp (own_a_b p0) (own_a_b p1) (own_a_b p2) (own_a_b p3), ← own_l_int (own_a_b p0) (own_a_b p3), ← own_l_int (own_a_b p2) (own_a_b p1), own_cv]
theorem own_tpos (p q : Int32) : ifCond.holds .ge (cmpValue (FP.dcmp (0 : UInt64) (own_t (own_a p) (own_a q))) .g) = false := by
  have ha := own_a_b p
  have hb := own_a_b q
  have e : FP.dcmp (0 : UInt64) (own_t (own_a p) (own_a q)) = some .lt := by
    show FP.Core.order (FP.Core.val64 (0 : UInt64)) (FP.Core.val64 (own_t (own_a p) (own_a q))) = _
    rw [own_tval ha hb, show FP.Core.val64 (0 : UInt64) = .fin false 0 (-1074) by decide +kernel]
    exact own_rpos (by omega) (by omega) (by omega)
  rw [e]; decide
theorem own_tone (p q : Int32) : ifCond.holds .ge (cmpValue (FP.dcmp (own_t (own_a p) (own_a q)) (4607182418800017408 : UInt64)) .g) = false := by
  have ha := own_a_b p
  have hb := own_a_b q
  have e : FP.dcmp (own_t (own_a p) (own_a q)) (4607182418800017408 : UInt64) = some .lt := by
    show FP.Core.order (FP.Core.val64 (own_t (own_a p) (own_a q))) (FP.Core.val64 (4607182418800017408 : UInt64)) = _
    rw [own_tval ha hb, show FP.Core.val64 (4607182418800017408 : UInt64) = .fin false (2 ^ 52) (-52) by decide +kernel]
    exact own_rone (by omega) (by omega)
  rw [e]; decide
theorem own_thalf (p : Int32) : ifCond.holds .ne (cmpValue (FP.dcmp (own_t (own_a p) (own_a p)) (4602678819172646912 : UInt64)) .l) = false := by
  have ha := own_a_b p
  have e : FP.dcmp (own_t (own_a p) (own_a p)) (4602678819172646912 : UInt64) = some .eq := by
    show FP.Core.order (FP.Core.val64 (own_t (own_a p) (own_a p))) (FP.Core.val64 (4602678819172646912 : UInt64)) = _
    rw [own_tval ha ha, show ((own_a p).toInt + (own_a p).toInt).toNat = (own_a p).toInt.toNat + (own_a p).toInt.toNat by omega, own_rhalf (by omega), show FP.Core.val64 (4602678819172646912 : UInt64) = .fin false (2 ^ 52) (-53) by decide +kernel]
    exact FP.Core.order_self (by exact FP.Core.Datum.noConfusion)
  rw [e]; decide
theorem own_o (x : Int32) (b : Bool) : if_icmp.holds .ne (bif b then (0 : Int32) else (1 : Int32)) (bif b then (0 : Int32) else (1 : Int32)) = false := by cases b <;> decide
theorem own_abs (p : Int32) : ((FP.i2d (own_a p)) &&& (9223372036854775807 : UInt64)) = FP.i2d (own_a p) := by
  have h := own_a_b p
  rw [i2d_w]
  exact abs_w (by rw [Int64.lt_iff_toInt_lt, Int32.toInt_toInt64, Int64.toInt_zero]; omega)
theorem own_isf (p : Int32) : ifCond.holds .gt (cmpValue (FP.dcmp ((FP.i2d (own_a p)) &&& (9223372036854775807 : UInt64)) (9218868437227405311 : UInt64)) .g) = false := by
  have h := own_a_b p
  have hM : FP.Core.DInt ((2 ^ 53 - 1) * 2 ^ 971) (9218868437227405311 : UInt64) := by
    unfold FP.Core.DInt
    rw [show FP.Core.val64 (9218868437227405311 : UInt64) = .fin false (2 ^ 53 - 1) 971 by decide +kernel]
    show FP.Core.signed _ _ = _
    decide +kernel
  rw [own_abs, show FP.dcmp (FP.i2d (own_a p)) (9218868437227405311 : UInt64) = _ from FP.Core.dcmp_int (FP.Core.i2d_int _) hM]
  have hb : (65536 : Int) < (2 ^ 53 - 1) * 2 ^ 971 := by decide +kernel
  generalize ((2 ^ 53 - 1) * 2 ^ 971 : Int) = M at hb
  rcases own_cmp3 (own_a p).toInt M with ⟨h1, h2⟩ | ⟨h1, h2⟩ | ⟨h1, h2⟩
  · rw [h2]; decide
  · omega
  · omega
theorem own_gt0 (p : Int32) : ifCond.holds .gt (cmpValue (FP.dcmp (FP.i2d (own_a p)) (0 : UInt64)) .g) = true := by
  have h := own_a_b p
  have h0 : FP.Core.DInt 0 (0 : UInt64) := by
    unfold FP.Core.DInt
    rw [show FP.Core.val64 (0 : UInt64) = .fin false 0 (-1074) by decide +kernel]
    show FP.Core.signed _ _ = _
    decide +kernel
  rw [show FP.dcmp (FP.i2d (own_a p)) (0 : UInt64) = _ from FP.Core.dcmp_int (FP.Core.i2d_int _) h0]
  rcases own_cmp3 (own_a p).toInt 0 with ⟨h1, h2⟩ | ⟨h1, h2⟩ | ⟨h1, h2⟩
  · omega
  · omega
  · rw [h2]; decide
theorem own_nan {i : Int} {x : UInt64} (h : FP.Core.DInt i x) : Fl.NoNaN64 x := Fl.val64_no.mpr (fun q => by unfold FP.Core.DInt at h; rw [q] at h; exact h)
theorem own_nn1 (p q : Int32) : Fl.NoNaN64 (FP.dadd (FP.i2d (own_a p)) (FP.i2d (own_a q))) := own_nan (own_sum (own_a_b p) (own_a_b q))
theorem own_nn2 (p q : Int32) : Fl.NoNaN64 (FP.ddiv (FP.i2d (own_a p)) (FP.dadd (FP.i2d (own_a p)) (FP.i2d (own_a q)))) := Fl.val64_no.mpr (by
  show FP.Core.val64 (own_t (own_a p) (own_a q)) ≠ .nan
  rw [own_tval (own_a_b p) (own_a_b q)]
  exact FP.Core.roundRatio_ne_nan _ _ _ _ _)
theorem pn_0 : plainName "java/lang/Record" = true := by first | (simp [plainName, overriddenIn]; done) | decide +kernel
theorem djdk_30_method_1_code_0 : decode jdk_30_method_1_code 0 = .ok (.aload_n 0, 1) := by decide +kernel
theorem djdk_30_method_1_code_1 : decode jdk_30_method_1_code 1 = .ok (.invokespecial 1, 3) := by decide +kernel
theorem djdk_30_method_1_code_4 : decode jdk_30_method_1_code 4 = .ok (.return_, 1) := by decide +kernel
theorem ef_rec (m : MethodId) (x0 : Addr) : entryFrame m #[(.ref x0)] 1 = mkF m 0 #[.val (.ref x0)] [] := by first | (simp [entryFrame, mkF, argsToLocals, Value.category]; done) | rfl
def Qrec (Z : State) (a1 : Addr) (h0 : Heap) (n0 : Nat) (v : Option Value) (h : Heap) (L : List Loc) : Prop := v = none ∧ Fr n0 L ∧ h = h0
set_option maxRecDepth 65536 in
set_option maxHeartbeats 40000000 in
theorem rmrec (l : Launch) (Z : State) (a0 : Array Value) (hw : ∀ d ∈ tables_1, d.before a0 Z = true) (ws : List Jvm.Cond) (a1 : Addr) (h0 : Heap) (n0 : Nat) (Z0 : n0 ≤ h0.size) :
    MetFree l (⟨"java/lang/Record", "<init>", "()V"⟩ : MethodName) (head1 (Jvm.Cond.code (⟨"java/lang/Record", "<init>", "()V"⟩ : MethodName) jdk_30_method_1_code 1 none :: ws) ({ frames := 1, cells := 0, slots := 0, locals := 12 } : Room)) (fun a U => a = #[(.ref a1)] ∧ Z.Warmed39 U.vm ∧ U.heap = h0) (fun _ _ _ _ _ => True) (fun _ U o U' => ∃ v L, o = .returned v ∧ Qrec Z a1 h0 n0 v U'.heap L ∧ FrameEnd U o U' L ({ frames := 1, cells := 0, slots := 0, locals := 12 } : Room).cells ({ frames := 1, cells := 0, slots := 0, locals := 12 } : Room).slots) := by
  refine MetFree.of_bodySF (plainFor_of_name pn_0) hisR ?_
  intro p e s m args below meth c s₁ Bd hml0 hP hK
  obtain ⟨rfl, hZ, hh⟩ := hP
  have hx := Bd.exec
  have hby := Bd.bytes
  have hml : c.maxLocals = 1 := hml0
  have hown : s.vm.findClass "java/lang/Record" = some m.cls := findClass_of_methodNamed Bd.named
  have hnm := (name_of_methodNamed Bd.named Bd.method).1
  have X0 : Stand p l e ({ frames := 1, cells := 0, slots := 0, locals := 12 } : Room) s m #[(.ref a1)] below meth c s₁ [] 0 0 := Stand.of_body Bd
  have e0 : s₁.heap = h0 := by rw [← hh, Bd.state]; rfl
  have N0 := Fr.nil n0
  have pre0 : ∀ t, Steps p.tables e below (s₁.setTop (mkF m 0 #[.val (.ref a1)] [])) t → Steps p.tables e below (s₁.setTop (entryFrame m #[(.ref a1)] 1)) t := fun t k => castTop (ef_rec m a1) k
  obtain ⟨T1, X1, e1, st1⟩ := initO X0 hx hZ hown (hw _ (List.mem_of_getElem? (i := 12) rfl)) (hw _ (List.mem_of_getElem? (i := 13) rfl)) (hw _ (List.mem_of_getElem? (i := 14) rfl)) e0 (g := (mkF m 1 #[.val (.ref a1)] [(.ref a1)])) rfl (by rw [hml]; rfl) rfl (hb hby djdk_30_method_1_code_1) (by decide) (W := 0) (by show 2 * 0 + _ ≤ _; exact Nat.le_of_eq rfl) (by decide)
  obtain ⟨fs, hr, hrun, hended, hW, hsame⟩ := X1.leave (v := none) (fun _ => rfl)
  refine ⟨_, _, pre0 _ ?_, hrun, hended, _, _, rfl, ?_, ⟨_, rfl⟩, hW, hsame.mono (by decide) (by decide)⟩
  · show Steps p.tables e below (s₁.setTop (mkF m 0 #[.val (.ref a1)] [])) _
    refine XS.aloadN X0.here hx rfl (hb hby djdk_30_method_1_code_0) rfl rfl ?_
    show Steps p.tables e below (s₁.setTop (mkF m 1 #[.val (.ref a1)] [(.ref a1)])) _
    refine st1 _ ?_
    show Steps p.tables e below (T1.setTop (mkF m 4 #[.val (.ref a1)] [])) _
    exact X1.returnOut hx Bd.returns (hb hby djdk_30_method_1_code_4) hr
  · show Qrec Z a1 h0 n0 _ T1.heap _
    rw [e1]
    exact ⟨rfl, N0, rfl⟩
theorem pn_1 : plainName "java/lang/Double" = true := by first | (simp [plainName, overriddenIn]; done) | decide +kernel
theorem pd_0 : parseMethodDescriptor "(D)D" = some ⟨[.double], some .double⟩ := by decide +kernel
theorem djdk_117_method_8_code_0 : decode jdk_117_method_8_code 0 = .ok (.dload_n 0, 1) := by decide +kernel
theorem djdk_117_method_8_code_1 : decode jdk_117_method_8_code 1 = .ok (.invokestatic 38, 3) := by decide +kernel
theorem djdk_117_method_8_code_4 : decode jdk_117_method_8_code 4 = .ok (.ldc2_w 111, 3) := by decide +kernel
theorem djdk_117_method_8_code_7 : decode jdk_117_method_8_code 7 = .ok (.dcmp .g, 1) := by decide +kernel
theorem djdk_117_method_8_code_8 : decode jdk_117_method_8_code 8 = .ok (.ifCond .gt 7, 3) := by decide +kernel
theorem djdk_117_method_8_code_11 : decode jdk_117_method_8_code 11 = .ok (.iconst 1, 1) := by decide +kernel
theorem djdk_117_method_8_code_12 : decode jdk_117_method_8_code 12 = .ok (.goto 4, 3) := by decide +kernel
theorem djdk_117_method_8_code_15 : decode jdk_117_method_8_code 15 = .ok (.iconst 0, 1) := by decide +kernel
theorem djdk_117_method_8_code_16 : decode jdk_117_method_8_code 16 = .ok (.ireturn, 1) := by decide +kernel
theorem ef_isf (m : MethodId) (x0 : UInt64) : entryFrame m #[(.double x0)] 2 = mkF m 0 #[.val (.double x0), .second] [] := by first | (simp [entryFrame, mkF, argsToLocals, Value.category]; done) | rfl
def Qisf (Z : State) (px : UInt64) (h0 : Heap) (n0 : Nat) (v : Option Value) (h : Heap) (L : List Loc) : Prop := v = some (.int (1 : Int32)) ∧ Fr n0 L ∧ h = h0
set_option maxRecDepth 65536 in
set_option maxHeartbeats 40000000 in
theorem rmisf (l : Launch) (Z : State) (a0 : Array Value) (hw : ∀ d ∈ tables_1, d.before a0 Z = true) (ws : List Jvm.Cond) (px : UInt64) (h0 : Heap) (n0 : Nat) (Z0 : n0 ≤ h0.size) (hnn : Fl.NoNaN64 px) (hc8 : ifCond.holds .gt (cmpValue (FP.dcmp (px &&& (9223372036854775807 : UInt64)) (9218868437227405311 : UInt64)) .g) = false) :
    MetFree l (⟨"java/lang/Double", "isFinite", "(D)Z"⟩ : MethodName) (head1 (Jvm.Cond.code (⟨"java/lang/Double", "isFinite", "(D)Z"⟩ : MethodName) jdk_117_method_8_code 2 (some .boolean) :: ws) ({ frames := 1, cells := 0, slots := 0, locals := 13 } : Room)) (fun a U => a = #[(.double px)] ∧ Z.Warmed39 U.vm ∧ U.heap = h0) (fun _ _ _ _ _ => True) (fun _ U o U' => ∃ v L, o = .returned v ∧ Qisf Z px h0 n0 v U'.heap L ∧ FrameEnd U o U' L ({ frames := 1, cells := 0, slots := 0, locals := 13 } : Room).cells ({ frames := 1, cells := 0, slots := 0, locals := 13 } : Room).slots) := by
  refine MetFree.of_bodySF (plainFor_of_name pn_1) hisR ?_
  intro p e s m args below meth c s₁ Bd hml0 hP hK
  obtain ⟨rfl, hZ, hh⟩ := hP
  have hx := Bd.exec
  have hby := Bd.bytes
  have hml : c.maxLocals = 2 := hml0
  have hown : s.vm.findClass "java/lang/Double" = some m.cls := findClass_of_methodNamed Bd.named
  have hnm := (name_of_methodNamed Bd.named Bd.method).1
  have X0 : Stand p l e ({ frames := 1, cells := 0, slots := 0, locals := 13 } : Room) s m #[(.double px)] below meth c s₁ [] 0 0 := Stand.of_body Bd
  have e0 : s₁.heap = h0 := by rw [← hh, Bd.state]; rfl
  have N0 := Fr.nil n0
  have pre0 : ∀ t, Steps p.tables e below (s₁.setTop (mkF m 0 #[.val (.double px), .second] [])) t → Steps p.tables e below (s₁.setTop (entryFrame m #[(.double px)] 2)) t := fun t k => castTop (ef_isf m px) k
  obtain ⟨T1, X1, e1, st1⟩ := natS X0 hx hZ (y := (⟨"java/lang/Math", "abs", "(D)D"⟩ : MethodName)) hown (hw _ (List.mem_of_getElem? (i := 30) rfl)) (hw _ (List.mem_of_getElem? (i := 31) rfl)) (hw _ (List.mem_of_getElem? (i := 32) rfl)) (hw _ (List.mem_of_getElem? (i := 33) rfl)) (by decide) e0 (W := 0) (F := fun a' => a' = #[.double px] ∧ Fl.NoNaN64 px) (val := .double (px &&& (9223372036854775807 : UInt64))) (val' := .double (px &&& (9223372036854775807 : UInt64))) (fun hc => Fl.Abs.absD_pays px hc (by decide) (by decide)) (g := (mkF m 1 #[.val (.double px), .second] [(.double px)])) rfl (by rw [hml]; rfl) (argsL := [.double px]) (rest := []) (lenOf pd_0 rfl) rfl (by show 2 * 0 + _ ≤ _; exact Nat.le_of_eq rfl) (hb hby djdk_117_method_8_code_1) (by decide) (by decide) ⟨rfl, hnn⟩ rfl
  obtain ⟨fs, hr, hrun, hended, hW, hsame⟩ := X1.leave (v := some (.int (nar .boolean (1 : Int32)))) (fun h => by rw [Bd.returns] at h; cases h)
  refine ⟨_, _, pre0 _ ?_, hrun, hended, _, _, rfl, ?_, ⟨_, rfl⟩, hW, hsame.mono (by decide) (by decide)⟩
  · show Steps p.tables e below (s₁.setTop (mkF m 0 #[.val (.double px), .second] [])) _
    refine XS.dloadN X0.here hx rfl (hb hby djdk_117_method_8_code_0) rfl ?_
    show Steps p.tables e below (s₁.setTop (mkF m 1 #[.val (.double px), .second] [(.double px)])) _
    refine st1 _ ?_
    show Steps p.tables e below (T1.setTop (mkF m 4 #[.val (.double px), .second] [(.double (px &&& (9223372036854775807 : UInt64)))])) _
    refine X1.ldc2DoubleC hx hown (mvT hZ (hw _ (List.mem_of_getElem? (i := 34) rfl))) (g := (mkF m 4 #[.val (.double px), .second] [(.double (px &&& (9223372036854775807 : UInt64)))])) rfl (hb hby djdk_117_method_8_code_4) _ ?_
    show Steps p.tables e below (T1.setTop (mkF m 7 #[.val (.double px), .second] [(.double (9218868437227405311 : UInt64)), (.double (px &&& (9223372036854775807 : UInt64)))])) _
    refine XS.dcmpS X1.here hx rfl (hb hby djdk_117_method_8_code_7) rfl rfl ?_
    show Steps p.tables e below (T1.setTop (mkF m 8 #[.val (.double px), .second] [(.int (cmpValue (FP.dcmp (px &&& (9223372036854775807 : UInt64)) (9218868437227405311 : UInt64)) .g))])) _
    refine XS.ifNo X1.here hx rfl (hb hby djdk_117_method_8_code_8) rfl hc8 ?_
    show Steps p.tables e below (T1.setTop (mkF m 11 #[.val (.double px), .second] [])) _
    refine XS.iconst X1.here hx rfl (hb hby djdk_117_method_8_code_11) ?_
    show Steps p.tables e below (T1.setTop (mkF m 12 #[.val (.double px), .second] [(.int (1 : Int32))])) _
    refine XS.goto X1.here hx rfl (pc0 := 12) (pc' := 16) rfl (hb hby djdk_117_method_8_code_12) (by decide) (by decide) ?_
    show Steps p.tables e below (T1.setTop (mkF m 16 #[.val (.double px), .second] [(.int (1 : Int32))])) _
    exact retN X1 hx (t := .boolean) Bd.returns (by simp) (hb hby djdk_117_method_8_code_16) hr
  · show Qisf Z px h0 n0 _ T1.heap _
    rw [e1]
    exact ⟨rfl, N0, rfl⟩
theorem pn_2 : plainName "com/example/osiris/osiris/principles/Losses" = true := by first | (simp [plainName, overriddenIn]; done) | decide +kernel
theorem pd_1 : parseMethodDescriptor "(D)Z" = some ⟨[.double], some .boolean⟩ := by decide +kernel
theorem dprog_49_method_2_code_0 : decode prog_49_method_2_code 0 = .ok (.dload_n 0, 1) := by decide +kernel
theorem dprog_49_method_2_code_1 : decode prog_49_method_2_code 1 = .ok (.invokestatic 24, 3) := by decide +kernel
theorem dprog_49_method_2_code_4 : decode prog_49_method_2_code 4 = .ok (.ifCond .eq 9, 3) := by decide +kernel
theorem dprog_49_method_2_code_7 : decode prog_49_method_2_code 7 = .ok (.dload_n 0, 1) := by decide +kernel
theorem dprog_49_method_2_code_8 : decode prog_49_method_2_code 8 = .ok (.dconst 0, 1) := by decide +kernel
theorem dprog_49_method_2_code_9 : decode prog_49_method_2_code 9 = .ok (.dcmp .g, 1) := by decide +kernel
theorem dprog_49_method_2_code_10 : decode prog_49_method_2_code 10 = .ok (.ifCond .gt 18, 3) := by decide +kernel
theorem dprog_49_method_2_code_13 : decode prog_49_method_2_code 13 = .ok (.new 30, 3) := by decide +kernel
theorem dprog_49_method_2_code_16 : decode prog_49_method_2_code 16 = .ok (.dup, 1) := by decide +kernel
theorem dprog_49_method_2_code_17 : decode prog_49_method_2_code 17 = .ok (.dload_n 0, 1) := by decide +kernel
theorem dprog_49_method_2_code_18 : decode prog_49_method_2_code 18 = .ok (.aload_n 2, 1) := by decide +kernel
theorem dprog_49_method_2_code_24 : decode prog_49_method_2_code 24 = .ok (.invokespecial 36, 3) := by decide +kernel
theorem dprog_49_method_2_code_27 : decode prog_49_method_2_code 27 = .ok (.athrow, 1) := by decide +kernel
theorem dprog_49_method_2_code_28 : decode prog_49_method_2_code 28 = .ok (.return_, 1) := by decide +kernel
theorem ef_ck (m : MethodId) (x0 : UInt64) (x1 : Addr) : entryFrame m #[(.double x0), (.ref x1)] 3 = mkF m 0 #[.val (.double x0), .second, .val (.ref x1)] [] := by first | (simp [entryFrame, mkF, argsToLocals, Value.category]; done) | rfl
def Qck (Z : State) (px : UInt64) (as1 : Addr) (h0 : Heap) (n0 : Nat) (v : Option Value) (h : Heap) (L : List Loc) : Prop := v = none ∧ Fr n0 L ∧ h = h0
set_option maxRecDepth 65536 in
set_option maxHeartbeats 40000000 in
theorem rmck (l : Launch) (Z : State) (a0 : Array Value) (hw : ∀ d ∈ tables_1, d.before a0 Z = true) (ws : List Jvm.Cond) (px : UInt64) (as1 : Addr) (h0 : Heap) (n0 : Nat) (Z0 : n0 ≤ h0.size) (hnn : Fl.NoNaN64 px) (hc8 : ifCond.holds .gt (cmpValue (FP.dcmp (px &&& (9223372036854775807 : UInt64)) (9218868437227405311 : UInt64)) .g) = false) (hc10 : ifCond.holds .gt (cmpValue (FP.dcmp px (0 : UInt64)) .g) = true) :
    MetFree l (⟨"com/example/osiris/osiris/principles/Losses", "checkLoss", "(DLjava/lang/String;)V"⟩ : MethodName) (head1 (Jvm.Cond.code (⟨"com/example/osiris/osiris/principles/Losses", "checkLoss", "(DLjava/lang/String;)V"⟩ : MethodName) prog_49_method_2_code 3 none :: ws) ({ frames := 2, cells := 0, slots := 0, locals := 26 } : Room)) (fun a U => a = #[(.double px), (.ref as1)] ∧ Z.Warmed39 U.vm ∧ U.heap = h0) (fun _ _ _ _ _ => True) (fun _ U o U' => ∃ v L, o = .returned v ∧ Qck Z px as1 h0 n0 v U'.heap L ∧ FrameEnd U o U' L ({ frames := 2, cells := 0, slots := 0, locals := 26 } : Room).cells ({ frames := 2, cells := 0, slots := 0, locals := 26 } : Room).slots) := by
  refine MetFree.of_bodySF (plainFor_of_name pn_2) hisR ?_
  intro p e s m args below meth c s₁ Bd hml0 hP hK
  obtain ⟨rfl, hZ, hh⟩ := hP
  have hx := Bd.exec
  have hby := Bd.bytes
  have hml : c.maxLocals = 3 := hml0
  have hown : s.vm.findClass "com/example/osiris/osiris/principles/Losses" = some m.cls := findClass_of_methodNamed Bd.named
  have hnm := (name_of_methodNamed Bd.named Bd.method).1
  have X0 : Stand p l e ({ frames := 2, cells := 0, slots := 0, locals := 26 } : Room) s m #[(.double px), (.ref as1)] below meth c s₁ [] 0 0 := Stand.of_body Bd
  have e0 : s₁.heap = h0 := by rw [← hh, Bd.state]; rfl
  have N0 := Fr.nil n0
  have pre0 : ∀ t, Steps p.tables e below (s₁.setTop (mkF m 0 #[.val (.double px), .second, .val (.ref as1)] [])) t → Steps p.tables e below (s₁.setTop (entryFrame m #[(.double px), (.ref as1)] 3)) t := fun t k => castTop (ef_ck m px as1) k
  obtain ⟨_, _, ⟨T1, L1, k1, n1⟩, -, X1, ⟨Lc1, hQ1, l1, y1, z1⟩, st1⟩ := Jvm.LawKit.callS X0 hx (y := (⟨"java/lang/Double", "isFinite", "(D)Z"⟩ : MethodName)) hown (mvT hZ (hw _ (List.mem_of_getElem? (i := 26) rfl))) (mvT hZ (hw _ (List.mem_of_getElem? (i := 27) rfl))) (mvT hZ (hw _ (List.mem_of_getElem? (i := 28) rfl))) (mvT hZ (hw _ (List.mem_of_getElem? (i := 29) rfl))) (by decide) (backOf (W := 0) (rmisf l Z a0 hw [] px h0 n0 Z0 hnn hc8) hZ (hw _ (List.mem_of_getElem? (i := 29) rfl)) (hw _ (List.mem_of_getElem? (i := 28) rfl)) (by decide) (by decide)) (g := (mkF m 1 #[.val (.double px), .second, .val (.ref as1)] [(.double px)])) rfl (by rw [hml]; rfl) (argsL := [(.double px)]) (rest := []) (lenOf pd_1 rfl) rfl (by show 2 * 0 + _ ≤ _; exact Nat.le_of_eq rfl) (hb hby dprog_49_method_2_code_1) (fun _ _ => ⟨rfl, e0, (by decide : 0 + 0 ≤ _), (by decide : 0 + 0 ≤ _)⟩)
  dsimp only [Pt.U, Pt.locs, Pt.cells, Pt.slots] at X1 l1 y1 z1 st1 hQ1
  subst l1 y1 z1
  obtain ⟨rfl, N1q, eh1⟩ := hQ1
  have N1 := Fr.app N0 N1q
  obtain ⟨fs, hr, hrun, hended, hW, hsame⟩ := X1.leave (v := none) (fun _ => rfl)
  refine ⟨_, _, pre0 _ ?_, hrun, hended, _, _, rfl, ?_, ⟨_, rfl⟩, hW, hsame.mono (by decide) (by decide)⟩
  · show Steps p.tables e below (s₁.setTop (mkF m 0 #[.val (.double px), .second, .val (.ref as1)] [])) _
    refine XS.dloadN X0.here hx rfl (hb hby dprog_49_method_2_code_0) rfl ?_
    show Steps p.tables e below (s₁.setTop (mkF m 1 #[.val (.double px), .second, .val (.ref as1)] [(.double px)])) _
    refine st1 _ ?_
    show Steps p.tables e below (T1.setTop (mkF m 4 #[.val (.double px), .second, .val (.ref as1)] [(.int (1 : Int32))])) _
    refine XS.ifNo X1.here hx rfl (hb hby dprog_49_method_2_code_4) rfl (by decide) ?_
    show Steps p.tables e below (T1.setTop (mkF m 7 #[.val (.double px), .second, .val (.ref as1)] [])) _
    refine XS.dloadN X1.here hx rfl (hb hby dprog_49_method_2_code_7) rfl ?_
    show Steps p.tables e below (T1.setTop (mkF m 8 #[.val (.double px), .second, .val (.ref as1)] [(.double px)])) _
    refine XS.dconst0 X1.here hx rfl (hb hby dprog_49_method_2_code_8) rfl ?_
    show Steps p.tables e below (T1.setTop (mkF m 9 #[.val (.double px), .second, .val (.ref as1)] [(.double (0 : UInt64)), (.double px)])) _
    refine XS.dcmpS X1.here hx rfl (hb hby dprog_49_method_2_code_9) rfl rfl ?_
    show Steps p.tables e below (T1.setTop (mkF m 10 #[.val (.double px), .second, .val (.ref as1)] [(.int (cmpValue (FP.dcmp px (0 : UInt64)) .g))])) _
    refine XS.ifYes X1.here hx rfl (pc0 := 10) (pc' := 28) rfl (hb hby dprog_49_method_2_code_10) rfl hc10 (by decide) (by decide) ?_
    show Steps p.tables e below (T1.setTop (mkF m 28 #[.val (.double px), .second, .val (.ref as1)] [])) _
    exact X1.returnOut hx Bd.returns (hb hby dprog_49_method_2_code_28) hr
  · show Qck Z px as1 h0 n0 _ T1.heap _
    rw [eh1]
    exact ⟨rfl, N1, rfl⟩
theorem pd_2 : parseMethodDescriptor "()V" = some ⟨[], none⟩ := by decide +kernel
theorem pd_3 : parseMethodDescriptor "(DLjava/lang/String;)V" = some ⟨[.double, (.object "java/lang/String")], none⟩ := by decide +kernel
theorem dprog_49_method_1_code_0 : decode prog_49_method_1_code 0 = .ok (.aload_n 0, 1) := by decide +kernel
theorem dprog_49_method_1_code_1 : decode prog_49_method_1_code 1 = .ok (.invokespecial 1, 3) := by decide +kernel
theorem dprog_49_method_1_code_4 : decode prog_49_method_1_code 4 = .ok (.dload_n 1, 1) := by decide +kernel
theorem dprog_49_method_1_code_5 : decode prog_49_method_1_code 5 = .ok (.ldc 7, 2) := by decide +kernel
theorem dprog_49_method_1_code_7 : decode prog_49_method_1_code 7 = .ok (.invokestatic 9, 3) := by decide +kernel
theorem dprog_49_method_1_code_10 : decode prog_49_method_1_code 10 = .ok (.dload_n 3, 1) := by decide +kernel
theorem dprog_49_method_1_code_11 : decode prog_49_method_1_code 11 = .ok (.ldc 15, 2) := by decide +kernel
theorem dprog_49_method_1_code_13 : decode prog_49_method_1_code 13 = .ok (.invokestatic 9, 3) := by decide +kernel
theorem dprog_49_method_1_code_16 : decode prog_49_method_1_code 16 = .ok (.aload_n 0, 1) := by decide +kernel
theorem dprog_49_method_1_code_17 : decode prog_49_method_1_code 17 = .ok (.dload_n 1, 1) := by decide +kernel
theorem dprog_49_method_1_code_18 : decode prog_49_method_1_code 18 = .ok (.putfield 17, 3) := by decide +kernel
theorem dprog_49_method_1_code_21 : decode prog_49_method_1_code 21 = .ok (.aload_n 0, 1) := by decide +kernel
theorem dprog_49_method_1_code_22 : decode prog_49_method_1_code 22 = .ok (.dload_n 3, 1) := by decide +kernel
theorem dprog_49_method_1_code_23 : decode prog_49_method_1_code 23 = .ok (.putfield 21, 3) := by decide +kernel
theorem dprog_49_method_1_code_26 : decode prog_49_method_1_code 26 = .ok (.return_, 1) := by decide +kernel
theorem ef_lo (m : MethodId) (x0 : Addr) (x1 : UInt64) (x2 : UInt64) : entryFrame m #[(.ref x0), (.double x1), (.double x2)] 5 = mkF m 0 #[.val (.ref x0), .val (.double x1), .second, .val (.double x2), .second] [] := by first | (simp [entryFrame, mkF, argsToLocals, Value.category]; done) | rfl
def Qlo (Z : State) (a1 : Addr) (ps pm : UInt64) (h0 : Heap) (n0 : Nat) (v : Option Value) (h : Heap) (L : List Loc) : Prop := v = none ∧ Fr n0 L ∧ Keep h0 h [a1] ∧ Exa Z h a1 "com/example/osiris/osiris/principles/Losses" ∧ Fld Z h a1 "com/example/osiris/osiris/principles/Losses" "showingNonRelevant" "D" (.double ps) ∧ Fld Z h a1 "com/example/osiris/osiris/principles/Losses" "missingRelevant" "D" (.double pm)
set_option maxRecDepth 65536 in
set_option maxHeartbeats 40000000 in
theorem rmlo (l : Launch) (Z : State) (a0 : Array Value) (hw : ∀ d ∈ tables_1, d.before a0 Z = true) (ws : List Jvm.Cond) (a1 : Addr) (ps pm : UInt64) (h0 : Heap) (n0 : Nat) (Z0 : n0 ≤ h0.size) (F_showingNonRelevant : Fld Z h0 a1 "com/example/osiris/osiris/principles/Losses" "showingNonRelevant" "D" (.double (0 : UInt64))) (F_missingRelevant : Fld Z h0 a1 "com/example/osiris/osiris/principles/Losses" "missingRelevant" "D" (.double (0 : UInt64))) (E_a : Exa Z h0 a1 "com/example/osiris/osiris/principles/Losses") (g_a : n0 ≤ a1) (n_ps : Fl.NoNaN64 ps) (f_ps : ifCond.holds .gt (cmpValue (FP.dcmp (ps &&& (9223372036854775807 : UInt64)) (9218868437227405311 : UInt64)) .g) = false) (z_ps : ifCond.holds .gt (cmpValue (FP.dcmp ps (0 : UInt64)) .g) = true) (n_pm : Fl.NoNaN64 pm) (f_pm : ifCond.holds .gt (cmpValue (FP.dcmp (pm &&& (9223372036854775807 : UInt64)) (9218868437227405311 : UInt64)) .g) = false) (z_pm : ifCond.holds .gt (cmpValue (FP.dcmp pm (0 : UInt64)) .g) = true) :
    MetFree l (⟨"com/example/osiris/osiris/principles/Losses", "<init>", "(DD)V"⟩ : MethodName) (head1 (Jvm.Cond.code (⟨"com/example/osiris/osiris/principles/Losses", "<init>", "(DD)V"⟩ : MethodName) prog_49_method_1_code 5 none :: ws) ({ frames := 3, cells := 4, slots := 272, locals := 40 } : Room)) (fun a U => a = #[(.ref a1), (.double ps), (.double pm)] ∧ Z.Warmed39 U.vm ∧ U.heap = h0) (fun _ _ _ _ _ => True) (fun _ U o U' => ∃ v L, o = .returned v ∧ Qlo Z a1 ps pm h0 n0 v U'.heap L ∧ ReturnedEndW U o U' L ({ frames := 3, cells := 4, slots := 272, locals := 40 } : Room).cells ({ frames := 3, cells := 4, slots := 272, locals := 40 } : Room).slots) := by
  refine MetFree.of_bodySF (plainFor_of_name pn_2) hisR ?_
  intro p e s m args below meth c s₁ Bd hml0 hP hK
  obtain ⟨rfl, hZ, hh⟩ := hP
  have hx := Bd.exec
  have hby := Bd.bytes
  have hml : c.maxLocals = 5 := hml0
  have hown : s.vm.findClass "com/example/osiris/osiris/principles/Losses" = some m.cls := findClass_of_methodNamed Bd.named
  have hnm := (name_of_methodNamed Bd.named Bd.method).1
  have X0 : Stand p l e ({ frames := 3, cells := 4, slots := 272, locals := 40 } : Room) s m #[(.ref a1), (.double ps), (.double pm)] below meth c s₁ [] 0 0 := Stand.of_body Bd
  have e0 : s₁.heap = h0 := by rw [← hh, Bd.state]; rfl
  have N0 := Fr.nil n0
  have pre0 : ∀ t, Steps p.tables e below (s₁.setTop (mkF m 0 #[.val (.ref a1), .val (.double ps), .second, .val (.double pm), .second] [])) t → Steps p.tables e below (s₁.setTop (entryFrame m #[(.ref a1), (.double ps), (.double pm)] 5)) t := fun t k => castTop (ef_lo m a1 ps pm) k
  obtain ⟨_, _, ⟨T1, L1, k1, n1⟩, -, X1, ⟨Lc1, hQ1, l1, y1, z1⟩, st1⟩ := X0.specialBack hx (y := (⟨"java/lang/Record", "<init>", "()V"⟩ : MethodName)) rfl hown (mvT hZ (hw _ (List.mem_of_getElem? (i := 7) rfl))) (mvT hZ (hw _ (List.mem_of_getElem? (i := 8) rfl))) (mvT hZ (hw _ (List.mem_of_getElem? (i := 11) rfl))) (by decide) (backOf (W := 0) (rmrec l Z a0 hw [] a1 h0 n0 Z0) hZ (hw _ (List.mem_of_getElem? (i := 11) rfl)) (hw _ (List.mem_of_getElem? (i := 10) rfl)) (by decide) (by decide)) (g := (mkF m 1 #[.val (.ref a1), .val (.double ps), .second, .val (.double pm), .second] [(.ref a1)])) rfl (by rw [hml]; rfl) (Steps.refl _) (a := a1) (argsL := []) (rest := []) (lenOf pd_2 rfl) rfl (by show 2 * 0 + _ ≤ _; exact Nat.le_of_eq rfl) (hb hby dprog_49_method_1_code_1) (fun _ _ => ⟨rfl, e0, (by decide : 0 + 0 ≤ _), (by decide : 0 + 0 ≤ _)⟩)
  dsimp only [Pt.U, Pt.locs, Pt.cells, Pt.slots] at X1 l1 y1 z1 st1 hQ1
  subst l1 y1 z1
  obtain ⟨rfl, N1q, eh1⟩ := hQ1
  have N1 := Fr.app N0 N1q
  obtain ⟨a2, T2, h2, ks2, X2, e2, E2, hS2, hk2, hZ2, hown2, st2⟩ := ldcS (s := s) (vm0 := s.vm) X1 hx hZ hown (hw _ (List.mem_of_getElem? (i := 15) rfl)) (own_wS hw) eh1 ((State.WarmedH.refl s).since _) (k0 := h0.size) (Nat.le_refl _) (g := (mkF m 5 #[.val (.ref a1), .val (.double ps), .second, .val (.double pm), .second] [(.double ps)])) rfl (hb hby dprog_49_method_1_code_5) (n := 140) (by decide) (by decide) (by decide) (by decide)
  obtain ⟨_, _, ⟨T3, L3, k3, n3⟩, -, X3, ⟨Lc3, hQ3, l3, y3, z3⟩, st3⟩ := Jvm.LawKit.callS X2 hx (y := (⟨"com/example/osiris/osiris/principles/Losses", "checkLoss", "(DLjava/lang/String;)V"⟩ : MethodName)) hown2 (mvT hZ2 (hw _ (List.mem_of_getElem? (i := 23) rfl))) (mvT hZ2 (hw _ (List.mem_of_getElem? (i := 24) rfl))) (mvT hZ2 (hw _ (List.mem_of_getElem? (i := 3) rfl))) (mvT hZ2 (hw _ (List.mem_of_getElem? (i := 25) rfl))) (by decide) (backOf (W := 0) (rmck l Z a0 hw [] ps a2 h2 n0 (Nat.le_trans Z0 E2.1) n_ps f_ps z_ps) hZ2 (hw _ (List.mem_of_getElem? (i := 25) rfl)) (hw _ (List.mem_of_getElem? (i := 3) rfl)) (by decide) (by decide)) (g := (mkF m 7 #[.val (.ref a1), .val (.double ps), .second, .val (.double pm), .second] [(.ref a2), (.double ps)])) rfl (by rw [hml]; rfl) (argsL := [(.double ps), (.ref a2)]) (rest := []) (lenOf pd_3 rfl) rfl (by show 2 * 0 + _ ≤ _; exact Nat.le_of_eq rfl) (hb hby dprog_49_method_1_code_7) (fun _ _ => ⟨rfl, e2, (by decide : 2 + 0 ≤ _), (by decide : 144 + 0 ≤ _)⟩)
  dsimp only [Pt.U, Pt.locs, Pt.cells, Pt.slots] at X3 l3 y3 z3 st3 hQ3
  subst l3 y3 z3
  obtain ⟨rfl, N3q, eh3⟩ := hQ3
  have N3 := Fr.app N1 N3q
  obtain ⟨a4, T4, h4, ks4, X4, e4, E4, hS4, hk4, hZ4, hown4, st4⟩ := ldcS (s := s) (vm0 := T2.vm) X3 hx hZ2 hown2 (hw _ (List.mem_of_getElem? (i := 35) rfl)) (own_wS hw) eh3 hS2 hk2 (g := (mkF m 11 #[.val (.ref a1), .val (.double ps), .second, .val (.double pm), .second] [(.double pm)])) rfl (hb hby dprog_49_method_1_code_11) (n := 124) (by decide) (by decide) (by decide) (by decide)
  obtain ⟨_, _, ⟨T5, L5, k5, n5⟩, -, X5, ⟨Lc5, hQ5, l5, y5, z5⟩, st5⟩ := Jvm.LawKit.callS X4 hx (y := (⟨"com/example/osiris/osiris/principles/Losses", "checkLoss", "(DLjava/lang/String;)V"⟩ : MethodName)) hown4 (mvT hZ4 (hw _ (List.mem_of_getElem? (i := 23) rfl))) (mvT hZ4 (hw _ (List.mem_of_getElem? (i := 24) rfl))) (mvT hZ4 (hw _ (List.mem_of_getElem? (i := 3) rfl))) (mvT hZ4 (hw _ (List.mem_of_getElem? (i := 25) rfl))) (by decide) (backOf (W := 0) (rmck l Z a0 hw [] pm a4 h4 n0 (Nat.le_trans (Nat.le_trans Z0 E2.1) E4.1) n_pm f_pm z_pm) hZ4 (hw _ (List.mem_of_getElem? (i := 25) rfl)) (hw _ (List.mem_of_getElem? (i := 3) rfl)) (by decide) (by decide)) (g := (mkF m 13 #[.val (.ref a1), .val (.double ps), .second, .val (.double pm), .second] [(.ref a4), (.double pm)])) rfl (by rw [hml]; rfl) (argsL := [(.double pm), (.ref a4)]) (rest := []) (lenOf pd_3 rfl) rfl (by show 2 * 0 + _ ≤ _; exact Nat.le_of_eq rfl) (hb hby dprog_49_method_1_code_13) (fun _ _ => ⟨rfl, e4, (by decide : 4 + 0 ≤ _), (by decide : 272 + 0 ≤ _)⟩)
  dsimp only [Pt.U, Pt.locs, Pt.cells, Pt.slots] at X5 l5 y5 z5 st5 hQ5
  subst l5 y5 z5
  obtain ⟨rfl, N5q, eh5⟩ := hQ5
  have N5 := Fr.app N3 N5q
  obtain ⟨T6, h6, X6, e6, W6, st6⟩ := putF X5 hx hZ4 hown4 (host := "") (Or.inl (hw _ (List.mem_of_getElem? (i := 36) rfl))) Via.refl eh5 ((F_showingNonRelevant.ext E2).ext E4) ((E_a.ext E2).ext E4) (Or.inr ⟨(hw _ (List.mem_of_getElem? (i := 37) rfl)), rfl, hnm⟩) (hw _ (List.mem_of_getElem? (i := 2) rfl)) (ty := .double) (by decide) rfl rfl (g := (mkF m 18 #[.val (.ref a1), .val (.double ps), .second, .val (.double pm), .second] [(.double ps), (.ref a1)])) rfl rfl (hb hby dprog_49_method_1_code_18)
  have Fw6 : Fld Z h6 a1 "com/example/osiris/osiris/principles/Losses" "showingNonRelevant" "D" (.double ps) := ((F_showingNonRelevant.ext E2).ext E4).same W6
  have N6 := Fr.snoc X6 N5 g_a
  obtain ⟨T7, h7, X7, e7, W7, st7⟩ := putF X6 hx hZ4 hown4 (host := "") (Or.inl (hw _ (List.mem_of_getElem? (i := 38) rfl))) Via.refl e6 (((F_missingRelevant.ext E2).ext E4).other W6 (Or.inr (slot_ne (Or.inr (hw _ (List.mem_of_getElem? (i := 39) rfl))) (Or.inr (hw _ (List.mem_of_getElem? (i := 37) rfl))) (by decide) (t := .double) (t' := .double) (by decide) (by decide)))) (((E_a.ext E2).ext E4).wr W6) (Or.inr ⟨(hw _ (List.mem_of_getElem? (i := 39) rfl)), rfl, hnm⟩) (hw _ (List.mem_of_getElem? (i := 2) rfl)) (ty := .double) (by decide) rfl rfl (g := (mkF m 23 #[.val (.ref a1), .val (.double ps), .second, .val (.double pm), .second] [(.double pm), (.ref a1)])) rfl rfl (hb hby dprog_49_method_1_code_23)
  have Fw7 : Fld Z h7 a1 "com/example/osiris/osiris/principles/Losses" "missingRelevant" "D" (.double pm) := (((F_missingRelevant.ext E2).ext E4).other W6 (Or.inr (slot_ne (Or.inr (hw _ (List.mem_of_getElem? (i := 39) rfl))) (Or.inr (hw _ (List.mem_of_getElem? (i := 37) rfl))) (by decide) (t := .double) (t' := .double) (by decide) (by decide)))).same W7
  have N7 := Fr.snoc X7 N6 g_a
  obtain ⟨fs, hr, hrun, hended, hend⟩ := Stand.leaveW (s := s) X7 hS4 (by rw [e7]; exact (Nat.le_trans (Nat.le_trans hk4 (Keep.of_wr W6).1) (Keep.of_wr W7).1)) (v := none) (fun _ => rfl)
  refine ⟨_, _, pre0 _ ?_, hrun, hended, _, _, rfl, ?_, hend⟩
  · show Steps p.tables e below (s₁.setTop (mkF m 0 #[.val (.ref a1), .val (.double ps), .second, .val (.double pm), .second] [])) _
    refine XS.aloadN X0.here hx rfl (hb hby dprog_49_method_1_code_0) rfl rfl ?_
    show Steps p.tables e below (s₁.setTop (mkF m 1 #[.val (.ref a1), .val (.double ps), .second, .val (.double pm), .second] [(.ref a1)])) _
    refine st1.trans ?_
    show Steps p.tables e below (T1.setTop (mkF m 4 #[.val (.ref a1), .val (.double ps), .second, .val (.double pm), .second] [])) _
    refine XS.dloadN X1.here hx rfl (hb hby dprog_49_method_1_code_4) rfl ?_
    show Steps p.tables e below (T1.setTop (mkF m 5 #[.val (.ref a1), .val (.double ps), .second, .val (.double pm), .second] [(.double ps)])) _
    refine st2 _ ?_
    show Steps p.tables e below (T2.setTop (mkF m 7 #[.val (.ref a1), .val (.double ps), .second, .val (.double pm), .second] [(.ref a2), (.double ps)])) _
    refine st3 _ ?_
    show Steps p.tables e below (T3.setTop (mkF m 10 #[.val (.ref a1), .val (.double ps), .second, .val (.double pm), .second] [])) _
    refine XS.dloadN X3.here hx rfl (hb hby dprog_49_method_1_code_10) rfl ?_
    show Steps p.tables e below (T3.setTop (mkF m 11 #[.val (.ref a1), .val (.double ps), .second, .val (.double pm), .second] [(.double pm)])) _
    refine st4 _ ?_
    show Steps p.tables e below (T4.setTop (mkF m 13 #[.val (.ref a1), .val (.double ps), .second, .val (.double pm), .second] [(.ref a4), (.double pm)])) _
    refine st5 _ ?_
    show Steps p.tables e below (T5.setTop (mkF m 16 #[.val (.ref a1), .val (.double ps), .second, .val (.double pm), .second] [])) _
    refine XS.aloadN X5.here hx rfl (hb hby dprog_49_method_1_code_16) rfl rfl ?_
    show Steps p.tables e below (T5.setTop (mkF m 17 #[.val (.ref a1), .val (.double ps), .second, .val (.double pm), .second] [(.ref a1)])) _
    refine XS.dloadN X5.here hx rfl (hb hby dprog_49_method_1_code_17) rfl ?_
    show Steps p.tables e below (T5.setTop (mkF m 18 #[.val (.ref a1), .val (.double ps), .second, .val (.double pm), .second] [(.double ps), (.ref a1)])) _
    refine st6 _ ?_
    show Steps p.tables e below (T6.setTop (mkF m 21 #[.val (.ref a1), .val (.double ps), .second, .val (.double pm), .second] [])) _
    refine XS.aloadN X6.here hx rfl (hb hby dprog_49_method_1_code_21) rfl rfl ?_
    show Steps p.tables e below (T6.setTop (mkF m 22 #[.val (.ref a1), .val (.double ps), .second, .val (.double pm), .second] [(.ref a1)])) _
    refine XS.dloadN X6.here hx rfl (hb hby dprog_49_method_1_code_22) rfl ?_
    show Steps p.tables e below (T6.setTop (mkF m 23 #[.val (.ref a1), .val (.double ps), .second, .val (.double pm), .second] [(.double pm), (.ref a1)])) _
    refine st7 _ ?_
    show Steps p.tables e below (T7.setTop (mkF m 26 #[.val (.ref a1), .val (.double ps), .second, .val (.double pm), .second] [])) _
    exact X7.returnOut hx Bd.returns (hb hby dprog_49_method_1_code_26) hr
  · show Qlo Z a1 ps pm h0 n0 _ T7.heap _
    rw [e7]
    exact ⟨rfl, N7, (((((Keep.refl h0 [a1]).ext E2).ext E4).wr W6 (Or.inl (List.mem_of_getElem? (i := 0) rfl))).wr W7 (Or.inl (List.mem_of_getElem? (i := 0) rfl))), ((((E_a.ext E2).ext E4).wr W6).wr W7), (Fw6.other W7 (Or.inr (slot_ne (Or.inr (hw _ (List.mem_of_getElem? (i := 37) rfl))) (Or.inr (hw _ (List.mem_of_getElem? (i := 39) rfl))) (by decide) (t := .double) (t' := .double) (by decide) (by decide)))), Fw7⟩
theorem dprog_49_method_3_code_0 : decode prog_49_method_3_code 0 = .ok (.aload_n 0, 1) := by decide +kernel
theorem dprog_49_method_3_code_1 : decode prog_49_method_3_code 1 = .ok (.getfield 17, 3) := by decide +kernel
theorem dprog_49_method_3_code_4 : decode prog_49_method_3_code 4 = .ok (.aload_n 0, 1) := by decide +kernel
theorem dprog_49_method_3_code_5 : decode prog_49_method_3_code 5 = .ok (.getfield 17, 3) := by decide +kernel
theorem dprog_49_method_3_code_8 : decode prog_49_method_3_code 8 = .ok (.aload_n 0, 1) := by decide +kernel
theorem dprog_49_method_3_code_9 : decode prog_49_method_3_code 9 = .ok (.getfield 21, 3) := by decide +kernel
theorem dprog_49_method_3_code_12 : decode prog_49_method_3_code 12 = .ok (.dadd, 1) := by decide +kernel
theorem dprog_49_method_3_code_13 : decode prog_49_method_3_code 13 = .ok (.ddiv, 1) := by decide +kernel
theorem dprog_49_method_3_code_14 : decode prog_49_method_3_code 14 = .ok (.dreturn, 1) := by decide +kernel
theorem ef_th (m : MethodId) (x0 : Addr) : entryFrame m #[(.ref x0)] 1 = mkF m 0 #[.val (.ref x0)] [] := by first | (simp [entryFrame, mkF, argsToLocals, Value.category]; done) | rfl
def Qth (Z : State) (a1 : Addr) (ps pm : UInt64) (h0 : Heap) (n0 : Nat) (v : Option Value) (h : Heap) (L : List Loc) : Prop := v = some (.double (FP.ddiv ps (FP.dadd ps pm))) ∧ Fr n0 L ∧ h = h0
set_option maxRecDepth 65536 in
set_option maxHeartbeats 40000000 in
theorem rmth (l : Launch) (Z : State) (a0 : Array Value) (hw : ∀ d ∈ tables_1, d.before a0 Z = true) (ws : List Jvm.Cond) (a1 : Addr) (ps pm : UInt64) (h0 : Heap) (n0 : Nat) (Z0 : n0 ≤ h0.size) (F_s : Fld Z h0 a1 "com/example/osiris/osiris/principles/Losses" "showingNonRelevant" "D" (.double ps)) (F_m : Fld Z h0 a1 "com/example/osiris/osiris/principles/Losses" "missingRelevant" "D" (.double pm)) (nn1 : Fl.NoNaN64 (FP.dadd ps pm)) (nn2 : Fl.NoNaN64 (FP.ddiv ps (FP.dadd ps pm))) :
    MetFree l (⟨"com/example/osiris/osiris/principles/Losses", "threshold", "()D"⟩ : MethodName) (head1 (Jvm.Cond.code (⟨"com/example/osiris/osiris/principles/Losses", "threshold", "()D"⟩ : MethodName) prog_49_method_3_code 1 (some .double) :: ws) ({ frames := 0, cells := 0, slots := 0, locals := 0 } : Room)) (fun a U => a = #[(.ref a1)] ∧ Z.Warmed39 U.vm ∧ U.heap = h0) (fun _ _ _ _ _ => True) (fun _ U o U' => ∃ v L, o = .returned v ∧ Qth Z a1 ps pm h0 n0 v U'.heap L ∧ FrameEnd U o U' L ({ frames := 0, cells := 0, slots := 0, locals := 0 } : Room).cells ({ frames := 0, cells := 0, slots := 0, locals := 0 } : Room).slots) := by
  refine MetFree.of_bodySF (plainFor_of_name pn_2) hisR ?_
  intro p e s m args below meth c s₁ Bd hml0 hP hK
  obtain ⟨rfl, hZ, hh⟩ := hP
  have hx := Bd.exec
  have hby := Bd.bytes
  have hml : c.maxLocals = 1 := hml0
  have hown : s.vm.findClass "com/example/osiris/osiris/principles/Losses" = some m.cls := findClass_of_methodNamed Bd.named
  have hnm := (name_of_methodNamed Bd.named Bd.method).1
  have X0 : Stand p l e ({ frames := 0, cells := 0, slots := 0, locals := 0 } : Room) s m #[(.ref a1)] below meth c s₁ [] 0 0 := Stand.of_body Bd
  have e0 : s₁.heap = h0 := by rw [← hh, Bd.state]; rfl
  have N0 := Fr.nil n0
  have pre0 : ∀ t, Steps p.tables e below (s₁.setTop (mkF m 0 #[.val (.ref a1)] [])) t → Steps p.tables e below (s₁.setTop (entryFrame m #[(.ref a1)] 1)) t := fun t k => castTop (ef_th m a1) k
  obtain ⟨T1, X1, e1, st1⟩ := getF X0 hx hZ hown (host := "") (Or.inl (hw _ (List.mem_of_getElem? (i := 36) rfl))) Via.refl e0 F_s (g := (mkF m 1 #[.val (.ref a1)] [(.ref a1)])) rfl rfl (hb hby dprog_49_method_3_code_1)
  obtain ⟨T2, X2, e2, st2⟩ := getF X1 hx hZ hown (host := "") (Or.inl (hw _ (List.mem_of_getElem? (i := 36) rfl))) Via.refl e1 F_s (g := (mkF m 5 #[.val (.ref a1)] [(.ref a1), (.double ps)])) rfl rfl (hb hby dprog_49_method_3_code_5)
  obtain ⟨T3, X3, e3, st3⟩ := getF X2 hx hZ hown (host := "") (Or.inl (hw _ (List.mem_of_getElem? (i := 38) rfl))) Via.refl e2 F_m (g := (mkF m 9 #[.val (.ref a1)] [(.ref a1), (.double ps), (.double ps)])) rfl rfl (hb hby dprog_49_method_3_code_9)
  obtain ⟨fs, hr, hrun, hended, hW, hsame⟩ := X3.leave (v := some (.double (FP.ddiv ps (FP.dadd ps pm)))) (fun h => by rw [Bd.returns] at h; cases h)
  refine ⟨_, _, pre0 _ ?_, hrun, hended, _, _, rfl, ?_, ⟨_, rfl⟩, hW, hsame.mono (by decide) (by decide)⟩
  · show Steps p.tables e below (s₁.setTop (mkF m 0 #[.val (.ref a1)] [])) _
    refine XS.aloadN X0.here hx rfl (hb hby dprog_49_method_3_code_0) rfl rfl ?_
    show Steps p.tables e below (s₁.setTop (mkF m 1 #[.val (.ref a1)] [(.ref a1)])) _
    refine st1 _ ?_
    show Steps p.tables e below (T1.setTop (mkF m 4 #[.val (.ref a1)] [(.double ps)])) _
    refine XS.aloadN X1.here hx rfl (hb hby dprog_49_method_3_code_4) rfl rfl ?_
    show Steps p.tables e below (T1.setTop (mkF m 5 #[.val (.ref a1)] [(.ref a1), (.double ps)])) _
    refine st2 _ ?_
    show Steps p.tables e below (T2.setTop (mkF m 8 #[.val (.ref a1)] [(.double ps), (.double ps)])) _
    refine XS.aloadN X2.here hx rfl (hb hby dprog_49_method_3_code_8) rfl rfl ?_
    show Steps p.tables e below (T2.setTop (mkF m 9 #[.val (.ref a1)] [(.ref a1), (.double ps), (.double ps)])) _
    refine st3 _ ?_
    show Steps p.tables e below (T3.setTop (mkF m 12 #[.val (.ref a1)] [(.double pm), (.double ps), (.double ps)])) _
    refine XS.daddS X3.here hx rfl (hb hby dprog_49_method_3_code_12) rfl nn1 rfl ?_
    show Steps p.tables e below (T3.setTop (mkF m 13 #[.val (.ref a1)] [(.double (FP.dadd ps pm)), (.double ps)])) _
    refine XS.ddivS X3.here hx rfl (hb hby dprog_49_method_3_code_13) rfl nn2 rfl ?_
    show Steps p.tables e below (T3.setTop (mkF m 14 #[.val (.ref a1)] [(.double (FP.ddiv ps (FP.dadd ps pm)))])) _
    exact retOut X3 hx Bd.returns rfl (Or.inr (Or.inr (Or.inl ⟨rfl, rfl, _, rfl⟩))) (hb hby dprog_49_method_3_code_14) hr
  · show Qth Z a1 ps pm h0 n0 _ T3.heap _
    rw [e3]
    exact ⟨rfl, N0, rfl⟩
theorem pn_3 : plainName "com/example/osiris/osiris/principles/LossesThresholdPinLaw" = true := by first | (simp [plainName, overriddenIn]; done) | decide +kernel
theorem pd_4 : parseMethodDescriptor "(DD)V" = some ⟨[.double, .double], none⟩ := by decide +kernel
theorem pd_5 : parseMethodDescriptor "()D" = some ⟨[], some .double⟩ := by decide +kernel
theorem ef_0 (m : MethodId) (x0 : Int32) (x1 : Int32) (x2 : Int32) (x3 : Int32) : entryFrame m #[(.int x0), (.int x1), (.int x2), (.int x3)] maxLocals = mkF m 0 #[.val (.int x0), .val (.int x1), .val (.int x2), .val (.int x3), .unset, .unset, .unset, .unset, .unset, .unset, .unset, .unset, .unset, .unset, .unset, .unset, .unset, .unset, .unset, .unset, .unset, .unset, .unset, .unset] [] := by first | (simp [entryFrame, mkF, argsToLocals, Value.category, maxLocals]; done) | rfl
set_option maxRecDepth 65536 in
set_option maxHeartbeats 4000000 in
theorem sg_0_151_164 {p : Program} {l : Launch} {e : Env} {R : Room} {s : State} {m : MethodId} {args : Array Value} {below : List Frame} {meth : Method} {c : Code} {T : State} {locs : List Loc} {cells slots : Nat} {Z : State} {a0 : Array Value} {target : State} {x0 : Int32} {x1 : Int32} {x2 : Int32} {x3 : Int32} {x4 : Int32} {x5 : Int32} {x6 : Int32} {x7 : Int32} {x8 : Addr} {x9 : Addr} {x10 : Addr} {x11 : UInt64} {x13 : UInt64} {x15 : UInt64} {x17 : Int32} {x18 : Int64} {x20 : Int64} (X : Stand p l e R s m args below meth c T locs cells slots) (hx : p.tables.exec = Jvm.exec) (hZ : Z.Warmed39 s.vm) (hw : ∀ d ∈ tables_1, d.before a0 Z = true) (hby : c.code = code) (hown : s.vm.findClass "com/example/osiris/osiris/principles/LossesThresholdPinLaw" = some m.cls)
    (k : Steps p.tables e below (T.setTop (mkF m 164 #[.val (.int x0), .val (.int x1), .val (.int x2), .val (.int x3), .val (.int x4), .val (.int x5), .val (.int x6), .val (.int x7), .val (.ref x8), .val (.ref x9), .val (.ref x10), .val (.double x11), .second, .val (.double x13), .second, .val (.double x15), .second, .val (.int x17), .val (.long x18), .second, .val (.long x20), .second, .unset, .unset] [(.int (bif (ifCond.holds .ge (lcmpW x18 x20)) then (0 : Int32) else (1 : Int32)))])) target) : Steps p.tables e below (T.setTop (mkF m 151 #[.val (.int x0), .val (.int x1), .val (.int x2), .val (.int x3), .val (.int x4), .val (.int x5), .val (.int x6), .val (.int x7), .val (.ref x8), .val (.ref x9), .val (.ref x10), .val (.double x11), .second, .val (.double x13), .second, .val (.double x15), .second, .val (.int x17), .val (.long x18), .second, .val (.long x20), .second, .unset, .unset] [])) target := by
  show Steps p.tables e below (T.setTop (mkF m 151 #[.val (.int x0), .val (.int x1), .val (.int x2), .val (.int x3), .val (.int x4), .val (.int x5), .val (.int x6), .val (.int x7), .val (.ref x8), .val (.ref x9), .val (.ref x10), .val (.double x11), .second, .val (.double x13), .second, .val (.double x15), .second, .val (.int x17), .val (.long x18), .second, .val (.long x20), .second, .unset, .unset] [])) _
  refine XS.lload X.here hx rfl (hb hby at_151) rfl ?_
  show Steps p.tables e below (T.setTop (mkF m 153 #[.val (.int x0), .val (.int x1), .val (.int x2), .val (.int x3), .val (.int x4), .val (.int x5), .val (.int x6), .val (.int x7), .val (.ref x8), .val (.ref x9), .val (.ref x10), .val (.double x11), .second, .val (.double x13), .second, .val (.double x15), .second, .val (.int x17), .val (.long x18), .second, .val (.long x20), .second, .unset, .unset] [(.long x18)])) _
  refine XS.lload X.here hx rfl (hb hby at_153) rfl ?_
  show Steps p.tables e below (T.setTop (mkF m 155 #[.val (.int x0), .val (.int x1), .val (.int x2), .val (.int x3), .val (.int x4), .val (.int x5), .val (.int x6), .val (.int x7), .val (.ref x8), .val (.ref x9), .val (.ref x10), .val (.double x11), .second, .val (.double x13), .second, .val (.double x15), .second, .val (.int x17), .val (.long x18), .second, .val (.long x20), .second, .unset, .unset] [(.long x20), (.long x18)])) _
  refine XS.lcmp X.here hx rfl (hb hby at_155) rfl ?_
  show Steps p.tables e below (T.setTop (mkF m 156 #[.val (.int x0), .val (.int x1), .val (.int x2), .val (.int x3), .val (.int x4), .val (.int x5), .val (.int x6), .val (.int x7), .val (.ref x8), .val (.ref x9), .val (.ref x10), .val (.double x11), .second, .val (.double x13), .second, .val (.double x15), .second, .val (.int x17), .val (.long x18), .second, .val (.long x20), .second, .unset, .unset] [(.int (lcmpW x18 x20))])) _
  rcases Bool.eq_false_or_eq_true (ifCond.holds .ge (lcmpW x18 x20)) with hc1 | hc1
  · try rw [hc1] at k
    refine XS.ifYes X.here hx rfl (pc0 := 156) (pc' := 163) rfl (hb hby at_156) rfl hc1 (by decide) (by decide) ?_
    show Steps p.tables e below (T.setTop (mkF m 163 #[.val (.int x0), .val (.int x1), .val (.int x2), .val (.int x3), .val (.int x4), .val (.int x5), .val (.int x6), .val (.int x7), .val (.ref x8), .val (.ref x9), .val (.ref x10), .val (.double x11), .second, .val (.double x13), .second, .val (.double x15), .second, .val (.int x17), .val (.long x18), .second, .val (.long x20), .second, .unset, .unset] [])) _
    refine XS.iconst X.here hx rfl (hb hby at_163) ?_
    exact k
  · try rw [hc1] at k
    refine XS.ifNo X.here hx rfl (hb hby at_156) rfl hc1 ?_
    show Steps p.tables e below (T.setTop (mkF m 159 #[.val (.int x0), .val (.int x1), .val (.int x2), .val (.int x3), .val (.int x4), .val (.int x5), .val (.int x6), .val (.int x7), .val (.ref x8), .val (.ref x9), .val (.ref x10), .val (.double x11), .second, .val (.double x13), .second, .val (.double x15), .second, .val (.int x17), .val (.long x18), .second, .val (.long x20), .second, .unset, .unset] [])) _
    refine XS.iconst X.here hx rfl (hb hby at_159) ?_
    show Steps p.tables e below (T.setTop (mkF m 160 #[.val (.int x0), .val (.int x1), .val (.int x2), .val (.int x3), .val (.int x4), .val (.int x5), .val (.int x6), .val (.int x7), .val (.ref x8), .val (.ref x9), .val (.ref x10), .val (.double x11), .second, .val (.double x13), .second, .val (.double x15), .second, .val (.int x17), .val (.long x18), .second, .val (.long x20), .second, .unset, .unset] [(.int (1 : Int32))])) _
    refine XS.goto X.here hx rfl (pc0 := 160) (pc' := 164) rfl (hb hby at_160) (by decide) (by decide) ?_
    exact k
set_option maxRecDepth 65536 in
set_option maxHeartbeats 4000000 in
theorem sg_0_164_177 {p : Program} {l : Launch} {e : Env} {R : Room} {s : State} {m : MethodId} {args : Array Value} {below : List Frame} {meth : Method} {c : Code} {T : State} {locs : List Loc} {cells slots : Nat} {Z : State} {a0 : Array Value} {target : State} {x0 : Int32} {x1 : Int32} {x2 : Int32} {x3 : Int32} {x4 : Int32} {x5 : Int32} {x6 : Int32} {x7 : Int32} {x8 : Addr} {x9 : Addr} {x10 : Addr} {x11 : UInt64} {x13 : UInt64} {x15 : UInt64} {x17 : Int32} {x18 : Int64} {x20 : Int64} {y0 : Int32} (X : Stand p l e R s m args below meth c T locs cells slots) (hx : p.tables.exec = Jvm.exec) (hZ : Z.Warmed39 s.vm) (hw : ∀ d ∈ tables_1, d.before a0 Z = true) (hby : c.code = code) (hown : s.vm.findClass "com/example/osiris/osiris/principles/LossesThresholdPinLaw" = some m.cls)
    (k : Steps p.tables e below (T.setTop (mkF m 177 #[.val (.int x0), .val (.int x1), .val (.int x2), .val (.int x3), .val (.int x4), .val (.int x5), .val (.int x6), .val (.int x7), .val (.ref x8), .val (.ref x9), .val (.ref x10), .val (.double x11), .second, .val (.double x13), .second, .val (.double x15), .second, .val (.int x17), .val (.long x18), .second, .val (.long x20), .second, .unset, .unset] [(.int (bif (ifCond.holds .ge (cmpValue (FP.dcmp x11 x13) .g)) then (0 : Int32) else (1 : Int32))), (.int y0)])) target) : Steps p.tables e below (T.setTop (mkF m 164 #[.val (.int x0), .val (.int x1), .val (.int x2), .val (.int x3), .val (.int x4), .val (.int x5), .val (.int x6), .val (.int x7), .val (.ref x8), .val (.ref x9), .val (.ref x10), .val (.double x11), .second, .val (.double x13), .second, .val (.double x15), .second, .val (.int x17), .val (.long x18), .second, .val (.long x20), .second, .unset, .unset] [(.int y0)])) target := by
  show Steps p.tables e below (T.setTop (mkF m 164 #[.val (.int x0), .val (.int x1), .val (.int x2), .val (.int x3), .val (.int x4), .val (.int x5), .val (.int x6), .val (.int x7), .val (.ref x8), .val (.ref x9), .val (.ref x10), .val (.double x11), .second, .val (.double x13), .second, .val (.double x15), .second, .val (.int x17), .val (.long x18), .second, .val (.long x20), .second, .unset, .unset] [(.int y0)])) _
  refine XS.dload X.here hx rfl (hb hby at_164) rfl ?_
  show Steps p.tables e below (T.setTop (mkF m 166 #[.val (.int x0), .val (.int x1), .val (.int x2), .val (.int x3), .val (.int x4), .val (.int x5), .val (.int x6), .val (.int x7), .val (.ref x8), .val (.ref x9), .val (.ref x10), .val (.double x11), .second, .val (.double x13), .second, .val (.double x15), .second, .val (.int x17), .val (.long x18), .second, .val (.long x20), .second, .unset, .unset] [(.double x11), (.int y0)])) _
  refine XS.dload X.here hx rfl (hb hby at_166) rfl ?_
  show Steps p.tables e below (T.setTop (mkF m 168 #[.val (.int x0), .val (.int x1), .val (.int x2), .val (.int x3), .val (.int x4), .val (.int x5), .val (.int x6), .val (.int x7), .val (.ref x8), .val (.ref x9), .val (.ref x10), .val (.double x11), .second, .val (.double x13), .second, .val (.double x15), .second, .val (.int x17), .val (.long x18), .second, .val (.long x20), .second, .unset, .unset] [(.double x13), (.double x11), (.int y0)])) _
  refine XS.dcmpS X.here hx rfl (hb hby at_168) rfl rfl ?_
  show Steps p.tables e below (T.setTop (mkF m 169 #[.val (.int x0), .val (.int x1), .val (.int x2), .val (.int x3), .val (.int x4), .val (.int x5), .val (.int x6), .val (.int x7), .val (.ref x8), .val (.ref x9), .val (.ref x10), .val (.double x11), .second, .val (.double x13), .second, .val (.double x15), .second, .val (.int x17), .val (.long x18), .second, .val (.long x20), .second, .unset, .unset] [(.int (cmpValue (FP.dcmp x11 x13) .g)), (.int y0)])) _
  rcases Bool.eq_false_or_eq_true (ifCond.holds .ge (cmpValue (FP.dcmp x11 x13) .g)) with hc1 | hc1
  · try rw [hc1] at k
    refine XS.ifYes X.here hx rfl (pc0 := 169) (pc' := 176) rfl (hb hby at_169) rfl hc1 (by decide) (by decide) ?_
    show Steps p.tables e below (T.setTop (mkF m 176 #[.val (.int x0), .val (.int x1), .val (.int x2), .val (.int x3), .val (.int x4), .val (.int x5), .val (.int x6), .val (.int x7), .val (.ref x8), .val (.ref x9), .val (.ref x10), .val (.double x11), .second, .val (.double x13), .second, .val (.double x15), .second, .val (.int x17), .val (.long x18), .second, .val (.long x20), .second, .unset, .unset] [(.int y0)])) _
    refine XS.iconst X.here hx rfl (hb hby at_176) ?_
    exact k
  · try rw [hc1] at k
    refine XS.ifNo X.here hx rfl (hb hby at_169) rfl hc1 ?_
    show Steps p.tables e below (T.setTop (mkF m 172 #[.val (.int x0), .val (.int x1), .val (.int x2), .val (.int x3), .val (.int x4), .val (.int x5), .val (.int x6), .val (.int x7), .val (.ref x8), .val (.ref x9), .val (.ref x10), .val (.double x11), .second, .val (.double x13), .second, .val (.double x15), .second, .val (.int x17), .val (.long x18), .second, .val (.long x20), .second, .unset, .unset] [(.int y0)])) _
    refine XS.iconst X.here hx rfl (hb hby at_172) ?_
    show Steps p.tables e below (T.setTop (mkF m 173 #[.val (.int x0), .val (.int x1), .val (.int x2), .val (.int x3), .val (.int x4), .val (.int x5), .val (.int x6), .val (.int x7), .val (.ref x8), .val (.ref x9), .val (.ref x10), .val (.double x11), .second, .val (.double x13), .second, .val (.double x15), .second, .val (.int x17), .val (.long x18), .second, .val (.long x20), .second, .unset, .unset] [(.int (1 : Int32)), (.int y0)])) _
    refine XS.goto X.here hx rfl (pc0 := 173) (pc' := 177) rfl (hb hby at_173) (by decide) (by decide) ?_
    exact k
set_option maxRecDepth 65536 in
set_option maxHeartbeats 4000000 in
theorem sg_0_180_193 {p : Program} {l : Launch} {e : Env} {R : Room} {s : State} {m : MethodId} {args : Array Value} {below : List Frame} {meth : Method} {c : Code} {T : State} {locs : List Loc} {cells slots : Nat} {Z : State} {a0 : Array Value} {target : State} {x0 : Int32} {x1 : Int32} {x2 : Int32} {x3 : Int32} {x4 : Int32} {x5 : Int32} {x6 : Int32} {x7 : Int32} {x8 : Addr} {x9 : Addr} {x10 : Addr} {x11 : UInt64} {x13 : UInt64} {x15 : UInt64} {x17 : Int32} {x18 : Int64} {x20 : Int64} (X : Stand p l e R s m args below meth c T locs cells slots) (hx : p.tables.exec = Jvm.exec) (hZ : Z.Warmed39 s.vm) (hw : ∀ d ∈ tables_1, d.before a0 Z = true) (hby : c.code = code) (hown : s.vm.findClass "com/example/osiris/osiris/principles/LossesThresholdPinLaw" = some m.cls)
    (k : Steps p.tables e below (T.setTop (mkF m 193 #[.val (.int x0), .val (.int x1), .val (.int x2), .val (.int x3), .val (.int x4), .val (.int x5), .val (.int x6), .val (.int x7), .val (.ref x8), .val (.ref x9), .val (.ref x10), .val (.double x11), .second, .val (.double x13), .second, .val (.double x15), .second, .val (.int x17), .val (.long x18), .second, .val (.long x20), .second, .unset, .unset] [(.int (bif (ifCond.holds .ne (lcmpW x18 x20)) then (0 : Int32) else (1 : Int32)))])) target) : Steps p.tables e below (T.setTop (mkF m 180 #[.val (.int x0), .val (.int x1), .val (.int x2), .val (.int x3), .val (.int x4), .val (.int x5), .val (.int x6), .val (.int x7), .val (.ref x8), .val (.ref x9), .val (.ref x10), .val (.double x11), .second, .val (.double x13), .second, .val (.double x15), .second, .val (.int x17), .val (.long x18), .second, .val (.long x20), .second, .unset, .unset] [])) target := by
  show Steps p.tables e below (T.setTop (mkF m 180 #[.val (.int x0), .val (.int x1), .val (.int x2), .val (.int x3), .val (.int x4), .val (.int x5), .val (.int x6), .val (.int x7), .val (.ref x8), .val (.ref x9), .val (.ref x10), .val (.double x11), .second, .val (.double x13), .second, .val (.double x15), .second, .val (.int x17), .val (.long x18), .second, .val (.long x20), .second, .unset, .unset] [])) _
  refine XS.lload X.here hx rfl (hb hby at_180) rfl ?_
  show Steps p.tables e below (T.setTop (mkF m 182 #[.val (.int x0), .val (.int x1), .val (.int x2), .val (.int x3), .val (.int x4), .val (.int x5), .val (.int x6), .val (.int x7), .val (.ref x8), .val (.ref x9), .val (.ref x10), .val (.double x11), .second, .val (.double x13), .second, .val (.double x15), .second, .val (.int x17), .val (.long x18), .second, .val (.long x20), .second, .unset, .unset] [(.long x18)])) _
  refine XS.lload X.here hx rfl (hb hby at_182) rfl ?_
  show Steps p.tables e below (T.setTop (mkF m 184 #[.val (.int x0), .val (.int x1), .val (.int x2), .val (.int x3), .val (.int x4), .val (.int x5), .val (.int x6), .val (.int x7), .val (.ref x8), .val (.ref x9), .val (.ref x10), .val (.double x11), .second, .val (.double x13), .second, .val (.double x15), .second, .val (.int x17), .val (.long x18), .second, .val (.long x20), .second, .unset, .unset] [(.long x20), (.long x18)])) _
  refine XS.lcmp X.here hx rfl (hb hby at_184) rfl ?_
  show Steps p.tables e below (T.setTop (mkF m 185 #[.val (.int x0), .val (.int x1), .val (.int x2), .val (.int x3), .val (.int x4), .val (.int x5), .val (.int x6), .val (.int x7), .val (.ref x8), .val (.ref x9), .val (.ref x10), .val (.double x11), .second, .val (.double x13), .second, .val (.double x15), .second, .val (.int x17), .val (.long x18), .second, .val (.long x20), .second, .unset, .unset] [(.int (lcmpW x18 x20))])) _
  rcases Bool.eq_false_or_eq_true (ifCond.holds .ne (lcmpW x18 x20)) with hc1 | hc1
  · try rw [hc1] at k
    refine XS.ifYes X.here hx rfl (pc0 := 185) (pc' := 192) rfl (hb hby at_185) rfl hc1 (by decide) (by decide) ?_
    show Steps p.tables e below (T.setTop (mkF m 192 #[.val (.int x0), .val (.int x1), .val (.int x2), .val (.int x3), .val (.int x4), .val (.int x5), .val (.int x6), .val (.int x7), .val (.ref x8), .val (.ref x9), .val (.ref x10), .val (.double x11), .second, .val (.double x13), .second, .val (.double x15), .second, .val (.int x17), .val (.long x18), .second, .val (.long x20), .second, .unset, .unset] [])) _
    refine XS.iconst X.here hx rfl (hb hby at_192) ?_
    exact k
  · try rw [hc1] at k
    refine XS.ifNo X.here hx rfl (hb hby at_185) rfl hc1 ?_
    show Steps p.tables e below (T.setTop (mkF m 188 #[.val (.int x0), .val (.int x1), .val (.int x2), .val (.int x3), .val (.int x4), .val (.int x5), .val (.int x6), .val (.int x7), .val (.ref x8), .val (.ref x9), .val (.ref x10), .val (.double x11), .second, .val (.double x13), .second, .val (.double x15), .second, .val (.int x17), .val (.long x18), .second, .val (.long x20), .second, .unset, .unset] [])) _
    refine XS.iconst X.here hx rfl (hb hby at_188) ?_
    show Steps p.tables e below (T.setTop (mkF m 189 #[.val (.int x0), .val (.int x1), .val (.int x2), .val (.int x3), .val (.int x4), .val (.int x5), .val (.int x6), .val (.int x7), .val (.ref x8), .val (.ref x9), .val (.ref x10), .val (.double x11), .second, .val (.double x13), .second, .val (.double x15), .second, .val (.int x17), .val (.long x18), .second, .val (.long x20), .second, .unset, .unset] [(.int (1 : Int32))])) _
    refine XS.goto X.here hx rfl (pc0 := 189) (pc' := 193) rfl (hb hby at_189) (by decide) (by decide) ?_
    exact k
set_option maxRecDepth 65536 in
set_option maxHeartbeats 4000000 in
theorem sg_0_193_206 {p : Program} {l : Launch} {e : Env} {R : Room} {s : State} {m : MethodId} {args : Array Value} {below : List Frame} {meth : Method} {c : Code} {T : State} {locs : List Loc} {cells slots : Nat} {Z : State} {a0 : Array Value} {target : State} {x0 : Int32} {x1 : Int32} {x2 : Int32} {x3 : Int32} {x4 : Int32} {x5 : Int32} {x6 : Int32} {x7 : Int32} {x8 : Addr} {x9 : Addr} {x10 : Addr} {x11 : UInt64} {x13 : UInt64} {x15 : UInt64} {x17 : Int32} {x18 : Int64} {x20 : Int64} {y0 : Int32} (X : Stand p l e R s m args below meth c T locs cells slots) (hx : p.tables.exec = Jvm.exec) (hZ : Z.Warmed39 s.vm) (hw : ∀ d ∈ tables_1, d.before a0 Z = true) (hby : c.code = code) (hown : s.vm.findClass "com/example/osiris/osiris/principles/LossesThresholdPinLaw" = some m.cls)
    (k : Steps p.tables e below (T.setTop (mkF m 206 #[.val (.int x0), .val (.int x1), .val (.int x2), .val (.int x3), .val (.int x4), .val (.int x5), .val (.int x6), .val (.int x7), .val (.ref x8), .val (.ref x9), .val (.ref x10), .val (.double x11), .second, .val (.double x13), .second, .val (.double x15), .second, .val (.int x17), .val (.long x18), .second, .val (.long x20), .second, .unset, .unset] [(.int (bif (ifCond.holds .ne (cmpValue (FP.dcmp x11 x13) .l)) then (0 : Int32) else (1 : Int32))), (.int y0)])) target) : Steps p.tables e below (T.setTop (mkF m 193 #[.val (.int x0), .val (.int x1), .val (.int x2), .val (.int x3), .val (.int x4), .val (.int x5), .val (.int x6), .val (.int x7), .val (.ref x8), .val (.ref x9), .val (.ref x10), .val (.double x11), .second, .val (.double x13), .second, .val (.double x15), .second, .val (.int x17), .val (.long x18), .second, .val (.long x20), .second, .unset, .unset] [(.int y0)])) target := by
  show Steps p.tables e below (T.setTop (mkF m 193 #[.val (.int x0), .val (.int x1), .val (.int x2), .val (.int x3), .val (.int x4), .val (.int x5), .val (.int x6), .val (.int x7), .val (.ref x8), .val (.ref x9), .val (.ref x10), .val (.double x11), .second, .val (.double x13), .second, .val (.double x15), .second, .val (.int x17), .val (.long x18), .second, .val (.long x20), .second, .unset, .unset] [(.int y0)])) _
  refine XS.dload X.here hx rfl (hb hby at_193) rfl ?_
  show Steps p.tables e below (T.setTop (mkF m 195 #[.val (.int x0), .val (.int x1), .val (.int x2), .val (.int x3), .val (.int x4), .val (.int x5), .val (.int x6), .val (.int x7), .val (.ref x8), .val (.ref x9), .val (.ref x10), .val (.double x11), .second, .val (.double x13), .second, .val (.double x15), .second, .val (.int x17), .val (.long x18), .second, .val (.long x20), .second, .unset, .unset] [(.double x11), (.int y0)])) _
  refine XS.dload X.here hx rfl (hb hby at_195) rfl ?_
  show Steps p.tables e below (T.setTop (mkF m 197 #[.val (.int x0), .val (.int x1), .val (.int x2), .val (.int x3), .val (.int x4), .val (.int x5), .val (.int x6), .val (.int x7), .val (.ref x8), .val (.ref x9), .val (.ref x10), .val (.double x11), .second, .val (.double x13), .second, .val (.double x15), .second, .val (.int x17), .val (.long x18), .second, .val (.long x20), .second, .unset, .unset] [(.double x13), (.double x11), (.int y0)])) _
  refine XS.dcmpS X.here hx rfl (hb hby at_197) rfl rfl ?_
  show Steps p.tables e below (T.setTop (mkF m 198 #[.val (.int x0), .val (.int x1), .val (.int x2), .val (.int x3), .val (.int x4), .val (.int x5), .val (.int x6), .val (.int x7), .val (.ref x8), .val (.ref x9), .val (.ref x10), .val (.double x11), .second, .val (.double x13), .second, .val (.double x15), .second, .val (.int x17), .val (.long x18), .second, .val (.long x20), .second, .unset, .unset] [(.int (cmpValue (FP.dcmp x11 x13) .l)), (.int y0)])) _
  rcases Bool.eq_false_or_eq_true (ifCond.holds .ne (cmpValue (FP.dcmp x11 x13) .l)) with hc1 | hc1
  · try rw [hc1] at k
    refine XS.ifYes X.here hx rfl (pc0 := 198) (pc' := 205) rfl (hb hby at_198) rfl hc1 (by decide) (by decide) ?_
    show Steps p.tables e below (T.setTop (mkF m 205 #[.val (.int x0), .val (.int x1), .val (.int x2), .val (.int x3), .val (.int x4), .val (.int x5), .val (.int x6), .val (.int x7), .val (.ref x8), .val (.ref x9), .val (.ref x10), .val (.double x11), .second, .val (.double x13), .second, .val (.double x15), .second, .val (.int x17), .val (.long x18), .second, .val (.long x20), .second, .unset, .unset] [(.int y0)])) _
    refine XS.iconst X.here hx rfl (hb hby at_205) ?_
    exact k
  · try rw [hc1] at k
    refine XS.ifNo X.here hx rfl (hb hby at_198) rfl hc1 ?_
    show Steps p.tables e below (T.setTop (mkF m 201 #[.val (.int x0), .val (.int x1), .val (.int x2), .val (.int x3), .val (.int x4), .val (.int x5), .val (.int x6), .val (.int x7), .val (.ref x8), .val (.ref x9), .val (.ref x10), .val (.double x11), .second, .val (.double x13), .second, .val (.double x15), .second, .val (.int x17), .val (.long x18), .second, .val (.long x20), .second, .unset, .unset] [(.int y0)])) _
    refine XS.iconst X.here hx rfl (hb hby at_201) ?_
    show Steps p.tables e below (T.setTop (mkF m 202 #[.val (.int x0), .val (.int x1), .val (.int x2), .val (.int x3), .val (.int x4), .val (.int x5), .val (.int x6), .val (.int x7), .val (.ref x8), .val (.ref x9), .val (.ref x10), .val (.double x11), .second, .val (.double x13), .second, .val (.double x15), .second, .val (.int x17), .val (.long x18), .second, .val (.long x20), .second, .unset, .unset] [(.int (1 : Int32)), (.int y0)])) _
    refine XS.goto X.here hx rfl (pc0 := 202) (pc' := 206) rfl (hb hby at_202) (by decide) (by decide) ?_
    exact k
set_option maxRecDepth 65536 in
set_option maxHeartbeats 4000000 in
theorem sg_0_209_222 {p : Program} {l : Launch} {e : Env} {R : Room} {s : State} {m : MethodId} {args : Array Value} {below : List Frame} {meth : Method} {c : Code} {T : State} {locs : List Loc} {cells slots : Nat} {Z : State} {a0 : Array Value} {target : State} {x0 : Int32} {x1 : Int32} {x2 : Int32} {x3 : Int32} {x4 : Int32} {x5 : Int32} {x6 : Int32} {x7 : Int32} {x8 : Addr} {x9 : Addr} {x10 : Addr} {x11 : UInt64} {x13 : UInt64} {x15 : UInt64} {x17 : Int32} {x18 : Int64} {x20 : Int64} (X : Stand p l e R s m args below meth c T locs cells slots) (hx : p.tables.exec = Jvm.exec) (hZ : Z.Warmed39 s.vm) (hw : ∀ d ∈ tables_1, d.before a0 Z = true) (hby : c.code = code) (hown : s.vm.findClass "com/example/osiris/osiris/principles/LossesThresholdPinLaw" = some m.cls)
    (k : Steps p.tables e below (T.setTop (mkF m 222 #[.val (.int x0), .val (.int x1), .val (.int x2), .val (.int x3), .val (.int x4), .val (.int x5), .val (.int x6), .val (.int x7), .val (.ref x8), .val (.ref x9), .val (.ref x10), .val (.double x11), .second, .val (.double x13), .second, .val (.double x15), .second, .val (.int x17), .val (.long x18), .second, .val (.long x20), .second, .unset, .unset] [(.int (bif (ifCond.holds .le (lcmpW x18 x20)) then (0 : Int32) else (1 : Int32)))])) target) : Steps p.tables e below (T.setTop (mkF m 209 #[.val (.int x0), .val (.int x1), .val (.int x2), .val (.int x3), .val (.int x4), .val (.int x5), .val (.int x6), .val (.int x7), .val (.ref x8), .val (.ref x9), .val (.ref x10), .val (.double x11), .second, .val (.double x13), .second, .val (.double x15), .second, .val (.int x17), .val (.long x18), .second, .val (.long x20), .second, .unset, .unset] [])) target := by
  show Steps p.tables e below (T.setTop (mkF m 209 #[.val (.int x0), .val (.int x1), .val (.int x2), .val (.int x3), .val (.int x4), .val (.int x5), .val (.int x6), .val (.int x7), .val (.ref x8), .val (.ref x9), .val (.ref x10), .val (.double x11), .second, .val (.double x13), .second, .val (.double x15), .second, .val (.int x17), .val (.long x18), .second, .val (.long x20), .second, .unset, .unset] [])) _
  refine XS.lload X.here hx rfl (hb hby at_209) rfl ?_
  show Steps p.tables e below (T.setTop (mkF m 211 #[.val (.int x0), .val (.int x1), .val (.int x2), .val (.int x3), .val (.int x4), .val (.int x5), .val (.int x6), .val (.int x7), .val (.ref x8), .val (.ref x9), .val (.ref x10), .val (.double x11), .second, .val (.double x13), .second, .val (.double x15), .second, .val (.int x17), .val (.long x18), .second, .val (.long x20), .second, .unset, .unset] [(.long x18)])) _
  refine XS.lload X.here hx rfl (hb hby at_211) rfl ?_
  show Steps p.tables e below (T.setTop (mkF m 213 #[.val (.int x0), .val (.int x1), .val (.int x2), .val (.int x3), .val (.int x4), .val (.int x5), .val (.int x6), .val (.int x7), .val (.ref x8), .val (.ref x9), .val (.ref x10), .val (.double x11), .second, .val (.double x13), .second, .val (.double x15), .second, .val (.int x17), .val (.long x18), .second, .val (.long x20), .second, .unset, .unset] [(.long x20), (.long x18)])) _
  refine XS.lcmp X.here hx rfl (hb hby at_213) rfl ?_
  show Steps p.tables e below (T.setTop (mkF m 214 #[.val (.int x0), .val (.int x1), .val (.int x2), .val (.int x3), .val (.int x4), .val (.int x5), .val (.int x6), .val (.int x7), .val (.ref x8), .val (.ref x9), .val (.ref x10), .val (.double x11), .second, .val (.double x13), .second, .val (.double x15), .second, .val (.int x17), .val (.long x18), .second, .val (.long x20), .second, .unset, .unset] [(.int (lcmpW x18 x20))])) _
  rcases Bool.eq_false_or_eq_true (ifCond.holds .le (lcmpW x18 x20)) with hc1 | hc1
  · try rw [hc1] at k
    refine XS.ifYes X.here hx rfl (pc0 := 214) (pc' := 221) rfl (hb hby at_214) rfl hc1 (by decide) (by decide) ?_
    show Steps p.tables e below (T.setTop (mkF m 221 #[.val (.int x0), .val (.int x1), .val (.int x2), .val (.int x3), .val (.int x4), .val (.int x5), .val (.int x6), .val (.int x7), .val (.ref x8), .val (.ref x9), .val (.ref x10), .val (.double x11), .second, .val (.double x13), .second, .val (.double x15), .second, .val (.int x17), .val (.long x18), .second, .val (.long x20), .second, .unset, .unset] [])) _
    refine XS.iconst X.here hx rfl (hb hby at_221) ?_
    exact k
  · try rw [hc1] at k
    refine XS.ifNo X.here hx rfl (hb hby at_214) rfl hc1 ?_
    show Steps p.tables e below (T.setTop (mkF m 217 #[.val (.int x0), .val (.int x1), .val (.int x2), .val (.int x3), .val (.int x4), .val (.int x5), .val (.int x6), .val (.int x7), .val (.ref x8), .val (.ref x9), .val (.ref x10), .val (.double x11), .second, .val (.double x13), .second, .val (.double x15), .second, .val (.int x17), .val (.long x18), .second, .val (.long x20), .second, .unset, .unset] [])) _
    refine XS.iconst X.here hx rfl (hb hby at_217) ?_
    show Steps p.tables e below (T.setTop (mkF m 218 #[.val (.int x0), .val (.int x1), .val (.int x2), .val (.int x3), .val (.int x4), .val (.int x5), .val (.int x6), .val (.int x7), .val (.ref x8), .val (.ref x9), .val (.ref x10), .val (.double x11), .second, .val (.double x13), .second, .val (.double x15), .second, .val (.int x17), .val (.long x18), .second, .val (.long x20), .second, .unset, .unset] [(.int (1 : Int32))])) _
    refine XS.goto X.here hx rfl (pc0 := 218) (pc' := 222) rfl (hb hby at_218) (by decide) (by decide) ?_
    exact k
set_option maxRecDepth 65536 in
set_option maxHeartbeats 4000000 in
theorem sg_0_222_235 {p : Program} {l : Launch} {e : Env} {R : Room} {s : State} {m : MethodId} {args : Array Value} {below : List Frame} {meth : Method} {c : Code} {T : State} {locs : List Loc} {cells slots : Nat} {Z : State} {a0 : Array Value} {target : State} {x0 : Int32} {x1 : Int32} {x2 : Int32} {x3 : Int32} {x4 : Int32} {x5 : Int32} {x6 : Int32} {x7 : Int32} {x8 : Addr} {x9 : Addr} {x10 : Addr} {x11 : UInt64} {x13 : UInt64} {x15 : UInt64} {x17 : Int32} {x18 : Int64} {x20 : Int64} {y0 : Int32} (X : Stand p l e R s m args below meth c T locs cells slots) (hx : p.tables.exec = Jvm.exec) (hZ : Z.Warmed39 s.vm) (hw : ∀ d ∈ tables_1, d.before a0 Z = true) (hby : c.code = code) (hown : s.vm.findClass "com/example/osiris/osiris/principles/LossesThresholdPinLaw" = some m.cls)
    (k : Steps p.tables e below (T.setTop (mkF m 235 #[.val (.int x0), .val (.int x1), .val (.int x2), .val (.int x3), .val (.int x4), .val (.int x5), .val (.int x6), .val (.int x7), .val (.ref x8), .val (.ref x9), .val (.ref x10), .val (.double x11), .second, .val (.double x13), .second, .val (.double x15), .second, .val (.int x17), .val (.long x18), .second, .val (.long x20), .second, .unset, .unset] [(.int (bif (ifCond.holds .le (cmpValue (FP.dcmp x11 x13) .l)) then (0 : Int32) else (1 : Int32))), (.int y0)])) target) : Steps p.tables e below (T.setTop (mkF m 222 #[.val (.int x0), .val (.int x1), .val (.int x2), .val (.int x3), .val (.int x4), .val (.int x5), .val (.int x6), .val (.int x7), .val (.ref x8), .val (.ref x9), .val (.ref x10), .val (.double x11), .second, .val (.double x13), .second, .val (.double x15), .second, .val (.int x17), .val (.long x18), .second, .val (.long x20), .second, .unset, .unset] [(.int y0)])) target := by
  show Steps p.tables e below (T.setTop (mkF m 222 #[.val (.int x0), .val (.int x1), .val (.int x2), .val (.int x3), .val (.int x4), .val (.int x5), .val (.int x6), .val (.int x7), .val (.ref x8), .val (.ref x9), .val (.ref x10), .val (.double x11), .second, .val (.double x13), .second, .val (.double x15), .second, .val (.int x17), .val (.long x18), .second, .val (.long x20), .second, .unset, .unset] [(.int y0)])) _
  refine XS.dload X.here hx rfl (hb hby at_222) rfl ?_
  show Steps p.tables e below (T.setTop (mkF m 224 #[.val (.int x0), .val (.int x1), .val (.int x2), .val (.int x3), .val (.int x4), .val (.int x5), .val (.int x6), .val (.int x7), .val (.ref x8), .val (.ref x9), .val (.ref x10), .val (.double x11), .second, .val (.double x13), .second, .val (.double x15), .second, .val (.int x17), .val (.long x18), .second, .val (.long x20), .second, .unset, .unset] [(.double x11), (.int y0)])) _
  refine XS.dload X.here hx rfl (hb hby at_224) rfl ?_
  show Steps p.tables e below (T.setTop (mkF m 226 #[.val (.int x0), .val (.int x1), .val (.int x2), .val (.int x3), .val (.int x4), .val (.int x5), .val (.int x6), .val (.int x7), .val (.ref x8), .val (.ref x9), .val (.ref x10), .val (.double x11), .second, .val (.double x13), .second, .val (.double x15), .second, .val (.int x17), .val (.long x18), .second, .val (.long x20), .second, .unset, .unset] [(.double x13), (.double x11), (.int y0)])) _
  refine XS.dcmpS X.here hx rfl (hb hby at_226) rfl rfl ?_
  show Steps p.tables e below (T.setTop (mkF m 227 #[.val (.int x0), .val (.int x1), .val (.int x2), .val (.int x3), .val (.int x4), .val (.int x5), .val (.int x6), .val (.int x7), .val (.ref x8), .val (.ref x9), .val (.ref x10), .val (.double x11), .second, .val (.double x13), .second, .val (.double x15), .second, .val (.int x17), .val (.long x18), .second, .val (.long x20), .second, .unset, .unset] [(.int (cmpValue (FP.dcmp x11 x13) .l)), (.int y0)])) _
  rcases Bool.eq_false_or_eq_true (ifCond.holds .le (cmpValue (FP.dcmp x11 x13) .l)) with hc1 | hc1
  · try rw [hc1] at k
    refine XS.ifYes X.here hx rfl (pc0 := 227) (pc' := 234) rfl (hb hby at_227) rfl hc1 (by decide) (by decide) ?_
    show Steps p.tables e below (T.setTop (mkF m 234 #[.val (.int x0), .val (.int x1), .val (.int x2), .val (.int x3), .val (.int x4), .val (.int x5), .val (.int x6), .val (.int x7), .val (.ref x8), .val (.ref x9), .val (.ref x10), .val (.double x11), .second, .val (.double x13), .second, .val (.double x15), .second, .val (.int x17), .val (.long x18), .second, .val (.long x20), .second, .unset, .unset] [(.int y0)])) _
    refine XS.iconst X.here hx rfl (hb hby at_234) ?_
    exact k
  · try rw [hc1] at k
    refine XS.ifNo X.here hx rfl (hb hby at_227) rfl hc1 ?_
    show Steps p.tables e below (T.setTop (mkF m 230 #[.val (.int x0), .val (.int x1), .val (.int x2), .val (.int x3), .val (.int x4), .val (.int x5), .val (.int x6), .val (.int x7), .val (.ref x8), .val (.ref x9), .val (.ref x10), .val (.double x11), .second, .val (.double x13), .second, .val (.double x15), .second, .val (.int x17), .val (.long x18), .second, .val (.long x20), .second, .unset, .unset] [(.int y0)])) _
    refine XS.iconst X.here hx rfl (hb hby at_230) ?_
    show Steps p.tables e below (T.setTop (mkF m 231 #[.val (.int x0), .val (.int x1), .val (.int x2), .val (.int x3), .val (.int x4), .val (.int x5), .val (.int x6), .val (.int x7), .val (.ref x8), .val (.ref x9), .val (.ref x10), .val (.double x11), .second, .val (.double x13), .second, .val (.double x15), .second, .val (.int x17), .val (.long x18), .second, .val (.long x20), .second, .unset, .unset] [(.int (1 : Int32)), (.int y0)])) _
    refine XS.goto X.here hx rfl (pc0 := 231) (pc' := 235) rfl (hb hby at_231) (by decide) (by decide) ?_
    exact k
def Q0 (Z : State) (p0 p1 p2 p3 : Int32) (h0 : Heap) (n0 : Nat) (v : Option Value) (h : Heap) (L : List Loc) : Prop := v = some (.int 1) ∧ Fr n0 L
set_option maxRecDepth 65536 in
set_option maxHeartbeats 40000000 in
theorem rm0 (l : Launch) (Z : State) (a0 : Array Value) (hw : ∀ d ∈ tables_1, d.before a0 Z = true) (ws : List Jvm.Cond) (p0 p1 p2 p3 : Int32) (h0 : Heap) (n0 : Nat) (Z0 : n0 ≤ h0.size) :
    MetFree l x (head1 (Jvm.Cond.code x code maxLocals ret :: ws) room_1) (fun a U => a = #[(.int p0), (.int p1), (.int p2), (.int p3)] ∧ Z.Warmed39 U.vm ∧ U.heap = h0) (fun _ _ _ _ _ => True) (fun _ U o U' => ∃ v L, o = .returned v ∧ Q0 Z p0 p1 p2 p3 h0 n0 v U'.heap L ∧ ReturnedEndW U o U' L room_1.cells room_1.slots) := by
  refine MetFree.of_bodySF (plainFor_of_name pn_3) hisR ?_
  intro p e s m args below meth c s₁ Bd hml0 hP hK
  obtain ⟨rfl, hZ, hh⟩ := hP
  have hx := Bd.exec
  have hby := Bd.bytes
  have hml : c.maxLocals = 24 := hml0
  have hown : s.vm.findClass "com/example/osiris/osiris/principles/LossesThresholdPinLaw" = some m.cls := findClass_of_methodNamed Bd.named
  have hnm := (name_of_methodNamed Bd.named Bd.method).1
  have X0 : Stand p l e room_1 s m #[(.int p0), (.int p1), (.int p2), (.int p3)] below meth c s₁ [] 0 0 := Stand.of_body Bd
  have e0 : s₁.heap = h0 := by rw [← hh, Bd.state]; rfl
  have N0 := Fr.nil n0
  have pre0 : ∀ t, Steps p.tables e below (s₁.setTop (mkF m 0 #[.val (.int p0), .val (.int p1), .val (.int p2), .val (.int p3), .unset, .unset, .unset, .unset, .unset, .unset, .unset, .unset, .unset, .unset, .unset, .unset, .unset, .unset, .unset, .unset, .unset, .unset, .unset, .unset] [])) t → Steps p.tables e below (s₁.setTop (entryFrame m #[(.int p0), (.int p1), (.int p2), (.int p3)] maxLocals)) t := fun t k => castTop (ef_0 m p0 p1 p2 p3) k
  obtain ⟨T1, h1, X1, e1, E1, A1, D1, -, st1⟩ := newO X0 hx hZ hown (hw _ (List.mem_of_getElem? (i := 1) rfl)) (hw _ (List.mem_of_getElem? (i := 2) rfl)) (hw _ (List.mem_of_getElem? (i := 3) rfl)) e0 (g := (mkF m 32 #[.val (.int p0), .val (.int p1), .val (.int p2), .val (.int p3), .val (.int (own_a p0)), .val (.int (own_a p1)), .val (.int (own_a p2)), .val (.int (own_a p3)), .unset, .unset, .unset, .unset, .unset, .unset, .unset, .unset, .unset, .unset, .unset, .unset, .unset, .unset, .unset, .unset] [])) rfl (hb hby at_32) (by decide) (by decide)
  obtain ⟨b1, g1⟩ : ∃ z, z = h0.size := ⟨_, rfl⟩
  rw [← g1] at A1 D1 st1
  have F1_showingNonRelevant : Fld Z h1 b1 "com/example/osiris/osiris/principles/Losses" "showingNonRelevant" "D" (.double (0 : UInt64)) := D1 (Or.inr (hw _ (List.mem_of_getElem? (i := 37) rfl))) (ty := .double) (by decide)
  have F1_missingRelevant : Fld Z h1 b1 "com/example/osiris/osiris/principles/Losses" "missingRelevant" "D" (.double (0 : UInt64)) := D1 (Or.inr (hw _ (List.mem_of_getElem? (i := 39) rfl))) (ty := .double) (by decide)
  obtain ⟨_, _, ⟨T2, L2, k2, n2⟩, -, X2, hSr2, hgr2, ⟨Lc2, hQ2, l2, y2, z2⟩, st2⟩ := X1.specialBackS hx (y := (⟨"com/example/osiris/osiris/principles/Losses", "<init>", "(DD)V"⟩ : MethodName)) rfl hown (mvT hZ (hw _ (List.mem_of_getElem? (i := 4) rfl))) (mvT hZ (hw _ (List.mem_of_getElem? (i := 5) rfl))) (mvT hZ (hw _ (List.mem_of_getElem? (i := 6) rfl))) (by decide) (backOfS (W := 1) (rmlo l Z a0 hw [] b1 (FP.i2d (own_a p0)) (FP.i2d (own_a p1)) h1 n0 (Nat.le_trans Z0 E1.1) F1_showingNonRelevant F1_missingRelevant A1 (Nat.le_trans Z0 (Nat.le_trans (Nat.le_refl _) (Nat.le_of_eq g1.symm))) (Fl.i2d_fin _).noNaN (own_isf p0) (own_gt0 p0) (Fl.i2d_fin _).noNaN (own_isf p1) (own_gt0 p1)) hZ (hw _ (List.mem_of_getElem? (i := 6) rfl)) (hw _ (List.mem_of_getElem? (i := 3) rfl)) (by decide) (by decide)) (g := (mkF m 42 #[.val (.int p0), .val (.int p1), .val (.int p2), .val (.int p3), .val (.int (own_a p0)), .val (.int (own_a p1)), .val (.int (own_a p2)), .val (.int (own_a p3)), .unset, .unset, .unset, .unset, .unset, .unset, .unset, .unset, .unset, .unset, .unset, .unset, .unset, .unset, .unset, .unset] [(.double (FP.i2d (own_a p1))), (.double (FP.i2d (own_a p0))), (.ref b1), (.ref b1)])) rfl (by rw [hml]; rfl) (Steps.refl _) (a := b1) (argsL := [(.double (FP.i2d (own_a p0))), (.double (FP.i2d (own_a p1)))]) (rest := [(.ref b1)]) (lenOf pd_4 rfl) rfl (by show 2 * 0 + _ ≤ _; exact Nat.le_of_eq rfl) (hb hby at_42) (fun _ _ => ⟨rfl, e1, (by decide : 1 + 4 ≤ _), (by decide : 2 + 272 ≤ _)⟩)
  dsimp only [Pt.U, Pt.locs, Pt.cells, Pt.slots] at X2 l2 y2 z2 st2 hQ2 hSr2 hgr2
  subst l2 y2 z2
  have hS2 : s.Since T2.vm T2.heap.size := hSr2
  have hZ2 : Z.Warmed39 (s.setVm T2.vm).vm := State.Warmed39.trans hZ hS2.1
  have hown2 : (s.setVm T2.vm).vm.findClass "com/example/osiris/osiris/principles/LossesThresholdPinLaw" = some m.cls := by rw [show (s.setVm T2.vm).vm = T2.vm from rfl, hSr2.1.alike.findClass]; exact hown
  obtain ⟨rfl, N2q, K2, Ea2, Fa2, Fb2⟩ := hQ2
  have N2 := Fr.app N0 N2q
  obtain ⟨T3, h3, X3, e3, E3, A3, D3, -, st3⟩ := newO X2 hx hZ2 hown2 (hw _ (List.mem_of_getElem? (i := 1) rfl)) (hw _ (List.mem_of_getElem? (i := 2) rfl)) (hw _ (List.mem_of_getElem? (i := 3) rfl)) rfl (g := (mkF m 47 #[.val (.int p0), .val (.int p1), .val (.int p2), .val (.int p3), .val (.int (own_a p0)), .val (.int (own_a p1)), .val (.int (own_a p2)), .val (.int (own_a p3)), .val (.ref b1), .unset, .unset, .unset, .unset, .unset, .unset, .unset, .unset, .unset, .unset, .unset, .unset, .unset, .unset, .unset] [])) rfl (hb hby at_47) (by decide) (by decide)
  obtain ⟨b3, g3⟩ : ∃ z, z = T2.heap.size := ⟨_, rfl⟩
  rw [← g3] at A3 D3 st3
  have F3_showingNonRelevant : Fld Z h3 b3 "com/example/osiris/osiris/principles/Losses" "showingNonRelevant" "D" (.double (0 : UInt64)) := D3 (Or.inr (hw _ (List.mem_of_getElem? (i := 37) rfl))) (ty := .double) (by decide)
  have F3_missingRelevant : Fld Z h3 b3 "com/example/osiris/osiris/principles/Losses" "missingRelevant" "D" (.double (0 : UInt64)) := D3 (Or.inr (hw _ (List.mem_of_getElem? (i := 39) rfl))) (ty := .double) (by decide)
  obtain ⟨_, _, ⟨T4, L4, k4, n4⟩, -, X4, hSr4, hgr4, ⟨Lc4, hQ4, l4, y4, z4⟩, st4⟩ := X3.specialBackS hx (y := (⟨"com/example/osiris/osiris/principles/Losses", "<init>", "(DD)V"⟩ : MethodName)) rfl hown2 (mvT hZ2 (hw _ (List.mem_of_getElem? (i := 4) rfl))) (mvT hZ2 (hw _ (List.mem_of_getElem? (i := 5) rfl))) (mvT hZ2 (hw _ (List.mem_of_getElem? (i := 6) rfl))) (by decide) (backOfS (W := 1) (rmlo l Z a0 hw [] b3 (FP.i2d (own_a p2)) (FP.i2d (own_a p3)) h3 n0 (Nat.le_trans (Nat.le_trans (Nat.le_trans Z0 E1.1) K2.1) E3.1) F3_showingNonRelevant F3_missingRelevant A3 (Nat.le_trans Z0 (Nat.le_trans (Nat.le_trans (Nat.le_trans (Nat.le_refl _) E1.1) K2.1) (Nat.le_of_eq g3.symm))) (Fl.i2d_fin _).noNaN (own_isf p2) (own_gt0 p2) (Fl.i2d_fin _).noNaN (own_isf p3) (own_gt0 p3)) hZ2 (hw _ (List.mem_of_getElem? (i := 6) rfl)) (hw _ (List.mem_of_getElem? (i := 3) rfl)) (by decide) (by decide)) (g := (mkF m 57 #[.val (.int p0), .val (.int p1), .val (.int p2), .val (.int p3), .val (.int (own_a p0)), .val (.int (own_a p1)), .val (.int (own_a p2)), .val (.int (own_a p3)), .val (.ref b1), .unset, .unset, .unset, .unset, .unset, .unset, .unset, .unset, .unset, .unset, .unset, .unset, .unset, .unset, .unset] [(.double (FP.i2d (own_a p3))), (.double (FP.i2d (own_a p2))), (.ref b3), (.ref b3)])) rfl (by rw [hml]; rfl) (Steps.refl _) (a := b3) (argsL := [(.double (FP.i2d (own_a p2))), (.double (FP.i2d (own_a p3)))]) (rest := [(.ref b3)]) (lenOf pd_4 rfl) rfl (by show 2 * 0 + _ ≤ _; exact Nat.le_of_eq rfl) (hb hby at_57) (fun _ _ => ⟨rfl, e3, (by decide : 6 + 4 ≤ _), (by decide : 276 + 272 ≤ _)⟩)
  dsimp only [Pt.U, Pt.locs, Pt.cells, Pt.slots] at X4 l4 y4 z4 st4 hQ4 hSr4 hgr4
  subst l4 y4 z4
  have hS4 : s.Since T4.vm T4.heap.size := foldS (T := T3) hS2 (by rw [e3]; exact (Nat.le_trans (Nat.le_refl _) E3.1)) hSr4 hgr4
  have hZ4 : Z.Warmed39 (s.setVm T4.vm).vm := State.Warmed39.trans (t := s.setVm T2.vm) hZ2 hSr4.1
  have hown4 : (s.setVm T4.vm).vm.findClass "com/example/osiris/osiris/principles/LossesThresholdPinLaw" = some m.cls := by rw [show (s.setVm T4.vm).vm = T4.vm from rfl, hSr4.1.alike.findClass]; exact hown2
  obtain ⟨rfl, N4q, K4, Ea4, Fa4, Fb4⟩ := hQ4
  have N4 := Fr.app N2 N4q
  obtain ⟨T5, h5, X5, e5, E5, A5, D5, -, st5⟩ := newO X4 hx hZ4 hown4 (hw _ (List.mem_of_getElem? (i := 1) rfl)) (hw _ (List.mem_of_getElem? (i := 2) rfl)) (hw _ (List.mem_of_getElem? (i := 3) rfl)) rfl (g := (mkF m 62 #[.val (.int p0), .val (.int p1), .val (.int p2), .val (.int p3), .val (.int (own_a p0)), .val (.int (own_a p1)), .val (.int (own_a p2)), .val (.int (own_a p3)), .val (.ref b1), .val (.ref b3), .unset, .unset, .unset, .unset, .unset, .unset, .unset, .unset, .unset, .unset, .unset, .unset, .unset, .unset] [])) rfl (hb hby at_62) (by decide) (by decide)
  obtain ⟨b5, g5⟩ : ∃ z, z = T4.heap.size := ⟨_, rfl⟩
  rw [← g5] at A5 D5 st5
  have F5_showingNonRelevant : Fld Z h5 b5 "com/example/osiris/osiris/principles/Losses" "showingNonRelevant" "D" (.double (0 : UInt64)) := D5 (Or.inr (hw _ (List.mem_of_getElem? (i := 37) rfl))) (ty := .double) (by decide)
  have F5_missingRelevant : Fld Z h5 b5 "com/example/osiris/osiris/principles/Losses" "missingRelevant" "D" (.double (0 : UInt64)) := D5 (Or.inr (hw _ (List.mem_of_getElem? (i := 39) rfl))) (ty := .double) (by decide)
  obtain ⟨_, _, ⟨T6, L6, k6, n6⟩, -, X6, hSr6, hgr6, ⟨Lc6, hQ6, l6, y6, z6⟩, st6⟩ := X5.specialBackS hx (y := (⟨"com/example/osiris/osiris/principles/Losses", "<init>", "(DD)V"⟩ : MethodName)) rfl hown4 (mvT hZ4 (hw _ (List.mem_of_getElem? (i := 4) rfl))) (mvT hZ4 (hw _ (List.mem_of_getElem? (i := 5) rfl))) (mvT hZ4 (hw _ (List.mem_of_getElem? (i := 6) rfl))) (by decide) (backOfS (W := 1) (rmlo l Z a0 hw [] b5 (FP.i2d (own_a p0)) (FP.i2d (own_a p0)) h5 n0 (Nat.le_trans (Nat.le_trans (Nat.le_trans (Nat.le_trans (Nat.le_trans Z0 E1.1) K2.1) E3.1) K4.1) E5.1) F5_showingNonRelevant F5_missingRelevant A5 (Nat.le_trans Z0 (Nat.le_trans (Nat.le_trans (Nat.le_trans (Nat.le_trans (Nat.le_trans (Nat.le_refl _) E1.1) K2.1) E3.1) K4.1) (Nat.le_of_eq g5.symm))) (Fl.i2d_fin _).noNaN (own_isf p0) (own_gt0 p0) (Fl.i2d_fin _).noNaN (own_isf p0) (own_gt0 p0)) hZ4 (hw _ (List.mem_of_getElem? (i := 6) rfl)) (hw _ (List.mem_of_getElem? (i := 3) rfl)) (by decide) (by decide)) (g := (mkF m 72 #[.val (.int p0), .val (.int p1), .val (.int p2), .val (.int p3), .val (.int (own_a p0)), .val (.int (own_a p1)), .val (.int (own_a p2)), .val (.int (own_a p3)), .val (.ref b1), .val (.ref b3), .unset, .unset, .unset, .unset, .unset, .unset, .unset, .unset, .unset, .unset, .unset, .unset, .unset, .unset] [(.double (FP.i2d (own_a p0))), (.double (FP.i2d (own_a p0))), (.ref b5), (.ref b5)])) rfl (by rw [hml]; rfl) (Steps.refl _) (a := b5) (argsL := [(.double (FP.i2d (own_a p0))), (.double (FP.i2d (own_a p0)))]) (rest := [(.ref b5)]) (lenOf pd_4 rfl) rfl (by show 2 * 0 + _ ≤ _; exact Nat.le_of_eq rfl) (hb hby at_72) (fun _ _ => ⟨rfl, e5, (by decide : 11 + 4 ≤ _), (by decide : 550 + 272 ≤ _)⟩)
  dsimp only [Pt.U, Pt.locs, Pt.cells, Pt.slots] at X6 l6 y6 z6 st6 hQ6 hSr6 hgr6
  subst l6 y6 z6
  have hS6 : s.Since T6.vm T6.heap.size := foldS (T := T5) hS4 (by rw [e5]; exact (Nat.le_trans (Nat.le_refl _) E5.1)) hSr6 hgr6
  have hZ6 : Z.Warmed39 (s.setVm T6.vm).vm := State.Warmed39.trans (t := s.setVm T4.vm) hZ4 hSr6.1
  have hown6 : (s.setVm T6.vm).vm.findClass "com/example/osiris/osiris/principles/LossesThresholdPinLaw" = some m.cls := by rw [show (s.setVm T6.vm).vm = T6.vm from rfl, hSr6.1.alike.findClass]; exact hown4
  obtain ⟨rfl, N6q, K6, Ea6, Fa6, Fb6⟩ := hQ6
  have N6 := Fr.app N4 N6q
  obtain ⟨cq7, kq7, q7a, q7b, q7c⟩ := isOf hZ6 rfl ((((Ea2.ext E3).keep K4).ext E5).keep K6)
  obtain ⟨_, _, ⟨T7, L7, k7, n7⟩, -, X7, ⟨Lc7, hQ7, l7, y7, z7⟩, st7⟩ := X6.virtualBack hx (y := (⟨"com/example/osiris/osiris/principles/Losses", "threshold", "()D"⟩ : MethodName)) (z := (⟨"com/example/osiris/osiris/principles/Losses", "threshold", "()D"⟩ : MethodName)) hown6 (mvT hZ6 (hw _ (List.mem_of_getElem? (i := 40) rfl))) (mvT hZ6 (hw _ (List.mem_of_getElem? (i := 41) rfl))) (notFace_of_selects (args := #[]) (mvT hZ6 (hw _ (List.mem_of_getElem? (i := 43) rfl)))) (mvT hZ6 (hw _ (List.mem_of_getElem? (i := 43) rfl))) (mvT hZ6 (hw _ (List.mem_of_getElem? (i := 42) rfl))) (by decide) (backOf (W := 0) (rmth l Z a0 hw [] b1 (FP.i2d (own_a p0)) (FP.i2d (own_a p1)) T6.heap n0 (Nat.le_trans (Nat.le_trans (Nat.le_trans (Nat.le_trans (Nat.le_trans (Nat.le_trans Z0 E1.1) K2.1) E3.1) K4.1) E5.1) K6.1) ((((Fa2.ext E3).keep K4 (ninS (Nat.ne_of_lt (Nat.lt_of_lt_of_le Ea2.lt (Nat.le_of_eq g3.symm))) nin0)).ext E5).keep K6 (ninS (Nat.ne_of_lt (Nat.lt_of_lt_of_le ((Ea2.ext E3).keep K4).lt (Nat.le_of_eq g5.symm))) nin0)) ((((Fb2.ext E3).keep K4 (ninS (Nat.ne_of_lt (Nat.lt_of_lt_of_le Ea2.lt (Nat.le_of_eq g3.symm))) nin0)).ext E5).keep K6 (ninS (Nat.ne_of_lt (Nat.lt_of_lt_of_le ((Ea2.ext E3).keep K4).lt (Nat.le_of_eq g5.symm))) nin0)) (own_nn1 p0 p1) (own_nn2 p0 p1)) hZ6 (hw _ (List.mem_of_getElem? (i := 44) rfl)) (hw _ (List.mem_of_getElem? (i := 3) rfl)) (by decide) (by decide)) q7a q7c (g := (mkF m 79 #[.val (.int p0), .val (.int p1), .val (.int p2), .val (.int p3), .val (.int (own_a p0)), .val (.int (own_a p1)), .val (.int (own_a p2)), .val (.int (own_a p3)), .val (.ref b1), .val (.ref b3), .val (.ref b5), .unset, .unset, .unset, .unset, .unset, .unset, .unset, .unset, .unset, .unset, .unset, .unset, .unset] [(.ref b1)])) rfl (by rw [hml]; rfl) (Steps.refl _) (argsL := []) (rest := []) (lenOf pd_5 rfl) rfl (by show 2 * 0 + _ ≤ _; exact Nat.le_of_eq rfl) (hb hby at_79) (fun _ _ => ⟨rfl, rfl, (by decide : 15 + 0 ≤ _), (by decide : 822 + 0 ≤ _)⟩)
  dsimp only [Pt.U, Pt.locs, Pt.cells, Pt.slots] at X7 l7 y7 z7 st7 hQ7
  subst l7 y7 z7
  obtain ⟨rfl, N7q, eh7⟩ := hQ7
  have N7 := Fr.app N6 N7q
  obtain ⟨cq8, kq8, q8a, q8b, q8c⟩ := isOf hZ6 eh7 ((Ea4.ext E5).keep K6)
  obtain ⟨_, _, ⟨T8, L8, k8, n8⟩, -, X8, ⟨Lc8, hQ8, l8, y8, z8⟩, st8⟩ := X7.virtualBack hx (y := (⟨"com/example/osiris/osiris/principles/Losses", "threshold", "()D"⟩ : MethodName)) (z := (⟨"com/example/osiris/osiris/principles/Losses", "threshold", "()D"⟩ : MethodName)) hown6 (mvT hZ6 (hw _ (List.mem_of_getElem? (i := 40) rfl))) (mvT hZ6 (hw _ (List.mem_of_getElem? (i := 41) rfl))) (notFace_of_selects (args := #[]) (mvT hZ6 (hw _ (List.mem_of_getElem? (i := 43) rfl)))) (mvT hZ6 (hw _ (List.mem_of_getElem? (i := 43) rfl))) (mvT hZ6 (hw _ (List.mem_of_getElem? (i := 42) rfl))) (by decide) (backOf (W := 0) (rmth l Z a0 hw [] b3 (FP.i2d (own_a p2)) (FP.i2d (own_a p3)) T6.heap n0 (Nat.le_trans (Nat.le_trans (Nat.le_trans (Nat.le_trans (Nat.le_trans (Nat.le_trans Z0 E1.1) K2.1) E3.1) K4.1) E5.1) K6.1) ((Fa4.ext E5).keep K6 (ninS (Nat.ne_of_lt (Nat.lt_of_lt_of_le Ea4.lt (Nat.le_of_eq g5.symm))) nin0)) ((Fb4.ext E5).keep K6 (ninS (Nat.ne_of_lt (Nat.lt_of_lt_of_le Ea4.lt (Nat.le_of_eq g5.symm))) nin0)) (own_nn1 p2 p3) (own_nn2 p2 p3)) hZ6 (hw _ (List.mem_of_getElem? (i := 44) rfl)) (hw _ (List.mem_of_getElem? (i := 3) rfl)) (by decide) (by decide)) q8a q8c (g := (mkF m 86 #[.val (.int p0), .val (.int p1), .val (.int p2), .val (.int p3), .val (.int (own_a p0)), .val (.int (own_a p1)), .val (.int (own_a p2)), .val (.int (own_a p3)), .val (.ref b1), .val (.ref b3), .val (.ref b5), .val (.double (own_t (own_a p0) (own_a p1))), .second, .unset, .unset, .unset, .unset, .unset, .unset, .unset, .unset, .unset, .unset, .unset] [(.ref b3)])) rfl (by rw [hml]; rfl) (Steps.refl _) (argsL := []) (rest := []) (lenOf pd_5 rfl) rfl (by show 2 * 0 + _ ≤ _; exact Nat.le_of_eq rfl) (hb hby at_86) (fun _ _ => ⟨rfl, eh7, (by decide : 15 + 0 ≤ _), (by decide : 822 + 0 ≤ _)⟩)
  dsimp only [Pt.U, Pt.locs, Pt.cells, Pt.slots] at X8 l8 y8 z8 st8 hQ8
  subst l8 y8 z8
  obtain ⟨rfl, N8q, eh8⟩ := hQ8
  have N8 := Fr.app N7 N8q
  obtain ⟨cq9, kq9, q9a, q9b, q9c⟩ := isOf hZ6 eh8 Ea6
  obtain ⟨_, _, ⟨T9, L9, k9, n9⟩, -, X9, ⟨Lc9, hQ9, l9, y9, z9⟩, st9⟩ := X8.virtualBack hx (y := (⟨"com/example/osiris/osiris/principles/Losses", "threshold", "()D"⟩ : MethodName)) (z := (⟨"com/example/osiris/osiris/principles/Losses", "threshold", "()D"⟩ : MethodName)) hown6 (mvT hZ6 (hw _ (List.mem_of_getElem? (i := 40) rfl))) (mvT hZ6 (hw _ (List.mem_of_getElem? (i := 41) rfl))) (notFace_of_selects (args := #[]) (mvT hZ6 (hw _ (List.mem_of_getElem? (i := 43) rfl)))) (mvT hZ6 (hw _ (List.mem_of_getElem? (i := 43) rfl))) (mvT hZ6 (hw _ (List.mem_of_getElem? (i := 42) rfl))) (by decide) (backOf (W := 0) (rmth l Z a0 hw [] b5 (FP.i2d (own_a p0)) (FP.i2d (own_a p0)) T6.heap n0 (Nat.le_trans (Nat.le_trans (Nat.le_trans (Nat.le_trans (Nat.le_trans (Nat.le_trans Z0 E1.1) K2.1) E3.1) K4.1) E5.1) K6.1) Fa6 Fb6 (own_nn1 p0 p0) (own_nn2 p0 p0)) hZ6 (hw _ (List.mem_of_getElem? (i := 44) rfl)) (hw _ (List.mem_of_getElem? (i := 3) rfl)) (by decide) (by decide)) q9a q9c (g := (mkF m 93 #[.val (.int p0), .val (.int p1), .val (.int p2), .val (.int p3), .val (.int (own_a p0)), .val (.int (own_a p1)), .val (.int (own_a p2)), .val (.int (own_a p3)), .val (.ref b1), .val (.ref b3), .val (.ref b5), .val (.double (own_t (own_a p0) (own_a p1))), .second, .val (.double (own_t (own_a p2) (own_a p3))), .second, .unset, .unset, .unset, .unset, .unset, .unset, .unset, .unset, .unset] [(.ref b5)])) rfl (by rw [hml]; rfl) (Steps.refl _) (argsL := []) (rest := []) (lenOf pd_5 rfl) rfl (by show 2 * 0 + _ ≤ _; exact Nat.le_of_eq rfl) (hb hby at_93) (fun _ _ => ⟨rfl, eh8, (by decide : 15 + 0 ≤ _), (by decide : 822 + 0 ≤ _)⟩)
  dsimp only [Pt.U, Pt.locs, Pt.cells, Pt.slots] at X9 l9 y9 z9 st9 hQ9
  subst l9 y9 z9
  obtain ⟨rfl, N9q, eh9⟩ := hQ9
  have N9 := Fr.app N8 N9q
  obtain ⟨fs, hr, hrun, hended, hend⟩ := Stand.leaveW (s := s) X9 hS6 (by rw [eh9]; exact (Nat.le_refl _)) (v := some (.int (nar .boolean (1 : Int32)))) (fun h => by rw [Bd.returns] at h; cases h)
  refine ⟨_, _, pre0 _ ?_, hrun, hended, _, _, rfl, ?_, ⟨hend.1, hend.2.1, hend.2.2.1, hend.2.2.2.mono (by decide) (by decide)⟩⟩
  · show Steps p.tables e below (s₁.setTop (mkF m 0 #[.val (.int p0), .val (.int p1), .val (.int p2), .val (.int p3), .unset, .unset, .unset, .unset, .unset, .unset, .unset, .unset, .unset, .unset, .unset, .unset, .unset, .unset, .unset, .unset, .unset, .unset, .unset, .unset] [])) _
    refine XS.iloadN X0.here hx rfl (hb hby at_0) rfl ?_
    show Steps p.tables e below (s₁.setTop (mkF m 1 #[.val (.int p0), .val (.int p1), .val (.int p2), .val (.int p3), .unset, .unset, .unset, .unset, .unset, .unset, .unset, .unset, .unset, .unset, .unset, .unset, .unset, .unset, .unset, .unset, .unset, .unset, .unset, .unset] [(.int p0)])) _
    refine X0.ldcInt hx hown (mvT hZ (hw _ (List.mem_of_getElem? (i := 0) rfl))) (g := (mkF m 1 #[.val (.int p0), .val (.int p1), .val (.int p2), .val (.int p3), .unset, .unset, .unset, .unset, .unset, .unset, .unset, .unset, .unset, .unset, .unset, .unset, .unset, .unset, .unset, .unset, .unset, .unset, .unset, .unset] [(.int p0)])) rfl (hb hby at_1) _ ?_
    show Steps p.tables e below (s₁.setTop (mkF m 3 #[.val (.int p0), .val (.int p1), .val (.int p2), .val (.int p3), .unset, .unset, .unset, .unset, .unset, .unset, .unset, .unset, .unset, .unset, .unset, .unset, .unset, .unset, .unset, .unset, .unset, .unset, .unset, .unset] [(.int (65535 : Int32)), (.int p0)])) _
    refine XS.iand X0.here hx rfl (hb hby at_3) rfl ?_
    show Steps p.tables e below (s₁.setTop (mkF m 4 #[.val (.int p0), .val (.int p1), .val (.int p2), .val (.int p3), .unset, .unset, .unset, .unset, .unset, .unset, .unset, .unset, .unset, .unset, .unset, .unset, .unset, .unset, .unset, .unset, .unset, .unset, .unset, .unset] [(.int (p0 &&& (65535 : Int32)))])) _
    refine XS.iconst X0.here hx rfl (hb hby at_4) ?_
    show Steps p.tables e below (s₁.setTop (mkF m 5 #[.val (.int p0), .val (.int p1), .val (.int p2), .val (.int p3), .unset, .unset, .unset, .unset, .unset, .unset, .unset, .unset, .unset, .unset, .unset, .unset, .unset, .unset, .unset, .unset, .unset, .unset, .unset, .unset] [(.int (1 : Int32)), (.int (p0 &&& (65535 : Int32)))])) _
    refine XS.iadd X0.here hx rfl (hb hby at_5) rfl ?_
    show Steps p.tables e below (s₁.setTop (mkF m 6 #[.val (.int p0), .val (.int p1), .val (.int p2), .val (.int p3), .unset, .unset, .unset, .unset, .unset, .unset, .unset, .unset, .unset, .unset, .unset, .unset, .unset, .unset, .unset, .unset, .unset, .unset, .unset, .unset] [(.int (own_a p0))])) _
    refine XS.istore X0.here hx rfl (hb hby at_6) rfl (l' := #[.val (.int p0), .val (.int p1), .val (.int p2), .val (.int p3), .val (.int (own_a p0)), .unset, .unset, .unset, .unset, .unset, .unset, .unset, .unset, .unset, .unset, .unset, .unset, .unset, .unset, .unset, .unset, .unset, .unset, .unset]) rfl ?_
    show Steps p.tables e below (s₁.setTop (mkF m 8 #[.val (.int p0), .val (.int p1), .val (.int p2), .val (.int p3), .val (.int (own_a p0)), .unset, .unset, .unset, .unset, .unset, .unset, .unset, .unset, .unset, .unset, .unset, .unset, .unset, .unset, .unset, .unset, .unset, .unset, .unset] [])) _
    refine XS.iloadN X0.here hx rfl (hb hby at_8) rfl ?_
    show Steps p.tables e below (s₁.setTop (mkF m 9 #[.val (.int p0), .val (.int p1), .val (.int p2), .val (.int p3), .val (.int (own_a p0)), .unset, .unset, .unset, .unset, .unset, .unset, .unset, .unset, .unset, .unset, .unset, .unset, .unset, .unset, .unset, .unset, .unset, .unset, .unset] [(.int p1)])) _
    refine X0.ldcInt hx hown (mvT hZ (hw _ (List.mem_of_getElem? (i := 0) rfl))) (g := (mkF m 9 #[.val (.int p0), .val (.int p1), .val (.int p2), .val (.int p3), .val (.int (own_a p0)), .unset, .unset, .unset, .unset, .unset, .unset, .unset, .unset, .unset, .unset, .unset, .unset, .unset, .unset, .unset, .unset, .unset, .unset, .unset] [(.int p1)])) rfl (hb hby at_9) _ ?_
    show Steps p.tables e below (s₁.setTop (mkF m 11 #[.val (.int p0), .val (.int p1), .val (.int p2), .val (.int p3), .val (.int (own_a p0)), .unset, .unset, .unset, .unset, .unset, .unset, .unset, .unset, .unset, .unset, .unset, .unset, .unset, .unset, .unset, .unset, .unset, .unset, .unset] [(.int (65535 : Int32)), (.int p1)])) _
    refine XS.iand X0.here hx rfl (hb hby at_11) rfl ?_
    show Steps p.tables e below (s₁.setTop (mkF m 12 #[.val (.int p0), .val (.int p1), .val (.int p2), .val (.int p3), .val (.int (own_a p0)), .unset, .unset, .unset, .unset, .unset, .unset, .unset, .unset, .unset, .unset, .unset, .unset, .unset, .unset, .unset, .unset, .unset, .unset, .unset] [(.int (p1 &&& (65535 : Int32)))])) _
    refine XS.iconst X0.here hx rfl (hb hby at_12) ?_
    show Steps p.tables e below (s₁.setTop (mkF m 13 #[.val (.int p0), .val (.int p1), .val (.int p2), .val (.int p3), .val (.int (own_a p0)), .unset, .unset, .unset, .unset, .unset, .unset, .unset, .unset, .unset, .unset, .unset, .unset, .unset, .unset, .unset, .unset, .unset, .unset, .unset] [(.int (1 : Int32)), (.int (p1 &&& (65535 : Int32)))])) _
    refine XS.iadd X0.here hx rfl (hb hby at_13) rfl ?_
    show Steps p.tables e below (s₁.setTop (mkF m 14 #[.val (.int p0), .val (.int p1), .val (.int p2), .val (.int p3), .val (.int (own_a p0)), .unset, .unset, .unset, .unset, .unset, .unset, .unset, .unset, .unset, .unset, .unset, .unset, .unset, .unset, .unset, .unset, .unset, .unset, .unset] [(.int (own_a p1))])) _
    refine XS.istore X0.here hx rfl (hb hby at_14) rfl (l' := #[.val (.int p0), .val (.int p1), .val (.int p2), .val (.int p3), .val (.int (own_a p0)), .val (.int (own_a p1)), .unset, .unset, .unset, .unset, .unset, .unset, .unset, .unset, .unset, .unset, .unset, .unset, .unset, .unset, .unset, .unset, .unset, .unset]) rfl ?_
    show Steps p.tables e below (s₁.setTop (mkF m 16 #[.val (.int p0), .val (.int p1), .val (.int p2), .val (.int p3), .val (.int (own_a p0)), .val (.int (own_a p1)), .unset, .unset, .unset, .unset, .unset, .unset, .unset, .unset, .unset, .unset, .unset, .unset, .unset, .unset, .unset, .unset, .unset, .unset] [])) _
    refine XS.iloadN X0.here hx rfl (hb hby at_16) rfl ?_
    show Steps p.tables e below (s₁.setTop (mkF m 17 #[.val (.int p0), .val (.int p1), .val (.int p2), .val (.int p3), .val (.int (own_a p0)), .val (.int (own_a p1)), .unset, .unset, .unset, .unset, .unset, .unset, .unset, .unset, .unset, .unset, .unset, .unset, .unset, .unset, .unset, .unset, .unset, .unset] [(.int p2)])) _
    refine X0.ldcInt hx hown (mvT hZ (hw _ (List.mem_of_getElem? (i := 0) rfl))) (g := (mkF m 17 #[.val (.int p0), .val (.int p1), .val (.int p2), .val (.int p3), .val (.int (own_a p0)), .val (.int (own_a p1)), .unset, .unset, .unset, .unset, .unset, .unset, .unset, .unset, .unset, .unset, .unset, .unset, .unset, .unset, .unset, .unset, .unset, .unset] [(.int p2)])) rfl (hb hby at_17) _ ?_
    show Steps p.tables e below (s₁.setTop (mkF m 19 #[.val (.int p0), .val (.int p1), .val (.int p2), .val (.int p3), .val (.int (own_a p0)), .val (.int (own_a p1)), .unset, .unset, .unset, .unset, .unset, .unset, .unset, .unset, .unset, .unset, .unset, .unset, .unset, .unset, .unset, .unset, .unset, .unset] [(.int (65535 : Int32)), (.int p2)])) _
    refine XS.iand X0.here hx rfl (hb hby at_19) rfl ?_
    show Steps p.tables e below (s₁.setTop (mkF m 20 #[.val (.int p0), .val (.int p1), .val (.int p2), .val (.int p3), .val (.int (own_a p0)), .val (.int (own_a p1)), .unset, .unset, .unset, .unset, .unset, .unset, .unset, .unset, .unset, .unset, .unset, .unset, .unset, .unset, .unset, .unset, .unset, .unset] [(.int (p2 &&& (65535 : Int32)))])) _
    refine XS.iconst X0.here hx rfl (hb hby at_20) ?_
    show Steps p.tables e below (s₁.setTop (mkF m 21 #[.val (.int p0), .val (.int p1), .val (.int p2), .val (.int p3), .val (.int (own_a p0)), .val (.int (own_a p1)), .unset, .unset, .unset, .unset, .unset, .unset, .unset, .unset, .unset, .unset, .unset, .unset, .unset, .unset, .unset, .unset, .unset, .unset] [(.int (1 : Int32)), (.int (p2 &&& (65535 : Int32)))])) _
    refine XS.iadd X0.here hx rfl (hb hby at_21) rfl ?_
    show Steps p.tables e below (s₁.setTop (mkF m 22 #[.val (.int p0), .val (.int p1), .val (.int p2), .val (.int p3), .val (.int (own_a p0)), .val (.int (own_a p1)), .unset, .unset, .unset, .unset, .unset, .unset, .unset, .unset, .unset, .unset, .unset, .unset, .unset, .unset, .unset, .unset, .unset, .unset] [(.int (own_a p2))])) _
    refine XS.istore X0.here hx rfl (hb hby at_22) rfl (l' := #[.val (.int p0), .val (.int p1), .val (.int p2), .val (.int p3), .val (.int (own_a p0)), .val (.int (own_a p1)), .val (.int (own_a p2)), .unset, .unset, .unset, .unset, .unset, .unset, .unset, .unset, .unset, .unset, .unset, .unset, .unset, .unset, .unset, .unset, .unset]) rfl ?_
    show Steps p.tables e below (s₁.setTop (mkF m 24 #[.val (.int p0), .val (.int p1), .val (.int p2), .val (.int p3), .val (.int (own_a p0)), .val (.int (own_a p1)), .val (.int (own_a p2)), .unset, .unset, .unset, .unset, .unset, .unset, .unset, .unset, .unset, .unset, .unset, .unset, .unset, .unset, .unset, .unset, .unset] [])) _
    refine XS.iloadN X0.here hx rfl (hb hby at_24) rfl ?_
    show Steps p.tables e below (s₁.setTop (mkF m 25 #[.val (.int p0), .val (.int p1), .val (.int p2), .val (.int p3), .val (.int (own_a p0)), .val (.int (own_a p1)), .val (.int (own_a p2)), .unset, .unset, .unset, .unset, .unset, .unset, .unset, .unset, .unset, .unset, .unset, .unset, .unset, .unset, .unset, .unset, .unset] [(.int p3)])) _
    refine X0.ldcInt hx hown (mvT hZ (hw _ (List.mem_of_getElem? (i := 0) rfl))) (g := (mkF m 25 #[.val (.int p0), .val (.int p1), .val (.int p2), .val (.int p3), .val (.int (own_a p0)), .val (.int (own_a p1)), .val (.int (own_a p2)), .unset, .unset, .unset, .unset, .unset, .unset, .unset, .unset, .unset, .unset, .unset, .unset, .unset, .unset, .unset, .unset, .unset] [(.int p3)])) rfl (hb hby at_25) _ ?_
    show Steps p.tables e below (s₁.setTop (mkF m 27 #[.val (.int p0), .val (.int p1), .val (.int p2), .val (.int p3), .val (.int (own_a p0)), .val (.int (own_a p1)), .val (.int (own_a p2)), .unset, .unset, .unset, .unset, .unset, .unset, .unset, .unset, .unset, .unset, .unset, .unset, .unset, .unset, .unset, .unset, .unset] [(.int (65535 : Int32)), (.int p3)])) _
    refine XS.iand X0.here hx rfl (hb hby at_27) rfl ?_
    show Steps p.tables e below (s₁.setTop (mkF m 28 #[.val (.int p0), .val (.int p1), .val (.int p2), .val (.int p3), .val (.int (own_a p0)), .val (.int (own_a p1)), .val (.int (own_a p2)), .unset, .unset, .unset, .unset, .unset, .unset, .unset, .unset, .unset, .unset, .unset, .unset, .unset, .unset, .unset, .unset, .unset] [(.int (p3 &&& (65535 : Int32)))])) _
    refine XS.iconst X0.here hx rfl (hb hby at_28) ?_
    show Steps p.tables e below (s₁.setTop (mkF m 29 #[.val (.int p0), .val (.int p1), .val (.int p2), .val (.int p3), .val (.int (own_a p0)), .val (.int (own_a p1)), .val (.int (own_a p2)), .unset, .unset, .unset, .unset, .unset, .unset, .unset, .unset, .unset, .unset, .unset, .unset, .unset, .unset, .unset, .unset, .unset] [(.int (1 : Int32)), (.int (p3 &&& (65535 : Int32)))])) _
    refine XS.iadd X0.here hx rfl (hb hby at_29) rfl ?_
    show Steps p.tables e below (s₁.setTop (mkF m 30 #[.val (.int p0), .val (.int p1), .val (.int p2), .val (.int p3), .val (.int (own_a p0)), .val (.int (own_a p1)), .val (.int (own_a p2)), .unset, .unset, .unset, .unset, .unset, .unset, .unset, .unset, .unset, .unset, .unset, .unset, .unset, .unset, .unset, .unset, .unset] [(.int (own_a p3))])) _
    refine XS.istore X0.here hx rfl (hb hby at_30) rfl (l' := #[.val (.int p0), .val (.int p1), .val (.int p2), .val (.int p3), .val (.int (own_a p0)), .val (.int (own_a p1)), .val (.int (own_a p2)), .val (.int (own_a p3)), .unset, .unset, .unset, .unset, .unset, .unset, .unset, .unset, .unset, .unset, .unset, .unset, .unset, .unset, .unset, .unset]) rfl ?_
    show Steps p.tables e below (s₁.setTop (mkF m 32 #[.val (.int p0), .val (.int p1), .val (.int p2), .val (.int p3), .val (.int (own_a p0)), .val (.int (own_a p1)), .val (.int (own_a p2)), .val (.int (own_a p3)), .unset, .unset, .unset, .unset, .unset, .unset, .unset, .unset, .unset, .unset, .unset, .unset, .unset, .unset, .unset, .unset] [])) _
    refine st1 _ ?_
    show Steps p.tables e below (T1.setTop (mkF m 35 #[.val (.int p0), .val (.int p1), .val (.int p2), .val (.int p3), .val (.int (own_a p0)), .val (.int (own_a p1)), .val (.int (own_a p2)), .val (.int (own_a p3)), .unset, .unset, .unset, .unset, .unset, .unset, .unset, .unset, .unset, .unset, .unset, .unset, .unset, .unset, .unset, .unset] [(.ref b1)])) _
    refine XS.dup X1.here hx rfl (hb hby at_35) rfl rfl ?_
    show Steps p.tables e below (T1.setTop (mkF m 36 #[.val (.int p0), .val (.int p1), .val (.int p2), .val (.int p3), .val (.int (own_a p0)), .val (.int (own_a p1)), .val (.int (own_a p2)), .val (.int (own_a p3)), .unset, .unset, .unset, .unset, .unset, .unset, .unset, .unset, .unset, .unset, .unset, .unset, .unset, .unset, .unset, .unset] [(.ref b1), (.ref b1)])) _
    refine XS.iload X1.here hx rfl (hb hby at_36) rfl ?_
    show Steps p.tables e below (T1.setTop (mkF m 38 #[.val (.int p0), .val (.int p1), .val (.int p2), .val (.int p3), .val (.int (own_a p0)), .val (.int (own_a p1)), .val (.int (own_a p2)), .val (.int (own_a p3)), .unset, .unset, .unset, .unset, .unset, .unset, .unset, .unset, .unset, .unset, .unset, .unset, .unset, .unset, .unset, .unset] [(.int (own_a p0)), (.ref b1), (.ref b1)])) _
    refine XS.i2dS X1.here hx rfl (hb hby at_38) rfl rfl ?_
    show Steps p.tables e below (T1.setTop (mkF m 39 #[.val (.int p0), .val (.int p1), .val (.int p2), .val (.int p3), .val (.int (own_a p0)), .val (.int (own_a p1)), .val (.int (own_a p2)), .val (.int (own_a p3)), .unset, .unset, .unset, .unset, .unset, .unset, .unset, .unset, .unset, .unset, .unset, .unset, .unset, .unset, .unset, .unset] [(.double (FP.i2d (own_a p0))), (.ref b1), (.ref b1)])) _
    refine XS.iload X1.here hx rfl (hb hby at_39) rfl ?_
    show Steps p.tables e below (T1.setTop (mkF m 41 #[.val (.int p0), .val (.int p1), .val (.int p2), .val (.int p3), .val (.int (own_a p0)), .val (.int (own_a p1)), .val (.int (own_a p2)), .val (.int (own_a p3)), .unset, .unset, .unset, .unset, .unset, .unset, .unset, .unset, .unset, .unset, .unset, .unset, .unset, .unset, .unset, .unset] [(.int (own_a p1)), (.double (FP.i2d (own_a p0))), (.ref b1), (.ref b1)])) _
    refine XS.i2dS X1.here hx rfl (hb hby at_41) rfl rfl ?_
    show Steps p.tables e below (T1.setTop (mkF m 42 #[.val (.int p0), .val (.int p1), .val (.int p2), .val (.int p3), .val (.int (own_a p0)), .val (.int (own_a p1)), .val (.int (own_a p2)), .val (.int (own_a p3)), .unset, .unset, .unset, .unset, .unset, .unset, .unset, .unset, .unset, .unset, .unset, .unset, .unset, .unset, .unset, .unset] [(.double (FP.i2d (own_a p1))), (.double (FP.i2d (own_a p0))), (.ref b1), (.ref b1)])) _
    refine st2.trans ?_
    show Steps p.tables e below (T2.setTop (mkF m 45 #[.val (.int p0), .val (.int p1), .val (.int p2), .val (.int p3), .val (.int (own_a p0)), .val (.int (own_a p1)), .val (.int (own_a p2)), .val (.int (own_a p3)), .unset, .unset, .unset, .unset, .unset, .unset, .unset, .unset, .unset, .unset, .unset, .unset, .unset, .unset, .unset, .unset] [(.ref b1)])) _
    refine XS.astore X2.here hx rfl (hb hby at_45) rfl rfl (l' := #[.val (.int p0), .val (.int p1), .val (.int p2), .val (.int p3), .val (.int (own_a p0)), .val (.int (own_a p1)), .val (.int (own_a p2)), .val (.int (own_a p3)), .val (.ref b1), .unset, .unset, .unset, .unset, .unset, .unset, .unset, .unset, .unset, .unset, .unset, .unset, .unset, .unset, .unset]) rfl ?_
    show Steps p.tables e below (T2.setTop (mkF m 47 #[.val (.int p0), .val (.int p1), .val (.int p2), .val (.int p3), .val (.int (own_a p0)), .val (.int (own_a p1)), .val (.int (own_a p2)), .val (.int (own_a p3)), .val (.ref b1), .unset, .unset, .unset, .unset, .unset, .unset, .unset, .unset, .unset, .unset, .unset, .unset, .unset, .unset, .unset] [])) _
    refine st3 _ ?_
    show Steps p.tables e below (T3.setTop (mkF m 50 #[.val (.int p0), .val (.int p1), .val (.int p2), .val (.int p3), .val (.int (own_a p0)), .val (.int (own_a p1)), .val (.int (own_a p2)), .val (.int (own_a p3)), .val (.ref b1), .unset, .unset, .unset, .unset, .unset, .unset, .unset, .unset, .unset, .unset, .unset, .unset, .unset, .unset, .unset] [(.ref b3)])) _
    refine XS.dup X3.here hx rfl (hb hby at_50) rfl rfl ?_
    show Steps p.tables e below (T3.setTop (mkF m 51 #[.val (.int p0), .val (.int p1), .val (.int p2), .val (.int p3), .val (.int (own_a p0)), .val (.int (own_a p1)), .val (.int (own_a p2)), .val (.int (own_a p3)), .val (.ref b1), .unset, .unset, .unset, .unset, .unset, .unset, .unset, .unset, .unset, .unset, .unset, .unset, .unset, .unset, .unset] [(.ref b3), (.ref b3)])) _
    refine XS.iload X3.here hx rfl (hb hby at_51) rfl ?_
    show Steps p.tables e below (T3.setTop (mkF m 53 #[.val (.int p0), .val (.int p1), .val (.int p2), .val (.int p3), .val (.int (own_a p0)), .val (.int (own_a p1)), .val (.int (own_a p2)), .val (.int (own_a p3)), .val (.ref b1), .unset, .unset, .unset, .unset, .unset, .unset, .unset, .unset, .unset, .unset, .unset, .unset, .unset, .unset, .unset] [(.int (own_a p2)), (.ref b3), (.ref b3)])) _
    refine XS.i2dS X3.here hx rfl (hb hby at_53) rfl rfl ?_
    show Steps p.tables e below (T3.setTop (mkF m 54 #[.val (.int p0), .val (.int p1), .val (.int p2), .val (.int p3), .val (.int (own_a p0)), .val (.int (own_a p1)), .val (.int (own_a p2)), .val (.int (own_a p3)), .val (.ref b1), .unset, .unset, .unset, .unset, .unset, .unset, .unset, .unset, .unset, .unset, .unset, .unset, .unset, .unset, .unset] [(.double (FP.i2d (own_a p2))), (.ref b3), (.ref b3)])) _
    refine XS.iload X3.here hx rfl (hb hby at_54) rfl ?_
    show Steps p.tables e below (T3.setTop (mkF m 56 #[.val (.int p0), .val (.int p1), .val (.int p2), .val (.int p3), .val (.int (own_a p0)), .val (.int (own_a p1)), .val (.int (own_a p2)), .val (.int (own_a p3)), .val (.ref b1), .unset, .unset, .unset, .unset, .unset, .unset, .unset, .unset, .unset, .unset, .unset, .unset, .unset, .unset, .unset] [(.int (own_a p3)), (.double (FP.i2d (own_a p2))), (.ref b3), (.ref b3)])) _
    refine XS.i2dS X3.here hx rfl (hb hby at_56) rfl rfl ?_
    show Steps p.tables e below (T3.setTop (mkF m 57 #[.val (.int p0), .val (.int p1), .val (.int p2), .val (.int p3), .val (.int (own_a p0)), .val (.int (own_a p1)), .val (.int (own_a p2)), .val (.int (own_a p3)), .val (.ref b1), .unset, .unset, .unset, .unset, .unset, .unset, .unset, .unset, .unset, .unset, .unset, .unset, .unset, .unset, .unset] [(.double (FP.i2d (own_a p3))), (.double (FP.i2d (own_a p2))), (.ref b3), (.ref b3)])) _
    refine st4.trans ?_
    show Steps p.tables e below (T4.setTop (mkF m 60 #[.val (.int p0), .val (.int p1), .val (.int p2), .val (.int p3), .val (.int (own_a p0)), .val (.int (own_a p1)), .val (.int (own_a p2)), .val (.int (own_a p3)), .val (.ref b1), .unset, .unset, .unset, .unset, .unset, .unset, .unset, .unset, .unset, .unset, .unset, .unset, .unset, .unset, .unset] [(.ref b3)])) _
    refine XS.astore X4.here hx rfl (hb hby at_60) rfl rfl (l' := #[.val (.int p0), .val (.int p1), .val (.int p2), .val (.int p3), .val (.int (own_a p0)), .val (.int (own_a p1)), .val (.int (own_a p2)), .val (.int (own_a p3)), .val (.ref b1), .val (.ref b3), .unset, .unset, .unset, .unset, .unset, .unset, .unset, .unset, .unset, .unset, .unset, .unset, .unset, .unset]) rfl ?_
    show Steps p.tables e below (T4.setTop (mkF m 62 #[.val (.int p0), .val (.int p1), .val (.int p2), .val (.int p3), .val (.int (own_a p0)), .val (.int (own_a p1)), .val (.int (own_a p2)), .val (.int (own_a p3)), .val (.ref b1), .val (.ref b3), .unset, .unset, .unset, .unset, .unset, .unset, .unset, .unset, .unset, .unset, .unset, .unset, .unset, .unset] [])) _
    refine st5 _ ?_
    show Steps p.tables e below (T5.setTop (mkF m 65 #[.val (.int p0), .val (.int p1), .val (.int p2), .val (.int p3), .val (.int (own_a p0)), .val (.int (own_a p1)), .val (.int (own_a p2)), .val (.int (own_a p3)), .val (.ref b1), .val (.ref b3), .unset, .unset, .unset, .unset, .unset, .unset, .unset, .unset, .unset, .unset, .unset, .unset, .unset, .unset] [(.ref b5)])) _
    refine XS.dup X5.here hx rfl (hb hby at_65) rfl rfl ?_
    show Steps p.tables e below (T5.setTop (mkF m 66 #[.val (.int p0), .val (.int p1), .val (.int p2), .val (.int p3), .val (.int (own_a p0)), .val (.int (own_a p1)), .val (.int (own_a p2)), .val (.int (own_a p3)), .val (.ref b1), .val (.ref b3), .unset, .unset, .unset, .unset, .unset, .unset, .unset, .unset, .unset, .unset, .unset, .unset, .unset, .unset] [(.ref b5), (.ref b5)])) _
    refine XS.iload X5.here hx rfl (hb hby at_66) rfl ?_
    show Steps p.tables e below (T5.setTop (mkF m 68 #[.val (.int p0), .val (.int p1), .val (.int p2), .val (.int p3), .val (.int (own_a p0)), .val (.int (own_a p1)), .val (.int (own_a p2)), .val (.int (own_a p3)), .val (.ref b1), .val (.ref b3), .unset, .unset, .unset, .unset, .unset, .unset, .unset, .unset, .unset, .unset, .unset, .unset, .unset, .unset] [(.int (own_a p0)), (.ref b5), (.ref b5)])) _
    refine XS.i2dS X5.here hx rfl (hb hby at_68) rfl rfl ?_
    show Steps p.tables e below (T5.setTop (mkF m 69 #[.val (.int p0), .val (.int p1), .val (.int p2), .val (.int p3), .val (.int (own_a p0)), .val (.int (own_a p1)), .val (.int (own_a p2)), .val (.int (own_a p3)), .val (.ref b1), .val (.ref b3), .unset, .unset, .unset, .unset, .unset, .unset, .unset, .unset, .unset, .unset, .unset, .unset, .unset, .unset] [(.double (FP.i2d (own_a p0))), (.ref b5), (.ref b5)])) _
    refine XS.iload X5.here hx rfl (hb hby at_69) rfl ?_
    show Steps p.tables e below (T5.setTop (mkF m 71 #[.val (.int p0), .val (.int p1), .val (.int p2), .val (.int p3), .val (.int (own_a p0)), .val (.int (own_a p1)), .val (.int (own_a p2)), .val (.int (own_a p3)), .val (.ref b1), .val (.ref b3), .unset, .unset, .unset, .unset, .unset, .unset, .unset, .unset, .unset, .unset, .unset, .unset, .unset, .unset] [(.int (own_a p0)), (.double (FP.i2d (own_a p0))), (.ref b5), (.ref b5)])) _
    refine XS.i2dS X5.here hx rfl (hb hby at_71) rfl rfl ?_
    show Steps p.tables e below (T5.setTop (mkF m 72 #[.val (.int p0), .val (.int p1), .val (.int p2), .val (.int p3), .val (.int (own_a p0)), .val (.int (own_a p1)), .val (.int (own_a p2)), .val (.int (own_a p3)), .val (.ref b1), .val (.ref b3), .unset, .unset, .unset, .unset, .unset, .unset, .unset, .unset, .unset, .unset, .unset, .unset, .unset, .unset] [(.double (FP.i2d (own_a p0))), (.double (FP.i2d (own_a p0))), (.ref b5), (.ref b5)])) _
    refine st6.trans ?_
    show Steps p.tables e below (T6.setTop (mkF m 75 #[.val (.int p0), .val (.int p1), .val (.int p2), .val (.int p3), .val (.int (own_a p0)), .val (.int (own_a p1)), .val (.int (own_a p2)), .val (.int (own_a p3)), .val (.ref b1), .val (.ref b3), .unset, .unset, .unset, .unset, .unset, .unset, .unset, .unset, .unset, .unset, .unset, .unset, .unset, .unset] [(.ref b5)])) _
    refine XS.astore X6.here hx rfl (hb hby at_75) rfl rfl (l' := #[.val (.int p0), .val (.int p1), .val (.int p2), .val (.int p3), .val (.int (own_a p0)), .val (.int (own_a p1)), .val (.int (own_a p2)), .val (.int (own_a p3)), .val (.ref b1), .val (.ref b3), .val (.ref b5), .unset, .unset, .unset, .unset, .unset, .unset, .unset, .unset, .unset, .unset, .unset, .unset, .unset]) rfl ?_
    show Steps p.tables e below (T6.setTop (mkF m 77 #[.val (.int p0), .val (.int p1), .val (.int p2), .val (.int p3), .val (.int (own_a p0)), .val (.int (own_a p1)), .val (.int (own_a p2)), .val (.int (own_a p3)), .val (.ref b1), .val (.ref b3), .val (.ref b5), .unset, .unset, .unset, .unset, .unset, .unset, .unset, .unset, .unset, .unset, .unset, .unset, .unset] [])) _
    refine XS.aload X6.here hx rfl (hb hby at_77) rfl rfl ?_
    show Steps p.tables e below (T6.setTop (mkF m 79 #[.val (.int p0), .val (.int p1), .val (.int p2), .val (.int p3), .val (.int (own_a p0)), .val (.int (own_a p1)), .val (.int (own_a p2)), .val (.int (own_a p3)), .val (.ref b1), .val (.ref b3), .val (.ref b5), .unset, .unset, .unset, .unset, .unset, .unset, .unset, .unset, .unset, .unset, .unset, .unset, .unset] [(.ref b1)])) _
    refine st7.trans ?_
    show Steps p.tables e below (T7.setTop (mkF m 82 #[.val (.int p0), .val (.int p1), .val (.int p2), .val (.int p3), .val (.int (own_a p0)), .val (.int (own_a p1)), .val (.int (own_a p2)), .val (.int (own_a p3)), .val (.ref b1), .val (.ref b3), .val (.ref b5), .unset, .unset, .unset, .unset, .unset, .unset, .unset, .unset, .unset, .unset, .unset, .unset, .unset] [(.double (own_t (own_a p0) (own_a p1)))])) _
    refine XS.dstore X7.here hx rfl (hb hby at_82) rfl (l' := #[.val (.int p0), .val (.int p1), .val (.int p2), .val (.int p3), .val (.int (own_a p0)), .val (.int (own_a p1)), .val (.int (own_a p2)), .val (.int (own_a p3)), .val (.ref b1), .val (.ref b3), .val (.ref b5), .val (.double (own_t (own_a p0) (own_a p1))), .second, .unset, .unset, .unset, .unset, .unset, .unset, .unset, .unset, .unset, .unset, .unset]) rfl ?_
    show Steps p.tables e below (T7.setTop (mkF m 84 #[.val (.int p0), .val (.int p1), .val (.int p2), .val (.int p3), .val (.int (own_a p0)), .val (.int (own_a p1)), .val (.int (own_a p2)), .val (.int (own_a p3)), .val (.ref b1), .val (.ref b3), .val (.ref b5), .val (.double (own_t (own_a p0) (own_a p1))), .second, .unset, .unset, .unset, .unset, .unset, .unset, .unset, .unset, .unset, .unset, .unset] [])) _
    refine XS.aload X7.here hx rfl (hb hby at_84) rfl rfl ?_
    show Steps p.tables e below (T7.setTop (mkF m 86 #[.val (.int p0), .val (.int p1), .val (.int p2), .val (.int p3), .val (.int (own_a p0)), .val (.int (own_a p1)), .val (.int (own_a p2)), .val (.int (own_a p3)), .val (.ref b1), .val (.ref b3), .val (.ref b5), .val (.double (own_t (own_a p0) (own_a p1))), .second, .unset, .unset, .unset, .unset, .unset, .unset, .unset, .unset, .unset, .unset, .unset] [(.ref b3)])) _
    refine st8.trans ?_
    show Steps p.tables e below (T8.setTop (mkF m 89 #[.val (.int p0), .val (.int p1), .val (.int p2), .val (.int p3), .val (.int (own_a p0)), .val (.int (own_a p1)), .val (.int (own_a p2)), .val (.int (own_a p3)), .val (.ref b1), .val (.ref b3), .val (.ref b5), .val (.double (own_t (own_a p0) (own_a p1))), .second, .unset, .unset, .unset, .unset, .unset, .unset, .unset, .unset, .unset, .unset, .unset] [(.double (own_t (own_a p2) (own_a p3)))])) _
    refine XS.dstore X8.here hx rfl (hb hby at_89) rfl (l' := #[.val (.int p0), .val (.int p1), .val (.int p2), .val (.int p3), .val (.int (own_a p0)), .val (.int (own_a p1)), .val (.int (own_a p2)), .val (.int (own_a p3)), .val (.ref b1), .val (.ref b3), .val (.ref b5), .val (.double (own_t (own_a p0) (own_a p1))), .second, .val (.double (own_t (own_a p2) (own_a p3))), .second, .unset, .unset, .unset, .unset, .unset, .unset, .unset, .unset, .unset]) rfl ?_
    show Steps p.tables e below (T8.setTop (mkF m 91 #[.val (.int p0), .val (.int p1), .val (.int p2), .val (.int p3), .val (.int (own_a p0)), .val (.int (own_a p1)), .val (.int (own_a p2)), .val (.int (own_a p3)), .val (.ref b1), .val (.ref b3), .val (.ref b5), .val (.double (own_t (own_a p0) (own_a p1))), .second, .val (.double (own_t (own_a p2) (own_a p3))), .second, .unset, .unset, .unset, .unset, .unset, .unset, .unset, .unset, .unset] [])) _
    refine XS.aload X8.here hx rfl (hb hby at_91) rfl rfl ?_
    show Steps p.tables e below (T8.setTop (mkF m 93 #[.val (.int p0), .val (.int p1), .val (.int p2), .val (.int p3), .val (.int (own_a p0)), .val (.int (own_a p1)), .val (.int (own_a p2)), .val (.int (own_a p3)), .val (.ref b1), .val (.ref b3), .val (.ref b5), .val (.double (own_t (own_a p0) (own_a p1))), .second, .val (.double (own_t (own_a p2) (own_a p3))), .second, .unset, .unset, .unset, .unset, .unset, .unset, .unset, .unset, .unset] [(.ref b5)])) _
    refine st9.trans ?_
    show Steps p.tables e below (T9.setTop (mkF m 96 #[.val (.int p0), .val (.int p1), .val (.int p2), .val (.int p3), .val (.int (own_a p0)), .val (.int (own_a p1)), .val (.int (own_a p2)), .val (.int (own_a p3)), .val (.ref b1), .val (.ref b3), .val (.ref b5), .val (.double (own_t (own_a p0) (own_a p1))), .second, .val (.double (own_t (own_a p2) (own_a p3))), .second, .unset, .unset, .unset, .unset, .unset, .unset, .unset, .unset, .unset] [(.double (own_t (own_a p0) (own_a p0)))])) _
    refine XS.dstore X9.here hx rfl (hb hby at_96) rfl (l' := #[.val (.int p0), .val (.int p1), .val (.int p2), .val (.int p3), .val (.int (own_a p0)), .val (.int (own_a p1)), .val (.int (own_a p2)), .val (.int (own_a p3)), .val (.ref b1), .val (.ref b3), .val (.ref b5), .val (.double (own_t (own_a p0) (own_a p1))), .second, .val (.double (own_t (own_a p2) (own_a p3))), .second, .val (.double (own_t (own_a p0) (own_a p0))), .second, .unset, .unset, .unset, .unset, .unset, .unset, .unset]) rfl ?_
    show Steps p.tables e below (T9.setTop (mkF m 98 #[.val (.int p0), .val (.int p1), .val (.int p2), .val (.int p3), .val (.int (own_a p0)), .val (.int (own_a p1)), .val (.int (own_a p2)), .val (.int (own_a p3)), .val (.ref b1), .val (.ref b3), .val (.ref b5), .val (.double (own_t (own_a p0) (own_a p1))), .second, .val (.double (own_t (own_a p2) (own_a p3))), .second, .val (.double (own_t (own_a p0) (own_a p0))), .second, .unset, .unset, .unset, .unset, .unset, .unset, .unset] [])) _
    refine XS.dconst0 X9.here hx rfl (hb hby at_98) rfl ?_
    show Steps p.tables e below (T9.setTop (mkF m 99 #[.val (.int p0), .val (.int p1), .val (.int p2), .val (.int p3), .val (.int (own_a p0)), .val (.int (own_a p1)), .val (.int (own_a p2)), .val (.int (own_a p3)), .val (.ref b1), .val (.ref b3), .val (.ref b5), .val (.double (own_t (own_a p0) (own_a p1))), .second, .val (.double (own_t (own_a p2) (own_a p3))), .second, .val (.double (own_t (own_a p0) (own_a p0))), .second, .unset, .unset, .unset, .unset, .unset, .unset, .unset] [(.double (0 : UInt64))])) _
    refine XS.dload X9.here hx rfl (hb hby at_99) rfl ?_
    show Steps p.tables e below (T9.setTop (mkF m 101 #[.val (.int p0), .val (.int p1), .val (.int p2), .val (.int p3), .val (.int (own_a p0)), .val (.int (own_a p1)), .val (.int (own_a p2)), .val (.int (own_a p3)), .val (.ref b1), .val (.ref b3), .val (.ref b5), .val (.double (own_t (own_a p0) (own_a p1))), .second, .val (.double (own_t (own_a p2) (own_a p3))), .second, .val (.double (own_t (own_a p0) (own_a p0))), .second, .unset, .unset, .unset, .unset, .unset, .unset, .unset] [(.double (own_t (own_a p0) (own_a p1))), (.double (0 : UInt64))])) _
    refine XS.dcmpS X9.here hx rfl (hb hby at_101) rfl rfl ?_
    show Steps p.tables e below (T9.setTop (mkF m 102 #[.val (.int p0), .val (.int p1), .val (.int p2), .val (.int p3), .val (.int (own_a p0)), .val (.int (own_a p1)), .val (.int (own_a p2)), .val (.int (own_a p3)), .val (.ref b1), .val (.ref b3), .val (.ref b5), .val (.double (own_t (own_a p0) (own_a p1))), .second, .val (.double (own_t (own_a p2) (own_a p3))), .second, .val (.double (own_t (own_a p0) (own_a p0))), .second, .unset, .unset, .unset, .unset, .unset, .unset, .unset] [(.int (cmpValue (FP.dcmp (0 : UInt64) (own_t (own_a p0) (own_a p1))) .g))])) _
    refine XS.ifNo X9.here hx rfl (hb hby at_102) rfl (own_tpos p0 p1) ?_
    show Steps p.tables e below (T9.setTop (mkF m 105 #[.val (.int p0), .val (.int p1), .val (.int p2), .val (.int p3), .val (.int (own_a p0)), .val (.int (own_a p1)), .val (.int (own_a p2)), .val (.int (own_a p3)), .val (.ref b1), .val (.ref b3), .val (.ref b5), .val (.double (own_t (own_a p0) (own_a p1))), .second, .val (.double (own_t (own_a p2) (own_a p3))), .second, .val (.double (own_t (own_a p0) (own_a p0))), .second, .unset, .unset, .unset, .unset, .unset, .unset, .unset] [])) _
    refine XS.dload X9.here hx rfl (hb hby at_105) rfl ?_
    show Steps p.tables e below (T9.setTop (mkF m 107 #[.val (.int p0), .val (.int p1), .val (.int p2), .val (.int p3), .val (.int (own_a p0)), .val (.int (own_a p1)), .val (.int (own_a p2)), .val (.int (own_a p3)), .val (.ref b1), .val (.ref b3), .val (.ref b5), .val (.double (own_t (own_a p0) (own_a p1))), .second, .val (.double (own_t (own_a p2) (own_a p3))), .second, .val (.double (own_t (own_a p0) (own_a p0))), .second, .unset, .unset, .unset, .unset, .unset, .unset, .unset] [(.double (own_t (own_a p0) (own_a p1)))])) _
    refine XS.dconst1 X9.here hx rfl (hb hby at_107) rfl ?_
    show Steps p.tables e below (T9.setTop (mkF m 108 #[.val (.int p0), .val (.int p1), .val (.int p2), .val (.int p3), .val (.int (own_a p0)), .val (.int (own_a p1)), .val (.int (own_a p2)), .val (.int (own_a p3)), .val (.ref b1), .val (.ref b3), .val (.ref b5), .val (.double (own_t (own_a p0) (own_a p1))), .second, .val (.double (own_t (own_a p2) (own_a p3))), .second, .val (.double (own_t (own_a p0) (own_a p0))), .second, .unset, .unset, .unset, .unset, .unset, .unset, .unset] [(.double (4607182418800017408 : UInt64)), (.double (own_t (own_a p0) (own_a p1)))])) _
    refine XS.dcmpS X9.here hx rfl (hb hby at_108) rfl rfl ?_
    show Steps p.tables e below (T9.setTop (mkF m 109 #[.val (.int p0), .val (.int p1), .val (.int p2), .val (.int p3), .val (.int (own_a p0)), .val (.int (own_a p1)), .val (.int (own_a p2)), .val (.int (own_a p3)), .val (.ref b1), .val (.ref b3), .val (.ref b5), .val (.double (own_t (own_a p0) (own_a p1))), .second, .val (.double (own_t (own_a p2) (own_a p3))), .second, .val (.double (own_t (own_a p0) (own_a p0))), .second, .unset, .unset, .unset, .unset, .unset, .unset, .unset] [(.int (cmpValue (FP.dcmp (own_t (own_a p0) (own_a p1)) (4607182418800017408 : UInt64)) .g))])) _
    refine XS.ifNo X9.here hx rfl (hb hby at_109) rfl (own_tone p0 p1) ?_
    show Steps p.tables e below (T9.setTop (mkF m 112 #[.val (.int p0), .val (.int p1), .val (.int p2), .val (.int p3), .val (.int (own_a p0)), .val (.int (own_a p1)), .val (.int (own_a p2)), .val (.int (own_a p3)), .val (.ref b1), .val (.ref b3), .val (.ref b5), .val (.double (own_t (own_a p0) (own_a p1))), .second, .val (.double (own_t (own_a p2) (own_a p3))), .second, .val (.double (own_t (own_a p0) (own_a p0))), .second, .unset, .unset, .unset, .unset, .unset, .unset, .unset] [])) _
    refine XS.dconst0 X9.here hx rfl (hb hby at_112) rfl ?_
    show Steps p.tables e below (T9.setTop (mkF m 113 #[.val (.int p0), .val (.int p1), .val (.int p2), .val (.int p3), .val (.int (own_a p0)), .val (.int (own_a p1)), .val (.int (own_a p2)), .val (.int (own_a p3)), .val (.ref b1), .val (.ref b3), .val (.ref b5), .val (.double (own_t (own_a p0) (own_a p1))), .second, .val (.double (own_t (own_a p2) (own_a p3))), .second, .val (.double (own_t (own_a p0) (own_a p0))), .second, .unset, .unset, .unset, .unset, .unset, .unset, .unset] [(.double (0 : UInt64))])) _
    refine XS.dload X9.here hx rfl (hb hby at_113) rfl ?_
    show Steps p.tables e below (T9.setTop (mkF m 115 #[.val (.int p0), .val (.int p1), .val (.int p2), .val (.int p3), .val (.int (own_a p0)), .val (.int (own_a p1)), .val (.int (own_a p2)), .val (.int (own_a p3)), .val (.ref b1), .val (.ref b3), .val (.ref b5), .val (.double (own_t (own_a p0) (own_a p1))), .second, .val (.double (own_t (own_a p2) (own_a p3))), .second, .val (.double (own_t (own_a p0) (own_a p0))), .second, .unset, .unset, .unset, .unset, .unset, .unset, .unset] [(.double (own_t (own_a p2) (own_a p3))), (.double (0 : UInt64))])) _
    refine XS.dcmpS X9.here hx rfl (hb hby at_115) rfl rfl ?_
    show Steps p.tables e below (T9.setTop (mkF m 116 #[.val (.int p0), .val (.int p1), .val (.int p2), .val (.int p3), .val (.int (own_a p0)), .val (.int (own_a p1)), .val (.int (own_a p2)), .val (.int (own_a p3)), .val (.ref b1), .val (.ref b3), .val (.ref b5), .val (.double (own_t (own_a p0) (own_a p1))), .second, .val (.double (own_t (own_a p2) (own_a p3))), .second, .val (.double (own_t (own_a p0) (own_a p0))), .second, .unset, .unset, .unset, .unset, .unset, .unset, .unset] [(.int (cmpValue (FP.dcmp (0 : UInt64) (own_t (own_a p2) (own_a p3))) .g))])) _
    refine XS.ifNo X9.here hx rfl (hb hby at_116) rfl (own_tpos p2 p3) ?_
    show Steps p.tables e below (T9.setTop (mkF m 119 #[.val (.int p0), .val (.int p1), .val (.int p2), .val (.int p3), .val (.int (own_a p0)), .val (.int (own_a p1)), .val (.int (own_a p2)), .val (.int (own_a p3)), .val (.ref b1), .val (.ref b3), .val (.ref b5), .val (.double (own_t (own_a p0) (own_a p1))), .second, .val (.double (own_t (own_a p2) (own_a p3))), .second, .val (.double (own_t (own_a p0) (own_a p0))), .second, .unset, .unset, .unset, .unset, .unset, .unset, .unset] [])) _
    refine XS.dload X9.here hx rfl (hb hby at_119) rfl ?_
    show Steps p.tables e below (T9.setTop (mkF m 121 #[.val (.int p0), .val (.int p1), .val (.int p2), .val (.int p3), .val (.int (own_a p0)), .val (.int (own_a p1)), .val (.int (own_a p2)), .val (.int (own_a p3)), .val (.ref b1), .val (.ref b3), .val (.ref b5), .val (.double (own_t (own_a p0) (own_a p1))), .second, .val (.double (own_t (own_a p2) (own_a p3))), .second, .val (.double (own_t (own_a p0) (own_a p0))), .second, .unset, .unset, .unset, .unset, .unset, .unset, .unset] [(.double (own_t (own_a p2) (own_a p3)))])) _
    refine XS.dconst1 X9.here hx rfl (hb hby at_121) rfl ?_
    show Steps p.tables e below (T9.setTop (mkF m 122 #[.val (.int p0), .val (.int p1), .val (.int p2), .val (.int p3), .val (.int (own_a p0)), .val (.int (own_a p1)), .val (.int (own_a p2)), .val (.int (own_a p3)), .val (.ref b1), .val (.ref b3), .val (.ref b5), .val (.double (own_t (own_a p0) (own_a p1))), .second, .val (.double (own_t (own_a p2) (own_a p3))), .second, .val (.double (own_t (own_a p0) (own_a p0))), .second, .unset, .unset, .unset, .unset, .unset, .unset, .unset] [(.double (4607182418800017408 : UInt64)), (.double (own_t (own_a p2) (own_a p3)))])) _
    refine XS.dcmpS X9.here hx rfl (hb hby at_122) rfl rfl ?_
    show Steps p.tables e below (T9.setTop (mkF m 123 #[.val (.int p0), .val (.int p1), .val (.int p2), .val (.int p3), .val (.int (own_a p0)), .val (.int (own_a p1)), .val (.int (own_a p2)), .val (.int (own_a p3)), .val (.ref b1), .val (.ref b3), .val (.ref b5), .val (.double (own_t (own_a p0) (own_a p1))), .second, .val (.double (own_t (own_a p2) (own_a p3))), .second, .val (.double (own_t (own_a p0) (own_a p0))), .second, .unset, .unset, .unset, .unset, .unset, .unset, .unset] [(.int (cmpValue (FP.dcmp (own_t (own_a p2) (own_a p3)) (4607182418800017408 : UInt64)) .g))])) _
    refine XS.ifNo X9.here hx rfl (hb hby at_123) rfl (own_tone p2 p3) ?_
    show Steps p.tables e below (T9.setTop (mkF m 126 #[.val (.int p0), .val (.int p1), .val (.int p2), .val (.int p3), .val (.int (own_a p0)), .val (.int (own_a p1)), .val (.int (own_a p2)), .val (.int (own_a p3)), .val (.ref b1), .val (.ref b3), .val (.ref b5), .val (.double (own_t (own_a p0) (own_a p1))), .second, .val (.double (own_t (own_a p2) (own_a p3))), .second, .val (.double (own_t (own_a p0) (own_a p0))), .second, .unset, .unset, .unset, .unset, .unset, .unset, .unset] [])) _
    refine XS.iconst X9.here hx rfl (hb hby at_126) ?_
    show Steps p.tables e below (T9.setTop (mkF m 127 #[.val (.int p0), .val (.int p1), .val (.int p2), .val (.int p3), .val (.int (own_a p0)), .val (.int (own_a p1)), .val (.int (own_a p2)), .val (.int (own_a p3)), .val (.ref b1), .val (.ref b3), .val (.ref b5), .val (.double (own_t (own_a p0) (own_a p1))), .second, .val (.double (own_t (own_a p2) (own_a p3))), .second, .val (.double (own_t (own_a p0) (own_a p0))), .second, .unset, .unset, .unset, .unset, .unset, .unset, .unset] [(.int (1 : Int32))])) _
    refine XS.goto X9.here hx rfl (pc0 := 127) (pc' := 131) rfl (hb hby at_127) (by decide) (by decide) ?_
    show Steps p.tables e below (T9.setTop (mkF m 131 #[.val (.int p0), .val (.int p1), .val (.int p2), .val (.int p3), .val (.int (own_a p0)), .val (.int (own_a p1)), .val (.int (own_a p2)), .val (.int (own_a p3)), .val (.ref b1), .val (.ref b3), .val (.ref b5), .val (.double (own_t (own_a p0) (own_a p1))), .second, .val (.double (own_t (own_a p2) (own_a p3))), .second, .val (.double (own_t (own_a p0) (own_a p0))), .second, .unset, .unset, .unset, .unset, .unset, .unset, .unset] [(.int (1 : Int32))])) _
    refine XS.istore X9.here hx rfl (hb hby at_131) rfl (l' := #[.val (.int p0), .val (.int p1), .val (.int p2), .val (.int p3), .val (.int (own_a p0)), .val (.int (own_a p1)), .val (.int (own_a p2)), .val (.int (own_a p3)), .val (.ref b1), .val (.ref b3), .val (.ref b5), .val (.double (own_t (own_a p0) (own_a p1))), .second, .val (.double (own_t (own_a p2) (own_a p3))), .second, .val (.double (own_t (own_a p0) (own_a p0))), .second, .val (.int (1 : Int32)), .unset, .unset, .unset, .unset, .unset, .unset]) rfl ?_
    show Steps p.tables e below (T9.setTop (mkF m 133 #[.val (.int p0), .val (.int p1), .val (.int p2), .val (.int p3), .val (.int (own_a p0)), .val (.int (own_a p1)), .val (.int (own_a p2)), .val (.int (own_a p3)), .val (.ref b1), .val (.ref b3), .val (.ref b5), .val (.double (own_t (own_a p0) (own_a p1))), .second, .val (.double (own_t (own_a p2) (own_a p3))), .second, .val (.double (own_t (own_a p0) (own_a p0))), .second, .val (.int (1 : Int32)), .unset, .unset, .unset, .unset, .unset, .unset] [])) _
    refine XS.iload X9.here hx rfl (hb hby at_133) rfl ?_
    show Steps p.tables e below (T9.setTop (mkF m 135 #[.val (.int p0), .val (.int p1), .val (.int p2), .val (.int p3), .val (.int (own_a p0)), .val (.int (own_a p1)), .val (.int (own_a p2)), .val (.int (own_a p3)), .val (.ref b1), .val (.ref b3), .val (.ref b5), .val (.double (own_t (own_a p0) (own_a p1))), .second, .val (.double (own_t (own_a p2) (own_a p3))), .second, .val (.double (own_t (own_a p0) (own_a p0))), .second, .val (.int (1 : Int32)), .unset, .unset, .unset, .unset, .unset, .unset] [(.int (own_a p0))])) _
    refine XS.i2l X9.here hx rfl (hb hby at_135) rfl ?_
    show Steps p.tables e below (T9.setTop (mkF m 136 #[.val (.int p0), .val (.int p1), .val (.int p2), .val (.int p3), .val (.int (own_a p0)), .val (.int (own_a p1)), .val (.int (own_a p2)), .val (.int (own_a p3)), .val (.ref b1), .val (.ref b3), .val (.ref b5), .val (.double (own_t (own_a p0) (own_a p1))), .second, .val (.double (own_t (own_a p2) (own_a p3))), .second, .val (.double (own_t (own_a p0) (own_a p0))), .second, .val (.int (1 : Int32)), .unset, .unset, .unset, .unset, .unset, .unset] [(.long ((own_a p0).toInt64))])) _
    refine XS.iload X9.here hx rfl (hb hby at_136) rfl ?_
    show Steps p.tables e below (T9.setTop (mkF m 138 #[.val (.int p0), .val (.int p1), .val (.int p2), .val (.int p3), .val (.int (own_a p0)), .val (.int (own_a p1)), .val (.int (own_a p2)), .val (.int (own_a p3)), .val (.ref b1), .val (.ref b3), .val (.ref b5), .val (.double (own_t (own_a p0) (own_a p1))), .second, .val (.double (own_t (own_a p2) (own_a p3))), .second, .val (.double (own_t (own_a p0) (own_a p0))), .second, .val (.int (1 : Int32)), .unset, .unset, .unset, .unset, .unset, .unset] [(.int (own_a p3)), (.long ((own_a p0).toInt64))])) _
    refine XS.i2l X9.here hx rfl (hb hby at_138) rfl ?_
    show Steps p.tables e below (T9.setTop (mkF m 139 #[.val (.int p0), .val (.int p1), .val (.int p2), .val (.int p3), .val (.int (own_a p0)), .val (.int (own_a p1)), .val (.int (own_a p2)), .val (.int (own_a p3)), .val (.ref b1), .val (.ref b3), .val (.ref b5), .val (.double (own_t (own_a p0) (own_a p1))), .second, .val (.double (own_t (own_a p2) (own_a p3))), .second, .val (.double (own_t (own_a p0) (own_a p0))), .second, .val (.int (1 : Int32)), .unset, .unset, .unset, .unset, .unset, .unset] [(.long ((own_a p3).toInt64)), (.long ((own_a p0).toInt64))])) _
    refine XS.lmul X9.here hx rfl (hb hby at_139) rfl ?_
    show Steps p.tables e below (T9.setTop (mkF m 140 #[.val (.int p0), .val (.int p1), .val (.int p2), .val (.int p3), .val (.int (own_a p0)), .val (.int (own_a p1)), .val (.int (own_a p2)), .val (.int (own_a p3)), .val (.ref b1), .val (.ref b3), .val (.ref b5), .val (.double (own_t (own_a p0) (own_a p1))), .second, .val (.double (own_t (own_a p2) (own_a p3))), .second, .val (.double (own_t (own_a p0) (own_a p0))), .second, .val (.int (1 : Int32)), .unset, .unset, .unset, .unset, .unset, .unset] [(.long (own_l (own_a p0) (own_a p3)))])) _
    refine XS.lstore X9.here hx rfl (hb hby at_140) rfl (l' := #[.val (.int p0), .val (.int p1), .val (.int p2), .val (.int p3), .val (.int (own_a p0)), .val (.int (own_a p1)), .val (.int (own_a p2)), .val (.int (own_a p3)), .val (.ref b1), .val (.ref b3), .val (.ref b5), .val (.double (own_t (own_a p0) (own_a p1))), .second, .val (.double (own_t (own_a p2) (own_a p3))), .second, .val (.double (own_t (own_a p0) (own_a p0))), .second, .val (.int (1 : Int32)), .val (.long (own_l (own_a p0) (own_a p3))), .second, .unset, .unset, .unset, .unset]) rfl ?_
    show Steps p.tables e below (T9.setTop (mkF m 142 #[.val (.int p0), .val (.int p1), .val (.int p2), .val (.int p3), .val (.int (own_a p0)), .val (.int (own_a p1)), .val (.int (own_a p2)), .val (.int (own_a p3)), .val (.ref b1), .val (.ref b3), .val (.ref b5), .val (.double (own_t (own_a p0) (own_a p1))), .second, .val (.double (own_t (own_a p2) (own_a p3))), .second, .val (.double (own_t (own_a p0) (own_a p0))), .second, .val (.int (1 : Int32)), .val (.long (own_l (own_a p0) (own_a p3))), .second, .unset, .unset, .unset, .unset] [])) _
    refine XS.iload X9.here hx rfl (hb hby at_142) rfl ?_
    show Steps p.tables e below (T9.setTop (mkF m 144 #[.val (.int p0), .val (.int p1), .val (.int p2), .val (.int p3), .val (.int (own_a p0)), .val (.int (own_a p1)), .val (.int (own_a p2)), .val (.int (own_a p3)), .val (.ref b1), .val (.ref b3), .val (.ref b5), .val (.double (own_t (own_a p0) (own_a p1))), .second, .val (.double (own_t (own_a p2) (own_a p3))), .second, .val (.double (own_t (own_a p0) (own_a p0))), .second, .val (.int (1 : Int32)), .val (.long (own_l (own_a p0) (own_a p3))), .second, .unset, .unset, .unset, .unset] [(.int (own_a p2))])) _
    refine XS.i2l X9.here hx rfl (hb hby at_144) rfl ?_
    show Steps p.tables e below (T9.setTop (mkF m 145 #[.val (.int p0), .val (.int p1), .val (.int p2), .val (.int p3), .val (.int (own_a p0)), .val (.int (own_a p1)), .val (.int (own_a p2)), .val (.int (own_a p3)), .val (.ref b1), .val (.ref b3), .val (.ref b5), .val (.double (own_t (own_a p0) (own_a p1))), .second, .val (.double (own_t (own_a p2) (own_a p3))), .second, .val (.double (own_t (own_a p0) (own_a p0))), .second, .val (.int (1 : Int32)), .val (.long (own_l (own_a p0) (own_a p3))), .second, .unset, .unset, .unset, .unset] [(.long ((own_a p2).toInt64))])) _
    refine XS.iload X9.here hx rfl (hb hby at_145) rfl ?_
    show Steps p.tables e below (T9.setTop (mkF m 147 #[.val (.int p0), .val (.int p1), .val (.int p2), .val (.int p3), .val (.int (own_a p0)), .val (.int (own_a p1)), .val (.int (own_a p2)), .val (.int (own_a p3)), .val (.ref b1), .val (.ref b3), .val (.ref b5), .val (.double (own_t (own_a p0) (own_a p1))), .second, .val (.double (own_t (own_a p2) (own_a p3))), .second, .val (.double (own_t (own_a p0) (own_a p0))), .second, .val (.int (1 : Int32)), .val (.long (own_l (own_a p0) (own_a p3))), .second, .unset, .unset, .unset, .unset] [(.int (own_a p1)), (.long ((own_a p2).toInt64))])) _
    refine XS.i2l X9.here hx rfl (hb hby at_147) rfl ?_
    show Steps p.tables e below (T9.setTop (mkF m 148 #[.val (.int p0), .val (.int p1), .val (.int p2), .val (.int p3), .val (.int (own_a p0)), .val (.int (own_a p1)), .val (.int (own_a p2)), .val (.int (own_a p3)), .val (.ref b1), .val (.ref b3), .val (.ref b5), .val (.double (own_t (own_a p0) (own_a p1))), .second, .val (.double (own_t (own_a p2) (own_a p3))), .second, .val (.double (own_t (own_a p0) (own_a p0))), .second, .val (.int (1 : Int32)), .val (.long (own_l (own_a p0) (own_a p3))), .second, .unset, .unset, .unset, .unset] [(.long ((own_a p1).toInt64)), (.long ((own_a p2).toInt64))])) _
    refine XS.lmul X9.here hx rfl (hb hby at_148) rfl ?_
    show Steps p.tables e below (T9.setTop (mkF m 149 #[.val (.int p0), .val (.int p1), .val (.int p2), .val (.int p3), .val (.int (own_a p0)), .val (.int (own_a p1)), .val (.int (own_a p2)), .val (.int (own_a p3)), .val (.ref b1), .val (.ref b3), .val (.ref b5), .val (.double (own_t (own_a p0) (own_a p1))), .second, .val (.double (own_t (own_a p2) (own_a p3))), .second, .val (.double (own_t (own_a p0) (own_a p0))), .second, .val (.int (1 : Int32)), .val (.long (own_l (own_a p0) (own_a p3))), .second, .unset, .unset, .unset, .unset] [(.long (own_l (own_a p2) (own_a p1)))])) _
    refine XS.lstore X9.here hx rfl (hb hby at_149) rfl (l' := #[.val (.int p0), .val (.int p1), .val (.int p2), .val (.int p3), .val (.int (own_a p0)), .val (.int (own_a p1)), .val (.int (own_a p2)), .val (.int (own_a p3)), .val (.ref b1), .val (.ref b3), .val (.ref b5), .val (.double (own_t (own_a p0) (own_a p1))), .second, .val (.double (own_t (own_a p2) (own_a p3))), .second, .val (.double (own_t (own_a p0) (own_a p0))), .second, .val (.int (1 : Int32)), .val (.long (own_l (own_a p0) (own_a p3))), .second, .val (.long (own_l (own_a p2) (own_a p1))), .second, .unset, .unset]) rfl ?_
    show Steps p.tables e below (T9.setTop (mkF m 151 #[.val (.int p0), .val (.int p1), .val (.int p2), .val (.int p3), .val (.int (own_a p0)), .val (.int (own_a p1)), .val (.int (own_a p2)), .val (.int (own_a p3)), .val (.ref b1), .val (.ref b3), .val (.ref b5), .val (.double (own_t (own_a p0) (own_a p1))), .second, .val (.double (own_t (own_a p2) (own_a p3))), .second, .val (.double (own_t (own_a p0) (own_a p0))), .second, .val (.int (1 : Int32)), .val (.long (own_l (own_a p0) (own_a p3))), .second, .val (.long (own_l (own_a p2) (own_a p1))), .second, .unset, .unset] [])) _
    refine sg_0_151_164 X9 hx hZ6 hw hby hown6 ?_
    show Steps p.tables e below (T9.setTop (mkF m 164 #[.val (.int p0), .val (.int p1), .val (.int p2), .val (.int p3), .val (.int (own_a p0)), .val (.int (own_a p1)), .val (.int (own_a p2)), .val (.int (own_a p3)), .val (.ref b1), .val (.ref b3), .val (.ref b5), .val (.double (own_t (own_a p0) (own_a p1))), .second, .val (.double (own_t (own_a p2) (own_a p3))), .second, .val (.double (own_t (own_a p0) (own_a p0))), .second, .val (.int (1 : Int32)), .val (.long (own_l (own_a p0) (own_a p3))), .second, .val (.long (own_l (own_a p2) (own_a p1))), .second, .unset, .unset] [(.int (bif (ifCond.holds .ge (lcmpW (own_l (own_a p0) (own_a p3)) (own_l (own_a p2) (own_a p1)))) then (0 : Int32) else (1 : Int32)))])) _
    refine sg_0_164_177 X9 hx hZ6 hw hby hown6 ?_
    show Steps p.tables e below (T9.setTop (mkF m 177 #[.val (.int p0), .val (.int p1), .val (.int p2), .val (.int p3), .val (.int (own_a p0)), .val (.int (own_a p1)), .val (.int (own_a p2)), .val (.int (own_a p3)), .val (.ref b1), .val (.ref b3), .val (.ref b5), .val (.double (own_t (own_a p0) (own_a p1))), .second, .val (.double (own_t (own_a p2) (own_a p3))), .second, .val (.double (own_t (own_a p0) (own_a p0))), .second, .val (.int (1 : Int32)), .val (.long (own_l (own_a p0) (own_a p3))), .second, .val (.long (own_l (own_a p2) (own_a p1))), .second, .unset, .unset] [(.int (bif (ifCond.holds .ge (cmpValue (FP.dcmp (own_t (own_a p0) (own_a p1)) (own_t (own_a p2) (own_a p3))) .g)) then (0 : Int32) else (1 : Int32))), (.int (bif (ifCond.holds .ge (lcmpW (own_l (own_a p0) (own_a p3)) (own_l (own_a p2) (own_a p1)))) then (0 : Int32) else (1 : Int32)))])) _
    refine XS.icmpNo X9.here hx rfl (hb hby at_177) rfl (by rw [own_tl p0 p1 p2 p3 .g]; exact own_o 0 _) ?_
    show Steps p.tables e below (T9.setTop (mkF m 180 #[.val (.int p0), .val (.int p1), .val (.int p2), .val (.int p3), .val (.int (own_a p0)), .val (.int (own_a p1)), .val (.int (own_a p2)), .val (.int (own_a p3)), .val (.ref b1), .val (.ref b3), .val (.ref b5), .val (.double (own_t (own_a p0) (own_a p1))), .second, .val (.double (own_t (own_a p2) (own_a p3))), .second, .val (.double (own_t (own_a p0) (own_a p0))), .second, .val (.int (1 : Int32)), .val (.long (own_l (own_a p0) (own_a p3))), .second, .val (.long (own_l (own_a p2) (own_a p1))), .second, .unset, .unset] [])) _
    refine sg_0_180_193 X9 hx hZ6 hw hby hown6 ?_
    show Steps p.tables e below (T9.setTop (mkF m 193 #[.val (.int p0), .val (.int p1), .val (.int p2), .val (.int p3), .val (.int (own_a p0)), .val (.int (own_a p1)), .val (.int (own_a p2)), .val (.int (own_a p3)), .val (.ref b1), .val (.ref b3), .val (.ref b5), .val (.double (own_t (own_a p0) (own_a p1))), .second, .val (.double (own_t (own_a p2) (own_a p3))), .second, .val (.double (own_t (own_a p0) (own_a p0))), .second, .val (.int (1 : Int32)), .val (.long (own_l (own_a p0) (own_a p3))), .second, .val (.long (own_l (own_a p2) (own_a p1))), .second, .unset, .unset] [(.int (bif (ifCond.holds .ne (lcmpW (own_l (own_a p0) (own_a p3)) (own_l (own_a p2) (own_a p1)))) then (0 : Int32) else (1 : Int32)))])) _
    refine sg_0_193_206 X9 hx hZ6 hw hby hown6 ?_
    show Steps p.tables e below (T9.setTop (mkF m 206 #[.val (.int p0), .val (.int p1), .val (.int p2), .val (.int p3), .val (.int (own_a p0)), .val (.int (own_a p1)), .val (.int (own_a p2)), .val (.int (own_a p3)), .val (.ref b1), .val (.ref b3), .val (.ref b5), .val (.double (own_t (own_a p0) (own_a p1))), .second, .val (.double (own_t (own_a p2) (own_a p3))), .second, .val (.double (own_t (own_a p0) (own_a p0))), .second, .val (.int (1 : Int32)), .val (.long (own_l (own_a p0) (own_a p3))), .second, .val (.long (own_l (own_a p2) (own_a p1))), .second, .unset, .unset] [(.int (bif (ifCond.holds .ne (cmpValue (FP.dcmp (own_t (own_a p0) (own_a p1)) (own_t (own_a p2) (own_a p3))) .l)) then (0 : Int32) else (1 : Int32))), (.int (bif (ifCond.holds .ne (lcmpW (own_l (own_a p0) (own_a p3)) (own_l (own_a p2) (own_a p1)))) then (0 : Int32) else (1 : Int32)))])) _
    refine XS.icmpNo X9.here hx rfl (hb hby at_206) rfl (by rw [own_tl p0 p1 p2 p3 .l]; exact own_o 0 _) ?_
    show Steps p.tables e below (T9.setTop (mkF m 209 #[.val (.int p0), .val (.int p1), .val (.int p2), .val (.int p3), .val (.int (own_a p0)), .val (.int (own_a p1)), .val (.int (own_a p2)), .val (.int (own_a p3)), .val (.ref b1), .val (.ref b3), .val (.ref b5), .val (.double (own_t (own_a p0) (own_a p1))), .second, .val (.double (own_t (own_a p2) (own_a p3))), .second, .val (.double (own_t (own_a p0) (own_a p0))), .second, .val (.int (1 : Int32)), .val (.long (own_l (own_a p0) (own_a p3))), .second, .val (.long (own_l (own_a p2) (own_a p1))), .second, .unset, .unset] [])) _
    refine sg_0_209_222 X9 hx hZ6 hw hby hown6 ?_
    show Steps p.tables e below (T9.setTop (mkF m 222 #[.val (.int p0), .val (.int p1), .val (.int p2), .val (.int p3), .val (.int (own_a p0)), .val (.int (own_a p1)), .val (.int (own_a p2)), .val (.int (own_a p3)), .val (.ref b1), .val (.ref b3), .val (.ref b5), .val (.double (own_t (own_a p0) (own_a p1))), .second, .val (.double (own_t (own_a p2) (own_a p3))), .second, .val (.double (own_t (own_a p0) (own_a p0))), .second, .val (.int (1 : Int32)), .val (.long (own_l (own_a p0) (own_a p3))), .second, .val (.long (own_l (own_a p2) (own_a p1))), .second, .unset, .unset] [(.int (bif (ifCond.holds .le (lcmpW (own_l (own_a p0) (own_a p3)) (own_l (own_a p2) (own_a p1)))) then (0 : Int32) else (1 : Int32)))])) _
    refine sg_0_222_235 X9 hx hZ6 hw hby hown6 ?_
    show Steps p.tables e below (T9.setTop (mkF m 235 #[.val (.int p0), .val (.int p1), .val (.int p2), .val (.int p3), .val (.int (own_a p0)), .val (.int (own_a p1)), .val (.int (own_a p2)), .val (.int (own_a p3)), .val (.ref b1), .val (.ref b3), .val (.ref b5), .val (.double (own_t (own_a p0) (own_a p1))), .second, .val (.double (own_t (own_a p2) (own_a p3))), .second, .val (.double (own_t (own_a p0) (own_a p0))), .second, .val (.int (1 : Int32)), .val (.long (own_l (own_a p0) (own_a p3))), .second, .val (.long (own_l (own_a p2) (own_a p1))), .second, .unset, .unset] [(.int (bif (ifCond.holds .le (cmpValue (FP.dcmp (own_t (own_a p0) (own_a p1)) (own_t (own_a p2) (own_a p3))) .l)) then (0 : Int32) else (1 : Int32))), (.int (bif (ifCond.holds .le (lcmpW (own_l (own_a p0) (own_a p3)) (own_l (own_a p2) (own_a p1)))) then (0 : Int32) else (1 : Int32)))])) _
    refine XS.icmpNo X9.here hx rfl (hb hby at_235) rfl (by rw [own_tl p0 p1 p2 p3 .l]; exact own_o 0 _) ?_
    show Steps p.tables e below (T9.setTop (mkF m 238 #[.val (.int p0), .val (.int p1), .val (.int p2), .val (.int p3), .val (.int (own_a p0)), .val (.int (own_a p1)), .val (.int (own_a p2)), .val (.int (own_a p3)), .val (.ref b1), .val (.ref b3), .val (.ref b5), .val (.double (own_t (own_a p0) (own_a p1))), .second, .val (.double (own_t (own_a p2) (own_a p3))), .second, .val (.double (own_t (own_a p0) (own_a p0))), .second, .val (.int (1 : Int32)), .val (.long (own_l (own_a p0) (own_a p3))), .second, .val (.long (own_l (own_a p2) (own_a p1))), .second, .unset, .unset] [])) _
    refine XS.iconst X9.here hx rfl (hb hby at_238) ?_
    show Steps p.tables e below (T9.setTop (mkF m 239 #[.val (.int p0), .val (.int p1), .val (.int p2), .val (.int p3), .val (.int (own_a p0)), .val (.int (own_a p1)), .val (.int (own_a p2)), .val (.int (own_a p3)), .val (.ref b1), .val (.ref b3), .val (.ref b5), .val (.double (own_t (own_a p0) (own_a p1))), .second, .val (.double (own_t (own_a p2) (own_a p3))), .second, .val (.double (own_t (own_a p0) (own_a p0))), .second, .val (.int (1 : Int32)), .val (.long (own_l (own_a p0) (own_a p3))), .second, .val (.long (own_l (own_a p2) (own_a p1))), .second, .unset, .unset] [(.int (1 : Int32))])) _
    refine XS.goto X9.here hx rfl (pc0 := 239) (pc' := 243) rfl (hb hby at_239) (by decide) (by decide) ?_
    show Steps p.tables e below (T9.setTop (mkF m 243 #[.val (.int p0), .val (.int p1), .val (.int p2), .val (.int p3), .val (.int (own_a p0)), .val (.int (own_a p1)), .val (.int (own_a p2)), .val (.int (own_a p3)), .val (.ref b1), .val (.ref b3), .val (.ref b5), .val (.double (own_t (own_a p0) (own_a p1))), .second, .val (.double (own_t (own_a p2) (own_a p3))), .second, .val (.double (own_t (own_a p0) (own_a p0))), .second, .val (.int (1 : Int32)), .val (.long (own_l (own_a p0) (own_a p3))), .second, .val (.long (own_l (own_a p2) (own_a p1))), .second, .unset, .unset] [(.int (1 : Int32))])) _
    refine XS.istore X9.here hx rfl (hb hby at_243) rfl (l' := #[.val (.int p0), .val (.int p1), .val (.int p2), .val (.int p3), .val (.int (own_a p0)), .val (.int (own_a p1)), .val (.int (own_a p2)), .val (.int (own_a p3)), .val (.ref b1), .val (.ref b3), .val (.ref b5), .val (.double (own_t (own_a p0) (own_a p1))), .second, .val (.double (own_t (own_a p2) (own_a p3))), .second, .val (.double (own_t (own_a p0) (own_a p0))), .second, .val (.int (1 : Int32)), .val (.long (own_l (own_a p0) (own_a p3))), .second, .val (.long (own_l (own_a p2) (own_a p1))), .second, .val (.int (1 : Int32)), .unset]) rfl ?_
    show Steps p.tables e below (T9.setTop (mkF m 245 #[.val (.int p0), .val (.int p1), .val (.int p2), .val (.int p3), .val (.int (own_a p0)), .val (.int (own_a p1)), .val (.int (own_a p2)), .val (.int (own_a p3)), .val (.ref b1), .val (.ref b3), .val (.ref b5), .val (.double (own_t (own_a p0) (own_a p1))), .second, .val (.double (own_t (own_a p2) (own_a p3))), .second, .val (.double (own_t (own_a p0) (own_a p0))), .second, .val (.int (1 : Int32)), .val (.long (own_l (own_a p0) (own_a p3))), .second, .val (.long (own_l (own_a p2) (own_a p1))), .second, .val (.int (1 : Int32)), .unset] [])) _
    refine XS.dload X9.here hx rfl (hb hby at_245) rfl ?_
    show Steps p.tables e below (T9.setTop (mkF m 247 #[.val (.int p0), .val (.int p1), .val (.int p2), .val (.int p3), .val (.int (own_a p0)), .val (.int (own_a p1)), .val (.int (own_a p2)), .val (.int (own_a p3)), .val (.ref b1), .val (.ref b3), .val (.ref b5), .val (.double (own_t (own_a p0) (own_a p1))), .second, .val (.double (own_t (own_a p2) (own_a p3))), .second, .val (.double (own_t (own_a p0) (own_a p0))), .second, .val (.int (1 : Int32)), .val (.long (own_l (own_a p0) (own_a p3))), .second, .val (.long (own_l (own_a p2) (own_a p1))), .second, .val (.int (1 : Int32)), .unset] [(.double (own_t (own_a p0) (own_a p0)))])) _
    refine X9.ldc2DoubleC hx hown6 (mvT hZ6 (hw _ (List.mem_of_getElem? (i := 45) rfl))) (g := (mkF m 247 #[.val (.int p0), .val (.int p1), .val (.int p2), .val (.int p3), .val (.int (own_a p0)), .val (.int (own_a p1)), .val (.int (own_a p2)), .val (.int (own_a p3)), .val (.ref b1), .val (.ref b3), .val (.ref b5), .val (.double (own_t (own_a p0) (own_a p1))), .second, .val (.double (own_t (own_a p2) (own_a p3))), .second, .val (.double (own_t (own_a p0) (own_a p0))), .second, .val (.int (1 : Int32)), .val (.long (own_l (own_a p0) (own_a p3))), .second, .val (.long (own_l (own_a p2) (own_a p1))), .second, .val (.int (1 : Int32)), .unset] [(.double (own_t (own_a p0) (own_a p0)))])) rfl (hb hby at_247) _ ?_
    show Steps p.tables e below (T9.setTop (mkF m 250 #[.val (.int p0), .val (.int p1), .val (.int p2), .val (.int p3), .val (.int (own_a p0)), .val (.int (own_a p1)), .val (.int (own_a p2)), .val (.int (own_a p3)), .val (.ref b1), .val (.ref b3), .val (.ref b5), .val (.double (own_t (own_a p0) (own_a p1))), .second, .val (.double (own_t (own_a p2) (own_a p3))), .second, .val (.double (own_t (own_a p0) (own_a p0))), .second, .val (.int (1 : Int32)), .val (.long (own_l (own_a p0) (own_a p3))), .second, .val (.long (own_l (own_a p2) (own_a p1))), .second, .val (.int (1 : Int32)), .unset] [(.double (4602678819172646912 : UInt64)), (.double (own_t (own_a p0) (own_a p0)))])) _
    refine XS.dcmpS X9.here hx rfl (hb hby at_250) rfl rfl ?_
    show Steps p.tables e below (T9.setTop (mkF m 251 #[.val (.int p0), .val (.int p1), .val (.int p2), .val (.int p3), .val (.int (own_a p0)), .val (.int (own_a p1)), .val (.int (own_a p2)), .val (.int (own_a p3)), .val (.ref b1), .val (.ref b3), .val (.ref b5), .val (.double (own_t (own_a p0) (own_a p1))), .second, .val (.double (own_t (own_a p2) (own_a p3))), .second, .val (.double (own_t (own_a p0) (own_a p0))), .second, .val (.int (1 : Int32)), .val (.long (own_l (own_a p0) (own_a p3))), .second, .val (.long (own_l (own_a p2) (own_a p1))), .second, .val (.int (1 : Int32)), .unset] [(.int (cmpValue (FP.dcmp (own_t (own_a p0) (own_a p0)) (4602678819172646912 : UInt64)) .l))])) _
    refine XS.ifNo X9.here hx rfl (hb hby at_251) rfl (own_thalf p0) ?_
    show Steps p.tables e below (T9.setTop (mkF m 254 #[.val (.int p0), .val (.int p1), .val (.int p2), .val (.int p3), .val (.int (own_a p0)), .val (.int (own_a p1)), .val (.int (own_a p2)), .val (.int (own_a p3)), .val (.ref b1), .val (.ref b3), .val (.ref b5), .val (.double (own_t (own_a p0) (own_a p1))), .second, .val (.double (own_t (own_a p2) (own_a p3))), .second, .val (.double (own_t (own_a p0) (own_a p0))), .second, .val (.int (1 : Int32)), .val (.long (own_l (own_a p0) (own_a p3))), .second, .val (.long (own_l (own_a p2) (own_a p1))), .second, .val (.int (1 : Int32)), .unset] [])) _
    refine XS.iconst X9.here hx rfl (hb hby at_254) ?_
    show Steps p.tables e below (T9.setTop (mkF m 255 #[.val (.int p0), .val (.int p1), .val (.int p2), .val (.int p3), .val (.int (own_a p0)), .val (.int (own_a p1)), .val (.int (own_a p2)), .val (.int (own_a p3)), .val (.ref b1), .val (.ref b3), .val (.ref b5), .val (.double (own_t (own_a p0) (own_a p1))), .second, .val (.double (own_t (own_a p2) (own_a p3))), .second, .val (.double (own_t (own_a p0) (own_a p0))), .second, .val (.int (1 : Int32)), .val (.long (own_l (own_a p0) (own_a p3))), .second, .val (.long (own_l (own_a p2) (own_a p1))), .second, .val (.int (1 : Int32)), .unset] [(.int (1 : Int32))])) _
    refine XS.goto X9.here hx rfl (pc0 := 255) (pc' := 259) rfl (hb hby at_255) (by decide) (by decide) ?_
    show Steps p.tables e below (T9.setTop (mkF m 259 #[.val (.int p0), .val (.int p1), .val (.int p2), .val (.int p3), .val (.int (own_a p0)), .val (.int (own_a p1)), .val (.int (own_a p2)), .val (.int (own_a p3)), .val (.ref b1), .val (.ref b3), .val (.ref b5), .val (.double (own_t (own_a p0) (own_a p1))), .second, .val (.double (own_t (own_a p2) (own_a p3))), .second, .val (.double (own_t (own_a p0) (own_a p0))), .second, .val (.int (1 : Int32)), .val (.long (own_l (own_a p0) (own_a p3))), .second, .val (.long (own_l (own_a p2) (own_a p1))), .second, .val (.int (1 : Int32)), .unset] [(.int (1 : Int32))])) _
    refine XS.istore X9.here hx rfl (hb hby at_259) rfl (l' := #[.val (.int p0), .val (.int p1), .val (.int p2), .val (.int p3), .val (.int (own_a p0)), .val (.int (own_a p1)), .val (.int (own_a p2)), .val (.int (own_a p3)), .val (.ref b1), .val (.ref b3), .val (.ref b5), .val (.double (own_t (own_a p0) (own_a p1))), .second, .val (.double (own_t (own_a p2) (own_a p3))), .second, .val (.double (own_t (own_a p0) (own_a p0))), .second, .val (.int (1 : Int32)), .val (.long (own_l (own_a p0) (own_a p3))), .second, .val (.long (own_l (own_a p2) (own_a p1))), .second, .val (.int (1 : Int32)), .val (.int (1 : Int32))]) rfl ?_
    show Steps p.tables e below (T9.setTop (mkF m 261 #[.val (.int p0), .val (.int p1), .val (.int p2), .val (.int p3), .val (.int (own_a p0)), .val (.int (own_a p1)), .val (.int (own_a p2)), .val (.int (own_a p3)), .val (.ref b1), .val (.ref b3), .val (.ref b5), .val (.double (own_t (own_a p0) (own_a p1))), .second, .val (.double (own_t (own_a p2) (own_a p3))), .second, .val (.double (own_t (own_a p0) (own_a p0))), .second, .val (.int (1 : Int32)), .val (.long (own_l (own_a p0) (own_a p3))), .second, .val (.long (own_l (own_a p2) (own_a p1))), .second, .val (.int (1 : Int32)), .val (.int (1 : Int32))] [])) _
    refine XS.iload X9.here hx rfl (hb hby at_261) rfl ?_
    show Steps p.tables e below (T9.setTop (mkF m 263 #[.val (.int p0), .val (.int p1), .val (.int p2), .val (.int p3), .val (.int (own_a p0)), .val (.int (own_a p1)), .val (.int (own_a p2)), .val (.int (own_a p3)), .val (.ref b1), .val (.ref b3), .val (.ref b5), .val (.double (own_t (own_a p0) (own_a p1))), .second, .val (.double (own_t (own_a p2) (own_a p3))), .second, .val (.double (own_t (own_a p0) (own_a p0))), .second, .val (.int (1 : Int32)), .val (.long (own_l (own_a p0) (own_a p3))), .second, .val (.long (own_l (own_a p2) (own_a p1))), .second, .val (.int (1 : Int32)), .val (.int (1 : Int32))] [(.int (1 : Int32))])) _
    refine XS.ifNo X9.here hx rfl (hb hby at_263) rfl (by decide) ?_
    show Steps p.tables e below (T9.setTop (mkF m 266 #[.val (.int p0), .val (.int p1), .val (.int p2), .val (.int p3), .val (.int (own_a p0)), .val (.int (own_a p1)), .val (.int (own_a p2)), .val (.int (own_a p3)), .val (.ref b1), .val (.ref b3), .val (.ref b5), .val (.double (own_t (own_a p0) (own_a p1))), .second, .val (.double (own_t (own_a p2) (own_a p3))), .second, .val (.double (own_t (own_a p0) (own_a p0))), .second, .val (.int (1 : Int32)), .val (.long (own_l (own_a p0) (own_a p3))), .second, .val (.long (own_l (own_a p2) (own_a p1))), .second, .val (.int (1 : Int32)), .val (.int (1 : Int32))] [])) _
    refine XS.iload X9.here hx rfl (hb hby at_266) rfl ?_
    show Steps p.tables e below (T9.setTop (mkF m 268 #[.val (.int p0), .val (.int p1), .val (.int p2), .val (.int p3), .val (.int (own_a p0)), .val (.int (own_a p1)), .val (.int (own_a p2)), .val (.int (own_a p3)), .val (.ref b1), .val (.ref b3), .val (.ref b5), .val (.double (own_t (own_a p0) (own_a p1))), .second, .val (.double (own_t (own_a p2) (own_a p3))), .second, .val (.double (own_t (own_a p0) (own_a p0))), .second, .val (.int (1 : Int32)), .val (.long (own_l (own_a p0) (own_a p3))), .second, .val (.long (own_l (own_a p2) (own_a p1))), .second, .val (.int (1 : Int32)), .val (.int (1 : Int32))] [(.int (1 : Int32))])) _
    refine XS.ifNo X9.here hx rfl (hb hby at_268) rfl (by decide) ?_
    show Steps p.tables e below (T9.setTop (mkF m 271 #[.val (.int p0), .val (.int p1), .val (.int p2), .val (.int p3), .val (.int (own_a p0)), .val (.int (own_a p1)), .val (.int (own_a p2)), .val (.int (own_a p3)), .val (.ref b1), .val (.ref b3), .val (.ref b5), .val (.double (own_t (own_a p0) (own_a p1))), .second, .val (.double (own_t (own_a p2) (own_a p3))), .second, .val (.double (own_t (own_a p0) (own_a p0))), .second, .val (.int (1 : Int32)), .val (.long (own_l (own_a p0) (own_a p3))), .second, .val (.long (own_l (own_a p2) (own_a p1))), .second, .val (.int (1 : Int32)), .val (.int (1 : Int32))] [])) _
    refine XS.iload X9.here hx rfl (hb hby at_271) rfl ?_
    show Steps p.tables e below (T9.setTop (mkF m 273 #[.val (.int p0), .val (.int p1), .val (.int p2), .val (.int p3), .val (.int (own_a p0)), .val (.int (own_a p1)), .val (.int (own_a p2)), .val (.int (own_a p3)), .val (.ref b1), .val (.ref b3), .val (.ref b5), .val (.double (own_t (own_a p0) (own_a p1))), .second, .val (.double (own_t (own_a p2) (own_a p3))), .second, .val (.double (own_t (own_a p0) (own_a p0))), .second, .val (.int (1 : Int32)), .val (.long (own_l (own_a p0) (own_a p3))), .second, .val (.long (own_l (own_a p2) (own_a p1))), .second, .val (.int (1 : Int32)), .val (.int (1 : Int32))] [(.int (1 : Int32))])) _
    refine XS.ifNo X9.here hx rfl (hb hby at_273) rfl (by decide) ?_
    show Steps p.tables e below (T9.setTop (mkF m 276 #[.val (.int p0), .val (.int p1), .val (.int p2), .val (.int p3), .val (.int (own_a p0)), .val (.int (own_a p1)), .val (.int (own_a p2)), .val (.int (own_a p3)), .val (.ref b1), .val (.ref b3), .val (.ref b5), .val (.double (own_t (own_a p0) (own_a p1))), .second, .val (.double (own_t (own_a p2) (own_a p3))), .second, .val (.double (own_t (own_a p0) (own_a p0))), .second, .val (.int (1 : Int32)), .val (.long (own_l (own_a p0) (own_a p3))), .second, .val (.long (own_l (own_a p2) (own_a p1))), .second, .val (.int (1 : Int32)), .val (.int (1 : Int32))] [])) _
    refine XS.iconst X9.here hx rfl (hb hby at_276) ?_
    show Steps p.tables e below (T9.setTop (mkF m 277 #[.val (.int p0), .val (.int p1), .val (.int p2), .val (.int p3), .val (.int (own_a p0)), .val (.int (own_a p1)), .val (.int (own_a p2)), .val (.int (own_a p3)), .val (.ref b1), .val (.ref b3), .val (.ref b5), .val (.double (own_t (own_a p0) (own_a p1))), .second, .val (.double (own_t (own_a p2) (own_a p3))), .second, .val (.double (own_t (own_a p0) (own_a p0))), .second, .val (.int (1 : Int32)), .val (.long (own_l (own_a p0) (own_a p3))), .second, .val (.long (own_l (own_a p2) (own_a p1))), .second, .val (.int (1 : Int32)), .val (.int (1 : Int32))] [(.int (1 : Int32))])) _
    refine XS.goto X9.here hx rfl (pc0 := 277) (pc' := 281) rfl (hb hby at_277) (by decide) (by decide) ?_
    show Steps p.tables e below (T9.setTop (mkF m 281 #[.val (.int p0), .val (.int p1), .val (.int p2), .val (.int p3), .val (.int (own_a p0)), .val (.int (own_a p1)), .val (.int (own_a p2)), .val (.int (own_a p3)), .val (.ref b1), .val (.ref b3), .val (.ref b5), .val (.double (own_t (own_a p0) (own_a p1))), .second, .val (.double (own_t (own_a p2) (own_a p3))), .second, .val (.double (own_t (own_a p0) (own_a p0))), .second, .val (.int (1 : Int32)), .val (.long (own_l (own_a p0) (own_a p3))), .second, .val (.long (own_l (own_a p2) (own_a p1))), .second, .val (.int (1 : Int32)), .val (.int (1 : Int32))] [(.int (1 : Int32))])) _
    exact retN X9 hx (t := .boolean) Bd.returns (by simp) (hb hby at_281) hr
  · show Q0 Z p0 p1 p2 p3 h0 n0 _ T9.heap _
    rw [eh9]
    exact ⟨rfl, N9⟩
set_option maxRecDepth 65536 in
set_option maxHeartbeats 40000000 in
theorem comes_1 {Post : Tables → Env → Array Value → State → Outcome → State → Prop} (hpost : ∀ tb e args s v u, (limb_1_1.after args s (.returned v) u = true ∧ limb_1_2.after args s (.returned v) u = true ∧ True) → ReturnedEndW s (.returned v) u (Jvm.fieldLocs frame_1_writes args s ++ Jvm.arrayLocs frame_1_arrays args s ++ Jvm.staticLocs frame_1_statics s) 24 2176 → Post tb e args s (.returned v) u) :
    ArmFor flags0 classFile x code maxLocals ret World_1 tables_1 room_1 Calls_1 rest_1 Pre_1 Post := by
  intro l hfl _ _ p e ha hc hk s m args below hf hA hF happ hP
  obtain ⟨hcalls, hrest, hpre⟩ := hP
  obtain ⟨-, -, -, hnamed, -, -, -, hat⟩ := (Spec.applies_iff hf).mp happ
  obtain ⟨hg, hn⟩ := and_e (Cond.before_iff.mp (show (Jvm.Cond.and given_1 narrow_1).before args s = true from hpre))
  obtain ⟨hcount, hg0⟩ := and_e hg
  obtain ⟨ha0, hg1⟩ := and_e hg0
  obtain ⟨ha1, hg2⟩ := and_e hg1
  obtain ⟨ha2, hg3⟩ := and_e hg2
  have ha3 := hg3
  obtain ⟨w0, w1, w2, w3, rfl⟩ : ∃ w0 w1 w2 w3 : Value, args = #[w0, w1, w2, w3] := by
    have hs : args.size = 4 := by simpa [Cond.value, given_1] using hcount
    obtain ⟨L⟩ := args
    match L, hs with
    | [w0, w1, w2, w3], _ => exact ⟨w0, w1, w2, w3, rfl⟩
  have hw := fun d (hd : d ∈ tables_1) => atoms_spec (ws := Jvm.Cond.code x code maxLocals ret :: tables_1) hat d (List.mem_cons_of_mem _ hd)
  have hfit : Fit s := fun {y c} hc i hi => by
    obtain ⟨ha, rfl⟩ := Array.getElem?_eq_some_iff.mp hc
    have q := List.all_eq_true.mp ((Array.all_eq_true_iff_forall_mem.mp hF) _ (Array.getElem_mem ha)) i (List.mem_range.mpr hi)
    simpa [Array.getElem?_eq_getElem hi] using q
  obtain ⟨i0, ei0⟩ := is_v ha0
  obtain rfl : w0 = (.int i0) := Option.some.inj ei0
  obtain ⟨i1, ei1⟩ := is_v ha1
  obtain rfl : w1 = (.int i1) := Option.some.inj ei1
  obtain ⟨i2, ei2⟩ := is_v ha2
  obtain rfl : w2 = (.int i2) := Option.some.inj ei2
  obtain ⟨i3, ei3⟩ := is_v ha3
  obtain rfl : w3 = (.int i3) := Option.some.inj ei3
  obtain ⟨n, o, h1, h2, h3, _, L, rfl, ⟨rfl, N⟩, hq⟩ := rm0 l s _ hw tables_1 i0 i1 i2 i3 s.heap s.heap.size (Nat.le_refl _) p e ha hc hk s m _ below hf ((Spec.applies_iff_loose hf).mp happ).1 ⟨rfl, State.Warmed39.refl s, rfl⟩ trivial
  refine ⟨n, _, h1, h2, h3, hpost _ _ _ _ _ _ ⟨Cond.after_iff.mpr rfl, Cond.after_iff.mpr (eq_i res_at (Term.int_eval (1)) rfl), trivial⟩ ⟨hq.1, hq.2.1, hq.2.2.1, (hq.2.2.2.sift fun y hy => Or.inr (N y hy)).mono (by decide) (by decide)⟩⟩
theorem main_1_1 : Claimed_1_1 := comes_1 fun _ _ _ _ _ _ h hF => ⟨h.1, hF⟩
theorem main_1_2 : Claimed_1_2 := comes_1 fun _ _ _ _ _ _ h hF => ⟨h.2.1, hF⟩
end Jvm.Pilot.@@N@@
namespace Jvm.Pilot.@@N@@
open Jvm Jvm.ClassFile Sem Op Lib Jvm.Free Jvm.Stand Jvm.Pilot.@@N@@.Jvm.D
/-! MADE BY PROGRAM (witnessworld.py) out of the Statement's table words and the real class files: 18 classes; the members and pool entries that the words name. The judged class is class 1, her method 1. -/
namespace start1
open Jvm.ClassFile
def u (s : String) : CpInfo := .utf8 (stringToUtf16 s)
/-- a pool by its gaps: so many unusable entries, then the entry; so many at the end -/
def gap : Nat → List CpInfo → List CpInfo
  | 0, r => r
  | n + 1, r => .unusable :: gap n r
def poolList (es : List (Nat × CpInfo)) (last : Nat) : List CpInfo := es.foldr (fun e r => gap e.1 (e.2 :: r)) (gap last [])
def pool (es : List (Nat × CpInfo)) (last : Nat) : Array CpInfo := ⟨poolList es last⟩
def fileOf (pool : Array CpInfo) (this : Nat) (attrs : Array Attribute := #[]) (ms : Array MethodInfo := #[]) (fl : Nat := 33) (sup : Nat := 0) (ifs : Array Nat := #[]) (fds : Array FieldInfo := #[]) : ClassFile where
  minorVersion := 0
  majorVersion := 65
  constantPool := pool
  accessFlags := fl
  thisClass := this
  superClass := sup
  interfaces := ifs
  fields := fds
  methods := ms
  attributes := attrs
def plain (name : String) (sup : Option ClassId) : Class where
  name := name
  kind := .ordinary
  loader := none
  accessFlags := 33
  super := sup
  interfaces := #[]
  cf := none
  fields := #[]
  methods := #[]
  instanceTypes := #[]
  staticTypes := #[]
  resolved := #[]
  callSites := []
  init := .initialized
  statics := none
  mirror := none

def pool0 : Array CpInfo := pool [(5, u "<init>"), (0, u "()V"), (1, .class_ 10), (1, u "java/lang/Object")] 113

def k0c0 : Code := { maxStack := 0, maxLocals := 1, code := object_method_1_code, exceptionTable := #[], attributes := #[] }
def k0m0 : Method := { name := "<init>", desc := "()V", sig := { parameters := [], returnType := none }, accessFlags := 1, code := some k0c0 }
/-- java/lang/Object -/
def k0 : Class := { plain "java/lang/Object" none with
  accessFlags := 33
  interfaces := #[]
  cf := some (fileOf pool0 8 #[] #[{ accessFlags := 1, nameIndex := 5, descriptorIndex := 6, attributes := #[] }] 33 0 #[] #[])
  fields := #[]
  methods := #[k0m0]
  instanceTypes := #[]
  staticTypes := #[]
  resolved := Array.replicate 124 none
  statics := none }

def pool1 : Array CpInfo := pool [(2, .class_ 4), (1, u "java/lang/Object"), (0, u "<init>"), (0, u "()V"), (0, .integer 65535), (0, .class_ 9), (0, u "com/example/osiris/osiris/principles/Losses"), (0, .methodref 8 11), (0, .nameAndType 5 12), (0, u "(DD)V"), (0, .methodref 8 14), (0, .nameAndType 15 16), (0, u "threshold"), (0, u "()D"), (0, .double 4602678819172646912), (1, .class_ 20), (0, u "com/example/osiris/osiris/principles/LossesThresholdPinLaw"), (2, u "law"), (0, u "(IIII)Z")] 3

def k1m0 : Method := { name := "<init>", desc := "()V", sig := { parameters := [], returnType := none }, accessFlags := 1, code := none }
def k1c1 : Code := { maxStack := 6, maxLocals := 24, code := code, exceptionTable := #[], attributes := #[] }
def k1m1 : Method := { name := "law", desc := "(IIII)Z", sig := { parameters := [.int, .int, .int, .int], returnType := some .boolean }, accessFlags := 9, code := some k1c1 }
/-- com/example/osiris/osiris/principles/LossesThresholdPinLaw -/
def k1 : Class := { plain "com/example/osiris/osiris/principles/LossesThresholdPinLaw" (some 0) with
  accessFlags := 49
  interfaces := #[]
  cf := some (fileOf pool1 19 #[] #[{ accessFlags := 1, nameIndex := 5, descriptorIndex := 6, attributes := #[] }, { accessFlags := 9, nameIndex := 23, descriptorIndex := 24, attributes := #[] }] 49 2 #[] #[])
  fields := #[]
  methods := #[k1m0, k1m1]
  instanceTypes := #[]
  staticTypes := #[]
  resolved := Array.replicate 28 none
  statics := none }

def pool2 : Array CpInfo := pool [(1, .methodref 2 3), (0, .class_ 4), (0, .nameAndType 5 6), (0, u "java/lang/Object"), (0, u "<init>"), (0, u "()V"), (0, .class_ 8), (0, u "java/lang/Record")] 13

def k2c0 : Code := { maxStack := 1, maxLocals := 1, code := jdk_30_method_1_code, exceptionTable := #[], attributes := #[] }
def k2m0 : Method := { name := "<init>", desc := "()V", sig := { parameters := [], returnType := none }, accessFlags := 4, code := some k2c0 }
/-- java/lang/Record -/
def k2 : Class := { plain "java/lang/Record" (some 0) with
  accessFlags := 1057
  interfaces := #[]
  cf := some (fileOf pool2 7 #[] #[{ accessFlags := 4, nameIndex := 5, descriptorIndex := 6, attributes := #[] }] 1057 2 #[] #[])
  fields := #[]
  methods := #[k2m0]
  instanceTypes := #[]
  staticTypes := #[]
  resolved := Array.replicate 22 none
  statics := none }

def pool3 : Array CpInfo := pool [(1, .methodref 2 3), (0, .class_ 4), (0, .nameAndType 5 6), (0, u "java/lang/Record"), (0, u "<init>"), (0, u "()V"), (0, .string 8), (0, u "of showing a non-relevant candidate"), (0, .methodref 10 11), (0, .class_ 12), (0, .nameAndType 13 14), (0, u "com/example/osiris/osiris/principles/Losses"), (0, u "checkLoss"), (0, u "(DLjava/lang/String;)V"), (0, .string 16), (0, u "of missing a relevant candidate"), (0, .fieldref 10 18), (0, .nameAndType 19 20), (0, u "showingNonRelevant"), (0, u "D"), (0, .fieldref 10 22), (0, .nameAndType 23 20), (0, u "missingRelevant"), (0, .methodref 25 26), (0, .class_ 27), (0, .nameAndType 28 29), (0, u "java/lang/Double"), (0, u "isFinite"), (0, u "(D)Z"), (21, u "(DD)V"), (4, u "threshold"), (0, u "()D")] 32

def k3c0 : Code := { maxStack := 3, maxLocals := 5, code := prog_49_method_1_code, exceptionTable := #[], attributes := #[] }
def k3m0 : Method := { name := "<init>", desc := "(DD)V", sig := { parameters := [.double, .double], returnType := none }, accessFlags := 1, code := some k3c0 }
def k3c1 : Code := { maxStack := 5, maxLocals := 3, code := prog_49_method_2_code, exceptionTable := #[], attributes := #[] }
def k3m1 : Method := { name := "checkLoss", desc := "(DLjava/lang/String;)V", sig := { parameters := [.double, (.object "java/lang/String")], returnType := none }, accessFlags := 10, code := some k3c1 }
def k3c2 : Code := { maxStack := 6, maxLocals := 1, code := prog_49_method_3_code, exceptionTable := #[], attributes := #[] }
def k3m2 : Method := { name := "threshold", desc := "()D", sig := { parameters := [], returnType := some .double }, accessFlags := 1, code := some k3c2 }
/-- com/example/osiris/osiris/principles/Losses -/
def k3 : Class := { plain "com/example/osiris/osiris/principles/Losses" (some 2) with
  accessFlags := 49
  interfaces := #[]
  cf := some (fileOf pool3 10 #[] #[{ accessFlags := 1, nameIndex := 5, descriptorIndex := 51, attributes := #[] }, { accessFlags := 10, nameIndex := 13, descriptorIndex := 14, attributes := #[] }, { accessFlags := 1, nameIndex := 56, descriptorIndex := 57, attributes := #[] }] 49 2 #[] #[{ accessFlags := 18, nameIndex := 19, descriptorIndex := 20, attributes := #[] }, { accessFlags := 18, nameIndex := 23, descriptorIndex := 20, attributes := #[] }])
  fields := #[{ name := "showingNonRelevant", type := .double, accessFlags := 18, slot := 0, constantValue := 0 }, { name := "missingRelevant", type := .double, accessFlags := 18, slot := 1, constantValue := 0 }]
  methods := #[k3m0, k3m1, k3m2]
  instanceTypes := #[.double, .double]
  staticTypes := #[]
  resolved := Array.replicate 90 none
  statics := none }

def pool4 : Array CpInfo := pool [(1, .class_ 2), (0, u "java/io/Serializable"), (0, .class_ 4), (0, u "java/lang/Object")] 2

/-- java/io/Serializable -/
def k4 : Class := { plain "java/io/Serializable" (some 0) with
  accessFlags := 1537
  interfaces := #[]
  cf := some (fileOf pool4 1 #[] #[] 1537 3 #[] #[])
  fields := #[]
  methods := #[]
  instanceTypes := #[]
  staticTypes := #[]
  resolved := Array.replicate 7 none
  statics := none }

def pool5 : Array CpInfo := pool [(1, .class_ 2), (0, u "java/lang/Comparable"), (0, .class_ 4), (0, u "java/lang/Object")] 7

/-- java/lang/Comparable -/
def k5 : Class := { plain "java/lang/Comparable" (some 0) with
  accessFlags := 1537
  interfaces := #[]
  cf := some (fileOf pool5 1 #[] #[] 1537 3 #[] #[])
  fields := #[]
  methods := #[]
  instanceTypes := #[]
  staticTypes := #[]
  resolved := Array.replicate 12 none
  statics := none }

def pool6 : Array CpInfo := pool [(2, .class_ 4), (1, u "java/lang/CharSequence"), (42, .class_ 48), (0, u "java/lang/CharSequence$1CodePointIterator"), (10, .class_ 60), (0, u "java/lang/CharSequence$1CharIterator"), (5, .class_ 67), (0, u "java/lang/Object")] 63

/-- java/lang/CharSequence -/
def k6 : Class := { plain "java/lang/CharSequence" (some 0) with
  accessFlags := 1537
  interfaces := #[]
  cf := some (fileOf pool6 2 #[.nestMembers #[47, 59]] #[] 1537 66 #[] #[])
  fields := #[]
  methods := #[]
  instanceTypes := #[]
  staticTypes := #[]
  resolved := Array.replicate 131 none
  statics := none }

def pool7 : Array CpInfo := pool [(1, .class_ 2), (0, u "java/lang/constant/Constable"), (0, .class_ 4), (0, u "java/lang/Object")] 6

/-- java/lang/constant/Constable -/
def k7 : Class := { plain "java/lang/constant/Constable" (some 0) with
  accessFlags := 1537
  interfaces := #[]
  cf := some (fileOf pool7 1 #[] #[] 1537 3 #[] #[])
  fields := #[]
  methods := #[]
  instanceTypes := #[]
  staticTypes := #[]
  resolved := Array.replicate 11 none
  statics := none }

def pool8 : Array CpInfo := pool [(1, .class_ 2), (0, u "java/lang/constant/ConstantDesc"), (0, .class_ 4), (0, u "java/lang/Object")] 32

/-- java/lang/constant/ConstantDesc -/
def k8 : Class := { plain "java/lang/constant/ConstantDesc" (some 0) with
  accessFlags := 1537
  interfaces := #[]
  cf := some (fileOf pool8 1 #[] #[] 1537 3 #[] #[])
  fields := #[]
  methods := #[]
  instanceTypes := #[]
  staticTypes := #[]
  resolved := Array.replicate 37 none
  statics := none }

def pool9 : Array CpInfo := pool [(2, .class_ 4), (1, u "java/lang/Object"), (0, u "<init>"), (0, u "()V"), (3, .class_ 12), (1, u "java/lang/String"), (0, u "value"), (0, u "[B"), (2, u "coder"), (0, u "B"), (2, u "hash"), (0, u "I"), (2, u "hashIsZero"), (0, u "Z"), (13, u "COMPACT_STRINGS"), (534, .class_ 576), (0, u "java/lang/CharSequence"), (22, u "CASE_INSENSITIVE_ORDER"), (0, u "Ljava/util/Comparator;"), (500, u "serialPersistentFields"), (0, u "[Ljava/io/ObjectStreamField;"), (0, .class_ 1104), (0, u "java/lang/String$CaseInsensitiveComparator"), (1, .class_ 1107), (0, u "java/io/Serializable"), (0, .class_ 1109), (0, u "java/lang/Comparable"), (0, .class_ 1111), (0, u "java/lang/constant/Constable"), (0, .class_ 1113), (0, u "java/lang/constant/ConstantDesc"), (2, u "serialVersionUID"), (0, u "J"), (3, u "REPL"), (0, u "C"), (2, u "LATIN1"), (1, u "UTF16")] 323

def k9m0 : Method := { name := "<init>", desc := "()V", sig := { parameters := [], returnType := none }, accessFlags := 1, code := none }
/-- java/lang/String -/
def k9 : Class := { plain "java/lang/String" (some 0) with
  accessFlags := 49
  interfaces := #[4, 5, 6, 7, 8]
  cf := some (fileOf pool9 10 #[.nestMembers #[1103]] #[{ accessFlags := 1, nameIndex := 5, descriptorIndex := 6, attributes := #[] }] 49 2 #[1106, 1108, 575, 1110, 1112] #[{ accessFlags := 18, nameIndex := 13, descriptorIndex := 14, attributes := #[] }, { accessFlags := 18, nameIndex := 17, descriptorIndex := 18, attributes := #[] }, { accessFlags := 2, nameIndex := 21, descriptorIndex := 22, attributes := #[] }, { accessFlags := 2, nameIndex := 25, descriptorIndex := 26, attributes := #[] }, { accessFlags := 26, nameIndex := 1116, descriptorIndex := 1117, attributes := #[] }, { accessFlags := 24, nameIndex := 40, descriptorIndex := 26, attributes := #[] }, { accessFlags := 26, nameIndex := 1101, descriptorIndex := 1102, attributes := #[] }, { accessFlags := 26, nameIndex := 1121, descriptorIndex := 1122, attributes := #[] }, { accessFlags := 25, nameIndex := 599, descriptorIndex := 600, attributes := #[] }, { accessFlags := 24, nameIndex := 1125, descriptorIndex := 18, attributes := #[] }, { accessFlags := 24, nameIndex := 1127, descriptorIndex := 18, attributes := #[] }])
  fields := #[{ name := "value", type := (.array .byte), accessFlags := 18, slot := 0, constantValue := 0 }, { name := "coder", type := .byte, accessFlags := 18, slot := 1, constantValue := 0 }, { name := "hash", type := .int, accessFlags := 2, slot := 2, constantValue := 0 }, { name := "hashIsZero", type := .boolean, accessFlags := 2, slot := 3, constantValue := 0 }, { name := "serialVersionUID", type := .long, accessFlags := 26, slot := 0, constantValue := 0 }, { name := "COMPACT_STRINGS", type := .boolean, accessFlags := 24, slot := 1, constantValue := 0 }, { name := "serialPersistentFields", type := (.array (.object "java/io/ObjectStreamField")), accessFlags := 26, slot := 2, constantValue := 0 }, { name := "REPL", type := .char, accessFlags := 26, slot := 3, constantValue := 0 }, { name := "CASE_INSENSITIVE_ORDER", type := (.object "java/util/Comparator"), accessFlags := 25, slot := 4, constantValue := 0 }, { name := "LATIN1", type := .byte, accessFlags := 24, slot := 5, constantValue := 0 }, { name := "UTF16", type := .byte, accessFlags := 24, slot := 6, constantValue := 0 }]
  methods := #[k9m0]
  instanceTypes := #[(.array .byte), .byte, .int, .boolean]
  staticTypes := #[.long, .boolean, (.array (.object "java/io/ObjectStreamField")), .char, (.object "java/util/Comparator"), .byte, .byte]
  resolved := Array.replicate 1451 none
  statics := none }

def pool10 : Array CpInfo := pool [(2, .class_ 4), (1, u "java/lang/Object"), (0, u "<init>"), (0, u "()V"), (1, .class_ 10), (1, u "java/lang/Number"), (2, .class_ 14), (0, u "java/io/Serializable"), (0, u "serialVersionUID"), (0, u "J")] 20

def k10m0 : Method := { name := "<init>", desc := "()V", sig := { parameters := [], returnType := none }, accessFlags := 1, code := none }
/-- java/lang/Number -/
def k10 : Class := { plain "java/lang/Number" (some 0) with
  accessFlags := 1057
  interfaces := #[4]
  cf := some (fileOf pool10 8 #[] #[{ accessFlags := 1, nameIndex := 5, descriptorIndex := 6, attributes := #[] }] 1057 2 #[13] #[{ accessFlags := 26, nameIndex := 15, descriptorIndex := 16, attributes := #[] }])
  fields := #[{ name := "serialVersionUID", type := .long, accessFlags := 26, slot := 0, constantValue := 0 }]
  methods := #[k10m0]
  instanceTypes := #[]
  staticTypes := #[.long]
  resolved := Array.replicate 37 none
  statics := none }

def pool11 : Array CpInfo := pool [(1, .class_ 2), (0, u "java/lang/Double"), (10, u "isFinite"), (0, u "(D)Z"), (8, .class_ 25), (1, u "java/lang/Math"), (12, .methodref 23 39), (0, .nameAndType 40 41), (0, u "abs"), (0, u "(D)D"), (69, .double 9218868437227405311), (2, .class_ 116), (1, u "java/lang/Number"), (3, u "value"), (0, u "D"), (51, u "TYPE"), (0, u "Ljava/lang/Class;"), (0, .class_ 176), (0, u "java/lang/Comparable"), (0, .class_ 178), (0, u "java/lang/constant/Constable"), (0, .class_ 180), (0, u "java/lang/constant/ConstantDesc"), (0, u "POSITIVE_INFINITY"), (3, u "NEGATIVE_INFINITY"), (2, u "NaN"), (2, u "MAX_VALUE"), (0, u "MIN_NORMAL"), (0, u "MIN_VALUE"), (2, u "SIZE"), (0, u "I"), (1, u "PRECISION"), (1, u "MAX_EXPONENT"), (1, u "MIN_EXPONENT"), (1, u "BYTES"), (3, u "serialVersionUID"), (0, u "J")] 79

def k11c0 : Code := { maxStack := 4, maxLocals := 2, code := jdk_117_method_8_code, exceptionTable := #[], attributes := #[] }
def k11m0 : Method := { name := "isFinite", desc := "(D)Z", sig := { parameters := [.double], returnType := some .boolean }, accessFlags := 9, code := some k11c0 }
/-- java/lang/Double -/
def k11 : Class := { plain "java/lang/Double" (some 10) with
  accessFlags := 49
  interfaces := #[5, 7, 8]
  cf := some (fileOf pool11 1 #[] #[{ accessFlags := 9, nameIndex := 13, descriptorIndex := 14, attributes := #[] }] 49 114 #[175, 177, 179] #[{ accessFlags := 25, nameIndex := 181, descriptorIndex := 121, attributes := #[] }, { accessFlags := 25, nameIndex := 185, descriptorIndex := 121, attributes := #[] }, { accessFlags := 25, nameIndex := 188, descriptorIndex := 121, attributes := #[] }, { accessFlags := 25, nameIndex := 191, descriptorIndex := 121, attributes := #[] }, { accessFlags := 25, nameIndex := 192, descriptorIndex := 121, attributes := #[] }, { accessFlags := 25, nameIndex := 193, descriptorIndex := 121, attributes := #[] }, { accessFlags := 25, nameIndex := 196, descriptorIndex := 197, attributes := #[] }, { accessFlags := 25, nameIndex := 199, descriptorIndex := 197, attributes := #[] }, { accessFlags := 25, nameIndex := 201, descriptorIndex := 197, attributes := #[] }, { accessFlags := 25, nameIndex := 203, descriptorIndex := 197, attributes := #[] }, { accessFlags := 25, nameIndex := 205, descriptorIndex := 197, attributes := #[] }, { accessFlags := 25, nameIndex := 173, descriptorIndex := 174, attributes := #[] }, { accessFlags := 18, nameIndex := 120, descriptorIndex := 121, attributes := #[] }, { accessFlags := 26, nameIndex := 209, descriptorIndex := 210, attributes := #[] }])
  fields := #[{ name := "POSITIVE_INFINITY", type := .double, accessFlags := 25, slot := 0, constantValue := 0 }, { name := "NEGATIVE_INFINITY", type := .double, accessFlags := 25, slot := 1, constantValue := 0 }, { name := "NaN", type := .double, accessFlags := 25, slot := 2, constantValue := 0 }, { name := "MAX_VALUE", type := .double, accessFlags := 25, slot := 3, constantValue := 0 }, { name := "MIN_NORMAL", type := .double, accessFlags := 25, slot := 4, constantValue := 0 }, { name := "MIN_VALUE", type := .double, accessFlags := 25, slot := 5, constantValue := 0 }, { name := "SIZE", type := .int, accessFlags := 25, slot := 6, constantValue := 0 }, { name := "PRECISION", type := .int, accessFlags := 25, slot := 7, constantValue := 0 }, { name := "MAX_EXPONENT", type := .int, accessFlags := 25, slot := 8, constantValue := 0 }, { name := "MIN_EXPONENT", type := .int, accessFlags := 25, slot := 9, constantValue := 0 }, { name := "BYTES", type := .int, accessFlags := 25, slot := 10, constantValue := 0 }, { name := "TYPE", type := (.object "java/lang/Class"), accessFlags := 25, slot := 11, constantValue := 0 }, { name := "value", type := .double, accessFlags := 18, slot := 0, constantValue := 0 }, { name := "serialVersionUID", type := .long, accessFlags := 26, slot := 12, constantValue := 0 }]
  methods := #[k11m0]
  instanceTypes := #[.double]
  staticTypes := #[.double, .double, .double, .double, .double, .double, .int, .int, .int, .int, .int, (.object "java/lang/Class"), .long]
  resolved := Array.replicate 290 none
  statics := none }

def pool12 : Array CpInfo := pool [(1, .class_ 2), (0, u "java/lang/Math"), (1, .class_ 6), (1, u "java/lang/Object"), (0, u "<init>"), (0, u "()V"), (5, u "(D)D"), (83, .class_ 100), (1, u "java/lang/Math$RandomNumberGeneratorHolder"), (23, u "abs"), (47, u "negativeZeroFloatBits"), (0, u "J"), (2, u "negativeZeroDoubleBits"), (68, u "$assertionsDisabled"), (0, u "Z"), (91, u "twoToTheDoubleScaleDown"), (0, u "D"), (4, u "twoToTheDoubleScaleUp"), (9, u "E"), (3, u "PI"), (2, u "TAU"), (2, u "DEGREES_TO_RADIANS"), (0, u "RADIANS_TO_DEGREES")] 94

def k12m0 : Method := { name := "<init>", desc := "()V", sig := { parameters := [], returnType := none }, accessFlags := 2, code := none }
def k12c1 : Code := { maxStack := 4, maxLocals := 2, code := jdk_29_method_64_code, exceptionTable := #[], attributes := #[] }
def k12m1 : Method := { name := "abs", desc := "(D)D", sig := { parameters := [.double], returnType := some .double }, accessFlags := 9, code := some k12c1 }
/-- java/lang/Math -/
def k12 : Class := { plain "java/lang/Math" (some 0) with
  accessFlags := 49
  interfaces := #[]
  cf := some (fileOf pool12 1 #[.nestMembers #[98]] #[{ accessFlags := 2, nameIndex := 7, descriptorIndex := 8, attributes := #[] }, { accessFlags := 9, nameIndex := 124, descriptorIndex := 14, attributes := #[] }] 49 4 #[] #[{ accessFlags := 25, nameIndex := 354, descriptorIndex := 339, attributes := #[] }, { accessFlags := 25, nameIndex := 358, descriptorIndex := 339, attributes := #[] }, { accessFlags := 25, nameIndex := 361, descriptorIndex := 339, attributes := #[] }, { accessFlags := 26, nameIndex := 364, descriptorIndex := 339, attributes := #[] }, { accessFlags := 26, nameIndex := 365, descriptorIndex := 339, attributes := #[] }, { accessFlags := 26, nameIndex := 172, descriptorIndex := 173, attributes := #[] }, { accessFlags := 26, nameIndex := 176, descriptorIndex := 173, attributes := #[] }, { accessFlags := 8, nameIndex := 344, descriptorIndex := 339, attributes := #[] }, { accessFlags := 8, nameIndex := 338, descriptorIndex := 339, attributes := #[] }, { accessFlags := 4120, nameIndex := 245, descriptorIndex := 246, attributes := #[] }])
  fields := #[{ name := "E", type := .double, accessFlags := 25, slot := 0, constantValue := 0 }, { name := "PI", type := .double, accessFlags := 25, slot := 1, constantValue := 0 }, { name := "TAU", type := .double, accessFlags := 25, slot := 2, constantValue := 0 }, { name := "DEGREES_TO_RADIANS", type := .double, accessFlags := 26, slot := 3, constantValue := 0 }, { name := "RADIANS_TO_DEGREES", type := .double, accessFlags := 26, slot := 4, constantValue := 0 }, { name := "negativeZeroFloatBits", type := .long, accessFlags := 26, slot := 5, constantValue := 0 }, { name := "negativeZeroDoubleBits", type := .long, accessFlags := 26, slot := 6, constantValue := 0 }, { name := "twoToTheDoubleScaleUp", type := .double, accessFlags := 8, slot := 7, constantValue := 0 }, { name := "twoToTheDoubleScaleDown", type := .double, accessFlags := 8, slot := 8, constantValue := 0 }, { name := "$assertionsDisabled", type := .boolean, accessFlags := 4120, slot := 9, constantValue := 0 }]
  methods := #[k12m0, k12m1]
  instanceTypes := #[]
  staticTypes := #[.double, .double, .double, .double, .double, .long, .long, .double, .double, .boolean]
  resolved := Array.replicate 460 none
  statics := none }

def pool13 : Array CpInfo := pool [(1, u "java/lang/Cloneable"), (0, .class_ 1), (0, u "java/lang/Object"), (0, .class_ 3)] 3

/-- java/lang/Cloneable -/
def k13 : Class := { plain "java/lang/Cloneable" (some 0) with
  accessFlags := 1537
  interfaces := #[]
  cf := some (fileOf pool13 2 #[] #[] 1537 4 #[] #[])
  fields := #[]
  methods := #[]
  instanceTypes := #[]
  staticTypes := #[]
  resolved := Array.replicate 8 none
  statics := none }

/-- the primitive byte -/
def k14 : Class := { plain "byte" none with kind := .primitive 'B', accessFlags := 0x411 }
/-- [B -/
def k15 : Class := { plain "[B" (some 0) with kind := .array 14 .byte, interfaces := #[13, 4], accessFlags := 1041 }

/-- the primitive int -/
def k16 : Class := { plain "int" none with kind := .primitive 'I', accessFlags := 0x411 }
/-- [I -/
def k17 : Class := { plain "[I" (some 0) with kind := .array 16 .int, interfaces := #[13, 4], accessFlags := 1041 }

def heap : Heap := #[]
def classes : Array Class := #[k0, k1, k2, k3, k4, k5, k6, k7, k8, k9, k10, k11, k12, k13, k14, k15, k16, k17]
def interned : List (Array UInt16 × Addr) := []
def slotsUsed : Nat := 0
def theMethod : MethodId := ⟨1, 1⟩
def args0 : Array Value := #[.int 5, .int 6, .int 7, .int 8]
def aboutOver (below : List Frame) : State where
  vm := { classes := classes, interned := interned.toArray }
  heap := heap
  slotsUsed := slotsUsed
  threads := #[{ frames := .invoking theMethod args0 :: below }]
def below0 : List Frame := [.native { method := ⟨0, 0⟩, args := #[] }]
def about1 : State := aboutOver below0
def p0 : Program := .bare "" "" ""
def e0 : Env := launch0.env 0 0 0
theorem w_frames : about1.frames = Frame.invoking theMethod args0 :: below0 := rfl
set_option maxRecDepth 65536 in
theorem w_args : argsFit about1.vm theMethod args0 = true := by decide +kernel
set_option maxRecDepth 65536 in
theorem w_heap : heapFits about1 = true := by decide +kernel
set_option maxRecDepth 65536 in
theorem w_runnable : about1.curStatus? = some .runnable := by decide +kernel
set_option maxRecDepth 65536 in
theorem w_alone : about1.alone = true := by decide +kernel
set_option maxRecDepth 65536 in
theorem w_named : about1.methodNamed? x = some theMethod := by decide +kernel
set_option maxRecDepth 65536 in
theorem w_hears : about1.hears theMethod below0 = true := by decide +kernel
set_option maxRecDepth 65536 in
theorem w_ripe : about1.ripe theMethod args0 below0 = true := by decide +kernel
theorem w_running : about1.status = .running := rfl
set_option maxRecDepth 65536 in
theorem w_room : about1.hasRoom e0.platform room_1 = true :=
  launch0.hasRoom_least _ room_1 (by decide +kernel) (by decide +kernel) (by decide +kernel) (by decide +kernel) (by decide +kernel) (by decide +kernel)
theorem allAtoms_all (ts : List Jvm.Cond) (a : Array Jvm.Value) (st : Jvm.State) : (allAtoms ts).before a st = ts.all (fun c => c.before a st) := by
  induction ts with
  | nil => rfl
  | cons c t ih =>
    show (Jvm.Cond.and c (allAtoms t)).before a st = _
    rw [Jvm.Cond.before_and, ih, List.all_cons]
def words1 : List Jvm.Cond := Jvm.Cond.code x code maxLocals ret :: tables_1
/-- a 'code' word, met by the world's own term for the bytes: nothing is compared byte by byte -/
theorem code_word {y : MethodName} {bytes : ByteArray} {mx : Nat} {rt : Option FieldType} {a : Array Value} {s : State} {m : MethodId} {meth : Method} {c : Code} (h1 : s.methodNamed? y = some m) (h2 : s.vm.method? m = some meth) (h3 : meth.code = some c) (h4 : c.code = bytes)
    (h5 : (c.maxLocals == mx && c.exceptionTable.isEmpty && decide (c.maxStack ≤ mostOperands) && decide (meth.sig.returnType = rt) && !meth.locks && decide (parseMethodDescriptor y.desc = some meth.sig)) = true) : (Jvm.Cond.code y bytes mx rt).before a s = true := by
  simp only [Bool.and_eq_true, beq_iff_eq, Bool.not_eq_true', decide_eq_true_eq] at h5
  obtain ⟨⟨⟨⟨⟨g1, g2⟩, g3⟩, g4⟩, g5⟩, g6⟩ := h5
  simp [Cond.before, Cond.holds, Cond.value, h1, h2, h3, h4, g1, g2, g3, g4, g5, g6]
def isCode : Jvm.Cond → Bool
  | .code _ _ _ _ => true
  | _ => false
theorem all_split {L : List Jvm.Cond} {P : Jvm.Cond → Bool} (h1 : L.all (fun c => isCode c || P c) = true) (h2 : ∀ c ∈ L.filter isCode, P c = true) : L.all P = true := by
  refine List.all_eq_true.mpr fun c hc => ?_
  have h := List.all_eq_true.mp h1 c hc
  rcases Bool.eq_false_or_eq_true (isCode c) with hi | hi
  · exact h2 c (List.mem_filter.mpr ⟨hc, hi⟩)
  · simpa [hi] using h
set_option maxRecDepth 65536 in
theorem w_c0 : (Jvm.Cond.code x code maxLocals ret).before args0 about1 = true := code_word (m := ⟨1, 1⟩) (meth := k1m1) (c := k1c1) (by decide +kernel) rfl rfl rfl (by decide +kernel)
set_option maxRecDepth 65536 in
theorem w_c1 : (Jvm.Cond.code ({ cls := "com/example/osiris/osiris/principles/Losses", name := "<init>", desc := "(DD)V" } : Jvm.MethodName) prog_49_method_1_code (5 : Nat) (Option.none : Option Jvm.ClassFile.FieldType)).before args0 about1 = true := code_word (m := ⟨3, 0⟩) (meth := k3m0) (c := k3c0) (by decide +kernel) rfl rfl rfl (by decide +kernel)
set_option maxRecDepth 65536 in
theorem w_c2 : (Jvm.Cond.code ({ cls := "java/lang/Record", name := "<init>", desc := "()V" } : Jvm.MethodName) jdk_30_method_1_code (1 : Nat) (Option.none : Option Jvm.ClassFile.FieldType)).before args0 about1 = true := code_word (m := ⟨2, 0⟩) (meth := k2m0) (c := k2c0) (by decide +kernel) rfl rfl rfl (by decide +kernel)
set_option maxRecDepth 65536 in
theorem w_c3 : (Jvm.Cond.code ({ cls := "java/lang/Object", name := "<init>", desc := "()V" } : Jvm.MethodName) object_method_1_code (1 : Nat) (Option.none : Option Jvm.ClassFile.FieldType)).before args0 about1 = true := code_word (m := ⟨0, 0⟩) (meth := k0m0) (c := k0c0) (by decide +kernel) rfl rfl rfl (by decide +kernel)
set_option maxRecDepth 65536 in
theorem w_c4 : (Jvm.Cond.code ({ cls := "com/example/osiris/osiris/principles/Losses", name := "checkLoss", desc := "(DLjava/lang/String;)V" } : Jvm.MethodName) prog_49_method_2_code (3 : Nat) (Option.none : Option Jvm.ClassFile.FieldType)).before args0 about1 = true := code_word (m := ⟨3, 1⟩) (meth := k3m1) (c := k3c1) (by decide +kernel) rfl rfl rfl (by decide +kernel)
set_option maxRecDepth 65536 in
theorem w_c5 : (Jvm.Cond.code ({ cls := "java/lang/Double", name := "isFinite", desc := "(D)Z" } : Jvm.MethodName) jdk_117_method_8_code (2 : Nat) (Option.some Jvm.ClassFile.FieldType.boolean)).before args0 about1 = true := code_word (m := ⟨11, 0⟩) (meth := k11m0) (c := k11c0) (by decide +kernel) rfl rfl rfl (by decide +kernel)
set_option maxRecDepth 65536 in
theorem w_c6 : (Jvm.Cond.code ({ cls := "java/lang/Math", name := "abs", desc := "(D)D" } : Jvm.MethodName) jdk_29_method_64_code (2 : Nat) (Option.some Jvm.ClassFile.FieldType.double)).before args0 about1 = true := code_word (m := ⟨12, 1⟩) (meth := k12m1) (c := k12c1) (by decide +kernel) rfl rfl rfl (by decide +kernel)
set_option maxRecDepth 65536 in
theorem w_c7 : (Jvm.Cond.code ({ cls := "com/example/osiris/osiris/principles/Losses", name := "threshold", desc := "()D" } : Jvm.MethodName) prog_49_method_3_code (1 : Nat) (Option.some Jvm.ClassFile.FieldType.double)).before args0 about1 = true := code_word (m := ⟨3, 2⟩) (meth := k3m2) (c := k3c2) (by decide +kernel) rfl rfl rfl (by decide +kernel)
def codes1 : List Jvm.Cond := [Jvm.Cond.code x code maxLocals ret, Jvm.Cond.code ({ cls := "com/example/osiris/osiris/principles/Losses", name := "<init>", desc := "(DD)V" } : Jvm.MethodName) prog_49_method_1_code (5 : Nat) (Option.none : Option Jvm.ClassFile.FieldType), Jvm.Cond.code ({ cls := "java/lang/Record", name := "<init>", desc := "()V" } : Jvm.MethodName) jdk_30_method_1_code (1 : Nat) (Option.none : Option Jvm.ClassFile.FieldType), Jvm.Cond.code ({ cls := "java/lang/Object", name := "<init>", desc := "()V" } : Jvm.MethodName) object_method_1_code (1 : Nat) (Option.none : Option Jvm.ClassFile.FieldType), Jvm.Cond.code ({ cls := "com/example/osiris/osiris/principles/Losses", name := "checkLoss", desc := "(DLjava/lang/String;)V" } : Jvm.MethodName) prog_49_method_2_code (3 : Nat) (Option.none : Option Jvm.ClassFile.FieldType), Jvm.Cond.code ({ cls := "java/lang/Double", name := "isFinite", desc := "(D)Z" } : Jvm.MethodName) jdk_117_method_8_code (2 : Nat) (Option.some Jvm.ClassFile.FieldType.boolean), Jvm.Cond.code ({ cls := "java/lang/Math", name := "abs", desc := "(D)D" } : Jvm.MethodName) jdk_29_method_64_code (2 : Nat) (Option.some Jvm.ClassFile.FieldType.double), Jvm.Cond.code ({ cls := "com/example/osiris/osiris/principles/Losses", name := "threshold", desc := "()D" } : Jvm.MethodName) prog_49_method_3_code (1 : Nat) (Option.some Jvm.ClassFile.FieldType.double)]
set_option maxRecDepth 65536 in
theorem codes_eq : words1.filter isCode = codes1 := rfl
theorem w_codes : ∀ c ∈ words1.filter isCode, c.before args0 about1 = true := by
  rw [codes_eq]
  intro c hc
  simp only [codes1, List.mem_cons, List.not_mem_nil, or_false] at hc
  rcases hc with rfl | rfl | rfl | rfl | rfl | rfl | rfl | rfl
  · exact w_c0
  · exact w_c1
  · exact w_c2
  · exact w_c3
  · exact w_c4
  · exact w_c5
  · exact w_c6
  · exact w_c7
set_option maxRecDepth 65536 in
theorem w_t1 : (words1.take 24).all (fun c => isCode c || c.before args0 about1) = true := by decide +kernel
set_option maxRecDepth 65536 in
theorem w_t2 : (words1.drop 24).all (fun c => isCode c || c.before args0 about1) = true := by decide +kernel
theorem w_tables : (allAtoms (Jvm.Cond.code x code maxLocals ret :: tables_1)).before args0 about1 = true := by
  rw [allAtoms_all]
  show words1.all (fun c => c.before args0 about1) = true
  refine all_split ?_ w_codes
  rw [← List.take_append_drop 24 words1, List.all_append, w_t1, w_t2]
  rfl
set_option maxRecDepth 65536 in
theorem w_case : (Jvm.Cond.and given_1 narrow_1).before args0 about1 = true := by decide +kernel
theorem w_applies : (headSpec (Jvm.Cond.code x code maxLocals ret :: tables_1) room_1).applies x e0.platform about1 = true :=
  (Spec.applies_iff w_frames).mpr ⟨w_running, w_runnable, w_alone, w_named, w_hears, w_ripe, w_room, w_tables⟩
theorem atStart : AtStart classFile x code maxLocals ret World_1 tables_1 room_1 Calls_1 rest_1 Pre_1 launch0 p0 e0 about1 theMethod args0 below0 :=
  ⟨lists_1, trivial, launch0.admits_env _ _ _, launch0.least_env, fairChoices_fair.cas, fairChoices_fair.clock, w_frames, w_args, w_heap, w_applies, trivial, trivial, w_case⟩
end start1
theorem witness_1 : WitnessClaimed_1 := ⟨start1.p0, start1.e0, start1.about1, start1.theMethod, start1.args0, start1.below0, start1.atStart⟩
end Jvm.Pilot.@@N@@
