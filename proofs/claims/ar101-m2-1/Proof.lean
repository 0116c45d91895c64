import JvmDerived
import JvmDerived.Pilot.@@N@@Statement
import JvmDerived.Pilot.@@N@@Code
set_option linter.unusedVariables false
set_option linter.unusedSimpArgs false
@@BLOCK:NumsL.lean.txt@@
namespace Jvm.RoadKit
open Sem ClassFile Op Lib Jvm.Stand Jvm.Free Jvm.LawKit
section New
variable {p : Program} {l : Launch} {e : Env} {R : Room} {s : State} {m : MethodId} {args : Array Value} {below : List Frame} {meth : Method} {c : Code} {T : State} {locs : List Loc} {cells slots : Nat}
theorem retI (X : Stand p l e R s m args below meth c T locs cells slots) (hx : p.tables.exec = Jvm.exec) {pc : Nat} {Ls : Array Slot} {z : Int32} {rest : List Value} (hret : meth.sig.returnType = some .int) (hd : decode c.code pc = .ok (.ireturn, 1)) {fs : List Frame}
    (hl : ∀ (f : JFrame) (acts : List Action), f.method = m → f.locked = none → f.entered = [] → (doReturn e (T.setTop f) acts (some (.int z))).1 = T.setFrames fs) : Steps p.tables e below (T.setTop (mkF m pc Ls (.int z :: rest))) (T.setFrames fs) := by
  have hm' : T.vm.method? m = some meth := X.method'
  have hn : narrow .int (.int z) = .int z := rfl
  show Steps p.tables e below (T.setTop { method := m, pc := pc, locals := Ls, stack := _ :: rest, locked := none }) _
  jvm_step X.here [X.here.top, hx, hd, hm', hret, hn]
  first | (intro acts; rw [hl _ acts rfl rfl rfl]) | rw [hl _ _ rfl rfl rfl]
  exact Steps.refl _
end New
end Jvm.RoadKit

namespace Jvm.Pilot.@@N@@
section Dy
open Jvm.FP Jvm.FP.Core
def own_Dy (k : Nat) (i : Int) : Datum → Prop
  | .fin s c q => Whole i (.fin s c (q + (k : Int)))
  | _ => False
theorem own_dy_order {k : Nat} {i j : Int} {x y : Datum} (hx : own_Dy k i x) (hy : own_Dy k j y) : order x y = some (compare i j) := by
  cases x with
  | nan => exact hx.elim
  | inf => exact hx.elim
  | fin s c q =>
    cases y with
    | nan => exact hy.elim
    | inf => exact hy.elim
    | fin t d r =>
      have h := order_whole (x := .fin s c (q + (k : Int))) (y := .fin t d (r + (k : Int))) hx hy
      rw [← h]
      have e1 : min (q + (k : Int)) (r + (k : Int)) = min q r + (k : Int) := by omega
      show some (compare (signed s (inUnits c q (min q r))) (signed t (inUnits d r (min q r)))) = some (compare (signed s (inUnits c (q + (k : Int)) (min (q + (k : Int)) (r + (k : Int))))) (signed t (inUnits d (r + (k : Int)) (min (q + (k : Int)) (r + (k : Int))))))
      unfold inUnits
      rw [e1, show q + (k : Int) - (min q r + (k : Int)) = q - min q r by omega, show r + (k : Int) - (min q r + (k : Int)) = r - min q r by omega]
theorem own_shift {c c' n : Nat} {Q q : Int} (h1 : c * 2 ^ Q.toNat = n * 2 ^ (-Q).toNat) (h2 : c' * 2 ^ q.toNat = n * 2 ^ (-q).toNat) : c * 2 ^ (Q - q).toNat = c' * 2 ^ (q - Q).toNat := by
  obtain ⟨mm, e1, e2⟩ : ∃ mm, Q.toNat + (-q).toNat = (Q - q).toNat + mm ∧ q.toNat + (-Q).toNat = (q - Q).toNat + mm := ⟨min (Q.toNat + (-q).toNat) (q.toNat + (-Q).toNat), by omega, by omega⟩
  have h3 : c * 2 ^ (Q.toNat + (-q).toNat) = c' * 2 ^ (q.toNat + (-Q).toNat) := by
    rw [Nat.pow_add, Nat.pow_add, ← Nat.mul_assoc, ← Nat.mul_assoc, h1, h2, Nat.mul_right_comm]
  rw [e1, e2, Nat.pow_add, Nat.pow_add, ← Nat.mul_assoc, ← Nat.mul_assoc] at h3
  exact Nat.eq_of_mul_eq_mul_right (Nat.two_pow_pos _) h3
theorem own_dy_round {k : Nat} {i : Int} {d : Datum} (hk : k ≤ 900) (hi : i.natAbs ≤ 2 ^ 53) (h : own_Dy k i d) : own_Dy k i (round b64 d) := by
  cases d with
  | nan => exact h.elim
  | inf => exact h.elim
  | fin s c q =>
    have hW : Whole i (.fin s c (q + (k : Int))) := h
    by_cases h0 : i = 0
    · have hc : c = 0 := (whole_zero hW).mpr h0
      subst h0 hc
      show own_Dy k 0 (.fin s 0 b64.qmin)
      show signed s (0 * 2 ^ (b64.qmin + (k : Int)).toNat) = 0 * _
      rw [Nat.zero_mul, Int.zero_mul]
      exact signed_zero s
    · have hR := whole_round good_b64 wide_b64 hi hW
      have hF := round_fits good_b64 (.fin s c (q + (k : Int)))
      have hS : sgn (round b64 (.fin s c (q + (k : Int)))) = s := sgn_roundRatio b64 s c 1 (q + (k : Int))
      cases hr : round b64 (.fin s c (q + (k : Int))) with
      | nan => rw [hr] at hR; exact hR.elim
      | inf => rw [hr] at hR; exact hR.elim
      | fin s' c' q' =>
        rw [hr] at hR hF hS
        have hs : s' = s := hS
        subst hs
        have n1 := whole_natAbs hW
        have n2 := whole_natAbs hR
        obtain ⟨f1, f2, f3, f4⟩ := hF
        have hp : b64.p = 53 := rfl
        have hm : b64.qmin = -1074 := qmin_b64
        have hM : b64.qmax = 971 := by decide
        have hn : 1 ≤ i.natAbs := by omega
        have hq : -53 < q' := by
          refine Int.lt_of_not_ge fun hge => ?_
          have z : q'.toNat = 0 := by omega
          rw [z, Nat.pow_zero, Nat.mul_one] at n2
          have : 2 ^ 53 ≤ 2 ^ (-q').toNat := Nat.pow_le_pow_right (by decide) (by omega)
          have : 1 * 2 ^ (-q').toNat ≤ i.natAbs * 2 ^ (-q').toNat := Nat.mul_le_mul_right _ hn
          rw [hp] at f1
          omega
        have hfit : Jvm.FP.Core.fits b64 (.fin s' c' (q' - (k : Int))) := ⟨f1, by omega, by omega, by omega⟩
        have he : round b64 (.fin s' c q) = .fin s' c' (q' - (k : Int)) := by
          refine roundRatio_exact good_b64 (by decide) hfit ?_
          have := own_shift n1 n2
          rw [show q - (q' - (k : Int)) = q + (k : Int) - q' by omega, show q' - (k : Int) - q = q' - (q + (k : Int)) by omega, Nat.mul_one]
          exact this
        rw [he]
        show Whole i (.fin s' c' (q' - (k : Int) + (k : Int)))
        rw [show q' - (k : Int) + (k : Int) = q' by omega]
        exact hR
theorem own_dy_sum {k : Nat} {i j : Int} {x y : Datum} (hx : own_Dy k i x) (hy : own_Dy k j y) : own_Dy k (i + j) (exactSum x y) := by
  cases x with
  | nan => exact hx.elim
  | inf => exact hx.elim
  | fin s c q =>
    cases y with
    | nan => exact hy.elim
    | inf => exact hy.elim
    | fin t d r =>
      have e1 : min (q + (k : Int)) (r + (k : Int)) = min q r + (k : Int) := by omega
      have e : sumUnits s c (q + (k : Int)) t d (r + (k : Int)) (min (q + (k : Int)) (r + (k : Int))) = sumUnits s c q t d r (min q r) := by
        unfold sumUnits inUnits
        rw [e1, show q + (k : Int) - (min q r + (k : Int)) = q - min q r by omega, show r + (k : Int) - (min q r + (k : Int)) = r - min q r by omega]
      have h : Whole (i + j) (.fin (sumSign s t (sumUnits s c (q + (k : Int)) t d (r + (k : Int)) (min (q + (k : Int)) (r + (k : Int))))) (sumUnits s c (q + (k : Int)) t d (r + (k : Int)) (min (q + (k : Int)) (r + (k : Int)))).natAbs (min (q + (k : Int)) (r + (k : Int)))) := whole_sum (x := .fin s c (q + (k : Int))) (y := .fin t d (r + (k : Int))) hx hy
      rw [e, e1] at h
      exact h
theorem own_dadd {k : Nat} {i j : Int} {a b : UInt64} (hk : k ≤ 900) (ha : own_Dy k i (val64 a)) (hb : own_Dy k j (val64 b)) (h : (i + j).natAbs ≤ 2 ^ 53) : own_Dy k (i + j) (val64 (FP.dadd a b)) := by
  show own_Dy k (i + j) (val64 (Core.dadd a b))
  rw [val64_dadd]
  exact own_dy_round hk h (own_dy_sum ha hb)
theorem own_dy_int {k : Nat} {i : Int} {x : Datum} (h : Whole i x) : own_Dy k (i * ((2 ^ k : Nat) : Int)) x := by
  cases x with
  | nan => exact h.elim
  | inf => exact h.elim
  | fin s c q =>
    show signed s (c * 2 ^ (q + (k : Int)).toNat) = i * ((2 ^ k : Nat) : Int) * ((2 ^ (-(q + (k : Int))).toNat : Nat) : Int)
    have h1 : signed s (c * 2 ^ q.toNat) = i * ((2 ^ (-q).toNat : Nat) : Int) := h
    have e : q.toNat + k + (-(q + (k : Int))).toNat = (q + (k : Int)).toNat + (-q).toNat + (k - k) := by omega
    have p : ((2 ^ (-q).toNat : Nat) : Int) ≠ 0 := by have := Nat.two_pow_pos (-q).toNat; omega
    refine Int.eq_of_mul_eq_mul_right p ?_
    rw [← signed_mul, Nat.mul_assoc, ← Nat.pow_add, show (q + (k : Int)).toNat + (-q).toNat = q.toNat + (k + (-(q + (k : Int))).toNat) by omega, Nat.pow_add, ← Nat.mul_assoc, signed_mul, h1, Nat.pow_add, Int.natCast_mul]
    simp only [Int.mul_assoc, Int.mul_comm, Int.mul_left_comm]
theorem own_ddiv {i : Int} {x : UInt64} (hx : DInt i x) (hi : i.natAbs ≤ 2 ^ 53) : own_Dy 20 i (val64 (FP.ddiv x 4697254411347427328)) := by
  show own_Dy 20 i (val64 (Core.ddiv x 4697254411347427328))
  rw [val64_ddiv, show val64 4697254411347427328 = .fin false (2 ^ 52) (-32) by decide +kernel]
  unfold DInt at hx
  cases hv : val64 x with
  | nan => rw [hv] at hx; exact hx.elim
  | inf => rw [hv] at hx; exact hx.elim
  | fin s c q =>
    rw [hv] at hx
    have e : quotient b64 (.fin s c q) (.fin false (2 ^ 52) (-32)) = round b64 (.fin s c (q - 20)) := by
      show (if (2 ^ 52 : Nat) = 0 then (if c = 0 then Datum.nan else Datum.inf (s != false)) else roundRatio b64 (s != false) c (2 ^ 52) (q - (-32))) = roundRatio b64 s c 1 (q - 20)
      rw [if_neg (by decide), show (s != false) = s by cases s <;> rfl]
      refine roundRatio_congr (by decide) (by decide) ?_
      rw [show (q - (-32) - (q - 20)).toNat = 52 by omega, show (q - 20 - (q - (-32))).toNat = 0 by omega]
      simp
    rw [e]
    refine own_dy_round (by decide) hi ?_
    show Whole i (.fin s c (q - 20 + ((20 : Nat) : Int)))
    rw [show q - 20 + ((20 : Nat) : Int) = q by omega]
    exact hx
theorem own_dcmp {k : Nat} {i j : Int} {a b : UInt64} (ha : own_Dy k i (val64 a)) (hb : own_Dy k j (val64 b)) : FP.dcmp a b = some (compare i j) := own_dy_order ha hb
theorem own_cmp3 (i j : Int) : (i < j ∧ compare i j = .lt) ∨ (i = j ∧ compare i j = .eq) ∨ (j < i ∧ compare i j = .gt) := by
  simp only [compare, compareOfLessAndEq]
  by_cases h1 : i < j
  · left; simp [h1]
  · by_cases h2 : i = j
    · right; left; simp [h2]
    · right; right; exact ⟨by omega, by rw [if_neg h1, if_neg h2]⟩
end Dy
end Jvm.Pilot.@@N@@
namespace Jvm.Pilot.@@N@@
open Jvm Jvm.ClassFile Sem Op Lib Jvm.Free Jvm.Stand Jvm.LawKit Jvm.RoadKit Bundle Jvm.Pilot.@@N@@.Jvm.D
abbrev sS (p : Program) (e : Env) (below : List Frame) (T : State) (m : MethodId) (pc : Nat) (ls : Array Slot) (st : List Value) (t : State) : Prop := Steps p.tables e below (T.setTop (mkF m pc ls st)) t
theorem wK {Z : State} {a0 : Array Value} {i : Nat} {d : Jvm.Cond} (hw : ∀ d ∈ tables_1, d.before a0 Z = true) (h : tables_1[i]? = some d) : d.before a0 Z = true := hw _ (List.mem_of_getElem? h)
abbrev cN0 : String := "com/example/gadabout/gadabout/model/ClusteringTypeByNeighboursPinLaw"
abbrev cN1 : String := "com/example/gadabout/gadabout/model/Clustering"
section Ld
variable {p : Program} {l : Launch} {e : Env} {R : Room} {s : State} {m : MethodId} {args : Array Value} {below : List Frame} {meth : Method} {c : Code} {T : State} {locs : List Loc} {cells slots : Nat} {Z : State} {h : Heap} {g : JFrame} {target : State} {a : Addr} {k : ClassId} {n j : Int32} {vs : List Value} {d : Value} {rest : List Value}
theorem own_ldI {v : Int32} (X : Stand p l e R s m args below meth c T locs cells slots) (hx : p.tables.exec = Jvm.exec) (hZ : Z.Warmed39 s.vm) (eT : T.heap = h) (V : Arv Z h a k .int n vs d) (hin : ¬ j < 0 ∧ j < n) (hv : vs.getD j.toNatClampNeg d = .int v) (hg : g.method = m) (hs : g.stack = .int j :: .ref a :: rest) (hd : decode c.code g.pc = .ok (.iaload, 1)) (hr : Steps p.tables e below (T.setTop { g with pc := g.pc + 1, stack := .int v :: rest }) target) : Steps p.tables e below (T.setTop g) target := by
  obtain ⟨cl, Ar, q, S, P, Ha, G⟩ := V
  exact X.iaload hx (by rw [eT]; exact Ar.1) (State.isArrayOf_alike hZ.alike Ar.2.1) Ar.2.2 (inb_of S hin) (Ha.at (inb_of S hin) hv) hg hs hd target hr
theorem own_ldD {v : UInt64} (X : Stand p l e R s m args below meth c T locs cells slots) (hx : p.tables.exec = Jvm.exec) (hZ : Z.Warmed39 s.vm) (eT : T.heap = h) (V : Arv Z h a k .double n vs d) (hin : ¬ j < 0 ∧ j < n) (hv : vs.getD j.toNatClampNeg d = .double v) (hg : g.method = m) (hs : g.stack = .int j :: .ref a :: rest) (hd : decode c.code g.pc = .ok (.daload, 1)) (hr : Steps p.tables e below (T.setTop { g with pc := g.pc + 1, stack := .double v :: rest }) target) : Steps p.tables e below (T.setTop g) target := by
  obtain ⟨cl, Ar, q, S, P, Ha, G⟩ := V
  exact X.daload hx (by rw [eT]; exact Ar.1) (State.isArrayOf_alike hZ.alike Ar.2.1) Ar.2.2 (inb_of S hin) (Ha.at (inb_of S hin) hv) hg hs hd target hr
theorem own_len {ty : FieldType} (X : Stand p l e R s m args below meth c T locs cells slots) (hx : p.tables.exec = Jvm.exec) (hZ : Z.Warmed39 s.vm) (eT : T.heap = h) (V : Arv Z h a k ty n vs d) (hg : g.method = m) (hs : g.stack = .ref a :: rest) (hd : decode c.code g.pc = .ok (.arraylength, 1)) (hr : Steps p.tables e below (T.setTop { g with pc := g.pc + 1, stack := .int n :: rest }) target) : Steps p.tables e below (T.setTop g) target := by
  obtain ⟨cl, Ar, q, S, P, Ha, G⟩ := V
  refine X.arraylength hx (by rw [eT]; exact Ar.1) (State.isArrayOf_alike hZ.alike Ar.2.1) hg hs hd _ ?_
  rw [len_of S P]
  exact hr
end Ld

def own_dc (a b : Int32) : Int32 := if a.toInt < b.toInt then (-1 : Int32) else if b.toInt < a.toInt then (1 : Int32) else (0 : Int32)
def own_g (ds : List Int32) (x : Int32) : Int32 := ds.getD x.toNatClampNeg (0 : Int32)
def own_bf (j i vj vi : Int32) : Int32 := bif if_icmp.holds .lt vj vi then (1 : Int32) else (bif if_icmp.holds .ne vj vi then (0 : Int32) else (bif if_icmp.holds .ge j i then (0 : Int32) else (1 : Int32)))
def own_st (r b : Int32) : Int32 := bif ifCond.holds .eq b then r else (r + (1 : Int32))
def own_cnt (c a b : Int32) : Int32 := bif if_icmp.holds .ne a b then c else (c + (1 : Int32))
def own_b (c x5 x4 u : Int32) : Int32 := bif if_icmp.holds .le c x5 then x4 else u
def own_c (c x5 : Int32) : Int32 := bif if_icmp.holds .le c x5 then x5 else c
def own_insR (x : Int32 × Int32) : List (Int32 × Int32) → List (Int32 × Int32)
  | [] => [x]
  | y :: ys => bif ifCond.holds .ge (own_dc x.2 y.2) then x :: y :: ys else y :: own_insR x ys
def own_ins (len : Nat) (x : Int32 × Int32) (rs : List (Int32 × Int32)) : List (Int32 × Int32) := ((own_insR x rs.reverse).reverse).take len
theorem own_dc_lt {a b : Int32} (h : a.toInt < b.toInt) : own_dc a b = (-1 : Int32) := if_pos h
theorem own_dc_eq {a b : Int32} (h : a.toInt = b.toInt) : own_dc a b = (0 : Int32) := by unfold own_dc; rw [if_neg (by omega), if_neg (by omega)]
theorem own_dc_gt {a b : Int32} (h : b.toInt < a.toInt) : own_dc a b = (1 : Int32) := by unfold own_dc; rw [if_neg (by omega), if_pos h]
theorem own_dcv (a b : Int32) : FP.dcmp (FP.i2d a) (FP.i2d b) = some (compare a.toInt b.toInt) := FP.Core.dcmp_int (FP.Core.i2d_int a) (FP.Core.i2d_int b)
theorem own_getI (ts : List Int32) (k : Nat) : (ts.map (fun t => Value.int t)).getD k (.int (0 : Int32)) = .int (ts.getD k (0 : Int32)) := by
  rw [List.getD_eq_getElem?_getD, List.getD_eq_getElem?_getD, List.getElem?_map]
  cases ts[k]? <;> rfl
def own_rk1 (d0 i vi : Int32) : Int32 := (own_st (0 : Int32) (own_bf (0 : Int32) i d0 vi))
def own_at1 (d0 r : Int32) : Int32 := bif if_icmp.holds .ne (own_rk1 d0 (0 : Int32) d0) r then (0 : Int32) else (0 : Int32)
def own_rk2 (d0 d1 i vi : Int32) : Int32 := (own_st (own_st (0 : Int32) (own_bf (0 : Int32) i d0 vi)) (own_bf (1 : Int32) i d1 vi))
def own_at2 (d0 d1 r : Int32) : Int32 := bif if_icmp.holds .ne (own_rk2 d0 d1 (0 : Int32) d0) r then (bif if_icmp.holds .ne (own_rk2 d0 d1 (1 : Int32) d1) r then (0 : Int32) else (1 : Int32)) else (0 : Int32)
def own_rk3 (d0 d1 d2 i vi : Int32) : Int32 := (own_st (own_st (own_st (0 : Int32) (own_bf (0 : Int32) i d0 vi)) (own_bf (1 : Int32) i d1 vi)) (own_bf (2 : Int32) i d2 vi))
def own_at3 (d0 d1 d2 r : Int32) : Int32 := bif if_icmp.holds .ne (own_rk3 d0 d1 d2 (0 : Int32) d0) r then (bif if_icmp.holds .ne (own_rk3 d0 d1 d2 (1 : Int32) d1) r then (bif if_icmp.holds .ne (own_rk3 d0 d1 d2 (2 : Int32) d2) r then (0 : Int32) else (2 : Int32)) else (1 : Int32)) else (0 : Int32)
def own_rk4 (d0 d1 d2 d3 i vi : Int32) : Int32 := (own_st (own_st (own_st (own_st (0 : Int32) (own_bf (0 : Int32) i d0 vi)) (own_bf (1 : Int32) i d1 vi)) (own_bf (2 : Int32) i d2 vi)) (own_bf (3 : Int32) i d3 vi))
def own_at4 (d0 d1 d2 d3 r : Int32) : Int32 := bif if_icmp.holds .ne (own_rk4 d0 d1 d2 d3 (0 : Int32) d0) r then (bif if_icmp.holds .ne (own_rk4 d0 d1 d2 d3 (1 : Int32) d1) r then (bif if_icmp.holds .ne (own_rk4 d0 d1 d2 d3 (2 : Int32) d2) r then (bif if_icmp.holds .ne (own_rk4 d0 d1 d2 d3 (3 : Int32) d3) r then (0 : Int32) else (3 : Int32)) else (2 : Int32)) else (1 : Int32)) else (0 : Int32)
def own_rk5 (d0 d1 d2 d3 d4 i vi : Int32) : Int32 := (own_st (own_st (own_st (own_st (own_st (0 : Int32) (own_bf (0 : Int32) i d0 vi)) (own_bf (1 : Int32) i d1 vi)) (own_bf (2 : Int32) i d2 vi)) (own_bf (3 : Int32) i d3 vi)) (own_bf (4 : Int32) i d4 vi))
def own_at5 (d0 d1 d2 d3 d4 r : Int32) : Int32 := bif if_icmp.holds .ne (own_rk5 d0 d1 d2 d3 d4 (0 : Int32) d0) r then (bif if_icmp.holds .ne (own_rk5 d0 d1 d2 d3 d4 (1 : Int32) d1) r then (bif if_icmp.holds .ne (own_rk5 d0 d1 d2 d3 d4 (2 : Int32) d2) r then (bif if_icmp.holds .ne (own_rk5 d0 d1 d2 d3 d4 (3 : Int32) d3) r then (bif if_icmp.holds .ne (own_rk5 d0 d1 d2 d3 d4 (4 : Int32) d4) r then (0 : Int32) else (4 : Int32)) else (3 : Int32)) else (2 : Int32)) else (1 : Int32)) else (0 : Int32)
def own_near0 : List (Int32 × Int32) := []
def own_near1 (d0 : Int32) : List (Int32 × Int32) := (own_ins 1 ((0 : Int32), d0) [])
def own_near2 (d0 d1 : Int32) : List (Int32 × Int32) := (own_ins 2 ((1 : Int32), d1) (own_ins 2 ((0 : Int32), d0) []))
def own_near3 (d0 d1 d2 : Int32) : List (Int32 × Int32) := (own_ins 3 ((2 : Int32), d2) (own_ins 3 ((1 : Int32), d1) (own_ins 3 ((0 : Int32), d0) [])))
def own_near4 (d0 d1 d2 d3 : Int32) : List (Int32 × Int32) := (own_ins 3 ((3 : Int32), d3) (own_ins 3 ((2 : Int32), d2) (own_ins 3 ((1 : Int32), d1) (own_ins 3 ((0 : Int32), d0) []))))
def own_near5 (d0 d1 d2 d3 d4 : Int32) : List (Int32 × Int32) := (own_ins 3 ((4 : Int32), d4) (own_ins 3 ((3 : Int32), d3) (own_ins 3 ((2 : Int32), d2) (own_ins 3 ((1 : Int32), d1) (own_ins 3 ((0 : Int32), d0) [])))))
def own_got1 (ta : Int32) : Int32 := (own_b (own_cnt (0 : Int32) ta ta) (0 : Int32) ta ta)
def own_got2 (ta tb : Int32) : Int32 := (own_b (own_cnt (own_cnt (0 : Int32) ta tb) tb tb) (own_c (own_cnt (own_cnt (0 : Int32) ta ta) tb ta) (0 : Int32)) (own_b (own_cnt (own_cnt (0 : Int32) ta ta) tb ta) (0 : Int32) ta ta) tb)
def own_got3 (ta tb tc : Int32) : Int32 := (own_b (own_cnt (own_cnt (own_cnt (0 : Int32) ta tc) tb tc) tc tc) (own_c (own_cnt (own_cnt (own_cnt (0 : Int32) ta tb) tb tb) tc tb) (own_c (own_cnt (own_cnt (own_cnt (0 : Int32) ta ta) tb ta) tc ta) (0 : Int32))) (own_b (own_cnt (own_cnt (own_cnt (0 : Int32) ta tb) tb tb) tc tb) (own_c (own_cnt (own_cnt (own_cnt (0 : Int32) ta ta) tb ta) tc ta) (0 : Int32)) (own_b (own_cnt (own_cnt (own_cnt (0 : Int32) ta ta) tb ta) tc ta) (0 : Int32) ta ta) tb) tc)
def own_res0 : Int32 := (0 : Int32)
def own_res1 (d0 t0 : Int32) : Int32 := match own_near1 d0 with | [(z0, _)] => own_got1 (own_g [t0] z0) | _ => (0 : Int32)
def own_res2 (d0 d1 t0 t1 : Int32) : Int32 := match own_near2 d0 d1 with | [(z0, _), (z1, _)] => own_got2 (own_g [t0, t1] z0) (own_g [t0, t1] z1) | _ => (0 : Int32)
def own_res3 (d0 d1 d2 t0 t1 t2 : Int32) : Int32 := match own_near3 d0 d1 d2 with | [(z0, _), (z1, _), (z2, _)] => own_got3 (own_g [t0, t1, t2] z0) (own_g [t0, t1, t2] z1) (own_g [t0, t1, t2] z2) | _ => (0 : Int32)
def own_res4 (d0 d1 d2 d3 t0 t1 t2 t3 : Int32) : Int32 := match own_near4 d0 d1 d2 d3 with | [(z0, _), (z1, _), (z2, _)] => own_got3 (own_g [t0, t1, t2, t3] z0) (own_g [t0, t1, t2, t3] z1) (own_g [t0, t1, t2, t3] z2) | _ => (0 : Int32)
def own_res5 (d0 d1 d2 d3 d4 t0 t1 t2 t3 t4 : Int32) : Int32 := match own_near5 d0 d1 d2 d3 d4 with | [(z0, _), (z1, _), (z2, _)] => own_got3 (own_g [t0, t1, t2, t3, t4] z0) (own_g [t0, t1, t2, t3, t4] z1) (own_g [t0, t1, t2, t3, t4] z2) | _ => (0 : Int32)

def own_n (p : Int32) : Int32 := ((p &&& (7 : Int32)) % (6 : Int32))
def own_e0 (x : Int64) : Int32 := ((x &&& (7 : Int64)).toInt32)
def own_e (k : Int32) (x : Int64) : Int32 := (((x.toUInt64 >>> (k &&& 0x3f).toInt64.toUInt64).toInt64) &&& (7 : Int64)).toInt32
def own_t4 (p : Int32) : Int32 := (p >>> ((3 : Int32) &&& 31))
theorem own_ncase (p : Int32) : own_n p = 0 ∨ own_n p = 1 ∨ own_n p = 2 ∨ own_n p = 3 ∨ own_n p = 4 ∨ own_n p = 5 := by
  have h := Jvm.Kit.i32_mask p 7 (k := 3) (by decide) (by decide)
  have h0 : 0 ≤ (p &&& (7 : Int32)).toInt := by rw [h]; exact Int.emod_nonneg _ (by decide)
  have h2 := Jvm.Kit.i32_rem_nonneg (x := p &&& (7 : Int32)) (y := 6) h0
  have h6 : (6 : Int32).toInt = 6 := by decide
  rw [h6] at h2
  have e : ∀ k : Int32, (own_n p = k) ↔ (own_n p).toInt = k.toInt := fun k => Int32.toInt_inj.symm
  rw [e, e, e, e, e, e]
  rw [show (0 : Int32).toInt = 0 by decide, show (1 : Int32).toInt = 1 by decide, show (2 : Int32).toInt = 2 by decide, show (3 : Int32).toInt = 3 by decide, show (4 : Int32).toInt = 4 by decide, show (5 : Int32).toInt = 5 by decide]
  unfold own_n
  rw [h2]
  omega
/-! the plain law: what the walk computes depends on which later distance is smaller than an earlier one -/
theorem own_ge_dc (a b : Int32) : ifCond.holds .ge (own_dc a b) = !decide (a.toInt < b.toInt) := by
  unfold own_dc
  by_cases h : a.toInt < b.toInt
  · rw [if_pos h, decide_eq_true h]; decide
  · rw [if_neg h, decide_eq_false h]
    by_cases h2 : b.toInt < a.toInt
    · rw [if_pos h2]; decide
    · rw [if_neg h2]; decide
theorem own_bf_lt {j i vj vi : Int32} (h : if_icmp.holds .ge j i = false) : own_bf j i vj vi = bif decide (vi.toInt < vj.toInt) then (0 : Int32) else (1 : Int32) := by
  unfold own_bf
  rw [h]
  have e1 : if_icmp.holds .lt vj vi = decide (vj.toInt < vi.toInt) := by simp only [if_icmp.holds, Int32.lt_iff_toInt_lt]
  have e2 : if_icmp.holds .ne vj vi = !decide (vj.toInt = vi.toInt) := by
    simp only [if_icmp.holds, bne, Int32.toInt_inj]
    by_cases q : vj = vi <;> simp [q]
  rw [e1, e2]
  by_cases a : vj.toInt < vi.toInt
  · rw [decide_eq_true a, decide_eq_false (by omega : ¬ vi.toInt < vj.toInt)]; rfl
  · by_cases b : vj.toInt = vi.toInt
    · rw [decide_eq_false a, decide_eq_true b, decide_eq_false (by omega : ¬ vi.toInt < vj.toInt)]; rfl
    · rw [decide_eq_false a, decide_eq_false b, decide_eq_true (by omega : vi.toInt < vj.toInt)]; rfl
theorem own_bf_ge {j i vj vi : Int32} (h : if_icmp.holds .ge j i = true) : own_bf j i vj vi = bif decide (vj.toInt < vi.toInt) then (1 : Int32) else (0 : Int32) := by
  unfold own_bf
  rw [h]
  have e1 : if_icmp.holds .lt vj vi = decide (vj.toInt < vi.toInt) := by simp only [if_icmp.holds, Int32.lt_iff_toInt_lt]
  rw [e1]
  generalize if_icmp.holds .ne vj vi = b
  generalize decide (vj.toInt < vi.toInt) = c
  cases b <;> cases c <;> rfl
theorem own_at1_b (d0 r : Int32) : ¬ own_at1 d0 r < 0 ∧ own_at1 d0 r < (5 : Int32) := by
  unfold own_at1
  generalize if_icmp.holds .ne (own_rk1 d0 (0 : Int32) d0) r = b0
  cases b0 <;> decide
theorem own_at2_b (d0 d1 r : Int32) : ¬ own_at2 d0 d1 r < 0 ∧ own_at2 d0 d1 r < (5 : Int32) := by
  unfold own_at2
  generalize if_icmp.holds .ne (own_rk2 d0 d1 (0 : Int32) d0) r = b0
  generalize if_icmp.holds .ne (own_rk2 d0 d1 (1 : Int32) d1) r = b1
  cases b0 <;> cases b1 <;> decide
theorem own_at3_b (d0 d1 d2 r : Int32) : ¬ own_at3 d0 d1 d2 r < 0 ∧ own_at3 d0 d1 d2 r < (5 : Int32) := by
  unfold own_at3
  generalize if_icmp.holds .ne (own_rk3 d0 d1 d2 (0 : Int32) d0) r = b0
  generalize if_icmp.holds .ne (own_rk3 d0 d1 d2 (1 : Int32) d1) r = b1
  generalize if_icmp.holds .ne (own_rk3 d0 d1 d2 (2 : Int32) d2) r = b2
  cases b0 <;> cases b1 <;> cases b2 <;> decide
theorem own_at4_b (d0 d1 d2 d3 r : Int32) : ¬ own_at4 d0 d1 d2 d3 r < 0 ∧ own_at4 d0 d1 d2 d3 r < (5 : Int32) := by
  unfold own_at4
  generalize if_icmp.holds .ne (own_rk4 d0 d1 d2 d3 (0 : Int32) d0) r = b0
  generalize if_icmp.holds .ne (own_rk4 d0 d1 d2 d3 (1 : Int32) d1) r = b1
  generalize if_icmp.holds .ne (own_rk4 d0 d1 d2 d3 (2 : Int32) d2) r = b2
  generalize if_icmp.holds .ne (own_rk4 d0 d1 d2 d3 (3 : Int32) d3) r = b3
  cases b0 <;> cases b1 <;> cases b2 <;> cases b3 <;> decide
theorem own_at5_b (d0 d1 d2 d3 d4 r : Int32) : ¬ own_at5 d0 d1 d2 d3 d4 r < 0 ∧ own_at5 d0 d1 d2 d3 d4 r < (5 : Int32) := by
  unfold own_at5
  generalize if_icmp.holds .ne (own_rk5 d0 d1 d2 d3 d4 (0 : Int32) d0) r = b0
  generalize if_icmp.holds .ne (own_rk5 d0 d1 d2 d3 d4 (1 : Int32) d1) r = b1
  generalize if_icmp.holds .ne (own_rk5 d0 d1 d2 d3 d4 (2 : Int32) d2) r = b2
  generalize if_icmp.holds .ne (own_rk5 d0 d1 d2 d3 d4 (3 : Int32) d3) r = b3
  generalize if_icmp.holds .ne (own_rk5 d0 d1 d2 d3 d4 (4 : Int32) d4) r = b4
  cases b0 <;> cases b1 <;> cases b2 <;> cases b3 <;> cases b4 <;> decide

def own_insB (m : Nat → Nat → Bool) (x : Nat) : List Nat → List Nat
  | [] => [x]
  | y :: ys => bif m x y then y :: own_insB m x ys else x :: y :: ys
def own_nB (m : Nat → Nat → Bool) (len : Nat) : Nat → List Nat
  | 0 => []
  | n + 1 => ((own_insB m n (own_nB m len n).reverse).reverse).take len
theorem own_insB_mem {m : Nat → Nat → Bool} {x z : Nat} : ∀ {ys : List Nat}, z ∈ own_insB m x ys → z = x ∨ z ∈ ys
  | [], h => by
    rw [show own_insB m x [] = [x] from rfl, List.mem_singleton] at h
    exact Or.inl h
  | y :: ys, h => by
    rw [show own_insB m x (y :: ys) = bif m x y then y :: own_insB m x ys else x :: y :: ys from rfl] at h
    cases hm : m x y with
    | false =>
      rw [hm] at h
      rcases List.mem_cons.mp h with h | h
      · exact Or.inl h
      · exact Or.inr h
    | true =>
      rw [hm] at h
      rcases List.mem_cons.mp h with h | h
      · exact Or.inr (List.mem_cons.mpr (Or.inl h))
      · rcases own_insB_mem h with h | h
        · exact Or.inl h
        · exact Or.inr (List.mem_cons.mpr (Or.inr h))
theorem own_nB_lt {m : Nat → Nat → Bool} {len : Nat} : ∀ (n : Nat) {z : Nat}, z ∈ own_nB m len n → z < n
  | 0, z, h => by rw [show own_nB m len 0 = [] from rfl] at h; cases h
  | n + 1, z, h => by
    rw [show own_nB m len (n + 1) = ((own_insB m n (own_nB m len n).reverse).reverse).take len from rfl] at h
    have h1 := List.mem_reverse.mp (List.mem_of_mem_take h)
    rcases own_insB_mem h1 with h2 | h2
    · omega
    · have := own_nB_lt n (List.mem_reverse.mp h2)
      omega
theorem own_insR_map (f : Nat → Int32 × Int32) (m : Nat → Nat → Bool) (x : Nat) : ∀ (ys : List Nat), (∀ y ∈ ys, ifCond.holds .ge (own_dc (f x).2 (f y).2) = !m x y) → own_insR (f x) (ys.map f) = (own_insB m x ys).map f
  | [], _ => rfl
  | y :: ys, h => by
    have h0 := h y (List.mem_cons.mpr (Or.inl rfl))
    have ih := own_insR_map f m x ys (fun z hz => h z (List.mem_cons.mpr (Or.inr hz)))
    show (bif ifCond.holds .ge (own_dc (f x).2 (f y).2) then f x :: f y :: ys.map f else f y :: own_insR (f x) (ys.map f)) = (bif m x y then y :: own_insB m x ys else x :: y :: ys).map f
    rw [h0, ih]
    cases m x y <;> rfl
theorem own_ins_map (f : Nat → Int32 × Int32) (m : Nat → Nat → Bool) (len n : Nat) (h : ∀ y, y < n → ifCond.holds .ge (own_dc (f n).2 (f y).2) = !m n y) : own_ins len (f n) ((own_nB m len n).map f) = (own_nB m len (n + 1)).map f := by
  unfold own_ins
  rw [← List.map_reverse, own_insR_map f m n _ (fun y hy => h y (own_nB_lt n (List.mem_reverse.mp hy))), ← List.map_reverse, ← List.map_take]
  rfl
theorem own_trans (a b c : Int) : ((!decide (a < b) || !decide (b < c) || decide (a < c)) && (decide (a < b) || decide (b < c) || !decide (a < c))) = true := by
  by_cases h1 : a < b <;> by_cases h2 : b < c <;> by_cases h3 : a < c <;> simp [h1, h2, h3] <;> omega
theorem own_bf_self (j d : Int32) : own_bf j j d d = (0 : Int32) := by
  have h : if_icmp.holds .ge j j = true := by simp [if_icmp.holds]
  rw [own_bf_ge h, decide_eq_false (Int.lt_irrefl _)]
  rfl
theorem own_ne_self (a : Int32) : if_icmp.holds .ne a a = false := by simp [if_icmp.holds]
theorem own_ne_of {a b : Int32} (h : a ≠ b) : if_icmp.holds .ne a b = true := by simp [if_icmp.holds, h]
theorem own_got1_law (a : Int32) : own_got1 a = a := by
  unfold own_got1 own_b own_cnt
  rw [own_ne_self]
  generalize if_icmp.holds .le _ _ = q
  cases q <;> rfl
theorem own_got2_law (a b : Int32) : own_got2 a b = a := by
  unfold own_got2 own_b own_c own_cnt
  rw [own_ne_self, own_ne_self]
  by_cases h : a = b
  · subst h; rw [own_ne_self]; rfl
  · rw [own_ne_of h, own_ne_of (Ne.symm h)]; rfl
theorem own_got3_law (a b c : Int32) : if_icmp.holds .ne (own_got3 a b c) (bif if_icmp.holds .ne b c then a else b) = false := by
  have e : own_got3 a b c = bif if_icmp.holds .ne b c then a else b := by
    unfold own_got3 own_b own_c own_cnt
    rw [own_ne_self, own_ne_self, own_ne_self]
    by_cases h1 : a = b
    · subst h1
      by_cases h2 : a = c
      · subst h2; rw [own_ne_self]; rfl
      · rw [own_ne_self, own_ne_of h2, own_ne_of (Ne.symm h2)]; rfl
    · by_cases h2 : b = c
      · subst h2; rw [own_ne_self, own_ne_of h1, own_ne_of (Ne.symm h1)]; rfl
      · by_cases h3 : a = c
        · subst h3; rw [own_ne_self, own_ne_of h1, own_ne_of (Ne.symm h1)]; rfl
        · rw [own_ne_of h1, own_ne_of (Ne.symm h1), own_ne_of h2, own_ne_of (Ne.symm h2), own_ne_of h3, own_ne_of (Ne.symm h3)]; rfl
  rw [e, own_ne_self]
theorem own_at1_c (d0 r : Int32) : own_at1 d0 r = (0 : Int32) := by
  unfold own_at1
  generalize if_icmp.holds .ne (own_rk1 d0 (0 : Int32) d0) r = b0
  cases b0 <;> decide
theorem own_gx1 (t0 t1 t2 t3 t4 x : Int32) (h : x = (0 : Int32)) : own_g [t0] x = own_g [t0, t1, t2, t3, t4] x := by
  rcases h with rfl <;> rfl
theorem own_law1 (d0 t0 t1 t2 t3 t4 : Int32) : if_icmp.holds .ne (own_res1 d0 t0) (own_g [t0, t1, t2, t3, t4] (own_at1 d0 (0 : Int32))) = false := by
  have e : own_at1 d0 (0 : Int32) = (0 : Int32) := by
    rcases own_at1_c d0 (0 : Int32) with h <;> exact h
  rw [e]
  show if_icmp.holds .ne (own_got1 t0) t0 = false
  rw [own_got1_law, own_ne_self]
def own_tab2 (m10 : Bool) (x y : Nat) : Bool := match x, y with | 1, 0 => m10 | _, _ => false
def own_atB2 (m10 : Bool) (r : Int32) : Int32 := bif if_icmp.holds .ne (own_st (own_st (0 : Int32) (0 : Int32)) (bif m10 then (1 : Int32) else (0 : Int32))) r then (bif if_icmp.holds .ne (own_st (own_st (0 : Int32) (bif m10 then (0 : Int32) else (1 : Int32))) (0 : Int32)) r then (0 : Int32) else (1 : Int32)) else (0 : Int32)
theorem own_T2 : ∀ m10 : Bool, (own_nB (own_tab2 m10) 2 2).length = 2 → (own_nB (own_tab2 m10) 2 2).map Int32.ofNat = [own_atB2 m10 (0 : Int32), own_atB2 m10 (1 : Int32)] := by decide +kernel
theorem own_L2 : ∀ m10 : Bool, (own_nB (own_tab2 m10) 2 2).length = 2 := by decide +kernel
theorem own_at2_B (d0 d1 r : Int32) : own_at2 d0 d1 r = own_atB2 (decide (d1.toInt < d0.toInt)) r := by
  unfold own_at2 own_rk2 own_atB2
  simp only [own_bf_self (0 : Int32) d0, own_bf_ge (j := (1 : Int32)) (i := (0 : Int32)) (vj := d1) (vi := d0) (by decide), own_bf_lt (j := (0 : Int32)) (i := (1 : Int32)) (vj := d0) (vi := d1) (by decide), own_bf_self (1 : Int32) d1]
def own_f2 (d0 d1 : Int32) (k : Nat) : Int32 × Int32 := (Int32.ofNat k, [d0, d1].getD k (0 : Int32))
theorem own_h2 (d0 d1 : Int32) (x y : Nat) (h : y < x) (hx : x < 2) : ifCond.holds .ge (own_dc (own_f2 d0 d1 x).2 (own_f2 d0 d1 y).2) = !own_tab2 (decide (d1.toInt < d0.toInt)) x y := by
  rw [own_ge_dc]
  have hc : (x = 1 ∧ y = 0) := by omega
  rcases hc with ⟨rfl, rfl⟩
  all_goals rfl
theorem own_near2_B (d0 d1 : Int32) : own_near2 d0 d1 = (own_nB (own_tab2 (decide (d1.toInt < d0.toInt))) 2 2).map (own_f2 d0 d1) := by
  unfold own_near2
  show (own_ins 2 (own_f2 d0 d1 1) (own_ins 2 (own_f2 d0 d1 0) ((own_nB (own_tab2 (decide (d1.toInt < d0.toInt))) 2 0).map (own_f2 d0 d1)))) = _
  rw [own_ins_map (own_f2 d0 d1) (own_tab2 (decide (d1.toInt < d0.toInt))) 2 0 (fun y hy => own_h2 d0 d1 0 y hy (by decide)), own_ins_map (own_f2 d0 d1) (own_tab2 (decide (d1.toInt < d0.toInt))) 2 1 (fun y hy => own_h2 d0 d1 1 y hy (by decide))]
theorem own_key2 (d0 d1 : Int32) : (own_near2 d0 d1).map Prod.fst = [own_at2 d0 d1 (0 : Int32), own_at2 d0 d1 (1 : Int32)] := by
  rw [own_near2_B, List.map_map, own_at2_B, own_at2_B]
  exact own_T2 (decide (d1.toInt < d0.toInt)) (own_L2 (decide (d1.toInt < d0.toInt)))
theorem own_at2_c (d0 d1 r : Int32) : own_at2 d0 d1 r = (0 : Int32) ∨ own_at2 d0 d1 r = (1 : Int32) := by
  unfold own_at2
  generalize if_icmp.holds .ne (own_rk2 d0 d1 (0 : Int32) d0) r = b0
  generalize if_icmp.holds .ne (own_rk2 d0 d1 (1 : Int32) d1) r = b1
  cases b0 <;> cases b1 <;> decide
theorem own_gx2 (t0 t1 t2 t3 t4 x : Int32) (h : x = (0 : Int32) ∨ x = (1 : Int32)) : own_g [t0, t1] x = own_g [t0, t1, t2, t3, t4] x := by
  rcases h with rfl | rfl <;> rfl
theorem own_law2 (d0 d1 t0 t1 t2 t3 t4 : Int32) : if_icmp.holds .ne (own_res2 d0 d1 t0 t1) (own_g [t0, t1, t2, t3, t4] (own_at2 d0 d1 (0 : Int32))) = false := by
  have hk := own_key2 d0 d1
  unfold own_res2
  revert hk
  generalize own_near2 d0 d1 = Ls
  intro hk
  match Ls, hk with
  | [(x0, y0), (x1, y1)], hk =>
    simp only [List.map_cons, List.map_nil, List.cons.injEq, and_true] at hk
    obtain ⟨rfl, rfl⟩ := hk
    rw [← own_gx2 t0 t1 t2 t3 t4 _ (own_at2_c d0 d1 (0 : Int32))]
    show if_icmp.holds .ne (own_got2 _ _) _ = false
    rw [own_got2_law, own_ne_self]
def own_tab3 (m10 m20 m21 : Bool) (x y : Nat) : Bool := match x, y with | 1, 0 => m10 | 2, 0 => m20 | 2, 1 => m21 | _, _ => false
def own_atB3 (m10 m20 m21 : Bool) (r : Int32) : Int32 := bif if_icmp.holds .ne (own_st (own_st (own_st (0 : Int32) (0 : Int32)) (bif m10 then (1 : Int32) else (0 : Int32))) (bif m20 then (1 : Int32) else (0 : Int32))) r then (bif if_icmp.holds .ne (own_st (own_st (own_st (0 : Int32) (bif m10 then (0 : Int32) else (1 : Int32))) (0 : Int32)) (bif m21 then (1 : Int32) else (0 : Int32))) r then (bif if_icmp.holds .ne (own_st (own_st (own_st (0 : Int32) (bif m20 then (0 : Int32) else (1 : Int32))) (bif m21 then (0 : Int32) else (1 : Int32))) (0 : Int32)) r then (0 : Int32) else (2 : Int32)) else (1 : Int32)) else (0 : Int32)
theorem own_T3 : ∀ m10 m20 m21 : Bool, (own_nB (own_tab3 m10 m20 m21) 3 3).length = 3 → ((!m21 || !m10 || m20) && (m21 || m10 || !m20)) = true → (own_nB (own_tab3 m10 m20 m21) 3 3).map Int32.ofNat = [own_atB3 m10 m20 m21 (0 : Int32), own_atB3 m10 m20 m21 (1 : Int32), own_atB3 m10 m20 m21 (2 : Int32)] := by decide +kernel
theorem own_L3 : ∀ m10 m20 m21 : Bool, (own_nB (own_tab3 m10 m20 m21) 3 3).length = 3 := by decide +kernel
theorem own_at3_B (d0 d1 d2 r : Int32) : own_at3 d0 d1 d2 r = own_atB3 (decide (d1.toInt < d0.toInt)) (decide (d2.toInt < d0.toInt)) (decide (d2.toInt < d1.toInt)) r := by
  unfold own_at3 own_rk3 own_atB3
  simp only [own_bf_self (0 : Int32) d0, own_bf_ge (j := (1 : Int32)) (i := (0 : Int32)) (vj := d1) (vi := d0) (by decide), own_bf_ge (j := (2 : Int32)) (i := (0 : Int32)) (vj := d2) (vi := d0) (by decide), own_bf_lt (j := (0 : Int32)) (i := (1 : Int32)) (vj := d0) (vi := d1) (by decide), own_bf_self (1 : Int32) d1, own_bf_ge (j := (2 : Int32)) (i := (1 : Int32)) (vj := d2) (vi := d1) (by decide), own_bf_lt (j := (0 : Int32)) (i := (2 : Int32)) (vj := d0) (vi := d2) (by decide), own_bf_lt (j := (1 : Int32)) (i := (2 : Int32)) (vj := d1) (vi := d2) (by decide), own_bf_self (2 : Int32) d2]
def own_f3 (d0 d1 d2 : Int32) (k : Nat) : Int32 × Int32 := (Int32.ofNat k, [d0, d1, d2].getD k (0 : Int32))
theorem own_h3 (d0 d1 d2 : Int32) (x y : Nat) (h : y < x) (hx : x < 3) : ifCond.holds .ge (own_dc (own_f3 d0 d1 d2 x).2 (own_f3 d0 d1 d2 y).2) = !own_tab3 (decide (d1.toInt < d0.toInt)) (decide (d2.toInt < d0.toInt)) (decide (d2.toInt < d1.toInt)) x y := by
  rw [own_ge_dc]
  have hc : (x = 1 ∧ y = 0) ∨ (x = 2 ∧ y = 0) ∨ (x = 2 ∧ y = 1) := by omega
  rcases hc with ⟨rfl, rfl⟩ | ⟨rfl, rfl⟩ | ⟨rfl, rfl⟩
  all_goals rfl
theorem own_near3_B (d0 d1 d2 : Int32) : own_near3 d0 d1 d2 = (own_nB (own_tab3 (decide (d1.toInt < d0.toInt)) (decide (d2.toInt < d0.toInt)) (decide (d2.toInt < d1.toInt))) 3 3).map (own_f3 d0 d1 d2) := by
  unfold own_near3
  show (own_ins 3 (own_f3 d0 d1 d2 2) (own_ins 3 (own_f3 d0 d1 d2 1) (own_ins 3 (own_f3 d0 d1 d2 0) ((own_nB (own_tab3 (decide (d1.toInt < d0.toInt)) (decide (d2.toInt < d0.toInt)) (decide (d2.toInt < d1.toInt))) 3 0).map (own_f3 d0 d1 d2))))) = _
  rw [own_ins_map (own_f3 d0 d1 d2) (own_tab3 (decide (d1.toInt < d0.toInt)) (decide (d2.toInt < d0.toInt)) (decide (d2.toInt < d1.toInt))) 3 0 (fun y hy => own_h3 d0 d1 d2 0 y hy (by decide)), own_ins_map (own_f3 d0 d1 d2) (own_tab3 (decide (d1.toInt < d0.toInt)) (decide (d2.toInt < d0.toInt)) (decide (d2.toInt < d1.toInt))) 3 1 (fun y hy => own_h3 d0 d1 d2 1 y hy (by decide)), own_ins_map (own_f3 d0 d1 d2) (own_tab3 (decide (d1.toInt < d0.toInt)) (decide (d2.toInt < d0.toInt)) (decide (d2.toInt < d1.toInt))) 3 2 (fun y hy => own_h3 d0 d1 d2 2 y hy (by decide))]
theorem own_key3 (d0 d1 d2 : Int32) : (own_near3 d0 d1 d2).map Prod.fst = [own_at3 d0 d1 d2 (0 : Int32), own_at3 d0 d1 d2 (1 : Int32), own_at3 d0 d1 d2 (2 : Int32)] := by
  rw [own_near3_B, List.map_map, own_at3_B, own_at3_B, own_at3_B]
  exact own_T3 (decide (d1.toInt < d0.toInt)) (decide (d2.toInt < d0.toInt)) (decide (d2.toInt < d1.toInt)) (own_L3 (decide (d1.toInt < d0.toInt)) (decide (d2.toInt < d0.toInt)) (decide (d2.toInt < d1.toInt))) (own_trans _ _ _)
theorem own_at3_c (d0 d1 d2 r : Int32) : own_at3 d0 d1 d2 r = (0 : Int32) ∨ own_at3 d0 d1 d2 r = (1 : Int32) ∨ own_at3 d0 d1 d2 r = (2 : Int32) := by
  unfold own_at3
  generalize if_icmp.holds .ne (own_rk3 d0 d1 d2 (0 : Int32) d0) r = b0
  generalize if_icmp.holds .ne (own_rk3 d0 d1 d2 (1 : Int32) d1) r = b1
  generalize if_icmp.holds .ne (own_rk3 d0 d1 d2 (2 : Int32) d2) r = b2
  cases b0 <;> cases b1 <;> cases b2 <;> decide
theorem own_gx3 (t0 t1 t2 t3 t4 x : Int32) (h : x = (0 : Int32) ∨ x = (1 : Int32) ∨ x = (2 : Int32)) : own_g [t0, t1, t2] x = own_g [t0, t1, t2, t3, t4] x := by
  rcases h with rfl | rfl | rfl <;> rfl
theorem own_law3 (d0 d1 d2 t0 t1 t2 t3 t4 : Int32) : if_icmp.holds .ne (own_res3 d0 d1 d2 t0 t1 t2) (bif if_icmp.holds .ne (own_g [t0, t1, t2, t3, t4] (own_at3 d0 d1 d2 (1 : Int32))) (own_g [t0, t1, t2, t3, t4] (own_at3 d0 d1 d2 (2 : Int32))) then (own_g [t0, t1, t2, t3, t4] (own_at3 d0 d1 d2 (0 : Int32))) else (own_g [t0, t1, t2, t3, t4] (own_at3 d0 d1 d2 (1 : Int32)))) = false := by
  have hk := own_key3 d0 d1 d2
  unfold own_res3
  revert hk
  generalize own_near3 d0 d1 d2 = Ls
  intro hk
  match Ls, hk with
  | [(x0, y0), (x1, y1), (x2, y2)], hk =>
    simp only [List.map_cons, List.map_nil, List.cons.injEq, and_true] at hk
    obtain ⟨rfl, rfl, rfl⟩ := hk
    rw [← own_gx3 t0 t1 t2 t3 t4 _ (own_at3_c d0 d1 d2 (0 : Int32)), ← own_gx3 t0 t1 t2 t3 t4 _ (own_at3_c d0 d1 d2 (1 : Int32)), ← own_gx3 t0 t1 t2 t3 t4 _ (own_at3_c d0 d1 d2 (2 : Int32))]
    exact own_got3_law _ _ _
def own_tab4 (m10 m20 m21 m30 m31 m32 : Bool) (x y : Nat) : Bool := match x, y with | 1, 0 => m10 | 2, 0 => m20 | 2, 1 => m21 | 3, 0 => m30 | 3, 1 => m31 | 3, 2 => m32 | _, _ => false
def own_atB4 (m10 m20 m21 m30 m31 m32 : Bool) (r : Int32) : Int32 := bif if_icmp.holds .ne (own_st (own_st (own_st (own_st (0 : Int32) (0 : Int32)) (bif m10 then (1 : Int32) else (0 : Int32))) (bif m20 then (1 : Int32) else (0 : Int32))) (bif m30 then (1 : Int32) else (0 : Int32))) r then (bif if_icmp.holds .ne (own_st (own_st (own_st (own_st (0 : Int32) (bif m10 then (0 : Int32) else (1 : Int32))) (0 : Int32)) (bif m21 then (1 : Int32) else (0 : Int32))) (bif m31 then (1 : Int32) else (0 : Int32))) r then (bif if_icmp.holds .ne (own_st (own_st (own_st (own_st (0 : Int32) (bif m20 then (0 : Int32) else (1 : Int32))) (bif m21 then (0 : Int32) else (1 : Int32))) (0 : Int32)) (bif m32 then (1 : Int32) else (0 : Int32))) r then (bif if_icmp.holds .ne (own_st (own_st (own_st (own_st (0 : Int32) (bif m30 then (0 : Int32) else (1 : Int32))) (bif m31 then (0 : Int32) else (1 : Int32))) (bif m32 then (0 : Int32) else (1 : Int32))) (0 : Int32)) r then (0 : Int32) else (3 : Int32)) else (2 : Int32)) else (1 : Int32)) else (0 : Int32)
theorem own_T4 : ∀ m10 m20 m21 m30 m31 m32 : Bool, (own_nB (own_tab4 m10 m20 m21 m30 m31 m32) 3 4).length = 3 → ((!m21 || !m10 || m20) && (m21 || m10 || !m20)) = true → ((!m31 || !m10 || m30) && (m31 || m10 || !m30)) = true → ((!m32 || !m20 || m30) && (m32 || m20 || !m30)) = true → ((!m32 || !m21 || m31) && (m32 || m21 || !m31)) = true → (own_nB (own_tab4 m10 m20 m21 m30 m31 m32) 3 4).map Int32.ofNat = [own_atB4 m10 m20 m21 m30 m31 m32 (0 : Int32), own_atB4 m10 m20 m21 m30 m31 m32 (1 : Int32), own_atB4 m10 m20 m21 m30 m31 m32 (2 : Int32)] := by decide +kernel
theorem own_L4 : ∀ m10 m20 m21 m30 m31 m32 : Bool, (own_nB (own_tab4 m10 m20 m21 m30 m31 m32) 3 4).length = 3 := by decide +kernel
theorem own_at4_B (d0 d1 d2 d3 r : Int32) : own_at4 d0 d1 d2 d3 r = own_atB4 (decide (d1.toInt < d0.toInt)) (decide (d2.toInt < d0.toInt)) (decide (d2.toInt < d1.toInt)) (decide (d3.toInt < d0.toInt)) (decide (d3.toInt < d1.toInt)) (decide (d3.toInt < d2.toInt)) r := by
  unfold own_at4 own_rk4 own_atB4
  simp only [own_bf_self (0 : Int32) d0, own_bf_ge (j := (1 : Int32)) (i := (0 : Int32)) (vj := d1) (vi := d0) (by decide), own_bf_ge (j := (2 : Int32)) (i := (0 : Int32)) (vj := d2) (vi := d0) (by decide), own_bf_ge (j := (3 : Int32)) (i := (0 : Int32)) (vj := d3) (vi := d0) (by decide), own_bf_lt (j := (0 : Int32)) (i := (1 : Int32)) (vj := d0) (vi := d1) (by decide), own_bf_self (1 : Int32) d1, own_bf_ge (j := (2 : Int32)) (i := (1 : Int32)) (vj := d2) (vi := d1) (by decide), own_bf_ge (j := (3 : Int32)) (i := (1 : Int32)) (vj := d3) (vi := d1) (by decide), own_bf_lt (j := (0 : Int32)) (i := (2 : Int32)) (vj := d0) (vi := d2) (by decide), own_bf_lt (j := (1 : Int32)) (i := (2 : Int32)) (vj := d1) (vi := d2) (by decide), own_bf_self (2 : Int32) d2, own_bf_ge (j := (3 : Int32)) (i := (2 : Int32)) (vj := d3) (vi := d2) (by decide), own_bf_lt (j := (0 : Int32)) (i := (3 : Int32)) (vj := d0) (vi := d3) (by decide), own_bf_lt (j := (1 : Int32)) (i := (3 : Int32)) (vj := d1) (vi := d3) (by decide), own_bf_lt (j := (2 : Int32)) (i := (3 : Int32)) (vj := d2) (vi := d3) (by decide), own_bf_self (3 : Int32) d3]
def own_f4 (d0 d1 d2 d3 : Int32) (k : Nat) : Int32 × Int32 := (Int32.ofNat k, [d0, d1, d2, d3].getD k (0 : Int32))
theorem own_h4 (d0 d1 d2 d3 : Int32) (x y : Nat) (h : y < x) (hx : x < 4) : ifCond.holds .ge (own_dc (own_f4 d0 d1 d2 d3 x).2 (own_f4 d0 d1 d2 d3 y).2) = !own_tab4 (decide (d1.toInt < d0.toInt)) (decide (d2.toInt < d0.toInt)) (decide (d2.toInt < d1.toInt)) (decide (d3.toInt < d0.toInt)) (decide (d3.toInt < d1.toInt)) (decide (d3.toInt < d2.toInt)) x y := by
  rw [own_ge_dc]
  have hc : (x = 1 ∧ y = 0) ∨ (x = 2 ∧ y = 0) ∨ (x = 2 ∧ y = 1) ∨ (x = 3 ∧ y = 0) ∨ (x = 3 ∧ y = 1) ∨ (x = 3 ∧ y = 2) := by omega
  rcases hc with ⟨rfl, rfl⟩ | ⟨rfl, rfl⟩ | ⟨rfl, rfl⟩ | ⟨rfl, rfl⟩ | ⟨rfl, rfl⟩ | ⟨rfl, rfl⟩
  all_goals rfl
theorem own_near4_B (d0 d1 d2 d3 : Int32) : own_near4 d0 d1 d2 d3 = (own_nB (own_tab4 (decide (d1.toInt < d0.toInt)) (decide (d2.toInt < d0.toInt)) (decide (d2.toInt < d1.toInt)) (decide (d3.toInt < d0.toInt)) (decide (d3.toInt < d1.toInt)) (decide (d3.toInt < d2.toInt))) 3 4).map (own_f4 d0 d1 d2 d3) := by
  unfold own_near4
  show (own_ins 3 (own_f4 d0 d1 d2 d3 3) (own_ins 3 (own_f4 d0 d1 d2 d3 2) (own_ins 3 (own_f4 d0 d1 d2 d3 1) (own_ins 3 (own_f4 d0 d1 d2 d3 0) ((own_nB (own_tab4 (decide (d1.toInt < d0.toInt)) (decide (d2.toInt < d0.toInt)) (decide (d2.toInt < d1.toInt)) (decide (d3.toInt < d0.toInt)) (decide (d3.toInt < d1.toInt)) (decide (d3.toInt < d2.toInt))) 3 0).map (own_f4 d0 d1 d2 d3)))))) = _
  rw [own_ins_map (own_f4 d0 d1 d2 d3) (own_tab4 (decide (d1.toInt < d0.toInt)) (decide (d2.toInt < d0.toInt)) (decide (d2.toInt < d1.toInt)) (decide (d3.toInt < d0.toInt)) (decide (d3.toInt < d1.toInt)) (decide (d3.toInt < d2.toInt))) 3 0 (fun y hy => own_h4 d0 d1 d2 d3 0 y hy (by decide)), own_ins_map (own_f4 d0 d1 d2 d3) (own_tab4 (decide (d1.toInt < d0.toInt)) (decide (d2.toInt < d0.toInt)) (decide (d2.toInt < d1.toInt)) (decide (d3.toInt < d0.toInt)) (decide (d3.toInt < d1.toInt)) (decide (d3.toInt < d2.toInt))) 3 1 (fun y hy => own_h4 d0 d1 d2 d3 1 y hy (by decide)), own_ins_map (own_f4 d0 d1 d2 d3) (own_tab4 (decide (d1.toInt < d0.toInt)) (decide (d2.toInt < d0.toInt)) (decide (d2.toInt < d1.toInt)) (decide (d3.toInt < d0.toInt)) (decide (d3.toInt < d1.toInt)) (decide (d3.toInt < d2.toInt))) 3 2 (fun y hy => own_h4 d0 d1 d2 d3 2 y hy (by decide)), own_ins_map (own_f4 d0 d1 d2 d3) (own_tab4 (decide (d1.toInt < d0.toInt)) (decide (d2.toInt < d0.toInt)) (decide (d2.toInt < d1.toInt)) (decide (d3.toInt < d0.toInt)) (decide (d3.toInt < d1.toInt)) (decide (d3.toInt < d2.toInt))) 3 3 (fun y hy => own_h4 d0 d1 d2 d3 3 y hy (by decide))]
theorem own_key4 (d0 d1 d2 d3 : Int32) : (own_near4 d0 d1 d2 d3).map Prod.fst = [own_at4 d0 d1 d2 d3 (0 : Int32), own_at4 d0 d1 d2 d3 (1 : Int32), own_at4 d0 d1 d2 d3 (2 : Int32)] := by
  rw [own_near4_B, List.map_map, own_at4_B, own_at4_B, own_at4_B]
  exact own_T4 (decide (d1.toInt < d0.toInt)) (decide (d2.toInt < d0.toInt)) (decide (d2.toInt < d1.toInt)) (decide (d3.toInt < d0.toInt)) (decide (d3.toInt < d1.toInt)) (decide (d3.toInt < d2.toInt)) (own_L4 (decide (d1.toInt < d0.toInt)) (decide (d2.toInt < d0.toInt)) (decide (d2.toInt < d1.toInt)) (decide (d3.toInt < d0.toInt)) (decide (d3.toInt < d1.toInt)) (decide (d3.toInt < d2.toInt))) (own_trans _ _ _) (own_trans _ _ _) (own_trans _ _ _) (own_trans _ _ _)
theorem own_at4_c (d0 d1 d2 d3 r : Int32) : own_at4 d0 d1 d2 d3 r = (0 : Int32) ∨ own_at4 d0 d1 d2 d3 r = (1 : Int32) ∨ own_at4 d0 d1 d2 d3 r = (2 : Int32) ∨ own_at4 d0 d1 d2 d3 r = (3 : Int32) := by
  unfold own_at4
  generalize if_icmp.holds .ne (own_rk4 d0 d1 d2 d3 (0 : Int32) d0) r = b0
  generalize if_icmp.holds .ne (own_rk4 d0 d1 d2 d3 (1 : Int32) d1) r = b1
  generalize if_icmp.holds .ne (own_rk4 d0 d1 d2 d3 (2 : Int32) d2) r = b2
  generalize if_icmp.holds .ne (own_rk4 d0 d1 d2 d3 (3 : Int32) d3) r = b3
  cases b0 <;> cases b1 <;> cases b2 <;> cases b3 <;> decide
theorem own_gx4 (t0 t1 t2 t3 t4 x : Int32) (h : x = (0 : Int32) ∨ x = (1 : Int32) ∨ x = (2 : Int32) ∨ x = (3 : Int32)) : own_g [t0, t1, t2, t3] x = own_g [t0, t1, t2, t3, t4] x := by
  rcases h with rfl | rfl | rfl | rfl <;> rfl
theorem own_law4 (d0 d1 d2 d3 t0 t1 t2 t3 t4 : Int32) : if_icmp.holds .ne (own_res4 d0 d1 d2 d3 t0 t1 t2 t3) (bif if_icmp.holds .ne (own_g [t0, t1, t2, t3, t4] (own_at4 d0 d1 d2 d3 (1 : Int32))) (own_g [t0, t1, t2, t3, t4] (own_at4 d0 d1 d2 d3 (2 : Int32))) then (own_g [t0, t1, t2, t3, t4] (own_at4 d0 d1 d2 d3 (0 : Int32))) else (own_g [t0, t1, t2, t3, t4] (own_at4 d0 d1 d2 d3 (1 : Int32)))) = false := by
  have hk := own_key4 d0 d1 d2 d3
  unfold own_res4
  revert hk
  generalize own_near4 d0 d1 d2 d3 = Ls
  intro hk
  match Ls, hk with
  | [(x0, y0), (x1, y1), (x2, y2)], hk =>
    simp only [List.map_cons, List.map_nil, List.cons.injEq, and_true] at hk
    obtain ⟨rfl, rfl, rfl⟩ := hk
    rw [← own_gx4 t0 t1 t2 t3 t4 _ (own_at4_c d0 d1 d2 d3 (0 : Int32)), ← own_gx4 t0 t1 t2 t3 t4 _ (own_at4_c d0 d1 d2 d3 (1 : Int32)), ← own_gx4 t0 t1 t2 t3 t4 _ (own_at4_c d0 d1 d2 d3 (2 : Int32))]
    exact own_got3_law _ _ _
def own_tab5 (m10 m20 m21 m30 m31 m32 m40 m41 m42 m43 : Bool) (x y : Nat) : Bool := match x, y with | 1, 0 => m10 | 2, 0 => m20 | 2, 1 => m21 | 3, 0 => m30 | 3, 1 => m31 | 3, 2 => m32 | 4, 0 => m40 | 4, 1 => m41 | 4, 2 => m42 | 4, 3 => m43 | _, _ => false
def own_atB5 (m10 m20 m21 m30 m31 m32 m40 m41 m42 m43 : Bool) (r : Int32) : Int32 := bif if_icmp.holds .ne (own_st (own_st (own_st (own_st (own_st (0 : Int32) (0 : Int32)) (bif m10 then (1 : Int32) else (0 : Int32))) (bif m20 then (1 : Int32) else (0 : Int32))) (bif m30 then (1 : Int32) else (0 : Int32))) (bif m40 then (1 : Int32) else (0 : Int32))) r then (bif if_icmp.holds .ne (own_st (own_st (own_st (own_st (own_st (0 : Int32) (bif m10 then (0 : Int32) else (1 : Int32))) (0 : Int32)) (bif m21 then (1 : Int32) else (0 : Int32))) (bif m31 then (1 : Int32) else (0 : Int32))) (bif m41 then (1 : Int32) else (0 : Int32))) r then (bif if_icmp.holds .ne (own_st (own_st (own_st (own_st (own_st (0 : Int32) (bif m20 then (0 : Int32) else (1 : Int32))) (bif m21 then (0 : Int32) else (1 : Int32))) (0 : Int32)) (bif m32 then (1 : Int32) else (0 : Int32))) (bif m42 then (1 : Int32) else (0 : Int32))) r then (bif if_icmp.holds .ne (own_st (own_st (own_st (own_st (own_st (0 : Int32) (bif m30 then (0 : Int32) else (1 : Int32))) (bif m31 then (0 : Int32) else (1 : Int32))) (bif m32 then (0 : Int32) else (1 : Int32))) (0 : Int32)) (bif m43 then (1 : Int32) else (0 : Int32))) r then (bif if_icmp.holds .ne (own_st (own_st (own_st (own_st (own_st (0 : Int32) (bif m40 then (0 : Int32) else (1 : Int32))) (bif m41 then (0 : Int32) else (1 : Int32))) (bif m42 then (0 : Int32) else (1 : Int32))) (bif m43 then (0 : Int32) else (1 : Int32))) (0 : Int32)) r then (0 : Int32) else (4 : Int32)) else (3 : Int32)) else (2 : Int32)) else (1 : Int32)) else (0 : Int32)
theorem own_T5 : ∀ m10 m20 m21 m30 m31 m32 m40 m41 m42 m43 : Bool, (own_nB (own_tab5 m10 m20 m21 m30 m31 m32 m40 m41 m42 m43) 3 5).length = 3 → ((!m21 || !m10 || m20) && (m21 || m10 || !m20)) = true → ((!m31 || !m10 || m30) && (m31 || m10 || !m30)) = true → ((!m32 || !m20 || m30) && (m32 || m20 || !m30)) = true → ((!m32 || !m21 || m31) && (m32 || m21 || !m31)) = true → ((!m41 || !m10 || m40) && (m41 || m10 || !m40)) = true → ((!m42 || !m20 || m40) && (m42 || m20 || !m40)) = true → ((!m42 || !m21 || m41) && (m42 || m21 || !m41)) = true → ((!m43 || !m30 || m40) && (m43 || m30 || !m40)) = true → ((!m43 || !m31 || m41) && (m43 || m31 || !m41)) = true → ((!m43 || !m32 || m42) && (m43 || m32 || !m42)) = true → (own_nB (own_tab5 m10 m20 m21 m30 m31 m32 m40 m41 m42 m43) 3 5).map Int32.ofNat = [own_atB5 m10 m20 m21 m30 m31 m32 m40 m41 m42 m43 (0 : Int32), own_atB5 m10 m20 m21 m30 m31 m32 m40 m41 m42 m43 (1 : Int32), own_atB5 m10 m20 m21 m30 m31 m32 m40 m41 m42 m43 (2 : Int32)] := by decide +kernel
theorem own_L5 : ∀ m10 m20 m21 m30 m31 m32 m40 m41 m42 m43 : Bool, (own_nB (own_tab5 m10 m20 m21 m30 m31 m32 m40 m41 m42 m43) 3 5).length = 3 := by decide +kernel
theorem own_at5_B (d0 d1 d2 d3 d4 r : Int32) : own_at5 d0 d1 d2 d3 d4 r = own_atB5 (decide (d1.toInt < d0.toInt)) (decide (d2.toInt < d0.toInt)) (decide (d2.toInt < d1.toInt)) (decide (d3.toInt < d0.toInt)) (decide (d3.toInt < d1.toInt)) (decide (d3.toInt < d2.toInt)) (decide (d4.toInt < d0.toInt)) (decide (d4.toInt < d1.toInt)) (decide (d4.toInt < d2.toInt)) (decide (d4.toInt < d3.toInt)) r := by
  unfold own_at5 own_rk5 own_atB5
  simp only [own_bf_self (0 : Int32) d0, own_bf_ge (j := (1 : Int32)) (i := (0 : Int32)) (vj := d1) (vi := d0) (by decide), own_bf_ge (j := (2 : Int32)) (i := (0 : Int32)) (vj := d2) (vi := d0) (by decide), own_bf_ge (j := (3 : Int32)) (i := (0 : Int32)) (vj := d3) (vi := d0) (by decide), own_bf_ge (j := (4 : Int32)) (i := (0 : Int32)) (vj := d4) (vi := d0) (by decide), own_bf_lt (j := (0 : Int32)) (i := (1 : Int32)) (vj := d0) (vi := d1) (by decide), own_bf_self (1 : Int32) d1, own_bf_ge (j := (2 : Int32)) (i := (1 : Int32)) (vj := d2) (vi := d1) (by decide), own_bf_ge (j := (3 : Int32)) (i := (1 : Int32)) (vj := d3) (vi := d1) (by decide), own_bf_ge (j := (4 : Int32)) (i := (1 : Int32)) (vj := d4) (vi := d1) (by decide), own_bf_lt (j := (0 : Int32)) (i := (2 : Int32)) (vj := d0) (vi := d2) (by decide), own_bf_lt (j := (1 : Int32)) (i := (2 : Int32)) (vj := d1) (vi := d2) (by decide), own_bf_self (2 : Int32) d2, own_bf_ge (j := (3 : Int32)) (i := (2 : Int32)) (vj := d3) (vi := d2) (by decide), own_bf_ge (j := (4 : Int32)) (i := (2 : Int32)) (vj := d4) (vi := d2) (by decide), own_bf_lt (j := (0 : Int32)) (i := (3 : Int32)) (vj := d0) (vi := d3) (by decide), own_bf_lt (j := (1 : Int32)) (i := (3 : Int32)) (vj := d1) (vi := d3) (by decide), own_bf_lt (j := (2 : Int32)) (i := (3 : Int32)) (vj := d2) (vi := d3) (by decide), own_bf_self (3 : Int32) d3, own_bf_ge (j := (4 : Int32)) (i := (3 : Int32)) (vj := d4) (vi := d3) (by decide), own_bf_lt (j := (0 : Int32)) (i := (4 : Int32)) (vj := d0) (vi := d4) (by decide), own_bf_lt (j := (1 : Int32)) (i := (4 : Int32)) (vj := d1) (vi := d4) (by decide), own_bf_lt (j := (2 : Int32)) (i := (4 : Int32)) (vj := d2) (vi := d4) (by decide), own_bf_lt (j := (3 : Int32)) (i := (4 : Int32)) (vj := d3) (vi := d4) (by decide), own_bf_self (4 : Int32) d4]
def own_f5 (d0 d1 d2 d3 d4 : Int32) (k : Nat) : Int32 × Int32 := (Int32.ofNat k, [d0, d1, d2, d3, d4].getD k (0 : Int32))
theorem own_h5 (d0 d1 d2 d3 d4 : Int32) (x y : Nat) (h : y < x) (hx : x < 5) : ifCond.holds .ge (own_dc (own_f5 d0 d1 d2 d3 d4 x).2 (own_f5 d0 d1 d2 d3 d4 y).2) = !own_tab5 (decide (d1.toInt < d0.toInt)) (decide (d2.toInt < d0.toInt)) (decide (d2.toInt < d1.toInt)) (decide (d3.toInt < d0.toInt)) (decide (d3.toInt < d1.toInt)) (decide (d3.toInt < d2.toInt)) (decide (d4.toInt < d0.toInt)) (decide (d4.toInt < d1.toInt)) (decide (d4.toInt < d2.toInt)) (decide (d4.toInt < d3.toInt)) x y := by
  rw [own_ge_dc]
  have hc : (x = 1 ∧ y = 0) ∨ (x = 2 ∧ y = 0) ∨ (x = 2 ∧ y = 1) ∨ (x = 3 ∧ y = 0) ∨ (x = 3 ∧ y = 1) ∨ (x = 3 ∧ y = 2) ∨ (x = 4 ∧ y = 0) ∨ (x = 4 ∧ y = 1) ∨ (x = 4 ∧ y = 2) ∨ (x = 4 ∧ y = 3) := by omega
  rcases hc with ⟨rfl, rfl⟩ | ⟨rfl, rfl⟩ | ⟨rfl, rfl⟩ | ⟨rfl, rfl⟩ | ⟨rfl, rfl⟩ | ⟨rfl, rfl⟩ | ⟨rfl, rfl⟩ | ⟨rfl, rfl⟩ | ⟨rfl, rfl⟩ | ⟨rfl, rfl⟩
  all_goals rfl
theorem own_near5_B (d0 d1 d2 d3 d4 : Int32) : own_near5 d0 d1 d2 d3 d4 = (own_nB (own_tab5 (decide (d1.toInt < d0.toInt)) (decide (d2.toInt < d0.toInt)) (decide (d2.toInt < d1.toInt)) (decide (d3.toInt < d0.toInt)) (decide (d3.toInt < d1.toInt)) (decide (d3.toInt < d2.toInt)) (decide (d4.toInt < d0.toInt)) (decide (d4.toInt < d1.toInt)) (decide (d4.toInt < d2.toInt)) (decide (d4.toInt < d3.toInt))) 3 5).map (own_f5 d0 d1 d2 d3 d4) := by
  unfold own_near5
  show (own_ins 3 (own_f5 d0 d1 d2 d3 d4 4) (own_ins 3 (own_f5 d0 d1 d2 d3 d4 3) (own_ins 3 (own_f5 d0 d1 d2 d3 d4 2) (own_ins 3 (own_f5 d0 d1 d2 d3 d4 1) (own_ins 3 (own_f5 d0 d1 d2 d3 d4 0) ((own_nB (own_tab5 (decide (d1.toInt < d0.toInt)) (decide (d2.toInt < d0.toInt)) (decide (d2.toInt < d1.toInt)) (decide (d3.toInt < d0.toInt)) (decide (d3.toInt < d1.toInt)) (decide (d3.toInt < d2.toInt)) (decide (d4.toInt < d0.toInt)) (decide (d4.toInt < d1.toInt)) (decide (d4.toInt < d2.toInt)) (decide (d4.toInt < d3.toInt))) 3 0).map (own_f5 d0 d1 d2 d3 d4))))))) = _
  rw [own_ins_map (own_f5 d0 d1 d2 d3 d4) (own_tab5 (decide (d1.toInt < d0.toInt)) (decide (d2.toInt < d0.toInt)) (decide (d2.toInt < d1.toInt)) (decide (d3.toInt < d0.toInt)) (decide (d3.toInt < d1.toInt)) (decide (d3.toInt < d2.toInt)) (decide (d4.toInt < d0.toInt)) (decide (d4.toInt < d1.toInt)) (decide (d4.toInt < d2.toInt)) (decide (d4.toInt < d3.toInt))) 3 0 (fun y hy => own_h5 d0 d1 d2 d3 d4 0 y hy (by decide)), own_ins_map (own_f5 d0 d1 d2 d3 d4) (own_tab5 (decide (d1.toInt < d0.toInt)) (decide (d2.toInt < d0.toInt)) (decide (d2.toInt < d1.toInt)) (decide (d3.toInt < d0.toInt)) (decide (d3.toInt < d1.toInt)) (decide (d3.toInt < d2.toInt)) (decide (d4.toInt < d0.toInt)) (decide (d4.toInt < d1.toInt)) (decide (d4.toInt < d2.toInt)) (decide (d4.toInt < d3.toInt))) 3 1 (fun y hy => own_h5 d0 d1 d2 d3 d4 1 y hy (by decide)), own_ins_map (own_f5 d0 d1 d2 d3 d4) (own_tab5 (decide (d1.toInt < d0.toInt)) (decide (d2.toInt < d0.toInt)) (decide (d2.toInt < d1.toInt)) (decide (d3.toInt < d0.toInt)) (decide (d3.toInt < d1.toInt)) (decide (d3.toInt < d2.toInt)) (decide (d4.toInt < d0.toInt)) (decide (d4.toInt < d1.toInt)) (decide (d4.toInt < d2.toInt)) (decide (d4.toInt < d3.toInt))) 3 2 (fun y hy => own_h5 d0 d1 d2 d3 d4 2 y hy (by decide)), own_ins_map (own_f5 d0 d1 d2 d3 d4) (own_tab5 (decide (d1.toInt < d0.toInt)) (decide (d2.toInt < d0.toInt)) (decide (d2.toInt < d1.toInt)) (decide (d3.toInt < d0.toInt)) (decide (d3.toInt < d1.toInt)) (decide (d3.toInt < d2.toInt)) (decide (d4.toInt < d0.toInt)) (decide (d4.toInt < d1.toInt)) (decide (d4.toInt < d2.toInt)) (decide (d4.toInt < d3.toInt))) 3 3 (fun y hy => own_h5 d0 d1 d2 d3 d4 3 y hy (by decide)), own_ins_map (own_f5 d0 d1 d2 d3 d4) (own_tab5 (decide (d1.toInt < d0.toInt)) (decide (d2.toInt < d0.toInt)) (decide (d2.toInt < d1.toInt)) (decide (d3.toInt < d0.toInt)) (decide (d3.toInt < d1.toInt)) (decide (d3.toInt < d2.toInt)) (decide (d4.toInt < d0.toInt)) (decide (d4.toInt < d1.toInt)) (decide (d4.toInt < d2.toInt)) (decide (d4.toInt < d3.toInt))) 3 4 (fun y hy => own_h5 d0 d1 d2 d3 d4 4 y hy (by decide))]
theorem own_key5 (d0 d1 d2 d3 d4 : Int32) : (own_near5 d0 d1 d2 d3 d4).map Prod.fst = [own_at5 d0 d1 d2 d3 d4 (0 : Int32), own_at5 d0 d1 d2 d3 d4 (1 : Int32), own_at5 d0 d1 d2 d3 d4 (2 : Int32)] := by
  rw [own_near5_B, List.map_map, own_at5_B, own_at5_B, own_at5_B]
  exact own_T5 (decide (d1.toInt < d0.toInt)) (decide (d2.toInt < d0.toInt)) (decide (d2.toInt < d1.toInt)) (decide (d3.toInt < d0.toInt)) (decide (d3.toInt < d1.toInt)) (decide (d3.toInt < d2.toInt)) (decide (d4.toInt < d0.toInt)) (decide (d4.toInt < d1.toInt)) (decide (d4.toInt < d2.toInt)) (decide (d4.toInt < d3.toInt)) (own_L5 (decide (d1.toInt < d0.toInt)) (decide (d2.toInt < d0.toInt)) (decide (d2.toInt < d1.toInt)) (decide (d3.toInt < d0.toInt)) (decide (d3.toInt < d1.toInt)) (decide (d3.toInt < d2.toInt)) (decide (d4.toInt < d0.toInt)) (decide (d4.toInt < d1.toInt)) (decide (d4.toInt < d2.toInt)) (decide (d4.toInt < d3.toInt))) (own_trans _ _ _) (own_trans _ _ _) (own_trans _ _ _) (own_trans _ _ _) (own_trans _ _ _) (own_trans _ _ _) (own_trans _ _ _) (own_trans _ _ _) (own_trans _ _ _) (own_trans _ _ _)
theorem own_law5 (d0 d1 d2 d3 d4 t0 t1 t2 t3 t4 : Int32) : if_icmp.holds .ne (own_res5 d0 d1 d2 d3 d4 t0 t1 t2 t3 t4) (bif if_icmp.holds .ne (own_g [t0, t1, t2, t3, t4] (own_at5 d0 d1 d2 d3 d4 (1 : Int32))) (own_g [t0, t1, t2, t3, t4] (own_at5 d0 d1 d2 d3 d4 (2 : Int32))) then (own_g [t0, t1, t2, t3, t4] (own_at5 d0 d1 d2 d3 d4 (0 : Int32))) else (own_g [t0, t1, t2, t3, t4] (own_at5 d0 d1 d2 d3 d4 (1 : Int32)))) = false := by
  have hk := own_key5 d0 d1 d2 d3 d4
  unfold own_res5
  revert hk
  generalize own_near5 d0 d1 d2 d3 d4 = Ls
  intro hk
  match Ls, hk with
  | [(x0, y0), (x1, y1), (x2, y2)], hk =>
    simp only [List.map_cons, List.map_nil, List.cons.injEq, and_true] at hk
    obtain ⟨rfl, rfl, rfl⟩ := hk
    exact own_got3_law _ _ _
theorem dA_0 : decode jdk_29_method_69_code 0 = .ok (.iload_n 0, 1) := by decide +kernel
theorem dA_1 : decode jdk_29_method_69_code 1 = .ok (.iload_n 1, 1) := by decide +kernel
theorem dA_2 : decode jdk_29_method_69_code 2 = .ok (.if_icmp .gt 7, 3) := by decide +kernel
theorem dA_5 : decode jdk_29_method_69_code 5 = .ok (.iload_n 0, 1) := by decide +kernel
theorem dA_6 : decode jdk_29_method_69_code 6 = .ok (.goto 4, 3) := by decide +kernel
theorem dA_9 : decode jdk_29_method_69_code 9 = .ok (.iload_n 1, 1) := by decide +kernel
theorem dA_10 : decode jdk_29_method_69_code 10 = .ok (.ireturn, 1) := by decide +kernel
theorem ef_mn_0_0 (m : MethodId) (x0 : Int32) (x1 : Int32) : entryFrame m #[(.int x0), (.int x1)] 2 = mkF m 0 #[iv x0, iv x1] [] := by first | (simp [entryFrame, mkF, argsToLocals, Value.category]; done) | rfl
def Qmn_0_0 (Z : State) (h0 : Heap) (n0 : Nat) (v : Option Value) (h : Heap) (L : List Loc) : Prop := v = some (.int (0 : Int32)) ∧ Fr n0 L ∧ h = h0
set_option maxRecDepth 65536 in
set_option maxHeartbeats 40000000 in
theorem rmmn_0_0 (l : Launch) (Z : State) (a0 : Array Value) (hw : ∀ d ∈ tables_1, d.before a0 Z = true) (ws : List Jvm.Cond) (h0 : Heap) (n0 : Nat) (Z0 : n0 ≤ h0.size) :
    MetFree l (⟨"java/lang/Math", "min", "(II)I"⟩ : MethodName) (head1 (Jvm.Cond.code (⟨"java/lang/Math", "min", "(II)I"⟩ : MethodName) jdk_29_method_69_code 2 (some .int) :: ws) ({ frames := 0, cells := 0, slots := 0, locals := 0 } : Room)) (fun a U => a = #[(.int (0 : Int32)), (.int (0 : Int32))] ∧ Z.Warmed39 U.vm ∧ U.heap = h0) (fun _ _ _ _ _ => True) (fun _ U o U' => ∃ v L, o = .returned v ∧ Qmn_0_0 Z h0 n0 v U'.heap L ∧ FrameEnd U o U' L ({ frames := 0, cells := 0, slots := 0, locals := 0 } : Room).cells ({ frames := 0, cells := 0, slots := 0, locals := 0 } : Room).slots) := by
  refine MetFree.of_bodySF (Jvm.Free.JP.mathPlain rfl (by decide +kernel)) hisR ?_
  intro p e s m args below meth c s₁ Bd hml0 hP hK
  obtain ⟨rfl, hZ, hh⟩ := hP
  have hx := Bd.exec
  have hby := Bd.bytes
  have hml : c.maxLocals = 2 := hml0
  have hown : s.vm.findClass "java/lang/Math" = some m.cls := findClass_of_methodNamed Bd.named
  have hnm := (name_of_methodNamed Bd.named Bd.method).1
  have X0 : Stand p l e ({ frames := 0, cells := 0, slots := 0, locals := 0 } : Room) s m #[(.int (0 : Int32)), (.int (0 : Int32))] below meth c s₁ [] 0 0 := Stand.of_body Bd
  have e0 : s₁.heap = h0 := by rw [← hh, Bd.state]; rfl
  have N0 := Fr.nil n0
  have pre0 : ∀ t, Steps p.tables e below (s₁.setTop (mkF m 0 #[iv 0, iv 0] [])) t → Steps p.tables e below (s₁.setTop (entryFrame m #[(.int (0 : Int32)), (.int (0 : Int32))] 2)) t := fun t k => castTop (ef_mn_0_0 m (0 : Int32) (0 : Int32)) k
  obtain ⟨fs, hr, hrun, hended, hW, hsame⟩ := X0.leave (v := some (.int (0 : Int32))) (fun h => by rw [Bd.returns] at h; cases h)
  refine ⟨_, _, pre0 _ ?_, hrun, hended, _, _, rfl, ?_, ⟨_, rfl⟩, hW, hsame.mono (by decide) (by decide)⟩
  · show sS p e below s₁ m 0 #[iv 0, iv 0] [] _
    refine XS.iloadN X0.here hx rfl (hb hby dA_0) rfl ?_
    refine XS.iloadN X0.here hx rfl (hb hby dA_1) rfl ?_
    refine XS.icmpNo X0.here hx rfl (hb hby dA_2) rfl (by decide) ?_
    refine XS.iloadN X0.here hx rfl (hb hby dA_5) rfl ?_
    refine XS.goto X0.here hx rfl (pc0 := 6) (pc' := 10) rfl (hb hby dA_6) (by decide) (by decide) ?_
    show sS p e below s₁ m 10 #[iv 0, iv 0] [(.int (0 : Int32))] _
    exact retI X0 hx Bd.returns (hb hby dA_10) hr
  · show Qmn_0_0 Z h0 n0 _ s₁.heap _
    rw [e0]
    exact ⟨rfl, N0, rfl⟩
theorem ef_mn_0_1 (m : MethodId) (x0 : Int32) (x1 : Int32) : entryFrame m #[(.int x0), (.int x1)] 2 = mkF m 0 #[iv x0, iv x1] [] := by first | (simp [entryFrame, mkF, argsToLocals, Value.category]; done) | rfl
def Qmn_0_1 (Z : State) (h0 : Heap) (n0 : Nat) (v : Option Value) (h : Heap) (L : List Loc) : Prop := v = some (.int (0 : Int32)) ∧ Fr n0 L ∧ h = h0
set_option maxRecDepth 65536 in
set_option maxHeartbeats 40000000 in
theorem rmmn_0_1 (l : Launch) (Z : State) (a0 : Array Value) (hw : ∀ d ∈ tables_1, d.before a0 Z = true) (ws : List Jvm.Cond) (h0 : Heap) (n0 : Nat) (Z0 : n0 ≤ h0.size) :
    MetFree l (⟨"java/lang/Math", "min", "(II)I"⟩ : MethodName) (head1 (Jvm.Cond.code (⟨"java/lang/Math", "min", "(II)I"⟩ : MethodName) jdk_29_method_69_code 2 (some .int) :: ws) ({ frames := 0, cells := 0, slots := 0, locals := 0 } : Room)) (fun a U => a = #[(.int (0 : Int32)), (.int (1 : Int32))] ∧ Z.Warmed39 U.vm ∧ U.heap = h0) (fun _ _ _ _ _ => True) (fun _ U o U' => ∃ v L, o = .returned v ∧ Qmn_0_1 Z h0 n0 v U'.heap L ∧ FrameEnd U o U' L ({ frames := 0, cells := 0, slots := 0, locals := 0 } : Room).cells ({ frames := 0, cells := 0, slots := 0, locals := 0 } : Room).slots) := by
  refine MetFree.of_bodySF (Jvm.Free.JP.mathPlain rfl (by decide +kernel)) hisR ?_
  intro p e s m args below meth c s₁ Bd hml0 hP hK
  obtain ⟨rfl, hZ, hh⟩ := hP
  have hx := Bd.exec
  have hby := Bd.bytes
  have hml : c.maxLocals = 2 := hml0
  have hown : s.vm.findClass "java/lang/Math" = some m.cls := findClass_of_methodNamed Bd.named
  have hnm := (name_of_methodNamed Bd.named Bd.method).1
  have X0 : Stand p l e ({ frames := 0, cells := 0, slots := 0, locals := 0 } : Room) s m #[(.int (0 : Int32)), (.int (1 : Int32))] below meth c s₁ [] 0 0 := Stand.of_body Bd
  have e0 : s₁.heap = h0 := by rw [← hh, Bd.state]; rfl
  have N0 := Fr.nil n0
  have pre0 : ∀ t, Steps p.tables e below (s₁.setTop (mkF m 0 #[iv 0, iv 1] [])) t → Steps p.tables e below (s₁.setTop (entryFrame m #[(.int (0 : Int32)), (.int (1 : Int32))] 2)) t := fun t k => castTop (ef_mn_0_1 m (0 : Int32) (1 : Int32)) k
  obtain ⟨fs, hr, hrun, hended, hW, hsame⟩ := X0.leave (v := some (.int (0 : Int32))) (fun h => by rw [Bd.returns] at h; cases h)
  refine ⟨_, _, pre0 _ ?_, hrun, hended, _, _, rfl, ?_, ⟨_, rfl⟩, hW, hsame.mono (by decide) (by decide)⟩
  · show sS p e below s₁ m 0 #[iv 0, iv 1] [] _
    refine XS.iloadN X0.here hx rfl (hb hby dA_0) rfl ?_
    refine XS.iloadN X0.here hx rfl (hb hby dA_1) rfl ?_
    refine XS.icmpNo X0.here hx rfl (hb hby dA_2) rfl (by decide) ?_
    refine XS.iloadN X0.here hx rfl (hb hby dA_5) rfl ?_
    refine XS.goto X0.here hx rfl (pc0 := 6) (pc' := 10) rfl (hb hby dA_6) (by decide) (by decide) ?_
    show sS p e below s₁ m 10 #[iv 0, iv 1] [(.int (0 : Int32))] _
    exact retI X0 hx Bd.returns (hb hby dA_10) hr
  · show Qmn_0_1 Z h0 n0 _ s₁.heap _
    rw [e0]
    exact ⟨rfl, N0, rfl⟩
theorem ef_mn_0_2 (m : MethodId) (x0 : Int32) (x1 : Int32) : entryFrame m #[(.int x0), (.int x1)] 2 = mkF m 0 #[iv x0, iv x1] [] := by first | (simp [entryFrame, mkF, argsToLocals, Value.category]; done) | rfl
def Qmn_0_2 (Z : State) (h0 : Heap) (n0 : Nat) (v : Option Value) (h : Heap) (L : List Loc) : Prop := v = some (.int (0 : Int32)) ∧ Fr n0 L ∧ h = h0
set_option maxRecDepth 65536 in
set_option maxHeartbeats 40000000 in
theorem rmmn_0_2 (l : Launch) (Z : State) (a0 : Array Value) (hw : ∀ d ∈ tables_1, d.before a0 Z = true) (ws : List Jvm.Cond) (h0 : Heap) (n0 : Nat) (Z0 : n0 ≤ h0.size) :
    MetFree l (⟨"java/lang/Math", "min", "(II)I"⟩ : MethodName) (head1 (Jvm.Cond.code (⟨"java/lang/Math", "min", "(II)I"⟩ : MethodName) jdk_29_method_69_code 2 (some .int) :: ws) ({ frames := 0, cells := 0, slots := 0, locals := 0 } : Room)) (fun a U => a = #[(.int (0 : Int32)), (.int (2 : Int32))] ∧ Z.Warmed39 U.vm ∧ U.heap = h0) (fun _ _ _ _ _ => True) (fun _ U o U' => ∃ v L, o = .returned v ∧ Qmn_0_2 Z h0 n0 v U'.heap L ∧ FrameEnd U o U' L ({ frames := 0, cells := 0, slots := 0, locals := 0 } : Room).cells ({ frames := 0, cells := 0, slots := 0, locals := 0 } : Room).slots) := by
  refine MetFree.of_bodySF (Jvm.Free.JP.mathPlain rfl (by decide +kernel)) hisR ?_
  intro p e s m args below meth c s₁ Bd hml0 hP hK
  obtain ⟨rfl, hZ, hh⟩ := hP
  have hx := Bd.exec
  have hby := Bd.bytes
  have hml : c.maxLocals = 2 := hml0
  have hown : s.vm.findClass "java/lang/Math" = some m.cls := findClass_of_methodNamed Bd.named
  have hnm := (name_of_methodNamed Bd.named Bd.method).1
  have X0 : Stand p l e ({ frames := 0, cells := 0, slots := 0, locals := 0 } : Room) s m #[(.int (0 : Int32)), (.int (2 : Int32))] below meth c s₁ [] 0 0 := Stand.of_body Bd
  have e0 : s₁.heap = h0 := by rw [← hh, Bd.state]; rfl
  have N0 := Fr.nil n0
  have pre0 : ∀ t, Steps p.tables e below (s₁.setTop (mkF m 0 #[iv 0, iv 2] [])) t → Steps p.tables e below (s₁.setTop (entryFrame m #[(.int (0 : Int32)), (.int (2 : Int32))] 2)) t := fun t k => castTop (ef_mn_0_2 m (0 : Int32) (2 : Int32)) k
  obtain ⟨fs, hr, hrun, hended, hW, hsame⟩ := X0.leave (v := some (.int (0 : Int32))) (fun h => by rw [Bd.returns] at h; cases h)
  refine ⟨_, _, pre0 _ ?_, hrun, hended, _, _, rfl, ?_, ⟨_, rfl⟩, hW, hsame.mono (by decide) (by decide)⟩
  · show sS p e below s₁ m 0 #[iv 0, iv 2] [] _
    refine XS.iloadN X0.here hx rfl (hb hby dA_0) rfl ?_
    refine XS.iloadN X0.here hx rfl (hb hby dA_1) rfl ?_
    refine XS.icmpNo X0.here hx rfl (hb hby dA_2) rfl (by decide) ?_
    refine XS.iloadN X0.here hx rfl (hb hby dA_5) rfl ?_
    refine XS.goto X0.here hx rfl (pc0 := 6) (pc' := 10) rfl (hb hby dA_6) (by decide) (by decide) ?_
    show sS p e below s₁ m 10 #[iv 0, iv 2] [(.int (0 : Int32))] _
    exact retI X0 hx Bd.returns (hb hby dA_10) hr
  · show Qmn_0_2 Z h0 n0 _ s₁.heap _
    rw [e0]
    exact ⟨rfl, N0, rfl⟩
theorem ef_mn_1_0 (m : MethodId) (x0 : Int32) (x1 : Int32) : entryFrame m #[(.int x0), (.int x1)] 2 = mkF m 0 #[iv x0, iv x1] [] := by first | (simp [entryFrame, mkF, argsToLocals, Value.category]; done) | rfl
def Qmn_1_0 (Z : State) (h0 : Heap) (n0 : Nat) (v : Option Value) (h : Heap) (L : List Loc) : Prop := v = some (.int (0 : Int32)) ∧ Fr n0 L ∧ h = h0
set_option maxRecDepth 65536 in
set_option maxHeartbeats 40000000 in
theorem rmmn_1_0 (l : Launch) (Z : State) (a0 : Array Value) (hw : ∀ d ∈ tables_1, d.before a0 Z = true) (ws : List Jvm.Cond) (h0 : Heap) (n0 : Nat) (Z0 : n0 ≤ h0.size) :
    MetFree l (⟨"java/lang/Math", "min", "(II)I"⟩ : MethodName) (head1 (Jvm.Cond.code (⟨"java/lang/Math", "min", "(II)I"⟩ : MethodName) jdk_29_method_69_code 2 (some .int) :: ws) ({ frames := 0, cells := 0, slots := 0, locals := 0 } : Room)) (fun a U => a = #[(.int (1 : Int32)), (.int (0 : Int32))] ∧ Z.Warmed39 U.vm ∧ U.heap = h0) (fun _ _ _ _ _ => True) (fun _ U o U' => ∃ v L, o = .returned v ∧ Qmn_1_0 Z h0 n0 v U'.heap L ∧ FrameEnd U o U' L ({ frames := 0, cells := 0, slots := 0, locals := 0 } : Room).cells ({ frames := 0, cells := 0, slots := 0, locals := 0 } : Room).slots) := by
  refine MetFree.of_bodySF (Jvm.Free.JP.mathPlain rfl (by decide +kernel)) hisR ?_
  intro p e s m args below meth c s₁ Bd hml0 hP hK
  obtain ⟨rfl, hZ, hh⟩ := hP
  have hx := Bd.exec
  have hby := Bd.bytes
  have hml : c.maxLocals = 2 := hml0
  have hown : s.vm.findClass "java/lang/Math" = some m.cls := findClass_of_methodNamed Bd.named
  have hnm := (name_of_methodNamed Bd.named Bd.method).1
  have X0 : Stand p l e ({ frames := 0, cells := 0, slots := 0, locals := 0 } : Room) s m #[(.int (1 : Int32)), (.int (0 : Int32))] below meth c s₁ [] 0 0 := Stand.of_body Bd
  have e0 : s₁.heap = h0 := by rw [← hh, Bd.state]; rfl
  have N0 := Fr.nil n0
  have pre0 : ∀ t, Steps p.tables e below (s₁.setTop (mkF m 0 #[iv 1, iv 0] [])) t → Steps p.tables e below (s₁.setTop (entryFrame m #[(.int (1 : Int32)), (.int (0 : Int32))] 2)) t := fun t k => castTop (ef_mn_1_0 m (1 : Int32) (0 : Int32)) k
  obtain ⟨fs, hr, hrun, hended, hW, hsame⟩ := X0.leave (v := some (.int (0 : Int32))) (fun h => by rw [Bd.returns] at h; cases h)
  refine ⟨_, _, pre0 _ ?_, hrun, hended, _, _, rfl, ?_, ⟨_, rfl⟩, hW, hsame.mono (by decide) (by decide)⟩
  · show sS p e below s₁ m 0 #[iv 1, iv 0] [] _
    refine XS.iloadN X0.here hx rfl (hb hby dA_0) rfl ?_
    refine XS.iloadN X0.here hx rfl (hb hby dA_1) rfl ?_
    refine XS.icmpYes X0.here hx rfl (pc0 := 2) (pc' := 9) rfl (hb hby dA_2) rfl (by decide) (by decide) (by decide) ?_
    refine XS.iloadN X0.here hx rfl (hb hby dA_9) rfl ?_
    show sS p e below s₁ m 10 #[iv 1, iv 0] [(.int (0 : Int32))] _
    exact retI X0 hx Bd.returns (hb hby dA_10) hr
  · show Qmn_1_0 Z h0 n0 _ s₁.heap _
    rw [e0]
    exact ⟨rfl, N0, rfl⟩
theorem ef_mn_1_1 (m : MethodId) (x0 : Int32) (x1 : Int32) : entryFrame m #[(.int x0), (.int x1)] 2 = mkF m 0 #[iv x0, iv x1] [] := by first | (simp [entryFrame, mkF, argsToLocals, Value.category]; done) | rfl
def Qmn_1_1 (Z : State) (h0 : Heap) (n0 : Nat) (v : Option Value) (h : Heap) (L : List Loc) : Prop := v = some (.int (1 : Int32)) ∧ Fr n0 L ∧ h = h0
set_option maxRecDepth 65536 in
set_option maxHeartbeats 40000000 in
theorem rmmn_1_1 (l : Launch) (Z : State) (a0 : Array Value) (hw : ∀ d ∈ tables_1, d.before a0 Z = true) (ws : List Jvm.Cond) (h0 : Heap) (n0 : Nat) (Z0 : n0 ≤ h0.size) :
    MetFree l (⟨"java/lang/Math", "min", "(II)I"⟩ : MethodName) (head1 (Jvm.Cond.code (⟨"java/lang/Math", "min", "(II)I"⟩ : MethodName) jdk_29_method_69_code 2 (some .int) :: ws) ({ frames := 0, cells := 0, slots := 0, locals := 0 } : Room)) (fun a U => a = #[(.int (1 : Int32)), (.int (1 : Int32))] ∧ Z.Warmed39 U.vm ∧ U.heap = h0) (fun _ _ _ _ _ => True) (fun _ U o U' => ∃ v L, o = .returned v ∧ Qmn_1_1 Z h0 n0 v U'.heap L ∧ FrameEnd U o U' L ({ frames := 0, cells := 0, slots := 0, locals := 0 } : Room).cells ({ frames := 0, cells := 0, slots := 0, locals := 0 } : Room).slots) := by
  refine MetFree.of_bodySF (Jvm.Free.JP.mathPlain rfl (by decide +kernel)) hisR ?_
  intro p e s m args below meth c s₁ Bd hml0 hP hK
  obtain ⟨rfl, hZ, hh⟩ := hP
  have hx := Bd.exec
  have hby := Bd.bytes
  have hml : c.maxLocals = 2 := hml0
  have hown : s.vm.findClass "java/lang/Math" = some m.cls := findClass_of_methodNamed Bd.named
  have hnm := (name_of_methodNamed Bd.named Bd.method).1
  have X0 : Stand p l e ({ frames := 0, cells := 0, slots := 0, locals := 0 } : Room) s m #[(.int (1 : Int32)), (.int (1 : Int32))] below meth c s₁ [] 0 0 := Stand.of_body Bd
  have e0 : s₁.heap = h0 := by rw [← hh, Bd.state]; rfl
  have N0 := Fr.nil n0
  have pre0 : ∀ t, Steps p.tables e below (s₁.setTop (mkF m 0 #[iv 1, iv 1] [])) t → Steps p.tables e below (s₁.setTop (entryFrame m #[(.int (1 : Int32)), (.int (1 : Int32))] 2)) t := fun t k => castTop (ef_mn_1_1 m (1 : Int32) (1 : Int32)) k
  obtain ⟨fs, hr, hrun, hended, hW, hsame⟩ := X0.leave (v := some (.int (1 : Int32))) (fun h => by rw [Bd.returns] at h; cases h)
  refine ⟨_, _, pre0 _ ?_, hrun, hended, _, _, rfl, ?_, ⟨_, rfl⟩, hW, hsame.mono (by decide) (by decide)⟩
  · show sS p e below s₁ m 0 #[iv 1, iv 1] [] _
    refine XS.iloadN X0.here hx rfl (hb hby dA_0) rfl ?_
    refine XS.iloadN X0.here hx rfl (hb hby dA_1) rfl ?_
    refine XS.icmpNo X0.here hx rfl (hb hby dA_2) rfl (by decide) ?_
    refine XS.iloadN X0.here hx rfl (hb hby dA_5) rfl ?_
    refine XS.goto X0.here hx rfl (pc0 := 6) (pc' := 10) rfl (hb hby dA_6) (by decide) (by decide) ?_
    show sS p e below s₁ m 10 #[iv 1, iv 1] [(.int (1 : Int32))] _
    exact retI X0 hx Bd.returns (hb hby dA_10) hr
  · show Qmn_1_1 Z h0 n0 _ s₁.heap _
    rw [e0]
    exact ⟨rfl, N0, rfl⟩
theorem ef_mn_1_2 (m : MethodId) (x0 : Int32) (x1 : Int32) : entryFrame m #[(.int x0), (.int x1)] 2 = mkF m 0 #[iv x0, iv x1] [] := by first | (simp [entryFrame, mkF, argsToLocals, Value.category]; done) | rfl
def Qmn_1_2 (Z : State) (h0 : Heap) (n0 : Nat) (v : Option Value) (h : Heap) (L : List Loc) : Prop := v = some (.int (1 : Int32)) ∧ Fr n0 L ∧ h = h0
set_option maxRecDepth 65536 in
set_option maxHeartbeats 40000000 in
theorem rmmn_1_2 (l : Launch) (Z : State) (a0 : Array Value) (hw : ∀ d ∈ tables_1, d.before a0 Z = true) (ws : List Jvm.Cond) (h0 : Heap) (n0 : Nat) (Z0 : n0 ≤ h0.size) :
    MetFree l (⟨"java/lang/Math", "min", "(II)I"⟩ : MethodName) (head1 (Jvm.Cond.code (⟨"java/lang/Math", "min", "(II)I"⟩ : MethodName) jdk_29_method_69_code 2 (some .int) :: ws) ({ frames := 0, cells := 0, slots := 0, locals := 0 } : Room)) (fun a U => a = #[(.int (1 : Int32)), (.int (2 : Int32))] ∧ Z.Warmed39 U.vm ∧ U.heap = h0) (fun _ _ _ _ _ => True) (fun _ U o U' => ∃ v L, o = .returned v ∧ Qmn_1_2 Z h0 n0 v U'.heap L ∧ FrameEnd U o U' L ({ frames := 0, cells := 0, slots := 0, locals := 0 } : Room).cells ({ frames := 0, cells := 0, slots := 0, locals := 0 } : Room).slots) := by
  refine MetFree.of_bodySF (Jvm.Free.JP.mathPlain rfl (by decide +kernel)) hisR ?_
  intro p e s m args below meth c s₁ Bd hml0 hP hK
  obtain ⟨rfl, hZ, hh⟩ := hP
  have hx := Bd.exec
  have hby := Bd.bytes
  have hml : c.maxLocals = 2 := hml0
  have hown : s.vm.findClass "java/lang/Math" = some m.cls := findClass_of_methodNamed Bd.named
  have hnm := (name_of_methodNamed Bd.named Bd.method).1
  have X0 : Stand p l e ({ frames := 0, cells := 0, slots := 0, locals := 0 } : Room) s m #[(.int (1 : Int32)), (.int (2 : Int32))] below meth c s₁ [] 0 0 := Stand.of_body Bd
  have e0 : s₁.heap = h0 := by rw [← hh, Bd.state]; rfl
  have N0 := Fr.nil n0
  have pre0 : ∀ t, Steps p.tables e below (s₁.setTop (mkF m 0 #[iv 1, iv 2] [])) t → Steps p.tables e below (s₁.setTop (entryFrame m #[(.int (1 : Int32)), (.int (2 : Int32))] 2)) t := fun t k => castTop (ef_mn_1_2 m (1 : Int32) (2 : Int32)) k
  obtain ⟨fs, hr, hrun, hended, hW, hsame⟩ := X0.leave (v := some (.int (1 : Int32))) (fun h => by rw [Bd.returns] at h; cases h)
  refine ⟨_, _, pre0 _ ?_, hrun, hended, _, _, rfl, ?_, ⟨_, rfl⟩, hW, hsame.mono (by decide) (by decide)⟩
  · show sS p e below s₁ m 0 #[iv 1, iv 2] [] _
    refine XS.iloadN X0.here hx rfl (hb hby dA_0) rfl ?_
    refine XS.iloadN X0.here hx rfl (hb hby dA_1) rfl ?_
    refine XS.icmpNo X0.here hx rfl (hb hby dA_2) rfl (by decide) ?_
    refine XS.iloadN X0.here hx rfl (hb hby dA_5) rfl ?_
    refine XS.goto X0.here hx rfl (pc0 := 6) (pc' := 10) rfl (hb hby dA_6) (by decide) (by decide) ?_
    show sS p e below s₁ m 10 #[iv 1, iv 2] [(.int (1 : Int32))] _
    exact retI X0 hx Bd.returns (hb hby dA_10) hr
  · show Qmn_1_2 Z h0 n0 _ s₁.heap _
    rw [e0]
    exact ⟨rfl, N0, rfl⟩
theorem ef_mn_2_1 (m : MethodId) (x0 : Int32) (x1 : Int32) : entryFrame m #[(.int x0), (.int x1)] 2 = mkF m 0 #[iv x0, iv x1] [] := by first | (simp [entryFrame, mkF, argsToLocals, Value.category]; done) | rfl
def Qmn_2_1 (Z : State) (h0 : Heap) (n0 : Nat) (v : Option Value) (h : Heap) (L : List Loc) : Prop := v = some (.int (1 : Int32)) ∧ Fr n0 L ∧ h = h0
set_option maxRecDepth 65536 in
set_option maxHeartbeats 40000000 in
theorem rmmn_2_1 (l : Launch) (Z : State) (a0 : Array Value) (hw : ∀ d ∈ tables_1, d.before a0 Z = true) (ws : List Jvm.Cond) (h0 : Heap) (n0 : Nat) (Z0 : n0 ≤ h0.size) :
    MetFree l (⟨"java/lang/Math", "min", "(II)I"⟩ : MethodName) (head1 (Jvm.Cond.code (⟨"java/lang/Math", "min", "(II)I"⟩ : MethodName) jdk_29_method_69_code 2 (some .int) :: ws) ({ frames := 0, cells := 0, slots := 0, locals := 0 } : Room)) (fun a U => a = #[(.int (2 : Int32)), (.int (1 : Int32))] ∧ Z.Warmed39 U.vm ∧ U.heap = h0) (fun _ _ _ _ _ => True) (fun _ U o U' => ∃ v L, o = .returned v ∧ Qmn_2_1 Z h0 n0 v U'.heap L ∧ FrameEnd U o U' L ({ frames := 0, cells := 0, slots := 0, locals := 0 } : Room).cells ({ frames := 0, cells := 0, slots := 0, locals := 0 } : Room).slots) := by
  refine MetFree.of_bodySF (Jvm.Free.JP.mathPlain rfl (by decide +kernel)) hisR ?_
  intro p e s m args below meth c s₁ Bd hml0 hP hK
  obtain ⟨rfl, hZ, hh⟩ := hP
  have hx := Bd.exec
  have hby := Bd.bytes
  have hml : c.maxLocals = 2 := hml0
  have hown : s.vm.findClass "java/lang/Math" = some m.cls := findClass_of_methodNamed Bd.named
  have hnm := (name_of_methodNamed Bd.named Bd.method).1
  have X0 : Stand p l e ({ frames := 0, cells := 0, slots := 0, locals := 0 } : Room) s m #[(.int (2 : Int32)), (.int (1 : Int32))] below meth c s₁ [] 0 0 := Stand.of_body Bd
  have e0 : s₁.heap = h0 := by rw [← hh, Bd.state]; rfl
  have N0 := Fr.nil n0
  have pre0 : ∀ t, Steps p.tables e below (s₁.setTop (mkF m 0 #[iv 2, iv 1] [])) t → Steps p.tables e below (s₁.setTop (entryFrame m #[(.int (2 : Int32)), (.int (1 : Int32))] 2)) t := fun t k => castTop (ef_mn_2_1 m (2 : Int32) (1 : Int32)) k
  obtain ⟨fs, hr, hrun, hended, hW, hsame⟩ := X0.leave (v := some (.int (1 : Int32))) (fun h => by rw [Bd.returns] at h; cases h)
  refine ⟨_, _, pre0 _ ?_, hrun, hended, _, _, rfl, ?_, ⟨_, rfl⟩, hW, hsame.mono (by decide) (by decide)⟩
  · show sS p e below s₁ m 0 #[iv 2, iv 1] [] _
    refine XS.iloadN X0.here hx rfl (hb hby dA_0) rfl ?_
    refine XS.iloadN X0.here hx rfl (hb hby dA_1) rfl ?_
    refine XS.icmpYes X0.here hx rfl (pc0 := 2) (pc' := 9) rfl (hb hby dA_2) rfl (by decide) (by decide) (by decide) ?_
    refine XS.iloadN X0.here hx rfl (hb hby dA_9) rfl ?_
    show sS p e below s₁ m 10 #[iv 2, iv 1] [(.int (1 : Int32))] _
    exact retI X0 hx Bd.returns (hb hby dA_10) hr
  · show Qmn_2_1 Z h0 n0 _ s₁.heap _
    rw [e0]
    exact ⟨rfl, N0, rfl⟩
theorem ef_mn_2_2 (m : MethodId) (x0 : Int32) (x1 : Int32) : entryFrame m #[(.int x0), (.int x1)] 2 = mkF m 0 #[iv x0, iv x1] [] := by first | (simp [entryFrame, mkF, argsToLocals, Value.category]; done) | rfl
def Qmn_2_2 (Z : State) (h0 : Heap) (n0 : Nat) (v : Option Value) (h : Heap) (L : List Loc) : Prop := v = some (.int (2 : Int32)) ∧ Fr n0 L ∧ h = h0
set_option maxRecDepth 65536 in
set_option maxHeartbeats 40000000 in
theorem rmmn_2_2 (l : Launch) (Z : State) (a0 : Array Value) (hw : ∀ d ∈ tables_1, d.before a0 Z = true) (ws : List Jvm.Cond) (h0 : Heap) (n0 : Nat) (Z0 : n0 ≤ h0.size) :
    MetFree l (⟨"java/lang/Math", "min", "(II)I"⟩ : MethodName) (head1 (Jvm.Cond.code (⟨"java/lang/Math", "min", "(II)I"⟩ : MethodName) jdk_29_method_69_code 2 (some .int) :: ws) ({ frames := 0, cells := 0, slots := 0, locals := 0 } : Room)) (fun a U => a = #[(.int (2 : Int32)), (.int (2 : Int32))] ∧ Z.Warmed39 U.vm ∧ U.heap = h0) (fun _ _ _ _ _ => True) (fun _ U o U' => ∃ v L, o = .returned v ∧ Qmn_2_2 Z h0 n0 v U'.heap L ∧ FrameEnd U o U' L ({ frames := 0, cells := 0, slots := 0, locals := 0 } : Room).cells ({ frames := 0, cells := 0, slots := 0, locals := 0 } : Room).slots) := by
  refine MetFree.of_bodySF (Jvm.Free.JP.mathPlain rfl (by decide +kernel)) hisR ?_
  intro p e s m args below meth c s₁ Bd hml0 hP hK
  obtain ⟨rfl, hZ, hh⟩ := hP
  have hx := Bd.exec
  have hby := Bd.bytes
  have hml : c.maxLocals = 2 := hml0
  have hown : s.vm.findClass "java/lang/Math" = some m.cls := findClass_of_methodNamed Bd.named
  have hnm := (name_of_methodNamed Bd.named Bd.method).1
  have X0 : Stand p l e ({ frames := 0, cells := 0, slots := 0, locals := 0 } : Room) s m #[(.int (2 : Int32)), (.int (2 : Int32))] below meth c s₁ [] 0 0 := Stand.of_body Bd
  have e0 : s₁.heap = h0 := by rw [← hh, Bd.state]; rfl
  have N0 := Fr.nil n0
  have pre0 : ∀ t, Steps p.tables e below (s₁.setTop (mkF m 0 #[iv 2, iv 2] [])) t → Steps p.tables e below (s₁.setTop (entryFrame m #[(.int (2 : Int32)), (.int (2 : Int32))] 2)) t := fun t k => castTop (ef_mn_2_2 m (2 : Int32) (2 : Int32)) k
  obtain ⟨fs, hr, hrun, hended, hW, hsame⟩ := X0.leave (v := some (.int (2 : Int32))) (fun h => by rw [Bd.returns] at h; cases h)
  refine ⟨_, _, pre0 _ ?_, hrun, hended, _, _, rfl, ?_, ⟨_, rfl⟩, hW, hsame.mono (by decide) (by decide)⟩
  · show sS p e below s₁ m 0 #[iv 2, iv 2] [] _
    refine XS.iloadN X0.here hx rfl (hb hby dA_0) rfl ?_
    refine XS.iloadN X0.here hx rfl (hb hby dA_1) rfl ?_
    refine XS.icmpNo X0.here hx rfl (hb hby dA_2) rfl (by decide) ?_
    refine XS.iloadN X0.here hx rfl (hb hby dA_5) rfl ?_
    refine XS.goto X0.here hx rfl (pc0 := 6) (pc' := 10) rfl (hb hby dA_6) (by decide) (by decide) ?_
    show sS p e below s₁ m 10 #[iv 2, iv 2] [(.int (2 : Int32))] _
    exact retI X0 hx Bd.returns (hb hby dA_10) hr
  · show Qmn_2_2 Z h0 n0 _ s₁.heap _
    rw [e0]
    exact ⟨rfl, N0, rfl⟩
theorem ef_mn_3_0 (m : MethodId) (x0 : Int32) (x1 : Int32) : entryFrame m #[(.int x0), (.int x1)] 2 = mkF m 0 #[iv x0, iv x1] [] := by first | (simp [entryFrame, mkF, argsToLocals, Value.category]; done) | rfl
def Qmn_3_0 (Z : State) (h0 : Heap) (n0 : Nat) (v : Option Value) (h : Heap) (L : List Loc) : Prop := v = some (.int (0 : Int32)) ∧ Fr n0 L ∧ h = h0
set_option maxRecDepth 65536 in
set_option maxHeartbeats 40000000 in
theorem rmmn_3_0 (l : Launch) (Z : State) (a0 : Array Value) (hw : ∀ d ∈ tables_1, d.before a0 Z = true) (ws : List Jvm.Cond) (h0 : Heap) (n0 : Nat) (Z0 : n0 ≤ h0.size) :
    MetFree l (⟨"java/lang/Math", "min", "(II)I"⟩ : MethodName) (head1 (Jvm.Cond.code (⟨"java/lang/Math", "min", "(II)I"⟩ : MethodName) jdk_29_method_69_code 2 (some .int) :: ws) ({ frames := 0, cells := 0, slots := 0, locals := 0 } : Room)) (fun a U => a = #[(.int (3 : Int32)), (.int (0 : Int32))] ∧ Z.Warmed39 U.vm ∧ U.heap = h0) (fun _ _ _ _ _ => True) (fun _ U o U' => ∃ v L, o = .returned v ∧ Qmn_3_0 Z h0 n0 v U'.heap L ∧ FrameEnd U o U' L ({ frames := 0, cells := 0, slots := 0, locals := 0 } : Room).cells ({ frames := 0, cells := 0, slots := 0, locals := 0 } : Room).slots) := by
  refine MetFree.of_bodySF (Jvm.Free.JP.mathPlain rfl (by decide +kernel)) hisR ?_
  intro p e s m args below meth c s₁ Bd hml0 hP hK
  obtain ⟨rfl, hZ, hh⟩ := hP
  have hx := Bd.exec
  have hby := Bd.bytes
  have hml : c.maxLocals = 2 := hml0
  have hown : s.vm.findClass "java/lang/Math" = some m.cls := findClass_of_methodNamed Bd.named
  have hnm := (name_of_methodNamed Bd.named Bd.method).1
  have X0 : Stand p l e ({ frames := 0, cells := 0, slots := 0, locals := 0 } : Room) s m #[(.int (3 : Int32)), (.int (0 : Int32))] below meth c s₁ [] 0 0 := Stand.of_body Bd
  have e0 : s₁.heap = h0 := by rw [← hh, Bd.state]; rfl
  have N0 := Fr.nil n0
  have pre0 : ∀ t, Steps p.tables e below (s₁.setTop (mkF m 0 #[iv 3, iv 0] [])) t → Steps p.tables e below (s₁.setTop (entryFrame m #[(.int (3 : Int32)), (.int (0 : Int32))] 2)) t := fun t k => castTop (ef_mn_3_0 m (3 : Int32) (0 : Int32)) k
  obtain ⟨fs, hr, hrun, hended, hW, hsame⟩ := X0.leave (v := some (.int (0 : Int32))) (fun h => by rw [Bd.returns] at h; cases h)
  refine ⟨_, _, pre0 _ ?_, hrun, hended, _, _, rfl, ?_, ⟨_, rfl⟩, hW, hsame.mono (by decide) (by decide)⟩
  · show sS p e below s₁ m 0 #[iv 3, iv 0] [] _
    refine XS.iloadN X0.here hx rfl (hb hby dA_0) rfl ?_
    refine XS.iloadN X0.here hx rfl (hb hby dA_1) rfl ?_
    refine XS.icmpYes X0.here hx rfl (pc0 := 2) (pc' := 9) rfl (hb hby dA_2) rfl (by decide) (by decide) (by decide) ?_
    refine XS.iloadN X0.here hx rfl (hb hby dA_9) rfl ?_
    show sS p e below s₁ m 10 #[iv 3, iv 0] [(.int (0 : Int32))] _
    exact retI X0 hx Bd.returns (hb hby dA_10) hr
  · show Qmn_3_0 Z h0 n0 _ s₁.heap _
    rw [e0]
    exact ⟨rfl, N0, rfl⟩
theorem ef_mn_3_1 (m : MethodId) (x0 : Int32) (x1 : Int32) : entryFrame m #[(.int x0), (.int x1)] 2 = mkF m 0 #[iv x0, iv x1] [] := by first | (simp [entryFrame, mkF, argsToLocals, Value.category]; done) | rfl
def Qmn_3_1 (Z : State) (h0 : Heap) (n0 : Nat) (v : Option Value) (h : Heap) (L : List Loc) : Prop := v = some (.int (1 : Int32)) ∧ Fr n0 L ∧ h = h0
set_option maxRecDepth 65536 in
set_option maxHeartbeats 40000000 in
theorem rmmn_3_1 (l : Launch) (Z : State) (a0 : Array Value) (hw : ∀ d ∈ tables_1, d.before a0 Z = true) (ws : List Jvm.Cond) (h0 : Heap) (n0 : Nat) (Z0 : n0 ≤ h0.size) :
    MetFree l (⟨"java/lang/Math", "min", "(II)I"⟩ : MethodName) (head1 (Jvm.Cond.code (⟨"java/lang/Math", "min", "(II)I"⟩ : MethodName) jdk_29_method_69_code 2 (some .int) :: ws) ({ frames := 0, cells := 0, slots := 0, locals := 0 } : Room)) (fun a U => a = #[(.int (3 : Int32)), (.int (1 : Int32))] ∧ Z.Warmed39 U.vm ∧ U.heap = h0) (fun _ _ _ _ _ => True) (fun _ U o U' => ∃ v L, o = .returned v ∧ Qmn_3_1 Z h0 n0 v U'.heap L ∧ FrameEnd U o U' L ({ frames := 0, cells := 0, slots := 0, locals := 0 } : Room).cells ({ frames := 0, cells := 0, slots := 0, locals := 0 } : Room).slots) := by
  refine MetFree.of_bodySF (Jvm.Free.JP.mathPlain rfl (by decide +kernel)) hisR ?_
  intro p e s m args below meth c s₁ Bd hml0 hP hK
  obtain ⟨rfl, hZ, hh⟩ := hP
  have hx := Bd.exec
  have hby := Bd.bytes
  have hml : c.maxLocals = 2 := hml0
  have hown : s.vm.findClass "java/lang/Math" = some m.cls := findClass_of_methodNamed Bd.named
  have hnm := (name_of_methodNamed Bd.named Bd.method).1
  have X0 : Stand p l e ({ frames := 0, cells := 0, slots := 0, locals := 0 } : Room) s m #[(.int (3 : Int32)), (.int (1 : Int32))] below meth c s₁ [] 0 0 := Stand.of_body Bd
  have e0 : s₁.heap = h0 := by rw [← hh, Bd.state]; rfl
  have N0 := Fr.nil n0
  have pre0 : ∀ t, Steps p.tables e below (s₁.setTop (mkF m 0 #[iv 3, iv 1] [])) t → Steps p.tables e below (s₁.setTop (entryFrame m #[(.int (3 : Int32)), (.int (1 : Int32))] 2)) t := fun t k => castTop (ef_mn_3_1 m (3 : Int32) (1 : Int32)) k
  obtain ⟨fs, hr, hrun, hended, hW, hsame⟩ := X0.leave (v := some (.int (1 : Int32))) (fun h => by rw [Bd.returns] at h; cases h)
  refine ⟨_, _, pre0 _ ?_, hrun, hended, _, _, rfl, ?_, ⟨_, rfl⟩, hW, hsame.mono (by decide) (by decide)⟩
  · show sS p e below s₁ m 0 #[iv 3, iv 1] [] _
    refine XS.iloadN X0.here hx rfl (hb hby dA_0) rfl ?_
    refine XS.iloadN X0.here hx rfl (hb hby dA_1) rfl ?_
    refine XS.icmpYes X0.here hx rfl (pc0 := 2) (pc' := 9) rfl (hb hby dA_2) rfl (by decide) (by decide) (by decide) ?_
    refine XS.iloadN X0.here hx rfl (hb hby dA_9) rfl ?_
    show sS p e below s₁ m 10 #[iv 3, iv 1] [(.int (1 : Int32))] _
    exact retI X0 hx Bd.returns (hb hby dA_10) hr
  · show Qmn_3_1 Z h0 n0 _ s₁.heap _
    rw [e0]
    exact ⟨rfl, N0, rfl⟩
theorem ef_mn_3_2 (m : MethodId) (x0 : Int32) (x1 : Int32) : entryFrame m #[(.int x0), (.int x1)] 2 = mkF m 0 #[iv x0, iv x1] [] := by first | (simp [entryFrame, mkF, argsToLocals, Value.category]; done) | rfl
def Qmn_3_2 (Z : State) (h0 : Heap) (n0 : Nat) (v : Option Value) (h : Heap) (L : List Loc) : Prop := v = some (.int (2 : Int32)) ∧ Fr n0 L ∧ h = h0
set_option maxRecDepth 65536 in
set_option maxHeartbeats 40000000 in
theorem rmmn_3_2 (l : Launch) (Z : State) (a0 : Array Value) (hw : ∀ d ∈ tables_1, d.before a0 Z = true) (ws : List Jvm.Cond) (h0 : Heap) (n0 : Nat) (Z0 : n0 ≤ h0.size) :
    MetFree l (⟨"java/lang/Math", "min", "(II)I"⟩ : MethodName) (head1 (Jvm.Cond.code (⟨"java/lang/Math", "min", "(II)I"⟩ : MethodName) jdk_29_method_69_code 2 (some .int) :: ws) ({ frames := 0, cells := 0, slots := 0, locals := 0 } : Room)) (fun a U => a = #[(.int (3 : Int32)), (.int (2 : Int32))] ∧ Z.Warmed39 U.vm ∧ U.heap = h0) (fun _ _ _ _ _ => True) (fun _ U o U' => ∃ v L, o = .returned v ∧ Qmn_3_2 Z h0 n0 v U'.heap L ∧ FrameEnd U o U' L ({ frames := 0, cells := 0, slots := 0, locals := 0 } : Room).cells ({ frames := 0, cells := 0, slots := 0, locals := 0 } : Room).slots) := by
  refine MetFree.of_bodySF (Jvm.Free.JP.mathPlain rfl (by decide +kernel)) hisR ?_
  intro p e s m args below meth c s₁ Bd hml0 hP hK
  obtain ⟨rfl, hZ, hh⟩ := hP
  have hx := Bd.exec
  have hby := Bd.bytes
  have hml : c.maxLocals = 2 := hml0
  have hown : s.vm.findClass "java/lang/Math" = some m.cls := findClass_of_methodNamed Bd.named
  have hnm := (name_of_methodNamed Bd.named Bd.method).1
  have X0 : Stand p l e ({ frames := 0, cells := 0, slots := 0, locals := 0 } : Room) s m #[(.int (3 : Int32)), (.int (2 : Int32))] below meth c s₁ [] 0 0 := Stand.of_body Bd
  have e0 : s₁.heap = h0 := by rw [← hh, Bd.state]; rfl
  have N0 := Fr.nil n0
  have pre0 : ∀ t, Steps p.tables e below (s₁.setTop (mkF m 0 #[iv 3, iv 2] [])) t → Steps p.tables e below (s₁.setTop (entryFrame m #[(.int (3 : Int32)), (.int (2 : Int32))] 2)) t := fun t k => castTop (ef_mn_3_2 m (3 : Int32) (2 : Int32)) k
  obtain ⟨fs, hr, hrun, hended, hW, hsame⟩ := X0.leave (v := some (.int (2 : Int32))) (fun h => by rw [Bd.returns] at h; cases h)
  refine ⟨_, _, pre0 _ ?_, hrun, hended, _, _, rfl, ?_, ⟨_, rfl⟩, hW, hsame.mono (by decide) (by decide)⟩
  · show sS p e below s₁ m 0 #[iv 3, iv 2] [] _
    refine XS.iloadN X0.here hx rfl (hb hby dA_0) rfl ?_
    refine XS.iloadN X0.here hx rfl (hb hby dA_1) rfl ?_
    refine XS.icmpYes X0.here hx rfl (pc0 := 2) (pc' := 9) rfl (hb hby dA_2) rfl (by decide) (by decide) (by decide) ?_
    refine XS.iloadN X0.here hx rfl (hb hby dA_9) rfl ?_
    show sS p e below s₁ m 10 #[iv 3, iv 2] [(.int (2 : Int32))] _
    exact retI X0 hx Bd.returns (hb hby dA_10) hr
  · show Qmn_3_2 Z h0 n0 _ s₁.heap _
    rw [e0]
    exact ⟨rfl, N0, rfl⟩
theorem ef_mn_3_3 (m : MethodId) (x0 : Int32) (x1 : Int32) : entryFrame m #[(.int x0), (.int x1)] 2 = mkF m 0 #[iv x0, iv x1] [] := by first | (simp [entryFrame, mkF, argsToLocals, Value.category]; done) | rfl
def Qmn_3_3 (Z : State) (h0 : Heap) (n0 : Nat) (v : Option Value) (h : Heap) (L : List Loc) : Prop := v = some (.int (3 : Int32)) ∧ Fr n0 L ∧ h = h0
set_option maxRecDepth 65536 in
set_option maxHeartbeats 40000000 in
theorem rmmn_3_3 (l : Launch) (Z : State) (a0 : Array Value) (hw : ∀ d ∈ tables_1, d.before a0 Z = true) (ws : List Jvm.Cond) (h0 : Heap) (n0 : Nat) (Z0 : n0 ≤ h0.size) :
    MetFree l (⟨"java/lang/Math", "min", "(II)I"⟩ : MethodName) (head1 (Jvm.Cond.code (⟨"java/lang/Math", "min", "(II)I"⟩ : MethodName) jdk_29_method_69_code 2 (some .int) :: ws) ({ frames := 0, cells := 0, slots := 0, locals := 0 } : Room)) (fun a U => a = #[(.int (3 : Int32)), (.int (3 : Int32))] ∧ Z.Warmed39 U.vm ∧ U.heap = h0) (fun _ _ _ _ _ => True) (fun _ U o U' => ∃ v L, o = .returned v ∧ Qmn_3_3 Z h0 n0 v U'.heap L ∧ FrameEnd U o U' L ({ frames := 0, cells := 0, slots := 0, locals := 0 } : Room).cells ({ frames := 0, cells := 0, slots := 0, locals := 0 } : Room).slots) := by
  refine MetFree.of_bodySF (Jvm.Free.JP.mathPlain rfl (by decide +kernel)) hisR ?_
  intro p e s m args below meth c s₁ Bd hml0 hP hK
  obtain ⟨rfl, hZ, hh⟩ := hP
  have hx := Bd.exec
  have hby := Bd.bytes
  have hml : c.maxLocals = 2 := hml0
  have hown : s.vm.findClass "java/lang/Math" = some m.cls := findClass_of_methodNamed Bd.named
  have hnm := (name_of_methodNamed Bd.named Bd.method).1
  have X0 : Stand p l e ({ frames := 0, cells := 0, slots := 0, locals := 0 } : Room) s m #[(.int (3 : Int32)), (.int (3 : Int32))] below meth c s₁ [] 0 0 := Stand.of_body Bd
  have e0 : s₁.heap = h0 := by rw [← hh, Bd.state]; rfl
  have N0 := Fr.nil n0
  have pre0 : ∀ t, Steps p.tables e below (s₁.setTop (mkF m 0 #[iv 3, iv 3] [])) t → Steps p.tables e below (s₁.setTop (entryFrame m #[(.int (3 : Int32)), (.int (3 : Int32))] 2)) t := fun t k => castTop (ef_mn_3_3 m (3 : Int32) (3 : Int32)) k
  obtain ⟨fs, hr, hrun, hended, hW, hsame⟩ := X0.leave (v := some (.int (3 : Int32))) (fun h => by rw [Bd.returns] at h; cases h)
  refine ⟨_, _, pre0 _ ?_, hrun, hended, _, _, rfl, ?_, ⟨_, rfl⟩, hW, hsame.mono (by decide) (by decide)⟩
  · show sS p e below s₁ m 0 #[iv 3, iv 3] [] _
    refine XS.iloadN X0.here hx rfl (hb hby dA_0) rfl ?_
    refine XS.iloadN X0.here hx rfl (hb hby dA_1) rfl ?_
    refine XS.icmpNo X0.here hx rfl (hb hby dA_2) rfl (by decide) ?_
    refine XS.iloadN X0.here hx rfl (hb hby dA_5) rfl ?_
    refine XS.goto X0.here hx rfl (pc0 := 6) (pc' := 10) rfl (hb hby dA_6) (by decide) (by decide) ?_
    show sS p e below s₁ m 10 #[iv 3, iv 3] [(.int (3 : Int32))] _
    exact retI X0 hx Bd.returns (hb hby dA_10) hr
  · show Qmn_3_3 Z h0 n0 _ s₁.heap _
    rw [e0]
    exact ⟨rfl, N0, rfl⟩
theorem ef_mn_3_4 (m : MethodId) (x0 : Int32) (x1 : Int32) : entryFrame m #[(.int x0), (.int x1)] 2 = mkF m 0 #[iv x0, iv x1] [] := by first | (simp [entryFrame, mkF, argsToLocals, Value.category]; done) | rfl
def Qmn_3_4 (Z : State) (h0 : Heap) (n0 : Nat) (v : Option Value) (h : Heap) (L : List Loc) : Prop := v = some (.int (3 : Int32)) ∧ Fr n0 L ∧ h = h0
set_option maxRecDepth 65536 in
set_option maxHeartbeats 40000000 in
theorem rmmn_3_4 (l : Launch) (Z : State) (a0 : Array Value) (hw : ∀ d ∈ tables_1, d.before a0 Z = true) (ws : List Jvm.Cond) (h0 : Heap) (n0 : Nat) (Z0 : n0 ≤ h0.size) :
    MetFree l (⟨"java/lang/Math", "min", "(II)I"⟩ : MethodName) (head1 (Jvm.Cond.code (⟨"java/lang/Math", "min", "(II)I"⟩ : MethodName) jdk_29_method_69_code 2 (some .int) :: ws) ({ frames := 0, cells := 0, slots := 0, locals := 0 } : Room)) (fun a U => a = #[(.int (3 : Int32)), (.int (4 : Int32))] ∧ Z.Warmed39 U.vm ∧ U.heap = h0) (fun _ _ _ _ _ => True) (fun _ U o U' => ∃ v L, o = .returned v ∧ Qmn_3_4 Z h0 n0 v U'.heap L ∧ FrameEnd U o U' L ({ frames := 0, cells := 0, slots := 0, locals := 0 } : Room).cells ({ frames := 0, cells := 0, slots := 0, locals := 0 } : Room).slots) := by
  refine MetFree.of_bodySF (Jvm.Free.JP.mathPlain rfl (by decide +kernel)) hisR ?_
  intro p e s m args below meth c s₁ Bd hml0 hP hK
  obtain ⟨rfl, hZ, hh⟩ := hP
  have hx := Bd.exec
  have hby := Bd.bytes
  have hml : c.maxLocals = 2 := hml0
  have hown : s.vm.findClass "java/lang/Math" = some m.cls := findClass_of_methodNamed Bd.named
  have hnm := (name_of_methodNamed Bd.named Bd.method).1
  have X0 : Stand p l e ({ frames := 0, cells := 0, slots := 0, locals := 0 } : Room) s m #[(.int (3 : Int32)), (.int (4 : Int32))] below meth c s₁ [] 0 0 := Stand.of_body Bd
  have e0 : s₁.heap = h0 := by rw [← hh, Bd.state]; rfl
  have N0 := Fr.nil n0
  have pre0 : ∀ t, Steps p.tables e below (s₁.setTop (mkF m 0 #[iv 3, iv 4] [])) t → Steps p.tables e below (s₁.setTop (entryFrame m #[(.int (3 : Int32)), (.int (4 : Int32))] 2)) t := fun t k => castTop (ef_mn_3_4 m (3 : Int32) (4 : Int32)) k
  obtain ⟨fs, hr, hrun, hended, hW, hsame⟩ := X0.leave (v := some (.int (3 : Int32))) (fun h => by rw [Bd.returns] at h; cases h)
  refine ⟨_, _, pre0 _ ?_, hrun, hended, _, _, rfl, ?_, ⟨_, rfl⟩, hW, hsame.mono (by decide) (by decide)⟩
  · show sS p e below s₁ m 0 #[iv 3, iv 4] [] _
    refine XS.iloadN X0.here hx rfl (hb hby dA_0) rfl ?_
    refine XS.iloadN X0.here hx rfl (hb hby dA_1) rfl ?_
    refine XS.icmpNo X0.here hx rfl (hb hby dA_2) rfl (by decide) ?_
    refine XS.iloadN X0.here hx rfl (hb hby dA_5) rfl ?_
    refine XS.goto X0.here hx rfl (pc0 := 6) (pc' := 10) rfl (hb hby dA_6) (by decide) (by decide) ?_
    show sS p e below s₁ m 10 #[iv 3, iv 4] [(.int (3 : Int32))] _
    exact retI X0 hx Bd.returns (hb hby dA_10) hr
  · show Qmn_3_4 Z h0 n0 _ s₁.heap _
    rw [e0]
    exact ⟨rfl, N0, rfl⟩
theorem ef_mn_3_5 (m : MethodId) (x0 : Int32) (x1 : Int32) : entryFrame m #[(.int x0), (.int x1)] 2 = mkF m 0 #[iv x0, iv x1] [] := by first | (simp [entryFrame, mkF, argsToLocals, Value.category]; done) | rfl
def Qmn_3_5 (Z : State) (h0 : Heap) (n0 : Nat) (v : Option Value) (h : Heap) (L : List Loc) : Prop := v = some (.int (3 : Int32)) ∧ Fr n0 L ∧ h = h0
set_option maxRecDepth 65536 in
set_option maxHeartbeats 40000000 in
theorem rmmn_3_5 (l : Launch) (Z : State) (a0 : Array Value) (hw : ∀ d ∈ tables_1, d.before a0 Z = true) (ws : List Jvm.Cond) (h0 : Heap) (n0 : Nat) (Z0 : n0 ≤ h0.size) :
    MetFree l (⟨"java/lang/Math", "min", "(II)I"⟩ : MethodName) (head1 (Jvm.Cond.code (⟨"java/lang/Math", "min", "(II)I"⟩ : MethodName) jdk_29_method_69_code 2 (some .int) :: ws) ({ frames := 0, cells := 0, slots := 0, locals := 0 } : Room)) (fun a U => a = #[(.int (3 : Int32)), (.int (5 : Int32))] ∧ Z.Warmed39 U.vm ∧ U.heap = h0) (fun _ _ _ _ _ => True) (fun _ U o U' => ∃ v L, o = .returned v ∧ Qmn_3_5 Z h0 n0 v U'.heap L ∧ FrameEnd U o U' L ({ frames := 0, cells := 0, slots := 0, locals := 0 } : Room).cells ({ frames := 0, cells := 0, slots := 0, locals := 0 } : Room).slots) := by
  refine MetFree.of_bodySF (Jvm.Free.JP.mathPlain rfl (by decide +kernel)) hisR ?_
  intro p e s m args below meth c s₁ Bd hml0 hP hK
  obtain ⟨rfl, hZ, hh⟩ := hP
  have hx := Bd.exec
  have hby := Bd.bytes
  have hml : c.maxLocals = 2 := hml0
  have hown : s.vm.findClass "java/lang/Math" = some m.cls := findClass_of_methodNamed Bd.named
  have hnm := (name_of_methodNamed Bd.named Bd.method).1
  have X0 : Stand p l e ({ frames := 0, cells := 0, slots := 0, locals := 0 } : Room) s m #[(.int (3 : Int32)), (.int (5 : Int32))] below meth c s₁ [] 0 0 := Stand.of_body Bd
  have e0 : s₁.heap = h0 := by rw [← hh, Bd.state]; rfl
  have N0 := Fr.nil n0
  have pre0 : ∀ t, Steps p.tables e below (s₁.setTop (mkF m 0 #[iv 3, iv 5] [])) t → Steps p.tables e below (s₁.setTop (entryFrame m #[(.int (3 : Int32)), (.int (5 : Int32))] 2)) t := fun t k => castTop (ef_mn_3_5 m (3 : Int32) (5 : Int32)) k
  obtain ⟨fs, hr, hrun, hended, hW, hsame⟩ := X0.leave (v := some (.int (3 : Int32))) (fun h => by rw [Bd.returns] at h; cases h)
  refine ⟨_, _, pre0 _ ?_, hrun, hended, _, _, rfl, ?_, ⟨_, rfl⟩, hW, hsame.mono (by decide) (by decide)⟩
  · show sS p e below s₁ m 0 #[iv 3, iv 5] [] _
    refine XS.iloadN X0.here hx rfl (hb hby dA_0) rfl ?_
    refine XS.iloadN X0.here hx rfl (hb hby dA_1) rfl ?_
    refine XS.icmpNo X0.here hx rfl (hb hby dA_2) rfl (by decide) ?_
    refine XS.iloadN X0.here hx rfl (hb hby dA_5) rfl ?_
    refine XS.goto X0.here hx rfl (pc0 := 6) (pc' := 10) rfl (hb hby dA_6) (by decide) (by decide) ?_
    show sS p e below s₁ m 10 #[iv 3, iv 5] [(.int (3 : Int32))] _
    exact retI X0 hx Bd.returns (hb hby dA_10) hr
  · show Qmn_3_5 Z h0 n0 _ s₁.heap _
    rw [e0]
    exact ⟨rfl, N0, rfl⟩
theorem pn_0 : plainName "java/lang/Double" = true := by first | (simp [plainName, overriddenIn]; done) | decide +kernel
theorem dB_0 : decode jdk_117_method_6_code 0 = .ok (.dload_n 0, 1) := by decide +kernel
theorem dB_1 : decode jdk_117_method_6_code 1 = .ok (.dload_n 0, 1) := by decide +kernel
theorem dB_2 : decode jdk_117_method_6_code 2 = .ok (.dcmp .l, 1) := by decide +kernel
theorem dB_3 : decode jdk_117_method_6_code 3 = .ok (.ifCond .eq 7, 3) := by decide +kernel
theorem dB_6 : decode jdk_117_method_6_code 6 = .ok (.iconst 1, 1) := by decide +kernel
theorem dB_7 : decode jdk_117_method_6_code 7 = .ok (.goto 4, 3) := by decide +kernel
theorem dB_10 : decode jdk_117_method_6_code 10 = .ok (.iconst 0, 1) := by decide +kernel
theorem dB_11 : decode jdk_117_method_6_code 11 = .ok (.ireturn, 1) := by decide +kernel
theorem ef_nan (m : MethodId) (x0 : UInt64) : entryFrame m #[(.double x0)] 2 = mkF m 0 #[.val (.double x0), .second] [] := by first | (simp [entryFrame, mkF, argsToLocals, Value.category]; done) | rfl
def Qnan (Z : State) (px : UInt64) (h0 : Heap) (n0 : Nat) (v : Option Value) (h : Heap) (L : List Loc) : Prop := v = some (.int (0 : Int32)) ∧ Fr n0 L ∧ h = h0
set_option maxRecDepth 65536 in
set_option maxHeartbeats 40000000 in
theorem rmnan (l : Launch) (Z : State) (a0 : Array Value) (hw : ∀ d ∈ tables_1, d.before a0 Z = true) (ws : List Jvm.Cond) (px : UInt64) (h0 : Heap) (n0 : Nat) (Z0 : n0 ≤ h0.size) (hc3 : ifCond.holds .eq (cmpValue (FP.dcmp px px) .l) = true) :
    MetFree l (⟨"java/lang/Double", "isNaN", "(D)Z"⟩ : MethodName) (head1 (Jvm.Cond.code (⟨"java/lang/Double", "isNaN", "(D)Z"⟩ : MethodName) jdk_117_method_6_code 2 (some .boolean) :: ws) ({ frames := 0, cells := 0, slots := 0, locals := 0 } : Room)) (fun a U => a = #[(.double px)] ∧ Z.Warmed39 U.vm ∧ U.heap = h0) (fun _ _ _ _ _ => True) (fun _ U o U' => ∃ v L, o = .returned v ∧ Qnan Z px h0 n0 v U'.heap L ∧ FrameEnd U o U' L ({ frames := 0, cells := 0, slots := 0, locals := 0 } : Room).cells ({ frames := 0, cells := 0, slots := 0, locals := 0 } : Room).slots) := by
  refine MetFree.of_bodySF (plainFor_of_name pn_0) hisR ?_
  intro p e s m args below meth c s₁ Bd hml0 hP hK
  obtain ⟨rfl, hZ, hh⟩ := hP
  have hx := Bd.exec
  have hby := Bd.bytes
  have hml : c.maxLocals = 2 := hml0
  have hown : s.vm.findClass "java/lang/Double" = some m.cls := findClass_of_methodNamed Bd.named
  have hnm := (name_of_methodNamed Bd.named Bd.method).1
  have X0 : Stand p l e ({ frames := 0, cells := 0, slots := 0, locals := 0 } : Room) s m #[(.double px)] below meth c s₁ [] 0 0 := Stand.of_body Bd
  have e0 : s₁.heap = h0 := by rw [← hh, Bd.state]; rfl
  have N0 := Fr.nil n0
  have pre0 : ∀ t, Steps p.tables e below (s₁.setTop (mkF m 0 #[.val (.double px), .second] [])) t → Steps p.tables e below (s₁.setTop (entryFrame m #[(.double px)] 2)) t := fun t k => castTop (ef_nan m px) k
  obtain ⟨fs, hr, hrun, hended, hW, hsame⟩ := X0.leave (v := some (.int (nar .boolean (0 : Int32)))) (fun h => by rw [Bd.returns] at h; cases h)
  refine ⟨_, _, pre0 _ ?_, hrun, hended, _, _, rfl, ?_, ⟨_, rfl⟩, hW, hsame.mono (by decide) (by decide)⟩
  · show sS p e below s₁ m 0 #[.val (.double px), .second] [] _
    refine XS.dloadN X0.here hx rfl (hb hby dB_0) rfl ?_
    refine XS.dloadN X0.here hx rfl (hb hby dB_1) rfl ?_
    refine XS.dcmpS X0.here hx rfl (hb hby dB_2) rfl rfl ?_
    refine XS.ifYes X0.here hx rfl (pc0 := 3) (pc' := 10) rfl (hb hby dB_3) rfl hc3 (by decide) (by decide) ?_
    refine XS.iconst X0.here hx rfl (hb hby dB_10) ?_
    show sS p e below s₁ m 11 #[.val (.double px), .second] [(.int (0 : Int32))] _
    exact retN X0 hx (t := .boolean) Bd.returns (by simp) (hb hby dB_11) hr
  · show Qnan Z px h0 n0 _ s₁.heap _
    rw [e0]
    exact ⟨rfl, N0, rfl⟩
theorem pd_0 : parseMethodDescriptor "(D)Z" = some ⟨[.double], some .boolean⟩ := by decide +kernel
theorem dC_0 : decode jdk_117_method_23_code 0 = .ok (.dload_n 0, 1) := by decide +kernel
theorem dC_1 : decode jdk_117_method_23_code 1 = .ok (.invokestatic 122, 3) := by decide +kernel
theorem dC_4 : decode jdk_117_method_23_code 4 = .ok (.ifCond .ne 8, 3) := by decide +kernel
theorem dC_7 : decode jdk_117_method_23_code 7 = .ok (.dload_n 0, 1) := by decide +kernel
theorem dC_8 : decode jdk_117_method_23_code 8 = .ok (.invokestatic 134, 3) := by decide +kernel
theorem dC_11 : decode jdk_117_method_23_code 11 = .ok (.lreturn, 1) := by decide +kernel
theorem dC_12 : decode jdk_117_method_23_code 12 = .ok (.ldc2_w 137, 3) := by decide +kernel
theorem dC_15 : decode jdk_117_method_23_code 15 = .ok (.lreturn, 1) := by decide +kernel
theorem ef_dlb (m : MethodId) (x0 : UInt64) : entryFrame m #[(.double x0)] 2 = mkF m 0 #[.val (.double x0), .second] [] := by first | (simp [entryFrame, mkF, argsToLocals, Value.category]; done) | rfl
def Qdlb (Z : State) (px : UInt64) (h0 : Heap) (n0 : Nat) (v : Option Value) (h : Heap) (L : List Loc) : Prop := v = some (.long (px.toInt64)) ∧ Fr n0 L ∧ h = h0
set_option maxRecDepth 65536 in
set_option maxHeartbeats 40000000 in
theorem rmdlb (l : Launch) (Z : State) (a0 : Array Value) (hw : ∀ d ∈ tables_1, d.before a0 Z = true) (ws : List Jvm.Cond) (px : UInt64) (h0 : Heap) (n0 : Nat) (Z0 : n0 ≤ h0.size) (hc3 : ifCond.holds .eq (cmpValue (FP.dcmp px px) .l) = true) :
    MetFree l (⟨"java/lang/Double", "doubleToLongBits", "(D)J"⟩ : MethodName) (head1 (Jvm.Cond.code (⟨"java/lang/Double", "doubleToLongBits", "(D)J"⟩ : MethodName) jdk_117_method_23_code 2 (some .long) :: ws) ({ frames := 1, cells := 0, slots := 0, locals := 15 } : Room)) (fun a U => a = #[(.double px)] ∧ Z.Warmed39 U.vm ∧ U.heap = h0) (fun _ _ _ _ _ => True) (fun _ U o U' => ∃ v L, o = .returned v ∧ Qdlb Z px h0 n0 v U'.heap L ∧ FrameEnd U o U' L ({ frames := 1, cells := 0, slots := 0, locals := 15 } : Room).cells ({ frames := 1, cells := 0, slots := 0, locals := 15 } : Room).slots) := by
  refine MetFree.of_bodySF (plainFor_of_name pn_0) hisR ?_
  intro p e s m args below meth c s₁ Bd hml0 hP hK
  obtain ⟨rfl, hZ, hh⟩ := hP
  have hx := Bd.exec
  have hby := Bd.bytes
  have hml : c.maxLocals = 2 := hml0
  have hown : s.vm.findClass "java/lang/Double" = some m.cls := findClass_of_methodNamed Bd.named
  have hnm := (name_of_methodNamed Bd.named Bd.method).1
  have X0 : Stand p l e ({ frames := 1, cells := 0, slots := 0, locals := 15 } : Room) s m #[(.double px)] below meth c s₁ [] 0 0 := Stand.of_body Bd
  have e0 : s₁.heap = h0 := by rw [← hh, Bd.state]; rfl
  have N0 := Fr.nil n0
  have pre0 : ∀ t, Steps p.tables e below (s₁.setTop (mkF m 0 #[.val (.double px), .second] [])) t → Steps p.tables e below (s₁.setTop (entryFrame m #[(.double px)] 2)) t := fun t k => castTop (ef_dlb m px) k
  obtain ⟨_, _, ⟨T1, L1, k1, n1⟩, -, X1, ⟨Lc1, hQ1, l1, y1, z1⟩, st1⟩ := Jvm.LawKit.callS X0 hx (y := ⟨"java/lang/Double", "isNaN", "(D)Z"⟩) hown (mvT hZ (wK hw (i := 35) rfl)) (mvT hZ (wK hw (i := 36) rfl)) (mvT hZ (wK hw (i := 20) rfl)) (mvT hZ (wK hw (i := 37) rfl)) (by decide) (backOf (W := 0) (rmnan l Z a0 hw [] px h0 n0 Z0 hc3) hZ (wK hw (i := 37) rfl) (wK hw (i := 20) rfl) (by decide) (by decide)) (g := (mkF m 1 #[.val (.double px), .second] [(.double px)])) rfl (by rw [hml]; rfl) (argsL := [(.double px)]) (rest := []) (lenOf pd_0 rfl) rfl (Nat.le_of_eq rfl) (hb hby dC_1) (fun _ _ => ⟨rfl, e0, (by decide : 0 + 0 ≤ _), (by decide : 0 + 0 ≤ _)⟩)
  dsimp only [Pt.U, Pt.locs, Pt.cells, Pt.slots] at X1 l1 y1 z1 st1 hQ1
  subst l1 y1 z1
  obtain ⟨rfl, N1q, eh1⟩ := hQ1
  have N1 := Fr.app N0 N1q
  obtain ⟨vm2, X2, st2⟩ := X1.doubleToRawLongBits hx hown (mvT hZ (wK hw (i := 38) rfl)) (mvT hZ (wK hw (i := 40) rfl)) (mvT hZ (wK hw (i := 39) rfl)) (mvT hZ (wK hw (i := 20) rfl)) (g := (mkF m 8 #[.val (.double px), .second] [(.double px)])) rfl (by rw [hml]; rfl) rfl (hb hby dC_8) (by decide) (by show 2 * 0 + 0 + (nativeFrameWords "java/lang/Double" "doubleToRawLongBits" 2 + 11) ≤ _; decide +kernel)
  have e2 : (T1.setVm vm2).heap = h0 := eh1
  obtain ⟨fs, hr, hrun, hended, hW, hsame⟩ := X2.leave (v := some (.long (px.toInt64))) (fun h => by rw [Bd.returns] at h; cases h)
  refine ⟨_, _, pre0 _ ?_, hrun, hended, _, _, rfl, ?_, ⟨_, rfl⟩, hW, hsame.mono (by decide) (by decide)⟩
  · show sS p e below s₁ m 0 #[.val (.double px), .second] [] _
    refine XS.dloadN X0.here hx rfl (hb hby dC_0) rfl ?_
    show sS p e below s₁ m 1 #[.val (.double px), .second] [(.double px)] _
    refine st1 _ ?_
    show sS p e below T1 m 4 #[.val (.double px), .second] [(.int (0 : Int32))] _
    refine XS.ifNo X1.here hx rfl (hb hby dC_4) rfl (by decide) ?_
    refine XS.dloadN X1.here hx rfl (hb hby dC_7) rfl ?_
    show sS p e below T1 m 8 #[.val (.double px), .second] [(.double px)] _
    refine st2 _ ?_
    show sS p e below (T1.setVm vm2) m 11 #[.val (.double px), .second] [(.long (px.toInt64))] _
    exact retOut X2 hx Bd.returns rfl (Or.inr (Or.inl ⟨rfl, rfl, _, rfl⟩)) (hb hby dC_11) hr
  · show Qdlb Z px h0 n0 _ (T1.setVm vm2).heap _
    rw [e2]
    exact ⟨rfl, N1, rfl⟩
theorem pd_1 : parseMethodDescriptor "(D)J" = some ⟨[.double], some .long⟩ := by decide +kernel
theorem dD_0 : decode jdk_117_method_27_code 0 = .ok (.dload_n 0, 1) := by decide +kernel
theorem dD_1 : decode jdk_117_method_27_code 1 = .ok (.dload_n 2, 1) := by decide +kernel
theorem dD_2 : decode jdk_117_method_27_code 2 = .ok (.dcmp .g, 1) := by decide +kernel
theorem dD_3 : decode jdk_117_method_27_code 3 = .ok (.ifCond .ge 5, 3) := by decide +kernel
theorem dD_6 : decode jdk_117_method_27_code 6 = .ok (.iconst (-1), 1) := by decide +kernel
theorem dD_7 : decode jdk_117_method_27_code 7 = .ok (.ireturn, 1) := by decide +kernel
theorem dD_8 : decode jdk_117_method_27_code 8 = .ok (.dload_n 0, 1) := by decide +kernel
theorem dD_9 : decode jdk_117_method_27_code 9 = .ok (.dload_n 2, 1) := by decide +kernel
theorem dD_10 : decode jdk_117_method_27_code 10 = .ok (.dcmp .l, 1) := by decide +kernel
theorem dD_11 : decode jdk_117_method_27_code 11 = .ok (.ifCond .le 5, 3) := by decide +kernel
theorem dD_14 : decode jdk_117_method_27_code 14 = .ok (.iconst 1, 1) := by decide +kernel
theorem dD_15 : decode jdk_117_method_27_code 15 = .ok (.ireturn, 1) := by decide +kernel
theorem dD_16 : decode jdk_117_method_27_code 16 = .ok (.dload_n 0, 1) := by decide +kernel
theorem dD_17 : decode jdk_117_method_27_code 17 = .ok (.invokestatic 46, 3) := by decide +kernel
theorem dD_20 : decode jdk_117_method_27_code 20 = .ok (.lstore 4, 2) := by decide +kernel
theorem dD_22 : decode jdk_117_method_27_code 22 = .ok (.dload_n 2, 1) := by decide +kernel
theorem dD_23 : decode jdk_117_method_27_code 23 = .ok (.invokestatic 46, 3) := by decide +kernel
theorem dD_26 : decode jdk_117_method_27_code 26 = .ok (.lstore 6, 2) := by decide +kernel
theorem dD_28 : decode jdk_117_method_27_code 28 = .ok (.lload 4, 2) := by decide +kernel
theorem dD_30 : decode jdk_117_method_27_code 30 = .ok (.lload 6, 2) := by decide +kernel
theorem dD_32 : decode jdk_117_method_27_code 32 = .ok (.lcmp, 1) := by decide +kernel
theorem dD_33 : decode jdk_117_method_27_code 33 = .ok (.ifCond .ne 7, 3) := by decide +kernel
theorem dD_36 : decode jdk_117_method_27_code 36 = .ok (.iconst 0, 1) := by decide +kernel
theorem dD_37 : decode jdk_117_method_27_code 37 = .ok (.goto 16, 3) := by decide +kernel
theorem dD_40 : decode jdk_117_method_27_code 40 = .ok (.lload 4, 2) := by decide +kernel
theorem dD_42 : decode jdk_117_method_27_code 42 = .ok (.lload 6, 2) := by decide +kernel
theorem dD_44 : decode jdk_117_method_27_code 44 = .ok (.lcmp, 1) := by decide +kernel
theorem dD_45 : decode jdk_117_method_27_code 45 = .ok (.ifCond .ge 7, 3) := by decide +kernel
theorem dD_48 : decode jdk_117_method_27_code 48 = .ok (.iconst (-1), 1) := by decide +kernel
theorem dD_49 : decode jdk_117_method_27_code 49 = .ok (.goto 4, 3) := by decide +kernel
theorem dD_52 : decode jdk_117_method_27_code 52 = .ok (.iconst 1, 1) := by decide +kernel
theorem dD_53 : decode jdk_117_method_27_code 53 = .ok (.ireturn, 1) := by decide +kernel
theorem ef_dc (m : MethodId) (x0 : UInt64) (x1 : UInt64) : entryFrame m #[(.double x0), (.double x1)] 8 = mkF m 0 #[.val (.double x0), .second, .val (.double x1), .second, .unset, .unset, .unset, .unset] [] := by first | (simp [entryFrame, mkF, argsToLocals, Value.category]; done) | rfl
def Qdc (Z : State) (xa xb : Int32) (h0 : Heap) (n0 : Nat) (v : Option Value) (h : Heap) (L : List Loc) : Prop := v = some (.int (own_dc xa xb)) ∧ Fr n0 L ∧ h = h0
set_option maxRecDepth 65536 in
set_option maxHeartbeats 40000000 in
theorem rmdc (l : Launch) (Z : State) (a0 : Array Value) (hw : ∀ d ∈ tables_1, d.before a0 Z = true) (ws : List Jvm.Cond) (xa xb : Int32) (h0 : Heap) (n0 : Nat) (Z0 : n0 ≤ h0.size) :
    MetFree l (⟨"java/lang/Double", "compare", "(DD)I"⟩ : MethodName) (head1 (Jvm.Cond.code (⟨"java/lang/Double", "compare", "(DD)I"⟩ : MethodName) jdk_117_method_27_code 8 (some .int) :: ws) ({ frames := 2, cells := 0, slots := 0, locals := 32 } : Room)) (fun a U => a = #[(.double (FP.i2d xa)), (.double (FP.i2d xb))] ∧ Z.Warmed39 U.vm ∧ U.heap = h0) (fun _ _ _ _ _ => True) (fun _ U o U' => ∃ v L, o = .returned v ∧ Qdc Z xa xb h0 n0 v U'.heap L ∧ FrameEnd U o U' L ({ frames := 2, cells := 0, slots := 0, locals := 32 } : Room).cells ({ frames := 2, cells := 0, slots := 0, locals := 32 } : Room).slots) := by
  refine MetFree.of_bodySF (plainFor_of_name pn_0) hisR ?_
  intro p e s m args below meth c s₁ Bd hml0 hP hK
  obtain ⟨rfl, hZ, hh⟩ := hP
  have hx := Bd.exec
  have hby := Bd.bytes
  have hml : c.maxLocals = 8 := hml0
  have hown : s.vm.findClass "java/lang/Double" = some m.cls := findClass_of_methodNamed Bd.named
  have hnm := (name_of_methodNamed Bd.named Bd.method).1
  have X0 : Stand p l e ({ frames := 2, cells := 0, slots := 0, locals := 32 } : Room) s m #[(.double (FP.i2d xa)), (.double (FP.i2d xb))] below meth c s₁ [] 0 0 := Stand.of_body Bd
  have e0 : s₁.heap = h0 := by rw [← hh, Bd.state]; rfl
  have N0 := Fr.nil n0
  have pre0 : ∀ t, Steps p.tables e below (s₁.setTop (mkF m 0 #[.val (.double (FP.i2d xa)), .second, .val (.double (FP.i2d xb)), .second, .unset, .unset, .unset, .unset] [])) t → Steps p.tables e below (s₁.setTop (entryFrame m #[(.double (FP.i2d xa)), (.double (FP.i2d xb))] 8)) t := fun t k => castTop (ef_dc m (FP.i2d xa) (FP.i2d xb)) k
  rcases own_cmp3 xa.toInt xb.toInt with ⟨g1, g2⟩ | ⟨g1, g2⟩ | ⟨g1, g2⟩
  · obtain ⟨fs, hr, hrun, hended, hW, hsame⟩ := X0.leave (v := some (.int (-1 : Int32))) (fun h => by rw [Bd.returns] at h; cases h)
    refine ⟨_, _, pre0 _ ?_, hrun, hended, _, _, rfl, ?_, ⟨_, rfl⟩, hW, hsame.mono (by decide) (by decide)⟩
    · show sS p e below s₁ m 0 #[.val (.double (FP.i2d xa)), .second, .val (.double (FP.i2d xb)), .second, .unset, .unset, .unset, .unset] [] _
      refine XS.dloadN X0.here hx rfl (hb hby dD_0) rfl ?_
      refine XS.dloadN X0.here hx rfl (hb hby dD_1) rfl ?_
      refine XS.dcmpS X0.here hx rfl (hb hby dD_2) rfl rfl ?_
      refine XS.ifNo X0.here hx rfl (hb hby dD_3) rfl (by rw [own_dcv, g2]; decide) ?_
      refine XS.iconst X0.here hx rfl (hb hby dD_6) ?_
      show sS p e below s₁ m 7 #[.val (.double (FP.i2d xa)), .second, .val (.double (FP.i2d xb)), .second, .unset, .unset, .unset, .unset] [(.int (-1 : Int32))] _
      exact retI X0 hx Bd.returns (hb hby dD_7) hr
    · show Qdc Z xa xb h0 n0 _ s₁.heap _
      rw [e0]
      exact ⟨congrArg (fun z => some (Value.int z)) (own_dc_lt g1).symm, N0, rfl⟩
  · obtain ⟨_, _, ⟨T1, L1, k1, n1⟩, -, X1, ⟨Lc1, hQ1, l1, y1, z1⟩, st1⟩ := Jvm.LawKit.callS X0 hx (y := ⟨"java/lang/Double", "doubleToLongBits", "(D)J"⟩) hown (mvT hZ (wK hw (i := 32) rfl)) (mvT hZ (wK hw (i := 33) rfl)) (mvT hZ (wK hw (i := 20) rfl)) (mvT hZ (wK hw (i := 34) rfl)) (by decide) (backOf (W := 0) (rmdlb l Z a0 hw [] (FP.i2d xa) h0 n0 Z0 (by rw [dcmpV_self (Fl.i2d_fin _).noNaN]; rfl)) hZ (wK hw (i := 34) rfl) (wK hw (i := 20) rfl) (by decide) (by decide)) (g := (mkF m 17 #[.val (.double (FP.i2d xa)), .second, .val (.double (FP.i2d xb)), .second, .unset, .unset, .unset, .unset] [(.double (FP.i2d xa))])) rfl (by rw [hml]; rfl) (argsL := [(.double (FP.i2d xa))]) (rest := []) (lenOf pd_1 rfl) rfl (Nat.le_of_eq rfl) (hb hby dD_17) (fun _ _ => ⟨rfl, e0, (by decide : 0 + 0 ≤ _), (by decide : 0 + 0 ≤ _)⟩)
    dsimp only [Pt.U, Pt.locs, Pt.cells, Pt.slots] at X1 l1 y1 z1 st1 hQ1
    subst l1 y1 z1
    obtain ⟨rfl, N1q, eh1⟩ := hQ1
    have N1 := Fr.app N0 N1q
    obtain ⟨_, _, ⟨T2, L2, k2, n2⟩, -, X2, ⟨Lc2, hQ2, l2, y2, z2⟩, st2⟩ := Jvm.LawKit.callS X1 hx (y := ⟨"java/lang/Double", "doubleToLongBits", "(D)J"⟩) hown (mvT hZ (wK hw (i := 32) rfl)) (mvT hZ (wK hw (i := 33) rfl)) (mvT hZ (wK hw (i := 20) rfl)) (mvT hZ (wK hw (i := 34) rfl)) (by decide) (backOf (W := 0) (rmdlb l Z a0 hw [] (FP.i2d xb) h0 n0 Z0 (by rw [dcmpV_self (Fl.i2d_fin _).noNaN]; rfl)) hZ (wK hw (i := 34) rfl) (wK hw (i := 20) rfl) (by decide) (by decide)) (g := (mkF m 23 #[.val (.double (FP.i2d xa)), .second, .val (.double (FP.i2d xb)), .second, .val (.long ((FP.i2d xa).toInt64)), .second, .unset, .unset] [(.double (FP.i2d xb))])) rfl (by rw [hml]; rfl) (argsL := [(.double (FP.i2d xb))]) (rest := []) (lenOf pd_1 rfl) rfl (Nat.le_of_eq rfl) (hb hby dD_23) (fun _ _ => ⟨rfl, eh1, (by decide : 0 + 0 ≤ _), (by decide : 0 + 0 ≤ _)⟩)
    dsimp only [Pt.U, Pt.locs, Pt.cells, Pt.slots] at X2 l2 y2 z2 st2 hQ2
    subst l2 y2 z2
    obtain ⟨rfl, N2q, eh2⟩ := hQ2
    have N2 := Fr.app N1 N2q
    obtain ⟨fs, hr, hrun, hended, hW, hsame⟩ := X2.leave (v := some (.int (0 : Int32))) (fun h => by rw [Bd.returns] at h; cases h)
    refine ⟨_, _, pre0 _ ?_, hrun, hended, _, _, rfl, ?_, ⟨_, rfl⟩, hW, hsame.mono (by decide) (by decide)⟩
    · show sS p e below s₁ m 0 #[.val (.double (FP.i2d xa)), .second, .val (.double (FP.i2d xb)), .second, .unset, .unset, .unset, .unset] [] _
      refine XS.dloadN X0.here hx rfl (hb hby dD_0) rfl ?_
      refine XS.dloadN X0.here hx rfl (hb hby dD_1) rfl ?_
      refine XS.dcmpS X0.here hx rfl (hb hby dD_2) rfl rfl ?_
      refine XS.ifYes X0.here hx rfl (pc0 := 3) (pc' := 8) rfl (hb hby dD_3) rfl (by rw [own_dcv, g2]; decide) (by decide) (by decide) ?_
      refine XS.dloadN X0.here hx rfl (hb hby dD_8) rfl ?_
      refine XS.dloadN X0.here hx rfl (hb hby dD_9) rfl ?_
      show sS p e below s₁ m 10 #[.val (.double (FP.i2d xa)), .second, .val (.double (FP.i2d xb)), .second, .unset, .unset, .unset, .unset] [(.double (FP.i2d xb)), (.double (FP.i2d xa))] _
      refine XS.dcmpS X0.here hx rfl (hb hby dD_10) rfl rfl ?_
      refine XS.ifYes X0.here hx rfl (pc0 := 11) (pc' := 16) rfl (hb hby dD_11) rfl (by rw [own_dcv, g2]; decide) (by decide) (by decide) ?_
      refine XS.dloadN X0.here hx rfl (hb hby dD_16) rfl ?_
      show sS p e below s₁ m 17 #[.val (.double (FP.i2d xa)), .second, .val (.double (FP.i2d xb)), .second, .unset, .unset, .unset, .unset] [(.double (FP.i2d xa))] _
      refine st1 _ ?_
      show sS p e below T1 m 20 #[.val (.double (FP.i2d xa)), .second, .val (.double (FP.i2d xb)), .second, .unset, .unset, .unset, .unset] [(.long ((FP.i2d xa).toInt64))] _
      refine XS.lstore X1.here hx rfl (hb hby dD_20) rfl (l' := #[.val (.double (FP.i2d xa)), .second, .val (.double (FP.i2d xb)), .second, .val (.long ((FP.i2d xa).toInt64)), .second, .unset, .unset]) rfl ?_
      refine XS.dloadN X1.here hx rfl (hb hby dD_22) rfl ?_
      show sS p e below T1 m 23 #[.val (.double (FP.i2d xa)), .second, .val (.double (FP.i2d xb)), .second, .val (.long ((FP.i2d xa).toInt64)), .second, .unset, .unset] [(.double (FP.i2d xb))] _
      refine st2 _ ?_
      show sS p e below T2 m 26 #[.val (.double (FP.i2d xa)), .second, .val (.double (FP.i2d xb)), .second, .val (.long ((FP.i2d xa).toInt64)), .second, .unset, .unset] [(.long ((FP.i2d xb).toInt64))] _
      refine XS.lstore X2.here hx rfl (hb hby dD_26) rfl (l' := #[.val (.double (FP.i2d xa)), .second, .val (.double (FP.i2d xb)), .second, .val (.long ((FP.i2d xa).toInt64)), .second, .val (.long ((FP.i2d xb).toInt64)), .second]) rfl ?_
      refine XS.lload X2.here hx rfl (hb hby dD_28) rfl ?_
      refine XS.lload X2.here hx rfl (hb hby dD_30) rfl ?_
      refine XS.lcmp X2.here hx rfl (hb hby dD_32) rfl ?_
      refine XS.ifNo X2.here hx rfl (hb hby dD_33) rfl (by rw [Int32.toInt_inj.mp g1]; simp [lcmpW, ifCond.holds]) ?_
      refine XS.iconst X2.here hx rfl (hb hby dD_36) ?_
      show sS p e below T2 m 37 #[.val (.double (FP.i2d xa)), .second, .val (.double (FP.i2d xb)), .second, .val (.long ((FP.i2d xa).toInt64)), .second, .val (.long ((FP.i2d xb).toInt64)), .second] [(.int (0 : Int32))] _
      refine XS.goto X2.here hx rfl (pc0 := 37) (pc' := 53) rfl (hb hby dD_37) (by decide) (by decide) ?_
      show sS p e below T2 m 53 #[.val (.double (FP.i2d xa)), .second, .val (.double (FP.i2d xb)), .second, .val (.long ((FP.i2d xa).toInt64)), .second, .val (.long ((FP.i2d xb).toInt64)), .second] [(.int (0 : Int32))] _
      exact retI X2 hx Bd.returns (hb hby dD_53) hr
    · show Qdc Z xa xb h0 n0 _ T2.heap _
      rw [eh2]
      exact ⟨congrArg (fun z => some (Value.int z)) (own_dc_eq g1).symm, N2, rfl⟩
  · obtain ⟨fs, hr, hrun, hended, hW, hsame⟩ := X0.leave (v := some (.int (1 : Int32))) (fun h => by rw [Bd.returns] at h; cases h)
    refine ⟨_, _, pre0 _ ?_, hrun, hended, _, _, rfl, ?_, ⟨_, rfl⟩, hW, hsame.mono (by decide) (by decide)⟩
    · show sS p e below s₁ m 0 #[.val (.double (FP.i2d xa)), .second, .val (.double (FP.i2d xb)), .second, .unset, .unset, .unset, .unset] [] _
      refine XS.dloadN X0.here hx rfl (hb hby dD_0) rfl ?_
      refine XS.dloadN X0.here hx rfl (hb hby dD_1) rfl ?_
      refine XS.dcmpS X0.here hx rfl (hb hby dD_2) rfl rfl ?_
      refine XS.ifYes X0.here hx rfl (pc0 := 3) (pc' := 8) rfl (hb hby dD_3) rfl (by rw [own_dcv, g2]; decide) (by decide) (by decide) ?_
      refine XS.dloadN X0.here hx rfl (hb hby dD_8) rfl ?_
      refine XS.dloadN X0.here hx rfl (hb hby dD_9) rfl ?_
      show sS p e below s₁ m 10 #[.val (.double (FP.i2d xa)), .second, .val (.double (FP.i2d xb)), .second, .unset, .unset, .unset, .unset] [(.double (FP.i2d xb)), (.double (FP.i2d xa))] _
      refine XS.dcmpS X0.here hx rfl (hb hby dD_10) rfl rfl ?_
      refine XS.ifNo X0.here hx rfl (hb hby dD_11) rfl (by rw [own_dcv, g2]; decide) ?_
      refine XS.iconst X0.here hx rfl (hb hby dD_14) ?_
      show sS p e below s₁ m 15 #[.val (.double (FP.i2d xa)), .second, .val (.double (FP.i2d xb)), .second, .unset, .unset, .unset, .unset] [(.int (1 : Int32))] _
      exact retI X0 hx Bd.returns (hb hby dD_15) hr
    · show Qdc Z xa xb h0 n0 _ s₁.heap _
      rw [e0]
      exact ⟨congrArg (fun z => some (Value.int z)) (own_dc_gt g1).symm, N0, rfl⟩
theorem pn_1 : plainName "com/example/gadabout/gadabout/model/ClusteringTypeByNeighboursPinLaw" = true := by first | (simp [plainName, overriddenIn]; done) | decide +kernel
theorem dE_0 : decode method_3_code 0 = .ok (.aload_n 0, 1) := by decide +kernel
theorem dE_1 : decode method_3_code 1 = .ok (.iload_n 1, 1) := by decide +kernel
theorem dE_2 : decode method_3_code 2 = .ok (.iaload, 1) := by decide +kernel
theorem dE_3 : decode method_3_code 3 = .ok (.aload_n 0, 1) := by decide +kernel
theorem dE_4 : decode method_3_code 4 = .ok (.iload_n 2, 1) := by decide +kernel
theorem dE_5 : decode method_3_code 5 = .ok (.iaload, 1) := by decide +kernel
theorem dE_6 : decode method_3_code 6 = .ok (.if_icmp .lt 17, 3) := by decide +kernel
theorem dE_9 : decode method_3_code 9 = .ok (.aload_n 0, 1) := by decide +kernel
theorem dE_10 : decode method_3_code 10 = .ok (.iload_n 1, 1) := by decide +kernel
theorem dE_11 : decode method_3_code 11 = .ok (.iaload, 1) := by decide +kernel
theorem dE_12 : decode method_3_code 12 = .ok (.aload_n 0, 1) := by decide +kernel
theorem dE_13 : decode method_3_code 13 = .ok (.iload_n 2, 1) := by decide +kernel
theorem dE_14 : decode method_3_code 14 = .ok (.iaload, 1) := by decide +kernel
theorem dE_15 : decode method_3_code 15 = .ok (.if_icmp .ne 12, 3) := by decide +kernel
theorem dE_18 : decode method_3_code 18 = .ok (.iload_n 1, 1) := by decide +kernel
theorem dE_19 : decode method_3_code 19 = .ok (.iload_n 2, 1) := by decide +kernel
theorem dE_20 : decode method_3_code 20 = .ok (.if_icmp .ge 7, 3) := by decide +kernel
theorem dE_23 : decode method_3_code 23 = .ok (.iconst 1, 1) := by decide +kernel
theorem dE_24 : decode method_3_code 24 = .ok (.goto 4, 3) := by decide +kernel
theorem dE_27 : decode method_3_code 27 = .ok (.iconst 0, 1) := by decide +kernel
theorem dE_28 : decode method_3_code 28 = .ok (.ireturn, 1) := by decide +kernel
theorem ef_bf (m : MethodId) (x0 : Addr) (x1 : Int32) (x2 : Int32) : entryFrame m #[(.ref x0), (.int x1), (.int x2)] 3 = mkF m 0 #[rv x0, iv x1, iv x2] [] := by first | (simp [entryFrame, mkF, argsToLocals, Value.category]; done) | rfl
def Qbf (Z : State) (a1 : Addr) (k1 : ClassId) (d0 d1 d2 d3 d4 : Int32) (xj xi vj vi : Int32) (h0 : Heap) (n0 : Nat) (v : Option Value) (h : Heap) (L : List Loc) : Prop := v = some (.int (own_bf xj xi vj vi)) ∧ Fr n0 L ∧ h = h0
set_option maxRecDepth 65536 in
set_option maxHeartbeats 40000000 in
theorem rmbf (l : Launch) (Z : State) (a0 : Array Value) (hw : ∀ d ∈ tables_1, d.before a0 Z = true) (ws : List Jvm.Cond) (a1 : Addr) (k1 : ClassId) (d0 d1 d2 d3 d4 : Int32) (xj xi vj vi : Int32) (h0 : Heap) (n0 : Nat) (Z0 : n0 ≤ h0.size) (V_d : Arv Z h0 a1 k1 .int (5 : Int32) [(.int d0), (.int d1), (.int d2), (.int d3), (.int d4)] (.int (0 : Int32))) (bj : ¬ xj < 0 ∧ xj < (5 : Int32)) (bi : ¬ xi < 0 ∧ xi < (5 : Int32)) (ej : ([(.int d0), (.int d1), (.int d2), (.int d3), (.int d4)] : List Value).getD xj.toNatClampNeg (.int (0 : Int32)) = .int vj) (ei : ([(.int d0), (.int d1), (.int d2), (.int d3), (.int d4)] : List Value).getD xi.toNatClampNeg (.int (0 : Int32)) = .int vi) :
    MetFree l (⟨cN0, "before", "([III)Z"⟩ : MethodName) (head1 (Jvm.Cond.code (⟨cN0, "before", "([III)Z"⟩ : MethodName) method_3_code 3 (some .boolean) :: ws) ({ frames := 0, cells := 0, slots := 0, locals := 0 } : Room)) (fun a U => a = #[(.ref a1), (.int xj), (.int xi)] ∧ Z.Warmed39 U.vm ∧ U.heap = h0) (fun _ _ _ _ _ => True) (fun _ U o U' => ∃ v L, o = .returned v ∧ Qbf Z a1 k1 d0 d1 d2 d3 d4 xj xi vj vi h0 n0 v U'.heap L ∧ FrameEnd U o U' L ({ frames := 0, cells := 0, slots := 0, locals := 0 } : Room).cells ({ frames := 0, cells := 0, slots := 0, locals := 0 } : Room).slots) := by
  refine MetFree.of_bodySF (plainFor_of_name pn_1) hisR ?_
  intro p e s m args below meth c s₁ Bd hml0 hP hK
  obtain ⟨rfl, hZ, hh⟩ := hP
  have hx := Bd.exec
  have hby := Bd.bytes
  have hml : c.maxLocals = 3 := hml0
  have hown : s.vm.findClass cN0 = some m.cls := findClass_of_methodNamed Bd.named
  have hnm := (name_of_methodNamed Bd.named Bd.method).1
  have X0 : Stand p l e ({ frames := 0, cells := 0, slots := 0, locals := 0 } : Room) s m #[(.ref a1), (.int xj), (.int xi)] below meth c s₁ [] 0 0 := Stand.of_body Bd
  have e0 : s₁.heap = h0 := by rw [← hh, Bd.state]; rfl
  have N0 := Fr.nil n0
  have pre0 : ∀ t, Steps p.tables e below (s₁.setTop (mkF m 0 #[rv a1, iv xj, iv xi] [])) t → Steps p.tables e below (s₁.setTop (entryFrame m #[(.ref a1), (.int xj), (.int xi)] 3)) t := fun t k => castTop (ef_bf m a1 xj xi) k
  rcases Bool.eq_false_or_eq_true (if_icmp.holds .lt vj vi) with hc6 | hc6
  · obtain ⟨fs, hr, hrun, hended, hW, hsame⟩ := X0.leave (v := some (.int (nar .boolean (1 : Int32)))) (fun h => by rw [Bd.returns] at h; cases h)
    refine ⟨_, _, pre0 _ ?_, hrun, hended, _, _, rfl, ?_, ⟨_, rfl⟩, hW, hsame.mono (by decide) (by decide)⟩
    · show sS p e below s₁ m 0 #[rv a1, iv xj, iv xi] [] _
      refine XS.aloadN X0.here hx rfl (hb hby dE_0) rfl rfl ?_
      refine XS.iloadN X0.here hx rfl (hb hby dE_1) rfl ?_
      refine own_ldI X0 hx hZ e0 V_d bj (v := vj) ej rfl rfl (hb hby dE_2) ?_
      refine XS.aloadN X0.here hx rfl (hb hby dE_3) rfl rfl ?_
      refine XS.iloadN X0.here hx rfl (hb hby dE_4) rfl ?_
      refine own_ldI X0 hx hZ e0 V_d bi (v := vi) ei rfl rfl (hb hby dE_5) ?_
      show sS p e below s₁ m 6 #[rv a1, iv xj, iv xi] [(.int vi), (.int vj)] _
      refine XS.icmpYes X0.here hx rfl (pc0 := 6) (pc' := 23) rfl (hb hby dE_6) rfl hc6 (by decide) (by decide) ?_
      refine XS.iconst X0.here hx rfl (hb hby dE_23) ?_
      refine XS.goto X0.here hx rfl (pc0 := 24) (pc' := 28) rfl (hb hby dE_24) (by decide) (by decide) ?_
      show sS p e below s₁ m 28 #[rv a1, iv xj, iv xi] [(.int (1 : Int32))] _
      exact retN X0 hx (t := .boolean) Bd.returns (by simp) (hb hby dE_28) hr
    · show Qbf Z a1 k1 d0 d1 d2 d3 d4 xj xi vj vi h0 n0 _ s₁.heap _
      rw [e0]
      exact ⟨by unfold own_bf; rw [hc6]; rfl, N0, rfl⟩
  · rcases Bool.eq_false_or_eq_true (if_icmp.holds .ne vj vi) with hc15 | hc15
    · obtain ⟨fs, hr, hrun, hended, hW, hsame⟩ := X0.leave (v := some (.int (nar .boolean (0 : Int32)))) (fun h => by rw [Bd.returns] at h; cases h)
      refine ⟨_, _, pre0 _ ?_, hrun, hended, _, _, rfl, ?_, ⟨_, rfl⟩, hW, hsame.mono (by decide) (by decide)⟩
      · show sS p e below s₁ m 0 #[rv a1, iv xj, iv xi] [] _
        refine XS.aloadN X0.here hx rfl (hb hby dE_0) rfl rfl ?_
        refine XS.iloadN X0.here hx rfl (hb hby dE_1) rfl ?_
        refine own_ldI X0 hx hZ e0 V_d bj (v := vj) ej rfl rfl (hb hby dE_2) ?_
        refine XS.aloadN X0.here hx rfl (hb hby dE_3) rfl rfl ?_
        refine XS.iloadN X0.here hx rfl (hb hby dE_4) rfl ?_
        refine own_ldI X0 hx hZ e0 V_d bi (v := vi) ei rfl rfl (hb hby dE_5) ?_
        show sS p e below s₁ m 6 #[rv a1, iv xj, iv xi] [(.int vi), (.int vj)] _
        refine XS.icmpNo X0.here hx rfl (hb hby dE_6) rfl hc6 ?_
        refine XS.aloadN X0.here hx rfl (hb hby dE_9) rfl rfl ?_
        refine XS.iloadN X0.here hx rfl (hb hby dE_10) rfl ?_
        refine own_ldI X0 hx hZ e0 V_d bj (v := vj) ej rfl rfl (hb hby dE_11) ?_
        refine XS.aloadN X0.here hx rfl (hb hby dE_12) rfl rfl ?_
        refine XS.iloadN X0.here hx rfl (hb hby dE_13) rfl ?_
        show sS p e below s₁ m 14 #[rv a1, iv xj, iv xi] [(.int xi), (.ref a1), (.int vj)] _
        refine own_ldI X0 hx hZ e0 V_d bi (v := vi) ei rfl rfl (hb hby dE_14) ?_
        refine XS.icmpYes X0.here hx rfl (pc0 := 15) (pc' := 27) rfl (hb hby dE_15) rfl hc15 (by decide) (by decide) ?_
        refine XS.iconst X0.here hx rfl (hb hby dE_27) ?_
        show sS p e below s₁ m 28 #[rv a1, iv xj, iv xi] [(.int (0 : Int32))] _
        exact retN X0 hx (t := .boolean) Bd.returns (by simp) (hb hby dE_28) hr
      · show Qbf Z a1 k1 d0 d1 d2 d3 d4 xj xi vj vi h0 n0 _ s₁.heap _
        rw [e0]
        exact ⟨by unfold own_bf; rw [hc6, hc15]; rfl, N0, rfl⟩
    · rcases Bool.eq_false_or_eq_true (if_icmp.holds .ge xj xi) with hc20 | hc20
      · obtain ⟨fs, hr, hrun, hended, hW, hsame⟩ := X0.leave (v := some (.int (nar .boolean (0 : Int32)))) (fun h => by rw [Bd.returns] at h; cases h)
        refine ⟨_, _, pre0 _ ?_, hrun, hended, _, _, rfl, ?_, ⟨_, rfl⟩, hW, hsame.mono (by decide) (by decide)⟩
        · show sS p e below s₁ m 0 #[rv a1, iv xj, iv xi] [] _
          refine XS.aloadN X0.here hx rfl (hb hby dE_0) rfl rfl ?_
          refine XS.iloadN X0.here hx rfl (hb hby dE_1) rfl ?_
          refine own_ldI X0 hx hZ e0 V_d bj (v := vj) ej rfl rfl (hb hby dE_2) ?_
          refine XS.aloadN X0.here hx rfl (hb hby dE_3) rfl rfl ?_
          refine XS.iloadN X0.here hx rfl (hb hby dE_4) rfl ?_
          refine own_ldI X0 hx hZ e0 V_d bi (v := vi) ei rfl rfl (hb hby dE_5) ?_
          show sS p e below s₁ m 6 #[rv a1, iv xj, iv xi] [(.int vi), (.int vj)] _
          refine XS.icmpNo X0.here hx rfl (hb hby dE_6) rfl hc6 ?_
          refine XS.aloadN X0.here hx rfl (hb hby dE_9) rfl rfl ?_
          refine XS.iloadN X0.here hx rfl (hb hby dE_10) rfl ?_
          refine own_ldI X0 hx hZ e0 V_d bj (v := vj) ej rfl rfl (hb hby dE_11) ?_
          refine XS.aloadN X0.here hx rfl (hb hby dE_12) rfl rfl ?_
          refine XS.iloadN X0.here hx rfl (hb hby dE_13) rfl ?_
          show sS p e below s₁ m 14 #[rv a1, iv xj, iv xi] [(.int xi), (.ref a1), (.int vj)] _
          refine own_ldI X0 hx hZ e0 V_d bi (v := vi) ei rfl rfl (hb hby dE_14) ?_
          refine XS.icmpNo X0.here hx rfl (hb hby dE_15) rfl hc15 ?_
          refine XS.iloadN X0.here hx rfl (hb hby dE_18) rfl ?_
          refine XS.iloadN X0.here hx rfl (hb hby dE_19) rfl ?_
          refine XS.icmpYes X0.here hx rfl (pc0 := 20) (pc' := 27) rfl (hb hby dE_20) rfl hc20 (by decide) (by decide) ?_
          refine XS.iconst X0.here hx rfl (hb hby dE_27) ?_
          show sS p e below s₁ m 28 #[rv a1, iv xj, iv xi] [(.int (0 : Int32))] _
          exact retN X0 hx (t := .boolean) Bd.returns (by simp) (hb hby dE_28) hr
        · show Qbf Z a1 k1 d0 d1 d2 d3 d4 xj xi vj vi h0 n0 _ s₁.heap _
          rw [e0]
          exact ⟨by unfold own_bf; rw [hc6, hc15, hc20]; rfl, N0, rfl⟩
      · obtain ⟨fs, hr, hrun, hended, hW, hsame⟩ := X0.leave (v := some (.int (nar .boolean (1 : Int32)))) (fun h => by rw [Bd.returns] at h; cases h)
        refine ⟨_, _, pre0 _ ?_, hrun, hended, _, _, rfl, ?_, ⟨_, rfl⟩, hW, hsame.mono (by decide) (by decide)⟩
        · show sS p e below s₁ m 0 #[rv a1, iv xj, iv xi] [] _
          refine XS.aloadN X0.here hx rfl (hb hby dE_0) rfl rfl ?_
          refine XS.iloadN X0.here hx rfl (hb hby dE_1) rfl ?_
          refine own_ldI X0 hx hZ e0 V_d bj (v := vj) ej rfl rfl (hb hby dE_2) ?_
          refine XS.aloadN X0.here hx rfl (hb hby dE_3) rfl rfl ?_
          refine XS.iloadN X0.here hx rfl (hb hby dE_4) rfl ?_
          refine own_ldI X0 hx hZ e0 V_d bi (v := vi) ei rfl rfl (hb hby dE_5) ?_
          show sS p e below s₁ m 6 #[rv a1, iv xj, iv xi] [(.int vi), (.int vj)] _
          refine XS.icmpNo X0.here hx rfl (hb hby dE_6) rfl hc6 ?_
          refine XS.aloadN X0.here hx rfl (hb hby dE_9) rfl rfl ?_
          refine XS.iloadN X0.here hx rfl (hb hby dE_10) rfl ?_
          refine own_ldI X0 hx hZ e0 V_d bj (v := vj) ej rfl rfl (hb hby dE_11) ?_
          refine XS.aloadN X0.here hx rfl (hb hby dE_12) rfl rfl ?_
          refine XS.iloadN X0.here hx rfl (hb hby dE_13) rfl ?_
          show sS p e below s₁ m 14 #[rv a1, iv xj, iv xi] [(.int xi), (.ref a1), (.int vj)] _
          refine own_ldI X0 hx hZ e0 V_d bi (v := vi) ei rfl rfl (hb hby dE_14) ?_
          refine XS.icmpNo X0.here hx rfl (hb hby dE_15) rfl hc15 ?_
          refine XS.iloadN X0.here hx rfl (hb hby dE_18) rfl ?_
          refine XS.iloadN X0.here hx rfl (hb hby dE_19) rfl ?_
          refine XS.icmpNo X0.here hx rfl (hb hby dE_20) rfl hc20 ?_
          refine XS.iconst X0.here hx rfl (hb hby dE_23) ?_
          show sS p e below s₁ m 24 #[rv a1, iv xj, iv xi] [(.int (1 : Int32))] _
          refine XS.goto X0.here hx rfl (pc0 := 24) (pc' := 28) rfl (hb hby dE_24) (by decide) (by decide) ?_
          show sS p e below s₁ m 28 #[rv a1, iv xj, iv xi] [(.int (1 : Int32))] _
          exact retN X0 hx (t := .boolean) Bd.returns (by simp) (hb hby dE_28) hr
        · show Qbf Z a1 k1 d0 d1 d2 d3 d4 xj xi vj vi h0 n0 _ s₁.heap _
          rw [e0]
          exact ⟨by unfold own_bf; rw [hc6, hc15, hc20]; rfl, N0, rfl⟩
theorem pd_2 : parseMethodDescriptor "([III)Z" = some ⟨[(.array .int), .int, .int], some .boolean⟩ := by decide +kernel
theorem dF_0 : decode method_4_code 0 = .ok (.iconst 0, 1) := by decide +kernel
theorem dF_1 : decode method_4_code 1 = .ok (.istore_n 3, 1) := by decide +kernel
theorem dF_2 : decode method_4_code 2 = .ok (.iconst 0, 1) := by decide +kernel
theorem dF_3 : decode method_4_code 3 = .ok (.iload_n 1, 1) := by decide +kernel
theorem dF_4 : decode method_4_code 4 = .ok (.if_icmp .ge 15, 3) := by decide +kernel
theorem dF_7 : decode method_4_code 7 = .ok (.aload_n 0, 1) := by decide +kernel
theorem dF_8 : decode method_4_code 8 = .ok (.iconst 0, 1) := by decide +kernel
theorem dF_9 : decode method_4_code 9 = .ok (.iload_n 2, 1) := by decide +kernel
theorem dF_10 : decode method_4_code 10 = .ok (.invokestatic 21, 3) := by decide +kernel
theorem dF_13 : decode method_4_code 13 = .ok (.ifCond .eq 6, 3) := by decide +kernel
theorem dF_16 : decode method_4_code 16 = .ok (.iinc 3 1, 3) := by decide +kernel
theorem dF_19 : decode method_4_code 19 = .ok (.iconst 1, 1) := by decide +kernel
theorem dF_20 : decode method_4_code 20 = .ok (.iload_n 1, 1) := by decide +kernel
theorem dF_21 : decode method_4_code 21 = .ok (.if_icmp .ge 15, 3) := by decide +kernel
theorem dF_24 : decode method_4_code 24 = .ok (.aload_n 0, 1) := by decide +kernel
theorem dF_25 : decode method_4_code 25 = .ok (.iconst 1, 1) := by decide +kernel
theorem dF_26 : decode method_4_code 26 = .ok (.iload_n 2, 1) := by decide +kernel
theorem dF_27 : decode method_4_code 27 = .ok (.invokestatic 21, 3) := by decide +kernel
theorem dF_30 : decode method_4_code 30 = .ok (.ifCond .eq 6, 3) := by decide +kernel
theorem dF_33 : decode method_4_code 33 = .ok (.iinc 3 1, 3) := by decide +kernel
theorem dF_36 : decode method_4_code 36 = .ok (.iconst 2, 1) := by decide +kernel
theorem dF_37 : decode method_4_code 37 = .ok (.iload_n 1, 1) := by decide +kernel
theorem dF_38 : decode method_4_code 38 = .ok (.if_icmp .ge 15, 3) := by decide +kernel
theorem dF_41 : decode method_4_code 41 = .ok (.aload_n 0, 1) := by decide +kernel
theorem dF_42 : decode method_4_code 42 = .ok (.iconst 2, 1) := by decide +kernel
theorem dF_43 : decode method_4_code 43 = .ok (.iload_n 2, 1) := by decide +kernel
theorem dF_44 : decode method_4_code 44 = .ok (.invokestatic 21, 3) := by decide +kernel
theorem dF_47 : decode method_4_code 47 = .ok (.ifCond .eq 6, 3) := by decide +kernel
theorem dF_50 : decode method_4_code 50 = .ok (.iinc 3 1, 3) := by decide +kernel
theorem dF_53 : decode method_4_code 53 = .ok (.iconst 3, 1) := by decide +kernel
theorem dF_54 : decode method_4_code 54 = .ok (.iload_n 1, 1) := by decide +kernel
theorem dF_55 : decode method_4_code 55 = .ok (.if_icmp .ge 15, 3) := by decide +kernel
theorem dF_58 : decode method_4_code 58 = .ok (.aload_n 0, 1) := by decide +kernel
theorem dF_59 : decode method_4_code 59 = .ok (.iconst 3, 1) := by decide +kernel
theorem dF_60 : decode method_4_code 60 = .ok (.iload_n 2, 1) := by decide +kernel
theorem dF_61 : decode method_4_code 61 = .ok (.invokestatic 21, 3) := by decide +kernel
theorem dF_64 : decode method_4_code 64 = .ok (.ifCond .eq 6, 3) := by decide +kernel
theorem dF_67 : decode method_4_code 67 = .ok (.iinc 3 1, 3) := by decide +kernel
theorem dF_70 : decode method_4_code 70 = .ok (.iconst 4, 1) := by decide +kernel
theorem dF_71 : decode method_4_code 71 = .ok (.iload_n 1, 1) := by decide +kernel
theorem dF_72 : decode method_4_code 72 = .ok (.if_icmp .ge 15, 3) := by decide +kernel
theorem dF_75 : decode method_4_code 75 = .ok (.aload_n 0, 1) := by decide +kernel
theorem dF_76 : decode method_4_code 76 = .ok (.iconst 4, 1) := by decide +kernel
theorem dF_77 : decode method_4_code 77 = .ok (.iload_n 2, 1) := by decide +kernel
theorem dF_78 : decode method_4_code 78 = .ok (.invokestatic 21, 3) := by decide +kernel
theorem dF_81 : decode method_4_code 81 = .ok (.ifCond .eq 6, 3) := by decide +kernel
theorem dF_84 : decode method_4_code 84 = .ok (.iinc 3 1, 3) := by decide +kernel
theorem dF_87 : decode method_4_code 87 = .ok (.iload_n 3, 1) := by decide +kernel
theorem dF_88 : decode method_4_code 88 = .ok (.ireturn, 1) := by decide +kernel
theorem ef_rk1 (m : MethodId) (x0 : Addr) (x1 : Int32) (x2 : Int32) : entryFrame m #[(.ref x0), (.int x1), (.int x2)] 4 = mkF m 0 #[rv x0, iv x1, iv x2, .unset] [] := by first | (simp [entryFrame, mkF, argsToLocals, Value.category]; done) | rfl
set_option maxRecDepth 65536 in
set_option maxHeartbeats 4000000 in
theorem sg_rk1_13_19 {p : Program} {l : Launch} {e : Env} {R : Room} {s : State} {m : MethodId} {args : Array Value} {below : List Frame} {meth : Method} {c : Code} {T : State} {locs : List Loc} {cells slots : Nat} {Z : State} {a0 : Array Value} {target : State} {x0 : Addr} {x1 : Int32} {x2 : Int32} {x3 : Int32} {y0 : Int32} (X : Stand p l e R s m args below meth c T locs cells slots) (hx : p.tables.exec = Jvm.exec) (hZ : Z.Warmed39 s.vm) (hw : ∀ d ∈ tables_1, d.before a0 Z = true) (hby : c.code = method_4_code) (hown : s.vm.findClass cN0 = some m.cls)
    (k : Steps p.tables e below (T.setTop (mkF m 19 #[rv x0, iv x1, iv x2, .val (.int (bif (ifCond.holds .eq y0) then x3 else (x3 + (1 : Int32))))] [])) target) : Steps p.tables e below (T.setTop (mkF m 13 #[rv x0, iv x1, iv x2, iv x3] [(.int y0)])) target := by
  show sS p e below T m 13 #[rv x0, iv x1, iv x2, iv x3] [(.int y0)] _
  rcases Bool.eq_false_or_eq_true (ifCond.holds .eq y0) with hc1 | hc1
  · try rw [hc1] at k
    refine XS.ifYes X.here hx rfl (pc0 := 13) (pc' := 19) rfl (hb hby dF_13) rfl hc1 (by decide) (by decide) ?_
    show sS p e below T m 19 #[rv x0, iv x1, iv x2, iv x3] [] _
    exact k
  · try rw [hc1] at k
    refine XS.ifNo X.here hx rfl (hb hby dF_13) rfl hc1 ?_
    show sS p e below T m 16 #[rv x0, iv x1, iv x2, iv x3] [] _
    refine XS.iinc X.here hx rfl (hb hby dF_16) rfl (l' := #[rv x0, iv x1, iv x2, .val (.int (x3 + (1 : Int32)))]) rfl ?_
    exact k
def Qrk1 (Z : State) (a1 : Addr) (k1 : ClassId) (d0 d1 d2 d3 d4 : Int32) (xi vi : Int32) (h0 : Heap) (n0 : Nat) (v : Option Value) (h : Heap) (L : List Loc) : Prop := v = some (.int (own_rk1 d0 xi vi)) ∧ Fr n0 L ∧ h = h0
set_option maxRecDepth 65536 in
set_option maxHeartbeats 40000000 in
theorem rmrk1 (l : Launch) (Z : State) (a0 : Array Value) (hw : ∀ d ∈ tables_1, d.before a0 Z = true) (ws : List Jvm.Cond) (a1 : Addr) (k1 : ClassId) (d0 d1 d2 d3 d4 : Int32) (xi vi : Int32) (h0 : Heap) (n0 : Nat) (Z0 : n0 ≤ h0.size) (V_d : Arv Z h0 a1 k1 .int (5 : Int32) [(.int d0), (.int d1), (.int d2), (.int d3), (.int d4)] (.int (0 : Int32))) (bi : ¬ xi < 0 ∧ xi < (5 : Int32)) (ei : ([(.int d0), (.int d1), (.int d2), (.int d3), (.int d4)] : List Value).getD xi.toNatClampNeg (.int (0 : Int32)) = .int vi) :
    MetFree l (⟨cN0, "rank", "([III)I"⟩ : MethodName) (head1 (Jvm.Cond.code (⟨cN0, "rank", "([III)I"⟩ : MethodName) method_4_code 4 (some .int) :: ws) ({ frames := 1, cells := 0, slots := 0, locals := 14 } : Room)) (fun a U => a = #[(.ref a1), (.int (1 : Int32)), (.int xi)] ∧ Z.Warmed39 U.vm ∧ U.heap = h0) (fun _ _ _ _ _ => True) (fun _ U o U' => ∃ v L, o = .returned v ∧ Qrk1 Z a1 k1 d0 d1 d2 d3 d4 xi vi h0 n0 v U'.heap L ∧ FrameEnd U o U' L ({ frames := 1, cells := 0, slots := 0, locals := 14 } : Room).cells ({ frames := 1, cells := 0, slots := 0, locals := 14 } : Room).slots) := by
  refine MetFree.of_bodySF (plainFor_of_name pn_1) hisR ?_
  intro p e s m args below meth c s₁ Bd hml0 hP hK
  obtain ⟨rfl, hZ, hh⟩ := hP
  have hx := Bd.exec
  have hby := Bd.bytes
  have hml : c.maxLocals = 4 := hml0
  have hown : s.vm.findClass cN0 = some m.cls := findClass_of_methodNamed Bd.named
  have hnm := (name_of_methodNamed Bd.named Bd.method).1
  have X0 : Stand p l e ({ frames := 1, cells := 0, slots := 0, locals := 14 } : Room) s m #[(.ref a1), (.int (1 : Int32)), (.int xi)] below meth c s₁ [] 0 0 := Stand.of_body Bd
  have e0 : s₁.heap = h0 := by rw [← hh, Bd.state]; rfl
  have N0 := Fr.nil n0
  have pre0 : ∀ t, Steps p.tables e below (s₁.setTop (mkF m 0 #[rv a1, iv 1, iv xi, .unset] [])) t → Steps p.tables e below (s₁.setTop (entryFrame m #[(.ref a1), (.int (1 : Int32)), (.int xi)] 4)) t := fun t k => castTop (ef_rk1 m a1 (1 : Int32) xi) k
  obtain ⟨_, _, ⟨T1, L1, k1, n1⟩, -, X1, ⟨Lc1, hQ1, l1, y1, z1⟩, st1⟩ := Jvm.LawKit.callS X0 hx (y := ⟨cN0, "before", "([III)Z"⟩) hown (mvT hZ (wK hw (i := 29) rfl)) (mvT hZ (wK hw (i := 30) rfl)) (mvT hZ (wK hw (i := 24) rfl)) (mvT hZ (wK hw (i := 31) rfl)) (by decide) (backOf (W := 0) (rmbf l Z a0 hw [] a1 k1 d0 d1 d2 d3 d4 (0 : Int32) xi d0 vi h0 n0 Z0 V_d ⟨by decide, by decide⟩ bi rfl ei) hZ (wK hw (i := 31) rfl) (wK hw (i := 24) rfl) (by decide) (by decide)) (g := (mkF m 10 #[rv a1, iv 1, iv xi, iv 0] [(.int xi), (.int (0 : Int32)), (.ref a1)])) rfl (by rw [hml]; rfl) (argsL := [(.ref a1), (.int (0 : Int32)), (.int xi)]) (rest := []) (lenOf pd_2 rfl) rfl (Nat.le_of_eq rfl) (hb hby dF_10) (fun _ _ => ⟨rfl, e0, (by decide : 0 + 0 ≤ _), (by decide : 0 + 0 ≤ _)⟩)
  dsimp only [Pt.U, Pt.locs, Pt.cells, Pt.slots] at X1 l1 y1 z1 st1 hQ1
  subst l1 y1 z1
  obtain ⟨rfl, N1q, eh1⟩ := hQ1
  have N1 := Fr.app N0 N1q
  obtain ⟨fs, hr, hrun, hended, hW, hsame⟩ := X1.leave (v := some (.int (own_st (0 : Int32) (own_bf (0 : Int32) xi d0 vi)))) (fun h => by rw [Bd.returns] at h; cases h)
  refine ⟨_, _, pre0 _ ?_, hrun, hended, _, _, rfl, ?_, ⟨_, rfl⟩, hW, hsame.mono (by decide) (by decide)⟩
  · show sS p e below s₁ m 0 #[rv a1, iv 1, iv xi, .unset] [] _
    refine XS.iconst X0.here hx rfl (hb hby dF_0) ?_
    refine XS.istoreN X0.here hx rfl (hb hby dF_1) rfl (l' := #[rv a1, iv 1, iv xi, iv 0]) rfl ?_
    refine XS.iconst X0.here hx rfl (hb hby dF_2) ?_
    refine XS.iloadN X0.here hx rfl (hb hby dF_3) rfl ?_
    refine XS.icmpNo X0.here hx rfl (hb hby dF_4) rfl (by decide) ?_
    refine XS.aloadN X0.here hx rfl (hb hby dF_7) rfl rfl ?_
    show sS p e below s₁ m 8 #[rv a1, iv 1, iv xi, iv 0] [(.ref a1)] _
    refine XS.iconst X0.here hx rfl (hb hby dF_8) ?_
    refine XS.iloadN X0.here hx rfl (hb hby dF_9) rfl ?_
    show sS p e below s₁ m 10 #[rv a1, iv 1, iv xi, iv 0] [(.int xi), (.int (0 : Int32)), (.ref a1)] _
    refine st1 _ ?_
    show sS p e below T1 m 13 #[rv a1, iv 1, iv xi, iv 0] [(.int (own_bf (0 : Int32) xi d0 vi))] _
    refine sg_rk1_13_19 X1 hx hZ hw hby hown ?_
    show sS p e below T1 m 19 #[rv a1, iv 1, iv xi, .val (.int (own_st (0 : Int32) (own_bf (0 : Int32) xi d0 vi)))] [] _
    refine XS.iconst X1.here hx rfl (hb hby dF_19) ?_
    refine XS.iloadN X1.here hx rfl (hb hby dF_20) rfl ?_
    refine XS.icmpYes X1.here hx rfl (pc0 := 21) (pc' := 36) rfl (hb hby dF_21) rfl (by decide) (by decide) (by decide) ?_
    refine XS.iconst X1.here hx rfl (hb hby dF_36) ?_
    refine XS.iloadN X1.here hx rfl (hb hby dF_37) rfl ?_
    refine XS.icmpYes X1.here hx rfl (pc0 := 38) (pc' := 53) rfl (hb hby dF_38) rfl (by decide) (by decide) (by decide) ?_
    show sS p e below T1 m 53 #[rv a1, iv 1, iv xi, .val (.int (own_st (0 : Int32) (own_bf (0 : Int32) xi d0 vi)))] [] _
    refine XS.iconst X1.here hx rfl (hb hby dF_53) ?_
    refine XS.iloadN X1.here hx rfl (hb hby dF_54) rfl ?_
    refine XS.icmpYes X1.here hx rfl (pc0 := 55) (pc' := 70) rfl (hb hby dF_55) rfl (by decide) (by decide) (by decide) ?_
    refine XS.iconst X1.here hx rfl (hb hby dF_70) ?_
    refine XS.iloadN X1.here hx rfl (hb hby dF_71) rfl ?_
    refine XS.icmpYes X1.here hx rfl (pc0 := 72) (pc' := 87) rfl (hb hby dF_72) rfl (by decide) (by decide) (by decide) ?_
    show sS p e below T1 m 87 #[rv a1, iv 1, iv xi, .val (.int (own_st (0 : Int32) (own_bf (0 : Int32) xi d0 vi)))] [] _
    refine XS.iloadN X1.here hx rfl (hb hby dF_87) rfl ?_
    show sS p e below T1 m 88 #[rv a1, iv 1, iv xi, .val (.int (own_st (0 : Int32) (own_bf (0 : Int32) xi d0 vi)))] [(.int (own_st (0 : Int32) (own_bf (0 : Int32) xi d0 vi)))] _
    exact retI X1 hx Bd.returns (hb hby dF_88) hr
  · show Qrk1 Z a1 k1 d0 d1 d2 d3 d4 xi vi h0 n0 _ T1.heap _
    rw [eh1]
    exact ⟨rfl, N1, rfl⟩
theorem pd_3 : parseMethodDescriptor "([III)I" = some ⟨[(.array .int), .int, .int], some .int⟩ := by decide +kernel
theorem dG_0 : decode method_5_code 0 = .ok (.iconst 0, 1) := by decide +kernel
theorem dG_1 : decode method_5_code 1 = .ok (.iload_n 1, 1) := by decide +kernel
theorem dG_2 : decode method_5_code 2 = .ok (.if_icmp .ge 15, 3) := by decide +kernel
theorem dG_5 : decode method_5_code 5 = .ok (.aload_n 0, 1) := by decide +kernel
theorem dG_6 : decode method_5_code 6 = .ok (.iload_n 1, 1) := by decide +kernel
theorem dG_7 : decode method_5_code 7 = .ok (.iconst 0, 1) := by decide +kernel
theorem dG_8 : decode method_5_code 8 = .ok (.invokestatic 25, 3) := by decide +kernel
theorem dG_11 : decode method_5_code 11 = .ok (.iload_n 2, 1) := by decide +kernel
theorem dG_12 : decode method_5_code 12 = .ok (.if_icmp .ne 5, 3) := by decide +kernel
theorem dG_15 : decode method_5_code 15 = .ok (.iconst 0, 1) := by decide +kernel
theorem dG_16 : decode method_5_code 16 = .ok (.ireturn, 1) := by decide +kernel
theorem dG_17 : decode method_5_code 17 = .ok (.iconst 1, 1) := by decide +kernel
theorem dG_18 : decode method_5_code 18 = .ok (.iload_n 1, 1) := by decide +kernel
theorem dG_19 : decode method_5_code 19 = .ok (.if_icmp .ge 15, 3) := by decide +kernel
theorem dG_22 : decode method_5_code 22 = .ok (.aload_n 0, 1) := by decide +kernel
theorem dG_23 : decode method_5_code 23 = .ok (.iload_n 1, 1) := by decide +kernel
theorem dG_24 : decode method_5_code 24 = .ok (.iconst 1, 1) := by decide +kernel
theorem dG_25 : decode method_5_code 25 = .ok (.invokestatic 25, 3) := by decide +kernel
theorem dG_28 : decode method_5_code 28 = .ok (.iload_n 2, 1) := by decide +kernel
theorem dG_29 : decode method_5_code 29 = .ok (.if_icmp .ne 5, 3) := by decide +kernel
theorem dG_32 : decode method_5_code 32 = .ok (.iconst 1, 1) := by decide +kernel
theorem dG_33 : decode method_5_code 33 = .ok (.ireturn, 1) := by decide +kernel
theorem dG_34 : decode method_5_code 34 = .ok (.iconst 2, 1) := by decide +kernel
theorem dG_35 : decode method_5_code 35 = .ok (.iload_n 1, 1) := by decide +kernel
theorem dG_36 : decode method_5_code 36 = .ok (.if_icmp .ge 15, 3) := by decide +kernel
theorem dG_39 : decode method_5_code 39 = .ok (.aload_n 0, 1) := by decide +kernel
theorem dG_40 : decode method_5_code 40 = .ok (.iload_n 1, 1) := by decide +kernel
theorem dG_41 : decode method_5_code 41 = .ok (.iconst 2, 1) := by decide +kernel
theorem dG_42 : decode method_5_code 42 = .ok (.invokestatic 25, 3) := by decide +kernel
theorem dG_45 : decode method_5_code 45 = .ok (.iload_n 2, 1) := by decide +kernel
theorem dG_46 : decode method_5_code 46 = .ok (.if_icmp .ne 5, 3) := by decide +kernel
theorem dG_49 : decode method_5_code 49 = .ok (.iconst 2, 1) := by decide +kernel
theorem dG_50 : decode method_5_code 50 = .ok (.ireturn, 1) := by decide +kernel
theorem dG_51 : decode method_5_code 51 = .ok (.iconst 3, 1) := by decide +kernel
theorem dG_52 : decode method_5_code 52 = .ok (.iload_n 1, 1) := by decide +kernel
theorem dG_53 : decode method_5_code 53 = .ok (.if_icmp .ge 15, 3) := by decide +kernel
theorem dG_56 : decode method_5_code 56 = .ok (.aload_n 0, 1) := by decide +kernel
theorem dG_57 : decode method_5_code 57 = .ok (.iload_n 1, 1) := by decide +kernel
theorem dG_58 : decode method_5_code 58 = .ok (.iconst 3, 1) := by decide +kernel
theorem dG_59 : decode method_5_code 59 = .ok (.invokestatic 25, 3) := by decide +kernel
theorem dG_62 : decode method_5_code 62 = .ok (.iload_n 2, 1) := by decide +kernel
theorem dG_63 : decode method_5_code 63 = .ok (.if_icmp .ne 5, 3) := by decide +kernel
theorem dG_66 : decode method_5_code 66 = .ok (.iconst 3, 1) := by decide +kernel
theorem dG_67 : decode method_5_code 67 = .ok (.ireturn, 1) := by decide +kernel
theorem dG_68 : decode method_5_code 68 = .ok (.iconst 4, 1) := by decide +kernel
theorem dG_69 : decode method_5_code 69 = .ok (.iload_n 1, 1) := by decide +kernel
theorem dG_70 : decode method_5_code 70 = .ok (.if_icmp .ge 15, 3) := by decide +kernel
theorem dG_73 : decode method_5_code 73 = .ok (.aload_n 0, 1) := by decide +kernel
theorem dG_74 : decode method_5_code 74 = .ok (.iload_n 1, 1) := by decide +kernel
theorem dG_75 : decode method_5_code 75 = .ok (.iconst 4, 1) := by decide +kernel
theorem dG_76 : decode method_5_code 76 = .ok (.invokestatic 25, 3) := by decide +kernel
theorem dG_79 : decode method_5_code 79 = .ok (.iload_n 2, 1) := by decide +kernel
theorem dG_80 : decode method_5_code 80 = .ok (.if_icmp .ne 5, 3) := by decide +kernel
theorem dG_83 : decode method_5_code 83 = .ok (.iconst 4, 1) := by decide +kernel
theorem dG_84 : decode method_5_code 84 = .ok (.ireturn, 1) := by decide +kernel
theorem dG_85 : decode method_5_code 85 = .ok (.iconst 0, 1) := by decide +kernel
theorem dG_86 : decode method_5_code 86 = .ok (.ireturn, 1) := by decide +kernel
theorem ef_at1 (m : MethodId) (x0 : Addr) (x1 : Int32) (x2 : Int32) : entryFrame m #[(.ref x0), (.int x1), (.int x2)] 3 = mkF m 0 #[rv x0, iv x1, iv x2] [] := by first | (simp [entryFrame, mkF, argsToLocals, Value.category]; done) | rfl
def Qat1 (Z : State) (a1 : Addr) (k1 : ClassId) (d0 d1 d2 d3 d4 : Int32) (r : Int32) (h0 : Heap) (n0 : Nat) (v : Option Value) (h : Heap) (L : List Loc) : Prop := v = some (.int (own_at1 d0 r)) ∧ Fr n0 L ∧ h = h0
set_option maxRecDepth 65536 in
set_option maxHeartbeats 40000000 in
theorem rmat1 (l : Launch) (Z : State) (a0 : Array Value) (hw : ∀ d ∈ tables_1, d.before a0 Z = true) (ws : List Jvm.Cond) (a1 : Addr) (k1 : ClassId) (d0 d1 d2 d3 d4 : Int32) (r : Int32) (h0 : Heap) (n0 : Nat) (Z0 : n0 ≤ h0.size) (V_d : Arv Z h0 a1 k1 .int (5 : Int32) [(.int d0), (.int d1), (.int d2), (.int d3), (.int d4)] (.int (0 : Int32))) :
    MetFree l (⟨cN0, "at", "([III)I"⟩ : MethodName) (head1 (Jvm.Cond.code (⟨cN0, "at", "([III)I"⟩ : MethodName) method_5_code 3 (some .int) :: ws) ({ frames := 2, cells := 0, slots := 0, locals := 29 } : Room)) (fun a U => a = #[(.ref a1), (.int (1 : Int32)), (.int r)] ∧ Z.Warmed39 U.vm ∧ U.heap = h0) (fun _ _ _ _ _ => True) (fun _ U o U' => ∃ v L, o = .returned v ∧ Qat1 Z a1 k1 d0 d1 d2 d3 d4 r h0 n0 v U'.heap L ∧ FrameEnd U o U' L ({ frames := 2, cells := 0, slots := 0, locals := 29 } : Room).cells ({ frames := 2, cells := 0, slots := 0, locals := 29 } : Room).slots) := by
  refine MetFree.of_bodySF (plainFor_of_name pn_1) hisR ?_
  intro p e s m args below meth c s₁ Bd hml0 hP hK
  obtain ⟨rfl, hZ, hh⟩ := hP
  have hx := Bd.exec
  have hby := Bd.bytes
  have hml : c.maxLocals = 3 := hml0
  have hown : s.vm.findClass cN0 = some m.cls := findClass_of_methodNamed Bd.named
  have hnm := (name_of_methodNamed Bd.named Bd.method).1
  have X0 : Stand p l e ({ frames := 2, cells := 0, slots := 0, locals := 29 } : Room) s m #[(.ref a1), (.int (1 : Int32)), (.int r)] below meth c s₁ [] 0 0 := Stand.of_body Bd
  have e0 : s₁.heap = h0 := by rw [← hh, Bd.state]; rfl
  have N0 := Fr.nil n0
  have pre0 : ∀ t, Steps p.tables e below (s₁.setTop (mkF m 0 #[rv a1, iv 1, iv r] [])) t → Steps p.tables e below (s₁.setTop (entryFrame m #[(.ref a1), (.int (1 : Int32)), (.int r)] 3)) t := fun t k => castTop (ef_at1 m a1 (1 : Int32) r) k
  obtain ⟨_, _, ⟨T1, L1, k1, n1⟩, -, X1, ⟨Lc1, hQ1, l1, y1, z1⟩, st1⟩ := Jvm.LawKit.callS X0 hx (y := ⟨cN0, "rank", "([III)I"⟩) hown (mvT hZ (wK hw (i := 26) rfl)) (mvT hZ (wK hw (i := 27) rfl)) (mvT hZ (wK hw (i := 24) rfl)) (mvT hZ (wK hw (i := 28) rfl)) (by decide) (backOf (W := 0) (rmrk1 l Z a0 hw [] a1 k1 d0 d1 d2 d3 d4 (0 : Int32) d0 h0 n0 Z0 V_d ⟨by decide, by decide⟩ rfl) hZ (wK hw (i := 28) rfl) (wK hw (i := 24) rfl) (by decide) (by decide)) (g := (mkF m 8 #[rv a1, iv 1, iv r] [(.int (0 : Int32)), (.int (1 : Int32)), (.ref a1)])) rfl (by rw [hml]; rfl) (argsL := [(.ref a1), (.int (1 : Int32)), (.int (0 : Int32))]) (rest := []) (lenOf pd_3 rfl) rfl (Nat.le_of_eq rfl) (hb hby dG_8) (fun _ _ => ⟨rfl, e0, (by decide : 0 + 0 ≤ _), (by decide : 0 + 0 ≤ _)⟩)
  dsimp only [Pt.U, Pt.locs, Pt.cells, Pt.slots] at X1 l1 y1 z1 st1 hQ1
  subst l1 y1 z1
  obtain ⟨rfl, N1q, eh1⟩ := hQ1
  have N1 := Fr.app N0 N1q
  rcases Bool.eq_false_or_eq_true (if_icmp.holds .ne (own_rk1 d0 (0 : Int32) d0) r) with hc12 | hc12
  · obtain ⟨fs, hr, hrun, hended, hW, hsame⟩ := X1.leave (v := some (.int (0 : Int32))) (fun h => by rw [Bd.returns] at h; cases h)
    refine ⟨_, _, pre0 _ ?_, hrun, hended, _, _, rfl, ?_, ⟨_, rfl⟩, hW, hsame.mono (by decide) (by decide)⟩
    · show sS p e below s₁ m 0 #[rv a1, iv 1, iv r] [] _
      refine XS.iconst X0.here hx rfl (hb hby dG_0) ?_
      refine XS.iloadN X0.here hx rfl (hb hby dG_1) rfl ?_
      refine XS.icmpNo X0.here hx rfl (hb hby dG_2) rfl (by decide) ?_
      refine XS.aloadN X0.here hx rfl (hb hby dG_5) rfl rfl ?_
      refine XS.iloadN X0.here hx rfl (hb hby dG_6) rfl ?_
      refine XS.iconst X0.here hx rfl (hb hby dG_7) ?_
      show sS p e below s₁ m 8 #[rv a1, iv 1, iv r] [(.int (0 : Int32)), (.int (1 : Int32)), (.ref a1)] _
      refine st1 _ ?_
      show sS p e below T1 m 11 #[rv a1, iv 1, iv r] [(.int (own_rk1 d0 (0 : Int32) d0))] _
      refine XS.iloadN X1.here hx rfl (hb hby dG_11) rfl ?_
      refine XS.icmpYes X1.here hx rfl (pc0 := 12) (pc' := 17) rfl (hb hby dG_12) rfl hc12 (by decide) (by decide) ?_
      refine XS.iconst X1.here hx rfl (hb hby dG_17) ?_
      refine XS.iloadN X1.here hx rfl (hb hby dG_18) rfl ?_
      refine XS.icmpYes X1.here hx rfl (pc0 := 19) (pc' := 34) rfl (hb hby dG_19) rfl (by decide) (by decide) (by decide) ?_
      refine XS.iconst X1.here hx rfl (hb hby dG_34) ?_
      show sS p e below T1 m 35 #[rv a1, iv 1, iv r] [(.int (2 : Int32))] _
      refine XS.iloadN X1.here hx rfl (hb hby dG_35) rfl ?_
      refine XS.icmpYes X1.here hx rfl (pc0 := 36) (pc' := 51) rfl (hb hby dG_36) rfl (by decide) (by decide) (by decide) ?_
      refine XS.iconst X1.here hx rfl (hb hby dG_51) ?_
      refine XS.iloadN X1.here hx rfl (hb hby dG_52) rfl ?_
      refine XS.icmpYes X1.here hx rfl (pc0 := 53) (pc' := 68) rfl (hb hby dG_53) rfl (by decide) (by decide) (by decide) ?_
      refine XS.iconst X1.here hx rfl (hb hby dG_68) ?_
      show sS p e below T1 m 69 #[rv a1, iv 1, iv r] [(.int (4 : Int32))] _
      refine XS.iloadN X1.here hx rfl (hb hby dG_69) rfl ?_
      refine XS.icmpYes X1.here hx rfl (pc0 := 70) (pc' := 85) rfl (hb hby dG_70) rfl (by decide) (by decide) (by decide) ?_
      refine XS.iconst X1.here hx rfl (hb hby dG_85) ?_
      show sS p e below T1 m 86 #[rv a1, iv 1, iv r] [(.int (0 : Int32))] _
      exact retI X1 hx Bd.returns (hb hby dG_86) hr
    · show Qat1 Z a1 k1 d0 d1 d2 d3 d4 r h0 n0 _ T1.heap _
      rw [eh1]
      exact ⟨by unfold own_at1; rw [hc12]; rfl, N1, rfl⟩
  · obtain ⟨fs, hr, hrun, hended, hW, hsame⟩ := X1.leave (v := some (.int (0 : Int32))) (fun h => by rw [Bd.returns] at h; cases h)
    refine ⟨_, _, pre0 _ ?_, hrun, hended, _, _, rfl, ?_, ⟨_, rfl⟩, hW, hsame.mono (by decide) (by decide)⟩
    · show sS p e below s₁ m 0 #[rv a1, iv 1, iv r] [] _
      refine XS.iconst X0.here hx rfl (hb hby dG_0) ?_
      refine XS.iloadN X0.here hx rfl (hb hby dG_1) rfl ?_
      refine XS.icmpNo X0.here hx rfl (hb hby dG_2) rfl (by decide) ?_
      refine XS.aloadN X0.here hx rfl (hb hby dG_5) rfl rfl ?_
      refine XS.iloadN X0.here hx rfl (hb hby dG_6) rfl ?_
      refine XS.iconst X0.here hx rfl (hb hby dG_7) ?_
      show sS p e below s₁ m 8 #[rv a1, iv 1, iv r] [(.int (0 : Int32)), (.int (1 : Int32)), (.ref a1)] _
      refine st1 _ ?_
      show sS p e below T1 m 11 #[rv a1, iv 1, iv r] [(.int (own_rk1 d0 (0 : Int32) d0))] _
      refine XS.iloadN X1.here hx rfl (hb hby dG_11) rfl ?_
      refine XS.icmpNo X1.here hx rfl (hb hby dG_12) rfl hc12 ?_
      refine XS.iconst X1.here hx rfl (hb hby dG_15) ?_
      show sS p e below T1 m 16 #[rv a1, iv 1, iv r] [(.int (0 : Int32))] _
      exact retI X1 hx Bd.returns (hb hby dG_16) hr
    · show Qat1 Z a1 k1 d0 d1 d2 d3 d4 r h0 n0 _ T1.heap _
      rw [eh1]
      exact ⟨by unfold own_at1; rw [hc12]; rfl, N1, rfl⟩
theorem ef_rk2 (m : MethodId) (x0 : Addr) (x1 : Int32) (x2 : Int32) : entryFrame m #[(.ref x0), (.int x1), (.int x2)] 4 = mkF m 0 #[rv x0, iv x1, iv x2, .unset] [] := by first | (simp [entryFrame, mkF, argsToLocals, Value.category]; done) | rfl
set_option maxRecDepth 65536 in
set_option maxHeartbeats 4000000 in
theorem sg_rk2_13_19 {p : Program} {l : Launch} {e : Env} {R : Room} {s : State} {m : MethodId} {args : Array Value} {below : List Frame} {meth : Method} {c : Code} {T : State} {locs : List Loc} {cells slots : Nat} {Z : State} {a0 : Array Value} {target : State} {x0 : Addr} {x1 : Int32} {x2 : Int32} {x3 : Int32} {y0 : Int32} (X : Stand p l e R s m args below meth c T locs cells slots) (hx : p.tables.exec = Jvm.exec) (hZ : Z.Warmed39 s.vm) (hw : ∀ d ∈ tables_1, d.before a0 Z = true) (hby : c.code = method_4_code) (hown : s.vm.findClass cN0 = some m.cls)
    (k : Steps p.tables e below (T.setTop (mkF m 19 #[rv x0, iv x1, iv x2, .val (.int (bif (ifCond.holds .eq y0) then x3 else (x3 + (1 : Int32))))] [])) target) : Steps p.tables e below (T.setTop (mkF m 13 #[rv x0, iv x1, iv x2, iv x3] [(.int y0)])) target := by
  show sS p e below T m 13 #[rv x0, iv x1, iv x2, iv x3] [(.int y0)] _
  rcases Bool.eq_false_or_eq_true (ifCond.holds .eq y0) with hc1 | hc1
  · try rw [hc1] at k
    refine XS.ifYes X.here hx rfl (pc0 := 13) (pc' := 19) rfl (hb hby dF_13) rfl hc1 (by decide) (by decide) ?_
    show sS p e below T m 19 #[rv x0, iv x1, iv x2, iv x3] [] _
    exact k
  · try rw [hc1] at k
    refine XS.ifNo X.here hx rfl (hb hby dF_13) rfl hc1 ?_
    show sS p e below T m 16 #[rv x0, iv x1, iv x2, iv x3] [] _
    refine XS.iinc X.here hx rfl (hb hby dF_16) rfl (l' := #[rv x0, iv x1, iv x2, .val (.int (x3 + (1 : Int32)))]) rfl ?_
    exact k
set_option maxRecDepth 65536 in
set_option maxHeartbeats 4000000 in
theorem sg_rk2_30_36 {p : Program} {l : Launch} {e : Env} {R : Room} {s : State} {m : MethodId} {args : Array Value} {below : List Frame} {meth : Method} {c : Code} {T : State} {locs : List Loc} {cells slots : Nat} {Z : State} {a0 : Array Value} {target : State} {x0 : Addr} {x1 : Int32} {x2 : Int32} {x3 : Int32} {y0 : Int32} (X : Stand p l e R s m args below meth c T locs cells slots) (hx : p.tables.exec = Jvm.exec) (hZ : Z.Warmed39 s.vm) (hw : ∀ d ∈ tables_1, d.before a0 Z = true) (hby : c.code = method_4_code) (hown : s.vm.findClass cN0 = some m.cls)
    (k : Steps p.tables e below (T.setTop (mkF m 36 #[rv x0, iv x1, iv x2, .val (.int (bif (ifCond.holds .eq y0) then x3 else (x3 + (1 : Int32))))] [])) target) : Steps p.tables e below (T.setTop (mkF m 30 #[rv x0, iv x1, iv x2, iv x3] [(.int y0)])) target := by
  show sS p e below T m 30 #[rv x0, iv x1, iv x2, iv x3] [(.int y0)] _
  rcases Bool.eq_false_or_eq_true (ifCond.holds .eq y0) with hc1 | hc1
  · try rw [hc1] at k
    refine XS.ifYes X.here hx rfl (pc0 := 30) (pc' := 36) rfl (hb hby dF_30) rfl hc1 (by decide) (by decide) ?_
    show sS p e below T m 36 #[rv x0, iv x1, iv x2, iv x3] [] _
    exact k
  · try rw [hc1] at k
    refine XS.ifNo X.here hx rfl (hb hby dF_30) rfl hc1 ?_
    show sS p e below T m 33 #[rv x0, iv x1, iv x2, iv x3] [] _
    refine XS.iinc X.here hx rfl (hb hby dF_33) rfl (l' := #[rv x0, iv x1, iv x2, .val (.int (x3 + (1 : Int32)))]) rfl ?_
    exact k
def Qrk2 (Z : State) (a1 : Addr) (k1 : ClassId) (d0 d1 d2 d3 d4 : Int32) (xi vi : Int32) (h0 : Heap) (n0 : Nat) (v : Option Value) (h : Heap) (L : List Loc) : Prop := v = some (.int (own_rk2 d0 d1 xi vi)) ∧ Fr n0 L ∧ h = h0
set_option maxRecDepth 65536 in
set_option maxHeartbeats 40000000 in
theorem rmrk2 (l : Launch) (Z : State) (a0 : Array Value) (hw : ∀ d ∈ tables_1, d.before a0 Z = true) (ws : List Jvm.Cond) (a1 : Addr) (k1 : ClassId) (d0 d1 d2 d3 d4 : Int32) (xi vi : Int32) (h0 : Heap) (n0 : Nat) (Z0 : n0 ≤ h0.size) (V_d : Arv Z h0 a1 k1 .int (5 : Int32) [(.int d0), (.int d1), (.int d2), (.int d3), (.int d4)] (.int (0 : Int32))) (bi : ¬ xi < 0 ∧ xi < (5 : Int32)) (ei : ([(.int d0), (.int d1), (.int d2), (.int d3), (.int d4)] : List Value).getD xi.toNatClampNeg (.int (0 : Int32)) = .int vi) :
    MetFree l (⟨cN0, "rank", "([III)I"⟩ : MethodName) (head1 (Jvm.Cond.code (⟨cN0, "rank", "([III)I"⟩ : MethodName) method_4_code 4 (some .int) :: ws) ({ frames := 1, cells := 0, slots := 0, locals := 14 } : Room)) (fun a U => a = #[(.ref a1), (.int (2 : Int32)), (.int xi)] ∧ Z.Warmed39 U.vm ∧ U.heap = h0) (fun _ _ _ _ _ => True) (fun _ U o U' => ∃ v L, o = .returned v ∧ Qrk2 Z a1 k1 d0 d1 d2 d3 d4 xi vi h0 n0 v U'.heap L ∧ FrameEnd U o U' L ({ frames := 1, cells := 0, slots := 0, locals := 14 } : Room).cells ({ frames := 1, cells := 0, slots := 0, locals := 14 } : Room).slots) := by
  refine MetFree.of_bodySF (plainFor_of_name pn_1) hisR ?_
  intro p e s m args below meth c s₁ Bd hml0 hP hK
  obtain ⟨rfl, hZ, hh⟩ := hP
  have hx := Bd.exec
  have hby := Bd.bytes
  have hml : c.maxLocals = 4 := hml0
  have hown : s.vm.findClass cN0 = some m.cls := findClass_of_methodNamed Bd.named
  have hnm := (name_of_methodNamed Bd.named Bd.method).1
  have X0 : Stand p l e ({ frames := 1, cells := 0, slots := 0, locals := 14 } : Room) s m #[(.ref a1), (.int (2 : Int32)), (.int xi)] below meth c s₁ [] 0 0 := Stand.of_body Bd
  have e0 : s₁.heap = h0 := by rw [← hh, Bd.state]; rfl
  have N0 := Fr.nil n0
  have pre0 : ∀ t, Steps p.tables e below (s₁.setTop (mkF m 0 #[rv a1, iv 2, iv xi, .unset] [])) t → Steps p.tables e below (s₁.setTop (entryFrame m #[(.ref a1), (.int (2 : Int32)), (.int xi)] 4)) t := fun t k => castTop (ef_rk2 m a1 (2 : Int32) xi) k
  obtain ⟨_, _, ⟨T1, L1, k1, n1⟩, -, X1, ⟨Lc1, hQ1, l1, y1, z1⟩, st1⟩ := Jvm.LawKit.callS X0 hx (y := ⟨cN0, "before", "([III)Z"⟩) hown (mvT hZ (wK hw (i := 29) rfl)) (mvT hZ (wK hw (i := 30) rfl)) (mvT hZ (wK hw (i := 24) rfl)) (mvT hZ (wK hw (i := 31) rfl)) (by decide) (backOf (W := 0) (rmbf l Z a0 hw [] a1 k1 d0 d1 d2 d3 d4 (0 : Int32) xi d0 vi h0 n0 Z0 V_d ⟨by decide, by decide⟩ bi rfl ei) hZ (wK hw (i := 31) rfl) (wK hw (i := 24) rfl) (by decide) (by decide)) (g := (mkF m 10 #[rv a1, iv 2, iv xi, iv 0] [(.int xi), (.int (0 : Int32)), (.ref a1)])) rfl (by rw [hml]; rfl) (argsL := [(.ref a1), (.int (0 : Int32)), (.int xi)]) (rest := []) (lenOf pd_2 rfl) rfl (Nat.le_of_eq rfl) (hb hby dF_10) (fun _ _ => ⟨rfl, e0, (by decide : 0 + 0 ≤ _), (by decide : 0 + 0 ≤ _)⟩)
  dsimp only [Pt.U, Pt.locs, Pt.cells, Pt.slots] at X1 l1 y1 z1 st1 hQ1
  subst l1 y1 z1
  obtain ⟨rfl, N1q, eh1⟩ := hQ1
  have N1 := Fr.app N0 N1q
  obtain ⟨_, _, ⟨T2, L2, k2, n2⟩, -, X2, ⟨Lc2, hQ2, l2, y2, z2⟩, st2⟩ := Jvm.LawKit.callS X1 hx (y := ⟨cN0, "before", "([III)Z"⟩) hown (mvT hZ (wK hw (i := 29) rfl)) (mvT hZ (wK hw (i := 30) rfl)) (mvT hZ (wK hw (i := 24) rfl)) (mvT hZ (wK hw (i := 31) rfl)) (by decide) (backOf (W := 0) (rmbf l Z a0 hw [] a1 k1 d0 d1 d2 d3 d4 (1 : Int32) xi d1 vi h0 n0 Z0 V_d ⟨by decide, by decide⟩ bi rfl ei) hZ (wK hw (i := 31) rfl) (wK hw (i := 24) rfl) (by decide) (by decide)) (g := (mkF m 27 #[rv a1, iv 2, iv xi, .val (.int (own_st (0 : Int32) (own_bf (0 : Int32) xi d0 vi)))] [(.int xi), (.int (1 : Int32)), (.ref a1)])) rfl (by rw [hml]; rfl) (argsL := [(.ref a1), (.int (1 : Int32)), (.int xi)]) (rest := []) (lenOf pd_2 rfl) rfl (Nat.le_of_eq rfl) (hb hby dF_27) (fun _ _ => ⟨rfl, eh1, (by decide : 0 + 0 ≤ _), (by decide : 0 + 0 ≤ _)⟩)
  dsimp only [Pt.U, Pt.locs, Pt.cells, Pt.slots] at X2 l2 y2 z2 st2 hQ2
  subst l2 y2 z2
  obtain ⟨rfl, N2q, eh2⟩ := hQ2
  have N2 := Fr.app N1 N2q
  obtain ⟨fs, hr, hrun, hended, hW, hsame⟩ := X2.leave (v := some (.int (own_st (own_st (0 : Int32) (own_bf (0 : Int32) xi d0 vi)) (own_bf (1 : Int32) xi d1 vi)))) (fun h => by rw [Bd.returns] at h; cases h)
  refine ⟨_, _, pre0 _ ?_, hrun, hended, _, _, rfl, ?_, ⟨_, rfl⟩, hW, hsame.mono (by decide) (by decide)⟩
  · show sS p e below s₁ m 0 #[rv a1, iv 2, iv xi, .unset] [] _
    refine XS.iconst X0.here hx rfl (hb hby dF_0) ?_
    refine XS.istoreN X0.here hx rfl (hb hby dF_1) rfl (l' := #[rv a1, iv 2, iv xi, iv 0]) rfl ?_
    refine XS.iconst X0.here hx rfl (hb hby dF_2) ?_
    refine XS.iloadN X0.here hx rfl (hb hby dF_3) rfl ?_
    refine XS.icmpNo X0.here hx rfl (hb hby dF_4) rfl (by decide) ?_
    refine XS.aloadN X0.here hx rfl (hb hby dF_7) rfl rfl ?_
    show sS p e below s₁ m 8 #[rv a1, iv 2, iv xi, iv 0] [(.ref a1)] _
    refine XS.iconst X0.here hx rfl (hb hby dF_8) ?_
    refine XS.iloadN X0.here hx rfl (hb hby dF_9) rfl ?_
    show sS p e below s₁ m 10 #[rv a1, iv 2, iv xi, iv 0] [(.int xi), (.int (0 : Int32)), (.ref a1)] _
    refine st1 _ ?_
    show sS p e below T1 m 13 #[rv a1, iv 2, iv xi, iv 0] [(.int (own_bf (0 : Int32) xi d0 vi))] _
    refine sg_rk2_13_19 X1 hx hZ hw hby hown ?_
    show sS p e below T1 m 19 #[rv a1, iv 2, iv xi, .val (.int (own_st (0 : Int32) (own_bf (0 : Int32) xi d0 vi)))] [] _
    refine XS.iconst X1.here hx rfl (hb hby dF_19) ?_
    refine XS.iloadN X1.here hx rfl (hb hby dF_20) rfl ?_
    refine XS.icmpNo X1.here hx rfl (hb hby dF_21) rfl (by decide) ?_
    refine XS.aloadN X1.here hx rfl (hb hby dF_24) rfl rfl ?_
    refine XS.iconst X1.here hx rfl (hb hby dF_25) ?_
    refine XS.iloadN X1.here hx rfl (hb hby dF_26) rfl ?_
    show sS p e below T1 m 27 #[rv a1, iv 2, iv xi, .val (.int (own_st (0 : Int32) (own_bf (0 : Int32) xi d0 vi)))] [(.int xi), (.int (1 : Int32)), (.ref a1)] _
    refine st2 _ ?_
    show sS p e below T2 m 30 #[rv a1, iv 2, iv xi, .val (.int (own_st (0 : Int32) (own_bf (0 : Int32) xi d0 vi)))] [(.int (own_bf (1 : Int32) xi d1 vi))] _
    refine sg_rk2_30_36 X2 hx hZ hw hby hown ?_
    show sS p e below T2 m 36 #[rv a1, iv 2, iv xi, .val (.int (own_st (own_st (0 : Int32) (own_bf (0 : Int32) xi d0 vi)) (own_bf (1 : Int32) xi d1 vi)))] [] _
    refine XS.iconst X2.here hx rfl (hb hby dF_36) ?_
    refine XS.iloadN X2.here hx rfl (hb hby dF_37) rfl ?_
    refine XS.icmpYes X2.here hx rfl (pc0 := 38) (pc' := 53) rfl (hb hby dF_38) rfl (by decide) (by decide) (by decide) ?_
    refine XS.iconst X2.here hx rfl (hb hby dF_53) ?_
    refine XS.iloadN X2.here hx rfl (hb hby dF_54) rfl ?_
    refine XS.icmpYes X2.here hx rfl (pc0 := 55) (pc' := 70) rfl (hb hby dF_55) rfl (by decide) (by decide) (by decide) ?_
    show sS p e below T2 m 70 #[rv a1, iv 2, iv xi, .val (.int (own_st (own_st (0 : Int32) (own_bf (0 : Int32) xi d0 vi)) (own_bf (1 : Int32) xi d1 vi)))] [] _
    refine XS.iconst X2.here hx rfl (hb hby dF_70) ?_
    refine XS.iloadN X2.here hx rfl (hb hby dF_71) rfl ?_
    refine XS.icmpYes X2.here hx rfl (pc0 := 72) (pc' := 87) rfl (hb hby dF_72) rfl (by decide) (by decide) (by decide) ?_
    refine XS.iloadN X2.here hx rfl (hb hby dF_87) rfl ?_
    show sS p e below T2 m 88 #[rv a1, iv 2, iv xi, .val (.int (own_st (own_st (0 : Int32) (own_bf (0 : Int32) xi d0 vi)) (own_bf (1 : Int32) xi d1 vi)))] [(.int (own_st (own_st (0 : Int32) (own_bf (0 : Int32) xi d0 vi)) (own_bf (1 : Int32) xi d1 vi)))] _
    exact retI X2 hx Bd.returns (hb hby dF_88) hr
  · show Qrk2 Z a1 k1 d0 d1 d2 d3 d4 xi vi h0 n0 _ T2.heap _
    rw [eh2]
    exact ⟨rfl, N2, rfl⟩
theorem ef_at2 (m : MethodId) (x0 : Addr) (x1 : Int32) (x2 : Int32) : entryFrame m #[(.ref x0), (.int x1), (.int x2)] 3 = mkF m 0 #[rv x0, iv x1, iv x2] [] := by first | (simp [entryFrame, mkF, argsToLocals, Value.category]; done) | rfl
def Qat2 (Z : State) (a1 : Addr) (k1 : ClassId) (d0 d1 d2 d3 d4 : Int32) (r : Int32) (h0 : Heap) (n0 : Nat) (v : Option Value) (h : Heap) (L : List Loc) : Prop := v = some (.int (own_at2 d0 d1 r)) ∧ Fr n0 L ∧ h = h0
set_option maxRecDepth 65536 in
set_option maxHeartbeats 40000000 in
theorem rmat2 (l : Launch) (Z : State) (a0 : Array Value) (hw : ∀ d ∈ tables_1, d.before a0 Z = true) (ws : List Jvm.Cond) (a1 : Addr) (k1 : ClassId) (d0 d1 d2 d3 d4 : Int32) (r : Int32) (h0 : Heap) (n0 : Nat) (Z0 : n0 ≤ h0.size) (V_d : Arv Z h0 a1 k1 .int (5 : Int32) [(.int d0), (.int d1), (.int d2), (.int d3), (.int d4)] (.int (0 : Int32))) :
    MetFree l (⟨cN0, "at", "([III)I"⟩ : MethodName) (head1 (Jvm.Cond.code (⟨cN0, "at", "([III)I"⟩ : MethodName) method_5_code 3 (some .int) :: ws) ({ frames := 2, cells := 0, slots := 0, locals := 29 } : Room)) (fun a U => a = #[(.ref a1), (.int (2 : Int32)), (.int r)] ∧ Z.Warmed39 U.vm ∧ U.heap = h0) (fun _ _ _ _ _ => True) (fun _ U o U' => ∃ v L, o = .returned v ∧ Qat2 Z a1 k1 d0 d1 d2 d3 d4 r h0 n0 v U'.heap L ∧ FrameEnd U o U' L ({ frames := 2, cells := 0, slots := 0, locals := 29 } : Room).cells ({ frames := 2, cells := 0, slots := 0, locals := 29 } : Room).slots) := by
  refine MetFree.of_bodySF (plainFor_of_name pn_1) hisR ?_
  intro p e s m args below meth c s₁ Bd hml0 hP hK
  obtain ⟨rfl, hZ, hh⟩ := hP
  have hx := Bd.exec
  have hby := Bd.bytes
  have hml : c.maxLocals = 3 := hml0
  have hown : s.vm.findClass cN0 = some m.cls := findClass_of_methodNamed Bd.named
  have hnm := (name_of_methodNamed Bd.named Bd.method).1
  have X0 : Stand p l e ({ frames := 2, cells := 0, slots := 0, locals := 29 } : Room) s m #[(.ref a1), (.int (2 : Int32)), (.int r)] below meth c s₁ [] 0 0 := Stand.of_body Bd
  have e0 : s₁.heap = h0 := by rw [← hh, Bd.state]; rfl
  have N0 := Fr.nil n0
  have pre0 : ∀ t, Steps p.tables e below (s₁.setTop (mkF m 0 #[rv a1, iv 2, iv r] [])) t → Steps p.tables e below (s₁.setTop (entryFrame m #[(.ref a1), (.int (2 : Int32)), (.int r)] 3)) t := fun t k => castTop (ef_at2 m a1 (2 : Int32) r) k
  obtain ⟨_, _, ⟨T1, L1, k1, n1⟩, -, X1, ⟨Lc1, hQ1, l1, y1, z1⟩, st1⟩ := Jvm.LawKit.callS X0 hx (y := ⟨cN0, "rank", "([III)I"⟩) hown (mvT hZ (wK hw (i := 26) rfl)) (mvT hZ (wK hw (i := 27) rfl)) (mvT hZ (wK hw (i := 24) rfl)) (mvT hZ (wK hw (i := 28) rfl)) (by decide) (backOf (W := 0) (rmrk2 l Z a0 hw [] a1 k1 d0 d1 d2 d3 d4 (0 : Int32) d0 h0 n0 Z0 V_d ⟨by decide, by decide⟩ rfl) hZ (wK hw (i := 28) rfl) (wK hw (i := 24) rfl) (by decide) (by decide)) (g := (mkF m 8 #[rv a1, iv 2, iv r] [(.int (0 : Int32)), (.int (2 : Int32)), (.ref a1)])) rfl (by rw [hml]; rfl) (argsL := [(.ref a1), (.int (2 : Int32)), (.int (0 : Int32))]) (rest := []) (lenOf pd_3 rfl) rfl (Nat.le_of_eq rfl) (hb hby dG_8) (fun _ _ => ⟨rfl, e0, (by decide : 0 + 0 ≤ _), (by decide : 0 + 0 ≤ _)⟩)
  dsimp only [Pt.U, Pt.locs, Pt.cells, Pt.slots] at X1 l1 y1 z1 st1 hQ1
  subst l1 y1 z1
  obtain ⟨rfl, N1q, eh1⟩ := hQ1
  have N1 := Fr.app N0 N1q
  rcases Bool.eq_false_or_eq_true (if_icmp.holds .ne (own_rk2 d0 d1 (0 : Int32) d0) r) with hc12 | hc12
  · obtain ⟨_, _, ⟨T2, L2, k2, n2⟩, -, X2, ⟨Lc2, hQ2, l2, y2, z2⟩, st2⟩ := Jvm.LawKit.callS X1 hx (y := ⟨cN0, "rank", "([III)I"⟩) hown (mvT hZ (wK hw (i := 26) rfl)) (mvT hZ (wK hw (i := 27) rfl)) (mvT hZ (wK hw (i := 24) rfl)) (mvT hZ (wK hw (i := 28) rfl)) (by decide) (backOf (W := 0) (rmrk2 l Z a0 hw [] a1 k1 d0 d1 d2 d3 d4 (1 : Int32) d1 h0 n0 Z0 V_d ⟨by decide, by decide⟩ rfl) hZ (wK hw (i := 28) rfl) (wK hw (i := 24) rfl) (by decide) (by decide)) (g := (mkF m 25 #[rv a1, iv 2, iv r] [(.int (1 : Int32)), (.int (2 : Int32)), (.ref a1)])) rfl (by rw [hml]; rfl) (argsL := [(.ref a1), (.int (2 : Int32)), (.int (1 : Int32))]) (rest := []) (lenOf pd_3 rfl) rfl (Nat.le_of_eq rfl) (hb hby dG_25) (fun _ _ => ⟨rfl, eh1, (by decide : 0 + 0 ≤ _), (by decide : 0 + 0 ≤ _)⟩)
    dsimp only [Pt.U, Pt.locs, Pt.cells, Pt.slots] at X2 l2 y2 z2 st2 hQ2
    subst l2 y2 z2
    obtain ⟨rfl, N2q, eh2⟩ := hQ2
    have N2 := Fr.app N1 N2q
    rcases Bool.eq_false_or_eq_true (if_icmp.holds .ne (own_rk2 d0 d1 (1 : Int32) d1) r) with hc29 | hc29
    · obtain ⟨fs, hr, hrun, hended, hW, hsame⟩ := X2.leave (v := some (.int (0 : Int32))) (fun h => by rw [Bd.returns] at h; cases h)
      refine ⟨_, _, pre0 _ ?_, hrun, hended, _, _, rfl, ?_, ⟨_, rfl⟩, hW, hsame.mono (by decide) (by decide)⟩
      · show sS p e below s₁ m 0 #[rv a1, iv 2, iv r] [] _
        refine XS.iconst X0.here hx rfl (hb hby dG_0) ?_
        refine XS.iloadN X0.here hx rfl (hb hby dG_1) rfl ?_
        refine XS.icmpNo X0.here hx rfl (hb hby dG_2) rfl (by decide) ?_
        refine XS.aloadN X0.here hx rfl (hb hby dG_5) rfl rfl ?_
        refine XS.iloadN X0.here hx rfl (hb hby dG_6) rfl ?_
        refine XS.iconst X0.here hx rfl (hb hby dG_7) ?_
        show sS p e below s₁ m 8 #[rv a1, iv 2, iv r] [(.int (0 : Int32)), (.int (2 : Int32)), (.ref a1)] _
        refine st1 _ ?_
        show sS p e below T1 m 11 #[rv a1, iv 2, iv r] [(.int (own_rk2 d0 d1 (0 : Int32) d0))] _
        refine XS.iloadN X1.here hx rfl (hb hby dG_11) rfl ?_
        refine XS.icmpYes X1.here hx rfl (pc0 := 12) (pc' := 17) rfl (hb hby dG_12) rfl hc12 (by decide) (by decide) ?_
        refine XS.iconst X1.here hx rfl (hb hby dG_17) ?_
        refine XS.iloadN X1.here hx rfl (hb hby dG_18) rfl ?_
        refine XS.icmpNo X1.here hx rfl (hb hby dG_19) rfl (by decide) ?_
        refine XS.aloadN X1.here hx rfl (hb hby dG_22) rfl rfl ?_
        show sS p e below T1 m 23 #[rv a1, iv 2, iv r] [(.ref a1)] _
        refine XS.iloadN X1.here hx rfl (hb hby dG_23) rfl ?_
        refine XS.iconst X1.here hx rfl (hb hby dG_24) ?_
        show sS p e below T1 m 25 #[rv a1, iv 2, iv r] [(.int (1 : Int32)), (.int (2 : Int32)), (.ref a1)] _
        refine st2 _ ?_
        show sS p e below T2 m 28 #[rv a1, iv 2, iv r] [(.int (own_rk2 d0 d1 (1 : Int32) d1))] _
        refine XS.iloadN X2.here hx rfl (hb hby dG_28) rfl ?_
        refine XS.icmpYes X2.here hx rfl (pc0 := 29) (pc' := 34) rfl (hb hby dG_29) rfl hc29 (by decide) (by decide) ?_
        refine XS.iconst X2.here hx rfl (hb hby dG_34) ?_
        refine XS.iloadN X2.here hx rfl (hb hby dG_35) rfl ?_
        refine XS.icmpYes X2.here hx rfl (pc0 := 36) (pc' := 51) rfl (hb hby dG_36) rfl (by decide) (by decide) (by decide) ?_
        refine XS.iconst X2.here hx rfl (hb hby dG_51) ?_
        show sS p e below T2 m 52 #[rv a1, iv 2, iv r] [(.int (3 : Int32))] _
        refine XS.iloadN X2.here hx rfl (hb hby dG_52) rfl ?_
        refine XS.icmpYes X2.here hx rfl (pc0 := 53) (pc' := 68) rfl (hb hby dG_53) rfl (by decide) (by decide) (by decide) ?_
        refine XS.iconst X2.here hx rfl (hb hby dG_68) ?_
        refine XS.iloadN X2.here hx rfl (hb hby dG_69) rfl ?_
        refine XS.icmpYes X2.here hx rfl (pc0 := 70) (pc' := 85) rfl (hb hby dG_70) rfl (by decide) (by decide) (by decide) ?_
        refine XS.iconst X2.here hx rfl (hb hby dG_85) ?_
        show sS p e below T2 m 86 #[rv a1, iv 2, iv r] [(.int (0 : Int32))] _
        exact retI X2 hx Bd.returns (hb hby dG_86) hr
      · show Qat2 Z a1 k1 d0 d1 d2 d3 d4 r h0 n0 _ T2.heap _
        rw [eh2]
        exact ⟨by unfold own_at2; rw [hc12, hc29]; rfl, N2, rfl⟩
    · obtain ⟨fs, hr, hrun, hended, hW, hsame⟩ := X2.leave (v := some (.int (1 : Int32))) (fun h => by rw [Bd.returns] at h; cases h)
      refine ⟨_, _, pre0 _ ?_, hrun, hended, _, _, rfl, ?_, ⟨_, rfl⟩, hW, hsame.mono (by decide) (by decide)⟩
      · show sS p e below s₁ m 0 #[rv a1, iv 2, iv r] [] _
        refine XS.iconst X0.here hx rfl (hb hby dG_0) ?_
        refine XS.iloadN X0.here hx rfl (hb hby dG_1) rfl ?_
        refine XS.icmpNo X0.here hx rfl (hb hby dG_2) rfl (by decide) ?_
        refine XS.aloadN X0.here hx rfl (hb hby dG_5) rfl rfl ?_
        refine XS.iloadN X0.here hx rfl (hb hby dG_6) rfl ?_
        refine XS.iconst X0.here hx rfl (hb hby dG_7) ?_
        show sS p e below s₁ m 8 #[rv a1, iv 2, iv r] [(.int (0 : Int32)), (.int (2 : Int32)), (.ref a1)] _
        refine st1 _ ?_
        show sS p e below T1 m 11 #[rv a1, iv 2, iv r] [(.int (own_rk2 d0 d1 (0 : Int32) d0))] _
        refine XS.iloadN X1.here hx rfl (hb hby dG_11) rfl ?_
        refine XS.icmpYes X1.here hx rfl (pc0 := 12) (pc' := 17) rfl (hb hby dG_12) rfl hc12 (by decide) (by decide) ?_
        refine XS.iconst X1.here hx rfl (hb hby dG_17) ?_
        refine XS.iloadN X1.here hx rfl (hb hby dG_18) rfl ?_
        refine XS.icmpNo X1.here hx rfl (hb hby dG_19) rfl (by decide) ?_
        refine XS.aloadN X1.here hx rfl (hb hby dG_22) rfl rfl ?_
        show sS p e below T1 m 23 #[rv a1, iv 2, iv r] [(.ref a1)] _
        refine XS.iloadN X1.here hx rfl (hb hby dG_23) rfl ?_
        refine XS.iconst X1.here hx rfl (hb hby dG_24) ?_
        show sS p e below T1 m 25 #[rv a1, iv 2, iv r] [(.int (1 : Int32)), (.int (2 : Int32)), (.ref a1)] _
        refine st2 _ ?_
        show sS p e below T2 m 28 #[rv a1, iv 2, iv r] [(.int (own_rk2 d0 d1 (1 : Int32) d1))] _
        refine XS.iloadN X2.here hx rfl (hb hby dG_28) rfl ?_
        refine XS.icmpNo X2.here hx rfl (hb hby dG_29) rfl hc29 ?_
        refine XS.iconst X2.here hx rfl (hb hby dG_32) ?_
        show sS p e below T2 m 33 #[rv a1, iv 2, iv r] [(.int (1 : Int32))] _
        exact retI X2 hx Bd.returns (hb hby dG_33) hr
      · show Qat2 Z a1 k1 d0 d1 d2 d3 d4 r h0 n0 _ T2.heap _
        rw [eh2]
        exact ⟨by unfold own_at2; rw [hc12, hc29]; rfl, N2, rfl⟩
  · obtain ⟨fs, hr, hrun, hended, hW, hsame⟩ := X1.leave (v := some (.int (0 : Int32))) (fun h => by rw [Bd.returns] at h; cases h)
    refine ⟨_, _, pre0 _ ?_, hrun, hended, _, _, rfl, ?_, ⟨_, rfl⟩, hW, hsame.mono (by decide) (by decide)⟩
    · show sS p e below s₁ m 0 #[rv a1, iv 2, iv r] [] _
      refine XS.iconst X0.here hx rfl (hb hby dG_0) ?_
      refine XS.iloadN X0.here hx rfl (hb hby dG_1) rfl ?_
      refine XS.icmpNo X0.here hx rfl (hb hby dG_2) rfl (by decide) ?_
      refine XS.aloadN X0.here hx rfl (hb hby dG_5) rfl rfl ?_
      refine XS.iloadN X0.here hx rfl (hb hby dG_6) rfl ?_
      refine XS.iconst X0.here hx rfl (hb hby dG_7) ?_
      show sS p e below s₁ m 8 #[rv a1, iv 2, iv r] [(.int (0 : Int32)), (.int (2 : Int32)), (.ref a1)] _
      refine st1 _ ?_
      show sS p e below T1 m 11 #[rv a1, iv 2, iv r] [(.int (own_rk2 d0 d1 (0 : Int32) d0))] _
      refine XS.iloadN X1.here hx rfl (hb hby dG_11) rfl ?_
      refine XS.icmpNo X1.here hx rfl (hb hby dG_12) rfl hc12 ?_
      refine XS.iconst X1.here hx rfl (hb hby dG_15) ?_
      show sS p e below T1 m 16 #[rv a1, iv 2, iv r] [(.int (0 : Int32))] _
      exact retI X1 hx Bd.returns (hb hby dG_16) hr
    · show Qat2 Z a1 k1 d0 d1 d2 d3 d4 r h0 n0 _ T1.heap _
      rw [eh1]
      exact ⟨by unfold own_at2; rw [hc12]; rfl, N1, rfl⟩
theorem ef_rk3 (m : MethodId) (x0 : Addr) (x1 : Int32) (x2 : Int32) : entryFrame m #[(.ref x0), (.int x1), (.int x2)] 4 = mkF m 0 #[rv x0, iv x1, iv x2, .unset] [] := by first | (simp [entryFrame, mkF, argsToLocals, Value.category]; done) | rfl
set_option maxRecDepth 65536 in
set_option maxHeartbeats 4000000 in
theorem sg_rk3_13_19 {p : Program} {l : Launch} {e : Env} {R : Room} {s : State} {m : MethodId} {args : Array Value} {below : List Frame} {meth : Method} {c : Code} {T : State} {locs : List Loc} {cells slots : Nat} {Z : State} {a0 : Array Value} {target : State} {x0 : Addr} {x1 : Int32} {x2 : Int32} {x3 : Int32} {y0 : Int32} (X : Stand p l e R s m args below meth c T locs cells slots) (hx : p.tables.exec = Jvm.exec) (hZ : Z.Warmed39 s.vm) (hw : ∀ d ∈ tables_1, d.before a0 Z = true) (hby : c.code = method_4_code) (hown : s.vm.findClass cN0 = some m.cls)
    (k : Steps p.tables e below (T.setTop (mkF m 19 #[rv x0, iv x1, iv x2, .val (.int (bif (ifCond.holds .eq y0) then x3 else (x3 + (1 : Int32))))] [])) target) : Steps p.tables e below (T.setTop (mkF m 13 #[rv x0, iv x1, iv x2, iv x3] [(.int y0)])) target := by
  show sS p e below T m 13 #[rv x0, iv x1, iv x2, iv x3] [(.int y0)] _
  rcases Bool.eq_false_or_eq_true (ifCond.holds .eq y0) with hc1 | hc1
  · try rw [hc1] at k
    refine XS.ifYes X.here hx rfl (pc0 := 13) (pc' := 19) rfl (hb hby dF_13) rfl hc1 (by decide) (by decide) ?_
    show sS p e below T m 19 #[rv x0, iv x1, iv x2, iv x3] [] _
    exact k
  · try rw [hc1] at k
    refine XS.ifNo X.here hx rfl (hb hby dF_13) rfl hc1 ?_
    show sS p e below T m 16 #[rv x0, iv x1, iv x2, iv x3] [] _
    refine XS.iinc X.here hx rfl (hb hby dF_16) rfl (l' := #[rv x0, iv x1, iv x2, .val (.int (x3 + (1 : Int32)))]) rfl ?_
    exact k
set_option maxRecDepth 65536 in
set_option maxHeartbeats 4000000 in
theorem sg_rk3_30_36 {p : Program} {l : Launch} {e : Env} {R : Room} {s : State} {m : MethodId} {args : Array Value} {below : List Frame} {meth : Method} {c : Code} {T : State} {locs : List Loc} {cells slots : Nat} {Z : State} {a0 : Array Value} {target : State} {x0 : Addr} {x1 : Int32} {x2 : Int32} {x3 : Int32} {y0 : Int32} (X : Stand p l e R s m args below meth c T locs cells slots) (hx : p.tables.exec = Jvm.exec) (hZ : Z.Warmed39 s.vm) (hw : ∀ d ∈ tables_1, d.before a0 Z = true) (hby : c.code = method_4_code) (hown : s.vm.findClass cN0 = some m.cls)
    (k : Steps p.tables e below (T.setTop (mkF m 36 #[rv x0, iv x1, iv x2, .val (.int (bif (ifCond.holds .eq y0) then x3 else (x3 + (1 : Int32))))] [])) target) : Steps p.tables e below (T.setTop (mkF m 30 #[rv x0, iv x1, iv x2, iv x3] [(.int y0)])) target := by
  show sS p e below T m 30 #[rv x0, iv x1, iv x2, iv x3] [(.int y0)] _
  rcases Bool.eq_false_or_eq_true (ifCond.holds .eq y0) with hc1 | hc1
  · try rw [hc1] at k
    refine XS.ifYes X.here hx rfl (pc0 := 30) (pc' := 36) rfl (hb hby dF_30) rfl hc1 (by decide) (by decide) ?_
    show sS p e below T m 36 #[rv x0, iv x1, iv x2, iv x3] [] _
    exact k
  · try rw [hc1] at k
    refine XS.ifNo X.here hx rfl (hb hby dF_30) rfl hc1 ?_
    show sS p e below T m 33 #[rv x0, iv x1, iv x2, iv x3] [] _
    refine XS.iinc X.here hx rfl (hb hby dF_33) rfl (l' := #[rv x0, iv x1, iv x2, .val (.int (x3 + (1 : Int32)))]) rfl ?_
    exact k
set_option maxRecDepth 65536 in
set_option maxHeartbeats 4000000 in
theorem sg_rk3_47_53 {p : Program} {l : Launch} {e : Env} {R : Room} {s : State} {m : MethodId} {args : Array Value} {below : List Frame} {meth : Method} {c : Code} {T : State} {locs : List Loc} {cells slots : Nat} {Z : State} {a0 : Array Value} {target : State} {x0 : Addr} {x1 : Int32} {x2 : Int32} {x3 : Int32} {y0 : Int32} (X : Stand p l e R s m args below meth c T locs cells slots) (hx : p.tables.exec = Jvm.exec) (hZ : Z.Warmed39 s.vm) (hw : ∀ d ∈ tables_1, d.before a0 Z = true) (hby : c.code = method_4_code) (hown : s.vm.findClass cN0 = some m.cls)
    (k : Steps p.tables e below (T.setTop (mkF m 53 #[rv x0, iv x1, iv x2, .val (.int (bif (ifCond.holds .eq y0) then x3 else (x3 + (1 : Int32))))] [])) target) : Steps p.tables e below (T.setTop (mkF m 47 #[rv x0, iv x1, iv x2, iv x3] [(.int y0)])) target := by
  show sS p e below T m 47 #[rv x0, iv x1, iv x2, iv x3] [(.int y0)] _
  rcases Bool.eq_false_or_eq_true (ifCond.holds .eq y0) with hc1 | hc1
  · try rw [hc1] at k
    refine XS.ifYes X.here hx rfl (pc0 := 47) (pc' := 53) rfl (hb hby dF_47) rfl hc1 (by decide) (by decide) ?_
    show sS p e below T m 53 #[rv x0, iv x1, iv x2, iv x3] [] _
    exact k
  · try rw [hc1] at k
    refine XS.ifNo X.here hx rfl (hb hby dF_47) rfl hc1 ?_
    show sS p e below T m 50 #[rv x0, iv x1, iv x2, iv x3] [] _
    refine XS.iinc X.here hx rfl (hb hby dF_50) rfl (l' := #[rv x0, iv x1, iv x2, .val (.int (x3 + (1 : Int32)))]) rfl ?_
    exact k
def Qrk3 (Z : State) (a1 : Addr) (k1 : ClassId) (d0 d1 d2 d3 d4 : Int32) (xi vi : Int32) (h0 : Heap) (n0 : Nat) (v : Option Value) (h : Heap) (L : List Loc) : Prop := v = some (.int (own_rk3 d0 d1 d2 xi vi)) ∧ Fr n0 L ∧ h = h0
set_option maxRecDepth 65536 in
set_option maxHeartbeats 40000000 in
theorem rmrk3 (l : Launch) (Z : State) (a0 : Array Value) (hw : ∀ d ∈ tables_1, d.before a0 Z = true) (ws : List Jvm.Cond) (a1 : Addr) (k1 : ClassId) (d0 d1 d2 d3 d4 : Int32) (xi vi : Int32) (h0 : Heap) (n0 : Nat) (Z0 : n0 ≤ h0.size) (V_d : Arv Z h0 a1 k1 .int (5 : Int32) [(.int d0), (.int d1), (.int d2), (.int d3), (.int d4)] (.int (0 : Int32))) (bi : ¬ xi < 0 ∧ xi < (5 : Int32)) (ei : ([(.int d0), (.int d1), (.int d2), (.int d3), (.int d4)] : List Value).getD xi.toNatClampNeg (.int (0 : Int32)) = .int vi) :
    MetFree l (⟨cN0, "rank", "([III)I"⟩ : MethodName) (head1 (Jvm.Cond.code (⟨cN0, "rank", "([III)I"⟩ : MethodName) method_4_code 4 (some .int) :: ws) ({ frames := 1, cells := 0, slots := 0, locals := 14 } : Room)) (fun a U => a = #[(.ref a1), (.int (3 : Int32)), (.int xi)] ∧ Z.Warmed39 U.vm ∧ U.heap = h0) (fun _ _ _ _ _ => True) (fun _ U o U' => ∃ v L, o = .returned v ∧ Qrk3 Z a1 k1 d0 d1 d2 d3 d4 xi vi h0 n0 v U'.heap L ∧ FrameEnd U o U' L ({ frames := 1, cells := 0, slots := 0, locals := 14 } : Room).cells ({ frames := 1, cells := 0, slots := 0, locals := 14 } : Room).slots) := by
  refine MetFree.of_bodySF (plainFor_of_name pn_1) hisR ?_
  intro p e s m args below meth c s₁ Bd hml0 hP hK
  obtain ⟨rfl, hZ, hh⟩ := hP
  have hx := Bd.exec
  have hby := Bd.bytes
  have hml : c.maxLocals = 4 := hml0
  have hown : s.vm.findClass cN0 = some m.cls := findClass_of_methodNamed Bd.named
  have hnm := (name_of_methodNamed Bd.named Bd.method).1
  have X0 : Stand p l e ({ frames := 1, cells := 0, slots := 0, locals := 14 } : Room) s m #[(.ref a1), (.int (3 : Int32)), (.int xi)] below meth c s₁ [] 0 0 := Stand.of_body Bd
  have e0 : s₁.heap = h0 := by rw [← hh, Bd.state]; rfl
  have N0 := Fr.nil n0
  have pre0 : ∀ t, Steps p.tables e below (s₁.setTop (mkF m 0 #[rv a1, iv 3, iv xi, .unset] [])) t → Steps p.tables e below (s₁.setTop (entryFrame m #[(.ref a1), (.int (3 : Int32)), (.int xi)] 4)) t := fun t k => castTop (ef_rk3 m a1 (3 : Int32) xi) k
  obtain ⟨_, _, ⟨T1, L1, k1, n1⟩, -, X1, ⟨Lc1, hQ1, l1, y1, z1⟩, st1⟩ := Jvm.LawKit.callS X0 hx (y := ⟨cN0, "before", "([III)Z"⟩) hown (mvT hZ (wK hw (i := 29) rfl)) (mvT hZ (wK hw (i := 30) rfl)) (mvT hZ (wK hw (i := 24) rfl)) (mvT hZ (wK hw (i := 31) rfl)) (by decide) (backOf (W := 0) (rmbf l Z a0 hw [] a1 k1 d0 d1 d2 d3 d4 (0 : Int32) xi d0 vi h0 n0 Z0 V_d ⟨by decide, by decide⟩ bi rfl ei) hZ (wK hw (i := 31) rfl) (wK hw (i := 24) rfl) (by decide) (by decide)) (g := (mkF m 10 #[rv a1, iv 3, iv xi, iv 0] [(.int xi), (.int (0 : Int32)), (.ref a1)])) rfl (by rw [hml]; rfl) (argsL := [(.ref a1), (.int (0 : Int32)), (.int xi)]) (rest := []) (lenOf pd_2 rfl) rfl (Nat.le_of_eq rfl) (hb hby dF_10) (fun _ _ => ⟨rfl, e0, (by decide : 0 + 0 ≤ _), (by decide : 0 + 0 ≤ _)⟩)
  dsimp only [Pt.U, Pt.locs, Pt.cells, Pt.slots] at X1 l1 y1 z1 st1 hQ1
  subst l1 y1 z1
  obtain ⟨rfl, N1q, eh1⟩ := hQ1
  have N1 := Fr.app N0 N1q
  obtain ⟨_, _, ⟨T2, L2, k2, n2⟩, -, X2, ⟨Lc2, hQ2, l2, y2, z2⟩, st2⟩ := Jvm.LawKit.callS X1 hx (y := ⟨cN0, "before", "([III)Z"⟩) hown (mvT hZ (wK hw (i := 29) rfl)) (mvT hZ (wK hw (i := 30) rfl)) (mvT hZ (wK hw (i := 24) rfl)) (mvT hZ (wK hw (i := 31) rfl)) (by decide) (backOf (W := 0) (rmbf l Z a0 hw [] a1 k1 d0 d1 d2 d3 d4 (1 : Int32) xi d1 vi h0 n0 Z0 V_d ⟨by decide, by decide⟩ bi rfl ei) hZ (wK hw (i := 31) rfl) (wK hw (i := 24) rfl) (by decide) (by decide)) (g := (mkF m 27 #[rv a1, iv 3, iv xi, .val (.int (own_st (0 : Int32) (own_bf (0 : Int32) xi d0 vi)))] [(.int xi), (.int (1 : Int32)), (.ref a1)])) rfl (by rw [hml]; rfl) (argsL := [(.ref a1), (.int (1 : Int32)), (.int xi)]) (rest := []) (lenOf pd_2 rfl) rfl (Nat.le_of_eq rfl) (hb hby dF_27) (fun _ _ => ⟨rfl, eh1, (by decide : 0 + 0 ≤ _), (by decide : 0 + 0 ≤ _)⟩)
  dsimp only [Pt.U, Pt.locs, Pt.cells, Pt.slots] at X2 l2 y2 z2 st2 hQ2
  subst l2 y2 z2
  obtain ⟨rfl, N2q, eh2⟩ := hQ2
  have N2 := Fr.app N1 N2q
  obtain ⟨_, _, ⟨T3, L3, k3, n3⟩, -, X3, ⟨Lc3, hQ3, l3, y3, z3⟩, st3⟩ := Jvm.LawKit.callS X2 hx (y := ⟨cN0, "before", "([III)Z"⟩) hown (mvT hZ (wK hw (i := 29) rfl)) (mvT hZ (wK hw (i := 30) rfl)) (mvT hZ (wK hw (i := 24) rfl)) (mvT hZ (wK hw (i := 31) rfl)) (by decide) (backOf (W := 0) (rmbf l Z a0 hw [] a1 k1 d0 d1 d2 d3 d4 (2 : Int32) xi d2 vi h0 n0 Z0 V_d ⟨by decide, by decide⟩ bi rfl ei) hZ (wK hw (i := 31) rfl) (wK hw (i := 24) rfl) (by decide) (by decide)) (g := (mkF m 44 #[rv a1, iv 3, iv xi, .val (.int (own_st (own_st (0 : Int32) (own_bf (0 : Int32) xi d0 vi)) (own_bf (1 : Int32) xi d1 vi)))] [(.int xi), (.int (2 : Int32)), (.ref a1)])) rfl (by rw [hml]; rfl) (argsL := [(.ref a1), (.int (2 : Int32)), (.int xi)]) (rest := []) (lenOf pd_2 rfl) rfl (Nat.le_of_eq rfl) (hb hby dF_44) (fun _ _ => ⟨rfl, eh2, (by decide : 0 + 0 ≤ _), (by decide : 0 + 0 ≤ _)⟩)
  dsimp only [Pt.U, Pt.locs, Pt.cells, Pt.slots] at X3 l3 y3 z3 st3 hQ3
  subst l3 y3 z3
  obtain ⟨rfl, N3q, eh3⟩ := hQ3
  have N3 := Fr.app N2 N3q
  obtain ⟨fs, hr, hrun, hended, hW, hsame⟩ := X3.leave (v := some (.int (own_st (own_st (own_st (0 : Int32) (own_bf (0 : Int32) xi d0 vi)) (own_bf (1 : Int32) xi d1 vi)) (own_bf (2 : Int32) xi d2 vi)))) (fun h => by rw [Bd.returns] at h; cases h)
  refine ⟨_, _, pre0 _ ?_, hrun, hended, _, _, rfl, ?_, ⟨_, rfl⟩, hW, hsame.mono (by decide) (by decide)⟩
  · show sS p e below s₁ m 0 #[rv a1, iv 3, iv xi, .unset] [] _
    refine XS.iconst X0.here hx rfl (hb hby dF_0) ?_
    refine XS.istoreN X0.here hx rfl (hb hby dF_1) rfl (l' := #[rv a1, iv 3, iv xi, iv 0]) rfl ?_
    refine XS.iconst X0.here hx rfl (hb hby dF_2) ?_
    refine XS.iloadN X0.here hx rfl (hb hby dF_3) rfl ?_
    refine XS.icmpNo X0.here hx rfl (hb hby dF_4) rfl (by decide) ?_
    refine XS.aloadN X0.here hx rfl (hb hby dF_7) rfl rfl ?_
    show sS p e below s₁ m 8 #[rv a1, iv 3, iv xi, iv 0] [(.ref a1)] _
    refine XS.iconst X0.here hx rfl (hb hby dF_8) ?_
    refine XS.iloadN X0.here hx rfl (hb hby dF_9) rfl ?_
    show sS p e below s₁ m 10 #[rv a1, iv 3, iv xi, iv 0] [(.int xi), (.int (0 : Int32)), (.ref a1)] _
    refine st1 _ ?_
    show sS p e below T1 m 13 #[rv a1, iv 3, iv xi, iv 0] [(.int (own_bf (0 : Int32) xi d0 vi))] _
    refine sg_rk3_13_19 X1 hx hZ hw hby hown ?_
    show sS p e below T1 m 19 #[rv a1, iv 3, iv xi, .val (.int (own_st (0 : Int32) (own_bf (0 : Int32) xi d0 vi)))] [] _
    refine XS.iconst X1.here hx rfl (hb hby dF_19) ?_
    refine XS.iloadN X1.here hx rfl (hb hby dF_20) rfl ?_
    refine XS.icmpNo X1.here hx rfl (hb hby dF_21) rfl (by decide) ?_
    refine XS.aloadN X1.here hx rfl (hb hby dF_24) rfl rfl ?_
    refine XS.iconst X1.here hx rfl (hb hby dF_25) ?_
    refine XS.iloadN X1.here hx rfl (hb hby dF_26) rfl ?_
    show sS p e below T1 m 27 #[rv a1, iv 3, iv xi, .val (.int (own_st (0 : Int32) (own_bf (0 : Int32) xi d0 vi)))] [(.int xi), (.int (1 : Int32)), (.ref a1)] _
    refine st2 _ ?_
    show sS p e below T2 m 30 #[rv a1, iv 3, iv xi, .val (.int (own_st (0 : Int32) (own_bf (0 : Int32) xi d0 vi)))] [(.int (own_bf (1 : Int32) xi d1 vi))] _
    refine sg_rk3_30_36 X2 hx hZ hw hby hown ?_
    show sS p e below T2 m 36 #[rv a1, iv 3, iv xi, .val (.int (own_st (own_st (0 : Int32) (own_bf (0 : Int32) xi d0 vi)) (own_bf (1 : Int32) xi d1 vi)))] [] _
    refine XS.iconst X2.here hx rfl (hb hby dF_36) ?_
    refine XS.iloadN X2.here hx rfl (hb hby dF_37) rfl ?_
    refine XS.icmpNo X2.here hx rfl (hb hby dF_38) rfl (by decide) ?_
    refine XS.aloadN X2.here hx rfl (hb hby dF_41) rfl rfl ?_
    refine XS.iconst X2.here hx rfl (hb hby dF_42) ?_
    refine XS.iloadN X2.here hx rfl (hb hby dF_43) rfl ?_
    show sS p e below T2 m 44 #[rv a1, iv 3, iv xi, .val (.int (own_st (own_st (0 : Int32) (own_bf (0 : Int32) xi d0 vi)) (own_bf (1 : Int32) xi d1 vi)))] [(.int xi), (.int (2 : Int32)), (.ref a1)] _
    refine st3 _ ?_
    show sS p e below T3 m 47 #[rv a1, iv 3, iv xi, .val (.int (own_st (own_st (0 : Int32) (own_bf (0 : Int32) xi d0 vi)) (own_bf (1 : Int32) xi d1 vi)))] [(.int (own_bf (2 : Int32) xi d2 vi))] _
    refine sg_rk3_47_53 X3 hx hZ hw hby hown ?_
    show sS p e below T3 m 53 #[rv a1, iv 3, iv xi, .val (.int (own_st (own_st (own_st (0 : Int32) (own_bf (0 : Int32) xi d0 vi)) (own_bf (1 : Int32) xi d1 vi)) (own_bf (2 : Int32) xi d2 vi)))] [] _
    refine XS.iconst X3.here hx rfl (hb hby dF_53) ?_
    refine XS.iloadN X3.here hx rfl (hb hby dF_54) rfl ?_
    refine XS.icmpYes X3.here hx rfl (pc0 := 55) (pc' := 70) rfl (hb hby dF_55) rfl (by decide) (by decide) (by decide) ?_
    refine XS.iconst X3.here hx rfl (hb hby dF_70) ?_
    refine XS.iloadN X3.here hx rfl (hb hby dF_71) rfl ?_
    refine XS.icmpYes X3.here hx rfl (pc0 := 72) (pc' := 87) rfl (hb hby dF_72) rfl (by decide) (by decide) (by decide) ?_
    show sS p e below T3 m 87 #[rv a1, iv 3, iv xi, .val (.int (own_st (own_st (own_st (0 : Int32) (own_bf (0 : Int32) xi d0 vi)) (own_bf (1 : Int32) xi d1 vi)) (own_bf (2 : Int32) xi d2 vi)))] [] _
    refine XS.iloadN X3.here hx rfl (hb hby dF_87) rfl ?_
    show sS p e below T3 m 88 #[rv a1, iv 3, iv xi, .val (.int (own_st (own_st (own_st (0 : Int32) (own_bf (0 : Int32) xi d0 vi)) (own_bf (1 : Int32) xi d1 vi)) (own_bf (2 : Int32) xi d2 vi)))] [(.int (own_st (own_st (own_st (0 : Int32) (own_bf (0 : Int32) xi d0 vi)) (own_bf (1 : Int32) xi d1 vi)) (own_bf (2 : Int32) xi d2 vi)))] _
    exact retI X3 hx Bd.returns (hb hby dF_88) hr
  · show Qrk3 Z a1 k1 d0 d1 d2 d3 d4 xi vi h0 n0 _ T3.heap _
    rw [eh3]
    exact ⟨rfl, N3, rfl⟩
theorem ef_at3 (m : MethodId) (x0 : Addr) (x1 : Int32) (x2 : Int32) : entryFrame m #[(.ref x0), (.int x1), (.int x2)] 3 = mkF m 0 #[rv x0, iv x1, iv x2] [] := by first | (simp [entryFrame, mkF, argsToLocals, Value.category]; done) | rfl
def Qat3 (Z : State) (a1 : Addr) (k1 : ClassId) (d0 d1 d2 d3 d4 : Int32) (r : Int32) (h0 : Heap) (n0 : Nat) (v : Option Value) (h : Heap) (L : List Loc) : Prop := v = some (.int (own_at3 d0 d1 d2 r)) ∧ Fr n0 L ∧ h = h0
set_option maxRecDepth 65536 in
set_option maxHeartbeats 40000000 in
theorem rmat3 (l : Launch) (Z : State) (a0 : Array Value) (hw : ∀ d ∈ tables_1, d.before a0 Z = true) (ws : List Jvm.Cond) (a1 : Addr) (k1 : ClassId) (d0 d1 d2 d3 d4 : Int32) (r : Int32) (h0 : Heap) (n0 : Nat) (Z0 : n0 ≤ h0.size) (V_d : Arv Z h0 a1 k1 .int (5 : Int32) [(.int d0), (.int d1), (.int d2), (.int d3), (.int d4)] (.int (0 : Int32))) :
    MetFree l (⟨cN0, "at", "([III)I"⟩ : MethodName) (head1 (Jvm.Cond.code (⟨cN0, "at", "([III)I"⟩ : MethodName) method_5_code 3 (some .int) :: ws) ({ frames := 2, cells := 0, slots := 0, locals := 29 } : Room)) (fun a U => a = #[(.ref a1), (.int (3 : Int32)), (.int r)] ∧ Z.Warmed39 U.vm ∧ U.heap = h0) (fun _ _ _ _ _ => True) (fun _ U o U' => ∃ v L, o = .returned v ∧ Qat3 Z a1 k1 d0 d1 d2 d3 d4 r h0 n0 v U'.heap L ∧ FrameEnd U o U' L ({ frames := 2, cells := 0, slots := 0, locals := 29 } : Room).cells ({ frames := 2, cells := 0, slots := 0, locals := 29 } : Room).slots) := by
  refine MetFree.of_bodySF (plainFor_of_name pn_1) hisR ?_
  intro p e s m args below meth c s₁ Bd hml0 hP hK
  obtain ⟨rfl, hZ, hh⟩ := hP
  have hx := Bd.exec
  have hby := Bd.bytes
  have hml : c.maxLocals = 3 := hml0
  have hown : s.vm.findClass cN0 = some m.cls := findClass_of_methodNamed Bd.named
  have hnm := (name_of_methodNamed Bd.named Bd.method).1
  have X0 : Stand p l e ({ frames := 2, cells := 0, slots := 0, locals := 29 } : Room) s m #[(.ref a1), (.int (3 : Int32)), (.int r)] below meth c s₁ [] 0 0 := Stand.of_body Bd
  have e0 : s₁.heap = h0 := by rw [← hh, Bd.state]; rfl
  have N0 := Fr.nil n0
  have pre0 : ∀ t, Steps p.tables e below (s₁.setTop (mkF m 0 #[rv a1, iv 3, iv r] [])) t → Steps p.tables e below (s₁.setTop (entryFrame m #[(.ref a1), (.int (3 : Int32)), (.int r)] 3)) t := fun t k => castTop (ef_at3 m a1 (3 : Int32) r) k
  obtain ⟨_, _, ⟨T1, L1, k1, n1⟩, -, X1, ⟨Lc1, hQ1, l1, y1, z1⟩, st1⟩ := Jvm.LawKit.callS X0 hx (y := ⟨cN0, "rank", "([III)I"⟩) hown (mvT hZ (wK hw (i := 26) rfl)) (mvT hZ (wK hw (i := 27) rfl)) (mvT hZ (wK hw (i := 24) rfl)) (mvT hZ (wK hw (i := 28) rfl)) (by decide) (backOf (W := 0) (rmrk3 l Z a0 hw [] a1 k1 d0 d1 d2 d3 d4 (0 : Int32) d0 h0 n0 Z0 V_d ⟨by decide, by decide⟩ rfl) hZ (wK hw (i := 28) rfl) (wK hw (i := 24) rfl) (by decide) (by decide)) (g := (mkF m 8 #[rv a1, iv 3, iv r] [(.int (0 : Int32)), (.int (3 : Int32)), (.ref a1)])) rfl (by rw [hml]; rfl) (argsL := [(.ref a1), (.int (3 : Int32)), (.int (0 : Int32))]) (rest := []) (lenOf pd_3 rfl) rfl (Nat.le_of_eq rfl) (hb hby dG_8) (fun _ _ => ⟨rfl, e0, (by decide : 0 + 0 ≤ _), (by decide : 0 + 0 ≤ _)⟩)
  dsimp only [Pt.U, Pt.locs, Pt.cells, Pt.slots] at X1 l1 y1 z1 st1 hQ1
  subst l1 y1 z1
  obtain ⟨rfl, N1q, eh1⟩ := hQ1
  have N1 := Fr.app N0 N1q
  rcases Bool.eq_false_or_eq_true (if_icmp.holds .ne (own_rk3 d0 d1 d2 (0 : Int32) d0) r) with hc12 | hc12
  · obtain ⟨_, _, ⟨T2, L2, k2, n2⟩, -, X2, ⟨Lc2, hQ2, l2, y2, z2⟩, st2⟩ := Jvm.LawKit.callS X1 hx (y := ⟨cN0, "rank", "([III)I"⟩) hown (mvT hZ (wK hw (i := 26) rfl)) (mvT hZ (wK hw (i := 27) rfl)) (mvT hZ (wK hw (i := 24) rfl)) (mvT hZ (wK hw (i := 28) rfl)) (by decide) (backOf (W := 0) (rmrk3 l Z a0 hw [] a1 k1 d0 d1 d2 d3 d4 (1 : Int32) d1 h0 n0 Z0 V_d ⟨by decide, by decide⟩ rfl) hZ (wK hw (i := 28) rfl) (wK hw (i := 24) rfl) (by decide) (by decide)) (g := (mkF m 25 #[rv a1, iv 3, iv r] [(.int (1 : Int32)), (.int (3 : Int32)), (.ref a1)])) rfl (by rw [hml]; rfl) (argsL := [(.ref a1), (.int (3 : Int32)), (.int (1 : Int32))]) (rest := []) (lenOf pd_3 rfl) rfl (Nat.le_of_eq rfl) (hb hby dG_25) (fun _ _ => ⟨rfl, eh1, (by decide : 0 + 0 ≤ _), (by decide : 0 + 0 ≤ _)⟩)
    dsimp only [Pt.U, Pt.locs, Pt.cells, Pt.slots] at X2 l2 y2 z2 st2 hQ2
    subst l2 y2 z2
    obtain ⟨rfl, N2q, eh2⟩ := hQ2
    have N2 := Fr.app N1 N2q
    rcases Bool.eq_false_or_eq_true (if_icmp.holds .ne (own_rk3 d0 d1 d2 (1 : Int32) d1) r) with hc29 | hc29
    · obtain ⟨_, _, ⟨T3, L3, k3, n3⟩, -, X3, ⟨Lc3, hQ3, l3, y3, z3⟩, st3⟩ := Jvm.LawKit.callS X2 hx (y := ⟨cN0, "rank", "([III)I"⟩) hown (mvT hZ (wK hw (i := 26) rfl)) (mvT hZ (wK hw (i := 27) rfl)) (mvT hZ (wK hw (i := 24) rfl)) (mvT hZ (wK hw (i := 28) rfl)) (by decide) (backOf (W := 0) (rmrk3 l Z a0 hw [] a1 k1 d0 d1 d2 d3 d4 (2 : Int32) d2 h0 n0 Z0 V_d ⟨by decide, by decide⟩ rfl) hZ (wK hw (i := 28) rfl) (wK hw (i := 24) rfl) (by decide) (by decide)) (g := (mkF m 42 #[rv a1, iv 3, iv r] [(.int (2 : Int32)), (.int (3 : Int32)), (.ref a1)])) rfl (by rw [hml]; rfl) (argsL := [(.ref a1), (.int (3 : Int32)), (.int (2 : Int32))]) (rest := []) (lenOf pd_3 rfl) rfl (Nat.le_of_eq rfl) (hb hby dG_42) (fun _ _ => ⟨rfl, eh2, (by decide : 0 + 0 ≤ _), (by decide : 0 + 0 ≤ _)⟩)
      dsimp only [Pt.U, Pt.locs, Pt.cells, Pt.slots] at X3 l3 y3 z3 st3 hQ3
      subst l3 y3 z3
      obtain ⟨rfl, N3q, eh3⟩ := hQ3
      have N3 := Fr.app N2 N3q
      rcases Bool.eq_false_or_eq_true (if_icmp.holds .ne (own_rk3 d0 d1 d2 (2 : Int32) d2) r) with hc46 | hc46
      · obtain ⟨fs, hr, hrun, hended, hW, hsame⟩ := X3.leave (v := some (.int (0 : Int32))) (fun h => by rw [Bd.returns] at h; cases h)
        refine ⟨_, _, pre0 _ ?_, hrun, hended, _, _, rfl, ?_, ⟨_, rfl⟩, hW, hsame.mono (by decide) (by decide)⟩
        · show sS p e below s₁ m 0 #[rv a1, iv 3, iv r] [] _
          refine XS.iconst X0.here hx rfl (hb hby dG_0) ?_
          refine XS.iloadN X0.here hx rfl (hb hby dG_1) rfl ?_
          refine XS.icmpNo X0.here hx rfl (hb hby dG_2) rfl (by decide) ?_
          refine XS.aloadN X0.here hx rfl (hb hby dG_5) rfl rfl ?_
          refine XS.iloadN X0.here hx rfl (hb hby dG_6) rfl ?_
          refine XS.iconst X0.here hx rfl (hb hby dG_7) ?_
          show sS p e below s₁ m 8 #[rv a1, iv 3, iv r] [(.int (0 : Int32)), (.int (3 : Int32)), (.ref a1)] _
          refine st1 _ ?_
          show sS p e below T1 m 11 #[rv a1, iv 3, iv r] [(.int (own_rk3 d0 d1 d2 (0 : Int32) d0))] _
          refine XS.iloadN X1.here hx rfl (hb hby dG_11) rfl ?_
          refine XS.icmpYes X1.here hx rfl (pc0 := 12) (pc' := 17) rfl (hb hby dG_12) rfl hc12 (by decide) (by decide) ?_
          refine XS.iconst X1.here hx rfl (hb hby dG_17) ?_
          refine XS.iloadN X1.here hx rfl (hb hby dG_18) rfl ?_
          refine XS.icmpNo X1.here hx rfl (hb hby dG_19) rfl (by decide) ?_
          refine XS.aloadN X1.here hx rfl (hb hby dG_22) rfl rfl ?_
          show sS p e below T1 m 23 #[rv a1, iv 3, iv r] [(.ref a1)] _
          refine XS.iloadN X1.here hx rfl (hb hby dG_23) rfl ?_
          refine XS.iconst X1.here hx rfl (hb hby dG_24) ?_
          show sS p e below T1 m 25 #[rv a1, iv 3, iv r] [(.int (1 : Int32)), (.int (3 : Int32)), (.ref a1)] _
          refine st2 _ ?_
          show sS p e below T2 m 28 #[rv a1, iv 3, iv r] [(.int (own_rk3 d0 d1 d2 (1 : Int32) d1))] _
          refine XS.iloadN X2.here hx rfl (hb hby dG_28) rfl ?_
          refine XS.icmpYes X2.here hx rfl (pc0 := 29) (pc' := 34) rfl (hb hby dG_29) rfl hc29 (by decide) (by decide) ?_
          refine XS.iconst X2.here hx rfl (hb hby dG_34) ?_
          refine XS.iloadN X2.here hx rfl (hb hby dG_35) rfl ?_
          refine XS.icmpNo X2.here hx rfl (hb hby dG_36) rfl (by decide) ?_
          refine XS.aloadN X2.here hx rfl (hb hby dG_39) rfl rfl ?_
          show sS p e below T2 m 40 #[rv a1, iv 3, iv r] [(.ref a1)] _
          refine XS.iloadN X2.here hx rfl (hb hby dG_40) rfl ?_
          refine XS.iconst X2.here hx rfl (hb hby dG_41) ?_
          show sS p e below T2 m 42 #[rv a1, iv 3, iv r] [(.int (2 : Int32)), (.int (3 : Int32)), (.ref a1)] _
          refine st3 _ ?_
          show sS p e below T3 m 45 #[rv a1, iv 3, iv r] [(.int (own_rk3 d0 d1 d2 (2 : Int32) d2))] _
          refine XS.iloadN X3.here hx rfl (hb hby dG_45) rfl ?_
          refine XS.icmpYes X3.here hx rfl (pc0 := 46) (pc' := 51) rfl (hb hby dG_46) rfl hc46 (by decide) (by decide) ?_
          refine XS.iconst X3.here hx rfl (hb hby dG_51) ?_
          refine XS.iloadN X3.here hx rfl (hb hby dG_52) rfl ?_
          refine XS.icmpYes X3.here hx rfl (pc0 := 53) (pc' := 68) rfl (hb hby dG_53) rfl (by decide) (by decide) (by decide) ?_
          refine XS.iconst X3.here hx rfl (hb hby dG_68) ?_
          show sS p e below T3 m 69 #[rv a1, iv 3, iv r] [(.int (4 : Int32))] _
          refine XS.iloadN X3.here hx rfl (hb hby dG_69) rfl ?_
          refine XS.icmpYes X3.here hx rfl (pc0 := 70) (pc' := 85) rfl (hb hby dG_70) rfl (by decide) (by decide) (by decide) ?_
          refine XS.iconst X3.here hx rfl (hb hby dG_85) ?_
          show sS p e below T3 m 86 #[rv a1, iv 3, iv r] [(.int (0 : Int32))] _
          exact retI X3 hx Bd.returns (hb hby dG_86) hr
        · show Qat3 Z a1 k1 d0 d1 d2 d3 d4 r h0 n0 _ T3.heap _
          rw [eh3]
          exact ⟨by unfold own_at3; rw [hc12, hc29, hc46]; rfl, N3, rfl⟩
      · obtain ⟨fs, hr, hrun, hended, hW, hsame⟩ := X3.leave (v := some (.int (2 : Int32))) (fun h => by rw [Bd.returns] at h; cases h)
        refine ⟨_, _, pre0 _ ?_, hrun, hended, _, _, rfl, ?_, ⟨_, rfl⟩, hW, hsame.mono (by decide) (by decide)⟩
        · show sS p e below s₁ m 0 #[rv a1, iv 3, iv r] [] _
          refine XS.iconst X0.here hx rfl (hb hby dG_0) ?_
          refine XS.iloadN X0.here hx rfl (hb hby dG_1) rfl ?_
          refine XS.icmpNo X0.here hx rfl (hb hby dG_2) rfl (by decide) ?_
          refine XS.aloadN X0.here hx rfl (hb hby dG_5) rfl rfl ?_
          refine XS.iloadN X0.here hx rfl (hb hby dG_6) rfl ?_
          refine XS.iconst X0.here hx rfl (hb hby dG_7) ?_
          show sS p e below s₁ m 8 #[rv a1, iv 3, iv r] [(.int (0 : Int32)), (.int (3 : Int32)), (.ref a1)] _
          refine st1 _ ?_
          show sS p e below T1 m 11 #[rv a1, iv 3, iv r] [(.int (own_rk3 d0 d1 d2 (0 : Int32) d0))] _
          refine XS.iloadN X1.here hx rfl (hb hby dG_11) rfl ?_
          refine XS.icmpYes X1.here hx rfl (pc0 := 12) (pc' := 17) rfl (hb hby dG_12) rfl hc12 (by decide) (by decide) ?_
          refine XS.iconst X1.here hx rfl (hb hby dG_17) ?_
          refine XS.iloadN X1.here hx rfl (hb hby dG_18) rfl ?_
          refine XS.icmpNo X1.here hx rfl (hb hby dG_19) rfl (by decide) ?_
          refine XS.aloadN X1.here hx rfl (hb hby dG_22) rfl rfl ?_
          show sS p e below T1 m 23 #[rv a1, iv 3, iv r] [(.ref a1)] _
          refine XS.iloadN X1.here hx rfl (hb hby dG_23) rfl ?_
          refine XS.iconst X1.here hx rfl (hb hby dG_24) ?_
          show sS p e below T1 m 25 #[rv a1, iv 3, iv r] [(.int (1 : Int32)), (.int (3 : Int32)), (.ref a1)] _
          refine st2 _ ?_
          show sS p e below T2 m 28 #[rv a1, iv 3, iv r] [(.int (own_rk3 d0 d1 d2 (1 : Int32) d1))] _
          refine XS.iloadN X2.here hx rfl (hb hby dG_28) rfl ?_
          refine XS.icmpYes X2.here hx rfl (pc0 := 29) (pc' := 34) rfl (hb hby dG_29) rfl hc29 (by decide) (by decide) ?_
          refine XS.iconst X2.here hx rfl (hb hby dG_34) ?_
          refine XS.iloadN X2.here hx rfl (hb hby dG_35) rfl ?_
          refine XS.icmpNo X2.here hx rfl (hb hby dG_36) rfl (by decide) ?_
          refine XS.aloadN X2.here hx rfl (hb hby dG_39) rfl rfl ?_
          show sS p e below T2 m 40 #[rv a1, iv 3, iv r] [(.ref a1)] _
          refine XS.iloadN X2.here hx rfl (hb hby dG_40) rfl ?_
          refine XS.iconst X2.here hx rfl (hb hby dG_41) ?_
          show sS p e below T2 m 42 #[rv a1, iv 3, iv r] [(.int (2 : Int32)), (.int (3 : Int32)), (.ref a1)] _
          refine st3 _ ?_
          show sS p e below T3 m 45 #[rv a1, iv 3, iv r] [(.int (own_rk3 d0 d1 d2 (2 : Int32) d2))] _
          refine XS.iloadN X3.here hx rfl (hb hby dG_45) rfl ?_
          refine XS.icmpNo X3.here hx rfl (hb hby dG_46) rfl hc46 ?_
          refine XS.iconst X3.here hx rfl (hb hby dG_49) ?_
          show sS p e below T3 m 50 #[rv a1, iv 3, iv r] [(.int (2 : Int32))] _
          exact retI X3 hx Bd.returns (hb hby dG_50) hr
        · show Qat3 Z a1 k1 d0 d1 d2 d3 d4 r h0 n0 _ T3.heap _
          rw [eh3]
          exact ⟨by unfold own_at3; rw [hc12, hc29, hc46]; rfl, N3, rfl⟩
    · obtain ⟨fs, hr, hrun, hended, hW, hsame⟩ := X2.leave (v := some (.int (1 : Int32))) (fun h => by rw [Bd.returns] at h; cases h)
      refine ⟨_, _, pre0 _ ?_, hrun, hended, _, _, rfl, ?_, ⟨_, rfl⟩, hW, hsame.mono (by decide) (by decide)⟩
      · show sS p e below s₁ m 0 #[rv a1, iv 3, iv r] [] _
        refine XS.iconst X0.here hx rfl (hb hby dG_0) ?_
        refine XS.iloadN X0.here hx rfl (hb hby dG_1) rfl ?_
        refine XS.icmpNo X0.here hx rfl (hb hby dG_2) rfl (by decide) ?_
        refine XS.aloadN X0.here hx rfl (hb hby dG_5) rfl rfl ?_
        refine XS.iloadN X0.here hx rfl (hb hby dG_6) rfl ?_
        refine XS.iconst X0.here hx rfl (hb hby dG_7) ?_
        show sS p e below s₁ m 8 #[rv a1, iv 3, iv r] [(.int (0 : Int32)), (.int (3 : Int32)), (.ref a1)] _
        refine st1 _ ?_
        show sS p e below T1 m 11 #[rv a1, iv 3, iv r] [(.int (own_rk3 d0 d1 d2 (0 : Int32) d0))] _
        refine XS.iloadN X1.here hx rfl (hb hby dG_11) rfl ?_
        refine XS.icmpYes X1.here hx rfl (pc0 := 12) (pc' := 17) rfl (hb hby dG_12) rfl hc12 (by decide) (by decide) ?_
        refine XS.iconst X1.here hx rfl (hb hby dG_17) ?_
        refine XS.iloadN X1.here hx rfl (hb hby dG_18) rfl ?_
        refine XS.icmpNo X1.here hx rfl (hb hby dG_19) rfl (by decide) ?_
        refine XS.aloadN X1.here hx rfl (hb hby dG_22) rfl rfl ?_
        show sS p e below T1 m 23 #[rv a1, iv 3, iv r] [(.ref a1)] _
        refine XS.iloadN X1.here hx rfl (hb hby dG_23) rfl ?_
        refine XS.iconst X1.here hx rfl (hb hby dG_24) ?_
        show sS p e below T1 m 25 #[rv a1, iv 3, iv r] [(.int (1 : Int32)), (.int (3 : Int32)), (.ref a1)] _
        refine st2 _ ?_
        show sS p e below T2 m 28 #[rv a1, iv 3, iv r] [(.int (own_rk3 d0 d1 d2 (1 : Int32) d1))] _
        refine XS.iloadN X2.here hx rfl (hb hby dG_28) rfl ?_
        refine XS.icmpNo X2.here hx rfl (hb hby dG_29) rfl hc29 ?_
        refine XS.iconst X2.here hx rfl (hb hby dG_32) ?_
        show sS p e below T2 m 33 #[rv a1, iv 3, iv r] [(.int (1 : Int32))] _
        exact retI X2 hx Bd.returns (hb hby dG_33) hr
      · show Qat3 Z a1 k1 d0 d1 d2 d3 d4 r h0 n0 _ T2.heap _
        rw [eh2]
        exact ⟨by unfold own_at3; rw [hc12, hc29]; rfl, N2, rfl⟩
  · obtain ⟨fs, hr, hrun, hended, hW, hsame⟩ := X1.leave (v := some (.int (0 : Int32))) (fun h => by rw [Bd.returns] at h; cases h)
    refine ⟨_, _, pre0 _ ?_, hrun, hended, _, _, rfl, ?_, ⟨_, rfl⟩, hW, hsame.mono (by decide) (by decide)⟩
    · show sS p e below s₁ m 0 #[rv a1, iv 3, iv r] [] _
      refine XS.iconst X0.here hx rfl (hb hby dG_0) ?_
      refine XS.iloadN X0.here hx rfl (hb hby dG_1) rfl ?_
      refine XS.icmpNo X0.here hx rfl (hb hby dG_2) rfl (by decide) ?_
      refine XS.aloadN X0.here hx rfl (hb hby dG_5) rfl rfl ?_
      refine XS.iloadN X0.here hx rfl (hb hby dG_6) rfl ?_
      refine XS.iconst X0.here hx rfl (hb hby dG_7) ?_
      show sS p e below s₁ m 8 #[rv a1, iv 3, iv r] [(.int (0 : Int32)), (.int (3 : Int32)), (.ref a1)] _
      refine st1 _ ?_
      show sS p e below T1 m 11 #[rv a1, iv 3, iv r] [(.int (own_rk3 d0 d1 d2 (0 : Int32) d0))] _
      refine XS.iloadN X1.here hx rfl (hb hby dG_11) rfl ?_
      refine XS.icmpNo X1.here hx rfl (hb hby dG_12) rfl hc12 ?_
      refine XS.iconst X1.here hx rfl (hb hby dG_15) ?_
      show sS p e below T1 m 16 #[rv a1, iv 3, iv r] [(.int (0 : Int32))] _
      exact retI X1 hx Bd.returns (hb hby dG_16) hr
    · show Qat3 Z a1 k1 d0 d1 d2 d3 d4 r h0 n0 _ T1.heap _
      rw [eh1]
      exact ⟨by unfold own_at3; rw [hc12]; rfl, N1, rfl⟩
theorem ef_rk4 (m : MethodId) (x0 : Addr) (x1 : Int32) (x2 : Int32) : entryFrame m #[(.ref x0), (.int x1), (.int x2)] 4 = mkF m 0 #[rv x0, iv x1, iv x2, .unset] [] := by first | (simp [entryFrame, mkF, argsToLocals, Value.category]; done) | rfl
set_option maxRecDepth 65536 in
set_option maxHeartbeats 4000000 in
theorem sg_rk4_13_19 {p : Program} {l : Launch} {e : Env} {R : Room} {s : State} {m : MethodId} {args : Array Value} {below : List Frame} {meth : Method} {c : Code} {T : State} {locs : List Loc} {cells slots : Nat} {Z : State} {a0 : Array Value} {target : State} {x0 : Addr} {x1 : Int32} {x2 : Int32} {x3 : Int32} {y0 : Int32} (X : Stand p l e R s m args below meth c T locs cells slots) (hx : p.tables.exec = Jvm.exec) (hZ : Z.Warmed39 s.vm) (hw : ∀ d ∈ tables_1, d.before a0 Z = true) (hby : c.code = method_4_code) (hown : s.vm.findClass cN0 = some m.cls)
    (k : Steps p.tables e below (T.setTop (mkF m 19 #[rv x0, iv x1, iv x2, .val (.int (bif (ifCond.holds .eq y0) then x3 else (x3 + (1 : Int32))))] [])) target) : Steps p.tables e below (T.setTop (mkF m 13 #[rv x0, iv x1, iv x2, iv x3] [(.int y0)])) target := by
  show sS p e below T m 13 #[rv x0, iv x1, iv x2, iv x3] [(.int y0)] _
  rcases Bool.eq_false_or_eq_true (ifCond.holds .eq y0) with hc1 | hc1
  · try rw [hc1] at k
    refine XS.ifYes X.here hx rfl (pc0 := 13) (pc' := 19) rfl (hb hby dF_13) rfl hc1 (by decide) (by decide) ?_
    show sS p e below T m 19 #[rv x0, iv x1, iv x2, iv x3] [] _
    exact k
  · try rw [hc1] at k
    refine XS.ifNo X.here hx rfl (hb hby dF_13) rfl hc1 ?_
    show sS p e below T m 16 #[rv x0, iv x1, iv x2, iv x3] [] _
    refine XS.iinc X.here hx rfl (hb hby dF_16) rfl (l' := #[rv x0, iv x1, iv x2, .val (.int (x3 + (1 : Int32)))]) rfl ?_
    exact k
set_option maxRecDepth 65536 in
set_option maxHeartbeats 4000000 in
theorem sg_rk4_30_36 {p : Program} {l : Launch} {e : Env} {R : Room} {s : State} {m : MethodId} {args : Array Value} {below : List Frame} {meth : Method} {c : Code} {T : State} {locs : List Loc} {cells slots : Nat} {Z : State} {a0 : Array Value} {target : State} {x0 : Addr} {x1 : Int32} {x2 : Int32} {x3 : Int32} {y0 : Int32} (X : Stand p l e R s m args below meth c T locs cells slots) (hx : p.tables.exec = Jvm.exec) (hZ : Z.Warmed39 s.vm) (hw : ∀ d ∈ tables_1, d.before a0 Z = true) (hby : c.code = method_4_code) (hown : s.vm.findClass cN0 = some m.cls)
    (k : Steps p.tables e below (T.setTop (mkF m 36 #[rv x0, iv x1, iv x2, .val (.int (bif (ifCond.holds .eq y0) then x3 else (x3 + (1 : Int32))))] [])) target) : Steps p.tables e below (T.setTop (mkF m 30 #[rv x0, iv x1, iv x2, iv x3] [(.int y0)])) target := by
  show sS p e below T m 30 #[rv x0, iv x1, iv x2, iv x3] [(.int y0)] _
  rcases Bool.eq_false_or_eq_true (ifCond.holds .eq y0) with hc1 | hc1
  · try rw [hc1] at k
    refine XS.ifYes X.here hx rfl (pc0 := 30) (pc' := 36) rfl (hb hby dF_30) rfl hc1 (by decide) (by decide) ?_
    show sS p e below T m 36 #[rv x0, iv x1, iv x2, iv x3] [] _
    exact k
  · try rw [hc1] at k
    refine XS.ifNo X.here hx rfl (hb hby dF_30) rfl hc1 ?_
    show sS p e below T m 33 #[rv x0, iv x1, iv x2, iv x3] [] _
    refine XS.iinc X.here hx rfl (hb hby dF_33) rfl (l' := #[rv x0, iv x1, iv x2, .val (.int (x3 + (1 : Int32)))]) rfl ?_
    exact k
set_option maxRecDepth 65536 in
set_option maxHeartbeats 4000000 in
theorem sg_rk4_47_53 {p : Program} {l : Launch} {e : Env} {R : Room} {s : State} {m : MethodId} {args : Array Value} {below : List Frame} {meth : Method} {c : Code} {T : State} {locs : List Loc} {cells slots : Nat} {Z : State} {a0 : Array Value} {target : State} {x0 : Addr} {x1 : Int32} {x2 : Int32} {x3 : Int32} {y0 : Int32} (X : Stand p l e R s m args below meth c T locs cells slots) (hx : p.tables.exec = Jvm.exec) (hZ : Z.Warmed39 s.vm) (hw : ∀ d ∈ tables_1, d.before a0 Z = true) (hby : c.code = method_4_code) (hown : s.vm.findClass cN0 = some m.cls)
    (k : Steps p.tables e below (T.setTop (mkF m 53 #[rv x0, iv x1, iv x2, .val (.int (bif (ifCond.holds .eq y0) then x3 else (x3 + (1 : Int32))))] [])) target) : Steps p.tables e below (T.setTop (mkF m 47 #[rv x0, iv x1, iv x2, iv x3] [(.int y0)])) target := by
  show sS p e below T m 47 #[rv x0, iv x1, iv x2, iv x3] [(.int y0)] _
  rcases Bool.eq_false_or_eq_true (ifCond.holds .eq y0) with hc1 | hc1
  · try rw [hc1] at k
    refine XS.ifYes X.here hx rfl (pc0 := 47) (pc' := 53) rfl (hb hby dF_47) rfl hc1 (by decide) (by decide) ?_
    show sS p e below T m 53 #[rv x0, iv x1, iv x2, iv x3] [] _
    exact k
  · try rw [hc1] at k
    refine XS.ifNo X.here hx rfl (hb hby dF_47) rfl hc1 ?_
    show sS p e below T m 50 #[rv x0, iv x1, iv x2, iv x3] [] _
    refine XS.iinc X.here hx rfl (hb hby dF_50) rfl (l' := #[rv x0, iv x1, iv x2, .val (.int (x3 + (1 : Int32)))]) rfl ?_
    exact k
set_option maxRecDepth 65536 in
set_option maxHeartbeats 4000000 in
theorem sg_rk4_64_70 {p : Program} {l : Launch} {e : Env} {R : Room} {s : State} {m : MethodId} {args : Array Value} {below : List Frame} {meth : Method} {c : Code} {T : State} {locs : List Loc} {cells slots : Nat} {Z : State} {a0 : Array Value} {target : State} {x0 : Addr} {x1 : Int32} {x2 : Int32} {x3 : Int32} {y0 : Int32} (X : Stand p l e R s m args below meth c T locs cells slots) (hx : p.tables.exec = Jvm.exec) (hZ : Z.Warmed39 s.vm) (hw : ∀ d ∈ tables_1, d.before a0 Z = true) (hby : c.code = method_4_code) (hown : s.vm.findClass cN0 = some m.cls)
    (k : Steps p.tables e below (T.setTop (mkF m 70 #[rv x0, iv x1, iv x2, .val (.int (bif (ifCond.holds .eq y0) then x3 else (x3 + (1 : Int32))))] [])) target) : Steps p.tables e below (T.setTop (mkF m 64 #[rv x0, iv x1, iv x2, iv x3] [(.int y0)])) target := by
  show sS p e below T m 64 #[rv x0, iv x1, iv x2, iv x3] [(.int y0)] _
  rcases Bool.eq_false_or_eq_true (ifCond.holds .eq y0) with hc1 | hc1
  · try rw [hc1] at k
    refine XS.ifYes X.here hx rfl (pc0 := 64) (pc' := 70) rfl (hb hby dF_64) rfl hc1 (by decide) (by decide) ?_
    show sS p e below T m 70 #[rv x0, iv x1, iv x2, iv x3] [] _
    exact k
  · try rw [hc1] at k
    refine XS.ifNo X.here hx rfl (hb hby dF_64) rfl hc1 ?_
    show sS p e below T m 67 #[rv x0, iv x1, iv x2, iv x3] [] _
    refine XS.iinc X.here hx rfl (hb hby dF_67) rfl (l' := #[rv x0, iv x1, iv x2, .val (.int (x3 + (1 : Int32)))]) rfl ?_
    exact k
def Qrk4 (Z : State) (a1 : Addr) (k1 : ClassId) (d0 d1 d2 d3 d4 : Int32) (xi vi : Int32) (h0 : Heap) (n0 : Nat) (v : Option Value) (h : Heap) (L : List Loc) : Prop := v = some (.int (own_rk4 d0 d1 d2 d3 xi vi)) ∧ Fr n0 L ∧ h = h0
set_option maxRecDepth 65536 in
set_option maxHeartbeats 40000000 in
theorem rmrk4 (l : Launch) (Z : State) (a0 : Array Value) (hw : ∀ d ∈ tables_1, d.before a0 Z = true) (ws : List Jvm.Cond) (a1 : Addr) (k1 : ClassId) (d0 d1 d2 d3 d4 : Int32) (xi vi : Int32) (h0 : Heap) (n0 : Nat) (Z0 : n0 ≤ h0.size) (V_d : Arv Z h0 a1 k1 .int (5 : Int32) [(.int d0), (.int d1), (.int d2), (.int d3), (.int d4)] (.int (0 : Int32))) (bi : ¬ xi < 0 ∧ xi < (5 : Int32)) (ei : ([(.int d0), (.int d1), (.int d2), (.int d3), (.int d4)] : List Value).getD xi.toNatClampNeg (.int (0 : Int32)) = .int vi) :
    MetFree l (⟨cN0, "rank", "([III)I"⟩ : MethodName) (head1 (Jvm.Cond.code (⟨cN0, "rank", "([III)I"⟩ : MethodName) method_4_code 4 (some .int) :: ws) ({ frames := 1, cells := 0, slots := 0, locals := 14 } : Room)) (fun a U => a = #[(.ref a1), (.int (4 : Int32)), (.int xi)] ∧ Z.Warmed39 U.vm ∧ U.heap = h0) (fun _ _ _ _ _ => True) (fun _ U o U' => ∃ v L, o = .returned v ∧ Qrk4 Z a1 k1 d0 d1 d2 d3 d4 xi vi h0 n0 v U'.heap L ∧ FrameEnd U o U' L ({ frames := 1, cells := 0, slots := 0, locals := 14 } : Room).cells ({ frames := 1, cells := 0, slots := 0, locals := 14 } : Room).slots) := by
  refine MetFree.of_bodySF (plainFor_of_name pn_1) hisR ?_
  intro p e s m args below meth c s₁ Bd hml0 hP hK
  obtain ⟨rfl, hZ, hh⟩ := hP
  have hx := Bd.exec
  have hby := Bd.bytes
  have hml : c.maxLocals = 4 := hml0
  have hown : s.vm.findClass cN0 = some m.cls := findClass_of_methodNamed Bd.named
  have hnm := (name_of_methodNamed Bd.named Bd.method).1
  have X0 : Stand p l e ({ frames := 1, cells := 0, slots := 0, locals := 14 } : Room) s m #[(.ref a1), (.int (4 : Int32)), (.int xi)] below meth c s₁ [] 0 0 := Stand.of_body Bd
  have e0 : s₁.heap = h0 := by rw [← hh, Bd.state]; rfl
  have N0 := Fr.nil n0
  have pre0 : ∀ t, Steps p.tables e below (s₁.setTop (mkF m 0 #[rv a1, iv 4, iv xi, .unset] [])) t → Steps p.tables e below (s₁.setTop (entryFrame m #[(.ref a1), (.int (4 : Int32)), (.int xi)] 4)) t := fun t k => castTop (ef_rk4 m a1 (4 : Int32) xi) k
  obtain ⟨_, _, ⟨T1, L1, k1, n1⟩, -, X1, ⟨Lc1, hQ1, l1, y1, z1⟩, st1⟩ := Jvm.LawKit.callS X0 hx (y := ⟨cN0, "before", "([III)Z"⟩) hown (mvT hZ (wK hw (i := 29) rfl)) (mvT hZ (wK hw (i := 30) rfl)) (mvT hZ (wK hw (i := 24) rfl)) (mvT hZ (wK hw (i := 31) rfl)) (by decide) (backOf (W := 0) (rmbf l Z a0 hw [] a1 k1 d0 d1 d2 d3 d4 (0 : Int32) xi d0 vi h0 n0 Z0 V_d ⟨by decide, by decide⟩ bi rfl ei) hZ (wK hw (i := 31) rfl) (wK hw (i := 24) rfl) (by decide) (by decide)) (g := (mkF m 10 #[rv a1, iv 4, iv xi, iv 0] [(.int xi), (.int (0 : Int32)), (.ref a1)])) rfl (by rw [hml]; rfl) (argsL := [(.ref a1), (.int (0 : Int32)), (.int xi)]) (rest := []) (lenOf pd_2 rfl) rfl (Nat.le_of_eq rfl) (hb hby dF_10) (fun _ _ => ⟨rfl, e0, (by decide : 0 + 0 ≤ _), (by decide : 0 + 0 ≤ _)⟩)
  dsimp only [Pt.U, Pt.locs, Pt.cells, Pt.slots] at X1 l1 y1 z1 st1 hQ1
  subst l1 y1 z1
  obtain ⟨rfl, N1q, eh1⟩ := hQ1
  have N1 := Fr.app N0 N1q
  obtain ⟨_, _, ⟨T2, L2, k2, n2⟩, -, X2, ⟨Lc2, hQ2, l2, y2, z2⟩, st2⟩ := Jvm.LawKit.callS X1 hx (y := ⟨cN0, "before", "([III)Z"⟩) hown (mvT hZ (wK hw (i := 29) rfl)) (mvT hZ (wK hw (i := 30) rfl)) (mvT hZ (wK hw (i := 24) rfl)) (mvT hZ (wK hw (i := 31) rfl)) (by decide) (backOf (W := 0) (rmbf l Z a0 hw [] a1 k1 d0 d1 d2 d3 d4 (1 : Int32) xi d1 vi h0 n0 Z0 V_d ⟨by decide, by decide⟩ bi rfl ei) hZ (wK hw (i := 31) rfl) (wK hw (i := 24) rfl) (by decide) (by decide)) (g := (mkF m 27 #[rv a1, iv 4, iv xi, .val (.int (own_st (0 : Int32) (own_bf (0 : Int32) xi d0 vi)))] [(.int xi), (.int (1 : Int32)), (.ref a1)])) rfl (by rw [hml]; rfl) (argsL := [(.ref a1), (.int (1 : Int32)), (.int xi)]) (rest := []) (lenOf pd_2 rfl) rfl (Nat.le_of_eq rfl) (hb hby dF_27) (fun _ _ => ⟨rfl, eh1, (by decide : 0 + 0 ≤ _), (by decide : 0 + 0 ≤ _)⟩)
  dsimp only [Pt.U, Pt.locs, Pt.cells, Pt.slots] at X2 l2 y2 z2 st2 hQ2
  subst l2 y2 z2
  obtain ⟨rfl, N2q, eh2⟩ := hQ2
  have N2 := Fr.app N1 N2q
  obtain ⟨_, _, ⟨T3, L3, k3, n3⟩, -, X3, ⟨Lc3, hQ3, l3, y3, z3⟩, st3⟩ := Jvm.LawKit.callS X2 hx (y := ⟨cN0, "before", "([III)Z"⟩) hown (mvT hZ (wK hw (i := 29) rfl)) (mvT hZ (wK hw (i := 30) rfl)) (mvT hZ (wK hw (i := 24) rfl)) (mvT hZ (wK hw (i := 31) rfl)) (by decide) (backOf (W := 0) (rmbf l Z a0 hw [] a1 k1 d0 d1 d2 d3 d4 (2 : Int32) xi d2 vi h0 n0 Z0 V_d ⟨by decide, by decide⟩ bi rfl ei) hZ (wK hw (i := 31) rfl) (wK hw (i := 24) rfl) (by decide) (by decide)) (g := (mkF m 44 #[rv a1, iv 4, iv xi, .val (.int (own_st (own_st (0 : Int32) (own_bf (0 : Int32) xi d0 vi)) (own_bf (1 : Int32) xi d1 vi)))] [(.int xi), (.int (2 : Int32)), (.ref a1)])) rfl (by rw [hml]; rfl) (argsL := [(.ref a1), (.int (2 : Int32)), (.int xi)]) (rest := []) (lenOf pd_2 rfl) rfl (Nat.le_of_eq rfl) (hb hby dF_44) (fun _ _ => ⟨rfl, eh2, (by decide : 0 + 0 ≤ _), (by decide : 0 + 0 ≤ _)⟩)
  dsimp only [Pt.U, Pt.locs, Pt.cells, Pt.slots] at X3 l3 y3 z3 st3 hQ3
  subst l3 y3 z3
  obtain ⟨rfl, N3q, eh3⟩ := hQ3
  have N3 := Fr.app N2 N3q
  obtain ⟨_, _, ⟨T4, L4, k4, n4⟩, -, X4, ⟨Lc4, hQ4, l4, y4, z4⟩, st4⟩ := Jvm.LawKit.callS X3 hx (y := ⟨cN0, "before", "([III)Z"⟩) hown (mvT hZ (wK hw (i := 29) rfl)) (mvT hZ (wK hw (i := 30) rfl)) (mvT hZ (wK hw (i := 24) rfl)) (mvT hZ (wK hw (i := 31) rfl)) (by decide) (backOf (W := 0) (rmbf l Z a0 hw [] a1 k1 d0 d1 d2 d3 d4 (3 : Int32) xi d3 vi h0 n0 Z0 V_d ⟨by decide, by decide⟩ bi rfl ei) hZ (wK hw (i := 31) rfl) (wK hw (i := 24) rfl) (by decide) (by decide)) (g := (mkF m 61 #[rv a1, iv 4, iv xi, .val (.int (own_st (own_st (own_st (0 : Int32) (own_bf (0 : Int32) xi d0 vi)) (own_bf (1 : Int32) xi d1 vi)) (own_bf (2 : Int32) xi d2 vi)))] [(.int xi), (.int (3 : Int32)), (.ref a1)])) rfl (by rw [hml]; rfl) (argsL := [(.ref a1), (.int (3 : Int32)), (.int xi)]) (rest := []) (lenOf pd_2 rfl) rfl (Nat.le_of_eq rfl) (hb hby dF_61) (fun _ _ => ⟨rfl, eh3, (by decide : 0 + 0 ≤ _), (by decide : 0 + 0 ≤ _)⟩)
  dsimp only [Pt.U, Pt.locs, Pt.cells, Pt.slots] at X4 l4 y4 z4 st4 hQ4
  subst l4 y4 z4
  obtain ⟨rfl, N4q, eh4⟩ := hQ4
  have N4 := Fr.app N3 N4q
  obtain ⟨fs, hr, hrun, hended, hW, hsame⟩ := X4.leave (v := some (.int (own_st (own_st (own_st (own_st (0 : Int32) (own_bf (0 : Int32) xi d0 vi)) (own_bf (1 : Int32) xi d1 vi)) (own_bf (2 : Int32) xi d2 vi)) (own_bf (3 : Int32) xi d3 vi)))) (fun h => by rw [Bd.returns] at h; cases h)
  refine ⟨_, _, pre0 _ ?_, hrun, hended, _, _, rfl, ?_, ⟨_, rfl⟩, hW, hsame.mono (by decide) (by decide)⟩
  · show sS p e below s₁ m 0 #[rv a1, iv 4, iv xi, .unset] [] _
    refine XS.iconst X0.here hx rfl (hb hby dF_0) ?_
    refine XS.istoreN X0.here hx rfl (hb hby dF_1) rfl (l' := #[rv a1, iv 4, iv xi, iv 0]) rfl ?_
    refine XS.iconst X0.here hx rfl (hb hby dF_2) ?_
    refine XS.iloadN X0.here hx rfl (hb hby dF_3) rfl ?_
    refine XS.icmpNo X0.here hx rfl (hb hby dF_4) rfl (by decide) ?_
    refine XS.aloadN X0.here hx rfl (hb hby dF_7) rfl rfl ?_
    show sS p e below s₁ m 8 #[rv a1, iv 4, iv xi, iv 0] [(.ref a1)] _
    refine XS.iconst X0.here hx rfl (hb hby dF_8) ?_
    refine XS.iloadN X0.here hx rfl (hb hby dF_9) rfl ?_
    show sS p e below s₁ m 10 #[rv a1, iv 4, iv xi, iv 0] [(.int xi), (.int (0 : Int32)), (.ref a1)] _
    refine st1 _ ?_
    show sS p e below T1 m 13 #[rv a1, iv 4, iv xi, iv 0] [(.int (own_bf (0 : Int32) xi d0 vi))] _
    refine sg_rk4_13_19 X1 hx hZ hw hby hown ?_
    show sS p e below T1 m 19 #[rv a1, iv 4, iv xi, .val (.int (own_st (0 : Int32) (own_bf (0 : Int32) xi d0 vi)))] [] _
    refine XS.iconst X1.here hx rfl (hb hby dF_19) ?_
    refine XS.iloadN X1.here hx rfl (hb hby dF_20) rfl ?_
    refine XS.icmpNo X1.here hx rfl (hb hby dF_21) rfl (by decide) ?_
    refine XS.aloadN X1.here hx rfl (hb hby dF_24) rfl rfl ?_
    refine XS.iconst X1.here hx rfl (hb hby dF_25) ?_
    refine XS.iloadN X1.here hx rfl (hb hby dF_26) rfl ?_
    show sS p e below T1 m 27 #[rv a1, iv 4, iv xi, .val (.int (own_st (0 : Int32) (own_bf (0 : Int32) xi d0 vi)))] [(.int xi), (.int (1 : Int32)), (.ref a1)] _
    refine st2 _ ?_
    show sS p e below T2 m 30 #[rv a1, iv 4, iv xi, .val (.int (own_st (0 : Int32) (own_bf (0 : Int32) xi d0 vi)))] [(.int (own_bf (1 : Int32) xi d1 vi))] _
    refine sg_rk4_30_36 X2 hx hZ hw hby hown ?_
    show sS p e below T2 m 36 #[rv a1, iv 4, iv xi, .val (.int (own_st (own_st (0 : Int32) (own_bf (0 : Int32) xi d0 vi)) (own_bf (1 : Int32) xi d1 vi)))] [] _
    refine XS.iconst X2.here hx rfl (hb hby dF_36) ?_
    refine XS.iloadN X2.here hx rfl (hb hby dF_37) rfl ?_
    refine XS.icmpNo X2.here hx rfl (hb hby dF_38) rfl (by decide) ?_
    refine XS.aloadN X2.here hx rfl (hb hby dF_41) rfl rfl ?_
    refine XS.iconst X2.here hx rfl (hb hby dF_42) ?_
    refine XS.iloadN X2.here hx rfl (hb hby dF_43) rfl ?_
    show sS p e below T2 m 44 #[rv a1, iv 4, iv xi, .val (.int (own_st (own_st (0 : Int32) (own_bf (0 : Int32) xi d0 vi)) (own_bf (1 : Int32) xi d1 vi)))] [(.int xi), (.int (2 : Int32)), (.ref a1)] _
    refine st3 _ ?_
    show sS p e below T3 m 47 #[rv a1, iv 4, iv xi, .val (.int (own_st (own_st (0 : Int32) (own_bf (0 : Int32) xi d0 vi)) (own_bf (1 : Int32) xi d1 vi)))] [(.int (own_bf (2 : Int32) xi d2 vi))] _
    refine sg_rk4_47_53 X3 hx hZ hw hby hown ?_
    show sS p e below T3 m 53 #[rv a1, iv 4, iv xi, .val (.int (own_st (own_st (own_st (0 : Int32) (own_bf (0 : Int32) xi d0 vi)) (own_bf (1 : Int32) xi d1 vi)) (own_bf (2 : Int32) xi d2 vi)))] [] _
    refine XS.iconst X3.here hx rfl (hb hby dF_53) ?_
    refine XS.iloadN X3.here hx rfl (hb hby dF_54) rfl ?_
    refine XS.icmpNo X3.here hx rfl (hb hby dF_55) rfl (by decide) ?_
    refine XS.aloadN X3.here hx rfl (hb hby dF_58) rfl rfl ?_
    refine XS.iconst X3.here hx rfl (hb hby dF_59) ?_
    refine XS.iloadN X3.here hx rfl (hb hby dF_60) rfl ?_
    show sS p e below T3 m 61 #[rv a1, iv 4, iv xi, .val (.int (own_st (own_st (own_st (0 : Int32) (own_bf (0 : Int32) xi d0 vi)) (own_bf (1 : Int32) xi d1 vi)) (own_bf (2 : Int32) xi d2 vi)))] [(.int xi), (.int (3 : Int32)), (.ref a1)] _
    refine st4 _ ?_
    show sS p e below T4 m 64 #[rv a1, iv 4, iv xi, .val (.int (own_st (own_st (own_st (0 : Int32) (own_bf (0 : Int32) xi d0 vi)) (own_bf (1 : Int32) xi d1 vi)) (own_bf (2 : Int32) xi d2 vi)))] [(.int (own_bf (3 : Int32) xi d3 vi))] _
    refine sg_rk4_64_70 X4 hx hZ hw hby hown ?_
    show sS p e below T4 m 70 #[rv a1, iv 4, iv xi, .val (.int (own_st (own_st (own_st (own_st (0 : Int32) (own_bf (0 : Int32) xi d0 vi)) (own_bf (1 : Int32) xi d1 vi)) (own_bf (2 : Int32) xi d2 vi)) (own_bf (3 : Int32) xi d3 vi)))] [] _
    refine XS.iconst X4.here hx rfl (hb hby dF_70) ?_
    refine XS.iloadN X4.here hx rfl (hb hby dF_71) rfl ?_
    refine XS.icmpYes X4.here hx rfl (pc0 := 72) (pc' := 87) rfl (hb hby dF_72) rfl (by decide) (by decide) (by decide) ?_
    refine XS.iloadN X4.here hx rfl (hb hby dF_87) rfl ?_
    show sS p e below T4 m 88 #[rv a1, iv 4, iv xi, .val (.int (own_st (own_st (own_st (own_st (0 : Int32) (own_bf (0 : Int32) xi d0 vi)) (own_bf (1 : Int32) xi d1 vi)) (own_bf (2 : Int32) xi d2 vi)) (own_bf (3 : Int32) xi d3 vi)))] [(.int (own_st (own_st (own_st (own_st (0 : Int32) (own_bf (0 : Int32) xi d0 vi)) (own_bf (1 : Int32) xi d1 vi)) (own_bf (2 : Int32) xi d2 vi)) (own_bf (3 : Int32) xi d3 vi)))] _
    exact retI X4 hx Bd.returns (hb hby dF_88) hr
  · show Qrk4 Z a1 k1 d0 d1 d2 d3 d4 xi vi h0 n0 _ T4.heap _
    rw [eh4]
    exact ⟨rfl, N4, rfl⟩
theorem ef_at4 (m : MethodId) (x0 : Addr) (x1 : Int32) (x2 : Int32) : entryFrame m #[(.ref x0), (.int x1), (.int x2)] 3 = mkF m 0 #[rv x0, iv x1, iv x2] [] := by first | (simp [entryFrame, mkF, argsToLocals, Value.category]; done) | rfl
def Qat4 (Z : State) (a1 : Addr) (k1 : ClassId) (d0 d1 d2 d3 d4 : Int32) (r : Int32) (h0 : Heap) (n0 : Nat) (v : Option Value) (h : Heap) (L : List Loc) : Prop := v = some (.int (own_at4 d0 d1 d2 d3 r)) ∧ Fr n0 L ∧ h = h0
set_option maxRecDepth 65536 in
set_option maxHeartbeats 40000000 in
theorem rmat4 (l : Launch) (Z : State) (a0 : Array Value) (hw : ∀ d ∈ tables_1, d.before a0 Z = true) (ws : List Jvm.Cond) (a1 : Addr) (k1 : ClassId) (d0 d1 d2 d3 d4 : Int32) (r : Int32) (h0 : Heap) (n0 : Nat) (Z0 : n0 ≤ h0.size) (V_d : Arv Z h0 a1 k1 .int (5 : Int32) [(.int d0), (.int d1), (.int d2), (.int d3), (.int d4)] (.int (0 : Int32))) :
    MetFree l (⟨cN0, "at", "([III)I"⟩ : MethodName) (head1 (Jvm.Cond.code (⟨cN0, "at", "([III)I"⟩ : MethodName) method_5_code 3 (some .int) :: ws) ({ frames := 2, cells := 0, slots := 0, locals := 29 } : Room)) (fun a U => a = #[(.ref a1), (.int (4 : Int32)), (.int r)] ∧ Z.Warmed39 U.vm ∧ U.heap = h0) (fun _ _ _ _ _ => True) (fun _ U o U' => ∃ v L, o = .returned v ∧ Qat4 Z a1 k1 d0 d1 d2 d3 d4 r h0 n0 v U'.heap L ∧ FrameEnd U o U' L ({ frames := 2, cells := 0, slots := 0, locals := 29 } : Room).cells ({ frames := 2, cells := 0, slots := 0, locals := 29 } : Room).slots) := by
  refine MetFree.of_bodySF (plainFor_of_name pn_1) hisR ?_
  intro p e s m args below meth c s₁ Bd hml0 hP hK
  obtain ⟨rfl, hZ, hh⟩ := hP
  have hx := Bd.exec
  have hby := Bd.bytes
  have hml : c.maxLocals = 3 := hml0
  have hown : s.vm.findClass cN0 = some m.cls := findClass_of_methodNamed Bd.named
  have hnm := (name_of_methodNamed Bd.named Bd.method).1
  have X0 : Stand p l e ({ frames := 2, cells := 0, slots := 0, locals := 29 } : Room) s m #[(.ref a1), (.int (4 : Int32)), (.int r)] below meth c s₁ [] 0 0 := Stand.of_body Bd
  have e0 : s₁.heap = h0 := by rw [← hh, Bd.state]; rfl
  have N0 := Fr.nil n0
  have pre0 : ∀ t, Steps p.tables e below (s₁.setTop (mkF m 0 #[rv a1, iv 4, iv r] [])) t → Steps p.tables e below (s₁.setTop (entryFrame m #[(.ref a1), (.int (4 : Int32)), (.int r)] 3)) t := fun t k => castTop (ef_at4 m a1 (4 : Int32) r) k
  obtain ⟨_, _, ⟨T1, L1, k1, n1⟩, -, X1, ⟨Lc1, hQ1, l1, y1, z1⟩, st1⟩ := Jvm.LawKit.callS X0 hx (y := ⟨cN0, "rank", "([III)I"⟩) hown (mvT hZ (wK hw (i := 26) rfl)) (mvT hZ (wK hw (i := 27) rfl)) (mvT hZ (wK hw (i := 24) rfl)) (mvT hZ (wK hw (i := 28) rfl)) (by decide) (backOf (W := 0) (rmrk4 l Z a0 hw [] a1 k1 d0 d1 d2 d3 d4 (0 : Int32) d0 h0 n0 Z0 V_d ⟨by decide, by decide⟩ rfl) hZ (wK hw (i := 28) rfl) (wK hw (i := 24) rfl) (by decide) (by decide)) (g := (mkF m 8 #[rv a1, iv 4, iv r] [(.int (0 : Int32)), (.int (4 : Int32)), (.ref a1)])) rfl (by rw [hml]; rfl) (argsL := [(.ref a1), (.int (4 : Int32)), (.int (0 : Int32))]) (rest := []) (lenOf pd_3 rfl) rfl (Nat.le_of_eq rfl) (hb hby dG_8) (fun _ _ => ⟨rfl, e0, (by decide : 0 + 0 ≤ _), (by decide : 0 + 0 ≤ _)⟩)
  dsimp only [Pt.U, Pt.locs, Pt.cells, Pt.slots] at X1 l1 y1 z1 st1 hQ1
  subst l1 y1 z1
  obtain ⟨rfl, N1q, eh1⟩ := hQ1
  have N1 := Fr.app N0 N1q
  rcases Bool.eq_false_or_eq_true (if_icmp.holds .ne (own_rk4 d0 d1 d2 d3 (0 : Int32) d0) r) with hc12 | hc12
  · obtain ⟨_, _, ⟨T2, L2, k2, n2⟩, -, X2, ⟨Lc2, hQ2, l2, y2, z2⟩, st2⟩ := Jvm.LawKit.callS X1 hx (y := ⟨cN0, "rank", "([III)I"⟩) hown (mvT hZ (wK hw (i := 26) rfl)) (mvT hZ (wK hw (i := 27) rfl)) (mvT hZ (wK hw (i := 24) rfl)) (mvT hZ (wK hw (i := 28) rfl)) (by decide) (backOf (W := 0) (rmrk4 l Z a0 hw [] a1 k1 d0 d1 d2 d3 d4 (1 : Int32) d1 h0 n0 Z0 V_d ⟨by decide, by decide⟩ rfl) hZ (wK hw (i := 28) rfl) (wK hw (i := 24) rfl) (by decide) (by decide)) (g := (mkF m 25 #[rv a1, iv 4, iv r] [(.int (1 : Int32)), (.int (4 : Int32)), (.ref a1)])) rfl (by rw [hml]; rfl) (argsL := [(.ref a1), (.int (4 : Int32)), (.int (1 : Int32))]) (rest := []) (lenOf pd_3 rfl) rfl (Nat.le_of_eq rfl) (hb hby dG_25) (fun _ _ => ⟨rfl, eh1, (by decide : 0 + 0 ≤ _), (by decide : 0 + 0 ≤ _)⟩)
    dsimp only [Pt.U, Pt.locs, Pt.cells, Pt.slots] at X2 l2 y2 z2 st2 hQ2
    subst l2 y2 z2
    obtain ⟨rfl, N2q, eh2⟩ := hQ2
    have N2 := Fr.app N1 N2q
    rcases Bool.eq_false_or_eq_true (if_icmp.holds .ne (own_rk4 d0 d1 d2 d3 (1 : Int32) d1) r) with hc29 | hc29
    · obtain ⟨_, _, ⟨T3, L3, k3, n3⟩, -, X3, ⟨Lc3, hQ3, l3, y3, z3⟩, st3⟩ := Jvm.LawKit.callS X2 hx (y := ⟨cN0, "rank", "([III)I"⟩) hown (mvT hZ (wK hw (i := 26) rfl)) (mvT hZ (wK hw (i := 27) rfl)) (mvT hZ (wK hw (i := 24) rfl)) (mvT hZ (wK hw (i := 28) rfl)) (by decide) (backOf (W := 0) (rmrk4 l Z a0 hw [] a1 k1 d0 d1 d2 d3 d4 (2 : Int32) d2 h0 n0 Z0 V_d ⟨by decide, by decide⟩ rfl) hZ (wK hw (i := 28) rfl) (wK hw (i := 24) rfl) (by decide) (by decide)) (g := (mkF m 42 #[rv a1, iv 4, iv r] [(.int (2 : Int32)), (.int (4 : Int32)), (.ref a1)])) rfl (by rw [hml]; rfl) (argsL := [(.ref a1), (.int (4 : Int32)), (.int (2 : Int32))]) (rest := []) (lenOf pd_3 rfl) rfl (Nat.le_of_eq rfl) (hb hby dG_42) (fun _ _ => ⟨rfl, eh2, (by decide : 0 + 0 ≤ _), (by decide : 0 + 0 ≤ _)⟩)
      dsimp only [Pt.U, Pt.locs, Pt.cells, Pt.slots] at X3 l3 y3 z3 st3 hQ3
      subst l3 y3 z3
      obtain ⟨rfl, N3q, eh3⟩ := hQ3
      have N3 := Fr.app N2 N3q
      rcases Bool.eq_false_or_eq_true (if_icmp.holds .ne (own_rk4 d0 d1 d2 d3 (2 : Int32) d2) r) with hc46 | hc46
      · obtain ⟨_, _, ⟨T4, L4, k4, n4⟩, -, X4, ⟨Lc4, hQ4, l4, y4, z4⟩, st4⟩ := Jvm.LawKit.callS X3 hx (y := ⟨cN0, "rank", "([III)I"⟩) hown (mvT hZ (wK hw (i := 26) rfl)) (mvT hZ (wK hw (i := 27) rfl)) (mvT hZ (wK hw (i := 24) rfl)) (mvT hZ (wK hw (i := 28) rfl)) (by decide) (backOf (W := 0) (rmrk4 l Z a0 hw [] a1 k1 d0 d1 d2 d3 d4 (3 : Int32) d3 h0 n0 Z0 V_d ⟨by decide, by decide⟩ rfl) hZ (wK hw (i := 28) rfl) (wK hw (i := 24) rfl) (by decide) (by decide)) (g := (mkF m 59 #[rv a1, iv 4, iv r] [(.int (3 : Int32)), (.int (4 : Int32)), (.ref a1)])) rfl (by rw [hml]; rfl) (argsL := [(.ref a1), (.int (4 : Int32)), (.int (3 : Int32))]) (rest := []) (lenOf pd_3 rfl) rfl (Nat.le_of_eq rfl) (hb hby dG_59) (fun _ _ => ⟨rfl, eh3, (by decide : 0 + 0 ≤ _), (by decide : 0 + 0 ≤ _)⟩)
        dsimp only [Pt.U, Pt.locs, Pt.cells, Pt.slots] at X4 l4 y4 z4 st4 hQ4
        subst l4 y4 z4
        obtain ⟨rfl, N4q, eh4⟩ := hQ4
        have N4 := Fr.app N3 N4q
        rcases Bool.eq_false_or_eq_true (if_icmp.holds .ne (own_rk4 d0 d1 d2 d3 (3 : Int32) d3) r) with hc63 | hc63
        · obtain ⟨fs, hr, hrun, hended, hW, hsame⟩ := X4.leave (v := some (.int (0 : Int32))) (fun h => by rw [Bd.returns] at h; cases h)
          refine ⟨_, _, pre0 _ ?_, hrun, hended, _, _, rfl, ?_, ⟨_, rfl⟩, hW, hsame.mono (by decide) (by decide)⟩
          · show sS p e below s₁ m 0 #[rv a1, iv 4, iv r] [] _
            refine XS.iconst X0.here hx rfl (hb hby dG_0) ?_
            refine XS.iloadN X0.here hx rfl (hb hby dG_1) rfl ?_
            refine XS.icmpNo X0.here hx rfl (hb hby dG_2) rfl (by decide) ?_
            refine XS.aloadN X0.here hx rfl (hb hby dG_5) rfl rfl ?_
            refine XS.iloadN X0.here hx rfl (hb hby dG_6) rfl ?_
            refine XS.iconst X0.here hx rfl (hb hby dG_7) ?_
            show sS p e below s₁ m 8 #[rv a1, iv 4, iv r] [(.int (0 : Int32)), (.int (4 : Int32)), (.ref a1)] _
            refine st1 _ ?_
            show sS p e below T1 m 11 #[rv a1, iv 4, iv r] [(.int (own_rk4 d0 d1 d2 d3 (0 : Int32) d0))] _
            refine XS.iloadN X1.here hx rfl (hb hby dG_11) rfl ?_
            refine XS.icmpYes X1.here hx rfl (pc0 := 12) (pc' := 17) rfl (hb hby dG_12) rfl hc12 (by decide) (by decide) ?_
            refine XS.iconst X1.here hx rfl (hb hby dG_17) ?_
            refine XS.iloadN X1.here hx rfl (hb hby dG_18) rfl ?_
            refine XS.icmpNo X1.here hx rfl (hb hby dG_19) rfl (by decide) ?_
            refine XS.aloadN X1.here hx rfl (hb hby dG_22) rfl rfl ?_
            show sS p e below T1 m 23 #[rv a1, iv 4, iv r] [(.ref a1)] _
            refine XS.iloadN X1.here hx rfl (hb hby dG_23) rfl ?_
            refine XS.iconst X1.here hx rfl (hb hby dG_24) ?_
            show sS p e below T1 m 25 #[rv a1, iv 4, iv r] [(.int (1 : Int32)), (.int (4 : Int32)), (.ref a1)] _
            refine st2 _ ?_
            show sS p e below T2 m 28 #[rv a1, iv 4, iv r] [(.int (own_rk4 d0 d1 d2 d3 (1 : Int32) d1))] _
            refine XS.iloadN X2.here hx rfl (hb hby dG_28) rfl ?_
            refine XS.icmpYes X2.here hx rfl (pc0 := 29) (pc' := 34) rfl (hb hby dG_29) rfl hc29 (by decide) (by decide) ?_
            refine XS.iconst X2.here hx rfl (hb hby dG_34) ?_
            refine XS.iloadN X2.here hx rfl (hb hby dG_35) rfl ?_
            refine XS.icmpNo X2.here hx rfl (hb hby dG_36) rfl (by decide) ?_
            refine XS.aloadN X2.here hx rfl (hb hby dG_39) rfl rfl ?_
            show sS p e below T2 m 40 #[rv a1, iv 4, iv r] [(.ref a1)] _
            refine XS.iloadN X2.here hx rfl (hb hby dG_40) rfl ?_
            refine XS.iconst X2.here hx rfl (hb hby dG_41) ?_
            show sS p e below T2 m 42 #[rv a1, iv 4, iv r] [(.int (2 : Int32)), (.int (4 : Int32)), (.ref a1)] _
            refine st3 _ ?_
            show sS p e below T3 m 45 #[rv a1, iv 4, iv r] [(.int (own_rk4 d0 d1 d2 d3 (2 : Int32) d2))] _
            refine XS.iloadN X3.here hx rfl (hb hby dG_45) rfl ?_
            refine XS.icmpYes X3.here hx rfl (pc0 := 46) (pc' := 51) rfl (hb hby dG_46) rfl hc46 (by decide) (by decide) ?_
            refine XS.iconst X3.here hx rfl (hb hby dG_51) ?_
            refine XS.iloadN X3.here hx rfl (hb hby dG_52) rfl ?_
            refine XS.icmpNo X3.here hx rfl (hb hby dG_53) rfl (by decide) ?_
            refine XS.aloadN X3.here hx rfl (hb hby dG_56) rfl rfl ?_
            show sS p e below T3 m 57 #[rv a1, iv 4, iv r] [(.ref a1)] _
            refine XS.iloadN X3.here hx rfl (hb hby dG_57) rfl ?_
            refine XS.iconst X3.here hx rfl (hb hby dG_58) ?_
            show sS p e below T3 m 59 #[rv a1, iv 4, iv r] [(.int (3 : Int32)), (.int (4 : Int32)), (.ref a1)] _
            refine st4 _ ?_
            show sS p e below T4 m 62 #[rv a1, iv 4, iv r] [(.int (own_rk4 d0 d1 d2 d3 (3 : Int32) d3))] _
            refine XS.iloadN X4.here hx rfl (hb hby dG_62) rfl ?_
            refine XS.icmpYes X4.here hx rfl (pc0 := 63) (pc' := 68) rfl (hb hby dG_63) rfl hc63 (by decide) (by decide) ?_
            refine XS.iconst X4.here hx rfl (hb hby dG_68) ?_
            refine XS.iloadN X4.here hx rfl (hb hby dG_69) rfl ?_
            refine XS.icmpYes X4.here hx rfl (pc0 := 70) (pc' := 85) rfl (hb hby dG_70) rfl (by decide) (by decide) (by decide) ?_
            refine XS.iconst X4.here hx rfl (hb hby dG_85) ?_
            show sS p e below T4 m 86 #[rv a1, iv 4, iv r] [(.int (0 : Int32))] _
            exact retI X4 hx Bd.returns (hb hby dG_86) hr
          · show Qat4 Z a1 k1 d0 d1 d2 d3 d4 r h0 n0 _ T4.heap _
            rw [eh4]
            exact ⟨by unfold own_at4; rw [hc12, hc29, hc46, hc63]; rfl, N4, rfl⟩
        · obtain ⟨fs, hr, hrun, hended, hW, hsame⟩ := X4.leave (v := some (.int (3 : Int32))) (fun h => by rw [Bd.returns] at h; cases h)
          refine ⟨_, _, pre0 _ ?_, hrun, hended, _, _, rfl, ?_, ⟨_, rfl⟩, hW, hsame.mono (by decide) (by decide)⟩
          · show sS p e below s₁ m 0 #[rv a1, iv 4, iv r] [] _
            refine XS.iconst X0.here hx rfl (hb hby dG_0) ?_
            refine XS.iloadN X0.here hx rfl (hb hby dG_1) rfl ?_
            refine XS.icmpNo X0.here hx rfl (hb hby dG_2) rfl (by decide) ?_
            refine XS.aloadN X0.here hx rfl (hb hby dG_5) rfl rfl ?_
            refine XS.iloadN X0.here hx rfl (hb hby dG_6) rfl ?_
            refine XS.iconst X0.here hx rfl (hb hby dG_7) ?_
            show sS p e below s₁ m 8 #[rv a1, iv 4, iv r] [(.int (0 : Int32)), (.int (4 : Int32)), (.ref a1)] _
            refine st1 _ ?_
            show sS p e below T1 m 11 #[rv a1, iv 4, iv r] [(.int (own_rk4 d0 d1 d2 d3 (0 : Int32) d0))] _
            refine XS.iloadN X1.here hx rfl (hb hby dG_11) rfl ?_
            refine XS.icmpYes X1.here hx rfl (pc0 := 12) (pc' := 17) rfl (hb hby dG_12) rfl hc12 (by decide) (by decide) ?_
            refine XS.iconst X1.here hx rfl (hb hby dG_17) ?_
            refine XS.iloadN X1.here hx rfl (hb hby dG_18) rfl ?_
            refine XS.icmpNo X1.here hx rfl (hb hby dG_19) rfl (by decide) ?_
            refine XS.aloadN X1.here hx rfl (hb hby dG_22) rfl rfl ?_
            show sS p e below T1 m 23 #[rv a1, iv 4, iv r] [(.ref a1)] _
            refine XS.iloadN X1.here hx rfl (hb hby dG_23) rfl ?_
            refine XS.iconst X1.here hx rfl (hb hby dG_24) ?_
            show sS p e below T1 m 25 #[rv a1, iv 4, iv r] [(.int (1 : Int32)), (.int (4 : Int32)), (.ref a1)] _
            refine st2 _ ?_
            show sS p e below T2 m 28 #[rv a1, iv 4, iv r] [(.int (own_rk4 d0 d1 d2 d3 (1 : Int32) d1))] _
            refine XS.iloadN X2.here hx rfl (hb hby dG_28) rfl ?_
            refine XS.icmpYes X2.here hx rfl (pc0 := 29) (pc' := 34) rfl (hb hby dG_29) rfl hc29 (by decide) (by decide) ?_
            refine XS.iconst X2.here hx rfl (hb hby dG_34) ?_
            refine XS.iloadN X2.here hx rfl (hb hby dG_35) rfl ?_
            refine XS.icmpNo X2.here hx rfl (hb hby dG_36) rfl (by decide) ?_
            refine XS.aloadN X2.here hx rfl (hb hby dG_39) rfl rfl ?_
            show sS p e below T2 m 40 #[rv a1, iv 4, iv r] [(.ref a1)] _
            refine XS.iloadN X2.here hx rfl (hb hby dG_40) rfl ?_
            refine XS.iconst X2.here hx rfl (hb hby dG_41) ?_
            show sS p e below T2 m 42 #[rv a1, iv 4, iv r] [(.int (2 : Int32)), (.int (4 : Int32)), (.ref a1)] _
            refine st3 _ ?_
            show sS p e below T3 m 45 #[rv a1, iv 4, iv r] [(.int (own_rk4 d0 d1 d2 d3 (2 : Int32) d2))] _
            refine XS.iloadN X3.here hx rfl (hb hby dG_45) rfl ?_
            refine XS.icmpYes X3.here hx rfl (pc0 := 46) (pc' := 51) rfl (hb hby dG_46) rfl hc46 (by decide) (by decide) ?_
            refine XS.iconst X3.here hx rfl (hb hby dG_51) ?_
            refine XS.iloadN X3.here hx rfl (hb hby dG_52) rfl ?_
            refine XS.icmpNo X3.here hx rfl (hb hby dG_53) rfl (by decide) ?_
            refine XS.aloadN X3.here hx rfl (hb hby dG_56) rfl rfl ?_
            show sS p e below T3 m 57 #[rv a1, iv 4, iv r] [(.ref a1)] _
            refine XS.iloadN X3.here hx rfl (hb hby dG_57) rfl ?_
            refine XS.iconst X3.here hx rfl (hb hby dG_58) ?_
            show sS p e below T3 m 59 #[rv a1, iv 4, iv r] [(.int (3 : Int32)), (.int (4 : Int32)), (.ref a1)] _
            refine st4 _ ?_
            show sS p e below T4 m 62 #[rv a1, iv 4, iv r] [(.int (own_rk4 d0 d1 d2 d3 (3 : Int32) d3))] _
            refine XS.iloadN X4.here hx rfl (hb hby dG_62) rfl ?_
            refine XS.icmpNo X4.here hx rfl (hb hby dG_63) rfl hc63 ?_
            refine XS.iconst X4.here hx rfl (hb hby dG_66) ?_
            show sS p e below T4 m 67 #[rv a1, iv 4, iv r] [(.int (3 : Int32))] _
            exact retI X4 hx Bd.returns (hb hby dG_67) hr
          · show Qat4 Z a1 k1 d0 d1 d2 d3 d4 r h0 n0 _ T4.heap _
            rw [eh4]
            exact ⟨by unfold own_at4; rw [hc12, hc29, hc46, hc63]; rfl, N4, rfl⟩
      · obtain ⟨fs, hr, hrun, hended, hW, hsame⟩ := X3.leave (v := some (.int (2 : Int32))) (fun h => by rw [Bd.returns] at h; cases h)
        refine ⟨_, _, pre0 _ ?_, hrun, hended, _, _, rfl, ?_, ⟨_, rfl⟩, hW, hsame.mono (by decide) (by decide)⟩
        · show sS p e below s₁ m 0 #[rv a1, iv 4, iv r] [] _
          refine XS.iconst X0.here hx rfl (hb hby dG_0) ?_
          refine XS.iloadN X0.here hx rfl (hb hby dG_1) rfl ?_
          refine XS.icmpNo X0.here hx rfl (hb hby dG_2) rfl (by decide) ?_
          refine XS.aloadN X0.here hx rfl (hb hby dG_5) rfl rfl ?_
          refine XS.iloadN X0.here hx rfl (hb hby dG_6) rfl ?_
          refine XS.iconst X0.here hx rfl (hb hby dG_7) ?_
          show sS p e below s₁ m 8 #[rv a1, iv 4, iv r] [(.int (0 : Int32)), (.int (4 : Int32)), (.ref a1)] _
          refine st1 _ ?_
          show sS p e below T1 m 11 #[rv a1, iv 4, iv r] [(.int (own_rk4 d0 d1 d2 d3 (0 : Int32) d0))] _
          refine XS.iloadN X1.here hx rfl (hb hby dG_11) rfl ?_
          refine XS.icmpYes X1.here hx rfl (pc0 := 12) (pc' := 17) rfl (hb hby dG_12) rfl hc12 (by decide) (by decide) ?_
          refine XS.iconst X1.here hx rfl (hb hby dG_17) ?_
          refine XS.iloadN X1.here hx rfl (hb hby dG_18) rfl ?_
          refine XS.icmpNo X1.here hx rfl (hb hby dG_19) rfl (by decide) ?_
          refine XS.aloadN X1.here hx rfl (hb hby dG_22) rfl rfl ?_
          show sS p e below T1 m 23 #[rv a1, iv 4, iv r] [(.ref a1)] _
          refine XS.iloadN X1.here hx rfl (hb hby dG_23) rfl ?_
          refine XS.iconst X1.here hx rfl (hb hby dG_24) ?_
          show sS p e below T1 m 25 #[rv a1, iv 4, iv r] [(.int (1 : Int32)), (.int (4 : Int32)), (.ref a1)] _
          refine st2 _ ?_
          show sS p e below T2 m 28 #[rv a1, iv 4, iv r] [(.int (own_rk4 d0 d1 d2 d3 (1 : Int32) d1))] _
          refine XS.iloadN X2.here hx rfl (hb hby dG_28) rfl ?_
          refine XS.icmpYes X2.here hx rfl (pc0 := 29) (pc' := 34) rfl (hb hby dG_29) rfl hc29 (by decide) (by decide) ?_
          refine XS.iconst X2.here hx rfl (hb hby dG_34) ?_
          refine XS.iloadN X2.here hx rfl (hb hby dG_35) rfl ?_
          refine XS.icmpNo X2.here hx rfl (hb hby dG_36) rfl (by decide) ?_
          refine XS.aloadN X2.here hx rfl (hb hby dG_39) rfl rfl ?_
          show sS p e below T2 m 40 #[rv a1, iv 4, iv r] [(.ref a1)] _
          refine XS.iloadN X2.here hx rfl (hb hby dG_40) rfl ?_
          refine XS.iconst X2.here hx rfl (hb hby dG_41) ?_
          show sS p e below T2 m 42 #[rv a1, iv 4, iv r] [(.int (2 : Int32)), (.int (4 : Int32)), (.ref a1)] _
          refine st3 _ ?_
          show sS p e below T3 m 45 #[rv a1, iv 4, iv r] [(.int (own_rk4 d0 d1 d2 d3 (2 : Int32) d2))] _
          refine XS.iloadN X3.here hx rfl (hb hby dG_45) rfl ?_
          refine XS.icmpNo X3.here hx rfl (hb hby dG_46) rfl hc46 ?_
          refine XS.iconst X3.here hx rfl (hb hby dG_49) ?_
          show sS p e below T3 m 50 #[rv a1, iv 4, iv r] [(.int (2 : Int32))] _
          exact retI X3 hx Bd.returns (hb hby dG_50) hr
        · show Qat4 Z a1 k1 d0 d1 d2 d3 d4 r h0 n0 _ T3.heap _
          rw [eh3]
          exact ⟨by unfold own_at4; rw [hc12, hc29, hc46]; rfl, N3, rfl⟩
    · obtain ⟨fs, hr, hrun, hended, hW, hsame⟩ := X2.leave (v := some (.int (1 : Int32))) (fun h => by rw [Bd.returns] at h; cases h)
      refine ⟨_, _, pre0 _ ?_, hrun, hended, _, _, rfl, ?_, ⟨_, rfl⟩, hW, hsame.mono (by decide) (by decide)⟩
      · show sS p e below s₁ m 0 #[rv a1, iv 4, iv r] [] _
        refine XS.iconst X0.here hx rfl (hb hby dG_0) ?_
        refine XS.iloadN X0.here hx rfl (hb hby dG_1) rfl ?_
        refine XS.icmpNo X0.here hx rfl (hb hby dG_2) rfl (by decide) ?_
        refine XS.aloadN X0.here hx rfl (hb hby dG_5) rfl rfl ?_
        refine XS.iloadN X0.here hx rfl (hb hby dG_6) rfl ?_
        refine XS.iconst X0.here hx rfl (hb hby dG_7) ?_
        show sS p e below s₁ m 8 #[rv a1, iv 4, iv r] [(.int (0 : Int32)), (.int (4 : Int32)), (.ref a1)] _
        refine st1 _ ?_
        show sS p e below T1 m 11 #[rv a1, iv 4, iv r] [(.int (own_rk4 d0 d1 d2 d3 (0 : Int32) d0))] _
        refine XS.iloadN X1.here hx rfl (hb hby dG_11) rfl ?_
        refine XS.icmpYes X1.here hx rfl (pc0 := 12) (pc' := 17) rfl (hb hby dG_12) rfl hc12 (by decide) (by decide) ?_
        refine XS.iconst X1.here hx rfl (hb hby dG_17) ?_
        refine XS.iloadN X1.here hx rfl (hb hby dG_18) rfl ?_
        refine XS.icmpNo X1.here hx rfl (hb hby dG_19) rfl (by decide) ?_
        refine XS.aloadN X1.here hx rfl (hb hby dG_22) rfl rfl ?_
        show sS p e below T1 m 23 #[rv a1, iv 4, iv r] [(.ref a1)] _
        refine XS.iloadN X1.here hx rfl (hb hby dG_23) rfl ?_
        refine XS.iconst X1.here hx rfl (hb hby dG_24) ?_
        show sS p e below T1 m 25 #[rv a1, iv 4, iv r] [(.int (1 : Int32)), (.int (4 : Int32)), (.ref a1)] _
        refine st2 _ ?_
        show sS p e below T2 m 28 #[rv a1, iv 4, iv r] [(.int (own_rk4 d0 d1 d2 d3 (1 : Int32) d1))] _
        refine XS.iloadN X2.here hx rfl (hb hby dG_28) rfl ?_
        refine XS.icmpNo X2.here hx rfl (hb hby dG_29) rfl hc29 ?_
        refine XS.iconst X2.here hx rfl (hb hby dG_32) ?_
        show sS p e below T2 m 33 #[rv a1, iv 4, iv r] [(.int (1 : Int32))] _
        exact retI X2 hx Bd.returns (hb hby dG_33) hr
      · show Qat4 Z a1 k1 d0 d1 d2 d3 d4 r h0 n0 _ T2.heap _
        rw [eh2]
        exact ⟨by unfold own_at4; rw [hc12, hc29]; rfl, N2, rfl⟩
  · obtain ⟨fs, hr, hrun, hended, hW, hsame⟩ := X1.leave (v := some (.int (0 : Int32))) (fun h => by rw [Bd.returns] at h; cases h)
    refine ⟨_, _, pre0 _ ?_, hrun, hended, _, _, rfl, ?_, ⟨_, rfl⟩, hW, hsame.mono (by decide) (by decide)⟩
    · show sS p e below s₁ m 0 #[rv a1, iv 4, iv r] [] _
      refine XS.iconst X0.here hx rfl (hb hby dG_0) ?_
      refine XS.iloadN X0.here hx rfl (hb hby dG_1) rfl ?_
      refine XS.icmpNo X0.here hx rfl (hb hby dG_2) rfl (by decide) ?_
      refine XS.aloadN X0.here hx rfl (hb hby dG_5) rfl rfl ?_
      refine XS.iloadN X0.here hx rfl (hb hby dG_6) rfl ?_
      refine XS.iconst X0.here hx rfl (hb hby dG_7) ?_
      show sS p e below s₁ m 8 #[rv a1, iv 4, iv r] [(.int (0 : Int32)), (.int (4 : Int32)), (.ref a1)] _
      refine st1 _ ?_
      show sS p e below T1 m 11 #[rv a1, iv 4, iv r] [(.int (own_rk4 d0 d1 d2 d3 (0 : Int32) d0))] _
      refine XS.iloadN X1.here hx rfl (hb hby dG_11) rfl ?_
      refine XS.icmpNo X1.here hx rfl (hb hby dG_12) rfl hc12 ?_
      refine XS.iconst X1.here hx rfl (hb hby dG_15) ?_
      show sS p e below T1 m 16 #[rv a1, iv 4, iv r] [(.int (0 : Int32))] _
      exact retI X1 hx Bd.returns (hb hby dG_16) hr
    · show Qat4 Z a1 k1 d0 d1 d2 d3 d4 r h0 n0 _ T1.heap _
      rw [eh1]
      exact ⟨by unfold own_at4; rw [hc12]; rfl, N1, rfl⟩
theorem ef_rk5 (m : MethodId) (x0 : Addr) (x1 : Int32) (x2 : Int32) : entryFrame m #[(.ref x0), (.int x1), (.int x2)] 4 = mkF m 0 #[rv x0, iv x1, iv x2, .unset] [] := by first | (simp [entryFrame, mkF, argsToLocals, Value.category]; done) | rfl
set_option maxRecDepth 65536 in
set_option maxHeartbeats 4000000 in
theorem sg_rk5_13_19 {p : Program} {l : Launch} {e : Env} {R : Room} {s : State} {m : MethodId} {args : Array Value} {below : List Frame} {meth : Method} {c : Code} {T : State} {locs : List Loc} {cells slots : Nat} {Z : State} {a0 : Array Value} {target : State} {x0 : Addr} {x1 : Int32} {x2 : Int32} {x3 : Int32} {y0 : Int32} (X : Stand p l e R s m args below meth c T locs cells slots) (hx : p.tables.exec = Jvm.exec) (hZ : Z.Warmed39 s.vm) (hw : ∀ d ∈ tables_1, d.before a0 Z = true) (hby : c.code = method_4_code) (hown : s.vm.findClass cN0 = some m.cls)
    (k : Steps p.tables e below (T.setTop (mkF m 19 #[rv x0, iv x1, iv x2, .val (.int (bif (ifCond.holds .eq y0) then x3 else (x3 + (1 : Int32))))] [])) target) : Steps p.tables e below (T.setTop (mkF m 13 #[rv x0, iv x1, iv x2, iv x3] [(.int y0)])) target := by
  show sS p e below T m 13 #[rv x0, iv x1, iv x2, iv x3] [(.int y0)] _
  rcases Bool.eq_false_or_eq_true (ifCond.holds .eq y0) with hc1 | hc1
  · try rw [hc1] at k
    refine XS.ifYes X.here hx rfl (pc0 := 13) (pc' := 19) rfl (hb hby dF_13) rfl hc1 (by decide) (by decide) ?_
    show sS p e below T m 19 #[rv x0, iv x1, iv x2, iv x3] [] _
    exact k
  · try rw [hc1] at k
    refine XS.ifNo X.here hx rfl (hb hby dF_13) rfl hc1 ?_
    show sS p e below T m 16 #[rv x0, iv x1, iv x2, iv x3] [] _
    refine XS.iinc X.here hx rfl (hb hby dF_16) rfl (l' := #[rv x0, iv x1, iv x2, .val (.int (x3 + (1 : Int32)))]) rfl ?_
    exact k
set_option maxRecDepth 65536 in
set_option maxHeartbeats 4000000 in
theorem sg_rk5_30_36 {p : Program} {l : Launch} {e : Env} {R : Room} {s : State} {m : MethodId} {args : Array Value} {below : List Frame} {meth : Method} {c : Code} {T : State} {locs : List Loc} {cells slots : Nat} {Z : State} {a0 : Array Value} {target : State} {x0 : Addr} {x1 : Int32} {x2 : Int32} {x3 : Int32} {y0 : Int32} (X : Stand p l e R s m args below meth c T locs cells slots) (hx : p.tables.exec = Jvm.exec) (hZ : Z.Warmed39 s.vm) (hw : ∀ d ∈ tables_1, d.before a0 Z = true) (hby : c.code = method_4_code) (hown : s.vm.findClass cN0 = some m.cls)
    (k : Steps p.tables e below (T.setTop (mkF m 36 #[rv x0, iv x1, iv x2, .val (.int (bif (ifCond.holds .eq y0) then x3 else (x3 + (1 : Int32))))] [])) target) : Steps p.tables e below (T.setTop (mkF m 30 #[rv x0, iv x1, iv x2, iv x3] [(.int y0)])) target := by
  show sS p e below T m 30 #[rv x0, iv x1, iv x2, iv x3] [(.int y0)] _
  rcases Bool.eq_false_or_eq_true (ifCond.holds .eq y0) with hc1 | hc1
  · try rw [hc1] at k
    refine XS.ifYes X.here hx rfl (pc0 := 30) (pc' := 36) rfl (hb hby dF_30) rfl hc1 (by decide) (by decide) ?_
    show sS p e below T m 36 #[rv x0, iv x1, iv x2, iv x3] [] _
    exact k
  · try rw [hc1] at k
    refine XS.ifNo X.here hx rfl (hb hby dF_30) rfl hc1 ?_
    show sS p e below T m 33 #[rv x0, iv x1, iv x2, iv x3] [] _
    refine XS.iinc X.here hx rfl (hb hby dF_33) rfl (l' := #[rv x0, iv x1, iv x2, .val (.int (x3 + (1 : Int32)))]) rfl ?_
    exact k
set_option maxRecDepth 65536 in
set_option maxHeartbeats 4000000 in
theorem sg_rk5_47_53 {p : Program} {l : Launch} {e : Env} {R : Room} {s : State} {m : MethodId} {args : Array Value} {below : List Frame} {meth : Method} {c : Code} {T : State} {locs : List Loc} {cells slots : Nat} {Z : State} {a0 : Array Value} {target : State} {x0 : Addr} {x1 : Int32} {x2 : Int32} {x3 : Int32} {y0 : Int32} (X : Stand p l e R s m args below meth c T locs cells slots) (hx : p.tables.exec = Jvm.exec) (hZ : Z.Warmed39 s.vm) (hw : ∀ d ∈ tables_1, d.before a0 Z = true) (hby : c.code = method_4_code) (hown : s.vm.findClass cN0 = some m.cls)
    (k : Steps p.tables e below (T.setTop (mkF m 53 #[rv x0, iv x1, iv x2, .val (.int (bif (ifCond.holds .eq y0) then x3 else (x3 + (1 : Int32))))] [])) target) : Steps p.tables e below (T.setTop (mkF m 47 #[rv x0, iv x1, iv x2, iv x3] [(.int y0)])) target := by
  show sS p e below T m 47 #[rv x0, iv x1, iv x2, iv x3] [(.int y0)] _
  rcases Bool.eq_false_or_eq_true (ifCond.holds .eq y0) with hc1 | hc1
  · try rw [hc1] at k
    refine XS.ifYes X.here hx rfl (pc0 := 47) (pc' := 53) rfl (hb hby dF_47) rfl hc1 (by decide) (by decide) ?_
    show sS p e below T m 53 #[rv x0, iv x1, iv x2, iv x3] [] _
    exact k
  · try rw [hc1] at k
    refine XS.ifNo X.here hx rfl (hb hby dF_47) rfl hc1 ?_
    show sS p e below T m 50 #[rv x0, iv x1, iv x2, iv x3] [] _
    refine XS.iinc X.here hx rfl (hb hby dF_50) rfl (l' := #[rv x0, iv x1, iv x2, .val (.int (x3 + (1 : Int32)))]) rfl ?_
    exact k
set_option maxRecDepth 65536 in
set_option maxHeartbeats 4000000 in
theorem sg_rk5_64_70 {p : Program} {l : Launch} {e : Env} {R : Room} {s : State} {m : MethodId} {args : Array Value} {below : List Frame} {meth : Method} {c : Code} {T : State} {locs : List Loc} {cells slots : Nat} {Z : State} {a0 : Array Value} {target : State} {x0 : Addr} {x1 : Int32} {x2 : Int32} {x3 : Int32} {y0 : Int32} (X : Stand p l e R s m args below meth c T locs cells slots) (hx : p.tables.exec = Jvm.exec) (hZ : Z.Warmed39 s.vm) (hw : ∀ d ∈ tables_1, d.before a0 Z = true) (hby : c.code = method_4_code) (hown : s.vm.findClass cN0 = some m.cls)
    (k : Steps p.tables e below (T.setTop (mkF m 70 #[rv x0, iv x1, iv x2, .val (.int (bif (ifCond.holds .eq y0) then x3 else (x3 + (1 : Int32))))] [])) target) : Steps p.tables e below (T.setTop (mkF m 64 #[rv x0, iv x1, iv x2, iv x3] [(.int y0)])) target := by
  show sS p e below T m 64 #[rv x0, iv x1, iv x2, iv x3] [(.int y0)] _
  rcases Bool.eq_false_or_eq_true (ifCond.holds .eq y0) with hc1 | hc1
  · try rw [hc1] at k
    refine XS.ifYes X.here hx rfl (pc0 := 64) (pc' := 70) rfl (hb hby dF_64) rfl hc1 (by decide) (by decide) ?_
    show sS p e below T m 70 #[rv x0, iv x1, iv x2, iv x3] [] _
    exact k
  · try rw [hc1] at k
    refine XS.ifNo X.here hx rfl (hb hby dF_64) rfl hc1 ?_
    show sS p e below T m 67 #[rv x0, iv x1, iv x2, iv x3] [] _
    refine XS.iinc X.here hx rfl (hb hby dF_67) rfl (l' := #[rv x0, iv x1, iv x2, .val (.int (x3 + (1 : Int32)))]) rfl ?_
    exact k
set_option maxRecDepth 65536 in
set_option maxHeartbeats 4000000 in
theorem sg_rk5_81_87 {p : Program} {l : Launch} {e : Env} {R : Room} {s : State} {m : MethodId} {args : Array Value} {below : List Frame} {meth : Method} {c : Code} {T : State} {locs : List Loc} {cells slots : Nat} {Z : State} {a0 : Array Value} {target : State} {x0 : Addr} {x1 : Int32} {x2 : Int32} {x3 : Int32} {y0 : Int32} (X : Stand p l e R s m args below meth c T locs cells slots) (hx : p.tables.exec = Jvm.exec) (hZ : Z.Warmed39 s.vm) (hw : ∀ d ∈ tables_1, d.before a0 Z = true) (hby : c.code = method_4_code) (hown : s.vm.findClass cN0 = some m.cls)
    (k : Steps p.tables e below (T.setTop (mkF m 87 #[rv x0, iv x1, iv x2, .val (.int (bif (ifCond.holds .eq y0) then x3 else (x3 + (1 : Int32))))] [])) target) : Steps p.tables e below (T.setTop (mkF m 81 #[rv x0, iv x1, iv x2, iv x3] [(.int y0)])) target := by
  show sS p e below T m 81 #[rv x0, iv x1, iv x2, iv x3] [(.int y0)] _
  rcases Bool.eq_false_or_eq_true (ifCond.holds .eq y0) with hc1 | hc1
  · try rw [hc1] at k
    refine XS.ifYes X.here hx rfl (pc0 := 81) (pc' := 87) rfl (hb hby dF_81) rfl hc1 (by decide) (by decide) ?_
    show sS p e below T m 87 #[rv x0, iv x1, iv x2, iv x3] [] _
    exact k
  · try rw [hc1] at k
    refine XS.ifNo X.here hx rfl (hb hby dF_81) rfl hc1 ?_
    show sS p e below T m 84 #[rv x0, iv x1, iv x2, iv x3] [] _
    refine XS.iinc X.here hx rfl (hb hby dF_84) rfl (l' := #[rv x0, iv x1, iv x2, .val (.int (x3 + (1 : Int32)))]) rfl ?_
    exact k
def Qrk5 (Z : State) (a1 : Addr) (k1 : ClassId) (d0 d1 d2 d3 d4 : Int32) (xi vi : Int32) (h0 : Heap) (n0 : Nat) (v : Option Value) (h : Heap) (L : List Loc) : Prop := v = some (.int (own_rk5 d0 d1 d2 d3 d4 xi vi)) ∧ Fr n0 L ∧ h = h0
set_option maxRecDepth 65536 in
set_option maxHeartbeats 40000000 in
theorem rmrk5 (l : Launch) (Z : State) (a0 : Array Value) (hw : ∀ d ∈ tables_1, d.before a0 Z = true) (ws : List Jvm.Cond) (a1 : Addr) (k1 : ClassId) (d0 d1 d2 d3 d4 : Int32) (xi vi : Int32) (h0 : Heap) (n0 : Nat) (Z0 : n0 ≤ h0.size) (V_d : Arv Z h0 a1 k1 .int (5 : Int32) [(.int d0), (.int d1), (.int d2), (.int d3), (.int d4)] (.int (0 : Int32))) (bi : ¬ xi < 0 ∧ xi < (5 : Int32)) (ei : ([(.int d0), (.int d1), (.int d2), (.int d3), (.int d4)] : List Value).getD xi.toNatClampNeg (.int (0 : Int32)) = .int vi) :
    MetFree l (⟨cN0, "rank", "([III)I"⟩ : MethodName) (head1 (Jvm.Cond.code (⟨cN0, "rank", "([III)I"⟩ : MethodName) method_4_code 4 (some .int) :: ws) ({ frames := 1, cells := 0, slots := 0, locals := 14 } : Room)) (fun a U => a = #[(.ref a1), (.int (5 : Int32)), (.int xi)] ∧ Z.Warmed39 U.vm ∧ U.heap = h0) (fun _ _ _ _ _ => True) (fun _ U o U' => ∃ v L, o = .returned v ∧ Qrk5 Z a1 k1 d0 d1 d2 d3 d4 xi vi h0 n0 v U'.heap L ∧ FrameEnd U o U' L ({ frames := 1, cells := 0, slots := 0, locals := 14 } : Room).cells ({ frames := 1, cells := 0, slots := 0, locals := 14 } : Room).slots) := by
  refine MetFree.of_bodySF (plainFor_of_name pn_1) hisR ?_
  intro p e s m args below meth c s₁ Bd hml0 hP hK
  obtain ⟨rfl, hZ, hh⟩ := hP
  have hx := Bd.exec
  have hby := Bd.bytes
  have hml : c.maxLocals = 4 := hml0
  have hown : s.vm.findClass cN0 = some m.cls := findClass_of_methodNamed Bd.named
  have hnm := (name_of_methodNamed Bd.named Bd.method).1
  have X0 : Stand p l e ({ frames := 1, cells := 0, slots := 0, locals := 14 } : Room) s m #[(.ref a1), (.int (5 : Int32)), (.int xi)] below meth c s₁ [] 0 0 := Stand.of_body Bd
  have e0 : s₁.heap = h0 := by rw [← hh, Bd.state]; rfl
  have N0 := Fr.nil n0
  have pre0 : ∀ t, Steps p.tables e below (s₁.setTop (mkF m 0 #[rv a1, iv 5, iv xi, .unset] [])) t → Steps p.tables e below (s₁.setTop (entryFrame m #[(.ref a1), (.int (5 : Int32)), (.int xi)] 4)) t := fun t k => castTop (ef_rk5 m a1 (5 : Int32) xi) k
  obtain ⟨_, _, ⟨T1, L1, k1, n1⟩, -, X1, ⟨Lc1, hQ1, l1, y1, z1⟩, st1⟩ := Jvm.LawKit.callS X0 hx (y := ⟨cN0, "before", "([III)Z"⟩) hown (mvT hZ (wK hw (i := 29) rfl)) (mvT hZ (wK hw (i := 30) rfl)) (mvT hZ (wK hw (i := 24) rfl)) (mvT hZ (wK hw (i := 31) rfl)) (by decide) (backOf (W := 0) (rmbf l Z a0 hw [] a1 k1 d0 d1 d2 d3 d4 (0 : Int32) xi d0 vi h0 n0 Z0 V_d ⟨by decide, by decide⟩ bi rfl ei) hZ (wK hw (i := 31) rfl) (wK hw (i := 24) rfl) (by decide) (by decide)) (g := (mkF m 10 #[rv a1, iv 5, iv xi, iv 0] [(.int xi), (.int (0 : Int32)), (.ref a1)])) rfl (by rw [hml]; rfl) (argsL := [(.ref a1), (.int (0 : Int32)), (.int xi)]) (rest := []) (lenOf pd_2 rfl) rfl (Nat.le_of_eq rfl) (hb hby dF_10) (fun _ _ => ⟨rfl, e0, (by decide : 0 + 0 ≤ _), (by decide : 0 + 0 ≤ _)⟩)
  dsimp only [Pt.U, Pt.locs, Pt.cells, Pt.slots] at X1 l1 y1 z1 st1 hQ1
  subst l1 y1 z1
  obtain ⟨rfl, N1q, eh1⟩ := hQ1
  have N1 := Fr.app N0 N1q
  obtain ⟨_, _, ⟨T2, L2, k2, n2⟩, -, X2, ⟨Lc2, hQ2, l2, y2, z2⟩, st2⟩ := Jvm.LawKit.callS X1 hx (y := ⟨cN0, "before", "([III)Z"⟩) hown (mvT hZ (wK hw (i := 29) rfl)) (mvT hZ (wK hw (i := 30) rfl)) (mvT hZ (wK hw (i := 24) rfl)) (mvT hZ (wK hw (i := 31) rfl)) (by decide) (backOf (W := 0) (rmbf l Z a0 hw [] a1 k1 d0 d1 d2 d3 d4 (1 : Int32) xi d1 vi h0 n0 Z0 V_d ⟨by decide, by decide⟩ bi rfl ei) hZ (wK hw (i := 31) rfl) (wK hw (i := 24) rfl) (by decide) (by decide)) (g := (mkF m 27 #[rv a1, iv 5, iv xi, .val (.int (own_st (0 : Int32) (own_bf (0 : Int32) xi d0 vi)))] [(.int xi), (.int (1 : Int32)), (.ref a1)])) rfl (by rw [hml]; rfl) (argsL := [(.ref a1), (.int (1 : Int32)), (.int xi)]) (rest := []) (lenOf pd_2 rfl) rfl (Nat.le_of_eq rfl) (hb hby dF_27) (fun _ _ => ⟨rfl, eh1, (by decide : 0 + 0 ≤ _), (by decide : 0 + 0 ≤ _)⟩)
  dsimp only [Pt.U, Pt.locs, Pt.cells, Pt.slots] at X2 l2 y2 z2 st2 hQ2
  subst l2 y2 z2
  obtain ⟨rfl, N2q, eh2⟩ := hQ2
  have N2 := Fr.app N1 N2q
  obtain ⟨_, _, ⟨T3, L3, k3, n3⟩, -, X3, ⟨Lc3, hQ3, l3, y3, z3⟩, st3⟩ := Jvm.LawKit.callS X2 hx (y := ⟨cN0, "before", "([III)Z"⟩) hown (mvT hZ (wK hw (i := 29) rfl)) (mvT hZ (wK hw (i := 30) rfl)) (mvT hZ (wK hw (i := 24) rfl)) (mvT hZ (wK hw (i := 31) rfl)) (by decide) (backOf (W := 0) (rmbf l Z a0 hw [] a1 k1 d0 d1 d2 d3 d4 (2 : Int32) xi d2 vi h0 n0 Z0 V_d ⟨by decide, by decide⟩ bi rfl ei) hZ (wK hw (i := 31) rfl) (wK hw (i := 24) rfl) (by decide) (by decide)) (g := (mkF m 44 #[rv a1, iv 5, iv xi, .val (.int (own_st (own_st (0 : Int32) (own_bf (0 : Int32) xi d0 vi)) (own_bf (1 : Int32) xi d1 vi)))] [(.int xi), (.int (2 : Int32)), (.ref a1)])) rfl (by rw [hml]; rfl) (argsL := [(.ref a1), (.int (2 : Int32)), (.int xi)]) (rest := []) (lenOf pd_2 rfl) rfl (Nat.le_of_eq rfl) (hb hby dF_44) (fun _ _ => ⟨rfl, eh2, (by decide : 0 + 0 ≤ _), (by decide : 0 + 0 ≤ _)⟩)
  dsimp only [Pt.U, Pt.locs, Pt.cells, Pt.slots] at X3 l3 y3 z3 st3 hQ3
  subst l3 y3 z3
  obtain ⟨rfl, N3q, eh3⟩ := hQ3
  have N3 := Fr.app N2 N3q
  obtain ⟨_, _, ⟨T4, L4, k4, n4⟩, -, X4, ⟨Lc4, hQ4, l4, y4, z4⟩, st4⟩ := Jvm.LawKit.callS X3 hx (y := ⟨cN0, "before", "([III)Z"⟩) hown (mvT hZ (wK hw (i := 29) rfl)) (mvT hZ (wK hw (i := 30) rfl)) (mvT hZ (wK hw (i := 24) rfl)) (mvT hZ (wK hw (i := 31) rfl)) (by decide) (backOf (W := 0) (rmbf l Z a0 hw [] a1 k1 d0 d1 d2 d3 d4 (3 : Int32) xi d3 vi h0 n0 Z0 V_d ⟨by decide, by decide⟩ bi rfl ei) hZ (wK hw (i := 31) rfl) (wK hw (i := 24) rfl) (by decide) (by decide)) (g := (mkF m 61 #[rv a1, iv 5, iv xi, .val (.int (own_st (own_st (own_st (0 : Int32) (own_bf (0 : Int32) xi d0 vi)) (own_bf (1 : Int32) xi d1 vi)) (own_bf (2 : Int32) xi d2 vi)))] [(.int xi), (.int (3 : Int32)), (.ref a1)])) rfl (by rw [hml]; rfl) (argsL := [(.ref a1), (.int (3 : Int32)), (.int xi)]) (rest := []) (lenOf pd_2 rfl) rfl (Nat.le_of_eq rfl) (hb hby dF_61) (fun _ _ => ⟨rfl, eh3, (by decide : 0 + 0 ≤ _), (by decide : 0 + 0 ≤ _)⟩)
  dsimp only [Pt.U, Pt.locs, Pt.cells, Pt.slots] at X4 l4 y4 z4 st4 hQ4
  subst l4 y4 z4
  obtain ⟨rfl, N4q, eh4⟩ := hQ4
  have N4 := Fr.app N3 N4q
  obtain ⟨_, _, ⟨T5, L5, k5, n5⟩, -, X5, ⟨Lc5, hQ5, l5, y5, z5⟩, st5⟩ := Jvm.LawKit.callS X4 hx (y := ⟨cN0, "before", "([III)Z"⟩) hown (mvT hZ (wK hw (i := 29) rfl)) (mvT hZ (wK hw (i := 30) rfl)) (mvT hZ (wK hw (i := 24) rfl)) (mvT hZ (wK hw (i := 31) rfl)) (by decide) (backOf (W := 0) (rmbf l Z a0 hw [] a1 k1 d0 d1 d2 d3 d4 (4 : Int32) xi d4 vi h0 n0 Z0 V_d ⟨by decide, by decide⟩ bi rfl ei) hZ (wK hw (i := 31) rfl) (wK hw (i := 24) rfl) (by decide) (by decide)) (g := (mkF m 78 #[rv a1, iv 5, iv xi, .val (.int (own_st (own_st (own_st (own_st (0 : Int32) (own_bf (0 : Int32) xi d0 vi)) (own_bf (1 : Int32) xi d1 vi)) (own_bf (2 : Int32) xi d2 vi)) (own_bf (3 : Int32) xi d3 vi)))] [(.int xi), (.int (4 : Int32)), (.ref a1)])) rfl (by rw [hml]; rfl) (argsL := [(.ref a1), (.int (4 : Int32)), (.int xi)]) (rest := []) (lenOf pd_2 rfl) rfl (Nat.le_of_eq rfl) (hb hby dF_78) (fun _ _ => ⟨rfl, eh4, (by decide : 0 + 0 ≤ _), (by decide : 0 + 0 ≤ _)⟩)
  dsimp only [Pt.U, Pt.locs, Pt.cells, Pt.slots] at X5 l5 y5 z5 st5 hQ5
  subst l5 y5 z5
  obtain ⟨rfl, N5q, eh5⟩ := hQ5
  have N5 := Fr.app N4 N5q
  obtain ⟨fs, hr, hrun, hended, hW, hsame⟩ := X5.leave (v := some (.int (own_st (own_st (own_st (own_st (own_st (0 : Int32) (own_bf (0 : Int32) xi d0 vi)) (own_bf (1 : Int32) xi d1 vi)) (own_bf (2 : Int32) xi d2 vi)) (own_bf (3 : Int32) xi d3 vi)) (own_bf (4 : Int32) xi d4 vi)))) (fun h => by rw [Bd.returns] at h; cases h)
  refine ⟨_, _, pre0 _ ?_, hrun, hended, _, _, rfl, ?_, ⟨_, rfl⟩, hW, hsame.mono (by decide) (by decide)⟩
  · show sS p e below s₁ m 0 #[rv a1, iv 5, iv xi, .unset] [] _
    refine XS.iconst X0.here hx rfl (hb hby dF_0) ?_
    refine XS.istoreN X0.here hx rfl (hb hby dF_1) rfl (l' := #[rv a1, iv 5, iv xi, iv 0]) rfl ?_
    refine XS.iconst X0.here hx rfl (hb hby dF_2) ?_
    refine XS.iloadN X0.here hx rfl (hb hby dF_3) rfl ?_
    refine XS.icmpNo X0.here hx rfl (hb hby dF_4) rfl (by decide) ?_
    refine XS.aloadN X0.here hx rfl (hb hby dF_7) rfl rfl ?_
    show sS p e below s₁ m 8 #[rv a1, iv 5, iv xi, iv 0] [(.ref a1)] _
    refine XS.iconst X0.here hx rfl (hb hby dF_8) ?_
    refine XS.iloadN X0.here hx rfl (hb hby dF_9) rfl ?_
    show sS p e below s₁ m 10 #[rv a1, iv 5, iv xi, iv 0] [(.int xi), (.int (0 : Int32)), (.ref a1)] _
    refine st1 _ ?_
    show sS p e below T1 m 13 #[rv a1, iv 5, iv xi, iv 0] [(.int (own_bf (0 : Int32) xi d0 vi))] _
    refine sg_rk5_13_19 X1 hx hZ hw hby hown ?_
    show sS p e below T1 m 19 #[rv a1, iv 5, iv xi, .val (.int (own_st (0 : Int32) (own_bf (0 : Int32) xi d0 vi)))] [] _
    refine XS.iconst X1.here hx rfl (hb hby dF_19) ?_
    refine XS.iloadN X1.here hx rfl (hb hby dF_20) rfl ?_
    refine XS.icmpNo X1.here hx rfl (hb hby dF_21) rfl (by decide) ?_
    refine XS.aloadN X1.here hx rfl (hb hby dF_24) rfl rfl ?_
    refine XS.iconst X1.here hx rfl (hb hby dF_25) ?_
    refine XS.iloadN X1.here hx rfl (hb hby dF_26) rfl ?_
    show sS p e below T1 m 27 #[rv a1, iv 5, iv xi, .val (.int (own_st (0 : Int32) (own_bf (0 : Int32) xi d0 vi)))] [(.int xi), (.int (1 : Int32)), (.ref a1)] _
    refine st2 _ ?_
    show sS p e below T2 m 30 #[rv a1, iv 5, iv xi, .val (.int (own_st (0 : Int32) (own_bf (0 : Int32) xi d0 vi)))] [(.int (own_bf (1 : Int32) xi d1 vi))] _
    refine sg_rk5_30_36 X2 hx hZ hw hby hown ?_
    show sS p e below T2 m 36 #[rv a1, iv 5, iv xi, .val (.int (own_st (own_st (0 : Int32) (own_bf (0 : Int32) xi d0 vi)) (own_bf (1 : Int32) xi d1 vi)))] [] _
    refine XS.iconst X2.here hx rfl (hb hby dF_36) ?_
    refine XS.iloadN X2.here hx rfl (hb hby dF_37) rfl ?_
    refine XS.icmpNo X2.here hx rfl (hb hby dF_38) rfl (by decide) ?_
    refine XS.aloadN X2.here hx rfl (hb hby dF_41) rfl rfl ?_
    refine XS.iconst X2.here hx rfl (hb hby dF_42) ?_
    refine XS.iloadN X2.here hx rfl (hb hby dF_43) rfl ?_
    show sS p e below T2 m 44 #[rv a1, iv 5, iv xi, .val (.int (own_st (own_st (0 : Int32) (own_bf (0 : Int32) xi d0 vi)) (own_bf (1 : Int32) xi d1 vi)))] [(.int xi), (.int (2 : Int32)), (.ref a1)] _
    refine st3 _ ?_
    show sS p e below T3 m 47 #[rv a1, iv 5, iv xi, .val (.int (own_st (own_st (0 : Int32) (own_bf (0 : Int32) xi d0 vi)) (own_bf (1 : Int32) xi d1 vi)))] [(.int (own_bf (2 : Int32) xi d2 vi))] _
    refine sg_rk5_47_53 X3 hx hZ hw hby hown ?_
    show sS p e below T3 m 53 #[rv a1, iv 5, iv xi, .val (.int (own_st (own_st (own_st (0 : Int32) (own_bf (0 : Int32) xi d0 vi)) (own_bf (1 : Int32) xi d1 vi)) (own_bf (2 : Int32) xi d2 vi)))] [] _
    refine XS.iconst X3.here hx rfl (hb hby dF_53) ?_
    refine XS.iloadN X3.here hx rfl (hb hby dF_54) rfl ?_
    refine XS.icmpNo X3.here hx rfl (hb hby dF_55) rfl (by decide) ?_
    refine XS.aloadN X3.here hx rfl (hb hby dF_58) rfl rfl ?_
    refine XS.iconst X3.here hx rfl (hb hby dF_59) ?_
    refine XS.iloadN X3.here hx rfl (hb hby dF_60) rfl ?_
    show sS p e below T3 m 61 #[rv a1, iv 5, iv xi, .val (.int (own_st (own_st (own_st (0 : Int32) (own_bf (0 : Int32) xi d0 vi)) (own_bf (1 : Int32) xi d1 vi)) (own_bf (2 : Int32) xi d2 vi)))] [(.int xi), (.int (3 : Int32)), (.ref a1)] _
    refine st4 _ ?_
    show sS p e below T4 m 64 #[rv a1, iv 5, iv xi, .val (.int (own_st (own_st (own_st (0 : Int32) (own_bf (0 : Int32) xi d0 vi)) (own_bf (1 : Int32) xi d1 vi)) (own_bf (2 : Int32) xi d2 vi)))] [(.int (own_bf (3 : Int32) xi d3 vi))] _
    refine sg_rk5_64_70 X4 hx hZ hw hby hown ?_
    show sS p e below T4 m 70 #[rv a1, iv 5, iv xi, .val (.int (own_st (own_st (own_st (own_st (0 : Int32) (own_bf (0 : Int32) xi d0 vi)) (own_bf (1 : Int32) xi d1 vi)) (own_bf (2 : Int32) xi d2 vi)) (own_bf (3 : Int32) xi d3 vi)))] [] _
    refine XS.iconst X4.here hx rfl (hb hby dF_70) ?_
    refine XS.iloadN X4.here hx rfl (hb hby dF_71) rfl ?_
    refine XS.icmpNo X4.here hx rfl (hb hby dF_72) rfl (by decide) ?_
    refine XS.aloadN X4.here hx rfl (hb hby dF_75) rfl rfl ?_
    refine XS.iconst X4.here hx rfl (hb hby dF_76) ?_
    refine XS.iloadN X4.here hx rfl (hb hby dF_77) rfl ?_
    show sS p e below T4 m 78 #[rv a1, iv 5, iv xi, .val (.int (own_st (own_st (own_st (own_st (0 : Int32) (own_bf (0 : Int32) xi d0 vi)) (own_bf (1 : Int32) xi d1 vi)) (own_bf (2 : Int32) xi d2 vi)) (own_bf (3 : Int32) xi d3 vi)))] [(.int xi), (.int (4 : Int32)), (.ref a1)] _
    refine st5 _ ?_
    show sS p e below T5 m 81 #[rv a1, iv 5, iv xi, .val (.int (own_st (own_st (own_st (own_st (0 : Int32) (own_bf (0 : Int32) xi d0 vi)) (own_bf (1 : Int32) xi d1 vi)) (own_bf (2 : Int32) xi d2 vi)) (own_bf (3 : Int32) xi d3 vi)))] [(.int (own_bf (4 : Int32) xi d4 vi))] _
    refine sg_rk5_81_87 X5 hx hZ hw hby hown ?_
    show sS p e below T5 m 87 #[rv a1, iv 5, iv xi, .val (.int (own_st (own_st (own_st (own_st (own_st (0 : Int32) (own_bf (0 : Int32) xi d0 vi)) (own_bf (1 : Int32) xi d1 vi)) (own_bf (2 : Int32) xi d2 vi)) (own_bf (3 : Int32) xi d3 vi)) (own_bf (4 : Int32) xi d4 vi)))] [] _
    refine XS.iloadN X5.here hx rfl (hb hby dF_87) rfl ?_
    show sS p e below T5 m 88 #[rv a1, iv 5, iv xi, .val (.int (own_st (own_st (own_st (own_st (own_st (0 : Int32) (own_bf (0 : Int32) xi d0 vi)) (own_bf (1 : Int32) xi d1 vi)) (own_bf (2 : Int32) xi d2 vi)) (own_bf (3 : Int32) xi d3 vi)) (own_bf (4 : Int32) xi d4 vi)))] [(.int (own_st (own_st (own_st (own_st (own_st (0 : Int32) (own_bf (0 : Int32) xi d0 vi)) (own_bf (1 : Int32) xi d1 vi)) (own_bf (2 : Int32) xi d2 vi)) (own_bf (3 : Int32) xi d3 vi)) (own_bf (4 : Int32) xi d4 vi)))] _
    exact retI X5 hx Bd.returns (hb hby dF_88) hr
  · show Qrk5 Z a1 k1 d0 d1 d2 d3 d4 xi vi h0 n0 _ T5.heap _
    rw [eh5]
    exact ⟨rfl, N5, rfl⟩
theorem ef_at5 (m : MethodId) (x0 : Addr) (x1 : Int32) (x2 : Int32) : entryFrame m #[(.ref x0), (.int x1), (.int x2)] 3 = mkF m 0 #[rv x0, iv x1, iv x2] [] := by first | (simp [entryFrame, mkF, argsToLocals, Value.category]; done) | rfl
def Qat5 (Z : State) (a1 : Addr) (k1 : ClassId) (d0 d1 d2 d3 d4 : Int32) (r : Int32) (h0 : Heap) (n0 : Nat) (v : Option Value) (h : Heap) (L : List Loc) : Prop := v = some (.int (own_at5 d0 d1 d2 d3 d4 r)) ∧ Fr n0 L ∧ h = h0
set_option maxRecDepth 65536 in
set_option maxHeartbeats 40000000 in
theorem rmat5 (l : Launch) (Z : State) (a0 : Array Value) (hw : ∀ d ∈ tables_1, d.before a0 Z = true) (ws : List Jvm.Cond) (a1 : Addr) (k1 : ClassId) (d0 d1 d2 d3 d4 : Int32) (r : Int32) (h0 : Heap) (n0 : Nat) (Z0 : n0 ≤ h0.size) (V_d : Arv Z h0 a1 k1 .int (5 : Int32) [(.int d0), (.int d1), (.int d2), (.int d3), (.int d4)] (.int (0 : Int32))) :
    MetFree l (⟨cN0, "at", "([III)I"⟩ : MethodName) (head1 (Jvm.Cond.code (⟨cN0, "at", "([III)I"⟩ : MethodName) method_5_code 3 (some .int) :: ws) ({ frames := 2, cells := 0, slots := 0, locals := 29 } : Room)) (fun a U => a = #[(.ref a1), (.int (5 : Int32)), (.int r)] ∧ Z.Warmed39 U.vm ∧ U.heap = h0) (fun _ _ _ _ _ => True) (fun _ U o U' => ∃ v L, o = .returned v ∧ Qat5 Z a1 k1 d0 d1 d2 d3 d4 r h0 n0 v U'.heap L ∧ FrameEnd U o U' L ({ frames := 2, cells := 0, slots := 0, locals := 29 } : Room).cells ({ frames := 2, cells := 0, slots := 0, locals := 29 } : Room).slots) := by
  refine MetFree.of_bodySF (plainFor_of_name pn_1) hisR ?_
  intro p e s m args below meth c s₁ Bd hml0 hP hK
  obtain ⟨rfl, hZ, hh⟩ := hP
  have hx := Bd.exec
  have hby := Bd.bytes
  have hml : c.maxLocals = 3 := hml0
  have hown : s.vm.findClass cN0 = some m.cls := findClass_of_methodNamed Bd.named
  have hnm := (name_of_methodNamed Bd.named Bd.method).1
  have X0 : Stand p l e ({ frames := 2, cells := 0, slots := 0, locals := 29 } : Room) s m #[(.ref a1), (.int (5 : Int32)), (.int r)] below meth c s₁ [] 0 0 := Stand.of_body Bd
  have e0 : s₁.heap = h0 := by rw [← hh, Bd.state]; rfl
  have N0 := Fr.nil n0
  have pre0 : ∀ t, Steps p.tables e below (s₁.setTop (mkF m 0 #[rv a1, iv 5, iv r] [])) t → Steps p.tables e below (s₁.setTop (entryFrame m #[(.ref a1), (.int (5 : Int32)), (.int r)] 3)) t := fun t k => castTop (ef_at5 m a1 (5 : Int32) r) k
  obtain ⟨_, _, ⟨T1, L1, k1, n1⟩, -, X1, ⟨Lc1, hQ1, l1, y1, z1⟩, st1⟩ := Jvm.LawKit.callS X0 hx (y := ⟨cN0, "rank", "([III)I"⟩) hown (mvT hZ (wK hw (i := 26) rfl)) (mvT hZ (wK hw (i := 27) rfl)) (mvT hZ (wK hw (i := 24) rfl)) (mvT hZ (wK hw (i := 28) rfl)) (by decide) (backOf (W := 0) (rmrk5 l Z a0 hw [] a1 k1 d0 d1 d2 d3 d4 (0 : Int32) d0 h0 n0 Z0 V_d ⟨by decide, by decide⟩ rfl) hZ (wK hw (i := 28) rfl) (wK hw (i := 24) rfl) (by decide) (by decide)) (g := (mkF m 8 #[rv a1, iv 5, iv r] [(.int (0 : Int32)), (.int (5 : Int32)), (.ref a1)])) rfl (by rw [hml]; rfl) (argsL := [(.ref a1), (.int (5 : Int32)), (.int (0 : Int32))]) (rest := []) (lenOf pd_3 rfl) rfl (Nat.le_of_eq rfl) (hb hby dG_8) (fun _ _ => ⟨rfl, e0, (by decide : 0 + 0 ≤ _), (by decide : 0 + 0 ≤ _)⟩)
  dsimp only [Pt.U, Pt.locs, Pt.cells, Pt.slots] at X1 l1 y1 z1 st1 hQ1
  subst l1 y1 z1
  obtain ⟨rfl, N1q, eh1⟩ := hQ1
  have N1 := Fr.app N0 N1q
  rcases Bool.eq_false_or_eq_true (if_icmp.holds .ne (own_rk5 d0 d1 d2 d3 d4 (0 : Int32) d0) r) with hc12 | hc12
  · obtain ⟨_, _, ⟨T2, L2, k2, n2⟩, -, X2, ⟨Lc2, hQ2, l2, y2, z2⟩, st2⟩ := Jvm.LawKit.callS X1 hx (y := ⟨cN0, "rank", "([III)I"⟩) hown (mvT hZ (wK hw (i := 26) rfl)) (mvT hZ (wK hw (i := 27) rfl)) (mvT hZ (wK hw (i := 24) rfl)) (mvT hZ (wK hw (i := 28) rfl)) (by decide) (backOf (W := 0) (rmrk5 l Z a0 hw [] a1 k1 d0 d1 d2 d3 d4 (1 : Int32) d1 h0 n0 Z0 V_d ⟨by decide, by decide⟩ rfl) hZ (wK hw (i := 28) rfl) (wK hw (i := 24) rfl) (by decide) (by decide)) (g := (mkF m 25 #[rv a1, iv 5, iv r] [(.int (1 : Int32)), (.int (5 : Int32)), (.ref a1)])) rfl (by rw [hml]; rfl) (argsL := [(.ref a1), (.int (5 : Int32)), (.int (1 : Int32))]) (rest := []) (lenOf pd_3 rfl) rfl (Nat.le_of_eq rfl) (hb hby dG_25) (fun _ _ => ⟨rfl, eh1, (by decide : 0 + 0 ≤ _), (by decide : 0 + 0 ≤ _)⟩)
    dsimp only [Pt.U, Pt.locs, Pt.cells, Pt.slots] at X2 l2 y2 z2 st2 hQ2
    subst l2 y2 z2
    obtain ⟨rfl, N2q, eh2⟩ := hQ2
    have N2 := Fr.app N1 N2q
    rcases Bool.eq_false_or_eq_true (if_icmp.holds .ne (own_rk5 d0 d1 d2 d3 d4 (1 : Int32) d1) r) with hc29 | hc29
    · obtain ⟨_, _, ⟨T3, L3, k3, n3⟩, -, X3, ⟨Lc3, hQ3, l3, y3, z3⟩, st3⟩ := Jvm.LawKit.callS X2 hx (y := ⟨cN0, "rank", "([III)I"⟩) hown (mvT hZ (wK hw (i := 26) rfl)) (mvT hZ (wK hw (i := 27) rfl)) (mvT hZ (wK hw (i := 24) rfl)) (mvT hZ (wK hw (i := 28) rfl)) (by decide) (backOf (W := 0) (rmrk5 l Z a0 hw [] a1 k1 d0 d1 d2 d3 d4 (2 : Int32) d2 h0 n0 Z0 V_d ⟨by decide, by decide⟩ rfl) hZ (wK hw (i := 28) rfl) (wK hw (i := 24) rfl) (by decide) (by decide)) (g := (mkF m 42 #[rv a1, iv 5, iv r] [(.int (2 : Int32)), (.int (5 : Int32)), (.ref a1)])) rfl (by rw [hml]; rfl) (argsL := [(.ref a1), (.int (5 : Int32)), (.int (2 : Int32))]) (rest := []) (lenOf pd_3 rfl) rfl (Nat.le_of_eq rfl) (hb hby dG_42) (fun _ _ => ⟨rfl, eh2, (by decide : 0 + 0 ≤ _), (by decide : 0 + 0 ≤ _)⟩)
      dsimp only [Pt.U, Pt.locs, Pt.cells, Pt.slots] at X3 l3 y3 z3 st3 hQ3
      subst l3 y3 z3
      obtain ⟨rfl, N3q, eh3⟩ := hQ3
      have N3 := Fr.app N2 N3q
      rcases Bool.eq_false_or_eq_true (if_icmp.holds .ne (own_rk5 d0 d1 d2 d3 d4 (2 : Int32) d2) r) with hc46 | hc46
      · obtain ⟨_, _, ⟨T4, L4, k4, n4⟩, -, X4, ⟨Lc4, hQ4, l4, y4, z4⟩, st4⟩ := Jvm.LawKit.callS X3 hx (y := ⟨cN0, "rank", "([III)I"⟩) hown (mvT hZ (wK hw (i := 26) rfl)) (mvT hZ (wK hw (i := 27) rfl)) (mvT hZ (wK hw (i := 24) rfl)) (mvT hZ (wK hw (i := 28) rfl)) (by decide) (backOf (W := 0) (rmrk5 l Z a0 hw [] a1 k1 d0 d1 d2 d3 d4 (3 : Int32) d3 h0 n0 Z0 V_d ⟨by decide, by decide⟩ rfl) hZ (wK hw (i := 28) rfl) (wK hw (i := 24) rfl) (by decide) (by decide)) (g := (mkF m 59 #[rv a1, iv 5, iv r] [(.int (3 : Int32)), (.int (5 : Int32)), (.ref a1)])) rfl (by rw [hml]; rfl) (argsL := [(.ref a1), (.int (5 : Int32)), (.int (3 : Int32))]) (rest := []) (lenOf pd_3 rfl) rfl (Nat.le_of_eq rfl) (hb hby dG_59) (fun _ _ => ⟨rfl, eh3, (by decide : 0 + 0 ≤ _), (by decide : 0 + 0 ≤ _)⟩)
        dsimp only [Pt.U, Pt.locs, Pt.cells, Pt.slots] at X4 l4 y4 z4 st4 hQ4
        subst l4 y4 z4
        obtain ⟨rfl, N4q, eh4⟩ := hQ4
        have N4 := Fr.app N3 N4q
        rcases Bool.eq_false_or_eq_true (if_icmp.holds .ne (own_rk5 d0 d1 d2 d3 d4 (3 : Int32) d3) r) with hc63 | hc63
        · obtain ⟨_, _, ⟨T5, L5, k5, n5⟩, -, X5, ⟨Lc5, hQ5, l5, y5, z5⟩, st5⟩ := Jvm.LawKit.callS X4 hx (y := ⟨cN0, "rank", "([III)I"⟩) hown (mvT hZ (wK hw (i := 26) rfl)) (mvT hZ (wK hw (i := 27) rfl)) (mvT hZ (wK hw (i := 24) rfl)) (mvT hZ (wK hw (i := 28) rfl)) (by decide) (backOf (W := 0) (rmrk5 l Z a0 hw [] a1 k1 d0 d1 d2 d3 d4 (4 : Int32) d4 h0 n0 Z0 V_d ⟨by decide, by decide⟩ rfl) hZ (wK hw (i := 28) rfl) (wK hw (i := 24) rfl) (by decide) (by decide)) (g := (mkF m 76 #[rv a1, iv 5, iv r] [(.int (4 : Int32)), (.int (5 : Int32)), (.ref a1)])) rfl (by rw [hml]; rfl) (argsL := [(.ref a1), (.int (5 : Int32)), (.int (4 : Int32))]) (rest := []) (lenOf pd_3 rfl) rfl (Nat.le_of_eq rfl) (hb hby dG_76) (fun _ _ => ⟨rfl, eh4, (by decide : 0 + 0 ≤ _), (by decide : 0 + 0 ≤ _)⟩)
          dsimp only [Pt.U, Pt.locs, Pt.cells, Pt.slots] at X5 l5 y5 z5 st5 hQ5
          subst l5 y5 z5
          obtain ⟨rfl, N5q, eh5⟩ := hQ5
          have N5 := Fr.app N4 N5q
          rcases Bool.eq_false_or_eq_true (if_icmp.holds .ne (own_rk5 d0 d1 d2 d3 d4 (4 : Int32) d4) r) with hc80 | hc80
          · obtain ⟨fs, hr, hrun, hended, hW, hsame⟩ := X5.leave (v := some (.int (0 : Int32))) (fun h => by rw [Bd.returns] at h; cases h)
            refine ⟨_, _, pre0 _ ?_, hrun, hended, _, _, rfl, ?_, ⟨_, rfl⟩, hW, hsame.mono (by decide) (by decide)⟩
            · show sS p e below s₁ m 0 #[rv a1, iv 5, iv r] [] _
              refine XS.iconst X0.here hx rfl (hb hby dG_0) ?_
              refine XS.iloadN X0.here hx rfl (hb hby dG_1) rfl ?_
              refine XS.icmpNo X0.here hx rfl (hb hby dG_2) rfl (by decide) ?_
              refine XS.aloadN X0.here hx rfl (hb hby dG_5) rfl rfl ?_
              refine XS.iloadN X0.here hx rfl (hb hby dG_6) rfl ?_
              refine XS.iconst X0.here hx rfl (hb hby dG_7) ?_
              show sS p e below s₁ m 8 #[rv a1, iv 5, iv r] [(.int (0 : Int32)), (.int (5 : Int32)), (.ref a1)] _
              refine st1 _ ?_
              show sS p e below T1 m 11 #[rv a1, iv 5, iv r] [(.int (own_rk5 d0 d1 d2 d3 d4 (0 : Int32) d0))] _
              refine XS.iloadN X1.here hx rfl (hb hby dG_11) rfl ?_
              refine XS.icmpYes X1.here hx rfl (pc0 := 12) (pc' := 17) rfl (hb hby dG_12) rfl hc12 (by decide) (by decide) ?_
              refine XS.iconst X1.here hx rfl (hb hby dG_17) ?_
              refine XS.iloadN X1.here hx rfl (hb hby dG_18) rfl ?_
              refine XS.icmpNo X1.here hx rfl (hb hby dG_19) rfl (by decide) ?_
              refine XS.aloadN X1.here hx rfl (hb hby dG_22) rfl rfl ?_
              show sS p e below T1 m 23 #[rv a1, iv 5, iv r] [(.ref a1)] _
              refine XS.iloadN X1.here hx rfl (hb hby dG_23) rfl ?_
              refine XS.iconst X1.here hx rfl (hb hby dG_24) ?_
              show sS p e below T1 m 25 #[rv a1, iv 5, iv r] [(.int (1 : Int32)), (.int (5 : Int32)), (.ref a1)] _
              refine st2 _ ?_
              show sS p e below T2 m 28 #[rv a1, iv 5, iv r] [(.int (own_rk5 d0 d1 d2 d3 d4 (1 : Int32) d1))] _
              refine XS.iloadN X2.here hx rfl (hb hby dG_28) rfl ?_
              refine XS.icmpYes X2.here hx rfl (pc0 := 29) (pc' := 34) rfl (hb hby dG_29) rfl hc29 (by decide) (by decide) ?_
              refine XS.iconst X2.here hx rfl (hb hby dG_34) ?_
              refine XS.iloadN X2.here hx rfl (hb hby dG_35) rfl ?_
              refine XS.icmpNo X2.here hx rfl (hb hby dG_36) rfl (by decide) ?_
              refine XS.aloadN X2.here hx rfl (hb hby dG_39) rfl rfl ?_
              show sS p e below T2 m 40 #[rv a1, iv 5, iv r] [(.ref a1)] _
              refine XS.iloadN X2.here hx rfl (hb hby dG_40) rfl ?_
              refine XS.iconst X2.here hx rfl (hb hby dG_41) ?_
              show sS p e below T2 m 42 #[rv a1, iv 5, iv r] [(.int (2 : Int32)), (.int (5 : Int32)), (.ref a1)] _
              refine st3 _ ?_
              show sS p e below T3 m 45 #[rv a1, iv 5, iv r] [(.int (own_rk5 d0 d1 d2 d3 d4 (2 : Int32) d2))] _
              refine XS.iloadN X3.here hx rfl (hb hby dG_45) rfl ?_
              refine XS.icmpYes X3.here hx rfl (pc0 := 46) (pc' := 51) rfl (hb hby dG_46) rfl hc46 (by decide) (by decide) ?_
              refine XS.iconst X3.here hx rfl (hb hby dG_51) ?_
              refine XS.iloadN X3.here hx rfl (hb hby dG_52) rfl ?_
              refine XS.icmpNo X3.here hx rfl (hb hby dG_53) rfl (by decide) ?_
              refine XS.aloadN X3.here hx rfl (hb hby dG_56) rfl rfl ?_
              show sS p e below T3 m 57 #[rv a1, iv 5, iv r] [(.ref a1)] _
              refine XS.iloadN X3.here hx rfl (hb hby dG_57) rfl ?_
              refine XS.iconst X3.here hx rfl (hb hby dG_58) ?_
              show sS p e below T3 m 59 #[rv a1, iv 5, iv r] [(.int (3 : Int32)), (.int (5 : Int32)), (.ref a1)] _
              refine st4 _ ?_
              show sS p e below T4 m 62 #[rv a1, iv 5, iv r] [(.int (own_rk5 d0 d1 d2 d3 d4 (3 : Int32) d3))] _
              refine XS.iloadN X4.here hx rfl (hb hby dG_62) rfl ?_
              refine XS.icmpYes X4.here hx rfl (pc0 := 63) (pc' := 68) rfl (hb hby dG_63) rfl hc63 (by decide) (by decide) ?_
              refine XS.iconst X4.here hx rfl (hb hby dG_68) ?_
              refine XS.iloadN X4.here hx rfl (hb hby dG_69) rfl ?_
              refine XS.icmpNo X4.here hx rfl (hb hby dG_70) rfl (by decide) ?_
              refine XS.aloadN X4.here hx rfl (hb hby dG_73) rfl rfl ?_
              show sS p e below T4 m 74 #[rv a1, iv 5, iv r] [(.ref a1)] _
              refine XS.iloadN X4.here hx rfl (hb hby dG_74) rfl ?_
              refine XS.iconst X4.here hx rfl (hb hby dG_75) ?_
              show sS p e below T4 m 76 #[rv a1, iv 5, iv r] [(.int (4 : Int32)), (.int (5 : Int32)), (.ref a1)] _
              refine st5 _ ?_
              show sS p e below T5 m 79 #[rv a1, iv 5, iv r] [(.int (own_rk5 d0 d1 d2 d3 d4 (4 : Int32) d4))] _
              refine XS.iloadN X5.here hx rfl (hb hby dG_79) rfl ?_
              refine XS.icmpYes X5.here hx rfl (pc0 := 80) (pc' := 85) rfl (hb hby dG_80) rfl hc80 (by decide) (by decide) ?_
              refine XS.iconst X5.here hx rfl (hb hby dG_85) ?_
              show sS p e below T5 m 86 #[rv a1, iv 5, iv r] [(.int (0 : Int32))] _
              exact retI X5 hx Bd.returns (hb hby dG_86) hr
            · show Qat5 Z a1 k1 d0 d1 d2 d3 d4 r h0 n0 _ T5.heap _
              rw [eh5]
              exact ⟨by unfold own_at5; rw [hc12, hc29, hc46, hc63, hc80]; rfl, N5, rfl⟩
          · obtain ⟨fs, hr, hrun, hended, hW, hsame⟩ := X5.leave (v := some (.int (4 : Int32))) (fun h => by rw [Bd.returns] at h; cases h)
            refine ⟨_, _, pre0 _ ?_, hrun, hended, _, _, rfl, ?_, ⟨_, rfl⟩, hW, hsame.mono (by decide) (by decide)⟩
            · show sS p e below s₁ m 0 #[rv a1, iv 5, iv r] [] _
              refine XS.iconst X0.here hx rfl (hb hby dG_0) ?_
              refine XS.iloadN X0.here hx rfl (hb hby dG_1) rfl ?_
              refine XS.icmpNo X0.here hx rfl (hb hby dG_2) rfl (by decide) ?_
              refine XS.aloadN X0.here hx rfl (hb hby dG_5) rfl rfl ?_
              refine XS.iloadN X0.here hx rfl (hb hby dG_6) rfl ?_
              refine XS.iconst X0.here hx rfl (hb hby dG_7) ?_
              show sS p e below s₁ m 8 #[rv a1, iv 5, iv r] [(.int (0 : Int32)), (.int (5 : Int32)), (.ref a1)] _
              refine st1 _ ?_
              show sS p e below T1 m 11 #[rv a1, iv 5, iv r] [(.int (own_rk5 d0 d1 d2 d3 d4 (0 : Int32) d0))] _
              refine XS.iloadN X1.here hx rfl (hb hby dG_11) rfl ?_
              refine XS.icmpYes X1.here hx rfl (pc0 := 12) (pc' := 17) rfl (hb hby dG_12) rfl hc12 (by decide) (by decide) ?_
              refine XS.iconst X1.here hx rfl (hb hby dG_17) ?_
              refine XS.iloadN X1.here hx rfl (hb hby dG_18) rfl ?_
              refine XS.icmpNo X1.here hx rfl (hb hby dG_19) rfl (by decide) ?_
              refine XS.aloadN X1.here hx rfl (hb hby dG_22) rfl rfl ?_
              show sS p e below T1 m 23 #[rv a1, iv 5, iv r] [(.ref a1)] _
              refine XS.iloadN X1.here hx rfl (hb hby dG_23) rfl ?_
              refine XS.iconst X1.here hx rfl (hb hby dG_24) ?_
              show sS p e below T1 m 25 #[rv a1, iv 5, iv r] [(.int (1 : Int32)), (.int (5 : Int32)), (.ref a1)] _
              refine st2 _ ?_
              show sS p e below T2 m 28 #[rv a1, iv 5, iv r] [(.int (own_rk5 d0 d1 d2 d3 d4 (1 : Int32) d1))] _
              refine XS.iloadN X2.here hx rfl (hb hby dG_28) rfl ?_
              refine XS.icmpYes X2.here hx rfl (pc0 := 29) (pc' := 34) rfl (hb hby dG_29) rfl hc29 (by decide) (by decide) ?_
              refine XS.iconst X2.here hx rfl (hb hby dG_34) ?_
              refine XS.iloadN X2.here hx rfl (hb hby dG_35) rfl ?_
              refine XS.icmpNo X2.here hx rfl (hb hby dG_36) rfl (by decide) ?_
              refine XS.aloadN X2.here hx rfl (hb hby dG_39) rfl rfl ?_
              show sS p e below T2 m 40 #[rv a1, iv 5, iv r] [(.ref a1)] _
              refine XS.iloadN X2.here hx rfl (hb hby dG_40) rfl ?_
              refine XS.iconst X2.here hx rfl (hb hby dG_41) ?_
              show sS p e below T2 m 42 #[rv a1, iv 5, iv r] [(.int (2 : Int32)), (.int (5 : Int32)), (.ref a1)] _
              refine st3 _ ?_
              show sS p e below T3 m 45 #[rv a1, iv 5, iv r] [(.int (own_rk5 d0 d1 d2 d3 d4 (2 : Int32) d2))] _
              refine XS.iloadN X3.here hx rfl (hb hby dG_45) rfl ?_
              refine XS.icmpYes X3.here hx rfl (pc0 := 46) (pc' := 51) rfl (hb hby dG_46) rfl hc46 (by decide) (by decide) ?_
              refine XS.iconst X3.here hx rfl (hb hby dG_51) ?_
              refine XS.iloadN X3.here hx rfl (hb hby dG_52) rfl ?_
              refine XS.icmpNo X3.here hx rfl (hb hby dG_53) rfl (by decide) ?_
              refine XS.aloadN X3.here hx rfl (hb hby dG_56) rfl rfl ?_
              show sS p e below T3 m 57 #[rv a1, iv 5, iv r] [(.ref a1)] _
              refine XS.iloadN X3.here hx rfl (hb hby dG_57) rfl ?_
              refine XS.iconst X3.here hx rfl (hb hby dG_58) ?_
              show sS p e below T3 m 59 #[rv a1, iv 5, iv r] [(.int (3 : Int32)), (.int (5 : Int32)), (.ref a1)] _
              refine st4 _ ?_
              show sS p e below T4 m 62 #[rv a1, iv 5, iv r] [(.int (own_rk5 d0 d1 d2 d3 d4 (3 : Int32) d3))] _
              refine XS.iloadN X4.here hx rfl (hb hby dG_62) rfl ?_
              refine XS.icmpYes X4.here hx rfl (pc0 := 63) (pc' := 68) rfl (hb hby dG_63) rfl hc63 (by decide) (by decide) ?_
              refine XS.iconst X4.here hx rfl (hb hby dG_68) ?_
              refine XS.iloadN X4.here hx rfl (hb hby dG_69) rfl ?_
              refine XS.icmpNo X4.here hx rfl (hb hby dG_70) rfl (by decide) ?_
              refine XS.aloadN X4.here hx rfl (hb hby dG_73) rfl rfl ?_
              show sS p e below T4 m 74 #[rv a1, iv 5, iv r] [(.ref a1)] _
              refine XS.iloadN X4.here hx rfl (hb hby dG_74) rfl ?_
              refine XS.iconst X4.here hx rfl (hb hby dG_75) ?_
              show sS p e below T4 m 76 #[rv a1, iv 5, iv r] [(.int (4 : Int32)), (.int (5 : Int32)), (.ref a1)] _
              refine st5 _ ?_
              show sS p e below T5 m 79 #[rv a1, iv 5, iv r] [(.int (own_rk5 d0 d1 d2 d3 d4 (4 : Int32) d4))] _
              refine XS.iloadN X5.here hx rfl (hb hby dG_79) rfl ?_
              refine XS.icmpNo X5.here hx rfl (hb hby dG_80) rfl hc80 ?_
              refine XS.iconst X5.here hx rfl (hb hby dG_83) ?_
              show sS p e below T5 m 84 #[rv a1, iv 5, iv r] [(.int (4 : Int32))] _
              exact retI X5 hx Bd.returns (hb hby dG_84) hr
            · show Qat5 Z a1 k1 d0 d1 d2 d3 d4 r h0 n0 _ T5.heap _
              rw [eh5]
              exact ⟨by unfold own_at5; rw [hc12, hc29, hc46, hc63, hc80]; rfl, N5, rfl⟩
        · obtain ⟨fs, hr, hrun, hended, hW, hsame⟩ := X4.leave (v := some (.int (3 : Int32))) (fun h => by rw [Bd.returns] at h; cases h)
          refine ⟨_, _, pre0 _ ?_, hrun, hended, _, _, rfl, ?_, ⟨_, rfl⟩, hW, hsame.mono (by decide) (by decide)⟩
          · show sS p e below s₁ m 0 #[rv a1, iv 5, iv r] [] _
            refine XS.iconst X0.here hx rfl (hb hby dG_0) ?_
            refine XS.iloadN X0.here hx rfl (hb hby dG_1) rfl ?_
            refine XS.icmpNo X0.here hx rfl (hb hby dG_2) rfl (by decide) ?_
            refine XS.aloadN X0.here hx rfl (hb hby dG_5) rfl rfl ?_
            refine XS.iloadN X0.here hx rfl (hb hby dG_6) rfl ?_
            refine XS.iconst X0.here hx rfl (hb hby dG_7) ?_
            show sS p e below s₁ m 8 #[rv a1, iv 5, iv r] [(.int (0 : Int32)), (.int (5 : Int32)), (.ref a1)] _
            refine st1 _ ?_
            show sS p e below T1 m 11 #[rv a1, iv 5, iv r] [(.int (own_rk5 d0 d1 d2 d3 d4 (0 : Int32) d0))] _
            refine XS.iloadN X1.here hx rfl (hb hby dG_11) rfl ?_
            refine XS.icmpYes X1.here hx rfl (pc0 := 12) (pc' := 17) rfl (hb hby dG_12) rfl hc12 (by decide) (by decide) ?_
            refine XS.iconst X1.here hx rfl (hb hby dG_17) ?_
            refine XS.iloadN X1.here hx rfl (hb hby dG_18) rfl ?_
            refine XS.icmpNo X1.here hx rfl (hb hby dG_19) rfl (by decide) ?_
            refine XS.aloadN X1.here hx rfl (hb hby dG_22) rfl rfl ?_
            show sS p e below T1 m 23 #[rv a1, iv 5, iv r] [(.ref a1)] _
            refine XS.iloadN X1.here hx rfl (hb hby dG_23) rfl ?_
            refine XS.iconst X1.here hx rfl (hb hby dG_24) ?_
            show sS p e below T1 m 25 #[rv a1, iv 5, iv r] [(.int (1 : Int32)), (.int (5 : Int32)), (.ref a1)] _
            refine st2 _ ?_
            show sS p e below T2 m 28 #[rv a1, iv 5, iv r] [(.int (own_rk5 d0 d1 d2 d3 d4 (1 : Int32) d1))] _
            refine XS.iloadN X2.here hx rfl (hb hby dG_28) rfl ?_
            refine XS.icmpYes X2.here hx rfl (pc0 := 29) (pc' := 34) rfl (hb hby dG_29) rfl hc29 (by decide) (by decide) ?_
            refine XS.iconst X2.here hx rfl (hb hby dG_34) ?_
            refine XS.iloadN X2.here hx rfl (hb hby dG_35) rfl ?_
            refine XS.icmpNo X2.here hx rfl (hb hby dG_36) rfl (by decide) ?_
            refine XS.aloadN X2.here hx rfl (hb hby dG_39) rfl rfl ?_
            show sS p e below T2 m 40 #[rv a1, iv 5, iv r] [(.ref a1)] _
            refine XS.iloadN X2.here hx rfl (hb hby dG_40) rfl ?_
            refine XS.iconst X2.here hx rfl (hb hby dG_41) ?_
            show sS p e below T2 m 42 #[rv a1, iv 5, iv r] [(.int (2 : Int32)), (.int (5 : Int32)), (.ref a1)] _
            refine st3 _ ?_
            show sS p e below T3 m 45 #[rv a1, iv 5, iv r] [(.int (own_rk5 d0 d1 d2 d3 d4 (2 : Int32) d2))] _
            refine XS.iloadN X3.here hx rfl (hb hby dG_45) rfl ?_
            refine XS.icmpYes X3.here hx rfl (pc0 := 46) (pc' := 51) rfl (hb hby dG_46) rfl hc46 (by decide) (by decide) ?_
            refine XS.iconst X3.here hx rfl (hb hby dG_51) ?_
            refine XS.iloadN X3.here hx rfl (hb hby dG_52) rfl ?_
            refine XS.icmpNo X3.here hx rfl (hb hby dG_53) rfl (by decide) ?_
            refine XS.aloadN X3.here hx rfl (hb hby dG_56) rfl rfl ?_
            show sS p e below T3 m 57 #[rv a1, iv 5, iv r] [(.ref a1)] _
            refine XS.iloadN X3.here hx rfl (hb hby dG_57) rfl ?_
            refine XS.iconst X3.here hx rfl (hb hby dG_58) ?_
            show sS p e below T3 m 59 #[rv a1, iv 5, iv r] [(.int (3 : Int32)), (.int (5 : Int32)), (.ref a1)] _
            refine st4 _ ?_
            show sS p e below T4 m 62 #[rv a1, iv 5, iv r] [(.int (own_rk5 d0 d1 d2 d3 d4 (3 : Int32) d3))] _
            refine XS.iloadN X4.here hx rfl (hb hby dG_62) rfl ?_
            refine XS.icmpNo X4.here hx rfl (hb hby dG_63) rfl hc63 ?_
            refine XS.iconst X4.here hx rfl (hb hby dG_66) ?_
            show sS p e below T4 m 67 #[rv a1, iv 5, iv r] [(.int (3 : Int32))] _
            exact retI X4 hx Bd.returns (hb hby dG_67) hr
          · show Qat5 Z a1 k1 d0 d1 d2 d3 d4 r h0 n0 _ T4.heap _
            rw [eh4]
            exact ⟨by unfold own_at5; rw [hc12, hc29, hc46, hc63]; rfl, N4, rfl⟩
      · obtain ⟨fs, hr, hrun, hended, hW, hsame⟩ := X3.leave (v := some (.int (2 : Int32))) (fun h => by rw [Bd.returns] at h; cases h)
        refine ⟨_, _, pre0 _ ?_, hrun, hended, _, _, rfl, ?_, ⟨_, rfl⟩, hW, hsame.mono (by decide) (by decide)⟩
        · show sS p e below s₁ m 0 #[rv a1, iv 5, iv r] [] _
          refine XS.iconst X0.here hx rfl (hb hby dG_0) ?_
          refine XS.iloadN X0.here hx rfl (hb hby dG_1) rfl ?_
          refine XS.icmpNo X0.here hx rfl (hb hby dG_2) rfl (by decide) ?_
          refine XS.aloadN X0.here hx rfl (hb hby dG_5) rfl rfl ?_
          refine XS.iloadN X0.here hx rfl (hb hby dG_6) rfl ?_
          refine XS.iconst X0.here hx rfl (hb hby dG_7) ?_
          show sS p e below s₁ m 8 #[rv a1, iv 5, iv r] [(.int (0 : Int32)), (.int (5 : Int32)), (.ref a1)] _
          refine st1 _ ?_
          show sS p e below T1 m 11 #[rv a1, iv 5, iv r] [(.int (own_rk5 d0 d1 d2 d3 d4 (0 : Int32) d0))] _
          refine XS.iloadN X1.here hx rfl (hb hby dG_11) rfl ?_
          refine XS.icmpYes X1.here hx rfl (pc0 := 12) (pc' := 17) rfl (hb hby dG_12) rfl hc12 (by decide) (by decide) ?_
          refine XS.iconst X1.here hx rfl (hb hby dG_17) ?_
          refine XS.iloadN X1.here hx rfl (hb hby dG_18) rfl ?_
          refine XS.icmpNo X1.here hx rfl (hb hby dG_19) rfl (by decide) ?_
          refine XS.aloadN X1.here hx rfl (hb hby dG_22) rfl rfl ?_
          show sS p e below T1 m 23 #[rv a1, iv 5, iv r] [(.ref a1)] _
          refine XS.iloadN X1.here hx rfl (hb hby dG_23) rfl ?_
          refine XS.iconst X1.here hx rfl (hb hby dG_24) ?_
          show sS p e below T1 m 25 #[rv a1, iv 5, iv r] [(.int (1 : Int32)), (.int (5 : Int32)), (.ref a1)] _
          refine st2 _ ?_
          show sS p e below T2 m 28 #[rv a1, iv 5, iv r] [(.int (own_rk5 d0 d1 d2 d3 d4 (1 : Int32) d1))] _
          refine XS.iloadN X2.here hx rfl (hb hby dG_28) rfl ?_
          refine XS.icmpYes X2.here hx rfl (pc0 := 29) (pc' := 34) rfl (hb hby dG_29) rfl hc29 (by decide) (by decide) ?_
          refine XS.iconst X2.here hx rfl (hb hby dG_34) ?_
          refine XS.iloadN X2.here hx rfl (hb hby dG_35) rfl ?_
          refine XS.icmpNo X2.here hx rfl (hb hby dG_36) rfl (by decide) ?_
          refine XS.aloadN X2.here hx rfl (hb hby dG_39) rfl rfl ?_
          show sS p e below T2 m 40 #[rv a1, iv 5, iv r] [(.ref a1)] _
          refine XS.iloadN X2.here hx rfl (hb hby dG_40) rfl ?_
          refine XS.iconst X2.here hx rfl (hb hby dG_41) ?_
          show sS p e below T2 m 42 #[rv a1, iv 5, iv r] [(.int (2 : Int32)), (.int (5 : Int32)), (.ref a1)] _
          refine st3 _ ?_
          show sS p e below T3 m 45 #[rv a1, iv 5, iv r] [(.int (own_rk5 d0 d1 d2 d3 d4 (2 : Int32) d2))] _
          refine XS.iloadN X3.here hx rfl (hb hby dG_45) rfl ?_
          refine XS.icmpNo X3.here hx rfl (hb hby dG_46) rfl hc46 ?_
          refine XS.iconst X3.here hx rfl (hb hby dG_49) ?_
          show sS p e below T3 m 50 #[rv a1, iv 5, iv r] [(.int (2 : Int32))] _
          exact retI X3 hx Bd.returns (hb hby dG_50) hr
        · show Qat5 Z a1 k1 d0 d1 d2 d3 d4 r h0 n0 _ T3.heap _
          rw [eh3]
          exact ⟨by unfold own_at5; rw [hc12, hc29, hc46]; rfl, N3, rfl⟩
    · obtain ⟨fs, hr, hrun, hended, hW, hsame⟩ := X2.leave (v := some (.int (1 : Int32))) (fun h => by rw [Bd.returns] at h; cases h)
      refine ⟨_, _, pre0 _ ?_, hrun, hended, _, _, rfl, ?_, ⟨_, rfl⟩, hW, hsame.mono (by decide) (by decide)⟩
      · show sS p e below s₁ m 0 #[rv a1, iv 5, iv r] [] _
        refine XS.iconst X0.here hx rfl (hb hby dG_0) ?_
        refine XS.iloadN X0.here hx rfl (hb hby dG_1) rfl ?_
        refine XS.icmpNo X0.here hx rfl (hb hby dG_2) rfl (by decide) ?_
        refine XS.aloadN X0.here hx rfl (hb hby dG_5) rfl rfl ?_
        refine XS.iloadN X0.here hx rfl (hb hby dG_6) rfl ?_
        refine XS.iconst X0.here hx rfl (hb hby dG_7) ?_
        show sS p e below s₁ m 8 #[rv a1, iv 5, iv r] [(.int (0 : Int32)), (.int (5 : Int32)), (.ref a1)] _
        refine st1 _ ?_
        show sS p e below T1 m 11 #[rv a1, iv 5, iv r] [(.int (own_rk5 d0 d1 d2 d3 d4 (0 : Int32) d0))] _
        refine XS.iloadN X1.here hx rfl (hb hby dG_11) rfl ?_
        refine XS.icmpYes X1.here hx rfl (pc0 := 12) (pc' := 17) rfl (hb hby dG_12) rfl hc12 (by decide) (by decide) ?_
        refine XS.iconst X1.here hx rfl (hb hby dG_17) ?_
        refine XS.iloadN X1.here hx rfl (hb hby dG_18) rfl ?_
        refine XS.icmpNo X1.here hx rfl (hb hby dG_19) rfl (by decide) ?_
        refine XS.aloadN X1.here hx rfl (hb hby dG_22) rfl rfl ?_
        show sS p e below T1 m 23 #[rv a1, iv 5, iv r] [(.ref a1)] _
        refine XS.iloadN X1.here hx rfl (hb hby dG_23) rfl ?_
        refine XS.iconst X1.here hx rfl (hb hby dG_24) ?_
        show sS p e below T1 m 25 #[rv a1, iv 5, iv r] [(.int (1 : Int32)), (.int (5 : Int32)), (.ref a1)] _
        refine st2 _ ?_
        show sS p e below T2 m 28 #[rv a1, iv 5, iv r] [(.int (own_rk5 d0 d1 d2 d3 d4 (1 : Int32) d1))] _
        refine XS.iloadN X2.here hx rfl (hb hby dG_28) rfl ?_
        refine XS.icmpNo X2.here hx rfl (hb hby dG_29) rfl hc29 ?_
        refine XS.iconst X2.here hx rfl (hb hby dG_32) ?_
        show sS p e below T2 m 33 #[rv a1, iv 5, iv r] [(.int (1 : Int32))] _
        exact retI X2 hx Bd.returns (hb hby dG_33) hr
      · show Qat5 Z a1 k1 d0 d1 d2 d3 d4 r h0 n0 _ T2.heap _
        rw [eh2]
        exact ⟨by unfold own_at5; rw [hc12, hc29]; rfl, N2, rfl⟩
  · obtain ⟨fs, hr, hrun, hended, hW, hsame⟩ := X1.leave (v := some (.int (0 : Int32))) (fun h => by rw [Bd.returns] at h; cases h)
    refine ⟨_, _, pre0 _ ?_, hrun, hended, _, _, rfl, ?_, ⟨_, rfl⟩, hW, hsame.mono (by decide) (by decide)⟩
    · show sS p e below s₁ m 0 #[rv a1, iv 5, iv r] [] _
      refine XS.iconst X0.here hx rfl (hb hby dG_0) ?_
      refine XS.iloadN X0.here hx rfl (hb hby dG_1) rfl ?_
      refine XS.icmpNo X0.here hx rfl (hb hby dG_2) rfl (by decide) ?_
      refine XS.aloadN X0.here hx rfl (hb hby dG_5) rfl rfl ?_
      refine XS.iloadN X0.here hx rfl (hb hby dG_6) rfl ?_
      refine XS.iconst X0.here hx rfl (hb hby dG_7) ?_
      show sS p e below s₁ m 8 #[rv a1, iv 5, iv r] [(.int (0 : Int32)), (.int (5 : Int32)), (.ref a1)] _
      refine st1 _ ?_
      show sS p e below T1 m 11 #[rv a1, iv 5, iv r] [(.int (own_rk5 d0 d1 d2 d3 d4 (0 : Int32) d0))] _
      refine XS.iloadN X1.here hx rfl (hb hby dG_11) rfl ?_
      refine XS.icmpNo X1.here hx rfl (hb hby dG_12) rfl hc12 ?_
      refine XS.iconst X1.here hx rfl (hb hby dG_15) ?_
      show sS p e below T1 m 16 #[rv a1, iv 5, iv r] [(.int (0 : Int32))] _
      exact retI X1 hx Bd.returns (hb hby dG_16) hr
    · show Qat5 Z a1 k1 d0 d1 d2 d3 d4 r h0 n0 _ T1.heap _
      rw [eh1]
      exact ⟨by unfold own_at5; rw [hc12]; rfl, N1, rfl⟩
theorem dH_0 : decode prog_5_method_4_code 0 = .ok (.iload_n 1, 1) := by decide +kernel
theorem dH_1 : decode prog_5_method_4_code 1 = .ok (.aload_n 0, 1) := by decide +kernel
theorem dH_2 : decode prog_5_method_4_code 2 = .ok (.arraylength, 1) := by decide +kernel
theorem dH_3 : decode prog_5_method_4_code 3 = .ok (.invokestatic 19, 3) := by decide +kernel
theorem dH_6 : decode prog_5_method_4_code 6 = .ok (.newarray .int, 2) := by decide +kernel
theorem dH_8 : decode prog_5_method_4_code 8 = .ok (.astore_n 2, 1) := by decide +kernel
theorem dH_9 : decode prog_5_method_4_code 9 = .ok (.iconst 0, 1) := by decide +kernel
theorem dH_10 : decode prog_5_method_4_code 10 = .ok (.istore_n 3, 1) := by decide +kernel
theorem dH_11 : decode prog_5_method_4_code 11 = .ok (.iconst 0, 1) := by decide +kernel
theorem dH_12 : decode prog_5_method_4_code 12 = .ok (.istore 4, 2) := by decide +kernel
theorem dH_14 : decode prog_5_method_4_code 14 = .ok (.iload 4, 2) := by decide +kernel
theorem dH_16 : decode prog_5_method_4_code 16 = .ok (.aload_n 0, 1) := by decide +kernel
theorem dH_17 : decode prog_5_method_4_code 17 = .ok (.arraylength, 1) := by decide +kernel
theorem dH_18 : decode prog_5_method_4_code 18 = .ok (.if_icmp .ge 85, 3) := by decide +kernel
theorem dH_21 : decode prog_5_method_4_code 21 = .ok (.iload_n 3, 1) := by decide +kernel
theorem dH_22 : decode prog_5_method_4_code 22 = .ok (.istore 5, 2) := by decide +kernel
theorem dH_24 : decode prog_5_method_4_code 24 = .ok (.iload 5, 2) := by decide +kernel
theorem dH_26 : decode prog_5_method_4_code 26 = .ok (.ifCond .le 27, 3) := by decide +kernel
theorem dH_29 : decode prog_5_method_4_code 29 = .ok (.aload_n 0, 1) := by decide +kernel
theorem dH_30 : decode prog_5_method_4_code 30 = .ok (.iload 4, 2) := by decide +kernel
theorem dH_32 : decode prog_5_method_4_code 32 = .ok (.daload, 1) := by decide +kernel
theorem dH_33 : decode prog_5_method_4_code 33 = .ok (.aload_n 0, 1) := by decide +kernel
theorem dH_34 : decode prog_5_method_4_code 34 = .ok (.aload_n 2, 1) := by decide +kernel
theorem dH_35 : decode prog_5_method_4_code 35 = .ok (.iload 5, 2) := by decide +kernel
theorem dH_37 : decode prog_5_method_4_code 37 = .ok (.iconst 1, 1) := by decide +kernel
theorem dH_38 : decode prog_5_method_4_code 38 = .ok (.isub, 1) := by decide +kernel
theorem dH_39 : decode prog_5_method_4_code 39 = .ok (.iaload, 1) := by decide +kernel
theorem dH_40 : decode prog_5_method_4_code 40 = .ok (.daload, 1) := by decide +kernel
theorem dH_41 : decode prog_5_method_4_code 41 = .ok (.invokestatic 23, 3) := by decide +kernel
theorem dH_44 : decode prog_5_method_4_code 44 = .ok (.ifCond .ge 9, 3) := by decide +kernel
theorem dH_47 : decode prog_5_method_4_code 47 = .ok (.iinc 5 (-1), 3) := by decide +kernel
theorem dH_50 : decode prog_5_method_4_code 50 = .ok (.goto (-26), 3) := by decide +kernel
theorem dH_53 : decode prog_5_method_4_code 53 = .ok (.iload 5, 2) := by decide +kernel
theorem dH_55 : decode prog_5_method_4_code 55 = .ok (.aload_n 2, 1) := by decide +kernel
theorem dH_56 : decode prog_5_method_4_code 56 = .ok (.arraylength, 1) := by decide +kernel
theorem dH_57 : decode prog_5_method_4_code 57 = .ok (.if_icmp .ge 40, 3) := by decide +kernel
theorem dH_60 : decode prog_5_method_4_code 60 = .ok (.iload_n 3, 1) := by decide +kernel
theorem dH_61 : decode prog_5_method_4_code 61 = .ok (.aload_n 2, 1) := by decide +kernel
theorem dH_62 : decode prog_5_method_4_code 62 = .ok (.arraylength, 1) := by decide +kernel
theorem dH_63 : decode prog_5_method_4_code 63 = .ok (.iconst 1, 1) := by decide +kernel
theorem dH_64 : decode prog_5_method_4_code 64 = .ok (.isub, 1) := by decide +kernel
theorem dH_65 : decode prog_5_method_4_code 65 = .ok (.invokestatic 19, 3) := by decide +kernel
theorem dH_68 : decode prog_5_method_4_code 68 = .ok (.istore 6, 2) := by decide +kernel
theorem dH_70 : decode prog_5_method_4_code 70 = .ok (.aload_n 2, 1) := by decide +kernel
theorem dH_71 : decode prog_5_method_4_code 71 = .ok (.iload 5, 2) := by decide +kernel
theorem dH_73 : decode prog_5_method_4_code 73 = .ok (.aload_n 2, 1) := by decide +kernel
theorem dH_74 : decode prog_5_method_4_code 74 = .ok (.iload 5, 2) := by decide +kernel
theorem dH_76 : decode prog_5_method_4_code 76 = .ok (.iconst 1, 1) := by decide +kernel
theorem dH_77 : decode prog_5_method_4_code 77 = .ok (.iadd, 1) := by decide +kernel
theorem dH_78 : decode prog_5_method_4_code 78 = .ok (.iload 6, 2) := by decide +kernel
theorem dH_80 : decode prog_5_method_4_code 80 = .ok (.iload 5, 2) := by decide +kernel
theorem dH_82 : decode prog_5_method_4_code 82 = .ok (.isub, 1) := by decide +kernel
theorem dH_83 : decode prog_5_method_4_code 83 = .ok (.invokestatic 29, 3) := by decide +kernel
theorem dH_86 : decode prog_5_method_4_code 86 = .ok (.aload_n 2, 1) := by decide +kernel
theorem dH_87 : decode prog_5_method_4_code 87 = .ok (.iload 5, 2) := by decide +kernel
theorem dH_89 : decode prog_5_method_4_code 89 = .ok (.iload 4, 2) := by decide +kernel
theorem dH_91 : decode prog_5_method_4_code 91 = .ok (.iastore, 1) := by decide +kernel
theorem dH_92 : decode prog_5_method_4_code 92 = .ok (.iload 6, 2) := by decide +kernel
theorem dH_94 : decode prog_5_method_4_code 94 = .ok (.iconst 1, 1) := by decide +kernel
theorem dH_95 : decode prog_5_method_4_code 95 = .ok (.iadd, 1) := by decide +kernel
theorem dH_96 : decode prog_5_method_4_code 96 = .ok (.istore_n 3, 1) := by decide +kernel
theorem dH_97 : decode prog_5_method_4_code 97 = .ok (.iinc 4 1, 3) := by decide +kernel
theorem dH_100 : decode prog_5_method_4_code 100 = .ok (.goto (-86), 3) := by decide +kernel
theorem dH_103 : decode prog_5_method_4_code 103 = .ok (.aload_n 2, 1) := by decide +kernel
theorem dH_104 : decode prog_5_method_4_code 104 = .ok (.areturn, 1) := by decide +kernel
theorem pd_4 : parseMethodDescriptor "(II)I" = some ⟨[.int, .int], some .int⟩ := by decide +kernel
set_option maxRecDepth 65536 in
set_option maxHeartbeats 40000000 in
theorem tn_1_0 {p : Program} {l : Launch} {e : Env} {s : State} {m : MethodId} {args : Array Value} {below : List Frame} {meth : Method} {c : Code} {T0 : State} {locs : List Loc}  {Z : State} {a0 : Array Value} {h0 : Heap} {n0 : Nat} {ad res : Addr} {kd kr : ClassId} {nn xi xd : Int32} {vd : List Value}  (X0 : Stand p l e ({ frames := 3, cells := 1, slots := 1, locals := 64 } : Room) s m args below meth c T0 locs 1 1) (hx : p.tables.exec = Jvm.exec) (hZ : Z.Warmed39 s.vm) (hw : ∀ d ∈ tables_1, d.before a0 Z = true) (hby : c.code = prog_5_method_4_code) (hml : c.maxLocals = 7) (hown : s.vm.findClass cN1 = some m.cls) (e0 : T0.heap = h0) (Z0 : n0 ≤ h0.size) (N0 : Fr n0 locs) (V_d : Arv Z h0 ad kd .double nn vd (.double (0 : UInt64))) (V_r : Arv Z h0 res kr .int (1 : Int32) [(.int (0 : Int32))] (.int (0 : Int32))) (hne : ad ≠ res) (g_r : n0 ≤ res) (hi18 : if_icmp.holds .ge xi nn = false) (b_xi : (¬ xi < 0 ∧ xi < nn)) (e_xi : vd.getD xi.toNatClampNeg (.double (0 : UInt64)) = .double (FP.i2d xd)) :
    ∃ (T' : State) (h' : Heap) (L' : List Loc) (y5 y6 z0 w0 : Int32), Stand p l e ({ frames := 3, cells := 1, slots := 1, locals := 64 } : Room) s m args below meth c T' L' 1 1 ∧ T'.heap = h' ∧ Fr n0 L' ∧ Keep h0 h' [res] ∧ Arv Z h' res kr .int (1 : Int32) [(.int z0)] (.int (0 : Int32)) ∧ [(z0, w0)] = own_ins 1 (xi, xd) [] ∧ (¬ z0 < 0 ∧ z0 < nn) ∧ vd.getD z0.toNatClampNeg (.double (0 : UInt64)) = .double (FP.i2d w0) ∧ ∀ target, Steps p.tables e below (T'.setTop (mkF m 14 #[rv ad, iv 3, rv res, iv 1, .val (.int (xi + (1 : Int32))), iv y5, iv y6] [])) target → Steps p.tables e below (T0.setTop (mkF m 14 #[rv ad, iv 3, rv res, iv 0, iv xi, .unset, .unset] [])) target := by
  obtain ⟨_, _, ⟨T1, L1, k1, n1⟩, -, X1, ⟨Lc1, hQ1, l1, y1, z1⟩, st1⟩ := Jvm.LawKit.callS X0 hx (y := ⟨"java/lang/Math", "min", "(II)I"⟩) hown (mvT hZ (wK hw (i := 10) rfl)) (mvT hZ (wK hw (i := 11) rfl)) (mvT hZ (wK hw (i := 12) rfl)) (mvT hZ (wK hw (i := 13) rfl)) (by decide) (backOf (W := 0) (rmmn_0_0 l Z a0 hw []  h0 n0 Z0) hZ (wK hw (i := 13) rfl) (wK hw (i := 12) rfl) (by decide) (by decide)) (g := (mkF m 65 #[rv ad, iv 3, rv res, iv 0, iv xi, iv 0, .unset] [(.int (0 : Int32)), (.int (0 : Int32))])) rfl (by rw [hml]; rfl) (argsL := [(.int (0 : Int32)), (.int (0 : Int32))]) (rest := []) (lenOf pd_4 rfl) rfl (Nat.le_of_eq rfl) (hb hby dH_65) (fun _ _ => ⟨rfl, e0, (by decide : 1 + 0 ≤ _), (by decide : 1 + 0 ≤ _)⟩)
  dsimp only [Pt.U, Pt.locs, Pt.cells, Pt.slots] at X1 l1 y1 z1 st1 hQ1
  subst l1 y1 z1
  obtain ⟨rfl, N1q, eh1⟩ := hQ1
  have N1 := Fr.app N0 N1q
  obtain ⟨T2, h2, L2, X2, e2, N2, K2, Vc2, st2⟩ := cpA X1 hx hZ hown (wK hw (i := 14) rfl) (wK hw (i := 17) rfl) (wK hw (i := 15) rfl) (wK hw (i := 16) rfl) eh1 V_r V_r (us := []) (sp := (0 : Int32)) (dp := (1 : Int32)) (nn := (0 : Int32)) (Or.inl ⟨rfl, rfl⟩) (by decide) (by decide) (by decide) (by decide) (by decide) rfl (by show Int32.toNatClampNeg (1 : Int32) + Int32.toNatClampNeg (0 : Int32) ≤ 1; decide) N1 g_r (g := (mkF m 83 #[rv ad, iv 3, rv res, iv 0, iv xi, iv 0, iv 0] [(.int (0 : Int32)), (.int (1 : Int32)), (.ref res), (.int (0 : Int32)), (.ref res)])) rfl (by rw [hml]; rfl) rfl (hb hby dH_83) (by decide) (W := 0) (Nat.le_of_eq rfl) (by decide)
  have V2 : Arv Z h2 res kr .int (1 : Int32) [(.int (0 : Int32))] (.int (0 : Int32)) := Vc2
  obtain ⟨cl3, Ar3, q3, S3, P3, Ha3, G3⟩ := V2
  have hin3 : ¬ ((0 : Int32) < 0 ∨ cl3.slots.size ≤ ((0 : Int32)).toNatClampNeg) := inb_of S3 ⟨by decide, by decide⟩
  obtain ⟨T4, h4, X4, e4, W4, st4⟩ := stI X2 hx hZ e2 Ar3 (j := (0 : Int32)) hin3 (g := (mkF m 91 #[rv ad, iv 3, rv res, iv 0, iv xi, iv 0, iv 0] [(.int xi), (.int (0 : Int32)), (.ref res)])) rfl rfl (hb hby dH_91)
  have V4 : Arv Z h4 res kr .int (1 : Int32) [(.int xi)] (.int (0 : Int32)) := Arv.set Ar3 q3 S3 P3 Ha3 G3 rfl W4 0 rfl (Nat.le_of_ble_eq_true rfl)
  have N4 := Fr.snoc X4 N2 g_r
  refine ⟨T4, h4, _, (0 : Int32), (0 : Int32), xi, xd, X4, e4, N4, (((Keep.refl h0 [res]).trans K2 (allS (Or.inl (List.mem_of_getElem? (i := 0) rfl)) all0)).wr W4 (Or.inl (List.mem_of_getElem? (i := 0) rfl))), V4, (by simp [own_ins, own_insR]), b_xi, e_xi, fun target kt => ?_⟩
  show sS p e below T0 m 14 #[rv ad, iv 3, rv res, iv 0, iv xi, .unset, .unset] [] _
  refine XS.iload X0.here hx rfl (hb hby dH_14) rfl ?_
  refine XS.aloadN X0.here hx rfl (hb hby dH_16) rfl rfl ?_
  refine own_len X0 hx hZ e0 V_d rfl rfl (hb hby dH_17) ?_
  refine XS.icmpNo X0.here hx rfl (hb hby dH_18) rfl hi18 ?_
  refine XS.iloadN X0.here hx rfl (hb hby dH_21) rfl ?_
  refine XS.istore X0.here hx rfl (hb hby dH_22) rfl (l' := #[rv ad, iv 3, rv res, iv 0, iv xi, iv 0, .unset]) rfl ?_
  show sS p e below T0 m 24 #[rv ad, iv 3, rv res, iv 0, iv xi, iv 0, .unset] [] _
  refine XS.iload X0.here hx rfl (hb hby dH_24) rfl ?_
  refine XS.ifYes X0.here hx rfl (pc0 := 26) (pc' := 53) rfl (hb hby dH_26) rfl (by decide) (by decide) (by decide) ?_
  refine XS.iload X0.here hx rfl (hb hby dH_53) rfl ?_
  refine XS.aloadN X0.here hx rfl (hb hby dH_55) rfl rfl ?_
  refine own_len X0 hx hZ e0 V_r rfl rfl (hb hby dH_56) ?_
  refine XS.icmpNo X0.here hx rfl (hb hby dH_57) rfl (by decide) ?_
  show sS p e below T0 m 60 #[rv ad, iv 3, rv res, iv 0, iv xi, iv 0, .unset] [] _
  refine XS.iloadN X0.here hx rfl (hb hby dH_60) rfl ?_
  refine XS.aloadN X0.here hx rfl (hb hby dH_61) rfl rfl ?_
  refine own_len X0 hx hZ e0 V_r rfl rfl (hb hby dH_62) ?_
  refine XS.iconst X0.here hx rfl (hb hby dH_63) ?_
  refine XS.isub X0.here hx rfl (hb hby dH_64) rfl ?_
  show sS p e below T0 m 65 #[rv ad, iv 3, rv res, iv 0, iv xi, iv 0, .unset] [(.int (0 : Int32)), (.int (0 : Int32))] _
  refine st1 _ ?_
  show sS p e below T1 m 68 #[rv ad, iv 3, rv res, iv 0, iv xi, iv 0, .unset] [(.int (0 : Int32))] _
  refine XS.istore X1.here hx rfl (hb hby dH_68) rfl (l' := #[rv ad, iv 3, rv res, iv 0, iv xi, iv 0, iv 0]) rfl ?_
  refine XS.aloadN X1.here hx rfl (hb hby dH_70) rfl rfl ?_
  refine XS.iload X1.here hx rfl (hb hby dH_71) rfl ?_
  refine XS.aloadN X1.here hx rfl (hb hby dH_73) rfl rfl ?_
  refine XS.iload X1.here hx rfl (hb hby dH_74) rfl ?_
  refine XS.iconst X1.here hx rfl (hb hby dH_76) ?_
  show sS p e below T1 m 77 #[rv ad, iv 3, rv res, iv 0, iv xi, iv 0, iv 0] [(.int (1 : Int32)), (.int (0 : Int32)), (.ref res), (.int (0 : Int32)), (.ref res)] _
  refine XS.iadd X1.here hx rfl (hb hby dH_77) rfl ?_
  refine XS.iload X1.here hx rfl (hb hby dH_78) rfl ?_
  refine XS.iload X1.here hx rfl (hb hby dH_80) rfl ?_
  refine XS.isub X1.here hx rfl (hb hby dH_82) rfl ?_
  show sS p e below T1 m 83 #[rv ad, iv 3, rv res, iv 0, iv xi, iv 0, iv 0] [(.int (0 : Int32)), (.int (1 : Int32)), (.ref res), (.int (0 : Int32)), (.ref res)] _
  refine st2 _ ?_
  show sS p e below T2 m 86 #[rv ad, iv 3, rv res, iv 0, iv xi, iv 0, iv 0] [] _
  refine XS.aloadN X2.here hx rfl (hb hby dH_86) rfl rfl ?_
  refine XS.iload X2.here hx rfl (hb hby dH_87) rfl ?_
  refine XS.iload X2.here hx rfl (hb hby dH_89) rfl ?_
  show sS p e below T2 m 91 #[rv ad, iv 3, rv res, iv 0, iv xi, iv 0, iv 0] [(.int xi), (.int (0 : Int32)), (.ref res)] _
  refine st4 _ ?_
  show sS p e below T4 m 92 #[rv ad, iv 3, rv res, iv 0, iv xi, iv 0, iv 0] [] _
  refine XS.iload X4.here hx rfl (hb hby dH_92) rfl ?_
  refine XS.iconst X4.here hx rfl (hb hby dH_94) ?_
  refine XS.iadd X4.here hx rfl (hb hby dH_95) rfl ?_
  refine XS.istoreN X4.here hx rfl (hb hby dH_96) rfl (l' := #[rv ad, iv 3, rv res, iv 1, iv xi, iv 0, iv 0]) rfl ?_
  refine XS.iinc X4.here hx rfl (hb hby dH_97) rfl (l' := #[rv ad, iv 3, rv res, iv 1, .val (.int (xi + (1 : Int32))), iv 0, iv 0]) rfl ?_
  refine XS.goto X4.here hx rfl (pc0 := 100) (pc' := 14) rfl (hb hby dH_100) (by decide) (by decide) ?_
  exact kt
set_option maxRecDepth 65536 in
set_option maxHeartbeats 40000000 in
theorem tn_2_0 {p : Program} {l : Launch} {e : Env} {s : State} {m : MethodId} {args : Array Value} {below : List Frame} {meth : Method} {c : Code} {T0 : State} {locs : List Loc}  {Z : State} {a0 : Array Value} {h0 : Heap} {n0 : Nat} {ad res : Addr} {kd kr : ClassId} {nn xi xd : Int32} {vd : List Value}  (X0 : Stand p l e ({ frames := 3, cells := 1, slots := 2, locals := 64 } : Room) s m args below meth c T0 locs 1 2) (hx : p.tables.exec = Jvm.exec) (hZ : Z.Warmed39 s.vm) (hw : ∀ d ∈ tables_1, d.before a0 Z = true) (hby : c.code = prog_5_method_4_code) (hml : c.maxLocals = 7) (hown : s.vm.findClass cN1 = some m.cls) (e0 : T0.heap = h0) (Z0 : n0 ≤ h0.size) (N0 : Fr n0 locs) (V_d : Arv Z h0 ad kd .double nn vd (.double (0 : UInt64))) (V_r : Arv Z h0 res kr .int (2 : Int32) [(.int (0 : Int32)), (.int (0 : Int32))] (.int (0 : Int32))) (hne : ad ≠ res) (g_r : n0 ≤ res) (hi18 : if_icmp.holds .ge xi nn = false) (b_xi : (¬ xi < 0 ∧ xi < nn)) (e_xi : vd.getD xi.toNatClampNeg (.double (0 : UInt64)) = .double (FP.i2d xd)) :
    ∃ (T' : State) (h' : Heap) (L' : List Loc) (y5 y6 z0 w0 : Int32), Stand p l e ({ frames := 3, cells := 1, slots := 2, locals := 64 } : Room) s m args below meth c T' L' 1 2 ∧ T'.heap = h' ∧ Fr n0 L' ∧ Keep h0 h' [res] ∧ Arv Z h' res kr .int (2 : Int32) [(.int z0), (.int (0 : Int32))] (.int (0 : Int32)) ∧ [(z0, w0)] = own_ins 2 (xi, xd) [] ∧ (¬ z0 < 0 ∧ z0 < nn) ∧ vd.getD z0.toNatClampNeg (.double (0 : UInt64)) = .double (FP.i2d w0) ∧ ∀ target, Steps p.tables e below (T'.setTop (mkF m 14 #[rv ad, iv 3, rv res, iv 1, .val (.int (xi + (1 : Int32))), iv y5, iv y6] [])) target → Steps p.tables e below (T0.setTop (mkF m 14 #[rv ad, iv 3, rv res, iv 0, iv xi, .unset, .unset] [])) target := by
  obtain ⟨_, _, ⟨T1, L1, k1, n1⟩, -, X1, ⟨Lc1, hQ1, l1, y1, z1⟩, st1⟩ := Jvm.LawKit.callS X0 hx (y := ⟨"java/lang/Math", "min", "(II)I"⟩) hown (mvT hZ (wK hw (i := 10) rfl)) (mvT hZ (wK hw (i := 11) rfl)) (mvT hZ (wK hw (i := 12) rfl)) (mvT hZ (wK hw (i := 13) rfl)) (by decide) (backOf (W := 0) (rmmn_0_1 l Z a0 hw []  h0 n0 Z0) hZ (wK hw (i := 13) rfl) (wK hw (i := 12) rfl) (by decide) (by decide)) (g := (mkF m 65 #[rv ad, iv 3, rv res, iv 0, iv xi, iv 0, .unset] [(.int (1 : Int32)), (.int (0 : Int32))])) rfl (by rw [hml]; rfl) (argsL := [(.int (0 : Int32)), (.int (1 : Int32))]) (rest := []) (lenOf pd_4 rfl) rfl (Nat.le_of_eq rfl) (hb hby dH_65) (fun _ _ => ⟨rfl, e0, (by decide : 1 + 0 ≤ _), (by decide : 2 + 0 ≤ _)⟩)
  dsimp only [Pt.U, Pt.locs, Pt.cells, Pt.slots] at X1 l1 y1 z1 st1 hQ1
  subst l1 y1 z1
  obtain ⟨rfl, N1q, eh1⟩ := hQ1
  have N1 := Fr.app N0 N1q
  obtain ⟨T2, h2, L2, X2, e2, N2, K2, Vc2, st2⟩ := cpA X1 hx hZ hown (wK hw (i := 14) rfl) (wK hw (i := 17) rfl) (wK hw (i := 15) rfl) (wK hw (i := 16) rfl) eh1 V_r V_r (us := []) (sp := (0 : Int32)) (dp := (1 : Int32)) (nn := (0 : Int32)) (Or.inl ⟨rfl, rfl⟩) (by decide) (by decide) (by decide) (by decide) (by decide) rfl (by show Int32.toNatClampNeg (1 : Int32) + Int32.toNatClampNeg (0 : Int32) ≤ 2; decide) N1 g_r (g := (mkF m 83 #[rv ad, iv 3, rv res, iv 0, iv xi, iv 0, iv 0] [(.int (0 : Int32)), (.int (1 : Int32)), (.ref res), (.int (0 : Int32)), (.ref res)])) rfl (by rw [hml]; rfl) rfl (hb hby dH_83) (by decide) (W := 0) (Nat.le_of_eq rfl) (by decide)
  have V2 : Arv Z h2 res kr .int (2 : Int32) [(.int (0 : Int32)), (.int (0 : Int32))] (.int (0 : Int32)) := Vc2
  obtain ⟨cl3, Ar3, q3, S3, P3, Ha3, G3⟩ := V2
  have hin3 : ¬ ((0 : Int32) < 0 ∨ cl3.slots.size ≤ ((0 : Int32)).toNatClampNeg) := inb_of S3 ⟨by decide, by decide⟩
  obtain ⟨T4, h4, X4, e4, W4, st4⟩ := stI X2 hx hZ e2 Ar3 (j := (0 : Int32)) hin3 (g := (mkF m 91 #[rv ad, iv 3, rv res, iv 0, iv xi, iv 0, iv 0] [(.int xi), (.int (0 : Int32)), (.ref res)])) rfl rfl (hb hby dH_91)
  have V4 : Arv Z h4 res kr .int (2 : Int32) [(.int xi), (.int (0 : Int32))] (.int (0 : Int32)) := Arv.set Ar3 q3 S3 P3 Ha3 G3 rfl W4 0 rfl (Nat.le_of_ble_eq_true rfl)
  have N4 := Fr.snoc X4 N2 g_r
  refine ⟨T4, h4, _, (0 : Int32), (0 : Int32), xi, xd, X4, e4, N4, (((Keep.refl h0 [res]).trans K2 (allS (Or.inl (List.mem_of_getElem? (i := 0) rfl)) all0)).wr W4 (Or.inl (List.mem_of_getElem? (i := 0) rfl))), V4, (by simp [own_ins, own_insR]), b_xi, e_xi, fun target kt => ?_⟩
  show sS p e below T0 m 14 #[rv ad, iv 3, rv res, iv 0, iv xi, .unset, .unset] [] _
  refine XS.iload X0.here hx rfl (hb hby dH_14) rfl ?_
  refine XS.aloadN X0.here hx rfl (hb hby dH_16) rfl rfl ?_
  refine own_len X0 hx hZ e0 V_d rfl rfl (hb hby dH_17) ?_
  refine XS.icmpNo X0.here hx rfl (hb hby dH_18) rfl hi18 ?_
  refine XS.iloadN X0.here hx rfl (hb hby dH_21) rfl ?_
  refine XS.istore X0.here hx rfl (hb hby dH_22) rfl (l' := #[rv ad, iv 3, rv res, iv 0, iv xi, iv 0, .unset]) rfl ?_
  show sS p e below T0 m 24 #[rv ad, iv 3, rv res, iv 0, iv xi, iv 0, .unset] [] _
  refine XS.iload X0.here hx rfl (hb hby dH_24) rfl ?_
  refine XS.ifYes X0.here hx rfl (pc0 := 26) (pc' := 53) rfl (hb hby dH_26) rfl (by decide) (by decide) (by decide) ?_
  refine XS.iload X0.here hx rfl (hb hby dH_53) rfl ?_
  refine XS.aloadN X0.here hx rfl (hb hby dH_55) rfl rfl ?_
  refine own_len X0 hx hZ e0 V_r rfl rfl (hb hby dH_56) ?_
  refine XS.icmpNo X0.here hx rfl (hb hby dH_57) rfl (by decide) ?_
  show sS p e below T0 m 60 #[rv ad, iv 3, rv res, iv 0, iv xi, iv 0, .unset] [] _
  refine XS.iloadN X0.here hx rfl (hb hby dH_60) rfl ?_
  refine XS.aloadN X0.here hx rfl (hb hby dH_61) rfl rfl ?_
  refine own_len X0 hx hZ e0 V_r rfl rfl (hb hby dH_62) ?_
  refine XS.iconst X0.here hx rfl (hb hby dH_63) ?_
  refine XS.isub X0.here hx rfl (hb hby dH_64) rfl ?_
  show sS p e below T0 m 65 #[rv ad, iv 3, rv res, iv 0, iv xi, iv 0, .unset] [(.int (1 : Int32)), (.int (0 : Int32))] _
  refine st1 _ ?_
  show sS p e below T1 m 68 #[rv ad, iv 3, rv res, iv 0, iv xi, iv 0, .unset] [(.int (0 : Int32))] _
  refine XS.istore X1.here hx rfl (hb hby dH_68) rfl (l' := #[rv ad, iv 3, rv res, iv 0, iv xi, iv 0, iv 0]) rfl ?_
  refine XS.aloadN X1.here hx rfl (hb hby dH_70) rfl rfl ?_
  refine XS.iload X1.here hx rfl (hb hby dH_71) rfl ?_
  refine XS.aloadN X1.here hx rfl (hb hby dH_73) rfl rfl ?_
  refine XS.iload X1.here hx rfl (hb hby dH_74) rfl ?_
  refine XS.iconst X1.here hx rfl (hb hby dH_76) ?_
  show sS p e below T1 m 77 #[rv ad, iv 3, rv res, iv 0, iv xi, iv 0, iv 0] [(.int (1 : Int32)), (.int (0 : Int32)), (.ref res), (.int (0 : Int32)), (.ref res)] _
  refine XS.iadd X1.here hx rfl (hb hby dH_77) rfl ?_
  refine XS.iload X1.here hx rfl (hb hby dH_78) rfl ?_
  refine XS.iload X1.here hx rfl (hb hby dH_80) rfl ?_
  refine XS.isub X1.here hx rfl (hb hby dH_82) rfl ?_
  show sS p e below T1 m 83 #[rv ad, iv 3, rv res, iv 0, iv xi, iv 0, iv 0] [(.int (0 : Int32)), (.int (1 : Int32)), (.ref res), (.int (0 : Int32)), (.ref res)] _
  refine st2 _ ?_
  show sS p e below T2 m 86 #[rv ad, iv 3, rv res, iv 0, iv xi, iv 0, iv 0] [] _
  refine XS.aloadN X2.here hx rfl (hb hby dH_86) rfl rfl ?_
  refine XS.iload X2.here hx rfl (hb hby dH_87) rfl ?_
  refine XS.iload X2.here hx rfl (hb hby dH_89) rfl ?_
  show sS p e below T2 m 91 #[rv ad, iv 3, rv res, iv 0, iv xi, iv 0, iv 0] [(.int xi), (.int (0 : Int32)), (.ref res)] _
  refine st4 _ ?_
  show sS p e below T4 m 92 #[rv ad, iv 3, rv res, iv 0, iv xi, iv 0, iv 0] [] _
  refine XS.iload X4.here hx rfl (hb hby dH_92) rfl ?_
  refine XS.iconst X4.here hx rfl (hb hby dH_94) ?_
  refine XS.iadd X4.here hx rfl (hb hby dH_95) rfl ?_
  refine XS.istoreN X4.here hx rfl (hb hby dH_96) rfl (l' := #[rv ad, iv 3, rv res, iv 1, iv xi, iv 0, iv 0]) rfl ?_
  refine XS.iinc X4.here hx rfl (hb hby dH_97) rfl (l' := #[rv ad, iv 3, rv res, iv 1, .val (.int (xi + (1 : Int32))), iv 0, iv 0]) rfl ?_
  refine XS.goto X4.here hx rfl (pc0 := 100) (pc' := 14) rfl (hb hby dH_100) (by decide) (by decide) ?_
  exact kt
theorem pd_5 : parseMethodDescriptor "(DD)I" = some ⟨[.double, .double], some .int⟩ := by decide +kernel
set_option maxRecDepth 65536 in
set_option maxHeartbeats 40000000 in
theorem tn_2_1 {p : Program} {l : Launch} {e : Env} {s : State} {m : MethodId} {args : Array Value} {below : List Frame} {meth : Method} {c : Code} {T0 : State} {locs : List Loc}  {Z : State} {a0 : Array Value} {h0 : Heap} {n0 : Nat} {ad res : Addr} {kd kr : ClassId} {nn xi xd : Int32} {vd : List Value} {r0 v0 x5 x6 : Int32} (X0 : Stand p l e ({ frames := 3, cells := 1, slots := 2, locals := 64 } : Room) s m args below meth c T0 locs 1 2) (hx : p.tables.exec = Jvm.exec) (hZ : Z.Warmed39 s.vm) (hw : ∀ d ∈ tables_1, d.before a0 Z = true) (hby : c.code = prog_5_method_4_code) (hml : c.maxLocals = 7) (hown : s.vm.findClass cN1 = some m.cls) (e0 : T0.heap = h0) (Z0 : n0 ≤ h0.size) (N0 : Fr n0 locs) (V_d : Arv Z h0 ad kd .double nn vd (.double (0 : UInt64))) (V_r : Arv Z h0 res kr .int (2 : Int32) [(.int r0), (.int (0 : Int32))] (.int (0 : Int32))) (hne : ad ≠ res) (g_r : n0 ≤ res) (hi18 : if_icmp.holds .ge xi nn = false) (b_xi : (¬ xi < 0 ∧ xi < nn)) (e_xi : vd.getD xi.toNatClampNeg (.double (0 : UInt64)) = .double (FP.i2d xd)) (b_r0 : (¬ r0 < 0 ∧ r0 < nn)) (e_r0 : vd.getD r0.toNatClampNeg (.double (0 : UInt64)) = .double (FP.i2d v0)) :
    ∃ (T' : State) (h' : Heap) (L' : List Loc) (y5 y6 z0 z1 w0 w1 : Int32), Stand p l e ({ frames := 3, cells := 1, slots := 2, locals := 64 } : Room) s m args below meth c T' L' 1 2 ∧ T'.heap = h' ∧ Fr n0 L' ∧ Keep h0 h' [res] ∧ Arv Z h' res kr .int (2 : Int32) [(.int z0), (.int z1)] (.int (0 : Int32)) ∧ [(z0, w0), (z1, w1)] = own_ins 2 (xi, xd) [(r0, v0)] ∧ (¬ z0 < 0 ∧ z0 < nn) ∧ vd.getD z0.toNatClampNeg (.double (0 : UInt64)) = .double (FP.i2d w0) ∧ (¬ z1 < 0 ∧ z1 < nn) ∧ vd.getD z1.toNatClampNeg (.double (0 : UInt64)) = .double (FP.i2d w1) ∧ ∀ target, Steps p.tables e below (T'.setTop (mkF m 14 #[rv ad, iv 3, rv res, iv 2, .val (.int (xi + (1 : Int32))), iv y5, iv y6] [])) target → Steps p.tables e below (T0.setTop (mkF m 14 #[rv ad, iv 3, rv res, iv 1, iv xi, iv x5, iv x6] [])) target := by
  obtain ⟨_, _, ⟨T1, L1, k1, n1⟩, -, X1, ⟨Lc1, hQ1, l1, y1, z1⟩, st1⟩ := Jvm.LawKit.callS X0 hx (y := ⟨"java/lang/Double", "compare", "(DD)I"⟩) hown (mvT hZ (wK hw (i := 18) rfl)) (mvT hZ (wK hw (i := 19) rfl)) (mvT hZ (wK hw (i := 20) rfl)) (mvT hZ (wK hw (i := 21) rfl)) (by decide) (backOf (W := 0) (rmdc l Z a0 hw [] xd v0 h0 n0 Z0) hZ (wK hw (i := 21) rfl) (wK hw (i := 20) rfl) (by decide) (by decide)) (g := (mkF m 41 #[rv ad, iv 3, rv res, iv 1, iv xi, iv 1, iv x6] [(.double (FP.i2d v0)), (.double (FP.i2d xd))])) rfl (by rw [hml]; rfl) (argsL := [(.double (FP.i2d xd)), (.double (FP.i2d v0))]) (rest := []) (lenOf pd_5 rfl) rfl (Nat.le_of_eq rfl) (hb hby dH_41) (fun _ _ => ⟨rfl, e0, (by decide : 1 + 0 ≤ _), (by decide : 2 + 0 ≤ _)⟩)
  dsimp only [Pt.U, Pt.locs, Pt.cells, Pt.slots] at X1 l1 y1 z1 st1 hQ1
  subst l1 y1 z1
  obtain ⟨rfl, N1q, eh1⟩ := hQ1
  have N1 := Fr.app N0 N1q
  rcases Bool.eq_false_or_eq_true (ifCond.holds .ge (own_dc xd v0)) with hc44 | hc44
  · obtain ⟨_, _, ⟨T2, L2, k2, n2⟩, -, X2, ⟨Lc2, hQ2, l2, y2, z2⟩, st2⟩ := Jvm.LawKit.callS X1 hx (y := ⟨"java/lang/Math", "min", "(II)I"⟩) hown (mvT hZ (wK hw (i := 10) rfl)) (mvT hZ (wK hw (i := 11) rfl)) (mvT hZ (wK hw (i := 12) rfl)) (mvT hZ (wK hw (i := 13) rfl)) (by decide) (backOf (W := 0) (rmmn_1_1 l Z a0 hw []  h0 n0 Z0) hZ (wK hw (i := 13) rfl) (wK hw (i := 12) rfl) (by decide) (by decide)) (g := (mkF m 65 #[rv ad, iv 3, rv res, iv 1, iv xi, iv 1, iv x6] [(.int (1 : Int32)), (.int (1 : Int32))])) rfl (by rw [hml]; rfl) (argsL := [(.int (1 : Int32)), (.int (1 : Int32))]) (rest := []) (lenOf pd_4 rfl) rfl (Nat.le_of_eq rfl) (hb hby dH_65) (fun _ _ => ⟨rfl, eh1, (by decide : 1 + 0 ≤ _), (by decide : 2 + 0 ≤ _)⟩)
    dsimp only [Pt.U, Pt.locs, Pt.cells, Pt.slots] at X2 l2 y2 z2 st2 hQ2
    subst l2 y2 z2
    obtain ⟨rfl, N2q, eh2⟩ := hQ2
    have N2 := Fr.app N1 N2q
    obtain ⟨T3, h3, L3, X3, e3, N3, K3, Vc3, st3⟩ := cpA X2 hx hZ hown (wK hw (i := 14) rfl) (wK hw (i := 17) rfl) (wK hw (i := 15) rfl) (wK hw (i := 16) rfl) eh2 V_r V_r (us := []) (sp := (1 : Int32)) (dp := (2 : Int32)) (nn := (0 : Int32)) (Or.inl ⟨rfl, rfl⟩) (by decide) (by decide) (by decide) (by decide) (by decide) rfl (by show Int32.toNatClampNeg (2 : Int32) + Int32.toNatClampNeg (0 : Int32) ≤ 2; decide) N2 g_r (g := (mkF m 83 #[rv ad, iv 3, rv res, iv 1, iv xi, iv 1, iv 1] [(.int (0 : Int32)), (.int (2 : Int32)), (.ref res), (.int (1 : Int32)), (.ref res)])) rfl (by rw [hml]; rfl) rfl (hb hby dH_83) (by decide) (W := 0) (Nat.le_of_eq rfl) (by decide)
    have V3 : Arv Z h3 res kr .int (2 : Int32) [(.int r0), (.int (0 : Int32))] (.int (0 : Int32)) := Vc3
    obtain ⟨cl4, Ar4, q4, S4, P4, Ha4, G4⟩ := V3
    have hin4 : ¬ ((1 : Int32) < 0 ∨ cl4.slots.size ≤ ((1 : Int32)).toNatClampNeg) := inb_of S4 ⟨by decide, by decide⟩
    obtain ⟨T5, h5, X5, e5, W5, st5⟩ := stI X3 hx hZ e3 Ar4 (j := (1 : Int32)) hin4 (g := (mkF m 91 #[rv ad, iv 3, rv res, iv 1, iv xi, iv 1, iv 1] [(.int xi), (.int (1 : Int32)), (.ref res)])) rfl rfl (hb hby dH_91)
    have V5 : Arv Z h5 res kr .int (2 : Int32) [(.int r0), (.int xi)] (.int (0 : Int32)) := Arv.set Ar4 q4 S4 P4 Ha4 G4 rfl W5 1 rfl (Nat.le_of_ble_eq_true rfl)
    have N5 := Fr.snoc X5 N3 g_r
    refine ⟨T5, h5, _, (1 : Int32), (1 : Int32), r0, xi, v0, xd, X5, e5, N5, (((Keep.refl h0 [res]).trans K3 (allS (Or.inl (List.mem_of_getElem? (i := 0) rfl)) all0)).wr W5 (Or.inl (List.mem_of_getElem? (i := 0) rfl))), V5, (by simp [own_ins, own_insR, hc44]), b_r0, e_r0, b_xi, e_xi, fun target kt => ?_⟩
    show sS p e below T0 m 14 #[rv ad, iv 3, rv res, iv 1, iv xi, iv x5, iv x6] [] _
    refine XS.iload X0.here hx rfl (hb hby dH_14) rfl ?_
    refine XS.aloadN X0.here hx rfl (hb hby dH_16) rfl rfl ?_
    refine own_len X0 hx hZ e0 V_d rfl rfl (hb hby dH_17) ?_
    refine XS.icmpNo X0.here hx rfl (hb hby dH_18) rfl hi18 ?_
    refine XS.iloadN X0.here hx rfl (hb hby dH_21) rfl ?_
    refine XS.istore X0.here hx rfl (hb hby dH_22) rfl (l' := #[rv ad, iv 3, rv res, iv 1, iv xi, iv 1, iv x6]) rfl ?_
    show sS p e below T0 m 24 #[rv ad, iv 3, rv res, iv 1, iv xi, iv 1, iv x6] [] _
    refine XS.iload X0.here hx rfl (hb hby dH_24) rfl ?_
    refine XS.ifNo X0.here hx rfl (hb hby dH_26) rfl (by decide) ?_
    refine XS.aloadN X0.here hx rfl (hb hby dH_29) rfl rfl ?_
    refine XS.iload X0.here hx rfl (hb hby dH_30) rfl ?_
    refine own_ldD X0 hx hZ e0 V_d b_xi (v := (FP.i2d xd)) e_xi rfl rfl (hb hby dH_32) ?_
    refine XS.aloadN X0.here hx rfl (hb hby dH_33) rfl rfl ?_
    show sS p e below T0 m 34 #[rv ad, iv 3, rv res, iv 1, iv xi, iv 1, iv x6] [(.ref ad), (.double (FP.i2d xd))] _
    refine XS.aloadN X0.here hx rfl (hb hby dH_34) rfl rfl ?_
    refine XS.iload X0.here hx rfl (hb hby dH_35) rfl ?_
    refine XS.iconst X0.here hx rfl (hb hby dH_37) ?_
    refine XS.isub X0.here hx rfl (hb hby dH_38) rfl ?_
    refine own_ldI X0 hx hZ e0 V_r ⟨by decide, by decide⟩ (v := r0) rfl rfl rfl (hb hby dH_39) ?_
    refine own_ldD X0 hx hZ e0 V_d b_r0 (v := (FP.i2d v0)) e_r0 rfl rfl (hb hby dH_40) ?_
    show sS p e below T0 m 41 #[rv ad, iv 3, rv res, iv 1, iv xi, iv 1, iv x6] [(.double (FP.i2d v0)), (.double (FP.i2d xd))] _
    refine st1 _ ?_
    show sS p e below T1 m 44 #[rv ad, iv 3, rv res, iv 1, iv xi, iv 1, iv x6] [(.int (own_dc xd v0))] _
    refine XS.ifYes X1.here hx rfl (pc0 := 44) (pc' := 53) rfl (hb hby dH_44) rfl hc44 (by decide) (by decide) ?_
    refine XS.iload X1.here hx rfl (hb hby dH_53) rfl ?_
    refine XS.aloadN X1.here hx rfl (hb hby dH_55) rfl rfl ?_
    refine own_len X1 hx hZ eh1 V_r rfl rfl (hb hby dH_56) ?_
    refine XS.icmpNo X1.here hx rfl (hb hby dH_57) rfl (by decide) ?_
    refine XS.iloadN X1.here hx rfl (hb hby dH_60) rfl ?_
    show sS p e below T1 m 61 #[rv ad, iv 3, rv res, iv 1, iv xi, iv 1, iv x6] [(.int (1 : Int32))] _
    refine XS.aloadN X1.here hx rfl (hb hby dH_61) rfl rfl ?_
    refine own_len X1 hx hZ eh1 V_r rfl rfl (hb hby dH_62) ?_
    refine XS.iconst X1.here hx rfl (hb hby dH_63) ?_
    refine XS.isub X1.here hx rfl (hb hby dH_64) rfl ?_
    show sS p e below T1 m 65 #[rv ad, iv 3, rv res, iv 1, iv xi, iv 1, iv x6] [(.int (1 : Int32)), (.int (1 : Int32))] _
    refine st2 _ ?_
    show sS p e below T2 m 68 #[rv ad, iv 3, rv res, iv 1, iv xi, iv 1, iv x6] [(.int (1 : Int32))] _
    refine XS.istore X2.here hx rfl (hb hby dH_68) rfl (l' := #[rv ad, iv 3, rv res, iv 1, iv xi, iv 1, iv 1]) rfl ?_
    refine XS.aloadN X2.here hx rfl (hb hby dH_70) rfl rfl ?_
    refine XS.iload X2.here hx rfl (hb hby dH_71) rfl ?_
    refine XS.aloadN X2.here hx rfl (hb hby dH_73) rfl rfl ?_
    refine XS.iload X2.here hx rfl (hb hby dH_74) rfl ?_
    refine XS.iconst X2.here hx rfl (hb hby dH_76) ?_
    show sS p e below T2 m 77 #[rv ad, iv 3, rv res, iv 1, iv xi, iv 1, iv 1] [(.int (1 : Int32)), (.int (1 : Int32)), (.ref res), (.int (1 : Int32)), (.ref res)] _
    refine XS.iadd X2.here hx rfl (hb hby dH_77) rfl ?_
    refine XS.iload X2.here hx rfl (hb hby dH_78) rfl ?_
    refine XS.iload X2.here hx rfl (hb hby dH_80) rfl ?_
    refine XS.isub X2.here hx rfl (hb hby dH_82) rfl ?_
    show sS p e below T2 m 83 #[rv ad, iv 3, rv res, iv 1, iv xi, iv 1, iv 1] [(.int (0 : Int32)), (.int (2 : Int32)), (.ref res), (.int (1 : Int32)), (.ref res)] _
    refine st3 _ ?_
    show sS p e below T3 m 86 #[rv ad, iv 3, rv res, iv 1, iv xi, iv 1, iv 1] [] _
    refine XS.aloadN X3.here hx rfl (hb hby dH_86) rfl rfl ?_
    refine XS.iload X3.here hx rfl (hb hby dH_87) rfl ?_
    refine XS.iload X3.here hx rfl (hb hby dH_89) rfl ?_
    show sS p e below T3 m 91 #[rv ad, iv 3, rv res, iv 1, iv xi, iv 1, iv 1] [(.int xi), (.int (1 : Int32)), (.ref res)] _
    refine st5 _ ?_
    show sS p e below T5 m 92 #[rv ad, iv 3, rv res, iv 1, iv xi, iv 1, iv 1] [] _
    refine XS.iload X5.here hx rfl (hb hby dH_92) rfl ?_
    refine XS.iconst X5.here hx rfl (hb hby dH_94) ?_
    refine XS.iadd X5.here hx rfl (hb hby dH_95) rfl ?_
    refine XS.istoreN X5.here hx rfl (hb hby dH_96) rfl (l' := #[rv ad, iv 3, rv res, iv 2, iv xi, iv 1, iv 1]) rfl ?_
    refine XS.iinc X5.here hx rfl (hb hby dH_97) rfl (l' := #[rv ad, iv 3, rv res, iv 2, .val (.int (xi + (1 : Int32))), iv 1, iv 1]) rfl ?_
    refine XS.goto X5.here hx rfl (pc0 := 100) (pc' := 14) rfl (hb hby dH_100) (by decide) (by decide) ?_
    exact kt
  · obtain ⟨_, _, ⟨T6, L6, k6, n6⟩, -, X6, ⟨Lc6, hQ6, l6, y6, z6⟩, st6⟩ := Jvm.LawKit.callS X1 hx (y := ⟨"java/lang/Math", "min", "(II)I"⟩) hown (mvT hZ (wK hw (i := 10) rfl)) (mvT hZ (wK hw (i := 11) rfl)) (mvT hZ (wK hw (i := 12) rfl)) (mvT hZ (wK hw (i := 13) rfl)) (by decide) (backOf (W := 0) (rmmn_1_1 l Z a0 hw []  h0 n0 Z0) hZ (wK hw (i := 13) rfl) (wK hw (i := 12) rfl) (by decide) (by decide)) (g := (mkF m 65 #[rv ad, iv 3, rv res, iv 1, iv xi, iv 0, iv x6] [(.int (1 : Int32)), (.int (1 : Int32))])) rfl (by rw [hml]; rfl) (argsL := [(.int (1 : Int32)), (.int (1 : Int32))]) (rest := []) (lenOf pd_4 rfl) rfl (Nat.le_of_eq rfl) (hb hby dH_65) (fun _ _ => ⟨rfl, eh1, (by decide : 1 + 0 ≤ _), (by decide : 2 + 0 ≤ _)⟩)
    dsimp only [Pt.U, Pt.locs, Pt.cells, Pt.slots] at X6 l6 y6 z6 st6 hQ6
    subst l6 y6 z6
    obtain ⟨rfl, N6q, eh6⟩ := hQ6
    have N6 := Fr.app N1 N6q
    obtain ⟨T7, h7, L7, X7, e7, N7, K7, Vc7, st7⟩ := cpA X6 hx hZ hown (wK hw (i := 14) rfl) (wK hw (i := 17) rfl) (wK hw (i := 15) rfl) (wK hw (i := 16) rfl) eh6 V_r V_r (us := [(.int r0)]) (sp := (0 : Int32)) (dp := (1 : Int32)) (nn := (1 : Int32)) (Or.inl ⟨rfl, rfl⟩) (by decide) (by decide) (by decide) (by decide) (by decide) rfl (by show Int32.toNatClampNeg (1 : Int32) + Int32.toNatClampNeg (1 : Int32) ≤ 2; decide) N6 g_r (g := (mkF m 83 #[rv ad, iv 3, rv res, iv 1, iv xi, iv 0, iv 1] [(.int (1 : Int32)), (.int (1 : Int32)), (.ref res), (.int (0 : Int32)), (.ref res)])) rfl (by rw [hml]; rfl) rfl (hb hby dH_83) (by decide) (W := 0) (Nat.le_of_eq rfl) (by decide)
    have V7 : Arv Z h7 res kr .int (2 : Int32) [(.int r0), (.int r0)] (.int (0 : Int32)) := Vc7
    obtain ⟨cl8, Ar8, q8, S8, P8, Ha8, G8⟩ := V7
    have hin8 : ¬ ((0 : Int32) < 0 ∨ cl8.slots.size ≤ ((0 : Int32)).toNatClampNeg) := inb_of S8 ⟨by decide, by decide⟩
    obtain ⟨T9, h9, X9, e9, W9, st9⟩ := stI X7 hx hZ e7 Ar8 (j := (0 : Int32)) hin8 (g := (mkF m 91 #[rv ad, iv 3, rv res, iv 1, iv xi, iv 0, iv 1] [(.int xi), (.int (0 : Int32)), (.ref res)])) rfl rfl (hb hby dH_91)
    have V9 : Arv Z h9 res kr .int (2 : Int32) [(.int xi), (.int r0)] (.int (0 : Int32)) := Arv.set Ar8 q8 S8 P8 Ha8 G8 rfl W9 0 rfl (Nat.le_of_ble_eq_true rfl)
    have N9 := Fr.snoc X9 N7 g_r
    refine ⟨T9, h9, _, (0 : Int32), (1 : Int32), xi, r0, xd, v0, X9, e9, N9, (((Keep.refl h0 [res]).trans K7 (allS (Or.inl (List.mem_of_getElem? (i := 0) rfl)) all0)).wr W9 (Or.inl (List.mem_of_getElem? (i := 0) rfl))), V9, (by simp [own_ins, own_insR, hc44]), b_xi, e_xi, b_r0, e_r0, fun target kt => ?_⟩
    show sS p e below T0 m 14 #[rv ad, iv 3, rv res, iv 1, iv xi, iv x5, iv x6] [] _
    refine XS.iload X0.here hx rfl (hb hby dH_14) rfl ?_
    refine XS.aloadN X0.here hx rfl (hb hby dH_16) rfl rfl ?_
    refine own_len X0 hx hZ e0 V_d rfl rfl (hb hby dH_17) ?_
    refine XS.icmpNo X0.here hx rfl (hb hby dH_18) rfl hi18 ?_
    refine XS.iloadN X0.here hx rfl (hb hby dH_21) rfl ?_
    refine XS.istore X0.here hx rfl (hb hby dH_22) rfl (l' := #[rv ad, iv 3, rv res, iv 1, iv xi, iv 1, iv x6]) rfl ?_
    show sS p e below T0 m 24 #[rv ad, iv 3, rv res, iv 1, iv xi, iv 1, iv x6] [] _
    refine XS.iload X0.here hx rfl (hb hby dH_24) rfl ?_
    refine XS.ifNo X0.here hx rfl (hb hby dH_26) rfl (by decide) ?_
    refine XS.aloadN X0.here hx rfl (hb hby dH_29) rfl rfl ?_
    refine XS.iload X0.here hx rfl (hb hby dH_30) rfl ?_
    refine own_ldD X0 hx hZ e0 V_d b_xi (v := (FP.i2d xd)) e_xi rfl rfl (hb hby dH_32) ?_
    refine XS.aloadN X0.here hx rfl (hb hby dH_33) rfl rfl ?_
    show sS p e below T0 m 34 #[rv ad, iv 3, rv res, iv 1, iv xi, iv 1, iv x6] [(.ref ad), (.double (FP.i2d xd))] _
    refine XS.aloadN X0.here hx rfl (hb hby dH_34) rfl rfl ?_
    refine XS.iload X0.here hx rfl (hb hby dH_35) rfl ?_
    refine XS.iconst X0.here hx rfl (hb hby dH_37) ?_
    refine XS.isub X0.here hx rfl (hb hby dH_38) rfl ?_
    refine own_ldI X0 hx hZ e0 V_r ⟨by decide, by decide⟩ (v := r0) rfl rfl rfl (hb hby dH_39) ?_
    refine own_ldD X0 hx hZ e0 V_d b_r0 (v := (FP.i2d v0)) e_r0 rfl rfl (hb hby dH_40) ?_
    show sS p e below T0 m 41 #[rv ad, iv 3, rv res, iv 1, iv xi, iv 1, iv x6] [(.double (FP.i2d v0)), (.double (FP.i2d xd))] _
    refine st1 _ ?_
    show sS p e below T1 m 44 #[rv ad, iv 3, rv res, iv 1, iv xi, iv 1, iv x6] [(.int (own_dc xd v0))] _
    refine XS.ifNo X1.here hx rfl (hb hby dH_44) rfl hc44 ?_
    refine XS.iinc X1.here hx rfl (hb hby dH_47) rfl (l' := #[rv ad, iv 3, rv res, iv 1, iv xi, iv 0, iv x6]) rfl ?_
    refine XS.goto X1.here hx rfl (pc0 := 50) (pc' := 24) rfl (hb hby dH_50) (by decide) (by decide) ?_
    refine XS.iload X1.here hx rfl (hb hby dH_24) rfl ?_
    refine XS.ifYes X1.here hx rfl (pc0 := 26) (pc' := 53) rfl (hb hby dH_26) rfl (by decide) (by decide) (by decide) ?_
    refine XS.iload X1.here hx rfl (hb hby dH_53) rfl ?_
    show sS p e below T1 m 55 #[rv ad, iv 3, rv res, iv 1, iv xi, iv 0, iv x6] [(.int (0 : Int32))] _
    refine XS.aloadN X1.here hx rfl (hb hby dH_55) rfl rfl ?_
    refine own_len X1 hx hZ eh1 V_r rfl rfl (hb hby dH_56) ?_
    refine XS.icmpNo X1.here hx rfl (hb hby dH_57) rfl (by decide) ?_
    refine XS.iloadN X1.here hx rfl (hb hby dH_60) rfl ?_
    refine XS.aloadN X1.here hx rfl (hb hby dH_61) rfl rfl ?_
    refine own_len X1 hx hZ eh1 V_r rfl rfl (hb hby dH_62) ?_
    show sS p e below T1 m 63 #[rv ad, iv 3, rv res, iv 1, iv xi, iv 0, iv x6] [(.int (2 : Int32)), (.int (1 : Int32))] _
    refine XS.iconst X1.here hx rfl (hb hby dH_63) ?_
    refine XS.isub X1.here hx rfl (hb hby dH_64) rfl ?_
    show sS p e below T1 m 65 #[rv ad, iv 3, rv res, iv 1, iv xi, iv 0, iv x6] [(.int (1 : Int32)), (.int (1 : Int32))] _
    refine st6 _ ?_
    show sS p e below T6 m 68 #[rv ad, iv 3, rv res, iv 1, iv xi, iv 0, iv x6] [(.int (1 : Int32))] _
    refine XS.istore X6.here hx rfl (hb hby dH_68) rfl (l' := #[rv ad, iv 3, rv res, iv 1, iv xi, iv 0, iv 1]) rfl ?_
    refine XS.aloadN X6.here hx rfl (hb hby dH_70) rfl rfl ?_
    refine XS.iload X6.here hx rfl (hb hby dH_71) rfl ?_
    refine XS.aloadN X6.here hx rfl (hb hby dH_73) rfl rfl ?_
    refine XS.iload X6.here hx rfl (hb hby dH_74) rfl ?_
    refine XS.iconst X6.here hx rfl (hb hby dH_76) ?_
    show sS p e below T6 m 77 #[rv ad, iv 3, rv res, iv 1, iv xi, iv 0, iv 1] [(.int (1 : Int32)), (.int (0 : Int32)), (.ref res), (.int (0 : Int32)), (.ref res)] _
    refine XS.iadd X6.here hx rfl (hb hby dH_77) rfl ?_
    refine XS.iload X6.here hx rfl (hb hby dH_78) rfl ?_
    refine XS.iload X6.here hx rfl (hb hby dH_80) rfl ?_
    refine XS.isub X6.here hx rfl (hb hby dH_82) rfl ?_
    show sS p e below T6 m 83 #[rv ad, iv 3, rv res, iv 1, iv xi, iv 0, iv 1] [(.int (1 : Int32)), (.int (1 : Int32)), (.ref res), (.int (0 : Int32)), (.ref res)] _
    refine st7 _ ?_
    show sS p e below T7 m 86 #[rv ad, iv 3, rv res, iv 1, iv xi, iv 0, iv 1] [] _
    refine XS.aloadN X7.here hx rfl (hb hby dH_86) rfl rfl ?_
    refine XS.iload X7.here hx rfl (hb hby dH_87) rfl ?_
    refine XS.iload X7.here hx rfl (hb hby dH_89) rfl ?_
    show sS p e below T7 m 91 #[rv ad, iv 3, rv res, iv 1, iv xi, iv 0, iv 1] [(.int xi), (.int (0 : Int32)), (.ref res)] _
    refine st9 _ ?_
    show sS p e below T9 m 92 #[rv ad, iv 3, rv res, iv 1, iv xi, iv 0, iv 1] [] _
    refine XS.iload X9.here hx rfl (hb hby dH_92) rfl ?_
    refine XS.iconst X9.here hx rfl (hb hby dH_94) ?_
    refine XS.iadd X9.here hx rfl (hb hby dH_95) rfl ?_
    refine XS.istoreN X9.here hx rfl (hb hby dH_96) rfl (l' := #[rv ad, iv 3, rv res, iv 2, iv xi, iv 0, iv 1]) rfl ?_
    refine XS.iinc X9.here hx rfl (hb hby dH_97) rfl (l' := #[rv ad, iv 3, rv res, iv 2, .val (.int (xi + (1 : Int32))), iv 0, iv 1]) rfl ?_
    refine XS.goto X9.here hx rfl (pc0 := 100) (pc' := 14) rfl (hb hby dH_100) (by decide) (by decide) ?_
    exact kt
set_option maxRecDepth 65536 in
set_option maxHeartbeats 40000000 in
theorem tn_3_0 {p : Program} {l : Launch} {e : Env} {s : State} {m : MethodId} {args : Array Value} {below : List Frame} {meth : Method} {c : Code} {T0 : State} {locs : List Loc}  {Z : State} {a0 : Array Value} {h0 : Heap} {n0 : Nat} {ad res : Addr} {kd kr : ClassId} {nn xi xd : Int32} {vd : List Value}  (X0 : Stand p l e ({ frames := 3, cells := 1, slots := 3, locals := 64 } : Room) s m args below meth c T0 locs 1 3) (hx : p.tables.exec = Jvm.exec) (hZ : Z.Warmed39 s.vm) (hw : ∀ d ∈ tables_1, d.before a0 Z = true) (hby : c.code = prog_5_method_4_code) (hml : c.maxLocals = 7) (hown : s.vm.findClass cN1 = some m.cls) (e0 : T0.heap = h0) (Z0 : n0 ≤ h0.size) (N0 : Fr n0 locs) (V_d : Arv Z h0 ad kd .double nn vd (.double (0 : UInt64))) (V_r : Arv Z h0 res kr .int (3 : Int32) [(.int (0 : Int32)), (.int (0 : Int32)), (.int (0 : Int32))] (.int (0 : Int32))) (hne : ad ≠ res) (g_r : n0 ≤ res) (hi18 : if_icmp.holds .ge xi nn = false) (b_xi : (¬ xi < 0 ∧ xi < nn)) (e_xi : vd.getD xi.toNatClampNeg (.double (0 : UInt64)) = .double (FP.i2d xd)) :
    ∃ (T' : State) (h' : Heap) (L' : List Loc) (y5 y6 z0 w0 : Int32), Stand p l e ({ frames := 3, cells := 1, slots := 3, locals := 64 } : Room) s m args below meth c T' L' 1 3 ∧ T'.heap = h' ∧ Fr n0 L' ∧ Keep h0 h' [res] ∧ Arv Z h' res kr .int (3 : Int32) [(.int z0), (.int (0 : Int32)), (.int (0 : Int32))] (.int (0 : Int32)) ∧ [(z0, w0)] = own_ins 3 (xi, xd) [] ∧ (¬ z0 < 0 ∧ z0 < nn) ∧ vd.getD z0.toNatClampNeg (.double (0 : UInt64)) = .double (FP.i2d w0) ∧ ∀ target, Steps p.tables e below (T'.setTop (mkF m 14 #[rv ad, iv 3, rv res, iv 1, .val (.int (xi + (1 : Int32))), iv y5, iv y6] [])) target → Steps p.tables e below (T0.setTop (mkF m 14 #[rv ad, iv 3, rv res, iv 0, iv xi, .unset, .unset] [])) target := by
  obtain ⟨_, _, ⟨T1, L1, k1, n1⟩, -, X1, ⟨Lc1, hQ1, l1, y1, z1⟩, st1⟩ := Jvm.LawKit.callS X0 hx (y := ⟨"java/lang/Math", "min", "(II)I"⟩) hown (mvT hZ (wK hw (i := 10) rfl)) (mvT hZ (wK hw (i := 11) rfl)) (mvT hZ (wK hw (i := 12) rfl)) (mvT hZ (wK hw (i := 13) rfl)) (by decide) (backOf (W := 0) (rmmn_0_2 l Z a0 hw []  h0 n0 Z0) hZ (wK hw (i := 13) rfl) (wK hw (i := 12) rfl) (by decide) (by decide)) (g := (mkF m 65 #[rv ad, iv 3, rv res, iv 0, iv xi, iv 0, .unset] [(.int (2 : Int32)), (.int (0 : Int32))])) rfl (by rw [hml]; rfl) (argsL := [(.int (0 : Int32)), (.int (2 : Int32))]) (rest := []) (lenOf pd_4 rfl) rfl (Nat.le_of_eq rfl) (hb hby dH_65) (fun _ _ => ⟨rfl, e0, (by decide : 1 + 0 ≤ _), (by decide : 3 + 0 ≤ _)⟩)
  dsimp only [Pt.U, Pt.locs, Pt.cells, Pt.slots] at X1 l1 y1 z1 st1 hQ1
  subst l1 y1 z1
  obtain ⟨rfl, N1q, eh1⟩ := hQ1
  have N1 := Fr.app N0 N1q
  obtain ⟨T2, h2, L2, X2, e2, N2, K2, Vc2, st2⟩ := cpA X1 hx hZ hown (wK hw (i := 14) rfl) (wK hw (i := 17) rfl) (wK hw (i := 15) rfl) (wK hw (i := 16) rfl) eh1 V_r V_r (us := []) (sp := (0 : Int32)) (dp := (1 : Int32)) (nn := (0 : Int32)) (Or.inl ⟨rfl, rfl⟩) (by decide) (by decide) (by decide) (by decide) (by decide) rfl (by show Int32.toNatClampNeg (1 : Int32) + Int32.toNatClampNeg (0 : Int32) ≤ 3; decide) N1 g_r (g := (mkF m 83 #[rv ad, iv 3, rv res, iv 0, iv xi, iv 0, iv 0] [(.int (0 : Int32)), (.int (1 : Int32)), (.ref res), (.int (0 : Int32)), (.ref res)])) rfl (by rw [hml]; rfl) rfl (hb hby dH_83) (by decide) (W := 0) (Nat.le_of_eq rfl) (by decide)
  have V2 : Arv Z h2 res kr .int (3 : Int32) [(.int (0 : Int32)), (.int (0 : Int32)), (.int (0 : Int32))] (.int (0 : Int32)) := Vc2
  obtain ⟨cl3, Ar3, q3, S3, P3, Ha3, G3⟩ := V2
  have hin3 : ¬ ((0 : Int32) < 0 ∨ cl3.slots.size ≤ ((0 : Int32)).toNatClampNeg) := inb_of S3 ⟨by decide, by decide⟩
  obtain ⟨T4, h4, X4, e4, W4, st4⟩ := stI X2 hx hZ e2 Ar3 (j := (0 : Int32)) hin3 (g := (mkF m 91 #[rv ad, iv 3, rv res, iv 0, iv xi, iv 0, iv 0] [(.int xi), (.int (0 : Int32)), (.ref res)])) rfl rfl (hb hby dH_91)
  have V4 : Arv Z h4 res kr .int (3 : Int32) [(.int xi), (.int (0 : Int32)), (.int (0 : Int32))] (.int (0 : Int32)) := Arv.set Ar3 q3 S3 P3 Ha3 G3 rfl W4 0 rfl (Nat.le_of_ble_eq_true rfl)
  have N4 := Fr.snoc X4 N2 g_r
  refine ⟨T4, h4, _, (0 : Int32), (0 : Int32), xi, xd, X4, e4, N4, (((Keep.refl h0 [res]).trans K2 (allS (Or.inl (List.mem_of_getElem? (i := 0) rfl)) all0)).wr W4 (Or.inl (List.mem_of_getElem? (i := 0) rfl))), V4, (by simp [own_ins, own_insR]), b_xi, e_xi, fun target kt => ?_⟩
  show sS p e below T0 m 14 #[rv ad, iv 3, rv res, iv 0, iv xi, .unset, .unset] [] _
  refine XS.iload X0.here hx rfl (hb hby dH_14) rfl ?_
  refine XS.aloadN X0.here hx rfl (hb hby dH_16) rfl rfl ?_
  refine own_len X0 hx hZ e0 V_d rfl rfl (hb hby dH_17) ?_
  refine XS.icmpNo X0.here hx rfl (hb hby dH_18) rfl hi18 ?_
  refine XS.iloadN X0.here hx rfl (hb hby dH_21) rfl ?_
  refine XS.istore X0.here hx rfl (hb hby dH_22) rfl (l' := #[rv ad, iv 3, rv res, iv 0, iv xi, iv 0, .unset]) rfl ?_
  show sS p e below T0 m 24 #[rv ad, iv 3, rv res, iv 0, iv xi, iv 0, .unset] [] _
  refine XS.iload X0.here hx rfl (hb hby dH_24) rfl ?_
  refine XS.ifYes X0.here hx rfl (pc0 := 26) (pc' := 53) rfl (hb hby dH_26) rfl (by decide) (by decide) (by decide) ?_
  refine XS.iload X0.here hx rfl (hb hby dH_53) rfl ?_
  refine XS.aloadN X0.here hx rfl (hb hby dH_55) rfl rfl ?_
  refine own_len X0 hx hZ e0 V_r rfl rfl (hb hby dH_56) ?_
  refine XS.icmpNo X0.here hx rfl (hb hby dH_57) rfl (by decide) ?_
  show sS p e below T0 m 60 #[rv ad, iv 3, rv res, iv 0, iv xi, iv 0, .unset] [] _
  refine XS.iloadN X0.here hx rfl (hb hby dH_60) rfl ?_
  refine XS.aloadN X0.here hx rfl (hb hby dH_61) rfl rfl ?_
  refine own_len X0 hx hZ e0 V_r rfl rfl (hb hby dH_62) ?_
  refine XS.iconst X0.here hx rfl (hb hby dH_63) ?_
  refine XS.isub X0.here hx rfl (hb hby dH_64) rfl ?_
  show sS p e below T0 m 65 #[rv ad, iv 3, rv res, iv 0, iv xi, iv 0, .unset] [(.int (2 : Int32)), (.int (0 : Int32))] _
  refine st1 _ ?_
  show sS p e below T1 m 68 #[rv ad, iv 3, rv res, iv 0, iv xi, iv 0, .unset] [(.int (0 : Int32))] _
  refine XS.istore X1.here hx rfl (hb hby dH_68) rfl (l' := #[rv ad, iv 3, rv res, iv 0, iv xi, iv 0, iv 0]) rfl ?_
  refine XS.aloadN X1.here hx rfl (hb hby dH_70) rfl rfl ?_
  refine XS.iload X1.here hx rfl (hb hby dH_71) rfl ?_
  refine XS.aloadN X1.here hx rfl (hb hby dH_73) rfl rfl ?_
  refine XS.iload X1.here hx rfl (hb hby dH_74) rfl ?_
  refine XS.iconst X1.here hx rfl (hb hby dH_76) ?_
  show sS p e below T1 m 77 #[rv ad, iv 3, rv res, iv 0, iv xi, iv 0, iv 0] [(.int (1 : Int32)), (.int (0 : Int32)), (.ref res), (.int (0 : Int32)), (.ref res)] _
  refine XS.iadd X1.here hx rfl (hb hby dH_77) rfl ?_
  refine XS.iload X1.here hx rfl (hb hby dH_78) rfl ?_
  refine XS.iload X1.here hx rfl (hb hby dH_80) rfl ?_
  refine XS.isub X1.here hx rfl (hb hby dH_82) rfl ?_
  show sS p e below T1 m 83 #[rv ad, iv 3, rv res, iv 0, iv xi, iv 0, iv 0] [(.int (0 : Int32)), (.int (1 : Int32)), (.ref res), (.int (0 : Int32)), (.ref res)] _
  refine st2 _ ?_
  show sS p e below T2 m 86 #[rv ad, iv 3, rv res, iv 0, iv xi, iv 0, iv 0] [] _
  refine XS.aloadN X2.here hx rfl (hb hby dH_86) rfl rfl ?_
  refine XS.iload X2.here hx rfl (hb hby dH_87) rfl ?_
  refine XS.iload X2.here hx rfl (hb hby dH_89) rfl ?_
  show sS p e below T2 m 91 #[rv ad, iv 3, rv res, iv 0, iv xi, iv 0, iv 0] [(.int xi), (.int (0 : Int32)), (.ref res)] _
  refine st4 _ ?_
  show sS p e below T4 m 92 #[rv ad, iv 3, rv res, iv 0, iv xi, iv 0, iv 0] [] _
  refine XS.iload X4.here hx rfl (hb hby dH_92) rfl ?_
  refine XS.iconst X4.here hx rfl (hb hby dH_94) ?_
  refine XS.iadd X4.here hx rfl (hb hby dH_95) rfl ?_
  refine XS.istoreN X4.here hx rfl (hb hby dH_96) rfl (l' := #[rv ad, iv 3, rv res, iv 1, iv xi, iv 0, iv 0]) rfl ?_
  refine XS.iinc X4.here hx rfl (hb hby dH_97) rfl (l' := #[rv ad, iv 3, rv res, iv 1, .val (.int (xi + (1 : Int32))), iv 0, iv 0]) rfl ?_
  refine XS.goto X4.here hx rfl (pc0 := 100) (pc' := 14) rfl (hb hby dH_100) (by decide) (by decide) ?_
  exact kt
set_option maxRecDepth 65536 in
set_option maxHeartbeats 40000000 in
theorem tn_3_1 {p : Program} {l : Launch} {e : Env} {s : State} {m : MethodId} {args : Array Value} {below : List Frame} {meth : Method} {c : Code} {T0 : State} {locs : List Loc}  {Z : State} {a0 : Array Value} {h0 : Heap} {n0 : Nat} {ad res : Addr} {kd kr : ClassId} {nn xi xd : Int32} {vd : List Value} {r0 v0 x5 x6 : Int32} (X0 : Stand p l e ({ frames := 3, cells := 1, slots := 3, locals := 64 } : Room) s m args below meth c T0 locs 1 3) (hx : p.tables.exec = Jvm.exec) (hZ : Z.Warmed39 s.vm) (hw : ∀ d ∈ tables_1, d.before a0 Z = true) (hby : c.code = prog_5_method_4_code) (hml : c.maxLocals = 7) (hown : s.vm.findClass cN1 = some m.cls) (e0 : T0.heap = h0) (Z0 : n0 ≤ h0.size) (N0 : Fr n0 locs) (V_d : Arv Z h0 ad kd .double nn vd (.double (0 : UInt64))) (V_r : Arv Z h0 res kr .int (3 : Int32) [(.int r0), (.int (0 : Int32)), (.int (0 : Int32))] (.int (0 : Int32))) (hne : ad ≠ res) (g_r : n0 ≤ res) (hi18 : if_icmp.holds .ge xi nn = false) (b_xi : (¬ xi < 0 ∧ xi < nn)) (e_xi : vd.getD xi.toNatClampNeg (.double (0 : UInt64)) = .double (FP.i2d xd)) (b_r0 : (¬ r0 < 0 ∧ r0 < nn)) (e_r0 : vd.getD r0.toNatClampNeg (.double (0 : UInt64)) = .double (FP.i2d v0)) :
    ∃ (T' : State) (h' : Heap) (L' : List Loc) (y5 y6 z0 z1 w0 w1 : Int32), Stand p l e ({ frames := 3, cells := 1, slots := 3, locals := 64 } : Room) s m args below meth c T' L' 1 3 ∧ T'.heap = h' ∧ Fr n0 L' ∧ Keep h0 h' [res] ∧ Arv Z h' res kr .int (3 : Int32) [(.int z0), (.int z1), (.int (0 : Int32))] (.int (0 : Int32)) ∧ [(z0, w0), (z1, w1)] = own_ins 3 (xi, xd) [(r0, v0)] ∧ (¬ z0 < 0 ∧ z0 < nn) ∧ vd.getD z0.toNatClampNeg (.double (0 : UInt64)) = .double (FP.i2d w0) ∧ (¬ z1 < 0 ∧ z1 < nn) ∧ vd.getD z1.toNatClampNeg (.double (0 : UInt64)) = .double (FP.i2d w1) ∧ ∀ target, Steps p.tables e below (T'.setTop (mkF m 14 #[rv ad, iv 3, rv res, iv 2, .val (.int (xi + (1 : Int32))), iv y5, iv y6] [])) target → Steps p.tables e below (T0.setTop (mkF m 14 #[rv ad, iv 3, rv res, iv 1, iv xi, iv x5, iv x6] [])) target := by
  obtain ⟨_, _, ⟨T1, L1, k1, n1⟩, -, X1, ⟨Lc1, hQ1, l1, y1, z1⟩, st1⟩ := Jvm.LawKit.callS X0 hx (y := ⟨"java/lang/Double", "compare", "(DD)I"⟩) hown (mvT hZ (wK hw (i := 18) rfl)) (mvT hZ (wK hw (i := 19) rfl)) (mvT hZ (wK hw (i := 20) rfl)) (mvT hZ (wK hw (i := 21) rfl)) (by decide) (backOf (W := 0) (rmdc l Z a0 hw [] xd v0 h0 n0 Z0) hZ (wK hw (i := 21) rfl) (wK hw (i := 20) rfl) (by decide) (by decide)) (g := (mkF m 41 #[rv ad, iv 3, rv res, iv 1, iv xi, iv 1, iv x6] [(.double (FP.i2d v0)), (.double (FP.i2d xd))])) rfl (by rw [hml]; rfl) (argsL := [(.double (FP.i2d xd)), (.double (FP.i2d v0))]) (rest := []) (lenOf pd_5 rfl) rfl (Nat.le_of_eq rfl) (hb hby dH_41) (fun _ _ => ⟨rfl, e0, (by decide : 1 + 0 ≤ _), (by decide : 3 + 0 ≤ _)⟩)
  dsimp only [Pt.U, Pt.locs, Pt.cells, Pt.slots] at X1 l1 y1 z1 st1 hQ1
  subst l1 y1 z1
  obtain ⟨rfl, N1q, eh1⟩ := hQ1
  have N1 := Fr.app N0 N1q
  rcases Bool.eq_false_or_eq_true (ifCond.holds .ge (own_dc xd v0)) with hc44 | hc44
  · obtain ⟨_, _, ⟨T2, L2, k2, n2⟩, -, X2, ⟨Lc2, hQ2, l2, y2, z2⟩, st2⟩ := Jvm.LawKit.callS X1 hx (y := ⟨"java/lang/Math", "min", "(II)I"⟩) hown (mvT hZ (wK hw (i := 10) rfl)) (mvT hZ (wK hw (i := 11) rfl)) (mvT hZ (wK hw (i := 12) rfl)) (mvT hZ (wK hw (i := 13) rfl)) (by decide) (backOf (W := 0) (rmmn_1_2 l Z a0 hw []  h0 n0 Z0) hZ (wK hw (i := 13) rfl) (wK hw (i := 12) rfl) (by decide) (by decide)) (g := (mkF m 65 #[rv ad, iv 3, rv res, iv 1, iv xi, iv 1, iv x6] [(.int (2 : Int32)), (.int (1 : Int32))])) rfl (by rw [hml]; rfl) (argsL := [(.int (1 : Int32)), (.int (2 : Int32))]) (rest := []) (lenOf pd_4 rfl) rfl (Nat.le_of_eq rfl) (hb hby dH_65) (fun _ _ => ⟨rfl, eh1, (by decide : 1 + 0 ≤ _), (by decide : 3 + 0 ≤ _)⟩)
    dsimp only [Pt.U, Pt.locs, Pt.cells, Pt.slots] at X2 l2 y2 z2 st2 hQ2
    subst l2 y2 z2
    obtain ⟨rfl, N2q, eh2⟩ := hQ2
    have N2 := Fr.app N1 N2q
    obtain ⟨T3, h3, L3, X3, e3, N3, K3, Vc3, st3⟩ := cpA X2 hx hZ hown (wK hw (i := 14) rfl) (wK hw (i := 17) rfl) (wK hw (i := 15) rfl) (wK hw (i := 16) rfl) eh2 V_r V_r (us := []) (sp := (1 : Int32)) (dp := (2 : Int32)) (nn := (0 : Int32)) (Or.inl ⟨rfl, rfl⟩) (by decide) (by decide) (by decide) (by decide) (by decide) rfl (by show Int32.toNatClampNeg (2 : Int32) + Int32.toNatClampNeg (0 : Int32) ≤ 3; decide) N2 g_r (g := (mkF m 83 #[rv ad, iv 3, rv res, iv 1, iv xi, iv 1, iv 1] [(.int (0 : Int32)), (.int (2 : Int32)), (.ref res), (.int (1 : Int32)), (.ref res)])) rfl (by rw [hml]; rfl) rfl (hb hby dH_83) (by decide) (W := 0) (Nat.le_of_eq rfl) (by decide)
    have V3 : Arv Z h3 res kr .int (3 : Int32) [(.int r0), (.int (0 : Int32)), (.int (0 : Int32))] (.int (0 : Int32)) := Vc3
    obtain ⟨cl4, Ar4, q4, S4, P4, Ha4, G4⟩ := V3
    have hin4 : ¬ ((1 : Int32) < 0 ∨ cl4.slots.size ≤ ((1 : Int32)).toNatClampNeg) := inb_of S4 ⟨by decide, by decide⟩
    obtain ⟨T5, h5, X5, e5, W5, st5⟩ := stI X3 hx hZ e3 Ar4 (j := (1 : Int32)) hin4 (g := (mkF m 91 #[rv ad, iv 3, rv res, iv 1, iv xi, iv 1, iv 1] [(.int xi), (.int (1 : Int32)), (.ref res)])) rfl rfl (hb hby dH_91)
    have V5 : Arv Z h5 res kr .int (3 : Int32) [(.int r0), (.int xi), (.int (0 : Int32))] (.int (0 : Int32)) := Arv.set Ar4 q4 S4 P4 Ha4 G4 rfl W5 1 rfl (Nat.le_of_ble_eq_true rfl)
    have N5 := Fr.snoc X5 N3 g_r
    refine ⟨T5, h5, _, (1 : Int32), (1 : Int32), r0, xi, v0, xd, X5, e5, N5, (((Keep.refl h0 [res]).trans K3 (allS (Or.inl (List.mem_of_getElem? (i := 0) rfl)) all0)).wr W5 (Or.inl (List.mem_of_getElem? (i := 0) rfl))), V5, (by simp [own_ins, own_insR, hc44]), b_r0, e_r0, b_xi, e_xi, fun target kt => ?_⟩
    show sS p e below T0 m 14 #[rv ad, iv 3, rv res, iv 1, iv xi, iv x5, iv x6] [] _
    refine XS.iload X0.here hx rfl (hb hby dH_14) rfl ?_
    refine XS.aloadN X0.here hx rfl (hb hby dH_16) rfl rfl ?_
    refine own_len X0 hx hZ e0 V_d rfl rfl (hb hby dH_17) ?_
    refine XS.icmpNo X0.here hx rfl (hb hby dH_18) rfl hi18 ?_
    refine XS.iloadN X0.here hx rfl (hb hby dH_21) rfl ?_
    refine XS.istore X0.here hx rfl (hb hby dH_22) rfl (l' := #[rv ad, iv 3, rv res, iv 1, iv xi, iv 1, iv x6]) rfl ?_
    show sS p e below T0 m 24 #[rv ad, iv 3, rv res, iv 1, iv xi, iv 1, iv x6] [] _
    refine XS.iload X0.here hx rfl (hb hby dH_24) rfl ?_
    refine XS.ifNo X0.here hx rfl (hb hby dH_26) rfl (by decide) ?_
    refine XS.aloadN X0.here hx rfl (hb hby dH_29) rfl rfl ?_
    refine XS.iload X0.here hx rfl (hb hby dH_30) rfl ?_
    refine own_ldD X0 hx hZ e0 V_d b_xi (v := (FP.i2d xd)) e_xi rfl rfl (hb hby dH_32) ?_
    refine XS.aloadN X0.here hx rfl (hb hby dH_33) rfl rfl ?_
    show sS p e below T0 m 34 #[rv ad, iv 3, rv res, iv 1, iv xi, iv 1, iv x6] [(.ref ad), (.double (FP.i2d xd))] _
    refine XS.aloadN X0.here hx rfl (hb hby dH_34) rfl rfl ?_
    refine XS.iload X0.here hx rfl (hb hby dH_35) rfl ?_
    refine XS.iconst X0.here hx rfl (hb hby dH_37) ?_
    refine XS.isub X0.here hx rfl (hb hby dH_38) rfl ?_
    refine own_ldI X0 hx hZ e0 V_r ⟨by decide, by decide⟩ (v := r0) rfl rfl rfl (hb hby dH_39) ?_
    refine own_ldD X0 hx hZ e0 V_d b_r0 (v := (FP.i2d v0)) e_r0 rfl rfl (hb hby dH_40) ?_
    show sS p e below T0 m 41 #[rv ad, iv 3, rv res, iv 1, iv xi, iv 1, iv x6] [(.double (FP.i2d v0)), (.double (FP.i2d xd))] _
    refine st1 _ ?_
    show sS p e below T1 m 44 #[rv ad, iv 3, rv res, iv 1, iv xi, iv 1, iv x6] [(.int (own_dc xd v0))] _
    refine XS.ifYes X1.here hx rfl (pc0 := 44) (pc' := 53) rfl (hb hby dH_44) rfl hc44 (by decide) (by decide) ?_
    refine XS.iload X1.here hx rfl (hb hby dH_53) rfl ?_
    refine XS.aloadN X1.here hx rfl (hb hby dH_55) rfl rfl ?_
    refine own_len X1 hx hZ eh1 V_r rfl rfl (hb hby dH_56) ?_
    refine XS.icmpNo X1.here hx rfl (hb hby dH_57) rfl (by decide) ?_
    refine XS.iloadN X1.here hx rfl (hb hby dH_60) rfl ?_
    show sS p e below T1 m 61 #[rv ad, iv 3, rv res, iv 1, iv xi, iv 1, iv x6] [(.int (1 : Int32))] _
    refine XS.aloadN X1.here hx rfl (hb hby dH_61) rfl rfl ?_
    refine own_len X1 hx hZ eh1 V_r rfl rfl (hb hby dH_62) ?_
    refine XS.iconst X1.here hx rfl (hb hby dH_63) ?_
    refine XS.isub X1.here hx rfl (hb hby dH_64) rfl ?_
    show sS p e below T1 m 65 #[rv ad, iv 3, rv res, iv 1, iv xi, iv 1, iv x6] [(.int (2 : Int32)), (.int (1 : Int32))] _
    refine st2 _ ?_
    show sS p e below T2 m 68 #[rv ad, iv 3, rv res, iv 1, iv xi, iv 1, iv x6] [(.int (1 : Int32))] _
    refine XS.istore X2.here hx rfl (hb hby dH_68) rfl (l' := #[rv ad, iv 3, rv res, iv 1, iv xi, iv 1, iv 1]) rfl ?_
    refine XS.aloadN X2.here hx rfl (hb hby dH_70) rfl rfl ?_
    refine XS.iload X2.here hx rfl (hb hby dH_71) rfl ?_
    refine XS.aloadN X2.here hx rfl (hb hby dH_73) rfl rfl ?_
    refine XS.iload X2.here hx rfl (hb hby dH_74) rfl ?_
    refine XS.iconst X2.here hx rfl (hb hby dH_76) ?_
    show sS p e below T2 m 77 #[rv ad, iv 3, rv res, iv 1, iv xi, iv 1, iv 1] [(.int (1 : Int32)), (.int (1 : Int32)), (.ref res), (.int (1 : Int32)), (.ref res)] _
    refine XS.iadd X2.here hx rfl (hb hby dH_77) rfl ?_
    refine XS.iload X2.here hx rfl (hb hby dH_78) rfl ?_
    refine XS.iload X2.here hx rfl (hb hby dH_80) rfl ?_
    refine XS.isub X2.here hx rfl (hb hby dH_82) rfl ?_
    show sS p e below T2 m 83 #[rv ad, iv 3, rv res, iv 1, iv xi, iv 1, iv 1] [(.int (0 : Int32)), (.int (2 : Int32)), (.ref res), (.int (1 : Int32)), (.ref res)] _
    refine st3 _ ?_
    show sS p e below T3 m 86 #[rv ad, iv 3, rv res, iv 1, iv xi, iv 1, iv 1] [] _
    refine XS.aloadN X3.here hx rfl (hb hby dH_86) rfl rfl ?_
    refine XS.iload X3.here hx rfl (hb hby dH_87) rfl ?_
    refine XS.iload X3.here hx rfl (hb hby dH_89) rfl ?_
    show sS p e below T3 m 91 #[rv ad, iv 3, rv res, iv 1, iv xi, iv 1, iv 1] [(.int xi), (.int (1 : Int32)), (.ref res)] _
    refine st5 _ ?_
    show sS p e below T5 m 92 #[rv ad, iv 3, rv res, iv 1, iv xi, iv 1, iv 1] [] _
    refine XS.iload X5.here hx rfl (hb hby dH_92) rfl ?_
    refine XS.iconst X5.here hx rfl (hb hby dH_94) ?_
    refine XS.iadd X5.here hx rfl (hb hby dH_95) rfl ?_
    refine XS.istoreN X5.here hx rfl (hb hby dH_96) rfl (l' := #[rv ad, iv 3, rv res, iv 2, iv xi, iv 1, iv 1]) rfl ?_
    refine XS.iinc X5.here hx rfl (hb hby dH_97) rfl (l' := #[rv ad, iv 3, rv res, iv 2, .val (.int (xi + (1 : Int32))), iv 1, iv 1]) rfl ?_
    refine XS.goto X5.here hx rfl (pc0 := 100) (pc' := 14) rfl (hb hby dH_100) (by decide) (by decide) ?_
    exact kt
  · obtain ⟨_, _, ⟨T6, L6, k6, n6⟩, -, X6, ⟨Lc6, hQ6, l6, y6, z6⟩, st6⟩ := Jvm.LawKit.callS X1 hx (y := ⟨"java/lang/Math", "min", "(II)I"⟩) hown (mvT hZ (wK hw (i := 10) rfl)) (mvT hZ (wK hw (i := 11) rfl)) (mvT hZ (wK hw (i := 12) rfl)) (mvT hZ (wK hw (i := 13) rfl)) (by decide) (backOf (W := 0) (rmmn_1_2 l Z a0 hw []  h0 n0 Z0) hZ (wK hw (i := 13) rfl) (wK hw (i := 12) rfl) (by decide) (by decide)) (g := (mkF m 65 #[rv ad, iv 3, rv res, iv 1, iv xi, iv 0, iv x6] [(.int (2 : Int32)), (.int (1 : Int32))])) rfl (by rw [hml]; rfl) (argsL := [(.int (1 : Int32)), (.int (2 : Int32))]) (rest := []) (lenOf pd_4 rfl) rfl (Nat.le_of_eq rfl) (hb hby dH_65) (fun _ _ => ⟨rfl, eh1, (by decide : 1 + 0 ≤ _), (by decide : 3 + 0 ≤ _)⟩)
    dsimp only [Pt.U, Pt.locs, Pt.cells, Pt.slots] at X6 l6 y6 z6 st6 hQ6
    subst l6 y6 z6
    obtain ⟨rfl, N6q, eh6⟩ := hQ6
    have N6 := Fr.app N1 N6q
    obtain ⟨T7, h7, L7, X7, e7, N7, K7, Vc7, st7⟩ := cpA X6 hx hZ hown (wK hw (i := 14) rfl) (wK hw (i := 17) rfl) (wK hw (i := 15) rfl) (wK hw (i := 16) rfl) eh6 V_r V_r (us := [(.int r0)]) (sp := (0 : Int32)) (dp := (1 : Int32)) (nn := (1 : Int32)) (Or.inl ⟨rfl, rfl⟩) (by decide) (by decide) (by decide) (by decide) (by decide) rfl (by show Int32.toNatClampNeg (1 : Int32) + Int32.toNatClampNeg (1 : Int32) ≤ 3; decide) N6 g_r (g := (mkF m 83 #[rv ad, iv 3, rv res, iv 1, iv xi, iv 0, iv 1] [(.int (1 : Int32)), (.int (1 : Int32)), (.ref res), (.int (0 : Int32)), (.ref res)])) rfl (by rw [hml]; rfl) rfl (hb hby dH_83) (by decide) (W := 0) (Nat.le_of_eq rfl) (by decide)
    have V7 : Arv Z h7 res kr .int (3 : Int32) [(.int r0), (.int r0), (.int (0 : Int32))] (.int (0 : Int32)) := Vc7
    obtain ⟨cl8, Ar8, q8, S8, P8, Ha8, G8⟩ := V7
    have hin8 : ¬ ((0 : Int32) < 0 ∨ cl8.slots.size ≤ ((0 : Int32)).toNatClampNeg) := inb_of S8 ⟨by decide, by decide⟩
    obtain ⟨T9, h9, X9, e9, W9, st9⟩ := stI X7 hx hZ e7 Ar8 (j := (0 : Int32)) hin8 (g := (mkF m 91 #[rv ad, iv 3, rv res, iv 1, iv xi, iv 0, iv 1] [(.int xi), (.int (0 : Int32)), (.ref res)])) rfl rfl (hb hby dH_91)
    have V9 : Arv Z h9 res kr .int (3 : Int32) [(.int xi), (.int r0), (.int (0 : Int32))] (.int (0 : Int32)) := Arv.set Ar8 q8 S8 P8 Ha8 G8 rfl W9 0 rfl (Nat.le_of_ble_eq_true rfl)
    have N9 := Fr.snoc X9 N7 g_r
    refine ⟨T9, h9, _, (0 : Int32), (1 : Int32), xi, r0, xd, v0, X9, e9, N9, (((Keep.refl h0 [res]).trans K7 (allS (Or.inl (List.mem_of_getElem? (i := 0) rfl)) all0)).wr W9 (Or.inl (List.mem_of_getElem? (i := 0) rfl))), V9, (by simp [own_ins, own_insR, hc44]), b_xi, e_xi, b_r0, e_r0, fun target kt => ?_⟩
    show sS p e below T0 m 14 #[rv ad, iv 3, rv res, iv 1, iv xi, iv x5, iv x6] [] _
    refine XS.iload X0.here hx rfl (hb hby dH_14) rfl ?_
    refine XS.aloadN X0.here hx rfl (hb hby dH_16) rfl rfl ?_
    refine own_len X0 hx hZ e0 V_d rfl rfl (hb hby dH_17) ?_
    refine XS.icmpNo X0.here hx rfl (hb hby dH_18) rfl hi18 ?_
    refine XS.iloadN X0.here hx rfl (hb hby dH_21) rfl ?_
    refine XS.istore X0.here hx rfl (hb hby dH_22) rfl (l' := #[rv ad, iv 3, rv res, iv 1, iv xi, iv 1, iv x6]) rfl ?_
    show sS p e below T0 m 24 #[rv ad, iv 3, rv res, iv 1, iv xi, iv 1, iv x6] [] _
    refine XS.iload X0.here hx rfl (hb hby dH_24) rfl ?_
    refine XS.ifNo X0.here hx rfl (hb hby dH_26) rfl (by decide) ?_
    refine XS.aloadN X0.here hx rfl (hb hby dH_29) rfl rfl ?_
    refine XS.iload X0.here hx rfl (hb hby dH_30) rfl ?_
    refine own_ldD X0 hx hZ e0 V_d b_xi (v := (FP.i2d xd)) e_xi rfl rfl (hb hby dH_32) ?_
    refine XS.aloadN X0.here hx rfl (hb hby dH_33) rfl rfl ?_
    show sS p e below T0 m 34 #[rv ad, iv 3, rv res, iv 1, iv xi, iv 1, iv x6] [(.ref ad), (.double (FP.i2d xd))] _
    refine XS.aloadN X0.here hx rfl (hb hby dH_34) rfl rfl ?_
    refine XS.iload X0.here hx rfl (hb hby dH_35) rfl ?_
    refine XS.iconst X0.here hx rfl (hb hby dH_37) ?_
    refine XS.isub X0.here hx rfl (hb hby dH_38) rfl ?_
    refine own_ldI X0 hx hZ e0 V_r ⟨by decide, by decide⟩ (v := r0) rfl rfl rfl (hb hby dH_39) ?_
    refine own_ldD X0 hx hZ e0 V_d b_r0 (v := (FP.i2d v0)) e_r0 rfl rfl (hb hby dH_40) ?_
    show sS p e below T0 m 41 #[rv ad, iv 3, rv res, iv 1, iv xi, iv 1, iv x6] [(.double (FP.i2d v0)), (.double (FP.i2d xd))] _
    refine st1 _ ?_
    show sS p e below T1 m 44 #[rv ad, iv 3, rv res, iv 1, iv xi, iv 1, iv x6] [(.int (own_dc xd v0))] _
    refine XS.ifNo X1.here hx rfl (hb hby dH_44) rfl hc44 ?_
    refine XS.iinc X1.here hx rfl (hb hby dH_47) rfl (l' := #[rv ad, iv 3, rv res, iv 1, iv xi, iv 0, iv x6]) rfl ?_
    refine XS.goto X1.here hx rfl (pc0 := 50) (pc' := 24) rfl (hb hby dH_50) (by decide) (by decide) ?_
    refine XS.iload X1.here hx rfl (hb hby dH_24) rfl ?_
    refine XS.ifYes X1.here hx rfl (pc0 := 26) (pc' := 53) rfl (hb hby dH_26) rfl (by decide) (by decide) (by decide) ?_
    refine XS.iload X1.here hx rfl (hb hby dH_53) rfl ?_
    show sS p e below T1 m 55 #[rv ad, iv 3, rv res, iv 1, iv xi, iv 0, iv x6] [(.int (0 : Int32))] _
    refine XS.aloadN X1.here hx rfl (hb hby dH_55) rfl rfl ?_
    refine own_len X1 hx hZ eh1 V_r rfl rfl (hb hby dH_56) ?_
    refine XS.icmpNo X1.here hx rfl (hb hby dH_57) rfl (by decide) ?_
    refine XS.iloadN X1.here hx rfl (hb hby dH_60) rfl ?_
    refine XS.aloadN X1.here hx rfl (hb hby dH_61) rfl rfl ?_
    refine own_len X1 hx hZ eh1 V_r rfl rfl (hb hby dH_62) ?_
    show sS p e below T1 m 63 #[rv ad, iv 3, rv res, iv 1, iv xi, iv 0, iv x6] [(.int (3 : Int32)), (.int (1 : Int32))] _
    refine XS.iconst X1.here hx rfl (hb hby dH_63) ?_
    refine XS.isub X1.here hx rfl (hb hby dH_64) rfl ?_
    show sS p e below T1 m 65 #[rv ad, iv 3, rv res, iv 1, iv xi, iv 0, iv x6] [(.int (2 : Int32)), (.int (1 : Int32))] _
    refine st6 _ ?_
    show sS p e below T6 m 68 #[rv ad, iv 3, rv res, iv 1, iv xi, iv 0, iv x6] [(.int (1 : Int32))] _
    refine XS.istore X6.here hx rfl (hb hby dH_68) rfl (l' := #[rv ad, iv 3, rv res, iv 1, iv xi, iv 0, iv 1]) rfl ?_
    refine XS.aloadN X6.here hx rfl (hb hby dH_70) rfl rfl ?_
    refine XS.iload X6.here hx rfl (hb hby dH_71) rfl ?_
    refine XS.aloadN X6.here hx rfl (hb hby dH_73) rfl rfl ?_
    refine XS.iload X6.here hx rfl (hb hby dH_74) rfl ?_
    refine XS.iconst X6.here hx rfl (hb hby dH_76) ?_
    show sS p e below T6 m 77 #[rv ad, iv 3, rv res, iv 1, iv xi, iv 0, iv 1] [(.int (1 : Int32)), (.int (0 : Int32)), (.ref res), (.int (0 : Int32)), (.ref res)] _
    refine XS.iadd X6.here hx rfl (hb hby dH_77) rfl ?_
    refine XS.iload X6.here hx rfl (hb hby dH_78) rfl ?_
    refine XS.iload X6.here hx rfl (hb hby dH_80) rfl ?_
    refine XS.isub X6.here hx rfl (hb hby dH_82) rfl ?_
    show sS p e below T6 m 83 #[rv ad, iv 3, rv res, iv 1, iv xi, iv 0, iv 1] [(.int (1 : Int32)), (.int (1 : Int32)), (.ref res), (.int (0 : Int32)), (.ref res)] _
    refine st7 _ ?_
    show sS p e below T7 m 86 #[rv ad, iv 3, rv res, iv 1, iv xi, iv 0, iv 1] [] _
    refine XS.aloadN X7.here hx rfl (hb hby dH_86) rfl rfl ?_
    refine XS.iload X7.here hx rfl (hb hby dH_87) rfl ?_
    refine XS.iload X7.here hx rfl (hb hby dH_89) rfl ?_
    show sS p e below T7 m 91 #[rv ad, iv 3, rv res, iv 1, iv xi, iv 0, iv 1] [(.int xi), (.int (0 : Int32)), (.ref res)] _
    refine st9 _ ?_
    show sS p e below T9 m 92 #[rv ad, iv 3, rv res, iv 1, iv xi, iv 0, iv 1] [] _
    refine XS.iload X9.here hx rfl (hb hby dH_92) rfl ?_
    refine XS.iconst X9.here hx rfl (hb hby dH_94) ?_
    refine XS.iadd X9.here hx rfl (hb hby dH_95) rfl ?_
    refine XS.istoreN X9.here hx rfl (hb hby dH_96) rfl (l' := #[rv ad, iv 3, rv res, iv 2, iv xi, iv 0, iv 1]) rfl ?_
    refine XS.iinc X9.here hx rfl (hb hby dH_97) rfl (l' := #[rv ad, iv 3, rv res, iv 2, .val (.int (xi + (1 : Int32))), iv 0, iv 1]) rfl ?_
    refine XS.goto X9.here hx rfl (pc0 := 100) (pc' := 14) rfl (hb hby dH_100) (by decide) (by decide) ?_
    exact kt
set_option maxRecDepth 65536 in
set_option maxHeartbeats 40000000 in
theorem tn_3_2 {p : Program} {l : Launch} {e : Env} {s : State} {m : MethodId} {args : Array Value} {below : List Frame} {meth : Method} {c : Code} {T0 : State} {locs : List Loc}  {Z : State} {a0 : Array Value} {h0 : Heap} {n0 : Nat} {ad res : Addr} {kd kr : ClassId} {nn xi xd : Int32} {vd : List Value} {r0 r1 v0 v1 x5 x6 : Int32} (X0 : Stand p l e ({ frames := 3, cells := 1, slots := 3, locals := 64 } : Room) s m args below meth c T0 locs 1 3) (hx : p.tables.exec = Jvm.exec) (hZ : Z.Warmed39 s.vm) (hw : ∀ d ∈ tables_1, d.before a0 Z = true) (hby : c.code = prog_5_method_4_code) (hml : c.maxLocals = 7) (hown : s.vm.findClass cN1 = some m.cls) (e0 : T0.heap = h0) (Z0 : n0 ≤ h0.size) (N0 : Fr n0 locs) (V_d : Arv Z h0 ad kd .double nn vd (.double (0 : UInt64))) (V_r : Arv Z h0 res kr .int (3 : Int32) [(.int r0), (.int r1), (.int (0 : Int32))] (.int (0 : Int32))) (hne : ad ≠ res) (g_r : n0 ≤ res) (hi18 : if_icmp.holds .ge xi nn = false) (b_xi : (¬ xi < 0 ∧ xi < nn)) (e_xi : vd.getD xi.toNatClampNeg (.double (0 : UInt64)) = .double (FP.i2d xd)) (b_r0 : (¬ r0 < 0 ∧ r0 < nn)) (e_r0 : vd.getD r0.toNatClampNeg (.double (0 : UInt64)) = .double (FP.i2d v0)) (b_r1 : (¬ r1 < 0 ∧ r1 < nn)) (e_r1 : vd.getD r1.toNatClampNeg (.double (0 : UInt64)) = .double (FP.i2d v1)) :
    ∃ (T' : State) (h' : Heap) (L' : List Loc) (y5 y6 z0 z1 z2 w0 w1 w2 : Int32), Stand p l e ({ frames := 3, cells := 1, slots := 3, locals := 64 } : Room) s m args below meth c T' L' 1 3 ∧ T'.heap = h' ∧ Fr n0 L' ∧ Keep h0 h' [res] ∧ Arv Z h' res kr .int (3 : Int32) [(.int z0), (.int z1), (.int z2)] (.int (0 : Int32)) ∧ [(z0, w0), (z1, w1), (z2, w2)] = own_ins 3 (xi, xd) [(r0, v0), (r1, v1)] ∧ (¬ z0 < 0 ∧ z0 < nn) ∧ vd.getD z0.toNatClampNeg (.double (0 : UInt64)) = .double (FP.i2d w0) ∧ (¬ z1 < 0 ∧ z1 < nn) ∧ vd.getD z1.toNatClampNeg (.double (0 : UInt64)) = .double (FP.i2d w1) ∧ (¬ z2 < 0 ∧ z2 < nn) ∧ vd.getD z2.toNatClampNeg (.double (0 : UInt64)) = .double (FP.i2d w2) ∧ ∀ target, Steps p.tables e below (T'.setTop (mkF m 14 #[rv ad, iv 3, rv res, iv 3, .val (.int (xi + (1 : Int32))), iv y5, iv y6] [])) target → Steps p.tables e below (T0.setTop (mkF m 14 #[rv ad, iv 3, rv res, iv 2, iv xi, iv x5, iv x6] [])) target := by
  obtain ⟨_, _, ⟨T1, L1, k1, n1⟩, -, X1, ⟨Lc1, hQ1, l1, y1, z1⟩, st1⟩ := Jvm.LawKit.callS X0 hx (y := ⟨"java/lang/Double", "compare", "(DD)I"⟩) hown (mvT hZ (wK hw (i := 18) rfl)) (mvT hZ (wK hw (i := 19) rfl)) (mvT hZ (wK hw (i := 20) rfl)) (mvT hZ (wK hw (i := 21) rfl)) (by decide) (backOf (W := 0) (rmdc l Z a0 hw [] xd v1 h0 n0 Z0) hZ (wK hw (i := 21) rfl) (wK hw (i := 20) rfl) (by decide) (by decide)) (g := (mkF m 41 #[rv ad, iv 3, rv res, iv 2, iv xi, iv 2, iv x6] [(.double (FP.i2d v1)), (.double (FP.i2d xd))])) rfl (by rw [hml]; rfl) (argsL := [(.double (FP.i2d xd)), (.double (FP.i2d v1))]) (rest := []) (lenOf pd_5 rfl) rfl (Nat.le_of_eq rfl) (hb hby dH_41) (fun _ _ => ⟨rfl, e0, (by decide : 1 + 0 ≤ _), (by decide : 3 + 0 ≤ _)⟩)
  dsimp only [Pt.U, Pt.locs, Pt.cells, Pt.slots] at X1 l1 y1 z1 st1 hQ1
  subst l1 y1 z1
  obtain ⟨rfl, N1q, eh1⟩ := hQ1
  have N1 := Fr.app N0 N1q
  rcases Bool.eq_false_or_eq_true (ifCond.holds .ge (own_dc xd v1)) with hc44 | hc44
  · obtain ⟨_, _, ⟨T2, L2, k2, n2⟩, -, X2, ⟨Lc2, hQ2, l2, y2, z2⟩, st2⟩ := Jvm.LawKit.callS X1 hx (y := ⟨"java/lang/Math", "min", "(II)I"⟩) hown (mvT hZ (wK hw (i := 10) rfl)) (mvT hZ (wK hw (i := 11) rfl)) (mvT hZ (wK hw (i := 12) rfl)) (mvT hZ (wK hw (i := 13) rfl)) (by decide) (backOf (W := 0) (rmmn_2_2 l Z a0 hw []  h0 n0 Z0) hZ (wK hw (i := 13) rfl) (wK hw (i := 12) rfl) (by decide) (by decide)) (g := (mkF m 65 #[rv ad, iv 3, rv res, iv 2, iv xi, iv 2, iv x6] [(.int (2 : Int32)), (.int (2 : Int32))])) rfl (by rw [hml]; rfl) (argsL := [(.int (2 : Int32)), (.int (2 : Int32))]) (rest := []) (lenOf pd_4 rfl) rfl (Nat.le_of_eq rfl) (hb hby dH_65) (fun _ _ => ⟨rfl, eh1, (by decide : 1 + 0 ≤ _), (by decide : 3 + 0 ≤ _)⟩)
    dsimp only [Pt.U, Pt.locs, Pt.cells, Pt.slots] at X2 l2 y2 z2 st2 hQ2
    subst l2 y2 z2
    obtain ⟨rfl, N2q, eh2⟩ := hQ2
    have N2 := Fr.app N1 N2q
    obtain ⟨T3, h3, L3, X3, e3, N3, K3, Vc3, st3⟩ := cpA X2 hx hZ hown (wK hw (i := 14) rfl) (wK hw (i := 17) rfl) (wK hw (i := 15) rfl) (wK hw (i := 16) rfl) eh2 V_r V_r (us := []) (sp := (2 : Int32)) (dp := (3 : Int32)) (nn := (0 : Int32)) (Or.inl ⟨rfl, rfl⟩) (by decide) (by decide) (by decide) (by decide) (by decide) rfl (by show Int32.toNatClampNeg (3 : Int32) + Int32.toNatClampNeg (0 : Int32) ≤ 3; decide) N2 g_r (g := (mkF m 83 #[rv ad, iv 3, rv res, iv 2, iv xi, iv 2, iv 2] [(.int (0 : Int32)), (.int (3 : Int32)), (.ref res), (.int (2 : Int32)), (.ref res)])) rfl (by rw [hml]; rfl) rfl (hb hby dH_83) (by decide) (W := 0) (Nat.le_of_eq rfl) (by decide)
    have V3 : Arv Z h3 res kr .int (3 : Int32) [(.int r0), (.int r1), (.int (0 : Int32))] (.int (0 : Int32)) := Vc3
    obtain ⟨cl4, Ar4, q4, S4, P4, Ha4, G4⟩ := V3
    have hin4 : ¬ ((2 : Int32) < 0 ∨ cl4.slots.size ≤ ((2 : Int32)).toNatClampNeg) := inb_of S4 ⟨by decide, by decide⟩
    obtain ⟨T5, h5, X5, e5, W5, st5⟩ := stI X3 hx hZ e3 Ar4 (j := (2 : Int32)) hin4 (g := (mkF m 91 #[rv ad, iv 3, rv res, iv 2, iv xi, iv 2, iv 2] [(.int xi), (.int (2 : Int32)), (.ref res)])) rfl rfl (hb hby dH_91)
    have V5 : Arv Z h5 res kr .int (3 : Int32) [(.int r0), (.int r1), (.int xi)] (.int (0 : Int32)) := Arv.set Ar4 q4 S4 P4 Ha4 G4 rfl W5 2 rfl (Nat.le_of_ble_eq_true rfl)
    have N5 := Fr.snoc X5 N3 g_r
    refine ⟨T5, h5, _, (2 : Int32), (2 : Int32), r0, r1, xi, v0, v1, xd, X5, e5, N5, (((Keep.refl h0 [res]).trans K3 (allS (Or.inl (List.mem_of_getElem? (i := 0) rfl)) all0)).wr W5 (Or.inl (List.mem_of_getElem? (i := 0) rfl))), V5, (by simp [own_ins, own_insR, hc44]), b_r0, e_r0, b_r1, e_r1, b_xi, e_xi, fun target kt => ?_⟩
    show sS p e below T0 m 14 #[rv ad, iv 3, rv res, iv 2, iv xi, iv x5, iv x6] [] _
    refine XS.iload X0.here hx rfl (hb hby dH_14) rfl ?_
    refine XS.aloadN X0.here hx rfl (hb hby dH_16) rfl rfl ?_
    refine own_len X0 hx hZ e0 V_d rfl rfl (hb hby dH_17) ?_
    refine XS.icmpNo X0.here hx rfl (hb hby dH_18) rfl hi18 ?_
    refine XS.iloadN X0.here hx rfl (hb hby dH_21) rfl ?_
    refine XS.istore X0.here hx rfl (hb hby dH_22) rfl (l' := #[rv ad, iv 3, rv res, iv 2, iv xi, iv 2, iv x6]) rfl ?_
    show sS p e below T0 m 24 #[rv ad, iv 3, rv res, iv 2, iv xi, iv 2, iv x6] [] _
    refine XS.iload X0.here hx rfl (hb hby dH_24) rfl ?_
    refine XS.ifNo X0.here hx rfl (hb hby dH_26) rfl (by decide) ?_
    refine XS.aloadN X0.here hx rfl (hb hby dH_29) rfl rfl ?_
    refine XS.iload X0.here hx rfl (hb hby dH_30) rfl ?_
    refine own_ldD X0 hx hZ e0 V_d b_xi (v := (FP.i2d xd)) e_xi rfl rfl (hb hby dH_32) ?_
    refine XS.aloadN X0.here hx rfl (hb hby dH_33) rfl rfl ?_
    show sS p e below T0 m 34 #[rv ad, iv 3, rv res, iv 2, iv xi, iv 2, iv x6] [(.ref ad), (.double (FP.i2d xd))] _
    refine XS.aloadN X0.here hx rfl (hb hby dH_34) rfl rfl ?_
    refine XS.iload X0.here hx rfl (hb hby dH_35) rfl ?_
    refine XS.iconst X0.here hx rfl (hb hby dH_37) ?_
    refine XS.isub X0.here hx rfl (hb hby dH_38) rfl ?_
    refine own_ldI X0 hx hZ e0 V_r ⟨by decide, by decide⟩ (v := r1) rfl rfl rfl (hb hby dH_39) ?_
    refine own_ldD X0 hx hZ e0 V_d b_r1 (v := (FP.i2d v1)) e_r1 rfl rfl (hb hby dH_40) ?_
    show sS p e below T0 m 41 #[rv ad, iv 3, rv res, iv 2, iv xi, iv 2, iv x6] [(.double (FP.i2d v1)), (.double (FP.i2d xd))] _
    refine st1 _ ?_
    show sS p e below T1 m 44 #[rv ad, iv 3, rv res, iv 2, iv xi, iv 2, iv x6] [(.int (own_dc xd v1))] _
    refine XS.ifYes X1.here hx rfl (pc0 := 44) (pc' := 53) rfl (hb hby dH_44) rfl hc44 (by decide) (by decide) ?_
    refine XS.iload X1.here hx rfl (hb hby dH_53) rfl ?_
    refine XS.aloadN X1.here hx rfl (hb hby dH_55) rfl rfl ?_
    refine own_len X1 hx hZ eh1 V_r rfl rfl (hb hby dH_56) ?_
    refine XS.icmpNo X1.here hx rfl (hb hby dH_57) rfl (by decide) ?_
    refine XS.iloadN X1.here hx rfl (hb hby dH_60) rfl ?_
    show sS p e below T1 m 61 #[rv ad, iv 3, rv res, iv 2, iv xi, iv 2, iv x6] [(.int (2 : Int32))] _
    refine XS.aloadN X1.here hx rfl (hb hby dH_61) rfl rfl ?_
    refine own_len X1 hx hZ eh1 V_r rfl rfl (hb hby dH_62) ?_
    refine XS.iconst X1.here hx rfl (hb hby dH_63) ?_
    refine XS.isub X1.here hx rfl (hb hby dH_64) rfl ?_
    show sS p e below T1 m 65 #[rv ad, iv 3, rv res, iv 2, iv xi, iv 2, iv x6] [(.int (2 : Int32)), (.int (2 : Int32))] _
    refine st2 _ ?_
    show sS p e below T2 m 68 #[rv ad, iv 3, rv res, iv 2, iv xi, iv 2, iv x6] [(.int (2 : Int32))] _
    refine XS.istore X2.here hx rfl (hb hby dH_68) rfl (l' := #[rv ad, iv 3, rv res, iv 2, iv xi, iv 2, iv 2]) rfl ?_
    refine XS.aloadN X2.here hx rfl (hb hby dH_70) rfl rfl ?_
    refine XS.iload X2.here hx rfl (hb hby dH_71) rfl ?_
    refine XS.aloadN X2.here hx rfl (hb hby dH_73) rfl rfl ?_
    refine XS.iload X2.here hx rfl (hb hby dH_74) rfl ?_
    refine XS.iconst X2.here hx rfl (hb hby dH_76) ?_
    show sS p e below T2 m 77 #[rv ad, iv 3, rv res, iv 2, iv xi, iv 2, iv 2] [(.int (1 : Int32)), (.int (2 : Int32)), (.ref res), (.int (2 : Int32)), (.ref res)] _
    refine XS.iadd X2.here hx rfl (hb hby dH_77) rfl ?_
    refine XS.iload X2.here hx rfl (hb hby dH_78) rfl ?_
    refine XS.iload X2.here hx rfl (hb hby dH_80) rfl ?_
    refine XS.isub X2.here hx rfl (hb hby dH_82) rfl ?_
    show sS p e below T2 m 83 #[rv ad, iv 3, rv res, iv 2, iv xi, iv 2, iv 2] [(.int (0 : Int32)), (.int (3 : Int32)), (.ref res), (.int (2 : Int32)), (.ref res)] _
    refine st3 _ ?_
    show sS p e below T3 m 86 #[rv ad, iv 3, rv res, iv 2, iv xi, iv 2, iv 2] [] _
    refine XS.aloadN X3.here hx rfl (hb hby dH_86) rfl rfl ?_
    refine XS.iload X3.here hx rfl (hb hby dH_87) rfl ?_
    refine XS.iload X3.here hx rfl (hb hby dH_89) rfl ?_
    show sS p e below T3 m 91 #[rv ad, iv 3, rv res, iv 2, iv xi, iv 2, iv 2] [(.int xi), (.int (2 : Int32)), (.ref res)] _
    refine st5 _ ?_
    show sS p e below T5 m 92 #[rv ad, iv 3, rv res, iv 2, iv xi, iv 2, iv 2] [] _
    refine XS.iload X5.here hx rfl (hb hby dH_92) rfl ?_
    refine XS.iconst X5.here hx rfl (hb hby dH_94) ?_
    refine XS.iadd X5.here hx rfl (hb hby dH_95) rfl ?_
    refine XS.istoreN X5.here hx rfl (hb hby dH_96) rfl (l' := #[rv ad, iv 3, rv res, iv 3, iv xi, iv 2, iv 2]) rfl ?_
    refine XS.iinc X5.here hx rfl (hb hby dH_97) rfl (l' := #[rv ad, iv 3, rv res, iv 3, .val (.int (xi + (1 : Int32))), iv 2, iv 2]) rfl ?_
    refine XS.goto X5.here hx rfl (pc0 := 100) (pc' := 14) rfl (hb hby dH_100) (by decide) (by decide) ?_
    exact kt
  · obtain ⟨_, _, ⟨T6, L6, k6, n6⟩, -, X6, ⟨Lc6, hQ6, l6, y6, z6⟩, st6⟩ := Jvm.LawKit.callS X1 hx (y := ⟨"java/lang/Double", "compare", "(DD)I"⟩) hown (mvT hZ (wK hw (i := 18) rfl)) (mvT hZ (wK hw (i := 19) rfl)) (mvT hZ (wK hw (i := 20) rfl)) (mvT hZ (wK hw (i := 21) rfl)) (by decide) (backOf (W := 0) (rmdc l Z a0 hw [] xd v0 h0 n0 Z0) hZ (wK hw (i := 21) rfl) (wK hw (i := 20) rfl) (by decide) (by decide)) (g := (mkF m 41 #[rv ad, iv 3, rv res, iv 2, iv xi, iv 1, iv x6] [(.double (FP.i2d v0)), (.double (FP.i2d xd))])) rfl (by rw [hml]; rfl) (argsL := [(.double (FP.i2d xd)), (.double (FP.i2d v0))]) (rest := []) (lenOf pd_5 rfl) rfl (Nat.le_of_eq rfl) (hb hby dH_41) (fun _ _ => ⟨rfl, eh1, (by decide : 1 + 0 ≤ _), (by decide : 3 + 0 ≤ _)⟩)
    dsimp only [Pt.U, Pt.locs, Pt.cells, Pt.slots] at X6 l6 y6 z6 st6 hQ6
    subst l6 y6 z6
    obtain ⟨rfl, N6q, eh6⟩ := hQ6
    have N6 := Fr.app N1 N6q
    rcases Bool.eq_false_or_eq_true (ifCond.holds .ge (own_dc xd v0)) with hc44' | hc44'
    · obtain ⟨_, _, ⟨T7, L7, k7, n7⟩, -, X7, ⟨Lc7, hQ7, l7, y7, z7⟩, st7⟩ := Jvm.LawKit.callS X6 hx (y := ⟨"java/lang/Math", "min", "(II)I"⟩) hown (mvT hZ (wK hw (i := 10) rfl)) (mvT hZ (wK hw (i := 11) rfl)) (mvT hZ (wK hw (i := 12) rfl)) (mvT hZ (wK hw (i := 13) rfl)) (by decide) (backOf (W := 0) (rmmn_2_2 l Z a0 hw []  h0 n0 Z0) hZ (wK hw (i := 13) rfl) (wK hw (i := 12) rfl) (by decide) (by decide)) (g := (mkF m 65 #[rv ad, iv 3, rv res, iv 2, iv xi, iv 1, iv x6] [(.int (2 : Int32)), (.int (2 : Int32))])) rfl (by rw [hml]; rfl) (argsL := [(.int (2 : Int32)), (.int (2 : Int32))]) (rest := []) (lenOf pd_4 rfl) rfl (Nat.le_of_eq rfl) (hb hby dH_65) (fun _ _ => ⟨rfl, eh6, (by decide : 1 + 0 ≤ _), (by decide : 3 + 0 ≤ _)⟩)
      dsimp only [Pt.U, Pt.locs, Pt.cells, Pt.slots] at X7 l7 y7 z7 st7 hQ7
      subst l7 y7 z7
      obtain ⟨rfl, N7q, eh7⟩ := hQ7
      have N7 := Fr.app N6 N7q
      obtain ⟨T8, h8, L8, X8, e8, N8, K8, Vc8, st8⟩ := cpA X7 hx hZ hown (wK hw (i := 14) rfl) (wK hw (i := 17) rfl) (wK hw (i := 15) rfl) (wK hw (i := 16) rfl) eh7 V_r V_r (us := [(.int r1)]) (sp := (1 : Int32)) (dp := (2 : Int32)) (nn := (1 : Int32)) (Or.inl ⟨rfl, rfl⟩) (by decide) (by decide) (by decide) (by decide) (by decide) rfl (by show Int32.toNatClampNeg (2 : Int32) + Int32.toNatClampNeg (1 : Int32) ≤ 3; decide) N7 g_r (g := (mkF m 83 #[rv ad, iv 3, rv res, iv 2, iv xi, iv 1, iv 2] [(.int (1 : Int32)), (.int (2 : Int32)), (.ref res), (.int (1 : Int32)), (.ref res)])) rfl (by rw [hml]; rfl) rfl (hb hby dH_83) (by decide) (W := 0) (Nat.le_of_eq rfl) (by decide)
      have V8 : Arv Z h8 res kr .int (3 : Int32) [(.int r0), (.int r1), (.int r1)] (.int (0 : Int32)) := Vc8
      obtain ⟨cl9, Ar9, q9, S9, P9, Ha9, G9⟩ := V8
      have hin9 : ¬ ((1 : Int32) < 0 ∨ cl9.slots.size ≤ ((1 : Int32)).toNatClampNeg) := inb_of S9 ⟨by decide, by decide⟩
      obtain ⟨T10, h10, X10, e10, W10, st10⟩ := stI X8 hx hZ e8 Ar9 (j := (1 : Int32)) hin9 (g := (mkF m 91 #[rv ad, iv 3, rv res, iv 2, iv xi, iv 1, iv 2] [(.int xi), (.int (1 : Int32)), (.ref res)])) rfl rfl (hb hby dH_91)
      have V10 : Arv Z h10 res kr .int (3 : Int32) [(.int r0), (.int xi), (.int r1)] (.int (0 : Int32)) := Arv.set Ar9 q9 S9 P9 Ha9 G9 rfl W10 1 rfl (Nat.le_of_ble_eq_true rfl)
      have N10 := Fr.snoc X10 N8 g_r
      refine ⟨T10, h10, _, (1 : Int32), (2 : Int32), r0, xi, r1, v0, xd, v1, X10, e10, N10, (((Keep.refl h0 [res]).trans K8 (allS (Or.inl (List.mem_of_getElem? (i := 0) rfl)) all0)).wr W10 (Or.inl (List.mem_of_getElem? (i := 0) rfl))), V10, (by simp [own_ins, own_insR, hc44, hc44']), b_r0, e_r0, b_xi, e_xi, b_r1, e_r1, fun target kt => ?_⟩
      show sS p e below T0 m 14 #[rv ad, iv 3, rv res, iv 2, iv xi, iv x5, iv x6] [] _
      refine XS.iload X0.here hx rfl (hb hby dH_14) rfl ?_
      refine XS.aloadN X0.here hx rfl (hb hby dH_16) rfl rfl ?_
      refine own_len X0 hx hZ e0 V_d rfl rfl (hb hby dH_17) ?_
      refine XS.icmpNo X0.here hx rfl (hb hby dH_18) rfl hi18 ?_
      refine XS.iloadN X0.here hx rfl (hb hby dH_21) rfl ?_
      refine XS.istore X0.here hx rfl (hb hby dH_22) rfl (l' := #[rv ad, iv 3, rv res, iv 2, iv xi, iv 2, iv x6]) rfl ?_
      show sS p e below T0 m 24 #[rv ad, iv 3, rv res, iv 2, iv xi, iv 2, iv x6] [] _
      refine XS.iload X0.here hx rfl (hb hby dH_24) rfl ?_
      refine XS.ifNo X0.here hx rfl (hb hby dH_26) rfl (by decide) ?_
      refine XS.aloadN X0.here hx rfl (hb hby dH_29) rfl rfl ?_
      refine XS.iload X0.here hx rfl (hb hby dH_30) rfl ?_
      refine own_ldD X0 hx hZ e0 V_d b_xi (v := (FP.i2d xd)) e_xi rfl rfl (hb hby dH_32) ?_
      refine XS.aloadN X0.here hx rfl (hb hby dH_33) rfl rfl ?_
      show sS p e below T0 m 34 #[rv ad, iv 3, rv res, iv 2, iv xi, iv 2, iv x6] [(.ref ad), (.double (FP.i2d xd))] _
      refine XS.aloadN X0.here hx rfl (hb hby dH_34) rfl rfl ?_
      refine XS.iload X0.here hx rfl (hb hby dH_35) rfl ?_
      refine XS.iconst X0.here hx rfl (hb hby dH_37) ?_
      refine XS.isub X0.here hx rfl (hb hby dH_38) rfl ?_
      refine own_ldI X0 hx hZ e0 V_r ⟨by decide, by decide⟩ (v := r1) rfl rfl rfl (hb hby dH_39) ?_
      refine own_ldD X0 hx hZ e0 V_d b_r1 (v := (FP.i2d v1)) e_r1 rfl rfl (hb hby dH_40) ?_
      show sS p e below T0 m 41 #[rv ad, iv 3, rv res, iv 2, iv xi, iv 2, iv x6] [(.double (FP.i2d v1)), (.double (FP.i2d xd))] _
      refine st1 _ ?_
      show sS p e below T1 m 44 #[rv ad, iv 3, rv res, iv 2, iv xi, iv 2, iv x6] [(.int (own_dc xd v1))] _
      refine XS.ifNo X1.here hx rfl (hb hby dH_44) rfl hc44 ?_
      refine XS.iinc X1.here hx rfl (hb hby dH_47) rfl (l' := #[rv ad, iv 3, rv res, iv 2, iv xi, iv 1, iv x6]) rfl ?_
      refine XS.goto X1.here hx rfl (pc0 := 50) (pc' := 24) rfl (hb hby dH_50) (by decide) (by decide) ?_
      refine XS.iload X1.here hx rfl (hb hby dH_24) rfl ?_
      refine XS.ifNo X1.here hx rfl (hb hby dH_26) rfl (by decide) ?_
      refine XS.aloadN X1.here hx rfl (hb hby dH_29) rfl rfl ?_
      show sS p e below T1 m 30 #[rv ad, iv 3, rv res, iv 2, iv xi, iv 1, iv x6] [(.ref ad)] _
      refine XS.iload X1.here hx rfl (hb hby dH_30) rfl ?_
      refine own_ldD X1 hx hZ eh1 V_d b_xi (v := (FP.i2d xd)) e_xi rfl rfl (hb hby dH_32) ?_
      refine XS.aloadN X1.here hx rfl (hb hby dH_33) rfl rfl ?_
      refine XS.aloadN X1.here hx rfl (hb hby dH_34) rfl rfl ?_
      refine XS.iload X1.here hx rfl (hb hby dH_35) rfl ?_
      refine XS.iconst X1.here hx rfl (hb hby dH_37) ?_
      show sS p e below T1 m 38 #[rv ad, iv 3, rv res, iv 2, iv xi, iv 1, iv x6] [(.int (1 : Int32)), (.int (1 : Int32)), (.ref res), (.ref ad), (.double (FP.i2d xd))] _
      refine XS.isub X1.here hx rfl (hb hby dH_38) rfl ?_
      refine own_ldI X1 hx hZ eh1 V_r ⟨by decide, by decide⟩ (v := r0) rfl rfl rfl (hb hby dH_39) ?_
      refine own_ldD X1 hx hZ eh1 V_d b_r0 (v := (FP.i2d v0)) e_r0 rfl rfl (hb hby dH_40) ?_
      show sS p e below T1 m 41 #[rv ad, iv 3, rv res, iv 2, iv xi, iv 1, iv x6] [(.double (FP.i2d v0)), (.double (FP.i2d xd))] _
      refine st6 _ ?_
      show sS p e below T6 m 44 #[rv ad, iv 3, rv res, iv 2, iv xi, iv 1, iv x6] [(.int (own_dc xd v0))] _
      refine XS.ifYes X6.here hx rfl (pc0 := 44) (pc' := 53) rfl (hb hby dH_44) rfl hc44' (by decide) (by decide) ?_
      refine XS.iload X6.here hx rfl (hb hby dH_53) rfl ?_
      refine XS.aloadN X6.here hx rfl (hb hby dH_55) rfl rfl ?_
      refine own_len X6 hx hZ eh6 V_r rfl rfl (hb hby dH_56) ?_
      refine XS.icmpNo X6.here hx rfl (hb hby dH_57) rfl (by decide) ?_
      refine XS.iloadN X6.here hx rfl (hb hby dH_60) rfl ?_
      show sS p e below T6 m 61 #[rv ad, iv 3, rv res, iv 2, iv xi, iv 1, iv x6] [(.int (2 : Int32))] _
      refine XS.aloadN X6.here hx rfl (hb hby dH_61) rfl rfl ?_
      refine own_len X6 hx hZ eh6 V_r rfl rfl (hb hby dH_62) ?_
      refine XS.iconst X6.here hx rfl (hb hby dH_63) ?_
      refine XS.isub X6.here hx rfl (hb hby dH_64) rfl ?_
      show sS p e below T6 m 65 #[rv ad, iv 3, rv res, iv 2, iv xi, iv 1, iv x6] [(.int (2 : Int32)), (.int (2 : Int32))] _
      refine st7 _ ?_
      show sS p e below T7 m 68 #[rv ad, iv 3, rv res, iv 2, iv xi, iv 1, iv x6] [(.int (2 : Int32))] _
      refine XS.istore X7.here hx rfl (hb hby dH_68) rfl (l' := #[rv ad, iv 3, rv res, iv 2, iv xi, iv 1, iv 2]) rfl ?_
      refine XS.aloadN X7.here hx rfl (hb hby dH_70) rfl rfl ?_
      refine XS.iload X7.here hx rfl (hb hby dH_71) rfl ?_
      refine XS.aloadN X7.here hx rfl (hb hby dH_73) rfl rfl ?_
      refine XS.iload X7.here hx rfl (hb hby dH_74) rfl ?_
      refine XS.iconst X7.here hx rfl (hb hby dH_76) ?_
      show sS p e below T7 m 77 #[rv ad, iv 3, rv res, iv 2, iv xi, iv 1, iv 2] [(.int (1 : Int32)), (.int (1 : Int32)), (.ref res), (.int (1 : Int32)), (.ref res)] _
      refine XS.iadd X7.here hx rfl (hb hby dH_77) rfl ?_
      refine XS.iload X7.here hx rfl (hb hby dH_78) rfl ?_
      refine XS.iload X7.here hx rfl (hb hby dH_80) rfl ?_
      refine XS.isub X7.here hx rfl (hb hby dH_82) rfl ?_
      show sS p e below T7 m 83 #[rv ad, iv 3, rv res, iv 2, iv xi, iv 1, iv 2] [(.int (1 : Int32)), (.int (2 : Int32)), (.ref res), (.int (1 : Int32)), (.ref res)] _
      refine st8 _ ?_
      show sS p e below T8 m 86 #[rv ad, iv 3, rv res, iv 2, iv xi, iv 1, iv 2] [] _
      refine XS.aloadN X8.here hx rfl (hb hby dH_86) rfl rfl ?_
      refine XS.iload X8.here hx rfl (hb hby dH_87) rfl ?_
      refine XS.iload X8.here hx rfl (hb hby dH_89) rfl ?_
      show sS p e below T8 m 91 #[rv ad, iv 3, rv res, iv 2, iv xi, iv 1, iv 2] [(.int xi), (.int (1 : Int32)), (.ref res)] _
      refine st10 _ ?_
      show sS p e below T10 m 92 #[rv ad, iv 3, rv res, iv 2, iv xi, iv 1, iv 2] [] _
      refine XS.iload X10.here hx rfl (hb hby dH_92) rfl ?_
      refine XS.iconst X10.here hx rfl (hb hby dH_94) ?_
      refine XS.iadd X10.here hx rfl (hb hby dH_95) rfl ?_
      refine XS.istoreN X10.here hx rfl (hb hby dH_96) rfl (l' := #[rv ad, iv 3, rv res, iv 3, iv xi, iv 1, iv 2]) rfl ?_
      refine XS.iinc X10.here hx rfl (hb hby dH_97) rfl (l' := #[rv ad, iv 3, rv res, iv 3, .val (.int (xi + (1 : Int32))), iv 1, iv 2]) rfl ?_
      refine XS.goto X10.here hx rfl (pc0 := 100) (pc' := 14) rfl (hb hby dH_100) (by decide) (by decide) ?_
      exact kt
    · obtain ⟨_, _, ⟨T11, L11, k11, n11⟩, -, X11, ⟨Lc11, hQ11, l11, y11, z11⟩, st11⟩ := Jvm.LawKit.callS X6 hx (y := ⟨"java/lang/Math", "min", "(II)I"⟩) hown (mvT hZ (wK hw (i := 10) rfl)) (mvT hZ (wK hw (i := 11) rfl)) (mvT hZ (wK hw (i := 12) rfl)) (mvT hZ (wK hw (i := 13) rfl)) (by decide) (backOf (W := 0) (rmmn_2_2 l Z a0 hw []  h0 n0 Z0) hZ (wK hw (i := 13) rfl) (wK hw (i := 12) rfl) (by decide) (by decide)) (g := (mkF m 65 #[rv ad, iv 3, rv res, iv 2, iv xi, iv 0, iv x6] [(.int (2 : Int32)), (.int (2 : Int32))])) rfl (by rw [hml]; rfl) (argsL := [(.int (2 : Int32)), (.int (2 : Int32))]) (rest := []) (lenOf pd_4 rfl) rfl (Nat.le_of_eq rfl) (hb hby dH_65) (fun _ _ => ⟨rfl, eh6, (by decide : 1 + 0 ≤ _), (by decide : 3 + 0 ≤ _)⟩)
      dsimp only [Pt.U, Pt.locs, Pt.cells, Pt.slots] at X11 l11 y11 z11 st11 hQ11
      subst l11 y11 z11
      obtain ⟨rfl, N11q, eh11⟩ := hQ11
      have N11 := Fr.app N6 N11q
      obtain ⟨T12, h12, L12, X12, e12, N12, K12, Vc12, st12⟩ := cpA X11 hx hZ hown (wK hw (i := 14) rfl) (wK hw (i := 17) rfl) (wK hw (i := 15) rfl) (wK hw (i := 16) rfl) eh11 V_r V_r (us := [(.int r0), (.int r1)]) (sp := (0 : Int32)) (dp := (1 : Int32)) (nn := (2 : Int32)) (Or.inl ⟨rfl, rfl⟩) (by decide) (by decide) (by decide) (by decide) (by decide) rfl (by show Int32.toNatClampNeg (1 : Int32) + Int32.toNatClampNeg (2 : Int32) ≤ 3; decide) N11 g_r (g := (mkF m 83 #[rv ad, iv 3, rv res, iv 2, iv xi, iv 0, iv 2] [(.int (2 : Int32)), (.int (1 : Int32)), (.ref res), (.int (0 : Int32)), (.ref res)])) rfl (by rw [hml]; rfl) rfl (hb hby dH_83) (by decide) (W := 0) (Nat.le_of_eq rfl) (by decide)
      have V12 : Arv Z h12 res kr .int (3 : Int32) [(.int r0), (.int r0), (.int r1)] (.int (0 : Int32)) := Vc12
      obtain ⟨cl13, Ar13, q13, S13, P13, Ha13, G13⟩ := V12
      have hin13 : ¬ ((0 : Int32) < 0 ∨ cl13.slots.size ≤ ((0 : Int32)).toNatClampNeg) := inb_of S13 ⟨by decide, by decide⟩
      obtain ⟨T14, h14, X14, e14, W14, st14⟩ := stI X12 hx hZ e12 Ar13 (j := (0 : Int32)) hin13 (g := (mkF m 91 #[rv ad, iv 3, rv res, iv 2, iv xi, iv 0, iv 2] [(.int xi), (.int (0 : Int32)), (.ref res)])) rfl rfl (hb hby dH_91)
      have V14 : Arv Z h14 res kr .int (3 : Int32) [(.int xi), (.int r0), (.int r1)] (.int (0 : Int32)) := Arv.set Ar13 q13 S13 P13 Ha13 G13 rfl W14 0 rfl (Nat.le_of_ble_eq_true rfl)
      have N14 := Fr.snoc X14 N12 g_r
      refine ⟨T14, h14, _, (0 : Int32), (2 : Int32), xi, r0, r1, xd, v0, v1, X14, e14, N14, (((Keep.refl h0 [res]).trans K12 (allS (Or.inl (List.mem_of_getElem? (i := 0) rfl)) all0)).wr W14 (Or.inl (List.mem_of_getElem? (i := 0) rfl))), V14, (by simp [own_ins, own_insR, hc44, hc44']), b_xi, e_xi, b_r0, e_r0, b_r1, e_r1, fun target kt => ?_⟩
      show sS p e below T0 m 14 #[rv ad, iv 3, rv res, iv 2, iv xi, iv x5, iv x6] [] _
      refine XS.iload X0.here hx rfl (hb hby dH_14) rfl ?_
      refine XS.aloadN X0.here hx rfl (hb hby dH_16) rfl rfl ?_
      refine own_len X0 hx hZ e0 V_d rfl rfl (hb hby dH_17) ?_
      refine XS.icmpNo X0.here hx rfl (hb hby dH_18) rfl hi18 ?_
      refine XS.iloadN X0.here hx rfl (hb hby dH_21) rfl ?_
      refine XS.istore X0.here hx rfl (hb hby dH_22) rfl (l' := #[rv ad, iv 3, rv res, iv 2, iv xi, iv 2, iv x6]) rfl ?_
      show sS p e below T0 m 24 #[rv ad, iv 3, rv res, iv 2, iv xi, iv 2, iv x6] [] _
      refine XS.iload X0.here hx rfl (hb hby dH_24) rfl ?_
      refine XS.ifNo X0.here hx rfl (hb hby dH_26) rfl (by decide) ?_
      refine XS.aloadN X0.here hx rfl (hb hby dH_29) rfl rfl ?_
      refine XS.iload X0.here hx rfl (hb hby dH_30) rfl ?_
      refine own_ldD X0 hx hZ e0 V_d b_xi (v := (FP.i2d xd)) e_xi rfl rfl (hb hby dH_32) ?_
      refine XS.aloadN X0.here hx rfl (hb hby dH_33) rfl rfl ?_
      show sS p e below T0 m 34 #[rv ad, iv 3, rv res, iv 2, iv xi, iv 2, iv x6] [(.ref ad), (.double (FP.i2d xd))] _
      refine XS.aloadN X0.here hx rfl (hb hby dH_34) rfl rfl ?_
      refine XS.iload X0.here hx rfl (hb hby dH_35) rfl ?_
      refine XS.iconst X0.here hx rfl (hb hby dH_37) ?_
      refine XS.isub X0.here hx rfl (hb hby dH_38) rfl ?_
      refine own_ldI X0 hx hZ e0 V_r ⟨by decide, by decide⟩ (v := r1) rfl rfl rfl (hb hby dH_39) ?_
      refine own_ldD X0 hx hZ e0 V_d b_r1 (v := (FP.i2d v1)) e_r1 rfl rfl (hb hby dH_40) ?_
      show sS p e below T0 m 41 #[rv ad, iv 3, rv res, iv 2, iv xi, iv 2, iv x6] [(.double (FP.i2d v1)), (.double (FP.i2d xd))] _
      refine st1 _ ?_
      show sS p e below T1 m 44 #[rv ad, iv 3, rv res, iv 2, iv xi, iv 2, iv x6] [(.int (own_dc xd v1))] _
      refine XS.ifNo X1.here hx rfl (hb hby dH_44) rfl hc44 ?_
      refine XS.iinc X1.here hx rfl (hb hby dH_47) rfl (l' := #[rv ad, iv 3, rv res, iv 2, iv xi, iv 1, iv x6]) rfl ?_
      refine XS.goto X1.here hx rfl (pc0 := 50) (pc' := 24) rfl (hb hby dH_50) (by decide) (by decide) ?_
      refine XS.iload X1.here hx rfl (hb hby dH_24) rfl ?_
      refine XS.ifNo X1.here hx rfl (hb hby dH_26) rfl (by decide) ?_
      refine XS.aloadN X1.here hx rfl (hb hby dH_29) rfl rfl ?_
      show sS p e below T1 m 30 #[rv ad, iv 3, rv res, iv 2, iv xi, iv 1, iv x6] [(.ref ad)] _
      refine XS.iload X1.here hx rfl (hb hby dH_30) rfl ?_
      refine own_ldD X1 hx hZ eh1 V_d b_xi (v := (FP.i2d xd)) e_xi rfl rfl (hb hby dH_32) ?_
      refine XS.aloadN X1.here hx rfl (hb hby dH_33) rfl rfl ?_
      refine XS.aloadN X1.here hx rfl (hb hby dH_34) rfl rfl ?_
      refine XS.iload X1.here hx rfl (hb hby dH_35) rfl ?_
      refine XS.iconst X1.here hx rfl (hb hby dH_37) ?_
      show sS p e below T1 m 38 #[rv ad, iv 3, rv res, iv 2, iv xi, iv 1, iv x6] [(.int (1 : Int32)), (.int (1 : Int32)), (.ref res), (.ref ad), (.double (FP.i2d xd))] _
      refine XS.isub X1.here hx rfl (hb hby dH_38) rfl ?_
      refine own_ldI X1 hx hZ eh1 V_r ⟨by decide, by decide⟩ (v := r0) rfl rfl rfl (hb hby dH_39) ?_
      refine own_ldD X1 hx hZ eh1 V_d b_r0 (v := (FP.i2d v0)) e_r0 rfl rfl (hb hby dH_40) ?_
      show sS p e below T1 m 41 #[rv ad, iv 3, rv res, iv 2, iv xi, iv 1, iv x6] [(.double (FP.i2d v0)), (.double (FP.i2d xd))] _
      refine st6 _ ?_
      show sS p e below T6 m 44 #[rv ad, iv 3, rv res, iv 2, iv xi, iv 1, iv x6] [(.int (own_dc xd v0))] _
      refine XS.ifNo X6.here hx rfl (hb hby dH_44) rfl hc44' ?_
      refine XS.iinc X6.here hx rfl (hb hby dH_47) rfl (l' := #[rv ad, iv 3, rv res, iv 2, iv xi, iv 0, iv x6]) rfl ?_
      refine XS.goto X6.here hx rfl (pc0 := 50) (pc' := 24) rfl (hb hby dH_50) (by decide) (by decide) ?_
      refine XS.iload X6.here hx rfl (hb hby dH_24) rfl ?_
      refine XS.ifYes X6.here hx rfl (pc0 := 26) (pc' := 53) rfl (hb hby dH_26) rfl (by decide) (by decide) (by decide) ?_
      refine XS.iload X6.here hx rfl (hb hby dH_53) rfl ?_
      show sS p e below T6 m 55 #[rv ad, iv 3, rv res, iv 2, iv xi, iv 0, iv x6] [(.int (0 : Int32))] _
      refine XS.aloadN X6.here hx rfl (hb hby dH_55) rfl rfl ?_
      refine own_len X6 hx hZ eh6 V_r rfl rfl (hb hby dH_56) ?_
      refine XS.icmpNo X6.here hx rfl (hb hby dH_57) rfl (by decide) ?_
      refine XS.iloadN X6.here hx rfl (hb hby dH_60) rfl ?_
      refine XS.aloadN X6.here hx rfl (hb hby dH_61) rfl rfl ?_
      refine own_len X6 hx hZ eh6 V_r rfl rfl (hb hby dH_62) ?_
      show sS p e below T6 m 63 #[rv ad, iv 3, rv res, iv 2, iv xi, iv 0, iv x6] [(.int (3 : Int32)), (.int (2 : Int32))] _
      refine XS.iconst X6.here hx rfl (hb hby dH_63) ?_
      refine XS.isub X6.here hx rfl (hb hby dH_64) rfl ?_
      show sS p e below T6 m 65 #[rv ad, iv 3, rv res, iv 2, iv xi, iv 0, iv x6] [(.int (2 : Int32)), (.int (2 : Int32))] _
      refine st11 _ ?_
      show sS p e below T11 m 68 #[rv ad, iv 3, rv res, iv 2, iv xi, iv 0, iv x6] [(.int (2 : Int32))] _
      refine XS.istore X11.here hx rfl (hb hby dH_68) rfl (l' := #[rv ad, iv 3, rv res, iv 2, iv xi, iv 0, iv 2]) rfl ?_
      refine XS.aloadN X11.here hx rfl (hb hby dH_70) rfl rfl ?_
      refine XS.iload X11.here hx rfl (hb hby dH_71) rfl ?_
      refine XS.aloadN X11.here hx rfl (hb hby dH_73) rfl rfl ?_
      refine XS.iload X11.here hx rfl (hb hby dH_74) rfl ?_
      refine XS.iconst X11.here hx rfl (hb hby dH_76) ?_
      show sS p e below T11 m 77 #[rv ad, iv 3, rv res, iv 2, iv xi, iv 0, iv 2] [(.int (1 : Int32)), (.int (0 : Int32)), (.ref res), (.int (0 : Int32)), (.ref res)] _
      refine XS.iadd X11.here hx rfl (hb hby dH_77) rfl ?_
      refine XS.iload X11.here hx rfl (hb hby dH_78) rfl ?_
      refine XS.iload X11.here hx rfl (hb hby dH_80) rfl ?_
      refine XS.isub X11.here hx rfl (hb hby dH_82) rfl ?_
      show sS p e below T11 m 83 #[rv ad, iv 3, rv res, iv 2, iv xi, iv 0, iv 2] [(.int (2 : Int32)), (.int (1 : Int32)), (.ref res), (.int (0 : Int32)), (.ref res)] _
      refine st12 _ ?_
      show sS p e below T12 m 86 #[rv ad, iv 3, rv res, iv 2, iv xi, iv 0, iv 2] [] _
      refine XS.aloadN X12.here hx rfl (hb hby dH_86) rfl rfl ?_
      refine XS.iload X12.here hx rfl (hb hby dH_87) rfl ?_
      refine XS.iload X12.here hx rfl (hb hby dH_89) rfl ?_
      show sS p e below T12 m 91 #[rv ad, iv 3, rv res, iv 2, iv xi, iv 0, iv 2] [(.int xi), (.int (0 : Int32)), (.ref res)] _
      refine st14 _ ?_
      show sS p e below T14 m 92 #[rv ad, iv 3, rv res, iv 2, iv xi, iv 0, iv 2] [] _
      refine XS.iload X14.here hx rfl (hb hby dH_92) rfl ?_
      refine XS.iconst X14.here hx rfl (hb hby dH_94) ?_
      refine XS.iadd X14.here hx rfl (hb hby dH_95) rfl ?_
      refine XS.istoreN X14.here hx rfl (hb hby dH_96) rfl (l' := #[rv ad, iv 3, rv res, iv 3, iv xi, iv 0, iv 2]) rfl ?_
      refine XS.iinc X14.here hx rfl (hb hby dH_97) rfl (l' := #[rv ad, iv 3, rv res, iv 3, .val (.int (xi + (1 : Int32))), iv 0, iv 2]) rfl ?_
      refine XS.goto X14.here hx rfl (pc0 := 100) (pc' := 14) rfl (hb hby dH_100) (by decide) (by decide) ?_
      exact kt
set_option maxRecDepth 65536 in
set_option maxHeartbeats 40000000 in
theorem tn_3_3 {p : Program} {l : Launch} {e : Env} {s : State} {m : MethodId} {args : Array Value} {below : List Frame} {meth : Method} {c : Code} {T0 : State} {locs : List Loc}  {Z : State} {a0 : Array Value} {h0 : Heap} {n0 : Nat} {ad res : Addr} {kd kr : ClassId} {nn xi xd : Int32} {vd : List Value} {r0 r1 r2 v0 v1 v2 x5 x6 : Int32} (X0 : Stand p l e ({ frames := 3, cells := 1, slots := 3, locals := 64 } : Room) s m args below meth c T0 locs 1 3) (hx : p.tables.exec = Jvm.exec) (hZ : Z.Warmed39 s.vm) (hw : ∀ d ∈ tables_1, d.before a0 Z = true) (hby : c.code = prog_5_method_4_code) (hml : c.maxLocals = 7) (hown : s.vm.findClass cN1 = some m.cls) (e0 : T0.heap = h0) (Z0 : n0 ≤ h0.size) (N0 : Fr n0 locs) (V_d : Arv Z h0 ad kd .double nn vd (.double (0 : UInt64))) (V_r : Arv Z h0 res kr .int (3 : Int32) [(.int r0), (.int r1), (.int r2)] (.int (0 : Int32))) (hne : ad ≠ res) (g_r : n0 ≤ res) (hi18 : if_icmp.holds .ge xi nn = false) (b_xi : (¬ xi < 0 ∧ xi < nn)) (e_xi : vd.getD xi.toNatClampNeg (.double (0 : UInt64)) = .double (FP.i2d xd)) (b_r0 : (¬ r0 < 0 ∧ r0 < nn)) (e_r0 : vd.getD r0.toNatClampNeg (.double (0 : UInt64)) = .double (FP.i2d v0)) (b_r1 : (¬ r1 < 0 ∧ r1 < nn)) (e_r1 : vd.getD r1.toNatClampNeg (.double (0 : UInt64)) = .double (FP.i2d v1)) (b_r2 : (¬ r2 < 0 ∧ r2 < nn)) (e_r2 : vd.getD r2.toNatClampNeg (.double (0 : UInt64)) = .double (FP.i2d v2)) :
    ∃ (T' : State) (h' : Heap) (L' : List Loc) (y5 y6 z0 z1 z2 w0 w1 w2 : Int32), Stand p l e ({ frames := 3, cells := 1, slots := 3, locals := 64 } : Room) s m args below meth c T' L' 1 3 ∧ T'.heap = h' ∧ Fr n0 L' ∧ Keep h0 h' [res] ∧ Arv Z h' res kr .int (3 : Int32) [(.int z0), (.int z1), (.int z2)] (.int (0 : Int32)) ∧ [(z0, w0), (z1, w1), (z2, w2)] = own_ins 3 (xi, xd) [(r0, v0), (r1, v1), (r2, v2)] ∧ (¬ z0 < 0 ∧ z0 < nn) ∧ vd.getD z0.toNatClampNeg (.double (0 : UInt64)) = .double (FP.i2d w0) ∧ (¬ z1 < 0 ∧ z1 < nn) ∧ vd.getD z1.toNatClampNeg (.double (0 : UInt64)) = .double (FP.i2d w1) ∧ (¬ z2 < 0 ∧ z2 < nn) ∧ vd.getD z2.toNatClampNeg (.double (0 : UInt64)) = .double (FP.i2d w2) ∧ ∀ target, Steps p.tables e below (T'.setTop (mkF m 14 #[rv ad, iv 3, rv res, iv 3, .val (.int (xi + (1 : Int32))), iv y5, iv y6] [])) target → Steps p.tables e below (T0.setTop (mkF m 14 #[rv ad, iv 3, rv res, iv 3, iv xi, iv x5, iv x6] [])) target := by
  obtain ⟨_, _, ⟨T1, L1, k1, n1⟩, -, X1, ⟨Lc1, hQ1, l1, y1, z1⟩, st1⟩ := Jvm.LawKit.callS X0 hx (y := ⟨"java/lang/Double", "compare", "(DD)I"⟩) hown (mvT hZ (wK hw (i := 18) rfl)) (mvT hZ (wK hw (i := 19) rfl)) (mvT hZ (wK hw (i := 20) rfl)) (mvT hZ (wK hw (i := 21) rfl)) (by decide) (backOf (W := 0) (rmdc l Z a0 hw [] xd v2 h0 n0 Z0) hZ (wK hw (i := 21) rfl) (wK hw (i := 20) rfl) (by decide) (by decide)) (g := (mkF m 41 #[rv ad, iv 3, rv res, iv 3, iv xi, iv 3, iv x6] [(.double (FP.i2d v2)), (.double (FP.i2d xd))])) rfl (by rw [hml]; rfl) (argsL := [(.double (FP.i2d xd)), (.double (FP.i2d v2))]) (rest := []) (lenOf pd_5 rfl) rfl (Nat.le_of_eq rfl) (hb hby dH_41) (fun _ _ => ⟨rfl, e0, (by decide : 1 + 0 ≤ _), (by decide : 3 + 0 ≤ _)⟩)
  dsimp only [Pt.U, Pt.locs, Pt.cells, Pt.slots] at X1 l1 y1 z1 st1 hQ1
  subst l1 y1 z1
  obtain ⟨rfl, N1q, eh1⟩ := hQ1
  have N1 := Fr.app N0 N1q
  rcases Bool.eq_false_or_eq_true (ifCond.holds .ge (own_dc xd v2)) with hc44 | hc44
  · refine ⟨T1, h0, _, (3 : Int32), x6, r0, r1, r2, v0, v1, v2, X1, eh1, N1, (Keep.refl h0 [res]), V_r, (by simp [own_ins, own_insR, hc44]), b_r0, e_r0, b_r1, e_r1, b_r2, e_r2, fun target kt => ?_⟩
    show sS p e below T0 m 14 #[rv ad, iv 3, rv res, iv 3, iv xi, iv x5, iv x6] [] _
    refine XS.iload X0.here hx rfl (hb hby dH_14) rfl ?_
    refine XS.aloadN X0.here hx rfl (hb hby dH_16) rfl rfl ?_
    refine own_len X0 hx hZ e0 V_d rfl rfl (hb hby dH_17) ?_
    refine XS.icmpNo X0.here hx rfl (hb hby dH_18) rfl hi18 ?_
    refine XS.iloadN X0.here hx rfl (hb hby dH_21) rfl ?_
    refine XS.istore X0.here hx rfl (hb hby dH_22) rfl (l' := #[rv ad, iv 3, rv res, iv 3, iv xi, iv 3, iv x6]) rfl ?_
    show sS p e below T0 m 24 #[rv ad, iv 3, rv res, iv 3, iv xi, iv 3, iv x6] [] _
    refine XS.iload X0.here hx rfl (hb hby dH_24) rfl ?_
    refine XS.ifNo X0.here hx rfl (hb hby dH_26) rfl (by decide) ?_
    refine XS.aloadN X0.here hx rfl (hb hby dH_29) rfl rfl ?_
    refine XS.iload X0.here hx rfl (hb hby dH_30) rfl ?_
    refine own_ldD X0 hx hZ e0 V_d b_xi (v := (FP.i2d xd)) e_xi rfl rfl (hb hby dH_32) ?_
    refine XS.aloadN X0.here hx rfl (hb hby dH_33) rfl rfl ?_
    show sS p e below T0 m 34 #[rv ad, iv 3, rv res, iv 3, iv xi, iv 3, iv x6] [(.ref ad), (.double (FP.i2d xd))] _
    refine XS.aloadN X0.here hx rfl (hb hby dH_34) rfl rfl ?_
    refine XS.iload X0.here hx rfl (hb hby dH_35) rfl ?_
    refine XS.iconst X0.here hx rfl (hb hby dH_37) ?_
    refine XS.isub X0.here hx rfl (hb hby dH_38) rfl ?_
    refine own_ldI X0 hx hZ e0 V_r ⟨by decide, by decide⟩ (v := r2) rfl rfl rfl (hb hby dH_39) ?_
    refine own_ldD X0 hx hZ e0 V_d b_r2 (v := (FP.i2d v2)) e_r2 rfl rfl (hb hby dH_40) ?_
    show sS p e below T0 m 41 #[rv ad, iv 3, rv res, iv 3, iv xi, iv 3, iv x6] [(.double (FP.i2d v2)), (.double (FP.i2d xd))] _
    refine st1 _ ?_
    show sS p e below T1 m 44 #[rv ad, iv 3, rv res, iv 3, iv xi, iv 3, iv x6] [(.int (own_dc xd v2))] _
    refine XS.ifYes X1.here hx rfl (pc0 := 44) (pc' := 53) rfl (hb hby dH_44) rfl hc44 (by decide) (by decide) ?_
    refine XS.iload X1.here hx rfl (hb hby dH_53) rfl ?_
    refine XS.aloadN X1.here hx rfl (hb hby dH_55) rfl rfl ?_
    refine own_len X1 hx hZ eh1 V_r rfl rfl (hb hby dH_56) ?_
    refine XS.icmpYes X1.here hx rfl (pc0 := 57) (pc' := 97) rfl (hb hby dH_57) rfl (by decide) (by decide) (by decide) ?_
    refine XS.iinc X1.here hx rfl (hb hby dH_97) rfl (l' := #[rv ad, iv 3, rv res, iv 3, .val (.int (xi + (1 : Int32))), iv 3, iv x6]) rfl ?_
    show sS p e below T1 m 100 #[rv ad, iv 3, rv res, iv 3, .val (.int (xi + (1 : Int32))), iv 3, iv x6] [] _
    refine XS.goto X1.here hx rfl (pc0 := 100) (pc' := 14) rfl (hb hby dH_100) (by decide) (by decide) ?_
    exact kt
  · obtain ⟨_, _, ⟨T2, L2, k2, n2⟩, -, X2, ⟨Lc2, hQ2, l2, y2, z2⟩, st2⟩ := Jvm.LawKit.callS X1 hx (y := ⟨"java/lang/Double", "compare", "(DD)I"⟩) hown (mvT hZ (wK hw (i := 18) rfl)) (mvT hZ (wK hw (i := 19) rfl)) (mvT hZ (wK hw (i := 20) rfl)) (mvT hZ (wK hw (i := 21) rfl)) (by decide) (backOf (W := 0) (rmdc l Z a0 hw [] xd v1 h0 n0 Z0) hZ (wK hw (i := 21) rfl) (wK hw (i := 20) rfl) (by decide) (by decide)) (g := (mkF m 41 #[rv ad, iv 3, rv res, iv 3, iv xi, iv 2, iv x6] [(.double (FP.i2d v1)), (.double (FP.i2d xd))])) rfl (by rw [hml]; rfl) (argsL := [(.double (FP.i2d xd)), (.double (FP.i2d v1))]) (rest := []) (lenOf pd_5 rfl) rfl (Nat.le_of_eq rfl) (hb hby dH_41) (fun _ _ => ⟨rfl, eh1, (by decide : 1 + 0 ≤ _), (by decide : 3 + 0 ≤ _)⟩)
    dsimp only [Pt.U, Pt.locs, Pt.cells, Pt.slots] at X2 l2 y2 z2 st2 hQ2
    subst l2 y2 z2
    obtain ⟨rfl, N2q, eh2⟩ := hQ2
    have N2 := Fr.app N1 N2q
    rcases Bool.eq_false_or_eq_true (ifCond.holds .ge (own_dc xd v1)) with hc44' | hc44'
    · obtain ⟨_, _, ⟨T3, L3, k3, n3⟩, -, X3, ⟨Lc3, hQ3, l3, y3, z3⟩, st3⟩ := Jvm.LawKit.callS X2 hx (y := ⟨"java/lang/Math", "min", "(II)I"⟩) hown (mvT hZ (wK hw (i := 10) rfl)) (mvT hZ (wK hw (i := 11) rfl)) (mvT hZ (wK hw (i := 12) rfl)) (mvT hZ (wK hw (i := 13) rfl)) (by decide) (backOf (W := 0) (rmmn_3_2 l Z a0 hw []  h0 n0 Z0) hZ (wK hw (i := 13) rfl) (wK hw (i := 12) rfl) (by decide) (by decide)) (g := (mkF m 65 #[rv ad, iv 3, rv res, iv 3, iv xi, iv 2, iv x6] [(.int (2 : Int32)), (.int (3 : Int32))])) rfl (by rw [hml]; rfl) (argsL := [(.int (3 : Int32)), (.int (2 : Int32))]) (rest := []) (lenOf pd_4 rfl) rfl (Nat.le_of_eq rfl) (hb hby dH_65) (fun _ _ => ⟨rfl, eh2, (by decide : 1 + 0 ≤ _), (by decide : 3 + 0 ≤ _)⟩)
      dsimp only [Pt.U, Pt.locs, Pt.cells, Pt.slots] at X3 l3 y3 z3 st3 hQ3
      subst l3 y3 z3
      obtain ⟨rfl, N3q, eh3⟩ := hQ3
      have N3 := Fr.app N2 N3q
      obtain ⟨T4, h4, L4, X4, e4, N4, K4, Vc4, st4⟩ := cpA X3 hx hZ hown (wK hw (i := 14) rfl) (wK hw (i := 17) rfl) (wK hw (i := 15) rfl) (wK hw (i := 16) rfl) eh3 V_r V_r (us := []) (sp := (2 : Int32)) (dp := (3 : Int32)) (nn := (0 : Int32)) (Or.inl ⟨rfl, rfl⟩) (by decide) (by decide) (by decide) (by decide) (by decide) rfl (by show Int32.toNatClampNeg (3 : Int32) + Int32.toNatClampNeg (0 : Int32) ≤ 3; decide) N3 g_r (g := (mkF m 83 #[rv ad, iv 3, rv res, iv 3, iv xi, iv 2, iv 2] [(.int (0 : Int32)), (.int (3 : Int32)), (.ref res), (.int (2 : Int32)), (.ref res)])) rfl (by rw [hml]; rfl) rfl (hb hby dH_83) (by decide) (W := 0) (Nat.le_of_eq rfl) (by decide)
      have V4 : Arv Z h4 res kr .int (3 : Int32) [(.int r0), (.int r1), (.int r2)] (.int (0 : Int32)) := Vc4
      obtain ⟨cl5, Ar5, q5, S5, P5, Ha5, G5⟩ := V4
      have hin5 : ¬ ((2 : Int32) < 0 ∨ cl5.slots.size ≤ ((2 : Int32)).toNatClampNeg) := inb_of S5 ⟨by decide, by decide⟩
      obtain ⟨T6, h6, X6, e6, W6, st6⟩ := stI X4 hx hZ e4 Ar5 (j := (2 : Int32)) hin5 (g := (mkF m 91 #[rv ad, iv 3, rv res, iv 3, iv xi, iv 2, iv 2] [(.int xi), (.int (2 : Int32)), (.ref res)])) rfl rfl (hb hby dH_91)
      have V6 : Arv Z h6 res kr .int (3 : Int32) [(.int r0), (.int r1), (.int xi)] (.int (0 : Int32)) := Arv.set Ar5 q5 S5 P5 Ha5 G5 rfl W6 2 rfl (Nat.le_of_ble_eq_true rfl)
      have N6 := Fr.snoc X6 N4 g_r
      refine ⟨T6, h6, _, (2 : Int32), (2 : Int32), r0, r1, xi, v0, v1, xd, X6, e6, N6, (((Keep.refl h0 [res]).trans K4 (allS (Or.inl (List.mem_of_getElem? (i := 0) rfl)) all0)).wr W6 (Or.inl (List.mem_of_getElem? (i := 0) rfl))), V6, (by simp [own_ins, own_insR, hc44, hc44']), b_r0, e_r0, b_r1, e_r1, b_xi, e_xi, fun target kt => ?_⟩
      show sS p e below T0 m 14 #[rv ad, iv 3, rv res, iv 3, iv xi, iv x5, iv x6] [] _
      refine XS.iload X0.here hx rfl (hb hby dH_14) rfl ?_
      refine XS.aloadN X0.here hx rfl (hb hby dH_16) rfl rfl ?_
      refine own_len X0 hx hZ e0 V_d rfl rfl (hb hby dH_17) ?_
      refine XS.icmpNo X0.here hx rfl (hb hby dH_18) rfl hi18 ?_
      refine XS.iloadN X0.here hx rfl (hb hby dH_21) rfl ?_
      refine XS.istore X0.here hx rfl (hb hby dH_22) rfl (l' := #[rv ad, iv 3, rv res, iv 3, iv xi, iv 3, iv x6]) rfl ?_
      show sS p e below T0 m 24 #[rv ad, iv 3, rv res, iv 3, iv xi, iv 3, iv x6] [] _
      refine XS.iload X0.here hx rfl (hb hby dH_24) rfl ?_
      refine XS.ifNo X0.here hx rfl (hb hby dH_26) rfl (by decide) ?_
      refine XS.aloadN X0.here hx rfl (hb hby dH_29) rfl rfl ?_
      refine XS.iload X0.here hx rfl (hb hby dH_30) rfl ?_
      refine own_ldD X0 hx hZ e0 V_d b_xi (v := (FP.i2d xd)) e_xi rfl rfl (hb hby dH_32) ?_
      refine XS.aloadN X0.here hx rfl (hb hby dH_33) rfl rfl ?_
      show sS p e below T0 m 34 #[rv ad, iv 3, rv res, iv 3, iv xi, iv 3, iv x6] [(.ref ad), (.double (FP.i2d xd))] _
      refine XS.aloadN X0.here hx rfl (hb hby dH_34) rfl rfl ?_
      refine XS.iload X0.here hx rfl (hb hby dH_35) rfl ?_
      refine XS.iconst X0.here hx rfl (hb hby dH_37) ?_
      refine XS.isub X0.here hx rfl (hb hby dH_38) rfl ?_
      refine own_ldI X0 hx hZ e0 V_r ⟨by decide, by decide⟩ (v := r2) rfl rfl rfl (hb hby dH_39) ?_
      refine own_ldD X0 hx hZ e0 V_d b_r2 (v := (FP.i2d v2)) e_r2 rfl rfl (hb hby dH_40) ?_
      show sS p e below T0 m 41 #[rv ad, iv 3, rv res, iv 3, iv xi, iv 3, iv x6] [(.double (FP.i2d v2)), (.double (FP.i2d xd))] _
      refine st1 _ ?_
      show sS p e below T1 m 44 #[rv ad, iv 3, rv res, iv 3, iv xi, iv 3, iv x6] [(.int (own_dc xd v2))] _
      refine XS.ifNo X1.here hx rfl (hb hby dH_44) rfl hc44 ?_
      refine XS.iinc X1.here hx rfl (hb hby dH_47) rfl (l' := #[rv ad, iv 3, rv res, iv 3, iv xi, iv 2, iv x6]) rfl ?_
      refine XS.goto X1.here hx rfl (pc0 := 50) (pc' := 24) rfl (hb hby dH_50) (by decide) (by decide) ?_
      refine XS.iload X1.here hx rfl (hb hby dH_24) rfl ?_
      refine XS.ifNo X1.here hx rfl (hb hby dH_26) rfl (by decide) ?_
      refine XS.aloadN X1.here hx rfl (hb hby dH_29) rfl rfl ?_
      show sS p e below T1 m 30 #[rv ad, iv 3, rv res, iv 3, iv xi, iv 2, iv x6] [(.ref ad)] _
      refine XS.iload X1.here hx rfl (hb hby dH_30) rfl ?_
      refine own_ldD X1 hx hZ eh1 V_d b_xi (v := (FP.i2d xd)) e_xi rfl rfl (hb hby dH_32) ?_
      refine XS.aloadN X1.here hx rfl (hb hby dH_33) rfl rfl ?_
      refine XS.aloadN X1.here hx rfl (hb hby dH_34) rfl rfl ?_
      refine XS.iload X1.here hx rfl (hb hby dH_35) rfl ?_
      refine XS.iconst X1.here hx rfl (hb hby dH_37) ?_
      show sS p e below T1 m 38 #[rv ad, iv 3, rv res, iv 3, iv xi, iv 2, iv x6] [(.int (1 : Int32)), (.int (2 : Int32)), (.ref res), (.ref ad), (.double (FP.i2d xd))] _
      refine XS.isub X1.here hx rfl (hb hby dH_38) rfl ?_
      refine own_ldI X1 hx hZ eh1 V_r ⟨by decide, by decide⟩ (v := r1) rfl rfl rfl (hb hby dH_39) ?_
      refine own_ldD X1 hx hZ eh1 V_d b_r1 (v := (FP.i2d v1)) e_r1 rfl rfl (hb hby dH_40) ?_
      show sS p e below T1 m 41 #[rv ad, iv 3, rv res, iv 3, iv xi, iv 2, iv x6] [(.double (FP.i2d v1)), (.double (FP.i2d xd))] _
      refine st2 _ ?_
      show sS p e below T2 m 44 #[rv ad, iv 3, rv res, iv 3, iv xi, iv 2, iv x6] [(.int (own_dc xd v1))] _
      refine XS.ifYes X2.here hx rfl (pc0 := 44) (pc' := 53) rfl (hb hby dH_44) rfl hc44' (by decide) (by decide) ?_
      refine XS.iload X2.here hx rfl (hb hby dH_53) rfl ?_
      refine XS.aloadN X2.here hx rfl (hb hby dH_55) rfl rfl ?_
      refine own_len X2 hx hZ eh2 V_r rfl rfl (hb hby dH_56) ?_
      refine XS.icmpNo X2.here hx rfl (hb hby dH_57) rfl (by decide) ?_
      refine XS.iloadN X2.here hx rfl (hb hby dH_60) rfl ?_
      show sS p e below T2 m 61 #[rv ad, iv 3, rv res, iv 3, iv xi, iv 2, iv x6] [(.int (3 : Int32))] _
      refine XS.aloadN X2.here hx rfl (hb hby dH_61) rfl rfl ?_
      refine own_len X2 hx hZ eh2 V_r rfl rfl (hb hby dH_62) ?_
      refine XS.iconst X2.here hx rfl (hb hby dH_63) ?_
      refine XS.isub X2.here hx rfl (hb hby dH_64) rfl ?_
      show sS p e below T2 m 65 #[rv ad, iv 3, rv res, iv 3, iv xi, iv 2, iv x6] [(.int (2 : Int32)), (.int (3 : Int32))] _
      refine st3 _ ?_
      show sS p e below T3 m 68 #[rv ad, iv 3, rv res, iv 3, iv xi, iv 2, iv x6] [(.int (2 : Int32))] _
      refine XS.istore X3.here hx rfl (hb hby dH_68) rfl (l' := #[rv ad, iv 3, rv res, iv 3, iv xi, iv 2, iv 2]) rfl ?_
      refine XS.aloadN X3.here hx rfl (hb hby dH_70) rfl rfl ?_
      refine XS.iload X3.here hx rfl (hb hby dH_71) rfl ?_
      refine XS.aloadN X3.here hx rfl (hb hby dH_73) rfl rfl ?_
      refine XS.iload X3.here hx rfl (hb hby dH_74) rfl ?_
      refine XS.iconst X3.here hx rfl (hb hby dH_76) ?_
      show sS p e below T3 m 77 #[rv ad, iv 3, rv res, iv 3, iv xi, iv 2, iv 2] [(.int (1 : Int32)), (.int (2 : Int32)), (.ref res), (.int (2 : Int32)), (.ref res)] _
      refine XS.iadd X3.here hx rfl (hb hby dH_77) rfl ?_
      refine XS.iload X3.here hx rfl (hb hby dH_78) rfl ?_
      refine XS.iload X3.here hx rfl (hb hby dH_80) rfl ?_
      refine XS.isub X3.here hx rfl (hb hby dH_82) rfl ?_
      show sS p e below T3 m 83 #[rv ad, iv 3, rv res, iv 3, iv xi, iv 2, iv 2] [(.int (0 : Int32)), (.int (3 : Int32)), (.ref res), (.int (2 : Int32)), (.ref res)] _
      refine st4 _ ?_
      show sS p e below T4 m 86 #[rv ad, iv 3, rv res, iv 3, iv xi, iv 2, iv 2] [] _
      refine XS.aloadN X4.here hx rfl (hb hby dH_86) rfl rfl ?_
      refine XS.iload X4.here hx rfl (hb hby dH_87) rfl ?_
      refine XS.iload X4.here hx rfl (hb hby dH_89) rfl ?_
      show sS p e below T4 m 91 #[rv ad, iv 3, rv res, iv 3, iv xi, iv 2, iv 2] [(.int xi), (.int (2 : Int32)), (.ref res)] _
      refine st6 _ ?_
      show sS p e below T6 m 92 #[rv ad, iv 3, rv res, iv 3, iv xi, iv 2, iv 2] [] _
      refine XS.iload X6.here hx rfl (hb hby dH_92) rfl ?_
      refine XS.iconst X6.here hx rfl (hb hby dH_94) ?_
      refine XS.iadd X6.here hx rfl (hb hby dH_95) rfl ?_
      refine XS.istoreN X6.here hx rfl (hb hby dH_96) rfl (l' := #[rv ad, iv 3, rv res, iv 3, iv xi, iv 2, iv 2]) rfl ?_
      refine XS.iinc X6.here hx rfl (hb hby dH_97) rfl (l' := #[rv ad, iv 3, rv res, iv 3, .val (.int (xi + (1 : Int32))), iv 2, iv 2]) rfl ?_
      refine XS.goto X6.here hx rfl (pc0 := 100) (pc' := 14) rfl (hb hby dH_100) (by decide) (by decide) ?_
      exact kt
    · obtain ⟨_, _, ⟨T7, L7, k7, n7⟩, -, X7, ⟨Lc7, hQ7, l7, y7, z7⟩, st7⟩ := Jvm.LawKit.callS X2 hx (y := ⟨"java/lang/Double", "compare", "(DD)I"⟩) hown (mvT hZ (wK hw (i := 18) rfl)) (mvT hZ (wK hw (i := 19) rfl)) (mvT hZ (wK hw (i := 20) rfl)) (mvT hZ (wK hw (i := 21) rfl)) (by decide) (backOf (W := 0) (rmdc l Z a0 hw [] xd v0 h0 n0 Z0) hZ (wK hw (i := 21) rfl) (wK hw (i := 20) rfl) (by decide) (by decide)) (g := (mkF m 41 #[rv ad, iv 3, rv res, iv 3, iv xi, iv 1, iv x6] [(.double (FP.i2d v0)), (.double (FP.i2d xd))])) rfl (by rw [hml]; rfl) (argsL := [(.double (FP.i2d xd)), (.double (FP.i2d v0))]) (rest := []) (lenOf pd_5 rfl) rfl (Nat.le_of_eq rfl) (hb hby dH_41) (fun _ _ => ⟨rfl, eh2, (by decide : 1 + 0 ≤ _), (by decide : 3 + 0 ≤ _)⟩)
      dsimp only [Pt.U, Pt.locs, Pt.cells, Pt.slots] at X7 l7 y7 z7 st7 hQ7
      subst l7 y7 z7
      obtain ⟨rfl, N7q, eh7⟩ := hQ7
      have N7 := Fr.app N2 N7q
      rcases Bool.eq_false_or_eq_true (ifCond.holds .ge (own_dc xd v0)) with hc44'' | hc44''
      · obtain ⟨_, _, ⟨T8, L8, k8, n8⟩, -, X8, ⟨Lc8, hQ8, l8, y8, z8⟩, st8⟩ := Jvm.LawKit.callS X7 hx (y := ⟨"java/lang/Math", "min", "(II)I"⟩) hown (mvT hZ (wK hw (i := 10) rfl)) (mvT hZ (wK hw (i := 11) rfl)) (mvT hZ (wK hw (i := 12) rfl)) (mvT hZ (wK hw (i := 13) rfl)) (by decide) (backOf (W := 0) (rmmn_3_2 l Z a0 hw []  h0 n0 Z0) hZ (wK hw (i := 13) rfl) (wK hw (i := 12) rfl) (by decide) (by decide)) (g := (mkF m 65 #[rv ad, iv 3, rv res, iv 3, iv xi, iv 1, iv x6] [(.int (2 : Int32)), (.int (3 : Int32))])) rfl (by rw [hml]; rfl) (argsL := [(.int (3 : Int32)), (.int (2 : Int32))]) (rest := []) (lenOf pd_4 rfl) rfl (Nat.le_of_eq rfl) (hb hby dH_65) (fun _ _ => ⟨rfl, eh7, (by decide : 1 + 0 ≤ _), (by decide : 3 + 0 ≤ _)⟩)
        dsimp only [Pt.U, Pt.locs, Pt.cells, Pt.slots] at X8 l8 y8 z8 st8 hQ8
        subst l8 y8 z8
        obtain ⟨rfl, N8q, eh8⟩ := hQ8
        have N8 := Fr.app N7 N8q
        obtain ⟨T9, h9, L9, X9, e9, N9, K9, Vc9, st9⟩ := cpA X8 hx hZ hown (wK hw (i := 14) rfl) (wK hw (i := 17) rfl) (wK hw (i := 15) rfl) (wK hw (i := 16) rfl) eh8 V_r V_r (us := [(.int r1)]) (sp := (1 : Int32)) (dp := (2 : Int32)) (nn := (1 : Int32)) (Or.inl ⟨rfl, rfl⟩) (by decide) (by decide) (by decide) (by decide) (by decide) rfl (by show Int32.toNatClampNeg (2 : Int32) + Int32.toNatClampNeg (1 : Int32) ≤ 3; decide) N8 g_r (g := (mkF m 83 #[rv ad, iv 3, rv res, iv 3, iv xi, iv 1, iv 2] [(.int (1 : Int32)), (.int (2 : Int32)), (.ref res), (.int (1 : Int32)), (.ref res)])) rfl (by rw [hml]; rfl) rfl (hb hby dH_83) (by decide) (W := 0) (Nat.le_of_eq rfl) (by decide)
        have V9 : Arv Z h9 res kr .int (3 : Int32) [(.int r0), (.int r1), (.int r1)] (.int (0 : Int32)) := Vc9
        obtain ⟨cl10, Ar10, q10, S10, P10, Ha10, G10⟩ := V9
        have hin10 : ¬ ((1 : Int32) < 0 ∨ cl10.slots.size ≤ ((1 : Int32)).toNatClampNeg) := inb_of S10 ⟨by decide, by decide⟩
        obtain ⟨T11, h11, X11, e11, W11, st11⟩ := stI X9 hx hZ e9 Ar10 (j := (1 : Int32)) hin10 (g := (mkF m 91 #[rv ad, iv 3, rv res, iv 3, iv xi, iv 1, iv 2] [(.int xi), (.int (1 : Int32)), (.ref res)])) rfl rfl (hb hby dH_91)
        have V11 : Arv Z h11 res kr .int (3 : Int32) [(.int r0), (.int xi), (.int r1)] (.int (0 : Int32)) := Arv.set Ar10 q10 S10 P10 Ha10 G10 rfl W11 1 rfl (Nat.le_of_ble_eq_true rfl)
        have N11 := Fr.snoc X11 N9 g_r
        refine ⟨T11, h11, _, (1 : Int32), (2 : Int32), r0, xi, r1, v0, xd, v1, X11, e11, N11, (((Keep.refl h0 [res]).trans K9 (allS (Or.inl (List.mem_of_getElem? (i := 0) rfl)) all0)).wr W11 (Or.inl (List.mem_of_getElem? (i := 0) rfl))), V11, (by simp [own_ins, own_insR, hc44, hc44', hc44'']), b_r0, e_r0, b_xi, e_xi, b_r1, e_r1, fun target kt => ?_⟩
        show sS p e below T0 m 14 #[rv ad, iv 3, rv res, iv 3, iv xi, iv x5, iv x6] [] _
        refine XS.iload X0.here hx rfl (hb hby dH_14) rfl ?_
        refine XS.aloadN X0.here hx rfl (hb hby dH_16) rfl rfl ?_
        refine own_len X0 hx hZ e0 V_d rfl rfl (hb hby dH_17) ?_
        refine XS.icmpNo X0.here hx rfl (hb hby dH_18) rfl hi18 ?_
        refine XS.iloadN X0.here hx rfl (hb hby dH_21) rfl ?_
        refine XS.istore X0.here hx rfl (hb hby dH_22) rfl (l' := #[rv ad, iv 3, rv res, iv 3, iv xi, iv 3, iv x6]) rfl ?_
        show sS p e below T0 m 24 #[rv ad, iv 3, rv res, iv 3, iv xi, iv 3, iv x6] [] _
        refine XS.iload X0.here hx rfl (hb hby dH_24) rfl ?_
        refine XS.ifNo X0.here hx rfl (hb hby dH_26) rfl (by decide) ?_
        refine XS.aloadN X0.here hx rfl (hb hby dH_29) rfl rfl ?_
        refine XS.iload X0.here hx rfl (hb hby dH_30) rfl ?_
        refine own_ldD X0 hx hZ e0 V_d b_xi (v := (FP.i2d xd)) e_xi rfl rfl (hb hby dH_32) ?_
        refine XS.aloadN X0.here hx rfl (hb hby dH_33) rfl rfl ?_
        show sS p e below T0 m 34 #[rv ad, iv 3, rv res, iv 3, iv xi, iv 3, iv x6] [(.ref ad), (.double (FP.i2d xd))] _
        refine XS.aloadN X0.here hx rfl (hb hby dH_34) rfl rfl ?_
        refine XS.iload X0.here hx rfl (hb hby dH_35) rfl ?_
        refine XS.iconst X0.here hx rfl (hb hby dH_37) ?_
        refine XS.isub X0.here hx rfl (hb hby dH_38) rfl ?_
        refine own_ldI X0 hx hZ e0 V_r ⟨by decide, by decide⟩ (v := r2) rfl rfl rfl (hb hby dH_39) ?_
        refine own_ldD X0 hx hZ e0 V_d b_r2 (v := (FP.i2d v2)) e_r2 rfl rfl (hb hby dH_40) ?_
        show sS p e below T0 m 41 #[rv ad, iv 3, rv res, iv 3, iv xi, iv 3, iv x6] [(.double (FP.i2d v2)), (.double (FP.i2d xd))] _
        refine st1 _ ?_
        show sS p e below T1 m 44 #[rv ad, iv 3, rv res, iv 3, iv xi, iv 3, iv x6] [(.int (own_dc xd v2))] _
        refine XS.ifNo X1.here hx rfl (hb hby dH_44) rfl hc44 ?_
        refine XS.iinc X1.here hx rfl (hb hby dH_47) rfl (l' := #[rv ad, iv 3, rv res, iv 3, iv xi, iv 2, iv x6]) rfl ?_
        refine XS.goto X1.here hx rfl (pc0 := 50) (pc' := 24) rfl (hb hby dH_50) (by decide) (by decide) ?_
        refine XS.iload X1.here hx rfl (hb hby dH_24) rfl ?_
        refine XS.ifNo X1.here hx rfl (hb hby dH_26) rfl (by decide) ?_
        refine XS.aloadN X1.here hx rfl (hb hby dH_29) rfl rfl ?_
        show sS p e below T1 m 30 #[rv ad, iv 3, rv res, iv 3, iv xi, iv 2, iv x6] [(.ref ad)] _
        refine XS.iload X1.here hx rfl (hb hby dH_30) rfl ?_
        refine own_ldD X1 hx hZ eh1 V_d b_xi (v := (FP.i2d xd)) e_xi rfl rfl (hb hby dH_32) ?_
        refine XS.aloadN X1.here hx rfl (hb hby dH_33) rfl rfl ?_
        refine XS.aloadN X1.here hx rfl (hb hby dH_34) rfl rfl ?_
        refine XS.iload X1.here hx rfl (hb hby dH_35) rfl ?_
        refine XS.iconst X1.here hx rfl (hb hby dH_37) ?_
        show sS p e below T1 m 38 #[rv ad, iv 3, rv res, iv 3, iv xi, iv 2, iv x6] [(.int (1 : Int32)), (.int (2 : Int32)), (.ref res), (.ref ad), (.double (FP.i2d xd))] _
        refine XS.isub X1.here hx rfl (hb hby dH_38) rfl ?_
        refine own_ldI X1 hx hZ eh1 V_r ⟨by decide, by decide⟩ (v := r1) rfl rfl rfl (hb hby dH_39) ?_
        refine own_ldD X1 hx hZ eh1 V_d b_r1 (v := (FP.i2d v1)) e_r1 rfl rfl (hb hby dH_40) ?_
        show sS p e below T1 m 41 #[rv ad, iv 3, rv res, iv 3, iv xi, iv 2, iv x6] [(.double (FP.i2d v1)), (.double (FP.i2d xd))] _
        refine st2 _ ?_
        show sS p e below T2 m 44 #[rv ad, iv 3, rv res, iv 3, iv xi, iv 2, iv x6] [(.int (own_dc xd v1))] _
        refine XS.ifNo X2.here hx rfl (hb hby dH_44) rfl hc44' ?_
        refine XS.iinc X2.here hx rfl (hb hby dH_47) rfl (l' := #[rv ad, iv 3, rv res, iv 3, iv xi, iv 1, iv x6]) rfl ?_
        refine XS.goto X2.here hx rfl (pc0 := 50) (pc' := 24) rfl (hb hby dH_50) (by decide) (by decide) ?_
        refine XS.iload X2.here hx rfl (hb hby dH_24) rfl ?_
        refine XS.ifNo X2.here hx rfl (hb hby dH_26) rfl (by decide) ?_
        refine XS.aloadN X2.here hx rfl (hb hby dH_29) rfl rfl ?_
        show sS p e below T2 m 30 #[rv ad, iv 3, rv res, iv 3, iv xi, iv 1, iv x6] [(.ref ad)] _
        refine XS.iload X2.here hx rfl (hb hby dH_30) rfl ?_
        refine own_ldD X2 hx hZ eh2 V_d b_xi (v := (FP.i2d xd)) e_xi rfl rfl (hb hby dH_32) ?_
        refine XS.aloadN X2.here hx rfl (hb hby dH_33) rfl rfl ?_
        refine XS.aloadN X2.here hx rfl (hb hby dH_34) rfl rfl ?_
        refine XS.iload X2.here hx rfl (hb hby dH_35) rfl ?_
        refine XS.iconst X2.here hx rfl (hb hby dH_37) ?_
        show sS p e below T2 m 38 #[rv ad, iv 3, rv res, iv 3, iv xi, iv 1, iv x6] [(.int (1 : Int32)), (.int (1 : Int32)), (.ref res), (.ref ad), (.double (FP.i2d xd))] _
        refine XS.isub X2.here hx rfl (hb hby dH_38) rfl ?_
        refine own_ldI X2 hx hZ eh2 V_r ⟨by decide, by decide⟩ (v := r0) rfl rfl rfl (hb hby dH_39) ?_
        refine own_ldD X2 hx hZ eh2 V_d b_r0 (v := (FP.i2d v0)) e_r0 rfl rfl (hb hby dH_40) ?_
        show sS p e below T2 m 41 #[rv ad, iv 3, rv res, iv 3, iv xi, iv 1, iv x6] [(.double (FP.i2d v0)), (.double (FP.i2d xd))] _
        refine st7 _ ?_
        show sS p e below T7 m 44 #[rv ad, iv 3, rv res, iv 3, iv xi, iv 1, iv x6] [(.int (own_dc xd v0))] _
        refine XS.ifYes X7.here hx rfl (pc0 := 44) (pc' := 53) rfl (hb hby dH_44) rfl hc44'' (by decide) (by decide) ?_
        refine XS.iload X7.here hx rfl (hb hby dH_53) rfl ?_
        refine XS.aloadN X7.here hx rfl (hb hby dH_55) rfl rfl ?_
        refine own_len X7 hx hZ eh7 V_r rfl rfl (hb hby dH_56) ?_
        refine XS.icmpNo X7.here hx rfl (hb hby dH_57) rfl (by decide) ?_
        refine XS.iloadN X7.here hx rfl (hb hby dH_60) rfl ?_
        show sS p e below T7 m 61 #[rv ad, iv 3, rv res, iv 3, iv xi, iv 1, iv x6] [(.int (3 : Int32))] _
        refine XS.aloadN X7.here hx rfl (hb hby dH_61) rfl rfl ?_
        refine own_len X7 hx hZ eh7 V_r rfl rfl (hb hby dH_62) ?_
        refine XS.iconst X7.here hx rfl (hb hby dH_63) ?_
        refine XS.isub X7.here hx rfl (hb hby dH_64) rfl ?_
        show sS p e below T7 m 65 #[rv ad, iv 3, rv res, iv 3, iv xi, iv 1, iv x6] [(.int (2 : Int32)), (.int (3 : Int32))] _
        refine st8 _ ?_
        show sS p e below T8 m 68 #[rv ad, iv 3, rv res, iv 3, iv xi, iv 1, iv x6] [(.int (2 : Int32))] _
        refine XS.istore X8.here hx rfl (hb hby dH_68) rfl (l' := #[rv ad, iv 3, rv res, iv 3, iv xi, iv 1, iv 2]) rfl ?_
        refine XS.aloadN X8.here hx rfl (hb hby dH_70) rfl rfl ?_
        refine XS.iload X8.here hx rfl (hb hby dH_71) rfl ?_
        refine XS.aloadN X8.here hx rfl (hb hby dH_73) rfl rfl ?_
        refine XS.iload X8.here hx rfl (hb hby dH_74) rfl ?_
        refine XS.iconst X8.here hx rfl (hb hby dH_76) ?_
        show sS p e below T8 m 77 #[rv ad, iv 3, rv res, iv 3, iv xi, iv 1, iv 2] [(.int (1 : Int32)), (.int (1 : Int32)), (.ref res), (.int (1 : Int32)), (.ref res)] _
        refine XS.iadd X8.here hx rfl (hb hby dH_77) rfl ?_
        refine XS.iload X8.here hx rfl (hb hby dH_78) rfl ?_
        refine XS.iload X8.here hx rfl (hb hby dH_80) rfl ?_
        refine XS.isub X8.here hx rfl (hb hby dH_82) rfl ?_
        show sS p e below T8 m 83 #[rv ad, iv 3, rv res, iv 3, iv xi, iv 1, iv 2] [(.int (1 : Int32)), (.int (2 : Int32)), (.ref res), (.int (1 : Int32)), (.ref res)] _
        refine st9 _ ?_
        show sS p e below T9 m 86 #[rv ad, iv 3, rv res, iv 3, iv xi, iv 1, iv 2] [] _
        refine XS.aloadN X9.here hx rfl (hb hby dH_86) rfl rfl ?_
        refine XS.iload X9.here hx rfl (hb hby dH_87) rfl ?_
        refine XS.iload X9.here hx rfl (hb hby dH_89) rfl ?_
        show sS p e below T9 m 91 #[rv ad, iv 3, rv res, iv 3, iv xi, iv 1, iv 2] [(.int xi), (.int (1 : Int32)), (.ref res)] _
        refine st11 _ ?_
        show sS p e below T11 m 92 #[rv ad, iv 3, rv res, iv 3, iv xi, iv 1, iv 2] [] _
        refine XS.iload X11.here hx rfl (hb hby dH_92) rfl ?_
        refine XS.iconst X11.here hx rfl (hb hby dH_94) ?_
        refine XS.iadd X11.here hx rfl (hb hby dH_95) rfl ?_
        refine XS.istoreN X11.here hx rfl (hb hby dH_96) rfl (l' := #[rv ad, iv 3, rv res, iv 3, iv xi, iv 1, iv 2]) rfl ?_
        refine XS.iinc X11.here hx rfl (hb hby dH_97) rfl (l' := #[rv ad, iv 3, rv res, iv 3, .val (.int (xi + (1 : Int32))), iv 1, iv 2]) rfl ?_
        refine XS.goto X11.here hx rfl (pc0 := 100) (pc' := 14) rfl (hb hby dH_100) (by decide) (by decide) ?_
        exact kt
      · obtain ⟨_, _, ⟨T12, L12, k12, n12⟩, -, X12, ⟨Lc12, hQ12, l12, y12, z12⟩, st12⟩ := Jvm.LawKit.callS X7 hx (y := ⟨"java/lang/Math", "min", "(II)I"⟩) hown (mvT hZ (wK hw (i := 10) rfl)) (mvT hZ (wK hw (i := 11) rfl)) (mvT hZ (wK hw (i := 12) rfl)) (mvT hZ (wK hw (i := 13) rfl)) (by decide) (backOf (W := 0) (rmmn_3_2 l Z a0 hw []  h0 n0 Z0) hZ (wK hw (i := 13) rfl) (wK hw (i := 12) rfl) (by decide) (by decide)) (g := (mkF m 65 #[rv ad, iv 3, rv res, iv 3, iv xi, iv 0, iv x6] [(.int (2 : Int32)), (.int (3 : Int32))])) rfl (by rw [hml]; rfl) (argsL := [(.int (3 : Int32)), (.int (2 : Int32))]) (rest := []) (lenOf pd_4 rfl) rfl (Nat.le_of_eq rfl) (hb hby dH_65) (fun _ _ => ⟨rfl, eh7, (by decide : 1 + 0 ≤ _), (by decide : 3 + 0 ≤ _)⟩)
        dsimp only [Pt.U, Pt.locs, Pt.cells, Pt.slots] at X12 l12 y12 z12 st12 hQ12
        subst l12 y12 z12
        obtain ⟨rfl, N12q, eh12⟩ := hQ12
        have N12 := Fr.app N7 N12q
        obtain ⟨T13, h13, L13, X13, e13, N13, K13, Vc13, st13⟩ := cpA X12 hx hZ hown (wK hw (i := 14) rfl) (wK hw (i := 17) rfl) (wK hw (i := 15) rfl) (wK hw (i := 16) rfl) eh12 V_r V_r (us := [(.int r0), (.int r1)]) (sp := (0 : Int32)) (dp := (1 : Int32)) (nn := (2 : Int32)) (Or.inl ⟨rfl, rfl⟩) (by decide) (by decide) (by decide) (by decide) (by decide) rfl (by show Int32.toNatClampNeg (1 : Int32) + Int32.toNatClampNeg (2 : Int32) ≤ 3; decide) N12 g_r (g := (mkF m 83 #[rv ad, iv 3, rv res, iv 3, iv xi, iv 0, iv 2] [(.int (2 : Int32)), (.int (1 : Int32)), (.ref res), (.int (0 : Int32)), (.ref res)])) rfl (by rw [hml]; rfl) rfl (hb hby dH_83) (by decide) (W := 0) (Nat.le_of_eq rfl) (by decide)
        have V13 : Arv Z h13 res kr .int (3 : Int32) [(.int r0), (.int r0), (.int r1)] (.int (0 : Int32)) := Vc13
        obtain ⟨cl14, Ar14, q14, S14, P14, Ha14, G14⟩ := V13
        have hin14 : ¬ ((0 : Int32) < 0 ∨ cl14.slots.size ≤ ((0 : Int32)).toNatClampNeg) := inb_of S14 ⟨by decide, by decide⟩
        obtain ⟨T15, h15, X15, e15, W15, st15⟩ := stI X13 hx hZ e13 Ar14 (j := (0 : Int32)) hin14 (g := (mkF m 91 #[rv ad, iv 3, rv res, iv 3, iv xi, iv 0, iv 2] [(.int xi), (.int (0 : Int32)), (.ref res)])) rfl rfl (hb hby dH_91)
        have V15 : Arv Z h15 res kr .int (3 : Int32) [(.int xi), (.int r0), (.int r1)] (.int (0 : Int32)) := Arv.set Ar14 q14 S14 P14 Ha14 G14 rfl W15 0 rfl (Nat.le_of_ble_eq_true rfl)
        have N15 := Fr.snoc X15 N13 g_r
        refine ⟨T15, h15, _, (0 : Int32), (2 : Int32), xi, r0, r1, xd, v0, v1, X15, e15, N15, (((Keep.refl h0 [res]).trans K13 (allS (Or.inl (List.mem_of_getElem? (i := 0) rfl)) all0)).wr W15 (Or.inl (List.mem_of_getElem? (i := 0) rfl))), V15, (by simp [own_ins, own_insR, hc44, hc44', hc44'']), b_xi, e_xi, b_r0, e_r0, b_r1, e_r1, fun target kt => ?_⟩
        show sS p e below T0 m 14 #[rv ad, iv 3, rv res, iv 3, iv xi, iv x5, iv x6] [] _
        refine XS.iload X0.here hx rfl (hb hby dH_14) rfl ?_
        refine XS.aloadN X0.here hx rfl (hb hby dH_16) rfl rfl ?_
        refine own_len X0 hx hZ e0 V_d rfl rfl (hb hby dH_17) ?_
        refine XS.icmpNo X0.here hx rfl (hb hby dH_18) rfl hi18 ?_
        refine XS.iloadN X0.here hx rfl (hb hby dH_21) rfl ?_
        refine XS.istore X0.here hx rfl (hb hby dH_22) rfl (l' := #[rv ad, iv 3, rv res, iv 3, iv xi, iv 3, iv x6]) rfl ?_
        show sS p e below T0 m 24 #[rv ad, iv 3, rv res, iv 3, iv xi, iv 3, iv x6] [] _
        refine XS.iload X0.here hx rfl (hb hby dH_24) rfl ?_
        refine XS.ifNo X0.here hx rfl (hb hby dH_26) rfl (by decide) ?_
        refine XS.aloadN X0.here hx rfl (hb hby dH_29) rfl rfl ?_
        refine XS.iload X0.here hx rfl (hb hby dH_30) rfl ?_
        refine own_ldD X0 hx hZ e0 V_d b_xi (v := (FP.i2d xd)) e_xi rfl rfl (hb hby dH_32) ?_
        refine XS.aloadN X0.here hx rfl (hb hby dH_33) rfl rfl ?_
        show sS p e below T0 m 34 #[rv ad, iv 3, rv res, iv 3, iv xi, iv 3, iv x6] [(.ref ad), (.double (FP.i2d xd))] _
        refine XS.aloadN X0.here hx rfl (hb hby dH_34) rfl rfl ?_
        refine XS.iload X0.here hx rfl (hb hby dH_35) rfl ?_
        refine XS.iconst X0.here hx rfl (hb hby dH_37) ?_
        refine XS.isub X0.here hx rfl (hb hby dH_38) rfl ?_
        refine own_ldI X0 hx hZ e0 V_r ⟨by decide, by decide⟩ (v := r2) rfl rfl rfl (hb hby dH_39) ?_
        refine own_ldD X0 hx hZ e0 V_d b_r2 (v := (FP.i2d v2)) e_r2 rfl rfl (hb hby dH_40) ?_
        show sS p e below T0 m 41 #[rv ad, iv 3, rv res, iv 3, iv xi, iv 3, iv x6] [(.double (FP.i2d v2)), (.double (FP.i2d xd))] _
        refine st1 _ ?_
        show sS p e below T1 m 44 #[rv ad, iv 3, rv res, iv 3, iv xi, iv 3, iv x6] [(.int (own_dc xd v2))] _
        refine XS.ifNo X1.here hx rfl (hb hby dH_44) rfl hc44 ?_
        refine XS.iinc X1.here hx rfl (hb hby dH_47) rfl (l' := #[rv ad, iv 3, rv res, iv 3, iv xi, iv 2, iv x6]) rfl ?_
        refine XS.goto X1.here hx rfl (pc0 := 50) (pc' := 24) rfl (hb hby dH_50) (by decide) (by decide) ?_
        refine XS.iload X1.here hx rfl (hb hby dH_24) rfl ?_
        refine XS.ifNo X1.here hx rfl (hb hby dH_26) rfl (by decide) ?_
        refine XS.aloadN X1.here hx rfl (hb hby dH_29) rfl rfl ?_
        show sS p e below T1 m 30 #[rv ad, iv 3, rv res, iv 3, iv xi, iv 2, iv x6] [(.ref ad)] _
        refine XS.iload X1.here hx rfl (hb hby dH_30) rfl ?_
        refine own_ldD X1 hx hZ eh1 V_d b_xi (v := (FP.i2d xd)) e_xi rfl rfl (hb hby dH_32) ?_
        refine XS.aloadN X1.here hx rfl (hb hby dH_33) rfl rfl ?_
        refine XS.aloadN X1.here hx rfl (hb hby dH_34) rfl rfl ?_
        refine XS.iload X1.here hx rfl (hb hby dH_35) rfl ?_
        refine XS.iconst X1.here hx rfl (hb hby dH_37) ?_
        show sS p e below T1 m 38 #[rv ad, iv 3, rv res, iv 3, iv xi, iv 2, iv x6] [(.int (1 : Int32)), (.int (2 : Int32)), (.ref res), (.ref ad), (.double (FP.i2d xd))] _
        refine XS.isub X1.here hx rfl (hb hby dH_38) rfl ?_
        refine own_ldI X1 hx hZ eh1 V_r ⟨by decide, by decide⟩ (v := r1) rfl rfl rfl (hb hby dH_39) ?_
        refine own_ldD X1 hx hZ eh1 V_d b_r1 (v := (FP.i2d v1)) e_r1 rfl rfl (hb hby dH_40) ?_
        show sS p e below T1 m 41 #[rv ad, iv 3, rv res, iv 3, iv xi, iv 2, iv x6] [(.double (FP.i2d v1)), (.double (FP.i2d xd))] _
        refine st2 _ ?_
        show sS p e below T2 m 44 #[rv ad, iv 3, rv res, iv 3, iv xi, iv 2, iv x6] [(.int (own_dc xd v1))] _
        refine XS.ifNo X2.here hx rfl (hb hby dH_44) rfl hc44' ?_
        refine XS.iinc X2.here hx rfl (hb hby dH_47) rfl (l' := #[rv ad, iv 3, rv res, iv 3, iv xi, iv 1, iv x6]) rfl ?_
        refine XS.goto X2.here hx rfl (pc0 := 50) (pc' := 24) rfl (hb hby dH_50) (by decide) (by decide) ?_
        refine XS.iload X2.here hx rfl (hb hby dH_24) rfl ?_
        refine XS.ifNo X2.here hx rfl (hb hby dH_26) rfl (by decide) ?_
        refine XS.aloadN X2.here hx rfl (hb hby dH_29) rfl rfl ?_
        show sS p e below T2 m 30 #[rv ad, iv 3, rv res, iv 3, iv xi, iv 1, iv x6] [(.ref ad)] _
        refine XS.iload X2.here hx rfl (hb hby dH_30) rfl ?_
        refine own_ldD X2 hx hZ eh2 V_d b_xi (v := (FP.i2d xd)) e_xi rfl rfl (hb hby dH_32) ?_
        refine XS.aloadN X2.here hx rfl (hb hby dH_33) rfl rfl ?_
        refine XS.aloadN X2.here hx rfl (hb hby dH_34) rfl rfl ?_
        refine XS.iload X2.here hx rfl (hb hby dH_35) rfl ?_
        refine XS.iconst X2.here hx rfl (hb hby dH_37) ?_
        show sS p e below T2 m 38 #[rv ad, iv 3, rv res, iv 3, iv xi, iv 1, iv x6] [(.int (1 : Int32)), (.int (1 : Int32)), (.ref res), (.ref ad), (.double (FP.i2d xd))] _
        refine XS.isub X2.here hx rfl (hb hby dH_38) rfl ?_
        refine own_ldI X2 hx hZ eh2 V_r ⟨by decide, by decide⟩ (v := r0) rfl rfl rfl (hb hby dH_39) ?_
        refine own_ldD X2 hx hZ eh2 V_d b_r0 (v := (FP.i2d v0)) e_r0 rfl rfl (hb hby dH_40) ?_
        show sS p e below T2 m 41 #[rv ad, iv 3, rv res, iv 3, iv xi, iv 1, iv x6] [(.double (FP.i2d v0)), (.double (FP.i2d xd))] _
        refine st7 _ ?_
        show sS p e below T7 m 44 #[rv ad, iv 3, rv res, iv 3, iv xi, iv 1, iv x6] [(.int (own_dc xd v0))] _
        refine XS.ifNo X7.here hx rfl (hb hby dH_44) rfl hc44'' ?_
        refine XS.iinc X7.here hx rfl (hb hby dH_47) rfl (l' := #[rv ad, iv 3, rv res, iv 3, iv xi, iv 0, iv x6]) rfl ?_
        refine XS.goto X7.here hx rfl (pc0 := 50) (pc' := 24) rfl (hb hby dH_50) (by decide) (by decide) ?_
        refine XS.iload X7.here hx rfl (hb hby dH_24) rfl ?_
        refine XS.ifYes X7.here hx rfl (pc0 := 26) (pc' := 53) rfl (hb hby dH_26) rfl (by decide) (by decide) (by decide) ?_
        refine XS.iload X7.here hx rfl (hb hby dH_53) rfl ?_
        show sS p e below T7 m 55 #[rv ad, iv 3, rv res, iv 3, iv xi, iv 0, iv x6] [(.int (0 : Int32))] _
        refine XS.aloadN X7.here hx rfl (hb hby dH_55) rfl rfl ?_
        refine own_len X7 hx hZ eh7 V_r rfl rfl (hb hby dH_56) ?_
        refine XS.icmpNo X7.here hx rfl (hb hby dH_57) rfl (by decide) ?_
        refine XS.iloadN X7.here hx rfl (hb hby dH_60) rfl ?_
        refine XS.aloadN X7.here hx rfl (hb hby dH_61) rfl rfl ?_
        refine own_len X7 hx hZ eh7 V_r rfl rfl (hb hby dH_62) ?_
        show sS p e below T7 m 63 #[rv ad, iv 3, rv res, iv 3, iv xi, iv 0, iv x6] [(.int (3 : Int32)), (.int (3 : Int32))] _
        refine XS.iconst X7.here hx rfl (hb hby dH_63) ?_
        refine XS.isub X7.here hx rfl (hb hby dH_64) rfl ?_
        show sS p e below T7 m 65 #[rv ad, iv 3, rv res, iv 3, iv xi, iv 0, iv x6] [(.int (2 : Int32)), (.int (3 : Int32))] _
        refine st12 _ ?_
        show sS p e below T12 m 68 #[rv ad, iv 3, rv res, iv 3, iv xi, iv 0, iv x6] [(.int (2 : Int32))] _
        refine XS.istore X12.here hx rfl (hb hby dH_68) rfl (l' := #[rv ad, iv 3, rv res, iv 3, iv xi, iv 0, iv 2]) rfl ?_
        refine XS.aloadN X12.here hx rfl (hb hby dH_70) rfl rfl ?_
        refine XS.iload X12.here hx rfl (hb hby dH_71) rfl ?_
        refine XS.aloadN X12.here hx rfl (hb hby dH_73) rfl rfl ?_
        refine XS.iload X12.here hx rfl (hb hby dH_74) rfl ?_
        refine XS.iconst X12.here hx rfl (hb hby dH_76) ?_
        show sS p e below T12 m 77 #[rv ad, iv 3, rv res, iv 3, iv xi, iv 0, iv 2] [(.int (1 : Int32)), (.int (0 : Int32)), (.ref res), (.int (0 : Int32)), (.ref res)] _
        refine XS.iadd X12.here hx rfl (hb hby dH_77) rfl ?_
        refine XS.iload X12.here hx rfl (hb hby dH_78) rfl ?_
        refine XS.iload X12.here hx rfl (hb hby dH_80) rfl ?_
        refine XS.isub X12.here hx rfl (hb hby dH_82) rfl ?_
        show sS p e below T12 m 83 #[rv ad, iv 3, rv res, iv 3, iv xi, iv 0, iv 2] [(.int (2 : Int32)), (.int (1 : Int32)), (.ref res), (.int (0 : Int32)), (.ref res)] _
        refine st13 _ ?_
        show sS p e below T13 m 86 #[rv ad, iv 3, rv res, iv 3, iv xi, iv 0, iv 2] [] _
        refine XS.aloadN X13.here hx rfl (hb hby dH_86) rfl rfl ?_
        refine XS.iload X13.here hx rfl (hb hby dH_87) rfl ?_
        refine XS.iload X13.here hx rfl (hb hby dH_89) rfl ?_
        show sS p e below T13 m 91 #[rv ad, iv 3, rv res, iv 3, iv xi, iv 0, iv 2] [(.int xi), (.int (0 : Int32)), (.ref res)] _
        refine st15 _ ?_
        show sS p e below T15 m 92 #[rv ad, iv 3, rv res, iv 3, iv xi, iv 0, iv 2] [] _
        refine XS.iload X15.here hx rfl (hb hby dH_92) rfl ?_
        refine XS.iconst X15.here hx rfl (hb hby dH_94) ?_
        refine XS.iadd X15.here hx rfl (hb hby dH_95) rfl ?_
        refine XS.istoreN X15.here hx rfl (hb hby dH_96) rfl (l' := #[rv ad, iv 3, rv res, iv 3, iv xi, iv 0, iv 2]) rfl ?_
        refine XS.iinc X15.here hx rfl (hb hby dH_97) rfl (l' := #[rv ad, iv 3, rv res, iv 3, .val (.int (xi + (1 : Int32))), iv 0, iv 2]) rfl ?_
        refine XS.goto X15.here hx rfl (pc0 := 100) (pc' := 14) rfl (hb hby dH_100) (by decide) (by decide) ?_
        exact kt
theorem pn_2 : plainName "com/example/gadabout/gadabout/model/Clustering" = true := by first | (simp [plainName, overriddenIn]; done) | decide +kernel
theorem ef_ne0 (m : MethodId) (x0 : Addr) (x1 : Int32) : entryFrame m #[(.ref x0), (.int x1)] 7 = mkF m 0 #[rv x0, iv x1, .unset, .unset, .unset, .unset, .unset] [] := by first | (simp [entryFrame, mkF, argsToLocals, Value.category]; done) | rfl
def Qne0 (Z : State) (ad : Addr) (kd : ClassId) (h0 : Heap) (n0 : Nat) (v : Option Value) (h : Heap) (L : List Loc) : Prop := ∃ (b : Addr) (kb : ClassId), v = some (.ref b) ∧ Fr n0 L ∧ Keep h0 h [] ∧ h0.size ≤ b ∧ Arv Z h b kb .int (0 : Int32) [] (.int (0 : Int32)) ∧ [] = own_near0
set_option maxRecDepth 65536 in
set_option maxHeartbeats 40000000 in
theorem rmne0 (l : Launch) (Z : State) (a0 : Array Value) (hw : ∀ d ∈ tables_1, d.before a0 Z = true) (ws : List Jvm.Cond) (ad : Addr) (kd : ClassId) (h0 : Heap) (n0 : Nat) (Z0 : n0 ≤ h0.size) (V_d : Arv Z h0 ad kd .double (0 : Int32) [] (.double (0 : UInt64))) :
    MetFree l (⟨cN1, "nearest", "([DI)[I"⟩ : MethodName) (head1 (Jvm.Cond.code (⟨cN1, "nearest", "([DI)[I"⟩ : MethodName) prog_5_method_4_code 7 (some (.array .int)) :: ws) ({ frames := 3, cells := 1, slots := 0, locals := 64 } : Room)) (fun a U => a = #[(.ref ad), (.int (3 : Int32))] ∧ Z.Warmed39 U.vm ∧ U.heap = h0) (fun _ _ _ _ _ => True) (fun _ U o U' => ∃ v L, o = .returned v ∧ Qne0 Z ad kd h0 n0 v U'.heap L ∧ FrameEnd U o U' L ({ frames := 3, cells := 1, slots := 0, locals := 64 } : Room).cells ({ frames := 3, cells := 1, slots := 0, locals := 64 } : Room).slots) := by
  refine MetFree.of_bodySF (plainFor_of_name pn_2) hisR ?_
  intro p e s m args below meth c s₁ Bd hml0 hP hK
  obtain ⟨rfl, hZ, hh⟩ := hP
  have hx := Bd.exec
  have hby := Bd.bytes
  have hml : c.maxLocals = 7 := hml0
  have hown : s.vm.findClass cN1 = some m.cls := findClass_of_methodNamed Bd.named
  have hnm := (name_of_methodNamed Bd.named Bd.method).1
  have X0 : Stand p l e ({ frames := 3, cells := 1, slots := 0, locals := 64 } : Room) s m #[(.ref ad), (.int (3 : Int32))] below meth c s₁ [] 0 0 := Stand.of_body Bd
  have e0 : s₁.heap = h0 := by rw [← hh, Bd.state]; rfl
  have N0 := Fr.nil n0
  have pre0 : ∀ t, Steps p.tables e below (s₁.setTop (mkF m 0 #[rv ad, iv 3, .unset, .unset, .unset, .unset, .unset] [])) t → Steps p.tables e below (s₁.setTop (entryFrame m #[(.ref ad), (.int (3 : Int32))] 7)) t := fun t k => castTop (ef_ne0 m ad (3 : Int32)) k
  obtain ⟨_, _, ⟨T1, L1, k1, n1⟩, -, X1, ⟨Lc1, hQ1, l1, y1, z1⟩, st1⟩ := Jvm.LawKit.callS X0 hx (y := ⟨"java/lang/Math", "min", "(II)I"⟩) hown (mvT hZ (wK hw (i := 10) rfl)) (mvT hZ (wK hw (i := 11) rfl)) (mvT hZ (wK hw (i := 12) rfl)) (mvT hZ (wK hw (i := 13) rfl)) (by decide) (backOf (W := 0) (rmmn_3_0 l Z a0 hw []  h0 n0 Z0) hZ (wK hw (i := 13) rfl) (wK hw (i := 12) rfl) (by decide) (by decide)) (g := (mkF m 3 #[rv ad, iv 3, .unset, .unset, .unset, .unset, .unset] [(.int (0 : Int32)), (.int (3 : Int32))])) rfl (by rw [hml]; rfl) (argsL := [(.int (3 : Int32)), (.int (0 : Int32))]) (rest := []) (lenOf pd_4 rfl) rfl (Nat.le_of_eq rfl) (hb hby dH_3) (fun _ _ => ⟨rfl, e0, (by decide : 0 + 0 ≤ _), (by decide : 0 + 0 ≤ _)⟩)
  dsimp only [Pt.U, Pt.locs, Pt.cells, Pt.slots] at X1 l1 y1 z1 st1 hQ1
  subst l1 y1 z1
  obtain ⟨rfl, N1q, eh1⟩ := hQ1
  have N1 := Fr.app N0 N1q
  obtain ⟨T2, h2, k2, X2, e2, E2, A2, Ax2, st2⟩ := newPE X1 hx hZ (wK hw (i := 0) rfl) eh1 (g := (mkF m 6 #[rv ad, iv 3, .unset, .unset, .unset, .unset, .unset] [(.int (0 : Int32))])) rfl (hb hby dH_6) rfl (by decide) (cap := 0) (by decide) (by decide) (by decide) (by decide) (ad := "[I") (by decide)
  obtain ⟨b2, g2⟩ : ∃ z, z = h0.size := ⟨_, rfl⟩
  rw [← g2] at A2 Ax2 st2
  have V2 : Arv Z h2 b2 k2 .int (0 : Int32) [] (.int (0 : Int32)) := (Arv.new A2 (by decide)).pad (pad_rep [] (.int (0 : Int32)) 0)
  obtain ⟨fs, hr, hrun, hended, hW, hsame⟩ := X2.leave (v := some (.ref b2)) (fun h => by rw [Bd.returns] at h; cases h)
  refine ⟨_, _, pre0 _ ?_, hrun, hended, _, _, rfl, ?_, ⟨_, rfl⟩, hW, hsame.mono (by decide) (by decide)⟩
  · show sS p e below s₁ m 0 #[rv ad, iv 3, .unset, .unset, .unset, .unset, .unset] [] _
    refine XS.iloadN X0.here hx rfl (hb hby dH_0) rfl ?_
    refine XS.aloadN X0.here hx rfl (hb hby dH_1) rfl rfl ?_
    refine own_len X0 hx hZ e0 V_d rfl rfl (hb hby dH_2) ?_
    show sS p e below s₁ m 3 #[rv ad, iv 3, .unset, .unset, .unset, .unset, .unset] [(.int (0 : Int32)), (.int (3 : Int32))] _
    refine st1 _ ?_
    show sS p e below T1 m 6 #[rv ad, iv 3, .unset, .unset, .unset, .unset, .unset] [(.int (0 : Int32))] _
    refine st2 _ ?_
    show sS p e below T2 m 8 #[rv ad, iv 3, .unset, .unset, .unset, .unset, .unset] [(.ref b2)] _
    refine XS.astoreN X2.here hx rfl (hb hby dH_8) rfl rfl (l' := #[rv ad, iv 3, rv b2, .unset, .unset, .unset, .unset]) rfl ?_
    refine XS.iconst X2.here hx rfl (hb hby dH_9) ?_
    refine XS.istoreN X2.here hx rfl (hb hby dH_10) rfl (l' := #[rv ad, iv 3, rv b2, iv 0, .unset, .unset, .unset]) rfl ?_
    refine XS.iconst X2.here hx rfl (hb hby dH_11) ?_
    refine XS.istore X2.here hx rfl (hb hby dH_12) rfl (l' := #[rv ad, iv 3, rv b2, iv 0, iv 0, .unset, .unset]) rfl ?_
    refine XS.iload X2.here hx rfl (hb hby dH_14) rfl ?_
    show sS p e below T2 m 16 #[rv ad, iv 3, rv b2, iv 0, iv 0, .unset, .unset] [(.int (0 : Int32))] _
    refine XS.aloadN X2.here hx rfl (hb hby dH_16) rfl rfl ?_
    refine own_len X2 hx hZ e2 (V_d.ext E2) rfl rfl (hb hby dH_17) ?_
    refine XS.icmpYes X2.here hx rfl (pc0 := 18) (pc' := 103) rfl (hb hby dH_18) rfl (by decide) (by decide) (by decide) ?_
    refine XS.aloadN X2.here hx rfl (hb hby dH_103) rfl rfl ?_
    show sS p e below T2 m 104 #[rv ad, iv 3, rv b2, iv 0, iv 0, .unset, .unset] [(.ref b2)] _
    exact retOut X2 hx Bd.returns rfl (Or.inr (Or.inr (Or.inr (Or.inr ⟨rfl, rfl, rfl⟩)))) (hb hby dH_104) hr
  · show Qne0 Z ad kd h0 n0 _ T2.heap _
    rw [e2]
    exact ⟨b2, _, rfl, N1, ((Keep.refl h0 []).ext E2), (Nat.le_trans (Nat.le_refl _) (Nat.le_of_eq g2.symm)), V2, rfl⟩
theorem ef_ne1 (m : MethodId) (x0 : Addr) (x1 : Int32) : entryFrame m #[(.ref x0), (.int x1)] 7 = mkF m 0 #[rv x0, iv x1, .unset, .unset, .unset, .unset, .unset] [] := by first | (simp [entryFrame, mkF, argsToLocals, Value.category]; done) | rfl
def Qne1 (Z : State) (ad : Addr) (kd : ClassId) (d0 : Int32) (h0 : Heap) (n0 : Nat) (v : Option Value) (h : Heap) (L : List Loc) : Prop := ∃ (b : Addr) (kb : ClassId) (z0 w0 : Int32), v = some (.ref b) ∧ Fr n0 L ∧ Keep h0 h [] ∧ h0.size ≤ b ∧ Arv Z h b kb .int (1 : Int32) [(.int z0)] (.int (0 : Int32)) ∧ [(z0, w0)] = own_near1 d0 ∧ (¬ z0 < 0 ∧ z0 < (1 : Int32))
set_option maxRecDepth 65536 in
set_option maxHeartbeats 40000000 in
theorem rmne1 (l : Launch) (Z : State) (a0 : Array Value) (hw : ∀ d ∈ tables_1, d.before a0 Z = true) (ws : List Jvm.Cond) (ad : Addr) (kd : ClassId) (d0 : Int32) (h0 : Heap) (n0 : Nat) (Z0 : n0 ≤ h0.size) (V_d : Arv Z h0 ad kd .double (1 : Int32) [(.double (FP.i2d d0))] (.double (0 : UInt64))) :
    MetFree l (⟨cN1, "nearest", "([DI)[I"⟩ : MethodName) (head1 (Jvm.Cond.code (⟨cN1, "nearest", "([DI)[I"⟩ : MethodName) prog_5_method_4_code 7 (some (.array .int)) :: ws) ({ frames := 3, cells := 1, slots := 1, locals := 64 } : Room)) (fun a U => a = #[(.ref ad), (.int (3 : Int32))] ∧ Z.Warmed39 U.vm ∧ U.heap = h0) (fun _ _ _ _ _ => True) (fun _ U o U' => ∃ v L, o = .returned v ∧ Qne1 Z ad kd d0 h0 n0 v U'.heap L ∧ FrameEnd U o U' L ({ frames := 3, cells := 1, slots := 1, locals := 64 } : Room).cells ({ frames := 3, cells := 1, slots := 1, locals := 64 } : Room).slots) := by
  refine MetFree.of_bodySF (plainFor_of_name pn_2) hisR ?_
  intro p e s m args below meth c s₁ Bd hml0 hP hK
  obtain ⟨rfl, hZ, hh⟩ := hP
  have hx := Bd.exec
  have hby := Bd.bytes
  have hml : c.maxLocals = 7 := hml0
  have hown : s.vm.findClass cN1 = some m.cls := findClass_of_methodNamed Bd.named
  have hnm := (name_of_methodNamed Bd.named Bd.method).1
  have X0 : Stand p l e ({ frames := 3, cells := 1, slots := 1, locals := 64 } : Room) s m #[(.ref ad), (.int (3 : Int32))] below meth c s₁ [] 0 0 := Stand.of_body Bd
  have e0 : s₁.heap = h0 := by rw [← hh, Bd.state]; rfl
  have N0 := Fr.nil n0
  have pre0 : ∀ t, Steps p.tables e below (s₁.setTop (mkF m 0 #[rv ad, iv 3, .unset, .unset, .unset, .unset, .unset] [])) t → Steps p.tables e below (s₁.setTop (entryFrame m #[(.ref ad), (.int (3 : Int32))] 7)) t := fun t k => castTop (ef_ne1 m ad (3 : Int32)) k
  obtain ⟨_, _, ⟨T1, L1, k1, n1⟩, -, X1, ⟨Lc1, hQ1, l1, y1, z1⟩, st1⟩ := Jvm.LawKit.callS X0 hx (y := ⟨"java/lang/Math", "min", "(II)I"⟩) hown (mvT hZ (wK hw (i := 10) rfl)) (mvT hZ (wK hw (i := 11) rfl)) (mvT hZ (wK hw (i := 12) rfl)) (mvT hZ (wK hw (i := 13) rfl)) (by decide) (backOf (W := 0) (rmmn_3_1 l Z a0 hw []  h0 n0 Z0) hZ (wK hw (i := 13) rfl) (wK hw (i := 12) rfl) (by decide) (by decide)) (g := (mkF m 3 #[rv ad, iv 3, .unset, .unset, .unset, .unset, .unset] [(.int (1 : Int32)), (.int (3 : Int32))])) rfl (by rw [hml]; rfl) (argsL := [(.int (3 : Int32)), (.int (1 : Int32))]) (rest := []) (lenOf pd_4 rfl) rfl (Nat.le_of_eq rfl) (hb hby dH_3) (fun _ _ => ⟨rfl, e0, (by decide : 0 + 0 ≤ _), (by decide : 0 + 0 ≤ _)⟩)
  dsimp only [Pt.U, Pt.locs, Pt.cells, Pt.slots] at X1 l1 y1 z1 st1 hQ1
  subst l1 y1 z1
  obtain ⟨rfl, N1q, eh1⟩ := hQ1
  have N1 := Fr.app N0 N1q
  obtain ⟨T2, h2, k2, X2, e2, E2, A2, Ax2, st2⟩ := newPE X1 hx hZ (wK hw (i := 0) rfl) eh1 (g := (mkF m 6 #[rv ad, iv 3, .unset, .unset, .unset, .unset, .unset] [(.int (1 : Int32))])) rfl (hb hby dH_6) rfl (by decide) (cap := 1) (by decide) (by decide) (by decide) (by decide) (ad := "[I") (by decide)
  obtain ⟨b2, g2⟩ : ∃ z, z = h0.size := ⟨_, rfl⟩
  rw [← g2] at A2 Ax2 st2
  have V2 : Arv Z h2 b2 k2 .int (1 : Int32) [(.int (0 : Int32))] (.int (0 : Int32)) := (Arv.new A2 (by decide)).pad (pad_rep [] (.int (0 : Int32)) 1)
  obtain ⟨T3, h3, L3, y5_0, y6_0, z0_0, w0_0, X3, e3, N3, K3, V3, q_0, b_z0_0, e_z0_0, st3⟩ := tn_1_0 (xi := (0 : Int32)) (xd := d0) X2 hx hZ hw hby hml hown e2 (Nat.le_trans Z0 E2.1) N1 (V_d.ext E2) V2 (Nat.ne_of_lt (Nat.lt_of_lt_of_le V_d.lt (Nat.le_of_eq g2.symm))) (Nat.le_trans Z0 (Nat.le_trans (Nat.le_refl _) (Nat.le_of_eq g2.symm))) (by decide) ⟨by decide, by decide⟩ rfl
  obtain ⟨fs, hr, hrun, hended, hW, hsame⟩ := X3.leave (v := some (.ref b2)) (fun h => by rw [Bd.returns] at h; cases h)
  refine ⟨_, _, pre0 _ ?_, hrun, hended, _, _, rfl, ?_, ⟨_, rfl⟩, hW, hsame.mono (by decide) (by decide)⟩
  · show sS p e below s₁ m 0 #[rv ad, iv 3, .unset, .unset, .unset, .unset, .unset] [] _
    refine XS.iloadN X0.here hx rfl (hb hby dH_0) rfl ?_
    refine XS.aloadN X0.here hx rfl (hb hby dH_1) rfl rfl ?_
    refine own_len X0 hx hZ e0 V_d rfl rfl (hb hby dH_2) ?_
    show sS p e below s₁ m 3 #[rv ad, iv 3, .unset, .unset, .unset, .unset, .unset] [(.int (1 : Int32)), (.int (3 : Int32))] _
    refine st1 _ ?_
    show sS p e below T1 m 6 #[rv ad, iv 3, .unset, .unset, .unset, .unset, .unset] [(.int (1 : Int32))] _
    refine st2 _ ?_
    show sS p e below T2 m 8 #[rv ad, iv 3, .unset, .unset, .unset, .unset, .unset] [(.ref b2)] _
    refine XS.astoreN X2.here hx rfl (hb hby dH_8) rfl rfl (l' := #[rv ad, iv 3, rv b2, .unset, .unset, .unset, .unset]) rfl ?_
    refine XS.iconst X2.here hx rfl (hb hby dH_9) ?_
    refine XS.istoreN X2.here hx rfl (hb hby dH_10) rfl (l' := #[rv ad, iv 3, rv b2, iv 0, .unset, .unset, .unset]) rfl ?_
    refine XS.iconst X2.here hx rfl (hb hby dH_11) ?_
    refine XS.istore X2.here hx rfl (hb hby dH_12) rfl (l' := #[rv ad, iv 3, rv b2, iv 0, iv 0, .unset, .unset]) rfl ?_
    show sS p e below T2 m 14 #[rv ad, iv 3, rv b2, iv 0, iv 0, .unset, .unset] [] _
    refine st3 _ ?_
    show sS p e below T3 m 14 #[rv ad, iv 3, rv b2, iv 1, iv 1, iv y5_0, iv y6_0] [] _
    refine XS.iload X3.here hx rfl (hb hby dH_14) rfl ?_
    refine XS.aloadN X3.here hx rfl (hb hby dH_16) rfl rfl ?_
    refine own_len X3 hx hZ e3 ((V_d.ext E2).keep K3 (ninS (Nat.ne_of_lt (Nat.lt_of_lt_of_le V_d.lt (Nat.le_of_eq g2.symm))) nin0)) rfl rfl (hb hby dH_17) ?_
    refine XS.icmpYes X3.here hx rfl (pc0 := 18) (pc' := 103) rfl (hb hby dH_18) rfl (by decide) (by decide) (by decide) ?_
    refine XS.aloadN X3.here hx rfl (hb hby dH_103) rfl rfl ?_
    show sS p e below T3 m 104 #[rv ad, iv 3, rv b2, iv 1, iv 1, iv y5_0, iv y6_0] [(.ref b2)] _
    exact retOut X3 hx Bd.returns rfl (Or.inr (Or.inr (Or.inr (Or.inr ⟨rfl, rfl, rfl⟩)))) (hb hby dH_104) hr
  · show Qne1 Z ad kd d0 h0 n0 _ T3.heap _
    rw [e3]
    exact ⟨b2, _, z0_0, w0_0, rfl, N3, (((Keep.refl h0 []).ext E2).trans K3 (allS (Or.inr (Nat.le_trans (Nat.le_refl _) (Nat.le_of_eq g2.symm))) all0)), (Nat.le_trans (Nat.le_refl _) (Nat.le_of_eq g2.symm)), V3, (by unfold own_near1; rw [← q_0]), b_z0_0⟩
theorem ef_ne2 (m : MethodId) (x0 : Addr) (x1 : Int32) : entryFrame m #[(.ref x0), (.int x1)] 7 = mkF m 0 #[rv x0, iv x1, .unset, .unset, .unset, .unset, .unset] [] := by first | (simp [entryFrame, mkF, argsToLocals, Value.category]; done) | rfl
def Qne2 (Z : State) (ad : Addr) (kd : ClassId) (d0 d1 : Int32) (h0 : Heap) (n0 : Nat) (v : Option Value) (h : Heap) (L : List Loc) : Prop := ∃ (b : Addr) (kb : ClassId) (z0 z1 w0 w1 : Int32), v = some (.ref b) ∧ Fr n0 L ∧ Keep h0 h [] ∧ h0.size ≤ b ∧ Arv Z h b kb .int (2 : Int32) [(.int z0), (.int z1)] (.int (0 : Int32)) ∧ [(z0, w0), (z1, w1)] = own_near2 d0 d1 ∧ (¬ z0 < 0 ∧ z0 < (2 : Int32)) ∧ (¬ z1 < 0 ∧ z1 < (2 : Int32))
set_option maxRecDepth 65536 in
set_option maxHeartbeats 40000000 in
theorem rmne2 (l : Launch) (Z : State) (a0 : Array Value) (hw : ∀ d ∈ tables_1, d.before a0 Z = true) (ws : List Jvm.Cond) (ad : Addr) (kd : ClassId) (d0 d1 : Int32) (h0 : Heap) (n0 : Nat) (Z0 : n0 ≤ h0.size) (V_d : Arv Z h0 ad kd .double (2 : Int32) [(.double (FP.i2d d0)), (.double (FP.i2d d1))] (.double (0 : UInt64))) :
    MetFree l (⟨cN1, "nearest", "([DI)[I"⟩ : MethodName) (head1 (Jvm.Cond.code (⟨cN1, "nearest", "([DI)[I"⟩ : MethodName) prog_5_method_4_code 7 (some (.array .int)) :: ws) ({ frames := 3, cells := 1, slots := 2, locals := 64 } : Room)) (fun a U => a = #[(.ref ad), (.int (3 : Int32))] ∧ Z.Warmed39 U.vm ∧ U.heap = h0) (fun _ _ _ _ _ => True) (fun _ U o U' => ∃ v L, o = .returned v ∧ Qne2 Z ad kd d0 d1 h0 n0 v U'.heap L ∧ FrameEnd U o U' L ({ frames := 3, cells := 1, slots := 2, locals := 64 } : Room).cells ({ frames := 3, cells := 1, slots := 2, locals := 64 } : Room).slots) := by
  refine MetFree.of_bodySF (plainFor_of_name pn_2) hisR ?_
  intro p e s m args below meth c s₁ Bd hml0 hP hK
  obtain ⟨rfl, hZ, hh⟩ := hP
  have hx := Bd.exec
  have hby := Bd.bytes
  have hml : c.maxLocals = 7 := hml0
  have hown : s.vm.findClass cN1 = some m.cls := findClass_of_methodNamed Bd.named
  have hnm := (name_of_methodNamed Bd.named Bd.method).1
  have X0 : Stand p l e ({ frames := 3, cells := 1, slots := 2, locals := 64 } : Room) s m #[(.ref ad), (.int (3 : Int32))] below meth c s₁ [] 0 0 := Stand.of_body Bd
  have e0 : s₁.heap = h0 := by rw [← hh, Bd.state]; rfl
  have N0 := Fr.nil n0
  have pre0 : ∀ t, Steps p.tables e below (s₁.setTop (mkF m 0 #[rv ad, iv 3, .unset, .unset, .unset, .unset, .unset] [])) t → Steps p.tables e below (s₁.setTop (entryFrame m #[(.ref ad), (.int (3 : Int32))] 7)) t := fun t k => castTop (ef_ne2 m ad (3 : Int32)) k
  obtain ⟨_, _, ⟨T1, L1, k1, n1⟩, -, X1, ⟨Lc1, hQ1, l1, y1, z1⟩, st1⟩ := Jvm.LawKit.callS X0 hx (y := ⟨"java/lang/Math", "min", "(II)I"⟩) hown (mvT hZ (wK hw (i := 10) rfl)) (mvT hZ (wK hw (i := 11) rfl)) (mvT hZ (wK hw (i := 12) rfl)) (mvT hZ (wK hw (i := 13) rfl)) (by decide) (backOf (W := 0) (rmmn_3_2 l Z a0 hw []  h0 n0 Z0) hZ (wK hw (i := 13) rfl) (wK hw (i := 12) rfl) (by decide) (by decide)) (g := (mkF m 3 #[rv ad, iv 3, .unset, .unset, .unset, .unset, .unset] [(.int (2 : Int32)), (.int (3 : Int32))])) rfl (by rw [hml]; rfl) (argsL := [(.int (3 : Int32)), (.int (2 : Int32))]) (rest := []) (lenOf pd_4 rfl) rfl (Nat.le_of_eq rfl) (hb hby dH_3) (fun _ _ => ⟨rfl, e0, (by decide : 0 + 0 ≤ _), (by decide : 0 + 0 ≤ _)⟩)
  dsimp only [Pt.U, Pt.locs, Pt.cells, Pt.slots] at X1 l1 y1 z1 st1 hQ1
  subst l1 y1 z1
  obtain ⟨rfl, N1q, eh1⟩ := hQ1
  have N1 := Fr.app N0 N1q
  obtain ⟨T2, h2, k2, X2, e2, E2, A2, Ax2, st2⟩ := newPE X1 hx hZ (wK hw (i := 0) rfl) eh1 (g := (mkF m 6 #[rv ad, iv 3, .unset, .unset, .unset, .unset, .unset] [(.int (2 : Int32))])) rfl (hb hby dH_6) rfl (by decide) (cap := 2) (by decide) (by decide) (by decide) (by decide) (ad := "[I") (by decide)
  obtain ⟨b2, g2⟩ : ∃ z, z = h0.size := ⟨_, rfl⟩
  rw [← g2] at A2 Ax2 st2
  have V2 : Arv Z h2 b2 k2 .int (2 : Int32) [(.int (0 : Int32)), (.int (0 : Int32))] (.int (0 : Int32)) := (Arv.new A2 (by decide)).pad (pad_rep [] (.int (0 : Int32)) 2)
  obtain ⟨T3, h3, L3, y5_0, y6_0, z0_0, w0_0, X3, e3, N3, K3, V3, q_0, b_z0_0, e_z0_0, st3⟩ := tn_2_0 (xi := (0 : Int32)) (xd := d0) X2 hx hZ hw hby hml hown e2 (Nat.le_trans Z0 E2.1) N1 (V_d.ext E2) V2 (Nat.ne_of_lt (Nat.lt_of_lt_of_le V_d.lt (Nat.le_of_eq g2.symm))) (Nat.le_trans Z0 (Nat.le_trans (Nat.le_refl _) (Nat.le_of_eq g2.symm))) (by decide) ⟨by decide, by decide⟩ rfl
  obtain ⟨T4, h4, L4, y5_1, y6_1, z1_0, z1_1, w1_0, w1_1, X4, e4, N4, K4, V4, q_1, b_z1_0, e_z1_0, b_z1_1, e_z1_1, st4⟩ := tn_2_1 (xi := (1 : Int32)) (xd := d1) (x5 := y5_0) (x6 := y6_0) X3 hx hZ hw hby hml hown e3 (Nat.le_trans (Nat.le_trans Z0 E2.1) K3.1) N3 ((V_d.ext E2).keep K3 (ninS (Nat.ne_of_lt (Nat.lt_of_lt_of_le V_d.lt (Nat.le_of_eq g2.symm))) nin0)) V3 (Nat.ne_of_lt (Nat.lt_of_lt_of_le V_d.lt (Nat.le_of_eq g2.symm))) (Nat.le_trans Z0 (Nat.le_trans (Nat.le_refl _) (Nat.le_of_eq g2.symm))) (by decide) ⟨by decide, by decide⟩ rfl b_z0_0 e_z0_0
  obtain ⟨fs, hr, hrun, hended, hW, hsame⟩ := X4.leave (v := some (.ref b2)) (fun h => by rw [Bd.returns] at h; cases h)
  refine ⟨_, _, pre0 _ ?_, hrun, hended, _, _, rfl, ?_, ⟨_, rfl⟩, hW, hsame.mono (by decide) (by decide)⟩
  · show sS p e below s₁ m 0 #[rv ad, iv 3, .unset, .unset, .unset, .unset, .unset] [] _
    refine XS.iloadN X0.here hx rfl (hb hby dH_0) rfl ?_
    refine XS.aloadN X0.here hx rfl (hb hby dH_1) rfl rfl ?_
    refine own_len X0 hx hZ e0 V_d rfl rfl (hb hby dH_2) ?_
    show sS p e below s₁ m 3 #[rv ad, iv 3, .unset, .unset, .unset, .unset, .unset] [(.int (2 : Int32)), (.int (3 : Int32))] _
    refine st1 _ ?_
    show sS p e below T1 m 6 #[rv ad, iv 3, .unset, .unset, .unset, .unset, .unset] [(.int (2 : Int32))] _
    refine st2 _ ?_
    show sS p e below T2 m 8 #[rv ad, iv 3, .unset, .unset, .unset, .unset, .unset] [(.ref b2)] _
    refine XS.astoreN X2.here hx rfl (hb hby dH_8) rfl rfl (l' := #[rv ad, iv 3, rv b2, .unset, .unset, .unset, .unset]) rfl ?_
    refine XS.iconst X2.here hx rfl (hb hby dH_9) ?_
    refine XS.istoreN X2.here hx rfl (hb hby dH_10) rfl (l' := #[rv ad, iv 3, rv b2, iv 0, .unset, .unset, .unset]) rfl ?_
    refine XS.iconst X2.here hx rfl (hb hby dH_11) ?_
    refine XS.istore X2.here hx rfl (hb hby dH_12) rfl (l' := #[rv ad, iv 3, rv b2, iv 0, iv 0, .unset, .unset]) rfl ?_
    show sS p e below T2 m 14 #[rv ad, iv 3, rv b2, iv 0, iv 0, .unset, .unset] [] _
    refine st3 _ ?_
    show sS p e below T3 m 14 #[rv ad, iv 3, rv b2, iv 1, iv 1, iv y5_0, iv y6_0] [] _
    refine st4 _ ?_
    show sS p e below T4 m 14 #[rv ad, iv 3, rv b2, iv 2, iv 2, iv y5_1, iv y6_1] [] _
    refine XS.iload X4.here hx rfl (hb hby dH_14) rfl ?_
    refine XS.aloadN X4.here hx rfl (hb hby dH_16) rfl rfl ?_
    refine own_len X4 hx hZ e4 (((V_d.ext E2).keep K3 (ninS (Nat.ne_of_lt (Nat.lt_of_lt_of_le V_d.lt (Nat.le_of_eq g2.symm))) nin0)).keep K4 (ninS (Nat.ne_of_lt (Nat.lt_of_lt_of_le V_d.lt (Nat.le_of_eq g2.symm))) nin0)) rfl rfl (hb hby dH_17) ?_
    refine XS.icmpYes X4.here hx rfl (pc0 := 18) (pc' := 103) rfl (hb hby dH_18) rfl (by decide) (by decide) (by decide) ?_
    refine XS.aloadN X4.here hx rfl (hb hby dH_103) rfl rfl ?_
    show sS p e below T4 m 104 #[rv ad, iv 3, rv b2, iv 2, iv 2, iv y5_1, iv y6_1] [(.ref b2)] _
    exact retOut X4 hx Bd.returns rfl (Or.inr (Or.inr (Or.inr (Or.inr ⟨rfl, rfl, rfl⟩)))) (hb hby dH_104) hr
  · show Qne2 Z ad kd d0 d1 h0 n0 _ T4.heap _
    rw [e4]
    exact ⟨b2, _, z1_0, z1_1, w1_0, w1_1, rfl, N4, ((((Keep.refl h0 []).ext E2).trans K3 (allS (Or.inr (Nat.le_trans (Nat.le_refl _) (Nat.le_of_eq g2.symm))) all0)).trans K4 (allS (Or.inr (Nat.le_trans (Nat.le_refl _) (Nat.le_of_eq g2.symm))) all0)), (Nat.le_trans (Nat.le_refl _) (Nat.le_of_eq g2.symm)), V4, (by unfold own_near2; rw [← q_0, ← q_1]), b_z1_0, b_z1_1⟩
theorem ef_ne3 (m : MethodId) (x0 : Addr) (x1 : Int32) : entryFrame m #[(.ref x0), (.int x1)] 7 = mkF m 0 #[rv x0, iv x1, .unset, .unset, .unset, .unset, .unset] [] := by first | (simp [entryFrame, mkF, argsToLocals, Value.category]; done) | rfl
def Qne3 (Z : State) (ad : Addr) (kd : ClassId) (d0 d1 d2 : Int32) (h0 : Heap) (n0 : Nat) (v : Option Value) (h : Heap) (L : List Loc) : Prop := ∃ (b : Addr) (kb : ClassId) (z0 z1 z2 w0 w1 w2 : Int32), v = some (.ref b) ∧ Fr n0 L ∧ Keep h0 h [] ∧ h0.size ≤ b ∧ Arv Z h b kb .int (3 : Int32) [(.int z0), (.int z1), (.int z2)] (.int (0 : Int32)) ∧ [(z0, w0), (z1, w1), (z2, w2)] = own_near3 d0 d1 d2 ∧ (¬ z0 < 0 ∧ z0 < (3 : Int32)) ∧ (¬ z1 < 0 ∧ z1 < (3 : Int32)) ∧ (¬ z2 < 0 ∧ z2 < (3 : Int32))
set_option maxRecDepth 65536 in
set_option maxHeartbeats 40000000 in
theorem rmne3 (l : Launch) (Z : State) (a0 : Array Value) (hw : ∀ d ∈ tables_1, d.before a0 Z = true) (ws : List Jvm.Cond) (ad : Addr) (kd : ClassId) (d0 d1 d2 : Int32) (h0 : Heap) (n0 : Nat) (Z0 : n0 ≤ h0.size) (V_d : Arv Z h0 ad kd .double (3 : Int32) [(.double (FP.i2d d0)), (.double (FP.i2d d1)), (.double (FP.i2d d2))] (.double (0 : UInt64))) :
    MetFree l (⟨cN1, "nearest", "([DI)[I"⟩ : MethodName) (head1 (Jvm.Cond.code (⟨cN1, "nearest", "([DI)[I"⟩ : MethodName) prog_5_method_4_code 7 (some (.array .int)) :: ws) ({ frames := 3, cells := 1, slots := 3, locals := 64 } : Room)) (fun a U => a = #[(.ref ad), (.int (3 : Int32))] ∧ Z.Warmed39 U.vm ∧ U.heap = h0) (fun _ _ _ _ _ => True) (fun _ U o U' => ∃ v L, o = .returned v ∧ Qne3 Z ad kd d0 d1 d2 h0 n0 v U'.heap L ∧ FrameEnd U o U' L ({ frames := 3, cells := 1, slots := 3, locals := 64 } : Room).cells ({ frames := 3, cells := 1, slots := 3, locals := 64 } : Room).slots) := by
  refine MetFree.of_bodySF (plainFor_of_name pn_2) hisR ?_
  intro p e s m args below meth c s₁ Bd hml0 hP hK
  obtain ⟨rfl, hZ, hh⟩ := hP
  have hx := Bd.exec
  have hby := Bd.bytes
  have hml : c.maxLocals = 7 := hml0
  have hown : s.vm.findClass cN1 = some m.cls := findClass_of_methodNamed Bd.named
  have hnm := (name_of_methodNamed Bd.named Bd.method).1
  have X0 : Stand p l e ({ frames := 3, cells := 1, slots := 3, locals := 64 } : Room) s m #[(.ref ad), (.int (3 : Int32))] below meth c s₁ [] 0 0 := Stand.of_body Bd
  have e0 : s₁.heap = h0 := by rw [← hh, Bd.state]; rfl
  have N0 := Fr.nil n0
  have pre0 : ∀ t, Steps p.tables e below (s₁.setTop (mkF m 0 #[rv ad, iv 3, .unset, .unset, .unset, .unset, .unset] [])) t → Steps p.tables e below (s₁.setTop (entryFrame m #[(.ref ad), (.int (3 : Int32))] 7)) t := fun t k => castTop (ef_ne3 m ad (3 : Int32)) k
  obtain ⟨_, _, ⟨T1, L1, k1, n1⟩, -, X1, ⟨Lc1, hQ1, l1, y1, z1⟩, st1⟩ := Jvm.LawKit.callS X0 hx (y := ⟨"java/lang/Math", "min", "(II)I"⟩) hown (mvT hZ (wK hw (i := 10) rfl)) (mvT hZ (wK hw (i := 11) rfl)) (mvT hZ (wK hw (i := 12) rfl)) (mvT hZ (wK hw (i := 13) rfl)) (by decide) (backOf (W := 0) (rmmn_3_3 l Z a0 hw []  h0 n0 Z0) hZ (wK hw (i := 13) rfl) (wK hw (i := 12) rfl) (by decide) (by decide)) (g := (mkF m 3 #[rv ad, iv 3, .unset, .unset, .unset, .unset, .unset] [(.int (3 : Int32)), (.int (3 : Int32))])) rfl (by rw [hml]; rfl) (argsL := [(.int (3 : Int32)), (.int (3 : Int32))]) (rest := []) (lenOf pd_4 rfl) rfl (Nat.le_of_eq rfl) (hb hby dH_3) (fun _ _ => ⟨rfl, e0, (by decide : 0 + 0 ≤ _), (by decide : 0 + 0 ≤ _)⟩)
  dsimp only [Pt.U, Pt.locs, Pt.cells, Pt.slots] at X1 l1 y1 z1 st1 hQ1
  subst l1 y1 z1
  obtain ⟨rfl, N1q, eh1⟩ := hQ1
  have N1 := Fr.app N0 N1q
  obtain ⟨T2, h2, k2, X2, e2, E2, A2, Ax2, st2⟩ := newPE X1 hx hZ (wK hw (i := 0) rfl) eh1 (g := (mkF m 6 #[rv ad, iv 3, .unset, .unset, .unset, .unset, .unset] [(.int (3 : Int32))])) rfl (hb hby dH_6) rfl (by decide) (cap := 3) (by decide) (by decide) (by decide) (by decide) (ad := "[I") (by decide)
  obtain ⟨b2, g2⟩ : ∃ z, z = h0.size := ⟨_, rfl⟩
  rw [← g2] at A2 Ax2 st2
  have V2 : Arv Z h2 b2 k2 .int (3 : Int32) [(.int (0 : Int32)), (.int (0 : Int32)), (.int (0 : Int32))] (.int (0 : Int32)) := (Arv.new A2 (by decide)).pad (pad_rep [] (.int (0 : Int32)) 3)
  obtain ⟨T3, h3, L3, y5_0, y6_0, z0_0, w0_0, X3, e3, N3, K3, V3, q_0, b_z0_0, e_z0_0, st3⟩ := tn_3_0 (xi := (0 : Int32)) (xd := d0) X2 hx hZ hw hby hml hown e2 (Nat.le_trans Z0 E2.1) N1 (V_d.ext E2) V2 (Nat.ne_of_lt (Nat.lt_of_lt_of_le V_d.lt (Nat.le_of_eq g2.symm))) (Nat.le_trans Z0 (Nat.le_trans (Nat.le_refl _) (Nat.le_of_eq g2.symm))) (by decide) ⟨by decide, by decide⟩ rfl
  obtain ⟨T4, h4, L4, y5_1, y6_1, z1_0, z1_1, w1_0, w1_1, X4, e4, N4, K4, V4, q_1, b_z1_0, e_z1_0, b_z1_1, e_z1_1, st4⟩ := tn_3_1 (xi := (1 : Int32)) (xd := d1) (x5 := y5_0) (x6 := y6_0) X3 hx hZ hw hby hml hown e3 (Nat.le_trans (Nat.le_trans Z0 E2.1) K3.1) N3 ((V_d.ext E2).keep K3 (ninS (Nat.ne_of_lt (Nat.lt_of_lt_of_le V_d.lt (Nat.le_of_eq g2.symm))) nin0)) V3 (Nat.ne_of_lt (Nat.lt_of_lt_of_le V_d.lt (Nat.le_of_eq g2.symm))) (Nat.le_trans Z0 (Nat.le_trans (Nat.le_refl _) (Nat.le_of_eq g2.symm))) (by decide) ⟨by decide, by decide⟩ rfl b_z0_0 e_z0_0
  obtain ⟨T5, h5, L5, y5_2, y6_2, z2_0, z2_1, z2_2, w2_0, w2_1, w2_2, X5, e5, N5, K5, V5, q_2, b_z2_0, e_z2_0, b_z2_1, e_z2_1, b_z2_2, e_z2_2, st5⟩ := tn_3_2 (xi := (2 : Int32)) (xd := d2) (x5 := y5_1) (x6 := y6_1) X4 hx hZ hw hby hml hown e4 (Nat.le_trans (Nat.le_trans (Nat.le_trans Z0 E2.1) K3.1) K4.1) N4 (((V_d.ext E2).keep K3 (ninS (Nat.ne_of_lt (Nat.lt_of_lt_of_le V_d.lt (Nat.le_of_eq g2.symm))) nin0)).keep K4 (ninS (Nat.ne_of_lt (Nat.lt_of_lt_of_le V_d.lt (Nat.le_of_eq g2.symm))) nin0)) V4 (Nat.ne_of_lt (Nat.lt_of_lt_of_le V_d.lt (Nat.le_of_eq g2.symm))) (Nat.le_trans Z0 (Nat.le_trans (Nat.le_refl _) (Nat.le_of_eq g2.symm))) (by decide) ⟨by decide, by decide⟩ rfl b_z1_0 e_z1_0 b_z1_1 e_z1_1
  obtain ⟨fs, hr, hrun, hended, hW, hsame⟩ := X5.leave (v := some (.ref b2)) (fun h => by rw [Bd.returns] at h; cases h)
  refine ⟨_, _, pre0 _ ?_, hrun, hended, _, _, rfl, ?_, ⟨_, rfl⟩, hW, hsame.mono (by decide) (by decide)⟩
  · show sS p e below s₁ m 0 #[rv ad, iv 3, .unset, .unset, .unset, .unset, .unset] [] _
    refine XS.iloadN X0.here hx rfl (hb hby dH_0) rfl ?_
    refine XS.aloadN X0.here hx rfl (hb hby dH_1) rfl rfl ?_
    refine own_len X0 hx hZ e0 V_d rfl rfl (hb hby dH_2) ?_
    show sS p e below s₁ m 3 #[rv ad, iv 3, .unset, .unset, .unset, .unset, .unset] [(.int (3 : Int32)), (.int (3 : Int32))] _
    refine st1 _ ?_
    show sS p e below T1 m 6 #[rv ad, iv 3, .unset, .unset, .unset, .unset, .unset] [(.int (3 : Int32))] _
    refine st2 _ ?_
    show sS p e below T2 m 8 #[rv ad, iv 3, .unset, .unset, .unset, .unset, .unset] [(.ref b2)] _
    refine XS.astoreN X2.here hx rfl (hb hby dH_8) rfl rfl (l' := #[rv ad, iv 3, rv b2, .unset, .unset, .unset, .unset]) rfl ?_
    refine XS.iconst X2.here hx rfl (hb hby dH_9) ?_
    refine XS.istoreN X2.here hx rfl (hb hby dH_10) rfl (l' := #[rv ad, iv 3, rv b2, iv 0, .unset, .unset, .unset]) rfl ?_
    refine XS.iconst X2.here hx rfl (hb hby dH_11) ?_
    refine XS.istore X2.here hx rfl (hb hby dH_12) rfl (l' := #[rv ad, iv 3, rv b2, iv 0, iv 0, .unset, .unset]) rfl ?_
    show sS p e below T2 m 14 #[rv ad, iv 3, rv b2, iv 0, iv 0, .unset, .unset] [] _
    refine st3 _ ?_
    show sS p e below T3 m 14 #[rv ad, iv 3, rv b2, iv 1, iv 1, iv y5_0, iv y6_0] [] _
    refine st4 _ ?_
    show sS p e below T4 m 14 #[rv ad, iv 3, rv b2, iv 2, iv 2, iv y5_1, iv y6_1] [] _
    refine st5 _ ?_
    show sS p e below T5 m 14 #[rv ad, iv 3, rv b2, iv 3, iv 3, iv y5_2, iv y6_2] [] _
    refine XS.iload X5.here hx rfl (hb hby dH_14) rfl ?_
    refine XS.aloadN X5.here hx rfl (hb hby dH_16) rfl rfl ?_
    refine own_len X5 hx hZ e5 ((((V_d.ext E2).keep K3 (ninS (Nat.ne_of_lt (Nat.lt_of_lt_of_le V_d.lt (Nat.le_of_eq g2.symm))) nin0)).keep K4 (ninS (Nat.ne_of_lt (Nat.lt_of_lt_of_le V_d.lt (Nat.le_of_eq g2.symm))) nin0)).keep K5 (ninS (Nat.ne_of_lt (Nat.lt_of_lt_of_le V_d.lt (Nat.le_of_eq g2.symm))) nin0)) rfl rfl (hb hby dH_17) ?_
    refine XS.icmpYes X5.here hx rfl (pc0 := 18) (pc' := 103) rfl (hb hby dH_18) rfl (by decide) (by decide) (by decide) ?_
    refine XS.aloadN X5.here hx rfl (hb hby dH_103) rfl rfl ?_
    show sS p e below T5 m 104 #[rv ad, iv 3, rv b2, iv 3, iv 3, iv y5_2, iv y6_2] [(.ref b2)] _
    exact retOut X5 hx Bd.returns rfl (Or.inr (Or.inr (Or.inr (Or.inr ⟨rfl, rfl, rfl⟩)))) (hb hby dH_104) hr
  · show Qne3 Z ad kd d0 d1 d2 h0 n0 _ T5.heap _
    rw [e5]
    exact ⟨b2, _, z2_0, z2_1, z2_2, w2_0, w2_1, w2_2, rfl, N5, (((((Keep.refl h0 []).ext E2).trans K3 (allS (Or.inr (Nat.le_trans (Nat.le_refl _) (Nat.le_of_eq g2.symm))) all0)).trans K4 (allS (Or.inr (Nat.le_trans (Nat.le_refl _) (Nat.le_of_eq g2.symm))) all0)).trans K5 (allS (Or.inr (Nat.le_trans (Nat.le_refl _) (Nat.le_of_eq g2.symm))) all0)), (Nat.le_trans (Nat.le_refl _) (Nat.le_of_eq g2.symm)), V5, (by unfold own_near3; rw [← q_0, ← q_1, ← q_2]), b_z2_0, b_z2_1, b_z2_2⟩
theorem ef_ne4 (m : MethodId) (x0 : Addr) (x1 : Int32) : entryFrame m #[(.ref x0), (.int x1)] 7 = mkF m 0 #[rv x0, iv x1, .unset, .unset, .unset, .unset, .unset] [] := by first | (simp [entryFrame, mkF, argsToLocals, Value.category]; done) | rfl
def Qne4 (Z : State) (ad : Addr) (kd : ClassId) (d0 d1 d2 d3 : Int32) (h0 : Heap) (n0 : Nat) (v : Option Value) (h : Heap) (L : List Loc) : Prop := ∃ (b : Addr) (kb : ClassId) (z0 z1 z2 w0 w1 w2 : Int32), v = some (.ref b) ∧ Fr n0 L ∧ Keep h0 h [] ∧ h0.size ≤ b ∧ Arv Z h b kb .int (3 : Int32) [(.int z0), (.int z1), (.int z2)] (.int (0 : Int32)) ∧ [(z0, w0), (z1, w1), (z2, w2)] = own_near4 d0 d1 d2 d3 ∧ (¬ z0 < 0 ∧ z0 < (4 : Int32)) ∧ (¬ z1 < 0 ∧ z1 < (4 : Int32)) ∧ (¬ z2 < 0 ∧ z2 < (4 : Int32))
set_option maxRecDepth 65536 in
set_option maxHeartbeats 40000000 in
theorem rmne4 (l : Launch) (Z : State) (a0 : Array Value) (hw : ∀ d ∈ tables_1, d.before a0 Z = true) (ws : List Jvm.Cond) (ad : Addr) (kd : ClassId) (d0 d1 d2 d3 : Int32) (h0 : Heap) (n0 : Nat) (Z0 : n0 ≤ h0.size) (V_d : Arv Z h0 ad kd .double (4 : Int32) [(.double (FP.i2d d0)), (.double (FP.i2d d1)), (.double (FP.i2d d2)), (.double (FP.i2d d3))] (.double (0 : UInt64))) :
    MetFree l (⟨cN1, "nearest", "([DI)[I"⟩ : MethodName) (head1 (Jvm.Cond.code (⟨cN1, "nearest", "([DI)[I"⟩ : MethodName) prog_5_method_4_code 7 (some (.array .int)) :: ws) ({ frames := 3, cells := 1, slots := 3, locals := 64 } : Room)) (fun a U => a = #[(.ref ad), (.int (3 : Int32))] ∧ Z.Warmed39 U.vm ∧ U.heap = h0) (fun _ _ _ _ _ => True) (fun _ U o U' => ∃ v L, o = .returned v ∧ Qne4 Z ad kd d0 d1 d2 d3 h0 n0 v U'.heap L ∧ FrameEnd U o U' L ({ frames := 3, cells := 1, slots := 3, locals := 64 } : Room).cells ({ frames := 3, cells := 1, slots := 3, locals := 64 } : Room).slots) := by
  refine MetFree.of_bodySF (plainFor_of_name pn_2) hisR ?_
  intro p e s m args below meth c s₁ Bd hml0 hP hK
  obtain ⟨rfl, hZ, hh⟩ := hP
  have hx := Bd.exec
  have hby := Bd.bytes
  have hml : c.maxLocals = 7 := hml0
  have hown : s.vm.findClass cN1 = some m.cls := findClass_of_methodNamed Bd.named
  have hnm := (name_of_methodNamed Bd.named Bd.method).1
  have X0 : Stand p l e ({ frames := 3, cells := 1, slots := 3, locals := 64 } : Room) s m #[(.ref ad), (.int (3 : Int32))] below meth c s₁ [] 0 0 := Stand.of_body Bd
  have e0 : s₁.heap = h0 := by rw [← hh, Bd.state]; rfl
  have N0 := Fr.nil n0
  have pre0 : ∀ t, Steps p.tables e below (s₁.setTop (mkF m 0 #[rv ad, iv 3, .unset, .unset, .unset, .unset, .unset] [])) t → Steps p.tables e below (s₁.setTop (entryFrame m #[(.ref ad), (.int (3 : Int32))] 7)) t := fun t k => castTop (ef_ne4 m ad (3 : Int32)) k
  obtain ⟨_, _, ⟨T1, L1, k1, n1⟩, -, X1, ⟨Lc1, hQ1, l1, y1, z1⟩, st1⟩ := Jvm.LawKit.callS X0 hx (y := ⟨"java/lang/Math", "min", "(II)I"⟩) hown (mvT hZ (wK hw (i := 10) rfl)) (mvT hZ (wK hw (i := 11) rfl)) (mvT hZ (wK hw (i := 12) rfl)) (mvT hZ (wK hw (i := 13) rfl)) (by decide) (backOf (W := 0) (rmmn_3_4 l Z a0 hw []  h0 n0 Z0) hZ (wK hw (i := 13) rfl) (wK hw (i := 12) rfl) (by decide) (by decide)) (g := (mkF m 3 #[rv ad, iv 3, .unset, .unset, .unset, .unset, .unset] [(.int (4 : Int32)), (.int (3 : Int32))])) rfl (by rw [hml]; rfl) (argsL := [(.int (3 : Int32)), (.int (4 : Int32))]) (rest := []) (lenOf pd_4 rfl) rfl (Nat.le_of_eq rfl) (hb hby dH_3) (fun _ _ => ⟨rfl, e0, (by decide : 0 + 0 ≤ _), (by decide : 0 + 0 ≤ _)⟩)
  dsimp only [Pt.U, Pt.locs, Pt.cells, Pt.slots] at X1 l1 y1 z1 st1 hQ1
  subst l1 y1 z1
  obtain ⟨rfl, N1q, eh1⟩ := hQ1
  have N1 := Fr.app N0 N1q
  obtain ⟨T2, h2, k2, X2, e2, E2, A2, Ax2, st2⟩ := newPE X1 hx hZ (wK hw (i := 0) rfl) eh1 (g := (mkF m 6 #[rv ad, iv 3, .unset, .unset, .unset, .unset, .unset] [(.int (3 : Int32))])) rfl (hb hby dH_6) rfl (by decide) (cap := 3) (by decide) (by decide) (by decide) (by decide) (ad := "[I") (by decide)
  obtain ⟨b2, g2⟩ : ∃ z, z = h0.size := ⟨_, rfl⟩
  rw [← g2] at A2 Ax2 st2
  have V2 : Arv Z h2 b2 k2 .int (3 : Int32) [(.int (0 : Int32)), (.int (0 : Int32)), (.int (0 : Int32))] (.int (0 : Int32)) := (Arv.new A2 (by decide)).pad (pad_rep [] (.int (0 : Int32)) 3)
  obtain ⟨T3, h3, L3, y5_0, y6_0, z0_0, w0_0, X3, e3, N3, K3, V3, q_0, b_z0_0, e_z0_0, st3⟩ := tn_3_0 (xi := (0 : Int32)) (xd := d0) X2 hx hZ hw hby hml hown e2 (Nat.le_trans Z0 E2.1) N1 (V_d.ext E2) V2 (Nat.ne_of_lt (Nat.lt_of_lt_of_le V_d.lt (Nat.le_of_eq g2.symm))) (Nat.le_trans Z0 (Nat.le_trans (Nat.le_refl _) (Nat.le_of_eq g2.symm))) (by decide) ⟨by decide, by decide⟩ rfl
  obtain ⟨T4, h4, L4, y5_1, y6_1, z1_0, z1_1, w1_0, w1_1, X4, e4, N4, K4, V4, q_1, b_z1_0, e_z1_0, b_z1_1, e_z1_1, st4⟩ := tn_3_1 (xi := (1 : Int32)) (xd := d1) (x5 := y5_0) (x6 := y6_0) X3 hx hZ hw hby hml hown e3 (Nat.le_trans (Nat.le_trans Z0 E2.1) K3.1) N3 ((V_d.ext E2).keep K3 (ninS (Nat.ne_of_lt (Nat.lt_of_lt_of_le V_d.lt (Nat.le_of_eq g2.symm))) nin0)) V3 (Nat.ne_of_lt (Nat.lt_of_lt_of_le V_d.lt (Nat.le_of_eq g2.symm))) (Nat.le_trans Z0 (Nat.le_trans (Nat.le_refl _) (Nat.le_of_eq g2.symm))) (by decide) ⟨by decide, by decide⟩ rfl b_z0_0 e_z0_0
  obtain ⟨T5, h5, L5, y5_2, y6_2, z2_0, z2_1, z2_2, w2_0, w2_1, w2_2, X5, e5, N5, K5, V5, q_2, b_z2_0, e_z2_0, b_z2_1, e_z2_1, b_z2_2, e_z2_2, st5⟩ := tn_3_2 (xi := (2 : Int32)) (xd := d2) (x5 := y5_1) (x6 := y6_1) X4 hx hZ hw hby hml hown e4 (Nat.le_trans (Nat.le_trans (Nat.le_trans Z0 E2.1) K3.1) K4.1) N4 (((V_d.ext E2).keep K3 (ninS (Nat.ne_of_lt (Nat.lt_of_lt_of_le V_d.lt (Nat.le_of_eq g2.symm))) nin0)).keep K4 (ninS (Nat.ne_of_lt (Nat.lt_of_lt_of_le V_d.lt (Nat.le_of_eq g2.symm))) nin0)) V4 (Nat.ne_of_lt (Nat.lt_of_lt_of_le V_d.lt (Nat.le_of_eq g2.symm))) (Nat.le_trans Z0 (Nat.le_trans (Nat.le_refl _) (Nat.le_of_eq g2.symm))) (by decide) ⟨by decide, by decide⟩ rfl b_z1_0 e_z1_0 b_z1_1 e_z1_1
  obtain ⟨T6, h6, L6, y5_3, y6_3, z3_0, z3_1, z3_2, w3_0, w3_1, w3_2, X6, e6, N6, K6, V6, q_3, b_z3_0, e_z3_0, b_z3_1, e_z3_1, b_z3_2, e_z3_2, st6⟩ := tn_3_3 (xi := (3 : Int32)) (xd := d3) (x5 := y5_2) (x6 := y6_2) X5 hx hZ hw hby hml hown e5 (Nat.le_trans (Nat.le_trans (Nat.le_trans (Nat.le_trans Z0 E2.1) K3.1) K4.1) K5.1) N5 ((((V_d.ext E2).keep K3 (ninS (Nat.ne_of_lt (Nat.lt_of_lt_of_le V_d.lt (Nat.le_of_eq g2.symm))) nin0)).keep K4 (ninS (Nat.ne_of_lt (Nat.lt_of_lt_of_le V_d.lt (Nat.le_of_eq g2.symm))) nin0)).keep K5 (ninS (Nat.ne_of_lt (Nat.lt_of_lt_of_le V_d.lt (Nat.le_of_eq g2.symm))) nin0)) V5 (Nat.ne_of_lt (Nat.lt_of_lt_of_le V_d.lt (Nat.le_of_eq g2.symm))) (Nat.le_trans Z0 (Nat.le_trans (Nat.le_refl _) (Nat.le_of_eq g2.symm))) (by decide) ⟨by decide, by decide⟩ rfl b_z2_0 e_z2_0 b_z2_1 e_z2_1 b_z2_2 e_z2_2
  obtain ⟨fs, hr, hrun, hended, hW, hsame⟩ := X6.leave (v := some (.ref b2)) (fun h => by rw [Bd.returns] at h; cases h)
  refine ⟨_, _, pre0 _ ?_, hrun, hended, _, _, rfl, ?_, ⟨_, rfl⟩, hW, hsame.mono (by decide) (by decide)⟩
  · show sS p e below s₁ m 0 #[rv ad, iv 3, .unset, .unset, .unset, .unset, .unset] [] _
    refine XS.iloadN X0.here hx rfl (hb hby dH_0) rfl ?_
    refine XS.aloadN X0.here hx rfl (hb hby dH_1) rfl rfl ?_
    refine own_len X0 hx hZ e0 V_d rfl rfl (hb hby dH_2) ?_
    show sS p e below s₁ m 3 #[rv ad, iv 3, .unset, .unset, .unset, .unset, .unset] [(.int (4 : Int32)), (.int (3 : Int32))] _
    refine st1 _ ?_
    show sS p e below T1 m 6 #[rv ad, iv 3, .unset, .unset, .unset, .unset, .unset] [(.int (3 : Int32))] _
    refine st2 _ ?_
    show sS p e below T2 m 8 #[rv ad, iv 3, .unset, .unset, .unset, .unset, .unset] [(.ref b2)] _
    refine XS.astoreN X2.here hx rfl (hb hby dH_8) rfl rfl (l' := #[rv ad, iv 3, rv b2, .unset, .unset, .unset, .unset]) rfl ?_
    refine XS.iconst X2.here hx rfl (hb hby dH_9) ?_
    refine XS.istoreN X2.here hx rfl (hb hby dH_10) rfl (l' := #[rv ad, iv 3, rv b2, iv 0, .unset, .unset, .unset]) rfl ?_
    refine XS.iconst X2.here hx rfl (hb hby dH_11) ?_
    refine XS.istore X2.here hx rfl (hb hby dH_12) rfl (l' := #[rv ad, iv 3, rv b2, iv 0, iv 0, .unset, .unset]) rfl ?_
    show sS p e below T2 m 14 #[rv ad, iv 3, rv b2, iv 0, iv 0, .unset, .unset] [] _
    refine st3 _ ?_
    show sS p e below T3 m 14 #[rv ad, iv 3, rv b2, iv 1, iv 1, iv y5_0, iv y6_0] [] _
    refine st4 _ ?_
    show sS p e below T4 m 14 #[rv ad, iv 3, rv b2, iv 2, iv 2, iv y5_1, iv y6_1] [] _
    refine st5 _ ?_
    show sS p e below T5 m 14 #[rv ad, iv 3, rv b2, iv 3, iv 3, iv y5_2, iv y6_2] [] _
    refine st6 _ ?_
    show sS p e below T6 m 14 #[rv ad, iv 3, rv b2, iv 3, iv 4, iv y5_3, iv y6_3] [] _
    refine XS.iload X6.here hx rfl (hb hby dH_14) rfl ?_
    refine XS.aloadN X6.here hx rfl (hb hby dH_16) rfl rfl ?_
    refine own_len X6 hx hZ e6 (((((V_d.ext E2).keep K3 (ninS (Nat.ne_of_lt (Nat.lt_of_lt_of_le V_d.lt (Nat.le_of_eq g2.symm))) nin0)).keep K4 (ninS (Nat.ne_of_lt (Nat.lt_of_lt_of_le V_d.lt (Nat.le_of_eq g2.symm))) nin0)).keep K5 (ninS (Nat.ne_of_lt (Nat.lt_of_lt_of_le V_d.lt (Nat.le_of_eq g2.symm))) nin0)).keep K6 (ninS (Nat.ne_of_lt (Nat.lt_of_lt_of_le V_d.lt (Nat.le_of_eq g2.symm))) nin0)) rfl rfl (hb hby dH_17) ?_
    refine XS.icmpYes X6.here hx rfl (pc0 := 18) (pc' := 103) rfl (hb hby dH_18) rfl (by decide) (by decide) (by decide) ?_
    refine XS.aloadN X6.here hx rfl (hb hby dH_103) rfl rfl ?_
    show sS p e below T6 m 104 #[rv ad, iv 3, rv b2, iv 3, iv 4, iv y5_3, iv y6_3] [(.ref b2)] _
    exact retOut X6 hx Bd.returns rfl (Or.inr (Or.inr (Or.inr (Or.inr ⟨rfl, rfl, rfl⟩)))) (hb hby dH_104) hr
  · show Qne4 Z ad kd d0 d1 d2 d3 h0 n0 _ T6.heap _
    rw [e6]
    exact ⟨b2, _, z3_0, z3_1, z3_2, w3_0, w3_1, w3_2, rfl, N6, ((((((Keep.refl h0 []).ext E2).trans K3 (allS (Or.inr (Nat.le_trans (Nat.le_refl _) (Nat.le_of_eq g2.symm))) all0)).trans K4 (allS (Or.inr (Nat.le_trans (Nat.le_refl _) (Nat.le_of_eq g2.symm))) all0)).trans K5 (allS (Or.inr (Nat.le_trans (Nat.le_refl _) (Nat.le_of_eq g2.symm))) all0)).trans K6 (allS (Or.inr (Nat.le_trans (Nat.le_refl _) (Nat.le_of_eq g2.symm))) all0)), (Nat.le_trans (Nat.le_refl _) (Nat.le_of_eq g2.symm)), V6, (by unfold own_near4; rw [← q_0, ← q_1, ← q_2, ← q_3]), b_z3_0, b_z3_1, b_z3_2⟩
theorem ef_ne5 (m : MethodId) (x0 : Addr) (x1 : Int32) : entryFrame m #[(.ref x0), (.int x1)] 7 = mkF m 0 #[rv x0, iv x1, .unset, .unset, .unset, .unset, .unset] [] := by first | (simp [entryFrame, mkF, argsToLocals, Value.category]; done) | rfl
def Qne5 (Z : State) (ad : Addr) (kd : ClassId) (d0 d1 d2 d3 d4 : Int32) (h0 : Heap) (n0 : Nat) (v : Option Value) (h : Heap) (L : List Loc) : Prop := ∃ (b : Addr) (kb : ClassId) (z0 z1 z2 w0 w1 w2 : Int32), v = some (.ref b) ∧ Fr n0 L ∧ Keep h0 h [] ∧ h0.size ≤ b ∧ Arv Z h b kb .int (3 : Int32) [(.int z0), (.int z1), (.int z2)] (.int (0 : Int32)) ∧ [(z0, w0), (z1, w1), (z2, w2)] = own_near5 d0 d1 d2 d3 d4 ∧ (¬ z0 < 0 ∧ z0 < (5 : Int32)) ∧ (¬ z1 < 0 ∧ z1 < (5 : Int32)) ∧ (¬ z2 < 0 ∧ z2 < (5 : Int32))
set_option maxRecDepth 65536 in
set_option maxHeartbeats 40000000 in
theorem rmne5 (l : Launch) (Z : State) (a0 : Array Value) (hw : ∀ d ∈ tables_1, d.before a0 Z = true) (ws : List Jvm.Cond) (ad : Addr) (kd : ClassId) (d0 d1 d2 d3 d4 : Int32) (h0 : Heap) (n0 : Nat) (Z0 : n0 ≤ h0.size) (V_d : Arv Z h0 ad kd .double (5 : Int32) [(.double (FP.i2d d0)), (.double (FP.i2d d1)), (.double (FP.i2d d2)), (.double (FP.i2d d3)), (.double (FP.i2d d4))] (.double (0 : UInt64))) :
    MetFree l (⟨cN1, "nearest", "([DI)[I"⟩ : MethodName) (head1 (Jvm.Cond.code (⟨cN1, "nearest", "([DI)[I"⟩ : MethodName) prog_5_method_4_code 7 (some (.array .int)) :: ws) ({ frames := 3, cells := 1, slots := 3, locals := 64 } : Room)) (fun a U => a = #[(.ref ad), (.int (3 : Int32))] ∧ Z.Warmed39 U.vm ∧ U.heap = h0) (fun _ _ _ _ _ => True) (fun _ U o U' => ∃ v L, o = .returned v ∧ Qne5 Z ad kd d0 d1 d2 d3 d4 h0 n0 v U'.heap L ∧ FrameEnd U o U' L ({ frames := 3, cells := 1, slots := 3, locals := 64 } : Room).cells ({ frames := 3, cells := 1, slots := 3, locals := 64 } : Room).slots) := by
  refine MetFree.of_bodySF (plainFor_of_name pn_2) hisR ?_
  intro p e s m args below meth c s₁ Bd hml0 hP hK
  obtain ⟨rfl, hZ, hh⟩ := hP
  have hx := Bd.exec
  have hby := Bd.bytes
  have hml : c.maxLocals = 7 := hml0
  have hown : s.vm.findClass cN1 = some m.cls := findClass_of_methodNamed Bd.named
  have hnm := (name_of_methodNamed Bd.named Bd.method).1
  have X0 : Stand p l e ({ frames := 3, cells := 1, slots := 3, locals := 64 } : Room) s m #[(.ref ad), (.int (3 : Int32))] below meth c s₁ [] 0 0 := Stand.of_body Bd
  have e0 : s₁.heap = h0 := by rw [← hh, Bd.state]; rfl
  have N0 := Fr.nil n0
  have pre0 : ∀ t, Steps p.tables e below (s₁.setTop (mkF m 0 #[rv ad, iv 3, .unset, .unset, .unset, .unset, .unset] [])) t → Steps p.tables e below (s₁.setTop (entryFrame m #[(.ref ad), (.int (3 : Int32))] 7)) t := fun t k => castTop (ef_ne5 m ad (3 : Int32)) k
  obtain ⟨_, _, ⟨T1, L1, k1, n1⟩, -, X1, ⟨Lc1, hQ1, l1, y1, z1⟩, st1⟩ := Jvm.LawKit.callS X0 hx (y := ⟨"java/lang/Math", "min", "(II)I"⟩) hown (mvT hZ (wK hw (i := 10) rfl)) (mvT hZ (wK hw (i := 11) rfl)) (mvT hZ (wK hw (i := 12) rfl)) (mvT hZ (wK hw (i := 13) rfl)) (by decide) (backOf (W := 0) (rmmn_3_5 l Z a0 hw []  h0 n0 Z0) hZ (wK hw (i := 13) rfl) (wK hw (i := 12) rfl) (by decide) (by decide)) (g := (mkF m 3 #[rv ad, iv 3, .unset, .unset, .unset, .unset, .unset] [(.int (5 : Int32)), (.int (3 : Int32))])) rfl (by rw [hml]; rfl) (argsL := [(.int (3 : Int32)), (.int (5 : Int32))]) (rest := []) (lenOf pd_4 rfl) rfl (Nat.le_of_eq rfl) (hb hby dH_3) (fun _ _ => ⟨rfl, e0, (by decide : 0 + 0 ≤ _), (by decide : 0 + 0 ≤ _)⟩)
  dsimp only [Pt.U, Pt.locs, Pt.cells, Pt.slots] at X1 l1 y1 z1 st1 hQ1
  subst l1 y1 z1
  obtain ⟨rfl, N1q, eh1⟩ := hQ1
  have N1 := Fr.app N0 N1q
  obtain ⟨T2, h2, k2, X2, e2, E2, A2, Ax2, st2⟩ := newPE X1 hx hZ (wK hw (i := 0) rfl) eh1 (g := (mkF m 6 #[rv ad, iv 3, .unset, .unset, .unset, .unset, .unset] [(.int (3 : Int32))])) rfl (hb hby dH_6) rfl (by decide) (cap := 3) (by decide) (by decide) (by decide) (by decide) (ad := "[I") (by decide)
  obtain ⟨b2, g2⟩ : ∃ z, z = h0.size := ⟨_, rfl⟩
  rw [← g2] at A2 Ax2 st2
  have V2 : Arv Z h2 b2 k2 .int (3 : Int32) [(.int (0 : Int32)), (.int (0 : Int32)), (.int (0 : Int32))] (.int (0 : Int32)) := (Arv.new A2 (by decide)).pad (pad_rep [] (.int (0 : Int32)) 3)
  obtain ⟨T3, h3, L3, y5_0, y6_0, z0_0, w0_0, X3, e3, N3, K3, V3, q_0, b_z0_0, e_z0_0, st3⟩ := tn_3_0 (xi := (0 : Int32)) (xd := d0) X2 hx hZ hw hby hml hown e2 (Nat.le_trans Z0 E2.1) N1 (V_d.ext E2) V2 (Nat.ne_of_lt (Nat.lt_of_lt_of_le V_d.lt (Nat.le_of_eq g2.symm))) (Nat.le_trans Z0 (Nat.le_trans (Nat.le_refl _) (Nat.le_of_eq g2.symm))) (by decide) ⟨by decide, by decide⟩ rfl
  obtain ⟨T4, h4, L4, y5_1, y6_1, z1_0, z1_1, w1_0, w1_1, X4, e4, N4, K4, V4, q_1, b_z1_0, e_z1_0, b_z1_1, e_z1_1, st4⟩ := tn_3_1 (xi := (1 : Int32)) (xd := d1) (x5 := y5_0) (x6 := y6_0) X3 hx hZ hw hby hml hown e3 (Nat.le_trans (Nat.le_trans Z0 E2.1) K3.1) N3 ((V_d.ext E2).keep K3 (ninS (Nat.ne_of_lt (Nat.lt_of_lt_of_le V_d.lt (Nat.le_of_eq g2.symm))) nin0)) V3 (Nat.ne_of_lt (Nat.lt_of_lt_of_le V_d.lt (Nat.le_of_eq g2.symm))) (Nat.le_trans Z0 (Nat.le_trans (Nat.le_refl _) (Nat.le_of_eq g2.symm))) (by decide) ⟨by decide, by decide⟩ rfl b_z0_0 e_z0_0
  obtain ⟨T5, h5, L5, y5_2, y6_2, z2_0, z2_1, z2_2, w2_0, w2_1, w2_2, X5, e5, N5, K5, V5, q_2, b_z2_0, e_z2_0, b_z2_1, e_z2_1, b_z2_2, e_z2_2, st5⟩ := tn_3_2 (xi := (2 : Int32)) (xd := d2) (x5 := y5_1) (x6 := y6_1) X4 hx hZ hw hby hml hown e4 (Nat.le_trans (Nat.le_trans (Nat.le_trans Z0 E2.1) K3.1) K4.1) N4 (((V_d.ext E2).keep K3 (ninS (Nat.ne_of_lt (Nat.lt_of_lt_of_le V_d.lt (Nat.le_of_eq g2.symm))) nin0)).keep K4 (ninS (Nat.ne_of_lt (Nat.lt_of_lt_of_le V_d.lt (Nat.le_of_eq g2.symm))) nin0)) V4 (Nat.ne_of_lt (Nat.lt_of_lt_of_le V_d.lt (Nat.le_of_eq g2.symm))) (Nat.le_trans Z0 (Nat.le_trans (Nat.le_refl _) (Nat.le_of_eq g2.symm))) (by decide) ⟨by decide, by decide⟩ rfl b_z1_0 e_z1_0 b_z1_1 e_z1_1
  obtain ⟨T6, h6, L6, y5_3, y6_3, z3_0, z3_1, z3_2, w3_0, w3_1, w3_2, X6, e6, N6, K6, V6, q_3, b_z3_0, e_z3_0, b_z3_1, e_z3_1, b_z3_2, e_z3_2, st6⟩ := tn_3_3 (xi := (3 : Int32)) (xd := d3) (x5 := y5_2) (x6 := y6_2) X5 hx hZ hw hby hml hown e5 (Nat.le_trans (Nat.le_trans (Nat.le_trans (Nat.le_trans Z0 E2.1) K3.1) K4.1) K5.1) N5 ((((V_d.ext E2).keep K3 (ninS (Nat.ne_of_lt (Nat.lt_of_lt_of_le V_d.lt (Nat.le_of_eq g2.symm))) nin0)).keep K4 (ninS (Nat.ne_of_lt (Nat.lt_of_lt_of_le V_d.lt (Nat.le_of_eq g2.symm))) nin0)).keep K5 (ninS (Nat.ne_of_lt (Nat.lt_of_lt_of_le V_d.lt (Nat.le_of_eq g2.symm))) nin0)) V5 (Nat.ne_of_lt (Nat.lt_of_lt_of_le V_d.lt (Nat.le_of_eq g2.symm))) (Nat.le_trans Z0 (Nat.le_trans (Nat.le_refl _) (Nat.le_of_eq g2.symm))) (by decide) ⟨by decide, by decide⟩ rfl b_z2_0 e_z2_0 b_z2_1 e_z2_1 b_z2_2 e_z2_2
  obtain ⟨T7, h7, L7, y5_4, y6_4, z4_0, z4_1, z4_2, w4_0, w4_1, w4_2, X7, e7, N7, K7, V7, q_4, b_z4_0, e_z4_0, b_z4_1, e_z4_1, b_z4_2, e_z4_2, st7⟩ := tn_3_3 (xi := (4 : Int32)) (xd := d4) (x5 := y5_3) (x6 := y6_3) X6 hx hZ hw hby hml hown e6 (Nat.le_trans (Nat.le_trans (Nat.le_trans (Nat.le_trans (Nat.le_trans Z0 E2.1) K3.1) K4.1) K5.1) K6.1) N6 (((((V_d.ext E2).keep K3 (ninS (Nat.ne_of_lt (Nat.lt_of_lt_of_le V_d.lt (Nat.le_of_eq g2.symm))) nin0)).keep K4 (ninS (Nat.ne_of_lt (Nat.lt_of_lt_of_le V_d.lt (Nat.le_of_eq g2.symm))) nin0)).keep K5 (ninS (Nat.ne_of_lt (Nat.lt_of_lt_of_le V_d.lt (Nat.le_of_eq g2.symm))) nin0)).keep K6 (ninS (Nat.ne_of_lt (Nat.lt_of_lt_of_le V_d.lt (Nat.le_of_eq g2.symm))) nin0)) V6 (Nat.ne_of_lt (Nat.lt_of_lt_of_le V_d.lt (Nat.le_of_eq g2.symm))) (Nat.le_trans Z0 (Nat.le_trans (Nat.le_refl _) (Nat.le_of_eq g2.symm))) (by decide) ⟨by decide, by decide⟩ rfl b_z3_0 e_z3_0 b_z3_1 e_z3_1 b_z3_2 e_z3_2
  obtain ⟨fs, hr, hrun, hended, hW, hsame⟩ := X7.leave (v := some (.ref b2)) (fun h => by rw [Bd.returns] at h; cases h)
  refine ⟨_, _, pre0 _ ?_, hrun, hended, _, _, rfl, ?_, ⟨_, rfl⟩, hW, hsame.mono (by decide) (by decide)⟩
  · show sS p e below s₁ m 0 #[rv ad, iv 3, .unset, .unset, .unset, .unset, .unset] [] _
    refine XS.iloadN X0.here hx rfl (hb hby dH_0) rfl ?_
    refine XS.aloadN X0.here hx rfl (hb hby dH_1) rfl rfl ?_
    refine own_len X0 hx hZ e0 V_d rfl rfl (hb hby dH_2) ?_
    show sS p e below s₁ m 3 #[rv ad, iv 3, .unset, .unset, .unset, .unset, .unset] [(.int (5 : Int32)), (.int (3 : Int32))] _
    refine st1 _ ?_
    show sS p e below T1 m 6 #[rv ad, iv 3, .unset, .unset, .unset, .unset, .unset] [(.int (3 : Int32))] _
    refine st2 _ ?_
    show sS p e below T2 m 8 #[rv ad, iv 3, .unset, .unset, .unset, .unset, .unset] [(.ref b2)] _
    refine XS.astoreN X2.here hx rfl (hb hby dH_8) rfl rfl (l' := #[rv ad, iv 3, rv b2, .unset, .unset, .unset, .unset]) rfl ?_
    refine XS.iconst X2.here hx rfl (hb hby dH_9) ?_
    refine XS.istoreN X2.here hx rfl (hb hby dH_10) rfl (l' := #[rv ad, iv 3, rv b2, iv 0, .unset, .unset, .unset]) rfl ?_
    refine XS.iconst X2.here hx rfl (hb hby dH_11) ?_
    refine XS.istore X2.here hx rfl (hb hby dH_12) rfl (l' := #[rv ad, iv 3, rv b2, iv 0, iv 0, .unset, .unset]) rfl ?_
    show sS p e below T2 m 14 #[rv ad, iv 3, rv b2, iv 0, iv 0, .unset, .unset] [] _
    refine st3 _ ?_
    show sS p e below T3 m 14 #[rv ad, iv 3, rv b2, iv 1, iv 1, iv y5_0, iv y6_0] [] _
    refine st4 _ ?_
    show sS p e below T4 m 14 #[rv ad, iv 3, rv b2, iv 2, iv 2, iv y5_1, iv y6_1] [] _
    refine st5 _ ?_
    show sS p e below T5 m 14 #[rv ad, iv 3, rv b2, iv 3, iv 3, iv y5_2, iv y6_2] [] _
    refine st6 _ ?_
    show sS p e below T6 m 14 #[rv ad, iv 3, rv b2, iv 3, iv 4, iv y5_3, iv y6_3] [] _
    refine st7 _ ?_
    show sS p e below T7 m 14 #[rv ad, iv 3, rv b2, iv 3, iv 5, iv y5_4, iv y6_4] [] _
    refine XS.iload X7.here hx rfl (hb hby dH_14) rfl ?_
    refine XS.aloadN X7.here hx rfl (hb hby dH_16) rfl rfl ?_
    refine own_len X7 hx hZ e7 ((((((V_d.ext E2).keep K3 (ninS (Nat.ne_of_lt (Nat.lt_of_lt_of_le V_d.lt (Nat.le_of_eq g2.symm))) nin0)).keep K4 (ninS (Nat.ne_of_lt (Nat.lt_of_lt_of_le V_d.lt (Nat.le_of_eq g2.symm))) nin0)).keep K5 (ninS (Nat.ne_of_lt (Nat.lt_of_lt_of_le V_d.lt (Nat.le_of_eq g2.symm))) nin0)).keep K6 (ninS (Nat.ne_of_lt (Nat.lt_of_lt_of_le V_d.lt (Nat.le_of_eq g2.symm))) nin0)).keep K7 (ninS (Nat.ne_of_lt (Nat.lt_of_lt_of_le V_d.lt (Nat.le_of_eq g2.symm))) nin0)) rfl rfl (hb hby dH_17) ?_
    refine XS.icmpYes X7.here hx rfl (pc0 := 18) (pc' := 103) rfl (hb hby dH_18) rfl (by decide) (by decide) (by decide) ?_
    refine XS.aloadN X7.here hx rfl (hb hby dH_103) rfl rfl ?_
    show sS p e below T7 m 104 #[rv ad, iv 3, rv b2, iv 3, iv 5, iv y5_4, iv y6_4] [(.ref b2)] _
    exact retOut X7 hx Bd.returns rfl (Or.inr (Or.inr (Or.inr (Or.inr ⟨rfl, rfl, rfl⟩)))) (hb hby dH_104) hr
  · show Qne5 Z ad kd d0 d1 d2 d3 d4 h0 n0 _ T7.heap _
    rw [e7]
    exact ⟨b2, _, z4_0, z4_1, z4_2, w4_0, w4_1, w4_2, rfl, N7, (((((((Keep.refl h0 []).ext E2).trans K3 (allS (Or.inr (Nat.le_trans (Nat.le_refl _) (Nat.le_of_eq g2.symm))) all0)).trans K4 (allS (Or.inr (Nat.le_trans (Nat.le_refl _) (Nat.le_of_eq g2.symm))) all0)).trans K5 (allS (Or.inr (Nat.le_trans (Nat.le_refl _) (Nat.le_of_eq g2.symm))) all0)).trans K6 (allS (Or.inr (Nat.le_trans (Nat.le_refl _) (Nat.le_of_eq g2.symm))) all0)).trans K7 (allS (Or.inr (Nat.le_trans (Nat.le_refl _) (Nat.le_of_eq g2.symm))) all0)), (Nat.le_trans (Nat.le_refl _) (Nat.le_of_eq g2.symm)), V7, (by unfold own_near5; rw [← q_0, ← q_1, ← q_2, ← q_3, ← q_4]), b_z4_0, b_z4_1, b_z4_2⟩
theorem dI_0 : decode prog_5_method_3_code 0 = .ok (.aload_n 0, 1) := by decide +kernel
theorem dI_1 : decode prog_5_method_3_code 1 = .ok (.iconst 3, 1) := by decide +kernel
theorem dI_2 : decode prog_5_method_3_code 2 = .ok (.invokestatic 15, 3) := by decide +kernel
theorem dI_5 : decode prog_5_method_3_code 5 = .ok (.astore_n 2, 1) := by decide +kernel
theorem dI_6 : decode prog_5_method_3_code 6 = .ok (.aload_n 2, 1) := by decide +kernel
theorem dI_7 : decode prog_5_method_3_code 7 = .ok (.arraylength, 1) := by decide +kernel
theorem dI_8 : decode prog_5_method_3_code 8 = .ok (.istore_n 3, 1) := by decide +kernel
theorem dI_9 : decode prog_5_method_3_code 9 = .ok (.iload_n 3, 1) := by decide +kernel
theorem dI_10 : decode prog_5_method_3_code 10 = .ok (.ifCond .ne 5, 3) := by decide +kernel
theorem dI_13 : decode prog_5_method_3_code 13 = .ok (.iconst 0, 1) := by decide +kernel
theorem dI_14 : decode prog_5_method_3_code 14 = .ok (.ireturn, 1) := by decide +kernel
theorem dI_15 : decode prog_5_method_3_code 15 = .ok (.aload_n 1, 1) := by decide +kernel
theorem dI_16 : decode prog_5_method_3_code 16 = .ok (.aload_n 2, 1) := by decide +kernel
theorem dI_17 : decode prog_5_method_3_code 17 = .ok (.iconst 0, 1) := by decide +kernel
theorem dI_18 : decode prog_5_method_3_code 18 = .ok (.iaload, 1) := by decide +kernel
theorem dI_19 : decode prog_5_method_3_code 19 = .ok (.iaload, 1) := by decide +kernel
theorem dI_20 : decode prog_5_method_3_code 20 = .ok (.istore 4, 2) := by decide +kernel
theorem dI_22 : decode prog_5_method_3_code 22 = .ok (.iconst 0, 1) := by decide +kernel
theorem dI_23 : decode prog_5_method_3_code 23 = .ok (.istore 5, 2) := by decide +kernel
theorem dI_25 : decode prog_5_method_3_code 25 = .ok (.iconst 0, 1) := by decide +kernel
theorem dI_26 : decode prog_5_method_3_code 26 = .ok (.istore 6, 2) := by decide +kernel
theorem dI_28 : decode prog_5_method_3_code 28 = .ok (.iload 6, 2) := by decide +kernel
theorem dI_30 : decode prog_5_method_3_code 30 = .ok (.iload_n 3, 1) := by decide +kernel
theorem dI_31 : decode prog_5_method_3_code 31 = .ok (.if_icmp .ge 64, 3) := by decide +kernel
theorem dI_34 : decode prog_5_method_3_code 34 = .ok (.iconst 0, 1) := by decide +kernel
theorem dI_35 : decode prog_5_method_3_code 35 = .ok (.istore 7, 2) := by decide +kernel
theorem dI_37 : decode prog_5_method_3_code 37 = .ok (.iconst 0, 1) := by decide +kernel
theorem dI_38 : decode prog_5_method_3_code 38 = .ok (.istore 8, 2) := by decide +kernel
theorem dI_40 : decode prog_5_method_3_code 40 = .ok (.iload 8, 2) := by decide +kernel
theorem dI_42 : decode prog_5_method_3_code 42 = .ok (.iload_n 3, 1) := by decide +kernel
theorem dI_43 : decode prog_5_method_3_code 43 = .ok (.if_icmp .ge 27, 3) := by decide +kernel
theorem dI_46 : decode prog_5_method_3_code 46 = .ok (.aload_n 1, 1) := by decide +kernel
theorem dI_47 : decode prog_5_method_3_code 47 = .ok (.aload_n 2, 1) := by decide +kernel
theorem dI_48 : decode prog_5_method_3_code 48 = .ok (.iload 8, 2) := by decide +kernel
theorem dI_50 : decode prog_5_method_3_code 50 = .ok (.iaload, 1) := by decide +kernel
theorem dI_51 : decode prog_5_method_3_code 51 = .ok (.iaload, 1) := by decide +kernel
theorem dI_52 : decode prog_5_method_3_code 52 = .ok (.aload_n 1, 1) := by decide +kernel
theorem dI_53 : decode prog_5_method_3_code 53 = .ok (.aload_n 2, 1) := by decide +kernel
theorem dI_54 : decode prog_5_method_3_code 54 = .ok (.iload 6, 2) := by decide +kernel
theorem dI_56 : decode prog_5_method_3_code 56 = .ok (.iaload, 1) := by decide +kernel
theorem dI_57 : decode prog_5_method_3_code 57 = .ok (.iaload, 1) := by decide +kernel
theorem dI_58 : decode prog_5_method_3_code 58 = .ok (.if_icmp .ne 6, 3) := by decide +kernel
theorem dI_61 : decode prog_5_method_3_code 61 = .ok (.iinc 7 1, 3) := by decide +kernel
theorem dI_64 : decode prog_5_method_3_code 64 = .ok (.iinc 8 1, 3) := by decide +kernel
theorem dI_67 : decode prog_5_method_3_code 67 = .ok (.goto (-27), 3) := by decide +kernel
theorem dI_70 : decode prog_5_method_3_code 70 = .ok (.iload 7, 2) := by decide +kernel
theorem dI_72 : decode prog_5_method_3_code 72 = .ok (.iload 5, 2) := by decide +kernel
theorem dI_74 : decode prog_5_method_3_code 74 = .ok (.if_icmp .le 15, 3) := by decide +kernel
theorem dI_77 : decode prog_5_method_3_code 77 = .ok (.aload_n 1, 1) := by decide +kernel
theorem dI_78 : decode prog_5_method_3_code 78 = .ok (.aload_n 2, 1) := by decide +kernel
theorem dI_79 : decode prog_5_method_3_code 79 = .ok (.iload 6, 2) := by decide +kernel
theorem dI_81 : decode prog_5_method_3_code 81 = .ok (.iaload, 1) := by decide +kernel
theorem dI_82 : decode prog_5_method_3_code 82 = .ok (.iaload, 1) := by decide +kernel
theorem dI_83 : decode prog_5_method_3_code 83 = .ok (.istore 4, 2) := by decide +kernel
theorem dI_85 : decode prog_5_method_3_code 85 = .ok (.iload 7, 2) := by decide +kernel
theorem dI_87 : decode prog_5_method_3_code 87 = .ok (.istore 5, 2) := by decide +kernel
theorem dI_89 : decode prog_5_method_3_code 89 = .ok (.iinc 6 1, 3) := by decide +kernel
theorem dI_92 : decode prog_5_method_3_code 92 = .ok (.goto (-64), 3) := by decide +kernel
theorem dI_95 : decode prog_5_method_3_code 95 = .ok (.iload 4, 2) := by decide +kernel
theorem dI_97 : decode prog_5_method_3_code 97 = .ok (.ireturn, 1) := by decide +kernel
set_option maxRecDepth 65536 in
set_option maxHeartbeats 4000000 in
theorem sg_to_1_0_58_64 {p : Program} {l : Launch} {e : Env} {R : Room} {s : State} {m : MethodId} {args : Array Value} {below : List Frame} {meth : Method} {c : Code} {T : State} {locs : List Loc} {cells slots : Nat} {Z : State} {a0 : Array Value} {target : State} {x0 : Addr} {x1 : Addr} {x2 : Addr} {x3 : Int32} {x4 : Int32} {x5 : Int32} {x6 : Int32} {x7 : Int32} {x8 : Int32} {y0 : Int32} {y1 : Int32} (X : Stand p l e R s m args below meth c T locs cells slots) (hx : p.tables.exec = Jvm.exec) (hZ : Z.Warmed39 s.vm) (hw : ∀ d ∈ tables_1, d.before a0 Z = true) (hby : c.code = prog_5_method_3_code) (hown : s.vm.findClass cN1 = some m.cls)
    (k : Steps p.tables e below (T.setTop (mkF m 64 #[rv x0, rv x1, rv x2, iv x3, iv x4, iv x5, iv x6, .val (.int (bif (if_icmp.holds .ne y1 y0) then x7 else (x7 + (1 : Int32)))), iv x8] [])) target) : Steps p.tables e below (T.setTop (mkF m 58 #[rv x0, rv x1, rv x2, iv x3, iv x4, iv x5, iv x6, iv x7, iv x8] [(.int y0), (.int y1)])) target := by
  show sS p e below T m 58 #[rv x0, rv x1, rv x2, iv x3, iv x4, iv x5, iv x6, iv x7, iv x8] [(.int y0), (.int y1)] _
  rcases Bool.eq_false_or_eq_true (if_icmp.holds .ne y1 y0) with hc1 | hc1
  · try rw [hc1] at k
    refine XS.icmpYes X.here hx rfl (pc0 := 58) (pc' := 64) rfl (hb hby dI_58) rfl hc1 (by decide) (by decide) ?_
    show sS p e below T m 64 #[rv x0, rv x1, rv x2, iv x3, iv x4, iv x5, iv x6, iv x7, iv x8] [] _
    exact k
  · try rw [hc1] at k
    refine XS.icmpNo X.here hx rfl (hb hby dI_58) rfl hc1 ?_
    show sS p e below T m 61 #[rv x0, rv x1, rv x2, iv x3, iv x4, iv x5, iv x6, iv x7, iv x8] [] _
    refine XS.iinc X.here hx rfl (hb hby dI_61) rfl (l' := #[rv x0, rv x1, rv x2, iv x3, iv x4, iv x5, iv x6, .val (.int (x7 + (1 : Int32))), iv x8]) rfl ?_
    exact k
set_option maxRecDepth 65536 in
set_option maxHeartbeats 40000000 in
theorem to_1_0 {p : Program} {l : Launch} {e : Env} {s : State} {m : MethodId} {args : Array Value} {below : List Frame} {meth : Method} {c : Code} {T0 : State} {locs : List Loc}  {Z : State} {a0 : Array Value} {h0 : Heap} {n0 : Nat} {ad at_ rn : Addr} {kt kn : ClassId} {nn u0 z0 x4 x5 : Int32} {vt : List Value} (X0 : Stand p l e ({ frames := 4, cells := 1, slots := 1, locals := 82 } : Room) s m args below meth c T0 locs 1 1) (hx : p.tables.exec = Jvm.exec) (hZ : Z.Warmed39 s.vm) (hw : ∀ d ∈ tables_1, d.before a0 Z = true) (hby : c.code = prog_5_method_3_code) (hml : c.maxLocals = 9) (hown : s.vm.findClass cN1 = some m.cls) (e0 : T0.heap = h0) (Z0 : n0 ≤ h0.size) (N0 : Fr n0 locs) (V_t : Arv Z h0 at_ kt .int nn vt (.int (0 : Int32))) (V_n : Arv Z h0 rn kn .int (1 : Int32) [(.int z0)] (.int (0 : Int32))) (b_z0 : (¬ z0 < 0 ∧ z0 < nn)) (e_z0 : vt.getD z0.toNatClampNeg (.int (0 : Int32)) = .int u0) :
    ∃ (T' : State) (h' : Heap) (L' : List Loc) (y4 y5 : Int32), Stand p l e ({ frames := 4, cells := 1, slots := 1, locals := 82 } : Room) s m args below meth c T' L' 1 1 ∧ T'.heap = h' ∧ Fr n0 L' ∧ h' = h0 ∧ y4 = own_b (own_cnt (0 : Int32) u0 u0) x5 x4 u0 ∧ y5 = own_c (own_cnt (0 : Int32) u0 u0) x5 ∧ ∀ target, Steps p.tables e below (T'.setTop (mkF m 28 #[rv ad, rv at_, rv rn, iv 1, iv y4, iv y5, iv 1, .val (.int (own_cnt (0 : Int32) u0 u0)), iv 1] [])) target → Steps p.tables e below (T0.setTop (mkF m 28 #[rv ad, rv at_, rv rn, iv 1, iv x4, iv x5, iv 0, .unset, .unset] [])) target := by
  rcases Bool.eq_false_or_eq_true (if_icmp.holds .le (own_cnt (0 : Int32) u0 u0) x5) with hc74 | hc74
  · refine ⟨T0, h0, _, x4, x5, X0, e0, N0, rfl, (by unfold own_b; rw [hc74]; rfl), (by unfold own_c; rw [hc74]; rfl), fun target kt => ?_⟩
    show sS p e below T0 m 28 #[rv ad, rv at_, rv rn, iv 1, iv x4, iv x5, iv 0, .unset, .unset] [] _
    refine XS.iload X0.here hx rfl (hb hby dI_28) rfl ?_
    refine XS.iloadN X0.here hx rfl (hb hby dI_30) rfl ?_
    refine XS.icmpNo X0.here hx rfl (hb hby dI_31) rfl (by decide) ?_
    refine XS.iconst X0.here hx rfl (hb hby dI_34) ?_
    refine XS.istore X0.here hx rfl (hb hby dI_35) rfl (l' := #[rv ad, rv at_, rv rn, iv 1, iv x4, iv x5, iv 0, iv 0, .unset]) rfl ?_
    refine XS.iconst X0.here hx rfl (hb hby dI_37) ?_
    show sS p e below T0 m 38 #[rv ad, rv at_, rv rn, iv 1, iv x4, iv x5, iv 0, iv 0, .unset] [(.int (0 : Int32))] _
    refine XS.istore X0.here hx rfl (hb hby dI_38) rfl (l' := #[rv ad, rv at_, rv rn, iv 1, iv x4, iv x5, iv 0, iv 0, iv 0]) rfl ?_
    refine XS.iload X0.here hx rfl (hb hby dI_40) rfl ?_
    refine XS.iloadN X0.here hx rfl (hb hby dI_42) rfl ?_
    refine XS.icmpNo X0.here hx rfl (hb hby dI_43) rfl (by decide) ?_
    refine XS.aloadN X0.here hx rfl (hb hby dI_46) rfl rfl ?_
    refine XS.aloadN X0.here hx rfl (hb hby dI_47) rfl rfl ?_
    show sS p e below T0 m 48 #[rv ad, rv at_, rv rn, iv 1, iv x4, iv x5, iv 0, iv 0, iv 0] [(.ref rn), (.ref at_)] _
    refine XS.iload X0.here hx rfl (hb hby dI_48) rfl ?_
    refine own_ldI X0 hx hZ e0 V_n ⟨by decide, by decide⟩ (v := z0) rfl rfl rfl (hb hby dI_50) ?_
    refine own_ldI X0 hx hZ e0 V_t b_z0 (v := u0) e_z0 rfl rfl (hb hby dI_51) ?_
    refine XS.aloadN X0.here hx rfl (hb hby dI_52) rfl rfl ?_
    refine XS.aloadN X0.here hx rfl (hb hby dI_53) rfl rfl ?_
    refine XS.iload X0.here hx rfl (hb hby dI_54) rfl ?_
    show sS p e below T0 m 56 #[rv ad, rv at_, rv rn, iv 1, iv x4, iv x5, iv 0, iv 0, iv 0] [(.int (0 : Int32)), (.ref rn), (.ref at_), (.int u0)] _
    refine own_ldI X0 hx hZ e0 V_n ⟨by decide, by decide⟩ (v := z0) rfl rfl rfl (hb hby dI_56) ?_
    refine own_ldI X0 hx hZ e0 V_t b_z0 (v := u0) e_z0 rfl rfl (hb hby dI_57) ?_
    show sS p e below T0 m 58 #[rv ad, rv at_, rv rn, iv 1, iv x4, iv x5, iv 0, iv 0, iv 0] [(.int u0), (.int u0)] _
    refine sg_to_1_0_58_64 X0 hx hZ hw hby hown ?_
    show sS p e below T0 m 64 #[rv ad, rv at_, rv rn, iv 1, iv x4, iv x5, iv 0, .val (.int (own_cnt (0 : Int32) u0 u0)), iv 0] [] _
    refine XS.iinc X0.here hx rfl (hb hby dI_64) rfl (l' := #[rv ad, rv at_, rv rn, iv 1, iv x4, iv x5, iv 0, .val (.int (own_cnt (0 : Int32) u0 u0)), iv 1]) rfl ?_
    refine XS.goto X0.here hx rfl (pc0 := 67) (pc' := 40) rfl (hb hby dI_67) (by decide) (by decide) ?_
    refine XS.iload X0.here hx rfl (hb hby dI_40) rfl ?_
    refine XS.iloadN X0.here hx rfl (hb hby dI_42) rfl ?_
    refine XS.icmpYes X0.here hx rfl (pc0 := 43) (pc' := 70) rfl (hb hby dI_43) rfl (by decide) (by decide) (by decide) ?_
    refine XS.iload X0.here hx rfl (hb hby dI_70) rfl ?_
    show sS p e below T0 m 72 #[rv ad, rv at_, rv rn, iv 1, iv x4, iv x5, iv 0, .val (.int (own_cnt (0 : Int32) u0 u0)), iv 1] [(.int (own_cnt (0 : Int32) u0 u0))] _
    refine XS.iload X0.here hx rfl (hb hby dI_72) rfl ?_
    refine XS.icmpYes X0.here hx rfl (pc0 := 74) (pc' := 89) rfl (hb hby dI_74) rfl hc74 (by decide) (by decide) ?_
    refine XS.iinc X0.here hx rfl (hb hby dI_89) rfl (l' := #[rv ad, rv at_, rv rn, iv 1, iv x4, iv x5, iv 1, .val (.int (own_cnt (0 : Int32) u0 u0)), iv 1]) rfl ?_
    refine XS.goto X0.here hx rfl (pc0 := 92) (pc' := 28) rfl (hb hby dI_92) (by decide) (by decide) ?_
    exact kt
  · refine ⟨T0, h0, _, u0, (own_cnt (0 : Int32) u0 u0), X0, e0, N0, rfl, (by unfold own_b; rw [hc74]; rfl), (by unfold own_c; rw [hc74]; rfl), fun target kt => ?_⟩
    show sS p e below T0 m 28 #[rv ad, rv at_, rv rn, iv 1, iv x4, iv x5, iv 0, .unset, .unset] [] _
    refine XS.iload X0.here hx rfl (hb hby dI_28) rfl ?_
    refine XS.iloadN X0.here hx rfl (hb hby dI_30) rfl ?_
    refine XS.icmpNo X0.here hx rfl (hb hby dI_31) rfl (by decide) ?_
    refine XS.iconst X0.here hx rfl (hb hby dI_34) ?_
    refine XS.istore X0.here hx rfl (hb hby dI_35) rfl (l' := #[rv ad, rv at_, rv rn, iv 1, iv x4, iv x5, iv 0, iv 0, .unset]) rfl ?_
    refine XS.iconst X0.here hx rfl (hb hby dI_37) ?_
    show sS p e below T0 m 38 #[rv ad, rv at_, rv rn, iv 1, iv x4, iv x5, iv 0, iv 0, .unset] [(.int (0 : Int32))] _
    refine XS.istore X0.here hx rfl (hb hby dI_38) rfl (l' := #[rv ad, rv at_, rv rn, iv 1, iv x4, iv x5, iv 0, iv 0, iv 0]) rfl ?_
    refine XS.iload X0.here hx rfl (hb hby dI_40) rfl ?_
    refine XS.iloadN X0.here hx rfl (hb hby dI_42) rfl ?_
    refine XS.icmpNo X0.here hx rfl (hb hby dI_43) rfl (by decide) ?_
    refine XS.aloadN X0.here hx rfl (hb hby dI_46) rfl rfl ?_
    refine XS.aloadN X0.here hx rfl (hb hby dI_47) rfl rfl ?_
    show sS p e below T0 m 48 #[rv ad, rv at_, rv rn, iv 1, iv x4, iv x5, iv 0, iv 0, iv 0] [(.ref rn), (.ref at_)] _
    refine XS.iload X0.here hx rfl (hb hby dI_48) rfl ?_
    refine own_ldI X0 hx hZ e0 V_n ⟨by decide, by decide⟩ (v := z0) rfl rfl rfl (hb hby dI_50) ?_
    refine own_ldI X0 hx hZ e0 V_t b_z0 (v := u0) e_z0 rfl rfl (hb hby dI_51) ?_
    refine XS.aloadN X0.here hx rfl (hb hby dI_52) rfl rfl ?_
    refine XS.aloadN X0.here hx rfl (hb hby dI_53) rfl rfl ?_
    refine XS.iload X0.here hx rfl (hb hby dI_54) rfl ?_
    show sS p e below T0 m 56 #[rv ad, rv at_, rv rn, iv 1, iv x4, iv x5, iv 0, iv 0, iv 0] [(.int (0 : Int32)), (.ref rn), (.ref at_), (.int u0)] _
    refine own_ldI X0 hx hZ e0 V_n ⟨by decide, by decide⟩ (v := z0) rfl rfl rfl (hb hby dI_56) ?_
    refine own_ldI X0 hx hZ e0 V_t b_z0 (v := u0) e_z0 rfl rfl (hb hby dI_57) ?_
    show sS p e below T0 m 58 #[rv ad, rv at_, rv rn, iv 1, iv x4, iv x5, iv 0, iv 0, iv 0] [(.int u0), (.int u0)] _
    refine sg_to_1_0_58_64 X0 hx hZ hw hby hown ?_
    show sS p e below T0 m 64 #[rv ad, rv at_, rv rn, iv 1, iv x4, iv x5, iv 0, .val (.int (own_cnt (0 : Int32) u0 u0)), iv 0] [] _
    refine XS.iinc X0.here hx rfl (hb hby dI_64) rfl (l' := #[rv ad, rv at_, rv rn, iv 1, iv x4, iv x5, iv 0, .val (.int (own_cnt (0 : Int32) u0 u0)), iv 1]) rfl ?_
    refine XS.goto X0.here hx rfl (pc0 := 67) (pc' := 40) rfl (hb hby dI_67) (by decide) (by decide) ?_
    refine XS.iload X0.here hx rfl (hb hby dI_40) rfl ?_
    refine XS.iloadN X0.here hx rfl (hb hby dI_42) rfl ?_
    refine XS.icmpYes X0.here hx rfl (pc0 := 43) (pc' := 70) rfl (hb hby dI_43) rfl (by decide) (by decide) (by decide) ?_
    refine XS.iload X0.here hx rfl (hb hby dI_70) rfl ?_
    show sS p e below T0 m 72 #[rv ad, rv at_, rv rn, iv 1, iv x4, iv x5, iv 0, .val (.int (own_cnt (0 : Int32) u0 u0)), iv 1] [(.int (own_cnt (0 : Int32) u0 u0))] _
    refine XS.iload X0.here hx rfl (hb hby dI_72) rfl ?_
    refine XS.icmpNo X0.here hx rfl (hb hby dI_74) rfl hc74 ?_
    refine XS.aloadN X0.here hx rfl (hb hby dI_77) rfl rfl ?_
    refine XS.aloadN X0.here hx rfl (hb hby dI_78) rfl rfl ?_
    refine XS.iload X0.here hx rfl (hb hby dI_79) rfl ?_
    refine own_ldI X0 hx hZ e0 V_n ⟨by decide, by decide⟩ (v := z0) rfl rfl rfl (hb hby dI_81) ?_
    show sS p e below T0 m 82 #[rv ad, rv at_, rv rn, iv 1, iv x4, iv x5, iv 0, .val (.int (own_cnt (0 : Int32) u0 u0)), iv 1] [(.int z0), (.ref at_)] _
    refine own_ldI X0 hx hZ e0 V_t b_z0 (v := u0) e_z0 rfl rfl (hb hby dI_82) ?_
    refine XS.istore X0.here hx rfl (hb hby dI_83) rfl (l' := #[rv ad, rv at_, rv rn, iv 1, iv u0, iv x5, iv 0, .val (.int (own_cnt (0 : Int32) u0 u0)), iv 1]) rfl ?_
    refine XS.iload X0.here hx rfl (hb hby dI_85) rfl ?_
    refine XS.istore X0.here hx rfl (hb hby dI_87) rfl (l' := #[rv ad, rv at_, rv rn, iv 1, iv u0, .val (.int (own_cnt (0 : Int32) u0 u0)), iv 0, .val (.int (own_cnt (0 : Int32) u0 u0)), iv 1]) rfl ?_
    refine XS.iinc X0.here hx rfl (hb hby dI_89) rfl (l' := #[rv ad, rv at_, rv rn, iv 1, iv u0, .val (.int (own_cnt (0 : Int32) u0 u0)), iv 1, .val (.int (own_cnt (0 : Int32) u0 u0)), iv 1]) rfl ?_
    refine XS.goto X0.here hx rfl (pc0 := 92) (pc' := 28) rfl (hb hby dI_92) (by decide) (by decide) ?_
    exact kt
set_option maxRecDepth 65536 in
set_option maxHeartbeats 4000000 in
theorem sg_to_2_0_58_64 {p : Program} {l : Launch} {e : Env} {R : Room} {s : State} {m : MethodId} {args : Array Value} {below : List Frame} {meth : Method} {c : Code} {T : State} {locs : List Loc} {cells slots : Nat} {Z : State} {a0 : Array Value} {target : State} {x0 : Addr} {x1 : Addr} {x2 : Addr} {x3 : Int32} {x4 : Int32} {x5 : Int32} {x6 : Int32} {x7 : Int32} {x8 : Int32} {y0 : Int32} {y1 : Int32} (X : Stand p l e R s m args below meth c T locs cells slots) (hx : p.tables.exec = Jvm.exec) (hZ : Z.Warmed39 s.vm) (hw : ∀ d ∈ tables_1, d.before a0 Z = true) (hby : c.code = prog_5_method_3_code) (hown : s.vm.findClass cN1 = some m.cls)
    (k : Steps p.tables e below (T.setTop (mkF m 64 #[rv x0, rv x1, rv x2, iv x3, iv x4, iv x5, iv x6, .val (.int (bif (if_icmp.holds .ne y1 y0) then x7 else (x7 + (1 : Int32)))), iv x8] [])) target) : Steps p.tables e below (T.setTop (mkF m 58 #[rv x0, rv x1, rv x2, iv x3, iv x4, iv x5, iv x6, iv x7, iv x8] [(.int y0), (.int y1)])) target := by
  show sS p e below T m 58 #[rv x0, rv x1, rv x2, iv x3, iv x4, iv x5, iv x6, iv x7, iv x8] [(.int y0), (.int y1)] _
  rcases Bool.eq_false_or_eq_true (if_icmp.holds .ne y1 y0) with hc1 | hc1
  · try rw [hc1] at k
    refine XS.icmpYes X.here hx rfl (pc0 := 58) (pc' := 64) rfl (hb hby dI_58) rfl hc1 (by decide) (by decide) ?_
    show sS p e below T m 64 #[rv x0, rv x1, rv x2, iv x3, iv x4, iv x5, iv x6, iv x7, iv x8] [] _
    exact k
  · try rw [hc1] at k
    refine XS.icmpNo X.here hx rfl (hb hby dI_58) rfl hc1 ?_
    show sS p e below T m 61 #[rv x0, rv x1, rv x2, iv x3, iv x4, iv x5, iv x6, iv x7, iv x8] [] _
    refine XS.iinc X.here hx rfl (hb hby dI_61) rfl (l' := #[rv x0, rv x1, rv x2, iv x3, iv x4, iv x5, iv x6, .val (.int (x7 + (1 : Int32))), iv x8]) rfl ?_
    exact k
set_option maxRecDepth 65536 in
set_option maxHeartbeats 4000000 in
theorem sg_to_2_0_58_64_1 {p : Program} {l : Launch} {e : Env} {R : Room} {s : State} {m : MethodId} {args : Array Value} {below : List Frame} {meth : Method} {c : Code} {T : State} {locs : List Loc} {cells slots : Nat} {Z : State} {a0 : Array Value} {target : State} {x0 : Addr} {x1 : Addr} {x2 : Addr} {x3 : Int32} {x4 : Int32} {x5 : Int32} {x6 : Int32} {x7 : Int32} {x8 : Int32} {y0 : Int32} {y1 : Int32} (X : Stand p l e R s m args below meth c T locs cells slots) (hx : p.tables.exec = Jvm.exec) (hZ : Z.Warmed39 s.vm) (hw : ∀ d ∈ tables_1, d.before a0 Z = true) (hby : c.code = prog_5_method_3_code) (hown : s.vm.findClass cN1 = some m.cls)
    (k : Steps p.tables e below (T.setTop (mkF m 64 #[rv x0, rv x1, rv x2, iv x3, iv x4, iv x5, iv x6, .val (.int (bif (if_icmp.holds .ne y1 y0) then x7 else (x7 + (1 : Int32)))), iv x8] [])) target) : Steps p.tables e below (T.setTop (mkF m 58 #[rv x0, rv x1, rv x2, iv x3, iv x4, iv x5, iv x6, iv x7, iv x8] [(.int y0), (.int y1)])) target := by
  show sS p e below T m 58 #[rv x0, rv x1, rv x2, iv x3, iv x4, iv x5, iv x6, iv x7, iv x8] [(.int y0), (.int y1)] _
  rcases Bool.eq_false_or_eq_true (if_icmp.holds .ne y1 y0) with hc1 | hc1
  · try rw [hc1] at k
    refine XS.icmpYes X.here hx rfl (pc0 := 58) (pc' := 64) rfl (hb hby dI_58) rfl hc1 (by decide) (by decide) ?_
    show sS p e below T m 64 #[rv x0, rv x1, rv x2, iv x3, iv x4, iv x5, iv x6, iv x7, iv x8] [] _
    exact k
  · try rw [hc1] at k
    refine XS.icmpNo X.here hx rfl (hb hby dI_58) rfl hc1 ?_
    show sS p e below T m 61 #[rv x0, rv x1, rv x2, iv x3, iv x4, iv x5, iv x6, iv x7, iv x8] [] _
    refine XS.iinc X.here hx rfl (hb hby dI_61) rfl (l' := #[rv x0, rv x1, rv x2, iv x3, iv x4, iv x5, iv x6, .val (.int (x7 + (1 : Int32))), iv x8]) rfl ?_
    exact k
set_option maxRecDepth 65536 in
set_option maxHeartbeats 40000000 in
theorem to_2_0 {p : Program} {l : Launch} {e : Env} {s : State} {m : MethodId} {args : Array Value} {below : List Frame} {meth : Method} {c : Code} {T0 : State} {locs : List Loc}  {Z : State} {a0 : Array Value} {h0 : Heap} {n0 : Nat} {ad at_ rn : Addr} {kt kn : ClassId} {nn u0 u1 z0 z1 x4 x5 : Int32} {vt : List Value} (X0 : Stand p l e ({ frames := 4, cells := 1, slots := 2, locals := 82 } : Room) s m args below meth c T0 locs 1 2) (hx : p.tables.exec = Jvm.exec) (hZ : Z.Warmed39 s.vm) (hw : ∀ d ∈ tables_1, d.before a0 Z = true) (hby : c.code = prog_5_method_3_code) (hml : c.maxLocals = 9) (hown : s.vm.findClass cN1 = some m.cls) (e0 : T0.heap = h0) (Z0 : n0 ≤ h0.size) (N0 : Fr n0 locs) (V_t : Arv Z h0 at_ kt .int nn vt (.int (0 : Int32))) (V_n : Arv Z h0 rn kn .int (2 : Int32) [(.int z0), (.int z1)] (.int (0 : Int32))) (b_z0 : (¬ z0 < 0 ∧ z0 < nn)) (e_z0 : vt.getD z0.toNatClampNeg (.int (0 : Int32)) = .int u0) (b_z1 : (¬ z1 < 0 ∧ z1 < nn)) (e_z1 : vt.getD z1.toNatClampNeg (.int (0 : Int32)) = .int u1) :
    ∃ (T' : State) (h' : Heap) (L' : List Loc) (y4 y5 : Int32), Stand p l e ({ frames := 4, cells := 1, slots := 2, locals := 82 } : Room) s m args below meth c T' L' 1 2 ∧ T'.heap = h' ∧ Fr n0 L' ∧ h' = h0 ∧ y4 = own_b (own_cnt (own_cnt (0 : Int32) u0 u0) u1 u0) x5 x4 u0 ∧ y5 = own_c (own_cnt (own_cnt (0 : Int32) u0 u0) u1 u0) x5 ∧ ∀ target, Steps p.tables e below (T'.setTop (mkF m 28 #[rv ad, rv at_, rv rn, iv 2, iv y4, iv y5, iv 1, .val (.int (own_cnt (own_cnt (0 : Int32) u0 u0) u1 u0)), iv 2] [])) target → Steps p.tables e below (T0.setTop (mkF m 28 #[rv ad, rv at_, rv rn, iv 2, iv x4, iv x5, iv 0, .unset, .unset] [])) target := by
  rcases Bool.eq_false_or_eq_true (if_icmp.holds .le (own_cnt (own_cnt (0 : Int32) u0 u0) u1 u0) x5) with hc74 | hc74
  · refine ⟨T0, h0, _, x4, x5, X0, e0, N0, rfl, (by unfold own_b; rw [hc74]; rfl), (by unfold own_c; rw [hc74]; rfl), fun target kt => ?_⟩
    show sS p e below T0 m 28 #[rv ad, rv at_, rv rn, iv 2, iv x4, iv x5, iv 0, .unset, .unset] [] _
    refine XS.iload X0.here hx rfl (hb hby dI_28) rfl ?_
    refine XS.iloadN X0.here hx rfl (hb hby dI_30) rfl ?_
    refine XS.icmpNo X0.here hx rfl (hb hby dI_31) rfl (by decide) ?_
    refine XS.iconst X0.here hx rfl (hb hby dI_34) ?_
    refine XS.istore X0.here hx rfl (hb hby dI_35) rfl (l' := #[rv ad, rv at_, rv rn, iv 2, iv x4, iv x5, iv 0, iv 0, .unset]) rfl ?_
    refine XS.iconst X0.here hx rfl (hb hby dI_37) ?_
    show sS p e below T0 m 38 #[rv ad, rv at_, rv rn, iv 2, iv x4, iv x5, iv 0, iv 0, .unset] [(.int (0 : Int32))] _
    refine XS.istore X0.here hx rfl (hb hby dI_38) rfl (l' := #[rv ad, rv at_, rv rn, iv 2, iv x4, iv x5, iv 0, iv 0, iv 0]) rfl ?_
    refine XS.iload X0.here hx rfl (hb hby dI_40) rfl ?_
    refine XS.iloadN X0.here hx rfl (hb hby dI_42) rfl ?_
    refine XS.icmpNo X0.here hx rfl (hb hby dI_43) rfl (by decide) ?_
    refine XS.aloadN X0.here hx rfl (hb hby dI_46) rfl rfl ?_
    refine XS.aloadN X0.here hx rfl (hb hby dI_47) rfl rfl ?_
    show sS p e below T0 m 48 #[rv ad, rv at_, rv rn, iv 2, iv x4, iv x5, iv 0, iv 0, iv 0] [(.ref rn), (.ref at_)] _
    refine XS.iload X0.here hx rfl (hb hby dI_48) rfl ?_
    refine own_ldI X0 hx hZ e0 V_n ⟨by decide, by decide⟩ (v := z0) rfl rfl rfl (hb hby dI_50) ?_
    refine own_ldI X0 hx hZ e0 V_t b_z0 (v := u0) e_z0 rfl rfl (hb hby dI_51) ?_
    refine XS.aloadN X0.here hx rfl (hb hby dI_52) rfl rfl ?_
    refine XS.aloadN X0.here hx rfl (hb hby dI_53) rfl rfl ?_
    refine XS.iload X0.here hx rfl (hb hby dI_54) rfl ?_
    show sS p e below T0 m 56 #[rv ad, rv at_, rv rn, iv 2, iv x4, iv x5, iv 0, iv 0, iv 0] [(.int (0 : Int32)), (.ref rn), (.ref at_), (.int u0)] _
    refine own_ldI X0 hx hZ e0 V_n ⟨by decide, by decide⟩ (v := z0) rfl rfl rfl (hb hby dI_56) ?_
    refine own_ldI X0 hx hZ e0 V_t b_z0 (v := u0) e_z0 rfl rfl (hb hby dI_57) ?_
    show sS p e below T0 m 58 #[rv ad, rv at_, rv rn, iv 2, iv x4, iv x5, iv 0, iv 0, iv 0] [(.int u0), (.int u0)] _
    refine sg_to_2_0_58_64 X0 hx hZ hw hby hown ?_
    show sS p e below T0 m 64 #[rv ad, rv at_, rv rn, iv 2, iv x4, iv x5, iv 0, .val (.int (own_cnt (0 : Int32) u0 u0)), iv 0] [] _
    refine XS.iinc X0.here hx rfl (hb hby dI_64) rfl (l' := #[rv ad, rv at_, rv rn, iv 2, iv x4, iv x5, iv 0, .val (.int (own_cnt (0 : Int32) u0 u0)), iv 1]) rfl ?_
    refine XS.goto X0.here hx rfl (pc0 := 67) (pc' := 40) rfl (hb hby dI_67) (by decide) (by decide) ?_
    refine XS.iload X0.here hx rfl (hb hby dI_40) rfl ?_
    refine XS.iloadN X0.here hx rfl (hb hby dI_42) rfl ?_
    refine XS.icmpNo X0.here hx rfl (hb hby dI_43) rfl (by decide) ?_
    refine XS.aloadN X0.here hx rfl (hb hby dI_46) rfl rfl ?_
    show sS p e below T0 m 47 #[rv ad, rv at_, rv rn, iv 2, iv x4, iv x5, iv 0, .val (.int (own_cnt (0 : Int32) u0 u0)), iv 1] [(.ref at_)] _
    refine XS.aloadN X0.here hx rfl (hb hby dI_47) rfl rfl ?_
    refine XS.iload X0.here hx rfl (hb hby dI_48) rfl ?_
    refine own_ldI X0 hx hZ e0 V_n ⟨by decide, by decide⟩ (v := z1) rfl rfl rfl (hb hby dI_50) ?_
    refine own_ldI X0 hx hZ e0 V_t b_z1 (v := u1) e_z1 rfl rfl (hb hby dI_51) ?_
    refine XS.aloadN X0.here hx rfl (hb hby dI_52) rfl rfl ?_
    refine XS.aloadN X0.here hx rfl (hb hby dI_53) rfl rfl ?_
    show sS p e below T0 m 54 #[rv ad, rv at_, rv rn, iv 2, iv x4, iv x5, iv 0, .val (.int (own_cnt (0 : Int32) u0 u0)), iv 1] [(.ref rn), (.ref at_), (.int u1)] _
    refine XS.iload X0.here hx rfl (hb hby dI_54) rfl ?_
    refine own_ldI X0 hx hZ e0 V_n ⟨by decide, by decide⟩ (v := z0) rfl rfl rfl (hb hby dI_56) ?_
    refine own_ldI X0 hx hZ e0 V_t b_z0 (v := u0) e_z0 rfl rfl (hb hby dI_57) ?_
    show sS p e below T0 m 58 #[rv ad, rv at_, rv rn, iv 2, iv x4, iv x5, iv 0, .val (.int (own_cnt (0 : Int32) u0 u0)), iv 1] [(.int u0), (.int u1)] _
    refine sg_to_2_0_58_64_1 X0 hx hZ hw hby hown ?_
    show sS p e below T0 m 64 #[rv ad, rv at_, rv rn, iv 2, iv x4, iv x5, iv 0, .val (.int (own_cnt (own_cnt (0 : Int32) u0 u0) u1 u0)), iv 1] [] _
    refine XS.iinc X0.here hx rfl (hb hby dI_64) rfl (l' := #[rv ad, rv at_, rv rn, iv 2, iv x4, iv x5, iv 0, .val (.int (own_cnt (own_cnt (0 : Int32) u0 u0) u1 u0)), iv 2]) rfl ?_
    refine XS.goto X0.here hx rfl (pc0 := 67) (pc' := 40) rfl (hb hby dI_67) (by decide) (by decide) ?_
    refine XS.iload X0.here hx rfl (hb hby dI_40) rfl ?_
    refine XS.iloadN X0.here hx rfl (hb hby dI_42) rfl ?_
    refine XS.icmpYes X0.here hx rfl (pc0 := 43) (pc' := 70) rfl (hb hby dI_43) rfl (by decide) (by decide) (by decide) ?_
    refine XS.iload X0.here hx rfl (hb hby dI_70) rfl ?_
    show sS p e below T0 m 72 #[rv ad, rv at_, rv rn, iv 2, iv x4, iv x5, iv 0, .val (.int (own_cnt (own_cnt (0 : Int32) u0 u0) u1 u0)), iv 2] [(.int (own_cnt (own_cnt (0 : Int32) u0 u0) u1 u0))] _
    refine XS.iload X0.here hx rfl (hb hby dI_72) rfl ?_
    refine XS.icmpYes X0.here hx rfl (pc0 := 74) (pc' := 89) rfl (hb hby dI_74) rfl hc74 (by decide) (by decide) ?_
    refine XS.iinc X0.here hx rfl (hb hby dI_89) rfl (l' := #[rv ad, rv at_, rv rn, iv 2, iv x4, iv x5, iv 1, .val (.int (own_cnt (own_cnt (0 : Int32) u0 u0) u1 u0)), iv 2]) rfl ?_
    refine XS.goto X0.here hx rfl (pc0 := 92) (pc' := 28) rfl (hb hby dI_92) (by decide) (by decide) ?_
    exact kt
  · refine ⟨T0, h0, _, u0, (own_cnt (own_cnt (0 : Int32) u0 u0) u1 u0), X0, e0, N0, rfl, (by unfold own_b; rw [hc74]; rfl), (by unfold own_c; rw [hc74]; rfl), fun target kt => ?_⟩
    show sS p e below T0 m 28 #[rv ad, rv at_, rv rn, iv 2, iv x4, iv x5, iv 0, .unset, .unset] [] _
    refine XS.iload X0.here hx rfl (hb hby dI_28) rfl ?_
    refine XS.iloadN X0.here hx rfl (hb hby dI_30) rfl ?_
    refine XS.icmpNo X0.here hx rfl (hb hby dI_31) rfl (by decide) ?_
    refine XS.iconst X0.here hx rfl (hb hby dI_34) ?_
    refine XS.istore X0.here hx rfl (hb hby dI_35) rfl (l' := #[rv ad, rv at_, rv rn, iv 2, iv x4, iv x5, iv 0, iv 0, .unset]) rfl ?_
    refine XS.iconst X0.here hx rfl (hb hby dI_37) ?_
    show sS p e below T0 m 38 #[rv ad, rv at_, rv rn, iv 2, iv x4, iv x5, iv 0, iv 0, .unset] [(.int (0 : Int32))] _
    refine XS.istore X0.here hx rfl (hb hby dI_38) rfl (l' := #[rv ad, rv at_, rv rn, iv 2, iv x4, iv x5, iv 0, iv 0, iv 0]) rfl ?_
    refine XS.iload X0.here hx rfl (hb hby dI_40) rfl ?_
    refine XS.iloadN X0.here hx rfl (hb hby dI_42) rfl ?_
    refine XS.icmpNo X0.here hx rfl (hb hby dI_43) rfl (by decide) ?_
    refine XS.aloadN X0.here hx rfl (hb hby dI_46) rfl rfl ?_
    refine XS.aloadN X0.here hx rfl (hb hby dI_47) rfl rfl ?_
    show sS p e below T0 m 48 #[rv ad, rv at_, rv rn, iv 2, iv x4, iv x5, iv 0, iv 0, iv 0] [(.ref rn), (.ref at_)] _
    refine XS.iload X0.here hx rfl (hb hby dI_48) rfl ?_
    refine own_ldI X0 hx hZ e0 V_n ⟨by decide, by decide⟩ (v := z0) rfl rfl rfl (hb hby dI_50) ?_
    refine own_ldI X0 hx hZ e0 V_t b_z0 (v := u0) e_z0 rfl rfl (hb hby dI_51) ?_
    refine XS.aloadN X0.here hx rfl (hb hby dI_52) rfl rfl ?_
    refine XS.aloadN X0.here hx rfl (hb hby dI_53) rfl rfl ?_
    refine XS.iload X0.here hx rfl (hb hby dI_54) rfl ?_
    show sS p e below T0 m 56 #[rv ad, rv at_, rv rn, iv 2, iv x4, iv x5, iv 0, iv 0, iv 0] [(.int (0 : Int32)), (.ref rn), (.ref at_), (.int u0)] _
    refine own_ldI X0 hx hZ e0 V_n ⟨by decide, by decide⟩ (v := z0) rfl rfl rfl (hb hby dI_56) ?_
    refine own_ldI X0 hx hZ e0 V_t b_z0 (v := u0) e_z0 rfl rfl (hb hby dI_57) ?_
    show sS p e below T0 m 58 #[rv ad, rv at_, rv rn, iv 2, iv x4, iv x5, iv 0, iv 0, iv 0] [(.int u0), (.int u0)] _
    refine sg_to_2_0_58_64 X0 hx hZ hw hby hown ?_
    show sS p e below T0 m 64 #[rv ad, rv at_, rv rn, iv 2, iv x4, iv x5, iv 0, .val (.int (own_cnt (0 : Int32) u0 u0)), iv 0] [] _
    refine XS.iinc X0.here hx rfl (hb hby dI_64) rfl (l' := #[rv ad, rv at_, rv rn, iv 2, iv x4, iv x5, iv 0, .val (.int (own_cnt (0 : Int32) u0 u0)), iv 1]) rfl ?_
    refine XS.goto X0.here hx rfl (pc0 := 67) (pc' := 40) rfl (hb hby dI_67) (by decide) (by decide) ?_
    refine XS.iload X0.here hx rfl (hb hby dI_40) rfl ?_
    refine XS.iloadN X0.here hx rfl (hb hby dI_42) rfl ?_
    refine XS.icmpNo X0.here hx rfl (hb hby dI_43) rfl (by decide) ?_
    refine XS.aloadN X0.here hx rfl (hb hby dI_46) rfl rfl ?_
    show sS p e below T0 m 47 #[rv ad, rv at_, rv rn, iv 2, iv x4, iv x5, iv 0, .val (.int (own_cnt (0 : Int32) u0 u0)), iv 1] [(.ref at_)] _
    refine XS.aloadN X0.here hx rfl (hb hby dI_47) rfl rfl ?_
    refine XS.iload X0.here hx rfl (hb hby dI_48) rfl ?_
    refine own_ldI X0 hx hZ e0 V_n ⟨by decide, by decide⟩ (v := z1) rfl rfl rfl (hb hby dI_50) ?_
    refine own_ldI X0 hx hZ e0 V_t b_z1 (v := u1) e_z1 rfl rfl (hb hby dI_51) ?_
    refine XS.aloadN X0.here hx rfl (hb hby dI_52) rfl rfl ?_
    refine XS.aloadN X0.here hx rfl (hb hby dI_53) rfl rfl ?_
    show sS p e below T0 m 54 #[rv ad, rv at_, rv rn, iv 2, iv x4, iv x5, iv 0, .val (.int (own_cnt (0 : Int32) u0 u0)), iv 1] [(.ref rn), (.ref at_), (.int u1)] _
    refine XS.iload X0.here hx rfl (hb hby dI_54) rfl ?_
    refine own_ldI X0 hx hZ e0 V_n ⟨by decide, by decide⟩ (v := z0) rfl rfl rfl (hb hby dI_56) ?_
    refine own_ldI X0 hx hZ e0 V_t b_z0 (v := u0) e_z0 rfl rfl (hb hby dI_57) ?_
    show sS p e below T0 m 58 #[rv ad, rv at_, rv rn, iv 2, iv x4, iv x5, iv 0, .val (.int (own_cnt (0 : Int32) u0 u0)), iv 1] [(.int u0), (.int u1)] _
    refine sg_to_2_0_58_64_1 X0 hx hZ hw hby hown ?_
    show sS p e below T0 m 64 #[rv ad, rv at_, rv rn, iv 2, iv x4, iv x5, iv 0, .val (.int (own_cnt (own_cnt (0 : Int32) u0 u0) u1 u0)), iv 1] [] _
    refine XS.iinc X0.here hx rfl (hb hby dI_64) rfl (l' := #[rv ad, rv at_, rv rn, iv 2, iv x4, iv x5, iv 0, .val (.int (own_cnt (own_cnt (0 : Int32) u0 u0) u1 u0)), iv 2]) rfl ?_
    refine XS.goto X0.here hx rfl (pc0 := 67) (pc' := 40) rfl (hb hby dI_67) (by decide) (by decide) ?_
    refine XS.iload X0.here hx rfl (hb hby dI_40) rfl ?_
    refine XS.iloadN X0.here hx rfl (hb hby dI_42) rfl ?_
    refine XS.icmpYes X0.here hx rfl (pc0 := 43) (pc' := 70) rfl (hb hby dI_43) rfl (by decide) (by decide) (by decide) ?_
    refine XS.iload X0.here hx rfl (hb hby dI_70) rfl ?_
    show sS p e below T0 m 72 #[rv ad, rv at_, rv rn, iv 2, iv x4, iv x5, iv 0, .val (.int (own_cnt (own_cnt (0 : Int32) u0 u0) u1 u0)), iv 2] [(.int (own_cnt (own_cnt (0 : Int32) u0 u0) u1 u0))] _
    refine XS.iload X0.here hx rfl (hb hby dI_72) rfl ?_
    refine XS.icmpNo X0.here hx rfl (hb hby dI_74) rfl hc74 ?_
    refine XS.aloadN X0.here hx rfl (hb hby dI_77) rfl rfl ?_
    refine XS.aloadN X0.here hx rfl (hb hby dI_78) rfl rfl ?_
    refine XS.iload X0.here hx rfl (hb hby dI_79) rfl ?_
    refine own_ldI X0 hx hZ e0 V_n ⟨by decide, by decide⟩ (v := z0) rfl rfl rfl (hb hby dI_81) ?_
    show sS p e below T0 m 82 #[rv ad, rv at_, rv rn, iv 2, iv x4, iv x5, iv 0, .val (.int (own_cnt (own_cnt (0 : Int32) u0 u0) u1 u0)), iv 2] [(.int z0), (.ref at_)] _
    refine own_ldI X0 hx hZ e0 V_t b_z0 (v := u0) e_z0 rfl rfl (hb hby dI_82) ?_
    refine XS.istore X0.here hx rfl (hb hby dI_83) rfl (l' := #[rv ad, rv at_, rv rn, iv 2, iv u0, iv x5, iv 0, .val (.int (own_cnt (own_cnt (0 : Int32) u0 u0) u1 u0)), iv 2]) rfl ?_
    refine XS.iload X0.here hx rfl (hb hby dI_85) rfl ?_
    refine XS.istore X0.here hx rfl (hb hby dI_87) rfl (l' := #[rv ad, rv at_, rv rn, iv 2, iv u0, .val (.int (own_cnt (own_cnt (0 : Int32) u0 u0) u1 u0)), iv 0, .val (.int (own_cnt (own_cnt (0 : Int32) u0 u0) u1 u0)), iv 2]) rfl ?_
    refine XS.iinc X0.here hx rfl (hb hby dI_89) rfl (l' := #[rv ad, rv at_, rv rn, iv 2, iv u0, .val (.int (own_cnt (own_cnt (0 : Int32) u0 u0) u1 u0)), iv 1, .val (.int (own_cnt (own_cnt (0 : Int32) u0 u0) u1 u0)), iv 2]) rfl ?_
    refine XS.goto X0.here hx rfl (pc0 := 92) (pc' := 28) rfl (hb hby dI_92) (by decide) (by decide) ?_
    exact kt
set_option maxRecDepth 65536 in
set_option maxHeartbeats 4000000 in
theorem sg_to_2_1_58_64 {p : Program} {l : Launch} {e : Env} {R : Room} {s : State} {m : MethodId} {args : Array Value} {below : List Frame} {meth : Method} {c : Code} {T : State} {locs : List Loc} {cells slots : Nat} {Z : State} {a0 : Array Value} {target : State} {x0 : Addr} {x1 : Addr} {x2 : Addr} {x3 : Int32} {x4 : Int32} {x5 : Int32} {x6 : Int32} {x7 : Int32} {x8 : Int32} {y0 : Int32} {y1 : Int32} (X : Stand p l e R s m args below meth c T locs cells slots) (hx : p.tables.exec = Jvm.exec) (hZ : Z.Warmed39 s.vm) (hw : ∀ d ∈ tables_1, d.before a0 Z = true) (hby : c.code = prog_5_method_3_code) (hown : s.vm.findClass cN1 = some m.cls)
    (k : Steps p.tables e below (T.setTop (mkF m 64 #[rv x0, rv x1, rv x2, iv x3, iv x4, iv x5, iv x6, .val (.int (bif (if_icmp.holds .ne y1 y0) then x7 else (x7 + (1 : Int32)))), iv x8] [])) target) : Steps p.tables e below (T.setTop (mkF m 58 #[rv x0, rv x1, rv x2, iv x3, iv x4, iv x5, iv x6, iv x7, iv x8] [(.int y0), (.int y1)])) target := by
  show sS p e below T m 58 #[rv x0, rv x1, rv x2, iv x3, iv x4, iv x5, iv x6, iv x7, iv x8] [(.int y0), (.int y1)] _
  rcases Bool.eq_false_or_eq_true (if_icmp.holds .ne y1 y0) with hc1 | hc1
  · try rw [hc1] at k
    refine XS.icmpYes X.here hx rfl (pc0 := 58) (pc' := 64) rfl (hb hby dI_58) rfl hc1 (by decide) (by decide) ?_
    show sS p e below T m 64 #[rv x0, rv x1, rv x2, iv x3, iv x4, iv x5, iv x6, iv x7, iv x8] [] _
    exact k
  · try rw [hc1] at k
    refine XS.icmpNo X.here hx rfl (hb hby dI_58) rfl hc1 ?_
    show sS p e below T m 61 #[rv x0, rv x1, rv x2, iv x3, iv x4, iv x5, iv x6, iv x7, iv x8] [] _
    refine XS.iinc X.here hx rfl (hb hby dI_61) rfl (l' := #[rv x0, rv x1, rv x2, iv x3, iv x4, iv x5, iv x6, .val (.int (x7 + (1 : Int32))), iv x8]) rfl ?_
    exact k
set_option maxRecDepth 65536 in
set_option maxHeartbeats 4000000 in
theorem sg_to_2_1_58_64_1 {p : Program} {l : Launch} {e : Env} {R : Room} {s : State} {m : MethodId} {args : Array Value} {below : List Frame} {meth : Method} {c : Code} {T : State} {locs : List Loc} {cells slots : Nat} {Z : State} {a0 : Array Value} {target : State} {x0 : Addr} {x1 : Addr} {x2 : Addr} {x3 : Int32} {x4 : Int32} {x5 : Int32} {x6 : Int32} {x7 : Int32} {x8 : Int32} {y0 : Int32} {y1 : Int32} (X : Stand p l e R s m args below meth c T locs cells slots) (hx : p.tables.exec = Jvm.exec) (hZ : Z.Warmed39 s.vm) (hw : ∀ d ∈ tables_1, d.before a0 Z = true) (hby : c.code = prog_5_method_3_code) (hown : s.vm.findClass cN1 = some m.cls)
    (k : Steps p.tables e below (T.setTop (mkF m 64 #[rv x0, rv x1, rv x2, iv x3, iv x4, iv x5, iv x6, .val (.int (bif (if_icmp.holds .ne y1 y0) then x7 else (x7 + (1 : Int32)))), iv x8] [])) target) : Steps p.tables e below (T.setTop (mkF m 58 #[rv x0, rv x1, rv x2, iv x3, iv x4, iv x5, iv x6, iv x7, iv x8] [(.int y0), (.int y1)])) target := by
  show sS p e below T m 58 #[rv x0, rv x1, rv x2, iv x3, iv x4, iv x5, iv x6, iv x7, iv x8] [(.int y0), (.int y1)] _
  rcases Bool.eq_false_or_eq_true (if_icmp.holds .ne y1 y0) with hc1 | hc1
  · try rw [hc1] at k
    refine XS.icmpYes X.here hx rfl (pc0 := 58) (pc' := 64) rfl (hb hby dI_58) rfl hc1 (by decide) (by decide) ?_
    show sS p e below T m 64 #[rv x0, rv x1, rv x2, iv x3, iv x4, iv x5, iv x6, iv x7, iv x8] [] _
    exact k
  · try rw [hc1] at k
    refine XS.icmpNo X.here hx rfl (hb hby dI_58) rfl hc1 ?_
    show sS p e below T m 61 #[rv x0, rv x1, rv x2, iv x3, iv x4, iv x5, iv x6, iv x7, iv x8] [] _
    refine XS.iinc X.here hx rfl (hb hby dI_61) rfl (l' := #[rv x0, rv x1, rv x2, iv x3, iv x4, iv x5, iv x6, .val (.int (x7 + (1 : Int32))), iv x8]) rfl ?_
    exact k
set_option maxRecDepth 65536 in
set_option maxHeartbeats 40000000 in
theorem to_2_1 {p : Program} {l : Launch} {e : Env} {s : State} {m : MethodId} {args : Array Value} {below : List Frame} {meth : Method} {c : Code} {T0 : State} {locs : List Loc}  {Z : State} {a0 : Array Value} {h0 : Heap} {n0 : Nat} {ad at_ rn : Addr} {kt kn : ClassId} {nn u0 u1 z0 z1 x4 x5 x7 x8 : Int32} {vt : List Value} (X0 : Stand p l e ({ frames := 4, cells := 1, slots := 2, locals := 82 } : Room) s m args below meth c T0 locs 1 2) (hx : p.tables.exec = Jvm.exec) (hZ : Z.Warmed39 s.vm) (hw : ∀ d ∈ tables_1, d.before a0 Z = true) (hby : c.code = prog_5_method_3_code) (hml : c.maxLocals = 9) (hown : s.vm.findClass cN1 = some m.cls) (e0 : T0.heap = h0) (Z0 : n0 ≤ h0.size) (N0 : Fr n0 locs) (V_t : Arv Z h0 at_ kt .int nn vt (.int (0 : Int32))) (V_n : Arv Z h0 rn kn .int (2 : Int32) [(.int z0), (.int z1)] (.int (0 : Int32))) (b_z0 : (¬ z0 < 0 ∧ z0 < nn)) (e_z0 : vt.getD z0.toNatClampNeg (.int (0 : Int32)) = .int u0) (b_z1 : (¬ z1 < 0 ∧ z1 < nn)) (e_z1 : vt.getD z1.toNatClampNeg (.int (0 : Int32)) = .int u1) :
    ∃ (T' : State) (h' : Heap) (L' : List Loc) (y4 y5 : Int32), Stand p l e ({ frames := 4, cells := 1, slots := 2, locals := 82 } : Room) s m args below meth c T' L' 1 2 ∧ T'.heap = h' ∧ Fr n0 L' ∧ h' = h0 ∧ y4 = own_b (own_cnt (own_cnt (0 : Int32) u0 u1) u1 u1) x5 x4 u1 ∧ y5 = own_c (own_cnt (own_cnt (0 : Int32) u0 u1) u1 u1) x5 ∧ ∀ target, Steps p.tables e below (T'.setTop (mkF m 28 #[rv ad, rv at_, rv rn, iv 2, iv y4, iv y5, iv 2, .val (.int (own_cnt (own_cnt (0 : Int32) u0 u1) u1 u1)), iv 2] [])) target → Steps p.tables e below (T0.setTop (mkF m 28 #[rv ad, rv at_, rv rn, iv 2, iv x4, iv x5, iv 1, iv x7, iv x8] [])) target := by
  rcases Bool.eq_false_or_eq_true (if_icmp.holds .le (own_cnt (own_cnt (0 : Int32) u0 u1) u1 u1) x5) with hc74 | hc74
  · refine ⟨T0, h0, _, x4, x5, X0, e0, N0, rfl, (by unfold own_b; rw [hc74]; rfl), (by unfold own_c; rw [hc74]; rfl), fun target kt => ?_⟩
    show sS p e below T0 m 28 #[rv ad, rv at_, rv rn, iv 2, iv x4, iv x5, iv 1, iv x7, iv x8] [] _
    refine XS.iload X0.here hx rfl (hb hby dI_28) rfl ?_
    refine XS.iloadN X0.here hx rfl (hb hby dI_30) rfl ?_
    refine XS.icmpNo X0.here hx rfl (hb hby dI_31) rfl (by decide) ?_
    refine XS.iconst X0.here hx rfl (hb hby dI_34) ?_
    refine XS.istore X0.here hx rfl (hb hby dI_35) rfl (l' := #[rv ad, rv at_, rv rn, iv 2, iv x4, iv x5, iv 1, iv 0, iv x8]) rfl ?_
    refine XS.iconst X0.here hx rfl (hb hby dI_37) ?_
    show sS p e below T0 m 38 #[rv ad, rv at_, rv rn, iv 2, iv x4, iv x5, iv 1, iv 0, iv x8] [(.int (0 : Int32))] _
    refine XS.istore X0.here hx rfl (hb hby dI_38) rfl (l' := #[rv ad, rv at_, rv rn, iv 2, iv x4, iv x5, iv 1, iv 0, iv 0]) rfl ?_
    refine XS.iload X0.here hx rfl (hb hby dI_40) rfl ?_
    refine XS.iloadN X0.here hx rfl (hb hby dI_42) rfl ?_
    refine XS.icmpNo X0.here hx rfl (hb hby dI_43) rfl (by decide) ?_
    refine XS.aloadN X0.here hx rfl (hb hby dI_46) rfl rfl ?_
    refine XS.aloadN X0.here hx rfl (hb hby dI_47) rfl rfl ?_
    show sS p e below T0 m 48 #[rv ad, rv at_, rv rn, iv 2, iv x4, iv x5, iv 1, iv 0, iv 0] [(.ref rn), (.ref at_)] _
    refine XS.iload X0.here hx rfl (hb hby dI_48) rfl ?_
    refine own_ldI X0 hx hZ e0 V_n ⟨by decide, by decide⟩ (v := z0) rfl rfl rfl (hb hby dI_50) ?_
    refine own_ldI X0 hx hZ e0 V_t b_z0 (v := u0) e_z0 rfl rfl (hb hby dI_51) ?_
    refine XS.aloadN X0.here hx rfl (hb hby dI_52) rfl rfl ?_
    refine XS.aloadN X0.here hx rfl (hb hby dI_53) rfl rfl ?_
    refine XS.iload X0.here hx rfl (hb hby dI_54) rfl ?_
    show sS p e below T0 m 56 #[rv ad, rv at_, rv rn, iv 2, iv x4, iv x5, iv 1, iv 0, iv 0] [(.int (1 : Int32)), (.ref rn), (.ref at_), (.int u0)] _
    refine own_ldI X0 hx hZ e0 V_n ⟨by decide, by decide⟩ (v := z1) rfl rfl rfl (hb hby dI_56) ?_
    refine own_ldI X0 hx hZ e0 V_t b_z1 (v := u1) e_z1 rfl rfl (hb hby dI_57) ?_
    show sS p e below T0 m 58 #[rv ad, rv at_, rv rn, iv 2, iv x4, iv x5, iv 1, iv 0, iv 0] [(.int u1), (.int u0)] _
    refine sg_to_2_1_58_64 X0 hx hZ hw hby hown ?_
    show sS p e below T0 m 64 #[rv ad, rv at_, rv rn, iv 2, iv x4, iv x5, iv 1, .val (.int (own_cnt (0 : Int32) u0 u1)), iv 0] [] _
    refine XS.iinc X0.here hx rfl (hb hby dI_64) rfl (l' := #[rv ad, rv at_, rv rn, iv 2, iv x4, iv x5, iv 1, .val (.int (own_cnt (0 : Int32) u0 u1)), iv 1]) rfl ?_
    refine XS.goto X0.here hx rfl (pc0 := 67) (pc' := 40) rfl (hb hby dI_67) (by decide) (by decide) ?_
    refine XS.iload X0.here hx rfl (hb hby dI_40) rfl ?_
    refine XS.iloadN X0.here hx rfl (hb hby dI_42) rfl ?_
    refine XS.icmpNo X0.here hx rfl (hb hby dI_43) rfl (by decide) ?_
    refine XS.aloadN X0.here hx rfl (hb hby dI_46) rfl rfl ?_
    show sS p e below T0 m 47 #[rv ad, rv at_, rv rn, iv 2, iv x4, iv x5, iv 1, .val (.int (own_cnt (0 : Int32) u0 u1)), iv 1] [(.ref at_)] _
    refine XS.aloadN X0.here hx rfl (hb hby dI_47) rfl rfl ?_
    refine XS.iload X0.here hx rfl (hb hby dI_48) rfl ?_
    refine own_ldI X0 hx hZ e0 V_n ⟨by decide, by decide⟩ (v := z1) rfl rfl rfl (hb hby dI_50) ?_
    refine own_ldI X0 hx hZ e0 V_t b_z1 (v := u1) e_z1 rfl rfl (hb hby dI_51) ?_
    refine XS.aloadN X0.here hx rfl (hb hby dI_52) rfl rfl ?_
    refine XS.aloadN X0.here hx rfl (hb hby dI_53) rfl rfl ?_
    show sS p e below T0 m 54 #[rv ad, rv at_, rv rn, iv 2, iv x4, iv x5, iv 1, .val (.int (own_cnt (0 : Int32) u0 u1)), iv 1] [(.ref rn), (.ref at_), (.int u1)] _
    refine XS.iload X0.here hx rfl (hb hby dI_54) rfl ?_
    refine own_ldI X0 hx hZ e0 V_n ⟨by decide, by decide⟩ (v := z1) rfl rfl rfl (hb hby dI_56) ?_
    refine own_ldI X0 hx hZ e0 V_t b_z1 (v := u1) e_z1 rfl rfl (hb hby dI_57) ?_
    show sS p e below T0 m 58 #[rv ad, rv at_, rv rn, iv 2, iv x4, iv x5, iv 1, .val (.int (own_cnt (0 : Int32) u0 u1)), iv 1] [(.int u1), (.int u1)] _
    refine sg_to_2_1_58_64_1 X0 hx hZ hw hby hown ?_
    show sS p e below T0 m 64 #[rv ad, rv at_, rv rn, iv 2, iv x4, iv x5, iv 1, .val (.int (own_cnt (own_cnt (0 : Int32) u0 u1) u1 u1)), iv 1] [] _
    refine XS.iinc X0.here hx rfl (hb hby dI_64) rfl (l' := #[rv ad, rv at_, rv rn, iv 2, iv x4, iv x5, iv 1, .val (.int (own_cnt (own_cnt (0 : Int32) u0 u1) u1 u1)), iv 2]) rfl ?_
    refine XS.goto X0.here hx rfl (pc0 := 67) (pc' := 40) rfl (hb hby dI_67) (by decide) (by decide) ?_
    refine XS.iload X0.here hx rfl (hb hby dI_40) rfl ?_
    refine XS.iloadN X0.here hx rfl (hb hby dI_42) rfl ?_
    refine XS.icmpYes X0.here hx rfl (pc0 := 43) (pc' := 70) rfl (hb hby dI_43) rfl (by decide) (by decide) (by decide) ?_
    refine XS.iload X0.here hx rfl (hb hby dI_70) rfl ?_
    show sS p e below T0 m 72 #[rv ad, rv at_, rv rn, iv 2, iv x4, iv x5, iv 1, .val (.int (own_cnt (own_cnt (0 : Int32) u0 u1) u1 u1)), iv 2] [(.int (own_cnt (own_cnt (0 : Int32) u0 u1) u1 u1))] _
    refine XS.iload X0.here hx rfl (hb hby dI_72) rfl ?_
    refine XS.icmpYes X0.here hx rfl (pc0 := 74) (pc' := 89) rfl (hb hby dI_74) rfl hc74 (by decide) (by decide) ?_
    refine XS.iinc X0.here hx rfl (hb hby dI_89) rfl (l' := #[rv ad, rv at_, rv rn, iv 2, iv x4, iv x5, iv 2, .val (.int (own_cnt (own_cnt (0 : Int32) u0 u1) u1 u1)), iv 2]) rfl ?_
    refine XS.goto X0.here hx rfl (pc0 := 92) (pc' := 28) rfl (hb hby dI_92) (by decide) (by decide) ?_
    exact kt
  · refine ⟨T0, h0, _, u1, (own_cnt (own_cnt (0 : Int32) u0 u1) u1 u1), X0, e0, N0, rfl, (by unfold own_b; rw [hc74]; rfl), (by unfold own_c; rw [hc74]; rfl), fun target kt => ?_⟩
    show sS p e below T0 m 28 #[rv ad, rv at_, rv rn, iv 2, iv x4, iv x5, iv 1, iv x7, iv x8] [] _
    refine XS.iload X0.here hx rfl (hb hby dI_28) rfl ?_
    refine XS.iloadN X0.here hx rfl (hb hby dI_30) rfl ?_
    refine XS.icmpNo X0.here hx rfl (hb hby dI_31) rfl (by decide) ?_
    refine XS.iconst X0.here hx rfl (hb hby dI_34) ?_
    refine XS.istore X0.here hx rfl (hb hby dI_35) rfl (l' := #[rv ad, rv at_, rv rn, iv 2, iv x4, iv x5, iv 1, iv 0, iv x8]) rfl ?_
    refine XS.iconst X0.here hx rfl (hb hby dI_37) ?_
    show sS p e below T0 m 38 #[rv ad, rv at_, rv rn, iv 2, iv x4, iv x5, iv 1, iv 0, iv x8] [(.int (0 : Int32))] _
    refine XS.istore X0.here hx rfl (hb hby dI_38) rfl (l' := #[rv ad, rv at_, rv rn, iv 2, iv x4, iv x5, iv 1, iv 0, iv 0]) rfl ?_
    refine XS.iload X0.here hx rfl (hb hby dI_40) rfl ?_
    refine XS.iloadN X0.here hx rfl (hb hby dI_42) rfl ?_
    refine XS.icmpNo X0.here hx rfl (hb hby dI_43) rfl (by decide) ?_
    refine XS.aloadN X0.here hx rfl (hb hby dI_46) rfl rfl ?_
    refine XS.aloadN X0.here hx rfl (hb hby dI_47) rfl rfl ?_
    show sS p e below T0 m 48 #[rv ad, rv at_, rv rn, iv 2, iv x4, iv x5, iv 1, iv 0, iv 0] [(.ref rn), (.ref at_)] _
    refine XS.iload X0.here hx rfl (hb hby dI_48) rfl ?_
    refine own_ldI X0 hx hZ e0 V_n ⟨by decide, by decide⟩ (v := z0) rfl rfl rfl (hb hby dI_50) ?_
    refine own_ldI X0 hx hZ e0 V_t b_z0 (v := u0) e_z0 rfl rfl (hb hby dI_51) ?_
    refine XS.aloadN X0.here hx rfl (hb hby dI_52) rfl rfl ?_
    refine XS.aloadN X0.here hx rfl (hb hby dI_53) rfl rfl ?_
    refine XS.iload X0.here hx rfl (hb hby dI_54) rfl ?_
    show sS p e below T0 m 56 #[rv ad, rv at_, rv rn, iv 2, iv x4, iv x5, iv 1, iv 0, iv 0] [(.int (1 : Int32)), (.ref rn), (.ref at_), (.int u0)] _
    refine own_ldI X0 hx hZ e0 V_n ⟨by decide, by decide⟩ (v := z1) rfl rfl rfl (hb hby dI_56) ?_
    refine own_ldI X0 hx hZ e0 V_t b_z1 (v := u1) e_z1 rfl rfl (hb hby dI_57) ?_
    show sS p e below T0 m 58 #[rv ad, rv at_, rv rn, iv 2, iv x4, iv x5, iv 1, iv 0, iv 0] [(.int u1), (.int u0)] _
    refine sg_to_2_1_58_64 X0 hx hZ hw hby hown ?_
    show sS p e below T0 m 64 #[rv ad, rv at_, rv rn, iv 2, iv x4, iv x5, iv 1, .val (.int (own_cnt (0 : Int32) u0 u1)), iv 0] [] _
    refine XS.iinc X0.here hx rfl (hb hby dI_64) rfl (l' := #[rv ad, rv at_, rv rn, iv 2, iv x4, iv x5, iv 1, .val (.int (own_cnt (0 : Int32) u0 u1)), iv 1]) rfl ?_
    refine XS.goto X0.here hx rfl (pc0 := 67) (pc' := 40) rfl (hb hby dI_67) (by decide) (by decide) ?_
    refine XS.iload X0.here hx rfl (hb hby dI_40) rfl ?_
    refine XS.iloadN X0.here hx rfl (hb hby dI_42) rfl ?_
    refine XS.icmpNo X0.here hx rfl (hb hby dI_43) rfl (by decide) ?_
    refine XS.aloadN X0.here hx rfl (hb hby dI_46) rfl rfl ?_
    show sS p e below T0 m 47 #[rv ad, rv at_, rv rn, iv 2, iv x4, iv x5, iv 1, .val (.int (own_cnt (0 : Int32) u0 u1)), iv 1] [(.ref at_)] _
    refine XS.aloadN X0.here hx rfl (hb hby dI_47) rfl rfl ?_
    refine XS.iload X0.here hx rfl (hb hby dI_48) rfl ?_
    refine own_ldI X0 hx hZ e0 V_n ⟨by decide, by decide⟩ (v := z1) rfl rfl rfl (hb hby dI_50) ?_
    refine own_ldI X0 hx hZ e0 V_t b_z1 (v := u1) e_z1 rfl rfl (hb hby dI_51) ?_
    refine XS.aloadN X0.here hx rfl (hb hby dI_52) rfl rfl ?_
    refine XS.aloadN X0.here hx rfl (hb hby dI_53) rfl rfl ?_
    show sS p e below T0 m 54 #[rv ad, rv at_, rv rn, iv 2, iv x4, iv x5, iv 1, .val (.int (own_cnt (0 : Int32) u0 u1)), iv 1] [(.ref rn), (.ref at_), (.int u1)] _
    refine XS.iload X0.here hx rfl (hb hby dI_54) rfl ?_
    refine own_ldI X0 hx hZ e0 V_n ⟨by decide, by decide⟩ (v := z1) rfl rfl rfl (hb hby dI_56) ?_
    refine own_ldI X0 hx hZ e0 V_t b_z1 (v := u1) e_z1 rfl rfl (hb hby dI_57) ?_
    show sS p e below T0 m 58 #[rv ad, rv at_, rv rn, iv 2, iv x4, iv x5, iv 1, .val (.int (own_cnt (0 : Int32) u0 u1)), iv 1] [(.int u1), (.int u1)] _
    refine sg_to_2_1_58_64_1 X0 hx hZ hw hby hown ?_
    show sS p e below T0 m 64 #[rv ad, rv at_, rv rn, iv 2, iv x4, iv x5, iv 1, .val (.int (own_cnt (own_cnt (0 : Int32) u0 u1) u1 u1)), iv 1] [] _
    refine XS.iinc X0.here hx rfl (hb hby dI_64) rfl (l' := #[rv ad, rv at_, rv rn, iv 2, iv x4, iv x5, iv 1, .val (.int (own_cnt (own_cnt (0 : Int32) u0 u1) u1 u1)), iv 2]) rfl ?_
    refine XS.goto X0.here hx rfl (pc0 := 67) (pc' := 40) rfl (hb hby dI_67) (by decide) (by decide) ?_
    refine XS.iload X0.here hx rfl (hb hby dI_40) rfl ?_
    refine XS.iloadN X0.here hx rfl (hb hby dI_42) rfl ?_
    refine XS.icmpYes X0.here hx rfl (pc0 := 43) (pc' := 70) rfl (hb hby dI_43) rfl (by decide) (by decide) (by decide) ?_
    refine XS.iload X0.here hx rfl (hb hby dI_70) rfl ?_
    show sS p e below T0 m 72 #[rv ad, rv at_, rv rn, iv 2, iv x4, iv x5, iv 1, .val (.int (own_cnt (own_cnt (0 : Int32) u0 u1) u1 u1)), iv 2] [(.int (own_cnt (own_cnt (0 : Int32) u0 u1) u1 u1))] _
    refine XS.iload X0.here hx rfl (hb hby dI_72) rfl ?_
    refine XS.icmpNo X0.here hx rfl (hb hby dI_74) rfl hc74 ?_
    refine XS.aloadN X0.here hx rfl (hb hby dI_77) rfl rfl ?_
    refine XS.aloadN X0.here hx rfl (hb hby dI_78) rfl rfl ?_
    refine XS.iload X0.here hx rfl (hb hby dI_79) rfl ?_
    refine own_ldI X0 hx hZ e0 V_n ⟨by decide, by decide⟩ (v := z1) rfl rfl rfl (hb hby dI_81) ?_
    show sS p e below T0 m 82 #[rv ad, rv at_, rv rn, iv 2, iv x4, iv x5, iv 1, .val (.int (own_cnt (own_cnt (0 : Int32) u0 u1) u1 u1)), iv 2] [(.int z1), (.ref at_)] _
    refine own_ldI X0 hx hZ e0 V_t b_z1 (v := u1) e_z1 rfl rfl (hb hby dI_82) ?_
    refine XS.istore X0.here hx rfl (hb hby dI_83) rfl (l' := #[rv ad, rv at_, rv rn, iv 2, iv u1, iv x5, iv 1, .val (.int (own_cnt (own_cnt (0 : Int32) u0 u1) u1 u1)), iv 2]) rfl ?_
    refine XS.iload X0.here hx rfl (hb hby dI_85) rfl ?_
    refine XS.istore X0.here hx rfl (hb hby dI_87) rfl (l' := #[rv ad, rv at_, rv rn, iv 2, iv u1, .val (.int (own_cnt (own_cnt (0 : Int32) u0 u1) u1 u1)), iv 1, .val (.int (own_cnt (own_cnt (0 : Int32) u0 u1) u1 u1)), iv 2]) rfl ?_
    refine XS.iinc X0.here hx rfl (hb hby dI_89) rfl (l' := #[rv ad, rv at_, rv rn, iv 2, iv u1, .val (.int (own_cnt (own_cnt (0 : Int32) u0 u1) u1 u1)), iv 2, .val (.int (own_cnt (own_cnt (0 : Int32) u0 u1) u1 u1)), iv 2]) rfl ?_
    refine XS.goto X0.here hx rfl (pc0 := 92) (pc' := 28) rfl (hb hby dI_92) (by decide) (by decide) ?_
    exact kt
set_option maxRecDepth 65536 in
set_option maxHeartbeats 4000000 in
theorem sg_to_3_0_58_64 {p : Program} {l : Launch} {e : Env} {R : Room} {s : State} {m : MethodId} {args : Array Value} {below : List Frame} {meth : Method} {c : Code} {T : State} {locs : List Loc} {cells slots : Nat} {Z : State} {a0 : Array Value} {target : State} {x0 : Addr} {x1 : Addr} {x2 : Addr} {x3 : Int32} {x4 : Int32} {x5 : Int32} {x6 : Int32} {x7 : Int32} {x8 : Int32} {y0 : Int32} {y1 : Int32} (X : Stand p l e R s m args below meth c T locs cells slots) (hx : p.tables.exec = Jvm.exec) (hZ : Z.Warmed39 s.vm) (hw : ∀ d ∈ tables_1, d.before a0 Z = true) (hby : c.code = prog_5_method_3_code) (hown : s.vm.findClass cN1 = some m.cls)
    (k : Steps p.tables e below (T.setTop (mkF m 64 #[rv x0, rv x1, rv x2, iv x3, iv x4, iv x5, iv x6, .val (.int (bif (if_icmp.holds .ne y1 y0) then x7 else (x7 + (1 : Int32)))), iv x8] [])) target) : Steps p.tables e below (T.setTop (mkF m 58 #[rv x0, rv x1, rv x2, iv x3, iv x4, iv x5, iv x6, iv x7, iv x8] [(.int y0), (.int y1)])) target := by
  show sS p e below T m 58 #[rv x0, rv x1, rv x2, iv x3, iv x4, iv x5, iv x6, iv x7, iv x8] [(.int y0), (.int y1)] _
  rcases Bool.eq_false_or_eq_true (if_icmp.holds .ne y1 y0) with hc1 | hc1
  · try rw [hc1] at k
    refine XS.icmpYes X.here hx rfl (pc0 := 58) (pc' := 64) rfl (hb hby dI_58) rfl hc1 (by decide) (by decide) ?_
    show sS p e below T m 64 #[rv x0, rv x1, rv x2, iv x3, iv x4, iv x5, iv x6, iv x7, iv x8] [] _
    exact k
  · try rw [hc1] at k
    refine XS.icmpNo X.here hx rfl (hb hby dI_58) rfl hc1 ?_
    show sS p e below T m 61 #[rv x0, rv x1, rv x2, iv x3, iv x4, iv x5, iv x6, iv x7, iv x8] [] _
    refine XS.iinc X.here hx rfl (hb hby dI_61) rfl (l' := #[rv x0, rv x1, rv x2, iv x3, iv x4, iv x5, iv x6, .val (.int (x7 + (1 : Int32))), iv x8]) rfl ?_
    exact k
set_option maxRecDepth 65536 in
set_option maxHeartbeats 4000000 in
theorem sg_to_3_0_58_64_1 {p : Program} {l : Launch} {e : Env} {R : Room} {s : State} {m : MethodId} {args : Array Value} {below : List Frame} {meth : Method} {c : Code} {T : State} {locs : List Loc} {cells slots : Nat} {Z : State} {a0 : Array Value} {target : State} {x0 : Addr} {x1 : Addr} {x2 : Addr} {x3 : Int32} {x4 : Int32} {x5 : Int32} {x6 : Int32} {x7 : Int32} {x8 : Int32} {y0 : Int32} {y1 : Int32} (X : Stand p l e R s m args below meth c T locs cells slots) (hx : p.tables.exec = Jvm.exec) (hZ : Z.Warmed39 s.vm) (hw : ∀ d ∈ tables_1, d.before a0 Z = true) (hby : c.code = prog_5_method_3_code) (hown : s.vm.findClass cN1 = some m.cls)
    (k : Steps p.tables e below (T.setTop (mkF m 64 #[rv x0, rv x1, rv x2, iv x3, iv x4, iv x5, iv x6, .val (.int (bif (if_icmp.holds .ne y1 y0) then x7 else (x7 + (1 : Int32)))), iv x8] [])) target) : Steps p.tables e below (T.setTop (mkF m 58 #[rv x0, rv x1, rv x2, iv x3, iv x4, iv x5, iv x6, iv x7, iv x8] [(.int y0), (.int y1)])) target := by
  show sS p e below T m 58 #[rv x0, rv x1, rv x2, iv x3, iv x4, iv x5, iv x6, iv x7, iv x8] [(.int y0), (.int y1)] _
  rcases Bool.eq_false_or_eq_true (if_icmp.holds .ne y1 y0) with hc1 | hc1
  · try rw [hc1] at k
    refine XS.icmpYes X.here hx rfl (pc0 := 58) (pc' := 64) rfl (hb hby dI_58) rfl hc1 (by decide) (by decide) ?_
    show sS p e below T m 64 #[rv x0, rv x1, rv x2, iv x3, iv x4, iv x5, iv x6, iv x7, iv x8] [] _
    exact k
  · try rw [hc1] at k
    refine XS.icmpNo X.here hx rfl (hb hby dI_58) rfl hc1 ?_
    show sS p e below T m 61 #[rv x0, rv x1, rv x2, iv x3, iv x4, iv x5, iv x6, iv x7, iv x8] [] _
    refine XS.iinc X.here hx rfl (hb hby dI_61) rfl (l' := #[rv x0, rv x1, rv x2, iv x3, iv x4, iv x5, iv x6, .val (.int (x7 + (1 : Int32))), iv x8]) rfl ?_
    exact k
set_option maxRecDepth 65536 in
set_option maxHeartbeats 4000000 in
theorem sg_to_3_0_58_64_2 {p : Program} {l : Launch} {e : Env} {R : Room} {s : State} {m : MethodId} {args : Array Value} {below : List Frame} {meth : Method} {c : Code} {T : State} {locs : List Loc} {cells slots : Nat} {Z : State} {a0 : Array Value} {target : State} {x0 : Addr} {x1 : Addr} {x2 : Addr} {x3 : Int32} {x4 : Int32} {x5 : Int32} {x6 : Int32} {x7 : Int32} {x8 : Int32} {y0 : Int32} {y1 : Int32} (X : Stand p l e R s m args below meth c T locs cells slots) (hx : p.tables.exec = Jvm.exec) (hZ : Z.Warmed39 s.vm) (hw : ∀ d ∈ tables_1, d.before a0 Z = true) (hby : c.code = prog_5_method_3_code) (hown : s.vm.findClass cN1 = some m.cls)
    (k : Steps p.tables e below (T.setTop (mkF m 64 #[rv x0, rv x1, rv x2, iv x3, iv x4, iv x5, iv x6, .val (.int (bif (if_icmp.holds .ne y1 y0) then x7 else (x7 + (1 : Int32)))), iv x8] [])) target) : Steps p.tables e below (T.setTop (mkF m 58 #[rv x0, rv x1, rv x2, iv x3, iv x4, iv x5, iv x6, iv x7, iv x8] [(.int y0), (.int y1)])) target := by
  show sS p e below T m 58 #[rv x0, rv x1, rv x2, iv x3, iv x4, iv x5, iv x6, iv x7, iv x8] [(.int y0), (.int y1)] _
  rcases Bool.eq_false_or_eq_true (if_icmp.holds .ne y1 y0) with hc1 | hc1
  · try rw [hc1] at k
    refine XS.icmpYes X.here hx rfl (pc0 := 58) (pc' := 64) rfl (hb hby dI_58) rfl hc1 (by decide) (by decide) ?_
    show sS p e below T m 64 #[rv x0, rv x1, rv x2, iv x3, iv x4, iv x5, iv x6, iv x7, iv x8] [] _
    exact k
  · try rw [hc1] at k
    refine XS.icmpNo X.here hx rfl (hb hby dI_58) rfl hc1 ?_
    show sS p e below T m 61 #[rv x0, rv x1, rv x2, iv x3, iv x4, iv x5, iv x6, iv x7, iv x8] [] _
    refine XS.iinc X.here hx rfl (hb hby dI_61) rfl (l' := #[rv x0, rv x1, rv x2, iv x3, iv x4, iv x5, iv x6, .val (.int (x7 + (1 : Int32))), iv x8]) rfl ?_
    exact k
set_option maxRecDepth 65536 in
set_option maxHeartbeats 40000000 in
theorem to_3_0 {p : Program} {l : Launch} {e : Env} {s : State} {m : MethodId} {args : Array Value} {below : List Frame} {meth : Method} {c : Code} {T0 : State} {locs : List Loc}  {Z : State} {a0 : Array Value} {h0 : Heap} {n0 : Nat} {ad at_ rn : Addr} {kt kn : ClassId} {nn u0 u1 u2 z0 z1 z2 x4 x5 : Int32} {vt : List Value} (X0 : Stand p l e ({ frames := 4, cells := 1, slots := 3, locals := 82 } : Room) s m args below meth c T0 locs 1 3) (hx : p.tables.exec = Jvm.exec) (hZ : Z.Warmed39 s.vm) (hw : ∀ d ∈ tables_1, d.before a0 Z = true) (hby : c.code = prog_5_method_3_code) (hml : c.maxLocals = 9) (hown : s.vm.findClass cN1 = some m.cls) (e0 : T0.heap = h0) (Z0 : n0 ≤ h0.size) (N0 : Fr n0 locs) (V_t : Arv Z h0 at_ kt .int nn vt (.int (0 : Int32))) (V_n : Arv Z h0 rn kn .int (3 : Int32) [(.int z0), (.int z1), (.int z2)] (.int (0 : Int32))) (b_z0 : (¬ z0 < 0 ∧ z0 < nn)) (e_z0 : vt.getD z0.toNatClampNeg (.int (0 : Int32)) = .int u0) (b_z1 : (¬ z1 < 0 ∧ z1 < nn)) (e_z1 : vt.getD z1.toNatClampNeg (.int (0 : Int32)) = .int u1) (b_z2 : (¬ z2 < 0 ∧ z2 < nn)) (e_z2 : vt.getD z2.toNatClampNeg (.int (0 : Int32)) = .int u2) :
    ∃ (T' : State) (h' : Heap) (L' : List Loc) (y4 y5 : Int32), Stand p l e ({ frames := 4, cells := 1, slots := 3, locals := 82 } : Room) s m args below meth c T' L' 1 3 ∧ T'.heap = h' ∧ Fr n0 L' ∧ h' = h0 ∧ y4 = own_b (own_cnt (own_cnt (own_cnt (0 : Int32) u0 u0) u1 u0) u2 u0) x5 x4 u0 ∧ y5 = own_c (own_cnt (own_cnt (own_cnt (0 : Int32) u0 u0) u1 u0) u2 u0) x5 ∧ ∀ target, Steps p.tables e below (T'.setTop (mkF m 28 #[rv ad, rv at_, rv rn, iv 3, iv y4, iv y5, iv 1, .val (.int (own_cnt (own_cnt (own_cnt (0 : Int32) u0 u0) u1 u0) u2 u0)), iv 3] [])) target → Steps p.tables e below (T0.setTop (mkF m 28 #[rv ad, rv at_, rv rn, iv 3, iv x4, iv x5, iv 0, .unset, .unset] [])) target := by
  rcases Bool.eq_false_or_eq_true (if_icmp.holds .le (own_cnt (own_cnt (own_cnt (0 : Int32) u0 u0) u1 u0) u2 u0) x5) with hc74 | hc74
  · refine ⟨T0, h0, _, x4, x5, X0, e0, N0, rfl, (by unfold own_b; rw [hc74]; rfl), (by unfold own_c; rw [hc74]; rfl), fun target kt => ?_⟩
    show sS p e below T0 m 28 #[rv ad, rv at_, rv rn, iv 3, iv x4, iv x5, iv 0, .unset, .unset] [] _
    refine XS.iload X0.here hx rfl (hb hby dI_28) rfl ?_
    refine XS.iloadN X0.here hx rfl (hb hby dI_30) rfl ?_
    refine XS.icmpNo X0.here hx rfl (hb hby dI_31) rfl (by decide) ?_
    refine XS.iconst X0.here hx rfl (hb hby dI_34) ?_
    refine XS.istore X0.here hx rfl (hb hby dI_35) rfl (l' := #[rv ad, rv at_, rv rn, iv 3, iv x4, iv x5, iv 0, iv 0, .unset]) rfl ?_
    refine XS.iconst X0.here hx rfl (hb hby dI_37) ?_
    show sS p e below T0 m 38 #[rv ad, rv at_, rv rn, iv 3, iv x4, iv x5, iv 0, iv 0, .unset] [(.int (0 : Int32))] _
    refine XS.istore X0.here hx rfl (hb hby dI_38) rfl (l' := #[rv ad, rv at_, rv rn, iv 3, iv x4, iv x5, iv 0, iv 0, iv 0]) rfl ?_
    refine XS.iload X0.here hx rfl (hb hby dI_40) rfl ?_
    refine XS.iloadN X0.here hx rfl (hb hby dI_42) rfl ?_
    refine XS.icmpNo X0.here hx rfl (hb hby dI_43) rfl (by decide) ?_
    refine XS.aloadN X0.here hx rfl (hb hby dI_46) rfl rfl ?_
    refine XS.aloadN X0.here hx rfl (hb hby dI_47) rfl rfl ?_
    show sS p e below T0 m 48 #[rv ad, rv at_, rv rn, iv 3, iv x4, iv x5, iv 0, iv 0, iv 0] [(.ref rn), (.ref at_)] _
    refine XS.iload X0.here hx rfl (hb hby dI_48) rfl ?_
    refine own_ldI X0 hx hZ e0 V_n ⟨by decide, by decide⟩ (v := z0) rfl rfl rfl (hb hby dI_50) ?_
    refine own_ldI X0 hx hZ e0 V_t b_z0 (v := u0) e_z0 rfl rfl (hb hby dI_51) ?_
    refine XS.aloadN X0.here hx rfl (hb hby dI_52) rfl rfl ?_
    refine XS.aloadN X0.here hx rfl (hb hby dI_53) rfl rfl ?_
    refine XS.iload X0.here hx rfl (hb hby dI_54) rfl ?_
    show sS p e below T0 m 56 #[rv ad, rv at_, rv rn, iv 3, iv x4, iv x5, iv 0, iv 0, iv 0] [(.int (0 : Int32)), (.ref rn), (.ref at_), (.int u0)] _
    refine own_ldI X0 hx hZ e0 V_n ⟨by decide, by decide⟩ (v := z0) rfl rfl rfl (hb hby dI_56) ?_
    refine own_ldI X0 hx hZ e0 V_t b_z0 (v := u0) e_z0 rfl rfl (hb hby dI_57) ?_
    show sS p e below T0 m 58 #[rv ad, rv at_, rv rn, iv 3, iv x4, iv x5, iv 0, iv 0, iv 0] [(.int u0), (.int u0)] _
    refine sg_to_3_0_58_64 X0 hx hZ hw hby hown ?_
    show sS p e below T0 m 64 #[rv ad, rv at_, rv rn, iv 3, iv x4, iv x5, iv 0, .val (.int (own_cnt (0 : Int32) u0 u0)), iv 0] [] _
    refine XS.iinc X0.here hx rfl (hb hby dI_64) rfl (l' := #[rv ad, rv at_, rv rn, iv 3, iv x4, iv x5, iv 0, .val (.int (own_cnt (0 : Int32) u0 u0)), iv 1]) rfl ?_
    refine XS.goto X0.here hx rfl (pc0 := 67) (pc' := 40) rfl (hb hby dI_67) (by decide) (by decide) ?_
    refine XS.iload X0.here hx rfl (hb hby dI_40) rfl ?_
    refine XS.iloadN X0.here hx rfl (hb hby dI_42) rfl ?_
    refine XS.icmpNo X0.here hx rfl (hb hby dI_43) rfl (by decide) ?_
    refine XS.aloadN X0.here hx rfl (hb hby dI_46) rfl rfl ?_
    show sS p e below T0 m 47 #[rv ad, rv at_, rv rn, iv 3, iv x4, iv x5, iv 0, .val (.int (own_cnt (0 : Int32) u0 u0)), iv 1] [(.ref at_)] _
    refine XS.aloadN X0.here hx rfl (hb hby dI_47) rfl rfl ?_
    refine XS.iload X0.here hx rfl (hb hby dI_48) rfl ?_
    refine own_ldI X0 hx hZ e0 V_n ⟨by decide, by decide⟩ (v := z1) rfl rfl rfl (hb hby dI_50) ?_
    refine own_ldI X0 hx hZ e0 V_t b_z1 (v := u1) e_z1 rfl rfl (hb hby dI_51) ?_
    refine XS.aloadN X0.here hx rfl (hb hby dI_52) rfl rfl ?_
    refine XS.aloadN X0.here hx rfl (hb hby dI_53) rfl rfl ?_
    show sS p e below T0 m 54 #[rv ad, rv at_, rv rn, iv 3, iv x4, iv x5, iv 0, .val (.int (own_cnt (0 : Int32) u0 u0)), iv 1] [(.ref rn), (.ref at_), (.int u1)] _
    refine XS.iload X0.here hx rfl (hb hby dI_54) rfl ?_
    refine own_ldI X0 hx hZ e0 V_n ⟨by decide, by decide⟩ (v := z0) rfl rfl rfl (hb hby dI_56) ?_
    refine own_ldI X0 hx hZ e0 V_t b_z0 (v := u0) e_z0 rfl rfl (hb hby dI_57) ?_
    show sS p e below T0 m 58 #[rv ad, rv at_, rv rn, iv 3, iv x4, iv x5, iv 0, .val (.int (own_cnt (0 : Int32) u0 u0)), iv 1] [(.int u0), (.int u1)] _
    refine sg_to_3_0_58_64_1 X0 hx hZ hw hby hown ?_
    show sS p e below T0 m 64 #[rv ad, rv at_, rv rn, iv 3, iv x4, iv x5, iv 0, .val (.int (own_cnt (own_cnt (0 : Int32) u0 u0) u1 u0)), iv 1] [] _
    refine XS.iinc X0.here hx rfl (hb hby dI_64) rfl (l' := #[rv ad, rv at_, rv rn, iv 3, iv x4, iv x5, iv 0, .val (.int (own_cnt (own_cnt (0 : Int32) u0 u0) u1 u0)), iv 2]) rfl ?_
    refine XS.goto X0.here hx rfl (pc0 := 67) (pc' := 40) rfl (hb hby dI_67) (by decide) (by decide) ?_
    refine XS.iload X0.here hx rfl (hb hby dI_40) rfl ?_
    refine XS.iloadN X0.here hx rfl (hb hby dI_42) rfl ?_
    refine XS.icmpNo X0.here hx rfl (hb hby dI_43) rfl (by decide) ?_
    refine XS.aloadN X0.here hx rfl (hb hby dI_46) rfl rfl ?_
    show sS p e below T0 m 47 #[rv ad, rv at_, rv rn, iv 3, iv x4, iv x5, iv 0, .val (.int (own_cnt (own_cnt (0 : Int32) u0 u0) u1 u0)), iv 2] [(.ref at_)] _
    refine XS.aloadN X0.here hx rfl (hb hby dI_47) rfl rfl ?_
    refine XS.iload X0.here hx rfl (hb hby dI_48) rfl ?_
    refine own_ldI X0 hx hZ e0 V_n ⟨by decide, by decide⟩ (v := z2) rfl rfl rfl (hb hby dI_50) ?_
    refine own_ldI X0 hx hZ e0 V_t b_z2 (v := u2) e_z2 rfl rfl (hb hby dI_51) ?_
    refine XS.aloadN X0.here hx rfl (hb hby dI_52) rfl rfl ?_
    refine XS.aloadN X0.here hx rfl (hb hby dI_53) rfl rfl ?_
    show sS p e below T0 m 54 #[rv ad, rv at_, rv rn, iv 3, iv x4, iv x5, iv 0, .val (.int (own_cnt (own_cnt (0 : Int32) u0 u0) u1 u0)), iv 2] [(.ref rn), (.ref at_), (.int u2)] _
    refine XS.iload X0.here hx rfl (hb hby dI_54) rfl ?_
    refine own_ldI X0 hx hZ e0 V_n ⟨by decide, by decide⟩ (v := z0) rfl rfl rfl (hb hby dI_56) ?_
    refine own_ldI X0 hx hZ e0 V_t b_z0 (v := u0) e_z0 rfl rfl (hb hby dI_57) ?_
    show sS p e below T0 m 58 #[rv ad, rv at_, rv rn, iv 3, iv x4, iv x5, iv 0, .val (.int (own_cnt (own_cnt (0 : Int32) u0 u0) u1 u0)), iv 2] [(.int u0), (.int u2)] _
    refine sg_to_3_0_58_64_2 X0 hx hZ hw hby hown ?_
    show sS p e below T0 m 64 #[rv ad, rv at_, rv rn, iv 3, iv x4, iv x5, iv 0, .val (.int (own_cnt (own_cnt (own_cnt (0 : Int32) u0 u0) u1 u0) u2 u0)), iv 2] [] _
    refine XS.iinc X0.here hx rfl (hb hby dI_64) rfl (l' := #[rv ad, rv at_, rv rn, iv 3, iv x4, iv x5, iv 0, .val (.int (own_cnt (own_cnt (own_cnt (0 : Int32) u0 u0) u1 u0) u2 u0)), iv 3]) rfl ?_
    refine XS.goto X0.here hx rfl (pc0 := 67) (pc' := 40) rfl (hb hby dI_67) (by decide) (by decide) ?_
    refine XS.iload X0.here hx rfl (hb hby dI_40) rfl ?_
    refine XS.iloadN X0.here hx rfl (hb hby dI_42) rfl ?_
    refine XS.icmpYes X0.here hx rfl (pc0 := 43) (pc' := 70) rfl (hb hby dI_43) rfl (by decide) (by decide) (by decide) ?_
    refine XS.iload X0.here hx rfl (hb hby dI_70) rfl ?_
    show sS p e below T0 m 72 #[rv ad, rv at_, rv rn, iv 3, iv x4, iv x5, iv 0, .val (.int (own_cnt (own_cnt (own_cnt (0 : Int32) u0 u0) u1 u0) u2 u0)), iv 3] [(.int (own_cnt (own_cnt (own_cnt (0 : Int32) u0 u0) u1 u0) u2 u0))] _
    refine XS.iload X0.here hx rfl (hb hby dI_72) rfl ?_
    refine XS.icmpYes X0.here hx rfl (pc0 := 74) (pc' := 89) rfl (hb hby dI_74) rfl hc74 (by decide) (by decide) ?_
    refine XS.iinc X0.here hx rfl (hb hby dI_89) rfl (l' := #[rv ad, rv at_, rv rn, iv 3, iv x4, iv x5, iv 1, .val (.int (own_cnt (own_cnt (own_cnt (0 : Int32) u0 u0) u1 u0) u2 u0)), iv 3]) rfl ?_
    refine XS.goto X0.here hx rfl (pc0 := 92) (pc' := 28) rfl (hb hby dI_92) (by decide) (by decide) ?_
    exact kt
  · refine ⟨T0, h0, _, u0, (own_cnt (own_cnt (own_cnt (0 : Int32) u0 u0) u1 u0) u2 u0), X0, e0, N0, rfl, (by unfold own_b; rw [hc74]; rfl), (by unfold own_c; rw [hc74]; rfl), fun target kt => ?_⟩
    show sS p e below T0 m 28 #[rv ad, rv at_, rv rn, iv 3, iv x4, iv x5, iv 0, .unset, .unset] [] _
    refine XS.iload X0.here hx rfl (hb hby dI_28) rfl ?_
    refine XS.iloadN X0.here hx rfl (hb hby dI_30) rfl ?_
    refine XS.icmpNo X0.here hx rfl (hb hby dI_31) rfl (by decide) ?_
    refine XS.iconst X0.here hx rfl (hb hby dI_34) ?_
    refine XS.istore X0.here hx rfl (hb hby dI_35) rfl (l' := #[rv ad, rv at_, rv rn, iv 3, iv x4, iv x5, iv 0, iv 0, .unset]) rfl ?_
    refine XS.iconst X0.here hx rfl (hb hby dI_37) ?_
    show sS p e below T0 m 38 #[rv ad, rv at_, rv rn, iv 3, iv x4, iv x5, iv 0, iv 0, .unset] [(.int (0 : Int32))] _
    refine XS.istore X0.here hx rfl (hb hby dI_38) rfl (l' := #[rv ad, rv at_, rv rn, iv 3, iv x4, iv x5, iv 0, iv 0, iv 0]) rfl ?_
    refine XS.iload X0.here hx rfl (hb hby dI_40) rfl ?_
    refine XS.iloadN X0.here hx rfl (hb hby dI_42) rfl ?_
    refine XS.icmpNo X0.here hx rfl (hb hby dI_43) rfl (by decide) ?_
    refine XS.aloadN X0.here hx rfl (hb hby dI_46) rfl rfl ?_
    refine XS.aloadN X0.here hx rfl (hb hby dI_47) rfl rfl ?_
    show sS p e below T0 m 48 #[rv ad, rv at_, rv rn, iv 3, iv x4, iv x5, iv 0, iv 0, iv 0] [(.ref rn), (.ref at_)] _
    refine XS.iload X0.here hx rfl (hb hby dI_48) rfl ?_
    refine own_ldI X0 hx hZ e0 V_n ⟨by decide, by decide⟩ (v := z0) rfl rfl rfl (hb hby dI_50) ?_
    refine own_ldI X0 hx hZ e0 V_t b_z0 (v := u0) e_z0 rfl rfl (hb hby dI_51) ?_
    refine XS.aloadN X0.here hx rfl (hb hby dI_52) rfl rfl ?_
    refine XS.aloadN X0.here hx rfl (hb hby dI_53) rfl rfl ?_
    refine XS.iload X0.here hx rfl (hb hby dI_54) rfl ?_
    show sS p e below T0 m 56 #[rv ad, rv at_, rv rn, iv 3, iv x4, iv x5, iv 0, iv 0, iv 0] [(.int (0 : Int32)), (.ref rn), (.ref at_), (.int u0)] _
    refine own_ldI X0 hx hZ e0 V_n ⟨by decide, by decide⟩ (v := z0) rfl rfl rfl (hb hby dI_56) ?_
    refine own_ldI X0 hx hZ e0 V_t b_z0 (v := u0) e_z0 rfl rfl (hb hby dI_57) ?_
    show sS p e below T0 m 58 #[rv ad, rv at_, rv rn, iv 3, iv x4, iv x5, iv 0, iv 0, iv 0] [(.int u0), (.int u0)] _
    refine sg_to_3_0_58_64 X0 hx hZ hw hby hown ?_
    show sS p e below T0 m 64 #[rv ad, rv at_, rv rn, iv 3, iv x4, iv x5, iv 0, .val (.int (own_cnt (0 : Int32) u0 u0)), iv 0] [] _
    refine XS.iinc X0.here hx rfl (hb hby dI_64) rfl (l' := #[rv ad, rv at_, rv rn, iv 3, iv x4, iv x5, iv 0, .val (.int (own_cnt (0 : Int32) u0 u0)), iv 1]) rfl ?_
    refine XS.goto X0.here hx rfl (pc0 := 67) (pc' := 40) rfl (hb hby dI_67) (by decide) (by decide) ?_
    refine XS.iload X0.here hx rfl (hb hby dI_40) rfl ?_
    refine XS.iloadN X0.here hx rfl (hb hby dI_42) rfl ?_
    refine XS.icmpNo X0.here hx rfl (hb hby dI_43) rfl (by decide) ?_
    refine XS.aloadN X0.here hx rfl (hb hby dI_46) rfl rfl ?_
    show sS p e below T0 m 47 #[rv ad, rv at_, rv rn, iv 3, iv x4, iv x5, iv 0, .val (.int (own_cnt (0 : Int32) u0 u0)), iv 1] [(.ref at_)] _
    refine XS.aloadN X0.here hx rfl (hb hby dI_47) rfl rfl ?_
    refine XS.iload X0.here hx rfl (hb hby dI_48) rfl ?_
    refine own_ldI X0 hx hZ e0 V_n ⟨by decide, by decide⟩ (v := z1) rfl rfl rfl (hb hby dI_50) ?_
    refine own_ldI X0 hx hZ e0 V_t b_z1 (v := u1) e_z1 rfl rfl (hb hby dI_51) ?_
    refine XS.aloadN X0.here hx rfl (hb hby dI_52) rfl rfl ?_
    refine XS.aloadN X0.here hx rfl (hb hby dI_53) rfl rfl ?_
    show sS p e below T0 m 54 #[rv ad, rv at_, rv rn, iv 3, iv x4, iv x5, iv 0, .val (.int (own_cnt (0 : Int32) u0 u0)), iv 1] [(.ref rn), (.ref at_), (.int u1)] _
    refine XS.iload X0.here hx rfl (hb hby dI_54) rfl ?_
    refine own_ldI X0 hx hZ e0 V_n ⟨by decide, by decide⟩ (v := z0) rfl rfl rfl (hb hby dI_56) ?_
    refine own_ldI X0 hx hZ e0 V_t b_z0 (v := u0) e_z0 rfl rfl (hb hby dI_57) ?_
    show sS p e below T0 m 58 #[rv ad, rv at_, rv rn, iv 3, iv x4, iv x5, iv 0, .val (.int (own_cnt (0 : Int32) u0 u0)), iv 1] [(.int u0), (.int u1)] _
    refine sg_to_3_0_58_64_1 X0 hx hZ hw hby hown ?_
    show sS p e below T0 m 64 #[rv ad, rv at_, rv rn, iv 3, iv x4, iv x5, iv 0, .val (.int (own_cnt (own_cnt (0 : Int32) u0 u0) u1 u0)), iv 1] [] _
    refine XS.iinc X0.here hx rfl (hb hby dI_64) rfl (l' := #[rv ad, rv at_, rv rn, iv 3, iv x4, iv x5, iv 0, .val (.int (own_cnt (own_cnt (0 : Int32) u0 u0) u1 u0)), iv 2]) rfl ?_
    refine XS.goto X0.here hx rfl (pc0 := 67) (pc' := 40) rfl (hb hby dI_67) (by decide) (by decide) ?_
    refine XS.iload X0.here hx rfl (hb hby dI_40) rfl ?_
    refine XS.iloadN X0.here hx rfl (hb hby dI_42) rfl ?_
    refine XS.icmpNo X0.here hx rfl (hb hby dI_43) rfl (by decide) ?_
    refine XS.aloadN X0.here hx rfl (hb hby dI_46) rfl rfl ?_
    show sS p e below T0 m 47 #[rv ad, rv at_, rv rn, iv 3, iv x4, iv x5, iv 0, .val (.int (own_cnt (own_cnt (0 : Int32) u0 u0) u1 u0)), iv 2] [(.ref at_)] _
    refine XS.aloadN X0.here hx rfl (hb hby dI_47) rfl rfl ?_
    refine XS.iload X0.here hx rfl (hb hby dI_48) rfl ?_
    refine own_ldI X0 hx hZ e0 V_n ⟨by decide, by decide⟩ (v := z2) rfl rfl rfl (hb hby dI_50) ?_
    refine own_ldI X0 hx hZ e0 V_t b_z2 (v := u2) e_z2 rfl rfl (hb hby dI_51) ?_
    refine XS.aloadN X0.here hx rfl (hb hby dI_52) rfl rfl ?_
    refine XS.aloadN X0.here hx rfl (hb hby dI_53) rfl rfl ?_
    show sS p e below T0 m 54 #[rv ad, rv at_, rv rn, iv 3, iv x4, iv x5, iv 0, .val (.int (own_cnt (own_cnt (0 : Int32) u0 u0) u1 u0)), iv 2] [(.ref rn), (.ref at_), (.int u2)] _
    refine XS.iload X0.here hx rfl (hb hby dI_54) rfl ?_
    refine own_ldI X0 hx hZ e0 V_n ⟨by decide, by decide⟩ (v := z0) rfl rfl rfl (hb hby dI_56) ?_
    refine own_ldI X0 hx hZ e0 V_t b_z0 (v := u0) e_z0 rfl rfl (hb hby dI_57) ?_
    show sS p e below T0 m 58 #[rv ad, rv at_, rv rn, iv 3, iv x4, iv x5, iv 0, .val (.int (own_cnt (own_cnt (0 : Int32) u0 u0) u1 u0)), iv 2] [(.int u0), (.int u2)] _
    refine sg_to_3_0_58_64_2 X0 hx hZ hw hby hown ?_
    show sS p e below T0 m 64 #[rv ad, rv at_, rv rn, iv 3, iv x4, iv x5, iv 0, .val (.int (own_cnt (own_cnt (own_cnt (0 : Int32) u0 u0) u1 u0) u2 u0)), iv 2] [] _
    refine XS.iinc X0.here hx rfl (hb hby dI_64) rfl (l' := #[rv ad, rv at_, rv rn, iv 3, iv x4, iv x5, iv 0, .val (.int (own_cnt (own_cnt (own_cnt (0 : Int32) u0 u0) u1 u0) u2 u0)), iv 3]) rfl ?_
    refine XS.goto X0.here hx rfl (pc0 := 67) (pc' := 40) rfl (hb hby dI_67) (by decide) (by decide) ?_
    refine XS.iload X0.here hx rfl (hb hby dI_40) rfl ?_
    refine XS.iloadN X0.here hx rfl (hb hby dI_42) rfl ?_
    refine XS.icmpYes X0.here hx rfl (pc0 := 43) (pc' := 70) rfl (hb hby dI_43) rfl (by decide) (by decide) (by decide) ?_
    refine XS.iload X0.here hx rfl (hb hby dI_70) rfl ?_
    show sS p e below T0 m 72 #[rv ad, rv at_, rv rn, iv 3, iv x4, iv x5, iv 0, .val (.int (own_cnt (own_cnt (own_cnt (0 : Int32) u0 u0) u1 u0) u2 u0)), iv 3] [(.int (own_cnt (own_cnt (own_cnt (0 : Int32) u0 u0) u1 u0) u2 u0))] _
    refine XS.iload X0.here hx rfl (hb hby dI_72) rfl ?_
    refine XS.icmpNo X0.here hx rfl (hb hby dI_74) rfl hc74 ?_
    refine XS.aloadN X0.here hx rfl (hb hby dI_77) rfl rfl ?_
    refine XS.aloadN X0.here hx rfl (hb hby dI_78) rfl rfl ?_
    refine XS.iload X0.here hx rfl (hb hby dI_79) rfl ?_
    refine own_ldI X0 hx hZ e0 V_n ⟨by decide, by decide⟩ (v := z0) rfl rfl rfl (hb hby dI_81) ?_
    show sS p e below T0 m 82 #[rv ad, rv at_, rv rn, iv 3, iv x4, iv x5, iv 0, .val (.int (own_cnt (own_cnt (own_cnt (0 : Int32) u0 u0) u1 u0) u2 u0)), iv 3] [(.int z0), (.ref at_)] _
    refine own_ldI X0 hx hZ e0 V_t b_z0 (v := u0) e_z0 rfl rfl (hb hby dI_82) ?_
    refine XS.istore X0.here hx rfl (hb hby dI_83) rfl (l' := #[rv ad, rv at_, rv rn, iv 3, iv u0, iv x5, iv 0, .val (.int (own_cnt (own_cnt (own_cnt (0 : Int32) u0 u0) u1 u0) u2 u0)), iv 3]) rfl ?_
    refine XS.iload X0.here hx rfl (hb hby dI_85) rfl ?_
    refine XS.istore X0.here hx rfl (hb hby dI_87) rfl (l' := #[rv ad, rv at_, rv rn, iv 3, iv u0, .val (.int (own_cnt (own_cnt (own_cnt (0 : Int32) u0 u0) u1 u0) u2 u0)), iv 0, .val (.int (own_cnt (own_cnt (own_cnt (0 : Int32) u0 u0) u1 u0) u2 u0)), iv 3]) rfl ?_
    refine XS.iinc X0.here hx rfl (hb hby dI_89) rfl (l' := #[rv ad, rv at_, rv rn, iv 3, iv u0, .val (.int (own_cnt (own_cnt (own_cnt (0 : Int32) u0 u0) u1 u0) u2 u0)), iv 1, .val (.int (own_cnt (own_cnt (own_cnt (0 : Int32) u0 u0) u1 u0) u2 u0)), iv 3]) rfl ?_
    refine XS.goto X0.here hx rfl (pc0 := 92) (pc' := 28) rfl (hb hby dI_92) (by decide) (by decide) ?_
    exact kt
set_option maxRecDepth 65536 in
set_option maxHeartbeats 4000000 in
theorem sg_to_3_1_58_64 {p : Program} {l : Launch} {e : Env} {R : Room} {s : State} {m : MethodId} {args : Array Value} {below : List Frame} {meth : Method} {c : Code} {T : State} {locs : List Loc} {cells slots : Nat} {Z : State} {a0 : Array Value} {target : State} {x0 : Addr} {x1 : Addr} {x2 : Addr} {x3 : Int32} {x4 : Int32} {x5 : Int32} {x6 : Int32} {x7 : Int32} {x8 : Int32} {y0 : Int32} {y1 : Int32} (X : Stand p l e R s m args below meth c T locs cells slots) (hx : p.tables.exec = Jvm.exec) (hZ : Z.Warmed39 s.vm) (hw : ∀ d ∈ tables_1, d.before a0 Z = true) (hby : c.code = prog_5_method_3_code) (hown : s.vm.findClass cN1 = some m.cls)
    (k : Steps p.tables e below (T.setTop (mkF m 64 #[rv x0, rv x1, rv x2, iv x3, iv x4, iv x5, iv x6, .val (.int (bif (if_icmp.holds .ne y1 y0) then x7 else (x7 + (1 : Int32)))), iv x8] [])) target) : Steps p.tables e below (T.setTop (mkF m 58 #[rv x0, rv x1, rv x2, iv x3, iv x4, iv x5, iv x6, iv x7, iv x8] [(.int y0), (.int y1)])) target := by
  show sS p e below T m 58 #[rv x0, rv x1, rv x2, iv x3, iv x4, iv x5, iv x6, iv x7, iv x8] [(.int y0), (.int y1)] _
  rcases Bool.eq_false_or_eq_true (if_icmp.holds .ne y1 y0) with hc1 | hc1
  · try rw [hc1] at k
    refine XS.icmpYes X.here hx rfl (pc0 := 58) (pc' := 64) rfl (hb hby dI_58) rfl hc1 (by decide) (by decide) ?_
    show sS p e below T m 64 #[rv x0, rv x1, rv x2, iv x3, iv x4, iv x5, iv x6, iv x7, iv x8] [] _
    exact k
  · try rw [hc1] at k
    refine XS.icmpNo X.here hx rfl (hb hby dI_58) rfl hc1 ?_
    show sS p e below T m 61 #[rv x0, rv x1, rv x2, iv x3, iv x4, iv x5, iv x6, iv x7, iv x8] [] _
    refine XS.iinc X.here hx rfl (hb hby dI_61) rfl (l' := #[rv x0, rv x1, rv x2, iv x3, iv x4, iv x5, iv x6, .val (.int (x7 + (1 : Int32))), iv x8]) rfl ?_
    exact k
set_option maxRecDepth 65536 in
set_option maxHeartbeats 4000000 in
theorem sg_to_3_1_58_64_1 {p : Program} {l : Launch} {e : Env} {R : Room} {s : State} {m : MethodId} {args : Array Value} {below : List Frame} {meth : Method} {c : Code} {T : State} {locs : List Loc} {cells slots : Nat} {Z : State} {a0 : Array Value} {target : State} {x0 : Addr} {x1 : Addr} {x2 : Addr} {x3 : Int32} {x4 : Int32} {x5 : Int32} {x6 : Int32} {x7 : Int32} {x8 : Int32} {y0 : Int32} {y1 : Int32} (X : Stand p l e R s m args below meth c T locs cells slots) (hx : p.tables.exec = Jvm.exec) (hZ : Z.Warmed39 s.vm) (hw : ∀ d ∈ tables_1, d.before a0 Z = true) (hby : c.code = prog_5_method_3_code) (hown : s.vm.findClass cN1 = some m.cls)
    (k : Steps p.tables e below (T.setTop (mkF m 64 #[rv x0, rv x1, rv x2, iv x3, iv x4, iv x5, iv x6, .val (.int (bif (if_icmp.holds .ne y1 y0) then x7 else (x7 + (1 : Int32)))), iv x8] [])) target) : Steps p.tables e below (T.setTop (mkF m 58 #[rv x0, rv x1, rv x2, iv x3, iv x4, iv x5, iv x6, iv x7, iv x8] [(.int y0), (.int y1)])) target := by
  show sS p e below T m 58 #[rv x0, rv x1, rv x2, iv x3, iv x4, iv x5, iv x6, iv x7, iv x8] [(.int y0), (.int y1)] _
  rcases Bool.eq_false_or_eq_true (if_icmp.holds .ne y1 y0) with hc1 | hc1
  · try rw [hc1] at k
    refine XS.icmpYes X.here hx rfl (pc0 := 58) (pc' := 64) rfl (hb hby dI_58) rfl hc1 (by decide) (by decide) ?_
    show sS p e below T m 64 #[rv x0, rv x1, rv x2, iv x3, iv x4, iv x5, iv x6, iv x7, iv x8] [] _
    exact k
  · try rw [hc1] at k
    refine XS.icmpNo X.here hx rfl (hb hby dI_58) rfl hc1 ?_
    show sS p e below T m 61 #[rv x0, rv x1, rv x2, iv x3, iv x4, iv x5, iv x6, iv x7, iv x8] [] _
    refine XS.iinc X.here hx rfl (hb hby dI_61) rfl (l' := #[rv x0, rv x1, rv x2, iv x3, iv x4, iv x5, iv x6, .val (.int (x7 + (1 : Int32))), iv x8]) rfl ?_
    exact k
set_option maxRecDepth 65536 in
set_option maxHeartbeats 4000000 in
theorem sg_to_3_1_58_64_2 {p : Program} {l : Launch} {e : Env} {R : Room} {s : State} {m : MethodId} {args : Array Value} {below : List Frame} {meth : Method} {c : Code} {T : State} {locs : List Loc} {cells slots : Nat} {Z : State} {a0 : Array Value} {target : State} {x0 : Addr} {x1 : Addr} {x2 : Addr} {x3 : Int32} {x4 : Int32} {x5 : Int32} {x6 : Int32} {x7 : Int32} {x8 : Int32} {y0 : Int32} {y1 : Int32} (X : Stand p l e R s m args below meth c T locs cells slots) (hx : p.tables.exec = Jvm.exec) (hZ : Z.Warmed39 s.vm) (hw : ∀ d ∈ tables_1, d.before a0 Z = true) (hby : c.code = prog_5_method_3_code) (hown : s.vm.findClass cN1 = some m.cls)
    (k : Steps p.tables e below (T.setTop (mkF m 64 #[rv x0, rv x1, rv x2, iv x3, iv x4, iv x5, iv x6, .val (.int (bif (if_icmp.holds .ne y1 y0) then x7 else (x7 + (1 : Int32)))), iv x8] [])) target) : Steps p.tables e below (T.setTop (mkF m 58 #[rv x0, rv x1, rv x2, iv x3, iv x4, iv x5, iv x6, iv x7, iv x8] [(.int y0), (.int y1)])) target := by
  show sS p e below T m 58 #[rv x0, rv x1, rv x2, iv x3, iv x4, iv x5, iv x6, iv x7, iv x8] [(.int y0), (.int y1)] _
  rcases Bool.eq_false_or_eq_true (if_icmp.holds .ne y1 y0) with hc1 | hc1
  · try rw [hc1] at k
    refine XS.icmpYes X.here hx rfl (pc0 := 58) (pc' := 64) rfl (hb hby dI_58) rfl hc1 (by decide) (by decide) ?_
    show sS p e below T m 64 #[rv x0, rv x1, rv x2, iv x3, iv x4, iv x5, iv x6, iv x7, iv x8] [] _
    exact k
  · try rw [hc1] at k
    refine XS.icmpNo X.here hx rfl (hb hby dI_58) rfl hc1 ?_
    show sS p e below T m 61 #[rv x0, rv x1, rv x2, iv x3, iv x4, iv x5, iv x6, iv x7, iv x8] [] _
    refine XS.iinc X.here hx rfl (hb hby dI_61) rfl (l' := #[rv x0, rv x1, rv x2, iv x3, iv x4, iv x5, iv x6, .val (.int (x7 + (1 : Int32))), iv x8]) rfl ?_
    exact k
set_option maxRecDepth 65536 in
set_option maxHeartbeats 40000000 in
theorem to_3_1 {p : Program} {l : Launch} {e : Env} {s : State} {m : MethodId} {args : Array Value} {below : List Frame} {meth : Method} {c : Code} {T0 : State} {locs : List Loc}  {Z : State} {a0 : Array Value} {h0 : Heap} {n0 : Nat} {ad at_ rn : Addr} {kt kn : ClassId} {nn u0 u1 u2 z0 z1 z2 x4 x5 x7 x8 : Int32} {vt : List Value} (X0 : Stand p l e ({ frames := 4, cells := 1, slots := 3, locals := 82 } : Room) s m args below meth c T0 locs 1 3) (hx : p.tables.exec = Jvm.exec) (hZ : Z.Warmed39 s.vm) (hw : ∀ d ∈ tables_1, d.before a0 Z = true) (hby : c.code = prog_5_method_3_code) (hml : c.maxLocals = 9) (hown : s.vm.findClass cN1 = some m.cls) (e0 : T0.heap = h0) (Z0 : n0 ≤ h0.size) (N0 : Fr n0 locs) (V_t : Arv Z h0 at_ kt .int nn vt (.int (0 : Int32))) (V_n : Arv Z h0 rn kn .int (3 : Int32) [(.int z0), (.int z1), (.int z2)] (.int (0 : Int32))) (b_z0 : (¬ z0 < 0 ∧ z0 < nn)) (e_z0 : vt.getD z0.toNatClampNeg (.int (0 : Int32)) = .int u0) (b_z1 : (¬ z1 < 0 ∧ z1 < nn)) (e_z1 : vt.getD z1.toNatClampNeg (.int (0 : Int32)) = .int u1) (b_z2 : (¬ z2 < 0 ∧ z2 < nn)) (e_z2 : vt.getD z2.toNatClampNeg (.int (0 : Int32)) = .int u2) :
    ∃ (T' : State) (h' : Heap) (L' : List Loc) (y4 y5 : Int32), Stand p l e ({ frames := 4, cells := 1, slots := 3, locals := 82 } : Room) s m args below meth c T' L' 1 3 ∧ T'.heap = h' ∧ Fr n0 L' ∧ h' = h0 ∧ y4 = own_b (own_cnt (own_cnt (own_cnt (0 : Int32) u0 u1) u1 u1) u2 u1) x5 x4 u1 ∧ y5 = own_c (own_cnt (own_cnt (own_cnt (0 : Int32) u0 u1) u1 u1) u2 u1) x5 ∧ ∀ target, Steps p.tables e below (T'.setTop (mkF m 28 #[rv ad, rv at_, rv rn, iv 3, iv y4, iv y5, iv 2, .val (.int (own_cnt (own_cnt (own_cnt (0 : Int32) u0 u1) u1 u1) u2 u1)), iv 3] [])) target → Steps p.tables e below (T0.setTop (mkF m 28 #[rv ad, rv at_, rv rn, iv 3, iv x4, iv x5, iv 1, iv x7, iv x8] [])) target := by
  rcases Bool.eq_false_or_eq_true (if_icmp.holds .le (own_cnt (own_cnt (own_cnt (0 : Int32) u0 u1) u1 u1) u2 u1) x5) with hc74 | hc74
  · refine ⟨T0, h0, _, x4, x5, X0, e0, N0, rfl, (by unfold own_b; rw [hc74]; rfl), (by unfold own_c; rw [hc74]; rfl), fun target kt => ?_⟩
    show sS p e below T0 m 28 #[rv ad, rv at_, rv rn, iv 3, iv x4, iv x5, iv 1, iv x7, iv x8] [] _
    refine XS.iload X0.here hx rfl (hb hby dI_28) rfl ?_
    refine XS.iloadN X0.here hx rfl (hb hby dI_30) rfl ?_
    refine XS.icmpNo X0.here hx rfl (hb hby dI_31) rfl (by decide) ?_
    refine XS.iconst X0.here hx rfl (hb hby dI_34) ?_
    refine XS.istore X0.here hx rfl (hb hby dI_35) rfl (l' := #[rv ad, rv at_, rv rn, iv 3, iv x4, iv x5, iv 1, iv 0, iv x8]) rfl ?_
    refine XS.iconst X0.here hx rfl (hb hby dI_37) ?_
    show sS p e below T0 m 38 #[rv ad, rv at_, rv rn, iv 3, iv x4, iv x5, iv 1, iv 0, iv x8] [(.int (0 : Int32))] _
    refine XS.istore X0.here hx rfl (hb hby dI_38) rfl (l' := #[rv ad, rv at_, rv rn, iv 3, iv x4, iv x5, iv 1, iv 0, iv 0]) rfl ?_
    refine XS.iload X0.here hx rfl (hb hby dI_40) rfl ?_
    refine XS.iloadN X0.here hx rfl (hb hby dI_42) rfl ?_
    refine XS.icmpNo X0.here hx rfl (hb hby dI_43) rfl (by decide) ?_
    refine XS.aloadN X0.here hx rfl (hb hby dI_46) rfl rfl ?_
    refine XS.aloadN X0.here hx rfl (hb hby dI_47) rfl rfl ?_
    show sS p e below T0 m 48 #[rv ad, rv at_, rv rn, iv 3, iv x4, iv x5, iv 1, iv 0, iv 0] [(.ref rn), (.ref at_)] _
    refine XS.iload X0.here hx rfl (hb hby dI_48) rfl ?_
    refine own_ldI X0 hx hZ e0 V_n ⟨by decide, by decide⟩ (v := z0) rfl rfl rfl (hb hby dI_50) ?_
    refine own_ldI X0 hx hZ e0 V_t b_z0 (v := u0) e_z0 rfl rfl (hb hby dI_51) ?_
    refine XS.aloadN X0.here hx rfl (hb hby dI_52) rfl rfl ?_
    refine XS.aloadN X0.here hx rfl (hb hby dI_53) rfl rfl ?_
    refine XS.iload X0.here hx rfl (hb hby dI_54) rfl ?_
    show sS p e below T0 m 56 #[rv ad, rv at_, rv rn, iv 3, iv x4, iv x5, iv 1, iv 0, iv 0] [(.int (1 : Int32)), (.ref rn), (.ref at_), (.int u0)] _
    refine own_ldI X0 hx hZ e0 V_n ⟨by decide, by decide⟩ (v := z1) rfl rfl rfl (hb hby dI_56) ?_
    refine own_ldI X0 hx hZ e0 V_t b_z1 (v := u1) e_z1 rfl rfl (hb hby dI_57) ?_
    show sS p e below T0 m 58 #[rv ad, rv at_, rv rn, iv 3, iv x4, iv x5, iv 1, iv 0, iv 0] [(.int u1), (.int u0)] _
    refine sg_to_3_1_58_64 X0 hx hZ hw hby hown ?_
    show sS p e below T0 m 64 #[rv ad, rv at_, rv rn, iv 3, iv x4, iv x5, iv 1, .val (.int (own_cnt (0 : Int32) u0 u1)), iv 0] [] _
    refine XS.iinc X0.here hx rfl (hb hby dI_64) rfl (l' := #[rv ad, rv at_, rv rn, iv 3, iv x4, iv x5, iv 1, .val (.int (own_cnt (0 : Int32) u0 u1)), iv 1]) rfl ?_
    refine XS.goto X0.here hx rfl (pc0 := 67) (pc' := 40) rfl (hb hby dI_67) (by decide) (by decide) ?_
    refine XS.iload X0.here hx rfl (hb hby dI_40) rfl ?_
    refine XS.iloadN X0.here hx rfl (hb hby dI_42) rfl ?_
    refine XS.icmpNo X0.here hx rfl (hb hby dI_43) rfl (by decide) ?_
    refine XS.aloadN X0.here hx rfl (hb hby dI_46) rfl rfl ?_
    show sS p e below T0 m 47 #[rv ad, rv at_, rv rn, iv 3, iv x4, iv x5, iv 1, .val (.int (own_cnt (0 : Int32) u0 u1)), iv 1] [(.ref at_)] _
    refine XS.aloadN X0.here hx rfl (hb hby dI_47) rfl rfl ?_
    refine XS.iload X0.here hx rfl (hb hby dI_48) rfl ?_
    refine own_ldI X0 hx hZ e0 V_n ⟨by decide, by decide⟩ (v := z1) rfl rfl rfl (hb hby dI_50) ?_
    refine own_ldI X0 hx hZ e0 V_t b_z1 (v := u1) e_z1 rfl rfl (hb hby dI_51) ?_
    refine XS.aloadN X0.here hx rfl (hb hby dI_52) rfl rfl ?_
    refine XS.aloadN X0.here hx rfl (hb hby dI_53) rfl rfl ?_
    show sS p e below T0 m 54 #[rv ad, rv at_, rv rn, iv 3, iv x4, iv x5, iv 1, .val (.int (own_cnt (0 : Int32) u0 u1)), iv 1] [(.ref rn), (.ref at_), (.int u1)] _
    refine XS.iload X0.here hx rfl (hb hby dI_54) rfl ?_
    refine own_ldI X0 hx hZ e0 V_n ⟨by decide, by decide⟩ (v := z1) rfl rfl rfl (hb hby dI_56) ?_
    refine own_ldI X0 hx hZ e0 V_t b_z1 (v := u1) e_z1 rfl rfl (hb hby dI_57) ?_
    show sS p e below T0 m 58 #[rv ad, rv at_, rv rn, iv 3, iv x4, iv x5, iv 1, .val (.int (own_cnt (0 : Int32) u0 u1)), iv 1] [(.int u1), (.int u1)] _
    refine sg_to_3_1_58_64_1 X0 hx hZ hw hby hown ?_
    show sS p e below T0 m 64 #[rv ad, rv at_, rv rn, iv 3, iv x4, iv x5, iv 1, .val (.int (own_cnt (own_cnt (0 : Int32) u0 u1) u1 u1)), iv 1] [] _
    refine XS.iinc X0.here hx rfl (hb hby dI_64) rfl (l' := #[rv ad, rv at_, rv rn, iv 3, iv x4, iv x5, iv 1, .val (.int (own_cnt (own_cnt (0 : Int32) u0 u1) u1 u1)), iv 2]) rfl ?_
    refine XS.goto X0.here hx rfl (pc0 := 67) (pc' := 40) rfl (hb hby dI_67) (by decide) (by decide) ?_
    refine XS.iload X0.here hx rfl (hb hby dI_40) rfl ?_
    refine XS.iloadN X0.here hx rfl (hb hby dI_42) rfl ?_
    refine XS.icmpNo X0.here hx rfl (hb hby dI_43) rfl (by decide) ?_
    refine XS.aloadN X0.here hx rfl (hb hby dI_46) rfl rfl ?_
    show sS p e below T0 m 47 #[rv ad, rv at_, rv rn, iv 3, iv x4, iv x5, iv 1, .val (.int (own_cnt (own_cnt (0 : Int32) u0 u1) u1 u1)), iv 2] [(.ref at_)] _
    refine XS.aloadN X0.here hx rfl (hb hby dI_47) rfl rfl ?_
    refine XS.iload X0.here hx rfl (hb hby dI_48) rfl ?_
    refine own_ldI X0 hx hZ e0 V_n ⟨by decide, by decide⟩ (v := z2) rfl rfl rfl (hb hby dI_50) ?_
    refine own_ldI X0 hx hZ e0 V_t b_z2 (v := u2) e_z2 rfl rfl (hb hby dI_51) ?_
    refine XS.aloadN X0.here hx rfl (hb hby dI_52) rfl rfl ?_
    refine XS.aloadN X0.here hx rfl (hb hby dI_53) rfl rfl ?_
    show sS p e below T0 m 54 #[rv ad, rv at_, rv rn, iv 3, iv x4, iv x5, iv 1, .val (.int (own_cnt (own_cnt (0 : Int32) u0 u1) u1 u1)), iv 2] [(.ref rn), (.ref at_), (.int u2)] _
    refine XS.iload X0.here hx rfl (hb hby dI_54) rfl ?_
    refine own_ldI X0 hx hZ e0 V_n ⟨by decide, by decide⟩ (v := z1) rfl rfl rfl (hb hby dI_56) ?_
    refine own_ldI X0 hx hZ e0 V_t b_z1 (v := u1) e_z1 rfl rfl (hb hby dI_57) ?_
    show sS p e below T0 m 58 #[rv ad, rv at_, rv rn, iv 3, iv x4, iv x5, iv 1, .val (.int (own_cnt (own_cnt (0 : Int32) u0 u1) u1 u1)), iv 2] [(.int u1), (.int u2)] _
    refine sg_to_3_1_58_64_2 X0 hx hZ hw hby hown ?_
    show sS p e below T0 m 64 #[rv ad, rv at_, rv rn, iv 3, iv x4, iv x5, iv 1, .val (.int (own_cnt (own_cnt (own_cnt (0 : Int32) u0 u1) u1 u1) u2 u1)), iv 2] [] _
    refine XS.iinc X0.here hx rfl (hb hby dI_64) rfl (l' := #[rv ad, rv at_, rv rn, iv 3, iv x4, iv x5, iv 1, .val (.int (own_cnt (own_cnt (own_cnt (0 : Int32) u0 u1) u1 u1) u2 u1)), iv 3]) rfl ?_
    refine XS.goto X0.here hx rfl (pc0 := 67) (pc' := 40) rfl (hb hby dI_67) (by decide) (by decide) ?_
    refine XS.iload X0.here hx rfl (hb hby dI_40) rfl ?_
    refine XS.iloadN X0.here hx rfl (hb hby dI_42) rfl ?_
    refine XS.icmpYes X0.here hx rfl (pc0 := 43) (pc' := 70) rfl (hb hby dI_43) rfl (by decide) (by decide) (by decide) ?_
    refine XS.iload X0.here hx rfl (hb hby dI_70) rfl ?_
    show sS p e below T0 m 72 #[rv ad, rv at_, rv rn, iv 3, iv x4, iv x5, iv 1, .val (.int (own_cnt (own_cnt (own_cnt (0 : Int32) u0 u1) u1 u1) u2 u1)), iv 3] [(.int (own_cnt (own_cnt (own_cnt (0 : Int32) u0 u1) u1 u1) u2 u1))] _
    refine XS.iload X0.here hx rfl (hb hby dI_72) rfl ?_
    refine XS.icmpYes X0.here hx rfl (pc0 := 74) (pc' := 89) rfl (hb hby dI_74) rfl hc74 (by decide) (by decide) ?_
    refine XS.iinc X0.here hx rfl (hb hby dI_89) rfl (l' := #[rv ad, rv at_, rv rn, iv 3, iv x4, iv x5, iv 2, .val (.int (own_cnt (own_cnt (own_cnt (0 : Int32) u0 u1) u1 u1) u2 u1)), iv 3]) rfl ?_
    refine XS.goto X0.here hx rfl (pc0 := 92) (pc' := 28) rfl (hb hby dI_92) (by decide) (by decide) ?_
    exact kt
  · refine ⟨T0, h0, _, u1, (own_cnt (own_cnt (own_cnt (0 : Int32) u0 u1) u1 u1) u2 u1), X0, e0, N0, rfl, (by unfold own_b; rw [hc74]; rfl), (by unfold own_c; rw [hc74]; rfl), fun target kt => ?_⟩
    show sS p e below T0 m 28 #[rv ad, rv at_, rv rn, iv 3, iv x4, iv x5, iv 1, iv x7, iv x8] [] _
    refine XS.iload X0.here hx rfl (hb hby dI_28) rfl ?_
    refine XS.iloadN X0.here hx rfl (hb hby dI_30) rfl ?_
    refine XS.icmpNo X0.here hx rfl (hb hby dI_31) rfl (by decide) ?_
    refine XS.iconst X0.here hx rfl (hb hby dI_34) ?_
    refine XS.istore X0.here hx rfl (hb hby dI_35) rfl (l' := #[rv ad, rv at_, rv rn, iv 3, iv x4, iv x5, iv 1, iv 0, iv x8]) rfl ?_
    refine XS.iconst X0.here hx rfl (hb hby dI_37) ?_
    show sS p e below T0 m 38 #[rv ad, rv at_, rv rn, iv 3, iv x4, iv x5, iv 1, iv 0, iv x8] [(.int (0 : Int32))] _
    refine XS.istore X0.here hx rfl (hb hby dI_38) rfl (l' := #[rv ad, rv at_, rv rn, iv 3, iv x4, iv x5, iv 1, iv 0, iv 0]) rfl ?_
    refine XS.iload X0.here hx rfl (hb hby dI_40) rfl ?_
    refine XS.iloadN X0.here hx rfl (hb hby dI_42) rfl ?_
    refine XS.icmpNo X0.here hx rfl (hb hby dI_43) rfl (by decide) ?_
    refine XS.aloadN X0.here hx rfl (hb hby dI_46) rfl rfl ?_
    refine XS.aloadN X0.here hx rfl (hb hby dI_47) rfl rfl ?_
    show sS p e below T0 m 48 #[rv ad, rv at_, rv rn, iv 3, iv x4, iv x5, iv 1, iv 0, iv 0] [(.ref rn), (.ref at_)] _
    refine XS.iload X0.here hx rfl (hb hby dI_48) rfl ?_
    refine own_ldI X0 hx hZ e0 V_n ⟨by decide, by decide⟩ (v := z0) rfl rfl rfl (hb hby dI_50) ?_
    refine own_ldI X0 hx hZ e0 V_t b_z0 (v := u0) e_z0 rfl rfl (hb hby dI_51) ?_
    refine XS.aloadN X0.here hx rfl (hb hby dI_52) rfl rfl ?_
    refine XS.aloadN X0.here hx rfl (hb hby dI_53) rfl rfl ?_
    refine XS.iload X0.here hx rfl (hb hby dI_54) rfl ?_
    show sS p e below T0 m 56 #[rv ad, rv at_, rv rn, iv 3, iv x4, iv x5, iv 1, iv 0, iv 0] [(.int (1 : Int32)), (.ref rn), (.ref at_), (.int u0)] _
    refine own_ldI X0 hx hZ e0 V_n ⟨by decide, by decide⟩ (v := z1) rfl rfl rfl (hb hby dI_56) ?_
    refine own_ldI X0 hx hZ e0 V_t b_z1 (v := u1) e_z1 rfl rfl (hb hby dI_57) ?_
    show sS p e below T0 m 58 #[rv ad, rv at_, rv rn, iv 3, iv x4, iv x5, iv 1, iv 0, iv 0] [(.int u1), (.int u0)] _
    refine sg_to_3_1_58_64 X0 hx hZ hw hby hown ?_
    show sS p e below T0 m 64 #[rv ad, rv at_, rv rn, iv 3, iv x4, iv x5, iv 1, .val (.int (own_cnt (0 : Int32) u0 u1)), iv 0] [] _
    refine XS.iinc X0.here hx rfl (hb hby dI_64) rfl (l' := #[rv ad, rv at_, rv rn, iv 3, iv x4, iv x5, iv 1, .val (.int (own_cnt (0 : Int32) u0 u1)), iv 1]) rfl ?_
    refine XS.goto X0.here hx rfl (pc0 := 67) (pc' := 40) rfl (hb hby dI_67) (by decide) (by decide) ?_
    refine XS.iload X0.here hx rfl (hb hby dI_40) rfl ?_
    refine XS.iloadN X0.here hx rfl (hb hby dI_42) rfl ?_
    refine XS.icmpNo X0.here hx rfl (hb hby dI_43) rfl (by decide) ?_
    refine XS.aloadN X0.here hx rfl (hb hby dI_46) rfl rfl ?_
    show sS p e below T0 m 47 #[rv ad, rv at_, rv rn, iv 3, iv x4, iv x5, iv 1, .val (.int (own_cnt (0 : Int32) u0 u1)), iv 1] [(.ref at_)] _
    refine XS.aloadN X0.here hx rfl (hb hby dI_47) rfl rfl ?_
    refine XS.iload X0.here hx rfl (hb hby dI_48) rfl ?_
    refine own_ldI X0 hx hZ e0 V_n ⟨by decide, by decide⟩ (v := z1) rfl rfl rfl (hb hby dI_50) ?_
    refine own_ldI X0 hx hZ e0 V_t b_z1 (v := u1) e_z1 rfl rfl (hb hby dI_51) ?_
    refine XS.aloadN X0.here hx rfl (hb hby dI_52) rfl rfl ?_
    refine XS.aloadN X0.here hx rfl (hb hby dI_53) rfl rfl ?_
    show sS p e below T0 m 54 #[rv ad, rv at_, rv rn, iv 3, iv x4, iv x5, iv 1, .val (.int (own_cnt (0 : Int32) u0 u1)), iv 1] [(.ref rn), (.ref at_), (.int u1)] _
    refine XS.iload X0.here hx rfl (hb hby dI_54) rfl ?_
    refine own_ldI X0 hx hZ e0 V_n ⟨by decide, by decide⟩ (v := z1) rfl rfl rfl (hb hby dI_56) ?_
    refine own_ldI X0 hx hZ e0 V_t b_z1 (v := u1) e_z1 rfl rfl (hb hby dI_57) ?_
    show sS p e below T0 m 58 #[rv ad, rv at_, rv rn, iv 3, iv x4, iv x5, iv 1, .val (.int (own_cnt (0 : Int32) u0 u1)), iv 1] [(.int u1), (.int u1)] _
    refine sg_to_3_1_58_64_1 X0 hx hZ hw hby hown ?_
    show sS p e below T0 m 64 #[rv ad, rv at_, rv rn, iv 3, iv x4, iv x5, iv 1, .val (.int (own_cnt (own_cnt (0 : Int32) u0 u1) u1 u1)), iv 1] [] _
    refine XS.iinc X0.here hx rfl (hb hby dI_64) rfl (l' := #[rv ad, rv at_, rv rn, iv 3, iv x4, iv x5, iv 1, .val (.int (own_cnt (own_cnt (0 : Int32) u0 u1) u1 u1)), iv 2]) rfl ?_
    refine XS.goto X0.here hx rfl (pc0 := 67) (pc' := 40) rfl (hb hby dI_67) (by decide) (by decide) ?_
    refine XS.iload X0.here hx rfl (hb hby dI_40) rfl ?_
    refine XS.iloadN X0.here hx rfl (hb hby dI_42) rfl ?_
    refine XS.icmpNo X0.here hx rfl (hb hby dI_43) rfl (by decide) ?_
    refine XS.aloadN X0.here hx rfl (hb hby dI_46) rfl rfl ?_
    show sS p e below T0 m 47 #[rv ad, rv at_, rv rn, iv 3, iv x4, iv x5, iv 1, .val (.int (own_cnt (own_cnt (0 : Int32) u0 u1) u1 u1)), iv 2] [(.ref at_)] _
    refine XS.aloadN X0.here hx rfl (hb hby dI_47) rfl rfl ?_
    refine XS.iload X0.here hx rfl (hb hby dI_48) rfl ?_
    refine own_ldI X0 hx hZ e0 V_n ⟨by decide, by decide⟩ (v := z2) rfl rfl rfl (hb hby dI_50) ?_
    refine own_ldI X0 hx hZ e0 V_t b_z2 (v := u2) e_z2 rfl rfl (hb hby dI_51) ?_
    refine XS.aloadN X0.here hx rfl (hb hby dI_52) rfl rfl ?_
    refine XS.aloadN X0.here hx rfl (hb hby dI_53) rfl rfl ?_
    show sS p e below T0 m 54 #[rv ad, rv at_, rv rn, iv 3, iv x4, iv x5, iv 1, .val (.int (own_cnt (own_cnt (0 : Int32) u0 u1) u1 u1)), iv 2] [(.ref rn), (.ref at_), (.int u2)] _
    refine XS.iload X0.here hx rfl (hb hby dI_54) rfl ?_
    refine own_ldI X0 hx hZ e0 V_n ⟨by decide, by decide⟩ (v := z1) rfl rfl rfl (hb hby dI_56) ?_
    refine own_ldI X0 hx hZ e0 V_t b_z1 (v := u1) e_z1 rfl rfl (hb hby dI_57) ?_
    show sS p e below T0 m 58 #[rv ad, rv at_, rv rn, iv 3, iv x4, iv x5, iv 1, .val (.int (own_cnt (own_cnt (0 : Int32) u0 u1) u1 u1)), iv 2] [(.int u1), (.int u2)] _
    refine sg_to_3_1_58_64_2 X0 hx hZ hw hby hown ?_
    show sS p e below T0 m 64 #[rv ad, rv at_, rv rn, iv 3, iv x4, iv x5, iv 1, .val (.int (own_cnt (own_cnt (own_cnt (0 : Int32) u0 u1) u1 u1) u2 u1)), iv 2] [] _
    refine XS.iinc X0.here hx rfl (hb hby dI_64) rfl (l' := #[rv ad, rv at_, rv rn, iv 3, iv x4, iv x5, iv 1, .val (.int (own_cnt (own_cnt (own_cnt (0 : Int32) u0 u1) u1 u1) u2 u1)), iv 3]) rfl ?_
    refine XS.goto X0.here hx rfl (pc0 := 67) (pc' := 40) rfl (hb hby dI_67) (by decide) (by decide) ?_
    refine XS.iload X0.here hx rfl (hb hby dI_40) rfl ?_
    refine XS.iloadN X0.here hx rfl (hb hby dI_42) rfl ?_
    refine XS.icmpYes X0.here hx rfl (pc0 := 43) (pc' := 70) rfl (hb hby dI_43) rfl (by decide) (by decide) (by decide) ?_
    refine XS.iload X0.here hx rfl (hb hby dI_70) rfl ?_
    show sS p e below T0 m 72 #[rv ad, rv at_, rv rn, iv 3, iv x4, iv x5, iv 1, .val (.int (own_cnt (own_cnt (own_cnt (0 : Int32) u0 u1) u1 u1) u2 u1)), iv 3] [(.int (own_cnt (own_cnt (own_cnt (0 : Int32) u0 u1) u1 u1) u2 u1))] _
    refine XS.iload X0.here hx rfl (hb hby dI_72) rfl ?_
    refine XS.icmpNo X0.here hx rfl (hb hby dI_74) rfl hc74 ?_
    refine XS.aloadN X0.here hx rfl (hb hby dI_77) rfl rfl ?_
    refine XS.aloadN X0.here hx rfl (hb hby dI_78) rfl rfl ?_
    refine XS.iload X0.here hx rfl (hb hby dI_79) rfl ?_
    refine own_ldI X0 hx hZ e0 V_n ⟨by decide, by decide⟩ (v := z1) rfl rfl rfl (hb hby dI_81) ?_
    show sS p e below T0 m 82 #[rv ad, rv at_, rv rn, iv 3, iv x4, iv x5, iv 1, .val (.int (own_cnt (own_cnt (own_cnt (0 : Int32) u0 u1) u1 u1) u2 u1)), iv 3] [(.int z1), (.ref at_)] _
    refine own_ldI X0 hx hZ e0 V_t b_z1 (v := u1) e_z1 rfl rfl (hb hby dI_82) ?_
    refine XS.istore X0.here hx rfl (hb hby dI_83) rfl (l' := #[rv ad, rv at_, rv rn, iv 3, iv u1, iv x5, iv 1, .val (.int (own_cnt (own_cnt (own_cnt (0 : Int32) u0 u1) u1 u1) u2 u1)), iv 3]) rfl ?_
    refine XS.iload X0.here hx rfl (hb hby dI_85) rfl ?_
    refine XS.istore X0.here hx rfl (hb hby dI_87) rfl (l' := #[rv ad, rv at_, rv rn, iv 3, iv u1, .val (.int (own_cnt (own_cnt (own_cnt (0 : Int32) u0 u1) u1 u1) u2 u1)), iv 1, .val (.int (own_cnt (own_cnt (own_cnt (0 : Int32) u0 u1) u1 u1) u2 u1)), iv 3]) rfl ?_
    refine XS.iinc X0.here hx rfl (hb hby dI_89) rfl (l' := #[rv ad, rv at_, rv rn, iv 3, iv u1, .val (.int (own_cnt (own_cnt (own_cnt (0 : Int32) u0 u1) u1 u1) u2 u1)), iv 2, .val (.int (own_cnt (own_cnt (own_cnt (0 : Int32) u0 u1) u1 u1) u2 u1)), iv 3]) rfl ?_
    refine XS.goto X0.here hx rfl (pc0 := 92) (pc' := 28) rfl (hb hby dI_92) (by decide) (by decide) ?_
    exact kt
set_option maxRecDepth 65536 in
set_option maxHeartbeats 4000000 in
theorem sg_to_3_2_58_64 {p : Program} {l : Launch} {e : Env} {R : Room} {s : State} {m : MethodId} {args : Array Value} {below : List Frame} {meth : Method} {c : Code} {T : State} {locs : List Loc} {cells slots : Nat} {Z : State} {a0 : Array Value} {target : State} {x0 : Addr} {x1 : Addr} {x2 : Addr} {x3 : Int32} {x4 : Int32} {x5 : Int32} {x6 : Int32} {x7 : Int32} {x8 : Int32} {y0 : Int32} {y1 : Int32} (X : Stand p l e R s m args below meth c T locs cells slots) (hx : p.tables.exec = Jvm.exec) (hZ : Z.Warmed39 s.vm) (hw : ∀ d ∈ tables_1, d.before a0 Z = true) (hby : c.code = prog_5_method_3_code) (hown : s.vm.findClass cN1 = some m.cls)
    (k : Steps p.tables e below (T.setTop (mkF m 64 #[rv x0, rv x1, rv x2, iv x3, iv x4, iv x5, iv x6, .val (.int (bif (if_icmp.holds .ne y1 y0) then x7 else (x7 + (1 : Int32)))), iv x8] [])) target) : Steps p.tables e below (T.setTop (mkF m 58 #[rv x0, rv x1, rv x2, iv x3, iv x4, iv x5, iv x6, iv x7, iv x8] [(.int y0), (.int y1)])) target := by
  show sS p e below T m 58 #[rv x0, rv x1, rv x2, iv x3, iv x4, iv x5, iv x6, iv x7, iv x8] [(.int y0), (.int y1)] _
  rcases Bool.eq_false_or_eq_true (if_icmp.holds .ne y1 y0) with hc1 | hc1
  · try rw [hc1] at k
    refine XS.icmpYes X.here hx rfl (pc0 := 58) (pc' := 64) rfl (hb hby dI_58) rfl hc1 (by decide) (by decide) ?_
    show sS p e below T m 64 #[rv x0, rv x1, rv x2, iv x3, iv x4, iv x5, iv x6, iv x7, iv x8] [] _
    exact k
  · try rw [hc1] at k
    refine XS.icmpNo X.here hx rfl (hb hby dI_58) rfl hc1 ?_
    show sS p e below T m 61 #[rv x0, rv x1, rv x2, iv x3, iv x4, iv x5, iv x6, iv x7, iv x8] [] _
    refine XS.iinc X.here hx rfl (hb hby dI_61) rfl (l' := #[rv x0, rv x1, rv x2, iv x3, iv x4, iv x5, iv x6, .val (.int (x7 + (1 : Int32))), iv x8]) rfl ?_
    exact k
set_option maxRecDepth 65536 in
set_option maxHeartbeats 4000000 in
theorem sg_to_3_2_58_64_1 {p : Program} {l : Launch} {e : Env} {R : Room} {s : State} {m : MethodId} {args : Array Value} {below : List Frame} {meth : Method} {c : Code} {T : State} {locs : List Loc} {cells slots : Nat} {Z : State} {a0 : Array Value} {target : State} {x0 : Addr} {x1 : Addr} {x2 : Addr} {x3 : Int32} {x4 : Int32} {x5 : Int32} {x6 : Int32} {x7 : Int32} {x8 : Int32} {y0 : Int32} {y1 : Int32} (X : Stand p l e R s m args below meth c T locs cells slots) (hx : p.tables.exec = Jvm.exec) (hZ : Z.Warmed39 s.vm) (hw : ∀ d ∈ tables_1, d.before a0 Z = true) (hby : c.code = prog_5_method_3_code) (hown : s.vm.findClass cN1 = some m.cls)
    (k : Steps p.tables e below (T.setTop (mkF m 64 #[rv x0, rv x1, rv x2, iv x3, iv x4, iv x5, iv x6, .val (.int (bif (if_icmp.holds .ne y1 y0) then x7 else (x7 + (1 : Int32)))), iv x8] [])) target) : Steps p.tables e below (T.setTop (mkF m 58 #[rv x0, rv x1, rv x2, iv x3, iv x4, iv x5, iv x6, iv x7, iv x8] [(.int y0), (.int y1)])) target := by
  show sS p e below T m 58 #[rv x0, rv x1, rv x2, iv x3, iv x4, iv x5, iv x6, iv x7, iv x8] [(.int y0), (.int y1)] _
  rcases Bool.eq_false_or_eq_true (if_icmp.holds .ne y1 y0) with hc1 | hc1
  · try rw [hc1] at k
    refine XS.icmpYes X.here hx rfl (pc0 := 58) (pc' := 64) rfl (hb hby dI_58) rfl hc1 (by decide) (by decide) ?_
    show sS p e below T m 64 #[rv x0, rv x1, rv x2, iv x3, iv x4, iv x5, iv x6, iv x7, iv x8] [] _
    exact k
  · try rw [hc1] at k
    refine XS.icmpNo X.here hx rfl (hb hby dI_58) rfl hc1 ?_
    show sS p e below T m 61 #[rv x0, rv x1, rv x2, iv x3, iv x4, iv x5, iv x6, iv x7, iv x8] [] _
    refine XS.iinc X.here hx rfl (hb hby dI_61) rfl (l' := #[rv x0, rv x1, rv x2, iv x3, iv x4, iv x5, iv x6, .val (.int (x7 + (1 : Int32))), iv x8]) rfl ?_
    exact k
set_option maxRecDepth 65536 in
set_option maxHeartbeats 4000000 in
theorem sg_to_3_2_58_64_2 {p : Program} {l : Launch} {e : Env} {R : Room} {s : State} {m : MethodId} {args : Array Value} {below : List Frame} {meth : Method} {c : Code} {T : State} {locs : List Loc} {cells slots : Nat} {Z : State} {a0 : Array Value} {target : State} {x0 : Addr} {x1 : Addr} {x2 : Addr} {x3 : Int32} {x4 : Int32} {x5 : Int32} {x6 : Int32} {x7 : Int32} {x8 : Int32} {y0 : Int32} {y1 : Int32} (X : Stand p l e R s m args below meth c T locs cells slots) (hx : p.tables.exec = Jvm.exec) (hZ : Z.Warmed39 s.vm) (hw : ∀ d ∈ tables_1, d.before a0 Z = true) (hby : c.code = prog_5_method_3_code) (hown : s.vm.findClass cN1 = some m.cls)
    (k : Steps p.tables e below (T.setTop (mkF m 64 #[rv x0, rv x1, rv x2, iv x3, iv x4, iv x5, iv x6, .val (.int (bif (if_icmp.holds .ne y1 y0) then x7 else (x7 + (1 : Int32)))), iv x8] [])) target) : Steps p.tables e below (T.setTop (mkF m 58 #[rv x0, rv x1, rv x2, iv x3, iv x4, iv x5, iv x6, iv x7, iv x8] [(.int y0), (.int y1)])) target := by
  show sS p e below T m 58 #[rv x0, rv x1, rv x2, iv x3, iv x4, iv x5, iv x6, iv x7, iv x8] [(.int y0), (.int y1)] _
  rcases Bool.eq_false_or_eq_true (if_icmp.holds .ne y1 y0) with hc1 | hc1
  · try rw [hc1] at k
    refine XS.icmpYes X.here hx rfl (pc0 := 58) (pc' := 64) rfl (hb hby dI_58) rfl hc1 (by decide) (by decide) ?_
    show sS p e below T m 64 #[rv x0, rv x1, rv x2, iv x3, iv x4, iv x5, iv x6, iv x7, iv x8] [] _
    exact k
  · try rw [hc1] at k
    refine XS.icmpNo X.here hx rfl (hb hby dI_58) rfl hc1 ?_
    show sS p e below T m 61 #[rv x0, rv x1, rv x2, iv x3, iv x4, iv x5, iv x6, iv x7, iv x8] [] _
    refine XS.iinc X.here hx rfl (hb hby dI_61) rfl (l' := #[rv x0, rv x1, rv x2, iv x3, iv x4, iv x5, iv x6, .val (.int (x7 + (1 : Int32))), iv x8]) rfl ?_
    exact k
set_option maxRecDepth 65536 in
set_option maxHeartbeats 40000000 in
theorem to_3_2 {p : Program} {l : Launch} {e : Env} {s : State} {m : MethodId} {args : Array Value} {below : List Frame} {meth : Method} {c : Code} {T0 : State} {locs : List Loc}  {Z : State} {a0 : Array Value} {h0 : Heap} {n0 : Nat} {ad at_ rn : Addr} {kt kn : ClassId} {nn u0 u1 u2 z0 z1 z2 x4 x5 x7 x8 : Int32} {vt : List Value} (X0 : Stand p l e ({ frames := 4, cells := 1, slots := 3, locals := 82 } : Room) s m args below meth c T0 locs 1 3) (hx : p.tables.exec = Jvm.exec) (hZ : Z.Warmed39 s.vm) (hw : ∀ d ∈ tables_1, d.before a0 Z = true) (hby : c.code = prog_5_method_3_code) (hml : c.maxLocals = 9) (hown : s.vm.findClass cN1 = some m.cls) (e0 : T0.heap = h0) (Z0 : n0 ≤ h0.size) (N0 : Fr n0 locs) (V_t : Arv Z h0 at_ kt .int nn vt (.int (0 : Int32))) (V_n : Arv Z h0 rn kn .int (3 : Int32) [(.int z0), (.int z1), (.int z2)] (.int (0 : Int32))) (b_z0 : (¬ z0 < 0 ∧ z0 < nn)) (e_z0 : vt.getD z0.toNatClampNeg (.int (0 : Int32)) = .int u0) (b_z1 : (¬ z1 < 0 ∧ z1 < nn)) (e_z1 : vt.getD z1.toNatClampNeg (.int (0 : Int32)) = .int u1) (b_z2 : (¬ z2 < 0 ∧ z2 < nn)) (e_z2 : vt.getD z2.toNatClampNeg (.int (0 : Int32)) = .int u2) :
    ∃ (T' : State) (h' : Heap) (L' : List Loc) (y4 y5 : Int32), Stand p l e ({ frames := 4, cells := 1, slots := 3, locals := 82 } : Room) s m args below meth c T' L' 1 3 ∧ T'.heap = h' ∧ Fr n0 L' ∧ h' = h0 ∧ y4 = own_b (own_cnt (own_cnt (own_cnt (0 : Int32) u0 u2) u1 u2) u2 u2) x5 x4 u2 ∧ y5 = own_c (own_cnt (own_cnt (own_cnt (0 : Int32) u0 u2) u1 u2) u2 u2) x5 ∧ ∀ target, Steps p.tables e below (T'.setTop (mkF m 28 #[rv ad, rv at_, rv rn, iv 3, iv y4, iv y5, iv 3, .val (.int (own_cnt (own_cnt (own_cnt (0 : Int32) u0 u2) u1 u2) u2 u2)), iv 3] [])) target → Steps p.tables e below (T0.setTop (mkF m 28 #[rv ad, rv at_, rv rn, iv 3, iv x4, iv x5, iv 2, iv x7, iv x8] [])) target := by
  rcases Bool.eq_false_or_eq_true (if_icmp.holds .le (own_cnt (own_cnt (own_cnt (0 : Int32) u0 u2) u1 u2) u2 u2) x5) with hc74 | hc74
  · refine ⟨T0, h0, _, x4, x5, X0, e0, N0, rfl, (by unfold own_b; rw [hc74]; rfl), (by unfold own_c; rw [hc74]; rfl), fun target kt => ?_⟩
    show sS p e below T0 m 28 #[rv ad, rv at_, rv rn, iv 3, iv x4, iv x5, iv 2, iv x7, iv x8] [] _
    refine XS.iload X0.here hx rfl (hb hby dI_28) rfl ?_
    refine XS.iloadN X0.here hx rfl (hb hby dI_30) rfl ?_
    refine XS.icmpNo X0.here hx rfl (hb hby dI_31) rfl (by decide) ?_
    refine XS.iconst X0.here hx rfl (hb hby dI_34) ?_
    refine XS.istore X0.here hx rfl (hb hby dI_35) rfl (l' := #[rv ad, rv at_, rv rn, iv 3, iv x4, iv x5, iv 2, iv 0, iv x8]) rfl ?_
    refine XS.iconst X0.here hx rfl (hb hby dI_37) ?_
    show sS p e below T0 m 38 #[rv ad, rv at_, rv rn, iv 3, iv x4, iv x5, iv 2, iv 0, iv x8] [(.int (0 : Int32))] _
    refine XS.istore X0.here hx rfl (hb hby dI_38) rfl (l' := #[rv ad, rv at_, rv rn, iv 3, iv x4, iv x5, iv 2, iv 0, iv 0]) rfl ?_
    refine XS.iload X0.here hx rfl (hb hby dI_40) rfl ?_
    refine XS.iloadN X0.here hx rfl (hb hby dI_42) rfl ?_
    refine XS.icmpNo X0.here hx rfl (hb hby dI_43) rfl (by decide) ?_
    refine XS.aloadN X0.here hx rfl (hb hby dI_46) rfl rfl ?_
    refine XS.aloadN X0.here hx rfl (hb hby dI_47) rfl rfl ?_
    show sS p e below T0 m 48 #[rv ad, rv at_, rv rn, iv 3, iv x4, iv x5, iv 2, iv 0, iv 0] [(.ref rn), (.ref at_)] _
    refine XS.iload X0.here hx rfl (hb hby dI_48) rfl ?_
    refine own_ldI X0 hx hZ e0 V_n ⟨by decide, by decide⟩ (v := z0) rfl rfl rfl (hb hby dI_50) ?_
    refine own_ldI X0 hx hZ e0 V_t b_z0 (v := u0) e_z0 rfl rfl (hb hby dI_51) ?_
    refine XS.aloadN X0.here hx rfl (hb hby dI_52) rfl rfl ?_
    refine XS.aloadN X0.here hx rfl (hb hby dI_53) rfl rfl ?_
    refine XS.iload X0.here hx rfl (hb hby dI_54) rfl ?_
    show sS p e below T0 m 56 #[rv ad, rv at_, rv rn, iv 3, iv x4, iv x5, iv 2, iv 0, iv 0] [(.int (2 : Int32)), (.ref rn), (.ref at_), (.int u0)] _
    refine own_ldI X0 hx hZ e0 V_n ⟨by decide, by decide⟩ (v := z2) rfl rfl rfl (hb hby dI_56) ?_
    refine own_ldI X0 hx hZ e0 V_t b_z2 (v := u2) e_z2 rfl rfl (hb hby dI_57) ?_
    show sS p e below T0 m 58 #[rv ad, rv at_, rv rn, iv 3, iv x4, iv x5, iv 2, iv 0, iv 0] [(.int u2), (.int u0)] _
    refine sg_to_3_2_58_64 X0 hx hZ hw hby hown ?_
    show sS p e below T0 m 64 #[rv ad, rv at_, rv rn, iv 3, iv x4, iv x5, iv 2, .val (.int (own_cnt (0 : Int32) u0 u2)), iv 0] [] _
    refine XS.iinc X0.here hx rfl (hb hby dI_64) rfl (l' := #[rv ad, rv at_, rv rn, iv 3, iv x4, iv x5, iv 2, .val (.int (own_cnt (0 : Int32) u0 u2)), iv 1]) rfl ?_
    refine XS.goto X0.here hx rfl (pc0 := 67) (pc' := 40) rfl (hb hby dI_67) (by decide) (by decide) ?_
    refine XS.iload X0.here hx rfl (hb hby dI_40) rfl ?_
    refine XS.iloadN X0.here hx rfl (hb hby dI_42) rfl ?_
    refine XS.icmpNo X0.here hx rfl (hb hby dI_43) rfl (by decide) ?_
    refine XS.aloadN X0.here hx rfl (hb hby dI_46) rfl rfl ?_
    show sS p e below T0 m 47 #[rv ad, rv at_, rv rn, iv 3, iv x4, iv x5, iv 2, .val (.int (own_cnt (0 : Int32) u0 u2)), iv 1] [(.ref at_)] _
    refine XS.aloadN X0.here hx rfl (hb hby dI_47) rfl rfl ?_
    refine XS.iload X0.here hx rfl (hb hby dI_48) rfl ?_
    refine own_ldI X0 hx hZ e0 V_n ⟨by decide, by decide⟩ (v := z1) rfl rfl rfl (hb hby dI_50) ?_
    refine own_ldI X0 hx hZ e0 V_t b_z1 (v := u1) e_z1 rfl rfl (hb hby dI_51) ?_
    refine XS.aloadN X0.here hx rfl (hb hby dI_52) rfl rfl ?_
    refine XS.aloadN X0.here hx rfl (hb hby dI_53) rfl rfl ?_
    show sS p e below T0 m 54 #[rv ad, rv at_, rv rn, iv 3, iv x4, iv x5, iv 2, .val (.int (own_cnt (0 : Int32) u0 u2)), iv 1] [(.ref rn), (.ref at_), (.int u1)] _
    refine XS.iload X0.here hx rfl (hb hby dI_54) rfl ?_
    refine own_ldI X0 hx hZ e0 V_n ⟨by decide, by decide⟩ (v := z2) rfl rfl rfl (hb hby dI_56) ?_
    refine own_ldI X0 hx hZ e0 V_t b_z2 (v := u2) e_z2 rfl rfl (hb hby dI_57) ?_
    show sS p e below T0 m 58 #[rv ad, rv at_, rv rn, iv 3, iv x4, iv x5, iv 2, .val (.int (own_cnt (0 : Int32) u0 u2)), iv 1] [(.int u2), (.int u1)] _
    refine sg_to_3_2_58_64_1 X0 hx hZ hw hby hown ?_
    show sS p e below T0 m 64 #[rv ad, rv at_, rv rn, iv 3, iv x4, iv x5, iv 2, .val (.int (own_cnt (own_cnt (0 : Int32) u0 u2) u1 u2)), iv 1] [] _
    refine XS.iinc X0.here hx rfl (hb hby dI_64) rfl (l' := #[rv ad, rv at_, rv rn, iv 3, iv x4, iv x5, iv 2, .val (.int (own_cnt (own_cnt (0 : Int32) u0 u2) u1 u2)), iv 2]) rfl ?_
    refine XS.goto X0.here hx rfl (pc0 := 67) (pc' := 40) rfl (hb hby dI_67) (by decide) (by decide) ?_
    refine XS.iload X0.here hx rfl (hb hby dI_40) rfl ?_
    refine XS.iloadN X0.here hx rfl (hb hby dI_42) rfl ?_
    refine XS.icmpNo X0.here hx rfl (hb hby dI_43) rfl (by decide) ?_
    refine XS.aloadN X0.here hx rfl (hb hby dI_46) rfl rfl ?_
    show sS p e below T0 m 47 #[rv ad, rv at_, rv rn, iv 3, iv x4, iv x5, iv 2, .val (.int (own_cnt (own_cnt (0 : Int32) u0 u2) u1 u2)), iv 2] [(.ref at_)] _
    refine XS.aloadN X0.here hx rfl (hb hby dI_47) rfl rfl ?_
    refine XS.iload X0.here hx rfl (hb hby dI_48) rfl ?_
    refine own_ldI X0 hx hZ e0 V_n ⟨by decide, by decide⟩ (v := z2) rfl rfl rfl (hb hby dI_50) ?_
    refine own_ldI X0 hx hZ e0 V_t b_z2 (v := u2) e_z2 rfl rfl (hb hby dI_51) ?_
    refine XS.aloadN X0.here hx rfl (hb hby dI_52) rfl rfl ?_
    refine XS.aloadN X0.here hx rfl (hb hby dI_53) rfl rfl ?_
    show sS p e below T0 m 54 #[rv ad, rv at_, rv rn, iv 3, iv x4, iv x5, iv 2, .val (.int (own_cnt (own_cnt (0 : Int32) u0 u2) u1 u2)), iv 2] [(.ref rn), (.ref at_), (.int u2)] _
    refine XS.iload X0.here hx rfl (hb hby dI_54) rfl ?_
    refine own_ldI X0 hx hZ e0 V_n ⟨by decide, by decide⟩ (v := z2) rfl rfl rfl (hb hby dI_56) ?_
    refine own_ldI X0 hx hZ e0 V_t b_z2 (v := u2) e_z2 rfl rfl (hb hby dI_57) ?_
    show sS p e below T0 m 58 #[rv ad, rv at_, rv rn, iv 3, iv x4, iv x5, iv 2, .val (.int (own_cnt (own_cnt (0 : Int32) u0 u2) u1 u2)), iv 2] [(.int u2), (.int u2)] _
    refine sg_to_3_2_58_64_2 X0 hx hZ hw hby hown ?_
    show sS p e below T0 m 64 #[rv ad, rv at_, rv rn, iv 3, iv x4, iv x5, iv 2, .val (.int (own_cnt (own_cnt (own_cnt (0 : Int32) u0 u2) u1 u2) u2 u2)), iv 2] [] _
    refine XS.iinc X0.here hx rfl (hb hby dI_64) rfl (l' := #[rv ad, rv at_, rv rn, iv 3, iv x4, iv x5, iv 2, .val (.int (own_cnt (own_cnt (own_cnt (0 : Int32) u0 u2) u1 u2) u2 u2)), iv 3]) rfl ?_
    refine XS.goto X0.here hx rfl (pc0 := 67) (pc' := 40) rfl (hb hby dI_67) (by decide) (by decide) ?_
    refine XS.iload X0.here hx rfl (hb hby dI_40) rfl ?_
    refine XS.iloadN X0.here hx rfl (hb hby dI_42) rfl ?_
    refine XS.icmpYes X0.here hx rfl (pc0 := 43) (pc' := 70) rfl (hb hby dI_43) rfl (by decide) (by decide) (by decide) ?_
    refine XS.iload X0.here hx rfl (hb hby dI_70) rfl ?_
    show sS p e below T0 m 72 #[rv ad, rv at_, rv rn, iv 3, iv x4, iv x5, iv 2, .val (.int (own_cnt (own_cnt (own_cnt (0 : Int32) u0 u2) u1 u2) u2 u2)), iv 3] [(.int (own_cnt (own_cnt (own_cnt (0 : Int32) u0 u2) u1 u2) u2 u2))] _
    refine XS.iload X0.here hx rfl (hb hby dI_72) rfl ?_
    refine XS.icmpYes X0.here hx rfl (pc0 := 74) (pc' := 89) rfl (hb hby dI_74) rfl hc74 (by decide) (by decide) ?_
    refine XS.iinc X0.here hx rfl (hb hby dI_89) rfl (l' := #[rv ad, rv at_, rv rn, iv 3, iv x4, iv x5, iv 3, .val (.int (own_cnt (own_cnt (own_cnt (0 : Int32) u0 u2) u1 u2) u2 u2)), iv 3]) rfl ?_
    refine XS.goto X0.here hx rfl (pc0 := 92) (pc' := 28) rfl (hb hby dI_92) (by decide) (by decide) ?_
    exact kt
  · refine ⟨T0, h0, _, u2, (own_cnt (own_cnt (own_cnt (0 : Int32) u0 u2) u1 u2) u2 u2), X0, e0, N0, rfl, (by unfold own_b; rw [hc74]; rfl), (by unfold own_c; rw [hc74]; rfl), fun target kt => ?_⟩
    show sS p e below T0 m 28 #[rv ad, rv at_, rv rn, iv 3, iv x4, iv x5, iv 2, iv x7, iv x8] [] _
    refine XS.iload X0.here hx rfl (hb hby dI_28) rfl ?_
    refine XS.iloadN X0.here hx rfl (hb hby dI_30) rfl ?_
    refine XS.icmpNo X0.here hx rfl (hb hby dI_31) rfl (by decide) ?_
    refine XS.iconst X0.here hx rfl (hb hby dI_34) ?_
    refine XS.istore X0.here hx rfl (hb hby dI_35) rfl (l' := #[rv ad, rv at_, rv rn, iv 3, iv x4, iv x5, iv 2, iv 0, iv x8]) rfl ?_
    refine XS.iconst X0.here hx rfl (hb hby dI_37) ?_
    show sS p e below T0 m 38 #[rv ad, rv at_, rv rn, iv 3, iv x4, iv x5, iv 2, iv 0, iv x8] [(.int (0 : Int32))] _
    refine XS.istore X0.here hx rfl (hb hby dI_38) rfl (l' := #[rv ad, rv at_, rv rn, iv 3, iv x4, iv x5, iv 2, iv 0, iv 0]) rfl ?_
    refine XS.iload X0.here hx rfl (hb hby dI_40) rfl ?_
    refine XS.iloadN X0.here hx rfl (hb hby dI_42) rfl ?_
    refine XS.icmpNo X0.here hx rfl (hb hby dI_43) rfl (by decide) ?_
    refine XS.aloadN X0.here hx rfl (hb hby dI_46) rfl rfl ?_
    refine XS.aloadN X0.here hx rfl (hb hby dI_47) rfl rfl ?_
    show sS p e below T0 m 48 #[rv ad, rv at_, rv rn, iv 3, iv x4, iv x5, iv 2, iv 0, iv 0] [(.ref rn), (.ref at_)] _
    refine XS.iload X0.here hx rfl (hb hby dI_48) rfl ?_
    refine own_ldI X0 hx hZ e0 V_n ⟨by decide, by decide⟩ (v := z0) rfl rfl rfl (hb hby dI_50) ?_
    refine own_ldI X0 hx hZ e0 V_t b_z0 (v := u0) e_z0 rfl rfl (hb hby dI_51) ?_
    refine XS.aloadN X0.here hx rfl (hb hby dI_52) rfl rfl ?_
    refine XS.aloadN X0.here hx rfl (hb hby dI_53) rfl rfl ?_
    refine XS.iload X0.here hx rfl (hb hby dI_54) rfl ?_
    show sS p e below T0 m 56 #[rv ad, rv at_, rv rn, iv 3, iv x4, iv x5, iv 2, iv 0, iv 0] [(.int (2 : Int32)), (.ref rn), (.ref at_), (.int u0)] _
    refine own_ldI X0 hx hZ e0 V_n ⟨by decide, by decide⟩ (v := z2) rfl rfl rfl (hb hby dI_56) ?_
    refine own_ldI X0 hx hZ e0 V_t b_z2 (v := u2) e_z2 rfl rfl (hb hby dI_57) ?_
    show sS p e below T0 m 58 #[rv ad, rv at_, rv rn, iv 3, iv x4, iv x5, iv 2, iv 0, iv 0] [(.int u2), (.int u0)] _
    refine sg_to_3_2_58_64 X0 hx hZ hw hby hown ?_
    show sS p e below T0 m 64 #[rv ad, rv at_, rv rn, iv 3, iv x4, iv x5, iv 2, .val (.int (own_cnt (0 : Int32) u0 u2)), iv 0] [] _
    refine XS.iinc X0.here hx rfl (hb hby dI_64) rfl (l' := #[rv ad, rv at_, rv rn, iv 3, iv x4, iv x5, iv 2, .val (.int (own_cnt (0 : Int32) u0 u2)), iv 1]) rfl ?_
    refine XS.goto X0.here hx rfl (pc0 := 67) (pc' := 40) rfl (hb hby dI_67) (by decide) (by decide) ?_
    refine XS.iload X0.here hx rfl (hb hby dI_40) rfl ?_
    refine XS.iloadN X0.here hx rfl (hb hby dI_42) rfl ?_
    refine XS.icmpNo X0.here hx rfl (hb hby dI_43) rfl (by decide) ?_
    refine XS.aloadN X0.here hx rfl (hb hby dI_46) rfl rfl ?_
    show sS p e below T0 m 47 #[rv ad, rv at_, rv rn, iv 3, iv x4, iv x5, iv 2, .val (.int (own_cnt (0 : Int32) u0 u2)), iv 1] [(.ref at_)] _
    refine XS.aloadN X0.here hx rfl (hb hby dI_47) rfl rfl ?_
    refine XS.iload X0.here hx rfl (hb hby dI_48) rfl ?_
    refine own_ldI X0 hx hZ e0 V_n ⟨by decide, by decide⟩ (v := z1) rfl rfl rfl (hb hby dI_50) ?_
    refine own_ldI X0 hx hZ e0 V_t b_z1 (v := u1) e_z1 rfl rfl (hb hby dI_51) ?_
    refine XS.aloadN X0.here hx rfl (hb hby dI_52) rfl rfl ?_
    refine XS.aloadN X0.here hx rfl (hb hby dI_53) rfl rfl ?_
    show sS p e below T0 m 54 #[rv ad, rv at_, rv rn, iv 3, iv x4, iv x5, iv 2, .val (.int (own_cnt (0 : Int32) u0 u2)), iv 1] [(.ref rn), (.ref at_), (.int u1)] _
    refine XS.iload X0.here hx rfl (hb hby dI_54) rfl ?_
    refine own_ldI X0 hx hZ e0 V_n ⟨by decide, by decide⟩ (v := z2) rfl rfl rfl (hb hby dI_56) ?_
    refine own_ldI X0 hx hZ e0 V_t b_z2 (v := u2) e_z2 rfl rfl (hb hby dI_57) ?_
    show sS p e below T0 m 58 #[rv ad, rv at_, rv rn, iv 3, iv x4, iv x5, iv 2, .val (.int (own_cnt (0 : Int32) u0 u2)), iv 1] [(.int u2), (.int u1)] _
    refine sg_to_3_2_58_64_1 X0 hx hZ hw hby hown ?_
    show sS p e below T0 m 64 #[rv ad, rv at_, rv rn, iv 3, iv x4, iv x5, iv 2, .val (.int (own_cnt (own_cnt (0 : Int32) u0 u2) u1 u2)), iv 1] [] _
    refine XS.iinc X0.here hx rfl (hb hby dI_64) rfl (l' := #[rv ad, rv at_, rv rn, iv 3, iv x4, iv x5, iv 2, .val (.int (own_cnt (own_cnt (0 : Int32) u0 u2) u1 u2)), iv 2]) rfl ?_
    refine XS.goto X0.here hx rfl (pc0 := 67) (pc' := 40) rfl (hb hby dI_67) (by decide) (by decide) ?_
    refine XS.iload X0.here hx rfl (hb hby dI_40) rfl ?_
    refine XS.iloadN X0.here hx rfl (hb hby dI_42) rfl ?_
    refine XS.icmpNo X0.here hx rfl (hb hby dI_43) rfl (by decide) ?_
    refine XS.aloadN X0.here hx rfl (hb hby dI_46) rfl rfl ?_
    show sS p e below T0 m 47 #[rv ad, rv at_, rv rn, iv 3, iv x4, iv x5, iv 2, .val (.int (own_cnt (own_cnt (0 : Int32) u0 u2) u1 u2)), iv 2] [(.ref at_)] _
    refine XS.aloadN X0.here hx rfl (hb hby dI_47) rfl rfl ?_
    refine XS.iload X0.here hx rfl (hb hby dI_48) rfl ?_
    refine own_ldI X0 hx hZ e0 V_n ⟨by decide, by decide⟩ (v := z2) rfl rfl rfl (hb hby dI_50) ?_
    refine own_ldI X0 hx hZ e0 V_t b_z2 (v := u2) e_z2 rfl rfl (hb hby dI_51) ?_
    refine XS.aloadN X0.here hx rfl (hb hby dI_52) rfl rfl ?_
    refine XS.aloadN X0.here hx rfl (hb hby dI_53) rfl rfl ?_
    show sS p e below T0 m 54 #[rv ad, rv at_, rv rn, iv 3, iv x4, iv x5, iv 2, .val (.int (own_cnt (own_cnt (0 : Int32) u0 u2) u1 u2)), iv 2] [(.ref rn), (.ref at_), (.int u2)] _
    refine XS.iload X0.here hx rfl (hb hby dI_54) rfl ?_
    refine own_ldI X0 hx hZ e0 V_n ⟨by decide, by decide⟩ (v := z2) rfl rfl rfl (hb hby dI_56) ?_
    refine own_ldI X0 hx hZ e0 V_t b_z2 (v := u2) e_z2 rfl rfl (hb hby dI_57) ?_
    show sS p e below T0 m 58 #[rv ad, rv at_, rv rn, iv 3, iv x4, iv x5, iv 2, .val (.int (own_cnt (own_cnt (0 : Int32) u0 u2) u1 u2)), iv 2] [(.int u2), (.int u2)] _
    refine sg_to_3_2_58_64_2 X0 hx hZ hw hby hown ?_
    show sS p e below T0 m 64 #[rv ad, rv at_, rv rn, iv 3, iv x4, iv x5, iv 2, .val (.int (own_cnt (own_cnt (own_cnt (0 : Int32) u0 u2) u1 u2) u2 u2)), iv 2] [] _
    refine XS.iinc X0.here hx rfl (hb hby dI_64) rfl (l' := #[rv ad, rv at_, rv rn, iv 3, iv x4, iv x5, iv 2, .val (.int (own_cnt (own_cnt (own_cnt (0 : Int32) u0 u2) u1 u2) u2 u2)), iv 3]) rfl ?_
    refine XS.goto X0.here hx rfl (pc0 := 67) (pc' := 40) rfl (hb hby dI_67) (by decide) (by decide) ?_
    refine XS.iload X0.here hx rfl (hb hby dI_40) rfl ?_
    refine XS.iloadN X0.here hx rfl (hb hby dI_42) rfl ?_
    refine XS.icmpYes X0.here hx rfl (pc0 := 43) (pc' := 70) rfl (hb hby dI_43) rfl (by decide) (by decide) (by decide) ?_
    refine XS.iload X0.here hx rfl (hb hby dI_70) rfl ?_
    show sS p e below T0 m 72 #[rv ad, rv at_, rv rn, iv 3, iv x4, iv x5, iv 2, .val (.int (own_cnt (own_cnt (own_cnt (0 : Int32) u0 u2) u1 u2) u2 u2)), iv 3] [(.int (own_cnt (own_cnt (own_cnt (0 : Int32) u0 u2) u1 u2) u2 u2))] _
    refine XS.iload X0.here hx rfl (hb hby dI_72) rfl ?_
    refine XS.icmpNo X0.here hx rfl (hb hby dI_74) rfl hc74 ?_
    refine XS.aloadN X0.here hx rfl (hb hby dI_77) rfl rfl ?_
    refine XS.aloadN X0.here hx rfl (hb hby dI_78) rfl rfl ?_
    refine XS.iload X0.here hx rfl (hb hby dI_79) rfl ?_
    refine own_ldI X0 hx hZ e0 V_n ⟨by decide, by decide⟩ (v := z2) rfl rfl rfl (hb hby dI_81) ?_
    show sS p e below T0 m 82 #[rv ad, rv at_, rv rn, iv 3, iv x4, iv x5, iv 2, .val (.int (own_cnt (own_cnt (own_cnt (0 : Int32) u0 u2) u1 u2) u2 u2)), iv 3] [(.int z2), (.ref at_)] _
    refine own_ldI X0 hx hZ e0 V_t b_z2 (v := u2) e_z2 rfl rfl (hb hby dI_82) ?_
    refine XS.istore X0.here hx rfl (hb hby dI_83) rfl (l' := #[rv ad, rv at_, rv rn, iv 3, iv u2, iv x5, iv 2, .val (.int (own_cnt (own_cnt (own_cnt (0 : Int32) u0 u2) u1 u2) u2 u2)), iv 3]) rfl ?_
    refine XS.iload X0.here hx rfl (hb hby dI_85) rfl ?_
    refine XS.istore X0.here hx rfl (hb hby dI_87) rfl (l' := #[rv ad, rv at_, rv rn, iv 3, iv u2, .val (.int (own_cnt (own_cnt (own_cnt (0 : Int32) u0 u2) u1 u2) u2 u2)), iv 2, .val (.int (own_cnt (own_cnt (own_cnt (0 : Int32) u0 u2) u1 u2) u2 u2)), iv 3]) rfl ?_
    refine XS.iinc X0.here hx rfl (hb hby dI_89) rfl (l' := #[rv ad, rv at_, rv rn, iv 3, iv u2, .val (.int (own_cnt (own_cnt (own_cnt (0 : Int32) u0 u2) u1 u2) u2 u2)), iv 3, .val (.int (own_cnt (own_cnt (own_cnt (0 : Int32) u0 u2) u1 u2) u2 u2)), iv 3]) rfl ?_
    refine XS.goto X0.here hx rfl (pc0 := 92) (pc' := 28) rfl (hb hby dI_92) (by decide) (by decide) ?_
    exact kt
theorem pd_6 : parseMethodDescriptor "([DI)[I" = some ⟨[(.array .double), .int], some (.array .int)⟩ := by decide +kernel
theorem ef_tb0 (m : MethodId) (x0 : Addr) (x1 : Addr) : entryFrame m #[(.ref x0), (.ref x1)] 9 = mkF m 0 #[rv x0, rv x1, .unset, .unset, .unset, .unset, .unset, .unset, .unset] [] := by first | (simp [entryFrame, mkF, argsToLocals, Value.category]; done) | rfl
def Qtb0 (Z : State) (ad : Addr) (kd : ClassId) (at_ : Addr) (kt : ClassId) (h0 : Heap) (n0 : Nat) (v : Option Value) (h : Heap) (L : List Loc) : Prop := v = some (.int own_res0) ∧ Fr n0 L ∧ Keep h0 h []
set_option maxRecDepth 65536 in
set_option maxHeartbeats 40000000 in
theorem rmtb0 (l : Launch) (Z : State) (a0 : Array Value) (hw : ∀ d ∈ tables_1, d.before a0 Z = true) (ws : List Jvm.Cond) (ad : Addr) (kd : ClassId) (at_ : Addr) (kt : ClassId) (h0 : Heap) (n0 : Nat) (Z0 : n0 ≤ h0.size) (V_d : Arv Z h0 ad kd .double (0 : Int32) [] (.double (0 : UInt64))) (V_t : Arv Z h0 at_ kt .int (0 : Int32) [] (.int (0 : Int32))) :
    MetFree l (⟨cN1, "typeByNeighbours", "([D[I)I"⟩ : MethodName) (head1 (Jvm.Cond.code (⟨cN1, "typeByNeighbours", "([D[I)I"⟩ : MethodName) prog_5_method_3_code 9 (some .int) :: ws) ({ frames := 4, cells := 1, slots := 0, locals := 82 } : Room)) (fun a U => a = #[(.ref ad), (.ref at_)] ∧ Z.Warmed39 U.vm ∧ U.heap = h0) (fun _ _ _ _ _ => True) (fun _ U o U' => ∃ v L, o = .returned v ∧ Qtb0 Z ad kd at_ kt h0 n0 v U'.heap L ∧ FrameEnd U o U' L ({ frames := 4, cells := 1, slots := 0, locals := 82 } : Room).cells ({ frames := 4, cells := 1, slots := 0, locals := 82 } : Room).slots) := by
  refine MetFree.of_bodySF (plainFor_of_name pn_2) hisR ?_
  intro p e s m args below meth c s₁ Bd hml0 hP hK
  obtain ⟨rfl, hZ, hh⟩ := hP
  have hx := Bd.exec
  have hby := Bd.bytes
  have hml : c.maxLocals = 9 := hml0
  have hown : s.vm.findClass cN1 = some m.cls := findClass_of_methodNamed Bd.named
  have hnm := (name_of_methodNamed Bd.named Bd.method).1
  have X0 : Stand p l e ({ frames := 4, cells := 1, slots := 0, locals := 82 } : Room) s m #[(.ref ad), (.ref at_)] below meth c s₁ [] 0 0 := Stand.of_body Bd
  have e0 : s₁.heap = h0 := by rw [← hh, Bd.state]; rfl
  have N0 := Fr.nil n0
  have pre0 : ∀ t, Steps p.tables e below (s₁.setTop (mkF m 0 #[rv ad, rv at_, .unset, .unset, .unset, .unset, .unset, .unset, .unset] [])) t → Steps p.tables e below (s₁.setTop (entryFrame m #[(.ref ad), (.ref at_)] 9)) t := fun t k => castTop (ef_tb0 m ad at_) k
  obtain ⟨_, _, ⟨T1, L1, k1, n1⟩, -, X1, ⟨Lc1, hQ1, l1, y1, z1⟩, st1⟩ := Jvm.LawKit.callS X0 hx (y := ⟨cN1, "nearest", "([DI)[I"⟩) hown (mvT hZ (wK hw (i := 7) rfl)) (mvT hZ (wK hw (i := 8) rfl)) (mvT hZ (wK hw (i := 5) rfl)) (mvT hZ (wK hw (i := 9) rfl)) (by decide) (backOf (W := 0) (rmne0 l Z a0 hw [] ad kd h0 n0 Z0 V_d) hZ (wK hw (i := 9) rfl) (wK hw (i := 5) rfl) (by decide) (by decide)) (g := (mkF m 2 #[rv ad, rv at_, .unset, .unset, .unset, .unset, .unset, .unset, .unset] [(.int (3 : Int32)), (.ref ad)])) rfl (by rw [hml]; rfl) (argsL := [(.ref ad), (.int (3 : Int32))]) (rest := []) (lenOf pd_6 rfl) rfl (Nat.le_of_eq rfl) (hb hby dI_2) (fun _ _ => ⟨rfl, e0, (by decide : 0 + 1 ≤ _), (by decide : 0 + 0 ≤ _)⟩)
  dsimp only [Pt.U, Pt.locs, Pt.cells, Pt.slots] at X1 l1 y1 z1 st1 hQ1
  subst l1 y1 z1
  obtain ⟨r1, kb1, rfl, N1q, K1, g1, V1, hq⟩ := hQ1
  have N1 := Fr.app N0 N1q
  obtain ⟨fs, hr, hrun, hended, hW, hsame⟩ := X1.leave (v := some (.int (0 : Int32))) (fun h => by rw [Bd.returns] at h; cases h)
  refine ⟨_, _, pre0 _ ?_, hrun, hended, _, _, rfl, ?_, ⟨_, rfl⟩, hW, hsame.mono (by decide) (by decide)⟩
  · show sS p e below s₁ m 0 #[rv ad, rv at_, .unset, .unset, .unset, .unset, .unset, .unset, .unset] [] _
    refine XS.aloadN X0.here hx rfl (hb hby dI_0) rfl rfl ?_
    refine XS.iconst X0.here hx rfl (hb hby dI_1) ?_
    show sS p e below s₁ m 2 #[rv ad, rv at_, .unset, .unset, .unset, .unset, .unset, .unset, .unset] [(.int (3 : Int32)), (.ref ad)] _
    refine st1 _ ?_
    show sS p e below T1 m 5 #[rv ad, rv at_, .unset, .unset, .unset, .unset, .unset, .unset, .unset] [(.ref r1)] _
    refine XS.astoreN X1.here hx rfl (hb hby dI_5) rfl rfl (l' := #[rv ad, rv at_, rv r1, .unset, .unset, .unset, .unset, .unset, .unset]) rfl ?_
    refine XS.aloadN X1.here hx rfl (hb hby dI_6) rfl rfl ?_
    refine own_len X1 hx hZ rfl V1 rfl rfl (hb hby dI_7) ?_
    refine XS.istoreN X1.here hx rfl (hb hby dI_8) rfl (l' := #[rv ad, rv at_, rv r1, iv 0, .unset, .unset, .unset, .unset, .unset]) rfl ?_
    refine XS.iloadN X1.here hx rfl (hb hby dI_9) rfl ?_
    refine XS.ifNo X1.here hx rfl (hb hby dI_10) rfl (by decide) ?_
    show sS p e below T1 m 13 #[rv ad, rv at_, rv r1, iv 0, .unset, .unset, .unset, .unset, .unset] [] _
    refine XS.iconst X1.here hx rfl (hb hby dI_13) ?_
    show sS p e below T1 m 14 #[rv ad, rv at_, rv r1, iv 0, .unset, .unset, .unset, .unset, .unset] [(.int (0 : Int32))] _
    exact retI X1 hx Bd.returns (hb hby dI_14) hr
  · show Qtb0 Z ad kd at_ kt h0 n0 _ T1.heap _
    exact ⟨rfl, N1, ((Keep.refl h0 []).trans K1 all0)⟩
theorem ef_tb1 (m : MethodId) (x0 : Addr) (x1 : Addr) : entryFrame m #[(.ref x0), (.ref x1)] 9 = mkF m 0 #[rv x0, rv x1, .unset, .unset, .unset, .unset, .unset, .unset, .unset] [] := by first | (simp [entryFrame, mkF, argsToLocals, Value.category]; done) | rfl
def Qtb1 (Z : State) (ad : Addr) (kd : ClassId) (at_ : Addr) (kt : ClassId) (d0 t0 : Int32) (h0 : Heap) (n0 : Nat) (v : Option Value) (h : Heap) (L : List Loc) : Prop := v = some (.int (own_res1 d0 t0)) ∧ Fr n0 L ∧ Keep h0 h []
set_option maxRecDepth 65536 in
set_option maxHeartbeats 40000000 in
theorem rmtb1 (l : Launch) (Z : State) (a0 : Array Value) (hw : ∀ d ∈ tables_1, d.before a0 Z = true) (ws : List Jvm.Cond) (ad : Addr) (kd : ClassId) (at_ : Addr) (kt : ClassId) (d0 t0 : Int32) (h0 : Heap) (n0 : Nat) (Z0 : n0 ≤ h0.size) (V_d : Arv Z h0 ad kd .double (1 : Int32) [(.double (FP.i2d d0))] (.double (0 : UInt64))) (V_t : Arv Z h0 at_ kt .int (1 : Int32) [(.int t0)] (.int (0 : Int32))) :
    MetFree l (⟨cN1, "typeByNeighbours", "([D[I)I"⟩ : MethodName) (head1 (Jvm.Cond.code (⟨cN1, "typeByNeighbours", "([D[I)I"⟩ : MethodName) prog_5_method_3_code 9 (some .int) :: ws) ({ frames := 4, cells := 1, slots := 1, locals := 82 } : Room)) (fun a U => a = #[(.ref ad), (.ref at_)] ∧ Z.Warmed39 U.vm ∧ U.heap = h0) (fun _ _ _ _ _ => True) (fun _ U o U' => ∃ v L, o = .returned v ∧ Qtb1 Z ad kd at_ kt d0 t0 h0 n0 v U'.heap L ∧ FrameEnd U o U' L ({ frames := 4, cells := 1, slots := 1, locals := 82 } : Room).cells ({ frames := 4, cells := 1, slots := 1, locals := 82 } : Room).slots) := by
  refine MetFree.of_bodySF (plainFor_of_name pn_2) hisR ?_
  intro p e s m args below meth c s₁ Bd hml0 hP hK
  obtain ⟨rfl, hZ, hh⟩ := hP
  have hx := Bd.exec
  have hby := Bd.bytes
  have hml : c.maxLocals = 9 := hml0
  have hown : s.vm.findClass cN1 = some m.cls := findClass_of_methodNamed Bd.named
  have hnm := (name_of_methodNamed Bd.named Bd.method).1
  have X0 : Stand p l e ({ frames := 4, cells := 1, slots := 1, locals := 82 } : Room) s m #[(.ref ad), (.ref at_)] below meth c s₁ [] 0 0 := Stand.of_body Bd
  have e0 : s₁.heap = h0 := by rw [← hh, Bd.state]; rfl
  have N0 := Fr.nil n0
  have pre0 : ∀ t, Steps p.tables e below (s₁.setTop (mkF m 0 #[rv ad, rv at_, .unset, .unset, .unset, .unset, .unset, .unset, .unset] [])) t → Steps p.tables e below (s₁.setTop (entryFrame m #[(.ref ad), (.ref at_)] 9)) t := fun t k => castTop (ef_tb1 m ad at_) k
  obtain ⟨_, _, ⟨T1, L1, k1, n1⟩, -, X1, ⟨Lc1, hQ1, l1, y1, z1⟩, st1⟩ := Jvm.LawKit.callS X0 hx (y := ⟨cN1, "nearest", "([DI)[I"⟩) hown (mvT hZ (wK hw (i := 7) rfl)) (mvT hZ (wK hw (i := 8) rfl)) (mvT hZ (wK hw (i := 5) rfl)) (mvT hZ (wK hw (i := 9) rfl)) (by decide) (backOf (W := 0) (rmne1 l Z a0 hw [] ad kd d0 h0 n0 Z0 V_d) hZ (wK hw (i := 9) rfl) (wK hw (i := 5) rfl) (by decide) (by decide)) (g := (mkF m 2 #[rv ad, rv at_, .unset, .unset, .unset, .unset, .unset, .unset, .unset] [(.int (3 : Int32)), (.ref ad)])) rfl (by rw [hml]; rfl) (argsL := [(.ref ad), (.int (3 : Int32))]) (rest := []) (lenOf pd_6 rfl) rfl (Nat.le_of_eq rfl) (hb hby dI_2) (fun _ _ => ⟨rfl, e0, (by decide : 0 + 1 ≤ _), (by decide : 0 + 1 ≤ _)⟩)
  dsimp only [Pt.U, Pt.locs, Pt.cells, Pt.slots] at X1 l1 y1 z1 st1 hQ1
  subst l1 y1 z1
  obtain ⟨r1, kb1, z0, w0, rfl, N1q, K1, g1, V1, hq, b_z0⟩ := hQ1
  have N1 := Fr.app N0 N1q
  obtain ⟨u0, hu0⟩ : ∃ q : Int32, q = own_g [t0] z0 := ⟨_, rfl⟩
  have e_z0 : ([(.int t0)] : List Value).getD z0.toNatClampNeg (.int (0 : Int32)) = .int u0 := (own_getI [t0] _).trans (congrArg Value.int hu0.symm)
  obtain ⟨T2, h2, L2, _, _, X2, e2, N2, hh2, rfl, rfl, st2⟩ := to_1_0 (ad := ad) (x4 := u0) (x5 := (0 : Int32)) X1 hx hZ hw hby hml hown rfl (Nat.le_trans Z0 K1.1) N1 (V_t.keep K1 nin0) V1 b_z0 e_z0
  obtain ⟨fs, hr, hrun, hended, hW, hsame⟩ := X2.leave (v := some (.int (own_b (own_cnt (0 : Int32) u0 u0) (0 : Int32) u0 u0))) (fun h => by rw [Bd.returns] at h; cases h)
  refine ⟨_, _, pre0 _ ?_, hrun, hended, _, _, rfl, ?_, ⟨_, rfl⟩, hW, hsame.mono (by decide) (by decide)⟩
  · show sS p e below s₁ m 0 #[rv ad, rv at_, .unset, .unset, .unset, .unset, .unset, .unset, .unset] [] _
    refine XS.aloadN X0.here hx rfl (hb hby dI_0) rfl rfl ?_
    refine XS.iconst X0.here hx rfl (hb hby dI_1) ?_
    show sS p e below s₁ m 2 #[rv ad, rv at_, .unset, .unset, .unset, .unset, .unset, .unset, .unset] [(.int (3 : Int32)), (.ref ad)] _
    refine st1 _ ?_
    show sS p e below T1 m 5 #[rv ad, rv at_, .unset, .unset, .unset, .unset, .unset, .unset, .unset] [(.ref r1)] _
    refine XS.astoreN X1.here hx rfl (hb hby dI_5) rfl rfl (l' := #[rv ad, rv at_, rv r1, .unset, .unset, .unset, .unset, .unset, .unset]) rfl ?_
    refine XS.aloadN X1.here hx rfl (hb hby dI_6) rfl rfl ?_
    refine own_len X1 hx hZ rfl V1 rfl rfl (hb hby dI_7) ?_
    refine XS.istoreN X1.here hx rfl (hb hby dI_8) rfl (l' := #[rv ad, rv at_, rv r1, iv 1, .unset, .unset, .unset, .unset, .unset]) rfl ?_
    refine XS.iloadN X1.here hx rfl (hb hby dI_9) rfl ?_
    refine XS.ifYes X1.here hx rfl (pc0 := 10) (pc' := 15) rfl (hb hby dI_10) rfl (by decide) (by decide) (by decide) ?_
    show sS p e below T1 m 15 #[rv ad, rv at_, rv r1, iv 1, .unset, .unset, .unset, .unset, .unset] [] _
    refine XS.aloadN X1.here hx rfl (hb hby dI_15) rfl rfl ?_
    refine XS.aloadN X1.here hx rfl (hb hby dI_16) rfl rfl ?_
    refine XS.iconst X1.here hx rfl (hb hby dI_17) ?_
    refine own_ldI X1 hx hZ rfl V1 ⟨by decide, by decide⟩ (v := z0) rfl rfl rfl (hb hby dI_18) ?_
    refine own_ldI X1 hx hZ rfl (V_t.keep K1 nin0) b_z0 (v := u0) e_z0 rfl rfl (hb hby dI_19) ?_
    refine XS.istore X1.here hx rfl (hb hby dI_20) rfl (l' := #[rv ad, rv at_, rv r1, iv 1, iv u0, .unset, .unset, .unset, .unset]) rfl ?_
    show sS p e below T1 m 22 #[rv ad, rv at_, rv r1, iv 1, iv u0, .unset, .unset, .unset, .unset] [] _
    refine XS.iconst X1.here hx rfl (hb hby dI_22) ?_
    refine XS.istore X1.here hx rfl (hb hby dI_23) rfl (l' := #[rv ad, rv at_, rv r1, iv 1, iv u0, iv 0, .unset, .unset, .unset]) rfl ?_
    refine XS.iconst X1.here hx rfl (hb hby dI_25) ?_
    refine XS.istore X1.here hx rfl (hb hby dI_26) rfl (l' := #[rv ad, rv at_, rv r1, iv 1, iv u0, iv 0, iv 0, .unset, .unset]) rfl ?_
    show sS p e below T1 m 28 #[rv ad, rv at_, rv r1, iv 1, iv u0, iv 0, iv 0, .unset, .unset] [] _
    refine st2 _ ?_
    show sS p e below T2 m 28 #[rv ad, rv at_, rv r1, iv 1, .val (.int (own_b (own_cnt (0 : Int32) u0 u0) (0 : Int32) u0 u0)), .val (.int (own_c (own_cnt (0 : Int32) u0 u0) (0 : Int32))), iv 1, .val (.int (own_cnt (0 : Int32) u0 u0)), iv 1] [] _
    refine XS.iload X2.here hx rfl (hb hby dI_28) rfl ?_
    refine XS.iloadN X2.here hx rfl (hb hby dI_30) rfl ?_
    refine XS.icmpYes X2.here hx rfl (pc0 := 31) (pc' := 95) rfl (hb hby dI_31) rfl (by decide) (by decide) (by decide) ?_
    refine XS.iload X2.here hx rfl (hb hby dI_95) rfl ?_
    show sS p e below T2 m 97 #[rv ad, rv at_, rv r1, iv 1, .val (.int (own_b (own_cnt (0 : Int32) u0 u0) (0 : Int32) u0 u0)), .val (.int (own_c (own_cnt (0 : Int32) u0 u0) (0 : Int32))), iv 1, .val (.int (own_cnt (0 : Int32) u0 u0)), iv 1] [(.int (own_b (own_cnt (0 : Int32) u0 u0) (0 : Int32) u0 u0))] _
    exact retI X2 hx Bd.returns (hb hby dI_97) hr
  · show Qtb1 Z ad kd at_ kt d0 t0 h0 n0 _ T2.heap _
    rw [(e2.trans hh2)]
    exact ⟨congrArg (fun z => some (Value.int z)) (by unfold own_res1; rw [← hq]; show _ = own_got1 (own_g [t0] z0); rw [← hu0]; rfl), N2, ((Keep.refl h0 []).trans K1 all0)⟩
theorem ef_tb2 (m : MethodId) (x0 : Addr) (x1 : Addr) : entryFrame m #[(.ref x0), (.ref x1)] 9 = mkF m 0 #[rv x0, rv x1, .unset, .unset, .unset, .unset, .unset, .unset, .unset] [] := by first | (simp [entryFrame, mkF, argsToLocals, Value.category]; done) | rfl
def Qtb2 (Z : State) (ad : Addr) (kd : ClassId) (at_ : Addr) (kt : ClassId) (d0 d1 t0 t1 : Int32) (h0 : Heap) (n0 : Nat) (v : Option Value) (h : Heap) (L : List Loc) : Prop := v = some (.int (own_res2 d0 d1 t0 t1)) ∧ Fr n0 L ∧ Keep h0 h []
set_option maxRecDepth 65536 in
set_option maxHeartbeats 40000000 in
theorem rmtb2 (l : Launch) (Z : State) (a0 : Array Value) (hw : ∀ d ∈ tables_1, d.before a0 Z = true) (ws : List Jvm.Cond) (ad : Addr) (kd : ClassId) (at_ : Addr) (kt : ClassId) (d0 d1 t0 t1 : Int32) (h0 : Heap) (n0 : Nat) (Z0 : n0 ≤ h0.size) (V_d : Arv Z h0 ad kd .double (2 : Int32) [(.double (FP.i2d d0)), (.double (FP.i2d d1))] (.double (0 : UInt64))) (V_t : Arv Z h0 at_ kt .int (2 : Int32) [(.int t0), (.int t1)] (.int (0 : Int32))) :
    MetFree l (⟨cN1, "typeByNeighbours", "([D[I)I"⟩ : MethodName) (head1 (Jvm.Cond.code (⟨cN1, "typeByNeighbours", "([D[I)I"⟩ : MethodName) prog_5_method_3_code 9 (some .int) :: ws) ({ frames := 4, cells := 1, slots := 2, locals := 82 } : Room)) (fun a U => a = #[(.ref ad), (.ref at_)] ∧ Z.Warmed39 U.vm ∧ U.heap = h0) (fun _ _ _ _ _ => True) (fun _ U o U' => ∃ v L, o = .returned v ∧ Qtb2 Z ad kd at_ kt d0 d1 t0 t1 h0 n0 v U'.heap L ∧ FrameEnd U o U' L ({ frames := 4, cells := 1, slots := 2, locals := 82 } : Room).cells ({ frames := 4, cells := 1, slots := 2, locals := 82 } : Room).slots) := by
  refine MetFree.of_bodySF (plainFor_of_name pn_2) hisR ?_
  intro p e s m args below meth c s₁ Bd hml0 hP hK
  obtain ⟨rfl, hZ, hh⟩ := hP
  have hx := Bd.exec
  have hby := Bd.bytes
  have hml : c.maxLocals = 9 := hml0
  have hown : s.vm.findClass cN1 = some m.cls := findClass_of_methodNamed Bd.named
  have hnm := (name_of_methodNamed Bd.named Bd.method).1
  have X0 : Stand p l e ({ frames := 4, cells := 1, slots := 2, locals := 82 } : Room) s m #[(.ref ad), (.ref at_)] below meth c s₁ [] 0 0 := Stand.of_body Bd
  have e0 : s₁.heap = h0 := by rw [← hh, Bd.state]; rfl
  have N0 := Fr.nil n0
  have pre0 : ∀ t, Steps p.tables e below (s₁.setTop (mkF m 0 #[rv ad, rv at_, .unset, .unset, .unset, .unset, .unset, .unset, .unset] [])) t → Steps p.tables e below (s₁.setTop (entryFrame m #[(.ref ad), (.ref at_)] 9)) t := fun t k => castTop (ef_tb2 m ad at_) k
  obtain ⟨_, _, ⟨T1, L1, k1, n1⟩, -, X1, ⟨Lc1, hQ1, l1, y1, z1⟩, st1⟩ := Jvm.LawKit.callS X0 hx (y := ⟨cN1, "nearest", "([DI)[I"⟩) hown (mvT hZ (wK hw (i := 7) rfl)) (mvT hZ (wK hw (i := 8) rfl)) (mvT hZ (wK hw (i := 5) rfl)) (mvT hZ (wK hw (i := 9) rfl)) (by decide) (backOf (W := 0) (rmne2 l Z a0 hw [] ad kd d0 d1 h0 n0 Z0 V_d) hZ (wK hw (i := 9) rfl) (wK hw (i := 5) rfl) (by decide) (by decide)) (g := (mkF m 2 #[rv ad, rv at_, .unset, .unset, .unset, .unset, .unset, .unset, .unset] [(.int (3 : Int32)), (.ref ad)])) rfl (by rw [hml]; rfl) (argsL := [(.ref ad), (.int (3 : Int32))]) (rest := []) (lenOf pd_6 rfl) rfl (Nat.le_of_eq rfl) (hb hby dI_2) (fun _ _ => ⟨rfl, e0, (by decide : 0 + 1 ≤ _), (by decide : 0 + 2 ≤ _)⟩)
  dsimp only [Pt.U, Pt.locs, Pt.cells, Pt.slots] at X1 l1 y1 z1 st1 hQ1
  subst l1 y1 z1
  obtain ⟨r1, kb1, z0, z1, w0, w1, rfl, N1q, K1, g1, V1, hq, b_z0, b_z1⟩ := hQ1
  have N1 := Fr.app N0 N1q
  obtain ⟨u0, hu0⟩ : ∃ q : Int32, q = own_g [t0, t1] z0 := ⟨_, rfl⟩
  have e_z0 : ([(.int t0), (.int t1)] : List Value).getD z0.toNatClampNeg (.int (0 : Int32)) = .int u0 := (own_getI [t0, t1] _).trans (congrArg Value.int hu0.symm)
  obtain ⟨u1, hu1⟩ : ∃ q : Int32, q = own_g [t0, t1] z1 := ⟨_, rfl⟩
  have e_z1 : ([(.int t0), (.int t1)] : List Value).getD z1.toNatClampNeg (.int (0 : Int32)) = .int u1 := (own_getI [t0, t1] _).trans (congrArg Value.int hu1.symm)
  obtain ⟨T2, h2, L2, _, _, X2, e2, N2, hh2, rfl, rfl, st2⟩ := to_2_0 (ad := ad) (x4 := u0) (x5 := (0 : Int32)) X1 hx hZ hw hby hml hown rfl (Nat.le_trans Z0 K1.1) N1 (V_t.keep K1 nin0) V1 b_z0 e_z0 b_z1 e_z1
  obtain ⟨T3, h3, L3, _, _, X3, e3, N3, hh3, rfl, rfl, st3⟩ := to_2_1 (ad := ad) (x4 := (own_b (own_cnt (own_cnt (0 : Int32) u0 u0) u1 u0) (0 : Int32) u0 u0)) (x5 := (own_c (own_cnt (own_cnt (0 : Int32) u0 u0) u1 u0) (0 : Int32))) (x7 := (own_cnt (own_cnt (0 : Int32) u0 u0) u1 u0)) (x8 := (2 : Int32)) X2 hx hZ hw hby hml hown (e2.trans hh2) (Nat.le_trans Z0 K1.1) N2 (V_t.keep K1 nin0) V1 b_z0 e_z0 b_z1 e_z1
  obtain ⟨fs, hr, hrun, hended, hW, hsame⟩ := X3.leave (v := some (.int (own_b (own_cnt (own_cnt (0 : Int32) u0 u1) u1 u1) (own_c (own_cnt (own_cnt (0 : Int32) u0 u0) u1 u0) (0 : Int32)) (own_b (own_cnt (own_cnt (0 : Int32) u0 u0) u1 u0) (0 : Int32) u0 u0) u1))) (fun h => by rw [Bd.returns] at h; cases h)
  refine ⟨_, _, pre0 _ ?_, hrun, hended, _, _, rfl, ?_, ⟨_, rfl⟩, hW, hsame.mono (by decide) (by decide)⟩
  · show sS p e below s₁ m 0 #[rv ad, rv at_, .unset, .unset, .unset, .unset, .unset, .unset, .unset] [] _
    refine XS.aloadN X0.here hx rfl (hb hby dI_0) rfl rfl ?_
    refine XS.iconst X0.here hx rfl (hb hby dI_1) ?_
    show sS p e below s₁ m 2 #[rv ad, rv at_, .unset, .unset, .unset, .unset, .unset, .unset, .unset] [(.int (3 : Int32)), (.ref ad)] _
    refine st1 _ ?_
    show sS p e below T1 m 5 #[rv ad, rv at_, .unset, .unset, .unset, .unset, .unset, .unset, .unset] [(.ref r1)] _
    refine XS.astoreN X1.here hx rfl (hb hby dI_5) rfl rfl (l' := #[rv ad, rv at_, rv r1, .unset, .unset, .unset, .unset, .unset, .unset]) rfl ?_
    refine XS.aloadN X1.here hx rfl (hb hby dI_6) rfl rfl ?_
    refine own_len X1 hx hZ rfl V1 rfl rfl (hb hby dI_7) ?_
    refine XS.istoreN X1.here hx rfl (hb hby dI_8) rfl (l' := #[rv ad, rv at_, rv r1, iv 2, .unset, .unset, .unset, .unset, .unset]) rfl ?_
    refine XS.iloadN X1.here hx rfl (hb hby dI_9) rfl ?_
    refine XS.ifYes X1.here hx rfl (pc0 := 10) (pc' := 15) rfl (hb hby dI_10) rfl (by decide) (by decide) (by decide) ?_
    show sS p e below T1 m 15 #[rv ad, rv at_, rv r1, iv 2, .unset, .unset, .unset, .unset, .unset] [] _
    refine XS.aloadN X1.here hx rfl (hb hby dI_15) rfl rfl ?_
    refine XS.aloadN X1.here hx rfl (hb hby dI_16) rfl rfl ?_
    refine XS.iconst X1.here hx rfl (hb hby dI_17) ?_
    refine own_ldI X1 hx hZ rfl V1 ⟨by decide, by decide⟩ (v := z0) rfl rfl rfl (hb hby dI_18) ?_
    refine own_ldI X1 hx hZ rfl (V_t.keep K1 nin0) b_z0 (v := u0) e_z0 rfl rfl (hb hby dI_19) ?_
    refine XS.istore X1.here hx rfl (hb hby dI_20) rfl (l' := #[rv ad, rv at_, rv r1, iv 2, iv u0, .unset, .unset, .unset, .unset]) rfl ?_
    show sS p e below T1 m 22 #[rv ad, rv at_, rv r1, iv 2, iv u0, .unset, .unset, .unset, .unset] [] _
    refine XS.iconst X1.here hx rfl (hb hby dI_22) ?_
    refine XS.istore X1.here hx rfl (hb hby dI_23) rfl (l' := #[rv ad, rv at_, rv r1, iv 2, iv u0, iv 0, .unset, .unset, .unset]) rfl ?_
    refine XS.iconst X1.here hx rfl (hb hby dI_25) ?_
    refine XS.istore X1.here hx rfl (hb hby dI_26) rfl (l' := #[rv ad, rv at_, rv r1, iv 2, iv u0, iv 0, iv 0, .unset, .unset]) rfl ?_
    show sS p e below T1 m 28 #[rv ad, rv at_, rv r1, iv 2, iv u0, iv 0, iv 0, .unset, .unset] [] _
    refine st2 _ ?_
    show sS p e below T2 m 28 #[rv ad, rv at_, rv r1, iv 2, .val (.int (own_b (own_cnt (own_cnt (0 : Int32) u0 u0) u1 u0) (0 : Int32) u0 u0)), .val (.int (own_c (own_cnt (own_cnt (0 : Int32) u0 u0) u1 u0) (0 : Int32))), iv 1, .val (.int (own_cnt (own_cnt (0 : Int32) u0 u0) u1 u0)), iv 2] [] _
    refine st3 _ ?_
    show sS p e below T3 m 28 #[rv ad, rv at_, rv r1, iv 2, .val (.int (own_b (own_cnt (own_cnt (0 : Int32) u0 u1) u1 u1) (own_c (own_cnt (own_cnt (0 : Int32) u0 u0) u1 u0) (0 : Int32)) (own_b (own_cnt (own_cnt (0 : Int32) u0 u0) u1 u0) (0 : Int32) u0 u0) u1)), .val (.int (own_c (own_cnt (own_cnt (0 : Int32) u0 u1) u1 u1) (own_c (own_cnt (own_cnt (0 : Int32) u0 u0) u1 u0) (0 : Int32)))), iv 2, .val (.int (own_cnt (own_cnt (0 : Int32) u0 u1) u1 u1)), iv 2] [] _
    refine XS.iload X3.here hx rfl (hb hby dI_28) rfl ?_
    refine XS.iloadN X3.here hx rfl (hb hby dI_30) rfl ?_
    refine XS.icmpYes X3.here hx rfl (pc0 := 31) (pc' := 95) rfl (hb hby dI_31) rfl (by decide) (by decide) (by decide) ?_
    refine XS.iload X3.here hx rfl (hb hby dI_95) rfl ?_
    show sS p e below T3 m 97 #[rv ad, rv at_, rv r1, iv 2, .val (.int (own_b (own_cnt (own_cnt (0 : Int32) u0 u1) u1 u1) (own_c (own_cnt (own_cnt (0 : Int32) u0 u0) u1 u0) (0 : Int32)) (own_b (own_cnt (own_cnt (0 : Int32) u0 u0) u1 u0) (0 : Int32) u0 u0) u1)), .val (.int (own_c (own_cnt (own_cnt (0 : Int32) u0 u1) u1 u1) (own_c (own_cnt (own_cnt (0 : Int32) u0 u0) u1 u0) (0 : Int32)))), iv 2, .val (.int (own_cnt (own_cnt (0 : Int32) u0 u1) u1 u1)), iv 2] [(.int (own_b (own_cnt (own_cnt (0 : Int32) u0 u1) u1 u1) (own_c (own_cnt (own_cnt (0 : Int32) u0 u0) u1 u0) (0 : Int32)) (own_b (own_cnt (own_cnt (0 : Int32) u0 u0) u1 u0) (0 : Int32) u0 u0) u1))] _
    exact retI X3 hx Bd.returns (hb hby dI_97) hr
  · show Qtb2 Z ad kd at_ kt d0 d1 t0 t1 h0 n0 _ T3.heap _
    rw [(e3.trans hh3)]
    exact ⟨congrArg (fun z => some (Value.int z)) (by unfold own_res2; rw [← hq]; show _ = own_got2 (own_g [t0, t1] z0) (own_g [t0, t1] z1); rw [← hu0, ← hu1]; rfl), N3, ((Keep.refl h0 []).trans K1 all0)⟩
theorem ef_tb3 (m : MethodId) (x0 : Addr) (x1 : Addr) : entryFrame m #[(.ref x0), (.ref x1)] 9 = mkF m 0 #[rv x0, rv x1, .unset, .unset, .unset, .unset, .unset, .unset, .unset] [] := by first | (simp [entryFrame, mkF, argsToLocals, Value.category]; done) | rfl
def Qtb3 (Z : State) (ad : Addr) (kd : ClassId) (at_ : Addr) (kt : ClassId) (d0 d1 d2 t0 t1 t2 : Int32) (h0 : Heap) (n0 : Nat) (v : Option Value) (h : Heap) (L : List Loc) : Prop := v = some (.int (own_res3 d0 d1 d2 t0 t1 t2)) ∧ Fr n0 L ∧ Keep h0 h []
set_option maxRecDepth 65536 in
set_option maxHeartbeats 40000000 in
theorem rmtb3 (l : Launch) (Z : State) (a0 : Array Value) (hw : ∀ d ∈ tables_1, d.before a0 Z = true) (ws : List Jvm.Cond) (ad : Addr) (kd : ClassId) (at_ : Addr) (kt : ClassId) (d0 d1 d2 t0 t1 t2 : Int32) (h0 : Heap) (n0 : Nat) (Z0 : n0 ≤ h0.size) (V_d : Arv Z h0 ad kd .double (3 : Int32) [(.double (FP.i2d d0)), (.double (FP.i2d d1)), (.double (FP.i2d d2))] (.double (0 : UInt64))) (V_t : Arv Z h0 at_ kt .int (3 : Int32) [(.int t0), (.int t1), (.int t2)] (.int (0 : Int32))) :
    MetFree l (⟨cN1, "typeByNeighbours", "([D[I)I"⟩ : MethodName) (head1 (Jvm.Cond.code (⟨cN1, "typeByNeighbours", "([D[I)I"⟩ : MethodName) prog_5_method_3_code 9 (some .int) :: ws) ({ frames := 4, cells := 1, slots := 3, locals := 82 } : Room)) (fun a U => a = #[(.ref ad), (.ref at_)] ∧ Z.Warmed39 U.vm ∧ U.heap = h0) (fun _ _ _ _ _ => True) (fun _ U o U' => ∃ v L, o = .returned v ∧ Qtb3 Z ad kd at_ kt d0 d1 d2 t0 t1 t2 h0 n0 v U'.heap L ∧ FrameEnd U o U' L ({ frames := 4, cells := 1, slots := 3, locals := 82 } : Room).cells ({ frames := 4, cells := 1, slots := 3, locals := 82 } : Room).slots) := by
  refine MetFree.of_bodySF (plainFor_of_name pn_2) hisR ?_
  intro p e s m args below meth c s₁ Bd hml0 hP hK
  obtain ⟨rfl, hZ, hh⟩ := hP
  have hx := Bd.exec
  have hby := Bd.bytes
  have hml : c.maxLocals = 9 := hml0
  have hown : s.vm.findClass cN1 = some m.cls := findClass_of_methodNamed Bd.named
  have hnm := (name_of_methodNamed Bd.named Bd.method).1
  have X0 : Stand p l e ({ frames := 4, cells := 1, slots := 3, locals := 82 } : Room) s m #[(.ref ad), (.ref at_)] below meth c s₁ [] 0 0 := Stand.of_body Bd
  have e0 : s₁.heap = h0 := by rw [← hh, Bd.state]; rfl
  have N0 := Fr.nil n0
  have pre0 : ∀ t, Steps p.tables e below (s₁.setTop (mkF m 0 #[rv ad, rv at_, .unset, .unset, .unset, .unset, .unset, .unset, .unset] [])) t → Steps p.tables e below (s₁.setTop (entryFrame m #[(.ref ad), (.ref at_)] 9)) t := fun t k => castTop (ef_tb3 m ad at_) k
  obtain ⟨_, _, ⟨T1, L1, k1, n1⟩, -, X1, ⟨Lc1, hQ1, l1, y1, z1⟩, st1⟩ := Jvm.LawKit.callS X0 hx (y := ⟨cN1, "nearest", "([DI)[I"⟩) hown (mvT hZ (wK hw (i := 7) rfl)) (mvT hZ (wK hw (i := 8) rfl)) (mvT hZ (wK hw (i := 5) rfl)) (mvT hZ (wK hw (i := 9) rfl)) (by decide) (backOf (W := 0) (rmne3 l Z a0 hw [] ad kd d0 d1 d2 h0 n0 Z0 V_d) hZ (wK hw (i := 9) rfl) (wK hw (i := 5) rfl) (by decide) (by decide)) (g := (mkF m 2 #[rv ad, rv at_, .unset, .unset, .unset, .unset, .unset, .unset, .unset] [(.int (3 : Int32)), (.ref ad)])) rfl (by rw [hml]; rfl) (argsL := [(.ref ad), (.int (3 : Int32))]) (rest := []) (lenOf pd_6 rfl) rfl (Nat.le_of_eq rfl) (hb hby dI_2) (fun _ _ => ⟨rfl, e0, (by decide : 0 + 1 ≤ _), (by decide : 0 + 3 ≤ _)⟩)
  dsimp only [Pt.U, Pt.locs, Pt.cells, Pt.slots] at X1 l1 y1 z1 st1 hQ1
  subst l1 y1 z1
  obtain ⟨r1, kb1, z0, z1, z2, w0, w1, w2, rfl, N1q, K1, g1, V1, hq, b_z0, b_z1, b_z2⟩ := hQ1
  have N1 := Fr.app N0 N1q
  obtain ⟨u0, hu0⟩ : ∃ q : Int32, q = own_g [t0, t1, t2] z0 := ⟨_, rfl⟩
  have e_z0 : ([(.int t0), (.int t1), (.int t2)] : List Value).getD z0.toNatClampNeg (.int (0 : Int32)) = .int u0 := (own_getI [t0, t1, t2] _).trans (congrArg Value.int hu0.symm)
  obtain ⟨u1, hu1⟩ : ∃ q : Int32, q = own_g [t0, t1, t2] z1 := ⟨_, rfl⟩
  have e_z1 : ([(.int t0), (.int t1), (.int t2)] : List Value).getD z1.toNatClampNeg (.int (0 : Int32)) = .int u1 := (own_getI [t0, t1, t2] _).trans (congrArg Value.int hu1.symm)
  obtain ⟨u2, hu2⟩ : ∃ q : Int32, q = own_g [t0, t1, t2] z2 := ⟨_, rfl⟩
  have e_z2 : ([(.int t0), (.int t1), (.int t2)] : List Value).getD z2.toNatClampNeg (.int (0 : Int32)) = .int u2 := (own_getI [t0, t1, t2] _).trans (congrArg Value.int hu2.symm)
  obtain ⟨T2, h2, L2, _, _, X2, e2, N2, hh2, rfl, rfl, st2⟩ := to_3_0 (ad := ad) (x4 := u0) (x5 := (0 : Int32)) X1 hx hZ hw hby hml hown rfl (Nat.le_trans Z0 K1.1) N1 (V_t.keep K1 nin0) V1 b_z0 e_z0 b_z1 e_z1 b_z2 e_z2
  obtain ⟨T3, h3, L3, _, _, X3, e3, N3, hh3, rfl, rfl, st3⟩ := to_3_1 (ad := ad) (x4 := (own_b (own_cnt (own_cnt (own_cnt (0 : Int32) u0 u0) u1 u0) u2 u0) (0 : Int32) u0 u0)) (x5 := (own_c (own_cnt (own_cnt (own_cnt (0 : Int32) u0 u0) u1 u0) u2 u0) (0 : Int32))) (x7 := (own_cnt (own_cnt (own_cnt (0 : Int32) u0 u0) u1 u0) u2 u0)) (x8 := (3 : Int32)) X2 hx hZ hw hby hml hown (e2.trans hh2) (Nat.le_trans Z0 K1.1) N2 (V_t.keep K1 nin0) V1 b_z0 e_z0 b_z1 e_z1 b_z2 e_z2
  obtain ⟨T4, h4, L4, _, _, X4, e4, N4, hh4, rfl, rfl, st4⟩ := to_3_2 (ad := ad) (x4 := (own_b (own_cnt (own_cnt (own_cnt (0 : Int32) u0 u1) u1 u1) u2 u1) (own_c (own_cnt (own_cnt (own_cnt (0 : Int32) u0 u0) u1 u0) u2 u0) (0 : Int32)) (own_b (own_cnt (own_cnt (own_cnt (0 : Int32) u0 u0) u1 u0) u2 u0) (0 : Int32) u0 u0) u1)) (x5 := (own_c (own_cnt (own_cnt (own_cnt (0 : Int32) u0 u1) u1 u1) u2 u1) (own_c (own_cnt (own_cnt (own_cnt (0 : Int32) u0 u0) u1 u0) u2 u0) (0 : Int32)))) (x7 := (own_cnt (own_cnt (own_cnt (0 : Int32) u0 u1) u1 u1) u2 u1)) (x8 := (3 : Int32)) X3 hx hZ hw hby hml hown (e3.trans hh3) (Nat.le_trans Z0 K1.1) N3 (V_t.keep K1 nin0) V1 b_z0 e_z0 b_z1 e_z1 b_z2 e_z2
  obtain ⟨fs, hr, hrun, hended, hW, hsame⟩ := X4.leave (v := some (.int (own_b (own_cnt (own_cnt (own_cnt (0 : Int32) u0 u2) u1 u2) u2 u2) (own_c (own_cnt (own_cnt (own_cnt (0 : Int32) u0 u1) u1 u1) u2 u1) (own_c (own_cnt (own_cnt (own_cnt (0 : Int32) u0 u0) u1 u0) u2 u0) (0 : Int32))) (own_b (own_cnt (own_cnt (own_cnt (0 : Int32) u0 u1) u1 u1) u2 u1) (own_c (own_cnt (own_cnt (own_cnt (0 : Int32) u0 u0) u1 u0) u2 u0) (0 : Int32)) (own_b (own_cnt (own_cnt (own_cnt (0 : Int32) u0 u0) u1 u0) u2 u0) (0 : Int32) u0 u0) u1) u2))) (fun h => by rw [Bd.returns] at h; cases h)
  refine ⟨_, _, pre0 _ ?_, hrun, hended, _, _, rfl, ?_, ⟨_, rfl⟩, hW, hsame.mono (by decide) (by decide)⟩
  · show sS p e below s₁ m 0 #[rv ad, rv at_, .unset, .unset, .unset, .unset, .unset, .unset, .unset] [] _
    refine XS.aloadN X0.here hx rfl (hb hby dI_0) rfl rfl ?_
    refine XS.iconst X0.here hx rfl (hb hby dI_1) ?_
    show sS p e below s₁ m 2 #[rv ad, rv at_, .unset, .unset, .unset, .unset, .unset, .unset, .unset] [(.int (3 : Int32)), (.ref ad)] _
    refine st1 _ ?_
    show sS p e below T1 m 5 #[rv ad, rv at_, .unset, .unset, .unset, .unset, .unset, .unset, .unset] [(.ref r1)] _
    refine XS.astoreN X1.here hx rfl (hb hby dI_5) rfl rfl (l' := #[rv ad, rv at_, rv r1, .unset, .unset, .unset, .unset, .unset, .unset]) rfl ?_
    refine XS.aloadN X1.here hx rfl (hb hby dI_6) rfl rfl ?_
    refine own_len X1 hx hZ rfl V1 rfl rfl (hb hby dI_7) ?_
    refine XS.istoreN X1.here hx rfl (hb hby dI_8) rfl (l' := #[rv ad, rv at_, rv r1, iv 3, .unset, .unset, .unset, .unset, .unset]) rfl ?_
    refine XS.iloadN X1.here hx rfl (hb hby dI_9) rfl ?_
    refine XS.ifYes X1.here hx rfl (pc0 := 10) (pc' := 15) rfl (hb hby dI_10) rfl (by decide) (by decide) (by decide) ?_
    show sS p e below T1 m 15 #[rv ad, rv at_, rv r1, iv 3, .unset, .unset, .unset, .unset, .unset] [] _
    refine XS.aloadN X1.here hx rfl (hb hby dI_15) rfl rfl ?_
    refine XS.aloadN X1.here hx rfl (hb hby dI_16) rfl rfl ?_
    refine XS.iconst X1.here hx rfl (hb hby dI_17) ?_
    refine own_ldI X1 hx hZ rfl V1 ⟨by decide, by decide⟩ (v := z0) rfl rfl rfl (hb hby dI_18) ?_
    refine own_ldI X1 hx hZ rfl (V_t.keep K1 nin0) b_z0 (v := u0) e_z0 rfl rfl (hb hby dI_19) ?_
    refine XS.istore X1.here hx rfl (hb hby dI_20) rfl (l' := #[rv ad, rv at_, rv r1, iv 3, iv u0, .unset, .unset, .unset, .unset]) rfl ?_
    show sS p e below T1 m 22 #[rv ad, rv at_, rv r1, iv 3, iv u0, .unset, .unset, .unset, .unset] [] _
    refine XS.iconst X1.here hx rfl (hb hby dI_22) ?_
    refine XS.istore X1.here hx rfl (hb hby dI_23) rfl (l' := #[rv ad, rv at_, rv r1, iv 3, iv u0, iv 0, .unset, .unset, .unset]) rfl ?_
    refine XS.iconst X1.here hx rfl (hb hby dI_25) ?_
    refine XS.istore X1.here hx rfl (hb hby dI_26) rfl (l' := #[rv ad, rv at_, rv r1, iv 3, iv u0, iv 0, iv 0, .unset, .unset]) rfl ?_
    show sS p e below T1 m 28 #[rv ad, rv at_, rv r1, iv 3, iv u0, iv 0, iv 0, .unset, .unset] [] _
    refine st2 _ ?_
    show sS p e below T2 m 28 #[rv ad, rv at_, rv r1, iv 3, .val (.int (own_b (own_cnt (own_cnt (own_cnt (0 : Int32) u0 u0) u1 u0) u2 u0) (0 : Int32) u0 u0)), .val (.int (own_c (own_cnt (own_cnt (own_cnt (0 : Int32) u0 u0) u1 u0) u2 u0) (0 : Int32))), iv 1, .val (.int (own_cnt (own_cnt (own_cnt (0 : Int32) u0 u0) u1 u0) u2 u0)), iv 3] [] _
    refine st3 _ ?_
    show sS p e below T3 m 28 #[rv ad, rv at_, rv r1, iv 3, .val (.int (own_b (own_cnt (own_cnt (own_cnt (0 : Int32) u0 u1) u1 u1) u2 u1) (own_c (own_cnt (own_cnt (own_cnt (0 : Int32) u0 u0) u1 u0) u2 u0) (0 : Int32)) (own_b (own_cnt (own_cnt (own_cnt (0 : Int32) u0 u0) u1 u0) u2 u0) (0 : Int32) u0 u0) u1)), .val (.int (own_c (own_cnt (own_cnt (own_cnt (0 : Int32) u0 u1) u1 u1) u2 u1) (own_c (own_cnt (own_cnt (own_cnt (0 : Int32) u0 u0) u1 u0) u2 u0) (0 : Int32)))), iv 2, .val (.int (own_cnt (own_cnt (own_cnt (0 : Int32) u0 u1) u1 u1) u2 u1)), iv 3] [] _
    refine st4 _ ?_
    show sS p e below T4 m 28 #[rv ad, rv at_, rv r1, iv 3, .val (.int (own_b (own_cnt (own_cnt (own_cnt (0 : Int32) u0 u2) u1 u2) u2 u2) (own_c (own_cnt (own_cnt (own_cnt (0 : Int32) u0 u1) u1 u1) u2 u1) (own_c (own_cnt (own_cnt (own_cnt (0 : Int32) u0 u0) u1 u0) u2 u0) (0 : Int32))) (own_b (own_cnt (own_cnt (own_cnt (0 : Int32) u0 u1) u1 u1) u2 u1) (own_c (own_cnt (own_cnt (own_cnt (0 : Int32) u0 u0) u1 u0) u2 u0) (0 : Int32)) (own_b (own_cnt (own_cnt (own_cnt (0 : Int32) u0 u0) u1 u0) u2 u0) (0 : Int32) u0 u0) u1) u2)), .val (.int (own_c (own_cnt (own_cnt (own_cnt (0 : Int32) u0 u2) u1 u2) u2 u2) (own_c (own_cnt (own_cnt (own_cnt (0 : Int32) u0 u1) u1 u1) u2 u1) (own_c (own_cnt (own_cnt (own_cnt (0 : Int32) u0 u0) u1 u0) u2 u0) (0 : Int32))))), iv 3, .val (.int (own_cnt (own_cnt (own_cnt (0 : Int32) u0 u2) u1 u2) u2 u2)), iv 3] [] _
    refine XS.iload X4.here hx rfl (hb hby dI_28) rfl ?_
    refine XS.iloadN X4.here hx rfl (hb hby dI_30) rfl ?_
    refine XS.icmpYes X4.here hx rfl (pc0 := 31) (pc' := 95) rfl (hb hby dI_31) rfl (by decide) (by decide) (by decide) ?_
    refine XS.iload X4.here hx rfl (hb hby dI_95) rfl ?_
    show sS p e below T4 m 97 #[rv ad, rv at_, rv r1, iv 3, .val (.int (own_b (own_cnt (own_cnt (own_cnt (0 : Int32) u0 u2) u1 u2) u2 u2) (own_c (own_cnt (own_cnt (own_cnt (0 : Int32) u0 u1) u1 u1) u2 u1) (own_c (own_cnt (own_cnt (own_cnt (0 : Int32) u0 u0) u1 u0) u2 u0) (0 : Int32))) (own_b (own_cnt (own_cnt (own_cnt (0 : Int32) u0 u1) u1 u1) u2 u1) (own_c (own_cnt (own_cnt (own_cnt (0 : Int32) u0 u0) u1 u0) u2 u0) (0 : Int32)) (own_b (own_cnt (own_cnt (own_cnt (0 : Int32) u0 u0) u1 u0) u2 u0) (0 : Int32) u0 u0) u1) u2)), .val (.int (own_c (own_cnt (own_cnt (own_cnt (0 : Int32) u0 u2) u1 u2) u2 u2) (own_c (own_cnt (own_cnt (own_cnt (0 : Int32) u0 u1) u1 u1) u2 u1) (own_c (own_cnt (own_cnt (own_cnt (0 : Int32) u0 u0) u1 u0) u2 u0) (0 : Int32))))), iv 3, .val (.int (own_cnt (own_cnt (own_cnt (0 : Int32) u0 u2) u1 u2) u2 u2)), iv 3] [(.int (own_b (own_cnt (own_cnt (own_cnt (0 : Int32) u0 u2) u1 u2) u2 u2) (own_c (own_cnt (own_cnt (own_cnt (0 : Int32) u0 u1) u1 u1) u2 u1) (own_c (own_cnt (own_cnt (own_cnt (0 : Int32) u0 u0) u1 u0) u2 u0) (0 : Int32))) (own_b (own_cnt (own_cnt (own_cnt (0 : Int32) u0 u1) u1 u1) u2 u1) (own_c (own_cnt (own_cnt (own_cnt (0 : Int32) u0 u0) u1 u0) u2 u0) (0 : Int32)) (own_b (own_cnt (own_cnt (own_cnt (0 : Int32) u0 u0) u1 u0) u2 u0) (0 : Int32) u0 u0) u1) u2))] _
    exact retI X4 hx Bd.returns (hb hby dI_97) hr
  · show Qtb3 Z ad kd at_ kt d0 d1 d2 t0 t1 t2 h0 n0 _ T4.heap _
    rw [(e4.trans hh4)]
    exact ⟨congrArg (fun z => some (Value.int z)) (by unfold own_res3; rw [← hq]; show _ = own_got3 (own_g [t0, t1, t2] z0) (own_g [t0, t1, t2] z1) (own_g [t0, t1, t2] z2); rw [← hu0, ← hu1, ← hu2]; rfl), N4, ((Keep.refl h0 []).trans K1 all0)⟩
theorem ef_tb4 (m : MethodId) (x0 : Addr) (x1 : Addr) : entryFrame m #[(.ref x0), (.ref x1)] 9 = mkF m 0 #[rv x0, rv x1, .unset, .unset, .unset, .unset, .unset, .unset, .unset] [] := by first | (simp [entryFrame, mkF, argsToLocals, Value.category]; done) | rfl
def Qtb4 (Z : State) (ad : Addr) (kd : ClassId) (at_ : Addr) (kt : ClassId) (d0 d1 d2 d3 t0 t1 t2 t3 : Int32) (h0 : Heap) (n0 : Nat) (v : Option Value) (h : Heap) (L : List Loc) : Prop := v = some (.int (own_res4 d0 d1 d2 d3 t0 t1 t2 t3)) ∧ Fr n0 L ∧ Keep h0 h []
set_option maxRecDepth 65536 in
set_option maxHeartbeats 40000000 in
theorem rmtb4 (l : Launch) (Z : State) (a0 : Array Value) (hw : ∀ d ∈ tables_1, d.before a0 Z = true) (ws : List Jvm.Cond) (ad : Addr) (kd : ClassId) (at_ : Addr) (kt : ClassId) (d0 d1 d2 d3 t0 t1 t2 t3 : Int32) (h0 : Heap) (n0 : Nat) (Z0 : n0 ≤ h0.size) (V_d : Arv Z h0 ad kd .double (4 : Int32) [(.double (FP.i2d d0)), (.double (FP.i2d d1)), (.double (FP.i2d d2)), (.double (FP.i2d d3))] (.double (0 : UInt64))) (V_t : Arv Z h0 at_ kt .int (4 : Int32) [(.int t0), (.int t1), (.int t2), (.int t3)] (.int (0 : Int32))) :
    MetFree l (⟨cN1, "typeByNeighbours", "([D[I)I"⟩ : MethodName) (head1 (Jvm.Cond.code (⟨cN1, "typeByNeighbours", "([D[I)I"⟩ : MethodName) prog_5_method_3_code 9 (some .int) :: ws) ({ frames := 4, cells := 1, slots := 3, locals := 82 } : Room)) (fun a U => a = #[(.ref ad), (.ref at_)] ∧ Z.Warmed39 U.vm ∧ U.heap = h0) (fun _ _ _ _ _ => True) (fun _ U o U' => ∃ v L, o = .returned v ∧ Qtb4 Z ad kd at_ kt d0 d1 d2 d3 t0 t1 t2 t3 h0 n0 v U'.heap L ∧ FrameEnd U o U' L ({ frames := 4, cells := 1, slots := 3, locals := 82 } : Room).cells ({ frames := 4, cells := 1, slots := 3, locals := 82 } : Room).slots) := by
  refine MetFree.of_bodySF (plainFor_of_name pn_2) hisR ?_
  intro p e s m args below meth c s₁ Bd hml0 hP hK
  obtain ⟨rfl, hZ, hh⟩ := hP
  have hx := Bd.exec
  have hby := Bd.bytes
  have hml : c.maxLocals = 9 := hml0
  have hown : s.vm.findClass cN1 = some m.cls := findClass_of_methodNamed Bd.named
  have hnm := (name_of_methodNamed Bd.named Bd.method).1
  have X0 : Stand p l e ({ frames := 4, cells := 1, slots := 3, locals := 82 } : Room) s m #[(.ref ad), (.ref at_)] below meth c s₁ [] 0 0 := Stand.of_body Bd
  have e0 : s₁.heap = h0 := by rw [← hh, Bd.state]; rfl
  have N0 := Fr.nil n0
  have pre0 : ∀ t, Steps p.tables e below (s₁.setTop (mkF m 0 #[rv ad, rv at_, .unset, .unset, .unset, .unset, .unset, .unset, .unset] [])) t → Steps p.tables e below (s₁.setTop (entryFrame m #[(.ref ad), (.ref at_)] 9)) t := fun t k => castTop (ef_tb4 m ad at_) k
  obtain ⟨_, _, ⟨T1, L1, k1, n1⟩, -, X1, ⟨Lc1, hQ1, l1, y1, z1⟩, st1⟩ := Jvm.LawKit.callS X0 hx (y := ⟨cN1, "nearest", "([DI)[I"⟩) hown (mvT hZ (wK hw (i := 7) rfl)) (mvT hZ (wK hw (i := 8) rfl)) (mvT hZ (wK hw (i := 5) rfl)) (mvT hZ (wK hw (i := 9) rfl)) (by decide) (backOf (W := 0) (rmne4 l Z a0 hw [] ad kd d0 d1 d2 d3 h0 n0 Z0 V_d) hZ (wK hw (i := 9) rfl) (wK hw (i := 5) rfl) (by decide) (by decide)) (g := (mkF m 2 #[rv ad, rv at_, .unset, .unset, .unset, .unset, .unset, .unset, .unset] [(.int (3 : Int32)), (.ref ad)])) rfl (by rw [hml]; rfl) (argsL := [(.ref ad), (.int (3 : Int32))]) (rest := []) (lenOf pd_6 rfl) rfl (Nat.le_of_eq rfl) (hb hby dI_2) (fun _ _ => ⟨rfl, e0, (by decide : 0 + 1 ≤ _), (by decide : 0 + 3 ≤ _)⟩)
  dsimp only [Pt.U, Pt.locs, Pt.cells, Pt.slots] at X1 l1 y1 z1 st1 hQ1
  subst l1 y1 z1
  obtain ⟨r1, kb1, z0, z1, z2, w0, w1, w2, rfl, N1q, K1, g1, V1, hq, b_z0, b_z1, b_z2⟩ := hQ1
  have N1 := Fr.app N0 N1q
  obtain ⟨u0, hu0⟩ : ∃ q : Int32, q = own_g [t0, t1, t2, t3] z0 := ⟨_, rfl⟩
  have e_z0 : ([(.int t0), (.int t1), (.int t2), (.int t3)] : List Value).getD z0.toNatClampNeg (.int (0 : Int32)) = .int u0 := (own_getI [t0, t1, t2, t3] _).trans (congrArg Value.int hu0.symm)
  obtain ⟨u1, hu1⟩ : ∃ q : Int32, q = own_g [t0, t1, t2, t3] z1 := ⟨_, rfl⟩
  have e_z1 : ([(.int t0), (.int t1), (.int t2), (.int t3)] : List Value).getD z1.toNatClampNeg (.int (0 : Int32)) = .int u1 := (own_getI [t0, t1, t2, t3] _).trans (congrArg Value.int hu1.symm)
  obtain ⟨u2, hu2⟩ : ∃ q : Int32, q = own_g [t0, t1, t2, t3] z2 := ⟨_, rfl⟩
  have e_z2 : ([(.int t0), (.int t1), (.int t2), (.int t3)] : List Value).getD z2.toNatClampNeg (.int (0 : Int32)) = .int u2 := (own_getI [t0, t1, t2, t3] _).trans (congrArg Value.int hu2.symm)
  obtain ⟨T2, h2, L2, _, _, X2, e2, N2, hh2, rfl, rfl, st2⟩ := to_3_0 (ad := ad) (x4 := u0) (x5 := (0 : Int32)) X1 hx hZ hw hby hml hown rfl (Nat.le_trans Z0 K1.1) N1 (V_t.keep K1 nin0) V1 b_z0 e_z0 b_z1 e_z1 b_z2 e_z2
  obtain ⟨T3, h3, L3, _, _, X3, e3, N3, hh3, rfl, rfl, st3⟩ := to_3_1 (ad := ad) (x4 := (own_b (own_cnt (own_cnt (own_cnt (0 : Int32) u0 u0) u1 u0) u2 u0) (0 : Int32) u0 u0)) (x5 := (own_c (own_cnt (own_cnt (own_cnt (0 : Int32) u0 u0) u1 u0) u2 u0) (0 : Int32))) (x7 := (own_cnt (own_cnt (own_cnt (0 : Int32) u0 u0) u1 u0) u2 u0)) (x8 := (3 : Int32)) X2 hx hZ hw hby hml hown (e2.trans hh2) (Nat.le_trans Z0 K1.1) N2 (V_t.keep K1 nin0) V1 b_z0 e_z0 b_z1 e_z1 b_z2 e_z2
  obtain ⟨T4, h4, L4, _, _, X4, e4, N4, hh4, rfl, rfl, st4⟩ := to_3_2 (ad := ad) (x4 := (own_b (own_cnt (own_cnt (own_cnt (0 : Int32) u0 u1) u1 u1) u2 u1) (own_c (own_cnt (own_cnt (own_cnt (0 : Int32) u0 u0) u1 u0) u2 u0) (0 : Int32)) (own_b (own_cnt (own_cnt (own_cnt (0 : Int32) u0 u0) u1 u0) u2 u0) (0 : Int32) u0 u0) u1)) (x5 := (own_c (own_cnt (own_cnt (own_cnt (0 : Int32) u0 u1) u1 u1) u2 u1) (own_c (own_cnt (own_cnt (own_cnt (0 : Int32) u0 u0) u1 u0) u2 u0) (0 : Int32)))) (x7 := (own_cnt (own_cnt (own_cnt (0 : Int32) u0 u1) u1 u1) u2 u1)) (x8 := (3 : Int32)) X3 hx hZ hw hby hml hown (e3.trans hh3) (Nat.le_trans Z0 K1.1) N3 (V_t.keep K1 nin0) V1 b_z0 e_z0 b_z1 e_z1 b_z2 e_z2
  obtain ⟨fs, hr, hrun, hended, hW, hsame⟩ := X4.leave (v := some (.int (own_b (own_cnt (own_cnt (own_cnt (0 : Int32) u0 u2) u1 u2) u2 u2) (own_c (own_cnt (own_cnt (own_cnt (0 : Int32) u0 u1) u1 u1) u2 u1) (own_c (own_cnt (own_cnt (own_cnt (0 : Int32) u0 u0) u1 u0) u2 u0) (0 : Int32))) (own_b (own_cnt (own_cnt (own_cnt (0 : Int32) u0 u1) u1 u1) u2 u1) (own_c (own_cnt (own_cnt (own_cnt (0 : Int32) u0 u0) u1 u0) u2 u0) (0 : Int32)) (own_b (own_cnt (own_cnt (own_cnt (0 : Int32) u0 u0) u1 u0) u2 u0) (0 : Int32) u0 u0) u1) u2))) (fun h => by rw [Bd.returns] at h; cases h)
  refine ⟨_, _, pre0 _ ?_, hrun, hended, _, _, rfl, ?_, ⟨_, rfl⟩, hW, hsame.mono (by decide) (by decide)⟩
  · show sS p e below s₁ m 0 #[rv ad, rv at_, .unset, .unset, .unset, .unset, .unset, .unset, .unset] [] _
    refine XS.aloadN X0.here hx rfl (hb hby dI_0) rfl rfl ?_
    refine XS.iconst X0.here hx rfl (hb hby dI_1) ?_
    show sS p e below s₁ m 2 #[rv ad, rv at_, .unset, .unset, .unset, .unset, .unset, .unset, .unset] [(.int (3 : Int32)), (.ref ad)] _
    refine st1 _ ?_
    show sS p e below T1 m 5 #[rv ad, rv at_, .unset, .unset, .unset, .unset, .unset, .unset, .unset] [(.ref r1)] _
    refine XS.astoreN X1.here hx rfl (hb hby dI_5) rfl rfl (l' := #[rv ad, rv at_, rv r1, .unset, .unset, .unset, .unset, .unset, .unset]) rfl ?_
    refine XS.aloadN X1.here hx rfl (hb hby dI_6) rfl rfl ?_
    refine own_len X1 hx hZ rfl V1 rfl rfl (hb hby dI_7) ?_
    refine XS.istoreN X1.here hx rfl (hb hby dI_8) rfl (l' := #[rv ad, rv at_, rv r1, iv 3, .unset, .unset, .unset, .unset, .unset]) rfl ?_
    refine XS.iloadN X1.here hx rfl (hb hby dI_9) rfl ?_
    refine XS.ifYes X1.here hx rfl (pc0 := 10) (pc' := 15) rfl (hb hby dI_10) rfl (by decide) (by decide) (by decide) ?_
    show sS p e below T1 m 15 #[rv ad, rv at_, rv r1, iv 3, .unset, .unset, .unset, .unset, .unset] [] _
    refine XS.aloadN X1.here hx rfl (hb hby dI_15) rfl rfl ?_
    refine XS.aloadN X1.here hx rfl (hb hby dI_16) rfl rfl ?_
    refine XS.iconst X1.here hx rfl (hb hby dI_17) ?_
    refine own_ldI X1 hx hZ rfl V1 ⟨by decide, by decide⟩ (v := z0) rfl rfl rfl (hb hby dI_18) ?_
    refine own_ldI X1 hx hZ rfl (V_t.keep K1 nin0) b_z0 (v := u0) e_z0 rfl rfl (hb hby dI_19) ?_
    refine XS.istore X1.here hx rfl (hb hby dI_20) rfl (l' := #[rv ad, rv at_, rv r1, iv 3, iv u0, .unset, .unset, .unset, .unset]) rfl ?_
    show sS p e below T1 m 22 #[rv ad, rv at_, rv r1, iv 3, iv u0, .unset, .unset, .unset, .unset] [] _
    refine XS.iconst X1.here hx rfl (hb hby dI_22) ?_
    refine XS.istore X1.here hx rfl (hb hby dI_23) rfl (l' := #[rv ad, rv at_, rv r1, iv 3, iv u0, iv 0, .unset, .unset, .unset]) rfl ?_
    refine XS.iconst X1.here hx rfl (hb hby dI_25) ?_
    refine XS.istore X1.here hx rfl (hb hby dI_26) rfl (l' := #[rv ad, rv at_, rv r1, iv 3, iv u0, iv 0, iv 0, .unset, .unset]) rfl ?_
    show sS p e below T1 m 28 #[rv ad, rv at_, rv r1, iv 3, iv u0, iv 0, iv 0, .unset, .unset] [] _
    refine st2 _ ?_
    show sS p e below T2 m 28 #[rv ad, rv at_, rv r1, iv 3, .val (.int (own_b (own_cnt (own_cnt (own_cnt (0 : Int32) u0 u0) u1 u0) u2 u0) (0 : Int32) u0 u0)), .val (.int (own_c (own_cnt (own_cnt (own_cnt (0 : Int32) u0 u0) u1 u0) u2 u0) (0 : Int32))), iv 1, .val (.int (own_cnt (own_cnt (own_cnt (0 : Int32) u0 u0) u1 u0) u2 u0)), iv 3] [] _
    refine st3 _ ?_
    show sS p e below T3 m 28 #[rv ad, rv at_, rv r1, iv 3, .val (.int (own_b (own_cnt (own_cnt (own_cnt (0 : Int32) u0 u1) u1 u1) u2 u1) (own_c (own_cnt (own_cnt (own_cnt (0 : Int32) u0 u0) u1 u0) u2 u0) (0 : Int32)) (own_b (own_cnt (own_cnt (own_cnt (0 : Int32) u0 u0) u1 u0) u2 u0) (0 : Int32) u0 u0) u1)), .val (.int (own_c (own_cnt (own_cnt (own_cnt (0 : Int32) u0 u1) u1 u1) u2 u1) (own_c (own_cnt (own_cnt (own_cnt (0 : Int32) u0 u0) u1 u0) u2 u0) (0 : Int32)))), iv 2, .val (.int (own_cnt (own_cnt (own_cnt (0 : Int32) u0 u1) u1 u1) u2 u1)), iv 3] [] _
    refine st4 _ ?_
    show sS p e below T4 m 28 #[rv ad, rv at_, rv r1, iv 3, .val (.int (own_b (own_cnt (own_cnt (own_cnt (0 : Int32) u0 u2) u1 u2) u2 u2) (own_c (own_cnt (own_cnt (own_cnt (0 : Int32) u0 u1) u1 u1) u2 u1) (own_c (own_cnt (own_cnt (own_cnt (0 : Int32) u0 u0) u1 u0) u2 u0) (0 : Int32))) (own_b (own_cnt (own_cnt (own_cnt (0 : Int32) u0 u1) u1 u1) u2 u1) (own_c (own_cnt (own_cnt (own_cnt (0 : Int32) u0 u0) u1 u0) u2 u0) (0 : Int32)) (own_b (own_cnt (own_cnt (own_cnt (0 : Int32) u0 u0) u1 u0) u2 u0) (0 : Int32) u0 u0) u1) u2)), .val (.int (own_c (own_cnt (own_cnt (own_cnt (0 : Int32) u0 u2) u1 u2) u2 u2) (own_c (own_cnt (own_cnt (own_cnt (0 : Int32) u0 u1) u1 u1) u2 u1) (own_c (own_cnt (own_cnt (own_cnt (0 : Int32) u0 u0) u1 u0) u2 u0) (0 : Int32))))), iv 3, .val (.int (own_cnt (own_cnt (own_cnt (0 : Int32) u0 u2) u1 u2) u2 u2)), iv 3] [] _
    refine XS.iload X4.here hx rfl (hb hby dI_28) rfl ?_
    refine XS.iloadN X4.here hx rfl (hb hby dI_30) rfl ?_
    refine XS.icmpYes X4.here hx rfl (pc0 := 31) (pc' := 95) rfl (hb hby dI_31) rfl (by decide) (by decide) (by decide) ?_
    refine XS.iload X4.here hx rfl (hb hby dI_95) rfl ?_
    show sS p e below T4 m 97 #[rv ad, rv at_, rv r1, iv 3, .val (.int (own_b (own_cnt (own_cnt (own_cnt (0 : Int32) u0 u2) u1 u2) u2 u2) (own_c (own_cnt (own_cnt (own_cnt (0 : Int32) u0 u1) u1 u1) u2 u1) (own_c (own_cnt (own_cnt (own_cnt (0 : Int32) u0 u0) u1 u0) u2 u0) (0 : Int32))) (own_b (own_cnt (own_cnt (own_cnt (0 : Int32) u0 u1) u1 u1) u2 u1) (own_c (own_cnt (own_cnt (own_cnt (0 : Int32) u0 u0) u1 u0) u2 u0) (0 : Int32)) (own_b (own_cnt (own_cnt (own_cnt (0 : Int32) u0 u0) u1 u0) u2 u0) (0 : Int32) u0 u0) u1) u2)), .val (.int (own_c (own_cnt (own_cnt (own_cnt (0 : Int32) u0 u2) u1 u2) u2 u2) (own_c (own_cnt (own_cnt (own_cnt (0 : Int32) u0 u1) u1 u1) u2 u1) (own_c (own_cnt (own_cnt (own_cnt (0 : Int32) u0 u0) u1 u0) u2 u0) (0 : Int32))))), iv 3, .val (.int (own_cnt (own_cnt (own_cnt (0 : Int32) u0 u2) u1 u2) u2 u2)), iv 3] [(.int (own_b (own_cnt (own_cnt (own_cnt (0 : Int32) u0 u2) u1 u2) u2 u2) (own_c (own_cnt (own_cnt (own_cnt (0 : Int32) u0 u1) u1 u1) u2 u1) (own_c (own_cnt (own_cnt (own_cnt (0 : Int32) u0 u0) u1 u0) u2 u0) (0 : Int32))) (own_b (own_cnt (own_cnt (own_cnt (0 : Int32) u0 u1) u1 u1) u2 u1) (own_c (own_cnt (own_cnt (own_cnt (0 : Int32) u0 u0) u1 u0) u2 u0) (0 : Int32)) (own_b (own_cnt (own_cnt (own_cnt (0 : Int32) u0 u0) u1 u0) u2 u0) (0 : Int32) u0 u0) u1) u2))] _
    exact retI X4 hx Bd.returns (hb hby dI_97) hr
  · show Qtb4 Z ad kd at_ kt d0 d1 d2 d3 t0 t1 t2 t3 h0 n0 _ T4.heap _
    rw [(e4.trans hh4)]
    exact ⟨congrArg (fun z => some (Value.int z)) (by unfold own_res4; rw [← hq]; show _ = own_got3 (own_g [t0, t1, t2, t3] z0) (own_g [t0, t1, t2, t3] z1) (own_g [t0, t1, t2, t3] z2); rw [← hu0, ← hu1, ← hu2]; rfl), N4, ((Keep.refl h0 []).trans K1 all0)⟩
theorem ef_tb5 (m : MethodId) (x0 : Addr) (x1 : Addr) : entryFrame m #[(.ref x0), (.ref x1)] 9 = mkF m 0 #[rv x0, rv x1, .unset, .unset, .unset, .unset, .unset, .unset, .unset] [] := by first | (simp [entryFrame, mkF, argsToLocals, Value.category]; done) | rfl
def Qtb5 (Z : State) (ad : Addr) (kd : ClassId) (at_ : Addr) (kt : ClassId) (d0 d1 d2 d3 d4 t0 t1 t2 t3 t4 : Int32) (h0 : Heap) (n0 : Nat) (v : Option Value) (h : Heap) (L : List Loc) : Prop := v = some (.int (own_res5 d0 d1 d2 d3 d4 t0 t1 t2 t3 t4)) ∧ Fr n0 L ∧ Keep h0 h []
set_option maxRecDepth 65536 in
set_option maxHeartbeats 40000000 in
theorem rmtb5 (l : Launch) (Z : State) (a0 : Array Value) (hw : ∀ d ∈ tables_1, d.before a0 Z = true) (ws : List Jvm.Cond) (ad : Addr) (kd : ClassId) (at_ : Addr) (kt : ClassId) (d0 d1 d2 d3 d4 t0 t1 t2 t3 t4 : Int32) (h0 : Heap) (n0 : Nat) (Z0 : n0 ≤ h0.size) (V_d : Arv Z h0 ad kd .double (5 : Int32) [(.double (FP.i2d d0)), (.double (FP.i2d d1)), (.double (FP.i2d d2)), (.double (FP.i2d d3)), (.double (FP.i2d d4))] (.double (0 : UInt64))) (V_t : Arv Z h0 at_ kt .int (5 : Int32) [(.int t0), (.int t1), (.int t2), (.int t3), (.int t4)] (.int (0 : Int32))) :
    MetFree l (⟨cN1, "typeByNeighbours", "([D[I)I"⟩ : MethodName) (head1 (Jvm.Cond.code (⟨cN1, "typeByNeighbours", "([D[I)I"⟩ : MethodName) prog_5_method_3_code 9 (some .int) :: ws) ({ frames := 4, cells := 1, slots := 3, locals := 82 } : Room)) (fun a U => a = #[(.ref ad), (.ref at_)] ∧ Z.Warmed39 U.vm ∧ U.heap = h0) (fun _ _ _ _ _ => True) (fun _ U o U' => ∃ v L, o = .returned v ∧ Qtb5 Z ad kd at_ kt d0 d1 d2 d3 d4 t0 t1 t2 t3 t4 h0 n0 v U'.heap L ∧ FrameEnd U o U' L ({ frames := 4, cells := 1, slots := 3, locals := 82 } : Room).cells ({ frames := 4, cells := 1, slots := 3, locals := 82 } : Room).slots) := by
  refine MetFree.of_bodySF (plainFor_of_name pn_2) hisR ?_
  intro p e s m args below meth c s₁ Bd hml0 hP hK
  obtain ⟨rfl, hZ, hh⟩ := hP
  have hx := Bd.exec
  have hby := Bd.bytes
  have hml : c.maxLocals = 9 := hml0
  have hown : s.vm.findClass cN1 = some m.cls := findClass_of_methodNamed Bd.named
  have hnm := (name_of_methodNamed Bd.named Bd.method).1
  have X0 : Stand p l e ({ frames := 4, cells := 1, slots := 3, locals := 82 } : Room) s m #[(.ref ad), (.ref at_)] below meth c s₁ [] 0 0 := Stand.of_body Bd
  have e0 : s₁.heap = h0 := by rw [← hh, Bd.state]; rfl
  have N0 := Fr.nil n0
  have pre0 : ∀ t, Steps p.tables e below (s₁.setTop (mkF m 0 #[rv ad, rv at_, .unset, .unset, .unset, .unset, .unset, .unset, .unset] [])) t → Steps p.tables e below (s₁.setTop (entryFrame m #[(.ref ad), (.ref at_)] 9)) t := fun t k => castTop (ef_tb5 m ad at_) k
  obtain ⟨_, _, ⟨T1, L1, k1, n1⟩, -, X1, ⟨Lc1, hQ1, l1, y1, z1⟩, st1⟩ := Jvm.LawKit.callS X0 hx (y := ⟨cN1, "nearest", "([DI)[I"⟩) hown (mvT hZ (wK hw (i := 7) rfl)) (mvT hZ (wK hw (i := 8) rfl)) (mvT hZ (wK hw (i := 5) rfl)) (mvT hZ (wK hw (i := 9) rfl)) (by decide) (backOf (W := 0) (rmne5 l Z a0 hw [] ad kd d0 d1 d2 d3 d4 h0 n0 Z0 V_d) hZ (wK hw (i := 9) rfl) (wK hw (i := 5) rfl) (by decide) (by decide)) (g := (mkF m 2 #[rv ad, rv at_, .unset, .unset, .unset, .unset, .unset, .unset, .unset] [(.int (3 : Int32)), (.ref ad)])) rfl (by rw [hml]; rfl) (argsL := [(.ref ad), (.int (3 : Int32))]) (rest := []) (lenOf pd_6 rfl) rfl (Nat.le_of_eq rfl) (hb hby dI_2) (fun _ _ => ⟨rfl, e0, (by decide : 0 + 1 ≤ _), (by decide : 0 + 3 ≤ _)⟩)
  dsimp only [Pt.U, Pt.locs, Pt.cells, Pt.slots] at X1 l1 y1 z1 st1 hQ1
  subst l1 y1 z1
  obtain ⟨r1, kb1, z0, z1, z2, w0, w1, w2, rfl, N1q, K1, g1, V1, hq, b_z0, b_z1, b_z2⟩ := hQ1
  have N1 := Fr.app N0 N1q
  obtain ⟨u0, hu0⟩ : ∃ q : Int32, q = own_g [t0, t1, t2, t3, t4] z0 := ⟨_, rfl⟩
  have e_z0 : ([(.int t0), (.int t1), (.int t2), (.int t3), (.int t4)] : List Value).getD z0.toNatClampNeg (.int (0 : Int32)) = .int u0 := (own_getI [t0, t1, t2, t3, t4] _).trans (congrArg Value.int hu0.symm)
  obtain ⟨u1, hu1⟩ : ∃ q : Int32, q = own_g [t0, t1, t2, t3, t4] z1 := ⟨_, rfl⟩
  have e_z1 : ([(.int t0), (.int t1), (.int t2), (.int t3), (.int t4)] : List Value).getD z1.toNatClampNeg (.int (0 : Int32)) = .int u1 := (own_getI [t0, t1, t2, t3, t4] _).trans (congrArg Value.int hu1.symm)
  obtain ⟨u2, hu2⟩ : ∃ q : Int32, q = own_g [t0, t1, t2, t3, t4] z2 := ⟨_, rfl⟩
  have e_z2 : ([(.int t0), (.int t1), (.int t2), (.int t3), (.int t4)] : List Value).getD z2.toNatClampNeg (.int (0 : Int32)) = .int u2 := (own_getI [t0, t1, t2, t3, t4] _).trans (congrArg Value.int hu2.symm)
  obtain ⟨T2, h2, L2, _, _, X2, e2, N2, hh2, rfl, rfl, st2⟩ := to_3_0 (ad := ad) (x4 := u0) (x5 := (0 : Int32)) X1 hx hZ hw hby hml hown rfl (Nat.le_trans Z0 K1.1) N1 (V_t.keep K1 nin0) V1 b_z0 e_z0 b_z1 e_z1 b_z2 e_z2
  obtain ⟨T3, h3, L3, _, _, X3, e3, N3, hh3, rfl, rfl, st3⟩ := to_3_1 (ad := ad) (x4 := (own_b (own_cnt (own_cnt (own_cnt (0 : Int32) u0 u0) u1 u0) u2 u0) (0 : Int32) u0 u0)) (x5 := (own_c (own_cnt (own_cnt (own_cnt (0 : Int32) u0 u0) u1 u0) u2 u0) (0 : Int32))) (x7 := (own_cnt (own_cnt (own_cnt (0 : Int32) u0 u0) u1 u0) u2 u0)) (x8 := (3 : Int32)) X2 hx hZ hw hby hml hown (e2.trans hh2) (Nat.le_trans Z0 K1.1) N2 (V_t.keep K1 nin0) V1 b_z0 e_z0 b_z1 e_z1 b_z2 e_z2
  obtain ⟨T4, h4, L4, _, _, X4, e4, N4, hh4, rfl, rfl, st4⟩ := to_3_2 (ad := ad) (x4 := (own_b (own_cnt (own_cnt (own_cnt (0 : Int32) u0 u1) u1 u1) u2 u1) (own_c (own_cnt (own_cnt (own_cnt (0 : Int32) u0 u0) u1 u0) u2 u0) (0 : Int32)) (own_b (own_cnt (own_cnt (own_cnt (0 : Int32) u0 u0) u1 u0) u2 u0) (0 : Int32) u0 u0) u1)) (x5 := (own_c (own_cnt (own_cnt (own_cnt (0 : Int32) u0 u1) u1 u1) u2 u1) (own_c (own_cnt (own_cnt (own_cnt (0 : Int32) u0 u0) u1 u0) u2 u0) (0 : Int32)))) (x7 := (own_cnt (own_cnt (own_cnt (0 : Int32) u0 u1) u1 u1) u2 u1)) (x8 := (3 : Int32)) X3 hx hZ hw hby hml hown (e3.trans hh3) (Nat.le_trans Z0 K1.1) N3 (V_t.keep K1 nin0) V1 b_z0 e_z0 b_z1 e_z1 b_z2 e_z2
  obtain ⟨fs, hr, hrun, hended, hW, hsame⟩ := X4.leave (v := some (.int (own_b (own_cnt (own_cnt (own_cnt (0 : Int32) u0 u2) u1 u2) u2 u2) (own_c (own_cnt (own_cnt (own_cnt (0 : Int32) u0 u1) u1 u1) u2 u1) (own_c (own_cnt (own_cnt (own_cnt (0 : Int32) u0 u0) u1 u0) u2 u0) (0 : Int32))) (own_b (own_cnt (own_cnt (own_cnt (0 : Int32) u0 u1) u1 u1) u2 u1) (own_c (own_cnt (own_cnt (own_cnt (0 : Int32) u0 u0) u1 u0) u2 u0) (0 : Int32)) (own_b (own_cnt (own_cnt (own_cnt (0 : Int32) u0 u0) u1 u0) u2 u0) (0 : Int32) u0 u0) u1) u2))) (fun h => by rw [Bd.returns] at h; cases h)
  refine ⟨_, _, pre0 _ ?_, hrun, hended, _, _, rfl, ?_, ⟨_, rfl⟩, hW, hsame.mono (by decide) (by decide)⟩
  · show sS p e below s₁ m 0 #[rv ad, rv at_, .unset, .unset, .unset, .unset, .unset, .unset, .unset] [] _
    refine XS.aloadN X0.here hx rfl (hb hby dI_0) rfl rfl ?_
    refine XS.iconst X0.here hx rfl (hb hby dI_1) ?_
    show sS p e below s₁ m 2 #[rv ad, rv at_, .unset, .unset, .unset, .unset, .unset, .unset, .unset] [(.int (3 : Int32)), (.ref ad)] _
    refine st1 _ ?_
    show sS p e below T1 m 5 #[rv ad, rv at_, .unset, .unset, .unset, .unset, .unset, .unset, .unset] [(.ref r1)] _
    refine XS.astoreN X1.here hx rfl (hb hby dI_5) rfl rfl (l' := #[rv ad, rv at_, rv r1, .unset, .unset, .unset, .unset, .unset, .unset]) rfl ?_
    refine XS.aloadN X1.here hx rfl (hb hby dI_6) rfl rfl ?_
    refine own_len X1 hx hZ rfl V1 rfl rfl (hb hby dI_7) ?_
    refine XS.istoreN X1.here hx rfl (hb hby dI_8) rfl (l' := #[rv ad, rv at_, rv r1, iv 3, .unset, .unset, .unset, .unset, .unset]) rfl ?_
    refine XS.iloadN X1.here hx rfl (hb hby dI_9) rfl ?_
    refine XS.ifYes X1.here hx rfl (pc0 := 10) (pc' := 15) rfl (hb hby dI_10) rfl (by decide) (by decide) (by decide) ?_
    show sS p e below T1 m 15 #[rv ad, rv at_, rv r1, iv 3, .unset, .unset, .unset, .unset, .unset] [] _
    refine XS.aloadN X1.here hx rfl (hb hby dI_15) rfl rfl ?_
    refine XS.aloadN X1.here hx rfl (hb hby dI_16) rfl rfl ?_
    refine XS.iconst X1.here hx rfl (hb hby dI_17) ?_
    refine own_ldI X1 hx hZ rfl V1 ⟨by decide, by decide⟩ (v := z0) rfl rfl rfl (hb hby dI_18) ?_
    refine own_ldI X1 hx hZ rfl (V_t.keep K1 nin0) b_z0 (v := u0) e_z0 rfl rfl (hb hby dI_19) ?_
    refine XS.istore X1.here hx rfl (hb hby dI_20) rfl (l' := #[rv ad, rv at_, rv r1, iv 3, iv u0, .unset, .unset, .unset, .unset]) rfl ?_
    show sS p e below T1 m 22 #[rv ad, rv at_, rv r1, iv 3, iv u0, .unset, .unset, .unset, .unset] [] _
    refine XS.iconst X1.here hx rfl (hb hby dI_22) ?_
    refine XS.istore X1.here hx rfl (hb hby dI_23) rfl (l' := #[rv ad, rv at_, rv r1, iv 3, iv u0, iv 0, .unset, .unset, .unset]) rfl ?_
    refine XS.iconst X1.here hx rfl (hb hby dI_25) ?_
    refine XS.istore X1.here hx rfl (hb hby dI_26) rfl (l' := #[rv ad, rv at_, rv r1, iv 3, iv u0, iv 0, iv 0, .unset, .unset]) rfl ?_
    show sS p e below T1 m 28 #[rv ad, rv at_, rv r1, iv 3, iv u0, iv 0, iv 0, .unset, .unset] [] _
    refine st2 _ ?_
    show sS p e below T2 m 28 #[rv ad, rv at_, rv r1, iv 3, .val (.int (own_b (own_cnt (own_cnt (own_cnt (0 : Int32) u0 u0) u1 u0) u2 u0) (0 : Int32) u0 u0)), .val (.int (own_c (own_cnt (own_cnt (own_cnt (0 : Int32) u0 u0) u1 u0) u2 u0) (0 : Int32))), iv 1, .val (.int (own_cnt (own_cnt (own_cnt (0 : Int32) u0 u0) u1 u0) u2 u0)), iv 3] [] _
    refine st3 _ ?_
    show sS p e below T3 m 28 #[rv ad, rv at_, rv r1, iv 3, .val (.int (own_b (own_cnt (own_cnt (own_cnt (0 : Int32) u0 u1) u1 u1) u2 u1) (own_c (own_cnt (own_cnt (own_cnt (0 : Int32) u0 u0) u1 u0) u2 u0) (0 : Int32)) (own_b (own_cnt (own_cnt (own_cnt (0 : Int32) u0 u0) u1 u0) u2 u0) (0 : Int32) u0 u0) u1)), .val (.int (own_c (own_cnt (own_cnt (own_cnt (0 : Int32) u0 u1) u1 u1) u2 u1) (own_c (own_cnt (own_cnt (own_cnt (0 : Int32) u0 u0) u1 u0) u2 u0) (0 : Int32)))), iv 2, .val (.int (own_cnt (own_cnt (own_cnt (0 : Int32) u0 u1) u1 u1) u2 u1)), iv 3] [] _
    refine st4 _ ?_
    show sS p e below T4 m 28 #[rv ad, rv at_, rv r1, iv 3, .val (.int (own_b (own_cnt (own_cnt (own_cnt (0 : Int32) u0 u2) u1 u2) u2 u2) (own_c (own_cnt (own_cnt (own_cnt (0 : Int32) u0 u1) u1 u1) u2 u1) (own_c (own_cnt (own_cnt (own_cnt (0 : Int32) u0 u0) u1 u0) u2 u0) (0 : Int32))) (own_b (own_cnt (own_cnt (own_cnt (0 : Int32) u0 u1) u1 u1) u2 u1) (own_c (own_cnt (own_cnt (own_cnt (0 : Int32) u0 u0) u1 u0) u2 u0) (0 : Int32)) (own_b (own_cnt (own_cnt (own_cnt (0 : Int32) u0 u0) u1 u0) u2 u0) (0 : Int32) u0 u0) u1) u2)), .val (.int (own_c (own_cnt (own_cnt (own_cnt (0 : Int32) u0 u2) u1 u2) u2 u2) (own_c (own_cnt (own_cnt (own_cnt (0 : Int32) u0 u1) u1 u1) u2 u1) (own_c (own_cnt (own_cnt (own_cnt (0 : Int32) u0 u0) u1 u0) u2 u0) (0 : Int32))))), iv 3, .val (.int (own_cnt (own_cnt (own_cnt (0 : Int32) u0 u2) u1 u2) u2 u2)), iv 3] [] _
    refine XS.iload X4.here hx rfl (hb hby dI_28) rfl ?_
    refine XS.iloadN X4.here hx rfl (hb hby dI_30) rfl ?_
    refine XS.icmpYes X4.here hx rfl (pc0 := 31) (pc' := 95) rfl (hb hby dI_31) rfl (by decide) (by decide) (by decide) ?_
    refine XS.iload X4.here hx rfl (hb hby dI_95) rfl ?_
    show sS p e below T4 m 97 #[rv ad, rv at_, rv r1, iv 3, .val (.int (own_b (own_cnt (own_cnt (own_cnt (0 : Int32) u0 u2) u1 u2) u2 u2) (own_c (own_cnt (own_cnt (own_cnt (0 : Int32) u0 u1) u1 u1) u2 u1) (own_c (own_cnt (own_cnt (own_cnt (0 : Int32) u0 u0) u1 u0) u2 u0) (0 : Int32))) (own_b (own_cnt (own_cnt (own_cnt (0 : Int32) u0 u1) u1 u1) u2 u1) (own_c (own_cnt (own_cnt (own_cnt (0 : Int32) u0 u0) u1 u0) u2 u0) (0 : Int32)) (own_b (own_cnt (own_cnt (own_cnt (0 : Int32) u0 u0) u1 u0) u2 u0) (0 : Int32) u0 u0) u1) u2)), .val (.int (own_c (own_cnt (own_cnt (own_cnt (0 : Int32) u0 u2) u1 u2) u2 u2) (own_c (own_cnt (own_cnt (own_cnt (0 : Int32) u0 u1) u1 u1) u2 u1) (own_c (own_cnt (own_cnt (own_cnt (0 : Int32) u0 u0) u1 u0) u2 u0) (0 : Int32))))), iv 3, .val (.int (own_cnt (own_cnt (own_cnt (0 : Int32) u0 u2) u1 u2) u2 u2)), iv 3] [(.int (own_b (own_cnt (own_cnt (own_cnt (0 : Int32) u0 u2) u1 u2) u2 u2) (own_c (own_cnt (own_cnt (own_cnt (0 : Int32) u0 u1) u1 u1) u2 u1) (own_c (own_cnt (own_cnt (own_cnt (0 : Int32) u0 u0) u1 u0) u2 u0) (0 : Int32))) (own_b (own_cnt (own_cnt (own_cnt (0 : Int32) u0 u1) u1 u1) u2 u1) (own_c (own_cnt (own_cnt (own_cnt (0 : Int32) u0 u0) u1 u0) u2 u0) (0 : Int32)) (own_b (own_cnt (own_cnt (own_cnt (0 : Int32) u0 u0) u1 u0) u2 u0) (0 : Int32) u0 u0) u1) u2))] _
    exact retI X4 hx Bd.returns (hb hby dI_97) hr
  · show Qtb5 Z ad kd at_ kt d0 d1 d2 d3 d4 t0 t1 t2 t3 t4 h0 n0 _ T4.heap _
    rw [(e4.trans hh4)]
    exact ⟨congrArg (fun z => some (Value.int z)) (by unfold own_res5; rw [← hq]; show _ = own_got3 (own_g [t0, t1, t2, t3, t4] z0) (own_g [t0, t1, t2, t3, t4] z1) (own_g [t0, t1, t2, t3, t4] z2); rw [← hu0, ← hu1, ← hu2]; rfl), N4, ((Keep.refl h0 []).trans K1 all0)⟩
set_option maxRecDepth 65536 in
set_option maxHeartbeats 40000000 in
theorem lawpre {p : Program} {l : Launch} {e : Env} {s : State} {m : MethodId} {args : Array Value} {below : List Frame} {meth : Method} {c : Code} {T0 : State} {locs : List Loc}  {Z : State} {a0 : Array Value} {h0 : Heap} {n0 : Nat} (p0 : Int32) (p1 : Int64) (p2 p3 p4 p5 : Int32) (X0 : Stand p l e room_1 s m args below meth c T0 locs 0 0) (hx : p.tables.exec = Jvm.exec) (hZ : Z.Warmed39 s.vm) (hw : ∀ d ∈ tables_1, d.before a0 Z = true) (hby : c.code = code) (hml : c.maxLocals = 17) (hown : s.vm.findClass cN0 = some m.cls) (e0 : T0.heap = h0) (Z0 : n0 ≤ h0.size) (N0 : Fr n0 locs)  :
    ∃ (T' : State) (h' : Heap) (L' : List Loc) (bd bt : Addr) (k1 k2 : ClassId), Stand p l e room_1 s m args below meth c T' L' 2 10 ∧ T'.heap = h' ∧ Fr n0 L' ∧ Keep h0 h' [] ∧ h0.size ≤ bd ∧ h0.size ≤ bt ∧ bd ≠ bt ∧ Arv Z h' bd k1 .int (5 : Int32) [(.int (own_e0 p1)), (.int (own_e (3 : Int32) p1)), (.int (own_e (6 : Int32) p1)), (.int (own_e (9 : Int32) p1)), (.int (own_e (12 : Int32) p1))] (.int (0 : Int32)) ∧ Arv Z h' bt k2 .int (5 : Int32) [(.int p2), (.int p3), (.int p4), (.int p5), (.int (own_t4 p0))] (.int (0 : Int32)) ∧ ∀ target, Steps p.tables e below (T'.setTop (mkF m 110 #[iv p0, .val (.long p1), .second, iv p2, iv p3, iv p4, iv p5, .val (.int (own_n p0)), rv bd, rv bt, .unset, .unset, .unset, .unset, .unset, .unset, .unset] [])) target → Steps p.tables e below (T0.setTop (mkF m 0 #[iv p0, .val (.long p1), .second, iv p2, iv p3, iv p4, iv p5, .unset, .unset, .unset, .unset, .unset, .unset, .unset, .unset, .unset, .unset] [])) target := by
  obtain ⟨T1, h1, k1, X1, e1, E1, A1, Ax1, st1⟩ := newPE X0 hx hZ (wK hw (i := 0) rfl) e0 (g := (mkF m 10 #[iv p0, .val (.long p1), .second, iv p2, iv p3, iv p4, iv p5, .val (.int (own_n p0)), .unset, .unset, .unset, .unset, .unset, .unset, .unset, .unset, .unset] [(.int (5 : Int32))])) rfl (hb hby at_10) rfl (by decide) (cap := 5) (by decide) (by decide) (by decide) (by decide) (ad := "[I") (by decide)
  obtain ⟨b1, g1⟩ : ∃ z, z = h0.size := ⟨_, rfl⟩
  rw [← g1] at A1 Ax1 st1
  have V1 : Arv Z h1 b1 k1 .int (5 : Int32) [(.int (0 : Int32)), (.int (0 : Int32)), (.int (0 : Int32)), (.int (0 : Int32)), (.int (0 : Int32))] (.int (0 : Int32)) := (Arv.new A1 (by decide)).pad (pad_rep [] (.int (0 : Int32)) 5)
  obtain ⟨cl2, Ar2, q2, S2, P2, Ha2, G2⟩ := V1
  have hin2 : ¬ ((0 : Int32) < 0 ∨ cl2.slots.size ≤ ((0 : Int32)).toNatClampNeg) := inb_of S2 ⟨by decide, by decide⟩
  obtain ⟨T3, h3, X3, e3, W3, st3⟩ := stI X1 hx hZ e1 Ar2 (j := (0 : Int32)) hin2 (g := (mkF m 23 #[iv p0, .val (.long p1), .second, iv p2, iv p3, iv p4, iv p5, .val (.int (own_n p0)), rv b1, .unset, .unset, .unset, .unset, .unset, .unset, .unset, .unset] [(.int (own_e0 p1)), (.int (0 : Int32)), (.ref b1)])) rfl rfl (hb hby at_23)
  have V3 : Arv Z h3 b1 k1 .int (5 : Int32) [(.int (own_e0 p1)), (.int (0 : Int32)), (.int (0 : Int32)), (.int (0 : Int32)), (.int (0 : Int32))] (.int (0 : Int32)) := Arv.set Ar2 q2 S2 P2 Ha2 G2 rfl W3 0 rfl (Nat.le_of_ble_eq_true rfl)
  have N3 := Fr.snoc X3 N0 (Nat.le_trans Z0 (Nat.le_trans (Nat.le_refl _) (Nat.le_of_eq g1.symm)))
  obtain ⟨cl4, Ar4, q4, S4, P4, Ha4, G4⟩ := V3
  have hin4 : ¬ ((1 : Int32) < 0 ∨ cl4.slots.size ≤ ((1 : Int32)).toNatClampNeg) := inb_of S4 ⟨by decide, by decide⟩
  obtain ⟨T5, h5, X5, e5, W5, st5⟩ := stI X3 hx hZ e3 Ar4 (j := (1 : Int32)) hin4 (g := (mkF m 35 #[iv p0, .val (.long p1), .second, iv p2, iv p3, iv p4, iv p5, .val (.int (own_n p0)), rv b1, .unset, .unset, .unset, .unset, .unset, .unset, .unset, .unset] [(.int (own_e (3 : Int32) p1)), (.int (1 : Int32)), (.ref b1)])) rfl rfl (hb hby at_35)
  have V5 : Arv Z h5 b1 k1 .int (5 : Int32) [(.int (own_e0 p1)), (.int (own_e (3 : Int32) p1)), (.int (0 : Int32)), (.int (0 : Int32)), (.int (0 : Int32))] (.int (0 : Int32)) := Arv.set Ar4 q4 S4 P4 Ha4 G4 rfl W5 1 rfl (Nat.le_of_ble_eq_true rfl)
  have N5 := Fr.snoc X5 N3 (Nat.le_trans Z0 (Nat.le_trans (Nat.le_refl _) (Nat.le_of_eq g1.symm)))
  obtain ⟨cl6, Ar6, q6, S6, P6, Ha6, G6⟩ := V5
  have hin6 : ¬ ((2 : Int32) < 0 ∨ cl6.slots.size ≤ ((2 : Int32)).toNatClampNeg) := inb_of S6 ⟨by decide, by decide⟩
  obtain ⟨T7, h7, X7, e7, W7, st7⟩ := stI X5 hx hZ e5 Ar6 (j := (2 : Int32)) hin6 (g := (mkF m 48 #[iv p0, .val (.long p1), .second, iv p2, iv p3, iv p4, iv p5, .val (.int (own_n p0)), rv b1, .unset, .unset, .unset, .unset, .unset, .unset, .unset, .unset] [(.int (own_e (6 : Int32) p1)), (.int (2 : Int32)), (.ref b1)])) rfl rfl (hb hby at_48)
  have V7 : Arv Z h7 b1 k1 .int (5 : Int32) [(.int (own_e0 p1)), (.int (own_e (3 : Int32) p1)), (.int (own_e (6 : Int32) p1)), (.int (0 : Int32)), (.int (0 : Int32))] (.int (0 : Int32)) := Arv.set Ar6 q6 S6 P6 Ha6 G6 rfl W7 2 rfl (Nat.le_of_ble_eq_true rfl)
  have N7 := Fr.snoc X7 N5 (Nat.le_trans Z0 (Nat.le_trans (Nat.le_refl _) (Nat.le_of_eq g1.symm)))
  obtain ⟨cl8, Ar8, q8, S8, P8, Ha8, G8⟩ := V7
  have hin8 : ¬ ((3 : Int32) < 0 ∨ cl8.slots.size ≤ ((3 : Int32)).toNatClampNeg) := inb_of S8 ⟨by decide, by decide⟩
  obtain ⟨T9, h9, X9, e9, W9, st9⟩ := stI X7 hx hZ e7 Ar8 (j := (3 : Int32)) hin8 (g := (mkF m 61 #[iv p0, .val (.long p1), .second, iv p2, iv p3, iv p4, iv p5, .val (.int (own_n p0)), rv b1, .unset, .unset, .unset, .unset, .unset, .unset, .unset, .unset] [(.int (own_e (9 : Int32) p1)), (.int (3 : Int32)), (.ref b1)])) rfl rfl (hb hby at_61)
  have V9 : Arv Z h9 b1 k1 .int (5 : Int32) [(.int (own_e0 p1)), (.int (own_e (3 : Int32) p1)), (.int (own_e (6 : Int32) p1)), (.int (own_e (9 : Int32) p1)), (.int (0 : Int32))] (.int (0 : Int32)) := Arv.set Ar8 q8 S8 P8 Ha8 G8 rfl W9 3 rfl (Nat.le_of_ble_eq_true rfl)
  have N9 := Fr.snoc X9 N7 (Nat.le_trans Z0 (Nat.le_trans (Nat.le_refl _) (Nat.le_of_eq g1.symm)))
  obtain ⟨cl10, Ar10, q10, S10, P10, Ha10, G10⟩ := V9
  have hin10 : ¬ ((4 : Int32) < 0 ∨ cl10.slots.size ≤ ((4 : Int32)).toNatClampNeg) := inb_of S10 ⟨by decide, by decide⟩
  obtain ⟨T11, h11, X11, e11, W11, st11⟩ := stI X9 hx hZ e9 Ar10 (j := (4 : Int32)) hin10 (g := (mkF m 74 #[iv p0, .val (.long p1), .second, iv p2, iv p3, iv p4, iv p5, .val (.int (own_n p0)), rv b1, .unset, .unset, .unset, .unset, .unset, .unset, .unset, .unset] [(.int (own_e (12 : Int32) p1)), (.int (4 : Int32)), (.ref b1)])) rfl rfl (hb hby at_74)
  have V11 : Arv Z h11 b1 k1 .int (5 : Int32) [(.int (own_e0 p1)), (.int (own_e (3 : Int32) p1)), (.int (own_e (6 : Int32) p1)), (.int (own_e (9 : Int32) p1)), (.int (own_e (12 : Int32) p1))] (.int (0 : Int32)) := Arv.set Ar10 q10 S10 P10 Ha10 G10 rfl W11 4 rfl (Nat.le_of_ble_eq_true rfl)
  have N11 := Fr.snoc X11 N9 (Nat.le_trans Z0 (Nat.le_trans (Nat.le_refl _) (Nat.le_of_eq g1.symm)))
  obtain ⟨T12, h12, k12, X12, e12, E12, A12, Ax12, st12⟩ := newPE X11 hx hZ (wK hw (i := 0) rfl) e11 (g := (mkF m 76 #[iv p0, .val (.long p1), .second, iv p2, iv p3, iv p4, iv p5, .val (.int (own_n p0)), rv b1, .unset, .unset, .unset, .unset, .unset, .unset, .unset, .unset] [(.int (5 : Int32))])) rfl (hb hby at_76) rfl (by decide) (cap := 5) (by decide) (by decide) (by decide) (by decide) (ad := "[I") (by decide)
  obtain ⟨b12, g12⟩ : ∃ z, z = h11.size := ⟨_, rfl⟩
  rw [← g12] at A12 Ax12 st12
  have V12 : Arv Z h12 b12 k12 .int (5 : Int32) [(.int (0 : Int32)), (.int (0 : Int32)), (.int (0 : Int32)), (.int (0 : Int32)), (.int (0 : Int32))] (.int (0 : Int32)) := (Arv.new A12 (by decide)).pad (pad_rep [] (.int (0 : Int32)) 5)
  obtain ⟨cl13, Ar13, q13, S13, P13, Ha13, G13⟩ := V12
  have hin13 : ¬ ((0 : Int32) < 0 ∨ cl13.slots.size ≤ ((0 : Int32)).toNatClampNeg) := inb_of S13 ⟨by decide, by decide⟩
  obtain ⟨T14, h14, X14, e14, W14, st14⟩ := stI X12 hx hZ e12 Ar13 (j := (0 : Int32)) hin13 (g := (mkF m 84 #[iv p0, .val (.long p1), .second, iv p2, iv p3, iv p4, iv p5, .val (.int (own_n p0)), rv b1, rv b12, .unset, .unset, .unset, .unset, .unset, .unset, .unset] [(.int p2), (.int (0 : Int32)), (.ref b12)])) rfl rfl (hb hby at_84)
  have V14 : Arv Z h14 b12 k12 .int (5 : Int32) [(.int p2), (.int (0 : Int32)), (.int (0 : Int32)), (.int (0 : Int32)), (.int (0 : Int32))] (.int (0 : Int32)) := Arv.set Ar13 q13 S13 P13 Ha13 G13 rfl W14 0 rfl (Nat.le_of_ble_eq_true rfl)
  have N14 := Fr.snoc X14 N11 (Nat.le_trans Z0 (Nat.le_trans (Nat.le_trans (Nat.le_trans (Nat.le_trans (Nat.le_trans (Nat.le_trans (Nat.le_trans (Nat.le_refl _) E1.1) (Keep.of_wr W3).1) (Keep.of_wr W5).1) (Keep.of_wr W7).1) (Keep.of_wr W9).1) (Keep.of_wr W11).1) (Nat.le_of_eq g12.symm)))
  obtain ⟨cl15, Ar15, q15, S15, P15, Ha15, G15⟩ := V14
  have hin15 : ¬ ((1 : Int32) < 0 ∨ cl15.slots.size ≤ ((1 : Int32)).toNatClampNeg) := inb_of S15 ⟨by decide, by decide⟩
  obtain ⟨T16, h16, X16, e16, W16, st16⟩ := stI X14 hx hZ e14 Ar15 (j := (1 : Int32)) hin15 (g := (mkF m 90 #[iv p0, .val (.long p1), .second, iv p2, iv p3, iv p4, iv p5, .val (.int (own_n p0)), rv b1, rv b12, .unset, .unset, .unset, .unset, .unset, .unset, .unset] [(.int p3), (.int (1 : Int32)), (.ref b12)])) rfl rfl (hb hby at_90)
  have V16 : Arv Z h16 b12 k12 .int (5 : Int32) [(.int p2), (.int p3), (.int (0 : Int32)), (.int (0 : Int32)), (.int (0 : Int32))] (.int (0 : Int32)) := Arv.set Ar15 q15 S15 P15 Ha15 G15 rfl W16 1 rfl (Nat.le_of_ble_eq_true rfl)
  have N16 := Fr.snoc X16 N14 (Nat.le_trans Z0 (Nat.le_trans (Nat.le_trans (Nat.le_trans (Nat.le_trans (Nat.le_trans (Nat.le_trans (Nat.le_trans (Nat.le_refl _) E1.1) (Keep.of_wr W3).1) (Keep.of_wr W5).1) (Keep.of_wr W7).1) (Keep.of_wr W9).1) (Keep.of_wr W11).1) (Nat.le_of_eq g12.symm)))
  obtain ⟨cl17, Ar17, q17, S17, P17, Ha17, G17⟩ := V16
  have hin17 : ¬ ((2 : Int32) < 0 ∨ cl17.slots.size ≤ ((2 : Int32)).toNatClampNeg) := inb_of S17 ⟨by decide, by decide⟩
  obtain ⟨T18, h18, X18, e18, W18, st18⟩ := stI X16 hx hZ e16 Ar17 (j := (2 : Int32)) hin17 (g := (mkF m 96 #[iv p0, .val (.long p1), .second, iv p2, iv p3, iv p4, iv p5, .val (.int (own_n p0)), rv b1, rv b12, .unset, .unset, .unset, .unset, .unset, .unset, .unset] [(.int p4), (.int (2 : Int32)), (.ref b12)])) rfl rfl (hb hby at_96)
  have V18 : Arv Z h18 b12 k12 .int (5 : Int32) [(.int p2), (.int p3), (.int p4), (.int (0 : Int32)), (.int (0 : Int32))] (.int (0 : Int32)) := Arv.set Ar17 q17 S17 P17 Ha17 G17 rfl W18 2 rfl (Nat.le_of_ble_eq_true rfl)
  have N18 := Fr.snoc X18 N16 (Nat.le_trans Z0 (Nat.le_trans (Nat.le_trans (Nat.le_trans (Nat.le_trans (Nat.le_trans (Nat.le_trans (Nat.le_trans (Nat.le_refl _) E1.1) (Keep.of_wr W3).1) (Keep.of_wr W5).1) (Keep.of_wr W7).1) (Keep.of_wr W9).1) (Keep.of_wr W11).1) (Nat.le_of_eq g12.symm)))
  obtain ⟨cl19, Ar19, q19, S19, P19, Ha19, G19⟩ := V18
  have hin19 : ¬ ((3 : Int32) < 0 ∨ cl19.slots.size ≤ ((3 : Int32)).toNatClampNeg) := inb_of S19 ⟨by decide, by decide⟩
  obtain ⟨T20, h20, X20, e20, W20, st20⟩ := stI X18 hx hZ e18 Ar19 (j := (3 : Int32)) hin19 (g := (mkF m 102 #[iv p0, .val (.long p1), .second, iv p2, iv p3, iv p4, iv p5, .val (.int (own_n p0)), rv b1, rv b12, .unset, .unset, .unset, .unset, .unset, .unset, .unset] [(.int p5), (.int (3 : Int32)), (.ref b12)])) rfl rfl (hb hby at_102)
  have V20 : Arv Z h20 b12 k12 .int (5 : Int32) [(.int p2), (.int p3), (.int p4), (.int p5), (.int (0 : Int32))] (.int (0 : Int32)) := Arv.set Ar19 q19 S19 P19 Ha19 G19 rfl W20 3 rfl (Nat.le_of_ble_eq_true rfl)
  have N20 := Fr.snoc X20 N18 (Nat.le_trans Z0 (Nat.le_trans (Nat.le_trans (Nat.le_trans (Nat.le_trans (Nat.le_trans (Nat.le_trans (Nat.le_trans (Nat.le_refl _) E1.1) (Keep.of_wr W3).1) (Keep.of_wr W5).1) (Keep.of_wr W7).1) (Keep.of_wr W9).1) (Keep.of_wr W11).1) (Nat.le_of_eq g12.symm)))
  obtain ⟨cl21, Ar21, q21, S21, P21, Ha21, G21⟩ := V20
  have hin21 : ¬ ((4 : Int32) < 0 ∨ cl21.slots.size ≤ ((4 : Int32)).toNatClampNeg) := inb_of S21 ⟨by decide, by decide⟩
  obtain ⟨T22, h22, X22, e22, W22, st22⟩ := stI X20 hx hZ e20 Ar21 (j := (4 : Int32)) hin21 (g := (mkF m 109 #[iv p0, .val (.long p1), .second, iv p2, iv p3, iv p4, iv p5, .val (.int (own_n p0)), rv b1, rv b12, .unset, .unset, .unset, .unset, .unset, .unset, .unset] [(.int (own_t4 p0)), (.int (4 : Int32)), (.ref b12)])) rfl rfl (hb hby at_109)
  have V22 : Arv Z h22 b12 k12 .int (5 : Int32) [(.int p2), (.int p3), (.int p4), (.int p5), (.int (own_t4 p0))] (.int (0 : Int32)) := Arv.set Ar21 q21 S21 P21 Ha21 G21 rfl W22 4 rfl (Nat.le_of_ble_eq_true rfl)
  have N22 := Fr.snoc X22 N20 (Nat.le_trans Z0 (Nat.le_trans (Nat.le_trans (Nat.le_trans (Nat.le_trans (Nat.le_trans (Nat.le_trans (Nat.le_trans (Nat.le_refl _) E1.1) (Keep.of_wr W3).1) (Keep.of_wr W5).1) (Keep.of_wr W7).1) (Keep.of_wr W9).1) (Keep.of_wr W11).1) (Nat.le_of_eq g12.symm)))
  refine ⟨T22, h22, _, b1, b12, k1, k12, X22, e22, N22, (((((((((((((Keep.refl h0 []).ext E1).wr W3 (Or.inr (Nat.le_trans (Nat.le_refl _) (Nat.le_of_eq g1.symm)))).wr W5 (Or.inr (Nat.le_trans (Nat.le_refl _) (Nat.le_of_eq g1.symm)))).wr W7 (Or.inr (Nat.le_trans (Nat.le_refl _) (Nat.le_of_eq g1.symm)))).wr W9 (Or.inr (Nat.le_trans (Nat.le_refl _) (Nat.le_of_eq g1.symm)))).wr W11 (Or.inr (Nat.le_trans (Nat.le_refl _) (Nat.le_of_eq g1.symm)))).ext E12).wr W14 (Or.inr (Nat.le_trans (Nat.le_trans (Nat.le_trans (Nat.le_trans (Nat.le_trans (Nat.le_trans (Nat.le_trans (Nat.le_refl _) E1.1) (Keep.of_wr W3).1) (Keep.of_wr W5).1) (Keep.of_wr W7).1) (Keep.of_wr W9).1) (Keep.of_wr W11).1) (Nat.le_of_eq g12.symm)))).wr W16 (Or.inr (Nat.le_trans (Nat.le_trans (Nat.le_trans (Nat.le_trans (Nat.le_trans (Nat.le_trans (Nat.le_trans (Nat.le_refl _) E1.1) (Keep.of_wr W3).1) (Keep.of_wr W5).1) (Keep.of_wr W7).1) (Keep.of_wr W9).1) (Keep.of_wr W11).1) (Nat.le_of_eq g12.symm)))).wr W18 (Or.inr (Nat.le_trans (Nat.le_trans (Nat.le_trans (Nat.le_trans (Nat.le_trans (Nat.le_trans (Nat.le_trans (Nat.le_refl _) E1.1) (Keep.of_wr W3).1) (Keep.of_wr W5).1) (Keep.of_wr W7).1) (Keep.of_wr W9).1) (Keep.of_wr W11).1) (Nat.le_of_eq g12.symm)))).wr W20 (Or.inr (Nat.le_trans (Nat.le_trans (Nat.le_trans (Nat.le_trans (Nat.le_trans (Nat.le_trans (Nat.le_trans (Nat.le_refl _) E1.1) (Keep.of_wr W3).1) (Keep.of_wr W5).1) (Keep.of_wr W7).1) (Keep.of_wr W9).1) (Keep.of_wr W11).1) (Nat.le_of_eq g12.symm)))).wr W22 (Or.inr (Nat.le_trans (Nat.le_trans (Nat.le_trans (Nat.le_trans (Nat.le_trans (Nat.le_trans (Nat.le_trans (Nat.le_refl _) E1.1) (Keep.of_wr W3).1) (Keep.of_wr W5).1) (Keep.of_wr W7).1) (Keep.of_wr W9).1) (Keep.of_wr W11).1) (Nat.le_of_eq g12.symm)))), (Nat.le_trans (Nat.le_refl _) (Nat.le_of_eq g1.symm)), (Nat.le_trans (Nat.le_trans (Nat.le_trans (Nat.le_trans (Nat.le_trans (Nat.le_trans (Nat.le_trans (Nat.le_refl _) E1.1) (Keep.of_wr W3).1) (Keep.of_wr W5).1) (Keep.of_wr W7).1) (Keep.of_wr W9).1) (Keep.of_wr W11).1) (Nat.le_of_eq g12.symm)), (Nat.ne_of_lt (Nat.lt_of_lt_of_le V11.lt (Nat.le_of_eq g12.symm))), ((((((V11.ext E12).other W14 (Nat.ne_of_lt (Nat.lt_of_lt_of_le V11.lt (Nat.le_of_eq g12.symm)))).other W16 (Nat.ne_of_lt (Nat.lt_of_lt_of_le V11.lt (Nat.le_of_eq g12.symm)))).other W18 (Nat.ne_of_lt (Nat.lt_of_lt_of_le V11.lt (Nat.le_of_eq g12.symm)))).other W20 (Nat.ne_of_lt (Nat.lt_of_lt_of_le V11.lt (Nat.le_of_eq g12.symm)))).other W22 (Nat.ne_of_lt (Nat.lt_of_lt_of_le V11.lt (Nat.le_of_eq g12.symm)))), V22, fun target kt => ?_⟩
  show sS p e below T0 m 0 #[iv p0, .val (.long p1), .second, iv p2, iv p3, iv p4, iv p5, .unset, .unset, .unset, .unset, .unset, .unset, .unset, .unset, .unset, .unset] [] _
  refine XS.iloadN X0.here hx rfl (hb hby at_0) rfl ?_
  refine XS.bipush X0.here hx rfl (hb hby at_1) ?_
  refine XS.iand X0.here hx rfl (hb hby at_3) rfl ?_
  refine XS.bipush X0.here hx rfl (hb hby at_4) ?_
  refine iremM X0 hx rfl (hb hby at_6) rfl (by decide) ?_
  refine XS.istore X0.here hx rfl (hb hby at_7) rfl (l' := #[iv p0, .val (.long p1), .second, iv p2, iv p3, iv p4, iv p5, .val (.int (own_n p0)), .unset, .unset, .unset, .unset, .unset, .unset, .unset, .unset, .unset]) rfl ?_
  show sS p e below T0 m 9 #[iv p0, .val (.long p1), .second, iv p2, iv p3, iv p4, iv p5, .val (.int (own_n p0)), .unset, .unset, .unset, .unset, .unset, .unset, .unset, .unset, .unset] [] _
  refine XS.iconst X0.here hx rfl (hb hby at_9) ?_
  show sS p e below T0 m 10 #[iv p0, .val (.long p1), .second, iv p2, iv p3, iv p4, iv p5, .val (.int (own_n p0)), .unset, .unset, .unset, .unset, .unset, .unset, .unset, .unset, .unset] [(.int (5 : Int32))] _
  refine st1 _ ?_
  show sS p e below T1 m 12 #[iv p0, .val (.long p1), .second, iv p2, iv p3, iv p4, iv p5, .val (.int (own_n p0)), .unset, .unset, .unset, .unset, .unset, .unset, .unset, .unset, .unset] [(.ref b1)] _
  refine XS.astore X1.here hx rfl (hb hby at_12) rfl rfl (l' := #[iv p0, .val (.long p1), .second, iv p2, iv p3, iv p4, iv p5, .val (.int (own_n p0)), rv b1, .unset, .unset, .unset, .unset, .unset, .unset, .unset, .unset]) rfl ?_
  refine XS.aload X1.here hx rfl (hb hby at_14) rfl rfl ?_
  refine XS.iconst X1.here hx rfl (hb hby at_16) ?_
  refine XS.lloadN X1.here hx rfl (hb hby at_17) rfl ?_
  show sS p e below T1 m 18 #[iv p0, .val (.long p1), .second, iv p2, iv p3, iv p4, iv p5, .val (.int (own_n p0)), rv b1, .unset, .unset, .unset, .unset, .unset, .unset, .unset, .unset] [(.long p1), (.int (0 : Int32)), (.ref b1)] _
  refine X1.ldc2Long hx hown (mvT hZ (wK hw (i := 1) rfl)) (g := (mkF m 18 #[iv p0, .val (.long p1), .second, iv p2, iv p3, iv p4, iv p5, .val (.int (own_n p0)), rv b1, .unset, .unset, .unset, .unset, .unset, .unset, .unset, .unset] [(.long p1), (.int (0 : Int32)), (.ref b1)])) rfl (hb hby at_18) _ ?_
  show sS p e below T1 m 21 #[iv p0, .val (.long p1), .second, iv p2, iv p3, iv p4, iv p5, .val (.int (own_n p0)), rv b1, .unset, .unset, .unset, .unset, .unset, .unset, .unset, .unset] [(.long (7 : Int64)), (.long p1), (.int (0 : Int32)), (.ref b1)] _
  refine XS.land X1.here hx rfl (hb hby at_21) rfl ?_
  refine XS.l2i X1.here hx rfl (hb hby at_22) rfl ?_
  show sS p e below T1 m 23 #[iv p0, .val (.long p1), .second, iv p2, iv p3, iv p4, iv p5, .val (.int (own_n p0)), rv b1, .unset, .unset, .unset, .unset, .unset, .unset, .unset, .unset] [(.int (own_e0 p1)), (.int (0 : Int32)), (.ref b1)] _
  refine st3 _ ?_
  show sS p e below T3 m 24 #[iv p0, .val (.long p1), .second, iv p2, iv p3, iv p4, iv p5, .val (.int (own_n p0)), rv b1, .unset, .unset, .unset, .unset, .unset, .unset, .unset, .unset] [] _
  refine XS.aload X3.here hx rfl (hb hby at_24) rfl rfl ?_
  refine XS.iconst X3.here hx rfl (hb hby at_26) ?_
  refine XS.lloadN X3.here hx rfl (hb hby at_27) rfl ?_
  refine XS.iconst X3.here hx rfl (hb hby at_28) ?_
  refine XS.lushr X3.here hx rfl (hb hby at_29) rfl ?_
  show sS p e below T3 m 30 #[iv p0, .val (.long p1), .second, iv p2, iv p3, iv p4, iv p5, .val (.int (own_n p0)), rv b1, .unset, .unset, .unset, .unset, .unset, .unset, .unset, .unset] [(.long ((p1.toUInt64 >>> ((3 : Int32) &&& 0x3f).toInt64.toUInt64).toInt64)), (.int (1 : Int32)), (.ref b1)] _
  refine X3.ldc2Long hx hown (mvT hZ (wK hw (i := 1) rfl)) (g := (mkF m 30 #[iv p0, .val (.long p1), .second, iv p2, iv p3, iv p4, iv p5, .val (.int (own_n p0)), rv b1, .unset, .unset, .unset, .unset, .unset, .unset, .unset, .unset] [(.long ((p1.toUInt64 >>> ((3 : Int32) &&& 0x3f).toInt64.toUInt64).toInt64)), (.int (1 : Int32)), (.ref b1)])) rfl (hb hby at_30) _ ?_
  show sS p e below T3 m 33 #[iv p0, .val (.long p1), .second, iv p2, iv p3, iv p4, iv p5, .val (.int (own_n p0)), rv b1, .unset, .unset, .unset, .unset, .unset, .unset, .unset, .unset] [(.long (7 : Int64)), (.long ((p1.toUInt64 >>> ((3 : Int32) &&& 0x3f).toInt64.toUInt64).toInt64)), (.int (1 : Int32)), (.ref b1)] _
  refine XS.land X3.here hx rfl (hb hby at_33) rfl ?_
  refine XS.l2i X3.here hx rfl (hb hby at_34) rfl ?_
  show sS p e below T3 m 35 #[iv p0, .val (.long p1), .second, iv p2, iv p3, iv p4, iv p5, .val (.int (own_n p0)), rv b1, .unset, .unset, .unset, .unset, .unset, .unset, .unset, .unset] [(.int (own_e (3 : Int32) p1)), (.int (1 : Int32)), (.ref b1)] _
  refine st5 _ ?_
  show sS p e below T5 m 36 #[iv p0, .val (.long p1), .second, iv p2, iv p3, iv p4, iv p5, .val (.int (own_n p0)), rv b1, .unset, .unset, .unset, .unset, .unset, .unset, .unset, .unset] [] _
  refine XS.aload X5.here hx rfl (hb hby at_36) rfl rfl ?_
  refine XS.iconst X5.here hx rfl (hb hby at_38) ?_
  refine XS.lloadN X5.here hx rfl (hb hby at_39) rfl ?_
  refine XS.bipush X5.here hx rfl (hb hby at_40) ?_
  refine XS.lushr X5.here hx rfl (hb hby at_42) rfl ?_
  show sS p e below T5 m 43 #[iv p0, .val (.long p1), .second, iv p2, iv p3, iv p4, iv p5, .val (.int (own_n p0)), rv b1, .unset, .unset, .unset, .unset, .unset, .unset, .unset, .unset] [(.long ((p1.toUInt64 >>> ((6 : Int32) &&& 0x3f).toInt64.toUInt64).toInt64)), (.int (2 : Int32)), (.ref b1)] _
  refine X5.ldc2Long hx hown (mvT hZ (wK hw (i := 1) rfl)) (g := (mkF m 43 #[iv p0, .val (.long p1), .second, iv p2, iv p3, iv p4, iv p5, .val (.int (own_n p0)), rv b1, .unset, .unset, .unset, .unset, .unset, .unset, .unset, .unset] [(.long ((p1.toUInt64 >>> ((6 : Int32) &&& 0x3f).toInt64.toUInt64).toInt64)), (.int (2 : Int32)), (.ref b1)])) rfl (hb hby at_43) _ ?_
  show sS p e below T5 m 46 #[iv p0, .val (.long p1), .second, iv p2, iv p3, iv p4, iv p5, .val (.int (own_n p0)), rv b1, .unset, .unset, .unset, .unset, .unset, .unset, .unset, .unset] [(.long (7 : Int64)), (.long ((p1.toUInt64 >>> ((6 : Int32) &&& 0x3f).toInt64.toUInt64).toInt64)), (.int (2 : Int32)), (.ref b1)] _
  refine XS.land X5.here hx rfl (hb hby at_46) rfl ?_
  refine XS.l2i X5.here hx rfl (hb hby at_47) rfl ?_
  show sS p e below T5 m 48 #[iv p0, .val (.long p1), .second, iv p2, iv p3, iv p4, iv p5, .val (.int (own_n p0)), rv b1, .unset, .unset, .unset, .unset, .unset, .unset, .unset, .unset] [(.int (own_e (6 : Int32) p1)), (.int (2 : Int32)), (.ref b1)] _
  refine st7 _ ?_
  show sS p e below T7 m 49 #[iv p0, .val (.long p1), .second, iv p2, iv p3, iv p4, iv p5, .val (.int (own_n p0)), rv b1, .unset, .unset, .unset, .unset, .unset, .unset, .unset, .unset] [] _
  refine XS.aload X7.here hx rfl (hb hby at_49) rfl rfl ?_
  refine XS.iconst X7.here hx rfl (hb hby at_51) ?_
  refine XS.lloadN X7.here hx rfl (hb hby at_52) rfl ?_
  refine XS.bipush X7.here hx rfl (hb hby at_53) ?_
  refine XS.lushr X7.here hx rfl (hb hby at_55) rfl ?_
  show sS p e below T7 m 56 #[iv p0, .val (.long p1), .second, iv p2, iv p3, iv p4, iv p5, .val (.int (own_n p0)), rv b1, .unset, .unset, .unset, .unset, .unset, .unset, .unset, .unset] [(.long ((p1.toUInt64 >>> ((9 : Int32) &&& 0x3f).toInt64.toUInt64).toInt64)), (.int (3 : Int32)), (.ref b1)] _
  refine X7.ldc2Long hx hown (mvT hZ (wK hw (i := 1) rfl)) (g := (mkF m 56 #[iv p0, .val (.long p1), .second, iv p2, iv p3, iv p4, iv p5, .val (.int (own_n p0)), rv b1, .unset, .unset, .unset, .unset, .unset, .unset, .unset, .unset] [(.long ((p1.toUInt64 >>> ((9 : Int32) &&& 0x3f).toInt64.toUInt64).toInt64)), (.int (3 : Int32)), (.ref b1)])) rfl (hb hby at_56) _ ?_
  show sS p e below T7 m 59 #[iv p0, .val (.long p1), .second, iv p2, iv p3, iv p4, iv p5, .val (.int (own_n p0)), rv b1, .unset, .unset, .unset, .unset, .unset, .unset, .unset, .unset] [(.long (7 : Int64)), (.long ((p1.toUInt64 >>> ((9 : Int32) &&& 0x3f).toInt64.toUInt64).toInt64)), (.int (3 : Int32)), (.ref b1)] _
  refine XS.land X7.here hx rfl (hb hby at_59) rfl ?_
  refine XS.l2i X7.here hx rfl (hb hby at_60) rfl ?_
  show sS p e below T7 m 61 #[iv p0, .val (.long p1), .second, iv p2, iv p3, iv p4, iv p5, .val (.int (own_n p0)), rv b1, .unset, .unset, .unset, .unset, .unset, .unset, .unset, .unset] [(.int (own_e (9 : Int32) p1)), (.int (3 : Int32)), (.ref b1)] _
  refine st9 _ ?_
  show sS p e below T9 m 62 #[iv p0, .val (.long p1), .second, iv p2, iv p3, iv p4, iv p5, .val (.int (own_n p0)), rv b1, .unset, .unset, .unset, .unset, .unset, .unset, .unset, .unset] [] _
  refine XS.aload X9.here hx rfl (hb hby at_62) rfl rfl ?_
  refine XS.iconst X9.here hx rfl (hb hby at_64) ?_
  refine XS.lloadN X9.here hx rfl (hb hby at_65) rfl ?_
  refine XS.bipush X9.here hx rfl (hb hby at_66) ?_
  refine XS.lushr X9.here hx rfl (hb hby at_68) rfl ?_
  show sS p e below T9 m 69 #[iv p0, .val (.long p1), .second, iv p2, iv p3, iv p4, iv p5, .val (.int (own_n p0)), rv b1, .unset, .unset, .unset, .unset, .unset, .unset, .unset, .unset] [(.long ((p1.toUInt64 >>> ((12 : Int32) &&& 0x3f).toInt64.toUInt64).toInt64)), (.int (4 : Int32)), (.ref b1)] _
  refine X9.ldc2Long hx hown (mvT hZ (wK hw (i := 1) rfl)) (g := (mkF m 69 #[iv p0, .val (.long p1), .second, iv p2, iv p3, iv p4, iv p5, .val (.int (own_n p0)), rv b1, .unset, .unset, .unset, .unset, .unset, .unset, .unset, .unset] [(.long ((p1.toUInt64 >>> ((12 : Int32) &&& 0x3f).toInt64.toUInt64).toInt64)), (.int (4 : Int32)), (.ref b1)])) rfl (hb hby at_69) _ ?_
  show sS p e below T9 m 72 #[iv p0, .val (.long p1), .second, iv p2, iv p3, iv p4, iv p5, .val (.int (own_n p0)), rv b1, .unset, .unset, .unset, .unset, .unset, .unset, .unset, .unset] [(.long (7 : Int64)), (.long ((p1.toUInt64 >>> ((12 : Int32) &&& 0x3f).toInt64.toUInt64).toInt64)), (.int (4 : Int32)), (.ref b1)] _
  refine XS.land X9.here hx rfl (hb hby at_72) rfl ?_
  refine XS.l2i X9.here hx rfl (hb hby at_73) rfl ?_
  show sS p e below T9 m 74 #[iv p0, .val (.long p1), .second, iv p2, iv p3, iv p4, iv p5, .val (.int (own_n p0)), rv b1, .unset, .unset, .unset, .unset, .unset, .unset, .unset, .unset] [(.int (own_e (12 : Int32) p1)), (.int (4 : Int32)), (.ref b1)] _
  refine st11 _ ?_
  show sS p e below T11 m 75 #[iv p0, .val (.long p1), .second, iv p2, iv p3, iv p4, iv p5, .val (.int (own_n p0)), rv b1, .unset, .unset, .unset, .unset, .unset, .unset, .unset, .unset] [] _
  refine XS.iconst X11.here hx rfl (hb hby at_75) ?_
  show sS p e below T11 m 76 #[iv p0, .val (.long p1), .second, iv p2, iv p3, iv p4, iv p5, .val (.int (own_n p0)), rv b1, .unset, .unset, .unset, .unset, .unset, .unset, .unset, .unset] [(.int (5 : Int32))] _
  refine st12 _ ?_
  show sS p e below T12 m 78 #[iv p0, .val (.long p1), .second, iv p2, iv p3, iv p4, iv p5, .val (.int (own_n p0)), rv b1, .unset, .unset, .unset, .unset, .unset, .unset, .unset, .unset] [(.ref b12)] _
  refine XS.astore X12.here hx rfl (hb hby at_78) rfl rfl (l' := #[iv p0, .val (.long p1), .second, iv p2, iv p3, iv p4, iv p5, .val (.int (own_n p0)), rv b1, rv b12, .unset, .unset, .unset, .unset, .unset, .unset, .unset]) rfl ?_
  refine XS.aload X12.here hx rfl (hb hby at_80) rfl rfl ?_
  refine XS.iconst X12.here hx rfl (hb hby at_82) ?_
  refine XS.iloadN X12.here hx rfl (hb hby at_83) rfl ?_
  show sS p e below T12 m 84 #[iv p0, .val (.long p1), .second, iv p2, iv p3, iv p4, iv p5, .val (.int (own_n p0)), rv b1, rv b12, .unset, .unset, .unset, .unset, .unset, .unset, .unset] [(.int p2), (.int (0 : Int32)), (.ref b12)] _
  refine st14 _ ?_
  show sS p e below T14 m 85 #[iv p0, .val (.long p1), .second, iv p2, iv p3, iv p4, iv p5, .val (.int (own_n p0)), rv b1, rv b12, .unset, .unset, .unset, .unset, .unset, .unset, .unset] [] _
  refine XS.aload X14.here hx rfl (hb hby at_85) rfl rfl ?_
  refine XS.iconst X14.here hx rfl (hb hby at_87) ?_
  refine XS.iload X14.here hx rfl (hb hby at_88) rfl ?_
  show sS p e below T14 m 90 #[iv p0, .val (.long p1), .second, iv p2, iv p3, iv p4, iv p5, .val (.int (own_n p0)), rv b1, rv b12, .unset, .unset, .unset, .unset, .unset, .unset, .unset] [(.int p3), (.int (1 : Int32)), (.ref b12)] _
  refine st16 _ ?_
  show sS p e below T16 m 91 #[iv p0, .val (.long p1), .second, iv p2, iv p3, iv p4, iv p5, .val (.int (own_n p0)), rv b1, rv b12, .unset, .unset, .unset, .unset, .unset, .unset, .unset] [] _
  refine XS.aload X16.here hx rfl (hb hby at_91) rfl rfl ?_
  refine XS.iconst X16.here hx rfl (hb hby at_93) ?_
  refine XS.iload X16.here hx rfl (hb hby at_94) rfl ?_
  show sS p e below T16 m 96 #[iv p0, .val (.long p1), .second, iv p2, iv p3, iv p4, iv p5, .val (.int (own_n p0)), rv b1, rv b12, .unset, .unset, .unset, .unset, .unset, .unset, .unset] [(.int p4), (.int (2 : Int32)), (.ref b12)] _
  refine st18 _ ?_
  show sS p e below T18 m 97 #[iv p0, .val (.long p1), .second, iv p2, iv p3, iv p4, iv p5, .val (.int (own_n p0)), rv b1, rv b12, .unset, .unset, .unset, .unset, .unset, .unset, .unset] [] _
  refine XS.aload X18.here hx rfl (hb hby at_97) rfl rfl ?_
  refine XS.iconst X18.here hx rfl (hb hby at_99) ?_
  refine XS.iload X18.here hx rfl (hb hby at_100) rfl ?_
  show sS p e below T18 m 102 #[iv p0, .val (.long p1), .second, iv p2, iv p3, iv p4, iv p5, .val (.int (own_n p0)), rv b1, rv b12, .unset, .unset, .unset, .unset, .unset, .unset, .unset] [(.int p5), (.int (3 : Int32)), (.ref b12)] _
  refine st20 _ ?_
  show sS p e below T20 m 103 #[iv p0, .val (.long p1), .second, iv p2, iv p3, iv p4, iv p5, .val (.int (own_n p0)), rv b1, rv b12, .unset, .unset, .unset, .unset, .unset, .unset, .unset] [] _
  refine XS.aload X20.here hx rfl (hb hby at_103) rfl rfl ?_
  refine XS.iconst X20.here hx rfl (hb hby at_105) ?_
  refine XS.iloadN X20.here hx rfl (hb hby at_106) rfl ?_
  refine XS.iconst X20.here hx rfl (hb hby at_107) ?_
  refine XS.ishr X20.here hx rfl (hb hby at_108) rfl ?_
  show sS p e below T20 m 109 #[iv p0, .val (.long p1), .second, iv p2, iv p3, iv p4, iv p5, .val (.int (own_n p0)), rv b1, rv b12, .unset, .unset, .unset, .unset, .unset, .unset, .unset] [(.int (own_t4 p0)), (.int (4 : Int32)), (.ref b12)] _
  refine st22 _ ?_
  exact kt
theorem pd_7 : parseMethodDescriptor "([D[I)I" = some ⟨[(.array .double), (.array .int)], some .int⟩ := by decide +kernel
theorem ef_0 (m : MethodId) (x0 : Int32) (x1 : Int64) (x2 : Int32) (x3 : Int32) (x4 : Int32) (x5 : Int32) : entryFrame m #[(.int x0), (.long x1), (.int x2), (.int x3), (.int x4), (.int x5)] maxLocals = mkF m 0 #[iv x0, .val (.long x1), .second, iv x2, iv x3, iv x4, iv x5, .unset, .unset, .unset, .unset, .unset, .unset, .unset, .unset, .unset, .unset] [] := by first | (simp [entryFrame, mkF, argsToLocals, Value.category, maxLocals]; done) | rfl
set_option maxRecDepth 65536 in
set_option maxHeartbeats 4000000 in
theorem sg_0_308_322 {p : Program} {l : Launch} {e : Env} {R : Room} {s : State} {m : MethodId} {args : Array Value} {below : List Frame} {meth : Method} {c : Code} {T : State} {locs : List Loc} {cells slots : Nat} {Z : State} {a0 : Array Value} {target : State} {x0 : Int32} {x1 : Int64} {x3 : Int32} {x4 : Int32} {x5 : Int32} {x6 : Int32} {x7 : Int32} {x8 : Addr} {x9 : Addr} {x10 : Addr} {x11 : Addr} {x12 : Int32} {x14 : Int32} {x15 : Int32} {x16 : Int32} (X : Stand p l e R s m args below meth c T locs cells slots) (hx : p.tables.exec = Jvm.exec) (hZ : Z.Warmed39 s.vm) (hw : ∀ d ∈ tables_1, d.before a0 Z = true) (hby : c.code = code) (hown : s.vm.findClass cN0 = some m.cls)
    (k : Steps p.tables e below (T.setTop (mkF m 322 #[iv x0, .val (.long x1), .second, iv x3, iv x4, iv x5, iv x6, iv x7, rv x8, rv x9, rv x10, rv x11, iv x12, .unset, iv x14, iv x15, iv x16] [(.int (bif (if_icmp.holds .ne x15 x16) then x14 else x15))])) target) : Steps p.tables e below (T.setTop (mkF m 308 #[iv x0, .val (.long x1), .second, iv x3, iv x4, iv x5, iv x6, iv x7, rv x8, rv x9, rv x10, rv x11, iv x12, .unset, iv x14, iv x15, iv x16] [])) target := by
  show sS p e below T m 308 #[iv x0, .val (.long x1), .second, iv x3, iv x4, iv x5, iv x6, iv x7, rv x8, rv x9, rv x10, rv x11, iv x12, .unset, iv x14, iv x15, iv x16] [] _
  refine XS.iload X.here hx rfl (hb hby at_308) rfl ?_
  show sS p e below T m 310 #[iv x0, .val (.long x1), .second, iv x3, iv x4, iv x5, iv x6, iv x7, rv x8, rv x9, rv x10, rv x11, iv x12, .unset, iv x14, iv x15, iv x16] [(.int x15)] _
  refine XS.iload X.here hx rfl (hb hby at_310) rfl ?_
  show sS p e below T m 312 #[iv x0, .val (.long x1), .second, iv x3, iv x4, iv x5, iv x6, iv x7, rv x8, rv x9, rv x10, rv x11, iv x12, .unset, iv x14, iv x15, iv x16] [(.int x16), (.int x15)] _
  rcases Bool.eq_false_or_eq_true (if_icmp.holds .ne x15 x16) with hc1 | hc1
  · try rw [hc1] at k
    refine XS.icmpYes X.here hx rfl (pc0 := 312) (pc' := 320) rfl (hb hby at_312) rfl hc1 (by decide) (by decide) ?_
    show sS p e below T m 320 #[iv x0, .val (.long x1), .second, iv x3, iv x4, iv x5, iv x6, iv x7, rv x8, rv x9, rv x10, rv x11, iv x12, .unset, iv x14, iv x15, iv x16] [] _
    refine XS.iload X.here hx rfl (hb hby at_320) rfl ?_
    exact k
  · try rw [hc1] at k
    refine XS.icmpNo X.here hx rfl (hb hby at_312) rfl hc1 ?_
    show sS p e below T m 315 #[iv x0, .val (.long x1), .second, iv x3, iv x4, iv x5, iv x6, iv x7, rv x8, rv x9, rv x10, rv x11, iv x12, .unset, iv x14, iv x15, iv x16] [] _
    refine XS.iload X.here hx rfl (hb hby at_315) rfl ?_
    show sS p e below T m 317 #[iv x0, .val (.long x1), .second, iv x3, iv x4, iv x5, iv x6, iv x7, rv x8, rv x9, rv x10, rv x11, iv x12, .unset, iv x14, iv x15, iv x16] [(.int x15)] _
    refine XS.goto X.here hx rfl (pc0 := 317) (pc' := 322) rfl (hb hby at_317) (by decide) (by decide) ?_
    exact k
set_option maxRecDepth 65536 in
set_option maxHeartbeats 4000000 in
theorem sg_0_308_322_1 {p : Program} {l : Launch} {e : Env} {R : Room} {s : State} {m : MethodId} {args : Array Value} {below : List Frame} {meth : Method} {c : Code} {T : State} {locs : List Loc} {cells slots : Nat} {Z : State} {a0 : Array Value} {target : State} {x0 : Int32} {x1 : Int64} {x3 : Int32} {x4 : Int32} {x5 : Int32} {x6 : Int32} {x7 : Int32} {x8 : Addr} {x9 : Addr} {x10 : Addr} {x11 : Addr} {x12 : Int32} {x14 : Int32} {x15 : Int32} {x16 : Int32} (X : Stand p l e R s m args below meth c T locs cells slots) (hx : p.tables.exec = Jvm.exec) (hZ : Z.Warmed39 s.vm) (hw : ∀ d ∈ tables_1, d.before a0 Z = true) (hby : c.code = code) (hown : s.vm.findClass cN0 = some m.cls)
    (k : Steps p.tables e below (T.setTop (mkF m 322 #[iv x0, .val (.long x1), .second, iv x3, iv x4, iv x5, iv x6, iv x7, rv x8, rv x9, rv x10, rv x11, iv x12, .unset, iv x14, iv x15, iv x16] [(.int (bif (if_icmp.holds .ne x15 x16) then x14 else x15))])) target) : Steps p.tables e below (T.setTop (mkF m 308 #[iv x0, .val (.long x1), .second, iv x3, iv x4, iv x5, iv x6, iv x7, rv x8, rv x9, rv x10, rv x11, iv x12, .unset, iv x14, iv x15, iv x16] [])) target := by
  show sS p e below T m 308 #[iv x0, .val (.long x1), .second, iv x3, iv x4, iv x5, iv x6, iv x7, rv x8, rv x9, rv x10, rv x11, iv x12, .unset, iv x14, iv x15, iv x16] [] _
  refine XS.iload X.here hx rfl (hb hby at_308) rfl ?_
  show sS p e below T m 310 #[iv x0, .val (.long x1), .second, iv x3, iv x4, iv x5, iv x6, iv x7, rv x8, rv x9, rv x10, rv x11, iv x12, .unset, iv x14, iv x15, iv x16] [(.int x15)] _
  refine XS.iload X.here hx rfl (hb hby at_310) rfl ?_
  show sS p e below T m 312 #[iv x0, .val (.long x1), .second, iv x3, iv x4, iv x5, iv x6, iv x7, rv x8, rv x9, rv x10, rv x11, iv x12, .unset, iv x14, iv x15, iv x16] [(.int x16), (.int x15)] _
  rcases Bool.eq_false_or_eq_true (if_icmp.holds .ne x15 x16) with hc1 | hc1
  · try rw [hc1] at k
    refine XS.icmpYes X.here hx rfl (pc0 := 312) (pc' := 320) rfl (hb hby at_312) rfl hc1 (by decide) (by decide) ?_
    show sS p e below T m 320 #[iv x0, .val (.long x1), .second, iv x3, iv x4, iv x5, iv x6, iv x7, rv x8, rv x9, rv x10, rv x11, iv x12, .unset, iv x14, iv x15, iv x16] [] _
    refine XS.iload X.here hx rfl (hb hby at_320) rfl ?_
    exact k
  · try rw [hc1] at k
    refine XS.icmpNo X.here hx rfl (hb hby at_312) rfl hc1 ?_
    show sS p e below T m 315 #[iv x0, .val (.long x1), .second, iv x3, iv x4, iv x5, iv x6, iv x7, rv x8, rv x9, rv x10, rv x11, iv x12, .unset, iv x14, iv x15, iv x16] [] _
    refine XS.iload X.here hx rfl (hb hby at_315) rfl ?_
    show sS p e below T m 317 #[iv x0, .val (.long x1), .second, iv x3, iv x4, iv x5, iv x6, iv x7, rv x8, rv x9, rv x10, rv x11, iv x12, .unset, iv x14, iv x15, iv x16] [(.int x15)] _
    refine XS.goto X.here hx rfl (pc0 := 317) (pc' := 322) rfl (hb hby at_317) (by decide) (by decide) ?_
    exact k
set_option maxRecDepth 65536 in
set_option maxHeartbeats 4000000 in
theorem sg_0_308_322_2 {p : Program} {l : Launch} {e : Env} {R : Room} {s : State} {m : MethodId} {args : Array Value} {below : List Frame} {meth : Method} {c : Code} {T : State} {locs : List Loc} {cells slots : Nat} {Z : State} {a0 : Array Value} {target : State} {x0 : Int32} {x1 : Int64} {x3 : Int32} {x4 : Int32} {x5 : Int32} {x6 : Int32} {x7 : Int32} {x8 : Addr} {x9 : Addr} {x10 : Addr} {x11 : Addr} {x12 : Int32} {x14 : Int32} {x15 : Int32} {x16 : Int32} (X : Stand p l e R s m args below meth c T locs cells slots) (hx : p.tables.exec = Jvm.exec) (hZ : Z.Warmed39 s.vm) (hw : ∀ d ∈ tables_1, d.before a0 Z = true) (hby : c.code = code) (hown : s.vm.findClass cN0 = some m.cls)
    (k : Steps p.tables e below (T.setTop (mkF m 322 #[iv x0, .val (.long x1), .second, iv x3, iv x4, iv x5, iv x6, iv x7, rv x8, rv x9, rv x10, rv x11, iv x12, .unset, iv x14, iv x15, iv x16] [(.int (bif (if_icmp.holds .ne x15 x16) then x14 else x15))])) target) : Steps p.tables e below (T.setTop (mkF m 308 #[iv x0, .val (.long x1), .second, iv x3, iv x4, iv x5, iv x6, iv x7, rv x8, rv x9, rv x10, rv x11, iv x12, .unset, iv x14, iv x15, iv x16] [])) target := by
  show sS p e below T m 308 #[iv x0, .val (.long x1), .second, iv x3, iv x4, iv x5, iv x6, iv x7, rv x8, rv x9, rv x10, rv x11, iv x12, .unset, iv x14, iv x15, iv x16] [] _
  refine XS.iload X.here hx rfl (hb hby at_308) rfl ?_
  show sS p e below T m 310 #[iv x0, .val (.long x1), .second, iv x3, iv x4, iv x5, iv x6, iv x7, rv x8, rv x9, rv x10, rv x11, iv x12, .unset, iv x14, iv x15, iv x16] [(.int x15)] _
  refine XS.iload X.here hx rfl (hb hby at_310) rfl ?_
  show sS p e below T m 312 #[iv x0, .val (.long x1), .second, iv x3, iv x4, iv x5, iv x6, iv x7, rv x8, rv x9, rv x10, rv x11, iv x12, .unset, iv x14, iv x15, iv x16] [(.int x16), (.int x15)] _
  rcases Bool.eq_false_or_eq_true (if_icmp.holds .ne x15 x16) with hc1 | hc1
  · try rw [hc1] at k
    refine XS.icmpYes X.here hx rfl (pc0 := 312) (pc' := 320) rfl (hb hby at_312) rfl hc1 (by decide) (by decide) ?_
    show sS p e below T m 320 #[iv x0, .val (.long x1), .second, iv x3, iv x4, iv x5, iv x6, iv x7, rv x8, rv x9, rv x10, rv x11, iv x12, .unset, iv x14, iv x15, iv x16] [] _
    refine XS.iload X.here hx rfl (hb hby at_320) rfl ?_
    exact k
  · try rw [hc1] at k
    refine XS.icmpNo X.here hx rfl (hb hby at_312) rfl hc1 ?_
    show sS p e below T m 315 #[iv x0, .val (.long x1), .second, iv x3, iv x4, iv x5, iv x6, iv x7, rv x8, rv x9, rv x10, rv x11, iv x12, .unset, iv x14, iv x15, iv x16] [] _
    refine XS.iload X.here hx rfl (hb hby at_315) rfl ?_
    show sS p e below T m 317 #[iv x0, .val (.long x1), .second, iv x3, iv x4, iv x5, iv x6, iv x7, rv x8, rv x9, rv x10, rv x11, iv x12, .unset, iv x14, iv x15, iv x16] [(.int x15)] _
    refine XS.goto X.here hx rfl (pc0 := 317) (pc' := 322) rfl (hb hby at_317) (by decide) (by decide) ?_
    exact k
def Q0 (Z : State) (p0 : Int32) (p1 : Int64) (p2 p3 p4 p5 : Int32) (h0 : Heap) (n0 : Nat) (v : Option Value) (h : Heap) (L : List Loc) : Prop := v = some (.int 1) ∧ Fr n0 L
set_option maxRecDepth 65536 in
set_option maxHeartbeats 40000000 in
theorem rm0 (l : Launch) (Z : State) (a0 : Array Value) (hw : ∀ d ∈ tables_1, d.before a0 Z = true) (ws : List Jvm.Cond) (p0 : Int32) (p1 : Int64) (p2 p3 p4 p5 : Int32) (h0 : Heap) (n0 : Nat) (Z0 : n0 ≤ h0.size) :
    MetFree l x (head1 (Jvm.Cond.code x code maxLocals ret :: ws) room_1) (fun a U => a = #[(.int p0), (.long p1), (.int p2), (.int p3), (.int p4), (.int p5)] ∧ Z.Warmed39 U.vm ∧ U.heap = h0) (fun _ _ _ _ _ => True) (fun _ U o U' => ∃ v L, o = .returned v ∧ Q0 Z p0 p1 p2 p3 p4 p5 h0 n0 v U'.heap L ∧ FrameEnd U o U' L room_1.cells room_1.slots) := by
  refine MetFree.of_bodySF (plainFor_of_name pn_1) hisR ?_
  intro p e s m args below meth c s₁ Bd hml0 hP hK
  obtain ⟨rfl, hZ, hh⟩ := hP
  have hx := Bd.exec
  have hby := Bd.bytes
  have hml : c.maxLocals = 17 := hml0
  have hown : s.vm.findClass cN0 = some m.cls := findClass_of_methodNamed Bd.named
  have hnm := (name_of_methodNamed Bd.named Bd.method).1
  have X0 : Stand p l e room_1 s m #[(.int p0), (.long p1), (.int p2), (.int p3), (.int p4), (.int p5)] below meth c s₁ [] 0 0 := Stand.of_body Bd
  have e0 : s₁.heap = h0 := by rw [← hh, Bd.state]; rfl
  have N0 := Fr.nil n0
  have pre0 : ∀ t, Steps p.tables e below (s₁.setTop (mkF m 0 #[iv p0, .val (.long p1), .second, iv p2, iv p3, iv p4, iv p5, .unset, .unset, .unset, .unset, .unset, .unset, .unset, .unset, .unset, .unset] [])) t → Steps p.tables e below (s₁.setTop (entryFrame m #[(.int p0), (.long p1), (.int p2), (.int p3), (.int p4), (.int p5)] maxLocals)) t := fun t k => castTop (ef_0 m p0 p1 p2 p3 p4 p5) k
  obtain ⟨T1, h1, L1, bd, bt, k1, k2, X1, e1, N1, K1, gd, gt, hdt, Vd, Vt, st1⟩ := lawpre p0 p1 p2 p3 p4 p5 X0 hx hZ hw hby hml hown e0 Z0 N0
  rcases own_ncase p0 with hn | hn | hn | hn | hn | hn
  · obtain ⟨T2, h2, k2, X2, e2, E2, A2, Ax2, st2⟩ := newPE X1 hx hZ (wK hw (i := 2) rfl) e1 (g := (mkF m 112 #[iv p0, .val (.long p1), .second, iv p2, iv p3, iv p4, iv p5, iv 0, rv bd, rv bt, .unset, .unset, .unset, .unset, .unset, .unset, .unset] [(.int (0 : Int32))])) rfl (hb hby at_112) rfl (by decide) (cap := 0) (by decide) (by decide) (by decide) (by decide) (ad := "[D") (by decide)
    obtain ⟨b2, g2⟩ : ∃ z, z = h1.size := ⟨_, rfl⟩
    rw [← g2] at A2 Ax2 st2
    have V2 : Arv Z h2 b2 k2 .double (0 : Int32) [] (.double (0 : UInt64)) := (Arv.new A2 (by decide)).pad (pad_rep [] (.double (0 : UInt64)) 0)
    obtain ⟨T3, h3, k3, X3, e3, E3, A3, Ax3, st3⟩ := newPE X2 hx hZ (wK hw (i := 0) rfl) e2 (g := (mkF m 118 #[iv p0, .val (.long p1), .second, iv p2, iv p3, iv p4, iv p5, iv 0, rv bd, rv bt, rv b2, .unset, .unset, .unset, .unset, .unset, .unset] [(.int (0 : Int32))])) rfl (hb hby at_118) rfl (by decide) (cap := 0) (by decide) (by decide) (by decide) (by decide) (ad := "[I") (by decide)
    obtain ⟨b3, g3⟩ : ∃ z, z = h2.size := ⟨_, rfl⟩
    rw [← g3] at A3 Ax3 st3
    have V3 : Arv Z h3 b3 k3 .int (0 : Int32) [] (.int (0 : Int32)) := (Arv.new A3 (by decide)).pad (pad_rep [] (.int (0 : Int32)) 0)
    obtain ⟨_, _, ⟨T4, L4, k4, n4⟩, -, X4, ⟨Lc4, hQ4, l4, y4, z4⟩, st4⟩ := Jvm.LawKit.callS X3 hx (y := ⟨cN1, "typeByNeighbours", "([D[I)I"⟩) hown (mvT hZ (wK hw (i := 3) rfl)) (mvT hZ (wK hw (i := 4) rfl)) (mvT hZ (wK hw (i := 5) rfl)) (mvT hZ (wK hw (i := 6) rfl)) (by decide) (backOf (W := 0) (rmtb0 l Z a0 hw [] b2 k2 b3 k3 h3 n0 (Nat.le_trans (Nat.le_trans (Nat.le_trans Z0 K1.1) E2.1) E3.1) (V2.ext E3) V3) hZ (wK hw (i := 6) rfl) (wK hw (i := 5) rfl) (by decide) (by decide)) (g := (mkF m 240 #[iv p0, .val (.long p1), .second, iv p2, iv p3, iv p4, iv p5, iv 0, rv bd, rv bt, rv b2, rv b3, .unset, .unset, .unset, .unset, .unset] [(.ref b3), (.ref b2)])) rfl (by rw [hml]; rfl) (argsL := [(.ref b2), (.ref b3)]) (rest := []) (lenOf pd_7 rfl) rfl (Nat.le_of_eq rfl) (hb hby at_240) (fun _ _ => ⟨rfl, e3, (by decide : 4 + 1 ≤ _), (by decide : 10 + 0 ≤ _)⟩)
    dsimp only [Pt.U, Pt.locs, Pt.cells, Pt.slots] at X4 l4 y4 z4 st4 hQ4
    subst l4 y4 z4
    obtain ⟨rfl, N4q, K4⟩ := hQ4
    have N4 := Fr.app N1 N4q
    obtain ⟨fs, hr, hrun, hended, hW, hsame⟩ := X4.leave (v := some (.int (nar .boolean (1 : Int32)))) (fun h => by rw [Bd.returns] at h; cases h)
    refine ⟨_, _, pre0 _ ?_, hrun, hended, _, _, rfl, ?_, ⟨_, rfl⟩, hW, hsame.mono (by decide) (by decide)⟩
    · show sS p e below s₁ m 0 #[iv p0, .val (.long p1), .second, iv p2, iv p3, iv p4, iv p5, .unset, .unset, .unset, .unset, .unset, .unset, .unset, .unset, .unset, .unset] [] _
      refine st1 _ ?_
      show sS p e below T1 m 110 #[iv p0, .val (.long p1), .second, iv p2, iv p3, iv p4, iv p5, .val (.int (own_n p0)), rv bd, rv bt, .unset, .unset, .unset, .unset, .unset, .unset, .unset] [] _
      rw [hn]
      show sS p e below T1 m 110 #[iv p0, .val (.long p1), .second, iv p2, iv p3, iv p4, iv p5, iv 0, rv bd, rv bt, .unset, .unset, .unset, .unset, .unset, .unset, .unset] [] _
      refine XS.iload X1.here hx rfl (hb hby at_110) rfl ?_
      show sS p e below T1 m 112 #[iv p0, .val (.long p1), .second, iv p2, iv p3, iv p4, iv p5, iv 0, rv bd, rv bt, .unset, .unset, .unset, .unset, .unset, .unset, .unset] [(.int (0 : Int32))] _
      refine st2 _ ?_
      show sS p e below T2 m 114 #[iv p0, .val (.long p1), .second, iv p2, iv p3, iv p4, iv p5, iv 0, rv bd, rv bt, .unset, .unset, .unset, .unset, .unset, .unset, .unset] [(.ref b2)] _
      refine XS.astore X2.here hx rfl (hb hby at_114) rfl rfl (l' := #[iv p0, .val (.long p1), .second, iv p2, iv p3, iv p4, iv p5, iv 0, rv bd, rv bt, rv b2, .unset, .unset, .unset, .unset, .unset, .unset]) rfl ?_
      refine XS.iload X2.here hx rfl (hb hby at_116) rfl ?_
      show sS p e below T2 m 118 #[iv p0, .val (.long p1), .second, iv p2, iv p3, iv p4, iv p5, iv 0, rv bd, rv bt, rv b2, .unset, .unset, .unset, .unset, .unset, .unset] [(.int (0 : Int32))] _
      refine st3 _ ?_
      show sS p e below T3 m 120 #[iv p0, .val (.long p1), .second, iv p2, iv p3, iv p4, iv p5, iv 0, rv bd, rv bt, rv b2, .unset, .unset, .unset, .unset, .unset, .unset] [(.ref b3)] _
      refine XS.astore X3.here hx rfl (hb hby at_120) rfl rfl (l' := #[iv p0, .val (.long p1), .second, iv p2, iv p3, iv p4, iv p5, iv 0, rv bd, rv bt, rv b2, rv b3, .unset, .unset, .unset, .unset, .unset]) rfl ?_
      refine XS.iload X3.here hx rfl (hb hby at_122) rfl ?_
      refine XS.ifYes X3.here hx rfl (pc0 := 124) (pc' := 144) rfl (hb hby at_124) rfl (by decide) (by decide) (by decide) ?_
      refine XS.iload X3.here hx rfl (hb hby at_144) rfl ?_
      refine XS.iconst X3.here hx rfl (hb hby at_146) ?_
      refine XS.icmpYes X3.here hx rfl (pc0 := 147) (pc' := 167) rfl (hb hby at_147) rfl (by decide) (by decide) (by decide) ?_
      show sS p e below T3 m 167 #[iv p0, .val (.long p1), .second, iv p2, iv p3, iv p4, iv p5, iv 0, rv bd, rv bt, rv b2, rv b3, .unset, .unset, .unset, .unset, .unset] [] _
      refine XS.iload X3.here hx rfl (hb hby at_167) rfl ?_
      refine XS.iconst X3.here hx rfl (hb hby at_169) ?_
      refine XS.icmpYes X3.here hx rfl (pc0 := 170) (pc' := 190) rfl (hb hby at_170) rfl (by decide) (by decide) (by decide) ?_
      refine XS.iload X3.here hx rfl (hb hby at_190) rfl ?_
      refine XS.iconst X3.here hx rfl (hb hby at_192) ?_
      refine XS.icmpYes X3.here hx rfl (pc0 := 193) (pc' := 213) rfl (hb hby at_193) rfl (by decide) (by decide) (by decide) ?_
      show sS p e below T3 m 213 #[iv p0, .val (.long p1), .second, iv p2, iv p3, iv p4, iv p5, iv 0, rv bd, rv bt, rv b2, rv b3, .unset, .unset, .unset, .unset, .unset] [] _
      refine XS.iload X3.here hx rfl (hb hby at_213) rfl ?_
      refine XS.iconst X3.here hx rfl (hb hby at_215) ?_
      refine XS.icmpYes X3.here hx rfl (pc0 := 216) (pc' := 236) rfl (hb hby at_216) rfl (by decide) (by decide) (by decide) ?_
      refine XS.aload X3.here hx rfl (hb hby at_236) rfl rfl ?_
      refine XS.aload X3.here hx rfl (hb hby at_238) rfl rfl ?_
      show sS p e below T3 m 240 #[iv p0, .val (.long p1), .second, iv p2, iv p3, iv p4, iv p5, iv 0, rv bd, rv bt, rv b2, rv b3, .unset, .unset, .unset, .unset, .unset] [(.ref b3), (.ref b2)] _
      refine st4 _ ?_
      show sS p e below T4 m 243 #[iv p0, .val (.long p1), .second, iv p2, iv p3, iv p4, iv p5, iv 0, rv bd, rv bt, rv b2, rv b3, .unset, .unset, .unset, .unset, .unset] [(.int own_res0)] _
      refine XS.istore X4.here hx rfl (hb hby at_243) rfl (l' := #[iv p0, .val (.long p1), .second, iv p2, iv p3, iv p4, iv p5, iv 0, rv bd, rv bt, rv b2, rv b3, iv own_res0, .unset, .unset, .unset, .unset]) rfl ?_
      refine XS.iload X4.here hx rfl (hb hby at_245) rfl ?_
      refine XS.ifNo X4.here hx rfl (hb hby at_247) rfl (by decide) ?_
      refine XS.iconst X4.here hx rfl (hb hby at_250) ?_
      refine XS.istore X4.here hx rfl (hb hby at_251) rfl (l' := #[iv p0, .val (.long p1), .second, iv p2, iv p3, iv p4, iv p5, iv 0, rv bd, rv bt, rv b2, rv b3, iv own_res0, iv 0, .unset, .unset, .unset]) rfl ?_
      refine XS.goto X4.here hx rfl (pc0 := 253) (pc' := 324) rfl (hb hby at_253) (by decide) (by decide) ?_
      show sS p e below T4 m 324 #[iv p0, .val (.long p1), .second, iv p2, iv p3, iv p4, iv p5, iv 0, rv bd, rv bt, rv b2, rv b3, iv own_res0, iv 0, .unset, .unset, .unset] [] _
      refine XS.iload X4.here hx rfl (hb hby at_324) rfl ?_
      refine XS.iload X4.here hx rfl (hb hby at_326) rfl ?_
      refine XS.icmpNo X4.here hx rfl (hb hby at_328) rfl (by decide) ?_
      refine XS.iconst X4.here hx rfl (hb hby at_331) ?_
      refine XS.goto X4.here hx rfl (pc0 := 332) (pc' := 336) rfl (hb hby at_332) (by decide) (by decide) ?_
      show sS p e below T4 m 336 #[iv p0, .val (.long p1), .second, iv p2, iv p3, iv p4, iv p5, iv 0, rv bd, rv bt, rv b2, rv b3, iv own_res0, iv 0, .unset, .unset, .unset] [(.int (1 : Int32))] _
      exact retN X4 hx (t := .boolean) Bd.returns (by simp) (hb hby at_336) hr
    · show Q0 Z p0 p1 p2 p3 p4 p5 h0 n0 _ T4.heap _
      exact ⟨rfl, N4⟩
  · obtain ⟨T5, h5, k5, X5, e5, E5, A5, Ax5, st5⟩ := newPE X1 hx hZ (wK hw (i := 2) rfl) e1 (g := (mkF m 112 #[iv p0, .val (.long p1), .second, iv p2, iv p3, iv p4, iv p5, iv 1, rv bd, rv bt, .unset, .unset, .unset, .unset, .unset, .unset, .unset] [(.int (1 : Int32))])) rfl (hb hby at_112) rfl (by decide) (cap := 1) (by decide) (by decide) (by decide) (by decide) (ad := "[D") (by decide)
    obtain ⟨b5, g5⟩ : ∃ z, z = h1.size := ⟨_, rfl⟩
    rw [← g5] at A5 Ax5 st5
    have V5 : Arv Z h5 b5 k5 .double (1 : Int32) [(.double (0 : UInt64))] (.double (0 : UInt64)) := (Arv.new A5 (by decide)).pad (pad_rep [] (.double (0 : UInt64)) 1)
    obtain ⟨T6, h6, k6, X6, e6, E6, A6, Ax6, st6⟩ := newPE X5 hx hZ (wK hw (i := 0) rfl) e5 (g := (mkF m 118 #[iv p0, .val (.long p1), .second, iv p2, iv p3, iv p4, iv p5, iv 1, rv bd, rv bt, rv b5, .unset, .unset, .unset, .unset, .unset, .unset] [(.int (1 : Int32))])) rfl (hb hby at_118) rfl (by decide) (cap := 1) (by decide) (by decide) (by decide) (by decide) (ad := "[I") (by decide)
    obtain ⟨b6, g6⟩ : ∃ z, z = h5.size := ⟨_, rfl⟩
    rw [← g6] at A6 Ax6 st6
    have V6 : Arv Z h6 b6 k6 .int (1 : Int32) [(.int (0 : Int32))] (.int (0 : Int32)) := (Arv.new A6 (by decide)).pad (pad_rep [] (.int (0 : Int32)) 1)
    obtain ⟨cl7, Ar7, q7, S7, P7, Ha7, G7⟩ := (V5.ext E6)
    have hin7 : ¬ ((0 : Int32) < 0 ∨ cl7.slots.size ≤ ((0 : Int32)).toNatClampNeg) := inb_of S7 ⟨by decide, by decide⟩
    obtain ⟨T8, h8, X8, e8, W8, st8⟩ := stD X6 hx hZ e6 Ar7 (j := (0 : Int32)) hin7 (g := (mkF m 135 #[iv p0, .val (.long p1), .second, iv p2, iv p3, iv p4, iv p5, iv 1, rv bd, rv bt, rv b5, rv b6, .unset, .unset, .unset, .unset, .unset] [(.double (FP.i2d (own_e0 p1))), (.int (0 : Int32)), (.ref b5)])) rfl rfl (hb hby at_135)
    have V8 : Arv Z h8 b5 k5 .double (1 : Int32) [(.double (FP.i2d (own_e0 p1)))] (.double (0 : UInt64)) := Arv.set Ar7 q7 S7 P7 Ha7 G7 rfl W8 0 rfl (Nat.le_of_ble_eq_true rfl)
    have N8 := Fr.snoc X8 N1 (Nat.le_trans Z0 (Nat.le_trans (Nat.le_trans (Nat.le_refl _) K1.1) (Nat.le_of_eq g5.symm)))
    obtain ⟨cl9, Ar9, q9, S9, P9, Ha9, G9⟩ := (V6.other W8 (Ne.symm (Nat.ne_of_lt (Nat.lt_of_lt_of_le Ax5.lt (Nat.le_of_eq g6.symm)))))
    have hin9 : ¬ ((0 : Int32) < 0 ∨ cl9.slots.size ≤ ((0 : Int32)).toNatClampNeg) := inb_of S9 ⟨by decide, by decide⟩
    obtain ⟨T10, h10, X10, e10, W10, st10⟩ := stI X8 hx hZ e8 Ar9 (j := (0 : Int32)) hin9 (g := (mkF m 143 #[iv p0, .val (.long p1), .second, iv p2, iv p3, iv p4, iv p5, iv 1, rv bd, rv bt, rv b5, rv b6, .unset, .unset, .unset, .unset, .unset] [(.int p2), (.int (0 : Int32)), (.ref b6)])) rfl rfl (hb hby at_143)
    have V10 : Arv Z h10 b6 k6 .int (1 : Int32) [(.int p2)] (.int (0 : Int32)) := Arv.set Ar9 q9 S9 P9 Ha9 G9 rfl W10 0 rfl (Nat.le_of_ble_eq_true rfl)
    have N10 := Fr.snoc X10 N8 (Nat.le_trans Z0 (Nat.le_trans (Nat.le_trans (Nat.le_trans (Nat.le_refl _) K1.1) E5.1) (Nat.le_of_eq g6.symm)))
    obtain ⟨_, _, ⟨T11, L11, k11, n11⟩, -, X11, ⟨Lc11, hQ11, l11, y11, z11⟩, st11⟩ := Jvm.LawKit.callS X10 hx (y := ⟨cN1, "typeByNeighbours", "([D[I)I"⟩) hown (mvT hZ (wK hw (i := 3) rfl)) (mvT hZ (wK hw (i := 4) rfl)) (mvT hZ (wK hw (i := 5) rfl)) (mvT hZ (wK hw (i := 6) rfl)) (by decide) (backOf (W := 0) (rmtb1 l Z a0 hw [] b5 k5 b6 k6 (own_e0 p1) p2 h10 n0 (Nat.le_trans (Nat.le_trans (Nat.le_trans (Nat.le_trans (Nat.le_trans Z0 K1.1) E5.1) E6.1) (Keep.of_wr W8).1) (Keep.of_wr W10).1) (V8.other W10 (Nat.ne_of_lt (Nat.lt_of_lt_of_le Ax5.lt (Nat.le_of_eq g6.symm)))) V10) hZ (wK hw (i := 6) rfl) (wK hw (i := 5) rfl) (by decide) (by decide)) (g := (mkF m 240 #[iv p0, .val (.long p1), .second, iv p2, iv p3, iv p4, iv p5, iv 1, rv bd, rv bt, rv b5, rv b6, .unset, .unset, .unset, .unset, .unset] [(.ref b6), (.ref b5)])) rfl (by rw [hml]; rfl) (argsL := [(.ref b5), (.ref b6)]) (rest := []) (lenOf pd_7 rfl) rfl (Nat.le_of_eq rfl) (hb hby at_240) (fun _ _ => ⟨rfl, e10, (by decide : 4 + 1 ≤ _), (by decide : 12 + 1 ≤ _)⟩)
    dsimp only [Pt.U, Pt.locs, Pt.cells, Pt.slots] at X11 l11 y11 z11 st11 hQ11
    subst l11 y11 z11
    obtain ⟨rfl, N11q, K11⟩ := hQ11
    have N11 := Fr.app N10 N11q
    obtain ⟨got, hgot⟩ : ∃ q : Int32, q = (own_res1 (own_e0 p1) p2) := ⟨_, rfl⟩
    obtain ⟨_, _, ⟨T12, L12, k12, n12⟩, -, X12, ⟨Lc12, hQ12, l12, y12, z12⟩, st12⟩ := Jvm.LawKit.callS X11 hx (y := ⟨cN0, "at", "([III)I"⟩) hown (mvT hZ (wK hw (i := 22) rfl)) (mvT hZ (wK hw (i := 23) rfl)) (mvT hZ (wK hw (i := 24) rfl)) (mvT hZ (wK hw (i := 25) rfl)) (by decide) (backOf (W := 1) (rmat1 l Z a0 hw [] bd k1 (own_e0 p1) (own_e (3 : Int32) p1) (own_e (6 : Int32) p1) (own_e (9 : Int32) p1) (own_e (12 : Int32) p1) (0 : Int32) T11.heap n0 (Nat.le_trans (Nat.le_trans (Nat.le_trans (Nat.le_trans (Nat.le_trans (Nat.le_trans Z0 K1.1) E5.1) E6.1) (Keep.of_wr W8).1) (Keep.of_wr W10).1) K11.1) (((((Vd.ext E5).ext E6).other W8 (Nat.ne_of_lt (Nat.lt_of_lt_of_le Vd.lt (Nat.le_of_eq g5.symm)))).other W10 (Nat.ne_of_lt (Nat.lt_of_lt_of_le (Vd.ext E5).lt (Nat.le_of_eq g6.symm)))).keep K11 nin0)) hZ (wK hw (i := 25) rfl) (wK hw (i := 24) rfl) (by decide) (by decide)) (g := (mkF m 263 #[iv p0, .val (.long p1), .second, iv p2, iv p3, iv p4, iv p5, iv 1, rv bd, rv bt, rv b5, rv b6, iv got, .unset, .unset, .unset, .unset] [(.int (0 : Int32)), (.int (1 : Int32)), (.ref bd), (.ref bt)])) rfl (by rw [hml]; rfl) (argsL := [(.ref bd), (.int (1 : Int32)), (.int (0 : Int32))]) (rest := [(.ref bt)]) (lenOf pd_3 rfl) rfl (Nat.le_of_eq rfl) (hb hby at_263) (fun _ _ => ⟨rfl, rfl, (by decide : 5 + 0 ≤ _), (by decide : 13 + 0 ≤ _)⟩)
    dsimp only [Pt.U, Pt.locs, Pt.cells, Pt.slots] at X12 l12 y12 z12 st12 hQ12
    subst l12 y12 z12
    obtain ⟨rfl, N12q, eh12⟩ := hQ12
    have N12 := Fr.app N11 N12q
    obtain ⟨na, hna⟩ : ∃ q : Int32, q = (own_g [p2, p3, p4, p5, (own_t4 p0)] (own_at1 (own_e0 p1) (0 : Int32))) := ⟨_, rfl⟩
    obtain ⟨fs, hr, hrun, hended, hW, hsame⟩ := X12.leave (v := some (.int (nar .boolean (1 : Int32)))) (fun h => by rw [Bd.returns] at h; cases h)
    refine ⟨_, _, pre0 _ ?_, hrun, hended, _, _, rfl, ?_, ⟨_, rfl⟩, hW, hsame.mono (by decide) (by decide)⟩
    · show sS p e below s₁ m 0 #[iv p0, .val (.long p1), .second, iv p2, iv p3, iv p4, iv p5, .unset, .unset, .unset, .unset, .unset, .unset, .unset, .unset, .unset, .unset] [] _
      refine st1 _ ?_
      show sS p e below T1 m 110 #[iv p0, .val (.long p1), .second, iv p2, iv p3, iv p4, iv p5, .val (.int (own_n p0)), rv bd, rv bt, .unset, .unset, .unset, .unset, .unset, .unset, .unset] [] _
      rw [hn]
      show sS p e below T1 m 110 #[iv p0, .val (.long p1), .second, iv p2, iv p3, iv p4, iv p5, iv 1, rv bd, rv bt, .unset, .unset, .unset, .unset, .unset, .unset, .unset] [] _
      refine XS.iload X1.here hx rfl (hb hby at_110) rfl ?_
      show sS p e below T1 m 112 #[iv p0, .val (.long p1), .second, iv p2, iv p3, iv p4, iv p5, iv 1, rv bd, rv bt, .unset, .unset, .unset, .unset, .unset, .unset, .unset] [(.int (1 : Int32))] _
      refine st5 _ ?_
      show sS p e below T5 m 114 #[iv p0, .val (.long p1), .second, iv p2, iv p3, iv p4, iv p5, iv 1, rv bd, rv bt, .unset, .unset, .unset, .unset, .unset, .unset, .unset] [(.ref b5)] _
      refine XS.astore X5.here hx rfl (hb hby at_114) rfl rfl (l' := #[iv p0, .val (.long p1), .second, iv p2, iv p3, iv p4, iv p5, iv 1, rv bd, rv bt, rv b5, .unset, .unset, .unset, .unset, .unset, .unset]) rfl ?_
      refine XS.iload X5.here hx rfl (hb hby at_116) rfl ?_
      show sS p e below T5 m 118 #[iv p0, .val (.long p1), .second, iv p2, iv p3, iv p4, iv p5, iv 1, rv bd, rv bt, rv b5, .unset, .unset, .unset, .unset, .unset, .unset] [(.int (1 : Int32))] _
      refine st6 _ ?_
      show sS p e below T6 m 120 #[iv p0, .val (.long p1), .second, iv p2, iv p3, iv p4, iv p5, iv 1, rv bd, rv bt, rv b5, .unset, .unset, .unset, .unset, .unset, .unset] [(.ref b6)] _
      refine XS.astore X6.here hx rfl (hb hby at_120) rfl rfl (l' := #[iv p0, .val (.long p1), .second, iv p2, iv p3, iv p4, iv p5, iv 1, rv bd, rv bt, rv b5, rv b6, .unset, .unset, .unset, .unset, .unset]) rfl ?_
      refine XS.iload X6.here hx rfl (hb hby at_122) rfl ?_
      refine XS.ifNo X6.here hx rfl (hb hby at_124) rfl (by decide) ?_
      refine XS.aload X6.here hx rfl (hb hby at_127) rfl rfl ?_
      refine XS.iconst X6.here hx rfl (hb hby at_129) ?_
      refine XS.aload X6.here hx rfl (hb hby at_130) rfl rfl ?_
      show sS p e below T6 m 132 #[iv p0, .val (.long p1), .second, iv p2, iv p3, iv p4, iv p5, iv 1, rv bd, rv bt, rv b5, rv b6, .unset, .unset, .unset, .unset, .unset] [(.ref bd), (.int (0 : Int32)), (.ref b5)] _
      refine XS.iconst X6.here hx rfl (hb hby at_132) ?_
      refine own_ldI X6 hx hZ e6 ((Vd.ext E5).ext E6) ⟨by decide, by decide⟩ (v := (own_e0 p1)) rfl rfl rfl (hb hby at_133) ?_
      refine XS.i2dS X6.here hx rfl (hb hby at_134) rfl rfl ?_
      show sS p e below T6 m 135 #[iv p0, .val (.long p1), .second, iv p2, iv p3, iv p4, iv p5, iv 1, rv bd, rv bt, rv b5, rv b6, .unset, .unset, .unset, .unset, .unset] [(.double (FP.i2d (own_e0 p1))), (.int (0 : Int32)), (.ref b5)] _
      refine st8 _ ?_
      show sS p e below T8 m 136 #[iv p0, .val (.long p1), .second, iv p2, iv p3, iv p4, iv p5, iv 1, rv bd, rv bt, rv b5, rv b6, .unset, .unset, .unset, .unset, .unset] [] _
      refine XS.aload X8.here hx rfl (hb hby at_136) rfl rfl ?_
      refine XS.iconst X8.here hx rfl (hb hby at_138) ?_
      refine XS.aload X8.here hx rfl (hb hby at_139) rfl rfl ?_
      refine XS.iconst X8.here hx rfl (hb hby at_141) ?_
      refine own_ldI X8 hx hZ e8 (((Vt.ext E5).ext E6).other W8 (Nat.ne_of_lt (Nat.lt_of_lt_of_le Vt.lt (Nat.le_of_eq g5.symm)))) ⟨by decide, by decide⟩ (v := p2) rfl rfl rfl (hb hby at_142) ?_
      show sS p e below T8 m 143 #[iv p0, .val (.long p1), .second, iv p2, iv p3, iv p4, iv p5, iv 1, rv bd, rv bt, rv b5, rv b6, .unset, .unset, .unset, .unset, .unset] [(.int p2), (.int (0 : Int32)), (.ref b6)] _
      refine st10 _ ?_
      show sS p e below T10 m 144 #[iv p0, .val (.long p1), .second, iv p2, iv p3, iv p4, iv p5, iv 1, rv bd, rv bt, rv b5, rv b6, .unset, .unset, .unset, .unset, .unset] [] _
      refine XS.iload X10.here hx rfl (hb hby at_144) rfl ?_
      refine XS.iconst X10.here hx rfl (hb hby at_146) ?_
      refine XS.icmpYes X10.here hx rfl (pc0 := 147) (pc' := 167) rfl (hb hby at_147) rfl (by decide) (by decide) (by decide) ?_
      refine XS.iload X10.here hx rfl (hb hby at_167) rfl ?_
      refine XS.iconst X10.here hx rfl (hb hby at_169) ?_
      refine XS.icmpYes X10.here hx rfl (pc0 := 170) (pc' := 190) rfl (hb hby at_170) rfl (by decide) (by decide) (by decide) ?_
      show sS p e below T10 m 190 #[iv p0, .val (.long p1), .second, iv p2, iv p3, iv p4, iv p5, iv 1, rv bd, rv bt, rv b5, rv b6, .unset, .unset, .unset, .unset, .unset] [] _
      refine XS.iload X10.here hx rfl (hb hby at_190) rfl ?_
      refine XS.iconst X10.here hx rfl (hb hby at_192) ?_
      refine XS.icmpYes X10.here hx rfl (pc0 := 193) (pc' := 213) rfl (hb hby at_193) rfl (by decide) (by decide) (by decide) ?_
      refine XS.iload X10.here hx rfl (hb hby at_213) rfl ?_
      refine XS.iconst X10.here hx rfl (hb hby at_215) ?_
      refine XS.icmpYes X10.here hx rfl (pc0 := 216) (pc' := 236) rfl (hb hby at_216) rfl (by decide) (by decide) (by decide) ?_
      show sS p e below T10 m 236 #[iv p0, .val (.long p1), .second, iv p2, iv p3, iv p4, iv p5, iv 1, rv bd, rv bt, rv b5, rv b6, .unset, .unset, .unset, .unset, .unset] [] _
      refine XS.aload X10.here hx rfl (hb hby at_236) rfl rfl ?_
      refine XS.aload X10.here hx rfl (hb hby at_238) rfl rfl ?_
      show sS p e below T10 m 240 #[iv p0, .val (.long p1), .second, iv p2, iv p3, iv p4, iv p5, iv 1, rv bd, rv bt, rv b5, rv b6, .unset, .unset, .unset, .unset, .unset] [(.ref b6), (.ref b5)] _
      refine st11 _ ?_
      show sS p e below T11 m 243 #[iv p0, .val (.long p1), .second, iv p2, iv p3, iv p4, iv p5, iv 1, rv bd, rv bt, rv b5, rv b6, .unset, .unset, .unset, .unset, .unset] [(.int (own_res1 (own_e0 p1) p2))] _
      rw [← hgot]
      show sS p e below T11 m 243 #[iv p0, .val (.long p1), .second, iv p2, iv p3, iv p4, iv p5, iv 1, rv bd, rv bt, rv b5, rv b6, .unset, .unset, .unset, .unset, .unset] [(.int got)] _
      refine XS.istore X11.here hx rfl (hb hby at_243) rfl (l' := #[iv p0, .val (.long p1), .second, iv p2, iv p3, iv p4, iv p5, iv 1, rv bd, rv bt, rv b5, rv b6, iv got, .unset, .unset, .unset, .unset]) rfl ?_
      refine XS.iload X11.here hx rfl (hb hby at_245) rfl ?_
      refine XS.ifYes X11.here hx rfl (pc0 := 247) (pc' := 256) rfl (hb hby at_247) rfl (by decide) (by decide) (by decide) ?_
      refine XS.aload X11.here hx rfl (hb hby at_256) rfl rfl ?_
      refine XS.aload X11.here hx rfl (hb hby at_258) rfl rfl ?_
      refine XS.iload X11.here hx rfl (hb hby at_260) rfl ?_
      show sS p e below T11 m 262 #[iv p0, .val (.long p1), .second, iv p2, iv p3, iv p4, iv p5, iv 1, rv bd, rv bt, rv b5, rv b6, iv got, .unset, .unset, .unset, .unset] [(.int (1 : Int32)), (.ref bd), (.ref bt)] _
      refine XS.iconst X11.here hx rfl (hb hby at_262) ?_
      show sS p e below T11 m 263 #[iv p0, .val (.long p1), .second, iv p2, iv p3, iv p4, iv p5, iv 1, rv bd, rv bt, rv b5, rv b6, iv got, .unset, .unset, .unset, .unset] [(.int (0 : Int32)), (.int (1 : Int32)), (.ref bd), (.ref bt)] _
      refine st12 _ ?_
      show sS p e below T12 m 266 #[iv p0, .val (.long p1), .second, iv p2, iv p3, iv p4, iv p5, iv 1, rv bd, rv bt, rv b5, rv b6, iv got, .unset, .unset, .unset, .unset] [(.int (own_at1 (own_e0 p1) (0 : Int32))), (.ref bt)] _
      refine own_ldI X12 hx hZ eh12 (((((Vt.ext E5).ext E6).other W8 (Nat.ne_of_lt (Nat.lt_of_lt_of_le Vt.lt (Nat.le_of_eq g5.symm)))).other W10 (Nat.ne_of_lt (Nat.lt_of_lt_of_le (Vt.ext E5).lt (Nat.le_of_eq g6.symm)))).keep K11 nin0) (own_at1_b _ _) (v := (own_g [p2, p3, p4, p5, (own_t4 p0)] (own_at1 (own_e0 p1) (0 : Int32)))) (own_getI [p2, p3, p4, p5, (own_t4 p0)] _) rfl rfl (hb hby at_266) ?_
      show sS p e below T12 m 267 #[iv p0, .val (.long p1), .second, iv p2, iv p3, iv p4, iv p5, iv 1, rv bd, rv bt, rv b5, rv b6, iv got, .unset, .unset, .unset, .unset] [(.int (own_g [p2, p3, p4, p5, (own_t4 p0)] (own_at1 (own_e0 p1) (0 : Int32))))] _
      rw [← hna]
      show sS p e below T12 m 267 #[iv p0, .val (.long p1), .second, iv p2, iv p3, iv p4, iv p5, iv 1, rv bd, rv bt, rv b5, rv b6, iv got, .unset, .unset, .unset, .unset] [(.int na)] _
      refine XS.istore X12.here hx rfl (hb hby at_267) rfl (l' := #[iv p0, .val (.long p1), .second, iv p2, iv p3, iv p4, iv p5, iv 1, rv bd, rv bt, rv b5, rv b6, iv got, .unset, iv na, .unset, .unset]) rfl ?_
      refine XS.iload X12.here hx rfl (hb hby at_269) rfl ?_
      refine XS.iconst X12.here hx rfl (hb hby at_271) ?_
      refine XS.icmpNo X12.here hx rfl (hb hby at_272) rfl (by decide) ?_
      refine XS.iload X12.here hx rfl (hb hby at_275) rfl ?_
      refine XS.istore X12.here hx rfl (hb hby at_277) rfl (l' := #[iv p0, .val (.long p1), .second, iv p2, iv p3, iv p4, iv p5, iv 1, rv bd, rv bt, rv b5, rv b6, iv got, iv na, iv na, .unset, .unset]) rfl ?_
      show sS p e below T12 m 279 #[iv p0, .val (.long p1), .second, iv p2, iv p3, iv p4, iv p5, iv 1, rv bd, rv bt, rv b5, rv b6, iv got, iv na, iv na, .unset, .unset] [] _
      refine XS.goto X12.here hx rfl (pc0 := 279) (pc' := 324) rfl (hb hby at_279) (by decide) (by decide) ?_
      refine XS.iload X12.here hx rfl (hb hby at_324) rfl ?_
      refine XS.iload X12.here hx rfl (hb hby at_326) rfl ?_
      refine XS.icmpNo X12.here hx rfl (hb hby at_328) rfl (by rw [hgot, hna]; exact own_law1 (own_e0 p1) p2 p3 p4 p5 (own_t4 p0)) ?_
      refine XS.iconst X12.here hx rfl (hb hby at_331) ?_
      refine XS.goto X12.here hx rfl (pc0 := 332) (pc' := 336) rfl (hb hby at_332) (by decide) (by decide) ?_
      show sS p e below T12 m 336 #[iv p0, .val (.long p1), .second, iv p2, iv p3, iv p4, iv p5, iv 1, rv bd, rv bt, rv b5, rv b6, iv got, iv na, iv na, .unset, .unset] [(.int (1 : Int32))] _
      exact retN X12 hx (t := .boolean) Bd.returns (by simp) (hb hby at_336) hr
    · show Q0 Z p0 p1 p2 p3 p4 p5 h0 n0 _ T12.heap _
      rw [eh12]
      exact ⟨rfl, N12⟩
  · obtain ⟨T13, h13, k13, X13, e13, E13, A13, Ax13, st13⟩ := newPE X1 hx hZ (wK hw (i := 2) rfl) e1 (g := (mkF m 112 #[iv p0, .val (.long p1), .second, iv p2, iv p3, iv p4, iv p5, iv 2, rv bd, rv bt, .unset, .unset, .unset, .unset, .unset, .unset, .unset] [(.int (2 : Int32))])) rfl (hb hby at_112) rfl (by decide) (cap := 2) (by decide) (by decide) (by decide) (by decide) (ad := "[D") (by decide)
    obtain ⟨b13, g13⟩ : ∃ z, z = h1.size := ⟨_, rfl⟩
    rw [← g13] at A13 Ax13 st13
    have V13 : Arv Z h13 b13 k13 .double (2 : Int32) [(.double (0 : UInt64)), (.double (0 : UInt64))] (.double (0 : UInt64)) := (Arv.new A13 (by decide)).pad (pad_rep [] (.double (0 : UInt64)) 2)
    obtain ⟨T14, h14, k14, X14, e14, E14, A14, Ax14, st14⟩ := newPE X13 hx hZ (wK hw (i := 0) rfl) e13 (g := (mkF m 118 #[iv p0, .val (.long p1), .second, iv p2, iv p3, iv p4, iv p5, iv 2, rv bd, rv bt, rv b13, .unset, .unset, .unset, .unset, .unset, .unset] [(.int (2 : Int32))])) rfl (hb hby at_118) rfl (by decide) (cap := 2) (by decide) (by decide) (by decide) (by decide) (ad := "[I") (by decide)
    obtain ⟨b14, g14⟩ : ∃ z, z = h13.size := ⟨_, rfl⟩
    rw [← g14] at A14 Ax14 st14
    have V14 : Arv Z h14 b14 k14 .int (2 : Int32) [(.int (0 : Int32)), (.int (0 : Int32))] (.int (0 : Int32)) := (Arv.new A14 (by decide)).pad (pad_rep [] (.int (0 : Int32)) 2)
    obtain ⟨cl15, Ar15, q15, S15, P15, Ha15, G15⟩ := (V13.ext E14)
    have hin15 : ¬ ((0 : Int32) < 0 ∨ cl15.slots.size ≤ ((0 : Int32)).toNatClampNeg) := inb_of S15 ⟨by decide, by decide⟩
    obtain ⟨T16, h16, X16, e16, W16, st16⟩ := stD X14 hx hZ e14 Ar15 (j := (0 : Int32)) hin15 (g := (mkF m 135 #[iv p0, .val (.long p1), .second, iv p2, iv p3, iv p4, iv p5, iv 2, rv bd, rv bt, rv b13, rv b14, .unset, .unset, .unset, .unset, .unset] [(.double (FP.i2d (own_e0 p1))), (.int (0 : Int32)), (.ref b13)])) rfl rfl (hb hby at_135)
    have V16 : Arv Z h16 b13 k13 .double (2 : Int32) [(.double (FP.i2d (own_e0 p1))), (.double (0 : UInt64))] (.double (0 : UInt64)) := Arv.set Ar15 q15 S15 P15 Ha15 G15 rfl W16 0 rfl (Nat.le_of_ble_eq_true rfl)
    have N16 := Fr.snoc X16 N1 (Nat.le_trans Z0 (Nat.le_trans (Nat.le_trans (Nat.le_refl _) K1.1) (Nat.le_of_eq g13.symm)))
    obtain ⟨cl17, Ar17, q17, S17, P17, Ha17, G17⟩ := (V14.other W16 (Ne.symm (Nat.ne_of_lt (Nat.lt_of_lt_of_le Ax13.lt (Nat.le_of_eq g14.symm)))))
    have hin17 : ¬ ((0 : Int32) < 0 ∨ cl17.slots.size ≤ ((0 : Int32)).toNatClampNeg) := inb_of S17 ⟨by decide, by decide⟩
    obtain ⟨T18, h18, X18, e18, W18, st18⟩ := stI X16 hx hZ e16 Ar17 (j := (0 : Int32)) hin17 (g := (mkF m 143 #[iv p0, .val (.long p1), .second, iv p2, iv p3, iv p4, iv p5, iv 2, rv bd, rv bt, rv b13, rv b14, .unset, .unset, .unset, .unset, .unset] [(.int p2), (.int (0 : Int32)), (.ref b14)])) rfl rfl (hb hby at_143)
    have V18 : Arv Z h18 b14 k14 .int (2 : Int32) [(.int p2), (.int (0 : Int32))] (.int (0 : Int32)) := Arv.set Ar17 q17 S17 P17 Ha17 G17 rfl W18 0 rfl (Nat.le_of_ble_eq_true rfl)
    have N18 := Fr.snoc X18 N16 (Nat.le_trans Z0 (Nat.le_trans (Nat.le_trans (Nat.le_trans (Nat.le_refl _) K1.1) E13.1) (Nat.le_of_eq g14.symm)))
    obtain ⟨cl19, Ar19, q19, S19, P19, Ha19, G19⟩ := (V16.other W18 (Nat.ne_of_lt (Nat.lt_of_lt_of_le Ax13.lt (Nat.le_of_eq g14.symm))))
    have hin19 : ¬ ((1 : Int32) < 0 ∨ cl19.slots.size ≤ ((1 : Int32)).toNatClampNeg) := inb_of S19 ⟨by decide, by decide⟩
    obtain ⟨T20, h20, X20, e20, W20, st20⟩ := stD X18 hx hZ e18 Ar19 (j := (1 : Int32)) hin19 (g := (mkF m 158 #[iv p0, .val (.long p1), .second, iv p2, iv p3, iv p4, iv p5, iv 2, rv bd, rv bt, rv b13, rv b14, .unset, .unset, .unset, .unset, .unset] [(.double (FP.i2d (own_e (3 : Int32) p1))), (.int (1 : Int32)), (.ref b13)])) rfl rfl (hb hby at_158)
    have V20 : Arv Z h20 b13 k13 .double (2 : Int32) [(.double (FP.i2d (own_e0 p1))), (.double (FP.i2d (own_e (3 : Int32) p1)))] (.double (0 : UInt64)) := Arv.set Ar19 q19 S19 P19 Ha19 G19 rfl W20 1 rfl (Nat.le_of_ble_eq_true rfl)
    have N20 := Fr.snoc X20 N18 (Nat.le_trans Z0 (Nat.le_trans (Nat.le_trans (Nat.le_refl _) K1.1) (Nat.le_of_eq g13.symm)))
    obtain ⟨cl21, Ar21, q21, S21, P21, Ha21, G21⟩ := (V18.other W20 (Ne.symm (Nat.ne_of_lt (Nat.lt_of_lt_of_le Ax13.lt (Nat.le_of_eq g14.symm)))))
    have hin21 : ¬ ((1 : Int32) < 0 ∨ cl21.slots.size ≤ ((1 : Int32)).toNatClampNeg) := inb_of S21 ⟨by decide, by decide⟩
    obtain ⟨T22, h22, X22, e22, W22, st22⟩ := stI X20 hx hZ e20 Ar21 (j := (1 : Int32)) hin21 (g := (mkF m 166 #[iv p0, .val (.long p1), .second, iv p2, iv p3, iv p4, iv p5, iv 2, rv bd, rv bt, rv b13, rv b14, .unset, .unset, .unset, .unset, .unset] [(.int p3), (.int (1 : Int32)), (.ref b14)])) rfl rfl (hb hby at_166)
    have V22 : Arv Z h22 b14 k14 .int (2 : Int32) [(.int p2), (.int p3)] (.int (0 : Int32)) := Arv.set Ar21 q21 S21 P21 Ha21 G21 rfl W22 1 rfl (Nat.le_of_ble_eq_true rfl)
    have N22 := Fr.snoc X22 N20 (Nat.le_trans Z0 (Nat.le_trans (Nat.le_trans (Nat.le_trans (Nat.le_refl _) K1.1) E13.1) (Nat.le_of_eq g14.symm)))
    obtain ⟨_, _, ⟨T23, L23, k23, n23⟩, -, X23, ⟨Lc23, hQ23, l23, y23, z23⟩, st23⟩ := Jvm.LawKit.callS X22 hx (y := ⟨cN1, "typeByNeighbours", "([D[I)I"⟩) hown (mvT hZ (wK hw (i := 3) rfl)) (mvT hZ (wK hw (i := 4) rfl)) (mvT hZ (wK hw (i := 5) rfl)) (mvT hZ (wK hw (i := 6) rfl)) (by decide) (backOf (W := 0) (rmtb2 l Z a0 hw [] b13 k13 b14 k14 (own_e0 p1) (own_e (3 : Int32) p1) p2 p3 h22 n0 (Nat.le_trans (Nat.le_trans (Nat.le_trans (Nat.le_trans (Nat.le_trans (Nat.le_trans (Nat.le_trans Z0 K1.1) E13.1) E14.1) (Keep.of_wr W16).1) (Keep.of_wr W18).1) (Keep.of_wr W20).1) (Keep.of_wr W22).1) (V20.other W22 (Nat.ne_of_lt (Nat.lt_of_lt_of_le Ax13.lt (Nat.le_of_eq g14.symm)))) V22) hZ (wK hw (i := 6) rfl) (wK hw (i := 5) rfl) (by decide) (by decide)) (g := (mkF m 240 #[iv p0, .val (.long p1), .second, iv p2, iv p3, iv p4, iv p5, iv 2, rv bd, rv bt, rv b13, rv b14, .unset, .unset, .unset, .unset, .unset] [(.ref b14), (.ref b13)])) rfl (by rw [hml]; rfl) (argsL := [(.ref b13), (.ref b14)]) (rest := []) (lenOf pd_7 rfl) rfl (Nat.le_of_eq rfl) (hb hby at_240) (fun _ _ => ⟨rfl, e22, (by decide : 4 + 1 ≤ _), (by decide : 14 + 2 ≤ _)⟩)
    dsimp only [Pt.U, Pt.locs, Pt.cells, Pt.slots] at X23 l23 y23 z23 st23 hQ23
    subst l23 y23 z23
    obtain ⟨rfl, N23q, K23⟩ := hQ23
    have N23 := Fr.app N22 N23q
    obtain ⟨got, hgot⟩ : ∃ q : Int32, q = (own_res2 (own_e0 p1) (own_e (3 : Int32) p1) p2 p3) := ⟨_, rfl⟩
    obtain ⟨_, _, ⟨T24, L24, k24, n24⟩, -, X24, ⟨Lc24, hQ24, l24, y24, z24⟩, st24⟩ := Jvm.LawKit.callS X23 hx (y := ⟨cN0, "at", "([III)I"⟩) hown (mvT hZ (wK hw (i := 22) rfl)) (mvT hZ (wK hw (i := 23) rfl)) (mvT hZ (wK hw (i := 24) rfl)) (mvT hZ (wK hw (i := 25) rfl)) (by decide) (backOf (W := 1) (rmat2 l Z a0 hw [] bd k1 (own_e0 p1) (own_e (3 : Int32) p1) (own_e (6 : Int32) p1) (own_e (9 : Int32) p1) (own_e (12 : Int32) p1) (0 : Int32) T23.heap n0 (Nat.le_trans (Nat.le_trans (Nat.le_trans (Nat.le_trans (Nat.le_trans (Nat.le_trans (Nat.le_trans (Nat.le_trans Z0 K1.1) E13.1) E14.1) (Keep.of_wr W16).1) (Keep.of_wr W18).1) (Keep.of_wr W20).1) (Keep.of_wr W22).1) K23.1) (((((((Vd.ext E13).ext E14).other W16 (Nat.ne_of_lt (Nat.lt_of_lt_of_le Vd.lt (Nat.le_of_eq g13.symm)))).other W18 (Nat.ne_of_lt (Nat.lt_of_lt_of_le (Vd.ext E13).lt (Nat.le_of_eq g14.symm)))).other W20 (Nat.ne_of_lt (Nat.lt_of_lt_of_le Vd.lt (Nat.le_of_eq g13.symm)))).other W22 (Nat.ne_of_lt (Nat.lt_of_lt_of_le (Vd.ext E13).lt (Nat.le_of_eq g14.symm)))).keep K23 nin0)) hZ (wK hw (i := 25) rfl) (wK hw (i := 24) rfl) (by decide) (by decide)) (g := (mkF m 263 #[iv p0, .val (.long p1), .second, iv p2, iv p3, iv p4, iv p5, iv 2, rv bd, rv bt, rv b13, rv b14, iv got, .unset, .unset, .unset, .unset] [(.int (0 : Int32)), (.int (2 : Int32)), (.ref bd), (.ref bt)])) rfl (by rw [hml]; rfl) (argsL := [(.ref bd), (.int (2 : Int32)), (.int (0 : Int32))]) (rest := [(.ref bt)]) (lenOf pd_3 rfl) rfl (Nat.le_of_eq rfl) (hb hby at_263) (fun _ _ => ⟨rfl, rfl, (by decide : 5 + 0 ≤ _), (by decide : 16 + 0 ≤ _)⟩)
    dsimp only [Pt.U, Pt.locs, Pt.cells, Pt.slots] at X24 l24 y24 z24 st24 hQ24
    subst l24 y24 z24
    obtain ⟨rfl, N24q, eh24⟩ := hQ24
    have N24 := Fr.app N23 N24q
    obtain ⟨na, hna⟩ : ∃ q : Int32, q = (own_g [p2, p3, p4, p5, (own_t4 p0)] (own_at2 (own_e0 p1) (own_e (3 : Int32) p1) (0 : Int32))) := ⟨_, rfl⟩
    obtain ⟨fs, hr, hrun, hended, hW, hsame⟩ := X24.leave (v := some (.int (nar .boolean (1 : Int32)))) (fun h => by rw [Bd.returns] at h; cases h)
    refine ⟨_, _, pre0 _ ?_, hrun, hended, _, _, rfl, ?_, ⟨_, rfl⟩, hW, hsame.mono (by decide) (by decide)⟩
    · show sS p e below s₁ m 0 #[iv p0, .val (.long p1), .second, iv p2, iv p3, iv p4, iv p5, .unset, .unset, .unset, .unset, .unset, .unset, .unset, .unset, .unset, .unset] [] _
      refine st1 _ ?_
      show sS p e below T1 m 110 #[iv p0, .val (.long p1), .second, iv p2, iv p3, iv p4, iv p5, .val (.int (own_n p0)), rv bd, rv bt, .unset, .unset, .unset, .unset, .unset, .unset, .unset] [] _
      rw [hn]
      show sS p e below T1 m 110 #[iv p0, .val (.long p1), .second, iv p2, iv p3, iv p4, iv p5, iv 2, rv bd, rv bt, .unset, .unset, .unset, .unset, .unset, .unset, .unset] [] _
      refine XS.iload X1.here hx rfl (hb hby at_110) rfl ?_
      show sS p e below T1 m 112 #[iv p0, .val (.long p1), .second, iv p2, iv p3, iv p4, iv p5, iv 2, rv bd, rv bt, .unset, .unset, .unset, .unset, .unset, .unset, .unset] [(.int (2 : Int32))] _
      refine st13 _ ?_
      show sS p e below T13 m 114 #[iv p0, .val (.long p1), .second, iv p2, iv p3, iv p4, iv p5, iv 2, rv bd, rv bt, .unset, .unset, .unset, .unset, .unset, .unset, .unset] [(.ref b13)] _
      refine XS.astore X13.here hx rfl (hb hby at_114) rfl rfl (l' := #[iv p0, .val (.long p1), .second, iv p2, iv p3, iv p4, iv p5, iv 2, rv bd, rv bt, rv b13, .unset, .unset, .unset, .unset, .unset, .unset]) rfl ?_
      refine XS.iload X13.here hx rfl (hb hby at_116) rfl ?_
      show sS p e below T13 m 118 #[iv p0, .val (.long p1), .second, iv p2, iv p3, iv p4, iv p5, iv 2, rv bd, rv bt, rv b13, .unset, .unset, .unset, .unset, .unset, .unset] [(.int (2 : Int32))] _
      refine st14 _ ?_
      show sS p e below T14 m 120 #[iv p0, .val (.long p1), .second, iv p2, iv p3, iv p4, iv p5, iv 2, rv bd, rv bt, rv b13, .unset, .unset, .unset, .unset, .unset, .unset] [(.ref b14)] _
      refine XS.astore X14.here hx rfl (hb hby at_120) rfl rfl (l' := #[iv p0, .val (.long p1), .second, iv p2, iv p3, iv p4, iv p5, iv 2, rv bd, rv bt, rv b13, rv b14, .unset, .unset, .unset, .unset, .unset]) rfl ?_
      refine XS.iload X14.here hx rfl (hb hby at_122) rfl ?_
      refine XS.ifNo X14.here hx rfl (hb hby at_124) rfl (by decide) ?_
      refine XS.aload X14.here hx rfl (hb hby at_127) rfl rfl ?_
      refine XS.iconst X14.here hx rfl (hb hby at_129) ?_
      refine XS.aload X14.here hx rfl (hb hby at_130) rfl rfl ?_
      show sS p e below T14 m 132 #[iv p0, .val (.long p1), .second, iv p2, iv p3, iv p4, iv p5, iv 2, rv bd, rv bt, rv b13, rv b14, .unset, .unset, .unset, .unset, .unset] [(.ref bd), (.int (0 : Int32)), (.ref b13)] _
      refine XS.iconst X14.here hx rfl (hb hby at_132) ?_
      refine own_ldI X14 hx hZ e14 ((Vd.ext E13).ext E14) ⟨by decide, by decide⟩ (v := (own_e0 p1)) rfl rfl rfl (hb hby at_133) ?_
      refine XS.i2dS X14.here hx rfl (hb hby at_134) rfl rfl ?_
      show sS p e below T14 m 135 #[iv p0, .val (.long p1), .second, iv p2, iv p3, iv p4, iv p5, iv 2, rv bd, rv bt, rv b13, rv b14, .unset, .unset, .unset, .unset, .unset] [(.double (FP.i2d (own_e0 p1))), (.int (0 : Int32)), (.ref b13)] _
      refine st16 _ ?_
      show sS p e below T16 m 136 #[iv p0, .val (.long p1), .second, iv p2, iv p3, iv p4, iv p5, iv 2, rv bd, rv bt, rv b13, rv b14, .unset, .unset, .unset, .unset, .unset] [] _
      refine XS.aload X16.here hx rfl (hb hby at_136) rfl rfl ?_
      refine XS.iconst X16.here hx rfl (hb hby at_138) ?_
      refine XS.aload X16.here hx rfl (hb hby at_139) rfl rfl ?_
      refine XS.iconst X16.here hx rfl (hb hby at_141) ?_
      refine own_ldI X16 hx hZ e16 (((Vt.ext E13).ext E14).other W16 (Nat.ne_of_lt (Nat.lt_of_lt_of_le Vt.lt (Nat.le_of_eq g13.symm)))) ⟨by decide, by decide⟩ (v := p2) rfl rfl rfl (hb hby at_142) ?_
      show sS p e below T16 m 143 #[iv p0, .val (.long p1), .second, iv p2, iv p3, iv p4, iv p5, iv 2, rv bd, rv bt, rv b13, rv b14, .unset, .unset, .unset, .unset, .unset] [(.int p2), (.int (0 : Int32)), (.ref b14)] _
      refine st18 _ ?_
      show sS p e below T18 m 144 #[iv p0, .val (.long p1), .second, iv p2, iv p3, iv p4, iv p5, iv 2, rv bd, rv bt, rv b13, rv b14, .unset, .unset, .unset, .unset, .unset] [] _
      refine XS.iload X18.here hx rfl (hb hby at_144) rfl ?_
      refine XS.iconst X18.here hx rfl (hb hby at_146) ?_
      refine XS.icmpNo X18.here hx rfl (hb hby at_147) rfl (by decide) ?_
      refine XS.aload X18.here hx rfl (hb hby at_150) rfl rfl ?_
      refine XS.iconst X18.here hx rfl (hb hby at_152) ?_
      refine XS.aload X18.here hx rfl (hb hby at_153) rfl rfl ?_
      show sS p e below T18 m 155 #[iv p0, .val (.long p1), .second, iv p2, iv p3, iv p4, iv p5, iv 2, rv bd, rv bt, rv b13, rv b14, .unset, .unset, .unset, .unset, .unset] [(.ref bd), (.int (1 : Int32)), (.ref b13)] _
      refine XS.iconst X18.here hx rfl (hb hby at_155) ?_
      refine own_ldI X18 hx hZ e18 ((((Vd.ext E13).ext E14).other W16 (Nat.ne_of_lt (Nat.lt_of_lt_of_le Vd.lt (Nat.le_of_eq g13.symm)))).other W18 (Nat.ne_of_lt (Nat.lt_of_lt_of_le (Vd.ext E13).lt (Nat.le_of_eq g14.symm)))) ⟨by decide, by decide⟩ (v := (own_e (3 : Int32) p1)) rfl rfl rfl (hb hby at_156) ?_
      refine XS.i2dS X18.here hx rfl (hb hby at_157) rfl rfl ?_
      show sS p e below T18 m 158 #[iv p0, .val (.long p1), .second, iv p2, iv p3, iv p4, iv p5, iv 2, rv bd, rv bt, rv b13, rv b14, .unset, .unset, .unset, .unset, .unset] [(.double (FP.i2d (own_e (3 : Int32) p1))), (.int (1 : Int32)), (.ref b13)] _
      refine st20 _ ?_
      show sS p e below T20 m 159 #[iv p0, .val (.long p1), .second, iv p2, iv p3, iv p4, iv p5, iv 2, rv bd, rv bt, rv b13, rv b14, .unset, .unset, .unset, .unset, .unset] [] _
      refine XS.aload X20.here hx rfl (hb hby at_159) rfl rfl ?_
      refine XS.iconst X20.here hx rfl (hb hby at_161) ?_
      refine XS.aload X20.here hx rfl (hb hby at_162) rfl rfl ?_
      refine XS.iconst X20.here hx rfl (hb hby at_164) ?_
      refine own_ldI X20 hx hZ e20 (((((Vt.ext E13).ext E14).other W16 (Nat.ne_of_lt (Nat.lt_of_lt_of_le Vt.lt (Nat.le_of_eq g13.symm)))).other W18 (Nat.ne_of_lt (Nat.lt_of_lt_of_le (Vt.ext E13).lt (Nat.le_of_eq g14.symm)))).other W20 (Nat.ne_of_lt (Nat.lt_of_lt_of_le Vt.lt (Nat.le_of_eq g13.symm)))) ⟨by decide, by decide⟩ (v := p3) rfl rfl rfl (hb hby at_165) ?_
      show sS p e below T20 m 166 #[iv p0, .val (.long p1), .second, iv p2, iv p3, iv p4, iv p5, iv 2, rv bd, rv bt, rv b13, rv b14, .unset, .unset, .unset, .unset, .unset] [(.int p3), (.int (1 : Int32)), (.ref b14)] _
      refine st22 _ ?_
      show sS p e below T22 m 167 #[iv p0, .val (.long p1), .second, iv p2, iv p3, iv p4, iv p5, iv 2, rv bd, rv bt, rv b13, rv b14, .unset, .unset, .unset, .unset, .unset] [] _
      refine XS.iload X22.here hx rfl (hb hby at_167) rfl ?_
      refine XS.iconst X22.here hx rfl (hb hby at_169) ?_
      refine XS.icmpYes X22.here hx rfl (pc0 := 170) (pc' := 190) rfl (hb hby at_170) rfl (by decide) (by decide) (by decide) ?_
      refine XS.iload X22.here hx rfl (hb hby at_190) rfl ?_
      refine XS.iconst X22.here hx rfl (hb hby at_192) ?_
      refine XS.icmpYes X22.here hx rfl (pc0 := 193) (pc' := 213) rfl (hb hby at_193) rfl (by decide) (by decide) (by decide) ?_
      show sS p e below T22 m 213 #[iv p0, .val (.long p1), .second, iv p2, iv p3, iv p4, iv p5, iv 2, rv bd, rv bt, rv b13, rv b14, .unset, .unset, .unset, .unset, .unset] [] _
      refine XS.iload X22.here hx rfl (hb hby at_213) rfl ?_
      refine XS.iconst X22.here hx rfl (hb hby at_215) ?_
      refine XS.icmpYes X22.here hx rfl (pc0 := 216) (pc' := 236) rfl (hb hby at_216) rfl (by decide) (by decide) (by decide) ?_
      refine XS.aload X22.here hx rfl (hb hby at_236) rfl rfl ?_
      refine XS.aload X22.here hx rfl (hb hby at_238) rfl rfl ?_
      show sS p e below T22 m 240 #[iv p0, .val (.long p1), .second, iv p2, iv p3, iv p4, iv p5, iv 2, rv bd, rv bt, rv b13, rv b14, .unset, .unset, .unset, .unset, .unset] [(.ref b14), (.ref b13)] _
      refine st23 _ ?_
      show sS p e below T23 m 243 #[iv p0, .val (.long p1), .second, iv p2, iv p3, iv p4, iv p5, iv 2, rv bd, rv bt, rv b13, rv b14, .unset, .unset, .unset, .unset, .unset] [(.int (own_res2 (own_e0 p1) (own_e (3 : Int32) p1) p2 p3))] _
      rw [← hgot]
      show sS p e below T23 m 243 #[iv p0, .val (.long p1), .second, iv p2, iv p3, iv p4, iv p5, iv 2, rv bd, rv bt, rv b13, rv b14, .unset, .unset, .unset, .unset, .unset] [(.int got)] _
      refine XS.istore X23.here hx rfl (hb hby at_243) rfl (l' := #[iv p0, .val (.long p1), .second, iv p2, iv p3, iv p4, iv p5, iv 2, rv bd, rv bt, rv b13, rv b14, iv got, .unset, .unset, .unset, .unset]) rfl ?_
      refine XS.iload X23.here hx rfl (hb hby at_245) rfl ?_
      refine XS.ifYes X23.here hx rfl (pc0 := 247) (pc' := 256) rfl (hb hby at_247) rfl (by decide) (by decide) (by decide) ?_
      refine XS.aload X23.here hx rfl (hb hby at_256) rfl rfl ?_
      refine XS.aload X23.here hx rfl (hb hby at_258) rfl rfl ?_
      refine XS.iload X23.here hx rfl (hb hby at_260) rfl ?_
      show sS p e below T23 m 262 #[iv p0, .val (.long p1), .second, iv p2, iv p3, iv p4, iv p5, iv 2, rv bd, rv bt, rv b13, rv b14, iv got, .unset, .unset, .unset, .unset] [(.int (2 : Int32)), (.ref bd), (.ref bt)] _
      refine XS.iconst X23.here hx rfl (hb hby at_262) ?_
      show sS p e below T23 m 263 #[iv p0, .val (.long p1), .second, iv p2, iv p3, iv p4, iv p5, iv 2, rv bd, rv bt, rv b13, rv b14, iv got, .unset, .unset, .unset, .unset] [(.int (0 : Int32)), (.int (2 : Int32)), (.ref bd), (.ref bt)] _
      refine st24 _ ?_
      show sS p e below T24 m 266 #[iv p0, .val (.long p1), .second, iv p2, iv p3, iv p4, iv p5, iv 2, rv bd, rv bt, rv b13, rv b14, iv got, .unset, .unset, .unset, .unset] [(.int (own_at2 (own_e0 p1) (own_e (3 : Int32) p1) (0 : Int32))), (.ref bt)] _
      refine own_ldI X24 hx hZ eh24 (((((((Vt.ext E13).ext E14).other W16 (Nat.ne_of_lt (Nat.lt_of_lt_of_le Vt.lt (Nat.le_of_eq g13.symm)))).other W18 (Nat.ne_of_lt (Nat.lt_of_lt_of_le (Vt.ext E13).lt (Nat.le_of_eq g14.symm)))).other W20 (Nat.ne_of_lt (Nat.lt_of_lt_of_le Vt.lt (Nat.le_of_eq g13.symm)))).other W22 (Nat.ne_of_lt (Nat.lt_of_lt_of_le (Vt.ext E13).lt (Nat.le_of_eq g14.symm)))).keep K23 nin0) (own_at2_b _ _ _) (v := (own_g [p2, p3, p4, p5, (own_t4 p0)] (own_at2 (own_e0 p1) (own_e (3 : Int32) p1) (0 : Int32)))) (own_getI [p2, p3, p4, p5, (own_t4 p0)] _) rfl rfl (hb hby at_266) ?_
      show sS p e below T24 m 267 #[iv p0, .val (.long p1), .second, iv p2, iv p3, iv p4, iv p5, iv 2, rv bd, rv bt, rv b13, rv b14, iv got, .unset, .unset, .unset, .unset] [(.int (own_g [p2, p3, p4, p5, (own_t4 p0)] (own_at2 (own_e0 p1) (own_e (3 : Int32) p1) (0 : Int32))))] _
      rw [← hna]
      show sS p e below T24 m 267 #[iv p0, .val (.long p1), .second, iv p2, iv p3, iv p4, iv p5, iv 2, rv bd, rv bt, rv b13, rv b14, iv got, .unset, .unset, .unset, .unset] [(.int na)] _
      refine XS.istore X24.here hx rfl (hb hby at_267) rfl (l' := #[iv p0, .val (.long p1), .second, iv p2, iv p3, iv p4, iv p5, iv 2, rv bd, rv bt, rv b13, rv b14, iv got, .unset, iv na, .unset, .unset]) rfl ?_
      refine XS.iload X24.here hx rfl (hb hby at_269) rfl ?_
      refine XS.iconst X24.here hx rfl (hb hby at_271) ?_
      refine XS.icmpNo X24.here hx rfl (hb hby at_272) rfl (by decide) ?_
      refine XS.iload X24.here hx rfl (hb hby at_275) rfl ?_
      refine XS.istore X24.here hx rfl (hb hby at_277) rfl (l' := #[iv p0, .val (.long p1), .second, iv p2, iv p3, iv p4, iv p5, iv 2, rv bd, rv bt, rv b13, rv b14, iv got, iv na, iv na, .unset, .unset]) rfl ?_
      show sS p e below T24 m 279 #[iv p0, .val (.long p1), .second, iv p2, iv p3, iv p4, iv p5, iv 2, rv bd, rv bt, rv b13, rv b14, iv got, iv na, iv na, .unset, .unset] [] _
      refine XS.goto X24.here hx rfl (pc0 := 279) (pc' := 324) rfl (hb hby at_279) (by decide) (by decide) ?_
      refine XS.iload X24.here hx rfl (hb hby at_324) rfl ?_
      refine XS.iload X24.here hx rfl (hb hby at_326) rfl ?_
      refine XS.icmpNo X24.here hx rfl (hb hby at_328) rfl (by rw [hgot, hna]; exact own_law2 (own_e0 p1) (own_e (3 : Int32) p1) p2 p3 p4 p5 (own_t4 p0)) ?_
      refine XS.iconst X24.here hx rfl (hb hby at_331) ?_
      refine XS.goto X24.here hx rfl (pc0 := 332) (pc' := 336) rfl (hb hby at_332) (by decide) (by decide) ?_
      show sS p e below T24 m 336 #[iv p0, .val (.long p1), .second, iv p2, iv p3, iv p4, iv p5, iv 2, rv bd, rv bt, rv b13, rv b14, iv got, iv na, iv na, .unset, .unset] [(.int (1 : Int32))] _
      exact retN X24 hx (t := .boolean) Bd.returns (by simp) (hb hby at_336) hr
    · show Q0 Z p0 p1 p2 p3 p4 p5 h0 n0 _ T24.heap _
      rw [eh24]
      exact ⟨rfl, N24⟩
  · obtain ⟨T25, h25, k25, X25, e25, E25, A25, Ax25, st25⟩ := newPE X1 hx hZ (wK hw (i := 2) rfl) e1 (g := (mkF m 112 #[iv p0, .val (.long p1), .second, iv p2, iv p3, iv p4, iv p5, iv 3, rv bd, rv bt, .unset, .unset, .unset, .unset, .unset, .unset, .unset] [(.int (3 : Int32))])) rfl (hb hby at_112) rfl (by decide) (cap := 3) (by decide) (by decide) (by decide) (by decide) (ad := "[D") (by decide)
    obtain ⟨b25, g25⟩ : ∃ z, z = h1.size := ⟨_, rfl⟩
    rw [← g25] at A25 Ax25 st25
    have V25 : Arv Z h25 b25 k25 .double (3 : Int32) [(.double (0 : UInt64)), (.double (0 : UInt64)), (.double (0 : UInt64))] (.double (0 : UInt64)) := (Arv.new A25 (by decide)).pad (pad_rep [] (.double (0 : UInt64)) 3)
    obtain ⟨T26, h26, k26, X26, e26, E26, A26, Ax26, st26⟩ := newPE X25 hx hZ (wK hw (i := 0) rfl) e25 (g := (mkF m 118 #[iv p0, .val (.long p1), .second, iv p2, iv p3, iv p4, iv p5, iv 3, rv bd, rv bt, rv b25, .unset, .unset, .unset, .unset, .unset, .unset] [(.int (3 : Int32))])) rfl (hb hby at_118) rfl (by decide) (cap := 3) (by decide) (by decide) (by decide) (by decide) (ad := "[I") (by decide)
    obtain ⟨b26, g26⟩ : ∃ z, z = h25.size := ⟨_, rfl⟩
    rw [← g26] at A26 Ax26 st26
    have V26 : Arv Z h26 b26 k26 .int (3 : Int32) [(.int (0 : Int32)), (.int (0 : Int32)), (.int (0 : Int32))] (.int (0 : Int32)) := (Arv.new A26 (by decide)).pad (pad_rep [] (.int (0 : Int32)) 3)
    obtain ⟨cl27, Ar27, q27, S27, P27, Ha27, G27⟩ := (V25.ext E26)
    have hin27 : ¬ ((0 : Int32) < 0 ∨ cl27.slots.size ≤ ((0 : Int32)).toNatClampNeg) := inb_of S27 ⟨by decide, by decide⟩
    obtain ⟨T28, h28, X28, e28, W28, st28⟩ := stD X26 hx hZ e26 Ar27 (j := (0 : Int32)) hin27 (g := (mkF m 135 #[iv p0, .val (.long p1), .second, iv p2, iv p3, iv p4, iv p5, iv 3, rv bd, rv bt, rv b25, rv b26, .unset, .unset, .unset, .unset, .unset] [(.double (FP.i2d (own_e0 p1))), (.int (0 : Int32)), (.ref b25)])) rfl rfl (hb hby at_135)
    have V28 : Arv Z h28 b25 k25 .double (3 : Int32) [(.double (FP.i2d (own_e0 p1))), (.double (0 : UInt64)), (.double (0 : UInt64))] (.double (0 : UInt64)) := Arv.set Ar27 q27 S27 P27 Ha27 G27 rfl W28 0 rfl (Nat.le_of_ble_eq_true rfl)
    have N28 := Fr.snoc X28 N1 (Nat.le_trans Z0 (Nat.le_trans (Nat.le_trans (Nat.le_refl _) K1.1) (Nat.le_of_eq g25.symm)))
    obtain ⟨cl29, Ar29, q29, S29, P29, Ha29, G29⟩ := (V26.other W28 (Ne.symm (Nat.ne_of_lt (Nat.lt_of_lt_of_le Ax25.lt (Nat.le_of_eq g26.symm)))))
    have hin29 : ¬ ((0 : Int32) < 0 ∨ cl29.slots.size ≤ ((0 : Int32)).toNatClampNeg) := inb_of S29 ⟨by decide, by decide⟩
    obtain ⟨T30, h30, X30, e30, W30, st30⟩ := stI X28 hx hZ e28 Ar29 (j := (0 : Int32)) hin29 (g := (mkF m 143 #[iv p0, .val (.long p1), .second, iv p2, iv p3, iv p4, iv p5, iv 3, rv bd, rv bt, rv b25, rv b26, .unset, .unset, .unset, .unset, .unset] [(.int p2), (.int (0 : Int32)), (.ref b26)])) rfl rfl (hb hby at_143)
    have V30 : Arv Z h30 b26 k26 .int (3 : Int32) [(.int p2), (.int (0 : Int32)), (.int (0 : Int32))] (.int (0 : Int32)) := Arv.set Ar29 q29 S29 P29 Ha29 G29 rfl W30 0 rfl (Nat.le_of_ble_eq_true rfl)
    have N30 := Fr.snoc X30 N28 (Nat.le_trans Z0 (Nat.le_trans (Nat.le_trans (Nat.le_trans (Nat.le_refl _) K1.1) E25.1) (Nat.le_of_eq g26.symm)))
    obtain ⟨cl31, Ar31, q31, S31, P31, Ha31, G31⟩ := (V28.other W30 (Nat.ne_of_lt (Nat.lt_of_lt_of_le Ax25.lt (Nat.le_of_eq g26.symm))))
    have hin31 : ¬ ((1 : Int32) < 0 ∨ cl31.slots.size ≤ ((1 : Int32)).toNatClampNeg) := inb_of S31 ⟨by decide, by decide⟩
    obtain ⟨T32, h32, X32, e32, W32, st32⟩ := stD X30 hx hZ e30 Ar31 (j := (1 : Int32)) hin31 (g := (mkF m 158 #[iv p0, .val (.long p1), .second, iv p2, iv p3, iv p4, iv p5, iv 3, rv bd, rv bt, rv b25, rv b26, .unset, .unset, .unset, .unset, .unset] [(.double (FP.i2d (own_e (3 : Int32) p1))), (.int (1 : Int32)), (.ref b25)])) rfl rfl (hb hby at_158)
    have V32 : Arv Z h32 b25 k25 .double (3 : Int32) [(.double (FP.i2d (own_e0 p1))), (.double (FP.i2d (own_e (3 : Int32) p1))), (.double (0 : UInt64))] (.double (0 : UInt64)) := Arv.set Ar31 q31 S31 P31 Ha31 G31 rfl W32 1 rfl (Nat.le_of_ble_eq_true rfl)
    have N32 := Fr.snoc X32 N30 (Nat.le_trans Z0 (Nat.le_trans (Nat.le_trans (Nat.le_refl _) K1.1) (Nat.le_of_eq g25.symm)))
    obtain ⟨cl33, Ar33, q33, S33, P33, Ha33, G33⟩ := (V30.other W32 (Ne.symm (Nat.ne_of_lt (Nat.lt_of_lt_of_le Ax25.lt (Nat.le_of_eq g26.symm)))))
    have hin33 : ¬ ((1 : Int32) < 0 ∨ cl33.slots.size ≤ ((1 : Int32)).toNatClampNeg) := inb_of S33 ⟨by decide, by decide⟩
    obtain ⟨T34, h34, X34, e34, W34, st34⟩ := stI X32 hx hZ e32 Ar33 (j := (1 : Int32)) hin33 (g := (mkF m 166 #[iv p0, .val (.long p1), .second, iv p2, iv p3, iv p4, iv p5, iv 3, rv bd, rv bt, rv b25, rv b26, .unset, .unset, .unset, .unset, .unset] [(.int p3), (.int (1 : Int32)), (.ref b26)])) rfl rfl (hb hby at_166)
    have V34 : Arv Z h34 b26 k26 .int (3 : Int32) [(.int p2), (.int p3), (.int (0 : Int32))] (.int (0 : Int32)) := Arv.set Ar33 q33 S33 P33 Ha33 G33 rfl W34 1 rfl (Nat.le_of_ble_eq_true rfl)
    have N34 := Fr.snoc X34 N32 (Nat.le_trans Z0 (Nat.le_trans (Nat.le_trans (Nat.le_trans (Nat.le_refl _) K1.1) E25.1) (Nat.le_of_eq g26.symm)))
    obtain ⟨cl35, Ar35, q35, S35, P35, Ha35, G35⟩ := (V32.other W34 (Nat.ne_of_lt (Nat.lt_of_lt_of_le Ax25.lt (Nat.le_of_eq g26.symm))))
    have hin35 : ¬ ((2 : Int32) < 0 ∨ cl35.slots.size ≤ ((2 : Int32)).toNatClampNeg) := inb_of S35 ⟨by decide, by decide⟩
    obtain ⟨T36, h36, X36, e36, W36, st36⟩ := stD X34 hx hZ e34 Ar35 (j := (2 : Int32)) hin35 (g := (mkF m 181 #[iv p0, .val (.long p1), .second, iv p2, iv p3, iv p4, iv p5, iv 3, rv bd, rv bt, rv b25, rv b26, .unset, .unset, .unset, .unset, .unset] [(.double (FP.i2d (own_e (6 : Int32) p1))), (.int (2 : Int32)), (.ref b25)])) rfl rfl (hb hby at_181)
    have V36 : Arv Z h36 b25 k25 .double (3 : Int32) [(.double (FP.i2d (own_e0 p1))), (.double (FP.i2d (own_e (3 : Int32) p1))), (.double (FP.i2d (own_e (6 : Int32) p1)))] (.double (0 : UInt64)) := Arv.set Ar35 q35 S35 P35 Ha35 G35 rfl W36 2 rfl (Nat.le_of_ble_eq_true rfl)
    have N36 := Fr.snoc X36 N34 (Nat.le_trans Z0 (Nat.le_trans (Nat.le_trans (Nat.le_refl _) K1.1) (Nat.le_of_eq g25.symm)))
    obtain ⟨cl37, Ar37, q37, S37, P37, Ha37, G37⟩ := (V34.other W36 (Ne.symm (Nat.ne_of_lt (Nat.lt_of_lt_of_le Ax25.lt (Nat.le_of_eq g26.symm)))))
    have hin37 : ¬ ((2 : Int32) < 0 ∨ cl37.slots.size ≤ ((2 : Int32)).toNatClampNeg) := inb_of S37 ⟨by decide, by decide⟩
    obtain ⟨T38, h38, X38, e38, W38, st38⟩ := stI X36 hx hZ e36 Ar37 (j := (2 : Int32)) hin37 (g := (mkF m 189 #[iv p0, .val (.long p1), .second, iv p2, iv p3, iv p4, iv p5, iv 3, rv bd, rv bt, rv b25, rv b26, .unset, .unset, .unset, .unset, .unset] [(.int p4), (.int (2 : Int32)), (.ref b26)])) rfl rfl (hb hby at_189)
    have V38 : Arv Z h38 b26 k26 .int (3 : Int32) [(.int p2), (.int p3), (.int p4)] (.int (0 : Int32)) := Arv.set Ar37 q37 S37 P37 Ha37 G37 rfl W38 2 rfl (Nat.le_of_ble_eq_true rfl)
    have N38 := Fr.snoc X38 N36 (Nat.le_trans Z0 (Nat.le_trans (Nat.le_trans (Nat.le_trans (Nat.le_refl _) K1.1) E25.1) (Nat.le_of_eq g26.symm)))
    obtain ⟨_, _, ⟨T39, L39, k39, n39⟩, -, X39, ⟨Lc39, hQ39, l39, y39, z39⟩, st39⟩ := Jvm.LawKit.callS X38 hx (y := ⟨cN1, "typeByNeighbours", "([D[I)I"⟩) hown (mvT hZ (wK hw (i := 3) rfl)) (mvT hZ (wK hw (i := 4) rfl)) (mvT hZ (wK hw (i := 5) rfl)) (mvT hZ (wK hw (i := 6) rfl)) (by decide) (backOf (W := 0) (rmtb3 l Z a0 hw [] b25 k25 b26 k26 (own_e0 p1) (own_e (3 : Int32) p1) (own_e (6 : Int32) p1) p2 p3 p4 h38 n0 (Nat.le_trans (Nat.le_trans (Nat.le_trans (Nat.le_trans (Nat.le_trans (Nat.le_trans (Nat.le_trans (Nat.le_trans (Nat.le_trans Z0 K1.1) E25.1) E26.1) (Keep.of_wr W28).1) (Keep.of_wr W30).1) (Keep.of_wr W32).1) (Keep.of_wr W34).1) (Keep.of_wr W36).1) (Keep.of_wr W38).1) (V36.other W38 (Nat.ne_of_lt (Nat.lt_of_lt_of_le Ax25.lt (Nat.le_of_eq g26.symm)))) V38) hZ (wK hw (i := 6) rfl) (wK hw (i := 5) rfl) (by decide) (by decide)) (g := (mkF m 240 #[iv p0, .val (.long p1), .second, iv p2, iv p3, iv p4, iv p5, iv 3, rv bd, rv bt, rv b25, rv b26, .unset, .unset, .unset, .unset, .unset] [(.ref b26), (.ref b25)])) rfl (by rw [hml]; rfl) (argsL := [(.ref b25), (.ref b26)]) (rest := []) (lenOf pd_7 rfl) rfl (Nat.le_of_eq rfl) (hb hby at_240) (fun _ _ => ⟨rfl, e38, (by decide : 4 + 1 ≤ _), (by decide : 16 + 3 ≤ _)⟩)
    dsimp only [Pt.U, Pt.locs, Pt.cells, Pt.slots] at X39 l39 y39 z39 st39 hQ39
    subst l39 y39 z39
    obtain ⟨rfl, N39q, K39⟩ := hQ39
    have N39 := Fr.app N38 N39q
    obtain ⟨got, hgot⟩ : ∃ q : Int32, q = (own_res3 (own_e0 p1) (own_e (3 : Int32) p1) (own_e (6 : Int32) p1) p2 p3 p4) := ⟨_, rfl⟩
    obtain ⟨_, _, ⟨T40, L40, k40, n40⟩, -, X40, ⟨Lc40, hQ40, l40, y40, z40⟩, st40⟩ := Jvm.LawKit.callS X39 hx (y := ⟨cN0, "at", "([III)I"⟩) hown (mvT hZ (wK hw (i := 22) rfl)) (mvT hZ (wK hw (i := 23) rfl)) (mvT hZ (wK hw (i := 24) rfl)) (mvT hZ (wK hw (i := 25) rfl)) (by decide) (backOf (W := 1) (rmat3 l Z a0 hw [] bd k1 (own_e0 p1) (own_e (3 : Int32) p1) (own_e (6 : Int32) p1) (own_e (9 : Int32) p1) (own_e (12 : Int32) p1) (0 : Int32) T39.heap n0 (Nat.le_trans (Nat.le_trans (Nat.le_trans (Nat.le_trans (Nat.le_trans (Nat.le_trans (Nat.le_trans (Nat.le_trans (Nat.le_trans (Nat.le_trans Z0 K1.1) E25.1) E26.1) (Keep.of_wr W28).1) (Keep.of_wr W30).1) (Keep.of_wr W32).1) (Keep.of_wr W34).1) (Keep.of_wr W36).1) (Keep.of_wr W38).1) K39.1) (((((((((Vd.ext E25).ext E26).other W28 (Nat.ne_of_lt (Nat.lt_of_lt_of_le Vd.lt (Nat.le_of_eq g25.symm)))).other W30 (Nat.ne_of_lt (Nat.lt_of_lt_of_le (Vd.ext E25).lt (Nat.le_of_eq g26.symm)))).other W32 (Nat.ne_of_lt (Nat.lt_of_lt_of_le Vd.lt (Nat.le_of_eq g25.symm)))).other W34 (Nat.ne_of_lt (Nat.lt_of_lt_of_le (Vd.ext E25).lt (Nat.le_of_eq g26.symm)))).other W36 (Nat.ne_of_lt (Nat.lt_of_lt_of_le Vd.lt (Nat.le_of_eq g25.symm)))).other W38 (Nat.ne_of_lt (Nat.lt_of_lt_of_le (Vd.ext E25).lt (Nat.le_of_eq g26.symm)))).keep K39 nin0)) hZ (wK hw (i := 25) rfl) (wK hw (i := 24) rfl) (by decide) (by decide)) (g := (mkF m 263 #[iv p0, .val (.long p1), .second, iv p2, iv p3, iv p4, iv p5, iv 3, rv bd, rv bt, rv b25, rv b26, iv got, .unset, .unset, .unset, .unset] [(.int (0 : Int32)), (.int (3 : Int32)), (.ref bd), (.ref bt)])) rfl (by rw [hml]; rfl) (argsL := [(.ref bd), (.int (3 : Int32)), (.int (0 : Int32))]) (rest := [(.ref bt)]) (lenOf pd_3 rfl) rfl (Nat.le_of_eq rfl) (hb hby at_263) (fun _ _ => ⟨rfl, rfl, (by decide : 5 + 0 ≤ _), (by decide : 19 + 0 ≤ _)⟩)
    dsimp only [Pt.U, Pt.locs, Pt.cells, Pt.slots] at X40 l40 y40 z40 st40 hQ40
    subst l40 y40 z40
    obtain ⟨rfl, N40q, eh40⟩ := hQ40
    have N40 := Fr.app N39 N40q
    obtain ⟨na, hna⟩ : ∃ q : Int32, q = (own_g [p2, p3, p4, p5, (own_t4 p0)] (own_at3 (own_e0 p1) (own_e (3 : Int32) p1) (own_e (6 : Int32) p1) (0 : Int32))) := ⟨_, rfl⟩
    obtain ⟨_, _, ⟨T41, L41, k41, n41⟩, -, X41, ⟨Lc41, hQ41, l41, y41, z41⟩, st41⟩ := Jvm.LawKit.callS X40 hx (y := ⟨cN0, "at", "([III)I"⟩) hown (mvT hZ (wK hw (i := 22) rfl)) (mvT hZ (wK hw (i := 23) rfl)) (mvT hZ (wK hw (i := 24) rfl)) (mvT hZ (wK hw (i := 25) rfl)) (by decide) (backOf (W := 1) (rmat3 l Z a0 hw [] bd k1 (own_e0 p1) (own_e (3 : Int32) p1) (own_e (6 : Int32) p1) (own_e (9 : Int32) p1) (own_e (12 : Int32) p1) (1 : Int32) T39.heap n0 (Nat.le_trans (Nat.le_trans (Nat.le_trans (Nat.le_trans (Nat.le_trans (Nat.le_trans (Nat.le_trans (Nat.le_trans (Nat.le_trans (Nat.le_trans Z0 K1.1) E25.1) E26.1) (Keep.of_wr W28).1) (Keep.of_wr W30).1) (Keep.of_wr W32).1) (Keep.of_wr W34).1) (Keep.of_wr W36).1) (Keep.of_wr W38).1) K39.1) (((((((((Vd.ext E25).ext E26).other W28 (Nat.ne_of_lt (Nat.lt_of_lt_of_le Vd.lt (Nat.le_of_eq g25.symm)))).other W30 (Nat.ne_of_lt (Nat.lt_of_lt_of_le (Vd.ext E25).lt (Nat.le_of_eq g26.symm)))).other W32 (Nat.ne_of_lt (Nat.lt_of_lt_of_le Vd.lt (Nat.le_of_eq g25.symm)))).other W34 (Nat.ne_of_lt (Nat.lt_of_lt_of_le (Vd.ext E25).lt (Nat.le_of_eq g26.symm)))).other W36 (Nat.ne_of_lt (Nat.lt_of_lt_of_le Vd.lt (Nat.le_of_eq g25.symm)))).other W38 (Nat.ne_of_lt (Nat.lt_of_lt_of_le (Vd.ext E25).lt (Nat.le_of_eq g26.symm)))).keep K39 nin0)) hZ (wK hw (i := 25) rfl) (wK hw (i := 24) rfl) (by decide) (by decide)) (g := (mkF m 289 #[iv p0, .val (.long p1), .second, iv p2, iv p3, iv p4, iv p5, iv 3, rv bd, rv bt, rv b25, rv b26, iv got, .unset, iv na, .unset, .unset] [(.int (1 : Int32)), (.int (3 : Int32)), (.ref bd), (.ref bt)])) rfl (by rw [hml]; rfl) (argsL := [(.ref bd), (.int (3 : Int32)), (.int (1 : Int32))]) (rest := [(.ref bt)]) (lenOf pd_3 rfl) rfl (Nat.le_of_eq rfl) (hb hby at_289) (fun _ _ => ⟨rfl, eh40, (by decide : 5 + 0 ≤ _), (by decide : 19 + 0 ≤ _)⟩)
    dsimp only [Pt.U, Pt.locs, Pt.cells, Pt.slots] at X41 l41 y41 z41 st41 hQ41
    subst l41 y41 z41
    obtain ⟨rfl, N41q, eh41⟩ := hQ41
    have N41 := Fr.app N40 N41q
    obtain ⟨nb, hnb⟩ : ∃ q : Int32, q = (own_g [p2, p3, p4, p5, (own_t4 p0)] (own_at3 (own_e0 p1) (own_e (3 : Int32) p1) (own_e (6 : Int32) p1) (1 : Int32))) := ⟨_, rfl⟩
    obtain ⟨_, _, ⟨T42, L42, k42, n42⟩, -, X42, ⟨Lc42, hQ42, l42, y42, z42⟩, st42⟩ := Jvm.LawKit.callS X41 hx (y := ⟨cN0, "at", "([III)I"⟩) hown (mvT hZ (wK hw (i := 22) rfl)) (mvT hZ (wK hw (i := 23) rfl)) (mvT hZ (wK hw (i := 24) rfl)) (mvT hZ (wK hw (i := 25) rfl)) (by decide) (backOf (W := 1) (rmat3 l Z a0 hw [] bd k1 (own_e0 p1) (own_e (3 : Int32) p1) (own_e (6 : Int32) p1) (own_e (9 : Int32) p1) (own_e (12 : Int32) p1) (2 : Int32) T39.heap n0 (Nat.le_trans (Nat.le_trans (Nat.le_trans (Nat.le_trans (Nat.le_trans (Nat.le_trans (Nat.le_trans (Nat.le_trans (Nat.le_trans (Nat.le_trans Z0 K1.1) E25.1) E26.1) (Keep.of_wr W28).1) (Keep.of_wr W30).1) (Keep.of_wr W32).1) (Keep.of_wr W34).1) (Keep.of_wr W36).1) (Keep.of_wr W38).1) K39.1) (((((((((Vd.ext E25).ext E26).other W28 (Nat.ne_of_lt (Nat.lt_of_lt_of_le Vd.lt (Nat.le_of_eq g25.symm)))).other W30 (Nat.ne_of_lt (Nat.lt_of_lt_of_le (Vd.ext E25).lt (Nat.le_of_eq g26.symm)))).other W32 (Nat.ne_of_lt (Nat.lt_of_lt_of_le Vd.lt (Nat.le_of_eq g25.symm)))).other W34 (Nat.ne_of_lt (Nat.lt_of_lt_of_le (Vd.ext E25).lt (Nat.le_of_eq g26.symm)))).other W36 (Nat.ne_of_lt (Nat.lt_of_lt_of_le Vd.lt (Nat.le_of_eq g25.symm)))).other W38 (Nat.ne_of_lt (Nat.lt_of_lt_of_le (Vd.ext E25).lt (Nat.le_of_eq g26.symm)))).keep K39 nin0)) hZ (wK hw (i := 25) rfl) (wK hw (i := 24) rfl) (by decide) (by decide)) (g := (mkF m 302 #[iv p0, .val (.long p1), .second, iv p2, iv p3, iv p4, iv p5, iv 3, rv bd, rv bt, rv b25, rv b26, iv got, .unset, iv na, iv nb, .unset] [(.int (2 : Int32)), (.int (3 : Int32)), (.ref bd), (.ref bt)])) rfl (by rw [hml]; rfl) (argsL := [(.ref bd), (.int (3 : Int32)), (.int (2 : Int32))]) (rest := [(.ref bt)]) (lenOf pd_3 rfl) rfl (Nat.le_of_eq rfl) (hb hby at_302) (fun _ _ => ⟨rfl, eh41, (by decide : 5 + 0 ≤ _), (by decide : 19 + 0 ≤ _)⟩)
    dsimp only [Pt.U, Pt.locs, Pt.cells, Pt.slots] at X42 l42 y42 z42 st42 hQ42
    subst l42 y42 z42
    obtain ⟨rfl, N42q, eh42⟩ := hQ42
    have N42 := Fr.app N41 N42q
    obtain ⟨nc, hnc⟩ : ∃ q : Int32, q = (own_g [p2, p3, p4, p5, (own_t4 p0)] (own_at3 (own_e0 p1) (own_e (3 : Int32) p1) (own_e (6 : Int32) p1) (2 : Int32))) := ⟨_, rfl⟩
    obtain ⟨fs, hr, hrun, hended, hW, hsame⟩ := X42.leave (v := some (.int (nar .boolean (1 : Int32)))) (fun h => by rw [Bd.returns] at h; cases h)
    refine ⟨_, _, pre0 _ ?_, hrun, hended, _, _, rfl, ?_, ⟨_, rfl⟩, hW, hsame.mono (by decide) (by decide)⟩
    · show sS p e below s₁ m 0 #[iv p0, .val (.long p1), .second, iv p2, iv p3, iv p4, iv p5, .unset, .unset, .unset, .unset, .unset, .unset, .unset, .unset, .unset, .unset] [] _
      refine st1 _ ?_
      show sS p e below T1 m 110 #[iv p0, .val (.long p1), .second, iv p2, iv p3, iv p4, iv p5, .val (.int (own_n p0)), rv bd, rv bt, .unset, .unset, .unset, .unset, .unset, .unset, .unset] [] _
      rw [hn]
      show sS p e below T1 m 110 #[iv p0, .val (.long p1), .second, iv p2, iv p3, iv p4, iv p5, iv 3, rv bd, rv bt, .unset, .unset, .unset, .unset, .unset, .unset, .unset] [] _
      refine XS.iload X1.here hx rfl (hb hby at_110) rfl ?_
      show sS p e below T1 m 112 #[iv p0, .val (.long p1), .second, iv p2, iv p3, iv p4, iv p5, iv 3, rv bd, rv bt, .unset, .unset, .unset, .unset, .unset, .unset, .unset] [(.int (3 : Int32))] _
      refine st25 _ ?_
      show sS p e below T25 m 114 #[iv p0, .val (.long p1), .second, iv p2, iv p3, iv p4, iv p5, iv 3, rv bd, rv bt, .unset, .unset, .unset, .unset, .unset, .unset, .unset] [(.ref b25)] _
      refine XS.astore X25.here hx rfl (hb hby at_114) rfl rfl (l' := #[iv p0, .val (.long p1), .second, iv p2, iv p3, iv p4, iv p5, iv 3, rv bd, rv bt, rv b25, .unset, .unset, .unset, .unset, .unset, .unset]) rfl ?_
      refine XS.iload X25.here hx rfl (hb hby at_116) rfl ?_
      show sS p e below T25 m 118 #[iv p0, .val (.long p1), .second, iv p2, iv p3, iv p4, iv p5, iv 3, rv bd, rv bt, rv b25, .unset, .unset, .unset, .unset, .unset, .unset] [(.int (3 : Int32))] _
      refine st26 _ ?_
      show sS p e below T26 m 120 #[iv p0, .val (.long p1), .second, iv p2, iv p3, iv p4, iv p5, iv 3, rv bd, rv bt, rv b25, .unset, .unset, .unset, .unset, .unset, .unset] [(.ref b26)] _
      refine XS.astore X26.here hx rfl (hb hby at_120) rfl rfl (l' := #[iv p0, .val (.long p1), .second, iv p2, iv p3, iv p4, iv p5, iv 3, rv bd, rv bt, rv b25, rv b26, .unset, .unset, .unset, .unset, .unset]) rfl ?_
      refine XS.iload X26.here hx rfl (hb hby at_122) rfl ?_
      refine XS.ifNo X26.here hx rfl (hb hby at_124) rfl (by decide) ?_
      refine XS.aload X26.here hx rfl (hb hby at_127) rfl rfl ?_
      refine XS.iconst X26.here hx rfl (hb hby at_129) ?_
      refine XS.aload X26.here hx rfl (hb hby at_130) rfl rfl ?_
      show sS p e below T26 m 132 #[iv p0, .val (.long p1), .second, iv p2, iv p3, iv p4, iv p5, iv 3, rv bd, rv bt, rv b25, rv b26, .unset, .unset, .unset, .unset, .unset] [(.ref bd), (.int (0 : Int32)), (.ref b25)] _
      refine XS.iconst X26.here hx rfl (hb hby at_132) ?_
      refine own_ldI X26 hx hZ e26 ((Vd.ext E25).ext E26) ⟨by decide, by decide⟩ (v := (own_e0 p1)) rfl rfl rfl (hb hby at_133) ?_
      refine XS.i2dS X26.here hx rfl (hb hby at_134) rfl rfl ?_
      show sS p e below T26 m 135 #[iv p0, .val (.long p1), .second, iv p2, iv p3, iv p4, iv p5, iv 3, rv bd, rv bt, rv b25, rv b26, .unset, .unset, .unset, .unset, .unset] [(.double (FP.i2d (own_e0 p1))), (.int (0 : Int32)), (.ref b25)] _
      refine st28 _ ?_
      show sS p e below T28 m 136 #[iv p0, .val (.long p1), .second, iv p2, iv p3, iv p4, iv p5, iv 3, rv bd, rv bt, rv b25, rv b26, .unset, .unset, .unset, .unset, .unset] [] _
      refine XS.aload X28.here hx rfl (hb hby at_136) rfl rfl ?_
      refine XS.iconst X28.here hx rfl (hb hby at_138) ?_
      refine XS.aload X28.here hx rfl (hb hby at_139) rfl rfl ?_
      refine XS.iconst X28.here hx rfl (hb hby at_141) ?_
      refine own_ldI X28 hx hZ e28 (((Vt.ext E25).ext E26).other W28 (Nat.ne_of_lt (Nat.lt_of_lt_of_le Vt.lt (Nat.le_of_eq g25.symm)))) ⟨by decide, by decide⟩ (v := p2) rfl rfl rfl (hb hby at_142) ?_
      show sS p e below T28 m 143 #[iv p0, .val (.long p1), .second, iv p2, iv p3, iv p4, iv p5, iv 3, rv bd, rv bt, rv b25, rv b26, .unset, .unset, .unset, .unset, .unset] [(.int p2), (.int (0 : Int32)), (.ref b26)] _
      refine st30 _ ?_
      show sS p e below T30 m 144 #[iv p0, .val (.long p1), .second, iv p2, iv p3, iv p4, iv p5, iv 3, rv bd, rv bt, rv b25, rv b26, .unset, .unset, .unset, .unset, .unset] [] _
      refine XS.iload X30.here hx rfl (hb hby at_144) rfl ?_
      refine XS.iconst X30.here hx rfl (hb hby at_146) ?_
      refine XS.icmpNo X30.here hx rfl (hb hby at_147) rfl (by decide) ?_
      refine XS.aload X30.here hx rfl (hb hby at_150) rfl rfl ?_
      refine XS.iconst X30.here hx rfl (hb hby at_152) ?_
      refine XS.aload X30.here hx rfl (hb hby at_153) rfl rfl ?_
      show sS p e below T30 m 155 #[iv p0, .val (.long p1), .second, iv p2, iv p3, iv p4, iv p5, iv 3, rv bd, rv bt, rv b25, rv b26, .unset, .unset, .unset, .unset, .unset] [(.ref bd), (.int (1 : Int32)), (.ref b25)] _
      refine XS.iconst X30.here hx rfl (hb hby at_155) ?_
      refine own_ldI X30 hx hZ e30 ((((Vd.ext E25).ext E26).other W28 (Nat.ne_of_lt (Nat.lt_of_lt_of_le Vd.lt (Nat.le_of_eq g25.symm)))).other W30 (Nat.ne_of_lt (Nat.lt_of_lt_of_le (Vd.ext E25).lt (Nat.le_of_eq g26.symm)))) ⟨by decide, by decide⟩ (v := (own_e (3 : Int32) p1)) rfl rfl rfl (hb hby at_156) ?_
      refine XS.i2dS X30.here hx rfl (hb hby at_157) rfl rfl ?_
      show sS p e below T30 m 158 #[iv p0, .val (.long p1), .second, iv p2, iv p3, iv p4, iv p5, iv 3, rv bd, rv bt, rv b25, rv b26, .unset, .unset, .unset, .unset, .unset] [(.double (FP.i2d (own_e (3 : Int32) p1))), (.int (1 : Int32)), (.ref b25)] _
      refine st32 _ ?_
      show sS p e below T32 m 159 #[iv p0, .val (.long p1), .second, iv p2, iv p3, iv p4, iv p5, iv 3, rv bd, rv bt, rv b25, rv b26, .unset, .unset, .unset, .unset, .unset] [] _
      refine XS.aload X32.here hx rfl (hb hby at_159) rfl rfl ?_
      refine XS.iconst X32.here hx rfl (hb hby at_161) ?_
      refine XS.aload X32.here hx rfl (hb hby at_162) rfl rfl ?_
      refine XS.iconst X32.here hx rfl (hb hby at_164) ?_
      refine own_ldI X32 hx hZ e32 (((((Vt.ext E25).ext E26).other W28 (Nat.ne_of_lt (Nat.lt_of_lt_of_le Vt.lt (Nat.le_of_eq g25.symm)))).other W30 (Nat.ne_of_lt (Nat.lt_of_lt_of_le (Vt.ext E25).lt (Nat.le_of_eq g26.symm)))).other W32 (Nat.ne_of_lt (Nat.lt_of_lt_of_le Vt.lt (Nat.le_of_eq g25.symm)))) ⟨by decide, by decide⟩ (v := p3) rfl rfl rfl (hb hby at_165) ?_
      show sS p e below T32 m 166 #[iv p0, .val (.long p1), .second, iv p2, iv p3, iv p4, iv p5, iv 3, rv bd, rv bt, rv b25, rv b26, .unset, .unset, .unset, .unset, .unset] [(.int p3), (.int (1 : Int32)), (.ref b26)] _
      refine st34 _ ?_
      show sS p e below T34 m 167 #[iv p0, .val (.long p1), .second, iv p2, iv p3, iv p4, iv p5, iv 3, rv bd, rv bt, rv b25, rv b26, .unset, .unset, .unset, .unset, .unset] [] _
      refine XS.iload X34.here hx rfl (hb hby at_167) rfl ?_
      refine XS.iconst X34.here hx rfl (hb hby at_169) ?_
      refine XS.icmpNo X34.here hx rfl (hb hby at_170) rfl (by decide) ?_
      refine XS.aload X34.here hx rfl (hb hby at_173) rfl rfl ?_
      refine XS.iconst X34.here hx rfl (hb hby at_175) ?_
      refine XS.aload X34.here hx rfl (hb hby at_176) rfl rfl ?_
      show sS p e below T34 m 178 #[iv p0, .val (.long p1), .second, iv p2, iv p3, iv p4, iv p5, iv 3, rv bd, rv bt, rv b25, rv b26, .unset, .unset, .unset, .unset, .unset] [(.ref bd), (.int (2 : Int32)), (.ref b25)] _
      refine XS.iconst X34.here hx rfl (hb hby at_178) ?_
      refine own_ldI X34 hx hZ e34 ((((((Vd.ext E25).ext E26).other W28 (Nat.ne_of_lt (Nat.lt_of_lt_of_le Vd.lt (Nat.le_of_eq g25.symm)))).other W30 (Nat.ne_of_lt (Nat.lt_of_lt_of_le (Vd.ext E25).lt (Nat.le_of_eq g26.symm)))).other W32 (Nat.ne_of_lt (Nat.lt_of_lt_of_le Vd.lt (Nat.le_of_eq g25.symm)))).other W34 (Nat.ne_of_lt (Nat.lt_of_lt_of_le (Vd.ext E25).lt (Nat.le_of_eq g26.symm)))) ⟨by decide, by decide⟩ (v := (own_e (6 : Int32) p1)) rfl rfl rfl (hb hby at_179) ?_
      refine XS.i2dS X34.here hx rfl (hb hby at_180) rfl rfl ?_
      show sS p e below T34 m 181 #[iv p0, .val (.long p1), .second, iv p2, iv p3, iv p4, iv p5, iv 3, rv bd, rv bt, rv b25, rv b26, .unset, .unset, .unset, .unset, .unset] [(.double (FP.i2d (own_e (6 : Int32) p1))), (.int (2 : Int32)), (.ref b25)] _
      refine st36 _ ?_
      show sS p e below T36 m 182 #[iv p0, .val (.long p1), .second, iv p2, iv p3, iv p4, iv p5, iv 3, rv bd, rv bt, rv b25, rv b26, .unset, .unset, .unset, .unset, .unset] [] _
      refine XS.aload X36.here hx rfl (hb hby at_182) rfl rfl ?_
      refine XS.iconst X36.here hx rfl (hb hby at_184) ?_
      refine XS.aload X36.here hx rfl (hb hby at_185) rfl rfl ?_
      refine XS.iconst X36.here hx rfl (hb hby at_187) ?_
      refine own_ldI X36 hx hZ e36 (((((((Vt.ext E25).ext E26).other W28 (Nat.ne_of_lt (Nat.lt_of_lt_of_le Vt.lt (Nat.le_of_eq g25.symm)))).other W30 (Nat.ne_of_lt (Nat.lt_of_lt_of_le (Vt.ext E25).lt (Nat.le_of_eq g26.symm)))).other W32 (Nat.ne_of_lt (Nat.lt_of_lt_of_le Vt.lt (Nat.le_of_eq g25.symm)))).other W34 (Nat.ne_of_lt (Nat.lt_of_lt_of_le (Vt.ext E25).lt (Nat.le_of_eq g26.symm)))).other W36 (Nat.ne_of_lt (Nat.lt_of_lt_of_le Vt.lt (Nat.le_of_eq g25.symm)))) ⟨by decide, by decide⟩ (v := p4) rfl rfl rfl (hb hby at_188) ?_
      show sS p e below T36 m 189 #[iv p0, .val (.long p1), .second, iv p2, iv p3, iv p4, iv p5, iv 3, rv bd, rv bt, rv b25, rv b26, .unset, .unset, .unset, .unset, .unset] [(.int p4), (.int (2 : Int32)), (.ref b26)] _
      refine st38 _ ?_
      show sS p e below T38 m 190 #[iv p0, .val (.long p1), .second, iv p2, iv p3, iv p4, iv p5, iv 3, rv bd, rv bt, rv b25, rv b26, .unset, .unset, .unset, .unset, .unset] [] _
      refine XS.iload X38.here hx rfl (hb hby at_190) rfl ?_
      refine XS.iconst X38.here hx rfl (hb hby at_192) ?_
      refine XS.icmpYes X38.here hx rfl (pc0 := 193) (pc' := 213) rfl (hb hby at_193) rfl (by decide) (by decide) (by decide) ?_
      refine XS.iload X38.here hx rfl (hb hby at_213) rfl ?_
      refine XS.iconst X38.here hx rfl (hb hby at_215) ?_
      refine XS.icmpYes X38.here hx rfl (pc0 := 216) (pc' := 236) rfl (hb hby at_216) rfl (by decide) (by decide) (by decide) ?_
      show sS p e below T38 m 236 #[iv p0, .val (.long p1), .second, iv p2, iv p3, iv p4, iv p5, iv 3, rv bd, rv bt, rv b25, rv b26, .unset, .unset, .unset, .unset, .unset] [] _
      refine XS.aload X38.here hx rfl (hb hby at_236) rfl rfl ?_
      refine XS.aload X38.here hx rfl (hb hby at_238) rfl rfl ?_
      show sS p e below T38 m 240 #[iv p0, .val (.long p1), .second, iv p2, iv p3, iv p4, iv p5, iv 3, rv bd, rv bt, rv b25, rv b26, .unset, .unset, .unset, .unset, .unset] [(.ref b26), (.ref b25)] _
      refine st39 _ ?_
      show sS p e below T39 m 243 #[iv p0, .val (.long p1), .second, iv p2, iv p3, iv p4, iv p5, iv 3, rv bd, rv bt, rv b25, rv b26, .unset, .unset, .unset, .unset, .unset] [(.int (own_res3 (own_e0 p1) (own_e (3 : Int32) p1) (own_e (6 : Int32) p1) p2 p3 p4))] _
      rw [← hgot]
      show sS p e below T39 m 243 #[iv p0, .val (.long p1), .second, iv p2, iv p3, iv p4, iv p5, iv 3, rv bd, rv bt, rv b25, rv b26, .unset, .unset, .unset, .unset, .unset] [(.int got)] _
      refine XS.istore X39.here hx rfl (hb hby at_243) rfl (l' := #[iv p0, .val (.long p1), .second, iv p2, iv p3, iv p4, iv p5, iv 3, rv bd, rv bt, rv b25, rv b26, iv got, .unset, .unset, .unset, .unset]) rfl ?_
      refine XS.iload X39.here hx rfl (hb hby at_245) rfl ?_
      refine XS.ifYes X39.here hx rfl (pc0 := 247) (pc' := 256) rfl (hb hby at_247) rfl (by decide) (by decide) (by decide) ?_
      refine XS.aload X39.here hx rfl (hb hby at_256) rfl rfl ?_
      refine XS.aload X39.here hx rfl (hb hby at_258) rfl rfl ?_
      refine XS.iload X39.here hx rfl (hb hby at_260) rfl ?_
      show sS p e below T39 m 262 #[iv p0, .val (.long p1), .second, iv p2, iv p3, iv p4, iv p5, iv 3, rv bd, rv bt, rv b25, rv b26, iv got, .unset, .unset, .unset, .unset] [(.int (3 : Int32)), (.ref bd), (.ref bt)] _
      refine XS.iconst X39.here hx rfl (hb hby at_262) ?_
      show sS p e below T39 m 263 #[iv p0, .val (.long p1), .second, iv p2, iv p3, iv p4, iv p5, iv 3, rv bd, rv bt, rv b25, rv b26, iv got, .unset, .unset, .unset, .unset] [(.int (0 : Int32)), (.int (3 : Int32)), (.ref bd), (.ref bt)] _
      refine st40 _ ?_
      show sS p e below T40 m 266 #[iv p0, .val (.long p1), .second, iv p2, iv p3, iv p4, iv p5, iv 3, rv bd, rv bt, rv b25, rv b26, iv got, .unset, .unset, .unset, .unset] [(.int (own_at3 (own_e0 p1) (own_e (3 : Int32) p1) (own_e (6 : Int32) p1) (0 : Int32))), (.ref bt)] _
      refine own_ldI X40 hx hZ eh40 (((((((((Vt.ext E25).ext E26).other W28 (Nat.ne_of_lt (Nat.lt_of_lt_of_le Vt.lt (Nat.le_of_eq g25.symm)))).other W30 (Nat.ne_of_lt (Nat.lt_of_lt_of_le (Vt.ext E25).lt (Nat.le_of_eq g26.symm)))).other W32 (Nat.ne_of_lt (Nat.lt_of_lt_of_le Vt.lt (Nat.le_of_eq g25.symm)))).other W34 (Nat.ne_of_lt (Nat.lt_of_lt_of_le (Vt.ext E25).lt (Nat.le_of_eq g26.symm)))).other W36 (Nat.ne_of_lt (Nat.lt_of_lt_of_le Vt.lt (Nat.le_of_eq g25.symm)))).other W38 (Nat.ne_of_lt (Nat.lt_of_lt_of_le (Vt.ext E25).lt (Nat.le_of_eq g26.symm)))).keep K39 nin0) (own_at3_b _ _ _ _) (v := (own_g [p2, p3, p4, p5, (own_t4 p0)] (own_at3 (own_e0 p1) (own_e (3 : Int32) p1) (own_e (6 : Int32) p1) (0 : Int32)))) (own_getI [p2, p3, p4, p5, (own_t4 p0)] _) rfl rfl (hb hby at_266) ?_
      show sS p e below T40 m 267 #[iv p0, .val (.long p1), .second, iv p2, iv p3, iv p4, iv p5, iv 3, rv bd, rv bt, rv b25, rv b26, iv got, .unset, .unset, .unset, .unset] [(.int (own_g [p2, p3, p4, p5, (own_t4 p0)] (own_at3 (own_e0 p1) (own_e (3 : Int32) p1) (own_e (6 : Int32) p1) (0 : Int32))))] _
      rw [← hna]
      show sS p e below T40 m 267 #[iv p0, .val (.long p1), .second, iv p2, iv p3, iv p4, iv p5, iv 3, rv bd, rv bt, rv b25, rv b26, iv got, .unset, .unset, .unset, .unset] [(.int na)] _
      refine XS.istore X40.here hx rfl (hb hby at_267) rfl (l' := #[iv p0, .val (.long p1), .second, iv p2, iv p3, iv p4, iv p5, iv 3, rv bd, rv bt, rv b25, rv b26, iv got, .unset, iv na, .unset, .unset]) rfl ?_
      refine XS.iload X40.here hx rfl (hb hby at_269) rfl ?_
      refine XS.iconst X40.here hx rfl (hb hby at_271) ?_
      refine XS.icmpYes X40.here hx rfl (pc0 := 272) (pc' := 282) rfl (hb hby at_272) rfl (by decide) (by decide) (by decide) ?_
      refine XS.aload X40.here hx rfl (hb hby at_282) rfl rfl ?_
      refine XS.aload X40.here hx rfl (hb hby at_284) rfl rfl ?_
      show sS p e below T40 m 286 #[iv p0, .val (.long p1), .second, iv p2, iv p3, iv p4, iv p5, iv 3, rv bd, rv bt, rv b25, rv b26, iv got, .unset, iv na, .unset, .unset] [(.ref bd), (.ref bt)] _
      refine XS.iload X40.here hx rfl (hb hby at_286) rfl ?_
      refine XS.iconst X40.here hx rfl (hb hby at_288) ?_
      show sS p e below T40 m 289 #[iv p0, .val (.long p1), .second, iv p2, iv p3, iv p4, iv p5, iv 3, rv bd, rv bt, rv b25, rv b26, iv got, .unset, iv na, .unset, .unset] [(.int (1 : Int32)), (.int (3 : Int32)), (.ref bd), (.ref bt)] _
      refine st41 _ ?_
      show sS p e below T41 m 292 #[iv p0, .val (.long p1), .second, iv p2, iv p3, iv p4, iv p5, iv 3, rv bd, rv bt, rv b25, rv b26, iv got, .unset, iv na, .unset, .unset] [(.int (own_at3 (own_e0 p1) (own_e (3 : Int32) p1) (own_e (6 : Int32) p1) (1 : Int32))), (.ref bt)] _
      refine own_ldI X41 hx hZ eh41 (((((((((Vt.ext E25).ext E26).other W28 (Nat.ne_of_lt (Nat.lt_of_lt_of_le Vt.lt (Nat.le_of_eq g25.symm)))).other W30 (Nat.ne_of_lt (Nat.lt_of_lt_of_le (Vt.ext E25).lt (Nat.le_of_eq g26.symm)))).other W32 (Nat.ne_of_lt (Nat.lt_of_lt_of_le Vt.lt (Nat.le_of_eq g25.symm)))).other W34 (Nat.ne_of_lt (Nat.lt_of_lt_of_le (Vt.ext E25).lt (Nat.le_of_eq g26.symm)))).other W36 (Nat.ne_of_lt (Nat.lt_of_lt_of_le Vt.lt (Nat.le_of_eq g25.symm)))).other W38 (Nat.ne_of_lt (Nat.lt_of_lt_of_le (Vt.ext E25).lt (Nat.le_of_eq g26.symm)))).keep K39 nin0) (own_at3_b _ _ _ _) (v := (own_g [p2, p3, p4, p5, (own_t4 p0)] (own_at3 (own_e0 p1) (own_e (3 : Int32) p1) (own_e (6 : Int32) p1) (1 : Int32)))) (own_getI [p2, p3, p4, p5, (own_t4 p0)] _) rfl rfl (hb hby at_292) ?_
      show sS p e below T41 m 293 #[iv p0, .val (.long p1), .second, iv p2, iv p3, iv p4, iv p5, iv 3, rv bd, rv bt, rv b25, rv b26, iv got, .unset, iv na, .unset, .unset] [(.int (own_g [p2, p3, p4, p5, (own_t4 p0)] (own_at3 (own_e0 p1) (own_e (3 : Int32) p1) (own_e (6 : Int32) p1) (1 : Int32))))] _
      rw [← hnb]
      show sS p e below T41 m 293 #[iv p0, .val (.long p1), .second, iv p2, iv p3, iv p4, iv p5, iv 3, rv bd, rv bt, rv b25, rv b26, iv got, .unset, iv na, .unset, .unset] [(.int nb)] _
      refine XS.istore X41.here hx rfl (hb hby at_293) rfl (l' := #[iv p0, .val (.long p1), .second, iv p2, iv p3, iv p4, iv p5, iv 3, rv bd, rv bt, rv b25, rv b26, iv got, .unset, iv na, iv nb, .unset]) rfl ?_
      refine XS.aload X41.here hx rfl (hb hby at_295) rfl rfl ?_
      refine XS.aload X41.here hx rfl (hb hby at_297) rfl rfl ?_
      refine XS.iload X41.here hx rfl (hb hby at_299) rfl ?_
      refine XS.iconst X41.here hx rfl (hb hby at_301) ?_
      show sS p e below T41 m 302 #[iv p0, .val (.long p1), .second, iv p2, iv p3, iv p4, iv p5, iv 3, rv bd, rv bt, rv b25, rv b26, iv got, .unset, iv na, iv nb, .unset] [(.int (2 : Int32)), (.int (3 : Int32)), (.ref bd), (.ref bt)] _
      refine st42 _ ?_
      show sS p e below T42 m 305 #[iv p0, .val (.long p1), .second, iv p2, iv p3, iv p4, iv p5, iv 3, rv bd, rv bt, rv b25, rv b26, iv got, .unset, iv na, iv nb, .unset] [(.int (own_at3 (own_e0 p1) (own_e (3 : Int32) p1) (own_e (6 : Int32) p1) (2 : Int32))), (.ref bt)] _
      refine own_ldI X42 hx hZ eh42 (((((((((Vt.ext E25).ext E26).other W28 (Nat.ne_of_lt (Nat.lt_of_lt_of_le Vt.lt (Nat.le_of_eq g25.symm)))).other W30 (Nat.ne_of_lt (Nat.lt_of_lt_of_le (Vt.ext E25).lt (Nat.le_of_eq g26.symm)))).other W32 (Nat.ne_of_lt (Nat.lt_of_lt_of_le Vt.lt (Nat.le_of_eq g25.symm)))).other W34 (Nat.ne_of_lt (Nat.lt_of_lt_of_le (Vt.ext E25).lt (Nat.le_of_eq g26.symm)))).other W36 (Nat.ne_of_lt (Nat.lt_of_lt_of_le Vt.lt (Nat.le_of_eq g25.symm)))).other W38 (Nat.ne_of_lt (Nat.lt_of_lt_of_le (Vt.ext E25).lt (Nat.le_of_eq g26.symm)))).keep K39 nin0) (own_at3_b _ _ _ _) (v := (own_g [p2, p3, p4, p5, (own_t4 p0)] (own_at3 (own_e0 p1) (own_e (3 : Int32) p1) (own_e (6 : Int32) p1) (2 : Int32)))) (own_getI [p2, p3, p4, p5, (own_t4 p0)] _) rfl rfl (hb hby at_305) ?_
      show sS p e below T42 m 306 #[iv p0, .val (.long p1), .second, iv p2, iv p3, iv p4, iv p5, iv 3, rv bd, rv bt, rv b25, rv b26, iv got, .unset, iv na, iv nb, .unset] [(.int (own_g [p2, p3, p4, p5, (own_t4 p0)] (own_at3 (own_e0 p1) (own_e (3 : Int32) p1) (own_e (6 : Int32) p1) (2 : Int32))))] _
      rw [← hnc]
      show sS p e below T42 m 306 #[iv p0, .val (.long p1), .second, iv p2, iv p3, iv p4, iv p5, iv 3, rv bd, rv bt, rv b25, rv b26, iv got, .unset, iv na, iv nb, .unset] [(.int nc)] _
      refine XS.istore X42.here hx rfl (hb hby at_306) rfl (l' := #[iv p0, .val (.long p1), .second, iv p2, iv p3, iv p4, iv p5, iv 3, rv bd, rv bt, rv b25, rv b26, iv got, .unset, iv na, iv nb, iv nc]) rfl ?_
      show sS p e below T42 m 308 #[iv p0, .val (.long p1), .second, iv p2, iv p3, iv p4, iv p5, iv 3, rv bd, rv bt, rv b25, rv b26, iv got, .unset, iv na, iv nb, iv nc] [] _
      refine sg_0_308_322 X42 hx hZ hw hby hown ?_
      show sS p e below T42 m 322 #[iv p0, .val (.long p1), .second, iv p2, iv p3, iv p4, iv p5, iv 3, rv bd, rv bt, rv b25, rv b26, iv got, .unset, iv na, iv nb, iv nc] [(.int (bif (if_icmp.holds .ne nb nc) then na else nb))] _
      refine XS.istore X42.here hx rfl (hb hby at_322) rfl (l' := #[iv p0, .val (.long p1), .second, iv p2, iv p3, iv p4, iv p5, iv 3, rv bd, rv bt, rv b25, rv b26, iv got, .val (.int (bif (if_icmp.holds .ne nb nc) then na else nb)), iv na, iv nb, iv nc]) rfl ?_
      refine XS.iload X42.here hx rfl (hb hby at_324) rfl ?_
      refine XS.iload X42.here hx rfl (hb hby at_326) rfl ?_
      refine XS.icmpNo X42.here hx rfl (hb hby at_328) rfl (by rw [hgot, hna, hnb, hnc]; exact own_law3 (own_e0 p1) (own_e (3 : Int32) p1) (own_e (6 : Int32) p1) p2 p3 p4 p5 (own_t4 p0)) ?_
      refine XS.iconst X42.here hx rfl (hb hby at_331) ?_
      refine XS.goto X42.here hx rfl (pc0 := 332) (pc' := 336) rfl (hb hby at_332) (by decide) (by decide) ?_
      show sS p e below T42 m 336 #[iv p0, .val (.long p1), .second, iv p2, iv p3, iv p4, iv p5, iv 3, rv bd, rv bt, rv b25, rv b26, iv got, .val (.int (bif (if_icmp.holds .ne nb nc) then na else nb)), iv na, iv nb, iv nc] [(.int (1 : Int32))] _
      exact retN X42 hx (t := .boolean) Bd.returns (by simp) (hb hby at_336) hr
    · show Q0 Z p0 p1 p2 p3 p4 p5 h0 n0 _ T42.heap _
      rw [eh42]
      exact ⟨rfl, N42⟩
  · obtain ⟨T43, h43, k43, X43, e43, E43, A43, Ax43, st43⟩ := newPE X1 hx hZ (wK hw (i := 2) rfl) e1 (g := (mkF m 112 #[iv p0, .val (.long p1), .second, iv p2, iv p3, iv p4, iv p5, iv 4, rv bd, rv bt, .unset, .unset, .unset, .unset, .unset, .unset, .unset] [(.int (4 : Int32))])) rfl (hb hby at_112) rfl (by decide) (cap := 4) (by decide) (by decide) (by decide) (by decide) (ad := "[D") (by decide)
    obtain ⟨b43, g43⟩ : ∃ z, z = h1.size := ⟨_, rfl⟩
    rw [← g43] at A43 Ax43 st43
    have V43 : Arv Z h43 b43 k43 .double (4 : Int32) [(.double (0 : UInt64)), (.double (0 : UInt64)), (.double (0 : UInt64)), (.double (0 : UInt64))] (.double (0 : UInt64)) := (Arv.new A43 (by decide)).pad (pad_rep [] (.double (0 : UInt64)) 4)
    obtain ⟨T44, h44, k44, X44, e44, E44, A44, Ax44, st44⟩ := newPE X43 hx hZ (wK hw (i := 0) rfl) e43 (g := (mkF m 118 #[iv p0, .val (.long p1), .second, iv p2, iv p3, iv p4, iv p5, iv 4, rv bd, rv bt, rv b43, .unset, .unset, .unset, .unset, .unset, .unset] [(.int (4 : Int32))])) rfl (hb hby at_118) rfl (by decide) (cap := 4) (by decide) (by decide) (by decide) (by decide) (ad := "[I") (by decide)
    obtain ⟨b44, g44⟩ : ∃ z, z = h43.size := ⟨_, rfl⟩
    rw [← g44] at A44 Ax44 st44
    have V44 : Arv Z h44 b44 k44 .int (4 : Int32) [(.int (0 : Int32)), (.int (0 : Int32)), (.int (0 : Int32)), (.int (0 : Int32))] (.int (0 : Int32)) := (Arv.new A44 (by decide)).pad (pad_rep [] (.int (0 : Int32)) 4)
    obtain ⟨cl45, Ar45, q45, S45, P45, Ha45, G45⟩ := (V43.ext E44)
    have hin45 : ¬ ((0 : Int32) < 0 ∨ cl45.slots.size ≤ ((0 : Int32)).toNatClampNeg) := inb_of S45 ⟨by decide, by decide⟩
    obtain ⟨T46, h46, X46, e46, W46, st46⟩ := stD X44 hx hZ e44 Ar45 (j := (0 : Int32)) hin45 (g := (mkF m 135 #[iv p0, .val (.long p1), .second, iv p2, iv p3, iv p4, iv p5, iv 4, rv bd, rv bt, rv b43, rv b44, .unset, .unset, .unset, .unset, .unset] [(.double (FP.i2d (own_e0 p1))), (.int (0 : Int32)), (.ref b43)])) rfl rfl (hb hby at_135)
    have V46 : Arv Z h46 b43 k43 .double (4 : Int32) [(.double (FP.i2d (own_e0 p1))), (.double (0 : UInt64)), (.double (0 : UInt64)), (.double (0 : UInt64))] (.double (0 : UInt64)) := Arv.set Ar45 q45 S45 P45 Ha45 G45 rfl W46 0 rfl (Nat.le_of_ble_eq_true rfl)
    have N46 := Fr.snoc X46 N1 (Nat.le_trans Z0 (Nat.le_trans (Nat.le_trans (Nat.le_refl _) K1.1) (Nat.le_of_eq g43.symm)))
    obtain ⟨cl47, Ar47, q47, S47, P47, Ha47, G47⟩ := (V44.other W46 (Ne.symm (Nat.ne_of_lt (Nat.lt_of_lt_of_le Ax43.lt (Nat.le_of_eq g44.symm)))))
    have hin47 : ¬ ((0 : Int32) < 0 ∨ cl47.slots.size ≤ ((0 : Int32)).toNatClampNeg) := inb_of S47 ⟨by decide, by decide⟩
    obtain ⟨T48, h48, X48, e48, W48, st48⟩ := stI X46 hx hZ e46 Ar47 (j := (0 : Int32)) hin47 (g := (mkF m 143 #[iv p0, .val (.long p1), .second, iv p2, iv p3, iv p4, iv p5, iv 4, rv bd, rv bt, rv b43, rv b44, .unset, .unset, .unset, .unset, .unset] [(.int p2), (.int (0 : Int32)), (.ref b44)])) rfl rfl (hb hby at_143)
    have V48 : Arv Z h48 b44 k44 .int (4 : Int32) [(.int p2), (.int (0 : Int32)), (.int (0 : Int32)), (.int (0 : Int32))] (.int (0 : Int32)) := Arv.set Ar47 q47 S47 P47 Ha47 G47 rfl W48 0 rfl (Nat.le_of_ble_eq_true rfl)
    have N48 := Fr.snoc X48 N46 (Nat.le_trans Z0 (Nat.le_trans (Nat.le_trans (Nat.le_trans (Nat.le_refl _) K1.1) E43.1) (Nat.le_of_eq g44.symm)))
    obtain ⟨cl49, Ar49, q49, S49, P49, Ha49, G49⟩ := (V46.other W48 (Nat.ne_of_lt (Nat.lt_of_lt_of_le Ax43.lt (Nat.le_of_eq g44.symm))))
    have hin49 : ¬ ((1 : Int32) < 0 ∨ cl49.slots.size ≤ ((1 : Int32)).toNatClampNeg) := inb_of S49 ⟨by decide, by decide⟩
    obtain ⟨T50, h50, X50, e50, W50, st50⟩ := stD X48 hx hZ e48 Ar49 (j := (1 : Int32)) hin49 (g := (mkF m 158 #[iv p0, .val (.long p1), .second, iv p2, iv p3, iv p4, iv p5, iv 4, rv bd, rv bt, rv b43, rv b44, .unset, .unset, .unset, .unset, .unset] [(.double (FP.i2d (own_e (3 : Int32) p1))), (.int (1 : Int32)), (.ref b43)])) rfl rfl (hb hby at_158)
    have V50 : Arv Z h50 b43 k43 .double (4 : Int32) [(.double (FP.i2d (own_e0 p1))), (.double (FP.i2d (own_e (3 : Int32) p1))), (.double (0 : UInt64)), (.double (0 : UInt64))] (.double (0 : UInt64)) := Arv.set Ar49 q49 S49 P49 Ha49 G49 rfl W50 1 rfl (Nat.le_of_ble_eq_true rfl)
    have N50 := Fr.snoc X50 N48 (Nat.le_trans Z0 (Nat.le_trans (Nat.le_trans (Nat.le_refl _) K1.1) (Nat.le_of_eq g43.symm)))
    obtain ⟨cl51, Ar51, q51, S51, P51, Ha51, G51⟩ := (V48.other W50 (Ne.symm (Nat.ne_of_lt (Nat.lt_of_lt_of_le Ax43.lt (Nat.le_of_eq g44.symm)))))
    have hin51 : ¬ ((1 : Int32) < 0 ∨ cl51.slots.size ≤ ((1 : Int32)).toNatClampNeg) := inb_of S51 ⟨by decide, by decide⟩
    obtain ⟨T52, h52, X52, e52, W52, st52⟩ := stI X50 hx hZ e50 Ar51 (j := (1 : Int32)) hin51 (g := (mkF m 166 #[iv p0, .val (.long p1), .second, iv p2, iv p3, iv p4, iv p5, iv 4, rv bd, rv bt, rv b43, rv b44, .unset, .unset, .unset, .unset, .unset] [(.int p3), (.int (1 : Int32)), (.ref b44)])) rfl rfl (hb hby at_166)
    have V52 : Arv Z h52 b44 k44 .int (4 : Int32) [(.int p2), (.int p3), (.int (0 : Int32)), (.int (0 : Int32))] (.int (0 : Int32)) := Arv.set Ar51 q51 S51 P51 Ha51 G51 rfl W52 1 rfl (Nat.le_of_ble_eq_true rfl)
    have N52 := Fr.snoc X52 N50 (Nat.le_trans Z0 (Nat.le_trans (Nat.le_trans (Nat.le_trans (Nat.le_refl _) K1.1) E43.1) (Nat.le_of_eq g44.symm)))
    obtain ⟨cl53, Ar53, q53, S53, P53, Ha53, G53⟩ := (V50.other W52 (Nat.ne_of_lt (Nat.lt_of_lt_of_le Ax43.lt (Nat.le_of_eq g44.symm))))
    have hin53 : ¬ ((2 : Int32) < 0 ∨ cl53.slots.size ≤ ((2 : Int32)).toNatClampNeg) := inb_of S53 ⟨by decide, by decide⟩
    obtain ⟨T54, h54, X54, e54, W54, st54⟩ := stD X52 hx hZ e52 Ar53 (j := (2 : Int32)) hin53 (g := (mkF m 181 #[iv p0, .val (.long p1), .second, iv p2, iv p3, iv p4, iv p5, iv 4, rv bd, rv bt, rv b43, rv b44, .unset, .unset, .unset, .unset, .unset] [(.double (FP.i2d (own_e (6 : Int32) p1))), (.int (2 : Int32)), (.ref b43)])) rfl rfl (hb hby at_181)
    have V54 : Arv Z h54 b43 k43 .double (4 : Int32) [(.double (FP.i2d (own_e0 p1))), (.double (FP.i2d (own_e (3 : Int32) p1))), (.double (FP.i2d (own_e (6 : Int32) p1))), (.double (0 : UInt64))] (.double (0 : UInt64)) := Arv.set Ar53 q53 S53 P53 Ha53 G53 rfl W54 2 rfl (Nat.le_of_ble_eq_true rfl)
    have N54 := Fr.snoc X54 N52 (Nat.le_trans Z0 (Nat.le_trans (Nat.le_trans (Nat.le_refl _) K1.1) (Nat.le_of_eq g43.symm)))
    obtain ⟨cl55, Ar55, q55, S55, P55, Ha55, G55⟩ := (V52.other W54 (Ne.symm (Nat.ne_of_lt (Nat.lt_of_lt_of_le Ax43.lt (Nat.le_of_eq g44.symm)))))
    have hin55 : ¬ ((2 : Int32) < 0 ∨ cl55.slots.size ≤ ((2 : Int32)).toNatClampNeg) := inb_of S55 ⟨by decide, by decide⟩
    obtain ⟨T56, h56, X56, e56, W56, st56⟩ := stI X54 hx hZ e54 Ar55 (j := (2 : Int32)) hin55 (g := (mkF m 189 #[iv p0, .val (.long p1), .second, iv p2, iv p3, iv p4, iv p5, iv 4, rv bd, rv bt, rv b43, rv b44, .unset, .unset, .unset, .unset, .unset] [(.int p4), (.int (2 : Int32)), (.ref b44)])) rfl rfl (hb hby at_189)
    have V56 : Arv Z h56 b44 k44 .int (4 : Int32) [(.int p2), (.int p3), (.int p4), (.int (0 : Int32))] (.int (0 : Int32)) := Arv.set Ar55 q55 S55 P55 Ha55 G55 rfl W56 2 rfl (Nat.le_of_ble_eq_true rfl)
    have N56 := Fr.snoc X56 N54 (Nat.le_trans Z0 (Nat.le_trans (Nat.le_trans (Nat.le_trans (Nat.le_refl _) K1.1) E43.1) (Nat.le_of_eq g44.symm)))
    obtain ⟨cl57, Ar57, q57, S57, P57, Ha57, G57⟩ := (V54.other W56 (Nat.ne_of_lt (Nat.lt_of_lt_of_le Ax43.lt (Nat.le_of_eq g44.symm))))
    have hin57 : ¬ ((3 : Int32) < 0 ∨ cl57.slots.size ≤ ((3 : Int32)).toNatClampNeg) := inb_of S57 ⟨by decide, by decide⟩
    obtain ⟨T58, h58, X58, e58, W58, st58⟩ := stD X56 hx hZ e56 Ar57 (j := (3 : Int32)) hin57 (g := (mkF m 204 #[iv p0, .val (.long p1), .second, iv p2, iv p3, iv p4, iv p5, iv 4, rv bd, rv bt, rv b43, rv b44, .unset, .unset, .unset, .unset, .unset] [(.double (FP.i2d (own_e (9 : Int32) p1))), (.int (3 : Int32)), (.ref b43)])) rfl rfl (hb hby at_204)
    have V58 : Arv Z h58 b43 k43 .double (4 : Int32) [(.double (FP.i2d (own_e0 p1))), (.double (FP.i2d (own_e (3 : Int32) p1))), (.double (FP.i2d (own_e (6 : Int32) p1))), (.double (FP.i2d (own_e (9 : Int32) p1)))] (.double (0 : UInt64)) := Arv.set Ar57 q57 S57 P57 Ha57 G57 rfl W58 3 rfl (Nat.le_of_ble_eq_true rfl)
    have N58 := Fr.snoc X58 N56 (Nat.le_trans Z0 (Nat.le_trans (Nat.le_trans (Nat.le_refl _) K1.1) (Nat.le_of_eq g43.symm)))
    obtain ⟨cl59, Ar59, q59, S59, P59, Ha59, G59⟩ := (V56.other W58 (Ne.symm (Nat.ne_of_lt (Nat.lt_of_lt_of_le Ax43.lt (Nat.le_of_eq g44.symm)))))
    have hin59 : ¬ ((3 : Int32) < 0 ∨ cl59.slots.size ≤ ((3 : Int32)).toNatClampNeg) := inb_of S59 ⟨by decide, by decide⟩
    obtain ⟨T60, h60, X60, e60, W60, st60⟩ := stI X58 hx hZ e58 Ar59 (j := (3 : Int32)) hin59 (g := (mkF m 212 #[iv p0, .val (.long p1), .second, iv p2, iv p3, iv p4, iv p5, iv 4, rv bd, rv bt, rv b43, rv b44, .unset, .unset, .unset, .unset, .unset] [(.int p5), (.int (3 : Int32)), (.ref b44)])) rfl rfl (hb hby at_212)
    have V60 : Arv Z h60 b44 k44 .int (4 : Int32) [(.int p2), (.int p3), (.int p4), (.int p5)] (.int (0 : Int32)) := Arv.set Ar59 q59 S59 P59 Ha59 G59 rfl W60 3 rfl (Nat.le_of_ble_eq_true rfl)
    have N60 := Fr.snoc X60 N58 (Nat.le_trans Z0 (Nat.le_trans (Nat.le_trans (Nat.le_trans (Nat.le_refl _) K1.1) E43.1) (Nat.le_of_eq g44.symm)))
    obtain ⟨_, _, ⟨T61, L61, k61, n61⟩, -, X61, ⟨Lc61, hQ61, l61, y61, z61⟩, st61⟩ := Jvm.LawKit.callS X60 hx (y := ⟨cN1, "typeByNeighbours", "([D[I)I"⟩) hown (mvT hZ (wK hw (i := 3) rfl)) (mvT hZ (wK hw (i := 4) rfl)) (mvT hZ (wK hw (i := 5) rfl)) (mvT hZ (wK hw (i := 6) rfl)) (by decide) (backOf (W := 0) (rmtb4 l Z a0 hw [] b43 k43 b44 k44 (own_e0 p1) (own_e (3 : Int32) p1) (own_e (6 : Int32) p1) (own_e (9 : Int32) p1) p2 p3 p4 p5 h60 n0 (Nat.le_trans (Nat.le_trans (Nat.le_trans (Nat.le_trans (Nat.le_trans (Nat.le_trans (Nat.le_trans (Nat.le_trans (Nat.le_trans (Nat.le_trans (Nat.le_trans Z0 K1.1) E43.1) E44.1) (Keep.of_wr W46).1) (Keep.of_wr W48).1) (Keep.of_wr W50).1) (Keep.of_wr W52).1) (Keep.of_wr W54).1) (Keep.of_wr W56).1) (Keep.of_wr W58).1) (Keep.of_wr W60).1) (V58.other W60 (Nat.ne_of_lt (Nat.lt_of_lt_of_le Ax43.lt (Nat.le_of_eq g44.symm)))) V60) hZ (wK hw (i := 6) rfl) (wK hw (i := 5) rfl) (by decide) (by decide)) (g := (mkF m 240 #[iv p0, .val (.long p1), .second, iv p2, iv p3, iv p4, iv p5, iv 4, rv bd, rv bt, rv b43, rv b44, .unset, .unset, .unset, .unset, .unset] [(.ref b44), (.ref b43)])) rfl (by rw [hml]; rfl) (argsL := [(.ref b43), (.ref b44)]) (rest := []) (lenOf pd_7 rfl) rfl (Nat.le_of_eq rfl) (hb hby at_240) (fun _ _ => ⟨rfl, e60, (by decide : 4 + 1 ≤ _), (by decide : 18 + 3 ≤ _)⟩)
    dsimp only [Pt.U, Pt.locs, Pt.cells, Pt.slots] at X61 l61 y61 z61 st61 hQ61
    subst l61 y61 z61
    obtain ⟨rfl, N61q, K61⟩ := hQ61
    have N61 := Fr.app N60 N61q
    obtain ⟨got, hgot⟩ : ∃ q : Int32, q = (own_res4 (own_e0 p1) (own_e (3 : Int32) p1) (own_e (6 : Int32) p1) (own_e (9 : Int32) p1) p2 p3 p4 p5) := ⟨_, rfl⟩
    obtain ⟨_, _, ⟨T62, L62, k62, n62⟩, -, X62, ⟨Lc62, hQ62, l62, y62, z62⟩, st62⟩ := Jvm.LawKit.callS X61 hx (y := ⟨cN0, "at", "([III)I"⟩) hown (mvT hZ (wK hw (i := 22) rfl)) (mvT hZ (wK hw (i := 23) rfl)) (mvT hZ (wK hw (i := 24) rfl)) (mvT hZ (wK hw (i := 25) rfl)) (by decide) (backOf (W := 1) (rmat4 l Z a0 hw [] bd k1 (own_e0 p1) (own_e (3 : Int32) p1) (own_e (6 : Int32) p1) (own_e (9 : Int32) p1) (own_e (12 : Int32) p1) (0 : Int32) T61.heap n0 (Nat.le_trans (Nat.le_trans (Nat.le_trans (Nat.le_trans (Nat.le_trans (Nat.le_trans (Nat.le_trans (Nat.le_trans (Nat.le_trans (Nat.le_trans (Nat.le_trans (Nat.le_trans Z0 K1.1) E43.1) E44.1) (Keep.of_wr W46).1) (Keep.of_wr W48).1) (Keep.of_wr W50).1) (Keep.of_wr W52).1) (Keep.of_wr W54).1) (Keep.of_wr W56).1) (Keep.of_wr W58).1) (Keep.of_wr W60).1) K61.1) (((((((((((Vd.ext E43).ext E44).other W46 (Nat.ne_of_lt (Nat.lt_of_lt_of_le Vd.lt (Nat.le_of_eq g43.symm)))).other W48 (Nat.ne_of_lt (Nat.lt_of_lt_of_le (Vd.ext E43).lt (Nat.le_of_eq g44.symm)))).other W50 (Nat.ne_of_lt (Nat.lt_of_lt_of_le Vd.lt (Nat.le_of_eq g43.symm)))).other W52 (Nat.ne_of_lt (Nat.lt_of_lt_of_le (Vd.ext E43).lt (Nat.le_of_eq g44.symm)))).other W54 (Nat.ne_of_lt (Nat.lt_of_lt_of_le Vd.lt (Nat.le_of_eq g43.symm)))).other W56 (Nat.ne_of_lt (Nat.lt_of_lt_of_le (Vd.ext E43).lt (Nat.le_of_eq g44.symm)))).other W58 (Nat.ne_of_lt (Nat.lt_of_lt_of_le Vd.lt (Nat.le_of_eq g43.symm)))).other W60 (Nat.ne_of_lt (Nat.lt_of_lt_of_le (Vd.ext E43).lt (Nat.le_of_eq g44.symm)))).keep K61 nin0)) hZ (wK hw (i := 25) rfl) (wK hw (i := 24) rfl) (by decide) (by decide)) (g := (mkF m 263 #[iv p0, .val (.long p1), .second, iv p2, iv p3, iv p4, iv p5, iv 4, rv bd, rv bt, rv b43, rv b44, iv got, .unset, .unset, .unset, .unset] [(.int (0 : Int32)), (.int (4 : Int32)), (.ref bd), (.ref bt)])) rfl (by rw [hml]; rfl) (argsL := [(.ref bd), (.int (4 : Int32)), (.int (0 : Int32))]) (rest := [(.ref bt)]) (lenOf pd_3 rfl) rfl (Nat.le_of_eq rfl) (hb hby at_263) (fun _ _ => ⟨rfl, rfl, (by decide : 5 + 0 ≤ _), (by decide : 21 + 0 ≤ _)⟩)
    dsimp only [Pt.U, Pt.locs, Pt.cells, Pt.slots] at X62 l62 y62 z62 st62 hQ62
    subst l62 y62 z62
    obtain ⟨rfl, N62q, eh62⟩ := hQ62
    have N62 := Fr.app N61 N62q
    obtain ⟨na, hna⟩ : ∃ q : Int32, q = (own_g [p2, p3, p4, p5, (own_t4 p0)] (own_at4 (own_e0 p1) (own_e (3 : Int32) p1) (own_e (6 : Int32) p1) (own_e (9 : Int32) p1) (0 : Int32))) := ⟨_, rfl⟩
    obtain ⟨_, _, ⟨T63, L63, k63, n63⟩, -, X63, ⟨Lc63, hQ63, l63, y63, z63⟩, st63⟩ := Jvm.LawKit.callS X62 hx (y := ⟨cN0, "at", "([III)I"⟩) hown (mvT hZ (wK hw (i := 22) rfl)) (mvT hZ (wK hw (i := 23) rfl)) (mvT hZ (wK hw (i := 24) rfl)) (mvT hZ (wK hw (i := 25) rfl)) (by decide) (backOf (W := 1) (rmat4 l Z a0 hw [] bd k1 (own_e0 p1) (own_e (3 : Int32) p1) (own_e (6 : Int32) p1) (own_e (9 : Int32) p1) (own_e (12 : Int32) p1) (1 : Int32) T61.heap n0 (Nat.le_trans (Nat.le_trans (Nat.le_trans (Nat.le_trans (Nat.le_trans (Nat.le_trans (Nat.le_trans (Nat.le_trans (Nat.le_trans (Nat.le_trans (Nat.le_trans (Nat.le_trans Z0 K1.1) E43.1) E44.1) (Keep.of_wr W46).1) (Keep.of_wr W48).1) (Keep.of_wr W50).1) (Keep.of_wr W52).1) (Keep.of_wr W54).1) (Keep.of_wr W56).1) (Keep.of_wr W58).1) (Keep.of_wr W60).1) K61.1) (((((((((((Vd.ext E43).ext E44).other W46 (Nat.ne_of_lt (Nat.lt_of_lt_of_le Vd.lt (Nat.le_of_eq g43.symm)))).other W48 (Nat.ne_of_lt (Nat.lt_of_lt_of_le (Vd.ext E43).lt (Nat.le_of_eq g44.symm)))).other W50 (Nat.ne_of_lt (Nat.lt_of_lt_of_le Vd.lt (Nat.le_of_eq g43.symm)))).other W52 (Nat.ne_of_lt (Nat.lt_of_lt_of_le (Vd.ext E43).lt (Nat.le_of_eq g44.symm)))).other W54 (Nat.ne_of_lt (Nat.lt_of_lt_of_le Vd.lt (Nat.le_of_eq g43.symm)))).other W56 (Nat.ne_of_lt (Nat.lt_of_lt_of_le (Vd.ext E43).lt (Nat.le_of_eq g44.symm)))).other W58 (Nat.ne_of_lt (Nat.lt_of_lt_of_le Vd.lt (Nat.le_of_eq g43.symm)))).other W60 (Nat.ne_of_lt (Nat.lt_of_lt_of_le (Vd.ext E43).lt (Nat.le_of_eq g44.symm)))).keep K61 nin0)) hZ (wK hw (i := 25) rfl) (wK hw (i := 24) rfl) (by decide) (by decide)) (g := (mkF m 289 #[iv p0, .val (.long p1), .second, iv p2, iv p3, iv p4, iv p5, iv 4, rv bd, rv bt, rv b43, rv b44, iv got, .unset, iv na, .unset, .unset] [(.int (1 : Int32)), (.int (4 : Int32)), (.ref bd), (.ref bt)])) rfl (by rw [hml]; rfl) (argsL := [(.ref bd), (.int (4 : Int32)), (.int (1 : Int32))]) (rest := [(.ref bt)]) (lenOf pd_3 rfl) rfl (Nat.le_of_eq rfl) (hb hby at_289) (fun _ _ => ⟨rfl, eh62, (by decide : 5 + 0 ≤ _), (by decide : 21 + 0 ≤ _)⟩)
    dsimp only [Pt.U, Pt.locs, Pt.cells, Pt.slots] at X63 l63 y63 z63 st63 hQ63
    subst l63 y63 z63
    obtain ⟨rfl, N63q, eh63⟩ := hQ63
    have N63 := Fr.app N62 N63q
    obtain ⟨nb, hnb⟩ : ∃ q : Int32, q = (own_g [p2, p3, p4, p5, (own_t4 p0)] (own_at4 (own_e0 p1) (own_e (3 : Int32) p1) (own_e (6 : Int32) p1) (own_e (9 : Int32) p1) (1 : Int32))) := ⟨_, rfl⟩
    obtain ⟨_, _, ⟨T64, L64, k64, n64⟩, -, X64, ⟨Lc64, hQ64, l64, y64, z64⟩, st64⟩ := Jvm.LawKit.callS X63 hx (y := ⟨cN0, "at", "([III)I"⟩) hown (mvT hZ (wK hw (i := 22) rfl)) (mvT hZ (wK hw (i := 23) rfl)) (mvT hZ (wK hw (i := 24) rfl)) (mvT hZ (wK hw (i := 25) rfl)) (by decide) (backOf (W := 1) (rmat4 l Z a0 hw [] bd k1 (own_e0 p1) (own_e (3 : Int32) p1) (own_e (6 : Int32) p1) (own_e (9 : Int32) p1) (own_e (12 : Int32) p1) (2 : Int32) T61.heap n0 (Nat.le_trans (Nat.le_trans (Nat.le_trans (Nat.le_trans (Nat.le_trans (Nat.le_trans (Nat.le_trans (Nat.le_trans (Nat.le_trans (Nat.le_trans (Nat.le_trans (Nat.le_trans Z0 K1.1) E43.1) E44.1) (Keep.of_wr W46).1) (Keep.of_wr W48).1) (Keep.of_wr W50).1) (Keep.of_wr W52).1) (Keep.of_wr W54).1) (Keep.of_wr W56).1) (Keep.of_wr W58).1) (Keep.of_wr W60).1) K61.1) (((((((((((Vd.ext E43).ext E44).other W46 (Nat.ne_of_lt (Nat.lt_of_lt_of_le Vd.lt (Nat.le_of_eq g43.symm)))).other W48 (Nat.ne_of_lt (Nat.lt_of_lt_of_le (Vd.ext E43).lt (Nat.le_of_eq g44.symm)))).other W50 (Nat.ne_of_lt (Nat.lt_of_lt_of_le Vd.lt (Nat.le_of_eq g43.symm)))).other W52 (Nat.ne_of_lt (Nat.lt_of_lt_of_le (Vd.ext E43).lt (Nat.le_of_eq g44.symm)))).other W54 (Nat.ne_of_lt (Nat.lt_of_lt_of_le Vd.lt (Nat.le_of_eq g43.symm)))).other W56 (Nat.ne_of_lt (Nat.lt_of_lt_of_le (Vd.ext E43).lt (Nat.le_of_eq g44.symm)))).other W58 (Nat.ne_of_lt (Nat.lt_of_lt_of_le Vd.lt (Nat.le_of_eq g43.symm)))).other W60 (Nat.ne_of_lt (Nat.lt_of_lt_of_le (Vd.ext E43).lt (Nat.le_of_eq g44.symm)))).keep K61 nin0)) hZ (wK hw (i := 25) rfl) (wK hw (i := 24) rfl) (by decide) (by decide)) (g := (mkF m 302 #[iv p0, .val (.long p1), .second, iv p2, iv p3, iv p4, iv p5, iv 4, rv bd, rv bt, rv b43, rv b44, iv got, .unset, iv na, iv nb, .unset] [(.int (2 : Int32)), (.int (4 : Int32)), (.ref bd), (.ref bt)])) rfl (by rw [hml]; rfl) (argsL := [(.ref bd), (.int (4 : Int32)), (.int (2 : Int32))]) (rest := [(.ref bt)]) (lenOf pd_3 rfl) rfl (Nat.le_of_eq rfl) (hb hby at_302) (fun _ _ => ⟨rfl, eh63, (by decide : 5 + 0 ≤ _), (by decide : 21 + 0 ≤ _)⟩)
    dsimp only [Pt.U, Pt.locs, Pt.cells, Pt.slots] at X64 l64 y64 z64 st64 hQ64
    subst l64 y64 z64
    obtain ⟨rfl, N64q, eh64⟩ := hQ64
    have N64 := Fr.app N63 N64q
    obtain ⟨nc, hnc⟩ : ∃ q : Int32, q = (own_g [p2, p3, p4, p5, (own_t4 p0)] (own_at4 (own_e0 p1) (own_e (3 : Int32) p1) (own_e (6 : Int32) p1) (own_e (9 : Int32) p1) (2 : Int32))) := ⟨_, rfl⟩
    obtain ⟨fs, hr, hrun, hended, hW, hsame⟩ := X64.leave (v := some (.int (nar .boolean (1 : Int32)))) (fun h => by rw [Bd.returns] at h; cases h)
    refine ⟨_, _, pre0 _ ?_, hrun, hended, _, _, rfl, ?_, ⟨_, rfl⟩, hW, hsame.mono (by decide) (by decide)⟩
    · show sS p e below s₁ m 0 #[iv p0, .val (.long p1), .second, iv p2, iv p3, iv p4, iv p5, .unset, .unset, .unset, .unset, .unset, .unset, .unset, .unset, .unset, .unset] [] _
      refine st1 _ ?_
      show sS p e below T1 m 110 #[iv p0, .val (.long p1), .second, iv p2, iv p3, iv p4, iv p5, .val (.int (own_n p0)), rv bd, rv bt, .unset, .unset, .unset, .unset, .unset, .unset, .unset] [] _
      rw [hn]
      show sS p e below T1 m 110 #[iv p0, .val (.long p1), .second, iv p2, iv p3, iv p4, iv p5, iv 4, rv bd, rv bt, .unset, .unset, .unset, .unset, .unset, .unset, .unset] [] _
      refine XS.iload X1.here hx rfl (hb hby at_110) rfl ?_
      show sS p e below T1 m 112 #[iv p0, .val (.long p1), .second, iv p2, iv p3, iv p4, iv p5, iv 4, rv bd, rv bt, .unset, .unset, .unset, .unset, .unset, .unset, .unset] [(.int (4 : Int32))] _
      refine st43 _ ?_
      show sS p e below T43 m 114 #[iv p0, .val (.long p1), .second, iv p2, iv p3, iv p4, iv p5, iv 4, rv bd, rv bt, .unset, .unset, .unset, .unset, .unset, .unset, .unset] [(.ref b43)] _
      refine XS.astore X43.here hx rfl (hb hby at_114) rfl rfl (l' := #[iv p0, .val (.long p1), .second, iv p2, iv p3, iv p4, iv p5, iv 4, rv bd, rv bt, rv b43, .unset, .unset, .unset, .unset, .unset, .unset]) rfl ?_
      refine XS.iload X43.here hx rfl (hb hby at_116) rfl ?_
      show sS p e below T43 m 118 #[iv p0, .val (.long p1), .second, iv p2, iv p3, iv p4, iv p5, iv 4, rv bd, rv bt, rv b43, .unset, .unset, .unset, .unset, .unset, .unset] [(.int (4 : Int32))] _
      refine st44 _ ?_
      show sS p e below T44 m 120 #[iv p0, .val (.long p1), .second, iv p2, iv p3, iv p4, iv p5, iv 4, rv bd, rv bt, rv b43, .unset, .unset, .unset, .unset, .unset, .unset] [(.ref b44)] _
      refine XS.astore X44.here hx rfl (hb hby at_120) rfl rfl (l' := #[iv p0, .val (.long p1), .second, iv p2, iv p3, iv p4, iv p5, iv 4, rv bd, rv bt, rv b43, rv b44, .unset, .unset, .unset, .unset, .unset]) rfl ?_
      refine XS.iload X44.here hx rfl (hb hby at_122) rfl ?_
      refine XS.ifNo X44.here hx rfl (hb hby at_124) rfl (by decide) ?_
      refine XS.aload X44.here hx rfl (hb hby at_127) rfl rfl ?_
      refine XS.iconst X44.here hx rfl (hb hby at_129) ?_
      refine XS.aload X44.here hx rfl (hb hby at_130) rfl rfl ?_
      show sS p e below T44 m 132 #[iv p0, .val (.long p1), .second, iv p2, iv p3, iv p4, iv p5, iv 4, rv bd, rv bt, rv b43, rv b44, .unset, .unset, .unset, .unset, .unset] [(.ref bd), (.int (0 : Int32)), (.ref b43)] _
      refine XS.iconst X44.here hx rfl (hb hby at_132) ?_
      refine own_ldI X44 hx hZ e44 ((Vd.ext E43).ext E44) ⟨by decide, by decide⟩ (v := (own_e0 p1)) rfl rfl rfl (hb hby at_133) ?_
      refine XS.i2dS X44.here hx rfl (hb hby at_134) rfl rfl ?_
      show sS p e below T44 m 135 #[iv p0, .val (.long p1), .second, iv p2, iv p3, iv p4, iv p5, iv 4, rv bd, rv bt, rv b43, rv b44, .unset, .unset, .unset, .unset, .unset] [(.double (FP.i2d (own_e0 p1))), (.int (0 : Int32)), (.ref b43)] _
      refine st46 _ ?_
      show sS p e below T46 m 136 #[iv p0, .val (.long p1), .second, iv p2, iv p3, iv p4, iv p5, iv 4, rv bd, rv bt, rv b43, rv b44, .unset, .unset, .unset, .unset, .unset] [] _
      refine XS.aload X46.here hx rfl (hb hby at_136) rfl rfl ?_
      refine XS.iconst X46.here hx rfl (hb hby at_138) ?_
      refine XS.aload X46.here hx rfl (hb hby at_139) rfl rfl ?_
      refine XS.iconst X46.here hx rfl (hb hby at_141) ?_
      refine own_ldI X46 hx hZ e46 (((Vt.ext E43).ext E44).other W46 (Nat.ne_of_lt (Nat.lt_of_lt_of_le Vt.lt (Nat.le_of_eq g43.symm)))) ⟨by decide, by decide⟩ (v := p2) rfl rfl rfl (hb hby at_142) ?_
      show sS p e below T46 m 143 #[iv p0, .val (.long p1), .second, iv p2, iv p3, iv p4, iv p5, iv 4, rv bd, rv bt, rv b43, rv b44, .unset, .unset, .unset, .unset, .unset] [(.int p2), (.int (0 : Int32)), (.ref b44)] _
      refine st48 _ ?_
      show sS p e below T48 m 144 #[iv p0, .val (.long p1), .second, iv p2, iv p3, iv p4, iv p5, iv 4, rv bd, rv bt, rv b43, rv b44, .unset, .unset, .unset, .unset, .unset] [] _
      refine XS.iload X48.here hx rfl (hb hby at_144) rfl ?_
      refine XS.iconst X48.here hx rfl (hb hby at_146) ?_
      refine XS.icmpNo X48.here hx rfl (hb hby at_147) rfl (by decide) ?_
      refine XS.aload X48.here hx rfl (hb hby at_150) rfl rfl ?_
      refine XS.iconst X48.here hx rfl (hb hby at_152) ?_
      refine XS.aload X48.here hx rfl (hb hby at_153) rfl rfl ?_
      show sS p e below T48 m 155 #[iv p0, .val (.long p1), .second, iv p2, iv p3, iv p4, iv p5, iv 4, rv bd, rv bt, rv b43, rv b44, .unset, .unset, .unset, .unset, .unset] [(.ref bd), (.int (1 : Int32)), (.ref b43)] _
      refine XS.iconst X48.here hx rfl (hb hby at_155) ?_
      refine own_ldI X48 hx hZ e48 ((((Vd.ext E43).ext E44).other W46 (Nat.ne_of_lt (Nat.lt_of_lt_of_le Vd.lt (Nat.le_of_eq g43.symm)))).other W48 (Nat.ne_of_lt (Nat.lt_of_lt_of_le (Vd.ext E43).lt (Nat.le_of_eq g44.symm)))) ⟨by decide, by decide⟩ (v := (own_e (3 : Int32) p1)) rfl rfl rfl (hb hby at_156) ?_
      refine XS.i2dS X48.here hx rfl (hb hby at_157) rfl rfl ?_
      show sS p e below T48 m 158 #[iv p0, .val (.long p1), .second, iv p2, iv p3, iv p4, iv p5, iv 4, rv bd, rv bt, rv b43, rv b44, .unset, .unset, .unset, .unset, .unset] [(.double (FP.i2d (own_e (3 : Int32) p1))), (.int (1 : Int32)), (.ref b43)] _
      refine st50 _ ?_
      show sS p e below T50 m 159 #[iv p0, .val (.long p1), .second, iv p2, iv p3, iv p4, iv p5, iv 4, rv bd, rv bt, rv b43, rv b44, .unset, .unset, .unset, .unset, .unset] [] _
      refine XS.aload X50.here hx rfl (hb hby at_159) rfl rfl ?_
      refine XS.iconst X50.here hx rfl (hb hby at_161) ?_
      refine XS.aload X50.here hx rfl (hb hby at_162) rfl rfl ?_
      refine XS.iconst X50.here hx rfl (hb hby at_164) ?_
      refine own_ldI X50 hx hZ e50 (((((Vt.ext E43).ext E44).other W46 (Nat.ne_of_lt (Nat.lt_of_lt_of_le Vt.lt (Nat.le_of_eq g43.symm)))).other W48 (Nat.ne_of_lt (Nat.lt_of_lt_of_le (Vt.ext E43).lt (Nat.le_of_eq g44.symm)))).other W50 (Nat.ne_of_lt (Nat.lt_of_lt_of_le Vt.lt (Nat.le_of_eq g43.symm)))) ⟨by decide, by decide⟩ (v := p3) rfl rfl rfl (hb hby at_165) ?_
      show sS p e below T50 m 166 #[iv p0, .val (.long p1), .second, iv p2, iv p3, iv p4, iv p5, iv 4, rv bd, rv bt, rv b43, rv b44, .unset, .unset, .unset, .unset, .unset] [(.int p3), (.int (1 : Int32)), (.ref b44)] _
      refine st52 _ ?_
      show sS p e below T52 m 167 #[iv p0, .val (.long p1), .second, iv p2, iv p3, iv p4, iv p5, iv 4, rv bd, rv bt, rv b43, rv b44, .unset, .unset, .unset, .unset, .unset] [] _
      refine XS.iload X52.here hx rfl (hb hby at_167) rfl ?_
      refine XS.iconst X52.here hx rfl (hb hby at_169) ?_
      refine XS.icmpNo X52.here hx rfl (hb hby at_170) rfl (by decide) ?_
      refine XS.aload X52.here hx rfl (hb hby at_173) rfl rfl ?_
      refine XS.iconst X52.here hx rfl (hb hby at_175) ?_
      refine XS.aload X52.here hx rfl (hb hby at_176) rfl rfl ?_
      show sS p e below T52 m 178 #[iv p0, .val (.long p1), .second, iv p2, iv p3, iv p4, iv p5, iv 4, rv bd, rv bt, rv b43, rv b44, .unset, .unset, .unset, .unset, .unset] [(.ref bd), (.int (2 : Int32)), (.ref b43)] _
      refine XS.iconst X52.here hx rfl (hb hby at_178) ?_
      refine own_ldI X52 hx hZ e52 ((((((Vd.ext E43).ext E44).other W46 (Nat.ne_of_lt (Nat.lt_of_lt_of_le Vd.lt (Nat.le_of_eq g43.symm)))).other W48 (Nat.ne_of_lt (Nat.lt_of_lt_of_le (Vd.ext E43).lt (Nat.le_of_eq g44.symm)))).other W50 (Nat.ne_of_lt (Nat.lt_of_lt_of_le Vd.lt (Nat.le_of_eq g43.symm)))).other W52 (Nat.ne_of_lt (Nat.lt_of_lt_of_le (Vd.ext E43).lt (Nat.le_of_eq g44.symm)))) ⟨by decide, by decide⟩ (v := (own_e (6 : Int32) p1)) rfl rfl rfl (hb hby at_179) ?_
      refine XS.i2dS X52.here hx rfl (hb hby at_180) rfl rfl ?_
      show sS p e below T52 m 181 #[iv p0, .val (.long p1), .second, iv p2, iv p3, iv p4, iv p5, iv 4, rv bd, rv bt, rv b43, rv b44, .unset, .unset, .unset, .unset, .unset] [(.double (FP.i2d (own_e (6 : Int32) p1))), (.int (2 : Int32)), (.ref b43)] _
      refine st54 _ ?_
      show sS p e below T54 m 182 #[iv p0, .val (.long p1), .second, iv p2, iv p3, iv p4, iv p5, iv 4, rv bd, rv bt, rv b43, rv b44, .unset, .unset, .unset, .unset, .unset] [] _
      refine XS.aload X54.here hx rfl (hb hby at_182) rfl rfl ?_
      refine XS.iconst X54.here hx rfl (hb hby at_184) ?_
      refine XS.aload X54.here hx rfl (hb hby at_185) rfl rfl ?_
      refine XS.iconst X54.here hx rfl (hb hby at_187) ?_
      refine own_ldI X54 hx hZ e54 (((((((Vt.ext E43).ext E44).other W46 (Nat.ne_of_lt (Nat.lt_of_lt_of_le Vt.lt (Nat.le_of_eq g43.symm)))).other W48 (Nat.ne_of_lt (Nat.lt_of_lt_of_le (Vt.ext E43).lt (Nat.le_of_eq g44.symm)))).other W50 (Nat.ne_of_lt (Nat.lt_of_lt_of_le Vt.lt (Nat.le_of_eq g43.symm)))).other W52 (Nat.ne_of_lt (Nat.lt_of_lt_of_le (Vt.ext E43).lt (Nat.le_of_eq g44.symm)))).other W54 (Nat.ne_of_lt (Nat.lt_of_lt_of_le Vt.lt (Nat.le_of_eq g43.symm)))) ⟨by decide, by decide⟩ (v := p4) rfl rfl rfl (hb hby at_188) ?_
      show sS p e below T54 m 189 #[iv p0, .val (.long p1), .second, iv p2, iv p3, iv p4, iv p5, iv 4, rv bd, rv bt, rv b43, rv b44, .unset, .unset, .unset, .unset, .unset] [(.int p4), (.int (2 : Int32)), (.ref b44)] _
      refine st56 _ ?_
      show sS p e below T56 m 190 #[iv p0, .val (.long p1), .second, iv p2, iv p3, iv p4, iv p5, iv 4, rv bd, rv bt, rv b43, rv b44, .unset, .unset, .unset, .unset, .unset] [] _
      refine XS.iload X56.here hx rfl (hb hby at_190) rfl ?_
      refine XS.iconst X56.here hx rfl (hb hby at_192) ?_
      refine XS.icmpNo X56.here hx rfl (hb hby at_193) rfl (by decide) ?_
      refine XS.aload X56.here hx rfl (hb hby at_196) rfl rfl ?_
      refine XS.iconst X56.here hx rfl (hb hby at_198) ?_
      refine XS.aload X56.here hx rfl (hb hby at_199) rfl rfl ?_
      show sS p e below T56 m 201 #[iv p0, .val (.long p1), .second, iv p2, iv p3, iv p4, iv p5, iv 4, rv bd, rv bt, rv b43, rv b44, .unset, .unset, .unset, .unset, .unset] [(.ref bd), (.int (3 : Int32)), (.ref b43)] _
      refine XS.iconst X56.here hx rfl (hb hby at_201) ?_
      refine own_ldI X56 hx hZ e56 ((((((((Vd.ext E43).ext E44).other W46 (Nat.ne_of_lt (Nat.lt_of_lt_of_le Vd.lt (Nat.le_of_eq g43.symm)))).other W48 (Nat.ne_of_lt (Nat.lt_of_lt_of_le (Vd.ext E43).lt (Nat.le_of_eq g44.symm)))).other W50 (Nat.ne_of_lt (Nat.lt_of_lt_of_le Vd.lt (Nat.le_of_eq g43.symm)))).other W52 (Nat.ne_of_lt (Nat.lt_of_lt_of_le (Vd.ext E43).lt (Nat.le_of_eq g44.symm)))).other W54 (Nat.ne_of_lt (Nat.lt_of_lt_of_le Vd.lt (Nat.le_of_eq g43.symm)))).other W56 (Nat.ne_of_lt (Nat.lt_of_lt_of_le (Vd.ext E43).lt (Nat.le_of_eq g44.symm)))) ⟨by decide, by decide⟩ (v := (own_e (9 : Int32) p1)) rfl rfl rfl (hb hby at_202) ?_
      refine XS.i2dS X56.here hx rfl (hb hby at_203) rfl rfl ?_
      show sS p e below T56 m 204 #[iv p0, .val (.long p1), .second, iv p2, iv p3, iv p4, iv p5, iv 4, rv bd, rv bt, rv b43, rv b44, .unset, .unset, .unset, .unset, .unset] [(.double (FP.i2d (own_e (9 : Int32) p1))), (.int (3 : Int32)), (.ref b43)] _
      refine st58 _ ?_
      show sS p e below T58 m 205 #[iv p0, .val (.long p1), .second, iv p2, iv p3, iv p4, iv p5, iv 4, rv bd, rv bt, rv b43, rv b44, .unset, .unset, .unset, .unset, .unset] [] _
      refine XS.aload X58.here hx rfl (hb hby at_205) rfl rfl ?_
      refine XS.iconst X58.here hx rfl (hb hby at_207) ?_
      refine XS.aload X58.here hx rfl (hb hby at_208) rfl rfl ?_
      refine XS.iconst X58.here hx rfl (hb hby at_210) ?_
      refine own_ldI X58 hx hZ e58 (((((((((Vt.ext E43).ext E44).other W46 (Nat.ne_of_lt (Nat.lt_of_lt_of_le Vt.lt (Nat.le_of_eq g43.symm)))).other W48 (Nat.ne_of_lt (Nat.lt_of_lt_of_le (Vt.ext E43).lt (Nat.le_of_eq g44.symm)))).other W50 (Nat.ne_of_lt (Nat.lt_of_lt_of_le Vt.lt (Nat.le_of_eq g43.symm)))).other W52 (Nat.ne_of_lt (Nat.lt_of_lt_of_le (Vt.ext E43).lt (Nat.le_of_eq g44.symm)))).other W54 (Nat.ne_of_lt (Nat.lt_of_lt_of_le Vt.lt (Nat.le_of_eq g43.symm)))).other W56 (Nat.ne_of_lt (Nat.lt_of_lt_of_le (Vt.ext E43).lt (Nat.le_of_eq g44.symm)))).other W58 (Nat.ne_of_lt (Nat.lt_of_lt_of_le Vt.lt (Nat.le_of_eq g43.symm)))) ⟨by decide, by decide⟩ (v := p5) rfl rfl rfl (hb hby at_211) ?_
      show sS p e below T58 m 212 #[iv p0, .val (.long p1), .second, iv p2, iv p3, iv p4, iv p5, iv 4, rv bd, rv bt, rv b43, rv b44, .unset, .unset, .unset, .unset, .unset] [(.int p5), (.int (3 : Int32)), (.ref b44)] _
      refine st60 _ ?_
      show sS p e below T60 m 213 #[iv p0, .val (.long p1), .second, iv p2, iv p3, iv p4, iv p5, iv 4, rv bd, rv bt, rv b43, rv b44, .unset, .unset, .unset, .unset, .unset] [] _
      refine XS.iload X60.here hx rfl (hb hby at_213) rfl ?_
      refine XS.iconst X60.here hx rfl (hb hby at_215) ?_
      refine XS.icmpYes X60.here hx rfl (pc0 := 216) (pc' := 236) rfl (hb hby at_216) rfl (by decide) (by decide) (by decide) ?_
      refine XS.aload X60.here hx rfl (hb hby at_236) rfl rfl ?_
      refine XS.aload X60.here hx rfl (hb hby at_238) rfl rfl ?_
      show sS p e below T60 m 240 #[iv p0, .val (.long p1), .second, iv p2, iv p3, iv p4, iv p5, iv 4, rv bd, rv bt, rv b43, rv b44, .unset, .unset, .unset, .unset, .unset] [(.ref b44), (.ref b43)] _
      refine st61 _ ?_
      show sS p e below T61 m 243 #[iv p0, .val (.long p1), .second, iv p2, iv p3, iv p4, iv p5, iv 4, rv bd, rv bt, rv b43, rv b44, .unset, .unset, .unset, .unset, .unset] [(.int (own_res4 (own_e0 p1) (own_e (3 : Int32) p1) (own_e (6 : Int32) p1) (own_e (9 : Int32) p1) p2 p3 p4 p5))] _
      rw [← hgot]
      show sS p e below T61 m 243 #[iv p0, .val (.long p1), .second, iv p2, iv p3, iv p4, iv p5, iv 4, rv bd, rv bt, rv b43, rv b44, .unset, .unset, .unset, .unset, .unset] [(.int got)] _
      refine XS.istore X61.here hx rfl (hb hby at_243) rfl (l' := #[iv p0, .val (.long p1), .second, iv p2, iv p3, iv p4, iv p5, iv 4, rv bd, rv bt, rv b43, rv b44, iv got, .unset, .unset, .unset, .unset]) rfl ?_
      refine XS.iload X61.here hx rfl (hb hby at_245) rfl ?_
      refine XS.ifYes X61.here hx rfl (pc0 := 247) (pc' := 256) rfl (hb hby at_247) rfl (by decide) (by decide) (by decide) ?_
      refine XS.aload X61.here hx rfl (hb hby at_256) rfl rfl ?_
      refine XS.aload X61.here hx rfl (hb hby at_258) rfl rfl ?_
      refine XS.iload X61.here hx rfl (hb hby at_260) rfl ?_
      show sS p e below T61 m 262 #[iv p0, .val (.long p1), .second, iv p2, iv p3, iv p4, iv p5, iv 4, rv bd, rv bt, rv b43, rv b44, iv got, .unset, .unset, .unset, .unset] [(.int (4 : Int32)), (.ref bd), (.ref bt)] _
      refine XS.iconst X61.here hx rfl (hb hby at_262) ?_
      show sS p e below T61 m 263 #[iv p0, .val (.long p1), .second, iv p2, iv p3, iv p4, iv p5, iv 4, rv bd, rv bt, rv b43, rv b44, iv got, .unset, .unset, .unset, .unset] [(.int (0 : Int32)), (.int (4 : Int32)), (.ref bd), (.ref bt)] _
      refine st62 _ ?_
      show sS p e below T62 m 266 #[iv p0, .val (.long p1), .second, iv p2, iv p3, iv p4, iv p5, iv 4, rv bd, rv bt, rv b43, rv b44, iv got, .unset, .unset, .unset, .unset] [(.int (own_at4 (own_e0 p1) (own_e (3 : Int32) p1) (own_e (6 : Int32) p1) (own_e (9 : Int32) p1) (0 : Int32))), (.ref bt)] _
      refine own_ldI X62 hx hZ eh62 (((((((((((Vt.ext E43).ext E44).other W46 (Nat.ne_of_lt (Nat.lt_of_lt_of_le Vt.lt (Nat.le_of_eq g43.symm)))).other W48 (Nat.ne_of_lt (Nat.lt_of_lt_of_le (Vt.ext E43).lt (Nat.le_of_eq g44.symm)))).other W50 (Nat.ne_of_lt (Nat.lt_of_lt_of_le Vt.lt (Nat.le_of_eq g43.symm)))).other W52 (Nat.ne_of_lt (Nat.lt_of_lt_of_le (Vt.ext E43).lt (Nat.le_of_eq g44.symm)))).other W54 (Nat.ne_of_lt (Nat.lt_of_lt_of_le Vt.lt (Nat.le_of_eq g43.symm)))).other W56 (Nat.ne_of_lt (Nat.lt_of_lt_of_le (Vt.ext E43).lt (Nat.le_of_eq g44.symm)))).other W58 (Nat.ne_of_lt (Nat.lt_of_lt_of_le Vt.lt (Nat.le_of_eq g43.symm)))).other W60 (Nat.ne_of_lt (Nat.lt_of_lt_of_le (Vt.ext E43).lt (Nat.le_of_eq g44.symm)))).keep K61 nin0) (own_at4_b _ _ _ _ _) (v := (own_g [p2, p3, p4, p5, (own_t4 p0)] (own_at4 (own_e0 p1) (own_e (3 : Int32) p1) (own_e (6 : Int32) p1) (own_e (9 : Int32) p1) (0 : Int32)))) (own_getI [p2, p3, p4, p5, (own_t4 p0)] _) rfl rfl (hb hby at_266) ?_
      show sS p e below T62 m 267 #[iv p0, .val (.long p1), .second, iv p2, iv p3, iv p4, iv p5, iv 4, rv bd, rv bt, rv b43, rv b44, iv got, .unset, .unset, .unset, .unset] [(.int (own_g [p2, p3, p4, p5, (own_t4 p0)] (own_at4 (own_e0 p1) (own_e (3 : Int32) p1) (own_e (6 : Int32) p1) (own_e (9 : Int32) p1) (0 : Int32))))] _
      rw [← hna]
      show sS p e below T62 m 267 #[iv p0, .val (.long p1), .second, iv p2, iv p3, iv p4, iv p5, iv 4, rv bd, rv bt, rv b43, rv b44, iv got, .unset, .unset, .unset, .unset] [(.int na)] _
      refine XS.istore X62.here hx rfl (hb hby at_267) rfl (l' := #[iv p0, .val (.long p1), .second, iv p2, iv p3, iv p4, iv p5, iv 4, rv bd, rv bt, rv b43, rv b44, iv got, .unset, iv na, .unset, .unset]) rfl ?_
      refine XS.iload X62.here hx rfl (hb hby at_269) rfl ?_
      refine XS.iconst X62.here hx rfl (hb hby at_271) ?_
      refine XS.icmpYes X62.here hx rfl (pc0 := 272) (pc' := 282) rfl (hb hby at_272) rfl (by decide) (by decide) (by decide) ?_
      refine XS.aload X62.here hx rfl (hb hby at_282) rfl rfl ?_
      refine XS.aload X62.here hx rfl (hb hby at_284) rfl rfl ?_
      show sS p e below T62 m 286 #[iv p0, .val (.long p1), .second, iv p2, iv p3, iv p4, iv p5, iv 4, rv bd, rv bt, rv b43, rv b44, iv got, .unset, iv na, .unset, .unset] [(.ref bd), (.ref bt)] _
      refine XS.iload X62.here hx rfl (hb hby at_286) rfl ?_
      refine XS.iconst X62.here hx rfl (hb hby at_288) ?_
      show sS p e below T62 m 289 #[iv p0, .val (.long p1), .second, iv p2, iv p3, iv p4, iv p5, iv 4, rv bd, rv bt, rv b43, rv b44, iv got, .unset, iv na, .unset, .unset] [(.int (1 : Int32)), (.int (4 : Int32)), (.ref bd), (.ref bt)] _
      refine st63 _ ?_
      show sS p e below T63 m 292 #[iv p0, .val (.long p1), .second, iv p2, iv p3, iv p4, iv p5, iv 4, rv bd, rv bt, rv b43, rv b44, iv got, .unset, iv na, .unset, .unset] [(.int (own_at4 (own_e0 p1) (own_e (3 : Int32) p1) (own_e (6 : Int32) p1) (own_e (9 : Int32) p1) (1 : Int32))), (.ref bt)] _
      refine own_ldI X63 hx hZ eh63 (((((((((((Vt.ext E43).ext E44).other W46 (Nat.ne_of_lt (Nat.lt_of_lt_of_le Vt.lt (Nat.le_of_eq g43.symm)))).other W48 (Nat.ne_of_lt (Nat.lt_of_lt_of_le (Vt.ext E43).lt (Nat.le_of_eq g44.symm)))).other W50 (Nat.ne_of_lt (Nat.lt_of_lt_of_le Vt.lt (Nat.le_of_eq g43.symm)))).other W52 (Nat.ne_of_lt (Nat.lt_of_lt_of_le (Vt.ext E43).lt (Nat.le_of_eq g44.symm)))).other W54 (Nat.ne_of_lt (Nat.lt_of_lt_of_le Vt.lt (Nat.le_of_eq g43.symm)))).other W56 (Nat.ne_of_lt (Nat.lt_of_lt_of_le (Vt.ext E43).lt (Nat.le_of_eq g44.symm)))).other W58 (Nat.ne_of_lt (Nat.lt_of_lt_of_le Vt.lt (Nat.le_of_eq g43.symm)))).other W60 (Nat.ne_of_lt (Nat.lt_of_lt_of_le (Vt.ext E43).lt (Nat.le_of_eq g44.symm)))).keep K61 nin0) (own_at4_b _ _ _ _ _) (v := (own_g [p2, p3, p4, p5, (own_t4 p0)] (own_at4 (own_e0 p1) (own_e (3 : Int32) p1) (own_e (6 : Int32) p1) (own_e (9 : Int32) p1) (1 : Int32)))) (own_getI [p2, p3, p4, p5, (own_t4 p0)] _) rfl rfl (hb hby at_292) ?_
      show sS p e below T63 m 293 #[iv p0, .val (.long p1), .second, iv p2, iv p3, iv p4, iv p5, iv 4, rv bd, rv bt, rv b43, rv b44, iv got, .unset, iv na, .unset, .unset] [(.int (own_g [p2, p3, p4, p5, (own_t4 p0)] (own_at4 (own_e0 p1) (own_e (3 : Int32) p1) (own_e (6 : Int32) p1) (own_e (9 : Int32) p1) (1 : Int32))))] _
      rw [← hnb]
      show sS p e below T63 m 293 #[iv p0, .val (.long p1), .second, iv p2, iv p3, iv p4, iv p5, iv 4, rv bd, rv bt, rv b43, rv b44, iv got, .unset, iv na, .unset, .unset] [(.int nb)] _
      refine XS.istore X63.here hx rfl (hb hby at_293) rfl (l' := #[iv p0, .val (.long p1), .second, iv p2, iv p3, iv p4, iv p5, iv 4, rv bd, rv bt, rv b43, rv b44, iv got, .unset, iv na, iv nb, .unset]) rfl ?_
      refine XS.aload X63.here hx rfl (hb hby at_295) rfl rfl ?_
      refine XS.aload X63.here hx rfl (hb hby at_297) rfl rfl ?_
      refine XS.iload X63.here hx rfl (hb hby at_299) rfl ?_
      refine XS.iconst X63.here hx rfl (hb hby at_301) ?_
      show sS p e below T63 m 302 #[iv p0, .val (.long p1), .second, iv p2, iv p3, iv p4, iv p5, iv 4, rv bd, rv bt, rv b43, rv b44, iv got, .unset, iv na, iv nb, .unset] [(.int (2 : Int32)), (.int (4 : Int32)), (.ref bd), (.ref bt)] _
      refine st64 _ ?_
      show sS p e below T64 m 305 #[iv p0, .val (.long p1), .second, iv p2, iv p3, iv p4, iv p5, iv 4, rv bd, rv bt, rv b43, rv b44, iv got, .unset, iv na, iv nb, .unset] [(.int (own_at4 (own_e0 p1) (own_e (3 : Int32) p1) (own_e (6 : Int32) p1) (own_e (9 : Int32) p1) (2 : Int32))), (.ref bt)] _
      refine own_ldI X64 hx hZ eh64 (((((((((((Vt.ext E43).ext E44).other W46 (Nat.ne_of_lt (Nat.lt_of_lt_of_le Vt.lt (Nat.le_of_eq g43.symm)))).other W48 (Nat.ne_of_lt (Nat.lt_of_lt_of_le (Vt.ext E43).lt (Nat.le_of_eq g44.symm)))).other W50 (Nat.ne_of_lt (Nat.lt_of_lt_of_le Vt.lt (Nat.le_of_eq g43.symm)))).other W52 (Nat.ne_of_lt (Nat.lt_of_lt_of_le (Vt.ext E43).lt (Nat.le_of_eq g44.symm)))).other W54 (Nat.ne_of_lt (Nat.lt_of_lt_of_le Vt.lt (Nat.le_of_eq g43.symm)))).other W56 (Nat.ne_of_lt (Nat.lt_of_lt_of_le (Vt.ext E43).lt (Nat.le_of_eq g44.symm)))).other W58 (Nat.ne_of_lt (Nat.lt_of_lt_of_le Vt.lt (Nat.le_of_eq g43.symm)))).other W60 (Nat.ne_of_lt (Nat.lt_of_lt_of_le (Vt.ext E43).lt (Nat.le_of_eq g44.symm)))).keep K61 nin0) (own_at4_b _ _ _ _ _) (v := (own_g [p2, p3, p4, p5, (own_t4 p0)] (own_at4 (own_e0 p1) (own_e (3 : Int32) p1) (own_e (6 : Int32) p1) (own_e (9 : Int32) p1) (2 : Int32)))) (own_getI [p2, p3, p4, p5, (own_t4 p0)] _) rfl rfl (hb hby at_305) ?_
      show sS p e below T64 m 306 #[iv p0, .val (.long p1), .second, iv p2, iv p3, iv p4, iv p5, iv 4, rv bd, rv bt, rv b43, rv b44, iv got, .unset, iv na, iv nb, .unset] [(.int (own_g [p2, p3, p4, p5, (own_t4 p0)] (own_at4 (own_e0 p1) (own_e (3 : Int32) p1) (own_e (6 : Int32) p1) (own_e (9 : Int32) p1) (2 : Int32))))] _
      rw [← hnc]
      show sS p e below T64 m 306 #[iv p0, .val (.long p1), .second, iv p2, iv p3, iv p4, iv p5, iv 4, rv bd, rv bt, rv b43, rv b44, iv got, .unset, iv na, iv nb, .unset] [(.int nc)] _
      refine XS.istore X64.here hx rfl (hb hby at_306) rfl (l' := #[iv p0, .val (.long p1), .second, iv p2, iv p3, iv p4, iv p5, iv 4, rv bd, rv bt, rv b43, rv b44, iv got, .unset, iv na, iv nb, iv nc]) rfl ?_
      show sS p e below T64 m 308 #[iv p0, .val (.long p1), .second, iv p2, iv p3, iv p4, iv p5, iv 4, rv bd, rv bt, rv b43, rv b44, iv got, .unset, iv na, iv nb, iv nc] [] _
      refine sg_0_308_322_1 X64 hx hZ hw hby hown ?_
      show sS p e below T64 m 322 #[iv p0, .val (.long p1), .second, iv p2, iv p3, iv p4, iv p5, iv 4, rv bd, rv bt, rv b43, rv b44, iv got, .unset, iv na, iv nb, iv nc] [(.int (bif (if_icmp.holds .ne nb nc) then na else nb))] _
      refine XS.istore X64.here hx rfl (hb hby at_322) rfl (l' := #[iv p0, .val (.long p1), .second, iv p2, iv p3, iv p4, iv p5, iv 4, rv bd, rv bt, rv b43, rv b44, iv got, .val (.int (bif (if_icmp.holds .ne nb nc) then na else nb)), iv na, iv nb, iv nc]) rfl ?_
      refine XS.iload X64.here hx rfl (hb hby at_324) rfl ?_
      refine XS.iload X64.here hx rfl (hb hby at_326) rfl ?_
      refine XS.icmpNo X64.here hx rfl (hb hby at_328) rfl (by rw [hgot, hna, hnb, hnc]; exact own_law4 (own_e0 p1) (own_e (3 : Int32) p1) (own_e (6 : Int32) p1) (own_e (9 : Int32) p1) p2 p3 p4 p5 (own_t4 p0)) ?_
      refine XS.iconst X64.here hx rfl (hb hby at_331) ?_
      refine XS.goto X64.here hx rfl (pc0 := 332) (pc' := 336) rfl (hb hby at_332) (by decide) (by decide) ?_
      show sS p e below T64 m 336 #[iv p0, .val (.long p1), .second, iv p2, iv p3, iv p4, iv p5, iv 4, rv bd, rv bt, rv b43, rv b44, iv got, .val (.int (bif (if_icmp.holds .ne nb nc) then na else nb)), iv na, iv nb, iv nc] [(.int (1 : Int32))] _
      exact retN X64 hx (t := .boolean) Bd.returns (by simp) (hb hby at_336) hr
    · show Q0 Z p0 p1 p2 p3 p4 p5 h0 n0 _ T64.heap _
      rw [eh64]
      exact ⟨rfl, N64⟩
  · obtain ⟨T65, h65, k65, X65, e65, E65, A65, Ax65, st65⟩ := newPE X1 hx hZ (wK hw (i := 2) rfl) e1 (g := (mkF m 112 #[iv p0, .val (.long p1), .second, iv p2, iv p3, iv p4, iv p5, iv 5, rv bd, rv bt, .unset, .unset, .unset, .unset, .unset, .unset, .unset] [(.int (5 : Int32))])) rfl (hb hby at_112) rfl (by decide) (cap := 5) (by decide) (by decide) (by decide) (by decide) (ad := "[D") (by decide)
    obtain ⟨b65, g65⟩ : ∃ z, z = h1.size := ⟨_, rfl⟩
    rw [← g65] at A65 Ax65 st65
    have V65 : Arv Z h65 b65 k65 .double (5 : Int32) [(.double (0 : UInt64)), (.double (0 : UInt64)), (.double (0 : UInt64)), (.double (0 : UInt64)), (.double (0 : UInt64))] (.double (0 : UInt64)) := (Arv.new A65 (by decide)).pad (pad_rep [] (.double (0 : UInt64)) 5)
    obtain ⟨T66, h66, k66, X66, e66, E66, A66, Ax66, st66⟩ := newPE X65 hx hZ (wK hw (i := 0) rfl) e65 (g := (mkF m 118 #[iv p0, .val (.long p1), .second, iv p2, iv p3, iv p4, iv p5, iv 5, rv bd, rv bt, rv b65, .unset, .unset, .unset, .unset, .unset, .unset] [(.int (5 : Int32))])) rfl (hb hby at_118) rfl (by decide) (cap := 5) (by decide) (by decide) (by decide) (by decide) (ad := "[I") (by decide)
    obtain ⟨b66, g66⟩ : ∃ z, z = h65.size := ⟨_, rfl⟩
    rw [← g66] at A66 Ax66 st66
    have V66 : Arv Z h66 b66 k66 .int (5 : Int32) [(.int (0 : Int32)), (.int (0 : Int32)), (.int (0 : Int32)), (.int (0 : Int32)), (.int (0 : Int32))] (.int (0 : Int32)) := (Arv.new A66 (by decide)).pad (pad_rep [] (.int (0 : Int32)) 5)
    obtain ⟨cl67, Ar67, q67, S67, P67, Ha67, G67⟩ := (V65.ext E66)
    have hin67 : ¬ ((0 : Int32) < 0 ∨ cl67.slots.size ≤ ((0 : Int32)).toNatClampNeg) := inb_of S67 ⟨by decide, by decide⟩
    obtain ⟨T68, h68, X68, e68, W68, st68⟩ := stD X66 hx hZ e66 Ar67 (j := (0 : Int32)) hin67 (g := (mkF m 135 #[iv p0, .val (.long p1), .second, iv p2, iv p3, iv p4, iv p5, iv 5, rv bd, rv bt, rv b65, rv b66, .unset, .unset, .unset, .unset, .unset] [(.double (FP.i2d (own_e0 p1))), (.int (0 : Int32)), (.ref b65)])) rfl rfl (hb hby at_135)
    have V68 : Arv Z h68 b65 k65 .double (5 : Int32) [(.double (FP.i2d (own_e0 p1))), (.double (0 : UInt64)), (.double (0 : UInt64)), (.double (0 : UInt64)), (.double (0 : UInt64))] (.double (0 : UInt64)) := Arv.set Ar67 q67 S67 P67 Ha67 G67 rfl W68 0 rfl (Nat.le_of_ble_eq_true rfl)
    have N68 := Fr.snoc X68 N1 (Nat.le_trans Z0 (Nat.le_trans (Nat.le_trans (Nat.le_refl _) K1.1) (Nat.le_of_eq g65.symm)))
    obtain ⟨cl69, Ar69, q69, S69, P69, Ha69, G69⟩ := (V66.other W68 (Ne.symm (Nat.ne_of_lt (Nat.lt_of_lt_of_le Ax65.lt (Nat.le_of_eq g66.symm)))))
    have hin69 : ¬ ((0 : Int32) < 0 ∨ cl69.slots.size ≤ ((0 : Int32)).toNatClampNeg) := inb_of S69 ⟨by decide, by decide⟩
    obtain ⟨T70, h70, X70, e70, W70, st70⟩ := stI X68 hx hZ e68 Ar69 (j := (0 : Int32)) hin69 (g := (mkF m 143 #[iv p0, .val (.long p1), .second, iv p2, iv p3, iv p4, iv p5, iv 5, rv bd, rv bt, rv b65, rv b66, .unset, .unset, .unset, .unset, .unset] [(.int p2), (.int (0 : Int32)), (.ref b66)])) rfl rfl (hb hby at_143)
    have V70 : Arv Z h70 b66 k66 .int (5 : Int32) [(.int p2), (.int (0 : Int32)), (.int (0 : Int32)), (.int (0 : Int32)), (.int (0 : Int32))] (.int (0 : Int32)) := Arv.set Ar69 q69 S69 P69 Ha69 G69 rfl W70 0 rfl (Nat.le_of_ble_eq_true rfl)
    have N70 := Fr.snoc X70 N68 (Nat.le_trans Z0 (Nat.le_trans (Nat.le_trans (Nat.le_trans (Nat.le_refl _) K1.1) E65.1) (Nat.le_of_eq g66.symm)))
    obtain ⟨cl71, Ar71, q71, S71, P71, Ha71, G71⟩ := (V68.other W70 (Nat.ne_of_lt (Nat.lt_of_lt_of_le Ax65.lt (Nat.le_of_eq g66.symm))))
    have hin71 : ¬ ((1 : Int32) < 0 ∨ cl71.slots.size ≤ ((1 : Int32)).toNatClampNeg) := inb_of S71 ⟨by decide, by decide⟩
    obtain ⟨T72, h72, X72, e72, W72, st72⟩ := stD X70 hx hZ e70 Ar71 (j := (1 : Int32)) hin71 (g := (mkF m 158 #[iv p0, .val (.long p1), .second, iv p2, iv p3, iv p4, iv p5, iv 5, rv bd, rv bt, rv b65, rv b66, .unset, .unset, .unset, .unset, .unset] [(.double (FP.i2d (own_e (3 : Int32) p1))), (.int (1 : Int32)), (.ref b65)])) rfl rfl (hb hby at_158)
    have V72 : Arv Z h72 b65 k65 .double (5 : Int32) [(.double (FP.i2d (own_e0 p1))), (.double (FP.i2d (own_e (3 : Int32) p1))), (.double (0 : UInt64)), (.double (0 : UInt64)), (.double (0 : UInt64))] (.double (0 : UInt64)) := Arv.set Ar71 q71 S71 P71 Ha71 G71 rfl W72 1 rfl (Nat.le_of_ble_eq_true rfl)
    have N72 := Fr.snoc X72 N70 (Nat.le_trans Z0 (Nat.le_trans (Nat.le_trans (Nat.le_refl _) K1.1) (Nat.le_of_eq g65.symm)))
    obtain ⟨cl73, Ar73, q73, S73, P73, Ha73, G73⟩ := (V70.other W72 (Ne.symm (Nat.ne_of_lt (Nat.lt_of_lt_of_le Ax65.lt (Nat.le_of_eq g66.symm)))))
    have hin73 : ¬ ((1 : Int32) < 0 ∨ cl73.slots.size ≤ ((1 : Int32)).toNatClampNeg) := inb_of S73 ⟨by decide, by decide⟩
    obtain ⟨T74, h74, X74, e74, W74, st74⟩ := stI X72 hx hZ e72 Ar73 (j := (1 : Int32)) hin73 (g := (mkF m 166 #[iv p0, .val (.long p1), .second, iv p2, iv p3, iv p4, iv p5, iv 5, rv bd, rv bt, rv b65, rv b66, .unset, .unset, .unset, .unset, .unset] [(.int p3), (.int (1 : Int32)), (.ref b66)])) rfl rfl (hb hby at_166)
    have V74 : Arv Z h74 b66 k66 .int (5 : Int32) [(.int p2), (.int p3), (.int (0 : Int32)), (.int (0 : Int32)), (.int (0 : Int32))] (.int (0 : Int32)) := Arv.set Ar73 q73 S73 P73 Ha73 G73 rfl W74 1 rfl (Nat.le_of_ble_eq_true rfl)
    have N74 := Fr.snoc X74 N72 (Nat.le_trans Z0 (Nat.le_trans (Nat.le_trans (Nat.le_trans (Nat.le_refl _) K1.1) E65.1) (Nat.le_of_eq g66.symm)))
    obtain ⟨cl75, Ar75, q75, S75, P75, Ha75, G75⟩ := (V72.other W74 (Nat.ne_of_lt (Nat.lt_of_lt_of_le Ax65.lt (Nat.le_of_eq g66.symm))))
    have hin75 : ¬ ((2 : Int32) < 0 ∨ cl75.slots.size ≤ ((2 : Int32)).toNatClampNeg) := inb_of S75 ⟨by decide, by decide⟩
    obtain ⟨T76, h76, X76, e76, W76, st76⟩ := stD X74 hx hZ e74 Ar75 (j := (2 : Int32)) hin75 (g := (mkF m 181 #[iv p0, .val (.long p1), .second, iv p2, iv p3, iv p4, iv p5, iv 5, rv bd, rv bt, rv b65, rv b66, .unset, .unset, .unset, .unset, .unset] [(.double (FP.i2d (own_e (6 : Int32) p1))), (.int (2 : Int32)), (.ref b65)])) rfl rfl (hb hby at_181)
    have V76 : Arv Z h76 b65 k65 .double (5 : Int32) [(.double (FP.i2d (own_e0 p1))), (.double (FP.i2d (own_e (3 : Int32) p1))), (.double (FP.i2d (own_e (6 : Int32) p1))), (.double (0 : UInt64)), (.double (0 : UInt64))] (.double (0 : UInt64)) := Arv.set Ar75 q75 S75 P75 Ha75 G75 rfl W76 2 rfl (Nat.le_of_ble_eq_true rfl)
    have N76 := Fr.snoc X76 N74 (Nat.le_trans Z0 (Nat.le_trans (Nat.le_trans (Nat.le_refl _) K1.1) (Nat.le_of_eq g65.symm)))
    obtain ⟨cl77, Ar77, q77, S77, P77, Ha77, G77⟩ := (V74.other W76 (Ne.symm (Nat.ne_of_lt (Nat.lt_of_lt_of_le Ax65.lt (Nat.le_of_eq g66.symm)))))
    have hin77 : ¬ ((2 : Int32) < 0 ∨ cl77.slots.size ≤ ((2 : Int32)).toNatClampNeg) := inb_of S77 ⟨by decide, by decide⟩
    obtain ⟨T78, h78, X78, e78, W78, st78⟩ := stI X76 hx hZ e76 Ar77 (j := (2 : Int32)) hin77 (g := (mkF m 189 #[iv p0, .val (.long p1), .second, iv p2, iv p3, iv p4, iv p5, iv 5, rv bd, rv bt, rv b65, rv b66, .unset, .unset, .unset, .unset, .unset] [(.int p4), (.int (2 : Int32)), (.ref b66)])) rfl rfl (hb hby at_189)
    have V78 : Arv Z h78 b66 k66 .int (5 : Int32) [(.int p2), (.int p3), (.int p4), (.int (0 : Int32)), (.int (0 : Int32))] (.int (0 : Int32)) := Arv.set Ar77 q77 S77 P77 Ha77 G77 rfl W78 2 rfl (Nat.le_of_ble_eq_true rfl)
    have N78 := Fr.snoc X78 N76 (Nat.le_trans Z0 (Nat.le_trans (Nat.le_trans (Nat.le_trans (Nat.le_refl _) K1.1) E65.1) (Nat.le_of_eq g66.symm)))
    obtain ⟨cl79, Ar79, q79, S79, P79, Ha79, G79⟩ := (V76.other W78 (Nat.ne_of_lt (Nat.lt_of_lt_of_le Ax65.lt (Nat.le_of_eq g66.symm))))
    have hin79 : ¬ ((3 : Int32) < 0 ∨ cl79.slots.size ≤ ((3 : Int32)).toNatClampNeg) := inb_of S79 ⟨by decide, by decide⟩
    obtain ⟨T80, h80, X80, e80, W80, st80⟩ := stD X78 hx hZ e78 Ar79 (j := (3 : Int32)) hin79 (g := (mkF m 204 #[iv p0, .val (.long p1), .second, iv p2, iv p3, iv p4, iv p5, iv 5, rv bd, rv bt, rv b65, rv b66, .unset, .unset, .unset, .unset, .unset] [(.double (FP.i2d (own_e (9 : Int32) p1))), (.int (3 : Int32)), (.ref b65)])) rfl rfl (hb hby at_204)
    have V80 : Arv Z h80 b65 k65 .double (5 : Int32) [(.double (FP.i2d (own_e0 p1))), (.double (FP.i2d (own_e (3 : Int32) p1))), (.double (FP.i2d (own_e (6 : Int32) p1))), (.double (FP.i2d (own_e (9 : Int32) p1))), (.double (0 : UInt64))] (.double (0 : UInt64)) := Arv.set Ar79 q79 S79 P79 Ha79 G79 rfl W80 3 rfl (Nat.le_of_ble_eq_true rfl)
    have N80 := Fr.snoc X80 N78 (Nat.le_trans Z0 (Nat.le_trans (Nat.le_trans (Nat.le_refl _) K1.1) (Nat.le_of_eq g65.symm)))
    obtain ⟨cl81, Ar81, q81, S81, P81, Ha81, G81⟩ := (V78.other W80 (Ne.symm (Nat.ne_of_lt (Nat.lt_of_lt_of_le Ax65.lt (Nat.le_of_eq g66.symm)))))
    have hin81 : ¬ ((3 : Int32) < 0 ∨ cl81.slots.size ≤ ((3 : Int32)).toNatClampNeg) := inb_of S81 ⟨by decide, by decide⟩
    obtain ⟨T82, h82, X82, e82, W82, st82⟩ := stI X80 hx hZ e80 Ar81 (j := (3 : Int32)) hin81 (g := (mkF m 212 #[iv p0, .val (.long p1), .second, iv p2, iv p3, iv p4, iv p5, iv 5, rv bd, rv bt, rv b65, rv b66, .unset, .unset, .unset, .unset, .unset] [(.int p5), (.int (3 : Int32)), (.ref b66)])) rfl rfl (hb hby at_212)
    have V82 : Arv Z h82 b66 k66 .int (5 : Int32) [(.int p2), (.int p3), (.int p4), (.int p5), (.int (0 : Int32))] (.int (0 : Int32)) := Arv.set Ar81 q81 S81 P81 Ha81 G81 rfl W82 3 rfl (Nat.le_of_ble_eq_true rfl)
    have N82 := Fr.snoc X82 N80 (Nat.le_trans Z0 (Nat.le_trans (Nat.le_trans (Nat.le_trans (Nat.le_refl _) K1.1) E65.1) (Nat.le_of_eq g66.symm)))
    obtain ⟨cl83, Ar83, q83, S83, P83, Ha83, G83⟩ := (V80.other W82 (Nat.ne_of_lt (Nat.lt_of_lt_of_le Ax65.lt (Nat.le_of_eq g66.symm))))
    have hin83 : ¬ ((4 : Int32) < 0 ∨ cl83.slots.size ≤ ((4 : Int32)).toNatClampNeg) := inb_of S83 ⟨by decide, by decide⟩
    obtain ⟨T84, h84, X84, e84, W84, st84⟩ := stD X82 hx hZ e82 Ar83 (j := (4 : Int32)) hin83 (g := (mkF m 227 #[iv p0, .val (.long p1), .second, iv p2, iv p3, iv p4, iv p5, iv 5, rv bd, rv bt, rv b65, rv b66, .unset, .unset, .unset, .unset, .unset] [(.double (FP.i2d (own_e (12 : Int32) p1))), (.int (4 : Int32)), (.ref b65)])) rfl rfl (hb hby at_227)
    have V84 : Arv Z h84 b65 k65 .double (5 : Int32) [(.double (FP.i2d (own_e0 p1))), (.double (FP.i2d (own_e (3 : Int32) p1))), (.double (FP.i2d (own_e (6 : Int32) p1))), (.double (FP.i2d (own_e (9 : Int32) p1))), (.double (FP.i2d (own_e (12 : Int32) p1)))] (.double (0 : UInt64)) := Arv.set Ar83 q83 S83 P83 Ha83 G83 rfl W84 4 rfl (Nat.le_of_ble_eq_true rfl)
    have N84 := Fr.snoc X84 N82 (Nat.le_trans Z0 (Nat.le_trans (Nat.le_trans (Nat.le_refl _) K1.1) (Nat.le_of_eq g65.symm)))
    obtain ⟨cl85, Ar85, q85, S85, P85, Ha85, G85⟩ := (V82.other W84 (Ne.symm (Nat.ne_of_lt (Nat.lt_of_lt_of_le Ax65.lt (Nat.le_of_eq g66.symm)))))
    have hin85 : ¬ ((4 : Int32) < 0 ∨ cl85.slots.size ≤ ((4 : Int32)).toNatClampNeg) := inb_of S85 ⟨by decide, by decide⟩
    obtain ⟨T86, h86, X86, e86, W86, st86⟩ := stI X84 hx hZ e84 Ar85 (j := (4 : Int32)) hin85 (g := (mkF m 235 #[iv p0, .val (.long p1), .second, iv p2, iv p3, iv p4, iv p5, iv 5, rv bd, rv bt, rv b65, rv b66, .unset, .unset, .unset, .unset, .unset] [(.int (own_t4 p0)), (.int (4 : Int32)), (.ref b66)])) rfl rfl (hb hby at_235)
    have V86 : Arv Z h86 b66 k66 .int (5 : Int32) [(.int p2), (.int p3), (.int p4), (.int p5), (.int (own_t4 p0))] (.int (0 : Int32)) := Arv.set Ar85 q85 S85 P85 Ha85 G85 rfl W86 4 rfl (Nat.le_of_ble_eq_true rfl)
    have N86 := Fr.snoc X86 N84 (Nat.le_trans Z0 (Nat.le_trans (Nat.le_trans (Nat.le_trans (Nat.le_refl _) K1.1) E65.1) (Nat.le_of_eq g66.symm)))
    obtain ⟨_, _, ⟨T87, L87, k87, n87⟩, -, X87, ⟨Lc87, hQ87, l87, y87, z87⟩, st87⟩ := Jvm.LawKit.callS X86 hx (y := ⟨cN1, "typeByNeighbours", "([D[I)I"⟩) hown (mvT hZ (wK hw (i := 3) rfl)) (mvT hZ (wK hw (i := 4) rfl)) (mvT hZ (wK hw (i := 5) rfl)) (mvT hZ (wK hw (i := 6) rfl)) (by decide) (backOf (W := 0) (rmtb5 l Z a0 hw [] b65 k65 b66 k66 (own_e0 p1) (own_e (3 : Int32) p1) (own_e (6 : Int32) p1) (own_e (9 : Int32) p1) (own_e (12 : Int32) p1) p2 p3 p4 p5 (own_t4 p0) h86 n0 (Nat.le_trans (Nat.le_trans (Nat.le_trans (Nat.le_trans (Nat.le_trans (Nat.le_trans (Nat.le_trans (Nat.le_trans (Nat.le_trans (Nat.le_trans (Nat.le_trans (Nat.le_trans (Nat.le_trans Z0 K1.1) E65.1) E66.1) (Keep.of_wr W68).1) (Keep.of_wr W70).1) (Keep.of_wr W72).1) (Keep.of_wr W74).1) (Keep.of_wr W76).1) (Keep.of_wr W78).1) (Keep.of_wr W80).1) (Keep.of_wr W82).1) (Keep.of_wr W84).1) (Keep.of_wr W86).1) (V84.other W86 (Nat.ne_of_lt (Nat.lt_of_lt_of_le Ax65.lt (Nat.le_of_eq g66.symm)))) V86) hZ (wK hw (i := 6) rfl) (wK hw (i := 5) rfl) (by decide) (by decide)) (g := (mkF m 240 #[iv p0, .val (.long p1), .second, iv p2, iv p3, iv p4, iv p5, iv 5, rv bd, rv bt, rv b65, rv b66, .unset, .unset, .unset, .unset, .unset] [(.ref b66), (.ref b65)])) rfl (by rw [hml]; rfl) (argsL := [(.ref b65), (.ref b66)]) (rest := []) (lenOf pd_7 rfl) rfl (Nat.le_of_eq rfl) (hb hby at_240) (fun _ _ => ⟨rfl, e86, (by decide : 4 + 1 ≤ _), (by decide : 20 + 3 ≤ _)⟩)
    dsimp only [Pt.U, Pt.locs, Pt.cells, Pt.slots] at X87 l87 y87 z87 st87 hQ87
    subst l87 y87 z87
    obtain ⟨rfl, N87q, K87⟩ := hQ87
    have N87 := Fr.app N86 N87q
    obtain ⟨got, hgot⟩ : ∃ q : Int32, q = (own_res5 (own_e0 p1) (own_e (3 : Int32) p1) (own_e (6 : Int32) p1) (own_e (9 : Int32) p1) (own_e (12 : Int32) p1) p2 p3 p4 p5 (own_t4 p0)) := ⟨_, rfl⟩
    obtain ⟨_, _, ⟨T88, L88, k88, n88⟩, -, X88, ⟨Lc88, hQ88, l88, y88, z88⟩, st88⟩ := Jvm.LawKit.callS X87 hx (y := ⟨cN0, "at", "([III)I"⟩) hown (mvT hZ (wK hw (i := 22) rfl)) (mvT hZ (wK hw (i := 23) rfl)) (mvT hZ (wK hw (i := 24) rfl)) (mvT hZ (wK hw (i := 25) rfl)) (by decide) (backOf (W := 1) (rmat5 l Z a0 hw [] bd k1 (own_e0 p1) (own_e (3 : Int32) p1) (own_e (6 : Int32) p1) (own_e (9 : Int32) p1) (own_e (12 : Int32) p1) (0 : Int32) T87.heap n0 (Nat.le_trans (Nat.le_trans (Nat.le_trans (Nat.le_trans (Nat.le_trans (Nat.le_trans (Nat.le_trans (Nat.le_trans (Nat.le_trans (Nat.le_trans (Nat.le_trans (Nat.le_trans (Nat.le_trans (Nat.le_trans Z0 K1.1) E65.1) E66.1) (Keep.of_wr W68).1) (Keep.of_wr W70).1) (Keep.of_wr W72).1) (Keep.of_wr W74).1) (Keep.of_wr W76).1) (Keep.of_wr W78).1) (Keep.of_wr W80).1) (Keep.of_wr W82).1) (Keep.of_wr W84).1) (Keep.of_wr W86).1) K87.1) (((((((((((((Vd.ext E65).ext E66).other W68 (Nat.ne_of_lt (Nat.lt_of_lt_of_le Vd.lt (Nat.le_of_eq g65.symm)))).other W70 (Nat.ne_of_lt (Nat.lt_of_lt_of_le (Vd.ext E65).lt (Nat.le_of_eq g66.symm)))).other W72 (Nat.ne_of_lt (Nat.lt_of_lt_of_le Vd.lt (Nat.le_of_eq g65.symm)))).other W74 (Nat.ne_of_lt (Nat.lt_of_lt_of_le (Vd.ext E65).lt (Nat.le_of_eq g66.symm)))).other W76 (Nat.ne_of_lt (Nat.lt_of_lt_of_le Vd.lt (Nat.le_of_eq g65.symm)))).other W78 (Nat.ne_of_lt (Nat.lt_of_lt_of_le (Vd.ext E65).lt (Nat.le_of_eq g66.symm)))).other W80 (Nat.ne_of_lt (Nat.lt_of_lt_of_le Vd.lt (Nat.le_of_eq g65.symm)))).other W82 (Nat.ne_of_lt (Nat.lt_of_lt_of_le (Vd.ext E65).lt (Nat.le_of_eq g66.symm)))).other W84 (Nat.ne_of_lt (Nat.lt_of_lt_of_le Vd.lt (Nat.le_of_eq g65.symm)))).other W86 (Nat.ne_of_lt (Nat.lt_of_lt_of_le (Vd.ext E65).lt (Nat.le_of_eq g66.symm)))).keep K87 nin0)) hZ (wK hw (i := 25) rfl) (wK hw (i := 24) rfl) (by decide) (by decide)) (g := (mkF m 263 #[iv p0, .val (.long p1), .second, iv p2, iv p3, iv p4, iv p5, iv 5, rv bd, rv bt, rv b65, rv b66, iv got, .unset, .unset, .unset, .unset] [(.int (0 : Int32)), (.int (5 : Int32)), (.ref bd), (.ref bt)])) rfl (by rw [hml]; rfl) (argsL := [(.ref bd), (.int (5 : Int32)), (.int (0 : Int32))]) (rest := [(.ref bt)]) (lenOf pd_3 rfl) rfl (Nat.le_of_eq rfl) (hb hby at_263) (fun _ _ => ⟨rfl, rfl, (by decide : 5 + 0 ≤ _), (by decide : 23 + 0 ≤ _)⟩)
    dsimp only [Pt.U, Pt.locs, Pt.cells, Pt.slots] at X88 l88 y88 z88 st88 hQ88
    subst l88 y88 z88
    obtain ⟨rfl, N88q, eh88⟩ := hQ88
    have N88 := Fr.app N87 N88q
    obtain ⟨na, hna⟩ : ∃ q : Int32, q = (own_g [p2, p3, p4, p5, (own_t4 p0)] (own_at5 (own_e0 p1) (own_e (3 : Int32) p1) (own_e (6 : Int32) p1) (own_e (9 : Int32) p1) (own_e (12 : Int32) p1) (0 : Int32))) := ⟨_, rfl⟩
    obtain ⟨_, _, ⟨T89, L89, k89, n89⟩, -, X89, ⟨Lc89, hQ89, l89, y89, z89⟩, st89⟩ := Jvm.LawKit.callS X88 hx (y := ⟨cN0, "at", "([III)I"⟩) hown (mvT hZ (wK hw (i := 22) rfl)) (mvT hZ (wK hw (i := 23) rfl)) (mvT hZ (wK hw (i := 24) rfl)) (mvT hZ (wK hw (i := 25) rfl)) (by decide) (backOf (W := 1) (rmat5 l Z a0 hw [] bd k1 (own_e0 p1) (own_e (3 : Int32) p1) (own_e (6 : Int32) p1) (own_e (9 : Int32) p1) (own_e (12 : Int32) p1) (1 : Int32) T87.heap n0 (Nat.le_trans (Nat.le_trans (Nat.le_trans (Nat.le_trans (Nat.le_trans (Nat.le_trans (Nat.le_trans (Nat.le_trans (Nat.le_trans (Nat.le_trans (Nat.le_trans (Nat.le_trans (Nat.le_trans (Nat.le_trans Z0 K1.1) E65.1) E66.1) (Keep.of_wr W68).1) (Keep.of_wr W70).1) (Keep.of_wr W72).1) (Keep.of_wr W74).1) (Keep.of_wr W76).1) (Keep.of_wr W78).1) (Keep.of_wr W80).1) (Keep.of_wr W82).1) (Keep.of_wr W84).1) (Keep.of_wr W86).1) K87.1) (((((((((((((Vd.ext E65).ext E66).other W68 (Nat.ne_of_lt (Nat.lt_of_lt_of_le Vd.lt (Nat.le_of_eq g65.symm)))).other W70 (Nat.ne_of_lt (Nat.lt_of_lt_of_le (Vd.ext E65).lt (Nat.le_of_eq g66.symm)))).other W72 (Nat.ne_of_lt (Nat.lt_of_lt_of_le Vd.lt (Nat.le_of_eq g65.symm)))).other W74 (Nat.ne_of_lt (Nat.lt_of_lt_of_le (Vd.ext E65).lt (Nat.le_of_eq g66.symm)))).other W76 (Nat.ne_of_lt (Nat.lt_of_lt_of_le Vd.lt (Nat.le_of_eq g65.symm)))).other W78 (Nat.ne_of_lt (Nat.lt_of_lt_of_le (Vd.ext E65).lt (Nat.le_of_eq g66.symm)))).other W80 (Nat.ne_of_lt (Nat.lt_of_lt_of_le Vd.lt (Nat.le_of_eq g65.symm)))).other W82 (Nat.ne_of_lt (Nat.lt_of_lt_of_le (Vd.ext E65).lt (Nat.le_of_eq g66.symm)))).other W84 (Nat.ne_of_lt (Nat.lt_of_lt_of_le Vd.lt (Nat.le_of_eq g65.symm)))).other W86 (Nat.ne_of_lt (Nat.lt_of_lt_of_le (Vd.ext E65).lt (Nat.le_of_eq g66.symm)))).keep K87 nin0)) hZ (wK hw (i := 25) rfl) (wK hw (i := 24) rfl) (by decide) (by decide)) (g := (mkF m 289 #[iv p0, .val (.long p1), .second, iv p2, iv p3, iv p4, iv p5, iv 5, rv bd, rv bt, rv b65, rv b66, iv got, .unset, iv na, .unset, .unset] [(.int (1 : Int32)), (.int (5 : Int32)), (.ref bd), (.ref bt)])) rfl (by rw [hml]; rfl) (argsL := [(.ref bd), (.int (5 : Int32)), (.int (1 : Int32))]) (rest := [(.ref bt)]) (lenOf pd_3 rfl) rfl (Nat.le_of_eq rfl) (hb hby at_289) (fun _ _ => ⟨rfl, eh88, (by decide : 5 + 0 ≤ _), (by decide : 23 + 0 ≤ _)⟩)
    dsimp only [Pt.U, Pt.locs, Pt.cells, Pt.slots] at X89 l89 y89 z89 st89 hQ89
    subst l89 y89 z89
    obtain ⟨rfl, N89q, eh89⟩ := hQ89
    have N89 := Fr.app N88 N89q
    obtain ⟨nb, hnb⟩ : ∃ q : Int32, q = (own_g [p2, p3, p4, p5, (own_t4 p0)] (own_at5 (own_e0 p1) (own_e (3 : Int32) p1) (own_e (6 : Int32) p1) (own_e (9 : Int32) p1) (own_e (12 : Int32) p1) (1 : Int32))) := ⟨_, rfl⟩
    obtain ⟨_, _, ⟨T90, L90, k90, n90⟩, -, X90, ⟨Lc90, hQ90, l90, y90, z90⟩, st90⟩ := Jvm.LawKit.callS X89 hx (y := ⟨cN0, "at", "([III)I"⟩) hown (mvT hZ (wK hw (i := 22) rfl)) (mvT hZ (wK hw (i := 23) rfl)) (mvT hZ (wK hw (i := 24) rfl)) (mvT hZ (wK hw (i := 25) rfl)) (by decide) (backOf (W := 1) (rmat5 l Z a0 hw [] bd k1 (own_e0 p1) (own_e (3 : Int32) p1) (own_e (6 : Int32) p1) (own_e (9 : Int32) p1) (own_e (12 : Int32) p1) (2 : Int32) T87.heap n0 (Nat.le_trans (Nat.le_trans (Nat.le_trans (Nat.le_trans (Nat.le_trans (Nat.le_trans (Nat.le_trans (Nat.le_trans (Nat.le_trans (Nat.le_trans (Nat.le_trans (Nat.le_trans (Nat.le_trans (Nat.le_trans Z0 K1.1) E65.1) E66.1) (Keep.of_wr W68).1) (Keep.of_wr W70).1) (Keep.of_wr W72).1) (Keep.of_wr W74).1) (Keep.of_wr W76).1) (Keep.of_wr W78).1) (Keep.of_wr W80).1) (Keep.of_wr W82).1) (Keep.of_wr W84).1) (Keep.of_wr W86).1) K87.1) (((((((((((((Vd.ext E65).ext E66).other W68 (Nat.ne_of_lt (Nat.lt_of_lt_of_le Vd.lt (Nat.le_of_eq g65.symm)))).other W70 (Nat.ne_of_lt (Nat.lt_of_lt_of_le (Vd.ext E65).lt (Nat.le_of_eq g66.symm)))).other W72 (Nat.ne_of_lt (Nat.lt_of_lt_of_le Vd.lt (Nat.le_of_eq g65.symm)))).other W74 (Nat.ne_of_lt (Nat.lt_of_lt_of_le (Vd.ext E65).lt (Nat.le_of_eq g66.symm)))).other W76 (Nat.ne_of_lt (Nat.lt_of_lt_of_le Vd.lt (Nat.le_of_eq g65.symm)))).other W78 (Nat.ne_of_lt (Nat.lt_of_lt_of_le (Vd.ext E65).lt (Nat.le_of_eq g66.symm)))).other W80 (Nat.ne_of_lt (Nat.lt_of_lt_of_le Vd.lt (Nat.le_of_eq g65.symm)))).other W82 (Nat.ne_of_lt (Nat.lt_of_lt_of_le (Vd.ext E65).lt (Nat.le_of_eq g66.symm)))).other W84 (Nat.ne_of_lt (Nat.lt_of_lt_of_le Vd.lt (Nat.le_of_eq g65.symm)))).other W86 (Nat.ne_of_lt (Nat.lt_of_lt_of_le (Vd.ext E65).lt (Nat.le_of_eq g66.symm)))).keep K87 nin0)) hZ (wK hw (i := 25) rfl) (wK hw (i := 24) rfl) (by decide) (by decide)) (g := (mkF m 302 #[iv p0, .val (.long p1), .second, iv p2, iv p3, iv p4, iv p5, iv 5, rv bd, rv bt, rv b65, rv b66, iv got, .unset, iv na, iv nb, .unset] [(.int (2 : Int32)), (.int (5 : Int32)), (.ref bd), (.ref bt)])) rfl (by rw [hml]; rfl) (argsL := [(.ref bd), (.int (5 : Int32)), (.int (2 : Int32))]) (rest := [(.ref bt)]) (lenOf pd_3 rfl) rfl (Nat.le_of_eq rfl) (hb hby at_302) (fun _ _ => ⟨rfl, eh89, (by decide : 5 + 0 ≤ _), (by decide : 23 + 0 ≤ _)⟩)
    dsimp only [Pt.U, Pt.locs, Pt.cells, Pt.slots] at X90 l90 y90 z90 st90 hQ90
    subst l90 y90 z90
    obtain ⟨rfl, N90q, eh90⟩ := hQ90
    have N90 := Fr.app N89 N90q
    obtain ⟨nc, hnc⟩ : ∃ q : Int32, q = (own_g [p2, p3, p4, p5, (own_t4 p0)] (own_at5 (own_e0 p1) (own_e (3 : Int32) p1) (own_e (6 : Int32) p1) (own_e (9 : Int32) p1) (own_e (12 : Int32) p1) (2 : Int32))) := ⟨_, rfl⟩
    obtain ⟨fs, hr, hrun, hended, hW, hsame⟩ := X90.leave (v := some (.int (nar .boolean (1 : Int32)))) (fun h => by rw [Bd.returns] at h; cases h)
    refine ⟨_, _, pre0 _ ?_, hrun, hended, _, _, rfl, ?_, ⟨_, rfl⟩, hW, hsame.mono (by decide) (by decide)⟩
    · show sS p e below s₁ m 0 #[iv p0, .val (.long p1), .second, iv p2, iv p3, iv p4, iv p5, .unset, .unset, .unset, .unset, .unset, .unset, .unset, .unset, .unset, .unset] [] _
      refine st1 _ ?_
      show sS p e below T1 m 110 #[iv p0, .val (.long p1), .second, iv p2, iv p3, iv p4, iv p5, .val (.int (own_n p0)), rv bd, rv bt, .unset, .unset, .unset, .unset, .unset, .unset, .unset] [] _
      rw [hn]
      show sS p e below T1 m 110 #[iv p0, .val (.long p1), .second, iv p2, iv p3, iv p4, iv p5, iv 5, rv bd, rv bt, .unset, .unset, .unset, .unset, .unset, .unset, .unset] [] _
      refine XS.iload X1.here hx rfl (hb hby at_110) rfl ?_
      show sS p e below T1 m 112 #[iv p0, .val (.long p1), .second, iv p2, iv p3, iv p4, iv p5, iv 5, rv bd, rv bt, .unset, .unset, .unset, .unset, .unset, .unset, .unset] [(.int (5 : Int32))] _
      refine st65 _ ?_
      show sS p e below T65 m 114 #[iv p0, .val (.long p1), .second, iv p2, iv p3, iv p4, iv p5, iv 5, rv bd, rv bt, .unset, .unset, .unset, .unset, .unset, .unset, .unset] [(.ref b65)] _
      refine XS.astore X65.here hx rfl (hb hby at_114) rfl rfl (l' := #[iv p0, .val (.long p1), .second, iv p2, iv p3, iv p4, iv p5, iv 5, rv bd, rv bt, rv b65, .unset, .unset, .unset, .unset, .unset, .unset]) rfl ?_
      refine XS.iload X65.here hx rfl (hb hby at_116) rfl ?_
      show sS p e below T65 m 118 #[iv p0, .val (.long p1), .second, iv p2, iv p3, iv p4, iv p5, iv 5, rv bd, rv bt, rv b65, .unset, .unset, .unset, .unset, .unset, .unset] [(.int (5 : Int32))] _
      refine st66 _ ?_
      show sS p e below T66 m 120 #[iv p0, .val (.long p1), .second, iv p2, iv p3, iv p4, iv p5, iv 5, rv bd, rv bt, rv b65, .unset, .unset, .unset, .unset, .unset, .unset] [(.ref b66)] _
      refine XS.astore X66.here hx rfl (hb hby at_120) rfl rfl (l' := #[iv p0, .val (.long p1), .second, iv p2, iv p3, iv p4, iv p5, iv 5, rv bd, rv bt, rv b65, rv b66, .unset, .unset, .unset, .unset, .unset]) rfl ?_
      refine XS.iload X66.here hx rfl (hb hby at_122) rfl ?_
      refine XS.ifNo X66.here hx rfl (hb hby at_124) rfl (by decide) ?_
      refine XS.aload X66.here hx rfl (hb hby at_127) rfl rfl ?_
      refine XS.iconst X66.here hx rfl (hb hby at_129) ?_
      refine XS.aload X66.here hx rfl (hb hby at_130) rfl rfl ?_
      show sS p e below T66 m 132 #[iv p0, .val (.long p1), .second, iv p2, iv p3, iv p4, iv p5, iv 5, rv bd, rv bt, rv b65, rv b66, .unset, .unset, .unset, .unset, .unset] [(.ref bd), (.int (0 : Int32)), (.ref b65)] _
      refine XS.iconst X66.here hx rfl (hb hby at_132) ?_
      refine own_ldI X66 hx hZ e66 ((Vd.ext E65).ext E66) ⟨by decide, by decide⟩ (v := (own_e0 p1)) rfl rfl rfl (hb hby at_133) ?_
      refine XS.i2dS X66.here hx rfl (hb hby at_134) rfl rfl ?_
      show sS p e below T66 m 135 #[iv p0, .val (.long p1), .second, iv p2, iv p3, iv p4, iv p5, iv 5, rv bd, rv bt, rv b65, rv b66, .unset, .unset, .unset, .unset, .unset] [(.double (FP.i2d (own_e0 p1))), (.int (0 : Int32)), (.ref b65)] _
      refine st68 _ ?_
      show sS p e below T68 m 136 #[iv p0, .val (.long p1), .second, iv p2, iv p3, iv p4, iv p5, iv 5, rv bd, rv bt, rv b65, rv b66, .unset, .unset, .unset, .unset, .unset] [] _
      refine XS.aload X68.here hx rfl (hb hby at_136) rfl rfl ?_
      refine XS.iconst X68.here hx rfl (hb hby at_138) ?_
      refine XS.aload X68.here hx rfl (hb hby at_139) rfl rfl ?_
      refine XS.iconst X68.here hx rfl (hb hby at_141) ?_
      refine own_ldI X68 hx hZ e68 (((Vt.ext E65).ext E66).other W68 (Nat.ne_of_lt (Nat.lt_of_lt_of_le Vt.lt (Nat.le_of_eq g65.symm)))) ⟨by decide, by decide⟩ (v := p2) rfl rfl rfl (hb hby at_142) ?_
      show sS p e below T68 m 143 #[iv p0, .val (.long p1), .second, iv p2, iv p3, iv p4, iv p5, iv 5, rv bd, rv bt, rv b65, rv b66, .unset, .unset, .unset, .unset, .unset] [(.int p2), (.int (0 : Int32)), (.ref b66)] _
      refine st70 _ ?_
      show sS p e below T70 m 144 #[iv p0, .val (.long p1), .second, iv p2, iv p3, iv p4, iv p5, iv 5, rv bd, rv bt, rv b65, rv b66, .unset, .unset, .unset, .unset, .unset] [] _
      refine XS.iload X70.here hx rfl (hb hby at_144) rfl ?_
      refine XS.iconst X70.here hx rfl (hb hby at_146) ?_
      refine XS.icmpNo X70.here hx rfl (hb hby at_147) rfl (by decide) ?_
      refine XS.aload X70.here hx rfl (hb hby at_150) rfl rfl ?_
      refine XS.iconst X70.here hx rfl (hb hby at_152) ?_
      refine XS.aload X70.here hx rfl (hb hby at_153) rfl rfl ?_
      show sS p e below T70 m 155 #[iv p0, .val (.long p1), .second, iv p2, iv p3, iv p4, iv p5, iv 5, rv bd, rv bt, rv b65, rv b66, .unset, .unset, .unset, .unset, .unset] [(.ref bd), (.int (1 : Int32)), (.ref b65)] _
      refine XS.iconst X70.here hx rfl (hb hby at_155) ?_
      refine own_ldI X70 hx hZ e70 ((((Vd.ext E65).ext E66).other W68 (Nat.ne_of_lt (Nat.lt_of_lt_of_le Vd.lt (Nat.le_of_eq g65.symm)))).other W70 (Nat.ne_of_lt (Nat.lt_of_lt_of_le (Vd.ext E65).lt (Nat.le_of_eq g66.symm)))) ⟨by decide, by decide⟩ (v := (own_e (3 : Int32) p1)) rfl rfl rfl (hb hby at_156) ?_
      refine XS.i2dS X70.here hx rfl (hb hby at_157) rfl rfl ?_
      show sS p e below T70 m 158 #[iv p0, .val (.long p1), .second, iv p2, iv p3, iv p4, iv p5, iv 5, rv bd, rv bt, rv b65, rv b66, .unset, .unset, .unset, .unset, .unset] [(.double (FP.i2d (own_e (3 : Int32) p1))), (.int (1 : Int32)), (.ref b65)] _
      refine st72 _ ?_
      show sS p e below T72 m 159 #[iv p0, .val (.long p1), .second, iv p2, iv p3, iv p4, iv p5, iv 5, rv bd, rv bt, rv b65, rv b66, .unset, .unset, .unset, .unset, .unset] [] _
      refine XS.aload X72.here hx rfl (hb hby at_159) rfl rfl ?_
      refine XS.iconst X72.here hx rfl (hb hby at_161) ?_
      refine XS.aload X72.here hx rfl (hb hby at_162) rfl rfl ?_
      refine XS.iconst X72.here hx rfl (hb hby at_164) ?_
      refine own_ldI X72 hx hZ e72 (((((Vt.ext E65).ext E66).other W68 (Nat.ne_of_lt (Nat.lt_of_lt_of_le Vt.lt (Nat.le_of_eq g65.symm)))).other W70 (Nat.ne_of_lt (Nat.lt_of_lt_of_le (Vt.ext E65).lt (Nat.le_of_eq g66.symm)))).other W72 (Nat.ne_of_lt (Nat.lt_of_lt_of_le Vt.lt (Nat.le_of_eq g65.symm)))) ⟨by decide, by decide⟩ (v := p3) rfl rfl rfl (hb hby at_165) ?_
      show sS p e below T72 m 166 #[iv p0, .val (.long p1), .second, iv p2, iv p3, iv p4, iv p5, iv 5, rv bd, rv bt, rv b65, rv b66, .unset, .unset, .unset, .unset, .unset] [(.int p3), (.int (1 : Int32)), (.ref b66)] _
      refine st74 _ ?_
      show sS p e below T74 m 167 #[iv p0, .val (.long p1), .second, iv p2, iv p3, iv p4, iv p5, iv 5, rv bd, rv bt, rv b65, rv b66, .unset, .unset, .unset, .unset, .unset] [] _
      refine XS.iload X74.here hx rfl (hb hby at_167) rfl ?_
      refine XS.iconst X74.here hx rfl (hb hby at_169) ?_
      refine XS.icmpNo X74.here hx rfl (hb hby at_170) rfl (by decide) ?_
      refine XS.aload X74.here hx rfl (hb hby at_173) rfl rfl ?_
      refine XS.iconst X74.here hx rfl (hb hby at_175) ?_
      refine XS.aload X74.here hx rfl (hb hby at_176) rfl rfl ?_
      show sS p e below T74 m 178 #[iv p0, .val (.long p1), .second, iv p2, iv p3, iv p4, iv p5, iv 5, rv bd, rv bt, rv b65, rv b66, .unset, .unset, .unset, .unset, .unset] [(.ref bd), (.int (2 : Int32)), (.ref b65)] _
      refine XS.iconst X74.here hx rfl (hb hby at_178) ?_
      refine own_ldI X74 hx hZ e74 ((((((Vd.ext E65).ext E66).other W68 (Nat.ne_of_lt (Nat.lt_of_lt_of_le Vd.lt (Nat.le_of_eq g65.symm)))).other W70 (Nat.ne_of_lt (Nat.lt_of_lt_of_le (Vd.ext E65).lt (Nat.le_of_eq g66.symm)))).other W72 (Nat.ne_of_lt (Nat.lt_of_lt_of_le Vd.lt (Nat.le_of_eq g65.symm)))).other W74 (Nat.ne_of_lt (Nat.lt_of_lt_of_le (Vd.ext E65).lt (Nat.le_of_eq g66.symm)))) ⟨by decide, by decide⟩ (v := (own_e (6 : Int32) p1)) rfl rfl rfl (hb hby at_179) ?_
      refine XS.i2dS X74.here hx rfl (hb hby at_180) rfl rfl ?_
      show sS p e below T74 m 181 #[iv p0, .val (.long p1), .second, iv p2, iv p3, iv p4, iv p5, iv 5, rv bd, rv bt, rv b65, rv b66, .unset, .unset, .unset, .unset, .unset] [(.double (FP.i2d (own_e (6 : Int32) p1))), (.int (2 : Int32)), (.ref b65)] _
      refine st76 _ ?_
      show sS p e below T76 m 182 #[iv p0, .val (.long p1), .second, iv p2, iv p3, iv p4, iv p5, iv 5, rv bd, rv bt, rv b65, rv b66, .unset, .unset, .unset, .unset, .unset] [] _
      refine XS.aload X76.here hx rfl (hb hby at_182) rfl rfl ?_
      refine XS.iconst X76.here hx rfl (hb hby at_184) ?_
      refine XS.aload X76.here hx rfl (hb hby at_185) rfl rfl ?_
      refine XS.iconst X76.here hx rfl (hb hby at_187) ?_
      refine own_ldI X76 hx hZ e76 (((((((Vt.ext E65).ext E66).other W68 (Nat.ne_of_lt (Nat.lt_of_lt_of_le Vt.lt (Nat.le_of_eq g65.symm)))).other W70 (Nat.ne_of_lt (Nat.lt_of_lt_of_le (Vt.ext E65).lt (Nat.le_of_eq g66.symm)))).other W72 (Nat.ne_of_lt (Nat.lt_of_lt_of_le Vt.lt (Nat.le_of_eq g65.symm)))).other W74 (Nat.ne_of_lt (Nat.lt_of_lt_of_le (Vt.ext E65).lt (Nat.le_of_eq g66.symm)))).other W76 (Nat.ne_of_lt (Nat.lt_of_lt_of_le Vt.lt (Nat.le_of_eq g65.symm)))) ⟨by decide, by decide⟩ (v := p4) rfl rfl rfl (hb hby at_188) ?_
      show sS p e below T76 m 189 #[iv p0, .val (.long p1), .second, iv p2, iv p3, iv p4, iv p5, iv 5, rv bd, rv bt, rv b65, rv b66, .unset, .unset, .unset, .unset, .unset] [(.int p4), (.int (2 : Int32)), (.ref b66)] _
      refine st78 _ ?_
      show sS p e below T78 m 190 #[iv p0, .val (.long p1), .second, iv p2, iv p3, iv p4, iv p5, iv 5, rv bd, rv bt, rv b65, rv b66, .unset, .unset, .unset, .unset, .unset] [] _
      refine XS.iload X78.here hx rfl (hb hby at_190) rfl ?_
      refine XS.iconst X78.here hx rfl (hb hby at_192) ?_
      refine XS.icmpNo X78.here hx rfl (hb hby at_193) rfl (by decide) ?_
      refine XS.aload X78.here hx rfl (hb hby at_196) rfl rfl ?_
      refine XS.iconst X78.here hx rfl (hb hby at_198) ?_
      refine XS.aload X78.here hx rfl (hb hby at_199) rfl rfl ?_
      show sS p e below T78 m 201 #[iv p0, .val (.long p1), .second, iv p2, iv p3, iv p4, iv p5, iv 5, rv bd, rv bt, rv b65, rv b66, .unset, .unset, .unset, .unset, .unset] [(.ref bd), (.int (3 : Int32)), (.ref b65)] _
      refine XS.iconst X78.here hx rfl (hb hby at_201) ?_
      refine own_ldI X78 hx hZ e78 ((((((((Vd.ext E65).ext E66).other W68 (Nat.ne_of_lt (Nat.lt_of_lt_of_le Vd.lt (Nat.le_of_eq g65.symm)))).other W70 (Nat.ne_of_lt (Nat.lt_of_lt_of_le (Vd.ext E65).lt (Nat.le_of_eq g66.symm)))).other W72 (Nat.ne_of_lt (Nat.lt_of_lt_of_le Vd.lt (Nat.le_of_eq g65.symm)))).other W74 (Nat.ne_of_lt (Nat.lt_of_lt_of_le (Vd.ext E65).lt (Nat.le_of_eq g66.symm)))).other W76 (Nat.ne_of_lt (Nat.lt_of_lt_of_le Vd.lt (Nat.le_of_eq g65.symm)))).other W78 (Nat.ne_of_lt (Nat.lt_of_lt_of_le (Vd.ext E65).lt (Nat.le_of_eq g66.symm)))) ⟨by decide, by decide⟩ (v := (own_e (9 : Int32) p1)) rfl rfl rfl (hb hby at_202) ?_
      refine XS.i2dS X78.here hx rfl (hb hby at_203) rfl rfl ?_
      show sS p e below T78 m 204 #[iv p0, .val (.long p1), .second, iv p2, iv p3, iv p4, iv p5, iv 5, rv bd, rv bt, rv b65, rv b66, .unset, .unset, .unset, .unset, .unset] [(.double (FP.i2d (own_e (9 : Int32) p1))), (.int (3 : Int32)), (.ref b65)] _
      refine st80 _ ?_
      show sS p e below T80 m 205 #[iv p0, .val (.long p1), .second, iv p2, iv p3, iv p4, iv p5, iv 5, rv bd, rv bt, rv b65, rv b66, .unset, .unset, .unset, .unset, .unset] [] _
      refine XS.aload X80.here hx rfl (hb hby at_205) rfl rfl ?_
      refine XS.iconst X80.here hx rfl (hb hby at_207) ?_
      refine XS.aload X80.here hx rfl (hb hby at_208) rfl rfl ?_
      refine XS.iconst X80.here hx rfl (hb hby at_210) ?_
      refine own_ldI X80 hx hZ e80 (((((((((Vt.ext E65).ext E66).other W68 (Nat.ne_of_lt (Nat.lt_of_lt_of_le Vt.lt (Nat.le_of_eq g65.symm)))).other W70 (Nat.ne_of_lt (Nat.lt_of_lt_of_le (Vt.ext E65).lt (Nat.le_of_eq g66.symm)))).other W72 (Nat.ne_of_lt (Nat.lt_of_lt_of_le Vt.lt (Nat.le_of_eq g65.symm)))).other W74 (Nat.ne_of_lt (Nat.lt_of_lt_of_le (Vt.ext E65).lt (Nat.le_of_eq g66.symm)))).other W76 (Nat.ne_of_lt (Nat.lt_of_lt_of_le Vt.lt (Nat.le_of_eq g65.symm)))).other W78 (Nat.ne_of_lt (Nat.lt_of_lt_of_le (Vt.ext E65).lt (Nat.le_of_eq g66.symm)))).other W80 (Nat.ne_of_lt (Nat.lt_of_lt_of_le Vt.lt (Nat.le_of_eq g65.symm)))) ⟨by decide, by decide⟩ (v := p5) rfl rfl rfl (hb hby at_211) ?_
      show sS p e below T80 m 212 #[iv p0, .val (.long p1), .second, iv p2, iv p3, iv p4, iv p5, iv 5, rv bd, rv bt, rv b65, rv b66, .unset, .unset, .unset, .unset, .unset] [(.int p5), (.int (3 : Int32)), (.ref b66)] _
      refine st82 _ ?_
      show sS p e below T82 m 213 #[iv p0, .val (.long p1), .second, iv p2, iv p3, iv p4, iv p5, iv 5, rv bd, rv bt, rv b65, rv b66, .unset, .unset, .unset, .unset, .unset] [] _
      refine XS.iload X82.here hx rfl (hb hby at_213) rfl ?_
      refine XS.iconst X82.here hx rfl (hb hby at_215) ?_
      refine XS.icmpNo X82.here hx rfl (hb hby at_216) rfl (by decide) ?_
      refine XS.aload X82.here hx rfl (hb hby at_219) rfl rfl ?_
      refine XS.iconst X82.here hx rfl (hb hby at_221) ?_
      refine XS.aload X82.here hx rfl (hb hby at_222) rfl rfl ?_
      show sS p e below T82 m 224 #[iv p0, .val (.long p1), .second, iv p2, iv p3, iv p4, iv p5, iv 5, rv bd, rv bt, rv b65, rv b66, .unset, .unset, .unset, .unset, .unset] [(.ref bd), (.int (4 : Int32)), (.ref b65)] _
      refine XS.iconst X82.here hx rfl (hb hby at_224) ?_
      refine own_ldI X82 hx hZ e82 ((((((((((Vd.ext E65).ext E66).other W68 (Nat.ne_of_lt (Nat.lt_of_lt_of_le Vd.lt (Nat.le_of_eq g65.symm)))).other W70 (Nat.ne_of_lt (Nat.lt_of_lt_of_le (Vd.ext E65).lt (Nat.le_of_eq g66.symm)))).other W72 (Nat.ne_of_lt (Nat.lt_of_lt_of_le Vd.lt (Nat.le_of_eq g65.symm)))).other W74 (Nat.ne_of_lt (Nat.lt_of_lt_of_le (Vd.ext E65).lt (Nat.le_of_eq g66.symm)))).other W76 (Nat.ne_of_lt (Nat.lt_of_lt_of_le Vd.lt (Nat.le_of_eq g65.symm)))).other W78 (Nat.ne_of_lt (Nat.lt_of_lt_of_le (Vd.ext E65).lt (Nat.le_of_eq g66.symm)))).other W80 (Nat.ne_of_lt (Nat.lt_of_lt_of_le Vd.lt (Nat.le_of_eq g65.symm)))).other W82 (Nat.ne_of_lt (Nat.lt_of_lt_of_le (Vd.ext E65).lt (Nat.le_of_eq g66.symm)))) ⟨by decide, by decide⟩ (v := (own_e (12 : Int32) p1)) rfl rfl rfl (hb hby at_225) ?_
      refine XS.i2dS X82.here hx rfl (hb hby at_226) rfl rfl ?_
      show sS p e below T82 m 227 #[iv p0, .val (.long p1), .second, iv p2, iv p3, iv p4, iv p5, iv 5, rv bd, rv bt, rv b65, rv b66, .unset, .unset, .unset, .unset, .unset] [(.double (FP.i2d (own_e (12 : Int32) p1))), (.int (4 : Int32)), (.ref b65)] _
      refine st84 _ ?_
      show sS p e below T84 m 228 #[iv p0, .val (.long p1), .second, iv p2, iv p3, iv p4, iv p5, iv 5, rv bd, rv bt, rv b65, rv b66, .unset, .unset, .unset, .unset, .unset] [] _
      refine XS.aload X84.here hx rfl (hb hby at_228) rfl rfl ?_
      refine XS.iconst X84.here hx rfl (hb hby at_230) ?_
      refine XS.aload X84.here hx rfl (hb hby at_231) rfl rfl ?_
      refine XS.iconst X84.here hx rfl (hb hby at_233) ?_
      refine own_ldI X84 hx hZ e84 (((((((((((Vt.ext E65).ext E66).other W68 (Nat.ne_of_lt (Nat.lt_of_lt_of_le Vt.lt (Nat.le_of_eq g65.symm)))).other W70 (Nat.ne_of_lt (Nat.lt_of_lt_of_le (Vt.ext E65).lt (Nat.le_of_eq g66.symm)))).other W72 (Nat.ne_of_lt (Nat.lt_of_lt_of_le Vt.lt (Nat.le_of_eq g65.symm)))).other W74 (Nat.ne_of_lt (Nat.lt_of_lt_of_le (Vt.ext E65).lt (Nat.le_of_eq g66.symm)))).other W76 (Nat.ne_of_lt (Nat.lt_of_lt_of_le Vt.lt (Nat.le_of_eq g65.symm)))).other W78 (Nat.ne_of_lt (Nat.lt_of_lt_of_le (Vt.ext E65).lt (Nat.le_of_eq g66.symm)))).other W80 (Nat.ne_of_lt (Nat.lt_of_lt_of_le Vt.lt (Nat.le_of_eq g65.symm)))).other W82 (Nat.ne_of_lt (Nat.lt_of_lt_of_le (Vt.ext E65).lt (Nat.le_of_eq g66.symm)))).other W84 (Nat.ne_of_lt (Nat.lt_of_lt_of_le Vt.lt (Nat.le_of_eq g65.symm)))) ⟨by decide, by decide⟩ (v := (own_t4 p0)) rfl rfl rfl (hb hby at_234) ?_
      show sS p e below T84 m 235 #[iv p0, .val (.long p1), .second, iv p2, iv p3, iv p4, iv p5, iv 5, rv bd, rv bt, rv b65, rv b66, .unset, .unset, .unset, .unset, .unset] [(.int (own_t4 p0)), (.int (4 : Int32)), (.ref b66)] _
      refine st86 _ ?_
      show sS p e below T86 m 236 #[iv p0, .val (.long p1), .second, iv p2, iv p3, iv p4, iv p5, iv 5, rv bd, rv bt, rv b65, rv b66, .unset, .unset, .unset, .unset, .unset] [] _
      refine XS.aload X86.here hx rfl (hb hby at_236) rfl rfl ?_
      refine XS.aload X86.here hx rfl (hb hby at_238) rfl rfl ?_
      show sS p e below T86 m 240 #[iv p0, .val (.long p1), .second, iv p2, iv p3, iv p4, iv p5, iv 5, rv bd, rv bt, rv b65, rv b66, .unset, .unset, .unset, .unset, .unset] [(.ref b66), (.ref b65)] _
      refine st87 _ ?_
      show sS p e below T87 m 243 #[iv p0, .val (.long p1), .second, iv p2, iv p3, iv p4, iv p5, iv 5, rv bd, rv bt, rv b65, rv b66, .unset, .unset, .unset, .unset, .unset] [(.int (own_res5 (own_e0 p1) (own_e (3 : Int32) p1) (own_e (6 : Int32) p1) (own_e (9 : Int32) p1) (own_e (12 : Int32) p1) p2 p3 p4 p5 (own_t4 p0)))] _
      rw [← hgot]
      show sS p e below T87 m 243 #[iv p0, .val (.long p1), .second, iv p2, iv p3, iv p4, iv p5, iv 5, rv bd, rv bt, rv b65, rv b66, .unset, .unset, .unset, .unset, .unset] [(.int got)] _
      refine XS.istore X87.here hx rfl (hb hby at_243) rfl (l' := #[iv p0, .val (.long p1), .second, iv p2, iv p3, iv p4, iv p5, iv 5, rv bd, rv bt, rv b65, rv b66, iv got, .unset, .unset, .unset, .unset]) rfl ?_
      refine XS.iload X87.here hx rfl (hb hby at_245) rfl ?_
      refine XS.ifYes X87.here hx rfl (pc0 := 247) (pc' := 256) rfl (hb hby at_247) rfl (by decide) (by decide) (by decide) ?_
      refine XS.aload X87.here hx rfl (hb hby at_256) rfl rfl ?_
      refine XS.aload X87.here hx rfl (hb hby at_258) rfl rfl ?_
      refine XS.iload X87.here hx rfl (hb hby at_260) rfl ?_
      show sS p e below T87 m 262 #[iv p0, .val (.long p1), .second, iv p2, iv p3, iv p4, iv p5, iv 5, rv bd, rv bt, rv b65, rv b66, iv got, .unset, .unset, .unset, .unset] [(.int (5 : Int32)), (.ref bd), (.ref bt)] _
      refine XS.iconst X87.here hx rfl (hb hby at_262) ?_
      show sS p e below T87 m 263 #[iv p0, .val (.long p1), .second, iv p2, iv p3, iv p4, iv p5, iv 5, rv bd, rv bt, rv b65, rv b66, iv got, .unset, .unset, .unset, .unset] [(.int (0 : Int32)), (.int (5 : Int32)), (.ref bd), (.ref bt)] _
      refine st88 _ ?_
      show sS p e below T88 m 266 #[iv p0, .val (.long p1), .second, iv p2, iv p3, iv p4, iv p5, iv 5, rv bd, rv bt, rv b65, rv b66, iv got, .unset, .unset, .unset, .unset] [(.int (own_at5 (own_e0 p1) (own_e (3 : Int32) p1) (own_e (6 : Int32) p1) (own_e (9 : Int32) p1) (own_e (12 : Int32) p1) (0 : Int32))), (.ref bt)] _
      refine own_ldI X88 hx hZ eh88 (((((((((((((Vt.ext E65).ext E66).other W68 (Nat.ne_of_lt (Nat.lt_of_lt_of_le Vt.lt (Nat.le_of_eq g65.symm)))).other W70 (Nat.ne_of_lt (Nat.lt_of_lt_of_le (Vt.ext E65).lt (Nat.le_of_eq g66.symm)))).other W72 (Nat.ne_of_lt (Nat.lt_of_lt_of_le Vt.lt (Nat.le_of_eq g65.symm)))).other W74 (Nat.ne_of_lt (Nat.lt_of_lt_of_le (Vt.ext E65).lt (Nat.le_of_eq g66.symm)))).other W76 (Nat.ne_of_lt (Nat.lt_of_lt_of_le Vt.lt (Nat.le_of_eq g65.symm)))).other W78 (Nat.ne_of_lt (Nat.lt_of_lt_of_le (Vt.ext E65).lt (Nat.le_of_eq g66.symm)))).other W80 (Nat.ne_of_lt (Nat.lt_of_lt_of_le Vt.lt (Nat.le_of_eq g65.symm)))).other W82 (Nat.ne_of_lt (Nat.lt_of_lt_of_le (Vt.ext E65).lt (Nat.le_of_eq g66.symm)))).other W84 (Nat.ne_of_lt (Nat.lt_of_lt_of_le Vt.lt (Nat.le_of_eq g65.symm)))).other W86 (Nat.ne_of_lt (Nat.lt_of_lt_of_le (Vt.ext E65).lt (Nat.le_of_eq g66.symm)))).keep K87 nin0) (own_at5_b _ _ _ _ _ _) (v := (own_g [p2, p3, p4, p5, (own_t4 p0)] (own_at5 (own_e0 p1) (own_e (3 : Int32) p1) (own_e (6 : Int32) p1) (own_e (9 : Int32) p1) (own_e (12 : Int32) p1) (0 : Int32)))) (own_getI [p2, p3, p4, p5, (own_t4 p0)] _) rfl rfl (hb hby at_266) ?_
      show sS p e below T88 m 267 #[iv p0, .val (.long p1), .second, iv p2, iv p3, iv p4, iv p5, iv 5, rv bd, rv bt, rv b65, rv b66, iv got, .unset, .unset, .unset, .unset] [(.int (own_g [p2, p3, p4, p5, (own_t4 p0)] (own_at5 (own_e0 p1) (own_e (3 : Int32) p1) (own_e (6 : Int32) p1) (own_e (9 : Int32) p1) (own_e (12 : Int32) p1) (0 : Int32))))] _
      rw [← hna]
      show sS p e below T88 m 267 #[iv p0, .val (.long p1), .second, iv p2, iv p3, iv p4, iv p5, iv 5, rv bd, rv bt, rv b65, rv b66, iv got, .unset, .unset, .unset, .unset] [(.int na)] _
      refine XS.istore X88.here hx rfl (hb hby at_267) rfl (l' := #[iv p0, .val (.long p1), .second, iv p2, iv p3, iv p4, iv p5, iv 5, rv bd, rv bt, rv b65, rv b66, iv got, .unset, iv na, .unset, .unset]) rfl ?_
      refine XS.iload X88.here hx rfl (hb hby at_269) rfl ?_
      refine XS.iconst X88.here hx rfl (hb hby at_271) ?_
      refine XS.icmpYes X88.here hx rfl (pc0 := 272) (pc' := 282) rfl (hb hby at_272) rfl (by decide) (by decide) (by decide) ?_
      refine XS.aload X88.here hx rfl (hb hby at_282) rfl rfl ?_
      refine XS.aload X88.here hx rfl (hb hby at_284) rfl rfl ?_
      show sS p e below T88 m 286 #[iv p0, .val (.long p1), .second, iv p2, iv p3, iv p4, iv p5, iv 5, rv bd, rv bt, rv b65, rv b66, iv got, .unset, iv na, .unset, .unset] [(.ref bd), (.ref bt)] _
      refine XS.iload X88.here hx rfl (hb hby at_286) rfl ?_
      refine XS.iconst X88.here hx rfl (hb hby at_288) ?_
      show sS p e below T88 m 289 #[iv p0, .val (.long p1), .second, iv p2, iv p3, iv p4, iv p5, iv 5, rv bd, rv bt, rv b65, rv b66, iv got, .unset, iv na, .unset, .unset] [(.int (1 : Int32)), (.int (5 : Int32)), (.ref bd), (.ref bt)] _
      refine st89 _ ?_
      show sS p e below T89 m 292 #[iv p0, .val (.long p1), .second, iv p2, iv p3, iv p4, iv p5, iv 5, rv bd, rv bt, rv b65, rv b66, iv got, .unset, iv na, .unset, .unset] [(.int (own_at5 (own_e0 p1) (own_e (3 : Int32) p1) (own_e (6 : Int32) p1) (own_e (9 : Int32) p1) (own_e (12 : Int32) p1) (1 : Int32))), (.ref bt)] _
      refine own_ldI X89 hx hZ eh89 (((((((((((((Vt.ext E65).ext E66).other W68 (Nat.ne_of_lt (Nat.lt_of_lt_of_le Vt.lt (Nat.le_of_eq g65.symm)))).other W70 (Nat.ne_of_lt (Nat.lt_of_lt_of_le (Vt.ext E65).lt (Nat.le_of_eq g66.symm)))).other W72 (Nat.ne_of_lt (Nat.lt_of_lt_of_le Vt.lt (Nat.le_of_eq g65.symm)))).other W74 (Nat.ne_of_lt (Nat.lt_of_lt_of_le (Vt.ext E65).lt (Nat.le_of_eq g66.symm)))).other W76 (Nat.ne_of_lt (Nat.lt_of_lt_of_le Vt.lt (Nat.le_of_eq g65.symm)))).other W78 (Nat.ne_of_lt (Nat.lt_of_lt_of_le (Vt.ext E65).lt (Nat.le_of_eq g66.symm)))).other W80 (Nat.ne_of_lt (Nat.lt_of_lt_of_le Vt.lt (Nat.le_of_eq g65.symm)))).other W82 (Nat.ne_of_lt (Nat.lt_of_lt_of_le (Vt.ext E65).lt (Nat.le_of_eq g66.symm)))).other W84 (Nat.ne_of_lt (Nat.lt_of_lt_of_le Vt.lt (Nat.le_of_eq g65.symm)))).other W86 (Nat.ne_of_lt (Nat.lt_of_lt_of_le (Vt.ext E65).lt (Nat.le_of_eq g66.symm)))).keep K87 nin0) (own_at5_b _ _ _ _ _ _) (v := (own_g [p2, p3, p4, p5, (own_t4 p0)] (own_at5 (own_e0 p1) (own_e (3 : Int32) p1) (own_e (6 : Int32) p1) (own_e (9 : Int32) p1) (own_e (12 : Int32) p1) (1 : Int32)))) (own_getI [p2, p3, p4, p5, (own_t4 p0)] _) rfl rfl (hb hby at_292) ?_
      show sS p e below T89 m 293 #[iv p0, .val (.long p1), .second, iv p2, iv p3, iv p4, iv p5, iv 5, rv bd, rv bt, rv b65, rv b66, iv got, .unset, iv na, .unset, .unset] [(.int (own_g [p2, p3, p4, p5, (own_t4 p0)] (own_at5 (own_e0 p1) (own_e (3 : Int32) p1) (own_e (6 : Int32) p1) (own_e (9 : Int32) p1) (own_e (12 : Int32) p1) (1 : Int32))))] _
      rw [← hnb]
      show sS p e below T89 m 293 #[iv p0, .val (.long p1), .second, iv p2, iv p3, iv p4, iv p5, iv 5, rv bd, rv bt, rv b65, rv b66, iv got, .unset, iv na, .unset, .unset] [(.int nb)] _
      refine XS.istore X89.here hx rfl (hb hby at_293) rfl (l' := #[iv p0, .val (.long p1), .second, iv p2, iv p3, iv p4, iv p5, iv 5, rv bd, rv bt, rv b65, rv b66, iv got, .unset, iv na, iv nb, .unset]) rfl ?_
      refine XS.aload X89.here hx rfl (hb hby at_295) rfl rfl ?_
      refine XS.aload X89.here hx rfl (hb hby at_297) rfl rfl ?_
      refine XS.iload X89.here hx rfl (hb hby at_299) rfl ?_
      refine XS.iconst X89.here hx rfl (hb hby at_301) ?_
      show sS p e below T89 m 302 #[iv p0, .val (.long p1), .second, iv p2, iv p3, iv p4, iv p5, iv 5, rv bd, rv bt, rv b65, rv b66, iv got, .unset, iv na, iv nb, .unset] [(.int (2 : Int32)), (.int (5 : Int32)), (.ref bd), (.ref bt)] _
      refine st90 _ ?_
      show sS p e below T90 m 305 #[iv p0, .val (.long p1), .second, iv p2, iv p3, iv p4, iv p5, iv 5, rv bd, rv bt, rv b65, rv b66, iv got, .unset, iv na, iv nb, .unset] [(.int (own_at5 (own_e0 p1) (own_e (3 : Int32) p1) (own_e (6 : Int32) p1) (own_e (9 : Int32) p1) (own_e (12 : Int32) p1) (2 : Int32))), (.ref bt)] _
      refine own_ldI X90 hx hZ eh90 (((((((((((((Vt.ext E65).ext E66).other W68 (Nat.ne_of_lt (Nat.lt_of_lt_of_le Vt.lt (Nat.le_of_eq g65.symm)))).other W70 (Nat.ne_of_lt (Nat.lt_of_lt_of_le (Vt.ext E65).lt (Nat.le_of_eq g66.symm)))).other W72 (Nat.ne_of_lt (Nat.lt_of_lt_of_le Vt.lt (Nat.le_of_eq g65.symm)))).other W74 (Nat.ne_of_lt (Nat.lt_of_lt_of_le (Vt.ext E65).lt (Nat.le_of_eq g66.symm)))).other W76 (Nat.ne_of_lt (Nat.lt_of_lt_of_le Vt.lt (Nat.le_of_eq g65.symm)))).other W78 (Nat.ne_of_lt (Nat.lt_of_lt_of_le (Vt.ext E65).lt (Nat.le_of_eq g66.symm)))).other W80 (Nat.ne_of_lt (Nat.lt_of_lt_of_le Vt.lt (Nat.le_of_eq g65.symm)))).other W82 (Nat.ne_of_lt (Nat.lt_of_lt_of_le (Vt.ext E65).lt (Nat.le_of_eq g66.symm)))).other W84 (Nat.ne_of_lt (Nat.lt_of_lt_of_le Vt.lt (Nat.le_of_eq g65.symm)))).other W86 (Nat.ne_of_lt (Nat.lt_of_lt_of_le (Vt.ext E65).lt (Nat.le_of_eq g66.symm)))).keep K87 nin0) (own_at5_b _ _ _ _ _ _) (v := (own_g [p2, p3, p4, p5, (own_t4 p0)] (own_at5 (own_e0 p1) (own_e (3 : Int32) p1) (own_e (6 : Int32) p1) (own_e (9 : Int32) p1) (own_e (12 : Int32) p1) (2 : Int32)))) (own_getI [p2, p3, p4, p5, (own_t4 p0)] _) rfl rfl (hb hby at_305) ?_
      show sS p e below T90 m 306 #[iv p0, .val (.long p1), .second, iv p2, iv p3, iv p4, iv p5, iv 5, rv bd, rv bt, rv b65, rv b66, iv got, .unset, iv na, iv nb, .unset] [(.int (own_g [p2, p3, p4, p5, (own_t4 p0)] (own_at5 (own_e0 p1) (own_e (3 : Int32) p1) (own_e (6 : Int32) p1) (own_e (9 : Int32) p1) (own_e (12 : Int32) p1) (2 : Int32))))] _
      rw [← hnc]
      show sS p e below T90 m 306 #[iv p0, .val (.long p1), .second, iv p2, iv p3, iv p4, iv p5, iv 5, rv bd, rv bt, rv b65, rv b66, iv got, .unset, iv na, iv nb, .unset] [(.int nc)] _
      refine XS.istore X90.here hx rfl (hb hby at_306) rfl (l' := #[iv p0, .val (.long p1), .second, iv p2, iv p3, iv p4, iv p5, iv 5, rv bd, rv bt, rv b65, rv b66, iv got, .unset, iv na, iv nb, iv nc]) rfl ?_
      show sS p e below T90 m 308 #[iv p0, .val (.long p1), .second, iv p2, iv p3, iv p4, iv p5, iv 5, rv bd, rv bt, rv b65, rv b66, iv got, .unset, iv na, iv nb, iv nc] [] _
      refine sg_0_308_322_2 X90 hx hZ hw hby hown ?_
      show sS p e below T90 m 322 #[iv p0, .val (.long p1), .second, iv p2, iv p3, iv p4, iv p5, iv 5, rv bd, rv bt, rv b65, rv b66, iv got, .unset, iv na, iv nb, iv nc] [(.int (bif (if_icmp.holds .ne nb nc) then na else nb))] _
      refine XS.istore X90.here hx rfl (hb hby at_322) rfl (l' := #[iv p0, .val (.long p1), .second, iv p2, iv p3, iv p4, iv p5, iv 5, rv bd, rv bt, rv b65, rv b66, iv got, .val (.int (bif (if_icmp.holds .ne nb nc) then na else nb)), iv na, iv nb, iv nc]) rfl ?_
      refine XS.iload X90.here hx rfl (hb hby at_324) rfl ?_
      refine XS.iload X90.here hx rfl (hb hby at_326) rfl ?_
      refine XS.icmpNo X90.here hx rfl (hb hby at_328) rfl (by rw [hgot, hna, hnb, hnc]; exact own_law5 (own_e0 p1) (own_e (3 : Int32) p1) (own_e (6 : Int32) p1) (own_e (9 : Int32) p1) (own_e (12 : Int32) p1) p2 p3 p4 p5 (own_t4 p0)) ?_
      refine XS.iconst X90.here hx rfl (hb hby at_331) ?_
      refine XS.goto X90.here hx rfl (pc0 := 332) (pc' := 336) rfl (hb hby at_332) (by decide) (by decide) ?_
      show sS p e below T90 m 336 #[iv p0, .val (.long p1), .second, iv p2, iv p3, iv p4, iv p5, iv 5, rv bd, rv bt, rv b65, rv b66, iv got, .val (.int (bif (if_icmp.holds .ne nb nc) then na else nb)), iv na, iv nb, iv nc] [(.int (1 : Int32))] _
      exact retN X90 hx (t := .boolean) Bd.returns (by simp) (hb hby at_336) hr
    · show Q0 Z p0 p1 p2 p3 p4 p5 h0 n0 _ T90.heap _
      rw [eh90]
      exact ⟨rfl, N90⟩
set_option maxRecDepth 65536 in
set_option maxHeartbeats 40000000 in
theorem comes_1 {Post : Tables → Env → Array Value → State → Outcome → State → Prop} (hpost : ∀ tb e args s v u, (limb_1_1.after args s (.returned v) u = true ∧ limb_1_2.after args s (.returned v) u = true ∧ True) → FrameEnd s (.returned v) u (Jvm.fieldLocs frame_1_writes args s ++ Jvm.arrayLocs frame_1_arrays args s ++ Jvm.staticLocs frame_1_statics s) 24 128 → Post tb e args s (.returned v) u) :
    ArmFor flags0 classFile x code maxLocals ret World_1 tables_1 room_1 Calls_1 rest_1 Pre_1 Post := by
  intro l hfl _ _ p e ha hc hk s m args below hf hA hF happ hP
  obtain ⟨hcalls, hrest, hpre⟩ := hP
  obtain ⟨-, -, -, hnamed, -, -, -, hat⟩ := (Spec.applies_iff hf).mp happ
  obtain ⟨hg, hn⟩ := and_e (Cond.before_iff.mp (show (Jvm.Cond.and given_1 narrow_1).before args s = true from hpre))
  obtain ⟨hcount, hg0⟩ := and_e hg
  obtain ⟨ha0, hg1⟩ := and_e hg0
  obtain ⟨ha1, hg2⟩ := and_e hg1
  obtain ⟨ha2, hg3⟩ := and_e hg2
  obtain ⟨ha3, hg4⟩ := and_e hg3
  obtain ⟨ha4, hg5⟩ := and_e hg4
  have ha5 := hg5
  obtain ⟨w0, w1, w2, w3, w4, w5, rfl⟩ : ∃ w0 w1 w2 w3 w4 w5 : Value, args = #[w0, w1, w2, w3, w4, w5] := by
    have hs : args.size = 6 := by simpa [Cond.value, given_1] using hcount
    obtain ⟨L⟩ := args
    match L, hs with
    | [w0, w1, w2, w3, w4, w5], _ => exact ⟨w0, w1, w2, w3, w4, w5, rfl⟩
  have hw := fun d (hd : d ∈ tables_1) => atoms_spec (ws := Jvm.Cond.code x code maxLocals ret :: tables_1) hat d (List.mem_cons_of_mem _ hd)
  have hfit : Fit s := fun {y c} hc i hi => by
    obtain ⟨ha, rfl⟩ := Array.getElem?_eq_some_iff.mp hc
    have q := List.all_eq_true.mp ((Array.all_eq_true_iff_forall_mem.mp hF) _ (Array.getElem_mem ha)) i (List.mem_range.mpr hi)
    simpa [Array.getElem?_eq_getElem hi] using q
  obtain ⟨i0, ei0⟩ := is_v ha0
  obtain rfl : w0 = (.int i0) := Option.some.inj ei0
  obtain ⟨i1, ei1⟩ := isL_v ha1
  obtain rfl : w1 = (.long i1) := Option.some.inj ei1
  obtain ⟨i2, ei2⟩ := is_v ha2
  obtain rfl : w2 = (.int i2) := Option.some.inj ei2
  obtain ⟨i3, ei3⟩ := is_v ha3
  obtain rfl : w3 = (.int i3) := Option.some.inj ei3
  obtain ⟨i4, ei4⟩ := is_v ha4
  obtain rfl : w4 = (.int i4) := Option.some.inj ei4
  obtain ⟨i5, ei5⟩ := is_v ha5
  obtain rfl : w5 = (.int i5) := Option.some.inj ei5
  obtain ⟨n, o, h1, h2, h3, _, L, rfl, ⟨rfl, N⟩, hq⟩ := rm0 l s _ hw tables_1 i0 i1 i2 i3 i4 i5 s.heap s.heap.size (Nat.le_refl _) p e ha hc hk s m _ below hf ((Spec.applies_iff_loose hf).mp happ).1 ⟨rfl, State.Warmed39.refl s, rfl⟩ trivial
  refine ⟨n, _, h1, h2, h3, hpost _ _ _ _ _ _ ⟨Cond.after_iff.mpr rfl, Cond.after_iff.mpr (eq_i res_at (Term.int_eval (1)) rfl), trivial⟩ ⟨hq.1, hq.2.1, (hq.2.2.sift fun y hy => Or.inr (N y hy)).mono (by decide) (by decide)⟩⟩
theorem main_1_1 : Claimed_1_1 := comes_1 fun _ _ _ _ _ _ h hF => ⟨h.1, hF⟩
theorem main_1_2 : Claimed_1_2 := comes_1 fun _ _ _ _ _ _ h hF => ⟨h.2.1, hF⟩
end Jvm.Pilot.@@N@@
namespace Jvm.Pilot.@@N@@
open Jvm Jvm.ClassFile Sem Op Lib Jvm.Free Jvm.Stand Jvm.Pilot.@@N@@.Jvm.D
/-! MADE BY PROGRAM (witnessworld.py) out of the Statement's table words and the real class files: 18 classes; the members and pool entries that the words name. The judged class is class 1, her method 1. -/
namespace start1
open Jvm.ClassFile
def u (s : String) : CpInfo := .utf8 (stringToUtf16 s)
/-- a pool by its gaps: so many unusable entries, then the entry; so many at the end -/
def gap : Nat → List CpInfo → List CpInfo
  | 0, r => r
  | n + 1, r => .unusable :: gap n r
def poolList (es : List (Nat × CpInfo)) (last : Nat) : List CpInfo := es.foldr (fun e r => gap e.1 (e.2 :: r)) (gap last [])
def pool (es : List (Nat × CpInfo)) (last : Nat) : Array CpInfo := ⟨poolList es last⟩
def fileOf (pool : Array CpInfo) (this : Nat) (attrs : Array Attribute := #[]) (ms : Array MethodInfo := #[]) (fl : Nat := 33) (sup : Nat := 0) (ifs : Array Nat := #[]) (fds : Array FieldInfo := #[]) : ClassFile where
  minorVersion := 0
  majorVersion := 65
  constantPool := pool
  accessFlags := fl
  thisClass := this
  superClass := sup
  interfaces := ifs
  fields := fds
  methods := ms
  attributes := attrs
def plain (name : String) (sup : Option ClassId) : Class where
  name := name
  kind := .ordinary
  loader := none
  accessFlags := 33
  super := sup
  interfaces := #[]
  cf := none
  fields := #[]
  methods := #[]
  instanceTypes := #[]
  staticTypes := #[]
  resolved := #[]
  callSites := []
  init := .initialized
  statics := none
  mirror := none

def pool0 : Array CpInfo := pool [(5, u "<init>"), (0, u "()V"), (1, .class_ 10), (1, u "java/lang/Object")] 113

def k0m0 : Method := { name := "<init>", desc := "()V", sig := { parameters := [], returnType := none }, accessFlags := 1, code := none }
/-- java/lang/Object -/
def k0 : Class := { plain "java/lang/Object" none with
  accessFlags := 33
  interfaces := #[]
  cf := some (fileOf pool0 8 #[] #[{ accessFlags := 1, nameIndex := 5, descriptorIndex := 6, attributes := #[] }] 33 0 #[] #[])
  fields := #[]
  methods := #[k0m0]
  instanceTypes := #[]
  staticTypes := #[]
  resolved := Array.replicate 124 none
  statics := none }

def pool1 : Array CpInfo := pool [(2, .class_ 4), (1, u "java/lang/Object"), (0, u "<init>"), (0, u "()V"), (0, .long 7), (1, .methodref 10 11), (0, .class_ 12), (0, .nameAndType 13 14), (0, u "com/example/gadabout/gadabout/model/Clustering"), (0, u "typeByNeighbours"), (0, u "([D[I)I"), (0, .methodref 16 17), (0, .class_ 18), (0, .nameAndType 19 20), (0, u "com/example/gadabout/gadabout/model/ClusteringTypeByNeighboursPinLaw"), (0, u "at"), (0, u "([III)I"), (0, .methodref 16 22), (0, .nameAndType 23 24), (0, u "before"), (0, u "([III)Z"), (0, .methodref 16 26), (0, .nameAndType 27 20), (0, u "rank"), (2, u "law"), (0, u "(IJIIII)Z")] 7

def k1m0 : Method := { name := "<init>", desc := "()V", sig := { parameters := [], returnType := none }, accessFlags := 1, code := none }
def k1c1 : Code := { maxStack := 6, maxLocals := 17, code := code, exceptionTable := #[], attributes := #[] }
def k1m1 : Method := { name := "law", desc := "(IJIIII)Z", sig := { parameters := [.int, .long, .int, .int, .int, .int], returnType := some .boolean }, accessFlags := 9, code := some k1c1 }
def k1c2 : Code := { maxStack := 3, maxLocals := 3, code := method_3_code, exceptionTable := #[], attributes := #[] }
def k1m2 : Method := { name := "before", desc := "([III)Z", sig := { parameters := [(.array .int), .int, .int], returnType := some .boolean }, accessFlags := 10, code := some k1c2 }
def k1c3 : Code := { maxStack := 3, maxLocals := 4, code := method_4_code, exceptionTable := #[], attributes := #[] }
def k1m3 : Method := { name := "rank", desc := "([III)I", sig := { parameters := [(.array .int), .int, .int], returnType := some .int }, accessFlags := 10, code := some k1c3 }
def k1c4 : Code := { maxStack := 3, maxLocals := 3, code := method_5_code, exceptionTable := #[], attributes := #[] }
def k1m4 : Method := { name := "at", desc := "([III)I", sig := { parameters := [(.array .int), .int, .int], returnType := some .int }, accessFlags := 10, code := some k1c4 }
/-- com/example/gadabout/gadabout/model/ClusteringTypeByNeighboursPinLaw -/
def k1 : Class := { plain "com/example/gadabout/gadabout/model/ClusteringTypeByNeighboursPinLaw" (some 0) with
  accessFlags := 49
  interfaces := #[]
  cf := some (fileOf pool1 16 #[] #[{ accessFlags := 1, nameIndex := 5, descriptorIndex := 6, attributes := #[] }, { accessFlags := 9, nameIndex := 30, descriptorIndex := 31, attributes := #[] }, { accessFlags := 10, nameIndex := 23, descriptorIndex := 24, attributes := #[] }, { accessFlags := 10, nameIndex := 27, descriptorIndex := 20, attributes := #[] }, { accessFlags := 10, nameIndex := 19, descriptorIndex := 20, attributes := #[] }] 49 2 #[] #[])
  fields := #[]
  methods := #[k1m0, k1m1, k1m2, k1m3, k1m4]
  instanceTypes := #[]
  staticTypes := #[]
  resolved := Array.replicate 39 none
  statics := none }

def pool2 : Array CpInfo := pool [(1, .class_ 2), (0, u "com/example/gadabout/gadabout/model/Clustering"), (1, .class_ 6), (1, u "java/lang/Object"), (0, u "<init>"), (0, u "()V"), (1, .class_ 12), (1, u "java/lang/Math"), (2, .methodref 1 16), (0, .nameAndType 17 18), (0, u "nearest"), (0, u "([DI)[I"), (0, .methodref 10 20), (0, .nameAndType 21 22), (0, u "min"), (0, u "(II)I"), (0, .methodref 24 25), (0, .class_ 26), (0, .nameAndType 27 28), (0, u "java/lang/Double"), (0, u "compare"), (0, u "(DD)I"), (0, .methodref 30 31), (0, .class_ 32), (0, .nameAndType 33 34), (0, u "java/lang/System"), (0, u "arraycopy"), (0, u "(Ljava/lang/Object;ILjava/lang/Object;II)V"), (35, .class_ 71), (0, u "com/example/gadabout/gadabout/model/Clustering$Candidate"), (49, .class_ 122), (0, u "com/example/gadabout/gadabout/model/Clustering$Edge"), (24, .class_ 148), (0, u "com/example/gadabout/gadabout/model/Clustering$Join"), (121, u "D"), (18, u "OUTLIER"), (0, u "I"), (2, u "NEIGHBOURS"), (1, u "TYPE_PAGES"), (1, u "PARTING_RANGE"), (0, u "LEAST_REACH"), (5, u "typeByNeighbours"), (0, u "([D[I)I")] 55

def k2m0 : Method := { name := "<init>", desc := "()V", sig := { parameters := [], returnType := none }, accessFlags := 2, code := none }
def k2c1 : Code := { maxStack := 4, maxLocals := 9, code := prog_5_method_3_code, exceptionTable := #[], attributes := #[] }
def k2m1 : Method := { name := "typeByNeighbours", desc := "([D[I)I", sig := { parameters := [(.array .double), (.array .int)], returnType := some .int }, accessFlags := 8, code := some k2c1 }
def k2c2 : Code := { maxStack := 6, maxLocals := 7, code := prog_5_method_4_code, exceptionTable := #[], attributes := #[] }
def k2m2 : Method := { name := "nearest", desc := "([DI)[I", sig := { parameters := [(.array .double), .int], returnType := some (.array .int) }, accessFlags := 10, code := some k2c2 }
/-- com/example/gadabout/gadabout/model/Clustering -/
def k2 : Class := { plain "com/example/gadabout/gadabout/model/Clustering" (some 0) with
  accessFlags := 48
  interfaces := #[]
  cf := some (fileOf pool2 1 #[.nestMembers #[70, 121, 147]] #[{ accessFlags := 2, nameIndex := 7, descriptorIndex := 8, attributes := #[] }, { accessFlags := 8, nameIndex := 304, descriptorIndex := 305, attributes := #[] }, { accessFlags := 10, nameIndex := 17, descriptorIndex := 18, attributes := #[] }] 48 4 #[] #[{ accessFlags := 24, nameIndex := 289, descriptorIndex := 290, attributes := #[] }, { accessFlags := 24, nameIndex := 293, descriptorIndex := 290, attributes := #[] }, { accessFlags := 26, nameIndex := 295, descriptorIndex := 290, attributes := #[] }, { accessFlags := 26, nameIndex := 297, descriptorIndex := 270, attributes := #[] }, { accessFlags := 26, nameIndex := 298, descriptorIndex := 270, attributes := #[] }])
  fields := #[{ name := "OUTLIER", type := .int, accessFlags := 24, slot := 0, constantValue := 0 }, { name := "NEIGHBOURS", type := .int, accessFlags := 24, slot := 1, constantValue := 0 }, { name := "TYPE_PAGES", type := .int, accessFlags := 26, slot := 2, constantValue := 0 }, { name := "PARTING_RANGE", type := .double, accessFlags := 26, slot := 3, constantValue := 0 }, { name := "LEAST_REACH", type := .double, accessFlags := 26, slot := 4, constantValue := 0 }]
  methods := #[k2m0, k2m1, k2m2]
  instanceTypes := #[]
  staticTypes := #[.int, .int, .int, .double, .double]
  resolved := Array.replicate 361 none
  statics := none }

def pool3 : Array CpInfo := pool [(1, .class_ 2), (0, u "java/lang/Math"), (1, .class_ 6), (1, u "java/lang/Object"), (0, u "<init>"), (0, u "()V"), (89, .class_ 100), (1, u "java/lang/Math$RandomNumberGeneratorHolder"), (71, u "negativeZeroFloatBits"), (0, u "J"), (2, u "negativeZeroDoubleBits"), (24, u "min"), (43, u "$assertionsDisabled"), (0, u "Z"), (88, u "(II)I"), (2, u "twoToTheDoubleScaleDown"), (0, u "D"), (4, u "twoToTheDoubleScaleUp"), (9, u "E"), (3, u "PI"), (2, u "TAU"), (2, u "DEGREES_TO_RADIANS"), (0, u "RADIANS_TO_DEGREES")] 94

def k3m0 : Method := { name := "<init>", desc := "()V", sig := { parameters := [], returnType := none }, accessFlags := 2, code := none }
def k3c1 : Code := { maxStack := 2, maxLocals := 2, code := jdk_29_method_69_code, exceptionTable := #[], attributes := #[] }
def k3m1 : Method := { name := "min", desc := "(II)I", sig := { parameters := [.int, .int], returnType := some .int }, accessFlags := 9, code := some k3c1 }
/-- java/lang/Math -/
def k3 : Class := { plain "java/lang/Math" (some 0) with
  accessFlags := 49
  interfaces := #[]
  cf := some (fileOf pool3 1 #[.nestMembers #[98]] #[{ accessFlags := 2, nameIndex := 7, descriptorIndex := 8, attributes := #[] }, { accessFlags := 9, nameIndex := 201, descriptorIndex := 335, attributes := #[] }] 49 4 #[] #[{ accessFlags := 25, nameIndex := 354, descriptorIndex := 339, attributes := #[] }, { accessFlags := 25, nameIndex := 358, descriptorIndex := 339, attributes := #[] }, { accessFlags := 25, nameIndex := 361, descriptorIndex := 339, attributes := #[] }, { accessFlags := 26, nameIndex := 364, descriptorIndex := 339, attributes := #[] }, { accessFlags := 26, nameIndex := 365, descriptorIndex := 339, attributes := #[] }, { accessFlags := 26, nameIndex := 172, descriptorIndex := 173, attributes := #[] }, { accessFlags := 26, nameIndex := 176, descriptorIndex := 173, attributes := #[] }, { accessFlags := 8, nameIndex := 344, descriptorIndex := 339, attributes := #[] }, { accessFlags := 8, nameIndex := 338, descriptorIndex := 339, attributes := #[] }, { accessFlags := 4120, nameIndex := 245, descriptorIndex := 246, attributes := #[] }])
  fields := #[{ name := "E", type := .double, accessFlags := 25, slot := 0, constantValue := 0 }, { name := "PI", type := .double, accessFlags := 25, slot := 1, constantValue := 0 }, { name := "TAU", type := .double, accessFlags := 25, slot := 2, constantValue := 0 }, { name := "DEGREES_TO_RADIANS", type := .double, accessFlags := 26, slot := 3, constantValue := 0 }, { name := "RADIANS_TO_DEGREES", type := .double, accessFlags := 26, slot := 4, constantValue := 0 }, { name := "negativeZeroFloatBits", type := .long, accessFlags := 26, slot := 5, constantValue := 0 }, { name := "negativeZeroDoubleBits", type := .long, accessFlags := 26, slot := 6, constantValue := 0 }, { name := "twoToTheDoubleScaleUp", type := .double, accessFlags := 8, slot := 7, constantValue := 0 }, { name := "twoToTheDoubleScaleDown", type := .double, accessFlags := 8, slot := 8, constantValue := 0 }, { name := "$assertionsDisabled", type := .boolean, accessFlags := 4120, slot := 9, constantValue := 0 }]
  methods := #[k3m0, k3m1]
  instanceTypes := #[]
  staticTypes := #[.double, .double, .double, .double, .double, .long, .long, .double, .double, .boolean]
  resolved := Array.replicate 460 none
  statics := none }

def pool4 : Array CpInfo := pool [(2, .class_ 4), (1, u "java/lang/Object"), (0, u "<init>"), (0, u "()V"), (1, .class_ 10), (1, u "java/lang/System"), (0, u "allowSecurityManager"), (0, u "I"), (16, u "cons"), (0, u "Ljava/io/Console;"), (77, .class_ 110), (1, u "java/lang/System$CallersHolder"), (43, u "initialErrStream"), (0, u "Ljava/io/PrintStream;"), (19, u "security"), (0, u "Ljava/lang/SecurityManager;"), (31, .class_ 209), (0, u "java/lang/System$1"), (7, u "props"), (0, u "Ljava/util/Properties;"), (2, u "lineSeparator"), (0, u "Ljava/lang/String;"), (96, .class_ 321), (1, u "java/lang/System$LoggerFinder"), (5, .class_ 328), (0, u "java/lang/System$Logger"), (67, u "err"), (2, u "out"), (91, u "notSupportedJnuEncoding"), (15, u "in"), (17, u "initialIn"), (0, u "Ljava/io/InputStream;"), (35, u "bootLayer"), (0, u "Ljava/lang/ModuleLayer;"), (99, .class_ 664), (0, u "java/lang/System$2"), (9, u "NEVER"), (2, u "MAYBE"), (49, u "arraycopy"), (0, u "(Ljava/lang/Object;ILjava/lang/Object;II)V"), (72, .class_ 802), (0, u "java/lang/System$Logger$Level")] 31

def k4m0 : Method := { name := "<init>", desc := "()V", sig := { parameters := [], returnType := none }, accessFlags := 2, code := none }
def k4m1 : Method := { name := "arraycopy", desc := "(Ljava/lang/Object;ILjava/lang/Object;II)V", sig := { parameters := [(.object "java/lang/Object"), .int, (.object "java/lang/Object"), .int, .int], returnType := none }, accessFlags := 265, code := none }
/-- java/lang/System -/
def k4 : Class := { plain "java/lang/System" (some 0) with
  accessFlags := 49
  interfaces := #[]
  cf := some (fileOf pool4 8 #[.nestMembers #[319, 327, 801, 108, 663, 208]] #[{ accessFlags := 2, nameIndex := 5, descriptorIndex := 6, attributes := #[] }, { accessFlags := 265, nameIndex := 727, descriptorIndex := 728, attributes := #[] }] 49 2 #[] #[{ accessFlags := 25, nameIndex := 507, descriptorIndex := 526, attributes := #[] }, { accessFlags := 25, nameIndex := 399, descriptorIndex := 155, attributes := #[] }, { accessFlags := 25, nameIndex := 396, descriptorIndex := 155, attributes := #[] }, { accessFlags := 10, nameIndex := 525, descriptorIndex := 526, attributes := #[] }, { accessFlags := 26, nameIndex := 674, descriptorIndex := 12, attributes := #[] }, { accessFlags := 26, nameIndex := 677, descriptorIndex := 12, attributes := #[] }, { accessFlags := 10, nameIndex := 11, descriptorIndex := 12, attributes := #[] }, { accessFlags := 74, nameIndex := 175, descriptorIndex := 176, attributes := #[] }, { accessFlags := 10, nameIndex := 491, descriptorIndex := 222, attributes := #[] }, { accessFlags := 74, nameIndex := 29, descriptorIndex := 30, attributes := #[] }, { accessFlags := 74, nameIndex := 154, descriptorIndex := 155, attributes := #[] }, { accessFlags := 10, nameIndex := 217, descriptorIndex := 218, attributes := #[] }, { accessFlags := 10, nameIndex := 221, descriptorIndex := 222, attributes := #[] }, { accessFlags := 8, nameIndex := 562, descriptorIndex := 563, attributes := #[] }])
  fields := #[{ name := "in", type := (.object "java/io/InputStream"), accessFlags := 25, slot := 0, constantValue := 0 }, { name := "out", type := (.object "java/io/PrintStream"), accessFlags := 25, slot := 1, constantValue := 0 }, { name := "err", type := (.object "java/io/PrintStream"), accessFlags := 25, slot := 2, constantValue := 0 }, { name := "initialIn", type := (.object "java/io/InputStream"), accessFlags := 10, slot := 3, constantValue := 0 }, { name := "NEVER", type := .int, accessFlags := 26, slot := 4, constantValue := 0 }, { name := "MAYBE", type := .int, accessFlags := 26, slot := 5, constantValue := 0 }, { name := "allowSecurityManager", type := .int, accessFlags := 10, slot := 6, constantValue := 0 }, { name := "security", type := (.object "java/lang/SecurityManager"), accessFlags := 74, slot := 7, constantValue := 0 }, { name := "notSupportedJnuEncoding", type := (.object "java/lang/String"), accessFlags := 10, slot := 8, constantValue := 0 }, { name := "cons", type := (.object "java/io/Console"), accessFlags := 74, slot := 9, constantValue := 0 }, { name := "initialErrStream", type := (.object "java/io/PrintStream"), accessFlags := 74, slot := 10, constantValue := 0 }, { name := "props", type := (.object "java/util/Properties"), accessFlags := 10, slot := 11, constantValue := 0 }, { name := "lineSeparator", type := (.object "java/lang/String"), accessFlags := 10, slot := 12, constantValue := 0 }, { name := "bootLayer", type := (.object "java/lang/ModuleLayer"), accessFlags := 8, slot := 13, constantValue := 0 }]
  methods := #[k4m0, k4m1]
  instanceTypes := #[]
  staticTypes := #[(.object "java/io/InputStream"), (.object "java/io/PrintStream"), (.object "java/io/PrintStream"), (.object "java/io/InputStream"), .int, .int, .int, (.object "java/lang/SecurityManager"), (.object "java/lang/String"), (.object "java/io/Console"), (.object "java/io/PrintStream"), (.object "java/util/Properties"), (.object "java/lang/String"), (.object "java/lang/ModuleLayer")]
  resolved := Array.replicate 834 none
  statics := none }

def pool5 : Array CpInfo := pool [(1, .class_ 2), (0, u "java/io/Serializable"), (0, .class_ 4), (0, u "java/lang/Object")] 2

/-- java/io/Serializable -/
def k5 : Class := { plain "java/io/Serializable" (some 0) with
  accessFlags := 1537
  interfaces := #[]
  cf := some (fileOf pool5 1 #[] #[] 1537 3 #[] #[])
  fields := #[]
  methods := #[]
  instanceTypes := #[]
  staticTypes := #[]
  resolved := Array.replicate 7 none
  statics := none }

def pool6 : Array CpInfo := pool [(2, .class_ 4), (1, u "java/lang/Object"), (0, u "<init>"), (0, u "()V"), (1, .class_ 10), (1, u "java/lang/Number"), (2, .class_ 14), (0, u "java/io/Serializable"), (0, u "serialVersionUID"), (0, u "J")] 20

def k6m0 : Method := { name := "<init>", desc := "()V", sig := { parameters := [], returnType := none }, accessFlags := 1, code := none }
/-- java/lang/Number -/
def k6 : Class := { plain "java/lang/Number" (some 0) with
  accessFlags := 1057
  interfaces := #[5]
  cf := some (fileOf pool6 8 #[] #[{ accessFlags := 1, nameIndex := 5, descriptorIndex := 6, attributes := #[] }] 1057 2 #[13] #[{ accessFlags := 26, nameIndex := 15, descriptorIndex := 16, attributes := #[] }])
  fields := #[{ name := "serialVersionUID", type := .long, accessFlags := 26, slot := 0, constantValue := 0 }]
  methods := #[k6m0]
  instanceTypes := #[]
  staticTypes := #[.long]
  resolved := Array.replicate 37 none
  statics := none }

def pool7 : Array CpInfo := pool [(1, .class_ 2), (0, u "java/lang/Comparable"), (0, .class_ 4), (0, u "java/lang/Object")] 7

/-- java/lang/Comparable -/
def k7 : Class := { plain "java/lang/Comparable" (some 0) with
  accessFlags := 1537
  interfaces := #[]
  cf := some (fileOf pool7 1 #[] #[] 1537 3 #[] #[])
  fields := #[]
  methods := #[]
  instanceTypes := #[]
  staticTypes := #[]
  resolved := Array.replicate 12 none
  statics := none }

def pool8 : Array CpInfo := pool [(1, .class_ 2), (0, u "java/lang/constant/Constable"), (0, .class_ 4), (0, u "java/lang/Object")] 6

/-- java/lang/constant/Constable -/
def k8 : Class := { plain "java/lang/constant/Constable" (some 0) with
  accessFlags := 1537
  interfaces := #[]
  cf := some (fileOf pool8 1 #[] #[] 1537 3 #[] #[])
  fields := #[]
  methods := #[]
  instanceTypes := #[]
  staticTypes := #[]
  resolved := Array.replicate 11 none
  statics := none }

def pool9 : Array CpInfo := pool [(1, .class_ 2), (0, u "java/lang/constant/ConstantDesc"), (0, .class_ 4), (0, u "java/lang/Object")] 32

/-- java/lang/constant/ConstantDesc -/
def k9 : Class := { plain "java/lang/constant/ConstantDesc" (some 0) with
  accessFlags := 1537
  interfaces := #[]
  cf := some (fileOf pool9 1 #[] #[] 1537 3 #[] #[])
  fields := #[]
  methods := #[]
  instanceTypes := #[]
  staticTypes := #[]
  resolved := Array.replicate 37 none
  statics := none }

def pool10 : Array CpInfo := pool [(1, .class_ 2), (0, u "java/lang/Double"), (11, u "(D)Z"), (31, .methodref 1 47), (0, .nameAndType 48 49), (0, u "doubleToLongBits"), (0, u "(D)J"), (64, .class_ 116), (1, u "java/lang/Number"), (3, u "value"), (0, u "D"), (0, .methodref 1 123), (0, .nameAndType 124 14), (0, u "isNaN"), (9, .methodref 1 135), (0, .nameAndType 136 49), (0, u "doubleToRawLongBits"), (4, u "compare"), (0, u "(DD)I"), (30, u "TYPE"), (0, u "Ljava/lang/Class;"), (0, .class_ 176), (0, u "java/lang/Comparable"), (0, .class_ 178), (0, u "java/lang/constant/Constable"), (0, .class_ 180), (0, u "java/lang/constant/ConstantDesc"), (0, u "POSITIVE_INFINITY"), (3, u "NEGATIVE_INFINITY"), (2, u "NaN"), (2, u "MAX_VALUE"), (0, u "MIN_NORMAL"), (0, u "MIN_VALUE"), (2, u "SIZE"), (0, u "I"), (1, u "PRECISION"), (1, u "MAX_EXPONENT"), (1, u "MIN_EXPONENT"), (1, u "BYTES"), (3, u "serialVersionUID"), (0, u "J")] 79

def k10c0 : Code := { maxStack := 4, maxLocals := 2, code := jdk_117_method_6_code, exceptionTable := #[], attributes := #[] }
def k10m0 : Method := { name := "isNaN", desc := "(D)Z", sig := { parameters := [.double], returnType := some .boolean }, accessFlags := 9, code := some k10c0 }
def k10c1 : Code := { maxStack := 2, maxLocals := 2, code := jdk_117_method_23_code, exceptionTable := #[], attributes := #[] }
def k10m1 : Method := { name := "doubleToLongBits", desc := "(D)J", sig := { parameters := [.double], returnType := some .long }, accessFlags := 9, code := some k10c1 }
def k10m2 : Method := { name := "doubleToRawLongBits", desc := "(D)J", sig := { parameters := [.double], returnType := some .long }, accessFlags := 265, code := none }
def k10c3 : Code := { maxStack := 4, maxLocals := 8, code := jdk_117_method_27_code, exceptionTable := #[], attributes := #[] }
def k10m3 : Method := { name := "compare", desc := "(DD)I", sig := { parameters := [.double, .double], returnType := some .int }, accessFlags := 9, code := some k10c3 }
/-- java/lang/Double -/
def k10 : Class := { plain "java/lang/Double" (some 6) with
  accessFlags := 49
  interfaces := #[7, 8, 9]
  cf := some (fileOf pool10 1 #[] #[{ accessFlags := 9, nameIndex := 124, descriptorIndex := 14, attributes := #[] }, { accessFlags := 9, nameIndex := 48, descriptorIndex := 49, attributes := #[] }, { accessFlags := 265, nameIndex := 136, descriptorIndex := 49, attributes := #[] }, { accessFlags := 9, nameIndex := 141, descriptorIndex := 142, attributes := #[] }] 49 114 #[175, 177, 179] #[{ accessFlags := 25, nameIndex := 181, descriptorIndex := 121, attributes := #[] }, { accessFlags := 25, nameIndex := 185, descriptorIndex := 121, attributes := #[] }, { accessFlags := 25, nameIndex := 188, descriptorIndex := 121, attributes := #[] }, { accessFlags := 25, nameIndex := 191, descriptorIndex := 121, attributes := #[] }, { accessFlags := 25, nameIndex := 192, descriptorIndex := 121, attributes := #[] }, { accessFlags := 25, nameIndex := 193, descriptorIndex := 121, attributes := #[] }, { accessFlags := 25, nameIndex := 196, descriptorIndex := 197, attributes := #[] }, { accessFlags := 25, nameIndex := 199, descriptorIndex := 197, attributes := #[] }, { accessFlags := 25, nameIndex := 201, descriptorIndex := 197, attributes := #[] }, { accessFlags := 25, nameIndex := 203, descriptorIndex := 197, attributes := #[] }, { accessFlags := 25, nameIndex := 205, descriptorIndex := 197, attributes := #[] }, { accessFlags := 25, nameIndex := 173, descriptorIndex := 174, attributes := #[] }, { accessFlags := 18, nameIndex := 120, descriptorIndex := 121, attributes := #[] }, { accessFlags := 26, nameIndex := 209, descriptorIndex := 210, attributes := #[] }])
  fields := #[{ name := "POSITIVE_INFINITY", type := .double, accessFlags := 25, slot := 0, constantValue := 0 }, { name := "NEGATIVE_INFINITY", type := .double, accessFlags := 25, slot := 1, constantValue := 0 }, { name := "NaN", type := .double, accessFlags := 25, slot := 2, constantValue := 0 }, { name := "MAX_VALUE", type := .double, accessFlags := 25, slot := 3, constantValue := 0 }, { name := "MIN_NORMAL", type := .double, accessFlags := 25, slot := 4, constantValue := 0 }, { name := "MIN_VALUE", type := .double, accessFlags := 25, slot := 5, constantValue := 0 }, { name := "SIZE", type := .int, accessFlags := 25, slot := 6, constantValue := 0 }, { name := "PRECISION", type := .int, accessFlags := 25, slot := 7, constantValue := 0 }, { name := "MAX_EXPONENT", type := .int, accessFlags := 25, slot := 8, constantValue := 0 }, { name := "MIN_EXPONENT", type := .int, accessFlags := 25, slot := 9, constantValue := 0 }, { name := "BYTES", type := .int, accessFlags := 25, slot := 10, constantValue := 0 }, { name := "TYPE", type := (.object "java/lang/Class"), accessFlags := 25, slot := 11, constantValue := 0 }, { name := "value", type := .double, accessFlags := 18, slot := 0, constantValue := 0 }, { name := "serialVersionUID", type := .long, accessFlags := 26, slot := 12, constantValue := 0 }]
  methods := #[k10m0, k10m1, k10m2, k10m3]
  instanceTypes := #[.double]
  staticTypes := #[.double, .double, .double, .double, .double, .double, .int, .int, .int, .int, .int, (.object "java/lang/Class"), .long]
  resolved := Array.replicate 290 none
  statics := none }

def pool11 : Array CpInfo := pool [(1, u "java/lang/Cloneable"), (0, .class_ 1), (0, u "java/lang/Object"), (0, .class_ 3)] 3

/-- java/lang/Cloneable -/
def k11 : Class := { plain "java/lang/Cloneable" (some 0) with
  accessFlags := 1537
  interfaces := #[]
  cf := some (fileOf pool11 2 #[] #[] 1537 4 #[] #[])
  fields := #[]
  methods := #[]
  instanceTypes := #[]
  staticTypes := #[]
  resolved := Array.replicate 8 none
  statics := none }

/-- the primitive byte -/
def k12 : Class := { plain "byte" none with kind := .primitive 'B', accessFlags := 0x411 }
/-- [B -/
def k13 : Class := { plain "[B" (some 0) with kind := .array 12 .byte, interfaces := #[11, 5], accessFlags := 1041 }

/-- the primitive double -/
def k14 : Class := { plain "double" none with kind := .primitive 'D', accessFlags := 0x411 }
/-- [D -/
def k15 : Class := { plain "[D" (some 0) with kind := .array 14 .double, interfaces := #[11, 5], accessFlags := 1041 }

/-- the primitive int -/
def k16 : Class := { plain "int" none with kind := .primitive 'I', accessFlags := 0x411 }
/-- [I -/
def k17 : Class := { plain "[I" (some 0) with kind := .array 16 .int, interfaces := #[11, 5], accessFlags := 1041 }

def heap : Heap := #[]
def classes : Array Class := #[k0, k1, k2, k3, k4, k5, k6, k7, k8, k9, k10, k11, k12, k13, k14, k15, k16, k17]
def interned : List (Array UInt16 × Addr) := []
def slotsUsed : Nat := 0
def theMethod : MethodId := ⟨1, 1⟩
def args0 : Array Value := #[.int 5, .long 6, .int 7, .int 8, .int 9, .int 10]
def aboutOver (below : List Frame) : State where
  vm := { classes := classes, interned := interned.toArray }
  heap := heap
  slotsUsed := slotsUsed
  threads := #[{ frames := .invoking theMethod args0 :: below }]
def below0 : List Frame := [.native { method := ⟨0, 0⟩, args := #[] }]
def about1 : State := aboutOver below0
def p0 : Program := .bare "" "" ""
def e0 : Env := launch0.env 0 0 0
theorem w_frames : about1.frames = Frame.invoking theMethod args0 :: below0 := rfl
set_option maxRecDepth 65536 in
theorem w_args : argsFit about1.vm theMethod args0 = true := by decide +kernel
set_option maxRecDepth 65536 in
theorem w_heap : heapFits about1 = true := by decide +kernel
set_option maxRecDepth 65536 in
theorem w_runnable : about1.curStatus? = some .runnable := by decide +kernel
set_option maxRecDepth 65536 in
theorem w_alone : about1.alone = true := by decide +kernel
set_option maxRecDepth 65536 in
theorem w_named : about1.methodNamed? x = some theMethod := by decide +kernel
set_option maxRecDepth 65536 in
theorem w_hears : about1.hears theMethod below0 = true := by decide +kernel
set_option maxRecDepth 65536 in
theorem w_ripe : about1.ripe theMethod args0 below0 = true := by decide +kernel
theorem w_running : about1.status = .running := rfl
set_option maxRecDepth 65536 in
theorem w_room : about1.hasRoom e0.platform room_1 = true :=
  launch0.hasRoom_least _ room_1 (by decide +kernel) (by decide +kernel) (by decide +kernel) (by decide +kernel) (by decide +kernel) (by decide +kernel)
theorem allAtoms_all (ts : List Jvm.Cond) (a : Array Jvm.Value) (st : Jvm.State) : (allAtoms ts).before a st = ts.all (fun c => c.before a st) := by
  induction ts with
  | nil => rfl
  | cons c t ih =>
    show (Jvm.Cond.and c (allAtoms t)).before a st = _
    rw [Jvm.Cond.before_and, ih, List.all_cons]
def words1 : List Jvm.Cond := Jvm.Cond.code x code maxLocals ret :: tables_1
/-- a 'code' word, met by the world's own term for the bytes: nothing is compared byte by byte -/
theorem code_word {y : MethodName} {bytes : ByteArray} {mx : Nat} {rt : Option FieldType} {a : Array Value} {s : State} {m : MethodId} {meth : Method} {c : Code} (h1 : s.methodNamed? y = some m) (h2 : s.vm.method? m = some meth) (h3 : meth.code = some c) (h4 : c.code = bytes)
    (h5 : (c.maxLocals == mx && c.exceptionTable.isEmpty && decide (c.maxStack ≤ mostOperands) && decide (meth.sig.returnType = rt) && !meth.locks && decide (parseMethodDescriptor y.desc = some meth.sig)) = true) : (Jvm.Cond.code y bytes mx rt).before a s = true := by
  simp only [Bool.and_eq_true, beq_iff_eq, Bool.not_eq_true', decide_eq_true_eq] at h5
  obtain ⟨⟨⟨⟨⟨g1, g2⟩, g3⟩, g4⟩, g5⟩, g6⟩ := h5
  simp [Cond.before, Cond.holds, Cond.value, h1, h2, h3, h4, g1, g2, g3, g4, g5, g6]
def isCode : Jvm.Cond → Bool
  | .code _ _ _ _ => true
  | _ => false
theorem all_split {L : List Jvm.Cond} {P : Jvm.Cond → Bool} (h1 : L.all (fun c => isCode c || P c) = true) (h2 : ∀ c ∈ L.filter isCode, P c = true) : L.all P = true := by
  refine List.all_eq_true.mpr fun c hc => ?_
  have h := List.all_eq_true.mp h1 c hc
  rcases Bool.eq_false_or_eq_true (isCode c) with hi | hi
  · exact h2 c (List.mem_filter.mpr ⟨hc, hi⟩)
  · simpa [hi] using h
set_option maxRecDepth 65536 in
theorem w_c0 : (Jvm.Cond.code x code maxLocals ret).before args0 about1 = true := code_word (m := ⟨1, 1⟩) (meth := k1m1) (c := k1c1) (by decide +kernel) rfl rfl rfl (by decide +kernel)
set_option maxRecDepth 65536 in
theorem w_c1 : (Jvm.Cond.code ({ cls := "com/example/gadabout/gadabout/model/Clustering", name := "typeByNeighbours", desc := "([D[I)I" } : Jvm.MethodName) prog_5_method_3_code (9 : Nat) (Option.some Jvm.ClassFile.FieldType.int)).before args0 about1 = true := code_word (m := ⟨2, 1⟩) (meth := k2m1) (c := k2c1) (by decide +kernel) rfl rfl rfl (by decide +kernel)
set_option maxRecDepth 65536 in
theorem w_c2 : (Jvm.Cond.code ({ cls := "com/example/gadabout/gadabout/model/Clustering", name := "nearest", desc := "([DI)[I" } : Jvm.MethodName) prog_5_method_4_code (7 : Nat) (Option.some (Jvm.ClassFile.FieldType.array Jvm.ClassFile.FieldType.int))).before args0 about1 = true := code_word (m := ⟨2, 2⟩) (meth := k2m2) (c := k2c2) (by decide +kernel) rfl rfl rfl (by decide +kernel)
set_option maxRecDepth 65536 in
theorem w_c3 : (Jvm.Cond.code ({ cls := "java/lang/Math", name := "min", desc := "(II)I" } : Jvm.MethodName) jdk_29_method_69_code (2 : Nat) (Option.some Jvm.ClassFile.FieldType.int)).before args0 about1 = true := code_word (m := ⟨3, 1⟩) (meth := k3m1) (c := k3c1) (by decide +kernel) rfl rfl rfl (by decide +kernel)
set_option maxRecDepth 65536 in
theorem w_c4 : (Jvm.Cond.code ({ cls := "java/lang/Double", name := "compare", desc := "(DD)I" } : Jvm.MethodName) jdk_117_method_27_code (8 : Nat) (Option.some Jvm.ClassFile.FieldType.int)).before args0 about1 = true := code_word (m := ⟨10, 3⟩) (meth := k10m3) (c := k10c3) (by decide +kernel) rfl rfl rfl (by decide +kernel)
set_option maxRecDepth 65536 in
theorem w_c5 : (Jvm.Cond.code ({ cls := "com/example/gadabout/gadabout/model/ClusteringTypeByNeighboursPinLaw", name := "at", desc := "([III)I" } : Jvm.MethodName) method_5_code (3 : Nat) (Option.some Jvm.ClassFile.FieldType.int)).before args0 about1 = true := code_word (m := ⟨1, 4⟩) (meth := k1m4) (c := k1c4) (by decide +kernel) rfl rfl rfl (by decide +kernel)
set_option maxRecDepth 65536 in
theorem w_c6 : (Jvm.Cond.code ({ cls := "com/example/gadabout/gadabout/model/ClusteringTypeByNeighboursPinLaw", name := "rank", desc := "([III)I" } : Jvm.MethodName) method_4_code (4 : Nat) (Option.some Jvm.ClassFile.FieldType.int)).before args0 about1 = true := code_word (m := ⟨1, 3⟩) (meth := k1m3) (c := k1c3) (by decide +kernel) rfl rfl rfl (by decide +kernel)
set_option maxRecDepth 65536 in
theorem w_c7 : (Jvm.Cond.code ({ cls := "com/example/gadabout/gadabout/model/ClusteringTypeByNeighboursPinLaw", name := "before", desc := "([III)Z" } : Jvm.MethodName) method_3_code (3 : Nat) (Option.some Jvm.ClassFile.FieldType.boolean)).before args0 about1 = true := code_word (m := ⟨1, 2⟩) (meth := k1m2) (c := k1c2) (by decide +kernel) rfl rfl rfl (by decide +kernel)
set_option maxRecDepth 65536 in
theorem w_c8 : (Jvm.Cond.code ({ cls := "java/lang/Double", name := "doubleToLongBits", desc := "(D)J" } : Jvm.MethodName) jdk_117_method_23_code (2 : Nat) (Option.some Jvm.ClassFile.FieldType.long)).before args0 about1 = true := code_word (m := ⟨10, 1⟩) (meth := k10m1) (c := k10c1) (by decide +kernel) rfl rfl rfl (by decide +kernel)
set_option maxRecDepth 65536 in
theorem w_c9 : (Jvm.Cond.code ({ cls := "java/lang/Double", name := "isNaN", desc := "(D)Z" } : Jvm.MethodName) jdk_117_method_6_code (2 : Nat) (Option.some Jvm.ClassFile.FieldType.boolean)).before args0 about1 = true := code_word (m := ⟨10, 0⟩) (meth := k10m0) (c := k10c0) (by decide +kernel) rfl rfl rfl (by decide +kernel)
def codes1 : List Jvm.Cond := [Jvm.Cond.code x code maxLocals ret, Jvm.Cond.code ({ cls := "com/example/gadabout/gadabout/model/Clustering", name := "typeByNeighbours", desc := "([D[I)I" } : Jvm.MethodName) prog_5_method_3_code (9 : Nat) (Option.some Jvm.ClassFile.FieldType.int), Jvm.Cond.code ({ cls := "com/example/gadabout/gadabout/model/Clustering", name := "nearest", desc := "([DI)[I" } : Jvm.MethodName) prog_5_method_4_code (7 : Nat) (Option.some (Jvm.ClassFile.FieldType.array Jvm.ClassFile.FieldType.int)), Jvm.Cond.code ({ cls := "java/lang/Math", name := "min", desc := "(II)I" } : Jvm.MethodName) jdk_29_method_69_code (2 : Nat) (Option.some Jvm.ClassFile.FieldType.int), Jvm.Cond.code ({ cls := "java/lang/Double", name := "compare", desc := "(DD)I" } : Jvm.MethodName) jdk_117_method_27_code (8 : Nat) (Option.some Jvm.ClassFile.FieldType.int), Jvm.Cond.code ({ cls := "com/example/gadabout/gadabout/model/ClusteringTypeByNeighboursPinLaw", name := "at", desc := "([III)I" } : Jvm.MethodName) method_5_code (3 : Nat) (Option.some Jvm.ClassFile.FieldType.int), Jvm.Cond.code ({ cls := "com/example/gadabout/gadabout/model/ClusteringTypeByNeighboursPinLaw", name := "rank", desc := "([III)I" } : Jvm.MethodName) method_4_code (4 : Nat) (Option.some Jvm.ClassFile.FieldType.int), Jvm.Cond.code ({ cls := "com/example/gadabout/gadabout/model/ClusteringTypeByNeighboursPinLaw", name := "before", desc := "([III)Z" } : Jvm.MethodName) method_3_code (3 : Nat) (Option.some Jvm.ClassFile.FieldType.boolean), Jvm.Cond.code ({ cls := "java/lang/Double", name := "doubleToLongBits", desc := "(D)J" } : Jvm.MethodName) jdk_117_method_23_code (2 : Nat) (Option.some Jvm.ClassFile.FieldType.long), Jvm.Cond.code ({ cls := "java/lang/Double", name := "isNaN", desc := "(D)Z" } : Jvm.MethodName) jdk_117_method_6_code (2 : Nat) (Option.some Jvm.ClassFile.FieldType.boolean)]
set_option maxRecDepth 65536 in
theorem codes_eq : words1.filter isCode = codes1 := rfl
theorem w_codes : ∀ c ∈ words1.filter isCode, c.before args0 about1 = true := by
  rw [codes_eq]
  intro c hc
  simp only [codes1, List.mem_cons, List.not_mem_nil, or_false] at hc
  rcases hc with rfl | rfl | rfl | rfl | rfl | rfl | rfl | rfl | rfl | rfl
  · exact w_c0
  · exact w_c1
  · exact w_c2
  · exact w_c3
  · exact w_c4
  · exact w_c5
  · exact w_c6
  · exact w_c7
  · exact w_c8
  · exact w_c9
set_option maxRecDepth 65536 in
theorem w_t1 : (words1.take 24).all (fun c => isCode c || c.before args0 about1) = true := by decide +kernel
set_option maxRecDepth 65536 in
theorem w_t2 : (words1.drop 24).all (fun c => isCode c || c.before args0 about1) = true := by decide +kernel
theorem w_tables : (allAtoms (Jvm.Cond.code x code maxLocals ret :: tables_1)).before args0 about1 = true := by
  rw [allAtoms_all]
  show words1.all (fun c => c.before args0 about1) = true
  refine all_split ?_ w_codes
  rw [← List.take_append_drop 24 words1, List.all_append, w_t1, w_t2]
  rfl
set_option maxRecDepth 65536 in
theorem w_case : (Jvm.Cond.and given_1 narrow_1).before args0 about1 = true := by decide +kernel
theorem w_applies : (headSpec (Jvm.Cond.code x code maxLocals ret :: tables_1) room_1).applies x e0.platform about1 = true :=
  (Spec.applies_iff w_frames).mpr ⟨w_running, w_runnable, w_alone, w_named, w_hears, w_ripe, w_room, w_tables⟩
theorem atStart : AtStart classFile x code maxLocals ret World_1 tables_1 room_1 Calls_1 rest_1 Pre_1 launch0 p0 e0 about1 theMethod args0 below0 :=
  ⟨lists_1, trivial, launch0.admits_env _ _ _, launch0.least_env, fairChoices_fair.cas, fairChoices_fair.clock, w_frames, w_args, w_heap, w_applies, trivial, trivial, w_case⟩
end start1
theorem witness_1 : WitnessClaimed_1 := ⟨start1.p0, start1.e0, start1.about1, start1.theMethod, start1.args0, start1.below0, start1.atStart⟩
end Jvm.Pilot.@@N@@
