import JvmDerived
import JvmDerived.Pilot.@@N@@Statement
import JvmDerived.Pilot.@@N@@Code
set_option linter.unusedVariables false
set_option linter.unusedSimpArgs false
@@BLOCK:NumsL.lean.txt@@
namespace Jvm.RoadKit
open Sem ClassFile Op Lib Jvm.Stand Jvm.Free Jvm.LawKit
section New
variable {p : Program} {l : Launch} {e : Env} {R : Room} {s : State} {m : MethodId} {args : Array Value} {below : List Frame} {meth : Method} {c : Code} {T : State} {locs : List Loc} {cells slots : Nat}
theorem retI (X : Stand p l e R s m args below meth c T locs cells slots) (hx : p.tables.exec = Jvm.exec) {pc : Nat} {Ls : Array Slot} {z : Int32} {rest : List Value} (hret : meth.sig.returnType = some .int) (hd : decode c.code pc = .ok (.ireturn, 1)) {fs : List Frame}
    (hl : ∀ (f : JFrame) (acts : List Action), f.method = m → f.locked = none → f.entered = [] → (doReturn e (T.setTop f) acts (some (.int z))).1 = T.setFrames fs) : Steps p.tables e below (T.setTop (mkF m pc Ls (.int z :: rest))) (T.setFrames fs) := by
  have hm' : T.vm.method? m = some meth := X.method'
  have hn : narrow .int (.int z) = .int z := rfl
  show Steps p.tables e below (T.setTop { method := m, pc := pc, locals := Ls, stack := _ :: rest, locked := none }) _
  jvm_step X.here [X.here.top, hx, hd, hm', hret, hn]
  first | (intro acts; rw [hl _ acts rfl rfl rfl]) | rw [hl _ _ rfl rfl rfl]
  exact Steps.refl _
end New
end Jvm.RoadKit

namespace Jvm.Pilot.@@N@@
section Dy
open Jvm.FP Jvm.FP.Core
def own_Dy (k : Nat) (i : Int) : Datum → Prop
  | .fin s c q => Whole i (.fin s c (q + (k : Int)))
  | _ => False
theorem own_dy_order {k : Nat} {i j : Int} {x y : Datum} (hx : own_Dy k i x) (hy : own_Dy k j y) : order x y = some (compare i j) := by
  cases x with
  | nan => exact hx.elim
  | inf => exact hx.elim
  | fin s c q =>
    cases y with
    | nan => exact hy.elim
    | inf => exact hy.elim
    | fin t d r =>
      have h := order_whole (x := .fin s c (q + (k : Int))) (y := .fin t d (r + (k : Int))) hx hy
      rw [← h]
      have e1 : min (q + (k : Int)) (r + (k : Int)) = min q r + (k : Int) := by omega
      show some (compare (signed s (inUnits c q (min q r))) (signed t (inUnits d r (min q r)))) = some (compare (signed s (inUnits c (q + (k : Int)) (min (q + (k : Int)) (r + (k : Int))))) (signed t (inUnits d (r + (k : Int)) (min (q + (k : Int)) (r + (k : Int))))))
      unfold inUnits
      rw [e1, show q + (k : Int) - (min q r + (k : Int)) = q - min q r by omega, show r + (k : Int) - (min q r + (k : Int)) = r - min q r by omega]
theorem own_shift {c c' n : Nat} {Q q : Int} (h1 : c * 2 ^ Q.toNat = n * 2 ^ (-Q).toNat) (h2 : c' * 2 ^ q.toNat = n * 2 ^ (-q).toNat) : c * 2 ^ (Q - q).toNat = c' * 2 ^ (q - Q).toNat := by
  obtain ⟨mm, e1, e2⟩ : ∃ mm, Q.toNat + (-q).toNat = (Q - q).toNat + mm ∧ q.toNat + (-Q).toNat = (q - Q).toNat + mm := ⟨min (Q.toNat + (-q).toNat) (q.toNat + (-Q).toNat), by omega, by omega⟩
  have h3 : c * 2 ^ (Q.toNat + (-q).toNat) = c' * 2 ^ (q.toNat + (-Q).toNat) := by
    rw [Nat.pow_add, Nat.pow_add, ← Nat.mul_assoc, ← Nat.mul_assoc, h1, h2, Nat.mul_right_comm]
  rw [e1, e2, Nat.pow_add, Nat.pow_add, ← Nat.mul_assoc, ← Nat.mul_assoc] at h3
  exact Nat.eq_of_mul_eq_mul_right (Nat.two_pow_pos _) h3
theorem own_dy_round {k : Nat} {i : Int} {d : Datum} (hk : k ≤ 900) (hi : i.natAbs ≤ 2 ^ 53) (h : own_Dy k i d) : own_Dy k i (round b64 d) := by
  cases d with
  | nan => exact h.elim
  | inf => exact h.elim
  | fin s c q =>
    have hW : Whole i (.fin s c (q + (k : Int))) := h
    by_cases h0 : i = 0
    · have hc : c = 0 := (whole_zero hW).mpr h0
      subst h0 hc
      show own_Dy k 0 (.fin s 0 b64.qmin)
      show signed s (0 * 2 ^ (b64.qmin + (k : Int)).toNat) = 0 * _
      rw [Nat.zero_mul, Int.zero_mul]
      exact signed_zero s
    · have hR := whole_round good_b64 wide_b64 hi hW
      have hF := round_fits good_b64 (.fin s c (q + (k : Int)))
      have hS : sgn (round b64 (.fin s c (q + (k : Int)))) = s := sgn_roundRatio b64 s c 1 (q + (k : Int))
      cases hr : round b64 (.fin s c (q + (k : Int))) with
      | nan => rw [hr] at hR; exact hR.elim
      | inf => rw [hr] at hR; exact hR.elim
      | fin s' c' q' =>
        rw [hr] at hR hF hS
        have hs : s' = s := hS
        subst hs
        have n1 := whole_natAbs hW
        have n2 := whole_natAbs hR
        obtain ⟨f1, f2, f3, f4⟩ := hF
        have hp : b64.p = 53 := rfl
        have hm : b64.qmin = -1074 := qmin_b64
        have hM : b64.qmax = 971 := by decide
        have hn : 1 ≤ i.natAbs := by omega
        have hq : -53 < q' := by
          refine Int.lt_of_not_ge fun hge => ?_
          have z : q'.toNat = 0 := by omega
          rw [z, Nat.pow_zero, Nat.mul_one] at n2
          have : 2 ^ 53 ≤ 2 ^ (-q').toNat := Nat.pow_le_pow_right (by decide) (by omega)
          have : 1 * 2 ^ (-q').toNat ≤ i.natAbs * 2 ^ (-q').toNat := Nat.mul_le_mul_right _ hn
          rw [hp] at f1
          omega
        have hfit : Jvm.FP.Core.fits b64 (.fin s' c' (q' - (k : Int))) := ⟨f1, by omega, by omega, by omega⟩
        have he : round b64 (.fin s' c q) = .fin s' c' (q' - (k : Int)) := by
          refine roundRatio_exact good_b64 (by decide) hfit ?_
          have := own_shift n1 n2
          rw [show q - (q' - (k : Int)) = q + (k : Int) - q' by omega, show q' - (k : Int) - q = q' - (q + (k : Int)) by omega, Nat.mul_one]
          exact this
        rw [he]
        show Whole i (.fin s' c' (q' - (k : Int) + (k : Int)))
        rw [show q' - (k : Int) + (k : Int) = q' by omega]
        exact hR
theorem own_dy_sum {k : Nat} {i j : Int} {x y : Datum} (hx : own_Dy k i x) (hy : own_Dy k j y) : own_Dy k (i + j) (exactSum x y) := by
  cases x with
  | nan => exact hx.elim
  | inf => exact hx.elim
  | fin s c q =>
    cases y with
    | nan => exact hy.elim
    | inf => exact hy.elim
    | fin t d r =>
      have e1 : min (q + (k : Int)) (r + (k : Int)) = min q r + (k : Int) := by omega
      have e : sumUnits s c (q + (k : Int)) t d (r + (k : Int)) (min (q + (k : Int)) (r + (k : Int))) = sumUnits s c q t d r (min q r) := by
        unfold sumUnits inUnits
        rw [e1, show q + (k : Int) - (min q r + (k : Int)) = q - min q r by omega, show r + (k : Int) - (min q r + (k : Int)) = r - min q r by omega]
      have h : Whole (i + j) (.fin (sumSign s t (sumUnits s c (q + (k : Int)) t d (r + (k : Int)) (min (q + (k : Int)) (r + (k : Int))))) (sumUnits s c (q + (k : Int)) t d (r + (k : Int)) (min (q + (k : Int)) (r + (k : Int)))).natAbs (min (q + (k : Int)) (r + (k : Int)))) := whole_sum (x := .fin s c (q + (k : Int))) (y := .fin t d (r + (k : Int))) hx hy
      rw [e, e1] at h
      exact h
theorem own_dadd {k : Nat} {i j : Int} {a b : UInt64} (hk : k ≤ 900) (ha : own_Dy k i (val64 a)) (hb : own_Dy k j (val64 b)) (h : (i + j).natAbs ≤ 2 ^ 53) : own_Dy k (i + j) (val64 (FP.dadd a b)) := by
  show own_Dy k (i + j) (val64 (Core.dadd a b))
  rw [val64_dadd]
  exact own_dy_round hk h (own_dy_sum ha hb)
theorem own_dy_int {k : Nat} {i : Int} {x : Datum} (h : Whole i x) : own_Dy k (i * ((2 ^ k : Nat) : Int)) x := by
  cases x with
  | nan => exact h.elim
  | inf => exact h.elim
  | fin s c q =>
    show signed s (c * 2 ^ (q + (k : Int)).toNat) = i * ((2 ^ k : Nat) : Int) * ((2 ^ (-(q + (k : Int))).toNat : Nat) : Int)
    have h1 : signed s (c * 2 ^ q.toNat) = i * ((2 ^ (-q).toNat : Nat) : Int) := h
    have e : q.toNat + k + (-(q + (k : Int))).toNat = (q + (k : Int)).toNat + (-q).toNat + (k - k) := by omega
    have p : ((2 ^ (-q).toNat : Nat) : Int) ≠ 0 := by have := Nat.two_pow_pos (-q).toNat; omega
    refine Int.eq_of_mul_eq_mul_right p ?_
    rw [← signed_mul, Nat.mul_assoc, ← Nat.pow_add, show (q + (k : Int)).toNat + (-q).toNat = q.toNat + (k + (-(q + (k : Int))).toNat) by omega, Nat.pow_add, ← Nat.mul_assoc, signed_mul, h1, Nat.pow_add, Int.natCast_mul]
    simp only [Int.mul_assoc, Int.mul_comm, Int.mul_left_comm]
theorem own_ddiv {i : Int} {x : UInt64} (hx : DInt i x) (hi : i.natAbs ≤ 2 ^ 53) : own_Dy 20 i (val64 (FP.ddiv x 4697254411347427328)) := by
  show own_Dy 20 i (val64 (Core.ddiv x 4697254411347427328))
  rw [val64_ddiv, show val64 4697254411347427328 = .fin false (2 ^ 52) (-32) by decide +kernel]
  unfold DInt at hx
  cases hv : val64 x with
  | nan => rw [hv] at hx; exact hx.elim
  | inf => rw [hv] at hx; exact hx.elim
  | fin s c q =>
    rw [hv] at hx
    have e : quotient b64 (.fin s c q) (.fin false (2 ^ 52) (-32)) = round b64 (.fin s c (q - 20)) := by
      show (if (2 ^ 52 : Nat) = 0 then (if c = 0 then Datum.nan else Datum.inf (s != false)) else roundRatio b64 (s != false) c (2 ^ 52) (q - (-32))) = roundRatio b64 s c 1 (q - 20)
      rw [if_neg (by decide), show (s != false) = s by cases s <;> rfl]
      refine roundRatio_congr (by decide) (by decide) ?_
      rw [show (q - (-32) - (q - 20)).toNat = 52 by omega, show (q - 20 - (q - (-32))).toNat = 0 by omega]
      simp
    rw [e]
    refine own_dy_round (by decide) hi ?_
    show Whole i (.fin s c (q - 20 + ((20 : Nat) : Int)))
    rw [show q - 20 + ((20 : Nat) : Int) = q by omega]
    exact hx
theorem own_dcmp {k : Nat} {i j : Int} {a b : UInt64} (ha : own_Dy k i (val64 a)) (hb : own_Dy k j (val64 b)) : FP.dcmp a b = some (compare i j) := own_dy_order ha hb
theorem own_cmp3 (i j : Int) : (i < j ∧ compare i j = .lt) ∨ (i = j ∧ compare i j = .eq) ∨ (j < i ∧ compare i j = .gt) := by
  simp only [compare, compareOfLessAndEq]
  by_cases h1 : i < j
  · left; simp [h1]
  · by_cases h2 : i = j
    · right; left; simp [h2]
    · right; right; exact ⟨by omega, by rw [if_neg h1, if_neg h2]⟩
end Dy
end Jvm.Pilot.@@N@@
namespace Jvm.Pilot.@@N@@
open Jvm Jvm.ClassFile Sem Op Lib Jvm.Free Jvm.Stand Jvm.LawKit Jvm.RoadKit Bundle Jvm.Pilot.@@N@@.Jvm.D

def own_bi (b : Int32) : Int32 := ((1 : Int32) + ((b &&& (2147483647 : Int32)) % (1048575 : Int32)))
def own_ki (k : Int32) : Int32 := ((k &&& (2147483647 : Int32)) % (1048577 : Int32))
def own_fr (i : Int32) : UInt64 := FP.ddiv (FP.i2d i) (4697254411347427328 : UInt64)
def own_meets (k b : UInt64) : Int32 := bif ifCond.holds .gt (cmpValue (FP.dcmp k b) .g) then (0 : Int32) else (1 : Int32)
def own_want (k b : Int32) : Int32 := bif if_icmp.holds .gt k b then (0 : Int32) else (1 : Int32)
theorem own_q_fin : Fl.Fin64 (4697254411347427328 : UInt64) := by unfold Fl.Fin64; decide
theorem own_q_nz : Fl.Nz64 (4697254411347427328 : UInt64) := by unfold Fl.Nz64; decide
theorem own_nar (b : Bool) : nar .boolean (bif b then (0 : Int32) else (1 : Int32)) = bif b then (0 : Int32) else (1 : Int32) := by cases b <;> rfl
theorem own_abs (i : Int32) : i.toInt.natAbs ≤ 2 ^ 53 := by have := Int32.toInt_lt i; have := Int32.le_toInt i; omega
theorem own_law (k b : Int32) : if_icmp.holds .ne (own_meets (own_fr k) (own_fr b)) (own_want k b) = false := by
  unfold own_meets own_want own_fr
  rw [own_dcmp (own_ddiv (FP.Core.i2d_int k) (own_abs k)) (own_ddiv (FP.Core.i2d_int b) (own_abs b))]
  have e : if_icmp.holds .gt k b = decide (b.toInt < k.toInt) := by
    simp only [if_icmp.holds, GT.gt, Int32.lt_iff_toInt_lt]
  rw [e]
  rcases own_cmp3 k.toInt b.toInt with ⟨h1, h2⟩ | ⟨h1, h2⟩ | ⟨h1, h2⟩
  · rw [h2, decide_eq_false (by omega)]; decide
  · rw [h2, decide_eq_false (by omega)]; decide
  · rw [h2, decide_eq_true h1]; decide
theorem own_fld0 {args : Array Value} {s : State} {t : Term} {C n d : String} {a : Addr} (ev : t.eval args s none [] s = some (.ref a)) (h : (Jvm.Cond.eq (Term.field t C n d) (Term.int 0)).value args s none s [] = some true) : Fld s s.heap a C n d (.int 0) := by
  obtain ⟨x, y, h1, h2, k1, k2⟩ := cmp_v (Or.inl h)
  rw [Term.int_eval] at h2
  cases h2
  obtain ⟨z, rfl⟩ := k2
  have hz : z = 0 := by simpa [Jvm.Cond.value, h1, Term.int_eval] using h
  subst hz
  exact Fld.start (by rw [← fld_at ev]; exact h1)
theorem pn_0 : plainName "java/lang/Record" = true := by first | (simp [plainName, overriddenIn]; done) | decide +kernel
theorem djdk_30_method_1_code_0 : decode jdk_30_method_1_code 0 = .ok (.aload_n 0, 1) := by decide +kernel
theorem djdk_30_method_1_code_1 : decode jdk_30_method_1_code 1 = .ok (.invokespecial 1, 3) := by decide +kernel
theorem djdk_30_method_1_code_4 : decode jdk_30_method_1_code 4 = .ok (.return_, 1) := by decide +kernel
theorem ef_rec (m : MethodId) (x0 : Addr) : entryFrame m #[(.ref x0)] 1 = mkF m 0 #[.val (.ref x0)] [] := by first | (simp [entryFrame, mkF, argsToLocals, Value.category]; done) | rfl
def Qrec (Z : State) (a1 : Addr) (h0 : Heap) (n0 : Nat) (v : Option Value) (h : Heap) (L : List Loc) : Prop := v = none ∧ Fr n0 L ∧ h = h0
set_option maxRecDepth 65536 in
set_option maxHeartbeats 40000000 in
theorem rmrec (l : Launch) (Z : State) (a0 : Array Value) (hw : ∀ d ∈ tables_1, d.before a0 Z = true) (ws : List Jvm.Cond) (a1 : Addr) (h0 : Heap) (n0 : Nat) (Z0 : n0 ≤ h0.size) :
    MetFree l (⟨"java/lang/Record", "<init>", "()V"⟩ : MethodName) (head1 (Jvm.Cond.code (⟨"java/lang/Record", "<init>", "()V"⟩ : MethodName) jdk_30_method_1_code 1 none :: ws) ({ frames := 1, cells := 0, slots := 0, locals := 12 } : Room)) (fun a U => a = #[(.ref a1)] ∧ Z.Warmed39 U.vm ∧ U.heap = h0) (fun _ _ _ _ _ => True) (fun _ U o U' => ∃ v L, o = .returned v ∧ Qrec Z a1 h0 n0 v U'.heap L ∧ FrameEnd U o U' L ({ frames := 1, cells := 0, slots := 0, locals := 12 } : Room).cells ({ frames := 1, cells := 0, slots := 0, locals := 12 } : Room).slots) := by
  refine MetFree.of_bodySF (plainFor_of_name pn_0) hisR ?_
  intro p e s m args below meth c s₁ Bd hml0 hP hK
  obtain ⟨rfl, hZ, hh⟩ := hP
  have hx := Bd.exec
  have hby := Bd.bytes
  have hml : c.maxLocals = 1 := hml0
  have hown : s.vm.findClass "java/lang/Record" = some m.cls := findClass_of_methodNamed Bd.named
  have hnm := (name_of_methodNamed Bd.named Bd.method).1
  have X0 : Stand p l e ({ frames := 1, cells := 0, slots := 0, locals := 12 } : Room) s m #[(.ref a1)] below meth c s₁ [] 0 0 := Stand.of_body Bd
  have e0 : s₁.heap = h0 := by rw [← hh, Bd.state]; rfl
  have N0 := Fr.nil n0
  have pre0 : ∀ t, Steps p.tables e below (s₁.setTop (mkF m 0 #[.val (.ref a1)] [])) t → Steps p.tables e below (s₁.setTop (entryFrame m #[(.ref a1)] 1)) t := fun t k => castTop (ef_rec m a1) k
  obtain ⟨T1, X1, e1, st1⟩ := initO X0 hx hZ hown (hw _ (List.mem_of_getElem? (i := 29) rfl)) (hw _ (List.mem_of_getElem? (i := 30) rfl)) (hw _ (List.mem_of_getElem? (i := 31) rfl)) e0 (g := (mkF m 1 #[.val (.ref a1)] [(.ref a1)])) rfl (by rw [hml]; rfl) rfl (hb hby djdk_30_method_1_code_1) (by decide) (W := 0) (by show 2 * 0 + _ ≤ _; exact Nat.le_of_eq rfl) (by decide)
  obtain ⟨fs, hr, hrun, hended, hW, hsame⟩ := X1.leave (v := none) (fun _ => rfl)
  refine ⟨_, _, pre0 _ ?_, hrun, hended, _, _, rfl, ?_, ⟨_, rfl⟩, hW, hsame.mono (by decide) (by decide)⟩
  · show Steps p.tables e below (s₁.setTop (mkF m 0 #[.val (.ref a1)] [])) _
    refine XS.aloadN X0.here hx rfl (hb hby djdk_30_method_1_code_0) rfl rfl ?_
    show Steps p.tables e below (s₁.setTop (mkF m 1 #[.val (.ref a1)] [(.ref a1)])) _
    refine st1 _ ?_
    show Steps p.tables e below (T1.setTop (mkF m 4 #[.val (.ref a1)] [])) _
    exact X1.returnOut hx Bd.returns (hb hby djdk_30_method_1_code_4) hr
  · show Qrec Z a1 h0 n0 _ T1.heap _
    rw [e1]
    exact ⟨rfl, N0, rfl⟩
theorem pn_1 : plainName "java/util/OptionalInt" = true := by first | (simp [plainName, overriddenIn]; done) | decide +kernel
theorem djdk_2649_method_2_code_0 : decode jdk_2649_method_2_code 0 = .ok (.getstatic 17, 3) := by decide +kernel
theorem djdk_2649_method_2_code_3 : decode jdk_2649_method_2_code 3 = .ok (.areturn, 1) := by decide +kernel
theorem ef_emoi (m : MethodId)  : entryFrame m #[] 0 = mkF m 0 #[] [] := by first | (simp [entryFrame, mkF, argsToLocals, Value.category]; done) | rfl
def Qemoi (Z : State) (ao : Addr) (h0 : Heap) (n0 : Nat) (v : Option Value) (h : Heap) (L : List Loc) : Prop := v = some (.ref ao) ∧ Fr n0 L ∧ h = h0
set_option maxRecDepth 65536 in
set_option maxHeartbeats 40000000 in
theorem rmemoi (l : Launch) (Z : State) (a0 : Array Value) (hw : ∀ d ∈ tables_1, d.before a0 Z = true) (ws : List Jvm.Cond) (ao : Addr) (h0 : Heap) (n0 : Nat) (Z0 : n0 ≤ h0.size) (S_o : Sta Z h0 "java/util/OptionalInt" "EMPTY" "Ljava/util/OptionalInt;" (.ref ao)) :
    MetFree l (⟨"java/util/OptionalInt", "empty", "()Ljava/util/OptionalInt;"⟩ : MethodName) (head1 (Jvm.Cond.code (⟨"java/util/OptionalInt", "empty", "()Ljava/util/OptionalInt;"⟩ : MethodName) jdk_2649_method_2_code 0 (some (.object "java/util/OptionalInt")) :: ws) ({ frames := 0, cells := 0, slots := 0, locals := 0 } : Room)) (fun a U => a = #[] ∧ Z.Warmed39 U.vm ∧ U.heap = h0) (fun _ _ _ _ _ => True) (fun _ U o U' => ∃ v L, o = .returned v ∧ Qemoi Z ao h0 n0 v U'.heap L ∧ FrameEnd U o U' L ({ frames := 0, cells := 0, slots := 0, locals := 0 } : Room).cells ({ frames := 0, cells := 0, slots := 0, locals := 0 } : Room).slots) := by
  refine MetFree.of_bodySF (plainFor_of_name pn_1) hisR ?_
  intro p e s m args below meth c s₁ Bd hml0 hP hK
  obtain ⟨rfl, hZ, hh⟩ := hP
  have hx := Bd.exec
  have hby := Bd.bytes
  have hml : c.maxLocals = 0 := hml0
  have hown : s.vm.findClass "java/util/OptionalInt" = some m.cls := findClass_of_methodNamed Bd.named
  have hnm := (name_of_methodNamed Bd.named Bd.method).1
  have X0 : Stand p l e ({ frames := 0, cells := 0, slots := 0, locals := 0 } : Room) s m #[] below meth c s₁ [] 0 0 := Stand.of_body Bd
  have e0 : s₁.heap = h0 := by rw [← hh, Bd.state]; rfl
  have N0 := Fr.nil n0
  have pre0 : ∀ t, Steps p.tables e below (s₁.setTop (mkF m 0 #[] [])) t → Steps p.tables e below (s₁.setTop (entryFrame m #[] 0)) t := fun t k => castTop (ef_emoi m ) k
  obtain ⟨T1, X1, e1, st1⟩ := getS2 X0 hx hZ hown (host := "") (Or.inl (hw _ (List.mem_of_getElem? (i := 15) rfl))) Via.refl e0 S_o (g := (mkF m 0 #[] [])) rfl (hb hby djdk_2649_method_2_code_0)
  obtain ⟨fs, hr, hrun, hended, hW, hsame⟩ := X1.leave (v := some (.ref ao)) (fun h => by rw [Bd.returns] at h; cases h)
  refine ⟨_, _, pre0 _ ?_, hrun, hended, _, _, rfl, ?_, ⟨_, rfl⟩, hW, hsame.mono (by decide) (by decide)⟩
  · show Steps p.tables e below (s₁.setTop (mkF m 0 #[] [])) _
    refine st1 _ ?_
    show Steps p.tables e below (T1.setTop (mkF m 3 #[] [(.ref ao)])) _
    exact retOut X1 hx Bd.returns rfl (Or.inr (Or.inr (Or.inr (Or.inr ⟨rfl, rfl, rfl⟩)))) (hb hby djdk_2649_method_2_code_3) hr
  · show Qemoi Z ao h0 n0 _ T1.heap _
    rw [e1]
    exact ⟨rfl, N0, rfl⟩
theorem djdk_2649_method_6_code_0 : decode jdk_2649_method_6_code 0 = .ok (.aload_n 0, 1) := by decide +kernel
theorem djdk_2649_method_6_code_1 : decode jdk_2649_method_6_code 1 = .ok (.getfield 7, 3) := by decide +kernel
theorem djdk_2649_method_6_code_4 : decode jdk_2649_method_6_code 4 = .ok (.ireturn, 1) := by decide +kernel
theorem ef_ipoi (m : MethodId) (x0 : Addr) : entryFrame m #[(.ref x0)] 1 = mkF m 0 #[.val (.ref x0)] [] := by first | (simp [entryFrame, mkF, argsToLocals, Value.category]; done) | rfl
def Qipoi (Z : State) (ao : Addr) (h0 : Heap) (n0 : Nat) (v : Option Value) (h : Heap) (L : List Loc) : Prop := v = some (.int (0 : Int32)) ∧ Fr n0 L ∧ h = h0
set_option maxRecDepth 65536 in
set_option maxHeartbeats 40000000 in
theorem rmipoi (l : Launch) (Z : State) (a0 : Array Value) (hw : ∀ d ∈ tables_1, d.before a0 Z = true) (ws : List Jvm.Cond) (ao : Addr) (h0 : Heap) (n0 : Nat) (Z0 : n0 ≤ h0.size) (F_o : Fld Z h0 ao "java/util/OptionalInt" "isPresent" "Z" (.int (0 : Int32))) :
    MetFree l (⟨"java/util/OptionalInt", "isPresent", "()Z"⟩ : MethodName) (head1 (Jvm.Cond.code (⟨"java/util/OptionalInt", "isPresent", "()Z"⟩ : MethodName) jdk_2649_method_6_code 1 (some .boolean) :: ws) ({ frames := 0, cells := 0, slots := 0, locals := 0 } : Room)) (fun a U => a = #[(.ref ao)] ∧ Z.Warmed39 U.vm ∧ U.heap = h0) (fun _ _ _ _ _ => True) (fun _ U o U' => ∃ v L, o = .returned v ∧ Qipoi Z ao h0 n0 v U'.heap L ∧ FrameEnd U o U' L ({ frames := 0, cells := 0, slots := 0, locals := 0 } : Room).cells ({ frames := 0, cells := 0, slots := 0, locals := 0 } : Room).slots) := by
  refine MetFree.of_bodySF (plainFor_of_name pn_1) hisR ?_
  intro p e s m args below meth c s₁ Bd hml0 hP hK
  obtain ⟨rfl, hZ, hh⟩ := hP
  have hx := Bd.exec
  have hby := Bd.bytes
  have hml : c.maxLocals = 1 := hml0
  have hown : s.vm.findClass "java/util/OptionalInt" = some m.cls := findClass_of_methodNamed Bd.named
  have hnm := (name_of_methodNamed Bd.named Bd.method).1
  have X0 : Stand p l e ({ frames := 0, cells := 0, slots := 0, locals := 0 } : Room) s m #[(.ref ao)] below meth c s₁ [] 0 0 := Stand.of_body Bd
  have e0 : s₁.heap = h0 := by rw [← hh, Bd.state]; rfl
  have N0 := Fr.nil n0
  have pre0 : ∀ t, Steps p.tables e below (s₁.setTop (mkF m 0 #[.val (.ref ao)] [])) t → Steps p.tables e below (s₁.setTop (entryFrame m #[(.ref ao)] 1)) t := fun t k => castTop (ef_ipoi m ao) k
  obtain ⟨T1, X1, e1, st1⟩ := getF X0 hx hZ hown (host := "") (Or.inl (hw _ (List.mem_of_getElem? (i := 40) rfl))) Via.refl e0 F_o (g := (mkF m 1 #[.val (.ref ao)] [(.ref ao)])) rfl rfl (hb hby djdk_2649_method_6_code_1)
  obtain ⟨fs, hr, hrun, hended, hW, hsame⟩ := X1.leave (v := some (.int (nar .boolean (0 : Int32)))) (fun h => by rw [Bd.returns] at h; cases h)
  refine ⟨_, _, pre0 _ ?_, hrun, hended, _, _, rfl, ?_, ⟨_, rfl⟩, hW, hsame.mono (by decide) (by decide)⟩
  · show Steps p.tables e below (s₁.setTop (mkF m 0 #[.val (.ref ao)] [])) _
    refine XS.aloadN X0.here hx rfl (hb hby djdk_2649_method_6_code_0) rfl rfl ?_
    show Steps p.tables e below (s₁.setTop (mkF m 1 #[.val (.ref ao)] [(.ref ao)])) _
    refine st1 _ ?_
    show Steps p.tables e below (T1.setTop (mkF m 4 #[.val (.ref ao)] [(.int (0 : Int32))])) _
    exact retN X1 hx (t := .boolean) Bd.returns (by simp) (hb hby djdk_2649_method_6_code_4) hr
  · show Qipoi Z ao h0 n0 _ T1.heap _
    rw [e1]
    exact ⟨rfl, N0, rfl⟩
theorem pn_2 : plainName "java/util/OptionalDouble" = true := by first | (simp [plainName, overriddenIn]; done) | decide +kernel
theorem djdk_2648_method_2_code_0 : decode jdk_2648_method_2_code 0 = .ok (.getstatic 21, 3) := by decide +kernel
theorem djdk_2648_method_2_code_3 : decode jdk_2648_method_2_code 3 = .ok (.areturn, 1) := by decide +kernel
theorem ef_emod (m : MethodId)  : entryFrame m #[] 0 = mkF m 0 #[] [] := by first | (simp [entryFrame, mkF, argsToLocals, Value.category]; done) | rfl
def Qemod (Z : State) (ao : Addr) (h0 : Heap) (n0 : Nat) (v : Option Value) (h : Heap) (L : List Loc) : Prop := v = some (.ref ao) ∧ Fr n0 L ∧ h = h0
set_option maxRecDepth 65536 in
set_option maxHeartbeats 40000000 in
theorem rmemod (l : Launch) (Z : State) (a0 : Array Value) (hw : ∀ d ∈ tables_1, d.before a0 Z = true) (ws : List Jvm.Cond) (ao : Addr) (h0 : Heap) (n0 : Nat) (Z0 : n0 ≤ h0.size) (S_o : Sta Z h0 "java/util/OptionalDouble" "EMPTY" "Ljava/util/OptionalDouble;" (.ref ao)) :
    MetFree l (⟨"java/util/OptionalDouble", "empty", "()Ljava/util/OptionalDouble;"⟩ : MethodName) (head1 (Jvm.Cond.code (⟨"java/util/OptionalDouble", "empty", "()Ljava/util/OptionalDouble;"⟩ : MethodName) jdk_2648_method_2_code 0 (some (.object "java/util/OptionalDouble")) :: ws) ({ frames := 0, cells := 0, slots := 0, locals := 0 } : Room)) (fun a U => a = #[] ∧ Z.Warmed39 U.vm ∧ U.heap = h0) (fun _ _ _ _ _ => True) (fun _ U o U' => ∃ v L, o = .returned v ∧ Qemod Z ao h0 n0 v U'.heap L ∧ FrameEnd U o U' L ({ frames := 0, cells := 0, slots := 0, locals := 0 } : Room).cells ({ frames := 0, cells := 0, slots := 0, locals := 0 } : Room).slots) := by
  refine MetFree.of_bodySF (plainFor_of_name pn_2) hisR ?_
  intro p e s m args below meth c s₁ Bd hml0 hP hK
  obtain ⟨rfl, hZ, hh⟩ := hP
  have hx := Bd.exec
  have hby := Bd.bytes
  have hml : c.maxLocals = 0 := hml0
  have hown : s.vm.findClass "java/util/OptionalDouble" = some m.cls := findClass_of_methodNamed Bd.named
  have hnm := (name_of_methodNamed Bd.named Bd.method).1
  have X0 : Stand p l e ({ frames := 0, cells := 0, slots := 0, locals := 0 } : Room) s m #[] below meth c s₁ [] 0 0 := Stand.of_body Bd
  have e0 : s₁.heap = h0 := by rw [← hh, Bd.state]; rfl
  have N0 := Fr.nil n0
  have pre0 : ∀ t, Steps p.tables e below (s₁.setTop (mkF m 0 #[] [])) t → Steps p.tables e below (s₁.setTop (entryFrame m #[] 0)) t := fun t k => castTop (ef_emod m ) k
  obtain ⟨T1, X1, e1, st1⟩ := getS2 X0 hx hZ hown (host := "") (Or.inl (hw _ (List.mem_of_getElem? (i := 20) rfl))) Via.refl e0 S_o (g := (mkF m 0 #[] [])) rfl (hb hby djdk_2648_method_2_code_0)
  obtain ⟨fs, hr, hrun, hended, hW, hsame⟩ := X1.leave (v := some (.ref ao)) (fun h => by rw [Bd.returns] at h; cases h)
  refine ⟨_, _, pre0 _ ?_, hrun, hended, _, _, rfl, ?_, ⟨_, rfl⟩, hW, hsame.mono (by decide) (by decide)⟩
  · show Steps p.tables e below (s₁.setTop (mkF m 0 #[] [])) _
    refine st1 _ ?_
    show Steps p.tables e below (T1.setTop (mkF m 3 #[] [(.ref ao)])) _
    exact retOut X1 hx Bd.returns rfl (Or.inr (Or.inr (Or.inr (Or.inr ⟨rfl, rfl, rfl⟩)))) (hb hby djdk_2648_method_2_code_3) hr
  · show Qemod Z ao h0 n0 _ T1.heap _
    rw [e1]
    exact ⟨rfl, N0, rfl⟩
theorem djdk_2648_method_6_code_0 : decode jdk_2648_method_6_code 0 = .ok (.aload_n 0, 1) := by decide +kernel
theorem djdk_2648_method_6_code_1 : decode jdk_2648_method_6_code 1 = .ok (.getfield 7, 3) := by decide +kernel
theorem djdk_2648_method_6_code_4 : decode jdk_2648_method_6_code 4 = .ok (.ireturn, 1) := by decide +kernel
theorem ef_ipod (m : MethodId) (x0 : Addr) : entryFrame m #[(.ref x0)] 1 = mkF m 0 #[.val (.ref x0)] [] := by first | (simp [entryFrame, mkF, argsToLocals, Value.category]; done) | rfl
def Qipod (Z : State) (ao : Addr) (h0 : Heap) (n0 : Nat) (v : Option Value) (h : Heap) (L : List Loc) : Prop := v = some (.int (0 : Int32)) ∧ Fr n0 L ∧ h = h0
set_option maxRecDepth 65536 in
set_option maxHeartbeats 40000000 in
theorem rmipod (l : Launch) (Z : State) (a0 : Array Value) (hw : ∀ d ∈ tables_1, d.before a0 Z = true) (ws : List Jvm.Cond) (ao : Addr) (h0 : Heap) (n0 : Nat) (Z0 : n0 ≤ h0.size) (F_o : Fld Z h0 ao "java/util/OptionalDouble" "isPresent" "Z" (.int (0 : Int32))) :
    MetFree l (⟨"java/util/OptionalDouble", "isPresent", "()Z"⟩ : MethodName) (head1 (Jvm.Cond.code (⟨"java/util/OptionalDouble", "isPresent", "()Z"⟩ : MethodName) jdk_2648_method_6_code 1 (some .boolean) :: ws) ({ frames := 0, cells := 0, slots := 0, locals := 0 } : Room)) (fun a U => a = #[(.ref ao)] ∧ Z.Warmed39 U.vm ∧ U.heap = h0) (fun _ _ _ _ _ => True) (fun _ U o U' => ∃ v L, o = .returned v ∧ Qipod Z ao h0 n0 v U'.heap L ∧ FrameEnd U o U' L ({ frames := 0, cells := 0, slots := 0, locals := 0 } : Room).cells ({ frames := 0, cells := 0, slots := 0, locals := 0 } : Room).slots) := by
  refine MetFree.of_bodySF (plainFor_of_name pn_2) hisR ?_
  intro p e s m args below meth c s₁ Bd hml0 hP hK
  obtain ⟨rfl, hZ, hh⟩ := hP
  have hx := Bd.exec
  have hby := Bd.bytes
  have hml : c.maxLocals = 1 := hml0
  have hown : s.vm.findClass "java/util/OptionalDouble" = some m.cls := findClass_of_methodNamed Bd.named
  have hnm := (name_of_methodNamed Bd.named Bd.method).1
  have X0 : Stand p l e ({ frames := 0, cells := 0, slots := 0, locals := 0 } : Room) s m #[(.ref ao)] below meth c s₁ [] 0 0 := Stand.of_body Bd
  have e0 : s₁.heap = h0 := by rw [← hh, Bd.state]; rfl
  have N0 := Fr.nil n0
  have pre0 : ∀ t, Steps p.tables e below (s₁.setTop (mkF m 0 #[.val (.ref ao)] [])) t → Steps p.tables e below (s₁.setTop (entryFrame m #[(.ref ao)] 1)) t := fun t k => castTop (ef_ipod m ao) k
  obtain ⟨T1, X1, e1, st1⟩ := getF X0 hx hZ hown (host := "") (Or.inl (hw _ (List.mem_of_getElem? (i := 47) rfl))) Via.refl e0 F_o (g := (mkF m 1 #[.val (.ref ao)] [(.ref ao)])) rfl rfl (hb hby djdk_2648_method_6_code_1)
  obtain ⟨fs, hr, hrun, hended, hW, hsame⟩ := X1.leave (v := some (.int (nar .boolean (0 : Int32)))) (fun h => by rw [Bd.returns] at h; cases h)
  refine ⟨_, _, pre0 _ ?_, hrun, hended, _, _, rfl, ?_, ⟨_, rfl⟩, hW, hsame.mono (by decide) (by decide)⟩
  · show Steps p.tables e below (s₁.setTop (mkF m 0 #[.val (.ref ao)] [])) _
    refine XS.aloadN X0.here hx rfl (hb hby djdk_2648_method_6_code_0) rfl rfl ?_
    show Steps p.tables e below (s₁.setTop (mkF m 1 #[.val (.ref ao)] [(.ref ao)])) _
    refine st1 _ ?_
    show Steps p.tables e below (T1.setTop (mkF m 4 #[.val (.ref ao)] [(.int (0 : Int32))])) _
    exact retN X1 hx (t := .boolean) Bd.returns (by simp) (hb hby djdk_2648_method_6_code_4) hr
  · show Qipod Z ao h0 n0 _ T1.heap _
    rw [e1]
    exact ⟨rfl, N0, rfl⟩
theorem pn_3 : plainName "com/example/lumenweave/lumenweave/traffic/User" = true := by first | (simp [plainName, overriddenIn]; done) | decide +kernel
theorem dprog_68_method_4_code_0 : decode prog_68_method_4_code 0 = .ok (.dload_n 0, 1) := by decide +kernel
theorem dprog_68_method_4_code_1 : decode prog_68_method_4_code 1 = .ok (.dconst 0, 1) := by decide +kernel
theorem dprog_68_method_4_code_2 : decode prog_68_method_4_code 2 = .ok (.dcmp .l, 1) := by decide +kernel
theorem dprog_68_method_4_code_3 : decode prog_68_method_4_code 3 = .ok (.ifCond .le 13, 3) := by decide +kernel
theorem dprog_68_method_4_code_6 : decode prog_68_method_4_code 6 = .ok (.dload_n 0, 1) := by decide +kernel
theorem dprog_68_method_4_code_7 : decode prog_68_method_4_code 7 = .ok (.dconst 1, 1) := by decide +kernel
theorem dprog_68_method_4_code_8 : decode prog_68_method_4_code 8 = .ok (.dcmp .g, 1) := by decide +kernel
theorem dprog_68_method_4_code_9 : decode prog_68_method_4_code 9 = .ok (.ifCond .ge 7, 3) := by decide +kernel
theorem dprog_68_method_4_code_12 : decode prog_68_method_4_code 12 = .ok (.iconst 1, 1) := by decide +kernel
theorem dprog_68_method_4_code_13 : decode prog_68_method_4_code 13 = .ok (.goto 4, 3) := by decide +kernel
theorem dprog_68_method_4_code_16 : decode prog_68_method_4_code 16 = .ok (.iconst 0, 1) := by decide +kernel
theorem dprog_68_method_4_code_17 : decode prog_68_method_4_code 17 = .ok (.ireturn, 1) := by decide +kernel
theorem ef_il (m : MethodId) (x0 : UInt64) : entryFrame m #[(.double x0)] 2 = mkF m 0 #[.val (.double x0), .second] [] := by first | (simp [entryFrame, mkF, argsToLocals, Value.category]; done) | rfl
def Qil (Z : State) (h0 : Heap) (n0 : Nat) (v : Option Value) (h : Heap) (L : List Loc) : Prop := v = some (.int (1 : Int32)) ∧ Fr n0 L ∧ h = h0
set_option maxRecDepth 65536 in
set_option maxHeartbeats 40000000 in
theorem rmil (l : Launch) (Z : State) (a0 : Array Value) (hw : ∀ d ∈ tables_1, d.before a0 Z = true) (ws : List Jvm.Cond) (h0 : Heap) (n0 : Nat) (Z0 : n0 ≤ h0.size) :
    MetFree l (⟨"com/example/lumenweave/lumenweave/traffic/User", "isLoad", "(D)Z"⟩ : MethodName) (head1 (Jvm.Cond.code (⟨"com/example/lumenweave/lumenweave/traffic/User", "isLoad", "(D)Z"⟩ : MethodName) prog_68_method_4_code 2 (some .boolean) :: ws) ({ frames := 0, cells := 0, slots := 0, locals := 0 } : Room)) (fun a U => a = #[(.double (4602678819172646912 : UInt64))] ∧ Z.Warmed39 U.vm ∧ U.heap = h0) (fun _ _ _ _ _ => True) (fun _ U o U' => ∃ v L, o = .returned v ∧ Qil Z h0 n0 v U'.heap L ∧ FrameEnd U o U' L ({ frames := 0, cells := 0, slots := 0, locals := 0 } : Room).cells ({ frames := 0, cells := 0, slots := 0, locals := 0 } : Room).slots) := by
  refine MetFree.of_bodySF (plainFor_of_name pn_3) hisR ?_
  intro p e s m args below meth c s₁ Bd hml0 hP hK
  obtain ⟨rfl, hZ, hh⟩ := hP
  have hx := Bd.exec
  have hby := Bd.bytes
  have hml : c.maxLocals = 2 := hml0
  have hown : s.vm.findClass "com/example/lumenweave/lumenweave/traffic/User" = some m.cls := findClass_of_methodNamed Bd.named
  have hnm := (name_of_methodNamed Bd.named Bd.method).1
  have X0 : Stand p l e ({ frames := 0, cells := 0, slots := 0, locals := 0 } : Room) s m #[(.double (4602678819172646912 : UInt64))] below meth c s₁ [] 0 0 := Stand.of_body Bd
  have e0 : s₁.heap = h0 := by rw [← hh, Bd.state]; rfl
  have N0 := Fr.nil n0
  have pre0 : ∀ t, Steps p.tables e below (s₁.setTop (mkF m 0 #[.val (.double (4602678819172646912 : UInt64)), .second] [])) t → Steps p.tables e below (s₁.setTop (entryFrame m #[(.double (4602678819172646912 : UInt64))] 2)) t := fun t k => castTop (ef_il m (4602678819172646912 : UInt64)) k
  obtain ⟨fs, hr, hrun, hended, hW, hsame⟩ := X0.leave (v := some (.int (nar .boolean (1 : Int32)))) (fun h => by rw [Bd.returns] at h; cases h)
  refine ⟨_, _, pre0 _ ?_, hrun, hended, _, _, rfl, ?_, ⟨_, rfl⟩, hW, hsame.mono (by decide) (by decide)⟩
  · show Steps p.tables e below (s₁.setTop (mkF m 0 #[.val (.double (4602678819172646912 : UInt64)), .second] [])) _
    refine XS.dloadN X0.here hx rfl (hb hby dprog_68_method_4_code_0) rfl ?_
    show Steps p.tables e below (s₁.setTop (mkF m 1 #[.val (.double (4602678819172646912 : UInt64)), .second] [(.double (4602678819172646912 : UInt64))])) _
    refine XS.dconst0 X0.here hx rfl (hb hby dprog_68_method_4_code_1) rfl ?_
    show Steps p.tables e below (s₁.setTop (mkF m 2 #[.val (.double (4602678819172646912 : UInt64)), .second] [(.double (0 : UInt64)), (.double (4602678819172646912 : UInt64))])) _
    refine XS.dcmpS X0.here hx rfl (hb hby dprog_68_method_4_code_2) rfl rfl ?_
    show Steps p.tables e below (s₁.setTop (mkF m 3 #[.val (.double (4602678819172646912 : UInt64)), .second] [(.int (cmpValue (FP.dcmp (4602678819172646912 : UInt64) (0 : UInt64)) .l))])) _
    refine XS.ifNo X0.here hx rfl (hb hby dprog_68_method_4_code_3) rfl (by decide +kernel) ?_
    show Steps p.tables e below (s₁.setTop (mkF m 6 #[.val (.double (4602678819172646912 : UInt64)), .second] [])) _
    refine XS.dloadN X0.here hx rfl (hb hby dprog_68_method_4_code_6) rfl ?_
    show Steps p.tables e below (s₁.setTop (mkF m 7 #[.val (.double (4602678819172646912 : UInt64)), .second] [(.double (4602678819172646912 : UInt64))])) _
    refine XS.dconst1 X0.here hx rfl (hb hby dprog_68_method_4_code_7) rfl ?_
    show Steps p.tables e below (s₁.setTop (mkF m 8 #[.val (.double (4602678819172646912 : UInt64)), .second] [(.double (4607182418800017408 : UInt64)), (.double (4602678819172646912 : UInt64))])) _
    refine XS.dcmpS X0.here hx rfl (hb hby dprog_68_method_4_code_8) rfl rfl ?_
    show Steps p.tables e below (s₁.setTop (mkF m 9 #[.val (.double (4602678819172646912 : UInt64)), .second] [(.int (cmpValue (FP.dcmp (4602678819172646912 : UInt64) (4607182418800017408 : UInt64)) .g))])) _
    refine XS.ifNo X0.here hx rfl (hb hby dprog_68_method_4_code_9) rfl (by decide +kernel) ?_
    show Steps p.tables e below (s₁.setTop (mkF m 12 #[.val (.double (4602678819172646912 : UInt64)), .second] [])) _
    refine XS.iconst X0.here hx rfl (hb hby dprog_68_method_4_code_12) ?_
    show Steps p.tables e below (s₁.setTop (mkF m 13 #[.val (.double (4602678819172646912 : UInt64)), .second] [(.int (1 : Int32))])) _
    refine XS.goto X0.here hx rfl (pc0 := 13) (pc' := 17) rfl (hb hby dprog_68_method_4_code_13) (by decide) (by decide) ?_
    show Steps p.tables e below (s₁.setTop (mkF m 17 #[.val (.double (4602678819172646912 : UInt64)), .second] [(.int (1 : Int32))])) _
    exact retN X0 hx (t := .boolean) Bd.returns (by simp) (hb hby dprog_68_method_4_code_17) hr
  · show Qil Z h0 n0 _ s₁.heap _
    rw [e0]
    exact ⟨rfl, N0, rfl⟩
theorem pd_0 : parseMethodDescriptor "()V" = some ⟨[], none⟩ := by decide +kernel
theorem pd_1 : parseMethodDescriptor "(D)Z" = some ⟨[.double], some .boolean⟩ := by decide +kernel
theorem pd_2 : parseMethodDescriptor "()Z" = some ⟨[], some .boolean⟩ := by decide +kernel
theorem dprog_68_method_1_code_0 : decode prog_68_method_1_code 0 = .ok (.aload_n 0, 1) := by decide +kernel
theorem dprog_68_method_1_code_1 : decode prog_68_method_1_code 1 = .ok (.invokespecial 1, 3) := by decide +kernel
theorem dprog_68_method_1_code_4 : decode prog_68_method_1_code 4 = .ok (.iload_n 1, 1) := by decide +kernel
theorem dprog_68_method_1_code_5 : decode prog_68_method_1_code 5 = .ok (.iload_n 2, 1) := by decide +kernel
theorem dprog_68_method_1_code_6 : decode prog_68_method_1_code 6 = .ok (.if_icmp .ne 17, 3) := by decide +kernel
theorem dprog_68_method_1_code_9 : decode prog_68_method_1_code 9 = .ok (.new 7, 3) := by decide +kernel
theorem dprog_68_method_1_code_12 : decode prog_68_method_1_code 12 = .ok (.dup, 1) := by decide +kernel
theorem dprog_68_method_1_code_13 : decode prog_68_method_1_code 13 = .ok (.iload_n 1, 1) := by decide +kernel
theorem dprog_68_method_1_code_19 : decode prog_68_method_1_code 19 = .ok (.invokespecial 13, 3) := by decide +kernel
theorem dprog_68_method_1_code_22 : decode prog_68_method_1_code 22 = .ok (.athrow, 1) := by decide +kernel
theorem dprog_68_method_1_code_23 : decode prog_68_method_1_code 23 = .ok (.dload_n 3, 1) := by decide +kernel
theorem dprog_68_method_1_code_24 : decode prog_68_method_1_code 24 = .ok (.invokestatic 16, 3) := by decide +kernel
theorem dprog_68_method_1_code_27 : decode prog_68_method_1_code 27 = .ok (.ifCond .ne 17, 3) := by decide +kernel
theorem dprog_68_method_1_code_30 : decode prog_68_method_1_code 30 = .ok (.new 7, 3) := by decide +kernel
theorem dprog_68_method_1_code_33 : decode prog_68_method_1_code 33 = .ok (.dup, 1) := by decide +kernel
theorem dprog_68_method_1_code_34 : decode prog_68_method_1_code 34 = .ok (.dload_n 3, 1) := by decide +kernel
theorem dprog_68_method_1_code_40 : decode prog_68_method_1_code 40 = .ok (.invokespecial 13, 3) := by decide +kernel
theorem dprog_68_method_1_code_43 : decode prog_68_method_1_code 43 = .ok (.athrow, 1) := by decide +kernel
theorem dprog_68_method_1_code_44 : decode prog_68_method_1_code 44 = .ok (.aload 5, 2) := by decide +kernel
theorem dprog_68_method_1_code_46 : decode prog_68_method_1_code 46 = .ok (.invokevirtual 25, 3) := by decide +kernel
theorem dprog_68_method_1_code_49 : decode prog_68_method_1_code 49 = .ok (.ifCond .eq 30, 3) := by decide +kernel
theorem dprog_68_method_1_code_52 : decode prog_68_method_1_code 52 = .ok (.aload 5, 2) := by decide +kernel
theorem dprog_68_method_1_code_54 : decode prog_68_method_1_code 54 = .ok (.invokevirtual 31, 3) := by decide +kernel
theorem dprog_68_method_1_code_57 : decode prog_68_method_1_code 57 = .ok (.iconst 1, 1) := by decide +kernel
theorem dprog_68_method_1_code_58 : decode prog_68_method_1_code 58 = .ok (.if_icmp .ge 21, 3) := by decide +kernel
theorem dprog_68_method_1_code_61 : decode prog_68_method_1_code 61 = .ok (.new 7, 3) := by decide +kernel
theorem dprog_68_method_1_code_64 : decode prog_68_method_1_code 64 = .ok (.dup, 1) := by decide +kernel
theorem dprog_68_method_1_code_65 : decode prog_68_method_1_code 65 = .ok (.aload 5, 2) := by decide +kernel
theorem dprog_68_method_1_code_67 : decode prog_68_method_1_code 67 = .ok (.invokevirtual 31, 3) := by decide +kernel
theorem dprog_68_method_1_code_75 : decode prog_68_method_1_code 75 = .ok (.invokespecial 13, 3) := by decide +kernel
theorem dprog_68_method_1_code_78 : decode prog_68_method_1_code 78 = .ok (.athrow, 1) := by decide +kernel
theorem dprog_68_method_1_code_79 : decode prog_68_method_1_code 79 = .ok (.aload 6, 2) := by decide +kernel
theorem dprog_68_method_1_code_81 : decode prog_68_method_1_code 81 = .ok (.invokevirtual 36, 3) := by decide +kernel
theorem dprog_68_method_1_code_84 : decode prog_68_method_1_code 84 = .ok (.ifCond .eq 32, 3) := by decide +kernel
theorem dprog_68_method_1_code_87 : decode prog_68_method_1_code 87 = .ok (.aload 6, 2) := by decide +kernel
theorem dprog_68_method_1_code_89 : decode prog_68_method_1_code 89 = .ok (.invokevirtual 39, 3) := by decide +kernel
theorem dprog_68_method_1_code_92 : decode prog_68_method_1_code 92 = .ok (.invokestatic 43, 3) := by decide +kernel
theorem dprog_68_method_1_code_95 : decode prog_68_method_1_code 95 = .ok (.ifCond .ne 21, 3) := by decide +kernel
theorem dprog_68_method_1_code_98 : decode prog_68_method_1_code 98 = .ok (.new 7, 3) := by decide +kernel
theorem dprog_68_method_1_code_101 : decode prog_68_method_1_code 101 = .ok (.dup, 1) := by decide +kernel
theorem dprog_68_method_1_code_102 : decode prog_68_method_1_code 102 = .ok (.aload 6, 2) := by decide +kernel
theorem dprog_68_method_1_code_104 : decode prog_68_method_1_code 104 = .ok (.invokevirtual 39, 3) := by decide +kernel
theorem dprog_68_method_1_code_112 : decode prog_68_method_1_code 112 = .ok (.invokespecial 13, 3) := by decide +kernel
theorem dprog_68_method_1_code_115 : decode prog_68_method_1_code 115 = .ok (.athrow, 1) := by decide +kernel
theorem dprog_68_method_1_code_116 : decode prog_68_method_1_code 116 = .ok (.aload_n 0, 1) := by decide +kernel
theorem dprog_68_method_1_code_117 : decode prog_68_method_1_code 117 = .ok (.iload_n 1, 1) := by decide +kernel
theorem dprog_68_method_1_code_118 : decode prog_68_method_1_code 118 = .ok (.putfield 47, 3) := by decide +kernel
theorem dprog_68_method_1_code_121 : decode prog_68_method_1_code 121 = .ok (.aload_n 0, 1) := by decide +kernel
theorem dprog_68_method_1_code_122 : decode prog_68_method_1_code 122 = .ok (.iload_n 2, 1) := by decide +kernel
theorem dprog_68_method_1_code_123 : decode prog_68_method_1_code 123 = .ok (.putfield 51, 3) := by decide +kernel
theorem dprog_68_method_1_code_126 : decode prog_68_method_1_code 126 = .ok (.aload_n 0, 1) := by decide +kernel
theorem dprog_68_method_1_code_127 : decode prog_68_method_1_code 127 = .ok (.dload_n 3, 1) := by decide +kernel
theorem dprog_68_method_1_code_128 : decode prog_68_method_1_code 128 = .ok (.putfield 54, 3) := by decide +kernel
theorem dprog_68_method_1_code_131 : decode prog_68_method_1_code 131 = .ok (.aload_n 0, 1) := by decide +kernel
theorem dprog_68_method_1_code_132 : decode prog_68_method_1_code 132 = .ok (.aload 5, 2) := by decide +kernel
theorem dprog_68_method_1_code_134 : decode prog_68_method_1_code 134 = .ok (.putfield 58, 3) := by decide +kernel
theorem dprog_68_method_1_code_137 : decode prog_68_method_1_code 137 = .ok (.aload_n 0, 1) := by decide +kernel
theorem dprog_68_method_1_code_138 : decode prog_68_method_1_code 138 = .ok (.aload 6, 2) := by decide +kernel
theorem dprog_68_method_1_code_140 : decode prog_68_method_1_code 140 = .ok (.putfield 62, 3) := by decide +kernel
theorem dprog_68_method_1_code_143 : decode prog_68_method_1_code 143 = .ok (.return_, 1) := by decide +kernel
theorem ef_u5 (m : MethodId) (x0 : Addr) (x1 : Int32) (x2 : Int32) (x3 : UInt64) (x4 : Addr) (x5 : Addr) : entryFrame m #[(.ref x0), (.int x1), (.int x2), (.double x3), (.ref x4), (.ref x5)] 7 = mkF m 0 #[.val (.ref x0), .val (.int x1), .val (.int x2), .val (.double x3), .second, .val (.ref x4), .val (.ref x5)] [] := by first | (simp [entryFrame, mkF, argsToLocals, Value.category]; done) | rfl
def Qu5 (Z : State) (a1 aoi aod : Addr) (h0 : Heap) (n0 : Nat) (v : Option Value) (h : Heap) (L : List Loc) : Prop := v = none ∧ Fr n0 L ∧ Keep h0 h [a1] ∧ Exa Z h a1 "com/example/lumenweave/lumenweave/traffic/User"
set_option maxRecDepth 65536 in
set_option maxHeartbeats 40000000 in
theorem rmu5 (l : Launch) (Z : State) (a0 : Array Value) (hw : ∀ d ∈ tables_1, d.before a0 Z = true) (ws : List Jvm.Cond) (a1 aoi aod : Addr) (h0 : Heap) (n0 : Nat) (Z0 : n0 ≤ h0.size) (F_source : Fld Z h0 a1 "com/example/lumenweave/lumenweave/traffic/User" "source" "I" (.int (0 : Int32))) (F_target : Fld Z h0 a1 "com/example/lumenweave/lumenweave/traffic/User" "target" "I" (.int (0 : Int32))) (F_load : Fld Z h0 a1 "com/example/lumenweave/lumenweave/traffic/User" "load" "D" (.double (0 : UInt64))) (F_maxWavelength : Fld Z h0 a1 "com/example/lumenweave/lumenweave/traffic/User" "maxWavelength" "Ljava/util/OptionalInt;" .null) (F_beta : Fld Z h0 a1 "com/example/lumenweave/lumenweave/traffic/User" "beta" "Ljava/util/OptionalDouble;" .null) (E_a : Exa Z h0 a1 "com/example/lumenweave/lumenweave/traffic/User") (g_a : n0 ≤ a1) (E_oi : Exa Z h0 aoi "java/util/OptionalInt") (F_oi : Fld Z h0 aoi "java/util/OptionalInt" "isPresent" "Z" (.int (0 : Int32))) (E_od : Exa Z h0 aod "java/util/OptionalDouble") (F_od : Fld Z h0 aod "java/util/OptionalDouble" "isPresent" "Z" (.int (0 : Int32))) :
    MetFree l (⟨"com/example/lumenweave/lumenweave/traffic/User", "<init>", "(IIDLjava/util/OptionalInt;Ljava/util/OptionalDouble;)V"⟩ : MethodName) (head1 (Jvm.Cond.code (⟨"com/example/lumenweave/lumenweave/traffic/User", "<init>", "(IIDLjava/util/OptionalInt;Ljava/util/OptionalDouble;)V"⟩ : MethodName) prog_68_method_1_code 7 none :: ws) ({ frames := 2, cells := 0, slots := 0, locals := 24 } : Room)) (fun a U => a = #[(.ref a1), (.int (0 : Int32)), (.int (1 : Int32)), (.double (4602678819172646912 : UInt64)), (.ref aoi), (.ref aod)] ∧ Z.Warmed39 U.vm ∧ U.heap = h0) (fun _ _ _ _ _ => True) (fun _ U o U' => ∃ v L, o = .returned v ∧ Qu5 Z a1 aoi aod h0 n0 v U'.heap L ∧ FrameEnd U o U' L ({ frames := 2, cells := 0, slots := 0, locals := 24 } : Room).cells ({ frames := 2, cells := 0, slots := 0, locals := 24 } : Room).slots) := by
  refine MetFree.of_bodySF (plainFor_of_name pn_3) hisR ?_
  intro p e s m args below meth c s₁ Bd hml0 hP hK
  obtain ⟨rfl, hZ, hh⟩ := hP
  have hx := Bd.exec
  have hby := Bd.bytes
  have hml : c.maxLocals = 7 := hml0
  have hown : s.vm.findClass "com/example/lumenweave/lumenweave/traffic/User" = some m.cls := findClass_of_methodNamed Bd.named
  have hnm := (name_of_methodNamed Bd.named Bd.method).1
  have X0 : Stand p l e ({ frames := 2, cells := 0, slots := 0, locals := 24 } : Room) s m #[(.ref a1), (.int (0 : Int32)), (.int (1 : Int32)), (.double (4602678819172646912 : UInt64)), (.ref aoi), (.ref aod)] below meth c s₁ [] 0 0 := Stand.of_body Bd
  have e0 : s₁.heap = h0 := by rw [← hh, Bd.state]; rfl
  have N0 := Fr.nil n0
  have pre0 : ∀ t, Steps p.tables e below (s₁.setTop (mkF m 0 #[.val (.ref a1), .val (.int (0 : Int32)), .val (.int (1 : Int32)), .val (.double (4602678819172646912 : UInt64)), .second, .val (.ref aoi), .val (.ref aod)] [])) t → Steps p.tables e below (s₁.setTop (entryFrame m #[(.ref a1), (.int (0 : Int32)), (.int (1 : Int32)), (.double (4602678819172646912 : UInt64)), (.ref aoi), (.ref aod)] 7)) t := fun t k => castTop (ef_u5 m a1 (0 : Int32) (1 : Int32) (4602678819172646912 : UInt64) aoi aod) k
  obtain ⟨_, _, ⟨T1, L1, k1, n1⟩, -, X1, ⟨Lc1, hQ1, l1, y1, z1⟩, st1⟩ := X0.specialBack hx (y := (⟨"java/lang/Record", "<init>", "()V"⟩ : MethodName)) rfl hown (mvT hZ (hw _ (List.mem_of_getElem? (i := 24) rfl))) (mvT hZ (hw _ (List.mem_of_getElem? (i := 25) rfl))) (mvT hZ (hw _ (List.mem_of_getElem? (i := 28) rfl))) (by decide) (backOf (W := 0) (rmrec l Z a0 hw [] a1 h0 n0 Z0) hZ (hw _ (List.mem_of_getElem? (i := 28) rfl)) (hw _ (List.mem_of_getElem? (i := 27) rfl)) (by decide) (by decide)) (g := (mkF m 1 #[.val (.ref a1), .val (.int (0 : Int32)), .val (.int (1 : Int32)), .val (.double (4602678819172646912 : UInt64)), .second, .val (.ref aoi), .val (.ref aod)] [(.ref a1)])) rfl (by rw [hml]; rfl) (Steps.refl _) (a := a1) (argsL := []) (rest := []) (lenOf pd_0 rfl) rfl (by show 2 * 0 + _ ≤ _; exact Nat.le_of_eq rfl) (hb hby dprog_68_method_1_code_1) (fun _ _ => ⟨rfl, e0, (by decide : 0 + 0 ≤ _), (by decide : 0 + 0 ≤ _)⟩)
  dsimp only [Pt.U, Pt.locs, Pt.cells, Pt.slots] at X1 l1 y1 z1 st1 hQ1
  subst l1 y1 z1
  obtain ⟨rfl, N1q, eh1⟩ := hQ1
  have N1 := Fr.app N0 N1q
  obtain ⟨_, _, ⟨T2, L2, k2, n2⟩, -, X2, ⟨Lc2, hQ2, l2, y2, z2⟩, st2⟩ := Jvm.LawKit.callS X1 hx (y := (⟨"com/example/lumenweave/lumenweave/traffic/User", "isLoad", "(D)Z"⟩ : MethodName)) hown (mvT hZ (hw _ (List.mem_of_getElem? (i := 32) rfl))) (mvT hZ (hw _ (List.mem_of_getElem? (i := 33) rfl))) (mvT hZ (hw _ (List.mem_of_getElem? (i := 6) rfl))) (mvT hZ (hw _ (List.mem_of_getElem? (i := 34) rfl))) (by decide) (backOf (W := 0) (rmil l Z a0 hw []  h0 n0 Z0) hZ (hw _ (List.mem_of_getElem? (i := 34) rfl)) (hw _ (List.mem_of_getElem? (i := 6) rfl)) (by decide) (by decide)) (g := (mkF m 24 #[.val (.ref a1), .val (.int (0 : Int32)), .val (.int (1 : Int32)), .val (.double (4602678819172646912 : UInt64)), .second, .val (.ref aoi), .val (.ref aod)] [(.double (4602678819172646912 : UInt64))])) rfl (by rw [hml]; rfl) (argsL := [(.double (4602678819172646912 : UInt64))]) (rest := []) (lenOf pd_1 rfl) rfl (by show 2 * 0 + _ ≤ _; exact Nat.le_of_eq rfl) (hb hby dprog_68_method_1_code_24) (fun _ _ => ⟨rfl, eh1, (by decide : 0 + 0 ≤ _), (by decide : 0 + 0 ≤ _)⟩)
  dsimp only [Pt.U, Pt.locs, Pt.cells, Pt.slots] at X2 l2 y2 z2 st2 hQ2
  subst l2 y2 z2
  obtain ⟨rfl, N2q, eh2⟩ := hQ2
  have N2 := Fr.app N1 N2q
  obtain ⟨cq3, kq3, q3a, q3b, q3c⟩ := isOf hZ eh2 E_oi
  obtain ⟨_, _, ⟨T3, L3, k3, n3⟩, -, X3, ⟨Lc3, hQ3, l3, y3, z3⟩, st3⟩ := X2.virtualBack hx (y := (⟨"java/util/OptionalInt", "isPresent", "()Z"⟩ : MethodName)) (z := (⟨"java/util/OptionalInt", "isPresent", "()Z"⟩ : MethodName)) hown (mvT hZ (hw _ (List.mem_of_getElem? (i := 35) rfl))) (mvT hZ (hw _ (List.mem_of_getElem? (i := 36) rfl))) (notFace_of_selects (args := #[]) (mvT hZ (hw _ (List.mem_of_getElem? (i := 38) rfl)))) (mvT hZ (hw _ (List.mem_of_getElem? (i := 38) rfl))) (mvT hZ (hw _ (List.mem_of_getElem? (i := 37) rfl))) (by decide) (backOf (W := 0) (rmipoi l Z a0 hw [] aoi h0 n0 Z0 F_oi) hZ (hw _ (List.mem_of_getElem? (i := 39) rfl)) (hw _ (List.mem_of_getElem? (i := 13) rfl)) (by decide) (by decide)) q3a q3c (g := (mkF m 46 #[.val (.ref a1), .val (.int (0 : Int32)), .val (.int (1 : Int32)), .val (.double (4602678819172646912 : UInt64)), .second, .val (.ref aoi), .val (.ref aod)] [(.ref aoi)])) rfl (by rw [hml]; rfl) (Steps.refl _) (argsL := []) (rest := []) (lenOf pd_2 rfl) rfl (by show 2 * 0 + _ ≤ _; exact Nat.le_of_eq rfl) (hb hby dprog_68_method_1_code_46) (fun _ _ => ⟨rfl, eh2, (by decide : 0 + 0 ≤ _), (by decide : 0 + 0 ≤ _)⟩)
  dsimp only [Pt.U, Pt.locs, Pt.cells, Pt.slots] at X3 l3 y3 z3 st3 hQ3
  subst l3 y3 z3
  obtain ⟨rfl, N3q, eh3⟩ := hQ3
  have N3 := Fr.app N2 N3q
  obtain ⟨cq4, kq4, q4a, q4b, q4c⟩ := isOf hZ eh3 E_od
  obtain ⟨_, _, ⟨T4, L4, k4, n4⟩, -, X4, ⟨Lc4, hQ4, l4, y4, z4⟩, st4⟩ := X3.virtualBack hx (y := (⟨"java/util/OptionalDouble", "isPresent", "()Z"⟩ : MethodName)) (z := (⟨"java/util/OptionalDouble", "isPresent", "()Z"⟩ : MethodName)) hown (mvT hZ (hw _ (List.mem_of_getElem? (i := 42) rfl))) (mvT hZ (hw _ (List.mem_of_getElem? (i := 43) rfl))) (notFace_of_selects (args := #[]) (mvT hZ (hw _ (List.mem_of_getElem? (i := 45) rfl)))) (mvT hZ (hw _ (List.mem_of_getElem? (i := 45) rfl))) (mvT hZ (hw _ (List.mem_of_getElem? (i := 44) rfl))) (by decide) (backOf (W := 0) (rmipod l Z a0 hw [] aod h0 n0 Z0 F_od) hZ (hw _ (List.mem_of_getElem? (i := 46) rfl)) (hw _ (List.mem_of_getElem? (i := 18) rfl)) (by decide) (by decide)) q4a q4c (g := (mkF m 81 #[.val (.ref a1), .val (.int (0 : Int32)), .val (.int (1 : Int32)), .val (.double (4602678819172646912 : UInt64)), .second, .val (.ref aoi), .val (.ref aod)] [(.ref aod)])) rfl (by rw [hml]; rfl) (Steps.refl _) (argsL := []) (rest := []) (lenOf pd_2 rfl) rfl (by show 2 * 0 + _ ≤ _; exact Nat.le_of_eq rfl) (hb hby dprog_68_method_1_code_81) (fun _ _ => ⟨rfl, eh3, (by decide : 0 + 0 ≤ _), (by decide : 0 + 0 ≤ _)⟩)
  dsimp only [Pt.U, Pt.locs, Pt.cells, Pt.slots] at X4 l4 y4 z4 st4 hQ4
  subst l4 y4 z4
  obtain ⟨rfl, N4q, eh4⟩ := hQ4
  have N4 := Fr.app N3 N4q
  obtain ⟨T5, h5, X5, e5, W5, st5⟩ := putF X4 hx hZ hown (host := "") (Or.inl (hw _ (List.mem_of_getElem? (i := 49) rfl))) Via.refl eh4 F_source E_a (Or.inr ⟨(hw _ (List.mem_of_getElem? (i := 50) rfl)), rfl, hnm⟩) (hw _ (List.mem_of_getElem? (i := 5) rfl)) (ty := .int) (by decide) rfl rfl (g := (mkF m 118 #[.val (.ref a1), .val (.int (0 : Int32)), .val (.int (1 : Int32)), .val (.double (4602678819172646912 : UInt64)), .second, .val (.ref aoi), .val (.ref aod)] [(.int (0 : Int32)), (.ref a1)])) rfl rfl (hb hby dprog_68_method_1_code_118)
  have Fw5 : Fld Z h5 a1 "com/example/lumenweave/lumenweave/traffic/User" "source" "I" (.int (0 : Int32)) := F_source.same W5
  have N5 := Fr.snoc X5 N4 g_a
  obtain ⟨T6, h6, X6, e6, W6, st6⟩ := putF X5 hx hZ hown (host := "") (Or.inl (hw _ (List.mem_of_getElem? (i := 51) rfl))) Via.refl e5 (F_target.other W5 (Or.inr (slot_ne (Or.inr (hw _ (List.mem_of_getElem? (i := 52) rfl))) (Or.inr (hw _ (List.mem_of_getElem? (i := 50) rfl))) (by decide) (t := .int) (t' := .int) (by decide) (by decide)))) (E_a.wr W5) (Or.inr ⟨(hw _ (List.mem_of_getElem? (i := 52) rfl)), rfl, hnm⟩) (hw _ (List.mem_of_getElem? (i := 5) rfl)) (ty := .int) (by decide) rfl rfl (g := (mkF m 123 #[.val (.ref a1), .val (.int (0 : Int32)), .val (.int (1 : Int32)), .val (.double (4602678819172646912 : UInt64)), .second, .val (.ref aoi), .val (.ref aod)] [(.int (1 : Int32)), (.ref a1)])) rfl rfl (hb hby dprog_68_method_1_code_123)
  have Fw6 : Fld Z h6 a1 "com/example/lumenweave/lumenweave/traffic/User" "target" "I" (.int (1 : Int32)) := (F_target.other W5 (Or.inr (slot_ne (Or.inr (hw _ (List.mem_of_getElem? (i := 52) rfl))) (Or.inr (hw _ (List.mem_of_getElem? (i := 50) rfl))) (by decide) (t := .int) (t' := .int) (by decide) (by decide)))).same W6
  have N6 := Fr.snoc X6 N5 g_a
  obtain ⟨T7, h7, X7, e7, W7, st7⟩ := putF X6 hx hZ hown (host := "") (Or.inl (hw _ (List.mem_of_getElem? (i := 53) rfl))) Via.refl e6 ((F_load.other W5 (Or.inr (slot_ne (Or.inr (hw _ (List.mem_of_getElem? (i := 54) rfl))) (Or.inr (hw _ (List.mem_of_getElem? (i := 50) rfl))) (by decide) (t := .double) (t' := .int) (by decide) (by decide)))).other W6 (Or.inr (slot_ne (Or.inr (hw _ (List.mem_of_getElem? (i := 54) rfl))) (Or.inr (hw _ (List.mem_of_getElem? (i := 52) rfl))) (by decide) (t := .double) (t' := .int) (by decide) (by decide)))) ((E_a.wr W5).wr W6) (Or.inr ⟨(hw _ (List.mem_of_getElem? (i := 54) rfl)), rfl, hnm⟩) (hw _ (List.mem_of_getElem? (i := 5) rfl)) (ty := .double) (by decide) rfl rfl (g := (mkF m 128 #[.val (.ref a1), .val (.int (0 : Int32)), .val (.int (1 : Int32)), .val (.double (4602678819172646912 : UInt64)), .second, .val (.ref aoi), .val (.ref aod)] [(.double (4602678819172646912 : UInt64)), (.ref a1)])) rfl rfl (hb hby dprog_68_method_1_code_128)
  have Fw7 : Fld Z h7 a1 "com/example/lumenweave/lumenweave/traffic/User" "load" "D" (.double (4602678819172646912 : UInt64)) := ((F_load.other W5 (Or.inr (slot_ne (Or.inr (hw _ (List.mem_of_getElem? (i := 54) rfl))) (Or.inr (hw _ (List.mem_of_getElem? (i := 50) rfl))) (by decide) (t := .double) (t' := .int) (by decide) (by decide)))).other W6 (Or.inr (slot_ne (Or.inr (hw _ (List.mem_of_getElem? (i := 54) rfl))) (Or.inr (hw _ (List.mem_of_getElem? (i := 52) rfl))) (by decide) (t := .double) (t' := .int) (by decide) (by decide)))).same W7
  have N7 := Fr.snoc X7 N6 g_a
  obtain ⟨T8, h8, X8, e8, W8, st8⟩ := putF X7 hx hZ hown (host := "") (Or.inl (hw _ (List.mem_of_getElem? (i := 55) rfl))) Via.refl e7 (((F_maxWavelength.other W5 (Or.inr (slot_ne (Or.inr (hw _ (List.mem_of_getElem? (i := 56) rfl))) (Or.inr (hw _ (List.mem_of_getElem? (i := 50) rfl))) (by decide) (t := (.object "java/util/OptionalInt")) (t' := .int) (by decide) (by decide)))).other W6 (Or.inr (slot_ne (Or.inr (hw _ (List.mem_of_getElem? (i := 56) rfl))) (Or.inr (hw _ (List.mem_of_getElem? (i := 52) rfl))) (by decide) (t := (.object "java/util/OptionalInt")) (t' := .int) (by decide) (by decide)))).other W7 (Or.inr (slot_ne (Or.inr (hw _ (List.mem_of_getElem? (i := 56) rfl))) (Or.inr (hw _ (List.mem_of_getElem? (i := 54) rfl))) (by decide) (t := (.object "java/util/OptionalInt")) (t' := .double) (by decide) (by decide)))) (((E_a.wr W5).wr W6).wr W7) (Or.inr ⟨(hw _ (List.mem_of_getElem? (i := 56) rfl)), rfl, hnm⟩) (hw _ (List.mem_of_getElem? (i := 5) rfl)) (ty := (.object "java/util/OptionalInt")) (by decide) rfl rfl (g := (mkF m 134 #[.val (.ref a1), .val (.int (0 : Int32)), .val (.int (1 : Int32)), .val (.double (4602678819172646912 : UInt64)), .second, .val (.ref aoi), .val (.ref aod)] [(.ref aoi), (.ref a1)])) rfl rfl (hb hby dprog_68_method_1_code_134)
  have Fw8 : Fld Z h8 a1 "com/example/lumenweave/lumenweave/traffic/User" "maxWavelength" "Ljava/util/OptionalInt;" (.ref aoi) := (((F_maxWavelength.other W5 (Or.inr (slot_ne (Or.inr (hw _ (List.mem_of_getElem? (i := 56) rfl))) (Or.inr (hw _ (List.mem_of_getElem? (i := 50) rfl))) (by decide) (t := (.object "java/util/OptionalInt")) (t' := .int) (by decide) (by decide)))).other W6 (Or.inr (slot_ne (Or.inr (hw _ (List.mem_of_getElem? (i := 56) rfl))) (Or.inr (hw _ (List.mem_of_getElem? (i := 52) rfl))) (by decide) (t := (.object "java/util/OptionalInt")) (t' := .int) (by decide) (by decide)))).other W7 (Or.inr (slot_ne (Or.inr (hw _ (List.mem_of_getElem? (i := 56) rfl))) (Or.inr (hw _ (List.mem_of_getElem? (i := 54) rfl))) (by decide) (t := (.object "java/util/OptionalInt")) (t' := .double) (by decide) (by decide)))).same W8
  have N8 := Fr.snoc X8 N7 g_a
  obtain ⟨T9, h9, X9, e9, W9, st9⟩ := putF X8 hx hZ hown (host := "") (Or.inl (hw _ (List.mem_of_getElem? (i := 57) rfl))) Via.refl e8 ((((F_beta.other W5 (Or.inr (slot_ne (Or.inr (hw _ (List.mem_of_getElem? (i := 58) rfl))) (Or.inr (hw _ (List.mem_of_getElem? (i := 50) rfl))) (by decide) (t := (.object "java/util/OptionalDouble")) (t' := .int) (by decide) (by decide)))).other W6 (Or.inr (slot_ne (Or.inr (hw _ (List.mem_of_getElem? (i := 58) rfl))) (Or.inr (hw _ (List.mem_of_getElem? (i := 52) rfl))) (by decide) (t := (.object "java/util/OptionalDouble")) (t' := .int) (by decide) (by decide)))).other W7 (Or.inr (slot_ne (Or.inr (hw _ (List.mem_of_getElem? (i := 58) rfl))) (Or.inr (hw _ (List.mem_of_getElem? (i := 54) rfl))) (by decide) (t := (.object "java/util/OptionalDouble")) (t' := .double) (by decide) (by decide)))).other W8 (Or.inr (slot_ne (Or.inr (hw _ (List.mem_of_getElem? (i := 58) rfl))) (Or.inr (hw _ (List.mem_of_getElem? (i := 56) rfl))) (by decide) (t := (.object "java/util/OptionalDouble")) (t' := (.object "java/util/OptionalInt")) (by decide) (by decide)))) ((((E_a.wr W5).wr W6).wr W7).wr W8) (Or.inr ⟨(hw _ (List.mem_of_getElem? (i := 58) rfl)), rfl, hnm⟩) (hw _ (List.mem_of_getElem? (i := 5) rfl)) (ty := (.object "java/util/OptionalDouble")) (by decide) rfl rfl (g := (mkF m 140 #[.val (.ref a1), .val (.int (0 : Int32)), .val (.int (1 : Int32)), .val (.double (4602678819172646912 : UInt64)), .second, .val (.ref aoi), .val (.ref aod)] [(.ref aod), (.ref a1)])) rfl rfl (hb hby dprog_68_method_1_code_140)
  have Fw9 : Fld Z h9 a1 "com/example/lumenweave/lumenweave/traffic/User" "beta" "Ljava/util/OptionalDouble;" (.ref aod) := ((((F_beta.other W5 (Or.inr (slot_ne (Or.inr (hw _ (List.mem_of_getElem? (i := 58) rfl))) (Or.inr (hw _ (List.mem_of_getElem? (i := 50) rfl))) (by decide) (t := (.object "java/util/OptionalDouble")) (t' := .int) (by decide) (by decide)))).other W6 (Or.inr (slot_ne (Or.inr (hw _ (List.mem_of_getElem? (i := 58) rfl))) (Or.inr (hw _ (List.mem_of_getElem? (i := 52) rfl))) (by decide) (t := (.object "java/util/OptionalDouble")) (t' := .int) (by decide) (by decide)))).other W7 (Or.inr (slot_ne (Or.inr (hw _ (List.mem_of_getElem? (i := 58) rfl))) (Or.inr (hw _ (List.mem_of_getElem? (i := 54) rfl))) (by decide) (t := (.object "java/util/OptionalDouble")) (t' := .double) (by decide) (by decide)))).other W8 (Or.inr (slot_ne (Or.inr (hw _ (List.mem_of_getElem? (i := 58) rfl))) (Or.inr (hw _ (List.mem_of_getElem? (i := 56) rfl))) (by decide) (t := (.object "java/util/OptionalDouble")) (t' := (.object "java/util/OptionalInt")) (by decide) (by decide)))).same W9
  have N9 := Fr.snoc X9 N8 g_a
  obtain ⟨fs, hr, hrun, hended, hW, hsame⟩ := X9.leave (v := none) (fun _ => rfl)
  refine ⟨_, _, pre0 _ ?_, hrun, hended, _, _, rfl, ?_, ⟨_, rfl⟩, hW, hsame.mono (by decide) (by decide)⟩
  · show Steps p.tables e below (s₁.setTop (mkF m 0 #[.val (.ref a1), .val (.int (0 : Int32)), .val (.int (1 : Int32)), .val (.double (4602678819172646912 : UInt64)), .second, .val (.ref aoi), .val (.ref aod)] [])) _
    refine XS.aloadN X0.here hx rfl (hb hby dprog_68_method_1_code_0) rfl rfl ?_
    show Steps p.tables e below (s₁.setTop (mkF m 1 #[.val (.ref a1), .val (.int (0 : Int32)), .val (.int (1 : Int32)), .val (.double (4602678819172646912 : UInt64)), .second, .val (.ref aoi), .val (.ref aod)] [(.ref a1)])) _
    refine st1.trans ?_
    show Steps p.tables e below (T1.setTop (mkF m 4 #[.val (.ref a1), .val (.int (0 : Int32)), .val (.int (1 : Int32)), .val (.double (4602678819172646912 : UInt64)), .second, .val (.ref aoi), .val (.ref aod)] [])) _
    refine XS.iloadN X1.here hx rfl (hb hby dprog_68_method_1_code_4) rfl ?_
    show Steps p.tables e below (T1.setTop (mkF m 5 #[.val (.ref a1), .val (.int (0 : Int32)), .val (.int (1 : Int32)), .val (.double (4602678819172646912 : UInt64)), .second, .val (.ref aoi), .val (.ref aod)] [(.int (0 : Int32))])) _
    refine XS.iloadN X1.here hx rfl (hb hby dprog_68_method_1_code_5) rfl ?_
    show Steps p.tables e below (T1.setTop (mkF m 6 #[.val (.ref a1), .val (.int (0 : Int32)), .val (.int (1 : Int32)), .val (.double (4602678819172646912 : UInt64)), .second, .val (.ref aoi), .val (.ref aod)] [(.int (1 : Int32)), (.int (0 : Int32))])) _
    refine XS.icmpYes X1.here hx rfl (pc0 := 6) (pc' := 23) rfl (hb hby dprog_68_method_1_code_6) rfl (by decide) (by decide) (by decide) ?_
    show Steps p.tables e below (T1.setTop (mkF m 23 #[.val (.ref a1), .val (.int (0 : Int32)), .val (.int (1 : Int32)), .val (.double (4602678819172646912 : UInt64)), .second, .val (.ref aoi), .val (.ref aod)] [])) _
    refine XS.dloadN X1.here hx rfl (hb hby dprog_68_method_1_code_23) rfl ?_
    show Steps p.tables e below (T1.setTop (mkF m 24 #[.val (.ref a1), .val (.int (0 : Int32)), .val (.int (1 : Int32)), .val (.double (4602678819172646912 : UInt64)), .second, .val (.ref aoi), .val (.ref aod)] [(.double (4602678819172646912 : UInt64))])) _
    refine st2 _ ?_
    show Steps p.tables e below (T2.setTop (mkF m 27 #[.val (.ref a1), .val (.int (0 : Int32)), .val (.int (1 : Int32)), .val (.double (4602678819172646912 : UInt64)), .second, .val (.ref aoi), .val (.ref aod)] [(.int (1 : Int32))])) _
    refine XS.ifYes X2.here hx rfl (pc0 := 27) (pc' := 44) rfl (hb hby dprog_68_method_1_code_27) rfl (by decide) (by decide) (by decide) ?_
    show Steps p.tables e below (T2.setTop (mkF m 44 #[.val (.ref a1), .val (.int (0 : Int32)), .val (.int (1 : Int32)), .val (.double (4602678819172646912 : UInt64)), .second, .val (.ref aoi), .val (.ref aod)] [])) _
    refine XS.aload X2.here hx rfl (hb hby dprog_68_method_1_code_44) rfl rfl ?_
    show Steps p.tables e below (T2.setTop (mkF m 46 #[.val (.ref a1), .val (.int (0 : Int32)), .val (.int (1 : Int32)), .val (.double (4602678819172646912 : UInt64)), .second, .val (.ref aoi), .val (.ref aod)] [(.ref aoi)])) _
    refine st3.trans ?_
    show Steps p.tables e below (T3.setTop (mkF m 49 #[.val (.ref a1), .val (.int (0 : Int32)), .val (.int (1 : Int32)), .val (.double (4602678819172646912 : UInt64)), .second, .val (.ref aoi), .val (.ref aod)] [(.int (0 : Int32))])) _
    refine XS.ifYes X3.here hx rfl (pc0 := 49) (pc' := 79) rfl (hb hby dprog_68_method_1_code_49) rfl (by decide) (by decide) (by decide) ?_
    show Steps p.tables e below (T3.setTop (mkF m 79 #[.val (.ref a1), .val (.int (0 : Int32)), .val (.int (1 : Int32)), .val (.double (4602678819172646912 : UInt64)), .second, .val (.ref aoi), .val (.ref aod)] [])) _
    refine XS.aload X3.here hx rfl (hb hby dprog_68_method_1_code_79) rfl rfl ?_
    show Steps p.tables e below (T3.setTop (mkF m 81 #[.val (.ref a1), .val (.int (0 : Int32)), .val (.int (1 : Int32)), .val (.double (4602678819172646912 : UInt64)), .second, .val (.ref aoi), .val (.ref aod)] [(.ref aod)])) _
    refine st4.trans ?_
    show Steps p.tables e below (T4.setTop (mkF m 84 #[.val (.ref a1), .val (.int (0 : Int32)), .val (.int (1 : Int32)), .val (.double (4602678819172646912 : UInt64)), .second, .val (.ref aoi), .val (.ref aod)] [(.int (0 : Int32))])) _
    refine XS.ifYes X4.here hx rfl (pc0 := 84) (pc' := 116) rfl (hb hby dprog_68_method_1_code_84) rfl (by decide) (by decide) (by decide) ?_
    show Steps p.tables e below (T4.setTop (mkF m 116 #[.val (.ref a1), .val (.int (0 : Int32)), .val (.int (1 : Int32)), .val (.double (4602678819172646912 : UInt64)), .second, .val (.ref aoi), .val (.ref aod)] [])) _
    refine XS.aloadN X4.here hx rfl (hb hby dprog_68_method_1_code_116) rfl rfl ?_
    show Steps p.tables e below (T4.setTop (mkF m 117 #[.val (.ref a1), .val (.int (0 : Int32)), .val (.int (1 : Int32)), .val (.double (4602678819172646912 : UInt64)), .second, .val (.ref aoi), .val (.ref aod)] [(.ref a1)])) _
    refine XS.iloadN X4.here hx rfl (hb hby dprog_68_method_1_code_117) rfl ?_
    show Steps p.tables e below (T4.setTop (mkF m 118 #[.val (.ref a1), .val (.int (0 : Int32)), .val (.int (1 : Int32)), .val (.double (4602678819172646912 : UInt64)), .second, .val (.ref aoi), .val (.ref aod)] [(.int (0 : Int32)), (.ref a1)])) _
    refine st5 _ ?_
    show Steps p.tables e below (T5.setTop (mkF m 121 #[.val (.ref a1), .val (.int (0 : Int32)), .val (.int (1 : Int32)), .val (.double (4602678819172646912 : UInt64)), .second, .val (.ref aoi), .val (.ref aod)] [])) _
    refine XS.aloadN X5.here hx rfl (hb hby dprog_68_method_1_code_121) rfl rfl ?_
    show Steps p.tables e below (T5.setTop (mkF m 122 #[.val (.ref a1), .val (.int (0 : Int32)), .val (.int (1 : Int32)), .val (.double (4602678819172646912 : UInt64)), .second, .val (.ref aoi), .val (.ref aod)] [(.ref a1)])) _
    refine XS.iloadN X5.here hx rfl (hb hby dprog_68_method_1_code_122) rfl ?_
    show Steps p.tables e below (T5.setTop (mkF m 123 #[.val (.ref a1), .val (.int (0 : Int32)), .val (.int (1 : Int32)), .val (.double (4602678819172646912 : UInt64)), .second, .val (.ref aoi), .val (.ref aod)] [(.int (1 : Int32)), (.ref a1)])) _
    refine st6 _ ?_
    show Steps p.tables e below (T6.setTop (mkF m 126 #[.val (.ref a1), .val (.int (0 : Int32)), .val (.int (1 : Int32)), .val (.double (4602678819172646912 : UInt64)), .second, .val (.ref aoi), .val (.ref aod)] [])) _
    refine XS.aloadN X6.here hx rfl (hb hby dprog_68_method_1_code_126) rfl rfl ?_
    show Steps p.tables e below (T6.setTop (mkF m 127 #[.val (.ref a1), .val (.int (0 : Int32)), .val (.int (1 : Int32)), .val (.double (4602678819172646912 : UInt64)), .second, .val (.ref aoi), .val (.ref aod)] [(.ref a1)])) _
    refine XS.dloadN X6.here hx rfl (hb hby dprog_68_method_1_code_127) rfl ?_
    show Steps p.tables e below (T6.setTop (mkF m 128 #[.val (.ref a1), .val (.int (0 : Int32)), .val (.int (1 : Int32)), .val (.double (4602678819172646912 : UInt64)), .second, .val (.ref aoi), .val (.ref aod)] [(.double (4602678819172646912 : UInt64)), (.ref a1)])) _
    refine st7 _ ?_
    show Steps p.tables e below (T7.setTop (mkF m 131 #[.val (.ref a1), .val (.int (0 : Int32)), .val (.int (1 : Int32)), .val (.double (4602678819172646912 : UInt64)), .second, .val (.ref aoi), .val (.ref aod)] [])) _
    refine XS.aloadN X7.here hx rfl (hb hby dprog_68_method_1_code_131) rfl rfl ?_
    show Steps p.tables e below (T7.setTop (mkF m 132 #[.val (.ref a1), .val (.int (0 : Int32)), .val (.int (1 : Int32)), .val (.double (4602678819172646912 : UInt64)), .second, .val (.ref aoi), .val (.ref aod)] [(.ref a1)])) _
    refine XS.aload X7.here hx rfl (hb hby dprog_68_method_1_code_132) rfl rfl ?_
    show Steps p.tables e below (T7.setTop (mkF m 134 #[.val (.ref a1), .val (.int (0 : Int32)), .val (.int (1 : Int32)), .val (.double (4602678819172646912 : UInt64)), .second, .val (.ref aoi), .val (.ref aod)] [(.ref aoi), (.ref a1)])) _
    refine st8 _ ?_
    show Steps p.tables e below (T8.setTop (mkF m 137 #[.val (.ref a1), .val (.int (0 : Int32)), .val (.int (1 : Int32)), .val (.double (4602678819172646912 : UInt64)), .second, .val (.ref aoi), .val (.ref aod)] [])) _
    refine XS.aloadN X8.here hx rfl (hb hby dprog_68_method_1_code_137) rfl rfl ?_
    show Steps p.tables e below (T8.setTop (mkF m 138 #[.val (.ref a1), .val (.int (0 : Int32)), .val (.int (1 : Int32)), .val (.double (4602678819172646912 : UInt64)), .second, .val (.ref aoi), .val (.ref aod)] [(.ref a1)])) _
    refine XS.aload X8.here hx rfl (hb hby dprog_68_method_1_code_138) rfl rfl ?_
    show Steps p.tables e below (T8.setTop (mkF m 140 #[.val (.ref a1), .val (.int (0 : Int32)), .val (.int (1 : Int32)), .val (.double (4602678819172646912 : UInt64)), .second, .val (.ref aoi), .val (.ref aod)] [(.ref aod), (.ref a1)])) _
    refine st9 _ ?_
    show Steps p.tables e below (T9.setTop (mkF m 143 #[.val (.ref a1), .val (.int (0 : Int32)), .val (.int (1 : Int32)), .val (.double (4602678819172646912 : UInt64)), .second, .val (.ref aoi), .val (.ref aod)] [])) _
    exact X9.returnOut hx Bd.returns (hb hby dprog_68_method_1_code_143) hr
  · show Qu5 Z a1 aoi aod h0 n0 _ T9.heap _
    rw [e9]
    exact ⟨rfl, N9, ((((((Keep.refl h0 [a1]).wr W5 (Or.inl (List.mem_of_getElem? (i := 0) rfl))).wr W6 (Or.inl (List.mem_of_getElem? (i := 0) rfl))).wr W7 (Or.inl (List.mem_of_getElem? (i := 0) rfl))).wr W8 (Or.inl (List.mem_of_getElem? (i := 0) rfl))).wr W9 (Or.inl (List.mem_of_getElem? (i := 0) rfl))), (((((E_a.wr W5).wr W6).wr W7).wr W8).wr W9)⟩
theorem pd_3 : parseMethodDescriptor "()Ljava/util/OptionalInt;" = some ⟨[], some (.object "java/util/OptionalInt")⟩ := by decide +kernel
theorem pd_4 : parseMethodDescriptor "()Ljava/util/OptionalDouble;" = some ⟨[], some (.object "java/util/OptionalDouble")⟩ := by decide +kernel
theorem pd_5 : parseMethodDescriptor "(IIDLjava/util/OptionalInt;Ljava/util/OptionalDouble;)V" = some ⟨[.int, .int, .double, (.object "java/util/OptionalInt"), (.object "java/util/OptionalDouble")], none⟩ := by decide +kernel
theorem dprog_68_method_2_code_0 : decode prog_68_method_2_code 0 = .ok (.aload_n 0, 1) := by decide +kernel
theorem dprog_68_method_2_code_1 : decode prog_68_method_2_code 1 = .ok (.iload_n 1, 1) := by decide +kernel
theorem dprog_68_method_2_code_2 : decode prog_68_method_2_code 2 = .ok (.iload_n 2, 1) := by decide +kernel
theorem dprog_68_method_2_code_3 : decode prog_68_method_2_code 3 = .ok (.dload_n 3, 1) := by decide +kernel
theorem dprog_68_method_2_code_4 : decode prog_68_method_2_code 4 = .ok (.invokestatic 66, 3) := by decide +kernel
theorem dprog_68_method_2_code_7 : decode prog_68_method_2_code 7 = .ok (.invokestatic 70, 3) := by decide +kernel
theorem dprog_68_method_2_code_10 : decode prog_68_method_2_code 10 = .ok (.invokespecial 73, 3) := by decide +kernel
theorem dprog_68_method_2_code_13 : decode prog_68_method_2_code 13 = .ok (.return_, 1) := by decide +kernel
theorem ef_u3 (m : MethodId) (x0 : Addr) (x1 : Int32) (x2 : Int32) (x3 : UInt64) : entryFrame m #[(.ref x0), (.int x1), (.int x2), (.double x3)] 5 = mkF m 0 #[.val (.ref x0), .val (.int x1), .val (.int x2), .val (.double x3), .second] [] := by first | (simp [entryFrame, mkF, argsToLocals, Value.category]; done) | rfl
def Qu3 (Z : State) (a1 aoi aod : Addr) (h0 : Heap) (n0 : Nat) (v : Option Value) (h : Heap) (L : List Loc) : Prop := v = none ∧ Fr n0 L ∧ Keep h0 h [a1] ∧ Exa Z h a1 "com/example/lumenweave/lumenweave/traffic/User"
set_option maxRecDepth 65536 in
set_option maxHeartbeats 40000000 in
theorem rmu3 (l : Launch) (Z : State) (a0 : Array Value) (hw : ∀ d ∈ tables_1, d.before a0 Z = true) (ws : List Jvm.Cond) (a1 aoi aod : Addr) (h0 : Heap) (n0 : Nat) (Z0 : n0 ≤ h0.size) (F_source : Fld Z h0 a1 "com/example/lumenweave/lumenweave/traffic/User" "source" "I" (.int (0 : Int32))) (F_target : Fld Z h0 a1 "com/example/lumenweave/lumenweave/traffic/User" "target" "I" (.int (0 : Int32))) (F_load : Fld Z h0 a1 "com/example/lumenweave/lumenweave/traffic/User" "load" "D" (.double (0 : UInt64))) (F_maxWavelength : Fld Z h0 a1 "com/example/lumenweave/lumenweave/traffic/User" "maxWavelength" "Ljava/util/OptionalInt;" .null) (F_beta : Fld Z h0 a1 "com/example/lumenweave/lumenweave/traffic/User" "beta" "Ljava/util/OptionalDouble;" .null) (E_a : Exa Z h0 a1 "com/example/lumenweave/lumenweave/traffic/User") (g_a : n0 ≤ a1) (E_oi : Exa Z h0 aoi "java/util/OptionalInt") (F_oi : Fld Z h0 aoi "java/util/OptionalInt" "isPresent" "Z" (.int (0 : Int32))) (E_od : Exa Z h0 aod "java/util/OptionalDouble") (F_od : Fld Z h0 aod "java/util/OptionalDouble" "isPresent" "Z" (.int (0 : Int32))) (S_oi : Sta Z h0 "java/util/OptionalInt" "EMPTY" "Ljava/util/OptionalInt;" (.ref aoi)) (S_od : Sta Z h0 "java/util/OptionalDouble" "EMPTY" "Ljava/util/OptionalDouble;" (.ref aod)) :
    MetFree l (⟨"com/example/lumenweave/lumenweave/traffic/User", "<init>", "(IID)V"⟩ : MethodName) (head1 (Jvm.Cond.code (⟨"com/example/lumenweave/lumenweave/traffic/User", "<init>", "(IID)V"⟩ : MethodName) prog_68_method_2_code 5 none :: ws) ({ frames := 3, cells := 0, slots := 0, locals := 42 } : Room)) (fun a U => a = #[(.ref a1), (.int (0 : Int32)), (.int (1 : Int32)), (.double (4602678819172646912 : UInt64))] ∧ Z.Warmed39 U.vm ∧ U.heap = h0) (fun _ _ _ _ _ => True) (fun _ U o U' => ∃ v L, o = .returned v ∧ Qu3 Z a1 aoi aod h0 n0 v U'.heap L ∧ FrameEnd U o U' L ({ frames := 3, cells := 0, slots := 0, locals := 42 } : Room).cells ({ frames := 3, cells := 0, slots := 0, locals := 42 } : Room).slots) := by
  refine MetFree.of_bodySF (plainFor_of_name pn_3) hisR ?_
  intro p e s m args below meth c s₁ Bd hml0 hP hK
  obtain ⟨rfl, hZ, hh⟩ := hP
  have hx := Bd.exec
  have hby := Bd.bytes
  have hml : c.maxLocals = 5 := hml0
  have hown : s.vm.findClass "com/example/lumenweave/lumenweave/traffic/User" = some m.cls := findClass_of_methodNamed Bd.named
  have hnm := (name_of_methodNamed Bd.named Bd.method).1
  have X0 : Stand p l e ({ frames := 3, cells := 0, slots := 0, locals := 42 } : Room) s m #[(.ref a1), (.int (0 : Int32)), (.int (1 : Int32)), (.double (4602678819172646912 : UInt64))] below meth c s₁ [] 0 0 := Stand.of_body Bd
  have e0 : s₁.heap = h0 := by rw [← hh, Bd.state]; rfl
  have N0 := Fr.nil n0
  have pre0 : ∀ t, Steps p.tables e below (s₁.setTop (mkF m 0 #[.val (.ref a1), .val (.int (0 : Int32)), .val (.int (1 : Int32)), .val (.double (4602678819172646912 : UInt64)), .second] [])) t → Steps p.tables e below (s₁.setTop (entryFrame m #[(.ref a1), (.int (0 : Int32)), (.int (1 : Int32)), (.double (4602678819172646912 : UInt64))] 5)) t := fun t k => castTop (ef_u3 m a1 (0 : Int32) (1 : Int32) (4602678819172646912 : UInt64)) k
  obtain ⟨_, _, ⟨T1, L1, k1, n1⟩, -, X1, ⟨Lc1, hQ1, l1, y1, z1⟩, st1⟩ := Jvm.LawKit.callS X0 hx (y := (⟨"java/util/OptionalInt", "empty", "()Ljava/util/OptionalInt;"⟩ : MethodName)) hown (mvT hZ (hw _ (List.mem_of_getElem? (i := 11) rfl))) (mvT hZ (hw _ (List.mem_of_getElem? (i := 12) rfl))) (mvT hZ (hw _ (List.mem_of_getElem? (i := 13) rfl))) (mvT hZ (hw _ (List.mem_of_getElem? (i := 14) rfl))) (by decide) (backOf (W := 5) (rmemoi l Z a0 hw [] aoi h0 n0 Z0 S_oi) hZ (hw _ (List.mem_of_getElem? (i := 14) rfl)) (hw _ (List.mem_of_getElem? (i := 13) rfl)) (by decide) (by decide)) (g := (mkF m 4 #[.val (.ref a1), .val (.int (0 : Int32)), .val (.int (1 : Int32)), .val (.double (4602678819172646912 : UInt64)), .second] [(.double (4602678819172646912 : UInt64)), (.int (1 : Int32)), (.int (0 : Int32)), (.ref a1)])) rfl (by rw [hml]; rfl) (argsL := []) (rest := [(.double (4602678819172646912 : UInt64)), (.int (1 : Int32)), (.int (0 : Int32)), (.ref a1)]) (lenOf pd_3 rfl) rfl (by show 2 * 0 + _ ≤ _; exact Nat.le_of_eq rfl) (hb hby dprog_68_method_2_code_4) (fun _ _ => ⟨rfl, e0, (by decide : 0 + 0 ≤ _), (by decide : 0 + 0 ≤ _)⟩)
  dsimp only [Pt.U, Pt.locs, Pt.cells, Pt.slots] at X1 l1 y1 z1 st1 hQ1
  subst l1 y1 z1
  obtain ⟨rfl, N1q, eh1⟩ := hQ1
  have N1 := Fr.app N0 N1q
  obtain ⟨_, _, ⟨T2, L2, k2, n2⟩, -, X2, ⟨Lc2, hQ2, l2, y2, z2⟩, st2⟩ := Jvm.LawKit.callS X1 hx (y := (⟨"java/util/OptionalDouble", "empty", "()Ljava/util/OptionalDouble;"⟩ : MethodName)) hown (mvT hZ (hw _ (List.mem_of_getElem? (i := 16) rfl))) (mvT hZ (hw _ (List.mem_of_getElem? (i := 17) rfl))) (mvT hZ (hw _ (List.mem_of_getElem? (i := 18) rfl))) (mvT hZ (hw _ (List.mem_of_getElem? (i := 19) rfl))) (by decide) (backOf (W := 6) (rmemod l Z a0 hw [] aod h0 n0 Z0 S_od) hZ (hw _ (List.mem_of_getElem? (i := 19) rfl)) (hw _ (List.mem_of_getElem? (i := 18) rfl)) (by decide) (by decide)) (g := (mkF m 7 #[.val (.ref a1), .val (.int (0 : Int32)), .val (.int (1 : Int32)), .val (.double (4602678819172646912 : UInt64)), .second] [(.ref aoi), (.double (4602678819172646912 : UInt64)), (.int (1 : Int32)), (.int (0 : Int32)), (.ref a1)])) rfl (by rw [hml]; rfl) (argsL := []) (rest := [(.ref aoi), (.double (4602678819172646912 : UInt64)), (.int (1 : Int32)), (.int (0 : Int32)), (.ref a1)]) (lenOf pd_4 rfl) rfl (by show 2 * 0 + _ ≤ _; exact Nat.le_of_eq rfl) (hb hby dprog_68_method_2_code_7) (fun _ _ => ⟨rfl, eh1, (by decide : 0 + 0 ≤ _), (by decide : 0 + 0 ≤ _)⟩)
  dsimp only [Pt.U, Pt.locs, Pt.cells, Pt.slots] at X2 l2 y2 z2 st2 hQ2
  subst l2 y2 z2
  obtain ⟨rfl, N2q, eh2⟩ := hQ2
  have N2 := Fr.app N1 N2q
  obtain ⟨_, _, ⟨T3, L3, k3, n3⟩, -, X3, ⟨Lc3, hQ3, l3, y3, z3⟩, st3⟩ := X2.specialBack hx (y := (⟨"com/example/lumenweave/lumenweave/traffic/User", "<init>", "(IIDLjava/util/OptionalInt;Ljava/util/OptionalDouble;)V"⟩ : MethodName)) rfl hown (mvT hZ (hw _ (List.mem_of_getElem? (i := 21) rfl))) (mvT hZ (hw _ (List.mem_of_getElem? (i := 22) rfl))) (mvT hZ (hw _ (List.mem_of_getElem? (i := 23) rfl))) (by decide) (backOf (W := 0) (rmu5 l Z a0 hw [] a1 aoi aod h0 n0 Z0 F_source F_target F_load F_maxWavelength F_beta E_a g_a E_oi F_oi E_od F_od) hZ (hw _ (List.mem_of_getElem? (i := 23) rfl)) (hw _ (List.mem_of_getElem? (i := 6) rfl)) (by decide) (by decide)) (g := (mkF m 10 #[.val (.ref a1), .val (.int (0 : Int32)), .val (.int (1 : Int32)), .val (.double (4602678819172646912 : UInt64)), .second] [(.ref aod), (.ref aoi), (.double (4602678819172646912 : UInt64)), (.int (1 : Int32)), (.int (0 : Int32)), (.ref a1)])) rfl (by rw [hml]; rfl) (Steps.refl _) (a := a1) (argsL := [(.int (0 : Int32)), (.int (1 : Int32)), (.double (4602678819172646912 : UInt64)), (.ref aoi), (.ref aod)]) (rest := []) (lenOf pd_5 rfl) rfl (by show 2 * 0 + _ ≤ _; exact Nat.le_of_eq rfl) (hb hby dprog_68_method_2_code_10) (fun _ _ => ⟨rfl, eh2, (by decide : 0 + 0 ≤ _), (by decide : 0 + 0 ≤ _)⟩)
  dsimp only [Pt.U, Pt.locs, Pt.cells, Pt.slots] at X3 l3 y3 z3 st3 hQ3
  subst l3 y3 z3
  obtain ⟨rfl, N3q, K3, Ea3⟩ := hQ3
  have N3 := Fr.app N2 N3q
  obtain ⟨fs, hr, hrun, hended, hW, hsame⟩ := X3.leave (v := none) (fun _ => rfl)
  refine ⟨_, _, pre0 _ ?_, hrun, hended, _, _, rfl, ?_, ⟨_, rfl⟩, hW, hsame.mono (by decide) (by decide)⟩
  · show Steps p.tables e below (s₁.setTop (mkF m 0 #[.val (.ref a1), .val (.int (0 : Int32)), .val (.int (1 : Int32)), .val (.double (4602678819172646912 : UInt64)), .second] [])) _
    refine XS.aloadN X0.here hx rfl (hb hby dprog_68_method_2_code_0) rfl rfl ?_
    show Steps p.tables e below (s₁.setTop (mkF m 1 #[.val (.ref a1), .val (.int (0 : Int32)), .val (.int (1 : Int32)), .val (.double (4602678819172646912 : UInt64)), .second] [(.ref a1)])) _
    refine XS.iloadN X0.here hx rfl (hb hby dprog_68_method_2_code_1) rfl ?_
    show Steps p.tables e below (s₁.setTop (mkF m 2 #[.val (.ref a1), .val (.int (0 : Int32)), .val (.int (1 : Int32)), .val (.double (4602678819172646912 : UInt64)), .second] [(.int (0 : Int32)), (.ref a1)])) _
    refine XS.iloadN X0.here hx rfl (hb hby dprog_68_method_2_code_2) rfl ?_
    show Steps p.tables e below (s₁.setTop (mkF m 3 #[.val (.ref a1), .val (.int (0 : Int32)), .val (.int (1 : Int32)), .val (.double (4602678819172646912 : UInt64)), .second] [(.int (1 : Int32)), (.int (0 : Int32)), (.ref a1)])) _
    refine XS.dloadN X0.here hx rfl (hb hby dprog_68_method_2_code_3) rfl ?_
    show Steps p.tables e below (s₁.setTop (mkF m 4 #[.val (.ref a1), .val (.int (0 : Int32)), .val (.int (1 : Int32)), .val (.double (4602678819172646912 : UInt64)), .second] [(.double (4602678819172646912 : UInt64)), (.int (1 : Int32)), (.int (0 : Int32)), (.ref a1)])) _
    refine st1 _ ?_
    show Steps p.tables e below (T1.setTop (mkF m 7 #[.val (.ref a1), .val (.int (0 : Int32)), .val (.int (1 : Int32)), .val (.double (4602678819172646912 : UInt64)), .second] [(.ref aoi), (.double (4602678819172646912 : UInt64)), (.int (1 : Int32)), (.int (0 : Int32)), (.ref a1)])) _
    refine st2 _ ?_
    show Steps p.tables e below (T2.setTop (mkF m 10 #[.val (.ref a1), .val (.int (0 : Int32)), .val (.int (1 : Int32)), .val (.double (4602678819172646912 : UInt64)), .second] [(.ref aod), (.ref aoi), (.double (4602678819172646912 : UInt64)), (.int (1 : Int32)), (.int (0 : Int32)), (.ref a1)])) _
    refine st3.trans ?_
    show Steps p.tables e below (T3.setTop (mkF m 13 #[.val (.ref a1), .val (.int (0 : Int32)), .val (.int (1 : Int32)), .val (.double (4602678819172646912 : UInt64)), .second] [])) _
    exact X3.returnOut hx Bd.returns (hb hby dprog_68_method_2_code_13) hr
  · show Qu3 Z a1 aoi aod h0 n0 _ T3.heap _
    exact ⟨rfl, N3, ((Keep.refl h0 [a1]).trans K3 (allS (Or.inl (List.mem_of_getElem? (i := 0) rfl)) all0)), Ea3⟩
theorem pn_4 : plainName "com/example/lumenweave/lumenweave/dimensioning/UserOutcome" = true := by first | (simp [plainName, overriddenIn]; done) | decide +kernel
theorem dprog_23_method_1_code_0 : decode prog_23_method_1_code 0 = .ok (.aload_n 0, 1) := by decide +kernel
theorem dprog_23_method_1_code_1 : decode prog_23_method_1_code 1 = .ok (.invokespecial 1, 3) := by decide +kernel
theorem dprog_23_method_1_code_4 : decode prog_23_method_1_code 4 = .ok (.aload_n 0, 1) := by decide +kernel
theorem dprog_23_method_1_code_5 : decode prog_23_method_1_code 5 = .ok (.aload_n 1, 1) := by decide +kernel
theorem dprog_23_method_1_code_6 : decode prog_23_method_1_code 6 = .ok (.putfield 7, 3) := by decide +kernel
theorem dprog_23_method_1_code_9 : decode prog_23_method_1_code 9 = .ok (.aload_n 0, 1) := by decide +kernel
theorem dprog_23_method_1_code_10 : decode prog_23_method_1_code 10 = .ok (.iload_n 2, 1) := by decide +kernel
theorem dprog_23_method_1_code_11 : decode prog_23_method_1_code 11 = .ok (.putfield 13, 3) := by decide +kernel
theorem dprog_23_method_1_code_14 : decode prog_23_method_1_code 14 = .ok (.aload_n 0, 1) := by decide +kernel
theorem dprog_23_method_1_code_15 : decode prog_23_method_1_code 15 = .ok (.dload_n 3, 1) := by decide +kernel
theorem dprog_23_method_1_code_16 : decode prog_23_method_1_code 16 = .ok (.putfield 17, 3) := by decide +kernel
theorem dprog_23_method_1_code_19 : decode prog_23_method_1_code 19 = .ok (.aload_n 0, 1) := by decide +kernel
theorem dprog_23_method_1_code_20 : decode prog_23_method_1_code 20 = .ok (.dload 5, 2) := by decide +kernel
theorem dprog_23_method_1_code_22 : decode prog_23_method_1_code 22 = .ok (.putfield 21, 3) := by decide +kernel
theorem dprog_23_method_1_code_25 : decode prog_23_method_1_code 25 = .ok (.return_, 1) := by decide +kernel
theorem ef_uo (m : MethodId) (x0 : Addr) (x1 : Addr) (x2 : Int32) (x3 : UInt64) (x4 : UInt64) : entryFrame m #[(.ref x0), (.ref x1), (.int x2), (.double x3), (.double x4)] 7 = mkF m 0 #[.val (.ref x0), .val (.ref x1), .val (.int x2), .val (.double x3), .second, .val (.double x4), .second] [] := by first | (simp [entryFrame, mkF, argsToLocals, Value.category]; done) | rfl
def Quo (Z : State) (a1 au : Addr) (iw : Int32) (pb pk : UInt64) (h0 : Heap) (n0 : Nat) (v : Option Value) (h : Heap) (L : List Loc) : Prop := v = none ∧ Fr n0 L ∧ Keep h0 h [a1] ∧ Exa Z h a1 "com/example/lumenweave/lumenweave/dimensioning/UserOutcome" ∧ Fld Z h a1 "com/example/lumenweave/lumenweave/dimensioning/UserOutcome" "bound" "D" (.double pb) ∧ Fld Z h a1 "com/example/lumenweave/lumenweave/dimensioning/UserOutcome" "blocking" "D" (.double pk)
set_option maxRecDepth 65536 in
set_option maxHeartbeats 40000000 in
theorem rmuo (l : Launch) (Z : State) (a0 : Array Value) (hw : ∀ d ∈ tables_1, d.before a0 Z = true) (ws : List Jvm.Cond) (a1 au : Addr) (iw : Int32) (pb pk : UInt64) (h0 : Heap) (n0 : Nat) (Z0 : n0 ≤ h0.size) (F_user : Fld Z h0 a1 "com/example/lumenweave/lumenweave/dimensioning/UserOutcome" "user" "Lcom/example/lumenweave/lumenweave/traffic/User;" .null) (F_maxWavelength : Fld Z h0 a1 "com/example/lumenweave/lumenweave/dimensioning/UserOutcome" "maxWavelength" "I" (.int (0 : Int32))) (F_bound : Fld Z h0 a1 "com/example/lumenweave/lumenweave/dimensioning/UserOutcome" "bound" "D" (.double (0 : UInt64))) (F_blocking : Fld Z h0 a1 "com/example/lumenweave/lumenweave/dimensioning/UserOutcome" "blocking" "D" (.double (0 : UInt64))) (E_a : Exa Z h0 a1 "com/example/lumenweave/lumenweave/dimensioning/UserOutcome") (g_a : n0 ≤ a1) :
    MetFree l (⟨"com/example/lumenweave/lumenweave/dimensioning/UserOutcome", "<init>", "(Lcom/example/lumenweave/lumenweave/traffic/User;IDD)V"⟩ : MethodName) (head1 (Jvm.Cond.code (⟨"com/example/lumenweave/lumenweave/dimensioning/UserOutcome", "<init>", "(Lcom/example/lumenweave/lumenweave/traffic/User;IDD)V"⟩ : MethodName) prog_23_method_1_code 7 none :: ws) ({ frames := 2, cells := 0, slots := 0, locals := 24 } : Room)) (fun a U => a = #[(.ref a1), (.ref au), (.int iw), (.double pb), (.double pk)] ∧ Z.Warmed39 U.vm ∧ U.heap = h0) (fun _ _ _ _ _ => True) (fun _ U o U' => ∃ v L, o = .returned v ∧ Quo Z a1 au iw pb pk h0 n0 v U'.heap L ∧ FrameEnd U o U' L ({ frames := 2, cells := 0, slots := 0, locals := 24 } : Room).cells ({ frames := 2, cells := 0, slots := 0, locals := 24 } : Room).slots) := by
  refine MetFree.of_bodySF (plainFor_of_name pn_4) hisR ?_
  intro p e s m args below meth c s₁ Bd hml0 hP hK
  obtain ⟨rfl, hZ, hh⟩ := hP
  have hx := Bd.exec
  have hby := Bd.bytes
  have hml : c.maxLocals = 7 := hml0
  have hown : s.vm.findClass "com/example/lumenweave/lumenweave/dimensioning/UserOutcome" = some m.cls := findClass_of_methodNamed Bd.named
  have hnm := (name_of_methodNamed Bd.named Bd.method).1
  have X0 : Stand p l e ({ frames := 2, cells := 0, slots := 0, locals := 24 } : Room) s m #[(.ref a1), (.ref au), (.int iw), (.double pb), (.double pk)] below meth c s₁ [] 0 0 := Stand.of_body Bd
  have e0 : s₁.heap = h0 := by rw [← hh, Bd.state]; rfl
  have N0 := Fr.nil n0
  have pre0 : ∀ t, Steps p.tables e below (s₁.setTop (mkF m 0 #[.val (.ref a1), .val (.ref au), .val (.int iw), .val (.double pb), .second, .val (.double pk), .second] [])) t → Steps p.tables e below (s₁.setTop (entryFrame m #[(.ref a1), (.ref au), (.int iw), (.double pb), (.double pk)] 7)) t := fun t k => castTop (ef_uo m a1 au iw pb pk) k
  obtain ⟨_, _, ⟨T1, L1, k1, n1⟩, -, X1, ⟨Lc1, hQ1, l1, y1, z1⟩, st1⟩ := X0.specialBack hx (y := (⟨"java/lang/Record", "<init>", "()V"⟩ : MethodName)) rfl hown (mvT hZ (hw _ (List.mem_of_getElem? (i := 65) rfl))) (mvT hZ (hw _ (List.mem_of_getElem? (i := 25) rfl))) (mvT hZ (hw _ (List.mem_of_getElem? (i := 28) rfl))) (by decide) (backOf (W := 0) (rmrec l Z a0 hw [] a1 h0 n0 Z0) hZ (hw _ (List.mem_of_getElem? (i := 28) rfl)) (hw _ (List.mem_of_getElem? (i := 27) rfl)) (by decide) (by decide)) (g := (mkF m 1 #[.val (.ref a1), .val (.ref au), .val (.int iw), .val (.double pb), .second, .val (.double pk), .second] [(.ref a1)])) rfl (by rw [hml]; rfl) (Steps.refl _) (a := a1) (argsL := []) (rest := []) (lenOf pd_0 rfl) rfl (by show 2 * 0 + _ ≤ _; exact Nat.le_of_eq rfl) (hb hby dprog_23_method_1_code_1) (fun _ _ => ⟨rfl, e0, (by decide : 0 + 0 ≤ _), (by decide : 0 + 0 ≤ _)⟩)
  dsimp only [Pt.U, Pt.locs, Pt.cells, Pt.slots] at X1 l1 y1 z1 st1 hQ1
  subst l1 y1 z1
  obtain ⟨rfl, N1q, eh1⟩ := hQ1
  have N1 := Fr.app N0 N1q
  obtain ⟨T2, h2, X2, e2, W2, st2⟩ := putF X1 hx hZ hown (host := "") (Or.inl (hw _ (List.mem_of_getElem? (i := 66) rfl))) Via.refl eh1 F_user E_a (Or.inr ⟨(hw _ (List.mem_of_getElem? (i := 67) rfl)), rfl, hnm⟩) (hw _ (List.mem_of_getElem? (i := 60) rfl)) (ty := (.object "com/example/lumenweave/lumenweave/traffic/User")) (by decide) rfl rfl (g := (mkF m 6 #[.val (.ref a1), .val (.ref au), .val (.int iw), .val (.double pb), .second, .val (.double pk), .second] [(.ref au), (.ref a1)])) rfl rfl (hb hby dprog_23_method_1_code_6)
  have Fw2 : Fld Z h2 a1 "com/example/lumenweave/lumenweave/dimensioning/UserOutcome" "user" "Lcom/example/lumenweave/lumenweave/traffic/User;" (.ref au) := F_user.same W2
  have N2 := Fr.snoc X2 N1 g_a
  obtain ⟨T3, h3, X3, e3, W3, st3⟩ := putF X2 hx hZ hown (host := "") (Or.inl (hw _ (List.mem_of_getElem? (i := 68) rfl))) Via.refl e2 (F_maxWavelength.other W2 (Or.inr (slot_ne (Or.inr (hw _ (List.mem_of_getElem? (i := 69) rfl))) (Or.inr (hw _ (List.mem_of_getElem? (i := 67) rfl))) (by decide) (t := .int) (t' := (.object "com/example/lumenweave/lumenweave/traffic/User")) (by decide) (by decide)))) (E_a.wr W2) (Or.inr ⟨(hw _ (List.mem_of_getElem? (i := 69) rfl)), rfl, hnm⟩) (hw _ (List.mem_of_getElem? (i := 60) rfl)) (ty := .int) (by decide) rfl rfl (g := (mkF m 11 #[.val (.ref a1), .val (.ref au), .val (.int iw), .val (.double pb), .second, .val (.double pk), .second] [(.int iw), (.ref a1)])) rfl rfl (hb hby dprog_23_method_1_code_11)
  have Fw3 : Fld Z h3 a1 "com/example/lumenweave/lumenweave/dimensioning/UserOutcome" "maxWavelength" "I" (.int iw) := (F_maxWavelength.other W2 (Or.inr (slot_ne (Or.inr (hw _ (List.mem_of_getElem? (i := 69) rfl))) (Or.inr (hw _ (List.mem_of_getElem? (i := 67) rfl))) (by decide) (t := .int) (t' := (.object "com/example/lumenweave/lumenweave/traffic/User")) (by decide) (by decide)))).same W3
  have N3 := Fr.snoc X3 N2 g_a
  obtain ⟨T4, h4, X4, e4, W4, st4⟩ := putF X3 hx hZ hown (host := "") (Or.inl (hw _ (List.mem_of_getElem? (i := 70) rfl))) Via.refl e3 ((F_bound.other W2 (Or.inr (slot_ne (Or.inr (hw _ (List.mem_of_getElem? (i := 71) rfl))) (Or.inr (hw _ (List.mem_of_getElem? (i := 67) rfl))) (by decide) (t := .double) (t' := (.object "com/example/lumenweave/lumenweave/traffic/User")) (by decide) (by decide)))).other W3 (Or.inr (slot_ne (Or.inr (hw _ (List.mem_of_getElem? (i := 71) rfl))) (Or.inr (hw _ (List.mem_of_getElem? (i := 69) rfl))) (by decide) (t := .double) (t' := .int) (by decide) (by decide)))) ((E_a.wr W2).wr W3) (Or.inr ⟨(hw _ (List.mem_of_getElem? (i := 71) rfl)), rfl, hnm⟩) (hw _ (List.mem_of_getElem? (i := 60) rfl)) (ty := .double) (by decide) rfl rfl (g := (mkF m 16 #[.val (.ref a1), .val (.ref au), .val (.int iw), .val (.double pb), .second, .val (.double pk), .second] [(.double pb), (.ref a1)])) rfl rfl (hb hby dprog_23_method_1_code_16)
  have Fw4 : Fld Z h4 a1 "com/example/lumenweave/lumenweave/dimensioning/UserOutcome" "bound" "D" (.double pb) := ((F_bound.other W2 (Or.inr (slot_ne (Or.inr (hw _ (List.mem_of_getElem? (i := 71) rfl))) (Or.inr (hw _ (List.mem_of_getElem? (i := 67) rfl))) (by decide) (t := .double) (t' := (.object "com/example/lumenweave/lumenweave/traffic/User")) (by decide) (by decide)))).other W3 (Or.inr (slot_ne (Or.inr (hw _ (List.mem_of_getElem? (i := 71) rfl))) (Or.inr (hw _ (List.mem_of_getElem? (i := 69) rfl))) (by decide) (t := .double) (t' := .int) (by decide) (by decide)))).same W4
  have N4 := Fr.snoc X4 N3 g_a
  obtain ⟨T5, h5, X5, e5, W5, st5⟩ := putF X4 hx hZ hown (host := "") (Or.inl (hw _ (List.mem_of_getElem? (i := 72) rfl))) Via.refl e4 (((F_blocking.other W2 (Or.inr (slot_ne (Or.inr (hw _ (List.mem_of_getElem? (i := 73) rfl))) (Or.inr (hw _ (List.mem_of_getElem? (i := 67) rfl))) (by decide) (t := .double) (t' := (.object "com/example/lumenweave/lumenweave/traffic/User")) (by decide) (by decide)))).other W3 (Or.inr (slot_ne (Or.inr (hw _ (List.mem_of_getElem? (i := 73) rfl))) (Or.inr (hw _ (List.mem_of_getElem? (i := 69) rfl))) (by decide) (t := .double) (t' := .int) (by decide) (by decide)))).other W4 (Or.inr (slot_ne (Or.inr (hw _ (List.mem_of_getElem? (i := 73) rfl))) (Or.inr (hw _ (List.mem_of_getElem? (i := 71) rfl))) (by decide) (t := .double) (t' := .double) (by decide) (by decide)))) (((E_a.wr W2).wr W3).wr W4) (Or.inr ⟨(hw _ (List.mem_of_getElem? (i := 73) rfl)), rfl, hnm⟩) (hw _ (List.mem_of_getElem? (i := 60) rfl)) (ty := .double) (by decide) rfl rfl (g := (mkF m 22 #[.val (.ref a1), .val (.ref au), .val (.int iw), .val (.double pb), .second, .val (.double pk), .second] [(.double pk), (.ref a1)])) rfl rfl (hb hby dprog_23_method_1_code_22)
  have Fw5 : Fld Z h5 a1 "com/example/lumenweave/lumenweave/dimensioning/UserOutcome" "blocking" "D" (.double pk) := (((F_blocking.other W2 (Or.inr (slot_ne (Or.inr (hw _ (List.mem_of_getElem? (i := 73) rfl))) (Or.inr (hw _ (List.mem_of_getElem? (i := 67) rfl))) (by decide) (t := .double) (t' := (.object "com/example/lumenweave/lumenweave/traffic/User")) (by decide) (by decide)))).other W3 (Or.inr (slot_ne (Or.inr (hw _ (List.mem_of_getElem? (i := 73) rfl))) (Or.inr (hw _ (List.mem_of_getElem? (i := 69) rfl))) (by decide) (t := .double) (t' := .int) (by decide) (by decide)))).other W4 (Or.inr (slot_ne (Or.inr (hw _ (List.mem_of_getElem? (i := 73) rfl))) (Or.inr (hw _ (List.mem_of_getElem? (i := 71) rfl))) (by decide) (t := .double) (t' := .double) (by decide) (by decide)))).same W5
  have N5 := Fr.snoc X5 N4 g_a
  obtain ⟨fs, hr, hrun, hended, hW, hsame⟩ := X5.leave (v := none) (fun _ => rfl)
  refine ⟨_, _, pre0 _ ?_, hrun, hended, _, _, rfl, ?_, ⟨_, rfl⟩, hW, hsame.mono (by decide) (by decide)⟩
  · show Steps p.tables e below (s₁.setTop (mkF m 0 #[.val (.ref a1), .val (.ref au), .val (.int iw), .val (.double pb), .second, .val (.double pk), .second] [])) _
    refine XS.aloadN X0.here hx rfl (hb hby dprog_23_method_1_code_0) rfl rfl ?_
    show Steps p.tables e below (s₁.setTop (mkF m 1 #[.val (.ref a1), .val (.ref au), .val (.int iw), .val (.double pb), .second, .val (.double pk), .second] [(.ref a1)])) _
    refine st1.trans ?_
    show Steps p.tables e below (T1.setTop (mkF m 4 #[.val (.ref a1), .val (.ref au), .val (.int iw), .val (.double pb), .second, .val (.double pk), .second] [])) _
    refine XS.aloadN X1.here hx rfl (hb hby dprog_23_method_1_code_4) rfl rfl ?_
    show Steps p.tables e below (T1.setTop (mkF m 5 #[.val (.ref a1), .val (.ref au), .val (.int iw), .val (.double pb), .second, .val (.double pk), .second] [(.ref a1)])) _
    refine XS.aloadN X1.here hx rfl (hb hby dprog_23_method_1_code_5) rfl rfl ?_
    show Steps p.tables e below (T1.setTop (mkF m 6 #[.val (.ref a1), .val (.ref au), .val (.int iw), .val (.double pb), .second, .val (.double pk), .second] [(.ref au), (.ref a1)])) _
    refine st2 _ ?_
    show Steps p.tables e below (T2.setTop (mkF m 9 #[.val (.ref a1), .val (.ref au), .val (.int iw), .val (.double pb), .second, .val (.double pk), .second] [])) _
    refine XS.aloadN X2.here hx rfl (hb hby dprog_23_method_1_code_9) rfl rfl ?_
    show Steps p.tables e below (T2.setTop (mkF m 10 #[.val (.ref a1), .val (.ref au), .val (.int iw), .val (.double pb), .second, .val (.double pk), .second] [(.ref a1)])) _
    refine XS.iloadN X2.here hx rfl (hb hby dprog_23_method_1_code_10) rfl ?_
    show Steps p.tables e below (T2.setTop (mkF m 11 #[.val (.ref a1), .val (.ref au), .val (.int iw), .val (.double pb), .second, .val (.double pk), .second] [(.int iw), (.ref a1)])) _
    refine st3 _ ?_
    show Steps p.tables e below (T3.setTop (mkF m 14 #[.val (.ref a1), .val (.ref au), .val (.int iw), .val (.double pb), .second, .val (.double pk), .second] [])) _
    refine XS.aloadN X3.here hx rfl (hb hby dprog_23_method_1_code_14) rfl rfl ?_
    show Steps p.tables e below (T3.setTop (mkF m 15 #[.val (.ref a1), .val (.ref au), .val (.int iw), .val (.double pb), .second, .val (.double pk), .second] [(.ref a1)])) _
    refine XS.dloadN X3.here hx rfl (hb hby dprog_23_method_1_code_15) rfl ?_
    show Steps p.tables e below (T3.setTop (mkF m 16 #[.val (.ref a1), .val (.ref au), .val (.int iw), .val (.double pb), .second, .val (.double pk), .second] [(.double pb), (.ref a1)])) _
    refine st4 _ ?_
    show Steps p.tables e below (T4.setTop (mkF m 19 #[.val (.ref a1), .val (.ref au), .val (.int iw), .val (.double pb), .second, .val (.double pk), .second] [])) _
    refine XS.aloadN X4.here hx rfl (hb hby dprog_23_method_1_code_19) rfl rfl ?_
    show Steps p.tables e below (T4.setTop (mkF m 20 #[.val (.ref a1), .val (.ref au), .val (.int iw), .val (.double pb), .second, .val (.double pk), .second] [(.ref a1)])) _
    refine XS.dload X4.here hx rfl (hb hby dprog_23_method_1_code_20) rfl ?_
    show Steps p.tables e below (T4.setTop (mkF m 22 #[.val (.ref a1), .val (.ref au), .val (.int iw), .val (.double pb), .second, .val (.double pk), .second] [(.double pk), (.ref a1)])) _
    refine st5 _ ?_
    show Steps p.tables e below (T5.setTop (mkF m 25 #[.val (.ref a1), .val (.ref au), .val (.int iw), .val (.double pb), .second, .val (.double pk), .second] [])) _
    exact X5.returnOut hx Bd.returns (hb hby dprog_23_method_1_code_25) hr
  · show Quo Z a1 au iw pb pk h0 n0 _ T5.heap _
    rw [e5]
    exact ⟨rfl, N5, (((((Keep.refl h0 [a1]).wr W2 (Or.inl (List.mem_of_getElem? (i := 0) rfl))).wr W3 (Or.inl (List.mem_of_getElem? (i := 0) rfl))).wr W4 (Or.inl (List.mem_of_getElem? (i := 0) rfl))).wr W5 (Or.inl (List.mem_of_getElem? (i := 0) rfl))), ((((E_a.wr W2).wr W3).wr W4).wr W5), (Fw4.other W5 (Or.inr (slot_ne (Or.inr (hw _ (List.mem_of_getElem? (i := 71) rfl))) (Or.inr (hw _ (List.mem_of_getElem? (i := 73) rfl))) (by decide) (t := .double) (t' := .double) (by decide) (by decide)))), Fw5⟩
theorem dprog_23_method_2_code_0 : decode prog_23_method_2_code 0 = .ok (.aload_n 0, 1) := by decide +kernel
theorem dprog_23_method_2_code_1 : decode prog_23_method_2_code 1 = .ok (.getfield 21, 3) := by decide +kernel
theorem dprog_23_method_2_code_4 : decode prog_23_method_2_code 4 = .ok (.aload_n 0, 1) := by decide +kernel
theorem dprog_23_method_2_code_5 : decode prog_23_method_2_code 5 = .ok (.getfield 17, 3) := by decide +kernel
theorem dprog_23_method_2_code_8 : decode prog_23_method_2_code 8 = .ok (.dcmp .g, 1) := by decide +kernel
theorem dprog_23_method_2_code_9 : decode prog_23_method_2_code 9 = .ok (.ifCond .gt 7, 3) := by decide +kernel
theorem dprog_23_method_2_code_12 : decode prog_23_method_2_code 12 = .ok (.iconst 1, 1) := by decide +kernel
theorem dprog_23_method_2_code_13 : decode prog_23_method_2_code 13 = .ok (.goto 4, 3) := by decide +kernel
theorem dprog_23_method_2_code_16 : decode prog_23_method_2_code 16 = .ok (.iconst 0, 1) := by decide +kernel
theorem dprog_23_method_2_code_17 : decode prog_23_method_2_code 17 = .ok (.ireturn, 1) := by decide +kernel
theorem ef_mb (m : MethodId) (x0 : Addr) : entryFrame m #[(.ref x0)] 1 = mkF m 0 #[.val (.ref x0)] [] := by first | (simp [entryFrame, mkF, argsToLocals, Value.category]; done) | rfl
set_option maxRecDepth 65536 in
set_option maxHeartbeats 4000000 in
theorem sg_mb_9_17 {p : Program} {l : Launch} {e : Env} {R : Room} {s : State} {m : MethodId} {args : Array Value} {below : List Frame} {meth : Method} {c : Code} {T : State} {locs : List Loc} {cells slots : Nat} {Z : State} {a0 : Array Value} {target : State} {x0 : Addr} {y0 : Int32} (X : Stand p l e R s m args below meth c T locs cells slots) (hx : p.tables.exec = Jvm.exec) (hZ : Z.Warmed39 s.vm) (hw : ∀ d ∈ tables_1, d.before a0 Z = true) (hby : c.code = prog_23_method_2_code) (hown : s.vm.findClass "com/example/lumenweave/lumenweave/dimensioning/UserOutcome" = some m.cls)
    (k : Steps p.tables e below (T.setTop (mkF m 17 #[.val (.ref x0)] [(.int (bif (ifCond.holds .gt y0) then (0 : Int32) else (1 : Int32)))])) target) : Steps p.tables e below (T.setTop (mkF m 9 #[.val (.ref x0)] [(.int y0)])) target := by
  show Steps p.tables e below (T.setTop (mkF m 9 #[.val (.ref x0)] [(.int y0)])) _
  rcases Bool.eq_false_or_eq_true (ifCond.holds .gt y0) with hc1 | hc1
  · try rw [hc1] at k
    refine XS.ifYes X.here hx rfl (pc0 := 9) (pc' := 16) rfl (hb hby dprog_23_method_2_code_9) rfl hc1 (by decide) (by decide) ?_
    show Steps p.tables e below (T.setTop (mkF m 16 #[.val (.ref x0)] [])) _
    refine XS.iconst X.here hx rfl (hb hby dprog_23_method_2_code_16) ?_
    exact k
  · try rw [hc1] at k
    refine XS.ifNo X.here hx rfl (hb hby dprog_23_method_2_code_9) rfl hc1 ?_
    show Steps p.tables e below (T.setTop (mkF m 12 #[.val (.ref x0)] [])) _
    refine XS.iconst X.here hx rfl (hb hby dprog_23_method_2_code_12) ?_
    show Steps p.tables e below (T.setTop (mkF m 13 #[.val (.ref x0)] [(.int (1 : Int32))])) _
    refine XS.goto X.here hx rfl (pc0 := 13) (pc' := 17) rfl (hb hby dprog_23_method_2_code_13) (by decide) (by decide) ?_
    exact k
def Qmb (Z : State) (a1 : Addr) (pb pk : UInt64) (h0 : Heap) (n0 : Nat) (v : Option Value) (h : Heap) (L : List Loc) : Prop := v = some (.int (own_meets pk pb)) ∧ Fr n0 L ∧ h = h0
set_option maxRecDepth 65536 in
set_option maxHeartbeats 40000000 in
theorem rmmb (l : Launch) (Z : State) (a0 : Array Value) (hw : ∀ d ∈ tables_1, d.before a0 Z = true) (ws : List Jvm.Cond) (a1 : Addr) (pb pk : UInt64) (h0 : Heap) (n0 : Nat) (Z0 : n0 ≤ h0.size) (F_b : Fld Z h0 a1 "com/example/lumenweave/lumenweave/dimensioning/UserOutcome" "bound" "D" (.double pb)) (F_k : Fld Z h0 a1 "com/example/lumenweave/lumenweave/dimensioning/UserOutcome" "blocking" "D" (.double pk)) :
    MetFree l (⟨"com/example/lumenweave/lumenweave/dimensioning/UserOutcome", "meetsBound", "()Z"⟩ : MethodName) (head1 (Jvm.Cond.code (⟨"com/example/lumenweave/lumenweave/dimensioning/UserOutcome", "meetsBound", "()Z"⟩ : MethodName) prog_23_method_2_code 1 (some .boolean) :: ws) ({ frames := 0, cells := 0, slots := 0, locals := 0 } : Room)) (fun a U => a = #[(.ref a1)] ∧ Z.Warmed39 U.vm ∧ U.heap = h0) (fun _ _ _ _ _ => True) (fun _ U o U' => ∃ v L, o = .returned v ∧ Qmb Z a1 pb pk h0 n0 v U'.heap L ∧ FrameEnd U o U' L ({ frames := 0, cells := 0, slots := 0, locals := 0 } : Room).cells ({ frames := 0, cells := 0, slots := 0, locals := 0 } : Room).slots) := by
  refine MetFree.of_bodySF (plainFor_of_name pn_4) hisR ?_
  intro p e s m args below meth c s₁ Bd hml0 hP hK
  obtain ⟨rfl, hZ, hh⟩ := hP
  have hx := Bd.exec
  have hby := Bd.bytes
  have hml : c.maxLocals = 1 := hml0
  have hown : s.vm.findClass "com/example/lumenweave/lumenweave/dimensioning/UserOutcome" = some m.cls := findClass_of_methodNamed Bd.named
  have hnm := (name_of_methodNamed Bd.named Bd.method).1
  have X0 : Stand p l e ({ frames := 0, cells := 0, slots := 0, locals := 0 } : Room) s m #[(.ref a1)] below meth c s₁ [] 0 0 := Stand.of_body Bd
  have e0 : s₁.heap = h0 := by rw [← hh, Bd.state]; rfl
  have N0 := Fr.nil n0
  have pre0 : ∀ t, Steps p.tables e below (s₁.setTop (mkF m 0 #[.val (.ref a1)] [])) t → Steps p.tables e below (s₁.setTop (entryFrame m #[(.ref a1)] 1)) t := fun t k => castTop (ef_mb m a1) k
  obtain ⟨T1, X1, e1, st1⟩ := getF X0 hx hZ hown (host := "") (Or.inl (hw _ (List.mem_of_getElem? (i := 72) rfl))) Via.refl e0 F_k (g := (mkF m 1 #[.val (.ref a1)] [(.ref a1)])) rfl rfl (hb hby dprog_23_method_2_code_1)
  obtain ⟨T2, X2, e2, st2⟩ := getF X1 hx hZ hown (host := "") (Or.inl (hw _ (List.mem_of_getElem? (i := 70) rfl))) Via.refl e1 F_b (g := (mkF m 5 #[.val (.ref a1)] [(.ref a1), (.double pk)])) rfl rfl (hb hby dprog_23_method_2_code_5)
  obtain ⟨fs, hr, hrun, hended, hW, hsame⟩ := X2.leave (v := some (.int (nar .boolean (bif (ifCond.holds .gt (cmpValue (FP.dcmp pk pb) .g)) then (0 : Int32) else (1 : Int32))))) (fun h => by rw [Bd.returns] at h; cases h)
  refine ⟨_, _, pre0 _ ?_, hrun, hended, _, _, rfl, ?_, ⟨_, rfl⟩, hW, hsame.mono (by decide) (by decide)⟩
  · show Steps p.tables e below (s₁.setTop (mkF m 0 #[.val (.ref a1)] [])) _
    refine XS.aloadN X0.here hx rfl (hb hby dprog_23_method_2_code_0) rfl rfl ?_
    show Steps p.tables e below (s₁.setTop (mkF m 1 #[.val (.ref a1)] [(.ref a1)])) _
    refine st1 _ ?_
    show Steps p.tables e below (T1.setTop (mkF m 4 #[.val (.ref a1)] [(.double pk)])) _
    refine XS.aloadN X1.here hx rfl (hb hby dprog_23_method_2_code_4) rfl rfl ?_
    show Steps p.tables e below (T1.setTop (mkF m 5 #[.val (.ref a1)] [(.ref a1), (.double pk)])) _
    refine st2 _ ?_
    show Steps p.tables e below (T2.setTop (mkF m 8 #[.val (.ref a1)] [(.double pb), (.double pk)])) _
    refine XS.dcmpS X2.here hx rfl (hb hby dprog_23_method_2_code_8) rfl rfl ?_
    show Steps p.tables e below (T2.setTop (mkF m 9 #[.val (.ref a1)] [(.int (cmpValue (FP.dcmp pk pb) .g))])) _
    refine sg_mb_9_17 X2 hx hZ hw hby hown ?_
    show Steps p.tables e below (T2.setTop (mkF m 17 #[.val (.ref a1)] [(.int (bif (ifCond.holds .gt (cmpValue (FP.dcmp pk pb) .g)) then (0 : Int32) else (1 : Int32)))])) _
    exact retN X2 hx (t := .boolean) Bd.returns (by simp) (hb hby dprog_23_method_2_code_17) hr
  · show Qmb Z a1 pb pk h0 n0 _ T2.heap _
    rw [e2]
    exact ⟨congrArg (fun z => some (Value.int z)) (own_nar _), N0, rfl⟩
theorem pn_5 : plainName "com/example/lumenweave/lumenweave/dimensioning/UserOutcomeMeetsBoundPinLaw" = true := by first | (simp [plainName, overriddenIn]; done) | decide +kernel
theorem pd_6 : parseMethodDescriptor "(IID)V" = some ⟨[.int, .int, .double], none⟩ := by decide +kernel
theorem pd_7 : parseMethodDescriptor "(Lcom/example/lumenweave/lumenweave/traffic/User;IDD)V" = some ⟨[(.object "com/example/lumenweave/lumenweave/traffic/User"), .int, .double, .double], none⟩ := by decide +kernel
theorem ef_0 (m : MethodId) (x0 : Int32) (x1 : Int32) (x2 : Int32) : entryFrame m #[(.int x0), (.int x1), (.int x2)] maxLocals = mkF m 0 #[.val (.int x0), .val (.int x1), .val (.int x2), .unset, .unset, .unset, .unset, .unset, .unset, .unset, .unset] [] := by first | (simp [entryFrame, mkF, argsToLocals, Value.category, maxLocals]; done) | rfl
set_option maxRecDepth 65536 in
set_option maxHeartbeats 4000000 in
theorem sg_0_74_82 {p : Program} {l : Launch} {e : Env} {R : Room} {s : State} {m : MethodId} {args : Array Value} {below : List Frame} {meth : Method} {c : Code} {T : State} {locs : List Loc} {cells slots : Nat} {Z : State} {a0 : Array Value} {target : State} {x0 : Int32} {x1 : Int32} {x2 : Int32} {x3 : Int32} {x4 : Int32} {x5 : UInt64} {x7 : UInt64} {x9 : Addr} {x10 : Addr} {y0 : Int32} {y1 : Int32} {y2 : Int32} (X : Stand p l e R s m args below meth c T locs cells slots) (hx : p.tables.exec = Jvm.exec) (hZ : Z.Warmed39 s.vm) (hw : ∀ d ∈ tables_1, d.before a0 Z = true) (hby : c.code = code) (hown : s.vm.findClass "com/example/lumenweave/lumenweave/dimensioning/UserOutcomeMeetsBoundPinLaw" = some m.cls)
    (k : Steps p.tables e below (T.setTop (mkF m 82 #[.val (.int x0), .val (.int x1), .val (.int x2), .val (.int x3), .val (.int x4), .val (.double x5), .second, .val (.double x7), .second, .val (.ref x9), .val (.ref x10)] [(.int (bif (if_icmp.holds .gt y1 y0) then (0 : Int32) else (1 : Int32))), (.int y2)])) target) : Steps p.tables e below (T.setTop (mkF m 74 #[.val (.int x0), .val (.int x1), .val (.int x2), .val (.int x3), .val (.int x4), .val (.double x5), .second, .val (.double x7), .second, .val (.ref x9), .val (.ref x10)] [(.int y0), (.int y1), (.int y2)])) target := by
  show Steps p.tables e below (T.setTop (mkF m 74 #[.val (.int x0), .val (.int x1), .val (.int x2), .val (.int x3), .val (.int x4), .val (.double x5), .second, .val (.double x7), .second, .val (.ref x9), .val (.ref x10)] [(.int y0), (.int y1), (.int y2)])) _
  rcases Bool.eq_false_or_eq_true (if_icmp.holds .gt y1 y0) with hc1 | hc1
  · try rw [hc1] at k
    refine XS.icmpYes X.here hx rfl (pc0 := 74) (pc' := 81) rfl (hb hby at_74) rfl hc1 (by decide) (by decide) ?_
    show Steps p.tables e below (T.setTop (mkF m 81 #[.val (.int x0), .val (.int x1), .val (.int x2), .val (.int x3), .val (.int x4), .val (.double x5), .second, .val (.double x7), .second, .val (.ref x9), .val (.ref x10)] [(.int y2)])) _
    refine XS.iconst X.here hx rfl (hb hby at_81) ?_
    exact k
  · try rw [hc1] at k
    refine XS.icmpNo X.here hx rfl (hb hby at_74) rfl hc1 ?_
    show Steps p.tables e below (T.setTop (mkF m 77 #[.val (.int x0), .val (.int x1), .val (.int x2), .val (.int x3), .val (.int x4), .val (.double x5), .second, .val (.double x7), .second, .val (.ref x9), .val (.ref x10)] [(.int y2)])) _
    refine XS.iconst X.here hx rfl (hb hby at_77) ?_
    show Steps p.tables e below (T.setTop (mkF m 78 #[.val (.int x0), .val (.int x1), .val (.int x2), .val (.int x3), .val (.int x4), .val (.double x5), .second, .val (.double x7), .second, .val (.ref x9), .val (.ref x10)] [(.int (1 : Int32)), (.int y2)])) _
    refine XS.goto X.here hx rfl (pc0 := 78) (pc' := 82) rfl (hb hby at_78) (by decide) (by decide) ?_
    exact k
def Q0 (Z : State) (p0 p1 p2 : Int32) (aoi aod : Addr) (h0 : Heap) (n0 : Nat) (v : Option Value) (h : Heap) (L : List Loc) : Prop := v = some (.int 1) ∧ Fr n0 L
set_option maxRecDepth 65536 in
set_option maxHeartbeats 40000000 in
theorem rm0 (l : Launch) (Z : State) (a0 : Array Value) (hw : ∀ d ∈ tables_1, d.before a0 Z = true) (ws : List Jvm.Cond) (p0 p1 p2 : Int32) (aoi aod : Addr) (h0 : Heap) (n0 : Nat) (Z0 : n0 ≤ h0.size) (E_oi : Exa Z h0 aoi "java/util/OptionalInt") (F_oi : Fld Z h0 aoi "java/util/OptionalInt" "isPresent" "Z" (.int (0 : Int32))) (E_od : Exa Z h0 aod "java/util/OptionalDouble") (F_od : Fld Z h0 aod "java/util/OptionalDouble" "isPresent" "Z" (.int (0 : Int32))) (S_oi : Sta Z h0 "java/util/OptionalInt" "EMPTY" "Ljava/util/OptionalInt;" (.ref aoi)) (S_od : Sta Z h0 "java/util/OptionalDouble" "EMPTY" "Ljava/util/OptionalDouble;" (.ref aod)) :
    MetFree l x (head1 (Jvm.Cond.code x code maxLocals ret :: ws) room_1) (fun a U => a = #[(.int p0), (.int p1), (.int p2)] ∧ Z.Warmed39 U.vm ∧ U.heap = h0) (fun _ _ _ _ _ => True) (fun _ U o U' => ∃ v L, o = .returned v ∧ Q0 Z p0 p1 p2 aoi aod h0 n0 v U'.heap L ∧ FrameEnd U o U' L room_1.cells room_1.slots) := by
  refine MetFree.of_bodySF (plainFor_of_name pn_5) hisR ?_
  intro p e s m args below meth c s₁ Bd hml0 hP hK
  obtain ⟨rfl, hZ, hh⟩ := hP
  have hx := Bd.exec
  have hby := Bd.bytes
  have hml : c.maxLocals = 11 := hml0
  have hown : s.vm.findClass "com/example/lumenweave/lumenweave/dimensioning/UserOutcomeMeetsBoundPinLaw" = some m.cls := findClass_of_methodNamed Bd.named
  have hnm := (name_of_methodNamed Bd.named Bd.method).1
  have X0 : Stand p l e room_1 s m #[(.int p0), (.int p1), (.int p2)] below meth c s₁ [] 0 0 := Stand.of_body Bd
  have e0 : s₁.heap = h0 := by rw [← hh, Bd.state]; rfl
  have N0 := Fr.nil n0
  have pre0 : ∀ t, Steps p.tables e below (s₁.setTop (mkF m 0 #[.val (.int p0), .val (.int p1), .val (.int p2), .unset, .unset, .unset, .unset, .unset, .unset, .unset, .unset] [])) t → Steps p.tables e below (s₁.setTop (entryFrame m #[(.int p0), (.int p1), (.int p2)] maxLocals)) t := fun t k => castTop (ef_0 m p0 p1 p2) k
  obtain ⟨T1, h1, X1, e1, E1, A1, D1, -, st1⟩ := newO X0 hx hZ hown (hw _ (List.mem_of_getElem? (i := 4) rfl)) (hw _ (List.mem_of_getElem? (i := 5) rfl)) (hw _ (List.mem_of_getElem? (i := 6) rfl)) e0 (g := (mkF m 36 #[.val (.int p0), .val (.int p1), .val (.int p2), .val (.int (own_bi p0)), .val (.int (own_ki p1)), .val (.double (own_fr (own_bi p0))), .second, .val (.double (own_fr (own_ki p1))), .second, .unset, .unset] [])) rfl (hb hby at_36) (by decide) (by decide)
  obtain ⟨b1, g1⟩ : ∃ z, z = h0.size := ⟨_, rfl⟩
  rw [← g1] at A1 D1 st1
  have F1_source : Fld Z h1 b1 "com/example/lumenweave/lumenweave/traffic/User" "source" "I" (.int (0 : Int32)) := D1 (Or.inr (hw _ (List.mem_of_getElem? (i := 50) rfl))) (ty := .int) (by decide)
  have F1_target : Fld Z h1 b1 "com/example/lumenweave/lumenweave/traffic/User" "target" "I" (.int (0 : Int32)) := D1 (Or.inr (hw _ (List.mem_of_getElem? (i := 52) rfl))) (ty := .int) (by decide)
  have F1_load : Fld Z h1 b1 "com/example/lumenweave/lumenweave/traffic/User" "load" "D" (.double (0 : UInt64)) := D1 (Or.inr (hw _ (List.mem_of_getElem? (i := 54) rfl))) (ty := .double) (by decide)
  have F1_maxWavelength : Fld Z h1 b1 "com/example/lumenweave/lumenweave/traffic/User" "maxWavelength" "Ljava/util/OptionalInt;" .null := D1 (Or.inr (hw _ (List.mem_of_getElem? (i := 56) rfl))) (ty := (.object "java/util/OptionalInt")) (by decide)
  have F1_beta : Fld Z h1 b1 "com/example/lumenweave/lumenweave/traffic/User" "beta" "Ljava/util/OptionalDouble;" .null := D1 (Or.inr (hw _ (List.mem_of_getElem? (i := 58) rfl))) (ty := (.object "java/util/OptionalDouble")) (by decide)
  obtain ⟨_, _, ⟨T2, L2, k2, n2⟩, -, X2, ⟨Lc2, hQ2, l2, y2, z2⟩, st2⟩ := X1.specialBack hx (y := (⟨"com/example/lumenweave/lumenweave/traffic/User", "<init>", "(IID)V"⟩ : MethodName)) rfl hown (mvT hZ (hw _ (List.mem_of_getElem? (i := 8) rfl))) (mvT hZ (hw _ (List.mem_of_getElem? (i := 9) rfl))) (mvT hZ (hw _ (List.mem_of_getElem? (i := 10) rfl))) (by decide) (backOf (W := 1) (rmu3 l Z a0 hw [] b1 aoi aod h1 n0 (Nat.le_trans Z0 E1.1) F1_source F1_target F1_load F1_maxWavelength F1_beta A1 (Nat.le_trans Z0 (Nat.le_trans (Nat.le_refl _) (Nat.le_of_eq g1.symm))) (E_oi.ext E1) (F_oi.ext E1) (E_od.ext E1) (F_od.ext E1) (S_oi.ext E1) (S_od.ext E1)) hZ (hw _ (List.mem_of_getElem? (i := 10) rfl)) (hw _ (List.mem_of_getElem? (i := 6) rfl)) (by decide) (by decide)) (g := (mkF m 45 #[.val (.int p0), .val (.int p1), .val (.int p2), .val (.int (own_bi p0)), .val (.int (own_ki p1)), .val (.double (own_fr (own_bi p0))), .second, .val (.double (own_fr (own_ki p1))), .second, .unset, .unset] [(.double (4602678819172646912 : UInt64)), (.int (1 : Int32)), (.int (0 : Int32)), (.ref b1), (.ref b1)])) rfl (by rw [hml]; rfl) (Steps.refl _) (a := b1) (argsL := [(.int (0 : Int32)), (.int (1 : Int32)), (.double (4602678819172646912 : UInt64))]) (rest := [(.ref b1)]) (lenOf pd_6 rfl) rfl (by show 2 * 0 + _ ≤ _; exact Nat.le_of_eq rfl) (hb hby at_45) (fun _ _ => ⟨rfl, e1, (by decide : 1 + 0 ≤ _), (by decide : 5 + 0 ≤ _)⟩)
  dsimp only [Pt.U, Pt.locs, Pt.cells, Pt.slots] at X2 l2 y2 z2 st2 hQ2
  subst l2 y2 z2
  obtain ⟨rfl, N2q, K2, Ea2⟩ := hQ2
  have N2 := Fr.app N0 N2q
  obtain ⟨T3, h3, X3, e3, E3, A3, D3, -, st3⟩ := newO X2 hx hZ hown (hw _ (List.mem_of_getElem? (i := 59) rfl)) (hw _ (List.mem_of_getElem? (i := 60) rfl)) (hw _ (List.mem_of_getElem? (i := 61) rfl)) rfl (g := (mkF m 50 #[.val (.int p0), .val (.int p1), .val (.int p2), .val (.int (own_bi p0)), .val (.int (own_ki p1)), .val (.double (own_fr (own_bi p0))), .second, .val (.double (own_fr (own_ki p1))), .second, .val (.ref b1), .unset] [])) rfl (hb hby at_50) (by decide) (by decide)
  obtain ⟨b3, g3⟩ : ∃ z, z = T2.heap.size := ⟨_, rfl⟩
  rw [← g3] at A3 D3 st3
  have F3_user : Fld Z h3 b3 "com/example/lumenweave/lumenweave/dimensioning/UserOutcome" "user" "Lcom/example/lumenweave/lumenweave/traffic/User;" .null := D3 (Or.inr (hw _ (List.mem_of_getElem? (i := 67) rfl))) (ty := (.object "com/example/lumenweave/lumenweave/traffic/User")) (by decide)
  have F3_maxWavelength : Fld Z h3 b3 "com/example/lumenweave/lumenweave/dimensioning/UserOutcome" "maxWavelength" "I" (.int (0 : Int32)) := D3 (Or.inr (hw _ (List.mem_of_getElem? (i := 69) rfl))) (ty := .int) (by decide)
  have F3_bound : Fld Z h3 b3 "com/example/lumenweave/lumenweave/dimensioning/UserOutcome" "bound" "D" (.double (0 : UInt64)) := D3 (Or.inr (hw _ (List.mem_of_getElem? (i := 71) rfl))) (ty := .double) (by decide)
  have F3_blocking : Fld Z h3 b3 "com/example/lumenweave/lumenweave/dimensioning/UserOutcome" "blocking" "D" (.double (0 : UInt64)) := D3 (Or.inr (hw _ (List.mem_of_getElem? (i := 73) rfl))) (ty := .double) (by decide)
  obtain ⟨_, _, ⟨T4, L4, k4, n4⟩, -, X4, ⟨Lc4, hQ4, l4, y4, z4⟩, st4⟩ := X3.specialBack hx (y := (⟨"com/example/lumenweave/lumenweave/dimensioning/UserOutcome", "<init>", "(Lcom/example/lumenweave/lumenweave/traffic/User;IDD)V"⟩ : MethodName)) rfl hown (mvT hZ (hw _ (List.mem_of_getElem? (i := 62) rfl))) (mvT hZ (hw _ (List.mem_of_getElem? (i := 63) rfl))) (mvT hZ (hw _ (List.mem_of_getElem? (i := 64) rfl))) (by decide) (backOf (W := 1) (rmuo l Z a0 hw [] b3 b1 p2 (own_fr (own_bi p0)) (own_fr (own_ki p1)) h3 n0 (Nat.le_trans (Nat.le_trans (Nat.le_trans Z0 E1.1) K2.1) E3.1) F3_user F3_maxWavelength F3_bound F3_blocking A3 (Nat.le_trans Z0 (Nat.le_trans (Nat.le_trans (Nat.le_trans (Nat.le_refl _) E1.1) K2.1) (Nat.le_of_eq g3.symm)))) hZ (hw _ (List.mem_of_getElem? (i := 64) rfl)) (hw _ (List.mem_of_getElem? (i := 61) rfl)) (by decide) (by decide)) (g := (mkF m 61 #[.val (.int p0), .val (.int p1), .val (.int p2), .val (.int (own_bi p0)), .val (.int (own_ki p1)), .val (.double (own_fr (own_bi p0))), .second, .val (.double (own_fr (own_ki p1))), .second, .val (.ref b1), .unset] [(.double (own_fr (own_ki p1))), (.double (own_fr (own_bi p0))), (.int p2), (.ref b1), (.ref b3), (.ref b3)])) rfl (by rw [hml]; rfl) (Steps.refl _) (a := b3) (argsL := [(.ref b1), (.int p2), (.double (own_fr (own_bi p0))), (.double (own_fr (own_ki p1)))]) (rest := [(.ref b3)]) (lenOf pd_7 rfl) rfl (by show 2 * 0 + _ ≤ _; exact Nat.le_of_eq rfl) (hb hby at_61) (fun _ _ => ⟨rfl, e3, (by decide : 2 + 0 ≤ _), (by decide : 9 + 0 ≤ _)⟩)
  dsimp only [Pt.U, Pt.locs, Pt.cells, Pt.slots] at X4 l4 y4 z4 st4 hQ4
  subst l4 y4 z4
  obtain ⟨rfl, N4q, K4, Ea4, Fb4, Fk4⟩ := hQ4
  have N4 := Fr.app N2 N4q
  obtain ⟨cq5, kq5, q5a, q5b, q5c⟩ := isOf hZ rfl Ea4
  obtain ⟨_, _, ⟨T5, L5, k5, n5⟩, -, X5, ⟨Lc5, hQ5, l5, y5, z5⟩, st5⟩ := X4.virtualBack hx (y := (⟨"com/example/lumenweave/lumenweave/dimensioning/UserOutcome", "meetsBound", "()Z"⟩ : MethodName)) (z := (⟨"com/example/lumenweave/lumenweave/dimensioning/UserOutcome", "meetsBound", "()Z"⟩ : MethodName)) hown (mvT hZ (hw _ (List.mem_of_getElem? (i := 74) rfl))) (mvT hZ (hw _ (List.mem_of_getElem? (i := 75) rfl))) (notFace_of_selects (args := #[]) (mvT hZ (hw _ (List.mem_of_getElem? (i := 77) rfl)))) (mvT hZ (hw _ (List.mem_of_getElem? (i := 77) rfl))) (mvT hZ (hw _ (List.mem_of_getElem? (i := 76) rfl))) (by decide) (backOf (W := 0) (rmmb l Z a0 hw [] b3 (own_fr (own_bi p0)) (own_fr (own_ki p1)) T4.heap n0 (Nat.le_trans (Nat.le_trans (Nat.le_trans (Nat.le_trans Z0 E1.1) K2.1) E3.1) K4.1) Fb4 Fk4) hZ (hw _ (List.mem_of_getElem? (i := 78) rfl)) (hw _ (List.mem_of_getElem? (i := 61) rfl)) (by decide) (by decide)) q5a q5c (g := (mkF m 68 #[.val (.int p0), .val (.int p1), .val (.int p2), .val (.int (own_bi p0)), .val (.int (own_ki p1)), .val (.double (own_fr (own_bi p0))), .second, .val (.double (own_fr (own_ki p1))), .second, .val (.ref b1), .val (.ref b3)] [(.ref b3)])) rfl (by rw [hml]; rfl) (Steps.refl _) (argsL := []) (rest := []) (lenOf pd_2 rfl) rfl (by show 2 * 0 + _ ≤ _; exact Nat.le_of_eq rfl) (hb hby at_68) (fun _ _ => ⟨rfl, rfl, (by decide : 2 + 0 ≤ _), (by decide : 9 + 0 ≤ _)⟩)
  dsimp only [Pt.U, Pt.locs, Pt.cells, Pt.slots] at X5 l5 y5 z5 st5 hQ5
  subst l5 y5 z5
  obtain ⟨rfl, N5q, eh5⟩ := hQ5
  have N5 := Fr.app N4 N5q
  obtain ⟨fs, hr, hrun, hended, hW, hsame⟩ := X5.leave (v := some (.int (nar .boolean (1 : Int32)))) (fun h => by rw [Bd.returns] at h; cases h)
  refine ⟨_, _, pre0 _ ?_, hrun, hended, _, _, rfl, ?_, ⟨_, rfl⟩, hW, hsame.mono (by decide) (by decide)⟩
  · show Steps p.tables e below (s₁.setTop (mkF m 0 #[.val (.int p0), .val (.int p1), .val (.int p2), .unset, .unset, .unset, .unset, .unset, .unset, .unset, .unset] [])) _
    refine XS.iconst X0.here hx rfl (hb hby at_0) ?_
    show Steps p.tables e below (s₁.setTop (mkF m 1 #[.val (.int p0), .val (.int p1), .val (.int p2), .unset, .unset, .unset, .unset, .unset, .unset, .unset, .unset] [(.int (1 : Int32))])) _
    refine XS.iloadN X0.here hx rfl (hb hby at_1) rfl ?_
    show Steps p.tables e below (s₁.setTop (mkF m 2 #[.val (.int p0), .val (.int p1), .val (.int p2), .unset, .unset, .unset, .unset, .unset, .unset, .unset, .unset] [(.int p0), (.int (1 : Int32))])) _
    refine X0.ldcInt hx hown (mvT hZ (hw _ (List.mem_of_getElem? (i := 0) rfl))) (g := (mkF m 2 #[.val (.int p0), .val (.int p1), .val (.int p2), .unset, .unset, .unset, .unset, .unset, .unset, .unset, .unset] [(.int p0), (.int (1 : Int32))])) rfl (hb hby at_2) _ ?_
    show Steps p.tables e below (s₁.setTop (mkF m 4 #[.val (.int p0), .val (.int p1), .val (.int p2), .unset, .unset, .unset, .unset, .unset, .unset, .unset, .unset] [(.int (2147483647 : Int32)), (.int p0), (.int (1 : Int32))])) _
    refine XS.iand X0.here hx rfl (hb hby at_4) rfl ?_
    show Steps p.tables e below (s₁.setTop (mkF m 5 #[.val (.int p0), .val (.int p1), .val (.int p2), .unset, .unset, .unset, .unset, .unset, .unset, .unset, .unset] [(.int (p0 &&& (2147483647 : Int32))), (.int (1 : Int32))])) _
    refine X0.ldcInt hx hown (mvT hZ (hw _ (List.mem_of_getElem? (i := 1) rfl))) (g := (mkF m 5 #[.val (.int p0), .val (.int p1), .val (.int p2), .unset, .unset, .unset, .unset, .unset, .unset, .unset, .unset] [(.int (p0 &&& (2147483647 : Int32))), (.int (1 : Int32))])) rfl (hb hby at_5) _ ?_
    show Steps p.tables e below (s₁.setTop (mkF m 7 #[.val (.int p0), .val (.int p1), .val (.int p2), .unset, .unset, .unset, .unset, .unset, .unset, .unset, .unset] [(.int (1048575 : Int32)), (.int (p0 &&& (2147483647 : Int32))), (.int (1 : Int32))])) _
    refine iremM X0 hx rfl (hb hby at_7) rfl (by decide) ?_
    show Steps p.tables e below (s₁.setTop (mkF m 8 #[.val (.int p0), .val (.int p1), .val (.int p2), .unset, .unset, .unset, .unset, .unset, .unset, .unset, .unset] [(.int ((p0 &&& (2147483647 : Int32)) % (1048575 : Int32))), (.int (1 : Int32))])) _
    refine XS.iadd X0.here hx rfl (hb hby at_8) rfl ?_
    show Steps p.tables e below (s₁.setTop (mkF m 9 #[.val (.int p0), .val (.int p1), .val (.int p2), .unset, .unset, .unset, .unset, .unset, .unset, .unset, .unset] [(.int (own_bi p0))])) _
    refine XS.istoreN X0.here hx rfl (hb hby at_9) rfl (l' := #[.val (.int p0), .val (.int p1), .val (.int p2), .val (.int (own_bi p0)), .unset, .unset, .unset, .unset, .unset, .unset, .unset]) rfl ?_
    show Steps p.tables e below (s₁.setTop (mkF m 10 #[.val (.int p0), .val (.int p1), .val (.int p2), .val (.int (own_bi p0)), .unset, .unset, .unset, .unset, .unset, .unset, .unset] [])) _
    refine XS.iloadN X0.here hx rfl (hb hby at_10) rfl ?_
    show Steps p.tables e below (s₁.setTop (mkF m 11 #[.val (.int p0), .val (.int p1), .val (.int p2), .val (.int (own_bi p0)), .unset, .unset, .unset, .unset, .unset, .unset, .unset] [(.int p1)])) _
    refine X0.ldcInt hx hown (mvT hZ (hw _ (List.mem_of_getElem? (i := 0) rfl))) (g := (mkF m 11 #[.val (.int p0), .val (.int p1), .val (.int p2), .val (.int (own_bi p0)), .unset, .unset, .unset, .unset, .unset, .unset, .unset] [(.int p1)])) rfl (hb hby at_11) _ ?_
    show Steps p.tables e below (s₁.setTop (mkF m 13 #[.val (.int p0), .val (.int p1), .val (.int p2), .val (.int (own_bi p0)), .unset, .unset, .unset, .unset, .unset, .unset, .unset] [(.int (2147483647 : Int32)), (.int p1)])) _
    refine XS.iand X0.here hx rfl (hb hby at_13) rfl ?_
    show Steps p.tables e below (s₁.setTop (mkF m 14 #[.val (.int p0), .val (.int p1), .val (.int p2), .val (.int (own_bi p0)), .unset, .unset, .unset, .unset, .unset, .unset, .unset] [(.int (p1 &&& (2147483647 : Int32)))])) _
    refine X0.ldcInt hx hown (mvT hZ (hw _ (List.mem_of_getElem? (i := 2) rfl))) (g := (mkF m 14 #[.val (.int p0), .val (.int p1), .val (.int p2), .val (.int (own_bi p0)), .unset, .unset, .unset, .unset, .unset, .unset, .unset] [(.int (p1 &&& (2147483647 : Int32)))])) rfl (hb hby at_14) _ ?_
    show Steps p.tables e below (s₁.setTop (mkF m 16 #[.val (.int p0), .val (.int p1), .val (.int p2), .val (.int (own_bi p0)), .unset, .unset, .unset, .unset, .unset, .unset, .unset] [(.int (1048577 : Int32)), (.int (p1 &&& (2147483647 : Int32)))])) _
    refine iremM X0 hx rfl (hb hby at_16) rfl (by decide) ?_
    show Steps p.tables e below (s₁.setTop (mkF m 17 #[.val (.int p0), .val (.int p1), .val (.int p2), .val (.int (own_bi p0)), .unset, .unset, .unset, .unset, .unset, .unset, .unset] [(.int (own_ki p1))])) _
    refine XS.istore X0.here hx rfl (hb hby at_17) rfl (l' := #[.val (.int p0), .val (.int p1), .val (.int p2), .val (.int (own_bi p0)), .val (.int (own_ki p1)), .unset, .unset, .unset, .unset, .unset, .unset]) rfl ?_
    show Steps p.tables e below (s₁.setTop (mkF m 19 #[.val (.int p0), .val (.int p1), .val (.int p2), .val (.int (own_bi p0)), .val (.int (own_ki p1)), .unset, .unset, .unset, .unset, .unset, .unset] [])) _
    refine XS.iloadN X0.here hx rfl (hb hby at_19) rfl ?_
    show Steps p.tables e below (s₁.setTop (mkF m 20 #[.val (.int p0), .val (.int p1), .val (.int p2), .val (.int (own_bi p0)), .val (.int (own_ki p1)), .unset, .unset, .unset, .unset, .unset, .unset] [(.int (own_bi p0))])) _
    refine XS.i2dS X0.here hx rfl (hb hby at_20) rfl rfl ?_
    show Steps p.tables e below (s₁.setTop (mkF m 21 #[.val (.int p0), .val (.int p1), .val (.int p2), .val (.int (own_bi p0)), .val (.int (own_ki p1)), .unset, .unset, .unset, .unset, .unset, .unset] [(.double (FP.i2d (own_bi p0)))])) _
    refine X0.ldc2DoubleC hx hown (mvT hZ (hw _ (List.mem_of_getElem? (i := 3) rfl))) (g := (mkF m 21 #[.val (.int p0), .val (.int p1), .val (.int p2), .val (.int (own_bi p0)), .val (.int (own_ki p1)), .unset, .unset, .unset, .unset, .unset, .unset] [(.double (FP.i2d (own_bi p0)))])) rfl (hb hby at_21) _ ?_
    show Steps p.tables e below (s₁.setTop (mkF m 24 #[.val (.int p0), .val (.int p1), .val (.int p2), .val (.int (own_bi p0)), .val (.int (own_ki p1)), .unset, .unset, .unset, .unset, .unset, .unset] [(.double (4697254411347427328 : UInt64)), (.double (FP.i2d (own_bi p0)))])) _
    refine XS.ddivS X0.here hx rfl (hb hby at_24) rfl (Fl.ddiv_out (Fl.i2d_fin _).noNaN own_q_fin own_q_nz) rfl ?_
    show Steps p.tables e below (s₁.setTop (mkF m 25 #[.val (.int p0), .val (.int p1), .val (.int p2), .val (.int (own_bi p0)), .val (.int (own_ki p1)), .unset, .unset, .unset, .unset, .unset, .unset] [(.double (own_fr (own_bi p0)))])) _
    refine XS.dstore X0.here hx rfl (hb hby at_25) rfl (l' := #[.val (.int p0), .val (.int p1), .val (.int p2), .val (.int (own_bi p0)), .val (.int (own_ki p1)), .val (.double (own_fr (own_bi p0))), .second, .unset, .unset, .unset, .unset]) rfl ?_
    show Steps p.tables e below (s₁.setTop (mkF m 27 #[.val (.int p0), .val (.int p1), .val (.int p2), .val (.int (own_bi p0)), .val (.int (own_ki p1)), .val (.double (own_fr (own_bi p0))), .second, .unset, .unset, .unset, .unset] [])) _
    refine XS.iload X0.here hx rfl (hb hby at_27) rfl ?_
    show Steps p.tables e below (s₁.setTop (mkF m 29 #[.val (.int p0), .val (.int p1), .val (.int p2), .val (.int (own_bi p0)), .val (.int (own_ki p1)), .val (.double (own_fr (own_bi p0))), .second, .unset, .unset, .unset, .unset] [(.int (own_ki p1))])) _
    refine XS.i2dS X0.here hx rfl (hb hby at_29) rfl rfl ?_
    show Steps p.tables e below (s₁.setTop (mkF m 30 #[.val (.int p0), .val (.int p1), .val (.int p2), .val (.int (own_bi p0)), .val (.int (own_ki p1)), .val (.double (own_fr (own_bi p0))), .second, .unset, .unset, .unset, .unset] [(.double (FP.i2d (own_ki p1)))])) _
    refine X0.ldc2DoubleC hx hown (mvT hZ (hw _ (List.mem_of_getElem? (i := 3) rfl))) (g := (mkF m 30 #[.val (.int p0), .val (.int p1), .val (.int p2), .val (.int (own_bi p0)), .val (.int (own_ki p1)), .val (.double (own_fr (own_bi p0))), .second, .unset, .unset, .unset, .unset] [(.double (FP.i2d (own_ki p1)))])) rfl (hb hby at_30) _ ?_
    show Steps p.tables e below (s₁.setTop (mkF m 33 #[.val (.int p0), .val (.int p1), .val (.int p2), .val (.int (own_bi p0)), .val (.int (own_ki p1)), .val (.double (own_fr (own_bi p0))), .second, .unset, .unset, .unset, .unset] [(.double (4697254411347427328 : UInt64)), (.double (FP.i2d (own_ki p1)))])) _
    refine XS.ddivS X0.here hx rfl (hb hby at_33) rfl (Fl.ddiv_out (Fl.i2d_fin _).noNaN own_q_fin own_q_nz) rfl ?_
    show Steps p.tables e below (s₁.setTop (mkF m 34 #[.val (.int p0), .val (.int p1), .val (.int p2), .val (.int (own_bi p0)), .val (.int (own_ki p1)), .val (.double (own_fr (own_bi p0))), .second, .unset, .unset, .unset, .unset] [(.double (own_fr (own_ki p1)))])) _
    refine XS.dstore X0.here hx rfl (hb hby at_34) rfl (l' := #[.val (.int p0), .val (.int p1), .val (.int p2), .val (.int (own_bi p0)), .val (.int (own_ki p1)), .val (.double (own_fr (own_bi p0))), .second, .val (.double (own_fr (own_ki p1))), .second, .unset, .unset]) rfl ?_
    show Steps p.tables e below (s₁.setTop (mkF m 36 #[.val (.int p0), .val (.int p1), .val (.int p2), .val (.int (own_bi p0)), .val (.int (own_ki p1)), .val (.double (own_fr (own_bi p0))), .second, .val (.double (own_fr (own_ki p1))), .second, .unset, .unset] [])) _
    refine st1 _ ?_
    show Steps p.tables e below (T1.setTop (mkF m 39 #[.val (.int p0), .val (.int p1), .val (.int p2), .val (.int (own_bi p0)), .val (.int (own_ki p1)), .val (.double (own_fr (own_bi p0))), .second, .val (.double (own_fr (own_ki p1))), .second, .unset, .unset] [(.ref b1)])) _
    refine XS.dup X1.here hx rfl (hb hby at_39) rfl rfl ?_
    show Steps p.tables e below (T1.setTop (mkF m 40 #[.val (.int p0), .val (.int p1), .val (.int p2), .val (.int (own_bi p0)), .val (.int (own_ki p1)), .val (.double (own_fr (own_bi p0))), .second, .val (.double (own_fr (own_ki p1))), .second, .unset, .unset] [(.ref b1), (.ref b1)])) _
    refine XS.iconst X1.here hx rfl (hb hby at_40) ?_
    show Steps p.tables e below (T1.setTop (mkF m 41 #[.val (.int p0), .val (.int p1), .val (.int p2), .val (.int (own_bi p0)), .val (.int (own_ki p1)), .val (.double (own_fr (own_bi p0))), .second, .val (.double (own_fr (own_ki p1))), .second, .unset, .unset] [(.int (0 : Int32)), (.ref b1), (.ref b1)])) _
    refine XS.iconst X1.here hx rfl (hb hby at_41) ?_
    show Steps p.tables e below (T1.setTop (mkF m 42 #[.val (.int p0), .val (.int p1), .val (.int p2), .val (.int (own_bi p0)), .val (.int (own_ki p1)), .val (.double (own_fr (own_bi p0))), .second, .val (.double (own_fr (own_ki p1))), .second, .unset, .unset] [(.int (1 : Int32)), (.int (0 : Int32)), (.ref b1), (.ref b1)])) _
    refine X1.ldc2DoubleC hx hown (mvT hZ (hw _ (List.mem_of_getElem? (i := 7) rfl))) (g := (mkF m 42 #[.val (.int p0), .val (.int p1), .val (.int p2), .val (.int (own_bi p0)), .val (.int (own_ki p1)), .val (.double (own_fr (own_bi p0))), .second, .val (.double (own_fr (own_ki p1))), .second, .unset, .unset] [(.int (1 : Int32)), (.int (0 : Int32)), (.ref b1), (.ref b1)])) rfl (hb hby at_42) _ ?_
    show Steps p.tables e below (T1.setTop (mkF m 45 #[.val (.int p0), .val (.int p1), .val (.int p2), .val (.int (own_bi p0)), .val (.int (own_ki p1)), .val (.double (own_fr (own_bi p0))), .second, .val (.double (own_fr (own_ki p1))), .second, .unset, .unset] [(.double (4602678819172646912 : UInt64)), (.int (1 : Int32)), (.int (0 : Int32)), (.ref b1), (.ref b1)])) _
    refine st2.trans ?_
    show Steps p.tables e below (T2.setTop (mkF m 48 #[.val (.int p0), .val (.int p1), .val (.int p2), .val (.int (own_bi p0)), .val (.int (own_ki p1)), .val (.double (own_fr (own_bi p0))), .second, .val (.double (own_fr (own_ki p1))), .second, .unset, .unset] [(.ref b1)])) _
    refine XS.astore X2.here hx rfl (hb hby at_48) rfl rfl (l' := #[.val (.int p0), .val (.int p1), .val (.int p2), .val (.int (own_bi p0)), .val (.int (own_ki p1)), .val (.double (own_fr (own_bi p0))), .second, .val (.double (own_fr (own_ki p1))), .second, .val (.ref b1), .unset]) rfl ?_
    show Steps p.tables e below (T2.setTop (mkF m 50 #[.val (.int p0), .val (.int p1), .val (.int p2), .val (.int (own_bi p0)), .val (.int (own_ki p1)), .val (.double (own_fr (own_bi p0))), .second, .val (.double (own_fr (own_ki p1))), .second, .val (.ref b1), .unset] [])) _
    refine st3 _ ?_
    show Steps p.tables e below (T3.setTop (mkF m 53 #[.val (.int p0), .val (.int p1), .val (.int p2), .val (.int (own_bi p0)), .val (.int (own_ki p1)), .val (.double (own_fr (own_bi p0))), .second, .val (.double (own_fr (own_ki p1))), .second, .val (.ref b1), .unset] [(.ref b3)])) _
    refine XS.dup X3.here hx rfl (hb hby at_53) rfl rfl ?_
    show Steps p.tables e below (T3.setTop (mkF m 54 #[.val (.int p0), .val (.int p1), .val (.int p2), .val (.int (own_bi p0)), .val (.int (own_ki p1)), .val (.double (own_fr (own_bi p0))), .second, .val (.double (own_fr (own_ki p1))), .second, .val (.ref b1), .unset] [(.ref b3), (.ref b3)])) _
    refine XS.aload X3.here hx rfl (hb hby at_54) rfl rfl ?_
    show Steps p.tables e below (T3.setTop (mkF m 56 #[.val (.int p0), .val (.int p1), .val (.int p2), .val (.int (own_bi p0)), .val (.int (own_ki p1)), .val (.double (own_fr (own_bi p0))), .second, .val (.double (own_fr (own_ki p1))), .second, .val (.ref b1), .unset] [(.ref b1), (.ref b3), (.ref b3)])) _
    refine XS.iloadN X3.here hx rfl (hb hby at_56) rfl ?_
    show Steps p.tables e below (T3.setTop (mkF m 57 #[.val (.int p0), .val (.int p1), .val (.int p2), .val (.int (own_bi p0)), .val (.int (own_ki p1)), .val (.double (own_fr (own_bi p0))), .second, .val (.double (own_fr (own_ki p1))), .second, .val (.ref b1), .unset] [(.int p2), (.ref b1), (.ref b3), (.ref b3)])) _
    refine XS.dload X3.here hx rfl (hb hby at_57) rfl ?_
    show Steps p.tables e below (T3.setTop (mkF m 59 #[.val (.int p0), .val (.int p1), .val (.int p2), .val (.int (own_bi p0)), .val (.int (own_ki p1)), .val (.double (own_fr (own_bi p0))), .second, .val (.double (own_fr (own_ki p1))), .second, .val (.ref b1), .unset] [(.double (own_fr (own_bi p0))), (.int p2), (.ref b1), (.ref b3), (.ref b3)])) _
    refine XS.dload X3.here hx rfl (hb hby at_59) rfl ?_
    show Steps p.tables e below (T3.setTop (mkF m 61 #[.val (.int p0), .val (.int p1), .val (.int p2), .val (.int (own_bi p0)), .val (.int (own_ki p1)), .val (.double (own_fr (own_bi p0))), .second, .val (.double (own_fr (own_ki p1))), .second, .val (.ref b1), .unset] [(.double (own_fr (own_ki p1))), (.double (own_fr (own_bi p0))), (.int p2), (.ref b1), (.ref b3), (.ref b3)])) _
    refine st4.trans ?_
    show Steps p.tables e below (T4.setTop (mkF m 64 #[.val (.int p0), .val (.int p1), .val (.int p2), .val (.int (own_bi p0)), .val (.int (own_ki p1)), .val (.double (own_fr (own_bi p0))), .second, .val (.double (own_fr (own_ki p1))), .second, .val (.ref b1), .unset] [(.ref b3)])) _
    refine XS.astore X4.here hx rfl (hb hby at_64) rfl rfl (l' := #[.val (.int p0), .val (.int p1), .val (.int p2), .val (.int (own_bi p0)), .val (.int (own_ki p1)), .val (.double (own_fr (own_bi p0))), .second, .val (.double (own_fr (own_ki p1))), .second, .val (.ref b1), .val (.ref b3)]) rfl ?_
    show Steps p.tables e below (T4.setTop (mkF m 66 #[.val (.int p0), .val (.int p1), .val (.int p2), .val (.int (own_bi p0)), .val (.int (own_ki p1)), .val (.double (own_fr (own_bi p0))), .second, .val (.double (own_fr (own_ki p1))), .second, .val (.ref b1), .val (.ref b3)] [])) _
    refine XS.aload X4.here hx rfl (hb hby at_66) rfl rfl ?_
    show Steps p.tables e below (T4.setTop (mkF m 68 #[.val (.int p0), .val (.int p1), .val (.int p2), .val (.int (own_bi p0)), .val (.int (own_ki p1)), .val (.double (own_fr (own_bi p0))), .second, .val (.double (own_fr (own_ki p1))), .second, .val (.ref b1), .val (.ref b3)] [(.ref b3)])) _
    refine st5.trans ?_
    show Steps p.tables e below (T5.setTop (mkF m 71 #[.val (.int p0), .val (.int p1), .val (.int p2), .val (.int (own_bi p0)), .val (.int (own_ki p1)), .val (.double (own_fr (own_bi p0))), .second, .val (.double (own_fr (own_ki p1))), .second, .val (.ref b1), .val (.ref b3)] [(.int (own_meets (own_fr (own_ki p1)) (own_fr (own_bi p0))))])) _
    refine XS.iload X5.here hx rfl (hb hby at_71) rfl ?_
    show Steps p.tables e below (T5.setTop (mkF m 73 #[.val (.int p0), .val (.int p1), .val (.int p2), .val (.int (own_bi p0)), .val (.int (own_ki p1)), .val (.double (own_fr (own_bi p0))), .second, .val (.double (own_fr (own_ki p1))), .second, .val (.ref b1), .val (.ref b3)] [(.int (own_ki p1)), (.int (own_meets (own_fr (own_ki p1)) (own_fr (own_bi p0))))])) _
    refine XS.iloadN X5.here hx rfl (hb hby at_73) rfl ?_
    show Steps p.tables e below (T5.setTop (mkF m 74 #[.val (.int p0), .val (.int p1), .val (.int p2), .val (.int (own_bi p0)), .val (.int (own_ki p1)), .val (.double (own_fr (own_bi p0))), .second, .val (.double (own_fr (own_ki p1))), .second, .val (.ref b1), .val (.ref b3)] [(.int (own_bi p0)), (.int (own_ki p1)), (.int (own_meets (own_fr (own_ki p1)) (own_fr (own_bi p0))))])) _
    refine sg_0_74_82 X5 hx hZ hw hby hown ?_
    show Steps p.tables e below (T5.setTop (mkF m 82 #[.val (.int p0), .val (.int p1), .val (.int p2), .val (.int (own_bi p0)), .val (.int (own_ki p1)), .val (.double (own_fr (own_bi p0))), .second, .val (.double (own_fr (own_ki p1))), .second, .val (.ref b1), .val (.ref b3)] [(.int (own_want (own_ki p1) (own_bi p0))), (.int (own_meets (own_fr (own_ki p1)) (own_fr (own_bi p0))))])) _
    refine XS.icmpNo X5.here hx rfl (hb hby at_82) rfl (own_law (own_ki p1) (own_bi p0)) ?_
    show Steps p.tables e below (T5.setTop (mkF m 85 #[.val (.int p0), .val (.int p1), .val (.int p2), .val (.int (own_bi p0)), .val (.int (own_ki p1)), .val (.double (own_fr (own_bi p0))), .second, .val (.double (own_fr (own_ki p1))), .second, .val (.ref b1), .val (.ref b3)] [])) _
    refine XS.iconst X5.here hx rfl (hb hby at_85) ?_
    show Steps p.tables e below (T5.setTop (mkF m 86 #[.val (.int p0), .val (.int p1), .val (.int p2), .val (.int (own_bi p0)), .val (.int (own_ki p1)), .val (.double (own_fr (own_bi p0))), .second, .val (.double (own_fr (own_ki p1))), .second, .val (.ref b1), .val (.ref b3)] [(.int (1 : Int32))])) _
    refine XS.goto X5.here hx rfl (pc0 := 86) (pc' := 90) rfl (hb hby at_86) (by decide) (by decide) ?_
    show Steps p.tables e below (T5.setTop (mkF m 90 #[.val (.int p0), .val (.int p1), .val (.int p2), .val (.int (own_bi p0)), .val (.int (own_ki p1)), .val (.double (own_fr (own_bi p0))), .second, .val (.double (own_fr (own_ki p1))), .second, .val (.ref b1), .val (.ref b3)] [(.int (1 : Int32))])) _
    exact retN X5 hx (t := .boolean) Bd.returns (by simp) (hb hby at_90) hr
  · show Q0 Z p0 p1 p2 aoi aod h0 n0 _ T5.heap _
    rw [eh5]
    exact ⟨rfl, N5⟩
set_option maxRecDepth 65536 in
set_option maxHeartbeats 40000000 in
theorem comes_1 {Post : Tables → Env → Array Value → State → Outcome → State → Prop} (hpost : ∀ tb e args s v u, (limb_1_1.after args s (.returned v) u = true ∧ limb_1_2.after args s (.returned v) u = true ∧ True) → FrameEnd s (.returned v) u (Jvm.fieldLocs frame_1_writes args s ++ Jvm.arrayLocs frame_1_arrays args s ++ Jvm.staticLocs frame_1_statics s) 16 128 → Post tb e args s (.returned v) u) :
    ArmFor flags0 classFile x code maxLocals ret World_1 tables_1 room_1 Calls_1 rest_1 Pre_1 Post := by
  intro l hfl _ _ p e ha hc hk s m args below hf hA hF happ hP
  obtain ⟨hcalls, hrest, hpre⟩ := hP
  obtain ⟨-, -, -, hnamed, -, -, -, hat⟩ := (Spec.applies_iff hf).mp happ
  obtain ⟨hg, hn⟩ := and_e (Cond.before_iff.mp (show (Jvm.Cond.and given_1 narrow_1).before args s = true from hpre))
  obtain ⟨hcount, hg0⟩ := and_e hg
  obtain ⟨ha0, hg1⟩ := and_e hg0
  obtain ⟨ha1, hg2⟩ := and_e hg1
  have ha2 := hg2
  obtain ⟨w0, w1, w2, rfl⟩ : ∃ w0 w1 w2 : Value, args = #[w0, w1, w2] := by
    have hs : args.size = 3 := by simpa [Cond.value, given_1] using hcount
    obtain ⟨L⟩ := args
    match L, hs with
    | [w0, w1, w2], _ => exact ⟨w0, w1, w2, rfl⟩
  have hw := fun d (hd : d ∈ tables_1) => atoms_spec (ws := Jvm.Cond.code x code maxLocals ret :: tables_1) hat d (List.mem_cons_of_mem _ hd)
  have hfit : Fit s := fun {y c} hc i hi => by
    obtain ⟨ha, rfl⟩ := Array.getElem?_eq_some_iff.mp hc
    have q := List.all_eq_true.mp ((Array.all_eq_true_iff_forall_mem.mp hF) _ (Array.getElem_mem ha)) i (List.mem_range.mpr hi)
    simpa [Array.getElem?_eq_getElem hi] using q
  obtain ⟨hsets, hown0⟩ := atoms_of _ (rest_1_c_eq ▸ (show rest_1_c.before _ s = true from hrest))
  obtain ⟨i0, ei0⟩ := is_v ha0
  obtain rfl : w0 = (.int i0) := Option.some.inj ei0
  obtain ⟨i1, ei1⟩ := is_v ha1
  obtain rfl : w1 = (.int i1) := Option.some.inj ei1
  obtain ⟨i2, ei2⟩ := is_v ha2
  obtain rfl : w2 = (.int i2) := Option.some.inj ei2
  obtain ⟨aoi, ev1⟩ := exa_v (Cond.before_iff.mp (hsets _ (List.mem_of_getElem? (i := 2) rfl)))
  obtain ⟨aod, ev2⟩ := exa_v (Cond.before_iff.mp (hsets _ (List.mem_of_getElem? (i := 7) rfl)))
  have E1 := Exa.start ev1 (Cond.before_iff.mp (hsets _ (List.mem_of_getElem? (i := 2) rfl)))
  have E2 := Exa.start ev2 (Cond.before_iff.mp (hsets _ (List.mem_of_getElem? (i := 7) rfl)))
  have F1 := own_fld0 ev1 (Cond.before_iff.mp (hsets _ (List.mem_of_getElem? (i := 3) rfl)))
  have F2 := own_fld0 ev2 (Cond.before_iff.mp (hsets _ (List.mem_of_getElem? (i := 8) rfl)))
  have S1 := Sta.start ev1 (Or.inl (hsets _ (List.mem_of_getElem? (i := 1) rfl)))
  have S2 := Sta.start ev2 (Or.inl (hsets _ (List.mem_of_getElem? (i := 6) rfl)))
  obtain ⟨n, o, h1, h2, h3, _, L, rfl, ⟨rfl, N⟩, hq⟩ := rm0 l s _ hw tables_1 i0 i1 i2 aoi aod s.heap s.heap.size (Nat.le_refl _) E1 F1 E2 F2 S1 S2 p e ha hc hk s m _ below hf ((Spec.applies_iff_loose hf).mp happ).1 ⟨rfl, State.Warmed39.refl s, rfl⟩ trivial
  refine ⟨n, _, h1, h2, h3, hpost _ _ _ _ _ _ ⟨Cond.after_iff.mpr rfl, Cond.after_iff.mpr (eq_i res_at (Term.int_eval (1)) rfl), trivial⟩ ⟨hq.1, hq.2.1, (hq.2.2.sift fun y hy => Or.inr (N y hy)).mono (by decide) (by decide)⟩⟩
theorem main_1_1 : Claimed_1_1 := comes_1 fun _ _ _ _ _ _ h hF => ⟨h.1, hF⟩
theorem main_1_2 : Claimed_1_2 := comes_1 fun _ _ _ _ _ _ h hF => ⟨h.2.1, hF⟩
end Jvm.Pilot.@@N@@
namespace Jvm.Pilot.@@N@@
open Jvm Jvm.ClassFile Sem Op Lib Jvm.Free Jvm.Stand Jvm.Pilot.@@N@@.Jvm.D
/-! MADE BY PROGRAM (witnessworld.py) out of the Statement's table words and the real class files: 13 classes; the members and pool entries that the words name. The judged class is class 1, her method 1. -/
namespace start1
open Jvm.ClassFile
def u (s : String) : CpInfo := .utf8 (stringToUtf16 s)
/-- a pool by its gaps: so many unusable entries, then the entry; so many at the end -/
def gap : Nat → List CpInfo → List CpInfo
  | 0, r => r
  | n + 1, r => .unusable :: gap n r
def poolList (es : List (Nat × CpInfo)) (last : Nat) : List CpInfo := es.foldr (fun e r => gap e.1 (e.2 :: r)) (gap last [])
def pool (es : List (Nat × CpInfo)) (last : Nat) : Array CpInfo := ⟨poolList es last⟩
def fileOf (pool : Array CpInfo) (this : Nat) (attrs : Array Attribute := #[]) (ms : Array MethodInfo := #[]) (fl : Nat := 33) (sup : Nat := 0) (ifs : Array Nat := #[]) (fds : Array FieldInfo := #[]) : ClassFile where
  minorVersion := 0
  majorVersion := 65
  constantPool := pool
  accessFlags := fl
  thisClass := this
  superClass := sup
  interfaces := ifs
  fields := fds
  methods := ms
  attributes := attrs
def plain (name : String) (sup : Option ClassId) : Class where
  name := name
  kind := .ordinary
  loader := none
  accessFlags := 33
  super := sup
  interfaces := #[]
  cf := none
  fields := #[]
  methods := #[]
  instanceTypes := #[]
  staticTypes := #[]
  resolved := #[]
  callSites := []
  init := .initialized
  statics := none
  mirror := none

def pool0 : Array CpInfo := pool [(5, u "<init>"), (0, u "()V"), (1, .class_ 10), (1, u "java/lang/Object")] 113

def k0c0 : Code := { maxStack := 0, maxLocals := 1, code := object_method_1_code, exceptionTable := #[], attributes := #[] }
def k0m0 : Method := { name := "<init>", desc := "()V", sig := { parameters := [], returnType := none }, accessFlags := 1, code := some k0c0 }
/-- java/lang/Object -/
def k0 : Class := { plain "java/lang/Object" none with
  accessFlags := 33
  interfaces := #[]
  cf := some (fileOf pool0 8 #[] #[{ accessFlags := 1, nameIndex := 5, descriptorIndex := 6, attributes := #[] }] 33 0 #[] #[])
  fields := #[]
  methods := #[k0m0]
  instanceTypes := #[]
  staticTypes := #[]
  resolved := Array.replicate 124 none
  statics := none }

def pool1 : Array CpInfo := pool [(2, .class_ 4), (1, u "java/lang/Object"), (0, u "<init>"), (0, u "()V"), (0, .integer 2147483647), (0, .integer 1048575), (0, .integer 1048577), (0, .double 4697254411347427328), (1, .class_ 13), (0, u "com/example/lumenweave/lumenweave/traffic/User"), (0, .double 4602678819172646912), (1, .methodref 12 17), (0, .nameAndType 5 18), (0, u "(IID)V"), (0, .class_ 20), (0, u "com/example/lumenweave/lumenweave/dimensioning/UserOutcome"), (0, .methodref 19 22), (0, .nameAndType 5 23), (0, u "(Lcom/example/lumenweave/lumenweave/traffic/User;IDD)V"), (0, .methodref 19 25), (0, .nameAndType 26 27), (0, u "meetsBound"), (0, u "()Z"), (0, .class_ 29), (0, u "com/example/lumenweave/lumenweave/dimensioning/UserOutcomeMeetsBoundPinLaw"), (2, u "law"), (0, u "(III)Z")] 3

def k1m0 : Method := { name := "<init>", desc := "()V", sig := { parameters := [], returnType := none }, accessFlags := 2, code := none }
def k1c1 : Code := { maxStack := 8, maxLocals := 11, code := code, exceptionTable := #[], attributes := #[] }
def k1m1 : Method := { name := "law", desc := "(III)Z", sig := { parameters := [.int, .int, .int], returnType := some .boolean }, accessFlags := 9, code := some k1c1 }
/-- com/example/lumenweave/lumenweave/dimensioning/UserOutcomeMeetsBoundPinLaw -/
def k1 : Class := { plain "com/example/lumenweave/lumenweave/dimensioning/UserOutcomeMeetsBoundPinLaw" (some 0) with
  accessFlags := 49
  interfaces := #[]
  cf := some (fileOf pool1 28 #[] #[{ accessFlags := 2, nameIndex := 5, descriptorIndex := 6, attributes := #[] }, { accessFlags := 9, nameIndex := 32, descriptorIndex := 33, attributes := #[] }] 49 2 #[] #[])
  fields := #[]
  methods := #[k1m0, k1m1]
  instanceTypes := #[]
  staticTypes := #[]
  resolved := Array.replicate 37 none
  statics := none }

def pool2 : Array CpInfo := pool [(1, .methodref 2 3), (0, .class_ 4), (0, .nameAndType 5 6), (0, u "java/lang/Object"), (0, u "<init>"), (0, u "()V"), (0, .class_ 8), (0, u "java/lang/Record")] 13

def k2c0 : Code := { maxStack := 1, maxLocals := 1, code := jdk_30_method_1_code, exceptionTable := #[], attributes := #[] }
def k2m0 : Method := { name := "<init>", desc := "()V", sig := { parameters := [], returnType := none }, accessFlags := 4, code := some k2c0 }
/-- java/lang/Record -/
def k2 : Class := { plain "java/lang/Record" (some 0) with
  accessFlags := 1057
  interfaces := #[]
  cf := some (fileOf pool2 7 #[] #[{ accessFlags := 4, nameIndex := 5, descriptorIndex := 6, attributes := #[] }] 1057 2 #[] #[])
  fields := #[]
  methods := #[k2m0]
  instanceTypes := #[]
  staticTypes := #[]
  resolved := Array.replicate 22 none
  statics := none }

def pool3 : Array CpInfo := pool [(1, .methodref 2 3), (0, .class_ 4), (0, .nameAndType 5 6), (0, u "java/lang/Record"), (0, u "<init>"), (0, u "()V"), (9, .methodref 17 18), (0, .class_ 19), (0, .nameAndType 20 21), (0, u "com/example/lumenweave/lumenweave/traffic/User"), (0, u "isLoad"), (0, u "(D)Z"), (3, .methodref 26 27), (0, .class_ 28), (0, .nameAndType 29 30), (0, u "java/util/OptionalInt"), (0, u "isPresent"), (0, u "()Z"), (5, .methodref 37 27), (0, .class_ 38), (0, u "java/util/OptionalDouble"), (8, .fieldref 17 48), (0, .nameAndType 49 50), (0, u "source"), (0, u "I"), (0, .fieldref 17 52), (0, .nameAndType 53 50), (0, u "target"), (0, .fieldref 17 55), (0, .nameAndType 56 57), (0, u "load"), (0, u "D"), (0, .fieldref 17 59), (0, .nameAndType 60 61), (0, u "maxWavelength"), (0, u "Ljava/util/OptionalInt;"), (0, .fieldref 17 63), (0, .nameAndType 64 65), (0, u "beta"), (0, u "Ljava/util/OptionalDouble;"), (0, .methodref 26 67), (0, .nameAndType 68 69), (0, u "empty"), (0, u "()Ljava/util/OptionalInt;"), (0, .methodref 37 71), (0, .nameAndType 68 72), (0, u "()Ljava/util/OptionalDouble;"), (0, .methodref 17 74), (0, .nameAndType 5 75), (0, u "(IIDLjava/util/OptionalInt;Ljava/util/OptionalDouble;)V"), (50, u "LOAD_RANGE"), (0, u "Ljava/lang/String;"), (3, u "BOUND_RANGE"), (6, u "(IID)V")] 52

def k3c0 : Code := { maxStack := 4, maxLocals := 7, code := prog_68_method_1_code, exceptionTable := #[], attributes := #[] }
def k3m0 : Method := { name := "<init>", desc := "(IIDLjava/util/OptionalInt;Ljava/util/OptionalDouble;)V", sig := { parameters := [.int, .int, .double, (.object "java/util/OptionalInt"), (.object "java/util/OptionalDouble")], returnType := none }, accessFlags := 1, code := some k3c0 }
def k3c1 : Code := { maxStack := 7, maxLocals := 5, code := prog_68_method_2_code, exceptionTable := #[], attributes := #[] }
def k3m1 : Method := { name := "<init>", desc := "(IID)V", sig := { parameters := [.int, .int, .double], returnType := none }, accessFlags := 1, code := some k3c1 }
def k3c2 : Code := { maxStack := 4, maxLocals := 2, code := prog_68_method_4_code, exceptionTable := #[], attributes := #[] }
def k3m2 : Method := { name := "isLoad", desc := "(D)Z", sig := { parameters := [.double], returnType := some .boolean }, accessFlags := 9, code := some k3c2 }
/-- com/example/lumenweave/lumenweave/traffic/User -/
def k3 : Class := { plain "com/example/lumenweave/lumenweave/traffic/User" (some 2) with
  accessFlags := 49
  interfaces := #[]
  cf := some (fileOf pool3 17 #[] #[{ accessFlags := 1, nameIndex := 5, descriptorIndex := 75, attributes := #[] }, { accessFlags := 1, nameIndex := 5, descriptorIndex := 138, attributes := #[] }, { accessFlags := 9, nameIndex := 20, descriptorIndex := 21, attributes := #[] }] 49 2 #[] #[{ accessFlags := 18, nameIndex := 49, descriptorIndex := 50, attributes := #[] }, { accessFlags := 18, nameIndex := 53, descriptorIndex := 50, attributes := #[] }, { accessFlags := 18, nameIndex := 56, descriptorIndex := 57, attributes := #[] }, { accessFlags := 18, nameIndex := 60, descriptorIndex := 61, attributes := #[] }, { accessFlags := 18, nameIndex := 64, descriptorIndex := 65, attributes := #[] }, { accessFlags := 25, nameIndex := 126, descriptorIndex := 127, attributes := #[] }, { accessFlags := 25, nameIndex := 131, descriptorIndex := 127, attributes := #[] }])
  fields := #[{ name := "source", type := .int, accessFlags := 18, slot := 0, constantValue := 0 }, { name := "target", type := .int, accessFlags := 18, slot := 1, constantValue := 0 }, { name := "load", type := .double, accessFlags := 18, slot := 2, constantValue := 0 }, { name := "maxWavelength", type := (.object "java/util/OptionalInt"), accessFlags := 18, slot := 3, constantValue := 0 }, { name := "beta", type := (.object "java/util/OptionalDouble"), accessFlags := 18, slot := 4, constantValue := 0 }, { name := "LOAD_RANGE", type := (.object "java/lang/String"), accessFlags := 25, slot := 0, constantValue := 0 }, { name := "BOUND_RANGE", type := (.object "java/lang/String"), accessFlags := 25, slot := 1, constantValue := 0 }]
  methods := #[k3m0, k3m1, k3m2]
  instanceTypes := #[.int, .int, .double, (.object "java/util/OptionalInt"), (.object "java/util/OptionalDouble")]
  staticTypes := #[(.object "java/lang/String"), (.object "java/lang/String")]
  resolved := Array.replicate 191 none
  statics := none }

def pool4 : Array CpInfo := pool [(2, .class_ 4), (1, u "java/lang/Object"), (0, u "<init>"), (0, u "()V"), (0, .fieldref 8 9), (0, .class_ 10), (0, .nameAndType 11 12), (0, u "java/util/OptionalInt"), (0, u "isPresent"), (0, u "Z"), (2, u "value"), (0, u "I"), (0, .fieldref 8 18), (0, .nameAndType 19 20), (0, u "EMPTY"), (0, u "Ljava/util/OptionalInt;"), (28, u "empty"), (46, u "()Ljava/util/OptionalInt;"), (2, u "()Z")] 36

def k4m0 : Method := { name := "<init>", desc := "()V", sig := { parameters := [], returnType := none }, accessFlags := 2, code := none }
def k4c1 : Code := { maxStack := 1, maxLocals := 0, code := jdk_2649_method_2_code, exceptionTable := #[], attributes := #[] }
def k4m1 : Method := { name := "empty", desc := "()Ljava/util/OptionalInt;", sig := { parameters := [], returnType := some (.object "java/util/OptionalInt") }, accessFlags := 9, code := some k4c1 }
def k4c2 : Code := { maxStack := 1, maxLocals := 1, code := jdk_2649_method_6_code, exceptionTable := #[], attributes := #[] }
def k4m2 : Method := { name := "isPresent", desc := "()Z", sig := { parameters := [], returnType := some .boolean }, accessFlags := 1, code := some k4c2 }
/-- java/util/OptionalInt -/
def k4 : Class := { plain "java/util/OptionalInt" (some 0) with
  accessFlags := 49
  interfaces := #[]
  cf := some (fileOf pool4 8 #[] #[{ accessFlags := 2, nameIndex := 5, descriptorIndex := 6, attributes := #[] }, { accessFlags := 9, nameIndex := 49, descriptorIndex := 96, attributes := #[] }, { accessFlags := 1, nameIndex := 11, descriptorIndex := 99, attributes := #[] }] 49 2 #[] #[{ accessFlags := 26, nameIndex := 19, descriptorIndex := 20, attributes := #[] }, { accessFlags := 18, nameIndex := 11, descriptorIndex := 12, attributes := #[] }, { accessFlags := 18, nameIndex := 15, descriptorIndex := 16, attributes := #[] }])
  fields := #[{ name := "EMPTY", type := (.object "java/util/OptionalInt"), accessFlags := 26, slot := 0, constantValue := 0 }, { name := "isPresent", type := .boolean, accessFlags := 18, slot := 0, constantValue := 0 }, { name := "value", type := .int, accessFlags := 18, slot := 1, constantValue := 0 }]
  methods := #[k4m0, k4m1, k4m2]
  instanceTypes := #[.boolean, .int]
  staticTypes := #[(.object "java/util/OptionalInt")]
  resolved := Array.replicate 136 none
  statics := some 0 }

def pool5 : Array CpInfo := pool [(2, .class_ 4), (1, u "java/lang/Object"), (0, u "<init>"), (0, u "()V"), (0, .fieldref 8 9), (0, .class_ 10), (0, .nameAndType 11 12), (0, u "java/util/OptionalDouble"), (0, u "isPresent"), (0, u "Z"), (6, u "value"), (0, u "D"), (0, .fieldref 8 22), (0, .nameAndType 23 24), (0, u "EMPTY"), (0, u "Ljava/util/OptionalDouble;"), (28, u "empty"), (48, u "()Ljava/util/OptionalDouble;"), (2, u "()Z")] 38

def k5m0 : Method := { name := "<init>", desc := "()V", sig := { parameters := [], returnType := none }, accessFlags := 2, code := none }
def k5c1 : Code := { maxStack := 1, maxLocals := 0, code := jdk_2648_method_2_code, exceptionTable := #[], attributes := #[] }
def k5m1 : Method := { name := "empty", desc := "()Ljava/util/OptionalDouble;", sig := { parameters := [], returnType := some (.object "java/util/OptionalDouble") }, accessFlags := 9, code := some k5c1 }
def k5c2 : Code := { maxStack := 1, maxLocals := 1, code := jdk_2648_method_6_code, exceptionTable := #[], attributes := #[] }
def k5m2 : Method := { name := "isPresent", desc := "()Z", sig := { parameters := [], returnType := some .boolean }, accessFlags := 1, code := some k5c2 }
/-- java/util/OptionalDouble -/
def k5 : Class := { plain "java/util/OptionalDouble" (some 0) with
  accessFlags := 49
  interfaces := #[]
  cf := some (fileOf pool5 8 #[] #[{ accessFlags := 2, nameIndex := 5, descriptorIndex := 6, attributes := #[] }, { accessFlags := 9, nameIndex := 53, descriptorIndex := 102, attributes := #[] }, { accessFlags := 1, nameIndex := 11, descriptorIndex := 105, attributes := #[] }] 49 2 #[] #[{ accessFlags := 26, nameIndex := 23, descriptorIndex := 24, attributes := #[] }, { accessFlags := 18, nameIndex := 11, descriptorIndex := 12, attributes := #[] }, { accessFlags := 18, nameIndex := 19, descriptorIndex := 20, attributes := #[] }])
  fields := #[{ name := "EMPTY", type := (.object "java/util/OptionalDouble"), accessFlags := 26, slot := 0, constantValue := 0 }, { name := "isPresent", type := .boolean, accessFlags := 18, slot := 0, constantValue := 0 }, { name := "value", type := .double, accessFlags := 18, slot := 1, constantValue := 0 }]
  methods := #[k5m0, k5m1, k5m2]
  instanceTypes := #[.boolean, .double]
  staticTypes := #[(.object "java/util/OptionalDouble")]
  resolved := Array.replicate 144 none
  statics := some 1 }

def pool6 : Array CpInfo := pool [(1, .methodref 2 3), (0, .class_ 4), (0, .nameAndType 5 6), (0, u "java/lang/Record"), (0, u "<init>"), (0, u "()V"), (0, .fieldref 8 9), (0, .class_ 10), (0, .nameAndType 11 12), (0, u "com/example/lumenweave/lumenweave/dimensioning/UserOutcome"), (0, u "user"), (0, u "Lcom/example/lumenweave/lumenweave/traffic/User;"), (0, .fieldref 8 14), (0, .nameAndType 15 16), (0, u "maxWavelength"), (0, u "I"), (0, .fieldref 8 18), (0, .nameAndType 19 20), (0, u "bound"), (0, u "D"), (0, .fieldref 8 22), (0, .nameAndType 23 20), (0, u "blocking"), (5, u "()Z"), (36, u "(Lcom/example/lumenweave/lumenweave/traffic/User;IDD)V"), (3, u "meetsBound")] 33

def k6c0 : Code := { maxStack := 3, maxLocals := 7, code := prog_23_method_1_code, exceptionTable := #[], attributes := #[] }
def k6m0 : Method := { name := "<init>", desc := "(Lcom/example/lumenweave/lumenweave/traffic/User;IDD)V", sig := { parameters := [(.object "com/example/lumenweave/lumenweave/traffic/User"), .int, .double, .double], returnType := none }, accessFlags := 1, code := some k6c0 }
def k6c1 : Code := { maxStack := 4, maxLocals := 1, code := prog_23_method_2_code, exceptionTable := #[], attributes := #[] }
def k6m1 : Method := { name := "meetsBound", desc := "()Z", sig := { parameters := [], returnType := some .boolean }, accessFlags := 1, code := some k6c1 }
/-- com/example/lumenweave/lumenweave/dimensioning/UserOutcome -/
def k6 : Class := { plain "com/example/lumenweave/lumenweave/dimensioning/UserOutcome" (some 2) with
  accessFlags := 49
  interfaces := #[]
  cf := some (fileOf pool6 8 #[] #[{ accessFlags := 1, nameIndex := 5, descriptorIndex := 66, attributes := #[] }, { accessFlags := 1, nameIndex := 70, descriptorIndex := 29, attributes := #[] }] 49 2 #[] #[{ accessFlags := 18, nameIndex := 11, descriptorIndex := 12, attributes := #[] }, { accessFlags := 18, nameIndex := 15, descriptorIndex := 16, attributes := #[] }, { accessFlags := 18, nameIndex := 19, descriptorIndex := 20, attributes := #[] }, { accessFlags := 18, nameIndex := 23, descriptorIndex := 20, attributes := #[] }])
  fields := #[{ name := "user", type := (.object "com/example/lumenweave/lumenweave/traffic/User"), accessFlags := 18, slot := 0, constantValue := 0 }, { name := "maxWavelength", type := .int, accessFlags := 18, slot := 1, constantValue := 0 }, { name := "bound", type := .double, accessFlags := 18, slot := 2, constantValue := 0 }, { name := "blocking", type := .double, accessFlags := 18, slot := 3, constantValue := 0 }]
  methods := #[k6m0, k6m1]
  instanceTypes := #[(.object "com/example/lumenweave/lumenweave/traffic/User"), .int, .double, .double]
  staticTypes := #[]
  resolved := Array.replicate 104 none
  statics := none }

def pool7 : Array CpInfo := pool [(1, u "java/lang/Cloneable"), (0, .class_ 1), (0, u "java/lang/Object"), (0, .class_ 3)] 3

/-- java/lang/Cloneable -/
def k7 : Class := { plain "java/lang/Cloneable" (some 0) with
  accessFlags := 1537
  interfaces := #[]
  cf := some (fileOf pool7 2 #[] #[] 1537 4 #[] #[])
  fields := #[]
  methods := #[]
  instanceTypes := #[]
  staticTypes := #[]
  resolved := Array.replicate 8 none
  statics := none }

def pool8 : Array CpInfo := pool [(1, u "java/io/Serializable"), (0, .class_ 1), (0, u "java/lang/Object"), (0, .class_ 3)] 3

/-- java/io/Serializable -/
def k8 : Class := { plain "java/io/Serializable" (some 0) with
  accessFlags := 1537
  interfaces := #[]
  cf := some (fileOf pool8 2 #[] #[] 1537 4 #[] #[])
  fields := #[]
  methods := #[]
  instanceTypes := #[]
  staticTypes := #[]
  resolved := Array.replicate 8 none
  statics := none }

/-- the primitive byte -/
def k9 : Class := { plain "byte" none with kind := .primitive 'B', accessFlags := 0x411 }
/-- [B -/
def k10 : Class := { plain "[B" (some 0) with kind := .array 9 .byte, interfaces := #[7, 8], accessFlags := 1041 }

/-- the primitive int -/
def k11 : Class := { plain "int" none with kind := .primitive 'I', accessFlags := 0x411 }
/-- [I -/
def k12 : Class := { plain "[I" (some 0) with kind := .array 11 .int, interfaces := #[7, 8], accessFlags := 1041 }

def heap : Heap := #[{ cls := 4, slots := #[.ref 2], vm := .statics 4 },
  { cls := 5, slots := #[.ref 3], vm := .statics 5 },
  { cls := 4, slots := #[.int 0, .int 0], vm := .none },
  { cls := 5, slots := #[.int 0, .double 0], vm := .none }]
def classes : Array Class := #[k0, k1, k2, k3, k4, k5, k6, k7, k8, k9, k10, k11, k12]
def interned : List (Array UInt16 × Addr) := []
def slotsUsed : Nat := 6
def theMethod : MethodId := ⟨1, 1⟩
def args0 : Array Value := #[.int 5, .int 6, .int 7]
def aboutOver (below : List Frame) : State where
  vm := { classes := classes, interned := interned.toArray }
  heap := heap
  slotsUsed := slotsUsed
  threads := #[{ frames := .invoking theMethod args0 :: below }]
def below0 : List Frame := [.native { method := ⟨0, 0⟩, args := #[] }]
def about1 : State := aboutOver below0
def p0 : Program := .bare "" "" ""
def e0 : Env := launch0.env 0 0 0
theorem w_frames : about1.frames = Frame.invoking theMethod args0 :: below0 := rfl
set_option maxRecDepth 65536 in
theorem w_args : argsFit about1.vm theMethod args0 = true := by decide +kernel
set_option maxRecDepth 65536 in
theorem w_heap : heapFits about1 = true := by decide +kernel
set_option maxRecDepth 65536 in
theorem w_runnable : about1.curStatus? = some .runnable := by decide +kernel
set_option maxRecDepth 65536 in
theorem w_alone : about1.alone = true := by decide +kernel
set_option maxRecDepth 65536 in
theorem w_named : about1.methodNamed? x = some theMethod := by decide +kernel
set_option maxRecDepth 65536 in
theorem w_hears : about1.hears theMethod below0 = true := by decide +kernel
set_option maxRecDepth 65536 in
theorem w_ripe : about1.ripe theMethod args0 below0 = true := by decide +kernel
theorem w_running : about1.status = .running := rfl
set_option maxRecDepth 65536 in
theorem w_room : about1.hasRoom e0.platform room_1 = true :=
  launch0.hasRoom_least _ room_1 (by decide +kernel) (by decide +kernel) (by decide +kernel) (by decide +kernel) (by decide +kernel) (by decide +kernel)
theorem allAtoms_all (ts : List Jvm.Cond) (a : Array Jvm.Value) (st : Jvm.State) : (allAtoms ts).before a st = ts.all (fun c => c.before a st) := by
  induction ts with
  | nil => rfl
  | cons c t ih =>
    show (Jvm.Cond.and c (allAtoms t)).before a st = _
    rw [Jvm.Cond.before_and, ih, List.all_cons]
def words1 : List Jvm.Cond := Jvm.Cond.code x code maxLocals ret :: tables_1
/-- a 'code' word, met by the world's own term for the bytes: nothing is compared byte by byte -/
theorem code_word {y : MethodName} {bytes : ByteArray} {mx : Nat} {rt : Option FieldType} {a : Array Value} {s : State} {m : MethodId} {meth : Method} {c : Code} (h1 : s.methodNamed? y = some m) (h2 : s.vm.method? m = some meth) (h3 : meth.code = some c) (h4 : c.code = bytes)
    (h5 : (c.maxLocals == mx && c.exceptionTable.isEmpty && decide (c.maxStack ≤ mostOperands) && decide (meth.sig.returnType = rt) && !meth.locks && decide (parseMethodDescriptor y.desc = some meth.sig)) = true) : (Jvm.Cond.code y bytes mx rt).before a s = true := by
  simp only [Bool.and_eq_true, beq_iff_eq, Bool.not_eq_true', decide_eq_true_eq] at h5
  obtain ⟨⟨⟨⟨⟨g1, g2⟩, g3⟩, g4⟩, g5⟩, g6⟩ := h5
  simp [Cond.before, Cond.holds, Cond.value, h1, h2, h3, h4, g1, g2, g3, g4, g5, g6]
def isCode : Jvm.Cond → Bool
  | .code _ _ _ _ => true
  | _ => false
theorem all_split {L : List Jvm.Cond} {P : Jvm.Cond → Bool} (h1 : L.all (fun c => isCode c || P c) = true) (h2 : ∀ c ∈ L.filter isCode, P c = true) : L.all P = true := by
  refine List.all_eq_true.mpr fun c hc => ?_
  have h := List.all_eq_true.mp h1 c hc
  rcases Bool.eq_false_or_eq_true (isCode c) with hi | hi
  · exact h2 c (List.mem_filter.mpr ⟨hc, hi⟩)
  · simpa [hi] using h
set_option maxRecDepth 65536 in
theorem w_c0 : (Jvm.Cond.code x code maxLocals ret).before args0 about1 = true := code_word (m := ⟨1, 1⟩) (meth := k1m1) (c := k1c1) (by decide +kernel) rfl rfl rfl (by decide +kernel)
set_option maxRecDepth 65536 in
theorem w_c1 : (Jvm.Cond.code ({ cls := "com/example/lumenweave/lumenweave/traffic/User", name := "<init>", desc := "(IID)V" } : Jvm.MethodName) prog_68_method_2_code (5 : Nat) (Option.none : Option Jvm.ClassFile.FieldType)).before args0 about1 = true := code_word (m := ⟨3, 1⟩) (meth := k3m1) (c := k3c1) (by decide +kernel) rfl rfl rfl (by decide +kernel)
set_option maxRecDepth 65536 in
theorem w_c2 : (Jvm.Cond.code ({ cls := "java/util/OptionalInt", name := "empty", desc := "()Ljava/util/OptionalInt;" } : Jvm.MethodName) jdk_2649_method_2_code (0 : Nat) (Option.some (Jvm.ClassFile.FieldType.object "java/util/OptionalInt"))).before args0 about1 = true := code_word (m := ⟨4, 1⟩) (meth := k4m1) (c := k4c1) (by decide +kernel) rfl rfl rfl (by decide +kernel)
set_option maxRecDepth 65536 in
theorem w_c3 : (Jvm.Cond.code ({ cls := "java/util/OptionalDouble", name := "empty", desc := "()Ljava/util/OptionalDouble;" } : Jvm.MethodName) jdk_2648_method_2_code (0 : Nat) (Option.some (Jvm.ClassFile.FieldType.object "java/util/OptionalDouble"))).before args0 about1 = true := code_word (m := ⟨5, 1⟩) (meth := k5m1) (c := k5c1) (by decide +kernel) rfl rfl rfl (by decide +kernel)
set_option maxRecDepth 65536 in
theorem w_c4 : (Jvm.Cond.code ({ cls := "com/example/lumenweave/lumenweave/traffic/User", name := "<init>", desc := "(IIDLjava/util/OptionalInt;Ljava/util/OptionalDouble;)V" } : Jvm.MethodName) prog_68_method_1_code (7 : Nat) (Option.none : Option Jvm.ClassFile.FieldType)).before args0 about1 = true := code_word (m := ⟨3, 0⟩) (meth := k3m0) (c := k3c0) (by decide +kernel) rfl rfl rfl (by decide +kernel)
set_option maxRecDepth 65536 in
theorem w_c5 : (Jvm.Cond.code ({ cls := "java/lang/Record", name := "<init>", desc := "()V" } : Jvm.MethodName) jdk_30_method_1_code (1 : Nat) (Option.none : Option Jvm.ClassFile.FieldType)).before args0 about1 = true := code_word (m := ⟨2, 0⟩) (meth := k2m0) (c := k2c0) (by decide +kernel) rfl rfl rfl (by decide +kernel)
set_option maxRecDepth 65536 in
theorem w_c6 : (Jvm.Cond.code ({ cls := "java/lang/Object", name := "<init>", desc := "()V" } : Jvm.MethodName) object_method_1_code (1 : Nat) (Option.none : Option Jvm.ClassFile.FieldType)).before args0 about1 = true := code_word (m := ⟨0, 0⟩) (meth := k0m0) (c := k0c0) (by decide +kernel) rfl rfl rfl (by decide +kernel)
set_option maxRecDepth 65536 in
theorem w_c7 : (Jvm.Cond.code ({ cls := "com/example/lumenweave/lumenweave/traffic/User", name := "isLoad", desc := "(D)Z" } : Jvm.MethodName) prog_68_method_4_code (2 : Nat) (Option.some Jvm.ClassFile.FieldType.boolean)).before args0 about1 = true := code_word (m := ⟨3, 2⟩) (meth := k3m2) (c := k3c2) (by decide +kernel) rfl rfl rfl (by decide +kernel)
set_option maxRecDepth 65536 in
theorem w_c8 : (Jvm.Cond.code ({ cls := "java/util/OptionalInt", name := "isPresent", desc := "()Z" } : Jvm.MethodName) jdk_2649_method_6_code (1 : Nat) (Option.some Jvm.ClassFile.FieldType.boolean)).before args0 about1 = true := code_word (m := ⟨4, 2⟩) (meth := k4m2) (c := k4c2) (by decide +kernel) rfl rfl rfl (by decide +kernel)
set_option maxRecDepth 65536 in
theorem w_c9 : (Jvm.Cond.code ({ cls := "java/util/OptionalDouble", name := "isPresent", desc := "()Z" } : Jvm.MethodName) jdk_2648_method_6_code (1 : Nat) (Option.some Jvm.ClassFile.FieldType.boolean)).before args0 about1 = true := code_word (m := ⟨5, 2⟩) (meth := k5m2) (c := k5c2) (by decide +kernel) rfl rfl rfl (by decide +kernel)
set_option maxRecDepth 65536 in
theorem w_c10 : (Jvm.Cond.code ({ cls := "com/example/lumenweave/lumenweave/dimensioning/UserOutcome", name := "<init>", desc := "(Lcom/example/lumenweave/lumenweave/traffic/User;IDD)V" } : Jvm.MethodName) prog_23_method_1_code (7 : Nat) (Option.none : Option Jvm.ClassFile.FieldType)).before args0 about1 = true := code_word (m := ⟨6, 0⟩) (meth := k6m0) (c := k6c0) (by decide +kernel) rfl rfl rfl (by decide +kernel)
set_option maxRecDepth 65536 in
theorem w_c11 : (Jvm.Cond.code ({ cls := "com/example/lumenweave/lumenweave/dimensioning/UserOutcome", name := "meetsBound", desc := "()Z" } : Jvm.MethodName) prog_23_method_2_code (1 : Nat) (Option.some Jvm.ClassFile.FieldType.boolean)).before args0 about1 = true := code_word (m := ⟨6, 1⟩) (meth := k6m1) (c := k6c1) (by decide +kernel) rfl rfl rfl (by decide +kernel)
def codes1 : List Jvm.Cond := [Jvm.Cond.code x code maxLocals ret, Jvm.Cond.code ({ cls := "com/example/lumenweave/lumenweave/traffic/User", name := "<init>", desc := "(IID)V" } : Jvm.MethodName) prog_68_method_2_code (5 : Nat) (Option.none : Option Jvm.ClassFile.FieldType), Jvm.Cond.code ({ cls := "java/util/OptionalInt", name := "empty", desc := "()Ljava/util/OptionalInt;" } : Jvm.MethodName) jdk_2649_method_2_code (0 : Nat) (Option.some (Jvm.ClassFile.FieldType.object "java/util/OptionalInt")), Jvm.Cond.code ({ cls := "java/util/OptionalDouble", name := "empty", desc := "()Ljava/util/OptionalDouble;" } : Jvm.MethodName) jdk_2648_method_2_code (0 : Nat) (Option.some (Jvm.ClassFile.FieldType.object "java/util/OptionalDouble")), Jvm.Cond.code ({ cls := "com/example/lumenweave/lumenweave/traffic/User", name := "<init>", desc := "(IIDLjava/util/OptionalInt;Ljava/util/OptionalDouble;)V" } : Jvm.MethodName) prog_68_method_1_code (7 : Nat) (Option.none : Option Jvm.ClassFile.FieldType), Jvm.Cond.code ({ cls := "java/lang/Record", name := "<init>", desc := "()V" } : Jvm.MethodName) jdk_30_method_1_code (1 : Nat) (Option.none : Option Jvm.ClassFile.FieldType), Jvm.Cond.code ({ cls := "java/lang/Object", name := "<init>", desc := "()V" } : Jvm.MethodName) object_method_1_code (1 : Nat) (Option.none : Option Jvm.ClassFile.FieldType), Jvm.Cond.code ({ cls := "com/example/lumenweave/lumenweave/traffic/User", name := "isLoad", desc := "(D)Z" } : Jvm.MethodName) prog_68_method_4_code (2 : Nat) (Option.some Jvm.ClassFile.FieldType.boolean), Jvm.Cond.code ({ cls := "java/util/OptionalInt", name := "isPresent", desc := "()Z" } : Jvm.MethodName) jdk_2649_method_6_code (1 : Nat) (Option.some Jvm.ClassFile.FieldType.boolean), Jvm.Cond.code ({ cls := "java/util/OptionalDouble", name := "isPresent", desc := "()Z" } : Jvm.MethodName) jdk_2648_method_6_code (1 : Nat) (Option.some Jvm.ClassFile.FieldType.boolean), Jvm.Cond.code ({ cls := "com/example/lumenweave/lumenweave/dimensioning/UserOutcome", name := "<init>", desc := "(Lcom/example/lumenweave/lumenweave/traffic/User;IDD)V" } : Jvm.MethodName) prog_23_method_1_code (7 : Nat) (Option.none : Option Jvm.ClassFile.FieldType), Jvm.Cond.code ({ cls := "com/example/lumenweave/lumenweave/dimensioning/UserOutcome", name := "meetsBound", desc := "()Z" } : Jvm.MethodName) prog_23_method_2_code (1 : Nat) (Option.some Jvm.ClassFile.FieldType.boolean)]
set_option maxRecDepth 65536 in
theorem codes_eq : words1.filter isCode = codes1 := rfl
theorem w_codes : ∀ c ∈ words1.filter isCode, c.before args0 about1 = true := by
  rw [codes_eq]
  intro c hc
  simp only [codes1, List.mem_cons, List.not_mem_nil, or_false] at hc
  rcases hc with rfl | rfl | rfl | rfl | rfl | rfl | rfl | rfl | rfl | rfl | rfl | rfl
  · exact w_c0
  · exact w_c1
  · exact w_c2
  · exact w_c3
  · exact w_c4
  · exact w_c5
  · exact w_c6
  · exact w_c7
  · exact w_c8
  · exact w_c9
  · exact w_c10
  · exact w_c11
set_option maxRecDepth 65536 in
theorem w_t1 : (words1.take 24).all (fun c => isCode c || c.before args0 about1) = true := by decide +kernel
set_option maxRecDepth 65536 in
theorem w_t2 : ((words1.drop 24).take 24).all (fun c => isCode c || c.before args0 about1) = true := by decide +kernel
set_option maxRecDepth 65536 in
theorem w_t3 : (((words1.drop 24).drop 24).take 24).all (fun c => isCode c || c.before args0 about1) = true := by decide +kernel
set_option maxRecDepth 65536 in
theorem w_t4 : (((words1.drop 24).drop 24).drop 24).all (fun c => isCode c || c.before args0 about1) = true := by decide +kernel
theorem w_tables : (allAtoms (Jvm.Cond.code x code maxLocals ret :: tables_1)).before args0 about1 = true := by
  rw [allAtoms_all]
  show words1.all (fun c => c.before args0 about1) = true
  refine all_split ?_ w_codes
  rw [← List.take_append_drop 24 words1, List.all_append, w_t1, ← List.take_append_drop 24 (words1.drop 24), List.all_append, w_t2, ← List.take_append_drop 24 ((words1.drop 24).drop 24), List.all_append, w_t3, w_t4]
  rfl
set_option maxRecDepth 65536 in
theorem w_rest : rest_1_c.before args0 about1 = true := by decide +kernel
set_option maxRecDepth 65536 in
theorem w_case : (Jvm.Cond.and given_1 narrow_1).before args0 about1 = true := by decide +kernel
theorem w_applies : (headSpec (Jvm.Cond.code x code maxLocals ret :: tables_1) room_1).applies x e0.platform about1 = true :=
  (Spec.applies_iff w_frames).mpr ⟨w_running, w_runnable, w_alone, w_named, w_hears, w_ripe, w_room, w_tables⟩
theorem atStart : AtStart classFile x code maxLocals ret World_1 tables_1 room_1 Calls_1 rest_1 Pre_1 launch0 p0 e0 about1 theMethod args0 below0 :=
  ⟨lists_1, trivial, launch0.admits_env _ _ _, launch0.least_env, fairChoices_fair.cas, fairChoices_fair.clock, w_frames, w_args, w_heap, w_applies, trivial, w_rest, w_case⟩
end start1
theorem witness_1 : WitnessClaimed_1 := ⟨start1.p0, start1.e0, start1.about1, start1.theMethod, start1.args0, start1.below0, start1.atStart⟩
end Jvm.Pilot.@@N@@
