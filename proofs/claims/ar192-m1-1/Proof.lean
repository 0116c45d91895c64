import JvmDerived
import JvmDerived.Pilot.@@N@@Statement
import JvmDerived.Pilot.@@N@@Code
set_option linter.unusedVariables false
set_option linter.unusedSimpArgs false
@@BLOCK:NumsL.lean.txt@@
namespace Jvm.RoadKit
open Sem ClassFile Op Lib Jvm.Stand Jvm.Free Jvm.LawKit
section New
variable {p : Program} {l : Launch} {e : Env} {R : Room} {s : State} {m : MethodId} {args : Array Value} {below : List Frame} {meth : Method} {c : Code} {T : State} {locs : List Loc} {cells slots : Nat}
theorem retI (X : Stand p l e R s m args below meth c T locs cells slots) (hx : p.tables.exec = Jvm.exec) {pc : Nat} {Ls : Array Slot} {z : Int32} {rest : List Value} (hret : meth.sig.returnType = some .int) (hd : decode c.code pc = .ok (.ireturn, 1)) {fs : List Frame}
    (hl : ∀ (f : JFrame) (acts : List Action), f.method = m → f.locked = none → f.entered = [] → (doReturn e (T.setTop f) acts (some (.int z))).1 = T.setFrames fs) : Steps p.tables e below (T.setTop (mkF m pc Ls (.int z :: rest))) (T.setFrames fs) := by
  have hm' : T.vm.method? m = some meth := X.method'
  have hn : narrow .int (.int z) = .int z := rfl
  show Steps p.tables e below (T.setTop { method := m, pc := pc, locals := Ls, stack := _ :: rest, locked := none }) _
  jvm_step X.here [X.here.top, hx, hd, hm', hret, hn]
  first | (intro acts; rw [hl _ acts rfl rfl rfl]) | rw [hl _ _ rfl rfl rfl]
  exact Steps.refl _
end New
end Jvm.RoadKit
namespace Jvm.Pilot.@@N@@
open Jvm Jvm.ClassFile Sem Op Lib Jvm.Free Jvm.Stand Jvm.LawKit Jvm.RoadKit Bundle Jvm.Pilot.@@N@@.Jvm.D

def own_sh (k : Int32) : Int32 := ((k.toUInt32 >>> ((2 : Int32) &&& 31).toUInt32).toInt32)
def own_fin (k : Int32) : Int32 := bif ifCond.holds .eq (k &&& (3 : Int32)) then (0 : Int32) else (1 : Int32)
def own_size (k n : Int32) : UInt64 := bif ifCond.holds .ne (k &&& (3 : Int32)) then (bif if_icmp.holds .ne (k &&& (3 : Int32)) (1 : Int32) then (bif if_icmp.holds .ne (k &&& (3 : Int32)) (2 : Int32) then FP.l2d ((n &&& (2147483647 : Int32)).toInt64 + (1 : Int64)) else (1 : UInt64)) else (9218868437227405311 : UInt64)) else (9218868437227405312 : UInt64)
def own_wraps (a b : UInt64) : Int32 := bif ifCond.holds .ne (cmpValue (FP.dcmp a (9218868437227405312 : UInt64)) .l) then (1 : Int32) else bif ifCond.holds .eq (cmpValue (FP.dcmp b (9218868437227405312 : UInt64)) .l) then (0 : Int32) else (1 : Int32)
def own_want (a b : Int32) : Int32 := bif ifCond.holds .ne a then (1 : Int32) else bif ifCond.holds .eq b then (0 : Int32) else (1 : Int32)
theorem own_a_toInt (n : Int32) : ((n &&& (2147483647 : Int32)).toInt64 + (1 : Int64)).toInt = n.toInt % 2147483648 + 1 := by
  have h := Jvm.Kit.i32_mask n 2147483647 (k := 31) (by decide) (by decide)
  have h1 : (n &&& (2147483647 : Int32)).toInt64.toInt = n.toInt % 2147483648 := by rw [Int32.toInt_toInt64, h]; rfl
  have h2 : (1 : Int64).toInt = 1 := by decide
  rw [Jvm.Kit.i64_add (by omega) (by omega), h1, h2]
theorem own_gt (k n : Int32) : cmpValue (FP.dcmp (own_size k n) (0 : UInt64)) .l = 1 := by
  unfold own_size
  generalize ifCond.holds .ne (k &&& (3 : Int32)) = b1
  generalize if_icmp.holds .ne (k &&& (3 : Int32)) (1 : Int32) = b2
  generalize if_icmp.holds .ne (k &&& (3 : Int32)) (2 : Int32) = b3
  have ha := own_a_toInt n
  generalize ((n &&& (2147483647 : Int32)).toInt64 + (1 : Int64)) = a at ha
  have hl : cmpValue (FP.dcmp (FP.l2d a) (0 : UInt64)) .l = 1 := by
    rw [← l2d_zero, dcmpV_w ⟨by omega, by omega⟩ ⟨by decide, by decide⟩]
    have : (0 : Int64) < a := by rw [Int64.lt_iff_toInt_lt, Int64.toInt_zero]; omega
    simp [lcmpW, this]
  cases b1
  · show cmpValue (FP.dcmp (9218868437227405312 : UInt64) (0 : UInt64)) .l = 1
    decide +kernel
  · cases b2
    · show cmpValue (FP.dcmp (9218868437227405311 : UInt64) (0 : UInt64)) .l = 1
      decide +kernel
    · cases b3
      · show cmpValue (FP.dcmp (1 : UInt64) (0 : UInt64)) .l = 1
        decide +kernel
      · exact hl
theorem own_inf_at (k n : Int32) : cmpValue (FP.dcmp (own_size k n) (9218868437227405312 : UInt64)) .l = bif ifCond.holds .ne (k &&& (3 : Int32)) then (-1 : Int32) else (0 : Int32) := by
  unfold own_size
  generalize ifCond.holds .ne (k &&& (3 : Int32)) = b1
  generalize if_icmp.holds .ne (k &&& (3 : Int32)) (1 : Int32) = b2
  generalize if_icmp.holds .ne (k &&& (3 : Int32)) (2 : Int32) = b3
  have hl := dcmp_pinf (Fl.l2d_fin ((n &&& (2147483647 : Int32)).toInt64 + (1 : Int64))) .l
  cases b1
  · show cmpValue (FP.dcmp (9218868437227405312 : UInt64) (9218868437227405312 : UInt64)) .l = (0 : Int32)
    decide +kernel
  · cases b2
    · show cmpValue (FP.dcmp (9218868437227405311 : UInt64) (9218868437227405312 : UInt64)) .l = (-1 : Int32)
      decide +kernel
    · cases b3
      · show cmpValue (FP.dcmp (1 : UInt64) (9218868437227405312 : UInt64)) .l = (-1 : Int32)
        decide +kernel
      · exact hl
theorem own_eq_ne (x : Int32) : ifCond.holds .eq x = !ifCond.holds .ne x := by
  show (x == 0) = !(!(x == 0))
  rw [Bool.not_not]
theorem own_law (k1 n1 k2 n2 : Int32) : if_icmp.holds .eq (own_wraps (own_size k1 n1) (own_size k2 n2)) (own_want (own_fin k1) (own_fin k2)) = true := by
  unfold own_wraps own_want own_fin
  rw [own_inf_at, own_inf_at, own_eq_ne (k1 &&& (3 : Int32)), own_eq_ne (k2 &&& (3 : Int32))]
  generalize ifCond.holds .ne (k1 &&& (3 : Int32)) = b1
  generalize ifCond.holds .ne (k2 &&& (3 : Int32)) = b2
  cases b1 <;> cases b2 <;> decide
theorem own_inf {k1 n1 k2 n2 : Int32} (h : ifCond.holds .ne (own_wraps (own_size k1 n1) (own_size k2 n2)) = false) : own_size k1 n1 = (9218868437227405312 : UInt64) ∧ own_size k2 n2 = (9218868437227405312 : UInt64) := by
  unfold own_wraps at h
  rw [own_inf_at, own_inf_at] at h
  have h1 : ifCond.holds .ne (k1 &&& (3 : Int32)) = false ∧ ifCond.holds .ne (k2 &&& (3 : Int32)) = false := by
    revert h
    generalize ifCond.holds .ne (k1 &&& (3 : Int32)) = b1
    generalize ifCond.holds .ne (k2 &&& (3 : Int32)) = b2
    cases b1 <;> cases b2 <;> decide
  constructor
  · unfold own_size; rw [h1.1]; rfl
  · unfold own_size; rw [h1.2]; rfl
theorem pn_0 : plainName "java/lang/Record" = true := by first | (simp [plainName, overriddenIn]; done) | decide +kernel
theorem djdk_30_method_1_code_0 : decode jdk_30_method_1_code 0 = .ok (.aload_n 0, 1) := by decide +kernel
theorem djdk_30_method_1_code_1 : decode jdk_30_method_1_code 1 = .ok (.invokespecial 1, 3) := by decide +kernel
theorem djdk_30_method_1_code_4 : decode jdk_30_method_1_code 4 = .ok (.return_, 1) := by decide +kernel
theorem ef_rec (m : MethodId) (x0 : Addr) : entryFrame m #[(.ref x0)] 1 = mkF m 0 #[.val (.ref x0)] [] := by first | (simp [entryFrame, mkF, argsToLocals, Value.category]; done) | rfl
def Qrec (Z : State) (a1 : Addr) (h0 : Heap) (n0 : Nat) (v : Option Value) (h : Heap) (L : List Loc) : Prop := v = none ∧ Fr n0 L ∧ h = h0
set_option maxRecDepth 65536 in
set_option maxHeartbeats 40000000 in
theorem rmrec (l : Launch) (Z : State) (a0 : Array Value) (hw : ∀ d ∈ tables_1, d.before a0 Z = true) (ws : List Jvm.Cond) (a1 : Addr) (h0 : Heap) (n0 : Nat) (Z0 : n0 ≤ h0.size) :
    MetFree l (⟨"java/lang/Record", "<init>", "()V"⟩ : MethodName) (head1 (Jvm.Cond.code (⟨"java/lang/Record", "<init>", "()V"⟩ : MethodName) jdk_30_method_1_code 1 none :: ws) ({ frames := 1, cells := 0, slots := 0, locals := 12 } : Room)) (fun a U => a = #[(.ref a1)] ∧ Z.Warmed39 U.vm ∧ U.heap = h0) (fun _ _ _ _ _ => True) (fun _ U o U' => ∃ v L, o = .returned v ∧ Qrec Z a1 h0 n0 v U'.heap L ∧ FrameEnd U o U' L ({ frames := 1, cells := 0, slots := 0, locals := 12 } : Room).cells ({ frames := 1, cells := 0, slots := 0, locals := 12 } : Room).slots) := by
  refine MetFree.of_bodySF (plainFor_of_name pn_0) hisR ?_
  intro p e s m args below meth c s₁ Bd hml0 hP hK
  obtain ⟨rfl, hZ, hh⟩ := hP
  have hx := Bd.exec
  have hby := Bd.bytes
  have hml : c.maxLocals = 1 := hml0
  have hown : s.vm.findClass "java/lang/Record" = some m.cls := findClass_of_methodNamed Bd.named
  have hnm := (name_of_methodNamed Bd.named Bd.method).1
  have X0 : Stand p l e ({ frames := 1, cells := 0, slots := 0, locals := 12 } : Room) s m #[(.ref a1)] below meth c s₁ [] 0 0 := Stand.of_body Bd
  have e0 : s₁.heap = h0 := by rw [← hh, Bd.state]; rfl
  have N0 := Fr.nil n0
  have pre0 : ∀ t, Steps p.tables e below (s₁.setTop (mkF m 0 #[.val (.ref a1)] [])) t → Steps p.tables e below (s₁.setTop (entryFrame m #[(.ref a1)] 1)) t := fun t k => castTop (ef_rec m a1) k
  obtain ⟨T1, X1, e1, st1⟩ := initO X0 hx hZ hown (hw _ (List.mem_of_getElem? (i := 16) rfl)) (hw _ (List.mem_of_getElem? (i := 17) rfl)) (hw _ (List.mem_of_getElem? (i := 18) rfl)) e0 (g := (mkF m 1 #[.val (.ref a1)] [(.ref a1)])) rfl (by rw [hml]; rfl) rfl (hb hby djdk_30_method_1_code_1) (by decide) (W := 0) (by show 2 * 0 + _ ≤ _; exact Nat.le_of_eq rfl) (by decide)
  obtain ⟨fs, hr, hrun, hended, hW, hsame⟩ := X1.leave (v := none) (fun _ => rfl)
  refine ⟨_, _, pre0 _ ?_, hrun, hended, _, _, rfl, ?_, ⟨_, rfl⟩, hW, hsame.mono (by decide) (by decide)⟩
  · show Steps p.tables e below (s₁.setTop (mkF m 0 #[.val (.ref a1)] [])) _
    refine XS.aloadN X0.here hx rfl (hb hby djdk_30_method_1_code_0) rfl rfl ?_
    show Steps p.tables e below (s₁.setTop (mkF m 1 #[.val (.ref a1)] [(.ref a1)])) _
    refine st1 _ ?_
    show Steps p.tables e below (T1.setTop (mkF m 4 #[.val (.ref a1)] [])) _
    exact X1.returnOut hx Bd.returns (hb hby djdk_30_method_1_code_4) hr
  · show Qrec Z a1 h0 n0 _ T1.heap _
    rw [e1]
    exact ⟨rfl, N0, rfl⟩
theorem pn_1 : plainName "com/example/caravane/caravane/world/Ground" = true := by first | (simp [plainName, overriddenIn]; done) | decide +kernel
theorem pd_0 : parseMethodDescriptor "()V" = some ⟨[], none⟩ := by decide +kernel
theorem dprog_84_method_1_code_0 : decode prog_84_method_1_code 0 = .ok (.aload_n 0, 1) := by decide +kernel
theorem dprog_84_method_1_code_1 : decode prog_84_method_1_code 1 = .ok (.invokespecial 1, 3) := by decide +kernel
theorem dprog_84_method_1_code_4 : decode prog_84_method_1_code 4 = .ok (.dload_n 1, 1) := by decide +kernel
theorem dprog_84_method_1_code_5 : decode prog_84_method_1_code 5 = .ok (.dconst 0, 1) := by decide +kernel
theorem dprog_84_method_1_code_6 : decode prog_84_method_1_code 6 = .ok (.dcmp .l, 1) := by decide +kernel
theorem dprog_84_method_1_code_7 : decode prog_84_method_1_code 7 = .ok (.ifCond .le 9, 3) := by decide +kernel
theorem dprog_84_method_1_code_10 : decode prog_84_method_1_code 10 = .ok (.dload_n 3, 1) := by decide +kernel
theorem dprog_84_method_1_code_11 : decode prog_84_method_1_code 11 = .ok (.dconst 0, 1) := by decide +kernel
theorem dprog_84_method_1_code_12 : decode prog_84_method_1_code 12 = .ok (.dcmp .l, 1) := by decide +kernel
theorem dprog_84_method_1_code_13 : decode prog_84_method_1_code 13 = .ok (.ifCond .gt 18, 3) := by decide +kernel
theorem dprog_84_method_1_code_16 : decode prog_84_method_1_code 16 = .ok (.new 7, 3) := by decide +kernel
theorem dprog_84_method_1_code_19 : decode prog_84_method_1_code 19 = .ok (.dup, 1) := by decide +kernel
theorem dprog_84_method_1_code_20 : decode prog_84_method_1_code 20 = .ok (.dload_n 1, 1) := by decide +kernel
theorem dprog_84_method_1_code_21 : decode prog_84_method_1_code 21 = .ok (.dload_n 3, 1) := by decide +kernel
theorem dprog_84_method_1_code_27 : decode prog_84_method_1_code 27 = .ok (.invokespecial 13, 3) := by decide +kernel
theorem dprog_84_method_1_code_30 : decode prog_84_method_1_code 30 = .ok (.athrow, 1) := by decide +kernel
theorem dprog_84_method_1_code_31 : decode prog_84_method_1_code 31 = .ok (.aload_n 0, 1) := by decide +kernel
theorem dprog_84_method_1_code_32 : decode prog_84_method_1_code 32 = .ok (.dload_n 1, 1) := by decide +kernel
theorem dprog_84_method_1_code_33 : decode prog_84_method_1_code 33 = .ok (.putfield 16, 3) := by decide +kernel
theorem dprog_84_method_1_code_36 : decode prog_84_method_1_code 36 = .ok (.aload_n 0, 1) := by decide +kernel
theorem dprog_84_method_1_code_37 : decode prog_84_method_1_code 37 = .ok (.dload_n 3, 1) := by decide +kernel
theorem dprog_84_method_1_code_38 : decode prog_84_method_1_code 38 = .ok (.putfield 22, 3) := by decide +kernel
theorem dprog_84_method_1_code_41 : decode prog_84_method_1_code 41 = .ok (.return_, 1) := by decide +kernel
theorem ef_gi (m : MethodId) (x0 : Addr) (x1 : UInt64) (x2 : UInt64) : entryFrame m #[(.ref x0), (.double x1), (.double x2)] 5 = mkF m 0 #[.val (.ref x0), .val (.double x1), .second, .val (.double x2), .second] [] := by first | (simp [entryFrame, mkF, argsToLocals, Value.category]; done) | rfl
def Qgi (Z : State) (a1 : Addr) (pw ph : UInt64) (h0 : Heap) (n0 : Nat) (v : Option Value) (h : Heap) (L : List Loc) : Prop := v = none ∧ Fr n0 L ∧ Keep h0 h [a1] ∧ Exa Z h a1 "com/example/caravane/caravane/world/Ground" ∧ Fld Z h a1 "com/example/caravane/caravane/world/Ground" "width" "D" (.double pw) ∧ Fld Z h a1 "com/example/caravane/caravane/world/Ground" "height" "D" (.double ph)
set_option maxRecDepth 65536 in
set_option maxHeartbeats 40000000 in
theorem rmgi (l : Launch) (Z : State) (a0 : Array Value) (hw : ∀ d ∈ tables_1, d.before a0 Z = true) (ws : List Jvm.Cond) (a1 : Addr) (pw ph : UInt64) (h0 : Heap) (n0 : Nat) (Z0 : n0 ≤ h0.size) (F_w : Fld Z h0 a1 "com/example/caravane/caravane/world/Ground" "width" "D" (.double (0 : UInt64))) (F_h : Fld Z h0 a1 "com/example/caravane/caravane/world/Ground" "height" "D" (.double (0 : UInt64))) (E_a : Exa Z h0 a1 "com/example/caravane/caravane/world/Ground") (g_a : n0 ≤ a1) (hc7 : ifCond.holds .le (cmpValue (FP.dcmp pw (0 : UInt64)) .l) = false) (hc13 : ifCond.holds .gt (cmpValue (FP.dcmp ph (0 : UInt64)) .l) = true) :
    MetFree l (⟨"com/example/caravane/caravane/world/Ground", "<init>", "(DD)V"⟩ : MethodName) (head1 (Jvm.Cond.code (⟨"com/example/caravane/caravane/world/Ground", "<init>", "(DD)V"⟩ : MethodName) prog_84_method_1_code 5 none :: ws) ({ frames := 2, cells := 0, slots := 0, locals := 24 } : Room)) (fun a U => a = #[(.ref a1), (.double pw), (.double ph)] ∧ Z.Warmed39 U.vm ∧ U.heap = h0) (fun _ _ _ _ _ => True) (fun _ U o U' => ∃ v L, o = .returned v ∧ Qgi Z a1 pw ph h0 n0 v U'.heap L ∧ FrameEnd U o U' L ({ frames := 2, cells := 0, slots := 0, locals := 24 } : Room).cells ({ frames := 2, cells := 0, slots := 0, locals := 24 } : Room).slots) := by
  refine MetFree.of_bodySF (plainFor_of_name pn_1) hisR ?_
  intro p e s m args below meth c s₁ Bd hml0 hP hK
  obtain ⟨rfl, hZ, hh⟩ := hP
  have hx := Bd.exec
  have hby := Bd.bytes
  have hml : c.maxLocals = 5 := hml0
  have hown : s.vm.findClass "com/example/caravane/caravane/world/Ground" = some m.cls := findClass_of_methodNamed Bd.named
  have hnm := (name_of_methodNamed Bd.named Bd.method).1
  have X0 : Stand p l e ({ frames := 2, cells := 0, slots := 0, locals := 24 } : Room) s m #[(.ref a1), (.double pw), (.double ph)] below meth c s₁ [] 0 0 := Stand.of_body Bd
  have e0 : s₁.heap = h0 := by rw [← hh, Bd.state]; rfl
  have N0 := Fr.nil n0
  have pre0 : ∀ t, Steps p.tables e below (s₁.setTop (mkF m 0 #[.val (.ref a1), .val (.double pw), .second, .val (.double ph), .second] [])) t → Steps p.tables e below (s₁.setTop (entryFrame m #[(.ref a1), (.double pw), (.double ph)] 5)) t := fun t k => castTop (ef_gi m a1 pw ph) k
  obtain ⟨_, _, ⟨T1, L1, k1, n1⟩, -, X1, ⟨Lc1, hQ1, l1, y1, z1⟩, st1⟩ := X0.specialBack hx (y := (⟨"java/lang/Record", "<init>", "()V"⟩ : MethodName)) rfl hown (mvT hZ (hw _ (List.mem_of_getElem? (i := 11) rfl))) (mvT hZ (hw _ (List.mem_of_getElem? (i := 12) rfl))) (mvT hZ (hw _ (List.mem_of_getElem? (i := 15) rfl))) (by decide) (backOf (W := 0) (rmrec l Z a0 hw [] a1 h0 n0 Z0) hZ (hw _ (List.mem_of_getElem? (i := 15) rfl)) (hw _ (List.mem_of_getElem? (i := 14) rfl)) (by decide) (by decide)) (g := (mkF m 1 #[.val (.ref a1), .val (.double pw), .second, .val (.double ph), .second] [(.ref a1)])) rfl (by rw [hml]; rfl) (Steps.refl _) (a := a1) (argsL := []) (rest := []) (lenOf pd_0 rfl) rfl (by show 2 * 0 + _ ≤ _; exact Nat.le_of_eq rfl) (hb hby dprog_84_method_1_code_1) (fun _ _ => ⟨rfl, e0, (by decide : 0 + 0 ≤ _), (by decide : 0 + 0 ≤ _)⟩)
  dsimp only [Pt.U, Pt.locs, Pt.cells, Pt.slots] at X1 l1 y1 z1 st1 hQ1
  subst l1 y1 z1
  obtain ⟨rfl, N1q, eh1⟩ := hQ1
  have N1 := Fr.app N0 N1q
  obtain ⟨T2, h2, X2, e2, W2, st2⟩ := putF X1 hx hZ hown (host := "") (Or.inl (hw _ (List.mem_of_getElem? (i := 19) rfl))) Via.refl eh1 F_w E_a (Or.inr ⟨(hw _ (List.mem_of_getElem? (i := 20) rfl)), rfl, hnm⟩) (hw _ (List.mem_of_getElem? (i := 1) rfl)) (ty := .double) (by decide) rfl rfl (g := (mkF m 33 #[.val (.ref a1), .val (.double pw), .second, .val (.double ph), .second] [(.double pw), (.ref a1)])) rfl rfl (hb hby dprog_84_method_1_code_33)
  have Fw2 : Fld Z h2 a1 "com/example/caravane/caravane/world/Ground" "width" "D" (.double pw) := F_w.same W2
  have N2 := Fr.snoc X2 N1 g_a
  obtain ⟨T3, h3, X3, e3, W3, st3⟩ := putF X2 hx hZ hown (host := "") (Or.inl (hw _ (List.mem_of_getElem? (i := 21) rfl))) Via.refl e2 (F_h.other W2 (Or.inr (slot_ne (Or.inr (hw _ (List.mem_of_getElem? (i := 22) rfl))) (Or.inr (hw _ (List.mem_of_getElem? (i := 20) rfl))) (by decide) (t := .double) (t' := .double) (by decide) (by decide)))) (E_a.wr W2) (Or.inr ⟨(hw _ (List.mem_of_getElem? (i := 22) rfl)), rfl, hnm⟩) (hw _ (List.mem_of_getElem? (i := 1) rfl)) (ty := .double) (by decide) rfl rfl (g := (mkF m 38 #[.val (.ref a1), .val (.double pw), .second, .val (.double ph), .second] [(.double ph), (.ref a1)])) rfl rfl (hb hby dprog_84_method_1_code_38)
  have Fw3 : Fld Z h3 a1 "com/example/caravane/caravane/world/Ground" "height" "D" (.double ph) := (F_h.other W2 (Or.inr (slot_ne (Or.inr (hw _ (List.mem_of_getElem? (i := 22) rfl))) (Or.inr (hw _ (List.mem_of_getElem? (i := 20) rfl))) (by decide) (t := .double) (t' := .double) (by decide) (by decide)))).same W3
  have N3 := Fr.snoc X3 N2 g_a
  obtain ⟨fs, hr, hrun, hended, hW, hsame⟩ := X3.leave (v := none) (fun _ => rfl)
  refine ⟨_, _, pre0 _ ?_, hrun, hended, _, _, rfl, ?_, ⟨_, rfl⟩, hW, hsame.mono (by decide) (by decide)⟩
  · show Steps p.tables e below (s₁.setTop (mkF m 0 #[.val (.ref a1), .val (.double pw), .second, .val (.double ph), .second] [])) _
    refine XS.aloadN X0.here hx rfl (hb hby dprog_84_method_1_code_0) rfl rfl ?_
    show Steps p.tables e below (s₁.setTop (mkF m 1 #[.val (.ref a1), .val (.double pw), .second, .val (.double ph), .second] [(.ref a1)])) _
    refine st1.trans ?_
    show Steps p.tables e below (T1.setTop (mkF m 4 #[.val (.ref a1), .val (.double pw), .second, .val (.double ph), .second] [])) _
    refine XS.dloadN X1.here hx rfl (hb hby dprog_84_method_1_code_4) rfl ?_
    show Steps p.tables e below (T1.setTop (mkF m 5 #[.val (.ref a1), .val (.double pw), .second, .val (.double ph), .second] [(.double pw)])) _
    refine XS.dconst0 X1.here hx rfl (hb hby dprog_84_method_1_code_5) rfl ?_
    show Steps p.tables e below (T1.setTop (mkF m 6 #[.val (.ref a1), .val (.double pw), .second, .val (.double ph), .second] [(.double (0 : UInt64)), (.double pw)])) _
    refine XS.dcmpS X1.here hx rfl (hb hby dprog_84_method_1_code_6) rfl rfl ?_
    show Steps p.tables e below (T1.setTop (mkF m 7 #[.val (.ref a1), .val (.double pw), .second, .val (.double ph), .second] [(.int (cmpValue (FP.dcmp pw (0 : UInt64)) .l))])) _
    refine XS.ifNo X1.here hx rfl (hb hby dprog_84_method_1_code_7) rfl hc7 ?_
    show Steps p.tables e below (T1.setTop (mkF m 10 #[.val (.ref a1), .val (.double pw), .second, .val (.double ph), .second] [])) _
    refine XS.dloadN X1.here hx rfl (hb hby dprog_84_method_1_code_10) rfl ?_
    show Steps p.tables e below (T1.setTop (mkF m 11 #[.val (.ref a1), .val (.double pw), .second, .val (.double ph), .second] [(.double ph)])) _
    refine XS.dconst0 X1.here hx rfl (hb hby dprog_84_method_1_code_11) rfl ?_
    show Steps p.tables e below (T1.setTop (mkF m 12 #[.val (.ref a1), .val (.double pw), .second, .val (.double ph), .second] [(.double (0 : UInt64)), (.double ph)])) _
    refine XS.dcmpS X1.here hx rfl (hb hby dprog_84_method_1_code_12) rfl rfl ?_
    show Steps p.tables e below (T1.setTop (mkF m 13 #[.val (.ref a1), .val (.double pw), .second, .val (.double ph), .second] [(.int (cmpValue (FP.dcmp ph (0 : UInt64)) .l))])) _
    refine XS.ifYes X1.here hx rfl (pc0 := 13) (pc' := 31) rfl (hb hby dprog_84_method_1_code_13) rfl hc13 (by decide) (by decide) ?_
    show Steps p.tables e below (T1.setTop (mkF m 31 #[.val (.ref a1), .val (.double pw), .second, .val (.double ph), .second] [])) _
    refine XS.aloadN X1.here hx rfl (hb hby dprog_84_method_1_code_31) rfl rfl ?_
    show Steps p.tables e below (T1.setTop (mkF m 32 #[.val (.ref a1), .val (.double pw), .second, .val (.double ph), .second] [(.ref a1)])) _
    refine XS.dloadN X1.here hx rfl (hb hby dprog_84_method_1_code_32) rfl ?_
    show Steps p.tables e below (T1.setTop (mkF m 33 #[.val (.ref a1), .val (.double pw), .second, .val (.double ph), .second] [(.double pw), (.ref a1)])) _
    refine st2 _ ?_
    show Steps p.tables e below (T2.setTop (mkF m 36 #[.val (.ref a1), .val (.double pw), .second, .val (.double ph), .second] [])) _
    refine XS.aloadN X2.here hx rfl (hb hby dprog_84_method_1_code_36) rfl rfl ?_
    show Steps p.tables e below (T2.setTop (mkF m 37 #[.val (.ref a1), .val (.double pw), .second, .val (.double ph), .second] [(.ref a1)])) _
    refine XS.dloadN X2.here hx rfl (hb hby dprog_84_method_1_code_37) rfl ?_
    show Steps p.tables e below (T2.setTop (mkF m 38 #[.val (.ref a1), .val (.double pw), .second, .val (.double ph), .second] [(.double ph), (.ref a1)])) _
    refine st3 _ ?_
    show Steps p.tables e below (T3.setTop (mkF m 41 #[.val (.ref a1), .val (.double pw), .second, .val (.double ph), .second] [])) _
    exact X3.returnOut hx Bd.returns (hb hby dprog_84_method_1_code_41) hr
  · show Qgi Z a1 pw ph h0 n0 _ T3.heap _
    rw [e3]
    exact ⟨rfl, N3, (((Keep.refl h0 [a1]).wr W2 (Or.inl (List.mem_of_getElem? (i := 0) rfl))).wr W3 (Or.inl (List.mem_of_getElem? (i := 0) rfl))), ((E_a.wr W2).wr W3), (Fw2.other W3 (Or.inr (slot_ne (Or.inr (hw _ (List.mem_of_getElem? (i := 20) rfl))) (Or.inr (hw _ (List.mem_of_getElem? (i := 22) rfl))) (by decide) (t := .double) (t' := .double) (by decide) (by decide)))), Fw3⟩
theorem dprog_84_method_2_code_0 : decode prog_84_method_2_code 0 = .ok (.aload_n 0, 1) := by decide +kernel
theorem dprog_84_method_2_code_1 : decode prog_84_method_2_code 1 = .ok (.getfield 16, 3) := by decide +kernel
theorem dprog_84_method_2_code_4 : decode prog_84_method_2_code 4 = .ok (.ldc2_w 27, 3) := by decide +kernel
theorem dprog_84_method_2_code_7 : decode prog_84_method_2_code 7 = .ok (.dcmp .l, 1) := by decide +kernel
theorem dprog_84_method_2_code_8 : decode prog_84_method_2_code 8 = .ok (.ifCond .ne 14, 3) := by decide +kernel
theorem dprog_84_method_2_code_11 : decode prog_84_method_2_code 11 = .ok (.aload_n 0, 1) := by decide +kernel
theorem dprog_84_method_2_code_12 : decode prog_84_method_2_code 12 = .ok (.getfield 22, 3) := by decide +kernel
theorem dprog_84_method_2_code_15 : decode prog_84_method_2_code 15 = .ok (.ldc2_w 27, 3) := by decide +kernel
theorem dprog_84_method_2_code_18 : decode prog_84_method_2_code 18 = .ok (.dcmp .l, 1) := by decide +kernel
theorem dprog_84_method_2_code_19 : decode prog_84_method_2_code 19 = .ok (.ifCond .eq 7, 3) := by decide +kernel
theorem dprog_84_method_2_code_22 : decode prog_84_method_2_code 22 = .ok (.iconst 1, 1) := by decide +kernel
theorem dprog_84_method_2_code_23 : decode prog_84_method_2_code 23 = .ok (.goto 4, 3) := by decide +kernel
theorem dprog_84_method_2_code_26 : decode prog_84_method_2_code 26 = .ok (.iconst 0, 1) := by decide +kernel
theorem dprog_84_method_2_code_27 : decode prog_84_method_2_code 27 = .ok (.ireturn, 1) := by decide +kernel
theorem ef_wr (m : MethodId) (x0 : Addr) : entryFrame m #[(.ref x0)] 1 = mkF m 0 #[.val (.ref x0)] [] := by first | (simp [entryFrame, mkF, argsToLocals, Value.category]; done) | rfl
def Qwr (Z : State) (a1 : Addr) (pw ph : UInt64) (h0 : Heap) (n0 : Nat) (v : Option Value) (h : Heap) (L : List Loc) : Prop := v = some (.int (own_wraps pw ph)) ∧ Fr n0 L ∧ h = h0
set_option maxRecDepth 65536 in
set_option maxHeartbeats 40000000 in
theorem rmwr (l : Launch) (Z : State) (a0 : Array Value) (hw : ∀ d ∈ tables_1, d.before a0 Z = true) (ws : List Jvm.Cond) (a1 : Addr) (pw ph : UInt64) (h0 : Heap) (n0 : Nat) (Z0 : n0 ≤ h0.size) (F_w : Fld Z h0 a1 "com/example/caravane/caravane/world/Ground" "width" "D" (.double pw)) (F_h : Fld Z h0 a1 "com/example/caravane/caravane/world/Ground" "height" "D" (.double ph)) :
    MetFree l (⟨"com/example/caravane/caravane/world/Ground", "wraps", "()Z"⟩ : MethodName) (head1 (Jvm.Cond.code (⟨"com/example/caravane/caravane/world/Ground", "wraps", "()Z"⟩ : MethodName) prog_84_method_2_code 1 (some .boolean) :: ws) ({ frames := 0, cells := 0, slots := 0, locals := 0 } : Room)) (fun a U => a = #[(.ref a1)] ∧ Z.Warmed39 U.vm ∧ U.heap = h0) (fun _ _ _ _ _ => True) (fun _ U o U' => ∃ v L, o = .returned v ∧ Qwr Z a1 pw ph h0 n0 v U'.heap L ∧ FrameEnd U o U' L ({ frames := 0, cells := 0, slots := 0, locals := 0 } : Room).cells ({ frames := 0, cells := 0, slots := 0, locals := 0 } : Room).slots) := by
  refine MetFree.of_bodySF (plainFor_of_name pn_1) hisR ?_
  intro p e s m args below meth c s₁ Bd hml0 hP hK
  obtain ⟨rfl, hZ, hh⟩ := hP
  have hx := Bd.exec
  have hby := Bd.bytes
  have hml : c.maxLocals = 1 := hml0
  have hown : s.vm.findClass "com/example/caravane/caravane/world/Ground" = some m.cls := findClass_of_methodNamed Bd.named
  have hnm := (name_of_methodNamed Bd.named Bd.method).1
  have X0 : Stand p l e ({ frames := 0, cells := 0, slots := 0, locals := 0 } : Room) s m #[(.ref a1)] below meth c s₁ [] 0 0 := Stand.of_body Bd
  have e0 : s₁.heap = h0 := by rw [← hh, Bd.state]; rfl
  have N0 := Fr.nil n0
  have pre0 : ∀ t, Steps p.tables e below (s₁.setTop (mkF m 0 #[.val (.ref a1)] [])) t → Steps p.tables e below (s₁.setTop (entryFrame m #[(.ref a1)] 1)) t := fun t k => castTop (ef_wr m a1) k
  obtain ⟨T1, X1, e1, st1⟩ := getF X0 hx hZ hown (host := "") (Or.inl (hw _ (List.mem_of_getElem? (i := 19) rfl))) Via.refl e0 F_w (g := (mkF m 1 #[.val (.ref a1)] [(.ref a1)])) rfl rfl (hb hby dprog_84_method_2_code_1)
  rcases Bool.eq_false_or_eq_true (ifCond.holds .ne (cmpValue (FP.dcmp pw (9218868437227405312 : UInt64)) .l)) with hc8 | hc8
  · obtain ⟨fs, hr, hrun, hended, hW, hsame⟩ := X1.leave (v := some (.int (nar .boolean (1 : Int32)))) (fun h => by rw [Bd.returns] at h; cases h)
    refine ⟨_, _, pre0 _ ?_, hrun, hended, _, _, rfl, ?_, ⟨_, rfl⟩, hW, hsame.mono (by decide) (by decide)⟩
    · show Steps p.tables e below (s₁.setTop (mkF m 0 #[.val (.ref a1)] [])) _
      refine XS.aloadN X0.here hx rfl (hb hby dprog_84_method_2_code_0) rfl rfl ?_
      show Steps p.tables e below (s₁.setTop (mkF m 1 #[.val (.ref a1)] [(.ref a1)])) _
      refine st1 _ ?_
      show Steps p.tables e below (T1.setTop (mkF m 4 #[.val (.ref a1)] [(.double pw)])) _
      refine X1.ldc2DoubleC hx hown (mvT hZ (hw _ (List.mem_of_getElem? (i := 28) rfl))) (g := (mkF m 4 #[.val (.ref a1)] [(.double pw)])) rfl (hb hby dprog_84_method_2_code_4) _ ?_
      show Steps p.tables e below (T1.setTop (mkF m 7 #[.val (.ref a1)] [(.double (9218868437227405312 : UInt64)), (.double pw)])) _
      refine XS.dcmpS X1.here hx rfl (hb hby dprog_84_method_2_code_7) rfl rfl ?_
      show Steps p.tables e below (T1.setTop (mkF m 8 #[.val (.ref a1)] [(.int (cmpValue (FP.dcmp pw (9218868437227405312 : UInt64)) .l))])) _
      refine XS.ifYes X1.here hx rfl (pc0 := 8) (pc' := 22) rfl (hb hby dprog_84_method_2_code_8) rfl hc8 (by decide) (by decide) ?_
      show Steps p.tables e below (T1.setTop (mkF m 22 #[.val (.ref a1)] [])) _
      refine XS.iconst X1.here hx rfl (hb hby dprog_84_method_2_code_22) ?_
      show Steps p.tables e below (T1.setTop (mkF m 23 #[.val (.ref a1)] [(.int (1 : Int32))])) _
      refine XS.goto X1.here hx rfl (pc0 := 23) (pc' := 27) rfl (hb hby dprog_84_method_2_code_23) (by decide) (by decide) ?_
      show Steps p.tables e below (T1.setTop (mkF m 27 #[.val (.ref a1)] [(.int (1 : Int32))])) _
      exact retN X1 hx (t := .boolean) Bd.returns (by simp) (hb hby dprog_84_method_2_code_27) hr
    · show Qwr Z a1 pw ph h0 n0 _ T1.heap _
      rw [e1]
      exact ⟨by unfold own_wraps; rw [hc8]; rfl, N0, rfl⟩
  · obtain ⟨T2, X2, e2, st2⟩ := getF X1 hx hZ hown (host := "") (Or.inl (hw _ (List.mem_of_getElem? (i := 21) rfl))) Via.refl e1 F_h (g := (mkF m 12 #[.val (.ref a1)] [(.ref a1)])) rfl rfl (hb hby dprog_84_method_2_code_12)
    rcases Bool.eq_false_or_eq_true (ifCond.holds .eq (cmpValue (FP.dcmp ph (9218868437227405312 : UInt64)) .l)) with hc19 | hc19
    · obtain ⟨fs, hr, hrun, hended, hW, hsame⟩ := X2.leave (v := some (.int (nar .boolean (0 : Int32)))) (fun h => by rw [Bd.returns] at h; cases h)
      refine ⟨_, _, pre0 _ ?_, hrun, hended, _, _, rfl, ?_, ⟨_, rfl⟩, hW, hsame.mono (by decide) (by decide)⟩
      · show Steps p.tables e below (s₁.setTop (mkF m 0 #[.val (.ref a1)] [])) _
        refine XS.aloadN X0.here hx rfl (hb hby dprog_84_method_2_code_0) rfl rfl ?_
        show Steps p.tables e below (s₁.setTop (mkF m 1 #[.val (.ref a1)] [(.ref a1)])) _
        refine st1 _ ?_
        show Steps p.tables e below (T1.setTop (mkF m 4 #[.val (.ref a1)] [(.double pw)])) _
        refine X1.ldc2DoubleC hx hown (mvT hZ (hw _ (List.mem_of_getElem? (i := 28) rfl))) (g := (mkF m 4 #[.val (.ref a1)] [(.double pw)])) rfl (hb hby dprog_84_method_2_code_4) _ ?_
        show Steps p.tables e below (T1.setTop (mkF m 7 #[.val (.ref a1)] [(.double (9218868437227405312 : UInt64)), (.double pw)])) _
        refine XS.dcmpS X1.here hx rfl (hb hby dprog_84_method_2_code_7) rfl rfl ?_
        show Steps p.tables e below (T1.setTop (mkF m 8 #[.val (.ref a1)] [(.int (cmpValue (FP.dcmp pw (9218868437227405312 : UInt64)) .l))])) _
        refine XS.ifNo X1.here hx rfl (hb hby dprog_84_method_2_code_8) rfl hc8 ?_
        show Steps p.tables e below (T1.setTop (mkF m 11 #[.val (.ref a1)] [])) _
        refine XS.aloadN X1.here hx rfl (hb hby dprog_84_method_2_code_11) rfl rfl ?_
        show Steps p.tables e below (T1.setTop (mkF m 12 #[.val (.ref a1)] [(.ref a1)])) _
        refine st2 _ ?_
        show Steps p.tables e below (T2.setTop (mkF m 15 #[.val (.ref a1)] [(.double ph)])) _
        refine X2.ldc2DoubleC hx hown (mvT hZ (hw _ (List.mem_of_getElem? (i := 28) rfl))) (g := (mkF m 15 #[.val (.ref a1)] [(.double ph)])) rfl (hb hby dprog_84_method_2_code_15) _ ?_
        show Steps p.tables e below (T2.setTop (mkF m 18 #[.val (.ref a1)] [(.double (9218868437227405312 : UInt64)), (.double ph)])) _
        refine XS.dcmpS X2.here hx rfl (hb hby dprog_84_method_2_code_18) rfl rfl ?_
        show Steps p.tables e below (T2.setTop (mkF m 19 #[.val (.ref a1)] [(.int (cmpValue (FP.dcmp ph (9218868437227405312 : UInt64)) .l))])) _
        refine XS.ifYes X2.here hx rfl (pc0 := 19) (pc' := 26) rfl (hb hby dprog_84_method_2_code_19) rfl hc19 (by decide) (by decide) ?_
        show Steps p.tables e below (T2.setTop (mkF m 26 #[.val (.ref a1)] [])) _
        refine XS.iconst X2.here hx rfl (hb hby dprog_84_method_2_code_26) ?_
        show Steps p.tables e below (T2.setTop (mkF m 27 #[.val (.ref a1)] [(.int (0 : Int32))])) _
        exact retN X2 hx (t := .boolean) Bd.returns (by simp) (hb hby dprog_84_method_2_code_27) hr
      · show Qwr Z a1 pw ph h0 n0 _ T2.heap _
        rw [e2]
        exact ⟨by unfold own_wraps; rw [hc8, hc19]; rfl, N0, rfl⟩
    · obtain ⟨fs, hr, hrun, hended, hW, hsame⟩ := X2.leave (v := some (.int (nar .boolean (1 : Int32)))) (fun h => by rw [Bd.returns] at h; cases h)
      refine ⟨_, _, pre0 _ ?_, hrun, hended, _, _, rfl, ?_, ⟨_, rfl⟩, hW, hsame.mono (by decide) (by decide)⟩
      · show Steps p.tables e below (s₁.setTop (mkF m 0 #[.val (.ref a1)] [])) _
        refine XS.aloadN X0.here hx rfl (hb hby dprog_84_method_2_code_0) rfl rfl ?_
        show Steps p.tables e below (s₁.setTop (mkF m 1 #[.val (.ref a1)] [(.ref a1)])) _
        refine st1 _ ?_
        show Steps p.tables e below (T1.setTop (mkF m 4 #[.val (.ref a1)] [(.double pw)])) _
        refine X1.ldc2DoubleC hx hown (mvT hZ (hw _ (List.mem_of_getElem? (i := 28) rfl))) (g := (mkF m 4 #[.val (.ref a1)] [(.double pw)])) rfl (hb hby dprog_84_method_2_code_4) _ ?_
        show Steps p.tables e below (T1.setTop (mkF m 7 #[.val (.ref a1)] [(.double (9218868437227405312 : UInt64)), (.double pw)])) _
        refine XS.dcmpS X1.here hx rfl (hb hby dprog_84_method_2_code_7) rfl rfl ?_
        show Steps p.tables e below (T1.setTop (mkF m 8 #[.val (.ref a1)] [(.int (cmpValue (FP.dcmp pw (9218868437227405312 : UInt64)) .l))])) _
        refine XS.ifNo X1.here hx rfl (hb hby dprog_84_method_2_code_8) rfl hc8 ?_
        show Steps p.tables e below (T1.setTop (mkF m 11 #[.val (.ref a1)] [])) _
        refine XS.aloadN X1.here hx rfl (hb hby dprog_84_method_2_code_11) rfl rfl ?_
        show Steps p.tables e below (T1.setTop (mkF m 12 #[.val (.ref a1)] [(.ref a1)])) _
        refine st2 _ ?_
        show Steps p.tables e below (T2.setTop (mkF m 15 #[.val (.ref a1)] [(.double ph)])) _
        refine X2.ldc2DoubleC hx hown (mvT hZ (hw _ (List.mem_of_getElem? (i := 28) rfl))) (g := (mkF m 15 #[.val (.ref a1)] [(.double ph)])) rfl (hb hby dprog_84_method_2_code_15) _ ?_
        show Steps p.tables e below (T2.setTop (mkF m 18 #[.val (.ref a1)] [(.double (9218868437227405312 : UInt64)), (.double ph)])) _
        refine XS.dcmpS X2.here hx rfl (hb hby dprog_84_method_2_code_18) rfl rfl ?_
        show Steps p.tables e below (T2.setTop (mkF m 19 #[.val (.ref a1)] [(.int (cmpValue (FP.dcmp ph (9218868437227405312 : UInt64)) .l))])) _
        refine XS.ifNo X2.here hx rfl (hb hby dprog_84_method_2_code_19) rfl hc19 ?_
        show Steps p.tables e below (T2.setTop (mkF m 22 #[.val (.ref a1)] [])) _
        refine XS.iconst X2.here hx rfl (hb hby dprog_84_method_2_code_22) ?_
        show Steps p.tables e below (T2.setTop (mkF m 23 #[.val (.ref a1)] [(.int (1 : Int32))])) _
        refine XS.goto X2.here hx rfl (pc0 := 23) (pc' := 27) rfl (hb hby dprog_84_method_2_code_23) (by decide) (by decide) ?_
        show Steps p.tables e below (T2.setTop (mkF m 27 #[.val (.ref a1)] [(.int (1 : Int32))])) _
        exact retN X2 hx (t := .boolean) Bd.returns (by simp) (hb hby dprog_84_method_2_code_27) hr
      · show Qwr Z a1 pw ph h0 n0 _ T2.heap _
        rw [e2]
        exact ⟨by unfold own_wraps; rw [hc8, hc19]; rfl, N0, rfl⟩
theorem dprog_84_method_10_code_0 : decode prog_84_method_10_code 0 = .ok (.dload_n 2, 1) := by decide +kernel
theorem dprog_84_method_10_code_1 : decode prog_84_method_10_code 1 = .ok (.ldc2_w 27, 3) := by decide +kernel
theorem dprog_84_method_10_code_4 : decode prog_84_method_10_code 4 = .ok (.dcmp .l, 1) := by decide +kernel
theorem dprog_84_method_10_code_5 : decode prog_84_method_10_code 5 = .ok (.ifCond .ne 5, 3) := by decide +kernel
theorem dprog_84_method_10_code_8 : decode prog_84_method_10_code 8 = .ok (.dload_n 0, 1) := by decide +kernel
theorem dprog_84_method_10_code_9 : decode prog_84_method_10_code 9 = .ok (.dreturn, 1) := by decide +kernel
theorem dprog_84_method_10_code_10 : decode prog_84_method_10_code 10 = .ok (.dload_n 0, 1) := by decide +kernel
theorem dprog_84_method_10_code_11 : decode prog_84_method_10_code 11 = .ok (.dload_n 2, 1) := by decide +kernel
theorem dprog_84_method_10_code_12 : decode prog_84_method_10_code 12 = .ok (.dload_n 0, 1) := by decide +kernel
theorem dprog_84_method_10_code_13 : decode prog_84_method_10_code 13 = .ok (.dload_n 2, 1) := by decide +kernel
theorem dprog_84_method_10_code_14 : decode prog_84_method_10_code 14 = .ok (.ddiv, 1) := by decide +kernel
theorem dprog_84_method_10_code_15 : decode prog_84_method_10_code 15 = .ok (.invokestatic 58, 3) := by decide +kernel
theorem dprog_84_method_10_code_18 : decode prog_84_method_10_code 18 = .ok (.dmul, 1) := by decide +kernel
theorem dprog_84_method_10_code_19 : decode prog_84_method_10_code 19 = .ok (.dsub, 1) := by decide +kernel
theorem dprog_84_method_10_code_20 : decode prog_84_method_10_code 20 = .ok (.dstore 4, 2) := by decide +kernel
theorem dprog_84_method_10_code_22 : decode prog_84_method_10_code 22 = .ok (.dload 4, 2) := by decide +kernel
theorem dprog_84_method_10_code_24 : decode prog_84_method_10_code 24 = .ok (.dload_n 2, 1) := by decide +kernel
theorem dprog_84_method_10_code_25 : decode prog_84_method_10_code 25 = .ok (.dcmp .g, 1) := by decide +kernel
theorem dprog_84_method_10_code_26 : decode prog_84_method_10_code 26 = .ok (.ifCond .ge 8, 3) := by decide +kernel
theorem dprog_84_method_10_code_29 : decode prog_84_method_10_code 29 = .ok (.dload 4, 2) := by decide +kernel
theorem dprog_84_method_10_code_31 : decode prog_84_method_10_code 31 = .ok (.goto 4, 3) := by decide +kernel
theorem dprog_84_method_10_code_34 : decode prog_84_method_10_code 34 = .ok (.dconst 0, 1) := by decide +kernel
theorem dprog_84_method_10_code_35 : decode prog_84_method_10_code 35 = .ok (.dreturn, 1) := by decide +kernel
theorem ef_wp (m : MethodId) (x0 : UInt64) (x1 : UInt64) : entryFrame m #[(.double x0), (.double x1)] 6 = mkF m 0 #[.val (.double x0), .second, .val (.double x1), .second, .unset, .unset] [] := by first | (simp [entryFrame, mkF, argsToLocals, Value.category]; done) | rfl
def Qwp (Z : State) (px : UInt64) (h0 : Heap) (n0 : Nat) (v : Option Value) (h : Heap) (L : List Loc) : Prop := v = some (.double px) ∧ Fr n0 L ∧ h = h0
set_option maxRecDepth 65536 in
set_option maxHeartbeats 40000000 in
theorem rmwp (l : Launch) (Z : State) (a0 : Array Value) (hw : ∀ d ∈ tables_1, d.before a0 Z = true) (ws : List Jvm.Cond) (px : UInt64) (h0 : Heap) (n0 : Nat) (Z0 : n0 ≤ h0.size) :
    MetFree l (⟨"com/example/caravane/caravane/world/Ground", "wrap", "(DD)D"⟩ : MethodName) (head1 (Jvm.Cond.code (⟨"com/example/caravane/caravane/world/Ground", "wrap", "(DD)D"⟩ : MethodName) prog_84_method_10_code 6 (some .double) :: ws) ({ frames := 0, cells := 0, slots := 0, locals := 0 } : Room)) (fun a U => a = #[(.double px), (.double (9218868437227405312 : UInt64))] ∧ Z.Warmed39 U.vm ∧ U.heap = h0) (fun _ _ _ _ _ => True) (fun _ U o U' => ∃ v L, o = .returned v ∧ Qwp Z px h0 n0 v U'.heap L ∧ FrameEnd U o U' L ({ frames := 0, cells := 0, slots := 0, locals := 0 } : Room).cells ({ frames := 0, cells := 0, slots := 0, locals := 0 } : Room).slots) := by
  refine MetFree.of_bodySF (plainFor_of_name pn_1) hisR ?_
  intro p e s m args below meth c s₁ Bd hml0 hP hK
  obtain ⟨rfl, hZ, hh⟩ := hP
  have hx := Bd.exec
  have hby := Bd.bytes
  have hml : c.maxLocals = 6 := hml0
  have hown : s.vm.findClass "com/example/caravane/caravane/world/Ground" = some m.cls := findClass_of_methodNamed Bd.named
  have hnm := (name_of_methodNamed Bd.named Bd.method).1
  have X0 : Stand p l e ({ frames := 0, cells := 0, slots := 0, locals := 0 } : Room) s m #[(.double px), (.double (9218868437227405312 : UInt64))] below meth c s₁ [] 0 0 := Stand.of_body Bd
  have e0 : s₁.heap = h0 := by rw [← hh, Bd.state]; rfl
  have N0 := Fr.nil n0
  have pre0 : ∀ t, Steps p.tables e below (s₁.setTop (mkF m 0 #[.val (.double px), .second, .val (.double (9218868437227405312 : UInt64)), .second, .unset, .unset] [])) t → Steps p.tables e below (s₁.setTop (entryFrame m #[(.double px), (.double (9218868437227405312 : UInt64))] 6)) t := fun t k => castTop (ef_wp m px (9218868437227405312 : UInt64)) k
  obtain ⟨fs, hr, hrun, hended, hW, hsame⟩ := X0.leave (v := some (.double px)) (fun h => by rw [Bd.returns] at h; cases h)
  refine ⟨_, _, pre0 _ ?_, hrun, hended, _, _, rfl, ?_, ⟨_, rfl⟩, hW, hsame.mono (by decide) (by decide)⟩
  · show Steps p.tables e below (s₁.setTop (mkF m 0 #[.val (.double px), .second, .val (.double (9218868437227405312 : UInt64)), .second, .unset, .unset] [])) _
    refine XS.dloadN X0.here hx rfl (hb hby dprog_84_method_10_code_0) rfl ?_
    show Steps p.tables e below (s₁.setTop (mkF m 1 #[.val (.double px), .second, .val (.double (9218868437227405312 : UInt64)), .second, .unset, .unset] [(.double (9218868437227405312 : UInt64))])) _
    refine X0.ldc2DoubleC hx hown (mvT hZ (hw _ (List.mem_of_getElem? (i := 28) rfl))) (g := (mkF m 1 #[.val (.double px), .second, .val (.double (9218868437227405312 : UInt64)), .second, .unset, .unset] [(.double (9218868437227405312 : UInt64))])) rfl (hb hby dprog_84_method_10_code_1) _ ?_
    show Steps p.tables e below (s₁.setTop (mkF m 4 #[.val (.double px), .second, .val (.double (9218868437227405312 : UInt64)), .second, .unset, .unset] [(.double (9218868437227405312 : UInt64)), (.double (9218868437227405312 : UInt64))])) _
    refine XS.dcmpS X0.here hx rfl (hb hby dprog_84_method_10_code_4) rfl rfl ?_
    show Steps p.tables e below (s₁.setTop (mkF m 5 #[.val (.double px), .second, .val (.double (9218868437227405312 : UInt64)), .second, .unset, .unset] [(.int (cmpValue (FP.dcmp (9218868437227405312 : UInt64) (9218868437227405312 : UInt64)) .l))])) _
    refine XS.ifNo X0.here hx rfl (hb hby dprog_84_method_10_code_5) rfl (by decide +kernel) ?_
    show Steps p.tables e below (s₁.setTop (mkF m 8 #[.val (.double px), .second, .val (.double (9218868437227405312 : UInt64)), .second, .unset, .unset] [])) _
    refine XS.dloadN X0.here hx rfl (hb hby dprog_84_method_10_code_8) rfl ?_
    show Steps p.tables e below (s₁.setTop (mkF m 9 #[.val (.double px), .second, .val (.double (9218868437227405312 : UInt64)), .second, .unset, .unset] [(.double px)])) _
    exact retOut X0 hx Bd.returns rfl (Or.inr (Or.inr (Or.inl ⟨rfl, rfl, _, rfl⟩))) (hb hby dprog_84_method_10_code_9) hr
  · show Qwp Z px h0 n0 _ s₁.heap _
    rw [e0]
    exact ⟨rfl, N0, rfl⟩
theorem pd_1 : parseMethodDescriptor "(DD)D" = some ⟨[.double, .double], some .double⟩ := by decide +kernel
theorem dprog_84_method_4_code_0 : decode prog_84_method_4_code 0 = .ok (.dload_n 1, 1) := by decide +kernel
theorem dprog_84_method_4_code_1 : decode prog_84_method_4_code 1 = .ok (.aload_n 0, 1) := by decide +kernel
theorem dprog_84_method_4_code_2 : decode prog_84_method_4_code 2 = .ok (.getfield 16, 3) := by decide +kernel
theorem dprog_84_method_4_code_5 : decode prog_84_method_4_code 5 = .ok (.invokestatic 35, 3) := by decide +kernel
theorem dprog_84_method_4_code_8 : decode prog_84_method_4_code 8 = .ok (.dreturn, 1) := by decide +kernel
theorem ef_wrapX (m : MethodId) (x0 : Addr) (x1 : UInt64) : entryFrame m #[(.ref x0), (.double x1)] 3 = mkF m 0 #[.val (.ref x0), .val (.double x1), .second] [] := by first | (simp [entryFrame, mkF, argsToLocals, Value.category]; done) | rfl
def QwrapX (Z : State) (a1 : Addr) (px : UInt64) (h0 : Heap) (n0 : Nat) (v : Option Value) (h : Heap) (L : List Loc) : Prop := v = some (.double px) ∧ Fr n0 L ∧ h = h0
set_option maxRecDepth 65536 in
set_option maxHeartbeats 40000000 in
theorem rmwrapX (l : Launch) (Z : State) (a0 : Array Value) (hw : ∀ d ∈ tables_1, d.before a0 Z = true) (ws : List Jvm.Cond) (a1 : Addr) (px : UInt64) (h0 : Heap) (n0 : Nat) (Z0 : n0 ≤ h0.size) (F_w : Fld Z h0 a1 "com/example/caravane/caravane/world/Ground" "width" "D" (.double (9218868437227405312 : UInt64))) :
    MetFree l (⟨"com/example/caravane/caravane/world/Ground", "wrapX", "(D)D"⟩ : MethodName) (head1 (Jvm.Cond.code (⟨"com/example/caravane/caravane/world/Ground", "wrapX", "(D)D"⟩ : MethodName) prog_84_method_4_code 3 (some .double) :: ws) ({ frames := 1, cells := 0, slots := 0, locals := 17 } : Room)) (fun a U => a = #[(.ref a1), (.double px)] ∧ Z.Warmed39 U.vm ∧ U.heap = h0) (fun _ _ _ _ _ => True) (fun _ U o U' => ∃ v L, o = .returned v ∧ QwrapX Z a1 px h0 n0 v U'.heap L ∧ FrameEnd U o U' L ({ frames := 1, cells := 0, slots := 0, locals := 17 } : Room).cells ({ frames := 1, cells := 0, slots := 0, locals := 17 } : Room).slots) := by
  refine MetFree.of_bodySF (plainFor_of_name pn_1) hisR ?_
  intro p e s m args below meth c s₁ Bd hml0 hP hK
  obtain ⟨rfl, hZ, hh⟩ := hP
  have hx := Bd.exec
  have hby := Bd.bytes
  have hml : c.maxLocals = 3 := hml0
  have hown : s.vm.findClass "com/example/caravane/caravane/world/Ground" = some m.cls := findClass_of_methodNamed Bd.named
  have hnm := (name_of_methodNamed Bd.named Bd.method).1
  have X0 : Stand p l e ({ frames := 1, cells := 0, slots := 0, locals := 17 } : Room) s m #[(.ref a1), (.double px)] below meth c s₁ [] 0 0 := Stand.of_body Bd
  have e0 : s₁.heap = h0 := by rw [← hh, Bd.state]; rfl
  have N0 := Fr.nil n0
  have pre0 : ∀ t, Steps p.tables e below (s₁.setTop (mkF m 0 #[.val (.ref a1), .val (.double px), .second] [])) t → Steps p.tables e below (s₁.setTop (entryFrame m #[(.ref a1), (.double px)] 3)) t := fun t k => castTop (ef_wrapX m a1 px) k
  obtain ⟨T1, X1, e1, st1⟩ := getF X0 hx hZ hown (host := "") (Or.inl (hw _ (List.mem_of_getElem? (i := 19) rfl))) Via.refl e0 F_w (g := (mkF m 2 #[.val (.ref a1), .val (.double px), .second] [(.ref a1), (.double px)])) rfl rfl (hb hby dprog_84_method_4_code_2)
  obtain ⟨_, _, ⟨T2, L2, k2, n2⟩, -, X2, ⟨Lc2, hQ2, l2, y2, z2⟩, st2⟩ := Jvm.LawKit.callS X1 hx (y := (⟨"com/example/caravane/caravane/world/Ground", "wrap", "(DD)D"⟩ : MethodName)) hown (mvT hZ (hw _ (List.mem_of_getElem? (i := 34) rfl))) (mvT hZ (hw _ (List.mem_of_getElem? (i := 35) rfl))) (mvT hZ (hw _ (List.mem_of_getElem? (i := 2) rfl))) (mvT hZ (hw _ (List.mem_of_getElem? (i := 36) rfl))) (by decide) (backOf (W := 0) (rmwp l Z a0 hw [] px h0 n0 Z0) hZ (hw _ (List.mem_of_getElem? (i := 36) rfl)) (hw _ (List.mem_of_getElem? (i := 2) rfl)) (by decide) (by decide)) (g := (mkF m 5 #[.val (.ref a1), .val (.double px), .second] [(.double (9218868437227405312 : UInt64)), (.double px)])) rfl (by rw [hml]; rfl) (argsL := [(.double px), (.double (9218868437227405312 : UInt64))]) (rest := []) (lenOf pd_1 rfl) rfl (by show 2 * 0 + _ ≤ _; exact Nat.le_of_eq rfl) (hb hby dprog_84_method_4_code_5) (fun _ _ => ⟨rfl, e1, (by decide : 0 + 0 ≤ _), (by decide : 0 + 0 ≤ _)⟩)
  dsimp only [Pt.U, Pt.locs, Pt.cells, Pt.slots] at X2 l2 y2 z2 st2 hQ2
  subst l2 y2 z2
  obtain ⟨rfl, N2q, eh2⟩ := hQ2
  have N2 := Fr.app N0 N2q
  obtain ⟨fs, hr, hrun, hended, hW, hsame⟩ := X2.leave (v := some (.double px)) (fun h => by rw [Bd.returns] at h; cases h)
  refine ⟨_, _, pre0 _ ?_, hrun, hended, _, _, rfl, ?_, ⟨_, rfl⟩, hW, hsame.mono (by decide) (by decide)⟩
  · show Steps p.tables e below (s₁.setTop (mkF m 0 #[.val (.ref a1), .val (.double px), .second] [])) _
    refine XS.dloadN X0.here hx rfl (hb hby dprog_84_method_4_code_0) rfl ?_
    show Steps p.tables e below (s₁.setTop (mkF m 1 #[.val (.ref a1), .val (.double px), .second] [(.double px)])) _
    refine XS.aloadN X0.here hx rfl (hb hby dprog_84_method_4_code_1) rfl rfl ?_
    show Steps p.tables e below (s₁.setTop (mkF m 2 #[.val (.ref a1), .val (.double px), .second] [(.ref a1), (.double px)])) _
    refine st1 _ ?_
    show Steps p.tables e below (T1.setTop (mkF m 5 #[.val (.ref a1), .val (.double px), .second] [(.double (9218868437227405312 : UInt64)), (.double px)])) _
    refine st2 _ ?_
    show Steps p.tables e below (T2.setTop (mkF m 8 #[.val (.ref a1), .val (.double px), .second] [(.double px)])) _
    exact retOut X2 hx Bd.returns rfl (Or.inr (Or.inr (Or.inl ⟨rfl, rfl, _, rfl⟩))) (hb hby dprog_84_method_4_code_8) hr
  · show QwrapX Z a1 px h0 n0 _ T2.heap _
    rw [eh2]
    exact ⟨rfl, N2, rfl⟩
theorem dprog_84_method_5_code_0 : decode prog_84_method_5_code 0 = .ok (.dload_n 1, 1) := by decide +kernel
theorem dprog_84_method_5_code_1 : decode prog_84_method_5_code 1 = .ok (.aload_n 0, 1) := by decide +kernel
theorem dprog_84_method_5_code_2 : decode prog_84_method_5_code 2 = .ok (.getfield 22, 3) := by decide +kernel
theorem dprog_84_method_5_code_5 : decode prog_84_method_5_code 5 = .ok (.invokestatic 35, 3) := by decide +kernel
theorem dprog_84_method_5_code_8 : decode prog_84_method_5_code 8 = .ok (.dreturn, 1) := by decide +kernel
theorem ef_wrapY (m : MethodId) (x0 : Addr) (x1 : UInt64) : entryFrame m #[(.ref x0), (.double x1)] 3 = mkF m 0 #[.val (.ref x0), .val (.double x1), .second] [] := by first | (simp [entryFrame, mkF, argsToLocals, Value.category]; done) | rfl
def QwrapY (Z : State) (a1 : Addr) (px : UInt64) (h0 : Heap) (n0 : Nat) (v : Option Value) (h : Heap) (L : List Loc) : Prop := v = some (.double px) ∧ Fr n0 L ∧ h = h0
set_option maxRecDepth 65536 in
set_option maxHeartbeats 40000000 in
theorem rmwrapY (l : Launch) (Z : State) (a0 : Array Value) (hw : ∀ d ∈ tables_1, d.before a0 Z = true) (ws : List Jvm.Cond) (a1 : Addr) (px : UInt64) (h0 : Heap) (n0 : Nat) (Z0 : n0 ≤ h0.size) (F_w : Fld Z h0 a1 "com/example/caravane/caravane/world/Ground" "height" "D" (.double (9218868437227405312 : UInt64))) :
    MetFree l (⟨"com/example/caravane/caravane/world/Ground", "wrapY", "(D)D"⟩ : MethodName) (head1 (Jvm.Cond.code (⟨"com/example/caravane/caravane/world/Ground", "wrapY", "(D)D"⟩ : MethodName) prog_84_method_5_code 3 (some .double) :: ws) ({ frames := 1, cells := 0, slots := 0, locals := 17 } : Room)) (fun a U => a = #[(.ref a1), (.double px)] ∧ Z.Warmed39 U.vm ∧ U.heap = h0) (fun _ _ _ _ _ => True) (fun _ U o U' => ∃ v L, o = .returned v ∧ QwrapY Z a1 px h0 n0 v U'.heap L ∧ FrameEnd U o U' L ({ frames := 1, cells := 0, slots := 0, locals := 17 } : Room).cells ({ frames := 1, cells := 0, slots := 0, locals := 17 } : Room).slots) := by
  refine MetFree.of_bodySF (plainFor_of_name pn_1) hisR ?_
  intro p e s m args below meth c s₁ Bd hml0 hP hK
  obtain ⟨rfl, hZ, hh⟩ := hP
  have hx := Bd.exec
  have hby := Bd.bytes
  have hml : c.maxLocals = 3 := hml0
  have hown : s.vm.findClass "com/example/caravane/caravane/world/Ground" = some m.cls := findClass_of_methodNamed Bd.named
  have hnm := (name_of_methodNamed Bd.named Bd.method).1
  have X0 : Stand p l e ({ frames := 1, cells := 0, slots := 0, locals := 17 } : Room) s m #[(.ref a1), (.double px)] below meth c s₁ [] 0 0 := Stand.of_body Bd
  have e0 : s₁.heap = h0 := by rw [← hh, Bd.state]; rfl
  have N0 := Fr.nil n0
  have pre0 : ∀ t, Steps p.tables e below (s₁.setTop (mkF m 0 #[.val (.ref a1), .val (.double px), .second] [])) t → Steps p.tables e below (s₁.setTop (entryFrame m #[(.ref a1), (.double px)] 3)) t := fun t k => castTop (ef_wrapY m a1 px) k
  obtain ⟨T1, X1, e1, st1⟩ := getF X0 hx hZ hown (host := "") (Or.inl (hw _ (List.mem_of_getElem? (i := 21) rfl))) Via.refl e0 F_w (g := (mkF m 2 #[.val (.ref a1), .val (.double px), .second] [(.ref a1), (.double px)])) rfl rfl (hb hby dprog_84_method_5_code_2)
  obtain ⟨_, _, ⟨T2, L2, k2, n2⟩, -, X2, ⟨Lc2, hQ2, l2, y2, z2⟩, st2⟩ := Jvm.LawKit.callS X1 hx (y := (⟨"com/example/caravane/caravane/world/Ground", "wrap", "(DD)D"⟩ : MethodName)) hown (mvT hZ (hw _ (List.mem_of_getElem? (i := 34) rfl))) (mvT hZ (hw _ (List.mem_of_getElem? (i := 35) rfl))) (mvT hZ (hw _ (List.mem_of_getElem? (i := 2) rfl))) (mvT hZ (hw _ (List.mem_of_getElem? (i := 36) rfl))) (by decide) (backOf (W := 0) (rmwp l Z a0 hw [] px h0 n0 Z0) hZ (hw _ (List.mem_of_getElem? (i := 36) rfl)) (hw _ (List.mem_of_getElem? (i := 2) rfl)) (by decide) (by decide)) (g := (mkF m 5 #[.val (.ref a1), .val (.double px), .second] [(.double (9218868437227405312 : UInt64)), (.double px)])) rfl (by rw [hml]; rfl) (argsL := [(.double px), (.double (9218868437227405312 : UInt64))]) (rest := []) (lenOf pd_1 rfl) rfl (by show 2 * 0 + _ ≤ _; exact Nat.le_of_eq rfl) (hb hby dprog_84_method_5_code_5) (fun _ _ => ⟨rfl, e1, (by decide : 0 + 0 ≤ _), (by decide : 0 + 0 ≤ _)⟩)
  dsimp only [Pt.U, Pt.locs, Pt.cells, Pt.slots] at X2 l2 y2 z2 st2 hQ2
  subst l2 y2 z2
  obtain ⟨rfl, N2q, eh2⟩ := hQ2
  have N2 := Fr.app N0 N2q
  obtain ⟨fs, hr, hrun, hended, hW, hsame⟩ := X2.leave (v := some (.double px)) (fun h => by rw [Bd.returns] at h; cases h)
  refine ⟨_, _, pre0 _ ?_, hrun, hended, _, _, rfl, ?_, ⟨_, rfl⟩, hW, hsame.mono (by decide) (by decide)⟩
  · show Steps p.tables e below (s₁.setTop (mkF m 0 #[.val (.ref a1), .val (.double px), .second] [])) _
    refine XS.dloadN X0.here hx rfl (hb hby dprog_84_method_5_code_0) rfl ?_
    show Steps p.tables e below (s₁.setTop (mkF m 1 #[.val (.ref a1), .val (.double px), .second] [(.double px)])) _
    refine XS.aloadN X0.here hx rfl (hb hby dprog_84_method_5_code_1) rfl rfl ?_
    show Steps p.tables e below (s₁.setTop (mkF m 2 #[.val (.ref a1), .val (.double px), .second] [(.ref a1), (.double px)])) _
    refine st1 _ ?_
    show Steps p.tables e below (T1.setTop (mkF m 5 #[.val (.ref a1), .val (.double px), .second] [(.double (9218868437227405312 : UInt64)), (.double px)])) _
    refine st2 _ ?_
    show Steps p.tables e below (T2.setTop (mkF m 8 #[.val (.ref a1), .val (.double px), .second] [(.double px)])) _
    exact retOut X2 hx Bd.returns rfl (Or.inr (Or.inr (Or.inl ⟨rfl, rfl, _, rfl⟩))) (hb hby dprog_84_method_5_code_8) hr
  · show QwrapY Z a1 px h0 n0 _ T2.heap _
    rw [eh2]
    exact ⟨rfl, N2, rfl⟩
theorem pn_2 : plainName "com/example/caravane/caravane/world/GroundWrapsPinLaw" = true := by first | (simp [plainName, overriddenIn]; done) | decide +kernel
theorem dmethod_2_code_0 : decode method_2_code 0 = .ok (.iload_n 0, 1) := by decide +kernel
theorem dmethod_2_code_1 : decode method_2_code 1 = .ok (.iconst 3, 1) := by decide +kernel
theorem dmethod_2_code_2 : decode method_2_code 2 = .ok (.iand, 1) := by decide +kernel
theorem dmethod_2_code_3 : decode method_2_code 3 = .ok (.istore_n 2, 1) := by decide +kernel
theorem dmethod_2_code_4 : decode method_2_code 4 = .ok (.iload_n 2, 1) := by decide +kernel
theorem dmethod_2_code_5 : decode method_2_code 5 = .ok (.ifCond .ne 7, 3) := by decide +kernel
theorem dmethod_2_code_8 : decode method_2_code 8 = .ok (.ldc2_w 9, 3) := by decide +kernel
theorem dmethod_2_code_11 : decode method_2_code 11 = .ok (.dreturn, 1) := by decide +kernel
theorem dmethod_2_code_12 : decode method_2_code 12 = .ok (.iload_n 2, 1) := by decide +kernel
theorem dmethod_2_code_13 : decode method_2_code 13 = .ok (.iconst 1, 1) := by decide +kernel
theorem dmethod_2_code_14 : decode method_2_code 14 = .ok (.if_icmp .ne 7, 3) := by decide +kernel
theorem dmethod_2_code_17 : decode method_2_code 17 = .ok (.ldc2_w 11, 3) := by decide +kernel
theorem dmethod_2_code_20 : decode method_2_code 20 = .ok (.dreturn, 1) := by decide +kernel
theorem dmethod_2_code_21 : decode method_2_code 21 = .ok (.iload_n 2, 1) := by decide +kernel
theorem dmethod_2_code_22 : decode method_2_code 22 = .ok (.iconst 2, 1) := by decide +kernel
theorem dmethod_2_code_23 : decode method_2_code 23 = .ok (.if_icmp .ne 7, 3) := by decide +kernel
theorem dmethod_2_code_26 : decode method_2_code 26 = .ok (.ldc2_w 13, 3) := by decide +kernel
theorem dmethod_2_code_29 : decode method_2_code 29 = .ok (.dreturn, 1) := by decide +kernel
theorem dmethod_2_code_30 : decode method_2_code 30 = .ok (.iload_n 1, 1) := by decide +kernel
theorem dmethod_2_code_31 : decode method_2_code 31 = .ok (.ldc 15, 2) := by decide +kernel
theorem dmethod_2_code_33 : decode method_2_code 33 = .ok (.iand, 1) := by decide +kernel
theorem dmethod_2_code_34 : decode method_2_code 34 = .ok (.i2l, 1) := by decide +kernel
theorem dmethod_2_code_35 : decode method_2_code 35 = .ok (.lconst 1, 1) := by decide +kernel
theorem dmethod_2_code_36 : decode method_2_code 36 = .ok (.ladd, 1) := by decide +kernel
theorem dmethod_2_code_37 : decode method_2_code 37 = .ok (.l2d, 1) := by decide +kernel
theorem dmethod_2_code_38 : decode method_2_code 38 = .ok (.dreturn, 1) := by decide +kernel
theorem ef_size (m : MethodId) (x0 : Int32) (x1 : Int32) : entryFrame m #[(.int x0), (.int x1)] 3 = mkF m 0 #[.val (.int x0), .val (.int x1), .unset] [] := by first | (simp [entryFrame, mkF, argsToLocals, Value.category]; done) | rfl
def Qsize (Z : State) (pk pn : Int32) (h0 : Heap) (n0 : Nat) (v : Option Value) (h : Heap) (L : List Loc) : Prop := v = some (.double (own_size pk pn)) ∧ Fr n0 L ∧ h = h0
set_option maxRecDepth 65536 in
set_option maxHeartbeats 40000000 in
theorem rmsize (l : Launch) (Z : State) (a0 : Array Value) (hw : ∀ d ∈ tables_1, d.before a0 Z = true) (ws : List Jvm.Cond) (pk pn : Int32) (h0 : Heap) (n0 : Nat) (Z0 : n0 ≤ h0.size) :
    MetFree l (⟨"com/example/caravane/caravane/world/GroundWrapsPinLaw", "size", "(II)D"⟩ : MethodName) (head1 (Jvm.Cond.code (⟨"com/example/caravane/caravane/world/GroundWrapsPinLaw", "size", "(II)D"⟩ : MethodName) method_2_code 3 (some .double) :: ws) ({ frames := 0, cells := 0, slots := 0, locals := 0 } : Room)) (fun a U => a = #[(.int pk), (.int pn)] ∧ Z.Warmed39 U.vm ∧ U.heap = h0) (fun _ _ _ _ _ => True) (fun _ U o U' => ∃ v L, o = .returned v ∧ Qsize Z pk pn h0 n0 v U'.heap L ∧ FrameEnd U o U' L ({ frames := 0, cells := 0, slots := 0, locals := 0 } : Room).cells ({ frames := 0, cells := 0, slots := 0, locals := 0 } : Room).slots) := by
  refine MetFree.of_bodySF (plainFor_of_name pn_2) hisR ?_
  intro p e s m args below meth c s₁ Bd hml0 hP hK
  obtain ⟨rfl, hZ, hh⟩ := hP
  have hx := Bd.exec
  have hby := Bd.bytes
  have hml : c.maxLocals = 3 := hml0
  have hown : s.vm.findClass "com/example/caravane/caravane/world/GroundWrapsPinLaw" = some m.cls := findClass_of_methodNamed Bd.named
  have hnm := (name_of_methodNamed Bd.named Bd.method).1
  have X0 : Stand p l e ({ frames := 0, cells := 0, slots := 0, locals := 0 } : Room) s m #[(.int pk), (.int pn)] below meth c s₁ [] 0 0 := Stand.of_body Bd
  have e0 : s₁.heap = h0 := by rw [← hh, Bd.state]; rfl
  have N0 := Fr.nil n0
  have pre0 : ∀ t, Steps p.tables e below (s₁.setTop (mkF m 0 #[.val (.int pk), .val (.int pn), .unset] [])) t → Steps p.tables e below (s₁.setTop (entryFrame m #[(.int pk), (.int pn)] 3)) t := fun t k => castTop (ef_size m pk pn) k
  rcases Bool.eq_false_or_eq_true (ifCond.holds .ne (pk &&& (3 : Int32))) with hc5 | hc5
  · rcases Bool.eq_false_or_eq_true (if_icmp.holds .ne (pk &&& (3 : Int32)) (1 : Int32)) with hc14 | hc14
    · rcases Bool.eq_false_or_eq_true (if_icmp.holds .ne (pk &&& (3 : Int32)) (2 : Int32)) with hc23 | hc23
      · obtain ⟨fs, hr, hrun, hended, hW, hsame⟩ := X0.leave (v := some (.double (FP.l2d (((pn &&& (2147483647 : Int32)).toInt64) + (1 : Int64))))) (fun h => by rw [Bd.returns] at h; cases h)
        refine ⟨_, _, pre0 _ ?_, hrun, hended, _, _, rfl, ?_, ⟨_, rfl⟩, hW, hsame.mono (by decide) (by decide)⟩
        · show Steps p.tables e below (s₁.setTop (mkF m 0 #[.val (.int pk), .val (.int pn), .unset] [])) _
          refine XS.iloadN X0.here hx rfl (hb hby dmethod_2_code_0) rfl ?_
          show Steps p.tables e below (s₁.setTop (mkF m 1 #[.val (.int pk), .val (.int pn), .unset] [(.int pk)])) _
          refine XS.iconst X0.here hx rfl (hb hby dmethod_2_code_1) ?_
          show Steps p.tables e below (s₁.setTop (mkF m 2 #[.val (.int pk), .val (.int pn), .unset] [(.int (3 : Int32)), (.int pk)])) _
          refine XS.iand X0.here hx rfl (hb hby dmethod_2_code_2) rfl ?_
          show Steps p.tables e below (s₁.setTop (mkF m 3 #[.val (.int pk), .val (.int pn), .unset] [(.int (pk &&& (3 : Int32)))])) _
          refine XS.istoreN X0.here hx rfl (hb hby dmethod_2_code_3) rfl (l' := #[.val (.int pk), .val (.int pn), .val (.int (pk &&& (3 : Int32)))]) rfl ?_
          show Steps p.tables e below (s₁.setTop (mkF m 4 #[.val (.int pk), .val (.int pn), .val (.int (pk &&& (3 : Int32)))] [])) _
          refine XS.iloadN X0.here hx rfl (hb hby dmethod_2_code_4) rfl ?_
          show Steps p.tables e below (s₁.setTop (mkF m 5 #[.val (.int pk), .val (.int pn), .val (.int (pk &&& (3 : Int32)))] [(.int (pk &&& (3 : Int32)))])) _
          refine XS.ifYes X0.here hx rfl (pc0 := 5) (pc' := 12) rfl (hb hby dmethod_2_code_5) rfl hc5 (by decide) (by decide) ?_
          show Steps p.tables e below (s₁.setTop (mkF m 12 #[.val (.int pk), .val (.int pn), .val (.int (pk &&& (3 : Int32)))] [])) _
          refine XS.iloadN X0.here hx rfl (hb hby dmethod_2_code_12) rfl ?_
          show Steps p.tables e below (s₁.setTop (mkF m 13 #[.val (.int pk), .val (.int pn), .val (.int (pk &&& (3 : Int32)))] [(.int (pk &&& (3 : Int32)))])) _
          refine XS.iconst X0.here hx rfl (hb hby dmethod_2_code_13) ?_
          show Steps p.tables e below (s₁.setTop (mkF m 14 #[.val (.int pk), .val (.int pn), .val (.int (pk &&& (3 : Int32)))] [(.int (1 : Int32)), (.int (pk &&& (3 : Int32)))])) _
          refine XS.icmpYes X0.here hx rfl (pc0 := 14) (pc' := 21) rfl (hb hby dmethod_2_code_14) rfl hc14 (by decide) (by decide) ?_
          show Steps p.tables e below (s₁.setTop (mkF m 21 #[.val (.int pk), .val (.int pn), .val (.int (pk &&& (3 : Int32)))] [])) _
          refine XS.iloadN X0.here hx rfl (hb hby dmethod_2_code_21) rfl ?_
          show Steps p.tables e below (s₁.setTop (mkF m 22 #[.val (.int pk), .val (.int pn), .val (.int (pk &&& (3 : Int32)))] [(.int (pk &&& (3 : Int32)))])) _
          refine XS.iconst X0.here hx rfl (hb hby dmethod_2_code_22) ?_
          show Steps p.tables e below (s₁.setTop (mkF m 23 #[.val (.int pk), .val (.int pn), .val (.int (pk &&& (3 : Int32)))] [(.int (2 : Int32)), (.int (pk &&& (3 : Int32)))])) _
          refine XS.icmpYes X0.here hx rfl (pc0 := 23) (pc' := 30) rfl (hb hby dmethod_2_code_23) rfl hc23 (by decide) (by decide) ?_
          show Steps p.tables e below (s₁.setTop (mkF m 30 #[.val (.int pk), .val (.int pn), .val (.int (pk &&& (3 : Int32)))] [])) _
          refine XS.iloadN X0.here hx rfl (hb hby dmethod_2_code_30) rfl ?_
          show Steps p.tables e below (s₁.setTop (mkF m 31 #[.val (.int pk), .val (.int pn), .val (.int (pk &&& (3 : Int32)))] [(.int pn)])) _
          refine X0.ldcInt hx hown (mvT hZ (hw _ (List.mem_of_getElem? (i := 42) rfl))) (g := (mkF m 31 #[.val (.int pk), .val (.int pn), .val (.int (pk &&& (3 : Int32)))] [(.int pn)])) rfl (hb hby dmethod_2_code_31) _ ?_
          show Steps p.tables e below (s₁.setTop (mkF m 33 #[.val (.int pk), .val (.int pn), .val (.int (pk &&& (3 : Int32)))] [(.int (2147483647 : Int32)), (.int pn)])) _
          refine XS.iand X0.here hx rfl (hb hby dmethod_2_code_33) rfl ?_
          show Steps p.tables e below (s₁.setTop (mkF m 34 #[.val (.int pk), .val (.int pn), .val (.int (pk &&& (3 : Int32)))] [(.int (pn &&& (2147483647 : Int32)))])) _
          refine XS.i2l X0.here hx rfl (hb hby dmethod_2_code_34) rfl ?_
          show Steps p.tables e below (s₁.setTop (mkF m 35 #[.val (.int pk), .val (.int pn), .val (.int (pk &&& (3 : Int32)))] [(.long ((pn &&& (2147483647 : Int32)).toInt64))])) _
          refine XS.lconst X0.here hx rfl (hb hby dmethod_2_code_35) ?_
          show Steps p.tables e below (s₁.setTop (mkF m 36 #[.val (.int pk), .val (.int pn), .val (.int (pk &&& (3 : Int32)))] [(.long (1 : Int64)), (.long ((pn &&& (2147483647 : Int32)).toInt64))])) _
          refine XS.ladd X0.here hx rfl (hb hby dmethod_2_code_36) rfl ?_
          show Steps p.tables e below (s₁.setTop (mkF m 37 #[.val (.int pk), .val (.int pn), .val (.int (pk &&& (3 : Int32)))] [(.long (((pn &&& (2147483647 : Int32)).toInt64) + (1 : Int64)))])) _
          refine XS.l2dS X0.here hx rfl (hb hby dmethod_2_code_37) rfl rfl ?_
          show Steps p.tables e below (s₁.setTop (mkF m 38 #[.val (.int pk), .val (.int pn), .val (.int (pk &&& (3 : Int32)))] [(.double (FP.l2d (((pn &&& (2147483647 : Int32)).toInt64) + (1 : Int64))))])) _
          exact retOut X0 hx Bd.returns rfl (Or.inr (Or.inr (Or.inl ⟨rfl, rfl, _, rfl⟩))) (hb hby dmethod_2_code_38) hr
        · show Qsize Z pk pn h0 n0 _ s₁.heap _
          rw [e0]
          exact ⟨by unfold own_size; rw [hc5, hc14, hc23]; rfl, N0, rfl⟩
      · obtain ⟨fs, hr, hrun, hended, hW, hsame⟩ := X0.leave (v := some (.double (1 : UInt64))) (fun h => by rw [Bd.returns] at h; cases h)
        refine ⟨_, _, pre0 _ ?_, hrun, hended, _, _, rfl, ?_, ⟨_, rfl⟩, hW, hsame.mono (by decide) (by decide)⟩
        · show Steps p.tables e below (s₁.setTop (mkF m 0 #[.val (.int pk), .val (.int pn), .unset] [])) _
          refine XS.iloadN X0.here hx rfl (hb hby dmethod_2_code_0) rfl ?_
          show Steps p.tables e below (s₁.setTop (mkF m 1 #[.val (.int pk), .val (.int pn), .unset] [(.int pk)])) _
          refine XS.iconst X0.here hx rfl (hb hby dmethod_2_code_1) ?_
          show Steps p.tables e below (s₁.setTop (mkF m 2 #[.val (.int pk), .val (.int pn), .unset] [(.int (3 : Int32)), (.int pk)])) _
          refine XS.iand X0.here hx rfl (hb hby dmethod_2_code_2) rfl ?_
          show Steps p.tables e below (s₁.setTop (mkF m 3 #[.val (.int pk), .val (.int pn), .unset] [(.int (pk &&& (3 : Int32)))])) _
          refine XS.istoreN X0.here hx rfl (hb hby dmethod_2_code_3) rfl (l' := #[.val (.int pk), .val (.int pn), .val (.int (pk &&& (3 : Int32)))]) rfl ?_
          show Steps p.tables e below (s₁.setTop (mkF m 4 #[.val (.int pk), .val (.int pn), .val (.int (pk &&& (3 : Int32)))] [])) _
          refine XS.iloadN X0.here hx rfl (hb hby dmethod_2_code_4) rfl ?_
          show Steps p.tables e below (s₁.setTop (mkF m 5 #[.val (.int pk), .val (.int pn), .val (.int (pk &&& (3 : Int32)))] [(.int (pk &&& (3 : Int32)))])) _
          refine XS.ifYes X0.here hx rfl (pc0 := 5) (pc' := 12) rfl (hb hby dmethod_2_code_5) rfl hc5 (by decide) (by decide) ?_
          show Steps p.tables e below (s₁.setTop (mkF m 12 #[.val (.int pk), .val (.int pn), .val (.int (pk &&& (3 : Int32)))] [])) _
          refine XS.iloadN X0.here hx rfl (hb hby dmethod_2_code_12) rfl ?_
          show Steps p.tables e below (s₁.setTop (mkF m 13 #[.val (.int pk), .val (.int pn), .val (.int (pk &&& (3 : Int32)))] [(.int (pk &&& (3 : Int32)))])) _
          refine XS.iconst X0.here hx rfl (hb hby dmethod_2_code_13) ?_
          show Steps p.tables e below (s₁.setTop (mkF m 14 #[.val (.int pk), .val (.int pn), .val (.int (pk &&& (3 : Int32)))] [(.int (1 : Int32)), (.int (pk &&& (3 : Int32)))])) _
          refine XS.icmpYes X0.here hx rfl (pc0 := 14) (pc' := 21) rfl (hb hby dmethod_2_code_14) rfl hc14 (by decide) (by decide) ?_
          show Steps p.tables e below (s₁.setTop (mkF m 21 #[.val (.int pk), .val (.int pn), .val (.int (pk &&& (3 : Int32)))] [])) _
          refine XS.iloadN X0.here hx rfl (hb hby dmethod_2_code_21) rfl ?_
          show Steps p.tables e below (s₁.setTop (mkF m 22 #[.val (.int pk), .val (.int pn), .val (.int (pk &&& (3 : Int32)))] [(.int (pk &&& (3 : Int32)))])) _
          refine XS.iconst X0.here hx rfl (hb hby dmethod_2_code_22) ?_
          show Steps p.tables e below (s₁.setTop (mkF m 23 #[.val (.int pk), .val (.int pn), .val (.int (pk &&& (3 : Int32)))] [(.int (2 : Int32)), (.int (pk &&& (3 : Int32)))])) _
          refine XS.icmpNo X0.here hx rfl (hb hby dmethod_2_code_23) rfl hc23 ?_
          show Steps p.tables e below (s₁.setTop (mkF m 26 #[.val (.int pk), .val (.int pn), .val (.int (pk &&& (3 : Int32)))] [])) _
          refine X0.ldc2DoubleC hx hown (mvT hZ (hw _ (List.mem_of_getElem? (i := 43) rfl))) (g := (mkF m 26 #[.val (.int pk), .val (.int pn), .val (.int (pk &&& (3 : Int32)))] [])) rfl (hb hby dmethod_2_code_26) _ ?_
          show Steps p.tables e below (s₁.setTop (mkF m 29 #[.val (.int pk), .val (.int pn), .val (.int (pk &&& (3 : Int32)))] [(.double (1 : UInt64))])) _
          exact retOut X0 hx Bd.returns rfl (Or.inr (Or.inr (Or.inl ⟨rfl, rfl, _, rfl⟩))) (hb hby dmethod_2_code_29) hr
        · show Qsize Z pk pn h0 n0 _ s₁.heap _
          rw [e0]
          exact ⟨by unfold own_size; rw [hc5, hc14, hc23]; rfl, N0, rfl⟩
    · obtain ⟨fs, hr, hrun, hended, hW, hsame⟩ := X0.leave (v := some (.double (9218868437227405311 : UInt64))) (fun h => by rw [Bd.returns] at h; cases h)
      refine ⟨_, _, pre0 _ ?_, hrun, hended, _, _, rfl, ?_, ⟨_, rfl⟩, hW, hsame.mono (by decide) (by decide)⟩
      · show Steps p.tables e below (s₁.setTop (mkF m 0 #[.val (.int pk), .val (.int pn), .unset] [])) _
        refine XS.iloadN X0.here hx rfl (hb hby dmethod_2_code_0) rfl ?_
        show Steps p.tables e below (s₁.setTop (mkF m 1 #[.val (.int pk), .val (.int pn), .unset] [(.int pk)])) _
        refine XS.iconst X0.here hx rfl (hb hby dmethod_2_code_1) ?_
        show Steps p.tables e below (s₁.setTop (mkF m 2 #[.val (.int pk), .val (.int pn), .unset] [(.int (3 : Int32)), (.int pk)])) _
        refine XS.iand X0.here hx rfl (hb hby dmethod_2_code_2) rfl ?_
        show Steps p.tables e below (s₁.setTop (mkF m 3 #[.val (.int pk), .val (.int pn), .unset] [(.int (pk &&& (3 : Int32)))])) _
        refine XS.istoreN X0.here hx rfl (hb hby dmethod_2_code_3) rfl (l' := #[.val (.int pk), .val (.int pn), .val (.int (pk &&& (3 : Int32)))]) rfl ?_
        show Steps p.tables e below (s₁.setTop (mkF m 4 #[.val (.int pk), .val (.int pn), .val (.int (pk &&& (3 : Int32)))] [])) _
        refine XS.iloadN X0.here hx rfl (hb hby dmethod_2_code_4) rfl ?_
        show Steps p.tables e below (s₁.setTop (mkF m 5 #[.val (.int pk), .val (.int pn), .val (.int (pk &&& (3 : Int32)))] [(.int (pk &&& (3 : Int32)))])) _
        refine XS.ifYes X0.here hx rfl (pc0 := 5) (pc' := 12) rfl (hb hby dmethod_2_code_5) rfl hc5 (by decide) (by decide) ?_
        show Steps p.tables e below (s₁.setTop (mkF m 12 #[.val (.int pk), .val (.int pn), .val (.int (pk &&& (3 : Int32)))] [])) _
        refine XS.iloadN X0.here hx rfl (hb hby dmethod_2_code_12) rfl ?_
        show Steps p.tables e below (s₁.setTop (mkF m 13 #[.val (.int pk), .val (.int pn), .val (.int (pk &&& (3 : Int32)))] [(.int (pk &&& (3 : Int32)))])) _
        refine XS.iconst X0.here hx rfl (hb hby dmethod_2_code_13) ?_
        show Steps p.tables e below (s₁.setTop (mkF m 14 #[.val (.int pk), .val (.int pn), .val (.int (pk &&& (3 : Int32)))] [(.int (1 : Int32)), (.int (pk &&& (3 : Int32)))])) _
        refine XS.icmpNo X0.here hx rfl (hb hby dmethod_2_code_14) rfl hc14 ?_
        show Steps p.tables e below (s₁.setTop (mkF m 17 #[.val (.int pk), .val (.int pn), .val (.int (pk &&& (3 : Int32)))] [])) _
        refine X0.ldc2DoubleC hx hown (mvT hZ (hw _ (List.mem_of_getElem? (i := 44) rfl))) (g := (mkF m 17 #[.val (.int pk), .val (.int pn), .val (.int (pk &&& (3 : Int32)))] [])) rfl (hb hby dmethod_2_code_17) _ ?_
        show Steps p.tables e below (s₁.setTop (mkF m 20 #[.val (.int pk), .val (.int pn), .val (.int (pk &&& (3 : Int32)))] [(.double (9218868437227405311 : UInt64))])) _
        exact retOut X0 hx Bd.returns rfl (Or.inr (Or.inr (Or.inl ⟨rfl, rfl, _, rfl⟩))) (hb hby dmethod_2_code_20) hr
      · show Qsize Z pk pn h0 n0 _ s₁.heap _
        rw [e0]
        exact ⟨by unfold own_size; rw [hc5, hc14]; rfl, N0, rfl⟩
  · obtain ⟨fs, hr, hrun, hended, hW, hsame⟩ := X0.leave (v := some (.double (9218868437227405312 : UInt64))) (fun h => by rw [Bd.returns] at h; cases h)
    refine ⟨_, _, pre0 _ ?_, hrun, hended, _, _, rfl, ?_, ⟨_, rfl⟩, hW, hsame.mono (by decide) (by decide)⟩
    · show Steps p.tables e below (s₁.setTop (mkF m 0 #[.val (.int pk), .val (.int pn), .unset] [])) _
      refine XS.iloadN X0.here hx rfl (hb hby dmethod_2_code_0) rfl ?_
      show Steps p.tables e below (s₁.setTop (mkF m 1 #[.val (.int pk), .val (.int pn), .unset] [(.int pk)])) _
      refine XS.iconst X0.here hx rfl (hb hby dmethod_2_code_1) ?_
      show Steps p.tables e below (s₁.setTop (mkF m 2 #[.val (.int pk), .val (.int pn), .unset] [(.int (3 : Int32)), (.int pk)])) _
      refine XS.iand X0.here hx rfl (hb hby dmethod_2_code_2) rfl ?_
      show Steps p.tables e below (s₁.setTop (mkF m 3 #[.val (.int pk), .val (.int pn), .unset] [(.int (pk &&& (3 : Int32)))])) _
      refine XS.istoreN X0.here hx rfl (hb hby dmethod_2_code_3) rfl (l' := #[.val (.int pk), .val (.int pn), .val (.int (pk &&& (3 : Int32)))]) rfl ?_
      show Steps p.tables e below (s₁.setTop (mkF m 4 #[.val (.int pk), .val (.int pn), .val (.int (pk &&& (3 : Int32)))] [])) _
      refine XS.iloadN X0.here hx rfl (hb hby dmethod_2_code_4) rfl ?_
      show Steps p.tables e below (s₁.setTop (mkF m 5 #[.val (.int pk), .val (.int pn), .val (.int (pk &&& (3 : Int32)))] [(.int (pk &&& (3 : Int32)))])) _
      refine XS.ifNo X0.here hx rfl (hb hby dmethod_2_code_5) rfl hc5 ?_
      show Steps p.tables e below (s₁.setTop (mkF m 8 #[.val (.int pk), .val (.int pn), .val (.int (pk &&& (3 : Int32)))] [])) _
      refine X0.ldc2DoubleC hx hown (mvT hZ (hw _ (List.mem_of_getElem? (i := 7) rfl))) (g := (mkF m 8 #[.val (.int pk), .val (.int pn), .val (.int (pk &&& (3 : Int32)))] [])) rfl (hb hby dmethod_2_code_8) _ ?_
      show Steps p.tables e below (s₁.setTop (mkF m 11 #[.val (.int pk), .val (.int pn), .val (.int (pk &&& (3 : Int32)))] [(.double (9218868437227405312 : UInt64))])) _
      exact retOut X0 hx Bd.returns rfl (Or.inr (Or.inr (Or.inl ⟨rfl, rfl, _, rfl⟩))) (hb hby dmethod_2_code_11) hr
    · show Qsize Z pk pn h0 n0 _ s₁.heap _
      rw [e0]
      exact ⟨by unfold own_size; rw [hc5]; rfl, N0, rfl⟩
theorem pd_2 : parseMethodDescriptor "(II)D" = some ⟨[.int, .int], some .double⟩ := by decide +kernel
theorem pd_3 : parseMethodDescriptor "(DD)V" = some ⟨[.double, .double], none⟩ := by decide +kernel
theorem pd_4 : parseMethodDescriptor "()Z" = some ⟨[], some .boolean⟩ := by decide +kernel
theorem pd_5 : parseMethodDescriptor "(D)D" = some ⟨[.double], some .double⟩ := by decide +kernel
theorem ef_0 (m : MethodId) (x0 : Int32) (x1 : Int32) (x2 : Int32) (x3 : Int32) : entryFrame m #[(.int x0), (.int x1), (.int x2), (.int x3)] maxLocals = mkF m 0 #[.val (.int x0), .val (.int x1), .val (.int x2), .val (.int x3), .unset, .unset, .unset, .unset, .unset, .unset] [] := by first | (simp [entryFrame, mkF, argsToLocals, Value.category, maxLocals]; done) | rfl
set_option maxRecDepth 65536 in
set_option maxHeartbeats 4000000 in
theorem sg_0_0_11 {p : Program} {l : Launch} {e : Env} {R : Room} {s : State} {m : MethodId} {args : Array Value} {below : List Frame} {meth : Method} {c : Code} {T : State} {locs : List Loc} {cells slots : Nat} {Z : State} {a0 : Array Value} {target : State} {x0 : Int32} {x1 : Int32} {x2 : Int32} {x3 : Int32} (X : Stand p l e R s m args below meth c T locs cells slots) (hx : p.tables.exec = Jvm.exec) (hZ : Z.Warmed39 s.vm) (hw : ∀ d ∈ tables_1, d.before a0 Z = true) (hby : c.code = code) (hown : s.vm.findClass "com/example/caravane/caravane/world/GroundWrapsPinLaw" = some m.cls)
    (k : Steps p.tables e below (T.setTop (mkF m 11 #[.val (.int x0), .val (.int x1), .val (.int x2), .val (.int x3), .unset, .unset, .unset, .unset, .unset, .unset] [(.int (bif (ifCond.holds .eq (x0 &&& (3 : Int32))) then (0 : Int32) else (1 : Int32)))])) target) : Steps p.tables e below (T.setTop (mkF m 0 #[.val (.int x0), .val (.int x1), .val (.int x2), .val (.int x3), .unset, .unset, .unset, .unset, .unset, .unset] [])) target := by
  show Steps p.tables e below (T.setTop (mkF m 0 #[.val (.int x0), .val (.int x1), .val (.int x2), .val (.int x3), .unset, .unset, .unset, .unset, .unset, .unset] [])) _
  refine XS.iloadN X.here hx rfl (hb hby at_0) rfl ?_
  show Steps p.tables e below (T.setTop (mkF m 1 #[.val (.int x0), .val (.int x1), .val (.int x2), .val (.int x3), .unset, .unset, .unset, .unset, .unset, .unset] [(.int x0)])) _
  refine XS.iconst X.here hx rfl (hb hby at_1) ?_
  show Steps p.tables e below (T.setTop (mkF m 2 #[.val (.int x0), .val (.int x1), .val (.int x2), .val (.int x3), .unset, .unset, .unset, .unset, .unset, .unset] [(.int (3 : Int32)), (.int x0)])) _
  refine XS.iand X.here hx rfl (hb hby at_2) rfl ?_
  show Steps p.tables e below (T.setTop (mkF m 3 #[.val (.int x0), .val (.int x1), .val (.int x2), .val (.int x3), .unset, .unset, .unset, .unset, .unset, .unset] [(.int (x0 &&& (3 : Int32)))])) _
  rcases Bool.eq_false_or_eq_true (ifCond.holds .eq (x0 &&& (3 : Int32))) with hc1 | hc1
  · try rw [hc1] at k
    refine XS.ifYes X.here hx rfl (pc0 := 3) (pc' := 10) rfl (hb hby at_3) rfl hc1 (by decide) (by decide) ?_
    show Steps p.tables e below (T.setTop (mkF m 10 #[.val (.int x0), .val (.int x1), .val (.int x2), .val (.int x3), .unset, .unset, .unset, .unset, .unset, .unset] [])) _
    refine XS.iconst X.here hx rfl (hb hby at_10) ?_
    exact k
  · try rw [hc1] at k
    refine XS.ifNo X.here hx rfl (hb hby at_3) rfl hc1 ?_
    show Steps p.tables e below (T.setTop (mkF m 6 #[.val (.int x0), .val (.int x1), .val (.int x2), .val (.int x3), .unset, .unset, .unset, .unset, .unset, .unset] [])) _
    refine XS.iconst X.here hx rfl (hb hby at_6) ?_
    show Steps p.tables e below (T.setTop (mkF m 7 #[.val (.int x0), .val (.int x1), .val (.int x2), .val (.int x3), .unset, .unset, .unset, .unset, .unset, .unset] [(.int (1 : Int32))])) _
    refine XS.goto X.here hx rfl (pc0 := 7) (pc' := 11) rfl (hb hby at_7) (by decide) (by decide) ?_
    exact k
set_option maxRecDepth 65536 in
set_option maxHeartbeats 4000000 in
theorem sg_0_13_26 {p : Program} {l : Launch} {e : Env} {R : Room} {s : State} {m : MethodId} {args : Array Value} {below : List Frame} {meth : Method} {c : Code} {T : State} {locs : List Loc} {cells slots : Nat} {Z : State} {a0 : Array Value} {target : State} {x0 : Int32} {x1 : Int32} {x2 : Int32} {x3 : Int32} {x4 : Int32} (X : Stand p l e R s m args below meth c T locs cells slots) (hx : p.tables.exec = Jvm.exec) (hZ : Z.Warmed39 s.vm) (hw : ∀ d ∈ tables_1, d.before a0 Z = true) (hby : c.code = code) (hown : s.vm.findClass "com/example/caravane/caravane/world/GroundWrapsPinLaw" = some m.cls)
    (k : Steps p.tables e below (T.setTop (mkF m 26 #[.val (.int x0), .val (.int x1), .val (.int x2), .val (.int x3), .val (.int x4), .unset, .unset, .unset, .unset, .unset] [(.int (bif (ifCond.holds .eq (((x0.toUInt32 >>> ((2 : Int32) &&& 31).toUInt32).toInt32) &&& (3 : Int32))) then (0 : Int32) else (1 : Int32)))])) target) : Steps p.tables e below (T.setTop (mkF m 13 #[.val (.int x0), .val (.int x1), .val (.int x2), .val (.int x3), .val (.int x4), .unset, .unset, .unset, .unset, .unset] [])) target := by
  show Steps p.tables e below (T.setTop (mkF m 13 #[.val (.int x0), .val (.int x1), .val (.int x2), .val (.int x3), .val (.int x4), .unset, .unset, .unset, .unset, .unset] [])) _
  refine XS.iloadN X.here hx rfl (hb hby at_13) rfl ?_
  show Steps p.tables e below (T.setTop (mkF m 14 #[.val (.int x0), .val (.int x1), .val (.int x2), .val (.int x3), .val (.int x4), .unset, .unset, .unset, .unset, .unset] [(.int x0)])) _
  refine XS.iconst X.here hx rfl (hb hby at_14) ?_
  show Steps p.tables e below (T.setTop (mkF m 15 #[.val (.int x0), .val (.int x1), .val (.int x2), .val (.int x3), .val (.int x4), .unset, .unset, .unset, .unset, .unset] [(.int (2 : Int32)), (.int x0)])) _
  refine XS.iushr X.here hx rfl (hb hby at_15) rfl ?_
  show Steps p.tables e below (T.setTop (mkF m 16 #[.val (.int x0), .val (.int x1), .val (.int x2), .val (.int x3), .val (.int x4), .unset, .unset, .unset, .unset, .unset] [(.int ((x0.toUInt32 >>> ((2 : Int32) &&& 31).toUInt32).toInt32))])) _
  refine XS.iconst X.here hx rfl (hb hby at_16) ?_
  show Steps p.tables e below (T.setTop (mkF m 17 #[.val (.int x0), .val (.int x1), .val (.int x2), .val (.int x3), .val (.int x4), .unset, .unset, .unset, .unset, .unset] [(.int (3 : Int32)), (.int ((x0.toUInt32 >>> ((2 : Int32) &&& 31).toUInt32).toInt32))])) _
  refine XS.iand X.here hx rfl (hb hby at_17) rfl ?_
  show Steps p.tables e below (T.setTop (mkF m 18 #[.val (.int x0), .val (.int x1), .val (.int x2), .val (.int x3), .val (.int x4), .unset, .unset, .unset, .unset, .unset] [(.int (((x0.toUInt32 >>> ((2 : Int32) &&& 31).toUInt32).toInt32) &&& (3 : Int32)))])) _
  rcases Bool.eq_false_or_eq_true (ifCond.holds .eq (((x0.toUInt32 >>> ((2 : Int32) &&& 31).toUInt32).toInt32) &&& (3 : Int32))) with hc1 | hc1
  · try rw [hc1] at k
    refine XS.ifYes X.here hx rfl (pc0 := 18) (pc' := 25) rfl (hb hby at_18) rfl hc1 (by decide) (by decide) ?_
    show Steps p.tables e below (T.setTop (mkF m 25 #[.val (.int x0), .val (.int x1), .val (.int x2), .val (.int x3), .val (.int x4), .unset, .unset, .unset, .unset, .unset] [])) _
    refine XS.iconst X.here hx rfl (hb hby at_25) ?_
    exact k
  · try rw [hc1] at k
    refine XS.ifNo X.here hx rfl (hb hby at_18) rfl hc1 ?_
    show Steps p.tables e below (T.setTop (mkF m 21 #[.val (.int x0), .val (.int x1), .val (.int x2), .val (.int x3), .val (.int x4), .unset, .unset, .unset, .unset, .unset] [])) _
    refine XS.iconst X.here hx rfl (hb hby at_21) ?_
    show Steps p.tables e below (T.setTop (mkF m 22 #[.val (.int x0), .val (.int x1), .val (.int x2), .val (.int x3), .val (.int x4), .unset, .unset, .unset, .unset, .unset] [(.int (1 : Int32))])) _
    refine XS.goto X.here hx rfl (pc0 := 22) (pc' := 26) rfl (hb hby at_22) (by decide) (by decide) ?_
    exact k
set_option maxRecDepth 65536 in
set_option maxHeartbeats 4000000 in
theorem sg_0_58_73 {p : Program} {l : Launch} {e : Env} {R : Room} {s : State} {m : MethodId} {args : Array Value} {below : List Frame} {meth : Method} {c : Code} {T : State} {locs : List Loc} {cells slots : Nat} {Z : State} {a0 : Array Value} {target : State} {x0 : Int32} {x1 : Int32} {x2 : Int32} {x3 : Int32} {x4 : Int32} {x5 : Int32} {x6 : Addr} {x7 : Int32} {y0 : Int32} (X : Stand p l e R s m args below meth c T locs cells slots) (hx : p.tables.exec = Jvm.exec) (hZ : Z.Warmed39 s.vm) (hw : ∀ d ∈ tables_1, d.before a0 Z = true) (hby : c.code = code) (hown : s.vm.findClass "com/example/caravane/caravane/world/GroundWrapsPinLaw" = some m.cls)
    (k : Steps p.tables e below (T.setTop (mkF m 73 #[.val (.int x0), .val (.int x1), .val (.int x2), .val (.int x3), .val (.int x4), .val (.int x5), .val (.ref x6), .val (.int x7), .unset, .unset] [(.int (bif (ifCond.holds .ne x4) then (1 : Int32) else (bif (ifCond.holds .eq x5) then (0 : Int32) else (1 : Int32)))), (.int y0)])) target) : Steps p.tables e below (T.setTop (mkF m 58 #[.val (.int x0), .val (.int x1), .val (.int x2), .val (.int x3), .val (.int x4), .val (.int x5), .val (.ref x6), .val (.int x7), .unset, .unset] [(.int y0)])) target := by
  show Steps p.tables e below (T.setTop (mkF m 58 #[.val (.int x0), .val (.int x1), .val (.int x2), .val (.int x3), .val (.int x4), .val (.int x5), .val (.ref x6), .val (.int x7), .unset, .unset] [(.int y0)])) _
  refine XS.iload X.here hx rfl (hb hby at_58) rfl ?_
  show Steps p.tables e below (T.setTop (mkF m 60 #[.val (.int x0), .val (.int x1), .val (.int x2), .val (.int x3), .val (.int x4), .val (.int x5), .val (.ref x6), .val (.int x7), .unset, .unset] [(.int x4), (.int y0)])) _
  rcases Bool.eq_false_or_eq_true (ifCond.holds .ne x4) with hc1 | hc1
  · try rw [hc1] at k
    refine XS.ifYes X.here hx rfl (pc0 := 60) (pc' := 68) rfl (hb hby at_60) rfl hc1 (by decide) (by decide) ?_
    show Steps p.tables e below (T.setTop (mkF m 68 #[.val (.int x0), .val (.int x1), .val (.int x2), .val (.int x3), .val (.int x4), .val (.int x5), .val (.ref x6), .val (.int x7), .unset, .unset] [(.int y0)])) _
    refine XS.iconst X.here hx rfl (hb hby at_68) ?_
    show Steps p.tables e below (T.setTop (mkF m 69 #[.val (.int x0), .val (.int x1), .val (.int x2), .val (.int x3), .val (.int x4), .val (.int x5), .val (.ref x6), .val (.int x7), .unset, .unset] [(.int (1 : Int32)), (.int y0)])) _
    refine XS.goto X.here hx rfl (pc0 := 69) (pc' := 73) rfl (hb hby at_69) (by decide) (by decide) ?_
    exact k
  · try rw [hc1] at k
    refine XS.ifNo X.here hx rfl (hb hby at_60) rfl hc1 ?_
    show Steps p.tables e below (T.setTop (mkF m 63 #[.val (.int x0), .val (.int x1), .val (.int x2), .val (.int x3), .val (.int x4), .val (.int x5), .val (.ref x6), .val (.int x7), .unset, .unset] [(.int y0)])) _
    refine XS.iload X.here hx rfl (hb hby at_63) rfl ?_
    show Steps p.tables e below (T.setTop (mkF m 65 #[.val (.int x0), .val (.int x1), .val (.int x2), .val (.int x3), .val (.int x4), .val (.int x5), .val (.ref x6), .val (.int x7), .unset, .unset] [(.int x5), (.int y0)])) _
    rcases Bool.eq_false_or_eq_true (ifCond.holds .eq x5) with hc2 | hc2
    · try rw [hc2] at k
      refine XS.ifYes X.here hx rfl (pc0 := 65) (pc' := 72) rfl (hb hby at_65) rfl hc2 (by decide) (by decide) ?_
      show Steps p.tables e below (T.setTop (mkF m 72 #[.val (.int x0), .val (.int x1), .val (.int x2), .val (.int x3), .val (.int x4), .val (.int x5), .val (.ref x6), .val (.int x7), .unset, .unset] [(.int y0)])) _
      refine XS.iconst X.here hx rfl (hb hby at_72) ?_
      exact k
    · try rw [hc2] at k
      refine XS.ifNo X.here hx rfl (hb hby at_65) rfl hc2 ?_
      show Steps p.tables e below (T.setTop (mkF m 68 #[.val (.int x0), .val (.int x1), .val (.int x2), .val (.int x3), .val (.int x4), .val (.int x5), .val (.ref x6), .val (.int x7), .unset, .unset] [(.int y0)])) _
      refine XS.iconst X.here hx rfl (hb hby at_68) ?_
      show Steps p.tables e below (T.setTop (mkF m 69 #[.val (.int x0), .val (.int x1), .val (.int x2), .val (.int x3), .val (.int x4), .val (.int x5), .val (.ref x6), .val (.int x7), .unset, .unset] [(.int (1 : Int32)), (.int y0)])) _
      refine XS.goto X.here hx rfl (pc0 := 69) (pc' := 73) rfl (hb hby at_69) (by decide) (by decide) ?_
      exact k
def Q0 (Z : State) (p0 p1 p2 p3 : Int32) (h0 : Heap) (n0 : Nat) (v : Option Value) (h : Heap) (L : List Loc) : Prop := v = some (.int 1) ∧ Fr n0 L
set_option maxRecDepth 65536 in
set_option maxHeartbeats 40000000 in
theorem rm0 (l : Launch) (Z : State) (a0 : Array Value) (hw : ∀ d ∈ tables_1, d.before a0 Z = true) (ws : List Jvm.Cond) (p0 p1 p2 p3 : Int32) (h0 : Heap) (n0 : Nat) (Z0 : n0 ≤ h0.size) :
    MetFree l x (head1 (Jvm.Cond.code x code maxLocals ret :: ws) room_1) (fun a U => a = #[(.int p0), (.int p1), (.int p2), (.int p3)] ∧ Z.Warmed39 U.vm ∧ U.heap = h0) (fun _ _ _ _ _ => True) (fun _ U o U' => ∃ v L, o = .returned v ∧ Q0 Z p0 p1 p2 p3 h0 n0 v U'.heap L ∧ FrameEnd U o U' L room_1.cells room_1.slots) := by
  refine MetFree.of_bodySF (plainFor_of_name pn_2) hisR ?_
  intro p e s m args below meth c s₁ Bd hml0 hP hK
  obtain ⟨rfl, hZ, hh⟩ := hP
  have hx := Bd.exec
  have hby := Bd.bytes
  have hml : c.maxLocals = 10 := hml0
  have hown : s.vm.findClass "com/example/caravane/caravane/world/GroundWrapsPinLaw" = some m.cls := findClass_of_methodNamed Bd.named
  have hnm := (name_of_methodNamed Bd.named Bd.method).1
  have X0 : Stand p l e room_1 s m #[(.int p0), (.int p1), (.int p2), (.int p3)] below meth c s₁ [] 0 0 := Stand.of_body Bd
  have e0 : s₁.heap = h0 := by rw [← hh, Bd.state]; rfl
  have N0 := Fr.nil n0
  have pre0 : ∀ t, Steps p.tables e below (s₁.setTop (mkF m 0 #[.val (.int p0), .val (.int p1), .val (.int p2), .val (.int p3), .unset, .unset, .unset, .unset, .unset, .unset] [])) t → Steps p.tables e below (s₁.setTop (entryFrame m #[(.int p0), (.int p1), (.int p2), (.int p3)] maxLocals)) t := fun t k => castTop (ef_0 m p0 p1 p2 p3) k
  obtain ⟨T1, h1, X1, e1, E1, A1, D1, -, st1⟩ := newO X0 hx hZ hown (hw _ (List.mem_of_getElem? (i := 0) rfl)) (hw _ (List.mem_of_getElem? (i := 1) rfl)) (hw _ (List.mem_of_getElem? (i := 2) rfl)) e0 (g := (mkF m 28 #[.val (.int p0), .val (.int p1), .val (.int p2), .val (.int p3), .val (.int (own_fin p0)), .val (.int (own_fin (own_sh p0))), .unset, .unset, .unset, .unset] [])) rfl (hb hby at_28) (by decide) (by decide)
  obtain ⟨b1, g1⟩ : ∃ z, z = h0.size := ⟨_, rfl⟩
  rw [← g1] at A1 D1 st1
  have F1_width : Fld Z h1 b1 "com/example/caravane/caravane/world/Ground" "width" "D" (.double (0 : UInt64)) := D1 (Or.inr (hw _ (List.mem_of_getElem? (i := 20) rfl))) (ty := .double) (by decide)
  have F1_height : Fld Z h1 b1 "com/example/caravane/caravane/world/Ground" "height" "D" (.double (0 : UInt64)) := D1 (Or.inr (hw _ (List.mem_of_getElem? (i := 22) rfl))) (ty := .double) (by decide)
  obtain ⟨_, _, ⟨T2, L2, k2, n2⟩, -, X2, ⟨Lc2, hQ2, l2, y2, z2⟩, st2⟩ := Jvm.LawKit.callS X1 hx (y := (⟨"com/example/caravane/caravane/world/GroundWrapsPinLaw", "size", "(II)D"⟩ : MethodName)) hown (mvT hZ (hw _ (List.mem_of_getElem? (i := 3) rfl))) (mvT hZ (hw _ (List.mem_of_getElem? (i := 4) rfl))) (mvT hZ (hw _ (List.mem_of_getElem? (i := 5) rfl))) (mvT hZ (hw _ (List.mem_of_getElem? (i := 6) rfl))) (by decide) (backOf (W := 2) (rmsize l Z a0 hw [] p0 p1 h1 n0 (Nat.le_trans Z0 E1.1)) hZ (hw _ (List.mem_of_getElem? (i := 6) rfl)) (hw _ (List.mem_of_getElem? (i := 5) rfl)) (by decide) (by decide)) (g := (mkF m 34 #[.val (.int p0), .val (.int p1), .val (.int p2), .val (.int p3), .val (.int (own_fin p0)), .val (.int (own_fin (own_sh p0))), .unset, .unset, .unset, .unset] [(.int p1), (.int p0), (.ref b1), (.ref b1)])) rfl (by rw [hml]; rfl) (argsL := [(.int p0), (.int p1)]) (rest := [(.ref b1), (.ref b1)]) (lenOf pd_2 rfl) rfl (by show 2 * 0 + _ ≤ _; exact Nat.le_of_eq rfl) (hb hby at_34) (fun _ _ => ⟨rfl, e1, (by decide : 1 + 0 ≤ _), (by decide : 2 + 0 ≤ _)⟩)
  dsimp only [Pt.U, Pt.locs, Pt.cells, Pt.slots] at X2 l2 y2 z2 st2 hQ2
  subst l2 y2 z2
  obtain ⟨rfl, N2q, eh2⟩ := hQ2
  have N2 := Fr.app N0 N2q
  obtain ⟨_, _, ⟨T3, L3, k3, n3⟩, -, X3, ⟨Lc3, hQ3, l3, y3, z3⟩, st3⟩ := Jvm.LawKit.callS X2 hx (y := (⟨"com/example/caravane/caravane/world/GroundWrapsPinLaw", "size", "(II)D"⟩ : MethodName)) hown (mvT hZ (hw _ (List.mem_of_getElem? (i := 3) rfl))) (mvT hZ (hw _ (List.mem_of_getElem? (i := 4) rfl))) (mvT hZ (hw _ (List.mem_of_getElem? (i := 5) rfl))) (mvT hZ (hw _ (List.mem_of_getElem? (i := 6) rfl))) (by decide) (backOf (W := 4) (rmsize l Z a0 hw [] (own_sh p0) p2 h1 n0 (Nat.le_trans Z0 E1.1)) hZ (hw _ (List.mem_of_getElem? (i := 6) rfl)) (hw _ (List.mem_of_getElem? (i := 5) rfl)) (by decide) (by decide)) (g := (mkF m 41 #[.val (.int p0), .val (.int p1), .val (.int p2), .val (.int p3), .val (.int (own_fin p0)), .val (.int (own_fin (own_sh p0))), .unset, .unset, .unset, .unset] [(.int p2), (.int (own_sh p0)), (.double (own_size p0 p1)), (.ref b1), (.ref b1)])) rfl (by rw [hml]; rfl) (argsL := [(.int (own_sh p0)), (.int p2)]) (rest := [(.double (own_size p0 p1)), (.ref b1), (.ref b1)]) (lenOf pd_2 rfl) rfl (by show 2 * 0 + _ ≤ _; exact Nat.le_of_eq rfl) (hb hby at_41) (fun _ _ => ⟨rfl, eh2, (by decide : 1 + 0 ≤ _), (by decide : 2 + 0 ≤ _)⟩)
  dsimp only [Pt.U, Pt.locs, Pt.cells, Pt.slots] at X3 l3 y3 z3 st3 hQ3
  subst l3 y3 z3
  obtain ⟨rfl, N3q, eh3⟩ := hQ3
  have N3 := Fr.app N2 N3q
  obtain ⟨_, _, ⟨T4, L4, k4, n4⟩, -, X4, ⟨Lc4, hQ4, l4, y4, z4⟩, st4⟩ := X3.specialBack hx (y := (⟨"com/example/caravane/caravane/world/Ground", "<init>", "(DD)V"⟩ : MethodName)) rfl hown (mvT hZ (hw _ (List.mem_of_getElem? (i := 8) rfl))) (mvT hZ (hw _ (List.mem_of_getElem? (i := 9) rfl))) (mvT hZ (hw _ (List.mem_of_getElem? (i := 10) rfl))) (by decide) (backOf (W := 1) (rmgi l Z a0 hw [] b1 (own_size p0 p1) (own_size (own_sh p0) p2) h1 n0 (Nat.le_trans Z0 E1.1) F1_width F1_height A1 (Nat.le_trans Z0 (Nat.le_trans (Nat.le_refl _) (Nat.le_of_eq g1.symm))) (by rw [own_gt]; rfl) (by rw [own_gt]; rfl)) hZ (hw _ (List.mem_of_getElem? (i := 10) rfl)) (hw _ (List.mem_of_getElem? (i := 2) rfl)) (by decide) (by decide)) (g := (mkF m 44 #[.val (.int p0), .val (.int p1), .val (.int p2), .val (.int p3), .val (.int (own_fin p0)), .val (.int (own_fin (own_sh p0))), .unset, .unset, .unset, .unset] [(.double (own_size (own_sh p0) p2)), (.double (own_size p0 p1)), (.ref b1), (.ref b1)])) rfl (by rw [hml]; rfl) (Steps.refl _) (a := b1) (argsL := [(.double (own_size p0 p1)), (.double (own_size (own_sh p0) p2))]) (rest := [(.ref b1)]) (lenOf pd_3 rfl) rfl (by show 2 * 0 + _ ≤ _; exact Nat.le_of_eq rfl) (hb hby at_44) (fun _ _ => ⟨rfl, eh3, (by decide : 1 + 0 ≤ _), (by decide : 2 + 0 ≤ _)⟩)
  dsimp only [Pt.U, Pt.locs, Pt.cells, Pt.slots] at X4 l4 y4 z4 st4 hQ4
  subst l4 y4 z4
  obtain ⟨rfl, N4q, K4, Ea4, Fx4, Fy4⟩ := hQ4
  have N4 := Fr.app N3 N4q
  obtain ⟨cq5, kq5, q5a, q5b, q5c⟩ := isOf hZ rfl Ea4
  obtain ⟨_, _, ⟨T5, L5, k5, n5⟩, -, X5, ⟨Lc5, hQ5, l5, y5, z5⟩, st5⟩ := X4.virtualBack hx (y := (⟨"com/example/caravane/caravane/world/Ground", "wraps", "()Z"⟩ : MethodName)) (z := (⟨"com/example/caravane/caravane/world/Ground", "wraps", "()Z"⟩ : MethodName)) hown (mvT hZ (hw _ (List.mem_of_getElem? (i := 23) rfl))) (mvT hZ (hw _ (List.mem_of_getElem? (i := 24) rfl))) (notFace_of_selects (args := #[]) (mvT hZ (hw _ (List.mem_of_getElem? (i := 26) rfl)))) (mvT hZ (hw _ (List.mem_of_getElem? (i := 26) rfl))) (mvT hZ (hw _ (List.mem_of_getElem? (i := 25) rfl))) (by decide) (backOf (W := 0) (rmwr l Z a0 hw [] b1 (own_size p0 p1) (own_size (own_sh p0) p2) T4.heap n0 (Nat.le_trans (Nat.le_trans Z0 E1.1) K4.1) Fx4 Fy4) hZ (hw _ (List.mem_of_getElem? (i := 27) rfl)) (hw _ (List.mem_of_getElem? (i := 2) rfl)) (by decide) (by decide)) q5a q5c (g := (mkF m 51 #[.val (.int p0), .val (.int p1), .val (.int p2), .val (.int p3), .val (.int (own_fin p0)), .val (.int (own_fin (own_sh p0))), .val (.ref b1), .unset, .unset, .unset] [(.ref b1)])) rfl (by rw [hml]; rfl) (Steps.refl _) (argsL := []) (rest := []) (lenOf pd_4 rfl) rfl (by show 2 * 0 + _ ≤ _; exact Nat.le_of_eq rfl) (hb hby at_51) (fun _ _ => ⟨rfl, rfl, (by decide : 1 + 0 ≤ _), (by decide : 2 + 0 ≤ _)⟩)
  dsimp only [Pt.U, Pt.locs, Pt.cells, Pt.slots] at X5 l5 y5 z5 st5 hQ5
  subst l5 y5 z5
  obtain ⟨rfl, N5q, eh5⟩ := hQ5
  have N5 := Fr.app N4 N5q
  rcases Bool.eq_false_or_eq_true (ifCond.holds .ne (own_wraps (own_size p0 p1) (own_size (own_sh p0) p2))) with hc80 | hc80
  · obtain ⟨fs, hr, hrun, hended, hW, hsame⟩ := X5.leave (v := some (.int (nar .boolean (1 : Int32)))) (fun h => by rw [Bd.returns] at h; cases h)
    refine ⟨_, _, pre0 _ ?_, hrun, hended, _, _, rfl, ?_, ⟨_, rfl⟩, hW, hsame.mono (by decide) (by decide)⟩
    · show Steps p.tables e below (s₁.setTop (mkF m 0 #[.val (.int p0), .val (.int p1), .val (.int p2), .val (.int p3), .unset, .unset, .unset, .unset, .unset, .unset] [])) _
      refine sg_0_0_11 X0 hx hZ hw hby hown ?_
      show Steps p.tables e below (s₁.setTop (mkF m 11 #[.val (.int p0), .val (.int p1), .val (.int p2), .val (.int p3), .unset, .unset, .unset, .unset, .unset, .unset] [(.int (own_fin p0))])) _
      refine XS.istore X0.here hx rfl (hb hby at_11) rfl (l' := #[.val (.int p0), .val (.int p1), .val (.int p2), .val (.int p3), .val (.int (own_fin p0)), .unset, .unset, .unset, .unset, .unset]) rfl ?_
      show Steps p.tables e below (s₁.setTop (mkF m 13 #[.val (.int p0), .val (.int p1), .val (.int p2), .val (.int p3), .val (.int (own_fin p0)), .unset, .unset, .unset, .unset, .unset] [])) _
      refine sg_0_13_26 X0 hx hZ hw hby hown ?_
      show Steps p.tables e below (s₁.setTop (mkF m 26 #[.val (.int p0), .val (.int p1), .val (.int p2), .val (.int p3), .val (.int (own_fin p0)), .unset, .unset, .unset, .unset, .unset] [(.int (own_fin (own_sh p0)))])) _
      refine XS.istore X0.here hx rfl (hb hby at_26) rfl (l' := #[.val (.int p0), .val (.int p1), .val (.int p2), .val (.int p3), .val (.int (own_fin p0)), .val (.int (own_fin (own_sh p0))), .unset, .unset, .unset, .unset]) rfl ?_
      show Steps p.tables e below (s₁.setTop (mkF m 28 #[.val (.int p0), .val (.int p1), .val (.int p2), .val (.int p3), .val (.int (own_fin p0)), .val (.int (own_fin (own_sh p0))), .unset, .unset, .unset, .unset] [])) _
      refine st1 _ ?_
      show Steps p.tables e below (T1.setTop (mkF m 31 #[.val (.int p0), .val (.int p1), .val (.int p2), .val (.int p3), .val (.int (own_fin p0)), .val (.int (own_fin (own_sh p0))), .unset, .unset, .unset, .unset] [(.ref b1)])) _
      refine XS.dup X1.here hx rfl (hb hby at_31) rfl rfl ?_
      show Steps p.tables e below (T1.setTop (mkF m 32 #[.val (.int p0), .val (.int p1), .val (.int p2), .val (.int p3), .val (.int (own_fin p0)), .val (.int (own_fin (own_sh p0))), .unset, .unset, .unset, .unset] [(.ref b1), (.ref b1)])) _
      refine XS.iloadN X1.here hx rfl (hb hby at_32) rfl ?_
      show Steps p.tables e below (T1.setTop (mkF m 33 #[.val (.int p0), .val (.int p1), .val (.int p2), .val (.int p3), .val (.int (own_fin p0)), .val (.int (own_fin (own_sh p0))), .unset, .unset, .unset, .unset] [(.int p0), (.ref b1), (.ref b1)])) _
      refine XS.iloadN X1.here hx rfl (hb hby at_33) rfl ?_
      show Steps p.tables e below (T1.setTop (mkF m 34 #[.val (.int p0), .val (.int p1), .val (.int p2), .val (.int p3), .val (.int (own_fin p0)), .val (.int (own_fin (own_sh p0))), .unset, .unset, .unset, .unset] [(.int p1), (.int p0), (.ref b1), (.ref b1)])) _
      refine st2 _ ?_
      show Steps p.tables e below (T2.setTop (mkF m 37 #[.val (.int p0), .val (.int p1), .val (.int p2), .val (.int p3), .val (.int (own_fin p0)), .val (.int (own_fin (own_sh p0))), .unset, .unset, .unset, .unset] [(.double (own_size p0 p1)), (.ref b1), (.ref b1)])) _
      refine XS.iloadN X2.here hx rfl (hb hby at_37) rfl ?_
      show Steps p.tables e below (T2.setTop (mkF m 38 #[.val (.int p0), .val (.int p1), .val (.int p2), .val (.int p3), .val (.int (own_fin p0)), .val (.int (own_fin (own_sh p0))), .unset, .unset, .unset, .unset] [(.int p0), (.double (own_size p0 p1)), (.ref b1), (.ref b1)])) _
      refine XS.iconst X2.here hx rfl (hb hby at_38) ?_
      show Steps p.tables e below (T2.setTop (mkF m 39 #[.val (.int p0), .val (.int p1), .val (.int p2), .val (.int p3), .val (.int (own_fin p0)), .val (.int (own_fin (own_sh p0))), .unset, .unset, .unset, .unset] [(.int (2 : Int32)), (.int p0), (.double (own_size p0 p1)), (.ref b1), (.ref b1)])) _
      refine XS.iushr X2.here hx rfl (hb hby at_39) rfl ?_
      show Steps p.tables e below (T2.setTop (mkF m 40 #[.val (.int p0), .val (.int p1), .val (.int p2), .val (.int p3), .val (.int (own_fin p0)), .val (.int (own_fin (own_sh p0))), .unset, .unset, .unset, .unset] [(.int ((p0.toUInt32 >>> ((2 : Int32) &&& 31).toUInt32).toInt32)), (.double (own_size p0 p1)), (.ref b1), (.ref b1)])) _
      refine XS.iloadN X2.here hx rfl (hb hby at_40) rfl ?_
      show Steps p.tables e below (T2.setTop (mkF m 41 #[.val (.int p0), .val (.int p1), .val (.int p2), .val (.int p3), .val (.int (own_fin p0)), .val (.int (own_fin (own_sh p0))), .unset, .unset, .unset, .unset] [(.int p2), (.int (own_sh p0)), (.double (own_size p0 p1)), (.ref b1), (.ref b1)])) _
      refine st3 _ ?_
      show Steps p.tables e below (T3.setTop (mkF m 44 #[.val (.int p0), .val (.int p1), .val (.int p2), .val (.int p3), .val (.int (own_fin p0)), .val (.int (own_fin (own_sh p0))), .unset, .unset, .unset, .unset] [(.double (own_size (own_sh p0) p2)), (.double (own_size p0 p1)), (.ref b1), (.ref b1)])) _
      refine st4.trans ?_
      show Steps p.tables e below (T4.setTop (mkF m 47 #[.val (.int p0), .val (.int p1), .val (.int p2), .val (.int p3), .val (.int (own_fin p0)), .val (.int (own_fin (own_sh p0))), .unset, .unset, .unset, .unset] [(.ref b1)])) _
      refine XS.astore X4.here hx rfl (hb hby at_47) rfl rfl (l' := #[.val (.int p0), .val (.int p1), .val (.int p2), .val (.int p3), .val (.int (own_fin p0)), .val (.int (own_fin (own_sh p0))), .val (.ref b1), .unset, .unset, .unset]) rfl ?_
      show Steps p.tables e below (T4.setTop (mkF m 49 #[.val (.int p0), .val (.int p1), .val (.int p2), .val (.int p3), .val (.int (own_fin p0)), .val (.int (own_fin (own_sh p0))), .val (.ref b1), .unset, .unset, .unset] [])) _
      refine XS.aload X4.here hx rfl (hb hby at_49) rfl rfl ?_
      show Steps p.tables e below (T4.setTop (mkF m 51 #[.val (.int p0), .val (.int p1), .val (.int p2), .val (.int p3), .val (.int (own_fin p0)), .val (.int (own_fin (own_sh p0))), .val (.ref b1), .unset, .unset, .unset] [(.ref b1)])) _
      refine st5.trans ?_
      show Steps p.tables e below (T5.setTop (mkF m 54 #[.val (.int p0), .val (.int p1), .val (.int p2), .val (.int p3), .val (.int (own_fin p0)), .val (.int (own_fin (own_sh p0))), .val (.ref b1), .unset, .unset, .unset] [(.int (own_wraps (own_size p0 p1) (own_size (own_sh p0) p2)))])) _
      refine XS.istore X5.here hx rfl (hb hby at_54) rfl (l' := #[.val (.int p0), .val (.int p1), .val (.int p2), .val (.int p3), .val (.int (own_fin p0)), .val (.int (own_fin (own_sh p0))), .val (.ref b1), .val (.int (own_wraps (own_size p0 p1) (own_size (own_sh p0) p2))), .unset, .unset]) rfl ?_
      show Steps p.tables e below (T5.setTop (mkF m 56 #[.val (.int p0), .val (.int p1), .val (.int p2), .val (.int p3), .val (.int (own_fin p0)), .val (.int (own_fin (own_sh p0))), .val (.ref b1), .val (.int (own_wraps (own_size p0 p1) (own_size (own_sh p0) p2))), .unset, .unset] [])) _
      refine XS.iload X5.here hx rfl (hb hby at_56) rfl ?_
      show Steps p.tables e below (T5.setTop (mkF m 58 #[.val (.int p0), .val (.int p1), .val (.int p2), .val (.int p3), .val (.int (own_fin p0)), .val (.int (own_fin (own_sh p0))), .val (.ref b1), .val (.int (own_wraps (own_size p0 p1) (own_size (own_sh p0) p2))), .unset, .unset] [(.int (own_wraps (own_size p0 p1) (own_size (own_sh p0) p2)))])) _
      refine sg_0_58_73 X5 hx hZ hw hby hown ?_
      show Steps p.tables e below (T5.setTop (mkF m 73 #[.val (.int p0), .val (.int p1), .val (.int p2), .val (.int p3), .val (.int (own_fin p0)), .val (.int (own_fin (own_sh p0))), .val (.ref b1), .val (.int (own_wraps (own_size p0 p1) (own_size (own_sh p0) p2))), .unset, .unset] [(.int (own_want (own_fin p0) (own_fin (own_sh p0)))), (.int (own_wraps (own_size p0 p1) (own_size (own_sh p0) p2)))])) _
      refine XS.icmpYes X5.here hx rfl (pc0 := 73) (pc' := 78) rfl (hb hby at_73) rfl (own_law p0 p1 (own_sh p0) p2) (by decide) (by decide) ?_
      show Steps p.tables e below (T5.setTop (mkF m 78 #[.val (.int p0), .val (.int p1), .val (.int p2), .val (.int p3), .val (.int (own_fin p0)), .val (.int (own_fin (own_sh p0))), .val (.ref b1), .val (.int (own_wraps (own_size p0 p1) (own_size (own_sh p0) p2))), .unset, .unset] [])) _
      refine XS.iload X5.here hx rfl (hb hby at_78) rfl ?_
      show Steps p.tables e below (T5.setTop (mkF m 80 #[.val (.int p0), .val (.int p1), .val (.int p2), .val (.int p3), .val (.int (own_fin p0)), .val (.int (own_fin (own_sh p0))), .val (.ref b1), .val (.int (own_wraps (own_size p0 p1) (own_size (own_sh p0) p2))), .unset, .unset] [(.int (own_wraps (own_size p0 p1) (own_size (own_sh p0) p2)))])) _
      refine XS.ifYes X5.here hx rfl (pc0 := 80) (pc' := 119) rfl (hb hby at_80) rfl hc80 (by decide) (by decide) ?_
      show Steps p.tables e below (T5.setTop (mkF m 119 #[.val (.int p0), .val (.int p1), .val (.int p2), .val (.int p3), .val (.int (own_fin p0)), .val (.int (own_fin (own_sh p0))), .val (.ref b1), .val (.int (own_wraps (own_size p0 p1) (own_size (own_sh p0) p2))), .unset, .unset] [])) _
      refine XS.iconst X5.here hx rfl (hb hby at_119) ?_
      show Steps p.tables e below (T5.setTop (mkF m 120 #[.val (.int p0), .val (.int p1), .val (.int p2), .val (.int p3), .val (.int (own_fin p0)), .val (.int (own_fin (own_sh p0))), .val (.ref b1), .val (.int (own_wraps (own_size p0 p1) (own_size (own_sh p0) p2))), .unset, .unset] [(.int (1 : Int32))])) _
      exact retN X5 hx (t := .boolean) Bd.returns (by simp) (hb hby at_120) hr
    · show Q0 Z p0 p1 p2 p3 h0 n0 _ T5.heap _
      rw [eh5]
      exact ⟨rfl, N5⟩
  · obtain ⟨cq6, kq6, q6a, q6b, q6c⟩ := isOf hZ eh5 Ea4
    obtain ⟨_, _, ⟨T6, L6, k6, n6⟩, -, X6, ⟨Lc6, hQ6, l6, y6, z6⟩, st6⟩ := X5.virtualBack hx (y := (⟨"com/example/caravane/caravane/world/Ground", "wrapX", "(D)D"⟩ : MethodName)) (z := (⟨"com/example/caravane/caravane/world/Ground", "wrapX", "(D)D"⟩ : MethodName)) hown (mvT hZ (hw _ (List.mem_of_getElem? (i := 29) rfl))) (mvT hZ (hw _ (List.mem_of_getElem? (i := 30) rfl))) (notFace_of_selects (args := #[]) (mvT hZ (hw _ (List.mem_of_getElem? (i := 32) rfl)))) (mvT hZ (hw _ (List.mem_of_getElem? (i := 32) rfl))) (mvT hZ (hw _ (List.mem_of_getElem? (i := 31) rfl))) (by decide) (backOf (W := 0) (rmwrapX l Z a0 hw [] b1 (FP.i2d p3) T4.heap n0 (Nat.le_trans (Nat.le_trans Z0 E1.1) K4.1) (by rw [← (own_inf hc80).1]; exact Fx4)) hZ (hw _ (List.mem_of_getElem? (i := 33) rfl)) (hw _ (List.mem_of_getElem? (i := 2) rfl)) (by decide) (by decide)) q6a q6c (g := (mkF m 91 #[.val (.int p0), .val (.int p1), .val (.int p2), .val (.int p3), .val (.int (own_fin p0)), .val (.int (own_fin (own_sh p0))), .val (.ref b1), .val (.int (own_wraps (own_size p0 p1) (own_size (own_sh p0) p2))), .val (.double (FP.i2d p3)), .second] [(.double (FP.i2d p3)), (.ref b1)])) rfl (by rw [hml]; rfl) (Steps.refl _) (argsL := [(.double (FP.i2d p3))]) (rest := []) (lenOf pd_5 rfl) rfl (by show 2 * 0 + _ ≤ _; exact Nat.le_of_eq rfl) (hb hby at_91) (fun _ _ => ⟨rfl, eh5, (by decide : 1 + 0 ≤ _), (by decide : 2 + 0 ≤ _)⟩)
    dsimp only [Pt.U, Pt.locs, Pt.cells, Pt.slots] at X6 l6 y6 z6 st6 hQ6
    subst l6 y6 z6
    obtain ⟨rfl, N6q, eh6⟩ := hQ6
    have N6 := Fr.app N5 N6q
    obtain ⟨cq7, kq7, q7a, q7b, q7c⟩ := isOf hZ eh6 Ea4
    obtain ⟨_, _, ⟨T7, L7, k7, n7⟩, -, X7, ⟨Lc7, hQ7, l7, y7, z7⟩, st7⟩ := X6.virtualBack hx (y := (⟨"com/example/caravane/caravane/world/Ground", "wrapY", "(D)D"⟩ : MethodName)) (z := (⟨"com/example/caravane/caravane/world/Ground", "wrapY", "(D)D"⟩ : MethodName)) hown (mvT hZ (hw _ (List.mem_of_getElem? (i := 37) rfl))) (mvT hZ (hw _ (List.mem_of_getElem? (i := 38) rfl))) (notFace_of_selects (args := #[]) (mvT hZ (hw _ (List.mem_of_getElem? (i := 40) rfl)))) (mvT hZ (hw _ (List.mem_of_getElem? (i := 40) rfl))) (mvT hZ (hw _ (List.mem_of_getElem? (i := 39) rfl))) (by decide) (backOf (W := 0) (rmwrapY l Z a0 hw [] b1 (FP.i2d p3) T4.heap n0 (Nat.le_trans (Nat.le_trans Z0 E1.1) K4.1) (by rw [← (own_inf hc80).2]; exact Fy4)) hZ (hw _ (List.mem_of_getElem? (i := 41) rfl)) (hw _ (List.mem_of_getElem? (i := 2) rfl)) (by decide) (by decide)) q7a q7c (g := (mkF m 104 #[.val (.int p0), .val (.int p1), .val (.int p2), .val (.int p3), .val (.int (own_fin p0)), .val (.int (own_fin (own_sh p0))), .val (.ref b1), .val (.int (own_wraps (own_size p0 p1) (own_size (own_sh p0) p2))), .val (.double (FP.i2d p3)), .second] [(.double (FP.i2d p3)), (.ref b1)])) rfl (by rw [hml]; rfl) (Steps.refl _) (argsL := [(.double (FP.i2d p3))]) (rest := []) (lenOf pd_5 rfl) rfl (by show 2 * 0 + _ ≤ _; exact Nat.le_of_eq rfl) (hb hby at_104) (fun _ _ => ⟨rfl, eh6, (by decide : 1 + 0 ≤ _), (by decide : 2 + 0 ≤ _)⟩)
    dsimp only [Pt.U, Pt.locs, Pt.cells, Pt.slots] at X7 l7 y7 z7 st7 hQ7
    subst l7 y7 z7
    obtain ⟨rfl, N7q, eh7⟩ := hQ7
    have N7 := Fr.app N6 N7q
    obtain ⟨fs, hr, hrun, hended, hW, hsame⟩ := X7.leave (v := some (.int (nar .boolean (1 : Int32)))) (fun h => by rw [Bd.returns] at h; cases h)
    refine ⟨_, _, pre0 _ ?_, hrun, hended, _, _, rfl, ?_, ⟨_, rfl⟩, hW, hsame.mono (by decide) (by decide)⟩
    · show Steps p.tables e below (s₁.setTop (mkF m 0 #[.val (.int p0), .val (.int p1), .val (.int p2), .val (.int p3), .unset, .unset, .unset, .unset, .unset, .unset] [])) _
      refine sg_0_0_11 X0 hx hZ hw hby hown ?_
      show Steps p.tables e below (s₁.setTop (mkF m 11 #[.val (.int p0), .val (.int p1), .val (.int p2), .val (.int p3), .unset, .unset, .unset, .unset, .unset, .unset] [(.int (own_fin p0))])) _
      refine XS.istore X0.here hx rfl (hb hby at_11) rfl (l' := #[.val (.int p0), .val (.int p1), .val (.int p2), .val (.int p3), .val (.int (own_fin p0)), .unset, .unset, .unset, .unset, .unset]) rfl ?_
      show Steps p.tables e below (s₁.setTop (mkF m 13 #[.val (.int p0), .val (.int p1), .val (.int p2), .val (.int p3), .val (.int (own_fin p0)), .unset, .unset, .unset, .unset, .unset] [])) _
      refine sg_0_13_26 X0 hx hZ hw hby hown ?_
      show Steps p.tables e below (s₁.setTop (mkF m 26 #[.val (.int p0), .val (.int p1), .val (.int p2), .val (.int p3), .val (.int (own_fin p0)), .unset, .unset, .unset, .unset, .unset] [(.int (own_fin (own_sh p0)))])) _
      refine XS.istore X0.here hx rfl (hb hby at_26) rfl (l' := #[.val (.int p0), .val (.int p1), .val (.int p2), .val (.int p3), .val (.int (own_fin p0)), .val (.int (own_fin (own_sh p0))), .unset, .unset, .unset, .unset]) rfl ?_
      show Steps p.tables e below (s₁.setTop (mkF m 28 #[.val (.int p0), .val (.int p1), .val (.int p2), .val (.int p3), .val (.int (own_fin p0)), .val (.int (own_fin (own_sh p0))), .unset, .unset, .unset, .unset] [])) _
      refine st1 _ ?_
      show Steps p.tables e below (T1.setTop (mkF m 31 #[.val (.int p0), .val (.int p1), .val (.int p2), .val (.int p3), .val (.int (own_fin p0)), .val (.int (own_fin (own_sh p0))), .unset, .unset, .unset, .unset] [(.ref b1)])) _
      refine XS.dup X1.here hx rfl (hb hby at_31) rfl rfl ?_
      show Steps p.tables e below (T1.setTop (mkF m 32 #[.val (.int p0), .val (.int p1), .val (.int p2), .val (.int p3), .val (.int (own_fin p0)), .val (.int (own_fin (own_sh p0))), .unset, .unset, .unset, .unset] [(.ref b1), (.ref b1)])) _
      refine XS.iloadN X1.here hx rfl (hb hby at_32) rfl ?_
      show Steps p.tables e below (T1.setTop (mkF m 33 #[.val (.int p0), .val (.int p1), .val (.int p2), .val (.int p3), .val (.int (own_fin p0)), .val (.int (own_fin (own_sh p0))), .unset, .unset, .unset, .unset] [(.int p0), (.ref b1), (.ref b1)])) _
      refine XS.iloadN X1.here hx rfl (hb hby at_33) rfl ?_
      show Steps p.tables e below (T1.setTop (mkF m 34 #[.val (.int p0), .val (.int p1), .val (.int p2), .val (.int p3), .val (.int (own_fin p0)), .val (.int (own_fin (own_sh p0))), .unset, .unset, .unset, .unset] [(.int p1), (.int p0), (.ref b1), (.ref b1)])) _
      refine st2 _ ?_
      show Steps p.tables e below (T2.setTop (mkF m 37 #[.val (.int p0), .val (.int p1), .val (.int p2), .val (.int p3), .val (.int (own_fin p0)), .val (.int (own_fin (own_sh p0))), .unset, .unset, .unset, .unset] [(.double (own_size p0 p1)), (.ref b1), (.ref b1)])) _
      refine XS.iloadN X2.here hx rfl (hb hby at_37) rfl ?_
      show Steps p.tables e below (T2.setTop (mkF m 38 #[.val (.int p0), .val (.int p1), .val (.int p2), .val (.int p3), .val (.int (own_fin p0)), .val (.int (own_fin (own_sh p0))), .unset, .unset, .unset, .unset] [(.int p0), (.double (own_size p0 p1)), (.ref b1), (.ref b1)])) _
      refine XS.iconst X2.here hx rfl (hb hby at_38) ?_
      show Steps p.tables e below (T2.setTop (mkF m 39 #[.val (.int p0), .val (.int p1), .val (.int p2), .val (.int p3), .val (.int (own_fin p0)), .val (.int (own_fin (own_sh p0))), .unset, .unset, .unset, .unset] [(.int (2 : Int32)), (.int p0), (.double (own_size p0 p1)), (.ref b1), (.ref b1)])) _
      refine XS.iushr X2.here hx rfl (hb hby at_39) rfl ?_
      show Steps p.tables e below (T2.setTop (mkF m 40 #[.val (.int p0), .val (.int p1), .val (.int p2), .val (.int p3), .val (.int (own_fin p0)), .val (.int (own_fin (own_sh p0))), .unset, .unset, .unset, .unset] [(.int ((p0.toUInt32 >>> ((2 : Int32) &&& 31).toUInt32).toInt32)), (.double (own_size p0 p1)), (.ref b1), (.ref b1)])) _
      refine XS.iloadN X2.here hx rfl (hb hby at_40) rfl ?_
      show Steps p.tables e below (T2.setTop (mkF m 41 #[.val (.int p0), .val (.int p1), .val (.int p2), .val (.int p3), .val (.int (own_fin p0)), .val (.int (own_fin (own_sh p0))), .unset, .unset, .unset, .unset] [(.int p2), (.int (own_sh p0)), (.double (own_size p0 p1)), (.ref b1), (.ref b1)])) _
      refine st3 _ ?_
      show Steps p.tables e below (T3.setTop (mkF m 44 #[.val (.int p0), .val (.int p1), .val (.int p2), .val (.int p3), .val (.int (own_fin p0)), .val (.int (own_fin (own_sh p0))), .unset, .unset, .unset, .unset] [(.double (own_size (own_sh p0) p2)), (.double (own_size p0 p1)), (.ref b1), (.ref b1)])) _
      refine st4.trans ?_
      show Steps p.tables e below (T4.setTop (mkF m 47 #[.val (.int p0), .val (.int p1), .val (.int p2), .val (.int p3), .val (.int (own_fin p0)), .val (.int (own_fin (own_sh p0))), .unset, .unset, .unset, .unset] [(.ref b1)])) _
      refine XS.astore X4.here hx rfl (hb hby at_47) rfl rfl (l' := #[.val (.int p0), .val (.int p1), .val (.int p2), .val (.int p3), .val (.int (own_fin p0)), .val (.int (own_fin (own_sh p0))), .val (.ref b1), .unset, .unset, .unset]) rfl ?_
      show Steps p.tables e below (T4.setTop (mkF m 49 #[.val (.int p0), .val (.int p1), .val (.int p2), .val (.int p3), .val (.int (own_fin p0)), .val (.int (own_fin (own_sh p0))), .val (.ref b1), .unset, .unset, .unset] [])) _
      refine XS.aload X4.here hx rfl (hb hby at_49) rfl rfl ?_
      show Steps p.tables e below (T4.setTop (mkF m 51 #[.val (.int p0), .val (.int p1), .val (.int p2), .val (.int p3), .val (.int (own_fin p0)), .val (.int (own_fin (own_sh p0))), .val (.ref b1), .unset, .unset, .unset] [(.ref b1)])) _
      refine st5.trans ?_
      show Steps p.tables e below (T5.setTop (mkF m 54 #[.val (.int p0), .val (.int p1), .val (.int p2), .val (.int p3), .val (.int (own_fin p0)), .val (.int (own_fin (own_sh p0))), .val (.ref b1), .unset, .unset, .unset] [(.int (own_wraps (own_size p0 p1) (own_size (own_sh p0) p2)))])) _
      refine XS.istore X5.here hx rfl (hb hby at_54) rfl (l' := #[.val (.int p0), .val (.int p1), .val (.int p2), .val (.int p3), .val (.int (own_fin p0)), .val (.int (own_fin (own_sh p0))), .val (.ref b1), .val (.int (own_wraps (own_size p0 p1) (own_size (own_sh p0) p2))), .unset, .unset]) rfl ?_
      show Steps p.tables e below (T5.setTop (mkF m 56 #[.val (.int p0), .val (.int p1), .val (.int p2), .val (.int p3), .val (.int (own_fin p0)), .val (.int (own_fin (own_sh p0))), .val (.ref b1), .val (.int (own_wraps (own_size p0 p1) (own_size (own_sh p0) p2))), .unset, .unset] [])) _
      refine XS.iload X5.here hx rfl (hb hby at_56) rfl ?_
      show Steps p.tables e below (T5.setTop (mkF m 58 #[.val (.int p0), .val (.int p1), .val (.int p2), .val (.int p3), .val (.int (own_fin p0)), .val (.int (own_fin (own_sh p0))), .val (.ref b1), .val (.int (own_wraps (own_size p0 p1) (own_size (own_sh p0) p2))), .unset, .unset] [(.int (own_wraps (own_size p0 p1) (own_size (own_sh p0) p2)))])) _
      refine sg_0_58_73 X5 hx hZ hw hby hown ?_
      show Steps p.tables e below (T5.setTop (mkF m 73 #[.val (.int p0), .val (.int p1), .val (.int p2), .val (.int p3), .val (.int (own_fin p0)), .val (.int (own_fin (own_sh p0))), .val (.ref b1), .val (.int (own_wraps (own_size p0 p1) (own_size (own_sh p0) p2))), .unset, .unset] [(.int (own_want (own_fin p0) (own_fin (own_sh p0)))), (.int (own_wraps (own_size p0 p1) (own_size (own_sh p0) p2)))])) _
      refine XS.icmpYes X5.here hx rfl (pc0 := 73) (pc' := 78) rfl (hb hby at_73) rfl (own_law p0 p1 (own_sh p0) p2) (by decide) (by decide) ?_
      show Steps p.tables e below (T5.setTop (mkF m 78 #[.val (.int p0), .val (.int p1), .val (.int p2), .val (.int p3), .val (.int (own_fin p0)), .val (.int (own_fin (own_sh p0))), .val (.ref b1), .val (.int (own_wraps (own_size p0 p1) (own_size (own_sh p0) p2))), .unset, .unset] [])) _
      refine XS.iload X5.here hx rfl (hb hby at_78) rfl ?_
      show Steps p.tables e below (T5.setTop (mkF m 80 #[.val (.int p0), .val (.int p1), .val (.int p2), .val (.int p3), .val (.int (own_fin p0)), .val (.int (own_fin (own_sh p0))), .val (.ref b1), .val (.int (own_wraps (own_size p0 p1) (own_size (own_sh p0) p2))), .unset, .unset] [(.int (own_wraps (own_size p0 p1) (own_size (own_sh p0) p2)))])) _
      refine XS.ifNo X5.here hx rfl (hb hby at_80) rfl hc80 ?_
      show Steps p.tables e below (T5.setTop (mkF m 83 #[.val (.int p0), .val (.int p1), .val (.int p2), .val (.int p3), .val (.int (own_fin p0)), .val (.int (own_fin (own_sh p0))), .val (.ref b1), .val (.int (own_wraps (own_size p0 p1) (own_size (own_sh p0) p2))), .unset, .unset] [])) _
      refine XS.iloadN X5.here hx rfl (hb hby at_83) rfl ?_
      show Steps p.tables e below (T5.setTop (mkF m 84 #[.val (.int p0), .val (.int p1), .val (.int p2), .val (.int p3), .val (.int (own_fin p0)), .val (.int (own_fin (own_sh p0))), .val (.ref b1), .val (.int (own_wraps (own_size p0 p1) (own_size (own_sh p0) p2))), .unset, .unset] [(.int p3)])) _
      refine XS.i2dS X5.here hx rfl (hb hby at_84) rfl rfl ?_
      show Steps p.tables e below (T5.setTop (mkF m 85 #[.val (.int p0), .val (.int p1), .val (.int p2), .val (.int p3), .val (.int (own_fin p0)), .val (.int (own_fin (own_sh p0))), .val (.ref b1), .val (.int (own_wraps (own_size p0 p1) (own_size (own_sh p0) p2))), .unset, .unset] [(.double (FP.i2d p3))])) _
      refine XS.dstore X5.here hx rfl (hb hby at_85) rfl (l' := #[.val (.int p0), .val (.int p1), .val (.int p2), .val (.int p3), .val (.int (own_fin p0)), .val (.int (own_fin (own_sh p0))), .val (.ref b1), .val (.int (own_wraps (own_size p0 p1) (own_size (own_sh p0) p2))), .val (.double (FP.i2d p3)), .second]) rfl ?_
      show Steps p.tables e below (T5.setTop (mkF m 87 #[.val (.int p0), .val (.int p1), .val (.int p2), .val (.int p3), .val (.int (own_fin p0)), .val (.int (own_fin (own_sh p0))), .val (.ref b1), .val (.int (own_wraps (own_size p0 p1) (own_size (own_sh p0) p2))), .val (.double (FP.i2d p3)), .second] [])) _
      refine XS.aload X5.here hx rfl (hb hby at_87) rfl rfl ?_
      show Steps p.tables e below (T5.setTop (mkF m 89 #[.val (.int p0), .val (.int p1), .val (.int p2), .val (.int p3), .val (.int (own_fin p0)), .val (.int (own_fin (own_sh p0))), .val (.ref b1), .val (.int (own_wraps (own_size p0 p1) (own_size (own_sh p0) p2))), .val (.double (FP.i2d p3)), .second] [(.ref b1)])) _
      refine XS.dload X5.here hx rfl (hb hby at_89) rfl ?_
      show Steps p.tables e below (T5.setTop (mkF m 91 #[.val (.int p0), .val (.int p1), .val (.int p2), .val (.int p3), .val (.int (own_fin p0)), .val (.int (own_fin (own_sh p0))), .val (.ref b1), .val (.int (own_wraps (own_size p0 p1) (own_size (own_sh p0) p2))), .val (.double (FP.i2d p3)), .second] [(.double (FP.i2d p3)), (.ref b1)])) _
      refine st6.trans ?_
      show Steps p.tables e below (T6.setTop (mkF m 94 #[.val (.int p0), .val (.int p1), .val (.int p2), .val (.int p3), .val (.int (own_fin p0)), .val (.int (own_fin (own_sh p0))), .val (.ref b1), .val (.int (own_wraps (own_size p0 p1) (own_size (own_sh p0) p2))), .val (.double (FP.i2d p3)), .second] [(.double (FP.i2d p3))])) _
      refine XS.dload X6.here hx rfl (hb hby at_94) rfl ?_
      show Steps p.tables e below (T6.setTop (mkF m 96 #[.val (.int p0), .val (.int p1), .val (.int p2), .val (.int p3), .val (.int (own_fin p0)), .val (.int (own_fin (own_sh p0))), .val (.ref b1), .val (.int (own_wraps (own_size p0 p1) (own_size (own_sh p0) p2))), .val (.double (FP.i2d p3)), .second] [(.double (FP.i2d p3)), (.double (FP.i2d p3))])) _
      refine XS.dcmpS X6.here hx rfl (hb hby at_96) rfl rfl ?_
      show Steps p.tables e below (T6.setTop (mkF m 97 #[.val (.int p0), .val (.int p1), .val (.int p2), .val (.int p3), .val (.int (own_fin p0)), .val (.int (own_fin (own_sh p0))), .val (.ref b1), .val (.int (own_wraps (own_size p0 p1) (own_size (own_sh p0) p2))), .val (.double (FP.i2d p3)), .second] [(.int (cmpValue (FP.dcmp (FP.i2d p3) (FP.i2d p3)) .l))])) _
      refine XS.ifNo X6.here hx rfl (hb hby at_97) rfl (by rw [dcmpV_self (Fl.i2d_fin p3).noNaN]; rfl) ?_
      show Steps p.tables e below (T6.setTop (mkF m 100 #[.val (.int p0), .val (.int p1), .val (.int p2), .val (.int p3), .val (.int (own_fin p0)), .val (.int (own_fin (own_sh p0))), .val (.ref b1), .val (.int (own_wraps (own_size p0 p1) (own_size (own_sh p0) p2))), .val (.double (FP.i2d p3)), .second] [])) _
      refine XS.aload X6.here hx rfl (hb hby at_100) rfl rfl ?_
      show Steps p.tables e below (T6.setTop (mkF m 102 #[.val (.int p0), .val (.int p1), .val (.int p2), .val (.int p3), .val (.int (own_fin p0)), .val (.int (own_fin (own_sh p0))), .val (.ref b1), .val (.int (own_wraps (own_size p0 p1) (own_size (own_sh p0) p2))), .val (.double (FP.i2d p3)), .second] [(.ref b1)])) _
      refine XS.dload X6.here hx rfl (hb hby at_102) rfl ?_
      show Steps p.tables e below (T6.setTop (mkF m 104 #[.val (.int p0), .val (.int p1), .val (.int p2), .val (.int p3), .val (.int (own_fin p0)), .val (.int (own_fin (own_sh p0))), .val (.ref b1), .val (.int (own_wraps (own_size p0 p1) (own_size (own_sh p0) p2))), .val (.double (FP.i2d p3)), .second] [(.double (FP.i2d p3)), (.ref b1)])) _
      refine st7.trans ?_
      show Steps p.tables e below (T7.setTop (mkF m 107 #[.val (.int p0), .val (.int p1), .val (.int p2), .val (.int p3), .val (.int (own_fin p0)), .val (.int (own_fin (own_sh p0))), .val (.ref b1), .val (.int (own_wraps (own_size p0 p1) (own_size (own_sh p0) p2))), .val (.double (FP.i2d p3)), .second] [(.double (FP.i2d p3))])) _
      refine XS.dload X7.here hx rfl (hb hby at_107) rfl ?_
      show Steps p.tables e below (T7.setTop (mkF m 109 #[.val (.int p0), .val (.int p1), .val (.int p2), .val (.int p3), .val (.int (own_fin p0)), .val (.int (own_fin (own_sh p0))), .val (.ref b1), .val (.int (own_wraps (own_size p0 p1) (own_size (own_sh p0) p2))), .val (.double (FP.i2d p3)), .second] [(.double (FP.i2d p3)), (.double (FP.i2d p3))])) _
      refine XS.dcmpS X7.here hx rfl (hb hby at_109) rfl rfl ?_
      show Steps p.tables e below (T7.setTop (mkF m 110 #[.val (.int p0), .val (.int p1), .val (.int p2), .val (.int p3), .val (.int (own_fin p0)), .val (.int (own_fin (own_sh p0))), .val (.ref b1), .val (.int (own_wraps (own_size p0 p1) (own_size (own_sh p0) p2))), .val (.double (FP.i2d p3)), .second] [(.int (cmpValue (FP.dcmp (FP.i2d p3) (FP.i2d p3)) .l))])) _
      refine XS.ifNo X7.here hx rfl (hb hby at_110) rfl (by rw [dcmpV_self (Fl.i2d_fin p3).noNaN]; rfl) ?_
      show Steps p.tables e below (T7.setTop (mkF m 113 #[.val (.int p0), .val (.int p1), .val (.int p2), .val (.int p3), .val (.int (own_fin p0)), .val (.int (own_fin (own_sh p0))), .val (.ref b1), .val (.int (own_wraps (own_size p0 p1) (own_size (own_sh p0) p2))), .val (.double (FP.i2d p3)), .second] [])) _
      refine XS.iconst X7.here hx rfl (hb hby at_113) ?_
      show Steps p.tables e below (T7.setTop (mkF m 114 #[.val (.int p0), .val (.int p1), .val (.int p2), .val (.int p3), .val (.int (own_fin p0)), .val (.int (own_fin (own_sh p0))), .val (.ref b1), .val (.int (own_wraps (own_size p0 p1) (own_size (own_sh p0) p2))), .val (.double (FP.i2d p3)), .second] [(.int (1 : Int32))])) _
      refine XS.goto X7.here hx rfl (pc0 := 114) (pc' := 118) rfl (hb hby at_114) (by decide) (by decide) ?_
      show Steps p.tables e below (T7.setTop (mkF m 118 #[.val (.int p0), .val (.int p1), .val (.int p2), .val (.int p3), .val (.int (own_fin p0)), .val (.int (own_fin (own_sh p0))), .val (.ref b1), .val (.int (own_wraps (own_size p0 p1) (own_size (own_sh p0) p2))), .val (.double (FP.i2d p3)), .second] [(.int (1 : Int32))])) _
      exact retN X7 hx (t := .boolean) Bd.returns (by simp) (hb hby at_118) hr
    · show Q0 Z p0 p1 p2 p3 h0 n0 _ T7.heap _
      rw [eh7]
      exact ⟨rfl, N7⟩
set_option maxRecDepth 65536 in
set_option maxHeartbeats 40000000 in
theorem comes_1 {Post : Tables → Env → Array Value → State → Outcome → State → Prop} (hpost : ∀ tb e args s v u, (limb_1_1.after args s (.returned v) u = true ∧ limb_1_2.after args s (.returned v) u = true ∧ True) → FrameEnd s (.returned v) u (Jvm.fieldLocs frame_1_writes args s ++ Jvm.arrayLocs frame_1_arrays args s ++ Jvm.staticLocs frame_1_statics s) 16 128 → Post tb e args s (.returned v) u) :
    ArmFor flags0 classFile x code maxLocals ret World_1 tables_1 room_1 Calls_1 rest_1 Pre_1 Post := by
  intro l hfl _ _ p e ha hc hk s m args below hf hA hF happ hP
  obtain ⟨hcalls, hrest, hpre⟩ := hP
  obtain ⟨-, -, -, hnamed, -, -, -, hat⟩ := (Spec.applies_iff hf).mp happ
  obtain ⟨hg, hn⟩ := and_e (Cond.before_iff.mp (show (Jvm.Cond.and given_1 narrow_1).before args s = true from hpre))
  obtain ⟨hcount, hg0⟩ := and_e hg
  obtain ⟨ha0, hg1⟩ := and_e hg0
  obtain ⟨ha1, hg2⟩ := and_e hg1
  obtain ⟨ha2, hg3⟩ := and_e hg2
  have ha3 := hg3
  obtain ⟨w0, w1, w2, w3, rfl⟩ : ∃ w0 w1 w2 w3 : Value, args = #[w0, w1, w2, w3] := by
    have hs : args.size = 4 := by simpa [Cond.value, given_1] using hcount
    obtain ⟨L⟩ := args
    match L, hs with
    | [w0, w1, w2, w3], _ => exact ⟨w0, w1, w2, w3, rfl⟩
  have hw := fun d (hd : d ∈ tables_1) => atoms_spec (ws := Jvm.Cond.code x code maxLocals ret :: tables_1) hat d (List.mem_cons_of_mem _ hd)
  have hfit : Fit s := fun {y c} hc i hi => by
    obtain ⟨ha, rfl⟩ := Array.getElem?_eq_some_iff.mp hc
    have q := List.all_eq_true.mp ((Array.all_eq_true_iff_forall_mem.mp hF) _ (Array.getElem_mem ha)) i (List.mem_range.mpr hi)
    simpa [Array.getElem?_eq_getElem hi] using q
  obtain ⟨i0, ei0⟩ := is_v ha0
  obtain rfl : w0 = (.int i0) := Option.some.inj ei0
  obtain ⟨i1, ei1⟩ := is_v ha1
  obtain rfl : w1 = (.int i1) := Option.some.inj ei1
  obtain ⟨i2, ei2⟩ := is_v ha2
  obtain rfl : w2 = (.int i2) := Option.some.inj ei2
  obtain ⟨i3, ei3⟩ := is_v ha3
  obtain rfl : w3 = (.int i3) := Option.some.inj ei3
  obtain ⟨n, o, h1, h2, h3, _, L, rfl, ⟨rfl, N⟩, hq⟩ := rm0 l s _ hw tables_1 i0 i1 i2 i3 s.heap s.heap.size (Nat.le_refl _) p e ha hc hk s m _ below hf ((Spec.applies_iff_loose hf).mp happ).1 ⟨rfl, State.Warmed39.refl s, rfl⟩ trivial
  refine ⟨n, _, h1, h2, h3, hpost _ _ _ _ _ _ ⟨Cond.after_iff.mpr rfl, Cond.after_iff.mpr (eq_i res_at (Term.int_eval (1)) rfl), trivial⟩ ⟨hq.1, hq.2.1, (hq.2.2.sift fun y hy => Or.inr (N y hy)).mono (by decide) (by decide)⟩⟩
theorem main_1_1 : Claimed_1_1 := comes_1 fun _ _ _ _ _ _ h hF => ⟨h.1, hF⟩
theorem main_1_2 : Claimed_1_2 := comes_1 fun _ _ _ _ _ _ h hF => ⟨h.2.1, hF⟩
end Jvm.Pilot.@@N@@
namespace Jvm.Pilot.@@N@@
open Jvm Jvm.ClassFile Sem Op Lib Jvm.Free Jvm.Stand Jvm.Pilot.@@N@@.Jvm.D
/-! MADE BY PROGRAM (witnessworld.py) out of the Statement's table words and the real class files: 10 classes; the members and pool entries that the words name. The judged class is class 1, her method 2. -/
namespace start1
open Jvm.ClassFile
def u (s : String) : CpInfo := .utf8 (stringToUtf16 s)
/-- a pool by its gaps: so many unusable entries, then the entry; so many at the end -/
def gap : Nat → List CpInfo → List CpInfo
  | 0, r => r
  | n + 1, r => .unusable :: gap n r
def poolList (es : List (Nat × CpInfo)) (last : Nat) : List CpInfo := es.foldr (fun e r => gap e.1 (e.2 :: r)) (gap last [])
def pool (es : List (Nat × CpInfo)) (last : Nat) : Array CpInfo := ⟨poolList es last⟩
def fileOf (pool : Array CpInfo) (this : Nat) (attrs : Array Attribute := #[]) (ms : Array MethodInfo := #[]) (fl : Nat := 33) (sup : Nat := 0) (ifs : Array Nat := #[]) (fds : Array FieldInfo := #[]) : ClassFile where
  minorVersion := 0
  majorVersion := 65
  constantPool := pool
  accessFlags := fl
  thisClass := this
  superClass := sup
  interfaces := ifs
  fields := fds
  methods := ms
  attributes := attrs
def plain (name : String) (sup : Option ClassId) : Class where
  name := name
  kind := .ordinary
  loader := none
  accessFlags := 33
  super := sup
  interfaces := #[]
  cf := none
  fields := #[]
  methods := #[]
  instanceTypes := #[]
  staticTypes := #[]
  resolved := #[]
  callSites := []
  init := .initialized
  statics := none
  mirror := none

def pool0 : Array CpInfo := pool [(5, u "<init>"), (0, u "()V"), (1, .class_ 10), (1, u "java/lang/Object")] 113

def k0c0 : Code := { maxStack := 0, maxLocals := 1, code := object_method_1_code, exceptionTable := #[], attributes := #[] }
def k0m0 : Method := { name := "<init>", desc := "()V", sig := { parameters := [], returnType := none }, accessFlags := 1, code := some k0c0 }
/-- java/lang/Object -/
def k0 : Class := { plain "java/lang/Object" none with
  accessFlags := 33
  interfaces := #[]
  cf := some (fileOf pool0 8 #[] #[{ accessFlags := 1, nameIndex := 5, descriptorIndex := 6, attributes := #[] }] 33 0 #[] #[])
  fields := #[]
  methods := #[k0m0]
  instanceTypes := #[]
  staticTypes := #[]
  resolved := Array.replicate 124 none
  statics := none }

def pool1 : Array CpInfo := pool [(2, .class_ 4), (1, u "java/lang/Object"), (0, u "<init>"), (0, u "()V"), (2, .double 9218868437227405312), (1, .double 9218868437227405311), (1, .double 1), (1, .integer 2147483647), (0, .class_ 17), (0, u "com/example/caravane/caravane/world/Ground"), (0, .methodref 19 20), (0, .class_ 21), (0, .nameAndType 22 23), (0, u "com/example/caravane/caravane/world/GroundWrapsPinLaw"), (0, u "size"), (0, u "(II)D"), (0, .methodref 16 25), (0, .nameAndType 5 26), (0, u "(DD)V"), (0, .methodref 16 28), (0, .nameAndType 29 30), (0, u "wraps"), (0, u "()Z"), (0, .methodref 16 32), (0, .nameAndType 33 34), (0, u "wrapX"), (0, u "(D)D"), (0, .methodref 16 36), (0, .nameAndType 37 34), (0, u "wrapY"), (3, u "law"), (0, u "(IIII)Z")] 2

def k1m0 : Method := { name := "<init>", desc := "()V", sig := { parameters := [], returnType := none }, accessFlags := 1, code := none }
def k1c1 : Code := { maxStack := 4, maxLocals := 3, code := method_2_code, exceptionTable := #[], attributes := #[] }
def k1m1 : Method := { name := "size", desc := "(II)D", sig := { parameters := [.int, .int], returnType := some .double }, accessFlags := 10, code := some k1c1 }
def k1c2 : Code := { maxStack := 6, maxLocals := 10, code := code, exceptionTable := #[], attributes := #[] }
def k1m2 : Method := { name := "law", desc := "(IIII)Z", sig := { parameters := [.int, .int, .int, .int], returnType := some .boolean }, accessFlags := 9, code := some k1c2 }
/-- com/example/caravane/caravane/world/GroundWrapsPinLaw -/
def k1 : Class := { plain "com/example/caravane/caravane/world/GroundWrapsPinLaw" (some 0) with
  accessFlags := 49
  interfaces := #[]
  cf := some (fileOf pool1 19 #[] #[{ accessFlags := 1, nameIndex := 5, descriptorIndex := 6, attributes := #[] }, { accessFlags := 10, nameIndex := 22, descriptorIndex := 23, attributes := #[] }, { accessFlags := 9, nameIndex := 41, descriptorIndex := 42, attributes := #[] }] 49 2 #[] #[])
  fields := #[]
  methods := #[k1m0, k1m1, k1m2]
  instanceTypes := #[]
  staticTypes := #[]
  resolved := Array.replicate 45 none
  statics := none }

def pool2 : Array CpInfo := pool [(1, .methodref 2 3), (0, .class_ 4), (0, .nameAndType 5 6), (0, u "java/lang/Object"), (0, u "<init>"), (0, u "()V"), (0, .class_ 8), (0, u "java/lang/Record")] 13

def k2c0 : Code := { maxStack := 1, maxLocals := 1, code := jdk_30_method_1_code, exceptionTable := #[], attributes := #[] }
def k2m0 : Method := { name := "<init>", desc := "()V", sig := { parameters := [], returnType := none }, accessFlags := 4, code := some k2c0 }
/-- java/lang/Record -/
def k2 : Class := { plain "java/lang/Record" (some 0) with
  accessFlags := 1057
  interfaces := #[]
  cf := some (fileOf pool2 7 #[] #[{ accessFlags := 4, nameIndex := 5, descriptorIndex := 6, attributes := #[] }] 1057 2 #[] #[])
  fields := #[]
  methods := #[k2m0]
  instanceTypes := #[]
  staticTypes := #[]
  resolved := Array.replicate 22 none
  statics := none }

def pool3 : Array CpInfo := pool [(1, .methodref 2 3), (0, .class_ 4), (0, .nameAndType 5 6), (0, u "java/lang/Record"), (0, u "<init>"), (0, u "()V"), (9, .fieldref 17 18), (0, .class_ 19), (0, .nameAndType 20 21), (0, u "com/example/caravane/caravane/world/Ground"), (0, u "width"), (0, u "D"), (0, .fieldref 17 23), (0, .nameAndType 24 21), (0, u "height"), (2, .double 9218868437227405312), (7, .methodref 17 36), (0, .nameAndType 37 38), (0, u "wrap"), (0, u "(DD)D"), (24, u "(D)D"), (16, u "(DD)V"), (2, u "PLANE"), (0, u "Lcom/example/caravane/caravane/world/Ground;"), (4, u "wraps"), (0, u "()Z"), (2, u "wrapX"), (0, u "wrapY")] 37

def k3c0 : Code := { maxStack := 6, maxLocals := 5, code := prog_84_method_1_code, exceptionTable := #[], attributes := #[] }
def k3m0 : Method := { name := "<init>", desc := "(DD)V", sig := { parameters := [.double, .double], returnType := none }, accessFlags := 1, code := some k3c0 }
def k3c1 : Code := { maxStack := 4, maxLocals := 1, code := prog_84_method_2_code, exceptionTable := #[], attributes := #[] }
def k3m1 : Method := { name := "wraps", desc := "()Z", sig := { parameters := [], returnType := some .boolean }, accessFlags := 1, code := some k3c1 }
def k3c2 : Code := { maxStack := 4, maxLocals := 3, code := prog_84_method_4_code, exceptionTable := #[], attributes := #[] }
def k3m2 : Method := { name := "wrapX", desc := "(D)D", sig := { parameters := [.double], returnType := some .double }, accessFlags := 1, code := some k3c2 }
def k3c3 : Code := { maxStack := 4, maxLocals := 3, code := prog_84_method_5_code, exceptionTable := #[], attributes := #[] }
def k3m3 : Method := { name := "wrapY", desc := "(D)D", sig := { parameters := [.double], returnType := some .double }, accessFlags := 1, code := some k3c3 }
def k3c4 : Code := { maxStack := 8, maxLocals := 6, code := prog_84_method_10_code, exceptionTable := #[], attributes := #[] }
def k3m4 : Method := { name := "wrap", desc := "(DD)D", sig := { parameters := [.double, .double], returnType := some .double }, accessFlags := 10, code := some k3c4 }
/-- com/example/caravane/caravane/world/Ground -/
def k3 : Class := { plain "com/example/caravane/caravane/world/Ground" (some 2) with
  accessFlags := 49
  interfaces := #[]
  cf := some (fileOf pool3 17 #[] #[{ accessFlags := 1, nameIndex := 5, descriptorIndex := 80, attributes := #[] }, { accessFlags := 1, nameIndex := 89, descriptorIndex := 90, attributes := #[] }, { accessFlags := 1, nameIndex := 93, descriptorIndex := 63, attributes := #[] }, { accessFlags := 1, nameIndex := 94, descriptorIndex := 63, attributes := #[] }, { accessFlags := 10, nameIndex := 37, descriptorIndex := 38, attributes := #[] }] 49 2 #[] #[{ accessFlags := 18, nameIndex := 20, descriptorIndex := 21, attributes := #[] }, { accessFlags := 18, nameIndex := 24, descriptorIndex := 21, attributes := #[] }, { accessFlags := 25, nameIndex := 83, descriptorIndex := 84, attributes := #[] }])
  fields := #[{ name := "width", type := .double, accessFlags := 18, slot := 0, constantValue := 0 }, { name := "height", type := .double, accessFlags := 18, slot := 1, constantValue := 0 }, { name := "PLANE", type := (.object "com/example/caravane/caravane/world/Ground"), accessFlags := 25, slot := 0, constantValue := 0 }]
  methods := #[k3m0, k3m1, k3m2, k3m3, k3m4]
  instanceTypes := #[.double, .double]
  staticTypes := #[(.object "com/example/caravane/caravane/world/Ground")]
  resolved := Array.replicate 132 none
  statics := none }

def pool4 : Array CpInfo := pool [(1, u "java/lang/Cloneable"), (0, .class_ 1), (0, u "java/lang/Object"), (0, .class_ 3)] 3

/-- java/lang/Cloneable -/
def k4 : Class := { plain "java/lang/Cloneable" (some 0) with
  accessFlags := 1537
  interfaces := #[]
  cf := some (fileOf pool4 2 #[] #[] 1537 4 #[] #[])
  fields := #[]
  methods := #[]
  instanceTypes := #[]
  staticTypes := #[]
  resolved := Array.replicate 8 none
  statics := none }

def pool5 : Array CpInfo := pool [(1, u "java/io/Serializable"), (0, .class_ 1), (0, u "java/lang/Object"), (0, .class_ 3)] 3

/-- java/io/Serializable -/
def k5 : Class := { plain "java/io/Serializable" (some 0) with
  accessFlags := 1537
  interfaces := #[]
  cf := some (fileOf pool5 2 #[] #[] 1537 4 #[] #[])
  fields := #[]
  methods := #[]
  instanceTypes := #[]
  staticTypes := #[]
  resolved := Array.replicate 8 none
  statics := none }

/-- the primitive byte -/
def k6 : Class := { plain "byte" none with kind := .primitive 'B', accessFlags := 0x411 }
/-- [B -/
def k7 : Class := { plain "[B" (some 0) with kind := .array 6 .byte, interfaces := #[4, 5], accessFlags := 1041 }

/-- the primitive int -/
def k8 : Class := { plain "int" none with kind := .primitive 'I', accessFlags := 0x411 }
/-- [I -/
def k9 : Class := { plain "[I" (some 0) with kind := .array 8 .int, interfaces := #[4, 5], accessFlags := 1041 }

def heap : Heap := #[]
def classes : Array Class := #[k0, k1, k2, k3, k4, k5, k6, k7, k8, k9]
def interned : List (Array UInt16 × Addr) := []
def slotsUsed : Nat := 0
def theMethod : MethodId := ⟨1, 2⟩
def args0 : Array Value := #[.int 5, .int 6, .int 7, .int 8]
def aboutOver (below : List Frame) : State where
  vm := { classes := classes, interned := interned.toArray }
  heap := heap
  slotsUsed := slotsUsed
  threads := #[{ frames := .invoking theMethod args0 :: below }]
def below0 : List Frame := [.native { method := ⟨0, 0⟩, args := #[] }]
def about1 : State := aboutOver below0
def p0 : Program := .bare "" "" ""
def e0 : Env := launch0.env 0 0 0
theorem w_frames : about1.frames = Frame.invoking theMethod args0 :: below0 := rfl
set_option maxRecDepth 65536 in
theorem w_args : argsFit about1.vm theMethod args0 = true := by decide +kernel
set_option maxRecDepth 65536 in
theorem w_heap : heapFits about1 = true := by decide +kernel
set_option maxRecDepth 65536 in
theorem w_runnable : about1.curStatus? = some .runnable := by decide +kernel
set_option maxRecDepth 65536 in
theorem w_alone : about1.alone = true := by decide +kernel
set_option maxRecDepth 65536 in
theorem w_named : about1.methodNamed? x = some theMethod := by decide +kernel
set_option maxRecDepth 65536 in
theorem w_hears : about1.hears theMethod below0 = true := by decide +kernel
set_option maxRecDepth 65536 in
theorem w_ripe : about1.ripe theMethod args0 below0 = true := by decide +kernel
theorem w_running : about1.status = .running := rfl
set_option maxRecDepth 65536 in
theorem w_room : about1.hasRoom e0.platform room_1 = true :=
  launch0.hasRoom_least _ room_1 (by decide +kernel) (by decide +kernel) (by decide +kernel) (by decide +kernel) (by decide +kernel) (by decide +kernel)
theorem allAtoms_all (ts : List Jvm.Cond) (a : Array Jvm.Value) (st : Jvm.State) : (allAtoms ts).before a st = ts.all (fun c => c.before a st) := by
  induction ts with
  | nil => rfl
  | cons c t ih =>
    show (Jvm.Cond.and c (allAtoms t)).before a st = _
    rw [Jvm.Cond.before_and, ih, List.all_cons]
def words1 : List Jvm.Cond := Jvm.Cond.code x code maxLocals ret :: tables_1
/-- a 'code' word, met by the world's own term for the bytes: nothing is compared byte by byte -/
theorem code_word {y : MethodName} {bytes : ByteArray} {mx : Nat} {rt : Option FieldType} {a : Array Value} {s : State} {m : MethodId} {meth : Method} {c : Code} (h1 : s.methodNamed? y = some m) (h2 : s.vm.method? m = some meth) (h3 : meth.code = some c) (h4 : c.code = bytes)
    (h5 : (c.maxLocals == mx && c.exceptionTable.isEmpty && decide (c.maxStack ≤ mostOperands) && decide (meth.sig.returnType = rt) && !meth.locks && decide (parseMethodDescriptor y.desc = some meth.sig)) = true) : (Jvm.Cond.code y bytes mx rt).before a s = true := by
  simp only [Bool.and_eq_true, beq_iff_eq, Bool.not_eq_true', decide_eq_true_eq] at h5
  obtain ⟨⟨⟨⟨⟨g1, g2⟩, g3⟩, g4⟩, g5⟩, g6⟩ := h5
  simp [Cond.before, Cond.holds, Cond.value, h1, h2, h3, h4, g1, g2, g3, g4, g5, g6]
def isCode : Jvm.Cond → Bool
  | .code _ _ _ _ => true
  | _ => false
theorem all_split {L : List Jvm.Cond} {P : Jvm.Cond → Bool} (h1 : L.all (fun c => isCode c || P c) = true) (h2 : ∀ c ∈ L.filter isCode, P c = true) : L.all P = true := by
  refine List.all_eq_true.mpr fun c hc => ?_
  have h := List.all_eq_true.mp h1 c hc
  rcases Bool.eq_false_or_eq_true (isCode c) with hi | hi
  · exact h2 c (List.mem_filter.mpr ⟨hc, hi⟩)
  · simpa [hi] using h
set_option maxRecDepth 65536 in
theorem w_c0 : (Jvm.Cond.code x code maxLocals ret).before args0 about1 = true := code_word (m := ⟨1, 2⟩) (meth := k1m2) (c := k1c2) (by decide +kernel) rfl rfl rfl (by decide +kernel)
set_option maxRecDepth 65536 in
theorem w_c1 : (Jvm.Cond.code ({ cls := "com/example/caravane/caravane/world/GroundWrapsPinLaw", name := "size", desc := "(II)D" } : Jvm.MethodName) method_2_code (3 : Nat) (Option.some Jvm.ClassFile.FieldType.double)).before args0 about1 = true := code_word (m := ⟨1, 1⟩) (meth := k1m1) (c := k1c1) (by decide +kernel) rfl rfl rfl (by decide +kernel)
set_option maxRecDepth 65536 in
theorem w_c2 : (Jvm.Cond.code ({ cls := "com/example/caravane/caravane/world/Ground", name := "<init>", desc := "(DD)V" } : Jvm.MethodName) prog_84_method_1_code (5 : Nat) (Option.none : Option Jvm.ClassFile.FieldType)).before args0 about1 = true := code_word (m := ⟨3, 0⟩) (meth := k3m0) (c := k3c0) (by decide +kernel) rfl rfl rfl (by decide +kernel)
set_option maxRecDepth 65536 in
theorem w_c3 : (Jvm.Cond.code ({ cls := "java/lang/Record", name := "<init>", desc := "()V" } : Jvm.MethodName) jdk_30_method_1_code (1 : Nat) (Option.none : Option Jvm.ClassFile.FieldType)).before args0 about1 = true := code_word (m := ⟨2, 0⟩) (meth := k2m0) (c := k2c0) (by decide +kernel) rfl rfl rfl (by decide +kernel)
set_option maxRecDepth 65536 in
theorem w_c4 : (Jvm.Cond.code ({ cls := "java/lang/Object", name := "<init>", desc := "()V" } : Jvm.MethodName) object_method_1_code (1 : Nat) (Option.none : Option Jvm.ClassFile.FieldType)).before args0 about1 = true := code_word (m := ⟨0, 0⟩) (meth := k0m0) (c := k0c0) (by decide +kernel) rfl rfl rfl (by decide +kernel)
set_option maxRecDepth 65536 in
theorem w_c5 : (Jvm.Cond.code ({ cls := "com/example/caravane/caravane/world/Ground", name := "wraps", desc := "()Z" } : Jvm.MethodName) prog_84_method_2_code (1 : Nat) (Option.some Jvm.ClassFile.FieldType.boolean)).before args0 about1 = true := code_word (m := ⟨3, 1⟩) (meth := k3m1) (c := k3c1) (by decide +kernel) rfl rfl rfl (by decide +kernel)
set_option maxRecDepth 65536 in
theorem w_c6 : (Jvm.Cond.code ({ cls := "com/example/caravane/caravane/world/Ground", name := "wrapX", desc := "(D)D" } : Jvm.MethodName) prog_84_method_4_code (3 : Nat) (Option.some Jvm.ClassFile.FieldType.double)).before args0 about1 = true := code_word (m := ⟨3, 2⟩) (meth := k3m2) (c := k3c2) (by decide +kernel) rfl rfl rfl (by decide +kernel)
set_option maxRecDepth 65536 in
theorem w_c7 : (Jvm.Cond.code ({ cls := "com/example/caravane/caravane/world/Ground", name := "wrap", desc := "(DD)D" } : Jvm.MethodName) prog_84_method_10_code (6 : Nat) (Option.some Jvm.ClassFile.FieldType.double)).before args0 about1 = true := code_word (m := ⟨3, 4⟩) (meth := k3m4) (c := k3c4) (by decide +kernel) rfl rfl rfl (by decide +kernel)
set_option maxRecDepth 65536 in
theorem w_c8 : (Jvm.Cond.code ({ cls := "com/example/caravane/caravane/world/Ground", name := "wrapY", desc := "(D)D" } : Jvm.MethodName) prog_84_method_5_code (3 : Nat) (Option.some Jvm.ClassFile.FieldType.double)).before args0 about1 = true := code_word (m := ⟨3, 3⟩) (meth := k3m3) (c := k3c3) (by decide +kernel) rfl rfl rfl (by decide +kernel)
def codes1 : List Jvm.Cond := [Jvm.Cond.code x code maxLocals ret, Jvm.Cond.code ({ cls := "com/example/caravane/caravane/world/GroundWrapsPinLaw", name := "size", desc := "(II)D" } : Jvm.MethodName) method_2_code (3 : Nat) (Option.some Jvm.ClassFile.FieldType.double), Jvm.Cond.code ({ cls := "com/example/caravane/caravane/world/Ground", name := "<init>", desc := "(DD)V" } : Jvm.MethodName) prog_84_method_1_code (5 : Nat) (Option.none : Option Jvm.ClassFile.FieldType), Jvm.Cond.code ({ cls := "java/lang/Record", name := "<init>", desc := "()V" } : Jvm.MethodName) jdk_30_method_1_code (1 : Nat) (Option.none : Option Jvm.ClassFile.FieldType), Jvm.Cond.code ({ cls := "java/lang/Object", name := "<init>", desc := "()V" } : Jvm.MethodName) object_method_1_code (1 : Nat) (Option.none : Option Jvm.ClassFile.FieldType), Jvm.Cond.code ({ cls := "com/example/caravane/caravane/world/Ground", name := "wraps", desc := "()Z" } : Jvm.MethodName) prog_84_method_2_code (1 : Nat) (Option.some Jvm.ClassFile.FieldType.boolean), Jvm.Cond.code ({ cls := "com/example/caravane/caravane/world/Ground", name := "wrapX", desc := "(D)D" } : Jvm.MethodName) prog_84_method_4_code (3 : Nat) (Option.some Jvm.ClassFile.FieldType.double), Jvm.Cond.code ({ cls := "com/example/caravane/caravane/world/Ground", name := "wrap", desc := "(DD)D" } : Jvm.MethodName) prog_84_method_10_code (6 : Nat) (Option.some Jvm.ClassFile.FieldType.double), Jvm.Cond.code ({ cls := "com/example/caravane/caravane/world/Ground", name := "wrapY", desc := "(D)D" } : Jvm.MethodName) prog_84_method_5_code (3 : Nat) (Option.some Jvm.ClassFile.FieldType.double)]
set_option maxRecDepth 65536 in
theorem codes_eq : words1.filter isCode = codes1 := rfl
theorem w_codes : ∀ c ∈ words1.filter isCode, c.before args0 about1 = true := by
  rw [codes_eq]
  intro c hc
  simp only [codes1, List.mem_cons, List.not_mem_nil, or_false] at hc
  rcases hc with rfl | rfl | rfl | rfl | rfl | rfl | rfl | rfl | rfl
  · exact w_c0
  · exact w_c1
  · exact w_c2
  · exact w_c3
  · exact w_c4
  · exact w_c5
  · exact w_c6
  · exact w_c7
  · exact w_c8
set_option maxRecDepth 65536 in
theorem w_t1 : (words1.take 24).all (fun c => isCode c || c.before args0 about1) = true := by decide +kernel
set_option maxRecDepth 65536 in
theorem w_t2 : (words1.drop 24).all (fun c => isCode c || c.before args0 about1) = true := by decide +kernel
theorem w_tables : (allAtoms (Jvm.Cond.code x code maxLocals ret :: tables_1)).before args0 about1 = true := by
  rw [allAtoms_all]
  show words1.all (fun c => c.before args0 about1) = true
  refine all_split ?_ w_codes
  rw [← List.take_append_drop 24 words1, List.all_append, w_t1, w_t2]
  rfl
set_option maxRecDepth 65536 in
theorem w_case : (Jvm.Cond.and given_1 narrow_1).before args0 about1 = true := by decide +kernel
theorem w_applies : (headSpec (Jvm.Cond.code x code maxLocals ret :: tables_1) room_1).applies x e0.platform about1 = true :=
  (Spec.applies_iff w_frames).mpr ⟨w_running, w_runnable, w_alone, w_named, w_hears, w_ripe, w_room, w_tables⟩
theorem atStart : AtStart classFile x code maxLocals ret World_1 tables_1 room_1 Calls_1 rest_1 Pre_1 launch0 p0 e0 about1 theMethod args0 below0 :=
  ⟨lists_1, trivial, launch0.admits_env _ _ _, launch0.least_env, fairChoices_fair.cas, fairChoices_fair.clock, w_frames, w_args, w_heap, w_applies, trivial, trivial, w_case⟩
end start1
theorem witness_1 : WitnessClaimed_1 := ⟨start1.p0, start1.e0, start1.about1, start1.theMethod, start1.args0, start1.below0, start1.atStart⟩
end Jvm.Pilot.@@N@@
