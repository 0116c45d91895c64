import JvmDerived
import JvmDerived.Pilot.@@N@@Statement
import JvmDerived.Pilot.@@N@@Code
set_option linter.unusedVariables false
set_option linter.unusedSimpArgs false
@@BLOCK:NumsL.lean.txt@@
namespace Jvm.RoadKit
open Sem ClassFile Op Lib Jvm.Stand Jvm.Free Jvm.LawKit
section New
variable {p : Program} {l : Launch} {e : Env} {R : Room} {s : State} {m : MethodId} {args : Array Value} {below : List Frame} {meth : Method} {c : Code} {T : State} {locs : List Loc} {cells slots : Nat}
theorem retI (X : Stand p l e R s m args below meth c T locs cells slots) (hx : p.tables.exec = Jvm.exec) {pc : Nat} {Ls : Array Slot} {z : Int32} {rest : List Value} (hret : meth.sig.returnType = some .int) (hd : decode c.code pc = .ok (.ireturn, 1)) {fs : List Frame}
    (hl : ∀ (f : JFrame) (acts : List Action), f.method = m → f.locked = none → f.entered = [] → (doReturn e (T.setTop f) acts (some (.int z))).1 = T.setFrames fs) : Steps p.tables e below (T.setTop (mkF m pc Ls (.int z :: rest))) (T.setFrames fs) := by
  have hm' : T.vm.method? m = some meth := X.method'
  have hn : narrow .int (.int z) = .int z := rfl
  show Steps p.tables e below (T.setTop { method := m, pc := pc, locals := Ls, stack := _ :: rest, locked := none }) _
  jvm_step X.here [X.here.top, hx, hd, hm', hret, hn]
  first | (intro acts; rw [hl _ acts rfl rfl rfl]) | rw [hl _ _ rfl rfl rfl]
  exact Steps.refl _
end New
end Jvm.RoadKit
namespace Jvm.Pilot.@@N@@
open Jvm Jvm.ClassFile Sem Op Lib Jvm.Free Jvm.Stand Jvm.LawKit Jvm.RoadKit Bundle Jvm.Pilot.@@N@@.Jvm.D
section Ld
variable {p : Program} {l : Launch} {e : Env} {R : Room} {s : State} {m : MethodId} {args : Array Value} {below : List Frame} {meth : Method} {c : Code} {T : State} {locs : List Loc} {cells slots : Nat} {Z : State} {h : Heap} {g : JFrame} {target : State} {a : Addr} {k : ClassId} {n j : Int32} {vs : List Value} {d : Value} {rest : List Value}
theorem own_ldI {v : Int32} (X : Stand p l e R s m args below meth c T locs cells slots) (hx : p.tables.exec = Jvm.exec) (hZ : Z.Warmed39 s.vm) (eT : T.heap = h) (V : Arv Z h a k .int n vs d) (hin : ¬ j < 0 ∧ j < n) (hv : vs.getD j.toNatClampNeg d = .int v) (hg : g.method = m) (hs : g.stack = .int j :: .ref a :: rest) (hd : decode c.code g.pc = .ok (.iaload, 1)) (hr : Steps p.tables e below (T.setTop { g with pc := g.pc + 1, stack := .int v :: rest }) target) : Steps p.tables e below (T.setTop g) target := by
  obtain ⟨cl, Ar, q, S, P, Ha, G⟩ := V
  exact X.iaload hx (by rw [eT]; exact Ar.1) (State.isArrayOf_alike hZ.alike Ar.2.1) Ar.2.2 (inb_of S hin) (Ha.at (inb_of S hin) hv) hg hs hd target hr
theorem own_ldD {v : UInt64} (X : Stand p l e R s m args below meth c T locs cells slots) (hx : p.tables.exec = Jvm.exec) (hZ : Z.Warmed39 s.vm) (eT : T.heap = h) (V : Arv Z h a k .double n vs d) (hin : ¬ j < 0 ∧ j < n) (hv : vs.getD j.toNatClampNeg d = .double v) (hg : g.method = m) (hs : g.stack = .int j :: .ref a :: rest) (hd : decode c.code g.pc = .ok (.daload, 1)) (hr : Steps p.tables e below (T.setTop { g with pc := g.pc + 1, stack := .double v :: rest }) target) : Steps p.tables e below (T.setTop g) target := by
  obtain ⟨cl, Ar, q, S, P, Ha, G⟩ := V
  exact X.daload hx (by rw [eT]; exact Ar.1) (State.isArrayOf_alike hZ.alike Ar.2.1) Ar.2.2 (inb_of S hin) (Ha.at (inb_of S hin) hv) hg hs hd target hr
theorem own_len {ty : FieldType} (X : Stand p l e R s m args below meth c T locs cells slots) (hx : p.tables.exec = Jvm.exec) (hZ : Z.Warmed39 s.vm) (eT : T.heap = h) (V : Arv Z h a k ty n vs d) (hg : g.method = m) (hs : g.stack = .ref a :: rest) (hd : decode c.code g.pc = .ok (.arraylength, 1)) (hr : Steps p.tables e below (T.setTop { g with pc := g.pc + 1, stack := .int n :: rest }) target) : Steps p.tables e below (T.setTop g) target := by
  obtain ⟨cl, Ar, q, S, P, Ha, G⟩ := V
  refine X.arraylength hx (by rw [eT]; exact Ar.1) (State.isArrayOf_alike hZ.alike Ar.2.1) hg hs hd _ ?_
  rw [len_of S P]
  exact hr
end Ld

def own_n (p : Int32) : Int32 := ((p &&& (7 : Int32)) % (5 : Int32))
def own_s (p : Int32) : Int64 := p.toInt16.toInt32.toInt64
theorem own_ncase (p : Int32) : own_n p = 0 ∨ own_n p = 1 ∨ own_n p = 2 ∨ own_n p = 3 ∨ own_n p = 4 := by
  have h := Jvm.Kit.i32_mask p 7 (k := 3) (by decide) (by decide)
  have h0 : 0 ≤ (p &&& (7 : Int32)).toInt := by rw [h]; exact Int.emod_nonneg _ (by decide)
  have h2 := Jvm.Kit.i32_rem_nonneg (x := p &&& (7 : Int32)) (y := 5) h0
  have h5 : (5 : Int32).toInt = 5 := by decide
  rw [h5] at h2
  have e : ∀ k : Int32, (own_n p = k) ↔ (own_n p).toInt = k.toInt := fun k => Int32.toInt_inj.symm
  rw [e, e, e, e, e]
  rw [show (0 : Int32).toInt = 0 by decide, show (1 : Int32).toInt = 1 by decide, show (2 : Int32).toInt = 2 by decide, show (3 : Int32).toInt = 3 by decide, show (4 : Int32).toInt = 4 by decide]
  unfold own_n
  rw [h2]
  omega
theorem own_s_b (p : Int32) : -32768 ≤ (own_s p).toInt ∧ (own_s p).toInt ≤ 32767 := by
  unfold own_s
  rw [Int32.toInt_toInt64, Int16.toInt_toInt32]
  have h1 := Int16.toInt_lt p.toInt16
  have h2 := Int16.le_toInt p.toInt16
  omega
theorem own_mul (p : Int32) : FP.dmul (FP.l2d (own_s p)) (FP.l2d (own_s p)) = FP.l2d (own_s p * own_s p) := by
  have h := own_s_b p
  exact dmul_k (A := 32768) (B := 32768) (by omega) (by omega) (by omega) (by omega) (by decide) (by decide) (by decide) (fun q => by have := q.1; have := q.2; simp_all) (fun q => by have := q.1; have := q.2; simp_all)
theorem own_sq_int (p : Int32) : 0 ≤ (own_s p * own_s p).toInt ∧ (own_s p * own_s p).toInt ≤ 1073741824 := by
  have h := own_s_b p
  generalize own_s p = a at *
  have h1 : 0 ≤ a.toInt * a.toInt := by
    rcases Int.le_total 0 a.toInt with q | q
    · exact Int.mul_nonneg q q
    · exact Int.mul_nonneg_of_nonpos_of_nonpos q q
  have h2 : a.toInt * a.toInt ≤ 32768 * 32768 := by
    have : (a.toInt.natAbs) * (a.toInt.natAbs) ≤ 32768 * 32768 := Nat.mul_le_mul (by omega) (by omega)
    have e : a.toInt * a.toInt = ((a.toInt.natAbs * a.toInt.natAbs : Nat) : Int) := Int.natAbs_mul_self.symm
    omega
  rw [Jvm.Kit.i64_mul (by omega) (by omega)]
  omega
def own_S (k : Int) (s : Int64) : Prop := 0 ≤ s.toInt ∧ s.toInt ≤ k * 1073741824
theorem own_S0 : own_S 0 (0 : Int64) := ⟨by decide, by decide⟩
theorem own_b53 {k : Int} {s : Int64} (h : own_S k s) (hk : k ≤ 8) : B53 s := ⟨by have := h.1; omega, by have := h.2; omega⟩
theorem own_Ss {k : Int} {s : Int64} (h : own_S k s) (hk0 : 0 ≤ k) (hk : k ≤ 6) (p : Int32) : own_S (k + 1) (s + own_s p * own_s p) := by
  have q := own_sq_int p
  have e := add64 (own_b53 h (by omega)) (b := own_s p * own_s p) ⟨by omega, by omega⟩
  unfold own_S at *
  rw [e]
  constructor <;> omega
theorem own_add {k : Int} {s : Int64} (h : own_S k s) (hk : k ≤ 6) (p : Int32) : FP.dadd (FP.l2d s) (FP.l2d (own_s p * own_s p)) = FP.l2d (s + own_s p * own_s p) := by
  have q := own_sq_int p
  exact dadd_w (own_b53 h (by omega)) ⟨by omega, by omega⟩
theorem own_add0 (p : Int32) : FP.dadd (0 : UInt64) (FP.l2d (own_s p * own_s p)) = FP.l2d ((0 : Int64) + own_s p * own_s p) := by
  have h := own_add own_S0 (by decide) p
  rw [l2d_zero] at h
  exact h
theorem own_end (s : Int64) : ifCond.holds .ne (cmpValue (FP.dcmp (FP.l2d s) (FP.l2d s)) .l) = false := by
  rw [dcmpV_self (Fl.l2d_fin s).noNaN]; rfl
theorem own_end0 : ifCond.holds .ne (cmpValue (FP.dcmp (0 : UInt64) (FP.l2d (0 : Int64))) .l) = false := by
  rw [l2d_zero]; decide +kernel
theorem pn_0 : plainName "com/example/topic_crawler/topiccrawler/topic/SparseVector" = true := by first | (simp [plainName, overriddenIn]; done) | decide +kernel
theorem dprog_37_method_1_code_0 : decode prog_37_method_1_code 0 = .ok (.aload_n 0, 1) := by decide +kernel
theorem dprog_37_method_1_code_1 : decode prog_37_method_1_code 1 = .ok (.invokespecial 1, 3) := by decide +kernel
theorem dprog_37_method_1_code_4 : decode prog_37_method_1_code 4 = .ok (.aload_n 0, 1) := by decide +kernel
theorem dprog_37_method_1_code_5 : decode prog_37_method_1_code 5 = .ok (.aload_n 1, 1) := by decide +kernel
theorem dprog_37_method_1_code_6 : decode prog_37_method_1_code 6 = .ok (.putfield 7, 3) := by decide +kernel
theorem dprog_37_method_1_code_9 : decode prog_37_method_1_code 9 = .ok (.aload_n 0, 1) := by decide +kernel
theorem dprog_37_method_1_code_10 : decode prog_37_method_1_code 10 = .ok (.aload_n 2, 1) := by decide +kernel
theorem dprog_37_method_1_code_11 : decode prog_37_method_1_code 11 = .ok (.putfield 13, 3) := by decide +kernel
theorem dprog_37_method_1_code_14 : decode prog_37_method_1_code 14 = .ok (.return_, 1) := by decide +kernel
theorem ef_sv (m : MethodId) (x0 : Addr) (x1 : Addr) (x2 : Addr) : entryFrame m #[(.ref x0), (.ref x1), (.ref x2)] 3 = mkF m 0 #[.val (.ref x0), .val (.ref x1), .val (.ref x2)] [] := by first | (simp [entryFrame, mkF, argsToLocals, Value.category]; done) | rfl
def Qsv (Z : State) (a1 ai av : Addr) (h0 : Heap) (n0 : Nat) (v : Option Value) (h : Heap) (L : List Loc) : Prop := v = none ∧ Fr n0 L ∧ Keep h0 h [a1] ∧ Exa Z h a1 "com/example/topic_crawler/topiccrawler/topic/SparseVector" ∧ Fld Z h a1 "com/example/topic_crawler/topiccrawler/topic/SparseVector" "values" "[D" (.ref av)
set_option maxRecDepth 65536 in
set_option maxHeartbeats 40000000 in
theorem rmsv (l : Launch) (Z : State) (a0 : Array Value) (hw : ∀ d ∈ tables_1, d.before a0 Z = true) (ws : List Jvm.Cond) (a1 ai av : Addr) (h0 : Heap) (n0 : Nat) (Z0 : n0 ≤ h0.size) (F_indices : Fld Z h0 a1 "com/example/topic_crawler/topiccrawler/topic/SparseVector" "indices" "[I" .null) (F_values : Fld Z h0 a1 "com/example/topic_crawler/topiccrawler/topic/SparseVector" "values" "[D" .null) (E_a : Exa Z h0 a1 "com/example/topic_crawler/topiccrawler/topic/SparseVector") (g_a : n0 ≤ a1) :
    MetFree l (⟨"com/example/topic_crawler/topiccrawler/topic/SparseVector", "<init>", "([I[D)V"⟩ : MethodName) (head1 (Jvm.Cond.code (⟨"com/example/topic_crawler/topiccrawler/topic/SparseVector", "<init>", "([I[D)V"⟩ : MethodName) prog_37_method_1_code 3 none :: ws) ({ frames := 1, cells := 0, slots := 0, locals := 12 } : Room)) (fun a U => a = #[(.ref a1), (.ref ai), (.ref av)] ∧ Z.Warmed39 U.vm ∧ U.heap = h0) (fun _ _ _ _ _ => True) (fun _ U o U' => ∃ v L, o = .returned v ∧ Qsv Z a1 ai av h0 n0 v U'.heap L ∧ FrameEnd U o U' L ({ frames := 1, cells := 0, slots := 0, locals := 12 } : Room).cells ({ frames := 1, cells := 0, slots := 0, locals := 12 } : Room).slots) := by
  refine MetFree.of_bodySF (plainFor_of_name pn_0) hisR ?_
  intro p e s m args below meth c s₁ Bd hml0 hP hK
  obtain ⟨rfl, hZ, hh⟩ := hP
  have hx := Bd.exec
  have hby := Bd.bytes
  have hml : c.maxLocals = 3 := hml0
  have hown : s.vm.findClass "com/example/topic_crawler/topiccrawler/topic/SparseVector" = some m.cls := findClass_of_methodNamed Bd.named
  have hnm := (name_of_methodNamed Bd.named Bd.method).1
  have X0 : Stand p l e ({ frames := 1, cells := 0, slots := 0, locals := 12 } : Room) s m #[(.ref a1), (.ref ai), (.ref av)] below meth c s₁ [] 0 0 := Stand.of_body Bd
  have e0 : s₁.heap = h0 := by rw [← hh, Bd.state]; rfl
  have N0 := Fr.nil n0
  have pre0 : ∀ t, Steps p.tables e below (s₁.setTop (mkF m 0 #[.val (.ref a1), .val (.ref ai), .val (.ref av)] [])) t → Steps p.tables e below (s₁.setTop (entryFrame m #[(.ref a1), (.ref ai), (.ref av)] 3)) t := fun t k => castTop (ef_sv m a1 ai av) k
  obtain ⟨T1, X1, e1, st1⟩ := initO X0 hx hZ hown (hw _ (List.mem_of_getElem? (i := 8) rfl)) (hw _ (List.mem_of_getElem? (i := 9) rfl)) (hw _ (List.mem_of_getElem? (i := 10) rfl)) e0 (g := (mkF m 1 #[.val (.ref a1), .val (.ref ai), .val (.ref av)] [(.ref a1)])) rfl (by rw [hml]; rfl) rfl (hb hby dprog_37_method_1_code_1) (by decide) (W := 0) (by show 2 * 0 + _ ≤ _; exact Nat.le_of_eq rfl) (by decide)
  obtain ⟨T2, h2, X2, e2, W2, st2⟩ := putF X1 hx hZ hown (host := "") (Or.inl (hw _ (List.mem_of_getElem? (i := 11) rfl))) Via.refl e1 F_indices E_a (Or.inr ⟨(hw _ (List.mem_of_getElem? (i := 12) rfl)), rfl, hnm⟩) (hw _ (List.mem_of_getElem? (i := 3) rfl)) (ty := (.array .int)) (by decide) rfl rfl (g := (mkF m 6 #[.val (.ref a1), .val (.ref ai), .val (.ref av)] [(.ref ai), (.ref a1)])) rfl rfl (hb hby dprog_37_method_1_code_6)
  have Fw2 : Fld Z h2 a1 "com/example/topic_crawler/topiccrawler/topic/SparseVector" "indices" "[I" (.ref ai) := F_indices.same W2
  have N2 := Fr.snoc X2 N0 g_a
  obtain ⟨T3, h3, X3, e3, W3, st3⟩ := putF X2 hx hZ hown (host := "") (Or.inl (hw _ (List.mem_of_getElem? (i := 13) rfl))) Via.refl e2 (F_values.other W2 (Or.inr (slot_ne (Or.inr (hw _ (List.mem_of_getElem? (i := 14) rfl))) (Or.inr (hw _ (List.mem_of_getElem? (i := 12) rfl))) (by decide) (t := (.array .double)) (t' := (.array .int)) (by decide) (by decide)))) (E_a.wr W2) (Or.inr ⟨(hw _ (List.mem_of_getElem? (i := 14) rfl)), rfl, hnm⟩) (hw _ (List.mem_of_getElem? (i := 3) rfl)) (ty := (.array .double)) (by decide) rfl rfl (g := (mkF m 11 #[.val (.ref a1), .val (.ref ai), .val (.ref av)] [(.ref av), (.ref a1)])) rfl rfl (hb hby dprog_37_method_1_code_11)
  have Fw3 : Fld Z h3 a1 "com/example/topic_crawler/topiccrawler/topic/SparseVector" "values" "[D" (.ref av) := (F_values.other W2 (Or.inr (slot_ne (Or.inr (hw _ (List.mem_of_getElem? (i := 14) rfl))) (Or.inr (hw _ (List.mem_of_getElem? (i := 12) rfl))) (by decide) (t := (.array .double)) (t' := (.array .int)) (by decide) (by decide)))).same W3
  have N3 := Fr.snoc X3 N2 g_a
  obtain ⟨fs, hr, hrun, hended, hW, hsame⟩ := X3.leave (v := none) (fun _ => rfl)
  refine ⟨_, _, pre0 _ ?_, hrun, hended, _, _, rfl, ?_, ⟨_, rfl⟩, hW, hsame.mono (by decide) (by decide)⟩
  · show Steps p.tables e below (s₁.setTop (mkF m 0 #[.val (.ref a1), .val (.ref ai), .val (.ref av)] [])) _
    refine XS.aloadN X0.here hx rfl (hb hby dprog_37_method_1_code_0) rfl rfl ?_
    show Steps p.tables e below (s₁.setTop (mkF m 1 #[.val (.ref a1), .val (.ref ai), .val (.ref av)] [(.ref a1)])) _
    refine st1 _ ?_
    show Steps p.tables e below (T1.setTop (mkF m 4 #[.val (.ref a1), .val (.ref ai), .val (.ref av)] [])) _
    refine XS.aloadN X1.here hx rfl (hb hby dprog_37_method_1_code_4) rfl rfl ?_
    show Steps p.tables e below (T1.setTop (mkF m 5 #[.val (.ref a1), .val (.ref ai), .val (.ref av)] [(.ref a1)])) _
    refine XS.aloadN X1.here hx rfl (hb hby dprog_37_method_1_code_5) rfl rfl ?_
    show Steps p.tables e below (T1.setTop (mkF m 6 #[.val (.ref a1), .val (.ref ai), .val (.ref av)] [(.ref ai), (.ref a1)])) _
    refine st2 _ ?_
    show Steps p.tables e below (T2.setTop (mkF m 9 #[.val (.ref a1), .val (.ref ai), .val (.ref av)] [])) _
    refine XS.aloadN X2.here hx rfl (hb hby dprog_37_method_1_code_9) rfl rfl ?_
    show Steps p.tables e below (T2.setTop (mkF m 10 #[.val (.ref a1), .val (.ref ai), .val (.ref av)] [(.ref a1)])) _
    refine XS.aloadN X2.here hx rfl (hb hby dprog_37_method_1_code_10) rfl rfl ?_
    show Steps p.tables e below (T2.setTop (mkF m 11 #[.val (.ref a1), .val (.ref ai), .val (.ref av)] [(.ref av), (.ref a1)])) _
    refine st3 _ ?_
    show Steps p.tables e below (T3.setTop (mkF m 14 #[.val (.ref a1), .val (.ref ai), .val (.ref av)] [])) _
    exact X3.returnOut hx Bd.returns (hb hby dprog_37_method_1_code_14) hr
  · show Qsv Z a1 ai av h0 n0 _ T3.heap _
    rw [e3]
    exact ⟨rfl, N3, (((Keep.refl h0 [a1]).wr W2 (Or.inl (List.mem_of_getElem? (i := 0) rfl))).wr W3 (Or.inl (List.mem_of_getElem? (i := 0) rfl))), ((E_a.wr W2).wr W3), Fw3⟩
theorem dprog_37_method_4_code_0 : decode prog_37_method_4_code 0 = .ok (.dconst 0, 1) := by decide +kernel
theorem dprog_37_method_4_code_1 : decode prog_37_method_4_code 1 = .ok (.dstore_n 1, 1) := by decide +kernel
theorem dprog_37_method_4_code_2 : decode prog_37_method_4_code 2 = .ok (.aload_n 0, 1) := by decide +kernel
theorem dprog_37_method_4_code_3 : decode prog_37_method_4_code 3 = .ok (.getfield 13, 3) := by decide +kernel
theorem dprog_37_method_4_code_6 : decode prog_37_method_4_code 6 = .ok (.astore_n 3, 1) := by decide +kernel
theorem dprog_37_method_4_code_7 : decode prog_37_method_4_code 7 = .ok (.aload_n 3, 1) := by decide +kernel
theorem dprog_37_method_4_code_8 : decode prog_37_method_4_code 8 = .ok (.arraylength, 1) := by decide +kernel
theorem dprog_37_method_4_code_9 : decode prog_37_method_4_code 9 = .ok (.istore 4, 2) := by decide +kernel
theorem dprog_37_method_4_code_11 : decode prog_37_method_4_code 11 = .ok (.iconst 0, 1) := by decide +kernel
theorem dprog_37_method_4_code_12 : decode prog_37_method_4_code 12 = .ok (.istore 5, 2) := by decide +kernel
theorem dprog_37_method_4_code_14 : decode prog_37_method_4_code 14 = .ok (.iload 5, 2) := by decide +kernel
theorem dprog_37_method_4_code_16 : decode prog_37_method_4_code 16 = .ok (.iload 4, 2) := by decide +kernel
theorem dprog_37_method_4_code_18 : decode prog_37_method_4_code 18 = .ok (.if_icmp .ge 23, 3) := by decide +kernel
theorem dprog_37_method_4_code_21 : decode prog_37_method_4_code 21 = .ok (.aload_n 3, 1) := by decide +kernel
theorem dprog_37_method_4_code_22 : decode prog_37_method_4_code 22 = .ok (.iload 5, 2) := by decide +kernel
theorem dprog_37_method_4_code_24 : decode prog_37_method_4_code 24 = .ok (.daload, 1) := by decide +kernel
theorem dprog_37_method_4_code_25 : decode prog_37_method_4_code 25 = .ok (.dstore 6, 2) := by decide +kernel
theorem dprog_37_method_4_code_27 : decode prog_37_method_4_code 27 = .ok (.dload_n 1, 1) := by decide +kernel
theorem dprog_37_method_4_code_28 : decode prog_37_method_4_code 28 = .ok (.dload 6, 2) := by decide +kernel
theorem dprog_37_method_4_code_30 : decode prog_37_method_4_code 30 = .ok (.dload 6, 2) := by decide +kernel
theorem dprog_37_method_4_code_32 : decode prog_37_method_4_code 32 = .ok (.dmul, 1) := by decide +kernel
theorem dprog_37_method_4_code_33 : decode prog_37_method_4_code 33 = .ok (.dadd, 1) := by decide +kernel
theorem dprog_37_method_4_code_34 : decode prog_37_method_4_code 34 = .ok (.dstore_n 1, 1) := by decide +kernel
theorem dprog_37_method_4_code_35 : decode prog_37_method_4_code 35 = .ok (.iinc 5 1, 3) := by decide +kernel
theorem dprog_37_method_4_code_38 : decode prog_37_method_4_code 38 = .ok (.goto (-24), 3) := by decide +kernel
theorem dprog_37_method_4_code_41 : decode prog_37_method_4_code 41 = .ok (.dload_n 1, 1) := by decide +kernel
theorem dprog_37_method_4_code_42 : decode prog_37_method_4_code 42 = .ok (.dreturn, 1) := by decide +kernel
theorem ef_sq0 (m : MethodId) (x0 : Addr) : entryFrame m #[(.ref x0)] 8 = mkF m 0 #[.val (.ref x0), .unset, .unset, .unset, .unset, .unset, .unset, .unset] [] := by first | (simp [entryFrame, mkF, argsToLocals, Value.category]; done) | rfl
def Qsq0 (Z : State) (a1 av : Addr) (kz : ClassId) (h0 : Heap) (n0 : Nat) (v : Option Value) (h : Heap) (L : List Loc) : Prop := v = some (.double (0 : UInt64)) ∧ Fr n0 L ∧ h = h0
set_option maxRecDepth 65536 in
set_option maxHeartbeats 40000000 in
theorem rmsq0 (l : Launch) (Z : State) (a0 : Array Value) (hw : ∀ d ∈ tables_1, d.before a0 Z = true) (ws : List Jvm.Cond) (a1 av : Addr) (kz : ClassId) (h0 : Heap) (n0 : Nat) (Z0 : n0 ≤ h0.size) (F_v : Fld Z h0 a1 "com/example/topic_crawler/topiccrawler/topic/SparseVector" "values" "[D" (.ref av)) (V_v : Arv Z h0 av kz .double (0 : Int32) [] (.double (0 : UInt64))) :
    MetFree l (⟨"com/example/topic_crawler/topiccrawler/topic/SparseVector", "squaredLength", "()D"⟩ : MethodName) (head1 (Jvm.Cond.code (⟨"com/example/topic_crawler/topiccrawler/topic/SparseVector", "squaredLength", "()D"⟩ : MethodName) prog_37_method_4_code 8 (some .double) :: ws) ({ frames := 0, cells := 0, slots := 0, locals := 0 } : Room)) (fun a U => a = #[(.ref a1)] ∧ Z.Warmed39 U.vm ∧ U.heap = h0) (fun _ _ _ _ _ => True) (fun _ U o U' => ∃ v L, o = .returned v ∧ Qsq0 Z a1 av kz h0 n0 v U'.heap L ∧ FrameEnd U o U' L ({ frames := 0, cells := 0, slots := 0, locals := 0 } : Room).cells ({ frames := 0, cells := 0, slots := 0, locals := 0 } : Room).slots) := by
  refine MetFree.of_bodySF (plainFor_of_name pn_0) hisR ?_
  intro p e s m args below meth c s₁ Bd hml0 hP hK
  obtain ⟨rfl, hZ, hh⟩ := hP
  have hx := Bd.exec
  have hby := Bd.bytes
  have hml : c.maxLocals = 8 := hml0
  have hown : s.vm.findClass "com/example/topic_crawler/topiccrawler/topic/SparseVector" = some m.cls := findClass_of_methodNamed Bd.named
  have hnm := (name_of_methodNamed Bd.named Bd.method).1
  have X0 : Stand p l e ({ frames := 0, cells := 0, slots := 0, locals := 0 } : Room) s m #[(.ref a1)] below meth c s₁ [] 0 0 := Stand.of_body Bd
  have e0 : s₁.heap = h0 := by rw [← hh, Bd.state]; rfl
  have N0 := Fr.nil n0
  have pre0 : ∀ t, Steps p.tables e below (s₁.setTop (mkF m 0 #[.val (.ref a1), .unset, .unset, .unset, .unset, .unset, .unset, .unset] [])) t → Steps p.tables e below (s₁.setTop (entryFrame m #[(.ref a1)] 8)) t := fun t k => castTop (ef_sq0 m a1) k
  obtain ⟨T1, X1, e1, st1⟩ := getF X0 hx hZ hown (host := "") (Or.inl (hw _ (List.mem_of_getElem? (i := 13) rfl))) Via.refl e0 F_v (g := (mkF m 3 #[.val (.ref a1), .val (.double (0 : UInt64)), .second, .unset, .unset, .unset, .unset, .unset] [(.ref a1)])) rfl rfl (hb hby dprog_37_method_4_code_3)
  obtain ⟨fs, hr, hrun, hended, hW, hsame⟩ := X1.leave (v := some (.double (0 : UInt64))) (fun h => by rw [Bd.returns] at h; cases h)
  refine ⟨_, _, pre0 _ ?_, hrun, hended, _, _, rfl, ?_, ⟨_, rfl⟩, hW, hsame.mono (by decide) (by decide)⟩
  · show Steps p.tables e below (s₁.setTop (mkF m 0 #[.val (.ref a1), .unset, .unset, .unset, .unset, .unset, .unset, .unset] [])) _
    refine XS.dconst0 X0.here hx rfl (hb hby dprog_37_method_4_code_0) rfl ?_
    show Steps p.tables e below (s₁.setTop (mkF m 1 #[.val (.ref a1), .unset, .unset, .unset, .unset, .unset, .unset, .unset] [(.double (0 : UInt64))])) _
    refine XS.dstoreN X0.here hx rfl (hb hby dprog_37_method_4_code_1) rfl (l' := #[.val (.ref a1), .val (.double (0 : UInt64)), .second, .unset, .unset, .unset, .unset, .unset]) rfl ?_
    show Steps p.tables e below (s₁.setTop (mkF m 2 #[.val (.ref a1), .val (.double (0 : UInt64)), .second, .unset, .unset, .unset, .unset, .unset] [])) _
    refine XS.aloadN X0.here hx rfl (hb hby dprog_37_method_4_code_2) rfl rfl ?_
    show Steps p.tables e below (s₁.setTop (mkF m 3 #[.val (.ref a1), .val (.double (0 : UInt64)), .second, .unset, .unset, .unset, .unset, .unset] [(.ref a1)])) _
    refine st1 _ ?_
    show Steps p.tables e below (T1.setTop (mkF m 6 #[.val (.ref a1), .val (.double (0 : UInt64)), .second, .unset, .unset, .unset, .unset, .unset] [(.ref av)])) _
    refine XS.astoreN X1.here hx rfl (hb hby dprog_37_method_4_code_6) rfl rfl (l' := #[.val (.ref a1), .val (.double (0 : UInt64)), .second, .val (.ref av), .unset, .unset, .unset, .unset]) rfl ?_
    show Steps p.tables e below (T1.setTop (mkF m 7 #[.val (.ref a1), .val (.double (0 : UInt64)), .second, .val (.ref av), .unset, .unset, .unset, .unset] [])) _
    refine XS.aloadN X1.here hx rfl (hb hby dprog_37_method_4_code_7) rfl rfl ?_
    show Steps p.tables e below (T1.setTop (mkF m 8 #[.val (.ref a1), .val (.double (0 : UInt64)), .second, .val (.ref av), .unset, .unset, .unset, .unset] [(.ref av)])) _
    refine own_len X1 hx hZ e1 V_v rfl rfl (hb hby dprog_37_method_4_code_8) ?_
    show Steps p.tables e below (T1.setTop (mkF m 9 #[.val (.ref a1), .val (.double (0 : UInt64)), .second, .val (.ref av), .unset, .unset, .unset, .unset] [(.int (0 : Int32))])) _
    refine XS.istore X1.here hx rfl (hb hby dprog_37_method_4_code_9) rfl (l' := #[.val (.ref a1), .val (.double (0 : UInt64)), .second, .val (.ref av), .val (.int (0 : Int32)), .unset, .unset, .unset]) rfl ?_
    show Steps p.tables e below (T1.setTop (mkF m 11 #[.val (.ref a1), .val (.double (0 : UInt64)), .second, .val (.ref av), .val (.int (0 : Int32)), .unset, .unset, .unset] [])) _
    refine XS.iconst X1.here hx rfl (hb hby dprog_37_method_4_code_11) ?_
    show Steps p.tables e below (T1.setTop (mkF m 12 #[.val (.ref a1), .val (.double (0 : UInt64)), .second, .val (.ref av), .val (.int (0 : Int32)), .unset, .unset, .unset] [(.int (0 : Int32))])) _
    refine XS.istore X1.here hx rfl (hb hby dprog_37_method_4_code_12) rfl (l' := #[.val (.ref a1), .val (.double (0 : UInt64)), .second, .val (.ref av), .val (.int (0 : Int32)), .val (.int (0 : Int32)), .unset, .unset]) rfl ?_
    show Steps p.tables e below (T1.setTop (mkF m 14 #[.val (.ref a1), .val (.double (0 : UInt64)), .second, .val (.ref av), .val (.int (0 : Int32)), .val (.int (0 : Int32)), .unset, .unset] [])) _
    refine XS.iload X1.here hx rfl (hb hby dprog_37_method_4_code_14) rfl ?_
    show Steps p.tables e below (T1.setTop (mkF m 16 #[.val (.ref a1), .val (.double (0 : UInt64)), .second, .val (.ref av), .val (.int (0 : Int32)), .val (.int (0 : Int32)), .unset, .unset] [(.int (0 : Int32))])) _
    refine XS.iload X1.here hx rfl (hb hby dprog_37_method_4_code_16) rfl ?_
    show Steps p.tables e below (T1.setTop (mkF m 18 #[.val (.ref a1), .val (.double (0 : UInt64)), .second, .val (.ref av), .val (.int (0 : Int32)), .val (.int (0 : Int32)), .unset, .unset] [(.int (0 : Int32)), (.int (0 : Int32))])) _
    refine XS.icmpYes X1.here hx rfl (pc0 := 18) (pc' := 41) rfl (hb hby dprog_37_method_4_code_18) rfl (by decide) (by decide) (by decide) ?_
    show Steps p.tables e below (T1.setTop (mkF m 41 #[.val (.ref a1), .val (.double (0 : UInt64)), .second, .val (.ref av), .val (.int (0 : Int32)), .val (.int (0 : Int32)), .unset, .unset] [])) _
    refine XS.dloadN X1.here hx rfl (hb hby dprog_37_method_4_code_41) rfl ?_
    show Steps p.tables e below (T1.setTop (mkF m 42 #[.val (.ref a1), .val (.double (0 : UInt64)), .second, .val (.ref av), .val (.int (0 : Int32)), .val (.int (0 : Int32)), .unset, .unset] [(.double (0 : UInt64))])) _
    exact retOut X1 hx Bd.returns rfl (Or.inr (Or.inr (Or.inl ⟨rfl, rfl, _, rfl⟩))) (hb hby dprog_37_method_4_code_42) hr
  · show Qsq0 Z a1 av kz h0 n0 _ T1.heap _
    rw [e1]
    exact ⟨rfl, N0, rfl⟩
theorem ef_sq1 (m : MethodId) (x0 : Addr) : entryFrame m #[(.ref x0)] 8 = mkF m 0 #[.val (.ref x0), .unset, .unset, .unset, .unset, .unset, .unset, .unset] [] := by first | (simp [entryFrame, mkF, argsToLocals, Value.category]; done) | rfl
def Qsq1 (Z : State) (a1 av : Addr) (kz : ClassId) (s1 : Int64) (h0 : Heap) (n0 : Nat) (v : Option Value) (h : Heap) (L : List Loc) : Prop := v = some (.double (FP.l2d ((0 : Int64) + (s1 * s1)))) ∧ Fr n0 L ∧ h = h0
set_option maxRecDepth 65536 in
set_option maxHeartbeats 40000000 in
theorem rmsq1 (l : Launch) (Z : State) (a0 : Array Value) (hw : ∀ d ∈ tables_1, d.before a0 Z = true) (ws : List Jvm.Cond) (a1 av : Addr) (kz : ClassId) (s1 : Int64) (h0 : Heap) (n0 : Nat) (Z0 : n0 ≤ h0.size) (F_v : Fld Z h0 a1 "com/example/topic_crawler/topiccrawler/topic/SparseVector" "values" "[D" (.ref av)) (V_v : Arv Z h0 av kz .double (1 : Int32) [(.double (FP.l2d s1))] (.double (0 : UInt64))) (q_1 : FP.dmul (FP.l2d s1) (FP.l2d s1) = FP.l2d (s1 * s1)) (r_1 : FP.dadd (0 : UInt64) (FP.l2d (s1 * s1)) = FP.l2d ((0 : Int64) + (s1 * s1))) :
    MetFree l (⟨"com/example/topic_crawler/topiccrawler/topic/SparseVector", "squaredLength", "()D"⟩ : MethodName) (head1 (Jvm.Cond.code (⟨"com/example/topic_crawler/topiccrawler/topic/SparseVector", "squaredLength", "()D"⟩ : MethodName) prog_37_method_4_code 8 (some .double) :: ws) ({ frames := 0, cells := 0, slots := 0, locals := 0 } : Room)) (fun a U => a = #[(.ref a1)] ∧ Z.Warmed39 U.vm ∧ U.heap = h0) (fun _ _ _ _ _ => True) (fun _ U o U' => ∃ v L, o = .returned v ∧ Qsq1 Z a1 av kz s1 h0 n0 v U'.heap L ∧ FrameEnd U o U' L ({ frames := 0, cells := 0, slots := 0, locals := 0 } : Room).cells ({ frames := 0, cells := 0, slots := 0, locals := 0 } : Room).slots) := by
  refine MetFree.of_bodySF (plainFor_of_name pn_0) hisR ?_
  intro p e s m args below meth c s₁ Bd hml0 hP hK
  obtain ⟨rfl, hZ, hh⟩ := hP
  have hx := Bd.exec
  have hby := Bd.bytes
  have hml : c.maxLocals = 8 := hml0
  have hown : s.vm.findClass "com/example/topic_crawler/topiccrawler/topic/SparseVector" = some m.cls := findClass_of_methodNamed Bd.named
  have hnm := (name_of_methodNamed Bd.named Bd.method).1
  have X0 : Stand p l e ({ frames := 0, cells := 0, slots := 0, locals := 0 } : Room) s m #[(.ref a1)] below meth c s₁ [] 0 0 := Stand.of_body Bd
  have e0 : s₁.heap = h0 := by rw [← hh, Bd.state]; rfl
  have N0 := Fr.nil n0
  have pre0 : ∀ t, Steps p.tables e below (s₁.setTop (mkF m 0 #[.val (.ref a1), .unset, .unset, .unset, .unset, .unset, .unset, .unset] [])) t → Steps p.tables e below (s₁.setTop (entryFrame m #[(.ref a1)] 8)) t := fun t k => castTop (ef_sq1 m a1) k
  obtain ⟨T1, X1, e1, st1⟩ := getF X0 hx hZ hown (host := "") (Or.inl (hw _ (List.mem_of_getElem? (i := 13) rfl))) Via.refl e0 F_v (g := (mkF m 3 #[.val (.ref a1), .val (.double (0 : UInt64)), .second, .unset, .unset, .unset, .unset, .unset] [(.ref a1)])) rfl rfl (hb hby dprog_37_method_4_code_3)
  obtain ⟨fs, hr, hrun, hended, hW, hsame⟩ := X1.leave (v := some (.double (FP.l2d ((0 : Int64) + (s1 * s1))))) (fun h => by rw [Bd.returns] at h; cases h)
  refine ⟨_, _, pre0 _ ?_, hrun, hended, _, _, rfl, ?_, ⟨_, rfl⟩, hW, hsame.mono (by decide) (by decide)⟩
  · show Steps p.tables e below (s₁.setTop (mkF m 0 #[.val (.ref a1), .unset, .unset, .unset, .unset, .unset, .unset, .unset] [])) _
    refine XS.dconst0 X0.here hx rfl (hb hby dprog_37_method_4_code_0) rfl ?_
    show Steps p.tables e below (s₁.setTop (mkF m 1 #[.val (.ref a1), .unset, .unset, .unset, .unset, .unset, .unset, .unset] [(.double (0 : UInt64))])) _
    refine XS.dstoreN X0.here hx rfl (hb hby dprog_37_method_4_code_1) rfl (l' := #[.val (.ref a1), .val (.double (0 : UInt64)), .second, .unset, .unset, .unset, .unset, .unset]) rfl ?_
    show Steps p.tables e below (s₁.setTop (mkF m 2 #[.val (.ref a1), .val (.double (0 : UInt64)), .second, .unset, .unset, .unset, .unset, .unset] [])) _
    refine XS.aloadN X0.here hx rfl (hb hby dprog_37_method_4_code_2) rfl rfl ?_
    show Steps p.tables e below (s₁.setTop (mkF m 3 #[.val (.ref a1), .val (.double (0 : UInt64)), .second, .unset, .unset, .unset, .unset, .unset] [(.ref a1)])) _
    refine st1 _ ?_
    show Steps p.tables e below (T1.setTop (mkF m 6 #[.val (.ref a1), .val (.double (0 : UInt64)), .second, .unset, .unset, .unset, .unset, .unset] [(.ref av)])) _
    refine XS.astoreN X1.here hx rfl (hb hby dprog_37_method_4_code_6) rfl rfl (l' := #[.val (.ref a1), .val (.double (0 : UInt64)), .second, .val (.ref av), .unset, .unset, .unset, .unset]) rfl ?_
    show Steps p.tables e below (T1.setTop (mkF m 7 #[.val (.ref a1), .val (.double (0 : UInt64)), .second, .val (.ref av), .unset, .unset, .unset, .unset] [])) _
    refine XS.aloadN X1.here hx rfl (hb hby dprog_37_method_4_code_7) rfl rfl ?_
    show Steps p.tables e below (T1.setTop (mkF m 8 #[.val (.ref a1), .val (.double (0 : UInt64)), .second, .val (.ref av), .unset, .unset, .unset, .unset] [(.ref av)])) _
    refine own_len X1 hx hZ e1 V_v rfl rfl (hb hby dprog_37_method_4_code_8) ?_
    show Steps p.tables e below (T1.setTop (mkF m 9 #[.val (.ref a1), .val (.double (0 : UInt64)), .second, .val (.ref av), .unset, .unset, .unset, .unset] [(.int (1 : Int32))])) _
    refine XS.istore X1.here hx rfl (hb hby dprog_37_method_4_code_9) rfl (l' := #[.val (.ref a1), .val (.double (0 : UInt64)), .second, .val (.ref av), .val (.int (1 : Int32)), .unset, .unset, .unset]) rfl ?_
    show Steps p.tables e below (T1.setTop (mkF m 11 #[.val (.ref a1), .val (.double (0 : UInt64)), .second, .val (.ref av), .val (.int (1 : Int32)), .unset, .unset, .unset] [])) _
    refine XS.iconst X1.here hx rfl (hb hby dprog_37_method_4_code_11) ?_
    show Steps p.tables e below (T1.setTop (mkF m 12 #[.val (.ref a1), .val (.double (0 : UInt64)), .second, .val (.ref av), .val (.int (1 : Int32)), .unset, .unset, .unset] [(.int (0 : Int32))])) _
    refine XS.istore X1.here hx rfl (hb hby dprog_37_method_4_code_12) rfl (l' := #[.val (.ref a1), .val (.double (0 : UInt64)), .second, .val (.ref av), .val (.int (1 : Int32)), .val (.int (0 : Int32)), .unset, .unset]) rfl ?_
    show Steps p.tables e below (T1.setTop (mkF m 14 #[.val (.ref a1), .val (.double (0 : UInt64)), .second, .val (.ref av), .val (.int (1 : Int32)), .val (.int (0 : Int32)), .unset, .unset] [])) _
    refine XS.iload X1.here hx rfl (hb hby dprog_37_method_4_code_14) rfl ?_
    show Steps p.tables e below (T1.setTop (mkF m 16 #[.val (.ref a1), .val (.double (0 : UInt64)), .second, .val (.ref av), .val (.int (1 : Int32)), .val (.int (0 : Int32)), .unset, .unset] [(.int (0 : Int32))])) _
    refine XS.iload X1.here hx rfl (hb hby dprog_37_method_4_code_16) rfl ?_
    show Steps p.tables e below (T1.setTop (mkF m 18 #[.val (.ref a1), .val (.double (0 : UInt64)), .second, .val (.ref av), .val (.int (1 : Int32)), .val (.int (0 : Int32)), .unset, .unset] [(.int (1 : Int32)), (.int (0 : Int32))])) _
    refine XS.icmpNo X1.here hx rfl (hb hby dprog_37_method_4_code_18) rfl (by decide) ?_
    show Steps p.tables e below (T1.setTop (mkF m 21 #[.val (.ref a1), .val (.double (0 : UInt64)), .second, .val (.ref av), .val (.int (1 : Int32)), .val (.int (0 : Int32)), .unset, .unset] [])) _
    refine XS.aloadN X1.here hx rfl (hb hby dprog_37_method_4_code_21) rfl rfl ?_
    show Steps p.tables e below (T1.setTop (mkF m 22 #[.val (.ref a1), .val (.double (0 : UInt64)), .second, .val (.ref av), .val (.int (1 : Int32)), .val (.int (0 : Int32)), .unset, .unset] [(.ref av)])) _
    refine XS.iload X1.here hx rfl (hb hby dprog_37_method_4_code_22) rfl ?_
    show Steps p.tables e below (T1.setTop (mkF m 24 #[.val (.ref a1), .val (.double (0 : UInt64)), .second, .val (.ref av), .val (.int (1 : Int32)), .val (.int (0 : Int32)), .unset, .unset] [(.int (0 : Int32)), (.ref av)])) _
    refine own_ldD X1 hx hZ e1 V_v ⟨by decide, by decide⟩ (v := (FP.l2d s1)) rfl rfl rfl (hb hby dprog_37_method_4_code_24) ?_
    show Steps p.tables e below (T1.setTop (mkF m 25 #[.val (.ref a1), .val (.double (0 : UInt64)), .second, .val (.ref av), .val (.int (1 : Int32)), .val (.int (0 : Int32)), .unset, .unset] [(.double (FP.l2d s1))])) _
    refine XS.dstore X1.here hx rfl (hb hby dprog_37_method_4_code_25) rfl (l' := #[.val (.ref a1), .val (.double (0 : UInt64)), .second, .val (.ref av), .val (.int (1 : Int32)), .val (.int (0 : Int32)), .val (.double (FP.l2d s1)), .second]) rfl ?_
    show Steps p.tables e below (T1.setTop (mkF m 27 #[.val (.ref a1), .val (.double (0 : UInt64)), .second, .val (.ref av), .val (.int (1 : Int32)), .val (.int (0 : Int32)), .val (.double (FP.l2d s1)), .second] [])) _
    refine XS.dloadN X1.here hx rfl (hb hby dprog_37_method_4_code_27) rfl ?_
    show Steps p.tables e below (T1.setTop (mkF m 28 #[.val (.ref a1), .val (.double (0 : UInt64)), .second, .val (.ref av), .val (.int (1 : Int32)), .val (.int (0 : Int32)), .val (.double (FP.l2d s1)), .second] [(.double (0 : UInt64))])) _
    refine XS.dload X1.here hx rfl (hb hby dprog_37_method_4_code_28) rfl ?_
    show Steps p.tables e below (T1.setTop (mkF m 30 #[.val (.ref a1), .val (.double (0 : UInt64)), .second, .val (.ref av), .val (.int (1 : Int32)), .val (.int (0 : Int32)), .val (.double (FP.l2d s1)), .second] [(.double (FP.l2d s1)), (.double (0 : UInt64))])) _
    refine XS.dload X1.here hx rfl (hb hby dprog_37_method_4_code_30) rfl ?_
    show Steps p.tables e below (T1.setTop (mkF m 32 #[.val (.ref a1), .val (.double (0 : UInt64)), .second, .val (.ref av), .val (.int (1 : Int32)), .val (.int (0 : Int32)), .val (.double (FP.l2d s1)), .second] [(.double (FP.l2d s1)), (.double (FP.l2d s1)), (.double (0 : UInt64))])) _
    refine XS.dmulS X1.here hx rfl (hb hby dprog_37_method_4_code_32) rfl (nn_w q_1) q_1 ?_
    show Steps p.tables e below (T1.setTop (mkF m 33 #[.val (.ref a1), .val (.double (0 : UInt64)), .second, .val (.ref av), .val (.int (1 : Int32)), .val (.int (0 : Int32)), .val (.double (FP.l2d s1)), .second] [(.double (FP.l2d (s1 * s1))), (.double (0 : UInt64))])) _
    refine XS.daddS X1.here hx rfl (hb hby dprog_37_method_4_code_33) rfl (nn_w r_1) r_1 ?_
    show Steps p.tables e below (T1.setTop (mkF m 34 #[.val (.ref a1), .val (.double (0 : UInt64)), .second, .val (.ref av), .val (.int (1 : Int32)), .val (.int (0 : Int32)), .val (.double (FP.l2d s1)), .second] [(.double (FP.l2d ((0 : Int64) + (s1 * s1))))])) _
    refine XS.dstoreN X1.here hx rfl (hb hby dprog_37_method_4_code_34) rfl (l' := #[.val (.ref a1), .val (.double (FP.l2d ((0 : Int64) + (s1 * s1)))), .second, .val (.ref av), .val (.int (1 : Int32)), .val (.int (0 : Int32)), .val (.double (FP.l2d s1)), .second]) rfl ?_
    show Steps p.tables e below (T1.setTop (mkF m 35 #[.val (.ref a1), .val (.double (FP.l2d ((0 : Int64) + (s1 * s1)))), .second, .val (.ref av), .val (.int (1 : Int32)), .val (.int (0 : Int32)), .val (.double (FP.l2d s1)), .second] [])) _
    refine XS.iinc X1.here hx rfl (hb hby dprog_37_method_4_code_35) rfl (l' := #[.val (.ref a1), .val (.double (FP.l2d ((0 : Int64) + (s1 * s1)))), .second, .val (.ref av), .val (.int (1 : Int32)), .val (.int (1 : Int32)), .val (.double (FP.l2d s1)), .second]) rfl ?_
    show Steps p.tables e below (T1.setTop (mkF m 38 #[.val (.ref a1), .val (.double (FP.l2d ((0 : Int64) + (s1 * s1)))), .second, .val (.ref av), .val (.int (1 : Int32)), .val (.int (1 : Int32)), .val (.double (FP.l2d s1)), .second] [])) _
    refine XS.goto X1.here hx rfl (pc0 := 38) (pc' := 14) rfl (hb hby dprog_37_method_4_code_38) (by decide) (by decide) ?_
    show Steps p.tables e below (T1.setTop (mkF m 14 #[.val (.ref a1), .val (.double (FP.l2d ((0 : Int64) + (s1 * s1)))), .second, .val (.ref av), .val (.int (1 : Int32)), .val (.int (1 : Int32)), .val (.double (FP.l2d s1)), .second] [])) _
    refine XS.iload X1.here hx rfl (hb hby dprog_37_method_4_code_14) rfl ?_
    show Steps p.tables e below (T1.setTop (mkF m 16 #[.val (.ref a1), .val (.double (FP.l2d ((0 : Int64) + (s1 * s1)))), .second, .val (.ref av), .val (.int (1 : Int32)), .val (.int (1 : Int32)), .val (.double (FP.l2d s1)), .second] [(.int (1 : Int32))])) _
    refine XS.iload X1.here hx rfl (hb hby dprog_37_method_4_code_16) rfl ?_
    show Steps p.tables e below (T1.setTop (mkF m 18 #[.val (.ref a1), .val (.double (FP.l2d ((0 : Int64) + (s1 * s1)))), .second, .val (.ref av), .val (.int (1 : Int32)), .val (.int (1 : Int32)), .val (.double (FP.l2d s1)), .second] [(.int (1 : Int32)), (.int (1 : Int32))])) _
    refine XS.icmpYes X1.here hx rfl (pc0 := 18) (pc' := 41) rfl (hb hby dprog_37_method_4_code_18) rfl (by decide) (by decide) (by decide) ?_
    show Steps p.tables e below (T1.setTop (mkF m 41 #[.val (.ref a1), .val (.double (FP.l2d ((0 : Int64) + (s1 * s1)))), .second, .val (.ref av), .val (.int (1 : Int32)), .val (.int (1 : Int32)), .val (.double (FP.l2d s1)), .second] [])) _
    refine XS.dloadN X1.here hx rfl (hb hby dprog_37_method_4_code_41) rfl ?_
    show Steps p.tables e below (T1.setTop (mkF m 42 #[.val (.ref a1), .val (.double (FP.l2d ((0 : Int64) + (s1 * s1)))), .second, .val (.ref av), .val (.int (1 : Int32)), .val (.int (1 : Int32)), .val (.double (FP.l2d s1)), .second] [(.double (FP.l2d ((0 : Int64) + (s1 * s1))))])) _
    exact retOut X1 hx Bd.returns rfl (Or.inr (Or.inr (Or.inl ⟨rfl, rfl, _, rfl⟩))) (hb hby dprog_37_method_4_code_42) hr
  · show Qsq1 Z a1 av kz s1 h0 n0 _ T1.heap _
    rw [e1]
    exact ⟨rfl, N0, rfl⟩
theorem ef_sq2 (m : MethodId) (x0 : Addr) : entryFrame m #[(.ref x0)] 8 = mkF m 0 #[.val (.ref x0), .unset, .unset, .unset, .unset, .unset, .unset, .unset] [] := by first | (simp [entryFrame, mkF, argsToLocals, Value.category]; done) | rfl
def Qsq2 (Z : State) (a1 av : Addr) (kz : ClassId) (s1 s2 : Int64) (h0 : Heap) (n0 : Nat) (v : Option Value) (h : Heap) (L : List Loc) : Prop := v = some (.double (FP.l2d (((0 : Int64) + (s1 * s1)) + (s2 * s2)))) ∧ Fr n0 L ∧ h = h0
set_option maxRecDepth 65536 in
set_option maxHeartbeats 40000000 in
theorem rmsq2 (l : Launch) (Z : State) (a0 : Array Value) (hw : ∀ d ∈ tables_1, d.before a0 Z = true) (ws : List Jvm.Cond) (a1 av : Addr) (kz : ClassId) (s1 s2 : Int64) (h0 : Heap) (n0 : Nat) (Z0 : n0 ≤ h0.size) (F_v : Fld Z h0 a1 "com/example/topic_crawler/topiccrawler/topic/SparseVector" "values" "[D" (.ref av)) (V_v : Arv Z h0 av kz .double (2 : Int32) [(.double (FP.l2d s1)), (.double (FP.l2d s2))] (.double (0 : UInt64))) (q_1 : FP.dmul (FP.l2d s1) (FP.l2d s1) = FP.l2d (s1 * s1)) (r_1 : FP.dadd (0 : UInt64) (FP.l2d (s1 * s1)) = FP.l2d ((0 : Int64) + (s1 * s1))) (q_2 : FP.dmul (FP.l2d s2) (FP.l2d s2) = FP.l2d (s2 * s2)) (r_2 : FP.dadd (FP.l2d ((0 : Int64) + (s1 * s1))) (FP.l2d (s2 * s2)) = FP.l2d (((0 : Int64) + (s1 * s1)) + (s2 * s2))) :
    MetFree l (⟨"com/example/topic_crawler/topiccrawler/topic/SparseVector", "squaredLength", "()D"⟩ : MethodName) (head1 (Jvm.Cond.code (⟨"com/example/topic_crawler/topiccrawler/topic/SparseVector", "squaredLength", "()D"⟩ : MethodName) prog_37_method_4_code 8 (some .double) :: ws) ({ frames := 0, cells := 0, slots := 0, locals := 0 } : Room)) (fun a U => a = #[(.ref a1)] ∧ Z.Warmed39 U.vm ∧ U.heap = h0) (fun _ _ _ _ _ => True) (fun _ U o U' => ∃ v L, o = .returned v ∧ Qsq2 Z a1 av kz s1 s2 h0 n0 v U'.heap L ∧ FrameEnd U o U' L ({ frames := 0, cells := 0, slots := 0, locals := 0 } : Room).cells ({ frames := 0, cells := 0, slots := 0, locals := 0 } : Room).slots) := by
  refine MetFree.of_bodySF (plainFor_of_name pn_0) hisR ?_
  intro p e s m args below meth c s₁ Bd hml0 hP hK
  obtain ⟨rfl, hZ, hh⟩ := hP
  have hx := Bd.exec
  have hby := Bd.bytes
  have hml : c.maxLocals = 8 := hml0
  have hown : s.vm.findClass "com/example/topic_crawler/topiccrawler/topic/SparseVector" = some m.cls := findClass_of_methodNamed Bd.named
  have hnm := (name_of_methodNamed Bd.named Bd.method).1
  have X0 : Stand p l e ({ frames := 0, cells := 0, slots := 0, locals := 0 } : Room) s m #[(.ref a1)] below meth c s₁ [] 0 0 := Stand.of_body Bd
  have e0 : s₁.heap = h0 := by rw [← hh, Bd.state]; rfl
  have N0 := Fr.nil n0
  have pre0 : ∀ t, Steps p.tables e below (s₁.setTop (mkF m 0 #[.val (.ref a1), .unset, .unset, .unset, .unset, .unset, .unset, .unset] [])) t → Steps p.tables e below (s₁.setTop (entryFrame m #[(.ref a1)] 8)) t := fun t k => castTop (ef_sq2 m a1) k
  obtain ⟨T1, X1, e1, st1⟩ := getF X0 hx hZ hown (host := "") (Or.inl (hw _ (List.mem_of_getElem? (i := 13) rfl))) Via.refl e0 F_v (g := (mkF m 3 #[.val (.ref a1), .val (.double (0 : UInt64)), .second, .unset, .unset, .unset, .unset, .unset] [(.ref a1)])) rfl rfl (hb hby dprog_37_method_4_code_3)
  obtain ⟨fs, hr, hrun, hended, hW, hsame⟩ := X1.leave (v := some (.double (FP.l2d (((0 : Int64) + (s1 * s1)) + (s2 * s2))))) (fun h => by rw [Bd.returns] at h; cases h)
  refine ⟨_, _, pre0 _ ?_, hrun, hended, _, _, rfl, ?_, ⟨_, rfl⟩, hW, hsame.mono (by decide) (by decide)⟩
  · show Steps p.tables e below (s₁.setTop (mkF m 0 #[.val (.ref a1), .unset, .unset, .unset, .unset, .unset, .unset, .unset] [])) _
    refine XS.dconst0 X0.here hx rfl (hb hby dprog_37_method_4_code_0) rfl ?_
    show Steps p.tables e below (s₁.setTop (mkF m 1 #[.val (.ref a1), .unset, .unset, .unset, .unset, .unset, .unset, .unset] [(.double (0 : UInt64))])) _
    refine XS.dstoreN X0.here hx rfl (hb hby dprog_37_method_4_code_1) rfl (l' := #[.val (.ref a1), .val (.double (0 : UInt64)), .second, .unset, .unset, .unset, .unset, .unset]) rfl ?_
    show Steps p.tables e below (s₁.setTop (mkF m 2 #[.val (.ref a1), .val (.double (0 : UInt64)), .second, .unset, .unset, .unset, .unset, .unset] [])) _
    refine XS.aloadN X0.here hx rfl (hb hby dprog_37_method_4_code_2) rfl rfl ?_
    show Steps p.tables e below (s₁.setTop (mkF m 3 #[.val (.ref a1), .val (.double (0 : UInt64)), .second, .unset, .unset, .unset, .unset, .unset] [(.ref a1)])) _
    refine st1 _ ?_
    show Steps p.tables e below (T1.setTop (mkF m 6 #[.val (.ref a1), .val (.double (0 : UInt64)), .second, .unset, .unset, .unset, .unset, .unset] [(.ref av)])) _
    refine XS.astoreN X1.here hx rfl (hb hby dprog_37_method_4_code_6) rfl rfl (l' := #[.val (.ref a1), .val (.double (0 : UInt64)), .second, .val (.ref av), .unset, .unset, .unset, .unset]) rfl ?_
    show Steps p.tables e below (T1.setTop (mkF m 7 #[.val (.ref a1), .val (.double (0 : UInt64)), .second, .val (.ref av), .unset, .unset, .unset, .unset] [])) _
    refine XS.aloadN X1.here hx rfl (hb hby dprog_37_method_4_code_7) rfl rfl ?_
    show Steps p.tables e below (T1.setTop (mkF m 8 #[.val (.ref a1), .val (.double (0 : UInt64)), .second, .val (.ref av), .unset, .unset, .unset, .unset] [(.ref av)])) _
    refine own_len X1 hx hZ e1 V_v rfl rfl (hb hby dprog_37_method_4_code_8) ?_
    show Steps p.tables e below (T1.setTop (mkF m 9 #[.val (.ref a1), .val (.double (0 : UInt64)), .second, .val (.ref av), .unset, .unset, .unset, .unset] [(.int (2 : Int32))])) _
    refine XS.istore X1.here hx rfl (hb hby dprog_37_method_4_code_9) rfl (l' := #[.val (.ref a1), .val (.double (0 : UInt64)), .second, .val (.ref av), .val (.int (2 : Int32)), .unset, .unset, .unset]) rfl ?_
    show Steps p.tables e below (T1.setTop (mkF m 11 #[.val (.ref a1), .val (.double (0 : UInt64)), .second, .val (.ref av), .val (.int (2 : Int32)), .unset, .unset, .unset] [])) _
    refine XS.iconst X1.here hx rfl (hb hby dprog_37_method_4_code_11) ?_
    show Steps p.tables e below (T1.setTop (mkF m 12 #[.val (.ref a1), .val (.double (0 : UInt64)), .second, .val (.ref av), .val (.int (2 : Int32)), .unset, .unset, .unset] [(.int (0 : Int32))])) _
    refine XS.istore X1.here hx rfl (hb hby dprog_37_method_4_code_12) rfl (l' := #[.val (.ref a1), .val (.double (0 : UInt64)), .second, .val (.ref av), .val (.int (2 : Int32)), .val (.int (0 : Int32)), .unset, .unset]) rfl ?_
    show Steps p.tables e below (T1.setTop (mkF m 14 #[.val (.ref a1), .val (.double (0 : UInt64)), .second, .val (.ref av), .val (.int (2 : Int32)), .val (.int (0 : Int32)), .unset, .unset] [])) _
    refine XS.iload X1.here hx rfl (hb hby dprog_37_method_4_code_14) rfl ?_
    show Steps p.tables e below (T1.setTop (mkF m 16 #[.val (.ref a1), .val (.double (0 : UInt64)), .second, .val (.ref av), .val (.int (2 : Int32)), .val (.int (0 : Int32)), .unset, .unset] [(.int (0 : Int32))])) _
    refine XS.iload X1.here hx rfl (hb hby dprog_37_method_4_code_16) rfl ?_
    show Steps p.tables e below (T1.setTop (mkF m 18 #[.val (.ref a1), .val (.double (0 : UInt64)), .second, .val (.ref av), .val (.int (2 : Int32)), .val (.int (0 : Int32)), .unset, .unset] [(.int (2 : Int32)), (.int (0 : Int32))])) _
    refine XS.icmpNo X1.here hx rfl (hb hby dprog_37_method_4_code_18) rfl (by decide) ?_
    show Steps p.tables e below (T1.setTop (mkF m 21 #[.val (.ref a1), .val (.double (0 : UInt64)), .second, .val (.ref av), .val (.int (2 : Int32)), .val (.int (0 : Int32)), .unset, .unset] [])) _
    refine XS.aloadN X1.here hx rfl (hb hby dprog_37_method_4_code_21) rfl rfl ?_
    show Steps p.tables e below (T1.setTop (mkF m 22 #[.val (.ref a1), .val (.double (0 : UInt64)), .second, .val (.ref av), .val (.int (2 : Int32)), .val (.int (0 : Int32)), .unset, .unset] [(.ref av)])) _
    refine XS.iload X1.here hx rfl (hb hby dprog_37_method_4_code_22) rfl ?_
    show Steps p.tables e below (T1.setTop (mkF m 24 #[.val (.ref a1), .val (.double (0 : UInt64)), .second, .val (.ref av), .val (.int (2 : Int32)), .val (.int (0 : Int32)), .unset, .unset] [(.int (0 : Int32)), (.ref av)])) _
    refine own_ldD X1 hx hZ e1 V_v ⟨by decide, by decide⟩ (v := (FP.l2d s1)) rfl rfl rfl (hb hby dprog_37_method_4_code_24) ?_
    show Steps p.tables e below (T1.setTop (mkF m 25 #[.val (.ref a1), .val (.double (0 : UInt64)), .second, .val (.ref av), .val (.int (2 : Int32)), .val (.int (0 : Int32)), .unset, .unset] [(.double (FP.l2d s1))])) _
    refine XS.dstore X1.here hx rfl (hb hby dprog_37_method_4_code_25) rfl (l' := #[.val (.ref a1), .val (.double (0 : UInt64)), .second, .val (.ref av), .val (.int (2 : Int32)), .val (.int (0 : Int32)), .val (.double (FP.l2d s1)), .second]) rfl ?_
    show Steps p.tables e below (T1.setTop (mkF m 27 #[.val (.ref a1), .val (.double (0 : UInt64)), .second, .val (.ref av), .val (.int (2 : Int32)), .val (.int (0 : Int32)), .val (.double (FP.l2d s1)), .second] [])) _
    refine XS.dloadN X1.here hx rfl (hb hby dprog_37_method_4_code_27) rfl ?_
    show Steps p.tables e below (T1.setTop (mkF m 28 #[.val (.ref a1), .val (.double (0 : UInt64)), .second, .val (.ref av), .val (.int (2 : Int32)), .val (.int (0 : Int32)), .val (.double (FP.l2d s1)), .second] [(.double (0 : UInt64))])) _
    refine XS.dload X1.here hx rfl (hb hby dprog_37_method_4_code_28) rfl ?_
    show Steps p.tables e below (T1.setTop (mkF m 30 #[.val (.ref a1), .val (.double (0 : UInt64)), .second, .val (.ref av), .val (.int (2 : Int32)), .val (.int (0 : Int32)), .val (.double (FP.l2d s1)), .second] [(.double (FP.l2d s1)), (.double (0 : UInt64))])) _
    refine XS.dload X1.here hx rfl (hb hby dprog_37_method_4_code_30) rfl ?_
    show Steps p.tables e below (T1.setTop (mkF m 32 #[.val (.ref a1), .val (.double (0 : UInt64)), .second, .val (.ref av), .val (.int (2 : Int32)), .val (.int (0 : Int32)), .val (.double (FP.l2d s1)), .second] [(.double (FP.l2d s1)), (.double (FP.l2d s1)), (.double (0 : UInt64))])) _
    refine XS.dmulS X1.here hx rfl (hb hby dprog_37_method_4_code_32) rfl (nn_w q_1) q_1 ?_
    show Steps p.tables e below (T1.setTop (mkF m 33 #[.val (.ref a1), .val (.double (0 : UInt64)), .second, .val (.ref av), .val (.int (2 : Int32)), .val (.int (0 : Int32)), .val (.double (FP.l2d s1)), .second] [(.double (FP.l2d (s1 * s1))), (.double (0 : UInt64))])) _
    refine XS.daddS X1.here hx rfl (hb hby dprog_37_method_4_code_33) rfl (nn_w r_1) r_1 ?_
    show Steps p.tables e below (T1.setTop (mkF m 34 #[.val (.ref a1), .val (.double (0 : UInt64)), .second, .val (.ref av), .val (.int (2 : Int32)), .val (.int (0 : Int32)), .val (.double (FP.l2d s1)), .second] [(.double (FP.l2d ((0 : Int64) + (s1 * s1))))])) _
    refine XS.dstoreN X1.here hx rfl (hb hby dprog_37_method_4_code_34) rfl (l' := #[.val (.ref a1), .val (.double (FP.l2d ((0 : Int64) + (s1 * s1)))), .second, .val (.ref av), .val (.int (2 : Int32)), .val (.int (0 : Int32)), .val (.double (FP.l2d s1)), .second]) rfl ?_
    show Steps p.tables e below (T1.setTop (mkF m 35 #[.val (.ref a1), .val (.double (FP.l2d ((0 : Int64) + (s1 * s1)))), .second, .val (.ref av), .val (.int (2 : Int32)), .val (.int (0 : Int32)), .val (.double (FP.l2d s1)), .second] [])) _
    refine XS.iinc X1.here hx rfl (hb hby dprog_37_method_4_code_35) rfl (l' := #[.val (.ref a1), .val (.double (FP.l2d ((0 : Int64) + (s1 * s1)))), .second, .val (.ref av), .val (.int (2 : Int32)), .val (.int (1 : Int32)), .val (.double (FP.l2d s1)), .second]) rfl ?_
    show Steps p.tables e below (T1.setTop (mkF m 38 #[.val (.ref a1), .val (.double (FP.l2d ((0 : Int64) + (s1 * s1)))), .second, .val (.ref av), .val (.int (2 : Int32)), .val (.int (1 : Int32)), .val (.double (FP.l2d s1)), .second] [])) _
    refine XS.goto X1.here hx rfl (pc0 := 38) (pc' := 14) rfl (hb hby dprog_37_method_4_code_38) (by decide) (by decide) ?_
    show Steps p.tables e below (T1.setTop (mkF m 14 #[.val (.ref a1), .val (.double (FP.l2d ((0 : Int64) + (s1 * s1)))), .second, .val (.ref av), .val (.int (2 : Int32)), .val (.int (1 : Int32)), .val (.double (FP.l2d s1)), .second] [])) _
    refine XS.iload X1.here hx rfl (hb hby dprog_37_method_4_code_14) rfl ?_
    show Steps p.tables e below (T1.setTop (mkF m 16 #[.val (.ref a1), .val (.double (FP.l2d ((0 : Int64) + (s1 * s1)))), .second, .val (.ref av), .val (.int (2 : Int32)), .val (.int (1 : Int32)), .val (.double (FP.l2d s1)), .second] [(.int (1 : Int32))])) _
    refine XS.iload X1.here hx rfl (hb hby dprog_37_method_4_code_16) rfl ?_
    show Steps p.tables e below (T1.setTop (mkF m 18 #[.val (.ref a1), .val (.double (FP.l2d ((0 : Int64) + (s1 * s1)))), .second, .val (.ref av), .val (.int (2 : Int32)), .val (.int (1 : Int32)), .val (.double (FP.l2d s1)), .second] [(.int (2 : Int32)), (.int (1 : Int32))])) _
    refine XS.icmpNo X1.here hx rfl (hb hby dprog_37_method_4_code_18) rfl (by decide) ?_
    show Steps p.tables e below (T1.setTop (mkF m 21 #[.val (.ref a1), .val (.double (FP.l2d ((0 : Int64) + (s1 * s1)))), .second, .val (.ref av), .val (.int (2 : Int32)), .val (.int (1 : Int32)), .val (.double (FP.l2d s1)), .second] [])) _
    refine XS.aloadN X1.here hx rfl (hb hby dprog_37_method_4_code_21) rfl rfl ?_
    show Steps p.tables e below (T1.setTop (mkF m 22 #[.val (.ref a1), .val (.double (FP.l2d ((0 : Int64) + (s1 * s1)))), .second, .val (.ref av), .val (.int (2 : Int32)), .val (.int (1 : Int32)), .val (.double (FP.l2d s1)), .second] [(.ref av)])) _
    refine XS.iload X1.here hx rfl (hb hby dprog_37_method_4_code_22) rfl ?_
    show Steps p.tables e below (T1.setTop (mkF m 24 #[.val (.ref a1), .val (.double (FP.l2d ((0 : Int64) + (s1 * s1)))), .second, .val (.ref av), .val (.int (2 : Int32)), .val (.int (1 : Int32)), .val (.double (FP.l2d s1)), .second] [(.int (1 : Int32)), (.ref av)])) _
    refine own_ldD X1 hx hZ e1 V_v ⟨by decide, by decide⟩ (v := (FP.l2d s2)) rfl rfl rfl (hb hby dprog_37_method_4_code_24) ?_
    show Steps p.tables e below (T1.setTop (mkF m 25 #[.val (.ref a1), .val (.double (FP.l2d ((0 : Int64) + (s1 * s1)))), .second, .val (.ref av), .val (.int (2 : Int32)), .val (.int (1 : Int32)), .val (.double (FP.l2d s1)), .second] [(.double (FP.l2d s2))])) _
    refine XS.dstore X1.here hx rfl (hb hby dprog_37_method_4_code_25) rfl (l' := #[.val (.ref a1), .val (.double (FP.l2d ((0 : Int64) + (s1 * s1)))), .second, .val (.ref av), .val (.int (2 : Int32)), .val (.int (1 : Int32)), .val (.double (FP.l2d s2)), .second]) rfl ?_
    show Steps p.tables e below (T1.setTop (mkF m 27 #[.val (.ref a1), .val (.double (FP.l2d ((0 : Int64) + (s1 * s1)))), .second, .val (.ref av), .val (.int (2 : Int32)), .val (.int (1 : Int32)), .val (.double (FP.l2d s2)), .second] [])) _
    refine XS.dloadN X1.here hx rfl (hb hby dprog_37_method_4_code_27) rfl ?_
    show Steps p.tables e below (T1.setTop (mkF m 28 #[.val (.ref a1), .val (.double (FP.l2d ((0 : Int64) + (s1 * s1)))), .second, .val (.ref av), .val (.int (2 : Int32)), .val (.int (1 : Int32)), .val (.double (FP.l2d s2)), .second] [(.double (FP.l2d ((0 : Int64) + (s1 * s1))))])) _
    refine XS.dload X1.here hx rfl (hb hby dprog_37_method_4_code_28) rfl ?_
    show Steps p.tables e below (T1.setTop (mkF m 30 #[.val (.ref a1), .val (.double (FP.l2d ((0 : Int64) + (s1 * s1)))), .second, .val (.ref av), .val (.int (2 : Int32)), .val (.int (1 : Int32)), .val (.double (FP.l2d s2)), .second] [(.double (FP.l2d s2)), (.double (FP.l2d ((0 : Int64) + (s1 * s1))))])) _
    refine XS.dload X1.here hx rfl (hb hby dprog_37_method_4_code_30) rfl ?_
    show Steps p.tables e below (T1.setTop (mkF m 32 #[.val (.ref a1), .val (.double (FP.l2d ((0 : Int64) + (s1 * s1)))), .second, .val (.ref av), .val (.int (2 : Int32)), .val (.int (1 : Int32)), .val (.double (FP.l2d s2)), .second] [(.double (FP.l2d s2)), (.double (FP.l2d s2)), (.double (FP.l2d ((0 : Int64) + (s1 * s1))))])) _
    refine XS.dmulS X1.here hx rfl (hb hby dprog_37_method_4_code_32) rfl (nn_w q_2) q_2 ?_
    show Steps p.tables e below (T1.setTop (mkF m 33 #[.val (.ref a1), .val (.double (FP.l2d ((0 : Int64) + (s1 * s1)))), .second, .val (.ref av), .val (.int (2 : Int32)), .val (.int (1 : Int32)), .val (.double (FP.l2d s2)), .second] [(.double (FP.l2d (s2 * s2))), (.double (FP.l2d ((0 : Int64) + (s1 * s1))))])) _
    refine XS.daddS X1.here hx rfl (hb hby dprog_37_method_4_code_33) rfl (nn_w r_2) r_2 ?_
    show Steps p.tables e below (T1.setTop (mkF m 34 #[.val (.ref a1), .val (.double (FP.l2d ((0 : Int64) + (s1 * s1)))), .second, .val (.ref av), .val (.int (2 : Int32)), .val (.int (1 : Int32)), .val (.double (FP.l2d s2)), .second] [(.double (FP.l2d (((0 : Int64) + (s1 * s1)) + (s2 * s2))))])) _
    refine XS.dstoreN X1.here hx rfl (hb hby dprog_37_method_4_code_34) rfl (l' := #[.val (.ref a1), .val (.double (FP.l2d (((0 : Int64) + (s1 * s1)) + (s2 * s2)))), .second, .val (.ref av), .val (.int (2 : Int32)), .val (.int (1 : Int32)), .val (.double (FP.l2d s2)), .second]) rfl ?_
    show Steps p.tables e below (T1.setTop (mkF m 35 #[.val (.ref a1), .val (.double (FP.l2d (((0 : Int64) + (s1 * s1)) + (s2 * s2)))), .second, .val (.ref av), .val (.int (2 : Int32)), .val (.int (1 : Int32)), .val (.double (FP.l2d s2)), .second] [])) _
    refine XS.iinc X1.here hx rfl (hb hby dprog_37_method_4_code_35) rfl (l' := #[.val (.ref a1), .val (.double (FP.l2d (((0 : Int64) + (s1 * s1)) + (s2 * s2)))), .second, .val (.ref av), .val (.int (2 : Int32)), .val (.int (2 : Int32)), .val (.double (FP.l2d s2)), .second]) rfl ?_
    show Steps p.tables e below (T1.setTop (mkF m 38 #[.val (.ref a1), .val (.double (FP.l2d (((0 : Int64) + (s1 * s1)) + (s2 * s2)))), .second, .val (.ref av), .val (.int (2 : Int32)), .val (.int (2 : Int32)), .val (.double (FP.l2d s2)), .second] [])) _
    refine XS.goto X1.here hx rfl (pc0 := 38) (pc' := 14) rfl (hb hby dprog_37_method_4_code_38) (by decide) (by decide) ?_
    show Steps p.tables e below (T1.setTop (mkF m 14 #[.val (.ref a1), .val (.double (FP.l2d (((0 : Int64) + (s1 * s1)) + (s2 * s2)))), .second, .val (.ref av), .val (.int (2 : Int32)), .val (.int (2 : Int32)), .val (.double (FP.l2d s2)), .second] [])) _
    refine XS.iload X1.here hx rfl (hb hby dprog_37_method_4_code_14) rfl ?_
    show Steps p.tables e below (T1.setTop (mkF m 16 #[.val (.ref a1), .val (.double (FP.l2d (((0 : Int64) + (s1 * s1)) + (s2 * s2)))), .second, .val (.ref av), .val (.int (2 : Int32)), .val (.int (2 : Int32)), .val (.double (FP.l2d s2)), .second] [(.int (2 : Int32))])) _
    refine XS.iload X1.here hx rfl (hb hby dprog_37_method_4_code_16) rfl ?_
    show Steps p.tables e below (T1.setTop (mkF m 18 #[.val (.ref a1), .val (.double (FP.l2d (((0 : Int64) + (s1 * s1)) + (s2 * s2)))), .second, .val (.ref av), .val (.int (2 : Int32)), .val (.int (2 : Int32)), .val (.double (FP.l2d s2)), .second] [(.int (2 : Int32)), (.int (2 : Int32))])) _
    refine XS.icmpYes X1.here hx rfl (pc0 := 18) (pc' := 41) rfl (hb hby dprog_37_method_4_code_18) rfl (by decide) (by decide) (by decide) ?_
    show Steps p.tables e below (T1.setTop (mkF m 41 #[.val (.ref a1), .val (.double (FP.l2d (((0 : Int64) + (s1 * s1)) + (s2 * s2)))), .second, .val (.ref av), .val (.int (2 : Int32)), .val (.int (2 : Int32)), .val (.double (FP.l2d s2)), .second] [])) _
    refine XS.dloadN X1.here hx rfl (hb hby dprog_37_method_4_code_41) rfl ?_
    show Steps p.tables e below (T1.setTop (mkF m 42 #[.val (.ref a1), .val (.double (FP.l2d (((0 : Int64) + (s1 * s1)) + (s2 * s2)))), .second, .val (.ref av), .val (.int (2 : Int32)), .val (.int (2 : Int32)), .val (.double (FP.l2d s2)), .second] [(.double (FP.l2d (((0 : Int64) + (s1 * s1)) + (s2 * s2))))])) _
    exact retOut X1 hx Bd.returns rfl (Or.inr (Or.inr (Or.inl ⟨rfl, rfl, _, rfl⟩))) (hb hby dprog_37_method_4_code_42) hr
  · show Qsq2 Z a1 av kz s1 s2 h0 n0 _ T1.heap _
    rw [e1]
    exact ⟨rfl, N0, rfl⟩
theorem ef_sq3 (m : MethodId) (x0 : Addr) : entryFrame m #[(.ref x0)] 8 = mkF m 0 #[.val (.ref x0), .unset, .unset, .unset, .unset, .unset, .unset, .unset] [] := by first | (simp [entryFrame, mkF, argsToLocals, Value.category]; done) | rfl
def Qsq3 (Z : State) (a1 av : Addr) (kz : ClassId) (s1 s2 s3 : Int64) (h0 : Heap) (n0 : Nat) (v : Option Value) (h : Heap) (L : List Loc) : Prop := v = some (.double (FP.l2d ((((0 : Int64) + (s1 * s1)) + (s2 * s2)) + (s3 * s3)))) ∧ Fr n0 L ∧ h = h0
set_option maxRecDepth 65536 in
set_option maxHeartbeats 40000000 in
theorem rmsq3 (l : Launch) (Z : State) (a0 : Array Value) (hw : ∀ d ∈ tables_1, d.before a0 Z = true) (ws : List Jvm.Cond) (a1 av : Addr) (kz : ClassId) (s1 s2 s3 : Int64) (h0 : Heap) (n0 : Nat) (Z0 : n0 ≤ h0.size) (F_v : Fld Z h0 a1 "com/example/topic_crawler/topiccrawler/topic/SparseVector" "values" "[D" (.ref av)) (V_v : Arv Z h0 av kz .double (3 : Int32) [(.double (FP.l2d s1)), (.double (FP.l2d s2)), (.double (FP.l2d s3))] (.double (0 : UInt64))) (q_1 : FP.dmul (FP.l2d s1) (FP.l2d s1) = FP.l2d (s1 * s1)) (r_1 : FP.dadd (0 : UInt64) (FP.l2d (s1 * s1)) = FP.l2d ((0 : Int64) + (s1 * s1))) (q_2 : FP.dmul (FP.l2d s2) (FP.l2d s2) = FP.l2d (s2 * s2)) (r_2 : FP.dadd (FP.l2d ((0 : Int64) + (s1 * s1))) (FP.l2d (s2 * s2)) = FP.l2d (((0 : Int64) + (s1 * s1)) + (s2 * s2))) (q_3 : FP.dmul (FP.l2d s3) (FP.l2d s3) = FP.l2d (s3 * s3)) (r_3 : FP.dadd (FP.l2d (((0 : Int64) + (s1 * s1)) + (s2 * s2))) (FP.l2d (s3 * s3)) = FP.l2d ((((0 : Int64) + (s1 * s1)) + (s2 * s2)) + (s3 * s3))) :
    MetFree l (⟨"com/example/topic_crawler/topiccrawler/topic/SparseVector", "squaredLength", "()D"⟩ : MethodName) (head1 (Jvm.Cond.code (⟨"com/example/topic_crawler/topiccrawler/topic/SparseVector", "squaredLength", "()D"⟩ : MethodName) prog_37_method_4_code 8 (some .double) :: ws) ({ frames := 0, cells := 0, slots := 0, locals := 0 } : Room)) (fun a U => a = #[(.ref a1)] ∧ Z.Warmed39 U.vm ∧ U.heap = h0) (fun _ _ _ _ _ => True) (fun _ U o U' => ∃ v L, o = .returned v ∧ Qsq3 Z a1 av kz s1 s2 s3 h0 n0 v U'.heap L ∧ FrameEnd U o U' L ({ frames := 0, cells := 0, slots := 0, locals := 0 } : Room).cells ({ frames := 0, cells := 0, slots := 0, locals := 0 } : Room).slots) := by
  refine MetFree.of_bodySF (plainFor_of_name pn_0) hisR ?_
  intro p e s m args below meth c s₁ Bd hml0 hP hK
  obtain ⟨rfl, hZ, hh⟩ := hP
  have hx := Bd.exec
  have hby := Bd.bytes
  have hml : c.maxLocals = 8 := hml0
  have hown : s.vm.findClass "com/example/topic_crawler/topiccrawler/topic/SparseVector" = some m.cls := findClass_of_methodNamed Bd.named
  have hnm := (name_of_methodNamed Bd.named Bd.method).1
  have X0 : Stand p l e ({ frames := 0, cells := 0, slots := 0, locals := 0 } : Room) s m #[(.ref a1)] below meth c s₁ [] 0 0 := Stand.of_body Bd
  have e0 : s₁.heap = h0 := by rw [← hh, Bd.state]; rfl
  have N0 := Fr.nil n0
  have pre0 : ∀ t, Steps p.tables e below (s₁.setTop (mkF m 0 #[.val (.ref a1), .unset, .unset, .unset, .unset, .unset, .unset, .unset] [])) t → Steps p.tables e below (s₁.setTop (entryFrame m #[(.ref a1)] 8)) t := fun t k => castTop (ef_sq3 m a1) k
  obtain ⟨T1, X1, e1, st1⟩ := getF X0 hx hZ hown (host := "") (Or.inl (hw _ (List.mem_of_getElem? (i := 13) rfl))) Via.refl e0 F_v (g := (mkF m 3 #[.val (.ref a1), .val (.double (0 : UInt64)), .second, .unset, .unset, .unset, .unset, .unset] [(.ref a1)])) rfl rfl (hb hby dprog_37_method_4_code_3)
  obtain ⟨fs, hr, hrun, hended, hW, hsame⟩ := X1.leave (v := some (.double (FP.l2d ((((0 : Int64) + (s1 * s1)) + (s2 * s2)) + (s3 * s3))))) (fun h => by rw [Bd.returns] at h; cases h)
  refine ⟨_, _, pre0 _ ?_, hrun, hended, _, _, rfl, ?_, ⟨_, rfl⟩, hW, hsame.mono (by decide) (by decide)⟩
  · show Steps p.tables e below (s₁.setTop (mkF m 0 #[.val (.ref a1), .unset, .unset, .unset, .unset, .unset, .unset, .unset] [])) _
    refine XS.dconst0 X0.here hx rfl (hb hby dprog_37_method_4_code_0) rfl ?_
    show Steps p.tables e below (s₁.setTop (mkF m 1 #[.val (.ref a1), .unset, .unset, .unset, .unset, .unset, .unset, .unset] [(.double (0 : UInt64))])) _
    refine XS.dstoreN X0.here hx rfl (hb hby dprog_37_method_4_code_1) rfl (l' := #[.val (.ref a1), .val (.double (0 : UInt64)), .second, .unset, .unset, .unset, .unset, .unset]) rfl ?_
    show Steps p.tables e below (s₁.setTop (mkF m 2 #[.val (.ref a1), .val (.double (0 : UInt64)), .second, .unset, .unset, .unset, .unset, .unset] [])) _
    refine XS.aloadN X0.here hx rfl (hb hby dprog_37_method_4_code_2) rfl rfl ?_
    show Steps p.tables e below (s₁.setTop (mkF m 3 #[.val (.ref a1), .val (.double (0 : UInt64)), .second, .unset, .unset, .unset, .unset, .unset] [(.ref a1)])) _
    refine st1 _ ?_
    show Steps p.tables e below (T1.setTop (mkF m 6 #[.val (.ref a1), .val (.double (0 : UInt64)), .second, .unset, .unset, .unset, .unset, .unset] [(.ref av)])) _
    refine XS.astoreN X1.here hx rfl (hb hby dprog_37_method_4_code_6) rfl rfl (l' := #[.val (.ref a1), .val (.double (0 : UInt64)), .second, .val (.ref av), .unset, .unset, .unset, .unset]) rfl ?_
    show Steps p.tables e below (T1.setTop (mkF m 7 #[.val (.ref a1), .val (.double (0 : UInt64)), .second, .val (.ref av), .unset, .unset, .unset, .unset] [])) _
    refine XS.aloadN X1.here hx rfl (hb hby dprog_37_method_4_code_7) rfl rfl ?_
    show Steps p.tables e below (T1.setTop (mkF m 8 #[.val (.ref a1), .val (.double (0 : UInt64)), .second, .val (.ref av), .unset, .unset, .unset, .unset] [(.ref av)])) _
    refine own_len X1 hx hZ e1 V_v rfl rfl (hb hby dprog_37_method_4_code_8) ?_
    show Steps p.tables e below (T1.setTop (mkF m 9 #[.val (.ref a1), .val (.double (0 : UInt64)), .second, .val (.ref av), .unset, .unset, .unset, .unset] [(.int (3 : Int32))])) _
    refine XS.istore X1.here hx rfl (hb hby dprog_37_method_4_code_9) rfl (l' := #[.val (.ref a1), .val (.double (0 : UInt64)), .second, .val (.ref av), .val (.int (3 : Int32)), .unset, .unset, .unset]) rfl ?_
    show Steps p.tables e below (T1.setTop (mkF m 11 #[.val (.ref a1), .val (.double (0 : UInt64)), .second, .val (.ref av), .val (.int (3 : Int32)), .unset, .unset, .unset] [])) _
    refine XS.iconst X1.here hx rfl (hb hby dprog_37_method_4_code_11) ?_
    show Steps p.tables e below (T1.setTop (mkF m 12 #[.val (.ref a1), .val (.double (0 : UInt64)), .second, .val (.ref av), .val (.int (3 : Int32)), .unset, .unset, .unset] [(.int (0 : Int32))])) _
    refine XS.istore X1.here hx rfl (hb hby dprog_37_method_4_code_12) rfl (l' := #[.val (.ref a1), .val (.double (0 : UInt64)), .second, .val (.ref av), .val (.int (3 : Int32)), .val (.int (0 : Int32)), .unset, .unset]) rfl ?_
    show Steps p.tables e below (T1.setTop (mkF m 14 #[.val (.ref a1), .val (.double (0 : UInt64)), .second, .val (.ref av), .val (.int (3 : Int32)), .val (.int (0 : Int32)), .unset, .unset] [])) _
    refine XS.iload X1.here hx rfl (hb hby dprog_37_method_4_code_14) rfl ?_
    show Steps p.tables e below (T1.setTop (mkF m 16 #[.val (.ref a1), .val (.double (0 : UInt64)), .second, .val (.ref av), .val (.int (3 : Int32)), .val (.int (0 : Int32)), .unset, .unset] [(.int (0 : Int32))])) _
    refine XS.iload X1.here hx rfl (hb hby dprog_37_method_4_code_16) rfl ?_
    show Steps p.tables e below (T1.setTop (mkF m 18 #[.val (.ref a1), .val (.double (0 : UInt64)), .second, .val (.ref av), .val (.int (3 : Int32)), .val (.int (0 : Int32)), .unset, .unset] [(.int (3 : Int32)), (.int (0 : Int32))])) _
    refine XS.icmpNo X1.here hx rfl (hb hby dprog_37_method_4_code_18) rfl (by decide) ?_
    show Steps p.tables e below (T1.setTop (mkF m 21 #[.val (.ref a1), .val (.double (0 : UInt64)), .second, .val (.ref av), .val (.int (3 : Int32)), .val (.int (0 : Int32)), .unset, .unset] [])) _
    refine XS.aloadN X1.here hx rfl (hb hby dprog_37_method_4_code_21) rfl rfl ?_
    show Steps p.tables e below (T1.setTop (mkF m 22 #[.val (.ref a1), .val (.double (0 : UInt64)), .second, .val (.ref av), .val (.int (3 : Int32)), .val (.int (0 : Int32)), .unset, .unset] [(.ref av)])) _
    refine XS.iload X1.here hx rfl (hb hby dprog_37_method_4_code_22) rfl ?_
    show Steps p.tables e below (T1.setTop (mkF m 24 #[.val (.ref a1), .val (.double (0 : UInt64)), .second, .val (.ref av), .val (.int (3 : Int32)), .val (.int (0 : Int32)), .unset, .unset] [(.int (0 : Int32)), (.ref av)])) _
    refine own_ldD X1 hx hZ e1 V_v ⟨by decide, by decide⟩ (v := (FP.l2d s1)) rfl rfl rfl (hb hby dprog_37_method_4_code_24) ?_
    show Steps p.tables e below (T1.setTop (mkF m 25 #[.val (.ref a1), .val (.double (0 : UInt64)), .second, .val (.ref av), .val (.int (3 : Int32)), .val (.int (0 : Int32)), .unset, .unset] [(.double (FP.l2d s1))])) _
    refine XS.dstore X1.here hx rfl (hb hby dprog_37_method_4_code_25) rfl (l' := #[.val (.ref a1), .val (.double (0 : UInt64)), .second, .val (.ref av), .val (.int (3 : Int32)), .val (.int (0 : Int32)), .val (.double (FP.l2d s1)), .second]) rfl ?_
    show Steps p.tables e below (T1.setTop (mkF m 27 #[.val (.ref a1), .val (.double (0 : UInt64)), .second, .val (.ref av), .val (.int (3 : Int32)), .val (.int (0 : Int32)), .val (.double (FP.l2d s1)), .second] [])) _
    refine XS.dloadN X1.here hx rfl (hb hby dprog_37_method_4_code_27) rfl ?_
    show Steps p.tables e below (T1.setTop (mkF m 28 #[.val (.ref a1), .val (.double (0 : UInt64)), .second, .val (.ref av), .val (.int (3 : Int32)), .val (.int (0 : Int32)), .val (.double (FP.l2d s1)), .second] [(.double (0 : UInt64))])) _
    refine XS.dload X1.here hx rfl (hb hby dprog_37_method_4_code_28) rfl ?_
    show Steps p.tables e below (T1.setTop (mkF m 30 #[.val (.ref a1), .val (.double (0 : UInt64)), .second, .val (.ref av), .val (.int (3 : Int32)), .val (.int (0 : Int32)), .val (.double (FP.l2d s1)), .second] [(.double (FP.l2d s1)), (.double (0 : UInt64))])) _
    refine XS.dload X1.here hx rfl (hb hby dprog_37_method_4_code_30) rfl ?_
    show Steps p.tables e below (T1.setTop (mkF m 32 #[.val (.ref a1), .val (.double (0 : UInt64)), .second, .val (.ref av), .val (.int (3 : Int32)), .val (.int (0 : Int32)), .val (.double (FP.l2d s1)), .second] [(.double (FP.l2d s1)), (.double (FP.l2d s1)), (.double (0 : UInt64))])) _
    refine XS.dmulS X1.here hx rfl (hb hby dprog_37_method_4_code_32) rfl (nn_w q_1) q_1 ?_
    show Steps p.tables e below (T1.setTop (mkF m 33 #[.val (.ref a1), .val (.double (0 : UInt64)), .second, .val (.ref av), .val (.int (3 : Int32)), .val (.int (0 : Int32)), .val (.double (FP.l2d s1)), .second] [(.double (FP.l2d (s1 * s1))), (.double (0 : UInt64))])) _
    refine XS.daddS X1.here hx rfl (hb hby dprog_37_method_4_code_33) rfl (nn_w r_1) r_1 ?_
    show Steps p.tables e below (T1.setTop (mkF m 34 #[.val (.ref a1), .val (.double (0 : UInt64)), .second, .val (.ref av), .val (.int (3 : Int32)), .val (.int (0 : Int32)), .val (.double (FP.l2d s1)), .second] [(.double (FP.l2d ((0 : Int64) + (s1 * s1))))])) _
    refine XS.dstoreN X1.here hx rfl (hb hby dprog_37_method_4_code_34) rfl (l' := #[.val (.ref a1), .val (.double (FP.l2d ((0 : Int64) + (s1 * s1)))), .second, .val (.ref av), .val (.int (3 : Int32)), .val (.int (0 : Int32)), .val (.double (FP.l2d s1)), .second]) rfl ?_
    show Steps p.tables e below (T1.setTop (mkF m 35 #[.val (.ref a1), .val (.double (FP.l2d ((0 : Int64) + (s1 * s1)))), .second, .val (.ref av), .val (.int (3 : Int32)), .val (.int (0 : Int32)), .val (.double (FP.l2d s1)), .second] [])) _
    refine XS.iinc X1.here hx rfl (hb hby dprog_37_method_4_code_35) rfl (l' := #[.val (.ref a1), .val (.double (FP.l2d ((0 : Int64) + (s1 * s1)))), .second, .val (.ref av), .val (.int (3 : Int32)), .val (.int (1 : Int32)), .val (.double (FP.l2d s1)), .second]) rfl ?_
    show Steps p.tables e below (T1.setTop (mkF m 38 #[.val (.ref a1), .val (.double (FP.l2d ((0 : Int64) + (s1 * s1)))), .second, .val (.ref av), .val (.int (3 : Int32)), .val (.int (1 : Int32)), .val (.double (FP.l2d s1)), .second] [])) _
    refine XS.goto X1.here hx rfl (pc0 := 38) (pc' := 14) rfl (hb hby dprog_37_method_4_code_38) (by decide) (by decide) ?_
    show Steps p.tables e below (T1.setTop (mkF m 14 #[.val (.ref a1), .val (.double (FP.l2d ((0 : Int64) + (s1 * s1)))), .second, .val (.ref av), .val (.int (3 : Int32)), .val (.int (1 : Int32)), .val (.double (FP.l2d s1)), .second] [])) _
    refine XS.iload X1.here hx rfl (hb hby dprog_37_method_4_code_14) rfl ?_
    show Steps p.tables e below (T1.setTop (mkF m 16 #[.val (.ref a1), .val (.double (FP.l2d ((0 : Int64) + (s1 * s1)))), .second, .val (.ref av), .val (.int (3 : Int32)), .val (.int (1 : Int32)), .val (.double (FP.l2d s1)), .second] [(.int (1 : Int32))])) _
    refine XS.iload X1.here hx rfl (hb hby dprog_37_method_4_code_16) rfl ?_
    show Steps p.tables e below (T1.setTop (mkF m 18 #[.val (.ref a1), .val (.double (FP.l2d ((0 : Int64) + (s1 * s1)))), .second, .val (.ref av), .val (.int (3 : Int32)), .val (.int (1 : Int32)), .val (.double (FP.l2d s1)), .second] [(.int (3 : Int32)), (.int (1 : Int32))])) _
    refine XS.icmpNo X1.here hx rfl (hb hby dprog_37_method_4_code_18) rfl (by decide) ?_
    show Steps p.tables e below (T1.setTop (mkF m 21 #[.val (.ref a1), .val (.double (FP.l2d ((0 : Int64) + (s1 * s1)))), .second, .val (.ref av), .val (.int (3 : Int32)), .val (.int (1 : Int32)), .val (.double (FP.l2d s1)), .second] [])) _
    refine XS.aloadN X1.here hx rfl (hb hby dprog_37_method_4_code_21) rfl rfl ?_
    show Steps p.tables e below (T1.setTop (mkF m 22 #[.val (.ref a1), .val (.double (FP.l2d ((0 : Int64) + (s1 * s1)))), .second, .val (.ref av), .val (.int (3 : Int32)), .val (.int (1 : Int32)), .val (.double (FP.l2d s1)), .second] [(.ref av)])) _
    refine XS.iload X1.here hx rfl (hb hby dprog_37_method_4_code_22) rfl ?_
    show Steps p.tables e below (T1.setTop (mkF m 24 #[.val (.ref a1), .val (.double (FP.l2d ((0 : Int64) + (s1 * s1)))), .second, .val (.ref av), .val (.int (3 : Int32)), .val (.int (1 : Int32)), .val (.double (FP.l2d s1)), .second] [(.int (1 : Int32)), (.ref av)])) _
    refine own_ldD X1 hx hZ e1 V_v ⟨by decide, by decide⟩ (v := (FP.l2d s2)) rfl rfl rfl (hb hby dprog_37_method_4_code_24) ?_
    show Steps p.tables e below (T1.setTop (mkF m 25 #[.val (.ref a1), .val (.double (FP.l2d ((0 : Int64) + (s1 * s1)))), .second, .val (.ref av), .val (.int (3 : Int32)), .val (.int (1 : Int32)), .val (.double (FP.l2d s1)), .second] [(.double (FP.l2d s2))])) _
    refine XS.dstore X1.here hx rfl (hb hby dprog_37_method_4_code_25) rfl (l' := #[.val (.ref a1), .val (.double (FP.l2d ((0 : Int64) + (s1 * s1)))), .second, .val (.ref av), .val (.int (3 : Int32)), .val (.int (1 : Int32)), .val (.double (FP.l2d s2)), .second]) rfl ?_
    show Steps p.tables e below (T1.setTop (mkF m 27 #[.val (.ref a1), .val (.double (FP.l2d ((0 : Int64) + (s1 * s1)))), .second, .val (.ref av), .val (.int (3 : Int32)), .val (.int (1 : Int32)), .val (.double (FP.l2d s2)), .second] [])) _
    refine XS.dloadN X1.here hx rfl (hb hby dprog_37_method_4_code_27) rfl ?_
    show Steps p.tables e below (T1.setTop (mkF m 28 #[.val (.ref a1), .val (.double (FP.l2d ((0 : Int64) + (s1 * s1)))), .second, .val (.ref av), .val (.int (3 : Int32)), .val (.int (1 : Int32)), .val (.double (FP.l2d s2)), .second] [(.double (FP.l2d ((0 : Int64) + (s1 * s1))))])) _
    refine XS.dload X1.here hx rfl (hb hby dprog_37_method_4_code_28) rfl ?_
    show Steps p.tables e below (T1.setTop (mkF m 30 #[.val (.ref a1), .val (.double (FP.l2d ((0 : Int64) + (s1 * s1)))), .second, .val (.ref av), .val (.int (3 : Int32)), .val (.int (1 : Int32)), .val (.double (FP.l2d s2)), .second] [(.double (FP.l2d s2)), (.double (FP.l2d ((0 : Int64) + (s1 * s1))))])) _
    refine XS.dload X1.here hx rfl (hb hby dprog_37_method_4_code_30) rfl ?_
    show Steps p.tables e below (T1.setTop (mkF m 32 #[.val (.ref a1), .val (.double (FP.l2d ((0 : Int64) + (s1 * s1)))), .second, .val (.ref av), .val (.int (3 : Int32)), .val (.int (1 : Int32)), .val (.double (FP.l2d s2)), .second] [(.double (FP.l2d s2)), (.double (FP.l2d s2)), (.double (FP.l2d ((0 : Int64) + (s1 * s1))))])) _
    refine XS.dmulS X1.here hx rfl (hb hby dprog_37_method_4_code_32) rfl (nn_w q_2) q_2 ?_
    show Steps p.tables e below (T1.setTop (mkF m 33 #[.val (.ref a1), .val (.double (FP.l2d ((0 : Int64) + (s1 * s1)))), .second, .val (.ref av), .val (.int (3 : Int32)), .val (.int (1 : Int32)), .val (.double (FP.l2d s2)), .second] [(.double (FP.l2d (s2 * s2))), (.double (FP.l2d ((0 : Int64) + (s1 * s1))))])) _
    refine XS.daddS X1.here hx rfl (hb hby dprog_37_method_4_code_33) rfl (nn_w r_2) r_2 ?_
    show Steps p.tables e below (T1.setTop (mkF m 34 #[.val (.ref a1), .val (.double (FP.l2d ((0 : Int64) + (s1 * s1)))), .second, .val (.ref av), .val (.int (3 : Int32)), .val (.int (1 : Int32)), .val (.double (FP.l2d s2)), .second] [(.double (FP.l2d (((0 : Int64) + (s1 * s1)) + (s2 * s2))))])) _
    refine XS.dstoreN X1.here hx rfl (hb hby dprog_37_method_4_code_34) rfl (l' := #[.val (.ref a1), .val (.double (FP.l2d (((0 : Int64) + (s1 * s1)) + (s2 * s2)))), .second, .val (.ref av), .val (.int (3 : Int32)), .val (.int (1 : Int32)), .val (.double (FP.l2d s2)), .second]) rfl ?_
    show Steps p.tables e below (T1.setTop (mkF m 35 #[.val (.ref a1), .val (.double (FP.l2d (((0 : Int64) + (s1 * s1)) + (s2 * s2)))), .second, .val (.ref av), .val (.int (3 : Int32)), .val (.int (1 : Int32)), .val (.double (FP.l2d s2)), .second] [])) _
    refine XS.iinc X1.here hx rfl (hb hby dprog_37_method_4_code_35) rfl (l' := #[.val (.ref a1), .val (.double (FP.l2d (((0 : Int64) + (s1 * s1)) + (s2 * s2)))), .second, .val (.ref av), .val (.int (3 : Int32)), .val (.int (2 : Int32)), .val (.double (FP.l2d s2)), .second]) rfl ?_
    show Steps p.tables e below (T1.setTop (mkF m 38 #[.val (.ref a1), .val (.double (FP.l2d (((0 : Int64) + (s1 * s1)) + (s2 * s2)))), .second, .val (.ref av), .val (.int (3 : Int32)), .val (.int (2 : Int32)), .val (.double (FP.l2d s2)), .second] [])) _
    refine XS.goto X1.here hx rfl (pc0 := 38) (pc' := 14) rfl (hb hby dprog_37_method_4_code_38) (by decide) (by decide) ?_
    show Steps p.tables e below (T1.setTop (mkF m 14 #[.val (.ref a1), .val (.double (FP.l2d (((0 : Int64) + (s1 * s1)) + (s2 * s2)))), .second, .val (.ref av), .val (.int (3 : Int32)), .val (.int (2 : Int32)), .val (.double (FP.l2d s2)), .second] [])) _
    refine XS.iload X1.here hx rfl (hb hby dprog_37_method_4_code_14) rfl ?_
    show Steps p.tables e below (T1.setTop (mkF m 16 #[.val (.ref a1), .val (.double (FP.l2d (((0 : Int64) + (s1 * s1)) + (s2 * s2)))), .second, .val (.ref av), .val (.int (3 : Int32)), .val (.int (2 : Int32)), .val (.double (FP.l2d s2)), .second] [(.int (2 : Int32))])) _
    refine XS.iload X1.here hx rfl (hb hby dprog_37_method_4_code_16) rfl ?_
    show Steps p.tables e below (T1.setTop (mkF m 18 #[.val (.ref a1), .val (.double (FP.l2d (((0 : Int64) + (s1 * s1)) + (s2 * s2)))), .second, .val (.ref av), .val (.int (3 : Int32)), .val (.int (2 : Int32)), .val (.double (FP.l2d s2)), .second] [(.int (3 : Int32)), (.int (2 : Int32))])) _
    refine XS.icmpNo X1.here hx rfl (hb hby dprog_37_method_4_code_18) rfl (by decide) ?_
    show Steps p.tables e below (T1.setTop (mkF m 21 #[.val (.ref a1), .val (.double (FP.l2d (((0 : Int64) + (s1 * s1)) + (s2 * s2)))), .second, .val (.ref av), .val (.int (3 : Int32)), .val (.int (2 : Int32)), .val (.double (FP.l2d s2)), .second] [])) _
    refine XS.aloadN X1.here hx rfl (hb hby dprog_37_method_4_code_21) rfl rfl ?_
    show Steps p.tables e below (T1.setTop (mkF m 22 #[.val (.ref a1), .val (.double (FP.l2d (((0 : Int64) + (s1 * s1)) + (s2 * s2)))), .second, .val (.ref av), .val (.int (3 : Int32)), .val (.int (2 : Int32)), .val (.double (FP.l2d s2)), .second] [(.ref av)])) _
    refine XS.iload X1.here hx rfl (hb hby dprog_37_method_4_code_22) rfl ?_
    show Steps p.tables e below (T1.setTop (mkF m 24 #[.val (.ref a1), .val (.double (FP.l2d (((0 : Int64) + (s1 * s1)) + (s2 * s2)))), .second, .val (.ref av), .val (.int (3 : Int32)), .val (.int (2 : Int32)), .val (.double (FP.l2d s2)), .second] [(.int (2 : Int32)), (.ref av)])) _
    refine own_ldD X1 hx hZ e1 V_v ⟨by decide, by decide⟩ (v := (FP.l2d s3)) rfl rfl rfl (hb hby dprog_37_method_4_code_24) ?_
    show Steps p.tables e below (T1.setTop (mkF m 25 #[.val (.ref a1), .val (.double (FP.l2d (((0 : Int64) + (s1 * s1)) + (s2 * s2)))), .second, .val (.ref av), .val (.int (3 : Int32)), .val (.int (2 : Int32)), .val (.double (FP.l2d s2)), .second] [(.double (FP.l2d s3))])) _
    refine XS.dstore X1.here hx rfl (hb hby dprog_37_method_4_code_25) rfl (l' := #[.val (.ref a1), .val (.double (FP.l2d (((0 : Int64) + (s1 * s1)) + (s2 * s2)))), .second, .val (.ref av), .val (.int (3 : Int32)), .val (.int (2 : Int32)), .val (.double (FP.l2d s3)), .second]) rfl ?_
    show Steps p.tables e below (T1.setTop (mkF m 27 #[.val (.ref a1), .val (.double (FP.l2d (((0 : Int64) + (s1 * s1)) + (s2 * s2)))), .second, .val (.ref av), .val (.int (3 : Int32)), .val (.int (2 : Int32)), .val (.double (FP.l2d s3)), .second] [])) _
    refine XS.dloadN X1.here hx rfl (hb hby dprog_37_method_4_code_27) rfl ?_
    show Steps p.tables e below (T1.setTop (mkF m 28 #[.val (.ref a1), .val (.double (FP.l2d (((0 : Int64) + (s1 * s1)) + (s2 * s2)))), .second, .val (.ref av), .val (.int (3 : Int32)), .val (.int (2 : Int32)), .val (.double (FP.l2d s3)), .second] [(.double (FP.l2d (((0 : Int64) + (s1 * s1)) + (s2 * s2))))])) _
    refine XS.dload X1.here hx rfl (hb hby dprog_37_method_4_code_28) rfl ?_
    show Steps p.tables e below (T1.setTop (mkF m 30 #[.val (.ref a1), .val (.double (FP.l2d (((0 : Int64) + (s1 * s1)) + (s2 * s2)))), .second, .val (.ref av), .val (.int (3 : Int32)), .val (.int (2 : Int32)), .val (.double (FP.l2d s3)), .second] [(.double (FP.l2d s3)), (.double (FP.l2d (((0 : Int64) + (s1 * s1)) + (s2 * s2))))])) _
    refine XS.dload X1.here hx rfl (hb hby dprog_37_method_4_code_30) rfl ?_
    show Steps p.tables e below (T1.setTop (mkF m 32 #[.val (.ref a1), .val (.double (FP.l2d (((0 : Int64) + (s1 * s1)) + (s2 * s2)))), .second, .val (.ref av), .val (.int (3 : Int32)), .val (.int (2 : Int32)), .val (.double (FP.l2d s3)), .second] [(.double (FP.l2d s3)), (.double (FP.l2d s3)), (.double (FP.l2d (((0 : Int64) + (s1 * s1)) + (s2 * s2))))])) _
    refine XS.dmulS X1.here hx rfl (hb hby dprog_37_method_4_code_32) rfl (nn_w q_3) q_3 ?_
    show Steps p.tables e below (T1.setTop (mkF m 33 #[.val (.ref a1), .val (.double (FP.l2d (((0 : Int64) + (s1 * s1)) + (s2 * s2)))), .second, .val (.ref av), .val (.int (3 : Int32)), .val (.int (2 : Int32)), .val (.double (FP.l2d s3)), .second] [(.double (FP.l2d (s3 * s3))), (.double (FP.l2d (((0 : Int64) + (s1 * s1)) + (s2 * s2))))])) _
    refine XS.daddS X1.here hx rfl (hb hby dprog_37_method_4_code_33) rfl (nn_w r_3) r_3 ?_
    show Steps p.tables e below (T1.setTop (mkF m 34 #[.val (.ref a1), .val (.double (FP.l2d (((0 : Int64) + (s1 * s1)) + (s2 * s2)))), .second, .val (.ref av), .val (.int (3 : Int32)), .val (.int (2 : Int32)), .val (.double (FP.l2d s3)), .second] [(.double (FP.l2d ((((0 : Int64) + (s1 * s1)) + (s2 * s2)) + (s3 * s3))))])) _
    refine XS.dstoreN X1.here hx rfl (hb hby dprog_37_method_4_code_34) rfl (l' := #[.val (.ref a1), .val (.double (FP.l2d ((((0 : Int64) + (s1 * s1)) + (s2 * s2)) + (s3 * s3)))), .second, .val (.ref av), .val (.int (3 : Int32)), .val (.int (2 : Int32)), .val (.double (FP.l2d s3)), .second]) rfl ?_
    show Steps p.tables e below (T1.setTop (mkF m 35 #[.val (.ref a1), .val (.double (FP.l2d ((((0 : Int64) + (s1 * s1)) + (s2 * s2)) + (s3 * s3)))), .second, .val (.ref av), .val (.int (3 : Int32)), .val (.int (2 : Int32)), .val (.double (FP.l2d s3)), .second] [])) _
    refine XS.iinc X1.here hx rfl (hb hby dprog_37_method_4_code_35) rfl (l' := #[.val (.ref a1), .val (.double (FP.l2d ((((0 : Int64) + (s1 * s1)) + (s2 * s2)) + (s3 * s3)))), .second, .val (.ref av), .val (.int (3 : Int32)), .val (.int (3 : Int32)), .val (.double (FP.l2d s3)), .second]) rfl ?_
    show Steps p.tables e below (T1.setTop (mkF m 38 #[.val (.ref a1), .val (.double (FP.l2d ((((0 : Int64) + (s1 * s1)) + (s2 * s2)) + (s3 * s3)))), .second, .val (.ref av), .val (.int (3 : Int32)), .val (.int (3 : Int32)), .val (.double (FP.l2d s3)), .second] [])) _
    refine XS.goto X1.here hx rfl (pc0 := 38) (pc' := 14) rfl (hb hby dprog_37_method_4_code_38) (by decide) (by decide) ?_
    show Steps p.tables e below (T1.setTop (mkF m 14 #[.val (.ref a1), .val (.double (FP.l2d ((((0 : Int64) + (s1 * s1)) + (s2 * s2)) + (s3 * s3)))), .second, .val (.ref av), .val (.int (3 : Int32)), .val (.int (3 : Int32)), .val (.double (FP.l2d s3)), .second] [])) _
    refine XS.iload X1.here hx rfl (hb hby dprog_37_method_4_code_14) rfl ?_
    show Steps p.tables e below (T1.setTop (mkF m 16 #[.val (.ref a1), .val (.double (FP.l2d ((((0 : Int64) + (s1 * s1)) + (s2 * s2)) + (s3 * s3)))), .second, .val (.ref av), .val (.int (3 : Int32)), .val (.int (3 : Int32)), .val (.double (FP.l2d s3)), .second] [(.int (3 : Int32))])) _
    refine XS.iload X1.here hx rfl (hb hby dprog_37_method_4_code_16) rfl ?_
    show Steps p.tables e below (T1.setTop (mkF m 18 #[.val (.ref a1), .val (.double (FP.l2d ((((0 : Int64) + (s1 * s1)) + (s2 * s2)) + (s3 * s3)))), .second, .val (.ref av), .val (.int (3 : Int32)), .val (.int (3 : Int32)), .val (.double (FP.l2d s3)), .second] [(.int (3 : Int32)), (.int (3 : Int32))])) _
    refine XS.icmpYes X1.here hx rfl (pc0 := 18) (pc' := 41) rfl (hb hby dprog_37_method_4_code_18) rfl (by decide) (by decide) (by decide) ?_
    show Steps p.tables e below (T1.setTop (mkF m 41 #[.val (.ref a1), .val (.double (FP.l2d ((((0 : Int64) + (s1 * s1)) + (s2 * s2)) + (s3 * s3)))), .second, .val (.ref av), .val (.int (3 : Int32)), .val (.int (3 : Int32)), .val (.double (FP.l2d s3)), .second] [])) _
    refine XS.dloadN X1.here hx rfl (hb hby dprog_37_method_4_code_41) rfl ?_
    show Steps p.tables e below (T1.setTop (mkF m 42 #[.val (.ref a1), .val (.double (FP.l2d ((((0 : Int64) + (s1 * s1)) + (s2 * s2)) + (s3 * s3)))), .second, .val (.ref av), .val (.int (3 : Int32)), .val (.int (3 : Int32)), .val (.double (FP.l2d s3)), .second] [(.double (FP.l2d ((((0 : Int64) + (s1 * s1)) + (s2 * s2)) + (s3 * s3))))])) _
    exact retOut X1 hx Bd.returns rfl (Or.inr (Or.inr (Or.inl ⟨rfl, rfl, _, rfl⟩))) (hb hby dprog_37_method_4_code_42) hr
  · show Qsq3 Z a1 av kz s1 s2 s3 h0 n0 _ T1.heap _
    rw [e1]
    exact ⟨rfl, N0, rfl⟩
theorem ef_sq4 (m : MethodId) (x0 : Addr) : entryFrame m #[(.ref x0)] 8 = mkF m 0 #[.val (.ref x0), .unset, .unset, .unset, .unset, .unset, .unset, .unset] [] := by first | (simp [entryFrame, mkF, argsToLocals, Value.category]; done) | rfl
def Qsq4 (Z : State) (a1 av : Addr) (kz : ClassId) (s1 s2 s3 s4 : Int64) (h0 : Heap) (n0 : Nat) (v : Option Value) (h : Heap) (L : List Loc) : Prop := v = some (.double (FP.l2d (((((0 : Int64) + (s1 * s1)) + (s2 * s2)) + (s3 * s3)) + (s4 * s4)))) ∧ Fr n0 L ∧ h = h0
set_option maxRecDepth 65536 in
set_option maxHeartbeats 40000000 in
theorem rmsq4 (l : Launch) (Z : State) (a0 : Array Value) (hw : ∀ d ∈ tables_1, d.before a0 Z = true) (ws : List Jvm.Cond) (a1 av : Addr) (kz : ClassId) (s1 s2 s3 s4 : Int64) (h0 : Heap) (n0 : Nat) (Z0 : n0 ≤ h0.size) (F_v : Fld Z h0 a1 "com/example/topic_crawler/topiccrawler/topic/SparseVector" "values" "[D" (.ref av)) (V_v : Arv Z h0 av kz .double (4 : Int32) [(.double (FP.l2d s1)), (.double (FP.l2d s2)), (.double (FP.l2d s3)), (.double (FP.l2d s4))] (.double (0 : UInt64))) (q_1 : FP.dmul (FP.l2d s1) (FP.l2d s1) = FP.l2d (s1 * s1)) (r_1 : FP.dadd (0 : UInt64) (FP.l2d (s1 * s1)) = FP.l2d ((0 : Int64) + (s1 * s1))) (q_2 : FP.dmul (FP.l2d s2) (FP.l2d s2) = FP.l2d (s2 * s2)) (r_2 : FP.dadd (FP.l2d ((0 : Int64) + (s1 * s1))) (FP.l2d (s2 * s2)) = FP.l2d (((0 : Int64) + (s1 * s1)) + (s2 * s2))) (q_3 : FP.dmul (FP.l2d s3) (FP.l2d s3) = FP.l2d (s3 * s3)) (r_3 : FP.dadd (FP.l2d (((0 : Int64) + (s1 * s1)) + (s2 * s2))) (FP.l2d (s3 * s3)) = FP.l2d ((((0 : Int64) + (s1 * s1)) + (s2 * s2)) + (s3 * s3))) (q_4 : FP.dmul (FP.l2d s4) (FP.l2d s4) = FP.l2d (s4 * s4)) (r_4 : FP.dadd (FP.l2d ((((0 : Int64) + (s1 * s1)) + (s2 * s2)) + (s3 * s3))) (FP.l2d (s4 * s4)) = FP.l2d (((((0 : Int64) + (s1 * s1)) + (s2 * s2)) + (s3 * s3)) + (s4 * s4))) :
    MetFree l (⟨"com/example/topic_crawler/topiccrawler/topic/SparseVector", "squaredLength", "()D"⟩ : MethodName) (head1 (Jvm.Cond.code (⟨"com/example/topic_crawler/topiccrawler/topic/SparseVector", "squaredLength", "()D"⟩ : MethodName) prog_37_method_4_code 8 (some .double) :: ws) ({ frames := 0, cells := 0, slots := 0, locals := 0 } : Room)) (fun a U => a = #[(.ref a1)] ∧ Z.Warmed39 U.vm ∧ U.heap = h0) (fun _ _ _ _ _ => True) (fun _ U o U' => ∃ v L, o = .returned v ∧ Qsq4 Z a1 av kz s1 s2 s3 s4 h0 n0 v U'.heap L ∧ FrameEnd U o U' L ({ frames := 0, cells := 0, slots := 0, locals := 0 } : Room).cells ({ frames := 0, cells := 0, slots := 0, locals := 0 } : Room).slots) := by
  refine MetFree.of_bodySF (plainFor_of_name pn_0) hisR ?_
  intro p e s m args below meth c s₁ Bd hml0 hP hK
  obtain ⟨rfl, hZ, hh⟩ := hP
  have hx := Bd.exec
  have hby := Bd.bytes
  have hml : c.maxLocals = 8 := hml0
  have hown : s.vm.findClass "com/example/topic_crawler/topiccrawler/topic/SparseVector" = some m.cls := findClass_of_methodNamed Bd.named
  have hnm := (name_of_methodNamed Bd.named Bd.method).1
  have X0 : Stand p l e ({ frames := 0, cells := 0, slots := 0, locals := 0 } : Room) s m #[(.ref a1)] below meth c s₁ [] 0 0 := Stand.of_body Bd
  have e0 : s₁.heap = h0 := by rw [← hh, Bd.state]; rfl
  have N0 := Fr.nil n0
  have pre0 : ∀ t, Steps p.tables e below (s₁.setTop (mkF m 0 #[.val (.ref a1), .unset, .unset, .unset, .unset, .unset, .unset, .unset] [])) t → Steps p.tables e below (s₁.setTop (entryFrame m #[(.ref a1)] 8)) t := fun t k => castTop (ef_sq4 m a1) k
  obtain ⟨T1, X1, e1, st1⟩ := getF X0 hx hZ hown (host := "") (Or.inl (hw _ (List.mem_of_getElem? (i := 13) rfl))) Via.refl e0 F_v (g := (mkF m 3 #[.val (.ref a1), .val (.double (0 : UInt64)), .second, .unset, .unset, .unset, .unset, .unset] [(.ref a1)])) rfl rfl (hb hby dprog_37_method_4_code_3)
  obtain ⟨fs, hr, hrun, hended, hW, hsame⟩ := X1.leave (v := some (.double (FP.l2d (((((0 : Int64) + (s1 * s1)) + (s2 * s2)) + (s3 * s3)) + (s4 * s4))))) (fun h => by rw [Bd.returns] at h; cases h)
  refine ⟨_, _, pre0 _ ?_, hrun, hended, _, _, rfl, ?_, ⟨_, rfl⟩, hW, hsame.mono (by decide) (by decide)⟩
  · show Steps p.tables e below (s₁.setTop (mkF m 0 #[.val (.ref a1), .unset, .unset, .unset, .unset, .unset, .unset, .unset] [])) _
    refine XS.dconst0 X0.here hx rfl (hb hby dprog_37_method_4_code_0) rfl ?_
    show Steps p.tables e below (s₁.setTop (mkF m 1 #[.val (.ref a1), .unset, .unset, .unset, .unset, .unset, .unset, .unset] [(.double (0 : UInt64))])) _
    refine XS.dstoreN X0.here hx rfl (hb hby dprog_37_method_4_code_1) rfl (l' := #[.val (.ref a1), .val (.double (0 : UInt64)), .second, .unset, .unset, .unset, .unset, .unset]) rfl ?_
    show Steps p.tables e below (s₁.setTop (mkF m 2 #[.val (.ref a1), .val (.double (0 : UInt64)), .second, .unset, .unset, .unset, .unset, .unset] [])) _
    refine XS.aloadN X0.here hx rfl (hb hby dprog_37_method_4_code_2) rfl rfl ?_
    show Steps p.tables e below (s₁.setTop (mkF m 3 #[.val (.ref a1), .val (.double (0 : UInt64)), .second, .unset, .unset, .unset, .unset, .unset] [(.ref a1)])) _
    refine st1 _ ?_
    show Steps p.tables e below (T1.setTop (mkF m 6 #[.val (.ref a1), .val (.double (0 : UInt64)), .second, .unset, .unset, .unset, .unset, .unset] [(.ref av)])) _
    refine XS.astoreN X1.here hx rfl (hb hby dprog_37_method_4_code_6) rfl rfl (l' := #[.val (.ref a1), .val (.double (0 : UInt64)), .second, .val (.ref av), .unset, .unset, .unset, .unset]) rfl ?_
    show Steps p.tables e below (T1.setTop (mkF m 7 #[.val (.ref a1), .val (.double (0 : UInt64)), .second, .val (.ref av), .unset, .unset, .unset, .unset] [])) _
    refine XS.aloadN X1.here hx rfl (hb hby dprog_37_method_4_code_7) rfl rfl ?_
    show Steps p.tables e below (T1.setTop (mkF m 8 #[.val (.ref a1), .val (.double (0 : UInt64)), .second, .val (.ref av), .unset, .unset, .unset, .unset] [(.ref av)])) _
    refine own_len X1 hx hZ e1 V_v rfl rfl (hb hby dprog_37_method_4_code_8) ?_
    show Steps p.tables e below (T1.setTop (mkF m 9 #[.val (.ref a1), .val (.double (0 : UInt64)), .second, .val (.ref av), .unset, .unset, .unset, .unset] [(.int (4 : Int32))])) _
    refine XS.istore X1.here hx rfl (hb hby dprog_37_method_4_code_9) rfl (l' := #[.val (.ref a1), .val (.double (0 : UInt64)), .second, .val (.ref av), .val (.int (4 : Int32)), .unset, .unset, .unset]) rfl ?_
    show Steps p.tables e below (T1.setTop (mkF m 11 #[.val (.ref a1), .val (.double (0 : UInt64)), .second, .val (.ref av), .val (.int (4 : Int32)), .unset, .unset, .unset] [])) _
    refine XS.iconst X1.here hx rfl (hb hby dprog_37_method_4_code_11) ?_
    show Steps p.tables e below (T1.setTop (mkF m 12 #[.val (.ref a1), .val (.double (0 : UInt64)), .second, .val (.ref av), .val (.int (4 : Int32)), .unset, .unset, .unset] [(.int (0 : Int32))])) _
    refine XS.istore X1.here hx rfl (hb hby dprog_37_method_4_code_12) rfl (l' := #[.val (.ref a1), .val (.double (0 : UInt64)), .second, .val (.ref av), .val (.int (4 : Int32)), .val (.int (0 : Int32)), .unset, .unset]) rfl ?_
    show Steps p.tables e below (T1.setTop (mkF m 14 #[.val (.ref a1), .val (.double (0 : UInt64)), .second, .val (.ref av), .val (.int (4 : Int32)), .val (.int (0 : Int32)), .unset, .unset] [])) _
    refine XS.iload X1.here hx rfl (hb hby dprog_37_method_4_code_14) rfl ?_
    show Steps p.tables e below (T1.setTop (mkF m 16 #[.val (.ref a1), .val (.double (0 : UInt64)), .second, .val (.ref av), .val (.int (4 : Int32)), .val (.int (0 : Int32)), .unset, .unset] [(.int (0 : Int32))])) _
    refine XS.iload X1.here hx rfl (hb hby dprog_37_method_4_code_16) rfl ?_
    show Steps p.tables e below (T1.setTop (mkF m 18 #[.val (.ref a1), .val (.double (0 : UInt64)), .second, .val (.ref av), .val (.int (4 : Int32)), .val (.int (0 : Int32)), .unset, .unset] [(.int (4 : Int32)), (.int (0 : Int32))])) _
    refine XS.icmpNo X1.here hx rfl (hb hby dprog_37_method_4_code_18) rfl (by decide) ?_
    show Steps p.tables e below (T1.setTop (mkF m 21 #[.val (.ref a1), .val (.double (0 : UInt64)), .second, .val (.ref av), .val (.int (4 : Int32)), .val (.int (0 : Int32)), .unset, .unset] [])) _
    refine XS.aloadN X1.here hx rfl (hb hby dprog_37_method_4_code_21) rfl rfl ?_
    show Steps p.tables e below (T1.setTop (mkF m 22 #[.val (.ref a1), .val (.double (0 : UInt64)), .second, .val (.ref av), .val (.int (4 : Int32)), .val (.int (0 : Int32)), .unset, .unset] [(.ref av)])) _
    refine XS.iload X1.here hx rfl (hb hby dprog_37_method_4_code_22) rfl ?_
    show Steps p.tables e below (T1.setTop (mkF m 24 #[.val (.ref a1), .val (.double (0 : UInt64)), .second, .val (.ref av), .val (.int (4 : Int32)), .val (.int (0 : Int32)), .unset, .unset] [(.int (0 : Int32)), (.ref av)])) _
    refine own_ldD X1 hx hZ e1 V_v ⟨by decide, by decide⟩ (v := (FP.l2d s1)) rfl rfl rfl (hb hby dprog_37_method_4_code_24) ?_
    show Steps p.tables e below (T1.setTop (mkF m 25 #[.val (.ref a1), .val (.double (0 : UInt64)), .second, .val (.ref av), .val (.int (4 : Int32)), .val (.int (0 : Int32)), .unset, .unset] [(.double (FP.l2d s1))])) _
    refine XS.dstore X1.here hx rfl (hb hby dprog_37_method_4_code_25) rfl (l' := #[.val (.ref a1), .val (.double (0 : UInt64)), .second, .val (.ref av), .val (.int (4 : Int32)), .val (.int (0 : Int32)), .val (.double (FP.l2d s1)), .second]) rfl ?_
    show Steps p.tables e below (T1.setTop (mkF m 27 #[.val (.ref a1), .val (.double (0 : UInt64)), .second, .val (.ref av), .val (.int (4 : Int32)), .val (.int (0 : Int32)), .val (.double (FP.l2d s1)), .second] [])) _
    refine XS.dloadN X1.here hx rfl (hb hby dprog_37_method_4_code_27) rfl ?_
    show Steps p.tables e below (T1.setTop (mkF m 28 #[.val (.ref a1), .val (.double (0 : UInt64)), .second, .val (.ref av), .val (.int (4 : Int32)), .val (.int (0 : Int32)), .val (.double (FP.l2d s1)), .second] [(.double (0 : UInt64))])) _
    refine XS.dload X1.here hx rfl (hb hby dprog_37_method_4_code_28) rfl ?_
    show Steps p.tables e below (T1.setTop (mkF m 30 #[.val (.ref a1), .val (.double (0 : UInt64)), .second, .val (.ref av), .val (.int (4 : Int32)), .val (.int (0 : Int32)), .val (.double (FP.l2d s1)), .second] [(.double (FP.l2d s1)), (.double (0 : UInt64))])) _
    refine XS.dload X1.here hx rfl (hb hby dprog_37_method_4_code_30) rfl ?_
    show Steps p.tables e below (T1.setTop (mkF m 32 #[.val (.ref a1), .val (.double (0 : UInt64)), .second, .val (.ref av), .val (.int (4 : Int32)), .val (.int (0 : Int32)), .val (.double (FP.l2d s1)), .second] [(.double (FP.l2d s1)), (.double (FP.l2d s1)), (.double (0 : UInt64))])) _
    refine XS.dmulS X1.here hx rfl (hb hby dprog_37_method_4_code_32) rfl (nn_w q_1) q_1 ?_
    show Steps p.tables e below (T1.setTop (mkF m 33 #[.val (.ref a1), .val (.double (0 : UInt64)), .second, .val (.ref av), .val (.int (4 : Int32)), .val (.int (0 : Int32)), .val (.double (FP.l2d s1)), .second] [(.double (FP.l2d (s1 * s1))), (.double (0 : UInt64))])) _
    refine XS.daddS X1.here hx rfl (hb hby dprog_37_method_4_code_33) rfl (nn_w r_1) r_1 ?_
    show Steps p.tables e below (T1.setTop (mkF m 34 #[.val (.ref a1), .val (.double (0 : UInt64)), .second, .val (.ref av), .val (.int (4 : Int32)), .val (.int (0 : Int32)), .val (.double (FP.l2d s1)), .second] [(.double (FP.l2d ((0 : Int64) + (s1 * s1))))])) _
    refine XS.dstoreN X1.here hx rfl (hb hby dprog_37_method_4_code_34) rfl (l' := #[.val (.ref a1), .val (.double (FP.l2d ((0 : Int64) + (s1 * s1)))), .second, .val (.ref av), .val (.int (4 : Int32)), .val (.int (0 : Int32)), .val (.double (FP.l2d s1)), .second]) rfl ?_
    show Steps p.tables e below (T1.setTop (mkF m 35 #[.val (.ref a1), .val (.double (FP.l2d ((0 : Int64) + (s1 * s1)))), .second, .val (.ref av), .val (.int (4 : Int32)), .val (.int (0 : Int32)), .val (.double (FP.l2d s1)), .second] [])) _
    refine XS.iinc X1.here hx rfl (hb hby dprog_37_method_4_code_35) rfl (l' := #[.val (.ref a1), .val (.double (FP.l2d ((0 : Int64) + (s1 * s1)))), .second, .val (.ref av), .val (.int (4 : Int32)), .val (.int (1 : Int32)), .val (.double (FP.l2d s1)), .second]) rfl ?_
    show Steps p.tables e below (T1.setTop (mkF m 38 #[.val (.ref a1), .val (.double (FP.l2d ((0 : Int64) + (s1 * s1)))), .second, .val (.ref av), .val (.int (4 : Int32)), .val (.int (1 : Int32)), .val (.double (FP.l2d s1)), .second] [])) _
    refine XS.goto X1.here hx rfl (pc0 := 38) (pc' := 14) rfl (hb hby dprog_37_method_4_code_38) (by decide) (by decide) ?_
    show Steps p.tables e below (T1.setTop (mkF m 14 #[.val (.ref a1), .val (.double (FP.l2d ((0 : Int64) + (s1 * s1)))), .second, .val (.ref av), .val (.int (4 : Int32)), .val (.int (1 : Int32)), .val (.double (FP.l2d s1)), .second] [])) _
    refine XS.iload X1.here hx rfl (hb hby dprog_37_method_4_code_14) rfl ?_
    show Steps p.tables e below (T1.setTop (mkF m 16 #[.val (.ref a1), .val (.double (FP.l2d ((0 : Int64) + (s1 * s1)))), .second, .val (.ref av), .val (.int (4 : Int32)), .val (.int (1 : Int32)), .val (.double (FP.l2d s1)), .second] [(.int (1 : Int32))])) _
    refine XS.iload X1.here hx rfl (hb hby dprog_37_method_4_code_16) rfl ?_
    show Steps p.tables e below (T1.setTop (mkF m 18 #[.val (.ref a1), .val (.double (FP.l2d ((0 : Int64) + (s1 * s1)))), .second, .val (.ref av), .val (.int (4 : Int32)), .val (.int (1 : Int32)), .val (.double (FP.l2d s1)), .second] [(.int (4 : Int32)), (.int (1 : Int32))])) _
    refine XS.icmpNo X1.here hx rfl (hb hby dprog_37_method_4_code_18) rfl (by decide) ?_
    show Steps p.tables e below (T1.setTop (mkF m 21 #[.val (.ref a1), .val (.double (FP.l2d ((0 : Int64) + (s1 * s1)))), .second, .val (.ref av), .val (.int (4 : Int32)), .val (.int (1 : Int32)), .val (.double (FP.l2d s1)), .second] [])) _
    refine XS.aloadN X1.here hx rfl (hb hby dprog_37_method_4_code_21) rfl rfl ?_
    show Steps p.tables e below (T1.setTop (mkF m 22 #[.val (.ref a1), .val (.double (FP.l2d ((0 : Int64) + (s1 * s1)))), .second, .val (.ref av), .val (.int (4 : Int32)), .val (.int (1 : Int32)), .val (.double (FP.l2d s1)), .second] [(.ref av)])) _
    refine XS.iload X1.here hx rfl (hb hby dprog_37_method_4_code_22) rfl ?_
    show Steps p.tables e below (T1.setTop (mkF m 24 #[.val (.ref a1), .val (.double (FP.l2d ((0 : Int64) + (s1 * s1)))), .second, .val (.ref av), .val (.int (4 : Int32)), .val (.int (1 : Int32)), .val (.double (FP.l2d s1)), .second] [(.int (1 : Int32)), (.ref av)])) _
    refine own_ldD X1 hx hZ e1 V_v ⟨by decide, by decide⟩ (v := (FP.l2d s2)) rfl rfl rfl (hb hby dprog_37_method_4_code_24) ?_
    show Steps p.tables e below (T1.setTop (mkF m 25 #[.val (.ref a1), .val (.double (FP.l2d ((0 : Int64) + (s1 * s1)))), .second, .val (.ref av), .val (.int (4 : Int32)), .val (.int (1 : Int32)), .val (.double (FP.l2d s1)), .second] [(.double (FP.l2d s2))])) _
    refine XS.dstore X1.here hx rfl (hb hby dprog_37_method_4_code_25) rfl (l' := #[.val (.ref a1), .val (.double (FP.l2d ((0 : Int64) + (s1 * s1)))), .second, .val (.ref av), .val (.int (4 : Int32)), .val (.int (1 : Int32)), .val (.double (FP.l2d s2)), .second]) rfl ?_
    show Steps p.tables e below (T1.setTop (mkF m 27 #[.val (.ref a1), .val (.double (FP.l2d ((0 : Int64) + (s1 * s1)))), .second, .val (.ref av), .val (.int (4 : Int32)), .val (.int (1 : Int32)), .val (.double (FP.l2d s2)), .second] [])) _
    refine XS.dloadN X1.here hx rfl (hb hby dprog_37_method_4_code_27) rfl ?_
    show Steps p.tables e below (T1.setTop (mkF m 28 #[.val (.ref a1), .val (.double (FP.l2d ((0 : Int64) + (s1 * s1)))), .second, .val (.ref av), .val (.int (4 : Int32)), .val (.int (1 : Int32)), .val (.double (FP.l2d s2)), .second] [(.double (FP.l2d ((0 : Int64) + (s1 * s1))))])) _
    refine XS.dload X1.here hx rfl (hb hby dprog_37_method_4_code_28) rfl ?_
    show Steps p.tables e below (T1.setTop (mkF m 30 #[.val (.ref a1), .val (.double (FP.l2d ((0 : Int64) + (s1 * s1)))), .second, .val (.ref av), .val (.int (4 : Int32)), .val (.int (1 : Int32)), .val (.double (FP.l2d s2)), .second] [(.double (FP.l2d s2)), (.double (FP.l2d ((0 : Int64) + (s1 * s1))))])) _
    refine XS.dload X1.here hx rfl (hb hby dprog_37_method_4_code_30) rfl ?_
    show Steps p.tables e below (T1.setTop (mkF m 32 #[.val (.ref a1), .val (.double (FP.l2d ((0 : Int64) + (s1 * s1)))), .second, .val (.ref av), .val (.int (4 : Int32)), .val (.int (1 : Int32)), .val (.double (FP.l2d s2)), .second] [(.double (FP.l2d s2)), (.double (FP.l2d s2)), (.double (FP.l2d ((0 : Int64) + (s1 * s1))))])) _
    refine XS.dmulS X1.here hx rfl (hb hby dprog_37_method_4_code_32) rfl (nn_w q_2) q_2 ?_
    show Steps p.tables e below (T1.setTop (mkF m 33 #[.val (.ref a1), .val (.double (FP.l2d ((0 : Int64) + (s1 * s1)))), .second, .val (.ref av), .val (.int (4 : Int32)), .val (.int (1 : Int32)), .val (.double (FP.l2d s2)), .second] [(.double (FP.l2d (s2 * s2))), (.double (FP.l2d ((0 : Int64) + (s1 * s1))))])) _
    refine XS.daddS X1.here hx rfl (hb hby dprog_37_method_4_code_33) rfl (nn_w r_2) r_2 ?_
    show Steps p.tables e below (T1.setTop (mkF m 34 #[.val (.ref a1), .val (.double (FP.l2d ((0 : Int64) + (s1 * s1)))), .second, .val (.ref av), .val (.int (4 : Int32)), .val (.int (1 : Int32)), .val (.double (FP.l2d s2)), .second] [(.double (FP.l2d (((0 : Int64) + (s1 * s1)) + (s2 * s2))))])) _
    refine XS.dstoreN X1.here hx rfl (hb hby dprog_37_method_4_code_34) rfl (l' := #[.val (.ref a1), .val (.double (FP.l2d (((0 : Int64) + (s1 * s1)) + (s2 * s2)))), .second, .val (.ref av), .val (.int (4 : Int32)), .val (.int (1 : Int32)), .val (.double (FP.l2d s2)), .second]) rfl ?_
    show Steps p.tables e below (T1.setTop (mkF m 35 #[.val (.ref a1), .val (.double (FP.l2d (((0 : Int64) + (s1 * s1)) + (s2 * s2)))), .second, .val (.ref av), .val (.int (4 : Int32)), .val (.int (1 : Int32)), .val (.double (FP.l2d s2)), .second] [])) _
    refine XS.iinc X1.here hx rfl (hb hby dprog_37_method_4_code_35) rfl (l' := #[.val (.ref a1), .val (.double (FP.l2d (((0 : Int64) + (s1 * s1)) + (s2 * s2)))), .second, .val (.ref av), .val (.int (4 : Int32)), .val (.int (2 : Int32)), .val (.double (FP.l2d s2)), .second]) rfl ?_
    show Steps p.tables e below (T1.setTop (mkF m 38 #[.val (.ref a1), .val (.double (FP.l2d (((0 : Int64) + (s1 * s1)) + (s2 * s2)))), .second, .val (.ref av), .val (.int (4 : Int32)), .val (.int (2 : Int32)), .val (.double (FP.l2d s2)), .second] [])) _
    refine XS.goto X1.here hx rfl (pc0 := 38) (pc' := 14) rfl (hb hby dprog_37_method_4_code_38) (by decide) (by decide) ?_
    show Steps p.tables e below (T1.setTop (mkF m 14 #[.val (.ref a1), .val (.double (FP.l2d (((0 : Int64) + (s1 * s1)) + (s2 * s2)))), .second, .val (.ref av), .val (.int (4 : Int32)), .val (.int (2 : Int32)), .val (.double (FP.l2d s2)), .second] [])) _
    refine XS.iload X1.here hx rfl (hb hby dprog_37_method_4_code_14) rfl ?_
    show Steps p.tables e below (T1.setTop (mkF m 16 #[.val (.ref a1), .val (.double (FP.l2d (((0 : Int64) + (s1 * s1)) + (s2 * s2)))), .second, .val (.ref av), .val (.int (4 : Int32)), .val (.int (2 : Int32)), .val (.double (FP.l2d s2)), .second] [(.int (2 : Int32))])) _
    refine XS.iload X1.here hx rfl (hb hby dprog_37_method_4_code_16) rfl ?_
    show Steps p.tables e below (T1.setTop (mkF m 18 #[.val (.ref a1), .val (.double (FP.l2d (((0 : Int64) + (s1 * s1)) + (s2 * s2)))), .second, .val (.ref av), .val (.int (4 : Int32)), .val (.int (2 : Int32)), .val (.double (FP.l2d s2)), .second] [(.int (4 : Int32)), (.int (2 : Int32))])) _
    refine XS.icmpNo X1.here hx rfl (hb hby dprog_37_method_4_code_18) rfl (by decide) ?_
    show Steps p.tables e below (T1.setTop (mkF m 21 #[.val (.ref a1), .val (.double (FP.l2d (((0 : Int64) + (s1 * s1)) + (s2 * s2)))), .second, .val (.ref av), .val (.int (4 : Int32)), .val (.int (2 : Int32)), .val (.double (FP.l2d s2)), .second] [])) _
    refine XS.aloadN X1.here hx rfl (hb hby dprog_37_method_4_code_21) rfl rfl ?_
    show Steps p.tables e below (T1.setTop (mkF m 22 #[.val (.ref a1), .val (.double (FP.l2d (((0 : Int64) + (s1 * s1)) + (s2 * s2)))), .second, .val (.ref av), .val (.int (4 : Int32)), .val (.int (2 : Int32)), .val (.double (FP.l2d s2)), .second] [(.ref av)])) _
    refine XS.iload X1.here hx rfl (hb hby dprog_37_method_4_code_22) rfl ?_
    show Steps p.tables e below (T1.setTop (mkF m 24 #[.val (.ref a1), .val (.double (FP.l2d (((0 : Int64) + (s1 * s1)) + (s2 * s2)))), .second, .val (.ref av), .val (.int (4 : Int32)), .val (.int (2 : Int32)), .val (.double (FP.l2d s2)), .second] [(.int (2 : Int32)), (.ref av)])) _
    refine own_ldD X1 hx hZ e1 V_v ⟨by decide, by decide⟩ (v := (FP.l2d s3)) rfl rfl rfl (hb hby dprog_37_method_4_code_24) ?_
    show Steps p.tables e below (T1.setTop (mkF m 25 #[.val (.ref a1), .val (.double (FP.l2d (((0 : Int64) + (s1 * s1)) + (s2 * s2)))), .second, .val (.ref av), .val (.int (4 : Int32)), .val (.int (2 : Int32)), .val (.double (FP.l2d s2)), .second] [(.double (FP.l2d s3))])) _
    refine XS.dstore X1.here hx rfl (hb hby dprog_37_method_4_code_25) rfl (l' := #[.val (.ref a1), .val (.double (FP.l2d (((0 : Int64) + (s1 * s1)) + (s2 * s2)))), .second, .val (.ref av), .val (.int (4 : Int32)), .val (.int (2 : Int32)), .val (.double (FP.l2d s3)), .second]) rfl ?_
    show Steps p.tables e below (T1.setTop (mkF m 27 #[.val (.ref a1), .val (.double (FP.l2d (((0 : Int64) + (s1 * s1)) + (s2 * s2)))), .second, .val (.ref av), .val (.int (4 : Int32)), .val (.int (2 : Int32)), .val (.double (FP.l2d s3)), .second] [])) _
    refine XS.dloadN X1.here hx rfl (hb hby dprog_37_method_4_code_27) rfl ?_
    show Steps p.tables e below (T1.setTop (mkF m 28 #[.val (.ref a1), .val (.double (FP.l2d (((0 : Int64) + (s1 * s1)) + (s2 * s2)))), .second, .val (.ref av), .val (.int (4 : Int32)), .val (.int (2 : Int32)), .val (.double (FP.l2d s3)), .second] [(.double (FP.l2d (((0 : Int64) + (s1 * s1)) + (s2 * s2))))])) _
    refine XS.dload X1.here hx rfl (hb hby dprog_37_method_4_code_28) rfl ?_
    show Steps p.tables e below (T1.setTop (mkF m 30 #[.val (.ref a1), .val (.double (FP.l2d (((0 : Int64) + (s1 * s1)) + (s2 * s2)))), .second, .val (.ref av), .val (.int (4 : Int32)), .val (.int (2 : Int32)), .val (.double (FP.l2d s3)), .second] [(.double (FP.l2d s3)), (.double (FP.l2d (((0 : Int64) + (s1 * s1)) + (s2 * s2))))])) _
    refine XS.dload X1.here hx rfl (hb hby dprog_37_method_4_code_30) rfl ?_
    show Steps p.tables e below (T1.setTop (mkF m 32 #[.val (.ref a1), .val (.double (FP.l2d (((0 : Int64) + (s1 * s1)) + (s2 * s2)))), .second, .val (.ref av), .val (.int (4 : Int32)), .val (.int (2 : Int32)), .val (.double (FP.l2d s3)), .second] [(.double (FP.l2d s3)), (.double (FP.l2d s3)), (.double (FP.l2d (((0 : Int64) + (s1 * s1)) + (s2 * s2))))])) _
    refine XS.dmulS X1.here hx rfl (hb hby dprog_37_method_4_code_32) rfl (nn_w q_3) q_3 ?_
    show Steps p.tables e below (T1.setTop (mkF m 33 #[.val (.ref a1), .val (.double (FP.l2d (((0 : Int64) + (s1 * s1)) + (s2 * s2)))), .second, .val (.ref av), .val (.int (4 : Int32)), .val (.int (2 : Int32)), .val (.double (FP.l2d s3)), .second] [(.double (FP.l2d (s3 * s3))), (.double (FP.l2d (((0 : Int64) + (s1 * s1)) + (s2 * s2))))])) _
    refine XS.daddS X1.here hx rfl (hb hby dprog_37_method_4_code_33) rfl (nn_w r_3) r_3 ?_
    show Steps p.tables e below (T1.setTop (mkF m 34 #[.val (.ref a1), .val (.double (FP.l2d (((0 : Int64) + (s1 * s1)) + (s2 * s2)))), .second, .val (.ref av), .val (.int (4 : Int32)), .val (.int (2 : Int32)), .val (.double (FP.l2d s3)), .second] [(.double (FP.l2d ((((0 : Int64) + (s1 * s1)) + (s2 * s2)) + (s3 * s3))))])) _
    refine XS.dstoreN X1.here hx rfl (hb hby dprog_37_method_4_code_34) rfl (l' := #[.val (.ref a1), .val (.double (FP.l2d ((((0 : Int64) + (s1 * s1)) + (s2 * s2)) + (s3 * s3)))), .second, .val (.ref av), .val (.int (4 : Int32)), .val (.int (2 : Int32)), .val (.double (FP.l2d s3)), .second]) rfl ?_
    show Steps p.tables e below (T1.setTop (mkF m 35 #[.val (.ref a1), .val (.double (FP.l2d ((((0 : Int64) + (s1 * s1)) + (s2 * s2)) + (s3 * s3)))), .second, .val (.ref av), .val (.int (4 : Int32)), .val (.int (2 : Int32)), .val (.double (FP.l2d s3)), .second] [])) _
    refine XS.iinc X1.here hx rfl (hb hby dprog_37_method_4_code_35) rfl (l' := #[.val (.ref a1), .val (.double (FP.l2d ((((0 : Int64) + (s1 * s1)) + (s2 * s2)) + (s3 * s3)))), .second, .val (.ref av), .val (.int (4 : Int32)), .val (.int (3 : Int32)), .val (.double (FP.l2d s3)), .second]) rfl ?_
    show Steps p.tables e below (T1.setTop (mkF m 38 #[.val (.ref a1), .val (.double (FP.l2d ((((0 : Int64) + (s1 * s1)) + (s2 * s2)) + (s3 * s3)))), .second, .val (.ref av), .val (.int (4 : Int32)), .val (.int (3 : Int32)), .val (.double (FP.l2d s3)), .second] [])) _
    refine XS.goto X1.here hx rfl (pc0 := 38) (pc' := 14) rfl (hb hby dprog_37_method_4_code_38) (by decide) (by decide) ?_
    show Steps p.tables e below (T1.setTop (mkF m 14 #[.val (.ref a1), .val (.double (FP.l2d ((((0 : Int64) + (s1 * s1)) + (s2 * s2)) + (s3 * s3)))), .second, .val (.ref av), .val (.int (4 : Int32)), .val (.int (3 : Int32)), .val (.double (FP.l2d s3)), .second] [])) _
    refine XS.iload X1.here hx rfl (hb hby dprog_37_method_4_code_14) rfl ?_
    show Steps p.tables e below (T1.setTop (mkF m 16 #[.val (.ref a1), .val (.double (FP.l2d ((((0 : Int64) + (s1 * s1)) + (s2 * s2)) + (s3 * s3)))), .second, .val (.ref av), .val (.int (4 : Int32)), .val (.int (3 : Int32)), .val (.double (FP.l2d s3)), .second] [(.int (3 : Int32))])) _
    refine XS.iload X1.here hx rfl (hb hby dprog_37_method_4_code_16) rfl ?_
    show Steps p.tables e below (T1.setTop (mkF m 18 #[.val (.ref a1), .val (.double (FP.l2d ((((0 : Int64) + (s1 * s1)) + (s2 * s2)) + (s3 * s3)))), .second, .val (.ref av), .val (.int (4 : Int32)), .val (.int (3 : Int32)), .val (.double (FP.l2d s3)), .second] [(.int (4 : Int32)), (.int (3 : Int32))])) _
    refine XS.icmpNo X1.here hx rfl (hb hby dprog_37_method_4_code_18) rfl (by decide) ?_
    show Steps p.tables e below (T1.setTop (mkF m 21 #[.val (.ref a1), .val (.double (FP.l2d ((((0 : Int64) + (s1 * s1)) + (s2 * s2)) + (s3 * s3)))), .second, .val (.ref av), .val (.int (4 : Int32)), .val (.int (3 : Int32)), .val (.double (FP.l2d s3)), .second] [])) _
    refine XS.aloadN X1.here hx rfl (hb hby dprog_37_method_4_code_21) rfl rfl ?_
    show Steps p.tables e below (T1.setTop (mkF m 22 #[.val (.ref a1), .val (.double (FP.l2d ((((0 : Int64) + (s1 * s1)) + (s2 * s2)) + (s3 * s3)))), .second, .val (.ref av), .val (.int (4 : Int32)), .val (.int (3 : Int32)), .val (.double (FP.l2d s3)), .second] [(.ref av)])) _
    refine XS.iload X1.here hx rfl (hb hby dprog_37_method_4_code_22) rfl ?_
    show Steps p.tables e below (T1.setTop (mkF m 24 #[.val (.ref a1), .val (.double (FP.l2d ((((0 : Int64) + (s1 * s1)) + (s2 * s2)) + (s3 * s3)))), .second, .val (.ref av), .val (.int (4 : Int32)), .val (.int (3 : Int32)), .val (.double (FP.l2d s3)), .second] [(.int (3 : Int32)), (.ref av)])) _
    refine own_ldD X1 hx hZ e1 V_v ⟨by decide, by decide⟩ (v := (FP.l2d s4)) rfl rfl rfl (hb hby dprog_37_method_4_code_24) ?_
    show Steps p.tables e below (T1.setTop (mkF m 25 #[.val (.ref a1), .val (.double (FP.l2d ((((0 : Int64) + (s1 * s1)) + (s2 * s2)) + (s3 * s3)))), .second, .val (.ref av), .val (.int (4 : Int32)), .val (.int (3 : Int32)), .val (.double (FP.l2d s3)), .second] [(.double (FP.l2d s4))])) _
    refine XS.dstore X1.here hx rfl (hb hby dprog_37_method_4_code_25) rfl (l' := #[.val (.ref a1), .val (.double (FP.l2d ((((0 : Int64) + (s1 * s1)) + (s2 * s2)) + (s3 * s3)))), .second, .val (.ref av), .val (.int (4 : Int32)), .val (.int (3 : Int32)), .val (.double (FP.l2d s4)), .second]) rfl ?_
    show Steps p.tables e below (T1.setTop (mkF m 27 #[.val (.ref a1), .val (.double (FP.l2d ((((0 : Int64) + (s1 * s1)) + (s2 * s2)) + (s3 * s3)))), .second, .val (.ref av), .val (.int (4 : Int32)), .val (.int (3 : Int32)), .val (.double (FP.l2d s4)), .second] [])) _
    refine XS.dloadN X1.here hx rfl (hb hby dprog_37_method_4_code_27) rfl ?_
    show Steps p.tables e below (T1.setTop (mkF m 28 #[.val (.ref a1), .val (.double (FP.l2d ((((0 : Int64) + (s1 * s1)) + (s2 * s2)) + (s3 * s3)))), .second, .val (.ref av), .val (.int (4 : Int32)), .val (.int (3 : Int32)), .val (.double (FP.l2d s4)), .second] [(.double (FP.l2d ((((0 : Int64) + (s1 * s1)) + (s2 * s2)) + (s3 * s3))))])) _
    refine XS.dload X1.here hx rfl (hb hby dprog_37_method_4_code_28) rfl ?_
    show Steps p.tables e below (T1.setTop (mkF m 30 #[.val (.ref a1), .val (.double (FP.l2d ((((0 : Int64) + (s1 * s1)) + (s2 * s2)) + (s3 * s3)))), .second, .val (.ref av), .val (.int (4 : Int32)), .val (.int (3 : Int32)), .val (.double (FP.l2d s4)), .second] [(.double (FP.l2d s4)), (.double (FP.l2d ((((0 : Int64) + (s1 * s1)) + (s2 * s2)) + (s3 * s3))))])) _
    refine XS.dload X1.here hx rfl (hb hby dprog_37_method_4_code_30) rfl ?_
    show Steps p.tables e below (T1.setTop (mkF m 32 #[.val (.ref a1), .val (.double (FP.l2d ((((0 : Int64) + (s1 * s1)) + (s2 * s2)) + (s3 * s3)))), .second, .val (.ref av), .val (.int (4 : Int32)), .val (.int (3 : Int32)), .val (.double (FP.l2d s4)), .second] [(.double (FP.l2d s4)), (.double (FP.l2d s4)), (.double (FP.l2d ((((0 : Int64) + (s1 * s1)) + (s2 * s2)) + (s3 * s3))))])) _
    refine XS.dmulS X1.here hx rfl (hb hby dprog_37_method_4_code_32) rfl (nn_w q_4) q_4 ?_
    show Steps p.tables e below (T1.setTop (mkF m 33 #[.val (.ref a1), .val (.double (FP.l2d ((((0 : Int64) + (s1 * s1)) + (s2 * s2)) + (s3 * s3)))), .second, .val (.ref av), .val (.int (4 : Int32)), .val (.int (3 : Int32)), .val (.double (FP.l2d s4)), .second] [(.double (FP.l2d (s4 * s4))), (.double (FP.l2d ((((0 : Int64) + (s1 * s1)) + (s2 * s2)) + (s3 * s3))))])) _
    refine XS.daddS X1.here hx rfl (hb hby dprog_37_method_4_code_33) rfl (nn_w r_4) r_4 ?_
    show Steps p.tables e below (T1.setTop (mkF m 34 #[.val (.ref a1), .val (.double (FP.l2d ((((0 : Int64) + (s1 * s1)) + (s2 * s2)) + (s3 * s3)))), .second, .val (.ref av), .val (.int (4 : Int32)), .val (.int (3 : Int32)), .val (.double (FP.l2d s4)), .second] [(.double (FP.l2d (((((0 : Int64) + (s1 * s1)) + (s2 * s2)) + (s3 * s3)) + (s4 * s4))))])) _
    refine XS.dstoreN X1.here hx rfl (hb hby dprog_37_method_4_code_34) rfl (l' := #[.val (.ref a1), .val (.double (FP.l2d (((((0 : Int64) + (s1 * s1)) + (s2 * s2)) + (s3 * s3)) + (s4 * s4)))), .second, .val (.ref av), .val (.int (4 : Int32)), .val (.int (3 : Int32)), .val (.double (FP.l2d s4)), .second]) rfl ?_
    show Steps p.tables e below (T1.setTop (mkF m 35 #[.val (.ref a1), .val (.double (FP.l2d (((((0 : Int64) + (s1 * s1)) + (s2 * s2)) + (s3 * s3)) + (s4 * s4)))), .second, .val (.ref av), .val (.int (4 : Int32)), .val (.int (3 : Int32)), .val (.double (FP.l2d s4)), .second] [])) _
    refine XS.iinc X1.here hx rfl (hb hby dprog_37_method_4_code_35) rfl (l' := #[.val (.ref a1), .val (.double (FP.l2d (((((0 : Int64) + (s1 * s1)) + (s2 * s2)) + (s3 * s3)) + (s4 * s4)))), .second, .val (.ref av), .val (.int (4 : Int32)), .val (.int (4 : Int32)), .val (.double (FP.l2d s4)), .second]) rfl ?_
    show Steps p.tables e below (T1.setTop (mkF m 38 #[.val (.ref a1), .val (.double (FP.l2d (((((0 : Int64) + (s1 * s1)) + (s2 * s2)) + (s3 * s3)) + (s4 * s4)))), .second, .val (.ref av), .val (.int (4 : Int32)), .val (.int (4 : Int32)), .val (.double (FP.l2d s4)), .second] [])) _
    refine XS.goto X1.here hx rfl (pc0 := 38) (pc' := 14) rfl (hb hby dprog_37_method_4_code_38) (by decide) (by decide) ?_
    show Steps p.tables e below (T1.setTop (mkF m 14 #[.val (.ref a1), .val (.double (FP.l2d (((((0 : Int64) + (s1 * s1)) + (s2 * s2)) + (s3 * s3)) + (s4 * s4)))), .second, .val (.ref av), .val (.int (4 : Int32)), .val (.int (4 : Int32)), .val (.double (FP.l2d s4)), .second] [])) _
    refine XS.iload X1.here hx rfl (hb hby dprog_37_method_4_code_14) rfl ?_
    show Steps p.tables e below (T1.setTop (mkF m 16 #[.val (.ref a1), .val (.double (FP.l2d (((((0 : Int64) + (s1 * s1)) + (s2 * s2)) + (s3 * s3)) + (s4 * s4)))), .second, .val (.ref av), .val (.int (4 : Int32)), .val (.int (4 : Int32)), .val (.double (FP.l2d s4)), .second] [(.int (4 : Int32))])) _
    refine XS.iload X1.here hx rfl (hb hby dprog_37_method_4_code_16) rfl ?_
    show Steps p.tables e below (T1.setTop (mkF m 18 #[.val (.ref a1), .val (.double (FP.l2d (((((0 : Int64) + (s1 * s1)) + (s2 * s2)) + (s3 * s3)) + (s4 * s4)))), .second, .val (.ref av), .val (.int (4 : Int32)), .val (.int (4 : Int32)), .val (.double (FP.l2d s4)), .second] [(.int (4 : Int32)), (.int (4 : Int32))])) _
    refine XS.icmpYes X1.here hx rfl (pc0 := 18) (pc' := 41) rfl (hb hby dprog_37_method_4_code_18) rfl (by decide) (by decide) (by decide) ?_
    show Steps p.tables e below (T1.setTop (mkF m 41 #[.val (.ref a1), .val (.double (FP.l2d (((((0 : Int64) + (s1 * s1)) + (s2 * s2)) + (s3 * s3)) + (s4 * s4)))), .second, .val (.ref av), .val (.int (4 : Int32)), .val (.int (4 : Int32)), .val (.double (FP.l2d s4)), .second] [])) _
    refine XS.dloadN X1.here hx rfl (hb hby dprog_37_method_4_code_41) rfl ?_
    show Steps p.tables e below (T1.setTop (mkF m 42 #[.val (.ref a1), .val (.double (FP.l2d (((((0 : Int64) + (s1 * s1)) + (s2 * s2)) + (s3 * s3)) + (s4 * s4)))), .second, .val (.ref av), .val (.int (4 : Int32)), .val (.int (4 : Int32)), .val (.double (FP.l2d s4)), .second] [(.double (FP.l2d (((((0 : Int64) + (s1 * s1)) + (s2 * s2)) + (s3 * s3)) + (s4 * s4))))])) _
    exact retOut X1 hx Bd.returns rfl (Or.inr (Or.inr (Or.inl ⟨rfl, rfl, _, rfl⟩))) (hb hby dprog_37_method_4_code_42) hr
  · show Qsq4 Z a1 av kz s1 s2 s3 s4 h0 n0 _ T1.heap _
    rw [e1]
    exact ⟨rfl, N0, rfl⟩
theorem pn_1 : plainName "com/example/topic_crawler/topiccrawler/topic/SparseVectorSquaredLengthPinLaw" = true := by first | (simp [plainName, overriddenIn]; done) | decide +kernel
theorem pd_0 : parseMethodDescriptor "([I[D)V" = some ⟨[(.array .int), (.array .double)], none⟩ := by decide +kernel
theorem pd_1 : parseMethodDescriptor "()D" = some ⟨[], some .double⟩ := by decide +kernel
theorem ef_0 (m : MethodId) (x0 : Int32) (x1 : Int32) (x2 : Int32) (x3 : Int32) (x4 : Int32) : entryFrame m #[(.int x0), (.int x1), (.int x2), (.int x3), (.int x4)] maxLocals = mkF m 0 #[.val (.int x0), .val (.int x1), .val (.int x2), .val (.int x3), .val (.int x4), .unset, .unset, .unset, .unset, .unset, .unset, .unset, .unset, .unset, .unset, .unset, .unset, .unset, .unset] [] := by first | (simp [entryFrame, mkF, argsToLocals, Value.category, maxLocals]; done) | rfl
def Q0 (Z : State) (p0 p1 p2 p3 p4 : Int32) (h0 : Heap) (n0 : Nat) (v : Option Value) (h : Heap) (L : List Loc) : Prop := v = some (.int 1) ∧ Fr n0 L
set_option maxRecDepth 65536 in
set_option maxHeartbeats 40000000 in
theorem rm0 (l : Launch) (Z : State) (a0 : Array Value) (hw : ∀ d ∈ tables_1, d.before a0 Z = true) (ws : List Jvm.Cond) (p0 p1 p2 p3 p4 : Int32) (h0 : Heap) (n0 : Nat) (Z0 : n0 ≤ h0.size) :
    MetFree l x (head1 (Jvm.Cond.code x code maxLocals ret :: ws) room_1) (fun a U => a = #[(.int p0), (.int p1), (.int p2), (.int p3), (.int p4)] ∧ Z.Warmed39 U.vm ∧ U.heap = h0) (fun _ _ _ _ _ => True) (fun _ U o U' => ∃ v L, o = .returned v ∧ Q0 Z p0 p1 p2 p3 p4 h0 n0 v U'.heap L ∧ FrameEnd U o U' L room_1.cells room_1.slots) := by
  refine MetFree.of_bodySF (plainFor_of_name pn_1) hisR ?_
  intro p e s m args below meth c s₁ Bd hml0 hP hK
  obtain ⟨rfl, hZ, hh⟩ := hP
  have hx := Bd.exec
  have hby := Bd.bytes
  have hml : c.maxLocals = 19 := hml0
  have hown : s.vm.findClass "com/example/topic_crawler/topiccrawler/topic/SparseVectorSquaredLengthPinLaw" = some m.cls := findClass_of_methodNamed Bd.named
  have hnm := (name_of_methodNamed Bd.named Bd.method).1
  have X0 : Stand p l e room_1 s m #[(.int p0), (.int p1), (.int p2), (.int p3), (.int p4)] below meth c s₁ [] 0 0 := Stand.of_body Bd
  have e0 : s₁.heap = h0 := by rw [← hh, Bd.state]; rfl
  have N0 := Fr.nil n0
  have pre0 : ∀ t, Steps p.tables e below (s₁.setTop (mkF m 0 #[.val (.int p0), .val (.int p1), .val (.int p2), .val (.int p3), .val (.int p4), .unset, .unset, .unset, .unset, .unset, .unset, .unset, .unset, .unset, .unset, .unset, .unset, .unset, .unset] [])) t → Steps p.tables e below (s₁.setTop (entryFrame m #[(.int p0), (.int p1), (.int p2), (.int p3), (.int p4)] maxLocals)) t := fun t k => castTop (ef_0 m p0 p1 p2 p3 p4) k
  rcases own_ncase p0 with hn | hn | hn | hn | hn
  · obtain ⟨T1, h1, k1, X1, e1, E1, A1, Ax1, st1⟩ := newPE X0 hx hZ (hw _ (List.mem_of_getElem? (i := 0) rfl)) e0 (g := (mkF m 31 #[.val (.int p0), .val (.int p1), .val (.int p2), .val (.int p3), .val (.int p4), .val (.int (0 : Int32)), .val (.long (own_s p1)), .second, .val (.long (own_s p2)), .second, .val (.long (own_s p3)), .second, .val (.long (own_s p4)), .second, .unset, .unset, .unset, .unset, .unset] [(.int (0 : Int32))])) rfl (hb hby at_31) rfl (by decide) (cap := 0) (by decide) (by decide) (by decide) (by decide) (ad := "[D") (by decide)
    obtain ⟨b1, g1⟩ : ∃ z, z = h0.size := ⟨_, rfl⟩
    rw [← g1] at A1 Ax1 st1
    have V1 : Arv Z h1 b1 k1 .double (0 : Int32) [] (.double (0 : UInt64)) := (Arv.new A1 (by decide)).pad (pad_rep [] (.double (0 : UInt64)) 0)
    obtain ⟨T2, h2, k2, X2, e2, E2, A2, Ax2, st2⟩ := newPE X1 hx hZ (hw _ (List.mem_of_getElem? (i := 1) rfl)) e1 (g := (mkF m 37 #[.val (.int p0), .val (.int p1), .val (.int p2), .val (.int p3), .val (.int p4), .val (.int (0 : Int32)), .val (.long (own_s p1)), .second, .val (.long (own_s p2)), .second, .val (.long (own_s p3)), .second, .val (.long (own_s p4)), .second, .val (.ref b1), .unset, .unset, .unset, .unset] [(.int (0 : Int32))])) rfl (hb hby at_37) rfl (by decide) (cap := 0) (by decide) (by decide) (by decide) (by decide) (ad := "[I") (by decide)
    obtain ⟨b2, g2⟩ : ∃ z, z = h1.size := ⟨_, rfl⟩
    rw [← g2] at A2 Ax2 st2
    have V2 : Arv Z h2 b2 k2 .int (0 : Int32) [] (.int (0 : Int32)) := (Arv.new A2 (by decide)).pad (pad_rep [] (.int (0 : Int32)) 0)
    obtain ⟨T3, h3, X3, e3, E3, A3, D3, -, st3⟩ := newO X2 hx hZ hown (hw _ (List.mem_of_getElem? (i := 2) rfl)) (hw _ (List.mem_of_getElem? (i := 3) rfl)) (hw _ (List.mem_of_getElem? (i := 4) rfl)) e2 (g := (mkF m 155 #[.val (.int p0), .val (.int p1), .val (.int p2), .val (.int p3), .val (.int p4), .val (.int (0 : Int32)), .val (.long (own_s p1)), .second, .val (.long (own_s p2)), .second, .val (.long (own_s p3)), .second, .val (.long (own_s p4)), .second, .val (.ref b1), .val (.ref b2), .val (.long (0 : Int64)), .second, .unset] [])) rfl (hb hby at_155) (by decide) (by decide)
    obtain ⟨b3, g3⟩ : ∃ z, z = h2.size := ⟨_, rfl⟩
    rw [← g3] at A3 D3 st3
    have F3_indices : Fld Z h3 b3 "com/example/topic_crawler/topiccrawler/topic/SparseVector" "indices" "[I" .null := D3 (Or.inr (hw _ (List.mem_of_getElem? (i := 12) rfl))) (ty := (.array .int)) (by decide)
    have F3_values : Fld Z h3 b3 "com/example/topic_crawler/topiccrawler/topic/SparseVector" "values" "[D" .null := D3 (Or.inr (hw _ (List.mem_of_getElem? (i := 14) rfl))) (ty := (.array .double)) (by decide)
    obtain ⟨_, _, ⟨T4, L4, k4, n4⟩, -, X4, ⟨Lc4, hQ4, l4, y4, z4⟩, st4⟩ := X3.specialBack hx (y := (⟨"com/example/topic_crawler/topiccrawler/topic/SparseVector", "<init>", "([I[D)V"⟩ : MethodName)) rfl hown (mvT hZ (hw _ (List.mem_of_getElem? (i := 5) rfl))) (mvT hZ (hw _ (List.mem_of_getElem? (i := 6) rfl))) (mvT hZ (hw _ (List.mem_of_getElem? (i := 7) rfl))) (by decide) (backOf (W := 1) (rmsv l Z a0 hw [] b3 b2 b1 h3 n0 (Nat.le_trans (Nat.le_trans (Nat.le_trans Z0 E1.1) E2.1) E3.1) F3_indices F3_values A3 (Nat.le_trans Z0 (Nat.le_trans (Nat.le_trans (Nat.le_trans (Nat.le_refl _) E1.1) E2.1) (Nat.le_of_eq g3.symm)))) hZ (hw _ (List.mem_of_getElem? (i := 7) rfl)) (hw _ (List.mem_of_getElem? (i := 4) rfl)) (by decide) (by decide)) (g := (mkF m 163 #[.val (.int p0), .val (.int p1), .val (.int p2), .val (.int p3), .val (.int p4), .val (.int (0 : Int32)), .val (.long (own_s p1)), .second, .val (.long (own_s p2)), .second, .val (.long (own_s p3)), .second, .val (.long (own_s p4)), .second, .val (.ref b1), .val (.ref b2), .val (.long (0 : Int64)), .second, .unset] [(.ref b1), (.ref b2), (.ref b3), (.ref b3)])) rfl (by rw [hml]; rfl) (Steps.refl _) (a := b3) (argsL := [(.ref b2), (.ref b1)]) (rest := [(.ref b3)]) (lenOf pd_0 rfl) rfl (by show 2 * 0 + _ ≤ _; exact Nat.le_of_eq rfl) (hb hby at_163) (fun _ _ => ⟨rfl, e3, (by decide : 3 + 0 ≤ _), (by decide : 2 + 0 ≤ _)⟩)
    dsimp only [Pt.U, Pt.locs, Pt.cells, Pt.slots] at X4 l4 y4 z4 st4 hQ4
    subst l4 y4 z4
    obtain ⟨rfl, N4q, K4, Ea4, Fv4⟩ := hQ4
    have N4 := Fr.app N0 N4q
    obtain ⟨cq5, kq5, q5a, q5b, q5c⟩ := isOf hZ rfl Ea4
    obtain ⟨_, _, ⟨T5, L5, k5, n5⟩, -, X5, ⟨Lc5, hQ5, l5, y5, z5⟩, st5⟩ := X4.virtualBack hx (y := (⟨"com/example/topic_crawler/topiccrawler/topic/SparseVector", "squaredLength", "()D"⟩ : MethodName)) (z := (⟨"com/example/topic_crawler/topiccrawler/topic/SparseVector", "squaredLength", "()D"⟩ : MethodName)) hown (mvT hZ (hw _ (List.mem_of_getElem? (i := 15) rfl))) (mvT hZ (hw _ (List.mem_of_getElem? (i := 16) rfl))) (notFace_of_selects (args := #[]) (mvT hZ (hw _ (List.mem_of_getElem? (i := 18) rfl)))) (mvT hZ (hw _ (List.mem_of_getElem? (i := 18) rfl))) (mvT hZ (hw _ (List.mem_of_getElem? (i := 17) rfl))) (by decide) (backOf (W := 0) (rmsq0 l Z a0 hw [] b3 b1 k1 T4.heap n0 (Nat.le_trans (Nat.le_trans (Nat.le_trans (Nat.le_trans Z0 E1.1) E2.1) E3.1) K4.1) Fv4 (((V1.ext E2).ext E3).keep K4 (ninS (Nat.ne_of_lt (Nat.lt_of_lt_of_le (V1.ext E2).lt (Nat.le_of_eq g3.symm))) nin0))) hZ (hw _ (List.mem_of_getElem? (i := 19) rfl)) (hw _ (List.mem_of_getElem? (i := 4) rfl)) (by decide) (by decide)) q5a q5c (g := (mkF m 170 #[.val (.int p0), .val (.int p1), .val (.int p2), .val (.int p3), .val (.int p4), .val (.int (0 : Int32)), .val (.long (own_s p1)), .second, .val (.long (own_s p2)), .second, .val (.long (own_s p3)), .second, .val (.long (own_s p4)), .second, .val (.ref b1), .val (.ref b2), .val (.long (0 : Int64)), .second, .val (.ref b3)] [(.ref b3)])) rfl (by rw [hml]; rfl) (Steps.refl _) (argsL := []) (rest := []) (lenOf pd_1 rfl) rfl (by show 2 * 0 + _ ≤ _; exact Nat.le_of_eq rfl) (hb hby at_170) (fun _ _ => ⟨rfl, rfl, (by decide : 3 + 0 ≤ _), (by decide : 2 + 0 ≤ _)⟩)
    dsimp only [Pt.U, Pt.locs, Pt.cells, Pt.slots] at X5 l5 y5 z5 st5 hQ5
    subst l5 y5 z5
    obtain ⟨rfl, N5q, eh5⟩ := hQ5
    have N5 := Fr.app N4 N5q
    obtain ⟨fs, hr, hrun, hended, hW, hsame⟩ := X5.leave (v := some (.int (nar .boolean (1 : Int32)))) (fun h => by rw [Bd.returns] at h; cases h)
    refine ⟨_, _, pre0 _ ?_, hrun, hended, _, _, rfl, ?_, ⟨_, rfl⟩, hW, hsame.mono (by decide) (by decide)⟩
    · show Steps p.tables e below (s₁.setTop (mkF m 0 #[.val (.int p0), .val (.int p1), .val (.int p2), .val (.int p3), .val (.int p4), .unset, .unset, .unset, .unset, .unset, .unset, .unset, .unset, .unset, .unset, .unset, .unset, .unset, .unset] [])) _
      refine XS.iloadN X0.here hx rfl (hb hby at_0) rfl ?_
      show Steps p.tables e below (s₁.setTop (mkF m 1 #[.val (.int p0), .val (.int p1), .val (.int p2), .val (.int p3), .val (.int p4), .unset, .unset, .unset, .unset, .unset, .unset, .unset, .unset, .unset, .unset, .unset, .unset, .unset, .unset] [(.int p0)])) _
      refine XS.bipush X0.here hx rfl (hb hby at_1) ?_
      show Steps p.tables e below (s₁.setTop (mkF m 3 #[.val (.int p0), .val (.int p1), .val (.int p2), .val (.int p3), .val (.int p4), .unset, .unset, .unset, .unset, .unset, .unset, .unset, .unset, .unset, .unset, .unset, .unset, .unset, .unset] [(.int (7 : Int32)), (.int p0)])) _
      refine XS.iand X0.here hx rfl (hb hby at_3) rfl ?_
      show Steps p.tables e below (s₁.setTop (mkF m 4 #[.val (.int p0), .val (.int p1), .val (.int p2), .val (.int p3), .val (.int p4), .unset, .unset, .unset, .unset, .unset, .unset, .unset, .unset, .unset, .unset, .unset, .unset, .unset, .unset] [(.int (p0 &&& (7 : Int32)))])) _
      refine XS.iconst X0.here hx rfl (hb hby at_4) ?_
      show Steps p.tables e below (s₁.setTop (mkF m 5 #[.val (.int p0), .val (.int p1), .val (.int p2), .val (.int p3), .val (.int p4), .unset, .unset, .unset, .unset, .unset, .unset, .unset, .unset, .unset, .unset, .unset, .unset, .unset, .unset] [(.int (5 : Int32)), (.int (p0 &&& (7 : Int32)))])) _
      refine iremM X0 hx rfl (hb hby at_5) rfl (by decide) ?_
      show Steps p.tables e below (s₁.setTop (mkF m 6 #[.val (.int p0), .val (.int p1), .val (.int p2), .val (.int p3), .val (.int p4), .unset, .unset, .unset, .unset, .unset, .unset, .unset, .unset, .unset, .unset, .unset, .unset, .unset, .unset] [(.int (own_n p0))])) _
      rw [hn]
      show Steps p.tables e below (s₁.setTop (mkF m 6 #[.val (.int p0), .val (.int p1), .val (.int p2), .val (.int p3), .val (.int p4), .unset, .unset, .unset, .unset, .unset, .unset, .unset, .unset, .unset, .unset, .unset, .unset, .unset, .unset] [(.int (0 : Int32))])) _
      refine XS.istore X0.here hx rfl (hb hby at_6) rfl (l' := #[.val (.int p0), .val (.int p1), .val (.int p2), .val (.int p3), .val (.int p4), .val (.int (0 : Int32)), .unset, .unset, .unset, .unset, .unset, .unset, .unset, .unset, .unset, .unset, .unset, .unset, .unset]) rfl ?_
      show Steps p.tables e below (s₁.setTop (mkF m 8 #[.val (.int p0), .val (.int p1), .val (.int p2), .val (.int p3), .val (.int p4), .val (.int (0 : Int32)), .unset, .unset, .unset, .unset, .unset, .unset, .unset, .unset, .unset, .unset, .unset, .unset, .unset] [])) _
      refine XS.iloadN X0.here hx rfl (hb hby at_8) rfl ?_
      show Steps p.tables e below (s₁.setTop (mkF m 9 #[.val (.int p0), .val (.int p1), .val (.int p2), .val (.int p3), .val (.int p4), .val (.int (0 : Int32)), .unset, .unset, .unset, .unset, .unset, .unset, .unset, .unset, .unset, .unset, .unset, .unset, .unset] [(.int p1)])) _
      refine XS.i2s X0.here hx rfl (hb hby at_9) rfl ?_
      show Steps p.tables e below (s₁.setTop (mkF m 10 #[.val (.int p0), .val (.int p1), .val (.int p2), .val (.int p3), .val (.int p4), .val (.int (0 : Int32)), .unset, .unset, .unset, .unset, .unset, .unset, .unset, .unset, .unset, .unset, .unset, .unset, .unset] [(.int (p1.toInt16.toInt32))])) _
      refine XS.i2l X0.here hx rfl (hb hby at_10) rfl ?_
      show Steps p.tables e below (s₁.setTop (mkF m 11 #[.val (.int p0), .val (.int p1), .val (.int p2), .val (.int p3), .val (.int p4), .val (.int (0 : Int32)), .unset, .unset, .unset, .unset, .unset, .unset, .unset, .unset, .unset, .unset, .unset, .unset, .unset] [(.long (own_s p1))])) _
      refine XS.lstore X0.here hx rfl (hb hby at_11) rfl (l' := #[.val (.int p0), .val (.int p1), .val (.int p2), .val (.int p3), .val (.int p4), .val (.int (0 : Int32)), .val (.long (own_s p1)), .second, .unset, .unset, .unset, .unset, .unset, .unset, .unset, .unset, .unset, .unset, .unset]) rfl ?_
      show Steps p.tables e below (s₁.setTop (mkF m 13 #[.val (.int p0), .val (.int p1), .val (.int p2), .val (.int p3), .val (.int p4), .val (.int (0 : Int32)), .val (.long (own_s p1)), .second, .unset, .unset, .unset, .unset, .unset, .unset, .unset, .unset, .unset, .unset, .unset] [])) _
      refine XS.iloadN X0.here hx rfl (hb hby at_13) rfl ?_
      show Steps p.tables e below (s₁.setTop (mkF m 14 #[.val (.int p0), .val (.int p1), .val (.int p2), .val (.int p3), .val (.int p4), .val (.int (0 : Int32)), .val (.long (own_s p1)), .second, .unset, .unset, .unset, .unset, .unset, .unset, .unset, .unset, .unset, .unset, .unset] [(.int p2)])) _
      refine XS.i2s X0.here hx rfl (hb hby at_14) rfl ?_
      show Steps p.tables e below (s₁.setTop (mkF m 15 #[.val (.int p0), .val (.int p1), .val (.int p2), .val (.int p3), .val (.int p4), .val (.int (0 : Int32)), .val (.long (own_s p1)), .second, .unset, .unset, .unset, .unset, .unset, .unset, .unset, .unset, .unset, .unset, .unset] [(.int (p2.toInt16.toInt32))])) _
      refine XS.i2l X0.here hx rfl (hb hby at_15) rfl ?_
      show Steps p.tables e below (s₁.setTop (mkF m 16 #[.val (.int p0), .val (.int p1), .val (.int p2), .val (.int p3), .val (.int p4), .val (.int (0 : Int32)), .val (.long (own_s p1)), .second, .unset, .unset, .unset, .unset, .unset, .unset, .unset, .unset, .unset, .unset, .unset] [(.long (own_s p2))])) _
      refine XS.lstore X0.here hx rfl (hb hby at_16) rfl (l' := #[.val (.int p0), .val (.int p1), .val (.int p2), .val (.int p3), .val (.int p4), .val (.int (0 : Int32)), .val (.long (own_s p1)), .second, .val (.long (own_s p2)), .second, .unset, .unset, .unset, .unset, .unset, .unset, .unset, .unset, .unset]) rfl ?_
      show Steps p.tables e below (s₁.setTop (mkF m 18 #[.val (.int p0), .val (.int p1), .val (.int p2), .val (.int p3), .val (.int p4), .val (.int (0 : Int32)), .val (.long (own_s p1)), .second, .val (.long (own_s p2)), .second, .unset, .unset, .unset, .unset, .unset, .unset, .unset, .unset, .unset] [])) _
      refine XS.iloadN X0.here hx rfl (hb hby at_18) rfl ?_
      show Steps p.tables e below (s₁.setTop (mkF m 19 #[.val (.int p0), .val (.int p1), .val (.int p2), .val (.int p3), .val (.int p4), .val (.int (0 : Int32)), .val (.long (own_s p1)), .second, .val (.long (own_s p2)), .second, .unset, .unset, .unset, .unset, .unset, .unset, .unset, .unset, .unset] [(.int p3)])) _
      refine XS.i2s X0.here hx rfl (hb hby at_19) rfl ?_
      show Steps p.tables e below (s₁.setTop (mkF m 20 #[.val (.int p0), .val (.int p1), .val (.int p2), .val (.int p3), .val (.int p4), .val (.int (0 : Int32)), .val (.long (own_s p1)), .second, .val (.long (own_s p2)), .second, .unset, .unset, .unset, .unset, .unset, .unset, .unset, .unset, .unset] [(.int (p3.toInt16.toInt32))])) _
      refine XS.i2l X0.here hx rfl (hb hby at_20) rfl ?_
      show Steps p.tables e below (s₁.setTop (mkF m 21 #[.val (.int p0), .val (.int p1), .val (.int p2), .val (.int p3), .val (.int p4), .val (.int (0 : Int32)), .val (.long (own_s p1)), .second, .val (.long (own_s p2)), .second, .unset, .unset, .unset, .unset, .unset, .unset, .unset, .unset, .unset] [(.long (own_s p3))])) _
      refine XS.lstore X0.here hx rfl (hb hby at_21) rfl (l' := #[.val (.int p0), .val (.int p1), .val (.int p2), .val (.int p3), .val (.int p4), .val (.int (0 : Int32)), .val (.long (own_s p1)), .second, .val (.long (own_s p2)), .second, .val (.long (own_s p3)), .second, .unset, .unset, .unset, .unset, .unset, .unset, .unset]) rfl ?_
      show Steps p.tables e below (s₁.setTop (mkF m 23 #[.val (.int p0), .val (.int p1), .val (.int p2), .val (.int p3), .val (.int p4), .val (.int (0 : Int32)), .val (.long (own_s p1)), .second, .val (.long (own_s p2)), .second, .val (.long (own_s p3)), .second, .unset, .unset, .unset, .unset, .unset, .unset, .unset] [])) _
      refine XS.iload X0.here hx rfl (hb hby at_23) rfl ?_
      show Steps p.tables e below (s₁.setTop (mkF m 25 #[.val (.int p0), .val (.int p1), .val (.int p2), .val (.int p3), .val (.int p4), .val (.int (0 : Int32)), .val (.long (own_s p1)), .second, .val (.long (own_s p2)), .second, .val (.long (own_s p3)), .second, .unset, .unset, .unset, .unset, .unset, .unset, .unset] [(.int p4)])) _
      refine XS.i2s X0.here hx rfl (hb hby at_25) rfl ?_
      show Steps p.tables e below (s₁.setTop (mkF m 26 #[.val (.int p0), .val (.int p1), .val (.int p2), .val (.int p3), .val (.int p4), .val (.int (0 : Int32)), .val (.long (own_s p1)), .second, .val (.long (own_s p2)), .second, .val (.long (own_s p3)), .second, .unset, .unset, .unset, .unset, .unset, .unset, .unset] [(.int (p4.toInt16.toInt32))])) _
      refine XS.i2l X0.here hx rfl (hb hby at_26) rfl ?_
      show Steps p.tables e below (s₁.setTop (mkF m 27 #[.val (.int p0), .val (.int p1), .val (.int p2), .val (.int p3), .val (.int p4), .val (.int (0 : Int32)), .val (.long (own_s p1)), .second, .val (.long (own_s p2)), .second, .val (.long (own_s p3)), .second, .unset, .unset, .unset, .unset, .unset, .unset, .unset] [(.long (own_s p4))])) _
      refine XS.lstore X0.here hx rfl (hb hby at_27) rfl (l' := #[.val (.int p0), .val (.int p1), .val (.int p2), .val (.int p3), .val (.int p4), .val (.int (0 : Int32)), .val (.long (own_s p1)), .second, .val (.long (own_s p2)), .second, .val (.long (own_s p3)), .second, .val (.long (own_s p4)), .second, .unset, .unset, .unset, .unset, .unset]) rfl ?_
      show Steps p.tables e below (s₁.setTop (mkF m 29 #[.val (.int p0), .val (.int p1), .val (.int p2), .val (.int p3), .val (.int p4), .val (.int (0 : Int32)), .val (.long (own_s p1)), .second, .val (.long (own_s p2)), .second, .val (.long (own_s p3)), .second, .val (.long (own_s p4)), .second, .unset, .unset, .unset, .unset, .unset] [])) _
      refine XS.iload X0.here hx rfl (hb hby at_29) rfl ?_
      show Steps p.tables e below (s₁.setTop (mkF m 31 #[.val (.int p0), .val (.int p1), .val (.int p2), .val (.int p3), .val (.int p4), .val (.int (0 : Int32)), .val (.long (own_s p1)), .second, .val (.long (own_s p2)), .second, .val (.long (own_s p3)), .second, .val (.long (own_s p4)), .second, .unset, .unset, .unset, .unset, .unset] [(.int (0 : Int32))])) _
      refine st1 _ ?_
      show Steps p.tables e below (T1.setTop (mkF m 33 #[.val (.int p0), .val (.int p1), .val (.int p2), .val (.int p3), .val (.int p4), .val (.int (0 : Int32)), .val (.long (own_s p1)), .second, .val (.long (own_s p2)), .second, .val (.long (own_s p3)), .second, .val (.long (own_s p4)), .second, .unset, .unset, .unset, .unset, .unset] [(.ref b1)])) _
      refine XS.astore X1.here hx rfl (hb hby at_33) rfl rfl (l' := #[.val (.int p0), .val (.int p1), .val (.int p2), .val (.int p3), .val (.int p4), .val (.int (0 : Int32)), .val (.long (own_s p1)), .second, .val (.long (own_s p2)), .second, .val (.long (own_s p3)), .second, .val (.long (own_s p4)), .second, .val (.ref b1), .unset, .unset, .unset, .unset]) rfl ?_
      show Steps p.tables e below (T1.setTop (mkF m 35 #[.val (.int p0), .val (.int p1), .val (.int p2), .val (.int p3), .val (.int p4), .val (.int (0 : Int32)), .val (.long (own_s p1)), .second, .val (.long (own_s p2)), .second, .val (.long (own_s p3)), .second, .val (.long (own_s p4)), .second, .val (.ref b1), .unset, .unset, .unset, .unset] [])) _
      refine XS.iload X1.here hx rfl (hb hby at_35) rfl ?_
      show Steps p.tables e below (T1.setTop (mkF m 37 #[.val (.int p0), .val (.int p1), .val (.int p2), .val (.int p3), .val (.int p4), .val (.int (0 : Int32)), .val (.long (own_s p1)), .second, .val (.long (own_s p2)), .second, .val (.long (own_s p3)), .second, .val (.long (own_s p4)), .second, .val (.ref b1), .unset, .unset, .unset, .unset] [(.int (0 : Int32))])) _
      refine st2 _ ?_
      show Steps p.tables e below (T2.setTop (mkF m 39 #[.val (.int p0), .val (.int p1), .val (.int p2), .val (.int p3), .val (.int p4), .val (.int (0 : Int32)), .val (.long (own_s p1)), .second, .val (.long (own_s p2)), .second, .val (.long (own_s p3)), .second, .val (.long (own_s p4)), .second, .val (.ref b1), .unset, .unset, .unset, .unset] [(.ref b2)])) _
      refine XS.astore X2.here hx rfl (hb hby at_39) rfl rfl (l' := #[.val (.int p0), .val (.int p1), .val (.int p2), .val (.int p3), .val (.int p4), .val (.int (0 : Int32)), .val (.long (own_s p1)), .second, .val (.long (own_s p2)), .second, .val (.long (own_s p3)), .second, .val (.long (own_s p4)), .second, .val (.ref b1), .val (.ref b2), .unset, .unset, .unset]) rfl ?_
      show Steps p.tables e below (T2.setTop (mkF m 41 #[.val (.int p0), .val (.int p1), .val (.int p2), .val (.int p3), .val (.int p4), .val (.int (0 : Int32)), .val (.long (own_s p1)), .second, .val (.long (own_s p2)), .second, .val (.long (own_s p3)), .second, .val (.long (own_s p4)), .second, .val (.ref b1), .val (.ref b2), .unset, .unset, .unset] [])) _
      refine XS.lconst X2.here hx rfl (hb hby at_41) ?_
      show Steps p.tables e below (T2.setTop (mkF m 42 #[.val (.int p0), .val (.int p1), .val (.int p2), .val (.int p3), .val (.int p4), .val (.int (0 : Int32)), .val (.long (own_s p1)), .second, .val (.long (own_s p2)), .second, .val (.long (own_s p3)), .second, .val (.long (own_s p4)), .second, .val (.ref b1), .val (.ref b2), .unset, .unset, .unset] [(.long (0 : Int64))])) _
      refine XS.lstore X2.here hx rfl (hb hby at_42) rfl (l' := #[.val (.int p0), .val (.int p1), .val (.int p2), .val (.int p3), .val (.int p4), .val (.int (0 : Int32)), .val (.long (own_s p1)), .second, .val (.long (own_s p2)), .second, .val (.long (own_s p3)), .second, .val (.long (own_s p4)), .second, .val (.ref b1), .val (.ref b2), .val (.long (0 : Int64)), .second, .unset]) rfl ?_
      show Steps p.tables e below (T2.setTop (mkF m 44 #[.val (.int p0), .val (.int p1), .val (.int p2), .val (.int p3), .val (.int p4), .val (.int (0 : Int32)), .val (.long (own_s p1)), .second, .val (.long (own_s p2)), .second, .val (.long (own_s p3)), .second, .val (.long (own_s p4)), .second, .val (.ref b1), .val (.ref b2), .val (.long (0 : Int64)), .second, .unset] [])) _
      refine XS.iload X2.here hx rfl (hb hby at_44) rfl ?_
      show Steps p.tables e below (T2.setTop (mkF m 46 #[.val (.int p0), .val (.int p1), .val (.int p2), .val (.int p3), .val (.int p4), .val (.int (0 : Int32)), .val (.long (own_s p1)), .second, .val (.long (own_s p2)), .second, .val (.long (own_s p3)), .second, .val (.long (own_s p4)), .second, .val (.ref b1), .val (.ref b2), .val (.long (0 : Int64)), .second, .unset] [(.int (0 : Int32))])) _
      refine XS.ifYes X2.here hx rfl (pc0 := 46) (pc' := 71) rfl (hb hby at_46) rfl (by decide) (by decide) (by decide) ?_
      show Steps p.tables e below (T2.setTop (mkF m 71 #[.val (.int p0), .val (.int p1), .val (.int p2), .val (.int p3), .val (.int p4), .val (.int (0 : Int32)), .val (.long (own_s p1)), .second, .val (.long (own_s p2)), .second, .val (.long (own_s p3)), .second, .val (.long (own_s p4)), .second, .val (.ref b1), .val (.ref b2), .val (.long (0 : Int64)), .second, .unset] [])) _
      refine XS.iload X2.here hx rfl (hb hby at_71) rfl ?_
      show Steps p.tables e below (T2.setTop (mkF m 73 #[.val (.int p0), .val (.int p1), .val (.int p2), .val (.int p3), .val (.int p4), .val (.int (0 : Int32)), .val (.long (own_s p1)), .second, .val (.long (own_s p2)), .second, .val (.long (own_s p3)), .second, .val (.long (own_s p4)), .second, .val (.ref b1), .val (.ref b2), .val (.long (0 : Int64)), .second, .unset] [(.int (0 : Int32))])) _
      refine XS.iconst X2.here hx rfl (hb hby at_73) ?_
      show Steps p.tables e below (T2.setTop (mkF m 74 #[.val (.int p0), .val (.int p1), .val (.int p2), .val (.int p3), .val (.int p4), .val (.int (0 : Int32)), .val (.long (own_s p1)), .second, .val (.long (own_s p2)), .second, .val (.long (own_s p3)), .second, .val (.long (own_s p4)), .second, .val (.ref b1), .val (.ref b2), .val (.long (0 : Int64)), .second, .unset] [(.int (1 : Int32)), (.int (0 : Int32))])) _
      refine XS.icmpYes X2.here hx rfl (pc0 := 74) (pc' := 99) rfl (hb hby at_74) rfl (by decide) (by decide) (by decide) ?_
      show Steps p.tables e below (T2.setTop (mkF m 99 #[.val (.int p0), .val (.int p1), .val (.int p2), .val (.int p3), .val (.int p4), .val (.int (0 : Int32)), .val (.long (own_s p1)), .second, .val (.long (own_s p2)), .second, .val (.long (own_s p3)), .second, .val (.long (own_s p4)), .second, .val (.ref b1), .val (.ref b2), .val (.long (0 : Int64)), .second, .unset] [])) _
      refine XS.iload X2.here hx rfl (hb hby at_99) rfl ?_
      show Steps p.tables e below (T2.setTop (mkF m 101 #[.val (.int p0), .val (.int p1), .val (.int p2), .val (.int p3), .val (.int p4), .val (.int (0 : Int32)), .val (.long (own_s p1)), .second, .val (.long (own_s p2)), .second, .val (.long (own_s p3)), .second, .val (.long (own_s p4)), .second, .val (.ref b1), .val (.ref b2), .val (.long (0 : Int64)), .second, .unset] [(.int (0 : Int32))])) _
      refine XS.iconst X2.here hx rfl (hb hby at_101) ?_
      show Steps p.tables e below (T2.setTop (mkF m 102 #[.val (.int p0), .val (.int p1), .val (.int p2), .val (.int p3), .val (.int p4), .val (.int (0 : Int32)), .val (.long (own_s p1)), .second, .val (.long (own_s p2)), .second, .val (.long (own_s p3)), .second, .val (.long (own_s p4)), .second, .val (.ref b1), .val (.ref b2), .val (.long (0 : Int64)), .second, .unset] [(.int (2 : Int32)), (.int (0 : Int32))])) _
      refine XS.icmpYes X2.here hx rfl (pc0 := 102) (pc' := 127) rfl (hb hby at_102) rfl (by decide) (by decide) (by decide) ?_
      show Steps p.tables e below (T2.setTop (mkF m 127 #[.val (.int p0), .val (.int p1), .val (.int p2), .val (.int p3), .val (.int p4), .val (.int (0 : Int32)), .val (.long (own_s p1)), .second, .val (.long (own_s p2)), .second, .val (.long (own_s p3)), .second, .val (.long (own_s p4)), .second, .val (.ref b1), .val (.ref b2), .val (.long (0 : Int64)), .second, .unset] [])) _
      refine XS.iload X2.here hx rfl (hb hby at_127) rfl ?_
      show Steps p.tables e below (T2.setTop (mkF m 129 #[.val (.int p0), .val (.int p1), .val (.int p2), .val (.int p3), .val (.int p4), .val (.int (0 : Int32)), .val (.long (own_s p1)), .second, .val (.long (own_s p2)), .second, .val (.long (own_s p3)), .second, .val (.long (own_s p4)), .second, .val (.ref b1), .val (.ref b2), .val (.long (0 : Int64)), .second, .unset] [(.int (0 : Int32))])) _
      refine XS.iconst X2.here hx rfl (hb hby at_129) ?_
      show Steps p.tables e below (T2.setTop (mkF m 130 #[.val (.int p0), .val (.int p1), .val (.int p2), .val (.int p3), .val (.int p4), .val (.int (0 : Int32)), .val (.long (own_s p1)), .second, .val (.long (own_s p2)), .second, .val (.long (own_s p3)), .second, .val (.long (own_s p4)), .second, .val (.ref b1), .val (.ref b2), .val (.long (0 : Int64)), .second, .unset] [(.int (3 : Int32)), (.int (0 : Int32))])) _
      refine XS.icmpYes X2.here hx rfl (pc0 := 130) (pc' := 155) rfl (hb hby at_130) rfl (by decide) (by decide) (by decide) ?_
      show Steps p.tables e below (T2.setTop (mkF m 155 #[.val (.int p0), .val (.int p1), .val (.int p2), .val (.int p3), .val (.int p4), .val (.int (0 : Int32)), .val (.long (own_s p1)), .second, .val (.long (own_s p2)), .second, .val (.long (own_s p3)), .second, .val (.long (own_s p4)), .second, .val (.ref b1), .val (.ref b2), .val (.long (0 : Int64)), .second, .unset] [])) _
      refine st3 _ ?_
      show Steps p.tables e below (T3.setTop (mkF m 158 #[.val (.int p0), .val (.int p1), .val (.int p2), .val (.int p3), .val (.int p4), .val (.int (0 : Int32)), .val (.long (own_s p1)), .second, .val (.long (own_s p2)), .second, .val (.long (own_s p3)), .second, .val (.long (own_s p4)), .second, .val (.ref b1), .val (.ref b2), .val (.long (0 : Int64)), .second, .unset] [(.ref b3)])) _
      refine XS.dup X3.here hx rfl (hb hby at_158) rfl rfl ?_
      show Steps p.tables e below (T3.setTop (mkF m 159 #[.val (.int p0), .val (.int p1), .val (.int p2), .val (.int p3), .val (.int p4), .val (.int (0 : Int32)), .val (.long (own_s p1)), .second, .val (.long (own_s p2)), .second, .val (.long (own_s p3)), .second, .val (.long (own_s p4)), .second, .val (.ref b1), .val (.ref b2), .val (.long (0 : Int64)), .second, .unset] [(.ref b3), (.ref b3)])) _
      refine XS.aload X3.here hx rfl (hb hby at_159) rfl rfl ?_
      show Steps p.tables e below (T3.setTop (mkF m 161 #[.val (.int p0), .val (.int p1), .val (.int p2), .val (.int p3), .val (.int p4), .val (.int (0 : Int32)), .val (.long (own_s p1)), .second, .val (.long (own_s p2)), .second, .val (.long (own_s p3)), .second, .val (.long (own_s p4)), .second, .val (.ref b1), .val (.ref b2), .val (.long (0 : Int64)), .second, .unset] [(.ref b2), (.ref b3), (.ref b3)])) _
      refine XS.aload X3.here hx rfl (hb hby at_161) rfl rfl ?_
      show Steps p.tables e below (T3.setTop (mkF m 163 #[.val (.int p0), .val (.int p1), .val (.int p2), .val (.int p3), .val (.int p4), .val (.int (0 : Int32)), .val (.long (own_s p1)), .second, .val (.long (own_s p2)), .second, .val (.long (own_s p3)), .second, .val (.long (own_s p4)), .second, .val (.ref b1), .val (.ref b2), .val (.long (0 : Int64)), .second, .unset] [(.ref b1), (.ref b2), (.ref b3), (.ref b3)])) _
      refine st4.trans ?_
      show Steps p.tables e below (T4.setTop (mkF m 166 #[.val (.int p0), .val (.int p1), .val (.int p2), .val (.int p3), .val (.int p4), .val (.int (0 : Int32)), .val (.long (own_s p1)), .second, .val (.long (own_s p2)), .second, .val (.long (own_s p3)), .second, .val (.long (own_s p4)), .second, .val (.ref b1), .val (.ref b2), .val (.long (0 : Int64)), .second, .unset] [(.ref b3)])) _
      refine XS.astore X4.here hx rfl (hb hby at_166) rfl rfl (l' := #[.val (.int p0), .val (.int p1), .val (.int p2), .val (.int p3), .val (.int p4), .val (.int (0 : Int32)), .val (.long (own_s p1)), .second, .val (.long (own_s p2)), .second, .val (.long (own_s p3)), .second, .val (.long (own_s p4)), .second, .val (.ref b1), .val (.ref b2), .val (.long (0 : Int64)), .second, .val (.ref b3)]) rfl ?_
      show Steps p.tables e below (T4.setTop (mkF m 168 #[.val (.int p0), .val (.int p1), .val (.int p2), .val (.int p3), .val (.int p4), .val (.int (0 : Int32)), .val (.long (own_s p1)), .second, .val (.long (own_s p2)), .second, .val (.long (own_s p3)), .second, .val (.long (own_s p4)), .second, .val (.ref b1), .val (.ref b2), .val (.long (0 : Int64)), .second, .val (.ref b3)] [])) _
      refine XS.aload X4.here hx rfl (hb hby at_168) rfl rfl ?_
      show Steps p.tables e below (T4.setTop (mkF m 170 #[.val (.int p0), .val (.int p1), .val (.int p2), .val (.int p3), .val (.int p4), .val (.int (0 : Int32)), .val (.long (own_s p1)), .second, .val (.long (own_s p2)), .second, .val (.long (own_s p3)), .second, .val (.long (own_s p4)), .second, .val (.ref b1), .val (.ref b2), .val (.long (0 : Int64)), .second, .val (.ref b3)] [(.ref b3)])) _
      refine st5.trans ?_
      show Steps p.tables e below (T5.setTop (mkF m 173 #[.val (.int p0), .val (.int p1), .val (.int p2), .val (.int p3), .val (.int p4), .val (.int (0 : Int32)), .val (.long (own_s p1)), .second, .val (.long (own_s p2)), .second, .val (.long (own_s p3)), .second, .val (.long (own_s p4)), .second, .val (.ref b1), .val (.ref b2), .val (.long (0 : Int64)), .second, .val (.ref b3)] [(.double (0 : UInt64))])) _
      refine XS.lload X5.here hx rfl (hb hby at_173) rfl ?_
      show Steps p.tables e below (T5.setTop (mkF m 175 #[.val (.int p0), .val (.int p1), .val (.int p2), .val (.int p3), .val (.int p4), .val (.int (0 : Int32)), .val (.long (own_s p1)), .second, .val (.long (own_s p2)), .second, .val (.long (own_s p3)), .second, .val (.long (own_s p4)), .second, .val (.ref b1), .val (.ref b2), .val (.long (0 : Int64)), .second, .val (.ref b3)] [(.long (0 : Int64)), (.double (0 : UInt64))])) _
      refine XS.l2dS X5.here hx rfl (hb hby at_175) rfl rfl ?_
      show Steps p.tables e below (T5.setTop (mkF m 176 #[.val (.int p0), .val (.int p1), .val (.int p2), .val (.int p3), .val (.int p4), .val (.int (0 : Int32)), .val (.long (own_s p1)), .second, .val (.long (own_s p2)), .second, .val (.long (own_s p3)), .second, .val (.long (own_s p4)), .second, .val (.ref b1), .val (.ref b2), .val (.long (0 : Int64)), .second, .val (.ref b3)] [(.double (FP.l2d (0 : Int64))), (.double (0 : UInt64))])) _
      refine XS.dcmpS X5.here hx rfl (hb hby at_176) rfl rfl ?_
      show Steps p.tables e below (T5.setTop (mkF m 177 #[.val (.int p0), .val (.int p1), .val (.int p2), .val (.int p3), .val (.int p4), .val (.int (0 : Int32)), .val (.long (own_s p1)), .second, .val (.long (own_s p2)), .second, .val (.long (own_s p3)), .second, .val (.long (own_s p4)), .second, .val (.ref b1), .val (.ref b2), .val (.long (0 : Int64)), .second, .val (.ref b3)] [(.int (cmpValue (FP.dcmp (0 : UInt64) (FP.l2d (0 : Int64))) .l))])) _
      refine XS.ifNo X5.here hx rfl (hb hby at_177) rfl own_end0 ?_
      show Steps p.tables e below (T5.setTop (mkF m 180 #[.val (.int p0), .val (.int p1), .val (.int p2), .val (.int p3), .val (.int p4), .val (.int (0 : Int32)), .val (.long (own_s p1)), .second, .val (.long (own_s p2)), .second, .val (.long (own_s p3)), .second, .val (.long (own_s p4)), .second, .val (.ref b1), .val (.ref b2), .val (.long (0 : Int64)), .second, .val (.ref b3)] [])) _
      refine XS.iconst X5.here hx rfl (hb hby at_180) ?_
      show Steps p.tables e below (T5.setTop (mkF m 181 #[.val (.int p0), .val (.int p1), .val (.int p2), .val (.int p3), .val (.int p4), .val (.int (0 : Int32)), .val (.long (own_s p1)), .second, .val (.long (own_s p2)), .second, .val (.long (own_s p3)), .second, .val (.long (own_s p4)), .second, .val (.ref b1), .val (.ref b2), .val (.long (0 : Int64)), .second, .val (.ref b3)] [(.int (1 : Int32))])) _
      refine XS.goto X5.here hx rfl (pc0 := 181) (pc' := 185) rfl (hb hby at_181) (by decide) (by decide) ?_
      show Steps p.tables e below (T5.setTop (mkF m 185 #[.val (.int p0), .val (.int p1), .val (.int p2), .val (.int p3), .val (.int p4), .val (.int (0 : Int32)), .val (.long (own_s p1)), .second, .val (.long (own_s p2)), .second, .val (.long (own_s p3)), .second, .val (.long (own_s p4)), .second, .val (.ref b1), .val (.ref b2), .val (.long (0 : Int64)), .second, .val (.ref b3)] [(.int (1 : Int32))])) _
      exact retN X5 hx (t := .boolean) Bd.returns (by simp) (hb hby at_185) hr
    · show Q0 Z p0 p1 p2 p3 p4 h0 n0 _ T5.heap _
      rw [eh5]
      exact ⟨rfl, N5⟩
  · obtain ⟨T6, h6, k6, X6, e6, E6, A6, Ax6, st6⟩ := newPE X0 hx hZ (hw _ (List.mem_of_getElem? (i := 0) rfl)) e0 (g := (mkF m 31 #[.val (.int p0), .val (.int p1), .val (.int p2), .val (.int p3), .val (.int p4), .val (.int (1 : Int32)), .val (.long (own_s p1)), .second, .val (.long (own_s p2)), .second, .val (.long (own_s p3)), .second, .val (.long (own_s p4)), .second, .unset, .unset, .unset, .unset, .unset] [(.int (1 : Int32))])) rfl (hb hby at_31) rfl (by decide) (cap := 1) (by decide) (by decide) (by decide) (by decide) (ad := "[D") (by decide)
    obtain ⟨b6, g6⟩ : ∃ z, z = h0.size := ⟨_, rfl⟩
    rw [← g6] at A6 Ax6 st6
    have V6 : Arv Z h6 b6 k6 .double (1 : Int32) [(.double (0 : UInt64))] (.double (0 : UInt64)) := (Arv.new A6 (by decide)).pad (pad_rep [] (.double (0 : UInt64)) 1)
    obtain ⟨T7, h7, k7, X7, e7, E7, A7, Ax7, st7⟩ := newPE X6 hx hZ (hw _ (List.mem_of_getElem? (i := 1) rfl)) e6 (g := (mkF m 37 #[.val (.int p0), .val (.int p1), .val (.int p2), .val (.int p3), .val (.int p4), .val (.int (1 : Int32)), .val (.long (own_s p1)), .second, .val (.long (own_s p2)), .second, .val (.long (own_s p3)), .second, .val (.long (own_s p4)), .second, .val (.ref b6), .unset, .unset, .unset, .unset] [(.int (1 : Int32))])) rfl (hb hby at_37) rfl (by decide) (cap := 1) (by decide) (by decide) (by decide) (by decide) (ad := "[I") (by decide)
    obtain ⟨b7, g7⟩ : ∃ z, z = h6.size := ⟨_, rfl⟩
    rw [← g7] at A7 Ax7 st7
    have V7 : Arv Z h7 b7 k7 .int (1 : Int32) [(.int (0 : Int32))] (.int (0 : Int32)) := (Arv.new A7 (by decide)).pad (pad_rep [] (.int (0 : Int32)) 1)
    obtain ⟨cl8, Ar8, q8, S8, P8, Ha8, G8⟩ := (V6.ext E7)
    have hin8 : ¬ ((0 : Int32) < 0 ∨ cl8.slots.size ≤ ((0 : Int32)).toNatClampNeg) := inb_of S8 ⟨by decide, by decide⟩
    obtain ⟨T9, h9, X9, e9, W9, st9⟩ := stD X7 hx hZ e7 Ar8 (j := (0 : Int32)) hin8 (g := (mkF m 55 #[.val (.int p0), .val (.int p1), .val (.int p2), .val (.int p3), .val (.int p4), .val (.int (1 : Int32)), .val (.long (own_s p1)), .second, .val (.long (own_s p2)), .second, .val (.long (own_s p3)), .second, .val (.long (own_s p4)), .second, .val (.ref b6), .val (.ref b7), .val (.long (0 : Int64)), .second, .unset] [(.double (FP.l2d (own_s p1))), (.int (0 : Int32)), (.ref b6)])) rfl rfl (hb hby at_55)
    have V9 : Arv Z h9 b6 k6 .double (1 : Int32) [(.double (FP.l2d (own_s p1)))] (.double (0 : UInt64)) := Arv.set Ar8 q8 S8 P8 Ha8 G8 rfl W9 0 rfl (Nat.le_of_ble_eq_true rfl)
    have N9 := Fr.snoc X9 N0 (Nat.le_trans Z0 (Nat.le_trans (Nat.le_refl _) (Nat.le_of_eq g6.symm)))
    obtain ⟨cl10, Ar10, q10, S10, P10, Ha10, G10⟩ := (V7.other W9 (Ne.symm (Nat.ne_of_lt (Nat.lt_of_lt_of_le Ax6.lt (Nat.le_of_eq g7.symm)))))
    have hin10 : ¬ ((0 : Int32) < 0 ∨ cl10.slots.size ≤ ((0 : Int32)).toNatClampNeg) := inb_of S10 ⟨by decide, by decide⟩
    obtain ⟨T11, h11, X11, e11, W11, st11⟩ := stI X9 hx hZ e9 Ar10 (j := (0 : Int32)) hin10 (g := (mkF m 60 #[.val (.int p0), .val (.int p1), .val (.int p2), .val (.int p3), .val (.int p4), .val (.int (1 : Int32)), .val (.long (own_s p1)), .second, .val (.long (own_s p2)), .second, .val (.long (own_s p3)), .second, .val (.long (own_s p4)), .second, .val (.ref b6), .val (.ref b7), .val (.long (0 : Int64)), .second, .unset] [(.int (0 : Int32)), (.int (0 : Int32)), (.ref b7)])) rfl rfl (hb hby at_60)
    have V11 : Arv Z h11 b7 k7 .int (1 : Int32) [(.int (0 : Int32))] (.int (0 : Int32)) := Arv.set Ar10 q10 S10 P10 Ha10 G10 rfl W11 0 rfl (Nat.le_of_ble_eq_true rfl)
    have N11 := Fr.snoc X11 N9 (Nat.le_trans Z0 (Nat.le_trans (Nat.le_trans (Nat.le_refl _) E6.1) (Nat.le_of_eq g7.symm)))
    obtain ⟨T12, h12, X12, e12, E12, A12, D12, -, st12⟩ := newO X11 hx hZ hown (hw _ (List.mem_of_getElem? (i := 2) rfl)) (hw _ (List.mem_of_getElem? (i := 3) rfl)) (hw _ (List.mem_of_getElem? (i := 4) rfl)) e11 (g := (mkF m 155 #[.val (.int p0), .val (.int p1), .val (.int p2), .val (.int p3), .val (.int p4), .val (.int (1 : Int32)), .val (.long (own_s p1)), .second, .val (.long (own_s p2)), .second, .val (.long (own_s p3)), .second, .val (.long (own_s p4)), .second, .val (.ref b6), .val (.ref b7), .val (.long ((0 : Int64) + ((own_s p1) * (own_s p1)))), .second, .unset] [])) rfl (hb hby at_155) (by decide) (by decide)
    obtain ⟨b12, g12⟩ : ∃ z, z = h11.size := ⟨_, rfl⟩
    rw [← g12] at A12 D12 st12
    have F12_indices : Fld Z h12 b12 "com/example/topic_crawler/topiccrawler/topic/SparseVector" "indices" "[I" .null := D12 (Or.inr (hw _ (List.mem_of_getElem? (i := 12) rfl))) (ty := (.array .int)) (by decide)
    have F12_values : Fld Z h12 b12 "com/example/topic_crawler/topiccrawler/topic/SparseVector" "values" "[D" .null := D12 (Or.inr (hw _ (List.mem_of_getElem? (i := 14) rfl))) (ty := (.array .double)) (by decide)
    obtain ⟨_, _, ⟨T13, L13, k13, n13⟩, -, X13, ⟨Lc13, hQ13, l13, y13, z13⟩, st13⟩ := X12.specialBack hx (y := (⟨"com/example/topic_crawler/topiccrawler/topic/SparseVector", "<init>", "([I[D)V"⟩ : MethodName)) rfl hown (mvT hZ (hw _ (List.mem_of_getElem? (i := 5) rfl))) (mvT hZ (hw _ (List.mem_of_getElem? (i := 6) rfl))) (mvT hZ (hw _ (List.mem_of_getElem? (i := 7) rfl))) (by decide) (backOf (W := 1) (rmsv l Z a0 hw [] b12 b7 b6 h12 n0 (Nat.le_trans (Nat.le_trans (Nat.le_trans (Nat.le_trans (Nat.le_trans Z0 E6.1) E7.1) (Keep.of_wr W9).1) (Keep.of_wr W11).1) E12.1) F12_indices F12_values A12 (Nat.le_trans Z0 (Nat.le_trans (Nat.le_trans (Nat.le_trans (Nat.le_trans (Nat.le_trans (Nat.le_refl _) E6.1) E7.1) (Keep.of_wr W9).1) (Keep.of_wr W11).1) (Nat.le_of_eq g12.symm)))) hZ (hw _ (List.mem_of_getElem? (i := 7) rfl)) (hw _ (List.mem_of_getElem? (i := 4) rfl)) (by decide) (by decide)) (g := (mkF m 163 #[.val (.int p0), .val (.int p1), .val (.int p2), .val (.int p3), .val (.int p4), .val (.int (1 : Int32)), .val (.long (own_s p1)), .second, .val (.long (own_s p2)), .second, .val (.long (own_s p3)), .second, .val (.long (own_s p4)), .second, .val (.ref b6), .val (.ref b7), .val (.long ((0 : Int64) + ((own_s p1) * (own_s p1)))), .second, .unset] [(.ref b6), (.ref b7), (.ref b12), (.ref b12)])) rfl (by rw [hml]; rfl) (Steps.refl _) (a := b12) (argsL := [(.ref b7), (.ref b6)]) (rest := [(.ref b12)]) (lenOf pd_0 rfl) rfl (by show 2 * 0 + _ ≤ _; exact Nat.le_of_eq rfl) (hb hby at_163) (fun _ _ => ⟨rfl, e12, (by decide : 3 + 0 ≤ _), (by decide : 4 + 0 ≤ _)⟩)
    dsimp only [Pt.U, Pt.locs, Pt.cells, Pt.slots] at X13 l13 y13 z13 st13 hQ13
    subst l13 y13 z13
    obtain ⟨rfl, N13q, K13, Ea13, Fv13⟩ := hQ13
    have N13 := Fr.app N11 N13q
    obtain ⟨cq14, kq14, q14a, q14b, q14c⟩ := isOf hZ rfl Ea13
    obtain ⟨_, _, ⟨T14, L14, k14, n14⟩, -, X14, ⟨Lc14, hQ14, l14, y14, z14⟩, st14⟩ := X13.virtualBack hx (y := (⟨"com/example/topic_crawler/topiccrawler/topic/SparseVector", "squaredLength", "()D"⟩ : MethodName)) (z := (⟨"com/example/topic_crawler/topiccrawler/topic/SparseVector", "squaredLength", "()D"⟩ : MethodName)) hown (mvT hZ (hw _ (List.mem_of_getElem? (i := 15) rfl))) (mvT hZ (hw _ (List.mem_of_getElem? (i := 16) rfl))) (notFace_of_selects (args := #[]) (mvT hZ (hw _ (List.mem_of_getElem? (i := 18) rfl)))) (mvT hZ (hw _ (List.mem_of_getElem? (i := 18) rfl))) (mvT hZ (hw _ (List.mem_of_getElem? (i := 17) rfl))) (by decide) (backOf (W := 0) (rmsq1 l Z a0 hw [] b12 b6 k6 (own_s p1) T13.heap n0 (Nat.le_trans (Nat.le_trans (Nat.le_trans (Nat.le_trans (Nat.le_trans (Nat.le_trans Z0 E6.1) E7.1) (Keep.of_wr W9).1) (Keep.of_wr W11).1) E12.1) K13.1) Fv13 (((V9.other W11 (Nat.ne_of_lt (Nat.lt_of_lt_of_le Ax6.lt (Nat.le_of_eq g7.symm)))).ext E12).keep K13 (ninS (Nat.ne_of_lt (Nat.lt_of_lt_of_le (V9.other W11 (Nat.ne_of_lt (Nat.lt_of_lt_of_le Ax6.lt (Nat.le_of_eq g7.symm)))).lt (Nat.le_of_eq g12.symm))) nin0)) (own_mul p1) (own_add0 p1)) hZ (hw _ (List.mem_of_getElem? (i := 19) rfl)) (hw _ (List.mem_of_getElem? (i := 4) rfl)) (by decide) (by decide)) q14a q14c (g := (mkF m 170 #[.val (.int p0), .val (.int p1), .val (.int p2), .val (.int p3), .val (.int p4), .val (.int (1 : Int32)), .val (.long (own_s p1)), .second, .val (.long (own_s p2)), .second, .val (.long (own_s p3)), .second, .val (.long (own_s p4)), .second, .val (.ref b6), .val (.ref b7), .val (.long ((0 : Int64) + ((own_s p1) * (own_s p1)))), .second, .val (.ref b12)] [(.ref b12)])) rfl (by rw [hml]; rfl) (Steps.refl _) (argsL := []) (rest := []) (lenOf pd_1 rfl) rfl (by show 2 * 0 + _ ≤ _; exact Nat.le_of_eq rfl) (hb hby at_170) (fun _ _ => ⟨rfl, rfl, (by decide : 3 + 0 ≤ _), (by decide : 4 + 0 ≤ _)⟩)
    dsimp only [Pt.U, Pt.locs, Pt.cells, Pt.slots] at X14 l14 y14 z14 st14 hQ14
    subst l14 y14 z14
    obtain ⟨rfl, N14q, eh14⟩ := hQ14
    have N14 := Fr.app N13 N14q
    obtain ⟨fs, hr, hrun, hended, hW, hsame⟩ := X14.leave (v := some (.int (nar .boolean (1 : Int32)))) (fun h => by rw [Bd.returns] at h; cases h)
    refine ⟨_, _, pre0 _ ?_, hrun, hended, _, _, rfl, ?_, ⟨_, rfl⟩, hW, hsame.mono (by decide) (by decide)⟩
    · show Steps p.tables e below (s₁.setTop (mkF m 0 #[.val (.int p0), .val (.int p1), .val (.int p2), .val (.int p3), .val (.int p4), .unset, .unset, .unset, .unset, .unset, .unset, .unset, .unset, .unset, .unset, .unset, .unset, .unset, .unset] [])) _
      refine XS.iloadN X0.here hx rfl (hb hby at_0) rfl ?_
      show Steps p.tables e below (s₁.setTop (mkF m 1 #[.val (.int p0), .val (.int p1), .val (.int p2), .val (.int p3), .val (.int p4), .unset, .unset, .unset, .unset, .unset, .unset, .unset, .unset, .unset, .unset, .unset, .unset, .unset, .unset] [(.int p0)])) _
      refine XS.bipush X0.here hx rfl (hb hby at_1) ?_
      show Steps p.tables e below (s₁.setTop (mkF m 3 #[.val (.int p0), .val (.int p1), .val (.int p2), .val (.int p3), .val (.int p4), .unset, .unset, .unset, .unset, .unset, .unset, .unset, .unset, .unset, .unset, .unset, .unset, .unset, .unset] [(.int (7 : Int32)), (.int p0)])) _
      refine XS.iand X0.here hx rfl (hb hby at_3) rfl ?_
      show Steps p.tables e below (s₁.setTop (mkF m 4 #[.val (.int p0), .val (.int p1), .val (.int p2), .val (.int p3), .val (.int p4), .unset, .unset, .unset, .unset, .unset, .unset, .unset, .unset, .unset, .unset, .unset, .unset, .unset, .unset] [(.int (p0 &&& (7 : Int32)))])) _
      refine XS.iconst X0.here hx rfl (hb hby at_4) ?_
      show Steps p.tables e below (s₁.setTop (mkF m 5 #[.val (.int p0), .val (.int p1), .val (.int p2), .val (.int p3), .val (.int p4), .unset, .unset, .unset, .unset, .unset, .unset, .unset, .unset, .unset, .unset, .unset, .unset, .unset, .unset] [(.int (5 : Int32)), (.int (p0 &&& (7 : Int32)))])) _
      refine iremM X0 hx rfl (hb hby at_5) rfl (by decide) ?_
      show Steps p.tables e below (s₁.setTop (mkF m 6 #[.val (.int p0), .val (.int p1), .val (.int p2), .val (.int p3), .val (.int p4), .unset, .unset, .unset, .unset, .unset, .unset, .unset, .unset, .unset, .unset, .unset, .unset, .unset, .unset] [(.int (own_n p0))])) _
      rw [hn]
      show Steps p.tables e below (s₁.setTop (mkF m 6 #[.val (.int p0), .val (.int p1), .val (.int p2), .val (.int p3), .val (.int p4), .unset, .unset, .unset, .unset, .unset, .unset, .unset, .unset, .unset, .unset, .unset, .unset, .unset, .unset] [(.int (1 : Int32))])) _
      refine XS.istore X0.here hx rfl (hb hby at_6) rfl (l' := #[.val (.int p0), .val (.int p1), .val (.int p2), .val (.int p3), .val (.int p4), .val (.int (1 : Int32)), .unset, .unset, .unset, .unset, .unset, .unset, .unset, .unset, .unset, .unset, .unset, .unset, .unset]) rfl ?_
      show Steps p.tables e below (s₁.setTop (mkF m 8 #[.val (.int p0), .val (.int p1), .val (.int p2), .val (.int p3), .val (.int p4), .val (.int (1 : Int32)), .unset, .unset, .unset, .unset, .unset, .unset, .unset, .unset, .unset, .unset, .unset, .unset, .unset] [])) _
      refine XS.iloadN X0.here hx rfl (hb hby at_8) rfl ?_
      show Steps p.tables e below (s₁.setTop (mkF m 9 #[.val (.int p0), .val (.int p1), .val (.int p2), .val (.int p3), .val (.int p4), .val (.int (1 : Int32)), .unset, .unset, .unset, .unset, .unset, .unset, .unset, .unset, .unset, .unset, .unset, .unset, .unset] [(.int p1)])) _
      refine XS.i2s X0.here hx rfl (hb hby at_9) rfl ?_
      show Steps p.tables e below (s₁.setTop (mkF m 10 #[.val (.int p0), .val (.int p1), .val (.int p2), .val (.int p3), .val (.int p4), .val (.int (1 : Int32)), .unset, .unset, .unset, .unset, .unset, .unset, .unset, .unset, .unset, .unset, .unset, .unset, .unset] [(.int (p1.toInt16.toInt32))])) _
      refine XS.i2l X0.here hx rfl (hb hby at_10) rfl ?_
      show Steps p.tables e below (s₁.setTop (mkF m 11 #[.val (.int p0), .val (.int p1), .val (.int p2), .val (.int p3), .val (.int p4), .val (.int (1 : Int32)), .unset, .unset, .unset, .unset, .unset, .unset, .unset, .unset, .unset, .unset, .unset, .unset, .unset] [(.long (own_s p1))])) _
      refine XS.lstore X0.here hx rfl (hb hby at_11) rfl (l' := #[.val (.int p0), .val (.int p1), .val (.int p2), .val (.int p3), .val (.int p4), .val (.int (1 : Int32)), .val (.long (own_s p1)), .second, .unset, .unset, .unset, .unset, .unset, .unset, .unset, .unset, .unset, .unset, .unset]) rfl ?_
      show Steps p.tables e below (s₁.setTop (mkF m 13 #[.val (.int p0), .val (.int p1), .val (.int p2), .val (.int p3), .val (.int p4), .val (.int (1 : Int32)), .val (.long (own_s p1)), .second, .unset, .unset, .unset, .unset, .unset, .unset, .unset, .unset, .unset, .unset, .unset] [])) _
      refine XS.iloadN X0.here hx rfl (hb hby at_13) rfl ?_
      show Steps p.tables e below (s₁.setTop (mkF m 14 #[.val (.int p0), .val (.int p1), .val (.int p2), .val (.int p3), .val (.int p4), .val (.int (1 : Int32)), .val (.long (own_s p1)), .second, .unset, .unset, .unset, .unset, .unset, .unset, .unset, .unset, .unset, .unset, .unset] [(.int p2)])) _
      refine XS.i2s X0.here hx rfl (hb hby at_14) rfl ?_
      show Steps p.tables e below (s₁.setTop (mkF m 15 #[.val (.int p0), .val (.int p1), .val (.int p2), .val (.int p3), .val (.int p4), .val (.int (1 : Int32)), .val (.long (own_s p1)), .second, .unset, .unset, .unset, .unset, .unset, .unset, .unset, .unset, .unset, .unset, .unset] [(.int (p2.toInt16.toInt32))])) _
      refine XS.i2l X0.here hx rfl (hb hby at_15) rfl ?_
      show Steps p.tables e below (s₁.setTop (mkF m 16 #[.val (.int p0), .val (.int p1), .val (.int p2), .val (.int p3), .val (.int p4), .val (.int (1 : Int32)), .val (.long (own_s p1)), .second, .unset, .unset, .unset, .unset, .unset, .unset, .unset, .unset, .unset, .unset, .unset] [(.long (own_s p2))])) _
      refine XS.lstore X0.here hx rfl (hb hby at_16) rfl (l' := #[.val (.int p0), .val (.int p1), .val (.int p2), .val (.int p3), .val (.int p4), .val (.int (1 : Int32)), .val (.long (own_s p1)), .second, .val (.long (own_s p2)), .second, .unset, .unset, .unset, .unset, .unset, .unset, .unset, .unset, .unset]) rfl ?_
      show Steps p.tables e below (s₁.setTop (mkF m 18 #[.val (.int p0), .val (.int p1), .val (.int p2), .val (.int p3), .val (.int p4), .val (.int (1 : Int32)), .val (.long (own_s p1)), .second, .val (.long (own_s p2)), .second, .unset, .unset, .unset, .unset, .unset, .unset, .unset, .unset, .unset] [])) _
      refine XS.iloadN X0.here hx rfl (hb hby at_18) rfl ?_
      show Steps p.tables e below (s₁.setTop (mkF m 19 #[.val (.int p0), .val (.int p1), .val (.int p2), .val (.int p3), .val (.int p4), .val (.int (1 : Int32)), .val (.long (own_s p1)), .second, .val (.long (own_s p2)), .second, .unset, .unset, .unset, .unset, .unset, .unset, .unset, .unset, .unset] [(.int p3)])) _
      refine XS.i2s X0.here hx rfl (hb hby at_19) rfl ?_
      show Steps p.tables e below (s₁.setTop (mkF m 20 #[.val (.int p0), .val (.int p1), .val (.int p2), .val (.int p3), .val (.int p4), .val (.int (1 : Int32)), .val (.long (own_s p1)), .second, .val (.long (own_s p2)), .second, .unset, .unset, .unset, .unset, .unset, .unset, .unset, .unset, .unset] [(.int (p3.toInt16.toInt32))])) _
      refine XS.i2l X0.here hx rfl (hb hby at_20) rfl ?_
      show Steps p.tables e below (s₁.setTop (mkF m 21 #[.val (.int p0), .val (.int p1), .val (.int p2), .val (.int p3), .val (.int p4), .val (.int (1 : Int32)), .val (.long (own_s p1)), .second, .val (.long (own_s p2)), .second, .unset, .unset, .unset, .unset, .unset, .unset, .unset, .unset, .unset] [(.long (own_s p3))])) _
      refine XS.lstore X0.here hx rfl (hb hby at_21) rfl (l' := #[.val (.int p0), .val (.int p1), .val (.int p2), .val (.int p3), .val (.int p4), .val (.int (1 : Int32)), .val (.long (own_s p1)), .second, .val (.long (own_s p2)), .second, .val (.long (own_s p3)), .second, .unset, .unset, .unset, .unset, .unset, .unset, .unset]) rfl ?_
      show Steps p.tables e below (s₁.setTop (mkF m 23 #[.val (.int p0), .val (.int p1), .val (.int p2), .val (.int p3), .val (.int p4), .val (.int (1 : Int32)), .val (.long (own_s p1)), .second, .val (.long (own_s p2)), .second, .val (.long (own_s p3)), .second, .unset, .unset, .unset, .unset, .unset, .unset, .unset] [])) _
      refine XS.iload X0.here hx rfl (hb hby at_23) rfl ?_
      show Steps p.tables e below (s₁.setTop (mkF m 25 #[.val (.int p0), .val (.int p1), .val (.int p2), .val (.int p3), .val (.int p4), .val (.int (1 : Int32)), .val (.long (own_s p1)), .second, .val (.long (own_s p2)), .second, .val (.long (own_s p3)), .second, .unset, .unset, .unset, .unset, .unset, .unset, .unset] [(.int p4)])) _
      refine XS.i2s X0.here hx rfl (hb hby at_25) rfl ?_
      show Steps p.tables e below (s₁.setTop (mkF m 26 #[.val (.int p0), .val (.int p1), .val (.int p2), .val (.int p3), .val (.int p4), .val (.int (1 : Int32)), .val (.long (own_s p1)), .second, .val (.long (own_s p2)), .second, .val (.long (own_s p3)), .second, .unset, .unset, .unset, .unset, .unset, .unset, .unset] [(.int (p4.toInt16.toInt32))])) _
      refine XS.i2l X0.here hx rfl (hb hby at_26) rfl ?_
      show Steps p.tables e below (s₁.setTop (mkF m 27 #[.val (.int p0), .val (.int p1), .val (.int p2), .val (.int p3), .val (.int p4), .val (.int (1 : Int32)), .val (.long (own_s p1)), .second, .val (.long (own_s p2)), .second, .val (.long (own_s p3)), .second, .unset, .unset, .unset, .unset, .unset, .unset, .unset] [(.long (own_s p4))])) _
      refine XS.lstore X0.here hx rfl (hb hby at_27) rfl (l' := #[.val (.int p0), .val (.int p1), .val (.int p2), .val (.int p3), .val (.int p4), .val (.int (1 : Int32)), .val (.long (own_s p1)), .second, .val (.long (own_s p2)), .second, .val (.long (own_s p3)), .second, .val (.long (own_s p4)), .second, .unset, .unset, .unset, .unset, .unset]) rfl ?_
      show Steps p.tables e below (s₁.setTop (mkF m 29 #[.val (.int p0), .val (.int p1), .val (.int p2), .val (.int p3), .val (.int p4), .val (.int (1 : Int32)), .val (.long (own_s p1)), .second, .val (.long (own_s p2)), .second, .val (.long (own_s p3)), .second, .val (.long (own_s p4)), .second, .unset, .unset, .unset, .unset, .unset] [])) _
      refine XS.iload X0.here hx rfl (hb hby at_29) rfl ?_
      show Steps p.tables e below (s₁.setTop (mkF m 31 #[.val (.int p0), .val (.int p1), .val (.int p2), .val (.int p3), .val (.int p4), .val (.int (1 : Int32)), .val (.long (own_s p1)), .second, .val (.long (own_s p2)), .second, .val (.long (own_s p3)), .second, .val (.long (own_s p4)), .second, .unset, .unset, .unset, .unset, .unset] [(.int (1 : Int32))])) _
      refine st6 _ ?_
      show Steps p.tables e below (T6.setTop (mkF m 33 #[.val (.int p0), .val (.int p1), .val (.int p2), .val (.int p3), .val (.int p4), .val (.int (1 : Int32)), .val (.long (own_s p1)), .second, .val (.long (own_s p2)), .second, .val (.long (own_s p3)), .second, .val (.long (own_s p4)), .second, .unset, .unset, .unset, .unset, .unset] [(.ref b6)])) _
      refine XS.astore X6.here hx rfl (hb hby at_33) rfl rfl (l' := #[.val (.int p0), .val (.int p1), .val (.int p2), .val (.int p3), .val (.int p4), .val (.int (1 : Int32)), .val (.long (own_s p1)), .second, .val (.long (own_s p2)), .second, .val (.long (own_s p3)), .second, .val (.long (own_s p4)), .second, .val (.ref b6), .unset, .unset, .unset, .unset]) rfl ?_
      show Steps p.tables e below (T6.setTop (mkF m 35 #[.val (.int p0), .val (.int p1), .val (.int p2), .val (.int p3), .val (.int p4), .val (.int (1 : Int32)), .val (.long (own_s p1)), .second, .val (.long (own_s p2)), .second, .val (.long (own_s p3)), .second, .val (.long (own_s p4)), .second, .val (.ref b6), .unset, .unset, .unset, .unset] [])) _
      refine XS.iload X6.here hx rfl (hb hby at_35) rfl ?_
      show Steps p.tables e below (T6.setTop (mkF m 37 #[.val (.int p0), .val (.int p1), .val (.int p2), .val (.int p3), .val (.int p4), .val (.int (1 : Int32)), .val (.long (own_s p1)), .second, .val (.long (own_s p2)), .second, .val (.long (own_s p3)), .second, .val (.long (own_s p4)), .second, .val (.ref b6), .unset, .unset, .unset, .unset] [(.int (1 : Int32))])) _
      refine st7 _ ?_
      show Steps p.tables e below (T7.setTop (mkF m 39 #[.val (.int p0), .val (.int p1), .val (.int p2), .val (.int p3), .val (.int p4), .val (.int (1 : Int32)), .val (.long (own_s p1)), .second, .val (.long (own_s p2)), .second, .val (.long (own_s p3)), .second, .val (.long (own_s p4)), .second, .val (.ref b6), .unset, .unset, .unset, .unset] [(.ref b7)])) _
      refine XS.astore X7.here hx rfl (hb hby at_39) rfl rfl (l' := #[.val (.int p0), .val (.int p1), .val (.int p2), .val (.int p3), .val (.int p4), .val (.int (1 : Int32)), .val (.long (own_s p1)), .second, .val (.long (own_s p2)), .second, .val (.long (own_s p3)), .second, .val (.long (own_s p4)), .second, .val (.ref b6), .val (.ref b7), .unset, .unset, .unset]) rfl ?_
      show Steps p.tables e below (T7.setTop (mkF m 41 #[.val (.int p0), .val (.int p1), .val (.int p2), .val (.int p3), .val (.int p4), .val (.int (1 : Int32)), .val (.long (own_s p1)), .second, .val (.long (own_s p2)), .second, .val (.long (own_s p3)), .second, .val (.long (own_s p4)), .second, .val (.ref b6), .val (.ref b7), .unset, .unset, .unset] [])) _
      refine XS.lconst X7.here hx rfl (hb hby at_41) ?_
      show Steps p.tables e below (T7.setTop (mkF m 42 #[.val (.int p0), .val (.int p1), .val (.int p2), .val (.int p3), .val (.int p4), .val (.int (1 : Int32)), .val (.long (own_s p1)), .second, .val (.long (own_s p2)), .second, .val (.long (own_s p3)), .second, .val (.long (own_s p4)), .second, .val (.ref b6), .val (.ref b7), .unset, .unset, .unset] [(.long (0 : Int64))])) _
      refine XS.lstore X7.here hx rfl (hb hby at_42) rfl (l' := #[.val (.int p0), .val (.int p1), .val (.int p2), .val (.int p3), .val (.int p4), .val (.int (1 : Int32)), .val (.long (own_s p1)), .second, .val (.long (own_s p2)), .second, .val (.long (own_s p3)), .second, .val (.long (own_s p4)), .second, .val (.ref b6), .val (.ref b7), .val (.long (0 : Int64)), .second, .unset]) rfl ?_
      show Steps p.tables e below (T7.setTop (mkF m 44 #[.val (.int p0), .val (.int p1), .val (.int p2), .val (.int p3), .val (.int p4), .val (.int (1 : Int32)), .val (.long (own_s p1)), .second, .val (.long (own_s p2)), .second, .val (.long (own_s p3)), .second, .val (.long (own_s p4)), .second, .val (.ref b6), .val (.ref b7), .val (.long (0 : Int64)), .second, .unset] [])) _
      refine XS.iload X7.here hx rfl (hb hby at_44) rfl ?_
      show Steps p.tables e below (T7.setTop (mkF m 46 #[.val (.int p0), .val (.int p1), .val (.int p2), .val (.int p3), .val (.int p4), .val (.int (1 : Int32)), .val (.long (own_s p1)), .second, .val (.long (own_s p2)), .second, .val (.long (own_s p3)), .second, .val (.long (own_s p4)), .second, .val (.ref b6), .val (.ref b7), .val (.long (0 : Int64)), .second, .unset] [(.int (1 : Int32))])) _
      refine XS.ifNo X7.here hx rfl (hb hby at_46) rfl (by decide) ?_
      show Steps p.tables e below (T7.setTop (mkF m 49 #[.val (.int p0), .val (.int p1), .val (.int p2), .val (.int p3), .val (.int p4), .val (.int (1 : Int32)), .val (.long (own_s p1)), .second, .val (.long (own_s p2)), .second, .val (.long (own_s p3)), .second, .val (.long (own_s p4)), .second, .val (.ref b6), .val (.ref b7), .val (.long (0 : Int64)), .second, .unset] [])) _
      refine XS.aload X7.here hx rfl (hb hby at_49) rfl rfl ?_
      show Steps p.tables e below (T7.setTop (mkF m 51 #[.val (.int p0), .val (.int p1), .val (.int p2), .val (.int p3), .val (.int p4), .val (.int (1 : Int32)), .val (.long (own_s p1)), .second, .val (.long (own_s p2)), .second, .val (.long (own_s p3)), .second, .val (.long (own_s p4)), .second, .val (.ref b6), .val (.ref b7), .val (.long (0 : Int64)), .second, .unset] [(.ref b6)])) _
      refine XS.iconst X7.here hx rfl (hb hby at_51) ?_
      show Steps p.tables e below (T7.setTop (mkF m 52 #[.val (.int p0), .val (.int p1), .val (.int p2), .val (.int p3), .val (.int p4), .val (.int (1 : Int32)), .val (.long (own_s p1)), .second, .val (.long (own_s p2)), .second, .val (.long (own_s p3)), .second, .val (.long (own_s p4)), .second, .val (.ref b6), .val (.ref b7), .val (.long (0 : Int64)), .second, .unset] [(.int (0 : Int32)), (.ref b6)])) _
      refine XS.lload X7.here hx rfl (hb hby at_52) rfl ?_
      show Steps p.tables e below (T7.setTop (mkF m 54 #[.val (.int p0), .val (.int p1), .val (.int p2), .val (.int p3), .val (.int p4), .val (.int (1 : Int32)), .val (.long (own_s p1)), .second, .val (.long (own_s p2)), .second, .val (.long (own_s p3)), .second, .val (.long (own_s p4)), .second, .val (.ref b6), .val (.ref b7), .val (.long (0 : Int64)), .second, .unset] [(.long (own_s p1)), (.int (0 : Int32)), (.ref b6)])) _
      refine XS.l2dS X7.here hx rfl (hb hby at_54) rfl rfl ?_
      show Steps p.tables e below (T7.setTop (mkF m 55 #[.val (.int p0), .val (.int p1), .val (.int p2), .val (.int p3), .val (.int p4), .val (.int (1 : Int32)), .val (.long (own_s p1)), .second, .val (.long (own_s p2)), .second, .val (.long (own_s p3)), .second, .val (.long (own_s p4)), .second, .val (.ref b6), .val (.ref b7), .val (.long (0 : Int64)), .second, .unset] [(.double (FP.l2d (own_s p1))), (.int (0 : Int32)), (.ref b6)])) _
      refine st9 _ ?_
      show Steps p.tables e below (T9.setTop (mkF m 56 #[.val (.int p0), .val (.int p1), .val (.int p2), .val (.int p3), .val (.int p4), .val (.int (1 : Int32)), .val (.long (own_s p1)), .second, .val (.long (own_s p2)), .second, .val (.long (own_s p3)), .second, .val (.long (own_s p4)), .second, .val (.ref b6), .val (.ref b7), .val (.long (0 : Int64)), .second, .unset] [])) _
      refine XS.aload X9.here hx rfl (hb hby at_56) rfl rfl ?_
      show Steps p.tables e below (T9.setTop (mkF m 58 #[.val (.int p0), .val (.int p1), .val (.int p2), .val (.int p3), .val (.int p4), .val (.int (1 : Int32)), .val (.long (own_s p1)), .second, .val (.long (own_s p2)), .second, .val (.long (own_s p3)), .second, .val (.long (own_s p4)), .second, .val (.ref b6), .val (.ref b7), .val (.long (0 : Int64)), .second, .unset] [(.ref b7)])) _
      refine XS.iconst X9.here hx rfl (hb hby at_58) ?_
      show Steps p.tables e below (T9.setTop (mkF m 59 #[.val (.int p0), .val (.int p1), .val (.int p2), .val (.int p3), .val (.int p4), .val (.int (1 : Int32)), .val (.long (own_s p1)), .second, .val (.long (own_s p2)), .second, .val (.long (own_s p3)), .second, .val (.long (own_s p4)), .second, .val (.ref b6), .val (.ref b7), .val (.long (0 : Int64)), .second, .unset] [(.int (0 : Int32)), (.ref b7)])) _
      refine XS.iconst X9.here hx rfl (hb hby at_59) ?_
      show Steps p.tables e below (T9.setTop (mkF m 60 #[.val (.int p0), .val (.int p1), .val (.int p2), .val (.int p3), .val (.int p4), .val (.int (1 : Int32)), .val (.long (own_s p1)), .second, .val (.long (own_s p2)), .second, .val (.long (own_s p3)), .second, .val (.long (own_s p4)), .second, .val (.ref b6), .val (.ref b7), .val (.long (0 : Int64)), .second, .unset] [(.int (0 : Int32)), (.int (0 : Int32)), (.ref b7)])) _
      refine st11 _ ?_
      show Steps p.tables e below (T11.setTop (mkF m 61 #[.val (.int p0), .val (.int p1), .val (.int p2), .val (.int p3), .val (.int p4), .val (.int (1 : Int32)), .val (.long (own_s p1)), .second, .val (.long (own_s p2)), .second, .val (.long (own_s p3)), .second, .val (.long (own_s p4)), .second, .val (.ref b6), .val (.ref b7), .val (.long (0 : Int64)), .second, .unset] [])) _
      refine XS.lload X11.here hx rfl (hb hby at_61) rfl ?_
      show Steps p.tables e below (T11.setTop (mkF m 63 #[.val (.int p0), .val (.int p1), .val (.int p2), .val (.int p3), .val (.int p4), .val (.int (1 : Int32)), .val (.long (own_s p1)), .second, .val (.long (own_s p2)), .second, .val (.long (own_s p3)), .second, .val (.long (own_s p4)), .second, .val (.ref b6), .val (.ref b7), .val (.long (0 : Int64)), .second, .unset] [(.long (0 : Int64))])) _
      refine XS.lload X11.here hx rfl (hb hby at_63) rfl ?_
      show Steps p.tables e below (T11.setTop (mkF m 65 #[.val (.int p0), .val (.int p1), .val (.int p2), .val (.int p3), .val (.int p4), .val (.int (1 : Int32)), .val (.long (own_s p1)), .second, .val (.long (own_s p2)), .second, .val (.long (own_s p3)), .second, .val (.long (own_s p4)), .second, .val (.ref b6), .val (.ref b7), .val (.long (0 : Int64)), .second, .unset] [(.long (own_s p1)), (.long (0 : Int64))])) _
      refine XS.lload X11.here hx rfl (hb hby at_65) rfl ?_
      show Steps p.tables e below (T11.setTop (mkF m 67 #[.val (.int p0), .val (.int p1), .val (.int p2), .val (.int p3), .val (.int p4), .val (.int (1 : Int32)), .val (.long (own_s p1)), .second, .val (.long (own_s p2)), .second, .val (.long (own_s p3)), .second, .val (.long (own_s p4)), .second, .val (.ref b6), .val (.ref b7), .val (.long (0 : Int64)), .second, .unset] [(.long (own_s p1)), (.long (own_s p1)), (.long (0 : Int64))])) _
      refine XS.lmul X11.here hx rfl (hb hby at_67) rfl ?_
      show Steps p.tables e below (T11.setTop (mkF m 68 #[.val (.int p0), .val (.int p1), .val (.int p2), .val (.int p3), .val (.int p4), .val (.int (1 : Int32)), .val (.long (own_s p1)), .second, .val (.long (own_s p2)), .second, .val (.long (own_s p3)), .second, .val (.long (own_s p4)), .second, .val (.ref b6), .val (.ref b7), .val (.long (0 : Int64)), .second, .unset] [(.long ((own_s p1) * (own_s p1))), (.long (0 : Int64))])) _
      refine XS.ladd X11.here hx rfl (hb hby at_68) rfl ?_
      show Steps p.tables e below (T11.setTop (mkF m 69 #[.val (.int p0), .val (.int p1), .val (.int p2), .val (.int p3), .val (.int p4), .val (.int (1 : Int32)), .val (.long (own_s p1)), .second, .val (.long (own_s p2)), .second, .val (.long (own_s p3)), .second, .val (.long (own_s p4)), .second, .val (.ref b6), .val (.ref b7), .val (.long (0 : Int64)), .second, .unset] [(.long ((0 : Int64) + ((own_s p1) * (own_s p1))))])) _
      refine XS.lstore X11.here hx rfl (hb hby at_69) rfl (l' := #[.val (.int p0), .val (.int p1), .val (.int p2), .val (.int p3), .val (.int p4), .val (.int (1 : Int32)), .val (.long (own_s p1)), .second, .val (.long (own_s p2)), .second, .val (.long (own_s p3)), .second, .val (.long (own_s p4)), .second, .val (.ref b6), .val (.ref b7), .val (.long ((0 : Int64) + ((own_s p1) * (own_s p1)))), .second, .unset]) rfl ?_
      show Steps p.tables e below (T11.setTop (mkF m 71 #[.val (.int p0), .val (.int p1), .val (.int p2), .val (.int p3), .val (.int p4), .val (.int (1 : Int32)), .val (.long (own_s p1)), .second, .val (.long (own_s p2)), .second, .val (.long (own_s p3)), .second, .val (.long (own_s p4)), .second, .val (.ref b6), .val (.ref b7), .val (.long ((0 : Int64) + ((own_s p1) * (own_s p1)))), .second, .unset] [])) _
      refine XS.iload X11.here hx rfl (hb hby at_71) rfl ?_
      show Steps p.tables e below (T11.setTop (mkF m 73 #[.val (.int p0), .val (.int p1), .val (.int p2), .val (.int p3), .val (.int p4), .val (.int (1 : Int32)), .val (.long (own_s p1)), .second, .val (.long (own_s p2)), .second, .val (.long (own_s p3)), .second, .val (.long (own_s p4)), .second, .val (.ref b6), .val (.ref b7), .val (.long ((0 : Int64) + ((own_s p1) * (own_s p1)))), .second, .unset] [(.int (1 : Int32))])) _
      refine XS.iconst X11.here hx rfl (hb hby at_73) ?_
      show Steps p.tables e below (T11.setTop (mkF m 74 #[.val (.int p0), .val (.int p1), .val (.int p2), .val (.int p3), .val (.int p4), .val (.int (1 : Int32)), .val (.long (own_s p1)), .second, .val (.long (own_s p2)), .second, .val (.long (own_s p3)), .second, .val (.long (own_s p4)), .second, .val (.ref b6), .val (.ref b7), .val (.long ((0 : Int64) + ((own_s p1) * (own_s p1)))), .second, .unset] [(.int (1 : Int32)), (.int (1 : Int32))])) _
      refine XS.icmpYes X11.here hx rfl (pc0 := 74) (pc' := 99) rfl (hb hby at_74) rfl (by decide) (by decide) (by decide) ?_
      show Steps p.tables e below (T11.setTop (mkF m 99 #[.val (.int p0), .val (.int p1), .val (.int p2), .val (.int p3), .val (.int p4), .val (.int (1 : Int32)), .val (.long (own_s p1)), .second, .val (.long (own_s p2)), .second, .val (.long (own_s p3)), .second, .val (.long (own_s p4)), .second, .val (.ref b6), .val (.ref b7), .val (.long ((0 : Int64) + ((own_s p1) * (own_s p1)))), .second, .unset] [])) _
      refine XS.iload X11.here hx rfl (hb hby at_99) rfl ?_
      show Steps p.tables e below (T11.setTop (mkF m 101 #[.val (.int p0), .val (.int p1), .val (.int p2), .val (.int p3), .val (.int p4), .val (.int (1 : Int32)), .val (.long (own_s p1)), .second, .val (.long (own_s p2)), .second, .val (.long (own_s p3)), .second, .val (.long (own_s p4)), .second, .val (.ref b6), .val (.ref b7), .val (.long ((0 : Int64) + ((own_s p1) * (own_s p1)))), .second, .unset] [(.int (1 : Int32))])) _
      refine XS.iconst X11.here hx rfl (hb hby at_101) ?_
      show Steps p.tables e below (T11.setTop (mkF m 102 #[.val (.int p0), .val (.int p1), .val (.int p2), .val (.int p3), .val (.int p4), .val (.int (1 : Int32)), .val (.long (own_s p1)), .second, .val (.long (own_s p2)), .second, .val (.long (own_s p3)), .second, .val (.long (own_s p4)), .second, .val (.ref b6), .val (.ref b7), .val (.long ((0 : Int64) + ((own_s p1) * (own_s p1)))), .second, .unset] [(.int (2 : Int32)), (.int (1 : Int32))])) _
      refine XS.icmpYes X11.here hx rfl (pc0 := 102) (pc' := 127) rfl (hb hby at_102) rfl (by decide) (by decide) (by decide) ?_
      show Steps p.tables e below (T11.setTop (mkF m 127 #[.val (.int p0), .val (.int p1), .val (.int p2), .val (.int p3), .val (.int p4), .val (.int (1 : Int32)), .val (.long (own_s p1)), .second, .val (.long (own_s p2)), .second, .val (.long (own_s p3)), .second, .val (.long (own_s p4)), .second, .val (.ref b6), .val (.ref b7), .val (.long ((0 : Int64) + ((own_s p1) * (own_s p1)))), .second, .unset] [])) _
      refine XS.iload X11.here hx rfl (hb hby at_127) rfl ?_
      show Steps p.tables e below (T11.setTop (mkF m 129 #[.val (.int p0), .val (.int p1), .val (.int p2), .val (.int p3), .val (.int p4), .val (.int (1 : Int32)), .val (.long (own_s p1)), .second, .val (.long (own_s p2)), .second, .val (.long (own_s p3)), .second, .val (.long (own_s p4)), .second, .val (.ref b6), .val (.ref b7), .val (.long ((0 : Int64) + ((own_s p1) * (own_s p1)))), .second, .unset] [(.int (1 : Int32))])) _
      refine XS.iconst X11.here hx rfl (hb hby at_129) ?_
      show Steps p.tables e below (T11.setTop (mkF m 130 #[.val (.int p0), .val (.int p1), .val (.int p2), .val (.int p3), .val (.int p4), .val (.int (1 : Int32)), .val (.long (own_s p1)), .second, .val (.long (own_s p2)), .second, .val (.long (own_s p3)), .second, .val (.long (own_s p4)), .second, .val (.ref b6), .val (.ref b7), .val (.long ((0 : Int64) + ((own_s p1) * (own_s p1)))), .second, .unset] [(.int (3 : Int32)), (.int (1 : Int32))])) _
      refine XS.icmpYes X11.here hx rfl (pc0 := 130) (pc' := 155) rfl (hb hby at_130) rfl (by decide) (by decide) (by decide) ?_
      show Steps p.tables e below (T11.setTop (mkF m 155 #[.val (.int p0), .val (.int p1), .val (.int p2), .val (.int p3), .val (.int p4), .val (.int (1 : Int32)), .val (.long (own_s p1)), .second, .val (.long (own_s p2)), .second, .val (.long (own_s p3)), .second, .val (.long (own_s p4)), .second, .val (.ref b6), .val (.ref b7), .val (.long ((0 : Int64) + ((own_s p1) * (own_s p1)))), .second, .unset] [])) _
      refine st12 _ ?_
      show Steps p.tables e below (T12.setTop (mkF m 158 #[.val (.int p0), .val (.int p1), .val (.int p2), .val (.int p3), .val (.int p4), .val (.int (1 : Int32)), .val (.long (own_s p1)), .second, .val (.long (own_s p2)), .second, .val (.long (own_s p3)), .second, .val (.long (own_s p4)), .second, .val (.ref b6), .val (.ref b7), .val (.long ((0 : Int64) + ((own_s p1) * (own_s p1)))), .second, .unset] [(.ref b12)])) _
      refine XS.dup X12.here hx rfl (hb hby at_158) rfl rfl ?_
      show Steps p.tables e below (T12.setTop (mkF m 159 #[.val (.int p0), .val (.int p1), .val (.int p2), .val (.int p3), .val (.int p4), .val (.int (1 : Int32)), .val (.long (own_s p1)), .second, .val (.long (own_s p2)), .second, .val (.long (own_s p3)), .second, .val (.long (own_s p4)), .second, .val (.ref b6), .val (.ref b7), .val (.long ((0 : Int64) + ((own_s p1) * (own_s p1)))), .second, .unset] [(.ref b12), (.ref b12)])) _
      refine XS.aload X12.here hx rfl (hb hby at_159) rfl rfl ?_
      show Steps p.tables e below (T12.setTop (mkF m 161 #[.val (.int p0), .val (.int p1), .val (.int p2), .val (.int p3), .val (.int p4), .val (.int (1 : Int32)), .val (.long (own_s p1)), .second, .val (.long (own_s p2)), .second, .val (.long (own_s p3)), .second, .val (.long (own_s p4)), .second, .val (.ref b6), .val (.ref b7), .val (.long ((0 : Int64) + ((own_s p1) * (own_s p1)))), .second, .unset] [(.ref b7), (.ref b12), (.ref b12)])) _
      refine XS.aload X12.here hx rfl (hb hby at_161) rfl rfl ?_
      show Steps p.tables e below (T12.setTop (mkF m 163 #[.val (.int p0), .val (.int p1), .val (.int p2), .val (.int p3), .val (.int p4), .val (.int (1 : Int32)), .val (.long (own_s p1)), .second, .val (.long (own_s p2)), .second, .val (.long (own_s p3)), .second, .val (.long (own_s p4)), .second, .val (.ref b6), .val (.ref b7), .val (.long ((0 : Int64) + ((own_s p1) * (own_s p1)))), .second, .unset] [(.ref b6), (.ref b7), (.ref b12), (.ref b12)])) _
      refine st13.trans ?_
      show Steps p.tables e below (T13.setTop (mkF m 166 #[.val (.int p0), .val (.int p1), .val (.int p2), .val (.int p3), .val (.int p4), .val (.int (1 : Int32)), .val (.long (own_s p1)), .second, .val (.long (own_s p2)), .second, .val (.long (own_s p3)), .second, .val (.long (own_s p4)), .second, .val (.ref b6), .val (.ref b7), .val (.long ((0 : Int64) + ((own_s p1) * (own_s p1)))), .second, .unset] [(.ref b12)])) _
      refine XS.astore X13.here hx rfl (hb hby at_166) rfl rfl (l' := #[.val (.int p0), .val (.int p1), .val (.int p2), .val (.int p3), .val (.int p4), .val (.int (1 : Int32)), .val (.long (own_s p1)), .second, .val (.long (own_s p2)), .second, .val (.long (own_s p3)), .second, .val (.long (own_s p4)), .second, .val (.ref b6), .val (.ref b7), .val (.long ((0 : Int64) + ((own_s p1) * (own_s p1)))), .second, .val (.ref b12)]) rfl ?_
      show Steps p.tables e below (T13.setTop (mkF m 168 #[.val (.int p0), .val (.int p1), .val (.int p2), .val (.int p3), .val (.int p4), .val (.int (1 : Int32)), .val (.long (own_s p1)), .second, .val (.long (own_s p2)), .second, .val (.long (own_s p3)), .second, .val (.long (own_s p4)), .second, .val (.ref b6), .val (.ref b7), .val (.long ((0 : Int64) + ((own_s p1) * (own_s p1)))), .second, .val (.ref b12)] [])) _
      refine XS.aload X13.here hx rfl (hb hby at_168) rfl rfl ?_
      show Steps p.tables e below (T13.setTop (mkF m 170 #[.val (.int p0), .val (.int p1), .val (.int p2), .val (.int p3), .val (.int p4), .val (.int (1 : Int32)), .val (.long (own_s p1)), .second, .val (.long (own_s p2)), .second, .val (.long (own_s p3)), .second, .val (.long (own_s p4)), .second, .val (.ref b6), .val (.ref b7), .val (.long ((0 : Int64) + ((own_s p1) * (own_s p1)))), .second, .val (.ref b12)] [(.ref b12)])) _
      refine st14.trans ?_
      show Steps p.tables e below (T14.setTop (mkF m 173 #[.val (.int p0), .val (.int p1), .val (.int p2), .val (.int p3), .val (.int p4), .val (.int (1 : Int32)), .val (.long (own_s p1)), .second, .val (.long (own_s p2)), .second, .val (.long (own_s p3)), .second, .val (.long (own_s p4)), .second, .val (.ref b6), .val (.ref b7), .val (.long ((0 : Int64) + ((own_s p1) * (own_s p1)))), .second, .val (.ref b12)] [(.double (FP.l2d ((0 : Int64) + ((own_s p1) * (own_s p1)))))])) _
      refine XS.lload X14.here hx rfl (hb hby at_173) rfl ?_
      show Steps p.tables e below (T14.setTop (mkF m 175 #[.val (.int p0), .val (.int p1), .val (.int p2), .val (.int p3), .val (.int p4), .val (.int (1 : Int32)), .val (.long (own_s p1)), .second, .val (.long (own_s p2)), .second, .val (.long (own_s p3)), .second, .val (.long (own_s p4)), .second, .val (.ref b6), .val (.ref b7), .val (.long ((0 : Int64) + ((own_s p1) * (own_s p1)))), .second, .val (.ref b12)] [(.long ((0 : Int64) + ((own_s p1) * (own_s p1)))), (.double (FP.l2d ((0 : Int64) + ((own_s p1) * (own_s p1)))))])) _
      refine XS.l2dS X14.here hx rfl (hb hby at_175) rfl rfl ?_
      show Steps p.tables e below (T14.setTop (mkF m 176 #[.val (.int p0), .val (.int p1), .val (.int p2), .val (.int p3), .val (.int p4), .val (.int (1 : Int32)), .val (.long (own_s p1)), .second, .val (.long (own_s p2)), .second, .val (.long (own_s p3)), .second, .val (.long (own_s p4)), .second, .val (.ref b6), .val (.ref b7), .val (.long ((0 : Int64) + ((own_s p1) * (own_s p1)))), .second, .val (.ref b12)] [(.double (FP.l2d ((0 : Int64) + ((own_s p1) * (own_s p1))))), (.double (FP.l2d ((0 : Int64) + ((own_s p1) * (own_s p1)))))])) _
      refine XS.dcmpS X14.here hx rfl (hb hby at_176) rfl rfl ?_
      show Steps p.tables e below (T14.setTop (mkF m 177 #[.val (.int p0), .val (.int p1), .val (.int p2), .val (.int p3), .val (.int p4), .val (.int (1 : Int32)), .val (.long (own_s p1)), .second, .val (.long (own_s p2)), .second, .val (.long (own_s p3)), .second, .val (.long (own_s p4)), .second, .val (.ref b6), .val (.ref b7), .val (.long ((0 : Int64) + ((own_s p1) * (own_s p1)))), .second, .val (.ref b12)] [(.int (cmpValue (FP.dcmp (FP.l2d ((0 : Int64) + ((own_s p1) * (own_s p1)))) (FP.l2d ((0 : Int64) + ((own_s p1) * (own_s p1))))) .l))])) _
      refine XS.ifNo X14.here hx rfl (hb hby at_177) rfl (own_end _) ?_
      show Steps p.tables e below (T14.setTop (mkF m 180 #[.val (.int p0), .val (.int p1), .val (.int p2), .val (.int p3), .val (.int p4), .val (.int (1 : Int32)), .val (.long (own_s p1)), .second, .val (.long (own_s p2)), .second, .val (.long (own_s p3)), .second, .val (.long (own_s p4)), .second, .val (.ref b6), .val (.ref b7), .val (.long ((0 : Int64) + ((own_s p1) * (own_s p1)))), .second, .val (.ref b12)] [])) _
      refine XS.iconst X14.here hx rfl (hb hby at_180) ?_
      show Steps p.tables e below (T14.setTop (mkF m 181 #[.val (.int p0), .val (.int p1), .val (.int p2), .val (.int p3), .val (.int p4), .val (.int (1 : Int32)), .val (.long (own_s p1)), .second, .val (.long (own_s p2)), .second, .val (.long (own_s p3)), .second, .val (.long (own_s p4)), .second, .val (.ref b6), .val (.ref b7), .val (.long ((0 : Int64) + ((own_s p1) * (own_s p1)))), .second, .val (.ref b12)] [(.int (1 : Int32))])) _
      refine XS.goto X14.here hx rfl (pc0 := 181) (pc' := 185) rfl (hb hby at_181) (by decide) (by decide) ?_
      show Steps p.tables e below (T14.setTop (mkF m 185 #[.val (.int p0), .val (.int p1), .val (.int p2), .val (.int p3), .val (.int p4), .val (.int (1 : Int32)), .val (.long (own_s p1)), .second, .val (.long (own_s p2)), .second, .val (.long (own_s p3)), .second, .val (.long (own_s p4)), .second, .val (.ref b6), .val (.ref b7), .val (.long ((0 : Int64) + ((own_s p1) * (own_s p1)))), .second, .val (.ref b12)] [(.int (1 : Int32))])) _
      exact retN X14 hx (t := .boolean) Bd.returns (by simp) (hb hby at_185) hr
    · show Q0 Z p0 p1 p2 p3 p4 h0 n0 _ T14.heap _
      rw [eh14]
      exact ⟨rfl, N14⟩
  · obtain ⟨T15, h15, k15, X15, e15, E15, A15, Ax15, st15⟩ := newPE X0 hx hZ (hw _ (List.mem_of_getElem? (i := 0) rfl)) e0 (g := (mkF m 31 #[.val (.int p0), .val (.int p1), .val (.int p2), .val (.int p3), .val (.int p4), .val (.int (2 : Int32)), .val (.long (own_s p1)), .second, .val (.long (own_s p2)), .second, .val (.long (own_s p3)), .second, .val (.long (own_s p4)), .second, .unset, .unset, .unset, .unset, .unset] [(.int (2 : Int32))])) rfl (hb hby at_31) rfl (by decide) (cap := 2) (by decide) (by decide) (by decide) (by decide) (ad := "[D") (by decide)
    obtain ⟨b15, g15⟩ : ∃ z, z = h0.size := ⟨_, rfl⟩
    rw [← g15] at A15 Ax15 st15
    have V15 : Arv Z h15 b15 k15 .double (2 : Int32) [(.double (0 : UInt64)), (.double (0 : UInt64))] (.double (0 : UInt64)) := (Arv.new A15 (by decide)).pad (pad_rep [] (.double (0 : UInt64)) 2)
    obtain ⟨T16, h16, k16, X16, e16, E16, A16, Ax16, st16⟩ := newPE X15 hx hZ (hw _ (List.mem_of_getElem? (i := 1) rfl)) e15 (g := (mkF m 37 #[.val (.int p0), .val (.int p1), .val (.int p2), .val (.int p3), .val (.int p4), .val (.int (2 : Int32)), .val (.long (own_s p1)), .second, .val (.long (own_s p2)), .second, .val (.long (own_s p3)), .second, .val (.long (own_s p4)), .second, .val (.ref b15), .unset, .unset, .unset, .unset] [(.int (2 : Int32))])) rfl (hb hby at_37) rfl (by decide) (cap := 2) (by decide) (by decide) (by decide) (by decide) (ad := "[I") (by decide)
    obtain ⟨b16, g16⟩ : ∃ z, z = h15.size := ⟨_, rfl⟩
    rw [← g16] at A16 Ax16 st16
    have V16 : Arv Z h16 b16 k16 .int (2 : Int32) [(.int (0 : Int32)), (.int (0 : Int32))] (.int (0 : Int32)) := (Arv.new A16 (by decide)).pad (pad_rep [] (.int (0 : Int32)) 2)
    obtain ⟨cl17, Ar17, q17, S17, P17, Ha17, G17⟩ := (V15.ext E16)
    have hin17 : ¬ ((0 : Int32) < 0 ∨ cl17.slots.size ≤ ((0 : Int32)).toNatClampNeg) := inb_of S17 ⟨by decide, by decide⟩
    obtain ⟨T18, h18, X18, e18, W18, st18⟩ := stD X16 hx hZ e16 Ar17 (j := (0 : Int32)) hin17 (g := (mkF m 55 #[.val (.int p0), .val (.int p1), .val (.int p2), .val (.int p3), .val (.int p4), .val (.int (2 : Int32)), .val (.long (own_s p1)), .second, .val (.long (own_s p2)), .second, .val (.long (own_s p3)), .second, .val (.long (own_s p4)), .second, .val (.ref b15), .val (.ref b16), .val (.long (0 : Int64)), .second, .unset] [(.double (FP.l2d (own_s p1))), (.int (0 : Int32)), (.ref b15)])) rfl rfl (hb hby at_55)
    have V18 : Arv Z h18 b15 k15 .double (2 : Int32) [(.double (FP.l2d (own_s p1))), (.double (0 : UInt64))] (.double (0 : UInt64)) := Arv.set Ar17 q17 S17 P17 Ha17 G17 rfl W18 0 rfl (Nat.le_of_ble_eq_true rfl)
    have N18 := Fr.snoc X18 N0 (Nat.le_trans Z0 (Nat.le_trans (Nat.le_refl _) (Nat.le_of_eq g15.symm)))
    obtain ⟨cl19, Ar19, q19, S19, P19, Ha19, G19⟩ := (V16.other W18 (Ne.symm (Nat.ne_of_lt (Nat.lt_of_lt_of_le Ax15.lt (Nat.le_of_eq g16.symm)))))
    have hin19 : ¬ ((0 : Int32) < 0 ∨ cl19.slots.size ≤ ((0 : Int32)).toNatClampNeg) := inb_of S19 ⟨by decide, by decide⟩
    obtain ⟨T20, h20, X20, e20, W20, st20⟩ := stI X18 hx hZ e18 Ar19 (j := (0 : Int32)) hin19 (g := (mkF m 60 #[.val (.int p0), .val (.int p1), .val (.int p2), .val (.int p3), .val (.int p4), .val (.int (2 : Int32)), .val (.long (own_s p1)), .second, .val (.long (own_s p2)), .second, .val (.long (own_s p3)), .second, .val (.long (own_s p4)), .second, .val (.ref b15), .val (.ref b16), .val (.long (0 : Int64)), .second, .unset] [(.int (0 : Int32)), (.int (0 : Int32)), (.ref b16)])) rfl rfl (hb hby at_60)
    have V20 : Arv Z h20 b16 k16 .int (2 : Int32) [(.int (0 : Int32)), (.int (0 : Int32))] (.int (0 : Int32)) := Arv.set Ar19 q19 S19 P19 Ha19 G19 rfl W20 0 rfl (Nat.le_of_ble_eq_true rfl)
    have N20 := Fr.snoc X20 N18 (Nat.le_trans Z0 (Nat.le_trans (Nat.le_trans (Nat.le_refl _) E15.1) (Nat.le_of_eq g16.symm)))
    obtain ⟨cl21, Ar21, q21, S21, P21, Ha21, G21⟩ := (V18.other W20 (Nat.ne_of_lt (Nat.lt_of_lt_of_le Ax15.lt (Nat.le_of_eq g16.symm))))
    have hin21 : ¬ ((1 : Int32) < 0 ∨ cl21.slots.size ≤ ((1 : Int32)).toNatClampNeg) := inb_of S21 ⟨by decide, by decide⟩
    obtain ⟨T22, h22, X22, e22, W22, st22⟩ := stD X20 hx hZ e20 Ar21 (j := (1 : Int32)) hin21 (g := (mkF m 83 #[.val (.int p0), .val (.int p1), .val (.int p2), .val (.int p3), .val (.int p4), .val (.int (2 : Int32)), .val (.long (own_s p1)), .second, .val (.long (own_s p2)), .second, .val (.long (own_s p3)), .second, .val (.long (own_s p4)), .second, .val (.ref b15), .val (.ref b16), .val (.long ((0 : Int64) + ((own_s p1) * (own_s p1)))), .second, .unset] [(.double (FP.l2d (own_s p2))), (.int (1 : Int32)), (.ref b15)])) rfl rfl (hb hby at_83)
    have V22 : Arv Z h22 b15 k15 .double (2 : Int32) [(.double (FP.l2d (own_s p1))), (.double (FP.l2d (own_s p2)))] (.double (0 : UInt64)) := Arv.set Ar21 q21 S21 P21 Ha21 G21 rfl W22 1 rfl (Nat.le_of_ble_eq_true rfl)
    have N22 := Fr.snoc X22 N20 (Nat.le_trans Z0 (Nat.le_trans (Nat.le_refl _) (Nat.le_of_eq g15.symm)))
    obtain ⟨cl23, Ar23, q23, S23, P23, Ha23, G23⟩ := (V20.other W22 (Ne.symm (Nat.ne_of_lt (Nat.lt_of_lt_of_le Ax15.lt (Nat.le_of_eq g16.symm)))))
    have hin23 : ¬ ((1 : Int32) < 0 ∨ cl23.slots.size ≤ ((1 : Int32)).toNatClampNeg) := inb_of S23 ⟨by decide, by decide⟩
    obtain ⟨T24, h24, X24, e24, W24, st24⟩ := stI X22 hx hZ e22 Ar23 (j := (1 : Int32)) hin23 (g := (mkF m 88 #[.val (.int p0), .val (.int p1), .val (.int p2), .val (.int p3), .val (.int p4), .val (.int (2 : Int32)), .val (.long (own_s p1)), .second, .val (.long (own_s p2)), .second, .val (.long (own_s p3)), .second, .val (.long (own_s p4)), .second, .val (.ref b15), .val (.ref b16), .val (.long ((0 : Int64) + ((own_s p1) * (own_s p1)))), .second, .unset] [(.int (1 : Int32)), (.int (1 : Int32)), (.ref b16)])) rfl rfl (hb hby at_88)
    have V24 : Arv Z h24 b16 k16 .int (2 : Int32) [(.int (0 : Int32)), (.int (1 : Int32))] (.int (0 : Int32)) := Arv.set Ar23 q23 S23 P23 Ha23 G23 rfl W24 1 rfl (Nat.le_of_ble_eq_true rfl)
    have N24 := Fr.snoc X24 N22 (Nat.le_trans Z0 (Nat.le_trans (Nat.le_trans (Nat.le_refl _) E15.1) (Nat.le_of_eq g16.symm)))
    obtain ⟨T25, h25, X25, e25, E25, A25, D25, -, st25⟩ := newO X24 hx hZ hown (hw _ (List.mem_of_getElem? (i := 2) rfl)) (hw _ (List.mem_of_getElem? (i := 3) rfl)) (hw _ (List.mem_of_getElem? (i := 4) rfl)) e24 (g := (mkF m 155 #[.val (.int p0), .val (.int p1), .val (.int p2), .val (.int p3), .val (.int p4), .val (.int (2 : Int32)), .val (.long (own_s p1)), .second, .val (.long (own_s p2)), .second, .val (.long (own_s p3)), .second, .val (.long (own_s p4)), .second, .val (.ref b15), .val (.ref b16), .val (.long (((0 : Int64) + ((own_s p1) * (own_s p1))) + ((own_s p2) * (own_s p2)))), .second, .unset] [])) rfl (hb hby at_155) (by decide) (by decide)
    obtain ⟨b25, g25⟩ : ∃ z, z = h24.size := ⟨_, rfl⟩
    rw [← g25] at A25 D25 st25
    have F25_indices : Fld Z h25 b25 "com/example/topic_crawler/topiccrawler/topic/SparseVector" "indices" "[I" .null := D25 (Or.inr (hw _ (List.mem_of_getElem? (i := 12) rfl))) (ty := (.array .int)) (by decide)
    have F25_values : Fld Z h25 b25 "com/example/topic_crawler/topiccrawler/topic/SparseVector" "values" "[D" .null := D25 (Or.inr (hw _ (List.mem_of_getElem? (i := 14) rfl))) (ty := (.array .double)) (by decide)
    obtain ⟨_, _, ⟨T26, L26, k26, n26⟩, -, X26, ⟨Lc26, hQ26, l26, y26, z26⟩, st26⟩ := X25.specialBack hx (y := (⟨"com/example/topic_crawler/topiccrawler/topic/SparseVector", "<init>", "([I[D)V"⟩ : MethodName)) rfl hown (mvT hZ (hw _ (List.mem_of_getElem? (i := 5) rfl))) (mvT hZ (hw _ (List.mem_of_getElem? (i := 6) rfl))) (mvT hZ (hw _ (List.mem_of_getElem? (i := 7) rfl))) (by decide) (backOf (W := 1) (rmsv l Z a0 hw [] b25 b16 b15 h25 n0 (Nat.le_trans (Nat.le_trans (Nat.le_trans (Nat.le_trans (Nat.le_trans (Nat.le_trans (Nat.le_trans Z0 E15.1) E16.1) (Keep.of_wr W18).1) (Keep.of_wr W20).1) (Keep.of_wr W22).1) (Keep.of_wr W24).1) E25.1) F25_indices F25_values A25 (Nat.le_trans Z0 (Nat.le_trans (Nat.le_trans (Nat.le_trans (Nat.le_trans (Nat.le_trans (Nat.le_trans (Nat.le_trans (Nat.le_refl _) E15.1) E16.1) (Keep.of_wr W18).1) (Keep.of_wr W20).1) (Keep.of_wr W22).1) (Keep.of_wr W24).1) (Nat.le_of_eq g25.symm)))) hZ (hw _ (List.mem_of_getElem? (i := 7) rfl)) (hw _ (List.mem_of_getElem? (i := 4) rfl)) (by decide) (by decide)) (g := (mkF m 163 #[.val (.int p0), .val (.int p1), .val (.int p2), .val (.int p3), .val (.int p4), .val (.int (2 : Int32)), .val (.long (own_s p1)), .second, .val (.long (own_s p2)), .second, .val (.long (own_s p3)), .second, .val (.long (own_s p4)), .second, .val (.ref b15), .val (.ref b16), .val (.long (((0 : Int64) + ((own_s p1) * (own_s p1))) + ((own_s p2) * (own_s p2)))), .second, .unset] [(.ref b15), (.ref b16), (.ref b25), (.ref b25)])) rfl (by rw [hml]; rfl) (Steps.refl _) (a := b25) (argsL := [(.ref b16), (.ref b15)]) (rest := [(.ref b25)]) (lenOf pd_0 rfl) rfl (by show 2 * 0 + _ ≤ _; exact Nat.le_of_eq rfl) (hb hby at_163) (fun _ _ => ⟨rfl, e25, (by decide : 3 + 0 ≤ _), (by decide : 6 + 0 ≤ _)⟩)
    dsimp only [Pt.U, Pt.locs, Pt.cells, Pt.slots] at X26 l26 y26 z26 st26 hQ26
    subst l26 y26 z26
    obtain ⟨rfl, N26q, K26, Ea26, Fv26⟩ := hQ26
    have N26 := Fr.app N24 N26q
    obtain ⟨cq27, kq27, q27a, q27b, q27c⟩ := isOf hZ rfl Ea26
    obtain ⟨_, _, ⟨T27, L27, k27, n27⟩, -, X27, ⟨Lc27, hQ27, l27, y27, z27⟩, st27⟩ := X26.virtualBack hx (y := (⟨"com/example/topic_crawler/topiccrawler/topic/SparseVector", "squaredLength", "()D"⟩ : MethodName)) (z := (⟨"com/example/topic_crawler/topiccrawler/topic/SparseVector", "squaredLength", "()D"⟩ : MethodName)) hown (mvT hZ (hw _ (List.mem_of_getElem? (i := 15) rfl))) (mvT hZ (hw _ (List.mem_of_getElem? (i := 16) rfl))) (notFace_of_selects (args := #[]) (mvT hZ (hw _ (List.mem_of_getElem? (i := 18) rfl)))) (mvT hZ (hw _ (List.mem_of_getElem? (i := 18) rfl))) (mvT hZ (hw _ (List.mem_of_getElem? (i := 17) rfl))) (by decide) (backOf (W := 0) (rmsq2 l Z a0 hw [] b25 b15 k15 (own_s p1) (own_s p2) T26.heap n0 (Nat.le_trans (Nat.le_trans (Nat.le_trans (Nat.le_trans (Nat.le_trans (Nat.le_trans (Nat.le_trans (Nat.le_trans Z0 E15.1) E16.1) (Keep.of_wr W18).1) (Keep.of_wr W20).1) (Keep.of_wr W22).1) (Keep.of_wr W24).1) E25.1) K26.1) Fv26 (((V22.other W24 (Nat.ne_of_lt (Nat.lt_of_lt_of_le Ax15.lt (Nat.le_of_eq g16.symm)))).ext E25).keep K26 (ninS (Nat.ne_of_lt (Nat.lt_of_lt_of_le (V22.other W24 (Nat.ne_of_lt (Nat.lt_of_lt_of_le Ax15.lt (Nat.le_of_eq g16.symm)))).lt (Nat.le_of_eq g25.symm))) nin0)) (own_mul p1) (own_add0 p1) (own_mul p2) (own_add (own_Ss own_S0 (by decide) (by decide) p1) (by decide) p2)) hZ (hw _ (List.mem_of_getElem? (i := 19) rfl)) (hw _ (List.mem_of_getElem? (i := 4) rfl)) (by decide) (by decide)) q27a q27c (g := (mkF m 170 #[.val (.int p0), .val (.int p1), .val (.int p2), .val (.int p3), .val (.int p4), .val (.int (2 : Int32)), .val (.long (own_s p1)), .second, .val (.long (own_s p2)), .second, .val (.long (own_s p3)), .second, .val (.long (own_s p4)), .second, .val (.ref b15), .val (.ref b16), .val (.long (((0 : Int64) + ((own_s p1) * (own_s p1))) + ((own_s p2) * (own_s p2)))), .second, .val (.ref b25)] [(.ref b25)])) rfl (by rw [hml]; rfl) (Steps.refl _) (argsL := []) (rest := []) (lenOf pd_1 rfl) rfl (by show 2 * 0 + _ ≤ _; exact Nat.le_of_eq rfl) (hb hby at_170) (fun _ _ => ⟨rfl, rfl, (by decide : 3 + 0 ≤ _), (by decide : 6 + 0 ≤ _)⟩)
    dsimp only [Pt.U, Pt.locs, Pt.cells, Pt.slots] at X27 l27 y27 z27 st27 hQ27
    subst l27 y27 z27
    obtain ⟨rfl, N27q, eh27⟩ := hQ27
    have N27 := Fr.app N26 N27q
    obtain ⟨fs, hr, hrun, hended, hW, hsame⟩ := X27.leave (v := some (.int (nar .boolean (1 : Int32)))) (fun h => by rw [Bd.returns] at h; cases h)
    refine ⟨_, _, pre0 _ ?_, hrun, hended, _, _, rfl, ?_, ⟨_, rfl⟩, hW, hsame.mono (by decide) (by decide)⟩
    · show Steps p.tables e below (s₁.setTop (mkF m 0 #[.val (.int p0), .val (.int p1), .val (.int p2), .val (.int p3), .val (.int p4), .unset, .unset, .unset, .unset, .unset, .unset, .unset, .unset, .unset, .unset, .unset, .unset, .unset, .unset] [])) _
      refine XS.iloadN X0.here hx rfl (hb hby at_0) rfl ?_
      show Steps p.tables e below (s₁.setTop (mkF m 1 #[.val (.int p0), .val (.int p1), .val (.int p2), .val (.int p3), .val (.int p4), .unset, .unset, .unset, .unset, .unset, .unset, .unset, .unset, .unset, .unset, .unset, .unset, .unset, .unset] [(.int p0)])) _
      refine XS.bipush X0.here hx rfl (hb hby at_1) ?_
      show Steps p.tables e below (s₁.setTop (mkF m 3 #[.val (.int p0), .val (.int p1), .val (.int p2), .val (.int p3), .val (.int p4), .unset, .unset, .unset, .unset, .unset, .unset, .unset, .unset, .unset, .unset, .unset, .unset, .unset, .unset] [(.int (7 : Int32)), (.int p0)])) _
      refine XS.iand X0.here hx rfl (hb hby at_3) rfl ?_
      show Steps p.tables e below (s₁.setTop (mkF m 4 #[.val (.int p0), .val (.int p1), .val (.int p2), .val (.int p3), .val (.int p4), .unset, .unset, .unset, .unset, .unset, .unset, .unset, .unset, .unset, .unset, .unset, .unset, .unset, .unset] [(.int (p0 &&& (7 : Int32)))])) _
      refine XS.iconst X0.here hx rfl (hb hby at_4) ?_
      show Steps p.tables e below (s₁.setTop (mkF m 5 #[.val (.int p0), .val (.int p1), .val (.int p2), .val (.int p3), .val (.int p4), .unset, .unset, .unset, .unset, .unset, .unset, .unset, .unset, .unset, .unset, .unset, .unset, .unset, .unset] [(.int (5 : Int32)), (.int (p0 &&& (7 : Int32)))])) _
      refine iremM X0 hx rfl (hb hby at_5) rfl (by decide) ?_
      show Steps p.tables e below (s₁.setTop (mkF m 6 #[.val (.int p0), .val (.int p1), .val (.int p2), .val (.int p3), .val (.int p4), .unset, .unset, .unset, .unset, .unset, .unset, .unset, .unset, .unset, .unset, .unset, .unset, .unset, .unset] [(.int (own_n p0))])) _
      rw [hn]
      show Steps p.tables e below (s₁.setTop (mkF m 6 #[.val (.int p0), .val (.int p1), .val (.int p2), .val (.int p3), .val (.int p4), .unset, .unset, .unset, .unset, .unset, .unset, .unset, .unset, .unset, .unset, .unset, .unset, .unset, .unset] [(.int (2 : Int32))])) _
      refine XS.istore X0.here hx rfl (hb hby at_6) rfl (l' := #[.val (.int p0), .val (.int p1), .val (.int p2), .val (.int p3), .val (.int p4), .val (.int (2 : Int32)), .unset, .unset, .unset, .unset, .unset, .unset, .unset, .unset, .unset, .unset, .unset, .unset, .unset]) rfl ?_
      show Steps p.tables e below (s₁.setTop (mkF m 8 #[.val (.int p0), .val (.int p1), .val (.int p2), .val (.int p3), .val (.int p4), .val (.int (2 : Int32)), .unset, .unset, .unset, .unset, .unset, .unset, .unset, .unset, .unset, .unset, .unset, .unset, .unset] [])) _
      refine XS.iloadN X0.here hx rfl (hb hby at_8) rfl ?_
      show Steps p.tables e below (s₁.setTop (mkF m 9 #[.val (.int p0), .val (.int p1), .val (.int p2), .val (.int p3), .val (.int p4), .val (.int (2 : Int32)), .unset, .unset, .unset, .unset, .unset, .unset, .unset, .unset, .unset, .unset, .unset, .unset, .unset] [(.int p1)])) _
      refine XS.i2s X0.here hx rfl (hb hby at_9) rfl ?_
      show Steps p.tables e below (s₁.setTop (mkF m 10 #[.val (.int p0), .val (.int p1), .val (.int p2), .val (.int p3), .val (.int p4), .val (.int (2 : Int32)), .unset, .unset, .unset, .unset, .unset, .unset, .unset, .unset, .unset, .unset, .unset, .unset, .unset] [(.int (p1.toInt16.toInt32))])) _
      refine XS.i2l X0.here hx rfl (hb hby at_10) rfl ?_
      show Steps p.tables e below (s₁.setTop (mkF m 11 #[.val (.int p0), .val (.int p1), .val (.int p2), .val (.int p3), .val (.int p4), .val (.int (2 : Int32)), .unset, .unset, .unset, .unset, .unset, .unset, .unset, .unset, .unset, .unset, .unset, .unset, .unset] [(.long (own_s p1))])) _
      refine XS.lstore X0.here hx rfl (hb hby at_11) rfl (l' := #[.val (.int p0), .val (.int p1), .val (.int p2), .val (.int p3), .val (.int p4), .val (.int (2 : Int32)), .val (.long (own_s p1)), .second, .unset, .unset, .unset, .unset, .unset, .unset, .unset, .unset, .unset, .unset, .unset]) rfl ?_
      show Steps p.tables e below (s₁.setTop (mkF m 13 #[.val (.int p0), .val (.int p1), .val (.int p2), .val (.int p3), .val (.int p4), .val (.int (2 : Int32)), .val (.long (own_s p1)), .second, .unset, .unset, .unset, .unset, .unset, .unset, .unset, .unset, .unset, .unset, .unset] [])) _
      refine XS.iloadN X0.here hx rfl (hb hby at_13) rfl ?_
      show Steps p.tables e below (s₁.setTop (mkF m 14 #[.val (.int p0), .val (.int p1), .val (.int p2), .val (.int p3), .val (.int p4), .val (.int (2 : Int32)), .val (.long (own_s p1)), .second, .unset, .unset, .unset, .unset, .unset, .unset, .unset, .unset, .unset, .unset, .unset] [(.int p2)])) _
      refine XS.i2s X0.here hx rfl (hb hby at_14) rfl ?_
      show Steps p.tables e below (s₁.setTop (mkF m 15 #[.val (.int p0), .val (.int p1), .val (.int p2), .val (.int p3), .val (.int p4), .val (.int (2 : Int32)), .val (.long (own_s p1)), .second, .unset, .unset, .unset, .unset, .unset, .unset, .unset, .unset, .unset, .unset, .unset] [(.int (p2.toInt16.toInt32))])) _
      refine XS.i2l X0.here hx rfl (hb hby at_15) rfl ?_
      show Steps p.tables e below (s₁.setTop (mkF m 16 #[.val (.int p0), .val (.int p1), .val (.int p2), .val (.int p3), .val (.int p4), .val (.int (2 : Int32)), .val (.long (own_s p1)), .second, .unset, .unset, .unset, .unset, .unset, .unset, .unset, .unset, .unset, .unset, .unset] [(.long (own_s p2))])) _
      refine XS.lstore X0.here hx rfl (hb hby at_16) rfl (l' := #[.val (.int p0), .val (.int p1), .val (.int p2), .val (.int p3), .val (.int p4), .val (.int (2 : Int32)), .val (.long (own_s p1)), .second, .val (.long (own_s p2)), .second, .unset, .unset, .unset, .unset, .unset, .unset, .unset, .unset, .unset]) rfl ?_
      show Steps p.tables e below (s₁.setTop (mkF m 18 #[.val (.int p0), .val (.int p1), .val (.int p2), .val (.int p3), .val (.int p4), .val (.int (2 : Int32)), .val (.long (own_s p1)), .second, .val (.long (own_s p2)), .second, .unset, .unset, .unset, .unset, .unset, .unset, .unset, .unset, .unset] [])) _
      refine XS.iloadN X0.here hx rfl (hb hby at_18) rfl ?_
      show Steps p.tables e below (s₁.setTop (mkF m 19 #[.val (.int p0), .val (.int p1), .val (.int p2), .val (.int p3), .val (.int p4), .val (.int (2 : Int32)), .val (.long (own_s p1)), .second, .val (.long (own_s p2)), .second, .unset, .unset, .unset, .unset, .unset, .unset, .unset, .unset, .unset] [(.int p3)])) _
      refine XS.i2s X0.here hx rfl (hb hby at_19) rfl ?_
      show Steps p.tables e below (s₁.setTop (mkF m 20 #[.val (.int p0), .val (.int p1), .val (.int p2), .val (.int p3), .val (.int p4), .val (.int (2 : Int32)), .val (.long (own_s p1)), .second, .val (.long (own_s p2)), .second, .unset, .unset, .unset, .unset, .unset, .unset, .unset, .unset, .unset] [(.int (p3.toInt16.toInt32))])) _
      refine XS.i2l X0.here hx rfl (hb hby at_20) rfl ?_
      show Steps p.tables e below (s₁.setTop (mkF m 21 #[.val (.int p0), .val (.int p1), .val (.int p2), .val (.int p3), .val (.int p4), .val (.int (2 : Int32)), .val (.long (own_s p1)), .second, .val (.long (own_s p2)), .second, .unset, .unset, .unset, .unset, .unset, .unset, .unset, .unset, .unset] [(.long (own_s p3))])) _
      refine XS.lstore X0.here hx rfl (hb hby at_21) rfl (l' := #[.val (.int p0), .val (.int p1), .val (.int p2), .val (.int p3), .val (.int p4), .val (.int (2 : Int32)), .val (.long (own_s p1)), .second, .val (.long (own_s p2)), .second, .val (.long (own_s p3)), .second, .unset, .unset, .unset, .unset, .unset, .unset, .unset]) rfl ?_
      show Steps p.tables e below (s₁.setTop (mkF m 23 #[.val (.int p0), .val (.int p1), .val (.int p2), .val (.int p3), .val (.int p4), .val (.int (2 : Int32)), .val (.long (own_s p1)), .second, .val (.long (own_s p2)), .second, .val (.long (own_s p3)), .second, .unset, .unset, .unset, .unset, .unset, .unset, .unset] [])) _
      refine XS.iload X0.here hx rfl (hb hby at_23) rfl ?_
      show Steps p.tables e below (s₁.setTop (mkF m 25 #[.val (.int p0), .val (.int p1), .val (.int p2), .val (.int p3), .val (.int p4), .val (.int (2 : Int32)), .val (.long (own_s p1)), .second, .val (.long (own_s p2)), .second, .val (.long (own_s p3)), .second, .unset, .unset, .unset, .unset, .unset, .unset, .unset] [(.int p4)])) _
      refine XS.i2s X0.here hx rfl (hb hby at_25) rfl ?_
      show Steps p.tables e below (s₁.setTop (mkF m 26 #[.val (.int p0), .val (.int p1), .val (.int p2), .val (.int p3), .val (.int p4), .val (.int (2 : Int32)), .val (.long (own_s p1)), .second, .val (.long (own_s p2)), .second, .val (.long (own_s p3)), .second, .unset, .unset, .unset, .unset, .unset, .unset, .unset] [(.int (p4.toInt16.toInt32))])) _
      refine XS.i2l X0.here hx rfl (hb hby at_26) rfl ?_
      show Steps p.tables e below (s₁.setTop (mkF m 27 #[.val (.int p0), .val (.int p1), .val (.int p2), .val (.int p3), .val (.int p4), .val (.int (2 : Int32)), .val (.long (own_s p1)), .second, .val (.long (own_s p2)), .second, .val (.long (own_s p3)), .second, .unset, .unset, .unset, .unset, .unset, .unset, .unset] [(.long (own_s p4))])) _
      refine XS.lstore X0.here hx rfl (hb hby at_27) rfl (l' := #[.val (.int p0), .val (.int p1), .val (.int p2), .val (.int p3), .val (.int p4), .val (.int (2 : Int32)), .val (.long (own_s p1)), .second, .val (.long (own_s p2)), .second, .val (.long (own_s p3)), .second, .val (.long (own_s p4)), .second, .unset, .unset, .unset, .unset, .unset]) rfl ?_
      show Steps p.tables e below (s₁.setTop (mkF m 29 #[.val (.int p0), .val (.int p1), .val (.int p2), .val (.int p3), .val (.int p4), .val (.int (2 : Int32)), .val (.long (own_s p1)), .second, .val (.long (own_s p2)), .second, .val (.long (own_s p3)), .second, .val (.long (own_s p4)), .second, .unset, .unset, .unset, .unset, .unset] [])) _
      refine XS.iload X0.here hx rfl (hb hby at_29) rfl ?_
      show Steps p.tables e below (s₁.setTop (mkF m 31 #[.val (.int p0), .val (.int p1), .val (.int p2), .val (.int p3), .val (.int p4), .val (.int (2 : Int32)), .val (.long (own_s p1)), .second, .val (.long (own_s p2)), .second, .val (.long (own_s p3)), .second, .val (.long (own_s p4)), .second, .unset, .unset, .unset, .unset, .unset] [(.int (2 : Int32))])) _
      refine st15 _ ?_
      show Steps p.tables e below (T15.setTop (mkF m 33 #[.val (.int p0), .val (.int p1), .val (.int p2), .val (.int p3), .val (.int p4), .val (.int (2 : Int32)), .val (.long (own_s p1)), .second, .val (.long (own_s p2)), .second, .val (.long (own_s p3)), .second, .val (.long (own_s p4)), .second, .unset, .unset, .unset, .unset, .unset] [(.ref b15)])) _
      refine XS.astore X15.here hx rfl (hb hby at_33) rfl rfl (l' := #[.val (.int p0), .val (.int p1), .val (.int p2), .val (.int p3), .val (.int p4), .val (.int (2 : Int32)), .val (.long (own_s p1)), .second, .val (.long (own_s p2)), .second, .val (.long (own_s p3)), .second, .val (.long (own_s p4)), .second, .val (.ref b15), .unset, .unset, .unset, .unset]) rfl ?_
      show Steps p.tables e below (T15.setTop (mkF m 35 #[.val (.int p0), .val (.int p1), .val (.int p2), .val (.int p3), .val (.int p4), .val (.int (2 : Int32)), .val (.long (own_s p1)), .second, .val (.long (own_s p2)), .second, .val (.long (own_s p3)), .second, .val (.long (own_s p4)), .second, .val (.ref b15), .unset, .unset, .unset, .unset] [])) _
      refine XS.iload X15.here hx rfl (hb hby at_35) rfl ?_
      show Steps p.tables e below (T15.setTop (mkF m 37 #[.val (.int p0), .val (.int p1), .val (.int p2), .val (.int p3), .val (.int p4), .val (.int (2 : Int32)), .val (.long (own_s p1)), .second, .val (.long (own_s p2)), .second, .val (.long (own_s p3)), .second, .val (.long (own_s p4)), .second, .val (.ref b15), .unset, .unset, .unset, .unset] [(.int (2 : Int32))])) _
      refine st16 _ ?_
      show Steps p.tables e below (T16.setTop (mkF m 39 #[.val (.int p0), .val (.int p1), .val (.int p2), .val (.int p3), .val (.int p4), .val (.int (2 : Int32)), .val (.long (own_s p1)), .second, .val (.long (own_s p2)), .second, .val (.long (own_s p3)), .second, .val (.long (own_s p4)), .second, .val (.ref b15), .unset, .unset, .unset, .unset] [(.ref b16)])) _
      refine XS.astore X16.here hx rfl (hb hby at_39) rfl rfl (l' := #[.val (.int p0), .val (.int p1), .val (.int p2), .val (.int p3), .val (.int p4), .val (.int (2 : Int32)), .val (.long (own_s p1)), .second, .val (.long (own_s p2)), .second, .val (.long (own_s p3)), .second, .val (.long (own_s p4)), .second, .val (.ref b15), .val (.ref b16), .unset, .unset, .unset]) rfl ?_
      show Steps p.tables e below (T16.setTop (mkF m 41 #[.val (.int p0), .val (.int p1), .val (.int p2), .val (.int p3), .val (.int p4), .val (.int (2 : Int32)), .val (.long (own_s p1)), .second, .val (.long (own_s p2)), .second, .val (.long (own_s p3)), .second, .val (.long (own_s p4)), .second, .val (.ref b15), .val (.ref b16), .unset, .unset, .unset] [])) _
      refine XS.lconst X16.here hx rfl (hb hby at_41) ?_
      show Steps p.tables e below (T16.setTop (mkF m 42 #[.val (.int p0), .val (.int p1), .val (.int p2), .val (.int p3), .val (.int p4), .val (.int (2 : Int32)), .val (.long (own_s p1)), .second, .val (.long (own_s p2)), .second, .val (.long (own_s p3)), .second, .val (.long (own_s p4)), .second, .val (.ref b15), .val (.ref b16), .unset, .unset, .unset] [(.long (0 : Int64))])) _
      refine XS.lstore X16.here hx rfl (hb hby at_42) rfl (l' := #[.val (.int p0), .val (.int p1), .val (.int p2), .val (.int p3), .val (.int p4), .val (.int (2 : Int32)), .val (.long (own_s p1)), .second, .val (.long (own_s p2)), .second, .val (.long (own_s p3)), .second, .val (.long (own_s p4)), .second, .val (.ref b15), .val (.ref b16), .val (.long (0 : Int64)), .second, .unset]) rfl ?_
      show Steps p.tables e below (T16.setTop (mkF m 44 #[.val (.int p0), .val (.int p1), .val (.int p2), .val (.int p3), .val (.int p4), .val (.int (2 : Int32)), .val (.long (own_s p1)), .second, .val (.long (own_s p2)), .second, .val (.long (own_s p3)), .second, .val (.long (own_s p4)), .second, .val (.ref b15), .val (.ref b16), .val (.long (0 : Int64)), .second, .unset] [])) _
      refine XS.iload X16.here hx rfl (hb hby at_44) rfl ?_
      show Steps p.tables e below (T16.setTop (mkF m 46 #[.val (.int p0), .val (.int p1), .val (.int p2), .val (.int p3), .val (.int p4), .val (.int (2 : Int32)), .val (.long (own_s p1)), .second, .val (.long (own_s p2)), .second, .val (.long (own_s p3)), .second, .val (.long (own_s p4)), .second, .val (.ref b15), .val (.ref b16), .val (.long (0 : Int64)), .second, .unset] [(.int (2 : Int32))])) _
      refine XS.ifNo X16.here hx rfl (hb hby at_46) rfl (by decide) ?_
      show Steps p.tables e below (T16.setTop (mkF m 49 #[.val (.int p0), .val (.int p1), .val (.int p2), .val (.int p3), .val (.int p4), .val (.int (2 : Int32)), .val (.long (own_s p1)), .second, .val (.long (own_s p2)), .second, .val (.long (own_s p3)), .second, .val (.long (own_s p4)), .second, .val (.ref b15), .val (.ref b16), .val (.long (0 : Int64)), .second, .unset] [])) _
      refine XS.aload X16.here hx rfl (hb hby at_49) rfl rfl ?_
      show Steps p.tables e below (T16.setTop (mkF m 51 #[.val (.int p0), .val (.int p1), .val (.int p2), .val (.int p3), .val (.int p4), .val (.int (2 : Int32)), .val (.long (own_s p1)), .second, .val (.long (own_s p2)), .second, .val (.long (own_s p3)), .second, .val (.long (own_s p4)), .second, .val (.ref b15), .val (.ref b16), .val (.long (0 : Int64)), .second, .unset] [(.ref b15)])) _
      refine XS.iconst X16.here hx rfl (hb hby at_51) ?_
      show Steps p.tables e below (T16.setTop (mkF m 52 #[.val (.int p0), .val (.int p1), .val (.int p2), .val (.int p3), .val (.int p4), .val (.int (2 : Int32)), .val (.long (own_s p1)), .second, .val (.long (own_s p2)), .second, .val (.long (own_s p3)), .second, .val (.long (own_s p4)), .second, .val (.ref b15), .val (.ref b16), .val (.long (0 : Int64)), .second, .unset] [(.int (0 : Int32)), (.ref b15)])) _
      refine XS.lload X16.here hx rfl (hb hby at_52) rfl ?_
      show Steps p.tables e below (T16.setTop (mkF m 54 #[.val (.int p0), .val (.int p1), .val (.int p2), .val (.int p3), .val (.int p4), .val (.int (2 : Int32)), .val (.long (own_s p1)), .second, .val (.long (own_s p2)), .second, .val (.long (own_s p3)), .second, .val (.long (own_s p4)), .second, .val (.ref b15), .val (.ref b16), .val (.long (0 : Int64)), .second, .unset] [(.long (own_s p1)), (.int (0 : Int32)), (.ref b15)])) _
      refine XS.l2dS X16.here hx rfl (hb hby at_54) rfl rfl ?_
      show Steps p.tables e below (T16.setTop (mkF m 55 #[.val (.int p0), .val (.int p1), .val (.int p2), .val (.int p3), .val (.int p4), .val (.int (2 : Int32)), .val (.long (own_s p1)), .second, .val (.long (own_s p2)), .second, .val (.long (own_s p3)), .second, .val (.long (own_s p4)), .second, .val (.ref b15), .val (.ref b16), .val (.long (0 : Int64)), .second, .unset] [(.double (FP.l2d (own_s p1))), (.int (0 : Int32)), (.ref b15)])) _
      refine st18 _ ?_
      show Steps p.tables e below (T18.setTop (mkF m 56 #[.val (.int p0), .val (.int p1), .val (.int p2), .val (.int p3), .val (.int p4), .val (.int (2 : Int32)), .val (.long (own_s p1)), .second, .val (.long (own_s p2)), .second, .val (.long (own_s p3)), .second, .val (.long (own_s p4)), .second, .val (.ref b15), .val (.ref b16), .val (.long (0 : Int64)), .second, .unset] [])) _
      refine XS.aload X18.here hx rfl (hb hby at_56) rfl rfl ?_
      show Steps p.tables e below (T18.setTop (mkF m 58 #[.val (.int p0), .val (.int p1), .val (.int p2), .val (.int p3), .val (.int p4), .val (.int (2 : Int32)), .val (.long (own_s p1)), .second, .val (.long (own_s p2)), .second, .val (.long (own_s p3)), .second, .val (.long (own_s p4)), .second, .val (.ref b15), .val (.ref b16), .val (.long (0 : Int64)), .second, .unset] [(.ref b16)])) _
      refine XS.iconst X18.here hx rfl (hb hby at_58) ?_
      show Steps p.tables e below (T18.setTop (mkF m 59 #[.val (.int p0), .val (.int p1), .val (.int p2), .val (.int p3), .val (.int p4), .val (.int (2 : Int32)), .val (.long (own_s p1)), .second, .val (.long (own_s p2)), .second, .val (.long (own_s p3)), .second, .val (.long (own_s p4)), .second, .val (.ref b15), .val (.ref b16), .val (.long (0 : Int64)), .second, .unset] [(.int (0 : Int32)), (.ref b16)])) _
      refine XS.iconst X18.here hx rfl (hb hby at_59) ?_
      show Steps p.tables e below (T18.setTop (mkF m 60 #[.val (.int p0), .val (.int p1), .val (.int p2), .val (.int p3), .val (.int p4), .val (.int (2 : Int32)), .val (.long (own_s p1)), .second, .val (.long (own_s p2)), .second, .val (.long (own_s p3)), .second, .val (.long (own_s p4)), .second, .val (.ref b15), .val (.ref b16), .val (.long (0 : Int64)), .second, .unset] [(.int (0 : Int32)), (.int (0 : Int32)), (.ref b16)])) _
      refine st20 _ ?_
      show Steps p.tables e below (T20.setTop (mkF m 61 #[.val (.int p0), .val (.int p1), .val (.int p2), .val (.int p3), .val (.int p4), .val (.int (2 : Int32)), .val (.long (own_s p1)), .second, .val (.long (own_s p2)), .second, .val (.long (own_s p3)), .second, .val (.long (own_s p4)), .second, .val (.ref b15), .val (.ref b16), .val (.long (0 : Int64)), .second, .unset] [])) _
      refine XS.lload X20.here hx rfl (hb hby at_61) rfl ?_
      show Steps p.tables e below (T20.setTop (mkF m 63 #[.val (.int p0), .val (.int p1), .val (.int p2), .val (.int p3), .val (.int p4), .val (.int (2 : Int32)), .val (.long (own_s p1)), .second, .val (.long (own_s p2)), .second, .val (.long (own_s p3)), .second, .val (.long (own_s p4)), .second, .val (.ref b15), .val (.ref b16), .val (.long (0 : Int64)), .second, .unset] [(.long (0 : Int64))])) _
      refine XS.lload X20.here hx rfl (hb hby at_63) rfl ?_
      show Steps p.tables e below (T20.setTop (mkF m 65 #[.val (.int p0), .val (.int p1), .val (.int p2), .val (.int p3), .val (.int p4), .val (.int (2 : Int32)), .val (.long (own_s p1)), .second, .val (.long (own_s p2)), .second, .val (.long (own_s p3)), .second, .val (.long (own_s p4)), .second, .val (.ref b15), .val (.ref b16), .val (.long (0 : Int64)), .second, .unset] [(.long (own_s p1)), (.long (0 : Int64))])) _
      refine XS.lload X20.here hx rfl (hb hby at_65) rfl ?_
      show Steps p.tables e below (T20.setTop (mkF m 67 #[.val (.int p0), .val (.int p1), .val (.int p2), .val (.int p3), .val (.int p4), .val (.int (2 : Int32)), .val (.long (own_s p1)), .second, .val (.long (own_s p2)), .second, .val (.long (own_s p3)), .second, .val (.long (own_s p4)), .second, .val (.ref b15), .val (.ref b16), .val (.long (0 : Int64)), .second, .unset] [(.long (own_s p1)), (.long (own_s p1)), (.long (0 : Int64))])) _
      refine XS.lmul X20.here hx rfl (hb hby at_67) rfl ?_
      show Steps p.tables e below (T20.setTop (mkF m 68 #[.val (.int p0), .val (.int p1), .val (.int p2), .val (.int p3), .val (.int p4), .val (.int (2 : Int32)), .val (.long (own_s p1)), .second, .val (.long (own_s p2)), .second, .val (.long (own_s p3)), .second, .val (.long (own_s p4)), .second, .val (.ref b15), .val (.ref b16), .val (.long (0 : Int64)), .second, .unset] [(.long ((own_s p1) * (own_s p1))), (.long (0 : Int64))])) _
      refine XS.ladd X20.here hx rfl (hb hby at_68) rfl ?_
      show Steps p.tables e below (T20.setTop (mkF m 69 #[.val (.int p0), .val (.int p1), .val (.int p2), .val (.int p3), .val (.int p4), .val (.int (2 : Int32)), .val (.long (own_s p1)), .second, .val (.long (own_s p2)), .second, .val (.long (own_s p3)), .second, .val (.long (own_s p4)), .second, .val (.ref b15), .val (.ref b16), .val (.long (0 : Int64)), .second, .unset] [(.long ((0 : Int64) + ((own_s p1) * (own_s p1))))])) _
      refine XS.lstore X20.here hx rfl (hb hby at_69) rfl (l' := #[.val (.int p0), .val (.int p1), .val (.int p2), .val (.int p3), .val (.int p4), .val (.int (2 : Int32)), .val (.long (own_s p1)), .second, .val (.long (own_s p2)), .second, .val (.long (own_s p3)), .second, .val (.long (own_s p4)), .second, .val (.ref b15), .val (.ref b16), .val (.long ((0 : Int64) + ((own_s p1) * (own_s p1)))), .second, .unset]) rfl ?_
      show Steps p.tables e below (T20.setTop (mkF m 71 #[.val (.int p0), .val (.int p1), .val (.int p2), .val (.int p3), .val (.int p4), .val (.int (2 : Int32)), .val (.long (own_s p1)), .second, .val (.long (own_s p2)), .second, .val (.long (own_s p3)), .second, .val (.long (own_s p4)), .second, .val (.ref b15), .val (.ref b16), .val (.long ((0 : Int64) + ((own_s p1) * (own_s p1)))), .second, .unset] [])) _
      refine XS.iload X20.here hx rfl (hb hby at_71) rfl ?_
      show Steps p.tables e below (T20.setTop (mkF m 73 #[.val (.int p0), .val (.int p1), .val (.int p2), .val (.int p3), .val (.int p4), .val (.int (2 : Int32)), .val (.long (own_s p1)), .second, .val (.long (own_s p2)), .second, .val (.long (own_s p3)), .second, .val (.long (own_s p4)), .second, .val (.ref b15), .val (.ref b16), .val (.long ((0 : Int64) + ((own_s p1) * (own_s p1)))), .second, .unset] [(.int (2 : Int32))])) _
      refine XS.iconst X20.here hx rfl (hb hby at_73) ?_
      show Steps p.tables e below (T20.setTop (mkF m 74 #[.val (.int p0), .val (.int p1), .val (.int p2), .val (.int p3), .val (.int p4), .val (.int (2 : Int32)), .val (.long (own_s p1)), .second, .val (.long (own_s p2)), .second, .val (.long (own_s p3)), .second, .val (.long (own_s p4)), .second, .val (.ref b15), .val (.ref b16), .val (.long ((0 : Int64) + ((own_s p1) * (own_s p1)))), .second, .unset] [(.int (1 : Int32)), (.int (2 : Int32))])) _
      refine XS.icmpNo X20.here hx rfl (hb hby at_74) rfl (by decide) ?_
      show Steps p.tables e below (T20.setTop (mkF m 77 #[.val (.int p0), .val (.int p1), .val (.int p2), .val (.int p3), .val (.int p4), .val (.int (2 : Int32)), .val (.long (own_s p1)), .second, .val (.long (own_s p2)), .second, .val (.long (own_s p3)), .second, .val (.long (own_s p4)), .second, .val (.ref b15), .val (.ref b16), .val (.long ((0 : Int64) + ((own_s p1) * (own_s p1)))), .second, .unset] [])) _
      refine XS.aload X20.here hx rfl (hb hby at_77) rfl rfl ?_
      show Steps p.tables e below (T20.setTop (mkF m 79 #[.val (.int p0), .val (.int p1), .val (.int p2), .val (.int p3), .val (.int p4), .val (.int (2 : Int32)), .val (.long (own_s p1)), .second, .val (.long (own_s p2)), .second, .val (.long (own_s p3)), .second, .val (.long (own_s p4)), .second, .val (.ref b15), .val (.ref b16), .val (.long ((0 : Int64) + ((own_s p1) * (own_s p1)))), .second, .unset] [(.ref b15)])) _
      refine XS.iconst X20.here hx rfl (hb hby at_79) ?_
      show Steps p.tables e below (T20.setTop (mkF m 80 #[.val (.int p0), .val (.int p1), .val (.int p2), .val (.int p3), .val (.int p4), .val (.int (2 : Int32)), .val (.long (own_s p1)), .second, .val (.long (own_s p2)), .second, .val (.long (own_s p3)), .second, .val (.long (own_s p4)), .second, .val (.ref b15), .val (.ref b16), .val (.long ((0 : Int64) + ((own_s p1) * (own_s p1)))), .second, .unset] [(.int (1 : Int32)), (.ref b15)])) _
      refine XS.lload X20.here hx rfl (hb hby at_80) rfl ?_
      show Steps p.tables e below (T20.setTop (mkF m 82 #[.val (.int p0), .val (.int p1), .val (.int p2), .val (.int p3), .val (.int p4), .val (.int (2 : Int32)), .val (.long (own_s p1)), .second, .val (.long (own_s p2)), .second, .val (.long (own_s p3)), .second, .val (.long (own_s p4)), .second, .val (.ref b15), .val (.ref b16), .val (.long ((0 : Int64) + ((own_s p1) * (own_s p1)))), .second, .unset] [(.long (own_s p2)), (.int (1 : Int32)), (.ref b15)])) _
      refine XS.l2dS X20.here hx rfl (hb hby at_82) rfl rfl ?_
      show Steps p.tables e below (T20.setTop (mkF m 83 #[.val (.int p0), .val (.int p1), .val (.int p2), .val (.int p3), .val (.int p4), .val (.int (2 : Int32)), .val (.long (own_s p1)), .second, .val (.long (own_s p2)), .second, .val (.long (own_s p3)), .second, .val (.long (own_s p4)), .second, .val (.ref b15), .val (.ref b16), .val (.long ((0 : Int64) + ((own_s p1) * (own_s p1)))), .second, .unset] [(.double (FP.l2d (own_s p2))), (.int (1 : Int32)), (.ref b15)])) _
      refine st22 _ ?_
      show Steps p.tables e below (T22.setTop (mkF m 84 #[.val (.int p0), .val (.int p1), .val (.int p2), .val (.int p3), .val (.int p4), .val (.int (2 : Int32)), .val (.long (own_s p1)), .second, .val (.long (own_s p2)), .second, .val (.long (own_s p3)), .second, .val (.long (own_s p4)), .second, .val (.ref b15), .val (.ref b16), .val (.long ((0 : Int64) + ((own_s p1) * (own_s p1)))), .second, .unset] [])) _
      refine XS.aload X22.here hx rfl (hb hby at_84) rfl rfl ?_
      show Steps p.tables e below (T22.setTop (mkF m 86 #[.val (.int p0), .val (.int p1), .val (.int p2), .val (.int p3), .val (.int p4), .val (.int (2 : Int32)), .val (.long (own_s p1)), .second, .val (.long (own_s p2)), .second, .val (.long (own_s p3)), .second, .val (.long (own_s p4)), .second, .val (.ref b15), .val (.ref b16), .val (.long ((0 : Int64) + ((own_s p1) * (own_s p1)))), .second, .unset] [(.ref b16)])) _
      refine XS.iconst X22.here hx rfl (hb hby at_86) ?_
      show Steps p.tables e below (T22.setTop (mkF m 87 #[.val (.int p0), .val (.int p1), .val (.int p2), .val (.int p3), .val (.int p4), .val (.int (2 : Int32)), .val (.long (own_s p1)), .second, .val (.long (own_s p2)), .second, .val (.long (own_s p3)), .second, .val (.long (own_s p4)), .second, .val (.ref b15), .val (.ref b16), .val (.long ((0 : Int64) + ((own_s p1) * (own_s p1)))), .second, .unset] [(.int (1 : Int32)), (.ref b16)])) _
      refine XS.iconst X22.here hx rfl (hb hby at_87) ?_
      show Steps p.tables e below (T22.setTop (mkF m 88 #[.val (.int p0), .val (.int p1), .val (.int p2), .val (.int p3), .val (.int p4), .val (.int (2 : Int32)), .val (.long (own_s p1)), .second, .val (.long (own_s p2)), .second, .val (.long (own_s p3)), .second, .val (.long (own_s p4)), .second, .val (.ref b15), .val (.ref b16), .val (.long ((0 : Int64) + ((own_s p1) * (own_s p1)))), .second, .unset] [(.int (1 : Int32)), (.int (1 : Int32)), (.ref b16)])) _
      refine st24 _ ?_
      show Steps p.tables e below (T24.setTop (mkF m 89 #[.val (.int p0), .val (.int p1), .val (.int p2), .val (.int p3), .val (.int p4), .val (.int (2 : Int32)), .val (.long (own_s p1)), .second, .val (.long (own_s p2)), .second, .val (.long (own_s p3)), .second, .val (.long (own_s p4)), .second, .val (.ref b15), .val (.ref b16), .val (.long ((0 : Int64) + ((own_s p1) * (own_s p1)))), .second, .unset] [])) _
      refine XS.lload X24.here hx rfl (hb hby at_89) rfl ?_
      show Steps p.tables e below (T24.setTop (mkF m 91 #[.val (.int p0), .val (.int p1), .val (.int p2), .val (.int p3), .val (.int p4), .val (.int (2 : Int32)), .val (.long (own_s p1)), .second, .val (.long (own_s p2)), .second, .val (.long (own_s p3)), .second, .val (.long (own_s p4)), .second, .val (.ref b15), .val (.ref b16), .val (.long ((0 : Int64) + ((own_s p1) * (own_s p1)))), .second, .unset] [(.long ((0 : Int64) + ((own_s p1) * (own_s p1))))])) _
      refine XS.lload X24.here hx rfl (hb hby at_91) rfl ?_
      show Steps p.tables e below (T24.setTop (mkF m 93 #[.val (.int p0), .val (.int p1), .val (.int p2), .val (.int p3), .val (.int p4), .val (.int (2 : Int32)), .val (.long (own_s p1)), .second, .val (.long (own_s p2)), .second, .val (.long (own_s p3)), .second, .val (.long (own_s p4)), .second, .val (.ref b15), .val (.ref b16), .val (.long ((0 : Int64) + ((own_s p1) * (own_s p1)))), .second, .unset] [(.long (own_s p2)), (.long ((0 : Int64) + ((own_s p1) * (own_s p1))))])) _
      refine XS.lload X24.here hx rfl (hb hby at_93) rfl ?_
      show Steps p.tables e below (T24.setTop (mkF m 95 #[.val (.int p0), .val (.int p1), .val (.int p2), .val (.int p3), .val (.int p4), .val (.int (2 : Int32)), .val (.long (own_s p1)), .second, .val (.long (own_s p2)), .second, .val (.long (own_s p3)), .second, .val (.long (own_s p4)), .second, .val (.ref b15), .val (.ref b16), .val (.long ((0 : Int64) + ((own_s p1) * (own_s p1)))), .second, .unset] [(.long (own_s p2)), (.long (own_s p2)), (.long ((0 : Int64) + ((own_s p1) * (own_s p1))))])) _
      refine XS.lmul X24.here hx rfl (hb hby at_95) rfl ?_
      show Steps p.tables e below (T24.setTop (mkF m 96 #[.val (.int p0), .val (.int p1), .val (.int p2), .val (.int p3), .val (.int p4), .val (.int (2 : Int32)), .val (.long (own_s p1)), .second, .val (.long (own_s p2)), .second, .val (.long (own_s p3)), .second, .val (.long (own_s p4)), .second, .val (.ref b15), .val (.ref b16), .val (.long ((0 : Int64) + ((own_s p1) * (own_s p1)))), .second, .unset] [(.long ((own_s p2) * (own_s p2))), (.long ((0 : Int64) + ((own_s p1) * (own_s p1))))])) _
      refine XS.ladd X24.here hx rfl (hb hby at_96) rfl ?_
      show Steps p.tables e below (T24.setTop (mkF m 97 #[.val (.int p0), .val (.int p1), .val (.int p2), .val (.int p3), .val (.int p4), .val (.int (2 : Int32)), .val (.long (own_s p1)), .second, .val (.long (own_s p2)), .second, .val (.long (own_s p3)), .second, .val (.long (own_s p4)), .second, .val (.ref b15), .val (.ref b16), .val (.long ((0 : Int64) + ((own_s p1) * (own_s p1)))), .second, .unset] [(.long (((0 : Int64) + ((own_s p1) * (own_s p1))) + ((own_s p2) * (own_s p2))))])) _
      refine XS.lstore X24.here hx rfl (hb hby at_97) rfl (l' := #[.val (.int p0), .val (.int p1), .val (.int p2), .val (.int p3), .val (.int p4), .val (.int (2 : Int32)), .val (.long (own_s p1)), .second, .val (.long (own_s p2)), .second, .val (.long (own_s p3)), .second, .val (.long (own_s p4)), .second, .val (.ref b15), .val (.ref b16), .val (.long (((0 : Int64) + ((own_s p1) * (own_s p1))) + ((own_s p2) * (own_s p2)))), .second, .unset]) rfl ?_
      show Steps p.tables e below (T24.setTop (mkF m 99 #[.val (.int p0), .val (.int p1), .val (.int p2), .val (.int p3), .val (.int p4), .val (.int (2 : Int32)), .val (.long (own_s p1)), .second, .val (.long (own_s p2)), .second, .val (.long (own_s p3)), .second, .val (.long (own_s p4)), .second, .val (.ref b15), .val (.ref b16), .val (.long (((0 : Int64) + ((own_s p1) * (own_s p1))) + ((own_s p2) * (own_s p2)))), .second, .unset] [])) _
      refine XS.iload X24.here hx rfl (hb hby at_99) rfl ?_
      show Steps p.tables e below (T24.setTop (mkF m 101 #[.val (.int p0), .val (.int p1), .val (.int p2), .val (.int p3), .val (.int p4), .val (.int (2 : Int32)), .val (.long (own_s p1)), .second, .val (.long (own_s p2)), .second, .val (.long (own_s p3)), .second, .val (.long (own_s p4)), .second, .val (.ref b15), .val (.ref b16), .val (.long (((0 : Int64) + ((own_s p1) * (own_s p1))) + ((own_s p2) * (own_s p2)))), .second, .unset] [(.int (2 : Int32))])) _
      refine XS.iconst X24.here hx rfl (hb hby at_101) ?_
      show Steps p.tables e below (T24.setTop (mkF m 102 #[.val (.int p0), .val (.int p1), .val (.int p2), .val (.int p3), .val (.int p4), .val (.int (2 : Int32)), .val (.long (own_s p1)), .second, .val (.long (own_s p2)), .second, .val (.long (own_s p3)), .second, .val (.long (own_s p4)), .second, .val (.ref b15), .val (.ref b16), .val (.long (((0 : Int64) + ((own_s p1) * (own_s p1))) + ((own_s p2) * (own_s p2)))), .second, .unset] [(.int (2 : Int32)), (.int (2 : Int32))])) _
      refine XS.icmpYes X24.here hx rfl (pc0 := 102) (pc' := 127) rfl (hb hby at_102) rfl (by decide) (by decide) (by decide) ?_
      show Steps p.tables e below (T24.setTop (mkF m 127 #[.val (.int p0), .val (.int p1), .val (.int p2), .val (.int p3), .val (.int p4), .val (.int (2 : Int32)), .val (.long (own_s p1)), .second, .val (.long (own_s p2)), .second, .val (.long (own_s p3)), .second, .val (.long (own_s p4)), .second, .val (.ref b15), .val (.ref b16), .val (.long (((0 : Int64) + ((own_s p1) * (own_s p1))) + ((own_s p2) * (own_s p2)))), .second, .unset] [])) _
      refine XS.iload X24.here hx rfl (hb hby at_127) rfl ?_
      show Steps p.tables e below (T24.setTop (mkF m 129 #[.val (.int p0), .val (.int p1), .val (.int p2), .val (.int p3), .val (.int p4), .val (.int (2 : Int32)), .val (.long (own_s p1)), .second, .val (.long (own_s p2)), .second, .val (.long (own_s p3)), .second, .val (.long (own_s p4)), .second, .val (.ref b15), .val (.ref b16), .val (.long (((0 : Int64) + ((own_s p1) * (own_s p1))) + ((own_s p2) * (own_s p2)))), .second, .unset] [(.int (2 : Int32))])) _
      refine XS.iconst X24.here hx rfl (hb hby at_129) ?_
      show Steps p.tables e below (T24.setTop (mkF m 130 #[.val (.int p0), .val (.int p1), .val (.int p2), .val (.int p3), .val (.int p4), .val (.int (2 : Int32)), .val (.long (own_s p1)), .second, .val (.long (own_s p2)), .second, .val (.long (own_s p3)), .second, .val (.long (own_s p4)), .second, .val (.ref b15), .val (.ref b16), .val (.long (((0 : Int64) + ((own_s p1) * (own_s p1))) + ((own_s p2) * (own_s p2)))), .second, .unset] [(.int (3 : Int32)), (.int (2 : Int32))])) _
      refine XS.icmpYes X24.here hx rfl (pc0 := 130) (pc' := 155) rfl (hb hby at_130) rfl (by decide) (by decide) (by decide) ?_
      show Steps p.tables e below (T24.setTop (mkF m 155 #[.val (.int p0), .val (.int p1), .val (.int p2), .val (.int p3), .val (.int p4), .val (.int (2 : Int32)), .val (.long (own_s p1)), .second, .val (.long (own_s p2)), .second, .val (.long (own_s p3)), .second, .val (.long (own_s p4)), .second, .val (.ref b15), .val (.ref b16), .val (.long (((0 : Int64) + ((own_s p1) * (own_s p1))) + ((own_s p2) * (own_s p2)))), .second, .unset] [])) _
      refine st25 _ ?_
      show Steps p.tables e below (T25.setTop (mkF m 158 #[.val (.int p0), .val (.int p1), .val (.int p2), .val (.int p3), .val (.int p4), .val (.int (2 : Int32)), .val (.long (own_s p1)), .second, .val (.long (own_s p2)), .second, .val (.long (own_s p3)), .second, .val (.long (own_s p4)), .second, .val (.ref b15), .val (.ref b16), .val (.long (((0 : Int64) + ((own_s p1) * (own_s p1))) + ((own_s p2) * (own_s p2)))), .second, .unset] [(.ref b25)])) _
      refine XS.dup X25.here hx rfl (hb hby at_158) rfl rfl ?_
      show Steps p.tables e below (T25.setTop (mkF m 159 #[.val (.int p0), .val (.int p1), .val (.int p2), .val (.int p3), .val (.int p4), .val (.int (2 : Int32)), .val (.long (own_s p1)), .second, .val (.long (own_s p2)), .second, .val (.long (own_s p3)), .second, .val (.long (own_s p4)), .second, .val (.ref b15), .val (.ref b16), .val (.long (((0 : Int64) + ((own_s p1) * (own_s p1))) + ((own_s p2) * (own_s p2)))), .second, .unset] [(.ref b25), (.ref b25)])) _
      refine XS.aload X25.here hx rfl (hb hby at_159) rfl rfl ?_
      show Steps p.tables e below (T25.setTop (mkF m 161 #[.val (.int p0), .val (.int p1), .val (.int p2), .val (.int p3), .val (.int p4), .val (.int (2 : Int32)), .val (.long (own_s p1)), .second, .val (.long (own_s p2)), .second, .val (.long (own_s p3)), .second, .val (.long (own_s p4)), .second, .val (.ref b15), .val (.ref b16), .val (.long (((0 : Int64) + ((own_s p1) * (own_s p1))) + ((own_s p2) * (own_s p2)))), .second, .unset] [(.ref b16), (.ref b25), (.ref b25)])) _
      refine XS.aload X25.here hx rfl (hb hby at_161) rfl rfl ?_
      show Steps p.tables e below (T25.setTop (mkF m 163 #[.val (.int p0), .val (.int p1), .val (.int p2), .val (.int p3), .val (.int p4), .val (.int (2 : Int32)), .val (.long (own_s p1)), .second, .val (.long (own_s p2)), .second, .val (.long (own_s p3)), .second, .val (.long (own_s p4)), .second, .val (.ref b15), .val (.ref b16), .val (.long (((0 : Int64) + ((own_s p1) * (own_s p1))) + ((own_s p2) * (own_s p2)))), .second, .unset] [(.ref b15), (.ref b16), (.ref b25), (.ref b25)])) _
      refine st26.trans ?_
      show Steps p.tables e below (T26.setTop (mkF m 166 #[.val (.int p0), .val (.int p1), .val (.int p2), .val (.int p3), .val (.int p4), .val (.int (2 : Int32)), .val (.long (own_s p1)), .second, .val (.long (own_s p2)), .second, .val (.long (own_s p3)), .second, .val (.long (own_s p4)), .second, .val (.ref b15), .val (.ref b16), .val (.long (((0 : Int64) + ((own_s p1) * (own_s p1))) + ((own_s p2) * (own_s p2)))), .second, .unset] [(.ref b25)])) _
      refine XS.astore X26.here hx rfl (hb hby at_166) rfl rfl (l' := #[.val (.int p0), .val (.int p1), .val (.int p2), .val (.int p3), .val (.int p4), .val (.int (2 : Int32)), .val (.long (own_s p1)), .second, .val (.long (own_s p2)), .second, .val (.long (own_s p3)), .second, .val (.long (own_s p4)), .second, .val (.ref b15), .val (.ref b16), .val (.long (((0 : Int64) + ((own_s p1) * (own_s p1))) + ((own_s p2) * (own_s p2)))), .second, .val (.ref b25)]) rfl ?_
      show Steps p.tables e below (T26.setTop (mkF m 168 #[.val (.int p0), .val (.int p1), .val (.int p2), .val (.int p3), .val (.int p4), .val (.int (2 : Int32)), .val (.long (own_s p1)), .second, .val (.long (own_s p2)), .second, .val (.long (own_s p3)), .second, .val (.long (own_s p4)), .second, .val (.ref b15), .val (.ref b16), .val (.long (((0 : Int64) + ((own_s p1) * (own_s p1))) + ((own_s p2) * (own_s p2)))), .second, .val (.ref b25)] [])) _
      refine XS.aload X26.here hx rfl (hb hby at_168) rfl rfl ?_
      show Steps p.tables e below (T26.setTop (mkF m 170 #[.val (.int p0), .val (.int p1), .val (.int p2), .val (.int p3), .val (.int p4), .val (.int (2 : Int32)), .val (.long (own_s p1)), .second, .val (.long (own_s p2)), .second, .val (.long (own_s p3)), .second, .val (.long (own_s p4)), .second, .val (.ref b15), .val (.ref b16), .val (.long (((0 : Int64) + ((own_s p1) * (own_s p1))) + ((own_s p2) * (own_s p2)))), .second, .val (.ref b25)] [(.ref b25)])) _
      refine st27.trans ?_
      show Steps p.tables e below (T27.setTop (mkF m 173 #[.val (.int p0), .val (.int p1), .val (.int p2), .val (.int p3), .val (.int p4), .val (.int (2 : Int32)), .val (.long (own_s p1)), .second, .val (.long (own_s p2)), .second, .val (.long (own_s p3)), .second, .val (.long (own_s p4)), .second, .val (.ref b15), .val (.ref b16), .val (.long (((0 : Int64) + ((own_s p1) * (own_s p1))) + ((own_s p2) * (own_s p2)))), .second, .val (.ref b25)] [(.double (FP.l2d (((0 : Int64) + ((own_s p1) * (own_s p1))) + ((own_s p2) * (own_s p2)))))])) _
      refine XS.lload X27.here hx rfl (hb hby at_173) rfl ?_
      show Steps p.tables e below (T27.setTop (mkF m 175 #[.val (.int p0), .val (.int p1), .val (.int p2), .val (.int p3), .val (.int p4), .val (.int (2 : Int32)), .val (.long (own_s p1)), .second, .val (.long (own_s p2)), .second, .val (.long (own_s p3)), .second, .val (.long (own_s p4)), .second, .val (.ref b15), .val (.ref b16), .val (.long (((0 : Int64) + ((own_s p1) * (own_s p1))) + ((own_s p2) * (own_s p2)))), .second, .val (.ref b25)] [(.long (((0 : Int64) + ((own_s p1) * (own_s p1))) + ((own_s p2) * (own_s p2)))), (.double (FP.l2d (((0 : Int64) + ((own_s p1) * (own_s p1))) + ((own_s p2) * (own_s p2)))))])) _
      refine XS.l2dS X27.here hx rfl (hb hby at_175) rfl rfl ?_
      show Steps p.tables e below (T27.setTop (mkF m 176 #[.val (.int p0), .val (.int p1), .val (.int p2), .val (.int p3), .val (.int p4), .val (.int (2 : Int32)), .val (.long (own_s p1)), .second, .val (.long (own_s p2)), .second, .val (.long (own_s p3)), .second, .val (.long (own_s p4)), .second, .val (.ref b15), .val (.ref b16), .val (.long (((0 : Int64) + ((own_s p1) * (own_s p1))) + ((own_s p2) * (own_s p2)))), .second, .val (.ref b25)] [(.double (FP.l2d (((0 : Int64) + ((own_s p1) * (own_s p1))) + ((own_s p2) * (own_s p2))))), (.double (FP.l2d (((0 : Int64) + ((own_s p1) * (own_s p1))) + ((own_s p2) * (own_s p2)))))])) _
      refine XS.dcmpS X27.here hx rfl (hb hby at_176) rfl rfl ?_
      show Steps p.tables e below (T27.setTop (mkF m 177 #[.val (.int p0), .val (.int p1), .val (.int p2), .val (.int p3), .val (.int p4), .val (.int (2 : Int32)), .val (.long (own_s p1)), .second, .val (.long (own_s p2)), .second, .val (.long (own_s p3)), .second, .val (.long (own_s p4)), .second, .val (.ref b15), .val (.ref b16), .val (.long (((0 : Int64) + ((own_s p1) * (own_s p1))) + ((own_s p2) * (own_s p2)))), .second, .val (.ref b25)] [(.int (cmpValue (FP.dcmp (FP.l2d (((0 : Int64) + ((own_s p1) * (own_s p1))) + ((own_s p2) * (own_s p2)))) (FP.l2d (((0 : Int64) + ((own_s p1) * (own_s p1))) + ((own_s p2) * (own_s p2))))) .l))])) _
      refine XS.ifNo X27.here hx rfl (hb hby at_177) rfl (own_end _) ?_
      show Steps p.tables e below (T27.setTop (mkF m 180 #[.val (.int p0), .val (.int p1), .val (.int p2), .val (.int p3), .val (.int p4), .val (.int (2 : Int32)), .val (.long (own_s p1)), .second, .val (.long (own_s p2)), .second, .val (.long (own_s p3)), .second, .val (.long (own_s p4)), .second, .val (.ref b15), .val (.ref b16), .val (.long (((0 : Int64) + ((own_s p1) * (own_s p1))) + ((own_s p2) * (own_s p2)))), .second, .val (.ref b25)] [])) _
      refine XS.iconst X27.here hx rfl (hb hby at_180) ?_
      show Steps p.tables e below (T27.setTop (mkF m 181 #[.val (.int p0), .val (.int p1), .val (.int p2), .val (.int p3), .val (.int p4), .val (.int (2 : Int32)), .val (.long (own_s p1)), .second, .val (.long (own_s p2)), .second, .val (.long (own_s p3)), .second, .val (.long (own_s p4)), .second, .val (.ref b15), .val (.ref b16), .val (.long (((0 : Int64) + ((own_s p1) * (own_s p1))) + ((own_s p2) * (own_s p2)))), .second, .val (.ref b25)] [(.int (1 : Int32))])) _
      refine XS.goto X27.here hx rfl (pc0 := 181) (pc' := 185) rfl (hb hby at_181) (by decide) (by decide) ?_
      show Steps p.tables e below (T27.setTop (mkF m 185 #[.val (.int p0), .val (.int p1), .val (.int p2), .val (.int p3), .val (.int p4), .val (.int (2 : Int32)), .val (.long (own_s p1)), .second, .val (.long (own_s p2)), .second, .val (.long (own_s p3)), .second, .val (.long (own_s p4)), .second, .val (.ref b15), .val (.ref b16), .val (.long (((0 : Int64) + ((own_s p1) * (own_s p1))) + ((own_s p2) * (own_s p2)))), .second, .val (.ref b25)] [(.int (1 : Int32))])) _
      exact retN X27 hx (t := .boolean) Bd.returns (by simp) (hb hby at_185) hr
    · show Q0 Z p0 p1 p2 p3 p4 h0 n0 _ T27.heap _
      rw [eh27]
      exact ⟨rfl, N27⟩
  · obtain ⟨T28, h28, k28, X28, e28, E28, A28, Ax28, st28⟩ := newPE X0 hx hZ (hw _ (List.mem_of_getElem? (i := 0) rfl)) e0 (g := (mkF m 31 #[.val (.int p0), .val (.int p1), .val (.int p2), .val (.int p3), .val (.int p4), .val (.int (3 : Int32)), .val (.long (own_s p1)), .second, .val (.long (own_s p2)), .second, .val (.long (own_s p3)), .second, .val (.long (own_s p4)), .second, .unset, .unset, .unset, .unset, .unset] [(.int (3 : Int32))])) rfl (hb hby at_31) rfl (by decide) (cap := 3) (by decide) (by decide) (by decide) (by decide) (ad := "[D") (by decide)
    obtain ⟨b28, g28⟩ : ∃ z, z = h0.size := ⟨_, rfl⟩
    rw [← g28] at A28 Ax28 st28
    have V28 : Arv Z h28 b28 k28 .double (3 : Int32) [(.double (0 : UInt64)), (.double (0 : UInt64)), (.double (0 : UInt64))] (.double (0 : UInt64)) := (Arv.new A28 (by decide)).pad (pad_rep [] (.double (0 : UInt64)) 3)
    obtain ⟨T29, h29, k29, X29, e29, E29, A29, Ax29, st29⟩ := newPE X28 hx hZ (hw _ (List.mem_of_getElem? (i := 1) rfl)) e28 (g := (mkF m 37 #[.val (.int p0), .val (.int p1), .val (.int p2), .val (.int p3), .val (.int p4), .val (.int (3 : Int32)), .val (.long (own_s p1)), .second, .val (.long (own_s p2)), .second, .val (.long (own_s p3)), .second, .val (.long (own_s p4)), .second, .val (.ref b28), .unset, .unset, .unset, .unset] [(.int (3 : Int32))])) rfl (hb hby at_37) rfl (by decide) (cap := 3) (by decide) (by decide) (by decide) (by decide) (ad := "[I") (by decide)
    obtain ⟨b29, g29⟩ : ∃ z, z = h28.size := ⟨_, rfl⟩
    rw [← g29] at A29 Ax29 st29
    have V29 : Arv Z h29 b29 k29 .int (3 : Int32) [(.int (0 : Int32)), (.int (0 : Int32)), (.int (0 : Int32))] (.int (0 : Int32)) := (Arv.new A29 (by decide)).pad (pad_rep [] (.int (0 : Int32)) 3)
    obtain ⟨cl30, Ar30, q30, S30, P30, Ha30, G30⟩ := (V28.ext E29)
    have hin30 : ¬ ((0 : Int32) < 0 ∨ cl30.slots.size ≤ ((0 : Int32)).toNatClampNeg) := inb_of S30 ⟨by decide, by decide⟩
    obtain ⟨T31, h31, X31, e31, W31, st31⟩ := stD X29 hx hZ e29 Ar30 (j := (0 : Int32)) hin30 (g := (mkF m 55 #[.val (.int p0), .val (.int p1), .val (.int p2), .val (.int p3), .val (.int p4), .val (.int (3 : Int32)), .val (.long (own_s p1)), .second, .val (.long (own_s p2)), .second, .val (.long (own_s p3)), .second, .val (.long (own_s p4)), .second, .val (.ref b28), .val (.ref b29), .val (.long (0 : Int64)), .second, .unset] [(.double (FP.l2d (own_s p1))), (.int (0 : Int32)), (.ref b28)])) rfl rfl (hb hby at_55)
    have V31 : Arv Z h31 b28 k28 .double (3 : Int32) [(.double (FP.l2d (own_s p1))), (.double (0 : UInt64)), (.double (0 : UInt64))] (.double (0 : UInt64)) := Arv.set Ar30 q30 S30 P30 Ha30 G30 rfl W31 0 rfl (Nat.le_of_ble_eq_true rfl)
    have N31 := Fr.snoc X31 N0 (Nat.le_trans Z0 (Nat.le_trans (Nat.le_refl _) (Nat.le_of_eq g28.symm)))
    obtain ⟨cl32, Ar32, q32, S32, P32, Ha32, G32⟩ := (V29.other W31 (Ne.symm (Nat.ne_of_lt (Nat.lt_of_lt_of_le Ax28.lt (Nat.le_of_eq g29.symm)))))
    have hin32 : ¬ ((0 : Int32) < 0 ∨ cl32.slots.size ≤ ((0 : Int32)).toNatClampNeg) := inb_of S32 ⟨by decide, by decide⟩
    obtain ⟨T33, h33, X33, e33, W33, st33⟩ := stI X31 hx hZ e31 Ar32 (j := (0 : Int32)) hin32 (g := (mkF m 60 #[.val (.int p0), .val (.int p1), .val (.int p2), .val (.int p3), .val (.int p4), .val (.int (3 : Int32)), .val (.long (own_s p1)), .second, .val (.long (own_s p2)), .second, .val (.long (own_s p3)), .second, .val (.long (own_s p4)), .second, .val (.ref b28), .val (.ref b29), .val (.long (0 : Int64)), .second, .unset] [(.int (0 : Int32)), (.int (0 : Int32)), (.ref b29)])) rfl rfl (hb hby at_60)
    have V33 : Arv Z h33 b29 k29 .int (3 : Int32) [(.int (0 : Int32)), (.int (0 : Int32)), (.int (0 : Int32))] (.int (0 : Int32)) := Arv.set Ar32 q32 S32 P32 Ha32 G32 rfl W33 0 rfl (Nat.le_of_ble_eq_true rfl)
    have N33 := Fr.snoc X33 N31 (Nat.le_trans Z0 (Nat.le_trans (Nat.le_trans (Nat.le_refl _) E28.1) (Nat.le_of_eq g29.symm)))
    obtain ⟨cl34, Ar34, q34, S34, P34, Ha34, G34⟩ := (V31.other W33 (Nat.ne_of_lt (Nat.lt_of_lt_of_le Ax28.lt (Nat.le_of_eq g29.symm))))
    have hin34 : ¬ ((1 : Int32) < 0 ∨ cl34.slots.size ≤ ((1 : Int32)).toNatClampNeg) := inb_of S34 ⟨by decide, by decide⟩
    obtain ⟨T35, h35, X35, e35, W35, st35⟩ := stD X33 hx hZ e33 Ar34 (j := (1 : Int32)) hin34 (g := (mkF m 83 #[.val (.int p0), .val (.int p1), .val (.int p2), .val (.int p3), .val (.int p4), .val (.int (3 : Int32)), .val (.long (own_s p1)), .second, .val (.long (own_s p2)), .second, .val (.long (own_s p3)), .second, .val (.long (own_s p4)), .second, .val (.ref b28), .val (.ref b29), .val (.long ((0 : Int64) + ((own_s p1) * (own_s p1)))), .second, .unset] [(.double (FP.l2d (own_s p2))), (.int (1 : Int32)), (.ref b28)])) rfl rfl (hb hby at_83)
    have V35 : Arv Z h35 b28 k28 .double (3 : Int32) [(.double (FP.l2d (own_s p1))), (.double (FP.l2d (own_s p2))), (.double (0 : UInt64))] (.double (0 : UInt64)) := Arv.set Ar34 q34 S34 P34 Ha34 G34 rfl W35 1 rfl (Nat.le_of_ble_eq_true rfl)
    have N35 := Fr.snoc X35 N33 (Nat.le_trans Z0 (Nat.le_trans (Nat.le_refl _) (Nat.le_of_eq g28.symm)))
    obtain ⟨cl36, Ar36, q36, S36, P36, Ha36, G36⟩ := (V33.other W35 (Ne.symm (Nat.ne_of_lt (Nat.lt_of_lt_of_le Ax28.lt (Nat.le_of_eq g29.symm)))))
    have hin36 : ¬ ((1 : Int32) < 0 ∨ cl36.slots.size ≤ ((1 : Int32)).toNatClampNeg) := inb_of S36 ⟨by decide, by decide⟩
    obtain ⟨T37, h37, X37, e37, W37, st37⟩ := stI X35 hx hZ e35 Ar36 (j := (1 : Int32)) hin36 (g := (mkF m 88 #[.val (.int p0), .val (.int p1), .val (.int p2), .val (.int p3), .val (.int p4), .val (.int (3 : Int32)), .val (.long (own_s p1)), .second, .val (.long (own_s p2)), .second, .val (.long (own_s p3)), .second, .val (.long (own_s p4)), .second, .val (.ref b28), .val (.ref b29), .val (.long ((0 : Int64) + ((own_s p1) * (own_s p1)))), .second, .unset] [(.int (1 : Int32)), (.int (1 : Int32)), (.ref b29)])) rfl rfl (hb hby at_88)
    have V37 : Arv Z h37 b29 k29 .int (3 : Int32) [(.int (0 : Int32)), (.int (1 : Int32)), (.int (0 : Int32))] (.int (0 : Int32)) := Arv.set Ar36 q36 S36 P36 Ha36 G36 rfl W37 1 rfl (Nat.le_of_ble_eq_true rfl)
    have N37 := Fr.snoc X37 N35 (Nat.le_trans Z0 (Nat.le_trans (Nat.le_trans (Nat.le_refl _) E28.1) (Nat.le_of_eq g29.symm)))
    obtain ⟨cl38, Ar38, q38, S38, P38, Ha38, G38⟩ := (V35.other W37 (Nat.ne_of_lt (Nat.lt_of_lt_of_le Ax28.lt (Nat.le_of_eq g29.symm))))
    have hin38 : ¬ ((2 : Int32) < 0 ∨ cl38.slots.size ≤ ((2 : Int32)).toNatClampNeg) := inb_of S38 ⟨by decide, by decide⟩
    obtain ⟨T39, h39, X39, e39, W39, st39⟩ := stD X37 hx hZ e37 Ar38 (j := (2 : Int32)) hin38 (g := (mkF m 111 #[.val (.int p0), .val (.int p1), .val (.int p2), .val (.int p3), .val (.int p4), .val (.int (3 : Int32)), .val (.long (own_s p1)), .second, .val (.long (own_s p2)), .second, .val (.long (own_s p3)), .second, .val (.long (own_s p4)), .second, .val (.ref b28), .val (.ref b29), .val (.long (((0 : Int64) + ((own_s p1) * (own_s p1))) + ((own_s p2) * (own_s p2)))), .second, .unset] [(.double (FP.l2d (own_s p3))), (.int (2 : Int32)), (.ref b28)])) rfl rfl (hb hby at_111)
    have V39 : Arv Z h39 b28 k28 .double (3 : Int32) [(.double (FP.l2d (own_s p1))), (.double (FP.l2d (own_s p2))), (.double (FP.l2d (own_s p3)))] (.double (0 : UInt64)) := Arv.set Ar38 q38 S38 P38 Ha38 G38 rfl W39 2 rfl (Nat.le_of_ble_eq_true rfl)
    have N39 := Fr.snoc X39 N37 (Nat.le_trans Z0 (Nat.le_trans (Nat.le_refl _) (Nat.le_of_eq g28.symm)))
    obtain ⟨cl40, Ar40, q40, S40, P40, Ha40, G40⟩ := (V37.other W39 (Ne.symm (Nat.ne_of_lt (Nat.lt_of_lt_of_le Ax28.lt (Nat.le_of_eq g29.symm)))))
    have hin40 : ¬ ((2 : Int32) < 0 ∨ cl40.slots.size ≤ ((2 : Int32)).toNatClampNeg) := inb_of S40 ⟨by decide, by decide⟩
    obtain ⟨T41, h41, X41, e41, W41, st41⟩ := stI X39 hx hZ e39 Ar40 (j := (2 : Int32)) hin40 (g := (mkF m 116 #[.val (.int p0), .val (.int p1), .val (.int p2), .val (.int p3), .val (.int p4), .val (.int (3 : Int32)), .val (.long (own_s p1)), .second, .val (.long (own_s p2)), .second, .val (.long (own_s p3)), .second, .val (.long (own_s p4)), .second, .val (.ref b28), .val (.ref b29), .val (.long (((0 : Int64) + ((own_s p1) * (own_s p1))) + ((own_s p2) * (own_s p2)))), .second, .unset] [(.int (2 : Int32)), (.int (2 : Int32)), (.ref b29)])) rfl rfl (hb hby at_116)
    have V41 : Arv Z h41 b29 k29 .int (3 : Int32) [(.int (0 : Int32)), (.int (1 : Int32)), (.int (2 : Int32))] (.int (0 : Int32)) := Arv.set Ar40 q40 S40 P40 Ha40 G40 rfl W41 2 rfl (Nat.le_of_ble_eq_true rfl)
    have N41 := Fr.snoc X41 N39 (Nat.le_trans Z0 (Nat.le_trans (Nat.le_trans (Nat.le_refl _) E28.1) (Nat.le_of_eq g29.symm)))
    obtain ⟨T42, h42, X42, e42, E42, A42, D42, -, st42⟩ := newO X41 hx hZ hown (hw _ (List.mem_of_getElem? (i := 2) rfl)) (hw _ (List.mem_of_getElem? (i := 3) rfl)) (hw _ (List.mem_of_getElem? (i := 4) rfl)) e41 (g := (mkF m 155 #[.val (.int p0), .val (.int p1), .val (.int p2), .val (.int p3), .val (.int p4), .val (.int (3 : Int32)), .val (.long (own_s p1)), .second, .val (.long (own_s p2)), .second, .val (.long (own_s p3)), .second, .val (.long (own_s p4)), .second, .val (.ref b28), .val (.ref b29), .val (.long ((((0 : Int64) + ((own_s p1) * (own_s p1))) + ((own_s p2) * (own_s p2))) + ((own_s p3) * (own_s p3)))), .second, .unset] [])) rfl (hb hby at_155) (by decide) (by decide)
    obtain ⟨b42, g42⟩ : ∃ z, z = h41.size := ⟨_, rfl⟩
    rw [← g42] at A42 D42 st42
    have F42_indices : Fld Z h42 b42 "com/example/topic_crawler/topiccrawler/topic/SparseVector" "indices" "[I" .null := D42 (Or.inr (hw _ (List.mem_of_getElem? (i := 12) rfl))) (ty := (.array .int)) (by decide)
    have F42_values : Fld Z h42 b42 "com/example/topic_crawler/topiccrawler/topic/SparseVector" "values" "[D" .null := D42 (Or.inr (hw _ (List.mem_of_getElem? (i := 14) rfl))) (ty := (.array .double)) (by decide)
    obtain ⟨_, _, ⟨T43, L43, k43, n43⟩, -, X43, ⟨Lc43, hQ43, l43, y43, z43⟩, st43⟩ := X42.specialBack hx (y := (⟨"com/example/topic_crawler/topiccrawler/topic/SparseVector", "<init>", "([I[D)V"⟩ : MethodName)) rfl hown (mvT hZ (hw _ (List.mem_of_getElem? (i := 5) rfl))) (mvT hZ (hw _ (List.mem_of_getElem? (i := 6) rfl))) (mvT hZ (hw _ (List.mem_of_getElem? (i := 7) rfl))) (by decide) (backOf (W := 1) (rmsv l Z a0 hw [] b42 b29 b28 h42 n0 (Nat.le_trans (Nat.le_trans (Nat.le_trans (Nat.le_trans (Nat.le_trans (Nat.le_trans (Nat.le_trans (Nat.le_trans (Nat.le_trans Z0 E28.1) E29.1) (Keep.of_wr W31).1) (Keep.of_wr W33).1) (Keep.of_wr W35).1) (Keep.of_wr W37).1) (Keep.of_wr W39).1) (Keep.of_wr W41).1) E42.1) F42_indices F42_values A42 (Nat.le_trans Z0 (Nat.le_trans (Nat.le_trans (Nat.le_trans (Nat.le_trans (Nat.le_trans (Nat.le_trans (Nat.le_trans (Nat.le_trans (Nat.le_trans (Nat.le_refl _) E28.1) E29.1) (Keep.of_wr W31).1) (Keep.of_wr W33).1) (Keep.of_wr W35).1) (Keep.of_wr W37).1) (Keep.of_wr W39).1) (Keep.of_wr W41).1) (Nat.le_of_eq g42.symm)))) hZ (hw _ (List.mem_of_getElem? (i := 7) rfl)) (hw _ (List.mem_of_getElem? (i := 4) rfl)) (by decide) (by decide)) (g := (mkF m 163 #[.val (.int p0), .val (.int p1), .val (.int p2), .val (.int p3), .val (.int p4), .val (.int (3 : Int32)), .val (.long (own_s p1)), .second, .val (.long (own_s p2)), .second, .val (.long (own_s p3)), .second, .val (.long (own_s p4)), .second, .val (.ref b28), .val (.ref b29), .val (.long ((((0 : Int64) + ((own_s p1) * (own_s p1))) + ((own_s p2) * (own_s p2))) + ((own_s p3) * (own_s p3)))), .second, .unset] [(.ref b28), (.ref b29), (.ref b42), (.ref b42)])) rfl (by rw [hml]; rfl) (Steps.refl _) (a := b42) (argsL := [(.ref b29), (.ref b28)]) (rest := [(.ref b42)]) (lenOf pd_0 rfl) rfl (by show 2 * 0 + _ ≤ _; exact Nat.le_of_eq rfl) (hb hby at_163) (fun _ _ => ⟨rfl, e42, (by decide : 3 + 0 ≤ _), (by decide : 8 + 0 ≤ _)⟩)
    dsimp only [Pt.U, Pt.locs, Pt.cells, Pt.slots] at X43 l43 y43 z43 st43 hQ43
    subst l43 y43 z43
    obtain ⟨rfl, N43q, K43, Ea43, Fv43⟩ := hQ43
    have N43 := Fr.app N41 N43q
    obtain ⟨cq44, kq44, q44a, q44b, q44c⟩ := isOf hZ rfl Ea43
    obtain ⟨_, _, ⟨T44, L44, k44, n44⟩, -, X44, ⟨Lc44, hQ44, l44, y44, z44⟩, st44⟩ := X43.virtualBack hx (y := (⟨"com/example/topic_crawler/topiccrawler/topic/SparseVector", "squaredLength", "()D"⟩ : MethodName)) (z := (⟨"com/example/topic_crawler/topiccrawler/topic/SparseVector", "squaredLength", "()D"⟩ : MethodName)) hown (mvT hZ (hw _ (List.mem_of_getElem? (i := 15) rfl))) (mvT hZ (hw _ (List.mem_of_getElem? (i := 16) rfl))) (notFace_of_selects (args := #[]) (mvT hZ (hw _ (List.mem_of_getElem? (i := 18) rfl)))) (mvT hZ (hw _ (List.mem_of_getElem? (i := 18) rfl))) (mvT hZ (hw _ (List.mem_of_getElem? (i := 17) rfl))) (by decide) (backOf (W := 0) (rmsq3 l Z a0 hw [] b42 b28 k28 (own_s p1) (own_s p2) (own_s p3) T43.heap n0 (Nat.le_trans (Nat.le_trans (Nat.le_trans (Nat.le_trans (Nat.le_trans (Nat.le_trans (Nat.le_trans (Nat.le_trans (Nat.le_trans (Nat.le_trans Z0 E28.1) E29.1) (Keep.of_wr W31).1) (Keep.of_wr W33).1) (Keep.of_wr W35).1) (Keep.of_wr W37).1) (Keep.of_wr W39).1) (Keep.of_wr W41).1) E42.1) K43.1) Fv43 (((V39.other W41 (Nat.ne_of_lt (Nat.lt_of_lt_of_le Ax28.lt (Nat.le_of_eq g29.symm)))).ext E42).keep K43 (ninS (Nat.ne_of_lt (Nat.lt_of_lt_of_le (V39.other W41 (Nat.ne_of_lt (Nat.lt_of_lt_of_le Ax28.lt (Nat.le_of_eq g29.symm)))).lt (Nat.le_of_eq g42.symm))) nin0)) (own_mul p1) (own_add0 p1) (own_mul p2) (own_add (own_Ss own_S0 (by decide) (by decide) p1) (by decide) p2) (own_mul p3) (own_add (own_Ss (own_Ss own_S0 (by decide) (by decide) p1) (by decide) (by decide) p2) (by decide) p3)) hZ (hw _ (List.mem_of_getElem? (i := 19) rfl)) (hw _ (List.mem_of_getElem? (i := 4) rfl)) (by decide) (by decide)) q44a q44c (g := (mkF m 170 #[.val (.int p0), .val (.int p1), .val (.int p2), .val (.int p3), .val (.int p4), .val (.int (3 : Int32)), .val (.long (own_s p1)), .second, .val (.long (own_s p2)), .second, .val (.long (own_s p3)), .second, .val (.long (own_s p4)), .second, .val (.ref b28), .val (.ref b29), .val (.long ((((0 : Int64) + ((own_s p1) * (own_s p1))) + ((own_s p2) * (own_s p2))) + ((own_s p3) * (own_s p3)))), .second, .val (.ref b42)] [(.ref b42)])) rfl (by rw [hml]; rfl) (Steps.refl _) (argsL := []) (rest := []) (lenOf pd_1 rfl) rfl (by show 2 * 0 + _ ≤ _; exact Nat.le_of_eq rfl) (hb hby at_170) (fun _ _ => ⟨rfl, rfl, (by decide : 3 + 0 ≤ _), (by decide : 8 + 0 ≤ _)⟩)
    dsimp only [Pt.U, Pt.locs, Pt.cells, Pt.slots] at X44 l44 y44 z44 st44 hQ44
    subst l44 y44 z44
    obtain ⟨rfl, N44q, eh44⟩ := hQ44
    have N44 := Fr.app N43 N44q
    obtain ⟨fs, hr, hrun, hended, hW, hsame⟩ := X44.leave (v := some (.int (nar .boolean (1 : Int32)))) (fun h => by rw [Bd.returns] at h; cases h)
    refine ⟨_, _, pre0 _ ?_, hrun, hended, _, _, rfl, ?_, ⟨_, rfl⟩, hW, hsame.mono (by decide) (by decide)⟩
    · show Steps p.tables e below (s₁.setTop (mkF m 0 #[.val (.int p0), .val (.int p1), .val (.int p2), .val (.int p3), .val (.int p4), .unset, .unset, .unset, .unset, .unset, .unset, .unset, .unset, .unset, .unset, .unset, .unset, .unset, .unset] [])) _
      refine XS.iloadN X0.here hx rfl (hb hby at_0) rfl ?_
      show Steps p.tables e below (s₁.setTop (mkF m 1 #[.val (.int p0), .val (.int p1), .val (.int p2), .val (.int p3), .val (.int p4), .unset, .unset, .unset, .unset, .unset, .unset, .unset, .unset, .unset, .unset, .unset, .unset, .unset, .unset] [(.int p0)])) _
      refine XS.bipush X0.here hx rfl (hb hby at_1) ?_
      show Steps p.tables e below (s₁.setTop (mkF m 3 #[.val (.int p0), .val (.int p1), .val (.int p2), .val (.int p3), .val (.int p4), .unset, .unset, .unset, .unset, .unset, .unset, .unset, .unset, .unset, .unset, .unset, .unset, .unset, .unset] [(.int (7 : Int32)), (.int p0)])) _
      refine XS.iand X0.here hx rfl (hb hby at_3) rfl ?_
      show Steps p.tables e below (s₁.setTop (mkF m 4 #[.val (.int p0), .val (.int p1), .val (.int p2), .val (.int p3), .val (.int p4), .unset, .unset, .unset, .unset, .unset, .unset, .unset, .unset, .unset, .unset, .unset, .unset, .unset, .unset] [(.int (p0 &&& (7 : Int32)))])) _
      refine XS.iconst X0.here hx rfl (hb hby at_4) ?_
      show Steps p.tables e below (s₁.setTop (mkF m 5 #[.val (.int p0), .val (.int p1), .val (.int p2), .val (.int p3), .val (.int p4), .unset, .unset, .unset, .unset, .unset, .unset, .unset, .unset, .unset, .unset, .unset, .unset, .unset, .unset] [(.int (5 : Int32)), (.int (p0 &&& (7 : Int32)))])) _
      refine iremM X0 hx rfl (hb hby at_5) rfl (by decide) ?_
      show Steps p.tables e below (s₁.setTop (mkF m 6 #[.val (.int p0), .val (.int p1), .val (.int p2), .val (.int p3), .val (.int p4), .unset, .unset, .unset, .unset, .unset, .unset, .unset, .unset, .unset, .unset, .unset, .unset, .unset, .unset] [(.int (own_n p0))])) _
      rw [hn]
      show Steps p.tables e below (s₁.setTop (mkF m 6 #[.val (.int p0), .val (.int p1), .val (.int p2), .val (.int p3), .val (.int p4), .unset, .unset, .unset, .unset, .unset, .unset, .unset, .unset, .unset, .unset, .unset, .unset, .unset, .unset] [(.int (3 : Int32))])) _
      refine XS.istore X0.here hx rfl (hb hby at_6) rfl (l' := #[.val (.int p0), .val (.int p1), .val (.int p2), .val (.int p3), .val (.int p4), .val (.int (3 : Int32)), .unset, .unset, .unset, .unset, .unset, .unset, .unset, .unset, .unset, .unset, .unset, .unset, .unset]) rfl ?_
      show Steps p.tables e below (s₁.setTop (mkF m 8 #[.val (.int p0), .val (.int p1), .val (.int p2), .val (.int p3), .val (.int p4), .val (.int (3 : Int32)), .unset, .unset, .unset, .unset, .unset, .unset, .unset, .unset, .unset, .unset, .unset, .unset, .unset] [])) _
      refine XS.iloadN X0.here hx rfl (hb hby at_8) rfl ?_
      show Steps p.tables e below (s₁.setTop (mkF m 9 #[.val (.int p0), .val (.int p1), .val (.int p2), .val (.int p3), .val (.int p4), .val (.int (3 : Int32)), .unset, .unset, .unset, .unset, .unset, .unset, .unset, .unset, .unset, .unset, .unset, .unset, .unset] [(.int p1)])) _
      refine XS.i2s X0.here hx rfl (hb hby at_9) rfl ?_
      show Steps p.tables e below (s₁.setTop (mkF m 10 #[.val (.int p0), .val (.int p1), .val (.int p2), .val (.int p3), .val (.int p4), .val (.int (3 : Int32)), .unset, .unset, .unset, .unset, .unset, .unset, .unset, .unset, .unset, .unset, .unset, .unset, .unset] [(.int (p1.toInt16.toInt32))])) _
      refine XS.i2l X0.here hx rfl (hb hby at_10) rfl ?_
      show Steps p.tables e below (s₁.setTop (mkF m 11 #[.val (.int p0), .val (.int p1), .val (.int p2), .val (.int p3), .val (.int p4), .val (.int (3 : Int32)), .unset, .unset, .unset, .unset, .unset, .unset, .unset, .unset, .unset, .unset, .unset, .unset, .unset] [(.long (own_s p1))])) _
      refine XS.lstore X0.here hx rfl (hb hby at_11) rfl (l' := #[.val (.int p0), .val (.int p1), .val (.int p2), .val (.int p3), .val (.int p4), .val (.int (3 : Int32)), .val (.long (own_s p1)), .second, .unset, .unset, .unset, .unset, .unset, .unset, .unset, .unset, .unset, .unset, .unset]) rfl ?_
      show Steps p.tables e below (s₁.setTop (mkF m 13 #[.val (.int p0), .val (.int p1), .val (.int p2), .val (.int p3), .val (.int p4), .val (.int (3 : Int32)), .val (.long (own_s p1)), .second, .unset, .unset, .unset, .unset, .unset, .unset, .unset, .unset, .unset, .unset, .unset] [])) _
      refine XS.iloadN X0.here hx rfl (hb hby at_13) rfl ?_
      show Steps p.tables e below (s₁.setTop (mkF m 14 #[.val (.int p0), .val (.int p1), .val (.int p2), .val (.int p3), .val (.int p4), .val (.int (3 : Int32)), .val (.long (own_s p1)), .second, .unset, .unset, .unset, .unset, .unset, .unset, .unset, .unset, .unset, .unset, .unset] [(.int p2)])) _
      refine XS.i2s X0.here hx rfl (hb hby at_14) rfl ?_
      show Steps p.tables e below (s₁.setTop (mkF m 15 #[.val (.int p0), .val (.int p1), .val (.int p2), .val (.int p3), .val (.int p4), .val (.int (3 : Int32)), .val (.long (own_s p1)), .second, .unset, .unset, .unset, .unset, .unset, .unset, .unset, .unset, .unset, .unset, .unset] [(.int (p2.toInt16.toInt32))])) _
      refine XS.i2l X0.here hx rfl (hb hby at_15) rfl ?_
      show Steps p.tables e below (s₁.setTop (mkF m 16 #[.val (.int p0), .val (.int p1), .val (.int p2), .val (.int p3), .val (.int p4), .val (.int (3 : Int32)), .val (.long (own_s p1)), .second, .unset, .unset, .unset, .unset, .unset, .unset, .unset, .unset, .unset, .unset, .unset] [(.long (own_s p2))])) _
      refine XS.lstore X0.here hx rfl (hb hby at_16) rfl (l' := #[.val (.int p0), .val (.int p1), .val (.int p2), .val (.int p3), .val (.int p4), .val (.int (3 : Int32)), .val (.long (own_s p1)), .second, .val (.long (own_s p2)), .second, .unset, .unset, .unset, .unset, .unset, .unset, .unset, .unset, .unset]) rfl ?_
      show Steps p.tables e below (s₁.setTop (mkF m 18 #[.val (.int p0), .val (.int p1), .val (.int p2), .val (.int p3), .val (.int p4), .val (.int (3 : Int32)), .val (.long (own_s p1)), .second, .val (.long (own_s p2)), .second, .unset, .unset, .unset, .unset, .unset, .unset, .unset, .unset, .unset] [])) _
      refine XS.iloadN X0.here hx rfl (hb hby at_18) rfl ?_
      show Steps p.tables e below (s₁.setTop (mkF m 19 #[.val (.int p0), .val (.int p1), .val (.int p2), .val (.int p3), .val (.int p4), .val (.int (3 : Int32)), .val (.long (own_s p1)), .second, .val (.long (own_s p2)), .second, .unset, .unset, .unset, .unset, .unset, .unset, .unset, .unset, .unset] [(.int p3)])) _
      refine XS.i2s X0.here hx rfl (hb hby at_19) rfl ?_
      show Steps p.tables e below (s₁.setTop (mkF m 20 #[.val (.int p0), .val (.int p1), .val (.int p2), .val (.int p3), .val (.int p4), .val (.int (3 : Int32)), .val (.long (own_s p1)), .second, .val (.long (own_s p2)), .second, .unset, .unset, .unset, .unset, .unset, .unset, .unset, .unset, .unset] [(.int (p3.toInt16.toInt32))])) _
      refine XS.i2l X0.here hx rfl (hb hby at_20) rfl ?_
      show Steps p.tables e below (s₁.setTop (mkF m 21 #[.val (.int p0), .val (.int p1), .val (.int p2), .val (.int p3), .val (.int p4), .val (.int (3 : Int32)), .val (.long (own_s p1)), .second, .val (.long (own_s p2)), .second, .unset, .unset, .unset, .unset, .unset, .unset, .unset, .unset, .unset] [(.long (own_s p3))])) _
      refine XS.lstore X0.here hx rfl (hb hby at_21) rfl (l' := #[.val (.int p0), .val (.int p1), .val (.int p2), .val (.int p3), .val (.int p4), .val (.int (3 : Int32)), .val (.long (own_s p1)), .second, .val (.long (own_s p2)), .second, .val (.long (own_s p3)), .second, .unset, .unset, .unset, .unset, .unset, .unset, .unset]) rfl ?_
      show Steps p.tables e below (s₁.setTop (mkF m 23 #[.val (.int p0), .val (.int p1), .val (.int p2), .val (.int p3), .val (.int p4), .val (.int (3 : Int32)), .val (.long (own_s p1)), .second, .val (.long (own_s p2)), .second, .val (.long (own_s p3)), .second, .unset, .unset, .unset, .unset, .unset, .unset, .unset] [])) _
      refine XS.iload X0.here hx rfl (hb hby at_23) rfl ?_
      show Steps p.tables e below (s₁.setTop (mkF m 25 #[.val (.int p0), .val (.int p1), .val (.int p2), .val (.int p3), .val (.int p4), .val (.int (3 : Int32)), .val (.long (own_s p1)), .second, .val (.long (own_s p2)), .second, .val (.long (own_s p3)), .second, .unset, .unset, .unset, .unset, .unset, .unset, .unset] [(.int p4)])) _
      refine XS.i2s X0.here hx rfl (hb hby at_25) rfl ?_
      show Steps p.tables e below (s₁.setTop (mkF m 26 #[.val (.int p0), .val (.int p1), .val (.int p2), .val (.int p3), .val (.int p4), .val (.int (3 : Int32)), .val (.long (own_s p1)), .second, .val (.long (own_s p2)), .second, .val (.long (own_s p3)), .second, .unset, .unset, .unset, .unset, .unset, .unset, .unset] [(.int (p4.toInt16.toInt32))])) _
      refine XS.i2l X0.here hx rfl (hb hby at_26) rfl ?_
      show Steps p.tables e below (s₁.setTop (mkF m 27 #[.val (.int p0), .val (.int p1), .val (.int p2), .val (.int p3), .val (.int p4), .val (.int (3 : Int32)), .val (.long (own_s p1)), .second, .val (.long (own_s p2)), .second, .val (.long (own_s p3)), .second, .unset, .unset, .unset, .unset, .unset, .unset, .unset] [(.long (own_s p4))])) _
      refine XS.lstore X0.here hx rfl (hb hby at_27) rfl (l' := #[.val (.int p0), .val (.int p1), .val (.int p2), .val (.int p3), .val (.int p4), .val (.int (3 : Int32)), .val (.long (own_s p1)), .second, .val (.long (own_s p2)), .second, .val (.long (own_s p3)), .second, .val (.long (own_s p4)), .second, .unset, .unset, .unset, .unset, .unset]) rfl ?_
      show Steps p.tables e below (s₁.setTop (mkF m 29 #[.val (.int p0), .val (.int p1), .val (.int p2), .val (.int p3), .val (.int p4), .val (.int (3 : Int32)), .val (.long (own_s p1)), .second, .val (.long (own_s p2)), .second, .val (.long (own_s p3)), .second, .val (.long (own_s p4)), .second, .unset, .unset, .unset, .unset, .unset] [])) _
      refine XS.iload X0.here hx rfl (hb hby at_29) rfl ?_
      show Steps p.tables e below (s₁.setTop (mkF m 31 #[.val (.int p0), .val (.int p1), .val (.int p2), .val (.int p3), .val (.int p4), .val (.int (3 : Int32)), .val (.long (own_s p1)), .second, .val (.long (own_s p2)), .second, .val (.long (own_s p3)), .second, .val (.long (own_s p4)), .second, .unset, .unset, .unset, .unset, .unset] [(.int (3 : Int32))])) _
      refine st28 _ ?_
      show Steps p.tables e below (T28.setTop (mkF m 33 #[.val (.int p0), .val (.int p1), .val (.int p2), .val (.int p3), .val (.int p4), .val (.int (3 : Int32)), .val (.long (own_s p1)), .second, .val (.long (own_s p2)), .second, .val (.long (own_s p3)), .second, .val (.long (own_s p4)), .second, .unset, .unset, .unset, .unset, .unset] [(.ref b28)])) _
      refine XS.astore X28.here hx rfl (hb hby at_33) rfl rfl (l' := #[.val (.int p0), .val (.int p1), .val (.int p2), .val (.int p3), .val (.int p4), .val (.int (3 : Int32)), .val (.long (own_s p1)), .second, .val (.long (own_s p2)), .second, .val (.long (own_s p3)), .second, .val (.long (own_s p4)), .second, .val (.ref b28), .unset, .unset, .unset, .unset]) rfl ?_
      show Steps p.tables e below (T28.setTop (mkF m 35 #[.val (.int p0), .val (.int p1), .val (.int p2), .val (.int p3), .val (.int p4), .val (.int (3 : Int32)), .val (.long (own_s p1)), .second, .val (.long (own_s p2)), .second, .val (.long (own_s p3)), .second, .val (.long (own_s p4)), .second, .val (.ref b28), .unset, .unset, .unset, .unset] [])) _
      refine XS.iload X28.here hx rfl (hb hby at_35) rfl ?_
      show Steps p.tables e below (T28.setTop (mkF m 37 #[.val (.int p0), .val (.int p1), .val (.int p2), .val (.int p3), .val (.int p4), .val (.int (3 : Int32)), .val (.long (own_s p1)), .second, .val (.long (own_s p2)), .second, .val (.long (own_s p3)), .second, .val (.long (own_s p4)), .second, .val (.ref b28), .unset, .unset, .unset, .unset] [(.int (3 : Int32))])) _
      refine st29 _ ?_
      show Steps p.tables e below (T29.setTop (mkF m 39 #[.val (.int p0), .val (.int p1), .val (.int p2), .val (.int p3), .val (.int p4), .val (.int (3 : Int32)), .val (.long (own_s p1)), .second, .val (.long (own_s p2)), .second, .val (.long (own_s p3)), .second, .val (.long (own_s p4)), .second, .val (.ref b28), .unset, .unset, .unset, .unset] [(.ref b29)])) _
      refine XS.astore X29.here hx rfl (hb hby at_39) rfl rfl (l' := #[.val (.int p0), .val (.int p1), .val (.int p2), .val (.int p3), .val (.int p4), .val (.int (3 : Int32)), .val (.long (own_s p1)), .second, .val (.long (own_s p2)), .second, .val (.long (own_s p3)), .second, .val (.long (own_s p4)), .second, .val (.ref b28), .val (.ref b29), .unset, .unset, .unset]) rfl ?_
      show Steps p.tables e below (T29.setTop (mkF m 41 #[.val (.int p0), .val (.int p1), .val (.int p2), .val (.int p3), .val (.int p4), .val (.int (3 : Int32)), .val (.long (own_s p1)), .second, .val (.long (own_s p2)), .second, .val (.long (own_s p3)), .second, .val (.long (own_s p4)), .second, .val (.ref b28), .val (.ref b29), .unset, .unset, .unset] [])) _
      refine XS.lconst X29.here hx rfl (hb hby at_41) ?_
      show Steps p.tables e below (T29.setTop (mkF m 42 #[.val (.int p0), .val (.int p1), .val (.int p2), .val (.int p3), .val (.int p4), .val (.int (3 : Int32)), .val (.long (own_s p1)), .second, .val (.long (own_s p2)), .second, .val (.long (own_s p3)), .second, .val (.long (own_s p4)), .second, .val (.ref b28), .val (.ref b29), .unset, .unset, .unset] [(.long (0 : Int64))])) _
      refine XS.lstore X29.here hx rfl (hb hby at_42) rfl (l' := #[.val (.int p0), .val (.int p1), .val (.int p2), .val (.int p3), .val (.int p4), .val (.int (3 : Int32)), .val (.long (own_s p1)), .second, .val (.long (own_s p2)), .second, .val (.long (own_s p3)), .second, .val (.long (own_s p4)), .second, .val (.ref b28), .val (.ref b29), .val (.long (0 : Int64)), .second, .unset]) rfl ?_
      show Steps p.tables e below (T29.setTop (mkF m 44 #[.val (.int p0), .val (.int p1), .val (.int p2), .val (.int p3), .val (.int p4), .val (.int (3 : Int32)), .val (.long (own_s p1)), .second, .val (.long (own_s p2)), .second, .val (.long (own_s p3)), .second, .val (.long (own_s p4)), .second, .val (.ref b28), .val (.ref b29), .val (.long (0 : Int64)), .second, .unset] [])) _
      refine XS.iload X29.here hx rfl (hb hby at_44) rfl ?_
      show Steps p.tables e below (T29.setTop (mkF m 46 #[.val (.int p0), .val (.int p1), .val (.int p2), .val (.int p3), .val (.int p4), .val (.int (3 : Int32)), .val (.long (own_s p1)), .second, .val (.long (own_s p2)), .second, .val (.long (own_s p3)), .second, .val (.long (own_s p4)), .second, .val (.ref b28), .val (.ref b29), .val (.long (0 : Int64)), .second, .unset] [(.int (3 : Int32))])) _
      refine XS.ifNo X29.here hx rfl (hb hby at_46) rfl (by decide) ?_
      show Steps p.tables e below (T29.setTop (mkF m 49 #[.val (.int p0), .val (.int p1), .val (.int p2), .val (.int p3), .val (.int p4), .val (.int (3 : Int32)), .val (.long (own_s p1)), .second, .val (.long (own_s p2)), .second, .val (.long (own_s p3)), .second, .val (.long (own_s p4)), .second, .val (.ref b28), .val (.ref b29), .val (.long (0 : Int64)), .second, .unset] [])) _
      refine XS.aload X29.here hx rfl (hb hby at_49) rfl rfl ?_
      show Steps p.tables e below (T29.setTop (mkF m 51 #[.val (.int p0), .val (.int p1), .val (.int p2), .val (.int p3), .val (.int p4), .val (.int (3 : Int32)), .val (.long (own_s p1)), .second, .val (.long (own_s p2)), .second, .val (.long (own_s p3)), .second, .val (.long (own_s p4)), .second, .val (.ref b28), .val (.ref b29), .val (.long (0 : Int64)), .second, .unset] [(.ref b28)])) _
      refine XS.iconst X29.here hx rfl (hb hby at_51) ?_
      show Steps p.tables e below (T29.setTop (mkF m 52 #[.val (.int p0), .val (.int p1), .val (.int p2), .val (.int p3), .val (.int p4), .val (.int (3 : Int32)), .val (.long (own_s p1)), .second, .val (.long (own_s p2)), .second, .val (.long (own_s p3)), .second, .val (.long (own_s p4)), .second, .val (.ref b28), .val (.ref b29), .val (.long (0 : Int64)), .second, .unset] [(.int (0 : Int32)), (.ref b28)])) _
      refine XS.lload X29.here hx rfl (hb hby at_52) rfl ?_
      show Steps p.tables e below (T29.setTop (mkF m 54 #[.val (.int p0), .val (.int p1), .val (.int p2), .val (.int p3), .val (.int p4), .val (.int (3 : Int32)), .val (.long (own_s p1)), .second, .val (.long (own_s p2)), .second, .val (.long (own_s p3)), .second, .val (.long (own_s p4)), .second, .val (.ref b28), .val (.ref b29), .val (.long (0 : Int64)), .second, .unset] [(.long (own_s p1)), (.int (0 : Int32)), (.ref b28)])) _
      refine XS.l2dS X29.here hx rfl (hb hby at_54) rfl rfl ?_
      show Steps p.tables e below (T29.setTop (mkF m 55 #[.val (.int p0), .val (.int p1), .val (.int p2), .val (.int p3), .val (.int p4), .val (.int (3 : Int32)), .val (.long (own_s p1)), .second, .val (.long (own_s p2)), .second, .val (.long (own_s p3)), .second, .val (.long (own_s p4)), .second, .val (.ref b28), .val (.ref b29), .val (.long (0 : Int64)), .second, .unset] [(.double (FP.l2d (own_s p1))), (.int (0 : Int32)), (.ref b28)])) _
      refine st31 _ ?_
      show Steps p.tables e below (T31.setTop (mkF m 56 #[.val (.int p0), .val (.int p1), .val (.int p2), .val (.int p3), .val (.int p4), .val (.int (3 : Int32)), .val (.long (own_s p1)), .second, .val (.long (own_s p2)), .second, .val (.long (own_s p3)), .second, .val (.long (own_s p4)), .second, .val (.ref b28), .val (.ref b29), .val (.long (0 : Int64)), .second, .unset] [])) _
      refine XS.aload X31.here hx rfl (hb hby at_56) rfl rfl ?_
      show Steps p.tables e below (T31.setTop (mkF m 58 #[.val (.int p0), .val (.int p1), .val (.int p2), .val (.int p3), .val (.int p4), .val (.int (3 : Int32)), .val (.long (own_s p1)), .second, .val (.long (own_s p2)), .second, .val (.long (own_s p3)), .second, .val (.long (own_s p4)), .second, .val (.ref b28), .val (.ref b29), .val (.long (0 : Int64)), .second, .unset] [(.ref b29)])) _
      refine XS.iconst X31.here hx rfl (hb hby at_58) ?_
      show Steps p.tables e below (T31.setTop (mkF m 59 #[.val (.int p0), .val (.int p1), .val (.int p2), .val (.int p3), .val (.int p4), .val (.int (3 : Int32)), .val (.long (own_s p1)), .second, .val (.long (own_s p2)), .second, .val (.long (own_s p3)), .second, .val (.long (own_s p4)), .second, .val (.ref b28), .val (.ref b29), .val (.long (0 : Int64)), .second, .unset] [(.int (0 : Int32)), (.ref b29)])) _
      refine XS.iconst X31.here hx rfl (hb hby at_59) ?_
      show Steps p.tables e below (T31.setTop (mkF m 60 #[.val (.int p0), .val (.int p1), .val (.int p2), .val (.int p3), .val (.int p4), .val (.int (3 : Int32)), .val (.long (own_s p1)), .second, .val (.long (own_s p2)), .second, .val (.long (own_s p3)), .second, .val (.long (own_s p4)), .second, .val (.ref b28), .val (.ref b29), .val (.long (0 : Int64)), .second, .unset] [(.int (0 : Int32)), (.int (0 : Int32)), (.ref b29)])) _
      refine st33 _ ?_
      show Steps p.tables e below (T33.setTop (mkF m 61 #[.val (.int p0), .val (.int p1), .val (.int p2), .val (.int p3), .val (.int p4), .val (.int (3 : Int32)), .val (.long (own_s p1)), .second, .val (.long (own_s p2)), .second, .val (.long (own_s p3)), .second, .val (.long (own_s p4)), .second, .val (.ref b28), .val (.ref b29), .val (.long (0 : Int64)), .second, .unset] [])) _
      refine XS.lload X33.here hx rfl (hb hby at_61) rfl ?_
      show Steps p.tables e below (T33.setTop (mkF m 63 #[.val (.int p0), .val (.int p1), .val (.int p2), .val (.int p3), .val (.int p4), .val (.int (3 : Int32)), .val (.long (own_s p1)), .second, .val (.long (own_s p2)), .second, .val (.long (own_s p3)), .second, .val (.long (own_s p4)), .second, .val (.ref b28), .val (.ref b29), .val (.long (0 : Int64)), .second, .unset] [(.long (0 : Int64))])) _
      refine XS.lload X33.here hx rfl (hb hby at_63) rfl ?_
      show Steps p.tables e below (T33.setTop (mkF m 65 #[.val (.int p0), .val (.int p1), .val (.int p2), .val (.int p3), .val (.int p4), .val (.int (3 : Int32)), .val (.long (own_s p1)), .second, .val (.long (own_s p2)), .second, .val (.long (own_s p3)), .second, .val (.long (own_s p4)), .second, .val (.ref b28), .val (.ref b29), .val (.long (0 : Int64)), .second, .unset] [(.long (own_s p1)), (.long (0 : Int64))])) _
      refine XS.lload X33.here hx rfl (hb hby at_65) rfl ?_
      show Steps p.tables e below (T33.setTop (mkF m 67 #[.val (.int p0), .val (.int p1), .val (.int p2), .val (.int p3), .val (.int p4), .val (.int (3 : Int32)), .val (.long (own_s p1)), .second, .val (.long (own_s p2)), .second, .val (.long (own_s p3)), .second, .val (.long (own_s p4)), .second, .val (.ref b28), .val (.ref b29), .val (.long (0 : Int64)), .second, .unset] [(.long (own_s p1)), (.long (own_s p1)), (.long (0 : Int64))])) _
      refine XS.lmul X33.here hx rfl (hb hby at_67) rfl ?_
      show Steps p.tables e below (T33.setTop (mkF m 68 #[.val (.int p0), .val (.int p1), .val (.int p2), .val (.int p3), .val (.int p4), .val (.int (3 : Int32)), .val (.long (own_s p1)), .second, .val (.long (own_s p2)), .second, .val (.long (own_s p3)), .second, .val (.long (own_s p4)), .second, .val (.ref b28), .val (.ref b29), .val (.long (0 : Int64)), .second, .unset] [(.long ((own_s p1) * (own_s p1))), (.long (0 : Int64))])) _
      refine XS.ladd X33.here hx rfl (hb hby at_68) rfl ?_
      show Steps p.tables e below (T33.setTop (mkF m 69 #[.val (.int p0), .val (.int p1), .val (.int p2), .val (.int p3), .val (.int p4), .val (.int (3 : Int32)), .val (.long (own_s p1)), .second, .val (.long (own_s p2)), .second, .val (.long (own_s p3)), .second, .val (.long (own_s p4)), .second, .val (.ref b28), .val (.ref b29), .val (.long (0 : Int64)), .second, .unset] [(.long ((0 : Int64) + ((own_s p1) * (own_s p1))))])) _
      refine XS.lstore X33.here hx rfl (hb hby at_69) rfl (l' := #[.val (.int p0), .val (.int p1), .val (.int p2), .val (.int p3), .val (.int p4), .val (.int (3 : Int32)), .val (.long (own_s p1)), .second, .val (.long (own_s p2)), .second, .val (.long (own_s p3)), .second, .val (.long (own_s p4)), .second, .val (.ref b28), .val (.ref b29), .val (.long ((0 : Int64) + ((own_s p1) * (own_s p1)))), .second, .unset]) rfl ?_
      show Steps p.tables e below (T33.setTop (mkF m 71 #[.val (.int p0), .val (.int p1), .val (.int p2), .val (.int p3), .val (.int p4), .val (.int (3 : Int32)), .val (.long (own_s p1)), .second, .val (.long (own_s p2)), .second, .val (.long (own_s p3)), .second, .val (.long (own_s p4)), .second, .val (.ref b28), .val (.ref b29), .val (.long ((0 : Int64) + ((own_s p1) * (own_s p1)))), .second, .unset] [])) _
      refine XS.iload X33.here hx rfl (hb hby at_71) rfl ?_
      show Steps p.tables e below (T33.setTop (mkF m 73 #[.val (.int p0), .val (.int p1), .val (.int p2), .val (.int p3), .val (.int p4), .val (.int (3 : Int32)), .val (.long (own_s p1)), .second, .val (.long (own_s p2)), .second, .val (.long (own_s p3)), .second, .val (.long (own_s p4)), .second, .val (.ref b28), .val (.ref b29), .val (.long ((0 : Int64) + ((own_s p1) * (own_s p1)))), .second, .unset] [(.int (3 : Int32))])) _
      refine XS.iconst X33.here hx rfl (hb hby at_73) ?_
      show Steps p.tables e below (T33.setTop (mkF m 74 #[.val (.int p0), .val (.int p1), .val (.int p2), .val (.int p3), .val (.int p4), .val (.int (3 : Int32)), .val (.long (own_s p1)), .second, .val (.long (own_s p2)), .second, .val (.long (own_s p3)), .second, .val (.long (own_s p4)), .second, .val (.ref b28), .val (.ref b29), .val (.long ((0 : Int64) + ((own_s p1) * (own_s p1)))), .second, .unset] [(.int (1 : Int32)), (.int (3 : Int32))])) _
      refine XS.icmpNo X33.here hx rfl (hb hby at_74) rfl (by decide) ?_
      show Steps p.tables e below (T33.setTop (mkF m 77 #[.val (.int p0), .val (.int p1), .val (.int p2), .val (.int p3), .val (.int p4), .val (.int (3 : Int32)), .val (.long (own_s p1)), .second, .val (.long (own_s p2)), .second, .val (.long (own_s p3)), .second, .val (.long (own_s p4)), .second, .val (.ref b28), .val (.ref b29), .val (.long ((0 : Int64) + ((own_s p1) * (own_s p1)))), .second, .unset] [])) _
      refine XS.aload X33.here hx rfl (hb hby at_77) rfl rfl ?_
      show Steps p.tables e below (T33.setTop (mkF m 79 #[.val (.int p0), .val (.int p1), .val (.int p2), .val (.int p3), .val (.int p4), .val (.int (3 : Int32)), .val (.long (own_s p1)), .second, .val (.long (own_s p2)), .second, .val (.long (own_s p3)), .second, .val (.long (own_s p4)), .second, .val (.ref b28), .val (.ref b29), .val (.long ((0 : Int64) + ((own_s p1) * (own_s p1)))), .second, .unset] [(.ref b28)])) _
      refine XS.iconst X33.here hx rfl (hb hby at_79) ?_
      show Steps p.tables e below (T33.setTop (mkF m 80 #[.val (.int p0), .val (.int p1), .val (.int p2), .val (.int p3), .val (.int p4), .val (.int (3 : Int32)), .val (.long (own_s p1)), .second, .val (.long (own_s p2)), .second, .val (.long (own_s p3)), .second, .val (.long (own_s p4)), .second, .val (.ref b28), .val (.ref b29), .val (.long ((0 : Int64) + ((own_s p1) * (own_s p1)))), .second, .unset] [(.int (1 : Int32)), (.ref b28)])) _
      refine XS.lload X33.here hx rfl (hb hby at_80) rfl ?_
      show Steps p.tables e below (T33.setTop (mkF m 82 #[.val (.int p0), .val (.int p1), .val (.int p2), .val (.int p3), .val (.int p4), .val (.int (3 : Int32)), .val (.long (own_s p1)), .second, .val (.long (own_s p2)), .second, .val (.long (own_s p3)), .second, .val (.long (own_s p4)), .second, .val (.ref b28), .val (.ref b29), .val (.long ((0 : Int64) + ((own_s p1) * (own_s p1)))), .second, .unset] [(.long (own_s p2)), (.int (1 : Int32)), (.ref b28)])) _
      refine XS.l2dS X33.here hx rfl (hb hby at_82) rfl rfl ?_
      show Steps p.tables e below (T33.setTop (mkF m 83 #[.val (.int p0), .val (.int p1), .val (.int p2), .val (.int p3), .val (.int p4), .val (.int (3 : Int32)), .val (.long (own_s p1)), .second, .val (.long (own_s p2)), .second, .val (.long (own_s p3)), .second, .val (.long (own_s p4)), .second, .val (.ref b28), .val (.ref b29), .val (.long ((0 : Int64) + ((own_s p1) * (own_s p1)))), .second, .unset] [(.double (FP.l2d (own_s p2))), (.int (1 : Int32)), (.ref b28)])) _
      refine st35 _ ?_
      show Steps p.tables e below (T35.setTop (mkF m 84 #[.val (.int p0), .val (.int p1), .val (.int p2), .val (.int p3), .val (.int p4), .val (.int (3 : Int32)), .val (.long (own_s p1)), .second, .val (.long (own_s p2)), .second, .val (.long (own_s p3)), .second, .val (.long (own_s p4)), .second, .val (.ref b28), .val (.ref b29), .val (.long ((0 : Int64) + ((own_s p1) * (own_s p1)))), .second, .unset] [])) _
      refine XS.aload X35.here hx rfl (hb hby at_84) rfl rfl ?_
      show Steps p.tables e below (T35.setTop (mkF m 86 #[.val (.int p0), .val (.int p1), .val (.int p2), .val (.int p3), .val (.int p4), .val (.int (3 : Int32)), .val (.long (own_s p1)), .second, .val (.long (own_s p2)), .second, .val (.long (own_s p3)), .second, .val (.long (own_s p4)), .second, .val (.ref b28), .val (.ref b29), .val (.long ((0 : Int64) + ((own_s p1) * (own_s p1)))), .second, .unset] [(.ref b29)])) _
      refine XS.iconst X35.here hx rfl (hb hby at_86) ?_
      show Steps p.tables e below (T35.setTop (mkF m 87 #[.val (.int p0), .val (.int p1), .val (.int p2), .val (.int p3), .val (.int p4), .val (.int (3 : Int32)), .val (.long (own_s p1)), .second, .val (.long (own_s p2)), .second, .val (.long (own_s p3)), .second, .val (.long (own_s p4)), .second, .val (.ref b28), .val (.ref b29), .val (.long ((0 : Int64) + ((own_s p1) * (own_s p1)))), .second, .unset] [(.int (1 : Int32)), (.ref b29)])) _
      refine XS.iconst X35.here hx rfl (hb hby at_87) ?_
      show Steps p.tables e below (T35.setTop (mkF m 88 #[.val (.int p0), .val (.int p1), .val (.int p2), .val (.int p3), .val (.int p4), .val (.int (3 : Int32)), .val (.long (own_s p1)), .second, .val (.long (own_s p2)), .second, .val (.long (own_s p3)), .second, .val (.long (own_s p4)), .second, .val (.ref b28), .val (.ref b29), .val (.long ((0 : Int64) + ((own_s p1) * (own_s p1)))), .second, .unset] [(.int (1 : Int32)), (.int (1 : Int32)), (.ref b29)])) _
      refine st37 _ ?_
      show Steps p.tables e below (T37.setTop (mkF m 89 #[.val (.int p0), .val (.int p1), .val (.int p2), .val (.int p3), .val (.int p4), .val (.int (3 : Int32)), .val (.long (own_s p1)), .second, .val (.long (own_s p2)), .second, .val (.long (own_s p3)), .second, .val (.long (own_s p4)), .second, .val (.ref b28), .val (.ref b29), .val (.long ((0 : Int64) + ((own_s p1) * (own_s p1)))), .second, .unset] [])) _
      refine XS.lload X37.here hx rfl (hb hby at_89) rfl ?_
      show Steps p.tables e below (T37.setTop (mkF m 91 #[.val (.int p0), .val (.int p1), .val (.int p2), .val (.int p3), .val (.int p4), .val (.int (3 : Int32)), .val (.long (own_s p1)), .second, .val (.long (own_s p2)), .second, .val (.long (own_s p3)), .second, .val (.long (own_s p4)), .second, .val (.ref b28), .val (.ref b29), .val (.long ((0 : Int64) + ((own_s p1) * (own_s p1)))), .second, .unset] [(.long ((0 : Int64) + ((own_s p1) * (own_s p1))))])) _
      refine XS.lload X37.here hx rfl (hb hby at_91) rfl ?_
      show Steps p.tables e below (T37.setTop (mkF m 93 #[.val (.int p0), .val (.int p1), .val (.int p2), .val (.int p3), .val (.int p4), .val (.int (3 : Int32)), .val (.long (own_s p1)), .second, .val (.long (own_s p2)), .second, .val (.long (own_s p3)), .second, .val (.long (own_s p4)), .second, .val (.ref b28), .val (.ref b29), .val (.long ((0 : Int64) + ((own_s p1) * (own_s p1)))), .second, .unset] [(.long (own_s p2)), (.long ((0 : Int64) + ((own_s p1) * (own_s p1))))])) _
      refine XS.lload X37.here hx rfl (hb hby at_93) rfl ?_
      show Steps p.tables e below (T37.setTop (mkF m 95 #[.val (.int p0), .val (.int p1), .val (.int p2), .val (.int p3), .val (.int p4), .val (.int (3 : Int32)), .val (.long (own_s p1)), .second, .val (.long (own_s p2)), .second, .val (.long (own_s p3)), .second, .val (.long (own_s p4)), .second, .val (.ref b28), .val (.ref b29), .val (.long ((0 : Int64) + ((own_s p1) * (own_s p1)))), .second, .unset] [(.long (own_s p2)), (.long (own_s p2)), (.long ((0 : Int64) + ((own_s p1) * (own_s p1))))])) _
      refine XS.lmul X37.here hx rfl (hb hby at_95) rfl ?_
      show Steps p.tables e below (T37.setTop (mkF m 96 #[.val (.int p0), .val (.int p1), .val (.int p2), .val (.int p3), .val (.int p4), .val (.int (3 : Int32)), .val (.long (own_s p1)), .second, .val (.long (own_s p2)), .second, .val (.long (own_s p3)), .second, .val (.long (own_s p4)), .second, .val (.ref b28), .val (.ref b29), .val (.long ((0 : Int64) + ((own_s p1) * (own_s p1)))), .second, .unset] [(.long ((own_s p2) * (own_s p2))), (.long ((0 : Int64) + ((own_s p1) * (own_s p1))))])) _
      refine XS.ladd X37.here hx rfl (hb hby at_96) rfl ?_
      show Steps p.tables e below (T37.setTop (mkF m 97 #[.val (.int p0), .val (.int p1), .val (.int p2), .val (.int p3), .val (.int p4), .val (.int (3 : Int32)), .val (.long (own_s p1)), .second, .val (.long (own_s p2)), .second, .val (.long (own_s p3)), .second, .val (.long (own_s p4)), .second, .val (.ref b28), .val (.ref b29), .val (.long ((0 : Int64) + ((own_s p1) * (own_s p1)))), .second, .unset] [(.long (((0 : Int64) + ((own_s p1) * (own_s p1))) + ((own_s p2) * (own_s p2))))])) _
      refine XS.lstore X37.here hx rfl (hb hby at_97) rfl (l' := #[.val (.int p0), .val (.int p1), .val (.int p2), .val (.int p3), .val (.int p4), .val (.int (3 : Int32)), .val (.long (own_s p1)), .second, .val (.long (own_s p2)), .second, .val (.long (own_s p3)), .second, .val (.long (own_s p4)), .second, .val (.ref b28), .val (.ref b29), .val (.long (((0 : Int64) + ((own_s p1) * (own_s p1))) + ((own_s p2) * (own_s p2)))), .second, .unset]) rfl ?_
      show Steps p.tables e below (T37.setTop (mkF m 99 #[.val (.int p0), .val (.int p1), .val (.int p2), .val (.int p3), .val (.int p4), .val (.int (3 : Int32)), .val (.long (own_s p1)), .second, .val (.long (own_s p2)), .second, .val (.long (own_s p3)), .second, .val (.long (own_s p4)), .second, .val (.ref b28), .val (.ref b29), .val (.long (((0 : Int64) + ((own_s p1) * (own_s p1))) + ((own_s p2) * (own_s p2)))), .second, .unset] [])) _
      refine XS.iload X37.here hx rfl (hb hby at_99) rfl ?_
      show Steps p.tables e below (T37.setTop (mkF m 101 #[.val (.int p0), .val (.int p1), .val (.int p2), .val (.int p3), .val (.int p4), .val (.int (3 : Int32)), .val (.long (own_s p1)), .second, .val (.long (own_s p2)), .second, .val (.long (own_s p3)), .second, .val (.long (own_s p4)), .second, .val (.ref b28), .val (.ref b29), .val (.long (((0 : Int64) + ((own_s p1) * (own_s p1))) + ((own_s p2) * (own_s p2)))), .second, .unset] [(.int (3 : Int32))])) _
      refine XS.iconst X37.here hx rfl (hb hby at_101) ?_
      show Steps p.tables e below (T37.setTop (mkF m 102 #[.val (.int p0), .val (.int p1), .val (.int p2), .val (.int p3), .val (.int p4), .val (.int (3 : Int32)), .val (.long (own_s p1)), .second, .val (.long (own_s p2)), .second, .val (.long (own_s p3)), .second, .val (.long (own_s p4)), .second, .val (.ref b28), .val (.ref b29), .val (.long (((0 : Int64) + ((own_s p1) * (own_s p1))) + ((own_s p2) * (own_s p2)))), .second, .unset] [(.int (2 : Int32)), (.int (3 : Int32))])) _
      refine XS.icmpNo X37.here hx rfl (hb hby at_102) rfl (by decide) ?_
      show Steps p.tables e below (T37.setTop (mkF m 105 #[.val (.int p0), .val (.int p1), .val (.int p2), .val (.int p3), .val (.int p4), .val (.int (3 : Int32)), .val (.long (own_s p1)), .second, .val (.long (own_s p2)), .second, .val (.long (own_s p3)), .second, .val (.long (own_s p4)), .second, .val (.ref b28), .val (.ref b29), .val (.long (((0 : Int64) + ((own_s p1) * (own_s p1))) + ((own_s p2) * (own_s p2)))), .second, .unset] [])) _
      refine XS.aload X37.here hx rfl (hb hby at_105) rfl rfl ?_
      show Steps p.tables e below (T37.setTop (mkF m 107 #[.val (.int p0), .val (.int p1), .val (.int p2), .val (.int p3), .val (.int p4), .val (.int (3 : Int32)), .val (.long (own_s p1)), .second, .val (.long (own_s p2)), .second, .val (.long (own_s p3)), .second, .val (.long (own_s p4)), .second, .val (.ref b28), .val (.ref b29), .val (.long (((0 : Int64) + ((own_s p1) * (own_s p1))) + ((own_s p2) * (own_s p2)))), .second, .unset] [(.ref b28)])) _
      refine XS.iconst X37.here hx rfl (hb hby at_107) ?_
      show Steps p.tables e below (T37.setTop (mkF m 108 #[.val (.int p0), .val (.int p1), .val (.int p2), .val (.int p3), .val (.int p4), .val (.int (3 : Int32)), .val (.long (own_s p1)), .second, .val (.long (own_s p2)), .second, .val (.long (own_s p3)), .second, .val (.long (own_s p4)), .second, .val (.ref b28), .val (.ref b29), .val (.long (((0 : Int64) + ((own_s p1) * (own_s p1))) + ((own_s p2) * (own_s p2)))), .second, .unset] [(.int (2 : Int32)), (.ref b28)])) _
      refine XS.lload X37.here hx rfl (hb hby at_108) rfl ?_
      show Steps p.tables e below (T37.setTop (mkF m 110 #[.val (.int p0), .val (.int p1), .val (.int p2), .val (.int p3), .val (.int p4), .val (.int (3 : Int32)), .val (.long (own_s p1)), .second, .val (.long (own_s p2)), .second, .val (.long (own_s p3)), .second, .val (.long (own_s p4)), .second, .val (.ref b28), .val (.ref b29), .val (.long (((0 : Int64) + ((own_s p1) * (own_s p1))) + ((own_s p2) * (own_s p2)))), .second, .unset] [(.long (own_s p3)), (.int (2 : Int32)), (.ref b28)])) _
      refine XS.l2dS X37.here hx rfl (hb hby at_110) rfl rfl ?_
      show Steps p.tables e below (T37.setTop (mkF m 111 #[.val (.int p0), .val (.int p1), .val (.int p2), .val (.int p3), .val (.int p4), .val (.int (3 : Int32)), .val (.long (own_s p1)), .second, .val (.long (own_s p2)), .second, .val (.long (own_s p3)), .second, .val (.long (own_s p4)), .second, .val (.ref b28), .val (.ref b29), .val (.long (((0 : Int64) + ((own_s p1) * (own_s p1))) + ((own_s p2) * (own_s p2)))), .second, .unset] [(.double (FP.l2d (own_s p3))), (.int (2 : Int32)), (.ref b28)])) _
      refine st39 _ ?_
      show Steps p.tables e below (T39.setTop (mkF m 112 #[.val (.int p0), .val (.int p1), .val (.int p2), .val (.int p3), .val (.int p4), .val (.int (3 : Int32)), .val (.long (own_s p1)), .second, .val (.long (own_s p2)), .second, .val (.long (own_s p3)), .second, .val (.long (own_s p4)), .second, .val (.ref b28), .val (.ref b29), .val (.long (((0 : Int64) + ((own_s p1) * (own_s p1))) + ((own_s p2) * (own_s p2)))), .second, .unset] [])) _
      refine XS.aload X39.here hx rfl (hb hby at_112) rfl rfl ?_
      show Steps p.tables e below (T39.setTop (mkF m 114 #[.val (.int p0), .val (.int p1), .val (.int p2), .val (.int p3), .val (.int p4), .val (.int (3 : Int32)), .val (.long (own_s p1)), .second, .val (.long (own_s p2)), .second, .val (.long (own_s p3)), .second, .val (.long (own_s p4)), .second, .val (.ref b28), .val (.ref b29), .val (.long (((0 : Int64) + ((own_s p1) * (own_s p1))) + ((own_s p2) * (own_s p2)))), .second, .unset] [(.ref b29)])) _
      refine XS.iconst X39.here hx rfl (hb hby at_114) ?_
      show Steps p.tables e below (T39.setTop (mkF m 115 #[.val (.int p0), .val (.int p1), .val (.int p2), .val (.int p3), .val (.int p4), .val (.int (3 : Int32)), .val (.long (own_s p1)), .second, .val (.long (own_s p2)), .second, .val (.long (own_s p3)), .second, .val (.long (own_s p4)), .second, .val (.ref b28), .val (.ref b29), .val (.long (((0 : Int64) + ((own_s p1) * (own_s p1))) + ((own_s p2) * (own_s p2)))), .second, .unset] [(.int (2 : Int32)), (.ref b29)])) _
      refine XS.iconst X39.here hx rfl (hb hby at_115) ?_
      show Steps p.tables e below (T39.setTop (mkF m 116 #[.val (.int p0), .val (.int p1), .val (.int p2), .val (.int p3), .val (.int p4), .val (.int (3 : Int32)), .val (.long (own_s p1)), .second, .val (.long (own_s p2)), .second, .val (.long (own_s p3)), .second, .val (.long (own_s p4)), .second, .val (.ref b28), .val (.ref b29), .val (.long (((0 : Int64) + ((own_s p1) * (own_s p1))) + ((own_s p2) * (own_s p2)))), .second, .unset] [(.int (2 : Int32)), (.int (2 : Int32)), (.ref b29)])) _
      refine st41 _ ?_
      show Steps p.tables e below (T41.setTop (mkF m 117 #[.val (.int p0), .val (.int p1), .val (.int p2), .val (.int p3), .val (.int p4), .val (.int (3 : Int32)), .val (.long (own_s p1)), .second, .val (.long (own_s p2)), .second, .val (.long (own_s p3)), .second, .val (.long (own_s p4)), .second, .val (.ref b28), .val (.ref b29), .val (.long (((0 : Int64) + ((own_s p1) * (own_s p1))) + ((own_s p2) * (own_s p2)))), .second, .unset] [])) _
      refine XS.lload X41.here hx rfl (hb hby at_117) rfl ?_
      show Steps p.tables e below (T41.setTop (mkF m 119 #[.val (.int p0), .val (.int p1), .val (.int p2), .val (.int p3), .val (.int p4), .val (.int (3 : Int32)), .val (.long (own_s p1)), .second, .val (.long (own_s p2)), .second, .val (.long (own_s p3)), .second, .val (.long (own_s p4)), .second, .val (.ref b28), .val (.ref b29), .val (.long (((0 : Int64) + ((own_s p1) * (own_s p1))) + ((own_s p2) * (own_s p2)))), .second, .unset] [(.long (((0 : Int64) + ((own_s p1) * (own_s p1))) + ((own_s p2) * (own_s p2))))])) _
      refine XS.lload X41.here hx rfl (hb hby at_119) rfl ?_
      show Steps p.tables e below (T41.setTop (mkF m 121 #[.val (.int p0), .val (.int p1), .val (.int p2), .val (.int p3), .val (.int p4), .val (.int (3 : Int32)), .val (.long (own_s p1)), .second, .val (.long (own_s p2)), .second, .val (.long (own_s p3)), .second, .val (.long (own_s p4)), .second, .val (.ref b28), .val (.ref b29), .val (.long (((0 : Int64) + ((own_s p1) * (own_s p1))) + ((own_s p2) * (own_s p2)))), .second, .unset] [(.long (own_s p3)), (.long (((0 : Int64) + ((own_s p1) * (own_s p1))) + ((own_s p2) * (own_s p2))))])) _
      refine XS.lload X41.here hx rfl (hb hby at_121) rfl ?_
      show Steps p.tables e below (T41.setTop (mkF m 123 #[.val (.int p0), .val (.int p1), .val (.int p2), .val (.int p3), .val (.int p4), .val (.int (3 : Int32)), .val (.long (own_s p1)), .second, .val (.long (own_s p2)), .second, .val (.long (own_s p3)), .second, .val (.long (own_s p4)), .second, .val (.ref b28), .val (.ref b29), .val (.long (((0 : Int64) + ((own_s p1) * (own_s p1))) + ((own_s p2) * (own_s p2)))), .second, .unset] [(.long (own_s p3)), (.long (own_s p3)), (.long (((0 : Int64) + ((own_s p1) * (own_s p1))) + ((own_s p2) * (own_s p2))))])) _
      refine XS.lmul X41.here hx rfl (hb hby at_123) rfl ?_
      show Steps p.tables e below (T41.setTop (mkF m 124 #[.val (.int p0), .val (.int p1), .val (.int p2), .val (.int p3), .val (.int p4), .val (.int (3 : Int32)), .val (.long (own_s p1)), .second, .val (.long (own_s p2)), .second, .val (.long (own_s p3)), .second, .val (.long (own_s p4)), .second, .val (.ref b28), .val (.ref b29), .val (.long (((0 : Int64) + ((own_s p1) * (own_s p1))) + ((own_s p2) * (own_s p2)))), .second, .unset] [(.long ((own_s p3) * (own_s p3))), (.long (((0 : Int64) + ((own_s p1) * (own_s p1))) + ((own_s p2) * (own_s p2))))])) _
      refine XS.ladd X41.here hx rfl (hb hby at_124) rfl ?_
      show Steps p.tables e below (T41.setTop (mkF m 125 #[.val (.int p0), .val (.int p1), .val (.int p2), .val (.int p3), .val (.int p4), .val (.int (3 : Int32)), .val (.long (own_s p1)), .second, .val (.long (own_s p2)), .second, .val (.long (own_s p3)), .second, .val (.long (own_s p4)), .second, .val (.ref b28), .val (.ref b29), .val (.long (((0 : Int64) + ((own_s p1) * (own_s p1))) + ((own_s p2) * (own_s p2)))), .second, .unset] [(.long ((((0 : Int64) + ((own_s p1) * (own_s p1))) + ((own_s p2) * (own_s p2))) + ((own_s p3) * (own_s p3))))])) _
      refine XS.lstore X41.here hx rfl (hb hby at_125) rfl (l' := #[.val (.int p0), .val (.int p1), .val (.int p2), .val (.int p3), .val (.int p4), .val (.int (3 : Int32)), .val (.long (own_s p1)), .second, .val (.long (own_s p2)), .second, .val (.long (own_s p3)), .second, .val (.long (own_s p4)), .second, .val (.ref b28), .val (.ref b29), .val (.long ((((0 : Int64) + ((own_s p1) * (own_s p1))) + ((own_s p2) * (own_s p2))) + ((own_s p3) * (own_s p3)))), .second, .unset]) rfl ?_
      show Steps p.tables e below (T41.setTop (mkF m 127 #[.val (.int p0), .val (.int p1), .val (.int p2), .val (.int p3), .val (.int p4), .val (.int (3 : Int32)), .val (.long (own_s p1)), .second, .val (.long (own_s p2)), .second, .val (.long (own_s p3)), .second, .val (.long (own_s p4)), .second, .val (.ref b28), .val (.ref b29), .val (.long ((((0 : Int64) + ((own_s p1) * (own_s p1))) + ((own_s p2) * (own_s p2))) + ((own_s p3) * (own_s p3)))), .second, .unset] [])) _
      refine XS.iload X41.here hx rfl (hb hby at_127) rfl ?_
      show Steps p.tables e below (T41.setTop (mkF m 129 #[.val (.int p0), .val (.int p1), .val (.int p2), .val (.int p3), .val (.int p4), .val (.int (3 : Int32)), .val (.long (own_s p1)), .second, .val (.long (own_s p2)), .second, .val (.long (own_s p3)), .second, .val (.long (own_s p4)), .second, .val (.ref b28), .val (.ref b29), .val (.long ((((0 : Int64) + ((own_s p1) * (own_s p1))) + ((own_s p2) * (own_s p2))) + ((own_s p3) * (own_s p3)))), .second, .unset] [(.int (3 : Int32))])) _
      refine XS.iconst X41.here hx rfl (hb hby at_129) ?_
      show Steps p.tables e below (T41.setTop (mkF m 130 #[.val (.int p0), .val (.int p1), .val (.int p2), .val (.int p3), .val (.int p4), .val (.int (3 : Int32)), .val (.long (own_s p1)), .second, .val (.long (own_s p2)), .second, .val (.long (own_s p3)), .second, .val (.long (own_s p4)), .second, .val (.ref b28), .val (.ref b29), .val (.long ((((0 : Int64) + ((own_s p1) * (own_s p1))) + ((own_s p2) * (own_s p2))) + ((own_s p3) * (own_s p3)))), .second, .unset] [(.int (3 : Int32)), (.int (3 : Int32))])) _
      refine XS.icmpYes X41.here hx rfl (pc0 := 130) (pc' := 155) rfl (hb hby at_130) rfl (by decide) (by decide) (by decide) ?_
      show Steps p.tables e below (T41.setTop (mkF m 155 #[.val (.int p0), .val (.int p1), .val (.int p2), .val (.int p3), .val (.int p4), .val (.int (3 : Int32)), .val (.long (own_s p1)), .second, .val (.long (own_s p2)), .second, .val (.long (own_s p3)), .second, .val (.long (own_s p4)), .second, .val (.ref b28), .val (.ref b29), .val (.long ((((0 : Int64) + ((own_s p1) * (own_s p1))) + ((own_s p2) * (own_s p2))) + ((own_s p3) * (own_s p3)))), .second, .unset] [])) _
      refine st42 _ ?_
      show Steps p.tables e below (T42.setTop (mkF m 158 #[.val (.int p0), .val (.int p1), .val (.int p2), .val (.int p3), .val (.int p4), .val (.int (3 : Int32)), .val (.long (own_s p1)), .second, .val (.long (own_s p2)), .second, .val (.long (own_s p3)), .second, .val (.long (own_s p4)), .second, .val (.ref b28), .val (.ref b29), .val (.long ((((0 : Int64) + ((own_s p1) * (own_s p1))) + ((own_s p2) * (own_s p2))) + ((own_s p3) * (own_s p3)))), .second, .unset] [(.ref b42)])) _
      refine XS.dup X42.here hx rfl (hb hby at_158) rfl rfl ?_
      show Steps p.tables e below (T42.setTop (mkF m 159 #[.val (.int p0), .val (.int p1), .val (.int p2), .val (.int p3), .val (.int p4), .val (.int (3 : Int32)), .val (.long (own_s p1)), .second, .val (.long (own_s p2)), .second, .val (.long (own_s p3)), .second, .val (.long (own_s p4)), .second, .val (.ref b28), .val (.ref b29), .val (.long ((((0 : Int64) + ((own_s p1) * (own_s p1))) + ((own_s p2) * (own_s p2))) + ((own_s p3) * (own_s p3)))), .second, .unset] [(.ref b42), (.ref b42)])) _
      refine XS.aload X42.here hx rfl (hb hby at_159) rfl rfl ?_
      show Steps p.tables e below (T42.setTop (mkF m 161 #[.val (.int p0), .val (.int p1), .val (.int p2), .val (.int p3), .val (.int p4), .val (.int (3 : Int32)), .val (.long (own_s p1)), .second, .val (.long (own_s p2)), .second, .val (.long (own_s p3)), .second, .val (.long (own_s p4)), .second, .val (.ref b28), .val (.ref b29), .val (.long ((((0 : Int64) + ((own_s p1) * (own_s p1))) + ((own_s p2) * (own_s p2))) + ((own_s p3) * (own_s p3)))), .second, .unset] [(.ref b29), (.ref b42), (.ref b42)])) _
      refine XS.aload X42.here hx rfl (hb hby at_161) rfl rfl ?_
      show Steps p.tables e below (T42.setTop (mkF m 163 #[.val (.int p0), .val (.int p1), .val (.int p2), .val (.int p3), .val (.int p4), .val (.int (3 : Int32)), .val (.long (own_s p1)), .second, .val (.long (own_s p2)), .second, .val (.long (own_s p3)), .second, .val (.long (own_s p4)), .second, .val (.ref b28), .val (.ref b29), .val (.long ((((0 : Int64) + ((own_s p1) * (own_s p1))) + ((own_s p2) * (own_s p2))) + ((own_s p3) * (own_s p3)))), .second, .unset] [(.ref b28), (.ref b29), (.ref b42), (.ref b42)])) _
      refine st43.trans ?_
      show Steps p.tables e below (T43.setTop (mkF m 166 #[.val (.int p0), .val (.int p1), .val (.int p2), .val (.int p3), .val (.int p4), .val (.int (3 : Int32)), .val (.long (own_s p1)), .second, .val (.long (own_s p2)), .second, .val (.long (own_s p3)), .second, .val (.long (own_s p4)), .second, .val (.ref b28), .val (.ref b29), .val (.long ((((0 : Int64) + ((own_s p1) * (own_s p1))) + ((own_s p2) * (own_s p2))) + ((own_s p3) * (own_s p3)))), .second, .unset] [(.ref b42)])) _
      refine XS.astore X43.here hx rfl (hb hby at_166) rfl rfl (l' := #[.val (.int p0), .val (.int p1), .val (.int p2), .val (.int p3), .val (.int p4), .val (.int (3 : Int32)), .val (.long (own_s p1)), .second, .val (.long (own_s p2)), .second, .val (.long (own_s p3)), .second, .val (.long (own_s p4)), .second, .val (.ref b28), .val (.ref b29), .val (.long ((((0 : Int64) + ((own_s p1) * (own_s p1))) + ((own_s p2) * (own_s p2))) + ((own_s p3) * (own_s p3)))), .second, .val (.ref b42)]) rfl ?_
      show Steps p.tables e below (T43.setTop (mkF m 168 #[.val (.int p0), .val (.int p1), .val (.int p2), .val (.int p3), .val (.int p4), .val (.int (3 : Int32)), .val (.long (own_s p1)), .second, .val (.long (own_s p2)), .second, .val (.long (own_s p3)), .second, .val (.long (own_s p4)), .second, .val (.ref b28), .val (.ref b29), .val (.long ((((0 : Int64) + ((own_s p1) * (own_s p1))) + ((own_s p2) * (own_s p2))) + ((own_s p3) * (own_s p3)))), .second, .val (.ref b42)] [])) _
      refine XS.aload X43.here hx rfl (hb hby at_168) rfl rfl ?_
      show Steps p.tables e below (T43.setTop (mkF m 170 #[.val (.int p0), .val (.int p1), .val (.int p2), .val (.int p3), .val (.int p4), .val (.int (3 : Int32)), .val (.long (own_s p1)), .second, .val (.long (own_s p2)), .second, .val (.long (own_s p3)), .second, .val (.long (own_s p4)), .second, .val (.ref b28), .val (.ref b29), .val (.long ((((0 : Int64) + ((own_s p1) * (own_s p1))) + ((own_s p2) * (own_s p2))) + ((own_s p3) * (own_s p3)))), .second, .val (.ref b42)] [(.ref b42)])) _
      refine st44.trans ?_
      show Steps p.tables e below (T44.setTop (mkF m 173 #[.val (.int p0), .val (.int p1), .val (.int p2), .val (.int p3), .val (.int p4), .val (.int (3 : Int32)), .val (.long (own_s p1)), .second, .val (.long (own_s p2)), .second, .val (.long (own_s p3)), .second, .val (.long (own_s p4)), .second, .val (.ref b28), .val (.ref b29), .val (.long ((((0 : Int64) + ((own_s p1) * (own_s p1))) + ((own_s p2) * (own_s p2))) + ((own_s p3) * (own_s p3)))), .second, .val (.ref b42)] [(.double (FP.l2d ((((0 : Int64) + ((own_s p1) * (own_s p1))) + ((own_s p2) * (own_s p2))) + ((own_s p3) * (own_s p3)))))])) _
      refine XS.lload X44.here hx rfl (hb hby at_173) rfl ?_
      show Steps p.tables e below (T44.setTop (mkF m 175 #[.val (.int p0), .val (.int p1), .val (.int p2), .val (.int p3), .val (.int p4), .val (.int (3 : Int32)), .val (.long (own_s p1)), .second, .val (.long (own_s p2)), .second, .val (.long (own_s p3)), .second, .val (.long (own_s p4)), .second, .val (.ref b28), .val (.ref b29), .val (.long ((((0 : Int64) + ((own_s p1) * (own_s p1))) + ((own_s p2) * (own_s p2))) + ((own_s p3) * (own_s p3)))), .second, .val (.ref b42)] [(.long ((((0 : Int64) + ((own_s p1) * (own_s p1))) + ((own_s p2) * (own_s p2))) + ((own_s p3) * (own_s p3)))), (.double (FP.l2d ((((0 : Int64) + ((own_s p1) * (own_s p1))) + ((own_s p2) * (own_s p2))) + ((own_s p3) * (own_s p3)))))])) _
      refine XS.l2dS X44.here hx rfl (hb hby at_175) rfl rfl ?_
      show Steps p.tables e below (T44.setTop (mkF m 176 #[.val (.int p0), .val (.int p1), .val (.int p2), .val (.int p3), .val (.int p4), .val (.int (3 : Int32)), .val (.long (own_s p1)), .second, .val (.long (own_s p2)), .second, .val (.long (own_s p3)), .second, .val (.long (own_s p4)), .second, .val (.ref b28), .val (.ref b29), .val (.long ((((0 : Int64) + ((own_s p1) * (own_s p1))) + ((own_s p2) * (own_s p2))) + ((own_s p3) * (own_s p3)))), .second, .val (.ref b42)] [(.double (FP.l2d ((((0 : Int64) + ((own_s p1) * (own_s p1))) + ((own_s p2) * (own_s p2))) + ((own_s p3) * (own_s p3))))), (.double (FP.l2d ((((0 : Int64) + ((own_s p1) * (own_s p1))) + ((own_s p2) * (own_s p2))) + ((own_s p3) * (own_s p3)))))])) _
      refine XS.dcmpS X44.here hx rfl (hb hby at_176) rfl rfl ?_
      show Steps p.tables e below (T44.setTop (mkF m 177 #[.val (.int p0), .val (.int p1), .val (.int p2), .val (.int p3), .val (.int p4), .val (.int (3 : Int32)), .val (.long (own_s p1)), .second, .val (.long (own_s p2)), .second, .val (.long (own_s p3)), .second, .val (.long (own_s p4)), .second, .val (.ref b28), .val (.ref b29), .val (.long ((((0 : Int64) + ((own_s p1) * (own_s p1))) + ((own_s p2) * (own_s p2))) + ((own_s p3) * (own_s p3)))), .second, .val (.ref b42)] [(.int (cmpValue (FP.dcmp (FP.l2d ((((0 : Int64) + ((own_s p1) * (own_s p1))) + ((own_s p2) * (own_s p2))) + ((own_s p3) * (own_s p3)))) (FP.l2d ((((0 : Int64) + ((own_s p1) * (own_s p1))) + ((own_s p2) * (own_s p2))) + ((own_s p3) * (own_s p3))))) .l))])) _
      refine XS.ifNo X44.here hx rfl (hb hby at_177) rfl (own_end _) ?_
      show Steps p.tables e below (T44.setTop (mkF m 180 #[.val (.int p0), .val (.int p1), .val (.int p2), .val (.int p3), .val (.int p4), .val (.int (3 : Int32)), .val (.long (own_s p1)), .second, .val (.long (own_s p2)), .second, .val (.long (own_s p3)), .second, .val (.long (own_s p4)), .second, .val (.ref b28), .val (.ref b29), .val (.long ((((0 : Int64) + ((own_s p1) * (own_s p1))) + ((own_s p2) * (own_s p2))) + ((own_s p3) * (own_s p3)))), .second, .val (.ref b42)] [])) _
      refine XS.iconst X44.here hx rfl (hb hby at_180) ?_
      show Steps p.tables e below (T44.setTop (mkF m 181 #[.val (.int p0), .val (.int p1), .val (.int p2), .val (.int p3), .val (.int p4), .val (.int (3 : Int32)), .val (.long (own_s p1)), .second, .val (.long (own_s p2)), .second, .val (.long (own_s p3)), .second, .val (.long (own_s p4)), .second, .val (.ref b28), .val (.ref b29), .val (.long ((((0 : Int64) + ((own_s p1) * (own_s p1))) + ((own_s p2) * (own_s p2))) + ((own_s p3) * (own_s p3)))), .second, .val (.ref b42)] [(.int (1 : Int32))])) _
      refine XS.goto X44.here hx rfl (pc0 := 181) (pc' := 185) rfl (hb hby at_181) (by decide) (by decide) ?_
      show Steps p.tables e below (T44.setTop (mkF m 185 #[.val (.int p0), .val (.int p1), .val (.int p2), .val (.int p3), .val (.int p4), .val (.int (3 : Int32)), .val (.long (own_s p1)), .second, .val (.long (own_s p2)), .second, .val (.long (own_s p3)), .second, .val (.long (own_s p4)), .second, .val (.ref b28), .val (.ref b29), .val (.long ((((0 : Int64) + ((own_s p1) * (own_s p1))) + ((own_s p2) * (own_s p2))) + ((own_s p3) * (own_s p3)))), .second, .val (.ref b42)] [(.int (1 : Int32))])) _
      exact retN X44 hx (t := .boolean) Bd.returns (by simp) (hb hby at_185) hr
    · show Q0 Z p0 p1 p2 p3 p4 h0 n0 _ T44.heap _
      rw [eh44]
      exact ⟨rfl, N44⟩
  · obtain ⟨T45, h45, k45, X45, e45, E45, A45, Ax45, st45⟩ := newPE X0 hx hZ (hw _ (List.mem_of_getElem? (i := 0) rfl)) e0 (g := (mkF m 31 #[.val (.int p0), .val (.int p1), .val (.int p2), .val (.int p3), .val (.int p4), .val (.int (4 : Int32)), .val (.long (own_s p1)), .second, .val (.long (own_s p2)), .second, .val (.long (own_s p3)), .second, .val (.long (own_s p4)), .second, .unset, .unset, .unset, .unset, .unset] [(.int (4 : Int32))])) rfl (hb hby at_31) rfl (by decide) (cap := 4) (by decide) (by decide) (by decide) (by decide) (ad := "[D") (by decide)
    obtain ⟨b45, g45⟩ : ∃ z, z = h0.size := ⟨_, rfl⟩
    rw [← g45] at A45 Ax45 st45
    have V45 : Arv Z h45 b45 k45 .double (4 : Int32) [(.double (0 : UInt64)), (.double (0 : UInt64)), (.double (0 : UInt64)), (.double (0 : UInt64))] (.double (0 : UInt64)) := (Arv.new A45 (by decide)).pad (pad_rep [] (.double (0 : UInt64)) 4)
    obtain ⟨T46, h46, k46, X46, e46, E46, A46, Ax46, st46⟩ := newPE X45 hx hZ (hw _ (List.mem_of_getElem? (i := 1) rfl)) e45 (g := (mkF m 37 #[.val (.int p0), .val (.int p1), .val (.int p2), .val (.int p3), .val (.int p4), .val (.int (4 : Int32)), .val (.long (own_s p1)), .second, .val (.long (own_s p2)), .second, .val (.long (own_s p3)), .second, .val (.long (own_s p4)), .second, .val (.ref b45), .unset, .unset, .unset, .unset] [(.int (4 : Int32))])) rfl (hb hby at_37) rfl (by decide) (cap := 4) (by decide) (by decide) (by decide) (by decide) (ad := "[I") (by decide)
    obtain ⟨b46, g46⟩ : ∃ z, z = h45.size := ⟨_, rfl⟩
    rw [← g46] at A46 Ax46 st46
    have V46 : Arv Z h46 b46 k46 .int (4 : Int32) [(.int (0 : Int32)), (.int (0 : Int32)), (.int (0 : Int32)), (.int (0 : Int32))] (.int (0 : Int32)) := (Arv.new A46 (by decide)).pad (pad_rep [] (.int (0 : Int32)) 4)
    obtain ⟨cl47, Ar47, q47, S47, P47, Ha47, G47⟩ := (V45.ext E46)
    have hin47 : ¬ ((0 : Int32) < 0 ∨ cl47.slots.size ≤ ((0 : Int32)).toNatClampNeg) := inb_of S47 ⟨by decide, by decide⟩
    obtain ⟨T48, h48, X48, e48, W48, st48⟩ := stD X46 hx hZ e46 Ar47 (j := (0 : Int32)) hin47 (g := (mkF m 55 #[.val (.int p0), .val (.int p1), .val (.int p2), .val (.int p3), .val (.int p4), .val (.int (4 : Int32)), .val (.long (own_s p1)), .second, .val (.long (own_s p2)), .second, .val (.long (own_s p3)), .second, .val (.long (own_s p4)), .second, .val (.ref b45), .val (.ref b46), .val (.long (0 : Int64)), .second, .unset] [(.double (FP.l2d (own_s p1))), (.int (0 : Int32)), (.ref b45)])) rfl rfl (hb hby at_55)
    have V48 : Arv Z h48 b45 k45 .double (4 : Int32) [(.double (FP.l2d (own_s p1))), (.double (0 : UInt64)), (.double (0 : UInt64)), (.double (0 : UInt64))] (.double (0 : UInt64)) := Arv.set Ar47 q47 S47 P47 Ha47 G47 rfl W48 0 rfl (Nat.le_of_ble_eq_true rfl)
    have N48 := Fr.snoc X48 N0 (Nat.le_trans Z0 (Nat.le_trans (Nat.le_refl _) (Nat.le_of_eq g45.symm)))
    obtain ⟨cl49, Ar49, q49, S49, P49, Ha49, G49⟩ := (V46.other W48 (Ne.symm (Nat.ne_of_lt (Nat.lt_of_lt_of_le Ax45.lt (Nat.le_of_eq g46.symm)))))
    have hin49 : ¬ ((0 : Int32) < 0 ∨ cl49.slots.size ≤ ((0 : Int32)).toNatClampNeg) := inb_of S49 ⟨by decide, by decide⟩
    obtain ⟨T50, h50, X50, e50, W50, st50⟩ := stI X48 hx hZ e48 Ar49 (j := (0 : Int32)) hin49 (g := (mkF m 60 #[.val (.int p0), .val (.int p1), .val (.int p2), .val (.int p3), .val (.int p4), .val (.int (4 : Int32)), .val (.long (own_s p1)), .second, .val (.long (own_s p2)), .second, .val (.long (own_s p3)), .second, .val (.long (own_s p4)), .second, .val (.ref b45), .val (.ref b46), .val (.long (0 : Int64)), .second, .unset] [(.int (0 : Int32)), (.int (0 : Int32)), (.ref b46)])) rfl rfl (hb hby at_60)
    have V50 : Arv Z h50 b46 k46 .int (4 : Int32) [(.int (0 : Int32)), (.int (0 : Int32)), (.int (0 : Int32)), (.int (0 : Int32))] (.int (0 : Int32)) := Arv.set Ar49 q49 S49 P49 Ha49 G49 rfl W50 0 rfl (Nat.le_of_ble_eq_true rfl)
    have N50 := Fr.snoc X50 N48 (Nat.le_trans Z0 (Nat.le_trans (Nat.le_trans (Nat.le_refl _) E45.1) (Nat.le_of_eq g46.symm)))
    obtain ⟨cl51, Ar51, q51, S51, P51, Ha51, G51⟩ := (V48.other W50 (Nat.ne_of_lt (Nat.lt_of_lt_of_le Ax45.lt (Nat.le_of_eq g46.symm))))
    have hin51 : ¬ ((1 : Int32) < 0 ∨ cl51.slots.size ≤ ((1 : Int32)).toNatClampNeg) := inb_of S51 ⟨by decide, by decide⟩
    obtain ⟨T52, h52, X52, e52, W52, st52⟩ := stD X50 hx hZ e50 Ar51 (j := (1 : Int32)) hin51 (g := (mkF m 83 #[.val (.int p0), .val (.int p1), .val (.int p2), .val (.int p3), .val (.int p4), .val (.int (4 : Int32)), .val (.long (own_s p1)), .second, .val (.long (own_s p2)), .second, .val (.long (own_s p3)), .second, .val (.long (own_s p4)), .second, .val (.ref b45), .val (.ref b46), .val (.long ((0 : Int64) + ((own_s p1) * (own_s p1)))), .second, .unset] [(.double (FP.l2d (own_s p2))), (.int (1 : Int32)), (.ref b45)])) rfl rfl (hb hby at_83)
    have V52 : Arv Z h52 b45 k45 .double (4 : Int32) [(.double (FP.l2d (own_s p1))), (.double (FP.l2d (own_s p2))), (.double (0 : UInt64)), (.double (0 : UInt64))] (.double (0 : UInt64)) := Arv.set Ar51 q51 S51 P51 Ha51 G51 rfl W52 1 rfl (Nat.le_of_ble_eq_true rfl)
    have N52 := Fr.snoc X52 N50 (Nat.le_trans Z0 (Nat.le_trans (Nat.le_refl _) (Nat.le_of_eq g45.symm)))
    obtain ⟨cl53, Ar53, q53, S53, P53, Ha53, G53⟩ := (V50.other W52 (Ne.symm (Nat.ne_of_lt (Nat.lt_of_lt_of_le Ax45.lt (Nat.le_of_eq g46.symm)))))
    have hin53 : ¬ ((1 : Int32) < 0 ∨ cl53.slots.size ≤ ((1 : Int32)).toNatClampNeg) := inb_of S53 ⟨by decide, by decide⟩
    obtain ⟨T54, h54, X54, e54, W54, st54⟩ := stI X52 hx hZ e52 Ar53 (j := (1 : Int32)) hin53 (g := (mkF m 88 #[.val (.int p0), .val (.int p1), .val (.int p2), .val (.int p3), .val (.int p4), .val (.int (4 : Int32)), .val (.long (own_s p1)), .second, .val (.long (own_s p2)), .second, .val (.long (own_s p3)), .second, .val (.long (own_s p4)), .second, .val (.ref b45), .val (.ref b46), .val (.long ((0 : Int64) + ((own_s p1) * (own_s p1)))), .second, .unset] [(.int (1 : Int32)), (.int (1 : Int32)), (.ref b46)])) rfl rfl (hb hby at_88)
    have V54 : Arv Z h54 b46 k46 .int (4 : Int32) [(.int (0 : Int32)), (.int (1 : Int32)), (.int (0 : Int32)), (.int (0 : Int32))] (.int (0 : Int32)) := Arv.set Ar53 q53 S53 P53 Ha53 G53 rfl W54 1 rfl (Nat.le_of_ble_eq_true rfl)
    have N54 := Fr.snoc X54 N52 (Nat.le_trans Z0 (Nat.le_trans (Nat.le_trans (Nat.le_refl _) E45.1) (Nat.le_of_eq g46.symm)))
    obtain ⟨cl55, Ar55, q55, S55, P55, Ha55, G55⟩ := (V52.other W54 (Nat.ne_of_lt (Nat.lt_of_lt_of_le Ax45.lt (Nat.le_of_eq g46.symm))))
    have hin55 : ¬ ((2 : Int32) < 0 ∨ cl55.slots.size ≤ ((2 : Int32)).toNatClampNeg) := inb_of S55 ⟨by decide, by decide⟩
    obtain ⟨T56, h56, X56, e56, W56, st56⟩ := stD X54 hx hZ e54 Ar55 (j := (2 : Int32)) hin55 (g := (mkF m 111 #[.val (.int p0), .val (.int p1), .val (.int p2), .val (.int p3), .val (.int p4), .val (.int (4 : Int32)), .val (.long (own_s p1)), .second, .val (.long (own_s p2)), .second, .val (.long (own_s p3)), .second, .val (.long (own_s p4)), .second, .val (.ref b45), .val (.ref b46), .val (.long (((0 : Int64) + ((own_s p1) * (own_s p1))) + ((own_s p2) * (own_s p2)))), .second, .unset] [(.double (FP.l2d (own_s p3))), (.int (2 : Int32)), (.ref b45)])) rfl rfl (hb hby at_111)
    have V56 : Arv Z h56 b45 k45 .double (4 : Int32) [(.double (FP.l2d (own_s p1))), (.double (FP.l2d (own_s p2))), (.double (FP.l2d (own_s p3))), (.double (0 : UInt64))] (.double (0 : UInt64)) := Arv.set Ar55 q55 S55 P55 Ha55 G55 rfl W56 2 rfl (Nat.le_of_ble_eq_true rfl)
    have N56 := Fr.snoc X56 N54 (Nat.le_trans Z0 (Nat.le_trans (Nat.le_refl _) (Nat.le_of_eq g45.symm)))
    obtain ⟨cl57, Ar57, q57, S57, P57, Ha57, G57⟩ := (V54.other W56 (Ne.symm (Nat.ne_of_lt (Nat.lt_of_lt_of_le Ax45.lt (Nat.le_of_eq g46.symm)))))
    have hin57 : ¬ ((2 : Int32) < 0 ∨ cl57.slots.size ≤ ((2 : Int32)).toNatClampNeg) := inb_of S57 ⟨by decide, by decide⟩
    obtain ⟨T58, h58, X58, e58, W58, st58⟩ := stI X56 hx hZ e56 Ar57 (j := (2 : Int32)) hin57 (g := (mkF m 116 #[.val (.int p0), .val (.int p1), .val (.int p2), .val (.int p3), .val (.int p4), .val (.int (4 : Int32)), .val (.long (own_s p1)), .second, .val (.long (own_s p2)), .second, .val (.long (own_s p3)), .second, .val (.long (own_s p4)), .second, .val (.ref b45), .val (.ref b46), .val (.long (((0 : Int64) + ((own_s p1) * (own_s p1))) + ((own_s p2) * (own_s p2)))), .second, .unset] [(.int (2 : Int32)), (.int (2 : Int32)), (.ref b46)])) rfl rfl (hb hby at_116)
    have V58 : Arv Z h58 b46 k46 .int (4 : Int32) [(.int (0 : Int32)), (.int (1 : Int32)), (.int (2 : Int32)), (.int (0 : Int32))] (.int (0 : Int32)) := Arv.set Ar57 q57 S57 P57 Ha57 G57 rfl W58 2 rfl (Nat.le_of_ble_eq_true rfl)
    have N58 := Fr.snoc X58 N56 (Nat.le_trans Z0 (Nat.le_trans (Nat.le_trans (Nat.le_refl _) E45.1) (Nat.le_of_eq g46.symm)))
    obtain ⟨cl59, Ar59, q59, S59, P59, Ha59, G59⟩ := (V56.other W58 (Nat.ne_of_lt (Nat.lt_of_lt_of_le Ax45.lt (Nat.le_of_eq g46.symm))))
    have hin59 : ¬ ((3 : Int32) < 0 ∨ cl59.slots.size ≤ ((3 : Int32)).toNatClampNeg) := inb_of S59 ⟨by decide, by decide⟩
    obtain ⟨T60, h60, X60, e60, W60, st60⟩ := stD X58 hx hZ e58 Ar59 (j := (3 : Int32)) hin59 (g := (mkF m 139 #[.val (.int p0), .val (.int p1), .val (.int p2), .val (.int p3), .val (.int p4), .val (.int (4 : Int32)), .val (.long (own_s p1)), .second, .val (.long (own_s p2)), .second, .val (.long (own_s p3)), .second, .val (.long (own_s p4)), .second, .val (.ref b45), .val (.ref b46), .val (.long ((((0 : Int64) + ((own_s p1) * (own_s p1))) + ((own_s p2) * (own_s p2))) + ((own_s p3) * (own_s p3)))), .second, .unset] [(.double (FP.l2d (own_s p4))), (.int (3 : Int32)), (.ref b45)])) rfl rfl (hb hby at_139)
    have V60 : Arv Z h60 b45 k45 .double (4 : Int32) [(.double (FP.l2d (own_s p1))), (.double (FP.l2d (own_s p2))), (.double (FP.l2d (own_s p3))), (.double (FP.l2d (own_s p4)))] (.double (0 : UInt64)) := Arv.set Ar59 q59 S59 P59 Ha59 G59 rfl W60 3 rfl (Nat.le_of_ble_eq_true rfl)
    have N60 := Fr.snoc X60 N58 (Nat.le_trans Z0 (Nat.le_trans (Nat.le_refl _) (Nat.le_of_eq g45.symm)))
    obtain ⟨cl61, Ar61, q61, S61, P61, Ha61, G61⟩ := (V58.other W60 (Ne.symm (Nat.ne_of_lt (Nat.lt_of_lt_of_le Ax45.lt (Nat.le_of_eq g46.symm)))))
    have hin61 : ¬ ((3 : Int32) < 0 ∨ cl61.slots.size ≤ ((3 : Int32)).toNatClampNeg) := inb_of S61 ⟨by decide, by decide⟩
    obtain ⟨T62, h62, X62, e62, W62, st62⟩ := stI X60 hx hZ e60 Ar61 (j := (3 : Int32)) hin61 (g := (mkF m 144 #[.val (.int p0), .val (.int p1), .val (.int p2), .val (.int p3), .val (.int p4), .val (.int (4 : Int32)), .val (.long (own_s p1)), .second, .val (.long (own_s p2)), .second, .val (.long (own_s p3)), .second, .val (.long (own_s p4)), .second, .val (.ref b45), .val (.ref b46), .val (.long ((((0 : Int64) + ((own_s p1) * (own_s p1))) + ((own_s p2) * (own_s p2))) + ((own_s p3) * (own_s p3)))), .second, .unset] [(.int (3 : Int32)), (.int (3 : Int32)), (.ref b46)])) rfl rfl (hb hby at_144)
    have V62 : Arv Z h62 b46 k46 .int (4 : Int32) [(.int (0 : Int32)), (.int (1 : Int32)), (.int (2 : Int32)), (.int (3 : Int32))] (.int (0 : Int32)) := Arv.set Ar61 q61 S61 P61 Ha61 G61 rfl W62 3 rfl (Nat.le_of_ble_eq_true rfl)
    have N62 := Fr.snoc X62 N60 (Nat.le_trans Z0 (Nat.le_trans (Nat.le_trans (Nat.le_refl _) E45.1) (Nat.le_of_eq g46.symm)))
    obtain ⟨T63, h63, X63, e63, E63, A63, D63, -, st63⟩ := newO X62 hx hZ hown (hw _ (List.mem_of_getElem? (i := 2) rfl)) (hw _ (List.mem_of_getElem? (i := 3) rfl)) (hw _ (List.mem_of_getElem? (i := 4) rfl)) e62 (g := (mkF m 155 #[.val (.int p0), .val (.int p1), .val (.int p2), .val (.int p3), .val (.int p4), .val (.int (4 : Int32)), .val (.long (own_s p1)), .second, .val (.long (own_s p2)), .second, .val (.long (own_s p3)), .second, .val (.long (own_s p4)), .second, .val (.ref b45), .val (.ref b46), .val (.long (((((0 : Int64) + ((own_s p1) * (own_s p1))) + ((own_s p2) * (own_s p2))) + ((own_s p3) * (own_s p3))) + ((own_s p4) * (own_s p4)))), .second, .unset] [])) rfl (hb hby at_155) (by decide) (by decide)
    obtain ⟨b63, g63⟩ : ∃ z, z = h62.size := ⟨_, rfl⟩
    rw [← g63] at A63 D63 st63
    have F63_indices : Fld Z h63 b63 "com/example/topic_crawler/topiccrawler/topic/SparseVector" "indices" "[I" .null := D63 (Or.inr (hw _ (List.mem_of_getElem? (i := 12) rfl))) (ty := (.array .int)) (by decide)
    have F63_values : Fld Z h63 b63 "com/example/topic_crawler/topiccrawler/topic/SparseVector" "values" "[D" .null := D63 (Or.inr (hw _ (List.mem_of_getElem? (i := 14) rfl))) (ty := (.array .double)) (by decide)
    obtain ⟨_, _, ⟨T64, L64, k64, n64⟩, -, X64, ⟨Lc64, hQ64, l64, y64, z64⟩, st64⟩ := X63.specialBack hx (y := (⟨"com/example/topic_crawler/topiccrawler/topic/SparseVector", "<init>", "([I[D)V"⟩ : MethodName)) rfl hown (mvT hZ (hw _ (List.mem_of_getElem? (i := 5) rfl))) (mvT hZ (hw _ (List.mem_of_getElem? (i := 6) rfl))) (mvT hZ (hw _ (List.mem_of_getElem? (i := 7) rfl))) (by decide) (backOf (W := 1) (rmsv l Z a0 hw [] b63 b46 b45 h63 n0 (Nat.le_trans (Nat.le_trans (Nat.le_trans (Nat.le_trans (Nat.le_trans (Nat.le_trans (Nat.le_trans (Nat.le_trans (Nat.le_trans (Nat.le_trans (Nat.le_trans Z0 E45.1) E46.1) (Keep.of_wr W48).1) (Keep.of_wr W50).1) (Keep.of_wr W52).1) (Keep.of_wr W54).1) (Keep.of_wr W56).1) (Keep.of_wr W58).1) (Keep.of_wr W60).1) (Keep.of_wr W62).1) E63.1) F63_indices F63_values A63 (Nat.le_trans Z0 (Nat.le_trans (Nat.le_trans (Nat.le_trans (Nat.le_trans (Nat.le_trans (Nat.le_trans (Nat.le_trans (Nat.le_trans (Nat.le_trans (Nat.le_trans (Nat.le_trans (Nat.le_refl _) E45.1) E46.1) (Keep.of_wr W48).1) (Keep.of_wr W50).1) (Keep.of_wr W52).1) (Keep.of_wr W54).1) (Keep.of_wr W56).1) (Keep.of_wr W58).1) (Keep.of_wr W60).1) (Keep.of_wr W62).1) (Nat.le_of_eq g63.symm)))) hZ (hw _ (List.mem_of_getElem? (i := 7) rfl)) (hw _ (List.mem_of_getElem? (i := 4) rfl)) (by decide) (by decide)) (g := (mkF m 163 #[.val (.int p0), .val (.int p1), .val (.int p2), .val (.int p3), .val (.int p4), .val (.int (4 : Int32)), .val (.long (own_s p1)), .second, .val (.long (own_s p2)), .second, .val (.long (own_s p3)), .second, .val (.long (own_s p4)), .second, .val (.ref b45), .val (.ref b46), .val (.long (((((0 : Int64) + ((own_s p1) * (own_s p1))) + ((own_s p2) * (own_s p2))) + ((own_s p3) * (own_s p3))) + ((own_s p4) * (own_s p4)))), .second, .unset] [(.ref b45), (.ref b46), (.ref b63), (.ref b63)])) rfl (by rw [hml]; rfl) (Steps.refl _) (a := b63) (argsL := [(.ref b46), (.ref b45)]) (rest := [(.ref b63)]) (lenOf pd_0 rfl) rfl (by show 2 * 0 + _ ≤ _; exact Nat.le_of_eq rfl) (hb hby at_163) (fun _ _ => ⟨rfl, e63, (by decide : 3 + 0 ≤ _), (by decide : 10 + 0 ≤ _)⟩)
    dsimp only [Pt.U, Pt.locs, Pt.cells, Pt.slots] at X64 l64 y64 z64 st64 hQ64
    subst l64 y64 z64
    obtain ⟨rfl, N64q, K64, Ea64, Fv64⟩ := hQ64
    have N64 := Fr.app N62 N64q
    obtain ⟨cq65, kq65, q65a, q65b, q65c⟩ := isOf hZ rfl Ea64
    obtain ⟨_, _, ⟨T65, L65, k65, n65⟩, -, X65, ⟨Lc65, hQ65, l65, y65, z65⟩, st65⟩ := X64.virtualBack hx (y := (⟨"com/example/topic_crawler/topiccrawler/topic/SparseVector", "squaredLength", "()D"⟩ : MethodName)) (z := (⟨"com/example/topic_crawler/topiccrawler/topic/SparseVector", "squaredLength", "()D"⟩ : MethodName)) hown (mvT hZ (hw _ (List.mem_of_getElem? (i := 15) rfl))) (mvT hZ (hw _ (List.mem_of_getElem? (i := 16) rfl))) (notFace_of_selects (args := #[]) (mvT hZ (hw _ (List.mem_of_getElem? (i := 18) rfl)))) (mvT hZ (hw _ (List.mem_of_getElem? (i := 18) rfl))) (mvT hZ (hw _ (List.mem_of_getElem? (i := 17) rfl))) (by decide) (backOf (W := 0) (rmsq4 l Z a0 hw [] b63 b45 k45 (own_s p1) (own_s p2) (own_s p3) (own_s p4) T64.heap n0 (Nat.le_trans (Nat.le_trans (Nat.le_trans (Nat.le_trans (Nat.le_trans (Nat.le_trans (Nat.le_trans (Nat.le_trans (Nat.le_trans (Nat.le_trans (Nat.le_trans (Nat.le_trans Z0 E45.1) E46.1) (Keep.of_wr W48).1) (Keep.of_wr W50).1) (Keep.of_wr W52).1) (Keep.of_wr W54).1) (Keep.of_wr W56).1) (Keep.of_wr W58).1) (Keep.of_wr W60).1) (Keep.of_wr W62).1) E63.1) K64.1) Fv64 (((V60.other W62 (Nat.ne_of_lt (Nat.lt_of_lt_of_le Ax45.lt (Nat.le_of_eq g46.symm)))).ext E63).keep K64 (ninS (Nat.ne_of_lt (Nat.lt_of_lt_of_le (V60.other W62 (Nat.ne_of_lt (Nat.lt_of_lt_of_le Ax45.lt (Nat.le_of_eq g46.symm)))).lt (Nat.le_of_eq g63.symm))) nin0)) (own_mul p1) (own_add0 p1) (own_mul p2) (own_add (own_Ss own_S0 (by decide) (by decide) p1) (by decide) p2) (own_mul p3) (own_add (own_Ss (own_Ss own_S0 (by decide) (by decide) p1) (by decide) (by decide) p2) (by decide) p3) (own_mul p4) (own_add (own_Ss (own_Ss (own_Ss own_S0 (by decide) (by decide) p1) (by decide) (by decide) p2) (by decide) (by decide) p3) (by decide) p4)) hZ (hw _ (List.mem_of_getElem? (i := 19) rfl)) (hw _ (List.mem_of_getElem? (i := 4) rfl)) (by decide) (by decide)) q65a q65c (g := (mkF m 170 #[.val (.int p0), .val (.int p1), .val (.int p2), .val (.int p3), .val (.int p4), .val (.int (4 : Int32)), .val (.long (own_s p1)), .second, .val (.long (own_s p2)), .second, .val (.long (own_s p3)), .second, .val (.long (own_s p4)), .second, .val (.ref b45), .val (.ref b46), .val (.long (((((0 : Int64) + ((own_s p1) * (own_s p1))) + ((own_s p2) * (own_s p2))) + ((own_s p3) * (own_s p3))) + ((own_s p4) * (own_s p4)))), .second, .val (.ref b63)] [(.ref b63)])) rfl (by rw [hml]; rfl) (Steps.refl _) (argsL := []) (rest := []) (lenOf pd_1 rfl) rfl (by show 2 * 0 + _ ≤ _; exact Nat.le_of_eq rfl) (hb hby at_170) (fun _ _ => ⟨rfl, rfl, (by decide : 3 + 0 ≤ _), (by decide : 10 + 0 ≤ _)⟩)
    dsimp only [Pt.U, Pt.locs, Pt.cells, Pt.slots] at X65 l65 y65 z65 st65 hQ65
    subst l65 y65 z65
    obtain ⟨rfl, N65q, eh65⟩ := hQ65
    have N65 := Fr.app N64 N65q
    obtain ⟨fs, hr, hrun, hended, hW, hsame⟩ := X65.leave (v := some (.int (nar .boolean (1 : Int32)))) (fun h => by rw [Bd.returns] at h; cases h)
    refine ⟨_, _, pre0 _ ?_, hrun, hended, _, _, rfl, ?_, ⟨_, rfl⟩, hW, hsame.mono (by decide) (by decide)⟩
    · show Steps p.tables e below (s₁.setTop (mkF m 0 #[.val (.int p0), .val (.int p1), .val (.int p2), .val (.int p3), .val (.int p4), .unset, .unset, .unset, .unset, .unset, .unset, .unset, .unset, .unset, .unset, .unset, .unset, .unset, .unset] [])) _
      refine XS.iloadN X0.here hx rfl (hb hby at_0) rfl ?_
      show Steps p.tables e below (s₁.setTop (mkF m 1 #[.val (.int p0), .val (.int p1), .val (.int p2), .val (.int p3), .val (.int p4), .unset, .unset, .unset, .unset, .unset, .unset, .unset, .unset, .unset, .unset, .unset, .unset, .unset, .unset] [(.int p0)])) _
      refine XS.bipush X0.here hx rfl (hb hby at_1) ?_
      show Steps p.tables e below (s₁.setTop (mkF m 3 #[.val (.int p0), .val (.int p1), .val (.int p2), .val (.int p3), .val (.int p4), .unset, .unset, .unset, .unset, .unset, .unset, .unset, .unset, .unset, .unset, .unset, .unset, .unset, .unset] [(.int (7 : Int32)), (.int p0)])) _
      refine XS.iand X0.here hx rfl (hb hby at_3) rfl ?_
      show Steps p.tables e below (s₁.setTop (mkF m 4 #[.val (.int p0), .val (.int p1), .val (.int p2), .val (.int p3), .val (.int p4), .unset, .unset, .unset, .unset, .unset, .unset, .unset, .unset, .unset, .unset, .unset, .unset, .unset, .unset] [(.int (p0 &&& (7 : Int32)))])) _
      refine XS.iconst X0.here hx rfl (hb hby at_4) ?_
      show Steps p.tables e below (s₁.setTop (mkF m 5 #[.val (.int p0), .val (.int p1), .val (.int p2), .val (.int p3), .val (.int p4), .unset, .unset, .unset, .unset, .unset, .unset, .unset, .unset, .unset, .unset, .unset, .unset, .unset, .unset] [(.int (5 : Int32)), (.int (p0 &&& (7 : Int32)))])) _
      refine iremM X0 hx rfl (hb hby at_5) rfl (by decide) ?_
      show Steps p.tables e below (s₁.setTop (mkF m 6 #[.val (.int p0), .val (.int p1), .val (.int p2), .val (.int p3), .val (.int p4), .unset, .unset, .unset, .unset, .unset, .unset, .unset, .unset, .unset, .unset, .unset, .unset, .unset, .unset] [(.int (own_n p0))])) _
      rw [hn]
      show Steps p.tables e below (s₁.setTop (mkF m 6 #[.val (.int p0), .val (.int p1), .val (.int p2), .val (.int p3), .val (.int p4), .unset, .unset, .unset, .unset, .unset, .unset, .unset, .unset, .unset, .unset, .unset, .unset, .unset, .unset] [(.int (4 : Int32))])) _
      refine XS.istore X0.here hx rfl (hb hby at_6) rfl (l' := #[.val (.int p0), .val (.int p1), .val (.int p2), .val (.int p3), .val (.int p4), .val (.int (4 : Int32)), .unset, .unset, .unset, .unset, .unset, .unset, .unset, .unset, .unset, .unset, .unset, .unset, .unset]) rfl ?_
      show Steps p.tables e below (s₁.setTop (mkF m 8 #[.val (.int p0), .val (.int p1), .val (.int p2), .val (.int p3), .val (.int p4), .val (.int (4 : Int32)), .unset, .unset, .unset, .unset, .unset, .unset, .unset, .unset, .unset, .unset, .unset, .unset, .unset] [])) _
      refine XS.iloadN X0.here hx rfl (hb hby at_8) rfl ?_
      show Steps p.tables e below (s₁.setTop (mkF m 9 #[.val (.int p0), .val (.int p1), .val (.int p2), .val (.int p3), .val (.int p4), .val (.int (4 : Int32)), .unset, .unset, .unset, .unset, .unset, .unset, .unset, .unset, .unset, .unset, .unset, .unset, .unset] [(.int p1)])) _
      refine XS.i2s X0.here hx rfl (hb hby at_9) rfl ?_
      show Steps p.tables e below (s₁.setTop (mkF m 10 #[.val (.int p0), .val (.int p1), .val (.int p2), .val (.int p3), .val (.int p4), .val (.int (4 : Int32)), .unset, .unset, .unset, .unset, .unset, .unset, .unset, .unset, .unset, .unset, .unset, .unset, .unset] [(.int (p1.toInt16.toInt32))])) _
      refine XS.i2l X0.here hx rfl (hb hby at_10) rfl ?_
      show Steps p.tables e below (s₁.setTop (mkF m 11 #[.val (.int p0), .val (.int p1), .val (.int p2), .val (.int p3), .val (.int p4), .val (.int (4 : Int32)), .unset, .unset, .unset, .unset, .unset, .unset, .unset, .unset, .unset, .unset, .unset, .unset, .unset] [(.long (own_s p1))])) _
      refine XS.lstore X0.here hx rfl (hb hby at_11) rfl (l' := #[.val (.int p0), .val (.int p1), .val (.int p2), .val (.int p3), .val (.int p4), .val (.int (4 : Int32)), .val (.long (own_s p1)), .second, .unset, .unset, .unset, .unset, .unset, .unset, .unset, .unset, .unset, .unset, .unset]) rfl ?_
      show Steps p.tables e below (s₁.setTop (mkF m 13 #[.val (.int p0), .val (.int p1), .val (.int p2), .val (.int p3), .val (.int p4), .val (.int (4 : Int32)), .val (.long (own_s p1)), .second, .unset, .unset, .unset, .unset, .unset, .unset, .unset, .unset, .unset, .unset, .unset] [])) _
      refine XS.iloadN X0.here hx rfl (hb hby at_13) rfl ?_
      show Steps p.tables e below (s₁.setTop (mkF m 14 #[.val (.int p0), .val (.int p1), .val (.int p2), .val (.int p3), .val (.int p4), .val (.int (4 : Int32)), .val (.long (own_s p1)), .second, .unset, .unset, .unset, .unset, .unset, .unset, .unset, .unset, .unset, .unset, .unset] [(.int p2)])) _
      refine XS.i2s X0.here hx rfl (hb hby at_14) rfl ?_
      show Steps p.tables e below (s₁.setTop (mkF m 15 #[.val (.int p0), .val (.int p1), .val (.int p2), .val (.int p3), .val (.int p4), .val (.int (4 : Int32)), .val (.long (own_s p1)), .second, .unset, .unset, .unset, .unset, .unset, .unset, .unset, .unset, .unset, .unset, .unset] [(.int (p2.toInt16.toInt32))])) _
      refine XS.i2l X0.here hx rfl (hb hby at_15) rfl ?_
      show Steps p.tables e below (s₁.setTop (mkF m 16 #[.val (.int p0), .val (.int p1), .val (.int p2), .val (.int p3), .val (.int p4), .val (.int (4 : Int32)), .val (.long (own_s p1)), .second, .unset, .unset, .unset, .unset, .unset, .unset, .unset, .unset, .unset, .unset, .unset] [(.long (own_s p2))])) _
      refine XS.lstore X0.here hx rfl (hb hby at_16) rfl (l' := #[.val (.int p0), .val (.int p1), .val (.int p2), .val (.int p3), .val (.int p4), .val (.int (4 : Int32)), .val (.long (own_s p1)), .second, .val (.long (own_s p2)), .second, .unset, .unset, .unset, .unset, .unset, .unset, .unset, .unset, .unset]) rfl ?_
      show Steps p.tables e below (s₁.setTop (mkF m 18 #[.val (.int p0), .val (.int p1), .val (.int p2), .val (.int p3), .val (.int p4), .val (.int (4 : Int32)), .val (.long (own_s p1)), .second, .val (.long (own_s p2)), .second, .unset, .unset, .unset, .unset, .unset, .unset, .unset, .unset, .unset] [])) _
      refine XS.iloadN X0.here hx rfl (hb hby at_18) rfl ?_
      show Steps p.tables e below (s₁.setTop (mkF m 19 #[.val (.int p0), .val (.int p1), .val (.int p2), .val (.int p3), .val (.int p4), .val (.int (4 : Int32)), .val (.long (own_s p1)), .second, .val (.long (own_s p2)), .second, .unset, .unset, .unset, .unset, .unset, .unset, .unset, .unset, .unset] [(.int p3)])) _
      refine XS.i2s X0.here hx rfl (hb hby at_19) rfl ?_
      show Steps p.tables e below (s₁.setTop (mkF m 20 #[.val (.int p0), .val (.int p1), .val (.int p2), .val (.int p3), .val (.int p4), .val (.int (4 : Int32)), .val (.long (own_s p1)), .second, .val (.long (own_s p2)), .second, .unset, .unset, .unset, .unset, .unset, .unset, .unset, .unset, .unset] [(.int (p3.toInt16.toInt32))])) _
      refine XS.i2l X0.here hx rfl (hb hby at_20) rfl ?_
      show Steps p.tables e below (s₁.setTop (mkF m 21 #[.val (.int p0), .val (.int p1), .val (.int p2), .val (.int p3), .val (.int p4), .val (.int (4 : Int32)), .val (.long (own_s p1)), .second, .val (.long (own_s p2)), .second, .unset, .unset, .unset, .unset, .unset, .unset, .unset, .unset, .unset] [(.long (own_s p3))])) _
      refine XS.lstore X0.here hx rfl (hb hby at_21) rfl (l' := #[.val (.int p0), .val (.int p1), .val (.int p2), .val (.int p3), .val (.int p4), .val (.int (4 : Int32)), .val (.long (own_s p1)), .second, .val (.long (own_s p2)), .second, .val (.long (own_s p3)), .second, .unset, .unset, .unset, .unset, .unset, .unset, .unset]) rfl ?_
      show Steps p.tables e below (s₁.setTop (mkF m 23 #[.val (.int p0), .val (.int p1), .val (.int p2), .val (.int p3), .val (.int p4), .val (.int (4 : Int32)), .val (.long (own_s p1)), .second, .val (.long (own_s p2)), .second, .val (.long (own_s p3)), .second, .unset, .unset, .unset, .unset, .unset, .unset, .unset] [])) _
      refine XS.iload X0.here hx rfl (hb hby at_23) rfl ?_
      show Steps p.tables e below (s₁.setTop (mkF m 25 #[.val (.int p0), .val (.int p1), .val (.int p2), .val (.int p3), .val (.int p4), .val (.int (4 : Int32)), .val (.long (own_s p1)), .second, .val (.long (own_s p2)), .second, .val (.long (own_s p3)), .second, .unset, .unset, .unset, .unset, .unset, .unset, .unset] [(.int p4)])) _
      refine XS.i2s X0.here hx rfl (hb hby at_25) rfl ?_
      show Steps p.tables e below (s₁.setTop (mkF m 26 #[.val (.int p0), .val (.int p1), .val (.int p2), .val (.int p3), .val (.int p4), .val (.int (4 : Int32)), .val (.long (own_s p1)), .second, .val (.long (own_s p2)), .second, .val (.long (own_s p3)), .second, .unset, .unset, .unset, .unset, .unset, .unset, .unset] [(.int (p4.toInt16.toInt32))])) _
      refine XS.i2l X0.here hx rfl (hb hby at_26) rfl ?_
      show Steps p.tables e below (s₁.setTop (mkF m 27 #[.val (.int p0), .val (.int p1), .val (.int p2), .val (.int p3), .val (.int p4), .val (.int (4 : Int32)), .val (.long (own_s p1)), .second, .val (.long (own_s p2)), .second, .val (.long (own_s p3)), .second, .unset, .unset, .unset, .unset, .unset, .unset, .unset] [(.long (own_s p4))])) _
      refine XS.lstore X0.here hx rfl (hb hby at_27) rfl (l' := #[.val (.int p0), .val (.int p1), .val (.int p2), .val (.int p3), .val (.int p4), .val (.int (4 : Int32)), .val (.long (own_s p1)), .second, .val (.long (own_s p2)), .second, .val (.long (own_s p3)), .second, .val (.long (own_s p4)), .second, .unset, .unset, .unset, .unset, .unset]) rfl ?_
      show Steps p.tables e below (s₁.setTop (mkF m 29 #[.val (.int p0), .val (.int p1), .val (.int p2), .val (.int p3), .val (.int p4), .val (.int (4 : Int32)), .val (.long (own_s p1)), .second, .val (.long (own_s p2)), .second, .val (.long (own_s p3)), .second, .val (.long (own_s p4)), .second, .unset, .unset, .unset, .unset, .unset] [])) _
      refine XS.iload X0.here hx rfl (hb hby at_29) rfl ?_
      show Steps p.tables e below (s₁.setTop (mkF m 31 #[.val (.int p0), .val (.int p1), .val (.int p2), .val (.int p3), .val (.int p4), .val (.int (4 : Int32)), .val (.long (own_s p1)), .second, .val (.long (own_s p2)), .second, .val (.long (own_s p3)), .second, .val (.long (own_s p4)), .second, .unset, .unset, .unset, .unset, .unset] [(.int (4 : Int32))])) _
      refine st45 _ ?_
      show Steps p.tables e below (T45.setTop (mkF m 33 #[.val (.int p0), .val (.int p1), .val (.int p2), .val (.int p3), .val (.int p4), .val (.int (4 : Int32)), .val (.long (own_s p1)), .second, .val (.long (own_s p2)), .second, .val (.long (own_s p3)), .second, .val (.long (own_s p4)), .second, .unset, .unset, .unset, .unset, .unset] [(.ref b45)])) _
      refine XS.astore X45.here hx rfl (hb hby at_33) rfl rfl (l' := #[.val (.int p0), .val (.int p1), .val (.int p2), .val (.int p3), .val (.int p4), .val (.int (4 : Int32)), .val (.long (own_s p1)), .second, .val (.long (own_s p2)), .second, .val (.long (own_s p3)), .second, .val (.long (own_s p4)), .second, .val (.ref b45), .unset, .unset, .unset, .unset]) rfl ?_
      show Steps p.tables e below (T45.setTop (mkF m 35 #[.val (.int p0), .val (.int p1), .val (.int p2), .val (.int p3), .val (.int p4), .val (.int (4 : Int32)), .val (.long (own_s p1)), .second, .val (.long (own_s p2)), .second, .val (.long (own_s p3)), .second, .val (.long (own_s p4)), .second, .val (.ref b45), .unset, .unset, .unset, .unset] [])) _
      refine XS.iload X45.here hx rfl (hb hby at_35) rfl ?_
      show Steps p.tables e below (T45.setTop (mkF m 37 #[.val (.int p0), .val (.int p1), .val (.int p2), .val (.int p3), .val (.int p4), .val (.int (4 : Int32)), .val (.long (own_s p1)), .second, .val (.long (own_s p2)), .second, .val (.long (own_s p3)), .second, .val (.long (own_s p4)), .second, .val (.ref b45), .unset, .unset, .unset, .unset] [(.int (4 : Int32))])) _
      refine st46 _ ?_
      show Steps p.tables e below (T46.setTop (mkF m 39 #[.val (.int p0), .val (.int p1), .val (.int p2), .val (.int p3), .val (.int p4), .val (.int (4 : Int32)), .val (.long (own_s p1)), .second, .val (.long (own_s p2)), .second, .val (.long (own_s p3)), .second, .val (.long (own_s p4)), .second, .val (.ref b45), .unset, .unset, .unset, .unset] [(.ref b46)])) _
      refine XS.astore X46.here hx rfl (hb hby at_39) rfl rfl (l' := #[.val (.int p0), .val (.int p1), .val (.int p2), .val (.int p3), .val (.int p4), .val (.int (4 : Int32)), .val (.long (own_s p1)), .second, .val (.long (own_s p2)), .second, .val (.long (own_s p3)), .second, .val (.long (own_s p4)), .second, .val (.ref b45), .val (.ref b46), .unset, .unset, .unset]) rfl ?_
      show Steps p.tables e below (T46.setTop (mkF m 41 #[.val (.int p0), .val (.int p1), .val (.int p2), .val (.int p3), .val (.int p4), .val (.int (4 : Int32)), .val (.long (own_s p1)), .second, .val (.long (own_s p2)), .second, .val (.long (own_s p3)), .second, .val (.long (own_s p4)), .second, .val (.ref b45), .val (.ref b46), .unset, .unset, .unset] [])) _
      refine XS.lconst X46.here hx rfl (hb hby at_41) ?_
      show Steps p.tables e below (T46.setTop (mkF m 42 #[.val (.int p0), .val (.int p1), .val (.int p2), .val (.int p3), .val (.int p4), .val (.int (4 : Int32)), .val (.long (own_s p1)), .second, .val (.long (own_s p2)), .second, .val (.long (own_s p3)), .second, .val (.long (own_s p4)), .second, .val (.ref b45), .val (.ref b46), .unset, .unset, .unset] [(.long (0 : Int64))])) _
      refine XS.lstore X46.here hx rfl (hb hby at_42) rfl (l' := #[.val (.int p0), .val (.int p1), .val (.int p2), .val (.int p3), .val (.int p4), .val (.int (4 : Int32)), .val (.long (own_s p1)), .second, .val (.long (own_s p2)), .second, .val (.long (own_s p3)), .second, .val (.long (own_s p4)), .second, .val (.ref b45), .val (.ref b46), .val (.long (0 : Int64)), .second, .unset]) rfl ?_
      show Steps p.tables e below (T46.setTop (mkF m 44 #[.val (.int p0), .val (.int p1), .val (.int p2), .val (.int p3), .val (.int p4), .val (.int (4 : Int32)), .val (.long (own_s p1)), .second, .val (.long (own_s p2)), .second, .val (.long (own_s p3)), .second, .val (.long (own_s p4)), .second, .val (.ref b45), .val (.ref b46), .val (.long (0 : Int64)), .second, .unset] [])) _
      refine XS.iload X46.here hx rfl (hb hby at_44) rfl ?_
      show Steps p.tables e below (T46.setTop (mkF m 46 #[.val (.int p0), .val (.int p1), .val (.int p2), .val (.int p3), .val (.int p4), .val (.int (4 : Int32)), .val (.long (own_s p1)), .second, .val (.long (own_s p2)), .second, .val (.long (own_s p3)), .second, .val (.long (own_s p4)), .second, .val (.ref b45), .val (.ref b46), .val (.long (0 : Int64)), .second, .unset] [(.int (4 : Int32))])) _
      refine XS.ifNo X46.here hx rfl (hb hby at_46) rfl (by decide) ?_
      show Steps p.tables e below (T46.setTop (mkF m 49 #[.val (.int p0), .val (.int p1), .val (.int p2), .val (.int p3), .val (.int p4), .val (.int (4 : Int32)), .val (.long (own_s p1)), .second, .val (.long (own_s p2)), .second, .val (.long (own_s p3)), .second, .val (.long (own_s p4)), .second, .val (.ref b45), .val (.ref b46), .val (.long (0 : Int64)), .second, .unset] [])) _
      refine XS.aload X46.here hx rfl (hb hby at_49) rfl rfl ?_
      show Steps p.tables e below (T46.setTop (mkF m 51 #[.val (.int p0), .val (.int p1), .val (.int p2), .val (.int p3), .val (.int p4), .val (.int (4 : Int32)), .val (.long (own_s p1)), .second, .val (.long (own_s p2)), .second, .val (.long (own_s p3)), .second, .val (.long (own_s p4)), .second, .val (.ref b45), .val (.ref b46), .val (.long (0 : Int64)), .second, .unset] [(.ref b45)])) _
      refine XS.iconst X46.here hx rfl (hb hby at_51) ?_
      show Steps p.tables e below (T46.setTop (mkF m 52 #[.val (.int p0), .val (.int p1), .val (.int p2), .val (.int p3), .val (.int p4), .val (.int (4 : Int32)), .val (.long (own_s p1)), .second, .val (.long (own_s p2)), .second, .val (.long (own_s p3)), .second, .val (.long (own_s p4)), .second, .val (.ref b45), .val (.ref b46), .val (.long (0 : Int64)), .second, .unset] [(.int (0 : Int32)), (.ref b45)])) _
      refine XS.lload X46.here hx rfl (hb hby at_52) rfl ?_
      show Steps p.tables e below (T46.setTop (mkF m 54 #[.val (.int p0), .val (.int p1), .val (.int p2), .val (.int p3), .val (.int p4), .val (.int (4 : Int32)), .val (.long (own_s p1)), .second, .val (.long (own_s p2)), .second, .val (.long (own_s p3)), .second, .val (.long (own_s p4)), .second, .val (.ref b45), .val (.ref b46), .val (.long (0 : Int64)), .second, .unset] [(.long (own_s p1)), (.int (0 : Int32)), (.ref b45)])) _
      refine XS.l2dS X46.here hx rfl (hb hby at_54) rfl rfl ?_
      show Steps p.tables e below (T46.setTop (mkF m 55 #[.val (.int p0), .val (.int p1), .val (.int p2), .val (.int p3), .val (.int p4), .val (.int (4 : Int32)), .val (.long (own_s p1)), .second, .val (.long (own_s p2)), .second, .val (.long (own_s p3)), .second, .val (.long (own_s p4)), .second, .val (.ref b45), .val (.ref b46), .val (.long (0 : Int64)), .second, .unset] [(.double (FP.l2d (own_s p1))), (.int (0 : Int32)), (.ref b45)])) _
      refine st48 _ ?_
      show Steps p.tables e below (T48.setTop (mkF m 56 #[.val (.int p0), .val (.int p1), .val (.int p2), .val (.int p3), .val (.int p4), .val (.int (4 : Int32)), .val (.long (own_s p1)), .second, .val (.long (own_s p2)), .second, .val (.long (own_s p3)), .second, .val (.long (own_s p4)), .second, .val (.ref b45), .val (.ref b46), .val (.long (0 : Int64)), .second, .unset] [])) _
      refine XS.aload X48.here hx rfl (hb hby at_56) rfl rfl ?_
      show Steps p.tables e below (T48.setTop (mkF m 58 #[.val (.int p0), .val (.int p1), .val (.int p2), .val (.int p3), .val (.int p4), .val (.int (4 : Int32)), .val (.long (own_s p1)), .second, .val (.long (own_s p2)), .second, .val (.long (own_s p3)), .second, .val (.long (own_s p4)), .second, .val (.ref b45), .val (.ref b46), .val (.long (0 : Int64)), .second, .unset] [(.ref b46)])) _
      refine XS.iconst X48.here hx rfl (hb hby at_58) ?_
      show Steps p.tables e below (T48.setTop (mkF m 59 #[.val (.int p0), .val (.int p1), .val (.int p2), .val (.int p3), .val (.int p4), .val (.int (4 : Int32)), .val (.long (own_s p1)), .second, .val (.long (own_s p2)), .second, .val (.long (own_s p3)), .second, .val (.long (own_s p4)), .second, .val (.ref b45), .val (.ref b46), .val (.long (0 : Int64)), .second, .unset] [(.int (0 : Int32)), (.ref b46)])) _
      refine XS.iconst X48.here hx rfl (hb hby at_59) ?_
      show Steps p.tables e below (T48.setTop (mkF m 60 #[.val (.int p0), .val (.int p1), .val (.int p2), .val (.int p3), .val (.int p4), .val (.int (4 : Int32)), .val (.long (own_s p1)), .second, .val (.long (own_s p2)), .second, .val (.long (own_s p3)), .second, .val (.long (own_s p4)), .second, .val (.ref b45), .val (.ref b46), .val (.long (0 : Int64)), .second, .unset] [(.int (0 : Int32)), (.int (0 : Int32)), (.ref b46)])) _
      refine st50 _ ?_
      show Steps p.tables e below (T50.setTop (mkF m 61 #[.val (.int p0), .val (.int p1), .val (.int p2), .val (.int p3), .val (.int p4), .val (.int (4 : Int32)), .val (.long (own_s p1)), .second, .val (.long (own_s p2)), .second, .val (.long (own_s p3)), .second, .val (.long (own_s p4)), .second, .val (.ref b45), .val (.ref b46), .val (.long (0 : Int64)), .second, .unset] [])) _
      refine XS.lload X50.here hx rfl (hb hby at_61) rfl ?_
      show Steps p.tables e below (T50.setTop (mkF m 63 #[.val (.int p0), .val (.int p1), .val (.int p2), .val (.int p3), .val (.int p4), .val (.int (4 : Int32)), .val (.long (own_s p1)), .second, .val (.long (own_s p2)), .second, .val (.long (own_s p3)), .second, .val (.long (own_s p4)), .second, .val (.ref b45), .val (.ref b46), .val (.long (0 : Int64)), .second, .unset] [(.long (0 : Int64))])) _
      refine XS.lload X50.here hx rfl (hb hby at_63) rfl ?_
      show Steps p.tables e below (T50.setTop (mkF m 65 #[.val (.int p0), .val (.int p1), .val (.int p2), .val (.int p3), .val (.int p4), .val (.int (4 : Int32)), .val (.long (own_s p1)), .second, .val (.long (own_s p2)), .second, .val (.long (own_s p3)), .second, .val (.long (own_s p4)), .second, .val (.ref b45), .val (.ref b46), .val (.long (0 : Int64)), .second, .unset] [(.long (own_s p1)), (.long (0 : Int64))])) _
      refine XS.lload X50.here hx rfl (hb hby at_65) rfl ?_
      show Steps p.tables e below (T50.setTop (mkF m 67 #[.val (.int p0), .val (.int p1), .val (.int p2), .val (.int p3), .val (.int p4), .val (.int (4 : Int32)), .val (.long (own_s p1)), .second, .val (.long (own_s p2)), .second, .val (.long (own_s p3)), .second, .val (.long (own_s p4)), .second, .val (.ref b45), .val (.ref b46), .val (.long (0 : Int64)), .second, .unset] [(.long (own_s p1)), (.long (own_s p1)), (.long (0 : Int64))])) _
      refine XS.lmul X50.here hx rfl (hb hby at_67) rfl ?_
      show Steps p.tables e below (T50.setTop (mkF m 68 #[.val (.int p0), .val (.int p1), .val (.int p2), .val (.int p3), .val (.int p4), .val (.int (4 : Int32)), .val (.long (own_s p1)), .second, .val (.long (own_s p2)), .second, .val (.long (own_s p3)), .second, .val (.long (own_s p4)), .second, .val (.ref b45), .val (.ref b46), .val (.long (0 : Int64)), .second, .unset] [(.long ((own_s p1) * (own_s p1))), (.long (0 : Int64))])) _
      refine XS.ladd X50.here hx rfl (hb hby at_68) rfl ?_
      show Steps p.tables e below (T50.setTop (mkF m 69 #[.val (.int p0), .val (.int p1), .val (.int p2), .val (.int p3), .val (.int p4), .val (.int (4 : Int32)), .val (.long (own_s p1)), .second, .val (.long (own_s p2)), .second, .val (.long (own_s p3)), .second, .val (.long (own_s p4)), .second, .val (.ref b45), .val (.ref b46), .val (.long (0 : Int64)), .second, .unset] [(.long ((0 : Int64) + ((own_s p1) * (own_s p1))))])) _
      refine XS.lstore X50.here hx rfl (hb hby at_69) rfl (l' := #[.val (.int p0), .val (.int p1), .val (.int p2), .val (.int p3), .val (.int p4), .val (.int (4 : Int32)), .val (.long (own_s p1)), .second, .val (.long (own_s p2)), .second, .val (.long (own_s p3)), .second, .val (.long (own_s p4)), .second, .val (.ref b45), .val (.ref b46), .val (.long ((0 : Int64) + ((own_s p1) * (own_s p1)))), .second, .unset]) rfl ?_
      show Steps p.tables e below (T50.setTop (mkF m 71 #[.val (.int p0), .val (.int p1), .val (.int p2), .val (.int p3), .val (.int p4), .val (.int (4 : Int32)), .val (.long (own_s p1)), .second, .val (.long (own_s p2)), .second, .val (.long (own_s p3)), .second, .val (.long (own_s p4)), .second, .val (.ref b45), .val (.ref b46), .val (.long ((0 : Int64) + ((own_s p1) * (own_s p1)))), .second, .unset] [])) _
      refine XS.iload X50.here hx rfl (hb hby at_71) rfl ?_
      show Steps p.tables e below (T50.setTop (mkF m 73 #[.val (.int p0), .val (.int p1), .val (.int p2), .val (.int p3), .val (.int p4), .val (.int (4 : Int32)), .val (.long (own_s p1)), .second, .val (.long (own_s p2)), .second, .val (.long (own_s p3)), .second, .val (.long (own_s p4)), .second, .val (.ref b45), .val (.ref b46), .val (.long ((0 : Int64) + ((own_s p1) * (own_s p1)))), .second, .unset] [(.int (4 : Int32))])) _
      refine XS.iconst X50.here hx rfl (hb hby at_73) ?_
      show Steps p.tables e below (T50.setTop (mkF m 74 #[.val (.int p0), .val (.int p1), .val (.int p2), .val (.int p3), .val (.int p4), .val (.int (4 : Int32)), .val (.long (own_s p1)), .second, .val (.long (own_s p2)), .second, .val (.long (own_s p3)), .second, .val (.long (own_s p4)), .second, .val (.ref b45), .val (.ref b46), .val (.long ((0 : Int64) + ((own_s p1) * (own_s p1)))), .second, .unset] [(.int (1 : Int32)), (.int (4 : Int32))])) _
      refine XS.icmpNo X50.here hx rfl (hb hby at_74) rfl (by decide) ?_
      show Steps p.tables e below (T50.setTop (mkF m 77 #[.val (.int p0), .val (.int p1), .val (.int p2), .val (.int p3), .val (.int p4), .val (.int (4 : Int32)), .val (.long (own_s p1)), .second, .val (.long (own_s p2)), .second, .val (.long (own_s p3)), .second, .val (.long (own_s p4)), .second, .val (.ref b45), .val (.ref b46), .val (.long ((0 : Int64) + ((own_s p1) * (own_s p1)))), .second, .unset] [])) _
      refine XS.aload X50.here hx rfl (hb hby at_77) rfl rfl ?_
      show Steps p.tables e below (T50.setTop (mkF m 79 #[.val (.int p0), .val (.int p1), .val (.int p2), .val (.int p3), .val (.int p4), .val (.int (4 : Int32)), .val (.long (own_s p1)), .second, .val (.long (own_s p2)), .second, .val (.long (own_s p3)), .second, .val (.long (own_s p4)), .second, .val (.ref b45), .val (.ref b46), .val (.long ((0 : Int64) + ((own_s p1) * (own_s p1)))), .second, .unset] [(.ref b45)])) _
      refine XS.iconst X50.here hx rfl (hb hby at_79) ?_
      show Steps p.tables e below (T50.setTop (mkF m 80 #[.val (.int p0), .val (.int p1), .val (.int p2), .val (.int p3), .val (.int p4), .val (.int (4 : Int32)), .val (.long (own_s p1)), .second, .val (.long (own_s p2)), .second, .val (.long (own_s p3)), .second, .val (.long (own_s p4)), .second, .val (.ref b45), .val (.ref b46), .val (.long ((0 : Int64) + ((own_s p1) * (own_s p1)))), .second, .unset] [(.int (1 : Int32)), (.ref b45)])) _
      refine XS.lload X50.here hx rfl (hb hby at_80) rfl ?_
      show Steps p.tables e below (T50.setTop (mkF m 82 #[.val (.int p0), .val (.int p1), .val (.int p2), .val (.int p3), .val (.int p4), .val (.int (4 : Int32)), .val (.long (own_s p1)), .second, .val (.long (own_s p2)), .second, .val (.long (own_s p3)), .second, .val (.long (own_s p4)), .second, .val (.ref b45), .val (.ref b46), .val (.long ((0 : Int64) + ((own_s p1) * (own_s p1)))), .second, .unset] [(.long (own_s p2)), (.int (1 : Int32)), (.ref b45)])) _
      refine XS.l2dS X50.here hx rfl (hb hby at_82) rfl rfl ?_
      show Steps p.tables e below (T50.setTop (mkF m 83 #[.val (.int p0), .val (.int p1), .val (.int p2), .val (.int p3), .val (.int p4), .val (.int (4 : Int32)), .val (.long (own_s p1)), .second, .val (.long (own_s p2)), .second, .val (.long (own_s p3)), .second, .val (.long (own_s p4)), .second, .val (.ref b45), .val (.ref b46), .val (.long ((0 : Int64) + ((own_s p1) * (own_s p1)))), .second, .unset] [(.double (FP.l2d (own_s p2))), (.int (1 : Int32)), (.ref b45)])) _
      refine st52 _ ?_
      show Steps p.tables e below (T52.setTop (mkF m 84 #[.val (.int p0), .val (.int p1), .val (.int p2), .val (.int p3), .val (.int p4), .val (.int (4 : Int32)), .val (.long (own_s p1)), .second, .val (.long (own_s p2)), .second, .val (.long (own_s p3)), .second, .val (.long (own_s p4)), .second, .val (.ref b45), .val (.ref b46), .val (.long ((0 : Int64) + ((own_s p1) * (own_s p1)))), .second, .unset] [])) _
      refine XS.aload X52.here hx rfl (hb hby at_84) rfl rfl ?_
      show Steps p.tables e below (T52.setTop (mkF m 86 #[.val (.int p0), .val (.int p1), .val (.int p2), .val (.int p3), .val (.int p4), .val (.int (4 : Int32)), .val (.long (own_s p1)), .second, .val (.long (own_s p2)), .second, .val (.long (own_s p3)), .second, .val (.long (own_s p4)), .second, .val (.ref b45), .val (.ref b46), .val (.long ((0 : Int64) + ((own_s p1) * (own_s p1)))), .second, .unset] [(.ref b46)])) _
      refine XS.iconst X52.here hx rfl (hb hby at_86) ?_
      show Steps p.tables e below (T52.setTop (mkF m 87 #[.val (.int p0), .val (.int p1), .val (.int p2), .val (.int p3), .val (.int p4), .val (.int (4 : Int32)), .val (.long (own_s p1)), .second, .val (.long (own_s p2)), .second, .val (.long (own_s p3)), .second, .val (.long (own_s p4)), .second, .val (.ref b45), .val (.ref b46), .val (.long ((0 : Int64) + ((own_s p1) * (own_s p1)))), .second, .unset] [(.int (1 : Int32)), (.ref b46)])) _
      refine XS.iconst X52.here hx rfl (hb hby at_87) ?_
      show Steps p.tables e below (T52.setTop (mkF m 88 #[.val (.int p0), .val (.int p1), .val (.int p2), .val (.int p3), .val (.int p4), .val (.int (4 : Int32)), .val (.long (own_s p1)), .second, .val (.long (own_s p2)), .second, .val (.long (own_s p3)), .second, .val (.long (own_s p4)), .second, .val (.ref b45), .val (.ref b46), .val (.long ((0 : Int64) + ((own_s p1) * (own_s p1)))), .second, .unset] [(.int (1 : Int32)), (.int (1 : Int32)), (.ref b46)])) _
      refine st54 _ ?_
      show Steps p.tables e below (T54.setTop (mkF m 89 #[.val (.int p0), .val (.int p1), .val (.int p2), .val (.int p3), .val (.int p4), .val (.int (4 : Int32)), .val (.long (own_s p1)), .second, .val (.long (own_s p2)), .second, .val (.long (own_s p3)), .second, .val (.long (own_s p4)), .second, .val (.ref b45), .val (.ref b46), .val (.long ((0 : Int64) + ((own_s p1) * (own_s p1)))), .second, .unset] [])) _
      refine XS.lload X54.here hx rfl (hb hby at_89) rfl ?_
      show Steps p.tables e below (T54.setTop (mkF m 91 #[.val (.int p0), .val (.int p1), .val (.int p2), .val (.int p3), .val (.int p4), .val (.int (4 : Int32)), .val (.long (own_s p1)), .second, .val (.long (own_s p2)), .second, .val (.long (own_s p3)), .second, .val (.long (own_s p4)), .second, .val (.ref b45), .val (.ref b46), .val (.long ((0 : Int64) + ((own_s p1) * (own_s p1)))), .second, .unset] [(.long ((0 : Int64) + ((own_s p1) * (own_s p1))))])) _
      refine XS.lload X54.here hx rfl (hb hby at_91) rfl ?_
      show Steps p.tables e below (T54.setTop (mkF m 93 #[.val (.int p0), .val (.int p1), .val (.int p2), .val (.int p3), .val (.int p4), .val (.int (4 : Int32)), .val (.long (own_s p1)), .second, .val (.long (own_s p2)), .second, .val (.long (own_s p3)), .second, .val (.long (own_s p4)), .second, .val (.ref b45), .val (.ref b46), .val (.long ((0 : Int64) + ((own_s p1) * (own_s p1)))), .second, .unset] [(.long (own_s p2)), (.long ((0 : Int64) + ((own_s p1) * (own_s p1))))])) _
      refine XS.lload X54.here hx rfl (hb hby at_93) rfl ?_
      show Steps p.tables e below (T54.setTop (mkF m 95 #[.val (.int p0), .val (.int p1), .val (.int p2), .val (.int p3), .val (.int p4), .val (.int (4 : Int32)), .val (.long (own_s p1)), .second, .val (.long (own_s p2)), .second, .val (.long (own_s p3)), .second, .val (.long (own_s p4)), .second, .val (.ref b45), .val (.ref b46), .val (.long ((0 : Int64) + ((own_s p1) * (own_s p1)))), .second, .unset] [(.long (own_s p2)), (.long (own_s p2)), (.long ((0 : Int64) + ((own_s p1) * (own_s p1))))])) _
      refine XS.lmul X54.here hx rfl (hb hby at_95) rfl ?_
      show Steps p.tables e below (T54.setTop (mkF m 96 #[.val (.int p0), .val (.int p1), .val (.int p2), .val (.int p3), .val (.int p4), .val (.int (4 : Int32)), .val (.long (own_s p1)), .second, .val (.long (own_s p2)), .second, .val (.long (own_s p3)), .second, .val (.long (own_s p4)), .second, .val (.ref b45), .val (.ref b46), .val (.long ((0 : Int64) + ((own_s p1) * (own_s p1)))), .second, .unset] [(.long ((own_s p2) * (own_s p2))), (.long ((0 : Int64) + ((own_s p1) * (own_s p1))))])) _
      refine XS.ladd X54.here hx rfl (hb hby at_96) rfl ?_
      show Steps p.tables e below (T54.setTop (mkF m 97 #[.val (.int p0), .val (.int p1), .val (.int p2), .val (.int p3), .val (.int p4), .val (.int (4 : Int32)), .val (.long (own_s p1)), .second, .val (.long (own_s p2)), .second, .val (.long (own_s p3)), .second, .val (.long (own_s p4)), .second, .val (.ref b45), .val (.ref b46), .val (.long ((0 : Int64) + ((own_s p1) * (own_s p1)))), .second, .unset] [(.long (((0 : Int64) + ((own_s p1) * (own_s p1))) + ((own_s p2) * (own_s p2))))])) _
      refine XS.lstore X54.here hx rfl (hb hby at_97) rfl (l' := #[.val (.int p0), .val (.int p1), .val (.int p2), .val (.int p3), .val (.int p4), .val (.int (4 : Int32)), .val (.long (own_s p1)), .second, .val (.long (own_s p2)), .second, .val (.long (own_s p3)), .second, .val (.long (own_s p4)), .second, .val (.ref b45), .val (.ref b46), .val (.long (((0 : Int64) + ((own_s p1) * (own_s p1))) + ((own_s p2) * (own_s p2)))), .second, .unset]) rfl ?_
      show Steps p.tables e below (T54.setTop (mkF m 99 #[.val (.int p0), .val (.int p1), .val (.int p2), .val (.int p3), .val (.int p4), .val (.int (4 : Int32)), .val (.long (own_s p1)), .second, .val (.long (own_s p2)), .second, .val (.long (own_s p3)), .second, .val (.long (own_s p4)), .second, .val (.ref b45), .val (.ref b46), .val (.long (((0 : Int64) + ((own_s p1) * (own_s p1))) + ((own_s p2) * (own_s p2)))), .second, .unset] [])) _
      refine XS.iload X54.here hx rfl (hb hby at_99) rfl ?_
      show Steps p.tables e below (T54.setTop (mkF m 101 #[.val (.int p0), .val (.int p1), .val (.int p2), .val (.int p3), .val (.int p4), .val (.int (4 : Int32)), .val (.long (own_s p1)), .second, .val (.long (own_s p2)), .second, .val (.long (own_s p3)), .second, .val (.long (own_s p4)), .second, .val (.ref b45), .val (.ref b46), .val (.long (((0 : Int64) + ((own_s p1) * (own_s p1))) + ((own_s p2) * (own_s p2)))), .second, .unset] [(.int (4 : Int32))])) _
      refine XS.iconst X54.here hx rfl (hb hby at_101) ?_
      show Steps p.tables e below (T54.setTop (mkF m 102 #[.val (.int p0), .val (.int p1), .val (.int p2), .val (.int p3), .val (.int p4), .val (.int (4 : Int32)), .val (.long (own_s p1)), .second, .val (.long (own_s p2)), .second, .val (.long (own_s p3)), .second, .val (.long (own_s p4)), .second, .val (.ref b45), .val (.ref b46), .val (.long (((0 : Int64) + ((own_s p1) * (own_s p1))) + ((own_s p2) * (own_s p2)))), .second, .unset] [(.int (2 : Int32)), (.int (4 : Int32))])) _
      refine XS.icmpNo X54.here hx rfl (hb hby at_102) rfl (by decide) ?_
      show Steps p.tables e below (T54.setTop (mkF m 105 #[.val (.int p0), .val (.int p1), .val (.int p2), .val (.int p3), .val (.int p4), .val (.int (4 : Int32)), .val (.long (own_s p1)), .second, .val (.long (own_s p2)), .second, .val (.long (own_s p3)), .second, .val (.long (own_s p4)), .second, .val (.ref b45), .val (.ref b46), .val (.long (((0 : Int64) + ((own_s p1) * (own_s p1))) + ((own_s p2) * (own_s p2)))), .second, .unset] [])) _
      refine XS.aload X54.here hx rfl (hb hby at_105) rfl rfl ?_
      show Steps p.tables e below (T54.setTop (mkF m 107 #[.val (.int p0), .val (.int p1), .val (.int p2), .val (.int p3), .val (.int p4), .val (.int (4 : Int32)), .val (.long (own_s p1)), .second, .val (.long (own_s p2)), .second, .val (.long (own_s p3)), .second, .val (.long (own_s p4)), .second, .val (.ref b45), .val (.ref b46), .val (.long (((0 : Int64) + ((own_s p1) * (own_s p1))) + ((own_s p2) * (own_s p2)))), .second, .unset] [(.ref b45)])) _
      refine XS.iconst X54.here hx rfl (hb hby at_107) ?_
      show Steps p.tables e below (T54.setTop (mkF m 108 #[.val (.int p0), .val (.int p1), .val (.int p2), .val (.int p3), .val (.int p4), .val (.int (4 : Int32)), .val (.long (own_s p1)), .second, .val (.long (own_s p2)), .second, .val (.long (own_s p3)), .second, .val (.long (own_s p4)), .second, .val (.ref b45), .val (.ref b46), .val (.long (((0 : Int64) + ((own_s p1) * (own_s p1))) + ((own_s p2) * (own_s p2)))), .second, .unset] [(.int (2 : Int32)), (.ref b45)])) _
      refine XS.lload X54.here hx rfl (hb hby at_108) rfl ?_
      show Steps p.tables e below (T54.setTop (mkF m 110 #[.val (.int p0), .val (.int p1), .val (.int p2), .val (.int p3), .val (.int p4), .val (.int (4 : Int32)), .val (.long (own_s p1)), .second, .val (.long (own_s p2)), .second, .val (.long (own_s p3)), .second, .val (.long (own_s p4)), .second, .val (.ref b45), .val (.ref b46), .val (.long (((0 : Int64) + ((own_s p1) * (own_s p1))) + ((own_s p2) * (own_s p2)))), .second, .unset] [(.long (own_s p3)), (.int (2 : Int32)), (.ref b45)])) _
      refine XS.l2dS X54.here hx rfl (hb hby at_110) rfl rfl ?_
      show Steps p.tables e below (T54.setTop (mkF m 111 #[.val (.int p0), .val (.int p1), .val (.int p2), .val (.int p3), .val (.int p4), .val (.int (4 : Int32)), .val (.long (own_s p1)), .second, .val (.long (own_s p2)), .second, .val (.long (own_s p3)), .second, .val (.long (own_s p4)), .second, .val (.ref b45), .val (.ref b46), .val (.long (((0 : Int64) + ((own_s p1) * (own_s p1))) + ((own_s p2) * (own_s p2)))), .second, .unset] [(.double (FP.l2d (own_s p3))), (.int (2 : Int32)), (.ref b45)])) _
      refine st56 _ ?_
      show Steps p.tables e below (T56.setTop (mkF m 112 #[.val (.int p0), .val (.int p1), .val (.int p2), .val (.int p3), .val (.int p4), .val (.int (4 : Int32)), .val (.long (own_s p1)), .second, .val (.long (own_s p2)), .second, .val (.long (own_s p3)), .second, .val (.long (own_s p4)), .second, .val (.ref b45), .val (.ref b46), .val (.long (((0 : Int64) + ((own_s p1) * (own_s p1))) + ((own_s p2) * (own_s p2)))), .second, .unset] [])) _
      refine XS.aload X56.here hx rfl (hb hby at_112) rfl rfl ?_
      show Steps p.tables e below (T56.setTop (mkF m 114 #[.val (.int p0), .val (.int p1), .val (.int p2), .val (.int p3), .val (.int p4), .val (.int (4 : Int32)), .val (.long (own_s p1)), .second, .val (.long (own_s p2)), .second, .val (.long (own_s p3)), .second, .val (.long (own_s p4)), .second, .val (.ref b45), .val (.ref b46), .val (.long (((0 : Int64) + ((own_s p1) * (own_s p1))) + ((own_s p2) * (own_s p2)))), .second, .unset] [(.ref b46)])) _
      refine XS.iconst X56.here hx rfl (hb hby at_114) ?_
      show Steps p.tables e below (T56.setTop (mkF m 115 #[.val (.int p0), .val (.int p1), .val (.int p2), .val (.int p3), .val (.int p4), .val (.int (4 : Int32)), .val (.long (own_s p1)), .second, .val (.long (own_s p2)), .second, .val (.long (own_s p3)), .second, .val (.long (own_s p4)), .second, .val (.ref b45), .val (.ref b46), .val (.long (((0 : Int64) + ((own_s p1) * (own_s p1))) + ((own_s p2) * (own_s p2)))), .second, .unset] [(.int (2 : Int32)), (.ref b46)])) _
      refine XS.iconst X56.here hx rfl (hb hby at_115) ?_
      show Steps p.tables e below (T56.setTop (mkF m 116 #[.val (.int p0), .val (.int p1), .val (.int p2), .val (.int p3), .val (.int p4), .val (.int (4 : Int32)), .val (.long (own_s p1)), .second, .val (.long (own_s p2)), .second, .val (.long (own_s p3)), .second, .val (.long (own_s p4)), .second, .val (.ref b45), .val (.ref b46), .val (.long (((0 : Int64) + ((own_s p1) * (own_s p1))) + ((own_s p2) * (own_s p2)))), .second, .unset] [(.int (2 : Int32)), (.int (2 : Int32)), (.ref b46)])) _
      refine st58 _ ?_
      show Steps p.tables e below (T58.setTop (mkF m 117 #[.val (.int p0), .val (.int p1), .val (.int p2), .val (.int p3), .val (.int p4), .val (.int (4 : Int32)), .val (.long (own_s p1)), .second, .val (.long (own_s p2)), .second, .val (.long (own_s p3)), .second, .val (.long (own_s p4)), .second, .val (.ref b45), .val (.ref b46), .val (.long (((0 : Int64) + ((own_s p1) * (own_s p1))) + ((own_s p2) * (own_s p2)))), .second, .unset] [])) _
      refine XS.lload X58.here hx rfl (hb hby at_117) rfl ?_
      show Steps p.tables e below (T58.setTop (mkF m 119 #[.val (.int p0), .val (.int p1), .val (.int p2), .val (.int p3), .val (.int p4), .val (.int (4 : Int32)), .val (.long (own_s p1)), .second, .val (.long (own_s p2)), .second, .val (.long (own_s p3)), .second, .val (.long (own_s p4)), .second, .val (.ref b45), .val (.ref b46), .val (.long (((0 : Int64) + ((own_s p1) * (own_s p1))) + ((own_s p2) * (own_s p2)))), .second, .unset] [(.long (((0 : Int64) + ((own_s p1) * (own_s p1))) + ((own_s p2) * (own_s p2))))])) _
      refine XS.lload X58.here hx rfl (hb hby at_119) rfl ?_
      show Steps p.tables e below (T58.setTop (mkF m 121 #[.val (.int p0), .val (.int p1), .val (.int p2), .val (.int p3), .val (.int p4), .val (.int (4 : Int32)), .val (.long (own_s p1)), .second, .val (.long (own_s p2)), .second, .val (.long (own_s p3)), .second, .val (.long (own_s p4)), .second, .val (.ref b45), .val (.ref b46), .val (.long (((0 : Int64) + ((own_s p1) * (own_s p1))) + ((own_s p2) * (own_s p2)))), .second, .unset] [(.long (own_s p3)), (.long (((0 : Int64) + ((own_s p1) * (own_s p1))) + ((own_s p2) * (own_s p2))))])) _
      refine XS.lload X58.here hx rfl (hb hby at_121) rfl ?_
      show Steps p.tables e below (T58.setTop (mkF m 123 #[.val (.int p0), .val (.int p1), .val (.int p2), .val (.int p3), .val (.int p4), .val (.int (4 : Int32)), .val (.long (own_s p1)), .second, .val (.long (own_s p2)), .second, .val (.long (own_s p3)), .second, .val (.long (own_s p4)), .second, .val (.ref b45), .val (.ref b46), .val (.long (((0 : Int64) + ((own_s p1) * (own_s p1))) + ((own_s p2) * (own_s p2)))), .second, .unset] [(.long (own_s p3)), (.long (own_s p3)), (.long (((0 : Int64) + ((own_s p1) * (own_s p1))) + ((own_s p2) * (own_s p2))))])) _
      refine XS.lmul X58.here hx rfl (hb hby at_123) rfl ?_
      show Steps p.tables e below (T58.setTop (mkF m 124 #[.val (.int p0), .val (.int p1), .val (.int p2), .val (.int p3), .val (.int p4), .val (.int (4 : Int32)), .val (.long (own_s p1)), .second, .val (.long (own_s p2)), .second, .val (.long (own_s p3)), .second, .val (.long (own_s p4)), .second, .val (.ref b45), .val (.ref b46), .val (.long (((0 : Int64) + ((own_s p1) * (own_s p1))) + ((own_s p2) * (own_s p2)))), .second, .unset] [(.long ((own_s p3) * (own_s p3))), (.long (((0 : Int64) + ((own_s p1) * (own_s p1))) + ((own_s p2) * (own_s p2))))])) _
      refine XS.ladd X58.here hx rfl (hb hby at_124) rfl ?_
      show Steps p.tables e below (T58.setTop (mkF m 125 #[.val (.int p0), .val (.int p1), .val (.int p2), .val (.int p3), .val (.int p4), .val (.int (4 : Int32)), .val (.long (own_s p1)), .second, .val (.long (own_s p2)), .second, .val (.long (own_s p3)), .second, .val (.long (own_s p4)), .second, .val (.ref b45), .val (.ref b46), .val (.long (((0 : Int64) + ((own_s p1) * (own_s p1))) + ((own_s p2) * (own_s p2)))), .second, .unset] [(.long ((((0 : Int64) + ((own_s p1) * (own_s p1))) + ((own_s p2) * (own_s p2))) + ((own_s p3) * (own_s p3))))])) _
      refine XS.lstore X58.here hx rfl (hb hby at_125) rfl (l' := #[.val (.int p0), .val (.int p1), .val (.int p2), .val (.int p3), .val (.int p4), .val (.int (4 : Int32)), .val (.long (own_s p1)), .second, .val (.long (own_s p2)), .second, .val (.long (own_s p3)), .second, .val (.long (own_s p4)), .second, .val (.ref b45), .val (.ref b46), .val (.long ((((0 : Int64) + ((own_s p1) * (own_s p1))) + ((own_s p2) * (own_s p2))) + ((own_s p3) * (own_s p3)))), .second, .unset]) rfl ?_
      show Steps p.tables e below (T58.setTop (mkF m 127 #[.val (.int p0), .val (.int p1), .val (.int p2), .val (.int p3), .val (.int p4), .val (.int (4 : Int32)), .val (.long (own_s p1)), .second, .val (.long (own_s p2)), .second, .val (.long (own_s p3)), .second, .val (.long (own_s p4)), .second, .val (.ref b45), .val (.ref b46), .val (.long ((((0 : Int64) + ((own_s p1) * (own_s p1))) + ((own_s p2) * (own_s p2))) + ((own_s p3) * (own_s p3)))), .second, .unset] [])) _
      refine XS.iload X58.here hx rfl (hb hby at_127) rfl ?_
      show Steps p.tables e below (T58.setTop (mkF m 129 #[.val (.int p0), .val (.int p1), .val (.int p2), .val (.int p3), .val (.int p4), .val (.int (4 : Int32)), .val (.long (own_s p1)), .second, .val (.long (own_s p2)), .second, .val (.long (own_s p3)), .second, .val (.long (own_s p4)), .second, .val (.ref b45), .val (.ref b46), .val (.long ((((0 : Int64) + ((own_s p1) * (own_s p1))) + ((own_s p2) * (own_s p2))) + ((own_s p3) * (own_s p3)))), .second, .unset] [(.int (4 : Int32))])) _
      refine XS.iconst X58.here hx rfl (hb hby at_129) ?_
      show Steps p.tables e below (T58.setTop (mkF m 130 #[.val (.int p0), .val (.int p1), .val (.int p2), .val (.int p3), .val (.int p4), .val (.int (4 : Int32)), .val (.long (own_s p1)), .second, .val (.long (own_s p2)), .second, .val (.long (own_s p3)), .second, .val (.long (own_s p4)), .second, .val (.ref b45), .val (.ref b46), .val (.long ((((0 : Int64) + ((own_s p1) * (own_s p1))) + ((own_s p2) * (own_s p2))) + ((own_s p3) * (own_s p3)))), .second, .unset] [(.int (3 : Int32)), (.int (4 : Int32))])) _
      refine XS.icmpNo X58.here hx rfl (hb hby at_130) rfl (by decide) ?_
      show Steps p.tables e below (T58.setTop (mkF m 133 #[.val (.int p0), .val (.int p1), .val (.int p2), .val (.int p3), .val (.int p4), .val (.int (4 : Int32)), .val (.long (own_s p1)), .second, .val (.long (own_s p2)), .second, .val (.long (own_s p3)), .second, .val (.long (own_s p4)), .second, .val (.ref b45), .val (.ref b46), .val (.long ((((0 : Int64) + ((own_s p1) * (own_s p1))) + ((own_s p2) * (own_s p2))) + ((own_s p3) * (own_s p3)))), .second, .unset] [])) _
      refine XS.aload X58.here hx rfl (hb hby at_133) rfl rfl ?_
      show Steps p.tables e below (T58.setTop (mkF m 135 #[.val (.int p0), .val (.int p1), .val (.int p2), .val (.int p3), .val (.int p4), .val (.int (4 : Int32)), .val (.long (own_s p1)), .second, .val (.long (own_s p2)), .second, .val (.long (own_s p3)), .second, .val (.long (own_s p4)), .second, .val (.ref b45), .val (.ref b46), .val (.long ((((0 : Int64) + ((own_s p1) * (own_s p1))) + ((own_s p2) * (own_s p2))) + ((own_s p3) * (own_s p3)))), .second, .unset] [(.ref b45)])) _
      refine XS.iconst X58.here hx rfl (hb hby at_135) ?_
      show Steps p.tables e below (T58.setTop (mkF m 136 #[.val (.int p0), .val (.int p1), .val (.int p2), .val (.int p3), .val (.int p4), .val (.int (4 : Int32)), .val (.long (own_s p1)), .second, .val (.long (own_s p2)), .second, .val (.long (own_s p3)), .second, .val (.long (own_s p4)), .second, .val (.ref b45), .val (.ref b46), .val (.long ((((0 : Int64) + ((own_s p1) * (own_s p1))) + ((own_s p2) * (own_s p2))) + ((own_s p3) * (own_s p3)))), .second, .unset] [(.int (3 : Int32)), (.ref b45)])) _
      refine XS.lload X58.here hx rfl (hb hby at_136) rfl ?_
      show Steps p.tables e below (T58.setTop (mkF m 138 #[.val (.int p0), .val (.int p1), .val (.int p2), .val (.int p3), .val (.int p4), .val (.int (4 : Int32)), .val (.long (own_s p1)), .second, .val (.long (own_s p2)), .second, .val (.long (own_s p3)), .second, .val (.long (own_s p4)), .second, .val (.ref b45), .val (.ref b46), .val (.long ((((0 : Int64) + ((own_s p1) * (own_s p1))) + ((own_s p2) * (own_s p2))) + ((own_s p3) * (own_s p3)))), .second, .unset] [(.long (own_s p4)), (.int (3 : Int32)), (.ref b45)])) _
      refine XS.l2dS X58.here hx rfl (hb hby at_138) rfl rfl ?_
      show Steps p.tables e below (T58.setTop (mkF m 139 #[.val (.int p0), .val (.int p1), .val (.int p2), .val (.int p3), .val (.int p4), .val (.int (4 : Int32)), .val (.long (own_s p1)), .second, .val (.long (own_s p2)), .second, .val (.long (own_s p3)), .second, .val (.long (own_s p4)), .second, .val (.ref b45), .val (.ref b46), .val (.long ((((0 : Int64) + ((own_s p1) * (own_s p1))) + ((own_s p2) * (own_s p2))) + ((own_s p3) * (own_s p3)))), .second, .unset] [(.double (FP.l2d (own_s p4))), (.int (3 : Int32)), (.ref b45)])) _
      refine st60 _ ?_
      show Steps p.tables e below (T60.setTop (mkF m 140 #[.val (.int p0), .val (.int p1), .val (.int p2), .val (.int p3), .val (.int p4), .val (.int (4 : Int32)), .val (.long (own_s p1)), .second, .val (.long (own_s p2)), .second, .val (.long (own_s p3)), .second, .val (.long (own_s p4)), .second, .val (.ref b45), .val (.ref b46), .val (.long ((((0 : Int64) + ((own_s p1) * (own_s p1))) + ((own_s p2) * (own_s p2))) + ((own_s p3) * (own_s p3)))), .second, .unset] [])) _
      refine XS.aload X60.here hx rfl (hb hby at_140) rfl rfl ?_
      show Steps p.tables e below (T60.setTop (mkF m 142 #[.val (.int p0), .val (.int p1), .val (.int p2), .val (.int p3), .val (.int p4), .val (.int (4 : Int32)), .val (.long (own_s p1)), .second, .val (.long (own_s p2)), .second, .val (.long (own_s p3)), .second, .val (.long (own_s p4)), .second, .val (.ref b45), .val (.ref b46), .val (.long ((((0 : Int64) + ((own_s p1) * (own_s p1))) + ((own_s p2) * (own_s p2))) + ((own_s p3) * (own_s p3)))), .second, .unset] [(.ref b46)])) _
      refine XS.iconst X60.here hx rfl (hb hby at_142) ?_
      show Steps p.tables e below (T60.setTop (mkF m 143 #[.val (.int p0), .val (.int p1), .val (.int p2), .val (.int p3), .val (.int p4), .val (.int (4 : Int32)), .val (.long (own_s p1)), .second, .val (.long (own_s p2)), .second, .val (.long (own_s p3)), .second, .val (.long (own_s p4)), .second, .val (.ref b45), .val (.ref b46), .val (.long ((((0 : Int64) + ((own_s p1) * (own_s p1))) + ((own_s p2) * (own_s p2))) + ((own_s p3) * (own_s p3)))), .second, .unset] [(.int (3 : Int32)), (.ref b46)])) _
      refine XS.iconst X60.here hx rfl (hb hby at_143) ?_
      show Steps p.tables e below (T60.setTop (mkF m 144 #[.val (.int p0), .val (.int p1), .val (.int p2), .val (.int p3), .val (.int p4), .val (.int (4 : Int32)), .val (.long (own_s p1)), .second, .val (.long (own_s p2)), .second, .val (.long (own_s p3)), .second, .val (.long (own_s p4)), .second, .val (.ref b45), .val (.ref b46), .val (.long ((((0 : Int64) + ((own_s p1) * (own_s p1))) + ((own_s p2) * (own_s p2))) + ((own_s p3) * (own_s p3)))), .second, .unset] [(.int (3 : Int32)), (.int (3 : Int32)), (.ref b46)])) _
      refine st62 _ ?_
      show Steps p.tables e below (T62.setTop (mkF m 145 #[.val (.int p0), .val (.int p1), .val (.int p2), .val (.int p3), .val (.int p4), .val (.int (4 : Int32)), .val (.long (own_s p1)), .second, .val (.long (own_s p2)), .second, .val (.long (own_s p3)), .second, .val (.long (own_s p4)), .second, .val (.ref b45), .val (.ref b46), .val (.long ((((0 : Int64) + ((own_s p1) * (own_s p1))) + ((own_s p2) * (own_s p2))) + ((own_s p3) * (own_s p3)))), .second, .unset] [])) _
      refine XS.lload X62.here hx rfl (hb hby at_145) rfl ?_
      show Steps p.tables e below (T62.setTop (mkF m 147 #[.val (.int p0), .val (.int p1), .val (.int p2), .val (.int p3), .val (.int p4), .val (.int (4 : Int32)), .val (.long (own_s p1)), .second, .val (.long (own_s p2)), .second, .val (.long (own_s p3)), .second, .val (.long (own_s p4)), .second, .val (.ref b45), .val (.ref b46), .val (.long ((((0 : Int64) + ((own_s p1) * (own_s p1))) + ((own_s p2) * (own_s p2))) + ((own_s p3) * (own_s p3)))), .second, .unset] [(.long ((((0 : Int64) + ((own_s p1) * (own_s p1))) + ((own_s p2) * (own_s p2))) + ((own_s p3) * (own_s p3))))])) _
      refine XS.lload X62.here hx rfl (hb hby at_147) rfl ?_
      show Steps p.tables e below (T62.setTop (mkF m 149 #[.val (.int p0), .val (.int p1), .val (.int p2), .val (.int p3), .val (.int p4), .val (.int (4 : Int32)), .val (.long (own_s p1)), .second, .val (.long (own_s p2)), .second, .val (.long (own_s p3)), .second, .val (.long (own_s p4)), .second, .val (.ref b45), .val (.ref b46), .val (.long ((((0 : Int64) + ((own_s p1) * (own_s p1))) + ((own_s p2) * (own_s p2))) + ((own_s p3) * (own_s p3)))), .second, .unset] [(.long (own_s p4)), (.long ((((0 : Int64) + ((own_s p1) * (own_s p1))) + ((own_s p2) * (own_s p2))) + ((own_s p3) * (own_s p3))))])) _
      refine XS.lload X62.here hx rfl (hb hby at_149) rfl ?_
      show Steps p.tables e below (T62.setTop (mkF m 151 #[.val (.int p0), .val (.int p1), .val (.int p2), .val (.int p3), .val (.int p4), .val (.int (4 : Int32)), .val (.long (own_s p1)), .second, .val (.long (own_s p2)), .second, .val (.long (own_s p3)), .second, .val (.long (own_s p4)), .second, .val (.ref b45), .val (.ref b46), .val (.long ((((0 : Int64) + ((own_s p1) * (own_s p1))) + ((own_s p2) * (own_s p2))) + ((own_s p3) * (own_s p3)))), .second, .unset] [(.long (own_s p4)), (.long (own_s p4)), (.long ((((0 : Int64) + ((own_s p1) * (own_s p1))) + ((own_s p2) * (own_s p2))) + ((own_s p3) * (own_s p3))))])) _
      refine XS.lmul X62.here hx rfl (hb hby at_151) rfl ?_
      show Steps p.tables e below (T62.setTop (mkF m 152 #[.val (.int p0), .val (.int p1), .val (.int p2), .val (.int p3), .val (.int p4), .val (.int (4 : Int32)), .val (.long (own_s p1)), .second, .val (.long (own_s p2)), .second, .val (.long (own_s p3)), .second, .val (.long (own_s p4)), .second, .val (.ref b45), .val (.ref b46), .val (.long ((((0 : Int64) + ((own_s p1) * (own_s p1))) + ((own_s p2) * (own_s p2))) + ((own_s p3) * (own_s p3)))), .second, .unset] [(.long ((own_s p4) * (own_s p4))), (.long ((((0 : Int64) + ((own_s p1) * (own_s p1))) + ((own_s p2) * (own_s p2))) + ((own_s p3) * (own_s p3))))])) _
      refine XS.ladd X62.here hx rfl (hb hby at_152) rfl ?_
      show Steps p.tables e below (T62.setTop (mkF m 153 #[.val (.int p0), .val (.int p1), .val (.int p2), .val (.int p3), .val (.int p4), .val (.int (4 : Int32)), .val (.long (own_s p1)), .second, .val (.long (own_s p2)), .second, .val (.long (own_s p3)), .second, .val (.long (own_s p4)), .second, .val (.ref b45), .val (.ref b46), .val (.long ((((0 : Int64) + ((own_s p1) * (own_s p1))) + ((own_s p2) * (own_s p2))) + ((own_s p3) * (own_s p3)))), .second, .unset] [(.long (((((0 : Int64) + ((own_s p1) * (own_s p1))) + ((own_s p2) * (own_s p2))) + ((own_s p3) * (own_s p3))) + ((own_s p4) * (own_s p4))))])) _
      refine XS.lstore X62.here hx rfl (hb hby at_153) rfl (l' := #[.val (.int p0), .val (.int p1), .val (.int p2), .val (.int p3), .val (.int p4), .val (.int (4 : Int32)), .val (.long (own_s p1)), .second, .val (.long (own_s p2)), .second, .val (.long (own_s p3)), .second, .val (.long (own_s p4)), .second, .val (.ref b45), .val (.ref b46), .val (.long (((((0 : Int64) + ((own_s p1) * (own_s p1))) + ((own_s p2) * (own_s p2))) + ((own_s p3) * (own_s p3))) + ((own_s p4) * (own_s p4)))), .second, .unset]) rfl ?_
      show Steps p.tables e below (T62.setTop (mkF m 155 #[.val (.int p0), .val (.int p1), .val (.int p2), .val (.int p3), .val (.int p4), .val (.int (4 : Int32)), .val (.long (own_s p1)), .second, .val (.long (own_s p2)), .second, .val (.long (own_s p3)), .second, .val (.long (own_s p4)), .second, .val (.ref b45), .val (.ref b46), .val (.long (((((0 : Int64) + ((own_s p1) * (own_s p1))) + ((own_s p2) * (own_s p2))) + ((own_s p3) * (own_s p3))) + ((own_s p4) * (own_s p4)))), .second, .unset] [])) _
      refine st63 _ ?_
      show Steps p.tables e below (T63.setTop (mkF m 158 #[.val (.int p0), .val (.int p1), .val (.int p2), .val (.int p3), .val (.int p4), .val (.int (4 : Int32)), .val (.long (own_s p1)), .second, .val (.long (own_s p2)), .second, .val (.long (own_s p3)), .second, .val (.long (own_s p4)), .second, .val (.ref b45), .val (.ref b46), .val (.long (((((0 : Int64) + ((own_s p1) * (own_s p1))) + ((own_s p2) * (own_s p2))) + ((own_s p3) * (own_s p3))) + ((own_s p4) * (own_s p4)))), .second, .unset] [(.ref b63)])) _
      refine XS.dup X63.here hx rfl (hb hby at_158) rfl rfl ?_
      show Steps p.tables e below (T63.setTop (mkF m 159 #[.val (.int p0), .val (.int p1), .val (.int p2), .val (.int p3), .val (.int p4), .val (.int (4 : Int32)), .val (.long (own_s p1)), .second, .val (.long (own_s p2)), .second, .val (.long (own_s p3)), .second, .val (.long (own_s p4)), .second, .val (.ref b45), .val (.ref b46), .val (.long (((((0 : Int64) + ((own_s p1) * (own_s p1))) + ((own_s p2) * (own_s p2))) + ((own_s p3) * (own_s p3))) + ((own_s p4) * (own_s p4)))), .second, .unset] [(.ref b63), (.ref b63)])) _
      refine XS.aload X63.here hx rfl (hb hby at_159) rfl rfl ?_
      show Steps p.tables e below (T63.setTop (mkF m 161 #[.val (.int p0), .val (.int p1), .val (.int p2), .val (.int p3), .val (.int p4), .val (.int (4 : Int32)), .val (.long (own_s p1)), .second, .val (.long (own_s p2)), .second, .val (.long (own_s p3)), .second, .val (.long (own_s p4)), .second, .val (.ref b45), .val (.ref b46), .val (.long (((((0 : Int64) + ((own_s p1) * (own_s p1))) + ((own_s p2) * (own_s p2))) + ((own_s p3) * (own_s p3))) + ((own_s p4) * (own_s p4)))), .second, .unset] [(.ref b46), (.ref b63), (.ref b63)])) _
      refine XS.aload X63.here hx rfl (hb hby at_161) rfl rfl ?_
      show Steps p.tables e below (T63.setTop (mkF m 163 #[.val (.int p0), .val (.int p1), .val (.int p2), .val (.int p3), .val (.int p4), .val (.int (4 : Int32)), .val (.long (own_s p1)), .second, .val (.long (own_s p2)), .second, .val (.long (own_s p3)), .second, .val (.long (own_s p4)), .second, .val (.ref b45), .val (.ref b46), .val (.long (((((0 : Int64) + ((own_s p1) * (own_s p1))) + ((own_s p2) * (own_s p2))) + ((own_s p3) * (own_s p3))) + ((own_s p4) * (own_s p4)))), .second, .unset] [(.ref b45), (.ref b46), (.ref b63), (.ref b63)])) _
      refine st64.trans ?_
      show Steps p.tables e below (T64.setTop (mkF m 166 #[.val (.int p0), .val (.int p1), .val (.int p2), .val (.int p3), .val (.int p4), .val (.int (4 : Int32)), .val (.long (own_s p1)), .second, .val (.long (own_s p2)), .second, .val (.long (own_s p3)), .second, .val (.long (own_s p4)), .second, .val (.ref b45), .val (.ref b46), .val (.long (((((0 : Int64) + ((own_s p1) * (own_s p1))) + ((own_s p2) * (own_s p2))) + ((own_s p3) * (own_s p3))) + ((own_s p4) * (own_s p4)))), .second, .unset] [(.ref b63)])) _
      refine XS.astore X64.here hx rfl (hb hby at_166) rfl rfl (l' := #[.val (.int p0), .val (.int p1), .val (.int p2), .val (.int p3), .val (.int p4), .val (.int (4 : Int32)), .val (.long (own_s p1)), .second, .val (.long (own_s p2)), .second, .val (.long (own_s p3)), .second, .val (.long (own_s p4)), .second, .val (.ref b45), .val (.ref b46), .val (.long (((((0 : Int64) + ((own_s p1) * (own_s p1))) + ((own_s p2) * (own_s p2))) + ((own_s p3) * (own_s p3))) + ((own_s p4) * (own_s p4)))), .second, .val (.ref b63)]) rfl ?_
      show Steps p.tables e below (T64.setTop (mkF m 168 #[.val (.int p0), .val (.int p1), .val (.int p2), .val (.int p3), .val (.int p4), .val (.int (4 : Int32)), .val (.long (own_s p1)), .second, .val (.long (own_s p2)), .second, .val (.long (own_s p3)), .second, .val (.long (own_s p4)), .second, .val (.ref b45), .val (.ref b46), .val (.long (((((0 : Int64) + ((own_s p1) * (own_s p1))) + ((own_s p2) * (own_s p2))) + ((own_s p3) * (own_s p3))) + ((own_s p4) * (own_s p4)))), .second, .val (.ref b63)] [])) _
      refine XS.aload X64.here hx rfl (hb hby at_168) rfl rfl ?_
      show Steps p.tables e below (T64.setTop (mkF m 170 #[.val (.int p0), .val (.int p1), .val (.int p2), .val (.int p3), .val (.int p4), .val (.int (4 : Int32)), .val (.long (own_s p1)), .second, .val (.long (own_s p2)), .second, .val (.long (own_s p3)), .second, .val (.long (own_s p4)), .second, .val (.ref b45), .val (.ref b46), .val (.long (((((0 : Int64) + ((own_s p1) * (own_s p1))) + ((own_s p2) * (own_s p2))) + ((own_s p3) * (own_s p3))) + ((own_s p4) * (own_s p4)))), .second, .val (.ref b63)] [(.ref b63)])) _
      refine st65.trans ?_
      show Steps p.tables e below (T65.setTop (mkF m 173 #[.val (.int p0), .val (.int p1), .val (.int p2), .val (.int p3), .val (.int p4), .val (.int (4 : Int32)), .val (.long (own_s p1)), .second, .val (.long (own_s p2)), .second, .val (.long (own_s p3)), .second, .val (.long (own_s p4)), .second, .val (.ref b45), .val (.ref b46), .val (.long (((((0 : Int64) + ((own_s p1) * (own_s p1))) + ((own_s p2) * (own_s p2))) + ((own_s p3) * (own_s p3))) + ((own_s p4) * (own_s p4)))), .second, .val (.ref b63)] [(.double (FP.l2d (((((0 : Int64) + ((own_s p1) * (own_s p1))) + ((own_s p2) * (own_s p2))) + ((own_s p3) * (own_s p3))) + ((own_s p4) * (own_s p4)))))])) _
      refine XS.lload X65.here hx rfl (hb hby at_173) rfl ?_
      show Steps p.tables e below (T65.setTop (mkF m 175 #[.val (.int p0), .val (.int p1), .val (.int p2), .val (.int p3), .val (.int p4), .val (.int (4 : Int32)), .val (.long (own_s p1)), .second, .val (.long (own_s p2)), .second, .val (.long (own_s p3)), .second, .val (.long (own_s p4)), .second, .val (.ref b45), .val (.ref b46), .val (.long (((((0 : Int64) + ((own_s p1) * (own_s p1))) + ((own_s p2) * (own_s p2))) + ((own_s p3) * (own_s p3))) + ((own_s p4) * (own_s p4)))), .second, .val (.ref b63)] [(.long (((((0 : Int64) + ((own_s p1) * (own_s p1))) + ((own_s p2) * (own_s p2))) + ((own_s p3) * (own_s p3))) + ((own_s p4) * (own_s p4)))), (.double (FP.l2d (((((0 : Int64) + ((own_s p1) * (own_s p1))) + ((own_s p2) * (own_s p2))) + ((own_s p3) * (own_s p3))) + ((own_s p4) * (own_s p4)))))])) _
      refine XS.l2dS X65.here hx rfl (hb hby at_175) rfl rfl ?_
      show Steps p.tables e below (T65.setTop (mkF m 176 #[.val (.int p0), .val (.int p1), .val (.int p2), .val (.int p3), .val (.int p4), .val (.int (4 : Int32)), .val (.long (own_s p1)), .second, .val (.long (own_s p2)), .second, .val (.long (own_s p3)), .second, .val (.long (own_s p4)), .second, .val (.ref b45), .val (.ref b46), .val (.long (((((0 : Int64) + ((own_s p1) * (own_s p1))) + ((own_s p2) * (own_s p2))) + ((own_s p3) * (own_s p3))) + ((own_s p4) * (own_s p4)))), .second, .val (.ref b63)] [(.double (FP.l2d (((((0 : Int64) + ((own_s p1) * (own_s p1))) + ((own_s p2) * (own_s p2))) + ((own_s p3) * (own_s p3))) + ((own_s p4) * (own_s p4))))), (.double (FP.l2d (((((0 : Int64) + ((own_s p1) * (own_s p1))) + ((own_s p2) * (own_s p2))) + ((own_s p3) * (own_s p3))) + ((own_s p4) * (own_s p4)))))])) _
      refine XS.dcmpS X65.here hx rfl (hb hby at_176) rfl rfl ?_
      show Steps p.tables e below (T65.setTop (mkF m 177 #[.val (.int p0), .val (.int p1), .val (.int p2), .val (.int p3), .val (.int p4), .val (.int (4 : Int32)), .val (.long (own_s p1)), .second, .val (.long (own_s p2)), .second, .val (.long (own_s p3)), .second, .val (.long (own_s p4)), .second, .val (.ref b45), .val (.ref b46), .val (.long (((((0 : Int64) + ((own_s p1) * (own_s p1))) + ((own_s p2) * (own_s p2))) + ((own_s p3) * (own_s p3))) + ((own_s p4) * (own_s p4)))), .second, .val (.ref b63)] [(.int (cmpValue (FP.dcmp (FP.l2d (((((0 : Int64) + ((own_s p1) * (own_s p1))) + ((own_s p2) * (own_s p2))) + ((own_s p3) * (own_s p3))) + ((own_s p4) * (own_s p4)))) (FP.l2d (((((0 : Int64) + ((own_s p1) * (own_s p1))) + ((own_s p2) * (own_s p2))) + ((own_s p3) * (own_s p3))) + ((own_s p4) * (own_s p4))))) .l))])) _
      refine XS.ifNo X65.here hx rfl (hb hby at_177) rfl (own_end _) ?_
      show Steps p.tables e below (T65.setTop (mkF m 180 #[.val (.int p0), .val (.int p1), .val (.int p2), .val (.int p3), .val (.int p4), .val (.int (4 : Int32)), .val (.long (own_s p1)), .second, .val (.long (own_s p2)), .second, .val (.long (own_s p3)), .second, .val (.long (own_s p4)), .second, .val (.ref b45), .val (.ref b46), .val (.long (((((0 : Int64) + ((own_s p1) * (own_s p1))) + ((own_s p2) * (own_s p2))) + ((own_s p3) * (own_s p3))) + ((own_s p4) * (own_s p4)))), .second, .val (.ref b63)] [])) _
      refine XS.iconst X65.here hx rfl (hb hby at_180) ?_
      show Steps p.tables e below (T65.setTop (mkF m 181 #[.val (.int p0), .val (.int p1), .val (.int p2), .val (.int p3), .val (.int p4), .val (.int (4 : Int32)), .val (.long (own_s p1)), .second, .val (.long (own_s p2)), .second, .val (.long (own_s p3)), .second, .val (.long (own_s p4)), .second, .val (.ref b45), .val (.ref b46), .val (.long (((((0 : Int64) + ((own_s p1) * (own_s p1))) + ((own_s p2) * (own_s p2))) + ((own_s p3) * (own_s p3))) + ((own_s p4) * (own_s p4)))), .second, .val (.ref b63)] [(.int (1 : Int32))])) _
      refine XS.goto X65.here hx rfl (pc0 := 181) (pc' := 185) rfl (hb hby at_181) (by decide) (by decide) ?_
      show Steps p.tables e below (T65.setTop (mkF m 185 #[.val (.int p0), .val (.int p1), .val (.int p2), .val (.int p3), .val (.int p4), .val (.int (4 : Int32)), .val (.long (own_s p1)), .second, .val (.long (own_s p2)), .second, .val (.long (own_s p3)), .second, .val (.long (own_s p4)), .second, .val (.ref b45), .val (.ref b46), .val (.long (((((0 : Int64) + ((own_s p1) * (own_s p1))) + ((own_s p2) * (own_s p2))) + ((own_s p3) * (own_s p3))) + ((own_s p4) * (own_s p4)))), .second, .val (.ref b63)] [(.int (1 : Int32))])) _
      exact retN X65 hx (t := .boolean) Bd.returns (by simp) (hb hby at_185) hr
    · show Q0 Z p0 p1 p2 p3 p4 h0 n0 _ T65.heap _
      rw [eh65]
      exact ⟨rfl, N65⟩
set_option maxRecDepth 65536 in
set_option maxHeartbeats 40000000 in
theorem comes_1 {Post : Tables → Env → Array Value → State → Outcome → State → Prop} (hpost : ∀ tb e args s v u, (limb_1_1.after args s (.returned v) u = true ∧ limb_1_2.after args s (.returned v) u = true ∧ True) → FrameEnd s (.returned v) u (Jvm.fieldLocs frame_1_writes args s ++ Jvm.arrayLocs frame_1_arrays args s ++ Jvm.staticLocs frame_1_statics s) 16 128 → Post tb e args s (.returned v) u) :
    ArmFor flags0 classFile x code maxLocals ret World_1 tables_1 room_1 Calls_1 rest_1 Pre_1 Post := by
  intro l hfl _ _ p e ha hc hk s m args below hf hA hF happ hP
  obtain ⟨hcalls, hrest, hpre⟩ := hP
  obtain ⟨-, -, -, hnamed, -, -, -, hat⟩ := (Spec.applies_iff hf).mp happ
  obtain ⟨hg, hn⟩ := and_e (Cond.before_iff.mp (show (Jvm.Cond.and given_1 narrow_1).before args s = true from hpre))
  obtain ⟨hcount, hg0⟩ := and_e hg
  obtain ⟨ha0, hg1⟩ := and_e hg0
  obtain ⟨ha1, hg2⟩ := and_e hg1
  obtain ⟨ha2, hg3⟩ := and_e hg2
  obtain ⟨ha3, hg4⟩ := and_e hg3
  have ha4 := hg4
  obtain ⟨w0, w1, w2, w3, w4, rfl⟩ : ∃ w0 w1 w2 w3 w4 : Value, args = #[w0, w1, w2, w3, w4] := by
    have hs : args.size = 5 := by simpa [Cond.value, given_1] using hcount
    obtain ⟨L⟩ := args
    match L, hs with
    | [w0, w1, w2, w3, w4], _ => exact ⟨w0, w1, w2, w3, w4, rfl⟩
  have hw := fun d (hd : d ∈ tables_1) => atoms_spec (ws := Jvm.Cond.code x code maxLocals ret :: tables_1) hat d (List.mem_cons_of_mem _ hd)
  have hfit : Fit s := fun {y c} hc i hi => by
    obtain ⟨ha, rfl⟩ := Array.getElem?_eq_some_iff.mp hc
    have q := List.all_eq_true.mp ((Array.all_eq_true_iff_forall_mem.mp hF) _ (Array.getElem_mem ha)) i (List.mem_range.mpr hi)
    simpa [Array.getElem?_eq_getElem hi] using q
  obtain ⟨i0, ei0⟩ := is_v ha0
  obtain rfl : w0 = (.int i0) := Option.some.inj ei0
  obtain ⟨i1, ei1⟩ := is_v ha1
  obtain rfl : w1 = (.int i1) := Option.some.inj ei1
  obtain ⟨i2, ei2⟩ := is_v ha2
  obtain rfl : w2 = (.int i2) := Option.some.inj ei2
  obtain ⟨i3, ei3⟩ := is_v ha3
  obtain rfl : w3 = (.int i3) := Option.some.inj ei3
  obtain ⟨i4, ei4⟩ := is_v ha4
  obtain rfl : w4 = (.int i4) := Option.some.inj ei4
  obtain ⟨n, o, h1, h2, h3, _, L, rfl, ⟨rfl, N⟩, hq⟩ := rm0 l s _ hw tables_1 i0 i1 i2 i3 i4 s.heap s.heap.size (Nat.le_refl _) p e ha hc hk s m _ below hf ((Spec.applies_iff_loose hf).mp happ).1 ⟨rfl, State.Warmed39.refl s, rfl⟩ trivial
  refine ⟨n, _, h1, h2, h3, hpost _ _ _ _ _ _ ⟨Cond.after_iff.mpr rfl, Cond.after_iff.mpr (eq_i res_at (Term.int_eval (1)) rfl), trivial⟩ ⟨hq.1, hq.2.1, (hq.2.2.sift fun y hy => Or.inr (N y hy)).mono (by decide) (by decide)⟩⟩
theorem main_1_1 : Claimed_1_1 := comes_1 fun _ _ _ _ _ _ h hF => ⟨h.1, hF⟩
theorem main_1_2 : Claimed_1_2 := comes_1 fun _ _ _ _ _ _ h hF => ⟨h.2.1, hF⟩
end Jvm.Pilot.@@N@@
namespace Jvm.Pilot.@@N@@
open Jvm Jvm.ClassFile Sem Op Lib Jvm.Free Jvm.Stand Jvm.Pilot.@@N@@.Jvm.D
/-! MADE BY PROGRAM (witnessworld.py) out of the Statement's table words and the real class files: 11 classes; the members and pool entries that the words name. The judged class is class 1, her method 1. -/
namespace start1
open Jvm.ClassFile
def u (s : String) : CpInfo := .utf8 (stringToUtf16 s)
/-- a pool by its gaps: so many unusable entries, then the entry; so many at the end -/
def gap : Nat → List CpInfo → List CpInfo
  | 0, r => r
  | n + 1, r => .unusable :: gap n r
def poolList (es : List (Nat × CpInfo)) (last : Nat) : List CpInfo := es.foldr (fun e r => gap e.1 (e.2 :: r)) (gap last [])
def pool (es : List (Nat × CpInfo)) (last : Nat) : Array CpInfo := ⟨poolList es last⟩
def fileOf (pool : Array CpInfo) (this : Nat) (attrs : Array Attribute := #[]) (ms : Array MethodInfo := #[]) (fl : Nat := 33) (sup : Nat := 0) (ifs : Array Nat := #[]) (fds : Array FieldInfo := #[]) : ClassFile where
  minorVersion := 0
  majorVersion := 65
  constantPool := pool
  accessFlags := fl
  thisClass := this
  superClass := sup
  interfaces := ifs
  fields := fds
  methods := ms
  attributes := attrs
def plain (name : String) (sup : Option ClassId) : Class where
  name := name
  kind := .ordinary
  loader := none
  accessFlags := 33
  super := sup
  interfaces := #[]
  cf := none
  fields := #[]
  methods := #[]
  instanceTypes := #[]
  staticTypes := #[]
  resolved := #[]
  callSites := []
  init := .initialized
  statics := none
  mirror := none

def pool0 : Array CpInfo := pool [(5, u "<init>"), (0, u "()V"), (1, .class_ 10), (1, u "java/lang/Object")] 113

def k0c0 : Code := { maxStack := 0, maxLocals := 1, code := object_method_1_code, exceptionTable := #[], attributes := #[] }
def k0m0 : Method := { name := "<init>", desc := "()V", sig := { parameters := [], returnType := none }, accessFlags := 1, code := some k0c0 }
/-- java/lang/Object -/
def k0 : Class := { plain "java/lang/Object" none with
  accessFlags := 33
  interfaces := #[]
  cf := some (fileOf pool0 8 #[] #[{ accessFlags := 1, nameIndex := 5, descriptorIndex := 6, attributes := #[] }] 33 0 #[] #[])
  fields := #[]
  methods := #[k0m0]
  instanceTypes := #[]
  staticTypes := #[]
  resolved := Array.replicate 124 none
  statics := none }

def pool1 : Array CpInfo := pool [(2, .class_ 4), (1, u "java/lang/Object"), (0, u "<init>"), (0, u "()V"), (0, .class_ 8), (0, u "com/example/topic_crawler/topiccrawler/topic/SparseVector"), (0, .methodref 7 10), (0, .nameAndType 5 11), (0, u "([I[D)V"), (0, .methodref 7 13), (0, .nameAndType 14 15), (0, u "squaredLength"), (0, u "()D"), (0, .class_ 17), (0, u "com/example/topic_crawler/topiccrawler/topic/SparseVectorSquaredLengthPinLaw"), (2, u "law"), (0, u "(IIIII)Z")] 7

def k1m0 : Method := { name := "<init>", desc := "()V", sig := { parameters := [], returnType := none }, accessFlags := 1, code := none }
def k1c1 : Code := { maxStack := 6, maxLocals := 19, code := code, exceptionTable := #[], attributes := #[] }
def k1m1 : Method := { name := "law", desc := "(IIIII)Z", sig := { parameters := [.int, .int, .int, .int, .int], returnType := some .boolean }, accessFlags := 9, code := some k1c1 }
/-- com/example/topic_crawler/topiccrawler/topic/SparseVectorSquaredLengthPinLaw -/
def k1 : Class := { plain "com/example/topic_crawler/topiccrawler/topic/SparseVectorSquaredLengthPinLaw" (some 0) with
  accessFlags := 49
  interfaces := #[]
  cf := some (fileOf pool1 16 #[] #[{ accessFlags := 1, nameIndex := 5, descriptorIndex := 6, attributes := #[] }, { accessFlags := 9, nameIndex := 20, descriptorIndex := 21, attributes := #[] }] 49 2 #[] #[])
  fields := #[]
  methods := #[k1m0, k1m1]
  instanceTypes := #[]
  staticTypes := #[]
  resolved := Array.replicate 29 none
  statics := none }

def pool2 : Array CpInfo := pool [(1, .methodref 2 3), (0, .class_ 4), (0, .nameAndType 5 6), (0, u "java/lang/Object"), (0, u "<init>"), (0, u "()V"), (0, .fieldref 8 9), (0, .class_ 10), (0, .nameAndType 11 12), (0, u "com/example/topic_crawler/topiccrawler/topic/SparseVector"), (0, u "indices"), (0, u "[I"), (0, .fieldref 8 14), (0, .nameAndType 15 16), (0, u "values"), (0, u "[D"), (0, u "([I[D)V"), (7, u "squaredLength"), (0, u "()D")] 3

def k2c0 : Code := { maxStack := 2, maxLocals := 3, code := prog_37_method_1_code, exceptionTable := #[], attributes := #[] }
def k2m0 : Method := { name := "<init>", desc := "([I[D)V", sig := { parameters := [(.array .int), (.array .double)], returnType := none }, accessFlags := 0, code := some k2c0 }
def k2c1 : Code := { maxStack := 6, maxLocals := 8, code := prog_37_method_4_code, exceptionTable := #[], attributes := #[] }
def k2m1 : Method := { name := "squaredLength", desc := "()D", sig := { parameters := [], returnType := some .double }, accessFlags := 0, code := some k2c1 }
/-- com/example/topic_crawler/topiccrawler/topic/SparseVector -/
def k2 : Class := { plain "com/example/topic_crawler/topiccrawler/topic/SparseVector" (some 0) with
  accessFlags := 32
  interfaces := #[]
  cf := some (fileOf pool2 8 #[] #[{ accessFlags := 0, nameIndex := 5, descriptorIndex := 17, attributes := #[] }, { accessFlags := 0, nameIndex := 25, descriptorIndex := 26, attributes := #[] }] 32 2 #[] #[{ accessFlags := 18, nameIndex := 11, descriptorIndex := 12, attributes := #[] }, { accessFlags := 18, nameIndex := 15, descriptorIndex := 16, attributes := #[] }])
  fields := #[{ name := "indices", type := (.array .int), accessFlags := 18, slot := 0, constantValue := 0 }, { name := "values", type := (.array .double), accessFlags := 18, slot := 1, constantValue := 0 }]
  methods := #[k2m0, k2m1]
  instanceTypes := #[(.array .int), (.array .double)]
  staticTypes := #[]
  resolved := Array.replicate 30 none
  statics := none }

def pool3 : Array CpInfo := pool [(1, u "java/lang/Cloneable"), (0, .class_ 1), (0, u "java/lang/Object"), (0, .class_ 3)] 3

/-- java/lang/Cloneable -/
def k3 : Class := { plain "java/lang/Cloneable" (some 0) with
  accessFlags := 1537
  interfaces := #[]
  cf := some (fileOf pool3 2 #[] #[] 1537 4 #[] #[])
  fields := #[]
  methods := #[]
  instanceTypes := #[]
  staticTypes := #[]
  resolved := Array.replicate 8 none
  statics := none }

def pool4 : Array CpInfo := pool [(1, u "java/io/Serializable"), (0, .class_ 1), (0, u "java/lang/Object"), (0, .class_ 3)] 3

/-- java/io/Serializable -/
def k4 : Class := { plain "java/io/Serializable" (some 0) with
  accessFlags := 1537
  interfaces := #[]
  cf := some (fileOf pool4 2 #[] #[] 1537 4 #[] #[])
  fields := #[]
  methods := #[]
  instanceTypes := #[]
  staticTypes := #[]
  resolved := Array.replicate 8 none
  statics := none }

/-- the primitive byte -/
def k5 : Class := { plain "byte" none with kind := .primitive 'B', accessFlags := 0x411 }
/-- [B -/
def k6 : Class := { plain "[B" (some 0) with kind := .array 5 .byte, interfaces := #[3, 4], accessFlags := 1041 }

/-- the primitive double -/
def k7 : Class := { plain "double" none with kind := .primitive 'D', accessFlags := 0x411 }
/-- [D -/
def k8 : Class := { plain "[D" (some 0) with kind := .array 7 .double, interfaces := #[3, 4], accessFlags := 1041 }

/-- the primitive int -/
def k9 : Class := { plain "int" none with kind := .primitive 'I', accessFlags := 0x411 }
/-- [I -/
def k10 : Class := { plain "[I" (some 0) with kind := .array 9 .int, interfaces := #[3, 4], accessFlags := 1041 }

def heap : Heap := #[]
def classes : Array Class := #[k0, k1, k2, k3, k4, k5, k6, k7, k8, k9, k10]
def interned : List (Array UInt16 × Addr) := []
def slotsUsed : Nat := 0
def theMethod : MethodId := ⟨1, 1⟩
def args0 : Array Value := #[.int 5, .int 6, .int 7, .int 8, .int 9]
def aboutOver (below : List Frame) : State where
  vm := { classes := classes, interned := interned.toArray }
  heap := heap
  slotsUsed := slotsUsed
  threads := #[{ frames := .invoking theMethod args0 :: below }]
def below0 : List Frame := [.native { method := ⟨0, 0⟩, args := #[] }]
def about1 : State := aboutOver below0
def p0 : Program := .bare "" "" ""
def e0 : Env := launch0.env 0 0 0
theorem w_frames : about1.frames = Frame.invoking theMethod args0 :: below0 := rfl
set_option maxRecDepth 65536 in
theorem w_args : argsFit about1.vm theMethod args0 = true := by decide +kernel
set_option maxRecDepth 65536 in
theorem w_heap : heapFits about1 = true := by decide +kernel
set_option maxRecDepth 65536 in
theorem w_runnable : about1.curStatus? = some .runnable := by decide +kernel
set_option maxRecDepth 65536 in
theorem w_alone : about1.alone = true := by decide +kernel
set_option maxRecDepth 65536 in
theorem w_named : about1.methodNamed? x = some theMethod := by decide +kernel
set_option maxRecDepth 65536 in
theorem w_hears : about1.hears theMethod below0 = true := by decide +kernel
set_option maxRecDepth 65536 in
theorem w_ripe : about1.ripe theMethod args0 below0 = true := by decide +kernel
theorem w_running : about1.status = .running := rfl
set_option maxRecDepth 65536 in
theorem w_room : about1.hasRoom e0.platform room_1 = true :=
  launch0.hasRoom_least _ room_1 (by decide +kernel) (by decide +kernel) (by decide +kernel) (by decide +kernel) (by decide +kernel) (by decide +kernel)
theorem allAtoms_all (ts : List Jvm.Cond) (a : Array Jvm.Value) (st : Jvm.State) : (allAtoms ts).before a st = ts.all (fun c => c.before a st) := by
  induction ts with
  | nil => rfl
  | cons c t ih =>
    show (Jvm.Cond.and c (allAtoms t)).before a st = _
    rw [Jvm.Cond.before_and, ih, List.all_cons]
def words1 : List Jvm.Cond := Jvm.Cond.code x code maxLocals ret :: tables_1
/-- a 'code' word, met by the world's own term for the bytes: nothing is compared byte by byte -/
theorem code_word {y : MethodName} {bytes : ByteArray} {mx : Nat} {rt : Option FieldType} {a : Array Value} {s : State} {m : MethodId} {meth : Method} {c : Code} (h1 : s.methodNamed? y = some m) (h2 : s.vm.method? m = some meth) (h3 : meth.code = some c) (h4 : c.code = bytes)
    (h5 : (c.maxLocals == mx && c.exceptionTable.isEmpty && decide (c.maxStack ≤ mostOperands) && decide (meth.sig.returnType = rt) && !meth.locks && decide (parseMethodDescriptor y.desc = some meth.sig)) = true) : (Jvm.Cond.code y bytes mx rt).before a s = true := by
  simp only [Bool.and_eq_true, beq_iff_eq, Bool.not_eq_true', decide_eq_true_eq] at h5
  obtain ⟨⟨⟨⟨⟨g1, g2⟩, g3⟩, g4⟩, g5⟩, g6⟩ := h5
  simp [Cond.before, Cond.holds, Cond.value, h1, h2, h3, h4, g1, g2, g3, g4, g5, g6]
def isCode : Jvm.Cond → Bool
  | .code _ _ _ _ => true
  | _ => false
theorem all_split {L : List Jvm.Cond} {P : Jvm.Cond → Bool} (h1 : L.all (fun c => isCode c || P c) = true) (h2 : ∀ c ∈ L.filter isCode, P c = true) : L.all P = true := by
  refine List.all_eq_true.mpr fun c hc => ?_
  have h := List.all_eq_true.mp h1 c hc
  rcases Bool.eq_false_or_eq_true (isCode c) with hi | hi
  · exact h2 c (List.mem_filter.mpr ⟨hc, hi⟩)
  · simpa [hi] using h
set_option maxRecDepth 65536 in
theorem w_c0 : (Jvm.Cond.code x code maxLocals ret).before args0 about1 = true := code_word (m := ⟨1, 1⟩) (meth := k1m1) (c := k1c1) (by decide +kernel) rfl rfl rfl (by decide +kernel)
set_option maxRecDepth 65536 in
theorem w_c1 : (Jvm.Cond.code ({ cls := "com/example/topic_crawler/topiccrawler/topic/SparseVector", name := "<init>", desc := "([I[D)V" } : Jvm.MethodName) prog_37_method_1_code (3 : Nat) (Option.none : Option Jvm.ClassFile.FieldType)).before args0 about1 = true := code_word (m := ⟨2, 0⟩) (meth := k2m0) (c := k2c0) (by decide +kernel) rfl rfl rfl (by decide +kernel)
set_option maxRecDepth 65536 in
theorem w_c2 : (Jvm.Cond.code ({ cls := "java/lang/Object", name := "<init>", desc := "()V" } : Jvm.MethodName) object_method_1_code (1 : Nat) (Option.none : Option Jvm.ClassFile.FieldType)).before args0 about1 = true := code_word (m := ⟨0, 0⟩) (meth := k0m0) (c := k0c0) (by decide +kernel) rfl rfl rfl (by decide +kernel)
set_option maxRecDepth 65536 in
theorem w_c3 : (Jvm.Cond.code ({ cls := "com/example/topic_crawler/topiccrawler/topic/SparseVector", name := "squaredLength", desc := "()D" } : Jvm.MethodName) prog_37_method_4_code (8 : Nat) (Option.some Jvm.ClassFile.FieldType.double)).before args0 about1 = true := code_word (m := ⟨2, 1⟩) (meth := k2m1) (c := k2c1) (by decide +kernel) rfl rfl rfl (by decide +kernel)
def codes1 : List Jvm.Cond := [Jvm.Cond.code x code maxLocals ret, Jvm.Cond.code ({ cls := "com/example/topic_crawler/topiccrawler/topic/SparseVector", name := "<init>", desc := "([I[D)V" } : Jvm.MethodName) prog_37_method_1_code (3 : Nat) (Option.none : Option Jvm.ClassFile.FieldType), Jvm.Cond.code ({ cls := "java/lang/Object", name := "<init>", desc := "()V" } : Jvm.MethodName) object_method_1_code (1 : Nat) (Option.none : Option Jvm.ClassFile.FieldType), Jvm.Cond.code ({ cls := "com/example/topic_crawler/topiccrawler/topic/SparseVector", name := "squaredLength", desc := "()D" } : Jvm.MethodName) prog_37_method_4_code (8 : Nat) (Option.some Jvm.ClassFile.FieldType.double)]
set_option maxRecDepth 65536 in
theorem codes_eq : words1.filter isCode = codes1 := rfl
theorem w_codes : ∀ c ∈ words1.filter isCode, c.before args0 about1 = true := by
  rw [codes_eq]
  intro c hc
  simp only [codes1, List.mem_cons, List.not_mem_nil, or_false] at hc
  rcases hc with rfl | rfl | rfl | rfl
  · exact w_c0
  · exact w_c1
  · exact w_c2
  · exact w_c3
set_option maxRecDepth 65536 in
theorem w_t1 : words1.all (fun c => isCode c || c.before args0 about1) = true := by decide +kernel
theorem w_tables : (allAtoms (Jvm.Cond.code x code maxLocals ret :: tables_1)).before args0 about1 = true := by
  rw [allAtoms_all]
  show words1.all (fun c => c.before args0 about1) = true
  refine all_split ?_ w_codes
  rw [w_t1]
set_option maxRecDepth 65536 in
theorem w_case : (Jvm.Cond.and given_1 narrow_1).before args0 about1 = true := by decide +kernel
theorem w_applies : (headSpec (Jvm.Cond.code x code maxLocals ret :: tables_1) room_1).applies x e0.platform about1 = true :=
  (Spec.applies_iff w_frames).mpr ⟨w_running, w_runnable, w_alone, w_named, w_hears, w_ripe, w_room, w_tables⟩
theorem atStart : AtStart classFile x code maxLocals ret World_1 tables_1 room_1 Calls_1 rest_1 Pre_1 launch0 p0 e0 about1 theMethod args0 below0 :=
  ⟨lists_1, trivial, launch0.admits_env _ _ _, launch0.least_env, fairChoices_fair.cas, fairChoices_fair.clock, w_frames, w_args, w_heap, w_applies, trivial, trivial, w_case⟩
end start1
theorem witness_1 : WitnessClaimed_1 := ⟨start1.p0, start1.e0, start1.about1, start1.theMethod, start1.args0, start1.below0, start1.atStart⟩
end Jvm.Pilot.@@N@@
