import JvmDerived
import JvmDerived.Pilot.@@N@@Statement
import JvmDerived.Pilot.@@N@@Code
set_option linter.unusedVariables false
set_option linter.unusedSimpArgs false
@@BLOCK:NumsL.lean.txt@@
namespace Jvm.RoadKit
open Sem ClassFile Op Lib Jvm.Stand Jvm.Free Jvm.LawKit
section New
variable {p : Program} {l : Launch} {e : Env} {R : Room} {s : State} {m : MethodId} {args : Array Value} {below : List Frame} {meth : Method} {c : Code} {T : State} {locs : List Loc} {cells slots : Nat}
theorem retI (X : Stand p l e R s m args below meth c T locs cells slots) (hx : p.tables.exec = Jvm.exec) {pc : Nat} {Ls : Array Slot} {z : Int32} {rest : List Value} (hret : meth.sig.returnType = some .int) (hd : decode c.code pc = .ok (.ireturn, 1)) {fs : List Frame}
    (hl : ∀ (f : JFrame) (acts : List Action), f.method = m → f.locked = none → f.entered = [] → (doReturn e (T.setTop f) acts (some (.int z))).1 = T.setFrames fs) : Steps p.tables e below (T.setTop (mkF m pc Ls (.int z :: rest))) (T.setFrames fs) := by
  have hm' : T.vm.method? m = some meth := X.method'
  have hn : narrow .int (.int z) = .int z := rfl
  show Steps p.tables e below (T.setTop { method := m, pc := pc, locals := Ls, stack := _ :: rest, locked := none }) _
  jvm_step X.here [X.here.top, hx, hd, hm', hret, hn]
  first | (intro acts; rw [hl _ acts rfl rfl rfl]) | rw [hl _ _ rfl rfl rfl]
  exact Steps.refl _
end New
end Jvm.RoadKit
namespace Jvm.Pilot.@@N@@
open Jvm Jvm.ClassFile Sem Op Lib Jvm.Free Jvm.Stand Jvm.LawKit Jvm.RoadKit Bundle Jvm.Pilot.@@N@@.Jvm.D

/-- what is left to show at a point of a walk -/
def own_Go (tb : Tables) (e : Env) (below : List Frame) (F : State → Outcome → Prop) (A : State) : Prop := ∃ t o, Steps tb e below A t ∧ F t o
theorem own_st {tb : Tables} {e : Env} {below : List Frame} {F : State → Outcome → Prop} {A B : State} (st : ∀ t, Steps tb e below A t → Steps tb e below B t) (h : own_Go tb e below F A) : own_Go tb e below F B := by
  obtain ⟨t, o, a, b⟩ := h
  exact ⟨t, o, st t a, b⟩
theorem own_end {tb : Tables} {e : Env} {below : List Frame} {F G : State → Outcome → Prop} {A t : State} {o : Outcome} (hF : F = G) (st : Steps tb e below A t) (h : G t o) : own_Go tb e below F A := by
  subst hF
  exact ⟨t, o, st, h⟩
/-- a body's contract: called with as' over the heap h0 it returns, and leaves what Q says -/
abbrev own_Met (l : Launch) (Z : State) (y : MethodName) (bytes : ByteArray) (ml : Nat) (rt : Option FieldType) (ws : List Jvm.Cond) (rm : Room) (as' : Array Value) (h0 : Heap) (Q : Option Value → Heap → List Loc → Prop) : Prop :=
  MetFree l y (head1 (Jvm.Cond.code y bytes ml rt :: ws) rm) (fun a U => a = as' ∧ Z.Warmed39 U.vm ∧ U.heap = h0) (fun _ _ _ _ _ => True) (fun _ U o U' => ∃ v L, o = .returned v ∧ Q v U'.heap L ∧ FrameEnd U o U' L rm.cells rm.slots)
/-- what a callee leaves that returns r and writes nothing -/
def own_Qp (r : Value) (h0 : Heap) (n0 : Nat) (v : Option Value) (h : Heap) (L : List Loc) : Prop := v = some r ∧ Fr n0 L ∧ h = h0
theorem own_ext_refl {h : Heap} : Ext h h := ⟨Nat.le_refl _, fun _ _ q => q⟩
theorem own_ext_ext {h0 h h' : Heap} (K : Ext h0 h) (E : Ext h h') : Ext h0 h' := ⟨Nat.le_trans K.1 E.1, fun x c q => E.2 x c (K.2 x c q)⟩
theorem own_ext_keep {h0 h h' : Heap} {ws : List Addr} (K : Ext h0 h) (E : Keep h h' ws) (q : ∀ x ∈ ws, h0.size ≤ x) : Ext h0 h' :=
  ⟨Nat.le_trans K.1 E.1, fun x c r => E.2.1 x c (K.2 x c r) fun z => absurd (Array.getElem?_eq_some_iff.mp r).1 (Nat.not_lt.mpr (q x z))⟩
theorem own_ext_wr {h0 h h' : Heap} {a : Addr} {sl : Nat} {v : Value} (K : Ext h0 h) (W : Wr h h' a sl v) (q : h0.size ≤ a) : Ext h0 h' := own_ext_keep K (Keep.of_wr W) (allS q all0)
theorem own_fld {args : Array Value} {s : State} {t : Term} {x : Addr} {C n d : String} {k : Int32} (ev : t.eval args s none [] s = some (.ref x)) (h : (Jvm.Cond.eq (.field t C n d) (.int k)).value args s none s [] = some true) : Fld s s.heap x C n d (.int k) := by
  obtain ⟨p, q, h1, h2, -, h4⟩ := cmp_v (Or.inl h)
  cases (show some (Value.int k) = some q from h2)
  obtain ⟨z, rfl⟩ := h4
  have e : z = k := by simpa [Jvm.Cond.value, h1, h2] using h
  subst e
  rw [fld_at ev] at h1
  exact Fld.start h1

def own_Q0 (h0 : Heap) (n0 : Nat) (v : Option Value) (h : Heap) (L : List Loc) : Prop := v = some (.int (1 : Int32)) ∧ Fr n0 L
theorem own_not {Z : State} {a0 : Array Value} {n : Nat} {K : String} (wO : (Jvm.Cond.noSuperclass "java/lang/Object").before a0 Z = true) (w1 : (Jvm.Cond.superclass "java/lang/Number" "java/lang/Object").before a0 Z = true) (w2 : (Jvm.Cond.superclass "java/lang/Integer" "java/lang/Number").before a0 Z = true)
    (wi : (Jvm.Cond.instantiable K n).before a0 Z = true) (hO : "java/lang/Object" ≠ K) (hN : "java/lang/Number" ≠ K) (hI : "java/lang/Integer" ≠ K) :
    ∃ c t, Z.vm.findClass "java/lang/Integer" = some c ∧ Z.vm.findClass K = some t ∧ Z.vm.assignable c t = false := by
  obtain ⟨t, kt, g1, g2, g5, g6, -⟩ := Cond.instantiable_spec wi
  have gi : kt.isInterface = false := (Bool.or_eq_false_iff.mp g6).1
  have R0 : NS Z "java/lang/Object" K := by
    obtain ⟨c, k, h1, h2, h3, -, -⟩ := Cond.noSuperclass_spec wO
    have ne := ids_ne h1 g1 hO
    refine ⟨c, t, h1, g1, fun fuel => ?_⟩
    cases fuel with
    | zero => rfl
    | succ f => simp [Vm.isSubclassAux, ne, h2, h3]
  obtain ⟨c, t', h0, g0, n3⟩ := NS.step w2 (NS.step w1 R0 hN) hI
  cases g0.symm.trans g1
  obtain ⟨p, k, kp, -, h2, -, -, h5, -, -⟩ := Cond.superclass_spec h0 w2
  have ne := ids_ne h0 g1 hI
  refine ⟨c, t, h0, g1, ?_⟩
  show Z.vm.assignableAux (255 + 1) c t = false
  simp [Vm.assignableAux, ne, h2, g2, h5, g5, gi, Vm.isSubclass, n3]
theorem own_idx {x : Int32} (h1 : ¬ (x < (-128 : Int32))) (h2 : ¬ ((127 : Int32) < x)) : ¬ (x + (128 : Int32)) < 0 ∧ (x + (128 : Int32)) < (256 : Int32) := by
  rw [Int32.lt_iff_toInt_lt] at h1 h2
  have e1 : (-128 : Int32).toInt = -128 := rfl
  have e2 : (127 : Int32).toInt = 127 := rfl
  have e3 : (128 : Int32).toInt = 128 := rfl
  have e4 : (256 : Int32).toInt = 256 := rfl
  have e0 : (0 : Int32).toInt = 0 := rfl
  rw [e1] at h1; rw [e2] at h2
  have e : (x + (128 : Int32)).toInt = x.toInt + 128 := by
    rw [← e3]; exact Jvm.Kit.i32_add (by omega) (by omega)
  rw [Int32.lt_iff_toInt_lt, Int32.lt_iff_toInt_lt, e, e0, e4]
  omega
def own_Qn (h0 : Heap) (n0 : Nat) (v : Option Value) (h : Heap) (L : List Loc) : Prop := v = none ∧ Fr n0 L ∧ h = h0
theorem d_own_ninit_0 : decode jdk_18_method_1_code 0 = .ok (.aload_n 0, 1) := by decide +kernel
theorem d_own_ninit_1 : decode jdk_18_method_1_code 1 = .ok (.invokespecial 1, 3) := by decide +kernel
theorem d_own_ninit_4 : decode jdk_18_method_1_code 4 = .ok (.return_, 1) := by decide +kernel
theorem pn_java_lang_Number : plainName "java/lang/Number" = true := by first | (simp [plainName, overriddenIn]; done) | decide +kernel
set_option maxRecDepth 65536 in
set_option maxHeartbeats 40000000 in
theorem own_ninit (l : Launch) (Z : State) (a0 : Array Value) (hw : ∀ d ∈ tables_1, d.before a0 Z = true) (ws : List Jvm.Cond) (a1 : Addr) (h0 : Heap) (n0 : Nat)  :
    own_Met l Z (⟨"java/lang/Number", "<init>", "()V"⟩ : MethodName) jdk_18_method_1_code 1 none ws ({ frames := 1, cells := 0, slots := 0, locals := 12 } : Room) #[(.ref a1)] h0 (own_Qn h0 n0) := by
  refine MetFree.of_bodySF (plainFor_of_name pn_java_lang_Number) hisR ?_
  intro p e s m args below meth c s₁ Bd hml0 hP hK
  obtain ⟨rfl, hZ, hh⟩ := hP
  have hx := Bd.exec
  have hby := Bd.bytes
  have hml : c.maxLocals = 1 := hml0
  have hown : s.vm.findClass "java/lang/Number" = some m.cls := findClass_of_methodNamed Bd.named
  have hnm := (name_of_methodNamed Bd.named Bd.method).1
  have X0 : Stand p l e ({ frames := 1, cells := 0, slots := 0, locals := 12 } : Room) s m #[(.ref a1)] below meth c s₁ [] 0 0 := Stand.of_body Bd
  have e0 : s₁.heap = h0 := by rw [← hh, Bd.state]; rfl
  have N0 := Fr.nil n0
  have hst : entryFrame m #[(.ref a1)] 1 = mkF m 0 #[.val (.ref a1)] [] := by first | (simp [entryFrame, mkF, argsToLocals, Value.category, maxLocals]; done) | rfl
  obtain ⟨F, hF⟩ : ∃ F : State → Outcome → Prop, F = fun s₂ o => (s₂.status = .running ∧ Ended s₂ below o ∧ ∃ v L, o = .returned v ∧ (own_Qn h0 n0) v s₂.heap L ∧ FrameEnd s o s₂ L (Room.cells ({ frames := 1, cells := 0, slots := 0, locals := 12 } : Room)) (Room.slots ({ frames := 1, cells := 0, slots := 0, locals := 12 } : Room))) := ⟨_, rfl⟩
  suffices G : own_Go p.tables e below F (s₁.setTop (mkF m 0 #[.val (.ref a1)] [])) by
    obtain ⟨t, o, a, b⟩ := G
    rw [hF] at b
    exact ⟨t, o, castTop hst a, b⟩
  show own_Go p.tables e below F (s₁.setTop (mkF m 0 #[.val (.ref a1)] []))
  refine own_st (fun _ k => XS.aloadN X0.here hx rfl (hb hby d_own_ninit_0) rfl rfl k) ?_
  show own_Go p.tables e below F (s₁.setTop (mkF m 1 #[.val (.ref a1)] [(.ref a1)]))
  obtain ⟨T1, X1, e1, st1⟩ := initO X0 hx hZ hown (hw _ (List.mem_of_getElem? (i := 44) rfl)) (hw _ (List.mem_of_getElem? (i := 7) rfl)) (hw _ (List.mem_of_getElem? (i := 8) rfl)) e0 (g := (mkF m 1 #[.val (.ref a1)] [(.ref a1)])) rfl (by rw [hml]; rfl) rfl (hb hby d_own_ninit_1) (by decide) (W := 0) (by show 2 * 0 + _ ≤ _; exact Nat.le_of_eq rfl) (by decide)
  refine own_st st1 ?_
  show own_Go p.tables e below F (T1.setTop (mkF m 4 #[.val (.ref a1)] []))
  obtain ⟨fs, hrL, hrun, hended, hW, hsame⟩ := X1.leave (v := none) (fun _ => rfl)
  refine own_end hF (o := .returned none) (X1.returnOut hx Bd.returns (hb hby d_own_ninit_4) hrL) ?_
  refine ⟨hrun, hended, _, _, rfl, ?_, ⟨_, rfl⟩, hW, hsame.mono (by decide) (by decide)⟩
  exact ⟨rfl, N0, e1⟩
def own_Qi (Z : State) (a1 : Addr) (p2 : Int32) (h0 : Heap) (n0 : Nat) (v : Option Value) (h : Heap) (L : List Loc) : Prop := v = none ∧ Fr n0 L ∧ Keep h0 h [a1] ∧ Exa Z h a1 "java/lang/Integer" ∧ Fld Z h a1 "java/lang/Integer" "value" "I" (.int p2)
theorem d_own_iinit_0 : decode jdk_33_method_23_code 0 = .ok (.aload_n 0, 1) := by decide +kernel
theorem d_own_iinit_1 : decode jdk_33_method_23_code 1 = .ok (.invokespecial 202, 3) := by decide +kernel
theorem d_own_iinit_4 : decode jdk_33_method_23_code 4 = .ok (.aload_n 0, 1) := by decide +kernel
theorem d_own_iinit_5 : decode jdk_33_method_23_code 5 = .ok (.iload_n 1, 1) := by decide +kernel
theorem d_own_iinit_6 : decode jdk_33_method_23_code 6 = .ok (.putfield 205, 3) := by decide +kernel
theorem d_own_iinit_9 : decode jdk_33_method_23_code 9 = .ok (.return_, 1) := by decide +kernel
theorem pn_java_lang_Integer : plainName "java/lang/Integer" = true := by first | (simp [plainName, overriddenIn]; done) | decide +kernel
theorem pd_0 : parseMethodDescriptor "()V" = some ⟨[], none⟩ := by decide +kernel
set_option maxRecDepth 65536 in
set_option maxHeartbeats 40000000 in
theorem own_iinit (l : Launch) (Z : State) (a0 : Array Value) (hw : ∀ d ∈ tables_1, d.before a0 Z = true) (ws : List Jvm.Cond) (a1 : Addr) (p2 : Int32) (u1 : Value) (h0 : Heap) (n0 : Nat) (Z0 : n0 ≤ h0.size) (E_a1 : Exa Z h0 a1 "java/lang/Integer") (F_a1 : Fld Z h0 a1 "java/lang/Integer" "value" "I" u1) (gn_a1 : n0 ≤ a1) :
    own_Met l Z (⟨"java/lang/Integer", "<init>", "(I)V"⟩ : MethodName) jdk_33_method_23_code 2 none ws ({ frames := 2, cells := 0, slots := 0, locals := 24 } : Room) #[(.ref a1), (.int p2)] h0 (own_Qi Z a1 p2 h0 n0) := by
  refine MetFree.of_bodySF (plainFor_of_name pn_java_lang_Integer) hisR ?_
  intro p e s m args below meth c s₁ Bd hml0 hP hK
  obtain ⟨rfl, hZ, hh⟩ := hP
  have hx := Bd.exec
  have hby := Bd.bytes
  have hml : c.maxLocals = 2 := hml0
  have hown : s.vm.findClass "java/lang/Integer" = some m.cls := findClass_of_methodNamed Bd.named
  have hnm := (name_of_methodNamed Bd.named Bd.method).1
  have X0 : Stand p l e ({ frames := 2, cells := 0, slots := 0, locals := 24 } : Room) s m #[(.ref a1), (.int p2)] below meth c s₁ [] 0 0 := Stand.of_body Bd
  have e0 : s₁.heap = h0 := by rw [← hh, Bd.state]; rfl
  have N0 := Fr.nil n0
  have hst : entryFrame m #[(.ref a1), (.int p2)] 2 = mkF m 0 #[.val (.ref a1), .val (.int p2)] [] := by first | (simp [entryFrame, mkF, argsToLocals, Value.category, maxLocals]; done) | rfl
  obtain ⟨F, hF⟩ : ∃ F : State → Outcome → Prop, F = fun s₂ o => (s₂.status = .running ∧ Ended s₂ below o ∧ ∃ v L, o = .returned v ∧ (own_Qi Z a1 p2 h0 n0) v s₂.heap L ∧ FrameEnd s o s₂ L (Room.cells ({ frames := 2, cells := 0, slots := 0, locals := 24 } : Room)) (Room.slots ({ frames := 2, cells := 0, slots := 0, locals := 24 } : Room))) := ⟨_, rfl⟩
  suffices G : own_Go p.tables e below F (s₁.setTop (mkF m 0 #[.val (.ref a1), .val (.int p2)] [])) by
    obtain ⟨t, o, a, b⟩ := G
    rw [hF] at b
    exact ⟨t, o, castTop hst a, b⟩
  show own_Go p.tables e below F (s₁.setTop (mkF m 0 #[.val (.ref a1), .val (.int p2)] []))
  refine own_st (fun _ k => XS.aloadN X0.here hx rfl (hb hby d_own_iinit_0) rfl rfl k) ?_
  show own_Go p.tables e below F (s₁.setTop (mkF m 1 #[.val (.ref a1), .val (.int p2)] [(.ref a1)]))
  obtain ⟨_, _, ⟨T1, L1, k1, n1⟩, -, X1, ⟨Lc1, hQ1, l1, y1, z1⟩, st1⟩ := X0.specialBack hx (y := (⟨"java/lang/Number", "<init>", "()V"⟩ : MethodName)) rfl hown (mvT hZ (hw _ (List.mem_of_getElem? (i := 38) rfl))) (mvT hZ (hw _ (List.mem_of_getElem? (i := 39) rfl))) (mvT hZ (hw _ (List.mem_of_getElem? (i := 43) rfl))) (by decide) (backOf (W := 0) (own_ninit l Z a0 hw [] a1 h0 n0) hZ (hw _ (List.mem_of_getElem? (i := 43) rfl)) (hw _ (List.mem_of_getElem? (i := 42) rfl)) (by decide) (by decide)) (g := (mkF m 1 #[.val (.ref a1), .val (.int p2)] [(.ref a1)])) rfl (by rw [hml]; rfl) (Steps.refl _) (a := a1) (argsL := []) (rest := []) (lenOf pd_0 rfl) rfl (by show 2 * 0 + _ ≤ _; exact Nat.le_of_eq rfl) (hb hby d_own_iinit_1) (fun _ _ => ⟨rfl, e0, (by decide : 0 + 0 ≤ _), (by decide : 0 + 0 ≤ _)⟩)
  dsimp only [Pt.U, Pt.locs, Pt.cells, Pt.slots] at X1 l1 y1 z1 st1 hQ1
  subst l1 y1 z1
  obtain ⟨rfl, N1q, e1⟩ := hQ1
  have N1 := Fr.app N0 N1q
  refine own_st (fun _ k => st1.trans k) ?_
  show own_Go p.tables e below F (T1.setTop (mkF m 4 #[.val (.ref a1), .val (.int p2)] []))
  refine own_st (fun _ k => XS.aloadN X1.here hx rfl (hb hby d_own_iinit_4) rfl rfl k) ?_
  show own_Go p.tables e below F (T1.setTop (mkF m 5 #[.val (.ref a1), .val (.int p2)] [(.ref a1)]))
  refine own_st (fun _ k => XS.iloadN X1.here hx rfl (hb hby d_own_iinit_5) rfl k) ?_
  show own_Go p.tables e below F (T1.setTop (mkF m 6 #[.val (.ref a1), .val (.int p2)] [(.int p2), (.ref a1)]))
  obtain ⟨T2, h2, X2, e2, W2, st2⟩ := putF X1 hx hZ hown (host := "") (Or.inl (hw _ (List.mem_of_getElem? (i := 45) rfl))) Via.refl e1 F_a1 E_a1 (Or.inr ⟨(hw _ (List.mem_of_getElem? (i := 46) rfl)), rfl, hnm⟩) (hw _ (List.mem_of_getElem? (i := 33) rfl)) (ty := .int) (by decide) rfl rfl (g := (mkF m 6 #[.val (.ref a1), .val (.int p2)] [(.int p2), (.ref a1)])) rfl rfl (hb hby d_own_iinit_6)
  have Fw2 := F_a1.same W2
  have E_a1__2 := E_a1.wr W2
  have KW_2 := (Keep.refl h0 [a1]).wr W2 (Or.inl (List.mem_of_getElem? (i := 0) rfl))
  have N2 := Fr.snoc X2 N1 gn_a1
  refine own_st st2 ?_
  show own_Go p.tables e below F (T2.setTop (mkF m 9 #[.val (.ref a1), .val (.int p2)] []))
  obtain ⟨fs, hrL, hrun, hended, hW, hsame⟩ := X2.leave (v := none) (fun _ => rfl)
  refine own_end hF (o := .returned none) (X2.returnOut hx Bd.returns (hb hby d_own_iinit_9) hrL) ?_
  refine ⟨hrun, hended, _, _, rfl, ?_, ⟨_, rfl⟩, hW, hsame.mono (by decide) (by decide)⟩
  have eh : T2.heap = h2 := e2
  show own_Qi Z a1 p2 h0 n0 _ T2.heap _
  rw [eh]
  exact ⟨rfl, N2, KW_2, E_a1__2, Fw2⟩
def own_Qv (Z : State) (p1 : Int32) (h0 : Heap) (n0 : Nat) (v : Option Value) (h : Heap) (L : List Loc) : Prop := ∃ b : Addr, v = some (.ref b) ∧ Fr n0 L ∧ Keep h0 h [] ∧ Exa Z h b "java/lang/Integer"
theorem d_own_vof_0 : decode jdk_33_method_22_code 0 = .ok (.iload_n 0, 1) := by decide +kernel
theorem d_own_vof_1 : decode jdk_33_method_22_code 1 = .ok (.bipush (-128), 2) := by decide +kernel
theorem d_own_vof_3 : decode jdk_33_method_22_code 3 = .ok (.if_icmp .lt 20, 3) := by decide +kernel
theorem d_own_vof_6 : decode jdk_33_method_22_code 6 = .ok (.iload_n 0, 1) := by decide +kernel
theorem d_own_vof_7 : decode jdk_33_method_22_code 7 = .ok (.getstatic 191, 3) := by decide +kernel
theorem d_own_vof_10 : decode jdk_33_method_22_code 10 = .ok (.if_icmp .gt 13, 3) := by decide +kernel
theorem d_own_vof_13 : decode jdk_33_method_22_code 13 = .ok (.getstatic 195, 3) := by decide +kernel
theorem d_own_vof_16 : decode jdk_33_method_22_code 16 = .ok (.iload_n 0, 1) := by decide +kernel
theorem d_own_vof_17 : decode jdk_33_method_22_code 17 = .ok (.sipush 128, 3) := by decide +kernel
theorem d_own_vof_20 : decode jdk_33_method_22_code 20 = .ok (.iadd, 1) := by decide +kernel
theorem d_own_vof_21 : decode jdk_33_method_22_code 21 = .ok (.aaload, 1) := by decide +kernel
theorem d_own_vof_22 : decode jdk_33_method_22_code 22 = .ok (.areturn, 1) := by decide +kernel
theorem d_own_vof_23 : decode jdk_33_method_22_code 23 = .ok (.new 1, 3) := by decide +kernel
theorem d_own_vof_26 : decode jdk_33_method_22_code 26 = .ok (.dup, 1) := by decide +kernel
theorem d_own_vof_27 : decode jdk_33_method_22_code 27 = .ok (.iload_n 0, 1) := by decide +kernel
theorem d_own_vof_28 : decode jdk_33_method_22_code 28 = .ok (.invokespecial 199, 3) := by decide +kernel
theorem d_own_vof_31 : decode jdk_33_method_22_code 31 = .ok (.areturn, 1) := by decide +kernel
theorem pd_1 : parseMethodDescriptor "(I)V" = some ⟨[.int], none⟩ := by decide +kernel
set_option maxRecDepth 65536 in
set_option maxHeartbeats 40000000 in
theorem own_vof (l : Launch) (Z : State) (a0 : Array Value) (hw : ∀ d ∈ tables_1, d.before a0 Z = true) (ws : List Jvm.Cond) (p1 : Int32) (cA : Addr) (cl : Cell) (h0 : Heap) (n0 : Nat) (Z0 : n0 ≤ h0.size) (O : Ext Z.heap h0) (SH : Sta Z Z.heap "java/lang/Integer$IntegerCache" "high" "I" (.int (127 : Int32))) (SC : Sta Z Z.heap "java/lang/Integer$IntegerCache" "cache" "[Ljava/lang/Integer;" (.ref cA)) (B : Bxs Z cA cl "java/lang/Integer" "I" (256 : Int32) (fun j => .int (j - (128 : Int32)))) :
    own_Met l Z (⟨"java/lang/Integer", "valueOf", "(I)Ljava/lang/Integer;"⟩ : MethodName) jdk_33_method_22_code 1 (some (.object "java/lang/Integer")) ws ({ frames := 3, cells := 1, slots := 1, locals := 38 } : Room) #[(.int p1)] h0 (own_Qv Z p1 h0 n0) := by
  refine MetFree.of_bodySF (plainFor_of_name pn_java_lang_Integer) hisR ?_
  intro p e s m args below meth c s₁ Bd hml0 hP hK
  obtain ⟨rfl, hZ, hh⟩ := hP
  have hx := Bd.exec
  have hby := Bd.bytes
  have hml : c.maxLocals = 1 := hml0
  have hown : s.vm.findClass "java/lang/Integer" = some m.cls := findClass_of_methodNamed Bd.named
  have hnm := (name_of_methodNamed Bd.named Bd.method).1
  have X0 : Stand p l e ({ frames := 3, cells := 1, slots := 1, locals := 38 } : Room) s m #[(.int p1)] below meth c s₁ [] 0 0 := Stand.of_body Bd
  have e0 : s₁.heap = h0 := by rw [← hh, Bd.state]; rfl
  have N0 := Fr.nil n0
  have hst : entryFrame m #[(.int p1)] 1 = mkF m 0 #[.val (.int p1)] [] := by first | (simp [entryFrame, mkF, argsToLocals, Value.category, maxLocals]; done) | rfl
  obtain ⟨F, hF⟩ : ∃ F : State → Outcome → Prop, F = fun s₂ o => (s₂.status = .running ∧ Ended s₂ below o ∧ ∃ v L, o = .returned v ∧ (own_Qv Z p1 h0 n0) v s₂.heap L ∧ FrameEnd s o s₂ L (Room.cells ({ frames := 3, cells := 1, slots := 1, locals := 38 } : Room)) (Room.slots ({ frames := 3, cells := 1, slots := 1, locals := 38 } : Room))) := ⟨_, rfl⟩
  suffices G : own_Go p.tables e below F (s₁.setTop (mkF m 0 #[.val (.int p1)] [])) by
    obtain ⟨t, o, a, b⟩ := G
    rw [hF] at b
    exact ⟨t, o, castTop hst a, b⟩
  show own_Go p.tables e below F (s₁.setTop (mkF m 0 #[.val (.int p1)] []))
  refine own_st (fun _ k => XS.iloadN X0.here hx rfl (hb hby d_own_vof_0) rfl k) ?_
  show own_Go p.tables e below F (s₁.setTop (mkF m 1 #[.val (.int p1)] [(.int p1)]))
  refine own_st (fun _ k => XS.bipush X0.here hx rfl (hb hby d_own_vof_1) k) ?_
  show own_Go p.tables e below F (s₁.setTop (mkF m 3 #[.val (.int p1)] [(.int (-128 : Int32)), (.int p1)]))
  by_cases hc3 : p1 < (-128 : Int32)
  ·
    refine own_st (fun _ k => XS.icmpYes X0.here hx rfl (pc0 := 3) (pc' := 23) rfl (hb hby d_own_vof_3) rfl (tlt hc3).1 (by decide) (by decide) k) ?_
    show own_Go p.tables e below F (s₁.setTop (mkF m 23 #[.val (.int p1)] []))
    obtain ⟨T1, h1, X1, e1, E1, A1, D1, -, st1⟩ := newO X0 hx hZ hown (hw _ (List.mem_of_getElem? (i := 32) rfl)) (hw _ (List.mem_of_getElem? (i := 33) rfl)) (hw _ (List.mem_of_getElem? (i := 24) rfl)) e0 (g := (mkF m 23 #[.val (.int p1)] [])) rfl (hb hby d_own_vof_23) (by decide) (by decide)
    obtain ⟨b1, g1⟩ : ∃ z, z = h0.size := ⟨_, rfl⟩
    rw [← g1] at A1 D1 st1
    have sz_b1 : h0.size ≤ b1 := Nat.le_trans own_ext_refl.1 (Nat.le_of_eq g1.symm)
    have gn_b1 : n0 ≤ b1 := Nat.le_trans Z0 sz_b1
    have K0_1 := own_ext_ext own_ext_refl E1
    have F1_value : Fld Z h1 b1 "java/lang/Integer" "value" "I" (.int (0 : Int32)) := D1 (Or.inr (hw _ (List.mem_of_getElem? (i := 46) rfl))) (ty := .int) (by decide)
    refine own_st st1 ?_
    show own_Go p.tables e below F (T1.setTop (mkF m 26 #[.val (.int p1)] [(.ref b1)]))
    refine own_st (fun _ k => XS.dup X1.here hx rfl (hb hby d_own_vof_26) rfl rfl k) ?_
    show own_Go p.tables e below F (T1.setTop (mkF m 27 #[.val (.int p1)] [(.ref b1), (.ref b1)]))
    refine own_st (fun _ k => XS.iloadN X1.here hx rfl (hb hby d_own_vof_27) rfl k) ?_
    show own_Go p.tables e below F (T1.setTop (mkF m 28 #[.val (.int p1)] [(.int p1), (.ref b1), (.ref b1)]))
    obtain ⟨_, _, ⟨T2, L2, k2, n2⟩, -, X2, ⟨Lc2, hQ2, l2, y2, z2⟩, st2⟩ := X1.specialBack hx (y := (⟨"java/lang/Integer", "<init>", "(I)V"⟩ : MethodName)) rfl hown (mvT hZ (hw _ (List.mem_of_getElem? (i := 34) rfl))) (mvT hZ (hw _ (List.mem_of_getElem? (i := 35) rfl))) (mvT hZ (hw _ (List.mem_of_getElem? (i := 37) rfl))) (by decide) (backOf (W := 1) (own_iinit l Z a0 hw [] b1 p1 _ h1 n0 (Nat.le_trans Z0 K0_1.1) A1 F1_value gn_b1) hZ (hw _ (List.mem_of_getElem? (i := 37) rfl)) (hw _ (List.mem_of_getElem? (i := 24) rfl)) (by decide) (by decide)) (g := (mkF m 28 #[.val (.int p1)] [(.int p1), (.ref b1), (.ref b1)])) rfl (by rw [hml]; rfl) (Steps.refl _) (a := b1) (argsL := [(.int p1)]) (rest := [(.ref b1)]) (lenOf pd_1 rfl) rfl (by show 2 * 0 + _ ≤ _; exact Nat.le_of_eq rfl) (hb hby d_own_vof_28) (fun _ _ => ⟨rfl, e1, (by decide : 1 + 0 ≤ _), (by decide : 1 + 0 ≤ _)⟩)
    dsimp only [Pt.U, Pt.locs, Pt.cells, Pt.slots] at X2 l2 y2 z2 st2 hQ2
    subst l2 y2 z2
    obtain ⟨rfl, N2q, K2, En2, Fn2⟩ := hQ2
    have N2 := Fr.app N0 N2q
    refine own_st (fun _ k => st2.trans k) ?_
    have A1__2 := A1.keep K2
    have K0_2 := own_ext_keep K0_1 K2 (allS sz_b1 all0)
    show own_Go p.tables e below F (T2.setTop (mkF m 31 #[.val (.int p1)] [(.ref b1)]))
    obtain ⟨fs, hrL, hrun, hended, hW, hsame⟩ := X2.leave (v := some (.ref b1)) (fun h => by rw [Bd.returns] at h; cases h)
    refine own_end hF (o := .returned (some (.ref b1))) (retOut X2 hx (t := (.object "java/lang/Integer")) (i := .areturn) Bd.returns rfl (Or.inr (Or.inr (Or.inr (Or.inr ⟨rfl, rfl, rfl⟩)))) (hb hby d_own_vof_31) hrL) ?_
    refine ⟨hrun, hended, _, _, rfl, ?_, ⟨_, rfl⟩, hW, hsame.mono (by decide) (by decide)⟩
    exact ⟨b1, rfl, N2, (Keep.refl h0 []).ext K0_2, A1__2⟩
  ·
    refine own_st (fun _ k => XS.icmpNo X0.here hx rfl (hb hby d_own_vof_3) rfl (flt hc3).1 k) ?_
    show own_Go p.tables e below F (s₁.setTop (mkF m 6 #[.val (.int p1)] []))
    refine own_st (fun _ k => XS.iloadN X0.here hx rfl (hb hby d_own_vof_6) rfl k) ?_
    show own_Go p.tables e below F (s₁.setTop (mkF m 7 #[.val (.int p1)] [(.int p1)]))
    obtain ⟨T3, X3, e3, st3⟩ := getS2 X0 hx hZ hown (host := "") (Or.inl (hw _ (List.mem_of_getElem? (i := 26) rfl))) Via.refl e0 (SH.ext O) (g := (mkF m 7 #[.val (.int p1)] [(.int p1)])) rfl (hb hby d_own_vof_7)
    refine own_st st3 ?_
    show own_Go p.tables e below F (T3.setTop (mkF m 10 #[.val (.int p1)] [(.int (127 : Int32)), (.int p1)]))
    by_cases hc10 : (127 : Int32) < p1
    ·
      refine own_st (fun _ k => XS.icmpYes X3.here hx rfl (pc0 := 10) (pc' := 23) rfl (hb hby d_own_vof_10) rfl (tlt hc10).2.2.1 (by decide) (by decide) k) ?_
      show own_Go p.tables e below F (T3.setTop (mkF m 23 #[.val (.int p1)] []))
      obtain ⟨T4, h4, X4, e4, E4, A4, D4, -, st4⟩ := newO X3 hx hZ hown (hw _ (List.mem_of_getElem? (i := 32) rfl)) (hw _ (List.mem_of_getElem? (i := 33) rfl)) (hw _ (List.mem_of_getElem? (i := 24) rfl)) e3 (g := (mkF m 23 #[.val (.int p1)] [])) rfl (hb hby d_own_vof_23) (by decide) (by decide)
      obtain ⟨b4, g4⟩ : ∃ z, z = h0.size := ⟨_, rfl⟩
      rw [← g4] at A4 D4 st4
      have sz_b4 : h0.size ≤ b4 := Nat.le_trans own_ext_refl.1 (Nat.le_of_eq g4.symm)
      have gn_b4 : n0 ≤ b4 := Nat.le_trans Z0 sz_b4
      have K0_4 := own_ext_ext own_ext_refl E4
      have F4_value : Fld Z h4 b4 "java/lang/Integer" "value" "I" (.int (0 : Int32)) := D4 (Or.inr (hw _ (List.mem_of_getElem? (i := 46) rfl))) (ty := .int) (by decide)
      refine own_st st4 ?_
      show own_Go p.tables e below F (T4.setTop (mkF m 26 #[.val (.int p1)] [(.ref b4)]))
      refine own_st (fun _ k => XS.dup X4.here hx rfl (hb hby d_own_vof_26) rfl rfl k) ?_
      show own_Go p.tables e below F (T4.setTop (mkF m 27 #[.val (.int p1)] [(.ref b4), (.ref b4)]))
      refine own_st (fun _ k => XS.iloadN X4.here hx rfl (hb hby d_own_vof_27) rfl k) ?_
      show own_Go p.tables e below F (T4.setTop (mkF m 28 #[.val (.int p1)] [(.int p1), (.ref b4), (.ref b4)]))
      obtain ⟨_, _, ⟨T5, L5, k5, n5⟩, -, X5, ⟨Lc5, hQ5, l5, y5, z5⟩, st5⟩ := X4.specialBack hx (y := (⟨"java/lang/Integer", "<init>", "(I)V"⟩ : MethodName)) rfl hown (mvT hZ (hw _ (List.mem_of_getElem? (i := 34) rfl))) (mvT hZ (hw _ (List.mem_of_getElem? (i := 35) rfl))) (mvT hZ (hw _ (List.mem_of_getElem? (i := 37) rfl))) (by decide) (backOf (W := 1) (own_iinit l Z a0 hw [] b4 p1 _ h4 n0 (Nat.le_trans Z0 K0_4.1) A4 F4_value gn_b4) hZ (hw _ (List.mem_of_getElem? (i := 37) rfl)) (hw _ (List.mem_of_getElem? (i := 24) rfl)) (by decide) (by decide)) (g := (mkF m 28 #[.val (.int p1)] [(.int p1), (.ref b4), (.ref b4)])) rfl (by rw [hml]; rfl) (Steps.refl _) (a := b4) (argsL := [(.int p1)]) (rest := [(.ref b4)]) (lenOf pd_1 rfl) rfl (by show 2 * 0 + _ ≤ _; exact Nat.le_of_eq rfl) (hb hby d_own_vof_28) (fun _ _ => ⟨rfl, e4, (by decide : 1 + 0 ≤ _), (by decide : 1 + 0 ≤ _)⟩)
      dsimp only [Pt.U, Pt.locs, Pt.cells, Pt.slots] at X5 l5 y5 z5 st5 hQ5
      subst l5 y5 z5
      obtain ⟨rfl, N5q, K5, En5, Fn5⟩ := hQ5
      have N5 := Fr.app N0 N5q
      refine own_st (fun _ k => st5.trans k) ?_
      have A4__5 := A4.keep K5
      have K0_5 := own_ext_keep K0_4 K5 (allS sz_b4 all0)
      show own_Go p.tables e below F (T5.setTop (mkF m 31 #[.val (.int p1)] [(.ref b4)]))
      obtain ⟨fs, hrL, hrun, hended, hW, hsame⟩ := X5.leave (v := some (.ref b4)) (fun h => by rw [Bd.returns] at h; cases h)
      refine own_end hF (o := .returned (some (.ref b4))) (retOut X5 hx (t := (.object "java/lang/Integer")) (i := .areturn) Bd.returns rfl (Or.inr (Or.inr (Or.inr (Or.inr ⟨rfl, rfl, rfl⟩)))) (hb hby d_own_vof_31) hrL) ?_
      refine ⟨hrun, hended, _, _, rfl, ?_, ⟨_, rfl⟩, hW, hsame.mono (by decide) (by decide)⟩
      exact ⟨b4, rfl, N5, (Keep.refl h0 []).ext K0_5, A4__5⟩
    ·
      refine own_st (fun _ k => XS.icmpNo X3.here hx rfl (hb hby d_own_vof_10) rfl (flt hc10).2.2.1 k) ?_
      show own_Go p.tables e below F (T3.setTop (mkF m 13 #[.val (.int p1)] []))
      obtain ⟨T6, X6, e6, st6⟩ := getS2 X3 hx hZ hown (host := "") (Or.inl (hw _ (List.mem_of_getElem? (i := 28) rfl))) Via.refl e3 (SC.ext O) (g := (mkF m 13 #[.val (.int p1)] [])) rfl (hb hby d_own_vof_13)
      refine own_st st6 ?_
      show own_Go p.tables e below F (T6.setTop (mkF m 16 #[.val (.int p1)] [(.ref cA)]))
      refine own_st (fun _ k => XS.iloadN X6.here hx rfl (hb hby d_own_vof_16) rfl k) ?_
      show own_Go p.tables e below F (T6.setTop (mkF m 17 #[.val (.int p1)] [(.int p1), (.ref cA)]))
      refine own_st (fun _ k => XS.sipush X6.here hx rfl (hb hby d_own_vof_17) k) ?_
      show own_Go p.tables e below F (T6.setTop (mkF m 20 #[.val (.int p1)] [(.int (128 : Int32)), (.int p1), (.ref cA)]))
      refine own_st (fun _ k => XS.iadd X6.here hx rfl (hb hby d_own_vof_20) rfl k) ?_
      show own_Go p.tables e below F (T6.setTop (mkF m 21 #[.val (.int p1)] [(.int (p1 + (128 : Int32))), (.ref cA)]))
      obtain ⟨ArC, SzC, NzC⟩ := B.ext O
      have hin := inb_of (j := (p1 + (128 : Int32))) SzC (own_idx hc3 hc10)
      obtain ⟨bx, hat, Exb, Fxb⟩ := B.2.2.2 _ hin
      refine own_st (X6.aaload hx (j := (p1 + (128 : Int32))) (v := .ref bx) (by rw [e6]; exact ArC.1) (State.isArrayOf_alike hZ.alike ArC.2.1) rfl ArC.2.2 hin hat (g := (mkF m 21 #[.val (.int p1)] [(.int (p1 + (128 : Int32))), (.ref cA)])) rfl rfl (hb hby d_own_vof_21)) ?_
      show own_Go p.tables e below F (T6.setTop (mkF m 22 #[.val (.int p1)] [(.ref bx)]))
      obtain ⟨fs, hrL, hrun, hended, hW, hsame⟩ := X6.leave (v := some (.ref bx)) (fun h => by rw [Bd.returns] at h; cases h)
      refine own_end hF (o := .returned (some (.ref bx))) (retOut X6 hx (t := (.object "java/lang/Integer")) (i := .areturn) Bd.returns rfl (Or.inr (Or.inr (Or.inr (Or.inr ⟨rfl, rfl, rfl⟩)))) (hb hby d_own_vof_22) hrL) ?_
      refine ⟨hrun, hended, _, _, rfl, ?_, ⟨_, rfl⟩, hW, hsame.mono (by decide) (by decide)⟩
      exact ⟨bx, rfl, N0, (Keep.refl h0 []).ext ((show T6.heap = h0 from e6).symm ▸ own_ext_refl), ((show T6.heap = h0 from e6).symm ▸ Exb.ext O)⟩
def own_P (Z : State) (h : Heap) (a : Addr) (t g : Int32) (m : Int64) : Prop := Exa Z h a "com/example/dockside/dockside/service/FewestPairings$Pairing" ∧ Fld Z h a "com/example/dockside/dockside/service/FewestPairings$Pairing" "taker" "I" (.int t) ∧ Fld Z h a "com/example/dockside/dockside/service/FewestPairings$Pairing" "giver" "I" (.int g) ∧ Fld Z h a "com/example/dockside/dockside/service/FewestPairings$Pairing" "amount" "J" (.long m)
theorem own_P_keep {Z : State} {h h' : Heap} {a : Addr} {t g : Int32} {m : Int64} {ws : List Addr} (P : own_P Z h a t g m) (K : Keep h h' ws) (q : a ∉ ws) : own_P Z h' a t g m := ⟨P.1.keep K, P.2.1.keep K q, P.2.2.1.keep K q, P.2.2.2.keep K q⟩
theorem own_P_ext {Z : State} {h h' : Heap} {a : Addr} {t g : Int32} {m : Int64} (P : own_P Z h a t g m) (E : Ext h h') : own_P Z h' a t g m := ⟨P.1.ext E, P.2.1.ext E, P.2.2.1.ext E, P.2.2.2.ext E⟩
def own_Qc (Z : State) (a1 : Addr) (p2 p3 : Int32) (p4 : Int64) (h0 : Heap) (n0 : Nat) (v : Option Value) (h : Heap) (L : List Loc) : Prop := v = none ∧ Fr n0 L ∧ Keep h0 h [a1] ∧ own_P Z h a1 p2 p3 p4
theorem d_own_init_0 : decode prog_59_method_1_code 0 = .ok (.aload_n 0, 1) := by decide +kernel
theorem d_own_init_1 : decode prog_59_method_1_code 1 = .ok (.invokespecial 1, 3) := by decide +kernel
theorem d_own_init_4 : decode prog_59_method_1_code 4 = .ok (.aload_n 0, 1) := by decide +kernel
theorem d_own_init_5 : decode prog_59_method_1_code 5 = .ok (.iload_n 1, 1) := by decide +kernel
theorem d_own_init_6 : decode prog_59_method_1_code 6 = .ok (.putfield 7, 3) := by decide +kernel
theorem d_own_init_9 : decode prog_59_method_1_code 9 = .ok (.aload_n 0, 1) := by decide +kernel
theorem d_own_init_10 : decode prog_59_method_1_code 10 = .ok (.iload_n 2, 1) := by decide +kernel
theorem d_own_init_11 : decode prog_59_method_1_code 11 = .ok (.putfield 13, 3) := by decide +kernel
theorem d_own_init_14 : decode prog_59_method_1_code 14 = .ok (.aload_n 0, 1) := by decide +kernel
theorem d_own_init_15 : decode prog_59_method_1_code 15 = .ok (.lload_n 3, 1) := by decide +kernel
theorem d_own_init_16 : decode prog_59_method_1_code 16 = .ok (.putfield 16, 3) := by decide +kernel
theorem d_own_init_19 : decode prog_59_method_1_code 19 = .ok (.return_, 1) := by decide +kernel
theorem pn_com_example_dockside_dockside_service_FewestPairings_Pairing : plainName "com/example/dockside/dockside/service/FewestPairings$Pairing" = true := by first | (simp [plainName, overriddenIn]; done) | decide +kernel
set_option maxRecDepth 65536 in
set_option maxHeartbeats 40000000 in
theorem own_init (l : Launch) (Z : State) (a0 : Array Value) (hw : ∀ d ∈ tables_1, d.before a0 Z = true) (ws : List Jvm.Cond) (a1 : Addr) (p2 p3 : Int32) (p4 : Int64) (h0 : Heap) (n0 : Nat) (Z0 : n0 ≤ h0.size) (E_a1 : Exa Z h0 a1 "com/example/dockside/dockside/service/FewestPairings$Pairing") (Ft_a1 : Fld Z h0 a1 "com/example/dockside/dockside/service/FewestPairings$Pairing" "taker" "I" (.int 0)) (Fg_a1 : Fld Z h0 a1 "com/example/dockside/dockside/service/FewestPairings$Pairing" "giver" "I" (.int 0)) (Fm_a1 : Fld Z h0 a1 "com/example/dockside/dockside/service/FewestPairings$Pairing" "amount" "J" (.long 0)) (gn_a1 : n0 ≤ a1) :
    own_Met l Z (⟨"com/example/dockside/dockside/service/FewestPairings$Pairing", "<init>", "(IIJ)V"⟩ : MethodName) prog_59_method_1_code 5 none ws ({ frames := 1, cells := 0, slots := 0, locals := 12 } : Room) #[(.ref a1), (.int p2), (.int p3), (.long p4)] h0 (own_Qc Z a1 p2 p3 p4 h0 n0) := by
  refine MetFree.of_bodySF (plainFor_of_name pn_com_example_dockside_dockside_service_FewestPairings_Pairing) hisR ?_
  intro p e s m args below meth c s₁ Bd hml0 hP hK
  obtain ⟨rfl, hZ, hh⟩ := hP
  have hx := Bd.exec
  have hby := Bd.bytes
  have hml : c.maxLocals = 5 := hml0
  have hown : s.vm.findClass "com/example/dockside/dockside/service/FewestPairings$Pairing" = some m.cls := findClass_of_methodNamed Bd.named
  have hnm := (name_of_methodNamed Bd.named Bd.method).1
  have X0 : Stand p l e ({ frames := 1, cells := 0, slots := 0, locals := 12 } : Room) s m #[(.ref a1), (.int p2), (.int p3), (.long p4)] below meth c s₁ [] 0 0 := Stand.of_body Bd
  have e0 : s₁.heap = h0 := by rw [← hh, Bd.state]; rfl
  have N0 := Fr.nil n0
  have hst : entryFrame m #[(.ref a1), (.int p2), (.int p3), (.long p4)] 5 = mkF m 0 #[.val (.ref a1), .val (.int p2), .val (.int p3), .val (.long p4), .second] [] := by first | (simp [entryFrame, mkF, argsToLocals, Value.category, maxLocals]; done) | rfl
  obtain ⟨F, hF⟩ : ∃ F : State → Outcome → Prop, F = fun s₂ o => (s₂.status = .running ∧ Ended s₂ below o ∧ ∃ v L, o = .returned v ∧ (own_Qc Z a1 p2 p3 p4 h0 n0) v s₂.heap L ∧ FrameEnd s o s₂ L (Room.cells ({ frames := 1, cells := 0, slots := 0, locals := 12 } : Room)) (Room.slots ({ frames := 1, cells := 0, slots := 0, locals := 12 } : Room))) := ⟨_, rfl⟩
  suffices G : own_Go p.tables e below F (s₁.setTop (mkF m 0 #[.val (.ref a1), .val (.int p2), .val (.int p3), .val (.long p4), .second] [])) by
    obtain ⟨t, o, a, b⟩ := G
    rw [hF] at b
    exact ⟨t, o, castTop hst a, b⟩
  show own_Go p.tables e below F (s₁.setTop (mkF m 0 #[.val (.ref a1), .val (.int p2), .val (.int p3), .val (.long p4), .second] []))
  refine own_st (fun _ k => XS.aloadN X0.here hx rfl (hb hby d_own_init_0) rfl rfl k) ?_
  show own_Go p.tables e below F (s₁.setTop (mkF m 1 #[.val (.ref a1), .val (.int p2), .val (.int p3), .val (.long p4), .second] [(.ref a1)]))
  obtain ⟨T1, X1, e1, st1⟩ := initO X0 hx hZ hown (hw _ (List.mem_of_getElem? (i := 6) rfl)) (hw _ (List.mem_of_getElem? (i := 7) rfl)) (hw _ (List.mem_of_getElem? (i := 8) rfl)) e0 (g := (mkF m 1 #[.val (.ref a1), .val (.int p2), .val (.int p3), .val (.long p4), .second] [(.ref a1)])) rfl (by rw [hml]; rfl) rfl (hb hby d_own_init_1) (by decide) (W := 0) (by show 2 * 0 + _ ≤ _; exact Nat.le_of_eq rfl) (by decide)
  refine own_st st1 ?_
  show own_Go p.tables e below F (T1.setTop (mkF m 4 #[.val (.ref a1), .val (.int p2), .val (.int p3), .val (.long p4), .second] []))
  refine own_st (fun _ k => XS.aloadN X1.here hx rfl (hb hby d_own_init_4) rfl rfl k) ?_
  show own_Go p.tables e below F (T1.setTop (mkF m 5 #[.val (.ref a1), .val (.int p2), .val (.int p3), .val (.long p4), .second] [(.ref a1)]))
  refine own_st (fun _ k => XS.iloadN X1.here hx rfl (hb hby d_own_init_5) rfl k) ?_
  show own_Go p.tables e below F (T1.setTop (mkF m 6 #[.val (.ref a1), .val (.int p2), .val (.int p3), .val (.long p4), .second] [(.int p2), (.ref a1)]))
  obtain ⟨T2, h2, X2, e2, W2, st2⟩ := putF X1 hx hZ hown (host := "") (Or.inl (hw _ (List.mem_of_getElem? (i := 9) rfl))) Via.refl e1 Ft_a1 E_a1 (Or.inr ⟨(hw _ (List.mem_of_getElem? (i := 10) rfl)), rfl, hnm⟩) (hw _ (List.mem_of_getElem? (i := 1) rfl)) (ty := .int) (by decide) rfl rfl (g := (mkF m 6 #[.val (.ref a1), .val (.int p2), .val (.int p3), .val (.long p4), .second] [(.int p2), (.ref a1)])) rfl rfl (hb hby d_own_init_6)
  have Fw2 := Ft_a1.same W2
  have E_a1__2 := E_a1.wr W2
  have Fg_a1__2 := Fg_a1.other W2 (Or.inr (slot_ne (Or.inr (hw _ (List.mem_of_getElem? (i := 12) rfl))) (Or.inr (hw _ (List.mem_of_getElem? (i := 10) rfl))) (by decide) (t := .int) (t' := .int) (by decide) (by decide)))
  have Fm_a1__2 := Fm_a1.other W2 (Or.inr (slot_ne (Or.inr (hw _ (List.mem_of_getElem? (i := 14) rfl))) (Or.inr (hw _ (List.mem_of_getElem? (i := 10) rfl))) (by decide) (t := .long) (t' := .int) (by decide) (by decide)))
  have KW_2 := (Keep.refl h0 [a1]).wr W2 (Or.inl (List.mem_of_getElem? (i := 0) rfl))
  have N2 := Fr.snoc X2 N0 gn_a1
  refine own_st st2 ?_
  show own_Go p.tables e below F (T2.setTop (mkF m 9 #[.val (.ref a1), .val (.int p2), .val (.int p3), .val (.long p4), .second] []))
  refine own_st (fun _ k => XS.aloadN X2.here hx rfl (hb hby d_own_init_9) rfl rfl k) ?_
  show own_Go p.tables e below F (T2.setTop (mkF m 10 #[.val (.ref a1), .val (.int p2), .val (.int p3), .val (.long p4), .second] [(.ref a1)]))
  refine own_st (fun _ k => XS.iloadN X2.here hx rfl (hb hby d_own_init_10) rfl k) ?_
  show own_Go p.tables e below F (T2.setTop (mkF m 11 #[.val (.ref a1), .val (.int p2), .val (.int p3), .val (.long p4), .second] [(.int p3), (.ref a1)]))
  obtain ⟨T3, h3, X3, e3, W3, st3⟩ := putF X2 hx hZ hown (host := "") (Or.inl (hw _ (List.mem_of_getElem? (i := 11) rfl))) Via.refl e2 Fg_a1__2 E_a1__2 (Or.inr ⟨(hw _ (List.mem_of_getElem? (i := 12) rfl)), rfl, hnm⟩) (hw _ (List.mem_of_getElem? (i := 1) rfl)) (ty := .int) (by decide) rfl rfl (g := (mkF m 11 #[.val (.ref a1), .val (.int p2), .val (.int p3), .val (.long p4), .second] [(.int p3), (.ref a1)])) rfl rfl (hb hby d_own_init_11)
  have Fw3 := Fg_a1__2.same W3
  have E_a1__3 := E_a1__2.wr W3
  have Fm_a1__3 := Fm_a1__2.other W3 (Or.inr (slot_ne (Or.inr (hw _ (List.mem_of_getElem? (i := 14) rfl))) (Or.inr (hw _ (List.mem_of_getElem? (i := 12) rfl))) (by decide) (t := .long) (t' := .int) (by decide) (by decide)))
  have Fw2__3 := Fw2.other W3 (Or.inr (slot_ne (Or.inr (hw _ (List.mem_of_getElem? (i := 10) rfl))) (Or.inr (hw _ (List.mem_of_getElem? (i := 12) rfl))) (by decide) (t := .int) (t' := .int) (by decide) (by decide)))
  have KW_3 := KW_2.wr W3 (Or.inl (List.mem_of_getElem? (i := 0) rfl))
  have N3 := Fr.snoc X3 N2 gn_a1
  refine own_st st3 ?_
  show own_Go p.tables e below F (T3.setTop (mkF m 14 #[.val (.ref a1), .val (.int p2), .val (.int p3), .val (.long p4), .second] []))
  refine own_st (fun _ k => XS.aloadN X3.here hx rfl (hb hby d_own_init_14) rfl rfl k) ?_
  show own_Go p.tables e below F (T3.setTop (mkF m 15 #[.val (.ref a1), .val (.int p2), .val (.int p3), .val (.long p4), .second] [(.ref a1)]))
  refine own_st (fun _ k => XS.lloadN X3.here hx rfl (hb hby d_own_init_15) rfl k) ?_
  show own_Go p.tables e below F (T3.setTop (mkF m 16 #[.val (.ref a1), .val (.int p2), .val (.int p3), .val (.long p4), .second] [(.long p4), (.ref a1)]))
  obtain ⟨T4, h4, X4, e4, W4, st4⟩ := putF X3 hx hZ hown (host := "") (Or.inl (hw _ (List.mem_of_getElem? (i := 13) rfl))) Via.refl e3 Fm_a1__3 E_a1__3 (Or.inr ⟨(hw _ (List.mem_of_getElem? (i := 14) rfl)), rfl, hnm⟩) (hw _ (List.mem_of_getElem? (i := 1) rfl)) (ty := .long) (by decide) rfl rfl (g := (mkF m 16 #[.val (.ref a1), .val (.int p2), .val (.int p3), .val (.long p4), .second] [(.long p4), (.ref a1)])) rfl rfl (hb hby d_own_init_16)
  have Fw4 := Fm_a1__3.same W4
  have E_a1__4 := E_a1__3.wr W4
  have Fw2__4 := Fw2__3.other W4 (Or.inr (slot_ne (Or.inr (hw _ (List.mem_of_getElem? (i := 10) rfl))) (Or.inr (hw _ (List.mem_of_getElem? (i := 14) rfl))) (by decide) (t := .int) (t' := .long) (by decide) (by decide)))
  have Fw3__4 := Fw3.other W4 (Or.inr (slot_ne (Or.inr (hw _ (List.mem_of_getElem? (i := 12) rfl))) (Or.inr (hw _ (List.mem_of_getElem? (i := 14) rfl))) (by decide) (t := .int) (t' := .long) (by decide) (by decide)))
  have KW_4 := KW_3.wr W4 (Or.inl (List.mem_of_getElem? (i := 0) rfl))
  have N4 := Fr.snoc X4 N3 gn_a1
  refine own_st st4 ?_
  show own_Go p.tables e below F (T4.setTop (mkF m 19 #[.val (.ref a1), .val (.int p2), .val (.int p3), .val (.long p4), .second] []))
  obtain ⟨fs, hrL, hrun, hended, hW, hsame⟩ := X4.leave (v := none) (fun _ => rfl)
  refine own_end hF (o := .returned none) (X4.returnOut hx Bd.returns (hb hby d_own_init_19) hrL) ?_
  refine ⟨hrun, hended, _, _, rfl, ?_, ⟨_, rfl⟩, hW, hsame.mono (by decide) (by decide)⟩
  have eh : T4.heap = h4 := e4
  show own_Qc Z a1 p2 p3 p4 h0 n0 _ T4.heap _
  rw [eh]
  exact ⟨rfl, N4, KW_4, E_a1__4, Fw2__4, Fw3__4, Fw4⟩
theorem d_own_eqN_0 : decode prog_59_method_5_code 0 = .ok (.aload_n 1, 1) := by decide +kernel
theorem d_own_eqN_1 : decode prog_59_method_5_code 1 = .ok (.instanceof 8, 3) := by decide +kernel
theorem d_own_eqN_4 : decode prog_59_method_5_code 4 = .ok (.ifCond .eq 46, 3) := by decide +kernel
theorem d_own_eqN_50 : decode prog_59_method_5_code 50 = .ok (.iconst 0, 1) := by decide +kernel
theorem d_own_eqN_51 : decode prog_59_method_5_code 51 = .ok (.ireturn, 1) := by decide +kernel
set_option maxRecDepth 65536 in
set_option maxHeartbeats 40000000 in
theorem own_eqN (l : Launch) (Z : State) (a0 : Array Value) (hw : ∀ d ∈ tables_1, d.before a0 Z = true) (ws : List Jvm.Cond) (a1 : Addr) (h0 : Heap) (n0 : Nat)  :
    own_Met l Z (⟨"com/example/dockside/dockside/service/FewestPairings$Pairing", "equals", "(Ljava/lang/Object;)Z"⟩ : MethodName) prog_59_method_5_code 3 (some .boolean) ws ({ frames := 0, cells := 0, slots := 0, locals := 0 } : Room) #[(.ref a1), .null] h0 (own_Qp (.int 0) h0 n0) := by
  refine MetFree.of_bodySF (plainFor_of_name pn_com_example_dockside_dockside_service_FewestPairings_Pairing) hisR ?_
  intro p e s m args below meth c s₁ Bd hml0 hP hK
  obtain ⟨rfl, hZ, hh⟩ := hP
  have hx := Bd.exec
  have hby := Bd.bytes
  have hml : c.maxLocals = 3 := hml0
  have hown : s.vm.findClass "com/example/dockside/dockside/service/FewestPairings$Pairing" = some m.cls := findClass_of_methodNamed Bd.named
  have hnm := (name_of_methodNamed Bd.named Bd.method).1
  have X0 : Stand p l e ({ frames := 0, cells := 0, slots := 0, locals := 0 } : Room) s m #[(.ref a1), .null] below meth c s₁ [] 0 0 := Stand.of_body Bd
  have e0 : s₁.heap = h0 := by rw [← hh, Bd.state]; rfl
  have N0 := Fr.nil n0
  have hst : entryFrame m #[(.ref a1), .null] 3 = mkF m 0 #[.val (.ref a1), .val .null, .unset] [] := by first | (simp [entryFrame, mkF, argsToLocals, Value.category, maxLocals]; done) | rfl
  obtain ⟨F, hF⟩ : ∃ F : State → Outcome → Prop, F = fun s₂ o => (s₂.status = .running ∧ Ended s₂ below o ∧ ∃ v L, o = .returned v ∧ (own_Qp (.int 0) h0 n0) v s₂.heap L ∧ FrameEnd s o s₂ L (Room.cells ({ frames := 0, cells := 0, slots := 0, locals := 0 } : Room)) (Room.slots ({ frames := 0, cells := 0, slots := 0, locals := 0 } : Room))) := ⟨_, rfl⟩
  suffices G : own_Go p.tables e below F (s₁.setTop (mkF m 0 #[.val (.ref a1), .val .null, .unset] [])) by
    obtain ⟨t, o, a, b⟩ := G
    rw [hF] at b
    exact ⟨t, o, castTop hst a, b⟩
  show own_Go p.tables e below F (s₁.setTop (mkF m 0 #[.val (.ref a1), .val .null, .unset] []))
  refine own_st (fun _ k => XS.aloadN X0.here hx rfl (hb hby d_own_eqN_0) rfl rfl k) ?_
  show own_Go p.tables e below F (s₁.setTop (mkF m 1 #[.val (.ref a1), .val .null, .unset] [.null]))
  refine own_st (X0.instanceofNull hx (g := (mkF m 1 #[.val (.ref a1), .val .null, .unset] [.null])) rfl rfl (hb hby d_own_eqN_1)) ?_
  show own_Go p.tables e below F (s₁.setTop (mkF m 4 #[.val (.ref a1), .val .null, .unset] [(.int (0 : Int32))]))
  refine own_st (fun _ k => XS.ifYes X0.here hx rfl (pc0 := 4) (pc' := 50) rfl (hb hby d_own_eqN_4) rfl ((if0 _ _).trans (teq (by decide : (0 : Int32) = (0 : Int32))).1) (by decide) (by decide) k) ?_
  show own_Go p.tables e below F (s₁.setTop (mkF m 50 #[.val (.ref a1), .val .null, .unset] []))
  refine own_st (fun _ k => XS.iconst X0.here hx rfl (hb hby d_own_eqN_50) k) ?_
  show own_Go p.tables e below F (s₁.setTop (mkF m 51 #[.val (.ref a1), .val .null, .unset] [(.int (0 : Int32))]))
  obtain ⟨fs, hrL, hrun, hended, hW, hsame⟩ := X0.leave (v := some (.int (0 : Int32))) (fun h => by rw [Bd.returns] at h; cases h)
  refine own_end hF (o := .returned (some (.int (0 : Int32)))) (retN X0 hx (t := .boolean) Bd.returns (by simp) (hb hby d_own_eqN_51) hrL) ?_
  refine ⟨hrun, hended, _, _, rfl, ?_, ⟨_, rfl⟩, hW, hsame.mono (by decide) (by decide)⟩
  exact ⟨rfl, N0, e0⟩
theorem d_own_eqI_0 : decode prog_59_method_5_code 0 = .ok (.aload_n 1, 1) := by decide +kernel
theorem d_own_eqI_1 : decode prog_59_method_5_code 1 = .ok (.instanceof 8, 3) := by decide +kernel
theorem d_own_eqI_4 : decode prog_59_method_5_code 4 = .ok (.ifCond .eq 46, 3) := by decide +kernel
theorem d_own_eqI_50 : decode prog_59_method_5_code 50 = .ok (.iconst 0, 1) := by decide +kernel
theorem d_own_eqI_51 : decode prog_59_method_5_code 51 = .ok (.ireturn, 1) := by decide +kernel
set_option maxRecDepth 65536 in
set_option maxHeartbeats 40000000 in
theorem own_eqI (l : Launch) (Z : State) (a0 : Array Value) (hw : ∀ d ∈ tables_1, d.before a0 Z = true) (ws : List Jvm.Cond) (a1 a2 : Addr) (h0 : Heap) (n0 : Nat) (E2 : Exa Z h0 a2 "java/lang/Integer") :
    own_Met l Z (⟨"com/example/dockside/dockside/service/FewestPairings$Pairing", "equals", "(Ljava/lang/Object;)Z"⟩ : MethodName) prog_59_method_5_code 3 (some .boolean) ws ({ frames := 0, cells := 0, slots := 0, locals := 0 } : Room) #[(.ref a1), (.ref a2)] h0 (own_Qp (.int 0) h0 n0) := by
  refine MetFree.of_bodySF (plainFor_of_name pn_com_example_dockside_dockside_service_FewestPairings_Pairing) hisR ?_
  intro p e s m args below meth c s₁ Bd hml0 hP hK
  obtain ⟨rfl, hZ, hh⟩ := hP
  have hx := Bd.exec
  have hby := Bd.bytes
  have hml : c.maxLocals = 3 := hml0
  have hown : s.vm.findClass "com/example/dockside/dockside/service/FewestPairings$Pairing" = some m.cls := findClass_of_methodNamed Bd.named
  have hnm := (name_of_methodNamed Bd.named Bd.method).1
  have X0 : Stand p l e ({ frames := 0, cells := 0, slots := 0, locals := 0 } : Room) s m #[(.ref a1), (.ref a2)] below meth c s₁ [] 0 0 := Stand.of_body Bd
  have e0 : s₁.heap = h0 := by rw [← hh, Bd.state]; rfl
  have N0 := Fr.nil n0
  have hst : entryFrame m #[(.ref a1), (.ref a2)] 3 = mkF m 0 #[.val (.ref a1), .val (.ref a2), .unset] [] := by first | (simp [entryFrame, mkF, argsToLocals, Value.category, maxLocals]; done) | rfl
  obtain ⟨F, hF⟩ : ∃ F : State → Outcome → Prop, F = fun s₂ o => (s₂.status = .running ∧ Ended s₂ below o ∧ ∃ v L, o = .returned v ∧ (own_Qp (.int 0) h0 n0) v s₂.heap L ∧ FrameEnd s o s₂ L (Room.cells ({ frames := 0, cells := 0, slots := 0, locals := 0 } : Room)) (Room.slots ({ frames := 0, cells := 0, slots := 0, locals := 0 } : Room))) := ⟨_, rfl⟩
  suffices G : own_Go p.tables e below F (s₁.setTop (mkF m 0 #[.val (.ref a1), .val (.ref a2), .unset] [])) by
    obtain ⟨t, o, a, b⟩ := G
    rw [hF] at b
    exact ⟨t, o, castTop hst a, b⟩
  show own_Go p.tables e below F (s₁.setTop (mkF m 0 #[.val (.ref a1), .val (.ref a2), .unset] []))
  refine own_st (fun _ k => XS.aloadN X0.here hx rfl (hb hby d_own_eqI_0) rfl rfl k) ?_
  show own_Go p.tables e below F (s₁.setTop (mkF m 1 #[.val (.ref a1), .val (.ref a2), .unset] [(.ref a2)]))
  obtain ⟨T1, X1, e1, st1⟩ := instNo X0 hx hZ hown (hw _ (List.mem_of_getElem? (i := 20) rfl)) e0 E2 (own_not (hw _ (List.mem_of_getElem? (i := 31) rfl)) (hw _ (List.mem_of_getElem? (i := 30) rfl)) (hw _ (List.mem_of_getElem? (i := 29) rfl)) (hw _ (List.mem_of_getElem? (i := 1) rfl)) (by decide) (by decide) (by decide)) (g := (mkF m 1 #[.val (.ref a1), .val (.ref a2), .unset] [(.ref a2)])) rfl rfl (hb hby d_own_eqI_1)
  refine own_st st1 ?_
  show own_Go p.tables e below F (T1.setTop (mkF m 4 #[.val (.ref a1), .val (.ref a2), .unset] [(.int (0 : Int32))]))
  refine own_st (fun _ k => XS.ifYes X1.here hx rfl (pc0 := 4) (pc' := 50) rfl (hb hby d_own_eqI_4) rfl ((if0 _ _).trans (teq (by decide : (0 : Int32) = (0 : Int32))).1) (by decide) (by decide) k) ?_
  show own_Go p.tables e below F (T1.setTop (mkF m 50 #[.val (.ref a1), .val (.ref a2), .unset] []))
  refine own_st (fun _ k => XS.iconst X1.here hx rfl (hb hby d_own_eqI_50) k) ?_
  show own_Go p.tables e below F (T1.setTop (mkF m 51 #[.val (.ref a1), .val (.ref a2), .unset] [(.int (0 : Int32))]))
  obtain ⟨fs, hrL, hrun, hended, hW, hsame⟩ := X1.leave (v := some (.int (0 : Int32))) (fun h => by rw [Bd.returns] at h; cases h)
  refine own_end hF (o := .returned (some (.int (0 : Int32)))) (retN X1 hx (t := .boolean) Bd.returns (by simp) (hb hby d_own_eqI_51) hrL) ?_
  refine ⟨hrun, hended, _, _, rfl, ?_, ⟨_, rfl⟩, hW, hsame.mono (by decide) (by decide)⟩
  exact ⟨rfl, N0, e1⟩
theorem d_own_eqP_0 : decode prog_59_method_5_code 0 = .ok (.aload_n 1, 1) := by decide +kernel
theorem d_own_eqP_1 : decode prog_59_method_5_code 1 = .ok (.instanceof 8, 3) := by decide +kernel
theorem d_own_eqP_4 : decode prog_59_method_5_code 4 = .ok (.ifCond .eq 46, 3) := by decide +kernel
theorem d_own_eqP_7 : decode prog_59_method_5_code 7 = .ok (.aload_n 1, 1) := by decide +kernel
theorem d_own_eqP_8 : decode prog_59_method_5_code 8 = .ok (.checkcast 8, 3) := by decide +kernel
theorem d_own_eqP_11 : decode prog_59_method_5_code 11 = .ok (.astore_n 2, 1) := by decide +kernel
theorem d_own_eqP_12 : decode prog_59_method_5_code 12 = .ok (.aload_n 2, 1) := by decide +kernel
theorem d_own_eqP_13 : decode prog_59_method_5_code 13 = .ok (.getfield 7, 3) := by decide +kernel
theorem d_own_eqP_16 : decode prog_59_method_5_code 16 = .ok (.aload_n 0, 1) := by decide +kernel
theorem d_own_eqP_17 : decode prog_59_method_5_code 17 = .ok (.getfield 7, 3) := by decide +kernel
theorem d_own_eqP_20 : decode prog_59_method_5_code 20 = .ok (.if_icmp .ne 30, 3) := by decide +kernel
theorem d_own_eqP_23 : decode prog_59_method_5_code 23 = .ok (.aload_n 2, 1) := by decide +kernel
theorem d_own_eqP_24 : decode prog_59_method_5_code 24 = .ok (.getfield 13, 3) := by decide +kernel
theorem d_own_eqP_27 : decode prog_59_method_5_code 27 = .ok (.aload_n 0, 1) := by decide +kernel
theorem d_own_eqP_28 : decode prog_59_method_5_code 28 = .ok (.getfield 13, 3) := by decide +kernel
theorem d_own_eqP_31 : decode prog_59_method_5_code 31 = .ok (.if_icmp .ne 19, 3) := by decide +kernel
theorem d_own_eqP_34 : decode prog_59_method_5_code 34 = .ok (.aload_n 2, 1) := by decide +kernel
theorem d_own_eqP_35 : decode prog_59_method_5_code 35 = .ok (.getfield 16, 3) := by decide +kernel
theorem d_own_eqP_38 : decode prog_59_method_5_code 38 = .ok (.aload_n 0, 1) := by decide +kernel
theorem d_own_eqP_39 : decode prog_59_method_5_code 39 = .ok (.getfield 16, 3) := by decide +kernel
theorem d_own_eqP_42 : decode prog_59_method_5_code 42 = .ok (.lcmp, 1) := by decide +kernel
theorem d_own_eqP_43 : decode prog_59_method_5_code 43 = .ok (.ifCond .ne 7, 3) := by decide +kernel
theorem d_own_eqP_46 : decode prog_59_method_5_code 46 = .ok (.iconst 1, 1) := by decide +kernel
theorem d_own_eqP_47 : decode prog_59_method_5_code 47 = .ok (.goto 4, 3) := by decide +kernel
theorem d_own_eqP_50 : decode prog_59_method_5_code 50 = .ok (.iconst 0, 1) := by decide +kernel
theorem d_own_eqP_51 : decode prog_59_method_5_code 51 = .ok (.ireturn, 1) := by decide +kernel
set_option maxRecDepth 65536 in
set_option maxHeartbeats 40000000 in
theorem own_eqP (l : Launch) (Z : State) (a0 : Array Value) (hw : ∀ d ∈ tables_1, d.before a0 Z = true) (ws : List Jvm.Cond) (a1 a2 : Addr) (t1 g1 t2 g2 : Int32) (m1 m2 : Int64) (r : Int32) (h0 : Heap) (n0 : Nat) (P1 : own_P Z h0 a1 t1 g1 m1) (P2 : own_P Z h0 a2 t2 g2 m2) (hr : r = if t2 = t1 ∧ g2 = g1 ∧ m2 = m1 then 1 else 0) :
    own_Met l Z (⟨"com/example/dockside/dockside/service/FewestPairings$Pairing", "equals", "(Ljava/lang/Object;)Z"⟩ : MethodName) prog_59_method_5_code 3 (some .boolean) ws ({ frames := 0, cells := 0, slots := 0, locals := 0 } : Room) #[(.ref a1), (.ref a2)] h0 (own_Qp (.int r) h0 n0) := by
  refine MetFree.of_bodySF (plainFor_of_name pn_com_example_dockside_dockside_service_FewestPairings_Pairing) hisR ?_
  intro p e s m args below meth c s₁ Bd hml0 hP hK
  obtain ⟨rfl, hZ, hh⟩ := hP
  have hx := Bd.exec
  have hby := Bd.bytes
  have hml : c.maxLocals = 3 := hml0
  have hown : s.vm.findClass "com/example/dockside/dockside/service/FewestPairings$Pairing" = some m.cls := findClass_of_methodNamed Bd.named
  have hnm := (name_of_methodNamed Bd.named Bd.method).1
  have X0 : Stand p l e ({ frames := 0, cells := 0, slots := 0, locals := 0 } : Room) s m #[(.ref a1), (.ref a2)] below meth c s₁ [] 0 0 := Stand.of_body Bd
  have e0 : s₁.heap = h0 := by rw [← hh, Bd.state]; rfl
  have N0 := Fr.nil n0
  have hst : entryFrame m #[(.ref a1), (.ref a2)] 3 = mkF m 0 #[.val (.ref a1), .val (.ref a2), .unset] [] := by first | (simp [entryFrame, mkF, argsToLocals, Value.category, maxLocals]; done) | rfl
  obtain ⟨F, hF⟩ : ∃ F : State → Outcome → Prop, F = fun s₂ o => (s₂.status = .running ∧ Ended s₂ below o ∧ ∃ v L, o = .returned v ∧ (own_Qp (.int r) h0 n0) v s₂.heap L ∧ FrameEnd s o s₂ L (Room.cells ({ frames := 0, cells := 0, slots := 0, locals := 0 } : Room)) (Room.slots ({ frames := 0, cells := 0, slots := 0, locals := 0 } : Room))) := ⟨_, rfl⟩
  suffices G : own_Go p.tables e below F (s₁.setTop (mkF m 0 #[.val (.ref a1), .val (.ref a2), .unset] [])) by
    obtain ⟨t, o, a, b⟩ := G
    rw [hF] at b
    exact ⟨t, o, castTop hst a, b⟩
  show own_Go p.tables e below F (s₁.setTop (mkF m 0 #[.val (.ref a1), .val (.ref a2), .unset] []))
  refine own_st (fun _ k => XS.aloadN X0.here hx rfl (hb hby d_own_eqP_0) rfl rfl k) ?_
  show own_Go p.tables e below F (s₁.setTop (mkF m 1 #[.val (.ref a1), .val (.ref a2), .unset] [(.ref a2)]))
  obtain ⟨T1, X1, e1, st1⟩ := instY X0 hx hZ hown (hw _ (List.mem_of_getElem? (i := 20) rfl)) e0 (Ins.self P2.1) (g := (mkF m 1 #[.val (.ref a1), .val (.ref a2), .unset] [(.ref a2)])) rfl rfl (hb hby d_own_eqP_1)
  refine own_st st1 ?_
  show own_Go p.tables e below F (T1.setTop (mkF m 4 #[.val (.ref a1), .val (.ref a2), .unset] [(.int (1 : Int32))]))
  refine own_st (fun _ k => XS.ifNo X1.here hx rfl (hb hby d_own_eqP_4) rfl ((if0 _ _).trans (feq (by decide : ¬ ((1 : Int32) = (0 : Int32)))).1) k) ?_
  show own_Go p.tables e below F (T1.setTop (mkF m 7 #[.val (.ref a1), .val (.ref a2), .unset] []))
  refine own_st (fun _ k => XS.aloadN X1.here hx rfl (hb hby d_own_eqP_7) rfl rfl k) ?_
  show own_Go p.tables e below F (T1.setTop (mkF m 8 #[.val (.ref a1), .val (.ref a2), .unset] [(.ref a2)]))
  obtain ⟨T2, X2, e2, st2⟩ := castY X1 hx hZ hown (hw _ (List.mem_of_getElem? (i := 20) rfl)) e1 (Ins.self P2.1) (g := (mkF m 8 #[.val (.ref a1), .val (.ref a2), .unset] [(.ref a2)])) rfl rfl (hb hby d_own_eqP_8)
  refine own_st st2 ?_
  show own_Go p.tables e below F (T2.setTop (mkF m 11 #[.val (.ref a1), .val (.ref a2), .unset] [(.ref a2)]))
  refine own_st (fun _ k => XS.astoreN X2.here hx rfl (hb hby d_own_eqP_11) rfl rfl (l' := #[.val (.ref a1), .val (.ref a2), .val (.ref a2)]) rfl k) ?_
  show own_Go p.tables e below F (T2.setTop (mkF m 12 #[.val (.ref a1), .val (.ref a2), .val (.ref a2)] []))
  refine own_st (fun _ k => XS.aloadN X2.here hx rfl (hb hby d_own_eqP_12) rfl rfl k) ?_
  show own_Go p.tables e below F (T2.setTop (mkF m 13 #[.val (.ref a1), .val (.ref a2), .val (.ref a2)] [(.ref a2)]))
  obtain ⟨T3, X3, e3, st3⟩ := getF X2 hx hZ hown (host := "") (Or.inl (hw _ (List.mem_of_getElem? (i := 9) rfl))) Via.refl e2 P2.2.1 (g := (mkF m 13 #[.val (.ref a1), .val (.ref a2), .val (.ref a2)] [(.ref a2)])) rfl rfl (hb hby d_own_eqP_13)
  refine own_st st3 ?_
  show own_Go p.tables e below F (T3.setTop (mkF m 16 #[.val (.ref a1), .val (.ref a2), .val (.ref a2)] [(.int t2)]))
  refine own_st (fun _ k => XS.aloadN X3.here hx rfl (hb hby d_own_eqP_16) rfl rfl k) ?_
  show own_Go p.tables e below F (T3.setTop (mkF m 17 #[.val (.ref a1), .val (.ref a2), .val (.ref a2)] [(.ref a1), (.int t2)]))
  obtain ⟨T4, X4, e4, st4⟩ := getF X3 hx hZ hown (host := "") (Or.inl (hw _ (List.mem_of_getElem? (i := 9) rfl))) Via.refl e3 P1.2.1 (g := (mkF m 17 #[.val (.ref a1), .val (.ref a2), .val (.ref a2)] [(.ref a1), (.int t2)])) rfl rfl (hb hby d_own_eqP_17)
  refine own_st st4 ?_
  show own_Go p.tables e below F (T4.setTop (mkF m 20 #[.val (.ref a1), .val (.ref a2), .val (.ref a2)] [(.int t1), (.int t2)]))
  by_cases hc20 : t2 = t1
  ·
    refine own_st (fun _ k => XS.icmpNo X4.here hx rfl (hb hby d_own_eqP_20) rfl (teq hc20).2 k) ?_
    show own_Go p.tables e below F (T4.setTop (mkF m 23 #[.val (.ref a1), .val (.ref a2), .val (.ref a2)] []))
    refine own_st (fun _ k => XS.aloadN X4.here hx rfl (hb hby d_own_eqP_23) rfl rfl k) ?_
    show own_Go p.tables e below F (T4.setTop (mkF m 24 #[.val (.ref a1), .val (.ref a2), .val (.ref a2)] [(.ref a2)]))
    obtain ⟨T5, X5, e5, st5⟩ := getF X4 hx hZ hown (host := "") (Or.inl (hw _ (List.mem_of_getElem? (i := 11) rfl))) Via.refl e4 P2.2.2.1 (g := (mkF m 24 #[.val (.ref a1), .val (.ref a2), .val (.ref a2)] [(.ref a2)])) rfl rfl (hb hby d_own_eqP_24)
    refine own_st st5 ?_
    show own_Go p.tables e below F (T5.setTop (mkF m 27 #[.val (.ref a1), .val (.ref a2), .val (.ref a2)] [(.int g2)]))
    refine own_st (fun _ k => XS.aloadN X5.here hx rfl (hb hby d_own_eqP_27) rfl rfl k) ?_
    show own_Go p.tables e below F (T5.setTop (mkF m 28 #[.val (.ref a1), .val (.ref a2), .val (.ref a2)] [(.ref a1), (.int g2)]))
    obtain ⟨T6, X6, e6, st6⟩ := getF X5 hx hZ hown (host := "") (Or.inl (hw _ (List.mem_of_getElem? (i := 11) rfl))) Via.refl e5 P1.2.2.1 (g := (mkF m 28 #[.val (.ref a1), .val (.ref a2), .val (.ref a2)] [(.ref a1), (.int g2)])) rfl rfl (hb hby d_own_eqP_28)
    refine own_st st6 ?_
    show own_Go p.tables e below F (T6.setTop (mkF m 31 #[.val (.ref a1), .val (.ref a2), .val (.ref a2)] [(.int g1), (.int g2)]))
    by_cases hc31 : g2 = g1
    ·
      refine own_st (fun _ k => XS.icmpNo X6.here hx rfl (hb hby d_own_eqP_31) rfl (teq hc31).2 k) ?_
      show own_Go p.tables e below F (T6.setTop (mkF m 34 #[.val (.ref a1), .val (.ref a2), .val (.ref a2)] []))
      refine own_st (fun _ k => XS.aloadN X6.here hx rfl (hb hby d_own_eqP_34) rfl rfl k) ?_
      show own_Go p.tables e below F (T6.setTop (mkF m 35 #[.val (.ref a1), .val (.ref a2), .val (.ref a2)] [(.ref a2)]))
      obtain ⟨T7, X7, e7, st7⟩ := getF X6 hx hZ hown (host := "") (Or.inl (hw _ (List.mem_of_getElem? (i := 13) rfl))) Via.refl e6 P2.2.2.2 (g := (mkF m 35 #[.val (.ref a1), .val (.ref a2), .val (.ref a2)] [(.ref a2)])) rfl rfl (hb hby d_own_eqP_35)
      refine own_st st7 ?_
      show own_Go p.tables e below F (T7.setTop (mkF m 38 #[.val (.ref a1), .val (.ref a2), .val (.ref a2)] [(.long m2)]))
      refine own_st (fun _ k => XS.aloadN X7.here hx rfl (hb hby d_own_eqP_38) rfl rfl k) ?_
      show own_Go p.tables e below F (T7.setTop (mkF m 39 #[.val (.ref a1), .val (.ref a2), .val (.ref a2)] [(.ref a1), (.long m2)]))
      obtain ⟨T8, X8, e8, st8⟩ := getF X7 hx hZ hown (host := "") (Or.inl (hw _ (List.mem_of_getElem? (i := 13) rfl))) Via.refl e7 P1.2.2.2 (g := (mkF m 39 #[.val (.ref a1), .val (.ref a2), .val (.ref a2)] [(.ref a1), (.long m2)])) rfl rfl (hb hby d_own_eqP_39)
      refine own_st st8 ?_
      show own_Go p.tables e below F (T8.setTop (mkF m 42 #[.val (.ref a1), .val (.ref a2), .val (.ref a2)] [(.long m1), (.long m2)]))
      refine own_st (fun _ k => XS.lcmp X8.here hx rfl (hb hby d_own_eqP_42) rfl k) ?_
      show own_Go p.tables e below F (T8.setTop (mkF m 43 #[.val (.ref a1), .val (.ref a2), .val (.ref a2)] [(.int (lcmpW m2 m1))]))
      by_cases hc43 : (lcmpW m2 m1) = (0 : Int32)
      ·
        refine own_st (fun _ k => XS.ifNo X8.here hx rfl (hb hby d_own_eqP_43) rfl ((if0 _ _).trans (teq hc43).2) k) ?_
        show own_Go p.tables e below F (T8.setTop (mkF m 46 #[.val (.ref a1), .val (.ref a2), .val (.ref a2)] []))
        refine own_st (fun _ k => XS.iconst X8.here hx rfl (hb hby d_own_eqP_46) k) ?_
        show own_Go p.tables e below F (T8.setTop (mkF m 47 #[.val (.ref a1), .val (.ref a2), .val (.ref a2)] [(.int (1 : Int32))]))
        refine own_st (fun _ k => XS.goto X8.here hx rfl (pc0 := 47) (pc' := 51) rfl (hb hby d_own_eqP_47) (by decide) (by decide) k) ?_
        show own_Go p.tables e below F (T8.setTop (mkF m 51 #[.val (.ref a1), .val (.ref a2), .val (.ref a2)] [(.int (1 : Int32))]))
        obtain ⟨fs, hrL, hrun, hended, hW, hsame⟩ := X8.leave (v := some (.int (1 : Int32))) (fun h => by rw [Bd.returns] at h; cases h)
        refine own_end hF (o := .returned (some (.int (1 : Int32)))) (retN X8 hx (t := .boolean) Bd.returns (by simp) (hb hby d_own_eqP_51) hrL) ?_
        refine ⟨hrun, hended, _, _, rfl, ?_, ⟨_, rfl⟩, hW, hsame.mono (by decide) (by decide)⟩
        have qL : m2 = m1 := (lw_eq _ _).mp hc43
        exact ⟨by rw [hr, if_pos ⟨hc20, hc31, qL⟩], N0, e8⟩
      ·
        refine own_st (fun _ k => XS.ifYes X8.here hx rfl (pc0 := 43) (pc' := 50) rfl (hb hby d_own_eqP_43) rfl ((if0 _ _).trans (feq hc43).2) (by decide) (by decide) k) ?_
        show own_Go p.tables e below F (T8.setTop (mkF m 50 #[.val (.ref a1), .val (.ref a2), .val (.ref a2)] []))
        refine own_st (fun _ k => XS.iconst X8.here hx rfl (hb hby d_own_eqP_50) k) ?_
        show own_Go p.tables e below F (T8.setTop (mkF m 51 #[.val (.ref a1), .val (.ref a2), .val (.ref a2)] [(.int (0 : Int32))]))
        obtain ⟨fs, hrL, hrun, hended, hW, hsame⟩ := X8.leave (v := some (.int (0 : Int32))) (fun h => by rw [Bd.returns] at h; cases h)
        refine own_end hF (o := .returned (some (.int (0 : Int32)))) (retN X8 hx (t := .boolean) Bd.returns (by simp) (hb hby d_own_eqP_51) hrL) ?_
        refine ⟨hrun, hended, _, _, rfl, ?_, ⟨_, rfl⟩, hW, hsame.mono (by decide) (by decide)⟩
        have qL : ¬ (m2 = m1) := fun z => hc43 ((lw_eq _ _).mpr z)
        exact ⟨by rw [hr, if_neg (fun z => qL z.2.2)], N0, e8⟩
    ·
      refine own_st (fun _ k => XS.icmpYes X6.here hx rfl (pc0 := 31) (pc' := 50) rfl (hb hby d_own_eqP_31) rfl (feq hc31).2 (by decide) (by decide) k) ?_
      show own_Go p.tables e below F (T6.setTop (mkF m 50 #[.val (.ref a1), .val (.ref a2), .val (.ref a2)] []))
      refine own_st (fun _ k => XS.iconst X6.here hx rfl (hb hby d_own_eqP_50) k) ?_
      show own_Go p.tables e below F (T6.setTop (mkF m 51 #[.val (.ref a1), .val (.ref a2), .val (.ref a2)] [(.int (0 : Int32))]))
      obtain ⟨fs, hrL, hrun, hended, hW, hsame⟩ := X6.leave (v := some (.int (0 : Int32))) (fun h => by rw [Bd.returns] at h; cases h)
      refine own_end hF (o := .returned (some (.int (0 : Int32)))) (retN X6 hx (t := .boolean) Bd.returns (by simp) (hb hby d_own_eqP_51) hrL) ?_
      refine ⟨hrun, hended, _, _, rfl, ?_, ⟨_, rfl⟩, hW, hsame.mono (by decide) (by decide)⟩
      exact ⟨by rw [hr, if_neg (fun z => hc31 z.2.1)], N0, e6⟩
  ·
    refine own_st (fun _ k => XS.icmpYes X4.here hx rfl (pc0 := 20) (pc' := 50) rfl (hb hby d_own_eqP_20) rfl (feq hc20).2 (by decide) (by decide) k) ?_
    show own_Go p.tables e below F (T4.setTop (mkF m 50 #[.val (.ref a1), .val (.ref a2), .val (.ref a2)] []))
    refine own_st (fun _ k => XS.iconst X4.here hx rfl (hb hby d_own_eqP_50) k) ?_
    show own_Go p.tables e below F (T4.setTop (mkF m 51 #[.val (.ref a1), .val (.ref a2), .val (.ref a2)] [(.int (0 : Int32))]))
    obtain ⟨fs, hrL, hrun, hended, hW, hsame⟩ := X4.leave (v := some (.int (0 : Int32))) (fun h => by rw [Bd.returns] at h; cases h)
    refine own_end hF (o := .returned (some (.int (0 : Int32)))) (retN X4 hx (t := .boolean) Bd.returns (by simp) (hb hby d_own_eqP_51) hrL) ?_
    refine ⟨hrun, hended, _, _, rfl, ?_, ⟨_, rfl⟩, hW, hsame.mono (by decide) (by decide)⟩
    exact ⟨by rw [hr, if_neg (fun z => hc20 z.1)], N0, e4⟩
theorem pn_com_example_dockside_dockside_service_PairingEqualsPinLaw : plainName "com/example/dockside/dockside/service/PairingEqualsPinLaw" = true := by first | (simp [plainName, overriddenIn]; done) | decide +kernel
theorem pd_2 : parseMethodDescriptor "(IIJ)V" = some ⟨[.int, .int, .long], none⟩ := by decide +kernel
theorem pd_3 : parseMethodDescriptor "(Ljava/lang/Object;)Z" = some ⟨[(.object "java/lang/Object")], some .boolean⟩ := by decide +kernel
theorem pd_4 : parseMethodDescriptor "(I)Ljava/lang/Integer;" = some ⟨[.int], some (.object "java/lang/Integer")⟩ := by decide +kernel
set_option maxRecDepth 65536 in
set_option maxHeartbeats 40000000 in
theorem own_law (l : Launch) (Z : State) (a0 : Array Value) (hw : ∀ d ∈ tables_1, d.before a0 Z = true) (ws : List Jvm.Cond) (t gi : Int32) (am : Int64) (dd : Int32) (ee : Int64) (sel : Int32) (cA : Addr) (cl : Cell) (h0 : Heap) (n0 : Nat) (Z0 : n0 ≤ h0.size) (O : Ext Z.heap h0) (SH : Sta Z Z.heap "java/lang/Integer$IntegerCache" "high" "I" (.int (127 : Int32))) (SC : Sta Z Z.heap "java/lang/Integer$IntegerCache" "cache" "[Ljava/lang/Integer;" (.ref cA)) (B : Bxs Z cA cl "java/lang/Integer" "I" (256 : Int32) (fun j => .int (j - (128 : Int32)))) :
    own_Met l Z x code maxLocals ret ws room_1 #[(.int t), (.int gi), (.long am), (.int dd), (.long ee), (.int sel)] h0 (own_Q0 h0 n0) := by
  refine MetFree.of_bodySF (plainFor_of_name pn_com_example_dockside_dockside_service_PairingEqualsPinLaw) hisR ?_
  intro p e s m args below meth c s₁ Bd hml0 hP hK
  obtain ⟨rfl, hZ, hh⟩ := hP
  have hx := Bd.exec
  have hby := Bd.bytes
  have hml : c.maxLocals = 18 := hml0
  have hown : s.vm.findClass "com/example/dockside/dockside/service/PairingEqualsPinLaw" = some m.cls := findClass_of_methodNamed Bd.named
  have hnm := (name_of_methodNamed Bd.named Bd.method).1
  have X0 : Stand p l e room_1 s m #[(.int t), (.int gi), (.long am), (.int dd), (.long ee), (.int sel)] below meth c s₁ [] 0 0 := Stand.of_body Bd
  have e0 : s₁.heap = h0 := by rw [← hh, Bd.state]; rfl
  have N0 := Fr.nil n0
  have hst : entryFrame m #[(.int t), (.int gi), (.long am), (.int dd), (.long ee), (.int sel)] maxLocals = mkF m 0 #[.val (.int t), .val (.int gi), .val (.long am), .second, .val (.int dd), .val (.long ee), .second, .val (.int sel), .unset, .unset, .unset, .unset, .unset, .unset, .unset, .unset, .unset, .unset] [] := by first | (simp [entryFrame, mkF, argsToLocals, Value.category, maxLocals]; done) | rfl
  obtain ⟨F, hF⟩ : ∃ F : State → Outcome → Prop, F = fun s₂ o => (s₂.status = .running ∧ Ended s₂ below o ∧ ∃ v L, o = .returned v ∧ (own_Q0 h0 n0) v s₂.heap L ∧ FrameEnd s o s₂ L (Room.cells room_1) (Room.slots room_1)) := ⟨_, rfl⟩
  suffices G : own_Go p.tables e below F (s₁.setTop (mkF m 0 #[.val (.int t), .val (.int gi), .val (.long am), .second, .val (.int dd), .val (.long ee), .second, .val (.int sel), .unset, .unset, .unset, .unset, .unset, .unset, .unset, .unset, .unset, .unset] [])) by
    obtain ⟨t, o, a, b⟩ := G
    rw [hF] at b
    exact ⟨t, o, castTop hst a, b⟩
  show own_Go p.tables e below F (s₁.setTop (mkF m 0 #[.val (.int t), .val (.int gi), .val (.long am), .second, .val (.int dd), .val (.long ee), .second, .val (.int sel), .unset, .unset, .unset, .unset, .unset, .unset, .unset, .unset, .unset, .unset] []))
  suffices J13 : ∀ (x8 : Int32), own_Go p.tables e below F (s₁.setTop (mkF m 13 #[.val (.int t), .val (.int gi), .val (.long am), .second, .val (.int dd), .val (.long ee), .second, .val (.int sel), .unset, .unset, .unset, .unset, .unset, .unset, .unset, .unset, .unset, .unset] [(.int x8)])) by
    refine own_st (fun _ k => XS.iload X0.here hx rfl (hb hby at_0) rfl k) ?_
    show own_Go p.tables e below F (s₁.setTop (mkF m 2 #[.val (.int t), .val (.int gi), .val (.long am), .second, .val (.int dd), .val (.long ee), .second, .val (.int sel), .unset, .unset, .unset, .unset, .unset, .unset, .unset, .unset, .unset, .unset] [(.int sel)]))
    refine own_st (fun _ k => XS.iconst X0.here hx rfl (hb hby at_2) k) ?_
    show own_Go p.tables e below F (s₁.setTop (mkF m 3 #[.val (.int t), .val (.int gi), .val (.long am), .second, .val (.int dd), .val (.long ee), .second, .val (.int sel), .unset, .unset, .unset, .unset, .unset, .unset, .unset, .unset, .unset, .unset] [(.int (1 : Int32)), (.int sel)]))
    refine own_st (fun _ k => XS.iand X0.here hx rfl (hb hby at_3) rfl k) ?_
    show own_Go p.tables e below F (s₁.setTop (mkF m 4 #[.val (.int t), .val (.int gi), .val (.long am), .second, .val (.int dd), .val (.long ee), .second, .val (.int sel), .unset, .unset, .unset, .unset, .unset, .unset, .unset, .unset, .unset, .unset] [(.int (sel &&& (1 : Int32)))]))
    by_cases hc4 : (sel &&& (1 : Int32)) = (0 : Int32)
    ·
      refine own_st (fun _ k => XS.ifYes X0.here hx rfl (pc0 := 4) (pc' := 12) rfl (hb hby at_4) rfl ((if0 _ _).trans (teq hc4).1) (by decide) (by decide) k) ?_
      show own_Go p.tables e below F (s₁.setTop (mkF m 12 #[.val (.int t), .val (.int gi), .val (.long am), .second, .val (.int dd), .val (.long ee), .second, .val (.int sel), .unset, .unset, .unset, .unset, .unset, .unset, .unset, .unset, .unset, .unset] []))
      refine own_st (fun _ k => XS.iloadN X0.here hx rfl (hb hby at_12) rfl k) ?_
      show own_Go p.tables e below F (s₁.setTop (mkF m 13 #[.val (.int t), .val (.int gi), .val (.long am), .second, .val (.int dd), .val (.long ee), .second, .val (.int sel), .unset, .unset, .unset, .unset, .unset, .unset, .unset, .unset, .unset, .unset] [(.int t)]))
      exact J13 _
    ·
      refine own_st (fun _ k => XS.ifNo X0.here hx rfl (hb hby at_4) rfl ((if0 _ _).trans (feq hc4).1) k) ?_
      show own_Go p.tables e below F (s₁.setTop (mkF m 7 #[.val (.int t), .val (.int gi), .val (.long am), .second, .val (.int dd), .val (.long ee), .second, .val (.int sel), .unset, .unset, .unset, .unset, .unset, .unset, .unset, .unset, .unset, .unset] []))
      refine own_st (fun _ k => XS.iload X0.here hx rfl (hb hby at_7) rfl k) ?_
      show own_Go p.tables e below F (s₁.setTop (mkF m 9 #[.val (.int t), .val (.int gi), .val (.long am), .second, .val (.int dd), .val (.long ee), .second, .val (.int sel), .unset, .unset, .unset, .unset, .unset, .unset, .unset, .unset, .unset, .unset] [(.int dd)]))
      refine own_st (fun _ k => XS.goto X0.here hx rfl (pc0 := 9) (pc' := 13) rfl (hb hby at_9) (by decide) (by decide) k) ?_
      show own_Go p.tables e below F (s₁.setTop (mkF m 13 #[.val (.int t), .val (.int gi), .val (.long am), .second, .val (.int dd), .val (.long ee), .second, .val (.int sel), .unset, .unset, .unset, .unset, .unset, .unset, .unset, .unset, .unset, .unset] [(.int dd)]))
      exact J13 _
  intro x8
  show own_Go p.tables e below F (s₁.setTop (mkF m 13 #[.val (.int t), .val (.int gi), .val (.long am), .second, .val (.int dd), .val (.long ee), .second, .val (.int sel), .unset, .unset, .unset, .unset, .unset, .unset, .unset, .unset, .unset, .unset] [(.int x8)]))
  refine own_st (fun _ k => XS.istore X0.here hx rfl (hb hby at_13) rfl (l' := #[.val (.int t), .val (.int gi), .val (.long am), .second, .val (.int dd), .val (.long ee), .second, .val (.int sel), .val (.int x8), .unset, .unset, .unset, .unset, .unset, .unset, .unset, .unset, .unset]) rfl k) ?_
  show own_Go p.tables e below F (s₁.setTop (mkF m 15 #[.val (.int t), .val (.int gi), .val (.long am), .second, .val (.int dd), .val (.long ee), .second, .val (.int sel), .val (.int x8), .unset, .unset, .unset, .unset, .unset, .unset, .unset, .unset, .unset] []))
  suffices J28 : ∀ (x9 : Int32), own_Go p.tables e below F (s₁.setTop (mkF m 28 #[.val (.int t), .val (.int gi), .val (.long am), .second, .val (.int dd), .val (.long ee), .second, .val (.int sel), .val (.int x8), .unset, .unset, .unset, .unset, .unset, .unset, .unset, .unset, .unset] [(.int x9)])) by
    refine own_st (fun _ k => XS.iload X0.here hx rfl (hb hby at_15) rfl k) ?_
    show own_Go p.tables e below F (s₁.setTop (mkF m 17 #[.val (.int t), .val (.int gi), .val (.long am), .second, .val (.int dd), .val (.long ee), .second, .val (.int sel), .val (.int x8), .unset, .unset, .unset, .unset, .unset, .unset, .unset, .unset, .unset] [(.int sel)]))
    refine own_st (fun _ k => XS.iconst X0.here hx rfl (hb hby at_17) k) ?_
    show own_Go p.tables e below F (s₁.setTop (mkF m 18 #[.val (.int t), .val (.int gi), .val (.long am), .second, .val (.int dd), .val (.long ee), .second, .val (.int sel), .val (.int x8), .unset, .unset, .unset, .unset, .unset, .unset, .unset, .unset, .unset] [(.int (2 : Int32)), (.int sel)]))
    refine own_st (fun _ k => XS.iand X0.here hx rfl (hb hby at_18) rfl k) ?_
    show own_Go p.tables e below F (s₁.setTop (mkF m 19 #[.val (.int t), .val (.int gi), .val (.long am), .second, .val (.int dd), .val (.long ee), .second, .val (.int sel), .val (.int x8), .unset, .unset, .unset, .unset, .unset, .unset, .unset, .unset, .unset] [(.int (sel &&& (2 : Int32)))]))
    by_cases hc19 : (sel &&& (2 : Int32)) = (0 : Int32)
    ·
      refine own_st (fun _ k => XS.ifYes X0.here hx rfl (pc0 := 19) (pc' := 27) rfl (hb hby at_19) rfl ((if0 _ _).trans (teq hc19).1) (by decide) (by decide) k) ?_
      show own_Go p.tables e below F (s₁.setTop (mkF m 27 #[.val (.int t), .val (.int gi), .val (.long am), .second, .val (.int dd), .val (.long ee), .second, .val (.int sel), .val (.int x8), .unset, .unset, .unset, .unset, .unset, .unset, .unset, .unset, .unset] []))
      refine own_st (fun _ k => XS.iloadN X0.here hx rfl (hb hby at_27) rfl k) ?_
      show own_Go p.tables e below F (s₁.setTop (mkF m 28 #[.val (.int t), .val (.int gi), .val (.long am), .second, .val (.int dd), .val (.long ee), .second, .val (.int sel), .val (.int x8), .unset, .unset, .unset, .unset, .unset, .unset, .unset, .unset, .unset] [(.int gi)]))
      exact J28 _
    ·
      refine own_st (fun _ k => XS.ifNo X0.here hx rfl (hb hby at_19) rfl ((if0 _ _).trans (feq hc19).1) k) ?_
      show own_Go p.tables e below F (s₁.setTop (mkF m 22 #[.val (.int t), .val (.int gi), .val (.long am), .second, .val (.int dd), .val (.long ee), .second, .val (.int sel), .val (.int x8), .unset, .unset, .unset, .unset, .unset, .unset, .unset, .unset, .unset] []))
      refine own_st (fun _ k => XS.iload X0.here hx rfl (hb hby at_22) rfl k) ?_
      show own_Go p.tables e below F (s₁.setTop (mkF m 24 #[.val (.int t), .val (.int gi), .val (.long am), .second, .val (.int dd), .val (.long ee), .second, .val (.int sel), .val (.int x8), .unset, .unset, .unset, .unset, .unset, .unset, .unset, .unset, .unset] [(.int dd)]))
      refine own_st (fun _ k => XS.goto X0.here hx rfl (pc0 := 24) (pc' := 28) rfl (hb hby at_24) (by decide) (by decide) k) ?_
      show own_Go p.tables e below F (s₁.setTop (mkF m 28 #[.val (.int t), .val (.int gi), .val (.long am), .second, .val (.int dd), .val (.long ee), .second, .val (.int sel), .val (.int x8), .unset, .unset, .unset, .unset, .unset, .unset, .unset, .unset, .unset] [(.int dd)]))
      exact J28 _
  intro x9
  show own_Go p.tables e below F (s₁.setTop (mkF m 28 #[.val (.int t), .val (.int gi), .val (.long am), .second, .val (.int dd), .val (.long ee), .second, .val (.int sel), .val (.int x8), .unset, .unset, .unset, .unset, .unset, .unset, .unset, .unset, .unset] [(.int x9)]))
  refine own_st (fun _ k => XS.istore X0.here hx rfl (hb hby at_28) rfl (l' := #[.val (.int t), .val (.int gi), .val (.long am), .second, .val (.int dd), .val (.long ee), .second, .val (.int sel), .val (.int x8), .val (.int x9), .unset, .unset, .unset, .unset, .unset, .unset, .unset, .unset]) rfl k) ?_
  show own_Go p.tables e below F (s₁.setTop (mkF m 30 #[.val (.int t), .val (.int gi), .val (.long am), .second, .val (.int dd), .val (.long ee), .second, .val (.int sel), .val (.int x8), .val (.int x9), .unset, .unset, .unset, .unset, .unset, .unset, .unset, .unset] []))
  suffices J43 : ∀ (xA : Int64), own_Go p.tables e below F (s₁.setTop (mkF m 43 #[.val (.int t), .val (.int gi), .val (.long am), .second, .val (.int dd), .val (.long ee), .second, .val (.int sel), .val (.int x8), .val (.int x9), .unset, .unset, .unset, .unset, .unset, .unset, .unset, .unset] [(.long xA)])) by
    refine own_st (fun _ k => XS.iload X0.here hx rfl (hb hby at_30) rfl k) ?_
    show own_Go p.tables e below F (s₁.setTop (mkF m 32 #[.val (.int t), .val (.int gi), .val (.long am), .second, .val (.int dd), .val (.long ee), .second, .val (.int sel), .val (.int x8), .val (.int x9), .unset, .unset, .unset, .unset, .unset, .unset, .unset, .unset] [(.int sel)]))
    refine own_st (fun _ k => XS.iconst X0.here hx rfl (hb hby at_32) k) ?_
    show own_Go p.tables e below F (s₁.setTop (mkF m 33 #[.val (.int t), .val (.int gi), .val (.long am), .second, .val (.int dd), .val (.long ee), .second, .val (.int sel), .val (.int x8), .val (.int x9), .unset, .unset, .unset, .unset, .unset, .unset, .unset, .unset] [(.int (4 : Int32)), (.int sel)]))
    refine own_st (fun _ k => XS.iand X0.here hx rfl (hb hby at_33) rfl k) ?_
    show own_Go p.tables e below F (s₁.setTop (mkF m 34 #[.val (.int t), .val (.int gi), .val (.long am), .second, .val (.int dd), .val (.long ee), .second, .val (.int sel), .val (.int x8), .val (.int x9), .unset, .unset, .unset, .unset, .unset, .unset, .unset, .unset] [(.int (sel &&& (4 : Int32)))]))
    by_cases hc34 : (sel &&& (4 : Int32)) = (0 : Int32)
    ·
      refine own_st (fun _ k => XS.ifYes X0.here hx rfl (pc0 := 34) (pc' := 42) rfl (hb hby at_34) rfl ((if0 _ _).trans (teq hc34).1) (by decide) (by decide) k) ?_
      show own_Go p.tables e below F (s₁.setTop (mkF m 42 #[.val (.int t), .val (.int gi), .val (.long am), .second, .val (.int dd), .val (.long ee), .second, .val (.int sel), .val (.int x8), .val (.int x9), .unset, .unset, .unset, .unset, .unset, .unset, .unset, .unset] []))
      refine own_st (fun _ k => XS.lloadN X0.here hx rfl (hb hby at_42) rfl k) ?_
      show own_Go p.tables e below F (s₁.setTop (mkF m 43 #[.val (.int t), .val (.int gi), .val (.long am), .second, .val (.int dd), .val (.long ee), .second, .val (.int sel), .val (.int x8), .val (.int x9), .unset, .unset, .unset, .unset, .unset, .unset, .unset, .unset] [(.long am)]))
      exact J43 _
    ·
      refine own_st (fun _ k => XS.ifNo X0.here hx rfl (hb hby at_34) rfl ((if0 _ _).trans (feq hc34).1) k) ?_
      show own_Go p.tables e below F (s₁.setTop (mkF m 37 #[.val (.int t), .val (.int gi), .val (.long am), .second, .val (.int dd), .val (.long ee), .second, .val (.int sel), .val (.int x8), .val (.int x9), .unset, .unset, .unset, .unset, .unset, .unset, .unset, .unset] []))
      refine own_st (fun _ k => XS.lload X0.here hx rfl (hb hby at_37) rfl k) ?_
      show own_Go p.tables e below F (s₁.setTop (mkF m 39 #[.val (.int t), .val (.int gi), .val (.long am), .second, .val (.int dd), .val (.long ee), .second, .val (.int sel), .val (.int x8), .val (.int x9), .unset, .unset, .unset, .unset, .unset, .unset, .unset, .unset] [(.long ee)]))
      refine own_st (fun _ k => XS.goto X0.here hx rfl (pc0 := 39) (pc' := 43) rfl (hb hby at_39) (by decide) (by decide) k) ?_
      show own_Go p.tables e below F (s₁.setTop (mkF m 43 #[.val (.int t), .val (.int gi), .val (.long am), .second, .val (.int dd), .val (.long ee), .second, .val (.int sel), .val (.int x8), .val (.int x9), .unset, .unset, .unset, .unset, .unset, .unset, .unset, .unset] [(.long ee)]))
      exact J43 _
  intro xA
  show own_Go p.tables e below F (s₁.setTop (mkF m 43 #[.val (.int t), .val (.int gi), .val (.long am), .second, .val (.int dd), .val (.long ee), .second, .val (.int sel), .val (.int x8), .val (.int x9), .unset, .unset, .unset, .unset, .unset, .unset, .unset, .unset] [(.long xA)]))
  refine own_st (fun _ k => XS.lstore X0.here hx rfl (hb hby at_43) rfl (l' := #[.val (.int t), .val (.int gi), .val (.long am), .second, .val (.int dd), .val (.long ee), .second, .val (.int sel), .val (.int x8), .val (.int x9), .val (.long xA), .second, .unset, .unset, .unset, .unset, .unset, .unset]) rfl k) ?_
  show own_Go p.tables e below F (s₁.setTop (mkF m 45 #[.val (.int t), .val (.int gi), .val (.long am), .second, .val (.int dd), .val (.long ee), .second, .val (.int sel), .val (.int x8), .val (.int x9), .val (.long xA), .second, .unset, .unset, .unset, .unset, .unset, .unset] []))
  obtain ⟨T1, h1, X1, e1, E1, A1, D1, -, st1⟩ := newO X0 hx hZ hown (hw _ (List.mem_of_getElem? (i := 0) rfl)) (hw _ (List.mem_of_getElem? (i := 1) rfl)) (hw _ (List.mem_of_getElem? (i := 2) rfl)) e0 (g := (mkF m 45 #[.val (.int t), .val (.int gi), .val (.long am), .second, .val (.int dd), .val (.long ee), .second, .val (.int sel), .val (.int x8), .val (.int x9), .val (.long xA), .second, .unset, .unset, .unset, .unset, .unset, .unset] [])) rfl (hb hby at_45) (by decide) (by decide)
  obtain ⟨b1, g1⟩ : ∃ z, z = h0.size := ⟨_, rfl⟩
  rw [← g1] at A1 D1 st1
  have sz_b1 : h0.size ≤ b1 := Nat.le_trans own_ext_refl.1 (Nat.le_of_eq g1.symm)
  have gn_b1 : n0 ≤ b1 := Nat.le_trans Z0 sz_b1
  have K0_1 := own_ext_ext own_ext_refl E1
  have F1_taker : Fld Z h1 b1 "com/example/dockside/dockside/service/FewestPairings$Pairing" "taker" "I" (.int (0 : Int32)) := D1 (Or.inr (hw _ (List.mem_of_getElem? (i := 10) rfl))) (ty := .int) (by decide)
  have F1_giver : Fld Z h1 b1 "com/example/dockside/dockside/service/FewestPairings$Pairing" "giver" "I" (.int (0 : Int32)) := D1 (Or.inr (hw _ (List.mem_of_getElem? (i := 12) rfl))) (ty := .int) (by decide)
  have F1_amount : Fld Z h1 b1 "com/example/dockside/dockside/service/FewestPairings$Pairing" "amount" "J" (.long (0 : Int64)) := D1 (Or.inr (hw _ (List.mem_of_getElem? (i := 14) rfl))) (ty := .long) (by decide)
  refine own_st st1 ?_
  show own_Go p.tables e below F (T1.setTop (mkF m 48 #[.val (.int t), .val (.int gi), .val (.long am), .second, .val (.int dd), .val (.long ee), .second, .val (.int sel), .val (.int x8), .val (.int x9), .val (.long xA), .second, .unset, .unset, .unset, .unset, .unset, .unset] [(.ref b1)]))
  refine own_st (fun _ k => XS.dup X1.here hx rfl (hb hby at_48) rfl rfl k) ?_
  show own_Go p.tables e below F (T1.setTop (mkF m 49 #[.val (.int t), .val (.int gi), .val (.long am), .second, .val (.int dd), .val (.long ee), .second, .val (.int sel), .val (.int x8), .val (.int x9), .val (.long xA), .second, .unset, .unset, .unset, .unset, .unset, .unset] [(.ref b1), (.ref b1)]))
  refine own_st (fun _ k => XS.iloadN X1.here hx rfl (hb hby at_49) rfl k) ?_
  show own_Go p.tables e below F (T1.setTop (mkF m 50 #[.val (.int t), .val (.int gi), .val (.long am), .second, .val (.int dd), .val (.long ee), .second, .val (.int sel), .val (.int x8), .val (.int x9), .val (.long xA), .second, .unset, .unset, .unset, .unset, .unset, .unset] [(.int t), (.ref b1), (.ref b1)]))
  refine own_st (fun _ k => XS.iloadN X1.here hx rfl (hb hby at_50) rfl k) ?_
  show own_Go p.tables e below F (T1.setTop (mkF m 51 #[.val (.int t), .val (.int gi), .val (.long am), .second, .val (.int dd), .val (.long ee), .second, .val (.int sel), .val (.int x8), .val (.int x9), .val (.long xA), .second, .unset, .unset, .unset, .unset, .unset, .unset] [(.int gi), (.int t), (.ref b1), (.ref b1)]))
  refine own_st (fun _ k => XS.lloadN X1.here hx rfl (hb hby at_51) rfl k) ?_
  show own_Go p.tables e below F (T1.setTop (mkF m 52 #[.val (.int t), .val (.int gi), .val (.long am), .second, .val (.int dd), .val (.long ee), .second, .val (.int sel), .val (.int x8), .val (.int x9), .val (.long xA), .second, .unset, .unset, .unset, .unset, .unset, .unset] [(.long am), (.int gi), (.int t), (.ref b1), (.ref b1)]))
  obtain ⟨_, _, ⟨T2, L2, k2, n2⟩, -, X2, ⟨Lc2, hQ2, l2, y2, z2⟩, st2⟩ := X1.specialBack hx (y := (⟨"com/example/dockside/dockside/service/FewestPairings$Pairing", "<init>", "(IIJ)V"⟩ : MethodName)) rfl hown (mvT hZ (hw _ (List.mem_of_getElem? (i := 3) rfl))) (mvT hZ (hw _ (List.mem_of_getElem? (i := 4) rfl))) (mvT hZ (hw _ (List.mem_of_getElem? (i := 5) rfl))) (by decide) (backOf (W := 1) (own_init l Z a0 hw [] b1 t gi am h1 n0 (Nat.le_trans Z0 K0_1.1) A1 F1_taker F1_giver F1_amount gn_b1) hZ (hw _ (List.mem_of_getElem? (i := 5) rfl)) (hw _ (List.mem_of_getElem? (i := 2) rfl)) (by decide) (by decide)) (g := (mkF m 52 #[.val (.int t), .val (.int gi), .val (.long am), .second, .val (.int dd), .val (.long ee), .second, .val (.int sel), .val (.int x8), .val (.int x9), .val (.long xA), .second, .unset, .unset, .unset, .unset, .unset, .unset] [(.long am), (.int gi), (.int t), (.ref b1), (.ref b1)])) rfl (by rw [hml]; rfl) (Steps.refl _) (a := b1) (argsL := [(.int t), (.int gi), (.long am)]) (rest := [(.ref b1)]) (lenOf pd_2 rfl) rfl (by show 2 * 0 + _ ≤ _; exact Nat.le_of_eq rfl) (hb hby at_52) (fun _ _ => ⟨rfl, e1, (by decide : 1 + 0 ≤ _), (by decide : 3 + 0 ≤ _)⟩)
  dsimp only [Pt.U, Pt.locs, Pt.cells, Pt.slots] at X2 l2 y2 z2 st2 hQ2
  subst l2 y2 z2
  obtain ⟨rfl, N2q, K2, Pn2⟩ := hQ2
  have N2 := Fr.app N0 N2q
  refine own_st (fun _ k => st2.trans k) ?_
  have A1__2 := A1.keep K2
  have K0_2 := own_ext_keep K0_1 K2 (allS sz_b1 all0)
  show own_Go p.tables e below F (T2.setTop (mkF m 55 #[.val (.int t), .val (.int gi), .val (.long am), .second, .val (.int dd), .val (.long ee), .second, .val (.int sel), .val (.int x8), .val (.int x9), .val (.long xA), .second, .unset, .unset, .unset, .unset, .unset, .unset] [(.ref b1)]))
  refine own_st (fun _ k => XS.astore X2.here hx rfl (hb hby at_55) rfl rfl (l' := #[.val (.int t), .val (.int gi), .val (.long am), .second, .val (.int dd), .val (.long ee), .second, .val (.int sel), .val (.int x8), .val (.int x9), .val (.long xA), .second, .val (.ref b1), .unset, .unset, .unset, .unset, .unset]) rfl k) ?_
  show own_Go p.tables e below F (T2.setTop (mkF m 57 #[.val (.int t), .val (.int gi), .val (.long am), .second, .val (.int dd), .val (.long ee), .second, .val (.int sel), .val (.int x8), .val (.int x9), .val (.long xA), .second, .val (.ref b1), .unset, .unset, .unset, .unset, .unset] []))
  obtain ⟨T3, h3, X3, e3, E3, A3, D3, -, st3⟩ := newO X2 hx hZ hown (hw _ (List.mem_of_getElem? (i := 0) rfl)) (hw _ (List.mem_of_getElem? (i := 1) rfl)) (hw _ (List.mem_of_getElem? (i := 2) rfl)) rfl (g := (mkF m 57 #[.val (.int t), .val (.int gi), .val (.long am), .second, .val (.int dd), .val (.long ee), .second, .val (.int sel), .val (.int x8), .val (.int x9), .val (.long xA), .second, .val (.ref b1), .unset, .unset, .unset, .unset, .unset] [])) rfl (hb hby at_57) (by decide) (by decide)
  obtain ⟨b3, g3⟩ : ∃ z, z = T2.heap.size := ⟨_, rfl⟩
  rw [← g3] at A3 D3 st3
  have sz_b3 : h0.size ≤ b3 := Nat.le_trans K0_2.1 (Nat.le_of_eq g3.symm)
  have gn_b3 : n0 ≤ b3 := Nat.le_trans Z0 sz_b3
  have ne_b1_b3 : b1 ≠ b3 := Nat.ne_of_lt (Nat.lt_of_lt_of_le Pn2.1.lt (Nat.le_of_eq g3.symm))
  have Pn2__3 := own_P_ext Pn2 E3
  have K0_3 := own_ext_ext K0_2 E3
  have F3_taker : Fld Z h3 b3 "com/example/dockside/dockside/service/FewestPairings$Pairing" "taker" "I" (.int (0 : Int32)) := D3 (Or.inr (hw _ (List.mem_of_getElem? (i := 10) rfl))) (ty := .int) (by decide)
  have F3_giver : Fld Z h3 b3 "com/example/dockside/dockside/service/FewestPairings$Pairing" "giver" "I" (.int (0 : Int32)) := D3 (Or.inr (hw _ (List.mem_of_getElem? (i := 12) rfl))) (ty := .int) (by decide)
  have F3_amount : Fld Z h3 b3 "com/example/dockside/dockside/service/FewestPairings$Pairing" "amount" "J" (.long (0 : Int64)) := D3 (Or.inr (hw _ (List.mem_of_getElem? (i := 14) rfl))) (ty := .long) (by decide)
  refine own_st st3 ?_
  show own_Go p.tables e below F (T3.setTop (mkF m 60 #[.val (.int t), .val (.int gi), .val (.long am), .second, .val (.int dd), .val (.long ee), .second, .val (.int sel), .val (.int x8), .val (.int x9), .val (.long xA), .second, .val (.ref b1), .unset, .unset, .unset, .unset, .unset] [(.ref b3)]))
  refine own_st (fun _ k => XS.dup X3.here hx rfl (hb hby at_60) rfl rfl k) ?_
  show own_Go p.tables e below F (T3.setTop (mkF m 61 #[.val (.int t), .val (.int gi), .val (.long am), .second, .val (.int dd), .val (.long ee), .second, .val (.int sel), .val (.int x8), .val (.int x9), .val (.long xA), .second, .val (.ref b1), .unset, .unset, .unset, .unset, .unset] [(.ref b3), (.ref b3)]))
  refine own_st (fun _ k => XS.iload X3.here hx rfl (hb hby at_61) rfl k) ?_
  show own_Go p.tables e below F (T3.setTop (mkF m 63 #[.val (.int t), .val (.int gi), .val (.long am), .second, .val (.int dd), .val (.long ee), .second, .val (.int sel), .val (.int x8), .val (.int x9), .val (.long xA), .second, .val (.ref b1), .unset, .unset, .unset, .unset, .unset] [(.int x8), (.ref b3), (.ref b3)]))
  refine own_st (fun _ k => XS.iload X3.here hx rfl (hb hby at_63) rfl k) ?_
  show own_Go p.tables e below F (T3.setTop (mkF m 65 #[.val (.int t), .val (.int gi), .val (.long am), .second, .val (.int dd), .val (.long ee), .second, .val (.int sel), .val (.int x8), .val (.int x9), .val (.long xA), .second, .val (.ref b1), .unset, .unset, .unset, .unset, .unset] [(.int x9), (.int x8), (.ref b3), (.ref b3)]))
  refine own_st (fun _ k => XS.lload X3.here hx rfl (hb hby at_65) rfl k) ?_
  show own_Go p.tables e below F (T3.setTop (mkF m 67 #[.val (.int t), .val (.int gi), .val (.long am), .second, .val (.int dd), .val (.long ee), .second, .val (.int sel), .val (.int x8), .val (.int x9), .val (.long xA), .second, .val (.ref b1), .unset, .unset, .unset, .unset, .unset] [(.long xA), (.int x9), (.int x8), (.ref b3), (.ref b3)]))
  obtain ⟨_, _, ⟨T4, L4, k4, n4⟩, -, X4, ⟨Lc4, hQ4, l4, y4, z4⟩, st4⟩ := X3.specialBack hx (y := (⟨"com/example/dockside/dockside/service/FewestPairings$Pairing", "<init>", "(IIJ)V"⟩ : MethodName)) rfl hown (mvT hZ (hw _ (List.mem_of_getElem? (i := 3) rfl))) (mvT hZ (hw _ (List.mem_of_getElem? (i := 4) rfl))) (mvT hZ (hw _ (List.mem_of_getElem? (i := 5) rfl))) (by decide) (backOf (W := 1) (own_init l Z a0 hw [] b3 x8 x9 xA h3 n0 (Nat.le_trans Z0 K0_3.1) A3 F3_taker F3_giver F3_amount gn_b3) hZ (hw _ (List.mem_of_getElem? (i := 5) rfl)) (hw _ (List.mem_of_getElem? (i := 2) rfl)) (by decide) (by decide)) (g := (mkF m 67 #[.val (.int t), .val (.int gi), .val (.long am), .second, .val (.int dd), .val (.long ee), .second, .val (.int sel), .val (.int x8), .val (.int x9), .val (.long xA), .second, .val (.ref b1), .unset, .unset, .unset, .unset, .unset] [(.long xA), (.int x9), (.int x8), (.ref b3), (.ref b3)])) rfl (by rw [hml]; rfl) (Steps.refl _) (a := b3) (argsL := [(.int x8), (.int x9), (.long xA)]) (rest := [(.ref b3)]) (lenOf pd_2 rfl) rfl (by show 2 * 0 + _ ≤ _; exact Nat.le_of_eq rfl) (hb hby at_67) (fun _ _ => ⟨rfl, e3, (by decide : 2 + 0 ≤ _), (by decide : 6 + 0 ≤ _)⟩)
  dsimp only [Pt.U, Pt.locs, Pt.cells, Pt.slots] at X4 l4 y4 z4 st4 hQ4
  subst l4 y4 z4
  obtain ⟨rfl, N4q, K4, Pn4⟩ := hQ4
  have N4 := Fr.app N2 N4q
  refine own_st (fun _ k => st4.trans k) ?_
  have Pn2__4 := own_P_keep Pn2__3 K4 (ninS ne_b1_b3 nin0)
  have A3__4 := A3.keep K4
  have K0_4 := own_ext_keep K0_3 K4 (allS sz_b3 all0)
  show own_Go p.tables e below F (T4.setTop (mkF m 70 #[.val (.int t), .val (.int gi), .val (.long am), .second, .val (.int dd), .val (.long ee), .second, .val (.int sel), .val (.int x8), .val (.int x9), .val (.long xA), .second, .val (.ref b1), .unset, .unset, .unset, .unset, .unset] [(.ref b3)]))
  refine own_st (fun _ k => XS.astore X4.here hx rfl (hb hby at_70) rfl rfl (l' := #[.val (.int t), .val (.int gi), .val (.long am), .second, .val (.int dd), .val (.long ee), .second, .val (.int sel), .val (.int x8), .val (.int x9), .val (.long xA), .second, .val (.ref b1), .val (.ref b3), .unset, .unset, .unset, .unset]) rfl k) ?_
  show own_Go p.tables e below F (T4.setTop (mkF m 72 #[.val (.int t), .val (.int gi), .val (.long am), .second, .val (.int dd), .val (.long ee), .second, .val (.int sel), .val (.int x8), .val (.int x9), .val (.long xA), .second, .val (.ref b1), .val (.ref b3), .unset, .unset, .unset, .unset] []))
  refine own_st (fun _ k => XS.iload X4.here hx rfl (hb hby at_72) rfl k) ?_
  show own_Go p.tables e below F (T4.setTop (mkF m 74 #[.val (.int t), .val (.int gi), .val (.long am), .second, .val (.int dd), .val (.long ee), .second, .val (.int sel), .val (.int x8), .val (.int x9), .val (.long xA), .second, .val (.ref b1), .val (.ref b3), .unset, .unset, .unset, .unset] [(.int sel)]))
  refine own_st (fun _ k => XS.iconst X4.here hx rfl (hb hby at_74) k) ?_
  show own_Go p.tables e below F (T4.setTop (mkF m 75 #[.val (.int t), .val (.int gi), .val (.long am), .second, .val (.int dd), .val (.long ee), .second, .val (.int sel), .val (.int x8), .val (.int x9), .val (.long xA), .second, .val (.ref b1), .val (.ref b3), .unset, .unset, .unset, .unset] [(.int (3 : Int32)), (.int sel)]))
  refine own_st (fun _ k => XS.iushr X4.here hx rfl (hb hby at_75) rfl k) ?_
  show own_Go p.tables e below F (T4.setTop (mkF m 76 #[.val (.int t), .val (.int gi), .val (.long am), .second, .val (.int dd), .val (.long ee), .second, .val (.int sel), .val (.int x8), .val (.int x9), .val (.long xA), .second, .val (.ref b1), .val (.ref b3), .unset, .unset, .unset, .unset] [(.int ((sel.toUInt32 >>> ((3 : Int32) &&& 31).toUInt32).toInt32))]))
  refine own_st (fun _ k => XS.iconst X4.here hx rfl (hb hby at_76) k) ?_
  show own_Go p.tables e below F (T4.setTop (mkF m 77 #[.val (.int t), .val (.int gi), .val (.long am), .second, .val (.int dd), .val (.long ee), .second, .val (.int sel), .val (.int x8), .val (.int x9), .val (.long xA), .second, .val (.ref b1), .val (.ref b3), .unset, .unset, .unset, .unset] [(.int (3 : Int32)), (.int ((sel.toUInt32 >>> ((3 : Int32) &&& 31).toUInt32).toInt32))]))
  refine own_st (fun _ k => XS.iand X4.here hx rfl (hb hby at_77) rfl k) ?_
  show own_Go p.tables e below F (T4.setTop (mkF m 78 #[.val (.int t), .val (.int gi), .val (.long am), .second, .val (.int dd), .val (.long ee), .second, .val (.int sel), .val (.int x8), .val (.int x9), .val (.long xA), .second, .val (.ref b1), .val (.ref b3), .unset, .unset, .unset, .unset] [(.int (((sel.toUInt32 >>> ((3 : Int32) &&& 31).toUInt32).toInt32) &&& (3 : Int32)))]))
  refine own_st (fun _ k => XS.istore X4.here hx rfl (hb hby at_78) rfl (l' := #[.val (.int t), .val (.int gi), .val (.long am), .second, .val (.int dd), .val (.long ee), .second, .val (.int sel), .val (.int x8), .val (.int x9), .val (.long xA), .second, .val (.ref b1), .val (.ref b3), .val (.int (((sel.toUInt32 >>> ((3 : Int32) &&& 31).toUInt32).toInt32) &&& (3 : Int32))), .unset, .unset, .unset]) rfl k) ?_
  show own_Go p.tables e below F (T4.setTop (mkF m 80 #[.val (.int t), .val (.int gi), .val (.long am), .second, .val (.int dd), .val (.long ee), .second, .val (.int sel), .val (.int x8), .val (.int x9), .val (.long xA), .second, .val (.ref b1), .val (.ref b3), .val (.int (((sel.toUInt32 >>> ((3 : Int32) &&& 31).toUInt32).toInt32) &&& (3 : Int32))), .unset, .unset, .unset] []))
  refine own_st (fun _ k => XS.iconst X4.here hx rfl (hb hby at_80) k) ?_
  show own_Go p.tables e below F (T4.setTop (mkF m 81 #[.val (.int t), .val (.int gi), .val (.long am), .second, .val (.int dd), .val (.long ee), .second, .val (.int sel), .val (.int x8), .val (.int x9), .val (.long xA), .second, .val (.ref b1), .val (.ref b3), .val (.int (((sel.toUInt32 >>> ((3 : Int32) &&& 31).toUInt32).toInt32) &&& (3 : Int32))), .unset, .unset, .unset] [(.int (1 : Int32))]))
  refine own_st (fun _ k => XS.istore X4.here hx rfl (hb hby at_81) rfl (l' := #[.val (.int t), .val (.int gi), .val (.long am), .second, .val (.int dd), .val (.long ee), .second, .val (.int sel), .val (.int x8), .val (.int x9), .val (.long xA), .second, .val (.ref b1), .val (.ref b3), .val (.int (((sel.toUInt32 >>> ((3 : Int32) &&& 31).toUInt32).toInt32) &&& (3 : Int32))), .unset, .unset, .val (.int (1 : Int32))]) rfl k) ?_
  show own_Go p.tables e below F (T4.setTop (mkF m 83 #[.val (.int t), .val (.int gi), .val (.long am), .second, .val (.int dd), .val (.long ee), .second, .val (.int sel), .val (.int x8), .val (.int x9), .val (.long xA), .second, .val (.ref b1), .val (.ref b3), .val (.int (((sel.toUInt32 >>> ((3 : Int32) &&& 31).toUInt32).toInt32) &&& (3 : Int32))), .unset, .unset, .val (.int (1 : Int32))] []))
  refine own_st (fun _ k => XS.iload X4.here hx rfl (hb hby at_83) rfl k) ?_
  show own_Go p.tables e below F (T4.setTop (mkF m 85 #[.val (.int t), .val (.int gi), .val (.long am), .second, .val (.int dd), .val (.long ee), .second, .val (.int sel), .val (.int x8), .val (.int x9), .val (.long xA), .second, .val (.ref b1), .val (.ref b3), .val (.int (((sel.toUInt32 >>> ((3 : Int32) &&& 31).toUInt32).toInt32) &&& (3 : Int32))), .unset, .unset, .val (.int (1 : Int32))] [(.int (((sel.toUInt32 >>> ((3 : Int32) &&& 31).toUInt32).toInt32) &&& (3 : Int32)))]))
  refine own_st (fun _ k => XS.iconst X4.here hx rfl (hb hby at_85) k) ?_
  show own_Go p.tables e below F (T4.setTop (mkF m 86 #[.val (.int t), .val (.int gi), .val (.long am), .second, .val (.int dd), .val (.long ee), .second, .val (.int sel), .val (.int x8), .val (.int x9), .val (.long xA), .second, .val (.ref b1), .val (.ref b3), .val (.int (((sel.toUInt32 >>> ((3 : Int32) &&& 31).toUInt32).toInt32) &&& (3 : Int32))), .unset, .unset, .val (.int (1 : Int32))] [(.int (2 : Int32)), (.int (((sel.toUInt32 >>> ((3 : Int32) &&& 31).toUInt32).toInt32) &&& (3 : Int32)))]))
  by_cases hc86 : (((sel.toUInt32 >>> ((3 : Int32) &&& 31).toUInt32).toInt32) &&& (3 : Int32)) = (2 : Int32)
  ·
    refine own_st (fun _ k => XS.icmpNo X4.here hx rfl (hb hby at_86) rfl (teq hc86).2 k) ?_
    show own_Go p.tables e below F (T4.setTop (mkF m 89 #[.val (.int t), .val (.int gi), .val (.long am), .second, .val (.int dd), .val (.long ee), .second, .val (.int sel), .val (.int x8), .val (.int x9), .val (.long xA), .second, .val (.ref b1), .val (.ref b3), .val (.int (((sel.toUInt32 >>> ((3 : Int32) &&& 31).toUInt32).toInt32) &&& (3 : Int32))), .unset, .unset, .val (.int (1 : Int32))] []))
    refine own_st (fun _ k => XS.aconstNull X4.here hx rfl (hb hby at_89) k) ?_
    show own_Go p.tables e below F (T4.setTop (mkF m 90 #[.val (.int t), .val (.int gi), .val (.long am), .second, .val (.int dd), .val (.long ee), .second, .val (.int sel), .val (.int x8), .val (.int x9), .val (.long xA), .second, .val (.ref b1), .val (.ref b3), .val (.int (((sel.toUInt32 >>> ((3 : Int32) &&& 31).toUInt32).toInt32) &&& (3 : Int32))), .unset, .unset, .val (.int (1 : Int32))] [.null]))
    refine own_st (fun _ k => XS.astore X4.here hx rfl (hb hby at_90) rfl rfl (l' := #[.val (.int t), .val (.int gi), .val (.long am), .second, .val (.int dd), .val (.long ee), .second, .val (.int sel), .val (.int x8), .val (.int x9), .val (.long xA), .second, .val (.ref b1), .val (.ref b3), .val (.int (((sel.toUInt32 >>> ((3 : Int32) &&& 31).toUInt32).toInt32) &&& (3 : Int32))), .val .null, .unset, .val (.int (1 : Int32))]) rfl k) ?_
    show own_Go p.tables e below F (T4.setTop (mkF m 92 #[.val (.int t), .val (.int gi), .val (.long am), .second, .val (.int dd), .val (.long ee), .second, .val (.int sel), .val (.int x8), .val (.int x9), .val (.long xA), .second, .val (.ref b1), .val (.ref b3), .val (.int (((sel.toUInt32 >>> ((3 : Int32) &&& 31).toUInt32).toInt32) &&& (3 : Int32))), .val .null, .unset, .val (.int (1 : Int32))] []))
    refine own_st (fun _ k => XS.iconst X4.here hx rfl (hb hby at_92) k) ?_
    show own_Go p.tables e below F (T4.setTop (mkF m 93 #[.val (.int t), .val (.int gi), .val (.long am), .second, .val (.int dd), .val (.long ee), .second, .val (.int sel), .val (.int x8), .val (.int x9), .val (.long xA), .second, .val (.ref b1), .val (.ref b3), .val (.int (((sel.toUInt32 >>> ((3 : Int32) &&& 31).toUInt32).toInt32) &&& (3 : Int32))), .val .null, .unset, .val (.int (1 : Int32))] [(.int (0 : Int32))]))
    refine own_st (fun _ k => XS.istore X4.here hx rfl (hb hby at_93) rfl (l' := #[.val (.int t), .val (.int gi), .val (.long am), .second, .val (.int dd), .val (.long ee), .second, .val (.int sel), .val (.int x8), .val (.int x9), .val (.long xA), .second, .val (.ref b1), .val (.ref b3), .val (.int (((sel.toUInt32 >>> ((3 : Int32) &&& 31).toUInt32).toInt32) &&& (3 : Int32))), .val .null, .val (.int (0 : Int32)), .val (.int (1 : Int32))]) rfl k) ?_
    show own_Go p.tables e below F (T4.setTop (mkF m 95 #[.val (.int t), .val (.int gi), .val (.long am), .second, .val (.int dd), .val (.long ee), .second, .val (.int sel), .val (.int x8), .val (.int x9), .val (.long xA), .second, .val (.ref b1), .val (.ref b3), .val (.int (((sel.toUInt32 >>> ((3 : Int32) &&& 31).toUInt32).toInt32) &&& (3 : Int32))), .val .null, .val (.int (0 : Int32)), .val (.int (1 : Int32))] []))
    refine own_st (fun _ k => XS.goto X4.here hx rfl (pc0 := 95) (pc' := 165) rfl (hb hby at_95) (by decide) (by decide) k) ?_
    show own_Go p.tables e below F (T4.setTop (mkF m 165 #[.val (.int t), .val (.int gi), .val (.long am), .second, .val (.int dd), .val (.long ee), .second, .val (.int sel), .val (.int x8), .val (.int x9), .val (.long xA), .second, .val (.ref b1), .val (.ref b3), .val (.int (((sel.toUInt32 >>> ((3 : Int32) &&& 31).toUInt32).toInt32) &&& (3 : Int32))), .val .null, .val (.int (0 : Int32)), .val (.int (1 : Int32))] []))
    refine own_st (fun _ k => XS.aload X4.here hx rfl (hb hby at_165) rfl rfl k) ?_
    show own_Go p.tables e below F (T4.setTop (mkF m 167 #[.val (.int t), .val (.int gi), .val (.long am), .second, .val (.int dd), .val (.long ee), .second, .val (.int sel), .val (.int x8), .val (.int x9), .val (.long xA), .second, .val (.ref b1), .val (.ref b3), .val (.int (((sel.toUInt32 >>> ((3 : Int32) &&& 31).toUInt32).toInt32) &&& (3 : Int32))), .val .null, .val (.int (0 : Int32)), .val (.int (1 : Int32))] [(.ref b1)]))
    refine own_st (fun _ k => XS.aload X4.here hx rfl (hb hby at_167) rfl rfl k) ?_
    show own_Go p.tables e below F (T4.setTop (mkF m 169 #[.val (.int t), .val (.int gi), .val (.long am), .second, .val (.int dd), .val (.long ee), .second, .val (.int sel), .val (.int x8), .val (.int x9), .val (.long xA), .second, .val (.ref b1), .val (.ref b3), .val (.int (((sel.toUInt32 >>> ((3 : Int32) &&& 31).toUInt32).toInt32) &&& (3 : Int32))), .val .null, .val (.int (0 : Int32)), .val (.int (1 : Int32))] [.null, (.ref b1)]))
    obtain ⟨cq5, kq5, q5a, q5b, q5c⟩ := isOf hZ rfl Pn2__4.1
    obtain ⟨_, _, ⟨T5, L5, k5, n5⟩, -, X5, ⟨Lc5, hQ5, l5, y5, z5⟩, st5⟩ := X4.virtualBack hx (y := (⟨"com/example/dockside/dockside/service/FewestPairings$Pairing", "equals", "(Ljava/lang/Object;)Z"⟩ : MethodName)) (z := (⟨"com/example/dockside/dockside/service/FewestPairings$Pairing", "equals", "(Ljava/lang/Object;)Z"⟩ : MethodName)) hown (mvT hZ (hw _ (List.mem_of_getElem? (i := 15) rfl))) (mvT hZ (hw _ (List.mem_of_getElem? (i := 16) rfl))) (notFace_of_selects (args := #[]) (mvT hZ (hw _ (List.mem_of_getElem? (i := 18) rfl)))) (mvT hZ (hw _ (List.mem_of_getElem? (i := 18) rfl))) (mvT hZ (hw _ (List.mem_of_getElem? (i := 17) rfl))) (by decide) (backOf (W := 0) (own_eqN l Z a0 hw [] b1 T4.heap n0) hZ (hw _ (List.mem_of_getElem? (i := 19) rfl)) (hw _ (List.mem_of_getElem? (i := 2) rfl)) (by decide) (by decide)) q5a q5c (g := (mkF m 169 #[.val (.int t), .val (.int gi), .val (.long am), .second, .val (.int dd), .val (.long ee), .second, .val (.int sel), .val (.int x8), .val (.int x9), .val (.long xA), .second, .val (.ref b1), .val (.ref b3), .val (.int (((sel.toUInt32 >>> ((3 : Int32) &&& 31).toUInt32).toInt32) &&& (3 : Int32))), .val .null, .val (.int (0 : Int32)), .val (.int (1 : Int32))] [.null, (.ref b1)])) rfl (by rw [hml]; rfl) (Steps.refl _) (argsL := [.null]) (rest := []) (lenOf pd_3 rfl) rfl (by show 2 * 0 + _ ≤ _; exact Nat.le_of_eq rfl) (hb hby at_169) (fun _ _ => ⟨rfl, rfl, (by decide : 2 + 0 ≤ _), (by decide : 6 + 0 ≤ _)⟩)
    dsimp only [Pt.U, Pt.locs, Pt.cells, Pt.slots] at X5 l5 y5 z5 st5 hQ5
    subst l5 y5 z5
    obtain ⟨rfl, N5q, e5⟩ := hQ5
    have N5 := Fr.app N4 N5q
    refine own_st (fun _ k => st5.trans k) ?_
    show own_Go p.tables e below F (T5.setTop (mkF m 172 #[.val (.int t), .val (.int gi), .val (.long am), .second, .val (.int dd), .val (.long ee), .second, .val (.int sel), .val (.int x8), .val (.int x9), .val (.long xA), .second, .val (.ref b1), .val (.ref b3), .val (.int (((sel.toUInt32 >>> ((3 : Int32) &&& 31).toUInt32).toInt32) &&& (3 : Int32))), .val .null, .val (.int (0 : Int32)), .val (.int (1 : Int32))] [(.int (0 : Int32))]))
    refine own_st (fun _ k => XS.iload X5.here hx rfl (hb hby at_172) rfl k) ?_
    show own_Go p.tables e below F (T5.setTop (mkF m 174 #[.val (.int t), .val (.int gi), .val (.long am), .second, .val (.int dd), .val (.long ee), .second, .val (.int sel), .val (.int x8), .val (.int x9), .val (.long xA), .second, .val (.ref b1), .val (.ref b3), .val (.int (((sel.toUInt32 >>> ((3 : Int32) &&& 31).toUInt32).toInt32) &&& (3 : Int32))), .val .null, .val (.int (0 : Int32)), .val (.int (1 : Int32))] [(.int (0 : Int32)), (.int (0 : Int32))]))
    refine own_st (fun _ k => XS.icmpNo X5.here hx rfl (hb hby at_174) rfl (teq (by decide : (0 : Int32) = (0 : Int32))).2 k) ?_
    show own_Go p.tables e below F (T5.setTop (mkF m 177 #[.val (.int t), .val (.int gi), .val (.long am), .second, .val (.int dd), .val (.long ee), .second, .val (.int sel), .val (.int x8), .val (.int x9), .val (.long xA), .second, .val (.ref b1), .val (.ref b3), .val (.int (((sel.toUInt32 >>> ((3 : Int32) &&& 31).toUInt32).toInt32) &&& (3 : Int32))), .val .null, .val (.int (0 : Int32)), .val (.int (1 : Int32))] []))
    refine own_st (fun _ k => XS.iload X5.here hx rfl (hb hby at_177) rfl k) ?_
    show own_Go p.tables e below F (T5.setTop (mkF m 179 #[.val (.int t), .val (.int gi), .val (.long am), .second, .val (.int dd), .val (.long ee), .second, .val (.int sel), .val (.int x8), .val (.int x9), .val (.long xA), .second, .val (.ref b1), .val (.ref b3), .val (.int (((sel.toUInt32 >>> ((3 : Int32) &&& 31).toUInt32).toInt32) &&& (3 : Int32))), .val .null, .val (.int (0 : Int32)), .val (.int (1 : Int32))] [(.int (1 : Int32))]))
    refine own_st (fun _ k => XS.ifNo X5.here hx rfl (hb hby at_179) rfl ((if0 _ _).trans (feq (by decide : ¬ ((1 : Int32) = (0 : Int32)))).1) k) ?_
    show own_Go p.tables e below F (T5.setTop (mkF m 182 #[.val (.int t), .val (.int gi), .val (.long am), .second, .val (.int dd), .val (.long ee), .second, .val (.int sel), .val (.int x8), .val (.int x9), .val (.long xA), .second, .val (.ref b1), .val (.ref b3), .val (.int (((sel.toUInt32 >>> ((3 : Int32) &&& 31).toUInt32).toInt32) &&& (3 : Int32))), .val .null, .val (.int (0 : Int32)), .val (.int (1 : Int32))] []))
    refine own_st (fun _ k => XS.aload X5.here hx rfl (hb hby at_182) rfl rfl k) ?_
    show own_Go p.tables e below F (T5.setTop (mkF m 184 #[.val (.int t), .val (.int gi), .val (.long am), .second, .val (.int dd), .val (.long ee), .second, .val (.int sel), .val (.int x8), .val (.int x9), .val (.long xA), .second, .val (.ref b1), .val (.ref b3), .val (.int (((sel.toUInt32 >>> ((3 : Int32) &&& 31).toUInt32).toInt32) &&& (3 : Int32))), .val .null, .val (.int (0 : Int32)), .val (.int (1 : Int32))] [(.ref b1)]))
    refine own_st (fun _ k => XS.aload X5.here hx rfl (hb hby at_184) rfl rfl k) ?_
    show own_Go p.tables e below F (T5.setTop (mkF m 186 #[.val (.int t), .val (.int gi), .val (.long am), .second, .val (.int dd), .val (.long ee), .second, .val (.int sel), .val (.int x8), .val (.int x9), .val (.long xA), .second, .val (.ref b1), .val (.ref b3), .val (.int (((sel.toUInt32 >>> ((3 : Int32) &&& 31).toUInt32).toInt32) &&& (3 : Int32))), .val .null, .val (.int (0 : Int32)), .val (.int (1 : Int32))] [(.ref b1), (.ref b1)]))
    obtain ⟨cq6, kq6, q6a, q6b, q6c⟩ := isOf hZ e5 Pn2__4.1
    obtain ⟨_, _, ⟨T6, L6, k6, n6⟩, -, X6, ⟨Lc6, hQ6, l6, y6, z6⟩, st6⟩ := X5.virtualBack hx (y := (⟨"com/example/dockside/dockside/service/FewestPairings$Pairing", "equals", "(Ljava/lang/Object;)Z"⟩ : MethodName)) (z := (⟨"com/example/dockside/dockside/service/FewestPairings$Pairing", "equals", "(Ljava/lang/Object;)Z"⟩ : MethodName)) hown (mvT hZ (hw _ (List.mem_of_getElem? (i := 15) rfl))) (mvT hZ (hw _ (List.mem_of_getElem? (i := 16) rfl))) (notFace_of_selects (args := #[]) (mvT hZ (hw _ (List.mem_of_getElem? (i := 18) rfl)))) (mvT hZ (hw _ (List.mem_of_getElem? (i := 18) rfl))) (mvT hZ (hw _ (List.mem_of_getElem? (i := 17) rfl))) (by decide) (backOf (W := 0) (own_eqP l Z a0 hw [] b1 b1 t gi t gi am am 1 T4.heap n0 Pn2__4 Pn2__4 (if_pos ⟨rfl, rfl, rfl⟩).symm) hZ (hw _ (List.mem_of_getElem? (i := 19) rfl)) (hw _ (List.mem_of_getElem? (i := 2) rfl)) (by decide) (by decide)) q6a q6c (g := (mkF m 186 #[.val (.int t), .val (.int gi), .val (.long am), .second, .val (.int dd), .val (.long ee), .second, .val (.int sel), .val (.int x8), .val (.int x9), .val (.long xA), .second, .val (.ref b1), .val (.ref b3), .val (.int (((sel.toUInt32 >>> ((3 : Int32) &&& 31).toUInt32).toInt32) &&& (3 : Int32))), .val .null, .val (.int (0 : Int32)), .val (.int (1 : Int32))] [(.ref b1), (.ref b1)])) rfl (by rw [hml]; rfl) (Steps.refl _) (argsL := [(.ref b1)]) (rest := []) (lenOf pd_3 rfl) rfl (by show 2 * 0 + _ ≤ _; exact Nat.le_of_eq rfl) (hb hby at_186) (fun _ _ => ⟨rfl, e5, (by decide : 2 + 0 ≤ _), (by decide : 6 + 0 ≤ _)⟩)
    dsimp only [Pt.U, Pt.locs, Pt.cells, Pt.slots] at X6 l6 y6 z6 st6 hQ6
    subst l6 y6 z6
    obtain ⟨rfl, N6q, e6⟩ := hQ6
    have N6 := Fr.app N5 N6q
    refine own_st (fun _ k => st6.trans k) ?_
    show own_Go p.tables e below F (T6.setTop (mkF m 189 #[.val (.int t), .val (.int gi), .val (.long am), .second, .val (.int dd), .val (.long ee), .second, .val (.int sel), .val (.int x8), .val (.int x9), .val (.long xA), .second, .val (.ref b1), .val (.ref b3), .val (.int (((sel.toUInt32 >>> ((3 : Int32) &&& 31).toUInt32).toInt32) &&& (3 : Int32))), .val .null, .val (.int (0 : Int32)), .val (.int (1 : Int32))] [(.int (1 : Int32))]))
    refine own_st (fun _ k => XS.ifNo X6.here hx rfl (hb hby at_189) rfl ((if0 _ _).trans (feq (by decide : ¬ ((1 : Int32) = (0 : Int32)))).1) k) ?_
    show own_Go p.tables e below F (T6.setTop (mkF m 192 #[.val (.int t), .val (.int gi), .val (.long am), .second, .val (.int dd), .val (.long ee), .second, .val (.int sel), .val (.int x8), .val (.int x9), .val (.long xA), .second, .val (.ref b1), .val (.ref b3), .val (.int (((sel.toUInt32 >>> ((3 : Int32) &&& 31).toUInt32).toInt32) &&& (3 : Int32))), .val .null, .val (.int (0 : Int32)), .val (.int (1 : Int32))] []))
    refine own_st (fun _ k => XS.iconst X6.here hx rfl (hb hby at_192) k) ?_
    show own_Go p.tables e below F (T6.setTop (mkF m 193 #[.val (.int t), .val (.int gi), .val (.long am), .second, .val (.int dd), .val (.long ee), .second, .val (.int sel), .val (.int x8), .val (.int x9), .val (.long xA), .second, .val (.ref b1), .val (.ref b3), .val (.int (((sel.toUInt32 >>> ((3 : Int32) &&& 31).toUInt32).toInt32) &&& (3 : Int32))), .val .null, .val (.int (0 : Int32)), .val (.int (1 : Int32))] [(.int (1 : Int32))]))
    refine own_st (fun _ k => XS.goto X6.here hx rfl (pc0 := 193) (pc' := 197) rfl (hb hby at_193) (by decide) (by decide) k) ?_
    show own_Go p.tables e below F (T6.setTop (mkF m 197 #[.val (.int t), .val (.int gi), .val (.long am), .second, .val (.int dd), .val (.long ee), .second, .val (.int sel), .val (.int x8), .val (.int x9), .val (.long xA), .second, .val (.ref b1), .val (.ref b3), .val (.int (((sel.toUInt32 >>> ((3 : Int32) &&& 31).toUInt32).toInt32) &&& (3 : Int32))), .val .null, .val (.int (0 : Int32)), .val (.int (1 : Int32))] [(.int (1 : Int32))]))
    obtain ⟨fs, hrL, hrun, hended, hW, hsame⟩ := X6.leave (v := some (.int (1 : Int32))) (fun h => by rw [Bd.returns] at h; cases h)
    refine own_end hF (o := .returned (some (.int (1 : Int32)))) (retN X6 hx (t := .boolean) Bd.returns (by simp) (hb hby at_197) hrL) ?_
    refine ⟨hrun, hended, _, _, rfl, ?_, ⟨_, rfl⟩, hW, hsame.mono (by decide) (by decide)⟩
    exact ⟨rfl, N6⟩
  ·
    refine own_st (fun _ k => XS.icmpYes X4.here hx rfl (pc0 := 86) (pc' := 98) rfl (hb hby at_86) rfl (feq hc86).2 (by decide) (by decide) k) ?_
    show own_Go p.tables e below F (T4.setTop (mkF m 98 #[.val (.int t), .val (.int gi), .val (.long am), .second, .val (.int dd), .val (.long ee), .second, .val (.int sel), .val (.int x8), .val (.int x9), .val (.long xA), .second, .val (.ref b1), .val (.ref b3), .val (.int (((sel.toUInt32 >>> ((3 : Int32) &&& 31).toUInt32).toInt32) &&& (3 : Int32))), .unset, .unset, .val (.int (1 : Int32))] []))
    refine own_st (fun _ k => XS.iload X4.here hx rfl (hb hby at_98) rfl k) ?_
    show own_Go p.tables e below F (T4.setTop (mkF m 100 #[.val (.int t), .val (.int gi), .val (.long am), .second, .val (.int dd), .val (.long ee), .second, .val (.int sel), .val (.int x8), .val (.int x9), .val (.long xA), .second, .val (.ref b1), .val (.ref b3), .val (.int (((sel.toUInt32 >>> ((3 : Int32) &&& 31).toUInt32).toInt32) &&& (3 : Int32))), .unset, .unset, .val (.int (1 : Int32))] [(.int (((sel.toUInt32 >>> ((3 : Int32) &&& 31).toUInt32).toInt32) &&& (3 : Int32)))]))
    refine own_st (fun _ k => XS.iconst X4.here hx rfl (hb hby at_100) k) ?_
    show own_Go p.tables e below F (T4.setTop (mkF m 101 #[.val (.int t), .val (.int gi), .val (.long am), .second, .val (.int dd), .val (.long ee), .second, .val (.int sel), .val (.int x8), .val (.int x9), .val (.long xA), .second, .val (.ref b1), .val (.ref b3), .val (.int (((sel.toUInt32 >>> ((3 : Int32) &&& 31).toUInt32).toInt32) &&& (3 : Int32))), .unset, .unset, .val (.int (1 : Int32))] [(.int (3 : Int32)), (.int (((sel.toUInt32 >>> ((3 : Int32) &&& 31).toUInt32).toInt32) &&& (3 : Int32)))]))
    by_cases hc101 : (((sel.toUInt32 >>> ((3 : Int32) &&& 31).toUInt32).toInt32) &&& (3 : Int32)) = (3 : Int32)
    ·
      refine own_st (fun _ k => XS.icmpNo X4.here hx rfl (hb hby at_101) rfl (teq hc101).2 k) ?_
      show own_Go p.tables e below F (T4.setTop (mkF m 104 #[.val (.int t), .val (.int gi), .val (.long am), .second, .val (.int dd), .val (.long ee), .second, .val (.int sel), .val (.int x8), .val (.int x9), .val (.long xA), .second, .val (.ref b1), .val (.ref b3), .val (.int (((sel.toUInt32 >>> ((3 : Int32) &&& 31).toUInt32).toInt32) &&& (3 : Int32))), .unset, .unset, .val (.int (1 : Int32))] []))
      refine own_st (fun _ k => XS.iloadN X4.here hx rfl (hb hby at_104) rfl k) ?_
      show own_Go p.tables e below F (T4.setTop (mkF m 105 #[.val (.int t), .val (.int gi), .val (.long am), .second, .val (.int dd), .val (.long ee), .second, .val (.int sel), .val (.int x8), .val (.int x9), .val (.long xA), .second, .val (.ref b1), .val (.ref b3), .val (.int (((sel.toUInt32 >>> ((3 : Int32) &&& 31).toUInt32).toInt32) &&& (3 : Int32))), .unset, .unset, .val (.int (1 : Int32))] [(.int t)]))
      obtain ⟨_, _, ⟨T7, L7, k7, n7⟩, -, X7, ⟨Lc7, hQ7, l7, y7, z7⟩, st7⟩ := Jvm.LawKit.callS X4 hx (y := (⟨"java/lang/Integer", "valueOf", "(I)Ljava/lang/Integer;"⟩ : MethodName)) hown (mvT hZ (hw _ (List.mem_of_getElem? (i := 22) rfl))) (mvT hZ (hw _ (List.mem_of_getElem? (i := 23) rfl))) (mvT hZ (hw _ (List.mem_of_getElem? (i := 24) rfl))) (mvT hZ (hw _ (List.mem_of_getElem? (i := 25) rfl))) (by decide) (backOf (W := 0) (own_vof l Z a0 hw [] t cA cl T4.heap n0 (Nat.le_trans Z0 K0_4.1) (own_ext_ext O K0_4) SH SC B) hZ (hw _ (List.mem_of_getElem? (i := 25) rfl)) (hw _ (List.mem_of_getElem? (i := 24) rfl)) (by decide) (by decide)) (g := (mkF m 105 #[.val (.int t), .val (.int gi), .val (.long am), .second, .val (.int dd), .val (.long ee), .second, .val (.int sel), .val (.int x8), .val (.int x9), .val (.long xA), .second, .val (.ref b1), .val (.ref b3), .val (.int (((sel.toUInt32 >>> ((3 : Int32) &&& 31).toUInt32).toInt32) &&& (3 : Int32))), .unset, .unset, .val (.int (1 : Int32))] [(.int t)])) rfl (by rw [hml]; rfl) (argsL := [(.int t)]) (rest := []) (lenOf pd_4 rfl) rfl (by show 2 * 0 + _ ≤ _; exact Nat.le_of_eq rfl) (hb hby at_105) (fun _ _ => ⟨rfl, rfl, (by decide : 2 + 1 ≤ _), (by decide : 6 + 1 ≤ _)⟩)
      dsimp only [Pt.U, Pt.locs, Pt.cells, Pt.slots] at X7 l7 y7 z7 st7 hQ7
      subst l7 y7 z7
      obtain ⟨bi7, rfl, N7q, K7, En7⟩ := hQ7
      have N7 := Fr.app N4 N7q
      refine own_st (st7) ?_
      have Pn2__7 := own_P_keep Pn2__4 K7 nin0
      have Pn4__7 := own_P_keep Pn4 K7 nin0
      have K0_7 := own_ext_keep K0_4 K7 all0
      show own_Go p.tables e below F (T7.setTop (mkF m 108 #[.val (.int t), .val (.int gi), .val (.long am), .second, .val (.int dd), .val (.long ee), .second, .val (.int sel), .val (.int x8), .val (.int x9), .val (.long xA), .second, .val (.ref b1), .val (.ref b3), .val (.int (((sel.toUInt32 >>> ((3 : Int32) &&& 31).toUInt32).toInt32) &&& (3 : Int32))), .unset, .unset, .val (.int (1 : Int32))] [(.ref bi7)]))
      refine own_st (fun _ k => XS.astore X7.here hx rfl (hb hby at_108) rfl rfl (l' := #[.val (.int t), .val (.int gi), .val (.long am), .second, .val (.int dd), .val (.long ee), .second, .val (.int sel), .val (.int x8), .val (.int x9), .val (.long xA), .second, .val (.ref b1), .val (.ref b3), .val (.int (((sel.toUInt32 >>> ((3 : Int32) &&& 31).toUInt32).toInt32) &&& (3 : Int32))), .val (.ref bi7), .unset, .val (.int (1 : Int32))]) rfl k) ?_
      show own_Go p.tables e below F (T7.setTop (mkF m 110 #[.val (.int t), .val (.int gi), .val (.long am), .second, .val (.int dd), .val (.long ee), .second, .val (.int sel), .val (.int x8), .val (.int x9), .val (.long xA), .second, .val (.ref b1), .val (.ref b3), .val (.int (((sel.toUInt32 >>> ((3 : Int32) &&& 31).toUInt32).toInt32) &&& (3 : Int32))), .val (.ref bi7), .unset, .val (.int (1 : Int32))] []))
      refine own_st (fun _ k => XS.iconst X7.here hx rfl (hb hby at_110) k) ?_
      show own_Go p.tables e below F (T7.setTop (mkF m 111 #[.val (.int t), .val (.int gi), .val (.long am), .second, .val (.int dd), .val (.long ee), .second, .val (.int sel), .val (.int x8), .val (.int x9), .val (.long xA), .second, .val (.ref b1), .val (.ref b3), .val (.int (((sel.toUInt32 >>> ((3 : Int32) &&& 31).toUInt32).toInt32) &&& (3 : Int32))), .val (.ref bi7), .unset, .val (.int (1 : Int32))] [(.int (0 : Int32))]))
      refine own_st (fun _ k => XS.istore X7.here hx rfl (hb hby at_111) rfl (l' := #[.val (.int t), .val (.int gi), .val (.long am), .second, .val (.int dd), .val (.long ee), .second, .val (.int sel), .val (.int x8), .val (.int x9), .val (.long xA), .second, .val (.ref b1), .val (.ref b3), .val (.int (((sel.toUInt32 >>> ((3 : Int32) &&& 31).toUInt32).toInt32) &&& (3 : Int32))), .val (.ref bi7), .val (.int (0 : Int32)), .val (.int (1 : Int32))]) rfl k) ?_
      show own_Go p.tables e below F (T7.setTop (mkF m 113 #[.val (.int t), .val (.int gi), .val (.long am), .second, .val (.int dd), .val (.long ee), .second, .val (.int sel), .val (.int x8), .val (.int x9), .val (.long xA), .second, .val (.ref b1), .val (.ref b3), .val (.int (((sel.toUInt32 >>> ((3 : Int32) &&& 31).toUInt32).toInt32) &&& (3 : Int32))), .val (.ref bi7), .val (.int (0 : Int32)), .val (.int (1 : Int32))] []))
      refine own_st (fun _ k => XS.goto X7.here hx rfl (pc0 := 113) (pc' := 165) rfl (hb hby at_113) (by decide) (by decide) k) ?_
      show own_Go p.tables e below F (T7.setTop (mkF m 165 #[.val (.int t), .val (.int gi), .val (.long am), .second, .val (.int dd), .val (.long ee), .second, .val (.int sel), .val (.int x8), .val (.int x9), .val (.long xA), .second, .val (.ref b1), .val (.ref b3), .val (.int (((sel.toUInt32 >>> ((3 : Int32) &&& 31).toUInt32).toInt32) &&& (3 : Int32))), .val (.ref bi7), .val (.int (0 : Int32)), .val (.int (1 : Int32))] []))
      refine own_st (fun _ k => XS.aload X7.here hx rfl (hb hby at_165) rfl rfl k) ?_
      show own_Go p.tables e below F (T7.setTop (mkF m 167 #[.val (.int t), .val (.int gi), .val (.long am), .second, .val (.int dd), .val (.long ee), .second, .val (.int sel), .val (.int x8), .val (.int x9), .val (.long xA), .second, .val (.ref b1), .val (.ref b3), .val (.int (((sel.toUInt32 >>> ((3 : Int32) &&& 31).toUInt32).toInt32) &&& (3 : Int32))), .val (.ref bi7), .val (.int (0 : Int32)), .val (.int (1 : Int32))] [(.ref b1)]))
      refine own_st (fun _ k => XS.aload X7.here hx rfl (hb hby at_167) rfl rfl k) ?_
      show own_Go p.tables e below F (T7.setTop (mkF m 169 #[.val (.int t), .val (.int gi), .val (.long am), .second, .val (.int dd), .val (.long ee), .second, .val (.int sel), .val (.int x8), .val (.int x9), .val (.long xA), .second, .val (.ref b1), .val (.ref b3), .val (.int (((sel.toUInt32 >>> ((3 : Int32) &&& 31).toUInt32).toInt32) &&& (3 : Int32))), .val (.ref bi7), .val (.int (0 : Int32)), .val (.int (1 : Int32))] [(.ref bi7), (.ref b1)]))
      obtain ⟨cq8, kq8, q8a, q8b, q8c⟩ := isOf hZ rfl Pn2__7.1
      obtain ⟨_, _, ⟨T8, L8, k8, n8⟩, -, X8, ⟨Lc8, hQ8, l8, y8, z8⟩, st8⟩ := X7.virtualBack hx (y := (⟨"com/example/dockside/dockside/service/FewestPairings$Pairing", "equals", "(Ljava/lang/Object;)Z"⟩ : MethodName)) (z := (⟨"com/example/dockside/dockside/service/FewestPairings$Pairing", "equals", "(Ljava/lang/Object;)Z"⟩ : MethodName)) hown (mvT hZ (hw _ (List.mem_of_getElem? (i := 15) rfl))) (mvT hZ (hw _ (List.mem_of_getElem? (i := 16) rfl))) (notFace_of_selects (args := #[]) (mvT hZ (hw _ (List.mem_of_getElem? (i := 18) rfl)))) (mvT hZ (hw _ (List.mem_of_getElem? (i := 18) rfl))) (mvT hZ (hw _ (List.mem_of_getElem? (i := 17) rfl))) (by decide) (backOf (W := 0) (own_eqI l Z a0 hw [] b1 bi7 T7.heap n0 En7) hZ (hw _ (List.mem_of_getElem? (i := 19) rfl)) (hw _ (List.mem_of_getElem? (i := 2) rfl)) (by decide) (by decide)) q8a q8c (g := (mkF m 169 #[.val (.int t), .val (.int gi), .val (.long am), .second, .val (.int dd), .val (.long ee), .second, .val (.int sel), .val (.int x8), .val (.int x9), .val (.long xA), .second, .val (.ref b1), .val (.ref b3), .val (.int (((sel.toUInt32 >>> ((3 : Int32) &&& 31).toUInt32).toInt32) &&& (3 : Int32))), .val (.ref bi7), .val (.int (0 : Int32)), .val (.int (1 : Int32))] [(.ref bi7), (.ref b1)])) rfl (by rw [hml]; rfl) (Steps.refl _) (argsL := [(.ref bi7)]) (rest := []) (lenOf pd_3 rfl) rfl (by show 2 * 0 + _ ≤ _; exact Nat.le_of_eq rfl) (hb hby at_169) (fun _ _ => ⟨rfl, rfl, (by decide : 3 + 0 ≤ _), (by decide : 7 + 0 ≤ _)⟩)
      dsimp only [Pt.U, Pt.locs, Pt.cells, Pt.slots] at X8 l8 y8 z8 st8 hQ8
      subst l8 y8 z8
      obtain ⟨rfl, N8q, e8⟩ := hQ8
      have N8 := Fr.app N7 N8q
      refine own_st (fun _ k => st8.trans k) ?_
      show own_Go p.tables e below F (T8.setTop (mkF m 172 #[.val (.int t), .val (.int gi), .val (.long am), .second, .val (.int dd), .val (.long ee), .second, .val (.int sel), .val (.int x8), .val (.int x9), .val (.long xA), .second, .val (.ref b1), .val (.ref b3), .val (.int (((sel.toUInt32 >>> ((3 : Int32) &&& 31).toUInt32).toInt32) &&& (3 : Int32))), .val (.ref bi7), .val (.int (0 : Int32)), .val (.int (1 : Int32))] [(.int (0 : Int32))]))
      refine own_st (fun _ k => XS.iload X8.here hx rfl (hb hby at_172) rfl k) ?_
      show own_Go p.tables e below F (T8.setTop (mkF m 174 #[.val (.int t), .val (.int gi), .val (.long am), .second, .val (.int dd), .val (.long ee), .second, .val (.int sel), .val (.int x8), .val (.int x9), .val (.long xA), .second, .val (.ref b1), .val (.ref b3), .val (.int (((sel.toUInt32 >>> ((3 : Int32) &&& 31).toUInt32).toInt32) &&& (3 : Int32))), .val (.ref bi7), .val (.int (0 : Int32)), .val (.int (1 : Int32))] [(.int (0 : Int32)), (.int (0 : Int32))]))
      refine own_st (fun _ k => XS.icmpNo X8.here hx rfl (hb hby at_174) rfl (teq (by decide : (0 : Int32) = (0 : Int32))).2 k) ?_
      show own_Go p.tables e below F (T8.setTop (mkF m 177 #[.val (.int t), .val (.int gi), .val (.long am), .second, .val (.int dd), .val (.long ee), .second, .val (.int sel), .val (.int x8), .val (.int x9), .val (.long xA), .second, .val (.ref b1), .val (.ref b3), .val (.int (((sel.toUInt32 >>> ((3 : Int32) &&& 31).toUInt32).toInt32) &&& (3 : Int32))), .val (.ref bi7), .val (.int (0 : Int32)), .val (.int (1 : Int32))] []))
      refine own_st (fun _ k => XS.iload X8.here hx rfl (hb hby at_177) rfl k) ?_
      show own_Go p.tables e below F (T8.setTop (mkF m 179 #[.val (.int t), .val (.int gi), .val (.long am), .second, .val (.int dd), .val (.long ee), .second, .val (.int sel), .val (.int x8), .val (.int x9), .val (.long xA), .second, .val (.ref b1), .val (.ref b3), .val (.int (((sel.toUInt32 >>> ((3 : Int32) &&& 31).toUInt32).toInt32) &&& (3 : Int32))), .val (.ref bi7), .val (.int (0 : Int32)), .val (.int (1 : Int32))] [(.int (1 : Int32))]))
      refine own_st (fun _ k => XS.ifNo X8.here hx rfl (hb hby at_179) rfl ((if0 _ _).trans (feq (by decide : ¬ ((1 : Int32) = (0 : Int32)))).1) k) ?_
      show own_Go p.tables e below F (T8.setTop (mkF m 182 #[.val (.int t), .val (.int gi), .val (.long am), .second, .val (.int dd), .val (.long ee), .second, .val (.int sel), .val (.int x8), .val (.int x9), .val (.long xA), .second, .val (.ref b1), .val (.ref b3), .val (.int (((sel.toUInt32 >>> ((3 : Int32) &&& 31).toUInt32).toInt32) &&& (3 : Int32))), .val (.ref bi7), .val (.int (0 : Int32)), .val (.int (1 : Int32))] []))
      refine own_st (fun _ k => XS.aload X8.here hx rfl (hb hby at_182) rfl rfl k) ?_
      show own_Go p.tables e below F (T8.setTop (mkF m 184 #[.val (.int t), .val (.int gi), .val (.long am), .second, .val (.int dd), .val (.long ee), .second, .val (.int sel), .val (.int x8), .val (.int x9), .val (.long xA), .second, .val (.ref b1), .val (.ref b3), .val (.int (((sel.toUInt32 >>> ((3 : Int32) &&& 31).toUInt32).toInt32) &&& (3 : Int32))), .val (.ref bi7), .val (.int (0 : Int32)), .val (.int (1 : Int32))] [(.ref b1)]))
      refine own_st (fun _ k => XS.aload X8.here hx rfl (hb hby at_184) rfl rfl k) ?_
      show own_Go p.tables e below F (T8.setTop (mkF m 186 #[.val (.int t), .val (.int gi), .val (.long am), .second, .val (.int dd), .val (.long ee), .second, .val (.int sel), .val (.int x8), .val (.int x9), .val (.long xA), .second, .val (.ref b1), .val (.ref b3), .val (.int (((sel.toUInt32 >>> ((3 : Int32) &&& 31).toUInt32).toInt32) &&& (3 : Int32))), .val (.ref bi7), .val (.int (0 : Int32)), .val (.int (1 : Int32))] [(.ref b1), (.ref b1)]))
      obtain ⟨cq9, kq9, q9a, q9b, q9c⟩ := isOf hZ e8 Pn2__7.1
      obtain ⟨_, _, ⟨T9, L9, k9, n9⟩, -, X9, ⟨Lc9, hQ9, l9, y9, z9⟩, st9⟩ := X8.virtualBack hx (y := (⟨"com/example/dockside/dockside/service/FewestPairings$Pairing", "equals", "(Ljava/lang/Object;)Z"⟩ : MethodName)) (z := (⟨"com/example/dockside/dockside/service/FewestPairings$Pairing", "equals", "(Ljava/lang/Object;)Z"⟩ : MethodName)) hown (mvT hZ (hw _ (List.mem_of_getElem? (i := 15) rfl))) (mvT hZ (hw _ (List.mem_of_getElem? (i := 16) rfl))) (notFace_of_selects (args := #[]) (mvT hZ (hw _ (List.mem_of_getElem? (i := 18) rfl)))) (mvT hZ (hw _ (List.mem_of_getElem? (i := 18) rfl))) (mvT hZ (hw _ (List.mem_of_getElem? (i := 17) rfl))) (by decide) (backOf (W := 0) (own_eqP l Z a0 hw [] b1 b1 t gi t gi am am 1 T7.heap n0 Pn2__7 Pn2__7 (if_pos ⟨rfl, rfl, rfl⟩).symm) hZ (hw _ (List.mem_of_getElem? (i := 19) rfl)) (hw _ (List.mem_of_getElem? (i := 2) rfl)) (by decide) (by decide)) q9a q9c (g := (mkF m 186 #[.val (.int t), .val (.int gi), .val (.long am), .second, .val (.int dd), .val (.long ee), .second, .val (.int sel), .val (.int x8), .val (.int x9), .val (.long xA), .second, .val (.ref b1), .val (.ref b3), .val (.int (((sel.toUInt32 >>> ((3 : Int32) &&& 31).toUInt32).toInt32) &&& (3 : Int32))), .val (.ref bi7), .val (.int (0 : Int32)), .val (.int (1 : Int32))] [(.ref b1), (.ref b1)])) rfl (by rw [hml]; rfl) (Steps.refl _) (argsL := [(.ref b1)]) (rest := []) (lenOf pd_3 rfl) rfl (by show 2 * 0 + _ ≤ _; exact Nat.le_of_eq rfl) (hb hby at_186) (fun _ _ => ⟨rfl, e8, (by decide : 3 + 0 ≤ _), (by decide : 7 + 0 ≤ _)⟩)
      dsimp only [Pt.U, Pt.locs, Pt.cells, Pt.slots] at X9 l9 y9 z9 st9 hQ9
      subst l9 y9 z9
      obtain ⟨rfl, N9q, e9⟩ := hQ9
      have N9 := Fr.app N8 N9q
      refine own_st (fun _ k => st9.trans k) ?_
      show own_Go p.tables e below F (T9.setTop (mkF m 189 #[.val (.int t), .val (.int gi), .val (.long am), .second, .val (.int dd), .val (.long ee), .second, .val (.int sel), .val (.int x8), .val (.int x9), .val (.long xA), .second, .val (.ref b1), .val (.ref b3), .val (.int (((sel.toUInt32 >>> ((3 : Int32) &&& 31).toUInt32).toInt32) &&& (3 : Int32))), .val (.ref bi7), .val (.int (0 : Int32)), .val (.int (1 : Int32))] [(.int (1 : Int32))]))
      refine own_st (fun _ k => XS.ifNo X9.here hx rfl (hb hby at_189) rfl ((if0 _ _).trans (feq (by decide : ¬ ((1 : Int32) = (0 : Int32)))).1) k) ?_
      show own_Go p.tables e below F (T9.setTop (mkF m 192 #[.val (.int t), .val (.int gi), .val (.long am), .second, .val (.int dd), .val (.long ee), .second, .val (.int sel), .val (.int x8), .val (.int x9), .val (.long xA), .second, .val (.ref b1), .val (.ref b3), .val (.int (((sel.toUInt32 >>> ((3 : Int32) &&& 31).toUInt32).toInt32) &&& (3 : Int32))), .val (.ref bi7), .val (.int (0 : Int32)), .val (.int (1 : Int32))] []))
      refine own_st (fun _ k => XS.iconst X9.here hx rfl (hb hby at_192) k) ?_
      show own_Go p.tables e below F (T9.setTop (mkF m 193 #[.val (.int t), .val (.int gi), .val (.long am), .second, .val (.int dd), .val (.long ee), .second, .val (.int sel), .val (.int x8), .val (.int x9), .val (.long xA), .second, .val (.ref b1), .val (.ref b3), .val (.int (((sel.toUInt32 >>> ((3 : Int32) &&& 31).toUInt32).toInt32) &&& (3 : Int32))), .val (.ref bi7), .val (.int (0 : Int32)), .val (.int (1 : Int32))] [(.int (1 : Int32))]))
      refine own_st (fun _ k => XS.goto X9.here hx rfl (pc0 := 193) (pc' := 197) rfl (hb hby at_193) (by decide) (by decide) k) ?_
      show own_Go p.tables e below F (T9.setTop (mkF m 197 #[.val (.int t), .val (.int gi), .val (.long am), .second, .val (.int dd), .val (.long ee), .second, .val (.int sel), .val (.int x8), .val (.int x9), .val (.long xA), .second, .val (.ref b1), .val (.ref b3), .val (.int (((sel.toUInt32 >>> ((3 : Int32) &&& 31).toUInt32).toInt32) &&& (3 : Int32))), .val (.ref bi7), .val (.int (0 : Int32)), .val (.int (1 : Int32))] [(.int (1 : Int32))]))
      obtain ⟨fs, hrL, hrun, hended, hW, hsame⟩ := X9.leave (v := some (.int (1 : Int32))) (fun h => by rw [Bd.returns] at h; cases h)
      refine own_end hF (o := .returned (some (.int (1 : Int32)))) (retN X9 hx (t := .boolean) Bd.returns (by simp) (hb hby at_197) hrL) ?_
      refine ⟨hrun, hended, _, _, rfl, ?_, ⟨_, rfl⟩, hW, hsame.mono (by decide) (by decide)⟩
      exact ⟨rfl, N9⟩
    ·
      refine own_st (fun _ k => XS.icmpYes X4.here hx rfl (pc0 := 101) (pc' := 116) rfl (hb hby at_101) rfl (feq hc101).2 (by decide) (by decide) k) ?_
      show own_Go p.tables e below F (T4.setTop (mkF m 116 #[.val (.int t), .val (.int gi), .val (.long am), .second, .val (.int dd), .val (.long ee), .second, .val (.int sel), .val (.int x8), .val (.int x9), .val (.long xA), .second, .val (.ref b1), .val (.ref b3), .val (.int (((sel.toUInt32 >>> ((3 : Int32) &&& 31).toUInt32).toInt32) &&& (3 : Int32))), .unset, .unset, .val (.int (1 : Int32))] []))
      refine own_st (fun _ k => XS.aload X4.here hx rfl (hb hby at_116) rfl rfl k) ?_
      show own_Go p.tables e below F (T4.setTop (mkF m 118 #[.val (.int t), .val (.int gi), .val (.long am), .second, .val (.int dd), .val (.long ee), .second, .val (.int sel), .val (.int x8), .val (.int x9), .val (.long xA), .second, .val (.ref b1), .val (.ref b3), .val (.int (((sel.toUInt32 >>> ((3 : Int32) &&& 31).toUInt32).toInt32) &&& (3 : Int32))), .unset, .unset, .val (.int (1 : Int32))] [(.ref b3)]))
      refine own_st (fun _ k => XS.astore X4.here hx rfl (hb hby at_118) rfl rfl (l' := #[.val (.int t), .val (.int gi), .val (.long am), .second, .val (.int dd), .val (.long ee), .second, .val (.int sel), .val (.int x8), .val (.int x9), .val (.long xA), .second, .val (.ref b1), .val (.ref b3), .val (.int (((sel.toUInt32 >>> ((3 : Int32) &&& 31).toUInt32).toInt32) &&& (3 : Int32))), .val (.ref b3), .unset, .val (.int (1 : Int32))]) rfl k) ?_
      show own_Go p.tables e below F (T4.setTop (mkF m 120 #[.val (.int t), .val (.int gi), .val (.long am), .second, .val (.int dd), .val (.long ee), .second, .val (.int sel), .val (.int x8), .val (.int x9), .val (.long xA), .second, .val (.ref b1), .val (.ref b3), .val (.int (((sel.toUInt32 >>> ((3 : Int32) &&& 31).toUInt32).toInt32) &&& (3 : Int32))), .val (.ref b3), .unset, .val (.int (1 : Int32))] []))
      refine own_st (fun _ k => XS.iloadN X4.here hx rfl (hb hby at_120) rfl k) ?_
      show own_Go p.tables e below F (T4.setTop (mkF m 121 #[.val (.int t), .val (.int gi), .val (.long am), .second, .val (.int dd), .val (.long ee), .second, .val (.int sel), .val (.int x8), .val (.int x9), .val (.long xA), .second, .val (.ref b1), .val (.ref b3), .val (.int (((sel.toUInt32 >>> ((3 : Int32) &&& 31).toUInt32).toInt32) &&& (3 : Int32))), .val (.ref b3), .unset, .val (.int (1 : Int32))] [(.int t)]))
      refine own_st (fun _ k => XS.iload X4.here hx rfl (hb hby at_121) rfl k) ?_
      show own_Go p.tables e below F (T4.setTop (mkF m 123 #[.val (.int t), .val (.int gi), .val (.long am), .second, .val (.int dd), .val (.long ee), .second, .val (.int sel), .val (.int x8), .val (.int x9), .val (.long xA), .second, .val (.ref b1), .val (.ref b3), .val (.int (((sel.toUInt32 >>> ((3 : Int32) &&& 31).toUInt32).toInt32) &&& (3 : Int32))), .val (.ref b3), .unset, .val (.int (1 : Int32))] [(.int x8), (.int t)]))
      by_cases hc123 : t = x8
      ·
        refine own_st (fun _ k => XS.icmpNo X4.here hx rfl (hb hby at_123) rfl (teq hc123).2 k) ?_
        show own_Go p.tables e below F (T4.setTop (mkF m 126 #[.val (.int t), .val (.int gi), .val (.long am), .second, .val (.int dd), .val (.long ee), .second, .val (.int sel), .val (.int x8), .val (.int x9), .val (.long xA), .second, .val (.ref b1), .val (.ref b3), .val (.int (((sel.toUInt32 >>> ((3 : Int32) &&& 31).toUInt32).toInt32) &&& (3 : Int32))), .val (.ref b3), .unset, .val (.int (1 : Int32))] []))
        refine own_st (fun _ k => XS.iloadN X4.here hx rfl (hb hby at_126) rfl k) ?_
        show own_Go p.tables e below F (T4.setTop (mkF m 127 #[.val (.int t), .val (.int gi), .val (.long am), .second, .val (.int dd), .val (.long ee), .second, .val (.int sel), .val (.int x8), .val (.int x9), .val (.long xA), .second, .val (.ref b1), .val (.ref b3), .val (.int (((sel.toUInt32 >>> ((3 : Int32) &&& 31).toUInt32).toInt32) &&& (3 : Int32))), .val (.ref b3), .unset, .val (.int (1 : Int32))] [(.int gi)]))
        refine own_st (fun _ k => XS.iload X4.here hx rfl (hb hby at_127) rfl k) ?_
        show own_Go p.tables e below F (T4.setTop (mkF m 129 #[.val (.int t), .val (.int gi), .val (.long am), .second, .val (.int dd), .val (.long ee), .second, .val (.int sel), .val (.int x8), .val (.int x9), .val (.long xA), .second, .val (.ref b1), .val (.ref b3), .val (.int (((sel.toUInt32 >>> ((3 : Int32) &&& 31).toUInt32).toInt32) &&& (3 : Int32))), .val (.ref b3), .unset, .val (.int (1 : Int32))] [(.int x9), (.int gi)]))
        by_cases hc129 : gi = x9
        ·
          refine own_st (fun _ k => XS.icmpNo X4.here hx rfl (hb hby at_129) rfl (teq hc129).2 k) ?_
          show own_Go p.tables e below F (T4.setTop (mkF m 132 #[.val (.int t), .val (.int gi), .val (.long am), .second, .val (.int dd), .val (.long ee), .second, .val (.int sel), .val (.int x8), .val (.int x9), .val (.long xA), .second, .val (.ref b1), .val (.ref b3), .val (.int (((sel.toUInt32 >>> ((3 : Int32) &&& 31).toUInt32).toInt32) &&& (3 : Int32))), .val (.ref b3), .unset, .val (.int (1 : Int32))] []))
          refine own_st (fun _ k => XS.lloadN X4.here hx rfl (hb hby at_132) rfl k) ?_
          show own_Go p.tables e below F (T4.setTop (mkF m 133 #[.val (.int t), .val (.int gi), .val (.long am), .second, .val (.int dd), .val (.long ee), .second, .val (.int sel), .val (.int x8), .val (.int x9), .val (.long xA), .second, .val (.ref b1), .val (.ref b3), .val (.int (((sel.toUInt32 >>> ((3 : Int32) &&& 31).toUInt32).toInt32) &&& (3 : Int32))), .val (.ref b3), .unset, .val (.int (1 : Int32))] [(.long am)]))
          refine own_st (fun _ k => XS.lload X4.here hx rfl (hb hby at_133) rfl k) ?_
          show own_Go p.tables e below F (T4.setTop (mkF m 135 #[.val (.int t), .val (.int gi), .val (.long am), .second, .val (.int dd), .val (.long ee), .second, .val (.int sel), .val (.int x8), .val (.int x9), .val (.long xA), .second, .val (.ref b1), .val (.ref b3), .val (.int (((sel.toUInt32 >>> ((3 : Int32) &&& 31).toUInt32).toInt32) &&& (3 : Int32))), .val (.ref b3), .unset, .val (.int (1 : Int32))] [(.long xA), (.long am)]))
          refine own_st (fun _ k => XS.lcmp X4.here hx rfl (hb hby at_135) rfl k) ?_
          show own_Go p.tables e below F (T4.setTop (mkF m 136 #[.val (.int t), .val (.int gi), .val (.long am), .second, .val (.int dd), .val (.long ee), .second, .val (.int sel), .val (.int x8), .val (.int x9), .val (.long xA), .second, .val (.ref b1), .val (.ref b3), .val (.int (((sel.toUInt32 >>> ((3 : Int32) &&& 31).toUInt32).toInt32) &&& (3 : Int32))), .val (.ref b3), .unset, .val (.int (1 : Int32))] [(.int (lcmpW am xA))]))
          by_cases hc136 : (lcmpW am xA) = (0 : Int32)
          ·
            refine own_st (fun _ k => XS.ifNo X4.here hx rfl (hb hby at_136) rfl ((if0 _ _).trans (teq hc136).2) k) ?_
            show own_Go p.tables e below F (T4.setTop (mkF m 139 #[.val (.int t), .val (.int gi), .val (.long am), .second, .val (.int dd), .val (.long ee), .second, .val (.int sel), .val (.int x8), .val (.int x9), .val (.long xA), .second, .val (.ref b1), .val (.ref b3), .val (.int (((sel.toUInt32 >>> ((3 : Int32) &&& 31).toUInt32).toInt32) &&& (3 : Int32))), .val (.ref b3), .unset, .val (.int (1 : Int32))] []))
            refine own_st (fun _ k => XS.iconst X4.here hx rfl (hb hby at_139) k) ?_
            show own_Go p.tables e below F (T4.setTop (mkF m 140 #[.val (.int t), .val (.int gi), .val (.long am), .second, .val (.int dd), .val (.long ee), .second, .val (.int sel), .val (.int x8), .val (.int x9), .val (.long xA), .second, .val (.ref b1), .val (.ref b3), .val (.int (((sel.toUInt32 >>> ((3 : Int32) &&& 31).toUInt32).toInt32) &&& (3 : Int32))), .val (.ref b3), .unset, .val (.int (1 : Int32))] [(.int (1 : Int32))]))
            refine own_st (fun _ k => XS.goto X4.here hx rfl (pc0 := 140) (pc' := 144) rfl (hb hby at_140) (by decide) (by decide) k) ?_
            show own_Go p.tables e below F (T4.setTop (mkF m 144 #[.val (.int t), .val (.int gi), .val (.long am), .second, .val (.int dd), .val (.long ee), .second, .val (.int sel), .val (.int x8), .val (.int x9), .val (.long xA), .second, .val (.ref b1), .val (.ref b3), .val (.int (((sel.toUInt32 >>> ((3 : Int32) &&& 31).toUInt32).toInt32) &&& (3 : Int32))), .val (.ref b3), .unset, .val (.int (1 : Int32))] [(.int (1 : Int32))]))
            refine own_st (fun _ k => XS.istore X4.here hx rfl (hb hby at_144) rfl (l' := #[.val (.int t), .val (.int gi), .val (.long am), .second, .val (.int dd), .val (.long ee), .second, .val (.int sel), .val (.int x8), .val (.int x9), .val (.long xA), .second, .val (.ref b1), .val (.ref b3), .val (.int (((sel.toUInt32 >>> ((3 : Int32) &&& 31).toUInt32).toInt32) &&& (3 : Int32))), .val (.ref b3), .val (.int (1 : Int32)), .val (.int (1 : Int32))]) rfl k) ?_
            show own_Go p.tables e below F (T4.setTop (mkF m 146 #[.val (.int t), .val (.int gi), .val (.long am), .second, .val (.int dd), .val (.long ee), .second, .val (.int sel), .val (.int x8), .val (.int x9), .val (.long xA), .second, .val (.ref b1), .val (.ref b3), .val (.int (((sel.toUInt32 >>> ((3 : Int32) &&& 31).toUInt32).toInt32) &&& (3 : Int32))), .val (.ref b3), .val (.int (1 : Int32)), .val (.int (1 : Int32))] []))
            refine own_st (fun _ k => XS.aload X4.here hx rfl (hb hby at_146) rfl rfl k) ?_
            show own_Go p.tables e below F (T4.setTop (mkF m 148 #[.val (.int t), .val (.int gi), .val (.long am), .second, .val (.int dd), .val (.long ee), .second, .val (.int sel), .val (.int x8), .val (.int x9), .val (.long xA), .second, .val (.ref b1), .val (.ref b3), .val (.int (((sel.toUInt32 >>> ((3 : Int32) &&& 31).toUInt32).toInt32) &&& (3 : Int32))), .val (.ref b3), .val (.int (1 : Int32)), .val (.int (1 : Int32))] [(.ref b3)]))
            refine own_st (fun _ k => XS.aload X4.here hx rfl (hb hby at_148) rfl rfl k) ?_
            show own_Go p.tables e below F (T4.setTop (mkF m 150 #[.val (.int t), .val (.int gi), .val (.long am), .second, .val (.int dd), .val (.long ee), .second, .val (.int sel), .val (.int x8), .val (.int x9), .val (.long xA), .second, .val (.ref b1), .val (.ref b3), .val (.int (((sel.toUInt32 >>> ((3 : Int32) &&& 31).toUInt32).toInt32) &&& (3 : Int32))), .val (.ref b3), .val (.int (1 : Int32)), .val (.int (1 : Int32))] [(.ref b1), (.ref b3)]))
            obtain ⟨cq10, kq10, q10a, q10b, q10c⟩ := isOf hZ rfl Pn4.1
            obtain ⟨_, _, ⟨T10, L10, k10, n10⟩, -, X10, ⟨Lc10, hQ10, l10, y10, z10⟩, st10⟩ := X4.virtualBack hx (y := (⟨"com/example/dockside/dockside/service/FewestPairings$Pairing", "equals", "(Ljava/lang/Object;)Z"⟩ : MethodName)) (z := (⟨"com/example/dockside/dockside/service/FewestPairings$Pairing", "equals", "(Ljava/lang/Object;)Z"⟩ : MethodName)) hown (mvT hZ (hw _ (List.mem_of_getElem? (i := 15) rfl))) (mvT hZ (hw _ (List.mem_of_getElem? (i := 16) rfl))) (notFace_of_selects (args := #[]) (mvT hZ (hw _ (List.mem_of_getElem? (i := 18) rfl)))) (mvT hZ (hw _ (List.mem_of_getElem? (i := 18) rfl))) (mvT hZ (hw _ (List.mem_of_getElem? (i := 17) rfl))) (by decide) (backOf (W := 0) (own_eqP l Z a0 hw [] b3 b1 x8 x9 t gi xA am 1 T4.heap n0 Pn4 Pn2__4 (if_pos ⟨hc123, hc129, ((lw_eq _ _).mp hc136)⟩).symm) hZ (hw _ (List.mem_of_getElem? (i := 19) rfl)) (hw _ (List.mem_of_getElem? (i := 2) rfl)) (by decide) (by decide)) q10a q10c (g := (mkF m 150 #[.val (.int t), .val (.int gi), .val (.long am), .second, .val (.int dd), .val (.long ee), .second, .val (.int sel), .val (.int x8), .val (.int x9), .val (.long xA), .second, .val (.ref b1), .val (.ref b3), .val (.int (((sel.toUInt32 >>> ((3 : Int32) &&& 31).toUInt32).toInt32) &&& (3 : Int32))), .val (.ref b3), .val (.int (1 : Int32)), .val (.int (1 : Int32))] [(.ref b1), (.ref b3)])) rfl (by rw [hml]; rfl) (Steps.refl _) (argsL := [(.ref b1)]) (rest := []) (lenOf pd_3 rfl) rfl (by show 2 * 0 + _ ≤ _; exact Nat.le_of_eq rfl) (hb hby at_150) (fun _ _ => ⟨rfl, rfl, (by decide : 2 + 0 ≤ _), (by decide : 6 + 0 ≤ _)⟩)
            dsimp only [Pt.U, Pt.locs, Pt.cells, Pt.slots] at X10 l10 y10 z10 st10 hQ10
            subst l10 y10 z10
            obtain ⟨rfl, N10q, e10⟩ := hQ10
            have N10 := Fr.app N4 N10q
            refine own_st (fun _ k => st10.trans k) ?_
            show own_Go p.tables e below F (T10.setTop (mkF m 153 #[.val (.int t), .val (.int gi), .val (.long am), .second, .val (.int dd), .val (.long ee), .second, .val (.int sel), .val (.int x8), .val (.int x9), .val (.long xA), .second, .val (.ref b1), .val (.ref b3), .val (.int (((sel.toUInt32 >>> ((3 : Int32) &&& 31).toUInt32).toInt32) &&& (3 : Int32))), .val (.ref b3), .val (.int (1 : Int32)), .val (.int (1 : Int32))] [(.int (1 : Int32))]))
            refine own_st (fun _ k => XS.iload X10.here hx rfl (hb hby at_153) rfl k) ?_
            show own_Go p.tables e below F (T10.setTop (mkF m 155 #[.val (.int t), .val (.int gi), .val (.long am), .second, .val (.int dd), .val (.long ee), .second, .val (.int sel), .val (.int x8), .val (.int x9), .val (.long xA), .second, .val (.ref b1), .val (.ref b3), .val (.int (((sel.toUInt32 >>> ((3 : Int32) &&& 31).toUInt32).toInt32) &&& (3 : Int32))), .val (.ref b3), .val (.int (1 : Int32)), .val (.int (1 : Int32))] [(.int (1 : Int32)), (.int (1 : Int32))]))
            refine own_st (fun _ k => XS.icmpNo X10.here hx rfl (hb hby at_155) rfl (teq (by decide : (1 : Int32) = (1 : Int32))).2 k) ?_
            show own_Go p.tables e below F (T10.setTop (mkF m 158 #[.val (.int t), .val (.int gi), .val (.long am), .second, .val (.int dd), .val (.long ee), .second, .val (.int sel), .val (.int x8), .val (.int x9), .val (.long xA), .second, .val (.ref b1), .val (.ref b3), .val (.int (((sel.toUInt32 >>> ((3 : Int32) &&& 31).toUInt32).toInt32) &&& (3 : Int32))), .val (.ref b3), .val (.int (1 : Int32)), .val (.int (1 : Int32))] []))
            refine own_st (fun _ k => XS.iconst X10.here hx rfl (hb hby at_158) k) ?_
            show own_Go p.tables e below F (T10.setTop (mkF m 159 #[.val (.int t), .val (.int gi), .val (.long am), .second, .val (.int dd), .val (.long ee), .second, .val (.int sel), .val (.int x8), .val (.int x9), .val (.long xA), .second, .val (.ref b1), .val (.ref b3), .val (.int (((sel.toUInt32 >>> ((3 : Int32) &&& 31).toUInt32).toInt32) &&& (3 : Int32))), .val (.ref b3), .val (.int (1 : Int32)), .val (.int (1 : Int32))] [(.int (1 : Int32))]))
            refine own_st (fun _ k => XS.goto X10.here hx rfl (pc0 := 159) (pc' := 163) rfl (hb hby at_159) (by decide) (by decide) k) ?_
            show own_Go p.tables e below F (T10.setTop (mkF m 163 #[.val (.int t), .val (.int gi), .val (.long am), .second, .val (.int dd), .val (.long ee), .second, .val (.int sel), .val (.int x8), .val (.int x9), .val (.long xA), .second, .val (.ref b1), .val (.ref b3), .val (.int (((sel.toUInt32 >>> ((3 : Int32) &&& 31).toUInt32).toInt32) &&& (3 : Int32))), .val (.ref b3), .val (.int (1 : Int32)), .val (.int (1 : Int32))] [(.int (1 : Int32))]))
            refine own_st (fun _ k => XS.istore X10.here hx rfl (hb hby at_163) rfl (l' := #[.val (.int t), .val (.int gi), .val (.long am), .second, .val (.int dd), .val (.long ee), .second, .val (.int sel), .val (.int x8), .val (.int x9), .val (.long xA), .second, .val (.ref b1), .val (.ref b3), .val (.int (((sel.toUInt32 >>> ((3 : Int32) &&& 31).toUInt32).toInt32) &&& (3 : Int32))), .val (.ref b3), .val (.int (1 : Int32)), .val (.int (1 : Int32))]) rfl k) ?_
            show own_Go p.tables e below F (T10.setTop (mkF m 165 #[.val (.int t), .val (.int gi), .val (.long am), .second, .val (.int dd), .val (.long ee), .second, .val (.int sel), .val (.int x8), .val (.int x9), .val (.long xA), .second, .val (.ref b1), .val (.ref b3), .val (.int (((sel.toUInt32 >>> ((3 : Int32) &&& 31).toUInt32).toInt32) &&& (3 : Int32))), .val (.ref b3), .val (.int (1 : Int32)), .val (.int (1 : Int32))] []))
            refine own_st (fun _ k => XS.aload X10.here hx rfl (hb hby at_165) rfl rfl k) ?_
            show own_Go p.tables e below F (T10.setTop (mkF m 167 #[.val (.int t), .val (.int gi), .val (.long am), .second, .val (.int dd), .val (.long ee), .second, .val (.int sel), .val (.int x8), .val (.int x9), .val (.long xA), .second, .val (.ref b1), .val (.ref b3), .val (.int (((sel.toUInt32 >>> ((3 : Int32) &&& 31).toUInt32).toInt32) &&& (3 : Int32))), .val (.ref b3), .val (.int (1 : Int32)), .val (.int (1 : Int32))] [(.ref b1)]))
            refine own_st (fun _ k => XS.aload X10.here hx rfl (hb hby at_167) rfl rfl k) ?_
            show own_Go p.tables e below F (T10.setTop (mkF m 169 #[.val (.int t), .val (.int gi), .val (.long am), .second, .val (.int dd), .val (.long ee), .second, .val (.int sel), .val (.int x8), .val (.int x9), .val (.long xA), .second, .val (.ref b1), .val (.ref b3), .val (.int (((sel.toUInt32 >>> ((3 : Int32) &&& 31).toUInt32).toInt32) &&& (3 : Int32))), .val (.ref b3), .val (.int (1 : Int32)), .val (.int (1 : Int32))] [(.ref b3), (.ref b1)]))
            obtain ⟨cq11, kq11, q11a, q11b, q11c⟩ := isOf hZ e10 Pn2__4.1
            obtain ⟨_, _, ⟨T11, L11, k11, n11⟩, -, X11, ⟨Lc11, hQ11, l11, y11, z11⟩, st11⟩ := X10.virtualBack hx (y := (⟨"com/example/dockside/dockside/service/FewestPairings$Pairing", "equals", "(Ljava/lang/Object;)Z"⟩ : MethodName)) (z := (⟨"com/example/dockside/dockside/service/FewestPairings$Pairing", "equals", "(Ljava/lang/Object;)Z"⟩ : MethodName)) hown (mvT hZ (hw _ (List.mem_of_getElem? (i := 15) rfl))) (mvT hZ (hw _ (List.mem_of_getElem? (i := 16) rfl))) (notFace_of_selects (args := #[]) (mvT hZ (hw _ (List.mem_of_getElem? (i := 18) rfl)))) (mvT hZ (hw _ (List.mem_of_getElem? (i := 18) rfl))) (mvT hZ (hw _ (List.mem_of_getElem? (i := 17) rfl))) (by decide) (backOf (W := 0) (own_eqP l Z a0 hw [] b1 b3 t gi x8 x9 am xA 1 T4.heap n0 Pn2__4 Pn4 (if_pos ⟨(Eq.symm hc123), (Eq.symm hc129), (Eq.symm ((lw_eq _ _).mp hc136))⟩).symm) hZ (hw _ (List.mem_of_getElem? (i := 19) rfl)) (hw _ (List.mem_of_getElem? (i := 2) rfl)) (by decide) (by decide)) q11a q11c (g := (mkF m 169 #[.val (.int t), .val (.int gi), .val (.long am), .second, .val (.int dd), .val (.long ee), .second, .val (.int sel), .val (.int x8), .val (.int x9), .val (.long xA), .second, .val (.ref b1), .val (.ref b3), .val (.int (((sel.toUInt32 >>> ((3 : Int32) &&& 31).toUInt32).toInt32) &&& (3 : Int32))), .val (.ref b3), .val (.int (1 : Int32)), .val (.int (1 : Int32))] [(.ref b3), (.ref b1)])) rfl (by rw [hml]; rfl) (Steps.refl _) (argsL := [(.ref b3)]) (rest := []) (lenOf pd_3 rfl) rfl (by show 2 * 0 + _ ≤ _; exact Nat.le_of_eq rfl) (hb hby at_169) (fun _ _ => ⟨rfl, e10, (by decide : 2 + 0 ≤ _), (by decide : 6 + 0 ≤ _)⟩)
            dsimp only [Pt.U, Pt.locs, Pt.cells, Pt.slots] at X11 l11 y11 z11 st11 hQ11
            subst l11 y11 z11
            obtain ⟨rfl, N11q, e11⟩ := hQ11
            have N11 := Fr.app N10 N11q
            refine own_st (fun _ k => st11.trans k) ?_
            show own_Go p.tables e below F (T11.setTop (mkF m 172 #[.val (.int t), .val (.int gi), .val (.long am), .second, .val (.int dd), .val (.long ee), .second, .val (.int sel), .val (.int x8), .val (.int x9), .val (.long xA), .second, .val (.ref b1), .val (.ref b3), .val (.int (((sel.toUInt32 >>> ((3 : Int32) &&& 31).toUInt32).toInt32) &&& (3 : Int32))), .val (.ref b3), .val (.int (1 : Int32)), .val (.int (1 : Int32))] [(.int (1 : Int32))]))
            refine own_st (fun _ k => XS.iload X11.here hx rfl (hb hby at_172) rfl k) ?_
            show own_Go p.tables e below F (T11.setTop (mkF m 174 #[.val (.int t), .val (.int gi), .val (.long am), .second, .val (.int dd), .val (.long ee), .second, .val (.int sel), .val (.int x8), .val (.int x9), .val (.long xA), .second, .val (.ref b1), .val (.ref b3), .val (.int (((sel.toUInt32 >>> ((3 : Int32) &&& 31).toUInt32).toInt32) &&& (3 : Int32))), .val (.ref b3), .val (.int (1 : Int32)), .val (.int (1 : Int32))] [(.int (1 : Int32)), (.int (1 : Int32))]))
            refine own_st (fun _ k => XS.icmpNo X11.here hx rfl (hb hby at_174) rfl (teq (by decide : (1 : Int32) = (1 : Int32))).2 k) ?_
            show own_Go p.tables e below F (T11.setTop (mkF m 177 #[.val (.int t), .val (.int gi), .val (.long am), .second, .val (.int dd), .val (.long ee), .second, .val (.int sel), .val (.int x8), .val (.int x9), .val (.long xA), .second, .val (.ref b1), .val (.ref b3), .val (.int (((sel.toUInt32 >>> ((3 : Int32) &&& 31).toUInt32).toInt32) &&& (3 : Int32))), .val (.ref b3), .val (.int (1 : Int32)), .val (.int (1 : Int32))] []))
            refine own_st (fun _ k => XS.iload X11.here hx rfl (hb hby at_177) rfl k) ?_
            show own_Go p.tables e below F (T11.setTop (mkF m 179 #[.val (.int t), .val (.int gi), .val (.long am), .second, .val (.int dd), .val (.long ee), .second, .val (.int sel), .val (.int x8), .val (.int x9), .val (.long xA), .second, .val (.ref b1), .val (.ref b3), .val (.int (((sel.toUInt32 >>> ((3 : Int32) &&& 31).toUInt32).toInt32) &&& (3 : Int32))), .val (.ref b3), .val (.int (1 : Int32)), .val (.int (1 : Int32))] [(.int (1 : Int32))]))
            refine own_st (fun _ k => XS.ifNo X11.here hx rfl (hb hby at_179) rfl ((if0 _ _).trans (feq (by decide : ¬ ((1 : Int32) = (0 : Int32)))).1) k) ?_
            show own_Go p.tables e below F (T11.setTop (mkF m 182 #[.val (.int t), .val (.int gi), .val (.long am), .second, .val (.int dd), .val (.long ee), .second, .val (.int sel), .val (.int x8), .val (.int x9), .val (.long xA), .second, .val (.ref b1), .val (.ref b3), .val (.int (((sel.toUInt32 >>> ((3 : Int32) &&& 31).toUInt32).toInt32) &&& (3 : Int32))), .val (.ref b3), .val (.int (1 : Int32)), .val (.int (1 : Int32))] []))
            refine own_st (fun _ k => XS.aload X11.here hx rfl (hb hby at_182) rfl rfl k) ?_
            show own_Go p.tables e below F (T11.setTop (mkF m 184 #[.val (.int t), .val (.int gi), .val (.long am), .second, .val (.int dd), .val (.long ee), .second, .val (.int sel), .val (.int x8), .val (.int x9), .val (.long xA), .second, .val (.ref b1), .val (.ref b3), .val (.int (((sel.toUInt32 >>> ((3 : Int32) &&& 31).toUInt32).toInt32) &&& (3 : Int32))), .val (.ref b3), .val (.int (1 : Int32)), .val (.int (1 : Int32))] [(.ref b1)]))
            refine own_st (fun _ k => XS.aload X11.here hx rfl (hb hby at_184) rfl rfl k) ?_
            show own_Go p.tables e below F (T11.setTop (mkF m 186 #[.val (.int t), .val (.int gi), .val (.long am), .second, .val (.int dd), .val (.long ee), .second, .val (.int sel), .val (.int x8), .val (.int x9), .val (.long xA), .second, .val (.ref b1), .val (.ref b3), .val (.int (((sel.toUInt32 >>> ((3 : Int32) &&& 31).toUInt32).toInt32) &&& (3 : Int32))), .val (.ref b3), .val (.int (1 : Int32)), .val (.int (1 : Int32))] [(.ref b1), (.ref b1)]))
            obtain ⟨cq12, kq12, q12a, q12b, q12c⟩ := isOf hZ e11 Pn2__4.1
            obtain ⟨_, _, ⟨T12, L12, k12, n12⟩, -, X12, ⟨Lc12, hQ12, l12, y12, z12⟩, st12⟩ := X11.virtualBack hx (y := (⟨"com/example/dockside/dockside/service/FewestPairings$Pairing", "equals", "(Ljava/lang/Object;)Z"⟩ : MethodName)) (z := (⟨"com/example/dockside/dockside/service/FewestPairings$Pairing", "equals", "(Ljava/lang/Object;)Z"⟩ : MethodName)) hown (mvT hZ (hw _ (List.mem_of_getElem? (i := 15) rfl))) (mvT hZ (hw _ (List.mem_of_getElem? (i := 16) rfl))) (notFace_of_selects (args := #[]) (mvT hZ (hw _ (List.mem_of_getElem? (i := 18) rfl)))) (mvT hZ (hw _ (List.mem_of_getElem? (i := 18) rfl))) (mvT hZ (hw _ (List.mem_of_getElem? (i := 17) rfl))) (by decide) (backOf (W := 0) (own_eqP l Z a0 hw [] b1 b1 t gi t gi am am 1 T4.heap n0 Pn2__4 Pn2__4 (if_pos ⟨rfl, rfl, rfl⟩).symm) hZ (hw _ (List.mem_of_getElem? (i := 19) rfl)) (hw _ (List.mem_of_getElem? (i := 2) rfl)) (by decide) (by decide)) q12a q12c (g := (mkF m 186 #[.val (.int t), .val (.int gi), .val (.long am), .second, .val (.int dd), .val (.long ee), .second, .val (.int sel), .val (.int x8), .val (.int x9), .val (.long xA), .second, .val (.ref b1), .val (.ref b3), .val (.int (((sel.toUInt32 >>> ((3 : Int32) &&& 31).toUInt32).toInt32) &&& (3 : Int32))), .val (.ref b3), .val (.int (1 : Int32)), .val (.int (1 : Int32))] [(.ref b1), (.ref b1)])) rfl (by rw [hml]; rfl) (Steps.refl _) (argsL := [(.ref b1)]) (rest := []) (lenOf pd_3 rfl) rfl (by show 2 * 0 + _ ≤ _; exact Nat.le_of_eq rfl) (hb hby at_186) (fun _ _ => ⟨rfl, e11, (by decide : 2 + 0 ≤ _), (by decide : 6 + 0 ≤ _)⟩)
            dsimp only [Pt.U, Pt.locs, Pt.cells, Pt.slots] at X12 l12 y12 z12 st12 hQ12
            subst l12 y12 z12
            obtain ⟨rfl, N12q, e12⟩ := hQ12
            have N12 := Fr.app N11 N12q
            refine own_st (fun _ k => st12.trans k) ?_
            show own_Go p.tables e below F (T12.setTop (mkF m 189 #[.val (.int t), .val (.int gi), .val (.long am), .second, .val (.int dd), .val (.long ee), .second, .val (.int sel), .val (.int x8), .val (.int x9), .val (.long xA), .second, .val (.ref b1), .val (.ref b3), .val (.int (((sel.toUInt32 >>> ((3 : Int32) &&& 31).toUInt32).toInt32) &&& (3 : Int32))), .val (.ref b3), .val (.int (1 : Int32)), .val (.int (1 : Int32))] [(.int (1 : Int32))]))
            refine own_st (fun _ k => XS.ifNo X12.here hx rfl (hb hby at_189) rfl ((if0 _ _).trans (feq (by decide : ¬ ((1 : Int32) = (0 : Int32)))).1) k) ?_
            show own_Go p.tables e below F (T12.setTop (mkF m 192 #[.val (.int t), .val (.int gi), .val (.long am), .second, .val (.int dd), .val (.long ee), .second, .val (.int sel), .val (.int x8), .val (.int x9), .val (.long xA), .second, .val (.ref b1), .val (.ref b3), .val (.int (((sel.toUInt32 >>> ((3 : Int32) &&& 31).toUInt32).toInt32) &&& (3 : Int32))), .val (.ref b3), .val (.int (1 : Int32)), .val (.int (1 : Int32))] []))
            refine own_st (fun _ k => XS.iconst X12.here hx rfl (hb hby at_192) k) ?_
            show own_Go p.tables e below F (T12.setTop (mkF m 193 #[.val (.int t), .val (.int gi), .val (.long am), .second, .val (.int dd), .val (.long ee), .second, .val (.int sel), .val (.int x8), .val (.int x9), .val (.long xA), .second, .val (.ref b1), .val (.ref b3), .val (.int (((sel.toUInt32 >>> ((3 : Int32) &&& 31).toUInt32).toInt32) &&& (3 : Int32))), .val (.ref b3), .val (.int (1 : Int32)), .val (.int (1 : Int32))] [(.int (1 : Int32))]))
            refine own_st (fun _ k => XS.goto X12.here hx rfl (pc0 := 193) (pc' := 197) rfl (hb hby at_193) (by decide) (by decide) k) ?_
            show own_Go p.tables e below F (T12.setTop (mkF m 197 #[.val (.int t), .val (.int gi), .val (.long am), .second, .val (.int dd), .val (.long ee), .second, .val (.int sel), .val (.int x8), .val (.int x9), .val (.long xA), .second, .val (.ref b1), .val (.ref b3), .val (.int (((sel.toUInt32 >>> ((3 : Int32) &&& 31).toUInt32).toInt32) &&& (3 : Int32))), .val (.ref b3), .val (.int (1 : Int32)), .val (.int (1 : Int32))] [(.int (1 : Int32))]))
            obtain ⟨fs, hrL, hrun, hended, hW, hsame⟩ := X12.leave (v := some (.int (1 : Int32))) (fun h => by rw [Bd.returns] at h; cases h)
            refine own_end hF (o := .returned (some (.int (1 : Int32)))) (retN X12 hx (t := .boolean) Bd.returns (by simp) (hb hby at_197) hrL) ?_
            refine ⟨hrun, hended, _, _, rfl, ?_, ⟨_, rfl⟩, hW, hsame.mono (by decide) (by decide)⟩
            exact ⟨rfl, N12⟩
          ·
            refine own_st (fun _ k => XS.ifYes X4.here hx rfl (pc0 := 136) (pc' := 143) rfl (hb hby at_136) rfl ((if0 _ _).trans (feq hc136).2) (by decide) (by decide) k) ?_
            show own_Go p.tables e below F (T4.setTop (mkF m 143 #[.val (.int t), .val (.int gi), .val (.long am), .second, .val (.int dd), .val (.long ee), .second, .val (.int sel), .val (.int x8), .val (.int x9), .val (.long xA), .second, .val (.ref b1), .val (.ref b3), .val (.int (((sel.toUInt32 >>> ((3 : Int32) &&& 31).toUInt32).toInt32) &&& (3 : Int32))), .val (.ref b3), .unset, .val (.int (1 : Int32))] []))
            refine own_st (fun _ k => XS.iconst X4.here hx rfl (hb hby at_143) k) ?_
            show own_Go p.tables e below F (T4.setTop (mkF m 144 #[.val (.int t), .val (.int gi), .val (.long am), .second, .val (.int dd), .val (.long ee), .second, .val (.int sel), .val (.int x8), .val (.int x9), .val (.long xA), .second, .val (.ref b1), .val (.ref b3), .val (.int (((sel.toUInt32 >>> ((3 : Int32) &&& 31).toUInt32).toInt32) &&& (3 : Int32))), .val (.ref b3), .unset, .val (.int (1 : Int32))] [(.int (0 : Int32))]))
            refine own_st (fun _ k => XS.istore X4.here hx rfl (hb hby at_144) rfl (l' := #[.val (.int t), .val (.int gi), .val (.long am), .second, .val (.int dd), .val (.long ee), .second, .val (.int sel), .val (.int x8), .val (.int x9), .val (.long xA), .second, .val (.ref b1), .val (.ref b3), .val (.int (((sel.toUInt32 >>> ((3 : Int32) &&& 31).toUInt32).toInt32) &&& (3 : Int32))), .val (.ref b3), .val (.int (0 : Int32)), .val (.int (1 : Int32))]) rfl k) ?_
            show own_Go p.tables e below F (T4.setTop (mkF m 146 #[.val (.int t), .val (.int gi), .val (.long am), .second, .val (.int dd), .val (.long ee), .second, .val (.int sel), .val (.int x8), .val (.int x9), .val (.long xA), .second, .val (.ref b1), .val (.ref b3), .val (.int (((sel.toUInt32 >>> ((3 : Int32) &&& 31).toUInt32).toInt32) &&& (3 : Int32))), .val (.ref b3), .val (.int (0 : Int32)), .val (.int (1 : Int32))] []))
            refine own_st (fun _ k => XS.aload X4.here hx rfl (hb hby at_146) rfl rfl k) ?_
            show own_Go p.tables e below F (T4.setTop (mkF m 148 #[.val (.int t), .val (.int gi), .val (.long am), .second, .val (.int dd), .val (.long ee), .second, .val (.int sel), .val (.int x8), .val (.int x9), .val (.long xA), .second, .val (.ref b1), .val (.ref b3), .val (.int (((sel.toUInt32 >>> ((3 : Int32) &&& 31).toUInt32).toInt32) &&& (3 : Int32))), .val (.ref b3), .val (.int (0 : Int32)), .val (.int (1 : Int32))] [(.ref b3)]))
            refine own_st (fun _ k => XS.aload X4.here hx rfl (hb hby at_148) rfl rfl k) ?_
            show own_Go p.tables e below F (T4.setTop (mkF m 150 #[.val (.int t), .val (.int gi), .val (.long am), .second, .val (.int dd), .val (.long ee), .second, .val (.int sel), .val (.int x8), .val (.int x9), .val (.long xA), .second, .val (.ref b1), .val (.ref b3), .val (.int (((sel.toUInt32 >>> ((3 : Int32) &&& 31).toUInt32).toInt32) &&& (3 : Int32))), .val (.ref b3), .val (.int (0 : Int32)), .val (.int (1 : Int32))] [(.ref b1), (.ref b3)]))
            obtain ⟨cq13, kq13, q13a, q13b, q13c⟩ := isOf hZ rfl Pn4.1
            obtain ⟨_, _, ⟨T13, L13, k13, n13⟩, -, X13, ⟨Lc13, hQ13, l13, y13, z13⟩, st13⟩ := X4.virtualBack hx (y := (⟨"com/example/dockside/dockside/service/FewestPairings$Pairing", "equals", "(Ljava/lang/Object;)Z"⟩ : MethodName)) (z := (⟨"com/example/dockside/dockside/service/FewestPairings$Pairing", "equals", "(Ljava/lang/Object;)Z"⟩ : MethodName)) hown (mvT hZ (hw _ (List.mem_of_getElem? (i := 15) rfl))) (mvT hZ (hw _ (List.mem_of_getElem? (i := 16) rfl))) (notFace_of_selects (args := #[]) (mvT hZ (hw _ (List.mem_of_getElem? (i := 18) rfl)))) (mvT hZ (hw _ (List.mem_of_getElem? (i := 18) rfl))) (mvT hZ (hw _ (List.mem_of_getElem? (i := 17) rfl))) (by decide) (backOf (W := 0) (own_eqP l Z a0 hw [] b3 b1 x8 x9 t gi xA am 0 T4.heap n0 Pn4 Pn2__4 (if_neg (fun z => (fun z => hc136 ((lw_eq _ _).mpr z)) z.2.2)).symm) hZ (hw _ (List.mem_of_getElem? (i := 19) rfl)) (hw _ (List.mem_of_getElem? (i := 2) rfl)) (by decide) (by decide)) q13a q13c (g := (mkF m 150 #[.val (.int t), .val (.int gi), .val (.long am), .second, .val (.int dd), .val (.long ee), .second, .val (.int sel), .val (.int x8), .val (.int x9), .val (.long xA), .second, .val (.ref b1), .val (.ref b3), .val (.int (((sel.toUInt32 >>> ((3 : Int32) &&& 31).toUInt32).toInt32) &&& (3 : Int32))), .val (.ref b3), .val (.int (0 : Int32)), .val (.int (1 : Int32))] [(.ref b1), (.ref b3)])) rfl (by rw [hml]; rfl) (Steps.refl _) (argsL := [(.ref b1)]) (rest := []) (lenOf pd_3 rfl) rfl (by show 2 * 0 + _ ≤ _; exact Nat.le_of_eq rfl) (hb hby at_150) (fun _ _ => ⟨rfl, rfl, (by decide : 2 + 0 ≤ _), (by decide : 6 + 0 ≤ _)⟩)
            dsimp only [Pt.U, Pt.locs, Pt.cells, Pt.slots] at X13 l13 y13 z13 st13 hQ13
            subst l13 y13 z13
            obtain ⟨rfl, N13q, e13⟩ := hQ13
            have N13 := Fr.app N4 N13q
            refine own_st (fun _ k => st13.trans k) ?_
            show own_Go p.tables e below F (T13.setTop (mkF m 153 #[.val (.int t), .val (.int gi), .val (.long am), .second, .val (.int dd), .val (.long ee), .second, .val (.int sel), .val (.int x8), .val (.int x9), .val (.long xA), .second, .val (.ref b1), .val (.ref b3), .val (.int (((sel.toUInt32 >>> ((3 : Int32) &&& 31).toUInt32).toInt32) &&& (3 : Int32))), .val (.ref b3), .val (.int (0 : Int32)), .val (.int (1 : Int32))] [(.int (0 : Int32))]))
            refine own_st (fun _ k => XS.iload X13.here hx rfl (hb hby at_153) rfl k) ?_
            show own_Go p.tables e below F (T13.setTop (mkF m 155 #[.val (.int t), .val (.int gi), .val (.long am), .second, .val (.int dd), .val (.long ee), .second, .val (.int sel), .val (.int x8), .val (.int x9), .val (.long xA), .second, .val (.ref b1), .val (.ref b3), .val (.int (((sel.toUInt32 >>> ((3 : Int32) &&& 31).toUInt32).toInt32) &&& (3 : Int32))), .val (.ref b3), .val (.int (0 : Int32)), .val (.int (1 : Int32))] [(.int (0 : Int32)), (.int (0 : Int32))]))
            refine own_st (fun _ k => XS.icmpNo X13.here hx rfl (hb hby at_155) rfl (teq (by decide : (0 : Int32) = (0 : Int32))).2 k) ?_
            show own_Go p.tables e below F (T13.setTop (mkF m 158 #[.val (.int t), .val (.int gi), .val (.long am), .second, .val (.int dd), .val (.long ee), .second, .val (.int sel), .val (.int x8), .val (.int x9), .val (.long xA), .second, .val (.ref b1), .val (.ref b3), .val (.int (((sel.toUInt32 >>> ((3 : Int32) &&& 31).toUInt32).toInt32) &&& (3 : Int32))), .val (.ref b3), .val (.int (0 : Int32)), .val (.int (1 : Int32))] []))
            refine own_st (fun _ k => XS.iconst X13.here hx rfl (hb hby at_158) k) ?_
            show own_Go p.tables e below F (T13.setTop (mkF m 159 #[.val (.int t), .val (.int gi), .val (.long am), .second, .val (.int dd), .val (.long ee), .second, .val (.int sel), .val (.int x8), .val (.int x9), .val (.long xA), .second, .val (.ref b1), .val (.ref b3), .val (.int (((sel.toUInt32 >>> ((3 : Int32) &&& 31).toUInt32).toInt32) &&& (3 : Int32))), .val (.ref b3), .val (.int (0 : Int32)), .val (.int (1 : Int32))] [(.int (1 : Int32))]))
            refine own_st (fun _ k => XS.goto X13.here hx rfl (pc0 := 159) (pc' := 163) rfl (hb hby at_159) (by decide) (by decide) k) ?_
            show own_Go p.tables e below F (T13.setTop (mkF m 163 #[.val (.int t), .val (.int gi), .val (.long am), .second, .val (.int dd), .val (.long ee), .second, .val (.int sel), .val (.int x8), .val (.int x9), .val (.long xA), .second, .val (.ref b1), .val (.ref b3), .val (.int (((sel.toUInt32 >>> ((3 : Int32) &&& 31).toUInt32).toInt32) &&& (3 : Int32))), .val (.ref b3), .val (.int (0 : Int32)), .val (.int (1 : Int32))] [(.int (1 : Int32))]))
            refine own_st (fun _ k => XS.istore X13.here hx rfl (hb hby at_163) rfl (l' := #[.val (.int t), .val (.int gi), .val (.long am), .second, .val (.int dd), .val (.long ee), .second, .val (.int sel), .val (.int x8), .val (.int x9), .val (.long xA), .second, .val (.ref b1), .val (.ref b3), .val (.int (((sel.toUInt32 >>> ((3 : Int32) &&& 31).toUInt32).toInt32) &&& (3 : Int32))), .val (.ref b3), .val (.int (0 : Int32)), .val (.int (1 : Int32))]) rfl k) ?_
            show own_Go p.tables e below F (T13.setTop (mkF m 165 #[.val (.int t), .val (.int gi), .val (.long am), .second, .val (.int dd), .val (.long ee), .second, .val (.int sel), .val (.int x8), .val (.int x9), .val (.long xA), .second, .val (.ref b1), .val (.ref b3), .val (.int (((sel.toUInt32 >>> ((3 : Int32) &&& 31).toUInt32).toInt32) &&& (3 : Int32))), .val (.ref b3), .val (.int (0 : Int32)), .val (.int (1 : Int32))] []))
            refine own_st (fun _ k => XS.aload X13.here hx rfl (hb hby at_165) rfl rfl k) ?_
            show own_Go p.tables e below F (T13.setTop (mkF m 167 #[.val (.int t), .val (.int gi), .val (.long am), .second, .val (.int dd), .val (.long ee), .second, .val (.int sel), .val (.int x8), .val (.int x9), .val (.long xA), .second, .val (.ref b1), .val (.ref b3), .val (.int (((sel.toUInt32 >>> ((3 : Int32) &&& 31).toUInt32).toInt32) &&& (3 : Int32))), .val (.ref b3), .val (.int (0 : Int32)), .val (.int (1 : Int32))] [(.ref b1)]))
            refine own_st (fun _ k => XS.aload X13.here hx rfl (hb hby at_167) rfl rfl k) ?_
            show own_Go p.tables e below F (T13.setTop (mkF m 169 #[.val (.int t), .val (.int gi), .val (.long am), .second, .val (.int dd), .val (.long ee), .second, .val (.int sel), .val (.int x8), .val (.int x9), .val (.long xA), .second, .val (.ref b1), .val (.ref b3), .val (.int (((sel.toUInt32 >>> ((3 : Int32) &&& 31).toUInt32).toInt32) &&& (3 : Int32))), .val (.ref b3), .val (.int (0 : Int32)), .val (.int (1 : Int32))] [(.ref b3), (.ref b1)]))
            obtain ⟨cq14, kq14, q14a, q14b, q14c⟩ := isOf hZ e13 Pn2__4.1
            obtain ⟨_, _, ⟨T14, L14, k14, n14⟩, -, X14, ⟨Lc14, hQ14, l14, y14, z14⟩, st14⟩ := X13.virtualBack hx (y := (⟨"com/example/dockside/dockside/service/FewestPairings$Pairing", "equals", "(Ljava/lang/Object;)Z"⟩ : MethodName)) (z := (⟨"com/example/dockside/dockside/service/FewestPairings$Pairing", "equals", "(Ljava/lang/Object;)Z"⟩ : MethodName)) hown (mvT hZ (hw _ (List.mem_of_getElem? (i := 15) rfl))) (mvT hZ (hw _ (List.mem_of_getElem? (i := 16) rfl))) (notFace_of_selects (args := #[]) (mvT hZ (hw _ (List.mem_of_getElem? (i := 18) rfl)))) (mvT hZ (hw _ (List.mem_of_getElem? (i := 18) rfl))) (mvT hZ (hw _ (List.mem_of_getElem? (i := 17) rfl))) (by decide) (backOf (W := 0) (own_eqP l Z a0 hw [] b1 b3 t gi x8 x9 am xA 0 T4.heap n0 Pn2__4 Pn4 (if_neg (fun z => (Ne.symm (fun z => hc136 ((lw_eq _ _).mpr z))) z.2.2)).symm) hZ (hw _ (List.mem_of_getElem? (i := 19) rfl)) (hw _ (List.mem_of_getElem? (i := 2) rfl)) (by decide) (by decide)) q14a q14c (g := (mkF m 169 #[.val (.int t), .val (.int gi), .val (.long am), .second, .val (.int dd), .val (.long ee), .second, .val (.int sel), .val (.int x8), .val (.int x9), .val (.long xA), .second, .val (.ref b1), .val (.ref b3), .val (.int (((sel.toUInt32 >>> ((3 : Int32) &&& 31).toUInt32).toInt32) &&& (3 : Int32))), .val (.ref b3), .val (.int (0 : Int32)), .val (.int (1 : Int32))] [(.ref b3), (.ref b1)])) rfl (by rw [hml]; rfl) (Steps.refl _) (argsL := [(.ref b3)]) (rest := []) (lenOf pd_3 rfl) rfl (by show 2 * 0 + _ ≤ _; exact Nat.le_of_eq rfl) (hb hby at_169) (fun _ _ => ⟨rfl, e13, (by decide : 2 + 0 ≤ _), (by decide : 6 + 0 ≤ _)⟩)
            dsimp only [Pt.U, Pt.locs, Pt.cells, Pt.slots] at X14 l14 y14 z14 st14 hQ14
            subst l14 y14 z14
            obtain ⟨rfl, N14q, e14⟩ := hQ14
            have N14 := Fr.app N13 N14q
            refine own_st (fun _ k => st14.trans k) ?_
            show own_Go p.tables e below F (T14.setTop (mkF m 172 #[.val (.int t), .val (.int gi), .val (.long am), .second, .val (.int dd), .val (.long ee), .second, .val (.int sel), .val (.int x8), .val (.int x9), .val (.long xA), .second, .val (.ref b1), .val (.ref b3), .val (.int (((sel.toUInt32 >>> ((3 : Int32) &&& 31).toUInt32).toInt32) &&& (3 : Int32))), .val (.ref b3), .val (.int (0 : Int32)), .val (.int (1 : Int32))] [(.int (0 : Int32))]))
            refine own_st (fun _ k => XS.iload X14.here hx rfl (hb hby at_172) rfl k) ?_
            show own_Go p.tables e below F (T14.setTop (mkF m 174 #[.val (.int t), .val (.int gi), .val (.long am), .second, .val (.int dd), .val (.long ee), .second, .val (.int sel), .val (.int x8), .val (.int x9), .val (.long xA), .second, .val (.ref b1), .val (.ref b3), .val (.int (((sel.toUInt32 >>> ((3 : Int32) &&& 31).toUInt32).toInt32) &&& (3 : Int32))), .val (.ref b3), .val (.int (0 : Int32)), .val (.int (1 : Int32))] [(.int (0 : Int32)), (.int (0 : Int32))]))
            refine own_st (fun _ k => XS.icmpNo X14.here hx rfl (hb hby at_174) rfl (teq (by decide : (0 : Int32) = (0 : Int32))).2 k) ?_
            show own_Go p.tables e below F (T14.setTop (mkF m 177 #[.val (.int t), .val (.int gi), .val (.long am), .second, .val (.int dd), .val (.long ee), .second, .val (.int sel), .val (.int x8), .val (.int x9), .val (.long xA), .second, .val (.ref b1), .val (.ref b3), .val (.int (((sel.toUInt32 >>> ((3 : Int32) &&& 31).toUInt32).toInt32) &&& (3 : Int32))), .val (.ref b3), .val (.int (0 : Int32)), .val (.int (1 : Int32))] []))
            refine own_st (fun _ k => XS.iload X14.here hx rfl (hb hby at_177) rfl k) ?_
            show own_Go p.tables e below F (T14.setTop (mkF m 179 #[.val (.int t), .val (.int gi), .val (.long am), .second, .val (.int dd), .val (.long ee), .second, .val (.int sel), .val (.int x8), .val (.int x9), .val (.long xA), .second, .val (.ref b1), .val (.ref b3), .val (.int (((sel.toUInt32 >>> ((3 : Int32) &&& 31).toUInt32).toInt32) &&& (3 : Int32))), .val (.ref b3), .val (.int (0 : Int32)), .val (.int (1 : Int32))] [(.int (1 : Int32))]))
            refine own_st (fun _ k => XS.ifNo X14.here hx rfl (hb hby at_179) rfl ((if0 _ _).trans (feq (by decide : ¬ ((1 : Int32) = (0 : Int32)))).1) k) ?_
            show own_Go p.tables e below F (T14.setTop (mkF m 182 #[.val (.int t), .val (.int gi), .val (.long am), .second, .val (.int dd), .val (.long ee), .second, .val (.int sel), .val (.int x8), .val (.int x9), .val (.long xA), .second, .val (.ref b1), .val (.ref b3), .val (.int (((sel.toUInt32 >>> ((3 : Int32) &&& 31).toUInt32).toInt32) &&& (3 : Int32))), .val (.ref b3), .val (.int (0 : Int32)), .val (.int (1 : Int32))] []))
            refine own_st (fun _ k => XS.aload X14.here hx rfl (hb hby at_182) rfl rfl k) ?_
            show own_Go p.tables e below F (T14.setTop (mkF m 184 #[.val (.int t), .val (.int gi), .val (.long am), .second, .val (.int dd), .val (.long ee), .second, .val (.int sel), .val (.int x8), .val (.int x9), .val (.long xA), .second, .val (.ref b1), .val (.ref b3), .val (.int (((sel.toUInt32 >>> ((3 : Int32) &&& 31).toUInt32).toInt32) &&& (3 : Int32))), .val (.ref b3), .val (.int (0 : Int32)), .val (.int (1 : Int32))] [(.ref b1)]))
            refine own_st (fun _ k => XS.aload X14.here hx rfl (hb hby at_184) rfl rfl k) ?_
            show own_Go p.tables e below F (T14.setTop (mkF m 186 #[.val (.int t), .val (.int gi), .val (.long am), .second, .val (.int dd), .val (.long ee), .second, .val (.int sel), .val (.int x8), .val (.int x9), .val (.long xA), .second, .val (.ref b1), .val (.ref b3), .val (.int (((sel.toUInt32 >>> ((3 : Int32) &&& 31).toUInt32).toInt32) &&& (3 : Int32))), .val (.ref b3), .val (.int (0 : Int32)), .val (.int (1 : Int32))] [(.ref b1), (.ref b1)]))
            obtain ⟨cq15, kq15, q15a, q15b, q15c⟩ := isOf hZ e14 Pn2__4.1
            obtain ⟨_, _, ⟨T15, L15, k15, n15⟩, -, X15, ⟨Lc15, hQ15, l15, y15, z15⟩, st15⟩ := X14.virtualBack hx (y := (⟨"com/example/dockside/dockside/service/FewestPairings$Pairing", "equals", "(Ljava/lang/Object;)Z"⟩ : MethodName)) (z := (⟨"com/example/dockside/dockside/service/FewestPairings$Pairing", "equals", "(Ljava/lang/Object;)Z"⟩ : MethodName)) hown (mvT hZ (hw _ (List.mem_of_getElem? (i := 15) rfl))) (mvT hZ (hw _ (List.mem_of_getElem? (i := 16) rfl))) (notFace_of_selects (args := #[]) (mvT hZ (hw _ (List.mem_of_getElem? (i := 18) rfl)))) (mvT hZ (hw _ (List.mem_of_getElem? (i := 18) rfl))) (mvT hZ (hw _ (List.mem_of_getElem? (i := 17) rfl))) (by decide) (backOf (W := 0) (own_eqP l Z a0 hw [] b1 b1 t gi t gi am am 1 T4.heap n0 Pn2__4 Pn2__4 (if_pos ⟨rfl, rfl, rfl⟩).symm) hZ (hw _ (List.mem_of_getElem? (i := 19) rfl)) (hw _ (List.mem_of_getElem? (i := 2) rfl)) (by decide) (by decide)) q15a q15c (g := (mkF m 186 #[.val (.int t), .val (.int gi), .val (.long am), .second, .val (.int dd), .val (.long ee), .second, .val (.int sel), .val (.int x8), .val (.int x9), .val (.long xA), .second, .val (.ref b1), .val (.ref b3), .val (.int (((sel.toUInt32 >>> ((3 : Int32) &&& 31).toUInt32).toInt32) &&& (3 : Int32))), .val (.ref b3), .val (.int (0 : Int32)), .val (.int (1 : Int32))] [(.ref b1), (.ref b1)])) rfl (by rw [hml]; rfl) (Steps.refl _) (argsL := [(.ref b1)]) (rest := []) (lenOf pd_3 rfl) rfl (by show 2 * 0 + _ ≤ _; exact Nat.le_of_eq rfl) (hb hby at_186) (fun _ _ => ⟨rfl, e14, (by decide : 2 + 0 ≤ _), (by decide : 6 + 0 ≤ _)⟩)
            dsimp only [Pt.U, Pt.locs, Pt.cells, Pt.slots] at X15 l15 y15 z15 st15 hQ15
            subst l15 y15 z15
            obtain ⟨rfl, N15q, e15⟩ := hQ15
            have N15 := Fr.app N14 N15q
            refine own_st (fun _ k => st15.trans k) ?_
            show own_Go p.tables e below F (T15.setTop (mkF m 189 #[.val (.int t), .val (.int gi), .val (.long am), .second, .val (.int dd), .val (.long ee), .second, .val (.int sel), .val (.int x8), .val (.int x9), .val (.long xA), .second, .val (.ref b1), .val (.ref b3), .val (.int (((sel.toUInt32 >>> ((3 : Int32) &&& 31).toUInt32).toInt32) &&& (3 : Int32))), .val (.ref b3), .val (.int (0 : Int32)), .val (.int (1 : Int32))] [(.int (1 : Int32))]))
            refine own_st (fun _ k => XS.ifNo X15.here hx rfl (hb hby at_189) rfl ((if0 _ _).trans (feq (by decide : ¬ ((1 : Int32) = (0 : Int32)))).1) k) ?_
            show own_Go p.tables e below F (T15.setTop (mkF m 192 #[.val (.int t), .val (.int gi), .val (.long am), .second, .val (.int dd), .val (.long ee), .second, .val (.int sel), .val (.int x8), .val (.int x9), .val (.long xA), .second, .val (.ref b1), .val (.ref b3), .val (.int (((sel.toUInt32 >>> ((3 : Int32) &&& 31).toUInt32).toInt32) &&& (3 : Int32))), .val (.ref b3), .val (.int (0 : Int32)), .val (.int (1 : Int32))] []))
            refine own_st (fun _ k => XS.iconst X15.here hx rfl (hb hby at_192) k) ?_
            show own_Go p.tables e below F (T15.setTop (mkF m 193 #[.val (.int t), .val (.int gi), .val (.long am), .second, .val (.int dd), .val (.long ee), .second, .val (.int sel), .val (.int x8), .val (.int x9), .val (.long xA), .second, .val (.ref b1), .val (.ref b3), .val (.int (((sel.toUInt32 >>> ((3 : Int32) &&& 31).toUInt32).toInt32) &&& (3 : Int32))), .val (.ref b3), .val (.int (0 : Int32)), .val (.int (1 : Int32))] [(.int (1 : Int32))]))
            refine own_st (fun _ k => XS.goto X15.here hx rfl (pc0 := 193) (pc' := 197) rfl (hb hby at_193) (by decide) (by decide) k) ?_
            show own_Go p.tables e below F (T15.setTop (mkF m 197 #[.val (.int t), .val (.int gi), .val (.long am), .second, .val (.int dd), .val (.long ee), .second, .val (.int sel), .val (.int x8), .val (.int x9), .val (.long xA), .second, .val (.ref b1), .val (.ref b3), .val (.int (((sel.toUInt32 >>> ((3 : Int32) &&& 31).toUInt32).toInt32) &&& (3 : Int32))), .val (.ref b3), .val (.int (0 : Int32)), .val (.int (1 : Int32))] [(.int (1 : Int32))]))
            obtain ⟨fs, hrL, hrun, hended, hW, hsame⟩ := X15.leave (v := some (.int (1 : Int32))) (fun h => by rw [Bd.returns] at h; cases h)
            refine own_end hF (o := .returned (some (.int (1 : Int32)))) (retN X15 hx (t := .boolean) Bd.returns (by simp) (hb hby at_197) hrL) ?_
            refine ⟨hrun, hended, _, _, rfl, ?_, ⟨_, rfl⟩, hW, hsame.mono (by decide) (by decide)⟩
            exact ⟨rfl, N15⟩
        ·
          refine own_st (fun _ k => XS.icmpYes X4.here hx rfl (pc0 := 129) (pc' := 143) rfl (hb hby at_129) rfl (feq hc129).2 (by decide) (by decide) k) ?_
          show own_Go p.tables e below F (T4.setTop (mkF m 143 #[.val (.int t), .val (.int gi), .val (.long am), .second, .val (.int dd), .val (.long ee), .second, .val (.int sel), .val (.int x8), .val (.int x9), .val (.long xA), .second, .val (.ref b1), .val (.ref b3), .val (.int (((sel.toUInt32 >>> ((3 : Int32) &&& 31).toUInt32).toInt32) &&& (3 : Int32))), .val (.ref b3), .unset, .val (.int (1 : Int32))] []))
          refine own_st (fun _ k => XS.iconst X4.here hx rfl (hb hby at_143) k) ?_
          show own_Go p.tables e below F (T4.setTop (mkF m 144 #[.val (.int t), .val (.int gi), .val (.long am), .second, .val (.int dd), .val (.long ee), .second, .val (.int sel), .val (.int x8), .val (.int x9), .val (.long xA), .second, .val (.ref b1), .val (.ref b3), .val (.int (((sel.toUInt32 >>> ((3 : Int32) &&& 31).toUInt32).toInt32) &&& (3 : Int32))), .val (.ref b3), .unset, .val (.int (1 : Int32))] [(.int (0 : Int32))]))
          refine own_st (fun _ k => XS.istore X4.here hx rfl (hb hby at_144) rfl (l' := #[.val (.int t), .val (.int gi), .val (.long am), .second, .val (.int dd), .val (.long ee), .second, .val (.int sel), .val (.int x8), .val (.int x9), .val (.long xA), .second, .val (.ref b1), .val (.ref b3), .val (.int (((sel.toUInt32 >>> ((3 : Int32) &&& 31).toUInt32).toInt32) &&& (3 : Int32))), .val (.ref b3), .val (.int (0 : Int32)), .val (.int (1 : Int32))]) rfl k) ?_
          show own_Go p.tables e below F (T4.setTop (mkF m 146 #[.val (.int t), .val (.int gi), .val (.long am), .second, .val (.int dd), .val (.long ee), .second, .val (.int sel), .val (.int x8), .val (.int x9), .val (.long xA), .second, .val (.ref b1), .val (.ref b3), .val (.int (((sel.toUInt32 >>> ((3 : Int32) &&& 31).toUInt32).toInt32) &&& (3 : Int32))), .val (.ref b3), .val (.int (0 : Int32)), .val (.int (1 : Int32))] []))
          refine own_st (fun _ k => XS.aload X4.here hx rfl (hb hby at_146) rfl rfl k) ?_
          show own_Go p.tables e below F (T4.setTop (mkF m 148 #[.val (.int t), .val (.int gi), .val (.long am), .second, .val (.int dd), .val (.long ee), .second, .val (.int sel), .val (.int x8), .val (.int x9), .val (.long xA), .second, .val (.ref b1), .val (.ref b3), .val (.int (((sel.toUInt32 >>> ((3 : Int32) &&& 31).toUInt32).toInt32) &&& (3 : Int32))), .val (.ref b3), .val (.int (0 : Int32)), .val (.int (1 : Int32))] [(.ref b3)]))
          refine own_st (fun _ k => XS.aload X4.here hx rfl (hb hby at_148) rfl rfl k) ?_
          show own_Go p.tables e below F (T4.setTop (mkF m 150 #[.val (.int t), .val (.int gi), .val (.long am), .second, .val (.int dd), .val (.long ee), .second, .val (.int sel), .val (.int x8), .val (.int x9), .val (.long xA), .second, .val (.ref b1), .val (.ref b3), .val (.int (((sel.toUInt32 >>> ((3 : Int32) &&& 31).toUInt32).toInt32) &&& (3 : Int32))), .val (.ref b3), .val (.int (0 : Int32)), .val (.int (1 : Int32))] [(.ref b1), (.ref b3)]))
          obtain ⟨cq16, kq16, q16a, q16b, q16c⟩ := isOf hZ rfl Pn4.1
          obtain ⟨_, _, ⟨T16, L16, k16, n16⟩, -, X16, ⟨Lc16, hQ16, l16, y16, z16⟩, st16⟩ := X4.virtualBack hx (y := (⟨"com/example/dockside/dockside/service/FewestPairings$Pairing", "equals", "(Ljava/lang/Object;)Z"⟩ : MethodName)) (z := (⟨"com/example/dockside/dockside/service/FewestPairings$Pairing", "equals", "(Ljava/lang/Object;)Z"⟩ : MethodName)) hown (mvT hZ (hw _ (List.mem_of_getElem? (i := 15) rfl))) (mvT hZ (hw _ (List.mem_of_getElem? (i := 16) rfl))) (notFace_of_selects (args := #[]) (mvT hZ (hw _ (List.mem_of_getElem? (i := 18) rfl)))) (mvT hZ (hw _ (List.mem_of_getElem? (i := 18) rfl))) (mvT hZ (hw _ (List.mem_of_getElem? (i := 17) rfl))) (by decide) (backOf (W := 0) (own_eqP l Z a0 hw [] b3 b1 x8 x9 t gi xA am 0 T4.heap n0 Pn4 Pn2__4 (if_neg (fun z => hc129 z.2.1)).symm) hZ (hw _ (List.mem_of_getElem? (i := 19) rfl)) (hw _ (List.mem_of_getElem? (i := 2) rfl)) (by decide) (by decide)) q16a q16c (g := (mkF m 150 #[.val (.int t), .val (.int gi), .val (.long am), .second, .val (.int dd), .val (.long ee), .second, .val (.int sel), .val (.int x8), .val (.int x9), .val (.long xA), .second, .val (.ref b1), .val (.ref b3), .val (.int (((sel.toUInt32 >>> ((3 : Int32) &&& 31).toUInt32).toInt32) &&& (3 : Int32))), .val (.ref b3), .val (.int (0 : Int32)), .val (.int (1 : Int32))] [(.ref b1), (.ref b3)])) rfl (by rw [hml]; rfl) (Steps.refl _) (argsL := [(.ref b1)]) (rest := []) (lenOf pd_3 rfl) rfl (by show 2 * 0 + _ ≤ _; exact Nat.le_of_eq rfl) (hb hby at_150) (fun _ _ => ⟨rfl, rfl, (by decide : 2 + 0 ≤ _), (by decide : 6 + 0 ≤ _)⟩)
          dsimp only [Pt.U, Pt.locs, Pt.cells, Pt.slots] at X16 l16 y16 z16 st16 hQ16
          subst l16 y16 z16
          obtain ⟨rfl, N16q, e16⟩ := hQ16
          have N16 := Fr.app N4 N16q
          refine own_st (fun _ k => st16.trans k) ?_
          show own_Go p.tables e below F (T16.setTop (mkF m 153 #[.val (.int t), .val (.int gi), .val (.long am), .second, .val (.int dd), .val (.long ee), .second, .val (.int sel), .val (.int x8), .val (.int x9), .val (.long xA), .second, .val (.ref b1), .val (.ref b3), .val (.int (((sel.toUInt32 >>> ((3 : Int32) &&& 31).toUInt32).toInt32) &&& (3 : Int32))), .val (.ref b3), .val (.int (0 : Int32)), .val (.int (1 : Int32))] [(.int (0 : Int32))]))
          refine own_st (fun _ k => XS.iload X16.here hx rfl (hb hby at_153) rfl k) ?_
          show own_Go p.tables e below F (T16.setTop (mkF m 155 #[.val (.int t), .val (.int gi), .val (.long am), .second, .val (.int dd), .val (.long ee), .second, .val (.int sel), .val (.int x8), .val (.int x9), .val (.long xA), .second, .val (.ref b1), .val (.ref b3), .val (.int (((sel.toUInt32 >>> ((3 : Int32) &&& 31).toUInt32).toInt32) &&& (3 : Int32))), .val (.ref b3), .val (.int (0 : Int32)), .val (.int (1 : Int32))] [(.int (0 : Int32)), (.int (0 : Int32))]))
          refine own_st (fun _ k => XS.icmpNo X16.here hx rfl (hb hby at_155) rfl (teq (by decide : (0 : Int32) = (0 : Int32))).2 k) ?_
          show own_Go p.tables e below F (T16.setTop (mkF m 158 #[.val (.int t), .val (.int gi), .val (.long am), .second, .val (.int dd), .val (.long ee), .second, .val (.int sel), .val (.int x8), .val (.int x9), .val (.long xA), .second, .val (.ref b1), .val (.ref b3), .val (.int (((sel.toUInt32 >>> ((3 : Int32) &&& 31).toUInt32).toInt32) &&& (3 : Int32))), .val (.ref b3), .val (.int (0 : Int32)), .val (.int (1 : Int32))] []))
          refine own_st (fun _ k => XS.iconst X16.here hx rfl (hb hby at_158) k) ?_
          show own_Go p.tables e below F (T16.setTop (mkF m 159 #[.val (.int t), .val (.int gi), .val (.long am), .second, .val (.int dd), .val (.long ee), .second, .val (.int sel), .val (.int x8), .val (.int x9), .val (.long xA), .second, .val (.ref b1), .val (.ref b3), .val (.int (((sel.toUInt32 >>> ((3 : Int32) &&& 31).toUInt32).toInt32) &&& (3 : Int32))), .val (.ref b3), .val (.int (0 : Int32)), .val (.int (1 : Int32))] [(.int (1 : Int32))]))
          refine own_st (fun _ k => XS.goto X16.here hx rfl (pc0 := 159) (pc' := 163) rfl (hb hby at_159) (by decide) (by decide) k) ?_
          show own_Go p.tables e below F (T16.setTop (mkF m 163 #[.val (.int t), .val (.int gi), .val (.long am), .second, .val (.int dd), .val (.long ee), .second, .val (.int sel), .val (.int x8), .val (.int x9), .val (.long xA), .second, .val (.ref b1), .val (.ref b3), .val (.int (((sel.toUInt32 >>> ((3 : Int32) &&& 31).toUInt32).toInt32) &&& (3 : Int32))), .val (.ref b3), .val (.int (0 : Int32)), .val (.int (1 : Int32))] [(.int (1 : Int32))]))
          refine own_st (fun _ k => XS.istore X16.here hx rfl (hb hby at_163) rfl (l' := #[.val (.int t), .val (.int gi), .val (.long am), .second, .val (.int dd), .val (.long ee), .second, .val (.int sel), .val (.int x8), .val (.int x9), .val (.long xA), .second, .val (.ref b1), .val (.ref b3), .val (.int (((sel.toUInt32 >>> ((3 : Int32) &&& 31).toUInt32).toInt32) &&& (3 : Int32))), .val (.ref b3), .val (.int (0 : Int32)), .val (.int (1 : Int32))]) rfl k) ?_
          show own_Go p.tables e below F (T16.setTop (mkF m 165 #[.val (.int t), .val (.int gi), .val (.long am), .second, .val (.int dd), .val (.long ee), .second, .val (.int sel), .val (.int x8), .val (.int x9), .val (.long xA), .second, .val (.ref b1), .val (.ref b3), .val (.int (((sel.toUInt32 >>> ((3 : Int32) &&& 31).toUInt32).toInt32) &&& (3 : Int32))), .val (.ref b3), .val (.int (0 : Int32)), .val (.int (1 : Int32))] []))
          refine own_st (fun _ k => XS.aload X16.here hx rfl (hb hby at_165) rfl rfl k) ?_
          show own_Go p.tables e below F (T16.setTop (mkF m 167 #[.val (.int t), .val (.int gi), .val (.long am), .second, .val (.int dd), .val (.long ee), .second, .val (.int sel), .val (.int x8), .val (.int x9), .val (.long xA), .second, .val (.ref b1), .val (.ref b3), .val (.int (((sel.toUInt32 >>> ((3 : Int32) &&& 31).toUInt32).toInt32) &&& (3 : Int32))), .val (.ref b3), .val (.int (0 : Int32)), .val (.int (1 : Int32))] [(.ref b1)]))
          refine own_st (fun _ k => XS.aload X16.here hx rfl (hb hby at_167) rfl rfl k) ?_
          show own_Go p.tables e below F (T16.setTop (mkF m 169 #[.val (.int t), .val (.int gi), .val (.long am), .second, .val (.int dd), .val (.long ee), .second, .val (.int sel), .val (.int x8), .val (.int x9), .val (.long xA), .second, .val (.ref b1), .val (.ref b3), .val (.int (((sel.toUInt32 >>> ((3 : Int32) &&& 31).toUInt32).toInt32) &&& (3 : Int32))), .val (.ref b3), .val (.int (0 : Int32)), .val (.int (1 : Int32))] [(.ref b3), (.ref b1)]))
          obtain ⟨cq17, kq17, q17a, q17b, q17c⟩ := isOf hZ e16 Pn2__4.1
          obtain ⟨_, _, ⟨T17, L17, k17, n17⟩, -, X17, ⟨Lc17, hQ17, l17, y17, z17⟩, st17⟩ := X16.virtualBack hx (y := (⟨"com/example/dockside/dockside/service/FewestPairings$Pairing", "equals", "(Ljava/lang/Object;)Z"⟩ : MethodName)) (z := (⟨"com/example/dockside/dockside/service/FewestPairings$Pairing", "equals", "(Ljava/lang/Object;)Z"⟩ : MethodName)) hown (mvT hZ (hw _ (List.mem_of_getElem? (i := 15) rfl))) (mvT hZ (hw _ (List.mem_of_getElem? (i := 16) rfl))) (notFace_of_selects (args := #[]) (mvT hZ (hw _ (List.mem_of_getElem? (i := 18) rfl)))) (mvT hZ (hw _ (List.mem_of_getElem? (i := 18) rfl))) (mvT hZ (hw _ (List.mem_of_getElem? (i := 17) rfl))) (by decide) (backOf (W := 0) (own_eqP l Z a0 hw [] b1 b3 t gi x8 x9 am xA 0 T4.heap n0 Pn2__4 Pn4 (if_neg (fun z => (Ne.symm hc129) z.2.1)).symm) hZ (hw _ (List.mem_of_getElem? (i := 19) rfl)) (hw _ (List.mem_of_getElem? (i := 2) rfl)) (by decide) (by decide)) q17a q17c (g := (mkF m 169 #[.val (.int t), .val (.int gi), .val (.long am), .second, .val (.int dd), .val (.long ee), .second, .val (.int sel), .val (.int x8), .val (.int x9), .val (.long xA), .second, .val (.ref b1), .val (.ref b3), .val (.int (((sel.toUInt32 >>> ((3 : Int32) &&& 31).toUInt32).toInt32) &&& (3 : Int32))), .val (.ref b3), .val (.int (0 : Int32)), .val (.int (1 : Int32))] [(.ref b3), (.ref b1)])) rfl (by rw [hml]; rfl) (Steps.refl _) (argsL := [(.ref b3)]) (rest := []) (lenOf pd_3 rfl) rfl (by show 2 * 0 + _ ≤ _; exact Nat.le_of_eq rfl) (hb hby at_169) (fun _ _ => ⟨rfl, e16, (by decide : 2 + 0 ≤ _), (by decide : 6 + 0 ≤ _)⟩)
          dsimp only [Pt.U, Pt.locs, Pt.cells, Pt.slots] at X17 l17 y17 z17 st17 hQ17
          subst l17 y17 z17
          obtain ⟨rfl, N17q, e17⟩ := hQ17
          have N17 := Fr.app N16 N17q
          refine own_st (fun _ k => st17.trans k) ?_
          show own_Go p.tables e below F (T17.setTop (mkF m 172 #[.val (.int t), .val (.int gi), .val (.long am), .second, .val (.int dd), .val (.long ee), .second, .val (.int sel), .val (.int x8), .val (.int x9), .val (.long xA), .second, .val (.ref b1), .val (.ref b3), .val (.int (((sel.toUInt32 >>> ((3 : Int32) &&& 31).toUInt32).toInt32) &&& (3 : Int32))), .val (.ref b3), .val (.int (0 : Int32)), .val (.int (1 : Int32))] [(.int (0 : Int32))]))
          refine own_st (fun _ k => XS.iload X17.here hx rfl (hb hby at_172) rfl k) ?_
          show own_Go p.tables e below F (T17.setTop (mkF m 174 #[.val (.int t), .val (.int gi), .val (.long am), .second, .val (.int dd), .val (.long ee), .second, .val (.int sel), .val (.int x8), .val (.int x9), .val (.long xA), .second, .val (.ref b1), .val (.ref b3), .val (.int (((sel.toUInt32 >>> ((3 : Int32) &&& 31).toUInt32).toInt32) &&& (3 : Int32))), .val (.ref b3), .val (.int (0 : Int32)), .val (.int (1 : Int32))] [(.int (0 : Int32)), (.int (0 : Int32))]))
          refine own_st (fun _ k => XS.icmpNo X17.here hx rfl (hb hby at_174) rfl (teq (by decide : (0 : Int32) = (0 : Int32))).2 k) ?_
          show own_Go p.tables e below F (T17.setTop (mkF m 177 #[.val (.int t), .val (.int gi), .val (.long am), .second, .val (.int dd), .val (.long ee), .second, .val (.int sel), .val (.int x8), .val (.int x9), .val (.long xA), .second, .val (.ref b1), .val (.ref b3), .val (.int (((sel.toUInt32 >>> ((3 : Int32) &&& 31).toUInt32).toInt32) &&& (3 : Int32))), .val (.ref b3), .val (.int (0 : Int32)), .val (.int (1 : Int32))] []))
          refine own_st (fun _ k => XS.iload X17.here hx rfl (hb hby at_177) rfl k) ?_
          show own_Go p.tables e below F (T17.setTop (mkF m 179 #[.val (.int t), .val (.int gi), .val (.long am), .second, .val (.int dd), .val (.long ee), .second, .val (.int sel), .val (.int x8), .val (.int x9), .val (.long xA), .second, .val (.ref b1), .val (.ref b3), .val (.int (((sel.toUInt32 >>> ((3 : Int32) &&& 31).toUInt32).toInt32) &&& (3 : Int32))), .val (.ref b3), .val (.int (0 : Int32)), .val (.int (1 : Int32))] [(.int (1 : Int32))]))
          refine own_st (fun _ k => XS.ifNo X17.here hx rfl (hb hby at_179) rfl ((if0 _ _).trans (feq (by decide : ¬ ((1 : Int32) = (0 : Int32)))).1) k) ?_
          show own_Go p.tables e below F (T17.setTop (mkF m 182 #[.val (.int t), .val (.int gi), .val (.long am), .second, .val (.int dd), .val (.long ee), .second, .val (.int sel), .val (.int x8), .val (.int x9), .val (.long xA), .second, .val (.ref b1), .val (.ref b3), .val (.int (((sel.toUInt32 >>> ((3 : Int32) &&& 31).toUInt32).toInt32) &&& (3 : Int32))), .val (.ref b3), .val (.int (0 : Int32)), .val (.int (1 : Int32))] []))
          refine own_st (fun _ k => XS.aload X17.here hx rfl (hb hby at_182) rfl rfl k) ?_
          show own_Go p.tables e below F (T17.setTop (mkF m 184 #[.val (.int t), .val (.int gi), .val (.long am), .second, .val (.int dd), .val (.long ee), .second, .val (.int sel), .val (.int x8), .val (.int x9), .val (.long xA), .second, .val (.ref b1), .val (.ref b3), .val (.int (((sel.toUInt32 >>> ((3 : Int32) &&& 31).toUInt32).toInt32) &&& (3 : Int32))), .val (.ref b3), .val (.int (0 : Int32)), .val (.int (1 : Int32))] [(.ref b1)]))
          refine own_st (fun _ k => XS.aload X17.here hx rfl (hb hby at_184) rfl rfl k) ?_
          show own_Go p.tables e below F (T17.setTop (mkF m 186 #[.val (.int t), .val (.int gi), .val (.long am), .second, .val (.int dd), .val (.long ee), .second, .val (.int sel), .val (.int x8), .val (.int x9), .val (.long xA), .second, .val (.ref b1), .val (.ref b3), .val (.int (((sel.toUInt32 >>> ((3 : Int32) &&& 31).toUInt32).toInt32) &&& (3 : Int32))), .val (.ref b3), .val (.int (0 : Int32)), .val (.int (1 : Int32))] [(.ref b1), (.ref b1)]))
          obtain ⟨cq18, kq18, q18a, q18b, q18c⟩ := isOf hZ e17 Pn2__4.1
          obtain ⟨_, _, ⟨T18, L18, k18, n18⟩, -, X18, ⟨Lc18, hQ18, l18, y18, z18⟩, st18⟩ := X17.virtualBack hx (y := (⟨"com/example/dockside/dockside/service/FewestPairings$Pairing", "equals", "(Ljava/lang/Object;)Z"⟩ : MethodName)) (z := (⟨"com/example/dockside/dockside/service/FewestPairings$Pairing", "equals", "(Ljava/lang/Object;)Z"⟩ : MethodName)) hown (mvT hZ (hw _ (List.mem_of_getElem? (i := 15) rfl))) (mvT hZ (hw _ (List.mem_of_getElem? (i := 16) rfl))) (notFace_of_selects (args := #[]) (mvT hZ (hw _ (List.mem_of_getElem? (i := 18) rfl)))) (mvT hZ (hw _ (List.mem_of_getElem? (i := 18) rfl))) (mvT hZ (hw _ (List.mem_of_getElem? (i := 17) rfl))) (by decide) (backOf (W := 0) (own_eqP l Z a0 hw [] b1 b1 t gi t gi am am 1 T4.heap n0 Pn2__4 Pn2__4 (if_pos ⟨rfl, rfl, rfl⟩).symm) hZ (hw _ (List.mem_of_getElem? (i := 19) rfl)) (hw _ (List.mem_of_getElem? (i := 2) rfl)) (by decide) (by decide)) q18a q18c (g := (mkF m 186 #[.val (.int t), .val (.int gi), .val (.long am), .second, .val (.int dd), .val (.long ee), .second, .val (.int sel), .val (.int x8), .val (.int x9), .val (.long xA), .second, .val (.ref b1), .val (.ref b3), .val (.int (((sel.toUInt32 >>> ((3 : Int32) &&& 31).toUInt32).toInt32) &&& (3 : Int32))), .val (.ref b3), .val (.int (0 : Int32)), .val (.int (1 : Int32))] [(.ref b1), (.ref b1)])) rfl (by rw [hml]; rfl) (Steps.refl _) (argsL := [(.ref b1)]) (rest := []) (lenOf pd_3 rfl) rfl (by show 2 * 0 + _ ≤ _; exact Nat.le_of_eq rfl) (hb hby at_186) (fun _ _ => ⟨rfl, e17, (by decide : 2 + 0 ≤ _), (by decide : 6 + 0 ≤ _)⟩)
          dsimp only [Pt.U, Pt.locs, Pt.cells, Pt.slots] at X18 l18 y18 z18 st18 hQ18
          subst l18 y18 z18
          obtain ⟨rfl, N18q, e18⟩ := hQ18
          have N18 := Fr.app N17 N18q
          refine own_st (fun _ k => st18.trans k) ?_
          show own_Go p.tables e below F (T18.setTop (mkF m 189 #[.val (.int t), .val (.int gi), .val (.long am), .second, .val (.int dd), .val (.long ee), .second, .val (.int sel), .val (.int x8), .val (.int x9), .val (.long xA), .second, .val (.ref b1), .val (.ref b3), .val (.int (((sel.toUInt32 >>> ((3 : Int32) &&& 31).toUInt32).toInt32) &&& (3 : Int32))), .val (.ref b3), .val (.int (0 : Int32)), .val (.int (1 : Int32))] [(.int (1 : Int32))]))
          refine own_st (fun _ k => XS.ifNo X18.here hx rfl (hb hby at_189) rfl ((if0 _ _).trans (feq (by decide : ¬ ((1 : Int32) = (0 : Int32)))).1) k) ?_
          show own_Go p.tables e below F (T18.setTop (mkF m 192 #[.val (.int t), .val (.int gi), .val (.long am), .second, .val (.int dd), .val (.long ee), .second, .val (.int sel), .val (.int x8), .val (.int x9), .val (.long xA), .second, .val (.ref b1), .val (.ref b3), .val (.int (((sel.toUInt32 >>> ((3 : Int32) &&& 31).toUInt32).toInt32) &&& (3 : Int32))), .val (.ref b3), .val (.int (0 : Int32)), .val (.int (1 : Int32))] []))
          refine own_st (fun _ k => XS.iconst X18.here hx rfl (hb hby at_192) k) ?_
          show own_Go p.tables e below F (T18.setTop (mkF m 193 #[.val (.int t), .val (.int gi), .val (.long am), .second, .val (.int dd), .val (.long ee), .second, .val (.int sel), .val (.int x8), .val (.int x9), .val (.long xA), .second, .val (.ref b1), .val (.ref b3), .val (.int (((sel.toUInt32 >>> ((3 : Int32) &&& 31).toUInt32).toInt32) &&& (3 : Int32))), .val (.ref b3), .val (.int (0 : Int32)), .val (.int (1 : Int32))] [(.int (1 : Int32))]))
          refine own_st (fun _ k => XS.goto X18.here hx rfl (pc0 := 193) (pc' := 197) rfl (hb hby at_193) (by decide) (by decide) k) ?_
          show own_Go p.tables e below F (T18.setTop (mkF m 197 #[.val (.int t), .val (.int gi), .val (.long am), .second, .val (.int dd), .val (.long ee), .second, .val (.int sel), .val (.int x8), .val (.int x9), .val (.long xA), .second, .val (.ref b1), .val (.ref b3), .val (.int (((sel.toUInt32 >>> ((3 : Int32) &&& 31).toUInt32).toInt32) &&& (3 : Int32))), .val (.ref b3), .val (.int (0 : Int32)), .val (.int (1 : Int32))] [(.int (1 : Int32))]))
          obtain ⟨fs, hrL, hrun, hended, hW, hsame⟩ := X18.leave (v := some (.int (1 : Int32))) (fun h => by rw [Bd.returns] at h; cases h)
          refine own_end hF (o := .returned (some (.int (1 : Int32)))) (retN X18 hx (t := .boolean) Bd.returns (by simp) (hb hby at_197) hrL) ?_
          refine ⟨hrun, hended, _, _, rfl, ?_, ⟨_, rfl⟩, hW, hsame.mono (by decide) (by decide)⟩
          exact ⟨rfl, N18⟩
      ·
        refine own_st (fun _ k => XS.icmpYes X4.here hx rfl (pc0 := 123) (pc' := 143) rfl (hb hby at_123) rfl (feq hc123).2 (by decide) (by decide) k) ?_
        show own_Go p.tables e below F (T4.setTop (mkF m 143 #[.val (.int t), .val (.int gi), .val (.long am), .second, .val (.int dd), .val (.long ee), .second, .val (.int sel), .val (.int x8), .val (.int x9), .val (.long xA), .second, .val (.ref b1), .val (.ref b3), .val (.int (((sel.toUInt32 >>> ((3 : Int32) &&& 31).toUInt32).toInt32) &&& (3 : Int32))), .val (.ref b3), .unset, .val (.int (1 : Int32))] []))
        refine own_st (fun _ k => XS.iconst X4.here hx rfl (hb hby at_143) k) ?_
        show own_Go p.tables e below F (T4.setTop (mkF m 144 #[.val (.int t), .val (.int gi), .val (.long am), .second, .val (.int dd), .val (.long ee), .second, .val (.int sel), .val (.int x8), .val (.int x9), .val (.long xA), .second, .val (.ref b1), .val (.ref b3), .val (.int (((sel.toUInt32 >>> ((3 : Int32) &&& 31).toUInt32).toInt32) &&& (3 : Int32))), .val (.ref b3), .unset, .val (.int (1 : Int32))] [(.int (0 : Int32))]))
        refine own_st (fun _ k => XS.istore X4.here hx rfl (hb hby at_144) rfl (l' := #[.val (.int t), .val (.int gi), .val (.long am), .second, .val (.int dd), .val (.long ee), .second, .val (.int sel), .val (.int x8), .val (.int x9), .val (.long xA), .second, .val (.ref b1), .val (.ref b3), .val (.int (((sel.toUInt32 >>> ((3 : Int32) &&& 31).toUInt32).toInt32) &&& (3 : Int32))), .val (.ref b3), .val (.int (0 : Int32)), .val (.int (1 : Int32))]) rfl k) ?_
        show own_Go p.tables e below F (T4.setTop (mkF m 146 #[.val (.int t), .val (.int gi), .val (.long am), .second, .val (.int dd), .val (.long ee), .second, .val (.int sel), .val (.int x8), .val (.int x9), .val (.long xA), .second, .val (.ref b1), .val (.ref b3), .val (.int (((sel.toUInt32 >>> ((3 : Int32) &&& 31).toUInt32).toInt32) &&& (3 : Int32))), .val (.ref b3), .val (.int (0 : Int32)), .val (.int (1 : Int32))] []))
        refine own_st (fun _ k => XS.aload X4.here hx rfl (hb hby at_146) rfl rfl k) ?_
        show own_Go p.tables e below F (T4.setTop (mkF m 148 #[.val (.int t), .val (.int gi), .val (.long am), .second, .val (.int dd), .val (.long ee), .second, .val (.int sel), .val (.int x8), .val (.int x9), .val (.long xA), .second, .val (.ref b1), .val (.ref b3), .val (.int (((sel.toUInt32 >>> ((3 : Int32) &&& 31).toUInt32).toInt32) &&& (3 : Int32))), .val (.ref b3), .val (.int (0 : Int32)), .val (.int (1 : Int32))] [(.ref b3)]))
        refine own_st (fun _ k => XS.aload X4.here hx rfl (hb hby at_148) rfl rfl k) ?_
        show own_Go p.tables e below F (T4.setTop (mkF m 150 #[.val (.int t), .val (.int gi), .val (.long am), .second, .val (.int dd), .val (.long ee), .second, .val (.int sel), .val (.int x8), .val (.int x9), .val (.long xA), .second, .val (.ref b1), .val (.ref b3), .val (.int (((sel.toUInt32 >>> ((3 : Int32) &&& 31).toUInt32).toInt32) &&& (3 : Int32))), .val (.ref b3), .val (.int (0 : Int32)), .val (.int (1 : Int32))] [(.ref b1), (.ref b3)]))
        obtain ⟨cq19, kq19, q19a, q19b, q19c⟩ := isOf hZ rfl Pn4.1
        obtain ⟨_, _, ⟨T19, L19, k19, n19⟩, -, X19, ⟨Lc19, hQ19, l19, y19, z19⟩, st19⟩ := X4.virtualBack hx (y := (⟨"com/example/dockside/dockside/service/FewestPairings$Pairing", "equals", "(Ljava/lang/Object;)Z"⟩ : MethodName)) (z := (⟨"com/example/dockside/dockside/service/FewestPairings$Pairing", "equals", "(Ljava/lang/Object;)Z"⟩ : MethodName)) hown (mvT hZ (hw _ (List.mem_of_getElem? (i := 15) rfl))) (mvT hZ (hw _ (List.mem_of_getElem? (i := 16) rfl))) (notFace_of_selects (args := #[]) (mvT hZ (hw _ (List.mem_of_getElem? (i := 18) rfl)))) (mvT hZ (hw _ (List.mem_of_getElem? (i := 18) rfl))) (mvT hZ (hw _ (List.mem_of_getElem? (i := 17) rfl))) (by decide) (backOf (W := 0) (own_eqP l Z a0 hw [] b3 b1 x8 x9 t gi xA am 0 T4.heap n0 Pn4 Pn2__4 (if_neg (fun z => hc123 z.1)).symm) hZ (hw _ (List.mem_of_getElem? (i := 19) rfl)) (hw _ (List.mem_of_getElem? (i := 2) rfl)) (by decide) (by decide)) q19a q19c (g := (mkF m 150 #[.val (.int t), .val (.int gi), .val (.long am), .second, .val (.int dd), .val (.long ee), .second, .val (.int sel), .val (.int x8), .val (.int x9), .val (.long xA), .second, .val (.ref b1), .val (.ref b3), .val (.int (((sel.toUInt32 >>> ((3 : Int32) &&& 31).toUInt32).toInt32) &&& (3 : Int32))), .val (.ref b3), .val (.int (0 : Int32)), .val (.int (1 : Int32))] [(.ref b1), (.ref b3)])) rfl (by rw [hml]; rfl) (Steps.refl _) (argsL := [(.ref b1)]) (rest := []) (lenOf pd_3 rfl) rfl (by show 2 * 0 + _ ≤ _; exact Nat.le_of_eq rfl) (hb hby at_150) (fun _ _ => ⟨rfl, rfl, (by decide : 2 + 0 ≤ _), (by decide : 6 + 0 ≤ _)⟩)
        dsimp only [Pt.U, Pt.locs, Pt.cells, Pt.slots] at X19 l19 y19 z19 st19 hQ19
        subst l19 y19 z19
        obtain ⟨rfl, N19q, e19⟩ := hQ19
        have N19 := Fr.app N4 N19q
        refine own_st (fun _ k => st19.trans k) ?_
        show own_Go p.tables e below F (T19.setTop (mkF m 153 #[.val (.int t), .val (.int gi), .val (.long am), .second, .val (.int dd), .val (.long ee), .second, .val (.int sel), .val (.int x8), .val (.int x9), .val (.long xA), .second, .val (.ref b1), .val (.ref b3), .val (.int (((sel.toUInt32 >>> ((3 : Int32) &&& 31).toUInt32).toInt32) &&& (3 : Int32))), .val (.ref b3), .val (.int (0 : Int32)), .val (.int (1 : Int32))] [(.int (0 : Int32))]))
        refine own_st (fun _ k => XS.iload X19.here hx rfl (hb hby at_153) rfl k) ?_
        show own_Go p.tables e below F (T19.setTop (mkF m 155 #[.val (.int t), .val (.int gi), .val (.long am), .second, .val (.int dd), .val (.long ee), .second, .val (.int sel), .val (.int x8), .val (.int x9), .val (.long xA), .second, .val (.ref b1), .val (.ref b3), .val (.int (((sel.toUInt32 >>> ((3 : Int32) &&& 31).toUInt32).toInt32) &&& (3 : Int32))), .val (.ref b3), .val (.int (0 : Int32)), .val (.int (1 : Int32))] [(.int (0 : Int32)), (.int (0 : Int32))]))
        refine own_st (fun _ k => XS.icmpNo X19.here hx rfl (hb hby at_155) rfl (teq (by decide : (0 : Int32) = (0 : Int32))).2 k) ?_
        show own_Go p.tables e below F (T19.setTop (mkF m 158 #[.val (.int t), .val (.int gi), .val (.long am), .second, .val (.int dd), .val (.long ee), .second, .val (.int sel), .val (.int x8), .val (.int x9), .val (.long xA), .second, .val (.ref b1), .val (.ref b3), .val (.int (((sel.toUInt32 >>> ((3 : Int32) &&& 31).toUInt32).toInt32) &&& (3 : Int32))), .val (.ref b3), .val (.int (0 : Int32)), .val (.int (1 : Int32))] []))
        refine own_st (fun _ k => XS.iconst X19.here hx rfl (hb hby at_158) k) ?_
        show own_Go p.tables e below F (T19.setTop (mkF m 159 #[.val (.int t), .val (.int gi), .val (.long am), .second, .val (.int dd), .val (.long ee), .second, .val (.int sel), .val (.int x8), .val (.int x9), .val (.long xA), .second, .val (.ref b1), .val (.ref b3), .val (.int (((sel.toUInt32 >>> ((3 : Int32) &&& 31).toUInt32).toInt32) &&& (3 : Int32))), .val (.ref b3), .val (.int (0 : Int32)), .val (.int (1 : Int32))] [(.int (1 : Int32))]))
        refine own_st (fun _ k => XS.goto X19.here hx rfl (pc0 := 159) (pc' := 163) rfl (hb hby at_159) (by decide) (by decide) k) ?_
        show own_Go p.tables e below F (T19.setTop (mkF m 163 #[.val (.int t), .val (.int gi), .val (.long am), .second, .val (.int dd), .val (.long ee), .second, .val (.int sel), .val (.int x8), .val (.int x9), .val (.long xA), .second, .val (.ref b1), .val (.ref b3), .val (.int (((sel.toUInt32 >>> ((3 : Int32) &&& 31).toUInt32).toInt32) &&& (3 : Int32))), .val (.ref b3), .val (.int (0 : Int32)), .val (.int (1 : Int32))] [(.int (1 : Int32))]))
        refine own_st (fun _ k => XS.istore X19.here hx rfl (hb hby at_163) rfl (l' := #[.val (.int t), .val (.int gi), .val (.long am), .second, .val (.int dd), .val (.long ee), .second, .val (.int sel), .val (.int x8), .val (.int x9), .val (.long xA), .second, .val (.ref b1), .val (.ref b3), .val (.int (((sel.toUInt32 >>> ((3 : Int32) &&& 31).toUInt32).toInt32) &&& (3 : Int32))), .val (.ref b3), .val (.int (0 : Int32)), .val (.int (1 : Int32))]) rfl k) ?_
        show own_Go p.tables e below F (T19.setTop (mkF m 165 #[.val (.int t), .val (.int gi), .val (.long am), .second, .val (.int dd), .val (.long ee), .second, .val (.int sel), .val (.int x8), .val (.int x9), .val (.long xA), .second, .val (.ref b1), .val (.ref b3), .val (.int (((sel.toUInt32 >>> ((3 : Int32) &&& 31).toUInt32).toInt32) &&& (3 : Int32))), .val (.ref b3), .val (.int (0 : Int32)), .val (.int (1 : Int32))] []))
        refine own_st (fun _ k => XS.aload X19.here hx rfl (hb hby at_165) rfl rfl k) ?_
        show own_Go p.tables e below F (T19.setTop (mkF m 167 #[.val (.int t), .val (.int gi), .val (.long am), .second, .val (.int dd), .val (.long ee), .second, .val (.int sel), .val (.int x8), .val (.int x9), .val (.long xA), .second, .val (.ref b1), .val (.ref b3), .val (.int (((sel.toUInt32 >>> ((3 : Int32) &&& 31).toUInt32).toInt32) &&& (3 : Int32))), .val (.ref b3), .val (.int (0 : Int32)), .val (.int (1 : Int32))] [(.ref b1)]))
        refine own_st (fun _ k => XS.aload X19.here hx rfl (hb hby at_167) rfl rfl k) ?_
        show own_Go p.tables e below F (T19.setTop (mkF m 169 #[.val (.int t), .val (.int gi), .val (.long am), .second, .val (.int dd), .val (.long ee), .second, .val (.int sel), .val (.int x8), .val (.int x9), .val (.long xA), .second, .val (.ref b1), .val (.ref b3), .val (.int (((sel.toUInt32 >>> ((3 : Int32) &&& 31).toUInt32).toInt32) &&& (3 : Int32))), .val (.ref b3), .val (.int (0 : Int32)), .val (.int (1 : Int32))] [(.ref b3), (.ref b1)]))
        obtain ⟨cq20, kq20, q20a, q20b, q20c⟩ := isOf hZ e19 Pn2__4.1
        obtain ⟨_, _, ⟨T20, L20, k20, n20⟩, -, X20, ⟨Lc20, hQ20, l20, y20, z20⟩, st20⟩ := X19.virtualBack hx (y := (⟨"com/example/dockside/dockside/service/FewestPairings$Pairing", "equals", "(Ljava/lang/Object;)Z"⟩ : MethodName)) (z := (⟨"com/example/dockside/dockside/service/FewestPairings$Pairing", "equals", "(Ljava/lang/Object;)Z"⟩ : MethodName)) hown (mvT hZ (hw _ (List.mem_of_getElem? (i := 15) rfl))) (mvT hZ (hw _ (List.mem_of_getElem? (i := 16) rfl))) (notFace_of_selects (args := #[]) (mvT hZ (hw _ (List.mem_of_getElem? (i := 18) rfl)))) (mvT hZ (hw _ (List.mem_of_getElem? (i := 18) rfl))) (mvT hZ (hw _ (List.mem_of_getElem? (i := 17) rfl))) (by decide) (backOf (W := 0) (own_eqP l Z a0 hw [] b1 b3 t gi x8 x9 am xA 0 T4.heap n0 Pn2__4 Pn4 (if_neg (fun z => (Ne.symm hc123) z.1)).symm) hZ (hw _ (List.mem_of_getElem? (i := 19) rfl)) (hw _ (List.mem_of_getElem? (i := 2) rfl)) (by decide) (by decide)) q20a q20c (g := (mkF m 169 #[.val (.int t), .val (.int gi), .val (.long am), .second, .val (.int dd), .val (.long ee), .second, .val (.int sel), .val (.int x8), .val (.int x9), .val (.long xA), .second, .val (.ref b1), .val (.ref b3), .val (.int (((sel.toUInt32 >>> ((3 : Int32) &&& 31).toUInt32).toInt32) &&& (3 : Int32))), .val (.ref b3), .val (.int (0 : Int32)), .val (.int (1 : Int32))] [(.ref b3), (.ref b1)])) rfl (by rw [hml]; rfl) (Steps.refl _) (argsL := [(.ref b3)]) (rest := []) (lenOf pd_3 rfl) rfl (by show 2 * 0 + _ ≤ _; exact Nat.le_of_eq rfl) (hb hby at_169) (fun _ _ => ⟨rfl, e19, (by decide : 2 + 0 ≤ _), (by decide : 6 + 0 ≤ _)⟩)
        dsimp only [Pt.U, Pt.locs, Pt.cells, Pt.slots] at X20 l20 y20 z20 st20 hQ20
        subst l20 y20 z20
        obtain ⟨rfl, N20q, e20⟩ := hQ20
        have N20 := Fr.app N19 N20q
        refine own_st (fun _ k => st20.trans k) ?_
        show own_Go p.tables e below F (T20.setTop (mkF m 172 #[.val (.int t), .val (.int gi), .val (.long am), .second, .val (.int dd), .val (.long ee), .second, .val (.int sel), .val (.int x8), .val (.int x9), .val (.long xA), .second, .val (.ref b1), .val (.ref b3), .val (.int (((sel.toUInt32 >>> ((3 : Int32) &&& 31).toUInt32).toInt32) &&& (3 : Int32))), .val (.ref b3), .val (.int (0 : Int32)), .val (.int (1 : Int32))] [(.int (0 : Int32))]))
        refine own_st (fun _ k => XS.iload X20.here hx rfl (hb hby at_172) rfl k) ?_
        show own_Go p.tables e below F (T20.setTop (mkF m 174 #[.val (.int t), .val (.int gi), .val (.long am), .second, .val (.int dd), .val (.long ee), .second, .val (.int sel), .val (.int x8), .val (.int x9), .val (.long xA), .second, .val (.ref b1), .val (.ref b3), .val (.int (((sel.toUInt32 >>> ((3 : Int32) &&& 31).toUInt32).toInt32) &&& (3 : Int32))), .val (.ref b3), .val (.int (0 : Int32)), .val (.int (1 : Int32))] [(.int (0 : Int32)), (.int (0 : Int32))]))
        refine own_st (fun _ k => XS.icmpNo X20.here hx rfl (hb hby at_174) rfl (teq (by decide : (0 : Int32) = (0 : Int32))).2 k) ?_
        show own_Go p.tables e below F (T20.setTop (mkF m 177 #[.val (.int t), .val (.int gi), .val (.long am), .second, .val (.int dd), .val (.long ee), .second, .val (.int sel), .val (.int x8), .val (.int x9), .val (.long xA), .second, .val (.ref b1), .val (.ref b3), .val (.int (((sel.toUInt32 >>> ((3 : Int32) &&& 31).toUInt32).toInt32) &&& (3 : Int32))), .val (.ref b3), .val (.int (0 : Int32)), .val (.int (1 : Int32))] []))
        refine own_st (fun _ k => XS.iload X20.here hx rfl (hb hby at_177) rfl k) ?_
        show own_Go p.tables e below F (T20.setTop (mkF m 179 #[.val (.int t), .val (.int gi), .val (.long am), .second, .val (.int dd), .val (.long ee), .second, .val (.int sel), .val (.int x8), .val (.int x9), .val (.long xA), .second, .val (.ref b1), .val (.ref b3), .val (.int (((sel.toUInt32 >>> ((3 : Int32) &&& 31).toUInt32).toInt32) &&& (3 : Int32))), .val (.ref b3), .val (.int (0 : Int32)), .val (.int (1 : Int32))] [(.int (1 : Int32))]))
        refine own_st (fun _ k => XS.ifNo X20.here hx rfl (hb hby at_179) rfl ((if0 _ _).trans (feq (by decide : ¬ ((1 : Int32) = (0 : Int32)))).1) k) ?_
        show own_Go p.tables e below F (T20.setTop (mkF m 182 #[.val (.int t), .val (.int gi), .val (.long am), .second, .val (.int dd), .val (.long ee), .second, .val (.int sel), .val (.int x8), .val (.int x9), .val (.long xA), .second, .val (.ref b1), .val (.ref b3), .val (.int (((sel.toUInt32 >>> ((3 : Int32) &&& 31).toUInt32).toInt32) &&& (3 : Int32))), .val (.ref b3), .val (.int (0 : Int32)), .val (.int (1 : Int32))] []))
        refine own_st (fun _ k => XS.aload X20.here hx rfl (hb hby at_182) rfl rfl k) ?_
        show own_Go p.tables e below F (T20.setTop (mkF m 184 #[.val (.int t), .val (.int gi), .val (.long am), .second, .val (.int dd), .val (.long ee), .second, .val (.int sel), .val (.int x8), .val (.int x9), .val (.long xA), .second, .val (.ref b1), .val (.ref b3), .val (.int (((sel.toUInt32 >>> ((3 : Int32) &&& 31).toUInt32).toInt32) &&& (3 : Int32))), .val (.ref b3), .val (.int (0 : Int32)), .val (.int (1 : Int32))] [(.ref b1)]))
        refine own_st (fun _ k => XS.aload X20.here hx rfl (hb hby at_184) rfl rfl k) ?_
        show own_Go p.tables e below F (T20.setTop (mkF m 186 #[.val (.int t), .val (.int gi), .val (.long am), .second, .val (.int dd), .val (.long ee), .second, .val (.int sel), .val (.int x8), .val (.int x9), .val (.long xA), .second, .val (.ref b1), .val (.ref b3), .val (.int (((sel.toUInt32 >>> ((3 : Int32) &&& 31).toUInt32).toInt32) &&& (3 : Int32))), .val (.ref b3), .val (.int (0 : Int32)), .val (.int (1 : Int32))] [(.ref b1), (.ref b1)]))
        obtain ⟨cq21, kq21, q21a, q21b, q21c⟩ := isOf hZ e20 Pn2__4.1
        obtain ⟨_, _, ⟨T21, L21, k21, n21⟩, -, X21, ⟨Lc21, hQ21, l21, y21, z21⟩, st21⟩ := X20.virtualBack hx (y := (⟨"com/example/dockside/dockside/service/FewestPairings$Pairing", "equals", "(Ljava/lang/Object;)Z"⟩ : MethodName)) (z := (⟨"com/example/dockside/dockside/service/FewestPairings$Pairing", "equals", "(Ljava/lang/Object;)Z"⟩ : MethodName)) hown (mvT hZ (hw _ (List.mem_of_getElem? (i := 15) rfl))) (mvT hZ (hw _ (List.mem_of_getElem? (i := 16) rfl))) (notFace_of_selects (args := #[]) (mvT hZ (hw _ (List.mem_of_getElem? (i := 18) rfl)))) (mvT hZ (hw _ (List.mem_of_getElem? (i := 18) rfl))) (mvT hZ (hw _ (List.mem_of_getElem? (i := 17) rfl))) (by decide) (backOf (W := 0) (own_eqP l Z a0 hw [] b1 b1 t gi t gi am am 1 T4.heap n0 Pn2__4 Pn2__4 (if_pos ⟨rfl, rfl, rfl⟩).symm) hZ (hw _ (List.mem_of_getElem? (i := 19) rfl)) (hw _ (List.mem_of_getElem? (i := 2) rfl)) (by decide) (by decide)) q21a q21c (g := (mkF m 186 #[.val (.int t), .val (.int gi), .val (.long am), .second, .val (.int dd), .val (.long ee), .second, .val (.int sel), .val (.int x8), .val (.int x9), .val (.long xA), .second, .val (.ref b1), .val (.ref b3), .val (.int (((sel.toUInt32 >>> ((3 : Int32) &&& 31).toUInt32).toInt32) &&& (3 : Int32))), .val (.ref b3), .val (.int (0 : Int32)), .val (.int (1 : Int32))] [(.ref b1), (.ref b1)])) rfl (by rw [hml]; rfl) (Steps.refl _) (argsL := [(.ref b1)]) (rest := []) (lenOf pd_3 rfl) rfl (by show 2 * 0 + _ ≤ _; exact Nat.le_of_eq rfl) (hb hby at_186) (fun _ _ => ⟨rfl, e20, (by decide : 2 + 0 ≤ _), (by decide : 6 + 0 ≤ _)⟩)
        dsimp only [Pt.U, Pt.locs, Pt.cells, Pt.slots] at X21 l21 y21 z21 st21 hQ21
        subst l21 y21 z21
        obtain ⟨rfl, N21q, e21⟩ := hQ21
        have N21 := Fr.app N20 N21q
        refine own_st (fun _ k => st21.trans k) ?_
        show own_Go p.tables e below F (T21.setTop (mkF m 189 #[.val (.int t), .val (.int gi), .val (.long am), .second, .val (.int dd), .val (.long ee), .second, .val (.int sel), .val (.int x8), .val (.int x9), .val (.long xA), .second, .val (.ref b1), .val (.ref b3), .val (.int (((sel.toUInt32 >>> ((3 : Int32) &&& 31).toUInt32).toInt32) &&& (3 : Int32))), .val (.ref b3), .val (.int (0 : Int32)), .val (.int (1 : Int32))] [(.int (1 : Int32))]))
        refine own_st (fun _ k => XS.ifNo X21.here hx rfl (hb hby at_189) rfl ((if0 _ _).trans (feq (by decide : ¬ ((1 : Int32) = (0 : Int32)))).1) k) ?_
        show own_Go p.tables e below F (T21.setTop (mkF m 192 #[.val (.int t), .val (.int gi), .val (.long am), .second, .val (.int dd), .val (.long ee), .second, .val (.int sel), .val (.int x8), .val (.int x9), .val (.long xA), .second, .val (.ref b1), .val (.ref b3), .val (.int (((sel.toUInt32 >>> ((3 : Int32) &&& 31).toUInt32).toInt32) &&& (3 : Int32))), .val (.ref b3), .val (.int (0 : Int32)), .val (.int (1 : Int32))] []))
        refine own_st (fun _ k => XS.iconst X21.here hx rfl (hb hby at_192) k) ?_
        show own_Go p.tables e below F (T21.setTop (mkF m 193 #[.val (.int t), .val (.int gi), .val (.long am), .second, .val (.int dd), .val (.long ee), .second, .val (.int sel), .val (.int x8), .val (.int x9), .val (.long xA), .second, .val (.ref b1), .val (.ref b3), .val (.int (((sel.toUInt32 >>> ((3 : Int32) &&& 31).toUInt32).toInt32) &&& (3 : Int32))), .val (.ref b3), .val (.int (0 : Int32)), .val (.int (1 : Int32))] [(.int (1 : Int32))]))
        refine own_st (fun _ k => XS.goto X21.here hx rfl (pc0 := 193) (pc' := 197) rfl (hb hby at_193) (by decide) (by decide) k) ?_
        show own_Go p.tables e below F (T21.setTop (mkF m 197 #[.val (.int t), .val (.int gi), .val (.long am), .second, .val (.int dd), .val (.long ee), .second, .val (.int sel), .val (.int x8), .val (.int x9), .val (.long xA), .second, .val (.ref b1), .val (.ref b3), .val (.int (((sel.toUInt32 >>> ((3 : Int32) &&& 31).toUInt32).toInt32) &&& (3 : Int32))), .val (.ref b3), .val (.int (0 : Int32)), .val (.int (1 : Int32))] [(.int (1 : Int32))]))
        obtain ⟨fs, hrL, hrun, hended, hW, hsame⟩ := X21.leave (v := some (.int (1 : Int32))) (fun h => by rw [Bd.returns] at h; cases h)
        refine own_end hF (o := .returned (some (.int (1 : Int32)))) (retN X21 hx (t := .boolean) Bd.returns (by simp) (hb hby at_197) hrL) ?_
        refine ⟨hrun, hended, _, _, rfl, ?_, ⟨_, rfl⟩, hW, hsame.mono (by decide) (by decide)⟩
        exact ⟨rfl, N21⟩
theorem own_sub {args : Array Value} {first s : State} {o : Option Outcome} {idx : List Nat} {a b : Term} {x y : Int32} (ha : a.eval args first o idx s = some (.int x)) (hb : b.eval args first o idx s = some (.int y)) : (Term.sub a b).eval args first o idx s = some (.int (x - y)) := by simp [Term.eval, ha, hb]
theorem own_bxs {s : State} {args : Array Value} {cA : Addr} {cl : Cell} (vC : (Term.static "java/lang/Integer$IntegerCache" "cache" "[Ljava/lang/Integer;").eval args s none [] s = some (.ref cA)) (AC : Arr s s.heap cA cl (.object "java/lang/Integer"))
    (lenC : (Term.length (Term.static "java/lang/Integer$IntegerCache" "cache" "[Ljava/lang/Integer;")).eval args s none [] s = some (.int 256))
    (h : (Jvm.Cond.all (Term.static "java/lang/Integer$IntegerCache" "cache" "[Ljava/lang/Integer;") (.and (.exactly (.elem (Term.static "java/lang/Integer$IntegerCache" "cache" "[Ljava/lang/Integer;") (.index 0)) "java/lang/Integer") (.eq (.field (.elem (Term.static "java/lang/Integer$IntegerCache" "cache" "[Ljava/lang/Integer;") (.index 0)) "java/lang/Integer" "value" "I") (.sub (.index 0) (.int 128))))).value args s none s [] = some true) :
    Bxs s cA cl "java/lang/Integer" "I" (256 : Int32) (fun j => .int (j - (128 : Int32))) := by
  have hl : cl.slots.size < 2 ^ 31 ∧ cl.slots.size.toInt32 = 256 := by
    have ha := AC.fin (Vm.Alike.refl s.vm)
    generalize Term.static "java/lang/Integer$IntegerCache" "cache" "[Ljava/lang/Integer;" = tC at vC lenC
    simp only [Term.eval, vC, ha, Option.bind_eq_bind, Option.bind_some] at lenC
    split at lenC
    · rename_i hq
      exact ⟨hq, by injection lenC with q; injection q⟩
    · cases lenC
  refine Bxs.start (fun idx => ?_) AC hl.1 hl.2 (by decide) h (fun X j hj hX => ?_)
  · exact vC
  · exact eqv_i (own_sub (idx_at hj) rfl) hX
set_option maxRecDepth 65536 in
set_option maxHeartbeats 40000000 in
theorem comes_1 {Post : Tables → Env → Array Value → State → Outcome → State → Prop} (hpost : ∀ tb e args s v u, (limb_1_1.after args s (.returned v) u = true ∧ limb_1_2.after args s (.returned v) u = true ∧ True) → FrameEnd s (.returned v) u (Jvm.fieldLocs frame_1_writes args s ++ Jvm.arrayLocs frame_1_arrays args s ++ Jvm.staticLocs frame_1_statics s) 16 128 → Post tb e args s (.returned v) u) :
    ArmFor flags0 classFile x code maxLocals ret World_1 tables_1 room_1 Calls_1 rest_1 Pre_1 Post := by
  intro l hfl _ _ p e ha hc hk s m args below hf hA hF happ hP
  obtain ⟨hcalls, hrest, hpre⟩ := hP
  obtain ⟨-, -, -, hnamed, -, -, -, hat⟩ := (Spec.applies_iff hf).mp happ
  obtain ⟨hg, hn⟩ := and_e (Cond.before_iff.mp (show (Jvm.Cond.and given_1 narrow_1).before args s = true from hpre))
  obtain ⟨gc, gr0⟩ := and_e hg
  obtain ⟨ga0, gr1⟩ := and_e gr0
  obtain ⟨ga1, gr2⟩ := and_e gr1
  obtain ⟨ga2, gr3⟩ := and_e gr2
  obtain ⟨ga3, gr4⟩ := and_e gr3
  obtain ⟨ga4, gr5⟩ := and_e gr4
  have ga5 := gr5
  obtain ⟨w0, w1, w2, w3, w4, w5, rfl⟩ : ∃ w0 w1 w2 w3 w4 w5 : Value, args = #[w0, w1, w2, w3, w4, w5] := by
    have hs : args.size = 6 := by simpa [Cond.value, given_1] using gc
    obtain ⟨L⟩ := args
    match L, hs with
    | [w0, w1, w2, w3, w4, w5], _ => exact ⟨w0, w1, w2, w3, w4, w5, rfl⟩
  have hw := fun d (hd : d ∈ tables_1) => atoms_spec (ws := Jvm.Cond.code x code maxLocals ret :: tables_1) hat d (List.mem_cons_of_mem _ hd)
  have hfit : Fit s := fun {y c} hc i hi => by
    obtain ⟨ha, rfl⟩ := Array.getElem?_eq_some_iff.mp hc
    have q := List.all_eq_true.mp ((Array.all_eq_true_iff_forall_mem.mp hF) _ (Array.getElem_mem ha)) i (List.mem_range.mpr hi)
    simpa [Array.getElem?_eq_getElem hi] using q
  obtain ⟨hsets, hown0⟩ := atoms_of _ (rest_1_c_eq ▸ (show rest_1_c.before _ s = true from hrest))
  have hr0 := Cond.before_iff.mp hown0
  obtain ⟨i0, ei0⟩ := is_v ga0
  obtain rfl : w0 = (.int i0) := Option.some.inj ei0
  obtain ⟨i1, ei1⟩ := is_v ga1
  obtain rfl : w1 = (.int i1) := Option.some.inj ei1
  obtain ⟨i2, ei2⟩ := isL_v ga2
  obtain rfl : w2 = (.long i2) := Option.some.inj ei2
  obtain ⟨i3, ei3⟩ := is_v ga3
  obtain rfl : w3 = (.int i3) := Option.some.inj ei3
  obtain ⟨i4, ei4⟩ := isL_v ga4
  obtain rfl : w4 = (.long i4) := Option.some.inj ei4
  obtain ⟨i5, ei5⟩ := is_v ga5
  obtain rfl : w5 = (.int i5) := Option.some.inj ei5
  have hS3 := Cond.before_iff.mp (hsets _ (List.mem_of_getElem? (i := 3) rfl))
  have hS4 := Cond.before_iff.mp (hsets _ (List.mem_of_getElem? (i := 4) rfl))
  have hS6 := Cond.before_iff.mp (hsets _ (List.mem_of_getElem? (i := 6) rfl))
  have hS7 := Cond.before_iff.mp (hsets _ (List.mem_of_getElem? (i := 7) rfl))
  have vH := eqv_i (Term.int_eval 127) hS3
  have SH := Sta.start vH (Or.inl (hsets _ (List.mem_of_getElem? (i := 1) rfl)))
  obtain ⟨cA, vC⟩ := arr_v hS4
  have SC := Sta.start vC (Or.inr ⟨(hw _ (List.mem_of_getElem? (i := 27) rfl)), hsets _ (List.mem_of_getElem? (i := 2) rfl)⟩)
  obtain ⟨cl, AC⟩ := Arr.start vC hS4
  have lenC := eqv_i (Term.int_eval 256) hS6
  have B : Bxs s cA cl "java/lang/Integer" "I" (256 : Int32) (fun j => .int (j - (128 : Int32))) := own_bxs vC AC lenC hS7
  obtain ⟨n, o, h1, h2, h3, _, L, rfl, ⟨rfl, N⟩, hq⟩ := (own_law l s _ hw tables_1 i0 i1 i2 i3 i4 i5 cA cl s.heap s.heap.size (Nat.le_refl _) own_ext_refl SH SC B) p e ha hc hk s m _ below hf ((Spec.applies_iff_loose hf).mp happ).1 ⟨rfl, State.Warmed39.refl s, rfl⟩ trivial
  refine ⟨n, _, h1, h2, h3, hpost _ _ _ _ _ _ ⟨Cond.after_iff.mpr rfl, Cond.after_iff.mpr (eq_i res_at (Term.int_eval (1)) rfl), trivial⟩ ⟨hq.1, hq.2.1, (hq.2.2.sift fun y hy => Or.inr (N y hy)).mono (by decide) (by decide)⟩⟩
theorem main_1_1 : Claimed_1_1 := comes_1 fun _ _ _ _ _ _ h hF => ⟨h.1, hF⟩
theorem main_1_2 : Claimed_1_2 := comes_1 fun _ _ _ _ _ _ h hF => ⟨h.2.1, hF⟩
end Jvm.Pilot.@@N@@
namespace Jvm.Pilot.@@N@@
open Jvm Jvm.ClassFile Sem Op Lib Jvm.Free Jvm.Stand Jvm.Pilot.@@N@@.Jvm.D
/-! MADE BY PROGRAM (witnessworld.py) out of the Statement's table words and the real class files: 16 classes; the members and pool entries that the words name. The judged class is class 1, her method 1. -/
namespace start1
open Jvm.ClassFile
def u (s : String) : CpInfo := .utf8 (stringToUtf16 s)
/-- a pool by its gaps: so many unusable entries, then the entry; so many at the end -/
def gap : Nat → List CpInfo → List CpInfo
  | 0, r => r
  | n + 1, r => .unusable :: gap n r
def poolList (es : List (Nat × CpInfo)) (last : Nat) : List CpInfo := es.foldr (fun e r => gap e.1 (e.2 :: r)) (gap last [])
def pool (es : List (Nat × CpInfo)) (last : Nat) : Array CpInfo := ⟨poolList es last⟩
def fileOf (pool : Array CpInfo) (this : Nat) (attrs : Array Attribute := #[]) (ms : Array MethodInfo := #[]) (fl : Nat := 33) (sup : Nat := 0) (ifs : Array Nat := #[]) (fds : Array FieldInfo := #[]) : ClassFile where
  minorVersion := 0
  majorVersion := 65
  constantPool := pool
  accessFlags := fl
  thisClass := this
  superClass := sup
  interfaces := ifs
  fields := fds
  methods := ms
  attributes := attrs
def plain (name : String) (sup : Option ClassId) : Class where
  name := name
  kind := .ordinary
  loader := none
  accessFlags := 33
  super := sup
  interfaces := #[]
  cf := none
  fields := #[]
  methods := #[]
  instanceTypes := #[]
  staticTypes := #[]
  resolved := #[]
  callSites := []
  init := .initialized
  statics := none
  mirror := none

def pool0 : Array CpInfo := pool [(5, u "<init>"), (0, u "()V"), (1, .class_ 10), (1, u "java/lang/Object")] 113

def k0c0 : Code := { maxStack := 0, maxLocals := 1, code := object_method_1_code, exceptionTable := #[], attributes := #[] }
def k0m0 : Method := { name := "<init>", desc := "()V", sig := { parameters := [], returnType := none }, accessFlags := 1, code := some k0c0 }
/-- java/lang/Object -/
def k0 : Class := { plain "java/lang/Object" none with
  accessFlags := 33
  interfaces := #[]
  cf := some (fileOf pool0 8 #[] #[{ accessFlags := 1, nameIndex := 5, descriptorIndex := 6, attributes := #[] }] 33 0 #[] #[])
  fields := #[]
  methods := #[k0m0]
  instanceTypes := #[]
  staticTypes := #[]
  resolved := Array.replicate 124 none
  statics := none }

def pool1 : Array CpInfo := pool [(2, .class_ 4), (1, u "java/lang/Object"), (0, u "<init>"), (0, u "()V"), (0, .class_ 8), (0, u "com/example/dockside/dockside/service/FewestPairings$Pairing"), (0, .methodref 7 10), (0, .nameAndType 5 11), (0, u "(IIJ)V"), (0, .methodref 13 14), (0, .class_ 15), (0, .nameAndType 16 17), (0, u "java/lang/Integer"), (0, u "valueOf"), (0, u "(I)Ljava/lang/Integer;"), (0, .methodref 7 19), (0, .nameAndType 20 21), (0, u "equals"), (0, u "(Ljava/lang/Object;)Z"), (0, .class_ 23), (0, u "com/example/dockside/dockside/service/PairingEqualsPinLaw"), (2, u "law"), (0, u "(IIJIJI)Z")] 7

def k1m0 : Method := { name := "<init>", desc := "()V", sig := { parameters := [], returnType := none }, accessFlags := 1, code := none }
def k1c1 : Code := { maxStack := 6, maxLocals := 18, code := code, exceptionTable := #[], attributes := #[] }
def k1m1 : Method := { name := "law", desc := "(IIJIJI)Z", sig := { parameters := [.int, .int, .long, .int, .long, .int], returnType := some .boolean }, accessFlags := 9, code := some k1c1 }
/-- com/example/dockside/dockside/service/PairingEqualsPinLaw -/
def k1 : Class := { plain "com/example/dockside/dockside/service/PairingEqualsPinLaw" (some 0) with
  accessFlags := 49
  interfaces := #[]
  cf := some (fileOf pool1 22 #[] #[{ accessFlags := 1, nameIndex := 5, descriptorIndex := 6, attributes := #[] }, { accessFlags := 9, nameIndex := 26, descriptorIndex := 27, attributes := #[] }] 49 2 #[] #[])
  fields := #[]
  methods := #[k1m0, k1m1]
  instanceTypes := #[]
  staticTypes := #[]
  resolved := Array.replicate 35 none
  statics := none }

def pool2 : Array CpInfo := pool [(1, .methodref 2 3), (0, .class_ 4), (0, .nameAndType 5 6), (0, u "java/lang/Object"), (0, u "<init>"), (0, u "()V"), (0, .fieldref 8 9), (0, .class_ 10), (0, .nameAndType 11 12), (0, u "com/example/dockside/dockside/service/FewestPairings$Pairing"), (0, u "taker"), (0, u "I"), (0, .fieldref 8 14), (0, .nameAndType 15 12), (0, u "giver"), (0, .fieldref 8 17), (0, .nameAndType 18 19), (0, u "amount"), (0, u "J"), (21, u "(IIJ)V"), (4, u "equals"), (0, u "(Ljava/lang/Object;)Z"), (7, .class_ 56), (0, u "com/example/dockside/dockside/service/FewestPairings")] 16

def k2c0 : Code := { maxStack := 3, maxLocals := 5, code := prog_59_method_1_code, exceptionTable := #[], attributes := #[] }
def k2m0 : Method := { name := "<init>", desc := "(IIJ)V", sig := { parameters := [.int, .int, .long], returnType := none }, accessFlags := 1, code := some k2c0 }
def k2c1 : Code := { maxStack := 4, maxLocals := 3, code := prog_59_method_5_code, exceptionTable := #[], attributes := #[] }
def k2m1 : Method := { name := "equals", desc := "(Ljava/lang/Object;)Z", sig := { parameters := [(.object "java/lang/Object")], returnType := some .boolean }, accessFlags := 1, code := some k2c1 }
/-- com/example/dockside/dockside/service/FewestPairings$Pairing -/
def k2 : Class := { plain "com/example/dockside/dockside/service/FewestPairings$Pairing" (some 0) with
  accessFlags := 49
  interfaces := #[]
  cf := some (fileOf pool2 8 #[.nestHost 55] #[{ accessFlags := 1, nameIndex := 5, descriptorIndex := 41, attributes := #[] }, { accessFlags := 1, nameIndex := 46, descriptorIndex := 47, attributes := #[] }] 49 2 #[] #[{ accessFlags := 18, nameIndex := 11, descriptorIndex := 12, attributes := #[] }, { accessFlags := 18, nameIndex := 15, descriptorIndex := 12, attributes := #[] }, { accessFlags := 18, nameIndex := 18, descriptorIndex := 19, attributes := #[] }])
  fields := #[{ name := "taker", type := .int, accessFlags := 18, slot := 0, constantValue := 0 }, { name := "giver", type := .int, accessFlags := 18, slot := 1, constantValue := 0 }, { name := "amount", type := .long, accessFlags := 18, slot := 2, constantValue := 0 }]
  methods := #[k2m0, k2m1]
  instanceTypes := #[.int, .int, .long]
  staticTypes := #[]
  resolved := Array.replicate 73 none
  statics := none }

def pool3 : Array CpInfo := pool [(1, .class_ 2), (0, u "java/io/Serializable"), (0, .class_ 4), (0, u "java/lang/Object")] 2

/-- java/io/Serializable -/
def k3 : Class := { plain "java/io/Serializable" (some 0) with
  accessFlags := 1537
  interfaces := #[]
  cf := some (fileOf pool3 1 #[] #[] 1537 3 #[] #[])
  fields := #[]
  methods := #[]
  instanceTypes := #[]
  staticTypes := #[]
  resolved := Array.replicate 7 none
  statics := none }

def pool4 : Array CpInfo := pool [(1, .methodref 2 3), (0, .class_ 4), (0, .nameAndType 5 6), (0, u "java/lang/Object"), (0, u "<init>"), (0, u "()V"), (1, .class_ 10), (1, u "java/lang/Number"), (2, .class_ 14), (0, u "java/io/Serializable"), (0, u "serialVersionUID"), (0, u "J")] 20

def k4c0 : Code := { maxStack := 1, maxLocals := 1, code := jdk_18_method_1_code, exceptionTable := #[], attributes := #[] }
def k4m0 : Method := { name := "<init>", desc := "()V", sig := { parameters := [], returnType := none }, accessFlags := 1, code := some k4c0 }
/-- java/lang/Number -/
def k4 : Class := { plain "java/lang/Number" (some 0) with
  accessFlags := 1057
  interfaces := #[3]
  cf := some (fileOf pool4 8 #[] #[{ accessFlags := 1, nameIndex := 5, descriptorIndex := 6, attributes := #[] }] 1057 2 #[13] #[{ accessFlags := 26, nameIndex := 15, descriptorIndex := 16, attributes := #[] }])
  fields := #[{ name := "serialVersionUID", type := .long, accessFlags := 26, slot := 0, constantValue := 0 }]
  methods := #[k4m0]
  instanceTypes := #[]
  staticTypes := #[.long]
  resolved := Array.replicate 37 none
  statics := none }

def pool5 : Array CpInfo := pool [(1, .class_ 2), (0, u "java/lang/Comparable"), (0, .class_ 4), (0, u "java/lang/Object")] 7

/-- java/lang/Comparable -/
def k5 : Class := { plain "java/lang/Comparable" (some 0) with
  accessFlags := 1537
  interfaces := #[]
  cf := some (fileOf pool5 1 #[] #[] 1537 3 #[] #[])
  fields := #[]
  methods := #[]
  instanceTypes := #[]
  staticTypes := #[]
  resolved := Array.replicate 12 none
  statics := none }

def pool6 : Array CpInfo := pool [(1, .class_ 2), (0, u "java/lang/constant/Constable"), (0, .class_ 4), (0, u "java/lang/Object")] 6

/-- java/lang/constant/Constable -/
def k6 : Class := { plain "java/lang/constant/Constable" (some 0) with
  accessFlags := 1537
  interfaces := #[]
  cf := some (fileOf pool6 1 #[] #[] 1537 3 #[] #[])
  fields := #[]
  methods := #[]
  instanceTypes := #[]
  staticTypes := #[]
  resolved := Array.replicate 11 none
  statics := none }

def pool7 : Array CpInfo := pool [(1, .class_ 2), (0, u "java/lang/constant/ConstantDesc"), (0, .class_ 4), (0, u "java/lang/Object")] 32

/-- java/lang/constant/ConstantDesc -/
def k7 : Class := { plain "java/lang/constant/ConstantDesc" (some 0) with
  accessFlags := 1537
  interfaces := #[]
  cf := some (fileOf pool7 1 #[] #[] 1537 3 #[] #[])
  fields := #[]
  methods := #[]
  instanceTypes := #[]
  staticTypes := #[]
  resolved := Array.replicate 37 none
  statics := none }

def pool8 : Array CpInfo := pool [(1, .class_ 2), (0, u "java/lang/Integer"), (16, u "digits"), (0, u "[C"), (46, u "<init>"), (17, u "DigitOnes"), (0, u "[B"), (2, u "DigitTens"), (10, .nameAndType 67 101), (0, u "()V"), (85, u "valueOf"), (0, u "(I)Ljava/lang/Integer;"), (0, .class_ 190), (0, u "java/lang/Integer$IntegerCache"), (0, .fieldref 189 192), (0, .nameAndType 193 194), (0, u "high"), (0, u "I"), (0, .fieldref 189 196), (0, .nameAndType 197 198), (0, u "cache"), (0, u "[Ljava/lang/Integer;"), (0, .methodref 1 200), (0, .nameAndType 67 201), (0, u "(I)V"), (0, .methodref 203 100), (0, .class_ 204), (0, u "java/lang/Number"), (0, .fieldref 1 206), (0, .nameAndType 207 194), (0, u "value"), (94, u "TYPE"), (0, u "Ljava/lang/Class;"), (0, .class_ 305), (0, u "java/lang/Comparable"), (0, .class_ 307), (0, u "java/lang/constant/Constable"), (0, .class_ 309), (0, u "java/lang/constant/ConstantDesc"), (0, u "MIN_VALUE"), (1, u "MAX_VALUE"), (3, u "SIZE"), (1, u "BYTES"), (1, u "serialVersionUID"), (0, u "J")] 131

def k8c0 : Code := { maxStack := 3, maxLocals := 1, code := jdk_33_method_22_code, exceptionTable := #[], attributes := #[] }
def k8m0 : Method := { name := "valueOf", desc := "(I)Ljava/lang/Integer;", sig := { parameters := [.int], returnType := some (.object "java/lang/Integer") }, accessFlags := 9, code := some k8c0 }
def k8c1 : Code := { maxStack := 2, maxLocals := 2, code := jdk_33_method_23_code, exceptionTable := #[], attributes := #[] }
def k8m1 : Method := { name := "<init>", desc := "(I)V", sig := { parameters := [.int], returnType := none }, accessFlags := 1, code := some k8c1 }
/-- java/lang/Integer -/
def k8 : Class := { plain "java/lang/Integer" (some 4) with
  accessFlags := 49
  interfaces := #[5, 6, 7]
  cf := some (fileOf pool8 1 #[.nestMembers #[189]] #[{ accessFlags := 9, nameIndex := 187, descriptorIndex := 188, attributes := #[] }, { accessFlags := 1, nameIndex := 67, descriptorIndex := 201, attributes := #[] }] 49 203 #[304, 306, 308] #[{ accessFlags := 25, nameIndex := 310, descriptorIndex := 194, attributes := #[] }, { accessFlags := 25, nameIndex := 312, descriptorIndex := 194, attributes := #[] }, { accessFlags := 25, nameIndex := 302, descriptorIndex := 303, attributes := #[] }, { accessFlags := 24, nameIndex := 19, descriptorIndex := 20, attributes := #[] }, { accessFlags := 24, nameIndex := 89, descriptorIndex := 86, attributes := #[] }, { accessFlags := 24, nameIndex := 85, descriptorIndex := 86, attributes := #[] }, { accessFlags := 18, nameIndex := 207, descriptorIndex := 194, attributes := #[] }, { accessFlags := 25, nameIndex := 316, descriptorIndex := 194, attributes := #[] }, { accessFlags := 25, nameIndex := 318, descriptorIndex := 194, attributes := #[] }, { accessFlags := 26, nameIndex := 320, descriptorIndex := 321, attributes := #[] }])
  fields := #[{ name := "MIN_VALUE", type := .int, accessFlags := 25, slot := 0, constantValue := 0 }, { name := "MAX_VALUE", type := .int, accessFlags := 25, slot := 1, constantValue := 0 }, { name := "TYPE", type := (.object "java/lang/Class"), accessFlags := 25, slot := 2, constantValue := 0 }, { name := "digits", type := (.array .char), accessFlags := 24, slot := 3, constantValue := 0 }, { name := "DigitTens", type := (.array .byte), accessFlags := 24, slot := 4, constantValue := 0 }, { name := "DigitOnes", type := (.array .byte), accessFlags := 24, slot := 5, constantValue := 0 }, { name := "value", type := .int, accessFlags := 18, slot := 0, constantValue := 0 }, { name := "SIZE", type := .int, accessFlags := 25, slot := 6, constantValue := 0 }, { name := "BYTES", type := .int, accessFlags := 25, slot := 7, constantValue := 0 }, { name := "serialVersionUID", type := .long, accessFlags := 26, slot := 8, constantValue := 0 }]
  methods := #[k8m0, k8m1]
  instanceTypes := #[.int]
  staticTypes := #[.int, .int, (.object "java/lang/Class"), (.array .char), (.array .byte), (.array .byte), .int, .int, .long]
  resolved := Array.replicate 453 none
  statics := none }

def pool9 : Array CpInfo := pool [(2, .class_ 4), (1, u "java/lang/Object"), (0, u "<init>"), (0, u "()V"), (0, .class_ 8), (0, u "java/lang/Integer"), (7, .class_ 18), (1, u "java/lang/Integer$IntegerCache"), (0, u "$assertionsDisabled"), (0, u "Z"), (26, u "high"), (0, u "I"), (8, u "archivedCache"), (0, u "[Ljava/lang/Integer;"), (12, u "cache"), (0, u "low")] 27

def k9m0 : Method := { name := "<init>", desc := "()V", sig := { parameters := [], returnType := none }, accessFlags := 2, code := none }
/-- java/lang/Integer$IntegerCache -/
def k9 : Class := { plain "java/lang/Integer$IntegerCache" (some 0) with
  accessFlags := 48
  interfaces := #[]
  cf := some (fileOf pool9 16 #[.nestHost 7] #[{ accessFlags := 2, nameIndex := 5, descriptorIndex := 6, attributes := #[] }] 48 2 #[] #[{ accessFlags := 24, nameIndex := 72, descriptorIndex := 48, attributes := #[] }, { accessFlags := 24, nameIndex := 47, descriptorIndex := 48, attributes := #[] }, { accessFlags := 24, nameIndex := 71, descriptorIndex := 58, attributes := #[] }, { accessFlags := 8, nameIndex := 57, descriptorIndex := 58, attributes := #[] }, { accessFlags := 4120, nameIndex := 19, descriptorIndex := 20, attributes := #[] }])
  fields := #[{ name := "low", type := .int, accessFlags := 24, slot := 0, constantValue := 0 }, { name := "high", type := .int, accessFlags := 24, slot := 1, constantValue := 0 }, { name := "cache", type := (.array (.object "java/lang/Integer")), accessFlags := 24, slot := 2, constantValue := 0 }, { name := "archivedCache", type := (.array (.object "java/lang/Integer")), accessFlags := 8, slot := 3, constantValue := 0 }, { name := "$assertionsDisabled", type := .boolean, accessFlags := 4120, slot := 4, constantValue := 0 }]
  methods := #[k9m0]
  instanceTypes := #[]
  staticTypes := #[.int, .int, (.array (.object "java/lang/Integer")), (.array (.object "java/lang/Integer")), .boolean]
  resolved := Array.replicate 100 none
  statics := some 0 }

def pool10 : Array CpInfo := pool [(1, u "java/lang/Cloneable"), (0, .class_ 1), (0, u "java/lang/Object"), (0, .class_ 3)] 3

/-- java/lang/Cloneable -/
def k10 : Class := { plain "java/lang/Cloneable" (some 0) with
  accessFlags := 1537
  interfaces := #[]
  cf := some (fileOf pool10 2 #[] #[] 1537 4 #[] #[])
  fields := #[]
  methods := #[]
  instanceTypes := #[]
  staticTypes := #[]
  resolved := Array.replicate 8 none
  statics := none }

/-- the primitive byte -/
def k11 : Class := { plain "byte" none with kind := .primitive 'B', accessFlags := 0x411 }
/-- [B -/
def k12 : Class := { plain "[B" (some 0) with kind := .array 11 .byte, interfaces := #[10, 3], accessFlags := 1041 }

/-- the primitive int -/
def k13 : Class := { plain "int" none with kind := .primitive 'I', accessFlags := 0x411 }
/-- [I -/
def k14 : Class := { plain "[I" (some 0) with kind := .array 13 .int, interfaces := #[10, 3], accessFlags := 1041 }

/-- [Ljava/lang/Integer; -/
def k15 : Class := { plain "[Ljava/lang/Integer;" (some 0) with kind := .array 8 (.object "java/lang/Integer"), interfaces := #[10, 3], accessFlags := 1041 }

def heap : Heap := #[{ cls := 9, slots := #[.int 0, .int 127, .ref 1, .null, .int 0], vm := .statics 9 },
  { cls := 15, slots := #[.ref 2, .ref 3, .ref 4, .ref 5, .ref 6, .ref 7, .ref 8, .ref 9, .ref 10, .ref 11, .ref 12, .ref 13, .ref 14, .ref 15, .ref 16, .ref 17, .ref 18, .ref 19, .ref 20, .ref 21, .ref 22, .ref 23, .ref 24, .ref 25, .ref 26, .ref 27, .ref 28, .ref 29, .ref 30, .ref 31, .ref 32, .ref 33, .ref 34, .ref 35, .ref 36, .ref 37, .ref 38, .ref 39, .ref 40, .ref 41, .ref 42, .ref 43, .ref 44, .ref 45, .ref 46, .ref 47, .ref 48, .ref 49, .ref 50, .ref 51, .ref 52, .ref 53, .ref 54, .ref 55, .ref 56, .ref 57, .ref 58, .ref 59, .ref 60, .ref 61, .ref 62, .ref 63, .ref 64, .ref 65, .ref 66, .ref 67, .ref 68, .ref 69, .ref 70, .ref 71, .ref 72, .ref 73, .ref 74, .ref 75, .ref 76, .ref 77, .ref 78, .ref 79, .ref 80, .ref 81, .ref 82, .ref 83, .ref 84, .ref 85, .ref 86, .ref 87, .ref 88, .ref 89, .ref 90, .ref 91, .ref 92, .ref 93, .ref 94, .ref 95, .ref 96, .ref 97, .ref 98, .ref 99, .ref 100, .ref 101, .ref 102, .ref 103, .ref 104, .ref 105, .ref 106, .ref 107, .ref 108, .ref 109, .ref 110, .ref 111, .ref 112, .ref 113, .ref 114, .ref 115, .ref 116, .ref 117, .ref 118, .ref 119, .ref 120, .ref 121, .ref 122, .ref 123, .ref 124, .ref 125, .ref 126, .ref 127, .ref 128, .ref 129, .ref 130, .ref 131, .ref 132, .ref 133, .ref 134, .ref 135, .ref 136, .ref 137, .ref 138, .ref 139, .ref 140, .ref 141, .ref 142, .ref 143, .ref 144, .ref 145, .ref 146, .ref 147, .ref 148, .ref 149, .ref 150, .ref 151, .ref 152, .ref 153, .ref 154, .ref 155, .ref 156, .ref 157, .ref 158, .ref 159, .ref 160, .ref 161, .ref 162, .ref 163, .ref 164, .ref 165, .ref 166, .ref 167, .ref 168, .ref 169, .ref 170, .ref 171, .ref 172, .ref 173, .ref 174, .ref 175, .ref 176, .ref 177, .ref 178, .ref 179, .ref 180, .ref 181, .ref 182, .ref 183, .ref 184, .ref 185, .ref 186, .ref 187, .ref 188, .ref 189, .ref 190, .ref 191, .ref 192, .ref 193, .ref 194, .ref 195, .ref 196, .ref 197, .ref 198, .ref 199, .ref 200, .ref 201, .ref 202, .ref 203, .ref 204, .ref 205, .ref 206, .ref 207, .ref 208, .ref 209, .ref 210, .ref 211, .ref 212, .ref 213, .ref 214, .ref 215, .ref 216, .ref 217, .ref 218, .ref 219, .ref 220, .ref 221, .ref 222, .ref 223, .ref 224, .ref 225, .ref 226, .ref 227, .ref 228, .ref 229, .ref 230, .ref 231, .ref 232, .ref 233, .ref 234, .ref 235, .ref 236, .ref 237, .ref 238, .ref 239, .ref 240, .ref 241, .ref 242, .ref 243, .ref 244, .ref 245, .ref 246, .ref 247, .ref 248, .ref 249, .ref 250, .ref 251, .ref 252, .ref 253, .ref 254, .ref 255, .ref 256, .ref 257], vm := .none },
  { cls := 8, slots := #[.int (-128)], vm := .none },
  { cls := 8, slots := #[.int (-127)], vm := .none },
  { cls := 8, slots := #[.int (-126)], vm := .none },
  { cls := 8, slots := #[.int (-125)], vm := .none },
  { cls := 8, slots := #[.int (-124)], vm := .none },
  { cls := 8, slots := #[.int (-123)], vm := .none },
  { cls := 8, slots := #[.int (-122)], vm := .none },
  { cls := 8, slots := #[.int (-121)], vm := .none },
  { cls := 8, slots := #[.int (-120)], vm := .none },
  { cls := 8, slots := #[.int (-119)], vm := .none },
  { cls := 8, slots := #[.int (-118)], vm := .none },
  { cls := 8, slots := #[.int (-117)], vm := .none },
  { cls := 8, slots := #[.int (-116)], vm := .none },
  { cls := 8, slots := #[.int (-115)], vm := .none },
  { cls := 8, slots := #[.int (-114)], vm := .none },
  { cls := 8, slots := #[.int (-113)], vm := .none },
  { cls := 8, slots := #[.int (-112)], vm := .none },
  { cls := 8, slots := #[.int (-111)], vm := .none },
  { cls := 8, slots := #[.int (-110)], vm := .none },
  { cls := 8, slots := #[.int (-109)], vm := .none },
  { cls := 8, slots := #[.int (-108)], vm := .none },
  { cls := 8, slots := #[.int (-107)], vm := .none },
  { cls := 8, slots := #[.int (-106)], vm := .none },
  { cls := 8, slots := #[.int (-105)], vm := .none },
  { cls := 8, slots := #[.int (-104)], vm := .none },
  { cls := 8, slots := #[.int (-103)], vm := .none },
  { cls := 8, slots := #[.int (-102)], vm := .none },
  { cls := 8, slots := #[.int (-101)], vm := .none },
  { cls := 8, slots := #[.int (-100)], vm := .none },
  { cls := 8, slots := #[.int (-99)], vm := .none },
  { cls := 8, slots := #[.int (-98)], vm := .none },
  { cls := 8, slots := #[.int (-97)], vm := .none },
  { cls := 8, slots := #[.int (-96)], vm := .none },
  { cls := 8, slots := #[.int (-95)], vm := .none },
  { cls := 8, slots := #[.int (-94)], vm := .none },
  { cls := 8, slots := #[.int (-93)], vm := .none },
  { cls := 8, slots := #[.int (-92)], vm := .none },
  { cls := 8, slots := #[.int (-91)], vm := .none },
  { cls := 8, slots := #[.int (-90)], vm := .none },
  { cls := 8, slots := #[.int (-89)], vm := .none },
  { cls := 8, slots := #[.int (-88)], vm := .none },
  { cls := 8, slots := #[.int (-87)], vm := .none },
  { cls := 8, slots := #[.int (-86)], vm := .none },
  { cls := 8, slots := #[.int (-85)], vm := .none },
  { cls := 8, slots := #[.int (-84)], vm := .none },
  { cls := 8, slots := #[.int (-83)], vm := .none },
  { cls := 8, slots := #[.int (-82)], vm := .none },
  { cls := 8, slots := #[.int (-81)], vm := .none },
  { cls := 8, slots := #[.int (-80)], vm := .none },
  { cls := 8, slots := #[.int (-79)], vm := .none },
  { cls := 8, slots := #[.int (-78)], vm := .none },
  { cls := 8, slots := #[.int (-77)], vm := .none },
  { cls := 8, slots := #[.int (-76)], vm := .none },
  { cls := 8, slots := #[.int (-75)], vm := .none },
  { cls := 8, slots := #[.int (-74)], vm := .none },
  { cls := 8, slots := #[.int (-73)], vm := .none },
  { cls := 8, slots := #[.int (-72)], vm := .none },
  { cls := 8, slots := #[.int (-71)], vm := .none },
  { cls := 8, slots := #[.int (-70)], vm := .none },
  { cls := 8, slots := #[.int (-69)], vm := .none },
  { cls := 8, slots := #[.int (-68)], vm := .none },
  { cls := 8, slots := #[.int (-67)], vm := .none },
  { cls := 8, slots := #[.int (-66)], vm := .none },
  { cls := 8, slots := #[.int (-65)], vm := .none },
  { cls := 8, slots := #[.int (-64)], vm := .none },
  { cls := 8, slots := #[.int (-63)], vm := .none },
  { cls := 8, slots := #[.int (-62)], vm := .none },
  { cls := 8, slots := #[.int (-61)], vm := .none },
  { cls := 8, slots := #[.int (-60)], vm := .none },
  { cls := 8, slots := #[.int (-59)], vm := .none },
  { cls := 8, slots := #[.int (-58)], vm := .none },
  { cls := 8, slots := #[.int (-57)], vm := .none },
  { cls := 8, slots := #[.int (-56)], vm := .none },
  { cls := 8, slots := #[.int (-55)], vm := .none },
  { cls := 8, slots := #[.int (-54)], vm := .none },
  { cls := 8, slots := #[.int (-53)], vm := .none },
  { cls := 8, slots := #[.int (-52)], vm := .none },
  { cls := 8, slots := #[.int (-51)], vm := .none },
  { cls := 8, slots := #[.int (-50)], vm := .none },
  { cls := 8, slots := #[.int (-49)], vm := .none },
  { cls := 8, slots := #[.int (-48)], vm := .none },
  { cls := 8, slots := #[.int (-47)], vm := .none },
  { cls := 8, slots := #[.int (-46)], vm := .none },
  { cls := 8, slots := #[.int (-45)], vm := .none },
  { cls := 8, slots := #[.int (-44)], vm := .none },
  { cls := 8, slots := #[.int (-43)], vm := .none },
  { cls := 8, slots := #[.int (-42)], vm := .none },
  { cls := 8, slots := #[.int (-41)], vm := .none },
  { cls := 8, slots := #[.int (-40)], vm := .none },
  { cls := 8, slots := #[.int (-39)], vm := .none },
  { cls := 8, slots := #[.int (-38)], vm := .none },
  { cls := 8, slots := #[.int (-37)], vm := .none },
  { cls := 8, slots := #[.int (-36)], vm := .none },
  { cls := 8, slots := #[.int (-35)], vm := .none },
  { cls := 8, slots := #[.int (-34)], vm := .none },
  { cls := 8, slots := #[.int (-33)], vm := .none },
  { cls := 8, slots := #[.int (-32)], vm := .none },
  { cls := 8, slots := #[.int (-31)], vm := .none },
  { cls := 8, slots := #[.int (-30)], vm := .none },
  { cls := 8, slots := #[.int (-29)], vm := .none },
  { cls := 8, slots := #[.int (-28)], vm := .none },
  { cls := 8, slots := #[.int (-27)], vm := .none },
  { cls := 8, slots := #[.int (-26)], vm := .none },
  { cls := 8, slots := #[.int (-25)], vm := .none },
  { cls := 8, slots := #[.int (-24)], vm := .none },
  { cls := 8, slots := #[.int (-23)], vm := .none },
  { cls := 8, slots := #[.int (-22)], vm := .none },
  { cls := 8, slots := #[.int (-21)], vm := .none },
  { cls := 8, slots := #[.int (-20)], vm := .none },
  { cls := 8, slots := #[.int (-19)], vm := .none },
  { cls := 8, slots := #[.int (-18)], vm := .none },
  { cls := 8, slots := #[.int (-17)], vm := .none },
  { cls := 8, slots := #[.int (-16)], vm := .none },
  { cls := 8, slots := #[.int (-15)], vm := .none },
  { cls := 8, slots := #[.int (-14)], vm := .none },
  { cls := 8, slots := #[.int (-13)], vm := .none },
  { cls := 8, slots := #[.int (-12)], vm := .none },
  { cls := 8, slots := #[.int (-11)], vm := .none },
  { cls := 8, slots := #[.int (-10)], vm := .none },
  { cls := 8, slots := #[.int (-9)], vm := .none },
  { cls := 8, slots := #[.int (-8)], vm := .none },
  { cls := 8, slots := #[.int (-7)], vm := .none },
  { cls := 8, slots := #[.int (-6)], vm := .none },
  { cls := 8, slots := #[.int (-5)], vm := .none },
  { cls := 8, slots := #[.int (-4)], vm := .none },
  { cls := 8, slots := #[.int (-3)], vm := .none },
  { cls := 8, slots := #[.int (-2)], vm := .none },
  { cls := 8, slots := #[.int (-1)], vm := .none },
  { cls := 8, slots := #[.int 0], vm := .none },
  { cls := 8, slots := #[.int 1], vm := .none },
  { cls := 8, slots := #[.int 2], vm := .none },
  { cls := 8, slots := #[.int 3], vm := .none },
  { cls := 8, slots := #[.int 4], vm := .none },
  { cls := 8, slots := #[.int 5], vm := .none },
  { cls := 8, slots := #[.int 6], vm := .none },
  { cls := 8, slots := #[.int 7], vm := .none },
  { cls := 8, slots := #[.int 8], vm := .none },
  { cls := 8, slots := #[.int 9], vm := .none },
  { cls := 8, slots := #[.int 10], vm := .none },
  { cls := 8, slots := #[.int 11], vm := .none },
  { cls := 8, slots := #[.int 12], vm := .none },
  { cls := 8, slots := #[.int 13], vm := .none },
  { cls := 8, slots := #[.int 14], vm := .none },
  { cls := 8, slots := #[.int 15], vm := .none },
  { cls := 8, slots := #[.int 16], vm := .none },
  { cls := 8, slots := #[.int 17], vm := .none },
  { cls := 8, slots := #[.int 18], vm := .none },
  { cls := 8, slots := #[.int 19], vm := .none },
  { cls := 8, slots := #[.int 20], vm := .none },
  { cls := 8, slots := #[.int 21], vm := .none },
  { cls := 8, slots := #[.int 22], vm := .none },
  { cls := 8, slots := #[.int 23], vm := .none },
  { cls := 8, slots := #[.int 24], vm := .none },
  { cls := 8, slots := #[.int 25], vm := .none },
  { cls := 8, slots := #[.int 26], vm := .none },
  { cls := 8, slots := #[.int 27], vm := .none },
  { cls := 8, slots := #[.int 28], vm := .none },
  { cls := 8, slots := #[.int 29], vm := .none },
  { cls := 8, slots := #[.int 30], vm := .none },
  { cls := 8, slots := #[.int 31], vm := .none },
  { cls := 8, slots := #[.int 32], vm := .none },
  { cls := 8, slots := #[.int 33], vm := .none },
  { cls := 8, slots := #[.int 34], vm := .none },
  { cls := 8, slots := #[.int 35], vm := .none },
  { cls := 8, slots := #[.int 36], vm := .none },
  { cls := 8, slots := #[.int 37], vm := .none },
  { cls := 8, slots := #[.int 38], vm := .none },
  { cls := 8, slots := #[.int 39], vm := .none },
  { cls := 8, slots := #[.int 40], vm := .none },
  { cls := 8, slots := #[.int 41], vm := .none },
  { cls := 8, slots := #[.int 42], vm := .none },
  { cls := 8, slots := #[.int 43], vm := .none },
  { cls := 8, slots := #[.int 44], vm := .none },
  { cls := 8, slots := #[.int 45], vm := .none },
  { cls := 8, slots := #[.int 46], vm := .none },
  { cls := 8, slots := #[.int 47], vm := .none },
  { cls := 8, slots := #[.int 48], vm := .none },
  { cls := 8, slots := #[.int 49], vm := .none },
  { cls := 8, slots := #[.int 50], vm := .none },
  { cls := 8, slots := #[.int 51], vm := .none },
  { cls := 8, slots := #[.int 52], vm := .none },
  { cls := 8, slots := #[.int 53], vm := .none },
  { cls := 8, slots := #[.int 54], vm := .none },
  { cls := 8, slots := #[.int 55], vm := .none },
  { cls := 8, slots := #[.int 56], vm := .none },
  { cls := 8, slots := #[.int 57], vm := .none },
  { cls := 8, slots := #[.int 58], vm := .none },
  { cls := 8, slots := #[.int 59], vm := .none },
  { cls := 8, slots := #[.int 60], vm := .none },
  { cls := 8, slots := #[.int 61], vm := .none },
  { cls := 8, slots := #[.int 62], vm := .none },
  { cls := 8, slots := #[.int 63], vm := .none },
  { cls := 8, slots := #[.int 64], vm := .none },
  { cls := 8, slots := #[.int 65], vm := .none },
  { cls := 8, slots := #[.int 66], vm := .none },
  { cls := 8, slots := #[.int 67], vm := .none },
  { cls := 8, slots := #[.int 68], vm := .none },
  { cls := 8, slots := #[.int 69], vm := .none },
  { cls := 8, slots := #[.int 70], vm := .none },
  { cls := 8, slots := #[.int 71], vm := .none },
  { cls := 8, slots := #[.int 72], vm := .none },
  { cls := 8, slots := #[.int 73], vm := .none },
  { cls := 8, slots := #[.int 74], vm := .none },
  { cls := 8, slots := #[.int 75], vm := .none },
  { cls := 8, slots := #[.int 76], vm := .none },
  { cls := 8, slots := #[.int 77], vm := .none },
  { cls := 8, slots := #[.int 78], vm := .none },
  { cls := 8, slots := #[.int 79], vm := .none },
  { cls := 8, slots := #[.int 80], vm := .none },
  { cls := 8, slots := #[.int 81], vm := .none },
  { cls := 8, slots := #[.int 82], vm := .none },
  { cls := 8, slots := #[.int 83], vm := .none },
  { cls := 8, slots := #[.int 84], vm := .none },
  { cls := 8, slots := #[.int 85], vm := .none },
  { cls := 8, slots := #[.int 86], vm := .none },
  { cls := 8, slots := #[.int 87], vm := .none },
  { cls := 8, slots := #[.int 88], vm := .none },
  { cls := 8, slots := #[.int 89], vm := .none },
  { cls := 8, slots := #[.int 90], vm := .none },
  { cls := 8, slots := #[.int 91], vm := .none },
  { cls := 8, slots := #[.int 92], vm := .none },
  { cls := 8, slots := #[.int 93], vm := .none },
  { cls := 8, slots := #[.int 94], vm := .none },
  { cls := 8, slots := #[.int 95], vm := .none },
  { cls := 8, slots := #[.int 96], vm := .none },
  { cls := 8, slots := #[.int 97], vm := .none },
  { cls := 8, slots := #[.int 98], vm := .none },
  { cls := 8, slots := #[.int 99], vm := .none },
  { cls := 8, slots := #[.int 100], vm := .none },
  { cls := 8, slots := #[.int 101], vm := .none },
  { cls := 8, slots := #[.int 102], vm := .none },
  { cls := 8, slots := #[.int 103], vm := .none },
  { cls := 8, slots := #[.int 104], vm := .none },
  { cls := 8, slots := #[.int 105], vm := .none },
  { cls := 8, slots := #[.int 106], vm := .none },
  { cls := 8, slots := #[.int 107], vm := .none },
  { cls := 8, slots := #[.int 108], vm := .none },
  { cls := 8, slots := #[.int 109], vm := .none },
  { cls := 8, slots := #[.int 110], vm := .none },
  { cls := 8, slots := #[.int 111], vm := .none },
  { cls := 8, slots := #[.int 112], vm := .none },
  { cls := 8, slots := #[.int 113], vm := .none },
  { cls := 8, slots := #[.int 114], vm := .none },
  { cls := 8, slots := #[.int 115], vm := .none },
  { cls := 8, slots := #[.int 116], vm := .none },
  { cls := 8, slots := #[.int 117], vm := .none },
  { cls := 8, slots := #[.int 118], vm := .none },
  { cls := 8, slots := #[.int 119], vm := .none },
  { cls := 8, slots := #[.int 120], vm := .none },
  { cls := 8, slots := #[.int 121], vm := .none },
  { cls := 8, slots := #[.int 122], vm := .none },
  { cls := 8, slots := #[.int 123], vm := .none },
  { cls := 8, slots := #[.int 124], vm := .none },
  { cls := 8, slots := #[.int 125], vm := .none },
  { cls := 8, slots := #[.int 126], vm := .none },
  { cls := 8, slots := #[.int 127], vm := .none }]
def classes : Array Class := #[k0, k1, k2, k3, k4, k5, k6, k7, k8, k9, k10, k11, k12, k13, k14, k15]
def interned : List (Array UInt16 × Addr) := []
def slotsUsed : Nat := 517
def theMethod : MethodId := ⟨1, 1⟩
def args0 : Array Value := #[.int 5, .int 6, .long 7, .int 8, .long 9, .int 10]
def aboutOver (below : List Frame) : State where
  vm := { classes := classes, interned := interned.toArray }
  heap := heap
  slotsUsed := slotsUsed
  threads := #[{ frames := .invoking theMethod args0 :: below }]
def below0 : List Frame := [.native { method := ⟨0, 0⟩, args := #[] }]
def about1 : State := aboutOver below0
def p0 : Program := .bare "" "" ""
def e0 : Env := launch0.env 0 0 0
theorem w_frames : about1.frames = Frame.invoking theMethod args0 :: below0 := rfl
set_option maxRecDepth 65536 in
theorem w_args : argsFit about1.vm theMethod args0 = true := by decide +kernel
set_option maxRecDepth 65536 in
theorem w_heap : heapFits about1 = true := by decide +kernel
set_option maxRecDepth 65536 in
theorem w_runnable : about1.curStatus? = some .runnable := by decide +kernel
set_option maxRecDepth 65536 in
theorem w_alone : about1.alone = true := by decide +kernel
set_option maxRecDepth 65536 in
theorem w_named : about1.methodNamed? x = some theMethod := by decide +kernel
set_option maxRecDepth 65536 in
theorem w_hears : about1.hears theMethod below0 = true := by decide +kernel
set_option maxRecDepth 65536 in
theorem w_ripe : about1.ripe theMethod args0 below0 = true := by decide +kernel
theorem w_running : about1.status = .running := rfl
set_option maxRecDepth 65536 in
theorem w_room : about1.hasRoom e0.platform room_1 = true :=
  launch0.hasRoom_least _ room_1 (by decide +kernel) (by decide +kernel) (by decide +kernel) (by decide +kernel) (by decide +kernel) (by decide +kernel)
theorem allAtoms_all (ts : List Jvm.Cond) (a : Array Jvm.Value) (st : Jvm.State) : (allAtoms ts).before a st = ts.all (fun c => c.before a st) := by
  induction ts with
  | nil => rfl
  | cons c t ih =>
    show (Jvm.Cond.and c (allAtoms t)).before a st = _
    rw [Jvm.Cond.before_and, ih, List.all_cons]
def words1 : List Jvm.Cond := Jvm.Cond.code x code maxLocals ret :: tables_1
/-- a 'code' word, met by the world's own term for the bytes: nothing is compared byte by byte -/
theorem code_word {y : MethodName} {bytes : ByteArray} {mx : Nat} {rt : Option FieldType} {a : Array Value} {s : State} {m : MethodId} {meth : Method} {c : Code} (h1 : s.methodNamed? y = some m) (h2 : s.vm.method? m = some meth) (h3 : meth.code = some c) (h4 : c.code = bytes)
    (h5 : (c.maxLocals == mx && c.exceptionTable.isEmpty && decide (c.maxStack ≤ mostOperands) && decide (meth.sig.returnType = rt) && !meth.locks && decide (parseMethodDescriptor y.desc = some meth.sig)) = true) : (Jvm.Cond.code y bytes mx rt).before a s = true := by
  simp only [Bool.and_eq_true, beq_iff_eq, Bool.not_eq_true', decide_eq_true_eq] at h5
  obtain ⟨⟨⟨⟨⟨g1, g2⟩, g3⟩, g4⟩, g5⟩, g6⟩ := h5
  simp [Cond.before, Cond.holds, Cond.value, h1, h2, h3, h4, g1, g2, g3, g4, g5, g6]
def isCode : Jvm.Cond → Bool
  | .code _ _ _ _ => true
  | _ => false
theorem all_split {L : List Jvm.Cond} {P : Jvm.Cond → Bool} (h1 : L.all (fun c => isCode c || P c) = true) (h2 : ∀ c ∈ L.filter isCode, P c = true) : L.all P = true := by
  refine List.all_eq_true.mpr fun c hc => ?_
  have h := List.all_eq_true.mp h1 c hc
  rcases Bool.eq_false_or_eq_true (isCode c) with hi | hi
  · exact h2 c (List.mem_filter.mpr ⟨hc, hi⟩)
  · simpa [hi] using h
set_option maxRecDepth 65536 in
theorem w_c0 : (Jvm.Cond.code x code maxLocals ret).before args0 about1 = true := code_word (m := ⟨1, 1⟩) (meth := k1m1) (c := k1c1) (by decide +kernel) rfl rfl rfl (by decide +kernel)
set_option maxRecDepth 65536 in
theorem w_c1 : (Jvm.Cond.code ({ cls := "com/example/dockside/dockside/service/FewestPairings$Pairing", name := "<init>", desc := "(IIJ)V" } : Jvm.MethodName) prog_59_method_1_code (5 : Nat) (Option.none : Option Jvm.ClassFile.FieldType)).before args0 about1 = true := code_word (m := ⟨2, 0⟩) (meth := k2m0) (c := k2c0) (by decide +kernel) rfl rfl rfl (by decide +kernel)
set_option maxRecDepth 65536 in
theorem w_c2 : (Jvm.Cond.code ({ cls := "java/lang/Object", name := "<init>", desc := "()V" } : Jvm.MethodName) object_method_1_code (1 : Nat) (Option.none : Option Jvm.ClassFile.FieldType)).before args0 about1 = true := code_word (m := ⟨0, 0⟩) (meth := k0m0) (c := k0c0) (by decide +kernel) rfl rfl rfl (by decide +kernel)
set_option maxRecDepth 65536 in
theorem w_c3 : (Jvm.Cond.code ({ cls := "com/example/dockside/dockside/service/FewestPairings$Pairing", name := "equals", desc := "(Ljava/lang/Object;)Z" } : Jvm.MethodName) prog_59_method_5_code (3 : Nat) (Option.some Jvm.ClassFile.FieldType.boolean)).before args0 about1 = true := code_word (m := ⟨2, 1⟩) (meth := k2m1) (c := k2c1) (by decide +kernel) rfl rfl rfl (by decide +kernel)
set_option maxRecDepth 65536 in
theorem w_c4 : (Jvm.Cond.code ({ cls := "java/lang/Integer", name := "valueOf", desc := "(I)Ljava/lang/Integer;" } : Jvm.MethodName) jdk_33_method_22_code (1 : Nat) (Option.some (Jvm.ClassFile.FieldType.object "java/lang/Integer"))).before args0 about1 = true := code_word (m := ⟨8, 0⟩) (meth := k8m0) (c := k8c0) (by decide +kernel) rfl rfl rfl (by decide +kernel)
set_option maxRecDepth 65536 in
theorem w_c5 : (Jvm.Cond.code ({ cls := "java/lang/Integer", name := "<init>", desc := "(I)V" } : Jvm.MethodName) jdk_33_method_23_code (2 : Nat) (Option.none : Option Jvm.ClassFile.FieldType)).before args0 about1 = true := code_word (m := ⟨8, 1⟩) (meth := k8m1) (c := k8c1) (by decide +kernel) rfl rfl rfl (by decide +kernel)
set_option maxRecDepth 65536 in
theorem w_c6 : (Jvm.Cond.code ({ cls := "java/lang/Number", name := "<init>", desc := "()V" } : Jvm.MethodName) jdk_18_method_1_code (1 : Nat) (Option.none : Option Jvm.ClassFile.FieldType)).before args0 about1 = true := code_word (m := ⟨4, 0⟩) (meth := k4m0) (c := k4c0) (by decide +kernel) rfl rfl rfl (by decide +kernel)
def codes1 : List Jvm.Cond := [Jvm.Cond.code x code maxLocals ret, Jvm.Cond.code ({ cls := "com/example/dockside/dockside/service/FewestPairings$Pairing", name := "<init>", desc := "(IIJ)V" } : Jvm.MethodName) prog_59_method_1_code (5 : Nat) (Option.none : Option Jvm.ClassFile.FieldType), Jvm.Cond.code ({ cls := "java/lang/Object", name := "<init>", desc := "()V" } : Jvm.MethodName) object_method_1_code (1 : Nat) (Option.none : Option Jvm.ClassFile.FieldType), Jvm.Cond.code ({ cls := "com/example/dockside/dockside/service/FewestPairings$Pairing", name := "equals", desc := "(Ljava/lang/Object;)Z" } : Jvm.MethodName) prog_59_method_5_code (3 : Nat) (Option.some Jvm.ClassFile.FieldType.boolean), Jvm.Cond.code ({ cls := "java/lang/Integer", name := "valueOf", desc := "(I)Ljava/lang/Integer;" } : Jvm.MethodName) jdk_33_method_22_code (1 : Nat) (Option.some (Jvm.ClassFile.FieldType.object "java/lang/Integer")), Jvm.Cond.code ({ cls := "java/lang/Integer", name := "<init>", desc := "(I)V" } : Jvm.MethodName) jdk_33_method_23_code (2 : Nat) (Option.none : Option Jvm.ClassFile.FieldType), Jvm.Cond.code ({ cls := "java/lang/Number", name := "<init>", desc := "()V" } : Jvm.MethodName) jdk_18_method_1_code (1 : Nat) (Option.none : Option Jvm.ClassFile.FieldType)]
set_option maxRecDepth 65536 in
theorem codes_eq : words1.filter isCode = codes1 := rfl
theorem w_codes : ∀ c ∈ words1.filter isCode, c.before args0 about1 = true := by
  rw [codes_eq]
  intro c hc
  simp only [codes1, List.mem_cons, List.not_mem_nil, or_false] at hc
  rcases hc with rfl | rfl | rfl | rfl | rfl | rfl | rfl
  · exact w_c0
  · exact w_c1
  · exact w_c2
  · exact w_c3
  · exact w_c4
  · exact w_c5
  · exact w_c6
set_option maxRecDepth 65536 in
theorem w_t1 : (words1.take 24).all (fun c => isCode c || c.before args0 about1) = true := by decide +kernel
set_option maxRecDepth 65536 in
theorem w_t2 : (words1.drop 24).all (fun c => isCode c || c.before args0 about1) = true := by decide +kernel
theorem w_tables : (allAtoms (Jvm.Cond.code x code maxLocals ret :: tables_1)).before args0 about1 = true := by
  rw [allAtoms_all]
  show words1.all (fun c => c.before args0 about1) = true
  refine all_split ?_ w_codes
  rw [← List.take_append_drop 24 words1, List.all_append, w_t1, w_t2]
  rfl
set_option maxRecDepth 65536 in
theorem w_rest : rest_1_c.before args0 about1 = true := by decide +kernel
set_option maxRecDepth 65536 in
theorem w_case : (Jvm.Cond.and given_1 narrow_1).before args0 about1 = true := by decide +kernel
theorem w_applies : (headSpec (Jvm.Cond.code x code maxLocals ret :: tables_1) room_1).applies x e0.platform about1 = true :=
  (Spec.applies_iff w_frames).mpr ⟨w_running, w_runnable, w_alone, w_named, w_hears, w_ripe, w_room, w_tables⟩
theorem atStart : AtStart classFile x code maxLocals ret World_1 tables_1 room_1 Calls_1 rest_1 Pre_1 launch0 p0 e0 about1 theMethod args0 below0 :=
  ⟨lists_1, trivial, launch0.admits_env _ _ _, launch0.least_env, fairChoices_fair.cas, fairChoices_fair.clock, w_frames, w_args, w_heap, w_applies, trivial, w_rest, w_case⟩
end start1
theorem witness_1 : WitnessClaimed_1 := ⟨start1.p0, start1.e0, start1.about1, start1.theMethod, start1.args0, start1.below0, start1.atStart⟩
end Jvm.Pilot.@@N@@
