import JvmDerived
import JvmDerived.Pilot.@@N@@Statement
import JvmDerived.Pilot.@@N@@Code
set_option linter.unusedVariables false
set_option linter.unusedSimpArgs false
@@BLOCK:NumsL.lean.txt@@
namespace Jvm.RoadKit
open Sem ClassFile Op Lib Jvm.Stand Jvm.Free Jvm.LawKit
section New
variable {p : Program} {l : Launch} {e : Env} {R : Room} {s : State} {m : MethodId} {args : Array Value} {below : List Frame} {meth : Method} {c : Code} {T : State} {locs : List Loc} {cells slots : Nat}
theorem retI (X : Stand p l e R s m args below meth c T locs cells slots) (hx : p.tables.exec = Jvm.exec) {pc : Nat} {Ls : Array Slot} {z : Int32} {rest : List Value} (hret : meth.sig.returnType = some .int) (hd : decode c.code pc = .ok (.ireturn, 1)) {fs : List Frame}
    (hl : ∀ (f : JFrame) (acts : List Action), f.method = m → f.locked = none → f.entered = [] → (doReturn e (T.setTop f) acts (some (.int z))).1 = T.setFrames fs) : Steps p.tables e below (T.setTop (mkF m pc Ls (.int z :: rest))) (T.setFrames fs) := by
  have hm' : T.vm.method? m = some meth := X.method'
  have hn : narrow .int (.int z) = .int z := rfl
  show Steps p.tables e below (T.setTop { method := m, pc := pc, locals := Ls, stack := _ :: rest, locked := none }) _
  jvm_step X.here [X.here.top, hx, hd, hm', hret, hn]
  first | (intro acts; rw [hl _ acts rfl rfl rfl]) | rw [hl _ _ rfl rfl rfl]
  exact Steps.refl _
end New
end Jvm.RoadKit
namespace Jvm.Pilot.@@N@@
open Jvm Jvm.ClassFile Sem Op Lib Jvm.Free Jvm.Stand Jvm.LawKit Jvm.RoadKit Bundle Jvm.Pilot.@@N@@.Jvm.D

/-- what is left to show at a point of a walk -/
def own_Go (tb : Tables) (e : Env) (below : List Frame) (F : State → Outcome → Prop) (A : State) : Prop := ∃ t o, Steps tb e below A t ∧ F t o
theorem own_st {tb : Tables} {e : Env} {below : List Frame} {F : State → Outcome → Prop} {A B : State} (st : ∀ t, Steps tb e below A t → Steps tb e below B t) (h : own_Go tb e below F A) : own_Go tb e below F B := by
  obtain ⟨t, o, a, b⟩ := h
  exact ⟨t, o, st t a, b⟩
theorem own_end {tb : Tables} {e : Env} {below : List Frame} {F G : State → Outcome → Prop} {A t : State} {o : Outcome} (hF : F = G) (st : Steps tb e below A t) (h : G t o) : own_Go tb e below F A := by
  subst hF
  exact ⟨t, o, st, h⟩
/-- a body's contract: called with as' over the heap h0 it returns, and leaves what Q says -/
abbrev own_Met (l : Launch) (Z : State) (y : MethodName) (bytes : ByteArray) (ml : Nat) (rt : Option FieldType) (ws : List Jvm.Cond) (rm : Room) (as' : Array Value) (h0 : Heap) (Q : Option Value → Heap → List Loc → Prop) : Prop :=
  MetFree l y (head1 (Jvm.Cond.code y bytes ml rt :: ws) rm) (fun a U => a = as' ∧ Z.Warmed39 U.vm ∧ U.heap = h0) (fun _ _ _ _ _ => True) (fun _ U o U' => ∃ v L, o = .returned v ∧ Q v U'.heap L ∧ FrameEnd U o U' L rm.cells rm.slots)
/-- what a callee leaves that returns r and writes nothing -/
def own_Qp (r : Value) (h0 : Heap) (n0 : Nat) (v : Option Value) (h : Heap) (L : List Loc) : Prop := v = some r ∧ Fr n0 L ∧ h = h0
theorem own_ext_refl {h : Heap} : Ext h h := ⟨Nat.le_refl _, fun _ _ q => q⟩
theorem own_ext_ext {h0 h h' : Heap} (K : Ext h0 h) (E : Ext h h') : Ext h0 h' := ⟨Nat.le_trans K.1 E.1, fun x c q => E.2 x c (K.2 x c q)⟩
theorem own_ext_keep {h0 h h' : Heap} {ws : List Addr} (K : Ext h0 h) (E : Keep h h' ws) (q : ∀ x ∈ ws, h0.size ≤ x) : Ext h0 h' :=
  ⟨Nat.le_trans K.1 E.1, fun x c r => E.2.1 x c (K.2 x c r) fun z => absurd (Array.getElem?_eq_some_iff.mp r).1 (Nat.not_lt.mpr (q x z))⟩
theorem own_ext_wr {h0 h h' : Heap} {a : Addr} {sl : Nat} {v : Value} (K : Ext h0 h) (W : Wr h h' a sl v) (q : h0.size ≤ a) : Ext h0 h' := own_ext_keep K (Keep.of_wr W) (allS q all0)
theorem own_fld {args : Array Value} {s : State} {t : Term} {x : Addr} {C n d : String} {k : Int32} (ev : t.eval args s none [] s = some (.ref x)) (h : (Jvm.Cond.eq (.field t C n d) (.int k)).value args s none s [] = some true) : Fld s s.heap x C n d (.int k) := by
  obtain ⟨p, q, h1, h2, -, h4⟩ := cmp_v (Or.inl h)
  cases (show some (Value.int k) = some q from h2)
  obtain ⟨z, rfl⟩ := h4
  have e : z = k := by simpa [Jvm.Cond.value, h1, h2] using h
  subst e
  rw [fld_at ev] at h1
  exact Fld.start h1

def own_Q0 (h0 : Heap) (n0 : Nat) (v : Option Value) (h : Heap) (L : List Loc) : Prop := v = some (.int (1 : Int32)) ∧ Fr n0 L
theorem own_sm {x : Int64} (h1 : ¬ (x < (-128 : Int64))) (h2 : ¬ ((127 : Int64) < x)) : -128 ≤ x.toInt ∧ x.toInt ≤ 127 ∧ x.toInt32.toInt = x.toInt := by
  rw [Int64.lt_iff_toInt_lt] at h1 h2
  have e1 : (-128 : Int64).toInt = -128 := rfl
  have e2 : (127 : Int64).toInt = 127 := rfl
  rw [e1] at h1; rw [e2] at h2
  refine ⟨by omega, by omega, ?_⟩
  rw [Int64.toInt_toInt32, Int.bmod_def]
  omega
theorem own_idx {x : Int64} (h1 : ¬ (x < (-128 : Int64))) (h2 : ¬ ((127 : Int64) < x)) : ¬ (x.toInt32 + (128 : Int32)) < 0 ∧ (x.toInt32 + (128 : Int32)) < (256 : Int32) := by
  obtain ⟨a, b, c⟩ := own_sm h1 h2
  have e3 : (128 : Int32).toInt = 128 := rfl
  have e4 : (256 : Int32).toInt = 256 := rfl
  have e0 : (0 : Int32).toInt = 0 := rfl
  have e : (x.toInt32 + (128 : Int32)).toInt = x.toInt32.toInt + 128 := by
    rw [← e3]; exact Jvm.Kit.i32_add (by omega) (by omega)
  rw [Int32.lt_iff_toInt_lt, Int32.lt_iff_toInt_lt, e, e0, e4]
  omega
theorem own_back {x : Int64} (h1 : ¬ (x < (-128 : Int64))) (h2 : ¬ ((127 : Int64) < x)) : ((x.toInt32 + (128 : Int32)) - (128 : Int32)).toInt64 = x := by
  obtain ⟨a, b, c⟩ := own_sm h1 h2
  rw [Int32.add_sub_cancel, ← Int64.toInt_inj, Int32.toInt_toInt64, c]
theorem own_sub {args : Array Value} {first s : State} {o : Option Outcome} {idx : List Nat} {a b : Term} {x y : Int32} (ha : a.eval args first o idx s = some (.int x)) (hb : b.eval args first o idx s = some (.int y)) : (Term.sub a b).eval args first o idx s = some (.int (x - y)) := by simp [Term.eval, ha, hb]
def own_Qn (h0 : Heap) (n0 : Nat) (v : Option Value) (h : Heap) (L : List Loc) : Prop := v = none ∧ Fr n0 L ∧ h = h0
theorem d_own_ninit_0 : decode jdk_18_method_1_code 0 = .ok (.aload_n 0, 1) := by decide +kernel
theorem d_own_ninit_1 : decode jdk_18_method_1_code 1 = .ok (.invokespecial 1, 3) := by decide +kernel
theorem d_own_ninit_4 : decode jdk_18_method_1_code 4 = .ok (.return_, 1) := by decide +kernel
theorem pn_java_lang_Number : plainName "java/lang/Number" = true := by first | (simp [plainName, overriddenIn]; done) | decide +kernel
set_option maxRecDepth 65536 in
set_option maxHeartbeats 40000000 in
theorem own_ninit (l : Launch) (Z : State) (a0 : Array Value) (hw : ∀ d ∈ tables_1, d.before a0 Z = true) (ws : List Jvm.Cond) (a1 : Addr) (h0 : Heap) (n0 : Nat)  :
    own_Met l Z (⟨"java/lang/Number", "<init>", "()V"⟩ : MethodName) jdk_18_method_1_code 1 none ws ({ frames := 1, cells := 0, slots := 0, locals := 12 } : Room) #[(.ref a1)] h0 (own_Qn h0 n0) := by
  refine MetFree.of_bodySF (plainFor_of_name pn_java_lang_Number) hisR ?_
  intro p e s m args below meth c s₁ Bd hml0 hP hK
  obtain ⟨rfl, hZ, hh⟩ := hP
  have hx := Bd.exec
  have hby := Bd.bytes
  have hml : c.maxLocals = 1 := hml0
  have hown : s.vm.findClass "java/lang/Number" = some m.cls := findClass_of_methodNamed Bd.named
  have hnm := (name_of_methodNamed Bd.named Bd.method).1
  have X0 : Stand p l e ({ frames := 1, cells := 0, slots := 0, locals := 12 } : Room) s m #[(.ref a1)] below meth c s₁ [] 0 0 := Stand.of_body Bd
  have e0 : s₁.heap = h0 := by rw [← hh, Bd.state]; rfl
  have N0 := Fr.nil n0
  have hst : entryFrame m #[(.ref a1)] 1 = mkF m 0 #[.val (.ref a1)] [] := by first | (simp [entryFrame, mkF, argsToLocals, Value.category, maxLocals]; done) | rfl
  obtain ⟨F, hF⟩ : ∃ F : State → Outcome → Prop, F = fun s₂ o => (s₂.status = .running ∧ Ended s₂ below o ∧ ∃ v L, o = .returned v ∧ (own_Qn h0 n0) v s₂.heap L ∧ FrameEnd s o s₂ L (Room.cells ({ frames := 1, cells := 0, slots := 0, locals := 12 } : Room)) (Room.slots ({ frames := 1, cells := 0, slots := 0, locals := 12 } : Room))) := ⟨_, rfl⟩
  suffices G : own_Go p.tables e below F (s₁.setTop (mkF m 0 #[.val (.ref a1)] [])) by
    obtain ⟨t, o, a, b⟩ := G
    rw [hF] at b
    exact ⟨t, o, castTop hst a, b⟩
  show own_Go p.tables e below F (s₁.setTop (mkF m 0 #[.val (.ref a1)] []))
  refine own_st (fun _ k => XS.aloadN X0.here hx rfl (hb hby d_own_ninit_0) rfl rfl k) ?_
  show own_Go p.tables e below F (s₁.setTop (mkF m 1 #[.val (.ref a1)] [(.ref a1)]))
  obtain ⟨T1, X1, e1, st1⟩ := initO X0 hx hZ hown (hw _ (List.mem_of_getElem? (i := 54) rfl)) (hw _ (List.mem_of_getElem? (i := 12) rfl)) (hw _ (List.mem_of_getElem? (i := 13) rfl)) e0 (g := (mkF m 1 #[.val (.ref a1)] [(.ref a1)])) rfl (by rw [hml]; rfl) rfl (hb hby d_own_ninit_1) (by decide) (W := 0) (by show 2 * 0 + _ ≤ _; exact Nat.le_of_eq rfl) (by decide)
  refine own_st st1 ?_
  show own_Go p.tables e below F (T1.setTop (mkF m 4 #[.val (.ref a1)] []))
  obtain ⟨fs, hrL, hrun, hended, hW, hsame⟩ := X1.leave (v := none) (fun _ => rfl)
  refine own_end hF (o := .returned none) (X1.returnOut hx Bd.returns (hb hby d_own_ninit_4) hrL) ?_
  refine ⟨hrun, hended, _, _, rfl, ?_, ⟨_, rfl⟩, hW, hsame.mono (by decide) (by decide)⟩
  exact ⟨rfl, N0, e1⟩
theorem d_own_rinit_0 : decode jdk_30_method_1_code 0 = .ok (.aload_n 0, 1) := by decide +kernel
theorem d_own_rinit_1 : decode jdk_30_method_1_code 1 = .ok (.invokespecial 1, 3) := by decide +kernel
theorem d_own_rinit_4 : decode jdk_30_method_1_code 4 = .ok (.return_, 1) := by decide +kernel
theorem pn_java_lang_Record : plainName "java/lang/Record" = true := by first | (simp [plainName, overriddenIn]; done) | decide +kernel
set_option maxRecDepth 65536 in
set_option maxHeartbeats 40000000 in
theorem own_rinit (l : Launch) (Z : State) (a0 : Array Value) (hw : ∀ d ∈ tables_1, d.before a0 Z = true) (ws : List Jvm.Cond) (a1 : Addr) (h0 : Heap) (n0 : Nat)  :
    own_Met l Z (⟨"java/lang/Record", "<init>", "()V"⟩ : MethodName) jdk_30_method_1_code 1 none ws ({ frames := 1, cells := 0, slots := 0, locals := 12 } : Room) #[(.ref a1)] h0 (own_Qn h0 n0) := by
  refine MetFree.of_bodySF (plainFor_of_name pn_java_lang_Record) hisR ?_
  intro p e s m args below meth c s₁ Bd hml0 hP hK
  obtain ⟨rfl, hZ, hh⟩ := hP
  have hx := Bd.exec
  have hby := Bd.bytes
  have hml : c.maxLocals = 1 := hml0
  have hown : s.vm.findClass "java/lang/Record" = some m.cls := findClass_of_methodNamed Bd.named
  have hnm := (name_of_methodNamed Bd.named Bd.method).1
  have X0 : Stand p l e ({ frames := 1, cells := 0, slots := 0, locals := 12 } : Room) s m #[(.ref a1)] below meth c s₁ [] 0 0 := Stand.of_body Bd
  have e0 : s₁.heap = h0 := by rw [← hh, Bd.state]; rfl
  have N0 := Fr.nil n0
  have hst : entryFrame m #[(.ref a1)] 1 = mkF m 0 #[.val (.ref a1)] [] := by first | (simp [entryFrame, mkF, argsToLocals, Value.category, maxLocals]; done) | rfl
  obtain ⟨F, hF⟩ : ∃ F : State → Outcome → Prop, F = fun s₂ o => (s₂.status = .running ∧ Ended s₂ below o ∧ ∃ v L, o = .returned v ∧ (own_Qn h0 n0) v s₂.heap L ∧ FrameEnd s o s₂ L (Room.cells ({ frames := 1, cells := 0, slots := 0, locals := 12 } : Room)) (Room.slots ({ frames := 1, cells := 0, slots := 0, locals := 12 } : Room))) := ⟨_, rfl⟩
  suffices G : own_Go p.tables e below F (s₁.setTop (mkF m 0 #[.val (.ref a1)] [])) by
    obtain ⟨t, o, a, b⟩ := G
    rw [hF] at b
    exact ⟨t, o, castTop hst a, b⟩
  show own_Go p.tables e below F (s₁.setTop (mkF m 0 #[.val (.ref a1)] []))
  refine own_st (fun _ k => XS.aloadN X0.here hx rfl (hb hby d_own_rinit_0) rfl rfl k) ?_
  show own_Go p.tables e below F (s₁.setTop (mkF m 1 #[.val (.ref a1)] [(.ref a1)]))
  obtain ⟨T1, X1, e1, st1⟩ := initO X0 hx hZ hown (hw _ (List.mem_of_getElem? (i := 11) rfl)) (hw _ (List.mem_of_getElem? (i := 12) rfl)) (hw _ (List.mem_of_getElem? (i := 13) rfl)) e0 (g := (mkF m 1 #[.val (.ref a1)] [(.ref a1)])) rfl (by rw [hml]; rfl) rfl (hb hby d_own_rinit_1) (by decide) (W := 0) (by show 2 * 0 + _ ≤ _; exact Nat.le_of_eq rfl) (by decide)
  refine own_st st1 ?_
  show own_Go p.tables e below F (T1.setTop (mkF m 4 #[.val (.ref a1)] []))
  obtain ⟨fs, hrL, hrun, hended, hW, hsame⟩ := X1.leave (v := none) (fun _ => rfl)
  refine own_end hF (o := .returned none) (X1.returnOut hx Bd.returns (hb hby d_own_rinit_4) hrL) ?_
  refine ⟨hrun, hended, _, _, rfl, ?_, ⟨_, rfl⟩, hW, hsame.mono (by decide) (by decide)⟩
  exact ⟨rfl, N0, e1⟩
def own_Ql (Z : State) (a1 : Addr) (p2 : Int64) (h0 : Heap) (n0 : Nat) (v : Option Value) (h : Heap) (L : List Loc) : Prop := v = none ∧ Fr n0 L ∧ Keep h0 h [a1] ∧ Exa Z h a1 "java/lang/Long" ∧ Fld Z h a1 "java/lang/Long" "value" "J" (.long p2)
theorem d_own_linit_0 : decode jdk_35_method_26_code 0 = .ok (.aload_n 0, 1) := by decide +kernel
theorem d_own_linit_1 : decode jdk_35_method_26_code 1 = .ok (.invokespecial 270, 3) := by decide +kernel
theorem d_own_linit_4 : decode jdk_35_method_26_code 4 = .ok (.aload_n 0, 1) := by decide +kernel
theorem d_own_linit_5 : decode jdk_35_method_26_code 5 = .ok (.lload_n 1, 1) := by decide +kernel
theorem d_own_linit_6 : decode jdk_35_method_26_code 6 = .ok (.putfield 273, 3) := by decide +kernel
theorem d_own_linit_9 : decode jdk_35_method_26_code 9 = .ok (.return_, 1) := by decide +kernel
theorem pn_java_lang_Long : plainName "java/lang/Long" = true := by first | (simp [plainName, overriddenIn]; done) | decide +kernel
theorem pd_0 : parseMethodDescriptor "()V" = some ⟨[], none⟩ := by decide +kernel
set_option maxRecDepth 65536 in
set_option maxHeartbeats 40000000 in
theorem own_linit (l : Launch) (Z : State) (a0 : Array Value) (hw : ∀ d ∈ tables_1, d.before a0 Z = true) (ws : List Jvm.Cond) (a1 : Addr) (p2 : Int64) (u1 : Value) (h0 : Heap) (n0 : Nat) (Z0 : n0 ≤ h0.size) (E_a1 : Exa Z h0 a1 "java/lang/Long") (F_a1 : Fld Z h0 a1 "java/lang/Long" "value" "J" u1) (gn_a1 : n0 ≤ a1) :
    own_Met l Z (⟨"java/lang/Long", "<init>", "(J)V"⟩ : MethodName) jdk_35_method_26_code 3 none ws ({ frames := 2, cells := 0, slots := 0, locals := 24 } : Room) #[(.ref a1), (.long p2)] h0 (own_Ql Z a1 p2 h0 n0) := by
  refine MetFree.of_bodySF (plainFor_of_name pn_java_lang_Long) hisR ?_
  intro p e s m args below meth c s₁ Bd hml0 hP hK
  obtain ⟨rfl, hZ, hh⟩ := hP
  have hx := Bd.exec
  have hby := Bd.bytes
  have hml : c.maxLocals = 3 := hml0
  have hown : s.vm.findClass "java/lang/Long" = some m.cls := findClass_of_methodNamed Bd.named
  have hnm := (name_of_methodNamed Bd.named Bd.method).1
  have X0 : Stand p l e ({ frames := 2, cells := 0, slots := 0, locals := 24 } : Room) s m #[(.ref a1), (.long p2)] below meth c s₁ [] 0 0 := Stand.of_body Bd
  have e0 : s₁.heap = h0 := by rw [← hh, Bd.state]; rfl
  have N0 := Fr.nil n0
  have hst : entryFrame m #[(.ref a1), (.long p2)] 3 = mkF m 0 #[.val (.ref a1), .val (.long p2), .second] [] := by first | (simp [entryFrame, mkF, argsToLocals, Value.category, maxLocals]; done) | rfl
  obtain ⟨F, hF⟩ : ∃ F : State → Outcome → Prop, F = fun s₂ o => (s₂.status = .running ∧ Ended s₂ below o ∧ ∃ v L, o = .returned v ∧ (own_Ql Z a1 p2 h0 n0) v s₂.heap L ∧ FrameEnd s o s₂ L (Room.cells ({ frames := 2, cells := 0, slots := 0, locals := 24 } : Room)) (Room.slots ({ frames := 2, cells := 0, slots := 0, locals := 24 } : Room))) := ⟨_, rfl⟩
  suffices G : own_Go p.tables e below F (s₁.setTop (mkF m 0 #[.val (.ref a1), .val (.long p2), .second] [])) by
    obtain ⟨t, o, a, b⟩ := G
    rw [hF] at b
    exact ⟨t, o, castTop hst a, b⟩
  show own_Go p.tables e below F (s₁.setTop (mkF m 0 #[.val (.ref a1), .val (.long p2), .second] []))
  refine own_st (fun _ k => XS.aloadN X0.here hx rfl (hb hby d_own_linit_0) rfl rfl k) ?_
  show own_Go p.tables e below F (s₁.setTop (mkF m 1 #[.val (.ref a1), .val (.long p2), .second] [(.ref a1)]))
  obtain ⟨_, _, ⟨T1, L1, k1, n1⟩, -, X1, ⟨Lc1, hQ1, l1, y1, z1⟩, st1⟩ := X0.specialBack hx (y := (⟨"java/lang/Number", "<init>", "()V"⟩ : MethodName)) rfl hown (mvT hZ (hw _ (List.mem_of_getElem? (i := 48) rfl))) (mvT hZ (hw _ (List.mem_of_getElem? (i := 49) rfl))) (mvT hZ (hw _ (List.mem_of_getElem? (i := 53) rfl))) (by decide) (backOf (W := 0) (own_ninit l Z a0 hw [] a1 h0 n0) hZ (hw _ (List.mem_of_getElem? (i := 53) rfl)) (hw _ (List.mem_of_getElem? (i := 52) rfl)) (by decide) (by decide)) (g := (mkF m 1 #[.val (.ref a1), .val (.long p2), .second] [(.ref a1)])) rfl (by rw [hml]; rfl) (Steps.refl _) (a := a1) (argsL := []) (rest := []) (lenOf pd_0 rfl) rfl (by show 2 * 0 + _ ≤ _; exact Nat.le_of_eq rfl) (hb hby d_own_linit_1) (fun _ _ => ⟨rfl, e0, (by decide : 0 + 0 ≤ _), (by decide : 0 + 0 ≤ _)⟩)
  dsimp only [Pt.U, Pt.locs, Pt.cells, Pt.slots] at X1 l1 y1 z1 st1 hQ1
  subst l1 y1 z1
  obtain ⟨rfl, N1q, e1⟩ := hQ1
  have N1 := Fr.app N0 N1q
  refine own_st (fun _ k => st1.trans k) ?_
  show own_Go p.tables e below F (T1.setTop (mkF m 4 #[.val (.ref a1), .val (.long p2), .second] []))
  refine own_st (fun _ k => XS.aloadN X1.here hx rfl (hb hby d_own_linit_4) rfl rfl k) ?_
  show own_Go p.tables e below F (T1.setTop (mkF m 5 #[.val (.ref a1), .val (.long p2), .second] [(.ref a1)]))
  refine own_st (fun _ k => XS.lloadN X1.here hx rfl (hb hby d_own_linit_5) rfl k) ?_
  show own_Go p.tables e below F (T1.setTop (mkF m 6 #[.val (.ref a1), .val (.long p2), .second] [(.long p2), (.ref a1)]))
  obtain ⟨T2, h2, X2, e2, W2, st2⟩ := putF X1 hx hZ hown (host := "") (Or.inl (hw _ (List.mem_of_getElem? (i := 40) rfl))) Via.refl e1 F_a1 E_a1 (Or.inr ⟨(hw _ (List.mem_of_getElem? (i := 41) rfl)), rfl, hnm⟩) (hw _ (List.mem_of_getElem? (i := 43) rfl)) (ty := .long) (by decide) rfl rfl (g := (mkF m 6 #[.val (.ref a1), .val (.long p2), .second] [(.long p2), (.ref a1)])) rfl rfl (hb hby d_own_linit_6)
  have Fw2 := F_a1.same W2
  have E_a1__2 := E_a1.wr W2
  have KW_2 := (Keep.refl h0 [a1]).wr W2 (Or.inl (List.mem_of_getElem? (i := 0) rfl))
  have N2 := Fr.snoc X2 N1 gn_a1
  refine own_st st2 ?_
  show own_Go p.tables e below F (T2.setTop (mkF m 9 #[.val (.ref a1), .val (.long p2), .second] []))
  obtain ⟨fs, hrL, hrun, hended, hW, hsame⟩ := X2.leave (v := none) (fun _ => rfl)
  refine own_end hF (o := .returned none) (X2.returnOut hx Bd.returns (hb hby d_own_linit_9) hrL) ?_
  refine ⟨hrun, hended, _, _, rfl, ?_, ⟨_, rfl⟩, hW, hsame.mono (by decide) (by decide)⟩
  have eh : T2.heap = h2 := e2
  show own_Ql Z a1 p2 h0 n0 _ T2.heap _
  rw [eh]
  exact ⟨rfl, N2, KW_2, E_a1__2, Fw2⟩
def own_Qv (Z : State) (p1 : Int64) (h0 : Heap) (n0 : Nat) (v : Option Value) (h : Heap) (L : List Loc) : Prop := ∃ b : Addr, v = some (.ref b) ∧ Fr n0 L ∧ Keep h0 h [] ∧ Exa Z h b "java/lang/Long" ∧ Fld Z h b "java/lang/Long" "value" "J" (.long p1)
theorem d_own_vof_0 : decode jdk_35_method_24_code 0 = .ok (.sipush 128, 3) := by decide +kernel
theorem d_own_vof_3 : decode jdk_35_method_24_code 3 = .ok (.istore_n 2, 1) := by decide +kernel
theorem d_own_vof_4 : decode jdk_35_method_24_code 4 = .ok (.lload_n 0, 1) := by decide +kernel
theorem d_own_vof_5 : decode jdk_35_method_24_code 5 = .ok (.ldc2_w 230, 3) := by decide +kernel
theorem d_own_vof_8 : decode jdk_35_method_24_code 8 = .ok (.lcmp, 1) := by decide +kernel
theorem d_own_vof_9 : decode jdk_35_method_24_code 9 = .ok (.ifCond .lt 22, 3) := by decide +kernel
theorem d_own_vof_12 : decode jdk_35_method_24_code 12 = .ok (.lload_n 0, 1) := by decide +kernel
theorem d_own_vof_13 : decode jdk_35_method_24_code 13 = .ok (.ldc2_w 232, 3) := by decide +kernel
theorem d_own_vof_16 : decode jdk_35_method_24_code 16 = .ok (.lcmp, 1) := by decide +kernel
theorem d_own_vof_17 : decode jdk_35_method_24_code 17 = .ok (.ifCond .gt 14, 3) := by decide +kernel
theorem d_own_vof_20 : decode jdk_35_method_24_code 20 = .ok (.getstatic 234, 3) := by decide +kernel
theorem d_own_vof_23 : decode jdk_35_method_24_code 23 = .ok (.lload_n 0, 1) := by decide +kernel
theorem d_own_vof_24 : decode jdk_35_method_24_code 24 = .ok (.l2i, 1) := by decide +kernel
theorem d_own_vof_25 : decode jdk_35_method_24_code 25 = .ok (.sipush 128, 3) := by decide +kernel
theorem d_own_vof_28 : decode jdk_35_method_24_code 28 = .ok (.iadd, 1) := by decide +kernel
theorem d_own_vof_29 : decode jdk_35_method_24_code 29 = .ok (.aaload, 1) := by decide +kernel
theorem d_own_vof_30 : decode jdk_35_method_24_code 30 = .ok (.areturn, 1) := by decide +kernel
theorem d_own_vof_31 : decode jdk_35_method_24_code 31 = .ok (.new 1, 3) := by decide +kernel
theorem d_own_vof_34 : decode jdk_35_method_24_code 34 = .ok (.dup, 1) := by decide +kernel
theorem d_own_vof_35 : decode jdk_35_method_24_code 35 = .ok (.lload_n 0, 1) := by decide +kernel
theorem d_own_vof_36 : decode jdk_35_method_24_code 36 = .ok (.invokespecial 240, 3) := by decide +kernel
theorem d_own_vof_39 : decode jdk_35_method_24_code 39 = .ok (.areturn, 1) := by decide +kernel
theorem pd_1 : parseMethodDescriptor "(J)V" = some ⟨[.long], none⟩ := by decide +kernel
set_option maxRecDepth 65536 in
set_option maxHeartbeats 40000000 in
theorem own_vof (l : Launch) (Z : State) (a0 : Array Value) (hw : ∀ d ∈ tables_1, d.before a0 Z = true) (ws : List Jvm.Cond) (p1 : Int64) (cA : Addr) (cl : Cell) (h0 : Heap) (n0 : Nat) (Z0 : n0 ≤ h0.size) (O : Ext Z.heap h0) (SC : Sta Z Z.heap "java/lang/Long$LongCache" "cache" "[Ljava/lang/Long;" (.ref cA)) (B : Bxs Z cA cl "java/lang/Long" "J" (256 : Int32) (fun j => .long (j - (128 : Int32)).toInt64)) :
    own_Met l Z (⟨"java/lang/Long", "valueOf", "(J)Ljava/lang/Long;"⟩ : MethodName) jdk_35_method_24_code 3 (some (.object "java/lang/Long")) ws ({ frames := 3, cells := 1, slots := 1, locals := 39 } : Room) #[(.long p1)] h0 (own_Qv Z p1 h0 n0) := by
  refine MetFree.of_bodySF (plainFor_of_name pn_java_lang_Long) hisR ?_
  intro p e s m args below meth c s₁ Bd hml0 hP hK
  obtain ⟨rfl, hZ, hh⟩ := hP
  have hx := Bd.exec
  have hby := Bd.bytes
  have hml : c.maxLocals = 3 := hml0
  have hown : s.vm.findClass "java/lang/Long" = some m.cls := findClass_of_methodNamed Bd.named
  have hnm := (name_of_methodNamed Bd.named Bd.method).1
  have X0 : Stand p l e ({ frames := 3, cells := 1, slots := 1, locals := 39 } : Room) s m #[(.long p1)] below meth c s₁ [] 0 0 := Stand.of_body Bd
  have e0 : s₁.heap = h0 := by rw [← hh, Bd.state]; rfl
  have N0 := Fr.nil n0
  have hst : entryFrame m #[(.long p1)] 3 = mkF m 0 #[.val (.long p1), .second, .unset] [] := by first | (simp [entryFrame, mkF, argsToLocals, Value.category, maxLocals]; done) | rfl
  obtain ⟨F, hF⟩ : ∃ F : State → Outcome → Prop, F = fun s₂ o => (s₂.status = .running ∧ Ended s₂ below o ∧ ∃ v L, o = .returned v ∧ (own_Qv Z p1 h0 n0) v s₂.heap L ∧ FrameEnd s o s₂ L (Room.cells ({ frames := 3, cells := 1, slots := 1, locals := 39 } : Room)) (Room.slots ({ frames := 3, cells := 1, slots := 1, locals := 39 } : Room))) := ⟨_, rfl⟩
  suffices G : own_Go p.tables e below F (s₁.setTop (mkF m 0 #[.val (.long p1), .second, .unset] [])) by
    obtain ⟨t, o, a, b⟩ := G
    rw [hF] at b
    exact ⟨t, o, castTop hst a, b⟩
  show own_Go p.tables e below F (s₁.setTop (mkF m 0 #[.val (.long p1), .second, .unset] []))
  refine own_st (fun _ k => XS.sipush X0.here hx rfl (hb hby d_own_vof_0) k) ?_
  show own_Go p.tables e below F (s₁.setTop (mkF m 3 #[.val (.long p1), .second, .unset] [(.int (128 : Int32))]))
  refine own_st (fun _ k => XS.istoreN X0.here hx rfl (hb hby d_own_vof_3) rfl (l' := #[.val (.long p1), .second, .val (.int (128 : Int32))]) rfl k) ?_
  show own_Go p.tables e below F (s₁.setTop (mkF m 4 #[.val (.long p1), .second, .val (.int (128 : Int32))] []))
  refine own_st (fun _ k => XS.lloadN X0.here hx rfl (hb hby d_own_vof_4) rfl k) ?_
  show own_Go p.tables e below F (s₁.setTop (mkF m 5 #[.val (.long p1), .second, .val (.int (128 : Int32))] [(.long p1)]))
  refine own_st (X0.ldc2Long hx hown (mvT hZ (hw _ (List.mem_of_getElem? (i := 26) rfl))) (g := (mkF m 5 #[.val (.long p1), .second, .val (.int (128 : Int32))] [(.long p1)])) rfl (hb hby d_own_vof_5)) ?_
  show own_Go p.tables e below F (s₁.setTop (mkF m 8 #[.val (.long p1), .second, .val (.int (128 : Int32))] [(.long (-128 : Int64)), (.long p1)]))
  refine own_st (fun _ k => XS.lcmp X0.here hx rfl (hb hby d_own_vof_8) rfl k) ?_
  show own_Go p.tables e below F (s₁.setTop (mkF m 9 #[.val (.long p1), .second, .val (.int (128 : Int32))] [(.int (lcmpW p1 (-128 : Int64)))]))
  by_cases hc9 : (lcmpW p1 (-128 : Int64)) < (0 : Int32)
  ·
    refine own_st (fun _ k => XS.ifYes X0.here hx rfl (pc0 := 9) (pc' := 31) rfl (hb hby d_own_vof_9) rfl ((if0 _ _).trans (tlt hc9).1) (by decide) (by decide) k) ?_
    show own_Go p.tables e below F (s₁.setTop (mkF m 31 #[.val (.long p1), .second, .val (.int (128 : Int32))] []))
    obtain ⟨T1, h1, X1, e1, E1, A1, D1, -, st1⟩ := newO X0 hx hZ hown (hw _ (List.mem_of_getElem? (i := 42) rfl)) (hw _ (List.mem_of_getElem? (i := 43) rfl)) (hw _ (List.mem_of_getElem? (i := 24) rfl)) e0 (g := (mkF m 31 #[.val (.long p1), .second, .val (.int (128 : Int32))] [])) rfl (hb hby d_own_vof_31) (by decide) (by decide)
    obtain ⟨b1, g1⟩ : ∃ z, z = h0.size := ⟨_, rfl⟩
    rw [← g1] at A1 D1 st1
    have sz_b1 : h0.size ≤ b1 := Nat.le_trans own_ext_refl.1 (Nat.le_of_eq g1.symm)
    have gn_b1 : n0 ≤ b1 := Nat.le_trans Z0 sz_b1
    have K0_1 := own_ext_ext own_ext_refl E1
    have F1_value : Fld Z h1 b1 "java/lang/Long" "value" "J" (.long (0 : Int64)) := D1 (Or.inr (hw _ (List.mem_of_getElem? (i := 41) rfl))) (ty := .long) (by decide)
    refine own_st st1 ?_
    show own_Go p.tables e below F (T1.setTop (mkF m 34 #[.val (.long p1), .second, .val (.int (128 : Int32))] [(.ref b1)]))
    refine own_st (fun _ k => XS.dup X1.here hx rfl (hb hby d_own_vof_34) rfl rfl k) ?_
    show own_Go p.tables e below F (T1.setTop (mkF m 35 #[.val (.long p1), .second, .val (.int (128 : Int32))] [(.ref b1), (.ref b1)]))
    refine own_st (fun _ k => XS.lloadN X1.here hx rfl (hb hby d_own_vof_35) rfl k) ?_
    show own_Go p.tables e below F (T1.setTop (mkF m 36 #[.val (.long p1), .second, .val (.int (128 : Int32))] [(.long p1), (.ref b1), (.ref b1)]))
    obtain ⟨_, _, ⟨T2, L2, k2, n2⟩, -, X2, ⟨Lc2, hQ2, l2, y2, z2⟩, st2⟩ := X1.specialBack hx (y := (⟨"java/lang/Long", "<init>", "(J)V"⟩ : MethodName)) rfl hown (mvT hZ (hw _ (List.mem_of_getElem? (i := 44) rfl))) (mvT hZ (hw _ (List.mem_of_getElem? (i := 45) rfl))) (mvT hZ (hw _ (List.mem_of_getElem? (i := 47) rfl))) (by decide) (backOf (W := 1) (own_linit l Z a0 hw [] b1 p1 _ h1 n0 (Nat.le_trans Z0 K0_1.1) A1 F1_value gn_b1) hZ (hw _ (List.mem_of_getElem? (i := 47) rfl)) (hw _ (List.mem_of_getElem? (i := 24) rfl)) (by decide) (by decide)) (g := (mkF m 36 #[.val (.long p1), .second, .val (.int (128 : Int32))] [(.long p1), (.ref b1), (.ref b1)])) rfl (by rw [hml]; rfl) (Steps.refl _) (a := b1) (argsL := [(.long p1)]) (rest := [(.ref b1)]) (lenOf pd_1 rfl) rfl (by show 2 * 0 + _ ≤ _; exact Nat.le_of_eq rfl) (hb hby d_own_vof_36) (fun _ _ => ⟨rfl, e1, (by decide : 1 + 0 ≤ _), (by decide : 1 + 0 ≤ _)⟩)
    dsimp only [Pt.U, Pt.locs, Pt.cells, Pt.slots] at X2 l2 y2 z2 st2 hQ2
    subst l2 y2 z2
    obtain ⟨rfl, N2q, K2, En2, Fn2⟩ := hQ2
    have N2 := Fr.app N0 N2q
    refine own_st (fun _ k => st2.trans k) ?_
    have A1__2 := A1.keep K2
    have K0_2 := own_ext_keep K0_1 K2 (allS sz_b1 all0)
    show own_Go p.tables e below F (T2.setTop (mkF m 39 #[.val (.long p1), .second, .val (.int (128 : Int32))] [(.ref b1)]))
    obtain ⟨fs, hrL, hrun, hended, hW, hsame⟩ := X2.leave (v := some (.ref b1)) (fun h => by rw [Bd.returns] at h; cases h)
    refine own_end hF (o := .returned (some (.ref b1))) (retOut X2 hx (t := (.object "java/lang/Long")) (i := .areturn) Bd.returns rfl (Or.inr (Or.inr (Or.inr (Or.inr ⟨rfl, rfl, rfl⟩)))) (hb hby d_own_vof_39) hrL) ?_
    refine ⟨hrun, hended, _, _, rfl, ?_, ⟨_, rfl⟩, hW, hsame.mono (by decide) (by decide)⟩
    exact ⟨b1, rfl, N2, (Keep.refl h0 []).ext K0_2, A1__2, Fn2⟩
  ·
    refine own_st (fun _ k => XS.ifNo X0.here hx rfl (hb hby d_own_vof_9) rfl ((if0 _ _).trans (flt hc9).1) k) ?_
    show own_Go p.tables e below F (s₁.setTop (mkF m 12 #[.val (.long p1), .second, .val (.int (128 : Int32))] []))
    refine own_st (fun _ k => XS.lloadN X0.here hx rfl (hb hby d_own_vof_12) rfl k) ?_
    show own_Go p.tables e below F (s₁.setTop (mkF m 13 #[.val (.long p1), .second, .val (.int (128 : Int32))] [(.long p1)]))
    refine own_st (X0.ldc2Long hx hown (mvT hZ (hw _ (List.mem_of_getElem? (i := 27) rfl))) (g := (mkF m 13 #[.val (.long p1), .second, .val (.int (128 : Int32))] [(.long p1)])) rfl (hb hby d_own_vof_13)) ?_
    show own_Go p.tables e below F (s₁.setTop (mkF m 16 #[.val (.long p1), .second, .val (.int (128 : Int32))] [(.long (127 : Int64)), (.long p1)]))
    refine own_st (fun _ k => XS.lcmp X0.here hx rfl (hb hby d_own_vof_16) rfl k) ?_
    show own_Go p.tables e below F (s₁.setTop (mkF m 17 #[.val (.long p1), .second, .val (.int (128 : Int32))] [(.int (lcmpW p1 (127 : Int64)))]))
    by_cases hc17 : (0 : Int32) < (lcmpW p1 (127 : Int64))
    ·
      refine own_st (fun _ k => XS.ifYes X0.here hx rfl (pc0 := 17) (pc' := 31) rfl (hb hby d_own_vof_17) rfl ((if0 _ _).trans (tlt hc17).2.2.1) (by decide) (by decide) k) ?_
      show own_Go p.tables e below F (s₁.setTop (mkF m 31 #[.val (.long p1), .second, .val (.int (128 : Int32))] []))
      obtain ⟨T3, h3, X3, e3, E3, A3, D3, -, st3⟩ := newO X0 hx hZ hown (hw _ (List.mem_of_getElem? (i := 42) rfl)) (hw _ (List.mem_of_getElem? (i := 43) rfl)) (hw _ (List.mem_of_getElem? (i := 24) rfl)) e0 (g := (mkF m 31 #[.val (.long p1), .second, .val (.int (128 : Int32))] [])) rfl (hb hby d_own_vof_31) (by decide) (by decide)
      obtain ⟨b3, g3⟩ : ∃ z, z = h0.size := ⟨_, rfl⟩
      rw [← g3] at A3 D3 st3
      have sz_b3 : h0.size ≤ b3 := Nat.le_trans own_ext_refl.1 (Nat.le_of_eq g3.symm)
      have gn_b3 : n0 ≤ b3 := Nat.le_trans Z0 sz_b3
      have K0_3 := own_ext_ext own_ext_refl E3
      have F3_value : Fld Z h3 b3 "java/lang/Long" "value" "J" (.long (0 : Int64)) := D3 (Or.inr (hw _ (List.mem_of_getElem? (i := 41) rfl))) (ty := .long) (by decide)
      refine own_st st3 ?_
      show own_Go p.tables e below F (T3.setTop (mkF m 34 #[.val (.long p1), .second, .val (.int (128 : Int32))] [(.ref b3)]))
      refine own_st (fun _ k => XS.dup X3.here hx rfl (hb hby d_own_vof_34) rfl rfl k) ?_
      show own_Go p.tables e below F (T3.setTop (mkF m 35 #[.val (.long p1), .second, .val (.int (128 : Int32))] [(.ref b3), (.ref b3)]))
      refine own_st (fun _ k => XS.lloadN X3.here hx rfl (hb hby d_own_vof_35) rfl k) ?_
      show own_Go p.tables e below F (T3.setTop (mkF m 36 #[.val (.long p1), .second, .val (.int (128 : Int32))] [(.long p1), (.ref b3), (.ref b3)]))
      obtain ⟨_, _, ⟨T4, L4, k4, n4⟩, -, X4, ⟨Lc4, hQ4, l4, y4, z4⟩, st4⟩ := X3.specialBack hx (y := (⟨"java/lang/Long", "<init>", "(J)V"⟩ : MethodName)) rfl hown (mvT hZ (hw _ (List.mem_of_getElem? (i := 44) rfl))) (mvT hZ (hw _ (List.mem_of_getElem? (i := 45) rfl))) (mvT hZ (hw _ (List.mem_of_getElem? (i := 47) rfl))) (by decide) (backOf (W := 1) (own_linit l Z a0 hw [] b3 p1 _ h3 n0 (Nat.le_trans Z0 K0_3.1) A3 F3_value gn_b3) hZ (hw _ (List.mem_of_getElem? (i := 47) rfl)) (hw _ (List.mem_of_getElem? (i := 24) rfl)) (by decide) (by decide)) (g := (mkF m 36 #[.val (.long p1), .second, .val (.int (128 : Int32))] [(.long p1), (.ref b3), (.ref b3)])) rfl (by rw [hml]; rfl) (Steps.refl _) (a := b3) (argsL := [(.long p1)]) (rest := [(.ref b3)]) (lenOf pd_1 rfl) rfl (by show 2 * 0 + _ ≤ _; exact Nat.le_of_eq rfl) (hb hby d_own_vof_36) (fun _ _ => ⟨rfl, e3, (by decide : 1 + 0 ≤ _), (by decide : 1 + 0 ≤ _)⟩)
      dsimp only [Pt.U, Pt.locs, Pt.cells, Pt.slots] at X4 l4 y4 z4 st4 hQ4
      subst l4 y4 z4
      obtain ⟨rfl, N4q, K4, En4, Fn4⟩ := hQ4
      have N4 := Fr.app N0 N4q
      refine own_st (fun _ k => st4.trans k) ?_
      have A3__4 := A3.keep K4
      have K0_4 := own_ext_keep K0_3 K4 (allS sz_b3 all0)
      show own_Go p.tables e below F (T4.setTop (mkF m 39 #[.val (.long p1), .second, .val (.int (128 : Int32))] [(.ref b3)]))
      obtain ⟨fs, hrL, hrun, hended, hW, hsame⟩ := X4.leave (v := some (.ref b3)) (fun h => by rw [Bd.returns] at h; cases h)
      refine own_end hF (o := .returned (some (.ref b3))) (retOut X4 hx (t := (.object "java/lang/Long")) (i := .areturn) Bd.returns rfl (Or.inr (Or.inr (Or.inr (Or.inr ⟨rfl, rfl, rfl⟩)))) (hb hby d_own_vof_39) hrL) ?_
      refine ⟨hrun, hended, _, _, rfl, ?_, ⟨_, rfl⟩, hW, hsame.mono (by decide) (by decide)⟩
      exact ⟨b3, rfl, N4, (Keep.refl h0 []).ext K0_4, A3__4, Fn4⟩
    ·
      refine own_st (fun _ k => XS.ifNo X0.here hx rfl (hb hby d_own_vof_17) rfl ((if0 _ _).trans (flt hc17).2.2.1) k) ?_
      show own_Go p.tables e below F (s₁.setTop (mkF m 20 #[.val (.long p1), .second, .val (.int (128 : Int32))] []))
      obtain ⟨T5, X5, e5, st5⟩ := getS2 X0 hx hZ hown (host := "") (Or.inl (hw _ (List.mem_of_getElem? (i := 28) rfl))) Via.refl e0 (SC.ext O) (g := (mkF m 20 #[.val (.long p1), .second, .val (.int (128 : Int32))] [])) rfl (hb hby d_own_vof_20)
      refine own_st st5 ?_
      show own_Go p.tables e below F (T5.setTop (mkF m 23 #[.val (.long p1), .second, .val (.int (128 : Int32))] [(.ref cA)]))
      refine own_st (fun _ k => XS.lloadN X5.here hx rfl (hb hby d_own_vof_23) rfl k) ?_
      show own_Go p.tables e below F (T5.setTop (mkF m 24 #[.val (.long p1), .second, .val (.int (128 : Int32))] [(.long p1), (.ref cA)]))
      refine own_st (fun _ k => XS.l2i X5.here hx rfl (hb hby d_own_vof_24) rfl k) ?_
      show own_Go p.tables e below F (T5.setTop (mkF m 25 #[.val (.long p1), .second, .val (.int (128 : Int32))] [(.int (p1.toInt32)), (.ref cA)]))
      refine own_st (fun _ k => XS.sipush X5.here hx rfl (hb hby d_own_vof_25) k) ?_
      show own_Go p.tables e below F (T5.setTop (mkF m 28 #[.val (.long p1), .second, .val (.int (128 : Int32))] [(.int (128 : Int32)), (.int (p1.toInt32)), (.ref cA)]))
      refine own_st (fun _ k => XS.iadd X5.here hx rfl (hb hby d_own_vof_28) rfl k) ?_
      show own_Go p.tables e below F (T5.setTop (mkF m 29 #[.val (.long p1), .second, .val (.int (128 : Int32))] [(.int ((p1.toInt32) + (128 : Int32))), (.ref cA)]))
      have hq1 : ¬ (p1 < (-128 : Int64)) := fun z => hc9 ((lw_lt _ _).mpr z)
      have hq2 : ¬ ((127 : Int64) < p1) := fun z => hc17 ((lw_gt _ _).mpr z)
      obtain ⟨ArC, SzC, NzC⟩ := B.ext O
      have hin := inb_of (j := ((p1.toInt32) + (128 : Int32))) SzC (own_idx hq1 hq2)
      obtain ⟨bx, hat, Exb, Fxb⟩ := B.2.2.2 _ hin
      refine own_st (X5.aaload hx (j := ((p1.toInt32) + (128 : Int32))) (v := .ref bx) (by rw [e5]; exact ArC.1) (State.isArrayOf_alike hZ.alike ArC.2.1) rfl ArC.2.2 hin hat (g := (mkF m 29 #[.val (.long p1), .second, .val (.int (128 : Int32))] [(.int ((p1.toInt32) + (128 : Int32))), (.ref cA)])) rfl rfl (hb hby d_own_vof_29)) ?_
      show own_Go p.tables e below F (T5.setTop (mkF m 30 #[.val (.long p1), .second, .val (.int (128 : Int32))] [(.ref bx)]))
      obtain ⟨fs, hrL, hrun, hended, hW, hsame⟩ := X5.leave (v := some (.ref bx)) (fun h => by rw [Bd.returns] at h; cases h)
      refine own_end hF (o := .returned (some (.ref bx))) (retOut X5 hx (t := (.object "java/lang/Long")) (i := .areturn) Bd.returns rfl (Or.inr (Or.inr (Or.inr (Or.inr ⟨rfl, rfl, rfl⟩)))) (hb hby d_own_vof_30) hrL) ?_
      refine ⟨hrun, hended, _, _, rfl, ?_, ⟨_, rfl⟩, hW, hsame.mono (by decide) (by decide)⟩
      have eh : T5.heap = h0 := e5
      show own_Qv Z p1 h0 n0 _ T5.heap _
      rw [eh]
      exact ⟨bx, rfl, N0, Keep.refl h0 [], Exb.ext O, own_back hq1 hq2 ▸ Fxb.ext O⟩
theorem d_own_lv_0 : decode jdk_35_method_31_code 0 = .ok (.aload_n 0, 1) := by decide +kernel
theorem d_own_lv_1 : decode jdk_35_method_31_code 1 = .ok (.getfield 273, 3) := by decide +kernel
theorem d_own_lv_4 : decode jdk_35_method_31_code 4 = .ok (.lreturn, 1) := by decide +kernel
set_option maxRecDepth 65536 in
set_option maxHeartbeats 40000000 in
theorem own_lv (l : Launch) (Z : State) (a0 : Array Value) (hw : ∀ d ∈ tables_1, d.before a0 Z = true) (ws : List Jvm.Cond) (a1 : Addr) (p1 : Int64) (h0 : Heap) (n0 : Nat) (F1 : Fld Z h0 a1 "java/lang/Long" "value" "J" (.long p1)) :
    own_Met l Z (⟨"java/lang/Long", "longValue", "()J"⟩ : MethodName) jdk_35_method_31_code 1 (some .long) ws ({ frames := 0, cells := 0, slots := 0, locals := 0 } : Room) #[(.ref a1)] h0 (own_Qp (.long p1) h0 n0) := by
  refine MetFree.of_bodySF (plainFor_of_name pn_java_lang_Long) hisR ?_
  intro p e s m args below meth c s₁ Bd hml0 hP hK
  obtain ⟨rfl, hZ, hh⟩ := hP
  have hx := Bd.exec
  have hby := Bd.bytes
  have hml : c.maxLocals = 1 := hml0
  have hown : s.vm.findClass "java/lang/Long" = some m.cls := findClass_of_methodNamed Bd.named
  have hnm := (name_of_methodNamed Bd.named Bd.method).1
  have X0 : Stand p l e ({ frames := 0, cells := 0, slots := 0, locals := 0 } : Room) s m #[(.ref a1)] below meth c s₁ [] 0 0 := Stand.of_body Bd
  have e0 : s₁.heap = h0 := by rw [← hh, Bd.state]; rfl
  have N0 := Fr.nil n0
  have hst : entryFrame m #[(.ref a1)] 1 = mkF m 0 #[.val (.ref a1)] [] := by first | (simp [entryFrame, mkF, argsToLocals, Value.category, maxLocals]; done) | rfl
  obtain ⟨F, hF⟩ : ∃ F : State → Outcome → Prop, F = fun s₂ o => (s₂.status = .running ∧ Ended s₂ below o ∧ ∃ v L, o = .returned v ∧ (own_Qp (.long p1) h0 n0) v s₂.heap L ∧ FrameEnd s o s₂ L (Room.cells ({ frames := 0, cells := 0, slots := 0, locals := 0 } : Room)) (Room.slots ({ frames := 0, cells := 0, slots := 0, locals := 0 } : Room))) := ⟨_, rfl⟩
  suffices G : own_Go p.tables e below F (s₁.setTop (mkF m 0 #[.val (.ref a1)] [])) by
    obtain ⟨t, o, a, b⟩ := G
    rw [hF] at b
    exact ⟨t, o, castTop hst a, b⟩
  show own_Go p.tables e below F (s₁.setTop (mkF m 0 #[.val (.ref a1)] []))
  refine own_st (fun _ k => XS.aloadN X0.here hx rfl (hb hby d_own_lv_0) rfl rfl k) ?_
  show own_Go p.tables e below F (s₁.setTop (mkF m 1 #[.val (.ref a1)] [(.ref a1)]))
  obtain ⟨T1, X1, e1, st1⟩ := getF X0 hx hZ hown (host := "") (Or.inl (hw _ (List.mem_of_getElem? (i := 40) rfl))) Via.refl e0 F1 (g := (mkF m 1 #[.val (.ref a1)] [(.ref a1)])) rfl rfl (hb hby d_own_lv_1)
  refine own_st st1 ?_
  show own_Go p.tables e below F (T1.setTop (mkF m 4 #[.val (.ref a1)] [(.long p1)]))
  obtain ⟨fs, hrL, hrun, hended, hW, hsame⟩ := X1.leave (v := some (.long p1)) (fun h => by rw [Bd.returns] at h; cases h)
  refine own_end hF (o := .returned (some (.long p1))) (retOut X1 hx (t := .long) (i := .lreturn) Bd.returns rfl (Or.inr (Or.inl ⟨rfl, rfl, _, rfl⟩)) (hb hby d_own_lv_4) hrL) ?_
  refine ⟨hrun, hended, _, _, rfl, ?_, ⟨_, rfl⟩, hW, hsame.mono (by decide) (by decide)⟩
  exact ⟨rfl, N0, e1⟩
def own_P (Z : State) (h : Heap) (a : Addr) (mn ic st : Int64) : Prop := Exa Z h a "com/example/tabula_rasa/tabularasa/sequence/Counters$State" ∧ Fld Z h a "com/example/tabula_rasa/tabularasa/sequence/Counters$State" "minimum" "J" (.long mn) ∧ Fld Z h a "com/example/tabula_rasa/tabularasa/sequence/Counters$State" "increment" "J" (.long ic) ∧ Fld Z h a "com/example/tabula_rasa/tabularasa/sequence/Counters$State" "start" "J" (.long st)
theorem own_P_keep {Z : State} {h h' : Heap} {a : Addr} {t g m : Int64} {ws : List Addr} (P : own_P Z h a t g m) (K : Keep h h' ws) (q : a ∉ ws) : own_P Z h' a t g m := ⟨P.1.keep K, P.2.1.keep K q, P.2.2.1.keep K q, P.2.2.2.keep K q⟩
theorem own_P_ext {Z : State} {h h' : Heap} {a : Addr} {t g m : Int64} (P : own_P Z h a t g m) (E : Ext h h') : own_P Z h' a t g m := ⟨P.1.ext E, P.2.1.ext E, P.2.2.1.ext E, P.2.2.2.ext E⟩
def own_Qc (Z : State) (a1 : Addr) (p3 p4 p5 : Int64) (h0 : Heap) (n0 : Nat) (v : Option Value) (h : Heap) (L : List Loc) : Prop := v = none ∧ Fr n0 L ∧ Keep h0 h [a1] ∧ own_P Z h a1 p3 p4 p5
theorem d_own_init_0 : decode prog_44_method_1_code 0 = .ok (.aload_n 0, 1) := by decide +kernel
theorem d_own_init_1 : decode prog_44_method_1_code 1 = .ok (.invokespecial 1, 3) := by decide +kernel
theorem d_own_init_4 : decode prog_44_method_1_code 4 = .ok (.aload_n 0, 1) := by decide +kernel
theorem d_own_init_5 : decode prog_44_method_1_code 5 = .ok (.lload_n 1, 1) := by decide +kernel
theorem d_own_init_6 : decode prog_44_method_1_code 6 = .ok (.putfield 7, 3) := by decide +kernel
theorem d_own_init_9 : decode prog_44_method_1_code 9 = .ok (.aload_n 0, 1) := by decide +kernel
theorem d_own_init_10 : decode prog_44_method_1_code 10 = .ok (.lload_n 3, 1) := by decide +kernel
theorem d_own_init_11 : decode prog_44_method_1_code 11 = .ok (.putfield 13, 3) := by decide +kernel
theorem d_own_init_14 : decode prog_44_method_1_code 14 = .ok (.aload_n 0, 1) := by decide +kernel
theorem d_own_init_15 : decode prog_44_method_1_code 15 = .ok (.lload 5, 2) := by decide +kernel
theorem d_own_init_17 : decode prog_44_method_1_code 17 = .ok (.putfield 16, 3) := by decide +kernel
theorem d_own_init_20 : decode prog_44_method_1_code 20 = .ok (.aload_n 0, 1) := by decide +kernel
theorem d_own_init_21 : decode prog_44_method_1_code 21 = .ok (.lload 7, 2) := by decide +kernel
theorem d_own_init_23 : decode prog_44_method_1_code 23 = .ok (.putfield 19, 3) := by decide +kernel
theorem d_own_init_26 : decode prog_44_method_1_code 26 = .ok (.return_, 1) := by decide +kernel
theorem pn_com_example_tabula_rasa_tabularasa_sequence_Counters_State : plainName "com/example/tabula_rasa/tabularasa/sequence/Counters$State" = true := by first | (simp [plainName, overriddenIn]; done) | decide +kernel
set_option maxRecDepth 65536 in
set_option maxHeartbeats 40000000 in
theorem own_init (l : Launch) (Z : State) (a0 : Array Value) (hw : ∀ d ∈ tables_1, d.before a0 Z = true) (ws : List Jvm.Cond) (a1 : Addr) (p2 p3 p4 p5 : Int64) (h0 : Heap) (n0 : Nat) (Z0 : n0 ≤ h0.size) (E_a1 : Exa Z h0 a1 "com/example/tabula_rasa/tabularasa/sequence/Counters$State") (Fplace_a1 : Fld Z h0 a1 "com/example/tabula_rasa/tabularasa/sequence/Counters$State" "place" "J" (.long 0)) (Fminimum_a1 : Fld Z h0 a1 "com/example/tabula_rasa/tabularasa/sequence/Counters$State" "minimum" "J" (.long 0)) (Fincrement_a1 : Fld Z h0 a1 "com/example/tabula_rasa/tabularasa/sequence/Counters$State" "increment" "J" (.long 0)) (Fstart_a1 : Fld Z h0 a1 "com/example/tabula_rasa/tabularasa/sequence/Counters$State" "start" "J" (.long 0)) (gn_a1 : n0 ≤ a1) :
    own_Met l Z (⟨"com/example/tabula_rasa/tabularasa/sequence/Counters$State", "<init>", "(JJJJ)V"⟩ : MethodName) prog_44_method_1_code 9 none ws ({ frames := 2, cells := 0, slots := 0, locals := 24 } : Room) #[(.ref a1), (.long p2), (.long p3), (.long p4), (.long p5)] h0 (own_Qc Z a1 p3 p4 p5 h0 n0) := by
  refine MetFree.of_bodySF (plainFor_of_name pn_com_example_tabula_rasa_tabularasa_sequence_Counters_State) hisR ?_
  intro p e s m args below meth c s₁ Bd hml0 hP hK
  obtain ⟨rfl, hZ, hh⟩ := hP
  have hx := Bd.exec
  have hby := Bd.bytes
  have hml : c.maxLocals = 9 := hml0
  have hown : s.vm.findClass "com/example/tabula_rasa/tabularasa/sequence/Counters$State" = some m.cls := findClass_of_methodNamed Bd.named
  have hnm := (name_of_methodNamed Bd.named Bd.method).1
  have X0 : Stand p l e ({ frames := 2, cells := 0, slots := 0, locals := 24 } : Room) s m #[(.ref a1), (.long p2), (.long p3), (.long p4), (.long p5)] below meth c s₁ [] 0 0 := Stand.of_body Bd
  have e0 : s₁.heap = h0 := by rw [← hh, Bd.state]; rfl
  have N0 := Fr.nil n0
  have hst : entryFrame m #[(.ref a1), (.long p2), (.long p3), (.long p4), (.long p5)] 9 = mkF m 0 #[.val (.ref a1), .val (.long p2), .second, .val (.long p3), .second, .val (.long p4), .second, .val (.long p5), .second] [] := by first | (simp [entryFrame, mkF, argsToLocals, Value.category, maxLocals]; done) | rfl
  obtain ⟨F, hF⟩ : ∃ F : State → Outcome → Prop, F = fun s₂ o => (s₂.status = .running ∧ Ended s₂ below o ∧ ∃ v L, o = .returned v ∧ (own_Qc Z a1 p3 p4 p5 h0 n0) v s₂.heap L ∧ FrameEnd s o s₂ L (Room.cells ({ frames := 2, cells := 0, slots := 0, locals := 24 } : Room)) (Room.slots ({ frames := 2, cells := 0, slots := 0, locals := 24 } : Room))) := ⟨_, rfl⟩
  suffices G : own_Go p.tables e below F (s₁.setTop (mkF m 0 #[.val (.ref a1), .val (.long p2), .second, .val (.long p3), .second, .val (.long p4), .second, .val (.long p5), .second] [])) by
    obtain ⟨t, o, a, b⟩ := G
    rw [hF] at b
    exact ⟨t, o, castTop hst a, b⟩
  show own_Go p.tables e below F (s₁.setTop (mkF m 0 #[.val (.ref a1), .val (.long p2), .second, .val (.long p3), .second, .val (.long p4), .second, .val (.long p5), .second] []))
  refine own_st (fun _ k => XS.aloadN X0.here hx rfl (hb hby d_own_init_0) rfl rfl k) ?_
  show own_Go p.tables e below F (s₁.setTop (mkF m 1 #[.val (.ref a1), .val (.long p2), .second, .val (.long p3), .second, .val (.long p4), .second, .val (.long p5), .second] [(.ref a1)]))
  obtain ⟨_, _, ⟨T1, L1, k1, n1⟩, -, X1, ⟨Lc1, hQ1, l1, y1, z1⟩, st1⟩ := X0.specialBack hx (y := (⟨"java/lang/Record", "<init>", "()V"⟩ : MethodName)) rfl hown (mvT hZ (hw _ (List.mem_of_getElem? (i := 6) rfl))) (mvT hZ (hw _ (List.mem_of_getElem? (i := 7) rfl))) (mvT hZ (hw _ (List.mem_of_getElem? (i := 10) rfl))) (by decide) (backOf (W := 0) (own_rinit l Z a0 hw [] a1 h0 n0) hZ (hw _ (List.mem_of_getElem? (i := 10) rfl)) (hw _ (List.mem_of_getElem? (i := 9) rfl)) (by decide) (by decide)) (g := (mkF m 1 #[.val (.ref a1), .val (.long p2), .second, .val (.long p3), .second, .val (.long p4), .second, .val (.long p5), .second] [(.ref a1)])) rfl (by rw [hml]; rfl) (Steps.refl _) (a := a1) (argsL := []) (rest := []) (lenOf pd_0 rfl) rfl (by show 2 * 0 + _ ≤ _; exact Nat.le_of_eq rfl) (hb hby d_own_init_1) (fun _ _ => ⟨rfl, e0, (by decide : 0 + 0 ≤ _), (by decide : 0 + 0 ≤ _)⟩)
  dsimp only [Pt.U, Pt.locs, Pt.cells, Pt.slots] at X1 l1 y1 z1 st1 hQ1
  subst l1 y1 z1
  obtain ⟨rfl, N1q, e1⟩ := hQ1
  have N1 := Fr.app N0 N1q
  refine own_st (fun _ k => st1.trans k) ?_
  show own_Go p.tables e below F (T1.setTop (mkF m 4 #[.val (.ref a1), .val (.long p2), .second, .val (.long p3), .second, .val (.long p4), .second, .val (.long p5), .second] []))
  refine own_st (fun _ k => XS.aloadN X1.here hx rfl (hb hby d_own_init_4) rfl rfl k) ?_
  show own_Go p.tables e below F (T1.setTop (mkF m 5 #[.val (.ref a1), .val (.long p2), .second, .val (.long p3), .second, .val (.long p4), .second, .val (.long p5), .second] [(.ref a1)]))
  refine own_st (fun _ k => XS.lloadN X1.here hx rfl (hb hby d_own_init_5) rfl k) ?_
  show own_Go p.tables e below F (T1.setTop (mkF m 6 #[.val (.ref a1), .val (.long p2), .second, .val (.long p3), .second, .val (.long p4), .second, .val (.long p5), .second] [(.long p2), (.ref a1)]))
  obtain ⟨T2, h2, X2, e2, W2, st2⟩ := putF X1 hx hZ hown (host := "") (Or.inl (hw _ (List.mem_of_getElem? (i := 14) rfl))) Via.refl e1 Fplace_a1 E_a1 (Or.inr ⟨(hw _ (List.mem_of_getElem? (i := 15) rfl)), rfl, hnm⟩) (hw _ (List.mem_of_getElem? (i := 1) rfl)) (ty := .long) (by decide) rfl rfl (g := (mkF m 6 #[.val (.ref a1), .val (.long p2), .second, .val (.long p3), .second, .val (.long p4), .second, .val (.long p5), .second] [(.long p2), (.ref a1)])) rfl rfl (hb hby d_own_init_6)
  have Fw2 := Fplace_a1.same W2
  have E_a1__2 := E_a1.wr W2
  have Fminimum_a1__2 := Fminimum_a1.other W2 (Or.inr (slot_ne (Or.inr (hw _ (List.mem_of_getElem? (i := 17) rfl))) (Or.inr (hw _ (List.mem_of_getElem? (i := 15) rfl))) (by decide) (t := .long) (t' := .long) (by decide) (by decide)))
  have Fincrement_a1__2 := Fincrement_a1.other W2 (Or.inr (slot_ne (Or.inr (hw _ (List.mem_of_getElem? (i := 19) rfl))) (Or.inr (hw _ (List.mem_of_getElem? (i := 15) rfl))) (by decide) (t := .long) (t' := .long) (by decide) (by decide)))
  have Fstart_a1__2 := Fstart_a1.other W2 (Or.inr (slot_ne (Or.inr (hw _ (List.mem_of_getElem? (i := 21) rfl))) (Or.inr (hw _ (List.mem_of_getElem? (i := 15) rfl))) (by decide) (t := .long) (t' := .long) (by decide) (by decide)))
  have KW_2 := (Keep.refl h0 [a1]).wr W2 (Or.inl (List.mem_of_getElem? (i := 0) rfl))
  have N2 := Fr.snoc X2 N1 gn_a1
  refine own_st st2 ?_
  show own_Go p.tables e below F (T2.setTop (mkF m 9 #[.val (.ref a1), .val (.long p2), .second, .val (.long p3), .second, .val (.long p4), .second, .val (.long p5), .second] []))
  refine own_st (fun _ k => XS.aloadN X2.here hx rfl (hb hby d_own_init_9) rfl rfl k) ?_
  show own_Go p.tables e below F (T2.setTop (mkF m 10 #[.val (.ref a1), .val (.long p2), .second, .val (.long p3), .second, .val (.long p4), .second, .val (.long p5), .second] [(.ref a1)]))
  refine own_st (fun _ k => XS.lloadN X2.here hx rfl (hb hby d_own_init_10) rfl k) ?_
  show own_Go p.tables e below F (T2.setTop (mkF m 11 #[.val (.ref a1), .val (.long p2), .second, .val (.long p3), .second, .val (.long p4), .second, .val (.long p5), .second] [(.long p3), (.ref a1)]))
  obtain ⟨T3, h3, X3, e3, W3, st3⟩ := putF X2 hx hZ hown (host := "") (Or.inl (hw _ (List.mem_of_getElem? (i := 16) rfl))) Via.refl e2 Fminimum_a1__2 E_a1__2 (Or.inr ⟨(hw _ (List.mem_of_getElem? (i := 17) rfl)), rfl, hnm⟩) (hw _ (List.mem_of_getElem? (i := 1) rfl)) (ty := .long) (by decide) rfl rfl (g := (mkF m 11 #[.val (.ref a1), .val (.long p2), .second, .val (.long p3), .second, .val (.long p4), .second, .val (.long p5), .second] [(.long p3), (.ref a1)])) rfl rfl (hb hby d_own_init_11)
  have Fw3 := Fminimum_a1__2.same W3
  have E_a1__3 := E_a1__2.wr W3
  have Fincrement_a1__3 := Fincrement_a1__2.other W3 (Or.inr (slot_ne (Or.inr (hw _ (List.mem_of_getElem? (i := 19) rfl))) (Or.inr (hw _ (List.mem_of_getElem? (i := 17) rfl))) (by decide) (t := .long) (t' := .long) (by decide) (by decide)))
  have Fstart_a1__3 := Fstart_a1__2.other W3 (Or.inr (slot_ne (Or.inr (hw _ (List.mem_of_getElem? (i := 21) rfl))) (Or.inr (hw _ (List.mem_of_getElem? (i := 17) rfl))) (by decide) (t := .long) (t' := .long) (by decide) (by decide)))
  have Fw2__3 := Fw2.other W3 (Or.inr (slot_ne (Or.inr (hw _ (List.mem_of_getElem? (i := 15) rfl))) (Or.inr (hw _ (List.mem_of_getElem? (i := 17) rfl))) (by decide) (t := .long) (t' := .long) (by decide) (by decide)))
  have KW_3 := KW_2.wr W3 (Or.inl (List.mem_of_getElem? (i := 0) rfl))
  have N3 := Fr.snoc X3 N2 gn_a1
  refine own_st st3 ?_
  show own_Go p.tables e below F (T3.setTop (mkF m 14 #[.val (.ref a1), .val (.long p2), .second, .val (.long p3), .second, .val (.long p4), .second, .val (.long p5), .second] []))
  refine own_st (fun _ k => XS.aloadN X3.here hx rfl (hb hby d_own_init_14) rfl rfl k) ?_
  show own_Go p.tables e below F (T3.setTop (mkF m 15 #[.val (.ref a1), .val (.long p2), .second, .val (.long p3), .second, .val (.long p4), .second, .val (.long p5), .second] [(.ref a1)]))
  refine own_st (fun _ k => XS.lload X3.here hx rfl (hb hby d_own_init_15) rfl k) ?_
  show own_Go p.tables e below F (T3.setTop (mkF m 17 #[.val (.ref a1), .val (.long p2), .second, .val (.long p3), .second, .val (.long p4), .second, .val (.long p5), .second] [(.long p4), (.ref a1)]))
  obtain ⟨T4, h4, X4, e4, W4, st4⟩ := putF X3 hx hZ hown (host := "") (Or.inl (hw _ (List.mem_of_getElem? (i := 18) rfl))) Via.refl e3 Fincrement_a1__3 E_a1__3 (Or.inr ⟨(hw _ (List.mem_of_getElem? (i := 19) rfl)), rfl, hnm⟩) (hw _ (List.mem_of_getElem? (i := 1) rfl)) (ty := .long) (by decide) rfl rfl (g := (mkF m 17 #[.val (.ref a1), .val (.long p2), .second, .val (.long p3), .second, .val (.long p4), .second, .val (.long p5), .second] [(.long p4), (.ref a1)])) rfl rfl (hb hby d_own_init_17)
  have Fw4 := Fincrement_a1__3.same W4
  have E_a1__4 := E_a1__3.wr W4
  have Fstart_a1__4 := Fstart_a1__3.other W4 (Or.inr (slot_ne (Or.inr (hw _ (List.mem_of_getElem? (i := 21) rfl))) (Or.inr (hw _ (List.mem_of_getElem? (i := 19) rfl))) (by decide) (t := .long) (t' := .long) (by decide) (by decide)))
  have Fw2__4 := Fw2__3.other W4 (Or.inr (slot_ne (Or.inr (hw _ (List.mem_of_getElem? (i := 15) rfl))) (Or.inr (hw _ (List.mem_of_getElem? (i := 19) rfl))) (by decide) (t := .long) (t' := .long) (by decide) (by decide)))
  have Fw3__4 := Fw3.other W4 (Or.inr (slot_ne (Or.inr (hw _ (List.mem_of_getElem? (i := 17) rfl))) (Or.inr (hw _ (List.mem_of_getElem? (i := 19) rfl))) (by decide) (t := .long) (t' := .long) (by decide) (by decide)))
  have KW_4 := KW_3.wr W4 (Or.inl (List.mem_of_getElem? (i := 0) rfl))
  have N4 := Fr.snoc X4 N3 gn_a1
  refine own_st st4 ?_
  show own_Go p.tables e below F (T4.setTop (mkF m 20 #[.val (.ref a1), .val (.long p2), .second, .val (.long p3), .second, .val (.long p4), .second, .val (.long p5), .second] []))
  refine own_st (fun _ k => XS.aloadN X4.here hx rfl (hb hby d_own_init_20) rfl rfl k) ?_
  show own_Go p.tables e below F (T4.setTop (mkF m 21 #[.val (.ref a1), .val (.long p2), .second, .val (.long p3), .second, .val (.long p4), .second, .val (.long p5), .second] [(.ref a1)]))
  refine own_st (fun _ k => XS.lload X4.here hx rfl (hb hby d_own_init_21) rfl k) ?_
  show own_Go p.tables e below F (T4.setTop (mkF m 23 #[.val (.ref a1), .val (.long p2), .second, .val (.long p3), .second, .val (.long p4), .second, .val (.long p5), .second] [(.long p5), (.ref a1)]))
  obtain ⟨T5, h5, X5, e5, W5, st5⟩ := putF X4 hx hZ hown (host := "") (Or.inl (hw _ (List.mem_of_getElem? (i := 20) rfl))) Via.refl e4 Fstart_a1__4 E_a1__4 (Or.inr ⟨(hw _ (List.mem_of_getElem? (i := 21) rfl)), rfl, hnm⟩) (hw _ (List.mem_of_getElem? (i := 1) rfl)) (ty := .long) (by decide) rfl rfl (g := (mkF m 23 #[.val (.ref a1), .val (.long p2), .second, .val (.long p3), .second, .val (.long p4), .second, .val (.long p5), .second] [(.long p5), (.ref a1)])) rfl rfl (hb hby d_own_init_23)
  have Fw5 := Fstart_a1__4.same W5
  have E_a1__5 := E_a1__4.wr W5
  have Fw2__5 := Fw2__4.other W5 (Or.inr (slot_ne (Or.inr (hw _ (List.mem_of_getElem? (i := 15) rfl))) (Or.inr (hw _ (List.mem_of_getElem? (i := 21) rfl))) (by decide) (t := .long) (t' := .long) (by decide) (by decide)))
  have Fw3__5 := Fw3__4.other W5 (Or.inr (slot_ne (Or.inr (hw _ (List.mem_of_getElem? (i := 17) rfl))) (Or.inr (hw _ (List.mem_of_getElem? (i := 21) rfl))) (by decide) (t := .long) (t' := .long) (by decide) (by decide)))
  have Fw4__5 := Fw4.other W5 (Or.inr (slot_ne (Or.inr (hw _ (List.mem_of_getElem? (i := 19) rfl))) (Or.inr (hw _ (List.mem_of_getElem? (i := 21) rfl))) (by decide) (t := .long) (t' := .long) (by decide) (by decide)))
  have KW_5 := KW_4.wr W5 (Or.inl (List.mem_of_getElem? (i := 0) rfl))
  have N5 := Fr.snoc X5 N4 gn_a1
  refine own_st st5 ?_
  show own_Go p.tables e below F (T5.setTop (mkF m 26 #[.val (.ref a1), .val (.long p2), .second, .val (.long p3), .second, .val (.long p4), .second, .val (.long p5), .second] []))
  obtain ⟨fs, hrL, hrun, hended, hW, hsame⟩ := X5.leave (v := none) (fun _ => rfl)
  refine own_end hF (o := .returned none) (X5.returnOut hx Bd.returns (hb hby d_own_init_26) hrL) ?_
  refine ⟨hrun, hended, _, _, rfl, ?_, ⟨_, rfl⟩, hW, hsame.mono (by decide) (by decide)⟩
  have eh : T5.heap = h5 := e5
  show own_Qc Z a1 p3 p4 p5 h0 n0 _ T5.heap _
  rw [eh]
  exact ⟨rfl, N5, KW_5, E_a1__5, Fw3__5, Fw4__5, Fw5⟩
theorem d_own_prN_0 : decode prog_44_method_2_code 0 = .ok (.aload_n 1, 1) := by decide +kernel
theorem d_own_prN_1 : decode prog_44_method_2_code 1 = .ok (.ifnull 27, 3) := by decide +kernel
theorem d_own_prN_28 : decode prog_44_method_2_code 28 = .ok (.aload_n 0, 1) := by decide +kernel
theorem d_own_prN_29 : decode prog_44_method_2_code 29 = .ok (.getfield 19, 3) := by decide +kernel
theorem d_own_prN_32 : decode prog_44_method_2_code 32 = .ok (.lreturn, 1) := by decide +kernel
set_option maxRecDepth 65536 in
set_option maxHeartbeats 40000000 in
theorem own_prN (l : Launch) (Z : State) (a0 : Array Value) (hw : ∀ d ∈ tables_1, d.before a0 Z = true) (ws : List Jvm.Cond) (a1 : Addr) (mn ic st : Int64) (h0 : Heap) (n0 : Nat) (P1 : own_P Z h0 a1 mn ic st) :
    own_Met l Z (⟨"com/example/tabula_rasa/tabularasa/sequence/Counters$State", "pastRows", "(Ljava/lang/Long;)J"⟩ : MethodName) prog_44_method_2_code 2 (some .long) ws ({ frames := 0, cells := 0, slots := 0, locals := 0 } : Room) #[(.ref a1), .null] h0 (own_Qp (.long st) h0 n0) := by
  refine MetFree.of_bodySF (plainFor_of_name pn_com_example_tabula_rasa_tabularasa_sequence_Counters_State) hisR ?_
  intro p e s m args below meth c s₁ Bd hml0 hP hK
  obtain ⟨rfl, hZ, hh⟩ := hP
  have hx := Bd.exec
  have hby := Bd.bytes
  have hml : c.maxLocals = 2 := hml0
  have hown : s.vm.findClass "com/example/tabula_rasa/tabularasa/sequence/Counters$State" = some m.cls := findClass_of_methodNamed Bd.named
  have hnm := (name_of_methodNamed Bd.named Bd.method).1
  have X0 : Stand p l e ({ frames := 0, cells := 0, slots := 0, locals := 0 } : Room) s m #[(.ref a1), .null] below meth c s₁ [] 0 0 := Stand.of_body Bd
  have e0 : s₁.heap = h0 := by rw [← hh, Bd.state]; rfl
  have N0 := Fr.nil n0
  have hst : entryFrame m #[(.ref a1), .null] 2 = mkF m 0 #[.val (.ref a1), .val .null] [] := by first | (simp [entryFrame, mkF, argsToLocals, Value.category, maxLocals]; done) | rfl
  obtain ⟨F, hF⟩ : ∃ F : State → Outcome → Prop, F = fun s₂ o => (s₂.status = .running ∧ Ended s₂ below o ∧ ∃ v L, o = .returned v ∧ (own_Qp (.long st) h0 n0) v s₂.heap L ∧ FrameEnd s o s₂ L (Room.cells ({ frames := 0, cells := 0, slots := 0, locals := 0 } : Room)) (Room.slots ({ frames := 0, cells := 0, slots := 0, locals := 0 } : Room))) := ⟨_, rfl⟩
  suffices G : own_Go p.tables e below F (s₁.setTop (mkF m 0 #[.val (.ref a1), .val .null] [])) by
    obtain ⟨t, o, a, b⟩ := G
    rw [hF] at b
    exact ⟨t, o, castTop hst a, b⟩
  show own_Go p.tables e below F (s₁.setTop (mkF m 0 #[.val (.ref a1), .val .null] []))
  refine own_st (fun _ k => XS.aloadN X0.here hx rfl (hb hby d_own_prN_0) rfl rfl k) ?_
  show own_Go p.tables e below F (s₁.setTop (mkF m 1 #[.val (.ref a1), .val .null] [.null]))
  refine own_st (fun _ k => XS.ifnullYes X0.here hx rfl (pc0 := 1) (pc' := 28) rfl (hb hby d_own_prN_1) rfl (by decide) (by decide) k) ?_
  show own_Go p.tables e below F (s₁.setTop (mkF m 28 #[.val (.ref a1), .val .null] []))
  refine own_st (fun _ k => XS.aloadN X0.here hx rfl (hb hby d_own_prN_28) rfl rfl k) ?_
  show own_Go p.tables e below F (s₁.setTop (mkF m 29 #[.val (.ref a1), .val .null] [(.ref a1)]))
  obtain ⟨T1, X1, e1, st1⟩ := getF X0 hx hZ hown (host := "") (Or.inl (hw _ (List.mem_of_getElem? (i := 20) rfl))) Via.refl e0 P1.2.2.2 (g := (mkF m 29 #[.val (.ref a1), .val .null] [(.ref a1)])) rfl rfl (hb hby d_own_prN_29)
  refine own_st st1 ?_
  show own_Go p.tables e below F (T1.setTop (mkF m 32 #[.val (.ref a1), .val .null] [(.long st)]))
  obtain ⟨fs, hrL, hrun, hended, hW, hsame⟩ := X1.leave (v := some (.long st)) (fun h => by rw [Bd.returns] at h; cases h)
  refine own_end hF (o := .returned (some (.long st))) (retOut X1 hx (t := .long) (i := .lreturn) Bd.returns rfl (Or.inr (Or.inl ⟨rfl, rfl, _, rfl⟩)) (hb hby d_own_prN_32) hrL) ?_
  refine ⟨hrun, hended, _, _, rfl, ?_, ⟨_, rfl⟩, hW, hsame.mono (by decide) (by decide)⟩
  exact ⟨rfl, N0, e1⟩
theorem d_own_prB_0 : decode prog_44_method_2_code 0 = .ok (.aload_n 1, 1) := by decide +kernel
theorem d_own_prB_1 : decode prog_44_method_2_code 1 = .ok (.ifnull 27, 3) := by decide +kernel
theorem d_own_prB_4 : decode prog_44_method_2_code 4 = .ok (.aload_n 1, 1) := by decide +kernel
theorem d_own_prB_5 : decode prog_44_method_2_code 5 = .ok (.invokevirtual 22, 3) := by decide +kernel
theorem d_own_prB_8 : decode prog_44_method_2_code 8 = .ok (.aload_n 0, 1) := by decide +kernel
theorem d_own_prB_9 : decode prog_44_method_2_code 9 = .ok (.getfield 13, 3) := by decide +kernel
theorem d_own_prB_12 : decode prog_44_method_2_code 12 = .ok (.lcmp, 1) := by decide +kernel
theorem d_own_prB_13 : decode prog_44_method_2_code 13 = .ok (.ifCond .lt 15, 3) := by decide +kernel
theorem d_own_prB_16 : decode prog_44_method_2_code 16 = .ok (.aload_n 1, 1) := by decide +kernel
theorem d_own_prB_17 : decode prog_44_method_2_code 17 = .ok (.invokevirtual 22, 3) := by decide +kernel
theorem d_own_prB_20 : decode prog_44_method_2_code 20 = .ok (.aload_n 0, 1) := by decide +kernel
theorem d_own_prB_21 : decode prog_44_method_2_code 21 = .ok (.getfield 16, 3) := by decide +kernel
theorem d_own_prB_24 : decode prog_44_method_2_code 24 = .ok (.ladd, 1) := by decide +kernel
theorem d_own_prB_25 : decode prog_44_method_2_code 25 = .ok (.goto 7, 3) := by decide +kernel
theorem d_own_prB_28 : decode prog_44_method_2_code 28 = .ok (.aload_n 0, 1) := by decide +kernel
theorem d_own_prB_29 : decode prog_44_method_2_code 29 = .ok (.getfield 19, 3) := by decide +kernel
theorem d_own_prB_32 : decode prog_44_method_2_code 32 = .ok (.lreturn, 1) := by decide +kernel
theorem pd_2 : parseMethodDescriptor "()J" = some ⟨[], some .long⟩ := by decide +kernel
set_option maxRecDepth 65536 in
set_option maxHeartbeats 40000000 in
theorem own_prB (l : Launch) (Z : State) (a0 : Array Value) (hw : ∀ d ∈ tables_1, d.before a0 Z = true) (ws : List Jvm.Cond) (a1 a2 : Addr) (mn ic st vv r : Int64) (h0 : Heap) (n0 : Nat) (P1 : own_P Z h0 a1 mn ic st) (E2 : Exa Z h0 a2 "java/lang/Long") (F2 : Fld Z h0 a2 "java/lang/Long" "value" "J" (.long vv)) (hr : r = if vv < mn then st else vv + ic) :
    own_Met l Z (⟨"com/example/tabula_rasa/tabularasa/sequence/Counters$State", "pastRows", "(Ljava/lang/Long;)J"⟩ : MethodName) prog_44_method_2_code 2 (some .long) ws ({ frames := 1, cells := 0, slots := 0, locals := 12 } : Room) #[(.ref a1), (.ref a2)] h0 (own_Qp (.long r) h0 n0) := by
  refine MetFree.of_bodySF (plainFor_of_name pn_com_example_tabula_rasa_tabularasa_sequence_Counters_State) hisR ?_
  intro p e s m args below meth c s₁ Bd hml0 hP hK
  obtain ⟨rfl, hZ, hh⟩ := hP
  have hx := Bd.exec
  have hby := Bd.bytes
  have hml : c.maxLocals = 2 := hml0
  have hown : s.vm.findClass "com/example/tabula_rasa/tabularasa/sequence/Counters$State" = some m.cls := findClass_of_methodNamed Bd.named
  have hnm := (name_of_methodNamed Bd.named Bd.method).1
  have X0 : Stand p l e ({ frames := 1, cells := 0, slots := 0, locals := 12 } : Room) s m #[(.ref a1), (.ref a2)] below meth c s₁ [] 0 0 := Stand.of_body Bd
  have e0 : s₁.heap = h0 := by rw [← hh, Bd.state]; rfl
  have N0 := Fr.nil n0
  have hst : entryFrame m #[(.ref a1), (.ref a2)] 2 = mkF m 0 #[.val (.ref a1), .val (.ref a2)] [] := by first | (simp [entryFrame, mkF, argsToLocals, Value.category, maxLocals]; done) | rfl
  obtain ⟨F, hF⟩ : ∃ F : State → Outcome → Prop, F = fun s₂ o => (s₂.status = .running ∧ Ended s₂ below o ∧ ∃ v L, o = .returned v ∧ (own_Qp (.long r) h0 n0) v s₂.heap L ∧ FrameEnd s o s₂ L (Room.cells ({ frames := 1, cells := 0, slots := 0, locals := 12 } : Room)) (Room.slots ({ frames := 1, cells := 0, slots := 0, locals := 12 } : Room))) := ⟨_, rfl⟩
  suffices G : own_Go p.tables e below F (s₁.setTop (mkF m 0 #[.val (.ref a1), .val (.ref a2)] [])) by
    obtain ⟨t, o, a, b⟩ := G
    rw [hF] at b
    exact ⟨t, o, castTop hst a, b⟩
  show own_Go p.tables e below F (s₁.setTop (mkF m 0 #[.val (.ref a1), .val (.ref a2)] []))
  refine own_st (fun _ k => XS.aloadN X0.here hx rfl (hb hby d_own_prB_0) rfl rfl k) ?_
  show own_Go p.tables e below F (s₁.setTop (mkF m 1 #[.val (.ref a1), .val (.ref a2)] [(.ref a2)]))
  refine own_st (fun _ k => XS.ifnullNo X0.here hx rfl (hb hby d_own_prB_1) rfl k) ?_
  show own_Go p.tables e below F (s₁.setTop (mkF m 4 #[.val (.ref a1), .val (.ref a2)] []))
  refine own_st (fun _ k => XS.aloadN X0.here hx rfl (hb hby d_own_prB_4) rfl rfl k) ?_
  show own_Go p.tables e below F (s₁.setTop (mkF m 5 #[.val (.ref a1), .val (.ref a2)] [(.ref a2)]))
  obtain ⟨cq1, kq1, q1a, q1b, q1c⟩ := isOf hZ e0 E2
  obtain ⟨_, _, ⟨T1, L1, k1, n1⟩, -, X1, ⟨Lc1, hQ1, l1, y1, z1⟩, st1⟩ := X0.virtualBack hx (y := (⟨"java/lang/Long", "longValue", "()J"⟩ : MethodName)) (z := (⟨"java/lang/Long", "longValue", "()J"⟩ : MethodName)) hown (mvT hZ (hw _ (List.mem_of_getElem? (i := 35) rfl))) (mvT hZ (hw _ (List.mem_of_getElem? (i := 36) rfl))) (notFace_of_selects (args := #[]) (mvT hZ (hw _ (List.mem_of_getElem? (i := 38) rfl)))) (mvT hZ (hw _ (List.mem_of_getElem? (i := 38) rfl))) (mvT hZ (hw _ (List.mem_of_getElem? (i := 37) rfl))) (by decide) (backOf (W := 0) (own_lv l Z a0 hw [] a2 vv h0 n0 F2) hZ (hw _ (List.mem_of_getElem? (i := 39) rfl)) (hw _ (List.mem_of_getElem? (i := 24) rfl)) (by decide) (by decide)) q1a q1c (g := (mkF m 5 #[.val (.ref a1), .val (.ref a2)] [(.ref a2)])) rfl (by rw [hml]; rfl) (Steps.refl _) (argsL := []) (rest := []) (lenOf pd_2 rfl) rfl (by show 2 * 0 + _ ≤ _; exact Nat.le_of_eq rfl) (hb hby d_own_prB_5) (fun _ _ => ⟨rfl, e0, (by decide : 0 + 0 ≤ _), (by decide : 0 + 0 ≤ _)⟩)
  dsimp only [Pt.U, Pt.locs, Pt.cells, Pt.slots] at X1 l1 y1 z1 st1 hQ1
  subst l1 y1 z1
  obtain ⟨rfl, N1q, e1⟩ := hQ1
  have N1 := Fr.app N0 N1q
  refine own_st (fun _ k => st1.trans k) ?_
  show own_Go p.tables e below F (T1.setTop (mkF m 8 #[.val (.ref a1), .val (.ref a2)] [(.long vv)]))
  refine own_st (fun _ k => XS.aloadN X1.here hx rfl (hb hby d_own_prB_8) rfl rfl k) ?_
  show own_Go p.tables e below F (T1.setTop (mkF m 9 #[.val (.ref a1), .val (.ref a2)] [(.ref a1), (.long vv)]))
  obtain ⟨T2, X2, e2, st2⟩ := getF X1 hx hZ hown (host := "") (Or.inl (hw _ (List.mem_of_getElem? (i := 16) rfl))) Via.refl e1 P1.2.1 (g := (mkF m 9 #[.val (.ref a1), .val (.ref a2)] [(.ref a1), (.long vv)])) rfl rfl (hb hby d_own_prB_9)
  refine own_st st2 ?_
  show own_Go p.tables e below F (T2.setTop (mkF m 12 #[.val (.ref a1), .val (.ref a2)] [(.long mn), (.long vv)]))
  refine own_st (fun _ k => XS.lcmp X2.here hx rfl (hb hby d_own_prB_12) rfl k) ?_
  show own_Go p.tables e below F (T2.setTop (mkF m 13 #[.val (.ref a1), .val (.ref a2)] [(.int (lcmpW vv mn))]))
  by_cases hc13 : (lcmpW vv mn) < (0 : Int32)
  ·
    refine own_st (fun _ k => XS.ifYes X2.here hx rfl (pc0 := 13) (pc' := 28) rfl (hb hby d_own_prB_13) rfl ((if0 _ _).trans (tlt hc13).1) (by decide) (by decide) k) ?_
    show own_Go p.tables e below F (T2.setTop (mkF m 28 #[.val (.ref a1), .val (.ref a2)] []))
    refine own_st (fun _ k => XS.aloadN X2.here hx rfl (hb hby d_own_prB_28) rfl rfl k) ?_
    show own_Go p.tables e below F (T2.setTop (mkF m 29 #[.val (.ref a1), .val (.ref a2)] [(.ref a1)]))
    obtain ⟨T3, X3, e3, st3⟩ := getF X2 hx hZ hown (host := "") (Or.inl (hw _ (List.mem_of_getElem? (i := 20) rfl))) Via.refl e2 P1.2.2.2 (g := (mkF m 29 #[.val (.ref a1), .val (.ref a2)] [(.ref a1)])) rfl rfl (hb hby d_own_prB_29)
    refine own_st st3 ?_
    show own_Go p.tables e below F (T3.setTop (mkF m 32 #[.val (.ref a1), .val (.ref a2)] [(.long st)]))
    obtain ⟨fs, hrL, hrun, hended, hW, hsame⟩ := X3.leave (v := some (.long st)) (fun h => by rw [Bd.returns] at h; cases h)
    refine own_end hF (o := .returned (some (.long st))) (retOut X3 hx (t := .long) (i := .lreturn) Bd.returns rfl (Or.inr (Or.inl ⟨rfl, rfl, _, rfl⟩)) (hb hby d_own_prB_32) hrL) ?_
    refine ⟨hrun, hended, _, _, rfl, ?_, ⟨_, rfl⟩, hW, hsame.mono (by decide) (by decide)⟩
    exact ⟨by rw [hr, if_pos ((lw_lt _ _).mp hc13)], N1, e3⟩
  ·
    refine own_st (fun _ k => XS.ifNo X2.here hx rfl (hb hby d_own_prB_13) rfl ((if0 _ _).trans (flt hc13).1) k) ?_
    show own_Go p.tables e below F (T2.setTop (mkF m 16 #[.val (.ref a1), .val (.ref a2)] []))
    refine own_st (fun _ k => XS.aloadN X2.here hx rfl (hb hby d_own_prB_16) rfl rfl k) ?_
    show own_Go p.tables e below F (T2.setTop (mkF m 17 #[.val (.ref a1), .val (.ref a2)] [(.ref a2)]))
    obtain ⟨cq4, kq4, q4a, q4b, q4c⟩ := isOf hZ e2 E2
    obtain ⟨_, _, ⟨T4, L4, k4, n4⟩, -, X4, ⟨Lc4, hQ4, l4, y4, z4⟩, st4⟩ := X2.virtualBack hx (y := (⟨"java/lang/Long", "longValue", "()J"⟩ : MethodName)) (z := (⟨"java/lang/Long", "longValue", "()J"⟩ : MethodName)) hown (mvT hZ (hw _ (List.mem_of_getElem? (i := 35) rfl))) (mvT hZ (hw _ (List.mem_of_getElem? (i := 36) rfl))) (notFace_of_selects (args := #[]) (mvT hZ (hw _ (List.mem_of_getElem? (i := 38) rfl)))) (mvT hZ (hw _ (List.mem_of_getElem? (i := 38) rfl))) (mvT hZ (hw _ (List.mem_of_getElem? (i := 37) rfl))) (by decide) (backOf (W := 0) (own_lv l Z a0 hw [] a2 vv h0 n0 F2) hZ (hw _ (List.mem_of_getElem? (i := 39) rfl)) (hw _ (List.mem_of_getElem? (i := 24) rfl)) (by decide) (by decide)) q4a q4c (g := (mkF m 17 #[.val (.ref a1), .val (.ref a2)] [(.ref a2)])) rfl (by rw [hml]; rfl) (Steps.refl _) (argsL := []) (rest := []) (lenOf pd_2 rfl) rfl (by show 2 * 0 + _ ≤ _; exact Nat.le_of_eq rfl) (hb hby d_own_prB_17) (fun _ _ => ⟨rfl, e2, (by decide : 0 + 0 ≤ _), (by decide : 0 + 0 ≤ _)⟩)
    dsimp only [Pt.U, Pt.locs, Pt.cells, Pt.slots] at X4 l4 y4 z4 st4 hQ4
    subst l4 y4 z4
    obtain ⟨rfl, N4q, e4⟩ := hQ4
    have N4 := Fr.app N1 N4q
    refine own_st (fun _ k => st4.trans k) ?_
    show own_Go p.tables e below F (T4.setTop (mkF m 20 #[.val (.ref a1), .val (.ref a2)] [(.long vv)]))
    refine own_st (fun _ k => XS.aloadN X4.here hx rfl (hb hby d_own_prB_20) rfl rfl k) ?_
    show own_Go p.tables e below F (T4.setTop (mkF m 21 #[.val (.ref a1), .val (.ref a2)] [(.ref a1), (.long vv)]))
    obtain ⟨T5, X5, e5, st5⟩ := getF X4 hx hZ hown (host := "") (Or.inl (hw _ (List.mem_of_getElem? (i := 18) rfl))) Via.refl e4 P1.2.2.1 (g := (mkF m 21 #[.val (.ref a1), .val (.ref a2)] [(.ref a1), (.long vv)])) rfl rfl (hb hby d_own_prB_21)
    refine own_st st5 ?_
    show own_Go p.tables e below F (T5.setTop (mkF m 24 #[.val (.ref a1), .val (.ref a2)] [(.long ic), (.long vv)]))
    refine own_st (fun _ k => XS.ladd X5.here hx rfl (hb hby d_own_prB_24) rfl k) ?_
    show own_Go p.tables e below F (T5.setTop (mkF m 25 #[.val (.ref a1), .val (.ref a2)] [(.long (vv + ic))]))
    refine own_st (fun _ k => XS.goto X5.here hx rfl (pc0 := 25) (pc' := 32) rfl (hb hby d_own_prB_25) (by decide) (by decide) k) ?_
    show own_Go p.tables e below F (T5.setTop (mkF m 32 #[.val (.ref a1), .val (.ref a2)] [(.long (vv + ic))]))
    obtain ⟨fs, hrL, hrun, hended, hW, hsame⟩ := X5.leave (v := some (.long (vv + ic))) (fun h => by rw [Bd.returns] at h; cases h)
    refine own_end hF (o := .returned (some (.long (vv + ic)))) (retOut X5 hx (t := .long) (i := .lreturn) Bd.returns rfl (Or.inr (Or.inl ⟨rfl, rfl, _, rfl⟩)) (hb hby d_own_prB_32) hrL) ?_
    refine ⟨hrun, hended, _, _, rfl, ?_, ⟨_, rfl⟩, hW, hsame.mono (by decide) (by decide)⟩
    exact ⟨by rw [hr, if_neg (fun z => hc13 ((lw_lt _ _).mpr z))], N4, e5⟩
theorem pn_com_example_tabula_rasa_tabularasa_sequence_StatePastRowsPinLaw : plainName "com/example/tabula_rasa/tabularasa/sequence/StatePastRowsPinLaw" = true := by first | (simp [plainName, overriddenIn]; done) | decide +kernel
theorem pd_3 : parseMethodDescriptor "(JJJJ)V" = some ⟨[.long, .long, .long, .long], none⟩ := by decide +kernel
theorem pd_4 : parseMethodDescriptor "(Ljava/lang/Long;)J" = some ⟨[(.object "java/lang/Long")], some .long⟩ := by decide +kernel
theorem pd_5 : parseMethodDescriptor "(J)Ljava/lang/Long;" = some ⟨[.long], some (.object "java/lang/Long")⟩ := by decide +kernel
set_option maxRecDepth 65536 in
set_option maxHeartbeats 40000000 in
theorem own_law (l : Launch) (Z : State) (a0 : Array Value) (hw : ∀ d ∈ tables_1, d.before a0 Z = true) (ws : List Jvm.Cond) (pl mi inc sta val : Int64) (mode : Int32) (cA : Addr) (cl : Cell) (h0 : Heap) (n0 : Nat) (Z0 : n0 ≤ h0.size) (O : Ext Z.heap h0) (SC : Sta Z Z.heap "java/lang/Long$LongCache" "cache" "[Ljava/lang/Long;" (.ref cA)) (B : Bxs Z cA cl "java/lang/Long" "J" (256 : Int32) (fun j => .long (j - (128 : Int32)).toInt64)) :
    own_Met l Z x code maxLocals ret ws room_1 #[(.long pl), (.long mi), (.long inc), (.long sta), (.long val), (.int mode)] h0 (own_Q0 h0 n0) := by
  refine MetFree.of_bodySF (plainFor_of_name pn_com_example_tabula_rasa_tabularasa_sequence_StatePastRowsPinLaw) hisR ?_
  intro p e s m args below meth c s₁ Bd hml0 hP hK
  obtain ⟨rfl, hZ, hh⟩ := hP
  have hx := Bd.exec
  have hby := Bd.bytes
  have hml : c.maxLocals = 18 := hml0
  have hown : s.vm.findClass "com/example/tabula_rasa/tabularasa/sequence/StatePastRowsPinLaw" = some m.cls := findClass_of_methodNamed Bd.named
  have hnm := (name_of_methodNamed Bd.named Bd.method).1
  have X0 : Stand p l e room_1 s m #[(.long pl), (.long mi), (.long inc), (.long sta), (.long val), (.int mode)] below meth c s₁ [] 0 0 := Stand.of_body Bd
  have e0 : s₁.heap = h0 := by rw [← hh, Bd.state]; rfl
  have N0 := Fr.nil n0
  have hst : entryFrame m #[(.long pl), (.long mi), (.long inc), (.long sta), (.long val), (.int mode)] maxLocals = mkF m 0 #[.val (.long pl), .second, .val (.long mi), .second, .val (.long inc), .second, .val (.long sta), .second, .val (.long val), .second, .val (.int mode), .unset, .unset, .unset, .unset, .unset, .unset, .unset] [] := by first | (simp [entryFrame, mkF, argsToLocals, Value.category, maxLocals]; done) | rfl
  obtain ⟨F, hF⟩ : ∃ F : State → Outcome → Prop, F = fun s₂ o => (s₂.status = .running ∧ Ended s₂ below o ∧ ∃ v L, o = .returned v ∧ (own_Q0 h0 n0) v s₂.heap L ∧ FrameEnd s o s₂ L (Room.cells room_1) (Room.slots room_1)) := ⟨_, rfl⟩
  suffices G : own_Go p.tables e below F (s₁.setTop (mkF m 0 #[.val (.long pl), .second, .val (.long mi), .second, .val (.long inc), .second, .val (.long sta), .second, .val (.long val), .second, .val (.int mode), .unset, .unset, .unset, .unset, .unset, .unset, .unset] [])) by
    obtain ⟨t, o, a, b⟩ := G
    rw [hF] at b
    exact ⟨t, o, castTop hst a, b⟩
  show own_Go p.tables e below F (s₁.setTop (mkF m 0 #[.val (.long pl), .second, .val (.long mi), .second, .val (.long inc), .second, .val (.long sta), .second, .val (.long val), .second, .val (.int mode), .unset, .unset, .unset, .unset, .unset, .unset, .unset] []))
  obtain ⟨T1, h1, X1, e1, E1, A1, D1, -, st1⟩ := newO X0 hx hZ hown (hw _ (List.mem_of_getElem? (i := 0) rfl)) (hw _ (List.mem_of_getElem? (i := 1) rfl)) (hw _ (List.mem_of_getElem? (i := 2) rfl)) e0 (g := (mkF m 0 #[.val (.long pl), .second, .val (.long mi), .second, .val (.long inc), .second, .val (.long sta), .second, .val (.long val), .second, .val (.int mode), .unset, .unset, .unset, .unset, .unset, .unset, .unset] [])) rfl (hb hby at_0) (by decide) (by decide)
  obtain ⟨b1, g1⟩ : ∃ z, z = h0.size := ⟨_, rfl⟩
  rw [← g1] at A1 D1 st1
  have sz_b1 : h0.size ≤ b1 := Nat.le_trans own_ext_refl.1 (Nat.le_of_eq g1.symm)
  have gn_b1 : n0 ≤ b1 := Nat.le_trans Z0 sz_b1
  have K0_1 := own_ext_ext own_ext_refl E1
  have F1_place : Fld Z h1 b1 "com/example/tabula_rasa/tabularasa/sequence/Counters$State" "place" "J" (.long (0 : Int64)) := D1 (Or.inr (hw _ (List.mem_of_getElem? (i := 15) rfl))) (ty := .long) (by decide)
  have F1_minimum : Fld Z h1 b1 "com/example/tabula_rasa/tabularasa/sequence/Counters$State" "minimum" "J" (.long (0 : Int64)) := D1 (Or.inr (hw _ (List.mem_of_getElem? (i := 17) rfl))) (ty := .long) (by decide)
  have F1_increment : Fld Z h1 b1 "com/example/tabula_rasa/tabularasa/sequence/Counters$State" "increment" "J" (.long (0 : Int64)) := D1 (Or.inr (hw _ (List.mem_of_getElem? (i := 19) rfl))) (ty := .long) (by decide)
  have F1_start : Fld Z h1 b1 "com/example/tabula_rasa/tabularasa/sequence/Counters$State" "start" "J" (.long (0 : Int64)) := D1 (Or.inr (hw _ (List.mem_of_getElem? (i := 21) rfl))) (ty := .long) (by decide)
  refine own_st st1 ?_
  show own_Go p.tables e below F (T1.setTop (mkF m 3 #[.val (.long pl), .second, .val (.long mi), .second, .val (.long inc), .second, .val (.long sta), .second, .val (.long val), .second, .val (.int mode), .unset, .unset, .unset, .unset, .unset, .unset, .unset] [(.ref b1)]))
  refine own_st (fun _ k => XS.dup X1.here hx rfl (hb hby at_3) rfl rfl k) ?_
  show own_Go p.tables e below F (T1.setTop (mkF m 4 #[.val (.long pl), .second, .val (.long mi), .second, .val (.long inc), .second, .val (.long sta), .second, .val (.long val), .second, .val (.int mode), .unset, .unset, .unset, .unset, .unset, .unset, .unset] [(.ref b1), (.ref b1)]))
  refine own_st (fun _ k => XS.lloadN X1.here hx rfl (hb hby at_4) rfl k) ?_
  show own_Go p.tables e below F (T1.setTop (mkF m 5 #[.val (.long pl), .second, .val (.long mi), .second, .val (.long inc), .second, .val (.long sta), .second, .val (.long val), .second, .val (.int mode), .unset, .unset, .unset, .unset, .unset, .unset, .unset] [(.long pl), (.ref b1), (.ref b1)]))
  refine own_st (fun _ k => XS.lloadN X1.here hx rfl (hb hby at_5) rfl k) ?_
  show own_Go p.tables e below F (T1.setTop (mkF m 6 #[.val (.long pl), .second, .val (.long mi), .second, .val (.long inc), .second, .val (.long sta), .second, .val (.long val), .second, .val (.int mode), .unset, .unset, .unset, .unset, .unset, .unset, .unset] [(.long mi), (.long pl), (.ref b1), (.ref b1)]))
  refine own_st (fun _ k => XS.lload X1.here hx rfl (hb hby at_6) rfl k) ?_
  show own_Go p.tables e below F (T1.setTop (mkF m 8 #[.val (.long pl), .second, .val (.long mi), .second, .val (.long inc), .second, .val (.long sta), .second, .val (.long val), .second, .val (.int mode), .unset, .unset, .unset, .unset, .unset, .unset, .unset] [(.long inc), (.long mi), (.long pl), (.ref b1), (.ref b1)]))
  refine own_st (fun _ k => XS.lload X1.here hx rfl (hb hby at_8) rfl k) ?_
  show own_Go p.tables e below F (T1.setTop (mkF m 10 #[.val (.long pl), .second, .val (.long mi), .second, .val (.long inc), .second, .val (.long sta), .second, .val (.long val), .second, .val (.int mode), .unset, .unset, .unset, .unset, .unset, .unset, .unset] [(.long sta), (.long inc), (.long mi), (.long pl), (.ref b1), (.ref b1)]))
  obtain ⟨_, _, ⟨T2, L2, k2, n2⟩, -, X2, ⟨Lc2, hQ2, l2, y2, z2⟩, st2⟩ := X1.specialBack hx (y := (⟨"com/example/tabula_rasa/tabularasa/sequence/Counters$State", "<init>", "(JJJJ)V"⟩ : MethodName)) rfl hown (mvT hZ (hw _ (List.mem_of_getElem? (i := 3) rfl))) (mvT hZ (hw _ (List.mem_of_getElem? (i := 4) rfl))) (mvT hZ (hw _ (List.mem_of_getElem? (i := 5) rfl))) (by decide) (backOf (W := 1) (own_init l Z a0 hw [] b1 pl mi inc sta h1 n0 (Nat.le_trans Z0 K0_1.1) A1 F1_place F1_minimum F1_increment F1_start gn_b1) hZ (hw _ (List.mem_of_getElem? (i := 5) rfl)) (hw _ (List.mem_of_getElem? (i := 2) rfl)) (by decide) (by decide)) (g := (mkF m 10 #[.val (.long pl), .second, .val (.long mi), .second, .val (.long inc), .second, .val (.long sta), .second, .val (.long val), .second, .val (.int mode), .unset, .unset, .unset, .unset, .unset, .unset, .unset] [(.long sta), (.long inc), (.long mi), (.long pl), (.ref b1), (.ref b1)])) rfl (by rw [hml]; rfl) (Steps.refl _) (a := b1) (argsL := [(.long pl), (.long mi), (.long inc), (.long sta)]) (rest := [(.ref b1)]) (lenOf pd_3 rfl) rfl (by show 2 * 0 + _ ≤ _; exact Nat.le_of_eq rfl) (hb hby at_10) (fun _ _ => ⟨rfl, e1, (by decide : 1 + 0 ≤ _), (by decide : 4 + 0 ≤ _)⟩)
  dsimp only [Pt.U, Pt.locs, Pt.cells, Pt.slots] at X2 l2 y2 z2 st2 hQ2
  subst l2 y2 z2
  obtain ⟨rfl, N2q, K2, Pn2⟩ := hQ2
  have N2 := Fr.app N0 N2q
  refine own_st (fun _ k => st2.trans k) ?_
  have A1__2 := A1.keep K2
  have K0_2 := own_ext_keep K0_1 K2 (allS sz_b1 all0)
  show own_Go p.tables e below F (T2.setTop (mkF m 13 #[.val (.long pl), .second, .val (.long mi), .second, .val (.long inc), .second, .val (.long sta), .second, .val (.long val), .second, .val (.int mode), .unset, .unset, .unset, .unset, .unset, .unset, .unset] [(.ref b1)]))
  refine own_st (fun _ k => XS.astore X2.here hx rfl (hb hby at_13) rfl rfl (l' := #[.val (.long pl), .second, .val (.long mi), .second, .val (.long inc), .second, .val (.long sta), .second, .val (.long val), .second, .val (.int mode), .val (.ref b1), .unset, .unset, .unset, .unset, .unset, .unset]) rfl k) ?_
  show own_Go p.tables e below F (T2.setTop (mkF m 15 #[.val (.long pl), .second, .val (.long mi), .second, .val (.long inc), .second, .val (.long sta), .second, .val (.long val), .second, .val (.int mode), .val (.ref b1), .unset, .unset, .unset, .unset, .unset, .unset] []))
  refine own_st (fun _ k => XS.iload X2.here hx rfl (hb hby at_15) rfl k) ?_
  show own_Go p.tables e below F (T2.setTop (mkF m 17 #[.val (.long pl), .second, .val (.long mi), .second, .val (.long inc), .second, .val (.long sta), .second, .val (.long val), .second, .val (.int mode), .val (.ref b1), .unset, .unset, .unset, .unset, .unset, .unset] [(.int mode)]))
  refine own_st (fun _ k => XS.iconst X2.here hx rfl (hb hby at_17) k) ?_
  show own_Go p.tables e below F (T2.setTop (mkF m 18 #[.val (.long pl), .second, .val (.long mi), .second, .val (.long inc), .second, .val (.long sta), .second, .val (.long val), .second, .val (.int mode), .val (.ref b1), .unset, .unset, .unset, .unset, .unset, .unset] [(.int (3 : Int32)), (.int mode)]))
  refine own_st (fun _ k => XS.iand X2.here hx rfl (hb hby at_18) rfl k) ?_
  show own_Go p.tables e below F (T2.setTop (mkF m 19 #[.val (.long pl), .second, .val (.long mi), .second, .val (.long inc), .second, .val (.long sta), .second, .val (.long val), .second, .val (.int mode), .val (.ref b1), .unset, .unset, .unset, .unset, .unset, .unset] [(.int (mode &&& (3 : Int32)))]))
  refine own_st (fun _ k => XS.istore X2.here hx rfl (hb hby at_19) rfl (l' := #[.val (.long pl), .second, .val (.long mi), .second, .val (.long inc), .second, .val (.long sta), .second, .val (.long val), .second, .val (.int mode), .val (.ref b1), .val (.int (mode &&& (3 : Int32))), .unset, .unset, .unset, .unset, .unset]) rfl k) ?_
  show own_Go p.tables e below F (T2.setTop (mkF m 21 #[.val (.long pl), .second, .val (.long mi), .second, .val (.long inc), .second, .val (.long sta), .second, .val (.long val), .second, .val (.int mode), .val (.ref b1), .val (.int (mode &&& (3 : Int32))), .unset, .unset, .unset, .unset, .unset] []))
  suffices J45 : ∀ (vv : Int64), own_Go p.tables e below F (T2.setTop (mkF m 45 #[.val (.long pl), .second, .val (.long mi), .second, .val (.long inc), .second, .val (.long sta), .second, .val (.long val), .second, .val (.int mode), .val (.ref b1), .val (.int (mode &&& (3 : Int32))), .unset, .unset, .unset, .unset, .unset] [(.long vv)])) by
    refine own_st (fun _ k => XS.iload X2.here hx rfl (hb hby at_21) rfl k) ?_
    show own_Go p.tables e below F (T2.setTop (mkF m 23 #[.val (.long pl), .second, .val (.long mi), .second, .val (.long inc), .second, .val (.long sta), .second, .val (.long val), .second, .val (.int mode), .val (.ref b1), .val (.int (mode &&& (3 : Int32))), .unset, .unset, .unset, .unset, .unset] [(.int (mode &&& (3 : Int32)))]))
    refine own_st (fun _ k => XS.iconst X2.here hx rfl (hb hby at_23) k) ?_
    show own_Go p.tables e below F (T2.setTop (mkF m 24 #[.val (.long pl), .second, .val (.long mi), .second, .val (.long inc), .second, .val (.long sta), .second, .val (.long val), .second, .val (.int mode), .val (.ref b1), .val (.int (mode &&& (3 : Int32))), .unset, .unset, .unset, .unset, .unset] [(.int (2 : Int32)), (.int (mode &&& (3 : Int32)))]))
    by_cases hc24 : (mode &&& (3 : Int32)) = (2 : Int32)
    ·
      refine own_st (fun _ k => XS.icmpNo X2.here hx rfl (hb hby at_24) rfl (teq hc24).2 k) ?_
      show own_Go p.tables e below F (T2.setTop (mkF m 27 #[.val (.long pl), .second, .val (.long mi), .second, .val (.long inc), .second, .val (.long sta), .second, .val (.long val), .second, .val (.int mode), .val (.ref b1), .val (.int (mode &&& (3 : Int32))), .unset, .unset, .unset, .unset, .unset] []))
      refine own_st (fun _ k => XS.lloadN X2.here hx rfl (hb hby at_27) rfl k) ?_
      show own_Go p.tables e below F (T2.setTop (mkF m 28 #[.val (.long pl), .second, .val (.long mi), .second, .val (.long inc), .second, .val (.long sta), .second, .val (.long val), .second, .val (.int mode), .val (.ref b1), .val (.int (mode &&& (3 : Int32))), .unset, .unset, .unset, .unset, .unset] [(.long mi)]))
      refine own_st (fun _ k => XS.goto X2.here hx rfl (pc0 := 28) (pc' := 45) rfl (hb hby at_28) (by decide) (by decide) k) ?_
      show own_Go p.tables e below F (T2.setTop (mkF m 45 #[.val (.long pl), .second, .val (.long mi), .second, .val (.long inc), .second, .val (.long sta), .second, .val (.long val), .second, .val (.int mode), .val (.ref b1), .val (.int (mode &&& (3 : Int32))), .unset, .unset, .unset, .unset, .unset] [(.long mi)]))
      exact J45 _
    ·
      refine own_st (fun _ k => XS.icmpYes X2.here hx rfl (pc0 := 24) (pc' := 31) rfl (hb hby at_24) rfl (feq hc24).2 (by decide) (by decide) k) ?_
      show own_Go p.tables e below F (T2.setTop (mkF m 31 #[.val (.long pl), .second, .val (.long mi), .second, .val (.long inc), .second, .val (.long sta), .second, .val (.long val), .second, .val (.int mode), .val (.ref b1), .val (.int (mode &&& (3 : Int32))), .unset, .unset, .unset, .unset, .unset] []))
      refine own_st (fun _ k => XS.iload X2.here hx rfl (hb hby at_31) rfl k) ?_
      show own_Go p.tables e below F (T2.setTop (mkF m 33 #[.val (.long pl), .second, .val (.long mi), .second, .val (.long inc), .second, .val (.long sta), .second, .val (.long val), .second, .val (.int mode), .val (.ref b1), .val (.int (mode &&& (3 : Int32))), .unset, .unset, .unset, .unset, .unset] [(.int (mode &&& (3 : Int32)))]))
      refine own_st (fun _ k => XS.iconst X2.here hx rfl (hb hby at_33) k) ?_
      show own_Go p.tables e below F (T2.setTop (mkF m 34 #[.val (.long pl), .second, .val (.long mi), .second, .val (.long inc), .second, .val (.long sta), .second, .val (.long val), .second, .val (.int mode), .val (.ref b1), .val (.int (mode &&& (3 : Int32))), .unset, .unset, .unset, .unset, .unset] [(.int (3 : Int32)), (.int (mode &&& (3 : Int32)))]))
      by_cases hc34 : (mode &&& (3 : Int32)) = (3 : Int32)
      ·
        refine own_st (fun _ k => XS.icmpNo X2.here hx rfl (hb hby at_34) rfl (teq hc34).2 k) ?_
        show own_Go p.tables e below F (T2.setTop (mkF m 37 #[.val (.long pl), .second, .val (.long mi), .second, .val (.long inc), .second, .val (.long sta), .second, .val (.long val), .second, .val (.int mode), .val (.ref b1), .val (.int (mode &&& (3 : Int32))), .unset, .unset, .unset, .unset, .unset] []))
        refine own_st (fun _ k => XS.lloadN X2.here hx rfl (hb hby at_37) rfl k) ?_
        show own_Go p.tables e below F (T2.setTop (mkF m 38 #[.val (.long pl), .second, .val (.long mi), .second, .val (.long inc), .second, .val (.long sta), .second, .val (.long val), .second, .val (.int mode), .val (.ref b1), .val (.int (mode &&& (3 : Int32))), .unset, .unset, .unset, .unset, .unset] [(.long mi)]))
        refine own_st (fun _ k => XS.lconst X2.here hx rfl (hb hby at_38) k) ?_
        show own_Go p.tables e below F (T2.setTop (mkF m 39 #[.val (.long pl), .second, .val (.long mi), .second, .val (.long inc), .second, .val (.long sta), .second, .val (.long val), .second, .val (.int mode), .val (.ref b1), .val (.int (mode &&& (3 : Int32))), .unset, .unset, .unset, .unset, .unset] [(.long (1 : Int64)), (.long mi)]))
        refine own_st (fun _ k => XS.lsub X2.here hx rfl (hb hby at_39) rfl k) ?_
        show own_Go p.tables e below F (T2.setTop (mkF m 40 #[.val (.long pl), .second, .val (.long mi), .second, .val (.long inc), .second, .val (.long sta), .second, .val (.long val), .second, .val (.int mode), .val (.ref b1), .val (.int (mode &&& (3 : Int32))), .unset, .unset, .unset, .unset, .unset] [(.long (mi - (1 : Int64)))]))
        refine own_st (fun _ k => XS.goto X2.here hx rfl (pc0 := 40) (pc' := 45) rfl (hb hby at_40) (by decide) (by decide) k) ?_
        show own_Go p.tables e below F (T2.setTop (mkF m 45 #[.val (.long pl), .second, .val (.long mi), .second, .val (.long inc), .second, .val (.long sta), .second, .val (.long val), .second, .val (.int mode), .val (.ref b1), .val (.int (mode &&& (3 : Int32))), .unset, .unset, .unset, .unset, .unset] [(.long (mi - (1 : Int64)))]))
        exact J45 _
      ·
        refine own_st (fun _ k => XS.icmpYes X2.here hx rfl (pc0 := 34) (pc' := 43) rfl (hb hby at_34) rfl (feq hc34).2 (by decide) (by decide) k) ?_
        show own_Go p.tables e below F (T2.setTop (mkF m 43 #[.val (.long pl), .second, .val (.long mi), .second, .val (.long inc), .second, .val (.long sta), .second, .val (.long val), .second, .val (.int mode), .val (.ref b1), .val (.int (mode &&& (3 : Int32))), .unset, .unset, .unset, .unset, .unset] []))
        refine own_st (fun _ k => XS.lload X2.here hx rfl (hb hby at_43) rfl k) ?_
        show own_Go p.tables e below F (T2.setTop (mkF m 45 #[.val (.long pl), .second, .val (.long mi), .second, .val (.long inc), .second, .val (.long sta), .second, .val (.long val), .second, .val (.int mode), .val (.ref b1), .val (.int (mode &&& (3 : Int32))), .unset, .unset, .unset, .unset, .unset] [(.long val)]))
        exact J45 _
  intro vv
  show own_Go p.tables e below F (T2.setTop (mkF m 45 #[.val (.long pl), .second, .val (.long mi), .second, .val (.long inc), .second, .val (.long sta), .second, .val (.long val), .second, .val (.int mode), .val (.ref b1), .val (.int (mode &&& (3 : Int32))), .unset, .unset, .unset, .unset, .unset] [(.long vv)]))
  refine own_st (fun _ k => XS.lstore X2.here hx rfl (hb hby at_45) rfl (l' := #[.val (.long pl), .second, .val (.long mi), .second, .val (.long inc), .second, .val (.long sta), .second, .val (.long val), .second, .val (.int mode), .val (.ref b1), .val (.int (mode &&& (3 : Int32))), .val (.long vv), .second, .unset, .unset, .unset]) rfl k) ?_
  show own_Go p.tables e below F (T2.setTop (mkF m 47 #[.val (.long pl), .second, .val (.long mi), .second, .val (.long inc), .second, .val (.long sta), .second, .val (.long val), .second, .val (.int mode), .val (.ref b1), .val (.int (mode &&& (3 : Int32))), .val (.long vv), .second, .unset, .unset, .unset] []))
  refine own_st (fun _ k => XS.iload X2.here hx rfl (hb hby at_47) rfl k) ?_
  show own_Go p.tables e below F (T2.setTop (mkF m 49 #[.val (.long pl), .second, .val (.long mi), .second, .val (.long inc), .second, .val (.long sta), .second, .val (.long val), .second, .val (.int mode), .val (.ref b1), .val (.int (mode &&& (3 : Int32))), .val (.long vv), .second, .unset, .unset, .unset] [(.int (mode &&& (3 : Int32)))]))
  by_cases hc49 : (mode &&& (3 : Int32)) = (0 : Int32)
  ·
    refine own_st (fun _ k => XS.ifNo X2.here hx rfl (hb hby at_49) rfl ((if0 _ _).trans (teq hc49).2) k) ?_
    show own_Go p.tables e below F (T2.setTop (mkF m 52 #[.val (.long pl), .second, .val (.long mi), .second, .val (.long inc), .second, .val (.long sta), .second, .val (.long val), .second, .val (.int mode), .val (.ref b1), .val (.int (mode &&& (3 : Int32))), .val (.long vv), .second, .unset, .unset, .unset] []))
    refine own_st (fun _ k => XS.aconstNull X2.here hx rfl (hb hby at_52) k) ?_
    show own_Go p.tables e below F (T2.setTop (mkF m 53 #[.val (.long pl), .second, .val (.long mi), .second, .val (.long inc), .second, .val (.long sta), .second, .val (.long val), .second, .val (.int mode), .val (.ref b1), .val (.int (mode &&& (3 : Int32))), .val (.long vv), .second, .unset, .unset, .unset] [.null]))
    refine own_st (fun _ k => XS.goto X2.here hx rfl (pc0 := 53) (pc' := 61) rfl (hb hby at_53) (by decide) (by decide) k) ?_
    show own_Go p.tables e below F (T2.setTop (mkF m 61 #[.val (.long pl), .second, .val (.long mi), .second, .val (.long inc), .second, .val (.long sta), .second, .val (.long val), .second, .val (.int mode), .val (.ref b1), .val (.int (mode &&& (3 : Int32))), .val (.long vv), .second, .unset, .unset, .unset] [.null]))
    refine own_st (fun _ k => XS.astore X2.here hx rfl (hb hby at_61) rfl rfl (l' := #[.val (.long pl), .second, .val (.long mi), .second, .val (.long inc), .second, .val (.long sta), .second, .val (.long val), .second, .val (.int mode), .val (.ref b1), .val (.int (mode &&& (3 : Int32))), .val (.long vv), .second, .val .null, .unset, .unset]) rfl k) ?_
    show own_Go p.tables e below F (T2.setTop (mkF m 63 #[.val (.long pl), .second, .val (.long mi), .second, .val (.long inc), .second, .val (.long sta), .second, .val (.long val), .second, .val (.int mode), .val (.ref b1), .val (.int (mode &&& (3 : Int32))), .val (.long vv), .second, .val .null, .unset, .unset] []))
    refine own_st (fun _ k => XS.aload X2.here hx rfl (hb hby at_63) rfl rfl k) ?_
    show own_Go p.tables e below F (T2.setTop (mkF m 65 #[.val (.long pl), .second, .val (.long mi), .second, .val (.long inc), .second, .val (.long sta), .second, .val (.long val), .second, .val (.int mode), .val (.ref b1), .val (.int (mode &&& (3 : Int32))), .val (.long vv), .second, .val .null, .unset, .unset] [(.ref b1)]))
    refine own_st (fun _ k => XS.aload X2.here hx rfl (hb hby at_65) rfl rfl k) ?_
    show own_Go p.tables e below F (T2.setTop (mkF m 67 #[.val (.long pl), .second, .val (.long mi), .second, .val (.long inc), .second, .val (.long sta), .second, .val (.long val), .second, .val (.int mode), .val (.ref b1), .val (.int (mode &&& (3 : Int32))), .val (.long vv), .second, .val .null, .unset, .unset] [.null, (.ref b1)]))
    obtain ⟨cq3, kq3, q3a, q3b, q3c⟩ := isOf hZ rfl Pn2.1
    obtain ⟨_, _, ⟨T3, L3, k3, n3⟩, -, X3, ⟨Lc3, hQ3, l3, y3, z3⟩, st3⟩ := X2.virtualBack hx (y := (⟨"com/example/tabula_rasa/tabularasa/sequence/Counters$State", "pastRows", "(Ljava/lang/Long;)J"⟩ : MethodName)) (z := (⟨"com/example/tabula_rasa/tabularasa/sequence/Counters$State", "pastRows", "(Ljava/lang/Long;)J"⟩ : MethodName)) hown (mvT hZ (hw _ (List.mem_of_getElem? (i := 30) rfl))) (mvT hZ (hw _ (List.mem_of_getElem? (i := 31) rfl))) (notFace_of_selects (args := #[]) (mvT hZ (hw _ (List.mem_of_getElem? (i := 33) rfl)))) (mvT hZ (hw _ (List.mem_of_getElem? (i := 33) rfl))) (mvT hZ (hw _ (List.mem_of_getElem? (i := 32) rfl))) (by decide) (backOf (W := 0) (own_prN l Z a0 hw [] b1 mi inc sta T2.heap n0 Pn2) hZ (hw _ (List.mem_of_getElem? (i := 34) rfl)) (hw _ (List.mem_of_getElem? (i := 2) rfl)) (by decide) (by decide)) q3a q3c (g := (mkF m 67 #[.val (.long pl), .second, .val (.long mi), .second, .val (.long inc), .second, .val (.long sta), .second, .val (.long val), .second, .val (.int mode), .val (.ref b1), .val (.int (mode &&& (3 : Int32))), .val (.long vv), .second, .val .null, .unset, .unset] [.null, (.ref b1)])) rfl (by rw [hml]; rfl) (Steps.refl _) (argsL := [.null]) (rest := []) (lenOf pd_4 rfl) rfl (by show 2 * 0 + _ ≤ _; exact Nat.le_of_eq rfl) (hb hby at_67) (fun _ _ => ⟨rfl, rfl, (by decide : 1 + 0 ≤ _), (by decide : 4 + 0 ≤ _)⟩)
    dsimp only [Pt.U, Pt.locs, Pt.cells, Pt.slots] at X3 l3 y3 z3 st3 hQ3
    subst l3 y3 z3
    obtain ⟨rfl, N3q, e3⟩ := hQ3
    have N3 := Fr.app N2 N3q
    refine own_st (fun _ k => st3.trans k) ?_
    show own_Go p.tables e below F (T3.setTop (mkF m 70 #[.val (.long pl), .second, .val (.long mi), .second, .val (.long inc), .second, .val (.long sta), .second, .val (.long val), .second, .val (.int mode), .val (.ref b1), .val (.int (mode &&& (3 : Int32))), .val (.long vv), .second, .val .null, .unset, .unset] [(.long sta)]))
    refine own_st (fun _ k => XS.lstore X3.here hx rfl (hb hby at_70) rfl (l' := #[.val (.long pl), .second, .val (.long mi), .second, .val (.long inc), .second, .val (.long sta), .second, .val (.long val), .second, .val (.int mode), .val (.ref b1), .val (.int (mode &&& (3 : Int32))), .val (.long vv), .second, .val .null, .val (.long sta), .second]) rfl k) ?_
    show own_Go p.tables e below F (T3.setTop (mkF m 72 #[.val (.long pl), .second, .val (.long mi), .second, .val (.long inc), .second, .val (.long sta), .second, .val (.long val), .second, .val (.int mode), .val (.ref b1), .val (.int (mode &&& (3 : Int32))), .val (.long vv), .second, .val .null, .val (.long sta), .second] []))
    refine own_st (fun _ k => XS.iload X3.here hx rfl (hb hby at_72) rfl k) ?_
    show own_Go p.tables e below F (T3.setTop (mkF m 74 #[.val (.long pl), .second, .val (.long mi), .second, .val (.long inc), .second, .val (.long sta), .second, .val (.long val), .second, .val (.int mode), .val (.ref b1), .val (.int (mode &&& (3 : Int32))), .val (.long vv), .second, .val .null, .val (.long sta), .second] [(.int (mode &&& (3 : Int32)))]))
    refine own_st (fun _ k => XS.ifNo X3.here hx rfl (hb hby at_74) rfl ((if0 _ _).trans (teq hc49).2) k) ?_
    show own_Go p.tables e below F (T3.setTop (mkF m 77 #[.val (.long pl), .second, .val (.long mi), .second, .val (.long inc), .second, .val (.long sta), .second, .val (.long val), .second, .val (.int mode), .val (.ref b1), .val (.int (mode &&& (3 : Int32))), .val (.long vv), .second, .val .null, .val (.long sta), .second] []))
    refine own_st (fun _ k => XS.lload X3.here hx rfl (hb hby at_77) rfl k) ?_
    show own_Go p.tables e below F (T3.setTop (mkF m 79 #[.val (.long pl), .second, .val (.long mi), .second, .val (.long inc), .second, .val (.long sta), .second, .val (.long val), .second, .val (.int mode), .val (.ref b1), .val (.int (mode &&& (3 : Int32))), .val (.long vv), .second, .val .null, .val (.long sta), .second] [(.long sta)]))
    refine own_st (fun _ k => XS.lload X3.here hx rfl (hb hby at_79) rfl k) ?_
    show own_Go p.tables e below F (T3.setTop (mkF m 81 #[.val (.long pl), .second, .val (.long mi), .second, .val (.long inc), .second, .val (.long sta), .second, .val (.long val), .second, .val (.int mode), .val (.ref b1), .val (.int (mode &&& (3 : Int32))), .val (.long vv), .second, .val .null, .val (.long sta), .second] [(.long sta), (.long sta)]))
    refine own_st (fun _ k => XS.lcmp X3.here hx rfl (hb hby at_81) rfl k) ?_
    show own_Go p.tables e below F (T3.setTop (mkF m 82 #[.val (.long pl), .second, .val (.long mi), .second, .val (.long inc), .second, .val (.long sta), .second, .val (.long val), .second, .val (.int mode), .val (.ref b1), .val (.int (mode &&& (3 : Int32))), .val (.long vv), .second, .val .null, .val (.long sta), .second] [(.int (lcmpW sta sta))]))
    refine own_st (fun _ k => XS.ifNo X3.here hx rfl (hb hby at_82) rfl ((if0 _ _).trans (teq ((lw_eq _ _).mpr rfl)).2) k) ?_
    show own_Go p.tables e below F (T3.setTop (mkF m 85 #[.val (.long pl), .second, .val (.long mi), .second, .val (.long inc), .second, .val (.long sta), .second, .val (.long val), .second, .val (.int mode), .val (.ref b1), .val (.int (mode &&& (3 : Int32))), .val (.long vv), .second, .val .null, .val (.long sta), .second] []))
    refine own_st (fun _ k => XS.iconst X3.here hx rfl (hb hby at_85) k) ?_
    show own_Go p.tables e below F (T3.setTop (mkF m 86 #[.val (.long pl), .second, .val (.long mi), .second, .val (.long inc), .second, .val (.long sta), .second, .val (.long val), .second, .val (.int mode), .val (.ref b1), .val (.int (mode &&& (3 : Int32))), .val (.long vv), .second, .val .null, .val (.long sta), .second] [(.int (1 : Int32))]))
    refine own_st (fun _ k => XS.goto X3.here hx rfl (pc0 := 86) (pc' := 90) rfl (hb hby at_86) (by decide) (by decide) k) ?_
    show own_Go p.tables e below F (T3.setTop (mkF m 90 #[.val (.long pl), .second, .val (.long mi), .second, .val (.long inc), .second, .val (.long sta), .second, .val (.long val), .second, .val (.int mode), .val (.ref b1), .val (.int (mode &&& (3 : Int32))), .val (.long vv), .second, .val .null, .val (.long sta), .second] [(.int (1 : Int32))]))
    obtain ⟨fs, hrL, hrun, hended, hW, hsame⟩ := X3.leave (v := some (.int (1 : Int32))) (fun h => by rw [Bd.returns] at h; cases h)
    refine own_end hF (o := .returned (some (.int (1 : Int32)))) (retN X3 hx (t := .boolean) Bd.returns (by simp) (hb hby at_90) hrL) ?_
    refine ⟨hrun, hended, _, _, rfl, ?_, ⟨_, rfl⟩, hW, hsame.mono (by decide) (by decide)⟩
    exact ⟨rfl, N3⟩
  ·
    refine own_st (fun _ k => XS.ifYes X2.here hx rfl (pc0 := 49) (pc' := 56) rfl (hb hby at_49) rfl ((if0 _ _).trans (feq hc49).2) (by decide) (by decide) k) ?_
    show own_Go p.tables e below F (T2.setTop (mkF m 56 #[.val (.long pl), .second, .val (.long mi), .second, .val (.long inc), .second, .val (.long sta), .second, .val (.long val), .second, .val (.int mode), .val (.ref b1), .val (.int (mode &&& (3 : Int32))), .val (.long vv), .second, .unset, .unset, .unset] []))
    refine own_st (fun _ k => XS.lload X2.here hx rfl (hb hby at_56) rfl k) ?_
    show own_Go p.tables e below F (T2.setTop (mkF m 58 #[.val (.long pl), .second, .val (.long mi), .second, .val (.long inc), .second, .val (.long sta), .second, .val (.long val), .second, .val (.int mode), .val (.ref b1), .val (.int (mode &&& (3 : Int32))), .val (.long vv), .second, .unset, .unset, .unset] [(.long vv)]))
    obtain ⟨_, _, ⟨T4, L4, k4, n4⟩, -, X4, ⟨Lc4, hQ4, l4, y4, z4⟩, st4⟩ := Jvm.LawKit.callS X2 hx (y := (⟨"java/lang/Long", "valueOf", "(J)Ljava/lang/Long;"⟩ : MethodName)) hown (mvT hZ (hw _ (List.mem_of_getElem? (i := 22) rfl))) (mvT hZ (hw _ (List.mem_of_getElem? (i := 23) rfl))) (mvT hZ (hw _ (List.mem_of_getElem? (i := 24) rfl))) (mvT hZ (hw _ (List.mem_of_getElem? (i := 25) rfl))) (by decide) (backOf (W := 0) (own_vof l Z a0 hw [] vv cA cl T2.heap n0 (Nat.le_trans Z0 K0_2.1) (own_ext_ext O K0_2) SC B) hZ (hw _ (List.mem_of_getElem? (i := 25) rfl)) (hw _ (List.mem_of_getElem? (i := 24) rfl)) (by decide) (by decide)) (g := (mkF m 58 #[.val (.long pl), .second, .val (.long mi), .second, .val (.long inc), .second, .val (.long sta), .second, .val (.long val), .second, .val (.int mode), .val (.ref b1), .val (.int (mode &&& (3 : Int32))), .val (.long vv), .second, .unset, .unset, .unset] [(.long vv)])) rfl (by rw [hml]; rfl) (argsL := [(.long vv)]) (rest := []) (lenOf pd_5 rfl) rfl (by show 2 * 0 + _ ≤ _; exact Nat.le_of_eq rfl) (hb hby at_58) (fun _ _ => ⟨rfl, rfl, (by decide : 1 + 1 ≤ _), (by decide : 4 + 1 ≤ _)⟩)
    dsimp only [Pt.U, Pt.locs, Pt.cells, Pt.slots] at X4 l4 y4 z4 st4 hQ4
    subst l4 y4 z4
    obtain ⟨bl4, rfl, N4q, K4, En4, Fn4⟩ := hQ4
    have N4 := Fr.app N2 N4q
    refine own_st (st4) ?_
    have Pn2__4 := own_P_keep Pn2 K4 nin0
    have K0_4 := own_ext_keep K0_2 K4 all0
    show own_Go p.tables e below F (T4.setTop (mkF m 61 #[.val (.long pl), .second, .val (.long mi), .second, .val (.long inc), .second, .val (.long sta), .second, .val (.long val), .second, .val (.int mode), .val (.ref b1), .val (.int (mode &&& (3 : Int32))), .val (.long vv), .second, .unset, .unset, .unset] [(.ref bl4)]))
    refine own_st (fun _ k => XS.astore X4.here hx rfl (hb hby at_61) rfl rfl (l' := #[.val (.long pl), .second, .val (.long mi), .second, .val (.long inc), .second, .val (.long sta), .second, .val (.long val), .second, .val (.int mode), .val (.ref b1), .val (.int (mode &&& (3 : Int32))), .val (.long vv), .second, .val (.ref bl4), .unset, .unset]) rfl k) ?_
    show own_Go p.tables e below F (T4.setTop (mkF m 63 #[.val (.long pl), .second, .val (.long mi), .second, .val (.long inc), .second, .val (.long sta), .second, .val (.long val), .second, .val (.int mode), .val (.ref b1), .val (.int (mode &&& (3 : Int32))), .val (.long vv), .second, .val (.ref bl4), .unset, .unset] []))
    refine own_st (fun _ k => XS.aload X4.here hx rfl (hb hby at_63) rfl rfl k) ?_
    show own_Go p.tables e below F (T4.setTop (mkF m 65 #[.val (.long pl), .second, .val (.long mi), .second, .val (.long inc), .second, .val (.long sta), .second, .val (.long val), .second, .val (.int mode), .val (.ref b1), .val (.int (mode &&& (3 : Int32))), .val (.long vv), .second, .val (.ref bl4), .unset, .unset] [(.ref b1)]))
    refine own_st (fun _ k => XS.aload X4.here hx rfl (hb hby at_65) rfl rfl k) ?_
    show own_Go p.tables e below F (T4.setTop (mkF m 67 #[.val (.long pl), .second, .val (.long mi), .second, .val (.long inc), .second, .val (.long sta), .second, .val (.long val), .second, .val (.int mode), .val (.ref b1), .val (.int (mode &&& (3 : Int32))), .val (.long vv), .second, .val (.ref bl4), .unset, .unset] [(.ref bl4), (.ref b1)]))
    by_cases hlt : (lcmpW vv mi) < (0 : Int32)
    ·
      obtain ⟨cq5, kq5, q5a, q5b, q5c⟩ := isOf hZ rfl Pn2__4.1
      obtain ⟨_, _, ⟨T5, L5, k5, n5⟩, -, X5, ⟨Lc5, hQ5, l5, y5, z5⟩, st5⟩ := X4.virtualBack hx (y := (⟨"com/example/tabula_rasa/tabularasa/sequence/Counters$State", "pastRows", "(Ljava/lang/Long;)J"⟩ : MethodName)) (z := (⟨"com/example/tabula_rasa/tabularasa/sequence/Counters$State", "pastRows", "(Ljava/lang/Long;)J"⟩ : MethodName)) hown (mvT hZ (hw _ (List.mem_of_getElem? (i := 30) rfl))) (mvT hZ (hw _ (List.mem_of_getElem? (i := 31) rfl))) (notFace_of_selects (args := #[]) (mvT hZ (hw _ (List.mem_of_getElem? (i := 33) rfl)))) (mvT hZ (hw _ (List.mem_of_getElem? (i := 33) rfl))) (mvT hZ (hw _ (List.mem_of_getElem? (i := 32) rfl))) (by decide) (backOf (W := 0) (own_prB l Z a0 hw [] b1 bl4 mi inc sta vv sta T4.heap n0 Pn2__4 En4 Fn4 (if_pos ((lw_lt _ _).mp hlt)).symm) hZ (hw _ (List.mem_of_getElem? (i := 34) rfl)) (hw _ (List.mem_of_getElem? (i := 2) rfl)) (by decide) (by decide)) q5a q5c (g := (mkF m 67 #[.val (.long pl), .second, .val (.long mi), .second, .val (.long inc), .second, .val (.long sta), .second, .val (.long val), .second, .val (.int mode), .val (.ref b1), .val (.int (mode &&& (3 : Int32))), .val (.long vv), .second, .val (.ref bl4), .unset, .unset] [(.ref bl4), (.ref b1)])) rfl (by rw [hml]; rfl) (Steps.refl _) (argsL := [(.ref bl4)]) (rest := []) (lenOf pd_4 rfl) rfl (by show 2 * 0 + _ ≤ _; exact Nat.le_of_eq rfl) (hb hby at_67) (fun _ _ => ⟨rfl, rfl, (by decide : 2 + 0 ≤ _), (by decide : 5 + 0 ≤ _)⟩)
      dsimp only [Pt.U, Pt.locs, Pt.cells, Pt.slots] at X5 l5 y5 z5 st5 hQ5
      subst l5 y5 z5
      obtain ⟨rfl, N5q, e5⟩ := hQ5
      have N5 := Fr.app N4 N5q
      refine own_st (fun _ k => st5.trans k) ?_
      show own_Go p.tables e below F (T5.setTop (mkF m 70 #[.val (.long pl), .second, .val (.long mi), .second, .val (.long inc), .second, .val (.long sta), .second, .val (.long val), .second, .val (.int mode), .val (.ref b1), .val (.int (mode &&& (3 : Int32))), .val (.long vv), .second, .val (.ref bl4), .unset, .unset] [(.long sta)]))
      refine own_st (fun _ k => XS.lstore X5.here hx rfl (hb hby at_70) rfl (l' := #[.val (.long pl), .second, .val (.long mi), .second, .val (.long inc), .second, .val (.long sta), .second, .val (.long val), .second, .val (.int mode), .val (.ref b1), .val (.int (mode &&& (3 : Int32))), .val (.long vv), .second, .val (.ref bl4), .val (.long sta), .second]) rfl k) ?_
      show own_Go p.tables e below F (T5.setTop (mkF m 72 #[.val (.long pl), .second, .val (.long mi), .second, .val (.long inc), .second, .val (.long sta), .second, .val (.long val), .second, .val (.int mode), .val (.ref b1), .val (.int (mode &&& (3 : Int32))), .val (.long vv), .second, .val (.ref bl4), .val (.long sta), .second] []))
      refine own_st (fun _ k => XS.iload X5.here hx rfl (hb hby at_72) rfl k) ?_
      show own_Go p.tables e below F (T5.setTop (mkF m 74 #[.val (.long pl), .second, .val (.long mi), .second, .val (.long inc), .second, .val (.long sta), .second, .val (.long val), .second, .val (.int mode), .val (.ref b1), .val (.int (mode &&& (3 : Int32))), .val (.long vv), .second, .val (.ref bl4), .val (.long sta), .second] [(.int (mode &&& (3 : Int32)))]))
      refine own_st (fun _ k => XS.ifYes X5.here hx rfl (pc0 := 74) (pc' := 91) rfl (hb hby at_74) rfl ((if0 _ _).trans (feq hc49).2) (by decide) (by decide) k) ?_
      show own_Go p.tables e below F (T5.setTop (mkF m 91 #[.val (.long pl), .second, .val (.long mi), .second, .val (.long inc), .second, .val (.long sta), .second, .val (.long val), .second, .val (.int mode), .val (.ref b1), .val (.int (mode &&& (3 : Int32))), .val (.long vv), .second, .val (.ref bl4), .val (.long sta), .second] []))
      refine own_st (fun _ k => XS.lload X5.here hx rfl (hb hby at_91) rfl k) ?_
      show own_Go p.tables e below F (T5.setTop (mkF m 93 #[.val (.long pl), .second, .val (.long mi), .second, .val (.long inc), .second, .val (.long sta), .second, .val (.long val), .second, .val (.int mode), .val (.ref b1), .val (.int (mode &&& (3 : Int32))), .val (.long vv), .second, .val (.ref bl4), .val (.long sta), .second] [(.long vv)]))
      refine own_st (fun _ k => XS.lloadN X5.here hx rfl (hb hby at_93) rfl k) ?_
      show own_Go p.tables e below F (T5.setTop (mkF m 94 #[.val (.long pl), .second, .val (.long mi), .second, .val (.long inc), .second, .val (.long sta), .second, .val (.long val), .second, .val (.int mode), .val (.ref b1), .val (.int (mode &&& (3 : Int32))), .val (.long vv), .second, .val (.ref bl4), .val (.long sta), .second] [(.long mi), (.long vv)]))
      refine own_st (fun _ k => XS.lcmp X5.here hx rfl (hb hby at_94) rfl k) ?_
      show own_Go p.tables e below F (T5.setTop (mkF m 95 #[.val (.long pl), .second, .val (.long mi), .second, .val (.long inc), .second, .val (.long sta), .second, .val (.long val), .second, .val (.int mode), .val (.ref b1), .val (.int (mode &&& (3 : Int32))), .val (.long vv), .second, .val (.ref bl4), .val (.long sta), .second] [(.int (lcmpW vv mi))]))
      refine own_st (fun _ k => XS.ifNo X5.here hx rfl (hb hby at_95) rfl ((if0 _ _).trans (tlt hlt).2.1) k) ?_
      show own_Go p.tables e below F (T5.setTop (mkF m 98 #[.val (.long pl), .second, .val (.long mi), .second, .val (.long inc), .second, .val (.long sta), .second, .val (.long val), .second, .val (.int mode), .val (.ref b1), .val (.int (mode &&& (3 : Int32))), .val (.long vv), .second, .val (.ref bl4), .val (.long sta), .second] []))
      refine own_st (fun _ k => XS.lload X5.here hx rfl (hb hby at_98) rfl k) ?_
      show own_Go p.tables e below F (T5.setTop (mkF m 100 #[.val (.long pl), .second, .val (.long mi), .second, .val (.long inc), .second, .val (.long sta), .second, .val (.long val), .second, .val (.int mode), .val (.ref b1), .val (.int (mode &&& (3 : Int32))), .val (.long vv), .second, .val (.ref bl4), .val (.long sta), .second] [(.long sta)]))
      refine own_st (fun _ k => XS.lload X5.here hx rfl (hb hby at_100) rfl k) ?_
      show own_Go p.tables e below F (T5.setTop (mkF m 102 #[.val (.long pl), .second, .val (.long mi), .second, .val (.long inc), .second, .val (.long sta), .second, .val (.long val), .second, .val (.int mode), .val (.ref b1), .val (.int (mode &&& (3 : Int32))), .val (.long vv), .second, .val (.ref bl4), .val (.long sta), .second] [(.long sta), (.long sta)]))
      refine own_st (fun _ k => XS.lcmp X5.here hx rfl (hb hby at_102) rfl k) ?_
      show own_Go p.tables e below F (T5.setTop (mkF m 103 #[.val (.long pl), .second, .val (.long mi), .second, .val (.long inc), .second, .val (.long sta), .second, .val (.long val), .second, .val (.int mode), .val (.ref b1), .val (.int (mode &&& (3 : Int32))), .val (.long vv), .second, .val (.ref bl4), .val (.long sta), .second] [(.int (lcmpW sta sta))]))
      refine own_st (fun _ k => XS.ifNo X5.here hx rfl (hb hby at_103) rfl ((if0 _ _).trans (teq ((lw_eq _ _).mpr rfl)).2) k) ?_
      show own_Go p.tables e below F (T5.setTop (mkF m 106 #[.val (.long pl), .second, .val (.long mi), .second, .val (.long inc), .second, .val (.long sta), .second, .val (.long val), .second, .val (.int mode), .val (.ref b1), .val (.int (mode &&& (3 : Int32))), .val (.long vv), .second, .val (.ref bl4), .val (.long sta), .second] []))
      refine own_st (fun _ k => XS.iconst X5.here hx rfl (hb hby at_106) k) ?_
      show own_Go p.tables e below F (T5.setTop (mkF m 107 #[.val (.long pl), .second, .val (.long mi), .second, .val (.long inc), .second, .val (.long sta), .second, .val (.long val), .second, .val (.int mode), .val (.ref b1), .val (.int (mode &&& (3 : Int32))), .val (.long vv), .second, .val (.ref bl4), .val (.long sta), .second] [(.int (1 : Int32))]))
      refine own_st (fun _ k => XS.goto X5.here hx rfl (pc0 := 107) (pc' := 111) rfl (hb hby at_107) (by decide) (by decide) k) ?_
      show own_Go p.tables e below F (T5.setTop (mkF m 111 #[.val (.long pl), .second, .val (.long mi), .second, .val (.long inc), .second, .val (.long sta), .second, .val (.long val), .second, .val (.int mode), .val (.ref b1), .val (.int (mode &&& (3 : Int32))), .val (.long vv), .second, .val (.ref bl4), .val (.long sta), .second] [(.int (1 : Int32))]))
      obtain ⟨fs, hrL, hrun, hended, hW, hsame⟩ := X5.leave (v := some (.int (1 : Int32))) (fun h => by rw [Bd.returns] at h; cases h)
      refine own_end hF (o := .returned (some (.int (1 : Int32)))) (retN X5 hx (t := .boolean) Bd.returns (by simp) (hb hby at_111) hrL) ?_
      refine ⟨hrun, hended, _, _, rfl, ?_, ⟨_, rfl⟩, hW, hsame.mono (by decide) (by decide)⟩
      exact ⟨rfl, N5⟩
    ·
      obtain ⟨cq6, kq6, q6a, q6b, q6c⟩ := isOf hZ rfl Pn2__4.1
      obtain ⟨_, _, ⟨T6, L6, k6, n6⟩, -, X6, ⟨Lc6, hQ6, l6, y6, z6⟩, st6⟩ := X4.virtualBack hx (y := (⟨"com/example/tabula_rasa/tabularasa/sequence/Counters$State", "pastRows", "(Ljava/lang/Long;)J"⟩ : MethodName)) (z := (⟨"com/example/tabula_rasa/tabularasa/sequence/Counters$State", "pastRows", "(Ljava/lang/Long;)J"⟩ : MethodName)) hown (mvT hZ (hw _ (List.mem_of_getElem? (i := 30) rfl))) (mvT hZ (hw _ (List.mem_of_getElem? (i := 31) rfl))) (notFace_of_selects (args := #[]) (mvT hZ (hw _ (List.mem_of_getElem? (i := 33) rfl)))) (mvT hZ (hw _ (List.mem_of_getElem? (i := 33) rfl))) (mvT hZ (hw _ (List.mem_of_getElem? (i := 32) rfl))) (by decide) (backOf (W := 0) (own_prB l Z a0 hw [] b1 bl4 mi inc sta vv (vv + inc) T4.heap n0 Pn2__4 En4 Fn4 (if_neg (fun z => hlt ((lw_lt _ _).mpr z))).symm) hZ (hw _ (List.mem_of_getElem? (i := 34) rfl)) (hw _ (List.mem_of_getElem? (i := 2) rfl)) (by decide) (by decide)) q6a q6c (g := (mkF m 67 #[.val (.long pl), .second, .val (.long mi), .second, .val (.long inc), .second, .val (.long sta), .second, .val (.long val), .second, .val (.int mode), .val (.ref b1), .val (.int (mode &&& (3 : Int32))), .val (.long vv), .second, .val (.ref bl4), .unset, .unset] [(.ref bl4), (.ref b1)])) rfl (by rw [hml]; rfl) (Steps.refl _) (argsL := [(.ref bl4)]) (rest := []) (lenOf pd_4 rfl) rfl (by show 2 * 0 + _ ≤ _; exact Nat.le_of_eq rfl) (hb hby at_67) (fun _ _ => ⟨rfl, rfl, (by decide : 2 + 0 ≤ _), (by decide : 5 + 0 ≤ _)⟩)
      dsimp only [Pt.U, Pt.locs, Pt.cells, Pt.slots] at X6 l6 y6 z6 st6 hQ6
      subst l6 y6 z6
      obtain ⟨rfl, N6q, e6⟩ := hQ6
      have N6 := Fr.app N4 N6q
      refine own_st (fun _ k => st6.trans k) ?_
      show own_Go p.tables e below F (T6.setTop (mkF m 70 #[.val (.long pl), .second, .val (.long mi), .second, .val (.long inc), .second, .val (.long sta), .second, .val (.long val), .second, .val (.int mode), .val (.ref b1), .val (.int (mode &&& (3 : Int32))), .val (.long vv), .second, .val (.ref bl4), .unset, .unset] [(.long (vv + inc))]))
      refine own_st (fun _ k => XS.lstore X6.here hx rfl (hb hby at_70) rfl (l' := #[.val (.long pl), .second, .val (.long mi), .second, .val (.long inc), .second, .val (.long sta), .second, .val (.long val), .second, .val (.int mode), .val (.ref b1), .val (.int (mode &&& (3 : Int32))), .val (.long vv), .second, .val (.ref bl4), .val (.long (vv + inc)), .second]) rfl k) ?_
      show own_Go p.tables e below F (T6.setTop (mkF m 72 #[.val (.long pl), .second, .val (.long mi), .second, .val (.long inc), .second, .val (.long sta), .second, .val (.long val), .second, .val (.int mode), .val (.ref b1), .val (.int (mode &&& (3 : Int32))), .val (.long vv), .second, .val (.ref bl4), .val (.long (vv + inc)), .second] []))
      refine own_st (fun _ k => XS.iload X6.here hx rfl (hb hby at_72) rfl k) ?_
      show own_Go p.tables e below F (T6.setTop (mkF m 74 #[.val (.long pl), .second, .val (.long mi), .second, .val (.long inc), .second, .val (.long sta), .second, .val (.long val), .second, .val (.int mode), .val (.ref b1), .val (.int (mode &&& (3 : Int32))), .val (.long vv), .second, .val (.ref bl4), .val (.long (vv + inc)), .second] [(.int (mode &&& (3 : Int32)))]))
      refine own_st (fun _ k => XS.ifYes X6.here hx rfl (pc0 := 74) (pc' := 91) rfl (hb hby at_74) rfl ((if0 _ _).trans (feq hc49).2) (by decide) (by decide) k) ?_
      show own_Go p.tables e below F (T6.setTop (mkF m 91 #[.val (.long pl), .second, .val (.long mi), .second, .val (.long inc), .second, .val (.long sta), .second, .val (.long val), .second, .val (.int mode), .val (.ref b1), .val (.int (mode &&& (3 : Int32))), .val (.long vv), .second, .val (.ref bl4), .val (.long (vv + inc)), .second] []))
      refine own_st (fun _ k => XS.lload X6.here hx rfl (hb hby at_91) rfl k) ?_
      show own_Go p.tables e below F (T6.setTop (mkF m 93 #[.val (.long pl), .second, .val (.long mi), .second, .val (.long inc), .second, .val (.long sta), .second, .val (.long val), .second, .val (.int mode), .val (.ref b1), .val (.int (mode &&& (3 : Int32))), .val (.long vv), .second, .val (.ref bl4), .val (.long (vv + inc)), .second] [(.long vv)]))
      refine own_st (fun _ k => XS.lloadN X6.here hx rfl (hb hby at_93) rfl k) ?_
      show own_Go p.tables e below F (T6.setTop (mkF m 94 #[.val (.long pl), .second, .val (.long mi), .second, .val (.long inc), .second, .val (.long sta), .second, .val (.long val), .second, .val (.int mode), .val (.ref b1), .val (.int (mode &&& (3 : Int32))), .val (.long vv), .second, .val (.ref bl4), .val (.long (vv + inc)), .second] [(.long mi), (.long vv)]))
      refine own_st (fun _ k => XS.lcmp X6.here hx rfl (hb hby at_94) rfl k) ?_
      show own_Go p.tables e below F (T6.setTop (mkF m 95 #[.val (.long pl), .second, .val (.long mi), .second, .val (.long inc), .second, .val (.long sta), .second, .val (.long val), .second, .val (.int mode), .val (.ref b1), .val (.int (mode &&& (3 : Int32))), .val (.long vv), .second, .val (.ref bl4), .val (.long (vv + inc)), .second] [(.int (lcmpW vv mi))]))
      refine own_st (fun _ k => XS.ifYes X6.here hx rfl (pc0 := 95) (pc' := 112) rfl (hb hby at_95) rfl ((if0 _ _).trans (flt hlt).2.1) (by decide) (by decide) k) ?_
      show own_Go p.tables e below F (T6.setTop (mkF m 112 #[.val (.long pl), .second, .val (.long mi), .second, .val (.long inc), .second, .val (.long sta), .second, .val (.long val), .second, .val (.int mode), .val (.ref b1), .val (.int (mode &&& (3 : Int32))), .val (.long vv), .second, .val (.ref bl4), .val (.long (vv + inc)), .second] []))
      refine own_st (fun _ k => XS.lload X6.here hx rfl (hb hby at_112) rfl k) ?_
      show own_Go p.tables e below F (T6.setTop (mkF m 114 #[.val (.long pl), .second, .val (.long mi), .second, .val (.long inc), .second, .val (.long sta), .second, .val (.long val), .second, .val (.int mode), .val (.ref b1), .val (.int (mode &&& (3 : Int32))), .val (.long vv), .second, .val (.ref bl4), .val (.long (vv + inc)), .second] [(.long (vv + inc))]))
      refine own_st (fun _ k => XS.lload X6.here hx rfl (hb hby at_114) rfl k) ?_
      show own_Go p.tables e below F (T6.setTop (mkF m 116 #[.val (.long pl), .second, .val (.long mi), .second, .val (.long inc), .second, .val (.long sta), .second, .val (.long val), .second, .val (.int mode), .val (.ref b1), .val (.int (mode &&& (3 : Int32))), .val (.long vv), .second, .val (.ref bl4), .val (.long (vv + inc)), .second] [(.long inc), (.long (vv + inc))]))
      refine own_st (fun _ k => XS.lsub X6.here hx rfl (hb hby at_116) rfl k) ?_
      show own_Go p.tables e below F (T6.setTop (mkF m 117 #[.val (.long pl), .second, .val (.long mi), .second, .val (.long inc), .second, .val (.long sta), .second, .val (.long val), .second, .val (.int mode), .val (.ref b1), .val (.int (mode &&& (3 : Int32))), .val (.long vv), .second, .val (.ref bl4), .val (.long (vv + inc)), .second] [(.long ((vv + inc) - inc))]))
      refine own_st (fun _ k => XS.lload X6.here hx rfl (hb hby at_117) rfl k) ?_
      show own_Go p.tables e below F (T6.setTop (mkF m 119 #[.val (.long pl), .second, .val (.long mi), .second, .val (.long inc), .second, .val (.long sta), .second, .val (.long val), .second, .val (.int mode), .val (.ref b1), .val (.int (mode &&& (3 : Int32))), .val (.long vv), .second, .val (.ref bl4), .val (.long (vv + inc)), .second] [(.long vv), (.long ((vv + inc) - inc))]))
      refine own_st (fun _ k => XS.lcmp X6.here hx rfl (hb hby at_119) rfl k) ?_
      show own_Go p.tables e below F (T6.setTop (mkF m 120 #[.val (.long pl), .second, .val (.long mi), .second, .val (.long inc), .second, .val (.long sta), .second, .val (.long val), .second, .val (.int mode), .val (.ref b1), .val (.int (mode &&& (3 : Int32))), .val (.long vv), .second, .val (.ref bl4), .val (.long (vv + inc)), .second] [(.int (lcmpW ((vv + inc) - inc) vv))]))
      refine own_st (fun _ k => XS.ifNo X6.here hx rfl (hb hby at_120) rfl ((if0 _ _).trans (teq ((lw_eq _ _).mpr (Int64.add_sub_cancel vv inc))).2) k) ?_
      show own_Go p.tables e below F (T6.setTop (mkF m 123 #[.val (.long pl), .second, .val (.long mi), .second, .val (.long inc), .second, .val (.long sta), .second, .val (.long val), .second, .val (.int mode), .val (.ref b1), .val (.int (mode &&& (3 : Int32))), .val (.long vv), .second, .val (.ref bl4), .val (.long (vv + inc)), .second] []))
      refine own_st (fun _ k => XS.iconst X6.here hx rfl (hb hby at_123) k) ?_
      show own_Go p.tables e below F (T6.setTop (mkF m 124 #[.val (.long pl), .second, .val (.long mi), .second, .val (.long inc), .second, .val (.long sta), .second, .val (.long val), .second, .val (.int mode), .val (.ref b1), .val (.int (mode &&& (3 : Int32))), .val (.long vv), .second, .val (.ref bl4), .val (.long (vv + inc)), .second] [(.int (1 : Int32))]))
      refine own_st (fun _ k => XS.goto X6.here hx rfl (pc0 := 124) (pc' := 128) rfl (hb hby at_124) (by decide) (by decide) k) ?_
      show own_Go p.tables e below F (T6.setTop (mkF m 128 #[.val (.long pl), .second, .val (.long mi), .second, .val (.long inc), .second, .val (.long sta), .second, .val (.long val), .second, .val (.int mode), .val (.ref b1), .val (.int (mode &&& (3 : Int32))), .val (.long vv), .second, .val (.ref bl4), .val (.long (vv + inc)), .second] [(.int (1 : Int32))]))
      obtain ⟨fs, hrL, hrun, hended, hW, hsame⟩ := X6.leave (v := some (.int (1 : Int32))) (fun h => by rw [Bd.returns] at h; cases h)
      refine own_end hF (o := .returned (some (.int (1 : Int32)))) (retN X6 hx (t := .boolean) Bd.returns (by simp) (hb hby at_128) hrL) ?_
      refine ⟨hrun, hended, _, _, rfl, ?_, ⟨_, rfl⟩, hW, hsame.mono (by decide) (by decide)⟩
      exact ⟨rfl, N6⟩
theorem own_bxs {s : State} {args : Array Value} {cA : Addr} {cl : Cell} (vC : (Term.static "java/lang/Long$LongCache" "cache" "[Ljava/lang/Long;").eval args s none [] s = some (.ref cA)) (AC : Arr s s.heap cA cl (.object "java/lang/Long"))
    (lenC : (Term.length (Term.static "java/lang/Long$LongCache" "cache" "[Ljava/lang/Long;")).eval args s none [] s = some (.int 256))
    (h : (Jvm.Cond.all (Term.static "java/lang/Long$LongCache" "cache" "[Ljava/lang/Long;") (.and (.exactly (.elem (Term.static "java/lang/Long$LongCache" "cache" "[Ljava/lang/Long;") (.index 0)) "java/lang/Long") (.eq (.field (.elem (Term.static "java/lang/Long$LongCache" "cache" "[Ljava/lang/Long;") (.index 0)) "java/lang/Long" "value" "J") (.op1 .i2l (.sub (.index 0) (.int 128)))))).value args s none s [] = some true) :
    Bxs s cA cl "java/lang/Long" "J" (256 : Int32) (fun j => .long (j - (128 : Int32)).toInt64) := by
  have hl : cl.slots.size < 2 ^ 31 ∧ cl.slots.size.toInt32 = 256 := by
    have ha := AC.fin (Vm.Alike.refl s.vm)
    generalize Term.static "java/lang/Long$LongCache" "cache" "[Ljava/lang/Long;" = tC at vC lenC
    simp only [Term.eval, vC, ha, Option.bind_eq_bind, Option.bind_some] at lenC
    split at lenC
    · rename_i hq
      exact ⟨hq, by injection lenC with q; injection q⟩
    · cases lenC
  refine Bxs.start (fun idx => ?_) AC hl.1 hl.2 (by decide) h (fun X j hj hX => ?_)
  · exact vC
  · exact eqv_l (i2l_at (own_sub (idx_at hj) rfl)) hX
set_option maxRecDepth 65536 in
set_option maxHeartbeats 40000000 in
theorem comes_1 {Post : Tables → Env → Array Value → State → Outcome → State → Prop} (hpost : ∀ tb e args s v u, (limb_1_1.after args s (.returned v) u = true ∧ limb_1_2.after args s (.returned v) u = true ∧ True) → FrameEnd s (.returned v) u (Jvm.fieldLocs frame_1_writes args s ++ Jvm.arrayLocs frame_1_arrays args s ++ Jvm.staticLocs frame_1_statics s) 16 128 → Post tb e args s (.returned v) u) :
    ArmFor flags0 classFile x code maxLocals ret World_1 tables_1 room_1 Calls_1 rest_1 Pre_1 Post := by
  intro l hfl _ _ p e ha hc hk s m args below hf hA hF happ hP
  obtain ⟨hcalls, hrest, hpre⟩ := hP
  obtain ⟨-, -, -, hnamed, -, -, -, hat⟩ := (Spec.applies_iff hf).mp happ
  obtain ⟨hg, hn⟩ := and_e (Cond.before_iff.mp (show (Jvm.Cond.and given_1 narrow_1).before args s = true from hpre))
  obtain ⟨gc, gr0⟩ := and_e hg
  obtain ⟨ga0, gr1⟩ := and_e gr0
  obtain ⟨ga1, gr2⟩ := and_e gr1
  obtain ⟨ga2, gr3⟩ := and_e gr2
  obtain ⟨ga3, gr4⟩ := and_e gr3
  obtain ⟨ga4, gr5⟩ := and_e gr4
  have ga5 := gr5
  obtain ⟨w0, w1, w2, w3, w4, w5, rfl⟩ : ∃ w0 w1 w2 w3 w4 w5 : Value, args = #[w0, w1, w2, w3, w4, w5] := by
    have hs : args.size = 6 := by simpa [Cond.value, given_1] using gc
    obtain ⟨L⟩ := args
    match L, hs with
    | [w0, w1, w2, w3, w4, w5], _ => exact ⟨w0, w1, w2, w3, w4, w5, rfl⟩
  have hw := fun d (hd : d ∈ tables_1) => atoms_spec (ws := Jvm.Cond.code x code maxLocals ret :: tables_1) hat d (List.mem_cons_of_mem _ hd)
  have hfit : Fit s := fun {y c} hc i hi => by
    obtain ⟨ha, rfl⟩ := Array.getElem?_eq_some_iff.mp hc
    have q := List.all_eq_true.mp ((Array.all_eq_true_iff_forall_mem.mp hF) _ (Array.getElem_mem ha)) i (List.mem_range.mpr hi)
    simpa [Array.getElem?_eq_getElem hi] using q
  obtain ⟨hsets, hown0⟩ := atoms_of _ (rest_1_c_eq ▸ (show rest_1_c.before _ s = true from hrest))
  have hr0 := Cond.before_iff.mp hown0
  obtain ⟨i0, ei0⟩ := isL_v ga0
  obtain rfl : w0 = (.long i0) := Option.some.inj ei0
  obtain ⟨i1, ei1⟩ := isL_v ga1
  obtain rfl : w1 = (.long i1) := Option.some.inj ei1
  obtain ⟨i2, ei2⟩ := isL_v ga2
  obtain rfl : w2 = (.long i2) := Option.some.inj ei2
  obtain ⟨i3, ei3⟩ := isL_v ga3
  obtain rfl : w3 = (.long i3) := Option.some.inj ei3
  obtain ⟨i4, ei4⟩ := isL_v ga4
  obtain rfl : w4 = (.long i4) := Option.some.inj ei4
  obtain ⟨i5, ei5⟩ := is_v ga5
  obtain rfl : w5 = (.int i5) := Option.some.inj ei5
  have hS2 := Cond.before_iff.mp (hsets _ (List.mem_of_getElem? (i := 2) rfl))
  have hS4 := Cond.before_iff.mp (hsets _ (List.mem_of_getElem? (i := 4) rfl))
  have hS5 := Cond.before_iff.mp (hsets _ (List.mem_of_getElem? (i := 5) rfl))
  obtain ⟨cA, vC⟩ := arr_v hS2
  have SC := Sta.start vC (Or.inl (hsets _ (List.mem_of_getElem? (i := 1) rfl)))
  obtain ⟨cl, AC⟩ := Arr.start vC hS2
  have lenC := eqv_i (Term.int_eval 256) hS4
  have B := own_bxs vC AC lenC hS5
  obtain ⟨n, o, h1, h2, h3, _, L, rfl, ⟨rfl, N⟩, hq⟩ := (own_law l s _ hw tables_1 i0 i1 i2 i3 i4 i5 cA cl s.heap s.heap.size (Nat.le_refl _) own_ext_refl SC B) p e ha hc hk s m _ below hf ((Spec.applies_iff_loose hf).mp happ).1 ⟨rfl, State.Warmed39.refl s, rfl⟩ trivial
  refine ⟨n, _, h1, h2, h3, hpost _ _ _ _ _ _ ⟨Cond.after_iff.mpr rfl, Cond.after_iff.mpr (eq_i res_at (Term.int_eval (1)) rfl), trivial⟩ ⟨hq.1, hq.2.1, (hq.2.2.sift fun y hy => Or.inr (N y hy)).mono (by decide) (by decide)⟩⟩
theorem main_1_1 : Claimed_1_1 := comes_1 fun _ _ _ _ _ _ h hF => ⟨h.1, hF⟩
theorem main_1_2 : Claimed_1_2 := comes_1 fun _ _ _ _ _ _ h hF => ⟨h.2.1, hF⟩
end Jvm.Pilot.@@N@@
namespace Jvm.Pilot.@@N@@
open Jvm Jvm.ClassFile Sem Op Lib Jvm.Free Jvm.Stand Jvm.Pilot.@@N@@.Jvm.D
/-! MADE BY PROGRAM (witnessworld.py) out of the Statement's table words and the real class files: 17 classes; the members and pool entries that the words name. The judged class is class 1, her method 1. -/
namespace start1
open Jvm.ClassFile
def u (s : String) : CpInfo := .utf8 (stringToUtf16 s)
/-- a pool by its gaps: so many unusable entries, then the entry; so many at the end -/
def gap : Nat → List CpInfo → List CpInfo
  | 0, r => r
  | n + 1, r => .unusable :: gap n r
def poolList (es : List (Nat × CpInfo)) (last : Nat) : List CpInfo := es.foldr (fun e r => gap e.1 (e.2 :: r)) (gap last [])
def pool (es : List (Nat × CpInfo)) (last : Nat) : Array CpInfo := ⟨poolList es last⟩
def fileOf (pool : Array CpInfo) (this : Nat) (attrs : Array Attribute := #[]) (ms : Array MethodInfo := #[]) (fl : Nat := 33) (sup : Nat := 0) (ifs : Array Nat := #[]) (fds : Array FieldInfo := #[]) : ClassFile where
  minorVersion := 0
  majorVersion := 65
  constantPool := pool
  accessFlags := fl
  thisClass := this
  superClass := sup
  interfaces := ifs
  fields := fds
  methods := ms
  attributes := attrs
def plain (name : String) (sup : Option ClassId) : Class where
  name := name
  kind := .ordinary
  loader := none
  accessFlags := 33
  super := sup
  interfaces := #[]
  cf := none
  fields := #[]
  methods := #[]
  instanceTypes := #[]
  staticTypes := #[]
  resolved := #[]
  callSites := []
  init := .initialized
  statics := none
  mirror := none

def pool0 : Array CpInfo := pool [(5, u "<init>"), (0, u "()V"), (1, .class_ 10), (1, u "java/lang/Object")] 113

def k0c0 : Code := { maxStack := 0, maxLocals := 1, code := object_method_1_code, exceptionTable := #[], attributes := #[] }
def k0m0 : Method := { name := "<init>", desc := "()V", sig := { parameters := [], returnType := none }, accessFlags := 1, code := some k0c0 }
/-- java/lang/Object -/
def k0 : Class := { plain "java/lang/Object" none with
  accessFlags := 33
  interfaces := #[]
  cf := some (fileOf pool0 8 #[] #[{ accessFlags := 1, nameIndex := 5, descriptorIndex := 6, attributes := #[] }] 33 0 #[] #[])
  fields := #[]
  methods := #[k0m0]
  instanceTypes := #[]
  staticTypes := #[]
  resolved := Array.replicate 124 none
  statics := none }

def pool1 : Array CpInfo := pool [(2, .class_ 4), (1, u "java/lang/Object"), (0, u "<init>"), (0, u "()V"), (0, .class_ 8), (0, u "com/example/tabula_rasa/tabularasa/sequence/Counters$State"), (0, .methodref 7 10), (0, .nameAndType 5 11), (0, u "(JJJJ)V"), (0, .methodref 13 14), (0, .class_ 15), (0, .nameAndType 16 17), (0, u "java/lang/Long"), (0, u "valueOf"), (0, u "(J)Ljava/lang/Long;"), (0, .methodref 7 19), (0, .nameAndType 20 21), (0, u "pastRows"), (0, u "(Ljava/lang/Long;)J"), (0, .class_ 23), (0, u "com/example/tabula_rasa/tabularasa/sequence/StatePastRowsPinLaw"), (2, u "law"), (0, u "(JJJJJI)Z")] 7

def k1m0 : Method := { name := "<init>", desc := "()V", sig := { parameters := [], returnType := none }, accessFlags := 1, code := none }
def k1c1 : Code := { maxStack := 10, maxLocals := 18, code := code, exceptionTable := #[], attributes := #[] }
def k1m1 : Method := { name := "law", desc := "(JJJJJI)Z", sig := { parameters := [.long, .long, .long, .long, .long, .int], returnType := some .boolean }, accessFlags := 9, code := some k1c1 }
/-- com/example/tabula_rasa/tabularasa/sequence/StatePastRowsPinLaw -/
def k1 : Class := { plain "com/example/tabula_rasa/tabularasa/sequence/StatePastRowsPinLaw" (some 0) with
  accessFlags := 49
  interfaces := #[]
  cf := some (fileOf pool1 22 #[] #[{ accessFlags := 1, nameIndex := 5, descriptorIndex := 6, attributes := #[] }, { accessFlags := 9, nameIndex := 26, descriptorIndex := 27, attributes := #[] }] 49 2 #[] #[])
  fields := #[]
  methods := #[k1m0, k1m1]
  instanceTypes := #[]
  staticTypes := #[]
  resolved := Array.replicate 35 none
  statics := none }

def pool2 : Array CpInfo := pool [(1, .methodref 2 3), (0, .class_ 4), (0, .nameAndType 5 6), (0, u "java/lang/Object"), (0, u "<init>"), (0, u "()V"), (0, .class_ 8), (0, u "java/lang/Record")] 13

def k2c0 : Code := { maxStack := 1, maxLocals := 1, code := jdk_30_method_1_code, exceptionTable := #[], attributes := #[] }
def k2m0 : Method := { name := "<init>", desc := "()V", sig := { parameters := [], returnType := none }, accessFlags := 4, code := some k2c0 }
/-- java/lang/Record -/
def k2 : Class := { plain "java/lang/Record" (some 0) with
  accessFlags := 1057
  interfaces := #[]
  cf := some (fileOf pool2 7 #[] #[{ accessFlags := 4, nameIndex := 5, descriptorIndex := 6, attributes := #[] }] 1057 2 #[] #[])
  fields := #[]
  methods := #[k2m0]
  instanceTypes := #[]
  staticTypes := #[]
  resolved := Array.replicate 22 none
  statics := none }

def pool3 : Array CpInfo := pool [(1, .methodref 2 3), (0, .class_ 4), (0, .nameAndType 5 6), (0, u "java/lang/Record"), (0, u "<init>"), (0, u "()V"), (0, .fieldref 8 9), (0, .class_ 10), (0, .nameAndType 11 12), (0, u "com/example/tabula_rasa/tabularasa/sequence/Counters$State"), (0, u "place"), (0, u "J"), (0, .fieldref 8 14), (0, .nameAndType 15 12), (0, u "minimum"), (0, .fieldref 8 17), (0, .nameAndType 18 12), (0, u "increment"), (0, .fieldref 8 20), (0, .nameAndType 21 12), (0, u "start"), (0, .methodref 23 24), (0, .class_ 25), (0, .nameAndType 26 27), (0, u "java/lang/Long"), (0, u "longValue"), (0, u "()J"), (12, u "(JJJJ)V"), (3, u "pastRows"), (0, u "(Ljava/lang/Long;)J"), (7, .class_ 54), (0, u "com/example/tabula_rasa/tabularasa/sequence/Counters")] 22

def k3c0 : Code := { maxStack := 3, maxLocals := 9, code := prog_44_method_1_code, exceptionTable := #[], attributes := #[] }
def k3m0 : Method := { name := "<init>", desc := "(JJJJ)V", sig := { parameters := [.long, .long, .long, .long], returnType := none }, accessFlags := 0, code := some k3c0 }
def k3c1 : Code := { maxStack := 4, maxLocals := 2, code := prog_44_method_2_code, exceptionTable := #[], attributes := #[] }
def k3m1 : Method := { name := "pastRows", desc := "(Ljava/lang/Long;)J", sig := { parameters := [(.object "java/lang/Long")], returnType := some .long }, accessFlags := 0, code := some k3c1 }
/-- com/example/tabula_rasa/tabularasa/sequence/Counters$State -/
def k3 : Class := { plain "com/example/tabula_rasa/tabularasa/sequence/Counters$State" (some 2) with
  accessFlags := 48
  interfaces := #[]
  cf := some (fileOf pool3 8 #[.nestHost 53] #[{ accessFlags := 0, nameIndex := 5, descriptorIndex := 40, attributes := #[] }, { accessFlags := 0, nameIndex := 44, descriptorIndex := 45, attributes := #[] }] 48 2 #[] #[{ accessFlags := 18, nameIndex := 11, descriptorIndex := 12, attributes := #[] }, { accessFlags := 18, nameIndex := 15, descriptorIndex := 12, attributes := #[] }, { accessFlags := 18, nameIndex := 18, descriptorIndex := 12, attributes := #[] }, { accessFlags := 18, nameIndex := 21, descriptorIndex := 12, attributes := #[] }])
  fields := #[{ name := "place", type := .long, accessFlags := 18, slot := 0, constantValue := 0 }, { name := "minimum", type := .long, accessFlags := 18, slot := 1, constantValue := 0 }, { name := "increment", type := .long, accessFlags := 18, slot := 2, constantValue := 0 }, { name := "start", type := .long, accessFlags := 18, slot := 3, constantValue := 0 }]
  methods := #[k3m0, k3m1]
  instanceTypes := #[.long, .long, .long, .long]
  staticTypes := #[]
  resolved := Array.replicate 77 none
  statics := none }

def pool4 : Array CpInfo := pool [(1, .class_ 2), (0, u "java/io/Serializable"), (0, .class_ 4), (0, u "java/lang/Object")] 2

/-- java/io/Serializable -/
def k4 : Class := { plain "java/io/Serializable" (some 0) with
  accessFlags := 1537
  interfaces := #[]
  cf := some (fileOf pool4 1 #[] #[] 1537 3 #[] #[])
  fields := #[]
  methods := #[]
  instanceTypes := #[]
  staticTypes := #[]
  resolved := Array.replicate 7 none
  statics := none }

def pool5 : Array CpInfo := pool [(1, .methodref 2 3), (0, .class_ 4), (0, .nameAndType 5 6), (0, u "java/lang/Object"), (0, u "<init>"), (0, u "()V"), (1, .class_ 10), (1, u "java/lang/Number"), (2, .class_ 14), (0, u "java/io/Serializable"), (0, u "serialVersionUID"), (0, u "J")] 20

def k5c0 : Code := { maxStack := 1, maxLocals := 1, code := jdk_18_method_1_code, exceptionTable := #[], attributes := #[] }
def k5m0 : Method := { name := "<init>", desc := "()V", sig := { parameters := [], returnType := none }, accessFlags := 1, code := some k5c0 }
/-- java/lang/Number -/
def k5 : Class := { plain "java/lang/Number" (some 0) with
  accessFlags := 1057
  interfaces := #[4]
  cf := some (fileOf pool5 8 #[] #[{ accessFlags := 1, nameIndex := 5, descriptorIndex := 6, attributes := #[] }] 1057 2 #[13] #[{ accessFlags := 26, nameIndex := 15, descriptorIndex := 16, attributes := #[] }])
  fields := #[{ name := "serialVersionUID", type := .long, accessFlags := 26, slot := 0, constantValue := 0 }]
  methods := #[k5m0]
  instanceTypes := #[]
  staticTypes := #[.long]
  resolved := Array.replicate 37 none
  statics := none }

def pool6 : Array CpInfo := pool [(1, .class_ 2), (0, u "java/lang/Comparable"), (0, .class_ 4), (0, u "java/lang/Object")] 7

/-- java/lang/Comparable -/
def k6 : Class := { plain "java/lang/Comparable" (some 0) with
  accessFlags := 1537
  interfaces := #[]
  cf := some (fileOf pool6 1 #[] #[] 1537 3 #[] #[])
  fields := #[]
  methods := #[]
  instanceTypes := #[]
  staticTypes := #[]
  resolved := Array.replicate 12 none
  statics := none }

def pool7 : Array CpInfo := pool [(1, .class_ 2), (0, u "java/lang/constant/Constable"), (0, .class_ 4), (0, u "java/lang/Object")] 6

/-- java/lang/constant/Constable -/
def k7 : Class := { plain "java/lang/constant/Constable" (some 0) with
  accessFlags := 1537
  interfaces := #[]
  cf := some (fileOf pool7 1 #[] #[] 1537 3 #[] #[])
  fields := #[]
  methods := #[]
  instanceTypes := #[]
  staticTypes := #[]
  resolved := Array.replicate 11 none
  statics := none }

def pool8 : Array CpInfo := pool [(1, .class_ 2), (0, u "java/lang/constant/ConstantDesc"), (0, .class_ 4), (0, u "java/lang/Object")] 32

/-- java/lang/constant/ConstantDesc -/
def k8 : Class := { plain "java/lang/constant/ConstantDesc" (some 0) with
  accessFlags := 1537
  interfaces := #[]
  cf := some (fileOf pool8 1 #[] #[] 1537 3 #[] #[])
  fields := #[]
  methods := #[]
  instanceTypes := #[]
  staticTypes := #[]
  resolved := Array.replicate 37 none
  statics := none }

def pool9 : Array CpInfo := pool [(1, .class_ 2), (0, u "java/lang/Long"), (55, .nameAndType 59 60), (0, u "<init>"), (0, u "()V"), (24, u "valueOf"), (143, u "(J)Ljava/lang/Long;"), (0, .long 18446744073709551488), (1, .long 127), (1, .fieldref 235 236), (0, .class_ 237), (0, .nameAndType 238 239), (0, u "java/lang/Long$LongCache"), (0, u "cache"), (0, u "[Ljava/lang/Long;"), (0, .methodref 1 241), (0, .nameAndType 59 242), (0, u "(J)V"), (27, .methodref 271 58), (0, .class_ 272), (0, u "java/lang/Number"), (0, .fieldref 1 274), (0, .nameAndType 275 276), (0, u "value"), (0, u "J"), (5, u "longValue"), (0, u "()J"), (77, u "TYPE"), (0, u "Ljava/lang/Class;"), (0, .class_ 364), (0, u "java/lang/Comparable"), (0, .class_ 366), (0, u "java/lang/constant/Constable"), (0, .class_ 368), (0, u "java/lang/constant/ConstantDesc"), (0, u "MIN_VALUE"), (1, u "MAX_VALUE"), (4, u "SIZE"), (0, u "I"), (1, u "BYTES"), (1, u "serialVersionUID")] 142

def k9c0 : Code := { maxStack := 4, maxLocals := 3, code := jdk_35_method_24_code, exceptionTable := #[], attributes := #[] }
def k9m0 : Method := { name := "valueOf", desc := "(J)Ljava/lang/Long;", sig := { parameters := [.long], returnType := some (.object "java/lang/Long") }, accessFlags := 9, code := some k9c0 }
def k9c1 : Code := { maxStack := 3, maxLocals := 3, code := jdk_35_method_26_code, exceptionTable := #[], attributes := #[] }
def k9m1 : Method := { name := "<init>", desc := "(J)V", sig := { parameters := [.long], returnType := none }, accessFlags := 1, code := some k9c1 }
def k9c2 : Code := { maxStack := 2, maxLocals := 1, code := jdk_35_method_31_code, exceptionTable := #[], attributes := #[] }
def k9m2 : Method := { name := "longValue", desc := "()J", sig := { parameters := [], returnType := some .long }, accessFlags := 1, code := some k9c2 }
/-- java/lang/Long -/
def k9 : Class := { plain "java/lang/Long" (some 5) with
  accessFlags := 49
  interfaces := #[6, 7, 8]
  cf := some (fileOf pool9 1 #[.nestMembers #[235]] #[{ accessFlags := 9, nameIndex := 85, descriptorIndex := 229, attributes := #[] }, { accessFlags := 1, nameIndex := 59, descriptorIndex := 242, attributes := #[] }, { accessFlags := 1, nameIndex := 282, descriptorIndex := 283, attributes := #[] }] 49 271 #[363, 365, 367] #[{ accessFlags := 25, nameIndex := 369, descriptorIndex := 276, attributes := #[] }, { accessFlags := 25, nameIndex := 371, descriptorIndex := 276, attributes := #[] }, { accessFlags := 25, nameIndex := 361, descriptorIndex := 362, attributes := #[] }, { accessFlags := 18, nameIndex := 275, descriptorIndex := 276, attributes := #[] }, { accessFlags := 25, nameIndex := 376, descriptorIndex := 377, attributes := #[] }, { accessFlags := 25, nameIndex := 379, descriptorIndex := 377, attributes := #[] }, { accessFlags := 26, nameIndex := 381, descriptorIndex := 276, attributes := #[] }])
  fields := #[{ name := "MIN_VALUE", type := .long, accessFlags := 25, slot := 0, constantValue := 0 }, { name := "MAX_VALUE", type := .long, accessFlags := 25, slot := 1, constantValue := 0 }, { name := "TYPE", type := (.object "java/lang/Class"), accessFlags := 25, slot := 2, constantValue := 0 }, { name := "value", type := .long, accessFlags := 18, slot := 0, constantValue := 0 }, { name := "SIZE", type := .int, accessFlags := 25, slot := 3, constantValue := 0 }, { name := "BYTES", type := .int, accessFlags := 25, slot := 4, constantValue := 0 }, { name := "serialVersionUID", type := .long, accessFlags := 26, slot := 5, constantValue := 0 }]
  methods := #[k9m0, k9m1, k9m2]
  instanceTypes := #[.long]
  staticTypes := #[.long, .long, (.object "java/lang/Class"), .int, .int, .long]
  resolved := Array.replicate 524 none
  statics := none }

def pool10 : Array CpInfo := pool [(2, .class_ 4), (1, u "java/lang/Object"), (0, u "<init>"), (0, u "()V"), (0, .class_ 8), (0, u "java/lang/Long"), (7, .class_ 18), (1, u "java/lang/Long$LongCache"), (0, u "$assertionsDisabled"), (0, u "Z"), (8, u "archivedCache"), (0, u "[Ljava/lang/Long;"), (7, u "cache")] 24

def k10m0 : Method := { name := "<init>", desc := "()V", sig := { parameters := [], returnType := none }, accessFlags := 2, code := none }
/-- java/lang/Long$LongCache -/
def k10 : Class := { plain "java/lang/Long$LongCache" (some 0) with
  accessFlags := 48
  interfaces := #[]
  cf := some (fileOf pool10 16 #[.nestHost 7] #[{ accessFlags := 2, nameIndex := 5, descriptorIndex := 6, attributes := #[] }] 48 2 #[] #[{ accessFlags := 24, nameIndex := 38, descriptorIndex := 30, attributes := #[] }, { accessFlags := 8, nameIndex := 29, descriptorIndex := 30, attributes := #[] }, { accessFlags := 4120, nameIndex := 19, descriptorIndex := 20, attributes := #[] }])
  fields := #[{ name := "cache", type := (.array (.object "java/lang/Long")), accessFlags := 24, slot := 0, constantValue := 0 }, { name := "archivedCache", type := (.array (.object "java/lang/Long")), accessFlags := 8, slot := 1, constantValue := 0 }, { name := "$assertionsDisabled", type := .boolean, accessFlags := 4120, slot := 2, constantValue := 0 }]
  methods := #[k10m0]
  instanceTypes := #[]
  staticTypes := #[(.array (.object "java/lang/Long")), (.array (.object "java/lang/Long")), .boolean]
  resolved := Array.replicate 63 none
  statics := some 0 }

def pool11 : Array CpInfo := pool [(1, u "java/lang/Cloneable"), (0, .class_ 1), (0, u "java/lang/Object"), (0, .class_ 3)] 3

/-- java/lang/Cloneable -/
def k11 : Class := { plain "java/lang/Cloneable" (some 0) with
  accessFlags := 1537
  interfaces := #[]
  cf := some (fileOf pool11 2 #[] #[] 1537 4 #[] #[])
  fields := #[]
  methods := #[]
  instanceTypes := #[]
  staticTypes := #[]
  resolved := Array.replicate 8 none
  statics := none }

/-- the primitive byte -/
def k12 : Class := { plain "byte" none with kind := .primitive 'B', accessFlags := 0x411 }
/-- [B -/
def k13 : Class := { plain "[B" (some 0) with kind := .array 12 .byte, interfaces := #[11, 4], accessFlags := 1041 }

/-- the primitive int -/
def k14 : Class := { plain "int" none with kind := .primitive 'I', accessFlags := 0x411 }
/-- [I -/
def k15 : Class := { plain "[I" (some 0) with kind := .array 14 .int, interfaces := #[11, 4], accessFlags := 1041 }

/-- [Ljava/lang/Long; -/
def k16 : Class := { plain "[Ljava/lang/Long;" (some 0) with kind := .array 9 (.object "java/lang/Long"), interfaces := #[11, 4], accessFlags := 1041 }

def heap : Heap := #[{ cls := 10, slots := #[.ref 1, .null, .int 0], vm := .statics 10 },
  { cls := 16, slots := #[.ref 2, .ref 3, .ref 4, .ref 5, .ref 6, .ref 7, .ref 8, .ref 9, .ref 10, .ref 11, .ref 12, .ref 13, .ref 14, .ref 15, .ref 16, .ref 17, .ref 18, .ref 19, .ref 20, .ref 21, .ref 22, .ref 23, .ref 24, .ref 25, .ref 26, .ref 27, .ref 28, .ref 29, .ref 30, .ref 31, .ref 32, .ref 33, .ref 34, .ref 35, .ref 36, .ref 37, .ref 38, .ref 39, .ref 40, .ref 41, .ref 42, .ref 43, .ref 44, .ref 45, .ref 46, .ref 47, .ref 48, .ref 49, .ref 50, .ref 51, .ref 52, .ref 53, .ref 54, .ref 55, .ref 56, .ref 57, .ref 58, .ref 59, .ref 60, .ref 61, .ref 62, .ref 63, .ref 64, .ref 65, .ref 66, .ref 67, .ref 68, .ref 69, .ref 70, .ref 71, .ref 72, .ref 73, .ref 74, .ref 75, .ref 76, .ref 77, .ref 78, .ref 79, .ref 80, .ref 81, .ref 82, .ref 83, .ref 84, .ref 85, .ref 86, .ref 87, .ref 88, .ref 89, .ref 90, .ref 91, .ref 92, .ref 93, .ref 94, .ref 95, .ref 96, .ref 97, .ref 98, .ref 99, .ref 100, .ref 101, .ref 102, .ref 103, .ref 104, .ref 105, .ref 106, .ref 107, .ref 108, .ref 109, .ref 110, .ref 111, .ref 112, .ref 113, .ref 114, .ref 115, .ref 116, .ref 117, .ref 118, .ref 119, .ref 120, .ref 121, .ref 122, .ref 123, .ref 124, .ref 125, .ref 126, .ref 127, .ref 128, .ref 129, .ref 130, .ref 131, .ref 132, .ref 133, .ref 134, .ref 135, .ref 136, .ref 137, .ref 138, .ref 139, .ref 140, .ref 141, .ref 142, .ref 143, .ref 144, .ref 145, .ref 146, .ref 147, .ref 148, .ref 149, .ref 150, .ref 151, .ref 152, .ref 153, .ref 154, .ref 155, .ref 156, .ref 157, .ref 158, .ref 159, .ref 160, .ref 161, .ref 162, .ref 163, .ref 164, .ref 165, .ref 166, .ref 167, .ref 168, .ref 169, .ref 170, .ref 171, .ref 172, .ref 173, .ref 174, .ref 175, .ref 176, .ref 177, .ref 178, .ref 179, .ref 180, .ref 181, .ref 182, .ref 183, .ref 184, .ref 185, .ref 186, .ref 187, .ref 188, .ref 189, .ref 190, .ref 191, .ref 192, .ref 193, .ref 194, .ref 195, .ref 196, .ref 197, .ref 198, .ref 199, .ref 200, .ref 201, .ref 202, .ref 203, .ref 204, .ref 205, .ref 206, .ref 207, .ref 208, .ref 209, .ref 210, .ref 211, .ref 212, .ref 213, .ref 214, .ref 215, .ref 216, .ref 217, .ref 218, .ref 219, .ref 220, .ref 221, .ref 222, .ref 223, .ref 224, .ref 225, .ref 226, .ref 227, .ref 228, .ref 229, .ref 230, .ref 231, .ref 232, .ref 233, .ref 234, .ref 235, .ref 236, .ref 237, .ref 238, .ref 239, .ref 240, .ref 241, .ref 242, .ref 243, .ref 244, .ref 245, .ref 246, .ref 247, .ref 248, .ref 249, .ref 250, .ref 251, .ref 252, .ref 253, .ref 254, .ref 255, .ref 256, .ref 257], vm := .none },
  { cls := 9, slots := #[.long (-128)], vm := .none },
  { cls := 9, slots := #[.long (-127)], vm := .none },
  { cls := 9, slots := #[.long (-126)], vm := .none },
  { cls := 9, slots := #[.long (-125)], vm := .none },
  { cls := 9, slots := #[.long (-124)], vm := .none },
  { cls := 9, slots := #[.long (-123)], vm := .none },
  { cls := 9, slots := #[.long (-122)], vm := .none },
  { cls := 9, slots := #[.long (-121)], vm := .none },
  { cls := 9, slots := #[.long (-120)], vm := .none },
  { cls := 9, slots := #[.long (-119)], vm := .none },
  { cls := 9, slots := #[.long (-118)], vm := .none },
  { cls := 9, slots := #[.long (-117)], vm := .none },
  { cls := 9, slots := #[.long (-116)], vm := .none },
  { cls := 9, slots := #[.long (-115)], vm := .none },
  { cls := 9, slots := #[.long (-114)], vm := .none },
  { cls := 9, slots := #[.long (-113)], vm := .none },
  { cls := 9, slots := #[.long (-112)], vm := .none },
  { cls := 9, slots := #[.long (-111)], vm := .none },
  { cls := 9, slots := #[.long (-110)], vm := .none },
  { cls := 9, slots := #[.long (-109)], vm := .none },
  { cls := 9, slots := #[.long (-108)], vm := .none },
  { cls := 9, slots := #[.long (-107)], vm := .none },
  { cls := 9, slots := #[.long (-106)], vm := .none },
  { cls := 9, slots := #[.long (-105)], vm := .none },
  { cls := 9, slots := #[.long (-104)], vm := .none },
  { cls := 9, slots := #[.long (-103)], vm := .none },
  { cls := 9, slots := #[.long (-102)], vm := .none },
  { cls := 9, slots := #[.long (-101)], vm := .none },
  { cls := 9, slots := #[.long (-100)], vm := .none },
  { cls := 9, slots := #[.long (-99)], vm := .none },
  { cls := 9, slots := #[.long (-98)], vm := .none },
  { cls := 9, slots := #[.long (-97)], vm := .none },
  { cls := 9, slots := #[.long (-96)], vm := .none },
  { cls := 9, slots := #[.long (-95)], vm := .none },
  { cls := 9, slots := #[.long (-94)], vm := .none },
  { cls := 9, slots := #[.long (-93)], vm := .none },
  { cls := 9, slots := #[.long (-92)], vm := .none },
  { cls := 9, slots := #[.long (-91)], vm := .none },
  { cls := 9, slots := #[.long (-90)], vm := .none },
  { cls := 9, slots := #[.long (-89)], vm := .none },
  { cls := 9, slots := #[.long (-88)], vm := .none },
  { cls := 9, slots := #[.long (-87)], vm := .none },
  { cls := 9, slots := #[.long (-86)], vm := .none },
  { cls := 9, slots := #[.long (-85)], vm := .none },
  { cls := 9, slots := #[.long (-84)], vm := .none },
  { cls := 9, slots := #[.long (-83)], vm := .none },
  { cls := 9, slots := #[.long (-82)], vm := .none },
  { cls := 9, slots := #[.long (-81)], vm := .none },
  { cls := 9, slots := #[.long (-80)], vm := .none },
  { cls := 9, slots := #[.long (-79)], vm := .none },
  { cls := 9, slots := #[.long (-78)], vm := .none },
  { cls := 9, slots := #[.long (-77)], vm := .none },
  { cls := 9, slots := #[.long (-76)], vm := .none },
  { cls := 9, slots := #[.long (-75)], vm := .none },
  { cls := 9, slots := #[.long (-74)], vm := .none },
  { cls := 9, slots := #[.long (-73)], vm := .none },
  { cls := 9, slots := #[.long (-72)], vm := .none },
  { cls := 9, slots := #[.long (-71)], vm := .none },
  { cls := 9, slots := #[.long (-70)], vm := .none },
  { cls := 9, slots := #[.long (-69)], vm := .none },
  { cls := 9, slots := #[.long (-68)], vm := .none },
  { cls := 9, slots := #[.long (-67)], vm := .none },
  { cls := 9, slots := #[.long (-66)], vm := .none },
  { cls := 9, slots := #[.long (-65)], vm := .none },
  { cls := 9, slots := #[.long (-64)], vm := .none },
  { cls := 9, slots := #[.long (-63)], vm := .none },
  { cls := 9, slots := #[.long (-62)], vm := .none },
  { cls := 9, slots := #[.long (-61)], vm := .none },
  { cls := 9, slots := #[.long (-60)], vm := .none },
  { cls := 9, slots := #[.long (-59)], vm := .none },
  { cls := 9, slots := #[.long (-58)], vm := .none },
  { cls := 9, slots := #[.long (-57)], vm := .none },
  { cls := 9, slots := #[.long (-56)], vm := .none },
  { cls := 9, slots := #[.long (-55)], vm := .none },
  { cls := 9, slots := #[.long (-54)], vm := .none },
  { cls := 9, slots := #[.long (-53)], vm := .none },
  { cls := 9, slots := #[.long (-52)], vm := .none },
  { cls := 9, slots := #[.long (-51)], vm := .none },
  { cls := 9, slots := #[.long (-50)], vm := .none },
  { cls := 9, slots := #[.long (-49)], vm := .none },
  { cls := 9, slots := #[.long (-48)], vm := .none },
  { cls := 9, slots := #[.long (-47)], vm := .none },
  { cls := 9, slots := #[.long (-46)], vm := .none },
  { cls := 9, slots := #[.long (-45)], vm := .none },
  { cls := 9, slots := #[.long (-44)], vm := .none },
  { cls := 9, slots := #[.long (-43)], vm := .none },
  { cls := 9, slots := #[.long (-42)], vm := .none },
  { cls := 9, slots := #[.long (-41)], vm := .none },
  { cls := 9, slots := #[.long (-40)], vm := .none },
  { cls := 9, slots := #[.long (-39)], vm := .none },
  { cls := 9, slots := #[.long (-38)], vm := .none },
  { cls := 9, slots := #[.long (-37)], vm := .none },
  { cls := 9, slots := #[.long (-36)], vm := .none },
  { cls := 9, slots := #[.long (-35)], vm := .none },
  { cls := 9, slots := #[.long (-34)], vm := .none },
  { cls := 9, slots := #[.long (-33)], vm := .none },
  { cls := 9, slots := #[.long (-32)], vm := .none },
  { cls := 9, slots := #[.long (-31)], vm := .none },
  { cls := 9, slots := #[.long (-30)], vm := .none },
  { cls := 9, slots := #[.long (-29)], vm := .none },
  { cls := 9, slots := #[.long (-28)], vm := .none },
  { cls := 9, slots := #[.long (-27)], vm := .none },
  { cls := 9, slots := #[.long (-26)], vm := .none },
  { cls := 9, slots := #[.long (-25)], vm := .none },
  { cls := 9, slots := #[.long (-24)], vm := .none },
  { cls := 9, slots := #[.long (-23)], vm := .none },
  { cls := 9, slots := #[.long (-22)], vm := .none },
  { cls := 9, slots := #[.long (-21)], vm := .none },
  { cls := 9, slots := #[.long (-20)], vm := .none },
  { cls := 9, slots := #[.long (-19)], vm := .none },
  { cls := 9, slots := #[.long (-18)], vm := .none },
  { cls := 9, slots := #[.long (-17)], vm := .none },
  { cls := 9, slots := #[.long (-16)], vm := .none },
  { cls := 9, slots := #[.long (-15)], vm := .none },
  { cls := 9, slots := #[.long (-14)], vm := .none },
  { cls := 9, slots := #[.long (-13)], vm := .none },
  { cls := 9, slots := #[.long (-12)], vm := .none },
  { cls := 9, slots := #[.long (-11)], vm := .none },
  { cls := 9, slots := #[.long (-10)], vm := .none },
  { cls := 9, slots := #[.long (-9)], vm := .none },
  { cls := 9, slots := #[.long (-8)], vm := .none },
  { cls := 9, slots := #[.long (-7)], vm := .none },
  { cls := 9, slots := #[.long (-6)], vm := .none },
  { cls := 9, slots := #[.long (-5)], vm := .none },
  { cls := 9, slots := #[.long (-4)], vm := .none },
  { cls := 9, slots := #[.long (-3)], vm := .none },
  { cls := 9, slots := #[.long (-2)], vm := .none },
  { cls := 9, slots := #[.long (-1)], vm := .none },
  { cls := 9, slots := #[.long 0], vm := .none },
  { cls := 9, slots := #[.long 1], vm := .none },
  { cls := 9, slots := #[.long 2], vm := .none },
  { cls := 9, slots := #[.long 3], vm := .none },
  { cls := 9, slots := #[.long 4], vm := .none },
  { cls := 9, slots := #[.long 5], vm := .none },
  { cls := 9, slots := #[.long 6], vm := .none },
  { cls := 9, slots := #[.long 7], vm := .none },
  { cls := 9, slots := #[.long 8], vm := .none },
  { cls := 9, slots := #[.long 9], vm := .none },
  { cls := 9, slots := #[.long 10], vm := .none },
  { cls := 9, slots := #[.long 11], vm := .none },
  { cls := 9, slots := #[.long 12], vm := .none },
  { cls := 9, slots := #[.long 13], vm := .none },
  { cls := 9, slots := #[.long 14], vm := .none },
  { cls := 9, slots := #[.long 15], vm := .none },
  { cls := 9, slots := #[.long 16], vm := .none },
  { cls := 9, slots := #[.long 17], vm := .none },
  { cls := 9, slots := #[.long 18], vm := .none },
  { cls := 9, slots := #[.long 19], vm := .none },
  { cls := 9, slots := #[.long 20], vm := .none },
  { cls := 9, slots := #[.long 21], vm := .none },
  { cls := 9, slots := #[.long 22], vm := .none },
  { cls := 9, slots := #[.long 23], vm := .none },
  { cls := 9, slots := #[.long 24], vm := .none },
  { cls := 9, slots := #[.long 25], vm := .none },
  { cls := 9, slots := #[.long 26], vm := .none },
  { cls := 9, slots := #[.long 27], vm := .none },
  { cls := 9, slots := #[.long 28], vm := .none },
  { cls := 9, slots := #[.long 29], vm := .none },
  { cls := 9, slots := #[.long 30], vm := .none },
  { cls := 9, slots := #[.long 31], vm := .none },
  { cls := 9, slots := #[.long 32], vm := .none },
  { cls := 9, slots := #[.long 33], vm := .none },
  { cls := 9, slots := #[.long 34], vm := .none },
  { cls := 9, slots := #[.long 35], vm := .none },
  { cls := 9, slots := #[.long 36], vm := .none },
  { cls := 9, slots := #[.long 37], vm := .none },
  { cls := 9, slots := #[.long 38], vm := .none },
  { cls := 9, slots := #[.long 39], vm := .none },
  { cls := 9, slots := #[.long 40], vm := .none },
  { cls := 9, slots := #[.long 41], vm := .none },
  { cls := 9, slots := #[.long 42], vm := .none },
  { cls := 9, slots := #[.long 43], vm := .none },
  { cls := 9, slots := #[.long 44], vm := .none },
  { cls := 9, slots := #[.long 45], vm := .none },
  { cls := 9, slots := #[.long 46], vm := .none },
  { cls := 9, slots := #[.long 47], vm := .none },
  { cls := 9, slots := #[.long 48], vm := .none },
  { cls := 9, slots := #[.long 49], vm := .none },
  { cls := 9, slots := #[.long 50], vm := .none },
  { cls := 9, slots := #[.long 51], vm := .none },
  { cls := 9, slots := #[.long 52], vm := .none },
  { cls := 9, slots := #[.long 53], vm := .none },
  { cls := 9, slots := #[.long 54], vm := .none },
  { cls := 9, slots := #[.long 55], vm := .none },
  { cls := 9, slots := #[.long 56], vm := .none },
  { cls := 9, slots := #[.long 57], vm := .none },
  { cls := 9, slots := #[.long 58], vm := .none },
  { cls := 9, slots := #[.long 59], vm := .none },
  { cls := 9, slots := #[.long 60], vm := .none },
  { cls := 9, slots := #[.long 61], vm := .none },
  { cls := 9, slots := #[.long 62], vm := .none },
  { cls := 9, slots := #[.long 63], vm := .none },
  { cls := 9, slots := #[.long 64], vm := .none },
  { cls := 9, slots := #[.long 65], vm := .none },
  { cls := 9, slots := #[.long 66], vm := .none },
  { cls := 9, slots := #[.long 67], vm := .none },
  { cls := 9, slots := #[.long 68], vm := .none },
  { cls := 9, slots := #[.long 69], vm := .none },
  { cls := 9, slots := #[.long 70], vm := .none },
  { cls := 9, slots := #[.long 71], vm := .none },
  { cls := 9, slots := #[.long 72], vm := .none },
  { cls := 9, slots := #[.long 73], vm := .none },
  { cls := 9, slots := #[.long 74], vm := .none },
  { cls := 9, slots := #[.long 75], vm := .none },
  { cls := 9, slots := #[.long 76], vm := .none },
  { cls := 9, slots := #[.long 77], vm := .none },
  { cls := 9, slots := #[.long 78], vm := .none },
  { cls := 9, slots := #[.long 79], vm := .none },
  { cls := 9, slots := #[.long 80], vm := .none },
  { cls := 9, slots := #[.long 81], vm := .none },
  { cls := 9, slots := #[.long 82], vm := .none },
  { cls := 9, slots := #[.long 83], vm := .none },
  { cls := 9, slots := #[.long 84], vm := .none },
  { cls := 9, slots := #[.long 85], vm := .none },
  { cls := 9, slots := #[.long 86], vm := .none },
  { cls := 9, slots := #[.long 87], vm := .none },
  { cls := 9, slots := #[.long 88], vm := .none },
  { cls := 9, slots := #[.long 89], vm := .none },
  { cls := 9, slots := #[.long 90], vm := .none },
  { cls := 9, slots := #[.long 91], vm := .none },
  { cls := 9, slots := #[.long 92], vm := .none },
  { cls := 9, slots := #[.long 93], vm := .none },
  { cls := 9, slots := #[.long 94], vm := .none },
  { cls := 9, slots := #[.long 95], vm := .none },
  { cls := 9, slots := #[.long 96], vm := .none },
  { cls := 9, slots := #[.long 97], vm := .none },
  { cls := 9, slots := #[.long 98], vm := .none },
  { cls := 9, slots := #[.long 99], vm := .none },
  { cls := 9, slots := #[.long 100], vm := .none },
  { cls := 9, slots := #[.long 101], vm := .none },
  { cls := 9, slots := #[.long 102], vm := .none },
  { cls := 9, slots := #[.long 103], vm := .none },
  { cls := 9, slots := #[.long 104], vm := .none },
  { cls := 9, slots := #[.long 105], vm := .none },
  { cls := 9, slots := #[.long 106], vm := .none },
  { cls := 9, slots := #[.long 107], vm := .none },
  { cls := 9, slots := #[.long 108], vm := .none },
  { cls := 9, slots := #[.long 109], vm := .none },
  { cls := 9, slots := #[.long 110], vm := .none },
  { cls := 9, slots := #[.long 111], vm := .none },
  { cls := 9, slots := #[.long 112], vm := .none },
  { cls := 9, slots := #[.long 113], vm := .none },
  { cls := 9, slots := #[.long 114], vm := .none },
  { cls := 9, slots := #[.long 115], vm := .none },
  { cls := 9, slots := #[.long 116], vm := .none },
  { cls := 9, slots := #[.long 117], vm := .none },
  { cls := 9, slots := #[.long 118], vm := .none },
  { cls := 9, slots := #[.long 119], vm := .none },
  { cls := 9, slots := #[.long 120], vm := .none },
  { cls := 9, slots := #[.long 121], vm := .none },
  { cls := 9, slots := #[.long 122], vm := .none },
  { cls := 9, slots := #[.long 123], vm := .none },
  { cls := 9, slots := #[.long 124], vm := .none },
  { cls := 9, slots := #[.long 125], vm := .none },
  { cls := 9, slots := #[.long 126], vm := .none },
  { cls := 9, slots := #[.long 127], vm := .none }]
def classes : Array Class := #[k0, k1, k2, k3, k4, k5, k6, k7, k8, k9, k10, k11, k12, k13, k14, k15, k16]
def interned : List (Array UInt16 × Addr) := []
def slotsUsed : Nat := 515
def theMethod : MethodId := ⟨1, 1⟩
def args0 : Array Value := #[.long 5, .long 6, .long 7, .long 8, .long 9, .int 1]
def aboutOver (below : List Frame) : State where
  vm := { classes := classes, interned := interned.toArray }
  heap := heap
  slotsUsed := slotsUsed
  threads := #[{ frames := .invoking theMethod args0 :: below }]
def below0 : List Frame := [.native { method := ⟨0, 0⟩, args := #[] }]
def about1 : State := aboutOver below0
def p0 : Program := .bare "" "" ""
def e0 : Env := launch0.env 0 0 0
theorem w_frames : about1.frames = Frame.invoking theMethod args0 :: below0 := rfl
set_option maxRecDepth 65536 in
theorem w_args : argsFit about1.vm theMethod args0 = true := by decide +kernel
set_option maxRecDepth 65536 in
theorem w_heap : heapFits about1 = true := by decide +kernel
set_option maxRecDepth 65536 in
theorem w_runnable : about1.curStatus? = some .runnable := by decide +kernel
set_option maxRecDepth 65536 in
theorem w_alone : about1.alone = true := by decide +kernel
set_option maxRecDepth 65536 in
theorem w_named : about1.methodNamed? x = some theMethod := by decide +kernel
set_option maxRecDepth 65536 in
theorem w_hears : about1.hears theMethod below0 = true := by decide +kernel
set_option maxRecDepth 65536 in
theorem w_ripe : about1.ripe theMethod args0 below0 = true := by decide +kernel
theorem w_running : about1.status = .running := rfl
set_option maxRecDepth 65536 in
theorem w_room : about1.hasRoom e0.platform room_1 = true :=
  launch0.hasRoom_least _ room_1 (by decide +kernel) (by decide +kernel) (by decide +kernel) (by decide +kernel) (by decide +kernel) (by decide +kernel)
theorem allAtoms_all (ts : List Jvm.Cond) (a : Array Jvm.Value) (st : Jvm.State) : (allAtoms ts).before a st = ts.all (fun c => c.before a st) := by
  induction ts with
  | nil => rfl
  | cons c t ih =>
    show (Jvm.Cond.and c (allAtoms t)).before a st = _
    rw [Jvm.Cond.before_and, ih, List.all_cons]
def words1 : List Jvm.Cond := Jvm.Cond.code x code maxLocals ret :: tables_1
/-- a 'code' word, met by the world's own term for the bytes: nothing is compared byte by byte -/
theorem code_word {y : MethodName} {bytes : ByteArray} {mx : Nat} {rt : Option FieldType} {a : Array Value} {s : State} {m : MethodId} {meth : Method} {c : Code} (h1 : s.methodNamed? y = some m) (h2 : s.vm.method? m = some meth) (h3 : meth.code = some c) (h4 : c.code = bytes)
    (h5 : (c.maxLocals == mx && c.exceptionTable.isEmpty && decide (c.maxStack ≤ mostOperands) && decide (meth.sig.returnType = rt) && !meth.locks && decide (parseMethodDescriptor y.desc = some meth.sig)) = true) : (Jvm.Cond.code y bytes mx rt).before a s = true := by
  simp only [Bool.and_eq_true, beq_iff_eq, Bool.not_eq_true', decide_eq_true_eq] at h5
  obtain ⟨⟨⟨⟨⟨g1, g2⟩, g3⟩, g4⟩, g5⟩, g6⟩ := h5
  simp [Cond.before, Cond.holds, Cond.value, h1, h2, h3, h4, g1, g2, g3, g4, g5, g6]
def isCode : Jvm.Cond → Bool
  | .code _ _ _ _ => true
  | _ => false
theorem all_split {L : List Jvm.Cond} {P : Jvm.Cond → Bool} (h1 : L.all (fun c => isCode c || P c) = true) (h2 : ∀ c ∈ L.filter isCode, P c = true) : L.all P = true := by
  refine List.all_eq_true.mpr fun c hc => ?_
  have h := List.all_eq_true.mp h1 c hc
  rcases Bool.eq_false_or_eq_true (isCode c) with hi | hi
  · exact h2 c (List.mem_filter.mpr ⟨hc, hi⟩)
  · simpa [hi] using h
set_option maxRecDepth 65536 in
theorem w_c0 : (Jvm.Cond.code x code maxLocals ret).before args0 about1 = true := code_word (m := ⟨1, 1⟩) (meth := k1m1) (c := k1c1) (by decide +kernel) rfl rfl rfl (by decide +kernel)
set_option maxRecDepth 65536 in
theorem w_c1 : (Jvm.Cond.code ({ cls := "com/example/tabula_rasa/tabularasa/sequence/Counters$State", name := "<init>", desc := "(JJJJ)V" } : Jvm.MethodName) prog_44_method_1_code (9 : Nat) (Option.none : Option Jvm.ClassFile.FieldType)).before args0 about1 = true := code_word (m := ⟨3, 0⟩) (meth := k3m0) (c := k3c0) (by decide +kernel) rfl rfl rfl (by decide +kernel)
set_option maxRecDepth 65536 in
theorem w_c2 : (Jvm.Cond.code ({ cls := "java/lang/Record", name := "<init>", desc := "()V" } : Jvm.MethodName) jdk_30_method_1_code (1 : Nat) (Option.none : Option Jvm.ClassFile.FieldType)).before args0 about1 = true := code_word (m := ⟨2, 0⟩) (meth := k2m0) (c := k2c0) (by decide +kernel) rfl rfl rfl (by decide +kernel)
set_option maxRecDepth 65536 in
theorem w_c3 : (Jvm.Cond.code ({ cls := "java/lang/Object", name := "<init>", desc := "()V" } : Jvm.MethodName) object_method_1_code (1 : Nat) (Option.none : Option Jvm.ClassFile.FieldType)).before args0 about1 = true := code_word (m := ⟨0, 0⟩) (meth := k0m0) (c := k0c0) (by decide +kernel) rfl rfl rfl (by decide +kernel)
set_option maxRecDepth 65536 in
theorem w_c4 : (Jvm.Cond.code ({ cls := "java/lang/Long", name := "valueOf", desc := "(J)Ljava/lang/Long;" } : Jvm.MethodName) jdk_35_method_24_code (3 : Nat) (Option.some (Jvm.ClassFile.FieldType.object "java/lang/Long"))).before args0 about1 = true := code_word (m := ⟨9, 0⟩) (meth := k9m0) (c := k9c0) (by decide +kernel) rfl rfl rfl (by decide +kernel)
set_option maxRecDepth 65536 in
theorem w_c5 : (Jvm.Cond.code ({ cls := "com/example/tabula_rasa/tabularasa/sequence/Counters$State", name := "pastRows", desc := "(Ljava/lang/Long;)J" } : Jvm.MethodName) prog_44_method_2_code (2 : Nat) (Option.some Jvm.ClassFile.FieldType.long)).before args0 about1 = true := code_word (m := ⟨3, 1⟩) (meth := k3m1) (c := k3c1) (by decide +kernel) rfl rfl rfl (by decide +kernel)
set_option maxRecDepth 65536 in
theorem w_c6 : (Jvm.Cond.code ({ cls := "java/lang/Long", name := "longValue", desc := "()J" } : Jvm.MethodName) jdk_35_method_31_code (1 : Nat) (Option.some Jvm.ClassFile.FieldType.long)).before args0 about1 = true := code_word (m := ⟨9, 2⟩) (meth := k9m2) (c := k9c2) (by decide +kernel) rfl rfl rfl (by decide +kernel)
set_option maxRecDepth 65536 in
theorem w_c7 : (Jvm.Cond.code ({ cls := "java/lang/Long", name := "<init>", desc := "(J)V" } : Jvm.MethodName) jdk_35_method_26_code (3 : Nat) (Option.none : Option Jvm.ClassFile.FieldType)).before args0 about1 = true := code_word (m := ⟨9, 1⟩) (meth := k9m1) (c := k9c1) (by decide +kernel) rfl rfl rfl (by decide +kernel)
set_option maxRecDepth 65536 in
theorem w_c8 : (Jvm.Cond.code ({ cls := "java/lang/Number", name := "<init>", desc := "()V" } : Jvm.MethodName) jdk_18_method_1_code (1 : Nat) (Option.none : Option Jvm.ClassFile.FieldType)).before args0 about1 = true := code_word (m := ⟨5, 0⟩) (meth := k5m0) (c := k5c0) (by decide +kernel) rfl rfl rfl (by decide +kernel)
def codes1 : List Jvm.Cond := [Jvm.Cond.code x code maxLocals ret, Jvm.Cond.code ({ cls := "com/example/tabula_rasa/tabularasa/sequence/Counters$State", name := "<init>", desc := "(JJJJ)V" } : Jvm.MethodName) prog_44_method_1_code (9 : Nat) (Option.none : Option Jvm.ClassFile.FieldType), Jvm.Cond.code ({ cls := "java/lang/Record", name := "<init>", desc := "()V" } : Jvm.MethodName) jdk_30_method_1_code (1 : Nat) (Option.none : Option Jvm.ClassFile.FieldType), Jvm.Cond.code ({ cls := "java/lang/Object", name := "<init>", desc := "()V" } : Jvm.MethodName) object_method_1_code (1 : Nat) (Option.none : Option Jvm.ClassFile.FieldType), Jvm.Cond.code ({ cls := "java/lang/Long", name := "valueOf", desc := "(J)Ljava/lang/Long;" } : Jvm.MethodName) jdk_35_method_24_code (3 : Nat) (Option.some (Jvm.ClassFile.FieldType.object "java/lang/Long")), Jvm.Cond.code ({ cls := "com/example/tabula_rasa/tabularasa/sequence/Counters$State", name := "pastRows", desc := "(Ljava/lang/Long;)J" } : Jvm.MethodName) prog_44_method_2_code (2 : Nat) (Option.some Jvm.ClassFile.FieldType.long), Jvm.Cond.code ({ cls := "java/lang/Long", name := "longValue", desc := "()J" } : Jvm.MethodName) jdk_35_method_31_code (1 : Nat) (Option.some Jvm.ClassFile.FieldType.long), Jvm.Cond.code ({ cls := "java/lang/Long", name := "<init>", desc := "(J)V" } : Jvm.MethodName) jdk_35_method_26_code (3 : Nat) (Option.none : Option Jvm.ClassFile.FieldType), Jvm.Cond.code ({ cls := "java/lang/Number", name := "<init>", desc := "()V" } : Jvm.MethodName) jdk_18_method_1_code (1 : Nat) (Option.none : Option Jvm.ClassFile.FieldType)]
set_option maxRecDepth 65536 in
theorem codes_eq : words1.filter isCode = codes1 := rfl
theorem w_codes : ∀ c ∈ words1.filter isCode, c.before args0 about1 = true := by
  rw [codes_eq]
  intro c hc
  simp only [codes1, List.mem_cons, List.not_mem_nil, or_false] at hc
  rcases hc with rfl | rfl | rfl | rfl | rfl | rfl | rfl | rfl | rfl
  · exact w_c0
  · exact w_c1
  · exact w_c2
  · exact w_c3
  · exact w_c4
  · exact w_c5
  · exact w_c6
  · exact w_c7
  · exact w_c8
set_option maxRecDepth 65536 in
theorem w_t1 : (words1.take 24).all (fun c => isCode c || c.before args0 about1) = true := by decide +kernel
set_option maxRecDepth 65536 in
theorem w_t2 : ((words1.drop 24).take 24).all (fun c => isCode c || c.before args0 about1) = true := by decide +kernel
set_option maxRecDepth 65536 in
theorem w_t3 : ((words1.drop 24).drop 24).all (fun c => isCode c || c.before args0 about1) = true := by decide +kernel
theorem w_tables : (allAtoms (Jvm.Cond.code x code maxLocals ret :: tables_1)).before args0 about1 = true := by
  rw [allAtoms_all]
  show words1.all (fun c => c.before args0 about1) = true
  refine all_split ?_ w_codes
  rw [← List.take_append_drop 24 words1, List.all_append, w_t1, ← List.take_append_drop 24 (words1.drop 24), List.all_append, w_t2, w_t3]
  rfl
set_option maxRecDepth 65536 in
theorem w_rest : rest_1_c.before args0 about1 = true := by decide +kernel
set_option maxRecDepth 65536 in
theorem w_case : (Jvm.Cond.and given_1 narrow_1).before args0 about1 = true := by decide +kernel
theorem w_applies : (headSpec (Jvm.Cond.code x code maxLocals ret :: tables_1) room_1).applies x e0.platform about1 = true :=
  (Spec.applies_iff w_frames).mpr ⟨w_running, w_runnable, w_alone, w_named, w_hears, w_ripe, w_room, w_tables⟩
theorem atStart : AtStart classFile x code maxLocals ret World_1 tables_1 room_1 Calls_1 rest_1 Pre_1 launch0 p0 e0 about1 theMethod args0 below0 :=
  ⟨lists_1, trivial, launch0.admits_env _ _ _, launch0.least_env, fairChoices_fair.cas, fairChoices_fair.clock, w_frames, w_args, w_heap, w_applies, trivial, w_rest, w_case⟩
end start1
theorem witness_1 : WitnessClaimed_1 := ⟨start1.p0, start1.e0, start1.about1, start1.theMethod, start1.args0, start1.below0, start1.atStart⟩
end Jvm.Pilot.@@N@@
