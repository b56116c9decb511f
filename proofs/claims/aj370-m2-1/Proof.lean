import JvmDerived
import JvmDerived.Pilot.@@N@@Statement
import JvmDerived.Pilot.@@N@@Code
set_option linter.unusedVariables false
set_option linter.unusedSimpArgs false
namespace Jvm.RoadKit
open Sem ClassFile Op Lib Jvm.Stand Jvm.Free Jvm.LawKit
section New
variable {p : Program} {l : Launch} {e : Env} {R : Room} {s : State} {m : MethodId} {args : Array Value} {below : List Frame} {meth : Method} {c : Code} {T : State} {locs : List Loc} {cells slots : Nat}
theorem retI (X : Stand p l e R s m args below meth c T locs cells slots) (hx : p.tables.exec = Jvm.exec) {pc : Nat} {Ls : Array Slot} {z : Int32} {rest : List Value} (hret : meth.sig.returnType = some .int) (hd : decode c.code pc = .ok (.ireturn, 1)) {fs : List Frame}
    (hl : ∀ (f : JFrame) (acts : List Action), f.method = m → f.locked = none → f.entered = [] → (doReturn e (T.setTop f) acts (some (.int z))).1 = T.setFrames fs) : Steps p.tables e below (T.setTop (mkF m pc Ls (.int z :: rest))) (T.setFrames fs) := by
  have hm' : T.vm.method? m = some meth := X.method'
  have hn : narrow .int (.int z) = .int z := rfl
  show Steps p.tables e below (T.setTop { method := m, pc := pc, locals := Ls, stack := _ :: rest, locked := none }) _
  jvm_step X.here [X.here.top, hx, hd, hm', hret, hn]
  first | (intro acts; rw [hl _ acts rfl rfl rfl]) | rw [hl _ _ rfl rfl rfl]
  exact Steps.refl _
end New
end Jvm.RoadKit
namespace Jvm.Pilot.@@N@@
open Jvm Jvm.ClassFile Sem Op Lib Jvm.Free Jvm.Stand Jvm.LawKit Jvm.RoadKit Bundle Jvm.Pilot.@@N@@.Jvm.D

/-- what is left to show at a point of a walk -/
def own_Go (tb : Tables) (e : Env) (below : List Frame) (F : State → Outcome → Prop) (A : State) : Prop := ∃ t o, Steps tb e below A t ∧ F t o
theorem own_st {tb : Tables} {e : Env} {below : List Frame} {F : State → Outcome → Prop} {A B : State} (st : ∀ t, Steps tb e below A t → Steps tb e below B t) (h : own_Go tb e below F A) : own_Go tb e below F B := by
  obtain ⟨t, o, a, b⟩ := h
  exact ⟨t, o, st t a, b⟩
theorem own_end {tb : Tables} {e : Env} {below : List Frame} {F G : State → Outcome → Prop} {A t : State} {o : Outcome} (hF : F = G) (st : Steps tb e below A t) (h : G t o) : own_Go tb e below F A := by
  subst hF
  exact ⟨t, o, st, h⟩
/-- a body's contract: called with as' over the heap h0 it returns, and leaves what Q says -/
abbrev own_Met (l : Launch) (Z : State) (y : MethodName) (bytes : ByteArray) (ml : Nat) (rt : Option FieldType) (ws : List Jvm.Cond) (rm : Room) (as' : Array Value) (h0 : Heap) (Q : Option Value → Heap → List Loc → Prop) : Prop :=
  MetFree l y (head1 (Jvm.Cond.code y bytes ml rt :: ws) rm) (fun a U => a = as' ∧ Z.Warmed39 U.vm ∧ U.heap = h0) (fun _ _ _ _ _ => True) (fun _ U o U' => ∃ v L, o = .returned v ∧ Q v U'.heap L ∧ FrameEnd U o U' L rm.cells rm.slots)
/-- what a callee leaves that returns r and writes nothing -/
def own_Qp (r : Value) (h0 : Heap) (n0 : Nat) (v : Option Value) (h : Heap) (L : List Loc) : Prop := v = some r ∧ Fr n0 L ∧ h = h0
theorem own_ext_refl {h : Heap} : Ext h h := ⟨Nat.le_refl _, fun _ _ q => q⟩
theorem own_ext_ext {h0 h h' : Heap} (K : Ext h0 h) (E : Ext h h') : Ext h0 h' := ⟨Nat.le_trans K.1 E.1, fun x c q => E.2 x c (K.2 x c q)⟩
theorem own_ext_keep {h0 h h' : Heap} {ws : List Addr} (K : Ext h0 h) (E : Keep h h' ws) (q : ∀ x ∈ ws, h0.size ≤ x) : Ext h0 h' :=
  ⟨Nat.le_trans K.1 E.1, fun x c r => E.2.1 x c (K.2 x c r) fun z => absurd (Array.getElem?_eq_some_iff.mp r).1 (Nat.not_lt.mpr (q x z))⟩
theorem own_ext_wr {h0 h h' : Heap} {a : Addr} {sl : Nat} {v : Value} (K : Ext h0 h) (W : Wr h h' a sl v) (q : h0.size ≤ a) : Ext h0 h' := own_ext_keep K (Keep.of_wr W) (allS q all0)
theorem own_fld {args : Array Value} {s : State} {t : Term} {x : Addr} {C n d : String} {k : Int32} (ev : t.eval args s none [] s = some (.ref x)) (h : (Jvm.Cond.eq (.field t C n d) (.int k)).value args s none s [] = some true) : Fld s s.heap x C n d (.int k) := by
  obtain ⟨p, q, h1, h2, -, h4⟩ := cmp_v (Or.inl h)
  cases (show some (Value.int k) = some q from h2)
  obtain ⟨z, rfl⟩ := h4
  have e : z = k := by simpa [Jvm.Cond.value, h1, h2] using h
  subst e
  rw [fld_at ev] at h1
  exact Fld.start h1

def own_Q0 (h0 : Heap) (n0 : Nat) (v : Option Value) (h : Heap) (L : List Loc) : Prop := v = some (.int (1 : Int32)) ∧ Fr n0 L
def own_K (Z : State) (h : Heap) (f cls : String) (a : Addr) (lo hi : Int32) : Prop :=
  Sta Z h "com/example/log_topic_store/logtopicstore/sql/Function" f "Lcom/example/log_topic_store/logtopicstore/sql/Function;" (.ref a) ∧ Exa Z h a cls ∧ Fld Z h a "com/example/log_topic_store/logtopicstore/sql/Function" "least" "I" (.int lo) ∧ Fld Z h a "com/example/log_topic_store/logtopicstore/sql/Function" "most" "I" (.int hi)
theorem own_out1 {x : Int32} (h : ¬ (x = (1 : Int32))) : x < 1 ∨ 1 < x := by
  rw [Int32.lt_iff_toInt_lt, Int32.lt_iff_toInt_lt]
  have e : (1 : Int32).toInt = 1 := rfl
  have q : x.toInt ≠ 1 := fun q => h (Int32.toInt_inj.mp (q.trans e.symm))
  omega
theorem own_out2 {x : Int32} (h : ¬ (x = (2 : Int32))) : x < 2 ∨ 2 < x := by
  rw [Int32.lt_iff_toInt_lt, Int32.lt_iff_toInt_lt]
  have e : (2 : Int32).toInt = 2 := rfl
  have q : x.toInt ≠ 2 := fun q => h (Int32.toInt_inj.mp (q.trans e.symm))
  omega
theorem own_out12 {x : Int32} (h : ¬ (x = (1 : Int32))) (h' : ¬ (x = (2 : Int32))) : x < 1 ∨ 2 < x := by
  rw [Int32.lt_iff_toInt_lt, Int32.lt_iff_toInt_lt]
  have e : (1 : Int32).toInt = 1 := rfl
  have e' : (2 : Int32).toInt = 2 := rfl
  have q : x.toInt ≠ 1 := fun q => h (Int32.toInt_inj.mp (q.trans e.symm))
  have q' : x.toInt ≠ 2 := fun q => h' (Int32.toInt_inj.mp (q.trans e'.symm))
  omega
theorem d_own_takes_0 : decode prog_56_method_6_code 0 = .ok (.iload_n 1, 1) := by decide +kernel
theorem d_own_takes_1 : decode prog_56_method_6_code 1 = .ok (.aload_n 0, 1) := by decide +kernel
theorem d_own_takes_2 : decode prog_56_method_6_code 2 = .ok (.getfield 47, 3) := by decide +kernel
theorem d_own_takes_5 : decode prog_56_method_6_code 5 = .ok (.if_icmp .lt 15, 3) := by decide +kernel
theorem d_own_takes_8 : decode prog_56_method_6_code 8 = .ok (.iload_n 1, 1) := by decide +kernel
theorem d_own_takes_9 : decode prog_56_method_6_code 9 = .ok (.aload_n 0, 1) := by decide +kernel
theorem d_own_takes_10 : decode prog_56_method_6_code 10 = .ok (.getfield 51, 3) := by decide +kernel
theorem d_own_takes_13 : decode prog_56_method_6_code 13 = .ok (.if_icmp .gt 7, 3) := by decide +kernel
theorem d_own_takes_16 : decode prog_56_method_6_code 16 = .ok (.iconst 1, 1) := by decide +kernel
theorem d_own_takes_17 : decode prog_56_method_6_code 17 = .ok (.goto 4, 3) := by decide +kernel
theorem d_own_takes_20 : decode prog_56_method_6_code 20 = .ok (.iconst 0, 1) := by decide +kernel
theorem d_own_takes_21 : decode prog_56_method_6_code 21 = .ok (.ireturn, 1) := by decide +kernel
theorem pn_com_example_log_topic_store_logtopicstore_sql_Function : plainName "com/example/log_topic_store/logtopicstore/sql/Function" = true := by first | (simp [plainName, overriddenIn]; done) | decide +kernel
set_option maxRecDepth 65536 in
set_option maxHeartbeats 40000000 in
theorem own_takes (l : Launch) (Z : State) (a0 : Array Value) (hw : ∀ d ∈ tables_1, d.before a0 Z = true) (ws : List Jvm.Cond) (a1 : Addr) (p2 lo hi r : Int32) (h0 : Heap) (n0 : Nat) (FL : Fld Z h0 a1 "com/example/log_topic_store/logtopicstore/sql/Function" "least" "I" (.int lo)) (FM : Fld Z h0 a1 "com/example/log_topic_store/logtopicstore/sql/Function" "most" "I" (.int hi)) (hr : r = if p2 < lo ∨ hi < p2 then 0 else 1) :
    own_Met l Z (⟨"com/example/log_topic_store/logtopicstore/sql/Function", "takes", "(I)Z"⟩ : MethodName) prog_56_method_6_code 2 (some .boolean) ws ({ frames := 0, cells := 0, slots := 0, locals := 0 } : Room) #[(.ref a1), (.int p2)] h0 (own_Qp (.int r) h0 n0) := by
  refine MetFree.of_bodySF (plainFor_of_name pn_com_example_log_topic_store_logtopicstore_sql_Function) hisR ?_
  intro p e s m args below meth c s₁ Bd hml0 hP hK
  obtain ⟨rfl, hZ, hh⟩ := hP
  have hx := Bd.exec
  have hby := Bd.bytes
  have hml : c.maxLocals = 2 := hml0
  have hown : s.vm.findClass "com/example/log_topic_store/logtopicstore/sql/Function" = some m.cls := findClass_of_methodNamed Bd.named
  have hnm := (name_of_methodNamed Bd.named Bd.method).1
  have X0 : Stand p l e ({ frames := 0, cells := 0, slots := 0, locals := 0 } : Room) s m #[(.ref a1), (.int p2)] below meth c s₁ [] 0 0 := Stand.of_body Bd
  have e0 : s₁.heap = h0 := by rw [← hh, Bd.state]; rfl
  have N0 := Fr.nil n0
  have hst : entryFrame m #[(.ref a1), (.int p2)] 2 = mkF m 0 #[.val (.ref a1), .val (.int p2)] [] := by first | (simp [entryFrame, mkF, argsToLocals, Value.category, maxLocals]; done) | rfl
  obtain ⟨F, hF⟩ : ∃ F : State → Outcome → Prop, F = fun s₂ o => (s₂.status = .running ∧ Ended s₂ below o ∧ ∃ v L, o = .returned v ∧ (own_Qp (.int r) h0 n0) v s₂.heap L ∧ FrameEnd s o s₂ L (Room.cells ({ frames := 0, cells := 0, slots := 0, locals := 0 } : Room)) (Room.slots ({ frames := 0, cells := 0, slots := 0, locals := 0 } : Room))) := ⟨_, rfl⟩
  suffices G : own_Go p.tables e below F (s₁.setTop (mkF m 0 #[.val (.ref a1), .val (.int p2)] [])) by
    obtain ⟨t, o, a, b⟩ := G
    rw [hF] at b
    exact ⟨t, o, castTop hst a, b⟩
  show own_Go p.tables e below F (s₁.setTop (mkF m 0 #[.val (.ref a1), .val (.int p2)] []))
  refine own_st (fun _ k => XS.iloadN X0.here hx rfl (hb hby d_own_takes_0) rfl k) ?_
  show own_Go p.tables e below F (s₁.setTop (mkF m 1 #[.val (.ref a1), .val (.int p2)] [(.int p2)]))
  refine own_st (fun _ k => XS.aloadN X0.here hx rfl (hb hby d_own_takes_1) rfl rfl k) ?_
  show own_Go p.tables e below F (s₁.setTop (mkF m 2 #[.val (.ref a1), .val (.int p2)] [(.ref a1), (.int p2)]))
  obtain ⟨T1, X1, e1, st1⟩ := getF X0 hx hZ hown (host := "") (Or.inl (hw _ (List.mem_of_getElem? (i := 8) rfl))) Via.refl e0 FL (g := (mkF m 2 #[.val (.ref a1), .val (.int p2)] [(.ref a1), (.int p2)])) rfl rfl (hb hby d_own_takes_2)
  refine own_st st1 ?_
  show own_Go p.tables e below F (T1.setTop (mkF m 5 #[.val (.ref a1), .val (.int p2)] [(.int lo), (.int p2)]))
  by_cases hc5 : p2 < lo
  ·
    refine own_st (fun _ k => XS.icmpYes X1.here hx rfl (pc0 := 5) (pc' := 20) rfl (hb hby d_own_takes_5) rfl (tlt hc5).1 (by decide) (by decide) k) ?_
    show own_Go p.tables e below F (T1.setTop (mkF m 20 #[.val (.ref a1), .val (.int p2)] []))
    refine own_st (fun _ k => XS.iconst X1.here hx rfl (hb hby d_own_takes_20) k) ?_
    show own_Go p.tables e below F (T1.setTop (mkF m 21 #[.val (.ref a1), .val (.int p2)] [(.int (0 : Int32))]))
    obtain ⟨fs, hrL, hrun, hended, hW, hsame⟩ := X1.leave (v := some (.int (0 : Int32))) (fun h => by rw [Bd.returns] at h; cases h)
    refine own_end hF (o := .returned (some (.int (0 : Int32)))) (retN X1 hx (t := .boolean) Bd.returns (by simp) (hb hby d_own_takes_21) hrL) ?_
    refine ⟨hrun, hended, _, _, rfl, ?_, ⟨_, rfl⟩, hW, hsame.mono (by decide) (by decide)⟩
    exact ⟨by simp [hr, hc5], N0, e1⟩
  ·
    refine own_st (fun _ k => XS.icmpNo X1.here hx rfl (hb hby d_own_takes_5) rfl (flt hc5).1 k) ?_
    show own_Go p.tables e below F (T1.setTop (mkF m 8 #[.val (.ref a1), .val (.int p2)] []))
    refine own_st (fun _ k => XS.iloadN X1.here hx rfl (hb hby d_own_takes_8) rfl k) ?_
    show own_Go p.tables e below F (T1.setTop (mkF m 9 #[.val (.ref a1), .val (.int p2)] [(.int p2)]))
    refine own_st (fun _ k => XS.aloadN X1.here hx rfl (hb hby d_own_takes_9) rfl rfl k) ?_
    show own_Go p.tables e below F (T1.setTop (mkF m 10 #[.val (.ref a1), .val (.int p2)] [(.ref a1), (.int p2)]))
    obtain ⟨T2, X2, e2, st2⟩ := getF X1 hx hZ hown (host := "") (Or.inl (hw _ (List.mem_of_getElem? (i := 10) rfl))) Via.refl e1 FM (g := (mkF m 10 #[.val (.ref a1), .val (.int p2)] [(.ref a1), (.int p2)])) rfl rfl (hb hby d_own_takes_10)
    refine own_st st2 ?_
    show own_Go p.tables e below F (T2.setTop (mkF m 13 #[.val (.ref a1), .val (.int p2)] [(.int hi), (.int p2)]))
    by_cases hc13 : hi < p2
    ·
      refine own_st (fun _ k => XS.icmpYes X2.here hx rfl (pc0 := 13) (pc' := 20) rfl (hb hby d_own_takes_13) rfl (tlt hc13).2.2.1 (by decide) (by decide) k) ?_
      show own_Go p.tables e below F (T2.setTop (mkF m 20 #[.val (.ref a1), .val (.int p2)] []))
      refine own_st (fun _ k => XS.iconst X2.here hx rfl (hb hby d_own_takes_20) k) ?_
      show own_Go p.tables e below F (T2.setTop (mkF m 21 #[.val (.ref a1), .val (.int p2)] [(.int (0 : Int32))]))
      obtain ⟨fs, hrL, hrun, hended, hW, hsame⟩ := X2.leave (v := some (.int (0 : Int32))) (fun h => by rw [Bd.returns] at h; cases h)
      refine own_end hF (o := .returned (some (.int (0 : Int32)))) (retN X2 hx (t := .boolean) Bd.returns (by simp) (hb hby d_own_takes_21) hrL) ?_
      refine ⟨hrun, hended, _, _, rfl, ?_, ⟨_, rfl⟩, hW, hsame.mono (by decide) (by decide)⟩
      exact ⟨by simp [hr, hc5, hc13], N0, e2⟩
    ·
      refine own_st (fun _ k => XS.icmpNo X2.here hx rfl (hb hby d_own_takes_13) rfl (flt hc13).2.2.1 k) ?_
      show own_Go p.tables e below F (T2.setTop (mkF m 16 #[.val (.ref a1), .val (.int p2)] []))
      refine own_st (fun _ k => XS.iconst X2.here hx rfl (hb hby d_own_takes_16) k) ?_
      show own_Go p.tables e below F (T2.setTop (mkF m 17 #[.val (.ref a1), .val (.int p2)] [(.int (1 : Int32))]))
      refine own_st (fun _ k => XS.goto X2.here hx rfl (pc0 := 17) (pc' := 21) rfl (hb hby d_own_takes_17) (by decide) (by decide) k) ?_
      show own_Go p.tables e below F (T2.setTop (mkF m 21 #[.val (.ref a1), .val (.int p2)] [(.int (1 : Int32))]))
      obtain ⟨fs, hrL, hrun, hended, hW, hsame⟩ := X2.leave (v := some (.int (1 : Int32))) (fun h => by rw [Bd.returns] at h; cases h)
      refine own_end hF (o := .returned (some (.int (1 : Int32)))) (retN X2 hx (t := .boolean) Bd.returns (by simp) (hb hby d_own_takes_21) hrL) ?_
      refine ⟨hrun, hended, _, _, rfl, ?_, ⟨_, rfl⟩, hW, hsame.mono (by decide) (by decide)⟩
      exact ⟨by simp [hr, hc5, hc13], N0, e2⟩
theorem pn_com_example_log_topic_store_logtopicstore_sql_FunctionTakesPinLaw : plainName "com/example/log_topic_store/logtopicstore/sql/FunctionTakesPinLaw" = true := by first | (simp [plainName, overriddenIn]; done) | decide +kernel
theorem pd_0 : parseMethodDescriptor "(I)Z" = some ⟨[.int], some .boolean⟩ := by decide +kernel
set_option maxRecDepth 65536 in
set_option maxHeartbeats 40000000 in
theorem own_law (l : Launch) (Z : State) (a0 : Array Value) (hw : ∀ d ∈ tables_1, d.before a0 Z = true) (ws : List Jvm.Cond) (p1 p2 : Int32) (aABS aSQRT aPOWER aROUND aFLOOR aLN aLOG aLOG10 : Addr) (h0 : Heap) (n0 : Nat) (kABS : own_K Z h0 "ABS" "com/example/log_topic_store/logtopicstore/sql/Function$1" aABS 1 1) (kSQRT : own_K Z h0 "SQRT" "com/example/log_topic_store/logtopicstore/sql/Function$2" aSQRT 1 1) (kPOWER : own_K Z h0 "POWER" "com/example/log_topic_store/logtopicstore/sql/Function$3" aPOWER 2 2) (kROUND : own_K Z h0 "ROUND" "com/example/log_topic_store/logtopicstore/sql/Function$4" aROUND 1 2) (kFLOOR : own_K Z h0 "FLOOR" "com/example/log_topic_store/logtopicstore/sql/Function$5" aFLOOR 1 1) (kLN : own_K Z h0 "LN" "com/example/log_topic_store/logtopicstore/sql/Function$6" aLN 1 1) (kLOG : own_K Z h0 "LOG" "com/example/log_topic_store/logtopicstore/sql/Function$7" aLOG 1 1) (kLOG10 : own_K Z h0 "LOG10" "com/example/log_topic_store/logtopicstore/sql/Function$8" aLOG10 1 1) :
    own_Met l Z x code maxLocals ret ws room_1 #[(.int p1), (.int p2)] h0 (own_Q0 h0 n0) := by
  refine MetFree.of_bodySF (plainFor_of_name pn_com_example_log_topic_store_logtopicstore_sql_FunctionTakesPinLaw) hisR ?_
  intro p e s m args below meth c s₁ Bd hml0 hP hK
  obtain ⟨rfl, hZ, hh⟩ := hP
  have hx := Bd.exec
  have hby := Bd.bytes
  have hml : c.maxLocals = 5 := hml0
  have hown : s.vm.findClass "com/example/log_topic_store/logtopicstore/sql/FunctionTakesPinLaw" = some m.cls := findClass_of_methodNamed Bd.named
  have hnm := (name_of_methodNamed Bd.named Bd.method).1
  have X0 : Stand p l e room_1 s m #[(.int p1), (.int p2)] below meth c s₁ [] 0 0 := Stand.of_body Bd
  have e0 : s₁.heap = h0 := by rw [← hh, Bd.state]; rfl
  have N0 := Fr.nil n0
  have hst : entryFrame m #[(.int p1), (.int p2)] maxLocals = mkF m 0 #[.val (.int p1), .val (.int p2), .unset, .unset, .unset] [] := by first | (simp [entryFrame, mkF, argsToLocals, Value.category, maxLocals]; done) | rfl
  obtain ⟨F, hF⟩ : ∃ F : State → Outcome → Prop, F = fun s₂ o => (s₂.status = .running ∧ Ended s₂ below o ∧ ∃ v L, o = .returned v ∧ (own_Q0 h0 n0) v s₂.heap L ∧ FrameEnd s o s₂ L (Room.cells room_1) (Room.slots room_1)) := ⟨_, rfl⟩
  suffices G : own_Go p.tables e below F (s₁.setTop (mkF m 0 #[.val (.int p1), .val (.int p2), .unset, .unset, .unset] [])) by
    obtain ⟨t, o, a, b⟩ := G
    rw [hF] at b
    exact ⟨t, o, castTop hst a, b⟩
  show own_Go p.tables e below F (s₁.setTop (mkF m 0 #[.val (.int p1), .val (.int p2), .unset, .unset, .unset] []))
  refine own_st (fun _ k => XS.iloadN X0.here hx rfl (hb hby at_0) rfl k) ?_
  show own_Go p.tables e below F (s₁.setTop (mkF m 1 #[.val (.int p1), .val (.int p2), .unset, .unset, .unset] [(.int p1)]))
  refine own_st (fun _ k => XS.bipush X0.here hx rfl (hb hby at_1) k) ?_
  show own_Go p.tables e below F (s₁.setTop (mkF m 3 #[.val (.int p1), .val (.int p2), .unset, .unset, .unset] [(.int (7 : Int32)), (.int p1)]))
  refine own_st (fun _ k => XS.iand X0.here hx rfl (hb hby at_3) rfl k) ?_
  show own_Go p.tables e below F (s₁.setTop (mkF m 4 #[.val (.int p1), .val (.int p2), .unset, .unset, .unset] [(.int (p1 &&& (7 : Int32)))]))
  refine own_st (fun _ k => XS.istoreN X0.here hx rfl (hb hby at_4) rfl (l' := #[.val (.int p1), .val (.int p2), .val (.int (p1 &&& (7 : Int32))), .unset, .unset]) rfl k) ?_
  show own_Go p.tables e below F (s₁.setTop (mkF m 5 #[.val (.int p1), .val (.int p2), .val (.int (p1 &&& (7 : Int32))), .unset, .unset] []))
  refine own_st (fun _ k => XS.iloadN X0.here hx rfl (hb hby at_5) rfl k) ?_
  show own_Go p.tables e below F (s₁.setTop (mkF m 6 #[.val (.int p1), .val (.int p2), .val (.int (p1 &&& (7 : Int32))), .unset, .unset] [(.int (p1 &&& (7 : Int32)))]))
  by_cases hc6 : (p1 &&& (7 : Int32)) = (0 : Int32)
  ·
    refine own_st (fun _ k => XS.ifNo X0.here hx rfl (hb hby at_6) rfl ((if0 _ _).trans (teq hc6).2) k) ?_
    show own_Go p.tables e below F (s₁.setTop (mkF m 9 #[.val (.int p1), .val (.int p2), .val (.int (p1 &&& (7 : Int32))), .unset, .unset] []))
    obtain ⟨T1, X1, e1, st1⟩ := getS2 X0 hx hZ hown (host := "") (Or.inl (hw _ (List.mem_of_getElem? (i := 0) rfl))) Via.refl e0 kABS.1 (g := (mkF m 9 #[.val (.int p1), .val (.int p2), .val (.int (p1 &&& (7 : Int32))), .unset, .unset] [])) rfl (hb hby at_9)
    refine own_st st1 ?_
    show own_Go p.tables e below F (T1.setTop (mkF m 12 #[.val (.int p1), .val (.int p2), .val (.int (p1 &&& (7 : Int32))), .unset, .unset] [(.ref aABS)]))
    refine own_st (fun _ k => XS.astoreN X1.here hx rfl (hb hby at_12) rfl rfl (l' := #[.val (.int p1), .val (.int p2), .val (.int (p1 &&& (7 : Int32))), .val (.ref aABS), .unset]) rfl k) ?_
    show own_Go p.tables e below F (T1.setTop (mkF m 13 #[.val (.int p1), .val (.int p2), .val (.int (p1 &&& (7 : Int32))), .val (.ref aABS), .unset] []))
    refine own_st (fun _ k => XS.iloadN X1.here hx rfl (hb hby at_13) rfl k) ?_
    show own_Go p.tables e below F (T1.setTop (mkF m 14 #[.val (.int p1), .val (.int p2), .val (.int (p1 &&& (7 : Int32))), .val (.ref aABS), .unset] [(.int p2)]))
    refine own_st (fun _ k => XS.iconst X1.here hx rfl (hb hby at_14) k) ?_
    show own_Go p.tables e below F (T1.setTop (mkF m 15 #[.val (.int p1), .val (.int p2), .val (.int (p1 &&& (7 : Int32))), .val (.ref aABS), .unset] [(.int (1 : Int32)), (.int p2)]))
    by_cases hc15 : p2 = (1 : Int32)
    ·
      refine own_st (fun _ k => XS.icmpNo X1.here hx rfl (hb hby at_15) rfl (teq hc15).2 k) ?_
      show own_Go p.tables e below F (T1.setTop (mkF m 18 #[.val (.int p1), .val (.int p2), .val (.int (p1 &&& (7 : Int32))), .val (.ref aABS), .unset] []))
      refine own_st (fun _ k => XS.iconst X1.here hx rfl (hb hby at_18) k) ?_
      show own_Go p.tables e below F (T1.setTop (mkF m 19 #[.val (.int p1), .val (.int p2), .val (.int (p1 &&& (7 : Int32))), .val (.ref aABS), .unset] [(.int (1 : Int32))]))
      refine own_st (fun _ k => XS.goto X1.here hx rfl (pc0 := 19) (pc' := 23) rfl (hb hby at_19) (by decide) (by decide) k) ?_
      show own_Go p.tables e below F (T1.setTop (mkF m 23 #[.val (.int p1), .val (.int p2), .val (.int (p1 &&& (7 : Int32))), .val (.ref aABS), .unset] [(.int (1 : Int32))]))
      refine own_st (fun _ k => XS.istore X1.here hx rfl (hb hby at_23) rfl (l' := #[.val (.int p1), .val (.int p2), .val (.int (p1 &&& (7 : Int32))), .val (.ref aABS), .val (.int (1 : Int32))]) rfl k) ?_
      show own_Go p.tables e below F (T1.setTop (mkF m 25 #[.val (.int p1), .val (.int p2), .val (.int (p1 &&& (7 : Int32))), .val (.ref aABS), .val (.int (1 : Int32))] []))
      refine own_st (fun _ k => XS.goto X1.here hx rfl (pc0 := 25) (pc' := 194) rfl (hb hby at_25) (by decide) (by decide) k) ?_
      show own_Go p.tables e below F (T1.setTop (mkF m 194 #[.val (.int p1), .val (.int p2), .val (.int (p1 &&& (7 : Int32))), .val (.ref aABS), .val (.int (1 : Int32))] []))
      refine own_st (fun _ k => XS.aloadN X1.here hx rfl (hb hby at_194) rfl rfl k) ?_
      show own_Go p.tables e below F (T1.setTop (mkF m 195 #[.val (.int p1), .val (.int p2), .val (.int (p1 &&& (7 : Int32))), .val (.ref aABS), .val (.int (1 : Int32))] [(.ref aABS)]))
      refine own_st (fun _ k => XS.iloadN X1.here hx rfl (hb hby at_195) rfl k) ?_
      show own_Go p.tables e below F (T1.setTop (mkF m 196 #[.val (.int p1), .val (.int p2), .val (.int (p1 &&& (7 : Int32))), .val (.ref aABS), .val (.int (1 : Int32))] [(.int p2), (.ref aABS)]))
      obtain ⟨cq2, kq2, q2a, q2b, q2c⟩ := isOf hZ e1 kABS.2.1
      obtain ⟨_, _, ⟨T2, L2, k2, n2⟩, -, X2, ⟨Lc2, hQ2, l2, y2, z2⟩, st2⟩ := X1.virtualBack hx (y := (⟨"com/example/log_topic_store/logtopicstore/sql/Function", "takes", "(I)Z"⟩ : MethodName)) (z := (⟨"com/example/log_topic_store/logtopicstore/sql/Function", "takes", "(I)Z"⟩ : MethodName)) hown (mvT hZ (hw _ (List.mem_of_getElem? (i := 3) rfl))) (mvT hZ (hw _ (List.mem_of_getElem? (i := 4) rfl))) (notFace_of_selects (args := #[]) (mvT hZ (hw _ (List.mem_of_getElem? (i := 6) rfl)))) (mvT hZ (hw _ (List.mem_of_getElem? (i := 6) rfl))) (mvT hZ (hw _ (List.mem_of_getElem? (i := 5) rfl))) (by decide) (backOf (W := 0) (own_takes l Z a0 hw [] aABS p2 1 1 1 h0 n0 kABS.2.2.1 kABS.2.2.2 (by rw [hc15]; decide)) hZ (hw _ (List.mem_of_getElem? (i := 7) rfl)) (hw _ (List.mem_of_getElem? (i := 1) rfl)) (by decide) (by decide)) q2a q2c (g := (mkF m 196 #[.val (.int p1), .val (.int p2), .val (.int (p1 &&& (7 : Int32))), .val (.ref aABS), .val (.int (1 : Int32))] [(.int p2), (.ref aABS)])) rfl (by rw [hml]; rfl) (Steps.refl _) (argsL := [(.int p2)]) (rest := []) (lenOf pd_0 rfl) rfl (by show 2 * 0 + _ ≤ _; exact Nat.le_of_eq rfl) (hb hby at_196) (fun _ _ => ⟨rfl, e1, (by decide : 0 + 0 ≤ _), (by decide : 0 + 0 ≤ _)⟩)
      dsimp only [Pt.U, Pt.locs, Pt.cells, Pt.slots] at X2 l2 y2 z2 st2 hQ2
      subst l2 y2 z2
      obtain ⟨rfl, N2q, e2⟩ := hQ2
      have N2 := Fr.app N0 N2q
      refine own_st (fun _ k => st2.trans k) ?_
      show own_Go p.tables e below F (T2.setTop (mkF m 199 #[.val (.int p1), .val (.int p2), .val (.int (p1 &&& (7 : Int32))), .val (.ref aABS), .val (.int (1 : Int32))] [(.int (1 : Int32))]))
      refine own_st (fun _ k => XS.iload X2.here hx rfl (hb hby at_199) rfl k) ?_
      show own_Go p.tables e below F (T2.setTop (mkF m 201 #[.val (.int p1), .val (.int p2), .val (.int (p1 &&& (7 : Int32))), .val (.ref aABS), .val (.int (1 : Int32))] [(.int (1 : Int32)), (.int (1 : Int32))]))
      refine own_st (fun _ k => XS.icmpNo X2.here hx rfl (hb hby at_201) rfl (teq (by decide : (1 : Int32) = (1 : Int32))).2 k) ?_
      show own_Go p.tables e below F (T2.setTop (mkF m 204 #[.val (.int p1), .val (.int p2), .val (.int (p1 &&& (7 : Int32))), .val (.ref aABS), .val (.int (1 : Int32))] []))
      refine own_st (fun _ k => XS.iconst X2.here hx rfl (hb hby at_204) k) ?_
      show own_Go p.tables e below F (T2.setTop (mkF m 205 #[.val (.int p1), .val (.int p2), .val (.int (p1 &&& (7 : Int32))), .val (.ref aABS), .val (.int (1 : Int32))] [(.int (1 : Int32))]))
      refine own_st (fun _ k => XS.goto X2.here hx rfl (pc0 := 205) (pc' := 209) rfl (hb hby at_205) (by decide) (by decide) k) ?_
      show own_Go p.tables e below F (T2.setTop (mkF m 209 #[.val (.int p1), .val (.int p2), .val (.int (p1 &&& (7 : Int32))), .val (.ref aABS), .val (.int (1 : Int32))] [(.int (1 : Int32))]))
      obtain ⟨fs, hrL, hrun, hended, hW, hsame⟩ := X2.leave (v := some (.int (1 : Int32))) (fun h => by rw [Bd.returns] at h; cases h)
      refine own_end hF (o := .returned (some (.int (1 : Int32)))) (retN X2 hx (t := .boolean) Bd.returns (by simp) (hb hby at_209) hrL) ?_
      refine ⟨hrun, hended, _, _, rfl, ?_, ⟨_, rfl⟩, hW, hsame.mono (by decide) (by decide)⟩
      exact ⟨rfl, N2⟩
    ·
      refine own_st (fun _ k => XS.icmpYes X1.here hx rfl (pc0 := 15) (pc' := 22) rfl (hb hby at_15) rfl (feq hc15).2 (by decide) (by decide) k) ?_
      show own_Go p.tables e below F (T1.setTop (mkF m 22 #[.val (.int p1), .val (.int p2), .val (.int (p1 &&& (7 : Int32))), .val (.ref aABS), .unset] []))
      refine own_st (fun _ k => XS.iconst X1.here hx rfl (hb hby at_22) k) ?_
      show own_Go p.tables e below F (T1.setTop (mkF m 23 #[.val (.int p1), .val (.int p2), .val (.int (p1 &&& (7 : Int32))), .val (.ref aABS), .unset] [(.int (0 : Int32))]))
      refine own_st (fun _ k => XS.istore X1.here hx rfl (hb hby at_23) rfl (l' := #[.val (.int p1), .val (.int p2), .val (.int (p1 &&& (7 : Int32))), .val (.ref aABS), .val (.int (0 : Int32))]) rfl k) ?_
      show own_Go p.tables e below F (T1.setTop (mkF m 25 #[.val (.int p1), .val (.int p2), .val (.int (p1 &&& (7 : Int32))), .val (.ref aABS), .val (.int (0 : Int32))] []))
      refine own_st (fun _ k => XS.goto X1.here hx rfl (pc0 := 25) (pc' := 194) rfl (hb hby at_25) (by decide) (by decide) k) ?_
      show own_Go p.tables e below F (T1.setTop (mkF m 194 #[.val (.int p1), .val (.int p2), .val (.int (p1 &&& (7 : Int32))), .val (.ref aABS), .val (.int (0 : Int32))] []))
      refine own_st (fun _ k => XS.aloadN X1.here hx rfl (hb hby at_194) rfl rfl k) ?_
      show own_Go p.tables e below F (T1.setTop (mkF m 195 #[.val (.int p1), .val (.int p2), .val (.int (p1 &&& (7 : Int32))), .val (.ref aABS), .val (.int (0 : Int32))] [(.ref aABS)]))
      refine own_st (fun _ k => XS.iloadN X1.here hx rfl (hb hby at_195) rfl k) ?_
      show own_Go p.tables e below F (T1.setTop (mkF m 196 #[.val (.int p1), .val (.int p2), .val (.int (p1 &&& (7 : Int32))), .val (.ref aABS), .val (.int (0 : Int32))] [(.int p2), (.ref aABS)]))
      obtain ⟨cq3, kq3, q3a, q3b, q3c⟩ := isOf hZ e1 kABS.2.1
      obtain ⟨_, _, ⟨T3, L3, k3, n3⟩, -, X3, ⟨Lc3, hQ3, l3, y3, z3⟩, st3⟩ := X1.virtualBack hx (y := (⟨"com/example/log_topic_store/logtopicstore/sql/Function", "takes", "(I)Z"⟩ : MethodName)) (z := (⟨"com/example/log_topic_store/logtopicstore/sql/Function", "takes", "(I)Z"⟩ : MethodName)) hown (mvT hZ (hw _ (List.mem_of_getElem? (i := 3) rfl))) (mvT hZ (hw _ (List.mem_of_getElem? (i := 4) rfl))) (notFace_of_selects (args := #[]) (mvT hZ (hw _ (List.mem_of_getElem? (i := 6) rfl)))) (mvT hZ (hw _ (List.mem_of_getElem? (i := 6) rfl))) (mvT hZ (hw _ (List.mem_of_getElem? (i := 5) rfl))) (by decide) (backOf (W := 0) (own_takes l Z a0 hw [] aABS p2 1 1 0 h0 n0 kABS.2.2.1 kABS.2.2.2 ((if_pos (own_out1 hc15)).symm)) hZ (hw _ (List.mem_of_getElem? (i := 7) rfl)) (hw _ (List.mem_of_getElem? (i := 1) rfl)) (by decide) (by decide)) q3a q3c (g := (mkF m 196 #[.val (.int p1), .val (.int p2), .val (.int (p1 &&& (7 : Int32))), .val (.ref aABS), .val (.int (0 : Int32))] [(.int p2), (.ref aABS)])) rfl (by rw [hml]; rfl) (Steps.refl _) (argsL := [(.int p2)]) (rest := []) (lenOf pd_0 rfl) rfl (by show 2 * 0 + _ ≤ _; exact Nat.le_of_eq rfl) (hb hby at_196) (fun _ _ => ⟨rfl, e1, (by decide : 0 + 0 ≤ _), (by decide : 0 + 0 ≤ _)⟩)
      dsimp only [Pt.U, Pt.locs, Pt.cells, Pt.slots] at X3 l3 y3 z3 st3 hQ3
      subst l3 y3 z3
      obtain ⟨rfl, N3q, e3⟩ := hQ3
      have N3 := Fr.app N0 N3q
      refine own_st (fun _ k => st3.trans k) ?_
      show own_Go p.tables e below F (T3.setTop (mkF m 199 #[.val (.int p1), .val (.int p2), .val (.int (p1 &&& (7 : Int32))), .val (.ref aABS), .val (.int (0 : Int32))] [(.int (0 : Int32))]))
      refine own_st (fun _ k => XS.iload X3.here hx rfl (hb hby at_199) rfl k) ?_
      show own_Go p.tables e below F (T3.setTop (mkF m 201 #[.val (.int p1), .val (.int p2), .val (.int (p1 &&& (7 : Int32))), .val (.ref aABS), .val (.int (0 : Int32))] [(.int (0 : Int32)), (.int (0 : Int32))]))
      refine own_st (fun _ k => XS.icmpNo X3.here hx rfl (hb hby at_201) rfl (teq (by decide : (0 : Int32) = (0 : Int32))).2 k) ?_
      show own_Go p.tables e below F (T3.setTop (mkF m 204 #[.val (.int p1), .val (.int p2), .val (.int (p1 &&& (7 : Int32))), .val (.ref aABS), .val (.int (0 : Int32))] []))
      refine own_st (fun _ k => XS.iconst X3.here hx rfl (hb hby at_204) k) ?_
      show own_Go p.tables e below F (T3.setTop (mkF m 205 #[.val (.int p1), .val (.int p2), .val (.int (p1 &&& (7 : Int32))), .val (.ref aABS), .val (.int (0 : Int32))] [(.int (1 : Int32))]))
      refine own_st (fun _ k => XS.goto X3.here hx rfl (pc0 := 205) (pc' := 209) rfl (hb hby at_205) (by decide) (by decide) k) ?_
      show own_Go p.tables e below F (T3.setTop (mkF m 209 #[.val (.int p1), .val (.int p2), .val (.int (p1 &&& (7 : Int32))), .val (.ref aABS), .val (.int (0 : Int32))] [(.int (1 : Int32))]))
      obtain ⟨fs, hrL, hrun, hended, hW, hsame⟩ := X3.leave (v := some (.int (1 : Int32))) (fun h => by rw [Bd.returns] at h; cases h)
      refine own_end hF (o := .returned (some (.int (1 : Int32)))) (retN X3 hx (t := .boolean) Bd.returns (by simp) (hb hby at_209) hrL) ?_
      refine ⟨hrun, hended, _, _, rfl, ?_, ⟨_, rfl⟩, hW, hsame.mono (by decide) (by decide)⟩
      exact ⟨rfl, N3⟩
  ·
    refine own_st (fun _ k => XS.ifYes X0.here hx rfl (pc0 := 6) (pc' := 28) rfl (hb hby at_6) rfl ((if0 _ _).trans (feq hc6).2) (by decide) (by decide) k) ?_
    show own_Go p.tables e below F (s₁.setTop (mkF m 28 #[.val (.int p1), .val (.int p2), .val (.int (p1 &&& (7 : Int32))), .unset, .unset] []))
    refine own_st (fun _ k => XS.iloadN X0.here hx rfl (hb hby at_28) rfl k) ?_
    show own_Go p.tables e below F (s₁.setTop (mkF m 29 #[.val (.int p1), .val (.int p2), .val (.int (p1 &&& (7 : Int32))), .unset, .unset] [(.int (p1 &&& (7 : Int32)))]))
    refine own_st (fun _ k => XS.iconst X0.here hx rfl (hb hby at_29) k) ?_
    show own_Go p.tables e below F (s₁.setTop (mkF m 30 #[.val (.int p1), .val (.int p2), .val (.int (p1 &&& (7 : Int32))), .unset, .unset] [(.int (1 : Int32)), (.int (p1 &&& (7 : Int32)))]))
    by_cases hc30 : (p1 &&& (7 : Int32)) = (1 : Int32)
    ·
      refine own_st (fun _ k => XS.icmpNo X0.here hx rfl (hb hby at_30) rfl (teq hc30).2 k) ?_
      show own_Go p.tables e below F (s₁.setTop (mkF m 33 #[.val (.int p1), .val (.int p2), .val (.int (p1 &&& (7 : Int32))), .unset, .unset] []))
      obtain ⟨T4, X4, e4, st4⟩ := getS2 X0 hx hZ hown (host := "") (Or.inl (hw _ (List.mem_of_getElem? (i := 37) rfl))) Via.refl e0 kSQRT.1 (g := (mkF m 33 #[.val (.int p1), .val (.int p2), .val (.int (p1 &&& (7 : Int32))), .unset, .unset] [])) rfl (hb hby at_33)
      refine own_st st4 ?_
      show own_Go p.tables e below F (T4.setTop (mkF m 36 #[.val (.int p1), .val (.int p2), .val (.int (p1 &&& (7 : Int32))), .unset, .unset] [(.ref aSQRT)]))
      refine own_st (fun _ k => XS.astoreN X4.here hx rfl (hb hby at_36) rfl rfl (l' := #[.val (.int p1), .val (.int p2), .val (.int (p1 &&& (7 : Int32))), .val (.ref aSQRT), .unset]) rfl k) ?_
      show own_Go p.tables e below F (T4.setTop (mkF m 37 #[.val (.int p1), .val (.int p2), .val (.int (p1 &&& (7 : Int32))), .val (.ref aSQRT), .unset] []))
      refine own_st (fun _ k => XS.iloadN X4.here hx rfl (hb hby at_37) rfl k) ?_
      show own_Go p.tables e below F (T4.setTop (mkF m 38 #[.val (.int p1), .val (.int p2), .val (.int (p1 &&& (7 : Int32))), .val (.ref aSQRT), .unset] [(.int p2)]))
      refine own_st (fun _ k => XS.iconst X4.here hx rfl (hb hby at_38) k) ?_
      show own_Go p.tables e below F (T4.setTop (mkF m 39 #[.val (.int p1), .val (.int p2), .val (.int (p1 &&& (7 : Int32))), .val (.ref aSQRT), .unset] [(.int (1 : Int32)), (.int p2)]))
      by_cases hc39 : p2 = (1 : Int32)
      ·
        refine own_st (fun _ k => XS.icmpNo X4.here hx rfl (hb hby at_39) rfl (teq hc39).2 k) ?_
        show own_Go p.tables e below F (T4.setTop (mkF m 42 #[.val (.int p1), .val (.int p2), .val (.int (p1 &&& (7 : Int32))), .val (.ref aSQRT), .unset] []))
        refine own_st (fun _ k => XS.iconst X4.here hx rfl (hb hby at_42) k) ?_
        show own_Go p.tables e below F (T4.setTop (mkF m 43 #[.val (.int p1), .val (.int p2), .val (.int (p1 &&& (7 : Int32))), .val (.ref aSQRT), .unset] [(.int (1 : Int32))]))
        refine own_st (fun _ k => XS.goto X4.here hx rfl (pc0 := 43) (pc' := 47) rfl (hb hby at_43) (by decide) (by decide) k) ?_
        show own_Go p.tables e below F (T4.setTop (mkF m 47 #[.val (.int p1), .val (.int p2), .val (.int (p1 &&& (7 : Int32))), .val (.ref aSQRT), .unset] [(.int (1 : Int32))]))
        refine own_st (fun _ k => XS.istore X4.here hx rfl (hb hby at_47) rfl (l' := #[.val (.int p1), .val (.int p2), .val (.int (p1 &&& (7 : Int32))), .val (.ref aSQRT), .val (.int (1 : Int32))]) rfl k) ?_
        show own_Go p.tables e below F (T4.setTop (mkF m 49 #[.val (.int p1), .val (.int p2), .val (.int (p1 &&& (7 : Int32))), .val (.ref aSQRT), .val (.int (1 : Int32))] []))
        refine own_st (fun _ k => XS.goto X4.here hx rfl (pc0 := 49) (pc' := 194) rfl (hb hby at_49) (by decide) (by decide) k) ?_
        show own_Go p.tables e below F (T4.setTop (mkF m 194 #[.val (.int p1), .val (.int p2), .val (.int (p1 &&& (7 : Int32))), .val (.ref aSQRT), .val (.int (1 : Int32))] []))
        refine own_st (fun _ k => XS.aloadN X4.here hx rfl (hb hby at_194) rfl rfl k) ?_
        show own_Go p.tables e below F (T4.setTop (mkF m 195 #[.val (.int p1), .val (.int p2), .val (.int (p1 &&& (7 : Int32))), .val (.ref aSQRT), .val (.int (1 : Int32))] [(.ref aSQRT)]))
        refine own_st (fun _ k => XS.iloadN X4.here hx rfl (hb hby at_195) rfl k) ?_
        show own_Go p.tables e below F (T4.setTop (mkF m 196 #[.val (.int p1), .val (.int p2), .val (.int (p1 &&& (7 : Int32))), .val (.ref aSQRT), .val (.int (1 : Int32))] [(.int p2), (.ref aSQRT)]))
        obtain ⟨cq5, kq5, q5a, q5b, q5c⟩ := isOf hZ e4 kSQRT.2.1
        obtain ⟨_, _, ⟨T5, L5, k5, n5⟩, -, X5, ⟨Lc5, hQ5, l5, y5, z5⟩, st5⟩ := X4.virtualBack hx (y := (⟨"com/example/log_topic_store/logtopicstore/sql/Function", "takes", "(I)Z"⟩ : MethodName)) (z := (⟨"com/example/log_topic_store/logtopicstore/sql/Function", "takes", "(I)Z"⟩ : MethodName)) hown (mvT hZ (hw _ (List.mem_of_getElem? (i := 3) rfl))) (mvT hZ (hw _ (List.mem_of_getElem? (i := 4) rfl))) (notFace_of_selects (args := #[]) (mvT hZ (hw _ (List.mem_of_getElem? (i := 39) rfl)))) (mvT hZ (hw _ (List.mem_of_getElem? (i := 39) rfl))) (mvT hZ (hw _ (List.mem_of_getElem? (i := 5) rfl))) (by decide) (backOf (W := 0) (own_takes l Z a0 hw [] aSQRT p2 1 1 1 h0 n0 kSQRT.2.2.1 kSQRT.2.2.2 (by rw [hc39]; decide)) hZ (hw _ (List.mem_of_getElem? (i := 7) rfl)) (hw _ (List.mem_of_getElem? (i := 1) rfl)) (by decide) (by decide)) q5a q5c (g := (mkF m 196 #[.val (.int p1), .val (.int p2), .val (.int (p1 &&& (7 : Int32))), .val (.ref aSQRT), .val (.int (1 : Int32))] [(.int p2), (.ref aSQRT)])) rfl (by rw [hml]; rfl) (Steps.refl _) (argsL := [(.int p2)]) (rest := []) (lenOf pd_0 rfl) rfl (by show 2 * 0 + _ ≤ _; exact Nat.le_of_eq rfl) (hb hby at_196) (fun _ _ => ⟨rfl, e4, (by decide : 0 + 0 ≤ _), (by decide : 0 + 0 ≤ _)⟩)
        dsimp only [Pt.U, Pt.locs, Pt.cells, Pt.slots] at X5 l5 y5 z5 st5 hQ5
        subst l5 y5 z5
        obtain ⟨rfl, N5q, e5⟩ := hQ5
        have N5 := Fr.app N0 N5q
        refine own_st (fun _ k => st5.trans k) ?_
        show own_Go p.tables e below F (T5.setTop (mkF m 199 #[.val (.int p1), .val (.int p2), .val (.int (p1 &&& (7 : Int32))), .val (.ref aSQRT), .val (.int (1 : Int32))] [(.int (1 : Int32))]))
        refine own_st (fun _ k => XS.iload X5.here hx rfl (hb hby at_199) rfl k) ?_
        show own_Go p.tables e below F (T5.setTop (mkF m 201 #[.val (.int p1), .val (.int p2), .val (.int (p1 &&& (7 : Int32))), .val (.ref aSQRT), .val (.int (1 : Int32))] [(.int (1 : Int32)), (.int (1 : Int32))]))
        refine own_st (fun _ k => XS.icmpNo X5.here hx rfl (hb hby at_201) rfl (teq (by decide : (1 : Int32) = (1 : Int32))).2 k) ?_
        show own_Go p.tables e below F (T5.setTop (mkF m 204 #[.val (.int p1), .val (.int p2), .val (.int (p1 &&& (7 : Int32))), .val (.ref aSQRT), .val (.int (1 : Int32))] []))
        refine own_st (fun _ k => XS.iconst X5.here hx rfl (hb hby at_204) k) ?_
        show own_Go p.tables e below F (T5.setTop (mkF m 205 #[.val (.int p1), .val (.int p2), .val (.int (p1 &&& (7 : Int32))), .val (.ref aSQRT), .val (.int (1 : Int32))] [(.int (1 : Int32))]))
        refine own_st (fun _ k => XS.goto X5.here hx rfl (pc0 := 205) (pc' := 209) rfl (hb hby at_205) (by decide) (by decide) k) ?_
        show own_Go p.tables e below F (T5.setTop (mkF m 209 #[.val (.int p1), .val (.int p2), .val (.int (p1 &&& (7 : Int32))), .val (.ref aSQRT), .val (.int (1 : Int32))] [(.int (1 : Int32))]))
        obtain ⟨fs, hrL, hrun, hended, hW, hsame⟩ := X5.leave (v := some (.int (1 : Int32))) (fun h => by rw [Bd.returns] at h; cases h)
        refine own_end hF (o := .returned (some (.int (1 : Int32)))) (retN X5 hx (t := .boolean) Bd.returns (by simp) (hb hby at_209) hrL) ?_
        refine ⟨hrun, hended, _, _, rfl, ?_, ⟨_, rfl⟩, hW, hsame.mono (by decide) (by decide)⟩
        exact ⟨rfl, N5⟩
      ·
        refine own_st (fun _ k => XS.icmpYes X4.here hx rfl (pc0 := 39) (pc' := 46) rfl (hb hby at_39) rfl (feq hc39).2 (by decide) (by decide) k) ?_
        show own_Go p.tables e below F (T4.setTop (mkF m 46 #[.val (.int p1), .val (.int p2), .val (.int (p1 &&& (7 : Int32))), .val (.ref aSQRT), .unset] []))
        refine own_st (fun _ k => XS.iconst X4.here hx rfl (hb hby at_46) k) ?_
        show own_Go p.tables e below F (T4.setTop (mkF m 47 #[.val (.int p1), .val (.int p2), .val (.int (p1 &&& (7 : Int32))), .val (.ref aSQRT), .unset] [(.int (0 : Int32))]))
        refine own_st (fun _ k => XS.istore X4.here hx rfl (hb hby at_47) rfl (l' := #[.val (.int p1), .val (.int p2), .val (.int (p1 &&& (7 : Int32))), .val (.ref aSQRT), .val (.int (0 : Int32))]) rfl k) ?_
        show own_Go p.tables e below F (T4.setTop (mkF m 49 #[.val (.int p1), .val (.int p2), .val (.int (p1 &&& (7 : Int32))), .val (.ref aSQRT), .val (.int (0 : Int32))] []))
        refine own_st (fun _ k => XS.goto X4.here hx rfl (pc0 := 49) (pc' := 194) rfl (hb hby at_49) (by decide) (by decide) k) ?_
        show own_Go p.tables e below F (T4.setTop (mkF m 194 #[.val (.int p1), .val (.int p2), .val (.int (p1 &&& (7 : Int32))), .val (.ref aSQRT), .val (.int (0 : Int32))] []))
        refine own_st (fun _ k => XS.aloadN X4.here hx rfl (hb hby at_194) rfl rfl k) ?_
        show own_Go p.tables e below F (T4.setTop (mkF m 195 #[.val (.int p1), .val (.int p2), .val (.int (p1 &&& (7 : Int32))), .val (.ref aSQRT), .val (.int (0 : Int32))] [(.ref aSQRT)]))
        refine own_st (fun _ k => XS.iloadN X4.here hx rfl (hb hby at_195) rfl k) ?_
        show own_Go p.tables e below F (T4.setTop (mkF m 196 #[.val (.int p1), .val (.int p2), .val (.int (p1 &&& (7 : Int32))), .val (.ref aSQRT), .val (.int (0 : Int32))] [(.int p2), (.ref aSQRT)]))
        obtain ⟨cq6, kq6, q6a, q6b, q6c⟩ := isOf hZ e4 kSQRT.2.1
        obtain ⟨_, _, ⟨T6, L6, k6, n6⟩, -, X6, ⟨Lc6, hQ6, l6, y6, z6⟩, st6⟩ := X4.virtualBack hx (y := (⟨"com/example/log_topic_store/logtopicstore/sql/Function", "takes", "(I)Z"⟩ : MethodName)) (z := (⟨"com/example/log_topic_store/logtopicstore/sql/Function", "takes", "(I)Z"⟩ : MethodName)) hown (mvT hZ (hw _ (List.mem_of_getElem? (i := 3) rfl))) (mvT hZ (hw _ (List.mem_of_getElem? (i := 4) rfl))) (notFace_of_selects (args := #[]) (mvT hZ (hw _ (List.mem_of_getElem? (i := 39) rfl)))) (mvT hZ (hw _ (List.mem_of_getElem? (i := 39) rfl))) (mvT hZ (hw _ (List.mem_of_getElem? (i := 5) rfl))) (by decide) (backOf (W := 0) (own_takes l Z a0 hw [] aSQRT p2 1 1 0 h0 n0 kSQRT.2.2.1 kSQRT.2.2.2 ((if_pos (own_out1 hc39)).symm)) hZ (hw _ (List.mem_of_getElem? (i := 7) rfl)) (hw _ (List.mem_of_getElem? (i := 1) rfl)) (by decide) (by decide)) q6a q6c (g := (mkF m 196 #[.val (.int p1), .val (.int p2), .val (.int (p1 &&& (7 : Int32))), .val (.ref aSQRT), .val (.int (0 : Int32))] [(.int p2), (.ref aSQRT)])) rfl (by rw [hml]; rfl) (Steps.refl _) (argsL := [(.int p2)]) (rest := []) (lenOf pd_0 rfl) rfl (by show 2 * 0 + _ ≤ _; exact Nat.le_of_eq rfl) (hb hby at_196) (fun _ _ => ⟨rfl, e4, (by decide : 0 + 0 ≤ _), (by decide : 0 + 0 ≤ _)⟩)
        dsimp only [Pt.U, Pt.locs, Pt.cells, Pt.slots] at X6 l6 y6 z6 st6 hQ6
        subst l6 y6 z6
        obtain ⟨rfl, N6q, e6⟩ := hQ6
        have N6 := Fr.app N0 N6q
        refine own_st (fun _ k => st6.trans k) ?_
        show own_Go p.tables e below F (T6.setTop (mkF m 199 #[.val (.int p1), .val (.int p2), .val (.int (p1 &&& (7 : Int32))), .val (.ref aSQRT), .val (.int (0 : Int32))] [(.int (0 : Int32))]))
        refine own_st (fun _ k => XS.iload X6.here hx rfl (hb hby at_199) rfl k) ?_
        show own_Go p.tables e below F (T6.setTop (mkF m 201 #[.val (.int p1), .val (.int p2), .val (.int (p1 &&& (7 : Int32))), .val (.ref aSQRT), .val (.int (0 : Int32))] [(.int (0 : Int32)), (.int (0 : Int32))]))
        refine own_st (fun _ k => XS.icmpNo X6.here hx rfl (hb hby at_201) rfl (teq (by decide : (0 : Int32) = (0 : Int32))).2 k) ?_
        show own_Go p.tables e below F (T6.setTop (mkF m 204 #[.val (.int p1), .val (.int p2), .val (.int (p1 &&& (7 : Int32))), .val (.ref aSQRT), .val (.int (0 : Int32))] []))
        refine own_st (fun _ k => XS.iconst X6.here hx rfl (hb hby at_204) k) ?_
        show own_Go p.tables e below F (T6.setTop (mkF m 205 #[.val (.int p1), .val (.int p2), .val (.int (p1 &&& (7 : Int32))), .val (.ref aSQRT), .val (.int (0 : Int32))] [(.int (1 : Int32))]))
        refine own_st (fun _ k => XS.goto X6.here hx rfl (pc0 := 205) (pc' := 209) rfl (hb hby at_205) (by decide) (by decide) k) ?_
        show own_Go p.tables e below F (T6.setTop (mkF m 209 #[.val (.int p1), .val (.int p2), .val (.int (p1 &&& (7 : Int32))), .val (.ref aSQRT), .val (.int (0 : Int32))] [(.int (1 : Int32))]))
        obtain ⟨fs, hrL, hrun, hended, hW, hsame⟩ := X6.leave (v := some (.int (1 : Int32))) (fun h => by rw [Bd.returns] at h; cases h)
        refine own_end hF (o := .returned (some (.int (1 : Int32)))) (retN X6 hx (t := .boolean) Bd.returns (by simp) (hb hby at_209) hrL) ?_
        refine ⟨hrun, hended, _, _, rfl, ?_, ⟨_, rfl⟩, hW, hsame.mono (by decide) (by decide)⟩
        exact ⟨rfl, N6⟩
    ·
      refine own_st (fun _ k => XS.icmpYes X0.here hx rfl (pc0 := 30) (pc' := 52) rfl (hb hby at_30) rfl (feq hc30).2 (by decide) (by decide) k) ?_
      show own_Go p.tables e below F (s₁.setTop (mkF m 52 #[.val (.int p1), .val (.int p2), .val (.int (p1 &&& (7 : Int32))), .unset, .unset] []))
      refine own_st (fun _ k => XS.iloadN X0.here hx rfl (hb hby at_52) rfl k) ?_
      show own_Go p.tables e below F (s₁.setTop (mkF m 53 #[.val (.int p1), .val (.int p2), .val (.int (p1 &&& (7 : Int32))), .unset, .unset] [(.int (p1 &&& (7 : Int32)))]))
      refine own_st (fun _ k => XS.iconst X0.here hx rfl (hb hby at_53) k) ?_
      show own_Go p.tables e below F (s₁.setTop (mkF m 54 #[.val (.int p1), .val (.int p2), .val (.int (p1 &&& (7 : Int32))), .unset, .unset] [(.int (2 : Int32)), (.int (p1 &&& (7 : Int32)))]))
      by_cases hc54 : (p1 &&& (7 : Int32)) = (2 : Int32)
      ·
        refine own_st (fun _ k => XS.icmpNo X0.here hx rfl (hb hby at_54) rfl (teq hc54).2 k) ?_
        show own_Go p.tables e below F (s₁.setTop (mkF m 57 #[.val (.int p1), .val (.int p2), .val (.int (p1 &&& (7 : Int32))), .unset, .unset] []))
        obtain ⟨T7, X7, e7, st7⟩ := getS2 X0 hx hZ hown (host := "") (Or.inl (hw _ (List.mem_of_getElem? (i := 42) rfl))) Via.refl e0 kPOWER.1 (g := (mkF m 57 #[.val (.int p1), .val (.int p2), .val (.int (p1 &&& (7 : Int32))), .unset, .unset] [])) rfl (hb hby at_57)
        refine own_st st7 ?_
        show own_Go p.tables e below F (T7.setTop (mkF m 60 #[.val (.int p1), .val (.int p2), .val (.int (p1 &&& (7 : Int32))), .unset, .unset] [(.ref aPOWER)]))
        refine own_st (fun _ k => XS.astoreN X7.here hx rfl (hb hby at_60) rfl rfl (l' := #[.val (.int p1), .val (.int p2), .val (.int (p1 &&& (7 : Int32))), .val (.ref aPOWER), .unset]) rfl k) ?_
        show own_Go p.tables e below F (T7.setTop (mkF m 61 #[.val (.int p1), .val (.int p2), .val (.int (p1 &&& (7 : Int32))), .val (.ref aPOWER), .unset] []))
        refine own_st (fun _ k => XS.iloadN X7.here hx rfl (hb hby at_61) rfl k) ?_
        show own_Go p.tables e below F (T7.setTop (mkF m 62 #[.val (.int p1), .val (.int p2), .val (.int (p1 &&& (7 : Int32))), .val (.ref aPOWER), .unset] [(.int p2)]))
        refine own_st (fun _ k => XS.iconst X7.here hx rfl (hb hby at_62) k) ?_
        show own_Go p.tables e below F (T7.setTop (mkF m 63 #[.val (.int p1), .val (.int p2), .val (.int (p1 &&& (7 : Int32))), .val (.ref aPOWER), .unset] [(.int (2 : Int32)), (.int p2)]))
        by_cases hc63 : p2 = (2 : Int32)
        ·
          refine own_st (fun _ k => XS.icmpNo X7.here hx rfl (hb hby at_63) rfl (teq hc63).2 k) ?_
          show own_Go p.tables e below F (T7.setTop (mkF m 66 #[.val (.int p1), .val (.int p2), .val (.int (p1 &&& (7 : Int32))), .val (.ref aPOWER), .unset] []))
          refine own_st (fun _ k => XS.iconst X7.here hx rfl (hb hby at_66) k) ?_
          show own_Go p.tables e below F (T7.setTop (mkF m 67 #[.val (.int p1), .val (.int p2), .val (.int (p1 &&& (7 : Int32))), .val (.ref aPOWER), .unset] [(.int (1 : Int32))]))
          refine own_st (fun _ k => XS.goto X7.here hx rfl (pc0 := 67) (pc' := 71) rfl (hb hby at_67) (by decide) (by decide) k) ?_
          show own_Go p.tables e below F (T7.setTop (mkF m 71 #[.val (.int p1), .val (.int p2), .val (.int (p1 &&& (7 : Int32))), .val (.ref aPOWER), .unset] [(.int (1 : Int32))]))
          refine own_st (fun _ k => XS.istore X7.here hx rfl (hb hby at_71) rfl (l' := #[.val (.int p1), .val (.int p2), .val (.int (p1 &&& (7 : Int32))), .val (.ref aPOWER), .val (.int (1 : Int32))]) rfl k) ?_
          show own_Go p.tables e below F (T7.setTop (mkF m 73 #[.val (.int p1), .val (.int p2), .val (.int (p1 &&& (7 : Int32))), .val (.ref aPOWER), .val (.int (1 : Int32))] []))
          refine own_st (fun _ k => XS.goto X7.here hx rfl (pc0 := 73) (pc' := 194) rfl (hb hby at_73) (by decide) (by decide) k) ?_
          show own_Go p.tables e below F (T7.setTop (mkF m 194 #[.val (.int p1), .val (.int p2), .val (.int (p1 &&& (7 : Int32))), .val (.ref aPOWER), .val (.int (1 : Int32))] []))
          refine own_st (fun _ k => XS.aloadN X7.here hx rfl (hb hby at_194) rfl rfl k) ?_
          show own_Go p.tables e below F (T7.setTop (mkF m 195 #[.val (.int p1), .val (.int p2), .val (.int (p1 &&& (7 : Int32))), .val (.ref aPOWER), .val (.int (1 : Int32))] [(.ref aPOWER)]))
          refine own_st (fun _ k => XS.iloadN X7.here hx rfl (hb hby at_195) rfl k) ?_
          show own_Go p.tables e below F (T7.setTop (mkF m 196 #[.val (.int p1), .val (.int p2), .val (.int (p1 &&& (7 : Int32))), .val (.ref aPOWER), .val (.int (1 : Int32))] [(.int p2), (.ref aPOWER)]))
          obtain ⟨cq8, kq8, q8a, q8b, q8c⟩ := isOf hZ e7 kPOWER.2.1
          obtain ⟨_, _, ⟨T8, L8, k8, n8⟩, -, X8, ⟨Lc8, hQ8, l8, y8, z8⟩, st8⟩ := X7.virtualBack hx (y := (⟨"com/example/log_topic_store/logtopicstore/sql/Function", "takes", "(I)Z"⟩ : MethodName)) (z := (⟨"com/example/log_topic_store/logtopicstore/sql/Function", "takes", "(I)Z"⟩ : MethodName)) hown (mvT hZ (hw _ (List.mem_of_getElem? (i := 3) rfl))) (mvT hZ (hw _ (List.mem_of_getElem? (i := 4) rfl))) (notFace_of_selects (args := #[]) (mvT hZ (hw _ (List.mem_of_getElem? (i := 44) rfl)))) (mvT hZ (hw _ (List.mem_of_getElem? (i := 44) rfl))) (mvT hZ (hw _ (List.mem_of_getElem? (i := 5) rfl))) (by decide) (backOf (W := 0) (own_takes l Z a0 hw [] aPOWER p2 2 2 1 h0 n0 kPOWER.2.2.1 kPOWER.2.2.2 (by rw [hc63]; decide)) hZ (hw _ (List.mem_of_getElem? (i := 7) rfl)) (hw _ (List.mem_of_getElem? (i := 1) rfl)) (by decide) (by decide)) q8a q8c (g := (mkF m 196 #[.val (.int p1), .val (.int p2), .val (.int (p1 &&& (7 : Int32))), .val (.ref aPOWER), .val (.int (1 : Int32))] [(.int p2), (.ref aPOWER)])) rfl (by rw [hml]; rfl) (Steps.refl _) (argsL := [(.int p2)]) (rest := []) (lenOf pd_0 rfl) rfl (by show 2 * 0 + _ ≤ _; exact Nat.le_of_eq rfl) (hb hby at_196) (fun _ _ => ⟨rfl, e7, (by decide : 0 + 0 ≤ _), (by decide : 0 + 0 ≤ _)⟩)
          dsimp only [Pt.U, Pt.locs, Pt.cells, Pt.slots] at X8 l8 y8 z8 st8 hQ8
          subst l8 y8 z8
          obtain ⟨rfl, N8q, e8⟩ := hQ8
          have N8 := Fr.app N0 N8q
          refine own_st (fun _ k => st8.trans k) ?_
          show own_Go p.tables e below F (T8.setTop (mkF m 199 #[.val (.int p1), .val (.int p2), .val (.int (p1 &&& (7 : Int32))), .val (.ref aPOWER), .val (.int (1 : Int32))] [(.int (1 : Int32))]))
          refine own_st (fun _ k => XS.iload X8.here hx rfl (hb hby at_199) rfl k) ?_
          show own_Go p.tables e below F (T8.setTop (mkF m 201 #[.val (.int p1), .val (.int p2), .val (.int (p1 &&& (7 : Int32))), .val (.ref aPOWER), .val (.int (1 : Int32))] [(.int (1 : Int32)), (.int (1 : Int32))]))
          refine own_st (fun _ k => XS.icmpNo X8.here hx rfl (hb hby at_201) rfl (teq (by decide : (1 : Int32) = (1 : Int32))).2 k) ?_
          show own_Go p.tables e below F (T8.setTop (mkF m 204 #[.val (.int p1), .val (.int p2), .val (.int (p1 &&& (7 : Int32))), .val (.ref aPOWER), .val (.int (1 : Int32))] []))
          refine own_st (fun _ k => XS.iconst X8.here hx rfl (hb hby at_204) k) ?_
          show own_Go p.tables e below F (T8.setTop (mkF m 205 #[.val (.int p1), .val (.int p2), .val (.int (p1 &&& (7 : Int32))), .val (.ref aPOWER), .val (.int (1 : Int32))] [(.int (1 : Int32))]))
          refine own_st (fun _ k => XS.goto X8.here hx rfl (pc0 := 205) (pc' := 209) rfl (hb hby at_205) (by decide) (by decide) k) ?_
          show own_Go p.tables e below F (T8.setTop (mkF m 209 #[.val (.int p1), .val (.int p2), .val (.int (p1 &&& (7 : Int32))), .val (.ref aPOWER), .val (.int (1 : Int32))] [(.int (1 : Int32))]))
          obtain ⟨fs, hrL, hrun, hended, hW, hsame⟩ := X8.leave (v := some (.int (1 : Int32))) (fun h => by rw [Bd.returns] at h; cases h)
          refine own_end hF (o := .returned (some (.int (1 : Int32)))) (retN X8 hx (t := .boolean) Bd.returns (by simp) (hb hby at_209) hrL) ?_
          refine ⟨hrun, hended, _, _, rfl, ?_, ⟨_, rfl⟩, hW, hsame.mono (by decide) (by decide)⟩
          exact ⟨rfl, N8⟩
        ·
          refine own_st (fun _ k => XS.icmpYes X7.here hx rfl (pc0 := 63) (pc' := 70) rfl (hb hby at_63) rfl (feq hc63).2 (by decide) (by decide) k) ?_
          show own_Go p.tables e below F (T7.setTop (mkF m 70 #[.val (.int p1), .val (.int p2), .val (.int (p1 &&& (7 : Int32))), .val (.ref aPOWER), .unset] []))
          refine own_st (fun _ k => XS.iconst X7.here hx rfl (hb hby at_70) k) ?_
          show own_Go p.tables e below F (T7.setTop (mkF m 71 #[.val (.int p1), .val (.int p2), .val (.int (p1 &&& (7 : Int32))), .val (.ref aPOWER), .unset] [(.int (0 : Int32))]))
          refine own_st (fun _ k => XS.istore X7.here hx rfl (hb hby at_71) rfl (l' := #[.val (.int p1), .val (.int p2), .val (.int (p1 &&& (7 : Int32))), .val (.ref aPOWER), .val (.int (0 : Int32))]) rfl k) ?_
          show own_Go p.tables e below F (T7.setTop (mkF m 73 #[.val (.int p1), .val (.int p2), .val (.int (p1 &&& (7 : Int32))), .val (.ref aPOWER), .val (.int (0 : Int32))] []))
          refine own_st (fun _ k => XS.goto X7.here hx rfl (pc0 := 73) (pc' := 194) rfl (hb hby at_73) (by decide) (by decide) k) ?_
          show own_Go p.tables e below F (T7.setTop (mkF m 194 #[.val (.int p1), .val (.int p2), .val (.int (p1 &&& (7 : Int32))), .val (.ref aPOWER), .val (.int (0 : Int32))] []))
          refine own_st (fun _ k => XS.aloadN X7.here hx rfl (hb hby at_194) rfl rfl k) ?_
          show own_Go p.tables e below F (T7.setTop (mkF m 195 #[.val (.int p1), .val (.int p2), .val (.int (p1 &&& (7 : Int32))), .val (.ref aPOWER), .val (.int (0 : Int32))] [(.ref aPOWER)]))
          refine own_st (fun _ k => XS.iloadN X7.here hx rfl (hb hby at_195) rfl k) ?_
          show own_Go p.tables e below F (T7.setTop (mkF m 196 #[.val (.int p1), .val (.int p2), .val (.int (p1 &&& (7 : Int32))), .val (.ref aPOWER), .val (.int (0 : Int32))] [(.int p2), (.ref aPOWER)]))
          obtain ⟨cq9, kq9, q9a, q9b, q9c⟩ := isOf hZ e7 kPOWER.2.1
          obtain ⟨_, _, ⟨T9, L9, k9, n9⟩, -, X9, ⟨Lc9, hQ9, l9, y9, z9⟩, st9⟩ := X7.virtualBack hx (y := (⟨"com/example/log_topic_store/logtopicstore/sql/Function", "takes", "(I)Z"⟩ : MethodName)) (z := (⟨"com/example/log_topic_store/logtopicstore/sql/Function", "takes", "(I)Z"⟩ : MethodName)) hown (mvT hZ (hw _ (List.mem_of_getElem? (i := 3) rfl))) (mvT hZ (hw _ (List.mem_of_getElem? (i := 4) rfl))) (notFace_of_selects (args := #[]) (mvT hZ (hw _ (List.mem_of_getElem? (i := 44) rfl)))) (mvT hZ (hw _ (List.mem_of_getElem? (i := 44) rfl))) (mvT hZ (hw _ (List.mem_of_getElem? (i := 5) rfl))) (by decide) (backOf (W := 0) (own_takes l Z a0 hw [] aPOWER p2 2 2 0 h0 n0 kPOWER.2.2.1 kPOWER.2.2.2 ((if_pos (own_out2 hc63)).symm)) hZ (hw _ (List.mem_of_getElem? (i := 7) rfl)) (hw _ (List.mem_of_getElem? (i := 1) rfl)) (by decide) (by decide)) q9a q9c (g := (mkF m 196 #[.val (.int p1), .val (.int p2), .val (.int (p1 &&& (7 : Int32))), .val (.ref aPOWER), .val (.int (0 : Int32))] [(.int p2), (.ref aPOWER)])) rfl (by rw [hml]; rfl) (Steps.refl _) (argsL := [(.int p2)]) (rest := []) (lenOf pd_0 rfl) rfl (by show 2 * 0 + _ ≤ _; exact Nat.le_of_eq rfl) (hb hby at_196) (fun _ _ => ⟨rfl, e7, (by decide : 0 + 0 ≤ _), (by decide : 0 + 0 ≤ _)⟩)
          dsimp only [Pt.U, Pt.locs, Pt.cells, Pt.slots] at X9 l9 y9 z9 st9 hQ9
          subst l9 y9 z9
          obtain ⟨rfl, N9q, e9⟩ := hQ9
          have N9 := Fr.app N0 N9q
          refine own_st (fun _ k => st9.trans k) ?_
          show own_Go p.tables e below F (T9.setTop (mkF m 199 #[.val (.int p1), .val (.int p2), .val (.int (p1 &&& (7 : Int32))), .val (.ref aPOWER), .val (.int (0 : Int32))] [(.int (0 : Int32))]))
          refine own_st (fun _ k => XS.iload X9.here hx rfl (hb hby at_199) rfl k) ?_
          show own_Go p.tables e below F (T9.setTop (mkF m 201 #[.val (.int p1), .val (.int p2), .val (.int (p1 &&& (7 : Int32))), .val (.ref aPOWER), .val (.int (0 : Int32))] [(.int (0 : Int32)), (.int (0 : Int32))]))
          refine own_st (fun _ k => XS.icmpNo X9.here hx rfl (hb hby at_201) rfl (teq (by decide : (0 : Int32) = (0 : Int32))).2 k) ?_
          show own_Go p.tables e below F (T9.setTop (mkF m 204 #[.val (.int p1), .val (.int p2), .val (.int (p1 &&& (7 : Int32))), .val (.ref aPOWER), .val (.int (0 : Int32))] []))
          refine own_st (fun _ k => XS.iconst X9.here hx rfl (hb hby at_204) k) ?_
          show own_Go p.tables e below F (T9.setTop (mkF m 205 #[.val (.int p1), .val (.int p2), .val (.int (p1 &&& (7 : Int32))), .val (.ref aPOWER), .val (.int (0 : Int32))] [(.int (1 : Int32))]))
          refine own_st (fun _ k => XS.goto X9.here hx rfl (pc0 := 205) (pc' := 209) rfl (hb hby at_205) (by decide) (by decide) k) ?_
          show own_Go p.tables e below F (T9.setTop (mkF m 209 #[.val (.int p1), .val (.int p2), .val (.int (p1 &&& (7 : Int32))), .val (.ref aPOWER), .val (.int (0 : Int32))] [(.int (1 : Int32))]))
          obtain ⟨fs, hrL, hrun, hended, hW, hsame⟩ := X9.leave (v := some (.int (1 : Int32))) (fun h => by rw [Bd.returns] at h; cases h)
          refine own_end hF (o := .returned (some (.int (1 : Int32)))) (retN X9 hx (t := .boolean) Bd.returns (by simp) (hb hby at_209) hrL) ?_
          refine ⟨hrun, hended, _, _, rfl, ?_, ⟨_, rfl⟩, hW, hsame.mono (by decide) (by decide)⟩
          exact ⟨rfl, N9⟩
      ·
        refine own_st (fun _ k => XS.icmpYes X0.here hx rfl (pc0 := 54) (pc' := 76) rfl (hb hby at_54) rfl (feq hc54).2 (by decide) (by decide) k) ?_
        show own_Go p.tables e below F (s₁.setTop (mkF m 76 #[.val (.int p1), .val (.int p2), .val (.int (p1 &&& (7 : Int32))), .unset, .unset] []))
        refine own_st (fun _ k => XS.iloadN X0.here hx rfl (hb hby at_76) rfl k) ?_
        show own_Go p.tables e below F (s₁.setTop (mkF m 77 #[.val (.int p1), .val (.int p2), .val (.int (p1 &&& (7 : Int32))), .unset, .unset] [(.int (p1 &&& (7 : Int32)))]))
        refine own_st (fun _ k => XS.iconst X0.here hx rfl (hb hby at_77) k) ?_
        show own_Go p.tables e below F (s₁.setTop (mkF m 78 #[.val (.int p1), .val (.int p2), .val (.int (p1 &&& (7 : Int32))), .unset, .unset] [(.int (3 : Int32)), (.int (p1 &&& (7 : Int32)))]))
        by_cases hc78 : (p1 &&& (7 : Int32)) = (3 : Int32)
        ·
          refine own_st (fun _ k => XS.icmpNo X0.here hx rfl (hb hby at_78) rfl (teq hc78).2 k) ?_
          show own_Go p.tables e below F (s₁.setTop (mkF m 81 #[.val (.int p1), .val (.int p2), .val (.int (p1 &&& (7 : Int32))), .unset, .unset] []))
          obtain ⟨T10, X10, e10, st10⟩ := getS2 X0 hx hZ hown (host := "") (Or.inl (hw _ (List.mem_of_getElem? (i := 32) rfl))) Via.refl e0 kROUND.1 (g := (mkF m 81 #[.val (.int p1), .val (.int p2), .val (.int (p1 &&& (7 : Int32))), .unset, .unset] [])) rfl (hb hby at_81)
          refine own_st st10 ?_
          show own_Go p.tables e below F (T10.setTop (mkF m 84 #[.val (.int p1), .val (.int p2), .val (.int (p1 &&& (7 : Int32))), .unset, .unset] [(.ref aROUND)]))
          refine own_st (fun _ k => XS.astoreN X10.here hx rfl (hb hby at_84) rfl rfl (l' := #[.val (.int p1), .val (.int p2), .val (.int (p1 &&& (7 : Int32))), .val (.ref aROUND), .unset]) rfl k) ?_
          show own_Go p.tables e below F (T10.setTop (mkF m 85 #[.val (.int p1), .val (.int p2), .val (.int (p1 &&& (7 : Int32))), .val (.ref aROUND), .unset] []))
          refine own_st (fun _ k => XS.iloadN X10.here hx rfl (hb hby at_85) rfl k) ?_
          show own_Go p.tables e below F (T10.setTop (mkF m 86 #[.val (.int p1), .val (.int p2), .val (.int (p1 &&& (7 : Int32))), .val (.ref aROUND), .unset] [(.int p2)]))
          refine own_st (fun _ k => XS.iconst X10.here hx rfl (hb hby at_86) k) ?_
          show own_Go p.tables e below F (T10.setTop (mkF m 87 #[.val (.int p1), .val (.int p2), .val (.int (p1 &&& (7 : Int32))), .val (.ref aROUND), .unset] [(.int (1 : Int32)), (.int p2)]))
          by_cases hc87 : p2 = (1 : Int32)
          ·
            refine own_st (fun _ k => XS.icmpYes X10.here hx rfl (pc0 := 87) (pc' := 95) rfl (hb hby at_87) rfl (teq hc87).1 (by decide) (by decide) k) ?_
            show own_Go p.tables e below F (T10.setTop (mkF m 95 #[.val (.int p1), .val (.int p2), .val (.int (p1 &&& (7 : Int32))), .val (.ref aROUND), .unset] []))
            refine own_st (fun _ k => XS.iconst X10.here hx rfl (hb hby at_95) k) ?_
            show own_Go p.tables e below F (T10.setTop (mkF m 96 #[.val (.int p1), .val (.int p2), .val (.int (p1 &&& (7 : Int32))), .val (.ref aROUND), .unset] [(.int (1 : Int32))]))
            refine own_st (fun _ k => XS.goto X10.here hx rfl (pc0 := 96) (pc' := 100) rfl (hb hby at_96) (by decide) (by decide) k) ?_
            show own_Go p.tables e below F (T10.setTop (mkF m 100 #[.val (.int p1), .val (.int p2), .val (.int (p1 &&& (7 : Int32))), .val (.ref aROUND), .unset] [(.int (1 : Int32))]))
            refine own_st (fun _ k => XS.istore X10.here hx rfl (hb hby at_100) rfl (l' := #[.val (.int p1), .val (.int p2), .val (.int (p1 &&& (7 : Int32))), .val (.ref aROUND), .val (.int (1 : Int32))]) rfl k) ?_
            show own_Go p.tables e below F (T10.setTop (mkF m 102 #[.val (.int p1), .val (.int p2), .val (.int (p1 &&& (7 : Int32))), .val (.ref aROUND), .val (.int (1 : Int32))] []))
            refine own_st (fun _ k => XS.goto X10.here hx rfl (pc0 := 102) (pc' := 194) rfl (hb hby at_102) (by decide) (by decide) k) ?_
            show own_Go p.tables e below F (T10.setTop (mkF m 194 #[.val (.int p1), .val (.int p2), .val (.int (p1 &&& (7 : Int32))), .val (.ref aROUND), .val (.int (1 : Int32))] []))
            refine own_st (fun _ k => XS.aloadN X10.here hx rfl (hb hby at_194) rfl rfl k) ?_
            show own_Go p.tables e below F (T10.setTop (mkF m 195 #[.val (.int p1), .val (.int p2), .val (.int (p1 &&& (7 : Int32))), .val (.ref aROUND), .val (.int (1 : Int32))] [(.ref aROUND)]))
            refine own_st (fun _ k => XS.iloadN X10.here hx rfl (hb hby at_195) rfl k) ?_
            show own_Go p.tables e below F (T10.setTop (mkF m 196 #[.val (.int p1), .val (.int p2), .val (.int (p1 &&& (7 : Int32))), .val (.ref aROUND), .val (.int (1 : Int32))] [(.int p2), (.ref aROUND)]))
            obtain ⟨cq11, kq11, q11a, q11b, q11c⟩ := isOf hZ e10 kROUND.2.1
            obtain ⟨_, _, ⟨T11, L11, k11, n11⟩, -, X11, ⟨Lc11, hQ11, l11, y11, z11⟩, st11⟩ := X10.virtualBack hx (y := (⟨"com/example/log_topic_store/logtopicstore/sql/Function", "takes", "(I)Z"⟩ : MethodName)) (z := (⟨"com/example/log_topic_store/logtopicstore/sql/Function", "takes", "(I)Z"⟩ : MethodName)) hown (mvT hZ (hw _ (List.mem_of_getElem? (i := 3) rfl))) (mvT hZ (hw _ (List.mem_of_getElem? (i := 4) rfl))) (notFace_of_selects (args := #[]) (mvT hZ (hw _ (List.mem_of_getElem? (i := 34) rfl)))) (mvT hZ (hw _ (List.mem_of_getElem? (i := 34) rfl))) (mvT hZ (hw _ (List.mem_of_getElem? (i := 5) rfl))) (by decide) (backOf (W := 0) (own_takes l Z a0 hw [] aROUND p2 1 2 1 h0 n0 kROUND.2.2.1 kROUND.2.2.2 (by rw [hc87]; decide)) hZ (hw _ (List.mem_of_getElem? (i := 7) rfl)) (hw _ (List.mem_of_getElem? (i := 1) rfl)) (by decide) (by decide)) q11a q11c (g := (mkF m 196 #[.val (.int p1), .val (.int p2), .val (.int (p1 &&& (7 : Int32))), .val (.ref aROUND), .val (.int (1 : Int32))] [(.int p2), (.ref aROUND)])) rfl (by rw [hml]; rfl) (Steps.refl _) (argsL := [(.int p2)]) (rest := []) (lenOf pd_0 rfl) rfl (by show 2 * 0 + _ ≤ _; exact Nat.le_of_eq rfl) (hb hby at_196) (fun _ _ => ⟨rfl, e10, (by decide : 0 + 0 ≤ _), (by decide : 0 + 0 ≤ _)⟩)
            dsimp only [Pt.U, Pt.locs, Pt.cells, Pt.slots] at X11 l11 y11 z11 st11 hQ11
            subst l11 y11 z11
            obtain ⟨rfl, N11q, e11⟩ := hQ11
            have N11 := Fr.app N0 N11q
            refine own_st (fun _ k => st11.trans k) ?_
            show own_Go p.tables e below F (T11.setTop (mkF m 199 #[.val (.int p1), .val (.int p2), .val (.int (p1 &&& (7 : Int32))), .val (.ref aROUND), .val (.int (1 : Int32))] [(.int (1 : Int32))]))
            refine own_st (fun _ k => XS.iload X11.here hx rfl (hb hby at_199) rfl k) ?_
            show own_Go p.tables e below F (T11.setTop (mkF m 201 #[.val (.int p1), .val (.int p2), .val (.int (p1 &&& (7 : Int32))), .val (.ref aROUND), .val (.int (1 : Int32))] [(.int (1 : Int32)), (.int (1 : Int32))]))
            refine own_st (fun _ k => XS.icmpNo X11.here hx rfl (hb hby at_201) rfl (teq (by decide : (1 : Int32) = (1 : Int32))).2 k) ?_
            show own_Go p.tables e below F (T11.setTop (mkF m 204 #[.val (.int p1), .val (.int p2), .val (.int (p1 &&& (7 : Int32))), .val (.ref aROUND), .val (.int (1 : Int32))] []))
            refine own_st (fun _ k => XS.iconst X11.here hx rfl (hb hby at_204) k) ?_
            show own_Go p.tables e below F (T11.setTop (mkF m 205 #[.val (.int p1), .val (.int p2), .val (.int (p1 &&& (7 : Int32))), .val (.ref aROUND), .val (.int (1 : Int32))] [(.int (1 : Int32))]))
            refine own_st (fun _ k => XS.goto X11.here hx rfl (pc0 := 205) (pc' := 209) rfl (hb hby at_205) (by decide) (by decide) k) ?_
            show own_Go p.tables e below F (T11.setTop (mkF m 209 #[.val (.int p1), .val (.int p2), .val (.int (p1 &&& (7 : Int32))), .val (.ref aROUND), .val (.int (1 : Int32))] [(.int (1 : Int32))]))
            obtain ⟨fs, hrL, hrun, hended, hW, hsame⟩ := X11.leave (v := some (.int (1 : Int32))) (fun h => by rw [Bd.returns] at h; cases h)
            refine own_end hF (o := .returned (some (.int (1 : Int32)))) (retN X11 hx (t := .boolean) Bd.returns (by simp) (hb hby at_209) hrL) ?_
            refine ⟨hrun, hended, _, _, rfl, ?_, ⟨_, rfl⟩, hW, hsame.mono (by decide) (by decide)⟩
            exact ⟨rfl, N11⟩
          ·
            refine own_st (fun _ k => XS.icmpNo X10.here hx rfl (hb hby at_87) rfl (feq hc87).1 k) ?_
            show own_Go p.tables e below F (T10.setTop (mkF m 90 #[.val (.int p1), .val (.int p2), .val (.int (p1 &&& (7 : Int32))), .val (.ref aROUND), .unset] []))
            refine own_st (fun _ k => XS.iloadN X10.here hx rfl (hb hby at_90) rfl k) ?_
            show own_Go p.tables e below F (T10.setTop (mkF m 91 #[.val (.int p1), .val (.int p2), .val (.int (p1 &&& (7 : Int32))), .val (.ref aROUND), .unset] [(.int p2)]))
            refine own_st (fun _ k => XS.iconst X10.here hx rfl (hb hby at_91) k) ?_
            show own_Go p.tables e below F (T10.setTop (mkF m 92 #[.val (.int p1), .val (.int p2), .val (.int (p1 &&& (7 : Int32))), .val (.ref aROUND), .unset] [(.int (2 : Int32)), (.int p2)]))
            by_cases hc92 : p2 = (2 : Int32)
            ·
              refine own_st (fun _ k => XS.icmpNo X10.here hx rfl (hb hby at_92) rfl (teq hc92).2 k) ?_
              show own_Go p.tables e below F (T10.setTop (mkF m 95 #[.val (.int p1), .val (.int p2), .val (.int (p1 &&& (7 : Int32))), .val (.ref aROUND), .unset] []))
              refine own_st (fun _ k => XS.iconst X10.here hx rfl (hb hby at_95) k) ?_
              show own_Go p.tables e below F (T10.setTop (mkF m 96 #[.val (.int p1), .val (.int p2), .val (.int (p1 &&& (7 : Int32))), .val (.ref aROUND), .unset] [(.int (1 : Int32))]))
              refine own_st (fun _ k => XS.goto X10.here hx rfl (pc0 := 96) (pc' := 100) rfl (hb hby at_96) (by decide) (by decide) k) ?_
              show own_Go p.tables e below F (T10.setTop (mkF m 100 #[.val (.int p1), .val (.int p2), .val (.int (p1 &&& (7 : Int32))), .val (.ref aROUND), .unset] [(.int (1 : Int32))]))
              refine own_st (fun _ k => XS.istore X10.here hx rfl (hb hby at_100) rfl (l' := #[.val (.int p1), .val (.int p2), .val (.int (p1 &&& (7 : Int32))), .val (.ref aROUND), .val (.int (1 : Int32))]) rfl k) ?_
              show own_Go p.tables e below F (T10.setTop (mkF m 102 #[.val (.int p1), .val (.int p2), .val (.int (p1 &&& (7 : Int32))), .val (.ref aROUND), .val (.int (1 : Int32))] []))
              refine own_st (fun _ k => XS.goto X10.here hx rfl (pc0 := 102) (pc' := 194) rfl (hb hby at_102) (by decide) (by decide) k) ?_
              show own_Go p.tables e below F (T10.setTop (mkF m 194 #[.val (.int p1), .val (.int p2), .val (.int (p1 &&& (7 : Int32))), .val (.ref aROUND), .val (.int (1 : Int32))] []))
              refine own_st (fun _ k => XS.aloadN X10.here hx rfl (hb hby at_194) rfl rfl k) ?_
              show own_Go p.tables e below F (T10.setTop (mkF m 195 #[.val (.int p1), .val (.int p2), .val (.int (p1 &&& (7 : Int32))), .val (.ref aROUND), .val (.int (1 : Int32))] [(.ref aROUND)]))
              refine own_st (fun _ k => XS.iloadN X10.here hx rfl (hb hby at_195) rfl k) ?_
              show own_Go p.tables e below F (T10.setTop (mkF m 196 #[.val (.int p1), .val (.int p2), .val (.int (p1 &&& (7 : Int32))), .val (.ref aROUND), .val (.int (1 : Int32))] [(.int p2), (.ref aROUND)]))
              obtain ⟨cq12, kq12, q12a, q12b, q12c⟩ := isOf hZ e10 kROUND.2.1
              obtain ⟨_, _, ⟨T12, L12, k12, n12⟩, -, X12, ⟨Lc12, hQ12, l12, y12, z12⟩, st12⟩ := X10.virtualBack hx (y := (⟨"com/example/log_topic_store/logtopicstore/sql/Function", "takes", "(I)Z"⟩ : MethodName)) (z := (⟨"com/example/log_topic_store/logtopicstore/sql/Function", "takes", "(I)Z"⟩ : MethodName)) hown (mvT hZ (hw _ (List.mem_of_getElem? (i := 3) rfl))) (mvT hZ (hw _ (List.mem_of_getElem? (i := 4) rfl))) (notFace_of_selects (args := #[]) (mvT hZ (hw _ (List.mem_of_getElem? (i := 34) rfl)))) (mvT hZ (hw _ (List.mem_of_getElem? (i := 34) rfl))) (mvT hZ (hw _ (List.mem_of_getElem? (i := 5) rfl))) (by decide) (backOf (W := 0) (own_takes l Z a0 hw [] aROUND p2 1 2 1 h0 n0 kROUND.2.2.1 kROUND.2.2.2 (by rw [hc92]; decide)) hZ (hw _ (List.mem_of_getElem? (i := 7) rfl)) (hw _ (List.mem_of_getElem? (i := 1) rfl)) (by decide) (by decide)) q12a q12c (g := (mkF m 196 #[.val (.int p1), .val (.int p2), .val (.int (p1 &&& (7 : Int32))), .val (.ref aROUND), .val (.int (1 : Int32))] [(.int p2), (.ref aROUND)])) rfl (by rw [hml]; rfl) (Steps.refl _) (argsL := [(.int p2)]) (rest := []) (lenOf pd_0 rfl) rfl (by show 2 * 0 + _ ≤ _; exact Nat.le_of_eq rfl) (hb hby at_196) (fun _ _ => ⟨rfl, e10, (by decide : 0 + 0 ≤ _), (by decide : 0 + 0 ≤ _)⟩)
              dsimp only [Pt.U, Pt.locs, Pt.cells, Pt.slots] at X12 l12 y12 z12 st12 hQ12
              subst l12 y12 z12
              obtain ⟨rfl, N12q, e12⟩ := hQ12
              have N12 := Fr.app N0 N12q
              refine own_st (fun _ k => st12.trans k) ?_
              show own_Go p.tables e below F (T12.setTop (mkF m 199 #[.val (.int p1), .val (.int p2), .val (.int (p1 &&& (7 : Int32))), .val (.ref aROUND), .val (.int (1 : Int32))] [(.int (1 : Int32))]))
              refine own_st (fun _ k => XS.iload X12.here hx rfl (hb hby at_199) rfl k) ?_
              show own_Go p.tables e below F (T12.setTop (mkF m 201 #[.val (.int p1), .val (.int p2), .val (.int (p1 &&& (7 : Int32))), .val (.ref aROUND), .val (.int (1 : Int32))] [(.int (1 : Int32)), (.int (1 : Int32))]))
              refine own_st (fun _ k => XS.icmpNo X12.here hx rfl (hb hby at_201) rfl (teq (by decide : (1 : Int32) = (1 : Int32))).2 k) ?_
              show own_Go p.tables e below F (T12.setTop (mkF m 204 #[.val (.int p1), .val (.int p2), .val (.int (p1 &&& (7 : Int32))), .val (.ref aROUND), .val (.int (1 : Int32))] []))
              refine own_st (fun _ k => XS.iconst X12.here hx rfl (hb hby at_204) k) ?_
              show own_Go p.tables e below F (T12.setTop (mkF m 205 #[.val (.int p1), .val (.int p2), .val (.int (p1 &&& (7 : Int32))), .val (.ref aROUND), .val (.int (1 : Int32))] [(.int (1 : Int32))]))
              refine own_st (fun _ k => XS.goto X12.here hx rfl (pc0 := 205) (pc' := 209) rfl (hb hby at_205) (by decide) (by decide) k) ?_
              show own_Go p.tables e below F (T12.setTop (mkF m 209 #[.val (.int p1), .val (.int p2), .val (.int (p1 &&& (7 : Int32))), .val (.ref aROUND), .val (.int (1 : Int32))] [(.int (1 : Int32))]))
              obtain ⟨fs, hrL, hrun, hended, hW, hsame⟩ := X12.leave (v := some (.int (1 : Int32))) (fun h => by rw [Bd.returns] at h; cases h)
              refine own_end hF (o := .returned (some (.int (1 : Int32)))) (retN X12 hx (t := .boolean) Bd.returns (by simp) (hb hby at_209) hrL) ?_
              refine ⟨hrun, hended, _, _, rfl, ?_, ⟨_, rfl⟩, hW, hsame.mono (by decide) (by decide)⟩
              exact ⟨rfl, N12⟩
            ·
              refine own_st (fun _ k => XS.icmpYes X10.here hx rfl (pc0 := 92) (pc' := 99) rfl (hb hby at_92) rfl (feq hc92).2 (by decide) (by decide) k) ?_
              show own_Go p.tables e below F (T10.setTop (mkF m 99 #[.val (.int p1), .val (.int p2), .val (.int (p1 &&& (7 : Int32))), .val (.ref aROUND), .unset] []))
              refine own_st (fun _ k => XS.iconst X10.here hx rfl (hb hby at_99) k) ?_
              show own_Go p.tables e below F (T10.setTop (mkF m 100 #[.val (.int p1), .val (.int p2), .val (.int (p1 &&& (7 : Int32))), .val (.ref aROUND), .unset] [(.int (0 : Int32))]))
              refine own_st (fun _ k => XS.istore X10.here hx rfl (hb hby at_100) rfl (l' := #[.val (.int p1), .val (.int p2), .val (.int (p1 &&& (7 : Int32))), .val (.ref aROUND), .val (.int (0 : Int32))]) rfl k) ?_
              show own_Go p.tables e below F (T10.setTop (mkF m 102 #[.val (.int p1), .val (.int p2), .val (.int (p1 &&& (7 : Int32))), .val (.ref aROUND), .val (.int (0 : Int32))] []))
              refine own_st (fun _ k => XS.goto X10.here hx rfl (pc0 := 102) (pc' := 194) rfl (hb hby at_102) (by decide) (by decide) k) ?_
              show own_Go p.tables e below F (T10.setTop (mkF m 194 #[.val (.int p1), .val (.int p2), .val (.int (p1 &&& (7 : Int32))), .val (.ref aROUND), .val (.int (0 : Int32))] []))
              refine own_st (fun _ k => XS.aloadN X10.here hx rfl (hb hby at_194) rfl rfl k) ?_
              show own_Go p.tables e below F (T10.setTop (mkF m 195 #[.val (.int p1), .val (.int p2), .val (.int (p1 &&& (7 : Int32))), .val (.ref aROUND), .val (.int (0 : Int32))] [(.ref aROUND)]))
              refine own_st (fun _ k => XS.iloadN X10.here hx rfl (hb hby at_195) rfl k) ?_
              show own_Go p.tables e below F (T10.setTop (mkF m 196 #[.val (.int p1), .val (.int p2), .val (.int (p1 &&& (7 : Int32))), .val (.ref aROUND), .val (.int (0 : Int32))] [(.int p2), (.ref aROUND)]))
              obtain ⟨cq13, kq13, q13a, q13b, q13c⟩ := isOf hZ e10 kROUND.2.1
              obtain ⟨_, _, ⟨T13, L13, k13, n13⟩, -, X13, ⟨Lc13, hQ13, l13, y13, z13⟩, st13⟩ := X10.virtualBack hx (y := (⟨"com/example/log_topic_store/logtopicstore/sql/Function", "takes", "(I)Z"⟩ : MethodName)) (z := (⟨"com/example/log_topic_store/logtopicstore/sql/Function", "takes", "(I)Z"⟩ : MethodName)) hown (mvT hZ (hw _ (List.mem_of_getElem? (i := 3) rfl))) (mvT hZ (hw _ (List.mem_of_getElem? (i := 4) rfl))) (notFace_of_selects (args := #[]) (mvT hZ (hw _ (List.mem_of_getElem? (i := 34) rfl)))) (mvT hZ (hw _ (List.mem_of_getElem? (i := 34) rfl))) (mvT hZ (hw _ (List.mem_of_getElem? (i := 5) rfl))) (by decide) (backOf (W := 0) (own_takes l Z a0 hw [] aROUND p2 1 2 0 h0 n0 kROUND.2.2.1 kROUND.2.2.2 ((if_pos (own_out12 hc87 hc92)).symm)) hZ (hw _ (List.mem_of_getElem? (i := 7) rfl)) (hw _ (List.mem_of_getElem? (i := 1) rfl)) (by decide) (by decide)) q13a q13c (g := (mkF m 196 #[.val (.int p1), .val (.int p2), .val (.int (p1 &&& (7 : Int32))), .val (.ref aROUND), .val (.int (0 : Int32))] [(.int p2), (.ref aROUND)])) rfl (by rw [hml]; rfl) (Steps.refl _) (argsL := [(.int p2)]) (rest := []) (lenOf pd_0 rfl) rfl (by show 2 * 0 + _ ≤ _; exact Nat.le_of_eq rfl) (hb hby at_196) (fun _ _ => ⟨rfl, e10, (by decide : 0 + 0 ≤ _), (by decide : 0 + 0 ≤ _)⟩)
              dsimp only [Pt.U, Pt.locs, Pt.cells, Pt.slots] at X13 l13 y13 z13 st13 hQ13
              subst l13 y13 z13
              obtain ⟨rfl, N13q, e13⟩ := hQ13
              have N13 := Fr.app N0 N13q
              refine own_st (fun _ k => st13.trans k) ?_
              show own_Go p.tables e below F (T13.setTop (mkF m 199 #[.val (.int p1), .val (.int p2), .val (.int (p1 &&& (7 : Int32))), .val (.ref aROUND), .val (.int (0 : Int32))] [(.int (0 : Int32))]))
              refine own_st (fun _ k => XS.iload X13.here hx rfl (hb hby at_199) rfl k) ?_
              show own_Go p.tables e below F (T13.setTop (mkF m 201 #[.val (.int p1), .val (.int p2), .val (.int (p1 &&& (7 : Int32))), .val (.ref aROUND), .val (.int (0 : Int32))] [(.int (0 : Int32)), (.int (0 : Int32))]))
              refine own_st (fun _ k => XS.icmpNo X13.here hx rfl (hb hby at_201) rfl (teq (by decide : (0 : Int32) = (0 : Int32))).2 k) ?_
              show own_Go p.tables e below F (T13.setTop (mkF m 204 #[.val (.int p1), .val (.int p2), .val (.int (p1 &&& (7 : Int32))), .val (.ref aROUND), .val (.int (0 : Int32))] []))
              refine own_st (fun _ k => XS.iconst X13.here hx rfl (hb hby at_204) k) ?_
              show own_Go p.tables e below F (T13.setTop (mkF m 205 #[.val (.int p1), .val (.int p2), .val (.int (p1 &&& (7 : Int32))), .val (.ref aROUND), .val (.int (0 : Int32))] [(.int (1 : Int32))]))
              refine own_st (fun _ k => XS.goto X13.here hx rfl (pc0 := 205) (pc' := 209) rfl (hb hby at_205) (by decide) (by decide) k) ?_
              show own_Go p.tables e below F (T13.setTop (mkF m 209 #[.val (.int p1), .val (.int p2), .val (.int (p1 &&& (7 : Int32))), .val (.ref aROUND), .val (.int (0 : Int32))] [(.int (1 : Int32))]))
              obtain ⟨fs, hrL, hrun, hended, hW, hsame⟩ := X13.leave (v := some (.int (1 : Int32))) (fun h => by rw [Bd.returns] at h; cases h)
              refine own_end hF (o := .returned (some (.int (1 : Int32)))) (retN X13 hx (t := .boolean) Bd.returns (by simp) (hb hby at_209) hrL) ?_
              refine ⟨hrun, hended, _, _, rfl, ?_, ⟨_, rfl⟩, hW, hsame.mono (by decide) (by decide)⟩
              exact ⟨rfl, N13⟩
        ·
          refine own_st (fun _ k => XS.icmpYes X0.here hx rfl (pc0 := 78) (pc' := 105) rfl (hb hby at_78) rfl (feq hc78).2 (by decide) (by decide) k) ?_
          show own_Go p.tables e below F (s₁.setTop (mkF m 105 #[.val (.int p1), .val (.int p2), .val (.int (p1 &&& (7 : Int32))), .unset, .unset] []))
          refine own_st (fun _ k => XS.iloadN X0.here hx rfl (hb hby at_105) rfl k) ?_
          show own_Go p.tables e below F (s₁.setTop (mkF m 106 #[.val (.int p1), .val (.int p2), .val (.int (p1 &&& (7 : Int32))), .unset, .unset] [(.int (p1 &&& (7 : Int32)))]))
          refine own_st (fun _ k => XS.iconst X0.here hx rfl (hb hby at_106) k) ?_
          show own_Go p.tables e below F (s₁.setTop (mkF m 107 #[.val (.int p1), .val (.int p2), .val (.int (p1 &&& (7 : Int32))), .unset, .unset] [(.int (4 : Int32)), (.int (p1 &&& (7 : Int32)))]))
          by_cases hc107 : (p1 &&& (7 : Int32)) = (4 : Int32)
          ·
            refine own_st (fun _ k => XS.icmpNo X0.here hx rfl (hb hby at_107) rfl (teq hc107).2 k) ?_
            show own_Go p.tables e below F (s₁.setTop (mkF m 110 #[.val (.int p1), .val (.int p2), .val (.int (p1 &&& (7 : Int32))), .unset, .unset] []))
            obtain ⟨T14, X14, e14, st14⟩ := getS2 X0 hx hZ hown (host := "") (Or.inl (hw _ (List.mem_of_getElem? (i := 17) rfl))) Via.refl e0 kFLOOR.1 (g := (mkF m 110 #[.val (.int p1), .val (.int p2), .val (.int (p1 &&& (7 : Int32))), .unset, .unset] [])) rfl (hb hby at_110)
            refine own_st st14 ?_
            show own_Go p.tables e below F (T14.setTop (mkF m 113 #[.val (.int p1), .val (.int p2), .val (.int (p1 &&& (7 : Int32))), .unset, .unset] [(.ref aFLOOR)]))
            refine own_st (fun _ k => XS.astoreN X14.here hx rfl (hb hby at_113) rfl rfl (l' := #[.val (.int p1), .val (.int p2), .val (.int (p1 &&& (7 : Int32))), .val (.ref aFLOOR), .unset]) rfl k) ?_
            show own_Go p.tables e below F (T14.setTop (mkF m 114 #[.val (.int p1), .val (.int p2), .val (.int (p1 &&& (7 : Int32))), .val (.ref aFLOOR), .unset] []))
            refine own_st (fun _ k => XS.iloadN X14.here hx rfl (hb hby at_114) rfl k) ?_
            show own_Go p.tables e below F (T14.setTop (mkF m 115 #[.val (.int p1), .val (.int p2), .val (.int (p1 &&& (7 : Int32))), .val (.ref aFLOOR), .unset] [(.int p2)]))
            refine own_st (fun _ k => XS.iconst X14.here hx rfl (hb hby at_115) k) ?_
            show own_Go p.tables e below F (T14.setTop (mkF m 116 #[.val (.int p1), .val (.int p2), .val (.int (p1 &&& (7 : Int32))), .val (.ref aFLOOR), .unset] [(.int (1 : Int32)), (.int p2)]))
            by_cases hc116 : p2 = (1 : Int32)
            ·
              refine own_st (fun _ k => XS.icmpNo X14.here hx rfl (hb hby at_116) rfl (teq hc116).2 k) ?_
              show own_Go p.tables e below F (T14.setTop (mkF m 119 #[.val (.int p1), .val (.int p2), .val (.int (p1 &&& (7 : Int32))), .val (.ref aFLOOR), .unset] []))
              refine own_st (fun _ k => XS.iconst X14.here hx rfl (hb hby at_119) k) ?_
              show own_Go p.tables e below F (T14.setTop (mkF m 120 #[.val (.int p1), .val (.int p2), .val (.int (p1 &&& (7 : Int32))), .val (.ref aFLOOR), .unset] [(.int (1 : Int32))]))
              refine own_st (fun _ k => XS.goto X14.here hx rfl (pc0 := 120) (pc' := 124) rfl (hb hby at_120) (by decide) (by decide) k) ?_
              show own_Go p.tables e below F (T14.setTop (mkF m 124 #[.val (.int p1), .val (.int p2), .val (.int (p1 &&& (7 : Int32))), .val (.ref aFLOOR), .unset] [(.int (1 : Int32))]))
              refine own_st (fun _ k => XS.istore X14.here hx rfl (hb hby at_124) rfl (l' := #[.val (.int p1), .val (.int p2), .val (.int (p1 &&& (7 : Int32))), .val (.ref aFLOOR), .val (.int (1 : Int32))]) rfl k) ?_
              show own_Go p.tables e below F (T14.setTop (mkF m 126 #[.val (.int p1), .val (.int p2), .val (.int (p1 &&& (7 : Int32))), .val (.ref aFLOOR), .val (.int (1 : Int32))] []))
              refine own_st (fun _ k => XS.goto X14.here hx rfl (pc0 := 126) (pc' := 194) rfl (hb hby at_126) (by decide) (by decide) k) ?_
              show own_Go p.tables e below F (T14.setTop (mkF m 194 #[.val (.int p1), .val (.int p2), .val (.int (p1 &&& (7 : Int32))), .val (.ref aFLOOR), .val (.int (1 : Int32))] []))
              refine own_st (fun _ k => XS.aloadN X14.here hx rfl (hb hby at_194) rfl rfl k) ?_
              show own_Go p.tables e below F (T14.setTop (mkF m 195 #[.val (.int p1), .val (.int p2), .val (.int (p1 &&& (7 : Int32))), .val (.ref aFLOOR), .val (.int (1 : Int32))] [(.ref aFLOOR)]))
              refine own_st (fun _ k => XS.iloadN X14.here hx rfl (hb hby at_195) rfl k) ?_
              show own_Go p.tables e below F (T14.setTop (mkF m 196 #[.val (.int p1), .val (.int p2), .val (.int (p1 &&& (7 : Int32))), .val (.ref aFLOOR), .val (.int (1 : Int32))] [(.int p2), (.ref aFLOOR)]))
              obtain ⟨cq15, kq15, q15a, q15b, q15c⟩ := isOf hZ e14 kFLOOR.2.1
              obtain ⟨_, _, ⟨T15, L15, k15, n15⟩, -, X15, ⟨Lc15, hQ15, l15, y15, z15⟩, st15⟩ := X14.virtualBack hx (y := (⟨"com/example/log_topic_store/logtopicstore/sql/Function", "takes", "(I)Z"⟩ : MethodName)) (z := (⟨"com/example/log_topic_store/logtopicstore/sql/Function", "takes", "(I)Z"⟩ : MethodName)) hown (mvT hZ (hw _ (List.mem_of_getElem? (i := 3) rfl))) (mvT hZ (hw _ (List.mem_of_getElem? (i := 4) rfl))) (notFace_of_selects (args := #[]) (mvT hZ (hw _ (List.mem_of_getElem? (i := 19) rfl)))) (mvT hZ (hw _ (List.mem_of_getElem? (i := 19) rfl))) (mvT hZ (hw _ (List.mem_of_getElem? (i := 5) rfl))) (by decide) (backOf (W := 0) (own_takes l Z a0 hw [] aFLOOR p2 1 1 1 h0 n0 kFLOOR.2.2.1 kFLOOR.2.2.2 (by rw [hc116]; decide)) hZ (hw _ (List.mem_of_getElem? (i := 7) rfl)) (hw _ (List.mem_of_getElem? (i := 1) rfl)) (by decide) (by decide)) q15a q15c (g := (mkF m 196 #[.val (.int p1), .val (.int p2), .val (.int (p1 &&& (7 : Int32))), .val (.ref aFLOOR), .val (.int (1 : Int32))] [(.int p2), (.ref aFLOOR)])) rfl (by rw [hml]; rfl) (Steps.refl _) (argsL := [(.int p2)]) (rest := []) (lenOf pd_0 rfl) rfl (by show 2 * 0 + _ ≤ _; exact Nat.le_of_eq rfl) (hb hby at_196) (fun _ _ => ⟨rfl, e14, (by decide : 0 + 0 ≤ _), (by decide : 0 + 0 ≤ _)⟩)
              dsimp only [Pt.U, Pt.locs, Pt.cells, Pt.slots] at X15 l15 y15 z15 st15 hQ15
              subst l15 y15 z15
              obtain ⟨rfl, N15q, e15⟩ := hQ15
              have N15 := Fr.app N0 N15q
              refine own_st (fun _ k => st15.trans k) ?_
              show own_Go p.tables e below F (T15.setTop (mkF m 199 #[.val (.int p1), .val (.int p2), .val (.int (p1 &&& (7 : Int32))), .val (.ref aFLOOR), .val (.int (1 : Int32))] [(.int (1 : Int32))]))
              refine own_st (fun _ k => XS.iload X15.here hx rfl (hb hby at_199) rfl k) ?_
              show own_Go p.tables e below F (T15.setTop (mkF m 201 #[.val (.int p1), .val (.int p2), .val (.int (p1 &&& (7 : Int32))), .val (.ref aFLOOR), .val (.int (1 : Int32))] [(.int (1 : Int32)), (.int (1 : Int32))]))
              refine own_st (fun _ k => XS.icmpNo X15.here hx rfl (hb hby at_201) rfl (teq (by decide : (1 : Int32) = (1 : Int32))).2 k) ?_
              show own_Go p.tables e below F (T15.setTop (mkF m 204 #[.val (.int p1), .val (.int p2), .val (.int (p1 &&& (7 : Int32))), .val (.ref aFLOOR), .val (.int (1 : Int32))] []))
              refine own_st (fun _ k => XS.iconst X15.here hx rfl (hb hby at_204) k) ?_
              show own_Go p.tables e below F (T15.setTop (mkF m 205 #[.val (.int p1), .val (.int p2), .val (.int (p1 &&& (7 : Int32))), .val (.ref aFLOOR), .val (.int (1 : Int32))] [(.int (1 : Int32))]))
              refine own_st (fun _ k => XS.goto X15.here hx rfl (pc0 := 205) (pc' := 209) rfl (hb hby at_205) (by decide) (by decide) k) ?_
              show own_Go p.tables e below F (T15.setTop (mkF m 209 #[.val (.int p1), .val (.int p2), .val (.int (p1 &&& (7 : Int32))), .val (.ref aFLOOR), .val (.int (1 : Int32))] [(.int (1 : Int32))]))
              obtain ⟨fs, hrL, hrun, hended, hW, hsame⟩ := X15.leave (v := some (.int (1 : Int32))) (fun h => by rw [Bd.returns] at h; cases h)
              refine own_end hF (o := .returned (some (.int (1 : Int32)))) (retN X15 hx (t := .boolean) Bd.returns (by simp) (hb hby at_209) hrL) ?_
              refine ⟨hrun, hended, _, _, rfl, ?_, ⟨_, rfl⟩, hW, hsame.mono (by decide) (by decide)⟩
              exact ⟨rfl, N15⟩
            ·
              refine own_st (fun _ k => XS.icmpYes X14.here hx rfl (pc0 := 116) (pc' := 123) rfl (hb hby at_116) rfl (feq hc116).2 (by decide) (by decide) k) ?_
              show own_Go p.tables e below F (T14.setTop (mkF m 123 #[.val (.int p1), .val (.int p2), .val (.int (p1 &&& (7 : Int32))), .val (.ref aFLOOR), .unset] []))
              refine own_st (fun _ k => XS.iconst X14.here hx rfl (hb hby at_123) k) ?_
              show own_Go p.tables e below F (T14.setTop (mkF m 124 #[.val (.int p1), .val (.int p2), .val (.int (p1 &&& (7 : Int32))), .val (.ref aFLOOR), .unset] [(.int (0 : Int32))]))
              refine own_st (fun _ k => XS.istore X14.here hx rfl (hb hby at_124) rfl (l' := #[.val (.int p1), .val (.int p2), .val (.int (p1 &&& (7 : Int32))), .val (.ref aFLOOR), .val (.int (0 : Int32))]) rfl k) ?_
              show own_Go p.tables e below F (T14.setTop (mkF m 126 #[.val (.int p1), .val (.int p2), .val (.int (p1 &&& (7 : Int32))), .val (.ref aFLOOR), .val (.int (0 : Int32))] []))
              refine own_st (fun _ k => XS.goto X14.here hx rfl (pc0 := 126) (pc' := 194) rfl (hb hby at_126) (by decide) (by decide) k) ?_
              show own_Go p.tables e below F (T14.setTop (mkF m 194 #[.val (.int p1), .val (.int p2), .val (.int (p1 &&& (7 : Int32))), .val (.ref aFLOOR), .val (.int (0 : Int32))] []))
              refine own_st (fun _ k => XS.aloadN X14.here hx rfl (hb hby at_194) rfl rfl k) ?_
              show own_Go p.tables e below F (T14.setTop (mkF m 195 #[.val (.int p1), .val (.int p2), .val (.int (p1 &&& (7 : Int32))), .val (.ref aFLOOR), .val (.int (0 : Int32))] [(.ref aFLOOR)]))
              refine own_st (fun _ k => XS.iloadN X14.here hx rfl (hb hby at_195) rfl k) ?_
              show own_Go p.tables e below F (T14.setTop (mkF m 196 #[.val (.int p1), .val (.int p2), .val (.int (p1 &&& (7 : Int32))), .val (.ref aFLOOR), .val (.int (0 : Int32))] [(.int p2), (.ref aFLOOR)]))
              obtain ⟨cq16, kq16, q16a, q16b, q16c⟩ := isOf hZ e14 kFLOOR.2.1
              obtain ⟨_, _, ⟨T16, L16, k16, n16⟩, -, X16, ⟨Lc16, hQ16, l16, y16, z16⟩, st16⟩ := X14.virtualBack hx (y := (⟨"com/example/log_topic_store/logtopicstore/sql/Function", "takes", "(I)Z"⟩ : MethodName)) (z := (⟨"com/example/log_topic_store/logtopicstore/sql/Function", "takes", "(I)Z"⟩ : MethodName)) hown (mvT hZ (hw _ (List.mem_of_getElem? (i := 3) rfl))) (mvT hZ (hw _ (List.mem_of_getElem? (i := 4) rfl))) (notFace_of_selects (args := #[]) (mvT hZ (hw _ (List.mem_of_getElem? (i := 19) rfl)))) (mvT hZ (hw _ (List.mem_of_getElem? (i := 19) rfl))) (mvT hZ (hw _ (List.mem_of_getElem? (i := 5) rfl))) (by decide) (backOf (W := 0) (own_takes l Z a0 hw [] aFLOOR p2 1 1 0 h0 n0 kFLOOR.2.2.1 kFLOOR.2.2.2 ((if_pos (own_out1 hc116)).symm)) hZ (hw _ (List.mem_of_getElem? (i := 7) rfl)) (hw _ (List.mem_of_getElem? (i := 1) rfl)) (by decide) (by decide)) q16a q16c (g := (mkF m 196 #[.val (.int p1), .val (.int p2), .val (.int (p1 &&& (7 : Int32))), .val (.ref aFLOOR), .val (.int (0 : Int32))] [(.int p2), (.ref aFLOOR)])) rfl (by rw [hml]; rfl) (Steps.refl _) (argsL := [(.int p2)]) (rest := []) (lenOf pd_0 rfl) rfl (by show 2 * 0 + _ ≤ _; exact Nat.le_of_eq rfl) (hb hby at_196) (fun _ _ => ⟨rfl, e14, (by decide : 0 + 0 ≤ _), (by decide : 0 + 0 ≤ _)⟩)
              dsimp only [Pt.U, Pt.locs, Pt.cells, Pt.slots] at X16 l16 y16 z16 st16 hQ16
              subst l16 y16 z16
              obtain ⟨rfl, N16q, e16⟩ := hQ16
              have N16 := Fr.app N0 N16q
              refine own_st (fun _ k => st16.trans k) ?_
              show own_Go p.tables e below F (T16.setTop (mkF m 199 #[.val (.int p1), .val (.int p2), .val (.int (p1 &&& (7 : Int32))), .val (.ref aFLOOR), .val (.int (0 : Int32))] [(.int (0 : Int32))]))
              refine own_st (fun _ k => XS.iload X16.here hx rfl (hb hby at_199) rfl k) ?_
              show own_Go p.tables e below F (T16.setTop (mkF m 201 #[.val (.int p1), .val (.int p2), .val (.int (p1 &&& (7 : Int32))), .val (.ref aFLOOR), .val (.int (0 : Int32))] [(.int (0 : Int32)), (.int (0 : Int32))]))
              refine own_st (fun _ k => XS.icmpNo X16.here hx rfl (hb hby at_201) rfl (teq (by decide : (0 : Int32) = (0 : Int32))).2 k) ?_
              show own_Go p.tables e below F (T16.setTop (mkF m 204 #[.val (.int p1), .val (.int p2), .val (.int (p1 &&& (7 : Int32))), .val (.ref aFLOOR), .val (.int (0 : Int32))] []))
              refine own_st (fun _ k => XS.iconst X16.here hx rfl (hb hby at_204) k) ?_
              show own_Go p.tables e below F (T16.setTop (mkF m 205 #[.val (.int p1), .val (.int p2), .val (.int (p1 &&& (7 : Int32))), .val (.ref aFLOOR), .val (.int (0 : Int32))] [(.int (1 : Int32))]))
              refine own_st (fun _ k => XS.goto X16.here hx rfl (pc0 := 205) (pc' := 209) rfl (hb hby at_205) (by decide) (by decide) k) ?_
              show own_Go p.tables e below F (T16.setTop (mkF m 209 #[.val (.int p1), .val (.int p2), .val (.int (p1 &&& (7 : Int32))), .val (.ref aFLOOR), .val (.int (0 : Int32))] [(.int (1 : Int32))]))
              obtain ⟨fs, hrL, hrun, hended, hW, hsame⟩ := X16.leave (v := some (.int (1 : Int32))) (fun h => by rw [Bd.returns] at h; cases h)
              refine own_end hF (o := .returned (some (.int (1 : Int32)))) (retN X16 hx (t := .boolean) Bd.returns (by simp) (hb hby at_209) hrL) ?_
              refine ⟨hrun, hended, _, _, rfl, ?_, ⟨_, rfl⟩, hW, hsame.mono (by decide) (by decide)⟩
              exact ⟨rfl, N16⟩
          ·
            refine own_st (fun _ k => XS.icmpYes X0.here hx rfl (pc0 := 107) (pc' := 129) rfl (hb hby at_107) rfl (feq hc107).2 (by decide) (by decide) k) ?_
            show own_Go p.tables e below F (s₁.setTop (mkF m 129 #[.val (.int p1), .val (.int p2), .val (.int (p1 &&& (7 : Int32))), .unset, .unset] []))
            refine own_st (fun _ k => XS.iloadN X0.here hx rfl (hb hby at_129) rfl k) ?_
            show own_Go p.tables e below F (s₁.setTop (mkF m 130 #[.val (.int p1), .val (.int p2), .val (.int (p1 &&& (7 : Int32))), .unset, .unset] [(.int (p1 &&& (7 : Int32)))]))
            refine own_st (fun _ k => XS.iconst X0.here hx rfl (hb hby at_130) k) ?_
            show own_Go p.tables e below F (s₁.setTop (mkF m 131 #[.val (.int p1), .val (.int p2), .val (.int (p1 &&& (7 : Int32))), .unset, .unset] [(.int (5 : Int32)), (.int (p1 &&& (7 : Int32)))]))
            by_cases hc131 : (p1 &&& (7 : Int32)) = (5 : Int32)
            ·
              refine own_st (fun _ k => XS.icmpNo X0.here hx rfl (hb hby at_131) rfl (teq hc131).2 k) ?_
              show own_Go p.tables e below F (s₁.setTop (mkF m 134 #[.val (.int p1), .val (.int p2), .val (.int (p1 &&& (7 : Int32))), .unset, .unset] []))
              obtain ⟨T17, X17, e17, st17⟩ := getS2 X0 hx hZ hown (host := "") (Or.inl (hw _ (List.mem_of_getElem? (i := 22) rfl))) Via.refl e0 kLN.1 (g := (mkF m 134 #[.val (.int p1), .val (.int p2), .val (.int (p1 &&& (7 : Int32))), .unset, .unset] [])) rfl (hb hby at_134)
              refine own_st st17 ?_
              show own_Go p.tables e below F (T17.setTop (mkF m 137 #[.val (.int p1), .val (.int p2), .val (.int (p1 &&& (7 : Int32))), .unset, .unset] [(.ref aLN)]))
              refine own_st (fun _ k => XS.astoreN X17.here hx rfl (hb hby at_137) rfl rfl (l' := #[.val (.int p1), .val (.int p2), .val (.int (p1 &&& (7 : Int32))), .val (.ref aLN), .unset]) rfl k) ?_
              show own_Go p.tables e below F (T17.setTop (mkF m 138 #[.val (.int p1), .val (.int p2), .val (.int (p1 &&& (7 : Int32))), .val (.ref aLN), .unset] []))
              refine own_st (fun _ k => XS.iloadN X17.here hx rfl (hb hby at_138) rfl k) ?_
              show own_Go p.tables e below F (T17.setTop (mkF m 139 #[.val (.int p1), .val (.int p2), .val (.int (p1 &&& (7 : Int32))), .val (.ref aLN), .unset] [(.int p2)]))
              refine own_st (fun _ k => XS.iconst X17.here hx rfl (hb hby at_139) k) ?_
              show own_Go p.tables e below F (T17.setTop (mkF m 140 #[.val (.int p1), .val (.int p2), .val (.int (p1 &&& (7 : Int32))), .val (.ref aLN), .unset] [(.int (1 : Int32)), (.int p2)]))
              by_cases hc140 : p2 = (1 : Int32)
              ·
                refine own_st (fun _ k => XS.icmpNo X17.here hx rfl (hb hby at_140) rfl (teq hc140).2 k) ?_
                show own_Go p.tables e below F (T17.setTop (mkF m 143 #[.val (.int p1), .val (.int p2), .val (.int (p1 &&& (7 : Int32))), .val (.ref aLN), .unset] []))
                refine own_st (fun _ k => XS.iconst X17.here hx rfl (hb hby at_143) k) ?_
                show own_Go p.tables e below F (T17.setTop (mkF m 144 #[.val (.int p1), .val (.int p2), .val (.int (p1 &&& (7 : Int32))), .val (.ref aLN), .unset] [(.int (1 : Int32))]))
                refine own_st (fun _ k => XS.goto X17.here hx rfl (pc0 := 144) (pc' := 148) rfl (hb hby at_144) (by decide) (by decide) k) ?_
                show own_Go p.tables e below F (T17.setTop (mkF m 148 #[.val (.int p1), .val (.int p2), .val (.int (p1 &&& (7 : Int32))), .val (.ref aLN), .unset] [(.int (1 : Int32))]))
                refine own_st (fun _ k => XS.istore X17.here hx rfl (hb hby at_148) rfl (l' := #[.val (.int p1), .val (.int p2), .val (.int (p1 &&& (7 : Int32))), .val (.ref aLN), .val (.int (1 : Int32))]) rfl k) ?_
                show own_Go p.tables e below F (T17.setTop (mkF m 150 #[.val (.int p1), .val (.int p2), .val (.int (p1 &&& (7 : Int32))), .val (.ref aLN), .val (.int (1 : Int32))] []))
                refine own_st (fun _ k => XS.goto X17.here hx rfl (pc0 := 150) (pc' := 194) rfl (hb hby at_150) (by decide) (by decide) k) ?_
                show own_Go p.tables e below F (T17.setTop (mkF m 194 #[.val (.int p1), .val (.int p2), .val (.int (p1 &&& (7 : Int32))), .val (.ref aLN), .val (.int (1 : Int32))] []))
                refine own_st (fun _ k => XS.aloadN X17.here hx rfl (hb hby at_194) rfl rfl k) ?_
                show own_Go p.tables e below F (T17.setTop (mkF m 195 #[.val (.int p1), .val (.int p2), .val (.int (p1 &&& (7 : Int32))), .val (.ref aLN), .val (.int (1 : Int32))] [(.ref aLN)]))
                refine own_st (fun _ k => XS.iloadN X17.here hx rfl (hb hby at_195) rfl k) ?_
                show own_Go p.tables e below F (T17.setTop (mkF m 196 #[.val (.int p1), .val (.int p2), .val (.int (p1 &&& (7 : Int32))), .val (.ref aLN), .val (.int (1 : Int32))] [(.int p2), (.ref aLN)]))
                obtain ⟨cq18, kq18, q18a, q18b, q18c⟩ := isOf hZ e17 kLN.2.1
                obtain ⟨_, _, ⟨T18, L18, k18, n18⟩, -, X18, ⟨Lc18, hQ18, l18, y18, z18⟩, st18⟩ := X17.virtualBack hx (y := (⟨"com/example/log_topic_store/logtopicstore/sql/Function", "takes", "(I)Z"⟩ : MethodName)) (z := (⟨"com/example/log_topic_store/logtopicstore/sql/Function", "takes", "(I)Z"⟩ : MethodName)) hown (mvT hZ (hw _ (List.mem_of_getElem? (i := 3) rfl))) (mvT hZ (hw _ (List.mem_of_getElem? (i := 4) rfl))) (notFace_of_selects (args := #[]) (mvT hZ (hw _ (List.mem_of_getElem? (i := 24) rfl)))) (mvT hZ (hw _ (List.mem_of_getElem? (i := 24) rfl))) (mvT hZ (hw _ (List.mem_of_getElem? (i := 5) rfl))) (by decide) (backOf (W := 0) (own_takes l Z a0 hw [] aLN p2 1 1 1 h0 n0 kLN.2.2.1 kLN.2.2.2 (by rw [hc140]; decide)) hZ (hw _ (List.mem_of_getElem? (i := 7) rfl)) (hw _ (List.mem_of_getElem? (i := 1) rfl)) (by decide) (by decide)) q18a q18c (g := (mkF m 196 #[.val (.int p1), .val (.int p2), .val (.int (p1 &&& (7 : Int32))), .val (.ref aLN), .val (.int (1 : Int32))] [(.int p2), (.ref aLN)])) rfl (by rw [hml]; rfl) (Steps.refl _) (argsL := [(.int p2)]) (rest := []) (lenOf pd_0 rfl) rfl (by show 2 * 0 + _ ≤ _; exact Nat.le_of_eq rfl) (hb hby at_196) (fun _ _ => ⟨rfl, e17, (by decide : 0 + 0 ≤ _), (by decide : 0 + 0 ≤ _)⟩)
                dsimp only [Pt.U, Pt.locs, Pt.cells, Pt.slots] at X18 l18 y18 z18 st18 hQ18
                subst l18 y18 z18
                obtain ⟨rfl, N18q, e18⟩ := hQ18
                have N18 := Fr.app N0 N18q
                refine own_st (fun _ k => st18.trans k) ?_
                show own_Go p.tables e below F (T18.setTop (mkF m 199 #[.val (.int p1), .val (.int p2), .val (.int (p1 &&& (7 : Int32))), .val (.ref aLN), .val (.int (1 : Int32))] [(.int (1 : Int32))]))
                refine own_st (fun _ k => XS.iload X18.here hx rfl (hb hby at_199) rfl k) ?_
                show own_Go p.tables e below F (T18.setTop (mkF m 201 #[.val (.int p1), .val (.int p2), .val (.int (p1 &&& (7 : Int32))), .val (.ref aLN), .val (.int (1 : Int32))] [(.int (1 : Int32)), (.int (1 : Int32))]))
                refine own_st (fun _ k => XS.icmpNo X18.here hx rfl (hb hby at_201) rfl (teq (by decide : (1 : Int32) = (1 : Int32))).2 k) ?_
                show own_Go p.tables e below F (T18.setTop (mkF m 204 #[.val (.int p1), .val (.int p2), .val (.int (p1 &&& (7 : Int32))), .val (.ref aLN), .val (.int (1 : Int32))] []))
                refine own_st (fun _ k => XS.iconst X18.here hx rfl (hb hby at_204) k) ?_
                show own_Go p.tables e below F (T18.setTop (mkF m 205 #[.val (.int p1), .val (.int p2), .val (.int (p1 &&& (7 : Int32))), .val (.ref aLN), .val (.int (1 : Int32))] [(.int (1 : Int32))]))
                refine own_st (fun _ k => XS.goto X18.here hx rfl (pc0 := 205) (pc' := 209) rfl (hb hby at_205) (by decide) (by decide) k) ?_
                show own_Go p.tables e below F (T18.setTop (mkF m 209 #[.val (.int p1), .val (.int p2), .val (.int (p1 &&& (7 : Int32))), .val (.ref aLN), .val (.int (1 : Int32))] [(.int (1 : Int32))]))
                obtain ⟨fs, hrL, hrun, hended, hW, hsame⟩ := X18.leave (v := some (.int (1 : Int32))) (fun h => by rw [Bd.returns] at h; cases h)
                refine own_end hF (o := .returned (some (.int (1 : Int32)))) (retN X18 hx (t := .boolean) Bd.returns (by simp) (hb hby at_209) hrL) ?_
                refine ⟨hrun, hended, _, _, rfl, ?_, ⟨_, rfl⟩, hW, hsame.mono (by decide) (by decide)⟩
                exact ⟨rfl, N18⟩
              ·
                refine own_st (fun _ k => XS.icmpYes X17.here hx rfl (pc0 := 140) (pc' := 147) rfl (hb hby at_140) rfl (feq hc140).2 (by decide) (by decide) k) ?_
                show own_Go p.tables e below F (T17.setTop (mkF m 147 #[.val (.int p1), .val (.int p2), .val (.int (p1 &&& (7 : Int32))), .val (.ref aLN), .unset] []))
                refine own_st (fun _ k => XS.iconst X17.here hx rfl (hb hby at_147) k) ?_
                show own_Go p.tables e below F (T17.setTop (mkF m 148 #[.val (.int p1), .val (.int p2), .val (.int (p1 &&& (7 : Int32))), .val (.ref aLN), .unset] [(.int (0 : Int32))]))
                refine own_st (fun _ k => XS.istore X17.here hx rfl (hb hby at_148) rfl (l' := #[.val (.int p1), .val (.int p2), .val (.int (p1 &&& (7 : Int32))), .val (.ref aLN), .val (.int (0 : Int32))]) rfl k) ?_
                show own_Go p.tables e below F (T17.setTop (mkF m 150 #[.val (.int p1), .val (.int p2), .val (.int (p1 &&& (7 : Int32))), .val (.ref aLN), .val (.int (0 : Int32))] []))
                refine own_st (fun _ k => XS.goto X17.here hx rfl (pc0 := 150) (pc' := 194) rfl (hb hby at_150) (by decide) (by decide) k) ?_
                show own_Go p.tables e below F (T17.setTop (mkF m 194 #[.val (.int p1), .val (.int p2), .val (.int (p1 &&& (7 : Int32))), .val (.ref aLN), .val (.int (0 : Int32))] []))
                refine own_st (fun _ k => XS.aloadN X17.here hx rfl (hb hby at_194) rfl rfl k) ?_
                show own_Go p.tables e below F (T17.setTop (mkF m 195 #[.val (.int p1), .val (.int p2), .val (.int (p1 &&& (7 : Int32))), .val (.ref aLN), .val (.int (0 : Int32))] [(.ref aLN)]))
                refine own_st (fun _ k => XS.iloadN X17.here hx rfl (hb hby at_195) rfl k) ?_
                show own_Go p.tables e below F (T17.setTop (mkF m 196 #[.val (.int p1), .val (.int p2), .val (.int (p1 &&& (7 : Int32))), .val (.ref aLN), .val (.int (0 : Int32))] [(.int p2), (.ref aLN)]))
                obtain ⟨cq19, kq19, q19a, q19b, q19c⟩ := isOf hZ e17 kLN.2.1
                obtain ⟨_, _, ⟨T19, L19, k19, n19⟩, -, X19, ⟨Lc19, hQ19, l19, y19, z19⟩, st19⟩ := X17.virtualBack hx (y := (⟨"com/example/log_topic_store/logtopicstore/sql/Function", "takes", "(I)Z"⟩ : MethodName)) (z := (⟨"com/example/log_topic_store/logtopicstore/sql/Function", "takes", "(I)Z"⟩ : MethodName)) hown (mvT hZ (hw _ (List.mem_of_getElem? (i := 3) rfl))) (mvT hZ (hw _ (List.mem_of_getElem? (i := 4) rfl))) (notFace_of_selects (args := #[]) (mvT hZ (hw _ (List.mem_of_getElem? (i := 24) rfl)))) (mvT hZ (hw _ (List.mem_of_getElem? (i := 24) rfl))) (mvT hZ (hw _ (List.mem_of_getElem? (i := 5) rfl))) (by decide) (backOf (W := 0) (own_takes l Z a0 hw [] aLN p2 1 1 0 h0 n0 kLN.2.2.1 kLN.2.2.2 ((if_pos (own_out1 hc140)).symm)) hZ (hw _ (List.mem_of_getElem? (i := 7) rfl)) (hw _ (List.mem_of_getElem? (i := 1) rfl)) (by decide) (by decide)) q19a q19c (g := (mkF m 196 #[.val (.int p1), .val (.int p2), .val (.int (p1 &&& (7 : Int32))), .val (.ref aLN), .val (.int (0 : Int32))] [(.int p2), (.ref aLN)])) rfl (by rw [hml]; rfl) (Steps.refl _) (argsL := [(.int p2)]) (rest := []) (lenOf pd_0 rfl) rfl (by show 2 * 0 + _ ≤ _; exact Nat.le_of_eq rfl) (hb hby at_196) (fun _ _ => ⟨rfl, e17, (by decide : 0 + 0 ≤ _), (by decide : 0 + 0 ≤ _)⟩)
                dsimp only [Pt.U, Pt.locs, Pt.cells, Pt.slots] at X19 l19 y19 z19 st19 hQ19
                subst l19 y19 z19
                obtain ⟨rfl, N19q, e19⟩ := hQ19
                have N19 := Fr.app N0 N19q
                refine own_st (fun _ k => st19.trans k) ?_
                show own_Go p.tables e below F (T19.setTop (mkF m 199 #[.val (.int p1), .val (.int p2), .val (.int (p1 &&& (7 : Int32))), .val (.ref aLN), .val (.int (0 : Int32))] [(.int (0 : Int32))]))
                refine own_st (fun _ k => XS.iload X19.here hx rfl (hb hby at_199) rfl k) ?_
                show own_Go p.tables e below F (T19.setTop (mkF m 201 #[.val (.int p1), .val (.int p2), .val (.int (p1 &&& (7 : Int32))), .val (.ref aLN), .val (.int (0 : Int32))] [(.int (0 : Int32)), (.int (0 : Int32))]))
                refine own_st (fun _ k => XS.icmpNo X19.here hx rfl (hb hby at_201) rfl (teq (by decide : (0 : Int32) = (0 : Int32))).2 k) ?_
                show own_Go p.tables e below F (T19.setTop (mkF m 204 #[.val (.int p1), .val (.int p2), .val (.int (p1 &&& (7 : Int32))), .val (.ref aLN), .val (.int (0 : Int32))] []))
                refine own_st (fun _ k => XS.iconst X19.here hx rfl (hb hby at_204) k) ?_
                show own_Go p.tables e below F (T19.setTop (mkF m 205 #[.val (.int p1), .val (.int p2), .val (.int (p1 &&& (7 : Int32))), .val (.ref aLN), .val (.int (0 : Int32))] [(.int (1 : Int32))]))
                refine own_st (fun _ k => XS.goto X19.here hx rfl (pc0 := 205) (pc' := 209) rfl (hb hby at_205) (by decide) (by decide) k) ?_
                show own_Go p.tables e below F (T19.setTop (mkF m 209 #[.val (.int p1), .val (.int p2), .val (.int (p1 &&& (7 : Int32))), .val (.ref aLN), .val (.int (0 : Int32))] [(.int (1 : Int32))]))
                obtain ⟨fs, hrL, hrun, hended, hW, hsame⟩ := X19.leave (v := some (.int (1 : Int32))) (fun h => by rw [Bd.returns] at h; cases h)
                refine own_end hF (o := .returned (some (.int (1 : Int32)))) (retN X19 hx (t := .boolean) Bd.returns (by simp) (hb hby at_209) hrL) ?_
                refine ⟨hrun, hended, _, _, rfl, ?_, ⟨_, rfl⟩, hW, hsame.mono (by decide) (by decide)⟩
                exact ⟨rfl, N19⟩
            ·
              refine own_st (fun _ k => XS.icmpYes X0.here hx rfl (pc0 := 131) (pc' := 153) rfl (hb hby at_131) rfl (feq hc131).2 (by decide) (by decide) k) ?_
              show own_Go p.tables e below F (s₁.setTop (mkF m 153 #[.val (.int p1), .val (.int p2), .val (.int (p1 &&& (7 : Int32))), .unset, .unset] []))
              refine own_st (fun _ k => XS.iloadN X0.here hx rfl (hb hby at_153) rfl k) ?_
              show own_Go p.tables e below F (s₁.setTop (mkF m 154 #[.val (.int p1), .val (.int p2), .val (.int (p1 &&& (7 : Int32))), .unset, .unset] [(.int (p1 &&& (7 : Int32)))]))
              refine own_st (fun _ k => XS.bipush X0.here hx rfl (hb hby at_154) k) ?_
              show own_Go p.tables e below F (s₁.setTop (mkF m 156 #[.val (.int p1), .val (.int p2), .val (.int (p1 &&& (7 : Int32))), .unset, .unset] [(.int (6 : Int32)), (.int (p1 &&& (7 : Int32)))]))
              by_cases hc156 : (p1 &&& (7 : Int32)) = (6 : Int32)
              ·
                refine own_st (fun _ k => XS.icmpNo X0.here hx rfl (hb hby at_156) rfl (teq hc156).2 k) ?_
                show own_Go p.tables e below F (s₁.setTop (mkF m 159 #[.val (.int p1), .val (.int p2), .val (.int (p1 &&& (7 : Int32))), .unset, .unset] []))
                obtain ⟨T20, X20, e20, st20⟩ := getS2 X0 hx hZ hown (host := "") (Or.inl (hw _ (List.mem_of_getElem? (i := 12) rfl))) Via.refl e0 kLOG.1 (g := (mkF m 159 #[.val (.int p1), .val (.int p2), .val (.int (p1 &&& (7 : Int32))), .unset, .unset] [])) rfl (hb hby at_159)
                refine own_st st20 ?_
                show own_Go p.tables e below F (T20.setTop (mkF m 162 #[.val (.int p1), .val (.int p2), .val (.int (p1 &&& (7 : Int32))), .unset, .unset] [(.ref aLOG)]))
                refine own_st (fun _ k => XS.astoreN X20.here hx rfl (hb hby at_162) rfl rfl (l' := #[.val (.int p1), .val (.int p2), .val (.int (p1 &&& (7 : Int32))), .val (.ref aLOG), .unset]) rfl k) ?_
                show own_Go p.tables e below F (T20.setTop (mkF m 163 #[.val (.int p1), .val (.int p2), .val (.int (p1 &&& (7 : Int32))), .val (.ref aLOG), .unset] []))
                refine own_st (fun _ k => XS.iloadN X20.here hx rfl (hb hby at_163) rfl k) ?_
                show own_Go p.tables e below F (T20.setTop (mkF m 164 #[.val (.int p1), .val (.int p2), .val (.int (p1 &&& (7 : Int32))), .val (.ref aLOG), .unset] [(.int p2)]))
                refine own_st (fun _ k => XS.iconst X20.here hx rfl (hb hby at_164) k) ?_
                show own_Go p.tables e below F (T20.setTop (mkF m 165 #[.val (.int p1), .val (.int p2), .val (.int (p1 &&& (7 : Int32))), .val (.ref aLOG), .unset] [(.int (1 : Int32)), (.int p2)]))
                by_cases hc165 : p2 = (1 : Int32)
                ·
                  refine own_st (fun _ k => XS.icmpNo X20.here hx rfl (hb hby at_165) rfl (teq hc165).2 k) ?_
                  show own_Go p.tables e below F (T20.setTop (mkF m 168 #[.val (.int p1), .val (.int p2), .val (.int (p1 &&& (7 : Int32))), .val (.ref aLOG), .unset] []))
                  refine own_st (fun _ k => XS.iconst X20.here hx rfl (hb hby at_168) k) ?_
                  show own_Go p.tables e below F (T20.setTop (mkF m 169 #[.val (.int p1), .val (.int p2), .val (.int (p1 &&& (7 : Int32))), .val (.ref aLOG), .unset] [(.int (1 : Int32))]))
                  refine own_st (fun _ k => XS.goto X20.here hx rfl (pc0 := 169) (pc' := 173) rfl (hb hby at_169) (by decide) (by decide) k) ?_
                  show own_Go p.tables e below F (T20.setTop (mkF m 173 #[.val (.int p1), .val (.int p2), .val (.int (p1 &&& (7 : Int32))), .val (.ref aLOG), .unset] [(.int (1 : Int32))]))
                  refine own_st (fun _ k => XS.istore X20.here hx rfl (hb hby at_173) rfl (l' := #[.val (.int p1), .val (.int p2), .val (.int (p1 &&& (7 : Int32))), .val (.ref aLOG), .val (.int (1 : Int32))]) rfl k) ?_
                  show own_Go p.tables e below F (T20.setTop (mkF m 175 #[.val (.int p1), .val (.int p2), .val (.int (p1 &&& (7 : Int32))), .val (.ref aLOG), .val (.int (1 : Int32))] []))
                  refine own_st (fun _ k => XS.goto X20.here hx rfl (pc0 := 175) (pc' := 194) rfl (hb hby at_175) (by decide) (by decide) k) ?_
                  show own_Go p.tables e below F (T20.setTop (mkF m 194 #[.val (.int p1), .val (.int p2), .val (.int (p1 &&& (7 : Int32))), .val (.ref aLOG), .val (.int (1 : Int32))] []))
                  refine own_st (fun _ k => XS.aloadN X20.here hx rfl (hb hby at_194) rfl rfl k) ?_
                  show own_Go p.tables e below F (T20.setTop (mkF m 195 #[.val (.int p1), .val (.int p2), .val (.int (p1 &&& (7 : Int32))), .val (.ref aLOG), .val (.int (1 : Int32))] [(.ref aLOG)]))
                  refine own_st (fun _ k => XS.iloadN X20.here hx rfl (hb hby at_195) rfl k) ?_
                  show own_Go p.tables e below F (T20.setTop (mkF m 196 #[.val (.int p1), .val (.int p2), .val (.int (p1 &&& (7 : Int32))), .val (.ref aLOG), .val (.int (1 : Int32))] [(.int p2), (.ref aLOG)]))
                  obtain ⟨cq21, kq21, q21a, q21b, q21c⟩ := isOf hZ e20 kLOG.2.1
                  obtain ⟨_, _, ⟨T21, L21, k21, n21⟩, -, X21, ⟨Lc21, hQ21, l21, y21, z21⟩, st21⟩ := X20.virtualBack hx (y := (⟨"com/example/log_topic_store/logtopicstore/sql/Function", "takes", "(I)Z"⟩ : MethodName)) (z := (⟨"com/example/log_topic_store/logtopicstore/sql/Function", "takes", "(I)Z"⟩ : MethodName)) hown (mvT hZ (hw _ (List.mem_of_getElem? (i := 3) rfl))) (mvT hZ (hw _ (List.mem_of_getElem? (i := 4) rfl))) (notFace_of_selects (args := #[]) (mvT hZ (hw _ (List.mem_of_getElem? (i := 14) rfl)))) (mvT hZ (hw _ (List.mem_of_getElem? (i := 14) rfl))) (mvT hZ (hw _ (List.mem_of_getElem? (i := 5) rfl))) (by decide) (backOf (W := 0) (own_takes l Z a0 hw [] aLOG p2 1 1 1 h0 n0 kLOG.2.2.1 kLOG.2.2.2 (by rw [hc165]; decide)) hZ (hw _ (List.mem_of_getElem? (i := 7) rfl)) (hw _ (List.mem_of_getElem? (i := 1) rfl)) (by decide) (by decide)) q21a q21c (g := (mkF m 196 #[.val (.int p1), .val (.int p2), .val (.int (p1 &&& (7 : Int32))), .val (.ref aLOG), .val (.int (1 : Int32))] [(.int p2), (.ref aLOG)])) rfl (by rw [hml]; rfl) (Steps.refl _) (argsL := [(.int p2)]) (rest := []) (lenOf pd_0 rfl) rfl (by show 2 * 0 + _ ≤ _; exact Nat.le_of_eq rfl) (hb hby at_196) (fun _ _ => ⟨rfl, e20, (by decide : 0 + 0 ≤ _), (by decide : 0 + 0 ≤ _)⟩)
                  dsimp only [Pt.U, Pt.locs, Pt.cells, Pt.slots] at X21 l21 y21 z21 st21 hQ21
                  subst l21 y21 z21
                  obtain ⟨rfl, N21q, e21⟩ := hQ21
                  have N21 := Fr.app N0 N21q
                  refine own_st (fun _ k => st21.trans k) ?_
                  show own_Go p.tables e below F (T21.setTop (mkF m 199 #[.val (.int p1), .val (.int p2), .val (.int (p1 &&& (7 : Int32))), .val (.ref aLOG), .val (.int (1 : Int32))] [(.int (1 : Int32))]))
                  refine own_st (fun _ k => XS.iload X21.here hx rfl (hb hby at_199) rfl k) ?_
                  show own_Go p.tables e below F (T21.setTop (mkF m 201 #[.val (.int p1), .val (.int p2), .val (.int (p1 &&& (7 : Int32))), .val (.ref aLOG), .val (.int (1 : Int32))] [(.int (1 : Int32)), (.int (1 : Int32))]))
                  refine own_st (fun _ k => XS.icmpNo X21.here hx rfl (hb hby at_201) rfl (teq (by decide : (1 : Int32) = (1 : Int32))).2 k) ?_
                  show own_Go p.tables e below F (T21.setTop (mkF m 204 #[.val (.int p1), .val (.int p2), .val (.int (p1 &&& (7 : Int32))), .val (.ref aLOG), .val (.int (1 : Int32))] []))
                  refine own_st (fun _ k => XS.iconst X21.here hx rfl (hb hby at_204) k) ?_
                  show own_Go p.tables e below F (T21.setTop (mkF m 205 #[.val (.int p1), .val (.int p2), .val (.int (p1 &&& (7 : Int32))), .val (.ref aLOG), .val (.int (1 : Int32))] [(.int (1 : Int32))]))
                  refine own_st (fun _ k => XS.goto X21.here hx rfl (pc0 := 205) (pc' := 209) rfl (hb hby at_205) (by decide) (by decide) k) ?_
                  show own_Go p.tables e below F (T21.setTop (mkF m 209 #[.val (.int p1), .val (.int p2), .val (.int (p1 &&& (7 : Int32))), .val (.ref aLOG), .val (.int (1 : Int32))] [(.int (1 : Int32))]))
                  obtain ⟨fs, hrL, hrun, hended, hW, hsame⟩ := X21.leave (v := some (.int (1 : Int32))) (fun h => by rw [Bd.returns] at h; cases h)
                  refine own_end hF (o := .returned (some (.int (1 : Int32)))) (retN X21 hx (t := .boolean) Bd.returns (by simp) (hb hby at_209) hrL) ?_
                  refine ⟨hrun, hended, _, _, rfl, ?_, ⟨_, rfl⟩, hW, hsame.mono (by decide) (by decide)⟩
                  exact ⟨rfl, N21⟩
                ·
                  refine own_st (fun _ k => XS.icmpYes X20.here hx rfl (pc0 := 165) (pc' := 172) rfl (hb hby at_165) rfl (feq hc165).2 (by decide) (by decide) k) ?_
                  show own_Go p.tables e below F (T20.setTop (mkF m 172 #[.val (.int p1), .val (.int p2), .val (.int (p1 &&& (7 : Int32))), .val (.ref aLOG), .unset] []))
                  refine own_st (fun _ k => XS.iconst X20.here hx rfl (hb hby at_172) k) ?_
                  show own_Go p.tables e below F (T20.setTop (mkF m 173 #[.val (.int p1), .val (.int p2), .val (.int (p1 &&& (7 : Int32))), .val (.ref aLOG), .unset] [(.int (0 : Int32))]))
                  refine own_st (fun _ k => XS.istore X20.here hx rfl (hb hby at_173) rfl (l' := #[.val (.int p1), .val (.int p2), .val (.int (p1 &&& (7 : Int32))), .val (.ref aLOG), .val (.int (0 : Int32))]) rfl k) ?_
                  show own_Go p.tables e below F (T20.setTop (mkF m 175 #[.val (.int p1), .val (.int p2), .val (.int (p1 &&& (7 : Int32))), .val (.ref aLOG), .val (.int (0 : Int32))] []))
                  refine own_st (fun _ k => XS.goto X20.here hx rfl (pc0 := 175) (pc' := 194) rfl (hb hby at_175) (by decide) (by decide) k) ?_
                  show own_Go p.tables e below F (T20.setTop (mkF m 194 #[.val (.int p1), .val (.int p2), .val (.int (p1 &&& (7 : Int32))), .val (.ref aLOG), .val (.int (0 : Int32))] []))
                  refine own_st (fun _ k => XS.aloadN X20.here hx rfl (hb hby at_194) rfl rfl k) ?_
                  show own_Go p.tables e below F (T20.setTop (mkF m 195 #[.val (.int p1), .val (.int p2), .val (.int (p1 &&& (7 : Int32))), .val (.ref aLOG), .val (.int (0 : Int32))] [(.ref aLOG)]))
                  refine own_st (fun _ k => XS.iloadN X20.here hx rfl (hb hby at_195) rfl k) ?_
                  show own_Go p.tables e below F (T20.setTop (mkF m 196 #[.val (.int p1), .val (.int p2), .val (.int (p1 &&& (7 : Int32))), .val (.ref aLOG), .val (.int (0 : Int32))] [(.int p2), (.ref aLOG)]))
                  obtain ⟨cq22, kq22, q22a, q22b, q22c⟩ := isOf hZ e20 kLOG.2.1
                  obtain ⟨_, _, ⟨T22, L22, k22, n22⟩, -, X22, ⟨Lc22, hQ22, l22, y22, z22⟩, st22⟩ := X20.virtualBack hx (y := (⟨"com/example/log_topic_store/logtopicstore/sql/Function", "takes", "(I)Z"⟩ : MethodName)) (z := (⟨"com/example/log_topic_store/logtopicstore/sql/Function", "takes", "(I)Z"⟩ : MethodName)) hown (mvT hZ (hw _ (List.mem_of_getElem? (i := 3) rfl))) (mvT hZ (hw _ (List.mem_of_getElem? (i := 4) rfl))) (notFace_of_selects (args := #[]) (mvT hZ (hw _ (List.mem_of_getElem? (i := 14) rfl)))) (mvT hZ (hw _ (List.mem_of_getElem? (i := 14) rfl))) (mvT hZ (hw _ (List.mem_of_getElem? (i := 5) rfl))) (by decide) (backOf (W := 0) (own_takes l Z a0 hw [] aLOG p2 1 1 0 h0 n0 kLOG.2.2.1 kLOG.2.2.2 ((if_pos (own_out1 hc165)).symm)) hZ (hw _ (List.mem_of_getElem? (i := 7) rfl)) (hw _ (List.mem_of_getElem? (i := 1) rfl)) (by decide) (by decide)) q22a q22c (g := (mkF m 196 #[.val (.int p1), .val (.int p2), .val (.int (p1 &&& (7 : Int32))), .val (.ref aLOG), .val (.int (0 : Int32))] [(.int p2), (.ref aLOG)])) rfl (by rw [hml]; rfl) (Steps.refl _) (argsL := [(.int p2)]) (rest := []) (lenOf pd_0 rfl) rfl (by show 2 * 0 + _ ≤ _; exact Nat.le_of_eq rfl) (hb hby at_196) (fun _ _ => ⟨rfl, e20, (by decide : 0 + 0 ≤ _), (by decide : 0 + 0 ≤ _)⟩)
                  dsimp only [Pt.U, Pt.locs, Pt.cells, Pt.slots] at X22 l22 y22 z22 st22 hQ22
                  subst l22 y22 z22
                  obtain ⟨rfl, N22q, e22⟩ := hQ22
                  have N22 := Fr.app N0 N22q
                  refine own_st (fun _ k => st22.trans k) ?_
                  show own_Go p.tables e below F (T22.setTop (mkF m 199 #[.val (.int p1), .val (.int p2), .val (.int (p1 &&& (7 : Int32))), .val (.ref aLOG), .val (.int (0 : Int32))] [(.int (0 : Int32))]))
                  refine own_st (fun _ k => XS.iload X22.here hx rfl (hb hby at_199) rfl k) ?_
                  show own_Go p.tables e below F (T22.setTop (mkF m 201 #[.val (.int p1), .val (.int p2), .val (.int (p1 &&& (7 : Int32))), .val (.ref aLOG), .val (.int (0 : Int32))] [(.int (0 : Int32)), (.int (0 : Int32))]))
                  refine own_st (fun _ k => XS.icmpNo X22.here hx rfl (hb hby at_201) rfl (teq (by decide : (0 : Int32) = (0 : Int32))).2 k) ?_
                  show own_Go p.tables e below F (T22.setTop (mkF m 204 #[.val (.int p1), .val (.int p2), .val (.int (p1 &&& (7 : Int32))), .val (.ref aLOG), .val (.int (0 : Int32))] []))
                  refine own_st (fun _ k => XS.iconst X22.here hx rfl (hb hby at_204) k) ?_
                  show own_Go p.tables e below F (T22.setTop (mkF m 205 #[.val (.int p1), .val (.int p2), .val (.int (p1 &&& (7 : Int32))), .val (.ref aLOG), .val (.int (0 : Int32))] [(.int (1 : Int32))]))
                  refine own_st (fun _ k => XS.goto X22.here hx rfl (pc0 := 205) (pc' := 209) rfl (hb hby at_205) (by decide) (by decide) k) ?_
                  show own_Go p.tables e below F (T22.setTop (mkF m 209 #[.val (.int p1), .val (.int p2), .val (.int (p1 &&& (7 : Int32))), .val (.ref aLOG), .val (.int (0 : Int32))] [(.int (1 : Int32))]))
                  obtain ⟨fs, hrL, hrun, hended, hW, hsame⟩ := X22.leave (v := some (.int (1 : Int32))) (fun h => by rw [Bd.returns] at h; cases h)
                  refine own_end hF (o := .returned (some (.int (1 : Int32)))) (retN X22 hx (t := .boolean) Bd.returns (by simp) (hb hby at_209) hrL) ?_
                  refine ⟨hrun, hended, _, _, rfl, ?_, ⟨_, rfl⟩, hW, hsame.mono (by decide) (by decide)⟩
                  exact ⟨rfl, N22⟩
              ·
                refine own_st (fun _ k => XS.icmpYes X0.here hx rfl (pc0 := 156) (pc' := 178) rfl (hb hby at_156) rfl (feq hc156).2 (by decide) (by decide) k) ?_
                show own_Go p.tables e below F (s₁.setTop (mkF m 178 #[.val (.int p1), .val (.int p2), .val (.int (p1 &&& (7 : Int32))), .unset, .unset] []))
                obtain ⟨T23, X23, e23, st23⟩ := getS2 X0 hx hZ hown (host := "") (Or.inl (hw _ (List.mem_of_getElem? (i := 27) rfl))) Via.refl e0 kLOG10.1 (g := (mkF m 178 #[.val (.int p1), .val (.int p2), .val (.int (p1 &&& (7 : Int32))), .unset, .unset] [])) rfl (hb hby at_178)
                refine own_st st23 ?_
                show own_Go p.tables e below F (T23.setTop (mkF m 181 #[.val (.int p1), .val (.int p2), .val (.int (p1 &&& (7 : Int32))), .unset, .unset] [(.ref aLOG10)]))
                refine own_st (fun _ k => XS.astoreN X23.here hx rfl (hb hby at_181) rfl rfl (l' := #[.val (.int p1), .val (.int p2), .val (.int (p1 &&& (7 : Int32))), .val (.ref aLOG10), .unset]) rfl k) ?_
                show own_Go p.tables e below F (T23.setTop (mkF m 182 #[.val (.int p1), .val (.int p2), .val (.int (p1 &&& (7 : Int32))), .val (.ref aLOG10), .unset] []))
                refine own_st (fun _ k => XS.iloadN X23.here hx rfl (hb hby at_182) rfl k) ?_
                show own_Go p.tables e below F (T23.setTop (mkF m 183 #[.val (.int p1), .val (.int p2), .val (.int (p1 &&& (7 : Int32))), .val (.ref aLOG10), .unset] [(.int p2)]))
                refine own_st (fun _ k => XS.iconst X23.here hx rfl (hb hby at_183) k) ?_
                show own_Go p.tables e below F (T23.setTop (mkF m 184 #[.val (.int p1), .val (.int p2), .val (.int (p1 &&& (7 : Int32))), .val (.ref aLOG10), .unset] [(.int (1 : Int32)), (.int p2)]))
                by_cases hc184 : p2 = (1 : Int32)
                ·
                  refine own_st (fun _ k => XS.icmpNo X23.here hx rfl (hb hby at_184) rfl (teq hc184).2 k) ?_
                  show own_Go p.tables e below F (T23.setTop (mkF m 187 #[.val (.int p1), .val (.int p2), .val (.int (p1 &&& (7 : Int32))), .val (.ref aLOG10), .unset] []))
                  refine own_st (fun _ k => XS.iconst X23.here hx rfl (hb hby at_187) k) ?_
                  show own_Go p.tables e below F (T23.setTop (mkF m 188 #[.val (.int p1), .val (.int p2), .val (.int (p1 &&& (7 : Int32))), .val (.ref aLOG10), .unset] [(.int (1 : Int32))]))
                  refine own_st (fun _ k => XS.goto X23.here hx rfl (pc0 := 188) (pc' := 192) rfl (hb hby at_188) (by decide) (by decide) k) ?_
                  show own_Go p.tables e below F (T23.setTop (mkF m 192 #[.val (.int p1), .val (.int p2), .val (.int (p1 &&& (7 : Int32))), .val (.ref aLOG10), .unset] [(.int (1 : Int32))]))
                  refine own_st (fun _ k => XS.istore X23.here hx rfl (hb hby at_192) rfl (l' := #[.val (.int p1), .val (.int p2), .val (.int (p1 &&& (7 : Int32))), .val (.ref aLOG10), .val (.int (1 : Int32))]) rfl k) ?_
                  show own_Go p.tables e below F (T23.setTop (mkF m 194 #[.val (.int p1), .val (.int p2), .val (.int (p1 &&& (7 : Int32))), .val (.ref aLOG10), .val (.int (1 : Int32))] []))
                  refine own_st (fun _ k => XS.aloadN X23.here hx rfl (hb hby at_194) rfl rfl k) ?_
                  show own_Go p.tables e below F (T23.setTop (mkF m 195 #[.val (.int p1), .val (.int p2), .val (.int (p1 &&& (7 : Int32))), .val (.ref aLOG10), .val (.int (1 : Int32))] [(.ref aLOG10)]))
                  refine own_st (fun _ k => XS.iloadN X23.here hx rfl (hb hby at_195) rfl k) ?_
                  show own_Go p.tables e below F (T23.setTop (mkF m 196 #[.val (.int p1), .val (.int p2), .val (.int (p1 &&& (7 : Int32))), .val (.ref aLOG10), .val (.int (1 : Int32))] [(.int p2), (.ref aLOG10)]))
                  obtain ⟨cq24, kq24, q24a, q24b, q24c⟩ := isOf hZ e23 kLOG10.2.1
                  obtain ⟨_, _, ⟨T24, L24, k24, n24⟩, -, X24, ⟨Lc24, hQ24, l24, y24, z24⟩, st24⟩ := X23.virtualBack hx (y := (⟨"com/example/log_topic_store/logtopicstore/sql/Function", "takes", "(I)Z"⟩ : MethodName)) (z := (⟨"com/example/log_topic_store/logtopicstore/sql/Function", "takes", "(I)Z"⟩ : MethodName)) hown (mvT hZ (hw _ (List.mem_of_getElem? (i := 3) rfl))) (mvT hZ (hw _ (List.mem_of_getElem? (i := 4) rfl))) (notFace_of_selects (args := #[]) (mvT hZ (hw _ (List.mem_of_getElem? (i := 29) rfl)))) (mvT hZ (hw _ (List.mem_of_getElem? (i := 29) rfl))) (mvT hZ (hw _ (List.mem_of_getElem? (i := 5) rfl))) (by decide) (backOf (W := 0) (own_takes l Z a0 hw [] aLOG10 p2 1 1 1 h0 n0 kLOG10.2.2.1 kLOG10.2.2.2 (by rw [hc184]; decide)) hZ (hw _ (List.mem_of_getElem? (i := 7) rfl)) (hw _ (List.mem_of_getElem? (i := 1) rfl)) (by decide) (by decide)) q24a q24c (g := (mkF m 196 #[.val (.int p1), .val (.int p2), .val (.int (p1 &&& (7 : Int32))), .val (.ref aLOG10), .val (.int (1 : Int32))] [(.int p2), (.ref aLOG10)])) rfl (by rw [hml]; rfl) (Steps.refl _) (argsL := [(.int p2)]) (rest := []) (lenOf pd_0 rfl) rfl (by show 2 * 0 + _ ≤ _; exact Nat.le_of_eq rfl) (hb hby at_196) (fun _ _ => ⟨rfl, e23, (by decide : 0 + 0 ≤ _), (by decide : 0 + 0 ≤ _)⟩)
                  dsimp only [Pt.U, Pt.locs, Pt.cells, Pt.slots] at X24 l24 y24 z24 st24 hQ24
                  subst l24 y24 z24
                  obtain ⟨rfl, N24q, e24⟩ := hQ24
                  have N24 := Fr.app N0 N24q
                  refine own_st (fun _ k => st24.trans k) ?_
                  show own_Go p.tables e below F (T24.setTop (mkF m 199 #[.val (.int p1), .val (.int p2), .val (.int (p1 &&& (7 : Int32))), .val (.ref aLOG10), .val (.int (1 : Int32))] [(.int (1 : Int32))]))
                  refine own_st (fun _ k => XS.iload X24.here hx rfl (hb hby at_199) rfl k) ?_
                  show own_Go p.tables e below F (T24.setTop (mkF m 201 #[.val (.int p1), .val (.int p2), .val (.int (p1 &&& (7 : Int32))), .val (.ref aLOG10), .val (.int (1 : Int32))] [(.int (1 : Int32)), (.int (1 : Int32))]))
                  refine own_st (fun _ k => XS.icmpNo X24.here hx rfl (hb hby at_201) rfl (teq (by decide : (1 : Int32) = (1 : Int32))).2 k) ?_
                  show own_Go p.tables e below F (T24.setTop (mkF m 204 #[.val (.int p1), .val (.int p2), .val (.int (p1 &&& (7 : Int32))), .val (.ref aLOG10), .val (.int (1 : Int32))] []))
                  refine own_st (fun _ k => XS.iconst X24.here hx rfl (hb hby at_204) k) ?_
                  show own_Go p.tables e below F (T24.setTop (mkF m 205 #[.val (.int p1), .val (.int p2), .val (.int (p1 &&& (7 : Int32))), .val (.ref aLOG10), .val (.int (1 : Int32))] [(.int (1 : Int32))]))
                  refine own_st (fun _ k => XS.goto X24.here hx rfl (pc0 := 205) (pc' := 209) rfl (hb hby at_205) (by decide) (by decide) k) ?_
                  show own_Go p.tables e below F (T24.setTop (mkF m 209 #[.val (.int p1), .val (.int p2), .val (.int (p1 &&& (7 : Int32))), .val (.ref aLOG10), .val (.int (1 : Int32))] [(.int (1 : Int32))]))
                  obtain ⟨fs, hrL, hrun, hended, hW, hsame⟩ := X24.leave (v := some (.int (1 : Int32))) (fun h => by rw [Bd.returns] at h; cases h)
                  refine own_end hF (o := .returned (some (.int (1 : Int32)))) (retN X24 hx (t := .boolean) Bd.returns (by simp) (hb hby at_209) hrL) ?_
                  refine ⟨hrun, hended, _, _, rfl, ?_, ⟨_, rfl⟩, hW, hsame.mono (by decide) (by decide)⟩
                  exact ⟨rfl, N24⟩
                ·
                  refine own_st (fun _ k => XS.icmpYes X23.here hx rfl (pc0 := 184) (pc' := 191) rfl (hb hby at_184) rfl (feq hc184).2 (by decide) (by decide) k) ?_
                  show own_Go p.tables e below F (T23.setTop (mkF m 191 #[.val (.int p1), .val (.int p2), .val (.int (p1 &&& (7 : Int32))), .val (.ref aLOG10), .unset] []))
                  refine own_st (fun _ k => XS.iconst X23.here hx rfl (hb hby at_191) k) ?_
                  show own_Go p.tables e below F (T23.setTop (mkF m 192 #[.val (.int p1), .val (.int p2), .val (.int (p1 &&& (7 : Int32))), .val (.ref aLOG10), .unset] [(.int (0 : Int32))]))
                  refine own_st (fun _ k => XS.istore X23.here hx rfl (hb hby at_192) rfl (l' := #[.val (.int p1), .val (.int p2), .val (.int (p1 &&& (7 : Int32))), .val (.ref aLOG10), .val (.int (0 : Int32))]) rfl k) ?_
                  show own_Go p.tables e below F (T23.setTop (mkF m 194 #[.val (.int p1), .val (.int p2), .val (.int (p1 &&& (7 : Int32))), .val (.ref aLOG10), .val (.int (0 : Int32))] []))
                  refine own_st (fun _ k => XS.aloadN X23.here hx rfl (hb hby at_194) rfl rfl k) ?_
                  show own_Go p.tables e below F (T23.setTop (mkF m 195 #[.val (.int p1), .val (.int p2), .val (.int (p1 &&& (7 : Int32))), .val (.ref aLOG10), .val (.int (0 : Int32))] [(.ref aLOG10)]))
                  refine own_st (fun _ k => XS.iloadN X23.here hx rfl (hb hby at_195) rfl k) ?_
                  show own_Go p.tables e below F (T23.setTop (mkF m 196 #[.val (.int p1), .val (.int p2), .val (.int (p1 &&& (7 : Int32))), .val (.ref aLOG10), .val (.int (0 : Int32))] [(.int p2), (.ref aLOG10)]))
                  obtain ⟨cq25, kq25, q25a, q25b, q25c⟩ := isOf hZ e23 kLOG10.2.1
                  obtain ⟨_, _, ⟨T25, L25, k25, n25⟩, -, X25, ⟨Lc25, hQ25, l25, y25, z25⟩, st25⟩ := X23.virtualBack hx (y := (⟨"com/example/log_topic_store/logtopicstore/sql/Function", "takes", "(I)Z"⟩ : MethodName)) (z := (⟨"com/example/log_topic_store/logtopicstore/sql/Function", "takes", "(I)Z"⟩ : MethodName)) hown (mvT hZ (hw _ (List.mem_of_getElem? (i := 3) rfl))) (mvT hZ (hw _ (List.mem_of_getElem? (i := 4) rfl))) (notFace_of_selects (args := #[]) (mvT hZ (hw _ (List.mem_of_getElem? (i := 29) rfl)))) (mvT hZ (hw _ (List.mem_of_getElem? (i := 29) rfl))) (mvT hZ (hw _ (List.mem_of_getElem? (i := 5) rfl))) (by decide) (backOf (W := 0) (own_takes l Z a0 hw [] aLOG10 p2 1 1 0 h0 n0 kLOG10.2.2.1 kLOG10.2.2.2 ((if_pos (own_out1 hc184)).symm)) hZ (hw _ (List.mem_of_getElem? (i := 7) rfl)) (hw _ (List.mem_of_getElem? (i := 1) rfl)) (by decide) (by decide)) q25a q25c (g := (mkF m 196 #[.val (.int p1), .val (.int p2), .val (.int (p1 &&& (7 : Int32))), .val (.ref aLOG10), .val (.int (0 : Int32))] [(.int p2), (.ref aLOG10)])) rfl (by rw [hml]; rfl) (Steps.refl _) (argsL := [(.int p2)]) (rest := []) (lenOf pd_0 rfl) rfl (by show 2 * 0 + _ ≤ _; exact Nat.le_of_eq rfl) (hb hby at_196) (fun _ _ => ⟨rfl, e23, (by decide : 0 + 0 ≤ _), (by decide : 0 + 0 ≤ _)⟩)
                  dsimp only [Pt.U, Pt.locs, Pt.cells, Pt.slots] at X25 l25 y25 z25 st25 hQ25
                  subst l25 y25 z25
                  obtain ⟨rfl, N25q, e25⟩ := hQ25
                  have N25 := Fr.app N0 N25q
                  refine own_st (fun _ k => st25.trans k) ?_
                  show own_Go p.tables e below F (T25.setTop (mkF m 199 #[.val (.int p1), .val (.int p2), .val (.int (p1 &&& (7 : Int32))), .val (.ref aLOG10), .val (.int (0 : Int32))] [(.int (0 : Int32))]))
                  refine own_st (fun _ k => XS.iload X25.here hx rfl (hb hby at_199) rfl k) ?_
                  show own_Go p.tables e below F (T25.setTop (mkF m 201 #[.val (.int p1), .val (.int p2), .val (.int (p1 &&& (7 : Int32))), .val (.ref aLOG10), .val (.int (0 : Int32))] [(.int (0 : Int32)), (.int (0 : Int32))]))
                  refine own_st (fun _ k => XS.icmpNo X25.here hx rfl (hb hby at_201) rfl (teq (by decide : (0 : Int32) = (0 : Int32))).2 k) ?_
                  show own_Go p.tables e below F (T25.setTop (mkF m 204 #[.val (.int p1), .val (.int p2), .val (.int (p1 &&& (7 : Int32))), .val (.ref aLOG10), .val (.int (0 : Int32))] []))
                  refine own_st (fun _ k => XS.iconst X25.here hx rfl (hb hby at_204) k) ?_
                  show own_Go p.tables e below F (T25.setTop (mkF m 205 #[.val (.int p1), .val (.int p2), .val (.int (p1 &&& (7 : Int32))), .val (.ref aLOG10), .val (.int (0 : Int32))] [(.int (1 : Int32))]))
                  refine own_st (fun _ k => XS.goto X25.here hx rfl (pc0 := 205) (pc' := 209) rfl (hb hby at_205) (by decide) (by decide) k) ?_
                  show own_Go p.tables e below F (T25.setTop (mkF m 209 #[.val (.int p1), .val (.int p2), .val (.int (p1 &&& (7 : Int32))), .val (.ref aLOG10), .val (.int (0 : Int32))] [(.int (1 : Int32))]))
                  obtain ⟨fs, hrL, hrun, hended, hW, hsame⟩ := X25.leave (v := some (.int (1 : Int32))) (fun h => by rw [Bd.returns] at h; cases h)
                  refine own_end hF (o := .returned (some (.int (1 : Int32)))) (retN X25 hx (t := .boolean) Bd.returns (by simp) (hb hby at_209) hrL) ?_
                  refine ⟨hrun, hended, _, _, rfl, ?_, ⟨_, rfl⟩, hW, hsame.mono (by decide) (by decide)⟩
                  exact ⟨rfl, N25⟩
set_option maxRecDepth 65536 in
set_option maxHeartbeats 40000000 in
theorem comes_1 {Post : Tables → Env → Array Value → State → Outcome → State → Prop} (hpost : ∀ tb e args s v u, (limb_1_1.after args s (.returned v) u = true ∧ limb_1_2.after args s (.returned v) u = true ∧ True) → FrameEnd s (.returned v) u (Jvm.fieldLocs frame_1_writes args s ++ Jvm.arrayLocs frame_1_arrays args s ++ Jvm.staticLocs frame_1_statics s) 0 0 → Post tb e args s (.returned v) u) :
    ArmFor flags0 classFile x code maxLocals ret World_1 tables_1 room_1 Calls_1 rest_1 Pre_1 Post := by
  intro l hfl _ _ p e ha hc hk s m args below hf hA hF happ hP
  obtain ⟨hcalls, hrest, hpre⟩ := hP
  obtain ⟨-, -, -, hnamed, -, -, -, hat⟩ := (Spec.applies_iff hf).mp happ
  obtain ⟨hg, hn⟩ := and_e (Cond.before_iff.mp (show (Jvm.Cond.and given_1 narrow_1).before args s = true from hpre))
  obtain ⟨gc, gr0⟩ := and_e hg
  obtain ⟨ga0, gr1⟩ := and_e gr0
  have ga1 := gr1
  obtain ⟨w0, w1, rfl⟩ : ∃ w0 w1 : Value, args = #[w0, w1] := by
    have hs : args.size = 2 := by simpa [Cond.value, given_1] using gc
    obtain ⟨L⟩ := args
    match L, hs with
    | [w0, w1], _ => exact ⟨w0, w1, rfl⟩
  have hw := fun d (hd : d ∈ tables_1) => atoms_spec (ws := Jvm.Cond.code x code maxLocals ret :: tables_1) hat d (List.mem_cons_of_mem _ hd)
  have hfit : Fit s := fun {y c} hc i hi => by
    obtain ⟨ha, rfl⟩ := Array.getElem?_eq_some_iff.mp hc
    have q := List.all_eq_true.mp ((Array.all_eq_true_iff_forall_mem.mp hF) _ (Array.getElem_mem ha)) i (List.mem_range.mpr hi)
    simpa [Array.getElem?_eq_getElem hi] using q
  obtain ⟨i0, ei0⟩ := is_v ga0
  obtain rfl : w0 = (.int i0) := Option.some.inj ei0
  obtain ⟨i1, ei1⟩ := is_v ga1
  obtain rfl : w1 = (.int i1) := Option.some.inj ei1
  obtain ⟨xABS, hn⟩ := and_e hn
  obtain ⟨lABS, hn⟩ := and_e hn
  obtain ⟨mABS, hn⟩ := and_e hn
  obtain ⟨aABS, vABS⟩ := exa_v xABS
  have kABS : own_K s s.heap "ABS" "com/example/log_topic_store/logtopicstore/sql/Function$1" aABS 1 1 := ⟨Sta.start vABS (Or.inr ⟨(hw _ (List.mem_of_getElem? (i := 1) rfl)), (hw _ (List.mem_of_getElem? (i := 2) rfl))⟩), Exa.start vABS xABS, own_fld vABS lABS, own_fld vABS mABS⟩
  obtain ⟨xLOG, hn⟩ := and_e hn
  obtain ⟨lLOG, hn⟩ := and_e hn
  obtain ⟨mLOG, hn⟩ := and_e hn
  obtain ⟨aLOG, vLOG⟩ := exa_v xLOG
  have kLOG : own_K s s.heap "LOG" "com/example/log_topic_store/logtopicstore/sql/Function$7" aLOG 1 1 := ⟨Sta.start vLOG (Or.inr ⟨(hw _ (List.mem_of_getElem? (i := 1) rfl)), (hw _ (List.mem_of_getElem? (i := 13) rfl))⟩), Exa.start vLOG xLOG, own_fld vLOG lLOG, own_fld vLOG mLOG⟩
  obtain ⟨xFLOOR, hn⟩ := and_e hn
  obtain ⟨lFLOOR, hn⟩ := and_e hn
  obtain ⟨mFLOOR, hn⟩ := and_e hn
  obtain ⟨aFLOOR, vFLOOR⟩ := exa_v xFLOOR
  have kFLOOR : own_K s s.heap "FLOOR" "com/example/log_topic_store/logtopicstore/sql/Function$5" aFLOOR 1 1 := ⟨Sta.start vFLOOR (Or.inr ⟨(hw _ (List.mem_of_getElem? (i := 1) rfl)), (hw _ (List.mem_of_getElem? (i := 18) rfl))⟩), Exa.start vFLOOR xFLOOR, own_fld vFLOOR lFLOOR, own_fld vFLOOR mFLOOR⟩
  obtain ⟨xLN, hn⟩ := and_e hn
  obtain ⟨lLN, hn⟩ := and_e hn
  obtain ⟨mLN, hn⟩ := and_e hn
  obtain ⟨aLN, vLN⟩ := exa_v xLN
  have kLN : own_K s s.heap "LN" "com/example/log_topic_store/logtopicstore/sql/Function$6" aLN 1 1 := ⟨Sta.start vLN (Or.inr ⟨(hw _ (List.mem_of_getElem? (i := 1) rfl)), (hw _ (List.mem_of_getElem? (i := 23) rfl))⟩), Exa.start vLN xLN, own_fld vLN lLN, own_fld vLN mLN⟩
  obtain ⟨xLOG10, hn⟩ := and_e hn
  obtain ⟨lLOG10, hn⟩ := and_e hn
  obtain ⟨mLOG10, hn⟩ := and_e hn
  obtain ⟨aLOG10, vLOG10⟩ := exa_v xLOG10
  have kLOG10 : own_K s s.heap "LOG10" "com/example/log_topic_store/logtopicstore/sql/Function$8" aLOG10 1 1 := ⟨Sta.start vLOG10 (Or.inr ⟨(hw _ (List.mem_of_getElem? (i := 1) rfl)), (hw _ (List.mem_of_getElem? (i := 28) rfl))⟩), Exa.start vLOG10 xLOG10, own_fld vLOG10 lLOG10, own_fld vLOG10 mLOG10⟩
  obtain ⟨xROUND, hn⟩ := and_e hn
  obtain ⟨lROUND, hn⟩ := and_e hn
  obtain ⟨mROUND, hn⟩ := and_e hn
  obtain ⟨aROUND, vROUND⟩ := exa_v xROUND
  have kROUND : own_K s s.heap "ROUND" "com/example/log_topic_store/logtopicstore/sql/Function$4" aROUND 1 2 := ⟨Sta.start vROUND (Or.inr ⟨(hw _ (List.mem_of_getElem? (i := 1) rfl)), (hw _ (List.mem_of_getElem? (i := 33) rfl))⟩), Exa.start vROUND xROUND, own_fld vROUND lROUND, own_fld vROUND mROUND⟩
  obtain ⟨xSQRT, hn⟩ := and_e hn
  obtain ⟨lSQRT, hn⟩ := and_e hn
  obtain ⟨mSQRT, hn⟩ := and_e hn
  obtain ⟨aSQRT, vSQRT⟩ := exa_v xSQRT
  have kSQRT : own_K s s.heap "SQRT" "com/example/log_topic_store/logtopicstore/sql/Function$2" aSQRT 1 1 := ⟨Sta.start vSQRT (Or.inr ⟨(hw _ (List.mem_of_getElem? (i := 1) rfl)), (hw _ (List.mem_of_getElem? (i := 38) rfl))⟩), Exa.start vSQRT xSQRT, own_fld vSQRT lSQRT, own_fld vSQRT mSQRT⟩
  obtain ⟨xPOWER, hn⟩ := and_e hn
  obtain ⟨lPOWER, mPOWER⟩ := and_e hn
  obtain ⟨aPOWER, vPOWER⟩ := exa_v xPOWER
  have kPOWER : own_K s s.heap "POWER" "com/example/log_topic_store/logtopicstore/sql/Function$3" aPOWER 2 2 := ⟨Sta.start vPOWER (Or.inr ⟨(hw _ (List.mem_of_getElem? (i := 1) rfl)), (hw _ (List.mem_of_getElem? (i := 43) rfl))⟩), Exa.start vPOWER xPOWER, own_fld vPOWER lPOWER, own_fld vPOWER mPOWER⟩
  obtain ⟨n, o, h1, h2, h3, _, L, rfl, ⟨rfl, N⟩, hq⟩ := (own_law l s _ hw tables_1 i0 i1 aABS aSQRT aPOWER aROUND aFLOOR aLN aLOG aLOG10 s.heap s.heap.size kABS kSQRT kPOWER kROUND kFLOOR kLN kLOG kLOG10) p e ha hc hk s m _ below hf ((Spec.applies_iff_loose hf).mp happ).1 ⟨rfl, State.Warmed39.refl s, rfl⟩ trivial
  refine ⟨n, _, h1, h2, h3, hpost _ _ _ _ _ _ ⟨Cond.after_iff.mpr rfl, Cond.after_iff.mpr (eq_i res_at (Term.int_eval (1)) rfl), trivial⟩ ⟨hq.1, hq.2.1, (hq.2.2.sift fun y hy => Or.inr (N y hy)).mono (by decide) (by decide)⟩⟩
theorem main_1_1 : Claimed_1_1 := comes_1 fun _ _ _ _ _ _ h hF => ⟨h.1, hF⟩
theorem main_1_2 : Claimed_1_2 := comes_1 fun _ _ _ _ _ _ h hF => ⟨h.2.1, hF⟩
end Jvm.Pilot.@@N@@
namespace Jvm.Pilot.@@N@@
open Jvm Jvm.ClassFile Sem Op Lib Jvm.Free Jvm.Stand Jvm.Pilot.@@N@@.Jvm.D
/-! MADE BY PROGRAM (witnessworld.py) out of the Statement's table words and the real class files: 20 classes; the members and pool entries that the words name. The judged class is class 1, her method 1. -/
namespace start1
open Jvm.ClassFile
def u (s : String) : CpInfo := .utf8 (stringToUtf16 s)
/-- a pool by its gaps: so many unusable entries, then the entry; so many at the end -/
def gap : Nat → List CpInfo → List CpInfo
  | 0, r => r
  | n + 1, r => .unusable :: gap n r
def poolList (es : List (Nat × CpInfo)) (last : Nat) : List CpInfo := es.foldr (fun e r => gap e.1 (e.2 :: r)) (gap last [])
def pool (es : List (Nat × CpInfo)) (last : Nat) : Array CpInfo := ⟨poolList es last⟩
def fileOf (pool : Array CpInfo) (this : Nat) (attrs : Array Attribute := #[]) (ms : Array MethodInfo := #[]) (fl : Nat := 33) (sup : Nat := 0) (ifs : Array Nat := #[]) (fds : Array FieldInfo := #[]) : ClassFile where
  minorVersion := 0
  majorVersion := 65
  constantPool := pool
  accessFlags := fl
  thisClass := this
  superClass := sup
  interfaces := ifs
  fields := fds
  methods := ms
  attributes := attrs
def plain (name : String) (sup : Option ClassId) : Class where
  name := name
  kind := .ordinary
  loader := none
  accessFlags := 33
  super := sup
  interfaces := #[]
  cf := none
  fields := #[]
  methods := #[]
  instanceTypes := #[]
  staticTypes := #[]
  resolved := #[]
  callSites := []
  init := .initialized
  statics := none
  mirror := none

def pool0 : Array CpInfo := pool [(5, u "<init>"), (0, u "()V"), (1, .class_ 10), (1, u "java/lang/Object")] 113

def k0m0 : Method := { name := "<init>", desc := "()V", sig := { parameters := [], returnType := none }, accessFlags := 1, code := none }
/-- java/lang/Object -/
def k0 : Class := { plain "java/lang/Object" none with
  accessFlags := 33
  interfaces := #[]
  cf := some (fileOf pool0 8 #[] #[{ accessFlags := 1, nameIndex := 5, descriptorIndex := 6, attributes := #[] }] 33 0 #[] #[])
  fields := #[]
  methods := #[k0m0]
  instanceTypes := #[]
  staticTypes := #[]
  resolved := Array.replicate 124 none
  statics := none }

def pool1 : Array CpInfo := pool [(2, .class_ 4), (1, u "java/lang/Object"), (0, u "<init>"), (0, u "()V"), (0, .fieldref 8 9), (0, .class_ 10), (0, .nameAndType 11 12), (0, u "com/example/log_topic_store/logtopicstore/sql/Function"), (0, u "ABS"), (0, u "Lcom/example/log_topic_store/logtopicstore/sql/Function;"), (0, .fieldref 8 14), (0, .nameAndType 15 12), (0, u "SQRT"), (0, .fieldref 8 17), (0, .nameAndType 18 12), (0, u "POWER"), (0, .fieldref 8 20), (0, .nameAndType 21 12), (0, u "ROUND"), (0, .fieldref 8 23), (0, .nameAndType 24 12), (0, u "FLOOR"), (0, .fieldref 8 26), (0, .nameAndType 27 12), (0, u "LN"), (0, .fieldref 8 29), (0, .nameAndType 30 12), (0, u "LOG"), (0, .fieldref 8 32), (0, .nameAndType 33 12), (0, u "LOG10"), (0, .methodref 8 35), (0, .nameAndType 36 37), (0, u "takes"), (0, u "(I)Z"), (0, .class_ 39), (0, u "com/example/log_topic_store/logtopicstore/sql/FunctionTakesPinLaw"), (2, u "law"), (0, u "(II)Z")] 3

def k1m0 : Method := { name := "<init>", desc := "()V", sig := { parameters := [], returnType := none }, accessFlags := 1, code := none }
def k1c1 : Code := { maxStack := 2, maxLocals := 5, code := code, exceptionTable := #[], attributes := #[] }
def k1m1 : Method := { name := "law", desc := "(II)Z", sig := { parameters := [.int, .int], returnType := some .boolean }, accessFlags := 9, code := some k1c1 }
/-- com/example/log_topic_store/logtopicstore/sql/FunctionTakesPinLaw -/
def k1 : Class := { plain "com/example/log_topic_store/logtopicstore/sql/FunctionTakesPinLaw" (some 0) with
  accessFlags := 49
  interfaces := #[]
  cf := some (fileOf pool1 38 #[] #[{ accessFlags := 1, nameIndex := 5, descriptorIndex := 6, attributes := #[] }, { accessFlags := 9, nameIndex := 42, descriptorIndex := 43, attributes := #[] }] 49 2 #[] #[])
  fields := #[]
  methods := #[k1m0, k1m1]
  instanceTypes := #[]
  staticTypes := #[]
  resolved := Array.replicate 47 none
  statics := none }

def pool2 : Array CpInfo := pool [(1, .class_ 2), (0, u "java/lang/constant/Constable"), (0, .class_ 4), (0, u "java/lang/Object")] 6

/-- java/lang/constant/Constable -/
def k2 : Class := { plain "java/lang/constant/Constable" (some 0) with
  accessFlags := 1537
  interfaces := #[]
  cf := some (fileOf pool2 1 #[] #[] 1537 3 #[] #[])
  fields := #[]
  methods := #[]
  instanceTypes := #[]
  staticTypes := #[]
  resolved := Array.replicate 11 none
  statics := none }

def pool3 : Array CpInfo := pool [(1, .class_ 2), (0, u "java/lang/Comparable"), (0, .class_ 4), (0, u "java/lang/Object")] 7

/-- java/lang/Comparable -/
def k3 : Class := { plain "java/lang/Comparable" (some 0) with
  accessFlags := 1537
  interfaces := #[]
  cf := some (fileOf pool3 1 #[] #[] 1537 3 #[] #[])
  fields := #[]
  methods := #[]
  instanceTypes := #[]
  staticTypes := #[]
  resolved := Array.replicate 12 none
  statics := none }

def pool4 : Array CpInfo := pool [(1, .class_ 2), (0, u "java/io/Serializable"), (0, .class_ 4), (0, u "java/lang/Object")] 2

/-- java/io/Serializable -/
def k4 : Class := { plain "java/io/Serializable" (some 0) with
  accessFlags := 1537
  interfaces := #[]
  cf := some (fileOf pool4 1 #[] #[] 1537 3 #[] #[])
  fields := #[]
  methods := #[]
  instanceTypes := #[]
  staticTypes := #[]
  resolved := Array.replicate 7 none
  statics := none }

def pool5 : Array CpInfo := pool [(2, .class_ 4), (1, u "java/lang/Enum"), (0, u "name"), (0, u "Ljava/lang/String;"), (2, u "ordinal"), (0, u "I"), (1, .class_ 14), (1, u "java/lang/Object"), (4, u "hash"), (86, .class_ 108), (1, u "java/lang/Enum$EnumDesc"), (2, .class_ 112), (0, u "java/lang/constant/Constable"), (0, .class_ 114), (0, u "java/lang/Comparable"), (0, .class_ 116), (0, u "java/io/Serializable")] 87

/-- java/lang/Enum -/
def k5 : Class := { plain "java/lang/Enum" (some 0) with
  accessFlags := 1057
  interfaces := #[2, 3, 4]
  cf := some (fileOf pool5 2 #[.nestMembers #[106]] #[] 1057 12 #[111, 113, 115] #[{ accessFlags := 18, nameIndex := 5, descriptorIndex := 6, attributes := #[] }, { accessFlags := 18, nameIndex := 9, descriptorIndex := 10, attributes := #[] }, { accessFlags := 2, nameIndex := 19, descriptorIndex := 10, attributes := #[] }])
  fields := #[{ name := "name", type := (.object "java/lang/String"), accessFlags := 18, slot := 0, constantValue := 0 }, { name := "ordinal", type := .int, accessFlags := 18, slot := 1, constantValue := 0 }, { name := "hash", type := .int, accessFlags := 2, slot := 2, constantValue := 0 }]
  methods := #[]
  instanceTypes := #[(.object "java/lang/String"), .int, .int]
  staticTypes := #[]
  resolved := Array.replicate 204 none
  statics := none }

def pool6 : Array CpInfo := pool [(1, .class_ 2), (0, u "com/example/log_topic_store/logtopicstore/sql/Function"), (2, u "ABS"), (0, u "Lcom/example/log_topic_store/logtopicstore/sql/Function;"), (2, u "SQRT"), (2, u "POWER"), (2, u "ROUND"), (2, u "FLOOR"), (2, u "LN"), (2, u "LOG"), (2, u "LOG10"), (2, u "$VALUES"), (0, u "[Lcom/example/log_topic_store/logtopicstore/sql/Function;"), (6, .class_ 40), (1, u "java/lang/Enum"), (6, .fieldref 1 48), (0, .nameAndType 49 50), (0, u "least"), (0, u "I"), (0, .fieldref 1 52), (0, .nameAndType 53 50), (0, u "most"), (93, u "NEAR_HALF"), (0, u "Ljava/math/BigDecimal;"), (27, .class_ 177), (0, u "com/example/log_topic_store/logtopicstore/sql/Function$1"), (4, .class_ 183), (0, u "com/example/log_topic_store/logtopicstore/sql/Function$2"), (2, .class_ 187), (0, u "com/example/log_topic_store/logtopicstore/sql/Function$3"), (2, .class_ 191), (0, u "com/example/log_topic_store/logtopicstore/sql/Function$4"), (2, .class_ 195), (0, u "com/example/log_topic_store/logtopicstore/sql/Function$5"), (2, .class_ 199), (0, u "com/example/log_topic_store/logtopicstore/sql/Function$6"), (2, .class_ 203), (0, u "com/example/log_topic_store/logtopicstore/sql/Function$7"), (2, .class_ 207), (0, u "com/example/log_topic_store/logtopicstore/sql/Function$8"), (7, u "MAX_DIGITS"), (2, u "WHOLE"), (0, u "D"), (0, u "SIGNIFICANT"), (10, u "takes"), (0, u "(I)Z")] 18

def k6c0 : Code := { maxStack := 2, maxLocals := 2, code := prog_56_method_6_code, exceptionTable := #[], attributes := #[] }
def k6m0 : Method := { name := "takes", desc := "(I)Z", sig := { parameters := [.int], returnType := some .boolean }, accessFlags := 0, code := some k6c0 }
/-- com/example/log_topic_store/logtopicstore/sql/Function -/
def k6 : Class := { plain "com/example/log_topic_store/logtopicstore/sql/Function" (some 5) with
  accessFlags := 17440
  interfaces := #[]
  cf := some (fileOf pool6 1 #[.nestMembers #[206, 202, 198, 194, 190, 186, 182, 176]] #[{ accessFlags := 0, nameIndex := 231, descriptorIndex := 232, attributes := #[] }] 17440 38 #[] #[{ accessFlags := 16409, nameIndex := 5, descriptorIndex := 6, attributes := #[] }, { accessFlags := 16409, nameIndex := 9, descriptorIndex := 6, attributes := #[] }, { accessFlags := 16409, nameIndex := 12, descriptorIndex := 6, attributes := #[] }, { accessFlags := 16409, nameIndex := 15, descriptorIndex := 6, attributes := #[] }, { accessFlags := 16409, nameIndex := 18, descriptorIndex := 6, attributes := #[] }, { accessFlags := 16409, nameIndex := 21, descriptorIndex := 6, attributes := #[] }, { accessFlags := 16409, nameIndex := 24, descriptorIndex := 6, attributes := #[] }, { accessFlags := 16409, nameIndex := 27, descriptorIndex := 6, attributes := #[] }, { accessFlags := 26, nameIndex := 215, descriptorIndex := 50, attributes := #[] }, { accessFlags := 26, nameIndex := 218, descriptorIndex := 219, attributes := #[] }, { accessFlags := 26, nameIndex := 220, descriptorIndex := 50, attributes := #[] }, { accessFlags := 26, nameIndex := 147, descriptorIndex := 148, attributes := #[] }, { accessFlags := 18, nameIndex := 49, descriptorIndex := 50, attributes := #[] }, { accessFlags := 18, nameIndex := 53, descriptorIndex := 50, attributes := #[] }, { accessFlags := 4122, nameIndex := 30, descriptorIndex := 31, attributes := #[] }])
  fields := #[{ name := "ABS", type := (.object "com/example/log_topic_store/logtopicstore/sql/Function"), accessFlags := 16409, slot := 0, constantValue := 0 }, { name := "SQRT", type := (.object "com/example/log_topic_store/logtopicstore/sql/Function"), accessFlags := 16409, slot := 1, constantValue := 0 }, { name := "POWER", type := (.object "com/example/log_topic_store/logtopicstore/sql/Function"), accessFlags := 16409, slot := 2, constantValue := 0 }, { name := "ROUND", type := (.object "com/example/log_topic_store/logtopicstore/sql/Function"), accessFlags := 16409, slot := 3, constantValue := 0 }, { name := "FLOOR", type := (.object "com/example/log_topic_store/logtopicstore/sql/Function"), accessFlags := 16409, slot := 4, constantValue := 0 }, { name := "LN", type := (.object "com/example/log_topic_store/logtopicstore/sql/Function"), accessFlags := 16409, slot := 5, constantValue := 0 }, { name := "LOG", type := (.object "com/example/log_topic_store/logtopicstore/sql/Function"), accessFlags := 16409, slot := 6, constantValue := 0 }, { name := "LOG10", type := (.object "com/example/log_topic_store/logtopicstore/sql/Function"), accessFlags := 16409, slot := 7, constantValue := 0 }, { name := "MAX_DIGITS", type := .int, accessFlags := 26, slot := 8, constantValue := 0 }, { name := "WHOLE", type := .double, accessFlags := 26, slot := 9, constantValue := 0 }, { name := "SIGNIFICANT", type := .int, accessFlags := 26, slot := 10, constantValue := 0 }, { name := "NEAR_HALF", type := (.object "java/math/BigDecimal"), accessFlags := 26, slot := 11, constantValue := 0 }, { name := "least", type := .int, accessFlags := 18, slot := 3, constantValue := 0 }, { name := "most", type := .int, accessFlags := 18, slot := 4, constantValue := 0 }, { name := "$VALUES", type := (.array (.object "com/example/log_topic_store/logtopicstore/sql/Function")), accessFlags := 4122, slot := 12, constantValue := 0 }]
  methods := #[k6m0]
  instanceTypes := #[(.object "java/lang/String"), .int, .int, .int, .int]
  staticTypes := #[(.object "com/example/log_topic_store/logtopicstore/sql/Function"), (.object "com/example/log_topic_store/logtopicstore/sql/Function"), (.object "com/example/log_topic_store/logtopicstore/sql/Function"), (.object "com/example/log_topic_store/logtopicstore/sql/Function"), (.object "com/example/log_topic_store/logtopicstore/sql/Function"), (.object "com/example/log_topic_store/logtopicstore/sql/Function"), (.object "com/example/log_topic_store/logtopicstore/sql/Function"), (.object "com/example/log_topic_store/logtopicstore/sql/Function"), .int, .double, .int, (.object "java/math/BigDecimal"), (.array (.object "com/example/log_topic_store/logtopicstore/sql/Function"))]
  resolved := Array.replicate 251 none
  statics := some 0 }

def pool7 : Array CpInfo := pool [(2, .class_ 4), (1, u "com/example/log_topic_store/logtopicstore/sql/Function"), (47, .class_ 53), (0, u "com/example/log_topic_store/logtopicstore/sql/Function$1")] 14

/-- com/example/log_topic_store/logtopicstore/sql/Function$1 -/
def k7 : Class := { plain "com/example/log_topic_store/logtopicstore/sql/Function$1" (some 6) with
  accessFlags := 16432
  interfaces := #[]
  cf := some (fileOf pool7 52 #[.nestHost 2] #[] 16432 2 #[] #[])
  fields := #[]
  methods := #[]
  instanceTypes := #[(.object "java/lang/String"), .int, .int, .int, .int]
  staticTypes := #[]
  resolved := Array.replicate 68 none
  statics := none }

def pool8 : Array CpInfo := pool [(2, .class_ 4), (1, u "com/example/log_topic_store/logtopicstore/sql/Function"), (10, .class_ 16), (0, u "com/example/log_topic_store/logtopicstore/sql/Function$7")] 31

/-- com/example/log_topic_store/logtopicstore/sql/Function$7 -/
def k8 : Class := { plain "com/example/log_topic_store/logtopicstore/sql/Function$7" (some 6) with
  accessFlags := 16432
  interfaces := #[]
  cf := some (fileOf pool8 15 #[.nestHost 2] #[] 16432 2 #[] #[])
  fields := #[]
  methods := #[]
  instanceTypes := #[(.object "java/lang/String"), .int, .int, .int, .int]
  staticTypes := #[]
  resolved := Array.replicate 48 none
  statics := none }

def pool9 : Array CpInfo := pool [(2, .class_ 4), (1, u "com/example/log_topic_store/logtopicstore/sql/Function"), (30, .class_ 36), (0, u "com/example/log_topic_store/logtopicstore/sql/Function$5")] 13

/-- com/example/log_topic_store/logtopicstore/sql/Function$5 -/
def k9 : Class := { plain "com/example/log_topic_store/logtopicstore/sql/Function$5" (some 6) with
  accessFlags := 16432
  interfaces := #[]
  cf := some (fileOf pool9 35 #[.nestHost 2] #[] 16432 2 #[] #[])
  fields := #[]
  methods := #[]
  instanceTypes := #[(.object "java/lang/String"), .int, .int, .int, .int]
  staticTypes := #[]
  resolved := Array.replicate 50 none
  statics := none }

def pool10 : Array CpInfo := pool [(2, .class_ 4), (1, u "com/example/log_topic_store/logtopicstore/sql/Function"), (10, .class_ 16), (0, u "com/example/log_topic_store/logtopicstore/sql/Function$6")] 31

/-- com/example/log_topic_store/logtopicstore/sql/Function$6 -/
def k10 : Class := { plain "com/example/log_topic_store/logtopicstore/sql/Function$6" (some 6) with
  accessFlags := 16432
  interfaces := #[]
  cf := some (fileOf pool10 15 #[.nestHost 2] #[] 16432 2 #[] #[])
  fields := #[]
  methods := #[]
  instanceTypes := #[(.object "java/lang/String"), .int, .int, .int, .int]
  staticTypes := #[]
  resolved := Array.replicate 48 none
  statics := none }

def pool11 : Array CpInfo := pool [(2, .class_ 4), (1, u "com/example/log_topic_store/logtopicstore/sql/Function"), (10, .class_ 16), (0, u "com/example/log_topic_store/logtopicstore/sql/Function$8")] 31

/-- com/example/log_topic_store/logtopicstore/sql/Function$8 -/
def k11 : Class := { plain "com/example/log_topic_store/logtopicstore/sql/Function$8" (some 6) with
  accessFlags := 16432
  interfaces := #[]
  cf := some (fileOf pool11 15 #[.nestHost 2] #[] 16432 2 #[] #[])
  fields := #[]
  methods := #[]
  instanceTypes := #[(.object "java/lang/String"), .int, .int, .int, .int]
  staticTypes := #[]
  resolved := Array.replicate 48 none
  statics := none }

def pool12 : Array CpInfo := pool [(1, .class_ 2), (0, u "com/example/log_topic_store/logtopicstore/sql/Function"), (37, .class_ 41), (0, u "com/example/log_topic_store/logtopicstore/sql/Function$4")] 12

/-- com/example/log_topic_store/logtopicstore/sql/Function$4 -/
def k12 : Class := { plain "com/example/log_topic_store/logtopicstore/sql/Function$4" (some 6) with
  accessFlags := 16432
  interfaces := #[]
  cf := some (fileOf pool12 40 #[.nestHost 1] #[] 16432 1 #[] #[])
  fields := #[]
  methods := #[]
  instanceTypes := #[(.object "java/lang/String"), .int, .int, .int, .int]
  staticTypes := #[]
  resolved := Array.replicate 54 none
  statics := none }

def pool13 : Array CpInfo := pool [(2, .class_ 4), (1, u "com/example/log_topic_store/logtopicstore/sql/Function"), (28, .class_ 34), (0, u "com/example/log_topic_store/logtopicstore/sql/Function$2")] 11

/-- com/example/log_topic_store/logtopicstore/sql/Function$2 -/
def k13 : Class := { plain "com/example/log_topic_store/logtopicstore/sql/Function$2" (some 6) with
  accessFlags := 16432
  interfaces := #[]
  cf := some (fileOf pool13 33 #[.nestHost 2] #[] 16432 2 #[] #[])
  fields := #[]
  methods := #[]
  instanceTypes := #[(.object "java/lang/String"), .int, .int, .int, .int]
  staticTypes := #[]
  resolved := Array.replicate 46 none
  statics := none }

def pool14 : Array CpInfo := pool [(2, .class_ 4), (1, u "com/example/log_topic_store/logtopicstore/sql/Function"), (28, .class_ 34), (0, u "com/example/log_topic_store/logtopicstore/sql/Function$3")] 11

/-- com/example/log_topic_store/logtopicstore/sql/Function$3 -/
def k14 : Class := { plain "com/example/log_topic_store/logtopicstore/sql/Function$3" (some 6) with
  accessFlags := 16432
  interfaces := #[]
  cf := some (fileOf pool14 33 #[.nestHost 2] #[] 16432 2 #[] #[])
  fields := #[]
  methods := #[]
  instanceTypes := #[(.object "java/lang/String"), .int, .int, .int, .int]
  staticTypes := #[]
  resolved := Array.replicate 46 none
  statics := none }

def pool15 : Array CpInfo := pool [(1, u "java/lang/Cloneable"), (0, .class_ 1), (0, u "java/lang/Object"), (0, .class_ 3)] 3

/-- java/lang/Cloneable -/
def k15 : Class := { plain "java/lang/Cloneable" (some 0) with
  accessFlags := 1537
  interfaces := #[]
  cf := some (fileOf pool15 2 #[] #[] 1537 4 #[] #[])
  fields := #[]
  methods := #[]
  instanceTypes := #[]
  staticTypes := #[]
  resolved := Array.replicate 8 none
  statics := none }

/-- the primitive byte -/
def k16 : Class := { plain "byte" none with kind := .primitive 'B', accessFlags := 0x411 }
/-- [B -/
def k17 : Class := { plain "[B" (some 0) with kind := .array 16 .byte, interfaces := #[15, 4], accessFlags := 1041 }

/-- the primitive int -/
def k18 : Class := { plain "int" none with kind := .primitive 'I', accessFlags := 0x411 }
/-- [I -/
def k19 : Class := { plain "[I" (some 0) with kind := .array 18 .int, interfaces := #[15, 4], accessFlags := 1041 }

def heap : Heap := #[{ cls := 6, slots := #[.ref 1, .ref 2, .ref 3, .ref 4, .ref 5, .ref 6, .ref 7, .ref 8, .int 0, .double 0, .int 0, .null, .null], vm := .statics 6 },
  { cls := 7, slots := #[.null, .int 1, .int 0, .int 1, .int 1], vm := .none },
  { cls := 13, slots := #[.null, .int 2, .int 0, .int 1, .int 1], vm := .none },
  { cls := 14, slots := #[.null, .int 3, .int 0, .int 2, .int 2], vm := .none },
  { cls := 12, slots := #[.null, .int 4, .int 0, .int 1, .int 2], vm := .none },
  { cls := 9, slots := #[.null, .int 5, .int 0, .int 1, .int 1], vm := .none },
  { cls := 10, slots := #[.null, .int 6, .int 0, .int 1, .int 1], vm := .none },
  { cls := 8, slots := #[.null, .int 7, .int 0, .int 1, .int 1], vm := .none },
  { cls := 11, slots := #[.null, .int 8, .int 0, .int 1, .int 1], vm := .none }]
def classes : Array Class := #[k0, k1, k2, k3, k4, k5, k6, k7, k8, k9, k10, k11, k12, k13, k14, k15, k16, k17, k18, k19]
def interned : List (Array UInt16 × Addr) := []
def slotsUsed : Nat := 53
def theMethod : MethodId := ⟨1, 1⟩
def args0 : Array Value := #[.int 5, .int 1]
def aboutOver (below : List Frame) : State where
  vm := { classes := classes, interned := interned.toArray }
  heap := heap
  slotsUsed := slotsUsed
  threads := #[{ frames := .invoking theMethod args0 :: below }]
def below0 : List Frame := [.native { method := ⟨0, 0⟩, args := #[] }]
def about1 : State := aboutOver below0
def p0 : Program := .bare "" "" ""
def e0 : Env := launch0.env 0 0 0
theorem w_frames : about1.frames = Frame.invoking theMethod args0 :: below0 := rfl
set_option maxRecDepth 65536 in
theorem w_args : argsFit about1.vm theMethod args0 = true := by decide +kernel
set_option maxRecDepth 65536 in
theorem w_heap : heapFits about1 = true := by decide +kernel
set_option maxRecDepth 65536 in
theorem w_runnable : about1.curStatus? = some .runnable := by decide +kernel
set_option maxRecDepth 65536 in
theorem w_alone : about1.alone = true := by decide +kernel
set_option maxRecDepth 65536 in
theorem w_named : about1.methodNamed? x = some theMethod := by decide +kernel
set_option maxRecDepth 65536 in
theorem w_hears : about1.hears theMethod below0 = true := by decide +kernel
set_option maxRecDepth 65536 in
theorem w_ripe : about1.ripe theMethod args0 below0 = true := by decide +kernel
theorem w_running : about1.status = .running := rfl
set_option maxRecDepth 65536 in
theorem w_room : about1.hasRoom e0.platform room_1 = true :=
  launch0.hasRoom_least _ room_1 (by decide +kernel) (by decide +kernel) (by decide +kernel) (by decide +kernel) (by decide +kernel) (by decide +kernel)
theorem allAtoms_all (ts : List Jvm.Cond) (a : Array Jvm.Value) (st : Jvm.State) : (allAtoms ts).before a st = ts.all (fun c => c.before a st) := by
  induction ts with
  | nil => rfl
  | cons c t ih =>
    show (Jvm.Cond.and c (allAtoms t)).before a st = _
    rw [Jvm.Cond.before_and, ih, List.all_cons]
def words1 : List Jvm.Cond := Jvm.Cond.code x code maxLocals ret :: tables_1
/-- a 'code' word, met by the world's own term for the bytes: nothing is compared byte by byte -/
theorem code_word {y : MethodName} {bytes : ByteArray} {mx : Nat} {rt : Option FieldType} {a : Array Value} {s : State} {m : MethodId} {meth : Method} {c : Code} (h1 : s.methodNamed? y = some m) (h2 : s.vm.method? m = some meth) (h3 : meth.code = some c) (h4 : c.code = bytes)
    (h5 : (c.maxLocals == mx && c.exceptionTable.isEmpty && decide (c.maxStack ≤ mostOperands) && decide (meth.sig.returnType = rt) && !meth.locks && decide (parseMethodDescriptor y.desc = some meth.sig)) = true) : (Jvm.Cond.code y bytes mx rt).before a s = true := by
  simp only [Bool.and_eq_true, beq_iff_eq, Bool.not_eq_true', decide_eq_true_eq] at h5
  obtain ⟨⟨⟨⟨⟨g1, g2⟩, g3⟩, g4⟩, g5⟩, g6⟩ := h5
  simp [Cond.before, Cond.holds, Cond.value, h1, h2, h3, h4, g1, g2, g3, g4, g5, g6]
def isCode : Jvm.Cond → Bool
  | .code _ _ _ _ => true
  | _ => false
theorem all_split {L : List Jvm.Cond} {P : Jvm.Cond → Bool} (h1 : L.all (fun c => isCode c || P c) = true) (h2 : ∀ c ∈ L.filter isCode, P c = true) : L.all P = true := by
  refine List.all_eq_true.mpr fun c hc => ?_
  have h := List.all_eq_true.mp h1 c hc
  rcases Bool.eq_false_or_eq_true (isCode c) with hi | hi
  · exact h2 c (List.mem_filter.mpr ⟨hc, hi⟩)
  · simpa [hi] using h
set_option maxRecDepth 65536 in
theorem w_c0 : (Jvm.Cond.code x code maxLocals ret).before args0 about1 = true := code_word (m := ⟨1, 1⟩) (meth := k1m1) (c := k1c1) (by decide +kernel) rfl rfl rfl (by decide +kernel)
set_option maxRecDepth 65536 in
theorem w_c1 : (Jvm.Cond.code ({ cls := "com/example/log_topic_store/logtopicstore/sql/Function", name := "takes", desc := "(I)Z" } : Jvm.MethodName) prog_56_method_6_code (2 : Nat) (Option.some Jvm.ClassFile.FieldType.boolean)).before args0 about1 = true := code_word (m := ⟨6, 0⟩) (meth := k6m0) (c := k6c0) (by decide +kernel) rfl rfl rfl (by decide +kernel)
def codes1 : List Jvm.Cond := [Jvm.Cond.code x code maxLocals ret, Jvm.Cond.code ({ cls := "com/example/log_topic_store/logtopicstore/sql/Function", name := "takes", desc := "(I)Z" } : Jvm.MethodName) prog_56_method_6_code (2 : Nat) (Option.some Jvm.ClassFile.FieldType.boolean)]
set_option maxRecDepth 65536 in
theorem codes_eq : words1.filter isCode = codes1 := rfl
theorem w_codes : ∀ c ∈ words1.filter isCode, c.before args0 about1 = true := by
  rw [codes_eq]
  intro c hc
  simp only [codes1, List.mem_cons, List.not_mem_nil, or_false] at hc
  rcases hc with rfl | rfl
  · exact w_c0
  · exact w_c1
set_option maxRecDepth 65536 in
theorem w_t1 : (words1.take 24).all (fun c => isCode c || c.before args0 about1) = true := by decide +kernel
set_option maxRecDepth 65536 in
theorem w_t2 : (words1.drop 24).all (fun c => isCode c || c.before args0 about1) = true := by decide +kernel
theorem w_tables : (allAtoms (Jvm.Cond.code x code maxLocals ret :: tables_1)).before args0 about1 = true := by
  rw [allAtoms_all]
  show words1.all (fun c => c.before args0 about1) = true
  refine all_split ?_ w_codes
  rw [← List.take_append_drop 24 words1, List.all_append, w_t1, w_t2]
  rfl
set_option maxRecDepth 65536 in
theorem w_case : (Jvm.Cond.and given_1 narrow_1).before args0 about1 = true := by decide +kernel
theorem w_applies : (headSpec (Jvm.Cond.code x code maxLocals ret :: tables_1) room_1).applies x e0.platform about1 = true :=
  (Spec.applies_iff w_frames).mpr ⟨w_running, w_runnable, w_alone, w_named, w_hears, w_ripe, w_room, w_tables⟩
theorem atStart : AtStart classFile x code maxLocals ret World_1 tables_1 room_1 Calls_1 rest_1 Pre_1 launch0 p0 e0 about1 theMethod args0 below0 :=
  ⟨lists_1, trivial, launch0.admits_env _ _ _, launch0.least_env, fairChoices_fair.cas, fairChoices_fair.clock, w_frames, w_args, w_heap, w_applies, trivial, trivial, w_case⟩
end start1
theorem witness_1 : WitnessClaimed_1 := ⟨start1.p0, start1.e0, start1.about1, start1.theMethod, start1.args0, start1.below0, start1.atStart⟩
end Jvm.Pilot.@@N@@
