import JvmDerived
import JvmDerived.Pilot.@@N@@Statement
import JvmDerived.Pilot.@@N@@Code
set_option linter.unusedVariables false
set_option linter.unusedSimpArgs false
@@BLOCK:NumsL.lean.txt@@
namespace Jvm.RoadKit
open Sem ClassFile Op Lib Jvm.Stand Jvm.Free Jvm.LawKit
section New
variable {p : Program} {l : Launch} {e : Env} {R : Room} {s : State} {m : MethodId} {args : Array Value} {below : List Frame} {meth : Method} {c : Code} {T : State} {locs : List Loc} {cells slots : Nat}
theorem retI (X : Stand p l e R s m args below meth c T locs cells slots) (hx : p.tables.exec = Jvm.exec) {pc : Nat} {Ls : Array Slot} {z : Int32} {rest : List Value} (hret : meth.sig.returnType = some .int) (hd : decode c.code pc = .ok (.ireturn, 1)) {fs : List Frame}
    (hl : ∀ (f : JFrame) (acts : List Action), f.method = m → f.locked = none → f.entered = [] → (doReturn e (T.setTop f) acts (some (.int z))).1 = T.setFrames fs) : Steps p.tables e below (T.setTop (mkF m pc Ls (.int z :: rest))) (T.setFrames fs) := by
  have hm' : T.vm.method? m = some meth := X.method'
  have hn : narrow .int (.int z) = .int z := rfl
  show Steps p.tables e below (T.setTop { method := m, pc := pc, locals := Ls, stack := _ :: rest, locked := none }) _
  jvm_step X.here [X.here.top, hx, hd, hm', hret, hn]
  first | (intro acts; rw [hl _ acts rfl rfl rfl]) | rw [hl _ _ rfl rfl rfl]
  exact Steps.refl _
end New
end Jvm.RoadKit
namespace Jvm.Pilot.@@N@@
open Jvm Jvm.ClassFile Sem Op Lib Jvm.Free Jvm.Stand Jvm.LawKit Jvm.RoadKit Bundle Jvm.Pilot.@@N@@.Jvm.D

/-- what is left to show at a point of a walk -/
def own_Go (tb : Tables) (e : Env) (below : List Frame) (F : State → Outcome → Prop) (A : State) : Prop := ∃ t o, Steps tb e below A t ∧ F t o
theorem own_st {tb : Tables} {e : Env} {below : List Frame} {F : State → Outcome → Prop} {A B : State} (st : ∀ t, Steps tb e below A t → Steps tb e below B t) (h : own_Go tb e below F A) : own_Go tb e below F B := by
  obtain ⟨t, o, a, b⟩ := h
  exact ⟨t, o, st t a, b⟩
theorem own_end {tb : Tables} {e : Env} {below : List Frame} {F G : State → Outcome → Prop} {A t : State} {o : Outcome} (hF : F = G) (st : Steps tb e below A t) (h : G t o) : own_Go tb e below F A := by
  subst hF
  exact ⟨t, o, st, h⟩
/-- a body's contract: called with as' over the heap h0 it returns, and leaves what Q says -/
abbrev own_Met (l : Launch) (Z : State) (y : MethodName) (bytes : ByteArray) (ml : Nat) (rt : Option FieldType) (ws : List Jvm.Cond) (rm : Room) (as' : Array Value) (h0 : Heap) (Q : Option Value → Heap → List Loc → Prop) : Prop :=
  MetFree l y (head1 (Jvm.Cond.code y bytes ml rt :: ws) rm) (fun a U => a = as' ∧ Z.Warmed39 U.vm ∧ U.heap = h0) (fun _ _ _ _ _ => True) (fun _ U o U' => ∃ v L, o = .returned v ∧ Q v U'.heap L ∧ FrameEnd U o U' L rm.cells rm.slots)
/-- what a callee leaves that returns r and writes nothing -/
def own_Qp (r : Value) (h0 : Heap) (n0 : Nat) (v : Option Value) (h : Heap) (L : List Loc) : Prop := v = some r ∧ Fr n0 L ∧ h = h0
theorem own_ext_refl {h : Heap} : Ext h h := ⟨Nat.le_refl _, fun _ _ q => q⟩
theorem own_ext_ext {h0 h h' : Heap} (K : Ext h0 h) (E : Ext h h') : Ext h0 h' := ⟨Nat.le_trans K.1 E.1, fun x c q => E.2 x c (K.2 x c q)⟩
theorem own_ext_keep {h0 h h' : Heap} {ws : List Addr} (K : Ext h0 h) (E : Keep h h' ws) (q : ∀ x ∈ ws, h0.size ≤ x) : Ext h0 h' :=
  ⟨Nat.le_trans K.1 E.1, fun x c r => E.2.1 x c (K.2 x c r) fun z => absurd (Array.getElem?_eq_some_iff.mp r).1 (Nat.not_lt.mpr (q x z))⟩
theorem own_ext_wr {h0 h h' : Heap} {a : Addr} {sl : Nat} {v : Value} (K : Ext h0 h) (W : Wr h h' a sl v) (q : h0.size ≤ a) : Ext h0 h' := own_ext_keep K (Keep.of_wr W) (allS q all0)
theorem own_fld {args : Array Value} {s : State} {t : Term} {x : Addr} {C n d : String} {k : Int32} (ev : t.eval args s none [] s = some (.ref x)) (h : (Jvm.Cond.eq (.field t C n d) (.int k)).value args s none s [] = some true) : Fld s s.heap x C n d (.int k) := by
  obtain ⟨p, q, h1, h2, -, h4⟩ := cmp_v (Or.inl h)
  cases (show some (Value.int k) = some q from h2)
  obtain ⟨z, rfl⟩ := h4
  have e : z = k := by simpa [Jvm.Cond.value, h1, h2] using h
  subst e
  rw [fld_at ev] at h1
  exact Fld.start h1

def own_Q0 (h0 : Heap) (n0 : Nat) (v : Option Value) (h : Heap) (L : List Loc) : Prop := v = some (.int (1 : Int32)) ∧ Fr n0 L
def own_K (Z : State) (h : Heap) (f : String) (a : Addr) (o : Int32) : Prop :=
  Sta Z h "com/example/enox/enox/language/Truth" f "Lcom/example/enox/enox/language/Truth;" (.ref a) ∧ Exa Z h a "com/example/enox/enox/language/Truth" ∧ Fld Z h a "java/lang/Enum" "ordinal" "I" (.int o)
def own_pk (aF aB aT : Addr) (i : Int32) : Addr := if i = 0 then aF else if i = 1 then aB else aT
def own_and (aF aB aT u v : Addr) : Addr := if u = aF ∨ v = aF then aF else if u = aB ∨ v = aB then aB else aT
def own_min (a b : Int32) : Int32 := if b < a then b else a
theorem own_exa {Z : State} {h : Heap} {aF aB aT : Addr} {C : String} (hF : Exa Z h aF C) (hB : Exa Z h aB C) (hT : Exa Z h aT C) (i : Int32) : Exa Z h (own_pk aF aB aT i) C := by
  unfold own_pk
  split
  · exact hF
  · split
    · exact hB
    · exact hT
theorem own_mod3 (p : Int32) : (p &&& (2147483647 : Int32)) % (3 : Int32) = 0 ∨ (p &&& (2147483647 : Int32)) % (3 : Int32) = 1 ∨ (p &&& (2147483647 : Int32)) % (3 : Int32) = 2 := by
  have e : (p &&& (2147483647 : Int32)).toInt = p.toInt % 2 ^ 31 := Jvm.Kit.i32_mask p 2147483647 (k := 31) (by decide) (by decide)
  have m : ((p &&& (2147483647 : Int32)) % (3 : Int32)).toInt = (p &&& (2147483647 : Int32)).toInt.tmod 3 := Int32.toInt_mod _ _
  have b : 0 ≤ (p &&& (2147483647 : Int32)).toInt := by rw [e]; exact Int.emod_nonneg _ (by decide)
  rw [Int.tmod_eq_emod_of_nonneg b] at m
  rw [← Int32.toInt_inj, ← Int32.toInt_inj, ← Int32.toInt_inj, m]
  show _ = (0 : Int) ∨ _ = (1 : Int) ∨ _ = (2 : Int)
  omega
theorem own_main {aF aB aT : Addr} (h1 : aF ≠ aB) (h2 : aF ≠ aT) (h3 : aB ≠ aT) {i j : Int32} (hi : i = 0 ∨ i = 1 ∨ i = 2) (hj : j = 0 ∨ j = 1 ∨ j = 2) : own_and aF aB aT (own_pk aF aB aT i) (own_pk aF aB aT j) = own_pk aF aB aT (own_min i j) := by
  have n01 : ¬ ((0 : Int32) = 1) := by decide
  have n10 : ¬ ((1 : Int32) = 0) := by decide
  have n20 : ¬ ((2 : Int32) = 0) := by decide
  have n21 : ¬ ((2 : Int32) = 1) := by decide
  have l01 : ¬ ((1 : Int32) < 0) := by decide
  have l02 : ¬ ((2 : Int32) < 0) := by decide
  have l12 : ¬ ((2 : Int32) < 1) := by decide
  have g01 : (0 : Int32) < 1 := by decide
  have g02 : (0 : Int32) < 2 := by decide
  have g12 : (1 : Int32) < 2 := by decide
  have r0 : ¬ ((0 : Int32) < 0) := by decide
  have r1 : ¬ ((1 : Int32) < 1) := by decide
  have r2 : ¬ ((2 : Int32) < 2) := by decide
  rcases hi with rfl | rfl | rfl <;> rcases hj with rfl | rfl | rfl <;>
    simp only [own_and, own_pk, own_min, n01, n10, n20, n21, l01, l02, l12, g01, g02, g12, r0, r1, r2, h1, h2, h3, h1.symm, h2.symm, h3.symm, if_true, if_false, or_true, true_or, or_false, false_or]
theorem d_own_pick_0 : decode method_2_code 0 = .ok (.iload_n 0, 1) := by decide +kernel
theorem d_own_pick_1 : decode method_2_code 1 = .ok (.ifCond .ne 7, 3) := by decide +kernel
theorem d_own_pick_4 : decode method_2_code 4 = .ok (.getstatic 7, 3) := by decide +kernel
theorem d_own_pick_7 : decode method_2_code 7 = .ok (.areturn, 1) := by decide +kernel
theorem d_own_pick_8 : decode method_2_code 8 = .ok (.iload_n 0, 1) := by decide +kernel
theorem d_own_pick_9 : decode method_2_code 9 = .ok (.iconst 1, 1) := by decide +kernel
theorem d_own_pick_10 : decode method_2_code 10 = .ok (.if_icmp .ne 7, 3) := by decide +kernel
theorem d_own_pick_13 : decode method_2_code 13 = .ok (.getstatic 13, 3) := by decide +kernel
theorem d_own_pick_16 : decode method_2_code 16 = .ok (.areturn, 1) := by decide +kernel
theorem d_own_pick_17 : decode method_2_code 17 = .ok (.getstatic 16, 3) := by decide +kernel
theorem d_own_pick_20 : decode method_2_code 20 = .ok (.areturn, 1) := by decide +kernel
theorem pn_com_example_enox_enox_language_TruthAndPinLaw : plainName "com/example/enox/enox/language/TruthAndPinLaw" = true := by first | (simp [plainName, overriddenIn]; done) | decide +kernel
set_option maxRecDepth 65536 in
set_option maxHeartbeats 40000000 in
theorem own_pick (l : Launch) (Z : State) (a0 : Array Value) (hw : ∀ d ∈ tables_1, d.before a0 Z = true) (ws : List Jvm.Cond) (p1 : Int32) (aF aB aT : Addr) (h0 : Heap) (n0 : Nat) (kF : own_K Z h0 "FALSE" aF 1) (kB : own_K Z h0 "BOTTOM" aB 2) (kT : own_K Z h0 "TRUE" aT 0) :
    own_Met l Z (⟨"com/example/enox/enox/language/TruthAndPinLaw", "pick", "(I)Lcom/example/enox/enox/language/Truth;"⟩ : MethodName) method_2_code 1 (some (.object "com/example/enox/enox/language/Truth")) ws ({ frames := 0, cells := 0, slots := 0, locals := 0 } : Room) #[(.int p1)] h0 (own_Qp (.ref (own_pk aF aB aT p1)) h0 n0) := by
  refine MetFree.of_bodySF (plainFor_of_name pn_com_example_enox_enox_language_TruthAndPinLaw) hisR ?_
  intro p e s m args below meth c s₁ Bd hml0 hP hK
  obtain ⟨rfl, hZ, hh⟩ := hP
  have hx := Bd.exec
  have hby := Bd.bytes
  have hml : c.maxLocals = 1 := hml0
  have hown : s.vm.findClass "com/example/enox/enox/language/TruthAndPinLaw" = some m.cls := findClass_of_methodNamed Bd.named
  have hnm := (name_of_methodNamed Bd.named Bd.method).1
  have X0 : Stand p l e ({ frames := 0, cells := 0, slots := 0, locals := 0 } : Room) s m #[(.int p1)] below meth c s₁ [] 0 0 := Stand.of_body Bd
  have e0 : s₁.heap = h0 := by rw [← hh, Bd.state]; rfl
  have N0 := Fr.nil n0
  have hst : entryFrame m #[(.int p1)] 1 = mkF m 0 #[.val (.int p1)] [] := by first | (simp [entryFrame, mkF, argsToLocals, Value.category, maxLocals]; done) | rfl
  obtain ⟨F, hF⟩ : ∃ F : State → Outcome → Prop, F = fun s₂ o => (s₂.status = .running ∧ Ended s₂ below o ∧ ∃ v L, o = .returned v ∧ (own_Qp (.ref (own_pk aF aB aT p1)) h0 n0) v s₂.heap L ∧ FrameEnd s o s₂ L (Room.cells ({ frames := 0, cells := 0, slots := 0, locals := 0 } : Room)) (Room.slots ({ frames := 0, cells := 0, slots := 0, locals := 0 } : Room))) := ⟨_, rfl⟩
  suffices G : own_Go p.tables e below F (s₁.setTop (mkF m 0 #[.val (.int p1)] [])) by
    obtain ⟨t, o, a, b⟩ := G
    rw [hF] at b
    exact ⟨t, o, castTop hst a, b⟩
  show own_Go p.tables e below F (s₁.setTop (mkF m 0 #[.val (.int p1)] []))
  refine own_st (fun _ k => XS.iloadN X0.here hx rfl (hb hby d_own_pick_0) rfl k) ?_
  show own_Go p.tables e below F (s₁.setTop (mkF m 1 #[.val (.int p1)] [(.int p1)]))
  by_cases hc1 : p1 = (0 : Int32)
  ·
    refine own_st (fun _ k => XS.ifNo X0.here hx rfl (hb hby d_own_pick_1) rfl ((if0 _ _).trans (teq hc1).2) k) ?_
    show own_Go p.tables e below F (s₁.setTop (mkF m 4 #[.val (.int p1)] []))
    obtain ⟨T1, X1, e1, st1⟩ := getS2 X0 hx hZ hown (host := "") (Or.inl (hw _ (List.mem_of_getElem? (i := 5) rfl))) Via.refl e0 kF.1 (g := (mkF m 4 #[.val (.int p1)] [])) rfl (hb hby d_own_pick_4)
    refine own_st st1 ?_
    show own_Go p.tables e below F (T1.setTop (mkF m 7 #[.val (.int p1)] [(.ref aF)]))
    obtain ⟨fs, hr, hrun, hended, hW, hsame⟩ := X1.leave (v := some (.ref aF)) (fun h => by rw [Bd.returns] at h; cases h)
    refine own_end hF (o := .returned (some (.ref aF))) (retOut X1 hx (t := (.object "com/example/enox/enox/language/Truth")) (i := .areturn) Bd.returns rfl (Or.inr (Or.inr (Or.inr (Or.inr ⟨rfl, rfl, rfl⟩)))) (hb hby d_own_pick_7) hr) ?_
    refine ⟨hrun, hended, _, _, rfl, ?_, ⟨_, rfl⟩, hW, hsame.mono (by decide) (by decide)⟩
    exact ⟨by simp [own_pk, hc1], N0, e1⟩
  ·
    refine own_st (fun _ k => XS.ifYes X0.here hx rfl (pc0 := 1) (pc' := 8) rfl (hb hby d_own_pick_1) rfl ((if0 _ _).trans (feq hc1).2) (by decide) (by decide) k) ?_
    show own_Go p.tables e below F (s₁.setTop (mkF m 8 #[.val (.int p1)] []))
    refine own_st (fun _ k => XS.iloadN X0.here hx rfl (hb hby d_own_pick_8) rfl k) ?_
    show own_Go p.tables e below F (s₁.setTop (mkF m 9 #[.val (.int p1)] [(.int p1)]))
    refine own_st (fun _ k => XS.iconst X0.here hx rfl (hb hby d_own_pick_9) k) ?_
    show own_Go p.tables e below F (s₁.setTop (mkF m 10 #[.val (.int p1)] [(.int (1 : Int32)), (.int p1)]))
    by_cases hc10 : p1 = (1 : Int32)
    ·
      refine own_st (fun _ k => XS.icmpNo X0.here hx rfl (hb hby d_own_pick_10) rfl (teq hc10).2 k) ?_
      show own_Go p.tables e below F (s₁.setTop (mkF m 13 #[.val (.int p1)] []))
      obtain ⟨T2, X2, e2, st2⟩ := getS2 X0 hx hZ hown (host := "") (Or.inl (hw _ (List.mem_of_getElem? (i := 20) rfl))) Via.refl e0 kB.1 (g := (mkF m 13 #[.val (.int p1)] [])) rfl (hb hby d_own_pick_13)
      refine own_st st2 ?_
      show own_Go p.tables e below F (T2.setTop (mkF m 16 #[.val (.int p1)] [(.ref aB)]))
      obtain ⟨fs, hr, hrun, hended, hW, hsame⟩ := X2.leave (v := some (.ref aB)) (fun h => by rw [Bd.returns] at h; cases h)
      refine own_end hF (o := .returned (some (.ref aB))) (retOut X2 hx (t := (.object "com/example/enox/enox/language/Truth")) (i := .areturn) Bd.returns rfl (Or.inr (Or.inr (Or.inr (Or.inr ⟨rfl, rfl, rfl⟩)))) (hb hby d_own_pick_16) hr) ?_
      refine ⟨hrun, hended, _, _, rfl, ?_, ⟨_, rfl⟩, hW, hsame.mono (by decide) (by decide)⟩
      exact ⟨by simp [own_pk, hc1, hc10], N0, e2⟩
    ·
      refine own_st (fun _ k => XS.icmpYes X0.here hx rfl (pc0 := 10) (pc' := 17) rfl (hb hby d_own_pick_10) rfl (feq hc10).2 (by decide) (by decide) k) ?_
      show own_Go p.tables e below F (s₁.setTop (mkF m 17 #[.val (.int p1)] []))
      obtain ⟨T3, X3, e3, st3⟩ := getS2 X0 hx hZ hown (host := "") (Or.inl (hw _ (List.mem_of_getElem? (i := 18) rfl))) Via.refl e0 kT.1 (g := (mkF m 17 #[.val (.int p1)] [])) rfl (hb hby d_own_pick_17)
      refine own_st st3 ?_
      show own_Go p.tables e below F (T3.setTop (mkF m 20 #[.val (.int p1)] [(.ref aT)]))
      obtain ⟨fs, hr, hrun, hended, hW, hsame⟩ := X3.leave (v := some (.ref aT)) (fun h => by rw [Bd.returns] at h; cases h)
      refine own_end hF (o := .returned (some (.ref aT))) (retOut X3 hx (t := (.object "com/example/enox/enox/language/Truth")) (i := .areturn) Bd.returns rfl (Or.inr (Or.inr (Or.inr (Or.inr ⟨rfl, rfl, rfl⟩)))) (hb hby d_own_pick_20) hr) ?_
      refine ⟨hrun, hended, _, _, rfl, ?_, ⟨_, rfl⟩, hW, hsame.mono (by decide) (by decide)⟩
      exact ⟨by simp [own_pk, hc1, hc10], N0, e3⟩
theorem d_own_andm_0 : decode prog_39_method_6_code 0 = .ok (.aload_n 0, 1) := by decide +kernel
theorem d_own_andm_1 : decode prog_39_method_6_code 1 = .ok (.getstatic 7, 3) := by decide +kernel
theorem d_own_andm_4 : decode prog_39_method_6_code 4 = .ok (.if_acmp .eq 10, 3) := by decide +kernel
theorem d_own_andm_7 : decode prog_39_method_6_code 7 = .ok (.aload_n 1, 1) := by decide +kernel
theorem d_own_andm_8 : decode prog_39_method_6_code 8 = .ok (.getstatic 7, 3) := by decide +kernel
theorem d_own_andm_11 : decode prog_39_method_6_code 11 = .ok (.if_acmp .ne 7, 3) := by decide +kernel
theorem d_own_andm_14 : decode prog_39_method_6_code 14 = .ok (.getstatic 7, 3) := by decide +kernel
theorem d_own_andm_17 : decode prog_39_method_6_code 17 = .ok (.areturn, 1) := by decide +kernel
theorem d_own_andm_18 : decode prog_39_method_6_code 18 = .ok (.aload_n 0, 1) := by decide +kernel
theorem d_own_andm_19 : decode prog_39_method_6_code 19 = .ok (.getstatic 10, 3) := by decide +kernel
theorem d_own_andm_22 : decode prog_39_method_6_code 22 = .ok (.if_acmp .eq 10, 3) := by decide +kernel
theorem d_own_andm_25 : decode prog_39_method_6_code 25 = .ok (.aload_n 1, 1) := by decide +kernel
theorem d_own_andm_26 : decode prog_39_method_6_code 26 = .ok (.getstatic 10, 3) := by decide +kernel
theorem d_own_andm_29 : decode prog_39_method_6_code 29 = .ok (.if_acmp .ne 9, 3) := by decide +kernel
theorem d_own_andm_32 : decode prog_39_method_6_code 32 = .ok (.getstatic 10, 3) := by decide +kernel
theorem d_own_andm_35 : decode prog_39_method_6_code 35 = .ok (.goto 6, 3) := by decide +kernel
theorem d_own_andm_38 : decode prog_39_method_6_code 38 = .ok (.getstatic 3, 3) := by decide +kernel
theorem d_own_andm_41 : decode prog_39_method_6_code 41 = .ok (.areturn, 1) := by decide +kernel
theorem pn_com_example_enox_enox_language_Truth : plainName "com/example/enox/enox/language/Truth" = true := by first | (simp [plainName, overriddenIn]; done) | decide +kernel
set_option maxRecDepth 65536 in
set_option maxHeartbeats 40000000 in
theorem own_andm (l : Launch) (Z : State) (a0 : Array Value) (hw : ∀ d ∈ tables_1, d.before a0 Z = true) (ws : List Jvm.Cond) (u1 v1 : Addr) (aF aB aT : Addr) (h0 : Heap) (n0 : Nat) (kF : own_K Z h0 "FALSE" aF 1) (kB : own_K Z h0 "BOTTOM" aB 2) (kT : own_K Z h0 "TRUE" aT 0) :
    own_Met l Z (⟨"com/example/enox/enox/language/Truth", "and", "(Lcom/example/enox/enox/language/Truth;)Lcom/example/enox/enox/language/Truth;"⟩ : MethodName) prog_39_method_6_code 2 (some (.object "com/example/enox/enox/language/Truth")) ws ({ frames := 0, cells := 0, slots := 0, locals := 0 } : Room) #[(.ref u1), (.ref v1)] h0 (own_Qp (.ref (own_and aF aB aT u1 v1)) h0 n0) := by
  refine MetFree.of_bodySF (plainFor_of_name pn_com_example_enox_enox_language_Truth) hisR ?_
  intro p e s m args below meth c s₁ Bd hml0 hP hK
  obtain ⟨rfl, hZ, hh⟩ := hP
  have hx := Bd.exec
  have hby := Bd.bytes
  have hml : c.maxLocals = 2 := hml0
  have hown : s.vm.findClass "com/example/enox/enox/language/Truth" = some m.cls := findClass_of_methodNamed Bd.named
  have hnm := (name_of_methodNamed Bd.named Bd.method).1
  have X0 : Stand p l e ({ frames := 0, cells := 0, slots := 0, locals := 0 } : Room) s m #[(.ref u1), (.ref v1)] below meth c s₁ [] 0 0 := Stand.of_body Bd
  have e0 : s₁.heap = h0 := by rw [← hh, Bd.state]; rfl
  have N0 := Fr.nil n0
  have hst : entryFrame m #[(.ref u1), (.ref v1)] 2 = mkF m 0 #[.val (.ref u1), .val (.ref v1)] [] := by first | (simp [entryFrame, mkF, argsToLocals, Value.category, maxLocals]; done) | rfl
  obtain ⟨F, hF⟩ : ∃ F : State → Outcome → Prop, F = fun s₂ o => (s₂.status = .running ∧ Ended s₂ below o ∧ ∃ v L, o = .returned v ∧ (own_Qp (.ref (own_and aF aB aT u1 v1)) h0 n0) v s₂.heap L ∧ FrameEnd s o s₂ L (Room.cells ({ frames := 0, cells := 0, slots := 0, locals := 0 } : Room)) (Room.slots ({ frames := 0, cells := 0, slots := 0, locals := 0 } : Room))) := ⟨_, rfl⟩
  suffices G : own_Go p.tables e below F (s₁.setTop (mkF m 0 #[.val (.ref u1), .val (.ref v1)] [])) by
    obtain ⟨t, o, a, b⟩ := G
    rw [hF] at b
    exact ⟨t, o, castTop hst a, b⟩
  show own_Go p.tables e below F (s₁.setTop (mkF m 0 #[.val (.ref u1), .val (.ref v1)] []))
  refine own_st (fun _ k => XS.aloadN X0.here hx rfl (hb hby d_own_andm_0) rfl rfl k) ?_
  show own_Go p.tables e below F (s₁.setTop (mkF m 1 #[.val (.ref u1), .val (.ref v1)] [(.ref u1)]))
  obtain ⟨T1, X1, e1, st1⟩ := getS2 X0 hx hZ hown (host := "") (Or.inl (hw _ (List.mem_of_getElem? (i := 13) rfl))) Via.refl e0 kF.1 (g := (mkF m 1 #[.val (.ref u1), .val (.ref v1)] [(.ref u1)])) rfl (hb hby d_own_andm_1)
  refine own_st st1 ?_
  show own_Go p.tables e below F (T1.setTop (mkF m 4 #[.val (.ref u1), .val (.ref v1)] [(.ref aF), (.ref u1)]))
  by_cases ha4 : u1 = aF
  ·
    refine own_st (fun _ k => Jvm.RoadKit.acmp (g := (mkF m 4 #[.val (.ref u1), .val (.ref v1)] [(.ref aF), (.ref u1)])) X1 hx rfl rfl rfl (pc0 := 4) (pc' := 14) (same := true) rfl (hb hby d_own_andm_4) rfl (decide_eq_true (congrArg Value.ref ha4)) (by decide) (by decide) k) ?_
    show own_Go p.tables e below F (T1.setTop (mkF m 14 #[.val (.ref u1), .val (.ref v1)] []))
    obtain ⟨T2, X2, e2, st2⟩ := getS2 X1 hx hZ hown (host := "") (Or.inl (hw _ (List.mem_of_getElem? (i := 13) rfl))) Via.refl e1 kF.1 (g := (mkF m 14 #[.val (.ref u1), .val (.ref v1)] [])) rfl (hb hby d_own_andm_14)
    refine own_st st2 ?_
    show own_Go p.tables e below F (T2.setTop (mkF m 17 #[.val (.ref u1), .val (.ref v1)] [(.ref aF)]))
    obtain ⟨fs, hr, hrun, hended, hW, hsame⟩ := X2.leave (v := some (.ref aF)) (fun h => by rw [Bd.returns] at h; cases h)
    refine own_end hF (o := .returned (some (.ref aF))) (retOut X2 hx (t := (.object "com/example/enox/enox/language/Truth")) (i := .areturn) Bd.returns rfl (Or.inr (Or.inr (Or.inr (Or.inr ⟨rfl, rfl, rfl⟩)))) (hb hby d_own_andm_17) hr) ?_
    refine ⟨hrun, hended, _, _, rfl, ?_, ⟨_, rfl⟩, hW, hsame.mono (by decide) (by decide)⟩
    exact ⟨by simp [own_and, ha4], N0, e2⟩
  ·
    refine own_st (fun _ k => Jvm.RoadKit.acmp (g := (mkF m 4 #[.val (.ref u1), .val (.ref v1)] [(.ref aF), (.ref u1)])) X1 hx rfl rfl rfl (pc0 := 4) (pc' := 7) (same := false) rfl (hb hby d_own_andm_4) rfl (decide_eq_false fun q => ha4 (Value.ref.inj q)) (by decide) (by decide) k) ?_
    show own_Go p.tables e below F (T1.setTop (mkF m 7 #[.val (.ref u1), .val (.ref v1)] []))
    refine own_st (fun _ k => XS.aloadN X1.here hx rfl (hb hby d_own_andm_7) rfl rfl k) ?_
    show own_Go p.tables e below F (T1.setTop (mkF m 8 #[.val (.ref u1), .val (.ref v1)] [(.ref v1)]))
    obtain ⟨T3, X3, e3, st3⟩ := getS2 X1 hx hZ hown (host := "") (Or.inl (hw _ (List.mem_of_getElem? (i := 13) rfl))) Via.refl e1 kF.1 (g := (mkF m 8 #[.val (.ref u1), .val (.ref v1)] [(.ref v1)])) rfl (hb hby d_own_andm_8)
    refine own_st st3 ?_
    show own_Go p.tables e below F (T3.setTop (mkF m 11 #[.val (.ref u1), .val (.ref v1)] [(.ref aF), (.ref v1)]))
    by_cases ha11 : v1 = aF
    ·
      refine own_st (fun _ k => Jvm.RoadKit.acmp (g := (mkF m 11 #[.val (.ref u1), .val (.ref v1)] [(.ref aF), (.ref v1)])) X3 hx rfl rfl rfl (pc0 := 11) (pc' := 14) (same := true) rfl (hb hby d_own_andm_11) rfl (decide_eq_true (congrArg Value.ref ha11)) (by decide) (by decide) k) ?_
      show own_Go p.tables e below F (T3.setTop (mkF m 14 #[.val (.ref u1), .val (.ref v1)] []))
      obtain ⟨T4, X4, e4, st4⟩ := getS2 X3 hx hZ hown (host := "") (Or.inl (hw _ (List.mem_of_getElem? (i := 13) rfl))) Via.refl e3 kF.1 (g := (mkF m 14 #[.val (.ref u1), .val (.ref v1)] [])) rfl (hb hby d_own_andm_14)
      refine own_st st4 ?_
      show own_Go p.tables e below F (T4.setTop (mkF m 17 #[.val (.ref u1), .val (.ref v1)] [(.ref aF)]))
      obtain ⟨fs, hr, hrun, hended, hW, hsame⟩ := X4.leave (v := some (.ref aF)) (fun h => by rw [Bd.returns] at h; cases h)
      refine own_end hF (o := .returned (some (.ref aF))) (retOut X4 hx (t := (.object "com/example/enox/enox/language/Truth")) (i := .areturn) Bd.returns rfl (Or.inr (Or.inr (Or.inr (Or.inr ⟨rfl, rfl, rfl⟩)))) (hb hby d_own_andm_17) hr) ?_
      refine ⟨hrun, hended, _, _, rfl, ?_, ⟨_, rfl⟩, hW, hsame.mono (by decide) (by decide)⟩
      exact ⟨by simp [own_and, ha4, ha11], N0, e4⟩
    ·
      refine own_st (fun _ k => Jvm.RoadKit.acmp (g := (mkF m 11 #[.val (.ref u1), .val (.ref v1)] [(.ref aF), (.ref v1)])) X3 hx rfl rfl rfl (pc0 := 11) (pc' := 18) (same := false) rfl (hb hby d_own_andm_11) rfl (decide_eq_false fun q => ha11 (Value.ref.inj q)) (by decide) (by decide) k) ?_
      show own_Go p.tables e below F (T3.setTop (mkF m 18 #[.val (.ref u1), .val (.ref v1)] []))
      refine own_st (fun _ k => XS.aloadN X3.here hx rfl (hb hby d_own_andm_18) rfl rfl k) ?_
      show own_Go p.tables e below F (T3.setTop (mkF m 19 #[.val (.ref u1), .val (.ref v1)] [(.ref u1)]))
      obtain ⟨T5, X5, e5, st5⟩ := getS2 X3 hx hZ hown (host := "") (Or.inl (hw _ (List.mem_of_getElem? (i := 22) rfl))) Via.refl e3 kB.1 (g := (mkF m 19 #[.val (.ref u1), .val (.ref v1)] [(.ref u1)])) rfl (hb hby d_own_andm_19)
      refine own_st st5 ?_
      show own_Go p.tables e below F (T5.setTop (mkF m 22 #[.val (.ref u1), .val (.ref v1)] [(.ref aB), (.ref u1)]))
      by_cases ha22 : u1 = aB
      ·
        refine own_st (fun _ k => Jvm.RoadKit.acmp (g := (mkF m 22 #[.val (.ref u1), .val (.ref v1)] [(.ref aB), (.ref u1)])) X5 hx rfl rfl rfl (pc0 := 22) (pc' := 32) (same := true) rfl (hb hby d_own_andm_22) rfl (decide_eq_true (congrArg Value.ref ha22)) (by decide) (by decide) k) ?_
        show own_Go p.tables e below F (T5.setTop (mkF m 32 #[.val (.ref u1), .val (.ref v1)] []))
        obtain ⟨T6, X6, e6, st6⟩ := getS2 X5 hx hZ hown (host := "") (Or.inl (hw _ (List.mem_of_getElem? (i := 22) rfl))) Via.refl e5 kB.1 (g := (mkF m 32 #[.val (.ref u1), .val (.ref v1)] [])) rfl (hb hby d_own_andm_32)
        refine own_st st6 ?_
        show own_Go p.tables e below F (T6.setTop (mkF m 35 #[.val (.ref u1), .val (.ref v1)] [(.ref aB)]))
        refine own_st (fun _ k => XS.goto X6.here hx rfl (pc0 := 35) (pc' := 41) rfl (hb hby d_own_andm_35) (by decide) (by decide) k) ?_
        show own_Go p.tables e below F (T6.setTop (mkF m 41 #[.val (.ref u1), .val (.ref v1)] [(.ref aB)]))
        obtain ⟨fs, hr, hrun, hended, hW, hsame⟩ := X6.leave (v := some (.ref aB)) (fun h => by rw [Bd.returns] at h; cases h)
        refine own_end hF (o := .returned (some (.ref aB))) (retOut X6 hx (t := (.object "com/example/enox/enox/language/Truth")) (i := .areturn) Bd.returns rfl (Or.inr (Or.inr (Or.inr (Or.inr ⟨rfl, rfl, rfl⟩)))) (hb hby d_own_andm_41) hr) ?_
        refine ⟨hrun, hended, _, _, rfl, ?_, ⟨_, rfl⟩, hW, hsame.mono (by decide) (by decide)⟩
        exact ⟨by simp [own_and, ha4, ha11, ha22], N0, e6⟩
      ·
        refine own_st (fun _ k => Jvm.RoadKit.acmp (g := (mkF m 22 #[.val (.ref u1), .val (.ref v1)] [(.ref aB), (.ref u1)])) X5 hx rfl rfl rfl (pc0 := 22) (pc' := 25) (same := false) rfl (hb hby d_own_andm_22) rfl (decide_eq_false fun q => ha22 (Value.ref.inj q)) (by decide) (by decide) k) ?_
        show own_Go p.tables e below F (T5.setTop (mkF m 25 #[.val (.ref u1), .val (.ref v1)] []))
        refine own_st (fun _ k => XS.aloadN X5.here hx rfl (hb hby d_own_andm_25) rfl rfl k) ?_
        show own_Go p.tables e below F (T5.setTop (mkF m 26 #[.val (.ref u1), .val (.ref v1)] [(.ref v1)]))
        obtain ⟨T7, X7, e7, st7⟩ := getS2 X5 hx hZ hown (host := "") (Or.inl (hw _ (List.mem_of_getElem? (i := 22) rfl))) Via.refl e5 kB.1 (g := (mkF m 26 #[.val (.ref u1), .val (.ref v1)] [(.ref v1)])) rfl (hb hby d_own_andm_26)
        refine own_st st7 ?_
        show own_Go p.tables e below F (T7.setTop (mkF m 29 #[.val (.ref u1), .val (.ref v1)] [(.ref aB), (.ref v1)]))
        by_cases ha29 : v1 = aB
        ·
          refine own_st (fun _ k => Jvm.RoadKit.acmp (g := (mkF m 29 #[.val (.ref u1), .val (.ref v1)] [(.ref aB), (.ref v1)])) X7 hx rfl rfl rfl (pc0 := 29) (pc' := 32) (same := true) rfl (hb hby d_own_andm_29) rfl (decide_eq_true (congrArg Value.ref ha29)) (by decide) (by decide) k) ?_
          show own_Go p.tables e below F (T7.setTop (mkF m 32 #[.val (.ref u1), .val (.ref v1)] []))
          obtain ⟨T8, X8, e8, st8⟩ := getS2 X7 hx hZ hown (host := "") (Or.inl (hw _ (List.mem_of_getElem? (i := 22) rfl))) Via.refl e7 kB.1 (g := (mkF m 32 #[.val (.ref u1), .val (.ref v1)] [])) rfl (hb hby d_own_andm_32)
          refine own_st st8 ?_
          show own_Go p.tables e below F (T8.setTop (mkF m 35 #[.val (.ref u1), .val (.ref v1)] [(.ref aB)]))
          refine own_st (fun _ k => XS.goto X8.here hx rfl (pc0 := 35) (pc' := 41) rfl (hb hby d_own_andm_35) (by decide) (by decide) k) ?_
          show own_Go p.tables e below F (T8.setTop (mkF m 41 #[.val (.ref u1), .val (.ref v1)] [(.ref aB)]))
          obtain ⟨fs, hr, hrun, hended, hW, hsame⟩ := X8.leave (v := some (.ref aB)) (fun h => by rw [Bd.returns] at h; cases h)
          refine own_end hF (o := .returned (some (.ref aB))) (retOut X8 hx (t := (.object "com/example/enox/enox/language/Truth")) (i := .areturn) Bd.returns rfl (Or.inr (Or.inr (Or.inr (Or.inr ⟨rfl, rfl, rfl⟩)))) (hb hby d_own_andm_41) hr) ?_
          refine ⟨hrun, hended, _, _, rfl, ?_, ⟨_, rfl⟩, hW, hsame.mono (by decide) (by decide)⟩
          exact ⟨by simp [own_and, ha4, ha11, ha22, ha29], N0, e8⟩
        ·
          refine own_st (fun _ k => Jvm.RoadKit.acmp (g := (mkF m 29 #[.val (.ref u1), .val (.ref v1)] [(.ref aB), (.ref v1)])) X7 hx rfl rfl rfl (pc0 := 29) (pc' := 38) (same := false) rfl (hb hby d_own_andm_29) rfl (decide_eq_false fun q => ha29 (Value.ref.inj q)) (by decide) (by decide) k) ?_
          show own_Go p.tables e below F (T7.setTop (mkF m 38 #[.val (.ref u1), .val (.ref v1)] []))
          obtain ⟨T9, X9, e9, st9⟩ := getS2 X7 hx hZ hown (host := "") (Or.inl (hw _ (List.mem_of_getElem? (i := 23) rfl))) Via.refl e7 kT.1 (g := (mkF m 38 #[.val (.ref u1), .val (.ref v1)] [])) rfl (hb hby d_own_andm_38)
          refine own_st st9 ?_
          show own_Go p.tables e below F (T9.setTop (mkF m 41 #[.val (.ref u1), .val (.ref v1)] [(.ref aT)]))
          obtain ⟨fs, hr, hrun, hended, hW, hsame⟩ := X9.leave (v := some (.ref aT)) (fun h => by rw [Bd.returns] at h; cases h)
          refine own_end hF (o := .returned (some (.ref aT))) (retOut X9 hx (t := (.object "com/example/enox/enox/language/Truth")) (i := .areturn) Bd.returns rfl (Or.inr (Or.inr (Or.inr (Or.inr ⟨rfl, rfl, rfl⟩)))) (hb hby d_own_andm_41) hr) ?_
          refine ⟨hrun, hended, _, _, rfl, ?_, ⟨_, rfl⟩, hW, hsame.mono (by decide) (by decide)⟩
          exact ⟨by simp [own_and, ha4, ha11, ha22, ha29], N0, e9⟩
theorem d_own_minm_0 : decode jdk_29_method_69_code 0 = .ok (.iload_n 0, 1) := by decide +kernel
theorem d_own_minm_1 : decode jdk_29_method_69_code 1 = .ok (.iload_n 1, 1) := by decide +kernel
theorem d_own_minm_2 : decode jdk_29_method_69_code 2 = .ok (.if_icmp .gt 7, 3) := by decide +kernel
theorem d_own_minm_5 : decode jdk_29_method_69_code 5 = .ok (.iload_n 0, 1) := by decide +kernel
theorem d_own_minm_6 : decode jdk_29_method_69_code 6 = .ok (.goto 4, 3) := by decide +kernel
theorem d_own_minm_9 : decode jdk_29_method_69_code 9 = .ok (.iload_n 1, 1) := by decide +kernel
theorem d_own_minm_10 : decode jdk_29_method_69_code 10 = .ok (.ireturn, 1) := by decide +kernel
set_option maxRecDepth 65536 in
set_option maxHeartbeats 40000000 in
theorem own_minm (l : Launch) (Z : State) (a0 : Array Value) (hw : ∀ d ∈ tables_1, d.before a0 Z = true) (ws : List Jvm.Cond) (p1 p2 : Int32) (h0 : Heap) (n0 : Nat)  :
    own_Met l Z (⟨"java/lang/Math", "min", "(II)I"⟩ : MethodName) jdk_29_method_69_code 2 (some .int) ws ({ frames := 0, cells := 0, slots := 0, locals := 0 } : Room) #[(.int p1), (.int p2)] h0 (own_Qp (.int (own_min p1 p2)) h0 n0) := by
  refine MetFree.of_bodySF (Jvm.Free.JP.mathPlain rfl (by decide +kernel)) hisR ?_
  intro p e s m args below meth c s₁ Bd hml0 hP hK
  obtain ⟨rfl, hZ, hh⟩ := hP
  have hx := Bd.exec
  have hby := Bd.bytes
  have hml : c.maxLocals = 2 := hml0
  have hown : s.vm.findClass "java/lang/Math" = some m.cls := findClass_of_methodNamed Bd.named
  have hnm := (name_of_methodNamed Bd.named Bd.method).1
  have X0 : Stand p l e ({ frames := 0, cells := 0, slots := 0, locals := 0 } : Room) s m #[(.int p1), (.int p2)] below meth c s₁ [] 0 0 := Stand.of_body Bd
  have e0 : s₁.heap = h0 := by rw [← hh, Bd.state]; rfl
  have N0 := Fr.nil n0
  have hst : entryFrame m #[(.int p1), (.int p2)] 2 = mkF m 0 #[.val (.int p1), .val (.int p2)] [] := by first | (simp [entryFrame, mkF, argsToLocals, Value.category, maxLocals]; done) | rfl
  obtain ⟨F, hF⟩ : ∃ F : State → Outcome → Prop, F = fun s₂ o => (s₂.status = .running ∧ Ended s₂ below o ∧ ∃ v L, o = .returned v ∧ (own_Qp (.int (own_min p1 p2)) h0 n0) v s₂.heap L ∧ FrameEnd s o s₂ L (Room.cells ({ frames := 0, cells := 0, slots := 0, locals := 0 } : Room)) (Room.slots ({ frames := 0, cells := 0, slots := 0, locals := 0 } : Room))) := ⟨_, rfl⟩
  suffices G : own_Go p.tables e below F (s₁.setTop (mkF m 0 #[.val (.int p1), .val (.int p2)] [])) by
    obtain ⟨t, o, a, b⟩ := G
    rw [hF] at b
    exact ⟨t, o, castTop hst a, b⟩
  show own_Go p.tables e below F (s₁.setTop (mkF m 0 #[.val (.int p1), .val (.int p2)] []))
  refine own_st (fun _ k => XS.iloadN X0.here hx rfl (hb hby d_own_minm_0) rfl k) ?_
  show own_Go p.tables e below F (s₁.setTop (mkF m 1 #[.val (.int p1), .val (.int p2)] [(.int p1)]))
  refine own_st (fun _ k => XS.iloadN X0.here hx rfl (hb hby d_own_minm_1) rfl k) ?_
  show own_Go p.tables e below F (s₁.setTop (mkF m 2 #[.val (.int p1), .val (.int p2)] [(.int p2), (.int p1)]))
  by_cases hc2 : p2 < p1
  ·
    refine own_st (fun _ k => XS.icmpYes X0.here hx rfl (pc0 := 2) (pc' := 9) rfl (hb hby d_own_minm_2) rfl (tlt hc2).2.2.1 (by decide) (by decide) k) ?_
    show own_Go p.tables e below F (s₁.setTop (mkF m 9 #[.val (.int p1), .val (.int p2)] []))
    refine own_st (fun _ k => XS.iloadN X0.here hx rfl (hb hby d_own_minm_9) rfl k) ?_
    show own_Go p.tables e below F (s₁.setTop (mkF m 10 #[.val (.int p1), .val (.int p2)] [(.int p2)]))
    obtain ⟨fs, hr, hrun, hended, hW, hsame⟩ := X0.leave (v := some (.int p2)) (fun h => by rw [Bd.returns] at h; cases h)
    refine own_end hF (o := .returned (some (.int p2))) (retI X0 hx Bd.returns (hb hby d_own_minm_10) hr) ?_
    refine ⟨hrun, hended, _, _, rfl, ?_, ⟨_, rfl⟩, hW, hsame.mono (by decide) (by decide)⟩
    exact ⟨by simp [own_min, hc2], N0, e0⟩
  ·
    refine own_st (fun _ k => XS.icmpNo X0.here hx rfl (hb hby d_own_minm_2) rfl (flt hc2).2.2.1 k) ?_
    show own_Go p.tables e below F (s₁.setTop (mkF m 5 #[.val (.int p1), .val (.int p2)] []))
    refine own_st (fun _ k => XS.iloadN X0.here hx rfl (hb hby d_own_minm_5) rfl k) ?_
    show own_Go p.tables e below F (s₁.setTop (mkF m 6 #[.val (.int p1), .val (.int p2)] [(.int p1)]))
    refine own_st (fun _ k => XS.goto X0.here hx rfl (pc0 := 6) (pc' := 10) rfl (hb hby d_own_minm_6) (by decide) (by decide) k) ?_
    show own_Go p.tables e below F (s₁.setTop (mkF m 10 #[.val (.int p1), .val (.int p2)] [(.int p1)]))
    obtain ⟨fs, hr, hrun, hended, hW, hsame⟩ := X0.leave (v := some (.int p1)) (fun h => by rw [Bd.returns] at h; cases h)
    refine own_end hF (o := .returned (some (.int p1))) (retI X0 hx Bd.returns (hb hby d_own_minm_10) hr) ?_
    refine ⟨hrun, hended, _, _, rfl, ?_, ⟨_, rfl⟩, hW, hsame.mono (by decide) (by decide)⟩
    exact ⟨by simp [own_min, hc2], N0, e0⟩
theorem pd_0 : parseMethodDescriptor "(I)Lcom/example/enox/enox/language/Truth;" = some ⟨[.int], some (.object "com/example/enox/enox/language/Truth")⟩ := by decide +kernel
theorem pd_1 : parseMethodDescriptor "(Lcom/example/enox/enox/language/Truth;)Lcom/example/enox/enox/language/Truth;" = some ⟨[(.object "com/example/enox/enox/language/Truth")], some (.object "com/example/enox/enox/language/Truth")⟩ := by decide +kernel
theorem pd_2 : parseMethodDescriptor "(II)I" = some ⟨[.int, .int], some .int⟩ := by decide +kernel
set_option maxRecDepth 65536 in
set_option maxHeartbeats 40000000 in
theorem own_law (l : Launch) (Z : State) (a0 : Array Value) (hw : ∀ d ∈ tables_1, d.before a0 Z = true) (ws : List Jvm.Cond) (p1 p2 : Int32) (aF aB aT : Addr) (h0 : Heap) (n0 : Nat) (kF : own_K Z h0 "FALSE" aF 1) (kB : own_K Z h0 "BOTTOM" aB 2) (kT : own_K Z h0 "TRUE" aT 0) :
    own_Met l Z x code maxLocals ret ws room_1 #[(.int p1), (.int p2)] h0 (own_Q0 h0 n0) := by
  refine MetFree.of_bodySF (plainFor_of_name pn_com_example_enox_enox_language_TruthAndPinLaw) hisR ?_
  intro p e s m args below meth c s₁ Bd hml0 hP hK
  obtain ⟨rfl, hZ, hh⟩ := hP
  have hx := Bd.exec
  have hby := Bd.bytes
  have hml : c.maxLocals = 7 := hml0
  have hown : s.vm.findClass "com/example/enox/enox/language/TruthAndPinLaw" = some m.cls := findClass_of_methodNamed Bd.named
  have hnm := (name_of_methodNamed Bd.named Bd.method).1
  have X0 : Stand p l e room_1 s m #[(.int p1), (.int p2)] below meth c s₁ [] 0 0 := Stand.of_body Bd
  have e0 : s₁.heap = h0 := by rw [← hh, Bd.state]; rfl
  have N0 := Fr.nil n0
  have hst : entryFrame m #[(.int p1), (.int p2)] maxLocals = mkF m 0 #[.val (.int p1), .val (.int p2), .unset, .unset, .unset, .unset, .unset] [] := by first | (simp [entryFrame, mkF, argsToLocals, Value.category, maxLocals]; done) | rfl
  obtain ⟨F, hF⟩ : ∃ F : State → Outcome → Prop, F = fun s₂ o => (s₂.status = .running ∧ Ended s₂ below o ∧ ∃ v L, o = .returned v ∧ (own_Q0 h0 n0) v s₂.heap L ∧ FrameEnd s o s₂ L (Room.cells room_1) (Room.slots room_1)) := ⟨_, rfl⟩
  suffices G : own_Go p.tables e below F (s₁.setTop (mkF m 0 #[.val (.int p1), .val (.int p2), .unset, .unset, .unset, .unset, .unset] [])) by
    obtain ⟨t, o, a, b⟩ := G
    rw [hF] at b
    exact ⟨t, o, castTop hst a, b⟩
  show own_Go p.tables e below F (s₁.setTop (mkF m 0 #[.val (.int p1), .val (.int p2), .unset, .unset, .unset, .unset, .unset] []))
  refine own_st (fun _ k => XS.iloadN X0.here hx rfl (hb hby at_0) rfl k) ?_
  show own_Go p.tables e below F (s₁.setTop (mkF m 1 #[.val (.int p1), .val (.int p2), .unset, .unset, .unset, .unset, .unset] [(.int p1)]))
  refine own_st (X0.ldcInt hx hown (mvT hZ (hw _ (List.mem_of_getElem? (i := 0) rfl))) (g := (mkF m 1 #[.val (.int p1), .val (.int p2), .unset, .unset, .unset, .unset, .unset] [(.int p1)])) rfl (hb hby at_1)) ?_
  show own_Go p.tables e below F (s₁.setTop (mkF m 3 #[.val (.int p1), .val (.int p2), .unset, .unset, .unset, .unset, .unset] [(.int (2147483647 : Int32)), (.int p1)]))
  refine own_st (fun _ k => XS.iand X0.here hx rfl (hb hby at_3) rfl k) ?_
  show own_Go p.tables e below F (s₁.setTop (mkF m 4 #[.val (.int p1), .val (.int p2), .unset, .unset, .unset, .unset, .unset] [(.int (p1 &&& (2147483647 : Int32)))]))
  refine own_st (fun _ k => XS.iconst X0.here hx rfl (hb hby at_4) k) ?_
  show own_Go p.tables e below F (s₁.setTop (mkF m 5 #[.val (.int p1), .val (.int p2), .unset, .unset, .unset, .unset, .unset] [(.int (3 : Int32)), (.int (p1 &&& (2147483647 : Int32)))]))
  refine own_st (fun _ k => Jvm.RoadKit.iremM X0 hx rfl (hb hby at_5) rfl (by decide) k) ?_
  show own_Go p.tables e below F (s₁.setTop (mkF m 6 #[.val (.int p1), .val (.int p2), .unset, .unset, .unset, .unset, .unset] [(.int ((p1 &&& (2147483647 : Int32)) % (3 : Int32)))]))
  refine own_st (fun _ k => XS.istoreN X0.here hx rfl (hb hby at_6) rfl (l' := #[.val (.int p1), .val (.int p2), .val (.int ((p1 &&& (2147483647 : Int32)) % (3 : Int32))), .unset, .unset, .unset, .unset]) rfl k) ?_
  show own_Go p.tables e below F (s₁.setTop (mkF m 7 #[.val (.int p1), .val (.int p2), .val (.int ((p1 &&& (2147483647 : Int32)) % (3 : Int32))), .unset, .unset, .unset, .unset] []))
  refine own_st (fun _ k => XS.iloadN X0.here hx rfl (hb hby at_7) rfl k) ?_
  show own_Go p.tables e below F (s₁.setTop (mkF m 8 #[.val (.int p1), .val (.int p2), .val (.int ((p1 &&& (2147483647 : Int32)) % (3 : Int32))), .unset, .unset, .unset, .unset] [(.int p2)]))
  refine own_st (X0.ldcInt hx hown (mvT hZ (hw _ (List.mem_of_getElem? (i := 0) rfl))) (g := (mkF m 8 #[.val (.int p1), .val (.int p2), .val (.int ((p1 &&& (2147483647 : Int32)) % (3 : Int32))), .unset, .unset, .unset, .unset] [(.int p2)])) rfl (hb hby at_8)) ?_
  show own_Go p.tables e below F (s₁.setTop (mkF m 10 #[.val (.int p1), .val (.int p2), .val (.int ((p1 &&& (2147483647 : Int32)) % (3 : Int32))), .unset, .unset, .unset, .unset] [(.int (2147483647 : Int32)), (.int p2)]))
  refine own_st (fun _ k => XS.iand X0.here hx rfl (hb hby at_10) rfl k) ?_
  show own_Go p.tables e below F (s₁.setTop (mkF m 11 #[.val (.int p1), .val (.int p2), .val (.int ((p1 &&& (2147483647 : Int32)) % (3 : Int32))), .unset, .unset, .unset, .unset] [(.int (p2 &&& (2147483647 : Int32)))]))
  refine own_st (fun _ k => XS.iconst X0.here hx rfl (hb hby at_11) k) ?_
  show own_Go p.tables e below F (s₁.setTop (mkF m 12 #[.val (.int p1), .val (.int p2), .val (.int ((p1 &&& (2147483647 : Int32)) % (3 : Int32))), .unset, .unset, .unset, .unset] [(.int (3 : Int32)), (.int (p2 &&& (2147483647 : Int32)))]))
  refine own_st (fun _ k => Jvm.RoadKit.iremM X0 hx rfl (hb hby at_12) rfl (by decide) k) ?_
  show own_Go p.tables e below F (s₁.setTop (mkF m 13 #[.val (.int p1), .val (.int p2), .val (.int ((p1 &&& (2147483647 : Int32)) % (3 : Int32))), .unset, .unset, .unset, .unset] [(.int ((p2 &&& (2147483647 : Int32)) % (3 : Int32)))]))
  refine own_st (fun _ k => XS.istoreN X0.here hx rfl (hb hby at_13) rfl (l' := #[.val (.int p1), .val (.int p2), .val (.int ((p1 &&& (2147483647 : Int32)) % (3 : Int32))), .val (.int ((p2 &&& (2147483647 : Int32)) % (3 : Int32))), .unset, .unset, .unset]) rfl k) ?_
  show own_Go p.tables e below F (s₁.setTop (mkF m 14 #[.val (.int p1), .val (.int p2), .val (.int ((p1 &&& (2147483647 : Int32)) % (3 : Int32))), .val (.int ((p2 &&& (2147483647 : Int32)) % (3 : Int32))), .unset, .unset, .unset] []))
  have hi := own_mod3 p1
  have hj := own_mod3 p2
  generalize (p1 &&& (2147483647 : Int32)) % (3 : Int32) = i at hi ⊢
  generalize (p2 &&& (2147483647 : Int32)) % (3 : Int32) = j at hj ⊢
  show own_Go p.tables e below F (s₁.setTop (mkF m 14 #[.val (.int p1), .val (.int p2), .val (.int i), .val (.int j), .unset, .unset, .unset] []))
  refine own_st (fun _ k => XS.iloadN X0.here hx rfl (hb hby at_14) rfl k) ?_
  show own_Go p.tables e below F (s₁.setTop (mkF m 15 #[.val (.int p1), .val (.int p2), .val (.int i), .val (.int j), .unset, .unset, .unset] [(.int i)]))
  obtain ⟨_, _, ⟨T1, L1, k1, n1⟩, -, X1, ⟨Lc1, hQ1, l1, y1, z1⟩, st1⟩ := Jvm.LawKit.callS X0 hx (y := (⟨"com/example/enox/enox/language/TruthAndPinLaw", "pick", "(I)Lcom/example/enox/enox/language/Truth;"⟩ : MethodName)) hown (mvT hZ (hw _ (List.mem_of_getElem? (i := 1) rfl))) (mvT hZ (hw _ (List.mem_of_getElem? (i := 2) rfl))) (mvT hZ (hw _ (List.mem_of_getElem? (i := 3) rfl))) (mvT hZ (hw _ (List.mem_of_getElem? (i := 4) rfl))) (by decide) (backOf (W := 0) (own_pick l Z a0 hw [] i aF aB aT h0 n0 kF kB kT) hZ (hw _ (List.mem_of_getElem? (i := 4) rfl)) (hw _ (List.mem_of_getElem? (i := 3) rfl)) (by decide) (by decide)) (g := (mkF m 15 #[.val (.int p1), .val (.int p2), .val (.int i), .val (.int j), .unset, .unset, .unset] [(.int i)])) rfl (by rw [hml]; rfl) (argsL := [(.int i)]) (rest := []) (lenOf pd_0 rfl) rfl (by show 2 * 0 + _ ≤ _; exact Nat.le_of_eq rfl) (hb hby at_15) (fun _ _ => ⟨rfl, e0, (by decide : 0 + 0 ≤ _), (by decide : 0 + 0 ≤ _)⟩)
  dsimp only [Pt.U, Pt.locs, Pt.cells, Pt.slots] at X1 l1 y1 z1 st1 hQ1
  subst l1 y1 z1
  obtain ⟨rfl, N1q, e1⟩ := hQ1
  have N1 := Fr.app N0 N1q
  refine own_st (st1) ?_
  show own_Go p.tables e below F (T1.setTop (mkF m 18 #[.val (.int p1), .val (.int p2), .val (.int i), .val (.int j), .unset, .unset, .unset] [(.ref (own_pk aF aB aT i))]))
  refine own_st (fun _ k => XS.astore X1.here hx rfl (hb hby at_18) rfl rfl (l' := #[.val (.int p1), .val (.int p2), .val (.int i), .val (.int j), .val (.ref (own_pk aF aB aT i)), .unset, .unset]) rfl k) ?_
  show own_Go p.tables e below F (T1.setTop (mkF m 20 #[.val (.int p1), .val (.int p2), .val (.int i), .val (.int j), .val (.ref (own_pk aF aB aT i)), .unset, .unset] []))
  refine own_st (fun _ k => XS.iloadN X1.here hx rfl (hb hby at_20) rfl k) ?_
  show own_Go p.tables e below F (T1.setTop (mkF m 21 #[.val (.int p1), .val (.int p2), .val (.int i), .val (.int j), .val (.ref (own_pk aF aB aT i)), .unset, .unset] [(.int j)]))
  obtain ⟨_, _, ⟨T2, L2, k2, n2⟩, -, X2, ⟨Lc2, hQ2, l2, y2, z2⟩, st2⟩ := Jvm.LawKit.callS X1 hx (y := (⟨"com/example/enox/enox/language/TruthAndPinLaw", "pick", "(I)Lcom/example/enox/enox/language/Truth;"⟩ : MethodName)) hown (mvT hZ (hw _ (List.mem_of_getElem? (i := 1) rfl))) (mvT hZ (hw _ (List.mem_of_getElem? (i := 2) rfl))) (mvT hZ (hw _ (List.mem_of_getElem? (i := 3) rfl))) (mvT hZ (hw _ (List.mem_of_getElem? (i := 4) rfl))) (by decide) (backOf (W := 0) (own_pick l Z a0 hw [] j aF aB aT h0 n0 kF kB kT) hZ (hw _ (List.mem_of_getElem? (i := 4) rfl)) (hw _ (List.mem_of_getElem? (i := 3) rfl)) (by decide) (by decide)) (g := (mkF m 21 #[.val (.int p1), .val (.int p2), .val (.int i), .val (.int j), .val (.ref (own_pk aF aB aT i)), .unset, .unset] [(.int j)])) rfl (by rw [hml]; rfl) (argsL := [(.int j)]) (rest := []) (lenOf pd_0 rfl) rfl (by show 2 * 0 + _ ≤ _; exact Nat.le_of_eq rfl) (hb hby at_21) (fun _ _ => ⟨rfl, e1, (by decide : 0 + 0 ≤ _), (by decide : 0 + 0 ≤ _)⟩)
  dsimp only [Pt.U, Pt.locs, Pt.cells, Pt.slots] at X2 l2 y2 z2 st2 hQ2
  subst l2 y2 z2
  obtain ⟨rfl, N2q, e2⟩ := hQ2
  have N2 := Fr.app N1 N2q
  refine own_st (st2) ?_
  show own_Go p.tables e below F (T2.setTop (mkF m 24 #[.val (.int p1), .val (.int p2), .val (.int i), .val (.int j), .val (.ref (own_pk aF aB aT i)), .unset, .unset] [(.ref (own_pk aF aB aT j))]))
  refine own_st (fun _ k => XS.astore X2.here hx rfl (hb hby at_24) rfl rfl (l' := #[.val (.int p1), .val (.int p2), .val (.int i), .val (.int j), .val (.ref (own_pk aF aB aT i)), .val (.ref (own_pk aF aB aT j)), .unset]) rfl k) ?_
  show own_Go p.tables e below F (T2.setTop (mkF m 26 #[.val (.int p1), .val (.int p2), .val (.int i), .val (.int j), .val (.ref (own_pk aF aB aT i)), .val (.ref (own_pk aF aB aT j)), .unset] []))
  refine own_st (fun _ k => XS.aload X2.here hx rfl (hb hby at_26) rfl rfl k) ?_
  show own_Go p.tables e below F (T2.setTop (mkF m 28 #[.val (.int p1), .val (.int p2), .val (.int i), .val (.int j), .val (.ref (own_pk aF aB aT i)), .val (.ref (own_pk aF aB aT j)), .unset] [(.ref (own_pk aF aB aT i))]))
  refine own_st (fun _ k => XS.aload X2.here hx rfl (hb hby at_28) rfl rfl k) ?_
  show own_Go p.tables e below F (T2.setTop (mkF m 30 #[.val (.int p1), .val (.int p2), .val (.int i), .val (.int j), .val (.ref (own_pk aF aB aT i)), .val (.ref (own_pk aF aB aT j)), .unset] [(.ref (own_pk aF aB aT j)), (.ref (own_pk aF aB aT i))]))
  obtain ⟨cq3, kq3, q3a, q3b, q3c⟩ := isOf hZ e2 (own_exa kF.2.1 kB.2.1 kT.2.1 i)
  obtain ⟨_, _, ⟨T3, L3, k3, n3⟩, -, X3, ⟨Lc3, hQ3, l3, y3, z3⟩, st3⟩ := X2.virtualBack hx (y := (⟨"com/example/enox/enox/language/Truth", "and", "(Lcom/example/enox/enox/language/Truth;)Lcom/example/enox/enox/language/Truth;"⟩ : MethodName)) (z := (⟨"com/example/enox/enox/language/Truth", "and", "(Lcom/example/enox/enox/language/Truth;)Lcom/example/enox/enox/language/Truth;"⟩ : MethodName)) hown (mvT hZ (hw _ (List.mem_of_getElem? (i := 8) rfl))) (mvT hZ (hw _ (List.mem_of_getElem? (i := 9) rfl))) (notFace_of_selects (args := #[]) (mvT hZ (hw _ (List.mem_of_getElem? (i := 11) rfl)))) (mvT hZ (hw _ (List.mem_of_getElem? (i := 11) rfl))) (mvT hZ (hw _ (List.mem_of_getElem? (i := 10) rfl))) (by decide) (backOf (W := 0) (own_andm l Z a0 hw [] (own_pk aF aB aT i) (own_pk aF aB aT j) aF aB aT h0 n0 kF kB kT) hZ (hw _ (List.mem_of_getElem? (i := 12) rfl)) (hw _ (List.mem_of_getElem? (i := 6) rfl)) (by decide) (by decide)) q3a q3c (g := (mkF m 30 #[.val (.int p1), .val (.int p2), .val (.int i), .val (.int j), .val (.ref (own_pk aF aB aT i)), .val (.ref (own_pk aF aB aT j)), .unset] [(.ref (own_pk aF aB aT j)), (.ref (own_pk aF aB aT i))])) rfl (by rw [hml]; rfl) (Steps.refl _) (argsL := [(.ref (own_pk aF aB aT j))]) (rest := []) (lenOf pd_1 rfl) rfl (by show 2 * 0 + _ ≤ _; exact Nat.le_of_eq rfl) (hb hby at_30) (fun _ _ => ⟨rfl, e2, (by decide : 0 + 0 ≤ _), (by decide : 0 + 0 ≤ _)⟩)
  dsimp only [Pt.U, Pt.locs, Pt.cells, Pt.slots] at X3 l3 y3 z3 st3 hQ3
  subst l3 y3 z3
  obtain ⟨rfl, N3q, e3⟩ := hQ3
  have N3 := Fr.app N2 N3q
  refine own_st (fun _ k => st3.trans k) ?_
  show own_Go p.tables e below F (T3.setTop (mkF m 33 #[.val (.int p1), .val (.int p2), .val (.int i), .val (.int j), .val (.ref (own_pk aF aB aT i)), .val (.ref (own_pk aF aB aT j)), .unset] [(.ref (own_and aF aB aT (own_pk aF aB aT i) (own_pk aF aB aT j)))]))
  refine own_st (fun _ k => XS.astore X3.here hx rfl (hb hby at_33) rfl rfl (l' := #[.val (.int p1), .val (.int p2), .val (.int i), .val (.int j), .val (.ref (own_pk aF aB aT i)), .val (.ref (own_pk aF aB aT j)), .val (.ref (own_and aF aB aT (own_pk aF aB aT i) (own_pk aF aB aT j)))]) rfl k) ?_
  show own_Go p.tables e below F (T3.setTop (mkF m 35 #[.val (.int p1), .val (.int p2), .val (.int i), .val (.int j), .val (.ref (own_pk aF aB aT i)), .val (.ref (own_pk aF aB aT j)), .val (.ref (own_and aF aB aT (own_pk aF aB aT i) (own_pk aF aB aT j)))] []))
  refine own_st (fun _ k => XS.aload X3.here hx rfl (hb hby at_35) rfl rfl k) ?_
  show own_Go p.tables e below F (T3.setTop (mkF m 37 #[.val (.int p1), .val (.int p2), .val (.int i), .val (.int j), .val (.ref (own_pk aF aB aT i)), .val (.ref (own_pk aF aB aT j)), .val (.ref (own_and aF aB aT (own_pk aF aB aT i) (own_pk aF aB aT j)))] [(.ref (own_and aF aB aT (own_pk aF aB aT i) (own_pk aF aB aT j)))]))
  refine own_st (fun _ k => XS.iloadN X3.here hx rfl (hb hby at_37) rfl k) ?_
  show own_Go p.tables e below F (T3.setTop (mkF m 38 #[.val (.int p1), .val (.int p2), .val (.int i), .val (.int j), .val (.ref (own_pk aF aB aT i)), .val (.ref (own_pk aF aB aT j)), .val (.ref (own_and aF aB aT (own_pk aF aB aT i) (own_pk aF aB aT j)))] [(.int i), (.ref (own_and aF aB aT (own_pk aF aB aT i) (own_pk aF aB aT j)))]))
  refine own_st (fun _ k => XS.iloadN X3.here hx rfl (hb hby at_38) rfl k) ?_
  show own_Go p.tables e below F (T3.setTop (mkF m 39 #[.val (.int p1), .val (.int p2), .val (.int i), .val (.int j), .val (.ref (own_pk aF aB aT i)), .val (.ref (own_pk aF aB aT j)), .val (.ref (own_and aF aB aT (own_pk aF aB aT i) (own_pk aF aB aT j)))] [(.int j), (.int i), (.ref (own_and aF aB aT (own_pk aF aB aT i) (own_pk aF aB aT j)))]))
  obtain ⟨_, _, ⟨T4, L4, k4, n4⟩, -, X4, ⟨Lc4, hQ4, l4, y4, z4⟩, st4⟩ := Jvm.LawKit.callS X3 hx (y := (⟨"java/lang/Math", "min", "(II)I"⟩ : MethodName)) hown (mvT hZ (hw _ (List.mem_of_getElem? (i := 14) rfl))) (mvT hZ (hw _ (List.mem_of_getElem? (i := 15) rfl))) (mvT hZ (hw _ (List.mem_of_getElem? (i := 16) rfl))) (mvT hZ (hw _ (List.mem_of_getElem? (i := 17) rfl))) (by decide) (backOf (W := 1) (own_minm l Z a0 hw [] i j h0 n0) hZ (hw _ (List.mem_of_getElem? (i := 17) rfl)) (hw _ (List.mem_of_getElem? (i := 16) rfl)) (by decide) (by decide)) (g := (mkF m 39 #[.val (.int p1), .val (.int p2), .val (.int i), .val (.int j), .val (.ref (own_pk aF aB aT i)), .val (.ref (own_pk aF aB aT j)), .val (.ref (own_and aF aB aT (own_pk aF aB aT i) (own_pk aF aB aT j)))] [(.int j), (.int i), (.ref (own_and aF aB aT (own_pk aF aB aT i) (own_pk aF aB aT j)))])) rfl (by rw [hml]; rfl) (argsL := [(.int i), (.int j)]) (rest := [(.ref (own_and aF aB aT (own_pk aF aB aT i) (own_pk aF aB aT j)))]) (lenOf pd_2 rfl) rfl (by show 2 * 0 + _ ≤ _; exact Nat.le_of_eq rfl) (hb hby at_39) (fun _ _ => ⟨rfl, e3, (by decide : 0 + 0 ≤ _), (by decide : 0 + 0 ≤ _)⟩)
  dsimp only [Pt.U, Pt.locs, Pt.cells, Pt.slots] at X4 l4 y4 z4 st4 hQ4
  subst l4 y4 z4
  obtain ⟨rfl, N4q, e4⟩ := hQ4
  have N4 := Fr.app N3 N4q
  refine own_st (st4) ?_
  show own_Go p.tables e below F (T4.setTop (mkF m 42 #[.val (.int p1), .val (.int p2), .val (.int i), .val (.int j), .val (.ref (own_pk aF aB aT i)), .val (.ref (own_pk aF aB aT j)), .val (.ref (own_and aF aB aT (own_pk aF aB aT i) (own_pk aF aB aT j)))] [(.int (own_min i j)), (.ref (own_and aF aB aT (own_pk aF aB aT i) (own_pk aF aB aT j)))]))
  obtain ⟨_, _, ⟨T5, L5, k5, n5⟩, -, X5, ⟨Lc5, hQ5, l5, y5, z5⟩, st5⟩ := Jvm.LawKit.callS X4 hx (y := (⟨"com/example/enox/enox/language/TruthAndPinLaw", "pick", "(I)Lcom/example/enox/enox/language/Truth;"⟩ : MethodName)) hown (mvT hZ (hw _ (List.mem_of_getElem? (i := 1) rfl))) (mvT hZ (hw _ (List.mem_of_getElem? (i := 2) rfl))) (mvT hZ (hw _ (List.mem_of_getElem? (i := 3) rfl))) (mvT hZ (hw _ (List.mem_of_getElem? (i := 4) rfl))) (by decide) (backOf (W := 1) (own_pick l Z a0 hw [] (own_min i j) aF aB aT h0 n0 kF kB kT) hZ (hw _ (List.mem_of_getElem? (i := 4) rfl)) (hw _ (List.mem_of_getElem? (i := 3) rfl)) (by decide) (by decide)) (g := (mkF m 42 #[.val (.int p1), .val (.int p2), .val (.int i), .val (.int j), .val (.ref (own_pk aF aB aT i)), .val (.ref (own_pk aF aB aT j)), .val (.ref (own_and aF aB aT (own_pk aF aB aT i) (own_pk aF aB aT j)))] [(.int (own_min i j)), (.ref (own_and aF aB aT (own_pk aF aB aT i) (own_pk aF aB aT j)))])) rfl (by rw [hml]; rfl) (argsL := [(.int (own_min i j))]) (rest := [(.ref (own_and aF aB aT (own_pk aF aB aT i) (own_pk aF aB aT j)))]) (lenOf pd_0 rfl) rfl (by show 2 * 0 + _ ≤ _; exact Nat.le_of_eq rfl) (hb hby at_42) (fun _ _ => ⟨rfl, e4, (by decide : 0 + 0 ≤ _), (by decide : 0 + 0 ≤ _)⟩)
  dsimp only [Pt.U, Pt.locs, Pt.cells, Pt.slots] at X5 l5 y5 z5 st5 hQ5
  subst l5 y5 z5
  obtain ⟨rfl, N5q, e5⟩ := hQ5
  have N5 := Fr.app N4 N5q
  refine own_st (st5) ?_
  show own_Go p.tables e below F (T5.setTop (mkF m 45 #[.val (.int p1), .val (.int p2), .val (.int i), .val (.int j), .val (.ref (own_pk aF aB aT i)), .val (.ref (own_pk aF aB aT j)), .val (.ref (own_and aF aB aT (own_pk aF aB aT i) (own_pk aF aB aT j)))] [(.ref (own_pk aF aB aT (own_min i j))), (.ref (own_and aF aB aT (own_pk aF aB aT i) (own_pk aF aB aT j)))]))
  refine own_st (fun _ k => Jvm.RoadKit.acmp (g := (mkF m 45 #[.val (.int p1), .val (.int p2), .val (.int i), .val (.int j), .val (.ref (own_pk aF aB aT i)), .val (.ref (own_pk aF aB aT j)), .val (.ref (own_and aF aB aT (own_pk aF aB aT i) (own_pk aF aB aT j)))] [(.ref (own_pk aF aB aT (own_min i j))), (.ref (own_and aF aB aT (own_pk aF aB aT i) (own_pk aF aB aT j)))])) X5 hx rfl rfl rfl (pc0 := 45) (pc' := 48) (same := true) rfl (hb hby at_45) rfl (decide_eq_true (congrArg Value.ref (own_main (kF.2.2.ne kB.2.2 (by decide)) (kF.2.2.ne kT.2.2 (by decide)) (kB.2.2.ne kT.2.2 (by decide)) hi hj))) (by decide) (by decide) k) ?_
  show own_Go p.tables e below F (T5.setTop (mkF m 48 #[.val (.int p1), .val (.int p2), .val (.int i), .val (.int j), .val (.ref (own_pk aF aB aT i)), .val (.ref (own_pk aF aB aT j)), .val (.ref (own_and aF aB aT (own_pk aF aB aT i) (own_pk aF aB aT j)))] []))
  refine own_st (fun _ k => XS.iconst X5.here hx rfl (hb hby at_48) k) ?_
  show own_Go p.tables e below F (T5.setTop (mkF m 49 #[.val (.int p1), .val (.int p2), .val (.int i), .val (.int j), .val (.ref (own_pk aF aB aT i)), .val (.ref (own_pk aF aB aT j)), .val (.ref (own_and aF aB aT (own_pk aF aB aT i) (own_pk aF aB aT j)))] [(.int (1 : Int32))]))
  refine own_st (fun _ k => XS.goto X5.here hx rfl (pc0 := 49) (pc' := 53) rfl (hb hby at_49) (by decide) (by decide) k) ?_
  show own_Go p.tables e below F (T5.setTop (mkF m 53 #[.val (.int p1), .val (.int p2), .val (.int i), .val (.int j), .val (.ref (own_pk aF aB aT i)), .val (.ref (own_pk aF aB aT j)), .val (.ref (own_and aF aB aT (own_pk aF aB aT i) (own_pk aF aB aT j)))] [(.int (1 : Int32))]))
  obtain ⟨fs, hr, hrun, hended, hW, hsame⟩ := X5.leave (v := some (.int (1 : Int32))) (fun h => by rw [Bd.returns] at h; cases h)
  refine own_end hF (o := .returned (some (.int (1 : Int32)))) (retN X5 hx (t := .boolean) Bd.returns (by simp) (hb hby at_53) hr) ?_
  refine ⟨hrun, hended, _, _, rfl, ?_, ⟨_, rfl⟩, hW, hsame.mono (by decide) (by decide)⟩
  exact ⟨rfl, N5⟩
set_option maxRecDepth 65536 in
set_option maxHeartbeats 40000000 in
theorem comes_1 {Post : Tables → Env → Array Value → State → Outcome → State → Prop} (hpost : ∀ tb e args s v u, (limb_1_1.after args s (.returned v) u = true ∧ limb_1_2.after args s (.returned v) u = true ∧ True) → FrameEnd s (.returned v) u (Jvm.fieldLocs frame_1_writes args s ++ Jvm.arrayLocs frame_1_arrays args s ++ Jvm.staticLocs frame_1_statics s) 0 0 → Post tb e args s (.returned v) u) :
    ArmFor flags0 classFile x code maxLocals ret World_1 tables_1 room_1 Calls_1 rest_1 Pre_1 Post := by
  intro l hfl _ _ p e ha hc hk s m args below hf hA hF happ hP
  obtain ⟨hcalls, hrest, hpre⟩ := hP
  obtain ⟨-, -, -, hnamed, -, -, -, hat⟩ := (Spec.applies_iff hf).mp happ
  obtain ⟨hg, hn⟩ := and_e (Cond.before_iff.mp (show (Jvm.Cond.and given_1 narrow_1).before args s = true from hpre))
  obtain ⟨gc, gr0⟩ := and_e hg
  obtain ⟨ga0, gr1⟩ := and_e gr0
  have ga1 := gr1
  obtain ⟨w0, w1, rfl⟩ : ∃ w0 w1 : Value, args = #[w0, w1] := by
    have hs : args.size = 2 := by simpa [Cond.value, given_1] using gc
    obtain ⟨L⟩ := args
    match L, hs with
    | [w0, w1], _ => exact ⟨w0, w1, rfl⟩
  have hw := fun d (hd : d ∈ tables_1) => atoms_spec (ws := Jvm.Cond.code x code maxLocals ret :: tables_1) hat d (List.mem_cons_of_mem _ hd)
  have hfit : Fit s := fun {y c} hc i hi => by
    obtain ⟨ha, rfl⟩ := Array.getElem?_eq_some_iff.mp hc
    have q := List.all_eq_true.mp ((Array.all_eq_true_iff_forall_mem.mp hF) _ (Array.getElem_mem ha)) i (List.mem_range.mpr hi)
    simpa [Array.getElem?_eq_getElem hi] using q
  obtain ⟨i0, ei0⟩ := is_v ga0
  obtain rfl : w0 = (.int i0) := Option.some.inj ei0
  obtain ⟨i1, ei1⟩ := is_v ga1
  obtain rfl : w1 = (.int i1) := Option.some.inj ei1
  obtain ⟨xF, hn⟩ := and_e hn
  obtain ⟨xT, hn⟩ := and_e hn
  obtain ⟨xB, hn⟩ := and_e hn
  obtain ⟨oT, hn⟩ := and_e hn
  obtain ⟨oF, oB⟩ := and_e hn
  obtain ⟨aF, vF⟩ := exa_v xF
  have kF : own_K s s.heap "FALSE" aF 1 := ⟨Sta.start vF (Or.inr ⟨(hw _ (List.mem_of_getElem? (i := 6) rfl)), (hw _ (List.mem_of_getElem? (i := 7) rfl))⟩), Exa.start vF xF, own_fld vF oF⟩
  obtain ⟨aB, vB⟩ := exa_v xB
  have kB : own_K s s.heap "BOTTOM" aB 2 := ⟨Sta.start vB (Or.inr ⟨(hw _ (List.mem_of_getElem? (i := 6) rfl)), (hw _ (List.mem_of_getElem? (i := 21) rfl))⟩), Exa.start vB xB, own_fld vB oB⟩
  obtain ⟨aT, vT⟩ := exa_v xT
  have kT : own_K s s.heap "TRUE" aT 0 := ⟨Sta.start vT (Or.inr ⟨(hw _ (List.mem_of_getElem? (i := 6) rfl)), (hw _ (List.mem_of_getElem? (i := 19) rfl))⟩), Exa.start vT xT, own_fld vT oT⟩
  obtain ⟨n, o, h1, h2, h3, _, L, rfl, ⟨rfl, N⟩, hq⟩ := (own_law l s _ hw tables_1 i0 i1 aF aB aT s.heap s.heap.size kF kB kT) p e ha hc hk s m _ below hf ((Spec.applies_iff_loose hf).mp happ).1 ⟨rfl, State.Warmed39.refl s, rfl⟩ trivial
  refine ⟨n, _, h1, h2, h3, hpost _ _ _ _ _ _ ⟨Cond.after_iff.mpr rfl, Cond.after_iff.mpr (eq_i res_at (Term.int_eval (1)) rfl), trivial⟩ ⟨hq.1, hq.2.1, (hq.2.2.sift fun y hy => Or.inr (N y hy)).mono (by decide) (by decide)⟩⟩
theorem main_1_1 : Claimed_1_1 := comes_1 fun _ _ _ _ _ _ h hF => ⟨h.1, hF⟩
theorem main_1_2 : Claimed_1_2 := comes_1 fun _ _ _ _ _ _ h hF => ⟨h.2.1, hF⟩
end Jvm.Pilot.@@N@@
namespace Jvm.Pilot.@@N@@
open Jvm Jvm.ClassFile Sem Op Lib Jvm.Free Jvm.Stand Jvm.Pilot.@@N@@.Jvm.D
/-! MADE BY PROGRAM (witnessworld.py) out of the Statement's table words and the real class files: 13 classes; the members and pool entries that the words name. The judged class is class 1, her method 2. -/
namespace start1
open Jvm.ClassFile
def u (s : String) : CpInfo := .utf8 (stringToUtf16 s)
/-- a pool by its gaps: so many unusable entries, then the entry; so many at the end -/
def gap : Nat → List CpInfo → List CpInfo
  | 0, r => r
  | n + 1, r => .unusable :: gap n r
def poolList (es : List (Nat × CpInfo)) (last : Nat) : List CpInfo := es.foldr (fun e r => gap e.1 (e.2 :: r)) (gap last [])
def pool (es : List (Nat × CpInfo)) (last : Nat) : Array CpInfo := ⟨poolList es last⟩
def fileOf (pool : Array CpInfo) (this : Nat) (attrs : Array Attribute := #[]) (ms : Array MethodInfo := #[]) (fl : Nat := 33) (sup : Nat := 0) (ifs : Array Nat := #[]) (fds : Array FieldInfo := #[]) : ClassFile where
  minorVersion := 0
  majorVersion := 65
  constantPool := pool
  accessFlags := fl
  thisClass := this
  superClass := sup
  interfaces := ifs
  fields := fds
  methods := ms
  attributes := attrs
def plain (name : String) (sup : Option ClassId) : Class where
  name := name
  kind := .ordinary
  loader := none
  accessFlags := 33
  super := sup
  interfaces := #[]
  cf := none
  fields := #[]
  methods := #[]
  instanceTypes := #[]
  staticTypes := #[]
  resolved := #[]
  callSites := []
  init := .initialized
  statics := none
  mirror := none

def pool0 : Array CpInfo := pool [(5, u "<init>"), (0, u "()V"), (1, .class_ 10), (1, u "java/lang/Object")] 113

def k0m0 : Method := { name := "<init>", desc := "()V", sig := { parameters := [], returnType := none }, accessFlags := 1, code := none }
/-- java/lang/Object -/
def k0 : Class := { plain "java/lang/Object" none with
  accessFlags := 33
  interfaces := #[]
  cf := some (fileOf pool0 8 #[] #[{ accessFlags := 1, nameIndex := 5, descriptorIndex := 6, attributes := #[] }] 33 0 #[] #[])
  fields := #[]
  methods := #[k0m0]
  instanceTypes := #[]
  staticTypes := #[]
  resolved := Array.replicate 124 none
  statics := none }

def pool1 : Array CpInfo := pool [(2, .class_ 4), (1, u "java/lang/Object"), (0, u "<init>"), (0, u "()V"), (0, .fieldref 8 9), (0, .class_ 10), (0, .nameAndType 11 12), (0, u "com/example/enox/enox/language/Truth"), (0, u "FALSE"), (0, u "Lcom/example/enox/enox/language/Truth;"), (0, .fieldref 8 14), (0, .nameAndType 15 12), (0, u "BOTTOM"), (0, .fieldref 8 17), (0, .nameAndType 18 12), (0, u "TRUE"), (0, .integer 2147483647), (0, .methodref 21 22), (0, .class_ 23), (0, .nameAndType 24 25), (0, u "com/example/enox/enox/language/TruthAndPinLaw"), (0, u "pick"), (0, u "(I)Lcom/example/enox/enox/language/Truth;"), (0, .methodref 8 27), (0, .nameAndType 28 29), (0, u "and"), (0, u "(Lcom/example/enox/enox/language/Truth;)Lcom/example/enox/enox/language/Truth;"), (0, .methodref 31 32), (0, .class_ 33), (0, .nameAndType 34 35), (0, u "java/lang/Math"), (0, u "min"), (0, u "(II)I"), (3, u "law"), (0, u "(II)Z")] 2

def k1m0 : Method := { name := "<init>", desc := "()V", sig := { parameters := [], returnType := none }, accessFlags := 2, code := none }
def k1c1 : Code := { maxStack := 2, maxLocals := 1, code := method_2_code, exceptionTable := #[], attributes := #[] }
def k1m1 : Method := { name := "pick", desc := "(I)Lcom/example/enox/enox/language/Truth;", sig := { parameters := [.int], returnType := some (.object "com/example/enox/enox/language/Truth") }, accessFlags := 10, code := some k1c1 }
def k1c2 : Code := { maxStack := 3, maxLocals := 7, code := code, exceptionTable := #[], attributes := #[] }
def k1m2 : Method := { name := "law", desc := "(II)Z", sig := { parameters := [.int, .int], returnType := some .boolean }, accessFlags := 9, code := some k1c2 }
/-- com/example/enox/enox/language/TruthAndPinLaw -/
def k1 : Class := { plain "com/example/enox/enox/language/TruthAndPinLaw" (some 0) with
  accessFlags := 49
  interfaces := #[]
  cf := some (fileOf pool1 21 #[] #[{ accessFlags := 2, nameIndex := 5, descriptorIndex := 6, attributes := #[] }, { accessFlags := 10, nameIndex := 24, descriptorIndex := 25, attributes := #[] }, { accessFlags := 9, nameIndex := 39, descriptorIndex := 40, attributes := #[] }] 49 2 #[] #[])
  fields := #[]
  methods := #[k1m0, k1m1, k1m2]
  instanceTypes := #[]
  staticTypes := #[]
  resolved := Array.replicate 43 none
  statics := none }

def pool2 : Array CpInfo := pool [(1, .class_ 2), (0, u "java/lang/constant/Constable"), (0, .class_ 4), (0, u "java/lang/Object")] 6

/-- java/lang/constant/Constable -/
def k2 : Class := { plain "java/lang/constant/Constable" (some 0) with
  accessFlags := 1537
  interfaces := #[]
  cf := some (fileOf pool2 1 #[] #[] 1537 3 #[] #[])
  fields := #[]
  methods := #[]
  instanceTypes := #[]
  staticTypes := #[]
  resolved := Array.replicate 11 none
  statics := none }

def pool3 : Array CpInfo := pool [(1, .class_ 2), (0, u "java/lang/Comparable"), (0, .class_ 4), (0, u "java/lang/Object")] 7

/-- java/lang/Comparable -/
def k3 : Class := { plain "java/lang/Comparable" (some 0) with
  accessFlags := 1537
  interfaces := #[]
  cf := some (fileOf pool3 1 #[] #[] 1537 3 #[] #[])
  fields := #[]
  methods := #[]
  instanceTypes := #[]
  staticTypes := #[]
  resolved := Array.replicate 12 none
  statics := none }

def pool4 : Array CpInfo := pool [(1, .class_ 2), (0, u "java/io/Serializable"), (0, .class_ 4), (0, u "java/lang/Object")] 2

/-- java/io/Serializable -/
def k4 : Class := { plain "java/io/Serializable" (some 0) with
  accessFlags := 1537
  interfaces := #[]
  cf := some (fileOf pool4 1 #[] #[] 1537 3 #[] #[])
  fields := #[]
  methods := #[]
  instanceTypes := #[]
  staticTypes := #[]
  resolved := Array.replicate 7 none
  statics := none }

def pool5 : Array CpInfo := pool [(2, .class_ 4), (1, u "java/lang/Enum"), (0, u "name"), (0, u "Ljava/lang/String;"), (2, u "ordinal"), (0, u "I"), (1, .class_ 14), (1, u "java/lang/Object"), (4, u "hash"), (86, .class_ 108), (1, u "java/lang/Enum$EnumDesc"), (2, .class_ 112), (0, u "java/lang/constant/Constable"), (0, .class_ 114), (0, u "java/lang/Comparable"), (0, .class_ 116), (0, u "java/io/Serializable")] 87

/-- java/lang/Enum -/
def k5 : Class := { plain "java/lang/Enum" (some 0) with
  accessFlags := 1057
  interfaces := #[2, 3, 4]
  cf := some (fileOf pool5 2 #[.nestMembers #[106]] #[] 1057 12 #[111, 113, 115] #[{ accessFlags := 18, nameIndex := 5, descriptorIndex := 6, attributes := #[] }, { accessFlags := 18, nameIndex := 9, descriptorIndex := 10, attributes := #[] }, { accessFlags := 2, nameIndex := 19, descriptorIndex := 10, attributes := #[] }])
  fields := #[{ name := "name", type := (.object "java/lang/String"), accessFlags := 18, slot := 0, constantValue := 0 }, { name := "ordinal", type := .int, accessFlags := 18, slot := 1, constantValue := 0 }, { name := "hash", type := .int, accessFlags := 2, slot := 2, constantValue := 0 }]
  methods := #[]
  instanceTypes := #[(.object "java/lang/String"), .int, .int]
  staticTypes := #[]
  resolved := Array.replicate 204 none
  statics := none }

def pool6 : Array CpInfo := pool [(1, .class_ 2), (0, u "com/example/enox/enox/language/Truth"), (0, .fieldref 1 4), (0, .nameAndType 5 6), (0, u "TRUE"), (0, u "Lcom/example/enox/enox/language/Truth;"), (0, .fieldref 1 8), (0, .nameAndType 9 6), (0, u "FALSE"), (0, .fieldref 1 11), (0, .nameAndType 12 6), (0, u "BOTTOM"), (2, u "$VALUES"), (0, u "[Lcom/example/enox/enox/language/Truth;"), (6, .class_ 25), (1, u "java/lang/Enum"), (28, u "and"), (0, u "(Lcom/example/enox/enox/language/Truth;)Lcom/example/enox/enox/language/Truth;")] 6

def k6c0 : Code := { maxStack := 2, maxLocals := 2, code := prog_39_method_6_code, exceptionTable := #[], attributes := #[] }
def k6m0 : Method := { name := "and", desc := "(Lcom/example/enox/enox/language/Truth;)Lcom/example/enox/enox/language/Truth;", sig := { parameters := [(.object "com/example/enox/enox/language/Truth")], returnType := some (.object "com/example/enox/enox/language/Truth") }, accessFlags := 1, code := some k6c0 }
/-- com/example/enox/enox/language/Truth -/
def k6 : Class := { plain "com/example/enox/enox/language/Truth" (some 5) with
  accessFlags := 16433
  interfaces := #[]
  cf := some (fileOf pool6 1 #[] #[{ accessFlags := 1, nameIndex := 54, descriptorIndex := 55, attributes := #[] }] 16433 23 #[] #[{ accessFlags := 16409, nameIndex := 5, descriptorIndex := 6, attributes := #[] }, { accessFlags := 16409, nameIndex := 9, descriptorIndex := 6, attributes := #[] }, { accessFlags := 16409, nameIndex := 12, descriptorIndex := 6, attributes := #[] }, { accessFlags := 4122, nameIndex := 15, descriptorIndex := 16, attributes := #[] }])
  fields := #[{ name := "TRUE", type := (.object "com/example/enox/enox/language/Truth"), accessFlags := 16409, slot := 0, constantValue := 0 }, { name := "FALSE", type := (.object "com/example/enox/enox/language/Truth"), accessFlags := 16409, slot := 1, constantValue := 0 }, { name := "BOTTOM", type := (.object "com/example/enox/enox/language/Truth"), accessFlags := 16409, slot := 2, constantValue := 0 }, { name := "$VALUES", type := (.array (.object "com/example/enox/enox/language/Truth")), accessFlags := 4122, slot := 3, constantValue := 0 }]
  methods := #[k6m0]
  instanceTypes := #[(.object "java/lang/String"), .int, .int]
  staticTypes := #[(.object "com/example/enox/enox/language/Truth"), (.object "com/example/enox/enox/language/Truth"), (.object "com/example/enox/enox/language/Truth"), (.array (.object "com/example/enox/enox/language/Truth"))]
  resolved := Array.replicate 62 none
  statics := some 0 }

def pool7 : Array CpInfo := pool [(1, .class_ 2), (0, u "java/lang/Math"), (1, .class_ 6), (1, u "java/lang/Object"), (0, u "<init>"), (0, u "()V"), (89, .class_ 100), (1, u "java/lang/Math$RandomNumberGeneratorHolder"), (71, u "negativeZeroFloatBits"), (0, u "J"), (2, u "negativeZeroDoubleBits"), (24, u "min"), (43, u "$assertionsDisabled"), (0, u "Z"), (88, u "(II)I"), (2, u "twoToTheDoubleScaleDown"), (0, u "D"), (4, u "twoToTheDoubleScaleUp"), (9, u "E"), (3, u "PI"), (2, u "TAU"), (2, u "DEGREES_TO_RADIANS"), (0, u "RADIANS_TO_DEGREES")] 94

def k7m0 : Method := { name := "<init>", desc := "()V", sig := { parameters := [], returnType := none }, accessFlags := 2, code := none }
def k7c1 : Code := { maxStack := 2, maxLocals := 2, code := jdk_29_method_69_code, exceptionTable := #[], attributes := #[] }
def k7m1 : Method := { name := "min", desc := "(II)I", sig := { parameters := [.int, .int], returnType := some .int }, accessFlags := 9, code := some k7c1 }
/-- java/lang/Math -/
def k7 : Class := { plain "java/lang/Math" (some 0) with
  accessFlags := 49
  interfaces := #[]
  cf := some (fileOf pool7 1 #[.nestMembers #[98]] #[{ accessFlags := 2, nameIndex := 7, descriptorIndex := 8, attributes := #[] }, { accessFlags := 9, nameIndex := 201, descriptorIndex := 335, attributes := #[] }] 49 4 #[] #[{ accessFlags := 25, nameIndex := 354, descriptorIndex := 339, attributes := #[] }, { accessFlags := 25, nameIndex := 358, descriptorIndex := 339, attributes := #[] }, { accessFlags := 25, nameIndex := 361, descriptorIndex := 339, attributes := #[] }, { accessFlags := 26, nameIndex := 364, descriptorIndex := 339, attributes := #[] }, { accessFlags := 26, nameIndex := 365, descriptorIndex := 339, attributes := #[] }, { accessFlags := 26, nameIndex := 172, descriptorIndex := 173, attributes := #[] }, { accessFlags := 26, nameIndex := 176, descriptorIndex := 173, attributes := #[] }, { accessFlags := 8, nameIndex := 344, descriptorIndex := 339, attributes := #[] }, { accessFlags := 8, nameIndex := 338, descriptorIndex := 339, attributes := #[] }, { accessFlags := 4120, nameIndex := 245, descriptorIndex := 246, attributes := #[] }])
  fields := #[{ name := "E", type := .double, accessFlags := 25, slot := 0, constantValue := 0 }, { name := "PI", type := .double, accessFlags := 25, slot := 1, constantValue := 0 }, { name := "TAU", type := .double, accessFlags := 25, slot := 2, constantValue := 0 }, { name := "DEGREES_TO_RADIANS", type := .double, accessFlags := 26, slot := 3, constantValue := 0 }, { name := "RADIANS_TO_DEGREES", type := .double, accessFlags := 26, slot := 4, constantValue := 0 }, { name := "negativeZeroFloatBits", type := .long, accessFlags := 26, slot := 5, constantValue := 0 }, { name := "negativeZeroDoubleBits", type := .long, accessFlags := 26, slot := 6, constantValue := 0 }, { name := "twoToTheDoubleScaleUp", type := .double, accessFlags := 8, slot := 7, constantValue := 0 }, { name := "twoToTheDoubleScaleDown", type := .double, accessFlags := 8, slot := 8, constantValue := 0 }, { name := "$assertionsDisabled", type := .boolean, accessFlags := 4120, slot := 9, constantValue := 0 }]
  methods := #[k7m0, k7m1]
  instanceTypes := #[]
  staticTypes := #[.double, .double, .double, .double, .double, .long, .long, .double, .double, .boolean]
  resolved := Array.replicate 460 none
  statics := none }

def pool8 : Array CpInfo := pool [(1, u "java/lang/Cloneable"), (0, .class_ 1), (0, u "java/lang/Object"), (0, .class_ 3)] 3

/-- java/lang/Cloneable -/
def k8 : Class := { plain "java/lang/Cloneable" (some 0) with
  accessFlags := 1537
  interfaces := #[]
  cf := some (fileOf pool8 2 #[] #[] 1537 4 #[] #[])
  fields := #[]
  methods := #[]
  instanceTypes := #[]
  staticTypes := #[]
  resolved := Array.replicate 8 none
  statics := none }

/-- the primitive byte -/
def k9 : Class := { plain "byte" none with kind := .primitive 'B', accessFlags := 0x411 }
/-- [B -/
def k10 : Class := { plain "[B" (some 0) with kind := .array 9 .byte, interfaces := #[8, 4], accessFlags := 1041 }

/-- the primitive int -/
def k11 : Class := { plain "int" none with kind := .primitive 'I', accessFlags := 0x411 }
/-- [I -/
def k12 : Class := { plain "[I" (some 0) with kind := .array 11 .int, interfaces := #[8, 4], accessFlags := 1041 }

def heap : Heap := #[{ cls := 6, slots := #[.ref 3, .ref 1, .ref 2, .null], vm := .statics 6 },
  { cls := 6, slots := #[.null, .int 1, .int 0], vm := .none },
  { cls := 6, slots := #[.null, .int 2, .int 0], vm := .none },
  { cls := 6, slots := #[.null, .int 0, .int 0], vm := .none }]
def classes : Array Class := #[k0, k1, k2, k3, k4, k5, k6, k7, k8, k9, k10, k11, k12]
def interned : List (Array UInt16 × Addr) := []
def slotsUsed : Nat := 13
def theMethod : MethodId := ⟨1, 2⟩
def args0 : Array Value := #[.int 5, .int 7]
def aboutOver (below : List Frame) : State where
  vm := { classes := classes, interned := interned.toArray }
  heap := heap
  slotsUsed := slotsUsed
  threads := #[{ frames := .invoking theMethod args0 :: below }]
def below0 : List Frame := [.native { method := ⟨0, 0⟩, args := #[] }]
def about1 : State := aboutOver below0
def p0 : Program := .bare "" "" ""
def e0 : Env := launch0.env 0 0 0
theorem w_frames : about1.frames = Frame.invoking theMethod args0 :: below0 := rfl
set_option maxRecDepth 65536 in
theorem w_args : argsFit about1.vm theMethod args0 = true := by decide +kernel
set_option maxRecDepth 65536 in
theorem w_heap : heapFits about1 = true := by decide +kernel
set_option maxRecDepth 65536 in
theorem w_runnable : about1.curStatus? = some .runnable := by decide +kernel
set_option maxRecDepth 65536 in
theorem w_alone : about1.alone = true := by decide +kernel
set_option maxRecDepth 65536 in
theorem w_named : about1.methodNamed? x = some theMethod := by decide +kernel
set_option maxRecDepth 65536 in
theorem w_hears : about1.hears theMethod below0 = true := by decide +kernel
set_option maxRecDepth 65536 in
theorem w_ripe : about1.ripe theMethod args0 below0 = true := by decide +kernel
theorem w_running : about1.status = .running := rfl
set_option maxRecDepth 65536 in
theorem w_room : about1.hasRoom e0.platform room_1 = true :=
  launch0.hasRoom_least _ room_1 (by decide +kernel) (by decide +kernel) (by decide +kernel) (by decide +kernel) (by decide +kernel) (by decide +kernel)
theorem allAtoms_all (ts : List Jvm.Cond) (a : Array Jvm.Value) (st : Jvm.State) : (allAtoms ts).before a st = ts.all (fun c => c.before a st) := by
  induction ts with
  | nil => rfl
  | cons c t ih =>
    show (Jvm.Cond.and c (allAtoms t)).before a st = _
    rw [Jvm.Cond.before_and, ih, List.all_cons]
def words1 : List Jvm.Cond := Jvm.Cond.code x code maxLocals ret :: tables_1
/-- a 'code' word, met by the world's own term for the bytes: nothing is compared byte by byte -/
theorem code_word {y : MethodName} {bytes : ByteArray} {mx : Nat} {rt : Option FieldType} {a : Array Value} {s : State} {m : MethodId} {meth : Method} {c : Code} (h1 : s.methodNamed? y = some m) (h2 : s.vm.method? m = some meth) (h3 : meth.code = some c) (h4 : c.code = bytes)
    (h5 : (c.maxLocals == mx && c.exceptionTable.isEmpty && decide (c.maxStack ≤ mostOperands) && decide (meth.sig.returnType = rt) && !meth.locks && decide (parseMethodDescriptor y.desc = some meth.sig)) = true) : (Jvm.Cond.code y bytes mx rt).before a s = true := by
  simp only [Bool.and_eq_true, beq_iff_eq, Bool.not_eq_true', decide_eq_true_eq] at h5
  obtain ⟨⟨⟨⟨⟨g1, g2⟩, g3⟩, g4⟩, g5⟩, g6⟩ := h5
  simp [Cond.before, Cond.holds, Cond.value, h1, h2, h3, h4, g1, g2, g3, g4, g5, g6]
def isCode : Jvm.Cond → Bool
  | .code _ _ _ _ => true
  | _ => false
theorem all_split {L : List Jvm.Cond} {P : Jvm.Cond → Bool} (h1 : L.all (fun c => isCode c || P c) = true) (h2 : ∀ c ∈ L.filter isCode, P c = true) : L.all P = true := by
  refine List.all_eq_true.mpr fun c hc => ?_
  have h := List.all_eq_true.mp h1 c hc
  rcases Bool.eq_false_or_eq_true (isCode c) with hi | hi
  · exact h2 c (List.mem_filter.mpr ⟨hc, hi⟩)
  · simpa [hi] using h
set_option maxRecDepth 65536 in
theorem w_c0 : (Jvm.Cond.code x code maxLocals ret).before args0 about1 = true := code_word (m := ⟨1, 2⟩) (meth := k1m2) (c := k1c2) (by decide +kernel) rfl rfl rfl (by decide +kernel)
set_option maxRecDepth 65536 in
theorem w_c1 : (Jvm.Cond.code ({ cls := "com/example/enox/enox/language/TruthAndPinLaw", name := "pick", desc := "(I)Lcom/example/enox/enox/language/Truth;" } : Jvm.MethodName) method_2_code (1 : Nat) (Option.some (Jvm.ClassFile.FieldType.object "com/example/enox/enox/language/Truth"))).before args0 about1 = true := code_word (m := ⟨1, 1⟩) (meth := k1m1) (c := k1c1) (by decide +kernel) rfl rfl rfl (by decide +kernel)
set_option maxRecDepth 65536 in
theorem w_c2 : (Jvm.Cond.code ({ cls := "com/example/enox/enox/language/Truth", name := "and", desc := "(Lcom/example/enox/enox/language/Truth;)Lcom/example/enox/enox/language/Truth;" } : Jvm.MethodName) prog_39_method_6_code (2 : Nat) (Option.some (Jvm.ClassFile.FieldType.object "com/example/enox/enox/language/Truth"))).before args0 about1 = true := code_word (m := ⟨6, 0⟩) (meth := k6m0) (c := k6c0) (by decide +kernel) rfl rfl rfl (by decide +kernel)
set_option maxRecDepth 65536 in
theorem w_c3 : (Jvm.Cond.code ({ cls := "java/lang/Math", name := "min", desc := "(II)I" } : Jvm.MethodName) jdk_29_method_69_code (2 : Nat) (Option.some Jvm.ClassFile.FieldType.int)).before args0 about1 = true := code_word (m := ⟨7, 1⟩) (meth := k7m1) (c := k7c1) (by decide +kernel) rfl rfl rfl (by decide +kernel)
def codes1 : List Jvm.Cond := [Jvm.Cond.code x code maxLocals ret, Jvm.Cond.code ({ cls := "com/example/enox/enox/language/TruthAndPinLaw", name := "pick", desc := "(I)Lcom/example/enox/enox/language/Truth;" } : Jvm.MethodName) method_2_code (1 : Nat) (Option.some (Jvm.ClassFile.FieldType.object "com/example/enox/enox/language/Truth")), Jvm.Cond.code ({ cls := "com/example/enox/enox/language/Truth", name := "and", desc := "(Lcom/example/enox/enox/language/Truth;)Lcom/example/enox/enox/language/Truth;" } : Jvm.MethodName) prog_39_method_6_code (2 : Nat) (Option.some (Jvm.ClassFile.FieldType.object "com/example/enox/enox/language/Truth")), Jvm.Cond.code ({ cls := "java/lang/Math", name := "min", desc := "(II)I" } : Jvm.MethodName) jdk_29_method_69_code (2 : Nat) (Option.some Jvm.ClassFile.FieldType.int)]
set_option maxRecDepth 65536 in
theorem codes_eq : words1.filter isCode = codes1 := rfl
theorem w_codes : ∀ c ∈ words1.filter isCode, c.before args0 about1 = true := by
  rw [codes_eq]
  intro c hc
  simp only [codes1, List.mem_cons, List.not_mem_nil, or_false] at hc
  rcases hc with rfl | rfl | rfl | rfl
  · exact w_c0
  · exact w_c1
  · exact w_c2
  · exact w_c3
set_option maxRecDepth 65536 in
theorem w_t1 : (words1.take 24).all (fun c => isCode c || c.before args0 about1) = true := by decide +kernel
set_option maxRecDepth 65536 in
theorem w_t2 : (words1.drop 24).all (fun c => isCode c || c.before args0 about1) = true := by decide +kernel
theorem w_tables : (allAtoms (Jvm.Cond.code x code maxLocals ret :: tables_1)).before args0 about1 = true := by
  rw [allAtoms_all]
  show words1.all (fun c => c.before args0 about1) = true
  refine all_split ?_ w_codes
  rw [← List.take_append_drop 24 words1, List.all_append, w_t1, w_t2]
  rfl
set_option maxRecDepth 65536 in
theorem w_case : (Jvm.Cond.and given_1 narrow_1).before args0 about1 = true := by decide +kernel
theorem w_applies : (headSpec (Jvm.Cond.code x code maxLocals ret :: tables_1) room_1).applies x e0.platform about1 = true :=
  (Spec.applies_iff w_frames).mpr ⟨w_running, w_runnable, w_alone, w_named, w_hears, w_ripe, w_room, w_tables⟩
theorem atStart : AtStart classFile x code maxLocals ret World_1 tables_1 room_1 Calls_1 rest_1 Pre_1 launch0 p0 e0 about1 theMethod args0 below0 :=
  ⟨lists_1, trivial, launch0.admits_env _ _ _, launch0.least_env, fairChoices_fair.cas, fairChoices_fair.clock, w_frames, w_args, w_heap, w_applies, trivial, trivial, w_case⟩
end start1
theorem witness_1 : WitnessClaimed_1 := ⟨start1.p0, start1.e0, start1.about1, start1.theMethod, start1.args0, start1.below0, start1.atStart⟩
end Jvm.Pilot.@@N@@
