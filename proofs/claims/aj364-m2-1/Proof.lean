import JvmDerived
import JvmDerived.Pilot.@@N@@Statement
import JvmDerived.Pilot.@@N@@Code
set_option linter.unusedVariables false
set_option linter.unusedSimpArgs false
@@BLOCK:NumsL.lean.txt@@
namespace Jvm.RoadKit
open Sem ClassFile Op Lib Jvm.Stand Jvm.Free Jvm.LawKit
section New
variable {p : Program} {l : Launch} {e : Env} {R : Room} {s : State} {m : MethodId} {args : Array Value} {below : List Frame} {meth : Method} {c : Code} {T : State} {locs : List Loc} {cells slots : Nat}
theorem retI (X : Stand p l e R s m args below meth c T locs cells slots) (hx : p.tables.exec = Jvm.exec) {pc : Nat} {Ls : Array Slot} {z : Int32} {rest : List Value} (hret : meth.sig.returnType = some .int) (hd : decode c.code pc = .ok (.ireturn, 1)) {fs : List Frame}
    (hl : ∀ (f : JFrame) (acts : List Action), f.method = m → f.locked = none → f.entered = [] → (doReturn e (T.setTop f) acts (some (.int z))).1 = T.setFrames fs) : Steps p.tables e below (T.setTop (mkF m pc Ls (.int z :: rest))) (T.setFrames fs) := by
  have hm' : T.vm.method? m = some meth := X.method'
  have hn : narrow .int (.int z) = .int z := rfl
  show Steps p.tables e below (T.setTop { method := m, pc := pc, locals := Ls, stack := _ :: rest, locked := none }) _
  jvm_step X.here [X.here.top, hx, hd, hm', hret, hn]
  first | (intro acts; rw [hl _ acts rfl rfl rfl]) | rw [hl _ _ rfl rfl rfl]
  exact Steps.refl _
end New
end Jvm.RoadKit
namespace Jvm.Pilot.@@N@@
open Jvm Jvm.ClassFile Sem Op Lib Jvm.Free Jvm.Stand Jvm.LawKit Jvm.RoadKit Bundle Jvm.Pilot.@@N@@.Jvm.D

/-- what is left to show at a point of a walk -/
def own_Go (tb : Tables) (e : Env) (below : List Frame) (F : State → Outcome → Prop) (A : State) : Prop := ∃ t o, Steps tb e below A t ∧ F t o
theorem own_st {tb : Tables} {e : Env} {below : List Frame} {F : State → Outcome → Prop} {A B : State} (st : ∀ t, Steps tb e below A t → Steps tb e below B t) (h : own_Go tb e below F A) : own_Go tb e below F B := by
  obtain ⟨t, o, a, b⟩ := h
  exact ⟨t, o, st t a, b⟩
theorem own_end {tb : Tables} {e : Env} {below : List Frame} {F G : State → Outcome → Prop} {A t : State} {o : Outcome} (hF : F = G) (st : Steps tb e below A t) (h : G t o) : own_Go tb e below F A := by
  subst hF
  exact ⟨t, o, st, h⟩
/-- a body's contract: called with as' over the heap h0 it returns, and leaves what Q says -/
abbrev own_Met (l : Launch) (Z : State) (y : MethodName) (bytes : ByteArray) (ml : Nat) (rt : Option FieldType) (ws : List Jvm.Cond) (rm : Room) (as' : Array Value) (h0 : Heap) (Q : Option Value → Heap → List Loc → Prop) : Prop :=
  MetFree l y (head1 (Jvm.Cond.code y bytes ml rt :: ws) rm) (fun a U => a = as' ∧ Z.Warmed39 U.vm ∧ U.heap = h0) (fun _ _ _ _ _ => True) (fun _ U o U' => ∃ v L, o = .returned v ∧ Q v U'.heap L ∧ FrameEnd U o U' L rm.cells rm.slots)
/-- what a callee leaves that returns r and writes nothing -/
def own_Qp (r : Value) (h0 : Heap) (n0 : Nat) (v : Option Value) (h : Heap) (L : List Loc) : Prop := v = some r ∧ Fr n0 L ∧ h = h0
theorem own_ext_refl {h : Heap} : Ext h h := ⟨Nat.le_refl _, fun _ _ q => q⟩
theorem own_ext_ext {h0 h h' : Heap} (K : Ext h0 h) (E : Ext h h') : Ext h0 h' := ⟨Nat.le_trans K.1 E.1, fun x c q => E.2 x c (K.2 x c q)⟩
theorem own_ext_keep {h0 h h' : Heap} {ws : List Addr} (K : Ext h0 h) (E : Keep h h' ws) (q : ∀ x ∈ ws, h0.size ≤ x) : Ext h0 h' :=
  ⟨Nat.le_trans K.1 E.1, fun x c r => E.2.1 x c (K.2 x c r) fun z => absurd (Array.getElem?_eq_some_iff.mp r).1 (Nat.not_lt.mpr (q x z))⟩
theorem own_ext_wr {h0 h h' : Heap} {a : Addr} {sl : Nat} {v : Value} (K : Ext h0 h) (W : Wr h h' a sl v) (q : h0.size ≤ a) : Ext h0 h' := own_ext_keep K (Keep.of_wr W) (allS q all0)
theorem own_fld {args : Array Value} {s : State} {t : Term} {x : Addr} {C n d : String} {k : Int32} (ev : t.eval args s none [] s = some (.ref x)) (h : (Jvm.Cond.eq (.field t C n d) (.int k)).value args s none s [] = some true) : Fld s s.heap x C n d (.int k) := by
  obtain ⟨p, q, h1, h2, -, h4⟩ := cmp_v (Or.inl h)
  cases (show some (Value.int k) = some q from h2)
  obtain ⟨z, rfl⟩ := h4
  have e : z = k := by simpa [Jvm.Cond.value, h1, h2] using h
  subst e
  rw [fld_at ev] at h1
  exact Fld.start h1

def own_Q0 (h0 : Heap) (n0 : Nat) (v : Option Value) (h : Heap) (L : List Loc) : Prop := v = some (.int (1 : Int32)) ∧ Fr n0 L
def own_K (Z : State) (h : Heap) (f : String) (a : Addr) (o : Int32) : Prop :=
  Sta Z h "com/example/barkbeetle/barkbeetle/Expr$NamesRead" f "Lcom/example/barkbeetle/barkbeetle/Expr$NamesRead;" (.ref a) ∧ Exa Z h a "com/example/barkbeetle/barkbeetle/Expr$NamesRead" ∧ Fld Z h a "java/lang/Enum" "ordinal" "I" (.int o)
def own_g (aN aA aE aX aL : Addr) (i : Int32) : Addr := if i = 0 then aN else if i = 1 then aA else if i = 2 then aE else if i = 3 then aX else aL
def own_w (aN aX aL u v : Addr) : Addr := if u = v ∨ v = aN then u else if u = aN then v else if u = aL ∨ v = aL then aL else aX
def own_b (i : Int32) : Int32 := if i = 0 then 0 else if i = 1 then 1 else if i = 2 then 2 else if i = 3 then 3 else 7
def own_5 (i : Int32) : Prop := i = 0 ∨ i = 1 ∨ i = 2 ∨ i = 3 ∨ i = 4
theorem own_rng {i : Int32} (hi : own_5 i) : ¬ i < 0 ∧ i < 5 := by
  rcases hi with rfl | rfl | rfl | rfl | rfl <;> decide
theorem own_exa {Z : State} {h : Heap} {aN aA aE aX aL : Addr} {C : String} (hN : Exa Z h aN C) (hA : Exa Z h aA C) (hE : Exa Z h aE C) (hX : Exa Z h aX C) (hL : Exa Z h aL C) {i : Int32} (hi : own_5 i) : Exa Z h (own_g aN aA aE aX aL i) C := by
  rcases hi with rfl | rfl | rfl | rfl | rfl
  · exact hN
  · exact hA
  · exact hE
  · exact hX
  · exact hL
theorem own_gd {aN aA aE aX aL : Addr} {i : Int32} (hi : own_5 i) : [Value.ref aN, Value.ref aA, Value.ref aE, Value.ref aX, Value.ref aL].getD i.toNatClampNeg .null = .ref (own_g aN aA aE aX aL i) := by
  rcases hi with rfl | rfl | rfl | rfl | rfl <;> rfl
theorem own_bd {i : Int32} (hi : own_5 i) : [Value.int 0, Value.int 1, Value.int 2, Value.int 3, Value.int 7].getD i.toNatClampNeg (.int 0) = .int (own_b i) := by
  rcases hi with rfl | rfl | rfl | rfl | rfl <;> rfl
theorem own_mod5 (p : Int32) : own_5 ((p &&& (2147483647 : Int32)) % (5 : Int32)) := by
  have e : (p &&& (2147483647 : Int32)).toInt = p.toInt % 2 ^ 31 := Jvm.Kit.i32_mask p 2147483647 (k := 31) (by decide) (by decide)
  have m : ((p &&& (2147483647 : Int32)) % (5 : Int32)).toInt = (p &&& (2147483647 : Int32)).toInt.tmod 5 := Int32.toInt_mod _ _
  have b : 0 ≤ (p &&& (2147483647 : Int32)).toInt := by rw [e]; exact Int.emod_nonneg _ (by decide)
  rw [Int.tmod_eq_emod_of_nonneg b] at m
  unfold own_5
  rw [← Int32.toInt_inj, ← Int32.toInt_inj, ← Int32.toInt_inj, ← Int32.toInt_inj, ← Int32.toInt_inj, m]
  show _ = (0 : Int) ∨ _ = (1 : Int) ∨ _ = (2 : Int) ∨ _ = (3 : Int) ∨ _ = (4 : Int)
  omega
theorem own_b0 : own_b 0 = 0 := rfl
theorem own_b1 : own_b 1 = 1 := rfl
theorem own_b2 : own_b 2 = 2 := rfl
theorem own_b3 : own_b 3 = 3 := rfl
theorem own_b4 : own_b 4 = 7 := rfl
section Five
variable {aN aA aE aX aL : Addr}
theorem own_g0 : own_g aN aA aE aX aL 0 = aN := rfl
theorem own_g1 : own_g aN aA aE aX aL 1 = aA := rfl
theorem own_g2 : own_g aN aA aE aX aL 2 = aE := rfl
theorem own_g3 : own_g aN aA aE aX aL 3 = aX := rfl
theorem own_g4 : own_g aN aA aE aX aL 4 = aL := rfl
def own_dist (aN aA aE aX aL : Addr) : Prop := aN ≠ aA ∧ aN ≠ aE ∧ aN ≠ aX ∧ aN ≠ aL ∧ aA ≠ aE ∧ aA ≠ aX ∧ aA ≠ aL ∧ aE ≠ aX ∧ aE ≠ aL ∧ aX ≠ aL
theorem own_seven (d : own_dist aN aA aE aX aL) {i j : Int32} (hi : own_5 i) (hj : own_5 j) (h : (own_b i ||| own_b j) = (7 : Int32)) : own_w aN aX aL (own_g aN aA aE aX aL i) (own_g aN aA aE aX aL j) = aL := by
  obtain ⟨d1, d2, d3, d4, d5, d6, d7, d8, d9, d10⟩ := d
  rcases hi with rfl | rfl | rfl | rfl | rfl <;> rcases hj with rfl | rfl | rfl | rfl | rfl <;>
    first
    | (exact absurd h (by decide))
    | (simp [own_w, own_g0, own_g1, own_g2, own_g3, own_g4, d1, d2, d3, d4, d5, d6, d7, d8, d9, d10, d1.symm, d2.symm, d3.symm, d4.symm, d5.symm, d6.symm, d7.symm, d8.symm, d9.symm, d10.symm])
theorem own_less {i j : Int32} (hi : own_5 i) (hj : own_5 j) (h : ¬ ((own_b i ||| own_b j) = (7 : Int32))) : own_5 (own_b i ||| own_b j) := by
  rcases hi with rfl | rfl | rfl | rfl | rfl <;> rcases hj with rfl | rfl | rfl | rfl | rfl <;>
    first
    | (exact absurd (by decide) h)
    | (unfold own_5; decide)
theorem own_same (d : own_dist aN aA aE aX aL) {i j : Int32} (hi : own_5 i) (hj : own_5 j) (h : ¬ ((own_b i ||| own_b j) = (7 : Int32))) : own_w aN aX aL (own_g aN aA aE aX aL i) (own_g aN aA aE aX aL j) = own_g aN aA aE aX aL (own_b i ||| own_b j) := by
  obtain ⟨d1, d2, d3, d4, d5, d6, d7, d8, d9, d10⟩ := d
  have r00 : own_b 0 ||| own_b 0 = 0 := by decide
  have r01 : own_b 0 ||| own_b 1 = 1 := by decide
  have r02 : own_b 0 ||| own_b 2 = 2 := by decide
  have r03 : own_b 0 ||| own_b 3 = 3 := by decide
  have r10 : own_b 1 ||| own_b 0 = 1 := by decide
  have r11 : own_b 1 ||| own_b 1 = 1 := by decide
  have r12 : own_b 1 ||| own_b 2 = 3 := by decide
  have r13 : own_b 1 ||| own_b 3 = 3 := by decide
  have r20 : own_b 2 ||| own_b 0 = 2 := by decide
  have r21 : own_b 2 ||| own_b 1 = 3 := by decide
  have r22 : own_b 2 ||| own_b 2 = 2 := by decide
  have r23 : own_b 2 ||| own_b 3 = 3 := by decide
  have r30 : own_b 3 ||| own_b 0 = 3 := by decide
  have r31 : own_b 3 ||| own_b 1 = 3 := by decide
  have r32 : own_b 3 ||| own_b 2 = 3 := by decide
  have r33 : own_b 3 ||| own_b 3 = 3 := by decide
  rcases hi with rfl | rfl | rfl | rfl | rfl <;> rcases hj with rfl | rfl | rfl | rfl | rfl <;>
    first
    | (exact absurd (by decide) h)
    | (simp [r00, r01, r02, r03, r10, r11, r12, r13, r20, r21, r22, r23, r30, r31, r32, r33, own_w, own_g0, own_g1, own_g2, own_g3, own_g4, d1, d2, d3, d4, d5, d6, d7, d8, d9, d10, d1.symm, d2.symm, d3.symm, d4.symm, d5.symm, d6.symm, d7.symm, d8.symm, d9.symm, d10.symm])
end Five
theorem d_own_withm_0 : decode prog_137_method_4_code 0 = .ok (.aload_n 0, 1) := by decide +kernel
theorem d_own_withm_1 : decode prog_137_method_4_code 1 = .ok (.aload_n 1, 1) := by decide +kernel
theorem d_own_withm_2 : decode prog_137_method_4_code 2 = .ok (.if_acmp .eq 10, 3) := by decide +kernel
theorem d_own_withm_5 : decode prog_137_method_4_code 5 = .ok (.aload_n 1, 1) := by decide +kernel
theorem d_own_withm_6 : decode prog_137_method_4_code 6 = .ok (.getstatic 3, 3) := by decide +kernel
theorem d_own_withm_9 : decode prog_137_method_4_code 9 = .ok (.if_acmp .ne 8, 3) := by decide +kernel
theorem d_own_withm_12 : decode prog_137_method_4_code 12 = .ok (.aload_n 0, 1) := by decide +kernel
theorem d_own_withm_13 : decode prog_137_method_4_code 13 = .ok (.astore_n 2, 1) := by decide +kernel
theorem d_own_withm_14 : decode prog_137_method_4_code 14 = .ok (.goto 40, 3) := by decide +kernel
theorem d_own_withm_17 : decode prog_137_method_4_code 17 = .ok (.aload_n 0, 1) := by decide +kernel
theorem d_own_withm_18 : decode prog_137_method_4_code 18 = .ok (.getstatic 3, 3) := by decide +kernel
theorem d_own_withm_21 : decode prog_137_method_4_code 21 = .ok (.if_acmp .ne 8, 3) := by decide +kernel
theorem d_own_withm_24 : decode prog_137_method_4_code 24 = .ok (.aload_n 1, 1) := by decide +kernel
theorem d_own_withm_25 : decode prog_137_method_4_code 25 = .ok (.astore_n 2, 1) := by decide +kernel
theorem d_own_withm_26 : decode prog_137_method_4_code 26 = .ok (.goto 28, 3) := by decide +kernel
theorem d_own_withm_29 : decode prog_137_method_4_code 29 = .ok (.aload_n 0, 1) := by decide +kernel
theorem d_own_withm_30 : decode prog_137_method_4_code 30 = .ok (.getstatic 16, 3) := by decide +kernel
theorem d_own_withm_33 : decode prog_137_method_4_code 33 = .ok (.if_acmp .eq 10, 3) := by decide +kernel
theorem d_own_withm_36 : decode prog_137_method_4_code 36 = .ok (.aload_n 1, 1) := by decide +kernel
theorem d_own_withm_37 : decode prog_137_method_4_code 37 = .ok (.getstatic 16, 3) := by decide +kernel
theorem d_own_withm_40 : decode prog_137_method_4_code 40 = .ok (.if_acmp .ne 10, 3) := by decide +kernel
theorem d_own_withm_43 : decode prog_137_method_4_code 43 = .ok (.getstatic 16, 3) := by decide +kernel
theorem d_own_withm_46 : decode prog_137_method_4_code 46 = .ok (.astore_n 2, 1) := by decide +kernel
theorem d_own_withm_47 : decode prog_137_method_4_code 47 = .ok (.goto 7, 3) := by decide +kernel
theorem d_own_withm_50 : decode prog_137_method_4_code 50 = .ok (.getstatic 13, 3) := by decide +kernel
theorem d_own_withm_53 : decode prog_137_method_4_code 53 = .ok (.astore_n 2, 1) := by decide +kernel
theorem d_own_withm_54 : decode prog_137_method_4_code 54 = .ok (.aload_n 2, 1) := by decide +kernel
theorem d_own_withm_55 : decode prog_137_method_4_code 55 = .ok (.areturn, 1) := by decide +kernel
theorem pn_com_example_barkbeetle_barkbeetle_Expr_NamesRead : plainName "com/example/barkbeetle/barkbeetle/Expr$NamesRead" = true := by first | (simp [plainName, overriddenIn]; done) | decide +kernel
set_option maxRecDepth 65536 in
set_option maxHeartbeats 40000000 in
theorem own_withm (l : Launch) (Z : State) (a0 : Array Value) (hw : ∀ d ∈ tables_1, d.before a0 Z = true) (ws : List Jvm.Cond) (u1 v1 aN aX aL : Addr) (h0 : Heap) (n0 : Nat) (SN : Sta Z h0 "com/example/barkbeetle/barkbeetle/Expr$NamesRead" "NONE" "Lcom/example/barkbeetle/barkbeetle/Expr$NamesRead;" (.ref aN)) (SX : Sta Z h0 "com/example/barkbeetle/barkbeetle/Expr$NamesRead" "ELEMENTS_AND_ATTRIBUTES" "Lcom/example/barkbeetle/barkbeetle/Expr$NamesRead;" (.ref aX)) (SL : Sta Z h0 "com/example/barkbeetle/barkbeetle/Expr$NamesRead" "ALL" "Lcom/example/barkbeetle/barkbeetle/Expr$NamesRead;" (.ref aL)) :
    own_Met l Z (⟨"com/example/barkbeetle/barkbeetle/Expr$NamesRead", "with", "(Lcom/example/barkbeetle/barkbeetle/Expr$NamesRead;)Lcom/example/barkbeetle/barkbeetle/Expr$NamesRead;"⟩ : MethodName) prog_137_method_4_code 3 (some (.object "com/example/barkbeetle/barkbeetle/Expr$NamesRead")) ws ({ frames := 0, cells := 0, slots := 0, locals := 0 } : Room) #[(.ref u1), (.ref v1)] h0 (own_Qp (.ref (own_w aN aX aL u1 v1)) h0 n0) := by
  refine MetFree.of_bodySF (plainFor_of_name pn_com_example_barkbeetle_barkbeetle_Expr_NamesRead) hisR ?_
  intro p e s m args below meth c s₁ Bd hml0 hP hK
  obtain ⟨rfl, hZ, hh⟩ := hP
  have hx := Bd.exec
  have hby := Bd.bytes
  have hml : c.maxLocals = 3 := hml0
  have hown : s.vm.findClass "com/example/barkbeetle/barkbeetle/Expr$NamesRead" = some m.cls := findClass_of_methodNamed Bd.named
  have hnm := (name_of_methodNamed Bd.named Bd.method).1
  have X0 : Stand p l e ({ frames := 0, cells := 0, slots := 0, locals := 0 } : Room) s m #[(.ref u1), (.ref v1)] below meth c s₁ [] 0 0 := Stand.of_body Bd
  have e0 : s₁.heap = h0 := by rw [← hh, Bd.state]; rfl
  have N0 := Fr.nil n0
  have hst : entryFrame m #[(.ref u1), (.ref v1)] 3 = mkF m 0 #[.val (.ref u1), .val (.ref v1), .unset] [] := by first | (simp [entryFrame, mkF, argsToLocals, Value.category, maxLocals]; done) | rfl
  obtain ⟨F, hF⟩ : ∃ F : State → Outcome → Prop, F = fun s₂ o => (s₂.status = .running ∧ Ended s₂ below o ∧ ∃ v L, o = .returned v ∧ (own_Qp (.ref (own_w aN aX aL u1 v1)) h0 n0) v s₂.heap L ∧ FrameEnd s o s₂ L (Room.cells ({ frames := 0, cells := 0, slots := 0, locals := 0 } : Room)) (Room.slots ({ frames := 0, cells := 0, slots := 0, locals := 0 } : Room))) := ⟨_, rfl⟩
  suffices G : own_Go p.tables e below F (s₁.setTop (mkF m 0 #[.val (.ref u1), .val (.ref v1), .unset] [])) by
    obtain ⟨t, o, a, b⟩ := G
    rw [hF] at b
    exact ⟨t, o, castTop hst a, b⟩
  show own_Go p.tables e below F (s₁.setTop (mkF m 0 #[.val (.ref u1), .val (.ref v1), .unset] []))
  refine own_st (fun _ k => XS.aloadN X0.here hx rfl (hb hby d_own_withm_0) rfl rfl k) ?_
  show own_Go p.tables e below F (s₁.setTop (mkF m 1 #[.val (.ref u1), .val (.ref v1), .unset] [(.ref u1)]))
  refine own_st (fun _ k => XS.aloadN X0.here hx rfl (hb hby d_own_withm_1) rfl rfl k) ?_
  show own_Go p.tables e below F (s₁.setTop (mkF m 2 #[.val (.ref u1), .val (.ref v1), .unset] [(.ref v1), (.ref u1)]))
  by_cases ha2 : u1 = v1
  ·
    refine own_st (fun _ k => Jvm.RoadKit.acmp (g := (mkF m 2 #[.val (.ref u1), .val (.ref v1), .unset] [(.ref v1), (.ref u1)])) X0 hx rfl rfl rfl (pc0 := 2) (pc' := 12) (same := true) rfl (hb hby d_own_withm_2) rfl (decide_eq_true (congrArg Value.ref ha2)) (by decide) (by decide) k) ?_
    show own_Go p.tables e below F (s₁.setTop (mkF m 12 #[.val (.ref u1), .val (.ref v1), .unset] []))
    refine own_st (fun _ k => XS.aloadN X0.here hx rfl (hb hby d_own_withm_12) rfl rfl k) ?_
    show own_Go p.tables e below F (s₁.setTop (mkF m 13 #[.val (.ref u1), .val (.ref v1), .unset] [(.ref u1)]))
    refine own_st (fun _ k => XS.astoreN X0.here hx rfl (hb hby d_own_withm_13) rfl rfl (l' := #[.val (.ref u1), .val (.ref v1), .val (.ref u1)]) rfl k) ?_
    show own_Go p.tables e below F (s₁.setTop (mkF m 14 #[.val (.ref u1), .val (.ref v1), .val (.ref u1)] []))
    refine own_st (fun _ k => XS.goto X0.here hx rfl (pc0 := 14) (pc' := 54) rfl (hb hby d_own_withm_14) (by decide) (by decide) k) ?_
    show own_Go p.tables e below F (s₁.setTop (mkF m 54 #[.val (.ref u1), .val (.ref v1), .val (.ref u1)] []))
    refine own_st (fun _ k => XS.aloadN X0.here hx rfl (hb hby d_own_withm_54) rfl rfl k) ?_
    show own_Go p.tables e below F (s₁.setTop (mkF m 55 #[.val (.ref u1), .val (.ref v1), .val (.ref u1)] [(.ref u1)]))
    obtain ⟨fs, hrL, hrun, hended, hW, hsame⟩ := X0.leave (v := some (.ref u1)) (fun h => by rw [Bd.returns] at h; cases h)
    refine own_end hF (o := .returned (some (.ref u1))) (retOut X0 hx (t := (.object "com/example/barkbeetle/barkbeetle/Expr$NamesRead")) (i := .areturn) Bd.returns rfl (Or.inr (Or.inr (Or.inr (Or.inr ⟨rfl, rfl, rfl⟩)))) (hb hby d_own_withm_55) hrL) ?_
    refine ⟨hrun, hended, _, _, rfl, ?_, ⟨_, rfl⟩, hW, hsame.mono (by decide) (by decide)⟩
    exact ⟨by rw [own_w, if_pos (Or.inl ha2)], N0, e0⟩
  ·
    refine own_st (fun _ k => Jvm.RoadKit.acmp (g := (mkF m 2 #[.val (.ref u1), .val (.ref v1), .unset] [(.ref v1), (.ref u1)])) X0 hx rfl rfl rfl (pc0 := 2) (pc' := 5) (same := false) rfl (hb hby d_own_withm_2) rfl (decide_eq_false fun q => ha2 (Value.ref.inj q)) (by decide) (by decide) k) ?_
    show own_Go p.tables e below F (s₁.setTop (mkF m 5 #[.val (.ref u1), .val (.ref v1), .unset] []))
    refine own_st (fun _ k => XS.aloadN X0.here hx rfl (hb hby d_own_withm_5) rfl rfl k) ?_
    show own_Go p.tables e below F (s₁.setTop (mkF m 6 #[.val (.ref u1), .val (.ref v1), .unset] [(.ref v1)]))
    obtain ⟨T1, X1, e1, st1⟩ := getS2 X0 hx hZ hown (host := "") (Or.inl (hw _ (List.mem_of_getElem? (i := 21) rfl))) Via.refl e0 SN (g := (mkF m 6 #[.val (.ref u1), .val (.ref v1), .unset] [(.ref v1)])) rfl (hb hby d_own_withm_6)
    refine own_st st1 ?_
    show own_Go p.tables e below F (T1.setTop (mkF m 9 #[.val (.ref u1), .val (.ref v1), .unset] [(.ref aN), (.ref v1)]))
    by_cases ha9 : v1 = aN
    ·
      refine own_st (fun _ k => Jvm.RoadKit.acmp (g := (mkF m 9 #[.val (.ref u1), .val (.ref v1), .unset] [(.ref aN), (.ref v1)])) X1 hx rfl rfl rfl (pc0 := 9) (pc' := 12) (same := true) rfl (hb hby d_own_withm_9) rfl (decide_eq_true (congrArg Value.ref ha9)) (by decide) (by decide) k) ?_
      show own_Go p.tables e below F (T1.setTop (mkF m 12 #[.val (.ref u1), .val (.ref v1), .unset] []))
      refine own_st (fun _ k => XS.aloadN X1.here hx rfl (hb hby d_own_withm_12) rfl rfl k) ?_
      show own_Go p.tables e below F (T1.setTop (mkF m 13 #[.val (.ref u1), .val (.ref v1), .unset] [(.ref u1)]))
      refine own_st (fun _ k => XS.astoreN X1.here hx rfl (hb hby d_own_withm_13) rfl rfl (l' := #[.val (.ref u1), .val (.ref v1), .val (.ref u1)]) rfl k) ?_
      show own_Go p.tables e below F (T1.setTop (mkF m 14 #[.val (.ref u1), .val (.ref v1), .val (.ref u1)] []))
      refine own_st (fun _ k => XS.goto X1.here hx rfl (pc0 := 14) (pc' := 54) rfl (hb hby d_own_withm_14) (by decide) (by decide) k) ?_
      show own_Go p.tables e below F (T1.setTop (mkF m 54 #[.val (.ref u1), .val (.ref v1), .val (.ref u1)] []))
      refine own_st (fun _ k => XS.aloadN X1.here hx rfl (hb hby d_own_withm_54) rfl rfl k) ?_
      show own_Go p.tables e below F (T1.setTop (mkF m 55 #[.val (.ref u1), .val (.ref v1), .val (.ref u1)] [(.ref u1)]))
      obtain ⟨fs, hrL, hrun, hended, hW, hsame⟩ := X1.leave (v := some (.ref u1)) (fun h => by rw [Bd.returns] at h; cases h)
      refine own_end hF (o := .returned (some (.ref u1))) (retOut X1 hx (t := (.object "com/example/barkbeetle/barkbeetle/Expr$NamesRead")) (i := .areturn) Bd.returns rfl (Or.inr (Or.inr (Or.inr (Or.inr ⟨rfl, rfl, rfl⟩)))) (hb hby d_own_withm_55) hrL) ?_
      refine ⟨hrun, hended, _, _, rfl, ?_, ⟨_, rfl⟩, hW, hsame.mono (by decide) (by decide)⟩
      exact ⟨by rw [own_w, if_pos (Or.inr ha9)], N0, e1⟩
    ·
      refine own_st (fun _ k => Jvm.RoadKit.acmp (g := (mkF m 9 #[.val (.ref u1), .val (.ref v1), .unset] [(.ref aN), (.ref v1)])) X1 hx rfl rfl rfl (pc0 := 9) (pc' := 17) (same := false) rfl (hb hby d_own_withm_9) rfl (decide_eq_false fun q => ha9 (Value.ref.inj q)) (by decide) (by decide) k) ?_
      show own_Go p.tables e below F (T1.setTop (mkF m 17 #[.val (.ref u1), .val (.ref v1), .unset] []))
      refine own_st (fun _ k => XS.aloadN X1.here hx rfl (hb hby d_own_withm_17) rfl rfl k) ?_
      show own_Go p.tables e below F (T1.setTop (mkF m 18 #[.val (.ref u1), .val (.ref v1), .unset] [(.ref u1)]))
      obtain ⟨T2, X2, e2, st2⟩ := getS2 X1 hx hZ hown (host := "") (Or.inl (hw _ (List.mem_of_getElem? (i := 21) rfl))) Via.refl e1 SN (g := (mkF m 18 #[.val (.ref u1), .val (.ref v1), .unset] [(.ref u1)])) rfl (hb hby d_own_withm_18)
      refine own_st st2 ?_
      show own_Go p.tables e below F (T2.setTop (mkF m 21 #[.val (.ref u1), .val (.ref v1), .unset] [(.ref aN), (.ref u1)]))
      by_cases ha21 : u1 = aN
      ·
        refine own_st (fun _ k => Jvm.RoadKit.acmp (g := (mkF m 21 #[.val (.ref u1), .val (.ref v1), .unset] [(.ref aN), (.ref u1)])) X2 hx rfl rfl rfl (pc0 := 21) (pc' := 24) (same := true) rfl (hb hby d_own_withm_21) rfl (decide_eq_true (congrArg Value.ref ha21)) (by decide) (by decide) k) ?_
        show own_Go p.tables e below F (T2.setTop (mkF m 24 #[.val (.ref u1), .val (.ref v1), .unset] []))
        refine own_st (fun _ k => XS.aloadN X2.here hx rfl (hb hby d_own_withm_24) rfl rfl k) ?_
        show own_Go p.tables e below F (T2.setTop (mkF m 25 #[.val (.ref u1), .val (.ref v1), .unset] [(.ref v1)]))
        refine own_st (fun _ k => XS.astoreN X2.here hx rfl (hb hby d_own_withm_25) rfl rfl (l' := #[.val (.ref u1), .val (.ref v1), .val (.ref v1)]) rfl k) ?_
        show own_Go p.tables e below F (T2.setTop (mkF m 26 #[.val (.ref u1), .val (.ref v1), .val (.ref v1)] []))
        refine own_st (fun _ k => XS.goto X2.here hx rfl (pc0 := 26) (pc' := 54) rfl (hb hby d_own_withm_26) (by decide) (by decide) k) ?_
        show own_Go p.tables e below F (T2.setTop (mkF m 54 #[.val (.ref u1), .val (.ref v1), .val (.ref v1)] []))
        refine own_st (fun _ k => XS.aloadN X2.here hx rfl (hb hby d_own_withm_54) rfl rfl k) ?_
        show own_Go p.tables e below F (T2.setTop (mkF m 55 #[.val (.ref u1), .val (.ref v1), .val (.ref v1)] [(.ref v1)]))
        obtain ⟨fs, hrL, hrun, hended, hW, hsame⟩ := X2.leave (v := some (.ref v1)) (fun h => by rw [Bd.returns] at h; cases h)
        refine own_end hF (o := .returned (some (.ref v1))) (retOut X2 hx (t := (.object "com/example/barkbeetle/barkbeetle/Expr$NamesRead")) (i := .areturn) Bd.returns rfl (Or.inr (Or.inr (Or.inr (Or.inr ⟨rfl, rfl, rfl⟩)))) (hb hby d_own_withm_55) hrL) ?_
        refine ⟨hrun, hended, _, _, rfl, ?_, ⟨_, rfl⟩, hW, hsame.mono (by decide) (by decide)⟩
        exact ⟨by rw [own_w, if_neg (fun z => z.elim ha2 ha9), if_pos ha21], N0, e2⟩
      ·
        refine own_st (fun _ k => Jvm.RoadKit.acmp (g := (mkF m 21 #[.val (.ref u1), .val (.ref v1), .unset] [(.ref aN), (.ref u1)])) X2 hx rfl rfl rfl (pc0 := 21) (pc' := 29) (same := false) rfl (hb hby d_own_withm_21) rfl (decide_eq_false fun q => ha21 (Value.ref.inj q)) (by decide) (by decide) k) ?_
        show own_Go p.tables e below F (T2.setTop (mkF m 29 #[.val (.ref u1), .val (.ref v1), .unset] []))
        refine own_st (fun _ k => XS.aloadN X2.here hx rfl (hb hby d_own_withm_29) rfl rfl k) ?_
        show own_Go p.tables e below F (T2.setTop (mkF m 30 #[.val (.ref u1), .val (.ref v1), .unset] [(.ref u1)]))
        obtain ⟨T3, X3, e3, st3⟩ := getS2 X2 hx hZ hown (host := "") (Or.inl (hw _ (List.mem_of_getElem? (i := 22) rfl))) Via.refl e2 SL (g := (mkF m 30 #[.val (.ref u1), .val (.ref v1), .unset] [(.ref u1)])) rfl (hb hby d_own_withm_30)
        refine own_st st3 ?_
        show own_Go p.tables e below F (T3.setTop (mkF m 33 #[.val (.ref u1), .val (.ref v1), .unset] [(.ref aL), (.ref u1)]))
        by_cases ha33 : u1 = aL
        ·
          refine own_st (fun _ k => Jvm.RoadKit.acmp (g := (mkF m 33 #[.val (.ref u1), .val (.ref v1), .unset] [(.ref aL), (.ref u1)])) X3 hx rfl rfl rfl (pc0 := 33) (pc' := 43) (same := true) rfl (hb hby d_own_withm_33) rfl (decide_eq_true (congrArg Value.ref ha33)) (by decide) (by decide) k) ?_
          show own_Go p.tables e below F (T3.setTop (mkF m 43 #[.val (.ref u1), .val (.ref v1), .unset] []))
          obtain ⟨T4, X4, e4, st4⟩ := getS2 X3 hx hZ hown (host := "") (Or.inl (hw _ (List.mem_of_getElem? (i := 22) rfl))) Via.refl e3 SL (g := (mkF m 43 #[.val (.ref u1), .val (.ref v1), .unset] [])) rfl (hb hby d_own_withm_43)
          refine own_st st4 ?_
          show own_Go p.tables e below F (T4.setTop (mkF m 46 #[.val (.ref u1), .val (.ref v1), .unset] [(.ref aL)]))
          refine own_st (fun _ k => XS.astoreN X4.here hx rfl (hb hby d_own_withm_46) rfl rfl (l' := #[.val (.ref u1), .val (.ref v1), .val (.ref aL)]) rfl k) ?_
          show own_Go p.tables e below F (T4.setTop (mkF m 47 #[.val (.ref u1), .val (.ref v1), .val (.ref aL)] []))
          refine own_st (fun _ k => XS.goto X4.here hx rfl (pc0 := 47) (pc' := 54) rfl (hb hby d_own_withm_47) (by decide) (by decide) k) ?_
          show own_Go p.tables e below F (T4.setTop (mkF m 54 #[.val (.ref u1), .val (.ref v1), .val (.ref aL)] []))
          refine own_st (fun _ k => XS.aloadN X4.here hx rfl (hb hby d_own_withm_54) rfl rfl k) ?_
          show own_Go p.tables e below F (T4.setTop (mkF m 55 #[.val (.ref u1), .val (.ref v1), .val (.ref aL)] [(.ref aL)]))
          obtain ⟨fs, hrL, hrun, hended, hW, hsame⟩ := X4.leave (v := some (.ref aL)) (fun h => by rw [Bd.returns] at h; cases h)
          refine own_end hF (o := .returned (some (.ref aL))) (retOut X4 hx (t := (.object "com/example/barkbeetle/barkbeetle/Expr$NamesRead")) (i := .areturn) Bd.returns rfl (Or.inr (Or.inr (Or.inr (Or.inr ⟨rfl, rfl, rfl⟩)))) (hb hby d_own_withm_55) hrL) ?_
          refine ⟨hrun, hended, _, _, rfl, ?_, ⟨_, rfl⟩, hW, hsame.mono (by decide) (by decide)⟩
          exact ⟨by rw [own_w, if_neg (fun z => z.elim ha2 ha9), if_neg ha21, if_pos (Or.inl ha33)], N0, e4⟩
        ·
          refine own_st (fun _ k => Jvm.RoadKit.acmp (g := (mkF m 33 #[.val (.ref u1), .val (.ref v1), .unset] [(.ref aL), (.ref u1)])) X3 hx rfl rfl rfl (pc0 := 33) (pc' := 36) (same := false) rfl (hb hby d_own_withm_33) rfl (decide_eq_false fun q => ha33 (Value.ref.inj q)) (by decide) (by decide) k) ?_
          show own_Go p.tables e below F (T3.setTop (mkF m 36 #[.val (.ref u1), .val (.ref v1), .unset] []))
          refine own_st (fun _ k => XS.aloadN X3.here hx rfl (hb hby d_own_withm_36) rfl rfl k) ?_
          show own_Go p.tables e below F (T3.setTop (mkF m 37 #[.val (.ref u1), .val (.ref v1), .unset] [(.ref v1)]))
          obtain ⟨T5, X5, e5, st5⟩ := getS2 X3 hx hZ hown (host := "") (Or.inl (hw _ (List.mem_of_getElem? (i := 22) rfl))) Via.refl e3 SL (g := (mkF m 37 #[.val (.ref u1), .val (.ref v1), .unset] [(.ref v1)])) rfl (hb hby d_own_withm_37)
          refine own_st st5 ?_
          show own_Go p.tables e below F (T5.setTop (mkF m 40 #[.val (.ref u1), .val (.ref v1), .unset] [(.ref aL), (.ref v1)]))
          by_cases ha40 : v1 = aL
          ·
            refine own_st (fun _ k => Jvm.RoadKit.acmp (g := (mkF m 40 #[.val (.ref u1), .val (.ref v1), .unset] [(.ref aL), (.ref v1)])) X5 hx rfl rfl rfl (pc0 := 40) (pc' := 43) (same := true) rfl (hb hby d_own_withm_40) rfl (decide_eq_true (congrArg Value.ref ha40)) (by decide) (by decide) k) ?_
            show own_Go p.tables e below F (T5.setTop (mkF m 43 #[.val (.ref u1), .val (.ref v1), .unset] []))
            obtain ⟨T6, X6, e6, st6⟩ := getS2 X5 hx hZ hown (host := "") (Or.inl (hw _ (List.mem_of_getElem? (i := 22) rfl))) Via.refl e5 SL (g := (mkF m 43 #[.val (.ref u1), .val (.ref v1), .unset] [])) rfl (hb hby d_own_withm_43)
            refine own_st st6 ?_
            show own_Go p.tables e below F (T6.setTop (mkF m 46 #[.val (.ref u1), .val (.ref v1), .unset] [(.ref aL)]))
            refine own_st (fun _ k => XS.astoreN X6.here hx rfl (hb hby d_own_withm_46) rfl rfl (l' := #[.val (.ref u1), .val (.ref v1), .val (.ref aL)]) rfl k) ?_
            show own_Go p.tables e below F (T6.setTop (mkF m 47 #[.val (.ref u1), .val (.ref v1), .val (.ref aL)] []))
            refine own_st (fun _ k => XS.goto X6.here hx rfl (pc0 := 47) (pc' := 54) rfl (hb hby d_own_withm_47) (by decide) (by decide) k) ?_
            show own_Go p.tables e below F (T6.setTop (mkF m 54 #[.val (.ref u1), .val (.ref v1), .val (.ref aL)] []))
            refine own_st (fun _ k => XS.aloadN X6.here hx rfl (hb hby d_own_withm_54) rfl rfl k) ?_
            show own_Go p.tables e below F (T6.setTop (mkF m 55 #[.val (.ref u1), .val (.ref v1), .val (.ref aL)] [(.ref aL)]))
            obtain ⟨fs, hrL, hrun, hended, hW, hsame⟩ := X6.leave (v := some (.ref aL)) (fun h => by rw [Bd.returns] at h; cases h)
            refine own_end hF (o := .returned (some (.ref aL))) (retOut X6 hx (t := (.object "com/example/barkbeetle/barkbeetle/Expr$NamesRead")) (i := .areturn) Bd.returns rfl (Or.inr (Or.inr (Or.inr (Or.inr ⟨rfl, rfl, rfl⟩)))) (hb hby d_own_withm_55) hrL) ?_
            refine ⟨hrun, hended, _, _, rfl, ?_, ⟨_, rfl⟩, hW, hsame.mono (by decide) (by decide)⟩
            exact ⟨by rw [own_w, if_neg (fun z => z.elim ha2 ha9), if_neg ha21, if_pos (Or.inr ha40)], N0, e6⟩
          ·
            refine own_st (fun _ k => Jvm.RoadKit.acmp (g := (mkF m 40 #[.val (.ref u1), .val (.ref v1), .unset] [(.ref aL), (.ref v1)])) X5 hx rfl rfl rfl (pc0 := 40) (pc' := 50) (same := false) rfl (hb hby d_own_withm_40) rfl (decide_eq_false fun q => ha40 (Value.ref.inj q)) (by decide) (by decide) k) ?_
            show own_Go p.tables e below F (T5.setTop (mkF m 50 #[.val (.ref u1), .val (.ref v1), .unset] []))
            obtain ⟨T7, X7, e7, st7⟩ := getS2 X5 hx hZ hown (host := "") (Or.inl (hw _ (List.mem_of_getElem? (i := 23) rfl))) Via.refl e5 SX (g := (mkF m 50 #[.val (.ref u1), .val (.ref v1), .unset] [])) rfl (hb hby d_own_withm_50)
            refine own_st st7 ?_
            show own_Go p.tables e below F (T7.setTop (mkF m 53 #[.val (.ref u1), .val (.ref v1), .unset] [(.ref aX)]))
            refine own_st (fun _ k => XS.astoreN X7.here hx rfl (hb hby d_own_withm_53) rfl rfl (l' := #[.val (.ref u1), .val (.ref v1), .val (.ref aX)]) rfl k) ?_
            show own_Go p.tables e below F (T7.setTop (mkF m 54 #[.val (.ref u1), .val (.ref v1), .val (.ref aX)] []))
            refine own_st (fun _ k => XS.aloadN X7.here hx rfl (hb hby d_own_withm_54) rfl rfl k) ?_
            show own_Go p.tables e below F (T7.setTop (mkF m 55 #[.val (.ref u1), .val (.ref v1), .val (.ref aX)] [(.ref aX)]))
            obtain ⟨fs, hrL, hrun, hended, hW, hsame⟩ := X7.leave (v := some (.ref aX)) (fun h => by rw [Bd.returns] at h; cases h)
            refine own_end hF (o := .returned (some (.ref aX))) (retOut X7 hx (t := (.object "com/example/barkbeetle/barkbeetle/Expr$NamesRead")) (i := .areturn) Bd.returns rfl (Or.inr (Or.inr (Or.inr (Or.inr ⟨rfl, rfl, rfl⟩)))) (hb hby d_own_withm_55) hrL) ?_
            refine ⟨hrun, hended, _, _, rfl, ?_, ⟨_, rfl⟩, hW, hsame.mono (by decide) (by decide)⟩
            exact ⟨by rw [own_w, if_neg (fun z => z.elim ha2 ha9), if_neg ha21, if_neg (fun z => z.elim ha33 ha40)], N0, e7⟩
theorem own_five {Z : State} {h : Heap} {C n d : String} {aN aA aE aX aL : Addr} (f0 : Fld Z h aN C n d (.int 0)) (f1 : Fld Z h aA C n d (.int 1)) (f2 : Fld Z h aE C n d (.int 2)) (f3 : Fld Z h aX C n d (.int 3)) (f4 : Fld Z h aL C n d (.int 4)) : own_dist aN aA aE aX aL :=
  ⟨f0.ne f1 (by decide), f0.ne f2 (by decide), f0.ne f3 (by decide), f0.ne f4 (by decide), f1.ne f2 (by decide), f1.ne f3 (by decide), f1.ne f4 (by decide), f2.ne f3 (by decide), f2.ne f4 (by decide), f3.ne f4 (by decide)⟩
theorem pn_com_example_barkbeetle_barkbeetle_NamesReadWithPinLaw : plainName "com/example/barkbeetle/barkbeetle/NamesReadWithPinLaw" = true := by first | (simp [plainName, overriddenIn]; done) | decide +kernel
theorem pd_0 : parseMethodDescriptor "(Lcom/example/barkbeetle/barkbeetle/Expr$NamesRead;)Lcom/example/barkbeetle/barkbeetle/Expr$NamesRead;" = some ⟨[(.object "com/example/barkbeetle/barkbeetle/Expr$NamesRead")], some (.object "com/example/barkbeetle/barkbeetle/Expr$NamesRead")⟩ := by decide +kernel
set_option maxRecDepth 65536 in
set_option maxHeartbeats 40000000 in
theorem own_law (l : Launch) (Z : State) (a0 : Array Value) (hw : ∀ d ∈ tables_1, d.before a0 Z = true) (ws : List Jvm.Cond) (p1 p2 : Int32) (aN aA aE aX aL : Addr) (h0 : Heap) (n0 : Nat) (Z0 : n0 ≤ h0.size) (kaN : own_K Z h0 "NONE" aN 0) (kaA : own_K Z h0 "ATTRIBUTES" aA 1) (kaE : own_K Z h0 "ELEMENTS" aE 2) (kaX : own_K Z h0 "ELEMENTS_AND_ATTRIBUTES" aX 3) (kaL : own_K Z h0 "ALL" aL 4) :
    own_Met l Z x code maxLocals ret ws room_1 #[(.int p1), (.int p2)] h0 (own_Q0 h0 n0) := by
  refine MetFree.of_bodySF (plainFor_of_name pn_com_example_barkbeetle_barkbeetle_NamesReadWithPinLaw) hisR ?_
  intro p e s m args below meth c s₁ Bd hml0 hP hK
  obtain ⟨rfl, hZ, hh⟩ := hP
  have hx := Bd.exec
  have hby := Bd.bytes
  have hml : c.maxLocals = 9 := hml0
  have hown : s.vm.findClass "com/example/barkbeetle/barkbeetle/NamesReadWithPinLaw" = some m.cls := findClass_of_methodNamed Bd.named
  have hnm := (name_of_methodNamed Bd.named Bd.method).1
  have X0 : Stand p l e room_1 s m #[(.int p1), (.int p2)] below meth c s₁ [] 0 0 := Stand.of_body Bd
  have e0 : s₁.heap = h0 := by rw [← hh, Bd.state]; rfl
  have N0 := Fr.nil n0
  have hst : entryFrame m #[(.int p1), (.int p2)] maxLocals = mkF m 0 #[.val (.int p1), .val (.int p2), .unset, .unset, .unset, .unset, .unset, .unset, .unset] [] := by first | (simp [entryFrame, mkF, argsToLocals, Value.category, maxLocals]; done) | rfl
  obtain ⟨F, hF⟩ : ∃ F : State → Outcome → Prop, F = fun s₂ o => (s₂.status = .running ∧ Ended s₂ below o ∧ ∃ v L, o = .returned v ∧ (own_Q0 h0 n0) v s₂.heap L ∧ FrameEnd s o s₂ L (Room.cells room_1) (Room.slots room_1)) := ⟨_, rfl⟩
  suffices G : own_Go p.tables e below F (s₁.setTop (mkF m 0 #[.val (.int p1), .val (.int p2), .unset, .unset, .unset, .unset, .unset, .unset, .unset] [])) by
    obtain ⟨t, o, a, b⟩ := G
    rw [hF] at b
    exact ⟨t, o, castTop hst a, b⟩
  show own_Go p.tables e below F (s₁.setTop (mkF m 0 #[.val (.int p1), .val (.int p2), .unset, .unset, .unset, .unset, .unset, .unset, .unset] []))
  refine own_st (fun _ k => XS.iconst X0.here hx rfl (hb hby at_0) k) ?_
  show own_Go p.tables e below F (s₁.setTop (mkF m 1 #[.val (.int p1), .val (.int p2), .unset, .unset, .unset, .unset, .unset, .unset, .unset] [(.int (5 : Int32))]))
  obtain ⟨T1, h1, k1, X1, e1, E1, A1, O1, st1⟩ := newR X0 hx hZ hown (hw _ (List.mem_of_getElem? (i := 0) rfl)) (hw _ (List.mem_of_getElem? (i := 1) rfl)) e0 (g := (mkF m 1 #[.val (.int p1), .val (.int p2), .unset, .unset, .unset, .unset, .unset, .unset, .unset] [(.int (5 : Int32))])) rfl (hb hby at_1) rfl (by decide) (cap := 5) (by decide) (by decide) (by decide) (by decide)
  obtain ⟨b1, g1⟩ : ∃ z, z = h0.size := ⟨_, rfl⟩
  rw [← g1] at A1 st1
  have sz_b1 : h0.size ≤ b1 := Nat.le_trans own_ext_refl.1 (Nat.le_of_eq g1.symm)
  have gn_b1 : n0 ≤ b1 := Nat.le_trans Z0 sz_b1
  have K0_1 := own_ext_ext own_ext_refl E1
  have V1 : Arv Z h1 b1 k1 (.object "com/example/barkbeetle/barkbeetle/Expr$NamesRead") (5 : Int32) [.null, .null, .null, .null, .null] .null := (Arv.new A1 (by decide)).pad (pad_rep [] .null 5)
  refine own_st st1 ?_
  show own_Go p.tables e below F (T1.setTop (mkF m 4 #[.val (.int p1), .val (.int p2), .unset, .unset, .unset, .unset, .unset, .unset, .unset] [(.ref b1)]))
  refine own_st (fun _ k => XS.dup X1.here hx rfl (hb hby at_4) rfl rfl k) ?_
  show own_Go p.tables e below F (T1.setTop (mkF m 5 #[.val (.int p1), .val (.int p2), .unset, .unset, .unset, .unset, .unset, .unset, .unset] [(.ref b1), (.ref b1)]))
  refine own_st (fun _ k => XS.iconst X1.here hx rfl (hb hby at_5) k) ?_
  show own_Go p.tables e below F (T1.setTop (mkF m 6 #[.val (.int p1), .val (.int p2), .unset, .unset, .unset, .unset, .unset, .unset, .unset] [(.int (0 : Int32)), (.ref b1), (.ref b1)]))
  obtain ⟨T2, X2, e2, st2⟩ := getS2 X1 hx hZ hown (host := "") (Or.inl (hw _ (List.mem_of_getElem? (i := 2) rfl))) Via.refl e1 (kaN.1.ext K0_1) (g := (mkF m 6 #[.val (.int p1), .val (.int p2), .unset, .unset, .unset, .unset, .unset, .unset, .unset] [(.int (0 : Int32)), (.ref b1), (.ref b1)])) rfl (hb hby at_6)
  refine own_st st2 ?_
  show own_Go p.tables e below F (T2.setTop (mkF m 9 #[.val (.int p1), .val (.int p2), .unset, .unset, .unset, .unset, .unset, .unset, .unset] [(.ref aN), (.int (0 : Int32)), (.ref b1), (.ref b1)]))
  obtain ⟨cl3, Ar3, qc3, S3, Nn3, Hh3, Gg3⟩ := id V1
  have hin4 : ¬ ((0 : Int32) < 0 ∨ cl3.slots.size ≤ ((0 : Int32)).toNatClampNeg) := inb_of S3 ⟨by decide, by decide⟩
  obtain ⟨T4, h4, X4, e4, W4, st4⟩ := stR X2 hx hZ e2 Ar3 (j := (0 : Int32)) hin4 rfl (Sto.ofV Ar3 qc3 O1 (Ins.self (kaN.2.1.ext K0_1))) (g := (mkF m 9 #[.val (.int p1), .val (.int p2), .unset, .unset, .unset, .unset, .unset, .unset, .unset] [(.ref aN), (.int (0 : Int32)), (.ref b1), (.ref b1)])) rfl rfl (hb hby at_9)
  have V4 : Arv Z h4 b1 k1 (.object "com/example/barkbeetle/barkbeetle/Expr$NamesRead") (5 : Int32) [(.ref aN), .null, .null, .null, .null] .null := Arv.set Ar3 qc3 S3 Nn3 Hh3 Gg3 rfl W4 0 rfl (Nat.le_of_ble_eq_true rfl)
  have K0_4 := own_ext_wr K0_1 W4 sz_b1
  have N4 := Fr.snoc X4 N0 gn_b1
  refine own_st st4 ?_
  show own_Go p.tables e below F (T4.setTop (mkF m 10 #[.val (.int p1), .val (.int p2), .unset, .unset, .unset, .unset, .unset, .unset, .unset] [(.ref b1)]))
  refine own_st (fun _ k => XS.dup X4.here hx rfl (hb hby at_10) rfl rfl k) ?_
  show own_Go p.tables e below F (T4.setTop (mkF m 11 #[.val (.int p1), .val (.int p2), .unset, .unset, .unset, .unset, .unset, .unset, .unset] [(.ref b1), (.ref b1)]))
  refine own_st (fun _ k => XS.iconst X4.here hx rfl (hb hby at_11) k) ?_
  show own_Go p.tables e below F (T4.setTop (mkF m 12 #[.val (.int p1), .val (.int p2), .unset, .unset, .unset, .unset, .unset, .unset, .unset] [(.int (1 : Int32)), (.ref b1), (.ref b1)]))
  obtain ⟨T5, X5, e5, st5⟩ := getS2 X4 hx hZ hown (host := "") (Or.inl (hw _ (List.mem_of_getElem? (i := 6) rfl))) Via.refl e4 (kaA.1.ext K0_4) (g := (mkF m 12 #[.val (.int p1), .val (.int p2), .unset, .unset, .unset, .unset, .unset, .unset, .unset] [(.int (1 : Int32)), (.ref b1), (.ref b1)])) rfl (hb hby at_12)
  refine own_st st5 ?_
  show own_Go p.tables e below F (T5.setTop (mkF m 15 #[.val (.int p1), .val (.int p2), .unset, .unset, .unset, .unset, .unset, .unset, .unset] [(.ref aA), (.int (1 : Int32)), (.ref b1), (.ref b1)]))
  obtain ⟨cl6, Ar6, qc6, S6, Nn6, Hh6, Gg6⟩ := id V4
  have hin7 : ¬ ((1 : Int32) < 0 ∨ cl6.slots.size ≤ ((1 : Int32)).toNatClampNeg) := inb_of S6 ⟨by decide, by decide⟩
  obtain ⟨T7, h7, X7, e7, W7, st7⟩ := stR X5 hx hZ e5 Ar6 (j := (1 : Int32)) hin7 rfl (Sto.ofV Ar6 qc6 O1 (Ins.self (kaA.2.1.ext K0_4))) (g := (mkF m 15 #[.val (.int p1), .val (.int p2), .unset, .unset, .unset, .unset, .unset, .unset, .unset] [(.ref aA), (.int (1 : Int32)), (.ref b1), (.ref b1)])) rfl rfl (hb hby at_15)
  have V7 : Arv Z h7 b1 k1 (.object "com/example/barkbeetle/barkbeetle/Expr$NamesRead") (5 : Int32) [(.ref aN), (.ref aA), .null, .null, .null] .null := Arv.set Ar6 qc6 S6 Nn6 Hh6 Gg6 rfl W7 1 rfl (Nat.le_of_ble_eq_true rfl)
  have K0_7 := own_ext_wr K0_4 W7 sz_b1
  have N7 := Fr.snoc X7 N4 gn_b1
  refine own_st st7 ?_
  show own_Go p.tables e below F (T7.setTop (mkF m 16 #[.val (.int p1), .val (.int p2), .unset, .unset, .unset, .unset, .unset, .unset, .unset] [(.ref b1)]))
  refine own_st (fun _ k => XS.dup X7.here hx rfl (hb hby at_16) rfl rfl k) ?_
  show own_Go p.tables e below F (T7.setTop (mkF m 17 #[.val (.int p1), .val (.int p2), .unset, .unset, .unset, .unset, .unset, .unset, .unset] [(.ref b1), (.ref b1)]))
  refine own_st (fun _ k => XS.iconst X7.here hx rfl (hb hby at_17) k) ?_
  show own_Go p.tables e below F (T7.setTop (mkF m 18 #[.val (.int p1), .val (.int p2), .unset, .unset, .unset, .unset, .unset, .unset, .unset] [(.int (2 : Int32)), (.ref b1), (.ref b1)]))
  obtain ⟨T8, X8, e8, st8⟩ := getS2 X7 hx hZ hown (host := "") (Or.inl (hw _ (List.mem_of_getElem? (i := 8) rfl))) Via.refl e7 (kaE.1.ext K0_7) (g := (mkF m 18 #[.val (.int p1), .val (.int p2), .unset, .unset, .unset, .unset, .unset, .unset, .unset] [(.int (2 : Int32)), (.ref b1), (.ref b1)])) rfl (hb hby at_18)
  refine own_st st8 ?_
  show own_Go p.tables e below F (T8.setTop (mkF m 21 #[.val (.int p1), .val (.int p2), .unset, .unset, .unset, .unset, .unset, .unset, .unset] [(.ref aE), (.int (2 : Int32)), (.ref b1), (.ref b1)]))
  obtain ⟨cl9, Ar9, qc9, S9, Nn9, Hh9, Gg9⟩ := id V7
  have hin10 : ¬ ((2 : Int32) < 0 ∨ cl9.slots.size ≤ ((2 : Int32)).toNatClampNeg) := inb_of S9 ⟨by decide, by decide⟩
  obtain ⟨T10, h10, X10, e10, W10, st10⟩ := stR X8 hx hZ e8 Ar9 (j := (2 : Int32)) hin10 rfl (Sto.ofV Ar9 qc9 O1 (Ins.self (kaE.2.1.ext K0_7))) (g := (mkF m 21 #[.val (.int p1), .val (.int p2), .unset, .unset, .unset, .unset, .unset, .unset, .unset] [(.ref aE), (.int (2 : Int32)), (.ref b1), (.ref b1)])) rfl rfl (hb hby at_21)
  have V10 : Arv Z h10 b1 k1 (.object "com/example/barkbeetle/barkbeetle/Expr$NamesRead") (5 : Int32) [(.ref aN), (.ref aA), (.ref aE), .null, .null] .null := Arv.set Ar9 qc9 S9 Nn9 Hh9 Gg9 rfl W10 2 rfl (Nat.le_of_ble_eq_true rfl)
  have K0_10 := own_ext_wr K0_7 W10 sz_b1
  have N10 := Fr.snoc X10 N7 gn_b1
  refine own_st st10 ?_
  show own_Go p.tables e below F (T10.setTop (mkF m 22 #[.val (.int p1), .val (.int p2), .unset, .unset, .unset, .unset, .unset, .unset, .unset] [(.ref b1)]))
  refine own_st (fun _ k => XS.dup X10.here hx rfl (hb hby at_22) rfl rfl k) ?_
  show own_Go p.tables e below F (T10.setTop (mkF m 23 #[.val (.int p1), .val (.int p2), .unset, .unset, .unset, .unset, .unset, .unset, .unset] [(.ref b1), (.ref b1)]))
  refine own_st (fun _ k => XS.iconst X10.here hx rfl (hb hby at_23) k) ?_
  show own_Go p.tables e below F (T10.setTop (mkF m 24 #[.val (.int p1), .val (.int p2), .unset, .unset, .unset, .unset, .unset, .unset, .unset] [(.int (3 : Int32)), (.ref b1), (.ref b1)]))
  obtain ⟨T11, X11, e11, st11⟩ := getS2 X10 hx hZ hown (host := "") (Or.inl (hw _ (List.mem_of_getElem? (i := 10) rfl))) Via.refl e10 (kaX.1.ext K0_10) (g := (mkF m 24 #[.val (.int p1), .val (.int p2), .unset, .unset, .unset, .unset, .unset, .unset, .unset] [(.int (3 : Int32)), (.ref b1), (.ref b1)])) rfl (hb hby at_24)
  refine own_st st11 ?_
  show own_Go p.tables e below F (T11.setTop (mkF m 27 #[.val (.int p1), .val (.int p2), .unset, .unset, .unset, .unset, .unset, .unset, .unset] [(.ref aX), (.int (3 : Int32)), (.ref b1), (.ref b1)]))
  obtain ⟨cl12, Ar12, qc12, S12, Nn12, Hh12, Gg12⟩ := id V10
  have hin13 : ¬ ((3 : Int32) < 0 ∨ cl12.slots.size ≤ ((3 : Int32)).toNatClampNeg) := inb_of S12 ⟨by decide, by decide⟩
  obtain ⟨T13, h13, X13, e13, W13, st13⟩ := stR X11 hx hZ e11 Ar12 (j := (3 : Int32)) hin13 rfl (Sto.ofV Ar12 qc12 O1 (Ins.self (kaX.2.1.ext K0_10))) (g := (mkF m 27 #[.val (.int p1), .val (.int p2), .unset, .unset, .unset, .unset, .unset, .unset, .unset] [(.ref aX), (.int (3 : Int32)), (.ref b1), (.ref b1)])) rfl rfl (hb hby at_27)
  have V13 : Arv Z h13 b1 k1 (.object "com/example/barkbeetle/barkbeetle/Expr$NamesRead") (5 : Int32) [(.ref aN), (.ref aA), (.ref aE), (.ref aX), .null] .null := Arv.set Ar12 qc12 S12 Nn12 Hh12 Gg12 rfl W13 3 rfl (Nat.le_of_ble_eq_true rfl)
  have K0_13 := own_ext_wr K0_10 W13 sz_b1
  have N13 := Fr.snoc X13 N10 gn_b1
  refine own_st st13 ?_
  show own_Go p.tables e below F (T13.setTop (mkF m 28 #[.val (.int p1), .val (.int p2), .unset, .unset, .unset, .unset, .unset, .unset, .unset] [(.ref b1)]))
  refine own_st (fun _ k => XS.dup X13.here hx rfl (hb hby at_28) rfl rfl k) ?_
  show own_Go p.tables e below F (T13.setTop (mkF m 29 #[.val (.int p1), .val (.int p2), .unset, .unset, .unset, .unset, .unset, .unset, .unset] [(.ref b1), (.ref b1)]))
  refine own_st (fun _ k => XS.iconst X13.here hx rfl (hb hby at_29) k) ?_
  show own_Go p.tables e below F (T13.setTop (mkF m 30 #[.val (.int p1), .val (.int p2), .unset, .unset, .unset, .unset, .unset, .unset, .unset] [(.int (4 : Int32)), (.ref b1), (.ref b1)]))
  obtain ⟨T14, X14, e14, st14⟩ := getS2 X13 hx hZ hown (host := "") (Or.inl (hw _ (List.mem_of_getElem? (i := 12) rfl))) Via.refl e13 (kaL.1.ext K0_13) (g := (mkF m 30 #[.val (.int p1), .val (.int p2), .unset, .unset, .unset, .unset, .unset, .unset, .unset] [(.int (4 : Int32)), (.ref b1), (.ref b1)])) rfl (hb hby at_30)
  refine own_st st14 ?_
  show own_Go p.tables e below F (T14.setTop (mkF m 33 #[.val (.int p1), .val (.int p2), .unset, .unset, .unset, .unset, .unset, .unset, .unset] [(.ref aL), (.int (4 : Int32)), (.ref b1), (.ref b1)]))
  obtain ⟨cl15, Ar15, qc15, S15, Nn15, Hh15, Gg15⟩ := id V13
  have hin16 : ¬ ((4 : Int32) < 0 ∨ cl15.slots.size ≤ ((4 : Int32)).toNatClampNeg) := inb_of S15 ⟨by decide, by decide⟩
  obtain ⟨T16, h16, X16, e16, W16, st16⟩ := stR X14 hx hZ e14 Ar15 (j := (4 : Int32)) hin16 rfl (Sto.ofV Ar15 qc15 O1 (Ins.self (kaL.2.1.ext K0_13))) (g := (mkF m 33 #[.val (.int p1), .val (.int p2), .unset, .unset, .unset, .unset, .unset, .unset, .unset] [(.ref aL), (.int (4 : Int32)), (.ref b1), (.ref b1)])) rfl rfl (hb hby at_33)
  have V16 : Arv Z h16 b1 k1 (.object "com/example/barkbeetle/barkbeetle/Expr$NamesRead") (5 : Int32) [(.ref aN), (.ref aA), (.ref aE), (.ref aX), (.ref aL)] .null := Arv.set Ar15 qc15 S15 Nn15 Hh15 Gg15 rfl W16 4 rfl (Nat.le_of_ble_eq_true rfl)
  have K0_16 := own_ext_wr K0_13 W16 sz_b1
  have N16 := Fr.snoc X16 N13 gn_b1
  refine own_st st16 ?_
  show own_Go p.tables e below F (T16.setTop (mkF m 34 #[.val (.int p1), .val (.int p2), .unset, .unset, .unset, .unset, .unset, .unset, .unset] [(.ref b1)]))
  refine own_st (fun _ k => XS.astoreN X16.here hx rfl (hb hby at_34) rfl rfl (l' := #[.val (.int p1), .val (.int p2), .val (.ref b1), .unset, .unset, .unset, .unset, .unset, .unset]) rfl k) ?_
  show own_Go p.tables e below F (T16.setTop (mkF m 35 #[.val (.int p1), .val (.int p2), .val (.ref b1), .unset, .unset, .unset, .unset, .unset, .unset] []))
  refine own_st (fun _ k => XS.iconst X16.here hx rfl (hb hby at_35) k) ?_
  show own_Go p.tables e below F (T16.setTop (mkF m 36 #[.val (.int p1), .val (.int p2), .val (.ref b1), .unset, .unset, .unset, .unset, .unset, .unset] [(.int (5 : Int32))]))
  obtain ⟨T17, h17, k17, X17, e17, E17, A17, st17⟩ := newP X16 hx hZ (hw _ (List.mem_of_getElem? (i := 14) rfl)) e16 (g := (mkF m 36 #[.val (.int p1), .val (.int p2), .val (.ref b1), .unset, .unset, .unset, .unset, .unset, .unset] [(.int (5 : Int32))])) rfl (hb hby at_36) rfl (by decide) (cap := 5) (by decide) (by decide) (by decide) (by decide)
  obtain ⟨b17, g17⟩ : ∃ z, z = h16.size := ⟨_, rfl⟩
  rw [← g17] at A17 st17
  have sz_b17 : h0.size ≤ b17 := Nat.le_trans K0_16.1 (Nat.le_of_eq g17.symm)
  have gn_b17 : n0 ≤ b17 := Nat.le_trans Z0 sz_b17
  have ne_b1_b17 : b1 ≠ b17 := Nat.ne_of_lt (Nat.lt_of_lt_of_le V16.lt (Nat.le_of_eq g17.symm))
  have V16__17 := V16.ext E17
  have K0_17 := own_ext_ext K0_16 E17
  have V17 : Arv Z h17 b17 k17 .int (5 : Int32) [(.int (0 : Int32)), (.int (0 : Int32)), (.int (0 : Int32)), (.int (0 : Int32)), (.int (0 : Int32))] (.int (0 : Int32)) := (Arv.new A17 (by decide)).pad (pad_rep [] (.int (0 : Int32)) 5)
  refine own_st st17 ?_
  show own_Go p.tables e below F (T17.setTop (mkF m 38 #[.val (.int p1), .val (.int p2), .val (.ref b1), .unset, .unset, .unset, .unset, .unset, .unset] [(.ref b17)]))
  refine own_st (fun _ k => XS.dup X17.here hx rfl (hb hby at_38) rfl rfl k) ?_
  show own_Go p.tables e below F (T17.setTop (mkF m 39 #[.val (.int p1), .val (.int p2), .val (.ref b1), .unset, .unset, .unset, .unset, .unset, .unset] [(.ref b17), (.ref b17)]))
  refine own_st (fun _ k => XS.iconst X17.here hx rfl (hb hby at_39) k) ?_
  show own_Go p.tables e below F (T17.setTop (mkF m 40 #[.val (.int p1), .val (.int p2), .val (.ref b1), .unset, .unset, .unset, .unset, .unset, .unset] [(.int (0 : Int32)), (.ref b17), (.ref b17)]))
  refine own_st (fun _ k => XS.iconst X17.here hx rfl (hb hby at_40) k) ?_
  show own_Go p.tables e below F (T17.setTop (mkF m 41 #[.val (.int p1), .val (.int p2), .val (.ref b1), .unset, .unset, .unset, .unset, .unset, .unset] [(.int (0 : Int32)), (.int (0 : Int32)), (.ref b17), (.ref b17)]))
  obtain ⟨cl18, Ar18, qc18, S18, Nn18, Hh18, Gg18⟩ := id V17
  have hin19 : ¬ ((0 : Int32) < 0 ∨ cl18.slots.size ≤ ((0 : Int32)).toNatClampNeg) := inb_of S18 ⟨by decide, by decide⟩
  obtain ⟨T19, h19, X19, e19, W19, st19⟩ := stI X17 hx hZ e17 Ar18 (j := (0 : Int32)) hin19 (g := (mkF m 41 #[.val (.int p1), .val (.int p2), .val (.ref b1), .unset, .unset, .unset, .unset, .unset, .unset] [(.int (0 : Int32)), (.int (0 : Int32)), (.ref b17), (.ref b17)])) rfl rfl (hb hby at_41)
  have V19 : Arv Z h19 b17 k17 .int (5 : Int32) [(.int (0 : Int32)), (.int (0 : Int32)), (.int (0 : Int32)), (.int (0 : Int32)), (.int (0 : Int32))] (.int (0 : Int32)) := Arv.set Ar18 qc18 S18 Nn18 Hh18 Gg18 rfl W19 0 rfl (Nat.le_of_ble_eq_true rfl)
  have V16__19 := V16__17.other W19 ne_b1_b17
  have K0_19 := own_ext_wr K0_17 W19 sz_b17
  have N19 := Fr.snoc X19 N16 gn_b17
  refine own_st st19 ?_
  show own_Go p.tables e below F (T19.setTop (mkF m 42 #[.val (.int p1), .val (.int p2), .val (.ref b1), .unset, .unset, .unset, .unset, .unset, .unset] [(.ref b17)]))
  refine own_st (fun _ k => XS.dup X19.here hx rfl (hb hby at_42) rfl rfl k) ?_
  show own_Go p.tables e below F (T19.setTop (mkF m 43 #[.val (.int p1), .val (.int p2), .val (.ref b1), .unset, .unset, .unset, .unset, .unset, .unset] [(.ref b17), (.ref b17)]))
  refine own_st (fun _ k => XS.iconst X19.here hx rfl (hb hby at_43) k) ?_
  show own_Go p.tables e below F (T19.setTop (mkF m 44 #[.val (.int p1), .val (.int p2), .val (.ref b1), .unset, .unset, .unset, .unset, .unset, .unset] [(.int (1 : Int32)), (.ref b17), (.ref b17)]))
  refine own_st (fun _ k => XS.iconst X19.here hx rfl (hb hby at_44) k) ?_
  show own_Go p.tables e below F (T19.setTop (mkF m 45 #[.val (.int p1), .val (.int p2), .val (.ref b1), .unset, .unset, .unset, .unset, .unset, .unset] [(.int (1 : Int32)), (.int (1 : Int32)), (.ref b17), (.ref b17)]))
  obtain ⟨cl20, Ar20, qc20, S20, Nn20, Hh20, Gg20⟩ := id V19
  have hin21 : ¬ ((1 : Int32) < 0 ∨ cl20.slots.size ≤ ((1 : Int32)).toNatClampNeg) := inb_of S20 ⟨by decide, by decide⟩
  obtain ⟨T21, h21, X21, e21, W21, st21⟩ := stI X19 hx hZ e19 Ar20 (j := (1 : Int32)) hin21 (g := (mkF m 45 #[.val (.int p1), .val (.int p2), .val (.ref b1), .unset, .unset, .unset, .unset, .unset, .unset] [(.int (1 : Int32)), (.int (1 : Int32)), (.ref b17), (.ref b17)])) rfl rfl (hb hby at_45)
  have V21 : Arv Z h21 b17 k17 .int (5 : Int32) [(.int (0 : Int32)), (.int (1 : Int32)), (.int (0 : Int32)), (.int (0 : Int32)), (.int (0 : Int32))] (.int (0 : Int32)) := Arv.set Ar20 qc20 S20 Nn20 Hh20 Gg20 rfl W21 1 rfl (Nat.le_of_ble_eq_true rfl)
  have V16__21 := V16__19.other W21 ne_b1_b17
  have K0_21 := own_ext_wr K0_19 W21 sz_b17
  have N21 := Fr.snoc X21 N19 gn_b17
  refine own_st st21 ?_
  show own_Go p.tables e below F (T21.setTop (mkF m 46 #[.val (.int p1), .val (.int p2), .val (.ref b1), .unset, .unset, .unset, .unset, .unset, .unset] [(.ref b17)]))
  refine own_st (fun _ k => XS.dup X21.here hx rfl (hb hby at_46) rfl rfl k) ?_
  show own_Go p.tables e below F (T21.setTop (mkF m 47 #[.val (.int p1), .val (.int p2), .val (.ref b1), .unset, .unset, .unset, .unset, .unset, .unset] [(.ref b17), (.ref b17)]))
  refine own_st (fun _ k => XS.iconst X21.here hx rfl (hb hby at_47) k) ?_
  show own_Go p.tables e below F (T21.setTop (mkF m 48 #[.val (.int p1), .val (.int p2), .val (.ref b1), .unset, .unset, .unset, .unset, .unset, .unset] [(.int (2 : Int32)), (.ref b17), (.ref b17)]))
  refine own_st (fun _ k => XS.iconst X21.here hx rfl (hb hby at_48) k) ?_
  show own_Go p.tables e below F (T21.setTop (mkF m 49 #[.val (.int p1), .val (.int p2), .val (.ref b1), .unset, .unset, .unset, .unset, .unset, .unset] [(.int (2 : Int32)), (.int (2 : Int32)), (.ref b17), (.ref b17)]))
  obtain ⟨cl22, Ar22, qc22, S22, Nn22, Hh22, Gg22⟩ := id V21
  have hin23 : ¬ ((2 : Int32) < 0 ∨ cl22.slots.size ≤ ((2 : Int32)).toNatClampNeg) := inb_of S22 ⟨by decide, by decide⟩
  obtain ⟨T23, h23, X23, e23, W23, st23⟩ := stI X21 hx hZ e21 Ar22 (j := (2 : Int32)) hin23 (g := (mkF m 49 #[.val (.int p1), .val (.int p2), .val (.ref b1), .unset, .unset, .unset, .unset, .unset, .unset] [(.int (2 : Int32)), (.int (2 : Int32)), (.ref b17), (.ref b17)])) rfl rfl (hb hby at_49)
  have V23 : Arv Z h23 b17 k17 .int (5 : Int32) [(.int (0 : Int32)), (.int (1 : Int32)), (.int (2 : Int32)), (.int (0 : Int32)), (.int (0 : Int32))] (.int (0 : Int32)) := Arv.set Ar22 qc22 S22 Nn22 Hh22 Gg22 rfl W23 2 rfl (Nat.le_of_ble_eq_true rfl)
  have V16__23 := V16__21.other W23 ne_b1_b17
  have K0_23 := own_ext_wr K0_21 W23 sz_b17
  have N23 := Fr.snoc X23 N21 gn_b17
  refine own_st st23 ?_
  show own_Go p.tables e below F (T23.setTop (mkF m 50 #[.val (.int p1), .val (.int p2), .val (.ref b1), .unset, .unset, .unset, .unset, .unset, .unset] [(.ref b17)]))
  refine own_st (fun _ k => XS.dup X23.here hx rfl (hb hby at_50) rfl rfl k) ?_
  show own_Go p.tables e below F (T23.setTop (mkF m 51 #[.val (.int p1), .val (.int p2), .val (.ref b1), .unset, .unset, .unset, .unset, .unset, .unset] [(.ref b17), (.ref b17)]))
  refine own_st (fun _ k => XS.iconst X23.here hx rfl (hb hby at_51) k) ?_
  show own_Go p.tables e below F (T23.setTop (mkF m 52 #[.val (.int p1), .val (.int p2), .val (.ref b1), .unset, .unset, .unset, .unset, .unset, .unset] [(.int (3 : Int32)), (.ref b17), (.ref b17)]))
  refine own_st (fun _ k => XS.iconst X23.here hx rfl (hb hby at_52) k) ?_
  show own_Go p.tables e below F (T23.setTop (mkF m 53 #[.val (.int p1), .val (.int p2), .val (.ref b1), .unset, .unset, .unset, .unset, .unset, .unset] [(.int (3 : Int32)), (.int (3 : Int32)), (.ref b17), (.ref b17)]))
  obtain ⟨cl24, Ar24, qc24, S24, Nn24, Hh24, Gg24⟩ := id V23
  have hin25 : ¬ ((3 : Int32) < 0 ∨ cl24.slots.size ≤ ((3 : Int32)).toNatClampNeg) := inb_of S24 ⟨by decide, by decide⟩
  obtain ⟨T25, h25, X25, e25, W25, st25⟩ := stI X23 hx hZ e23 Ar24 (j := (3 : Int32)) hin25 (g := (mkF m 53 #[.val (.int p1), .val (.int p2), .val (.ref b1), .unset, .unset, .unset, .unset, .unset, .unset] [(.int (3 : Int32)), (.int (3 : Int32)), (.ref b17), (.ref b17)])) rfl rfl (hb hby at_53)
  have V25 : Arv Z h25 b17 k17 .int (5 : Int32) [(.int (0 : Int32)), (.int (1 : Int32)), (.int (2 : Int32)), (.int (3 : Int32)), (.int (0 : Int32))] (.int (0 : Int32)) := Arv.set Ar24 qc24 S24 Nn24 Hh24 Gg24 rfl W25 3 rfl (Nat.le_of_ble_eq_true rfl)
  have V16__25 := V16__23.other W25 ne_b1_b17
  have K0_25 := own_ext_wr K0_23 W25 sz_b17
  have N25 := Fr.snoc X25 N23 gn_b17
  refine own_st st25 ?_
  show own_Go p.tables e below F (T25.setTop (mkF m 54 #[.val (.int p1), .val (.int p2), .val (.ref b1), .unset, .unset, .unset, .unset, .unset, .unset] [(.ref b17)]))
  refine own_st (fun _ k => XS.dup X25.here hx rfl (hb hby at_54) rfl rfl k) ?_
  show own_Go p.tables e below F (T25.setTop (mkF m 55 #[.val (.int p1), .val (.int p2), .val (.ref b1), .unset, .unset, .unset, .unset, .unset, .unset] [(.ref b17), (.ref b17)]))
  refine own_st (fun _ k => XS.iconst X25.here hx rfl (hb hby at_55) k) ?_
  show own_Go p.tables e below F (T25.setTop (mkF m 56 #[.val (.int p1), .val (.int p2), .val (.ref b1), .unset, .unset, .unset, .unset, .unset, .unset] [(.int (4 : Int32)), (.ref b17), (.ref b17)]))
  refine own_st (fun _ k => XS.bipush X25.here hx rfl (hb hby at_56) k) ?_
  show own_Go p.tables e below F (T25.setTop (mkF m 58 #[.val (.int p1), .val (.int p2), .val (.ref b1), .unset, .unset, .unset, .unset, .unset, .unset] [(.int (7 : Int32)), (.int (4 : Int32)), (.ref b17), (.ref b17)]))
  obtain ⟨cl26, Ar26, qc26, S26, Nn26, Hh26, Gg26⟩ := id V25
  have hin27 : ¬ ((4 : Int32) < 0 ∨ cl26.slots.size ≤ ((4 : Int32)).toNatClampNeg) := inb_of S26 ⟨by decide, by decide⟩
  obtain ⟨T27, h27, X27, e27, W27, st27⟩ := stI X25 hx hZ e25 Ar26 (j := (4 : Int32)) hin27 (g := (mkF m 58 #[.val (.int p1), .val (.int p2), .val (.ref b1), .unset, .unset, .unset, .unset, .unset, .unset] [(.int (7 : Int32)), (.int (4 : Int32)), (.ref b17), (.ref b17)])) rfl rfl (hb hby at_58)
  have V27 : Arv Z h27 b17 k17 .int (5 : Int32) [(.int (0 : Int32)), (.int (1 : Int32)), (.int (2 : Int32)), (.int (3 : Int32)), (.int (7 : Int32))] (.int (0 : Int32)) := Arv.set Ar26 qc26 S26 Nn26 Hh26 Gg26 rfl W27 4 rfl (Nat.le_of_ble_eq_true rfl)
  have V16__27 := V16__25.other W27 ne_b1_b17
  have K0_27 := own_ext_wr K0_25 W27 sz_b17
  have N27 := Fr.snoc X27 N25 gn_b17
  refine own_st st27 ?_
  show own_Go p.tables e below F (T27.setTop (mkF m 59 #[.val (.int p1), .val (.int p2), .val (.ref b1), .unset, .unset, .unset, .unset, .unset, .unset] [(.ref b17)]))
  refine own_st (fun _ k => XS.astoreN X27.here hx rfl (hb hby at_59) rfl rfl (l' := #[.val (.int p1), .val (.int p2), .val (.ref b1), .val (.ref b17), .unset, .unset, .unset, .unset, .unset]) rfl k) ?_
  show own_Go p.tables e below F (T27.setTop (mkF m 60 #[.val (.int p1), .val (.int p2), .val (.ref b1), .val (.ref b17), .unset, .unset, .unset, .unset, .unset] []))
  refine own_st (fun _ k => XS.iloadN X27.here hx rfl (hb hby at_60) rfl k) ?_
  show own_Go p.tables e below F (T27.setTop (mkF m 61 #[.val (.int p1), .val (.int p2), .val (.ref b1), .val (.ref b17), .unset, .unset, .unset, .unset, .unset] [(.int p1)]))
  refine own_st (X27.ldcInt hx hown (mvT hZ (hw _ (List.mem_of_getElem? (i := 15) rfl))) (g := (mkF m 61 #[.val (.int p1), .val (.int p2), .val (.ref b1), .val (.ref b17), .unset, .unset, .unset, .unset, .unset] [(.int p1)])) rfl (hb hby at_61)) ?_
  show own_Go p.tables e below F (T27.setTop (mkF m 63 #[.val (.int p1), .val (.int p2), .val (.ref b1), .val (.ref b17), .unset, .unset, .unset, .unset, .unset] [(.int (2147483647 : Int32)), (.int p1)]))
  refine own_st (fun _ k => XS.iand X27.here hx rfl (hb hby at_63) rfl k) ?_
  show own_Go p.tables e below F (T27.setTop (mkF m 64 #[.val (.int p1), .val (.int p2), .val (.ref b1), .val (.ref b17), .unset, .unset, .unset, .unset, .unset] [(.int (p1 &&& (2147483647 : Int32)))]))
  refine own_st (fun _ k => XS.iconst X27.here hx rfl (hb hby at_64) k) ?_
  show own_Go p.tables e below F (T27.setTop (mkF m 65 #[.val (.int p1), .val (.int p2), .val (.ref b1), .val (.ref b17), .unset, .unset, .unset, .unset, .unset] [(.int (5 : Int32)), (.int (p1 &&& (2147483647 : Int32)))]))
  refine own_st (fun _ k => Jvm.RoadKit.iremM X27 hx rfl (hb hby at_65) rfl (by decide) k) ?_
  show own_Go p.tables e below F (T27.setTop (mkF m 66 #[.val (.int p1), .val (.int p2), .val (.ref b1), .val (.ref b17), .unset, .unset, .unset, .unset, .unset] [(.int ((p1 &&& (2147483647 : Int32)) % (5 : Int32)))]))
  refine own_st (fun _ k => XS.istore X27.here hx rfl (hb hby at_66) rfl (l' := #[.val (.int p1), .val (.int p2), .val (.ref b1), .val (.ref b17), .val (.int ((p1 &&& (2147483647 : Int32)) % (5 : Int32))), .unset, .unset, .unset, .unset]) rfl k) ?_
  show own_Go p.tables e below F (T27.setTop (mkF m 68 #[.val (.int p1), .val (.int p2), .val (.ref b1), .val (.ref b17), .val (.int ((p1 &&& (2147483647 : Int32)) % (5 : Int32))), .unset, .unset, .unset, .unset] []))
  refine own_st (fun _ k => XS.iloadN X27.here hx rfl (hb hby at_68) rfl k) ?_
  show own_Go p.tables e below F (T27.setTop (mkF m 69 #[.val (.int p1), .val (.int p2), .val (.ref b1), .val (.ref b17), .val (.int ((p1 &&& (2147483647 : Int32)) % (5 : Int32))), .unset, .unset, .unset, .unset] [(.int p2)]))
  refine own_st (X27.ldcInt hx hown (mvT hZ (hw _ (List.mem_of_getElem? (i := 15) rfl))) (g := (mkF m 69 #[.val (.int p1), .val (.int p2), .val (.ref b1), .val (.ref b17), .val (.int ((p1 &&& (2147483647 : Int32)) % (5 : Int32))), .unset, .unset, .unset, .unset] [(.int p2)])) rfl (hb hby at_69)) ?_
  show own_Go p.tables e below F (T27.setTop (mkF m 71 #[.val (.int p1), .val (.int p2), .val (.ref b1), .val (.ref b17), .val (.int ((p1 &&& (2147483647 : Int32)) % (5 : Int32))), .unset, .unset, .unset, .unset] [(.int (2147483647 : Int32)), (.int p2)]))
  refine own_st (fun _ k => XS.iand X27.here hx rfl (hb hby at_71) rfl k) ?_
  show own_Go p.tables e below F (T27.setTop (mkF m 72 #[.val (.int p1), .val (.int p2), .val (.ref b1), .val (.ref b17), .val (.int ((p1 &&& (2147483647 : Int32)) % (5 : Int32))), .unset, .unset, .unset, .unset] [(.int (p2 &&& (2147483647 : Int32)))]))
  refine own_st (fun _ k => XS.iconst X27.here hx rfl (hb hby at_72) k) ?_
  show own_Go p.tables e below F (T27.setTop (mkF m 73 #[.val (.int p1), .val (.int p2), .val (.ref b1), .val (.ref b17), .val (.int ((p1 &&& (2147483647 : Int32)) % (5 : Int32))), .unset, .unset, .unset, .unset] [(.int (5 : Int32)), (.int (p2 &&& (2147483647 : Int32)))]))
  refine own_st (fun _ k => Jvm.RoadKit.iremM X27 hx rfl (hb hby at_73) rfl (by decide) k) ?_
  show own_Go p.tables e below F (T27.setTop (mkF m 74 #[.val (.int p1), .val (.int p2), .val (.ref b1), .val (.ref b17), .val (.int ((p1 &&& (2147483647 : Int32)) % (5 : Int32))), .unset, .unset, .unset, .unset] [(.int ((p2 &&& (2147483647 : Int32)) % (5 : Int32)))]))
  refine own_st (fun _ k => XS.istore X27.here hx rfl (hb hby at_74) rfl (l' := #[.val (.int p1), .val (.int p2), .val (.ref b1), .val (.ref b17), .val (.int ((p1 &&& (2147483647 : Int32)) % (5 : Int32))), .val (.int ((p2 &&& (2147483647 : Int32)) % (5 : Int32))), .unset, .unset, .unset]) rfl k) ?_
  show own_Go p.tables e below F (T27.setTop (mkF m 76 #[.val (.int p1), .val (.int p2), .val (.ref b1), .val (.ref b17), .val (.int ((p1 &&& (2147483647 : Int32)) % (5 : Int32))), .val (.int ((p2 &&& (2147483647 : Int32)) % (5 : Int32))), .unset, .unset, .unset] []))
  have hi := own_mod5 p1
  have hj := own_mod5 p2
  generalize (p1 &&& (2147483647 : Int32)) % (5 : Int32) = i at hi ⊢
  generalize (p2 &&& (2147483647 : Int32)) % (5 : Int32) = j at hj ⊢
  show own_Go p.tables e below F (T27.setTop (mkF m 76 #[.val (.int p1), .val (.int p2), .val (.ref b1), .val (.ref b17), .val (.int i), .val (.int j), .unset, .unset, .unset] []))
  refine own_st (fun _ k => XS.aloadN X27.here hx rfl (hb hby at_76) rfl rfl k) ?_
  show own_Go p.tables e below F (T27.setTop (mkF m 77 #[.val (.int p1), .val (.int p2), .val (.ref b1), .val (.ref b17), .val (.int i), .val (.int j), .unset, .unset, .unset] [(.ref b1)]))
  refine own_st (fun _ k => XS.iload X27.here hx rfl (hb hby at_77) rfl k) ?_
  show own_Go p.tables e below F (T27.setTop (mkF m 79 #[.val (.int p1), .val (.int p2), .val (.ref b1), .val (.ref b17), .val (.int i), .val (.int j), .unset, .unset, .unset] [(.int i), (.ref b1)]))
  obtain ⟨cl28, Ar28, qc28, S28, Nn28, Hh28, Gg28⟩ := id V16__27
  have hin29 : ¬ (i < 0 ∨ cl28.slots.size ≤ (i).toNatClampNeg) := inb_of S28 (own_rng hi)
  refine own_st (X27.aaload hx (j := i) (v := (.ref (own_g aN aA aE aX aL i))) (by rw [e27]; exact Ar28.1) (State.isArrayOf_alike hZ.alike Ar28.2.1) rfl Ar28.2.2 hin29 (Has.at Hh28 hin29 (own_gd hi)) (g := (mkF m 79 #[.val (.int p1), .val (.int p2), .val (.ref b1), .val (.ref b17), .val (.int i), .val (.int j), .unset, .unset, .unset] [(.int i), (.ref b1)])) rfl rfl (hb hby at_79)) ?_
  show own_Go p.tables e below F (T27.setTop (mkF m 80 #[.val (.int p1), .val (.int p2), .val (.ref b1), .val (.ref b17), .val (.int i), .val (.int j), .unset, .unset, .unset] [(.ref (own_g aN aA aE aX aL i))]))
  refine own_st (fun _ k => XS.aloadN X27.here hx rfl (hb hby at_80) rfl rfl k) ?_
  show own_Go p.tables e below F (T27.setTop (mkF m 81 #[.val (.int p1), .val (.int p2), .val (.ref b1), .val (.ref b17), .val (.int i), .val (.int j), .unset, .unset, .unset] [(.ref b1), (.ref (own_g aN aA aE aX aL i))]))
  refine own_st (fun _ k => XS.iload X27.here hx rfl (hb hby at_81) rfl k) ?_
  show own_Go p.tables e below F (T27.setTop (mkF m 83 #[.val (.int p1), .val (.int p2), .val (.ref b1), .val (.ref b17), .val (.int i), .val (.int j), .unset, .unset, .unset] [(.int j), (.ref b1), (.ref (own_g aN aA aE aX aL i))]))
  obtain ⟨cl30, Ar30, qc30, S30, Nn30, Hh30, Gg30⟩ := id V16__27
  have hin31 : ¬ (j < 0 ∨ cl30.slots.size ≤ (j).toNatClampNeg) := inb_of S30 (own_rng hj)
  refine own_st (X27.aaload hx (j := j) (v := (.ref (own_g aN aA aE aX aL j))) (by rw [e27]; exact Ar30.1) (State.isArrayOf_alike hZ.alike Ar30.2.1) rfl Ar30.2.2 hin31 (Has.at Hh30 hin31 (own_gd hj)) (g := (mkF m 83 #[.val (.int p1), .val (.int p2), .val (.ref b1), .val (.ref b17), .val (.int i), .val (.int j), .unset, .unset, .unset] [(.int j), (.ref b1), (.ref (own_g aN aA aE aX aL i))])) rfl rfl (hb hby at_83)) ?_
  show own_Go p.tables e below F (T27.setTop (mkF m 84 #[.val (.int p1), .val (.int p2), .val (.ref b1), .val (.ref b17), .val (.int i), .val (.int j), .unset, .unset, .unset] [(.ref (own_g aN aA aE aX aL j)), (.ref (own_g aN aA aE aX aL i))]))
  obtain ⟨cq32, kq32, q32a, q32b, q32c⟩ := isOf hZ e27 ((own_exa kaN.2.1 kaA.2.1 kaE.2.1 kaX.2.1 kaL.2.1 hi).ext K0_27)
  obtain ⟨_, _, ⟨T32, L32, k32, n32⟩, -, X32, ⟨Lc32, hQ32, l32, y32, z32⟩, st32⟩ := X27.virtualBack hx (y := (⟨"com/example/barkbeetle/barkbeetle/Expr$NamesRead", "with", "(Lcom/example/barkbeetle/barkbeetle/Expr$NamesRead;)Lcom/example/barkbeetle/barkbeetle/Expr$NamesRead;"⟩ : MethodName)) (z := (⟨"com/example/barkbeetle/barkbeetle/Expr$NamesRead", "with", "(Lcom/example/barkbeetle/barkbeetle/Expr$NamesRead;)Lcom/example/barkbeetle/barkbeetle/Expr$NamesRead;"⟩ : MethodName)) hown (mvT hZ (hw _ (List.mem_of_getElem? (i := 16) rfl))) (mvT hZ (hw _ (List.mem_of_getElem? (i := 17) rfl))) (notFace_of_selects (args := #[]) (mvT hZ (hw _ (List.mem_of_getElem? (i := 19) rfl)))) (mvT hZ (hw _ (List.mem_of_getElem? (i := 19) rfl))) (mvT hZ (hw _ (List.mem_of_getElem? (i := 18) rfl))) (by decide) (backOf (W := 0) (own_withm l Z a0 hw [] (own_g aN aA aE aX aL i) (own_g aN aA aE aX aL j) aN aX aL h27 n0 (kaN.1.ext K0_27) (kaX.1.ext K0_27) (kaL.1.ext K0_27)) hZ (hw _ (List.mem_of_getElem? (i := 20) rfl)) (hw _ (List.mem_of_getElem? (i := 3) rfl)) (by decide) (by decide)) q32a q32c (g := (mkF m 84 #[.val (.int p1), .val (.int p2), .val (.ref b1), .val (.ref b17), .val (.int i), .val (.int j), .unset, .unset, .unset] [(.ref (own_g aN aA aE aX aL j)), (.ref (own_g aN aA aE aX aL i))])) rfl (by rw [hml]; rfl) (Steps.refl _) (argsL := [(.ref (own_g aN aA aE aX aL j))]) (rest := []) (lenOf pd_0 rfl) rfl (by show 2 * 0 + _ ≤ _; exact Nat.le_of_eq rfl) (hb hby at_84) (fun _ _ => ⟨rfl, e27, (by decide : 2 + 0 ≤ _), (by decide : 10 + 0 ≤ _)⟩)
  dsimp only [Pt.U, Pt.locs, Pt.cells, Pt.slots] at X32 l32 y32 z32 st32 hQ32
  subst l32 y32 z32
  obtain ⟨rfl, N32q, e32⟩ := hQ32
  have N32 := Fr.app N27 N32q
  refine own_st (fun _ k => st32.trans k) ?_
  show own_Go p.tables e below F (T32.setTop (mkF m 87 #[.val (.int p1), .val (.int p2), .val (.ref b1), .val (.ref b17), .val (.int i), .val (.int j), .unset, .unset, .unset] [(.ref (own_w aN aX aL (own_g aN aA aE aX aL i) (own_g aN aA aE aX aL j)))]))
  refine own_st (fun _ k => XS.astore X32.here hx rfl (hb hby at_87) rfl rfl (l' := #[.val (.int p1), .val (.int p2), .val (.ref b1), .val (.ref b17), .val (.int i), .val (.int j), .val (.ref (own_w aN aX aL (own_g aN aA aE aX aL i) (own_g aN aA aE aX aL j))), .unset, .unset]) rfl k) ?_
  show own_Go p.tables e below F (T32.setTop (mkF m 89 #[.val (.int p1), .val (.int p2), .val (.ref b1), .val (.ref b17), .val (.int i), .val (.int j), .val (.ref (own_w aN aX aL (own_g aN aA aE aX aL i) (own_g aN aA aE aX aL j))), .unset, .unset] []))
  refine own_st (fun _ k => XS.aloadN X32.here hx rfl (hb hby at_89) rfl rfl k) ?_
  show own_Go p.tables e below F (T32.setTop (mkF m 90 #[.val (.int p1), .val (.int p2), .val (.ref b1), .val (.ref b17), .val (.int i), .val (.int j), .val (.ref (own_w aN aX aL (own_g aN aA aE aX aL i) (own_g aN aA aE aX aL j))), .unset, .unset] [(.ref b17)]))
  refine own_st (fun _ k => XS.iload X32.here hx rfl (hb hby at_90) rfl k) ?_
  show own_Go p.tables e below F (T32.setTop (mkF m 92 #[.val (.int p1), .val (.int p2), .val (.ref b1), .val (.ref b17), .val (.int i), .val (.int j), .val (.ref (own_w aN aX aL (own_g aN aA aE aX aL i) (own_g aN aA aE aX aL j))), .unset, .unset] [(.int i), (.ref b17)]))
  obtain ⟨cl33, Ar33, qc33, S33, Nn33, Hh33, Gg33⟩ := id V27
  have hin34 : ¬ (i < 0 ∨ cl33.slots.size ≤ (i).toNatClampNeg) := inb_of S33 (own_rng hi)
  refine own_st (X32.iaload hx (j := i) (v := (.int (own_b i))) (by rw [e32]; exact Ar33.1) (State.isArrayOf_alike hZ.alike Ar33.2.1) Ar33.2.2 hin34 (Has.at Hh33 hin34 (own_bd hi)) (g := (mkF m 92 #[.val (.int p1), .val (.int p2), .val (.ref b1), .val (.ref b17), .val (.int i), .val (.int j), .val (.ref (own_w aN aX aL (own_g aN aA aE aX aL i) (own_g aN aA aE aX aL j))), .unset, .unset] [(.int i), (.ref b17)])) rfl rfl (hb hby at_92)) ?_
  show own_Go p.tables e below F (T32.setTop (mkF m 93 #[.val (.int p1), .val (.int p2), .val (.ref b1), .val (.ref b17), .val (.int i), .val (.int j), .val (.ref (own_w aN aX aL (own_g aN aA aE aX aL i) (own_g aN aA aE aX aL j))), .unset, .unset] [(.int (own_b i))]))
  refine own_st (fun _ k => XS.aloadN X32.here hx rfl (hb hby at_93) rfl rfl k) ?_
  show own_Go p.tables e below F (T32.setTop (mkF m 94 #[.val (.int p1), .val (.int p2), .val (.ref b1), .val (.ref b17), .val (.int i), .val (.int j), .val (.ref (own_w aN aX aL (own_g aN aA aE aX aL i) (own_g aN aA aE aX aL j))), .unset, .unset] [(.ref b17), (.int (own_b i))]))
  refine own_st (fun _ k => XS.iload X32.here hx rfl (hb hby at_94) rfl k) ?_
  show own_Go p.tables e below F (T32.setTop (mkF m 96 #[.val (.int p1), .val (.int p2), .val (.ref b1), .val (.ref b17), .val (.int i), .val (.int j), .val (.ref (own_w aN aX aL (own_g aN aA aE aX aL i) (own_g aN aA aE aX aL j))), .unset, .unset] [(.int j), (.ref b17), (.int (own_b i))]))
  obtain ⟨cl35, Ar35, qc35, S35, Nn35, Hh35, Gg35⟩ := id V27
  have hin36 : ¬ (j < 0 ∨ cl35.slots.size ≤ (j).toNatClampNeg) := inb_of S35 (own_rng hj)
  refine own_st (X32.iaload hx (j := j) (v := (.int (own_b j))) (by rw [e32]; exact Ar35.1) (State.isArrayOf_alike hZ.alike Ar35.2.1) Ar35.2.2 hin36 (Has.at Hh35 hin36 (own_bd hj)) (g := (mkF m 96 #[.val (.int p1), .val (.int p2), .val (.ref b1), .val (.ref b17), .val (.int i), .val (.int j), .val (.ref (own_w aN aX aL (own_g aN aA aE aX aL i) (own_g aN aA aE aX aL j))), .unset, .unset] [(.int j), (.ref b17), (.int (own_b i))])) rfl rfl (hb hby at_96)) ?_
  show own_Go p.tables e below F (T32.setTop (mkF m 97 #[.val (.int p1), .val (.int p2), .val (.ref b1), .val (.ref b17), .val (.int i), .val (.int j), .val (.ref (own_w aN aX aL (own_g aN aA aE aX aL i) (own_g aN aA aE aX aL j))), .unset, .unset] [(.int (own_b j)), (.int (own_b i))]))
  refine own_st (fun _ k => XS.ior X32.here hx rfl (hb hby at_97) rfl k) ?_
  show own_Go p.tables e below F (T32.setTop (mkF m 98 #[.val (.int p1), .val (.int p2), .val (.ref b1), .val (.ref b17), .val (.int i), .val (.int j), .val (.ref (own_w aN aX aL (own_g aN aA aE aX aL i) (own_g aN aA aE aX aL j))), .unset, .unset] [(.int ((own_b i) ||| (own_b j)))]))
  refine own_st (fun _ k => XS.istore X32.here hx rfl (hb hby at_98) rfl (l' := #[.val (.int p1), .val (.int p2), .val (.ref b1), .val (.ref b17), .val (.int i), .val (.int j), .val (.ref (own_w aN aX aL (own_g aN aA aE aX aL i) (own_g aN aA aE aX aL j))), .val (.int ((own_b i) ||| (own_b j))), .unset]) rfl k) ?_
  show own_Go p.tables e below F (T32.setTop (mkF m 100 #[.val (.int p1), .val (.int p2), .val (.ref b1), .val (.ref b17), .val (.int i), .val (.int j), .val (.ref (own_w aN aX aL (own_g aN aA aE aX aL i) (own_g aN aA aE aX aL j))), .val (.int ((own_b i) ||| (own_b j))), .unset] []))
  refine own_st (fun _ k => XS.iload X32.here hx rfl (hb hby at_100) rfl k) ?_
  show own_Go p.tables e below F (T32.setTop (mkF m 102 #[.val (.int p1), .val (.int p2), .val (.ref b1), .val (.ref b17), .val (.int i), .val (.int j), .val (.ref (own_w aN aX aL (own_g aN aA aE aX aL i) (own_g aN aA aE aX aL j))), .val (.int ((own_b i) ||| (own_b j))), .unset] [(.int ((own_b i) ||| (own_b j)))]))
  refine own_st (fun _ k => XS.bipush X32.here hx rfl (hb hby at_102) k) ?_
  show own_Go p.tables e below F (T32.setTop (mkF m 104 #[.val (.int p1), .val (.int p2), .val (.ref b1), .val (.ref b17), .val (.int i), .val (.int j), .val (.ref (own_w aN aX aL (own_g aN aA aE aX aL i) (own_g aN aA aE aX aL j))), .val (.int ((own_b i) ||| (own_b j))), .unset] [(.int (7 : Int32)), (.int ((own_b i) ||| (own_b j)))]))
  by_cases hc104 : ((own_b i) ||| (own_b j)) = (7 : Int32)
  ·
    refine own_st (fun _ k => XS.icmpNo X32.here hx rfl (hb hby at_104) rfl (teq hc104).2 k) ?_
    show own_Go p.tables e below F (T32.setTop (mkF m 107 #[.val (.int p1), .val (.int p2), .val (.ref b1), .val (.ref b17), .val (.int i), .val (.int j), .val (.ref (own_w aN aX aL (own_g aN aA aE aX aL i) (own_g aN aA aE aX aL j))), .val (.int ((own_b i) ||| (own_b j))), .unset] []))
    refine own_st (fun _ k => XS.iconst X32.here hx rfl (hb hby at_107) k) ?_
    show own_Go p.tables e below F (T32.setTop (mkF m 108 #[.val (.int p1), .val (.int p2), .val (.ref b1), .val (.ref b17), .val (.int i), .val (.int j), .val (.ref (own_w aN aX aL (own_g aN aA aE aX aL i) (own_g aN aA aE aX aL j))), .val (.int ((own_b i) ||| (own_b j))), .unset] [(.int (4 : Int32))]))
    refine own_st (fun _ k => XS.goto X32.here hx rfl (pc0 := 108) (pc' := 113) rfl (hb hby at_108) (by decide) (by decide) k) ?_
    show own_Go p.tables e below F (T32.setTop (mkF m 113 #[.val (.int p1), .val (.int p2), .val (.ref b1), .val (.ref b17), .val (.int i), .val (.int j), .val (.ref (own_w aN aX aL (own_g aN aA aE aX aL i) (own_g aN aA aE aX aL j))), .val (.int ((own_b i) ||| (own_b j))), .unset] [(.int (4 : Int32))]))
    refine own_st (fun _ k => XS.istore X32.here hx rfl (hb hby at_113) rfl (l' := #[.val (.int p1), .val (.int p2), .val (.ref b1), .val (.ref b17), .val (.int i), .val (.int j), .val (.ref (own_w aN aX aL (own_g aN aA aE aX aL i) (own_g aN aA aE aX aL j))), .val (.int ((own_b i) ||| (own_b j))), .val (.int (4 : Int32))]) rfl k) ?_
    show own_Go p.tables e below F (T32.setTop (mkF m 115 #[.val (.int p1), .val (.int p2), .val (.ref b1), .val (.ref b17), .val (.int i), .val (.int j), .val (.ref (own_w aN aX aL (own_g aN aA aE aX aL i) (own_g aN aA aE aX aL j))), .val (.int ((own_b i) ||| (own_b j))), .val (.int (4 : Int32))] []))
    refine own_st (fun _ k => XS.aload X32.here hx rfl (hb hby at_115) rfl rfl k) ?_
    show own_Go p.tables e below F (T32.setTop (mkF m 117 #[.val (.int p1), .val (.int p2), .val (.ref b1), .val (.ref b17), .val (.int i), .val (.int j), .val (.ref (own_w aN aX aL (own_g aN aA aE aX aL i) (own_g aN aA aE aX aL j))), .val (.int ((own_b i) ||| (own_b j))), .val (.int (4 : Int32))] [(.ref (own_w aN aX aL (own_g aN aA aE aX aL i) (own_g aN aA aE aX aL j)))]))
    refine own_st (fun _ k => XS.aloadN X32.here hx rfl (hb hby at_117) rfl rfl k) ?_
    show own_Go p.tables e below F (T32.setTop (mkF m 118 #[.val (.int p1), .val (.int p2), .val (.ref b1), .val (.ref b17), .val (.int i), .val (.int j), .val (.ref (own_w aN aX aL (own_g aN aA aE aX aL i) (own_g aN aA aE aX aL j))), .val (.int ((own_b i) ||| (own_b j))), .val (.int (4 : Int32))] [(.ref b1), (.ref (own_w aN aX aL (own_g aN aA aE aX aL i) (own_g aN aA aE aX aL j)))]))
    refine own_st (fun _ k => XS.iload X32.here hx rfl (hb hby at_118) rfl k) ?_
    show own_Go p.tables e below F (T32.setTop (mkF m 120 #[.val (.int p1), .val (.int p2), .val (.ref b1), .val (.ref b17), .val (.int i), .val (.int j), .val (.ref (own_w aN aX aL (own_g aN aA aE aX aL i) (own_g aN aA aE aX aL j))), .val (.int ((own_b i) ||| (own_b j))), .val (.int (4 : Int32))] [(.int (4 : Int32)), (.ref b1), (.ref (own_w aN aX aL (own_g aN aA aE aX aL i) (own_g aN aA aE aX aL j)))]))
    obtain ⟨cl37, Ar37, qc37, S37, Nn37, Hh37, Gg37⟩ := id V16__27
    have hin38 : ¬ ((4 : Int32) < 0 ∨ cl37.slots.size ≤ ((4 : Int32)).toNatClampNeg) := inb_of S37 ⟨by decide, by decide⟩
    refine own_st (X32.aaload hx (j := (4 : Int32)) (v := (.ref aL)) (by rw [e32]; exact Ar37.1) (State.isArrayOf_alike hZ.alike Ar37.2.1) rfl Ar37.2.2 hin38 (Has.at Hh37 hin38 rfl) (g := (mkF m 120 #[.val (.int p1), .val (.int p2), .val (.ref b1), .val (.ref b17), .val (.int i), .val (.int j), .val (.ref (own_w aN aX aL (own_g aN aA aE aX aL i) (own_g aN aA aE aX aL j))), .val (.int ((own_b i) ||| (own_b j))), .val (.int (4 : Int32))] [(.int (4 : Int32)), (.ref b1), (.ref (own_w aN aX aL (own_g aN aA aE aX aL i) (own_g aN aA aE aX aL j)))])) rfl rfl (hb hby at_120)) ?_
    show own_Go p.tables e below F (T32.setTop (mkF m 121 #[.val (.int p1), .val (.int p2), .val (.ref b1), .val (.ref b17), .val (.int i), .val (.int j), .val (.ref (own_w aN aX aL (own_g aN aA aE aX aL i) (own_g aN aA aE aX aL j))), .val (.int ((own_b i) ||| (own_b j))), .val (.int (4 : Int32))] [(.ref aL), (.ref (own_w aN aX aL (own_g aN aA aE aX aL i) (own_g aN aA aE aX aL j)))]))
    refine own_st (fun _ k => Jvm.RoadKit.acmp (g := (mkF m 121 #[.val (.int p1), .val (.int p2), .val (.ref b1), .val (.ref b17), .val (.int i), .val (.int j), .val (.ref (own_w aN aX aL (own_g aN aA aE aX aL i) (own_g aN aA aE aX aL j))), .val (.int ((own_b i) ||| (own_b j))), .val (.int (4 : Int32))] [(.ref aL), (.ref (own_w aN aX aL (own_g aN aA aE aX aL i) (own_g aN aA aE aX aL j)))])) X32 hx rfl rfl rfl (pc0 := 121) (pc' := 124) (same := true) rfl (hb hby at_121) rfl (decide_eq_true (congrArg Value.ref (own_seven (own_five kaN.2.2 kaA.2.2 kaE.2.2 kaX.2.2 kaL.2.2) hi hj hc104))) (by decide) (by decide) k) ?_
    show own_Go p.tables e below F (T32.setTop (mkF m 124 #[.val (.int p1), .val (.int p2), .val (.ref b1), .val (.ref b17), .val (.int i), .val (.int j), .val (.ref (own_w aN aX aL (own_g aN aA aE aX aL i) (own_g aN aA aE aX aL j))), .val (.int ((own_b i) ||| (own_b j))), .val (.int (4 : Int32))] []))
    refine own_st (fun _ k => XS.iconst X32.here hx rfl (hb hby at_124) k) ?_
    show own_Go p.tables e below F (T32.setTop (mkF m 125 #[.val (.int p1), .val (.int p2), .val (.ref b1), .val (.ref b17), .val (.int i), .val (.int j), .val (.ref (own_w aN aX aL (own_g aN aA aE aX aL i) (own_g aN aA aE aX aL j))), .val (.int ((own_b i) ||| (own_b j))), .val (.int (4 : Int32))] [(.int (1 : Int32))]))
    refine own_st (fun _ k => XS.goto X32.here hx rfl (pc0 := 125) (pc' := 129) rfl (hb hby at_125) (by decide) (by decide) k) ?_
    show own_Go p.tables e below F (T32.setTop (mkF m 129 #[.val (.int p1), .val (.int p2), .val (.ref b1), .val (.ref b17), .val (.int i), .val (.int j), .val (.ref (own_w aN aX aL (own_g aN aA aE aX aL i) (own_g aN aA aE aX aL j))), .val (.int ((own_b i) ||| (own_b j))), .val (.int (4 : Int32))] [(.int (1 : Int32))]))
    obtain ⟨fs, hrL, hrun, hended, hW, hsame⟩ := X32.leave (v := some (.int (1 : Int32))) (fun h => by rw [Bd.returns] at h; cases h)
    refine own_end hF (o := .returned (some (.int (1 : Int32)))) (retN X32 hx (t := .boolean) Bd.returns (by simp) (hb hby at_129) hrL) ?_
    refine ⟨hrun, hended, _, _, rfl, ?_, ⟨_, rfl⟩, hW, hsame.mono (by decide) (by decide)⟩
    exact ⟨rfl, N32⟩
  ·
    refine own_st (fun _ k => XS.icmpYes X32.here hx rfl (pc0 := 104) (pc' := 111) rfl (hb hby at_104) rfl (feq hc104).2 (by decide) (by decide) k) ?_
    show own_Go p.tables e below F (T32.setTop (mkF m 111 #[.val (.int p1), .val (.int p2), .val (.ref b1), .val (.ref b17), .val (.int i), .val (.int j), .val (.ref (own_w aN aX aL (own_g aN aA aE aX aL i) (own_g aN aA aE aX aL j))), .val (.int ((own_b i) ||| (own_b j))), .unset] []))
    refine own_st (fun _ k => XS.iload X32.here hx rfl (hb hby at_111) rfl k) ?_
    show own_Go p.tables e below F (T32.setTop (mkF m 113 #[.val (.int p1), .val (.int p2), .val (.ref b1), .val (.ref b17), .val (.int i), .val (.int j), .val (.ref (own_w aN aX aL (own_g aN aA aE aX aL i) (own_g aN aA aE aX aL j))), .val (.int ((own_b i) ||| (own_b j))), .unset] [(.int ((own_b i) ||| (own_b j)))]))
    refine own_st (fun _ k => XS.istore X32.here hx rfl (hb hby at_113) rfl (l' := #[.val (.int p1), .val (.int p2), .val (.ref b1), .val (.ref b17), .val (.int i), .val (.int j), .val (.ref (own_w aN aX aL (own_g aN aA aE aX aL i) (own_g aN aA aE aX aL j))), .val (.int ((own_b i) ||| (own_b j))), .val (.int ((own_b i) ||| (own_b j)))]) rfl k) ?_
    show own_Go p.tables e below F (T32.setTop (mkF m 115 #[.val (.int p1), .val (.int p2), .val (.ref b1), .val (.ref b17), .val (.int i), .val (.int j), .val (.ref (own_w aN aX aL (own_g aN aA aE aX aL i) (own_g aN aA aE aX aL j))), .val (.int ((own_b i) ||| (own_b j))), .val (.int ((own_b i) ||| (own_b j)))] []))
    refine own_st (fun _ k => XS.aload X32.here hx rfl (hb hby at_115) rfl rfl k) ?_
    show own_Go p.tables e below F (T32.setTop (mkF m 117 #[.val (.int p1), .val (.int p2), .val (.ref b1), .val (.ref b17), .val (.int i), .val (.int j), .val (.ref (own_w aN aX aL (own_g aN aA aE aX aL i) (own_g aN aA aE aX aL j))), .val (.int ((own_b i) ||| (own_b j))), .val (.int ((own_b i) ||| (own_b j)))] [(.ref (own_w aN aX aL (own_g aN aA aE aX aL i) (own_g aN aA aE aX aL j)))]))
    refine own_st (fun _ k => XS.aloadN X32.here hx rfl (hb hby at_117) rfl rfl k) ?_
    show own_Go p.tables e below F (T32.setTop (mkF m 118 #[.val (.int p1), .val (.int p2), .val (.ref b1), .val (.ref b17), .val (.int i), .val (.int j), .val (.ref (own_w aN aX aL (own_g aN aA aE aX aL i) (own_g aN aA aE aX aL j))), .val (.int ((own_b i) ||| (own_b j))), .val (.int ((own_b i) ||| (own_b j)))] [(.ref b1), (.ref (own_w aN aX aL (own_g aN aA aE aX aL i) (own_g aN aA aE aX aL j)))]))
    refine own_st (fun _ k => XS.iload X32.here hx rfl (hb hby at_118) rfl k) ?_
    show own_Go p.tables e below F (T32.setTop (mkF m 120 #[.val (.int p1), .val (.int p2), .val (.ref b1), .val (.ref b17), .val (.int i), .val (.int j), .val (.ref (own_w aN aX aL (own_g aN aA aE aX aL i) (own_g aN aA aE aX aL j))), .val (.int ((own_b i) ||| (own_b j))), .val (.int ((own_b i) ||| (own_b j)))] [(.int ((own_b i) ||| (own_b j))), (.ref b1), (.ref (own_w aN aX aL (own_g aN aA aE aX aL i) (own_g aN aA aE aX aL j)))]))
    obtain ⟨cl39, Ar39, qc39, S39, Nn39, Hh39, Gg39⟩ := id V16__27
    have hin40 : ¬ (((own_b i) ||| (own_b j)) < 0 ∨ cl39.slots.size ≤ (((own_b i) ||| (own_b j))).toNatClampNeg) := inb_of S39 (own_rng (own_less hi hj hc104))
    refine own_st (X32.aaload hx (j := ((own_b i) ||| (own_b j))) (v := (.ref (own_g aN aA aE aX aL ((own_b i) ||| (own_b j))))) (by rw [e32]; exact Ar39.1) (State.isArrayOf_alike hZ.alike Ar39.2.1) rfl Ar39.2.2 hin40 (Has.at Hh39 hin40 (own_gd (own_less hi hj hc104))) (g := (mkF m 120 #[.val (.int p1), .val (.int p2), .val (.ref b1), .val (.ref b17), .val (.int i), .val (.int j), .val (.ref (own_w aN aX aL (own_g aN aA aE aX aL i) (own_g aN aA aE aX aL j))), .val (.int ((own_b i) ||| (own_b j))), .val (.int ((own_b i) ||| (own_b j)))] [(.int ((own_b i) ||| (own_b j))), (.ref b1), (.ref (own_w aN aX aL (own_g aN aA aE aX aL i) (own_g aN aA aE aX aL j)))])) rfl rfl (hb hby at_120)) ?_
    show own_Go p.tables e below F (T32.setTop (mkF m 121 #[.val (.int p1), .val (.int p2), .val (.ref b1), .val (.ref b17), .val (.int i), .val (.int j), .val (.ref (own_w aN aX aL (own_g aN aA aE aX aL i) (own_g aN aA aE aX aL j))), .val (.int ((own_b i) ||| (own_b j))), .val (.int ((own_b i) ||| (own_b j)))] [(.ref (own_g aN aA aE aX aL ((own_b i) ||| (own_b j)))), (.ref (own_w aN aX aL (own_g aN aA aE aX aL i) (own_g aN aA aE aX aL j)))]))
    refine own_st (fun _ k => Jvm.RoadKit.acmp (g := (mkF m 121 #[.val (.int p1), .val (.int p2), .val (.ref b1), .val (.ref b17), .val (.int i), .val (.int j), .val (.ref (own_w aN aX aL (own_g aN aA aE aX aL i) (own_g aN aA aE aX aL j))), .val (.int ((own_b i) ||| (own_b j))), .val (.int ((own_b i) ||| (own_b j)))] [(.ref (own_g aN aA aE aX aL ((own_b i) ||| (own_b j)))), (.ref (own_w aN aX aL (own_g aN aA aE aX aL i) (own_g aN aA aE aX aL j)))])) X32 hx rfl rfl rfl (pc0 := 121) (pc' := 124) (same := true) rfl (hb hby at_121) rfl (decide_eq_true (congrArg Value.ref (own_same (own_five kaN.2.2 kaA.2.2 kaE.2.2 kaX.2.2 kaL.2.2) hi hj hc104))) (by decide) (by decide) k) ?_
    show own_Go p.tables e below F (T32.setTop (mkF m 124 #[.val (.int p1), .val (.int p2), .val (.ref b1), .val (.ref b17), .val (.int i), .val (.int j), .val (.ref (own_w aN aX aL (own_g aN aA aE aX aL i) (own_g aN aA aE aX aL j))), .val (.int ((own_b i) ||| (own_b j))), .val (.int ((own_b i) ||| (own_b j)))] []))
    refine own_st (fun _ k => XS.iconst X32.here hx rfl (hb hby at_124) k) ?_
    show own_Go p.tables e below F (T32.setTop (mkF m 125 #[.val (.int p1), .val (.int p2), .val (.ref b1), .val (.ref b17), .val (.int i), .val (.int j), .val (.ref (own_w aN aX aL (own_g aN aA aE aX aL i) (own_g aN aA aE aX aL j))), .val (.int ((own_b i) ||| (own_b j))), .val (.int ((own_b i) ||| (own_b j)))] [(.int (1 : Int32))]))
    refine own_st (fun _ k => XS.goto X32.here hx rfl (pc0 := 125) (pc' := 129) rfl (hb hby at_125) (by decide) (by decide) k) ?_
    show own_Go p.tables e below F (T32.setTop (mkF m 129 #[.val (.int p1), .val (.int p2), .val (.ref b1), .val (.ref b17), .val (.int i), .val (.int j), .val (.ref (own_w aN aX aL (own_g aN aA aE aX aL i) (own_g aN aA aE aX aL j))), .val (.int ((own_b i) ||| (own_b j))), .val (.int ((own_b i) ||| (own_b j)))] [(.int (1 : Int32))]))
    obtain ⟨fs, hrL, hrun, hended, hW, hsame⟩ := X32.leave (v := some (.int (1 : Int32))) (fun h => by rw [Bd.returns] at h; cases h)
    refine own_end hF (o := .returned (some (.int (1 : Int32)))) (retN X32 hx (t := .boolean) Bd.returns (by simp) (hb hby at_129) hrL) ?_
    refine ⟨hrun, hended, _, _, rfl, ?_, ⟨_, rfl⟩, hW, hsame.mono (by decide) (by decide)⟩
    exact ⟨rfl, N32⟩
set_option maxRecDepth 65536 in
set_option maxHeartbeats 40000000 in
theorem comes_1 {Post : Tables → Env → Array Value → State → Outcome → State → Prop} (hpost : ∀ tb e args s v u, (limb_1_1.after args s (.returned v) u = true ∧ limb_1_2.after args s (.returned v) u = true ∧ True) → FrameEnd s (.returned v) u (Jvm.fieldLocs frame_1_writes args s ++ Jvm.arrayLocs frame_1_arrays args s ++ Jvm.staticLocs frame_1_statics s) 16 128 → Post tb e args s (.returned v) u) :
    ArmFor flags0 classFile x code maxLocals ret World_1 tables_1 room_1 Calls_1 rest_1 Pre_1 Post := by
  intro l hfl _ _ p e ha hc hk s m args below hf hA hF happ hP
  obtain ⟨hcalls, hrest, hpre⟩ := hP
  obtain ⟨-, -, -, hnamed, -, -, -, hat⟩ := (Spec.applies_iff hf).mp happ
  obtain ⟨hg, hn⟩ := and_e (Cond.before_iff.mp (show (Jvm.Cond.and given_1 narrow_1).before args s = true from hpre))
  obtain ⟨gc, gr0⟩ := and_e hg
  obtain ⟨ga0, gr1⟩ := and_e gr0
  have ga1 := gr1
  obtain ⟨w0, w1, rfl⟩ : ∃ w0 w1 : Value, args = #[w0, w1] := by
    have hs : args.size = 2 := by simpa [Cond.value, given_1] using gc
    obtain ⟨L⟩ := args
    match L, hs with
    | [w0, w1], _ => exact ⟨w0, w1, rfl⟩
  have hw := fun d (hd : d ∈ tables_1) => atoms_spec (ws := Jvm.Cond.code x code maxLocals ret :: tables_1) hat d (List.mem_cons_of_mem _ hd)
  have hfit : Fit s := fun {y c} hc i hi => by
    obtain ⟨ha, rfl⟩ := Array.getElem?_eq_some_iff.mp hc
    have q := List.all_eq_true.mp ((Array.all_eq_true_iff_forall_mem.mp hF) _ (Array.getElem_mem ha)) i (List.mem_range.mpr hi)
    simpa [Array.getElem?_eq_getElem hi] using q
  obtain ⟨i0, ei0⟩ := is_v ga0
  obtain rfl : w0 = (.int i0) := Option.some.inj ei0
  obtain ⟨i1, ei1⟩ := is_v ga1
  obtain rfl : w1 = (.int i1) := Option.some.inj ei1
  obtain ⟨xN, hn⟩ := and_e hn
  obtain ⟨xA, hn⟩ := and_e hn
  obtain ⟨xE, hn⟩ := and_e hn
  obtain ⟨xX, hn⟩ := and_e hn
  obtain ⟨xL, hn⟩ := and_e hn
  obtain ⟨oN, hn⟩ := and_e hn
  obtain ⟨oX, hn⟩ := and_e hn
  obtain ⟨oL, hn⟩ := and_e hn
  obtain ⟨oA, hn⟩ := and_e hn
  have oE := hn
  obtain ⟨aN, vN⟩ := exa_v xN
  have kaN : own_K s s.heap "NONE" aN 0 := ⟨Sta.start vN (Or.inr ⟨(hw _ (List.mem_of_getElem? (i := 3) rfl)), (hw _ (List.mem_of_getElem? (i := 4) rfl))⟩), Exa.start vN xN, own_fld vN oN⟩
  obtain ⟨aA, vA⟩ := exa_v xA
  have kaA : own_K s s.heap "ATTRIBUTES" aA 1 := ⟨Sta.start vA (Or.inr ⟨(hw _ (List.mem_of_getElem? (i := 3) rfl)), (hw _ (List.mem_of_getElem? (i := 7) rfl))⟩), Exa.start vA xA, own_fld vA oA⟩
  obtain ⟨aE, vE⟩ := exa_v xE
  have kaE : own_K s s.heap "ELEMENTS" aE 2 := ⟨Sta.start vE (Or.inr ⟨(hw _ (List.mem_of_getElem? (i := 3) rfl)), (hw _ (List.mem_of_getElem? (i := 9) rfl))⟩), Exa.start vE xE, own_fld vE oE⟩
  obtain ⟨aX, vX⟩ := exa_v xX
  have kaX : own_K s s.heap "ELEMENTS_AND_ATTRIBUTES" aX 3 := ⟨Sta.start vX (Or.inr ⟨(hw _ (List.mem_of_getElem? (i := 3) rfl)), (hw _ (List.mem_of_getElem? (i := 11) rfl))⟩), Exa.start vX xX, own_fld vX oX⟩
  obtain ⟨aL, vL⟩ := exa_v xL
  have kaL : own_K s s.heap "ALL" aL 4 := ⟨Sta.start vL (Or.inr ⟨(hw _ (List.mem_of_getElem? (i := 3) rfl)), (hw _ (List.mem_of_getElem? (i := 13) rfl))⟩), Exa.start vL xL, own_fld vL oL⟩
  obtain ⟨n, o, h1, h2, h3, _, L, rfl, ⟨rfl, N⟩, hq⟩ := (own_law l s _ hw tables_1 i0 i1 aN aA aE aX aL s.heap s.heap.size (Nat.le_refl _) kaN kaA kaE kaX kaL) p e ha hc hk s m _ below hf ((Spec.applies_iff_loose hf).mp happ).1 ⟨rfl, State.Warmed39.refl s, rfl⟩ trivial
  refine ⟨n, _, h1, h2, h3, hpost _ _ _ _ _ _ ⟨Cond.after_iff.mpr rfl, Cond.after_iff.mpr (eq_i res_at (Term.int_eval (1)) rfl), trivial⟩ ⟨hq.1, hq.2.1, (hq.2.2.sift fun y hy => Or.inr (N y hy)).mono (by decide) (by decide)⟩⟩
theorem main_1_1 : Claimed_1_1 := comes_1 fun _ _ _ _ _ _ h hF => ⟨h.1, hF⟩
theorem main_1_2 : Claimed_1_2 := comes_1 fun _ _ _ _ _ _ h hF => ⟨h.2.1, hF⟩
end Jvm.Pilot.@@N@@
namespace Jvm.Pilot.@@N@@
open Jvm Jvm.ClassFile Sem Op Lib Jvm.Free Jvm.Stand Jvm.Pilot.@@N@@.Jvm.D
/-! MADE BY PROGRAM (witnessworld.py) out of the Statement's table words and the real class files: 13 classes; the members and pool entries that the words name. The judged class is class 1, her method 1. -/
namespace start1
open Jvm.ClassFile
def u (s : String) : CpInfo := .utf8 (stringToUtf16 s)
/-- a pool by its gaps: so many unusable entries, then the entry; so many at the end -/
def gap : Nat → List CpInfo → List CpInfo
  | 0, r => r
  | n + 1, r => .unusable :: gap n r
def poolList (es : List (Nat × CpInfo)) (last : Nat) : List CpInfo := es.foldr (fun e r => gap e.1 (e.2 :: r)) (gap last [])
def pool (es : List (Nat × CpInfo)) (last : Nat) : Array CpInfo := ⟨poolList es last⟩
def fileOf (pool : Array CpInfo) (this : Nat) (attrs : Array Attribute := #[]) (ms : Array MethodInfo := #[]) (fl : Nat := 33) (sup : Nat := 0) (ifs : Array Nat := #[]) (fds : Array FieldInfo := #[]) : ClassFile where
  minorVersion := 0
  majorVersion := 65
  constantPool := pool
  accessFlags := fl
  thisClass := this
  superClass := sup
  interfaces := ifs
  fields := fds
  methods := ms
  attributes := attrs
def plain (name : String) (sup : Option ClassId) : Class where
  name := name
  kind := .ordinary
  loader := none
  accessFlags := 33
  super := sup
  interfaces := #[]
  cf := none
  fields := #[]
  methods := #[]
  instanceTypes := #[]
  staticTypes := #[]
  resolved := #[]
  callSites := []
  init := .initialized
  statics := none
  mirror := none

def pool0 : Array CpInfo := pool [(5, u "<init>"), (0, u "()V"), (1, .class_ 10), (1, u "java/lang/Object")] 113

def k0m0 : Method := { name := "<init>", desc := "()V", sig := { parameters := [], returnType := none }, accessFlags := 1, code := none }
/-- java/lang/Object -/
def k0 : Class := { plain "java/lang/Object" none with
  accessFlags := 33
  interfaces := #[]
  cf := some (fileOf pool0 8 #[] #[{ accessFlags := 1, nameIndex := 5, descriptorIndex := 6, attributes := #[] }] 33 0 #[] #[])
  fields := #[]
  methods := #[k0m0]
  instanceTypes := #[]
  staticTypes := #[]
  resolved := Array.replicate 124 none
  statics := none }

def pool1 : Array CpInfo := pool [(2, .class_ 4), (1, u "java/lang/Object"), (0, u "<init>"), (0, u "()V"), (0, .class_ 8), (0, u "com/example/barkbeetle/barkbeetle/Expr$NamesRead"), (0, .fieldref 7 10), (0, .nameAndType 11 12), (0, u "NONE"), (0, u "Lcom/example/barkbeetle/barkbeetle/Expr$NamesRead;"), (0, .fieldref 7 14), (0, .nameAndType 15 12), (0, u "ATTRIBUTES"), (0, .fieldref 7 17), (0, .nameAndType 18 12), (0, u "ELEMENTS"), (0, .fieldref 7 20), (0, .nameAndType 21 12), (0, u "ELEMENTS_AND_ATTRIBUTES"), (0, .fieldref 7 23), (0, .nameAndType 24 12), (0, u "ALL"), (0, .integer 2147483647), (0, .methodref 7 27), (0, .nameAndType 28 29), (0, u "with"), (0, u "(Lcom/example/barkbeetle/barkbeetle/Expr$NamesRead;)Lcom/example/barkbeetle/barkbeetle/Expr$NamesRead;"), (0, .class_ 31), (0, u "com/example/barkbeetle/barkbeetle/NamesReadWithPinLaw"), (2, u "law"), (0, u "(II)Z")] 11

def k1m0 : Method := { name := "<init>", desc := "()V", sig := { parameters := [], returnType := none }, accessFlags := 1, code := none }
def k1c1 : Code := { maxStack := 4, maxLocals := 9, code := code, exceptionTable := #[], attributes := #[] }
def k1m1 : Method := { name := "law", desc := "(II)Z", sig := { parameters := [.int, .int], returnType := some .boolean }, accessFlags := 9, code := some k1c1 }
/-- com/example/barkbeetle/barkbeetle/NamesReadWithPinLaw -/
def k1 : Class := { plain "com/example/barkbeetle/barkbeetle/NamesReadWithPinLaw" (some 0) with
  accessFlags := 49
  interfaces := #[]
  cf := some (fileOf pool1 30 #[] #[{ accessFlags := 1, nameIndex := 5, descriptorIndex := 6, attributes := #[] }, { accessFlags := 9, nameIndex := 34, descriptorIndex := 35, attributes := #[] }] 49 2 #[] #[])
  fields := #[]
  methods := #[k1m0, k1m1]
  instanceTypes := #[]
  staticTypes := #[]
  resolved := Array.replicate 47 none
  statics := none }

def pool2 : Array CpInfo := pool [(1, .class_ 2), (0, u "java/lang/constant/Constable"), (0, .class_ 4), (0, u "java/lang/Object")] 6

/-- java/lang/constant/Constable -/
def k2 : Class := { plain "java/lang/constant/Constable" (some 0) with
  accessFlags := 1537
  interfaces := #[]
  cf := some (fileOf pool2 1 #[] #[] 1537 3 #[] #[])
  fields := #[]
  methods := #[]
  instanceTypes := #[]
  staticTypes := #[]
  resolved := Array.replicate 11 none
  statics := none }

def pool3 : Array CpInfo := pool [(1, .class_ 2), (0, u "java/lang/Comparable"), (0, .class_ 4), (0, u "java/lang/Object")] 7

/-- java/lang/Comparable -/
def k3 : Class := { plain "java/lang/Comparable" (some 0) with
  accessFlags := 1537
  interfaces := #[]
  cf := some (fileOf pool3 1 #[] #[] 1537 3 #[] #[])
  fields := #[]
  methods := #[]
  instanceTypes := #[]
  staticTypes := #[]
  resolved := Array.replicate 12 none
  statics := none }

def pool4 : Array CpInfo := pool [(1, .class_ 2), (0, u "java/io/Serializable"), (0, .class_ 4), (0, u "java/lang/Object")] 2

/-- java/io/Serializable -/
def k4 : Class := { plain "java/io/Serializable" (some 0) with
  accessFlags := 1537
  interfaces := #[]
  cf := some (fileOf pool4 1 #[] #[] 1537 3 #[] #[])
  fields := #[]
  methods := #[]
  instanceTypes := #[]
  staticTypes := #[]
  resolved := Array.replicate 7 none
  statics := none }

def pool5 : Array CpInfo := pool [(2, .class_ 4), (1, u "java/lang/Enum"), (0, u "name"), (0, u "Ljava/lang/String;"), (2, u "ordinal"), (0, u "I"), (1, .class_ 14), (1, u "java/lang/Object"), (4, u "hash"), (86, .class_ 108), (1, u "java/lang/Enum$EnumDesc"), (2, .class_ 112), (0, u "java/lang/constant/Constable"), (0, .class_ 114), (0, u "java/lang/Comparable"), (0, .class_ 116), (0, u "java/io/Serializable")] 87

/-- java/lang/Enum -/
def k5 : Class := { plain "java/lang/Enum" (some 0) with
  accessFlags := 1057
  interfaces := #[2, 3, 4]
  cf := some (fileOf pool5 2 #[.nestMembers #[106]] #[] 1057 12 #[111, 113, 115] #[{ accessFlags := 18, nameIndex := 5, descriptorIndex := 6, attributes := #[] }, { accessFlags := 18, nameIndex := 9, descriptorIndex := 10, attributes := #[] }, { accessFlags := 2, nameIndex := 19, descriptorIndex := 10, attributes := #[] }])
  fields := #[{ name := "name", type := (.object "java/lang/String"), accessFlags := 18, slot := 0, constantValue := 0 }, { name := "ordinal", type := .int, accessFlags := 18, slot := 1, constantValue := 0 }, { name := "hash", type := .int, accessFlags := 2, slot := 2, constantValue := 0 }]
  methods := #[]
  instanceTypes := #[(.object "java/lang/String"), .int, .int]
  staticTypes := #[]
  resolved := Array.replicate 204 none
  statics := none }

def pool6 : Array CpInfo := pool [(1, .class_ 2), (0, u "com/example/barkbeetle/barkbeetle/Expr$NamesRead"), (0, .fieldref 1 4), (0, .nameAndType 5 6), (0, u "NONE"), (0, u "Lcom/example/barkbeetle/barkbeetle/Expr$NamesRead;"), (2, u "ATTRIBUTES"), (2, u "ELEMENTS"), (0, .fieldref 1 14), (0, .nameAndType 15 6), (0, u "ELEMENTS_AND_ATTRIBUTES"), (0, .fieldref 1 17), (0, .nameAndType 18 6), (0, u "ALL"), (2, u "$VALUES"), (0, u "[Lcom/example/barkbeetle/barkbeetle/Expr$NamesRead;"), (6, .class_ 31), (1, u "java/lang/Enum"), (23, u "with"), (0, u "(Lcom/example/barkbeetle/barkbeetle/Expr$NamesRead;)Lcom/example/barkbeetle/barkbeetle/Expr$NamesRead;"), (8, .class_ 66), (0, u "com/example/barkbeetle/barkbeetle/Expr")] 2

def k6c0 : Code := { maxStack := 2, maxLocals := 3, code := prog_137_method_4_code, exceptionTable := #[], attributes := #[] }
def k6m0 : Method := { name := "with", desc := "(Lcom/example/barkbeetle/barkbeetle/Expr$NamesRead;)Lcom/example/barkbeetle/barkbeetle/Expr$NamesRead;", sig := { parameters := [(.object "com/example/barkbeetle/barkbeetle/Expr$NamesRead")], returnType := some (.object "com/example/barkbeetle/barkbeetle/Expr$NamesRead") }, accessFlags := 0, code := some k6c0 }
/-- com/example/barkbeetle/barkbeetle/Expr$NamesRead -/
def k6 : Class := { plain "com/example/barkbeetle/barkbeetle/Expr$NamesRead" (some 5) with
  accessFlags := 16433
  interfaces := #[]
  cf := some (fileOf pool6 1 #[.nestHost 65] #[{ accessFlags := 0, nameIndex := 55, descriptorIndex := 56, attributes := #[] }] 16433 29 #[] #[{ accessFlags := 16409, nameIndex := 5, descriptorIndex := 6, attributes := #[] }, { accessFlags := 16409, nameIndex := 9, descriptorIndex := 6, attributes := #[] }, { accessFlags := 16409, nameIndex := 12, descriptorIndex := 6, attributes := #[] }, { accessFlags := 16409, nameIndex := 15, descriptorIndex := 6, attributes := #[] }, { accessFlags := 16409, nameIndex := 18, descriptorIndex := 6, attributes := #[] }, { accessFlags := 4122, nameIndex := 21, descriptorIndex := 22, attributes := #[] }])
  fields := #[{ name := "NONE", type := (.object "com/example/barkbeetle/barkbeetle/Expr$NamesRead"), accessFlags := 16409, slot := 0, constantValue := 0 }, { name := "ATTRIBUTES", type := (.object "com/example/barkbeetle/barkbeetle/Expr$NamesRead"), accessFlags := 16409, slot := 1, constantValue := 0 }, { name := "ELEMENTS", type := (.object "com/example/barkbeetle/barkbeetle/Expr$NamesRead"), accessFlags := 16409, slot := 2, constantValue := 0 }, { name := "ELEMENTS_AND_ATTRIBUTES", type := (.object "com/example/barkbeetle/barkbeetle/Expr$NamesRead"), accessFlags := 16409, slot := 3, constantValue := 0 }, { name := "ALL", type := (.object "com/example/barkbeetle/barkbeetle/Expr$NamesRead"), accessFlags := 16409, slot := 4, constantValue := 0 }, { name := "$VALUES", type := (.array (.object "com/example/barkbeetle/barkbeetle/Expr$NamesRead")), accessFlags := 4122, slot := 5, constantValue := 0 }]
  methods := #[k6m0]
  instanceTypes := #[(.object "java/lang/String"), .int, .int]
  staticTypes := #[(.object "com/example/barkbeetle/barkbeetle/Expr$NamesRead"), (.object "com/example/barkbeetle/barkbeetle/Expr$NamesRead"), (.object "com/example/barkbeetle/barkbeetle/Expr$NamesRead"), (.object "com/example/barkbeetle/barkbeetle/Expr$NamesRead"), (.object "com/example/barkbeetle/barkbeetle/Expr$NamesRead"), (.array (.object "com/example/barkbeetle/barkbeetle/Expr$NamesRead"))]
  resolved := Array.replicate 69 none
  statics := some 0 }

def pool7 : Array CpInfo := pool [(1, u "java/lang/Cloneable"), (0, .class_ 1), (0, u "java/lang/Object"), (0, .class_ 3)] 3

/-- java/lang/Cloneable -/
def k7 : Class := { plain "java/lang/Cloneable" (some 0) with
  accessFlags := 1537
  interfaces := #[]
  cf := some (fileOf pool7 2 #[] #[] 1537 4 #[] #[])
  fields := #[]
  methods := #[]
  instanceTypes := #[]
  staticTypes := #[]
  resolved := Array.replicate 8 none
  statics := none }

/-- the primitive byte -/
def k8 : Class := { plain "byte" none with kind := .primitive 'B', accessFlags := 0x411 }
/-- [B -/
def k9 : Class := { plain "[B" (some 0) with kind := .array 8 .byte, interfaces := #[7, 4], accessFlags := 1041 }

/-- the primitive int -/
def k10 : Class := { plain "int" none with kind := .primitive 'I', accessFlags := 0x411 }
/-- [I -/
def k11 : Class := { plain "[I" (some 0) with kind := .array 10 .int, interfaces := #[7, 4], accessFlags := 1041 }

/-- [Lcom/example/barkbeetle/barkbeetle/Expr$NamesRead; -/
def k12 : Class := { plain "[Lcom/example/barkbeetle/barkbeetle/Expr$NamesRead;" (some 0) with kind := .array 6 (.object "com/example/barkbeetle/barkbeetle/Expr$NamesRead"), interfaces := #[7, 4], accessFlags := 1041 }

def heap : Heap := #[{ cls := 6, slots := #[.ref 1, .ref 2, .ref 3, .ref 4, .ref 5, .null], vm := .statics 6 },
  { cls := 6, slots := #[.null, .int 0, .int 0], vm := .none },
  { cls := 6, slots := #[.null, .int 1, .int 0], vm := .none },
  { cls := 6, slots := #[.null, .int 2, .int 0], vm := .none },
  { cls := 6, slots := #[.null, .int 3, .int 0], vm := .none },
  { cls := 6, slots := #[.null, .int 4, .int 0], vm := .none }]
def classes : Array Class := #[k0, k1, k2, k3, k4, k5, k6, k7, k8, k9, k10, k11, k12]
def interned : List (Array UInt16 × Addr) := []
def slotsUsed : Nat := 21
def theMethod : MethodId := ⟨1, 1⟩
def args0 : Array Value := #[.int 5, .int 7]
def aboutOver (below : List Frame) : State where
  vm := { classes := classes, interned := interned.toArray }
  heap := heap
  slotsUsed := slotsUsed
  threads := #[{ frames := .invoking theMethod args0 :: below }]
def below0 : List Frame := [.native { method := ⟨0, 0⟩, args := #[] }]
def about1 : State := aboutOver below0
def p0 : Program := .bare "" "" ""
def e0 : Env := launch0.env 0 0 0
theorem w_frames : about1.frames = Frame.invoking theMethod args0 :: below0 := rfl
set_option maxRecDepth 65536 in
theorem w_args : argsFit about1.vm theMethod args0 = true := by decide +kernel
set_option maxRecDepth 65536 in
theorem w_heap : heapFits about1 = true := by decide +kernel
set_option maxRecDepth 65536 in
theorem w_runnable : about1.curStatus? = some .runnable := by decide +kernel
set_option maxRecDepth 65536 in
theorem w_alone : about1.alone = true := by decide +kernel
set_option maxRecDepth 65536 in
theorem w_named : about1.methodNamed? x = some theMethod := by decide +kernel
set_option maxRecDepth 65536 in
theorem w_hears : about1.hears theMethod below0 = true := by decide +kernel
set_option maxRecDepth 65536 in
theorem w_ripe : about1.ripe theMethod args0 below0 = true := by decide +kernel
theorem w_running : about1.status = .running := rfl
set_option maxRecDepth 65536 in
theorem w_room : about1.hasRoom e0.platform room_1 = true :=
  launch0.hasRoom_least _ room_1 (by decide +kernel) (by decide +kernel) (by decide +kernel) (by decide +kernel) (by decide +kernel) (by decide +kernel)
theorem allAtoms_all (ts : List Jvm.Cond) (a : Array Jvm.Value) (st : Jvm.State) : (allAtoms ts).before a st = ts.all (fun c => c.before a st) := by
  induction ts with
  | nil => rfl
  | cons c t ih =>
    show (Jvm.Cond.and c (allAtoms t)).before a st = _
    rw [Jvm.Cond.before_and, ih, List.all_cons]
def words1 : List Jvm.Cond := Jvm.Cond.code x code maxLocals ret :: tables_1
/-- a 'code' word, met by the world's own term for the bytes: nothing is compared byte by byte -/
theorem code_word {y : MethodName} {bytes : ByteArray} {mx : Nat} {rt : Option FieldType} {a : Array Value} {s : State} {m : MethodId} {meth : Method} {c : Code} (h1 : s.methodNamed? y = some m) (h2 : s.vm.method? m = some meth) (h3 : meth.code = some c) (h4 : c.code = bytes)
    (h5 : (c.maxLocals == mx && c.exceptionTable.isEmpty && decide (c.maxStack ≤ mostOperands) && decide (meth.sig.returnType = rt) && !meth.locks && decide (parseMethodDescriptor y.desc = some meth.sig)) = true) : (Jvm.Cond.code y bytes mx rt).before a s = true := by
  simp only [Bool.and_eq_true, beq_iff_eq, Bool.not_eq_true', decide_eq_true_eq] at h5
  obtain ⟨⟨⟨⟨⟨g1, g2⟩, g3⟩, g4⟩, g5⟩, g6⟩ := h5
  simp [Cond.before, Cond.holds, Cond.value, h1, h2, h3, h4, g1, g2, g3, g4, g5, g6]
def isCode : Jvm.Cond → Bool
  | .code _ _ _ _ => true
  | _ => false
theorem all_split {L : List Jvm.Cond} {P : Jvm.Cond → Bool} (h1 : L.all (fun c => isCode c || P c) = true) (h2 : ∀ c ∈ L.filter isCode, P c = true) : L.all P = true := by
  refine List.all_eq_true.mpr fun c hc => ?_
  have h := List.all_eq_true.mp h1 c hc
  rcases Bool.eq_false_or_eq_true (isCode c) with hi | hi
  · exact h2 c (List.mem_filter.mpr ⟨hc, hi⟩)
  · simpa [hi] using h
set_option maxRecDepth 65536 in
theorem w_c0 : (Jvm.Cond.code x code maxLocals ret).before args0 about1 = true := code_word (m := ⟨1, 1⟩) (meth := k1m1) (c := k1c1) (by decide +kernel) rfl rfl rfl (by decide +kernel)
set_option maxRecDepth 65536 in
theorem w_c1 : (Jvm.Cond.code ({ cls := "com/example/barkbeetle/barkbeetle/Expr$NamesRead", name := "with", desc := "(Lcom/example/barkbeetle/barkbeetle/Expr$NamesRead;)Lcom/example/barkbeetle/barkbeetle/Expr$NamesRead;" } : Jvm.MethodName) prog_137_method_4_code (3 : Nat) (Option.some (Jvm.ClassFile.FieldType.object "com/example/barkbeetle/barkbeetle/Expr$NamesRead"))).before args0 about1 = true := code_word (m := ⟨6, 0⟩) (meth := k6m0) (c := k6c0) (by decide +kernel) rfl rfl rfl (by decide +kernel)
def codes1 : List Jvm.Cond := [Jvm.Cond.code x code maxLocals ret, Jvm.Cond.code ({ cls := "com/example/barkbeetle/barkbeetle/Expr$NamesRead", name := "with", desc := "(Lcom/example/barkbeetle/barkbeetle/Expr$NamesRead;)Lcom/example/barkbeetle/barkbeetle/Expr$NamesRead;" } : Jvm.MethodName) prog_137_method_4_code (3 : Nat) (Option.some (Jvm.ClassFile.FieldType.object "com/example/barkbeetle/barkbeetle/Expr$NamesRead"))]
set_option maxRecDepth 65536 in
theorem codes_eq : words1.filter isCode = codes1 := rfl
theorem w_codes : ∀ c ∈ words1.filter isCode, c.before args0 about1 = true := by
  rw [codes_eq]
  intro c hc
  simp only [codes1, List.mem_cons, List.not_mem_nil, or_false] at hc
  rcases hc with rfl | rfl
  · exact w_c0
  · exact w_c1
set_option maxRecDepth 65536 in
theorem w_t1 : (words1.take 24).all (fun c => isCode c || c.before args0 about1) = true := by decide +kernel
set_option maxRecDepth 65536 in
theorem w_t2 : (words1.drop 24).all (fun c => isCode c || c.before args0 about1) = true := by decide +kernel
theorem w_tables : (allAtoms (Jvm.Cond.code x code maxLocals ret :: tables_1)).before args0 about1 = true := by
  rw [allAtoms_all]
  show words1.all (fun c => c.before args0 about1) = true
  refine all_split ?_ w_codes
  rw [← List.take_append_drop 24 words1, List.all_append, w_t1, w_t2]
  rfl
set_option maxRecDepth 65536 in
theorem w_case : (Jvm.Cond.and given_1 narrow_1).before args0 about1 = true := by decide +kernel
theorem w_applies : (headSpec (Jvm.Cond.code x code maxLocals ret :: tables_1) room_1).applies x e0.platform about1 = true :=
  (Spec.applies_iff w_frames).mpr ⟨w_running, w_runnable, w_alone, w_named, w_hears, w_ripe, w_room, w_tables⟩
theorem atStart : AtStart classFile x code maxLocals ret World_1 tables_1 room_1 Calls_1 rest_1 Pre_1 launch0 p0 e0 about1 theMethod args0 below0 :=
  ⟨lists_1, trivial, launch0.admits_env _ _ _, launch0.least_env, fairChoices_fair.cas, fairChoices_fair.clock, w_frames, w_args, w_heap, w_applies, trivial, trivial, w_case⟩
end start1
theorem witness_1 : WitnessClaimed_1 := ⟨start1.p0, start1.e0, start1.about1, start1.theMethod, start1.args0, start1.below0, start1.atStart⟩
end Jvm.Pilot.@@N@@
